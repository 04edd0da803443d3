import PyProof.Rows.All
import Wide.All
import OpenK.AllK
import Wide.FinOn
import Lean
import PySem.Challenge.RW_wr0046_01
set_option Elab.async false
set_option maxRecDepth 100000
set_option maxHeartbeats 0
section
open PySem PySem.W PyProof.Rows PySem.Spec PySem.Calls
set_option linter.all false
namespace Mine
noncomputable section
abbrev pw : Program := PySem.Challenge.rw_wr0046_01.prog
def stAt (k : Nat) : Stmt := (pw.main.body[k]?).getD (Stmt.Pass ⟨0, 0, 0, 0⟩)
def mets : Stmt → List Stmt | .ClassDef _ _ _ b _ _ _ _ _ _ _ => b | _ => []
def mtAt (k j : Nat) : Stmt := ((mets (stAt k))[j]?).getD (Stmt.Pass ⟨0, 0, 0, 0⟩)
def fnA : Stmt → Arguments | .FunctionDef _ a _ _ _ _ _ _ _ _ => a | _ => ⟨[], [], none, [], [], none, []⟩
def fnB : Stmt → List Stmt | .FunctionDef _ _ b _ _ _ _ _ _ _ => b | _ => []
def fnS : Stmt → Scope | .FunctionDef _ _ _ _ _ _ s _ _ _ => s | _ => ⟨.module, [], false, false, []⟩
@[reducible] noncomputable def bA0 : Arguments := by
  refine (⟨?b, ?h⟩ : {b : Arguments // b = fnA (stAt 0)}).1
  case h => conv => rhs; whnf
@[reducible] noncomputable def bB0 : List Stmt := by
  refine (⟨?b, ?h⟩ : {b : List Stmt // b = fnB (stAt 0)}).1
  case h => conv => rhs; whnf
@[reducible] noncomputable def bS0 : Scope := by
  refine (⟨?b, ?h⟩ : {b : Scope // b = fnS (stAt 0)}).1
  case h => conv => rhs; whnf
@[reducible] noncomputable def bA2 : Arguments := by
  refine (⟨?b, ?h⟩ : {b : Arguments // b = fnA (stAt 2)}).1
  case h => conv => rhs; whnf
@[reducible] noncomputable def bB2 : List Stmt := by
  refine (⟨?b, ?h⟩ : {b : List Stmt // b = fnB (stAt 2)}).1
  case h => conv => rhs; whnf
@[reducible] noncomputable def bS2 : Scope := by
  refine (⟨?b, ?h⟩ : {b : Scope // b = fnS (stAt 2)}).1
  case h => conv => rhs; whnf
@[reducible] noncomputable def bA3 : Arguments := by
  refine (⟨?b, ?h⟩ : {b : Arguments // b = fnA (stAt 3)}).1
  case h => conv => rhs; whnf
@[reducible] noncomputable def bB3 : List Stmt := by
  refine (⟨?b, ?h⟩ : {b : List Stmt // b = fnB (stAt 3)}).1
  case h => conv => rhs; whnf
@[reducible] noncomputable def bS3 : Scope := by
  refine (⟨?b, ?h⟩ : {b : Scope // b = fnS (stAt 3)}).1
  case h => conv => rhs; whnf
@[reducible] noncomputable def bA4 : Arguments := by
  refine (⟨?b, ?h⟩ : {b : Arguments // b = fnA (stAt 4)}).1
  case h => conv => rhs; whnf
@[reducible] noncomputable def bB4 : List Stmt := by
  refine (⟨?b, ?h⟩ : {b : List Stmt // b = fnB (stAt 4)}).1
  case h => conv => rhs; whnf
@[reducible] noncomputable def bS4 : Scope := by
  refine (⟨?b, ?h⟩ : {b : Scope // b = fnS (stAt 4)}).1
  case h => conv => rhs; whnf
@[reducible] noncomputable def bA5 : Arguments := by
  refine (⟨?b, ?h⟩ : {b : Arguments // b = fnA (stAt 5)}).1
  case h => conv => rhs; whnf
@[reducible] noncomputable def bB5 : List Stmt := by
  refine (⟨?b, ?h⟩ : {b : List Stmt // b = fnB (stAt 5)}).1
  case h => conv => rhs; whnf
@[reducible] noncomputable def bS5 : Scope := by
  refine (⟨?b, ?h⟩ : {b : Scope // b = fnS (stAt 5)}).1
  case h => conv => rhs; whnf
@[reducible] noncomputable def bA6 : Arguments := by
  refine (⟨?b, ?h⟩ : {b : Arguments // b = fnA (stAt 6)}).1
  case h => conv => rhs; whnf
@[reducible] noncomputable def bB6 : List Stmt := by
  refine (⟨?b, ?h⟩ : {b : List Stmt // b = fnB (stAt 6)}).1
  case h => conv => rhs; whnf
@[reducible] noncomputable def bS6 : Scope := by
  refine (⟨?b, ?h⟩ : {b : Scope // b = fnS (stAt 6)}).1
  case h => conv => rhs; whnf
@[reducible] noncomputable def bA9 : Arguments := by
  refine (⟨?b, ?h⟩ : {b : Arguments // b = fnA (stAt 9)}).1
  case h => conv => rhs; whnf
@[reducible] noncomputable def bB9 : List Stmt := by
  refine (⟨?b, ?h⟩ : {b : List Stmt // b = fnB (stAt 9)}).1
  case h => conv => rhs; whnf
@[reducible] noncomputable def bS9 : Scope := by
  refine (⟨?b, ?h⟩ : {b : Scope // b = fnS (stAt 9)}).1
  case h => conv => rhs; whnf
@[reducible] noncomputable def bA12_0 : Arguments := by
  refine (⟨?b, ?h⟩ : {b : Arguments // b = fnA (mtAt 12 0)}).1
  case h => conv => rhs; whnf
@[reducible] noncomputable def bB12_0 : List Stmt := by
  refine (⟨?b, ?h⟩ : {b : List Stmt // b = fnB (mtAt 12 0)}).1
  case h => conv => rhs; whnf
@[reducible] noncomputable def bS12_0 : Scope := by
  refine (⟨?b, ?h⟩ : {b : Scope // b = fnS (mtAt 12 0)}).1
  case h => conv => rhs; whnf
@[reducible] noncomputable def bA12_1 : Arguments := by
  refine (⟨?b, ?h⟩ : {b : Arguments // b = fnA (mtAt 12 1)}).1
  case h => conv => rhs; whnf
@[reducible] noncomputable def bB12_1 : List Stmt := by
  refine (⟨?b, ?h⟩ : {b : List Stmt // b = fnB (mtAt 12 1)}).1
  case h => conv => rhs; whnf
@[reducible] noncomputable def bS12_1 : Scope := by
  refine (⟨?b, ?h⟩ : {b : Scope // b = fnS (mtAt 12 1)}).1
  case h => conv => rhs; whnf
@[reducible] noncomputable def bA12_2 : Arguments := by
  refine (⟨?b, ?h⟩ : {b : Arguments // b = fnA (mtAt 12 2)}).1
  case h => conv => rhs; whnf
@[reducible] noncomputable def bB12_2 : List Stmt := by
  refine (⟨?b, ?h⟩ : {b : List Stmt // b = fnB (mtAt 12 2)}).1
  case h => conv => rhs; whnf
@[reducible] noncomputable def bS12_2 : Scope := by
  refine (⟨?b, ?h⟩ : {b : Scope // b = fnS (mtAt 12 2)}).1
  case h => conv => rhs; whnf
@[reducible] noncomputable def bA12_3 : Arguments := by
  refine (⟨?b, ?h⟩ : {b : Arguments // b = fnA (mtAt 12 3)}).1
  case h => conv => rhs; whnf
@[reducible] noncomputable def bB12_3 : List Stmt := by
  refine (⟨?b, ?h⟩ : {b : List Stmt // b = fnB (mtAt 12 3)}).1
  case h => conv => rhs; whnf
@[reducible] noncomputable def bS12_3 : Scope := by
  refine (⟨?b, ?h⟩ : {b : Scope // b = fnS (mtAt 12 3)}).1
  case h => conv => rhs; whnf
@[reducible] noncomputable def bA12_4 : Arguments := by
  refine (⟨?b, ?h⟩ : {b : Arguments // b = fnA (mtAt 12 4)}).1
  case h => conv => rhs; whnf
@[reducible] noncomputable def bB12_4 : List Stmt := by
  refine (⟨?b, ?h⟩ : {b : List Stmt // b = fnB (mtAt 12 4)}).1
  case h => conv => rhs; whnf
@[reducible] noncomputable def bS12_4 : Scope := by
  refine (⟨?b, ?h⟩ : {b : Scope // b = fnS (mtAt 12 4)}).1
  case h => conv => rhs; whnf
@[reducible] noncomputable def bA12_5 : Arguments := by
  refine (⟨?b, ?h⟩ : {b : Arguments // b = fnA (mtAt 12 5)}).1
  case h => conv => rhs; whnf
@[reducible] noncomputable def bB12_5 : List Stmt := by
  refine (⟨?b, ?h⟩ : {b : List Stmt // b = fnB (mtAt 12 5)}).1
  case h => conv => rhs; whnf
@[reducible] noncomputable def bS12_5 : Scope := by
  refine (⟨?b, ?h⟩ : {b : Scope // b = fnS (mtAt 12 5)}).1
  case h => conv => rhs; whnf
@[reducible] noncomputable def bA12_6 : Arguments := by
  refine (⟨?b, ?h⟩ : {b : Arguments // b = fnA (mtAt 12 6)}).1
  case h => conv => rhs; whnf
@[reducible] noncomputable def bB12_6 : List Stmt := by
  refine (⟨?b, ?h⟩ : {b : List Stmt // b = fnB (mtAt 12 6)}).1
  case h => conv => rhs; whnf
@[reducible] noncomputable def bS12_6 : Scope := by
  refine (⟨?b, ?h⟩ : {b : Scope // b = fnS (mtAt 12 6)}).1
  case h => conv => rhs; whnf
@[reducible] noncomputable def bA12_7 : Arguments := by
  refine (⟨?b, ?h⟩ : {b : Arguments // b = fnA (mtAt 12 7)}).1
  case h => conv => rhs; whnf
@[reducible] noncomputable def bB12_7 : List Stmt := by
  refine (⟨?b, ?h⟩ : {b : List Stmt // b = fnB (mtAt 12 7)}).1
  case h => conv => rhs; whnf
@[reducible] noncomputable def bS12_7 : Scope := by
  refine (⟨?b, ?h⟩ : {b : Scope // b = fnS (mtAt 12 7)}).1
  case h => conv => rhs; whnf
@[reducible] noncomputable def bA12_8 : Arguments := by
  refine (⟨?b, ?h⟩ : {b : Arguments // b = fnA (mtAt 12 8)}).1
  case h => conv => rhs; whnf
@[reducible] noncomputable def bB12_8 : List Stmt := by
  refine (⟨?b, ?h⟩ : {b : List Stmt // b = fnB (mtAt 12 8)}).1
  case h => conv => rhs; whnf
@[reducible] noncomputable def bS12_8 : Scope := by
  refine (⟨?b, ?h⟩ : {b : Scope // b = fnS (mtAt 12 8)}).1
  case h => conv => rhs; whnf
@[reducible] noncomputable def bA15 : Arguments := by
  refine (⟨?b, ?h⟩ : {b : Arguments // b = fnA (stAt 15)}).1
  case h => conv => rhs; whnf
@[reducible] noncomputable def bB15 : List Stmt := by
  refine (⟨?b, ?h⟩ : {b : List Stmt // b = fnB (stAt 15)}).1
  case h => conv => rhs; whnf
@[reducible] noncomputable def bS15 : Scope := by
  refine (⟨?b, ?h⟩ : {b : Scope // b = fnS (stAt 15)}).1
  case h => conv => rhs; whnf
@[reducible] noncomputable def bA17 : Arguments := by
  refine (⟨?b, ?h⟩ : {b : Arguments // b = fnA (stAt 17)}).1
  case h => conv => rhs; whnf
@[reducible] noncomputable def bB17 : List Stmt := by
  refine (⟨?b, ?h⟩ : {b : List Stmt // b = fnB (stAt 17)}).1
  case h => conv => rhs; whnf
@[reducible] noncomputable def bS17 : Scope := by
  refine (⟨?b, ?h⟩ : {b : Scope // b = fnS (stAt 17)}).1
  case h => conv => rhs; whnf
@[reducible] noncomputable def bA19 : Arguments := by
  refine (⟨?b, ?h⟩ : {b : Arguments // b = fnA (stAt 19)}).1
  case h => conv => rhs; whnf
@[reducible] noncomputable def bB19 : List Stmt := by
  refine (⟨?b, ?h⟩ : {b : List Stmt // b = fnB (stAt 19)}).1
  case h => conv => rhs; whnf
@[reducible] noncomputable def bS19 : Scope := by
  refine (⟨?b, ?h⟩ : {b : Scope // b = fnS (stAt 19)}).1
  case h => conv => rhs; whnf
@[reducible] noncomputable def bA20 : Arguments := by
  refine (⟨?b, ?h⟩ : {b : Arguments // b = fnA (stAt 20)}).1
  case h => conv => rhs; whnf
@[reducible] noncomputable def bB20 : List Stmt := by
  refine (⟨?b, ?h⟩ : {b : List Stmt // b = fnB (stAt 20)}).1
  case h => conv => rhs; whnf
@[reducible] noncomputable def bS20 : Scope := by
  refine (⟨?b, ?h⟩ : {b : Scope // b = fnS (stAt 20)}).1
  case h => conv => rhs; whnf
@[reducible] noncomputable def bA21 : Arguments := by
  refine (⟨?b, ?h⟩ : {b : Arguments // b = fnA (stAt 21)}).1
  case h => conv => rhs; whnf
@[reducible] noncomputable def bB21 : List Stmt := by
  refine (⟨?b, ?h⟩ : {b : List Stmt // b = fnB (stAt 21)}).1
  case h => conv => rhs; whnf
@[reducible] noncomputable def bS21 : Scope := by
  refine (⟨?b, ?h⟩ : {b : Scope // b = fnS (stAt 21)}).1
  case h => conv => rhs; whnf
noncomputable def o11A (P : Params) : Obj := ⟨(.type "tuple"), none, (.seq #[] 0), #[]⟩
noncomputable def o12A (P : Params) : Obj := ⟨.none, none, (.fields #[]), #[]⟩
noncomputable def o13A (P : Params) : Obj := ⟨(.type "code"), none, (.fields #[(.str (Str.ofString "<module>") 182), (.str (Str.ofString "<module>") 183), (.str (Str.ofString "/claim/cut.py") 184), (.int (1) 0), (.int (0) 0), (.int (0) 0), (.int (0) 0), (.int (0) 0), (.ref 11), (.bool false), (.int (181) 0), (.ref 12), .none, .none, .none, .none, (.int (185) 0), (.int (1) 0), (.str (Str.ofString "/claim/cut.py") 186)]), #[]⟩
noncomputable def o14A (P : Params) : Obj := ⟨(.type "frame"), none, .plain, #[(some (.ref 13)), (some (.ref 3)), (some (.ref 3)), none, (some (.str (Str.ofString "__main__") 164)), none, (some (.ref 0))]⟩
noncomputable def treeA (P : Params) : BT :=
  (.node (boot_o_0 P) (.node (boot_o_1 P) (.node (boot_o_3 P) (.node (boot_o_7 P) .nil .nil) (.node (o11A P) .nil .nil)) (.node (boot_o_5 P) (.node (boot_o_9 P) .nil .nil) (.node (o13A P) .nil .nil))) (.node (boot_o_2 P) (.node (boot_o_4 P) (.node (boot_o_8 P) .nil .nil) (.node (o12A P) .nil .nil)) (.node (boot_o_6 P) (.node (boot_o_10 P) .nil .nil) (.node (o14A P) .nil .nil))))
noncomputable def posA : Pos := ⟨0, 0, 0, 0⟩
noncomputable def o3B (P : Params) : Obj := ⟨(.type "dict"), none, (.dict #[⟨PyData.keyHash P (Str.ofString "__name__"), (.str (Str.ofString "__name__") 165), (.str (Str.ofString "cpy313.email.header") 252)⟩, ⟨PyData.keyHash P (Str.ofString "__doc__"), (.str (Str.ofString "__doc__") 166), .none⟩, ⟨PyData.keyHash P (Str.ofString "__package__"), (.str (Str.ofString "__package__") 167), .none⟩, ⟨PyData.keyHash P (Str.ofString "__loader__"), (.str (Str.ofString "__loader__") 168), (.builtin "__main__.__loader__#opaque")⟩, ⟨PyData.keyHash P (Str.ofString "__spec__"), (.str (Str.ofString "__spec__") 169), .none⟩, ⟨PyData.keyHash P (Str.ofString "__annotations__"), (.str (Str.ofString "__annotations__") 170), (.ref 6)⟩, ⟨PyData.keyHash P (Str.ofString "__builtins__"), (.str (Str.ofString "__builtins__") 171), (.ref 4)⟩, ⟨PyData.keyHash P (Str.ofString "__file__"), (.str (Str.ofString "__file__") 173), (.str (Str.ofString "/claim/cut.py") 172)⟩, ⟨PyData.keyHash P (Str.ofString "__cached__"), (.str (Str.ofString "__cached__") 174), .none⟩, ⟨PyData.keyHash P (Str.ofString "_wall"), (.str (Str.ofString "_wall") 193), (.ref 21)⟩, ⟨PyData.keyHash P (Str.ofString "and_"), (.str (Str.ofString "and_") 203), (.ref 28)⟩, ⟨PyData.keyHash P (Str.ofString "lshift"), (.str (Str.ofString "lshift") 211), (.ref 35)⟩, ⟨PyData.keyHash P (Str.ofString "or_"), (.str (Str.ofString "or_") 219), (.ref 42)⟩, ⟨PyData.keyHash P (Str.ofString "rshift"), (.str (Str.ofString "rshift") 227), (.ref 49)⟩, ⟨PyData.keyHash P (Str.ofString "xor"), (.str (Str.ofString "xor") 235), (.ref 56)⟩, ⟨PyData.keyHash P (Str.ofString "ELLIPSIS_MARKER"), (.str (Str.ofString "ELLIPSIS_MARKER") 239), (.str (Str.ofString "...") 238)⟩, ⟨PyData.keyHash P (Str.ofString "_ellipsis_match"), (.str (Str.ofString "_ellipsis_match") 251), (.ref 63)⟩, ⟨PyData.keyHash P (Str.ofString "EMPTYSTRING"), (.str (Str.ofString "EMPTYSTRING") 255), (.str (Str.ofString "") 254)⟩] 18), #[]⟩
noncomputable def o12B (P : Params) : Obj := ⟨.none, none, (.fields #[(.int (1) 0), (.int (0) 0), (.ref 20), (.int (5) 0), (.int (0) 0), (.ref 27), (.int (7) 0), (.int (0) 0), (.ref 34), (.int (9) 0), (.int (0) 0), (.ref 41), (.int (11) 0), (.int (0) 0), (.ref 48), (.int (13) 0), (.int (0) 0), (.ref 55), (.int (17) 0), (.int (0) 0), (.ref 62)]), #[]⟩
noncomputable def o15B (P : Params) : Obj := ⟨(.type "tuple"), none, (.seq #[] 0), #[]⟩
noncomputable def o16B (P : Params) : Obj := ⟨.none, none, (.fields #[]), #[]⟩
noncomputable def o17B (P : Params) : Obj := ⟨(.type "tuple"), none, (.seq #[(.str (Str.ofString "k") 190)] 0), #[]⟩
noncomputable def o18B (P : Params) : Obj := ⟨(.type "tuple"), none, (.seq #[] 0), #[]⟩
noncomputable def o19B (P : Params) : Obj := ⟨.none, none, (.func ⟨(Str.ofString "_wall"), (Str.ofString "_wall"), bA0, .stmts bB0, bS0, 0, [], .none, .none, .none, .none, none, .none, .none, 0⟩), #[]⟩
noncomputable def o20B (P : Params) : Obj := ⟨(.type "code"), none, (.fields #[(.str (Str.ofString "_wall") 187), (.str (Str.ofString "_wall") 188), (.str (Str.ofString "/claim/cut.py") 189), (.int (1) 0), (.int (1) 0), (.int (0) 0), (.int (0) 0), (.int (3) 0), (.ref 15), (.bool true), (.int (181) 0), (.ref 16), .none, (.ref 17), (.ref 18), (.ref 19), (.int (191) 0), (.int (1) 0), (.str (Str.ofString "/claim/cut.py") 192)]), #[]⟩
noncomputable def o21B (P : Params) : Obj := ⟨(.type "function"), none, (.func ⟨(Str.ofString "_wall"), (Str.ofString "_wall"), bA0, .stmts bB0, bS0, 3, [], .none, .none, .none, (.str (Str.ofString "__main__") 164), none, (.ref 20), .none, 0⟩), #[]⟩
noncomputable def o22B (P : Params) : Obj := ⟨(.type "tuple"), none, (.seq #[] 0), #[]⟩
noncomputable def o23B (P : Params) : Obj := ⟨.none, none, (.fields #[]), #[]⟩
noncomputable def o24B (P : Params) : Obj := ⟨(.type "tuple"), none, (.seq #[(.str (Str.ofString "a") 199), (.str (Str.ofString "b") 200)] 0), #[]⟩
noncomputable def o25B (P : Params) : Obj := ⟨(.type "tuple"), none, (.seq #[] 0), #[]⟩
noncomputable def o26B (P : Params) : Obj := ⟨.none, none, (.func ⟨(Str.ofString "and_"), (Str.ofString "and_"), bA2, .stmts bB2, bS2, 0, [], .none, .none, .none, .none, none, .none, .none, 0⟩), #[]⟩
noncomputable def o27B (P : Params) : Obj := ⟨(.type "code"), none, (.fields #[(.str (Str.ofString "and_") 196), (.str (Str.ofString "and_") 197), (.str (Str.ofString "/claim/cut.py") 198), (.int (5) 0), (.int (2) 0), (.int (0) 0), (.int (0) 0), (.int (3) 0), (.ref 22), (.bool true), (.int (181) 0), (.ref 23), .none, (.ref 24), (.ref 25), (.ref 26), (.int (201) 0), (.int (5) 0), (.str (Str.ofString "/claim/cut.py") 202)]), #[]⟩
noncomputable def o28B (P : Params) : Obj := ⟨(.type "function"), none, (.func ⟨(Str.ofString "and_"), (Str.ofString "and_"), bA2, .stmts bB2, bS2, 3, [], .none, .none, .none, (.str (Str.ofString "cpy313.operator") 194), none, (.ref 27), .none, 0⟩), #[]⟩
noncomputable def o29B (P : Params) : Obj := ⟨(.type "tuple"), none, (.seq #[] 0), #[]⟩
noncomputable def o30B (P : Params) : Obj := ⟨.none, none, (.fields #[]), #[]⟩
noncomputable def o31B (P : Params) : Obj := ⟨(.type "tuple"), none, (.seq #[(.str (Str.ofString "a") 207), (.str (Str.ofString "b") 208)] 0), #[]⟩
noncomputable def o32B (P : Params) : Obj := ⟨(.type "tuple"), none, (.seq #[] 0), #[]⟩
noncomputable def o33B (P : Params) : Obj := ⟨.none, none, (.func ⟨(Str.ofString "lshift"), (Str.ofString "lshift"), bA3, .stmts bB3, bS3, 0, [], .none, .none, .none, .none, none, .none, .none, 0⟩), #[]⟩
noncomputable def o34B (P : Params) : Obj := ⟨(.type "code"), none, (.fields #[(.str (Str.ofString "lshift") 204), (.str (Str.ofString "lshift") 205), (.str (Str.ofString "/claim/cut.py") 206), (.int (7) 0), (.int (2) 0), (.int (0) 0), (.int (0) 0), (.int (3) 0), (.ref 29), (.bool true), (.int (181) 0), (.ref 30), .none, (.ref 31), (.ref 32), (.ref 33), (.int (209) 0), (.int (7) 0), (.str (Str.ofString "/claim/cut.py") 210)]), #[]⟩
noncomputable def o35B (P : Params) : Obj := ⟨(.type "function"), none, (.func ⟨(Str.ofString "lshift"), (Str.ofString "lshift"), bA3, .stmts bB3, bS3, 3, [], .none, .none, .none, (.str (Str.ofString "cpy313.operator") 194), none, (.ref 34), .none, 0⟩), #[]⟩
noncomputable def o36B (P : Params) : Obj := ⟨(.type "tuple"), none, (.seq #[] 0), #[]⟩
noncomputable def o37B (P : Params) : Obj := ⟨.none, none, (.fields #[]), #[]⟩
noncomputable def o38B (P : Params) : Obj := ⟨(.type "tuple"), none, (.seq #[(.str (Str.ofString "a") 215), (.str (Str.ofString "b") 216)] 0), #[]⟩
noncomputable def o39B (P : Params) : Obj := ⟨(.type "tuple"), none, (.seq #[] 0), #[]⟩
noncomputable def o40B (P : Params) : Obj := ⟨.none, none, (.func ⟨(Str.ofString "or_"), (Str.ofString "or_"), bA4, .stmts bB4, bS4, 0, [], .none, .none, .none, .none, none, .none, .none, 0⟩), #[]⟩
noncomputable def o41B (P : Params) : Obj := ⟨(.type "code"), none, (.fields #[(.str (Str.ofString "or_") 212), (.str (Str.ofString "or_") 213), (.str (Str.ofString "/claim/cut.py") 214), (.int (9) 0), (.int (2) 0), (.int (0) 0), (.int (0) 0), (.int (3) 0), (.ref 36), (.bool true), (.int (181) 0), (.ref 37), .none, (.ref 38), (.ref 39), (.ref 40), (.int (217) 0), (.int (9) 0), (.str (Str.ofString "/claim/cut.py") 218)]), #[]⟩
noncomputable def o42B (P : Params) : Obj := ⟨(.type "function"), none, (.func ⟨(Str.ofString "or_"), (Str.ofString "or_"), bA4, .stmts bB4, bS4, 3, [], .none, .none, .none, (.str (Str.ofString "cpy313.operator") 194), none, (.ref 41), .none, 0⟩), #[]⟩
noncomputable def o43B (P : Params) : Obj := ⟨(.type "tuple"), none, (.seq #[] 0), #[]⟩
noncomputable def o44B (P : Params) : Obj := ⟨.none, none, (.fields #[]), #[]⟩
noncomputable def o45B (P : Params) : Obj := ⟨(.type "tuple"), none, (.seq #[(.str (Str.ofString "a") 223), (.str (Str.ofString "b") 224)] 0), #[]⟩
noncomputable def o46B (P : Params) : Obj := ⟨(.type "tuple"), none, (.seq #[] 0), #[]⟩
noncomputable def o47B (P : Params) : Obj := ⟨.none, none, (.func ⟨(Str.ofString "rshift"), (Str.ofString "rshift"), bA5, .stmts bB5, bS5, 0, [], .none, .none, .none, .none, none, .none, .none, 0⟩), #[]⟩
noncomputable def o48B (P : Params) : Obj := ⟨(.type "code"), none, (.fields #[(.str (Str.ofString "rshift") 220), (.str (Str.ofString "rshift") 221), (.str (Str.ofString "/claim/cut.py") 222), (.int (11) 0), (.int (2) 0), (.int (0) 0), (.int (0) 0), (.int (3) 0), (.ref 43), (.bool true), (.int (181) 0), (.ref 44), .none, (.ref 45), (.ref 46), (.ref 47), (.int (225) 0), (.int (11) 0), (.str (Str.ofString "/claim/cut.py") 226)]), #[]⟩
noncomputable def o49B (P : Params) : Obj := ⟨(.type "function"), none, (.func ⟨(Str.ofString "rshift"), (Str.ofString "rshift"), bA5, .stmts bB5, bS5, 3, [], .none, .none, .none, (.str (Str.ofString "cpy313.operator") 194), none, (.ref 48), .none, 0⟩), #[]⟩
noncomputable def o50B (P : Params) : Obj := ⟨(.type "tuple"), none, (.seq #[] 0), #[]⟩
noncomputable def o51B (P : Params) : Obj := ⟨.none, none, (.fields #[]), #[]⟩
noncomputable def o52B (P : Params) : Obj := ⟨(.type "tuple"), none, (.seq #[(.str (Str.ofString "a") 231), (.str (Str.ofString "b") 232)] 0), #[]⟩
noncomputable def o53B (P : Params) : Obj := ⟨(.type "tuple"), none, (.seq #[] 0), #[]⟩
noncomputable def o54B (P : Params) : Obj := ⟨.none, none, (.func ⟨(Str.ofString "xor"), (Str.ofString "xor"), bA6, .stmts bB6, bS6, 0, [], .none, .none, .none, .none, none, .none, .none, 0⟩), #[]⟩
noncomputable def o55B (P : Params) : Obj := ⟨(.type "code"), none, (.fields #[(.str (Str.ofString "xor") 228), (.str (Str.ofString "xor") 229), (.str (Str.ofString "/claim/cut.py") 230), (.int (13) 0), (.int (2) 0), (.int (0) 0), (.int (0) 0), (.int (3) 0), (.ref 50), (.bool true), (.int (181) 0), (.ref 51), .none, (.ref 52), (.ref 53), (.ref 54), (.int (233) 0), (.int (13) 0), (.str (Str.ofString "/claim/cut.py") 234)]), #[]⟩
noncomputable def o56B (P : Params) : Obj := ⟨(.type "function"), none, (.func ⟨(Str.ofString "xor"), (Str.ofString "xor"), bA6, .stmts bB6, bS6, 3, [], .none, .none, .none, (.str (Str.ofString "cpy313.operator") 194), none, (.ref 55), .none, 0⟩), #[]⟩
noncomputable def o57B (P : Params) : Obj := ⟨(.type "tuple"), none, (.seq #[] 0), #[]⟩
noncomputable def o58B (P : Params) : Obj := ⟨.none, none, (.fields #[]), #[]⟩
noncomputable def o59B (P : Params) : Obj := ⟨(.type "tuple"), none, (.seq #[(.str (Str.ofString "want") 243), (.str (Str.ofString "got") 244), (.str (Str.ofString "ws") 245), (.str (Str.ofString "startpos") 246), (.str (Str.ofString "endpos") 247), (.str (Str.ofString "w") 248)] 0), #[]⟩
noncomputable def o60B (P : Params) : Obj := ⟨(.type "tuple"), none, (.seq #[] 0), #[]⟩
noncomputable def o61B (P : Params) : Obj := ⟨.none, none, (.func ⟨(Str.ofString "_ellipsis_match"), (Str.ofString "_ellipsis_match"), bA9, .stmts bB9, bS9, 0, [], .none, .none, .none, .none, none, .none, .none, 0⟩), #[]⟩
noncomputable def o62B (P : Params) : Obj := ⟨(.type "code"), none, (.fields #[(.str (Str.ofString "_ellipsis_match") 240), (.str (Str.ofString "_ellipsis_match") 241), (.str (Str.ofString "/claim/cut.py") 242), (.int (17) 0), (.int (2) 0), (.int (0) 0), (.int (0) 0), (.int (3) 0), (.ref 57), (.bool true), (.int (181) 0), (.ref 58), .none, (.ref 59), (.ref 60), (.ref 61), (.int (249) 0), (.int (17) 0), (.str (Str.ofString "/claim/cut.py") 250)]), #[]⟩
noncomputable def o63B (P : Params) : Obj := ⟨(.type "function"), none, (.func ⟨(Str.ofString "_ellipsis_match"), (Str.ofString "_ellipsis_match"), bA9, .stmts bB9, bS9, 3, [], .none, .none, .none, (.str (Str.ofString "cpy313.doctest") 236), none, (.ref 62), .none, 0⟩), #[]⟩
noncomputable def treeB (P : Params) : BT :=
  (.node (boot_o_0 P) (.node (boot_o_1 P) (.node (o3B P) (.node (boot_o_7 P) (.node (o15B P) (.node (o31B P) (.node (o63B P) .nil .nil) .nil) (.node (o47B P) .nil .nil)) (.node (o23B P) (.node (o39B P) .nil .nil) (.node (o55B P) .nil .nil))) (.node (o11A P) (.node (o19B P) (.node (o35B P) .nil .nil) (.node (o51B P) .nil .nil)) (.node (o27B P) (.node (o43B P) .nil .nil) (.node (o59B P) .nil .nil)))) (.node (boot_o_5 P) (.node (boot_o_9 P) (.node (o17B P) (.node (o33B P) .nil .nil) (.node (o49B P) .nil .nil)) (.node (o25B P) (.node (o41B P) .nil .nil) (.node (o57B P) .nil .nil))) (.node (o13A P) (.node (o21B P) (.node (o37B P) .nil .nil) (.node (o53B P) .nil .nil)) (.node (o29B P) (.node (o45B P) .nil .nil) (.node (o61B P) .nil .nil))))) (.node (boot_o_2 P) (.node (boot_o_4 P) (.node (boot_o_8 P) (.node (o16B P) (.node (o32B P) .nil .nil) (.node (o48B P) .nil .nil)) (.node (o24B P) (.node (o40B P) .nil .nil) (.node (o56B P) .nil .nil))) (.node (o12B P) (.node (o20B P) (.node (o36B P) .nil .nil) (.node (o52B P) .nil .nil)) (.node (o28B P) (.node (o44B P) .nil .nil) (.node (o60B P) .nil .nil)))) (.node (boot_o_6 P) (.node (boot_o_10 P) (.node (o18B P) (.node (o34B P) .nil .nil) (.node (o50B P) .nil .nil)) (.node (o26B P) (.node (o42B P) .nil .nil) (.node (o58B P) .nil .nil))) (.node (o14A P) (.node (o22B P) (.node (o38B P) .nil .nil) (.node (o54B P) .nil .nil)) (.node (o30B P) (.node (o46B P) .nil .nil) (.node (o62B P) .nil .nil))))))
noncomputable def posB : Pos := ⟨46, 0, 46, 11⟩
noncomputable def o3C (P : Params) : Obj := ⟨(.type "dict"), none, (.dict #[⟨PyData.keyHash P (Str.ofString "__name__"), (.str (Str.ofString "__name__") 165), (.str (Str.ofString "cpy313.stringprep") 351)⟩, ⟨PyData.keyHash P (Str.ofString "__doc__"), (.str (Str.ofString "__doc__") 166), .none⟩, ⟨PyData.keyHash P (Str.ofString "__package__"), (.str (Str.ofString "__package__") 167), .none⟩, ⟨PyData.keyHash P (Str.ofString "__loader__"), (.str (Str.ofString "__loader__") 168), (.builtin "__main__.__loader__#opaque")⟩, ⟨PyData.keyHash P (Str.ofString "__spec__"), (.str (Str.ofString "__spec__") 169), .none⟩, ⟨PyData.keyHash P (Str.ofString "__annotations__"), (.str (Str.ofString "__annotations__") 170), (.ref 6)⟩, ⟨PyData.keyHash P (Str.ofString "__builtins__"), (.str (Str.ofString "__builtins__") 171), (.ref 4)⟩, ⟨PyData.keyHash P (Str.ofString "__file__"), (.str (Str.ofString "__file__") 173), (.str (Str.ofString "/claim/cut.py") 172)⟩, ⟨PyData.keyHash P (Str.ofString "__cached__"), (.str (Str.ofString "__cached__") 174), .none⟩, ⟨PyData.keyHash P (Str.ofString "_wall"), (.str (Str.ofString "_wall") 193), (.ref 21)⟩, ⟨PyData.keyHash P (Str.ofString "and_"), (.str (Str.ofString "and_") 203), (.ref 28)⟩, ⟨PyData.keyHash P (Str.ofString "lshift"), (.str (Str.ofString "lshift") 211), (.ref 35)⟩, ⟨PyData.keyHash P (Str.ofString "or_"), (.str (Str.ofString "or_") 219), (.ref 42)⟩, ⟨PyData.keyHash P (Str.ofString "rshift"), (.str (Str.ofString "rshift") 227), (.ref 49)⟩, ⟨PyData.keyHash P (Str.ofString "xor"), (.str (Str.ofString "xor") 235), (.ref 56)⟩, ⟨PyData.keyHash P (Str.ofString "ELLIPSIS_MARKER"), (.str (Str.ofString "ELLIPSIS_MARKER") 239), (.str (Str.ofString "...") 238)⟩, ⟨PyData.keyHash P (Str.ofString "_ellipsis_match"), (.str (Str.ofString "_ellipsis_match") 251), (.ref 63)⟩, ⟨PyData.keyHash P (Str.ofString "EMPTYSTRING"), (.str (Str.ofString "EMPTYSTRING") 255), (.str (Str.ofString "") 254)⟩, ⟨PyData.keyHash P (Str.ofString "_Accumulator"), (.str (Str.ofString "_Accumulator") 350), (.ref 143)⟩] 19), #[]⟩
noncomputable def o12C (P : Params) : Obj := ⟨.none, none, (.fields #[(.int (1) 0), (.int (0) 0), (.ref 20), (.int (5) 0), (.int (0) 0), (.ref 27), (.int (7) 0), (.int (0) 0), (.ref 34), (.int (9) 0), (.int (0) 0), (.ref 41), (.int (11) 0), (.int (0) 0), (.ref 48), (.int (13) 0), (.int (0) 0), (.ref 55), (.int (17) 0), (.int (0) 0), (.ref 62), (.int (47) 0), (.int (0) 0), (.ref 70)]), #[]⟩
noncomputable def o64C (P : Params) : Obj := ⟨(.type "tuple"), none, (.seq #[(.type "list")] 0), #[]⟩
noncomputable def o65C (P : Params) : Obj := ⟨(.type "builtin_function_or_method"), none, (.fields #[(.builtin "type.__prepare__"), (.type "type")]), #[]⟩
noncomputable def o66C (P : Params) : Obj := ⟨(.type "dict"), none, (.dict #[⟨PyData.keyHash P (Str.ofString "__module__"), (.str (Str.ofString "__module__") 263), (.str (Str.ofString "cpy313.email.header") 252)⟩, ⟨PyData.keyHash P (Str.ofString "__qualname__"), (.str (Str.ofString "__qualname__") 265), (.str (Str.ofString "_Accumulator") 264)⟩, ⟨PyData.keyHash P (Str.ofString "__firstlineno__"), (.str (Str.ofString "__firstlineno__") 267), (.int (47) 266)⟩, ⟨PyData.keyHash P (Str.ofString "__init__"), (.str (Str.ofString "__init__") 277), (.ref 80)⟩, ⟨PyData.keyHash P (Str.ofString "push"), (.str (Str.ofString "push") 286), (.ref 87)⟩, ⟨PyData.keyHash P (Str.ofString "pop_from"), (.str (Str.ofString "pop_from") 295), (.ref 95)⟩, ⟨PyData.keyHash P (Str.ofString "pop"), (.str (Str.ofString "pop") 303), (.ref 103)⟩, ⟨PyData.keyHash P (Str.ofString "__len__"), (.str (Str.ofString "__len__") 310), (.ref 110)⟩, ⟨PyData.keyHash P (Str.ofString "__str__"), (.str (Str.ofString "__str__") 317), (.ref 117)⟩, ⟨PyData.keyHash P (Str.ofString "reset"), (.str (Str.ofString "reset") 325), (.ref 125)⟩, ⟨PyData.keyHash P (Str.ofString "is_onlyws"), (.str (Str.ofString "is_onlyws") 332), (.ref 132)⟩, ⟨PyData.keyHash P (Str.ofString "part_count"), (.str (Str.ofString "part_count") 340), (.ref 140)⟩, ⟨PyData.keyHash P (Str.ofString "__static_attributes__"), (.str (Str.ofString "__static_attributes__") 342), (.ref 141)⟩, ⟨PyData.keyHash P (Str.ofString "__classcell__"), (.str (Str.ofString "__classcell__") 343), (.ref 67)⟩] 14), #[]⟩
noncomputable def o67C (P : Params) : Obj := ⟨(.type "cell"), none, (.cell (some (.ref 143))), #[]⟩
noncomputable def o68C (P : Params) : Obj := ⟨(.type "tuple"), none, (.seq #[] 0), #[]⟩
noncomputable def o69C (P : Params) : Obj := ⟨.none, none, (.fields #[(.int (49) 0), (.int (4) 0), (.ref 79), (.int (53) 0), (.int (4) 0), (.ref 86), (.int (56) 0), (.int (4) 0), (.ref 94), (.int (59) 0), (.int (4) 0), (.ref 102), (.int (64) 0), (.int (4) 0), (.ref 109), (.int (67) 0), (.int (4) 0), (.ref 116), (.int (70) 0), (.int (4) 0), (.ref 124), (.int (73) 0), (.int (4) 0), (.ref 131), (.int (76) 0), (.int (4) 0), (.ref 139)]), #[]⟩
noncomputable def o70C (P : Params) : Obj := ⟨(.type "code"), none, (.fields #[(.str (Str.ofString "_Accumulator") 258), (.str (Str.ofString "_Accumulator") 259), (.str (Str.ofString "/claim/cut.py") 260), (.int (47) 0), (.int (0) 0), (.int (0) 0), (.int (0) 0), (.int (0) 0), (.ref 68), (.bool false), (.int (181) 0), (.ref 69), .none, .none, .none, .none, (.int (261) 0), (.int (47) 0), (.str (Str.ofString "/claim/cut.py") 262)]), #[]⟩
noncomputable def o71C (P : Params) : Obj := ⟨(.type "frame"), none, .plain, #[(some (.ref 70)), (some (.ref 3)), (some (.ref 66)), none, (some (.str (Str.ofString "cpy313.email.header") 252)), none, (some (.ref 0))]⟩
noncomputable def o72C (P : Params) : Obj := ⟨(.type "tuple"), none, (.seq #[(.int (0) 268)] 0), #[]⟩
noncomputable def o73C (P : Params) : Obj := ⟨(.type "tuple"), none, (.seq #[(.ref 67)] 0), #[]⟩
noncomputable def o74C (P : Params) : Obj := ⟨(.type "tuple"), none, (.seq #[(.str (Str.ofString "__class__") 272)] 0), #[]⟩
noncomputable def o75C (P : Params) : Obj := ⟨.none, none, (.fields #[]), #[]⟩
noncomputable def o76C (P : Params) : Obj := ⟨(.type "tuple"), none, (.seq #[(.str (Str.ofString "self") 273), (.str (Str.ofString "initial_size") 274)] 0), #[]⟩
noncomputable def o77C (P : Params) : Obj := ⟨(.type "tuple"), none, (.seq #[] 0), #[]⟩
noncomputable def o78C (P : Params) : Obj := ⟨.none, none, (.func ⟨(Str.ofString "__init__"), (Str.ofString "_Accumulator.__init__"), bA12_0, .stmts bB12_0, bS12_0, 0, [], .none, .none, .none, .none, none, .none, .none, 0⟩), #[]⟩
noncomputable def o79C (P : Params) : Obj := ⟨(.type "code"), none, (.fields #[(.str (Str.ofString "__init__") 269), (.str (Str.ofString "_Accumulator.__init__") 270), (.str (Str.ofString "/claim/cut.py") 271), (.int (49) 0), (.int (2) 0), (.int (0) 0), (.int (0) 0), (.int (3) 0), (.ref 74), (.bool true), (.int (181) 0), (.ref 75), .none, (.ref 76), (.ref 77), (.ref 78), (.int (275) 0), (.int (49) 0), (.str (Str.ofString "/claim/cut.py") 276)]), #[]⟩
noncomputable def o80C (P : Params) : Obj := ⟨(.type "function"), none, (.func ⟨(Str.ofString "__init__"), (Str.ofString "_Accumulator.__init__"), bA12_0, .stmts bB12_0, bS12_0, 3, [((Str.ofString "__class__"), 67)], (.ref 72), .none, .none, (.str (Str.ofString "cpy313.email.header") 252), none, (.ref 79), (.ref 73), 0⟩), #[]⟩
noncomputable def o81C (P : Params) : Obj := ⟨(.type "tuple"), none, (.seq #[] 0), #[]⟩
noncomputable def o82C (P : Params) : Obj := ⟨.none, none, (.fields #[]), #[]⟩
noncomputable def o83C (P : Params) : Obj := ⟨(.type "tuple"), none, (.seq #[(.str (Str.ofString "self") 281), (.str (Str.ofString "fws") 282), (.str (Str.ofString "string") 283)] 0), #[]⟩
noncomputable def o84C (P : Params) : Obj := ⟨(.type "tuple"), none, (.seq #[] 0), #[]⟩
noncomputable def o85C (P : Params) : Obj := ⟨.none, none, (.func ⟨(Str.ofString "push"), (Str.ofString "_Accumulator.push"), bA12_1, .stmts bB12_1, bS12_1, 0, [], .none, .none, .none, .none, none, .none, .none, 0⟩), #[]⟩
noncomputable def o86C (P : Params) : Obj := ⟨(.type "code"), none, (.fields #[(.str (Str.ofString "push") 278), (.str (Str.ofString "_Accumulator.push") 279), (.str (Str.ofString "/claim/cut.py") 280), (.int (53) 0), (.int (3) 0), (.int (0) 0), (.int (0) 0), (.int (3) 0), (.ref 81), (.bool true), (.int (181) 0), (.ref 82), .none, (.ref 83), (.ref 84), (.ref 85), (.int (284) 0), (.int (53) 0), (.str (Str.ofString "/claim/cut.py") 285)]), #[]⟩
noncomputable def o87C (P : Params) : Obj := ⟨(.type "function"), none, (.func ⟨(Str.ofString "push"), (Str.ofString "_Accumulator.push"), bA12_1, .stmts bB12_1, bS12_1, 3, [], .none, .none, .none, (.str (Str.ofString "cpy313.email.header") 252), none, (.ref 86), .none, 0⟩), #[]⟩
noncomputable def o88C (P : Params) : Obj := ⟨(.type "tuple"), none, (.seq #[(.int (0) 287)] 0), #[]⟩
noncomputable def o89C (P : Params) : Obj := ⟨(.type "tuple"), none, (.seq #[] 0), #[]⟩
noncomputable def o90C (P : Params) : Obj := ⟨.none, none, (.fields #[]), #[]⟩
noncomputable def o91C (P : Params) : Obj := ⟨(.type "tuple"), none, (.seq #[(.str (Str.ofString "self") 291), (.str (Str.ofString "i") 292)] 0), #[]⟩
noncomputable def o92C (P : Params) : Obj := ⟨(.type "tuple"), none, (.seq #[] 0), #[]⟩
noncomputable def o93C (P : Params) : Obj := ⟨.none, none, (.func ⟨(Str.ofString "pop_from"), (Str.ofString "_Accumulator.pop_from"), bA12_2, .stmts bB12_2, bS12_2, 0, [], .none, .none, .none, .none, none, .none, .none, 0⟩), #[]⟩
noncomputable def o94C (P : Params) : Obj := ⟨(.type "code"), none, (.fields #[(.str (Str.ofString "pop_from") 288), (.str (Str.ofString "_Accumulator.pop_from") 289), (.str (Str.ofString "/claim/cut.py") 290), (.int (56) 0), (.int (2) 0), (.int (0) 0), (.int (0) 0), (.int (3) 0), (.ref 89), (.bool true), (.int (181) 0), (.ref 90), .none, (.ref 91), (.ref 92), (.ref 93), (.int (293) 0), (.int (56) 0), (.str (Str.ofString "/claim/cut.py") 294)]), #[]⟩
noncomputable def o95C (P : Params) : Obj := ⟨(.type "function"), none, (.func ⟨(Str.ofString "pop_from"), (Str.ofString "_Accumulator.pop_from"), bA12_2, .stmts bB12_2, bS12_2, 3, [], (.ref 88), .none, .none, (.str (Str.ofString "cpy313.email.header") 252), none, (.ref 94), .none, 0⟩), #[]⟩
noncomputable def o96C (P : Params) : Obj := ⟨(.type "tuple"), none, (.seq #[(.ref 67)] 0), #[]⟩
noncomputable def o97C (P : Params) : Obj := ⟨(.type "tuple"), none, (.seq #[(.str (Str.ofString "__class__") 299)] 0), #[]⟩
noncomputable def o98C (P : Params) : Obj := ⟨.none, none, (.fields #[]), #[]⟩
noncomputable def o99C (P : Params) : Obj := ⟨(.type "tuple"), none, (.seq #[(.str (Str.ofString "self") 300)] 0), #[]⟩
noncomputable def o100C (P : Params) : Obj := ⟨(.type "tuple"), none, (.seq #[] 0), #[]⟩
noncomputable def o101C (P : Params) : Obj := ⟨.none, none, (.func ⟨(Str.ofString "pop"), (Str.ofString "_Accumulator.pop"), bA12_3, .stmts bB12_3, bS12_3, 0, [], .none, .none, .none, .none, none, .none, .none, 0⟩), #[]⟩
noncomputable def o102C (P : Params) : Obj := ⟨(.type "code"), none, (.fields #[(.str (Str.ofString "pop") 296), (.str (Str.ofString "_Accumulator.pop") 297), (.str (Str.ofString "/claim/cut.py") 298), (.int (59) 0), (.int (1) 0), (.int (0) 0), (.int (0) 0), (.int (3) 0), (.ref 97), (.bool true), (.int (181) 0), (.ref 98), .none, (.ref 99), (.ref 100), (.ref 101), (.int (301) 0), (.int (59) 0), (.str (Str.ofString "/claim/cut.py") 302)]), #[]⟩
noncomputable def o103C (P : Params) : Obj := ⟨(.type "function"), none, (.func ⟨(Str.ofString "pop"), (Str.ofString "_Accumulator.pop"), bA12_3, .stmts bB12_3, bS12_3, 3, [((Str.ofString "__class__"), 67)], .none, .none, .none, (.str (Str.ofString "cpy313.email.header") 252), none, (.ref 102), (.ref 96), 0⟩), #[]⟩
noncomputable def o104C (P : Params) : Obj := ⟨(.type "tuple"), none, (.seq #[] 0), #[]⟩
noncomputable def o105C (P : Params) : Obj := ⟨.none, none, (.fields #[]), #[]⟩
noncomputable def o106C (P : Params) : Obj := ⟨(.type "tuple"), none, (.seq #[(.str (Str.ofString "self") 307)] 0), #[]⟩
noncomputable def o107C (P : Params) : Obj := ⟨(.type "tuple"), none, (.seq #[] 0), #[]⟩
noncomputable def o108C (P : Params) : Obj := ⟨.none, none, (.func ⟨(Str.ofString "__len__"), (Str.ofString "_Accumulator.__len__"), bA12_4, .stmts bB12_4, bS12_4, 0, [], .none, .none, .none, .none, none, .none, .none, 0⟩), #[]⟩
noncomputable def o109C (P : Params) : Obj := ⟨(.type "code"), none, (.fields #[(.str (Str.ofString "__len__") 304), (.str (Str.ofString "_Accumulator.__len__") 305), (.str (Str.ofString "/claim/cut.py") 306), (.int (64) 0), (.int (1) 0), (.int (0) 0), (.int (0) 0), (.int (3) 0), (.ref 104), (.bool true), (.int (181) 0), (.ref 105), .none, (.ref 106), (.ref 107), (.ref 108), (.int (308) 0), (.int (64) 0), (.str (Str.ofString "/claim/cut.py") 309)]), #[]⟩
noncomputable def o110C (P : Params) : Obj := ⟨(.type "function"), none, (.func ⟨(Str.ofString "__len__"), (Str.ofString "_Accumulator.__len__"), bA12_4, .stmts bB12_4, bS12_4, 3, [], .none, .none, .none, (.str (Str.ofString "cpy313.email.header") 252), none, (.ref 109), .none, 0⟩), #[]⟩
noncomputable def o111C (P : Params) : Obj := ⟨(.type "tuple"), none, (.seq #[] 0), #[]⟩
noncomputable def o112C (P : Params) : Obj := ⟨.none, none, (.fields #[]), #[]⟩
noncomputable def o113C (P : Params) : Obj := ⟨(.type "tuple"), none, (.seq #[(.str (Str.ofString "self") 314)] 0), #[]⟩
noncomputable def o114C (P : Params) : Obj := ⟨(.type "tuple"), none, (.seq #[] 0), #[]⟩
noncomputable def o115C (P : Params) : Obj := ⟨.none, none, (.func ⟨(Str.ofString "__str__"), (Str.ofString "_Accumulator.__str__"), bA12_5, .stmts bB12_5, bS12_5, 0, [], .none, .none, .none, .none, none, .none, .none, 0⟩), #[]⟩
noncomputable def o116C (P : Params) : Obj := ⟨(.type "code"), none, (.fields #[(.str (Str.ofString "__str__") 311), (.str (Str.ofString "_Accumulator.__str__") 312), (.str (Str.ofString "/claim/cut.py") 313), (.int (67) 0), (.int (1) 0), (.int (0) 0), (.int (0) 0), (.int (3) 0), (.ref 111), (.bool true), (.int (181) 0), (.ref 112), .none, (.ref 113), (.ref 114), (.ref 115), (.int (315) 0), (.int (67) 0), (.str (Str.ofString "/claim/cut.py") 316)]), #[]⟩
noncomputable def o117C (P : Params) : Obj := ⟨(.type "function"), none, (.func ⟨(Str.ofString "__str__"), (Str.ofString "_Accumulator.__str__"), bA12_5, .stmts bB12_5, bS12_5, 3, [], .none, .none, .none, (.str (Str.ofString "cpy313.email.header") 252), none, (.ref 116), .none, 0⟩), #[]⟩
noncomputable def o118C (P : Params) : Obj := ⟨(.type "tuple"), none, (.seq #[.none] 0), #[]⟩
noncomputable def o119C (P : Params) : Obj := ⟨(.type "tuple"), none, (.seq #[] 0), #[]⟩
noncomputable def o120C (P : Params) : Obj := ⟨.none, none, (.fields #[]), #[]⟩
noncomputable def o121C (P : Params) : Obj := ⟨(.type "tuple"), none, (.seq #[(.str (Str.ofString "self") 321), (.str (Str.ofString "startval") 322)] 0), #[]⟩
noncomputable def o122C (P : Params) : Obj := ⟨(.type "tuple"), none, (.seq #[] 0), #[]⟩
noncomputable def o123C (P : Params) : Obj := ⟨.none, none, (.func ⟨(Str.ofString "reset"), (Str.ofString "_Accumulator.reset"), bA12_6, .stmts bB12_6, bS12_6, 0, [], .none, .none, .none, .none, none, .none, .none, 0⟩), #[]⟩
noncomputable def o124C (P : Params) : Obj := ⟨(.type "code"), none, (.fields #[(.str (Str.ofString "reset") 318), (.str (Str.ofString "_Accumulator.reset") 319), (.str (Str.ofString "/claim/cut.py") 320), (.int (70) 0), (.int (2) 0), (.int (0) 0), (.int (0) 0), (.int (3) 0), (.ref 119), (.bool true), (.int (181) 0), (.ref 120), .none, (.ref 121), (.ref 122), (.ref 123), (.int (323) 0), (.int (70) 0), (.str (Str.ofString "/claim/cut.py") 324)]), #[]⟩
noncomputable def o125C (P : Params) : Obj := ⟨(.type "function"), none, (.func ⟨(Str.ofString "reset"), (Str.ofString "_Accumulator.reset"), bA12_6, .stmts bB12_6, bS12_6, 3, [], (.ref 118), .none, .none, (.str (Str.ofString "cpy313.email.header") 252), none, (.ref 124), .none, 0⟩), #[]⟩
noncomputable def o126C (P : Params) : Obj := ⟨(.type "tuple"), none, (.seq #[] 0), #[]⟩
noncomputable def o127C (P : Params) : Obj := ⟨.none, none, (.fields #[]), #[]⟩
noncomputable def o128C (P : Params) : Obj := ⟨(.type "tuple"), none, (.seq #[(.str (Str.ofString "self") 329)] 0), #[]⟩
noncomputable def o129C (P : Params) : Obj := ⟨(.type "tuple"), none, (.seq #[] 0), #[]⟩
noncomputable def o130C (P : Params) : Obj := ⟨.none, none, (.func ⟨(Str.ofString "is_onlyws"), (Str.ofString "_Accumulator.is_onlyws"), bA12_7, .stmts bB12_7, bS12_7, 0, [], .none, .none, .none, .none, none, .none, .none, 0⟩), #[]⟩
noncomputable def o131C (P : Params) : Obj := ⟨(.type "code"), none, (.fields #[(.str (Str.ofString "is_onlyws") 326), (.str (Str.ofString "_Accumulator.is_onlyws") 327), (.str (Str.ofString "/claim/cut.py") 328), (.int (73) 0), (.int (1) 0), (.int (0) 0), (.int (0) 0), (.int (3) 0), (.ref 126), (.bool true), (.int (181) 0), (.ref 127), .none, (.ref 128), (.ref 129), (.ref 130), (.int (330) 0), (.int (73) 0), (.str (Str.ofString "/claim/cut.py") 331)]), #[]⟩
noncomputable def o132C (P : Params) : Obj := ⟨(.type "function"), none, (.func ⟨(Str.ofString "is_onlyws"), (Str.ofString "_Accumulator.is_onlyws"), bA12_7, .stmts bB12_7, bS12_7, 3, [], .none, .none, .none, (.str (Str.ofString "cpy313.email.header") 252), none, (.ref 131), .none, 0⟩), #[]⟩
noncomputable def o133C (P : Params) : Obj := ⟨(.type "tuple"), none, (.seq #[(.ref 67)] 0), #[]⟩
noncomputable def o134C (P : Params) : Obj := ⟨(.type "tuple"), none, (.seq #[(.str (Str.ofString "__class__") 336)] 0), #[]⟩
noncomputable def o135C (P : Params) : Obj := ⟨.none, none, (.fields #[]), #[]⟩
noncomputable def o136C (P : Params) : Obj := ⟨(.type "tuple"), none, (.seq #[(.str (Str.ofString "self") 337)] 0), #[]⟩
noncomputable def o137C (P : Params) : Obj := ⟨(.type "tuple"), none, (.seq #[] 0), #[]⟩
noncomputable def o138C (P : Params) : Obj := ⟨.none, none, (.func ⟨(Str.ofString "part_count"), (Str.ofString "_Accumulator.part_count"), bA12_8, .stmts bB12_8, bS12_8, 0, [], .none, .none, .none, .none, none, .none, .none, 0⟩), #[]⟩
noncomputable def o139C (P : Params) : Obj := ⟨(.type "code"), none, (.fields #[(.str (Str.ofString "part_count") 333), (.str (Str.ofString "_Accumulator.part_count") 334), (.str (Str.ofString "/claim/cut.py") 335), (.int (76) 0), (.int (1) 0), (.int (0) 0), (.int (0) 0), (.int (3) 0), (.ref 134), (.bool true), (.int (181) 0), (.ref 135), .none, (.ref 136), (.ref 137), (.ref 138), (.int (338) 0), (.int (76) 0), (.str (Str.ofString "/claim/cut.py") 339)]), #[]⟩
noncomputable def o140C (P : Params) : Obj := ⟨(.type "function"), none, (.func ⟨(Str.ofString "part_count"), (Str.ofString "_Accumulator.part_count"), bA12_8, .stmts bB12_8, bS12_8, 3, [((Str.ofString "__class__"), 67)], .none, .none, .none, (.str (Str.ofString "cpy313.email.header") 252), none, (.ref 139), (.ref 133), 0⟩), #[]⟩
noncomputable def o141C (P : Params) : Obj := ⟨(.type "tuple"), none, (.seq #[(.str (Str.ofString "_initial_size") 341)] 0), #[]⟩
noncomputable def o142C (P : Params) : Obj := ⟨(.type "dict"), none, (.dict #[⟨PyData.keyHash P (Str.ofString "__module__"), (.str (Str.ofString "__module__") 263), (.str (Str.ofString "cpy313.email.header") 252)⟩, ⟨PyData.keyHash P (Str.ofString "__firstlineno__"), (.str (Str.ofString "__firstlineno__") 267), (.int (47) 266)⟩, ⟨PyData.keyHash P (Str.ofString "__init__"), (.str (Str.ofString "__init__") 277), (.ref 80)⟩, ⟨PyData.keyHash P (Str.ofString "push"), (.str (Str.ofString "push") 286), (.ref 87)⟩, ⟨PyData.keyHash P (Str.ofString "pop_from"), (.str (Str.ofString "pop_from") 295), (.ref 95)⟩, ⟨PyData.keyHash P (Str.ofString "pop"), (.str (Str.ofString "pop") 303), (.ref 103)⟩, ⟨PyData.keyHash P (Str.ofString "__len__"), (.str (Str.ofString "__len__") 310), (.ref 110)⟩, ⟨PyData.keyHash P (Str.ofString "__str__"), (.str (Str.ofString "__str__") 317), (.ref 117)⟩, ⟨PyData.keyHash P (Str.ofString "reset"), (.str (Str.ofString "reset") 325), (.ref 125)⟩, ⟨PyData.keyHash P (Str.ofString "is_onlyws"), (.str (Str.ofString "is_onlyws") 332), (.ref 132)⟩, ⟨PyData.keyHash P (Str.ofString "part_count"), (.str (Str.ofString "part_count") 340), (.ref 140)⟩, ⟨PyData.keyHash P (Str.ofString "__static_attributes__"), (.str (Str.ofString "__static_attributes__") 342), (.ref 141)⟩, ⟨PyData.keyHash P (Str.ofString "__dict__"), (.str (Str.ofString "__dict__") 345), (.ref 144)⟩, ⟨PyData.keyHash P (Str.ofString "__weakref__"), (.str (Str.ofString "__weakref__") 347), (.ref 145)⟩, ⟨PyData.keyHash P (Str.ofString "__doc__"), (.str (Str.ofString "__doc__") 348), .none⟩] 5), #[]⟩
noncomputable def o143C (P : Params) : Obj := ⟨(.type "type"), none, (.cls ⟨(Str.ofString "_Accumulator"), [(.type "list")], [(.ref 143), (.type "list"), (.type "object")], 142, (Str.ofString "_Accumulator"), true, [], [], false, none, false⟩), #[(some (.ref 64)), none, (some (.str (Str.ofString "_Accumulator") 256)), (some (.str (Str.ofString "_Accumulator") 264)), (some (.builtin "list.__new__")), (some (.bool true))]⟩
noncomputable def o144C (P : Params) : Obj := ⟨(.type "getset_descriptor"), none, (.fields #[(.str (Str.ofString "__dict__") 344), (.ref 143), (.builtin "function.__dict__"), (.builtin "function.__dict__#set")]), #[]⟩
noncomputable def o145C (P : Params) : Obj := ⟨(.type "getset_descriptor"), none, (.fields #[(.str (Str.ofString "__weakref__") 346), (.ref 143), (.builtin "ExceptionGroup.__weakref__"), .none]), #[]⟩
noncomputable def o146C (P : Params) : Obj := ⟨(.type "super"), none, (.fields #[(.ref 143), (.ref 143), (.ref 143)]), #[]⟩
noncomputable def o147C (P : Params) : Obj := ⟨(.type "builtin_function_or_method"), none, (.fields #[(.builtin "object.__init_subclass__"), (.ref 143)]), #[]⟩
noncomputable def treeC (P : Params) : BT :=
  (.node (boot_o_0 P) (.node (boot_o_1 P) (.node (o3C P) (.node (boot_o_7 P) (.node (o15B P) (.node (o31B P) (.node (o63B P) (.node (o127C P) .nil .nil) .nil) (.node (o95C P) .nil .nil)) (.node (o47B P) (.node (o79C P) (.node (o143C P) .nil .nil) .nil) (.node (o111C P) .nil .nil))) (.node (o23B P) (.node (o39B P) (.node (o71C P) (.node (o135C P) .nil .nil) .nil) (.node (o103C P) .nil .nil)) (.node (o55B P) (.node (o87C P) .nil .nil) (.node (o119C P) .nil .nil)))) (.node (o11A P) (.node (o19B P) (.node (o35B P) (.node (o67C P) (.node (o131C P) .nil .nil) .nil) (.node (o99C P) .nil .nil)) (.node (o51B P) (.node (o83C P) (.node (o147C P) .nil .nil) .nil) (.node (o115C P) .nil .nil))) (.node (o27B P) (.node (o43B P) (.node (o75C P) (.node (o139C P) .nil .nil) .nil) (.node (o107C P) .nil .nil)) (.node (o59B P) (.node (o91C P) .nil .nil) (.node (o123C P) .nil .nil))))) (.node (boot_o_5 P) (.node (boot_o_9 P) (.node (o17B P) (.node (o33B P) (.node (o65C P) (.node (o129C P) .nil .nil) .nil) (.node (o97C P) .nil .nil)) (.node (o49B P) (.node (o81C P) (.node (o145C P) .nil .nil) .nil) (.node (o113C P) .nil .nil))) (.node (o25B P) (.node (o41B P) (.node (o73C P) (.node (o137C P) .nil .nil) .nil) (.node (o105C P) .nil .nil)) (.node (o57B P) (.node (o89C P) .nil .nil) (.node (o121C P) .nil .nil)))) (.node (o13A P) (.node (o21B P) (.node (o37B P) (.node (o69C P) (.node (o133C P) .nil .nil) .nil) (.node (o101C P) .nil .nil)) (.node (o53B P) (.node (o85C P) .nil .nil) (.node (o117C P) .nil .nil))) (.node (o29B P) (.node (o45B P) (.node (o77C P) (.node (o141C P) .nil .nil) .nil) (.node (o109C P) .nil .nil)) (.node (o61B P) (.node (o93C P) .nil .nil) (.node (o125C P) .nil .nil)))))) (.node (boot_o_2 P) (.node (boot_o_4 P) (.node (boot_o_8 P) (.node (o16B P) (.node (o32B P) (.node (o64C P) (.node (o128C P) .nil .nil) .nil) (.node (o96C P) .nil .nil)) (.node (o48B P) (.node (o80C P) (.node (o144C P) .nil .nil) .nil) (.node (o112C P) .nil .nil))) (.node (o24B P) (.node (o40B P) (.node (o72C P) (.node (o136C P) .nil .nil) .nil) (.node (o104C P) .nil .nil)) (.node (o56B P) (.node (o88C P) .nil .nil) (.node (o120C P) .nil .nil)))) (.node (o12C P) (.node (o20B P) (.node (o36B P) (.node (o68C P) (.node (o132C P) .nil .nil) .nil) (.node (o100C P) .nil .nil)) (.node (o52B P) (.node (o84C P) .nil .nil) (.node (o116C P) .nil .nil))) (.node (o28B P) (.node (o44B P) (.node (o76C P) (.node (o140C P) .nil .nil) .nil) (.node (o108C P) .nil .nil)) (.node (o60B P) (.node (o92C P) .nil .nil) (.node (o124C P) .nil .nil))))) (.node (boot_o_6 P) (.node (boot_o_10 P) (.node (o18B P) (.node (o34B P) (.node (o66C P) (.node (o130C P) .nil .nil) .nil) (.node (o98C P) .nil .nil)) (.node (o50B P) (.node (o82C P) (.node (o146C P) .nil .nil) .nil) (.node (o114C P) .nil .nil))) (.node (o26B P) (.node (o42B P) (.node (o74C P) (.node (o138C P) .nil .nil) .nil) (.node (o106C P) .nil .nil)) (.node (o58B P) (.node (o90C P) .nil .nil) (.node (o122C P) .nil .nil)))) (.node (o14A P) (.node (o22B P) (.node (o38B P) (.node (o70C P) (.node (o134C P) .nil .nil) .nil) (.node (o102C P) .nil .nil)) (.node (o54B P) (.node (o86C P) .nil .nil) (.node (o118C P) .nil .nil))) (.node (o30B P) (.node (o46B P) (.node (o78C P) (.node (o142C P) .nil .nil) .nil) (.node (o110C P) .nil .nil)) (.node (o62B P) (.node (o94C P) .nil .nil) (.node (o126C P) .nil .nil)))))))
noncomputable def posC : Pos := ⟨78, 0, 78, 8⟩
noncomputable def o3D (P : Params) : Obj := ⟨(.type "dict"), none, (.dict #[⟨PyData.keyHash P (Str.ofString "__name__"), (.str (Str.ofString "__name__") 165), (.str (Str.ofString "cpy313.stringprep") 351)⟩, ⟨PyData.keyHash P (Str.ofString "__doc__"), (.str (Str.ofString "__doc__") 166), .none⟩, ⟨PyData.keyHash P (Str.ofString "__package__"), (.str (Str.ofString "__package__") 167), .none⟩, ⟨PyData.keyHash P (Str.ofString "__loader__"), (.str (Str.ofString "__loader__") 168), (.builtin "__main__.__loader__#opaque")⟩, ⟨PyData.keyHash P (Str.ofString "__spec__"), (.str (Str.ofString "__spec__") 169), .none⟩, ⟨PyData.keyHash P (Str.ofString "__annotations__"), (.str (Str.ofString "__annotations__") 170), (.ref 6)⟩, ⟨PyData.keyHash P (Str.ofString "__builtins__"), (.str (Str.ofString "__builtins__") 171), (.ref 4)⟩, ⟨PyData.keyHash P (Str.ofString "__file__"), (.str (Str.ofString "__file__") 173), (.str (Str.ofString "/claim/cut.py") 172)⟩, ⟨PyData.keyHash P (Str.ofString "__cached__"), (.str (Str.ofString "__cached__") 174), .none⟩, ⟨PyData.keyHash P (Str.ofString "_wall"), (.str (Str.ofString "_wall") 193), (.ref 21)⟩, ⟨PyData.keyHash P (Str.ofString "and_"), (.str (Str.ofString "and_") 203), (.ref 28)⟩, ⟨PyData.keyHash P (Str.ofString "lshift"), (.str (Str.ofString "lshift") 211), (.ref 35)⟩, ⟨PyData.keyHash P (Str.ofString "or_"), (.str (Str.ofString "or_") 219), (.ref 42)⟩, ⟨PyData.keyHash P (Str.ofString "rshift"), (.str (Str.ofString "rshift") 227), (.ref 49)⟩, ⟨PyData.keyHash P (Str.ofString "xor"), (.str (Str.ofString "xor") 235), (.ref 56)⟩, ⟨PyData.keyHash P (Str.ofString "ELLIPSIS_MARKER"), (.str (Str.ofString "ELLIPSIS_MARKER") 239), (.str (Str.ofString "...") 238)⟩, ⟨PyData.keyHash P (Str.ofString "_ellipsis_match"), (.str (Str.ofString "_ellipsis_match") 251), (.ref 63)⟩, ⟨PyData.keyHash P (Str.ofString "EMPTYSTRING"), (.str (Str.ofString "EMPTYSTRING") 255), (.str (Str.ofString "") 254)⟩, ⟨PyData.keyHash P (Str.ofString "_Accumulator"), (.str (Str.ofString "_Accumulator") 350), (.ref 143)⟩, ⟨PyData.keyHash P (Str.ofString "b1_set"), (.str (Str.ofString "b1_set") 412), (.ref 155)⟩, ⟨PyData.keyHash P (Str.ofString "in_table_b1"), (.str (Str.ofString "in_table_b1") 419), (.ref 165)⟩] 21), #[]⟩
noncomputable def o12D (P : Params) : Obj := ⟨.none, none, (.fields #[(.int (1) 0), (.int (0) 0), (.ref 20), (.int (5) 0), (.int (0) 0), (.ref 27), (.int (7) 0), (.int (0) 0), (.ref 34), (.int (9) 0), (.int (0) 0), (.ref 41), (.int (11) 0), (.int (0) 0), (.ref 48), (.int (13) 0), (.int (0) 0), (.ref 55), (.int (17) 0), (.int (0) 0), (.ref 62), (.int (47) 0), (.int (0) 0), (.ref 70), (.int (80) 0), (.int (0) 0), (.ref 164)]), #[]⟩
noncomputable def o148D (P : Params) : Obj := ⟨(.type "list"), none, (.seq #[(.int (173) 353), (.int (847) 354), (.int (6150) 355), (.int (6155) 356), (.int (6156) 357), (.int (6157) 358), (.int (8203) 359), (.int (8204) 360), (.int (8205) 361), (.int (8288) 362), (.int (65279) 363)] 0), #[]⟩
noncomputable def o149D (P : Params) : Obj := ⟨(.type "range"), none, (.fields #[(.int (65024) 364), (.int (65040) 365), (.int (1) 366)]), #[]⟩
noncomputable def o150D (P : Params) : Obj := ⟨(.type "list"), none, (.seq #[(.int (65024) 369), (.int (65025) 370), (.int (65026) 371), (.int (65027) 372), (.int (65028) 373), (.int (65029) 374), (.int (65030) 375), (.int (65031) 376), (.int (65032) 377), (.int (65033) 378), (.int (65034) 379), (.int (65035) 380), (.int (65036) 381), (.int (65037) 382), (.int (65038) 383), (.int (65039) 384)] 18), #[]⟩
noncomputable def o151D (P : Params) : Obj := ⟨(.type "range_iterator"), none, (.fields #[(.int (65040) 0), (.int (0) 0), (.int (1) 0)]), #[]⟩
noncomputable def o152D (P : Params) : Obj := ⟨(.type "tuple"), none, (.seq #[] 0), #[]⟩
noncomputable def o153D (P : Params) : Obj := ⟨(.type "StopIteration"), none, (.fields #[(.ref 152), .none, .none, .none, (.bool false), .none]), #[]⟩
noncomputable def o154D (P : Params) : Obj := ⟨(.type "list"), none, (.seq #[(.int (173) 353), (.int (847) 354), (.int (6150) 355), (.int (6155) 356), (.int (6156) 357), (.int (6157) 358), (.int (8203) 359), (.int (8204) 360), (.int (8205) 361), (.int (8288) 362), (.int (65279) 363), (.int (65024) 369), (.int (65025) 370), (.int (65026) 371), (.int (65027) 372), (.int (65028) 373), (.int (65029) 374), (.int (65030) 375), (.int (65031) 376), (.int (65032) 377), (.int (65033) 378), (.int (65034) 379), (.int (65035) 380), (.int (65036) 381), (.int (65037) 382), (.int (65038) 383), (.int (65039) 384)] 0), #[]⟩
noncomputable def o155D (P : Params) : Obj := ⟨(.type "set"), none, (.set #[(65024, (.int (65024) 369)), (65025, (.int (65025) 370)), (65026, (.int (65026) 371)), (65027, (.int (65027) 372)), (65028, (.int (65028) 373)), (65029, (.int (65029) 374)), (6150, (.int (6150) 355)), (65030, (.int (65030) 375)), (65031, (.int (65031) 376)), (65032, (.int (65032) 377)), (65033, (.int (65033) 378)), (6155, (.int (6155) 356)), (6156, (.int (6156) 357)), (6157, (.int (6157) 358)), (8203, (.int (8203) 359)), (8204, (.int (8204) 360)), (8205, (.int (8205) 361)), (65034, (.int (65034) 379)), (65035, (.int (65035) 380)), (65036, (.int (65036) 381)), (65037, (.int (65037) 382)), (65038, (.int (65038) 383)), (65039, (.int (65039) 384)), (173, (.int (173) 353)), (847, (.int (847) 354)), (8288, (.int (8288) 362)), (65279, (.int (65279) 363))] 29 ⟨127, #[0, 1, 2, 3, 4, 5, 6, 7, 8, 9, 10, 11, 12, 13, 14, 15, 16, 17, 18, 19, 20, 21, 22, 45, 79, 96, 127], #[], 0, !(P.followText "set-order"), 2, true⟩), #[]⟩
noncomputable def o156D (P : Params) : Obj := ⟨(.type "list_iterator"), none, (.fields #[.none, (.int (27) 0)]), #[]⟩
noncomputable def o157D (P : Params) : Obj := ⟨(.type "tuple"), none, (.seq #[] 0), #[]⟩
noncomputable def o158D (P : Params) : Obj := ⟨(.type "StopIteration"), none, (.fields #[(.ref 157), .none, .none, .none, (.bool false), .none]), #[]⟩
noncomputable def o159D (P : Params) : Obj := ⟨(.type "tuple"), none, (.seq #[] 0), #[]⟩
noncomputable def o160D (P : Params) : Obj := ⟨.none, none, (.fields #[]), #[]⟩
noncomputable def o161D (P : Params) : Obj := ⟨(.type "tuple"), none, (.seq #[(.str (Str.ofString "code") 416)] 0), #[]⟩
noncomputable def o162D (P : Params) : Obj := ⟨(.type "tuple"), none, (.seq #[] 0), #[]⟩
noncomputable def o163D (P : Params) : Obj := ⟨.none, none, (.func ⟨(Str.ofString "in_table_b1"), (Str.ofString "in_table_b1"), bA15, .stmts bB15, bS15, 0, [], .none, .none, .none, .none, none, .none, .none, 0⟩), #[]⟩
noncomputable def o164D (P : Params) : Obj := ⟨(.type "code"), none, (.fields #[(.str (Str.ofString "in_table_b1") 413), (.str (Str.ofString "in_table_b1") 414), (.str (Str.ofString "/claim/cut.py") 415), (.int (80) 0), (.int (1) 0), (.int (0) 0), (.int (0) 0), (.int (3) 0), (.ref 159), (.bool true), (.int (181) 0), (.ref 160), .none, (.ref 161), (.ref 162), (.ref 163), (.int (417) 0), (.int (80) 0), (.str (Str.ofString "/claim/cut.py") 418)]), #[]⟩
noncomputable def o165D (P : Params) : Obj := ⟨(.type "function"), none, (.func ⟨(Str.ofString "in_table_b1"), (Str.ofString "in_table_b1"), bA15, .stmts bB15, bS15, 3, [], .none, .none, .none, (.str (Str.ofString "cpy313.stringprep") 351), none, (.ref 164), .none, 0⟩), #[]⟩
noncomputable def treeD (P : Params) : BT :=
  (.node (boot_o_0 P) (.node (boot_o_1 P) (.node (o3D P) (.node (boot_o_7 P) (.node (o15B P) (.node (o31B P) (.node (o63B P) (.node (o127C P) .nil .nil) .nil) (.node (o95C P) (.node (o159D P) .nil .nil) .nil)) (.node (o47B P) (.node (o79C P) (.node (o143C P) .nil .nil) .nil) (.node (o111C P) .nil .nil))) (.node (o23B P) (.node (o39B P) (.node (o71C P) (.node (o135C P) .nil .nil) .nil) (.node (o103C P) .nil .nil)) (.node (o55B P) (.node (o87C P) (.node (o151D P) .nil .nil) .nil) (.node (o119C P) .nil .nil)))) (.node (o11A P) (.node (o19B P) (.node (o35B P) (.node (o67C P) (.node (o131C P) .nil .nil) .nil) (.node (o99C P) (.node (o163D P) .nil .nil) .nil)) (.node (o51B P) (.node (o83C P) (.node (o147C P) .nil .nil) .nil) (.node (o115C P) .nil .nil))) (.node (o27B P) (.node (o43B P) (.node (o75C P) (.node (o139C P) .nil .nil) .nil) (.node (o107C P) .nil .nil)) (.node (o59B P) (.node (o91C P) (.node (o155D P) .nil .nil) .nil) (.node (o123C P) .nil .nil))))) (.node (boot_o_5 P) (.node (boot_o_9 P) (.node (o17B P) (.node (o33B P) (.node (o65C P) (.node (o129C P) .nil .nil) .nil) (.node (o97C P) (.node (o161D P) .nil .nil) .nil)) (.node (o49B P) (.node (o81C P) (.node (o145C P) .nil .nil) .nil) (.node (o113C P) .nil .nil))) (.node (o25B P) (.node (o41B P) (.node (o73C P) (.node (o137C P) .nil .nil) .nil) (.node (o105C P) .nil .nil)) (.node (o57B P) (.node (o89C P) (.node (o153D P) .nil .nil) .nil) (.node (o121C P) .nil .nil)))) (.node (o13A P) (.node (o21B P) (.node (o37B P) (.node (o69C P) (.node (o133C P) .nil .nil) .nil) (.node (o101C P) (.node (o165D P) .nil .nil) .nil)) (.node (o53B P) (.node (o85C P) (.node (o149D P) .nil .nil) .nil) (.node (o117C P) .nil .nil))) (.node (o29B P) (.node (o45B P) (.node (o77C P) (.node (o141C P) .nil .nil) .nil) (.node (o109C P) .nil .nil)) (.node (o61B P) (.node (o93C P) (.node (o157D P) .nil .nil) .nil) (.node (o125C P) .nil .nil)))))) (.node (boot_o_2 P) (.node (boot_o_4 P) (.node (boot_o_8 P) (.node (o16B P) (.node (o32B P) (.node (o64C P) (.node (o128C P) .nil .nil) .nil) (.node (o96C P) (.node (o160D P) .nil .nil) .nil)) (.node (o48B P) (.node (o80C P) (.node (o144C P) .nil .nil) .nil) (.node (o112C P) .nil .nil))) (.node (o24B P) (.node (o40B P) (.node (o72C P) (.node (o136C P) .nil .nil) .nil) (.node (o104C P) .nil .nil)) (.node (o56B P) (.node (o88C P) (.node (o152D P) .nil .nil) .nil) (.node (o120C P) .nil .nil)))) (.node (o12D P) (.node (o20B P) (.node (o36B P) (.node (o68C P) (.node (o132C P) .nil .nil) .nil) (.node (o100C P) (.node (o164D P) .nil .nil) .nil)) (.node (o52B P) (.node (o84C P) (.node (o148D P) .nil .nil) .nil) (.node (o116C P) .nil .nil))) (.node (o28B P) (.node (o44B P) (.node (o76C P) (.node (o140C P) .nil .nil) .nil) (.node (o108C P) .nil .nil)) (.node (o60B P) (.node (o92C P) (.node (o156D P) .nil .nil) .nil) (.node (o124C P) .nil .nil))))) (.node (boot_o_6 P) (.node (boot_o_10 P) (.node (o18B P) (.node (o34B P) (.node (o66C P) (.node (o130C P) .nil .nil) .nil) (.node (o98C P) (.node (o162D P) .nil .nil) .nil)) (.node (o50B P) (.node (o82C P) (.node (o146C P) .nil .nil) .nil) (.node (o114C P) .nil .nil))) (.node (o26B P) (.node (o42B P) (.node (o74C P) (.node (o138C P) .nil .nil) .nil) (.node (o106C P) .nil .nil)) (.node (o58B P) (.node (o90C P) (.node (o154D P) .nil .nil) .nil) (.node (o122C P) .nil .nil)))) (.node (o14A P) (.node (o22B P) (.node (o38B P) (.node (o70C P) (.node (o134C P) .nil .nil) .nil) (.node (o102C P) .nil .nil)) (.node (o54B P) (.node (o86C P) (.node (o150D P) .nil .nil) .nil) (.node (o118C P) .nil .nil))) (.node (o30B P) (.node (o46B P) (.node (o78C P) (.node (o142C P) .nil .nil) .nil) (.node (o110C P) .nil .nil)) (.node (o62B P) (.node (o94C P) (.node (o158D P) .nil .nil) .nil) (.node (o126C P) .nil .nil)))))))
noncomputable def posD : Pos := ⟨80, 0, 81, 30⟩
noncomputable def o3E (P : Params) : Obj := ⟨(.type "dict"), none, (.dict #[⟨PyData.keyHash P (Str.ofString "__name__"), (.str (Str.ofString "__name__") 165), (.str (Str.ofString "cpy313.stringprep") 351)⟩, ⟨PyData.keyHash P (Str.ofString "__doc__"), (.str (Str.ofString "__doc__") 166), .none⟩, ⟨PyData.keyHash P (Str.ofString "__package__"), (.str (Str.ofString "__package__") 167), .none⟩, ⟨PyData.keyHash P (Str.ofString "__loader__"), (.str (Str.ofString "__loader__") 168), (.builtin "__main__.__loader__#opaque")⟩, ⟨PyData.keyHash P (Str.ofString "__spec__"), (.str (Str.ofString "__spec__") 169), .none⟩, ⟨PyData.keyHash P (Str.ofString "__annotations__"), (.str (Str.ofString "__annotations__") 170), (.ref 6)⟩, ⟨PyData.keyHash P (Str.ofString "__builtins__"), (.str (Str.ofString "__builtins__") 171), (.ref 4)⟩, ⟨PyData.keyHash P (Str.ofString "__file__"), (.str (Str.ofString "__file__") 173), (.str (Str.ofString "/claim/cut.py") 172)⟩, ⟨PyData.keyHash P (Str.ofString "__cached__"), (.str (Str.ofString "__cached__") 174), .none⟩, ⟨PyData.keyHash P (Str.ofString "_wall"), (.str (Str.ofString "_wall") 193), (.ref 21)⟩, ⟨PyData.keyHash P (Str.ofString "and_"), (.str (Str.ofString "and_") 203), (.ref 28)⟩, ⟨PyData.keyHash P (Str.ofString "lshift"), (.str (Str.ofString "lshift") 211), (.ref 35)⟩, ⟨PyData.keyHash P (Str.ofString "or_"), (.str (Str.ofString "or_") 219), (.ref 42)⟩, ⟨PyData.keyHash P (Str.ofString "rshift"), (.str (Str.ofString "rshift") 227), (.ref 49)⟩, ⟨PyData.keyHash P (Str.ofString "xor"), (.str (Str.ofString "xor") 235), (.ref 56)⟩, ⟨PyData.keyHash P (Str.ofString "ELLIPSIS_MARKER"), (.str (Str.ofString "ELLIPSIS_MARKER") 239), (.str (Str.ofString "...") 238)⟩, ⟨PyData.keyHash P (Str.ofString "_ellipsis_match"), (.str (Str.ofString "_ellipsis_match") 251), (.ref 63)⟩, ⟨PyData.keyHash P (Str.ofString "EMPTYSTRING"), (.str (Str.ofString "EMPTYSTRING") 255), (.str (Str.ofString "") 254)⟩, ⟨PyData.keyHash P (Str.ofString "_Accumulator"), (.str (Str.ofString "_Accumulator") 350), (.ref 143)⟩, ⟨PyData.keyHash P (Str.ofString "b1_set"), (.str (Str.ofString "b1_set") 412), (.ref 155)⟩, ⟨PyData.keyHash P (Str.ofString "in_table_b1"), (.str (Str.ofString "in_table_b1") 419), (.ref 165)⟩, ⟨PyData.keyHash P (Str.ofString "b3_exceptions"), (.str (Str.ofString "b3_exceptions") 2370), (.ref 166)⟩] 22), #[]⟩
noncomputable def posE : Pos := ⟨82, 0, 82, 13⟩
noncomputable def o3F (P : Params) : Obj := ⟨(.type "dict"), none, (.dict #[⟨PyData.keyHash P (Str.ofString "__name__"), (.str (Str.ofString "__name__") 165), (.str (Str.ofString "law_wr0046_01") 2379)⟩, ⟨PyData.keyHash P (Str.ofString "__doc__"), (.str (Str.ofString "__doc__") 166), .none⟩, ⟨PyData.keyHash P (Str.ofString "__package__"), (.str (Str.ofString "__package__") 167), .none⟩, ⟨PyData.keyHash P (Str.ofString "__loader__"), (.str (Str.ofString "__loader__") 168), (.builtin "__main__.__loader__#opaque")⟩, ⟨PyData.keyHash P (Str.ofString "__spec__"), (.str (Str.ofString "__spec__") 169), .none⟩, ⟨PyData.keyHash P (Str.ofString "__annotations__"), (.str (Str.ofString "__annotations__") 170), (.ref 6)⟩, ⟨PyData.keyHash P (Str.ofString "__builtins__"), (.str (Str.ofString "__builtins__") 171), (.ref 4)⟩, ⟨PyData.keyHash P (Str.ofString "__file__"), (.str (Str.ofString "__file__") 173), (.str (Str.ofString "/claim/cut.py") 172)⟩, ⟨PyData.keyHash P (Str.ofString "__cached__"), (.str (Str.ofString "__cached__") 174), .none⟩, ⟨PyData.keyHash P (Str.ofString "_wall"), (.str (Str.ofString "_wall") 193), (.ref 21)⟩, ⟨PyData.keyHash P (Str.ofString "and_"), (.str (Str.ofString "and_") 203), (.ref 28)⟩, ⟨PyData.keyHash P (Str.ofString "lshift"), (.str (Str.ofString "lshift") 211), (.ref 35)⟩, ⟨PyData.keyHash P (Str.ofString "or_"), (.str (Str.ofString "or_") 219), (.ref 42)⟩, ⟨PyData.keyHash P (Str.ofString "rshift"), (.str (Str.ofString "rshift") 227), (.ref 49)⟩, ⟨PyData.keyHash P (Str.ofString "xor"), (.str (Str.ofString "xor") 235), (.ref 56)⟩, ⟨PyData.keyHash P (Str.ofString "ELLIPSIS_MARKER"), (.str (Str.ofString "ELLIPSIS_MARKER") 239), (.str (Str.ofString "...") 238)⟩, ⟨PyData.keyHash P (Str.ofString "_ellipsis_match"), (.str (Str.ofString "_ellipsis_match") 251), (.ref 63)⟩, ⟨PyData.keyHash P (Str.ofString "EMPTYSTRING"), (.str (Str.ofString "EMPTYSTRING") 255), (.str (Str.ofString "") 254)⟩, ⟨PyData.keyHash P (Str.ofString "_Accumulator"), (.str (Str.ofString "_Accumulator") 350), (.ref 143)⟩, ⟨PyData.keyHash P (Str.ofString "b1_set"), (.str (Str.ofString "b1_set") 412), (.ref 155)⟩, ⟨PyData.keyHash P (Str.ofString "in_table_b1"), (.str (Str.ofString "in_table_b1") 419), (.ref 165)⟩, ⟨PyData.keyHash P (Str.ofString "b3_exceptions"), (.str (Str.ofString "b3_exceptions") 2370), (.ref 166)⟩, ⟨PyData.keyHash P (Str.ofString "map_table_b3"), (.str (Str.ofString "map_table_b3") 2378), (.ref 211)⟩, ⟨PyData.keyHash P (Str.ofString "_law_typed"), (.str (Str.ofString "_law_typed") 2386), (.ref 216)⟩, ⟨PyData.keyHash P (Str.ofString "_law_prepared"), (.str (Str.ofString "_law_prepared") 2392), (.ref 221)⟩, ⟨PyData.keyHash P (Str.ofString "law"), (.str (Str.ofString "law") 2398), (.ref 226)⟩] 26), #[]⟩
noncomputable def o12F (P : Params) : Obj := ⟨.none, none, (.fields #[(.int (1) 0), (.int (0) 0), (.ref 20), (.int (5) 0), (.int (0) 0), (.ref 27), (.int (7) 0), (.int (0) 0), (.ref 34), (.int (9) 0), (.int (0) 0), (.ref 41), (.int (11) 0), (.int (0) 0), (.ref 48), (.int (13) 0), (.int (0) 0), (.ref 55), (.int (17) 0), (.int (0) 0), (.ref 62), (.int (47) 0), (.int (0) 0), (.ref 70), (.int (80) 0), (.int (0) 0), (.ref 164), (.int (83) 0), (.int (0) 0), (.ref 210), (.int (89) 0), (.int (0) 0), (.ref 215), (.int (107) 0), (.int (0) 0), (.ref 220), (.int (109) 0), (.int (0) 0), (.ref 225)]), #[]⟩
noncomputable def o205F (P : Params) : Obj := ⟨(.type "tuple"), none, (.seq #[] 0), #[]⟩
noncomputable def o206F (P : Params) : Obj := ⟨.none, none, (.fields #[]), #[]⟩
noncomputable def o207F (P : Params) : Obj := ⟨(.type "tuple"), none, (.seq #[(.str (Str.ofString "code") 2374), (.str (Str.ofString "r") 2375)] 0), #[]⟩
noncomputable def o208F (P : Params) : Obj := ⟨(.type "tuple"), none, (.seq #[] 0), #[]⟩
noncomputable def o209F (P : Params) : Obj := ⟨.none, none, (.func ⟨(Str.ofString "map_table_b3"), (Str.ofString "map_table_b3"), bA17, .stmts bB17, bS17, 0, [], .none, .none, .none, .none, none, .none, .none, 0⟩), #[]⟩
noncomputable def o210F (P : Params) : Obj := ⟨(.type "code"), none, (.fields #[(.str (Str.ofString "map_table_b3") 2371), (.str (Str.ofString "map_table_b3") 2372), (.str (Str.ofString "/claim/cut.py") 2373), (.int (83) 0), (.int (1) 0), (.int (0) 0), (.int (0) 0), (.int (3) 0), (.ref 205), (.bool true), (.int (181) 0), (.ref 206), .none, (.ref 207), (.ref 208), (.ref 209), (.int (2376) 0), (.int (83) 0), (.str (Str.ofString "/claim/cut.py") 2377)]), #[]⟩
noncomputable def o211F (P : Params) : Obj := ⟨(.type "function"), none, (.func ⟨(Str.ofString "map_table_b3"), (Str.ofString "map_table_b3"), bA17, .stmts bB17, bS17, 3, [], .none, .none, .none, (.str (Str.ofString "cpy313.stringprep") 351), none, (.ref 210), .none, 0⟩), #[]⟩
noncomputable def o212F (P : Params) : Obj := ⟨(.type "tuple"), none, (.seq #[] 0), #[]⟩
noncomputable def o213F (P : Params) : Obj := ⟨.none, none, (.fields #[]), #[]⟩
noncomputable def o214F (P : Params) : Obj := ⟨.none, none, (.func ⟨(Str.ofString "_law_typed"), (Str.ofString "_law_typed"), bA19, .stmts bB19, bS19, 0, [], .none, .none, .none, .none, none, .none, .none, 0⟩), #[]⟩
noncomputable def o215F (P : Params) : Obj := ⟨(.type "code"), none, (.fields #[(.str (Str.ofString "_law_typed") 2381), (.str (Str.ofString "_law_typed") 2382), (.str (Str.ofString "/claim/cut.py") 2383), (.int (89) 0), (.int (3) 0), (.int (0) 0), (.int (0) 0), (.int (3) 0), (.ref 212), (.bool true), (.int (181) 0), (.ref 213), .none, .none, .none, (.ref 214), (.int (2384) 0), (.int (89) 0), (.str (Str.ofString "/claim/cut.py") 2385)]), #[]⟩
noncomputable def o216F (P : Params) : Obj := ⟨(.type "function"), none, (.func ⟨(Str.ofString "_law_typed"), (Str.ofString "_law_typed"), bA19, .stmts bB19, bS19, 3, [], .none, .none, .none, (.str (Str.ofString "law_wr0046_01") 2379), none, (.ref 215), .none, 0⟩), #[]⟩
noncomputable def o217F (P : Params) : Obj := ⟨(.type "tuple"), none, (.seq #[] 0), #[]⟩
noncomputable def o218F (P : Params) : Obj := ⟨.none, none, (.fields #[]), #[]⟩
noncomputable def o219F (P : Params) : Obj := ⟨.none, none, (.func ⟨(Str.ofString "_law_prepared"), (Str.ofString "_law_prepared"), bA20, .stmts bB20, bS20, 0, [], .none, .none, .none, .none, none, .none, .none, 0⟩), #[]⟩
noncomputable def o220F (P : Params) : Obj := ⟨(.type "code"), none, (.fields #[(.str (Str.ofString "_law_prepared") 2387), (.str (Str.ofString "_law_prepared") 2388), (.str (Str.ofString "/claim/cut.py") 2389), (.int (107) 0), (.int (1) 0), (.int (0) 0), (.int (0) 0), (.int (3) 0), (.ref 217), (.bool true), (.int (181) 0), (.ref 218), .none, .none, .none, (.ref 219), (.int (2390) 0), (.int (107) 0), (.str (Str.ofString "/claim/cut.py") 2391)]), #[]⟩
noncomputable def o221F (P : Params) : Obj := ⟨(.type "function"), none, (.func ⟨(Str.ofString "_law_prepared"), (Str.ofString "_law_prepared"), bA20, .stmts bB20, bS20, 3, [], .none, .none, .none, (.str (Str.ofString "law_wr0046_01") 2379), none, (.ref 220), .none, 0⟩), #[]⟩
noncomputable def o222F (P : Params) : Obj := ⟨(.type "tuple"), none, (.seq #[] 0), #[]⟩
noncomputable def o223F (P : Params) : Obj := ⟨.none, none, (.fields #[]), #[]⟩
noncomputable def o224F (P : Params) : Obj := ⟨.none, none, (.func ⟨(Str.ofString "law"), (Str.ofString "law"), bA21, .stmts bB21, bS21, 0, [], .none, .none, .none, .none, none, .none, .none, 0⟩), #[]⟩
noncomputable def o225F (P : Params) : Obj := ⟨(.type "code"), none, (.fields #[(.str (Str.ofString "law") 2393), (.str (Str.ofString "law") 2394), (.str (Str.ofString "/claim/cut.py") 2395), (.int (109) 0), (.int (1) 0), (.int (0) 0), (.int (0) 0), (.int (3) 0), (.ref 222), (.bool true), (.int (181) 0), (.ref 223), .none, .none, .none, (.ref 224), (.int (2396) 0), (.int (109) 0), (.str (Str.ofString "/claim/cut.py") 2397)]), #[]⟩
noncomputable def o226F (P : Params) : Obj := ⟨(.type "function"), none, (.func ⟨(Str.ofString "law"), (Str.ofString "law"), bA21, .stmts bB21, bS21, 3, [], .none, .none, .none, (.str (Str.ofString "law_wr0046_01") 2379), none, (.ref 225), .none, 0⟩), #[]⟩
noncomputable def posF : Pos := ⟨109, 0, 200, 80⟩
def envT : Env := { scope := pw.main.scope, locals := mainNs, globals := mainNs, cells := [], code := .ref 13, frame := some 14 }
def bodT : List Stmt := behindTheImports pw
abbrev cdT : Code := .body bodT envT
abbrev qT : Pos := ⟨0, 0, 0, 0⟩
abbrev annT : Option Value := some (.ref 6)
abbrev shT (t : BT) (n k : Nat) (os : OsState) : SharedT := ⟨t, n, {}, #[], {}, k, os⟩
def sts (a k : Nat) : List Stmt := (pw.main.body.drop a).take k
end
end Mine
end
section
open PySem PySem.W PyProof.Rows PySem.Spec PySem.Calls
namespace Mine
theorem pcB (w : World) (os : OsState) : segRunT treeTable pw w 11 annT 1 279 (shT (treeA w.params) 15 187 os) (piecesOf (sts 0 12) envT cdT posA [topFrame qT]) =
    some (.next, shT (treeB w.params) 64 256 os, cdT, posB) := by kernel_rfl
theorem pcC (w : World) (os : OsState) : segRunT treeTable pw w 11 annT 1 513 (shT (treeB w.params) 64 256 os) (piecesOf (sts 12 2) envT cdT posB [topFrame qT]) =
    some (.next, shT (treeC w.params) 148 353 os, cdT, posC) := by
  rw [Fast.te10110043849684766642, Fast.te14364793385576792824]; kernel_rfl
end Mine
end
section
open PySem PySem.W PyProof.Rows PySem.Spec PySem.Calls
namespace Mine
theorem pcD (os : OsState) : ∀ w : World, segRunT treeTable pw w 11 annT 1 1028 (shT (treeC w.params) 148 353 os) (piecesOf (sts 14 2) envT cdT posC [topFrame qT]) =
    some (.next, shT (treeD w.params) 166 420 os, cdT, posD) := by
  rw [Fast.te10110043849684766642, Fast.te14364793385576792824]
  refine byRow2 "set-order" (byRow2 "special-get-raises" ?_ ?_) (byRow2 "special-get-raises" ?_ ?_)
  · intro w; kernel_rfl
  · intro w; kernel_rfl
  · intro w; kernel_rfl
  · intro w; kernel_rfl
end Mine
end
section
open PySem PySem.W PyProof.Rows PySem.Spec PySem.Calls
namespace Mine
section
variable {w : World} {α β : Type}
/-- one run of a tree at the top, whatever stands behind it -/
noncomputable def Ev (w : World) (t : Sem α) (s : Shared) (p : Pos) (n : Nat) (a : α) (s' : Shared) (p' : Pos) : Prop :=
  ∀ (K : α → Sem Fin) (H : Value → Sem Fin) (gd : Bool → Bool) (lv : List Value → List Value),
    segGo treeTable pw w 11 annT 1 n s ⟨t.wrap K H gd lv, cdT, p, [topFrame qT]⟩ = some (s', ⟨K a, cdT, p', [topFrame qT]⟩)
theorem segGo_add {n m : Nat} : ∀ {s s₁ : Shared} {t t₁ : Thread} {r}, segGo treeTable pw w 11 annT 1 n s t = some (s₁, t₁) → segGo treeTable pw w 11 annT 1 m s₁ t₁ = r → segGo treeTable pw w 11 annT 1 (n + m) s t = r := by
  induction n with
  | zero =>
    intro s s₁ t t₁ r h k
    obtain ⟨rfl, rfl⟩ : s = s₁ ∧ t = t₁ := by simpa [segGo] using h
    rw [Nat.zero_add]; exact k
  | succ n ih =>
    intro s s₁ t t₁ r h k
    rw [show n + 1 + m = n + m + 1 by omega]
    unfold segGo at h ⊢
    cases he : endAt 1 t with
    | some f => rw [he] at h; cases h
    | none =>
      rw [he] at h
      cases hk : stepOk 11 annT t with
      | false => rw [hk] at h; cases h
      | true =>
        rw [hk] at h
        cases hs : step (denote treeTable) pw w s t with
        | halt o s₂ => rw [hs] at h; cases h
        | go s₂ t₂ => rw [hs] at h; exact ih h k
variable {s s₁ s₂ : Shared} {p p₁ p₂ : Pos} {n m : Nat}
theorem Ev.pure (a : α) : Ev w (Sem.pure a) s p 0 a s p := fun _ _ _ _ => rfl
theorem Ev.bind {t : Sem α} {f : α → Sem β} {a : α} {b : β} (h : Ev w t s p n a s₁ p₁) (k : Ev w (f a) s₁ p₁ m b s₂ p₂) : Ev w (t.bind f) s p (n + m) b s₂ p₂ := by
  intro K H gd lv
  rw [Sem.bind_eq_wrap, Sem.wrap_wrap]
  exact segGo_add (h _ _ _ _) (k K H gd lv)
theorem Ev.bind' {t : Sem α} {f : α → Sem β} {a : α} {b : β} (h : Ev w t s p n a s₁ p₁) (k : Ev w (f a) s₁ p₁ m b s₂ p₂) : Ev w (t >>= f) s p (n + m) b s₂ p₂ := h.bind k
theorem Ev.keep {t : Sem α} {vs : List Value} {a : α} (h : Ev w t s p n a s₁ p₁) : Ev w (t.keep vs) s p n a s₁ p₁ := by
  intro K H gd lv
  rw [Sem.keep_eq_wrap, Sem.wrap_wrap]
  exact h _ _ _ _
theorem Ev.holding {t : Sem α} {vs : List Value} {a : α} (h : Ev w t s p n a s₁ p₁) : Ev w (PySem.holding vs t) s p n a s₁ p₁ := by
  unfold PySem.holding
  split
  · exact h
  · exact h.keep
theorem Ev.at {q : Pos} {k : Unit → Sem α} {a : α} (h : Ev w (k ()) s q n a s₁ p₁) : Ev w (.at q k) s p (n + 1) a s₁ p₁ := fun K H gd lv => h K H gd lv
theorem Ev.rule {tg : String} {k : Unit → Sem α} {a : α} (h : Ev w (k ()) s p n a s₁ p₁) : Ev w (.rule tg k) s p (n + 1) a s₁ p₁ := fun K H gd lv => h K H gd lv
theorem Ev.fresh {h : Heap} {g : Array GenState} {d : Drawn} {tk : Nat} {os : OsState} {k : Tok → Sem α} {a : α} (x : Ev w (k tk) ⟨h, g, d, tk + 1, os⟩ p n a s₁ p₁) : Ev w (.fresh k) ⟨h, g, d, tk, os⟩ p (n + 1) a s₁ p₁ := fun K H gd lv => x K H gd lv
theorem Ev.alloc {h : Heap} {g : Array GenState} {d : Drawn} {tk : Nat} {os : OsState} {o : Obj} {k : Addr → Sem α} {a : α} (x : Ev w (k h.objs.size) ⟨h.push o, g, d, tk, os⟩ p n a s₁ p₁) : Ev w (.alloc o k) ⟨h, g, d, tk, os⟩ p (n + 1) a s₁ p₁ := fun K H gd lv => x K H gd lv
theorem Ev.load {h : Heap} {g : Array GenState} {d : Drawn} {tk : Nat} {os : OsState} {b : Addr} {part : Option Value} {o : Obj} {k : Obj → Sem α} {a : α} (ho : h.get? b = some o) (x : Ev w (k o) ⟨h, g, d, tk, os⟩ p n a s₁ p₁) :
    Ev w (.load b part k) ⟨h, g, d, tk, os⟩ p (n + 1) a s₁ p₁ := by
  intro K H gd lv
  have := x K H gd lv
  show (match step (denote treeTable) pw w ⟨h, g, d, tk, os⟩ ⟨Sem.load b part fun y => (k y).wrap K H gd lv, cdT, p, [topFrame qT]⟩ with | .go s' t' => segGo treeTable pw w 11 annT 1 n s' t' | .halt _ _ => none) = _
  simp only [step, ho]
  exact this
theorem Ev.update {h : Heap} {g : Array GenState} {d : Drawn} {tk : Nat} {os : OsState} {b : Addr} {part : Option Value} {o : Obj} {f : Obj → Obj} {k : Unit → Sem α} {a : α} (ho : h.get? b = some o) (hb : 11 ≤ b) (x : Ev w (k ()) ⟨h.update b f, g, d, tk, os⟩ p n a s₁ p₁) :
    Ev w (.update b part f k) ⟨h, g, d, tk, os⟩ p (n + 1) a s₁ p₁ := by
  intro K H gd lv
  have := x K H gd lv
  have hk : stepOk 11 annT ⟨Sem.update b part f fun y => (k y).wrap K H gd lv, cdT, p, [topFrame qT]⟩ = true := by
    show (true && (Nat.ble 11 b || b == mainNs || b == cStatics || annT == some (.ref b))) = true
    rw [Nat.ble_eq_true_of_le hb]; rfl
  show (match stepOk 11 annT ⟨Sem.update b part f fun y => (k y).wrap K H gd lv, cdT, p, [topFrame qT]⟩ with
    | false => none
    | true => match step (denote treeTable) pw w ⟨h, g, d, tk, os⟩ ⟨Sem.update b part f fun y => (k y).wrap K H gd lv, cdT, p, [topFrame qT]⟩ with | .go s' t' => segGo treeTable pw w 11 annT 1 n s' t' | .halt _ _ => none) = _
  rw [hk]
  simp only [step, ho, Option.isSome_some, if_true]
  exact this
end
theorem sp_hash (k : Int) (t : Tok) : specialOf (.int k t) "__hash__" = pure (some (.builtin "int.__hash__")) := by
  show typeLookup (.type "int") "__hash__" = _
  rw [typeLookup_type, builtinLookup_eq_fast]; kernel_rfl
theorem call_hash (w : World) (k : Int) (t : Tok) (r : Sem Value) (h : Heap) (g : Array GenState) (d : Drawn) (tk : Nat) (os : OsState) (p : Pos) :
    Ev w (callSpecialIfBoundUnlessNone? (.int k t) "__hash__" r) ⟨h, g, d, tk, os⟩ p 5 (some (.int (rawHash k) tk)) ⟨h, g, d, tk + 1, os⟩ p := by
  intro K H gd lv
  revert w
  refine byRow2 "special-get-raises" ?_ ?_
  · intro w; kernel_rfl
  · intro w; kernel_rfl
end Mine
end
section
open PySem PySem.W PyProof.Rows PySem.Spec PySem.Calls
namespace Mine
theorem rawHash_small (k : Int) (h0 : 0 ≤ k) (h1 : k < 2305843009213693951) : rawHash k = k := by
  have e : k.natAbs % (2 ^ 61 - 1) = k.natAbs := Nat.mod_eq_of_lt (by omega)
  have e1 : ((k.natAbs % (2 ^ 61 - 1 : Nat) : Nat) : Int) = k := by rw [e]; omega
  have hn : ¬ k < 0 := by omega
  have hm : (k == -1) = false := by
    cases q : (k == -1) with
    | false => rfl
    | true => have := eq_of_beq q; omega
  show (if ((if k < 0 then -((k.natAbs % (2 ^ 61 - 1 : Nat) : Nat) : Int) else ((k.natAbs % (2 ^ 61 - 1 : Nat) : Nat) : Int)) == -1) = true then (-2 : Int) else (if k < 0 then -((k.natAbs % (2 ^ 61 - 1 : Nat) : Nat) : Int) else ((k.natAbs % (2 ^ 61 - 1 : Nat) : Nat) : Int))) = k
  rw [e1, if_neg hn, hm]
  rfl
section
variable {w : World} {h : Heap} {g : Array GenState} {d : Drawn} {tk : Nat} {os : OsState} {p : Pos}
theorem ev_hash (k : Int) (t : Tok) (h0 : 0 ≤ k) (h1 : k < 2305843009213693951) : Ev w (pyHash (.int k t)) ⟨h, g, d, tk, os⟩ p 5 k ⟨h, g, d, tk + 1, os⟩ p := by
  show Ev w (pyHashByItsType (.int k t)) _ _ _ _ _ _
  unfold pyHashByItsType
  refine Ev.bind' (n := 0) (m := 5) (Ev.pure ()) ?_
  refine Ev.bind' (n := 0) (m := 5) (a := some (.builtin "int.__hash__")) (by rw [sp_hash]; exact Ev.pure _) ?_
  refine Ev.bind' (n := 0) (m := 5) (a := some (.builtin "int.__hash__")) (by rw [sp_hash]; exact Ev.pure _) ?_
  refine Ev.bind' (n := 5) (m := 0) (call_hash w k t _ h g d tk os p) ?_
  rw [rawHash_small k h0 h1]
  show Ev w (if (decide (-(2 ^ 63 : Int) ≤ k) && decide (k < 2 ^ 63)) = true then _ else _) _ _ _ _ _ _
  rw [if_pos (by rw [Bool.and_eq_true]; exact ⟨decide_eq_true (by omega), decide_eq_true (by omega)⟩)]
  rw [if_neg (by simp; omega)]
  exact Ev.pure _
end
end Mine
end
section
open PySem PySem.W PyProof.Rows PySem.Spec PySem.Calls
namespace Mine
noncomputable section
noncomputable def dictO (es : List DictEntry) (n : Nat) : Obj := ⟨.type "dict", none, .dict es.toArray n, #[]⟩
noncomputable def entO (k : Int) (s : Str) (t : Nat) : DictEntry := ⟨k, .int k t, .str s (t + 1)⟩
noncomputable abbrev hpO (L : List Obj) : Heap := ⟨L.toArray, {}⟩
noncomputable abbrev S (L : List Obj) (k : Nat) (os : OsState) : Shared := ⟨hpO L, #[], {}, k, os⟩
theorem get_hp {L : List Obj} {a : Nat} {o : Obj} (h : L[a]? = some o) (hf : o.isFreed = false) : (hpO L).get? a = some o := by
  unfold Heap.get?
  have : (hpO L).objs[a]? = some o := by simpa using h
  rw [this]
  obtain ⟨c, d, dt, sl⟩ := o
  cases dt <;> first | rfl | (simp [Obj.isFreed] at hf)
theorem dictO_free (es n) : (dictO es n).isFreed = false := rfl
theorem upd_hp (L : List Obj) (a : Nat) (f : Obj → Obj) : (hpO L).update a f = hpO (L.modify a f) := by
  show Heap.mk (L.toArray.modify a f) {} = Heap.mk _ {}
  rw [List.modify_toArray]
theorem push_hp (L : List Obj) (o : Obj) : (hpO L).push o = hpO (L ++ [o]) := by
  show Heap.mk (L.toArray.push o) {} = Heap.mk _ {}
  rw [List.push_toArray]
theorem size_hp (L : List Obj) : (hpO L).objs.size = L.length := by simp
theorem get_mid {L1 L2 : List Obj} {o : Obj} : (L1 ++ o :: L2)[L1.length]? = some o := by simp
theorem mod_mid {L1 L2 : List Obj} {o : Obj} (f : Obj → Obj) : (L1 ++ o :: L2).modify L1.length f = L1 ++ f o :: L2 := by
  induction L1 with
  | nil => rfl
  | cons x r ih => exact congrArg (x :: ·) ih
theorem no_places {es : List DictEntry} {k : Int} (hlt : ∀ e ∈ es, e.hash < k) : placesWithHash es.toArray.size (fun i => es.toArray[i]?.map (·.hash)) k = [] := by
  unfold placesWithHash
  rw [List.filter_eq_nil_iff]
  intro i hi hc
  have hi' : i < es.length := by simpa using hi
  have : es.toArray[i]? = some es[i] := by simp [hi']
  dsimp only at hc
  rw [this] at hc
  have h2 : es[i].hash = k := by simpa using hc
  have := hlt es[i] (List.getElem_mem hi')
  omega
section
variable {w : World} {tk : Nat} {os : OsState} {p : Pos} {L1 L2 : List Obj} {es : List DictEntry} {n : Nat}
theorem ev_load' {α : Type} {L : List Obj} {a : Nat} {o : Obj} {part : Option Value} {k : Obj → Sem α} {x : α} {s' : Shared} {p' : Pos} {m : Nat} (h : L[a]? = some o) (hf : o.isFreed = false) (e : Ev w (k o) (S L tk os) p m x s' p') :
    Ev w (.load a part k) (S L tk os) p (m + 1) x s' p' := Ev.load (get_hp h hf) e
theorem ev_entries (part : Option Value) : Ev w (dictEntries L1.length part) (S (L1 ++ dictO es n :: L2) tk os) p 1 es.toArray (S (L1 ++ dictO es n :: L2) tk os) p := by
  unfold dictEntries loadPart
  exact Ev.bind' (n := 1) (m := 0) (ev_load' get_mid rfl (Ev.pure _)) (Ev.pure _)
theorem ev_epoch (part : Option Value) : Ev w (dictEpoch L1.length part) (S (L1 ++ dictO es n :: L2) tk os) p 1 n (S (L1 ++ dictO es n :: L2) tk os) p := by
  unfold dictEpoch loadPart
  exact Ev.bind' (n := 1) (m := 0) (ev_load' get_mid rfl (Ev.pure _)) (Ev.pure _)
theorem ev_find {k : Int} {t : Tok} (hlt : ∀ e ∈ es, e.hash < k) : Ev w (dictFind L1.length (.int k t) k) (S (L1 ++ dictO es n :: L2) tk os) p 1 none (S (L1 ++ dictO es n :: L2) tk os) p := by
  unfold dictFind
  refine Ev.holding ?_
  refine Ev.bind' (n := 1) (m := 0) (ev_entries _) ?_
  dsimp only
  rw [no_places hlt]
  exact Ev.bind' (n := 0) (m := 0) (a := none) (Ev.pure _) (Ev.pure _)
theorem ev_look {part : Option Value} (hsz : es.length < 1000) : Ev w (lookBehind L1.length part) (S (L1 ++ dictO es n :: L2) tk os) p 1 () (S (L1 ++ dictO es n :: L2) tk os) p := by
  unfold lookBehind loadPart
  refine Ev.bind' (n := 1) (m := 0) (ev_load' get_mid rfl (Ev.pure _)) ?_
  have e : (dictO es n).data.pastItsLine = none := by
    show (if es.toArray.size > sizeLine + 1 then some "dict:memory" else none) = none
    rw [if_neg]
    simp only [List.size_toArray, sizeLine]; omega
  rw [e]
  exact Ev.pure _
theorem ev_push {k : Int} {t : Tok} {v : Value} {part : Option Value} (hsz : es.length < 900) (ha : 11 ≤ L1.length) :
    Ev w (updateDictKeys L1.length (·.push ⟨k, .int k t, v⟩) part) (S (L1 ++ dictO es n :: L2) tk os) p 3 () (S (L1 ++ dictO (es ++ [⟨k, .int k t, v⟩]) (n + 1) :: L2) tk os) p := by
  unfold updateDictKeys loadPart updatePart
  refine Ev.bind' (n := 1) (m := 2) (ev_load' get_mid rfl (Ev.pure _)) ?_
  dsimp only [dictO]
  refine Ev.bind' (n := 1) (m := 1) (a := ()) (p₁ := p) (s₁ := S (L1 ++ dictO (es ++ [⟨k, .int k t, v⟩]) (n + 1) :: L2) tk os) (Ev.update (o := dictO es n) (get_hp get_mid rfl) ha ?_) ?_
  · have e : (hpO (L1 ++ dictO es n :: L2)).update L1.length (Obj.mapDictKeys (·.push ⟨k, .int k t, v⟩)) = hpO (L1 ++ dictO (es ++ [⟨k, .int k t, v⟩]) (n + 1) :: L2) := by
      rw [upd_hp, mod_mid]
      unfold dictO Obj.mapDictKeys
      rw [← List.push_toArray]
    show Ev w (Sem.pure ()) ⟨(hpO (L1 ++ dictO es n :: L2)).update L1.length (Obj.mapDictKeys (·.push ⟨k, .int k t, v⟩)), #[], {}, tk, os⟩ p 0 () _ p
    rw [e]
    exact Ev.pure _
  · exact ev_look (by simp; omega)
theorem ev_set {k : Int} {t : Tok} {v : Value} (h0 : 0 ≤ k) (h1 : k < 2305843009213693951) (hlt : ∀ e ∈ es, e.hash < k) (hsz : es.length < 900) (ha : 11 ≤ L1.length) :
    Ev w (dictSet L1.length (.int k t) v) (S (L1 ++ dictO es n :: L2) tk os) p 10 () (S (L1 ++ dictO (es ++ [⟨k, .int k t, v⟩]) (n + 1) :: L2) (tk + 1) os) p := by
  unfold dictSet
  refine Ev.holding ?_
  refine Ev.bind' (n := 5) (m := 5) (ev_hash k t h0 h1) ?_
  unfold dictSetHashed
  refine Ev.holding ?_
  refine Ev.bind' (n := 1) (m := 4) (ev_find hlt) ?_
  dsimp only
  refine Ev.bind' (n := 1) (m := 3) (a := ()) (Ev.rule (Ev.pure _)) ?_
  exact ev_push hsz ha
/-- one entry of a long sub-dict: the key, the value, the store -/
theorem ev_entry {k : Int} {x : Str} {q : Pos} (h0 : 0 ≤ k) (h1 : k < 2305843009213693951) (hlt : ∀ e ∈ es, e.hash < k) (hsz : es.length < 900) (ha : 11 ≤ L1.length) :
    Ev w (do let kv ← mkInt k; let vv ← holding [kv] (do let y ← mkText x; standAt q; pure y); holding [kv, vv] (dictSet L1.length kv vv)) (S (L1 ++ dictO es n :: L2) tk os) p 13 ()
      (S (L1 ++ dictO (es ++ [entO k x tk]) (n + 1) :: L2) (tk + 3) os) q := by
  refine Ev.bind' (n := 1) (m := 12) (a := .int k tk) (s₁ := S (L1 ++ dictO es n :: L2) (tk + 1) os) (Ev.bind' (n := 1) (m := 0) (Ev.fresh (Ev.pure _)) (Ev.pure _)) ?_
  refine Ev.bind' (n := 2) (m := 10) (a := .str x (tk + 1)) (s₁ := S (L1 ++ dictO es n :: L2) (tk + 2) os) (p₁ := q) (Ev.holding ?_) (Ev.holding ?_)
  · refine Ev.bind' (n := 1) (m := 1) (Ev.bind' (n := 1) (m := 0) (Ev.fresh (Ev.pure _)) (Ev.pure _)) ?_
    exact Ev.bind' (n := 1) (m := 0) (a := ()) (Ev.at (Ev.pure _)) (Ev.pure _)
  · exact ev_set h0 h1 hlt hsz ha
end
end
end Mine
end
section
open PySem PySem.W PyProof.Rows PySem.Spec PySem.Calls
namespace Mine
noncomputable section
noncomputable def valI (q : Pos) (x : Str) : Sem Value := do let y ← mkText x; standAt q; pure y
noncomputable abbrev prI (q : Pos) (b : Int × Str) : Sem Value × Sem Value := (mkInt b.1, valI q b.2)
noncomputable def entsFrom : Nat → List (Int × Str) → List DictEntry
  | _, [] => []
  | t, b :: r => entO b.1 b.2 t :: entsFrom (t + 3) r
theorem entsFrom_len : ∀ (l : List (Int × Str)) (t : Nat), (entsFrom t l).length = l.length
  | [], _ => rfl
  | _ :: r, t => congrArg (· + 1) (entsFrom_len r (t + 3))
theorem entsFrom_mem : ∀ (l : List (Int × Str)) (t : Nat), ∀ e ∈ entsFrom t l, ∃ b ∈ l, e.hash = b.1
  | [], _, _, h => by cases h
  | b :: r, t, e, h => by
    rcases List.mem_cons.mp h with rfl | h
    · exact ⟨b, List.mem_cons_self .., rfl⟩
    · obtain ⟨c, hc, e⟩ := entsFrom_mem r (t + 3) e h
      exact ⟨c, List.mem_cons_of_mem _ hc, e⟩
/-- keys that rise, none below nought, none too great -/
noncomputable def Rise (l : List (Int × Str)) : Prop := l.Pairwise (fun a b => a.1 < b.1) ∧ ∀ b ∈ l, 0 ≤ b.1 ∧ b.1 < 2305843009213693951
section
variable {w : World} {os : OsState} {L1 L2 : List Obj}
theorem ev_loop (q : Pos) (ha : 11 ≤ L1.length) (f : Sem Value × Sem Value → PUnit → Sem (ForInStep PUnit))
    (hf : ∀ (b : Int × Str) (es : List DictEntry) (n tk : Nat), 0 ≤ b.1 → b.1 < 2305843009213693951 → (∀ e ∈ es, e.hash < b.1) → es.length < 900 →
      Ev w (f (prI q b) ⟨⟩) (S (L1 ++ dictO es n :: L2) tk os) q 13 (.yield ⟨⟩) (S (L1 ++ dictO (es ++ [entO b.1 b.2 tk]) (n + 1) :: L2) (tk + 3) os) q) :
    ∀ (l : List (Int × Str)) (es : List DictEntry) (n tk : Nat), Rise l → (∀ e ∈ es, ∀ b ∈ l, e.hash < b.1) → es.length + l.length ≤ 900 →
      Ev w (forIn (l.map (prI q)) PUnit.unit f) (S (L1 ++ dictO es n :: L2) tk os) q (13 * l.length) ⟨⟩ (S (L1 ++ dictO (es ++ entsFrom tk l) (n + l.length) :: L2) (tk + 3 * l.length) os) q
  | [], es, n, tk, _, _, _ => by
    rw [show entsFrom tk [] = [] from rfl, List.append_nil]
    exact Ev.pure _
  | b :: r, es, n, tk, hr, hlt, hl => by
    obtain ⟨hp, hb⟩ := hr
    obtain ⟨hb0, hb1⟩ := hb b (List.mem_cons_self ..)
    rw [List.map_cons, List.forIn_cons]
    have e1 := hf b es n tk hb0 hb1 (fun e he => hlt e he b (List.mem_cons_self ..)) (by simp only [List.length_cons] at hl; omega)
    have hp' := List.pairwise_cons.mp hp
    have e2 := ev_loop q ha f hf r (es ++ [entO b.1 b.2 tk]) (n + 1) (tk + 3) ⟨hp'.2, fun c hc => hb c (List.mem_cons_of_mem _ hc)⟩
      (fun e he c hc => by
        rcases List.mem_append.mp he with he | he
        · exact hlt e he c (List.mem_cons_of_mem _ hc)
        · rw [List.mem_singleton.mp he]; exact hp'.1 c hc)
      (by simp only [List.length_append, List.length_cons, List.length_nil] at hl ⊢; omega)
    have k1 : 13 * (b :: r).length = 13 + 13 * r.length := by simp only [List.length_cons]; omega
    have k2 : n + (b :: r).length = n + 1 + r.length := by simp only [List.length_cons]; omega
    have k3 : tk + 3 * (b :: r).length = tk + 3 + 3 * r.length := by simp only [List.length_cons]; omega
    have k4 : es ++ entsFrom tk (b :: r) = es ++ [entO b.1 b.2 tk] ++ entsFrom (tk + 3) r := by rw [List.append_assoc]; rfl
    rw [k1, k2, k3, k4]
    exact Ev.bind' e1 e2
theorem ev_sub (q : Pos) {L : List Obj} {tk : Nat} (l : List (Int × Str)) (hl : l.length = 17) (hr : Rise l) (ha : 11 ≤ L.length) :
    Ev w (subDict (l.map (prI q))) (S L tk os) q 223 L.length (S (L ++ [dictO (entsFrom tk l) 17]) (tk + 51) os) q := by
  unfold subDict
  refine Ev.bind' (n := 1) (m := 222) (a := L.length) (s₁ := S (L ++ [dictO [] 0]) tk os) (p₁ := q) ?_ ?_
  · have := Ev.alloc (w := w) (h := hpO L) (g := #[]) (d := {}) (tk := tk) (os := os) (p := q) (n := 0) (o := dictO [] 0) (k := Sem.pure) (a := L.length) (s₁ := S (L ++ [dictO [] 0]) tk os) (p₁ := q)
      (by rw [push_hp, size_hp]; exact Ev.pure _)
    exact this
  · refine Ev.bind' (n := 222) (m := 0) (a := ()) (s₁ := S (L ++ [dictO (entsFrom tk l) 17]) (tk + 51) os) (p₁ := q) (Ev.holding ?_) (Ev.pure _)
    rw [if_neg (by rw [List.length_map, hl]; omega)]
    refine Ev.bind' (n := 1) (m := 221) (a := ()) (Ev.rule (Ev.pure _)) ?_
    have := ev_loop (w := w) (os := os) (L1 := L) (L2 := []) q ha (fun x _ => do
        let kv ← x.1
        let vv ← holding [kv] x.2
        holding [kv, vv] (dictSet L.length kv vv)
        Pure.pure (ForInStep.yield PUnit.unit)) (fun b es n tk h0 h1 hlt hsz => ?_) l [] 0 tk hr (fun e he => by cases he) (by rw [hl]; decide)
    · rw [hl] at this
      exact Ev.bind' (n := 221) (m := 0) (a := PUnit.unit) this (Ev.pure _)
    · refine Ev.bind' (n := 1) (m := 12) (a := .int b.1 tk) (s₁ := S (L ++ dictO es n :: []) (tk + 1) os) (p₁ := q) (Ev.bind' (n := 1) (m := 0) (Ev.fresh (Ev.pure _)) (Ev.pure _)) ?_
      refine Ev.bind' (n := 2) (m := 10) (a := .str b.2 (tk + 1)) (s₁ := S (L ++ dictO es n :: []) (tk + 2) os) (p₁ := q) (Ev.holding ?_) ?_
      · refine Ev.bind' (n := 1) (m := 1) (Ev.bind' (n := 1) (m := 0) (Ev.fresh (Ev.pure _)) (Ev.pure _)) ?_
        exact Ev.bind' (n := 1) (m := 0) (a := ()) (Ev.at (Ev.pure _)) (Ev.pure _)
      · exact Ev.bind' (n := 10) (m := 0) (Ev.holding (ev_set h0 h1 hlt hsz ha)) (Ev.pure _)
end
end
end Mine
end
section
open PySem PySem.W PyProof.Rows PySem.Spec PySem.Calls
namespace Mine
noncomputable section
theorem Ev.pbind {w : World} {α β : Type} {a : α} {f : α → Sem β} {s s₁ : Shared} {p p₁ : Pos} {n : Nat} {b : β} (h : Ev w (f a) s p n b s₁ p₁) : Ev w (Pure.pure a >>= f) s p n b s₁ p₁ := h
theorem Ev.onRaise {w : World} {α : Type} {t : Sem α} {hd : Value → Sem Unit} {s s₁ : Shared} {p p₁ : Pos} {n : Nat} {a : α} (h : Ev w t s p n a s₁ p₁) : Ev w (t.onRaise hd) s p n a s₁ p₁ := by
  intro K H gd lv
  rw [Sem.onRaise_eq_wrap, Sem.wrap_wrap]
  exact h _ _ _ _
section
variable {w : World} {os : OsState} {L1 M : List Obj} {sub : List DictEntry} {ns tk : Nat}
noncomputable abbrev two (L1 M : List Obj) (sub : List DictEntry) (ns : Nat) (es : List DictEntry) (n : Nat) : List Obj := L1 ++ dictO es n :: (M ++ [dictO sub ns])
theorem two_sub {es n} : (two L1 M sub ns es n)[L1.length + 1 + M.length]? = some (dictO sub ns) := by
  rw [List.getElem?_append_right (by omega)]
  rw [show L1.length + 1 + M.length - L1.length = M.length + 1 by omega, List.getElem?_cons_succ]
  simp
theorem ev_entries2 {es n} (part : Option Value) {p : Pos} : Ev w (dictEntries (L1.length + 1 + M.length) part) (S (two L1 M sub ns es n) tk os) p 1 sub.toArray (S (two L1 M sub ns es n) tk os) p := by
  unfold dictEntries loadPart
  exact Ev.bind' (n := 1) (m := 0) (ev_load' two_sub rfl (Ev.pure _)) (Ev.pure _)
theorem ev_epoch2 {es n} (part : Option Value) {p : Pos} : Ev w (dictEpoch (L1.length + 1 + M.length) part) (S (two L1 M sub ns es n) tk os) p 1 ns (S (two L1 M sub ns es n) tk os) p := by
  unfold dictEpoch loadPart
  exact Ev.bind' (n := 1) (m := 0) (ev_load' two_sub rfl (Ev.pure _)) (Ev.pure _)
theorem ev_mloop (q : Pos) (f : Nat → PUnit → Sem (ForInStep PUnit))
    (hf : ∀ (i : Nat) (e : DictEntry) (es : List DictEntry) (n : Nat), sub[i]? = some e → (∀ x ∈ es, x.hash < e.hash) → es.length < 900 →
      Ev w (f i ⟨⟩) (S (two L1 M sub ns es n) tk os) q 6 (.yield ⟨⟩) (S (two L1 M sub ns (es ++ [e]) (n + 1)) tk os) q) (hp : sub.Pairwise fun a b => a.hash < b.hash) :
    ∀ (m i : Nat) (es : List DictEntry) (n : Nat), i + m = sub.length → (∀ x ∈ es, ∀ e ∈ sub.drop i, x.hash < e.hash) → es.length + m ≤ 900 →
      Ev w (forIn (List.range' i m) PUnit.unit f) (S (two L1 M sub ns es n) tk os) q (6 * m) ⟨⟩ (S (two L1 M sub ns (es ++ sub.drop i) (n + m)) tk os) q
  | 0, i, es, n, hi, _, _ => by
    rw [List.drop_eq_nil_of_le (by omega), List.append_nil]
    exact Ev.pure _
  | m + 1, i, es, n, hi, hlt, hl => by
    rw [List.range'_succ, List.forIn_cons]
    have hi' : i < sub.length := by omega
    have hd : sub.drop i = sub[i] :: sub.drop (i + 1) := List.drop_eq_getElem_cons hi'
    have e1 := hf i sub[i] es n (by simp [hi']) (fun x hx => hlt x hx _ (by rw [hd]; exact List.mem_cons_self ..)) (by omega)
    have hp' : ∀ e ∈ sub.drop (i + 1), sub[i].hash < e.hash := by
      have := List.Pairwise.drop (i := i) hp
      rw [hd] at this
      exact (List.pairwise_cons.mp this).1
    have e2 := ev_mloop q f hf hp m (i + 1) (es ++ [sub[i]]) (n + 1) (by omega)
      (fun x hx e he => by
        rcases List.mem_append.mp hx with hx | hx
        · exact hlt x hx e (by rw [hd]; exact List.mem_cons_of_mem _ he)
        · rw [List.mem_singleton.mp hx]; exact hp' e he)
      (by simp only [List.length_append, List.length_cons, List.length_nil]; omega)
    have k1 : 6 * (m + 1) = 6 + 6 * m := by omega
    have k2 : n + (m + 1) = n + 1 + m := by omega
    have k4 : es ++ sub.drop i = es ++ [sub[i]] ++ sub.drop (i + 1) := by rw [List.append_assoc, hd]; rfl
    rw [k1, k2, k4]
    exact Ev.bind' e1 e2
theorem ev_put {k : Int} {t : Tok} {v : Value} {es : List DictEntry} {n : Nat} {L2 : List Obj} {q : Pos} (hlt : ∀ e ∈ es, e.hash < k) (hsz : es.length < 900) (ha : 11 ≤ L1.length) :
    Ev w (dictPut L1.length k (.int k t) v) (S (L1 ++ dictO es n :: L2) tk os) q 4 () (S (L1 ++ dictO (es ++ [⟨k, .int k t, v⟩]) (n + 1) :: L2) tk os) q := by
  unfold dictPut
  exact Ev.bind' (n := 1) (m := 3) (ev_find hlt) (ev_push hsz ha)
/-- entries as a display of ours makes them -/
noncomputable def Plain (l : List DictEntry) : Prop := ∀ e ∈ l, ∃ t v, e = ⟨e.hash, .int e.hash t, v⟩
theorem dict_iter : typeLookup (.type "dict") "__iter__" = pure (some (.builtin "dict.__iter__")) := by rw [typeLookup_type, builtinLookup_eq_fast]; kernel_rfl
theorem dict_dict : isSubtype (.type "dict") (.type "dict") = pure true := by rw [isSubtype_type]; kernel_rfl
theorem ev_typeOf {a : Nat} {L : List Obj} {es : List DictEntry} {n : Nat} {q : Pos} (h : L[a]? = some (dictO es n)) : Ev w (typeOf (.ref a)) (S L tk os) q 1 (.type "dict") (S L tk os) q := by
  show Ev w (do return (← loadPart a (some headPart)).cls) _ _ _ _ _ _
  unfold loadPart
  exact Ev.bind' (n := 1) (m := 0) (ev_load' h rfl (Ev.pure _)) (Ev.pure _)
theorem ev_merge {es : List DictEntry} {n : Nat} {q : Pos} (hs : (L1.length + 1 + M.length == sysModules) = false) (hne : es ≠ []) (hpl : Plain sub) (hp : sub.Pairwise fun a b => a.hash < b.hash)
    (hlt : ∀ x ∈ es, ∀ e ∈ sub, x.hash < e.hash) (hl : es.length + sub.length ≤ 900) (ha : 11 ≤ L1.length) :
    Ev w (mergeMapping L1.length (.ref (L1.length + 1 + M.length)) false) (S (two L1 M sub ns es n) tk os) q (5 + 6 * sub.length) () (S (two L1 M sub ns (es ++ sub) (n + sub.length)) tk os) q := by
  unfold mergeMapping
  rw [show 5 + 6 * sub.length = 1 + (1 + (1 + (1 + (1 + 6 * sub.length)))) by omega]
  refine Ev.bind' (a := true) (s₁ := S (two L1 M sub ns es n) tk os) (p₁ := q) ?_ ?_
  · unfold isInstance
    exact Ev.bind' (n := 1) (m := 0) (ev_typeOf two_sub) (by rw [dict_dict]; exact Ev.pure _)
  rw [if_pos rfl]
  refine Ev.bind' (a := some (.builtin "dict.__iter__")) (s₁ := S (two L1 M sub ns es n) tk os) (p₁ := q) ?_ ?_
  · unfold specialOf
    exact Ev.bind' (n := 1) (m := 0) (ev_typeOf two_sub) (by rw [dict_iter]; exact Ev.pure _)
  rw [show (some (Value.builtin "dict.__iter__") == some (Value.builtin "dict.__iter__")) = true from by decide +kernel]
  refine Ev.pbind ?_
  dsimp only
  rw [hs, if_neg Bool.false_ne_true]
  refine Ev.bind' (ev_entries none) ?_
  rw [if_neg (by
    cases es with
    | nil => exact absurd rfl hne
    | cons => simp)]
  refine Ev.bind' (ev_entries2 none) ?_
  refine Ev.bind' (ev_epoch2 none) ?_
  rw [show 6 * sub.length = 6 * sub.length + 0 by omega]
  refine Ev.bind' (a := PUnit.unit) ?_ (Ev.pure _)
  rw [List.size_toArray, List.range_eq_range']
  refine ev_mloop q _ (fun i e es n hi hx hsz => ?_) hp sub.length 0 es n (by omega) (by rw [List.drop_zero]; exact hlt) hl
  refine Ev.bind' (n := 1) (m := 5) (ev_entries2 none) ?_
  rw [show sub.toArray[i]? = some e by simpa using hi]
  dsimp only
  refine Ev.bind' (n := 4) (m := 1) (a := ()) (s₁ := S (two L1 M sub ns (es ++ [e]) (n + 1)) tk os) (p₁ := q) (Ev.holding ?_) ?_
  · rw [if_neg Bool.false_ne_true]
    obtain ⟨t, v, he⟩ := hpl e (List.mem_of_getElem? hi)
    have := ev_put (w := w) (os := os) (tk := tk) (L1 := L1) (k := e.hash) (t := t) (v := v) (es := es) (n := n) (L2 := M ++ [dictO sub ns]) (q := q) hx hsz ha
    rw [← he] at this
    rw [show e.key = .int e.hash t by rw [he], show e.val = v by rw [he]]
    exact this
  · refine Ev.bind' (n := 1) (m := 0) (ev_epoch2 none) ?_
    rw [if_neg (by simp)]
    exact Ev.pure _
end
end
end Mine
end
section
open PySem PySem.W PyProof.Rows PySem.Spec PySem.Calls
namespace Mine
noncomputable section
noncomputable abbrev itI (q : Pos) (b : Int × Str) : Option (Sem Value) × Sem Value := (some (mkInt b.1), valI q b.2)
noncomputable abbrev DSt := Option Addr × List (Sem Value × Sem Value)
noncomputable def flushD (run : List (Sem Value × Sem Value)) (main : Option Addr) : Sem (Option Addr) :=
  if run.isEmpty then pure main else
    match main with
    | none => do return some (← subDict run)
    | some d => do
      let sub ← holding [.ref d] (subDict run)
      (holding [.ref d, .ref sub] (mergeMapping d (.ref sub) false)).onRaise fun x => do let _ ← holding [.ref d, x] (runValue (.builtin "proto.let_go" {}))
      return some d
structure LoopF (f : Option (Sem Value) × Sem Value → DSt → Sem (ForInStep DSt)) : Prop where
  more : ∀ k v main run, run.length ≠ 16 → f (some k, v) (main, run) = pure (.yield (main, run ++ [(k, v)]))
  full : ∀ k v main run, run.length = 16 → f (some k, v) (main, run) = flushD (run ++ [(k, v)]) main >>= fun m => pure (.yield (m, []))
theorem sem_assoc {α β γ : Type} (m : Sem α) (f : α → Sem β) (g : β → Sem γ) : (m >>= f) >>= g = m >>= fun a => f a >>= g := by
  simp only [bind_assoc]
theorem forIn_part {f : Option (Sem Value) × Sem Value → DSt → Sem (ForInStep DSt)} (hf : LoopF f) (q : Pos) (main : Option Addr) (rest : List (Option (Sem Value) × Sem Value)) :
    ∀ (l : List (Int × Str)) (run : List (Sem Value × Sem Value)), run.length + l.length = 17 → l ≠ [] →
      forIn (l.map (itI q) ++ rest) ((main, run) : DSt) f = flushD (run ++ l.map (prI q)) main >>= fun m => forIn rest ((m, []) : DSt) f
  | [], _, _, h => absurd rfl h
  | [b], run, hl, _ => by
    rw [List.map_cons, List.cons_append, List.forIn_cons, hf.full _ _ _ _ (by simpa using hl), sem_assoc]
    rfl
  | b :: c :: r, run, hl, _ => by
    rw [List.map_cons, List.cons_append, List.forIn_cons, hf.more _ _ _ _ (by simp only [List.length_cons] at hl; omega)]
    have := forIn_part hf q main rest (c :: r) (run ++ [prI q b]) (by simp only [List.length_append, List.length_cons, List.length_nil] at hl ⊢; omega) (by simp)
    rw [List.append_assoc] at this
    exact this
theorem forIn_few {f : Option (Sem Value) × Sem Value → DSt → Sem (ForInStep DSt)} (hf : LoopF f) (q : Pos) (main : Option Addr) :
    ∀ (l : List (Int × Str)) (run : List (Sem Value × Sem Value)), run.length + l.length < 17 →
      forIn (l.map (itI q)) ((main, run) : DSt) f = pure (main, run ++ l.map (prI q))
  | [], run, _ => by rw [List.map_nil, List.map_nil, List.append_nil]; rfl
  | b :: r, run, hl => by
    rw [List.map_cons, List.forIn_cons, hf.more _ _ _ _ (by simp only [List.length_cons] at hl; omega)]
    have := forIn_few hf q main r (run ++ [prI q b]) (by simp only [List.length_append, List.length_cons, List.length_nil] at hl ⊢; omega)
    rw [List.append_assoc] at this
    exact this
theorem entsFrom_append : ∀ (a b : List (Int × Str)) (t : Nat), entsFrom t (a ++ b) = entsFrom t a ++ entsFrom (t + 3 * a.length) b
  | [], b, t => rfl
  | x :: a, b, t => by
    show entO x.1 x.2 t :: entsFrom (t + 3) (a ++ b) = entO x.1 x.2 t :: (entsFrom (t + 3) a ++ _)
    rw [entsFrom_append a b (t + 3)]
    congr 3
    simp only [List.length_cons]; omega
theorem entsFrom_plain : ∀ (l : List (Int × Str)) (t : Nat), Plain (entsFrom t l)
  | [], _ => fun _ h => by cases h
  | b :: r, t => fun e he => by
    rcases List.mem_cons.mp he with rfl | he
    · exact ⟨_, _, rfl⟩
    · exact entsFrom_plain r (t + 3) e he
theorem entsFrom_rise : ∀ (l : List (Int × Str)) (t : Nat), l.Pairwise (fun a b => a.1 < b.1) → (entsFrom t l).Pairwise fun a b => a.hash < b.hash
  | [], _, _ => List.Pairwise.nil
  | b :: r, t, h => by
    have h' := List.pairwise_cons.mp h
    refine List.pairwise_cons.mpr ⟨fun e he => ?_, entsFrom_rise r (t + 3) h'.2⟩
    obtain ⟨c, hc, e1⟩ := entsFrom_mem r (t + 3) e he
    rw [e1]; exact h'.1 c hc
section
variable {w : World} {os : OsState} {L1 : List Obj}
theorem ev_flush (q : Pos) {M : List Obj} {es : List DictEntry} {n tk : Nat} (l : List (Int × Str)) (hl : l.length = 17) (hr : Rise l) (ha : 11 ≤ L1.length) (hne : es ≠ [])
    (hlt : ∀ x ∈ es, ∀ b ∈ l, x.hash < b.1) (hsz : es.length + 17 ≤ 900) :
    Ev w (flushD (l.map (prI q)) (some L1.length)) (S (L1 ++ dictO es n :: M) tk os) q 330 (some L1.length) (S (L1 ++ dictO (es ++ entsFrom tk l) (n + 17) :: (M ++ [dictO (entsFrom tk l) 17])) (tk + 51) os) q := by
  unfold flushD
  rw [if_neg (by cases l with | nil => simp at hl | cons => simp)]
  dsimp only
  have hL : (L1 ++ dictO es n :: M).length = L1.length + 1 + M.length := by simp only [List.length_append, List.length_cons]; omega
  have e1 := ev_sub (w := w) (os := os) q (L := L1 ++ dictO es n :: M) (tk := tk) l hl hr (by rw [hL]; omega)
  rw [hL, List.append_assoc, List.cons_append] at e1
  refine Ev.bind' (n := 223) (m := 107) (Ev.holding e1) ?_
  have e2 := ev_merge (w := w) (os := os) (L1 := L1) (M := M) (sub := entsFrom tk l) (ns := 17) (tk := tk + 51) (es := es) (n := n) (q := q)
    (by
      have : L1.length + 1 + M.length ≠ sysModules := by show _ ≠ 1; omega
      exact beq_eq_false_iff_ne.mpr this) hne (entsFrom_plain l tk) (entsFrom_rise l tk hr.1)
    (fun x hx e he => by
      obtain ⟨b, hb, e1⟩ := entsFrom_mem l tk e he
      rw [e1]; exact hlt x hx b hb) (by rw [entsFrom_len, hl]; exact hsz) ha
  rw [entsFrom_len, hl] at e2
  exact Ev.bind' (n := 107) (m := 0) (a := ()) (Ev.onRaise (Ev.holding e2)) (Ev.pure _)
/-- the whole parts, one behind the other -/
noncomputable def subsFrom : Nat → List (List (Int × Str)) → List Obj
  | _, [] => []
  | t, l :: r => dictO (entsFrom t l) 17 :: subsFrom (t + 51) r
theorem ev_parts (q : Pos) (ha : 11 ≤ L1.length) {f : Option (Sem Value) × Sem Value → DSt → Sem (ForInStep DSt)} (hf : LoopF f) {β : Type} (last : List (Int × Str)) (g : DSt → Sem β) (m : Nat) (r : β) (s' : Shared) (p' : Pos) :
    ∀ (ps : List (List (Int × Str))) (es : List DictEntry) (n : Nat) (M : List Obj) (tk : Nat), (∀ l ∈ ps, l.length = 17) → Rise ps.flatten → es ≠ [] → (∀ x ∈ es, ∀ b ∈ ps.flatten, x.hash < b.1) → es.length + 17 * ps.length ≤ 900 →
      Ev w (forIn (last.map (itI q)) ((some L1.length, []) : DSt) f >>= g) (S (L1 ++ dictO (es ++ entsFrom tk ps.flatten) (n + 17 * ps.length) :: (M ++ subsFrom tk ps)) (tk + 51 * ps.length) os) q m r s' p' →
      Ev w (forIn (ps.flatten.map (itI q) ++ last.map (itI q)) ((some L1.length, []) : DSt) f >>= g) (S (L1 ++ dictO es n :: M) tk os) q (330 * ps.length + m) r s' p'
  | [], es, n, M, tk, _, _, _, _, _, k => by
    have e : es ++ entsFrom tk [] = es := List.append_nil es
    have e2 : M ++ subsFrom tk [] = M := List.append_nil M
    rw [List.flatten_nil, e, e2] at k
    rw [List.flatten_nil, List.map_nil, List.nil_append, show 330 * ([] : List (List (Int × Str))).length + m = m by simp]
    exact k
  | l :: ps, es, n, M, tk, h17, hr, hne, hlt, hsz, k => by
    have hl := h17 l (List.mem_cons_self ..)
    have hne' : l ≠ [] := by intro e; rw [e] at hl; cases hl
    obtain ⟨hp, hb⟩ := hr
    rw [List.flatten_cons] at hp hb hlt
    have hp' := List.pairwise_append.mp hp
    have hrl : Rise l := ⟨hp'.1, fun b hb' => hb b (List.mem_append_left _ hb')⟩
    have hrr : Rise ps.flatten := ⟨hp'.2.1, fun b hb' => hb b (List.mem_append_right _ hb')⟩
    rw [List.flatten_cons, List.map_append, List.append_assoc, forIn_part hf q _ _ l [] (by rw [hl]; rfl) hne', sem_assoc]
    rw [show 330 * (l :: ps).length + m = 330 + (330 * ps.length + m) by simp only [List.length_cons]; omega]
    simp only [List.length_cons] at hsz
    refine Ev.bind' (ev_flush q l hl hrl ha hne (fun x hx b hb' => hlt x hx b (List.mem_append_left _ hb')) (by omega)) ?_
    refine ev_parts q ha hf last g m r s' p' ps _ _ _ _ (fun x hx => h17 x (List.mem_cons_of_mem _ hx)) hrr (by simp [hne]) ?_ ?_ ?_
    · intro x hx b hb'
      rcases List.mem_append.mp hx with hx | hx
      · exact hlt x hx b (List.mem_append_right _ hb')
      · obtain ⟨c, hc, e⟩ := entsFrom_mem l tk x hx
        rw [e]; exact hp'.2.2 c hc b hb'
    · rw [List.length_append, entsFrom_len, hl]; omega
    · have k1 : es ++ entsFrom tk (l :: ps).flatten = es ++ entsFrom tk l ++ entsFrom (tk + 51) ps.flatten := by
        rw [List.flatten_cons, entsFrom_append, hl, List.append_assoc]
      have k2 : n + 17 * (l :: ps).length = n + 17 + 17 * ps.length := by simp only [List.length_cons]; omega
      have k3 : M ++ subsFrom tk (l :: ps) = M ++ [dictO (entsFrom tk l) 17] ++ subsFrom (tk + 51) ps := by rw [List.append_assoc]; rfl
      have k4 : tk + 51 * (l :: ps).length = tk + 51 + 51 * ps.length := by simp only [List.length_cons]; omega
      rw [k1, k2, k3, k4] at k
      exact k
end
end
end Mine
end
section
open PySem PySem.W PyProof.Rows PySem.Spec PySem.Calls
namespace Mine
noncomputable section
noncomputable def valsFrom : Nat → List (Int × Str) → List (Value × Value)
  | _, [] => []
  | t, b :: r => (.int b.1 t, .str b.2 (t + 1)) :: valsFrom (t + 2) r
noncomputable def entsShort : Nat → List (Int × Str) → List DictEntry
  | _, [] => []
  | t, b :: r => entO b.1 b.2 t :: entsShort (t + 2) r
theorem entsShort_len : ∀ (l : List (Int × Str)) (t : Nat), (entsShort t l).length = l.length
  | [], _ => rfl
  | _ :: r, t => congrArg (· + 1) (entsShort_len r (t + 2))
theorem entsShort_mem : ∀ (l : List (Int × Str)) (t : Nat), ∀ e ∈ entsShort t l, ∃ b ∈ l, e.hash = b.1
  | [], _, _, h => by cases h
  | b :: r, t, e, h => by
    rcases List.mem_cons.mp h with rfl | h
    · exact ⟨b, List.mem_cons_self .., rfl⟩
    · obtain ⟨c, hc, e⟩ := entsShort_mem r (t + 2) e h
      exact ⟨c, List.mem_cons_of_mem _ hc, e⟩
theorem entsShort_plain : ∀ (l : List (Int × Str)) (t : Nat), Plain (entsShort t l)
  | [], _ => fun _ h => by cases h
  | b :: r, t => fun e he => by
    rcases List.mem_cons.mp he with rfl | he
    · exact ⟨_, _, rfl⟩
    · exact entsShort_plain r (t + 2) e he
theorem entsShort_rise : ∀ (l : List (Int × Str)) (t : Nat), l.Pairwise (fun a b => a.1 < b.1) → (entsShort t l).Pairwise fun a b => a.hash < b.hash
  | [], _, _ => List.Pairwise.nil
  | b :: r, t, h => by
    have h' := List.pairwise_cons.mp h
    refine List.pairwise_cons.mpr ⟨fun e he => ?_, entsShort_rise r (t + 2) h'.2⟩
    obtain ⟨c, hc, e1⟩ := entsShort_mem r (t + 2) e he
    rw [e1]; exact h'.1 c hc
section
variable {w : World} {os : OsState} {L1 : List Obj}
theorem ev_evalPairs (q : Pos) {L : List Obj} : ∀ (l : List (Int × Str)) (tk : Nat), Ev w (evalPairs (l.map (prI q))) (S L tk os) q (3 * l.length) (valsFrom tk l) (S L (tk + 2 * l.length) os) q
  | [], tk => Ev.pure _
  | b :: r, tk => by
    rw [show 3 * (b :: r).length = 1 + (2 + 3 * r.length) by simp only [List.length_cons]; omega, show tk + 2 * (b :: r).length = tk + 2 + 2 * r.length by simp only [List.length_cons]; omega]
    refine Ev.bind' (a := .int b.1 tk) (s₁ := S L (tk + 1) os) (p₁ := q) (Ev.bind' (n := 1) (m := 0) (Ev.fresh (Ev.pure _)) (Ev.pure _)) ?_
    refine Ev.bind' (a := .str b.2 (tk + 1)) (s₁ := S L (tk + 2) os) (p₁ := q) (Ev.holding ?_) ?_
    · refine Ev.bind' (n := 1) (m := 1) (Ev.bind' (n := 1) (m := 0) (Ev.fresh (Ev.pure _)) (Ev.pure _)) ?_
      exact Ev.bind' (n := 1) (m := 0) (a := ()) (Ev.at (Ev.pure _)) (Ev.pure _)
    · rw [show 3 * r.length = 3 * r.length + 0 by omega]
      exact Ev.bind' (Ev.holding (ev_evalPairs q r (tk + 2))) (Ev.pure _)
theorem ev_sloop {L : List Obj} (q : Pos) (ha : 11 ≤ L.length) (f : Value × Value → PUnit → Sem (ForInStep PUnit))
    (hf : ∀ (k : Int) (t : Tok) (v : Value) (es : List DictEntry) (n tk : Nat), 0 ≤ k → k < 2305843009213693951 → (∀ e ∈ es, e.hash < k) → es.length < 900 →
      Ev w (f (.int k t, v) ⟨⟩) (S (L ++ dictO es n :: []) tk os) q 10 (.yield ⟨⟩) (S (L ++ dictO (es ++ [⟨k, .int k t, v⟩]) (n + 1) :: []) (tk + 1) os) q) :
    ∀ (l : List (Int × Str)) (t : Nat) (es : List DictEntry) (n tk : Nat), Rise l → (∀ e ∈ es, ∀ b ∈ l, e.hash < b.1) → es.length + l.length ≤ 900 →
      Ev w (forIn (valsFrom t l) PUnit.unit f) (S (L ++ dictO es n :: []) tk os) q (10 * l.length) ⟨⟩ (S (L ++ dictO (es ++ entsShort t l) (n + l.length) :: []) (tk + l.length) os) q
  | [], t, es, n, tk, _, _, _ => by
    rw [show entsShort t [] = [] from rfl, List.append_nil]
    exact Ev.pure _
  | b :: r, t, es, n, tk, hr, hlt, hl => by
    obtain ⟨hp, hb⟩ := hr
    obtain ⟨hb0, hb1⟩ := hb b (List.mem_cons_self ..)
    have hp' := List.pairwise_cons.mp hp
    rw [show valsFrom t (b :: r) = (.int b.1 t, .str b.2 (t + 1)) :: valsFrom (t + 2) r from rfl, List.forIn_cons]
    have e1 := hf b.1 t (.str b.2 (t + 1)) es n tk hb0 hb1 (fun e he => hlt e he b (List.mem_cons_self ..)) (by simp only [List.length_cons] at hl; omega)
    have e2 := ev_sloop q ha f hf r (t + 2) (es ++ [entO b.1 b.2 t]) (n + 1) (tk + 1) ⟨hp'.2, fun c hc => hb c (List.mem_cons_of_mem _ hc)⟩
      (fun e he c hc => by
        rcases List.mem_append.mp he with he | he
        · exact hlt e he c (List.mem_cons_of_mem _ hc)
        · rw [List.mem_singleton.mp he]; exact hp'.1 c hc)
      (by simp only [List.length_append, List.length_cons, List.length_nil] at hl ⊢; omega)
    have k1 : 10 * (b :: r).length = 10 + 10 * r.length := by simp only [List.length_cons]; omega
    have k2 : n + (b :: r).length = n + 1 + r.length := by simp only [List.length_cons]; omega
    have k3 : tk + (b :: r).length = tk + 1 + r.length := by simp only [List.length_cons]; omega
    have k4 : es ++ entsShort t (b :: r) = es ++ [entO b.1 b.2 t] ++ entsShort (t + 2) r := by rw [List.append_assoc]; rfl
    rw [k1, k2, k3, k4]
    exact Ev.bind' e1 e2
theorem ev_subS (q : Pos) {L : List Obj} {tk : Nat} (l : List (Int × Str)) (hl : l.length ≤ 15) (hr : Rise l) (ha : 11 ≤ L.length) :
    Ev w (subDict (l.map (prI q))) (S L tk os) q (1 + 13 * l.length) L.length (S (L ++ [dictO (entsShort tk l) l.length]) (tk + 3 * l.length) os) q := by
  unfold subDict
  refine Ev.bind' (n := 1) (m := 13 * l.length) (a := L.length) (s₁ := S (L ++ [dictO [] 0]) tk os) (p₁ := q) ?_ ?_
  · have := Ev.alloc (w := w) (h := hpO L) (g := #[]) (d := {}) (tk := tk) (os := os) (p := q) (n := 0) (o := dictO [] 0) (k := Sem.pure) (a := L.length) (s₁ := S (L ++ [dictO [] 0]) tk os) (p₁ := q)
      (by rw [push_hp, size_hp]; exact Ev.pure _)
    exact this
  · rw [show 13 * l.length = 13 * l.length + 0 by omega]
    refine Ev.bind' (a := ()) (s₁ := S (L ++ [dictO (entsShort tk l) l.length]) (tk + 3 * l.length) os) (p₁ := q) (Ev.holding ?_) (Ev.pure _)
    rw [if_pos (by rw [List.length_map]; exact hl), show 13 * l.length = 3 * l.length + 10 * l.length by omega]
    refine Ev.bind' (ev_evalPairs q l tk) (Ev.holding ?_)
    have := ev_sloop (w := w) (os := os) (L := L) q ha (fun x _ => match x with | (k, v) => do
        dictSet L.length k v
        Pure.pure (ForInStep.yield PUnit.unit)) (fun k t v es n tk h0 h1 hlt hsz => ?_) l tk [] 0 (tk + 2 * l.length) hr (fun e he => by cases he) (by simp only [List.length_nil]; omega)
    · rw [show tk + 2 * l.length + l.length = tk + 3 * l.length by omega, List.nil_append, Nat.zero_add] at this
      rw [show 10 * l.length = 10 * l.length + 0 by omega]
      exact Ev.bind' (a := PUnit.unit) this (Ev.pure _)
    · exact Ev.bind' (n := 10) (m := 0) (ev_set h0 h1 hlt hsz ha) (Ev.pure _)
theorem ev_flushS (q : Pos) {M : List Obj} {es : List DictEntry} {n tk : Nat} (l : List (Int × Str)) (hl : l.length ≤ 15) (hl0 : l ≠ []) (hr : Rise l) (ha : 11 ≤ L1.length) (hne : es ≠ [])
    (hlt : ∀ x ∈ es, ∀ b ∈ l, x.hash < b.1) (hsz : es.length + 15 ≤ 900) :
    Ev w (flushD (l.map (prI q)) (some L1.length)) (S (L1 ++ dictO es n :: M) tk os) q (6 + 19 * l.length) (some L1.length) (S (L1 ++ dictO (es ++ entsShort tk l) (n + l.length) :: (M ++ [dictO (entsShort tk l) l.length])) (tk + 3 * l.length) os) q := by
  unfold flushD
  rw [if_neg (by cases l with | nil => exact absurd rfl hl0 | cons => simp)]
  dsimp only
  have hL : (L1 ++ dictO es n :: M).length = L1.length + 1 + M.length := by simp only [List.length_append, List.length_cons]; omega
  have e1 := ev_subS (w := w) (os := os) q (L := L1 ++ dictO es n :: M) (tk := tk) l hl hr (by rw [hL]; omega)
  rw [hL, List.append_assoc, List.cons_append] at e1
  rw [show 6 + 19 * l.length = (1 + 13 * l.length) + ((5 + 6 * l.length) + 0) by omega]
  refine Ev.bind' (Ev.holding e1) ?_
  have e2 := ev_merge (w := w) (os := os) (L1 := L1) (M := M) (sub := entsShort tk l) (ns := l.length) (tk := tk + 3 * l.length) (es := es) (n := n) (q := q)
    (by
      have : L1.length + 1 + M.length ≠ sysModules := by show _ ≠ 1; omega
      exact beq_eq_false_iff_ne.mpr this) hne (entsShort_plain l tk) (entsShort_rise l tk hr.1)
    (fun x hx e he => by
      obtain ⟨b, hb, e1⟩ := entsShort_mem l tk e he
      rw [e1]; exact hlt x hx b hb) (by rw [entsShort_len]; omega) ha
  rw [entsShort_len] at e2
  exact Ev.bind' (a := ()) (Ev.onRaise (Ev.holding e2)) (Ev.pure _)
end
end
end Mine
end
section
open PySem PySem.W PyProof.Rows PySem.Spec PySem.Calls
set_option linter.unusedVariables false
namespace Mine
noncomputable section
noncomputable def dKeys : Stmt → List (Option Expr) | .Assign _ (.Dict ks _ _) _ => ks | _ => []
noncomputable def dVals : Stmt → List Expr | .Assign _ (.Dict _ vs _) _ => vs | _ => []
noncomputable def dPair : Option Expr × Expr → Int × Str
  | (some (.Constant (.int k) _ _), .Constant (.str x) _ _) => (k, x)
  | _ => (0, Str.empty)
noncomputable abbrev qD : Pos := ⟨82, 16, 82, 8704⟩
noncomputable def prs : List (Int × Str) := ((dKeys (stAt 16)).zip (dVals (stAt 16))).map dPair
noncomputable def prs1 : List (Int × Str) := prs.take 17
noncomputable def prsP : List (List (Int × Str)) := (List.range 37).map fun j => (prs.drop (17 * (j + 1))).take 17
noncomputable def prsL : List (Int × Str) := prs.drop 646
noncomputable def mainL : List DictEntry := [] ++ entsFrom 420 prs1 ++ entsFrom 471 prsP.flatten ++ entsShort 2358 prsL
noncomputable def subsL : List Obj := subsFrom 471 prsP ++ [dictO (entsShort 2358 prsL) 4]
noncomputable def oMain (P : Params) : Obj := dictO mainL 650
noncomputable def oSub (j : Nat) (P : Params) : Obj := (subsL[j - 1]?).getD default
noncomputable def treeE (P : Params) : BT :=
  (.node (boot_o_0 P) (.node (boot_o_1 P) (.node (o3E P) (.node (boot_o_7 P) (.node (o15B P) (.node (o31B P) (.node (o63B P) (.node (o127C P) .nil .nil) (.node ((oSub 25) P) .nil .nil)) (.node (o95C P) (.node (o159D P) .nil .nil) .nil)) (.node (o47B P) (.node (o79C P) (.node (o143C P) .nil .nil) .nil) (.node (o111C P) (.node ((oSub 9) P) .nil .nil) .nil))) (.node (o23B P) (.node (o39B P) (.node (o71C P) (.node (o135C P) .nil .nil) (.node ((oSub 33) P) .nil .nil)) (.node (o103C P) (.node ((oSub 1) P) .nil .nil) .nil)) (.node (o55B P) (.node (o87C P) (.node (o151D P) .nil .nil) .nil) (.node (o119C P) (.node ((oSub 17) P) .nil .nil) .nil)))) (.node (o11A P) (.node (o19B P) (.node (o35B P) (.node (o67C P) (.node (o131C P) .nil .nil) (.node ((oSub 29) P) .nil .nil)) (.node (o99C P) (.node (o163D P) .nil .nil) .nil)) (.node (o51B P) (.node (o83C P) (.node (o147C P) .nil .nil) .nil) (.node (o115C P) (.node ((oSub 13) P) .nil .nil) .nil))) (.node (o27B P) (.node (o43B P) (.node (o75C P) (.node (o139C P) .nil .nil) (.node ((oSub 37) P) .nil .nil)) (.node (o107C P) (.node ((oSub 5) P) .nil .nil) .nil)) (.node (o59B P) (.node (o91C P) (.node (o155D P) .nil .nil) .nil) (.node (o123C P) (.node ((oSub 21) P) .nil .nil) .nil))))) (.node (boot_o_5 P) (.node (boot_o_9 P) (.node (o17B P) (.node (o33B P) (.node (o65C P) (.node (o129C P) .nil .nil) (.node ((oSub 27) P) .nil .nil)) (.node (o97C P) (.node (o161D P) .nil .nil) .nil)) (.node (o49B P) (.node (o81C P) (.node (o145C P) .nil .nil) .nil) (.node (o113C P) (.node ((oSub 11) P) .nil .nil) .nil))) (.node (o25B P) (.node (o41B P) (.node (o73C P) (.node (o137C P) .nil .nil) (.node ((oSub 35) P) .nil .nil)) (.node (o105C P) (.node ((oSub 3) P) .nil .nil) .nil)) (.node (o57B P) (.node (o89C P) (.node (o153D P) .nil .nil) .nil) (.node (o121C P) (.node ((oSub 19) P) .nil .nil) .nil)))) (.node (o13A P) (.node (o21B P) (.node (o37B P) (.node (o69C P) (.node (o133C P) .nil .nil) (.node ((oSub 31) P) .nil .nil)) (.node (o101C P) (.node (o165D P) .nil .nil) .nil)) (.node (o53B P) (.node (o85C P) (.node (o149D P) .nil .nil) .nil) (.node (o117C P) (.node ((oSub 15) P) .nil .nil) .nil))) (.node (o29B P) (.node (o45B P) (.node (o77C P) (.node (o141C P) .nil .nil) .nil) (.node (o109C P) (.node ((oSub 7) P) .nil .nil) .nil)) (.node (o61B P) (.node (o93C P) (.node (o157D P) .nil .nil) .nil) (.node (o125C P) (.node ((oSub 23) P) .nil .nil) .nil)))))) (.node (boot_o_2 P) (.node (boot_o_4 P) (.node (boot_o_8 P) (.node (o16B P) (.node (o32B P) (.node (o64C P) (.node (o128C P) .nil .nil) (.node ((oSub 26) P) .nil .nil)) (.node (o96C P) (.node (o160D P) .nil .nil) .nil)) (.node (o48B P) (.node (o80C P) (.node (o144C P) .nil .nil) .nil) (.node (o112C P) (.node ((oSub 10) P) .nil .nil) .nil))) (.node (o24B P) (.node (o40B P) (.node (o72C P) (.node (o136C P) .nil .nil) (.node ((oSub 34) P) .nil .nil)) (.node (o104C P) (.node ((oSub 2) P) .nil .nil) .nil)) (.node (o56B P) (.node (o88C P) (.node (o152D P) .nil .nil) .nil) (.node (o120C P) (.node ((oSub 18) P) .nil .nil) .nil)))) (.node (o12D P) (.node (o20B P) (.node (o36B P) (.node (o68C P) (.node (o132C P) .nil .nil) (.node ((oSub 30) P) .nil .nil)) (.node (o100C P) (.node (o164D P) .nil .nil) .nil)) (.node (o52B P) (.node (o84C P) (.node (o148D P) .nil .nil) .nil) (.node (o116C P) (.node ((oSub 14) P) .nil .nil) .nil))) (.node (o28B P) (.node (o44B P) (.node (o76C P) (.node (o140C P) .nil .nil) (.node ((oSub 38) P) .nil .nil)) (.node (o108C P) (.node ((oSub 6) P) .nil .nil) .nil)) (.node (o60B P) (.node (o92C P) (.node (o156D P) .nil .nil) .nil) (.node (o124C P) (.node ((oSub 22) P) .nil .nil) .nil))))) (.node (boot_o_6 P) (.node (boot_o_10 P) (.node (o18B P) (.node (o34B P) (.node (o66C P) (.node (o130C P) .nil .nil) (.node ((oSub 28) P) .nil .nil)) (.node (o98C P) (.node (o162D P) .nil .nil) .nil)) (.node (o50B P) (.node (o82C P) (.node (o146C P) .nil .nil) .nil) (.node (o114C P) (.node ((oSub 12) P) .nil .nil) .nil))) (.node (o26B P) (.node (o42B P) (.node (o74C P) (.node (o138C P) .nil .nil) (.node ((oSub 36) P) .nil .nil)) (.node (o106C P) (.node ((oSub 4) P) .nil .nil) .nil)) (.node (o58B P) (.node (o90C P) (.node (o154D P) .nil .nil) .nil) (.node (o122C P) (.node ((oSub 20) P) .nil .nil) .nil)))) (.node (o14A P) (.node (o22B P) (.node (o38B P) (.node (o70C P) (.node (o134C P) .nil .nil) (.node ((oSub 32) P) .nil .nil)) (.node (o102C P) (.node (oMain P) .nil .nil) .nil)) (.node (o54B P) (.node (o86C P) (.node (o150D P) .nil .nil) .nil) (.node (o118C P) (.node ((oSub 16) P) .nil .nil) .nil))) (.node (o30B P) (.node (o46B P) (.node (o78C P) (.node (o142C P) .nil .nil) .nil) (.node (o110C P) (.node ((oSub 8) P) .nil .nil) .nil)) (.node (o62B P) (.node (o94C P) (.node (o158D P) .nil .nil) .nil) (.node (o126C P) (.node ((oSub 24) P) .nil .nil) .nil)))))))
noncomputable def treeE0 (P : Params) : BT :=
  (.node (boot_o_0 P) (.node (boot_o_1 P) (.node (o3D P) (.node (boot_o_7 P) (.node (o15B P) (.node (o31B P) (.node (o63B P) (.node (o127C P) .nil .nil) (.node ((oSub 25) P) .nil .nil)) (.node (o95C P) (.node (o159D P) .nil .nil) .nil)) (.node (o47B P) (.node (o79C P) (.node (o143C P) .nil .nil) .nil) (.node (o111C P) (.node ((oSub 9) P) .nil .nil) .nil))) (.node (o23B P) (.node (o39B P) (.node (o71C P) (.node (o135C P) .nil .nil) (.node ((oSub 33) P) .nil .nil)) (.node (o103C P) (.node ((oSub 1) P) .nil .nil) .nil)) (.node (o55B P) (.node (o87C P) (.node (o151D P) .nil .nil) .nil) (.node (o119C P) (.node ((oSub 17) P) .nil .nil) .nil)))) (.node (o11A P) (.node (o19B P) (.node (o35B P) (.node (o67C P) (.node (o131C P) .nil .nil) (.node ((oSub 29) P) .nil .nil)) (.node (o99C P) (.node (o163D P) .nil .nil) .nil)) (.node (o51B P) (.node (o83C P) (.node (o147C P) .nil .nil) .nil) (.node (o115C P) (.node ((oSub 13) P) .nil .nil) .nil))) (.node (o27B P) (.node (o43B P) (.node (o75C P) (.node (o139C P) .nil .nil) (.node ((oSub 37) P) .nil .nil)) (.node (o107C P) (.node ((oSub 5) P) .nil .nil) .nil)) (.node (o59B P) (.node (o91C P) (.node (o155D P) .nil .nil) .nil) (.node (o123C P) (.node ((oSub 21) P) .nil .nil) .nil))))) (.node (boot_o_5 P) (.node (boot_o_9 P) (.node (o17B P) (.node (o33B P) (.node (o65C P) (.node (o129C P) .nil .nil) (.node ((oSub 27) P) .nil .nil)) (.node (o97C P) (.node (o161D P) .nil .nil) .nil)) (.node (o49B P) (.node (o81C P) (.node (o145C P) .nil .nil) .nil) (.node (o113C P) (.node ((oSub 11) P) .nil .nil) .nil))) (.node (o25B P) (.node (o41B P) (.node (o73C P) (.node (o137C P) .nil .nil) (.node ((oSub 35) P) .nil .nil)) (.node (o105C P) (.node ((oSub 3) P) .nil .nil) .nil)) (.node (o57B P) (.node (o89C P) (.node (o153D P) .nil .nil) .nil) (.node (o121C P) (.node ((oSub 19) P) .nil .nil) .nil)))) (.node (o13A P) (.node (o21B P) (.node (o37B P) (.node (o69C P) (.node (o133C P) .nil .nil) (.node ((oSub 31) P) .nil .nil)) (.node (o101C P) (.node (o165D P) .nil .nil) .nil)) (.node (o53B P) (.node (o85C P) (.node (o149D P) .nil .nil) .nil) (.node (o117C P) (.node ((oSub 15) P) .nil .nil) .nil))) (.node (o29B P) (.node (o45B P) (.node (o77C P) (.node (o141C P) .nil .nil) .nil) (.node (o109C P) (.node ((oSub 7) P) .nil .nil) .nil)) (.node (o61B P) (.node (o93C P) (.node (o157D P) .nil .nil) .nil) (.node (o125C P) (.node ((oSub 23) P) .nil .nil) .nil)))))) (.node (boot_o_2 P) (.node (boot_o_4 P) (.node (boot_o_8 P) (.node (o16B P) (.node (o32B P) (.node (o64C P) (.node (o128C P) .nil .nil) (.node ((oSub 26) P) .nil .nil)) (.node (o96C P) (.node (o160D P) .nil .nil) .nil)) (.node (o48B P) (.node (o80C P) (.node (o144C P) .nil .nil) .nil) (.node (o112C P) (.node ((oSub 10) P) .nil .nil) .nil))) (.node (o24B P) (.node (o40B P) (.node (o72C P) (.node (o136C P) .nil .nil) (.node ((oSub 34) P) .nil .nil)) (.node (o104C P) (.node ((oSub 2) P) .nil .nil) .nil)) (.node (o56B P) (.node (o88C P) (.node (o152D P) .nil .nil) .nil) (.node (o120C P) (.node ((oSub 18) P) .nil .nil) .nil)))) (.node (o12D P) (.node (o20B P) (.node (o36B P) (.node (o68C P) (.node (o132C P) .nil .nil) (.node ((oSub 30) P) .nil .nil)) (.node (o100C P) (.node (o164D P) .nil .nil) .nil)) (.node (o52B P) (.node (o84C P) (.node (o148D P) .nil .nil) .nil) (.node (o116C P) (.node ((oSub 14) P) .nil .nil) .nil))) (.node (o28B P) (.node (o44B P) (.node (o76C P) (.node (o140C P) .nil .nil) (.node ((oSub 38) P) .nil .nil)) (.node (o108C P) (.node ((oSub 6) P) .nil .nil) .nil)) (.node (o60B P) (.node (o92C P) (.node (o156D P) .nil .nil) .nil) (.node (o124C P) (.node ((oSub 22) P) .nil .nil) .nil))))) (.node (boot_o_6 P) (.node (boot_o_10 P) (.node (o18B P) (.node (o34B P) (.node (o66C P) (.node (o130C P) .nil .nil) (.node ((oSub 28) P) .nil .nil)) (.node (o98C P) (.node (o162D P) .nil .nil) .nil)) (.node (o50B P) (.node (o82C P) (.node (o146C P) .nil .nil) .nil) (.node (o114C P) (.node ((oSub 12) P) .nil .nil) .nil))) (.node (o26B P) (.node (o42B P) (.node (o74C P) (.node (o138C P) .nil .nil) (.node ((oSub 36) P) .nil .nil)) (.node (o106C P) (.node ((oSub 4) P) .nil .nil) .nil)) (.node (o58B P) (.node (o90C P) (.node (o154D P) .nil .nil) .nil) (.node (o122C P) (.node ((oSub 20) P) .nil .nil) .nil)))) (.node (o14A P) (.node (o22B P) (.node (o38B P) (.node (o70C P) (.node (o134C P) .nil .nil) (.node ((oSub 32) P) .nil .nil)) (.node (o102C P) (.node (oMain P) .nil .nil) .nil)) (.node (o54B P) (.node (o86C P) (.node (o150D P) .nil .nil) .nil) (.node (o118C P) (.node ((oSub 16) P) .nil .nil) .nil))) (.node (o30B P) (.node (o46B P) (.node (o78C P) (.node (o142C P) .nil .nil) .nil) (.node (o110C P) (.node ((oSub 8) P) .nil .nil) .nil)) (.node (o62B P) (.node (o94C P) (.node (o158D P) .nil .nil) .nil) (.node (o126C P) (.node ((oSub 24) P) .nil .nil) .nil)))))))
noncomputable def treeF (P : Params) : BT :=
  (.node (boot_o_0 P) (.node (boot_o_1 P) (.node (o3F P) (.node (boot_o_7 P) (.node (o15B P) (.node (o31B P) (.node (o63B P) (.node (o127C P) .nil .nil) (.node ((oSub 25) P) .nil .nil)) (.node (o95C P) (.node (o159D P) .nil .nil) (.node (o223F P) .nil .nil))) (.node (o47B P) (.node (o79C P) (.node (o143C P) .nil .nil) (.node (o207F P) .nil .nil)) (.node (o111C P) (.node ((oSub 9) P) .nil .nil) .nil))) (.node (o23B P) (.node (o39B P) (.node (o71C P) (.node (o135C P) .nil .nil) (.node ((oSub 33) P) .nil .nil)) (.node (o103C P) (.node ((oSub 1) P) .nil .nil) .nil)) (.node (o55B P) (.node (o87C P) (.node (o151D P) .nil .nil) (.node (o215F P) .nil .nil)) (.node (o119C P) (.node ((oSub 17) P) .nil .nil) .nil)))) (.node (o11A P) (.node (o19B P) (.node (o35B P) (.node (o67C P) (.node (o131C P) .nil .nil) (.node ((oSub 29) P) .nil .nil)) (.node (o99C P) (.node (o163D P) .nil .nil) .nil)) (.node (o51B P) (.node (o83C P) (.node (o147C P) .nil .nil) (.node (o211F P) .nil .nil)) (.node (o115C P) (.node ((oSub 13) P) .nil .nil) .nil))) (.node (o27B P) (.node (o43B P) (.node (o75C P) (.node (o139C P) .nil .nil) (.node ((oSub 37) P) .nil .nil)) (.node (o107C P) (.node ((oSub 5) P) .nil .nil) .nil)) (.node (o59B P) (.node (o91C P) (.node (o155D P) .nil .nil) (.node (o219F P) .nil .nil)) (.node (o123C P) (.node ((oSub 21) P) .nil .nil) .nil))))) (.node (boot_o_5 P) (.node (boot_o_9 P) (.node (o17B P) (.node (o33B P) (.node (o65C P) (.node (o129C P) .nil .nil) (.node ((oSub 27) P) .nil .nil)) (.node (o97C P) (.node (o161D P) .nil .nil) (.node (o225F P) .nil .nil))) (.node (o49B P) (.node (o81C P) (.node (o145C P) .nil .nil) (.node (o209F P) .nil .nil)) (.node (o113C P) (.node ((oSub 11) P) .nil .nil) .nil))) (.node (o25B P) (.node (o41B P) (.node (o73C P) (.node (o137C P) .nil .nil) (.node ((oSub 35) P) .nil .nil)) (.node (o105C P) (.node ((oSub 3) P) .nil .nil) .nil)) (.node (o57B P) (.node (o89C P) (.node (o153D P) .nil .nil) (.node (o217F P) .nil .nil)) (.node (o121C P) (.node ((oSub 19) P) .nil .nil) .nil)))) (.node (o13A P) (.node (o21B P) (.node (o37B P) (.node (o69C P) (.node (o133C P) .nil .nil) (.node ((oSub 31) P) .nil .nil)) (.node (o101C P) (.node (o165D P) .nil .nil) .nil)) (.node (o53B P) (.node (o85C P) (.node (o149D P) .nil .nil) (.node (o213F P) .nil .nil)) (.node (o117C P) (.node ((oSub 15) P) .nil .nil) .nil))) (.node (o29B P) (.node (o45B P) (.node (o77C P) (.node (o141C P) .nil .nil) (.node (o205F P) .nil .nil)) (.node (o109C P) (.node ((oSub 7) P) .nil .nil) .nil)) (.node (o61B P) (.node (o93C P) (.node (o157D P) .nil .nil) (.node (o221F P) .nil .nil)) (.node (o125C P) (.node ((oSub 23) P) .nil .nil) .nil)))))) (.node (boot_o_2 P) (.node (boot_o_4 P) (.node (boot_o_8 P) (.node (o16B P) (.node (o32B P) (.node (o64C P) (.node (o128C P) .nil .nil) (.node ((oSub 26) P) .nil .nil)) (.node (o96C P) (.node (o160D P) .nil .nil) (.node (o224F P) .nil .nil))) (.node (o48B P) (.node (o80C P) (.node (o144C P) .nil .nil) (.node (o208F P) .nil .nil)) (.node (o112C P) (.node ((oSub 10) P) .nil .nil) .nil))) (.node (o24B P) (.node (o40B P) (.node (o72C P) (.node (o136C P) .nil .nil) (.node ((oSub 34) P) .nil .nil)) (.node (o104C P) (.node ((oSub 2) P) .nil .nil) .nil)) (.node (o56B P) (.node (o88C P) (.node (o152D P) .nil .nil) (.node (o216F P) .nil .nil)) (.node (o120C P) (.node ((oSub 18) P) .nil .nil) .nil)))) (.node (o12F P) (.node (o20B P) (.node (o36B P) (.node (o68C P) (.node (o132C P) .nil .nil) (.node ((oSub 30) P) .nil .nil)) (.node (o100C P) (.node (o164D P) .nil .nil) .nil)) (.node (o52B P) (.node (o84C P) (.node (o148D P) .nil .nil) (.node (o212F P) .nil .nil)) (.node (o116C P) (.node ((oSub 14) P) .nil .nil) .nil))) (.node (o28B P) (.node (o44B P) (.node (o76C P) (.node (o140C P) .nil .nil) (.node ((oSub 38) P) .nil .nil)) (.node (o108C P) (.node ((oSub 6) P) .nil .nil) .nil)) (.node (o60B P) (.node (o92C P) (.node (o156D P) .nil .nil) (.node (o220F P) .nil .nil)) (.node (o124C P) (.node ((oSub 22) P) .nil .nil) .nil))))) (.node (boot_o_6 P) (.node (boot_o_10 P) (.node (o18B P) (.node (o34B P) (.node (o66C P) (.node (o130C P) .nil .nil) (.node ((oSub 28) P) .nil .nil)) (.node (o98C P) (.node (o162D P) .nil .nil) (.node (o226F P) .nil .nil))) (.node (o50B P) (.node (o82C P) (.node (o146C P) .nil .nil) (.node (o210F P) .nil .nil)) (.node (o114C P) (.node ((oSub 12) P) .nil .nil) .nil))) (.node (o26B P) (.node (o42B P) (.node (o74C P) (.node (o138C P) .nil .nil) (.node ((oSub 36) P) .nil .nil)) (.node (o106C P) (.node ((oSub 4) P) .nil .nil) .nil)) (.node (o58B P) (.node (o90C P) (.node (o154D P) .nil .nil) (.node (o218F P) .nil .nil)) (.node (o122C P) (.node ((oSub 20) P) .nil .nil) .nil)))) (.node (o14A P) (.node (o22B P) (.node (o38B P) (.node (o70C P) (.node (o134C P) .nil .nil) (.node ((oSub 32) P) .nil .nil)) (.node (o102C P) (.node (oMain P) .nil .nil) .nil)) (.node (o54B P) (.node (o86C P) (.node (o150D P) .nil .nil) (.node (o214F P) .nil .nil)) (.node (o118C P) (.node ((oSub 16) P) .nil .nil) .nil))) (.node (o30B P) (.node (o46B P) (.node (o78C P) (.node (o142C P) .nil .nil) (.node (o206F P) .nil .nil)) (.node (o110C P) (.node ((oSub 8) P) .nil .nil) .nil)) (.node (o62B P) (.node (o94C P) (.node (o158D P) .nil .nil) (.node (o222F P) .nil .nil)) (.node (o126C P) (.node ((oSub 24) P) .nil .nil) .nil)))))))
end
end Mine
end
section
open PySem PySem.W PyProof.Rows PySem.Spec PySem.Calls
namespace Mine
noncomputable def riseB : List (Int × Str) → Bool
  | [] => true
  | [b] => decide (0 ≤ b.1) && decide (b.1 < 2305843009213693951)
  | b :: c :: r => decide (0 ≤ b.1) && decide (b.1 < c.1) && riseB (c :: r)
theorem riseB_spec : ∀ (l : List (Int × Str)), riseB l = true → Rise l
  | [], _ => ⟨List.Pairwise.nil, fun _ h => by cases h⟩
  | [b], h => by
    simp only [riseB, Bool.and_eq_true, decide_eq_true_eq] at h
    exact ⟨List.pairwise_singleton .., fun x hx => by rw [List.mem_singleton.mp hx]; exact h⟩
  | b :: c :: r, h => by
    simp only [riseB, Bool.and_eq_true, decide_eq_true_eq] at h
    obtain ⟨⟨h0, h1⟩, h2⟩ := h
    obtain ⟨hp, hb⟩ := riseB_spec (c :: r) h2
    have hall : ∀ x ∈ c :: r, b.1 < x.1 := fun x hx => by
      rcases List.mem_cons.mp hx with rfl | hx
      · exact h1
      · have := (List.pairwise_cons.mp hp).1 x hx; omega
    refine ⟨List.pairwise_cons.mpr ⟨hall, hp⟩, fun x hx => ?_⟩
    rcases List.mem_cons.mp hx with rfl | hx
    · exact ⟨h0, by have := (hb c (List.mem_cons_self ..)).2; omega⟩
    · exact hb x hx
theorem prs_rise : Rise prs := riseB_spec _ (by decide +kernel)
theorem prs_cut : prs = prs1 ++ (prsP.flatten ++ prsL) := by kernel_rfl
theorem prs1_len : prs1.length = 17 := by decide +kernel
theorem prsP_len : prsP.length = 37 := by decide +kernel
theorem prsP_17 : ∀ l ∈ prsP, l.length = 17 := by decide +kernel
theorem prsL_len : prsL.length = 4 := by decide +kernel
theorem items_eq : (evalEachOpt (dKeys (stAt 16)) envT).zip ((evalEach (dVals (stAt 16)) envT).map fun v => (do let x ← v; standAt qD; pure x : Sem Value)) = prs.map (itI qD) := by kernel_rfl
theorem eval_b3 : (match stAt 16 with | .Assign _ e _ => eval e envT | _ => unsupported "") = (do standAt qD; dictDisplay ((evalEachOpt (dKeys (stAt 16)) envT).zip ((evalEach (dVals (stAt 16)) envT).map fun v => (do let x ← v; standAt qD; pure x : Sem Value))) : Sem Value) := by kernel_rfl
theorem list_E (P : Params) : BT.list (treeE0 P) 205 = BT.list (treeD P) 166 ++ oMain P :: subsL := by kernel_rfl
end Mine
end
section
open PySem PySem.W PyProof.Rows PySem.Spec PySem.Calls
namespace Mine
noncomputable def endD : DSt → Sem Value := fun s => flushD s.2 s.1 >>= fun m => match m with | some d => pure (.ref d) | none => newDict
theorem ev_disp {w : World} {os : OsState} (L : List Obj) (hL : L.length = 166) {f : Option (Sem Value) × Sem Value → DSt → Sem (ForInStep DSt)} (hf : LoopF f) :
    Ev w (forIn (prs.map (itI qD)) ((none, []) : DSt) f >>= endD) (S L 420 os) qD 12515 (.ref 166) (S (L ++ dictO mainL 650 :: subsL) 2370 os) qD := by
  have hr := prs_rise
  rw [prs_cut] at hr ⊢
  obtain ⟨hp, hb⟩ := hr
  have hp1 := List.pairwise_append.mp hp
  have hp2 := List.pairwise_append.mp hp1.2.1
  have r1 : Rise prs1 := ⟨hp1.1, fun b h => hb b (List.mem_append_left _ h)⟩
  have rP : Rise prsP.flatten := ⟨hp2.1, fun b h => hb b (List.mem_append_right _ (List.mem_append_left _ h))⟩
  have rL : Rise prsL := ⟨hp2.2.1, fun b h => hb b (List.mem_append_right _ (List.mem_append_right _ h))⟩
  have ha : 11 ≤ L.length := by omega
  rw [List.map_append, List.map_append, forIn_part hf qD none _ prs1 [] (by rw [prs1_len]; rfl) (by intro e; have := prs1_len; rw [e] at this; cases this), sem_assoc]
  rw [show 12515 = 223 + (330 * prsP.length + (6 + 19 * 4)) by rw [prsP_len]]
  refine Ev.bind' (a := some L.length) (s₁ := S (L ++ dictO (entsFrom 420 prs1) 17 :: []) (420 + 51) os) (p₁ := qD) ?_ ?_
  · unfold flushD
    rw [if_neg (by have := prs1_len; cases h : prs1 with | nil => rw [h] at this; cases this | cons => simp)]
    exact Ev.bind' (n := 223) (m := 0) (ev_sub qD prs1 prs1_len r1 ha) (Ev.pure _)
  · have hne : entsFrom 420 prs1 ≠ [] := by intro e; have := entsFrom_len prs1 420; rw [e, prs1_len] at this; cases this
    refine ev_parts qD ha hf prsL endD _ _ _ _ prsP (entsFrom 420 prs1) 17 [] 471 prsP_17 rP hne (fun x hx b hb' => ?_) (by rw [entsFrom_len, prs1_len, prsP_len]; decide) ?_
    · obtain ⟨c, hc, e⟩ := entsFrom_mem prs1 420 x hx
      rw [e]; exact hp1.2.2 c hc b (List.mem_append_left _ hb')
    · rw [forIn_few hf qD _ prsL [] (by rw [prsL_len]; decide)]
      refine Ev.pbind ?_
      unfold endD
      have hne2 : entsFrom 420 prs1 ++ entsFrom 471 prsP.flatten ≠ [] := by simp [hne]
      have hl2 : (prsP.flatten).length = 629 := by decide +kernel
      have e := ev_flushS (w := w) (os := os) (L1 := L) qD (M := [] ++ subsFrom 471 prsP) (es := entsFrom 420 prs1 ++ entsFrom 471 prsP.flatten) (n := 17 + 17 * prsP.length) (tk := 471 + 51 * prsP.length) prsL (by rw [prsL_len]; decide) (by intro e; have := prsL_len; rw [e] at this; cases this) rL ha hne2
        (fun x hx b hb' => by
          rcases List.mem_append.mp hx with hx | hx
          · obtain ⟨c, hc, e⟩ := entsFrom_mem prs1 420 x hx
            rw [e]; exact hp1.2.2 c hc b (List.mem_append_right _ hb')
          · obtain ⟨c, hc, e⟩ := entsFrom_mem _ 471 x hx
            rw [e]; exact hp2.2.2 c hc b hb')
        (by rw [List.length_append, entsFrom_len, entsFrom_len, prs1_len, hl2]; decide)
      rw [prsL_len, prsP_len] at e
      rw [prsP_len]
      have k := Ev.bind' (n := 82) (m := 0) (f := fun m => match m with | some d => (pure (.ref d) : Sem Value) | none => newDict) e (Ev.pure _)
      rw [hL] at k
      rw [hL]
      exact k
theorem ev_b3d {w : World} {os : OsState} (L : List Obj) (hL : L.length = 166) : Ev w (dictDisplay (prs.map (itI qD))) (S L 420 os) qD 12515 (.ref 166) (S (L ++ dictO mainL 650 :: subsL) 2370 os) qD := by
  unfold dictDisplay
  refine ev_disp L hL ⟨fun k v main run h => ?_, fun k v main run h => ?_⟩
  · have hn : ((run ++ [(k, v)]).length == 17) = false := by
      rw [List.length_append, List.length_singleton]
      exact beq_eq_false_iff_ne.mpr (by omega)
    show (if ((run ++ [(k, v)]).length == 17) = true then _ else _) = _
    rw [hn, if_neg Bool.false_ne_true]
  · have hn : ((run ++ [(k, v)]).length == 17) = true := by
      rw [List.length_append, List.length_singleton, h]; rfl
    show (if ((run ++ [(k, v)]).length == 17) = true then _ else _) = _
    rw [hn, if_pos rfl]
    rfl
end Mine
end
section
open PySem PySem.W PyProof.Rows PySem.Spec PySem.Calls
namespace Mine
noncomputable section
noncomputable def asT : Stmt → List Expr | .Assign ts _ _ => ts | _ => []
noncomputable def asV : Stmt → Expr | .Assign _ v _ => v | _ => .Constant .none 0 ⟨0, 0, 0, 0⟩
noncomputable abbrev posAs : Pos := ⟨82, 0, 82, 8704⟩
noncomputable abbrev storeT (v : Value) : Sem Flow := do assignAll v ((assignEach (asT (stAt 16)) envT).map (·.2)); pure .next
theorem tail_T (w : World) (os : OsState) (K : Flow → Sem Fin) (H : Value → Sem Fin) (gd : Bool → Bool) (lv : List Value → List Value) :
    segGoT treeTable pw w 11 annT 1 7 (shT (treeE0 w.params) 205 2370 os) ⟨(storeT (.ref 166)).wrap K H gd lv, cdT, qD, [topFrame qT]⟩ = some (shT (treeE w.params) 205 2371 os, ⟨K .next, cdT, posE, [topFrame qT]⟩) := by kernel_rfl
theorem st16 : stAt 16 = .Assign (asT (stAt 16)) (asV (stAt 16)) posAs := by kernel_rfl
theorem swaps16 : swapsWithSole (asT (stAt 16)) (asV (stAt 16)) posAs.line envT = pure false := by kernel_rfl
theorem swapd16 : swappedStores (asT (stAt 16)) (asV (stAt 16)) envT = pure none := by kernel_rfl
theorem evalV16 : eval (asV (stAt 16)) envT = (do standAt qD; dictDisplay ((evalEachOpt (dKeys (stAt 16)) envT).zip ((evalEach (dVals (stAt 16)) envT).map fun v => (do let x ← v; standAt qD; pure x : Sem Value))) : Sem Value) := by kernel_rfl
theorem absE0 (P : Params) (os : OsState) : (shT (treeE0 P) 205 2370 os).abs = S (BT.list (treeD P) 166 ++ dictO mainL 650 :: subsL) 2370 os := by
  show Shared.mk ⟨(BT.list (treeE0 P) 205).toArray, {}⟩ #[] {} 2370 os = _
  rw [list_E]
  rfl
theorem absD (P : Params) (os : OsState) : (shT (treeD P) 166 420 os).abs = S (BT.list (treeD P) 166) 420 os := rfl
theorem ev_exec (w : World) (os : OsState) : Ev w (exec (stAt 16) envT) (shT (treeD w.params) 166 420 os).abs posD 12524 .next (shT (treeE w.params) 205 2371 os).abs posE := by
  rw [st16, exec_Assign_arm, absD]
  refine Ev.bind' (n := 1) (m := 12523) (a := ()) (s₁ := S (BT.list (treeD w.params) 166) 420 os) (p₁ := posAs) (Ev.at (Ev.pure _)) ?_
  rw [swaps16]
  refine Ev.pbind ?_
  rw [if_neg Bool.false_ne_true, evalV16]
  refine Ev.bind' (n := 12516) (m := 7) (a := .ref 166) (s₁ := S (BT.list (treeD w.params) 166 ++ dictO mainL 650 :: subsL) 2370 os) (p₁ := qD) ?_ ?_
  · refine Ev.bind' (n := 1) (m := 12515) (a := ()) (s₁ := S (BT.list (treeD w.params) 166) 420 os) (p₁ := qD) (Ev.at (Ev.pure _)) ?_
    rw [items_eq]
    exact ev_b3d _ (by unfold BT.list; rw [List.length_map, List.length_range])
  · rw [swapd16]
    refine Ev.pbind ?_
    intro K H gd lv
    rw [← absE0]
    exact segGo_of (tail_T w os K H gd lv)
theorem pcE (w : World) (os : OsState) : segRun treeTable pw w 11 annT 1 12525 (shT (treeD w.params) 166 420 os).abs (piecesOf (sts 16 1) envT cdT posD [topFrame qT]) = some (.next, (shT (treeE w.params) 205 2371 os).abs, cdT, posE) := by
  have e : (execs (sts 16 1) envT).wrap doneF deadEnd id id = (exec (stAt 16) envT).wrap (fun f => match f with | .next => doneF .next | f => doneF f) deadEnd id id := by
    rw [show sts 16 1 = [stAt 16] from by kernel_rfl, execs_cons_wrap]
    rfl
  show segRun treeTable pw w 11 annT 1 (12524 + 1) _ ⟨(execs (sts 16 1) envT).wrap doneF deadEnd id id, cdT, posD, [topFrame qT]⟩ = _
  rw [e]
  exact seg_go (ev_exec w os _ _ _ _) rfl
end
end Mine
end
section
open PySem PySem.W PyProof.Rows PySem.Spec PySem.Calls
namespace Mine
theorem pcF (w : World) (os : OsState) : segRunT treeTable pw w 11 annT 1 118 (shT (treeE w.params) 205 2371 os) (piecesOf (sts 17 5) envT cdT posE [topFrame qT]) =
    some (.next, shT (treeF w.params) 227 2399 os, cdT, posF) := by kernel_rfl
theorem pre_T (w : World) (os : OsState) : topGo treeTable pw w 11 annT 12 ⟨boot_heap w.params, #[], boot_drawn, boot_toks, os⟩ (topStub pw) = some ((shT (treeA w.params) 15 187 os).abs, ⟨denote treeTable cdT, cdT, posA, [topFrame qT]⟩) := by kernel_rfl
theorem blk_T (w : World) (os : OsState) : segRun treeTable pw w 11 annT 1 1 (shT (treeA w.params) 15 187 os).abs (blockOf bodT envT cdT posA [topFrame qT]) = some (.next, (shT (treeA w.params) 15 187 os).abs, cdT, posA) := by kernel_rfl
theorem fin_T (w : World) (os : OsState) : topRun treeTable pw w 11 annT 2 (shT (treeF w.params) 227 2399 os).abs ⟨doneF .next, cdT, posF, [topFrame qT]⟩ = some (shT (treeF w.params) 227 2399 os).abs := by kernel_rfl
theorem bod_eq : bodT = sts 0 12 ++ (sts 12 2 ++ (sts 14 2 ++ (sts 16 1 ++ (sts 17 5 ++ [])))) := by kernel_rfl
theorem run_T (w : World) (os : OsState) : topRun treeTable pw w 11 annT 14478 ⟨boot_heap w.params, #[], boot_drawn, boot_toks, os⟩ (topStub pw) = some (shT (treeF w.params) 227 2399 os).abs := by
  have k5 := piece_app (tb := treeTable) (p := pw) (w := w) (n₀ := 11) (ann := annT) (env := envT) (q := qT) (rest := []) (segRun_of (pcF w os)) (piece_nil (fin_T w os))
  have k4 := piece_app (pcE w os) k5
  have k3 := piece_app (segRun_of (pcD os w)) k4
  have k2 := piece_app (segRun_of (pcC w os)) k3
  have k1 := piece_app (segRun_of (pcB w os)) k2
  rw [← bod_eq] at k1
  have k0 := piece_block (blk_T w os) k1
  exact go_top (pre_T w os) k0
end Mine
end
section
open PySem PySem.W PyProof.Rows PySem.Spec PySem.Calls
namespace Mine
noncomputable section
noncomputable def KK (P : Params) : Frag :=
  ((nat_lit 2, boot_o_2 P) : Addr × Obj) ::
  ((nat_lit 3, ⟨(.type "dict"), none, (.dict #[⟨PyData.keyHash P (Str.ofString "__name__"), (.str (Str.ofString "__name__") 165), (.str (Str.ofString "law_wr0046_01") 2379)⟩, ⟨PyData.keyHash P (Str.ofString "__doc__"), (.str (Str.ofString "__doc__") 166), .none⟩, ⟨PyData.keyHash P (Str.ofString "__package__"), (.str (Str.ofString "__package__") 167), .none⟩, ⟨PyData.keyHash P (Str.ofString "__loader__"), (.str (Str.ofString "__loader__") 168), (.builtin "__main__.__loader__#opaque")⟩, ⟨PyData.keyHash P (Str.ofString "__spec__"), (.str (Str.ofString "__spec__") 169), .none⟩, ⟨PyData.keyHash P (Str.ofString "__annotations__"), (.str (Str.ofString "__annotations__") 170), (.ref 6)⟩, ⟨PyData.keyHash P (Str.ofString "__builtins__"), (.str (Str.ofString "__builtins__") 171), (.ref 4)⟩, ⟨PyData.keyHash P (Str.ofString "__file__"), (.str (Str.ofString "__file__") 173), (.str (Str.ofString "/claim/cut.py") 172)⟩, ⟨PyData.keyHash P (Str.ofString "__cached__"), (.str (Str.ofString "__cached__") 174), .none⟩, ⟨PyData.keyHash P (Str.ofString "_wall"), (.str (Str.ofString "_wall") 193), (.ref 21)⟩, ⟨PyData.keyHash P (Str.ofString "and_"), (.str (Str.ofString "and_") 203), (.ref 28)⟩, ⟨PyData.keyHash P (Str.ofString "lshift"), (.str (Str.ofString "lshift") 211), (.ref 35)⟩, ⟨PyData.keyHash P (Str.ofString "or_"), (.str (Str.ofString "or_") 219), (.ref 42)⟩, ⟨PyData.keyHash P (Str.ofString "rshift"), (.str (Str.ofString "rshift") 227), (.ref 49)⟩, ⟨PyData.keyHash P (Str.ofString "xor"), (.str (Str.ofString "xor") 235), (.ref 56)⟩, ⟨PyData.keyHash P (Str.ofString "ELLIPSIS_MARKER"), (.str (Str.ofString "ELLIPSIS_MARKER") 239), (.str (Str.ofString "...") 238)⟩, ⟨PyData.keyHash P (Str.ofString "_ellipsis_match"), (.str (Str.ofString "_ellipsis_match") 251), (.ref 63)⟩, ⟨PyData.keyHash P (Str.ofString "EMPTYSTRING"), (.str (Str.ofString "EMPTYSTRING") 255), (.str (Str.ofString "") 254)⟩, ⟨PyData.keyHash P (Str.ofString "_Accumulator"), (.str (Str.ofString "_Accumulator") 350), (.ref 143)⟩, ⟨PyData.keyHash P (Str.ofString "b1_set"), (.str (Str.ofString "b1_set") 412), (.ref 155)⟩, ⟨PyData.keyHash P (Str.ofString "in_table_b1"), (.str (Str.ofString "in_table_b1") 419), (.ref 165)⟩, ⟨PyData.keyHash P (Str.ofString "b3_exceptions"), (.str (Str.ofString "b3_exceptions") 2370), (.ref 166)⟩, ⟨PyData.keyHash P (Str.ofString "map_table_b3"), (.str (Str.ofString "map_table_b3") 2378), (.ref 211)⟩, ⟨PyData.keyHash P (Str.ofString "_law_typed"), (.str (Str.ofString "_law_typed") 2386), (.ref 216)⟩, ⟨PyData.keyHash P (Str.ofString "_law_prepared"), (.str (Str.ofString "_law_prepared") 2392), (.ref 221)⟩, ⟨PyData.keyHash P (Str.ofString "law"), (.str (Str.ofString "law") 2398), (.ref 226)⟩] 26), #[]⟩) : Addr × Obj) ::
  ((nat_lit 15, ⟨(.type "tuple"), none, (.seq #[] 0), #[]⟩) : Addr × Obj) ::
  ((nat_lit 17, ⟨(.type "tuple"), none, (.seq #[(.str (Str.ofString "k") 190)] 0), #[]⟩) : Addr × Obj) ::
  ((nat_lit 18, ⟨(.type "tuple"), none, (.seq #[] 0), #[]⟩) : Addr × Obj) ::
  ((nat_lit 20, ⟨(.type "code"), none, (.fields #[(.str (Str.ofString "_wall") 187), (.str (Str.ofString "_wall") 188), (.str (Str.ofString "/claim/cut.py") 189), (.int (1) 0), (.int (1) 0), (.int (0) 0), (.int (0) 0), (.int (3) 0), (.ref 15), (.bool true), (.int (181) 0), (.ref 16), .none, (.ref 17), (.ref 18), (.ref 19), (.int (191) 0), (.int (1) 0), (.str (Str.ofString "/claim/cut.py") 192)]), #[]⟩) : Addr × Obj) ::
  ((nat_lit 21, ⟨(.type "function"), none, (.func ⟨(Str.ofString "_wall"), (Str.ofString "_wall"), bA0, .stmts bB0, bS0, 3, [], .none, .none, .none, (.str (Str.ofString "__main__") 164), none, (.ref 20), .none, 0⟩), #[]⟩) : Addr × Obj) ::
  ((nat_lit 22, ⟨(.type "tuple"), none, (.seq #[] 0), #[]⟩) : Addr × Obj) ::
  ((nat_lit 24, ⟨(.type "tuple"), none, (.seq #[(.str (Str.ofString "a") 199), (.str (Str.ofString "b") 200)] 0), #[]⟩) : Addr × Obj) ::
  ((nat_lit 25, ⟨(.type "tuple"), none, (.seq #[] 0), #[]⟩) : Addr × Obj) ::
  ((nat_lit 27, ⟨(.type "code"), none, (.fields #[(.str (Str.ofString "and_") 196), (.str (Str.ofString "and_") 197), (.str (Str.ofString "/claim/cut.py") 198), (.int (5) 0), (.int (2) 0), (.int (0) 0), (.int (0) 0), (.int (3) 0), (.ref 22), (.bool true), (.int (181) 0), (.ref 23), .none, (.ref 24), (.ref 25), (.ref 26), (.int (201) 0), (.int (5) 0), (.str (Str.ofString "/claim/cut.py") 202)]), #[]⟩) : Addr × Obj) ::
  ((nat_lit 28, ⟨(.type "function"), none, (.func ⟨(Str.ofString "and_"), (Str.ofString "and_"), bA2, .stmts bB2, bS2, 3, [], .none, .none, .none, (.str (Str.ofString "cpy313.operator") 194), none, (.ref 27), .none, 0⟩), #[]⟩) : Addr × Obj) ::
  ((nat_lit 29, ⟨(.type "tuple"), none, (.seq #[] 0), #[]⟩) : Addr × Obj) ::
  ((nat_lit 31, ⟨(.type "tuple"), none, (.seq #[(.str (Str.ofString "a") 207), (.str (Str.ofString "b") 208)] 0), #[]⟩) : Addr × Obj) ::
  ((nat_lit 32, ⟨(.type "tuple"), none, (.seq #[] 0), #[]⟩) : Addr × Obj) ::
  ((nat_lit 34, ⟨(.type "code"), none, (.fields #[(.str (Str.ofString "lshift") 204), (.str (Str.ofString "lshift") 205), (.str (Str.ofString "/claim/cut.py") 206), (.int (7) 0), (.int (2) 0), (.int (0) 0), (.int (0) 0), (.int (3) 0), (.ref 29), (.bool true), (.int (181) 0), (.ref 30), .none, (.ref 31), (.ref 32), (.ref 33), (.int (209) 0), (.int (7) 0), (.str (Str.ofString "/claim/cut.py") 210)]), #[]⟩) : Addr × Obj) ::
  ((nat_lit 35, ⟨(.type "function"), none, (.func ⟨(Str.ofString "lshift"), (Str.ofString "lshift"), bA3, .stmts bB3, bS3, 3, [], .none, .none, .none, (.str (Str.ofString "cpy313.operator") 194), none, (.ref 34), .none, 0⟩), #[]⟩) : Addr × Obj) ::
  ((nat_lit 36, ⟨(.type "tuple"), none, (.seq #[] 0), #[]⟩) : Addr × Obj) ::
  ((nat_lit 38, ⟨(.type "tuple"), none, (.seq #[(.str (Str.ofString "a") 215), (.str (Str.ofString "b") 216)] 0), #[]⟩) : Addr × Obj) ::
  ((nat_lit 39, ⟨(.type "tuple"), none, (.seq #[] 0), #[]⟩) : Addr × Obj) ::
  ((nat_lit 41, ⟨(.type "code"), none, (.fields #[(.str (Str.ofString "or_") 212), (.str (Str.ofString "or_") 213), (.str (Str.ofString "/claim/cut.py") 214), (.int (9) 0), (.int (2) 0), (.int (0) 0), (.int (0) 0), (.int (3) 0), (.ref 36), (.bool true), (.int (181) 0), (.ref 37), .none, (.ref 38), (.ref 39), (.ref 40), (.int (217) 0), (.int (9) 0), (.str (Str.ofString "/claim/cut.py") 218)]), #[]⟩) : Addr × Obj) ::
  ((nat_lit 42, ⟨(.type "function"), none, (.func ⟨(Str.ofString "or_"), (Str.ofString "or_"), bA4, .stmts bB4, bS4, 3, [], .none, .none, .none, (.str (Str.ofString "cpy313.operator") 194), none, (.ref 41), .none, 0⟩), #[]⟩) : Addr × Obj) ::
  ((nat_lit 43, ⟨(.type "tuple"), none, (.seq #[] 0), #[]⟩) : Addr × Obj) ::
  ((nat_lit 45, ⟨(.type "tuple"), none, (.seq #[(.str (Str.ofString "a") 223), (.str (Str.ofString "b") 224)] 0), #[]⟩) : Addr × Obj) ::
  ((nat_lit 46, ⟨(.type "tuple"), none, (.seq #[] 0), #[]⟩) : Addr × Obj) ::
  ((nat_lit 48, ⟨(.type "code"), none, (.fields #[(.str (Str.ofString "rshift") 220), (.str (Str.ofString "rshift") 221), (.str (Str.ofString "/claim/cut.py") 222), (.int (11) 0), (.int (2) 0), (.int (0) 0), (.int (0) 0), (.int (3) 0), (.ref 43), (.bool true), (.int (181) 0), (.ref 44), .none, (.ref 45), (.ref 46), (.ref 47), (.int (225) 0), (.int (11) 0), (.str (Str.ofString "/claim/cut.py") 226)]), #[]⟩) : Addr × Obj) ::
  ((nat_lit 49, ⟨(.type "function"), none, (.func ⟨(Str.ofString "rshift"), (Str.ofString "rshift"), bA5, .stmts bB5, bS5, 3, [], .none, .none, .none, (.str (Str.ofString "cpy313.operator") 194), none, (.ref 48), .none, 0⟩), #[]⟩) : Addr × Obj) ::
  ((nat_lit 50, ⟨(.type "tuple"), none, (.seq #[] 0), #[]⟩) : Addr × Obj) ::
  ((nat_lit 52, ⟨(.type "tuple"), none, (.seq #[(.str (Str.ofString "a") 231), (.str (Str.ofString "b") 232)] 0), #[]⟩) : Addr × Obj) ::
  ((nat_lit 53, ⟨(.type "tuple"), none, (.seq #[] 0), #[]⟩) : Addr × Obj) ::
  ((nat_lit 55, ⟨(.type "code"), none, (.fields #[(.str (Str.ofString "xor") 228), (.str (Str.ofString "xor") 229), (.str (Str.ofString "/claim/cut.py") 230), (.int (13) 0), (.int (2) 0), (.int (0) 0), (.int (0) 0), (.int (3) 0), (.ref 50), (.bool true), (.int (181) 0), (.ref 51), .none, (.ref 52), (.ref 53), (.ref 54), (.int (233) 0), (.int (13) 0), (.str (Str.ofString "/claim/cut.py") 234)]), #[]⟩) : Addr × Obj) ::
  ((nat_lit 56, ⟨(.type "function"), none, (.func ⟨(Str.ofString "xor"), (Str.ofString "xor"), bA6, .stmts bB6, bS6, 3, [], .none, .none, .none, (.str (Str.ofString "cpy313.operator") 194), none, (.ref 55), .none, 0⟩), #[]⟩) : Addr × Obj) ::
  ((nat_lit 57, ⟨(.type "tuple"), none, (.seq #[] 0), #[]⟩) : Addr × Obj) ::
  ((nat_lit 59, ⟨(.type "tuple"), none, (.seq #[(.str (Str.ofString "want") 243), (.str (Str.ofString "got") 244), (.str (Str.ofString "ws") 245), (.str (Str.ofString "startpos") 246), (.str (Str.ofString "endpos") 247), (.str (Str.ofString "w") 248)] 0), #[]⟩) : Addr × Obj) ::
  ((nat_lit 60, ⟨(.type "tuple"), none, (.seq #[] 0), #[]⟩) : Addr × Obj) ::
  ((nat_lit 62, ⟨(.type "code"), none, (.fields #[(.str (Str.ofString "_ellipsis_match") 240), (.str (Str.ofString "_ellipsis_match") 241), (.str (Str.ofString "/claim/cut.py") 242), (.int (17) 0), (.int (2) 0), (.int (0) 0), (.int (0) 0), (.int (3) 0), (.ref 57), (.bool true), (.int (181) 0), (.ref 58), .none, (.ref 59), (.ref 60), (.ref 61), (.int (249) 0), (.int (17) 0), (.str (Str.ofString "/claim/cut.py") 250)]), #[]⟩) : Addr × Obj) ::
  ((nat_lit 63, ⟨(.type "function"), none, (.func ⟨(Str.ofString "_ellipsis_match"), (Str.ofString "_ellipsis_match"), bA9, .stmts bB9, bS9, 3, [], .none, .none, .none, (.str (Str.ofString "cpy313.doctest") 236), none, (.ref 62), .none, 0⟩), #[]⟩) : Addr × Obj) ::
  ((nat_lit 64, ⟨(.type "tuple"), none, (.seq #[(.type "list")] 0), #[]⟩) : Addr × Obj) ::
  ((nat_lit 67, ⟨(.type "cell"), none, (.cell (some (.ref 143))), #[]⟩) : Addr × Obj) ::
  ((nat_lit 72, ⟨(.type "tuple"), none, (.seq #[(.int (0) 268)] 0), #[]⟩) : Addr × Obj) ::
  ((nat_lit 73, ⟨(.type "tuple"), none, (.seq #[(.ref 67)] 0), #[]⟩) : Addr × Obj) ::
  ((nat_lit 74, ⟨(.type "tuple"), none, (.seq #[(.str (Str.ofString "__class__") 272)] 0), #[]⟩) : Addr × Obj) ::
  ((nat_lit 76, ⟨(.type "tuple"), none, (.seq #[(.str (Str.ofString "self") 273), (.str (Str.ofString "initial_size") 274)] 0), #[]⟩) : Addr × Obj) ::
  ((nat_lit 77, ⟨(.type "tuple"), none, (.seq #[] 0), #[]⟩) : Addr × Obj) ::
  ((nat_lit 79, ⟨(.type "code"), none, (.fields #[(.str (Str.ofString "__init__") 269), (.str (Str.ofString "_Accumulator.__init__") 270), (.str (Str.ofString "/claim/cut.py") 271), (.int (49) 0), (.int (2) 0), (.int (0) 0), (.int (0) 0), (.int (3) 0), (.ref 74), (.bool true), (.int (181) 0), (.ref 75), .none, (.ref 76), (.ref 77), (.ref 78), (.int (275) 0), (.int (49) 0), (.str (Str.ofString "/claim/cut.py") 276)]), #[]⟩) : Addr × Obj) ::
  ((nat_lit 80, ⟨(.type "function"), none, (.func ⟨(Str.ofString "__init__"), (Str.ofString "_Accumulator.__init__"), bA12_0, .stmts bB12_0, bS12_0, 3, [((Str.ofString "__class__"), 67)], (.ref 72), .none, .none, (.str (Str.ofString "cpy313.email.header") 252), none, (.ref 79), (.ref 73), 0⟩), #[]⟩) : Addr × Obj) ::
  ((nat_lit 81, ⟨(.type "tuple"), none, (.seq #[] 0), #[]⟩) : Addr × Obj) ::
  ((nat_lit 83, ⟨(.type "tuple"), none, (.seq #[(.str (Str.ofString "self") 281), (.str (Str.ofString "fws") 282), (.str (Str.ofString "string") 283)] 0), #[]⟩) : Addr × Obj) ::
  ((nat_lit 84, ⟨(.type "tuple"), none, (.seq #[] 0), #[]⟩) : Addr × Obj) ::
  ((nat_lit 86, ⟨(.type "code"), none, (.fields #[(.str (Str.ofString "push") 278), (.str (Str.ofString "_Accumulator.push") 279), (.str (Str.ofString "/claim/cut.py") 280), (.int (53) 0), (.int (3) 0), (.int (0) 0), (.int (0) 0), (.int (3) 0), (.ref 81), (.bool true), (.int (181) 0), (.ref 82), .none, (.ref 83), (.ref 84), (.ref 85), (.int (284) 0), (.int (53) 0), (.str (Str.ofString "/claim/cut.py") 285)]), #[]⟩) : Addr × Obj) ::
  ((nat_lit 87, ⟨(.type "function"), none, (.func ⟨(Str.ofString "push"), (Str.ofString "_Accumulator.push"), bA12_1, .stmts bB12_1, bS12_1, 3, [], .none, .none, .none, (.str (Str.ofString "cpy313.email.header") 252), none, (.ref 86), .none, 0⟩), #[]⟩) : Addr × Obj) ::
  ((nat_lit 88, ⟨(.type "tuple"), none, (.seq #[(.int (0) 287)] 0), #[]⟩) : Addr × Obj) ::
  ((nat_lit 89, ⟨(.type "tuple"), none, (.seq #[] 0), #[]⟩) : Addr × Obj) ::
  ((nat_lit 91, ⟨(.type "tuple"), none, (.seq #[(.str (Str.ofString "self") 291), (.str (Str.ofString "i") 292)] 0), #[]⟩) : Addr × Obj) ::
  ((nat_lit 92, ⟨(.type "tuple"), none, (.seq #[] 0), #[]⟩) : Addr × Obj) ::
  ((nat_lit 94, ⟨(.type "code"), none, (.fields #[(.str (Str.ofString "pop_from") 288), (.str (Str.ofString "_Accumulator.pop_from") 289), (.str (Str.ofString "/claim/cut.py") 290), (.int (56) 0), (.int (2) 0), (.int (0) 0), (.int (0) 0), (.int (3) 0), (.ref 89), (.bool true), (.int (181) 0), (.ref 90), .none, (.ref 91), (.ref 92), (.ref 93), (.int (293) 0), (.int (56) 0), (.str (Str.ofString "/claim/cut.py") 294)]), #[]⟩) : Addr × Obj) ::
  ((nat_lit 95, ⟨(.type "function"), none, (.func ⟨(Str.ofString "pop_from"), (Str.ofString "_Accumulator.pop_from"), bA12_2, .stmts bB12_2, bS12_2, 3, [], (.ref 88), .none, .none, (.str (Str.ofString "cpy313.email.header") 252), none, (.ref 94), .none, 0⟩), #[]⟩) : Addr × Obj) ::
  ((nat_lit 96, ⟨(.type "tuple"), none, (.seq #[(.ref 67)] 0), #[]⟩) : Addr × Obj) ::
  ((nat_lit 97, ⟨(.type "tuple"), none, (.seq #[(.str (Str.ofString "__class__") 299)] 0), #[]⟩) : Addr × Obj) ::
  ((nat_lit 99, ⟨(.type "tuple"), none, (.seq #[(.str (Str.ofString "self") 300)] 0), #[]⟩) : Addr × Obj) ::
  ((nat_lit 100, ⟨(.type "tuple"), none, (.seq #[] 0), #[]⟩) : Addr × Obj) ::
  ((nat_lit 102, ⟨(.type "code"), none, (.fields #[(.str (Str.ofString "pop") 296), (.str (Str.ofString "_Accumulator.pop") 297), (.str (Str.ofString "/claim/cut.py") 298), (.int (59) 0), (.int (1) 0), (.int (0) 0), (.int (0) 0), (.int (3) 0), (.ref 97), (.bool true), (.int (181) 0), (.ref 98), .none, (.ref 99), (.ref 100), (.ref 101), (.int (301) 0), (.int (59) 0), (.str (Str.ofString "/claim/cut.py") 302)]), #[]⟩) : Addr × Obj) ::
  ((nat_lit 103, ⟨(.type "function"), none, (.func ⟨(Str.ofString "pop"), (Str.ofString "_Accumulator.pop"), bA12_3, .stmts bB12_3, bS12_3, 3, [((Str.ofString "__class__"), 67)], .none, .none, .none, (.str (Str.ofString "cpy313.email.header") 252), none, (.ref 102), (.ref 96), 0⟩), #[]⟩) : Addr × Obj) ::
  ((nat_lit 104, ⟨(.type "tuple"), none, (.seq #[] 0), #[]⟩) : Addr × Obj) ::
  ((nat_lit 106, ⟨(.type "tuple"), none, (.seq #[(.str (Str.ofString "self") 307)] 0), #[]⟩) : Addr × Obj) ::
  ((nat_lit 107, ⟨(.type "tuple"), none, (.seq #[] 0), #[]⟩) : Addr × Obj) ::
  ((nat_lit 109, ⟨(.type "code"), none, (.fields #[(.str (Str.ofString "__len__") 304), (.str (Str.ofString "_Accumulator.__len__") 305), (.str (Str.ofString "/claim/cut.py") 306), (.int (64) 0), (.int (1) 0), (.int (0) 0), (.int (0) 0), (.int (3) 0), (.ref 104), (.bool true), (.int (181) 0), (.ref 105), .none, (.ref 106), (.ref 107), (.ref 108), (.int (308) 0), (.int (64) 0), (.str (Str.ofString "/claim/cut.py") 309)]), #[]⟩) : Addr × Obj) ::
  ((nat_lit 110, ⟨(.type "function"), none, (.func ⟨(Str.ofString "__len__"), (Str.ofString "_Accumulator.__len__"), bA12_4, .stmts bB12_4, bS12_4, 3, [], .none, .none, .none, (.str (Str.ofString "cpy313.email.header") 252), none, (.ref 109), .none, 0⟩), #[]⟩) : Addr × Obj) ::
  ((nat_lit 111, ⟨(.type "tuple"), none, (.seq #[] 0), #[]⟩) : Addr × Obj) ::
  ((nat_lit 113, ⟨(.type "tuple"), none, (.seq #[(.str (Str.ofString "self") 314)] 0), #[]⟩) : Addr × Obj) ::
  ((nat_lit 114, ⟨(.type "tuple"), none, (.seq #[] 0), #[]⟩) : Addr × Obj) ::
  ((nat_lit 116, ⟨(.type "code"), none, (.fields #[(.str (Str.ofString "__str__") 311), (.str (Str.ofString "_Accumulator.__str__") 312), (.str (Str.ofString "/claim/cut.py") 313), (.int (67) 0), (.int (1) 0), (.int (0) 0), (.int (0) 0), (.int (3) 0), (.ref 111), (.bool true), (.int (181) 0), (.ref 112), .none, (.ref 113), (.ref 114), (.ref 115), (.int (315) 0), (.int (67) 0), (.str (Str.ofString "/claim/cut.py") 316)]), #[]⟩) : Addr × Obj) ::
  ((nat_lit 117, ⟨(.type "function"), none, (.func ⟨(Str.ofString "__str__"), (Str.ofString "_Accumulator.__str__"), bA12_5, .stmts bB12_5, bS12_5, 3, [], .none, .none, .none, (.str (Str.ofString "cpy313.email.header") 252), none, (.ref 116), .none, 0⟩), #[]⟩) : Addr × Obj) ::
  ((nat_lit 118, ⟨(.type "tuple"), none, (.seq #[.none] 0), #[]⟩) : Addr × Obj) ::
  ((nat_lit 119, ⟨(.type "tuple"), none, (.seq #[] 0), #[]⟩) : Addr × Obj) ::
  ((nat_lit 121, ⟨(.type "tuple"), none, (.seq #[(.str (Str.ofString "self") 321), (.str (Str.ofString "startval") 322)] 0), #[]⟩) : Addr × Obj) ::
  ((nat_lit 122, ⟨(.type "tuple"), none, (.seq #[] 0), #[]⟩) : Addr × Obj) ::
  ((nat_lit 124, ⟨(.type "code"), none, (.fields #[(.str (Str.ofString "reset") 318), (.str (Str.ofString "_Accumulator.reset") 319), (.str (Str.ofString "/claim/cut.py") 320), (.int (70) 0), (.int (2) 0), (.int (0) 0), (.int (0) 0), (.int (3) 0), (.ref 119), (.bool true), (.int (181) 0), (.ref 120), .none, (.ref 121), (.ref 122), (.ref 123), (.int (323) 0), (.int (70) 0), (.str (Str.ofString "/claim/cut.py") 324)]), #[]⟩) : Addr × Obj) ::
  ((nat_lit 125, ⟨(.type "function"), none, (.func ⟨(Str.ofString "reset"), (Str.ofString "_Accumulator.reset"), bA12_6, .stmts bB12_6, bS12_6, 3, [], (.ref 118), .none, .none, (.str (Str.ofString "cpy313.email.header") 252), none, (.ref 124), .none, 0⟩), #[]⟩) : Addr × Obj) ::
  ((nat_lit 126, ⟨(.type "tuple"), none, (.seq #[] 0), #[]⟩) : Addr × Obj) ::
  ((nat_lit 128, ⟨(.type "tuple"), none, (.seq #[(.str (Str.ofString "self") 329)] 0), #[]⟩) : Addr × Obj) ::
  ((nat_lit 129, ⟨(.type "tuple"), none, (.seq #[] 0), #[]⟩) : Addr × Obj) ::
  ((nat_lit 131, ⟨(.type "code"), none, (.fields #[(.str (Str.ofString "is_onlyws") 326), (.str (Str.ofString "_Accumulator.is_onlyws") 327), (.str (Str.ofString "/claim/cut.py") 328), (.int (73) 0), (.int (1) 0), (.int (0) 0), (.int (0) 0), (.int (3) 0), (.ref 126), (.bool true), (.int (181) 0), (.ref 127), .none, (.ref 128), (.ref 129), (.ref 130), (.int (330) 0), (.int (73) 0), (.str (Str.ofString "/claim/cut.py") 331)]), #[]⟩) : Addr × Obj) ::
  ((nat_lit 132, ⟨(.type "function"), none, (.func ⟨(Str.ofString "is_onlyws"), (Str.ofString "_Accumulator.is_onlyws"), bA12_7, .stmts bB12_7, bS12_7, 3, [], .none, .none, .none, (.str (Str.ofString "cpy313.email.header") 252), none, (.ref 131), .none, 0⟩), #[]⟩) : Addr × Obj) ::
  ((nat_lit 133, ⟨(.type "tuple"), none, (.seq #[(.ref 67)] 0), #[]⟩) : Addr × Obj) ::
  ((nat_lit 134, ⟨(.type "tuple"), none, (.seq #[(.str (Str.ofString "__class__") 336)] 0), #[]⟩) : Addr × Obj) ::
  ((nat_lit 136, ⟨(.type "tuple"), none, (.seq #[(.str (Str.ofString "self") 337)] 0), #[]⟩) : Addr × Obj) ::
  ((nat_lit 137, ⟨(.type "tuple"), none, (.seq #[] 0), #[]⟩) : Addr × Obj) ::
  ((nat_lit 139, ⟨(.type "code"), none, (.fields #[(.str (Str.ofString "part_count") 333), (.str (Str.ofString "_Accumulator.part_count") 334), (.str (Str.ofString "/claim/cut.py") 335), (.int (76) 0), (.int (1) 0), (.int (0) 0), (.int (0) 0), (.int (3) 0), (.ref 134), (.bool true), (.int (181) 0), (.ref 135), .none, (.ref 136), (.ref 137), (.ref 138), (.int (338) 0), (.int (76) 0), (.str (Str.ofString "/claim/cut.py") 339)]), #[]⟩) : Addr × Obj) ::
  ((nat_lit 140, ⟨(.type "function"), none, (.func ⟨(Str.ofString "part_count"), (Str.ofString "_Accumulator.part_count"), bA12_8, .stmts bB12_8, bS12_8, 3, [((Str.ofString "__class__"), 67)], .none, .none, .none, (.str (Str.ofString "cpy313.email.header") 252), none, (.ref 139), (.ref 133), 0⟩), #[]⟩) : Addr × Obj) ::
  ((nat_lit 141, ⟨(.type "tuple"), none, (.seq #[(.str (Str.ofString "_initial_size") 341)] 0), #[]⟩) : Addr × Obj) ::
  ((nat_lit 142, ⟨(.type "dict"), none, (.dict #[⟨PyData.keyHash P (Str.ofString "__module__"), (.str (Str.ofString "__module__") 263), (.str (Str.ofString "cpy313.email.header") 252)⟩, ⟨PyData.keyHash P (Str.ofString "__firstlineno__"), (.str (Str.ofString "__firstlineno__") 267), (.int (47) 266)⟩, ⟨PyData.keyHash P (Str.ofString "__init__"), (.str (Str.ofString "__init__") 277), (.ref 80)⟩, ⟨PyData.keyHash P (Str.ofString "push"), (.str (Str.ofString "push") 286), (.ref 87)⟩, ⟨PyData.keyHash P (Str.ofString "pop_from"), (.str (Str.ofString "pop_from") 295), (.ref 95)⟩, ⟨PyData.keyHash P (Str.ofString "pop"), (.str (Str.ofString "pop") 303), (.ref 103)⟩, ⟨PyData.keyHash P (Str.ofString "__len__"), (.str (Str.ofString "__len__") 310), (.ref 110)⟩, ⟨PyData.keyHash P (Str.ofString "__str__"), (.str (Str.ofString "__str__") 317), (.ref 117)⟩, ⟨PyData.keyHash P (Str.ofString "reset"), (.str (Str.ofString "reset") 325), (.ref 125)⟩, ⟨PyData.keyHash P (Str.ofString "is_onlyws"), (.str (Str.ofString "is_onlyws") 332), (.ref 132)⟩, ⟨PyData.keyHash P (Str.ofString "part_count"), (.str (Str.ofString "part_count") 340), (.ref 140)⟩, ⟨PyData.keyHash P (Str.ofString "__static_attributes__"), (.str (Str.ofString "__static_attributes__") 342), (.ref 141)⟩, ⟨PyData.keyHash P (Str.ofString "__dict__"), (.str (Str.ofString "__dict__") 345), (.ref 144)⟩, ⟨PyData.keyHash P (Str.ofString "__weakref__"), (.str (Str.ofString "__weakref__") 347), (.ref 145)⟩, ⟨PyData.keyHash P (Str.ofString "__doc__"), (.str (Str.ofString "__doc__") 348), .none⟩] 5), #[]⟩) : Addr × Obj) ::
  ((nat_lit 143, ⟨(.type "type"), none, (.cls ⟨(Str.ofString "_Accumulator"), [(.type "list")], [(.ref 143), (.type "list"), (.type "object")], 142, (Str.ofString "_Accumulator"), true, [], [], false, none, false⟩), #[(some (.ref 64)), none, (some (.str (Str.ofString "_Accumulator") 256)), (some (.str (Str.ofString "_Accumulator") 264)), (some (.builtin "list.__new__")), (some (.bool true))]⟩) : Addr × Obj) ::
  ((nat_lit 144, ⟨(.type "getset_descriptor"), none, (.fields #[(.str (Str.ofString "__dict__") 344), (.ref 143), (.builtin "function.__dict__"), (.builtin "function.__dict__#set")]), #[]⟩) : Addr × Obj) ::
  ((nat_lit 145, ⟨(.type "getset_descriptor"), none, (.fields #[(.str (Str.ofString "__weakref__") 346), (.ref 143), (.builtin "ExceptionGroup.__weakref__"), .none]), #[]⟩) : Addr × Obj) ::
  ((nat_lit 155, ⟨(.type "set"), none, (.set #[(65024, (.int (65024) 369)), (65025, (.int (65025) 370)), (65026, (.int (65026) 371)), (65027, (.int (65027) 372)), (65028, (.int (65028) 373)), (65029, (.int (65029) 374)), (6150, (.int (6150) 355)), (65030, (.int (65030) 375)), (65031, (.int (65031) 376)), (65032, (.int (65032) 377)), (65033, (.int (65033) 378)), (6155, (.int (6155) 356)), (6156, (.int (6156) 357)), (6157, (.int (6157) 358)), (8203, (.int (8203) 359)), (8204, (.int (8204) 360)), (8205, (.int (8205) 361)), (65034, (.int (65034) 379)), (65035, (.int (65035) 380)), (65036, (.int (65036) 381)), (65037, (.int (65037) 382)), (65038, (.int (65038) 383)), (65039, (.int (65039) 384)), (173, (.int (173) 353)), (847, (.int (847) 354)), (8288, (.int (8288) 362)), (65279, (.int (65279) 363))] 29 ⟨127, #[0, 1, 2, 3, 4, 5, 6, 7, 8, 9, 10, 11, 12, 13, 14, 15, 16, 17, 18, 19, 20, 21, 22, 45, 79, 96, 127], #[], 0, !(P.followText "set-order"), 2, true⟩), #[]⟩) : Addr × Obj) ::
  ((nat_lit 159, ⟨(.type "tuple"), none, (.seq #[] 0), #[]⟩) : Addr × Obj) ::
  ((nat_lit 161, ⟨(.type "tuple"), none, (.seq #[(.str (Str.ofString "code") 416)] 0), #[]⟩) : Addr × Obj) ::
  ((nat_lit 162, ⟨(.type "tuple"), none, (.seq #[] 0), #[]⟩) : Addr × Obj) ::
  ((nat_lit 164, ⟨(.type "code"), none, (.fields #[(.str (Str.ofString "in_table_b1") 413), (.str (Str.ofString "in_table_b1") 414), (.str (Str.ofString "/claim/cut.py") 415), (.int (80) 0), (.int (1) 0), (.int (0) 0), (.int (0) 0), (.int (3) 0), (.ref 159), (.bool true), (.int (181) 0), (.ref 160), .none, (.ref 161), (.ref 162), (.ref 163), (.int (417) 0), (.int (80) 0), (.str (Str.ofString "/claim/cut.py") 418)]), #[]⟩) : Addr × Obj) ::
  ((nat_lit 165, ⟨(.type "function"), none, (.func ⟨(Str.ofString "in_table_b1"), (Str.ofString "in_table_b1"), bA15, .stmts bB15, bS15, 3, [], .none, .none, .none, (.str (Str.ofString "cpy313.stringprep") 351), none, (.ref 164), .none, 0⟩), #[]⟩) : Addr × Obj) ::
  ((nat_lit 166, oMain P) : Addr × Obj) ::
  ((nat_lit 205, ⟨(.type "tuple"), none, (.seq #[] 0), #[]⟩) : Addr × Obj) ::
  ((nat_lit 207, ⟨(.type "tuple"), none, (.seq #[(.str (Str.ofString "code") 2374), (.str (Str.ofString "r") 2375)] 0), #[]⟩) : Addr × Obj) ::
  ((nat_lit 208, ⟨(.type "tuple"), none, (.seq #[] 0), #[]⟩) : Addr × Obj) ::
  ((nat_lit 210, ⟨(.type "code"), none, (.fields #[(.str (Str.ofString "map_table_b3") 2371), (.str (Str.ofString "map_table_b3") 2372), (.str (Str.ofString "/claim/cut.py") 2373), (.int (83) 0), (.int (1) 0), (.int (0) 0), (.int (0) 0), (.int (3) 0), (.ref 205), (.bool true), (.int (181) 0), (.ref 206), .none, (.ref 207), (.ref 208), (.ref 209), (.int (2376) 0), (.int (83) 0), (.str (Str.ofString "/claim/cut.py") 2377)]), #[]⟩) : Addr × Obj) ::
  ((nat_lit 211, ⟨(.type "function"), none, (.func ⟨(Str.ofString "map_table_b3"), (Str.ofString "map_table_b3"), bA17, .stmts bB17, bS17, 3, [], .none, .none, .none, (.str (Str.ofString "cpy313.stringprep") 351), none, (.ref 210), .none, 0⟩), #[]⟩) : Addr × Obj) ::
  ((nat_lit 212, ⟨(.type "tuple"), none, (.seq #[] 0), #[]⟩) : Addr × Obj) ::
  ((nat_lit 215, ⟨(.type "code"), none, (.fields #[(.str (Str.ofString "_law_typed") 2381), (.str (Str.ofString "_law_typed") 2382), (.str (Str.ofString "/claim/cut.py") 2383), (.int (89) 0), (.int (3) 0), (.int (0) 0), (.int (0) 0), (.int (3) 0), (.ref 212), (.bool true), (.int (181) 0), (.ref 213), .none, .none, .none, (.ref 214), (.int (2384) 0), (.int (89) 0), (.str (Str.ofString "/claim/cut.py") 2385)]), #[]⟩) : Addr × Obj) ::
  ((nat_lit 216, ⟨(.type "function"), none, (.func ⟨(Str.ofString "_law_typed"), (Str.ofString "_law_typed"), bA19, .stmts bB19, bS19, 3, [], .none, .none, .none, (.str (Str.ofString "law_wr0046_01") 2379), none, (.ref 215), .none, 0⟩), #[]⟩) : Addr × Obj) ::
  ((nat_lit 217, ⟨(.type "tuple"), none, (.seq #[] 0), #[]⟩) : Addr × Obj) ::
  ((nat_lit 220, ⟨(.type "code"), none, (.fields #[(.str (Str.ofString "_law_prepared") 2387), (.str (Str.ofString "_law_prepared") 2388), (.str (Str.ofString "/claim/cut.py") 2389), (.int (107) 0), (.int (1) 0), (.int (0) 0), (.int (0) 0), (.int (3) 0), (.ref 217), (.bool true), (.int (181) 0), (.ref 218), .none, .none, .none, (.ref 219), (.int (2390) 0), (.int (107) 0), (.str (Str.ofString "/claim/cut.py") 2391)]), #[]⟩) : Addr × Obj) ::
  ((nat_lit 221, ⟨(.type "function"), none, (.func ⟨(Str.ofString "_law_prepared"), (Str.ofString "_law_prepared"), bA20, .stmts bB20, bS20, 3, [], .none, .none, .none, (.str (Str.ofString "law_wr0046_01") 2379), none, (.ref 220), .none, 0⟩), #[]⟩) : Addr × Obj) ::
  ((nat_lit 222, ⟨(.type "tuple"), none, (.seq #[] 0), #[]⟩) : Addr × Obj) ::
  ((nat_lit 225, ⟨(.type "code"), none, (.fields #[(.str (Str.ofString "law") 2393), (.str (Str.ofString "law") 2394), (.str (Str.ofString "/claim/cut.py") 2395), (.int (109) 0), (.int (1) 0), (.int (0) 0), (.int (0) 0), (.int (3) 0), (.ref 222), (.bool true), (.int (181) 0), (.ref 223), .none, .none, .none, (.ref 224), (.int (2396) 0), (.int (109) 0), (.str (Str.ofString "/claim/cut.py") 2397)]), #[]⟩) : Addr × Obj) ::
  ((nat_lit 226, ⟨(.type "function"), none, (.func ⟨(Str.ofString "law"), (Str.ofString "law"), bA21, .stmts bB21, bS21, 3, [], .none, .none, .none, (.str (Str.ofString "law_wr0046_01") 2379), none, (.ref 225), .none, 0⟩), #[]⟩) : Addr × Obj) :: []
noncomputable def KA : List Addr := [2, 3, 15, 17, 18, 20, 21, 22, 24, 25, 27, 28, 29, 31, 32, 34, 35, 36, 38, 39, 41, 42, 43, 45, 46, 48, 49, 50, 52, 53, 55, 56, 57, 59, 60, 62, 63, 64, 67, 72, 73, 74, 76, 77, 79, 80, 81, 83, 84, 86, 87, 88, 89, 91, 92, 94, 95, 96, 97, 99, 100, 102, 103, 104, 106, 107, 109, 110, 111, 113, 114, 116, 117, 118, 119, 121, 122, 124, 125, 126, 128, 129, 131, 132, 133, 134, 136, 137, 139, 140, 141, 142, 143, 144, 145, 155, 159, 161, 162, 164, 165, 166, 205, 207, 208, 210, 211, 212, 215, 216, 217, 220, 221, 222, 225, 226]
noncomputable def vw : Program := { pw with main := { pw.main with body := [stAt 0, stAt 2, stAt 3, stAt 4, stAt 5, stAt 6, stAt 8, stAt 9, stAt 11, stAt 12, stAt 14, stAt 15, stAt 17, stAt 19, stAt 20, stAt 21] } }
noncomputable def loos : List Str := [Str.ofString "_Accumulator", Str.ofString "b1_set", Str.ofString "b3_exceptions"]
noncomputable def KY (P : Params) : Frag := ((nat_lit 105, ⟨.none, none, (.fields #[]), #[]⟩) : Addr × Obj) :: ((nat_lit 112, ⟨.none, none, (.fields #[]), #[]⟩) : Addr × Obj) :: KK P
noncomputable def KB : List Addr := 105 :: 112 :: KA
noncomputable def hkK : Hook := kHook KY KB (fun _ => by kernel_rfl)
abbrev rwO : OpenRow := PySem.Challenge.rw_wr0046_01.row
noncomputable def XtK : Shared → Bool := fun s => xlAt vw [] s && recOk (RowW.records rwO.toRowW) s
end

theorem open_T : ∀ w : World, (fencedOpening treeTable pw w 40000).map (fun s => (s.heap, s.gens, s.drawn, s.toks)) = some (boot_heap w.params, #[], boot_drawn, boot_toks) :=
  boot_open (by kernel_rfl) (by decide) (fun s => by kernel_rfl)
theorem size_T (w : World) : ((boot_heap w.params).isNs mainGlobals && (#[] : Array GenState).size == 0, (boot_heap w.params).objs.size, (boot_heap w.params).nsMap mainGlobals "__annotations__") = (true, 11, annT) := by kernel_rfl
end Mine
end
section
open PySem PySem.W PyProof.Rows PySem.Spec PySem.Calls
namespace Mine
noncomputable section
noncomputable abbrev HF (P : Params) : Heap := absHeap (treeF P) 227 {}
noncomputable abbrev sF (P : Params) (os : OsState) : Shared := ⟨HF P, #[], {}, 2399, os⟩
theorem lk1 (P : Params) : staticsOk (importedModules pw.main.body) (boot_heap P) (HF P) = true := by kernel_rfl
theorem lk2 (P : Params) : namesBound pw (HF P) = true := by kernel_rfl
theorem lk3 (P : Params) (os : OsState) : gensDone (sF P os) = true := by kernel_rfl
theorem lk4 (P : Params) : laidKept (boot_heap P) (HF P) = true := by kernel_rfl
theorem lkK (P : Params) (os : OsState) : KB.map (sF P os).heap.get? = (KY P).map (fun p => some p.2) := by kernel_rfl
end
end Mine
end
section
open PySem PySem.W PyProof.Rows PySem.Spec PySem.Calls
namespace Mine
noncomputable section
theorem sn1 (P : Params) (os : OsState) : seen ((recsOf vw).map (·.name)) (ownsOf vw) [] (sF P os) = expectedOf vw := by kernel_rfl
theorem sn2 (P : Params) : (HF P).bltView = bltViewBooted := by kernel_rfl
theorem sn3 (P : Params) (os : OsState) : ((HF P).keysOk (looseW vw loos) ((recsOf vw).map (·.name)) ((litsOf vw).map (·.1)) ((clssOf vw (looseW vw loos)).map (·.name)) && (HF P).accountedOkI (importedModules pw.main.body) && (HF P).isNs mainGlobals && (HF P).isNs builtinsNs && tablesOk vw (HF P) && XtK (sF P os) && ((#[] : Array GenState).size == 0)) = true := by kernel_rfl
theorem sn4 (P : Params) (os : OsState) : tabsOk vw (sF P os) = true := by kernel_rfl
theorem sn5 (P : Params) (os : OsState) : pinSeenD vw (drecsOf vw) (sF P os) = pinGoodD (drecsOf vw) := by kernel_rfl
theorem sn6 (P : Params) (os : OsState) : plainSeenE vw (looseW vw loos) (sF P os) = plainGoodE vw (looseW vw loos) := by kernel_rfl
theorem sn7 (P : Params) (os : OsState) : plainSeenD vw loos (sF P os) = plainGoodD vw loos := by kernel_rfl
theorem sn8 (P : Params) (os : OsState) : wideSeen vw (sF P os) = wideGood vw := by kernel_rfl
theorem sn9 (P : Params) (os : OsState) : clsSeenW vw loos (sF P os) = clsGoodW vw loos := by kernel_rfl
end
end Mine
end
section
open PySem PySem.W PyProof.Rows PySem.Spec PySem.Calls
namespace Mine
theorem seen_T (P : Params) (os : OsState) : openSeen vw loos (importedModules pw.main.body) XtK true (sF P os) = openGood vw loos := by
  have e3 := sn3 P os
  show (_, _, _, _, _, _, _, _, _) = ((_, _, _, _, _, _, _, _, _) : _ × _ × _ × _ × _ × _ × _ × _ × _)
  refine Prod.ext (sn1 P os) (Prod.ext (sn2 P) (Prod.ext ?_ (Prod.ext (sn4 P os) (Prod.ext (sn5 P os) (Prod.ext (sn6 P os) (Prod.ext (sn7 P os) (Prod.ext (sn8 P os) (sn9 P os))))))))
  exact e3
theorem left_T : LeftO pw vw loos XtK hkK.obs hkK.val 40000 :=
  LeftO.of_pieces (H₀ := boot_heap) (H₁ := HF) (gs₀ := #[]) (gs₁ := #[]) (d₀ := boot_drawn) (d₁ := {}) (k₀ := boot_toks) (k₁ := 2399) (m₀ := 11) (ann := annT) (M := 14478)
    open_T size_T run_T (by decide) (fun w => by
      funext os
      refine Prod.ext ?_ (Prod.ext (seen_T w.params os) (lkK w.params os))
      show (staticsOk (importedModules pw.main.body) (boot_heap w.params) (HF w.params) && namesBound pw (HF w.params) && gensDone (sF w.params os) && laidKept (boot_heap w.params) (HF w.params)) = true
      rw [lk1, lk2, lk3, lk4]; rfl)
end Mine
end
section
open PySem PySem.W PyProof.Rows PySem.Spec PySem.Calls
namespace Mine
theorem lawdef : defOf vw rwO.name = some ({ name := Str.ofString "law", params := bA21, body := bB21, scope := bS21, pos := ⟨109, 0, 200, 80⟩ }, []) := by kernel_rfl
theorem hd0 (hw : rwO.toRowW.promised) (hc : WalkO vw loos (XL vw []) hkK.says rwO.toRowW { name := Str.ofString "law", params := bA21, body := bB21, scope := bS21, pos := ⟨109, 0, 200, 80⟩ } [] fun f vs => PySem.call f vs) : PySem.Challenge.rw_wr0046_01.Holds := by
  refine holds_law (by kernel_rfl) fun said => ?_
  exact PySem.W.holds_open (r := rwO) (q := vw) (loose := loos) (Xt := XtK) (XP := XL vw []) (Yf := hkK.obs) (Ya := hkK.val) (YP := hkK.says) (N := 40000) left_T hkK.of hkK.keeps (fun s e => xl_of s (Bool.and_eq_true_iff.mp e).1) XL.keeps lawdef (by kernel_rfl) (by rfl)
    (fun s e => recFacts_of (Bool.and_eq_true_iff.mp e).2) (by rfl) said (by decide +kernel) ⟨rfl, rfl, rfl, rfl, rfl, by decide +kernel⟩ hw hc
theorem prom : rwO.toRowW.promised := by w_witness2
end Mine
end
section
open PySem PySem.W PyProof.Rows PySem.Spec PySem.Calls
namespace Mine
noncomputable abbrev lw : List Str := looseW vw loos
theorem fill : PySem.Challenge.rw_wr0046_01 = PySem.Challenge.rw_wr0046_01 ∧ KK = KK := by
  k_fill
  exact ⟨rfl, rfl⟩
/-- what a call of a def of the text's needs and gives, as KE.KCallBy says it -/
noncomputable abbrev Ct (w : World) (mean : ExcName → Option Value) (mg mb : Str → Option Value) (news : CbLed) (f : Addr) (pre : Prop) (vs : List Value) (R : Tok → Value) : Prop :=
  CbClaim pw w (KK w.params) vw lw mean mg mb f news [] pre vs R
end Mine
end
section
open PySem PySem.W PyProof.Rows PySem.Spec PySem.Calls PyProof.V
namespace Mine
theorem own0 : ownsOf vw = [] := by kernel_rfl
noncomputable def recChk (K : Frag) (n : Str) : Bool :=
  match nsIn K mainGlobals n with
  | some (some (.ref a)) => (match K.lookup a with
    | some ⟨_, _, .func fd, _⟩ => (match fd.code with
      | .ref c => (match K.lookup c with
        | some ⟨_, _, .fields vs, _⟩ => (match ((vs : Array Value)[11]? : Option Value) with
          | some (Value.ref P) => P != 105 && P != 112
          | _ => false)
        | _ => false)
      | _ => false)
    | _ => false)
  | _ => false
theorem recs_chk (P : Params) : (recsOf vw).all (fun d => recChk (KK P) d.name) = true := by kernel_rfl
theorem kkn105 (P : Params) : (KK P).lookup 105 = none := by rfl
theorem kkn112 (P : Params) : (KK P).lookup 112 = none := by rfl
inductive RecC (K : Frag) (n : Str) : Prop
  | mk (a fd oc od osl c vs cc cd csl P) (e1 : nsIn K mainGlobals n = some (some (.ref a))) (e2 : K.lookup a = some ⟨oc, od, .func fd, osl⟩) (e3 : fd.code = .ref c) (e4 : K.lookup c = some ⟨cc, cd, .fields vs, csl⟩) (e5 : (vs : Array Value)[11]? = some (.ref P)) (n1 : P ≠ 105) (n2 : P ≠ 112)
theorem recChk_at {K : Frag} {n : Str} (h : recChk K n = true) : RecC K n := by
  unfold recChk at h
  split at h
  · rename_i a e1
    split at h
    · rename_i oc od fd osl e2
      split at h
      · rename_i c e3
        split at h
        · rename_i cc cd vs csl e4
          split at h
          · rename_i P e5
            simp only [Bool.and_eq_true, bne_iff_ne] at h
            exact ⟨a, fd, oc, od, osl, c, vs, cc, cd, csl, P, e1, e2, e3, e4, e5, h.1, h.2⟩
          · cases h
        · cases h
      · cases h
    · cases h
  · cases h
theorem top_reb {mean : ExcName → Option Value} {mg mb : Str → Option Value} {h h' : Heap} {Pm : Params} {P : Addr} {ps : Array Value} (T : Top vw lw mean mg mb h) (X : (KK Pm).In h) (hP : P = 105 ∨ P = 112) (hp : h.get? P = some { cls := .none, data := .fields ps })
    (hk : ∀ b o, b ≠ P → h.get? b = some o → h'.get? b = some o) : Top vw lw mean mg mb h' := by
  have hPs : cStatics ≠ P := by rcases hP with rfl | rfl <;> decide
  have nn : ∀ {a m}, h.Ns a m → a ≠ P := by
    rintro a m ⟨o, es, ep, e, hd, _⟩ rfl
    rw [hp] at e; cases e; cases hd
  have nk : ∀ {a m}, h.Ns a m → h'.Ns a m := fun n => n.at fun o e => hk _ o (nn n) e
  have cl : ∀ {b o}, h.get? b = some o → o.cls ≠ .none → b ≠ P := by
    rintro b o e hc rfl
    rw [hp] at e; cases e; exact hc rfl
  have lk : ∀ {b o}, (KK Pm).lookup b = some o → b ≠ P := by
    rintro b o e rfl
    rcases hP with rfl | rfl
    · rw [kkn105] at e; cases e
    · rw [kkn112] at e; cases e
  have chk : ∀ d ∈ recsOf vw, recChk (KK Pm) d.name = true := fun d hd => List.all_eq_true.mp (recs_chk Pm) d hd
  refine { g := nk T.g, b := nk T.b, nolimit := ?_, nodigits := ?_, fn := ?_, own := ?_, const := T.const, free := T.free, builtins := T.builtins, tab := ?_, bmain := ?_, seer := ?_ }
  · obtain ⟨mc, a, b⟩ := T.nolimit
    exact ⟨mc, nk a, b⟩
  · obtain ⟨mc, a, b⟩ := T.nodigits
    exact ⟨mc, nk a, b⟩
  · intro d hd
    obtain ⟨a, o, pm, code, doc, h1, h2, h3, c, co, vs, t, h4, h5, h6⟩ := T.fn d hd
    obtain ⟨a', fd, oc, od, osl, c', vs', cc, cd, csl, P', e1, e2, e3, e4, e5, _, _⟩ := recChk_at (chk d hd)
    have ea := (mg_of X T.g e1).symm.trans h1
    cases ea
    have eo := (X _ _ e2).symm.trans h2
    cases eo
    cases h3
    rw [h4] at e3
    cases e3
    exact ⟨a, _, pm, code, doc, h1, hk _ _ (lk e2) h2, rfl, c, co, vs, t, h4, hk _ _ (lk e4) h5, h6⟩
  · intro o ho
    rw [own0] at ho; cases ho
  · intro d hd
    obtain ⟨a, o, fd, c, Q, h1, h2, h3, h4, h5, h6⟩ := T.tab d hd
    obtain ⟨a', fd', oc, od, osl, c', vs', cc, cd, csl, P', e1, e2, e3, e4, e5, n1, n2⟩ := recChk_at (chk d hd)
    have ea := (mg_of X T.g e1).symm.trans h1
    cases ea
    have eo := (X _ _ e2).symm.trans h2
    cases eo
    cases h3
    rw [h4] at e3
    cases e3
    obtain ⟨⟨co, vs, g1, g2, g3, g4⟩, g5⟩ := h6
    have ec := (X _ _ e4).symm.trans g1
    cases ec
    cases g3
    rw [e5] at g4
    cases g4
    have hQ : Q ≠ P := by rcases hP with rfl | rfl <;> assumption
    exact ⟨a, _, fd, c, Q, h1, hk _ _ (lk e2) h2, rfl, h4, h5.at2 (fun o e => hk _ o (lk e4) e) (fun o e => hk _ o hQ e), ⟨_, _, hk _ _ (lk e4) (X _ _ e4), g2, rfl, e5⟩, hk _ _ hQ g5⟩
  · obtain ⟨bm, ob, h1, h2, h3, h4, r⟩ := T.bmain
    exact ⟨bm, ob, h1, h2, hk _ _ (cl h3 (by rw [h4]; simp)) h3, h4, r⟩
  · intro hi
    obtain ⟨s1, s2, s3, s4⟩ := T.seer hi
    refine ⟨?_, ?_, ?_, ?_⟩
    · obtain ⟨mc, a, b⟩ := s1; exact ⟨mc, nk a, b⟩
    · obtain ⟨mc, a, b⟩ := s2; exact ⟨mc, nk a, b⟩
    · obtain ⟨mc, a, b⟩ := s3; exact ⟨mc, nk a, b⟩
    · obtain ⟨mg', bm, ob, a, b, c', d, f⟩ := s4
      exact ⟨mg', bm, ob, nk a, b, hk _ _ (cl c' (by rw [d]; simp)) c', d, f⟩
end Mine
end
section
open PySem PySem.W PyProof.Rows PySem.Spec PySem.Calls PyProof.V
namespace Mine
/-- a call that keeps all that stood: what it needs and what it gives -/
noncomputable abbrev PC (D U : Nat) (w : World) (f : Addr) (pre : Prop) (vs : List Value) (R : Tok → Value) : Prop :=
  ∀ (dp un : Nat) (gd : Option (List Code)) (cn : Str) (cs : Scope) (a : Addr) (ccd : Value) (cl : List (Str × Addr)) (outer : List Env) (A₀ : Around) (base h₀ : Heap) (L : Addr) (m : Str → Option Value)
    (mean : ExcName → Option Value) (mg mb : Str → Option Value) (s : Shared) (Q E : Value → Shared → Prop),
    Below A₀ base outer h₀ → Fr h₀ L s.heap m → (KK w.params).In h₀ → Top vw lw mean mg mb h₀ → cs.kind = .function → pre → dp + D < recursionLimit → un + U < cLine →
    (∀ (t : Tok) (h' : Heap) (tk' : Nat), (∀ b o, s.heap.get? b = some o → h'.get? b = some o) → Q (R t) { s with heap := h', toks := tk' }) →
      wpAny (model pw w) (ktrTop dp un gd cn cs L a ccd cl outer) (call (.ref f) vs) Q E s
section
variable {prog : Program} {w : World} {A A₀ : Around} {s : Shared} {K : Frag} {L : Addr} {h₀ base : Heap} {m mg mb : Str → Option Value} {p : Program} {loose : List Str} {mean : ExcName → Option Value}
theorem code_keeps {env : Env} {outer : List Env} {R : Result → Shared → Prop} {name qual : Str} {params : Arguments} {body : List Stmt} {scope : Scope} {dV kV doc pm cdv ct oc : Value} {an od : Option Addr} {osl : Array (Option Value)} {f : Addr} {args : Args} {binds : List (Str × Value)}
    (B : Below A₀ base outer h₀) (F : Fr h₀ L s.heap m) (X₀ : K.In h₀) (T : Top p loose mean mg mb h₀) (hA : A.frames = some (env :: outer)) (hf : env.frame = some L) (hke : env.scope.kind = .function)
    (ho : K.lookup f = some ⟨oc, od, .func (fnOf name qual params body scope dV kV doc pm an cdv ct), osl⟩) (hcd : codeIn K cdv qual = true) (hroom : A.depth < recursionLimit)
    (hbind : BindsTo s (fnOf name qual params body scope dV kV doc pm an cdv ct) args binds) (hloc : ∀ y ∈ binds, scope.names.lookup y.1 = some .local)
    (h : ∀ L' h₁, Fr s.heap L' h₁ (fun y => binds.reverse.lookup y) → News s.heap L' h₁ [] → Below A base (env :: outer) s.heap → K.In s.heap → Top p loose mean mg mb s.heap →
      wpAny (model prog w) (A.deeper (envOf qual scope L' f cdv)) (execs body (envOf qual scope L' f cdv))
        (fun fl s' => R (.ok (.ret (match fl with | .ret v => v | _ => .none))) s')
        (fun e s' => wpAny (model prog w) (A.deeper (envOf qual scope L' f cdv)) (leaving (envOf qual scope L' f cdv) e) (fun _ s'' => R (.error e) s'') (fun e' s'' => R (.error e') s'') s')
        { s with heap := h₁, toks := s.toks + binds.length })
    (hco : scope.isCoroutine = false) (hgen : scope.isGenerator = false) (hk : scope.kind = .function)
    (hcell : ∀ x ∈ scope.names, x.2 ≠ .cell) : codeAny (model prog w) A (.call (.ref f) args) R s := by
  obtain ⟨FG, BG, st, lv⟩ := groundX (R := R) B F (news := []) (fun p hp => by cases hp) hA hf hke
  refine codeAny_call_def (fd := fnX name qual params body scope [] dV kV doc pm an cdv ct) (body := body) (binds := binds) hroom ((X₀.keeps F.keep) _ _ ho) rfl (T.nolimit.keeps F.keep) (codeRec_of (X₀.keeps F.keep) hcd) rfl hbind hcell hloc (fun h₁ hns hk₁ => ?_) hco hgen hk
  exact h s.heap.objs.size h₁ ⟨hns, hk₁, Nat.le_refl _⟩ (fun p hp => by cases hp) BG (X₀.keeps F.keep) (T.keeps F.keep)
theorem code_keepsC {env : Env} {outer : List Env} {R : Result → Shared → Prop} {name qual : Str} {params : Arguments} {body : List Stmt} {scope : Scope} {dV kV doc pm cdv ct oc : Value} {an od : Option Addr} {osl : Array (Option Value)} {f : Addr} {args : Args} {binds : List (Str × Value)}
    (B : Below A₀ base outer h₀) (F : Fr h₀ L s.heap m) (X₀ : K.In h₀) (T : Top p loose mean mg mb h₀) (hA : A.frames = some (env :: outer)) (hf : env.frame = some L) (hke : env.scope.kind = .function)
    (ho : K.lookup f = some ⟨oc, od, .func (fnOf name qual params body scope dV kV doc pm an cdv ct), osl⟩) (hcd : codeIn K cdv qual = true) (hroom : A.depth < recursionLimit)
    (hbind : BindsTo s (fnOf name qual params body scope dV kV doc pm an cdv ct) args binds) (hkind : (binds.all fun y => scope.names.lookup y.1 == some .local || scope.names.lookup y.1 == some .cell) = true)
    (hnd : ((cellsFrom 0 scope.names []).map (·.1)).Nodup)
    (h : ∀ L' h₁ tk cells, Fr s.heap L' h₁ (bindL (envOfC qual scope L' f cdv).kindOf binds fun _ => none) → News s.heap L' h₁ cells →
      CellsAre (bindC (envOfC qual scope L' f cdv).kindOf binds fun _ => none) (cellsFrom (L' + 1) scope.names []) cells → Below A base (env :: outer) s.heap → K.In s.heap → Top p loose mean mg mb s.heap →
      wpAny (model prog w) (A.deeper (envOfC qual scope L' f cdv)) (execs body (envOfC qual scope L' f cdv))
        (fun fl s' => R (.ok (.ret (match fl with | .ret v => v | _ => .none))) s')
        (fun e s' => wpAny (model prog w) (A.deeper (envOfC qual scope L' f cdv)) (leaving (envOfC qual scope L' f cdv) e) (fun _ s'' => R (.error e) s'') (fun e' s'' => R (.error e') s'') s')
        { s with heap := h₁, toks := tk })
    (hco : scope.isCoroutine = false) (hgen : scope.isGenerator = false) (hk : scope.kind = .function) : codeAny (model prog w) A (.call (.ref f) args) R s := by
  obtain ⟨FG, BG, st, lv⟩ := groundX (R := R) B F (news := []) (fun p hp => by cases hp) hA hf hke
  refine codeAny_call_function hroom ((X₀.keeps F.keep) _ _ ho) rfl hco hgen rfl (codeRec_of (X₀.keeps F.keep) hcd) (hbind _ _ _ _ ?_)
  refine wpAny_newFunctionEnv_cells hk (kindsX hkind _) fun env' he s' x => ?_
  subst he
  refine ⟨(T.nolimit.keeps F.keep).keeps x.toInCall.keep, codeAny_func ?_⟩
  obtain ⟨h₁, tk, rfl, _⟩ := x.done
  have hk₁ := x.toInCall.keep
  obtain ⟨cells, NC, Y⟩ := Cl.news (h₀ := s.heap) (Nat.le_refl _) fun n c hm => ⟨x.cell n c (lookup_of_mem_nodup (cellsFrom_names scope.names 0 (s.heap.objs.size + 1) [] [] rfl ▸ hnd) hm), x.above n c hm⟩
  exact h s.heap.objs.size h₁ tk cells ⟨x.toInCall.ns, hk₁, Nat.le_refl _⟩ NC Y BG (X₀.keeps F.keep) (T.keeps F.keep)
end
end Mine
end
section
open PySem PySem.W PyProof.Rows PySem.Spec PySem.Calls PyProof.V
namespace Mine
section
variable {w : World} {prog : Program} {h : Heap}
theorem K_at {a : Addr} {o : Obj} (X : (KK w.params).In h) (e : (KK w.params).lookup a = some o) : h.get? a = some o := X a o e
noncomputable def b1es (P : Params) : List (Int × Value) := match (o155D P).data with | .set es _ _ => es.toList | _ => []
/-- the signs of table B.1, as the set bears them -/
noncomputable def b1L : List Int := (b1es ⟨fun _ => 0, fun _ => 0, id, fun _ => 0, fun _ _ => 0, fun _ => false, fun _ => 0, .refcount, .text, fun _ => 0, fun _ => none, fun _ => false, fun _ _ _ => true, fun _ _ _ => true, true, fun _ => false, fun _ => none, fun _ => none, fun _ _ _ => 0, fun _ _ => none, fun _ => none, fun _ => (0, false, "UTC"), fun _ => none, fun d => d, fun _ => false⟩).map (·.1)
theorem b1es_ok (P : Params) : ((b1es P).all fun e => match e.2 with | .int k _ => k == e.1 && hashInt k == e.1 && b1L.contains k | _ => false) = true := by kernel_rfl
theorem b1L_ok (P : Params) : (b1L.all fun k => (b1es P).any fun e => Value.isInt k e.2) = true := by kernel_rfl
theorem set155 (P : Params) : (o155D P).SetObjOf (intKind prog w) (fun k => decide (k ∈ b1L)) 27 := by
  refine ⟨⟨rfl, rfl, rfl⟩, (b1es P).toArray, _, _, rfl, fun e he => ?_, fun k => ⟨fun hk => ?_, fun ⟨e, he, hi⟩ => ?_⟩, by kernel_rfl, by kernel_rfl⟩
  · have := List.all_eq_true.mp (b1es_ok P) e (by simpa using he)
    obtain ⟨i, v⟩ := e
    cases v with
    | int k t =>
      simp only [Bool.and_eq_true, beq_iff_eq] at this
      exact ⟨⟨k, by show (k == k) = true; simp, this.1.2.symm⟩, rfl⟩
    | _ => exact absurd this Bool.false_ne_true
  · have hk' := of_decide_eq_true hk
    have := List.any_eq_true.mp (List.all_eq_true.mp (b1L_ok P) k hk')
    obtain ⟨e, he, hi⟩ := this
    exact ⟨e, by simpa using he, hi⟩
  · have := List.all_eq_true.mp (b1es_ok P) e (by simpa using he)
    obtain ⟨i, v⟩ := e
    cases v with
    | int k' t =>
      simp only [Bool.and_eq_true, beq_iff_eq] at this
      have hkk : k' = k := by
        have : (k' == k) = true := hi
        exact eq_of_beq this
      subst hkk
      exact decide_eq_true (by simpa using this.2)
    | _ => exact absurd this Bool.false_ne_true
end
section
variable {w : World} {prog : Program} {h : Heap}
/-- entries that bear the pairs l, whatever their toks -/
inductive Bears : List DictEntry → List (Int × Str) → Prop
  | nil : Bears [] []
  | cons {k : Int} {x : Str} {t : Nat} {es l} : Bears es l → Bears (entO k x t :: es) ((k, x) :: l)
theorem Bears.append {a b : List DictEntry} {x y} (h : Bears a x) (k : Bears b y) : Bears (a ++ b) (x ++ y) := by
  induction h with
  | nil => exact k
  | cons _ ih => exact .cons ih
theorem bears_long : ∀ (l : List (Int × Str)) (t : Nat), Bears (entsFrom t l) l
  | [], _ => .nil
  | (_, _) :: r, t => .cons (bears_long r (t + 3))
theorem bears_short : ∀ (l : List (Int × Str)) (t : Nat), Bears (entsShort t l) l
  | [], _ => .nil
  | (_, _) :: r, t => .cons (bears_short r (t + 2))
theorem bears_main : Bears mainL prs := by
  have h := ((Bears.nil.append (bears_long prs1 420)).append (bears_long prsP.flatten 471)).append (bears_short prsL 2358)
  have e : [] ++ prs1 ++ prsP.flatten ++ prsL = prs := by rw [prs_cut, List.nil_append, List.append_assoc]
  rw [e] at h
  exact h
noncomputable def kvs : List DictEntry → List (Int × Value)
  | [] => []
  | e :: r => (e.hash, e.val) :: kvs r
noncomputable abbrev tabD (l : List (Int × Str)) : List (PyData × PyData) := l.map fun b => (.int b.1, .str b.2)
theorem Bears.keys {es l} (h : Bears es l) : (kvs es).map (·.1) = l.map (·.1) := by
  induction h with
  | nil => rfl
  | cons _ ih => exact congrArg (_ :: ·) ih
theorem Bears.flat {es l} (h : Bears es l) : FlatPairs PyData.int (kvs es) (tabD l) := by
  induction h with
  | nil => exact .nil
  | cons _ ih => exact .cons (.str _ _) ih
theorem Bears.pairs {es l} (h : Bears es l) : Pairs (intKind prog w) es (kvs es) := by
  induction h with
  | nil => exact .nil
  | cons _ ih => exact .cons (by show (_ == _) = true; simp [entO]) rfl ih
theorem Bears.mem {es l} (h : Bears es l) : ∀ e ∈ es, ∃ b ∈ l, ∃ t, e = entO b.1 b.2 t := by
  induction h with
  | nil => intro e he; cases he
  | @cons k x t es l _ ih =>
    intro e he
    rcases List.mem_cons.mp he with rfl | he
    · exact ⟨(k, x), List.mem_cons_self .., t, rfl⟩
    · obtain ⟨b, hb, t, e1⟩ := ih e he
      exact ⟨b, List.mem_cons_of_mem _ hb, t, e1⟩
theorem hashInt_small (k : Int) (h0 : 0 ≤ k) (h1 : k < 2305843009213693951) : hashInt k = k := by
  unfold hashInt
  rw [rawHash_small k h0 h1]
  have hm : (k == -1) = false := by
    cases q : (k == -1) with
    | false => rfl
    | true => have := eq_of_beq q; omega
  rw [hm]; rfl
theorem tab166 (P : Params) (ho : h.get? 166 = some (oMain P)) : TabAt (intKind prog w) PyData.int h 166 (tabD prs) := by
  refine TabAt.ofObj (kvs := kvs mainL) (by decide) ho ⟨mainL.toArray, 650, ⟨rfl, rfl, rfl⟩, rfl, ?_, bears_main.pairs, ?_⟩ bears_main.flat
  · intro e he
    obtain ⟨b, hb, t, rfl⟩ := bears_main.mem e (by simpa using he)
    have := prs_rise.2 b hb
    exact ⟨b.1, by show (_ == _) = true; simp, (hashInt_small b.1 this.1 this.2).symm⟩
  · rw [bears_main.keys]
    refine List.Pairwise.map _ (fun a b hab => ?_) prs_rise.1
    omega
end
noncomputable def b3look (c : Int) : Option Str := (prs.find? fun b => b.1 == c).map (·.2)
theorem look_tab (c : Int) : ∀ l : List (Int × Str), PySem.Spec.lookup (.int c) (tabD l) = ((l.find? fun b => b.1 == c).map fun b => PyData.str b.2)
  | [] => rfl
  | b :: r => by
    show (if PySem.Spec.same (.int b.1) (.int c) = true then some (PyData.str b.2) else PySem.Spec.lookup (.int c) (tabD r)) = _
    rw [List.find?_cons, look_tab c r]
    have e : PySem.Spec.same (.int b.1) (.int c) = (b.1 == c) := same_int b.1 c
    rw [e]
    cases h : b.1 == c <;> simp
theorem flat_none {v : Value} (h : Flat v .none) : v = .none := by have := h {}; cases this; rfl
theorem flat_str {v : Value} {x : Str} (h : Flat v (.str x)) : ∃ t, v = .str x t := by have := h {}; cases this; exact ⟨_, rfl⟩
/-- what map_table_b3 makes of one sign -/
noncomputable def b3val (c : Nat) : Str := match b3look c with | some x => x | none => Txt.lower ⟨#[c]⟩
theorem p_or (w : World) (x y : Int) (tx ty : CbTok) : PC 1 8 w 42 True [.int x tx, .int y ty] (fun t => .int (Builtin.bitOr x y) t) := by
  intro dp un gd cn cs a ccd cl outer A₀ base h₀ L m mean mg mb s Q E B F X T hk pre hd hu hret
  refine wpAny_call ?_
  k_dflt (refine' code_keeps ?k1 ?k2 ?k3 ?k5 ?kA ?kF ?kK ?k6 ?k7 ?k8 ?k9 ?kB ?_ ?c2 ?c3 ?c4 ?c5; (case kA => exact rfl); (case kF => exact rfl); (case kK => assumption); (case k1 => k_asm); (case k2 => k_asm); (case k3 => k_asm); (case k5 => k_asm); (case k6 => k_is); (case k7 => k_is); (case k8 => ktr_room); (case k9 => exact BindsTo.of_eq rfl); (case c5 => decide); (case kB => exact locs rfl); (case c2 => exact rfl); (case c3 => exact rfl); (case c4 => exact rfl); k_whole; intro L' h' F' N' B' X' T'; (try dsimp only); (try k_lift B'); (try k_fold))
  k_steps
  exact hret _ _ _ (Fr.keep (by assumption))
theorem p_and (w : World) (x y : Int) (tx ty : CbTok) : PC 1 8 w 28 True [.int x tx, .int y ty] (fun t => .int (Builtin.bitAnd x y) t) := by
  intro dp un gd cn cs a ccd cl outer A₀ base h₀ L m mean mg mb s Q E B F X T hk pre hd hu hret
  refine wpAny_call ?_
  k_dflt (refine' code_keeps ?k1 ?k2 ?k3 ?k5 ?kA ?kF ?kK ?k6 ?k7 ?k8 ?k9 ?kB ?_ ?c2 ?c3 ?c4 ?c5; (case kA => exact rfl); (case kF => exact rfl); (case kK => assumption); (case k1 => k_asm); (case k2 => k_asm); (case k3 => k_asm); (case k5 => k_asm); (case k6 => k_is); (case k7 => k_is); (case k8 => ktr_room); (case k9 => exact BindsTo.of_eq rfl); (case c5 => decide); (case kB => exact locs rfl); (case c2 => exact rfl); (case c3 => exact rfl); (case c4 => exact rfl); k_whole; intro L' h' F' N' B' X' T'; (try dsimp only); (try k_lift B'); (try k_fold))
  k_steps
  exact hret _ _ _ (Fr.keep (by assumption))
theorem p_xor (w : World) (x y : Int) (tx ty : CbTok) : PC 1 8 w 56 True [.int x tx, .int y ty] (fun t => .int (Builtin.bitXor x y) t) := by
  intro dp un gd cn cs a ccd cl outer A₀ base h₀ L m mean mg mb s Q E B F X T hk pre hd hu hret
  refine wpAny_call ?_
  k_dflt (refine' code_keeps ?k1 ?k2 ?k3 ?k5 ?kA ?kF ?kK ?k6 ?k7 ?k8 ?k9 ?kB ?_ ?c2 ?c3 ?c4 ?c5; (case kA => exact rfl); (case kF => exact rfl); (case kK => assumption); (case k1 => k_asm); (case k2 => k_asm); (case k3 => k_asm); (case k5 => k_asm); (case k6 => k_is); (case k7 => k_is); (case k8 => ktr_room); (case k9 => exact BindsTo.of_eq rfl); (case c5 => decide); (case kB => exact locs rfl); (case c2 => exact rfl); (case c3 => exact rfl); (case c4 => exact rfl); k_whole; intro L' h' F' N' B' X' T'; (try dsimp only); (try k_lift B'); (try k_fold))
  k_steps
  exact hret _ _ _ (Fr.keep (by assumption))
theorem p_shl (w : World) (x y : Int) (tx ty : CbTok) : PC 1 8 w 35 (0 ≤ y ∧ y ≤ 64 ∧ 0 ≤ x ∧ x ≤ 256) [.int x tx, .int y ty] (fun t => .int (x * 2 ^ y.toNat) t) := by
  intro dp un gd cn cs a ccd cl outer A₀ base h₀ L m mean mg mb s Q E B F X T hk pre hd hu hret
  refine wpAny_call ?_
  k_dflt (refine' code_keeps ?k1 ?k2 ?k3 ?k5 ?kA ?kF ?kK ?k6 ?k7 ?k8 ?k9 ?kB ?_ ?c2 ?c3 ?c4 ?c5; (case kA => exact rfl); (case kF => exact rfl); (case kK => assumption); (case k1 => k_asm); (case k2 => k_asm); (case k3 => k_asm); (case k5 => k_asm); (case k6 => k_is); (case k7 => k_is); (case k8 => ktr_room); (case k9 => exact BindsTo.of_eq rfl); (case c5 => decide); (case kB => exact locs rfl); (case c2 => exact rfl); (case c3 => exact rfl); (case c4 => exact rfl); k_whole; intro L' h' F' N' B' X' T'; (try dsimp only); (try k_lift B'); (try k_fold))
  k_steps
  exact hret _ _ _ (Fr.keep (by assumption))
theorem p_shr (w : World) (x y : Int) (tx ty : CbTok) : PC 1 8 w 49 (0 ≤ y) [.int x tx, .int y ty] (fun t => .int (x.fdiv (2 ^ y.toNat)) t) := by
  intro dp un gd cn cs a ccd cl outer A₀ base h₀ L m mean mg mb s Q E B F X T hk pre hd hu hret
  refine wpAny_call ?_
  k_dflt (refine' code_keeps ?k1 ?k2 ?k3 ?k5 ?kA ?kF ?kK ?k6 ?k7 ?k8 ?k9 ?kB ?_ ?c2 ?c3 ?c4 ?c5; (case kA => exact rfl); (case kF => exact rfl); (case kK => assumption); (case k1 => k_asm); (case k2 => k_asm); (case k3 => k_asm); (case k5 => k_asm); (case k6 => k_is); (case k7 => k_is); (case k8 => ktr_room); (case k9 => exact BindsTo.of_eq rfl); (case c5 => decide); (case kB => exact locs rfl); (case c2 => exact rfl); (case c3 => exact rfl); (case c4 => exact rfl); k_whole; intro L' h' F' N' B' X' T'; (try dsimp only); (try k_lift B'); (try k_fold))
  k_steps
  exact hret _ _ _ (Fr.keep (by assumption))
theorem p_b1 (w : World) (c : Nat) (tx : CbTok) : PC 1 8 w 165 True [.str ⟨#[c]⟩ tx] (fun _ => .bool (decide ((c : Int) ∈ b1L))) := by
  intro dp un gd cn cs a ccd cl outer A₀ base h₀ L m mean mg mb s Q E B F X T hk pre hd hu hret
  refine wpAny_call ?_
  k_dflt (refine' code_keeps ?k1 ?k2 ?k3 ?k5 ?kA ?kF ?kK ?k6 ?k7 ?k8 ?k9 ?kB ?_ ?c2 ?c3 ?c4 ?c5; (case kA => exact rfl); (case kF => exact rfl); (case kK => assumption); (case k1 => k_asm); (case k2 => k_asm); (case k3 => k_asm); (case k5 => k_asm); (case k6 => k_is); (case k7 => k_is); (case k8 => ktr_room); (case k9 => exact BindsTo.of_eq rfl); (case c5 => decide); (case kB => exact locs rfl); (case c2 => exact rfl); (case c3 => exact rfl); (case c4 => exact rfl); k_whole; intro L' h' F' N' B' X' T'; (try dsimp only); (try k_lift B'); (try k_fold))
  k_steps
  (rename Fr _ _ _ _ => F9)
  refine in_argsetI (o := o155D w.params) F9 (set155 _) (K_at (by assumption) (by kernel_rfl)) (by decide) ?_
  k_steps
  exact hret 0 _ _ (Fr.keep (by assumption))
theorem p_b3 (w : World) (c : Nat) (tx : CbTok) : PC 1 8 w 211 True [.str ⟨#[c]⟩ tx] (fun t => .str (b3val c) t) := by
  intro dp un gd cn cs a ccd cl outer A₀ base h₀ L m mean mg mb s Q E B F X T hk pre hd hu hret
  refine wpAny_call ?_
  k_dflt (refine' code_keeps ?k1 ?k2 ?k3 ?k5 ?kA ?kF ?kK ?k6 ?k7 ?k8 ?k9 ?kB ?_ ?c2 ?c3 ?c4 ?c5; (case kA => exact rfl); (case kF => exact rfl); (case kK => assumption); (case k1 => k_asm); (case k2 => k_asm); (case k3 => k_asm); (case k5 => k_asm); (case k6 => k_is); (case k7 => k_is); (case k8 => ktr_room); (case k9 => exact BindsTo.of_eq rfl); (case c5 => decide); (case kB => exact locs rfl); (case c2 => exact rfl); (case c3 => exact rfl); (case c4 => exact rfl); k_whole; intro L' h' F' N' B' X' T'; (try dsimp only); (try k_lift B'); (try k_fold))
  k_steps
  (rename Fr _ _ _ _ => F9)
  have T9 := tab166 (prog := pw) (w := w) w.params (F9.keep _ _ (K_at (by assumption) (by kernel_rfl)))
  refine getMethod_intTab_get T9 ?_
  k_steps
  (rename Flat _ _ => hv9)
  rw [look_tab] at hv9
  have hb9 : b3look c = (prs.find? fun b => b.1 == (c : Int)).map (·.2) := rfl
  cases hf : prs.find? fun b => b.1 == (c : Int) with
  | none =>
    rw [hf] at hv9 hb9
    have hv8 := flat_none hv9
    subst hv8
    k_steps
    refine SCL.lower (by show (1 : Nat) ≤ _; decide) ?_
    intro _
    k_steps
    have e9 : b3val c = Txt.lower ⟨#[c]⟩ := by unfold b3val; rw [hb9]; rfl
    rw [e9] at hret
    exact hret _ _ _ (Fr.keep (by assumption))
  | some b =>
    rw [hf] at hv9 hb9
    obtain ⟨t9, hv8⟩ := flat_str hv9
    subst hv8
    k_steps
    have e9 : b3val c = b.2 := by unfold b3val; rw [hb9]; rfl
    rw [e9] at hret
    exact hret _ _ _ (Fr.keep (by assumption))
end Mine
end
section
open PySem PySem.W PyProof.Rows PySem.Spec PySem.Calls PyProof.V
namespace Mine
noncomputable def headCp (v : Value) : Nat := match v with | .str x _ => x.cps[0]! | _ => 0
noncomputable def prepL (x : Str) : List Str := (x.cps.toList.filter fun (c : Nat) => !decide ((c : Int) ∈ b1L)).map b3val
theorem strs_paired {f : Nat → Str} : ∀ {l : List Nat} {us : List Value} {ys : List Value}, us.length = l.length → (∀ (j : Nat) (v : Value), us[j]? = some v → ∃ (c : Nat) (u : Tok), l[j]? = some c ∧ v = Value.str ⟨#[c]⟩ u) →
    ∀ {q : Nat → Bool}, Paired (fun v y => ∃ t, y = Value.str (f (headCp v)) t) (us.filter fun v => q (headCp v)) ys → StrsAre ys ((l.filter q).map f)
  | [], us, ys, hl, _, q, hp => by
    have : us = [] := List.eq_nil_of_length_eq_zero (by simpa using hl)
    subst this
    cases hp
    exact .nil
  | c :: l, [], ys, hl, _, q, hp => by simp at hl
  | c :: l, v :: us, ys, hl, hP, q, hp => by
    obtain ⟨c', u, hc, rfl⟩ := hP 0 v rfl
    simp at hc; subst hc
    have ih := fun {ys} => strs_paired (f := f) (l := l) (us := us) (ys := ys) (by simpa using hl) (fun j v hv => by simpa using hP (j + 1) v (by simpa using hv)) (q := q)
    rw [List.filter_cons] at hp ⊢
    have e : headCp (Value.str ⟨#[c]⟩ u) = c := rfl
    rw [e] at hp
    cases hq : q c
    · rw [hq] at hp
      exact ih hp
    · rw [hq] at hp
      cases hp with
      | cons h1 h2 =>
        obtain ⟨t, rfl⟩ := h1
        exact .cons _ t (ih h2)
theorem p_prep (w : World) (x : Str) (tx : CbTok) : PC 3 24 w 221 (x.length ≤ 20 ∧ ((prepL x).map (·.length)).sum ≤ 1000) [.str x tx] (fun t => .str (Txt.join (Str.ofString "") (prepL x)) t) := by
  intro dp un gd cn cs a ccd cl outer A₀ base h₀ L m mean mg mb s Q E B F X T hk pre hd hu hret
  refine wpAny_call ?_
  k_dflt (refine' code_keeps ?k1 ?k2 ?k3 ?k5 ?kA ?kF ?kK ?k6 ?k7 ?k8 ?k9 ?kB ?_ ?c2 ?c3 ?c4 ?c5; (case kA => exact rfl); (case kF => exact rfl); (case kK => assumption); (case k1 => k_asm); (case k2 => k_asm); (case k3 => k_asm); (case k5 => k_asm); (case k6 => k_is); (case k7 => k_is); (case k8 => ktr_room); (case k9 => exact BindsTo.of_eq rfl); (case c5 => decide); (case kB => exact locs rfl); (case c2 => exact rfl); (case c3 => exact rfl); (case c4 => exact rfl); k_whole; intro L' h' F' N' B' X' T'; (try dsimp only); (try k_lift B'); (try k_fold))
  iterate 8 (first | walk1 | (dsimp only; walk1))
  rename Fr _ _ _ _ => F9
  rename Below _ _ _ _ => B9
  rename Frag.In _ _ => X9
  refine wpAny_ListComp_walk (fun v => !decide ((headCp v : Int) ∈ b1L)) (fun v y => ∃ t, y = .str (b3val (headCp v)) t) (by decide) (by decide) rfl (by decide) rfl ?_
  walk1
  refine wpAny_pyIter_str fun o St W S0 => ?_
  refine ⟨_, _, _, _, _, _, rfl, W _ rfl, ?_, S0, ?_, ?_, ?_⟩
  · have := pre.1
    show x.length ≤ sizeLine
    unfold sizeLine; omega
  · intro b hb
    rw [List.mem_singleton] at hb; subst hb
    exact Nat.lt_of_lt_of_eq (Nat.lt_succ_self _) (Heap.size_push _ _).symm
  · constructor
    · intro C i v s₃ m₃ E' hP hn hm hkp htk
      obtain ⟨c, u, hc, rfl⟩ := hP
      have F8 := F9.kept (h' := s₃.heap) (fun b o e => hkp b o (by intro hb; rw [List.mem_singleton] at hb; exact absurd (Heap.lt_size e) (by rw [hb]; exact Nat.lt_irrefl _)) (Heap.get?_push_of_some _ e))
      refine wpAny_tests_one (isTrue_not (isTrue_plain ?_))
      iterate 6 (first | walk1 | (dsimp only; walk1))
      rename Fr _ _ s₃.heap _ => F7
      refine args_nil ⟨X9.keeps F7.keep, ?_⟩
      refine p_b1 w c u _ _ _ _ _ _ _ _ _ _ _ _ _ _ _ _ _ _ _ _ B9 F7 X9 (by assumption) rfl trivial (by ktr_room) (by ktr_room) fun t h' tk' hk' => ?_
      exact wpAny_pure ⟨rfl, _, _, rfl, hk'⟩
    · intro C i v s₃ m₃ E' hP hpv hn hm hkp htk
      obtain ⟨c, u, hc, rfl⟩ := hP
      have F8 := F9.kept (h' := s₃.heap) (fun b o e => hkp b o (by intro hb; rw [List.mem_singleton] at hb; exact absurd (Heap.lt_size e) (by rw [hb]; exact Nat.lt_irrefl _)) (Heap.get?_push_of_some _ e))
      iterate 6 (first | walk1 | (dsimp only; walk1))
      rename Fr _ _ s₃.heap _ => F7
      refine args_nil ⟨X9.keeps F7.keep, ?_⟩
      refine p_b3 w c u _ _ _ _ _ _ _ _ _ _ _ _ _ _ _ _ _ _ _ _ B9 F7 X9 (by assumption) rfl trivial (by ktr_room) (by ktr_room) fun t h' tk' hk' => ?_
      exact ⟨⟨t, rfl⟩, _, _, rfl, hk'⟩
  · intro D h' tk ys vs hD hlD _ hlen hP hF hk'
    have hS := strs_paired (f := b3val) (l := x.cps.toList) (q := fun c => !decide ((c : Int) ∈ b1L)) (by simpa using hlen) (fun j v hv => by simpa [SignAt] using hP j v hv) hF
    have F6 := F9.kept (h' := h') (fun b o e => hk' b o (by intro hb; rw [List.mem_singleton] at hb; exact absurd (Heap.lt_size e) (by rw [hb]; exact Nat.lt_irrefl _)) (Heap.get?_push_of_some _ e))
    iterate 1 (first | walk1 | (dsimp only; walk1))
    refine join_list hlD hS ?_ fun t' k => ?_
    · have := pre.2
      have e0 : (Str.ofString "").length = 0 := by decide
      rw [e0]
      show ((prepL x).map _).sum + _ ≤ _
      omega
    · exact hret _ _ _ F6.keep
end Mine
end
section
open PySem PySem.W PyProof.Rows PySem.Spec PySem.Calls PyProof.V
namespace Mine
@[reducible] noncomputable def bB19t : List Stmt := by
  refine (⟨?b, ?h⟩ : {b : List Stmt // b = bB19.drop 4}).1
  case h => conv => rhs; whnf
noncomputable def hidL : List Int := [173, 847, 6150, 6155, 6156, 6157, 8203, 8204, 8205, 8288, 65279] ++ rangeInts 65024 1 16
theorem hidL_len : hidL.length = 27 := by decide
theorem hidL_bd : ∀ j, j < 27 → 0 ≤ hidL.getD j 0 ∧ hidL.getD j 0 ≤ 65279 := by decide
noncomputable def tailV (z : Str) (n : Int) : Str :=
  if (n.fdiv 60).fmod 28 = 27 then z
  else Txt.slice z none (some ((n.fdiv 1680).fmod ((z.length : Int) + 1))) ++ (⟨#[(hidL.getD ((n.fdiv 60).fmod 28).toNat 0).toNat]⟩ : Str) ++ Txt.slice z (some ((n.fdiv 1680).fmod ((z.length : Int) + 1))) none
theorem typed_tail (w : World) (z : Str) (n : Int) (tz tn : CbTok) (dp un : Nat) (gd : Option (List Code)) (cn : Str) (cs : Scope) (a : Addr) (ccd : Value) (cl : List (Str × Addr)) (outer : List Env) (A₀ : Around) (base h₀ : Heap) (L L' : Addr) (m : Str → Option Value)
    (mean : ExcName → Option Value) (mg mb : Str → Option Value) (s : Shared) (Q E : Value → Shared → Prop) (news : List (Addr × Obj)) (q : Flow → Shared → Prop) (ek : Value → Shared → Prop)
    (B : Below ((ktrTop dp un gd cn cs L a ccd cl outer)) base (envX cn cs L a ccd cl :: outer) h₀) (F : Fr h₀ L' s.heap (fun y => if y = Str.ofString "typed" then some (.str z tz) else if y = Str.ofString "n" then some (.int n tn) else m y))
    (N : News h₀ L' s.heap news)
    (X : (KK w.params).In h₀) (T : Top vw lw mean mg mb h₀) (hz : z.length ≤ 16) (hn : 0 ≤ n) (hd : dp + 4 < recursionLimit) (hu : un + 30 < cLine)
    (hret : ∀ (t : Tok) (h' : Heap) (tk' : Nat), (∀ b o, h₀.get? b = some o → h'.get? b = some o) → q (.ret (.str (tailV z n) t)) { s with heap := h', toks := tk' }) :
    wpAny (model pw w) ((ktrTop dp un gd cn cs L a ccd cl outer).deeper (envOfC (Str.ofString "_law_typed") bS19 L' 216 (.ref 215)))
      (execs bB19t (envOfC (Str.ofString "_law_typed") bS19 L' 216 (.ref 215))) q ek s := by
  iterate 18 (first | walk1 | (dsimp only; walk1))
  · iterate 4 walk1
    rename _ = (27 : Int) => h27
    have e9 : tailV z n = _ := if_pos h27
    rw [e9] at hret
    exact hret _ _ _ (Fr.keep (by assumption))
  · iterate 45 walk1
    k_dflt (refine' kmk_add_ints ?F ?N ?a ?b ?i ?j ?_ ?z; (case F => k_asm); (case N => k_asm); (case a => kmk_list); (case b => kmk_list); (case i => l_ints); (case j => exact IntsAre.ofCarried (by assumption)); (case z => decide); intro D' ws' h' F' N' l1 hI'; (try k_lt l1); (try k_sweep))
    iterate 41 walk1
    rename IntsAre _ _ => I9
    rename _ ≠ (27 : Int) => h27
    have e9 : tailV z n = _ := if_neg h27
    rw [e9] at hret
    have I8 : IntsAre ws' hidL := I9
    have hk0 : 0 ≤ (n.fdiv 60).fmod 28 := Int.fmod_nonneg_of_pos _ (by decide)
    have hk1 : (n.fdiv 60).fmod 28 < 28 := Int.fmod_lt_of_pos _ (by decide)
    have hk2 : (n.fdiv 60).fmod 28 < 27 := by omega
    refine item_list_intsR (vs := ws') (by kmk_list) I8 hk0 (by rw [hidL_len]; exact hk2) (by omega) ?_
    intro t9
    have hc := hidL_bd ((n.fdiv 60).fmod 28).toNat
    have hc' : ((n.fdiv 60).fmod 28).toNat < 27 := by omega
    generalize hidL.getD ((n.fdiv 60).fmod 28).toNat 0 = ch at hc hret ⊢
    replace hc := hc hc'
    iterate 12 walk1
    refine hret _ _ _ (Fr.keep (by assumption))
end Mine
end
section
open PySem PySem.W PyProof.Rows PySem.Spec PySem.Calls PyProof.V
namespace Mine
@[reducible] noncomputable def zRep : Stmt := .Assign [.Name (Str.ofString "typed") ⟨100, 8, 100, 13⟩]
  (.Call (.Attribute (.Name (Str.ofString "word") ⟨100, 16, 100, 20⟩) (Str.ofString "replace") ⟨100, 16, 100, 28⟩)
    [.Name (Str.ofString "old") ⟨100, 29, 100, 32⟩, .Call (.Name (Str.ofString "chr") ⟨100, 34, 100, 37⟩) [.Name (Str.ofString "code") ⟨100, 38, 100, 42⟩] [] ⟨100, 34, 100, 43⟩] [] ⟨100, 16, 100, 44⟩) ⟨100, 8, 100, 44⟩
theorem Fr.eqm {h₀ h : Heap} {L : Addr} {M M' : Str → Option Value} (F : Fr h₀ L h M) (e : M = M') : Fr h₀ L h M' := e ▸ F
theorem map3 {M : Str → Option Value} {a b c : Value} (ha : M (Str.ofString "word") = some a) (hb : M (Str.ofString "old") = some b) (hc : M (Str.ofString "code") = some c) :
    (fun y => if y = Str.ofString "word" then some a else if y = Str.ofString "old" then some b else if y = Str.ofString "code" then some c else M y) = M := by
  funext y
  by_cases h1 : y = Str.ofString "word"
  · rw [if_pos h1, h1, ha]
  · rw [if_neg h1]
    by_cases h2 : y = Str.ofString "old"
    · rw [if_pos h2, h2, hb]
    · rw [if_neg h2]
      by_cases h3 : y = Str.ofString "code"
      · rw [if_pos h3, h3, hc]
      · rw [if_neg h3]
theorem rep_s2 (w : World) (x o : Str) (code : Int) (tx to_ tc : CbTok) (dp un : Nat) (gd : Option (List Code)) (cn : Str) (cs : Scope) (a : Addr) (ccd : Value) (cl : List (Str × Addr)) (outer : List Env) (base h₀ : Heap) (L L' : Addr) (m : Str → Option Value)
    (mean : ExcName → Option Value) (mg mb : Str → Option Value) (s : Shared) (q : Flow → Shared → Prop) (ek : Value → Shared → Prop)
    (B : Below ((ktrTop dp un gd cn cs L a ccd cl outer)) base (envX cn cs L a ccd cl :: outer) h₀) (F : Fr h₀ L' s.heap m)
    (X : (KK w.params).In h₀) (T : Top vw lw mean mg mb h₀) (hw : m (Str.ofString "word") = some (.str x tx)) (ho : m (Str.ofString "old") = some (.str o to_)) (hc : m (Str.ofString "code") = some (.int code tc))
    (hx : x.length ≤ 8) (hyz : (o == (⟨#[code.toNat]⟩ : Str)) = false) (hcode : 0 ≤ code ∧ code ≤ 65535) (t1 : @Ne Nat to_ 0) (t2 : @Ne Nat s.toks 0) (t3 : @Ne Nat s.toks to_) (hd : dp + 4 < recursionLimit) (hu : un + 30 < cLine)
    (hret : ∀ (t : Tok) (h' : Heap) (tk' : Nat), Fr h₀ L' h' (fun y => if y = Str.ofString "typed" then some (.str (Txt.replace x o ⟨#[code.toNat]⟩) t) else m y) → q .next { s with heap := h', toks := tk' }) :
    wpAny (model pw w) ((ktrTop dp un gd cn cs L a ccd cl outer).deeper (envOfC (Str.ofString "_law_typed") bS19 L' 216 (.ref 215)))
      (execs [zRep] (envOfC (Str.ofString "_law_typed") bS19 L' 216 (.ref 215))) q ek s := by
  have e := map3 hw ho hc
  have F0 := Fr.eqm F e.symm
  have N0 : News h₀ L' s.heap [] := fun q hq => nomatch hq
  clear F
  iterate 17 (first | walk1 | (dsimp only; walk1))
  refine SC.replace t1 t2 (Ne.symm t3) hyz ?_ ?_
  · show x.length + (x.length + 1) * 1 ≤ _
    omega
  intro t' k'
  iterate 1 (first | walk1 | (dsimp only; walk1))
  rename Fr _ _ _ _ => F5
  refine wpAny_execs_nil ?_
  exact hret _ _ _ (Fr.eqm F5 (congrArg (fun f : Str → Option Value => fun y => if y = Str.ofString "typed" then some (Value.str (Txt.replace x o ⟨#[code.toNat]⟩) _) else f y) e))
end Mine
end
section
open PySem PySem.W PyProof.Rows PySem.Spec PySem.Calls PyProof.V
namespace Mine
noncomputable def pieceV (y : Str) (k : Int) : Str × Nat :=
  if y = Str.ofString "fi" then (if k = 3 then (Str.ofString "ff", 64256) else if k = 4 then (Str.ofString "fi", 64257) else (Str.ofString "ffi", 64259))
  else if y = Str.ofString "fl" then (if k = 3 then (Str.ofString "ff", 64256) else if k = 4 then (Str.ofString "fl", 64258) else (Str.ofString "ffl", 64260))
  else if y = Str.ofString "st" then (if k = 3 then (Str.ofString "ss", 223) else if k = 4 then (Str.ofString "st", 64261) else (Str.ofString "st", 64262))
  else (if k = 3 then (Str.ofString "kk", 13261) else if k = 4 then (Str.ofString "km", 13262) else (Str.ofString "k", 8490))
noncomputable def st10 : List Int := [0, 1, 2, 4, 7, 8, 9, 10, 11, 12]
noncomputable def mathV (x : Str) (n : Int) : List Str := x.cps.toList.map fun (c : Nat) => (⟨#[(119711 + 52 * st10.getD ((n.fdiv 6).fmod 10).toNat 0 + (c : Int)).toNat]⟩ : Str)
noncomputable def typedV (x y : Str) (n : Int) : Str :=
  if n.fmod 6 = 1 then Txt.upper x
  else if n.fmod 6 = 2 then Txt.join (Str.ofString "") (mathV x n)
  else if n.fmod 6 > 2 then Txt.replace x (pieceV y (n.fmod 6)).1 ⟨#[(pieceV y (n.fmod 6)).2]⟩
  else x
theorem Fr.two {h₀ h : Heap} {L : Addr} {M : Str → Option Value} (F : Fr h₀ L h M) (a b : Str) {va vb : Value} (ha : M a = some va) (hb : M b = some vb) :
    Fr h₀ L h (fun y => if y = a then some va else if y = b then some vb else M y) := by
  have e : (fun y => if y = a then some va else if y = b then some vb else M y) = M := by
    funext y
    by_cases h1 : y = a
    · rw [if_pos h1, h1, ha]
    · rw [if_neg h1]
      by_cases h2 : y = b
      · rw [if_pos h2, h2, hb]
      · rw [if_neg h2]
  rw [e]; exact F
theorem toks_up {α : Type} {M : Model} {A : Around} {t : Sem α} {Q : α → Shared → Prop} {E : Value → Shared → Prop} {s : Shared} (n : Nat) (hn : n ≤ s.toks) (h : ∀ k, n ≤ k → wpAny M A t Q E { s with toks := k }) : wpAny M A t Q E s := h _ hn
theorem st10_bd : ∀ j, j < 10 → 0 ≤ st10.getD j 0 ∧ st10.getD j 0 ≤ 12 := by decide
theorem ones_sum (f : Nat → Str) (hf : ∀ c, (f c).length = 1) : ∀ l : List Nat, ((l.map f).map (·.length)).sum = l.length
  | [] => rfl
  | c :: l => by
    have := ones_sum f hf l
    simp only [List.map_cons, List.sum_cons, List.length_cons, hf]
    omega
theorem tkl {a b c : Nat} (h : a + 28 ≤ b) (hc : c < a + 28) : b ≠ c := fun e => absurd (e ▸ hc) (Nat.not_lt.mpr h)
theorem News.tl4 {h₀ h : Heap} {L : Addr} {a : Addr × Obj} {l : List (Addr × Obj)} (N : News h₀ L h (a :: l)) : News h₀ L h l := fun q hq => N q (List.mem_cons_of_mem _ hq)
theorem tkl3 {a b c : Nat} (n : Nat) (h : a + 28 ≤ b) (hn : n < 28) (e : c = a + n) : b ≠ c := e ▸ Nat.ne_of_gt (Nat.lt_of_lt_of_le (Nat.add_lt_add_left hn a) h)
theorem tkl0 {a b : Nat} (h : a + 28 ≤ b) : b ≠ 0 := Nat.ne_of_gt (Nat.lt_of_lt_of_le (Nat.succ_pos _) h)
theorem News.drop0 {h₀ h : Heap} {L : Addr} {l : List (Addr × Obj)} (_ : News h₀ L h l) : News h₀ L h [] := fun q hq => nomatch hq
theorem piece_fi3 : pieceV (Str.ofString "fi") 3 = (Str.ofString "ff", 64256) := by decide
theorem piece_fi4 : pieceV (Str.ofString "fi") 4 = (Str.ofString "fi", 64257) := by decide
theorem piece_fi5 : pieceV (Str.ofString "fi") 5 = (Str.ofString "ffi", 64259) := by decide
theorem piece_fl3 : pieceV (Str.ofString "fl") 3 = (Str.ofString "ff", 64256) := by decide
theorem piece_fl4 : pieceV (Str.ofString "fl") 4 = (Str.ofString "fl", 64258) := by decide
theorem piece_fl5 : pieceV (Str.ofString "fl") 5 = (Str.ofString "ffl", 64260) := by decide
theorem piece_st3 : pieceV (Str.ofString "st") 3 = (Str.ofString "ss", 223) := by decide
theorem piece_st4 : pieceV (Str.ofString "st") 4 = (Str.ofString "st", 64261) := by decide
theorem piece_st5 : pieceV (Str.ofString "st") 5 = (Str.ofString "st", 64262) := by decide
theorem piece_km3 : pieceV (Str.ofString "km") 3 = (Str.ofString "kk", 13261) := by decide
theorem piece_km4 : pieceV (Str.ofString "km") 4 = (Str.ofString "km", 13262) := by decide
theorem piece_km5 : pieceV (Str.ofString "km") 5 = (Str.ofString "k", 8490) := by decide
inductive Pc (h : Heap) (y : Str) (k : Int) (hi : Nat) (D : Addr) : Prop
  | mk (a : Str) (c : Int) (t u : CbTok) (g : h.get? D = some { cls := .type "tuple", data := .seq #[.str a t, .int c u] }) (p : pieceV y k = (a, c.toNat)) (ne : (a == (⟨#[c.toNat]⟩ : Str)) = false) (q : 0 ≤ c ∧ c ≤ 65535) (b0 : @Ne Nat t 0) (b1 : @LT.lt Nat _ t hi)
inductive PieceAt (h : Heap) (y : Str) (hi : Nat) (v : Value) : Prop
  | mk (l D1 D2 D3 : Addr) (e : v = .ref l) (hl : h.get? l = some (W.listOf #[.ref D1, .ref D2, .ref D3] 0)) (g1 : Pc h y 3 hi D1) (g2 : Pc h y 4 hi D2) (g3 : Pc h y 5 hi D3)
theorem p_typed (w : World) (x y : Str) (n : Int) (tx ty tn : CbTok) : PC 4 30 w 216 (x.length ≤ 8 ∧ (∀ c ∈ x.cps.toList, c < 128) ∧ (typedV x y n).length ≤ 16 ∧ (y = Str.ofString "fi" ∨ y = Str.ofString "fl" ∨ y = Str.ofString "st" ∨ y = Str.ofString "km") ∧ 0 ≤ n) [.str x tx, .str y ty, .int n tn] (fun t => .str (tailV (typedV x y n) n) t) := by
  intro dp un gd cn cs a ccd cl outer A₀ base h₀ L m mean mg mb s Q E B F X T hk pre hd hu hret
  refine wpAny_call ?_
  k_dflt (refine' code_keepsC ?k1 ?k2 ?k3 ?k5 ?kA ?kF ?kK ?k6 ?k7 ?k8 ?k9 ?kB ?kD ?_ ?c2 ?c3 ?c4; (case kA => exact rfl); (case kF => exact rfl); (case kK => assumption); (case k1 => k_asm); (case k2 => k_asm); (case k3 => k_asm); (case k5 => k_asm); (case k6 => k_is); (case k7 => k_is); (case k8 => ktr_room); (case k9 => exact BindsTo.of_eq rfl); (case kB => exact rfl); (case kD => decide +kernel); (case c2 => exact rfl); (case c3 => exact rfl); (case c4 => exact rfl); k_whole; intro L' h' tk' cells' F' N' Y' B' X' T'; k_cells Y'; (try simp only [List.cons_append, List.nil_append] at N'); (try dsimp only); (try k_lift B'); (try k_fold))
  obtain ⟨hx, hx8, hv, hy, hn⟩ := pre
  rename Tok => tk0
  iterate 122 (first | walk1 | (dsimp only; walk1))
  refine toks_up (tk0 + 28) ?_ fun tk1 htk1 => ?_
  · exact Nat.add_le_add_left (show 28 ≤ 33 from by decide) tk0
  dsimp only
  iterate 19 (first | walk1 | (dsimp only; walk1))
  · iterate 10 (first | walk1 | (dsimp only; walk1))
    have ev : typedV x y n = _ := if_pos (by assumption)
    rw [ev] at hv hret
    rename Fr _ _ _ _ => F6; rename News _ _ _ _ => N6; rename Below _ _ _ _ => B6; rename Frag.In _ _ => X6; rename Top _ _ _ _ _ _ => T6; refine typed_tail w (Txt.upper x) n _ _ dp un gd cn cs a ccd cl outer A₀ base _ L _ _ mean mg mb _ Q E _ _ _ B6 (Fr.two F6 (Str.ofString "typed") (Str.ofString "n") rfl rfl) N6 X6 T6 ?_ hn hd hu ?_
    · exact hv
    · intro t h' tk' hk'
      exact hret _ _ _ hk'
  refine toks_up (tk0 + 28) (by dsimp only; repeat (first | assumption | refine Nat.le_succ_of_le ?_)) fun tk2 htk2 => ?_
  dsimp only
  iterate 8 (first | walk1 | (dsimp only; walk1))
  · have ev : typedV x y n = _ := (if_neg (by assumption)).trans (if_pos (by assumption))
    rw [ev] at hv hret
    rename News _ _ _ _ => NN
    iterate 17 (replace NN := News.tl4 NN)
    iterate 49 (first | walk1 | (dsimp only; walk1))
    rename Fr _ _ _ _ => F9
    rename News _ _ _ _ => N9
    refine wpAny_ListComp_free (fun _ => true) (fun v y => ∃ t, y = .str (⟨#[(119711 + 52 * st10.getD ((n.fdiv 6).fmod 10).toNat 0 + (headCp v : Int)).toNat]⟩ : Str) t) rfl (by decide) rfl (by decide) rfl ?_
    walk1
    refine wpAny_pyIter_str fun o St W S0 => ?_
    refine ⟨_, _, _, _, _, _, rfl, W _ rfl, ?_, S0, ?_, ?_, ?_⟩
    · show x.length ≤ sizeLine
      unfold sizeLine; omega
    · intro b hb
      rw [List.mem_singleton] at hb; subst hb
      exact Nat.lt_of_lt_of_eq (Nat.lt_succ_self _) (Heap.size_push _ _).symm
    · constructor
      · intro C i v s₃ m₃ E' _ hP hn hm hkp htk
        exact wpAny_tests_nil ⟨rfl, _, _, rfl, fun _ _ e => e⟩
      · intro C i v s₃ m₃ E' _ hP hpv hn hm hkp htk
        obtain ⟨c, u, hc, rfl⟩ := hP
        have hk8 : ∀ b o', _ → s₃.heap.get? b = some o' := fun b o' e => hkp b o' (by intro hb; rw [List.mem_singleton] at hb; exact absurd (Heap.lt_size e) (by rw [hb]; exact Nat.lt_irrefl _)) (Heap.get?_push_of_some _ e)
        have F8 := F9.kept (h' := s₃.heap) hk8
        iterate 6 (first | walk1 | (dsimp only; walk1))
        refine ldCellK rfl ⟨_, hk8 _ _ (N9 (_, _) (by k_mem)).1, (by assumption)⟩ ?_
        iterate 8 (first | walk1 | (dsimp only; walk1))
        have hj0 : 0 ≤ (n.fdiv 6).fmod 10 := Int.fmod_nonneg_of_pos _ (by decide)
        have hj1 : (n.fdiv 6).fmod 10 < 10 := Int.fmod_lt_of_pos _ (by decide)
        have hst := st10_bd ((n.fdiv 6).fmod 10).toNat (by omega)
        have hc8 : c < 128 := hx8 c (by
          obtain ⟨hi, e⟩ := Array.getElem?_eq_some_iff.mp hc
          rw [← e]; simp)
        have hch : 0 ≤ (119711 + 52 * st10.getD ((n.fdiv 6).fmod 10).toNat 0 + (c : Int)) ∧ (119711 + 52 * st10.getD ((n.fdiv 6).fmod 10).toNat 0 + (c : Int)) ≤ 120463 := by omega
        refine args_nil ?_
        change wpAny _ _ (call (Value.builtin "chr") [Value.int (119711 + 52 * st10.getD ((n.fdiv 6).fmod 10).toNat 0 + (c : Int)) _]) _ _ _
        generalize hce : 119711 + 52 * st10.getD ((n.fdiv 6).fmod 10).toNat 0 + (c : Int) = ch at hch ⊢
        walk1
        exact ⟨⟨_, by rw [← hce]; rfl⟩, _, _, rfl, fun _ _ e => e⟩
    · intro D h' tk ys vs hD hlD _ hlen hP hF hk'
      have hk8 : ∀ b o', _ → h'.get? b = some o' := fun b o' e => hk' b o' (by intro hb; rw [List.mem_singleton] at hb; exact absurd (Heap.lt_size e) (by rw [hb]; exact Nat.lt_irrefl _)) (Heap.get?_push_of_some _ e)
      have F8 := F9.kept (h' := h') hk8
      have N8 : News _ _ h' _ := fun p hp => ⟨hk8 _ _ (N9 p hp).1, (N9 p hp).2⟩
      have hS := strs_paired (f := fun c => (⟨#[(119711 + 52 * st10.getD ((n.fdiv 6).fmod 10).toNat 0 + (c : Int)).toNat]⟩ : Str)) (l := x.cps.toList) (q := fun c => true) (by simpa using hlen) (fun j v hv => by simpa [SignAt] using hP j v hv) hF
      clear hk8 hF hP
      iterate 1 (first | walk1 | (dsimp only; walk1))
      refine join_list hlD hS ?_ fun t' k => ?_
      · have e0 : (Str.ofString "").length = 0 := by decide
        rw [e0, List.filter_eq_self.mpr (fun _ _ => rfl), ones_sum _ (fun _ => rfl)]
        show x.length + _ * 0 ≤ _
        omega
      rw [List.filter_eq_self.mpr (fun _ _ => rfl)]
      iterate 4 (first | walk1 | (dsimp only; walk1))
      rename Fr _ _ _ _ => F6; rename News _ _ _ _ => N6; rename Below _ _ _ _ => B6; rename Frag.In _ _ => X6; rename Top _ _ _ _ _ _ => T6; refine typed_tail w (Txt.join (Str.ofString "") (mathV x n)) n _ _ dp un gd cn cs a ccd cl outer A₀ base _ L _ _ mean mg mb _ Q E _ _ _ B6 (Fr.two F6 (Str.ofString "typed") (Str.ofString "n") rfl rfl) N6 X6 T6 ?_ hn hd hu ?_
      · exact hv
      · exact fun t h' tk' hk' => hret _ _ _ hk'
  refine toks_up (tk0 + 28) (by dsimp only; repeat (first | assumption | refine Nat.le_succ_of_le ?_)) fun tk3 htk3 => ?_
  dsimp only
  iterate 8 (first | walk1 | (dsimp only; walk1))
  · refine toks_up (tk0 + 28) (by dsimp only; repeat (first | assumption | refine Nat.le_succ_of_le ?_)) fun tk4 htk4 => ?_
    dsimp only
    iterate 6 (first | walk1 | (dsimp only; walk1))
    have hk3 : n.fmod 6 = 3 ∨ n.fmod 6 = 4 ∨ n.fmod 6 = 5 := by
      have h0 := Int.fmod_nonneg_of_pos n (b := 6) (by decide)
      have h1 := Int.fmod_lt_of_pos n (b := 6) (by decide)
      omega
    have h1 : n.fmod 6 ≠ 1 := by omega
    have h2 : n.fmod 6 ≠ 2 := by omega
    have h3 : n.fmod 6 > 2 := by omega
    have ev : typedV x y n = Txt.replace x (pieceV y (n.fmod 6)).1 ⟨#[(pieceV y (n.fmod 6)).2]⟩ := (if_neg h1).trans ((if_neg h2).trans (if_pos h3))
    rw [ev] at hv hret
    rename News _ _ _ _ => N6; rename Fr _ _ _ _ => F6; rename Heap => h9
    refine wpAny_mono (Q := fun v s' => s' = { s with heap := h9, toks := tk4 + 1 } ∧ PieceAt h9 y (tk0 + 28) v) ?_ (fun v s' hq => ?_) fun _ _ e => e
    · clear hv hret hk3 ev h1 h2 h3
      rcases hy with rfl | rfl | rfl | rfl
      · walk1
        exact ⟨rfl, PieceAt.mk _ _ _ _ rfl (N6 (_, _) (by k_mem)).1 (Pc.mk _ _ _ _ (N6 (_, _) (by k_mem)).1 piece_fi3 (by decide) (by decide) (by exact Nat.succ_ne_zero _) (by exact Nat.add_lt_add_left (show _ < 28 from by decide) tk0)) (Pc.mk _ _ _ _ (N6 (_, _) (by k_mem)).1 piece_fi4 (by decide) (by decide) (by exact Nat.succ_ne_zero _) (by exact Nat.add_lt_add_left (show _ < 28 from by decide) tk0)) (Pc.mk _ _ _ _ (N6 (_, _) (by k_mem)).1 piece_fi5 (by decide) (by decide) (by exact Nat.succ_ne_zero _) (by exact Nat.add_lt_add_left (show _ < 28 from by decide) tk0))⟩
      · walk1
        exact ⟨rfl, PieceAt.mk _ _ _ _ rfl (N6 (_, _) (by k_mem)).1 (Pc.mk _ _ _ _ (N6 (_, _) (by k_mem)).1 piece_fl3 (by decide) (by decide) (by exact Nat.succ_ne_zero _) (by exact Nat.add_lt_add_left (show _ < 28 from by decide) tk0)) (Pc.mk _ _ _ _ (N6 (_, _) (by k_mem)).1 piece_fl4 (by decide) (by decide) (by exact Nat.succ_ne_zero _) (by exact Nat.add_lt_add_left (show _ < 28 from by decide) tk0)) (Pc.mk _ _ _ _ (N6 (_, _) (by k_mem)).1 piece_fl5 (by decide) (by decide) (by exact Nat.succ_ne_zero _) (by exact Nat.add_lt_add_left (show _ < 28 from by decide) tk0))⟩
      · walk1
        exact ⟨rfl, PieceAt.mk _ _ _ _ rfl (N6 (_, _) (by k_mem)).1 (Pc.mk _ _ _ _ (N6 (_, _) (by k_mem)).1 piece_st3 (by decide) (by decide) (by exact Nat.succ_ne_zero _) (by exact Nat.add_lt_add_left (show _ < 28 from by decide) tk0)) (Pc.mk _ _ _ _ (N6 (_, _) (by k_mem)).1 piece_st4 (by decide) (by decide) (by exact Nat.succ_ne_zero _) (by exact Nat.add_lt_add_left (show _ < 28 from by decide) tk0)) (Pc.mk _ _ _ _ (N6 (_, _) (by k_mem)).1 piece_st5 (by decide) (by decide) (by exact Nat.succ_ne_zero _) (by exact Nat.add_lt_add_left (show _ < 28 from by decide) tk0))⟩
      · walk1
        exact ⟨rfl, PieceAt.mk _ _ _ _ rfl (N6 (_, _) (by k_mem)).1 (Pc.mk _ _ _ _ (N6 (_, _) (by k_mem)).1 piece_km3 (by decide) (by decide) (by exact Nat.succ_ne_zero _) (by exact Nat.add_lt_add_left (show _ < 28 from by decide) tk0)) (Pc.mk _ _ _ _ (N6 (_, _) (by k_mem)).1 piece_km4 (by decide) (by decide) (by exact Nat.succ_ne_zero _) (by exact Nat.add_lt_add_left (show _ < 28 from by decide) tk0)) (Pc.mk _ _ _ _ (N6 (_, _) (by k_mem)).1 piece_km5 (by decide) (by decide) (by exact Nat.succ_ne_zero _) (by exact Nat.add_lt_add_left (show _ < 28 from by decide) tk0))⟩
    obtain ⟨rfl, l9, D1, D2, D3, rfl, hl9, g1, g2, g3⟩ := hq
    have N0 := News.drop0 N6
    clear N6
    obtain ⟨D9, hD9, a9, c9, t9, u9, g9, p9, ne9, q9, b0, b1⟩ : ∃ D, [Value.ref D1, .ref D2, .ref D3][(n.fmod 6 - 3).toNat]? = some (.ref D) ∧ Pc h9 y (n.fmod 6) (tk0 + 28) D := by
      rcases hk3 with e | e | e <;> rw [e]
      · exact ⟨D1, rfl, g1⟩
      · exact ⟨D2, rfl, g2⟩
      · exact ⟨D3, rfl, g3⟩
    rw [p9] at hv hret
    dsimp only at hv hret
    iterate 4 (first | walk1 | (dsimp only; walk1))
    dsimp only
    refine item_litK (vs := [.ref D1, .ref D2, .ref D3]) ⟨_, hl9, rfl, _, rfl⟩ (by omega) (by omega) hD9 ?_
    refine unpackN_ F6 N0 ⟨_, g9, rfl, _, rfl⟩ rfl rfl rfl fun h8 F8 N8 => ?_
    clear F6 N0 N8
    have N8 : News s.heap L' h8 [] := fun q hq => nomatch hq
    iterate 7 (first | walk1 | (dsimp only; walk1))
    rename News _ _ _ _ => NN
    clear NN
    refine toks_up (tk0 + 28) (by dsimp only; repeat (first | assumption | refine Nat.le_succ_of_le ?_)) fun tk5 htk5 => ?_
    dsimp only
    rename Fr _ _ _ _ => F6; rename Below _ _ _ _ => B6; rename Frag.In _ _ => X6; rename Top _ _ _ _ _ _ => T6
    refine rep_s2 w x a9 c9 tx t9 u9 dp un gd cn cs a ccd cl outer base _ L _ _ mean mg mb _ _ _ B6 F6 X6 T6 rfl rfl rfl hx ne9 q9 b0 (tkl0 htk5) (Nat.ne_of_gt (Nat.lt_of_lt_of_le b1 htk5)) hd hu fun t7 h7 tk7 F7 => ?_
    clear F6
    dsimp only
    iterate 2 (refine wpAny_execs_nil ?_; dsimp only)
    refine typed_tail w (Txt.replace x a9 ⟨#[c9.toNat]⟩) n _ _ dp un gd cn cs a ccd cl outer A₀ base _ L _ _ mean mg mb _ Q E [] _ _ B6 (Fr.two F7 (Str.ofString "typed") (Str.ofString "n") rfl rfl) (fun q hq => nomatch hq) X6 T6 hv hn hd hu fun t h' tk' hk' => hret _ _ _ hk'
  · iterate 4 (first | walk1 | (dsimp only; walk1))
    have ev : typedV x y n = x := (if_neg (by assumption)).trans ((if_neg (by assumption)).trans (if_neg (by assumption)))
    rw [ev] at hv hret
    rename Fr _ _ _ _ => F6; rename News _ _ _ _ => N6; rename Below _ _ _ _ => B6; rename Frag.In _ _ => X6; rename Top _ _ _ _ _ _ => T6; refine typed_tail w x n _ _ dp un gd cn cs a ccd cl outer A₀ base _ L _ _ mean mg mb _ Q E _ _ _ B6 (Fr.two F6 (Str.ofString "typed") (Str.ofString "n") rfl rfl) N6 X6 T6 ?_ hn hd hu ?_
    · exact hv
    · intro t h' tk' hk'
      exact hret _ _ _ hk'
end Mine
end
section
open PySem PySem.W PyProof.Rows PySem.Spec PySem.Calls PyProof.V
namespace Mine
noncomputable abbrev NoE : Value → Shared → Prop := fun _ _ => False
section
variable {prog : Program} {w : World} {A : Around} {E : Value → Shared → Prop} {s : Shared}
/-- one turn of a for loop and its end, with a state of our own -/
theorem For_gen {target iter : Expr} {body : List Stmt} {pos : Pos} {env : Env} {Q : Flow → Shared → Prop}
    (h : wpAny (model prog w) A (eval iter env) (fun xv s₁ => wpAny (model prog w) A (pyIter xv) (fun it s₂ => ∃ (n : Nat) (S : Nat → Shared → Prop), S 0 s₂ ∧
      (∀ i s, i < n → S i s → wpAny (model prog w) A (pyNext it) (fun r s₁ => ∃ v, r = some v ∧ wpAny (model prog w) A (letOwnedTupleGo target it v) (fun _ s₁' => wpAny (model prog w) A (assign target env v) (fun _ s₂ =>
        wpAny (model prog w) A (execs body env) (fun f s₃ => match f with | .next | .cont => S (i + 1) s₃ | .brk => Q .next s₃ | .ret v => Q (.ret v) s₃) NoE s₂) NoE s₁') NoE s₁) NoE s) ∧
      (∀ s, S n s → wpAny (model prog w) A (pyNext it) (fun r s₁ => r = none ∧ Q .next s₁) NoE s)) E s₁) E s)
    (hs : ∀ x, foldedSetIterable iter env x = pure x := by intro _; rfl) :
    wpAny (model prog w) A (exec (.For target iter body [] pos) env) Q E s := by
  refine wpAny_For (wpAny_mono h (fun xv s₁ h₁ => wpAny_mono h₁ (fun it s₂ h₂ => ?_) fun _ _ e => e) fun _ _ e => e) hs
  obtain ⟨n, S, h0, step, fin⟩ := h₂
  refine codeAny_forLoop_any (fun k s => ∃ i, i ≤ n ∧ k = n - i ∧ S i s) (fun k s hk => ?_) (n - 0) ⟨0, Nat.zero_le _, rfl, h0⟩
  obtain ⟨i, hi, rfl, hS⟩ := hk
  by_cases hlt : i < n
  · refine wpAny_mono (step i s hlt hS) (fun r s₁ h₁ => ?_) fun _ _ f => f.elim
    obtain ⟨v, rfl, h₁⟩ := h₁
    refine wpAny_mono h₁ (fun _ s₁' h₂ => wpAny_mono h₂ (fun _ s₂ h₃ => wpAny_mono h₃ (fun f s₃ h₄ => ?_) fun _ _ f => f.elim) fun _ _ f => f.elim) fun _ _ f => f.elim
    cases f with
    | next => exact ⟨_, by omega, i + 1, hlt, rfl, h₄⟩
    | cont => exact ⟨_, by omega, i + 1, hlt, rfl, h₄⟩
    | brk => exact h₄
    | ret v => exact h₄
  · have : i = n := by omega
    subst this
    refine wpAny_mono (fin s hS) (fun r s₁ h₁ => ?_) fun _ _ f => f.elim
    obtain ⟨rfl, h₁⟩ := h₁
    exact wpAny_execs_nil h₁
/-- what stands after a turn -/
noncomputable def TurnEnd (s : Shared) (h₀ : Heap) (L l : Addr) (lo : Obj) (J : (Str → Option Value) → List (Addr × Obj) → Prop) (I : Addr) (o : Obj) (Q : Flow → Shared → Prop) (f : Flow) (s₃ : Shared) : Prop :=
  match f with
  | .next | .cont => ∃ h' tk' m' news', s₃ = { s with heap := h', toks := tk' } ∧ Fr h₀ L h' m' ∧ News h₀ L h' ((I, o) :: news') ∧ (∀ p ∈ news', p.1 ≠ I) ∧ (l, lo) ∈ news' ∧ J m' news'
  | .brk => Q .next s₃
  | .ret v => Q (.ret v) s₃
theorem TurnEnd.mk {s : Shared} {h₀ : Heap} {L l : Addr} {lo : Obj} {J : (Str → Option Value) → List (Addr × Obj) → Prop} {I : Addr} {o : Obj} {Q : Flow → Shared → Prop} {h' : Heap} {tk' : Nat} {m' : Str → Option Value} {news' : List (Addr × Obj)}
    (F : Fr h₀ L h' m') (N : News h₀ L h' ((I, o) :: news')) (hn : ∀ p ∈ news', p.1 ≠ I) (hl : (l, lo) ∈ news') (hj : J m' news') : TurnEnd s h₀ L l lo J I o Q .next { s with heap := h', toks := tk' } :=
  ⟨h', tk', m', news', rfl, F, N, hn, hl, hj⟩
theorem Iter_list {env : Env} {x : Str} {px : Pos} {body : List Stmt} {Q : Flow → Shared → Prop} {h₀ : Heap} {m : Str → Option Value} {news : List (Addr × Obj)} {l : Addr} {lo : Obj} {vs : List Value} {nn : Nat}
    (J : Nat → (Str → Option Value) → List (Addr × Obj) → Prop)
    (hx : env.kindOf x = some .local) (hp : (env.scope.kind == .class || (env.scope.kind == .module && env.locals != env.globals)) = false) (hA : A.handled = none)
    (F : Fr h₀ env.locals s.heap m) (N : News h₀ env.locals s.heap news) (hl : (l, lo) ∈ news) (hlc : lo.cls = .type "list") (hld : lo.data = .seq vs.toArray nn) (hj : J 0 m news)
    (turn : ∀ i v m₁ news₁ h tk I o, vs[i]? = some v → J i m₁ news₁ → (∀ p ∈ news₁, p.1 ≠ I) → (l, lo) ∈ news₁ → o.cls = .type "list_iterator" → Fr h₀ env.locals h (fun y => if y = x then some v else m₁ y) → News h₀ env.locals h ((I, o) :: news₁) →
      wpAny (model prog w) A (execs body env) (TurnEnd s h₀ env.locals l lo (J (i + 1)) I o Q) NoE { s with heap := h, toks := tk })
    (done : ∀ m₁ news₁ h tk, J vs.length m₁ news₁ → Fr h₀ env.locals h m₁ → News h₀ env.locals h news₁ → Q .next { s with heap := h, toks := tk }) :
    wpAny (model prog w) A (pyIter (.ref l)) (fun it s₂ => ∃ (n : Nat) (S : Nat → Shared → Prop), S 0 s₂ ∧
      (∀ i s, i < n → S i s → wpAny (model prog w) A (pyNext it) (fun r s₁ => ∃ v, r = some v ∧ wpAny (model prog w) A (letOwnedTupleGo (.Name x px) it v) (fun _ s₁' => wpAny (model prog w) A (assign (.Name x px) env v) (fun _ s₂ =>
        wpAny (model prog w) A (execs body env) (fun f s₃ => match f with | .next | .cont => S (i + 1) s₃ | .brk => Q .next s₃ | .ret v => Q (.ret v) s₃) NoE s₂) NoE s₁') NoE s₁) NoE s) ∧
      (∀ s, S n s → wpAny (model prog w) A (pyNext it) (fun r s₁ => r = none ∧ Q .next s₁) NoE s)) E s := by
  have isl : ∀ {h : Heap} {nw : List (Addr × Obj)}, News h₀ env.locals h nw → (l, lo) ∈ nw → h.IsList l vs.toArray := fun n hm => ⟨lo, (n _ hm).1, hlc, nn, hld⟩
  refine wpAny_pyIter_list (isl N hl) ?_
  have pushed : ∀ {p}, p ∈ news → p.1 ≠ s.heap.objs.size := fun {p} hp => Nat.ne_of_lt (Heap.lt_size (N p hp).1)
  refine ⟨vs.length, fun i s' => ∃ h tk m₁ news₁ o, s' = { s with heap := h, toks := tk } ∧ o.cls = .type "list_iterator" ∧ o.data = .fields #[.ref l, .int i 0] ∧ Fr h₀ env.locals h m₁ ∧ News h₀ env.locals h ((s.heap.objs.size, o) :: news₁) ∧ (∀ p ∈ news₁, p.1 ≠ s.heap.objs.size) ∧ (l, lo) ∈ news₁ ∧ J i m₁ news₁,
    ⟨_, s.toks, m, news, { cls := .type "list_iterator", data := .fields #[.ref l, .int 0 0] }, rfl, rfl, rfl, F.push _, N.push F _, fun p hp => pushed hp, hl, hj⟩, ?_, ?_⟩
  · rintro i s' hi ⟨h, tk, m₁, news₁, o, rfl, hc, hd, F₁, N₁, ne, hl₁, hj₁⟩
    have hv : vs.toArray[i]? = some vs[i] := by simp [hi]
    have hI := N₁ (s.heap.objs.size, o) (List.mem_cons_self ..)
    refine wpAny_pyNext_list_item (it := s.heap.objs.size) ⟨o, hI.1, hc, hd⟩ (isl N₁ (List.mem_cons_of_mem _ hl₁)) hv fun h' hit hs => ?_
    obtain ⟨o', ho', hc', hd'⟩ := hit
    refine ⟨_, rfl, wpAny_of_eq (show letOwnedTupleGo (.Name x px) _ _ = pure () from rfl) ?_⟩
    have F₂ : Fr h₀ env.locals h' m₁ := F₁.change hs hI.2.1 hI.2.2
    have N₂ : News h₀ env.locals h' ((s.heap.objs.size, o') :: news₁) := fun p hp => by
      rcases List.mem_cons.mp hp with rfl | hp
      · exact ⟨ho', hI.2⟩
      · exact ⟨(hs.2 _ (ne p hp)).trans (N₁ p (List.mem_cons_of_mem _ hp)).1, (N₁ p (List.mem_cons_of_mem _ hp)).2⟩
    refine wpAny_assign_Name (wpAny_storeName_local hx F₂.ns (fun h₂ hn₂ hs₂ => ?_) hp)
    refine wpAny_mono (turn i vs[i] m₁ news₁ h₂ _ s.heap.objs.size o' (by simp [hi]) hj₁ ne hl₁ hc' (F₂.set hn₂ hs₂) (N₂.set hs₂)) (fun f s₃ h₃ => ?_) fun _ _ f => f
    have nxt : ∀ {s₃}, (∃ h' tk' m' news', s₃ = { s with heap := h', toks := tk' } ∧ Fr h₀ env.locals h' m' ∧ News h₀ env.locals h' ((s.heap.objs.size, o') :: news') ∧ (∀ p ∈ news', p.1 ≠ s.heap.objs.size) ∧ (l, lo) ∈ news' ∧ J (i + 1) m' news') →
        ∃ h tk m₁ news₁ o, s₃ = { s with heap := h, toks := tk } ∧ o.cls = .type "list_iterator" ∧ o.data = .fields #[.ref l, .int (i + 1 : Nat) 0] ∧ Fr h₀ env.locals h m₁ ∧ News h₀ env.locals h ((s.heap.objs.size, o) :: news₁) ∧ (∀ p ∈ news₁, p.1 ≠ s.heap.objs.size) ∧ (l, lo) ∈ news₁ ∧ J (i + 1) m₁ news₁ := fun ⟨h', tk', m', news', e, F', N', n', l', j'⟩ => ⟨h', tk', m', news', o', e, hc', hd', F', N', n', l', j'⟩
    cases f with
    | next => exact nxt h₃
    | cont => exact nxt h₃
    | brk => exact h₃
    | ret v => exact h₃
  · rintro s' ⟨h, tk, m₁, news₁, o, rfl, hc, hd, F₁, N₁, ne, hl₁, hj₁⟩
    have hI := N₁ (s.heap.objs.size, o) (List.mem_cons_self ..)
    refine wpAny_pyNext_list_end hA (it := s.heap.objs.size) ⟨o, hI.1, hc, hd⟩ (isl N₁ (List.mem_cons_of_mem _ hl₁)) (by simp) fun h' hs => ⟨rfl, ?_⟩
    refine done m₁ news₁ h' tk hj₁ ⟨F₁.ns.at' fun o e => hs _ o (Ne.symm hI.2.1) e, fun b o e => hs b o (fun q => ?_) (F₁.keep b o e), F₁.above⟩ fun p hp => ⟨hs _ _ (ne p hp) (N₁ p (List.mem_cons_of_mem _ hp)).1, (N₁ p (List.mem_cons_of_mem _ hp)).2⟩
    rw [q, hI.2.2] at e; cases e
theorem For_list {env : Env} {x : Str} {px : Pos} {iter : Expr} {pos : Pos} {body : List Stmt} {Q : Flow → Shared → Prop} {h₀ : Heap} {m : Str → Option Value} {news : List (Addr × Obj)} {l : Addr} {lo : Obj} {vs : List Value} {nn : Nat}
    (hev : wpAny (model prog w) A (eval iter env) (fun xv s₁ => xv = .ref l ∧ s₁ = s) E s)
    (J : Nat → (Str → Option Value) → List (Addr × Obj) → Prop)
    (hx : env.kindOf x = some .local) (hp : (env.scope.kind == .class || (env.scope.kind == .module && env.locals != env.globals)) = false) (hA : A.handled = none)
    (F : Fr h₀ env.locals s.heap m) (N : News h₀ env.locals s.heap news) (hl : (l, lo) ∈ news) (hlc : lo.cls = .type "list") (hld : lo.data = .seq vs.toArray nn) (hj : J 0 m news)
    (turn : ∀ i v m₁ news₁ h tk I o, vs[i]? = some v → J i m₁ news₁ → (∀ p ∈ news₁, p.1 ≠ I) → (l, lo) ∈ news₁ → o.cls = .type "list_iterator" → Fr h₀ env.locals h (fun y => if y = x then some v else m₁ y) → News h₀ env.locals h ((I, o) :: news₁) →
      wpAny (model prog w) A (execs body env) (TurnEnd s h₀ env.locals l lo (J (i + 1)) I o Q) NoE { s with heap := h, toks := tk })
    (done : ∀ m₁ news₁ h tk, J vs.length m₁ news₁ → Fr h₀ env.locals h m₁ → News h₀ env.locals h news₁ → Q .next { s with heap := h, toks := tk })
    (hs : ∀ x, foldedSetIterable iter env x = pure x := by intro _; rfl) :
    wpAny (model prog w) A (exec (.For (.Name x px) iter body [] pos) env) Q E s :=
  For_gen (wpAny_mono hev (fun xv s₁ he => by
    obtain ⟨rfl, rfl⟩ := he
    exact Iter_list J hx hp hA F N hl hlc hld hj turn done) fun _ _ e => e) hs
end
end Mine
end
section
open PySem PySem.W PyProof.Rows PySem.Spec PySem.Calls PyProof.V PySem.Builtin.Str PySem.Builtin
namespace Mine
theorem gives_str_find_between (x y : Str) (i j : Int) (t u v v2 : Tok) : Gives («str.find» ⟨[.str x t, .str y u, .int i v, .int j v2], []⟩) (.int (match occurrences x y (fromIndex x.length i) (min (fromIndex x.length j) x.length) 1 with | k :: _ => (k : Int) | [] => -1)) := by
  show Gives (match occurrences x y (fromIndex x.length i) (min (fromIndex x.length j) x.length) 1 with | k :: _ => retInt k | [] => (do rule "str.find.not-found"; retInt (-1))) _
  cases occurrences x y (fromIndex x.length i) (min (fromIndex x.length j) x.length) 1 with
  | nil => exact .rule (.of_eq rfl)
  | cons k _ => exact .of_eq rfl
section
variable {prog : Program} {w : World} {A : Around} {E : Value → Shared → Prop} {s : Shared} {x : Str} {t : Tok} {Q : Value → Shared → Prop}
noncomputable def find4 (x y : Str) (i j : Int) : Int := match occurrences x y (fromIndex x.length i) (min (fromIndex x.length j) x.length) 1 with | k :: _ => (k : Int) | [] => -1
theorem call_find4 {y : Str} {u v v2 : Tok} {i j : Int} (hq : Q (.int (find4 x y i j) s.toks) { s with toks := s.toks + 1 }) : wpAny (model prog w) A (call (.builtin "str.find") [.str x t, .str y u, .int i v, .int j v2]) Q E s :=
  call_gives PySem.F.slot_str_find (typeIs_str _ _ _) PySem.F.entry_str_find (PySem.F.args_str_find_4 _ _ _ _) (gives_str_find_between x y i j t u v v2) (hq)
end
end Mine
end
section
open PySem PySem.W PyProof.Rows PySem.Spec PySem.Calls PyProof.V PySem.Builtin.Str
namespace Mine

noncomputable def emL (y : Str) (j : Int) : List Str → Int → Bool
  | [], _ => true
  | w :: r, i => if find4 y w i j < 0 then false else emL y j r (find4 y w i j + w.length)
noncomputable def em3 (y : Str) (ws : List Str) (i j : Int) : Bool := if i > j then false else emL y j ws i
noncomputable def em2 (y : Str) (ws : List Str) (i : Int) : Bool :=
  match ws.getLast? with
  | none => false
  | some w => if (w.length : Int) ≠ 0 then (if Txt.endswith y w then em3 y ws.dropLast i (y.length - w.length) else false) else em3 y ws i y.length
noncomputable def em1 (y : Str) (ws : List Str) : Bool :=
  match ws with
  | [] => false
  | w :: r => if (w.length : Int) ≠ 0 then (if Txt.startswith y w then em2 y r w.length else false) else em2 y (w :: r) 0
noncomputable def EM (x y : Str) : Bool := if (occurrences x (Str.ofString "...") 0 x.length 1).isEmpty then x == y else em1 y (Txt.split x (Str.ofString "..."))
theorem Fr.four {h₀ h : Heap} {L : Addr} {M : Str → Option Value} (F : Fr h₀ L h M) (a b c d : Str) {va vb vc vd : Value} (ha : M a = some va) (hb : M b = some vb) (hc : M c = some vc) (hd : M d = some vd) :
    Fr h₀ L h (fun y => if y = a then some va else if y = b then some vb else if y = c then some vc else if y = d then some vd else M y) := by
  have e : (fun y => if y = a then some va else if y = b then some vb else if y = c then some vc else if y = d then some vd else M y) = M := by
    funext y
    by_cases h1 : y = a
    · rw [if_pos h1, h1, ha]
    · rw [if_neg h1]
      by_cases h2 : y = b
      · rw [if_pos h2, h2, hb]
      · rw [if_neg h2]
        by_cases h3 : y = c
        · rw [if_pos h3, h3, hc]
        · rw [if_neg h3]
          by_cases h4 : y = d
          · rw [if_pos h4, h4, hd]
          · rw [if_neg h4]
  rw [e]; exact F
@[reducible] noncomputable def bB9t3 : List Stmt := by
  refine (⟨?b, ?h⟩ : {b : List Stmt // b = bB9.drop 8}).1
  case h => conv => rhs; whnf
@[reducible] noncomputable def bB9t2 : List Stmt := by
  refine (⟨?b, ?h⟩ : {b : List Stmt // b = bB9.drop 6}).1
  case h => conv => rhs; whnf
noncomputable abbrev emMap (lw : Addr) (y : Str) (ty : CbTok) (i j : Int) (ti tj : CbTok) (m : Str → Option Value) : Str → Option Value :=
  fun z => if z = Str.ofString "ws" then some (.ref lw) else if z = Str.ofString "got" then some (.str y ty) else if z = Str.ofString "startpos" then some (.int i ti) else if z = Str.ofString "endpos" then some (.int j tj) else m z
theorem em_tail3 (w : World) (y : Str) (ty ti tj : CbTok) (l : List (Str × Tok)) (i j : Int) (dp un : Nat) (gd : Option (List Code)) (cn : Str) (cs : Scope) (a : Addr) (ccd : Value) (cl : List (Str × Addr)) (outer : List Env) (base h₀ : Heap) (L L' lw : Addr) (m : Str → Option Value) (nn : Nat)
    (mean : ExcName → Option Value) (mg mb : Str → Option Value) (s : Shared) (news : List (Addr × Obj)) (q : Flow → Shared → Prop) (ek : Value → Shared → Prop)
    (B : Below ((ktrTop dp un gd cn cs L a ccd cl outer)) base (envX cn cs L a ccd cl :: outer) h₀) (F : Fr h₀ L' s.heap (emMap lw y ty i j ti tj m))
    (N : News h₀ L' s.heap ((lw, listOf (strValues l).toArray nn) :: news))
    (X : (KK w.params).In h₀) (T : Top vw Mine.lw mean mg mb h₀) (hl : ∀ p ∈ l, p.1.length ≤ 40) (hy : y.length ≤ 16) (hd : dp + 4 < recursionLimit) (hu : un + 30 < cLine)
    (hret : ∀ (h' : Heap) (tk' : Nat), (∀ b o, h₀.get? b = some o → h'.get? b = some o) → q (.ret (.bool (em3 y (l.map (·.1)) i j))) { s with heap := h', toks := tk' }) :
    wpAny (model pw w) ((ktrTop dp un gd cn cs L a ccd cl outer).deeper (envOf (Str.ofString "_ellipsis_match") bS9 L' 63 (.ref 62)))
      (execs bB9t3 (envOf (Str.ofString "_ellipsis_match") bS9 L' 63 (.ref 62))) q ek s := by
  iterate 8 (first | walk1 | (dsimp only; walk1))
  · iterate 3 (first | walk1 | (dsimp only; walk1))
    have e9 : em3 y (l.map (·.1)) i j = _ := if_pos (by omega)
    rw [e9] at hret
    exact hret _ _ (Fr.keep (by assumption))
  · have e9 : em3 y (l.map (·.1)) i j = emL y j (l.map (·.1)) i := if_neg (by omega)
    rw [e9] at hret
    iterate 2 (first | walk1 | (dsimp only; walk1))
    rename Fr _ _ _ _ => F6; rename News _ _ _ _ => N6; rename Below _ _ _ _ => B6; rename Frag.In _ _ => X6; rename Top _ _ _ _ _ _ => T6
    refine For_list ?_ (x := Str.ofString "w") (env := envOf (Str.ofString "_ellipsis_match") bS9 L' 63 (.ref 62)) (h₀ := h₀) (lo := listOf (strValues l).toArray nn) (vs := strValues l) (nn := nn) (fun n m₁ news₁ => news₁ = (lw, listOf (strValues l).toArray nn) :: news ∧ ∃ (k : Int) (tk : CbTok) (wv : Option Value),
      m₁ = (fun z => if z = Str.ofString "startpos" then some (.int k tk) else if z = Str.ofString "w" then wv else emMap lw y ty i j ti tj m z) ∧ emL y j ((l.map (·.1)).drop n) k = emL y j (l.map (·.1)) i)
      ?_ ?_ ?_ F6 N6 (List.mem_cons_self ..) ?_ ?_ ?_ ?_ ?_
    · walk1
      exact ⟨rfl, rfl⟩
    · exact rfl
    · exact rfl
    · exact rfl
    · exact rfl
    · exact rfl
    · refine ⟨rfl, i, ti, emMap lw y ty i j ti tj m (Str.ofString "w"), ?_, by rw [List.drop_zero]⟩
      funext z
      by_cases h1 : z = Str.ofString "startpos"
      · subst h1; rfl
      · rw [if_neg h1]
        by_cases h2 : z = Str.ofString "w"
        · rw [if_pos h2, h2]
        · rw [if_neg h2]
    · rintro n v m₁ news₁ h tk I o hv ⟨rfl, k, tk1, wv, rfl, hk⟩ hne hlm hoc F7 N7
      clear F6 N6
      obtain ⟨p, hp, rfl⟩ : ∃ p, l[n]? = some p ∧ v = Value.str p.1 p.2 := by
        simp only [strValues, List.getElem?_map, Option.map_eq_some_iff] at hv
        obtain ⟨p, hp, e⟩ := hv
        exact ⟨p, hp, e.symm⟩
      have hd9 : (l.map (·.1)).drop n = p.1 :: (l.map (·.1)).drop (n + 1) := by
        have := List.drop_eq_getElem_cons (l := l.map (·.1)) (i := n) (by
          have := List.getElem?_eq_some_iff.mp hp
          simpa using this.1)
        rw [this]
        obtain ⟨h1, h2⟩ := List.getElem?_eq_some_iff.mp hp
        simp [h2]
      rw [hd9] at hk
      have hp40 : p.1.length ≤ 40 := hl p (List.mem_of_getElem? hp)
      iterate 13 (first | walk1 | (dsimp only; walk1))
      refine call_find4 ?_
      simp only [emL] at hk
      generalize find4 y p.1 k j = fd at hk ⊢
      iterate 10 (first | walk1 | (dsimp only; walk1))
      · iterate 4 (first | walk1 | (dsimp only; walk1))
        rw [if_pos (by assumption)] at hk
        rw [← hk] at hret
        exact hret _ _ (Fr.keep (by assumption))
      · rw [if_neg (by assumption)] at hk
        iterate 14 (first | walk1 | (dsimp only; walk1))
        rename Fr _ _ _ _ => F5; rename News _ _ _ _ => N5
        refine wpAny_execs_nil ?_
        refine TurnEnd.mk F5 N5 hne (List.mem_cons_self ..) ?_
        refine ⟨rfl, fd + p.1.length, ?tk9, some (.str p.1 p.2), ?_, hk⟩
        rotate_left
        · funext z
          by_cases h1 : z = Str.ofString "startpos"
          · rw [if_pos h1, if_pos h1]
          · rw [if_neg h1, if_neg h1, if_neg h1]
            by_cases h2 : z = Str.ofString "w"
            · rw [if_pos h2, if_pos h2]
            · rw [if_neg h2, if_neg h2]; exact (if_neg h1).trans (if_neg h2)
    · rintro m₁ news₁ h tk ⟨rfl, k, tk1, wv, rfl, hk⟩ F7 N7
      clear F6 N6
      have e8 : emL y j (l.map (·.1)) i = true := by
        rw [← hk]
        have : (l.map (·.1)).drop (strValues l).length = [] := by simp [strValues]
        rw [this]; rfl
      rw [e8] at hret
      dsimp only
      iterate 3 (first | walk1 | (dsimp only; walk1))
      exact hret _ _ (Fr.keep (by assumption))
end Mine
end
section
open PySem PySem.W PyProof.Rows PySem.Spec PySem.Calls PyProof.V PySem.Builtin.Str
namespace Mine

theorem delL_last (v : Value) : ∀ l : List Value, ki_delL (l ++ [v]) l.length = some l
  | [] => rfl
  | x :: r => by
    show ki_delL (x :: (r ++ [v])) (r.length + 1) = _
    rw [ki_delL, delL_last v r]
theorem em_tail2 (w : World) (y : Str) (ty ti tj : CbTok) (l : List (Str × Tok)) (i : Int) (dp un : Nat) (gd : Option (List Code)) (cn : Str) (cs : Scope) (a : Addr) (ccd : Value) (cl : List (Str × Addr)) (outer : List Env) (base h₀ : Heap) (L L' lw : Addr) (m : Str → Option Value) (nn : Nat)
    (mean : ExcName → Option Value) (mg mb : Str → Option Value) (s : Shared) (news : List (Addr × Obj)) (q : Flow → Shared → Prop) (ek : Value → Shared → Prop)
    (B : Below ((ktrTop dp un gd cn cs L a ccd cl outer)) base (envX cn cs L a ccd cl :: outer) h₀) (F : Fr h₀ L' s.heap (emMap lw y ty i y.length ti tj m))
    (N : News h₀ L' s.heap ((lw, listOf (strValues l).toArray nn) :: news)) (hnw : ∀ p ∈ news, p.1 ≠ lw)
    (X : (KK w.params).In h₀) (T : Top vw Mine.lw mean mg mb h₀) (hl : ∀ p ∈ l, p.1.length ≤ 40) (hl0 : l ≠ []) (hlen : l.length ≤ 100) (hy : y.length ≤ 16) (hd : dp + 4 < recursionLimit) (hu : un + 30 < cLine)
    (hret : ∀ (h' : Heap) (tk' : Nat), (∀ b o, h₀.get? b = some o → h'.get? b = some o) → q (.ret (.bool (em2 y (l.map (·.1)) i))) { s with heap := h', toks := tk' }) :
    wpAny (model pw w) ((ktrTop dp un gd cn cs L a ccd cl outer).deeper (envOf (Str.ofString "_ellipsis_match") bS9 L' 63 (.ref 62)))
      (execs bB9t2 (envOf (Str.ofString "_ellipsis_match") bS9 L' 63 (.ref 62))) q ek s := by
  obtain ⟨l', ⟨wl, tl⟩, rfl⟩ : ∃ l' p, l = l' ++ [p] := ⟨l.dropLast, l.getLast hl0, (List.dropLast_concat_getLast hl0).symm⟩
  have e9 : (l' ++ [(wl, tl)]).map (·.1) = l'.map (·.1) ++ [wl] := by simp
  have e8 : em2 y ((l' ++ [(wl, tl)]).map (·.1)) i = if (wl.length : Int) ≠ 0 then (if Txt.endswith y wl then em3 y (l'.map (·.1)) i (y.length - wl.length) else false) else em3 y (l'.map (·.1) ++ [wl]) i y.length := by
    rw [e9, em2, List.getLast?_concat, List.dropLast_concat]
  rw [e8] at hret
  have hw : wl.length ≤ 40 := hl (wl, tl) (by simp)
  iterate 7 (first | walk1 | (dsimp only; walk1))
  rename Fr _ _ _ _ => F6; rename News _ _ _ _ => N6
  refine kim_back (x := .str wl tl) N6 (List.mem_cons_self ..) rfl rfl (by decide) ?_ (by decide) ?_ ?_
  · simp [strValues]; omega
  · have e7 : ((-1 : Int) + ((strValues (l' ++ [(wl, tl)])).length : Int)).toNat = l'.length := by simp [strValues]; omega
    rw [e7]; simp [strValues]
  iterate 5 (first | walk1 | (dsimp only; walk1))
  refine PySem.P.truthy_str (by omega) ?_
  by_cases hz : (wl.length : Int) ≠ 0
  · have hz' : ((wl.length : Int) != 0) = true := by simpa using hz
    rw [if_pos hz] at hret
    rw [hz']
    simp only [if_true]
    iterate 13 (first | walk1 | (dsimp only; walk1))
    · iterate 22 (first | walk1 | (dsimp only; walk1))
      rename Txt.endswith y wl = true => hf
      rw [if_pos hf] at hret
      rename Fr _ _ _ _ => F4; rename News _ _ _ _ => N4
      have hsz : (strValues (l' ++ [(wl, tl)])).toArray.size = l'.length + 1 := by simp [strValues]
      refine ki_del (q := strValues l') (k := l'.length) F4 N4 rfl ?_ ?_ (Upd.head hnw) ?_ ?_
      · rw [PySem.seqIndex_neg (by decide) (by rw [hsz]; omega), hsz]
        congr 1; omega
      · have := delL_last (.str wl tl) (strValues l')
        simpa [strValues] using this
      · have : (strValues (l' ++ [(wl, tl)])).toArray.toList.length = l'.length + 1 := by simp [strValues]
        rw [this]; unfold sizeLine
        have : l'.length + 1 ≤ 100 := by simpa using hlen
        omega
      intro h8 F8 N8
      iterate 3 (first | walk1 | (dsimp only; walk1))
      exact em_tail3 w y ty ti _ l' i (y.length - wl.length) dp un gd cn cs a ccd cl outer base h₀ L L' lw _ (nn + 1) mean mg mb _ news q ek B (Fr.four F8 (Str.ofString "ws") (Str.ofString "got") (Str.ofString "startpos") (Str.ofString "endpos") rfl rfl rfl rfl) N8 X T (fun p hp => hl p (List.mem_append_left _ hp)) hy hd hu hret
    · iterate 4 (first | walk1 | (dsimp only; walk1))
      rename Txt.endswith y wl = false => hf
      rw [hf] at hret
      simp only [Bool.false_eq_true, if_false] at hret
      exact hret _ _ (Fr.keep (by assumption))
  · have hz' : ((wl.length : Int) != 0) = false := by simpa using hz
    rw [if_neg hz] at hret
    rw [hz']
    simp only [Bool.false_eq_true, if_false]
    iterate 1 (first | walk1 | (dsimp only; walk1))
    rename Fr _ _ _ _ => F5; rename News _ _ _ _ => N5
    refine em_tail3 w y ty ti tj (l' ++ [(wl, tl)]) i y.length dp un gd cn cs a ccd cl outer base h₀ L L' lw _ nn mean mg mb _ news q ek B (Fr.four F5 (Str.ofString "ws") (Str.ofString "got") (Str.ofString "startpos") (Str.ofString "endpos") rfl rfl rfl rfl) N5 X T hl hy hd hu ?_
    rw [e9]; exact hret
end Mine
end
section
open PySem PySem.W PyProof.Rows PySem.Spec PySem.Calls PyProof.V PySem.Builtin.Str
namespace Mine

theorem newsSwap {h₀ h : Heap} {L : Addr} {a b : Addr × Obj} (N : News h₀ L h [a, b]) : News h₀ L h [b, a] := fun p hp => N p (by
  rcases List.mem_cons.mp hp with rfl | hp
  · exact List.mem_cons_of_mem _ (List.mem_cons_self ..)
  · rw [List.mem_singleton] at hp; subst hp; exact List.mem_cons_self ..)
theorem p_em (w : World) (x y : Str) (tx ty : CbTok) : PC 6 40 w 63 (x.length ≤ 40 ∧ y.length ≤ 16 ∧ ((occurrences x (Str.ofString "...") 0 x.length 1).isEmpty = true ∨ (2 ≤ (Txt.split x (Str.ofString "...")).length ∧ (Txt.split x (Str.ofString "...")).length ≤ 100))) [.str x tx, .str y ty] (fun t => .bool (EM x y)) := by
  intro dp un gd cn cs a ccd cl outer A₀ base h₀ L m mean mg mb s Q E B F X T hk pre hd hu hret
  refine wpAny_call ?_
  k_dflt (refine' code_keeps ?k1 ?k2 ?k3 ?k5 ?kA ?kF ?kK ?k6 ?k7 ?k8 ?k9 ?kB ?_ ?c2 ?c3 ?c4 ?c5; (case kA => exact rfl); (case kF => exact rfl); (case kK => assumption); (case k1 => k_asm); (case k2 => k_asm); (case k3 => k_asm); (case k5 => k_asm); (case k6 => k_is); (case k7 => k_is); (case k8 => ktr_room); (case k9 => exact BindsTo.of_eq rfl); (case c5 => decide); (case kB => exact locs rfl); (case c2 => exact rfl); (case c3 => exact rfl); (case c4 => exact rfl); k_whole; intro L' h' F' N' B' X' T'; (try dsimp only); (try k_lift B'); (try k_fold))
  obtain ⟨hx, hy, hsp⟩ := pre
  iterate 9 (first | walk1 | (dsimp only; walk1))
  cases ho : (occurrences x (Str.ofString "...") 0 x.length 1).isEmpty
  · have eM : EM x y = em1 y (Txt.split x (Str.ofString "...")) := by unfold EM; rw [ho]; rfl
    have hsp1 := hsp.resolve_left (by simp [ho])
    simp only [Bool.not_false, if_true]
    iterate 27 (first | walk1 | (dsimp only; walk1))
    · rename List (Str × Tok) => l9
      rename List.map _ l9 = Txt.split x _ => hlk
      rename ∀ a : Str, _ → a.length ≤ x.length => hlen
      rw [← hlk] at hsp1 eM
      rw [List.length_map] at hsp1
      obtain ⟨⟨w0, t0⟩, r9, rfl⟩ : ∃ p r, l9 = p :: r := by
        cases l9 with
        | nil => simp at hsp1
        | cons p r => exact ⟨p, r, rfl⟩
      have hl40 : ∀ p ∈ (w0, t0) :: r9, p.1.length ≤ 40 := fun p hp => Nat.le_trans (hlen p.1 (List.mem_map_of_mem hp)) hx
      have hw0 : w0.length ≤ 40 := hl40 (w0, t0) (List.mem_cons_self ..)
      iterate 29 (first | walk1 | (dsimp only; walk1))
      rename Fr _ _ _ _ => F6; rename News _ _ _ _ => N6; rename Below _ _ _ _ => B6; rename Frag.In _ _ => X6; rename Top _ _ _ _ _ _ => T6
      rename _ < _ => lt9
      refine kim_list (x := .str w0 t0) N6 (List.mem_cons_of_mem _ (List.mem_cons_self ..)) rfl rfl (by decide) (by decide) rfl ?_
      iterate 5 (first | walk1 | (dsimp only; walk1))
      refine PySem.P.truthy_str (by omega) ?_
      by_cases hz : (w0.length : Int) ≠ 0
      · have hz' : ((w0.length : Int) != 0) = true := by simpa using hz
        have eM2 : EM x y = if Txt.startswith y w0 then em2 y (r9.map (·.1)) w0.length else false := eM.trans (if_pos hz)
        rw [hz']
        simp only [if_true]
        iterate 13 (first | walk1 | (dsimp only; walk1))
        · rename Txt.startswith y w0 = true => hf
          rw [if_pos hf] at eM2
          iterate 18 (first | walk1 | (dsimp only; walk1))
          rename Fr _ _ _ _ => F4; rename News _ _ _ _ => N4
          refine ki_del (q := strValues r9) (k := 0) F4 N4 rfl ?_ ?_ (Upd.tail (Nat.ne_of_gt lt9) (Upd.head (fun p hp => by cases hp))) ?_ ?_
          · simp [strValues, seqIndex?]
          · simp [strValues, ki_delL]
          · have : (strValues ((w0, t0) :: r9)).toArray.toList.length = r9.length + 1 := by simp [strValues]
            rw [this]; unfold sizeLine
            have h100 := hsp1.2
            simp only [List.length_map, List.length_cons] at h100
            omega
          intro h8 F8 N8
          iterate 3 (first | walk1 | (dsimp only; walk1))
          simp only [eM2] at hret
          refine em_tail2 w y ty _ _ r9 w0.length dp un gd cn cs a ccd cl outer base _ L _ _ _ 1 mean mg mb _ _ _ _ B6 (Fr.four F8 (Str.ofString "ws") (Str.ofString "got") (Str.ofString "startpos") (Str.ofString "endpos") rfl rfl rfl rfl) (newsSwap N8) ?_ X6 T6 (fun p hp => hl40 p (List.mem_cons_of_mem _ hp)) ?_ (by have := hsp1.2; simp only [List.length_map, List.length_cons] at this; omega) hy (by omega) (by omega) (fun h' tk' hk' => hret 0 _ _ hk')
          · intro p hp; rw [List.mem_singleton] at hp; subst hp; exact Nat.ne_of_gt lt9
          · intro e; subst e; simp at hsp1
        · rename Txt.startswith y w0 = false => hf
          rw [hf] at eM2
          simp only [Bool.false_eq_true, if_false] at eM2
          iterate 4 (first | walk1 | (dsimp only; walk1))
          simp only [eM2] at hret
          exact hret 0 _ _ (Fr.keep (by assumption))
      · have hz' : ((w0.length : Int) != 0) = false := by simpa using hz
        have eM2 : EM x y = em2 y (((w0, t0) :: r9).map (·.1)) 0 := eM.trans (if_neg hz)
        rw [hz']
        simp only [Bool.false_eq_true, if_false]
        iterate 1 (first | walk1 | (dsimp only; walk1))
        rename Fr _ _ _ _ => F5; rename News _ _ _ _ => N5
        simp only [eM2] at hret
        refine em_tail2 w y ty _ _ ((w0, t0) :: r9) 0 dp un gd cn cs a ccd cl outer base _ L _ _ _ 0 mean mg mb _ _ _ _ B6 (Fr.four F5 (Str.ofString "ws") (Str.ofString "got") (Str.ofString "startpos") (Str.ofString "endpos") rfl rfl rfl rfl) (newsSwap N5) ?_ X6 T6 hl40 (by simp) (by have := hsp1.2; omega) hy (by omega) (by omega) (fun h' tk' hk' => hret 0 _ _ hk')
        intro p hp; rw [List.mem_singleton] at hp; subst hp; exact Nat.ne_of_gt lt9
    · exfalso
      rename List (Str × Tok) => l9
      rename List.map _ l9 = Txt.split x _ => hlk
      rw [← hlk, List.length_map] at hsp1
      omega
  · have eM : EM x y = (x == y) := by unfold EM; rw [ho]; rfl
    simp only [Bool.not_true, Bool.false_eq_true, if_false]
    iterate 6 (first | walk1 | (dsimp only; walk1))
    simp only [eM] at hret
    exact hret 0 _ _ (Fr.keep (by assumption))
end Mine
end
section
open PySem PySem.W PyProof.Rows PySem.Spec PySem.Calls PyProof.V
namespace Mine
section
variable {prog : Program} {w : World} {M : Model} {A : Around} {s : Shared}
theorem check_sub {owner n id : String} {x C : Addr} {ox : Obj} {rest : List Value} {Q : Unit → Shared → Prop} {E : Value → Shared → Prop} (hsplit : splitId id = some (owner, n)) (hk : builtinKind id = some .method ∨ builtinKind id = some .slot)
    (ho : s.heap.get? x = some ox) (hc : ox.cls = .ref C) (hsub : Looks M s.heap (isSubtype (.ref C) (.type owner)) true) (ha : argsOk id ⟨.ref x :: rest, []⟩) (hQ : Q () s) :
    wpAny M A (checkBuiltinCall id ⟨.ref x :: rest, []⟩) Q E s := by
  rcases hk with h | h <;>
  · simp only [checkBuiltinCall, h, hsplit]
    refine wpAny_bind (wpAny_bind (wpAny_bind (wpAny_load ho (wpAny_pure ?_))))
    rw [hc]
    refine hsub.here ?_
    simp only [Bool.not_true, Bool.false_eq_true, if_false]
    cases hsig : Manifest.signature? id with
    | none => exact wpAny_pure hQ
    | some sig =>
      simp only [argsOk, hsig] at ha
      have h2 : Bind.checkArgs id sig ⟨.ref x :: rest, []⟩ = pure () := ha
      show wpAny M A (Bind.checkArgs id sig ⟨.ref x :: rest, []⟩) Q E s
      rw [h2]; exact wpAny_pure hQ
theorem append_sub {x C : Addr} {dx : Option Addr} {its : Array Value} {n : Nat} {sl : Array (Option Value)} {v : Value} {Q : Value → Shared → Prop} {E : Value → Shared → Prop}
    (ho : s.heap.get? x = some ⟨.ref C, dx, .seq its n, sl⟩) (hsub : Looks (model prog w) s.heap (isSubtype (.ref C) (.type "list")) true) (hz : its.size + 1 ≤ 1000)
    (hQ : Q .none { s with heap := s.heap.update x (Obj.mapSeq (·.push v)) }) : wpAny (model prog w) A (call (.builtin "list.append") [.ref x, v]) Q E s := by
  refine wpAny_call (codeAny_call_builtin (by decide +kernel) PySem.F.entry_list_append (check_sub (owner := "list") (n := "append") (by decide +kernel) (.inl (by decide +kernel)) ho rfl hsub (PySem.F.args_list_append_2 _ _) ?_))
  show wpAny _ _ (Builtin.List.listUpdate (.ref x) (·.push v) >>= fun _ => ret .none) _ _ s
  exact wpAny_bind (wpAny_updateSeq ho rfl (wpAny_pure hQ) (by unfold sizeLine; omega) (by rw [Array.size_push]; unfold sizeLine; omega))
theorem pop_sub {x C : Addr} {dx : Option Addr} {l : List Value} {n : Nat} {sl : Array (Option Value)} {v : Value} {Q : Value → Shared → Prop} {E : Value → Shared → Prop}
    (ho : s.heap.get? x = some ⟨.ref C, dx, .seq (l ++ [v]).toArray n, sl⟩) (hsub : Looks (model prog w) s.heap (isSubtype (.ref C) (.type "list")) true) (hz : l.length + 1 ≤ 1000)
    (hQ : Q v { s with heap := s.heap.update x (Obj.mapSeq (·.eraseIdxIfInBounds l.length)) }) : wpAny (model prog w) A (call (.builtin "list.pop") [.ref x]) Q E s := by
  refine wpAny_call (codeAny_call_builtin (by decide +kernel) PySem.F.entry_list_pop (check_sub (owner := "list") (n := "pop") (by decide +kernel) (.inl (by decide +kernel)) ho rfl hsub (PySem.F.args_list_pop_1 _) ?_))
  have hidx : seqIndex? (-1) (l ++ [v]).toArray.size = some l.length := by
    rw [PySem.seqIndex_neg (by decide) (by simp; omega)]
    simp; omega
  have hx : (l ++ [v]).toArray[l.length]? = some v := by simp
  show wpAny _ _ (Builtin.List.listItems (.ref x) >>= fun xs => _) _ _ s
  unfold Builtin.List.listItems
  refine wpAny_bind (wpAny_bind (wpAny_seqItems ho rfl (wpAny_pure ?_)))
  have hne : (l ++ [v]).toArray.isEmpty = false := by simp
  simp only [hne, hidx, Option.bind_some, hx, Option.map_some, Bool.false_eq_true, if_false]
  exact wpAny_bind (wpAny_updateSeq ho rfl (wpAny_pure hQ) (by simp; unfold sizeLine; omega) (by
    have : ((l ++ [v]).toArray.eraseIdxIfInBounds l.length).size ≤ l.length + 1 := by
      have h1 := List.length_eraseIdx_le (l ++ [v]) l.length
      simp only [List.length_append, List.length_singleton] at h1
      simpa using h1
    unfold sizeLine; omega))
theorem len_sub {x C : Addr} {dx : Option Addr} {its : Array Value} {n : Nat} {sl : Array (Option Value)} {Q : Value → Shared → Prop} {E : Value → Shared → Prop}
    (ho : s.heap.get? x = some ⟨.ref C, dx, .seq its n, sl⟩) (hsub : Looks (model prog w) s.heap (isSubtype (.ref C) (.type "list")) true) (hz : its.size ≤ 1000)
    (hQ : Q (.int its.size s.toks) { s with toks := s.toks + 1 }) : wpAny (model prog w) A (call (.builtin "list.__len__") [.ref x]) Q E s := by
  refine wpAny_call (codeAny_call_builtin (by decide +kernel) PySem.F.entry_list_len (check_sub (owner := "list") (n := "__len__") (by decide +kernel) (.inr (by decide +kernel)) ho rfl hsub (PySem.F.args_list_len_1 _) ?_))
  show wpAny _ _ (seqSize x >>= fun k => retInt k) _ _ s
  unfold seqSize retInt
  refine wpAny_bind (wpAny_bind (wpAny_loadPart ho ?_))
  exact wpAny_pure (wpAny_bind (wpAny_mkInt (wpAny_pure hQ)))
end
end Mine
end
section
open PySem PySem.W PyProof.Rows PySem.Spec PySem.Calls PyProof.V
namespace Mine
section
variable {prog : Program} {w : World} {A : Around} {E : Value → Shared → Prop} {s : Shared} {K : Frag} {x C : Addr} {ox : Obj} {od : Option Obj} {name : Str} {pl : Sem Bool}
theorem method_any {ga : String} {v ty : Value} {Q : Value × List Value → Shared → Prop} (X : K.In s.heap) (I : InstAt s.heap x ox C od) (hga : findIn K (.ref C) "__getattribute__" = some (some (.builtin ga))) (hcan : (Manifest.canonical ga != "object.__getattribute__") = false) (hk : findIn K (.ref C) "__getattr__" = some none)
    (hf : findIn K (.ref C) name = some (some v)) (ht : Looks (model prog w) s.heap (typeOf v) ty) (hty : (ty != .type "function" && ty != .type "method_descriptor" && ty != .type "wrapper_descriptor") = false) (hs : shadowIn od name = some false) (h : Q (v, [.ref x]) s) :
    wpAny (model prog w) A (getMethod (.ref x) name pl) Q E s := by
  unfold getMethod specialOf
  refine wpAny_bind (wpAny_bind (I.type.here ((looks_findIn X hga).here ?_)))
  dsimp only
  rw [hcan, if_neg (by decide)]
  refine wpAny_bind (wpAny_bind (I.type.here ((looks_findIn X hk).here ?_)))
  refine wpAny_bind (wpAny_bind (I.type.here ((looks_findIn X hf).here (wpAny_bind (ht.here ?_)))))
  rw [hty, if_neg (by decide)]
  refine wpAny_bind (wpAny_loadPart I.at_ ?_)
  have hd := I.dict
  cases e : ox.dict with
  | none => exact wpAny_bind (wpAny_rule (wpAny_pure h))
  | some dx =>
    cases od with
    | none => rw [e] at hd; exact hd.elim
    | some o =>
      rw [e] at hd
      obtain ⟨r, a, b⟩ := Option.map_eq_some_iff.mp hs
      refine wpAny_bind (wpAny_bind (wpAny_loadPart hd ?_))
      rw [nsLook_of a]
      refine wpAny_pure ?_
      rw [b]
      exact wpAny_bind (wpAny_rule (wpAny_pure h))
theorem looks_val {M : Model} {h : Heap} {α : Type} {t : Sem α} {v : α} (e : t = pure v) : Looks M h t v := by
  intro A Q E s hs hq
  exact wpAny_of_eq e hq
theorem can_list : (Manifest.canonical "list.__getattribute__" != "object.__getattribute__") = false := by decide +kernel
end
section
variable {prog : Program} {w : World} {A : Around} {E : Value → Shared → Prop} {h : Heap} {g : Array GenState} {d : Drawn} {t : Nat} {os : OsState}
theorem slot_md_get : Slot "method_descriptor" "__get__" "method_descriptor.__get__" := .of (owner := "method_descriptor") (n := "__get__") (by rw [typeLookup_type, builtinLookup_eq_fast]; kernel_rfl) (by decide +kernel) (by decide +kernel) (by decide +kernel)
  (by first | exact .inl (by decide +kernel) | exact .inr (by decide +kernel)) (by rw [isSubtype_type]; kernel_rfl)
theorem entry_md_get : entryFor table "method_descriptor.__get__" = some Builtin.«method_descriptor.__get__» := entryFor_of_tree (by kernel_rfl)
theorem args_md_get (a b c : Value) : argsOk "method_descriptor.__get__" ⟨[a, b, c], []⟩ := by unfold argsOk; kernel_rfl
theorem slot_wd_get : Slot "wrapper_descriptor" "__get__" "wrapper_descriptor.__get__" := .of (owner := "wrapper_descriptor") (n := "__get__") (by rw [typeLookup_type, builtinLookup_eq_fast]; kernel_rfl) (by decide +kernel) (by decide +kernel) (by decide +kernel)
  (by first | exact .inl (by decide +kernel) | exact .inr (by decide +kernel)) (by rw [isSubtype_type]; kernel_rfl)
theorem entry_wd_get : entryFor table "wrapper_descriptor.__get__" = some Builtin.«wrapper_descriptor.__get__» := entryFor_of_tree (by kernel_rfl)
theorem args_wd_get (a b c : Value) : argsOk "wrapper_descriptor.__get__" ⟨[a, b, c], []⟩ := by unfold argsOk; kernel_rfl
theorem type_len : typeOf (.builtin "list.__len__") = pure (.type "wrapper_descriptor") := by show builtinType _ = _; rw [builtinType_eq_fast]; kernel_rfl
theorem cut_pop : "list.pop".cutAt '.' = ["list", "pop"] := by decide +kernel
theorem cut_len : "list.__len__".cutAt '.' = ["list", "__len__"] := by decide +kernel
theorem inst_sub {x C : Addr} {ox : Obj} {s : Shared} {Q : Bool → Shared → Prop} (hx : s.heap.get? x = some ox) (hc : ox.cls = .ref C) (hsub : Looks (model prog w) s.heap (isSubtype (.ref C) (.type "list")) true) (hq : Q true s) :
    wpAny (model prog w) A (isInstance (.ref x) (.type "list")) Q E s := by
  unfold isInstance
  simp only [typeOf]
  refine wpAny_bind (wpAny_bind (wpAny_load hx (wpAny_pure ?_)))
  rw [hc]
  exact hsub.here hq
theorem type_init : typeOf (.builtin "list.__init__") = pure (.type "wrapper_descriptor") := by show builtinType _ = _; rw [builtinType_eq_fast]; kernel_rfl
theorem cut_init : "list.__init__".cutAt '.' = ["list", "__init__"] := by decide +kernel
theorem md_get_pop {x C : Addr} {ox : Obj} {Q : Fin → Shared → Prop} (hx : h.get? x = some ox) (hc : ox.cls = .ref C) (hsub : Looks (model prog w) h (isSubtype (.ref C) (.type "list")) true)
    (hq : Q (.done (.ret (.ref h.objs.size))) ⟨h.push { cls := .type "builtin_function_or_method", data := .fields #[.builtin "list.pop", .ref x] }, g, d, t, os⟩) :
    wpAny (model prog w) A (Builtin.«method_descriptor.__get__» ⟨[.builtin "list.pop", .ref x, .ref C], []⟩) Q E ⟨h, g, d, t, os⟩ := by
  have told : Manifest.toldItsClass.contains "list.pop" = false := by decide +kernel
  unfold Builtin.«method_descriptor.__get__»
  refine wpAny_bind (wpAny_of_eq (a := (Value.builtin "list.pop", some (Value.ref x), some (Value.ref C))) rfl ?_)
  dsimp only
  rw [told]
  simp only [Bool.false_eq_true, if_false]
  refine wpAny_bind ?_
  refine wpAny_bind ?_
  refine wpAny_pure ?_
  rw [cut_pop]
  refine wpAny_bind (inst_sub hx hc hsub ?_)
  simp only [Bool.not_true, Bool.false_eq_true, if_false]
  refine wpAny_pure ?_
  unfold newFields
  exact wpAny_bind (wpAny_newObj_type (wpAny_pure hq) (by size_fits))
theorem wd_get_len {x C : Addr} {ox : Obj} {Q : Fin → Shared → Prop} (hx : h.get? x = some ox) (hc : ox.cls = .ref C) (hsub : Looks (model prog w) h (isSubtype (.ref C) (.type "list")) true)
    (hq : Q (.done (.ret (.ref h.objs.size))) ⟨h.push { cls := .type "method-wrapper", data := .fields #[.builtin "list.__len__", .ref x] }, g, d, t, os⟩) :
    wpAny (model prog w) A (Builtin.«wrapper_descriptor.__get__» ⟨[.builtin "list.__len__", .ref x, .ref C], []⟩) Q E ⟨h, g, d, t, os⟩ := by
  unfold Builtin.«wrapper_descriptor.__get__»
  refine wpAny_bind (wpAny_of_eq (a := (Value.builtin "list.__len__", some (Value.ref x), some (Value.ref C))) rfl ?_)
  dsimp only
  refine wpAny_bind ?_
  refine wpAny_bind ?_
  refine wpAny_pure ?_
  rw [cut_len]
  refine wpAny_bind (inst_sub hx hc hsub ?_)
  simp only [Bool.not_true, Bool.false_eq_true, if_false]
  refine wpAny_pure ?_
  unfold newFields
  exact wpAny_bind (wpAny_newObj_type (wpAny_pure hq) (by size_fits))
theorem wd_get_init {x C : Addr} {ox : Obj} {Q : Fin → Shared → Prop} (hx : h.get? x = some ox) (hc : ox.cls = .ref C) (hsub : Looks (model prog w) h (isSubtype (.ref C) (.type "list")) true)
    (hq : Q (.done (.ret (.ref h.objs.size))) ⟨h.push { cls := .type "method-wrapper", data := .fields #[.builtin "list.__init__", .ref x] }, g, d, t, os⟩) :
    wpAny (model prog w) A (Builtin.«wrapper_descriptor.__get__» ⟨[.builtin "list.__init__", .ref x, .ref C], []⟩) Q E ⟨h, g, d, t, os⟩ := by
  unfold Builtin.«wrapper_descriptor.__get__»
  refine wpAny_bind (wpAny_of_eq (a := (Value.builtin "list.__init__", some (Value.ref x), some (Value.ref C))) rfl ?_)
  dsimp only
  refine wpAny_bind ?_
  refine wpAny_bind ?_
  refine wpAny_pure ?_
  rw [cut_init]
  refine wpAny_bind (inst_sub hx hc hsub ?_)
  simp only [Bool.not_true, Bool.false_eq_true, if_false]
  refine wpAny_pure ?_
  unfold newFields
  exact wpAny_bind (wpAny_newObj_type (wpAny_pure hq) (by size_fits))
/-- super().name, where the name is a builtin of list's -/
theorem super_ga {so D x C : Addr} {ox : Obj} {l₀ l : List Value} {K : Frag} {name : Str} {tk : Tok} {id cl : String} {Q : Fin → Shared → Prop}
    (hso : h.get? so = some { cls := .type "super", dict := none, data := .fields #[.ref D, .ref x, .ref C], slots := #[] }) (hno : Looks (model prog w) h (opaqueClassAbove (.ref C)) none)
    (hC : Looks (model prog w) h (mroOf (.ref C)) l₀) (hl : (l₀.dropWhile (· != .ref D)).drop 1 = l) (X : K.In h)
    (hf : alongIn K name l = some (some (.builtin id))) (hx : h.get? x = some ox) (hc : ox.cls = .ref C) (hsub : Looks (model prog w) h (isSubtype (.ref C) (.type "list")) true) (hxC : x ≠ C) (hn : (name == ("__class__" : Str)) = false)
    (hid : (id = "list.pop" ∧ cl = "builtin_function_or_method") ∨ (id = "list.__len__" ∧ cl = "method-wrapper") ∨ (id = "list.__init__" ∧ cl = "method-wrapper"))
    (hq : Q (.done (.ret (.ref h.objs.size))) ⟨h.push { cls := .type cl, data := .fields #[.builtin id, .ref x] }, g, d, t, os⟩) :
    wpAny (model prog w) A (Builtin.«super.__getattribute__» ⟨[.ref so, .str name tk], []⟩) Q E ⟨h, g, d, t, os⟩ := by
  have hne : (Value.ref x == Value.ref C) = false := by simp [hxC]
  have hdt : ({ cls := .type "super", dict := none, data := .fields #[.ref D, .ref x, .ref C], slots := #[] } : Obj).data = .fields #[.ref D, .ref x, .ref C] := rfl
  have f0 : (#[.ref D, .ref x, .ref C] : Array Value)[0]? = some (.ref D) := rfl
  have f1 : (#[.ref D, .ref x, .ref C] : Array Value)[1]? = some (.ref x) := rfl
  have f2 : (#[.ref D, .ref x, .ref C] : Array Value)[2]? = some (.ref C) := rfl
  have tp : typeOf (.builtin "list.pop") = pure (.type "method_descriptor") := PySem.F.type_list_pop
  have tl : typeOf (.builtin "list.__len__") = pure (.type "wrapper_descriptor") := type_len
  have ti : typeOf (.builtin "list.__init__") = pure (.type "wrapper_descriptor") := type_init
  have lp := slot_md_get.lookup
  have ll := slot_wd_get.lookup
  unfold Builtin.«super.__getattribute__»
  rcases hid with ⟨rfl, rfl⟩ | ⟨rfl, rfl⟩ | ⟨rfl, rfl⟩
  all_goals
    simp only [hn, hne, Bool.or_false, Bool.false_eq_true, if_false]
    iterate 7 wp_step
    simp only [hn, hne, Bool.or_false, Bool.false_eq_true, if_false]
    wp_step
    with_reducible refine wpAny_field hso hdt f0 ?_
    wp_step
    with_reducible refine wpAny_field hso hdt f1 ?_
    wp_step
    with_reducible refine wpAny_field hso hdt f2 ?_
    simp only [hn, hne, Bool.or_false, Bool.false_eq_true, if_false]
    iterate 2 wp_step
    with_reducible refine ks_wpAny_notOpaque hno ?_
    iterate 2 wp_step
    with_reducible refine Looks.at hC ?_; rw [hl]
    wp_step
    refine ks_forIn_along X (fun _ _ => rfl) rfl ?_ hf
    simp only [hn, hne, Bool.or_false, Bool.false_eq_true, if_false]
    wp_step
    first | (with_reducible refine wpAny_of_eq tp ?_) | (with_reducible refine wpAny_of_eq tl ?_) | (with_reducible refine wpAny_of_eq ti ?_)
    iterate 2 wp_step
    simp only [hn, hne, Bool.or_false, Bool.false_eq_true, if_false]
    wp_step
    first | (refine wpAny_call_entry slot_md_get (self := .builtin "list.pop") tp entry_md_get ?_ (args_md_get _ _ _)) | (refine wpAny_call_entry slot_wd_get (self := .builtin "list.__len__") tl entry_wd_get ?_ (args_wd_get _ _ _)) | (refine wpAny_call_entry slot_wd_get (self := .builtin "list.__init__") ti entry_wd_get ?_ (args_wd_get _ _ _))
    first | (with_reducible refine md_get_pop hx hc hsub ?_) | (with_reducible refine wd_get_len hx hc hsub ?_) | (with_reducible refine wd_get_init hx hc hsub ?_)
    with_reducible refine ⟨_, rfl, ?_⟩
    iterate 4 wp_step
    simp only [hn, hne, Bool.or_false, Bool.false_eq_true, if_false]
    wp_step
  all_goals exact hq
end
end Mine
end
section
open PySem PySem.W PyProof.Rows PySem.Spec PySem.Calls PyProof.V
namespace Mine
theorem mro_list (P : Params) : mroIn (KK P) 143 (.type "list") = some true := by k_is
theorem mro_module (P : Params) : mroIn (KK P) 143 (.type "module") = some false := by k_is
section
variable {prog : Program} {w : World} {A : Around} {E : Value → Shared → Prop} {P : Params} {s : Shared}
theorem pop_check {x : Addr} {ox : Obj} {Q : Unit → Shared → Prop} (X : (KK P).In s.heap) (hx : s.heap.get? x = some ox) (hc : ox.cls = .ref 143) (hnc : ∀ c, ox.data ≠ .cls c) (hQ : Q () s) :
    wpAny (model prog w) A (checkBoundCall "list.pop" ⟨[.ref x], []⟩) Q E s := by
  have hk : builtinKind "list.pop" = some .method := by decide +kernel
  have ho := X 143 _ rfl
  have hsig : (match Manifest.signature? "list.pop" with | some sig => Bind.checkArgs "list.pop" { sig with full := "_Accumulator.pop" } ⟨[.ref x], []⟩ | none => pure ()) = pure () := by
    rw [signature?_of (id := "list.pop") (n := ['p', 'o', 'p']) (o := ['t', 's', 'i', 'l']) (by kernel_rfl) PySem.F.owner_list]; kernel_rfl
  have va : Manifest.varargsMethods.contains "list.pop" = false := by decide +kernel
  have hm : (Manifest.AttrKind.method != .method && Manifest.AttrKind.method != .classMethod) = false := by decide
  have hn : ("" ++ toString ((Str.ofString "_Accumulator").toString) ++ "." ++ toString (Bind.lastOf "list.pop") ++ "") = "_Accumulator.pop" := by decide +kernel
  obtain ⟨hh, g, d, t, os⟩ := s
  cases hs : Manifest.signature? "list.pop" with
  | none => simp only [checkBoundCall, hs]; exact wpAny_pure hQ
  | some sig =>
    rw [hs] at hsig
    dsimp only at hsig
    simp only [checkBoundCall, hs, hk, hm]
    unfold isInstance
    simp only [typeOf, Bool.false_eq_true, if_false]
    refine wpAny_bind (wpAny_bind (wpAny_bind (wpAny_load hx (wpAny_pure ?_))))
    rw [hc]
    refine (looks_mroIn X (mro_module P)).here ?_
    rw [va]
    simp only [Bool.or_self, Bool.false_eq_true, if_false]
    refine wpAny_bind (ks_wpAny_isType_inst hx hnc ?_)
    simp only [Bool.false_eq_true, if_false]
    refine wpAny_bind (wpAny_bind (wpAny_loadPart hx (wpAny_pure ?_)))
    rw [hc]
    dsimp only
    refine wpAny_bind ((looks_clsIn X (C := 143) (cd := ⟨(Str.ofString "_Accumulator"), [(.type "list")], [(.ref 143), (.type "list"), (.type "object")], 142, (Str.ofString "_Accumulator"), true, [], [], false, none, false⟩) rfl).here ?_)
    refine wpAny_bind (wpAny_bind (wpAny_loadPart ho (wpAny_pure ?_)))
    simp only [beq_self_eq_true, if_true]
    have e9 : (toString (Str.ofString "_Accumulator").toString ++ toString "." ++ toString (Bind.lastOf "list.pop")) = "_Accumulator.pop" := by decide +kernel
    refine wpAny_of_eq (a := ()) ?_ hQ
    rw [← hsig, ← e9]
theorem pop_body {x C : Addr} {dx : Option Addr} {l : List Value} {n : Nat} {sl : Array (Option Value)} {v : Value} {Q : Fin → Shared → Prop}
    (ho : s.heap.get? x = some ⟨.ref C, dx, .seq (l ++ [v]).toArray n, sl⟩) (hz : l.length + 1 ≤ 1000)
    (hQ : Q (.done (.ret v)) { s with heap := s.heap.update x (Obj.mapSeq (·.eraseIdxIfInBounds l.length)) }) : wpAny (model prog w) A (Builtin.«list.pop» ⟨[.ref x], []⟩) Q E s := by
  have hidx : seqIndex? (-1) (l ++ [v]).toArray.size = some l.length := by
    rw [PySem.seqIndex_neg (by decide) (by simp; omega)]
    simp; omega
  have hx : (l ++ [v]).toArray[l.length]? = some v := by simp
  show wpAny _ _ (Builtin.List.listItems (.ref x) >>= fun xs => _) _ _ s
  unfold Builtin.List.listItems
  refine wpAny_bind (wpAny_bind (wpAny_seqItems ho rfl (wpAny_pure ?_)))
  have hne : (l ++ [v]).toArray.isEmpty = false := by simp
  simp only [hne, hidx, Option.bind_some, hx, Option.map_some, Bool.false_eq_true, if_false]
  exact wpAny_bind (wpAny_updateSeq ho rfl (wpAny_pure hQ) (by simp; unfold sizeLine; omega) (by
    have : ((l ++ [v]).toArray.eraseIdxIfInBounds l.length).size ≤ l.length + 1 := by
      have h1 := List.length_eraseIdx_le (l ++ [v]) l.length
      simp only [List.length_append, List.length_singleton] at h1
      simpa using h1
    unfold sizeLine; omega))
theorem call_bound_pop {b x : Addr} {dx : Option Addr} {l : List Value} {n : Nat} {sl : Array (Option Value)} {v : Value} {Q : Value → Shared → Prop} (X : (KK P).In s.heap)
    (hb : s.heap.get? b = some ⟨.type "builtin_function_or_method", none, .fields #[.builtin "list.pop", .ref x], #[]⟩)
    (ho : s.heap.get? x = some ⟨.ref 143, dx, .seq (l ++ [v]).toArray n, sl⟩) (hz : l.length + 1 ≤ 1000)
    (hQ : Q v { s with heap := s.heap.update x (Obj.mapSeq (·.eraseIdxIfInBounds l.length)) }) : wpAny (model prog w) A (call (.ref b) []) Q E s := by
  refine wpAny_call (codeAny_of_tree ?_)
  show wpAny _ A.in1 (callAny (.ref b) ⟨[], []⟩) _ _ s
  unfold callAny
  refine wpAny_bind (wpAny_load hb ?_)
  refine wpAny_bind (pop_check X ho rfl (fun c e => by cases e) ?_)
  refine wpAny_pure ⟨plainId_quiet (by decide +kernel) _, codeAny_builtin PySem.F.entry_list_pop ?_⟩
  exact pop_body ho hz hQ
theorem call_bound_len {b x : Addr} {dx : Option Addr} {its : Array Value} {n : Nat} {sl : Array (Option Value)} {Q : Value → Shared → Prop}
    (hb : s.heap.get? b = some ⟨.type "method-wrapper", none, .fields #[.builtin "list.__len__", .ref x], #[]⟩)
    (ho : s.heap.get? x = some ⟨.ref 143, dx, .seq its n, sl⟩) (hz : its.size ≤ 1000)
    (hQ : Q (.int its.size s.toks) { s with toks := s.toks + 1 }) : wpAny (model prog w) A (call (.ref b) []) Q E s := by
  refine wpAny_call (codeAny_of_tree ?_)
  show wpAny _ A.in1 (callAny (.ref b) ⟨[], []⟩) _ _ s
  unfold callAny
  refine wpAny_bind (wpAny_load hb ?_)
  have hk : builtinKind "list.__len__" = some .slot := by decide +kernel
  have hm : (Manifest.AttrKind.slot != .method && Manifest.AttrKind.slot != .classMethod) = true := by decide
  have ha := PySem.F.args_list_len_1 (.ref x)
  have hc : ∀ {Q : Unit → Shared → Prop} {A : Around} {E : Value → Shared → Prop}, Q () s → wpAny (model prog w) A (checkBoundCall "list.__len__" ⟨[.ref x], []⟩) Q E s := by
    intro Q A E hq
    cases hs : Manifest.signature? "list.__len__" with
    | none => simp only [checkBoundCall, hs]; exact wpAny_pure hq
    | some sig =>
      unfold argsOk at ha
      rw [hs] at ha
      simp only [checkBoundCall, hs, hk, hm, if_true]
      exact wpAny_of_eq ha hq
  refine wpAny_bind (hc ?_)
  refine wpAny_pure ⟨plainId_quiet (by decide +kernel) _, codeAny_builtin PySem.F.entry_list_len ?_⟩
  show wpAny _ _ (seqSize x >>= fun k => retInt k) _ _ s
  unfold seqSize retInt
  refine wpAny_bind (wpAny_bind (wpAny_loadPart ho ?_))
  exact wpAny_pure (wpAny_bind (wpAny_mkInt (wpAny_pure hQ)))
end
section
variable {prog : Program} {w : World} {A : Around} {E : Value → Shared → Prop} {h : Heap} {g : Array GenState} {d : Drawn} {t : Nat} {os : OsState}
theorem getMethod_super {so D x C : Addr} {ox : Obj} {l₀ l : List Value} {K : Frag} {name : Str} {id cl : String} {pl : Sem Bool} {Q : Value × List Value → Shared → Prop}
    (hso : h.get? so = some { cls := .type "super", dict := none, data := .fields #[.ref D, .ref x, .ref C], slots := #[] }) (hno : Looks (model prog w) h (opaqueClassAbove (.ref C)) none)
    (hC : Looks (model prog w) h (mroOf (.ref C)) l₀) (hl : (l₀.dropWhile (· != .ref D)).drop 1 = l) (X : K.In h)
    (hf : alongIn K name l = some (some (.builtin id))) (hx : h.get? x = some ox) (hc : ox.cls = .ref C) (hsub : Looks (model prog w) h (isSubtype (.ref C) (.type "list")) true) (hxC : x ≠ C) (hn : (name == ("__class__" : Str)) = false)
    (hid : (id = "list.pop" ∧ cl = "builtin_function_or_method") ∨ (id = "list.__len__" ∧ cl = "method-wrapper") ∨ (id = "list.__init__" ∧ cl = "method-wrapper"))
    (hq : Q (.ref h.objs.size, []) ⟨h.push { cls := .type cl, data := .fields #[.builtin id, .ref x] }, g, d, t + 1, os⟩) :
    wpAny (model prog w) A (getMethod (.ref so) name pl) Q E ⟨h, g, d, t, os⟩ := by
  have hlk := PySem.F.ks_slot_super_ga.lookup
  have hcan := PySem.F.ks_canon_super_ga
  have hT : ∀ t', (⟨h, g, d, t', os⟩ : Shared).TypeIs (.ref so) "super" := fun _ => ⟨_, hso, rfl⟩
  unfold getMethod
  refine wpAny_bind (wpAny_specialOf (hT _) hlk ?_)
  show wpAny _ _ (if (Manifest.canonical "super.__getattribute__" != "object.__getattribute__") = true then _ else _) _ _ _
  rw [if_pos hcan]
  unfold getAttr getAttrBy
  refine wpAny_bind (wpAny_bind (wpAny_mkText (wpAny_holding (wpAny_bind (wpAny_typeOf (hT _) (wpAny_bind (wpAny_of_eq hlk ?_)))))))
  show wpAny _ _ (getAttrByItsOwn (.ref so) (.str name t) (.type "super") (.builtin "super.__getattribute__") true false) _ _ _
  unfold getAttrByItsOwn hookBefore callGetattribute boundAndCalled
  refine wpAny_bind (wpAny_of_eq (show (if onTheHeap (.type "super") then typeLookup (.type "super") "__getattr__" else pure none) = pure none from rfl) ?_)
  refine wpAny_bind (wpAny_attempt (wpAny_holding ?_))
  show wpAny _ _ (bindSpecial (.builtin "super.__getattribute__") (.ref so) >>= _) _ _ _
  refine wpAny_bind (wpAny_of_eq (PySem.F.ks_slot_super_ga.bind _) ?_)
  refine wpAny_mono (Q := fun v s' => v = .ref h.objs.size ∧ s' = ⟨h.push { cls := .type cl, data := .fields #[.builtin id, .ref x] }, g, d, t + 1, os⟩) (E := fun _ _ => False)
    (wpAny_call_entry PySem.F.ks_slot_super_ga (hT _) PySem.F.ks_entry_super_ga (super_ga hso hno hC hl X hf hx hc hsub hxC hn hid ⟨_, rfl, rfl, rfl⟩) (PySem.F.ks_gaArgs_super _ _)) (fun v s' hv => ?_) fun _ _ z => z.elim
  obtain ⟨rfl, rfl⟩ := hv
  exact wpAny_pure (wpAny_pure hq)
end
end Mine
end
section
open PySem PySem.W PyProof.Rows PySem.Spec PySem.Calls PyProof.V
namespace Mine
section
variable {prog : Program} {w : World} {A A₀ : Around} {s : Shared} {K : Frag} {L : Addr} {h₀ base : Heap} {m mg mb : Str → Option Value} {p : Program} {loose : List Str} {mean : ExcName → Option Value}
/-- a call of a def that may change the objects `news`: they are hidden from its ground `g` -/
theorem code_changes {env : Env} {outer : List Env} {R : Result → Shared → Prop} {name qual : Str} {params : Arguments} {body : List Stmt} {scope : Scope} {dV kV doc pm cdv ct oc : Value} {an od : Option Addr} {osl : Array (Option Value)} {f : Addr} {args : Args} {binds : List (Str × Value)} (news : List (Addr × Obj))
    (B : Below A₀ base outer h₀) (F : Fr h₀ L s.heap m) (X₀ : K.In h₀) (N : News h₀ L s.heap news) (T : Top p loose mean mg mb h₀) (hA : A.frames = some (env :: outer)) (hf : env.frame = some L) (hke : env.scope.kind = .function)
    (ho : K.lookup f = some ⟨oc, od, .func (fnOf name qual params body scope dV kV doc pm an cdv ct), osl⟩) (hcd : codeIn K cdv qual = true) (hroom : A.depth < recursionLimit)
    (hbind : BindsTo s (fnOf name qual params body scope dV kV doc pm an cdv ct) args binds) (hloc : ∀ y ∈ binds, scope.names.lookup y.1 = some .local)
    (h : ∀ g L' h₁, (∀ b o, b ∉ news.map (·.1) → s.heap.get? b = some o → g.get? b = some o) → (∀ b o, g.get? b = some o → s.heap.get? b = some o) → Fr g L' h₁ (fun y => binds.reverse.lookup y) → News g L' h₁ news → Below A base (env :: outer) g → K.In g → Top p loose mean mg mb g →
      wpAny (model prog w) (A.deeper (envOf qual scope L' f cdv)) (execs body (envOf qual scope L' f cdv))
        (fun fl s' => R (.ok (.ret (match fl with | .ret v => v | _ => .none))) s')
        (fun e s' => wpAny (model prog w) (A.deeper (envOf qual scope L' f cdv)) (leaving (envOf qual scope L' f cdv) e) (fun _ s'' => R (.error e) s'') (fun e' s'' => R (.error e') s'') s')
        { s with heap := h₁, toks := s.toks + binds.length })
    (hco : scope.isCoroutine = false) (hgen : scope.isGenerator = false) (hk : scope.kind = .function)
    (hcell : ∀ x ∈ scope.names, x.2 ≠ .cell) : codeAny (model prog w) A (.call (.ref f) args) R s := by
  obtain ⟨FG, BG, st, lv⟩ := groundX (R := R) B F N hA hf hke
  refine codeAny_call_def (fd := fnX name qual params body scope [] dV kV doc pm an cdv ct) (body := body) (binds := binds) hroom ((X₀.keeps F.keep) _ _ ho) rfl (T.nolimit.keeps F.keep) (codeRec_of (X₀.keeps F.keep) hcd) rfl hbind hcell hloc (fun h₁ hns hk₁ => ?_) hco hgen hk
  exact h _ s.heap.objs.size h₁ (fun b o hb e => hideAll_get _ e hb) (fun b o e => of_hideAll _ e) ⟨hns, fun b o e => hk₁ b o (of_hideAll _ e), Nat.le_of_eq (hideAll_size _ _)⟩
    (fun p hp => ⟨hk₁ _ _ (N p hp).1, Nat.ne_of_lt (Heap.lt_size (N p hp).1), hideAll_none _ (List.mem_map_of_mem hp)⟩) BG (X₀.keeps st) (T.keeps st)
theorem code_changesS {env : Env} {outer : List Env} {R : Result → Shared → Prop} {name qual : Str} {params : Arguments} {body : List Stmt} {scope : Scope} {dV kV doc pm cdv ct oc : Value} {an od : Option Addr} {osl : Array (Option Value)} {f cc : Addr} {args : Args} {binds : List (Str × Value)} (news : List (Addr × Obj))
    (B : Below A₀ base outer h₀) (F : Fr h₀ L s.heap m) (X₀ : K.In h₀) (N : News h₀ L s.heap news) (T : Top p loose mean mg mb h₀) (hA : A.frames = some (env :: outer)) (hf : env.frame = some L) (hke : env.scope.kind = .function)
    (ho : K.lookup f = some ⟨oc, od, .func (ksFn name qual params body scope dV kV doc pm an cdv ct cc), osl⟩) (hcd : codeIn K cdv qual = true) (hroom : A.depth < recursionLimit)
    (hbind : BindsTo s (ksFn name qual params body scope dV kV doc pm an cdv ct cc) args binds) (hloc : ∀ y ∈ binds, scope.names.lookup y.1 = some .local)
    (h : ∀ g L' h₁, (∀ b o, b ∉ news.map (·.1) → s.heap.get? b = some o → g.get? b = some o) → (∀ b o, g.get? b = some o → s.heap.get? b = some o) → Fr g L' h₁ (fun y => binds.reverse.lookup y) → News g L' h₁ news → Below A base (env :: outer) g → K.In g → Top p loose mean mg mb g →
      _root_.PySem.wpAt (model prog w) (A.deeper (ksEnv qual scope L' f cdv cc)) (.func body (ksEnv qual scope L' f cdv cc)) (execs body (ksEnv qual scope L' f cdv cc))
        (fun fl s' => R (.ok (.ret (match fl with | .ret v => v | _ => .none))) s')
        (fun e s' => wpAny (model prog w) (A.deeper (ksEnv qual scope L' f cdv cc)) (leaving (ksEnv qual scope L' f cdv cc) e) (fun _ s'' => R (.error e) s'') (fun e' s'' => R (.error e') s'') s')
        { s with heap := h₁, toks := s.toks + binds.length })
    (hcell : ∀ x ∈ scope.names, x.2 ≠ .cell) (hco : scope.isCoroutine = false) (hgen : scope.isGenerator = false) (hk : scope.kind = .function) : codeAny (model prog w) A (.call (.ref f) args) R s := by
  obtain ⟨FG, BG, st, lv⟩ := groundX (R := R) B F N hA hf hke
  refine ks_codeAny_call_defAt (fd := ksFn name qual params body scope dV kV doc pm an cdv ct cc) (body := body) (binds := binds) hroom ((X₀.keeps F.keep) _ _ ho) rfl (T.nolimit.keeps F.keep) (codeRec_of (X₀.keeps F.keep) hcd) rfl hbind hcell hloc (fun h₁ hns hk₁ => ?_) hco hgen hk
  exact h _ s.heap.objs.size h₁ (fun b o hb e => hideAll_get _ e hb) (fun b o e => of_hideAll _ e) ⟨hns, fun b o e => hk₁ b o (of_hideAll _ e), Nat.le_of_eq (hideAll_size _ _)⟩
    (fun p hp => ⟨hk₁ _ _ (N p hp).1, Nat.ne_of_lt (Heap.lt_size (N p hp).1), hideAll_none _ (List.mem_map_of_mem hp)⟩) BG (X₀.keeps st) (T.keeps st)
end
/-- the pile and its dict -/
noncomputable abbrev pileO (dx : Addr) (l : List Value) (n : Nat) : Obj := ⟨.ref 143, some dx, .seq l.toArray n, #[]⟩
noncomputable abbrev pileD (P : Params) (t1 t2 : Tok) (room : Int) : Obj := ⟨.type "dict", none, .dict #[⟨PyData.keyHash P (Str.ofString "_initial_size"), .str (Str.ofString "_initial_size") t1, .int room t2⟩] 1, #[]⟩
theorem p_push (w : World) (x dx : Addr) (l : List Value) (n : Nat) (a1 b1 : Str) (ta tb : CbTok) (t1 t2 : Tok) (room : Int) (dp un : Nat) (gd : Option (List Code)) (cn : Str) (cs : Scope) (a : Addr) (ccd : Value) (cl : List (Str × Addr)) (outer : List Env) (A₀ : Around) (base h₀ : Heap) (L : Addr) (m : Str → Option Value)
    (mean : ExcName → Option Value) (mg mb : Str → Option Value) (s : Shared) (Q E : Value → Shared → Prop)
    (B : Below A₀ base outer h₀) (F : Fr h₀ L s.heap m) (X : (KK w.params).In h₀) (T : Top vw Mine.lw mean mg mb h₀) (hk : cs.kind = .function) (hl : l.length + 1 ≤ 1000) (hd : dp + 1 < recursionLimit) (hu : un + 12 < cLine)
    (N : News h₀ L s.heap [(x, pileO dx l n), (dx, pileD w.params t1 t2 room)])
    (hret : ∀ (T : Addr) (n' nt : Nat) (h' : Heap) (tk' : Nat), (∀ b o, b ≠ x → s.heap.get? b = some o → h'.get? b = some o) → h'.get? x = some (pileO dx (l ++ [.ref T]) n') → s.heap.get? T = none → h'.get? T = some ⟨.type "tuple", none, .seq #[.str a1 ta, .str b1 tb] nt, #[]⟩ → Q .none { s with heap := h', toks := tk' }) :
    wpAny (model pw w) (ktrTop dp un gd cn cs L a ccd cl outer) (call (.ref 87) [.ref x, .str a1 ta, .str b1 tb]) Q E s := by
  refine wpAny_call ?_
  k_dflt (refine' code_changes ?nw ?k1 ?k2 ?k3 ?kN ?k5 ?kA ?kF ?kK ?k6 ?k7 ?k8 ?k9 ?kB ?_ ?c2 ?c3 ?c4 ?c5; (case kA => exact rfl); (case kF => exact rfl); (case kK => assumption); (case k1 => k_asm); (case k2 => k_asm); (case k3 => k_asm); (case kN => k_asm); (case k5 => k_asm); (case k6 => k_is); (case k7 => k_is); (case k8 => ktr_room); (case k9 => exact BindsTo.of_eq rfl); (case c5 => decide); (case kB => exact locs rfl); (case c2 => exact rfl); (case c3 => exact rfl); (case c4 => exact rfl); k_whole; intro g' L' h' kp' kq' F' N' B' X' T'; (try dsimp only); (try k_lift B'); (try k_fold))
  iterate 5 (first | walk1 | (dsimp only; walk1))
  rename Fr _ _ _ _ => F9; rename News _ _ _ _ => N9; rename Frag.In _ _ => X9
  refine method_any (K := KK w.params) (C := 143) (ox := pileO dx l n) (od := some (pileD w.params t1 t2 room)) (v := .builtin "list.append") (X9.keeps F9.keep) ⟨(N9 _ (by k_mem)).1, rfl, rfl, (N9 (dx, pileD w.params t1 t2 room) (by k_mem)).1⟩ (ga := "list.__getattribute__") (by k_is) can_list (by k_is) (by k_is) (looks_val PySem.F.type_list_append) (by decide) (by rfl) ?_
  iterate 10 (first | walk1 | (dsimp only; walk1))
  rename Fr _ _ _ _ => F8; rename News _ _ _ _ => N8; rename Heap => h8; rename Addr => T8
  rename ∀ b o, b ∉ _ → _ → _ => kp8
  obtain ⟨hx8, hxL8, hxn8⟩ := N8 (x, pileO dx l n) (by k_mem)
  obtain ⟨ht8, htL8, htn8⟩ := N8 _ (List.mem_cons_self ..)
  have htx : T8 ≠ x := by rintro rfl; rw [hx8] at ht8; cases ht8
  have htd : T8 ≠ dx := by
    intro e
    have := (N8 (dx, pileD w.params t1 t2 room) (by k_mem)).1
    dsimp only at ht8 this
    rw [← e, ht8] at this
    exact absurd (congrArg Obj.cls (Option.some.inj this)) (by simp)
  refine append_sub hx8 (looks_mroIn (X9.keeps F8.keep) (mro_list _)) (by simpa using hl) ?_
  refine wpAny_execs_nil ?_
  have hup : ∀ b, b ≠ x → ((h8.update x (Obj.mapSeq (·.push (.ref T8)))).get? b = h8.get? b) := fun b hb => Heap.get?_update_other _ _ (Ne.symm hb)
  have hgx : (h8.update x (Obj.mapSeq (·.push (.ref T8)))).get? x = _ := Heap.get?_update_self _ hx8 rfl
  refine hret T8 (if (l.toArray.push (.ref T8)).size == l.toArray.size then n else n + 1) _ _ _ (fun b o hb e => (hup b hb).trans ?_) (hgx.trans (by simp [Obj.mapSeq])) ?_ ((hup _ htx).trans ht8)
  · by_cases hbd : b = dx
    · subst hbd
      rw [(N (b, pileD w.params t1 t2 room) (by k_mem)).1] at e; cases e
      exact (N8 (b, pileD w.params t1 t2 room) (by k_mem)).1
    · exact F8.keep _ _ (kp8 b o (by simp [hb, hbd]) e)
  · cases e : s.heap.get? T8 with
    | none => rfl
    | some o =>
      have := kp8 T8 o (by simp [htx, htd]) e
      rw [htn8] at this; cases this
end Mine
end
section
open PySem PySem.W PyProof.Rows PySem.Spec PySem.Calls PyProof.V
namespace Mine
noncomputable abbrev accCD : ClassData := ⟨(Str.ofString "_Accumulator"), [(.type "list")], [(.ref 143), (.type "list"), (.type "object")], 142, (Str.ofString "_Accumulator"), true, [], [], false, none, false⟩
theorem cls143 (P : Params) : clsIn (KK P) 143 = some accCD := by rfl
theorem along_len (P : Params) : alongIn (KK P) "__len__" [.type "list", .type "object"] = some (some (.builtin "list.__len__")) := by kernel_rfl
theorem along_init (P : Params) : alongIn (KK P) "__init__" [.type "list", .type "object"] = some (some (.builtin "list.__init__")) := by kernel_rfl
theorem along_pop (P : Params) : alongIn (KK P) "pop" [.type "list", .type "object"] = some (some (.builtin "list.pop")) := by kernel_rfl
theorem opq (P : Params) : nsIn (KK P) cStatics "thirdparty.any" = some none := by k_is
section
variable {prog : Program} {w : World} {A : Around} {E : Value → Shared → Prop} {P : Params} {s : Shared}
theorem callWith_bound {M : Model} {env : Env} {pos : Pos} {b : Addr} {cl id : String} {x : Addr} {Q : Value → Shared → Prop} (hcl : cl = "builtin_function_or_method" ∨ cl = "method-wrapper")
    (hb : s.heap.get? b = some ⟨.type cl, none, .fields #[.builtin id, .ref x], #[]⟩) (h : wpAny M A (call (.ref b) []) Q E s) : wpAny M A (callWith pos (.ref b) [] (backTo pos (starEach [] env)) []) Q E s := by
  refine callWith_of (P := fun h => h.get? b = some ⟨.type cl, none, .fields #[.builtin id, .ref x], #[]⟩) rfl (fun h hb => ⟨.machine, .inr (.inl rfl), (Looks.ld (part := none) hb).andThen ?_⟩) (evalArgs_nil3 ⟨hb, h⟩)
  rcases hcl with rfl | rfl <;> exact .now
theorem looks_mro143 {M : Model} {h : Heap} (X : (KK P).In h) : Looks M h (mroOf (.ref 143)) [.ref 143, .type "list", .type "object"] :=
  fun A Q E s k q => wpAny_bind ((looks_clsIn X (cls143 P)) A _ E s k (wpAny_pure q))
end
theorem p_count (w : World) (x dx : Addr) (l : List Value) (n : Nat) (t1 t2 : Tok) (room : Int) (dp un : Nat) (gd : Option (List Code)) (cn : Str) (cs : Scope) (a : Addr) (ccd : Value) (cl : List (Str × Addr)) (outer : List Env) (A₀ : Around) (base h₀ : Heap) (L : Addr) (m : Str → Option Value)
    (mean : ExcName → Option Value) (mg mb : Str → Option Value) (s : Shared) (Q E : Value → Shared → Prop)
    (B : Below A₀ base outer h₀) (F : Fr h₀ L s.heap m) (X : (KK w.params).In h₀) (T : Top vw Mine.lw mean mg mb h₀) (hk : cs.kind = .function) (hl : l.length ≤ 1000) (hd : dp + 1 < recursionLimit) (hu : un + 12 < cLine)
    (N : News h₀ L s.heap [(x, pileO dx l n), (dx, pileD w.params t1 t2 room)])
    (hret : ∀ (t : Tok) (h' : Heap) (tk' : Nat), (∀ b o, s.heap.get? b = some o → h'.get? b = some o) → Q (.int l.length t) { s with heap := h', toks := tk' }) :
    wpAny (model pw w) (ktrTop dp un gd cn cs L a ccd cl outer) (call (.ref 140) [.ref x]) Q E s := by
  refine wpAny_call ?_
  k_dflt (refine' code_changesS ?nw ?k1 ?k2 ?k3 ?kN ?k5 ?kA ?kF ?kK ?k6 ?k7 ?k8 ?k9 ?kB ?_ ?c5 ?c2 ?c3 ?c4; (case kA => exact rfl); (case kF => exact rfl); (case kK => assumption); (case k1 => k_asm); (case k2 => k_asm); (case k3 => k_asm); (case kN => k_asm); (case k5 => k_asm); (case k6 => k_is); (case k7 => k_is); (case k8 => ktr_room); (case k9 => exact BindsTo.of_eq rfl); (case c5 => decide); (case kB => exact locs rfl); (case c2 => exact rfl); (case c3 => exact rfl); (case c4 => exact rfl); k_whole; intro g' L' h' kp' kq' F' N' B' X' T'; (try dsimp only); (try k_lift B'); (try k_fold))
  iterate 3 (first | walk1 | (dsimp only; walk1))
  rename Fr _ _ _ _ => F9; rename News _ _ _ _ => N9; rename Frag.In _ _ => X9; rename Top _ _ _ _ _ _ => T9
  refine ks_node (K := KK w.params) (x := x) (C := 143) (ox := pileO dx l n) (odx := some (pileD w.params t1 t2 room)) F9 X9 N9 T9 (by k_is) (by rfl) (by rfl) ⟨(N9 _ (by k_mem)).1, rfl, rfl, (N9 (dx, pileD w.params t1 t2 room) (by k_mem)).1⟩ (by k_is) (by rfl) (by first | rfl | decide +kernel) (by k_is) (by k_is) (by k_is) (by k_is) (by decide) (by rfl) (by rfl) (by rfl) (by rfl) (by decide +kernel) (by first | boot_by_name | rfl | kernel_rfl) ?_
  intro so' h' F' N' l1
  have XX := X9.keeps F'.keep
  have II : InstAt h' x (pileO dx l n) 143 (some (pileD w.params t1 t2 room)) := ⟨(N' (x, pileO dx l n) (by k_mem)).1, rfl, rfl, (N' (dx, pileD w.params t1 t2 room) (by k_mem)).1⟩
  refine getMethod_super (D := 143) (C := 143) (ox := pileO dx l n) (id := "list.__len__") (cl := "method-wrapper") (N' _ (List.mem_cons_self ..)).1 (looks_opaque XX (opq _)) (looks_mro143 XX) rfl XX (along_len _) II.at_ rfl (looks_mroIn XX (mro_list _)) (ks_ne XX II (cls143 _)) (by decide) (.inr (.inl ⟨rfl, rfl⟩)) ?_
  have hb := Heap.get?_push_at (h := h') (o := { cls := .type "method-wrapper", data := .fields #[.builtin "list.__len__", .ref x] }) rfl rfl
  refine callWith_bound (.inr rfl) hb ?_
  refine call_bound_len hb (Heap.get?_push_of_some _ II.at_) (by simpa using hl) ?_
  have := hret
  dsimp only
  have e9 : (l.toArray.size : Int) = l.length := by simp
  rw [e9]
  rename ∀ b o, b ∉ _ → _ → _ => kp8
  refine hret _ _ _ fun b o e => Heap.get?_push_of_some _ ?_
  by_cases hbx : b = x
  · subst hbx
    rw [(N (b, pileO dx l n) (by k_mem)).1] at e; cases e
    exact II.at_
  · by_cases hbd : b = dx
    · subst hbd
      rw [(N (b, pileD w.params t1 t2 room) (by k_mem)).1] at e; cases e
      exact (N' (b, pileD w.params t1 t2 room) (by k_mem)).1
    · exact F'.keep _ _ (kp8 b o (by simp [hbx, hbd]) e)
end Mine
end
section
open PySem PySem.W PyProof.Rows PySem.Spec PySem.Calls PyProof.V
namespace Mine
theorem News.kp {h₀ h h' : Heap} {L : Addr} {news : List (Addr × Obj)} (N : News h₀ L h news) (hk : ∀ b o, h.get? b = some o → h'.get? b = some o) : News h₀ L h' news := fun p hp => ⟨hk _ _ (N p hp).1, (N p hp).2⟩
theorem p_pop (w : World) (x dx : Addr) (l : List Value) (v : Value) (n : Nat) (t1 t2 : Tok) (room : Int) (dp un : Nat) (gd : Option (List Code)) (cn : Str) (cs : Scope) (a : Addr) (ccd : Value) (cl : List (Str × Addr)) (outer : List Env) (A₀ : Around) (base h₀ : Heap) (L : Addr) (m : Str → Option Value)
    (mean : ExcName → Option Value) (mg mb : Str → Option Value) (s : Shared) (Q E : Value → Shared → Prop)
    (B : Below A₀ base outer h₀) (F : Fr h₀ L s.heap m) (X : (KK w.params).In h₀) (T : Top vw Mine.lw mean mg mb h₀) (hk : cs.kind = .function) (hl : l.length + 1 ≤ 1000) (hd : dp + 2 < recursionLimit) (hu : un + 24 < cLine)
    (N : News h₀ L s.heap [(x, pileO dx (l ++ [v]) n), (dx, pileD w.params t1 t2 room)])
    (hret : ∀ (n' : Nat) (h' : Heap) (tk' : Nat), (∀ b o, b ≠ x → s.heap.get? b = some o → h'.get? b = some o) → h'.get? x = some (pileO dx l n') → Q v { s with heap := h', toks := tk' }) :
    wpAny (model pw w) (ktrTop dp un gd cn cs L a ccd cl outer) (call (.ref 103) [.ref x]) Q E s := by
  refine wpAny_call ?_
  k_dflt (refine' code_changesS ?nw ?k1 ?k2 ?k3 ?kN ?k5 ?kA ?kF ?kK ?k6 ?k7 ?k8 ?k9 ?kB ?_ ?c5 ?c2 ?c3 ?c4; (case kA => exact rfl); (case kF => exact rfl); (case kK => assumption); (case k1 => k_asm); (case k2 => k_asm); (case k3 => k_asm); (case kN => k_asm); (case k5 => k_asm); (case k6 => k_is); (case k7 => k_is); (case k8 => ktr_room); (case k9 => exact BindsTo.of_eq rfl); (case c5 => decide); (case kB => exact locs rfl); (case c2 => exact rfl); (case c3 => exact rfl); (case c4 => exact rfl); k_whole; intro g' L' h' kp' kq' F' N' B' X' T'; (try dsimp only); (try k_lift B'); (try k_fold))
  iterate 6 (first | walk1 | (dsimp only; walk1))
  rename Fr _ _ _ _ => F9; rename News _ _ _ _ => N9; rename Frag.In _ _ => X9; rename Top _ _ _ _ _ _ => T9; rename Below _ _ _ _ => B9
  have II : InstAt _ x (pileO dx (l ++ [v]) n) 143 (some (pileD w.params t1 t2 room)) := ⟨(N9 (x, pileO dx (l ++ [v]) n) (by k_mem)).1, rfl, rfl, (N9 (dx, pileD w.params t1 t2 room) (by k_mem)).1⟩
  refine method_any (K := KK w.params) (C := 143) (ox := pileO dx (l ++ [v]) n) (od := some (pileD w.params t1 t2 room)) (v := .ref 140) (X9.keeps F9.keep) II (ga := "list.__getattribute__") (by k_is) can_list (by k_is) (by k_is) (ty := .type "function") (looks_typeIn (X9.keeps F9.keep) (by k_is)) (by decide) (by rfl) ?_
  iterate 1 (first | walk1 | (dsimp only; walk1))
  refine p_count w x dx (l ++ [v]) n t1 t2 room _ _ _ _ _ _ _ _ _ _ _ _ _ _ _ _ _ _ _ _ B9 F9 X9 T9 rfl (by simpa using hl) (by ktr_room) (by ktr_room) N9 fun t h8 tk8 hk8 => ?_
  have F8 := F9.keptAll hk8
  have N8 := News.kp N9 hk8
  clear F9 N9 II
  iterate 2 (first | walk1 | (dsimp only; walk1))
  refine wpAny_truthy_bool ?_
  rw [if_neg (by simp; omega)]
  refine wpAt_of_wpAny (wpAny_execs_nil ?_)
  dsimp only
  refine ks_wpAt_execs_cons ?_
  refine ks_wpAt_Return_some ?_
  refine ks_wpAt_MethodCall ?_
  refine ks_node (K := KK w.params) (x := x) (C := 143) (ox := pileO dx (l ++ [v]) n) (odx := some (pileD w.params t1 t2 room)) F8 X9 N8 T9 (by k_is) (by rfl) (by rfl) ⟨(N8 _ (by k_mem)).1, rfl, rfl, (N8 (dx, pileD w.params t1 t2 room) (by k_mem)).1⟩ (by k_is) (by rfl) (by first | rfl | decide +kernel) (by k_is) (by k_is) (by k_is) (by k_is) (by decide) (by rfl) (by rfl) (by rfl) (by rfl) (by decide +kernel) (by first | boot_by_name | rfl | kernel_rfl) ?_
  intro so' h' F' N' l1
  have XX := X9.keeps F'.keep
  have II : InstAt h' x (pileO dx (l ++ [v]) n) 143 (some (pileD w.params t1 t2 room)) := ⟨(N' (x, pileO dx (l ++ [v]) n) (by k_mem)).1, rfl, rfl, (N' (dx, pileD w.params t1 t2 room) (by k_mem)).1⟩
  refine getMethod_super (D := 143) (C := 143) (ox := pileO dx (l ++ [v]) n) (id := "list.pop") (cl := "builtin_function_or_method") (N' _ (List.mem_cons_self ..)).1 (looks_opaque XX (opq _)) (looks_mro143 XX) rfl XX (along_pop _) II.at_ rfl (looks_mroIn XX (mro_list _)) (ks_ne XX II (cls143 _)) (by decide) (.inl ⟨rfl, rfl⟩) ?_
  have hb := Heap.get?_push_at (h := h') (o := { cls := .type "builtin_function_or_method", data := .fields #[.builtin "list.pop", .ref x] }) rfl rfl
  have up : ∀ b o, h'.get? b = some o → (h'.push { cls := .type "builtin_function_or_method", data := .fields #[.builtin "list.pop", .ref x] }).get? b = some o := fun b o e => Heap.get?_push_of_some _ e
  refine callWith_bound (.inl rfl) hb ?_
  have hx8 := up _ _ II.at_
  refine call_bound_pop (P := w.params) (XX.keeps up) hb hx8 hl ?_
  dsimp only
  rename ∀ b o, b ∉ _ → _ → _ => kp8
  have hgx : ((h'.push { cls := .type "builtin_function_or_method", data := .fields #[.builtin "list.pop", .ref x] }).update x (Obj.mapSeq (·.eraseIdxIfInBounds l.length))).get? x = _ := Heap.get?_update_self _ hx8 rfl
  have e8 : (l ++ [v]).toArray.eraseIdxIfInBounds l.length = l.toArray := by
    simp [List.eraseIdx_append_of_length_le]
  have e10 : Obj.mapSeq (·.eraseIdxIfInBounds l.length) (pileO dx (l ++ [v]) n) = pileO dx l (n + 1) := by
    show (⟨.ref 143, some dx, .seq ((l ++ [v]).toArray.eraseIdxIfInBounds l.length) (if ((l ++ [v]).toArray.eraseIdxIfInBounds l.length).size == (l ++ [v]).toArray.size then n else n + 1), #[]⟩ : Obj) = _
    simp only [e8]
    simp
  refine hret (n + 1) _ _ (fun b o hb e => (Heap.get?_update_other _ _ (Ne.symm hb)).trans (up _ _ ?_)) (hgx.trans (congrArg some e10))
  by_cases hbd : b = dx
  · subst hbd
    rw [(N (b, pileD w.params t1 t2 room) (by k_mem)).1] at e; cases e
    exact (N' (b, pileD w.params t1 t2 room) (by k_mem)).1
  · exact F'.keep _ _ (kp8 b o (by simp [hb, hbd]) e)
end Mine
end
section
open PySem PySem.W PyProof.Rows PySem.Spec PySem.Calls PyProof.V
namespace Mine
theorem p_pop0n (w : World) (x dx : Addr) (n : Nat) (t1 t2 : Tok) (room : Int) (dp un : Nat) (gd : Option (List Code)) (cn : Str) (cs : Scope) (a : Addr) (ccd : Value) (cl : List (Str × Addr)) (outer : List Env) (A₀ : Around) (base h₀ : Heap) (L : Addr) (m : Str → Option Value)
    (mean : ExcName → Option Value) (mg mb : Str → Option Value) (s : Shared) (Q E : Value → Shared → Prop)
    (B : Below A₀ base outer h₀) (F : Fr h₀ L s.heap m) (X : (KK w.params).In h₀) (T : Top vw Mine.lw mean mg mb h₀) (hk : cs.kind = .function) (hd : dp + 2 < recursionLimit) (hu : un + 24 < cLine)
    (N : News h₀ L s.heap [(x, pileO dx [] n), (dx, pileD w.params t1 t2 room)])
    (hret : ∀ (T : Addr) (te1 te2 : Tok) (nt : Nat) (h' : Heap) (tk' : Nat), (∀ b o, s.heap.get? b = some o → h'.get? b = some o) → s.heap.get? T = none → h'.get? T = some ⟨.type "tuple", none, .seq #[.str (Str.ofString "") te1, .str (Str.ofString "") te2] nt, #[]⟩ → Q (.ref T) { s with heap := h', toks := tk' }) :
    wpAny (model pw w) (ktrTop dp un gd cn cs L a ccd cl outer) (call (.ref 103) [.ref x]) Q E s := by
  refine wpAny_call ?_
  k_dflt (refine' code_changesS ?nw ?k1 ?k2 ?k3 ?kN ?k5 ?kA ?kF ?kK ?k6 ?k7 ?k8 ?k9 ?kB ?_ ?c5 ?c2 ?c3 ?c4; (case kA => exact rfl); (case kF => exact rfl); (case kK => assumption); (case k1 => k_asm); (case k2 => k_asm); (case k3 => k_asm); (case kN => k_asm); (case k5 => k_asm); (case k6 => k_is); (case k7 => k_is); (case k8 => ktr_room); (case k9 => exact BindsTo.of_eq rfl); (case c5 => decide); (case kB => exact locs rfl); (case c2 => exact rfl); (case c3 => exact rfl); (case c4 => exact rfl); k_whole; intro g' L' h' kp' kq' F' N' B' X' T'; (try dsimp only); (try k_lift B'); (try k_fold))
  iterate 6 (first | walk1 | (dsimp only; walk1))
  rename Fr _ _ _ _ => F9; rename News _ _ _ _ => N9; rename Frag.In _ _ => X9; rename Top _ _ _ _ _ _ => T9; rename Below _ _ _ _ => B9
  have II : InstAt _ x (pileO dx [] n) 143 (some (pileD w.params t1 t2 room)) := ⟨(N9 (x, pileO dx [] n) (by k_mem)).1, rfl, rfl, (N9 (dx, pileD w.params t1 t2 room) (by k_mem)).1⟩
  refine method_any (K := KK w.params) (C := 143) (ox := pileO dx [] n) (od := some (pileD w.params t1 t2 room)) (v := .ref 140) (X9.keeps F9.keep) II (ga := "list.__getattribute__") (by k_is) can_list (by k_is) (by k_is) (ty := .type "function") (looks_typeIn (X9.keeps F9.keep) (by k_is)) (by decide) (by rfl) ?_
  iterate 1 (first | walk1 | (dsimp only; walk1))
  refine p_count w x dx [] n t1 t2 room _ _ _ _ _ _ _ _ _ _ _ _ _ _ _ _ _ _ _ _ B9 F9 X9 T9 rfl (by decide) (by ktr_room) (by ktr_room) N9 fun t h8 tk8 hk8 => ?_
  have F8 := F9.keptAll hk8
  have N8 := News.kp N9 hk8
  clear F9 N9 II
  iterate 2 (first | walk1 | (dsimp only; walk1))
  refine wpAny_truthy_bool ?_
  rw [if_pos (by simp)]
  refine wpAt_of_wpAny ?_
  iterate 10 (first | walk1 | (dsimp only; walk1))
  rename Fr _ _ _ _ => F7; rename News _ _ _ _ => N7
  rename ∀ b o, b ∉ _ → _ → _ => kp8
  refine hret _ _ _ _ _ _ (fun b o e => ?_) ?fr (N7 _ (List.mem_cons_self ..)).1
  case fr =>
    obtain ⟨hT1, hT2, hT3⟩ := N7 _ (List.mem_cons_self ..)
    refine Option.eq_none_iff_forall_ne_some.mpr fun o e => ?_
    have hTx : _ ≠ x := fun e2 => by
      have := (N7 (x, pileO dx [] n) (by k_mem)).1
      dsimp only at hT1 this
      rw [← e2, hT1] at this
      exact absurd (congrArg Obj.cls (Option.some.inj this)) (by simp)
    have hTd : _ ≠ dx := fun e2 => by
      have := (N7 (dx, pileD w.params t1 t2 room) (by k_mem)).1
      dsimp only at hT1 this
      rw [← e2, hT1] at this
      exact absurd (congrArg Obj.cls (Option.some.inj this)) (by simp)
    have := kp8 _ o (by simp; exact ⟨hTx, hTd⟩) e
    dsimp only at hT3
    rw [hT3] at this
    cases this
  by_cases hbx : b = x
  · subst hbx
    rw [(N (b, pileO dx [] n) (by k_mem)).1] at e; cases e
    exact (N7 (b, pileO dx [] n) (by k_mem)).1
  · by_cases hbd : b = dx
    · subst hbd
      rw [(N (b, pileD w.params t1 t2 room) (by k_mem)).1] at e; cases e
      exact (N7 (b, pileD w.params t1 t2 room) (by k_mem)).1
    · exact F7.keep _ _ (kp8 b o (by simp [hbx, hbd]) e)
end Mine
end
section
open PySem PySem.W PyProof.Rows PySem.Spec PySem.Calls PyProof.V
namespace Mine
noncomputable abbrev accSl : Array (Option Value) := #[(some (.ref 64)), none, (some (.str (Str.ofString "_Accumulator") 256)), (some (.str (Str.ofString "_Accumulator") 264)), (some (.builtin "list.__new__")), (some (.bool true))]
section
variable {prog : Program} {w : World} {A : Around} {P : Params} {R : Result → Shared → Prop} {h : Heap} {g : Array GenState} {d : Drawn} {t : Nat} {os : OsState}
theorem get143 (X : (KK P).In h) : h.get? 143 = some ⟨.type "type", none, .cls accCD, accSl⟩ := X 143 _ rfl
theorem made143 {M : Model} (X : (KK P).In h) : Looks M h (Bind.madeBy (.ref 143)) (some "list.__new__") := by
  intro A Q E s k q
  unfold Bind.madeBy
  refine wpAny_bind (looks_mro143 X A _ E s k ?_)
  rw [List.forIn_cons]
  refine wpAny_bind (wpAny_bind (wpAny_bind (wpAny_bind (wpAny_loadPart (k _ _ (get143 X)) (wpAny_pure ?_)))))
  exact wpAny_pure (wpAny_pure (wpAny_pure q))
theorem base143 {M : Model} (X : (KK P).In h) : Looks M h (Bind.staticBase (.ref 143)) (.ref 143) := by
  intro A Q E s k q
  unfold Bind.staticBase
  refine wpAny_bind (looks_mro143 X A _ E s k ?_)
  rw [List.forIn_cons]
  exact wpAny_bind (wpAny_bind (wpAny_bind (made143 X A _ E s k (wpAny_pure (wpAny_pure (wpAny_pure q))))))
theorem mro_self (P : Params) : mroIn (KK P) 143 (.ref 143) = some true := by k_is
theorem call143 (P : Params) : specialIn (KK P) (.ref 143) "__call__" = some (some (.builtin "type.__call__")) := by k_is
theorem inst143 (P : Params) : instIn (KK P) (.ref 143) (.type "type") = some true := by k_is
theorem init143 (P : Params) : findIn (KK P) (.ref 143) "__init__" = some (some (.ref 80)) := by k_is
theorem fn80 (P : Params) : typeIn (KK P) (.ref 80) = some (.type "function") := by k_is
theorem kind_ln : builtinKind "list.__new__" = some .builtinFn := by decide +kernel
theorem split_ln : splitId "list.__new__" = some ("list", "__new__") := by decide +kernel
theorem args_ln (a b : Value) : argsOk "list.__new__" ⟨[a, b], []⟩ := by unfold argsOk; kernel_rfl
noncomputable abbrev bareO (dx : Addr) : Obj := { cls := .ref 143, dict := some dx, data := .seq #[] }
theorem body_L {room : Value} (X : (KK P).In h)
    (hq : R (.ok (.ret (.ref (h.objs.size + 1)))) ⟨(h.push emptyDict).push (bareO h.objs.size), g, d, t, os⟩) :
    codeAny (model prog w) A (.builtin "list.__new__" ⟨[.ref 143, room], []⟩) R ⟨h, g, d, t, os⟩ := by
  have hC := get143 X
  have sub := looks_mroIn (M := model prog w) X (mro_list P)
  have isT : Looks (model prog w) h (isType (.ref 143)) true := fun A Q E s k q => by
    unfold isType
    exact wpAny_bind (wpAny_load (k _ _ hC) (wpAny_pure q))
  have hown := owner_list_new
  refine codeAny_builtin_stack PySem.F.entry_list_new rfl fun p st => ?_
  rw [Around.under_plainId PySem.F.plain_list_new _]
  simp only [hown]
  repeat (first | simp only [Bool.false_eq_true, if_false, Bool.not_true] | lk)
  have hth : typeHasDict (.ref 143) = true := rfl
  have hC2 := Heap.get?_push_of_some (bareO h.objs.size) (Heap.get?_push_of_some emptyDict hC)
  refine nd_load hC2 ?_
  repeat (first | simp only [Bool.false_eq_true, if_false, Bool.not_true] | lk)
  show R _ _
  rw [Heap.size_push]
  exact hq
theorem new_L {room : Value} (X : (KK P).In h)
    (hq : R (.ok (.ret (.ref (h.objs.size + 1)))) ⟨(h.push emptyDict).push (bareO h.objs.size), g, d, t, os⟩) :
    codeAny (model prog w) A (.call (.builtin "list.__new__") ⟨[.ref 143, room], []⟩) R ⟨h, g, d, t, os⟩ := by
  have hC := get143 X
  have made := made143 (M := model prog w) X
  have base := base143 (M := model prog w) X
  have self := looks_mroIn (M := model prog w) X (mro_list P)
  refine codeAny_call_builtin_code (Code.quiet_builtin _ (by decide +kernel)) ?_
  simp only [checkBuiltinCall, kind_ln, split_ln]
  have here : Looks (model prog w) h (Bind.madeHere "list.__new__" (.ref 143)) () := base.andThen (made.andThen (Looks.of_pure (by simp only [Option.map_some, bne_self_eq_false, Bool.false_eq_true, if_false])))
  have ha := args_ln (.ref 143) room
  unfold argsOk at ha
  cases hs : Manifest.signature? "list.__new__" with
  | none => 
    repeat (first | simp only [bne_self_eq_false, Bool.false_eq_true, if_false, beq_self_eq_true, if_true] | lk)
    exact body_L X hq
  | some sig =>
    rw [hs] at ha
    have ha' : Bind.checkArgs "list.__new__" sig ⟨[.ref 143, room], []⟩ = pure () := ha
    simp only [ha']
    repeat (first | simp only [bne_self_eq_false, Bool.false_eq_true, if_false, beq_self_eq_true, if_true] | lk)
    exact body_L X hq
theorem make_L {room : Value} (X : (KK P).In h)
    (hq : codeAny (model prog w) (A.under (.builtin "type.__call__" ⟨[.ref 143, room], []⟩)) (.call (.ref 80) ⟨[.ref (h.objs.size + 1), room], []⟩) (InitBack (h.objs.size + 1) R) ⟨(h.push emptyDict).push (bareO h.objs.size), g, d, t, os⟩) :
    codeAny (model prog w) A (.call (.ref 143) ⟨[room], []⟩) R ⟨h, g, d, t, os⟩ := by
  have hC := get143 X
  have made := made143 (M := model prog w) X
  have self := looks_mroIn (M := model prog w) X (mro_self P)
  have call := looks_specialIn (M := model prog w) X (call143 P)
  have typ := looks_instIn (M := model prog w) X (inst143 P)
  refine codeAny_of_tree ?_
  show wpAny _ _ (callAny (.ref 143) _) _ _ _
  refine nd_load hC ?_
  show wpAny _ _ (callAny.viaDunder (.ref 143) _) _ _ _
  unfold callAny.viaDunder
  refine wpAny_bind (call.at ?_)
  dsimp only
  rw [tc_bind]
  refine wpAny_bind (wpAny_pure (wpAny_bind (wpAny_pure ?_)))
  refine wpAny_pure (a := Fin.again (.call (.builtin "type.__call__") ⟨[.ref 143, room], []⟩)) (And.intro rfl ?_)
  refine codeAny_call_builtin_at (Code.quiet_builtin _ (by decide +kernel)) entry_typeCall (check_slot tc_kind tc_split typ (tc_args _ _ _) ?_)
  unfold Builtin.«type.__call__»
  have hm : Looks (model prog w) h (mroOf (.ref 143)) [.ref 143, .type "list", .type "object"] := looks_mro143 X
  have e4 : ([.ref 143, .type "list", .type "object"] : List Value).isEmpty = false := rfl
  repeat (first | simp only [e4, Bool.false_eq_true, if_false] | with_reducible refine wpAny_call ?_ | lk)
  refine new_L X ?_
  have k : ∀ b o, h.get? b = some o → ((h.push emptyDict).push (bareO h.objs.size)).get? b = some o := fun b o e => Heap.get?_push_of_some _ (Heap.get?_push_of_some _ e)
  have hx : ((h.push emptyDict).push (bareO h.objs.size)).get? (h.objs.size + 1) = some (bareO h.objs.size) := by heap_get
  have t1 : Looks (model prog w) ((h.push emptyDict).push (bareO h.objs.size)) (typeOf (.ref (h.objs.size + 1))) (.ref 143) := (Looks.ld hx).andThen .now
  have s1 := self.keeps k
  have i1 := (looks_findIn (M := model prog w) X (init143 P)).keeps k
  have b1 := (bind_fn (M := model prog w) X (.ref (h.objs.size + 1)) (fn80 P)).keeps k
  unfold isInstance callSpecial? specialOf
  repeat (first | with_reducible refine wpAny_call ?_ | lk)
  refine codeAny_mono hq fun r s' z => ?_
  rcases r with e | (v | _ | _ | _) <;> first | exact z | exact z.elim | skip
  obtain ⟨rfl, z⟩ := z
  exact wpAny_pure (wpAny_pure z)
end
section
variable {prog : Program} {w : World} {A : Around} {E : Value → Shared → Prop} {P : Params} {s : Shared} {x dx : Addr} {R : Result → Shared → Prop}
theorem refuse143 (self : Value) : refuseLoop self "__setattr__" [.ref 143, .type "list", .type "object"] = pure () := by
  rw [refuseLoop_ref]
  have h : classOwn (.type "list") (Str.ofString "__setattr__") = pure none := by kernel_rfl
  have e : refuseLoop self "__setattr__" [.type "list", .type "object"] = refuseLoop self "__setattr__" [.type "object"] := by
    unfold refuseLoop
    rw [List.forIn_cons]
    simp only [h]
    rfl
  rw [e]
  exact PySem.F.store_object.passes self
theorem mro_obj (P : Params) : mroIn (KK P) 143 (.type "object") = some true := by k_is
theorem find_size (P : Params) : findIn (KK P) (.ref 143) "_initial_size" = some none := by k_is
theorem find_set (P : Params) : findIn (KK P) (.ref 143) "__setattr__" = some (some (.builtin "object.__setattr__")) := by k_is
theorem osa_acc {h₀ : Heap} {L : Addr} {m : Str → Option Value} {tk : Tok} {v : Value} (F : Fr h₀ L s.heap m) (N : News h₀ L s.heap [(x, bareO dx), (dx, emptyDict)]) (hne : x ≠ dx) (X : (KK w.params).In s.heap)
    (h : ∀ h', Fr h₀ L h' m → News h₀ L h' [(x, bareO dx), (dx, ⟨.type "dict", none, .dict #[⟨PyData.keyHash w.params "_initial_size", .str "_initial_size" s.toks, v⟩] 1, #[]⟩)] → R (.ok (.ret .none)) { s with heap := h', toks := s.toks + 1 }) :
    codeAny (model prog w) A (.call (.builtin "object.__setattr__") ⟨[.ref x, .str "_initial_size" tk, v], []⟩) R s := by
  have SF := PySem.F.store_object
  have I : InstAt s.heap x (bareO dx) 143 (some emptyDict) := ⟨(N _ (by k_mem)).1, rfl, rfl, (N (dx, emptyDict) (by k_mem)).1⟩
  have sub : Looks (model prog w) s.heap (isInstance (.ref x) (.type "object")) true := I.type.andThen (looks_mroIn X (mro_obj _))
  refine codeAny_call_builtin SF.slot.plain SF.entry (@check_slot (model prog w) _ _ s "object.__setattr__" "object" "__setattr__" (.ref x) [.str "_initial_size" tk, v] [] _ SF.kind SF.split sub (SF.args (.ref x) (.str "_initial_size" tk) v) ?_)
  rw [osa_eq, refuse_eq]
  refine wpAny_bind (wpAny_bind (I.type.here (wpAny_bind ((looks_mro143 X).here ?_))))
  rw [refuse143]
  refine wpAny_pure (wpAny_bind (I.type.here (wpAny_bind ((looks_findIn X (find_size _)).here (wpAny_bind ?_)))))
  refine (Looks.now (a := (none : Option Value))).here ?_
  obtain ⟨U1, U2⟩ := news_upd (pre := [(x, bareO dx)]) (post := []) (d := dx) (o := emptyDict) (o' := ⟨.type "dict", none, .dict #[⟨PyData.keyHash w.params "_initial_size", .str "_initial_size" s.toks, v⟩] 1, #[]⟩) (f := Obj.putName "_initial_size" (PyData.keyHash w.params "_initial_size") (.str "_initial_size" s.toks) v) F N (by simpa using hne) (by simp) (by rfl) rfl
  have D := (N (dx, emptyDict) (by simp)).1
  have D' := (U2 _ (List.mem_append_right _ (List.mem_cons_self ..))).1
  have hx := I.at_
  refine wpAny_bind (wpAny_pure (wpAny_bind (wpAny_bind (wpAny_loadPart hx (wpAny_bind ((looks_clsIn X (cls143 _)).here ?_))))))
  refine wpAny_pure (a := some dx) (wpAny_bind (wpAny_pure (wpAny_bind ?_)))
  unfold nsSet
  refine wpAny_bind (wpAny_bind (wpAny_askSetting (wpAny_pure (wpAny_bind (wpAny_mkText (wpAny_bind (wpAny_loadPart D ?_)))))))
  dsimp only
  have c : (!(#[] : Array DictEntry).any (·.key.isStr "_initial_size") && (#[] : Array DictEntry).any (·.refKey)) = false := by simp
  rw [aRefKeyMayBeTheName_at, c]
  refine wpAny_updatePart D ?_
  refine wpAny_bind (wpAny_lookBehind D' (pastItsLine_dict (by simp [sizeLine])) ?_)
  exact wpAny_pure (h _ U1 U2)
theorem set_acc {h₀ : Heap} {L : Addr} {m : Str → Option Value} {v : Value} {Q : Unit → Shared → Prop} (F : Fr h₀ L s.heap m) (N : News h₀ L s.heap [(x, bareO dx), (dx, emptyDict)]) (hne : x ≠ dx) (X : (KK w.params).In s.heap)
    (h : ∀ h', Fr h₀ L h' m → News h₀ L h' [(x, bareO dx), (dx, ⟨.type "dict", none, .dict #[⟨PyData.keyHash w.params "_initial_size", .str "_initial_size" (s.toks + 1), v⟩] 1, #[]⟩)] → Q () { s with heap := h', toks := s.toks + 2 }) :
    wpAny (model prog w) A (setAttr (.ref x) "_initial_size" v) Q E s := by
  have I : InstAt s.heap x (bareO dx) 143 (some emptyDict) := ⟨(N _ (by k_mem)).1, rfl, rfl, (N (dx, emptyDict) (by k_mem)).1⟩
  exact set_plain X I (find_set _) (osa_acc (s := { s with toks := s.toks + 1 }) F N hne X fun h' F' N' => h h' F' N')
end
section
variable {prog : Program} {w : World} {A : Around} {E : Value → Shared → Prop} {s : Shared}
theorem call_bound_init {b x dx : Addr} {Q : Value → Shared → Prop}
    (hb : s.heap.get? b = some ⟨.type "method-wrapper", none, .fields #[.builtin "list.__init__", .ref x], #[]⟩)
    (ho : s.heap.get? x = some (bareO dx))
    (hQ : Q .none { s with heap := s.heap.update x (Obj.mapSeq fun _ => #[]) }) : wpAny (model prog w) A (call (.ref b) []) Q E s := by
  refine wpAny_call (codeAny_of_tree ?_)
  show wpAny _ A.in1 (callAny (.ref b) ⟨[], []⟩) _ _ s
  unfold callAny
  refine wpAny_bind (wpAny_load hb ?_)
  have hk : builtinKind "list.__init__" = some .slot := by decide +kernel
  have hm : (Manifest.AttrKind.slot != .method && Manifest.AttrKind.slot != .classMethod) = true := by decide
  have ha := PySem.F.args_list_init_1 (.ref x)
  have hc : ∀ {Q : Unit → Shared → Prop} {A : Around} {E : Value → Shared → Prop}, Q () s → wpAny (model prog w) A (checkBoundCall "list.__init__" ⟨[.ref x], []⟩) Q E s := by
    intro Q A E hq
    cases hs : Manifest.signature? "list.__init__" with
    | none => simp only [checkBoundCall, hs]; exact wpAny_pure hq
    | some sig =>
      unfold argsOk at ha
      rw [hs] at ha
      simp only [checkBoundCall, hs, hk, hm, if_true]
      exact wpAny_of_eq ha hq
  refine wpAny_bind (hc ?_)
  refine wpAny_pure ⟨plainId_quiet (by decide +kernel) _, codeAny_builtin PySem.F.entry_list_init ?_⟩
  show wpAny _ _ (Builtin.List.listItems (.ref x) >>= fun xs => _) _ _ s
  unfold Builtin.List.listItems
  refine wpAny_bind (wpAny_bind (wpAny_seqItems ho rfl (wpAny_pure ?_)))
  refine wpAny_bind ?_
  refine wpAny_updateSeq ho rfl ?_ (by simp [sizeLine]) (by simp [sizeLine])
  refine wpAny_bind (wpAny_letGo (wpAny_pure ?_))
  exact hQ
end
theorem p_make (w : World) (room : Int) (t : CbTok) (dp un : Nat) (gd : Option (List Code)) (cn : Str) (cs : Scope) (a : Addr) (ccd : Value) (cl : List (Str × Addr)) (outer : List Env) (A₀ : Around) (base h₀ : Heap) (L : Addr) (m : Str → Option Value)
    (mean : ExcName → Option Value) (mg mb : Str → Option Value) (s : Shared) (Q E : Value → Shared → Prop)
    (B : Below A₀ base outer h₀) (F : Fr h₀ L s.heap m) (X : (KK w.params).In h₀) (T : Top vw Mine.lw mean mg mb h₀) (hk : cs.kind = .function) (hd : dp + 2 < recursionLimit) (hu : un + 24 < cLine)
    (hret : ∀ (x dx : Addr) (t1 t2 : Tok) (h' : Heap) (tk' : Nat), (∀ b o, s.heap.get? b = some o → h'.get? b = some o) → s.heap.get? x = none → s.heap.get? dx = none → x ≠ dx → h'.get? x = some (pileO dx [] 0) → h'.get? dx = some (pileD w.params t1 t2 room) → Q (.ref x) { s with heap := h', toks := tk' }) :
    wpAny (model pw w) (ktrTop dp un gd cn cs L a ccd cl outer) (call (.ref 143) [.int room t]) Q E s := by
  refine wpAny_call ?_
  refine make_L (P := w.params) (X.keeps F.keep) ?_
  have F1 : Fr h₀ L ((s.heap.push emptyDict).push (bareO s.heap.objs.size)) m := (F.push _).push _
  have N1 : News h₀ L ((s.heap.push emptyDict).push (bareO s.heap.objs.size)) [(s.heap.objs.size + 1, bareO s.heap.objs.size), (s.heap.objs.size, emptyDict)] := by
    have N0 : News h₀ L s.heap [] := fun p hp => by cases hp
    have := (N0.push F emptyDict).push (F.push _) (bareO s.heap.objs.size)
    rwa [Heap.size_push] at this
  k_dflt (refine' code_changesS (binds := [(Str.ofString "self", .ref (s.heap.objs.size + 1)), (Str.ofString "initial_size", .int room t)]) ?nw ?k1 ?k2 ?k3 ?kN ?k5 ?kA ?kF ?kK ?k6 ?k7 ?k8 ?k9 ?kB ?_ ?c5 ?c2 ?c3 ?c4; (case kA => exact rfl); (case kF => exact rfl); (case kK => assumption); (case k1 => k_asm); (case k2 => k_asm); (case k3 => k_asm); (case kN => k_asm); (case k5 => k_asm); (case k6 => k_is); (case k7 => k_is); (case k8 => ktr_room); (case k9 => exact BindsTo.of_defaults (T := 72) rfl ((X.keeps F1.keep) 72 _ rfl) rfl rfl rfl); (case c5 => decide); (case kB => exact locs rfl); (case c2 => exact rfl); (case c3 => exact rfl); (case c4 => exact rfl); k_whole; intro g' L' h' kp' kq' F' N' B' X' T'; (try dsimp only); (try k_lift B'); (try k_fold))
  iterate 5 (first | walk1 | (dsimp only; walk1))
  rename Fr _ _ _ _ => F9; rename News _ _ _ _ => N9; rename Frag.In _ _ => X9; rename Top _ _ _ _ _ _ => T9; rename Below _ _ _ _ => B9
  refine set_acc F9 N9 (Nat.succ_ne_self _) (X9.keeps F9.keep) fun h8 F8 N8 => ?_
  clear F9 N9
  dsimp only
  refine ks_wpAt_execs_cons ?_
  refine ks_wpAt_Expr_any ?_
  refine ks_wpAt_MethodCall ?_
  generalize hx9 : s.heap.objs.size + 1 = x9 at *
  generalize hd9 : s.heap.objs.size = d9 at *
  refine ks_node (K := KK w.params) (x := x9) (C := 143) (ox := bareO d9) (odx := some _) F8 X9 N8 T9 (by k_is) (by rfl) (by rfl) ⟨(N8 _ (by k_mem)).1, rfl, rfl, (N8 (d9, _) (by k_mem)).1⟩ (by k_is) (by rfl) (by first | rfl | decide +kernel) (by k_is) (by k_is) (by k_is) (by k_is) (by decide) (by rfl) (by rfl) (by rfl) (by rfl) (by decide +kernel) (by first | boot_by_name | rfl | kernel_rfl) ?_
  intro so' h7 F7 N7 l7
  have XX := X9.keeps F7.keep
  have II : InstAt h7 x9 (bareO d9) 143 (some _) := ⟨(N7 (x9, bareO d9) (by k_mem)).1, rfl, rfl, (N7 (d9, _) (by k_mem)).1⟩
  refine getMethod_super (D := 143) (C := 143) (ox := bareO d9) (id := "list.__init__") (cl := "method-wrapper") (N7 _ (List.mem_cons_self ..)).1 (looks_opaque XX (opq _)) (looks_mro143 XX) rfl XX (along_init _) II.at_ rfl (looks_mroIn XX (mro_list _)) (ks_ne XX II (cls143 _)) (by decide) (.inr (.inr ⟨rfl, rfl⟩)) ?_
  have hb := Heap.get?_push_at (h := h7) (o := { cls := .type "method-wrapper", data := .fields #[.builtin "list.__init__", .ref x9] }) rfl rfl
  have up : ∀ b o, h7.get? b = some o → (h7.push { cls := .type "method-wrapper", data := .fields #[.builtin "list.__init__", .ref x9] }).get? b = some o := fun b o e => Heap.get?_push_of_some _ e
  refine callWith_bound (.inr rfl) hb ?_
  have hx8 := up _ _ II.at_
  refine call_bound_init hb hx8 ?_
  dsimp only
  refine wpAt_of_wpAny (wpAny_execs_nil ?_)
  refine ⟨rfl, ?_⟩
  have hgx : ((h7.push { cls := .type "method-wrapper", data := .fields #[.builtin "list.__init__", .ref x9] }).update x9 (Obj.mapSeq fun _ => #[])).get? x9 = _ := Heap.get?_update_self _ hx8 rfl
  have hs8 : ∀ b o, s.heap.get? b = some o → b < d9 := fun b o e => by rw [← hd9]; exact Heap.lt_size e
  have hn : ∀ b, d9 ≤ b → s.heap.get? b = none := fun b hb => by
    cases e : s.heap.get? b with
    | none => rfl
    | some o => exact absurd (hs8 b o e) (Nat.not_lt.mpr hb)
  rename ∀ b o, b ∉ _ → _ → _ => kp8
  have hlt : ∀ b : Nat, b < d9 → b ≠ x9 ∧ b ≠ d9 := fun b hb => by omega
  have hxd : x9 ≠ d9 := by omega
  show Q (.ref x9) _
  have hD := (Heap.get?_update_other (h7.push { cls := .type "method-wrapper", data := .fields #[.builtin "list.__init__", .ref x9] }) (Obj.mapSeq fun _ => #[]) hxd).trans (up _ _ (N7 _ (List.mem_cons_of_mem _ (List.mem_cons_of_mem _ (List.mem_cons_self ..)))).1)
  refine hret x9 d9 _ _ _ _ (fun b o e => ?_) (hn _ (by omega)) (hn _ (Nat.le_refl _)) hxd (hgx.trans rfl) hD
  have hb9 := hlt b (hs8 b o e)
  refine (Heap.get?_update_other _ _ (Ne.symm hb9.1)).trans (up _ _ (F7.keep _ _ (kp8 b o ?_ (Heap.get?_push_of_some _ (Heap.get?_push_of_some _ e)))))
  simp only [List.map_cons, List.map_nil, List.mem_cons, List.not_mem_nil, or_false, not_or]
  exact hb9
end Mine
end
section
open PySem PySem.W PyProof.Rows PySem.Spec PySem.Calls PyProof.V
namespace Mine
/-- a base in which nothing but the table P has changed -/
structure NewBase (h₀ h₀' : Heap) (c P : Addr) (ps' : Array Value) : Prop where
  keep : ∀ b o, b ≠ P → h₀.get? b = some o → h₀'.get? b = some o
  size : h₀'.objs.size = h₀.objs.size
  code : h₀'.IsCode c P ps'
  tab : h₀'.TableAt c P ps'
section
variable {prog : Program} {w : World} {A : Around} {E : Value → Shared → Prop} {s : Shared} {h₀ : Heap} {c P L : Addr} {ps : Array Value} {m mg : Str → Option Value} {bm : Addr} {ob : Obj}
theorem gexp {env : Env} {elt iter : Expr} {xa xb : Str} {pa pb pt : Pos} {kt : Nat} {scope : Scope} {pos : Pos} {Q : Value → Shared → Prop}
    (_F : Fr h₀ L s.heap m) (hIs : h₀.IsCode c P ps) (hTab : h₀.TableAt c P ps) (hPs : P ≠ cStatics) (M : BMod h₀ env.globals mg bm ob) (hcode : env.code = .ref c)
    (hh : A.handled = none) (hco : scope.isCoroutine = false) (hclos : closureFor scope env = pure []) (hcell : ∀ y ∈ scope.names, y.2 ≠ .cell) (h0 : scope.names.lookup (".0" : Str) = some NameKind.local)
    (hxa : scope.names.lookup xa = some .local) (hxb : scope.names.lookup xb = some .local) (hab : xa ≠ xb) (hkind : scope.kind = .function) (hroom : A.depth < recursionLimit)
    (h : wpAny (model prog w) A (eval iter env) (fun xv s₁ => wpAny (model prog w) A (pyIter xv) (fun it s₂ => Fr h₀ L s₂.heap m ∧ AllBare s₂.gens ∧ s₂.heap.NoLimit ∧
      ∃ I fp wr n₀ Pt St₀ Mid, ∃ (F : Nat → Value → Prop), it = .ref I ∧ (∀ A' : Around, A'.handled = none → WalksU prog w A' I fp wr n₀ Pt St₀ Mid) ∧ (∀ i vals, Pt i vals → ∃ va vb, vals = #[va, vb]) ∧ St₀ 0 s₂.heap ∧ (∀ b ∈ fp, b < s₂.heap.objs.size) ∧ P ∉ fp ∧ (∀ b ∈ wr, L < b) ∧
        (∀ (h₀' : Heap) (ps' : Array Value) (code : Value) (C : Addr) (A' : Around) E' i va vb (t : Shared) m₂, NewBase h₀ h₀' c P ps' → A'.handled = none → A'.depth ≤ A.depth + 1 → A'.units ≤ A.units + 8 → Pt i #[va, vb] → Fr h₀' C t.heap m₂ → m₂ xa = some va → m₂ xb = some vb → L < C →
          wpAny (model prog w) A' (eval elt (genEnv scope [] C code builtinsNs env)) (fun y s₃ => F i y ∧ Keeps t s₃) E' t) ∧
        (∀ (h₀' : Heap) (ps' : Array Value) (a : Addr) (s₅ : Shared), NewBase h₀ h₀' c P ps' → Fr h₀' L s₅.heap m → AllBare s₅.gens → s₅.os = s₂.os → s₅.drawn = s₂.drawn →
          Gen prog w A L a n₀ F s₅ → Q (.ref a) s₅)) E s₁) E s)
    (hs : ∀ x, genFold iter env x = pure x) :
    wpAny (model prog w) A (eval (.GeneratorExp elt [⟨.Tuple [.Name xa pa, .Name xb pb] kt pt, iter, [], 0⟩] scope pos) env) Q E s := by
  refine wpAny_GeneratorExp_walksQTD hh hco hclos hcell h0 hxa hxb hab hkind hroom (wpAny_mono h (fun xv s₁ h₁' => wpAny_mono h₁' (fun it s₂ h₂ => ?_) fun _ _ e => e) fun _ _ e => e) hs
  obtain ⟨F₂, G₂, hlim, I, fp, wr, n₀, Pt, St₀, Mid, F, rfl, W₀, hsz2, hst, hfp, hPf, hwr, hq2, hQ⟩ := h₂
  refine ⟨hlim, ?_⟩
  have core : ∀ (h₀' : Heap) (ps' : Array Value) (code : Value) (h₃ : Heap) (tk₃ : Nat), NewBase h₀ h₀' c P ps' → Heap.ExtBut P s₂.heap h₃ → s₂.heap.objs.size ≤ h₃.objs.size → Fr h₀' L h₃ m →
      wpAny (model prog w) A (builtinsFor env.globals env.builtins) (fun bi s₄ =>
        ∃ I' fp wr n₀ Pt St₀ Mid pz F, Value.ref I = .ref I' ∧ (∀ A' : Around, A'.handled = none → WalksU prog w A' I' fp wr n₀ Pt St₀ Mid) ∧ (∀ i vals, Pt i vals → ∃ va vb, vals = #[va, vb]) ∧ St₀ 0 s₄.heap ∧ (∀ b ∈ fp, b < s₄.heap.objs.size) ∧ s₄.heap.NoLimit ∧ cStatics ∉ wr ∧
          (∀ href : Heap, (∀ b o, s₄.heap.get? b = some o → href.get? b = some o) →
            QuietGenTD prog w (genEnv scope [] s₄.heap.objs.size code bi env) xa xb [] elt (List.range s₄.heap.objs.size) wr Pt pz F href (A.depth + 1) (A.units + 8)) ∧
          (∀ a h₅ tk gs, gs.bare = true → s₄.heap.objs.size < a → h₅.objs.size = a + 1 → (∀ b o, s₄.heap.get? b = some o → h₅.get? b = some o) →
            WalksS prog w A.in4 a (a :: s₄.heap.objs.size :: List.range s₄.heap.objs.size) (s₄.heap.objs.size :: wr) (GenOnlyQ s₄.gens.size) (passing pz n₀ 0).length
              (fun j y => ∃ i, (passing pz n₀ 0)[j]? = some i ∧ F i y) (GenAt prog w A.in4 a s₄.gens.size s₄.heap.objs.size (List.range s₄.heap.objs.size) wr pz n₀ F) →
            GenAt prog w A.in4 a s₄.gens.size s₄.heap.objs.size (List.range s₄.heap.objs.size) wr pz n₀ F 0 { s₄ with gens := s₄.gens.push gs, toks := tk, heap := h₅ } →
            Q (.ref a) { s₄ with gens := s₄.gens.push gs, toks := tk, heap := h₅ })) E { s₂ with heap := h₃, toks := tk₃ } := by
    intro h₀' ps' code h₃ tk₃ NB hx₃ hsz F₃
    have hcP : cStatics ≠ P := Ne.symm hPs
    have M₃ : BMod h₃ env.globals mg bm ob := (M.keeps F₂.keep).extBut (hTab.keeps F₂.keep) hx₃
    have hl₃ : h₃.NoLimit := hlim.extBut hx₃ hcP
    have hcw : cStatics ∉ wr := fun hm => by
      have h1 : L < cStatics := hwr _ hm
      have hL : L ≤ 1 := Nat.le_of_lt_succ h1
      have hb : bm < 1 := Nat.lt_of_lt_of_le (Heap.lt_size M.obj) (Nat.le_trans F₂.above hL)
      exact M.ne (Nat.lt_one_iff.mp hb)
    refine wpAny_builtinsFor M₃.ns M₃.name M₃.ne M₃.obj M₃.cls M₃.dict M₃.data ?_
    have hLC : L < h₃.objs.size := Nat.lt_of_lt_of_le F₂.ns.lt hsz
    refine ⟨I, fp, wr, n₀, Pt, St₀, Mid, fun _ => true, F, rfl, W₀, hsz2, (W₀ A hh).frame _ _ _ hst (fun b hb o e => hx₃ b o (fun e' => hPf (e' ▸ hb)) e), (fun b hb => Nat.lt_of_lt_of_le (hfp b hb) hsz), hl₃, hcw,
      (fun href hhref => ?_), fun a h₅ tk gs hgb hag hsz₅ hk₅ W hat => ?_⟩
    · have inB : ∀ (t : Shared) m₂, t.heap.Ns h₃.objs.size m₂ → (∀ b ∈ List.range h₃.objs.size, b ∉ wr → ∀ o, href.get? b = some o → t.heap.get? b = some o) →
          Fr h₀' h₃.objs.size t.heap m₂ := fun t m₂ hn hkp =>
        ⟨hn, fun b o e => hkp b (List.mem_range.mpr (Heap.lt_size (F₃.keep b o e))) (fun hm => Nat.lt_irrefl _ (Nat.lt_trans (Nat.lt_of_lt_of_le (Heap.lt_size e) F₃.above) (hwr b hm))) o (hhref b o (F₃.keep b o e)),
          Nat.le_trans F₃.above (Nat.le_of_lt hLC)⟩
      exact ⟨fun A' E' i va vb t m₂ hA hD hU hP hn hma hmb hkp => wpAny_pure ⟨rfl, _, _, rfl, fun _ _ e => e⟩,
        fun A' E' i va vb t m₂ hA hD hU hP hp hn hma hmb hkp => hq2 h₀' ps' code _ A' E' i va vb t m₂ NB hA hD hU hP (inB t m₂ hn hkp) hma hmb hLC⟩
    · have hpass : passing (fun _ => true) n₀ 0 = List.range n₀ := by simp [passing]
      refine hQ h₀' ps' a _ NB (F₃.keeps hk₅) (G₂.push hgb) rfl rfl ?_
      have X : Gen prog w A L a (passing (fun _ => true) n₀ 0).length (fun j y => ∃ i, (passing (fun _ => true) n₀ 0)[j]? = some i ∧ F i y) _ := ⟨_, _, _, _, W, hat, (fun i s' st => st.1.typeIs), List.mem_cons_self, ?_, ?_⟩
      · rw [hpass] at X
        have hlen : (List.range n₀).length = n₀ := List.length_range
        rw [hlen] at X
        refine X.imp fun j y hy => ?_
        obtain ⟨i, hi, hf⟩ := hy
        obtain ⟨_, e9⟩ := List.getElem?_eq_some_iff.mp hi
        rw [List.getElem_range] at e9
        have : i = j := e9.symm
        rw [← this]; exact hf
      · intro b hb
        show b < h₅.objs.size
        rw [hsz₅]
        rcases List.mem_cons.mp hb with rfl | hb
        · exact Nat.lt_succ_self _
        · rcases List.mem_cons.mp hb with rfl | hb
          · exact Nat.lt_succ_of_lt hag
          · exact Nat.lt_succ_of_lt (Nat.lt_trans (List.mem_range.mp hb) hag)
      · intro b hb
        rcases List.mem_cons.mp hb with rfl | hb
        · exact Nat.lt_of_lt_of_le F₂.ns.lt hsz
        · exact hwr b hb
  cases hnf : codeAmong pos ps.toList with
  | some c' =>
    refine wpAny_genexprCode_hit hcode (hIs.keeps F₂.keep) hnf ?_
    exact core h₀ ps c' s₂.heap s₂.toks ⟨fun _ _ _ e => e, rfl, hIs, hTab⟩ (fun _ _ _ e => e) (Nat.le_refl _) F₂
  | none =>
    refine wpAny_genexprCodeX hcode (hIs.keeps F₂.keep) (hTab.keeps F₂.keep) hnf fun c' h₃ tk₃ hx₃ hge hlt hcode₃ _ htab₃ _ => ?_
    have B : Based h₀ h₀ c P ps := Based.start hIs hTab hPs
    obtain ⟨B₃, F₃⟩ := B.grow F₂ hx₃ hcode₃ htab₃
    refine core _ _ (.ref c') h₃ tk₃ ⟨fun b o hb e => (Heap.get?_update_other _ _ (Ne.symm hb)).trans e, (Heap.SameBut.update _ P _).1, B₃.code, B₃.tab⟩ hx₃ (Nat.le_trans hge (Nat.le_of_lt hlt)) F₃
end
end Mine
end
section
open PySem PySem.W PyProof.Rows PySem.Spec PySem.Calls PyProof.V
namespace Mine
theorem iter143 (P : Params) : findIn (KK P) (.ref 143) "__iter__" = some (some (.builtin "list.__iter__")) := by k_is
theorem str143 (P : Params) : findIn (KK P) (.ref 143) "__str__" = some (some (.ref 117)) := by k_is
theorem len143 (P : Params) : findIn (KK P) (.ref 143) "__len__" = some (some (.ref 110)) := by k_is
/-- the items of an object, whatever its class -/
noncomputable def SeqAt (h : Heap) (l : Addr) (items : Array Value) : Prop := ∃ o n, h.get? l = some o ∧ o.data = .seq items n
theorem SeqAt.kp {h h' : Heap} {l : Addr} {items : Array Value} (x : SeqAt h l items) (hk : ∀ o, h.get? l = some o → h'.get? l = some o) : SeqAt h' l items :=
  let ⟨o, n, a, b⟩ := x; ⟨o, n, hk _ a, b⟩
section
variable {prog : Program} {w : World} {A : Around} {E : Value → Shared → Prop} {s : Shared}
theorem seq_item {it l : Addr} {i : Nat} {items} {x : Value} {Q : Option Value → Shared → Prop} (hit : s.heap.IsListIter it l i)
    (hl : SeqAt s.heap l items) (hx : items[i]? = some x)
    (hQ : ∀ h', h'.IsListIter it l (i + 1) → Heap.SameBut it s.heap h' → Q (some x) { s with heap := h' }) :
    wpAny (model prog w) A (pyNext (.ref it)) Q E s := by
  obtain ⟨o, ho, hc, hd⟩ := id hit
  obtain ⟨ol, nl, hol, hdl⟩ := hl
  unfold pyNext
  refine wpAny_bind (wpAny_attempt (wpAny_callSpecial?_slot (name := Str.ofString "__next__") hit.typeIs slot_listiter_next
    (wpAny_call_entry slot_listiter_next hit.typeIs entry_listiter_next ?_ (args_listiter_next _))))
  show wpAny _ _ (field (.ref it) 0 >>= _) _ _ s
  refine wpAny_bind (wpAny_field ho hd (x := .ref l) rfl ?_)
  show wpAny _ _ (if (Value.ref l == Value.none) = true then _ else _) _ _ s
  rw [if_neg (show ¬ ((Value.ref l == Value.none) = true) from Bool.false_ne_true)]
  show wpAny _ _ (field (.ref it) 1 >>= _) _ _ s
  refine wpAny_bind (wpAny_field ho hd (x := .int i 0) rfl ?_)
  show wpAny _ _ (seqItems? (.ref l) >>= _) _ _ s
  refine wpAny_bind (wpAny_seqItems hol hdl ?_)
  simp only [Int.toNat_natCast, hx]
  refine wpAny_bind (wpAny_setField ho hd (by simp) (wpAny_pure ⟨x, rfl, wpAny_pure (hQ _ ?_ (Heap.SameBut.update ..))⟩))
  exact ⟨_, Heap.get?_update_self _ ho (Obj.isFreed_of_fields (Obj.data_mapFields hd _)), (Obj.cls_mapFields ..).trans hc, by
    rw [Obj.data_mapFields hd]; simp [rawInt]⟩
theorem seq_end {it l : Addr} {i : Nat} {items} {Q : Option Value → Shared → Prop} (hh : A.handled = none)
    (hit : s.heap.IsListIter it l i) (hl : SeqAt s.heap l items) (hx : items[i]? = none)
    (hQ : ∀ h', Heap.ExtBut it s.heap h' → Q none { s with heap := h' }) : wpAny (model prog w) A (pyNext (.ref it)) Q E s := by
  obtain ⟨o, ho, hc, hd⟩ := id hit
  obtain ⟨ol, nl, hol, hdl⟩ := hl
  unfold pyNext
  refine wpAny_bind (wpAny_attempt (wpAny_callSpecial?_slot (name := Str.ofString "__next__") hit.typeIs slot_listiter_next
    (wpAny_call_entry slot_listiter_next hit.typeIs entry_listiter_next ?_ (args_listiter_next _))))
  show wpAny _ _ (field (.ref it) 0 >>= _) _ _ s
  refine wpAny_bind (wpAny_field ho hd (x := .ref l) rfl ?_)
  show wpAny _ _ (if (Value.ref l == Value.none) = true then _ else _) _ _ s
  rw [if_neg (show ¬ ((Value.ref l == Value.none) = true) from Bool.false_ne_true)]
  show wpAny _ _ (field (.ref it) 1 >>= _) _ _ s
  refine wpAny_bind (wpAny_field ho hd (x := .int i 0) rfl ?_)
  show wpAny _ _ (seqItems? (.ref l) >>= _) _ _ s
  refine wpAny_bind (wpAny_seqItems hol hdl ?_)
  simp only [Int.toNat_natCast, hx]
  refine wpAny_bind (wpAny_rule (wpAny_bind (wpAny_setField ho hd (by simp) ?_)))
  show wpAny _ _ (newExc (.type "StopIteration") [] >>= _) _ _ _
  refine wpAny_bind ?_
  simp only [newExc, newTuple]
  refine wpAny_bind (wpAny_newObj_type ?_ (by size_fits))
  refine wpAny_bind (m := firstArgMember _ _) (wpAny_of_eq (a := Value.none) (by first | rfl | (simp only [firstArgMember]; rfl)) ?_)
  refine wpAny_newObj_type ?_ (by size_fits)
  simp only [raiseNew]
  refine wpAny_bind (wpAny_handled ?_)
  rw [show A.in1.handled = none from hh]
  refine wpAny_bind (wpAny_pure (wpAny_throw ?_))
  refine wpAny_bind (wpAny_isInstance (T := "StopIteration") (b := true) ⟨_, Heap.get?_push_size _ rfl, rfl⟩ isSubtype_stop ?_)
  exact wpAny_pure (hQ _ (((Heap.SameBut.update ..).extBut.push _).push _))
/-- the walk over the pile, whose items are pairs -/
theorem walks_pile (hh : A.handled = none) (I ax : Addr) (hne : ax ≠ I) (items : Array Value) (Ts : Nat → Addr) (vals : Nat → Array Value)
    (hit : ∀ j, j < items.size → items[j]? = some (.ref (Ts j))) (hTI : ∀ j, j < items.size → Ts j ≠ I) :
    WalksU prog w A I (I :: ax :: (List.range items.size).map Ts) [I] items.size (fun j v => v = vals j)
      (fun j h => h.IsListIter I ax j ∧ SeqAt h ax items ∧ ∀ k, k < items.size → h.IsTuple (Ts k) (vals k))
      (fun j T h => (j < items.size ∧ T = Ts j) ∧ h.IsListIter I ax (j + 1) ∧ SeqAt h ax items ∧ ∀ k, k < items.size → h.IsTuple (Ts k) (vals k)) where
  sub := fun b hb => by simp at hb; simp [hb]
  frame := fun _ _ _ st hk => ⟨st.1.at fun o e => hk I (by simp) o e, st.2.1.kp fun o e => hk ax (by simp) o e,
    fun k hk' => (st.2.2 k hk').at fun o e => hk (Ts k) (List.mem_cons_of_mem _ (List.mem_cons_of_mem _ (List.mem_map.mpr ⟨k, List.mem_range.mpr hk', rfl⟩))) o e⟩
  item := fun i s Q E hi st hQ => by
    refine seq_item st.1 st.2.1 (x := .ref (Ts i)) (hit i hi) fun h' hit' hs' => ?_
    have tup : ∀ k, k < items.size → h'.IsTuple (Ts k) (vals k) := fun k hk' => (st.2.2 k hk').extBut hs'.extBut (hTI k hk')
    exact hQ (Ts i) (vals i) h' s.toks rfl (tup i hi) ⟨⟨hi, rfl⟩, hit', st.2.1.kp (fun o e => hs'.extBut _ _ hne e), tup⟩ fun b o hb e => hs'.extBut b o (fun h => hb (by simp [h])) e
  go := fun _ _ _ _ _ s Q _ hm hQ => wpAny_letOwnedTupleGo_listiter hm.2.1 (hQ s.heap hm.2 fun _ _ _ e => e)
  apart := fun j T _ hm hmem => by
    rcases List.mem_cons.mp hmem with e | e
    · exact hTI j hm.1.1 (hm.1.2 ▸ e)
    · cases e
  done := fun s Q E st hQ => seq_end hh st.1 st.2.1 (by simp) fun h' he' => hQ h' s.toks fun b o hb e => he' b o (fun h => hb (by simp [h])) e
  self := fun _ _ _ _ st hQ => wpAny_pyIter_listiter st.1 hQ
theorem iter_pile {x dx : Addr} {P : Params} {its : Array Value} {n : Nat} {Q : Value → Shared → Prop} (X : (KK P).In s.heap) (ho : s.heap.get? x = some ⟨.ref 143, some dx, .seq its n, #[]⟩)
    (hQ : Q (.ref s.heap.objs.size) { s with heap := s.heap.push { cls := .type "list_iterator", data := .fields #[.ref x, .int 0 0] } }) :
    wpAny (model prog w) A (pyIter (.ref x)) Q E s := by
  have ty : Looks (model prog w) s.heap (typeOf (.ref x)) (.ref 143) := (Looks.ld ho).andThen .now
  have li := looks_findIn (M := model prog w) X (iter143 P)
  have fin : wpAny (model prog w) A (call (.builtin "list.__iter__") [.ref x] >>= fun v => pure (some v)) (fun r s' => r = some (.ref s.heap.objs.size) ∧ s' = { s with heap := s.heap.push { cls := .type "list_iterator", data := .fields #[.ref x, .int 0 0] } }) E s := by
    refine wpAny_bind ?_
    refine wpAny_call (codeAny_call_builtin (by decide +kernel) entry_list_iter (check_sub (owner := "list") (n := "__iter__") (by decide +kernel) (.inr (by decide +kernel)) ho rfl (looks_mroIn X (mro_list P)) (args_list_iter _) ?_))
    show wpAny _ _ (do ret (← newFields "list_iterator" [.ref x, rawInt 0])) _ _ s
    exact wpAny_bind (wpAny_newObj_type (wpAny_pure (wpAny_pure ⟨rfl, rfl⟩)))
  have one : ∀ refuse : Sem Value, wpAny (model prog w) A (callSpecialIfBoundUnlessNone? (.ref x) "__iter__" refuse) (fun r s' => r = some (.ref s.heap.objs.size) ∧ s' = { s with heap := s.heap.push { cls := .type "list_iterator", data := .fields #[.ref x, .int 0 0] } }) E s := by
    intro refuse
    simp only [callSpecialIfBoundUnlessNone?, bindSpecialIfBound?]
    refine wpAny_holding (wpAny_bind (wpAny_bind (wpAny_bind (ty.here (li.here ?_)))))
    simp only [slot_list_iter.bind]
    refine wpAny_bind (wpAny_askSetting (wpAny_ite ?_))
    have fin2 : wpAny (model prog w) A (if (Value.builtin "list.__iter__" == Value.none) = true then (refuse >>= fun v => pure (some v)) else (call (.builtin "list.__iter__") [.ref x] >>= fun v => pure (some v))) (fun r s' => r = some (.ref s.heap.objs.size) ∧ s' = { s with heap := s.heap.push { cls := .type "list_iterator", data := .fields #[.ref x, .int 0 0] } }) E s := by
      rw [if_neg (show ¬ ((Value.builtin "list.__iter__" == Value.none) = true) from Bool.false_ne_true)]
      exact fin
    split
    · exact wpAny_bind (wpAny_pure (wpAny_pure fin2))
    · exact wpAny_tryCatch (wpAny_bind (wpAny_pure (wpAny_pure fin2)))
  unfold pyIter
  refine wpAny_bind (wpAny_bind (ty.here (li.here ?_)))
  show wpAny _ A (callSpecialIfBoundUnlessNone? (.ref x) "__iter__" _ >>= _) Q E s
  refine wpAny_bind (wpAny_mono (one _) (fun r s' hr => ?_) fun _ _ z => z)
  obtain ⟨rfl, rfl⟩ := hr
  exact wpAny_bind (wpAny_specialOf (T := "list_iterator") ⟨_, Heap.get?_push_size _ rfl, rfl⟩ slot_listiter_next.lookup (wpAny_pure hQ))
end
end Mine
end
section
open PySem PySem.W PyProof.Rows PySem.Spec PySem.Calls PyProof.V
namespace Mine
theorem str_e0 : Str.ofString "" = ⟨#[]⟩ := by decide +kernel
theorem jcps : ∀ l : List Str, (Txt.join (Str.ofString "") l).cps.toList = l.flatMap (fun x => x.cps.toList)
  | [] => rfl
  | [x] => by show x.cps.toList = _; simp
  | x :: y :: r => by
    have ih := jcps (y :: r)
    show (PySem.Builtin.Str.glued (Str.ofString "") (x :: y :: r)).cps.toList = _
    rw [StrLaws.glued_eq_join]
    have e : (Txt.join (Str.ofString "") (y :: r)) = Str.join (Str.ofString "") (y :: r) := StrLaws.glued_eq_join _ _
    rw [e] at ih
    show (x ++ Str.ofString "" ++ Str.join (Str.ofString "") (y :: r)).cps.toList = _
    rw [Str.cps_append, Str.cps_append, str_e0] at *
    rw [List.flatMap_cons, ← ih]
    simp
theorem jlen (l : List Str) : (Txt.join (Str.ofString "") l).length = (l.map (·.length)).sum := by
  have h := congrArg List.length (jcps l)
  rw [List.length_flatMap] at h
  have e : (Txt.join (Str.ofString "") l).length = (Txt.join (Str.ofString "") l).cps.toList.length := by simp [Str.length]
  rw [e, h]
  congr 1
theorem getD_range {α : Type} (l : List α) (d : α) : (List.range l.length).map (fun j => l.getD j d) = l := by
  apply List.ext_getElem
  · simp
  · intro i h₁ h₂
    simp [List.getD_eq_getElem?_getD, h₂]
noncomputable abbrev PItem := Addr × (Str × Tok) × (Str × Tok)
noncomputable abbrev pvals (l : List PItem) : List Value := l.map fun p => .ref p.1
noncomputable def pjoin (p : PItem) : Str := Txt.join (Str.ofString "") [p.2.1.1, p.2.2.1]
noncomputable def Tups (h : Heap) (l : List PItem) : Prop := ∀ p ∈ l, ∃ nt, h.get? p.1 = some ⟨.type "tuple", none, .seq #[.str p.2.1.1 p.2.1.2, .str p.2.2.1 p.2.2.2] nt, #[]⟩
section
variable {prog : Program} {w : World} {A : Around} {E : Value → Shared → Prop} {P₀ : Params} {s : Shared} {h₀ : Heap} {c P L : Addr} {ps : Array Value} {m mg : Str → Option Value} {bm : Addr} {ob : Obj}
theorem gexp_pile {env : Env} {elt iter : Expr} {xa xb : Str} {pa pb pt : Pos} {kt : Nat} {scope : Scope} {pos : Pos} {Q : Value → Shared → Prop} {x dx : Addr} {l : List PItem} {n : Nat} (FF : Nat → Value → Prop)
    (F : Fr h₀ L s.heap m) (hIs : h₀.IsCode c P ps) (hTab : h₀.TableAt c P ps) (hPs : P ≠ cStatics) (M : BMod h₀ env.globals mg bm ob) (hcode : env.code = .ref c)
    (hh : A.handled = none) (hco : scope.isCoroutine = false) (hclos : closureFor scope env = pure []) (hcell : ∀ y ∈ scope.names, y.2 ≠ .cell) (h0 : scope.names.lookup (".0" : Str) = some NameKind.local)
    (hxa : scope.names.lookup xa = some .local) (hxb : scope.names.lookup xb = some .local) (hab : xa ≠ xb) (hkind : scope.kind = .function) (hroom : A.depth < recursionLimit)
    (hev : wpAny (model prog w) A (eval iter env) (fun xv s₁ => xv = .ref x ∧ s₁ = s) E s)
    (X : (KK P₀).In h₀) (hx : h₀.get? x = some (pileO dx (pvals l) n)) (ht : Tups h₀ l) (G : AllBare s.gens) (hlim : h₀.NoLimit)
    (helt : ∀ (h₀' : Heap) (ps' : Array Value) (code : Value) (C : Addr) (A' : Around) E' (i : Nat) (p : PItem) (t : Shared) m₂, NewBase h₀ h₀' c P ps' → A'.handled = none → A'.depth ≤ A.depth + 1 → A'.units ≤ A.units + 8 → l[i]? = some p → Fr h₀' C t.heap m₂ →
          m₂ xa = some (.str p.2.1.1 p.2.1.2) → m₂ xb = some (.str p.2.2.1 p.2.2.2) → L < C →
          wpAny (model prog w) A' (eval elt (genEnv scope [] C code builtinsNs env)) (fun y s₃ => FF i y ∧ Keeps t s₃) E' t)
    (hQ : ∀ (h₀' : Heap) (ps' : Array Value) (a : Addr) (s₅ : Shared), NewBase h₀ h₀' c P ps' → Fr h₀' L s₅.heap m → AllBare s₅.gens → s₅.os = s.os → s₅.drawn = s.drawn →
          Gen prog w A L a l.length FF s₅ → Q (.ref a) s₅)
    (hs : ∀ x, genFold iter env x = pure x) :
    wpAny (model prog w) A (eval (.GeneratorExp elt [⟨.Tuple [.Name xa pa, .Name xb pb] kt pt, iter, [], 0⟩] scope pos) env) Q E s := by
  refine gexp F hIs hTab hPs M hcode hh hco hclos hcell h0 hxa hxb hab hkind hroom (wpAny_mono hev (fun xv s₁ he => ?_) fun _ _ e => e) hs
  obtain ⟨rfl, rfl⟩ := he
  let Ts : Nat → Addr := fun j => (l[j]?.map fun p => p.1).getD 0
  let vals : Nat → Array Value := fun j => (l[j]?.map fun p => (#[.str p.2.1.1 p.2.1.2, .str p.2.2.1 p.2.2.2] : Array Value)).getD #[.none, .none]
  have hx1 := F.keep _ _ hx
  have hlen : (pvals l).toArray.size = l.length := by simp
  have at' : ∀ j, j < l.length → ∃ p, l[j]? = some p ∧ p ∈ l := fun j hj => ⟨l[j], by simp [hj], List.getElem_mem hj⟩
  have hTs : ∀ j, j < (pvals l).toArray.size → h₀.IsTuple (Ts j) (vals j) := fun j hj => by
    obtain ⟨p, e, hm⟩ := at' j (hlen ▸ hj)
    obtain ⟨nt, e2⟩ := ht p hm
    simp only [Ts, vals, e, Option.map_some, Option.getD_some]
    exact ⟨_, e2, rfl, nt, rfl⟩
  have hTlt : ∀ j, j < (pvals l).toArray.size → Ts j < h₀.objs.size := fun j hj => by obtain ⟨_, e, _⟩ := hTs j hj; exact Heap.lt_size e
  have hsz : h₀.objs.size ≤ s₁.heap.objs.size := Nat.le_trans F.above (Nat.le_of_lt F.ns.lt)
  have hit : ∀ j, j < (pvals l).toArray.size → (pvals l).toArray[j]? = some (.ref (Ts j)) := fun j hj => by
    obtain ⟨p, e, _⟩ := at' j (hlen ▸ hj)
    simp only [Ts, e, pvals, List.getElem?_toArray, List.getElem?_map, Option.map_some, Option.getD_some]
  have hxlt := Heap.lt_size hx
  have hPlt := Heap.lt_size hTab.2
  have W := fun (A' : Around) (hA : A'.handled = none) => (walks_pile (prog := prog) (w := w) hA s₁.heap.objs.size x (Nat.ne_of_lt (Nat.lt_of_lt_of_le hxlt hsz)) (pvals l).toArray Ts vals hit fun j hj => Nat.ne_of_lt (Nat.lt_of_lt_of_le (hTlt j hj) hsz)).bound
  refine iter_pile (X.keeps F.keep) hx1 ⟨F.keeps fun _ _ e => Heap.get?_push_of_some _ e, G, (hlim.keeps F.keep).push _, s₁.heap.objs.size, _, _, _, _, _, _, FF, rfl, W, ?_, ?_, ?_, ?_, ?_, ?_, ?_⟩
  · rintro i v ⟨hi, rfl⟩
    obtain ⟨p, e, _⟩ := at' i (hlen ▸ hi)
    exact ⟨_, _, by simp only [vals, e, Option.map_some, Option.getD_some]; rfl⟩
  · exact ⟨⟨_, Heap.get?_push_size _ rfl, rfl, rfl⟩, ⟨_, _, Heap.get?_push_of_some _ hx1, rfl⟩, fun k hk => ((hTs k hk).at fun o e => F.keep _ _ e).push _⟩
  · intro b hb
    show b < (s₁.heap.push _).objs.size
    rw [Heap.size_push]
    rcases List.mem_cons.mp hb with rfl | hb
    · exact Nat.lt_succ_self _
    · rcases List.mem_cons.mp hb with rfl | hb
      · exact Nat.lt_succ_of_lt (Nat.lt_of_lt_of_le hxlt hsz)
      · obtain ⟨k, hk, rfl⟩ := List.mem_map.mp hb
        exact Nat.lt_succ_of_lt (Nat.lt_of_lt_of_le (hTlt k (List.mem_range.mp hk)) hsz)
  · intro hb
    rcases List.mem_cons.mp hb with e | hb
    · exact absurd (e ▸ Nat.lt_of_lt_of_le hPlt hsz) (Nat.lt_irrefl _)
    · rcases List.mem_cons.mp hb with e | hb
      · subst e
        rw [hTab.2] at hx
        exact absurd (congrArg Obj.cls (Option.some.inj hx)) (by simp)
      · obtain ⟨k, hk, e⟩ := List.mem_map.mp hb
        obtain ⟨o, ho, hc, _⟩ := hTs k (List.mem_range.mp hk)
        rw [e, hTab.2] at ho; cases ho; exact absurd hc (by simp)
  · intro b hb
    rcases List.mem_cons.mp hb with rfl | hb
    · exact F.ns.lt
    · cases hb
  · intro h₀' ps' code C A' E' i va vb t m₂ NB hA hD hU hP hF hma hmb hLC
    obtain ⟨hi, e⟩ := hP
    obtain ⟨p, ep, _⟩ := at' i (hlen ▸ hi)
    simp only [vals, ep, Option.map_some, Option.getD_some] at e
    obtain ⟨e1, e2⟩ : va = .str p.2.1.1 p.2.1.2 ∧ vb = .str p.2.2.1 p.2.2.2 := by simpa using congrArg Array.toList e
    subst e1 e2
    exact helt h₀' ps' code C A' E' i p t m₂ NB hA hD hU ep hF hma hmb hLC
  · intro h₀' ps' a s₅ NB hF hG hos hdr hg
    rw [hlen] at hg
    exact hQ h₀' ps' a s₅ NB hF hG hos hdr hg
end
theorem kk112 (P : Params) (o : Obj) (e : (KK P).lookup 112 = some o) : False := by
  have : (KK P).lookup 112 = none := by rfl
  rw [this] at e; cases e
theorem p_str (w : World) (x dx : Addr) (l : List PItem) (n : Nat) (t1 t2 : Tok) (room : Int) (ps : Array Value) (dp un : Nat) (gd : Option (List Code)) (cn : Str) (cs : Scope) (a : Addr) (ccd : Value) (cl : List (Str × Addr)) (outer : List Env) (A₀ : Around) (base h₀ : Heap) (L : Addr) (m : Str → Option Value)
    (mean : ExcName → Option Value) (mg mb : Str → Option Value) (s : Shared) (Q E : Value → Shared → Prop)
    (B : Below A₀ base outer h₀) (F : Fr h₀ L s.heap m) (X : (KK w.params).In h₀) (T : Top vw Mine.lw mean mg mb h₀) (hk : cs.kind = .function) (hd : dp + 6 < recursionLimit) (hu : un + 40 < cLine)
    (hx : s.heap.get? x = some (pileO dx (pvals l) n)) (hdx : s.heap.get? dx = some (pileD w.params t1 t2 room)) (ht : Tups s.heap l) (hl : l.length ≤ 10) (hz : ∀ p ∈ l, p.2.1.1.length ≤ 20 ∧ p.2.2.1.length ≤ 20)
    (C : s.heap.IsCode 116 112 ps) (Tb : s.heap.TableAt 116 112 ps) (G : AllBare s.gens)
    (hret : ∀ (t : Tok) (s' : Shared) (ps' : Array Value), (∀ b o, b ≠ 112 → s.heap.get? b = some o → s'.heap.get? b = some o) → s'.heap.IsCode 116 112 ps' → s'.heap.TableAt 116 112 ps' → AllBare s'.gens → s'.os = s.os → Q (.str (Txt.join (Str.ofString "") (l.map pjoin)) t) s') :
    wpAny (model pw w) (ktrTop dp un gd cn cs L a ccd cl outer) (call (.type "str") [.ref x]) Q E s := by
  have II : InstAt s.heap x (pileO dx (pvals l) n) 143 (some (pileD w.params t1 t2 room)) := ⟨hx, rfl, rfl, hdx⟩
  refine kso_call (K := KK w.params) (by ktr_room) (X.keeps F.keep) II (str143 _) (by k_is) ?_
  refine wpAny_call ?_
  k_dflt (refine' code_keeps ?k1 ?k2 ?k3 ?k5 ?kA ?kF ?kK ?k6 ?k7 ?k8 ?k9 ?kB ?_ ?c2 ?c3 ?c4 ?c5; (case kA => exact rfl); (case kF => exact rfl); (case kK => assumption); (case k1 => k_asm); (case k2 => k_asm); (case k3 => k_asm); (case k5 => k_asm); (case k6 => k_is); (case k7 => k_is); (case k8 => ktr_room); (case k9 => exact BindsTo.of_eq rfl); (case c5 => decide); (case kB => exact locs rfl); (case c2 => exact rfl); (case c3 => exact rfl); (case c4 => exact rfl); k_whole; intro L' h' F' N' B' X' T'; (try dsimp only); (try k_lift B'); (try k_fold))
  iterate 8 (first | walk1 | (dsimp only; walk1))
  rename Fr _ _ _ _ => F9; rename Frag.In _ _ => X9; rename Top _ _ _ _ _ _ => T9; rename Below _ _ _ _ => B9
  obtain ⟨bm, ob, M9⟩ := bmod_of_top T9
  refine gexp_pile (c := 116) (P := 112) (ps := ps) (FF := fun i y => ∃ p t, l[i]? = some p ∧ y = .str (pjoin p) t) F9 C Tb (by decide) M9 rfl rfl rfl rfl (by decide) rfl rfl rfl (by decide) rfl (by ktr_room) ?_ X9 hx ht G T9.nolimit ?_ ?_ (fun _ => rfl)
  · walk1
    exact ⟨rfl, rfl⟩
  · intro h₀' ps' code C' A' E' i p t m₂ NB hA hD hU hp hF hma hmb hLC
    clear F9
    rename News _ _ _ _ => N9; clear N9
    have N8 : News h₀' C' t.heap [] := News.nil
    have X8 : (KK w.params).In h₀' := fun b o e => NB.keep b o (fun hb => by subst hb; revert e; exact kk112 _ o) (X9 b o e)
    have G8 : t.heap.Ns mainGlobals mg := (T9.g.at fun o e => NB.keep _ _ (by decide) e).keeps hF.keep
    refine inGen ?_
    walk1
    refine Calls.Name_function_global rfl rfl (Calls.loadGlobal_global G8 (mg_of X9 T9.g (by k_is)) ?_) (by decide)
    iterate 5 (first | walk1 | (dsimp only; walk1))
    refine ldVarG hF hma ?_
    walk1
    refine ldVarG hF hmb ?_
    walk1
    unfold newTuple
    refine wpAny_newObj_type ?_ (by size_fits)
    walk1
    have hp' := hz p (List.mem_of_getElem? hp)
    refine join_tuple (ys := [p.2.1.1, p.2.2.1]) (items := #[.str p.2.1.1 p.2.1.2, .str p.2.2.1 p.2.2.2]) ⟨_, Heap.get?_push_size _ rfl, rfl, _, rfl⟩ (.cons _ _ (.cons _ _ .nil)) ?_ ?_
    · simp only [List.map_cons, List.map_nil, List.sum_cons, List.sum_nil]
      have e0 : (Str.ofString "").length = 0 := by decide
      rw [e0]
      omega
    · intro t' k
      exact ⟨⟨p, t', hp, rfl⟩, _, _, rfl, fun b o e => Heap.get?_push_of_some _ e⟩
  · intro h₀' ps' a' s₅ NB hF hG hos hdr hg
    clear F9
    dsimp only
    walk1
    have em : (List.range l.length).map (fun j => pjoin (l.getD j (0, (default, 0), (default, 0)))) = l.map pjoin := by
      have := congrArg (List.map pjoin) (getD_range l (0, (default, 0), (default, 0)))
      rw [List.map_map] at this
      exact this
    refine join_rows hF hG hg (fun j => pjoin (l.getD j (0, (default, 0), (default, 0)))) ?_ ?_ ?_ (Nat.le_trans hl (by unfold sizeLine; decide))
    · rintro j v ⟨p, t, hp, rfl⟩
      exact ⟨t, by simp [List.getD_eq_getElem?_getD, hp]⟩
    · rw [em]
      refine joinOk_of ?_
      have h1 : ((l.map pjoin).map (·.length)).sum ≤ (l.map pjoin).length * 40 := StrLaws.sumLen_le _ fun y hy => by
        obtain ⟨p, hp, rfl⟩ := List.mem_map.mp hy
        have := hz p hp
        unfold pjoin
        rw [jlen]
        simp only [List.map_cons, List.map_nil, List.sum_cons, List.sum_nil]
        omega
      have e0 : (Str.ofString "").length = 0 := by decide
      rw [List.length_map] at h1 ⊢
      rw [e0]
      omega
    · intro s' t' F' G' hos'
      rw [em]
      refine hret t' s' ps' (fun b o hb e => F'.keep _ _ (NB.keep b o hb e)) (NB.code.keeps F'.keep) (NB.tab.keeps F'.keep) G' (hos'.trans hos)
end Mine
end
section
open PySem PySem.W PyProof.Rows PySem.Spec PySem.Calls PyProof.V
namespace Mine
theorem type_lga : typeOf (.builtin "list.__getattribute__") = pure (.type "wrapper_descriptor") := by show builtinType _ = _; rw [builtinType_eq_fast]; kernel_rfl
theorem slot_lga : Slot "list" "__getattribute__" "list.__getattribute__" := .of (owner := "list") (n := "__getattribute__") (by rw [typeLookup_type, builtinLookup_eq_fast]; kernel_rfl) (by decide +kernel) (by decide +kernel) (by decide +kernel)
  (by first | exact .inl (by decide +kernel) | exact .inr (by decide +kernel)) (by rw [isSubtype_type]; kernel_rfl)
theorem plain_lga : plainId "list.__getattribute__" = true := by decide +kernel
theorem split_lga : splitId "list.__getattribute__" = some ("list", "__getattribute__") := by decide +kernel
theorem kind_lga : builtinKind "list.__getattribute__" = some .slot := by decide +kernel
theorem args_lga (a b : Value) : argsOk "list.__getattribute__" ⟨[a, b], []⟩ := by unfold argsOk; kernel_rfl
theorem ga143 (P : Params) : findIn (KK P) (.ref 143) "__getattribute__" = some (some (.builtin "list.__getattribute__")) := by k_is
theorem gk143 (P : Params) : findIn (KK P) (.ref 143) "__getattr__" = some none := by k_is
theorem hd143 (P : Params) : hasDictIn (KK P) 143 = true := by k_is
theorem ng143 (P : Params) : noGet (KK P) none = true := by k_is
theorem attr_pile {prog : Program} {w : World} {A : Around} {E : Value → Shared → Prop} {P : Params} {s : Shared} {x dx : Addr} {l : List Value} {n : Nat} {t1 t2 : Tok} {room : Int} {expr : Bool} {Q : Value → Shared → Prop}
    (X : (KK P).In s.heap) (I : InstAt s.heap x (pileO dx l n) 143 (some (pileD P t1 t2 room))) (hQ : Q (.int room t2) { s with toks := s.toks + 1 }) : wpAny (model prog w) A (getAttr (.ref x) "_initial_size" expr) Q E s := by
  obtain ⟨hh, g, d, t, os⟩ := s
  have L0 := I.type (M := model prog w)
  have L1 := looks_findIn (M := model prog w) X (ga143 P)
  have lk : lookIn (Str.ofString "_initial_size") (pileD P t1 t2 room) = some (some (.int room t2)) := by rfl
  have L2 := looks_find (M := model prog w) X I (findObj_own (hd143 P) (find_size P) (ng143 P) lk)
  have L3 := looks_hook (M := model prog w) (mc := .ref 143) X (r := none) (gk143 P)
  unfold getAttr getAttrBy
  refine wpAny_bind (wpAny_mkText (wpAny_holding (wpAny_bind (L0.at (wpAny_bind (L1.at ?_))))))
  have e8 : (onTheHeap (.ref 143) && (Value.builtin "list.__getattribute__") == .builtin "object.__getattribute__") = false := by decide +kernel
  dsimp only
  rw [e8]
  simp only [Bool.false_eq_true, if_false]
  unfold getAttrByItsOwn callGetattribute boundAndCalled
  refine wpAny_bind (L3.at ?_)
  refine wpAny_bind (wpAny_attempt (wpAny_holding ?_))
  have e9 : (expr && onTheHeap (.builtin "list.__getattribute__")) = false := by cases expr <;> rfl
  rw [e9]
  simp only [Bool.false_eq_true, if_false]
  refine wpAny_bind (wpAny_of_eq (slot_lga.bind _) ?_)
  show wpAny _ _ (call (.builtin "list.__getattribute__") [.ref x, .str "_initial_size" t]) _ _ _
  refine wpAny_call (codeAny_call_builtin (b := Builtin.«object.__getattribute__») plain_lga am_entry_list_getattribute ?_)
  have sub : Looks (model prog w) hh (isInstance (.ref x) (.type "list")) true := L0.andThen (looks_mroIn X (mro_list P))
  refine @check_slot (model prog w) _ _ _ "list.__getattribute__" "list" "__getattribute__" (.ref x) [.str "_initial_size" t] [] _ kind_lga split_lga sub (args_lga (.ref x) (.str "_initial_size" t)) ?_
  unfold Builtin.«object.__getattribute__»
  refine wpAny_bind (wpAny_pure (wpAny_bind (wpAny_pure (wpAny_bind (L0.at (wpAny_bind (L2.at ?_)))))))
  refine wpAny_pure ?_
  exact wpAny_pure hQ
end Mine
end
section
open PySem PySem.W PyProof.Rows PySem.Spec PySem.Calls PyProof.V
namespace Mine
section
variable {prog : Program} {w : World} {A : Around} {E : Value → Shared → Prop} {s : Shared} {I : Addr} {fp wr : List Addr} {G : Array GenState → Array GenState → Prop} {n : Nat} {P : Nat → Value → Prop} {St : Nat → Shared → Prop}
noncomputable def shP (P : Nat → Value → Prop) : Nat → Value → Prop | 0, _ => False | j + 1, v => P j v
noncomputable def shSt (St : Nat → Shared → Prop) : Nat → Shared → Prop | 0, _ => False | j + 1, s => St j s
noncomputable def shV (b : Int) (val : Nat → Int) : Nat → Int | 0 => b | j + 1 => val j
theorem shWalks (W : WalksS prog w A I fp wr G n P St) : WalksS prog w A I fp wr G (n + 1) (shP P) (shSt St) where
  sub := W.sub
  grefl := W.grefl
  gtrans := W.gtrans
  frame := fun i s h' tk st htk hk => by
    cases i with
    | zero => exact st.elim
    | succ j => exact W.frame j s h' tk st htk hk
  item := fun i s Q E hi st hQ => by
    cases i with
    | zero => exact st.elim
    | succ j => exact W.item j s Q E (by omega) st fun v s' hP hst hm => hQ v s' hP hst hm
  done := fun s Q E st hQ => W.done s Q E st hQ
  self := fun i s Q E st hQ => by
    cases i with
    | zero => exact st.elim
    | succ j => exact W.self j s Q E st hQ
theorem preSum_sh (b : Int) (val : Nat → Int) : ∀ n, preSum (shV b val) (n + 1) = b + preSum val n
  | 0 => by simp [preSum, shV]
  | n + 1 => by
    have ih := preSum_sh b val n
    show preSum (shV b val) (n + 1) + shV b val (n + 1) = b + (preSum val n + val n)
    rw [ih]
    show b + preSum val n + val n = _
    omega
theorem args_sum2 (a b : Value) : argsOk "sum" ⟨[a, b], []⟩ := by unfold argsOk; kernel_rfl
theorem sum_start {x : Value} {b : Int} {tb : Tok} {Q : Value → Shared → Prop} (hb : InLong b)
    (h : wpAny (model prog w) A.in1 (pyIter x) (fun it s₂ => ∃ I fp wr G n P St val, it = .ref I ∧ WalksS prog w A.in1 I fp wr G n P St ∧ St 0 s₂ ∧ (∀ b ∈ fp, b < s₂.heap.objs.size) ∧
      (∀ i v, P i v → ∃ t, v = .int (val i) t) ∧ (∀ j, j < n → InLong (val j) ∧ InLong (b + preSum val (j + 1))) ∧
      ∀ s' t', Moved wr G s₂ s' → Q (.int (b + preSum val n) t') s') E s) :
    wpAny (model prog w) A (call (.builtin "sum") [x, .int b tb]) Q E s := by
  refine call_function_tree PySem.F.kind_sum PySem.F.plain_sum PySem.F.entry_sum (args_sum2 _ _) ?_
  unfold Builtin.«sum»
  simp only [List.length_cons, List.length_nil]
  rw [if_neg (by decide)]
  refine wpAny_bind (wpAny_of_eq (show Builtin.Builtins.bindParams "sum" ["start"] 0 { pos := [.int b tb] } = pure [some (.int b tb)] from rfl) ?_)
  refine wpAny_bind (wpAny_mono h (fun it s₂ h₂ => ?_) fun _ _ e => e)
  obtain ⟨I, fp, wr, G, n, P, St, val, rfl, W, hst, hfp, hval, hfit, hQ⟩ := h₂
  have hfl : (decide (-(2 ^ 63) ≤ b) && decide (b < 2 ^ 63)) = true := by
    obtain ⟨h1, h2⟩ := hb
    simp only [Bool.and_eq_true, decide_eq_true_eq]
    exact ⟨h1, h2⟩
  dsimp only
  split
  rotate_left
  · rename_i hneg
    exact absurd hfl hneg
  refine wpAny_bind (wpAny_rule (wpAny_bind (wpAny_mkInt (wpAny_bind (wpAny_pure ?_)))))
  simp only [List.forIn_cons, List.forIn_nil]
  refine wpAny_bind (wpAny_bind (wpAny_bind (wpAny_isInstance (T := "int") (b := false) (typeIs_int _ _ _) PySem.sub_int_str ?_)))
  simp only [Bool.false_eq_true, if_false]
  refine wpAny_pure (wpAny_bind (wpAny_bind (wpAny_isInstance (T := "int") (b := false) (typeIs_int _ _ _) PySem.sub_int_bytes ?_)))
  simp only [Bool.false_eq_true, if_false]
  refine wpAny_pure (wpAny_bind (wpAny_bind (wpAny_isInstance (T := "int") (b := false) (typeIs_int _ _ _) PySem.sub_int_bytearray ?_)))
  simp only [Bool.false_eq_true, if_false]
  refine wpAny_pure (wpAny_pure ?_)
  refine wpAny_bind (wpAny_newObj_type ?_)
  have hSf : s₂.heap.objs.size ∉ fp := fun hm => Nat.lt_irrefl _ (hfp _ hm)
  have e1 : preSum (shV b val) 1 = b := by simp [preSum, shV]
  refine wpAny_pure ⟨plainId_quiet PySem.F.plain_sum_loop _, codeAny_sum_loopS (shWalks W) (shV b val) ?_ ?_ s₂.heap.objs.size hSf (n + 1 - 1) 1 _ s₂.toks 0 rfl (by omega)
    ((shWalks W).frame 1 s₂ _ _ hst (by first | exact Nat.le_refl _ | exact Nat.le_succ _ | omega) fun b _ o e => Heap.get?_push_of_some _ e) (by rw [e1]; exact Heap.get?_push_size _ rfl) fun s' t' hm => ?_⟩
  · intro i v hv
    cases i with
    | zero => exact hv.elim
    | succ j => exact hval j v hv
  · intro j hj
    cases j with
    | zero =>
      rw [e1]
      exact ⟨hb, hb⟩
    | succ j =>
      rw [preSum_sh]
      exact hfit j (by omega)
  · show Q (.int (preSum (shV b val) (n + 1)) t') s'
    rw [preSum_sh]
    exact hQ s' t' (hm.drop_new (by first | exact Nat.le_refl _ | exact Nat.le_succ _ | omega))
end
theorem kk105 (P : Params) (o : Obj) (e : (KK P).lookup 105 = some o) : False := by
  have : (KK P).lookup 105 = none := by rfl
  rw [this] at e; cases e
theorem p_len (w : World) (x dx : Addr) (l : List PItem) (n : Nat) (t1 t2 : Tok) (room : Int) (ps : Array Value) (dp un : Nat) (gd : Option (List Code)) (cn : Str) (cs : Scope) (a : Addr) (ccd : Value) (cl : List (Str × Addr)) (outer : List Env) (A₀ : Around) (base h₀ : Heap) (L : Addr) (m : Str → Option Value)
    (mean : ExcName → Option Value) (mg mb : Str → Option Value) (s : Shared) (Q E : Value → Shared → Prop)
    (B : Below A₀ base outer h₀) (F : Fr h₀ L s.heap m) (X : (KK w.params).In h₀) (T : Top vw Mine.lw mean mg mb h₀) (hk : cs.kind = .function) (hd : dp + 6 < recursionLimit) (hu : un + 40 < cLine)
    (hx : s.heap.get? x = some (pileO dx (pvals l) n)) (hdx : s.heap.get? dx = some (pileD w.params t1 t2 room)) (ht : Tups s.heap l) (hl : l.length ≤ 10) (hz : ∀ p ∈ l, p.2.1.1.length ≤ 20 ∧ p.2.2.1.length ≤ 20)
    (C : s.heap.IsCode 109 105 ps) (Tb : s.heap.TableAt 109 105 ps) (G : AllBare s.gens) (hr : 0 ≤ room ∧ room ≤ 10)
    (hret : ∀ (t : Tok) (s' : Shared) (ps' : Array Value), (∀ b o, b ≠ 105 → s.heap.get? b = some o → s'.heap.get? b = some o) → s'.heap.IsCode 109 105 ps' → s'.heap.TableAt 109 105 ps' → AllBare s'.gens → s'.os = s.os → Q (.int (room + (((l.map fun p => p.2.1.1.length + p.2.2.1.length).sum : Nat) : Int)) t) s') :
    wpAny (model pw w) (ktrTop dp un gd cn cs L a ccd cl outer) (call (.builtin "len") [.ref x]) Q E s := by
  have II : InstAt s.heap x (pileO dx (pvals l) n) 143 (some (pileD w.params t1 t2 room)) := ⟨hx, rfl, rfl, hdx⟩
  refine len_K (K := KK w.params) F X II (len143 _) (by k_is) ?_
  refine wpAny_call ?_
  k_dflt (refine' code_keeps ?k1 ?k2 ?k3 ?k5 ?kA ?kF ?kK ?k6 ?k7 ?k8 ?k9 ?kB ?_ ?c2 ?c3 ?c4 ?c5; (case kA => exact rfl); (case kF => exact rfl); (case kK => assumption); (case k1 => k_asm); (case k2 => k_asm); (case k3 => k_asm); (case k5 => k_asm); (case k6 => k_is); (case k7 => k_is); (case k8 => ktr_room); (case k9 => exact BindsTo.of_eq rfl); (case c5 => decide); (case kB => exact locs rfl); (case c2 => exact rfl); (case c3 => exact rfl); (case c4 => exact rfl); k_whole; intro L' h' F' N' B' X' T'; (try dsimp only); (try k_lift B'); (try k_fold))
  iterate 7 (first | walk1 | (dsimp only; walk1))
  rename Fr _ _ _ _ => F9; rename Frag.In _ _ => X9; rename Top _ _ _ _ _ _ => T9; rename Below _ _ _ _ => B9
  obtain ⟨bm, ob, M9⟩ := bmod_of_top T9
  refine gexp_pile (c := 109) (P := 105) (ps := ps) (FF := fun i y => ∃ p t, l[i]? = some p ∧ y = .int ((p.2.1.1.length : Int) + p.2.2.1.length) t) F9 C Tb (by decide) M9 rfl rfl rfl rfl (by decide) rfl rfl rfl (by decide) rfl (by ktr_room) ?_ X9 hx ht G T9.nolimit ?_ ?_ (fun _ => rfl)
  · walk1
    exact ⟨rfl, rfl⟩
  · intro h₀' ps' code C' A' E' i p t m₂ NB hA hD hU hp hF hma hmb hLC
    clear F9
    rename News _ _ _ _ => N9; clear N9
    have N8 : News h₀' C' t.heap [] := News.nil
    have X8 : (KK w.params).In h₀' := fun b o e => NB.keep b o (fun hb => by subst hb; revert e; exact kk105 _ o) (X9 b o e)
    have G8 : t.heap.Ns mainGlobals mg := (T9.g.at fun o e => NB.keep _ _ (by decide) e).keeps hF.keep
    have B8 : t.heap.Ns builtinsNs mb := (T9.b.at fun o e => NB.keep _ _ (by decide) e).keeps hF.keep
    have hp' := hz p (List.mem_of_getElem? hp)
    refine inGen ?_
    walk1
    walk1
    refine Calls.Name_function_global rfl rfl (Calls.loadGlobal_builtin G8 (mg_none_of X9 T9.g (by k_is)) B8 ((T9.builtins _ (by decide +kernel)).trans boot_len) ?_) (by decide)
    iterate 2 (first | walk1 | (dsimp only; walk1))
    refine ldVarG hF hma ?_
    iterate 3 (first | walk1 | (dsimp only; walk1))
    refine Calls.Name_function_global rfl rfl (Calls.loadGlobal_builtin G8 (mg_none_of X9 T9.g (by k_is)) B8 ((T9.builtins _ (by decide +kernel)).trans boot_len) ?_) (by decide)
    iterate 2 (first | walk1 | (dsimp only; walk1))
    refine ldVarG hF hmb ?_
    iterate 3 (first | walk1 | (dsimp only; walk1))
    exact ⟨⟨p, _, hp, rfl⟩, _, _, rfl, fun b o e => e⟩
  · intro h₀' ps' a' s₅ NB hF hG hos hdr hg
    clear F9
    rename News _ _ _ _ => N9; clear N9
    have X8 : (KK w.params).In h₀' := fun b o e => NB.keep b o (fun hb => by subst hb; revert e; exact kk105 _ o) (X9 b o e)
    have nx : x ≠ 105 := by
      rintro rfl
      have := hx.symm.trans Tb.2
      exact absurd (congrArg Obj.cls (Option.some.inj this)) (by simp)
    have nd : dx ≠ 105 := by
      rintro rfl
      have := hdx.symm.trans Tb.2
      exact absurd (congrArg Obj.cls (Option.some.inj this)) (by simp)
    have I8 : InstAt s₅.heap x (pileO dx (pvals l) n) 143 (some (pileD w.params t1 t2 room)) := ⟨hF.keep _ _ (NB.keep _ _ nx hx), rfl, rfl, hF.keep _ _ (NB.keep _ _ nd hdx)⟩
    iterate 3 (first | walk1 | (dsimp only; walk1))
    refine attr_pile (X8.keeps hF.keep) I8 ?_
    walk1
    obtain ⟨fp, wr, g, St, W, hst, _, _, hfp, hwr⟩ := hg
    have W := W.in4_1
    have hst' := W.frame 0 s₅ s₅.heap (s₅.toks + 1) hst (Nat.le_succ _) (fun _ _ _ e => e)
    let val : Nat → Int := fun j => ((l.getD j (0, (default, 0), (default, 0))).2.1.1.length : Int) + (l.getD j (0, (default, 0), (default, 0))).2.2.1.length
    have hpre : ∀ k, k ≤ l.length → preSum val k = (((l.take k).map fun p => p.2.1.1.length + p.2.2.1.length).sum : Nat) := by
      intro k
      induction k with
      | zero => intro _; simp [preSum]
      | succ k ih =>
        intro hk
        show preSum val k + val k = _
        rw [ih (by omega), List.take_succ_eq_append_getElem (by omega), List.map_append, List.sum_append]
        simp only [val, List.getD_eq_getElem?_getD, List.getElem?_eq_getElem (show k < l.length by omega), Option.getD_some, List.map_cons, List.map_nil, List.sum_cons, List.sum_nil]
        omega
    have hsum : ∀ k, k ≤ l.length → ((l.take k).map fun p => p.2.1.1.length + p.2.2.1.length).sum ≤ k * 40 := by
      intro k hk
      have : ∀ (q : List PItem), (∀ p ∈ q, p ∈ l) → (q.map fun p => p.2.1.1.length + p.2.2.1.length).sum ≤ q.length * 40 := by
        intro q
        induction q with
        | nil => intro _; simp
        | cons a q ih =>
          intro hq
          have h1 := hz a (hq a (List.mem_cons_self ..))
          have h2 := ih fun p hp => hq p (List.mem_cons_of_mem _ hp)
          simp only [List.map_cons, List.sum_cons, List.length_cons, Nat.succ_mul]
          omega
      have h3 := this (l.take k) (fun p hp => List.mem_of_mem_take hp)
      rw [List.length_take, Nat.min_eq_left hk] at h3
      exact h3
    have hval40 : ∀ j, j < l.length → 0 ≤ val j ∧ val j ≤ 40 := by
      intro j hj
      have := hz l[j] (List.getElem_mem hj)
      simp only [val, List.getD_eq_getElem?_getD, List.getElem?_eq_getElem hj, Option.getD_some]
      omega
    refine sum_start (⟨by omega, by omega⟩ : InLong room) (W.self 0 _ _ _ hst' ⟨a', _, _, _, _, _, _, val, rfl, W, hst', hfp, ?_, ?_, fun s' t' hm => ?_⟩)
    · rintro i v ⟨p, t, hp, rfl⟩
      exact ⟨t, by simp [val, List.getD_eq_getElem?_getD, hp]⟩
    · intro j hj
      have h1 := hval40 j hj
      have h2 := hsum (j + 1) (by omega)
      rw [hpre (j + 1) (by omega)]
      exact ⟨⟨by omega, by omega⟩, by constructor <;> omega⟩
    · have F' := hF.keeps (h' := s₅.heap) (fun _ _ e => e)
      have Fm : Fr h₀' _ s'.heap _ := Fr.moved (s := { s₅ with toks := s₅.toks + 1 }) F' hm hwr
      have Gm : AllBare s'.gens := AllBare.movedS (s := { s₅ with toks := s₅.toks + 1 }) hG hm
      rw [hpre l.length (Nat.le_refl _), List.take_length]
      have h2 := hsum l.length (Nat.le_refl _)
      rw [List.take_length] at h2
      refine ⟨?_, hret _ { s' with toks := s'.toks + 1 } ps' (fun b o hb e => Fm.keep _ _ (NB.keep b o hb e)) (NB.code.keeps Fm.keep) (NB.tab.keeps Fm.keep) Gm (hm.os.trans hos)⟩
      constructor <;> omega
end Mine
end
section
open PySem PySem.W PyProof.Rows PySem.Spec PySem.Calls PyProof.V
namespace Mine
theorem its_of (h h₀ : Heap) (L : Addr) (fp : List Addr) (hfp : ∀ b ∈ fp, b ≠ L) : ∃ its, News h₀ L h its ∧ (∀ p ∈ its, p.1 ∈ fp) ∧ ∀ b ∈ fp, ∀ o, h.get? b = some o → h₀.get? b = none → (b, o) ∈ its := by
  refine ⟨fp.filterMap fun b => if (h₀.get? b).isNone then (h.get? b).map fun o => (b, o) else none, ?_, ?_, ?_⟩
  · intro p hp
    obtain ⟨b, hb, e⟩ := List.mem_filterMap.mp hp
    split at e
    · rename_i hn
      obtain ⟨o, ho, rfl⟩ := Option.map_eq_some_iff.mp e
      exact ⟨ho, hfp b hb, Option.isNone_iff_eq_none.mp hn⟩
    · cases e
  · intro p hp
    obtain ⟨b, hb, e⟩ := List.mem_filterMap.mp hp
    split at e
    · obtain ⟨o, ho, rfl⟩ := Option.map_eq_some_iff.mp e
      exact hb
    · cases e
  · intro b hb o ho hn
    refine List.mem_filterMap.mpr ⟨b, hb, ?_⟩
    rw [if_pos (by rw [hn]; rfl), ho]
    rfl
theorem its_keep {h h' h₀ : Heap} {L : Addr} {m m' : Str → Option Value} {fp : List Addr} {its : List (Addr × Obj)} (F : Fr h₀ L h m) (F' : Fr h₀ L h' m') (N' : ∀ p ∈ its, h'.get? p.1 = some p.2)
    (hi : ∀ b ∈ fp, ∀ o, h.get? b = some o → h₀.get? b = none → (b, o) ∈ its) : ∀ b ∈ fp, ∀ o, h.get? b = some o → h'.get? b = some o := by
  intro b hb o ho
  cases e : h₀.get? b with
  | none => exact N' _ (hi b hb o ho e)
  | some o₀ =>
    have h1 := F.keep _ _ e
    rw [ho] at h1; cases h1
    exact F'.keep _ _ e
section
variable {prog : Program} {w : World} {A : Around} {E : Value → Shared → Prop} {s : Shared}
/-- the ground after a turn of a for loop -/
inductive TurnN (s : Shared) (h₀ : Heap) (L : Addr) (wr : List Addr) (J : (Str → Option Value) → List (Addr × Obj) → Prop) (its : List (Addr × Obj)) (s₃ : Shared) : Prop
  | mk (h' : Heap) (tk' : Nat) (m' : Str → Option Value) (news' : List (Addr × Obj)) (e : s₃ = { s with heap := h', toks := tk' }) (F : Fr h₀ L h' m') (N : News h₀ L h' (news' ++ its)) (hn : ∀ p ∈ news', p.1 ∉ wr) (hj : J m' news')
/-- the ground between the turns -/
inductive InvW (s₂ : Shared) (h₀ : Heap) (L : Addr) (wr : List Addr) (St : Heap → Prop) (J : (Str → Option Value) → List (Addr × Obj) → Prop) (s' : Shared) : Prop
  | mk (h : Heap) (tk : Nat) (m₁ : Str → Option Value) (news₁ : List (Addr × Obj)) (e : s' = { s₂ with heap := h, toks := tk }) (st : St h) (F : Fr h₀ L h m₁) (N : News h₀ L h news₁) (ne : ∀ p ∈ news₁, p.1 ∉ wr) (hj : J m₁ news₁)
/-- what stands after a turn of a for loop -/
noncomputable def TurnW (s : Shared) (h₀ : Heap) (L : Addr) (wr : List Addr) (J : (Str → Option Value) → List (Addr × Obj) → Prop) (its : List (Addr × Obj)) (Q : Flow → Shared → Prop) (f : Flow) (s₃ : Shared) : Prop :=
  match f with
  | .next | .cont => TurnN s h₀ L wr J its s₃
  | .brk => False
  | .ret v => Q (.ret v) s₃
theorem TurnW.mk {s : Shared} {h₀ : Heap} {L : Addr} {wr : List Addr} {J : (Str → Option Value) → List (Addr × Obj) → Prop} {its : List (Addr × Obj)} {Q : Flow → Shared → Prop} {h' : Heap} {tk' : Nat} {m' : Str → Option Value} {news' : List (Addr × Obj)}
    (F : Fr h₀ L h' m') (N : News h₀ L h' (news' ++ its)) (hn : ∀ p ∈ news', p.1 ∉ wr) (hj : J m' news') : TurnW s h₀ L wr J its Q .next { s with heap := h', toks := tk' } :=
  ⟨h', tk', m', news', rfl, F, N, hn, hj⟩
theorem TurnW.ren {s : Shared} {h₀ : Heap} {L : Addr} {wr : List Addr} {J : (Str → Option Value) → List (Addr × Obj) → Prop} {its : List (Addr × Obj)} {Q : Flow → Shared → Prop} {f : Flow} {s₃ : Shared} (H : TurnW s h₀ L wr J its Q f s₃) (a : Heap) (b : Nat) :
    TurnW { s with heap := a, toks := b } h₀ L wr J its Q f s₃ := by
  cases f with
  | next => obtain ⟨h', tk', m', news', e, F, N, hn, hj⟩ := H; exact ⟨h', tk', m', news', e, F, N, hn, hj⟩
  | cont => obtain ⟨h', tk', m', news', e, F, N, hn, hj⟩ := H; exact ⟨h', tk', m', news', e, F, N, hn, hj⟩
  | brk => exact H
  | ret v => exact H
/-- what a for loop over one name wants of its iterator -/
inductive FW (prog : Program) (w : World) (A : Around) (env : Env) (x : Str) (body : List Stmt) (h₀ : Heap) (J : Nat → (Str → Option Value) → List (Addr × Obj) → Prop) (Q : Flow → Shared → Prop) (it : Value) (s₂ : Shared) : Prop
  | mk (I : Addr) (fp wr : List Addr) (n : Nat) (P : Nat → Value → Prop) (St : Nat → Heap → Prop) (m : Str → Option Value) (news : List (Addr × Obj))
      (e : it = .ref I) (W : Walks prog w A I fp wr n P St) (st0 : St 0 s₂.heap) (hfp : ∀ b ∈ fp, b ≠ env.locals) (hwr : ∀ b ∈ wr, h₀.get? b = none) (F : Fr h₀ env.locals s₂.heap m) (N : News h₀ env.locals s₂.heap news) (hnw : ∀ p ∈ news, p.1 ∉ wr) (hj : J 0 m news)
      (turn : ∀ i v m₁ news₁ its h tk, i < n → P i v → J i m₁ news₁ → (∀ p ∈ news₁, p.1 ∉ wr) → (∀ p ∈ its, p.1 ∈ fp) → St (i + 1) h → (∀ b ∈ fp, ∀ o, h.get? b = some o → h₀.get? b = none → (b, o) ∈ its) → Fr h₀ env.locals h (fun y => if y = x then some v else m₁ y) → News h₀ env.locals h (news₁ ++ its) →
        wpAny (model prog w) A (execs body env) (TurnW s₂ h₀ env.locals wr (J (i + 1)) its Q) NoE { s₂ with heap := h, toks := tk })
      (done : ∀ m₁ news₁ h tk, J n m₁ news₁ → Fr h₀ env.locals h m₁ → News h₀ env.locals h news₁ → Q .next { s₂ with heap := h, toks := tk })
/-- the same, over two names -/
inductive FWU (prog : Program) (w : World) (A : Around) (env : Env) (xa xb : Str) (body : List Stmt) (h₀ : Heap) (J : Nat → (Str → Option Value) → List (Addr × Obj) → Prop) (Q : Flow → Shared → Prop) (it : Value) (s₂ : Shared) : Prop
  | mk (I : Addr) (fp wr : List Addr) (n : Nat) (P : Nat → Array Value → Prop) (St : Nat → Heap → Prop) (Mid : Nat → Addr → Heap → Prop) (m : Str → Option Value) (news : List (Addr × Obj))
      (e : it = .ref I) (W : WalksU prog w A I fp wr n P St Mid) (hpair : ∀ i vals, P i vals → ∃ va vb, vals = #[va, vb]) (st0 : St 0 s₂.heap) (hfp : ∀ b ∈ fp, b ≠ env.locals) (hwr : ∀ b ∈ wr, h₀.get? b = none) (F : Fr h₀ env.locals s₂.heap m) (N : News h₀ env.locals s₂.heap news) (hnw : ∀ p ∈ news, p.1 ∉ wr) (hj : J 0 m news)
      (turn : ∀ i va vb m₁ news₁ its h tk, i < n → P i #[va, vb] → J i m₁ news₁ → (∀ p ∈ news₁, p.1 ∉ wr) → (∀ p ∈ its, p.1 ∈ fp) → St (i + 1) h → (∀ b ∈ fp, ∀ o, h.get? b = some o → h₀.get? b = none → (b, o) ∈ its) → Fr h₀ env.locals h (fun y => if y = xb then some vb else if y = xa then some va else m₁ y) → News h₀ env.locals h (news₁ ++ its) →
        wpAny (model prog w) A (execs body env) (TurnW s₂ h₀ env.locals wr (J (i + 1)) its Q) NoE { s₂ with heap := h, toks := tk })
      (done : ∀ m₁ news₁ h tk, J n m₁ news₁ → Fr h₀ env.locals h m₁ → News h₀ env.locals h news₁ → Q .next { s₂ with heap := h, toks := tk })
theorem For_W2 {env : Env} {x : Str} {px : Pos} {iter : Expr} {pos : Pos} {body : List Stmt} {Q : Flow → Shared → Prop} {h₀ : Heap}
    (hx : env.kindOf x = some .local) (hp : (env.scope.kind == .class || (env.scope.kind == .module && env.locals != env.globals)) = false) (hA : A.handled = none)
    (J : Nat → (Str → Option Value) → List (Addr × Obj) → Prop)
    (h : wpAny (model prog w) A (eval iter env) (fun xv s₁ => wpAny (model prog w) A (pyIter xv) (FW prog w A env x body h₀ J Q) E s₁) E s)
    (hs : ∀ x, foldedSetIterable iter env x = pure x := by intro _; rfl) :
    wpAny (model prog w) A (exec (.For (.Name x px) iter body [] pos) env) Q E s := by
  refine For_gen (wpAny_mono h (fun xv s₁ h₁ => wpAny_mono h₁ (fun it s₂ h₂ => ?_) fun _ _ e => e) fun _ _ e => e) hs
  obtain ⟨I, fp, wr, n, P, St, m, news, rfl, W, st0, hfp, hwr, F, N, hnw, hj, turn, done⟩ := h₂
  refine ⟨n, fun i s' => InvW s₂ h₀ env.locals wr (St i) (J i) s', ⟨_, s₂.toks, m, news, rfl, st0, F, N, hnw, hj⟩, ?_, ?_⟩
  · rintro i s' hi ⟨h, tk, m₁, news₁, rfl, st, F₁, N₁, ne, hj₁⟩
    refine W.item i _ _ _ hi st fun v h' tk' hP st' hk => ?_
    refine ⟨v, rfl, wpAny_of_eq (show letOwnedTupleGo (.Name x px) _ _ = pure () from rfl) ?_⟩
    have hwL : ∀ b ∈ wr, b ≠ env.locals := fun b hb => hfp b (W.sub b hb)
    have F₂ : Fr h₀ env.locals h' m₁ := ⟨F₁.ns.at fun o e => hk _ o (fun hm => hwL _ hm rfl) e, fun b o e => hk b o (fun hm => by rw [hwr b hm] at e; cases e) (F₁.keep b o e), F₁.above⟩
    have N₂ : News h₀ env.locals h' news₁ := fun p hp => ⟨hk _ _ (ne p hp) (N₁ p hp).1, (N₁ p hp).2⟩
    refine wpAny_assign_Name (wpAny_storeName_local hx F₂.ns (fun h₂ hn₂ hs₂ => ?_) hp)
    have F₃ := F₂.set hn₂ hs₂
    have N₃ := N₂.set hs₂
    have st₃ : St (i + 1) h₂ := W.frame _ _ _ st' fun b hb o e => (hs₂.2 b (hfp b hb)).trans e
    obtain ⟨its, NI, hi1, hi2⟩ := its_of h₂ h₀ env.locals fp hfp
    refine wpAny_mono (turn i v m₁ news₁ its h₂ _ hi hP hj₁ ne hi1 st₃ hi2 F₃ (fun p hp => by
      rcases List.mem_append.mp hp with hp | hp
      · exact N₃ p hp
      · exact NI p hp)) (fun f s₃ h₃ => ?_) fun _ _ f => f
    have nxt : ∀ {s₃}, TurnN s₂ h₀ env.locals wr (J (i + 1)) its s₃ → InvW s₂ h₀ env.locals wr (St (i + 1)) (J (i + 1)) s₃ := by
      rintro s₃ ⟨h', tk', m', news', e, F', N', n', j'⟩
      exact ⟨h', tk', m', news', e, W.frame _ _ _ st₃ (its_keep F₃ F' (fun p hp => (N' p (List.mem_append_right _ hp)).1) hi2), F', fun p hp => N' p (List.mem_append_left _ hp), n', j'⟩
    cases f with
    | next => exact nxt h₃
    | cont => exact nxt h₃
    | brk => exact h₃.elim
    | ret v => exact h₃
  · rintro s' ⟨h, tk, m₁, news₁, rfl, st, F₁, N₁, ne, hj₁⟩
    refine W.done _ _ _ st fun h' tk' hk => ⟨rfl, ?_⟩
    have hwL : ∀ b ∈ wr, b ≠ env.locals := fun b hb => hfp b (W.sub b hb)
    refine done m₁ news₁ h' tk' hj₁ ⟨F₁.ns.at fun o e => hk _ o (fun hm => hwL _ hm rfl) e, fun b o e => hk b o (fun hm => by rw [hwr b hm] at e; cases e) (F₁.keep b o e), F₁.above⟩ fun p hp => ⟨hk _ _ (ne p hp) (N₁ p hp).1, (N₁ p hp).2⟩
theorem For_WU2 {env : Env} {xa xb : Str} {pa pb pt : Pos} {kt : Nat} {iter : Expr} {pos : Pos} {body : List Stmt} {Q : Flow → Shared → Prop} {h₀ : Heap}
    (hxa : env.kindOf xa = some .local) (hxb : env.kindOf xb = some .local) (hp : (env.scope.kind == .class || (env.scope.kind == .module && env.locals != env.globals)) = false) (hA : A.handled = none)
    (J : Nat → (Str → Option Value) → List (Addr × Obj) → Prop)
    (h : wpAny (model prog w) A (eval iter env) (fun xv s₁ => wpAny (model prog w) A (pyIter xv) (FWU prog w A env xa xb body h₀ J Q) E s₁) E s)
    (hs : ∀ x, foldedSetIterable iter env x = pure x := by intro _; rfl) :
    wpAny (model prog w) A (exec (.For (.Tuple [.Name xa pa, .Name xb pb] kt pt) iter body [] pos) env) Q E s := by
  refine For_gen (wpAny_mono h (fun xv s₁ h₁ => wpAny_mono h₁ (fun it s₂ h₂ => ?_) fun _ _ e => e) fun _ _ e => e) hs
  obtain ⟨I, fp, wr, n, P, St, Mid, m, news, rfl, W, hpair, st0, hfp, hwr, F, N, hnw, hj, turn, done⟩ := h₂
  have hwL : ∀ b ∈ wr, b ≠ env.locals := fun b hb => hfp b (W.sub b hb)
  refine ⟨n, fun i s' => InvW s₂ h₀ env.locals wr (St i) (J i) s', ⟨_, s₂.toks, m, news, rfl, st0, F, N, hnw, hj⟩, ?_, ?_⟩
  · rintro i s' hi ⟨h, tk, m₁, news₁, rfl, st, F₁, N₁, ne, hj₁⟩
    refine W.item i _ _ _ hi st fun T vals h' tk' hP hT hmid hk => ?_
    obtain ⟨va, vb, rfl⟩ := hpair i vals hP
    refine ⟨_, rfl, W.go _ _ _ i T _ _ _ hmid fun h'' st' hk' => ?_⟩
    have hkk : ∀ b o, b ∉ wr → h.get? b = some o → h''.get? b = some o := fun b o hb e => hk' b o hb (hk b o hb e)
    have hT' : h''.IsTuple T #[va, vb] := hT.at fun o e => hk' _ _ (W.apart _ _ _ hmid) e
    have F₂ : Fr h₀ env.locals h'' m₁ := ⟨F₁.ns.at fun o e => hkk _ o (fun hm => hwL _ hm rfl) e, fun b o e => hkk b o (fun hm => by rw [hwr b hm] at e; cases e) (F₁.keep b o e), F₁.above⟩
    have N₂ : News h₀ env.locals h'' news₁ := fun p hp => ⟨hkk _ _ (ne p hp) (N₁ p hp).1, (N₁ p hp).2⟩
    refine wpAny_assign_Tuple hA hT' rfl rfl fun h₃ hx₃ => ?_
    have hx₃' : ∀ b o, h''.get? b = some o → h₃.get? b = some o := fun b o e => hx₃ b o (Nat.ne_of_lt (Heap.lt_size e)) e
    have F₃ := F₂.keptAll hx₃'
    have N₃ : News h₀ env.locals h₃ news₁ := News.kp N₂ hx₃'
    have st₃ : St (i + 1) h₃ := W.frame _ _ _ st' fun b _ o e => hx₃' b o e
    show wpAny (model prog w) A (assignInOrder [assign (.Name xa pa) env, assign (.Name xb pb) env] [va, vb]) _ _ _
    unfold assignInOrder
    refine wpAny_bind (wpAny_holding (wpAny_assign_Name (wpAny_storeName_local hxa F₃.ns (fun h₄ hn₄ hs₄ => ?_) hp)))
    unfold assignInOrder
    have F₄ := F₃.set hn₄ hs₄
    have N₄ := N₃.set hs₄
    refine wpAny_bind (wpAny_holding (wpAny_assign_Name (wpAny_storeName_local hxb F₄.ns (fun h₅ hn₅ hs₅ => ?_) hp)))
    unfold assignInOrder
    refine wpAny_pure ?_
    have F₅ := F₄.set hn₅ hs₅
    have N₅ := N₄.set hs₅
    have st₅ : St (i + 1) h₅ := W.frame _ _ _ st₃ fun b hb o e => (hs₅.2 b (hfp b hb)).trans ((hs₄.2 b (hfp b hb)).trans e)
    obtain ⟨its, NI, hi1, hi2⟩ := its_of h₅ h₀ env.locals fp hfp
    refine wpAny_mono (turn i va vb m₁ news₁ its h₅ _ hi hP hj₁ ne hi1 st₅ hi2 F₅ (fun p hp => by
      rcases List.mem_append.mp hp with hp | hp
      · exact N₅ p hp
      · exact NI p hp)) (fun f s₃ h₃ => ?_) fun _ _ f => f
    have nxt : ∀ {s₃}, TurnN s₂ h₀ env.locals wr (J (i + 1)) its s₃ → InvW s₂ h₀ env.locals wr (St (i + 1)) (J (i + 1)) s₃ := by
      rintro s₃ ⟨h', tk', m', news', e, F', N', n', j'⟩
      exact ⟨h', tk', m', news', e, W.frame _ _ _ st₅ (its_keep F₅ F' (fun p hp => (N' p (List.mem_append_right _ hp)).1) hi2), F', fun p hp => N' p (List.mem_append_left _ hp), n', j'⟩
    cases f with
    | next => exact nxt h₃
    | cont => exact nxt h₃
    | brk => exact h₃.elim
    | ret v => exact h₃
  · rintro s' ⟨h, tk, m₁, news₁, rfl, st, F₁, N₁, ne, hj₁⟩
    refine W.done _ _ _ st fun h' tk' hk => ⟨rfl, ?_⟩
    refine done m₁ news₁ h' tk' hj₁ ⟨F₁.ns.at fun o e => hk _ o (fun hm => hwL _ hm rfl) e, fun b o e => hk b o (fun hm => by rw [hwr b hm] at e; cases e) (F₁.keep b o e), F₁.above⟩ fun p hp => ⟨hk _ _ (ne p hp) (N₁ p hp).1, (N₁ p hp).2⟩
theorem src_enum {env : Env} {xa xb : Str} {body : List Stmt} {Q : Flow → Shared → Prop} {h₀ : Heap} {m : Str → Option Value} {news : List (Addr × Obj)} {l : Addr} {vs : List Value} (hA : A.handled = none)
    (J : Nat → (Str → Option Value) → List (Addr × Obj) → Prop) (hl : s.heap.IsList l vs.toArray) (hlL : l ≠ env.locals) (F : Fr h₀ env.locals s.heap m) (N : News h₀ env.locals s.heap news) (hj : J 0 m news)
    (turn : ∀ i t v m₁ news₁ its h tk wr, vs[i]? = some v → J i m₁ news₁ → (∀ p ∈ news₁, p.1 ∉ wr) → (∀ b ∈ wr, s.heap.objs.size ≤ b) → (∀ p ∈ its, p.1 = l ∨ s.heap.objs.size ≤ p.1) → Fr h₀ env.locals h (fun y => if y = xb then some v else if y = xa then some (.int (i : Nat) t) else m₁ y) → News h₀ env.locals h (news₁ ++ its) →
        wpAny (model prog w) A (execs body env) (TurnW s h₀ env.locals wr (J (i + 1)) its Q) NoE { s with heap := h, toks := tk })
    (done : ∀ m₁ news₁ h tk, J vs.length m₁ news₁ → Fr h₀ env.locals h m₁ → News h₀ env.locals h news₁ → Q .next { s with heap := h, toks := tk }) :
    wpAny (model prog w) A (call (.type "enumerate") [.ref l]) (fun xv s₁ => wpAny (model prog w) A (pyIter xv) (FWU prog w A env xa xb body h₀ J Q) E s₁) E s := by
  have hlt : l < s.heap.objs.size := by obtain ⟨_, e, _⟩ := hl; exact Heap.lt_size e
  have hLs : env.locals < s.heap.objs.size := F.ns.lt
  have hab : h₀.objs.size ≤ s.heap.objs.size := Nat.le_trans F.above (Nat.le_of_lt hLs)
  refine call_enumerate_list hl fun h' he hit hsz hk => wpAny_pyIter_enum he ?_
  refine ⟨s.heap.objs.size + 1, _, _, _, _, _, _, m, news, rfl, (WalksT.enumerate (prog := prog) (w := w) hA (s.heap.objs.size + 1) s.heap.objs.size l (Nat.succ_ne_self _) (Nat.ne_of_lt (Nat.lt_succ_of_lt hlt)) (Nat.ne_of_lt hlt) vs.toArray).toU, ?_, ⟨⟨_, he⟩, hit, hl.at fun o e => hk l o e⟩, ?_, ?_, F.keptAll hk, News.kp N hk, ?_, hj, ?_, ?_⟩
  · rintro i vals ⟨t, x, _, rfl⟩
    exact ⟨_, _, rfl⟩
  · intro b hb
    simp only [List.mem_cons, List.not_mem_nil, or_false] at hb
    rcases hb with rfl | rfl | rfl
    · exact Nat.ne_of_gt (Nat.lt_succ_of_lt hLs)
    · exact Nat.ne_of_gt hLs
    · exact hlL
  · intro b hb
    simp only [List.mem_cons, List.not_mem_nil, or_false] at hb
    rcases hb with rfl | rfl
    · exact Heap.get?_none_of_le (Nat.le_succ_of_le hab)
    · exact Heap.get?_none_of_le hab
  · intro p hp hb
    have hq := Heap.lt_size (N p hp).1
    simp only [List.mem_cons, List.not_mem_nil, or_false] at hb
    rcases hb with e | e
    · rw [e] at hq; exact absurd hq (Nat.not_lt.mpr (Nat.le_succ _))
    · rw [e] at hq; exact absurd hq (Nat.lt_irrefl _)
  · rintro i va vb m₁ news₁ its h tk hi ⟨t, x, hx, e⟩ hj₁ hn hits _ _ F₁ N₁
    obtain ⟨e1, e2⟩ : va = .int (i : Nat) t ∧ vb = x := by simpa using congrArg Array.toList e
    subst e1 e2
    refine wpAny_mono (turn i t vb m₁ news₁ its h tk _ (by simpa using hx) hj₁ hn ?_ ?_ F₁ N₁) (fun f s₃ h₃ => ?_) fun _ _ e => e
    · intro b hb
      simp only [List.mem_cons, List.not_mem_nil, or_false] at hb
      rcases hb with rfl | rfl
      · exact Nat.le_succ _
      · exact Nat.le_refl _
    · intro p hp
      have := hits p hp
      simp only [List.mem_cons, List.not_mem_nil, or_false] at this
      rcases this with e | e | e
      · right; rw [e]; exact Nat.le_succ _
      · right; rw [e]; exact Nat.le_refl _
      · left; exact e
    · exact h₃.ren _ _
  · intro m₁ news₁ h tk hj₁ F₁ N₁
    have e : vs.toArray.size = vs.length := by simp
    rw [e] at hj₁
    exact done m₁ news₁ h tk hj₁ F₁ N₁
theorem src_range {env : Env} {x : Str} {body : List Stmt} {Q : Flow → Shared → Prop} {h₀ : Heap} {m : Str → Option Value} {news : List (Addr × Obj)} {r : Addr} {k : Nat} {t u v : Tok} (hA : A.handled = none)
    (J : Nat → (Str → Option Value) → List (Addr × Obj) → Prop) (hr : IsRange s.heap r 0 (k : Int) 1 t u v) (hsm : Builtin.Range.small 0 (k : Int) 1 = true) (hsz : Builtin.Range.rangeSize 0 (k : Int) 1 = k) (F : Fr h₀ env.locals s.heap m) (N : News h₀ env.locals s.heap news) (hj : J 0 m news)
    (turn : ∀ i tv m₁ news₁ its h tk wr, i < k → J i m₁ news₁ → (∀ p ∈ news₁, p.1 ∉ wr) → (∀ b ∈ wr, s.heap.objs.size ≤ b) → (∀ p ∈ its, s.heap.objs.size ≤ p.1) → Fr h₀ env.locals h (fun y => if y = x then some (.int (i : Nat) tv) else m₁ y) → News h₀ env.locals h (news₁ ++ its) →
        wpAny (model prog w) A (execs body env) (TurnW s h₀ env.locals wr (J (i + 1)) its Q) NoE { s with heap := h, toks := tk })
    (done : ∀ m₁ news₁ h tk, J k m₁ news₁ → Fr h₀ env.locals h m₁ → News h₀ env.locals h news₁ → Q .next { s with heap := h, toks := tk }) :
    wpAny (model prog w) A (pyIter (.ref r)) (FW prog w A env x body h₀ J Q) E s := by
  have hLs : env.locals < s.heap.objs.size := F.ns.lt
  have hab : h₀.objs.size ≤ s.heap.objs.size := Nat.le_trans F.above (Nat.le_of_lt hLs)
  refine wpAny_pyIter_range hr hsm ?_
  refine ⟨s.heap.objs.size, _, _, k, _, _, m, news, rfl, Walks.range (prog := prog) (w := w) hA s.heap.objs.size 0 1 k, ?_, ?_, ?_, F.keptAll fun _ _ e => Heap.get?_push_of_some _ e, News.kp N fun _ _ e => Heap.get?_push_of_some _ e, ?_, hj, ?_, ?_⟩
  · show IsRangeIter _ _ _ _ _
    rw [hsz]
    have := Heap.get?_push_size s.heap (o := { cls := .type "range_iterator", data := .fields #[rawInt 0, rawInt (k : Int), rawInt 1] }) rfl
    simpa [IsRangeIter] using this
  · intro b hb
    simp only [List.mem_cons, List.not_mem_nil, or_false] at hb
    subst hb
    exact Nat.ne_of_gt hLs
  · intro b hb
    simp only [List.mem_cons, List.not_mem_nil, or_false] at hb
    subst hb
    exact Heap.get?_none_of_le hab
  · intro p hp hb
    have hq := Heap.lt_size (N p hp).1
    simp only [List.mem_cons, List.not_mem_nil, or_false] at hb
    rw [hb] at hq; exact absurd hq (Nat.lt_irrefl _)
  · rintro i v m₁ news₁ its h tk hi ⟨tv, rfl⟩ hj₁ hn hits _ _ F₁ N₁
    have e9 : (0 : Int) + (i : Nat) * 1 = (i : Nat) := by omega
    rw [e9] at F₁
    refine wpAny_mono (turn i tv m₁ news₁ its h tk _ hi hj₁ hn ?_ ?_ F₁ N₁) (fun f s₃ h₃ => ?_) fun _ _ e => e
    · intro b hb
      simp only [List.mem_cons, List.not_mem_nil, or_false] at hb
      subst hb; exact Nat.le_refl _
    · intro p hp
      have := hits p hp
      simp only [List.mem_cons, List.not_mem_nil, or_false] at this
      rw [this]; exact Nat.le_refl _
    · exact h₃.ren _ _
  · intro m₁ news₁ h tk hj₁ F₁ N₁
    exact done m₁ news₁ h tk hj₁ F₁ N₁
theorem While_J {env : Env} {test : Expr} {pos : Pos} {body : List Stmt} {Q : Flow → Shared → Prop} (I : Nat → Shared → Prop)
    (turn : ∀ n s, I n s → wpAny (model prog w) A (isTrue test env (eval test env)) (fun b s₂ => if b = true then wpAny (model prog w) A (execs body env) (fun f s₃ => match f with | .next | .cont => ∃ k, k < n ∧ I k s₃ | .brk => Q .next s₃ | .ret v => Q (.ret v) s₃) NoE s₂ else Q .next s₂) NoE s)
    {n : Nat} (h : I n s) : wpAny (model prog w) A (exec (.While test body [] pos) env) Q E s := by
  refine wpAny_While (codeAny_whileLoop I (fun n s hI => ?_) n h)
  refine wpAny_mono (turn n s hI) (fun b s₂ hb => ?_) fun _ _ f => f.elim
  cases b with
  | true =>
    simp only [if_true] at hb ⊢
    refine wpAny_mono hb (fun f s₃ h₃ => ?_) fun _ _ f => f.elim
    cases f with
    | next => exact h₃
    | cont => exact h₃
    | brk => exact h₃
    | ret v => exact h₃
  | false =>
    simp only [Bool.false_eq_true, if_false] at hb ⊢
    exact wpAny_execs_nil hb
end
end Mine
end
section
open PySem PySem.W PyProof.Rows PySem.Spec PySem.Calls PyProof.V
namespace Mine
noncomputable def stOr : List Stmt → Nat → Stmt
  | a :: _, 0 => a
  | _ :: r, k + 1 => stOr r k
  | [], _ => .Pass ⟨0, 0, 0, 0⟩
@[reducible] noncomputable def z0 : Stmt := by
  refine (⟨?b, ?h⟩ : {b : Stmt // b = stOr bB21 0}).1
  case h => conv => rhs; whnf
@[reducible] noncomputable def z1 : Stmt := by
  refine (⟨?b, ?h⟩ : {b : Stmt // b = stOr bB21 1}).1
  case h => conv => rhs; whnf
@[reducible] noncomputable def z2 : Stmt := by
  refine (⟨?b, ?h⟩ : {b : Stmt // b = stOr bB21 2}).1
  case h => conv => rhs; whnf
@[reducible] noncomputable def z3 : Stmt := by
  refine (⟨?b, ?h⟩ : {b : Stmt // b = stOr bB21 3}).1
  case h => conv => rhs; whnf
@[reducible] noncomputable def z4 : Stmt := by
  refine (⟨?b, ?h⟩ : {b : Stmt // b = stOr bB21 4}).1
  case h => conv => rhs; whnf
@[reducible] noncomputable def z5 : Stmt := by
  refine (⟨?b, ?h⟩ : {b : Stmt // b = stOr bB21 5}).1
  case h => conv => rhs; whnf
@[reducible] noncomputable def z6 : Stmt := by
  refine (⟨?b, ?h⟩ : {b : Stmt // b = stOr bB21 6}).1
  case h => conv => rhs; whnf
@[reducible] noncomputable def z7 : Stmt := by
  refine (⟨?b, ?h⟩ : {b : Stmt // b = stOr bB21 7}).1
  case h => conv => rhs; whnf
@[reducible] noncomputable def z8 : Stmt := by
  refine (⟨?b, ?h⟩ : {b : Stmt // b = stOr bB21 8}).1
  case h => conv => rhs; whnf
@[reducible] noncomputable def z9 : Stmt := by
  refine (⟨?b, ?h⟩ : {b : Stmt // b = stOr bB21 9}).1
  case h => conv => rhs; whnf
@[reducible] noncomputable def z10 : Stmt := by
  refine (⟨?b, ?h⟩ : {b : Stmt // b = stOr bB21 10}).1
  case h => conv => rhs; whnf
@[reducible] noncomputable def z11 : Stmt := by
  refine (⟨?b, ?h⟩ : {b : Stmt // b = stOr bB21 11}).1
  case h => conv => rhs; whnf
@[reducible] noncomputable def z12 : Stmt := by
  refine (⟨?b, ?h⟩ : {b : Stmt // b = stOr bB21 12}).1
  case h => conv => rhs; whnf
@[reducible] noncomputable def z13 : Stmt := by
  refine (⟨?b, ?h⟩ : {b : Stmt // b = stOr bB21 13}).1
  case h => conv => rhs; whnf
@[reducible] noncomputable def z14 : Stmt := by
  refine (⟨?b, ?h⟩ : {b : Stmt // b = stOr bB21 14}).1
  case h => conv => rhs; whnf
@[reducible] noncomputable def z15 : Stmt := by
  refine (⟨?b, ?h⟩ : {b : Stmt // b = stOr bB21 15}).1
  case h => conv => rhs; whnf
@[reducible] noncomputable def z16 : Stmt := by
  refine (⟨?b, ?h⟩ : {b : Stmt // b = stOr bB21 16}).1
  case h => conv => rhs; whnf
@[reducible] noncomputable def z17 : Stmt := by
  refine (⟨?b, ?h⟩ : {b : Stmt // b = stOr bB21 17}).1
  case h => conv => rhs; whnf
@[reducible] noncomputable def z18 : Stmt := by
  refine (⟨?b, ?h⟩ : {b : Stmt // b = stOr bB21 18}).1
  case h => conv => rhs; whnf
@[reducible] noncomputable def z19 : Stmt := by
  refine (⟨?b, ?h⟩ : {b : Stmt // b = stOr bB21 19}).1
  case h => conv => rhs; whnf
@[reducible] noncomputable def z20 : Stmt := by
  refine (⟨?b, ?h⟩ : {b : Stmt // b = stOr bB21 20}).1
  case h => conv => rhs; whnf
@[reducible] noncomputable def z21 : Stmt := by
  refine (⟨?b, ?h⟩ : {b : Stmt // b = stOr bB21 21}).1
  case h => conv => rhs; whnf
@[reducible] noncomputable def z22 : Stmt := by
  refine (⟨?b, ?h⟩ : {b : Stmt // b = stOr bB21 22}).1
  case h => conv => rhs; whnf
@[reducible] noncomputable def z23 : Stmt := by
  refine (⟨?b, ?h⟩ : {b : Stmt // b = stOr bB21 23}).1
  case h => conv => rhs; whnf
@[reducible] noncomputable def z24 : Stmt := by
  refine (⟨?b, ?h⟩ : {b : Stmt // b = stOr bB21 24}).1
  case h => conv => rhs; whnf
@[reducible] noncomputable def z25 : Stmt := by
  refine (⟨?b, ?h⟩ : {b : Stmt // b = stOr bB21 25}).1
  case h => conv => rhs; whnf
@[reducible] noncomputable def z26 : Stmt := by
  refine (⟨?b, ?h⟩ : {b : Stmt // b = stOr bB21 26}).1
  case h => conv => rhs; whnf
@[reducible] noncomputable def z27 : Stmt := by
  refine (⟨?b, ?h⟩ : {b : Stmt // b = stOr bB21 27}).1
  case h => conv => rhs; whnf
theorem law_body_eq : bB21 = [z0, z1, z2, z3, z4, z5, z6, z7, z8, z9, z10, z11, z12, z13, z14, z15, z16, z17, z18, z19, z20, z21, z22, z23, z24, z25, z26, z27] := by rfl
end Mine
end
section
open PySem PySem.W PyProof.Rows PySem.Spec PySem.Calls PyProof.V
namespace Mine
noncomputable abbrev LE (L fa : Addr) (cd : Value) : Env := envOfC (Str.ofString "law") bS21 L fa cd
noncomputable abbrev LAr (L fa : Addr) (cd : Value) : Around := callerA.deeper (LE L fa cd)
noncomputable abbrev cellO (v : Option Value) : Obj := { cls := .type "cell", data := .cell v }
theorem Fr.list {h₀ h : Heap} {L : Addr} {m : Str → Option Value} (F : Fr h₀ L h m) (ks : List (Str × Value)) (hk : ∀ p ∈ ks, m p.1 = some p.2) : Fr h₀ L h (fun y => match ks.lookup y with | some v => some v | none => m y) := by
  have e : (fun y => match ks.lookup y with | some v => some v | none => m y) = m := by
    funext y
    cases h : ks.lookup y with
    | none => rfl
    | some v =>
      have : (y, v) ∈ ks := by
        clear hk F
        induction ks with
        | nil => cases h
        | cons p r ih =>
          obtain ⟨k, u⟩ := p
          rw [List.lookup_cons] at h
          cases hy : (y == k) with
          | true =>
            rw [hy] at h
            dsimp only at h
            cases h
            have := beq_iff_eq.mp hy
            subst this
            exact List.mem_cons_self ..
          | false =>
            rw [hy] at h
            exact List.mem_cons_of_mem _ (ih h)
      exact (hk _ this).symm
  rw [e]; exact F
/-- the cells of the law -/
noncomputable abbrev cellsL (L : Addr) (o6 o5 o4 o3 o2 o1 : Obj) : List (Addr × Obj) := [(L + 1 + 1 + 1 + 1 + 1 + 1, o6), (L + 1 + 1 + 1 + 1 + 1, o5), (L + 1 + 1 + 1 + 1, o4), (L + 1 + 1 + 1, o3), (L + 1 + 1, o2), (L + 1, o1)]
noncomputable def JDr (l dl : Addr) (cs : List (Addr × Obj)) (i : Nat) (m₁ : Str → Option Value) (news₁ : List (Addr × Obj)) : Prop :=
  m₁ (Str.ofString "script") = some (.ref l) ∧ ∃ (dvs : List Value) (ds : List Int) (nn : Nat), IntsAre dvs ds ∧ ds.length = 5 ∧ (∀ d ∈ ds, 0 ≤ d ∧ d ≤ 2000 + i * 1000000) ∧ news₁ = (dl, W.listOf dvs.toArray nn) :: cs
theorem upd_head {h₀ h h' : Heap} {L d : Addr} {m : Str → Option Value} {o o' : Obj} {rest : List (Addr × Obj)} (F : Fr h₀ L h m) (N : News h₀ L h ((d, o) :: rest)) (hs : Heap.SameBut d h h') (ho : h'.get? d = some o') (hne : ∀ p ∈ rest, p.1 ≠ d) :
    Fr h₀ L h' m ∧ News h₀ L h' ((d, o') :: rest) := by
  obtain ⟨h1, h2, h3⟩ := N (d, o) (List.mem_cons_self ..)
  refine ⟨F.change hs h2 h3, fun p hp => ?_⟩
  rcases List.mem_cons.mp hp with rfl | hp
  · exact ⟨ho, h2, h3⟩
  · exact ⟨(hs.2 _ (hne p hp)).trans (N p (List.mem_cons_of_mem _ hp)).1, (N p (List.mem_cons_of_mem _ hp)).2⟩
theorem IntsAre.getX {vs : List Value} {ns : List Int} (h : IntsAre vs ns) (i : Nat) (hi : i < ns.length) : ∃ t, vs[i]? = some (.int (ns.getD i 0) t) := by
  obtain ⟨t, e⟩ := h.get i ns[i] (List.getElem?_eq_getElem hi)
  exact ⟨t, by rw [e]; simp [List.getD_eq_getElem?_getD, hi]⟩
theorem IntsAre.setX : ∀ {vs : List Value} {ns : List Int} (i : Nat) (k : Int) (t : Tok), IntsAre vs ns → IntsAre (vs.set i (.int k t)) (ns.set i k)
  | _, _, _, _, _, .nil => .nil
  | _, _, 0, k, t, .cons n u h => .cons k t h
  | _, _, i + 1, k, t, .cons n u h => .cons n u (Mine.IntsAre.setX i k t h)
theorem set_list {prog : Program} {w : World} {A : Around} {E : Value → Shared → Prop} {s : Shared} {h₀ : Heap} {L d : Addr} {m : Str → Option Value} {vs : List Value} {nn : Nat} {rest : List (Addr × Obj)} {k : Int} {t : Tok} {v : Value} {Q : Unit → Shared → Prop}
    (F : Fr h₀ L s.heap m) (N : News h₀ L s.heap ((d, W.listOf vs.toArray nn) :: rest)) (hne : ∀ p ∈ rest, p.1 ≠ d) (h0 : 0 ≤ k) (hfit : k < 2 ^ 63) (hn : k < vs.length)
    (hQ : ∀ h', Fr h₀ L h' m → News h₀ L h' ((d, W.listOf (vs.set k.toNat v).toArray nn) :: rest) → Q () { s with heap := h' }) : wpAny (model prog w) A (setItem (.ref d) (.int k t) v) Q E s := by
  have ho := (N _ (List.mem_cons_self ..)).1
  refine ki_setAt ho h0 hfit (by simpa using hn) ?_
  have e1 : Obj.mapSeq (·.setIfInBounds k.toNat v) (W.listOf vs.toArray nn) = W.listOf (vs.set k.toNat v).toArray nn := by
    simp [Obj.mapSeq, W.listOf]
  obtain ⟨F', N'⟩ := upd_head F N (Heap.SameBut.update _ d _) ((Heap.get?_update_self _ ho (by rw [e1]; rfl)).trans (congrArg some e1)) hne
  exact hQ _ F' N'
theorem nw_head {wr : List Addr} {d : Addr} {o o' : Obj} {rest : List (Addr × Obj)} (h : ∀ p ∈ (d, o) :: rest, p.1 ∉ wr) : ∀ p ∈ (d, o') :: rest, p.1 ∉ wr := fun p hp => by
  rcases List.mem_cons.mp hp with e | hp
  · rw [e]; exact h (d, o) (List.mem_cons_self ..)
  · exact h p (List.mem_cons_of_mem _ hp)
theorem bnd_draw {d : Int} {k n : Nat} (h : 0 ≤ d ∧ d ≤ 2000 + (k : Int) * 1000000) (e : k = n) (hn : n ≤ 63) : 0 ≤ d ∧ d ≤ 70000000 := by omega
theorem st_draws (w : World) (h₀ : Heap) (L fa l : Addr) (cd : Value) (m : Str → Option Value) (o1 o2 o3 o4 o5 o6 : Obj) (mean : ExcName → Option Value) (mg mb : Str → Option Value) (s : Shared) (Q : Flow → Shared → Prop) (rest : List Stmt)
    (F : Fr h₀ L s.heap m) (X : (KK w.params).In h₀) (T : Top vw Mine.lw mean mg mb h₀)
    (N : News h₀ L s.heap [(L + 1 + 1 + 1 + 1 + 1 + 1, o6), (L + 1 + 1 + 1 + 1 + 1, o5), (L + 1 + 1 + 1 + 1, o4), (L + 1 + 1 + 1, o3), (L + 1 + 1, o2), (L + 1, o1)]) (hsc : m (Str.ofString "script") = some (.ref l)) (vs : List Value) (ns : List Int) (hl : h₀.IsList l vs.toArray) (hi : IntsAre vs ns) (hn : ns.length ≤ 63) (d1 : o1.data = .cell none) (d2 : o2.data = .cell none) (d3 : o3.data = .cell none) (d4 : o4.data = .cell none) (d5 : o5.data = .cell none) (d6 : o6.data = .cell none) (B : Below callerA h₀ [] h₀)
    (hrest : ∀ (m' : Str → Option Value) (o1' : Obj) (dl : Addr) (dvs : List Value) (ds : List Int) (nn : Nat) (h : Heap) (tk : Nat), Fr h₀ L h m' → News h₀ L h ((dl, W.listOf dvs.toArray nn) :: cellsL L o6 o5 o4 o3 o2 o1') → o1'.data = .cell (some (.ref dl)) → IntsAre dvs ds → ds.length = 5 → (∀ d ∈ ds, 0 ≤ d ∧ d ≤ 70000000) →
      (∀ p ∈ cellsL L o6 o5 o4 o3 o2 o1', p.1 < dl) → wpAny (model pw w) (LAr L fa cd) (execs rest (LE L fa cd)) Q NoE { s with heap := h, toks := tk })
    : wpAny (model pw w) (LAr L fa cd) (execs (z0 :: z1 :: rest) (LE L fa cd)) Q NoE s := by
  iterate 16 (first | walk1 | (dsimp only; walk1))
  rename Fr _ _ _ _ => F1; rename News _ _ _ _ => N1
  rename Addr => dl; rename _ ∧ _ => la; rename Obj.data _ = Data.cell (some _) => dd; rename Obj => o1'
  have F2 := Fr.list F1 [(Str.ofString "script", .ref l)] (by simpa using hsc)
  clear F1
  have hcl : ∀ p ∈ cellsL L o6 o5 o4 o3 o2 o1', p.1 < dl := by
    intro p hp
    simp only [cellsL, List.mem_cons, List.not_mem_nil, or_false] at hp
    rcases hp with rfl | rfl | rfl | rfl | rfl | rfl <;> first | exact la.1 | exact la.2.1 | exact la.2.2.1 | exact la.2.2.2.1 | exact la.2.2.2.2.1 | exact la.2.2.2.2.2
  clear la
  have hdl : dl < _ := Heap.lt_size (N1 (dl, _) (List.mem_cons_self ..)).1
  refine wpAny_execs_cons ?_
  refine For_WU2 (h₀ := h₀) rfl rfl rfl rfl (JDr l dl (cellsL L o6 o5 o4 o3 o2 o1')) ?_
  iterate 6 (first | walk1 | (dsimp only; walk1))
  refine src_enum (env := LE L fa cd) (h₀ := h₀) (vs := vs) rfl (JDr l dl (cellsL L o6 o5 o4 o3 o2 o1')) (hl.at fun o e => F2.keep _ _ e) ?_ F2 N1 ?_ ?_ ?_
  · obtain ⟨_, e, _⟩ := hl
    exact Nat.ne_of_lt (Nat.lt_of_lt_of_le (Heap.lt_size e) F2.above)
  · refine ⟨rfl, _, [0, 7, 5, 61, 1745], 0, .cons _ _ (.cons _ _ (.cons _ _ (.cons _ _ (.cons _ _ .nil)))), rfl, by decide, rfl⟩
  · rintro i t v m₁ news₁ its h tk wr hv ⟨hsc1, dvs, ds, nn, hids, hlen, hb, rfl⟩ hnw hwr hits F3 N3
    have hdi : ∀ p ∈ its, p.1 ≠ dl := by
      intro p hp e
      rcases hits p hp with e1 | e1
      · have h2 := (N1 (dl, _) (List.mem_cons_self ..)).2.2
        obtain ⟨_, h3, _⟩ := hl
        dsimp only at h2
        rw [← e, e1, h3] at h2; cases h2
      · rw [e] at e1; exact absurd hdl (Nat.not_lt.mpr e1)
    clear F2 N1
    simp only [List.cons_append, List.nil_append] at N3
    obtain ⟨num, tn, rfl, hnum⟩ := hi.at i v hv
    iterate 7 (first | walk1 | (dsimp only; walk1))
    dsimp only
    have hk0 : 0 ≤ (i : Int).fmod 5 ∧ (i : Int).fmod 5 < 5 := by
      rw [Int.fmod_eq_emod_of_nonneg _ (by decide)]; omega
    generalize hke : (i : Int).fmod 5 = kk at hk0 ⊢
    have hvl : dvs.length = 5 := by rw [hids.length]; exact hlen
    obtain ⟨to, hold⟩ := Mine.IntsAre.getX hids kk.toNat (by omega)
    have hob := hb (ds.getD kk.toNat 0) (by rw [List.getD_eq_getElem?_getD, List.getElem?_eq_getElem (show kk.toNat < ds.length by omega), Option.getD_some]; exact List.getElem_mem _)
    generalize hde : ds.getD kk.toNat 0 = d9 at hold hob
    have hil : h.IsList dl dvs.toArray := ⟨_, (N3 _ (List.mem_cons_self ..)).1, rfl, _, rfl⟩
    refine wpAny_getItem_list hil hk0.1 (by omega) (by simpa using hold) ?_
    iterate 5 (first | walk1 | (dsimp only; walk1))
    have hcell : ∀ p ∈ cellsL L o6 o5 o4 o3 o2 o1' ++ its, p.1 ≠ dl := by
      intro p hp
      rcases List.mem_append.mp hp with hp | hp
      · exact Nat.ne_of_lt (hcl p hp)
      · exact hdi p hp
    refine set_list F3 (N := N3) hcell hk0.1 (by omega) (by omega) fun h' F4 N4 => ?_
    refine wpAny_execs_nil ?_
    refine TurnW.mk (news' := (dl, W.listOf (dvs.set kk.toNat (.int (d9 + num.fmod 1000000) _)).toArray nn) :: cellsL L o6 o5 o4 o3 o2 o1') F4 N4 ?_ ⟨hsc1, _, _, nn, Mine.IntsAre.setX kk.toNat (d9 + num.fmod 1000000) _ hids, ?_, ?_, rfl⟩
    · exact nw_head hnw
    · rw [List.length_set]; exact hlen
    · intro d hd
      rcases List.mem_or_eq_of_mem_set hd with hd | rfl
      · have := hb d hd
        omega
      · have h1 : 0 ≤ num.fmod 1000000 ∧ num.fmod 1000000 < 1000000 := by
          rw [Int.fmod_eq_emod_of_nonneg _ (by decide)]; omega
        omega
  · rintro m₁ news₁ h tk ⟨hsc1, dvs, ds, nn, hids, hlen, hb, rfl⟩ F3 N3
    exact hrest m₁ o1' dl dvs ds nn h tk F3 N3 dd hids hlen (fun d hd => bnd_draw (hb d hd) hi.length hn) hcl
end Mine
end
section
open PySem PySem.W PyProof.Rows PySem.Spec PySem.Calls PyProof.V
namespace Mine
theorem upd_at {h₀ h h' : Heap} {L d : Addr} {m : Str → Option Value} {o o' : Obj} {pre post : List (Addr × Obj)} (F : Fr h₀ L h m) (N : News h₀ L h (pre ++ (d, o) :: post)) (hs : Heap.SameBut d h h') (ho : h'.get? d = some o') (h1 : ∀ p ∈ pre, p.1 ≠ d) (h2 : ∀ p ∈ post, p.1 ≠ d) :
    Fr h₀ L h' m ∧ News h₀ L h' (pre ++ (d, o') :: post) := by
  obtain ⟨e1, e2, e3⟩ := N (d, o) (List.mem_append_right _ (List.mem_cons_self ..))
  refine ⟨F.change hs e2 e3, fun p hp => ?_⟩
  rcases List.mem_append.mp hp with hp | hp
  · exact ⟨(hs.2 _ (h1 p hp)).trans (N p (List.mem_append_left _ hp)).1, (N p (List.mem_append_left _ hp)).2⟩
  · rcases List.mem_cons.mp hp with rfl | hp
    · exact ⟨ho, e2, e3⟩
    · have hp' := List.mem_append_right pre (List.mem_cons_of_mem (d, o) hp)
      exact ⟨(hs.2 _ (h2 p hp)).trans (N p hp').1, (N p hp').2⟩
theorem cells_at {h₀ h h' : Heap} {L d : Addr} {m : Str → Option Value} {o o' : Obj} {pre a b c : List (Addr × Obj)} (F : Fr h₀ L h m) (N : News h₀ L h (pre ++ (a ++ (d, o) :: b))) (hs : Heap.SameBut d h h') (ho : h'.get? d = some o') (h0 : ∀ p ∈ pre, p.1 ≠ d) (h1 : ∀ p ∈ a, p.1 ≠ d) (h2 : ∀ p ∈ b, p.1 ≠ d) :
    Fr h₀ L h' m ∧ News h₀ L h' (pre ++ (a ++ (d, o') :: b)) := by
  rw [← List.append_assoc] at N ⊢
  refine upd_at F N hs ho (fun p hp => ?_) h2
  rcases List.mem_append.mp hp with hp | hp
  · exact h0 p hp
  · exact h1 p hp
section
variable {prog : Program} {w : World} {A : Around} {E : Value → Shared → Prop} {s : Shared} {h₀ : Heap} {L fa : Addr} {cd : Value} {m : Str → Option Value} {o6 o5 o4 o3 o2 o1 : Obj} {pre : List (Addr × Obj)}
noncomputable def Ab (L : Nat) (pre : List (Addr × Obj)) : Prop := ∀ p ∈ pre, ∀ k : Nat, 1 ≤ k → k ≤ 6 → p.1 ≠ L + k
theorem sto_draws {v₀ : Option Value} {v : Value} {Q : Unit → Shared → Prop} (F : Fr h₀ L s.heap m) (N : News h₀ L s.heap (pre ++ cellsL L o6 o5 o4 o3 o2 o1)) (hp : Ab L pre) (hd : o1.data = .cell v₀)
    (hQ : ∀ h' o', o'.data = .cell (some v) → Fr h₀ L h' m → News h₀ L h' (pre ++ cellsL L o6 o5 o4 o3 o2 o') → Q () { s with heap := h' }) : wpAny (model prog w) A (storeName (LE L fa cd) (Str.ofString "draws") v) Q E s := by
  have hm := N (L + 1, o1) (List.mem_append_right _ (by repeat (first | exact List.mem_cons_self .. | refine List.mem_cons_of_mem _ ?_)))
  refine wpAny_storeName_cell (c := L + 1) rfl rfl rfl ⟨o1, hm.1, hd⟩ fun h' hv hs => ?_
  obtain ⟨o', ho', hd'⟩ := hv
  obtain ⟨F', N'⟩ := cells_at (a := [(L + 1 + 1 + 1 + 1 + 1 + 1, o6), (L + 1 + 1 + 1 + 1 + 1, o5), (L + 1 + 1 + 1 + 1, o4), (L + 1 + 1 + 1, o3), (L + 1 + 1, o2)]) (b := []) (c := []) F N hs ho' (fun p hq => neN (by
      have := hp p hq 1 (by decide) (by decide)
      exact this)) (by
      intro p hp
      simp only [List.mem_cons, List.not_mem_nil, or_false] at hp
      rcases hp with rfl | rfl | rfl | rfl | rfl <;> exact neN (by omega)) (fun p hp => nomatch hp)
  exact hQ h' o' hd' F' N'
theorem ld_draws {v : Value} {pos : Pos} {Q : Value → Shared → Prop} (N : News h₀ L s.heap (pre ++ cellsL L o6 o5 o4 o3 o2 o1)) (hd : o1.data = .cell (some v)) (hQ : Q v s) : wpAny (model prog w) A (eval (.Name (Str.ofString "draws") pos) (LE L fa cd)) Q E s := by
  have hm := N (L + 1, o1) (List.mem_append_right _ (by repeat (first | exact List.mem_cons_self .. | refine List.mem_cons_of_mem _ ?_)))
  exact wpAny_Name (wpAny_loadName_cell (c := L + 1) rfl rfl rfl ⟨o1, hm.1, hd⟩ hQ) (by decide)
theorem sto_high {v₀ : Option Value} {v : Value} {Q : Unit → Shared → Prop} (F : Fr h₀ L s.heap m) (N : News h₀ L s.heap (pre ++ cellsL L o6 o5 o4 o3 o2 o1)) (hp : Ab L pre) (hd : o2.data = .cell v₀)
    (hQ : ∀ h' o', o'.data = .cell (some v) → Fr h₀ L h' m → News h₀ L h' (pre ++ cellsL L o6 o5 o4 o3 o' o1) → Q () { s with heap := h' }) : wpAny (model prog w) A (storeName (LE L fa cd) (Str.ofString "high") v) Q E s := by
  have hm := N (L + 1 + 1, o2) (List.mem_append_right _ (by repeat (first | exact List.mem_cons_self .. | refine List.mem_cons_of_mem _ ?_)))
  refine wpAny_storeName_cell (c := L + 1 + 1) rfl rfl rfl ⟨o2, hm.1, hd⟩ fun h' hv hs => ?_
  obtain ⟨o', ho', hd'⟩ := hv
  obtain ⟨F', N'⟩ := cells_at (a := [(L + 1 + 1 + 1 + 1 + 1 + 1, o6), (L + 1 + 1 + 1 + 1 + 1, o5), (L + 1 + 1 + 1 + 1, o4), (L + 1 + 1 + 1, o3)]) (b := [(L + 1, o1)]) (c := []) F N hs ho' (fun p hq => neN (by
      have := hp p hq 2 (by decide) (by decide)
      exact this)) (by
      intro p hp
      simp only [List.mem_cons, List.not_mem_nil, or_false] at hp
      rcases hp with rfl | rfl | rfl | rfl <;> exact neN (by omega)) (by
      intro p hp
      simp only [List.mem_cons, List.not_mem_nil, or_false] at hp
      rcases hp with rfl <;> exact neN (by omega))
  exact hQ h' o' hd' F' N'
theorem ld_high {v : Value} {pos : Pos} {Q : Value → Shared → Prop} (N : News h₀ L s.heap (pre ++ cellsL L o6 o5 o4 o3 o2 o1)) (hd : o2.data = .cell (some v)) (hQ : Q v s) : wpAny (model prog w) A (eval (.Name (Str.ofString "high") pos) (LE L fa cd)) Q E s := by
  have hm := N (L + 1 + 1, o2) (List.mem_append_right _ (by repeat (first | exact List.mem_cons_self .. | refine List.mem_cons_of_mem _ ?_)))
  exact wpAny_Name (wpAny_loadName_cell (c := L + 1 + 1) rfl rfl rfl ⟨o2, hm.1, hd⟩ hQ) (by decide)
theorem sto_pair {v₀ : Option Value} {v : Value} {Q : Unit → Shared → Prop} (F : Fr h₀ L s.heap m) (N : News h₀ L s.heap (pre ++ cellsL L o6 o5 o4 o3 o2 o1)) (hp : Ab L pre) (hd : o3.data = .cell v₀)
    (hQ : ∀ h' o', o'.data = .cell (some v) → Fr h₀ L h' m → News h₀ L h' (pre ++ cellsL L o6 o5 o4 o' o2 o1) → Q () { s with heap := h' }) : wpAny (model prog w) A (storeName (LE L fa cd) (Str.ofString "pair") v) Q E s := by
  have hm := N (L + 1 + 1 + 1, o3) (List.mem_append_right _ (by repeat (first | exact List.mem_cons_self .. | refine List.mem_cons_of_mem _ ?_)))
  refine wpAny_storeName_cell (c := L + 1 + 1 + 1) rfl rfl rfl ⟨o3, hm.1, hd⟩ fun h' hv hs => ?_
  obtain ⟨o', ho', hd'⟩ := hv
  obtain ⟨F', N'⟩ := cells_at (a := [(L + 1 + 1 + 1 + 1 + 1 + 1, o6), (L + 1 + 1 + 1 + 1 + 1, o5), (L + 1 + 1 + 1 + 1, o4)]) (b := [(L + 1 + 1, o2), (L + 1, o1)]) (c := []) F N hs ho' (fun p hq => neN (by
      have := hp p hq 3 (by decide) (by decide)
      exact this)) (by
      intro p hp
      simp only [List.mem_cons, List.not_mem_nil, or_false] at hp
      rcases hp with rfl | rfl | rfl <;> exact neN (by omega)) (by
      intro p hp
      simp only [List.mem_cons, List.not_mem_nil, or_false] at hp
      rcases hp with rfl | rfl <;> exact neN (by omega))
  exact hQ h' o' hd' F' N'
theorem ld_pair {v : Value} {pos : Pos} {Q : Value → Shared → Prop} (N : News h₀ L s.heap (pre ++ cellsL L o6 o5 o4 o3 o2 o1)) (hd : o3.data = .cell (some v)) (hQ : Q v s) : wpAny (model prog w) A (eval (.Name (Str.ofString "pair") pos) (LE L fa cd)) Q E s := by
  have hm := N (L + 1 + 1 + 1, o3) (List.mem_append_right _ (by repeat (first | exact List.mem_cons_self .. | refine List.mem_cons_of_mem _ ?_)))
  exact wpAny_Name (wpAny_loadName_cell (c := L + 1 + 1 + 1) rfl rfl rfl ⟨o3, hm.1, hd⟩ hQ) (by decide)
theorem sto_meant {v₀ : Option Value} {v : Value} {Q : Unit → Shared → Prop} (F : Fr h₀ L s.heap m) (N : News h₀ L s.heap (pre ++ cellsL L o6 o5 o4 o3 o2 o1)) (hp : Ab L pre) (hd : o4.data = .cell v₀)
    (hQ : ∀ h' o', o'.data = .cell (some v) → Fr h₀ L h' m → News h₀ L h' (pre ++ cellsL L o6 o5 o' o3 o2 o1) → Q () { s with heap := h' }) : wpAny (model prog w) A (storeName (LE L fa cd) (Str.ofString "meant") v) Q E s := by
  have hm := N (L + 1 + 1 + 1 + 1, o4) (List.mem_append_right _ (by repeat (first | exact List.mem_cons_self .. | refine List.mem_cons_of_mem _ ?_)))
  refine wpAny_storeName_cell (c := L + 1 + 1 + 1 + 1) rfl rfl rfl ⟨o4, hm.1, hd⟩ fun h' hv hs => ?_
  obtain ⟨o', ho', hd'⟩ := hv
  obtain ⟨F', N'⟩ := cells_at (a := [(L + 1 + 1 + 1 + 1 + 1 + 1, o6), (L + 1 + 1 + 1 + 1 + 1, o5)]) (b := [(L + 1 + 1 + 1, o3), (L + 1 + 1, o2), (L + 1, o1)]) (c := []) F N hs ho' (fun p hq => neN (by
      have := hp p hq 4 (by decide) (by decide)
      exact this)) (by
      intro p hp
      simp only [List.mem_cons, List.not_mem_nil, or_false] at hp
      rcases hp with rfl | rfl <;> exact neN (by omega)) (by
      intro p hp
      simp only [List.mem_cons, List.not_mem_nil, or_false] at hp
      rcases hp with rfl | rfl | rfl <;> exact neN (by omega))
  exact hQ h' o' hd' F' N'
theorem ld_meant {v : Value} {pos : Pos} {Q : Value → Shared → Prop} (N : News h₀ L s.heap (pre ++ cellsL L o6 o5 o4 o3 o2 o1)) (hd : o4.data = .cell (some v)) (hQ : Q v s) : wpAny (model prog w) A (eval (.Name (Str.ofString "meant") pos) (LE L fa cd)) Q E s := by
  have hm := N (L + 1 + 1 + 1 + 1, o4) (List.mem_append_right _ (by repeat (first | exact List.mem_cons_self .. | refine List.mem_cons_of_mem _ ?_)))
  exact wpAny_Name (wpAny_loadName_cell (c := L + 1 + 1 + 1 + 1) rfl rfl rfl ⟨o4, hm.1, hd⟩ hQ) (by decide)
theorem sto_below {v₀ : Option Value} {v : Value} {Q : Unit → Shared → Prop} (F : Fr h₀ L s.heap m) (N : News h₀ L s.heap (pre ++ cellsL L o6 o5 o4 o3 o2 o1)) (hp : Ab L pre) (hd : o5.data = .cell v₀)
    (hQ : ∀ h' o', o'.data = .cell (some v) → Fr h₀ L h' m → News h₀ L h' (pre ++ cellsL L o6 o' o4 o3 o2 o1) → Q () { s with heap := h' }) : wpAny (model prog w) A (storeName (LE L fa cd) (Str.ofString "below") v) Q E s := by
  have hm := N (L + 1 + 1 + 1 + 1 + 1, o5) (List.mem_append_right _ (by repeat (first | exact List.mem_cons_self .. | refine List.mem_cons_of_mem _ ?_)))
  refine wpAny_storeName_cell (c := L + 1 + 1 + 1 + 1 + 1) rfl rfl rfl ⟨o5, hm.1, hd⟩ fun h' hv hs => ?_
  obtain ⟨o', ho', hd'⟩ := hv
  obtain ⟨F', N'⟩ := cells_at (a := [(L + 1 + 1 + 1 + 1 + 1 + 1, o6)]) (b := [(L + 1 + 1 + 1 + 1, o4), (L + 1 + 1 + 1, o3), (L + 1 + 1, o2), (L + 1, o1)]) (c := []) F N hs ho' (fun p hq => neN (by
      have := hp p hq 5 (by decide) (by decide)
      exact this)) (by
      intro p hp
      simp only [List.mem_cons, List.not_mem_nil, or_false] at hp
      rcases hp with rfl <;> exact neN (by omega)) (by
      intro p hp
      simp only [List.mem_cons, List.not_mem_nil, or_false] at hp
      rcases hp with rfl | rfl | rfl | rfl <;> exact neN (by omega))
  exact hQ h' o' hd' F' N'
theorem ld_below {v : Value} {pos : Pos} {Q : Value → Shared → Prop} (N : News h₀ L s.heap (pre ++ cellsL L o6 o5 o4 o3 o2 o1)) (hd : o5.data = .cell (some v)) (hQ : Q v s) : wpAny (model prog w) A (eval (.Name (Str.ofString "below") pos) (LE L fa cd)) Q E s := by
  have hm := N (L + 1 + 1 + 1 + 1 + 1, o5) (List.mem_append_right _ (by repeat (first | exact List.mem_cons_self .. | refine List.mem_cons_of_mem _ ?_)))
  exact wpAny_Name (wpAny_loadName_cell (c := L + 1 + 1 + 1 + 1 + 1) rfl rfl rfl ⟨o5, hm.1, hd⟩ hQ) (by decide)
theorem sto_laid {v₀ : Option Value} {v : Value} {Q : Unit → Shared → Prop} (F : Fr h₀ L s.heap m) (N : News h₀ L s.heap (pre ++ cellsL L o6 o5 o4 o3 o2 o1)) (hp : Ab L pre) (hd : o6.data = .cell v₀)
    (hQ : ∀ h' o', o'.data = .cell (some v) → Fr h₀ L h' m → News h₀ L h' (pre ++ cellsL L o' o5 o4 o3 o2 o1) → Q () { s with heap := h' }) : wpAny (model prog w) A (storeName (LE L fa cd) (Str.ofString "laid") v) Q E s := by
  have hm := N (L + 1 + 1 + 1 + 1 + 1 + 1, o6) (List.mem_append_right _ (by repeat (first | exact List.mem_cons_self .. | refine List.mem_cons_of_mem _ ?_)))
  refine wpAny_storeName_cell (c := L + 1 + 1 + 1 + 1 + 1 + 1) rfl rfl rfl ⟨o6, hm.1, hd⟩ fun h' hv hs => ?_
  obtain ⟨o', ho', hd'⟩ := hv
  obtain ⟨F', N'⟩ := cells_at (a := []) (b := [(L + 1 + 1 + 1 + 1 + 1, o5), (L + 1 + 1 + 1 + 1, o4), (L + 1 + 1 + 1, o3), (L + 1 + 1, o2), (L + 1, o1)]) (c := []) F N hs ho' (fun p hq => neN (by
      have := hp p hq 6 (by decide) (by decide)
      exact this)) (fun p hp => nomatch hp) (by
      intro p hp
      simp only [List.mem_cons, List.not_mem_nil, or_false] at hp
      rcases hp with rfl | rfl | rfl | rfl | rfl <;> exact neN (by omega))
  exact hQ h' o' hd' F' N'
theorem ld_laid {v : Value} {pos : Pos} {Q : Value → Shared → Prop} (N : News h₀ L s.heap (pre ++ cellsL L o6 o5 o4 o3 o2 o1)) (hd : o6.data = .cell (some v)) (hQ : Q v s) : wpAny (model prog w) A (eval (.Name (Str.ofString "laid") pos) (LE L fa cd)) Q E s := by
  have hm := N (L + 1 + 1 + 1 + 1 + 1 + 1, o6) (List.mem_append_right _ (by repeat (first | exact List.mem_cons_self .. | refine List.mem_cons_of_mem _ ?_)))
  exact wpAny_Name (wpAny_loadName_cell (c := L + 1 + 1 + 1 + 1 + 1 + 1) rfl rfl rfl ⟨o6, hm.1, hd⟩ hQ) (by decide)
theorem Ab.cons {p : Addr × Obj} {pre : List (Addr × Obj)} (h : Ab L pre) (hp : ∀ q ∈ cellsL L o6 o5 o4 o3 o2 o1, q.1 ≠ p.1) : Ab L (p :: pre) := by
  intro q hq k h1 h6
  rcases List.mem_cons.mp hq with rfl | hq
  · have hk : k = 1 ∨ k = 2 ∨ k = 3 ∨ k = 4 ∨ k = 5 ∨ k = 6 := by omega
    rcases hk with rfl | rfl | rfl | rfl | rfl | rfl
    · exact Ne.symm (hp (L + 1, o1) (by repeat (first | exact List.mem_cons_self .. | refine List.mem_cons_of_mem _ ?_)))
    · exact Ne.symm (hp (L + 1 + 1, o2) (by repeat (first | exact List.mem_cons_self .. | refine List.mem_cons_of_mem _ ?_)))
    · exact Ne.symm (hp (L + 1 + 1 + 1, o3) (by repeat (first | exact List.mem_cons_self .. | refine List.mem_cons_of_mem _ ?_)))
    · exact Ne.symm (hp (L + 1 + 1 + 1 + 1, o4) (by repeat (first | exact List.mem_cons_self .. | refine List.mem_cons_of_mem _ ?_)))
    · exact Ne.symm (hp (L + 1 + 1 + 1 + 1 + 1, o5) (by repeat (first | exact List.mem_cons_self .. | refine List.mem_cons_of_mem _ ?_)))
    · exact Ne.symm (hp (L + 1 + 1 + 1 + 1 + 1 + 1, o6) (by repeat (first | exact List.mem_cons_self .. | refine List.mem_cons_of_mem _ ?_)))
  · exact h q hq k h1 h6
theorem Ab.nil : Ab L [] := fun p hp => nomatch hp
theorem fresh_ne {h : Heap} {news : List (Addr × Obj)} {D : Addr} (N : News h₀ L h news) (hD : h.get? D = none) : ∀ p ∈ news, p.1 ≠ D := by
  intro p hp e
  have := (N p hp).1
  rw [e, hD] at this; cases this
end
end Mine
end
section
open PySem PySem.W PyProof.Rows PySem.Spec PySem.Calls PyProof.V
namespace Mine
theorem News.tl {h₀ h : Heap} {L : Addr} {p : Addr × Obj} {r : List (Addr × Obj)} (N : News h₀ L h (p :: r)) : News h₀ L h r := fun q hq => N q (List.mem_cons_of_mem _ hq)
noncomputable def dims (W H : Nat) : Prop := (W = 3 ∧ H = 2) ∨ (W = 2 ∧ H = 3) ∨ (W = 4 ∧ H = 2) ∨ (W = 2 ∧ H = 4)
theorem st_dims (w : World) (h₀ : Heap) (L fa dl : Addr) (cd : Value) (m : Str → Option Value) (o1 o2 o3 o4 o5 o6 : Obj) (dvs : List Value) (ds : List Int) (nn : Nat) (mean : ExcName → Option Value) (mg mb : Str → Option Value) (s : Shared) (Q : Flow → Shared → Prop) (rest : List Stmt)
    (F : Fr h₀ L s.heap m) (X : (KK w.params).In h₀) (T : Top vw Mine.lw mean mg mb h₀)
    (N : News h₀ L s.heap ((dl, W.listOf dvs.toArray nn) :: cellsL L o6 o5 o4 o3 o2 o1)) (hids : IntsAre dvs ds) (hlen : ds.length = 5) (hb : ∀ d ∈ ds, 0 ≤ d ∧ d ≤ 70000000) (d1 : o1.data = .cell (some (.ref dl))) (d2 : o2.data = .cell none) (hab : Ab L [(dl, W.listOf dvs.toArray nn)]) (B : Below callerA h₀ [] h₀)
    (hrest : ∀ (Wd Ht : Nat) (m' : Str → Option Value) (o2' : Obj) (t1 t2 : Tok) (h : Heap) (tk : Nat), dims Wd Ht → Fr h₀ L h m' → m' (Str.ofString "wide") = some (.int (Wd : Int) t1) → o2'.data = .cell (some (.int (Ht : Int) t2)) → News h₀ L h ((dl, W.listOf dvs.toArray nn) :: cellsL L o6 o5 o4 o3 o2' o1) →
      wpAny (model pw w) (LAr L fa cd) (execs rest (LE L fa cd)) Q NoE { s with heap := h, toks := tk })
    : wpAny (model pw w) (LAr L fa cd) (execs (z2 :: rest) (LE L fa cd)) Q NoE s := by
  iterate 42 (first | walk1 | (dsimp only; walk1))
  rename Fr _ _ _ _ => F1; rename News _ _ _ _ => N1
  refine item_list_ints ⟨_, (N1 (dl, W.listOf dvs.toArray nn) (by k_mem)).1, rfl, _, rfl⟩ hids (by decide) (by omega) (by decide) (fun td => ?_)
  have hb0 := hb (ds.getD (0 : Int).toNat 0) (by rw [List.getD_eq_getElem?_getD, List.getElem?_eq_getElem (show (0 : Int).toNat < ds.length by rw [hlen]; decide), Option.getD_some]; exact List.getElem_mem _)
  generalize ds.getD (0 : Int).toNat 0 = d0 at hb0 ⊢
  iterate 2 (first | walk1 | (dsimp only; walk1))
  have hk : d0.fmod 4 = 0 ∨ d0.fmod 4 = 1 ∨ d0.fmod 4 = 2 ∨ d0.fmod 4 = 3 := by
    rw [Int.fmod_eq_emod_of_nonneg _ (by decide)]; omega
  rcases hk with hk | hk | hk | hk
  all_goals rw [hk]
  all_goals iterate 7 (first | walk1 | (dsimp only; walk1))
  all_goals (
    rename Fr _ _ _ _ => F2; rename News _ _ _ _ => N2
    have N3 := News.tl (News.tl (News.tl (News.tl (News.tl N2))))
    refine sto_high (pre := [(dl, W.listOf dvs.toArray nn)]) F2 N3 hab d2 fun h' o' hd' F4 N4 => ?_)
  · walk1
    exact hrest 3 2 _ o' _ _ h' _ (by unfold dims; omega) F4 rfl hd' N4
  · walk1
    exact hrest 2 3 _ o' _ _ h' _ (by unfold dims; omega) F4 rfl hd' N4
  · walk1
    exact hrest 4 2 _ o' _ _ h' _ (by unfold dims; omega) F4 rfl hd' N4
  · walk1
    exact hrest 2 4 _ o' _ _ h' _ (by unfold dims; omega) F4 rfl hd' N4
end Mine
end
section
open PySem PySem.W PyProof.Rows PySem.Spec PySem.Calls PyProof.V
namespace Mine
noncomputable def isPair (p : Str) : Prop := p = Str.ofString "fi" ∨ p = Str.ofString "fl" ∨ p = Str.ofString "st" ∨ p = Str.ofString "km"
theorem mul_dims {a b : Nat} (h : dims a b) : IntMulOk (a : Int) (b : Int) := by
  rcases h with ⟨rfl, rfl⟩ | ⟨rfl, rfl⟩ | ⟨rfl, rfl⟩ | ⟨rfl, rfl⟩ <;> mul_fits
theorem st_pair (w : World) (h₀ : Heap) (L fa dl : Addr) (cd : Value) (m : Str → Option Value) (o1 o2 o3 o4 o5 o6 : Obj) (dvs : List Value) (ds : List Int) (nn Wd Ht : Nat) (t1 t2 : Tok) (mean : ExcName → Option Value) (mg mb : Str → Option Value) (s : Shared) (Q : Flow → Shared → Prop) (rest : List Stmt)
    (F : Fr h₀ L s.heap m) (X : (KK w.params).In h₀) (T : Top vw Mine.lw mean mg mb h₀)
    (N : News h₀ L s.heap ((dl, W.listOf dvs.toArray nn) :: cellsL L o6 o5 o4 o3 o2 o1)) (hids : IntsAre dvs ds) (hlen : ds.length = 5) (hb : ∀ d ∈ ds, 0 ≤ d ∧ d ≤ 70000000) (d1 : o1.data = .cell (some (.ref dl))) (d2 : o2.data = .cell (some (.int (Ht : Int) t2))) (d3 : o3.data = .cell none) (hw : m (Str.ofString "wide") = some (.int (Wd : Int) t1)) (hdim : dims Wd Ht) (hab : Ab L [(dl, W.listOf dvs.toArray nn)]) (B : Below callerA h₀ [] h₀)
    (hrest : ∀ (pr : Str) (tp t3 t4 : Tok) (m' : Str → Option Value) (o3' : Obj) (h : Heap) (tk : Nat), isPair pr → Fr h₀ L h m' → m' (Str.ofString "wide") = some (.int (Wd : Int) t4) → m' (Str.ofString "size") = some (.int ((Wd * Ht : Nat) : Int) t3) → o3'.data = .cell (some (.str pr tp)) → News h₀ L h ((dl, W.listOf dvs.toArray nn) :: cellsL L o6 o5 o4 o3' o2 o1) →
      wpAny (model pw w) (LAr L fa cd) (execs rest (LE L fa cd)) Q NoE { s with heap := h, toks := tk })
    : wpAny (model pw w) (LAr L fa cd) (execs (z3 :: z4 :: rest) (LE L fa cd)) Q NoE s := by
  have F0 := Fr.list F [(Str.ofString "wide", .int (Wd : Int) t1)] (by simpa using hw)
  clear F
  iterate 19 (first | walk1 | (dsimp only; walk1))
  rename Fr _ _ _ _ => F1; rename News _ _ _ _ => N1
  refine item_list_ints ⟨_, (N1 (dl, W.listOf dvs.toArray nn) (by k_mem)).1, rfl, _, rfl⟩ hids (by decide) (by omega) (by decide) (fun td => ?_)
  generalize ds.getD (0 : Int).toNat 0 = d0
  iterate 4 (first | walk1 | (dsimp only; walk1))
  have hk : (d0.fdiv 4).fmod 4 = 0 ∨ (d0.fdiv 4).fmod 4 = 1 ∨ (d0.fdiv 4).fmod 4 = 2 ∨ (d0.fdiv 4).fmod 4 = 3 := by
    rw [Int.fmod_eq_emod_of_nonneg _ (by decide)]; omega
  rcases hk with hk | hk | hk | hk
  all_goals rw [hk]
  · walk1
    rename Fr _ _ _ _ => F2; rename News _ _ _ _ => N2
    have N3 := News.tl N2
    refine sto_pair (pre := [(dl, W.listOf dvs.toArray nn)]) F2 N3 hab d3 fun h' o' hd' F4 N4 => ?_
    clear F2 N2 N3
    iterate 5 (first | walk1 | (dsimp only; walk1))
    refine ld_high (pre := [(dl, W.listOf dvs.toArray nn)]) N4 d2 ?_
    have e9 : (Wd : Int) * (Ht : Int) = ((Wd * Ht : Nat) : Int) := (Int.natCast_mul ..).symm
    refine mul_int ?_ (mul_dims hdim)
    rw [e9]
    walk1
    rename Fr _ _ _ _ => F5; rename News _ _ _ _ => N5
    exact hrest _ _ _ _ _ o' _ _ (.inl rfl) F5 rfl rfl hd' N5
  · walk1
    rename Fr _ _ _ _ => F2; rename News _ _ _ _ => N2
    have N3 := News.tl N2
    refine sto_pair (pre := [(dl, W.listOf dvs.toArray nn)]) F2 N3 hab d3 fun h' o' hd' F4 N4 => ?_
    clear F2 N2 N3
    iterate 5 (first | walk1 | (dsimp only; walk1))
    refine ld_high (pre := [(dl, W.listOf dvs.toArray nn)]) N4 d2 ?_
    have e9 : (Wd : Int) * (Ht : Int) = ((Wd * Ht : Nat) : Int) := (Int.natCast_mul ..).symm
    refine mul_int ?_ (mul_dims hdim)
    rw [e9]
    walk1
    rename Fr _ _ _ _ => F5; rename News _ _ _ _ => N5
    exact hrest _ _ _ _ _ o' _ _ (.inr (.inl rfl)) F5 rfl rfl hd' N5
  · walk1
    rename Fr _ _ _ _ => F2; rename News _ _ _ _ => N2
    have N3 := News.tl N2
    refine sto_pair (pre := [(dl, W.listOf dvs.toArray nn)]) F2 N3 hab d3 fun h' o' hd' F4 N4 => ?_
    clear F2 N2 N3
    iterate 5 (first | walk1 | (dsimp only; walk1))
    refine ld_high (pre := [(dl, W.listOf dvs.toArray nn)]) N4 d2 ?_
    have e9 : (Wd : Int) * (Ht : Int) = ((Wd * Ht : Nat) : Int) := (Int.natCast_mul ..).symm
    refine mul_int ?_ (mul_dims hdim)
    rw [e9]
    walk1
    rename Fr _ _ _ _ => F5; rename News _ _ _ _ => N5
    exact hrest _ _ _ _ _ o' _ _ (.inr (.inr (.inl rfl))) F5 rfl rfl hd' N5
  · walk1
    rename Fr _ _ _ _ => F2; rename News _ _ _ _ => N2
    have N3 := News.tl N2
    refine sto_pair (pre := [(dl, W.listOf dvs.toArray nn)]) F2 N3 hab d3 fun h' o' hd' F4 N4 => ?_
    clear F2 N2 N3
    iterate 5 (first | walk1 | (dsimp only; walk1))
    refine ld_high (pre := [(dl, W.listOf dvs.toArray nn)]) N4 d2 ?_
    have e9 : (Wd : Int) * (Ht : Int) = ((Wd * Ht : Nat) : Int) := (Int.natCast_mul ..).symm
    refine mul_int ?_ (mul_dims hdim)
    rw [e9]
    walk1
    rename Fr _ _ _ _ => F5; rename News _ _ _ _ => N5
    exact hrest _ _ _ _ _ o' _ _ (.inr (.inr (.inr rfl))) F5 rfl rfl hd' N5
end Mine
end
section
open PySem PySem.W PyProof.Rows PySem.Spec PySem.Calls PyProof.V
namespace Mine
theorem Walks.bnd {prog : Program} {w : World} {A : Around} {I : Addr} {fp wr : List Addr} {n : Nat} {P : Nat → Value → Prop} {St : Nat → Heap → Prop} (W : Walks prog w A I fp wr n P St) : Walks prog w A I fp wr n (fun i v => i < n ∧ P i v) St where
  sub := W.sub
  frame := W.frame
  item := fun i s Q E hi st hQ => W.item i s Q E hi st fun v h' tk hP st' hk => hQ v h' tk ⟨hi, hP⟩ st' hk
  done := W.done
  self := W.self
noncomputable def ival (v : Value) : Int := match v with | .int k _ => k | _ => 0
noncomputable def meantV (pr : Str) (Ht : Nat) (i : Int) : Str := Txt.mul (Txt.item pr 0) (i.fdiv (Ht : Int)) ++ Txt.mul (Txt.item pr 1) (i.fmod (Ht : Int))
theorem dm_bd {Wd Ht i : Nat} (h : dims Wd Ht) (hi : i < Wd * Ht) : (0 ≤ (i : Int).fdiv (Ht : Int) ∧ (i : Int).fdiv (Ht : Int) ≤ 8) ∧ (0 ≤ (i : Int).fmod (Ht : Int) ∧ (i : Int).fmod (Ht : Int) ≤ 8) := by
  have h8 : i ≤ 8 := by
    rcases h with ⟨rfl, rfl⟩ | ⟨rfl, rfl⟩ | ⟨rfl, rfl⟩ | ⟨rfl, rfl⟩ <;> exact Nat.le_of_lt (Nat.lt_of_lt_of_le hi (by decide))
  rw [Int.fdiv_eq_ediv_of_nonneg _ (Int.natCast_nonneg _), Int.fmod_eq_emod_of_nonneg _ (Int.natCast_nonneg _)]
  exact ⟨⟨Int.natCast_nonneg (i / Ht), Int.ofNat_le.mpr (Nat.le_trans (Nat.div_le_self _ _) h8)⟩, ⟨Int.natCast_nonneg (i % Ht), Int.ofNat_le.mpr (Nat.le_trans (Nat.mod_le _ _) h8)⟩⟩
theorem prd_at {R : Value → Value → Prop} : ∀ {xs ys : List Value}, Paired R xs ys → ys.length = xs.length ∧ ∀ (j : Nat) (v : Value), xs[j]? = some v → ∃ y, ys[j]? = some y ∧ R v y
  | _, _, .nil => ⟨rfl, fun j v e => by simp at e⟩
  | _, _, .cons h r => by
    obtain ⟨h1, h2⟩ := prd_at r
    refine ⟨by simp [h1], fun j v e => ?_⟩
    cases j with
    | zero => simp at e; subst e; exact ⟨_, rfl, h⟩
    | succ j => simpa using h2 j v (by simpa using e)
theorem strs_of : ∀ {ts : List Str} {ys : List Value}, ys.length = ts.length → (∀ (j : Nat) (x : Str), ts[j]? = some x → ∃ t, ys[j]? = some (Value.str x t)) → StrsAre ys ts
  | [], [], _, _ => .nil
  | [], _ :: _, h, _ => by simp at h
  | _ :: _, [], h, _ => by simp at h
  | x :: ts, y :: ys, h, f => by
    obtain ⟨t, e⟩ := f 0 x rfl
    simp at e
    subst e
    exact .cons x t (strs_of (by simpa using h) fun j z hz => by simpa using f (j + 1) z (by simpa using hz))
theorem paired_strs {f : Int → Str} {n : Nat} {vs ys : List Value} (hlen : vs.length = n) (hP : ∀ j v, vs[j]? = some v → j < n ∧ ∃ t, v = .int (0 + (j : Nat) * 1) t)
    (hF : Paired (fun v y => ∃ t, y = Value.str (f (ival v)) t) (vs.filter fun _ => true) ys) : StrsAre ys ((List.range n).map fun i => f (i : Nat)) := by
  have e : vs.filter (fun _ => true) = vs := by simp
  rw [e] at hF
  obtain ⟨h1, h2⟩ := prd_at hF
  refine strs_of (by simp [h1, hlen]) fun j x hx => ?_
  simp only [List.getElem?_map, Option.map_eq_some_iff] at hx
  obtain ⟨i, hi, rfl⟩ := hx
  obtain ⟨hj, e9⟩ := List.getElem?_eq_some_iff.mp hi
  rw [List.getElem_range] at e9
  subst e9
  have hjl : j < vs.length := by rw [hlen]; simpa using hj
  obtain ⟨_, t, ev⟩ := hP j vs[j] (List.getElem?_eq_getElem hjl)
  obtain ⟨y, hy, t', ey⟩ := h2 j vs[j] (List.getElem?_eq_getElem hjl)
  refine ⟨t', ?_⟩
  rw [hy, ey, ev]
  have e0 : (0 : Int) + (j : Nat) * 1 = (j : Nat) := by omega
  rw [e0]
  rfl
theorem none_of_push {h : Heap} {o : Obj} {D : Addr} (e : (h.push o).get? D = none) : h.get? D = none := by
  cases e2 : h.get? D with
  | none => rfl
  | some x => rw [Heap.get?_push_of_some _ e2] at e; cases e
theorem st_meant (w : World) (h₀ : Heap) (L fa dl : Addr) (cd : Value) (m : Str → Option Value) (o1 o2 o3 o4 o5 o6 : Obj) (dvs : List Value) (nn Wd Ht : Nat) (pr : Str) (tp t1 t2 t3 : Tok) (mean : ExcName → Option Value) (mg mb : Str → Option Value) (s : Shared) (Q : Flow → Shared → Prop) (rest : List Stmt)
    (F : Fr h₀ L s.heap m) (X : (KK w.params).In h₀) (T : Top vw Mine.lw mean mg mb h₀)
    (N : News h₀ L s.heap ((dl, W.listOf dvs.toArray nn) :: cellsL L o6 o5 o4 o3 o2 o1)) (d2 : o2.data = .cell (some (.int (Ht : Int) t2))) (d3 : o3.data = .cell (some (.str pr tp))) (d4 : o4.data = .cell none) (hw : m (Str.ofString "wide") = some (.int (Wd : Int) t1)) (hsz : m (Str.ofString "size") = some (.int ((Wd * Ht : Nat) : Int) t3)) (hdim : dims Wd Ht) (hpr : isPair pr) (hab : Ab L [(dl, W.listOf dvs.toArray nn)]) (B : Below callerA h₀ [] h₀)
    (hrest : ∀ (dm : Addr) (mvs : List Value) (ny : Nat) (m' : Str → Option Value) (o4' : Obj) (h : Heap) (tk : Nat), Fr h₀ L h m' → m' (Str.ofString "wide") = some (.int (Wd : Int) t1) → m' (Str.ofString "size") = some (.int ((Wd * Ht : Nat) : Int) t3) → o4'.data = .cell (some (.ref dm)) → StrsAre mvs ((List.range (Wd * Ht)).map fun i => meantV pr Ht (i : Nat)) →
      News h₀ L h ([(dm, W.listOf mvs.toArray ny), (dl, W.listOf dvs.toArray nn)] ++ cellsL L o6 o5 o4' o3 o2 o1) → dl ≠ dm → Ab L [(dm, W.listOf mvs.toArray ny), (dl, W.listOf dvs.toArray nn)] →
      wpAny (model pw w) (LAr L fa cd) (execs rest (LE L fa cd)) Q NoE { s with heap := h, toks := tk })
    : wpAny (model pw w) (LAr L fa cd) (execs (z5 :: rest) (LE L fa cd)) Q NoE s := by
  have F0 := Fr.list F [(Str.ofString "wide", .int (Wd : Int) t1), (Str.ofString "size", .int ((Wd * Ht : Nat) : Int) t3)] (by simpa using ⟨hw, hsz⟩)
  clear F
  iterate 2 (first | walk1 | (dsimp only; walk1))
  refine wpAny_ListComp_free (fun _ => true) (fun v y => ∃ t, y = .str (meantV pr Ht (ival v)) t) rfl (by decide) rfl (by decide) rfl ?_
  iterate 6 (first | walk1 | (dsimp only; walk1))
  walk1
  rename IsRange _ _ _ _ _ _ _ _ => hr; rename Fr _ _ _ _ => F9; rename News _ _ _ _ => N9
  have hsm : Builtin.Range.small 0 ((Wd * Ht : Nat) : Int) 1 = true ∧ Builtin.Range.rangeSize 0 ((Wd * Ht : Nat) : Int) 1 = ((Wd * Ht : Nat) : Int) := by
    rcases hdim with ⟨rfl, rfl⟩ | ⟨rfl, rfl⟩ | ⟨rfl, rfl⟩ | ⟨rfl, rfl⟩ <;> decide
  refine wpAny_pyIter_range hr hsm.1 ?_
  refine ⟨_, _, _, Wd * Ht, _, _, rfl, Walks.bnd (Walks.range rfl _ 0 1 (Wd * Ht)), ?_, ?_, ?_, ?_, ?_⟩
  · rcases hdim with ⟨rfl, rfl⟩ | ⟨rfl, rfl⟩ | ⟨rfl, rfl⟩ | ⟨rfl, rfl⟩ <;> (unfold sizeLine; decide)
  · show IsRangeIter _ _ _ _ _
    rw [hsm.2]
    show Heap.get? (Heap.push _ _) _ = _
    rw [Heap.get?_push_size _ rfl]
    simp [rawInt]
  · intro b hb
    rw [List.mem_singleton] at hb; subst hb
    exact Nat.lt_of_lt_of_eq (Nat.lt_succ_self _) (Heap.size_push _ _).symm
  · constructor
    · intro C i v s₃ m₃ E' _ hP hn hm hkp htk
      exact wpAny_tests_nil ⟨rfl, _, _, rfl, fun _ _ e => e⟩
    · intro C i v s₃ m₃ E' _ hP hpv hn hm hkp htk
      obtain ⟨hil, tv, rfl⟩ := hP
      have hk8 : ∀ b o', _ → s₃.heap.get? b = some o' := fun b o' e => hkp b o' (by intro hb; rw [List.mem_singleton] at hb; exact absurd (Heap.lt_size e) (by rw [hb]; exact Nat.lt_irrefl _)) (Heap.get?_push_of_some _ e)
      have F8 := F9.kept (h' := s₃.heap) hk8
      have e9 : (0 : Int) + (i : Nat) * 1 = (i : Nat) := by omega
      rw [e9] at hm
      clear F9
      iterate 3 (first | walk1 | (dsimp only; walk1))
      refine ldCellK rfl ⟨_, hk8 _ _ (N9 (L + 1 + 1 + 1, o3) (by repeat (first | exact List.mem_cons_self .. | refine List.mem_cons_of_mem _ ?_))).1, d3⟩ ?_
      have hpl : pr.length = 2 := by rcases hpr with rfl | rfl | rfl | rfl <;> decide
      have hH : Ht ≠ 0 ∧ Ht ≤ 4 := by rcases hdim with ⟨rfl, rfl⟩ | ⟨rfl, rfl⟩ | ⟨rfl, rfl⟩ | ⟨rfl, rfl⟩ <;> decide
      iterate 2 (first | walk1 | (dsimp only; walk1))
      iterate 2 (first | walk1 | (dsimp only; walk1))
      refine ldCellK rfl ⟨_, hk8 _ _ (N9 (L + 1 + 1, o2) (by repeat (first | exact List.mem_cons_self .. | refine List.mem_cons_of_mem _ ?_))).1, d2⟩ ?_
      have hc0 : ((Ht : Nat) : Int) ≠ 0 := by omega
      obtain ⟨hq, hr9⟩ := dm_bd hdim hil
      walk1
      generalize hqe : ((i : Nat) : Int).fdiv ((Ht : Nat) : Int) = q at hq ⊢
      iterate 3 (first | walk1 | (dsimp only; walk1))
      refine ldCellK rfl ⟨_, hk8 _ _ (N9 (L + 1 + 1 + 1, o3) (by repeat (first | exact List.mem_cons_self .. | refine List.mem_cons_of_mem _ ?_))).1, d3⟩ ?_
      iterate 4 (first | walk1 | (dsimp only; walk1))
      refine ldCellK rfl ⟨_, hk8 _ _ (N9 (L + 1 + 1, o2) (by repeat (first | exact List.mem_cons_self .. | refine List.mem_cons_of_mem _ ?_))).1, d2⟩ ?_
      walk1
      generalize hre : ((i : Nat) : Int).fmod ((Ht : Nat) : Int) = r at hr9 ⊢
      walk1
      have hl1 : (Txt.mul (Txt.item pr 0) q).length ≤ 1 * 8 := len_mul_leN (Nat.le_of_eq rfl) (by omega)
      have hl2 : (Txt.mul (Txt.item pr 1) r).length ≤ 1 * 8 := len_mul_leN (Nat.le_of_eq rfl) (by omega)
      walk1
      have e10 : Txt.mul (Txt.item pr 0) q ++ Txt.mul (Txt.item pr 1) r = meantV pr Ht (ival (Value.int (0 + (i : Nat) * 1) tv)) := by
        show _ = meantV pr Ht (0 + (i : Nat) * 1)
        rw [e9, ← hqe, ← hre]; rfl
      rw [e10]
      exact ⟨⟨_, rfl⟩, _, _, rfl, fun _ _ e => e⟩
  · intro D h' tk ys vs hD hlD hpD hlen hP hF hk'
    have hS := paired_strs hlen hP hF
    have hkk : ∀ b o', _ → h'.get? b = some o' := fun b o' e => hk' b o' (by intro hb; rw [List.mem_singleton] at hb; exact absurd (Heap.lt_size e) (by rw [hb]; exact Nat.lt_irrefl _)) (Heap.get?_push_of_some _ e)
    have F8 := F9.kept (h' := h') hkk
    have N8 := News.kp N9 hkk
    obtain ⟨ny, hDy⟩ := hpD
    have hD1 := none_of_push hD
    have hne := fresh_ne N9 hD1
    have hDN : News h₀ L h' ([(D, W.listOf ys ny), (dl, W.listOf dvs.toArray nn)] ++ cellsL L o6 o5 o4 o3 o2 o1) := by
      intro p hp
      rcases List.mem_cons.mp hp with rfl | hp
      · refine ⟨hDy, ?_, ?_⟩
        · rintro rfl
          obtain ⟨oL, _, _, e, _⟩ := F9.ns
          rw [hD1] at e; cases e
        · cases e : h₀.get? D with
          | none => rfl
          | some o => rw [F9.keep _ _ e] at hD1; cases hD1
      · exact N8 p hp
    have hab2 : Ab L [(D, W.listOf ys ny), (dl, W.listOf dvs.toArray nn)] := Ab.cons (o6 := o6) (o5 := o5) (o4 := o4) (o3 := o3) (o2 := o2) (o1 := o1) hab fun q hq => hne q (List.mem_cons_of_mem _ hq)
    refine sto_meant F8 hDN hab2 d4 fun h5 o' hd' F5 N5 => ?_
    exact hrest D ys.toList ny _ o' _ _ F5 rfl rfl hd' hS (by simpa using N5) (fun e => hne (dl, _) (List.mem_cons_self ..) e) hab2
end Mine
end
section
open PySem PySem.W PyProof.Rows PySem.Spec PySem.Calls PyProof.V PySem.Builtin.Str
namespace Mine
noncomputable def lets : List Nat := [102, 105, 108, 115, 116, 107, 109]
noncomputable def ligs : List (Nat × List Nat) := [(64256, [102, 102]), (64257, [102, 105]), (64259, [102, 102, 105]), (64258, [102, 108]), (64260, [102, 102, 108]), (223, [115, 115]), (64261, [115, 116]), (64262, [115, 116]), (13261, [107, 107]), (13262, [107, 109]), (8490, [107])]
noncomputable def chTab : List (Nat × List Nat) := lets.map (fun c => (c, [c])) ++ lets.map (fun c => (c - 32, [c])) ++ ligs ++ st10.flatMap fun k => lets.map fun (c : Nat) => ((119711 + 52 * k + (c : Int)).toNat, [c])
noncomputable def chF (c : Nat) : List Nat := (chTab.lookup c).getD [0]
noncomputable def pc (c : Nat) : List Nat := if (c : Int) ∈ b1L then [] else (b3val c).cps.toList
noncomputable def tyF (H n : Nat) (pr : Str) : Bool := (List.range n).all fun i => decide ((meantV pr H (i : Nat)).length ≤ 8) && ((meantV pr H (i : Nat)).cps.toList.all fun c => decide (c < 128)) && (List.range 60).all fun n =>
  decide ((typedV (meantV pr H (i : Nat)) pr (n : Nat)).length ≤ 16) && ((typedV (meantV pr H (i : Nat)) pr (n : Nat)).cps.toList.all fun c => (chTab.lookup c).isSome) &&
  (typedV (meantV pr H (i : Nat)) pr (n : Nat)).cps.toList.flatMap chF == (meantV pr H (i : Nat)).cps.toList
theorem ch_tab : (chTab.all fun e => pc e.1 == e.2) = true := by decide +kernel
theorem hid_tab : (hidL.all fun k => decide (((k.toNat : Nat) : Int) ∈ b1L)) = true := by decide +kernel
theorem tf1 : tyF 2 6 (Str.ofString "fi") = true := by decide +kernel
theorem tf2 : tyF 2 6 (Str.ofString "fl") = true := by decide +kernel
theorem tf3 : tyF 2 6 (Str.ofString "st") = true := by decide +kernel
theorem tf4 : tyF 2 6 (Str.ofString "km") = true := by decide +kernel
theorem tf5 : tyF 3 6 (Str.ofString "fi") = true := by decide +kernel
theorem tf6 : tyF 3 6 (Str.ofString "fl") = true := by decide +kernel
theorem tf7 : tyF 3 6 (Str.ofString "st") = true := by decide +kernel
theorem tf8 : tyF 3 6 (Str.ofString "km") = true := by decide +kernel
theorem tg1 : tyF 2 8 (Str.ofString "fi") = true := by decide +kernel
theorem tg2 : tyF 2 8 (Str.ofString "fl") = true := by decide +kernel
theorem tg3 : tyF 2 8 (Str.ofString "st") = true := by decide +kernel
theorem tg4 : tyF 2 8 (Str.ofString "km") = true := by decide +kernel
theorem tg5 : tyF 4 8 (Str.ofString "fi") = true := by decide +kernel
theorem tg6 : tyF 4 8 (Str.ofString "fl") = true := by decide +kernel
theorem tg7 : tyF 4 8 (Str.ofString "st") = true := by decide +kernel
theorem tg8 : tyF 4 8 (Str.ofString "km") = true := by decide +kernel
theorem tyF_at {Wd Ht : Nat} {pr : Str} (hd : dims Wd Ht) (hp : isPair pr) : tyF Ht (Wd * Ht) pr = true := by
  rcases hd with ⟨rfl, rfl⟩ | ⟨rfl, rfl⟩ | ⟨rfl, rfl⟩ | ⟨rfl, rfl⟩ <;> rcases hp with rfl | rfl | rfl | rfl
  · exact tf1
  · exact tf2
  · exact tf3
  · exact tf4
  · exact tf5
  · exact tf6
  · exact tf7
  · exact tf8
  · exact tg1
  · exact tg2
  · exact tg3
  · exact tg4
  · exact tg5
  · exact tg6
  · exact tg7
  · exact tg8
theorem pc_chF {c : Nat} (h : (chTab.lookup c).isSome = true) : pc c = chF c := by
  obtain ⟨l, e⟩ := Option.isSome_iff_exists.mp h
  have hm := kb_memG e
  have := List.all_eq_true.mp ch_tab _ hm
  unfold chF
  rw [e]
  simpa using this
where kb_memG : ∀ {K : List (Nat × List Nat)} {a : Nat} {o : List Nat}, K.lookup a = some o → (a, o) ∈ K
  | [], _, _, e => by cases e
  | (b, x) :: r, a, o, e => by
    rw [List.lookup_cons] at e
    split at e
    · rename_i q
      cases e
      rw [beq_iff_eq.mp q]
      exact .head _
    · exact .tail _ (kb_memG e)
theorem fdN' (r H : Nat) : ((r : Nat) : Int).fdiv ((H : Nat) : Int) = ((r / H : Nat) : Int) := by
  rw [Int.fdiv_eq_ediv_of_nonneg _ (by omega)]; exact (Int.natCast_ediv r H).symm
theorem fmN' (r H : Nat) : ((r : Nat) : Int).fmod ((H : Nat) : Int) = ((r % H : Nat) : Int) := by
  rw [Int.fmod_eq_emod_of_nonneg _ (by omega)]; exact (Int.natCast_emod r H).symm
theorem typed_mod (x y : Str) (n : Nat) : typedV x y (n : Nat) = typedV x y ((n % 60 : Nat) : Nat) := by
  have e1 : ((n : Nat) : Int).fmod 6 = (((n % 60 : Nat) : Nat) : Int).fmod 6 := by
    rw [show ((n : Nat) : Int).fmod 6 = _ from fmN' n 6, show (((n % 60 : Nat) : Nat) : Int).fmod 6 = _ from fmN' (n % 60) 6, Nat.mod_mod_of_dvd n (show 6 ∣ 60 from ⟨10, rfl⟩)]
  have e2 : (((n : Nat) : Int).fdiv 6).fmod 10 = ((((n % 60 : Nat) : Nat) : Int).fdiv 6).fmod 10 := by
    rw [show ((n : Nat) : Int).fdiv 6 = _ from fdN' n 6, show (((n % 60 : Nat) : Nat) : Int).fdiv 6 = _ from fdN' (n % 60) 6]
    rw [show ((n / 6 : Nat) : Int).fmod 10 = _ from fmN' _ 10, show ((n % 60 / 6 : Nat) : Int).fmod 10 = _ from fmN' _ 10]
    rw [show n % 60 / 6 = n / 6 % 10 from Nat.mod_mul_right_div_self (m := n) (n := 6) (k := 10), Nat.mod_mod]
  unfold typedV mathV
  rw [e1, e2]
theorem str_ext {a b : Str} (h : a.cps.toList = b.cps.toList) : a = b := by
  cases a; cases b
  simp only at h
  rw [Array.toList_inj.mp h]
theorem cps_app (a b : Str) : (a ++ b).cps.toList = a.cps.toList ++ b.cps.toList := by
  show (a.cps ++ b.cps).toList = _
  simp
theorem join_prep (z : Str) : (Txt.join (Str.ofString "") (prepL z)).cps.toList = z.cps.toList.flatMap pc := by
  rw [jcps]
  unfold prepL
  induction z.cps.toList with
  | nil => rfl
  | cons c r ih =>
    rw [List.filter_cons]
    by_cases hc : (c : Int) ∈ b1L
    · simp only [hc, decide_true, Bool.not_true, Bool.false_eq_true, if_false, List.flatMap_cons]
      rw [ih]
      simp [pc, hc]
    · simp only [hc, decide_false, Bool.not_false, if_true, List.map_cons, List.flatMap_cons]
      rw [ih]
      simp [pc, hc]
theorem slice_to (x : Str) {k : Nat} (hk : k ≤ x.length) : (Txt.slice x none (some (k : Int))).cps.toList = x.cps.toList.take k := by
  have e0 : strSliceIndices none (some (k : Int)) 1 x.length = strSliceIndices (some ((0 : Nat) : Int)) (some (k : Int)) 1 x.length := by
    unfold strSliceIndices
    dsimp only
    rw [if_neg (show ¬ (((0 : Nat) : Int) < 0) from by omega), if_pos (show (1 : Int) > 0 from by decide)]
    rw [if_pos (show (1 : Int) > 0 from by decide), show max (0 : Int) (min ((0 : Nat) : Int) (x.length : Int)) = 0 from by omega]
    simp
  have e1 := StrLaws.strSliceIndices_plain (a := 0) (b := k) (len := x.length) (Nat.zero_le _) hk
  have e2 := StrLaws.sliced_plain x (a := 0) (b := k) (Nat.zero_le _) hk
  unfold Txt.slice
  rw [e0]
  split
  · rename_i h
    rw [e1] at h
    simp at h
    have hl : x.cps.toList.length = x.length := by simp [Str.length]
    rw [List.take_of_length_le (by omega)]
  · show (List.filterMap _ _) = _
    rw [e2]; simp
theorem slice_fr (x : Str) {k : Nat} (hk : k ≤ x.length) : (Txt.slice x (some (k : Int)) none).cps.toList = x.cps.toList.drop k := by
  have e0 : strSliceIndices (some (k : Int)) none 1 x.length = strSliceIndices (some (k : Int)) (some (x.length : Int)) 1 x.length := by
    unfold strSliceIndices
    dsimp only
    rw [if_neg (show ¬ ((x.length : Int) < 0) from by omega), if_pos (show (1 : Int) > 0 from by decide)]
    rw [if_pos (show (1 : Int) > 0 from by decide), show max (0 : Int) (min (x.length : Int) (x.length : Int)) = (x.length : Int) from by omega]
    simp
  have e1 := StrLaws.strSliceIndices_plain (a := k) (b := x.length) (len := x.length) hk (Nat.le_refl _)
  have e2 := StrLaws.sliced_plain x (a := k) (b := x.length) hk (Nat.le_refl _)
  have hl : x.cps.toList.length = x.length := by simp [Str.length]
  unfold Txt.slice
  rw [e0]
  split
  · rename_i h
    rw [e1] at h
    simp at h
    have : k = 0 := by omega
    subst this; rfl
  · show (List.filterMap _ _) = _
    rw [e2, List.take_of_length_le (by rw [List.length_drop]; omega)]
theorem tail_cps (z : Str) (n : Nat) : (tailV z n).length ≤ z.length + 1 ∧ (tailV z n).cps.toList.flatMap pc = z.cps.toList.flatMap pc := by
  unfold tailV
  split
  · exact ⟨Nat.le_succ _, rfl⟩
  · rename_i h27
    have hk : ((n : Int).fdiv 1680).fmod ((z.length : Int) + 1) = ((n / 1680 % (z.length + 1) : Nat) : Int) := by
      rw [show ((n : Nat) : Int).fdiv 1680 = _ from fdN' n 1680]
      exact fmN' _ _
    have hj : (((n : Int).fdiv 60).fmod 28) = ((n / 60 % 28 : Nat) : Int) := by
      rw [show ((n : Nat) : Int).fdiv 60 = _ from fdN' n 60]
      exact fmN' _ 28
    rw [hk, hj]
    rw [hj] at h27
    have hj28 : n / 60 % 28 < 27 := by omega
    have hkz : n / 1680 % (z.length + 1) ≤ z.length := Nat.le_of_lt_succ (Nat.mod_lt _ (Nat.succ_pos _))
    generalize n / 1680 % (z.length + 1) = k at hkz ⊢
    generalize n / 60 % 28 = j at hj28 ⊢
    have hc : hidL.getD j 0 ∈ hidL := by
      rw [List.getD_eq_getElem?_getD, List.getElem?_eq_getElem (by rw [hidL_len]; exact hj28), Option.getD_some]
      exact List.getElem_mem _
    have hb := List.all_eq_true.mp hid_tab _ hc
    have e : (Txt.slice z none (some (k : Int)) ++ (⟨#[(hidL.getD ((j : Nat) : Int).toNat 0).toNat]⟩ : Str) ++ Txt.slice z (some (k : Int)) none).cps.toList = z.cps.toList.take k ++ [(hidL.getD j 0).toNat] ++ z.cps.toList.drop k := by
      rw [cps_app, cps_app, slice_to z hkz, slice_fr z hkz]
      rfl
    have hl : z.cps.toList.length = z.length := by simp [Str.length]
    refine ⟨?_, ?_⟩
    · have e2 := congrArg List.length e
      simp only [List.length_append, List.length_take, List.length_drop, List.length_cons, List.length_nil] at e2
      have : (Txt.slice z none (some (k : Int)) ++ (⟨#[(hidL.getD ((j : Nat) : Int).toNat 0).toNat]⟩ : Str) ++ Txt.slice z (some (k : Int)) none).cps.toList.length = (Txt.slice z none (some (k : Int)) ++ (⟨#[(hidL.getD ((j : Nat) : Int).toNat 0).toNat]⟩ : Str) ++ Txt.slice z (some (k : Int)) none).length := by simp [Str.length]
      omega
    · rw [e, List.flatMap_append, List.flatMap_append]
      have : pc (hidL.getD j 0).toNat = [] := by
        unfold pc
        rw [if_pos (by simpa using hb)]
      rw [List.flatMap_cons, this, List.nil_append, List.flatMap_nil, List.append_nil, ← List.flatMap_append, List.take_append_drop]
theorem pl_typed {Wd Ht i : Nat} {pr : Str} {n : Int} (hd : dims Wd Ht) (hp : isPair pr) (hi : i < Wd * Ht) (hn : 0 ≤ n) :
    ((meantV pr Ht (i : Nat)).length ≤ 8 ∧ (∀ c ∈ (meantV pr Ht (i : Nat)).cps.toList, c < 128) ∧ (typedV (meantV pr Ht (i : Nat)) pr n).length ≤ 16) ∧
    ((tailV (typedV (meantV pr Ht (i : Nat)) pr n) n).length ≤ 20 ∧ ((prepL (tailV (typedV (meantV pr Ht (i : Nat)) pr n) n)).map (·.length)).sum ≤ 1000) ∧
    Txt.join (Str.ofString "") (prepL (tailV (typedV (meantV pr Ht (i : Nat)) pr n) n)) = meantV pr Ht (i : Nat) := by
  obtain ⟨n, rfl⟩ := Int.eq_ofNat_of_zero_le hn
  have h0 := List.all_eq_true.mp (show (List.range (Wd * Ht)).all _ = true from tyF_at hd hp) i (List.mem_range.mpr hi)
  simp only [Bool.and_eq_true, decide_eq_true_eq, List.all_eq_true] at h0
  obtain ⟨⟨a1, a2⟩, a3⟩ := h0
  obtain ⟨⟨b1, b2⟩, b3⟩ := a3 (n % 60) (List.mem_range.mpr (Nat.mod_lt _ (by decide)))
  rw [← typed_mod] at b1 b2 b3
  have ht := tail_cps (typedV (meantV pr Ht (i : Nat)) pr n) n
  have hfm : (typedV (meantV pr Ht (i : Nat)) pr n).cps.toList.flatMap pc = (meantV pr Ht (i : Nat)).cps.toList := by
    rw [← beq_iff_eq.mp b3]
    exact flat_congr fun c hc => pc_chF (b2 c hc)
  have hj : Txt.join (Str.ofString "") (prepL (tailV (typedV (meantV pr Ht (i : Nat)) pr n) n)) = meantV pr Ht (i : Nat) := by
    apply str_ext
    rw [join_prep, ht.2, hfm]
  refine ⟨⟨a1, a2, b1⟩, ⟨by have := ht.1; omega, ?_⟩, hj⟩
  rw [← jlen, hj]
  omega
where flat_congr : ∀ {l : List Nat} {f g : Nat → List Nat}, (∀ c ∈ l, f c = g c) → l.flatMap f = l.flatMap g
  | [], _, _, _ => rfl
  | c :: r, f, g, h => by
    rw [List.flatMap_cons, List.flatMap_cons, h c (List.mem_cons_self ..), flat_congr fun c hc => h c (List.mem_cons_of_mem _ hc)]
end Mine
end
section
open PySem PySem.W PyProof.Rows PySem.Spec PySem.Calls PyProof.V
namespace Mine
theorem ib8 {i : Nat} (h : i < 8) : Builtin.Int.intBits (i : Int) ≤ 64 :=
  (by decide : ∀ j : Fin 8, Builtin.Int.intBits ((j : Nat) : Int) ≤ 64) ⟨i, h⟩
theorem strs_ne {A : Around} {s : Shared} {l b : Addr} {xs ys : List Value} {ts : List Str} (hl : s.heap.IsList l xs.toArray) (hb : s.heap.IsList b ys.toArray) (hx : StrsAre xs ts) (hy : StrsAre ys ts) (hu : A.units < cLine) : PySem.SeqAt.RcNeAt A s (.ref l) (.ref b) false := by
  have e1 := hx.length; have e2 := hy.length
  have h := PySem.SeqAt.RcNeAt.lists (A := A) (s := s) (e := fun _ => true) hl hb (by simp; omega) hu (fun j h1 h2 => by
    have hj : j < ts.length := by rw [← e1]; simpa using h1
    obtain ⟨t, et⟩ := hx.get j ts[j] (List.getElem?_eq_getElem hj)
    obtain ⟨u, eu⟩ := hy.get j ts[j] (List.getElem?_eq_getElem hj)
    have q1 : xs.toArray[j] = .str ts[j] t := by
      obtain ⟨_, e⟩ := List.getElem?_eq_some_iff.mp et
      simpa using e
    have q2 : ys.toArray[j] = .str ts[j] u := by
      obtain ⟨_, e⟩ := List.getElem?_eq_some_iff.mp eu
      simpa using e
    rw [q1, q2]
    have := PySem.SeqAt.EqAt.str_str (A := A.in1) (s := s) ts[j] t ts[j] u
    rwa [beq_self_eq_true] at this)
  have e0 : ((List.range xs.toArray.size).all fun _ => true) = true := List.all_eq_true.mpr fun _ _ => rfl
  rw [e0] at h
  exact h
theorem ne_strs {prog : Program} {w : World} {A : Around} {s : Shared} {l b : Addr} {xs : Array Value} {ys : List Value} {ts : List Str} {Q E : Value → Shared → Prop} (hl : s.heap.IsList l xs) (hb : s.heap.IsList b ys.toArray) (hx : StrsAre xs.toList ts) (hy : StrsAre ys ts) (hu : A.units < cLine) (h : Q (.bool false) s) :
    wpAny (model prog w) A (compareOp .NotEq (.ref l) (.ref b)) Q E s := strs_ne (by simpa using hl) hb hx hy hu prog w E Q h
theorem st_words (w : World) (h₀ : Heap) (L fa dl dm : Addr) (cd : Value) (m : Str → Option Value) (o1 o2 o3 o4 o5 o6 : Obj) (dvs mvs : List Value) (ds : List Int) (nn ny Wd Ht : Nat) (pr : Str) (tp t1 t2 t3 : Tok) (mean : ExcName → Option Value) (mg mb : Str → Option Value) (s : Shared) (Q : Flow → Shared → Prop) (rest : List Stmt)
    (F : Fr h₀ L s.heap m) (X : (KK w.params).In h₀) (T : Top vw Mine.lw mean mg mb h₀)
    (N : News h₀ L s.heap ([(dm, W.listOf mvs.toArray ny), (dl, W.listOf dvs.toArray nn)] ++ cellsL L o6 o5 o4 o3 o2 o1)) (hids : IntsAre dvs ds) (hlen : ds.length = 5) (hb : ∀ d ∈ ds, 0 ≤ d ∧ d ≤ 70000000) (d1 : o1.data = .cell (some (.ref dl))) (d2 : o2.data = .cell (some (.int (Ht : Int) t2))) (d3 : o3.data = .cell (some (.str pr tp))) (d4 : o4.data = .cell (some (.ref dm))) (hms : StrsAre mvs ((List.range (Wd * Ht)).map fun i => meantV pr Ht (i : Nat)))
    (hw : m (Str.ofString "wide") = some (.int (Wd : Int) t1)) (hsz : m (Str.ofString "size") = some (.int ((Wd * Ht : Nat) : Int) t3)) (hdim : dims Wd Ht) (hpr : isPair pr) (hab : Ab L [(dm, W.listOf mvs.toArray ny), (dl, W.listOf dvs.toArray nn)]) (B : Below callerA h₀ [] h₀)
    (hrest : ∀ (dw : Addr) (wvs : List Value) (nw : Nat) (m' : Str → Option Value) (h : Heap) (tk : Nat), Fr h₀ L h m' → m' (Str.ofString "wide") = some (.int (Wd : Int) t1) → m' (Str.ofString "size") = some (.int ((Wd * Ht : Nat) : Int) t3) → m' (Str.ofString "words") = some (.ref dw) → StrsAre wvs ((List.range (Wd * Ht)).map fun i => meantV pr Ht (i : Nat)) →
      News h₀ L h ([(dw, W.listOf wvs.toArray nw), (dl, W.listOf dvs.toArray nn)] ++ cellsL L o6 o5 o4 o3 o2 o1) → Ab L [(dw, W.listOf wvs.toArray nw), (dl, W.listOf dvs.toArray nn)] →
      wpAny (model pw w) (LAr L fa cd) (execs rest (LE L fa cd)) Q NoE { s with heap := h, toks := tk })
    : wpAny (model pw w) (LAr L fa cd) (execs (z6 :: z7 :: rest) (LE L fa cd)) Q NoE s := by
  have F0 := Fr.list F [(Str.ofString "wide", .int (Wd : Int) t1), (Str.ofString "size", .int ((Wd * Ht : Nat) : Int) t3)] (by simpa using ⟨hw, hsz⟩)
  clear F
  refine wpAny_execs_cons ?_
  refine wpAny_Assign_ListComp_free (fun _ => true) (fun v y => ∃ t, y = .str (meantV pr Ht (ival v)) t) rfl rfl (by decide) rfl (by decide) rfl rfl rfl ?_
  iterate 7 (first | walk1 | (dsimp only; walk1))
  rename IsRange _ _ _ _ _ _ _ _ => hr; rename Fr _ _ _ _ => F9; rename News _ _ _ _ => N9
  have hsm : Builtin.Range.small 0 ((Wd * Ht : Nat) : Int) 1 = true ∧ Builtin.Range.rangeSize 0 ((Wd * Ht : Nat) : Int) 1 = ((Wd * Ht : Nat) : Int) := by
    rcases hdim with ⟨rfl, rfl⟩ | ⟨rfl, rfl⟩ | ⟨rfl, rfl⟩ | ⟨rfl, rfl⟩ <;> decide
  refine wpAny_pyIter_range hr hsm.1 ?_
  have FP := F9.keptAll (h' := Heap.push _ { cls := .type "range_iterator", data := .fields #[rawInt 0, rawInt (Builtin.Range.rangeSize 0 ((Wd * Ht : Nat) : Int) 1), rawInt 1] }) fun _ _ e => Heap.get?_push_of_some _ e
  refine ⟨_, _, _, Wd * Ht, _, _, _, rfl, Walks.bnd (Walks.range rfl _ 0 1 (Wd * Ht)), ?_, ?_, ?_, ?_, FP.ns, ?_, ?_⟩
  · rcases hdim with ⟨rfl, rfl⟩ | ⟨rfl, rfl⟩ | ⟨rfl, rfl⟩ | ⟨rfl, rfl⟩ <;> (unfold sizeLine; decide)
  · show IsRangeIter _ _ _ _ _
    rw [hsm.2]
    show Heap.get? (Heap.push _ _) _ = _
    rw [Heap.get?_push_size _ rfl]
    simp [rawInt]
  · intro b hb
    rw [List.mem_singleton] at hb; subst hb
    exact Nat.lt_of_lt_of_eq (Nat.lt_succ_self _) (Heap.size_push _ _).symm
  · intro hb
    rw [List.mem_singleton] at hb
    exact absurd F9.ns.lt (by rw [← hb]; exact Nat.lt_irrefl _)
  · constructor
    · intro C i v s₃ m₃ E' _ hP hn hm hkp htk
      exact wpAny_tests_nil ⟨rfl, _, _, rfl, fun _ _ e => e⟩
    · intro C i v s₃ m₃ E' _ hP hpv hn hm hkp htk
      obtain ⟨hil, tv, rfl⟩ := hP
      have hk8 : ∀ b o', _ → s₃.heap.get? b = some o' := fun b o' e => hkp b o' (by intro hb; rw [List.mem_singleton] at hb; exact absurd (Heap.lt_size e) (by rw [hb]; exact Nat.lt_irrefl _)) (Heap.get?_push_of_some _ e)
      have F8 := F9.kept (h' := s₃.heap) hk8
      have N8 := News.kp N9 hk8
      have e9 : (0 : Int) + (i : Nat) * 1 = (i : Nat) := by omega
      rw [e9] at hm
      clear F9 N9 FP
      iterate 9 (first | walk1 | (dsimp only; walk1))
      have cell : ∀ {p : Addr × Obj}, p ∈ [(dm, W.listOf mvs.toArray ny), (dl, W.listOf dvs.toArray nn)] ++ cellsL L o6 o5 o4 o3 o2 o1 → s₃.heap.get? p.1 = some p.2 := fun hp => (N8 _ hp).1
      walk1
      refine ldCellK rfl ⟨_, cell (p := (L + 1 + 1 + 1 + 1, o4)) (by repeat (first | exact List.mem_cons_self .. | refine List.mem_cons_of_mem _ ?_)), d4⟩ ?_
      walk1
      have hmx : ∃ t, mvs[i]? = some (.str (meantV pr Ht (i : Nat)) t) := hms.get i _ (by simp [hil])
      obtain ⟨tm, hmx⟩ := hmx
      have hi8 : i < 8 := by rcases hdim with ⟨rfl, rfl⟩ | ⟨rfl, rfl⟩ | ⟨rfl, rfl⟩ | ⟨rfl, rfl⟩ <;> omega
      refine item_list (items := mvs.toArray) ⟨_, cell (p := (dm, W.listOf mvs.toArray ny)) (by repeat (first | exact List.mem_cons_self .. | refine List.mem_cons_of_mem _ ?_)), rfl, _, rfl⟩ (by omega) (by omega) (by simpa using hmx) ?_
      walk1
      refine ldCellK rfl ⟨_, cell (p := (L + 1 + 1 + 1, o3)) (by repeat (first | exact List.mem_cons_self .. | refine List.mem_cons_of_mem _ ?_)), d3⟩ ?_
      iterate 3 (first | walk1 | (dsimp only; walk1))
      refine ldCellK rfl ⟨_, cell (p := (L + 1, o1)) (by repeat (first | exact List.mem_cons_self .. | refine List.mem_cons_of_mem _ ?_)), d1⟩ ?_
      walk1
      refine item_list_ints ⟨_, cell (p := (dl, W.listOf dvs.toArray nn)) (by repeat (first | exact List.mem_cons_self .. | refine List.mem_cons_of_mem _ ?_)), rfl, _, rfl⟩ hids (by decide) (by omega) (by decide) (fun td3 => ?_)
      have hb3 := hb (ds.getD (3 : Int).toNat 0) (by rw [List.getD_eq_getElem?_getD, List.getElem?_eq_getElem (show (3 : Int).toNat < ds.length by rw [hlen]; decide), Option.getD_some]; exact List.getElem_mem _)
      have hb4 := hb (ds.getD (4 : Int).toNat 0) (by rw [List.getD_eq_getElem?_getD, List.getElem?_eq_getElem (show (4 : Int).toNat < ds.length by rw [hlen]; decide), Option.getD_some]; exact List.getElem_mem _)
      iterate 3 (first | walk1 | (dsimp only; walk1))
      refine ldCellK rfl ⟨_, cell (p := (L + 1, o1)) (by repeat (first | exact List.mem_cons_self .. | refine List.mem_cons_of_mem _ ?_)), d1⟩ ?_
      walk1
      refine item_list_ints ⟨_, cell (p := (dl, W.listOf dvs.toArray nn)) (by repeat (first | exact List.mem_cons_self .. | refine List.mem_cons_of_mem _ ?_)), rfl, _, rfl⟩ hids (by decide) (by omega) (by decide) (fun td4 => ?_)
      generalize ds.getD (3 : Int).toNat 0 = d3v at hb3 ⊢
      generalize ds.getD (4 : Int).toNat 0 = d4v at hb4 ⊢
      refine mul_int (h := ?_) (hm := IntMulOk.of_left (ib8 hi8))
      have hn0 : 0 ≤ d3v + (i : Int) * d4v := Int.add_nonneg hb3.1 (Int.mul_nonneg (by omega) hb4.1)
      walk1
      generalize d3v + (i : Int) * d4v = nv at hn0 ⊢
      walk1
      have X9 : (KK w.params).In s₃.heap := X.keeps F8.keep
      refine ⟨X9, ?_⟩
      obtain ⟨q1, q2, q3⟩ := pl_typed (n := nv) hdim hpr hil hn0
      refine p_typed w _ _ _ _ _ _ _ _ _ _ _ _ _ _ _ _ _ _ _ _ _ _ _ _ _ _ B F8 X (by assumption) rfl ⟨q1.1, q1.2.1, q1.2.2, hpr, hn0⟩ (by ktr_room) (by ktr_room) fun t h' tk' hk' => ?_
      have F7 := F8.kept (h' := h') hk'
      refine args_nil ⟨X.keeps F7.keep, ?_⟩
      refine p_prep w _ _ _ _ _ _ _ _ _ _ _ _ _ _ _ _ _ _ _ _ _ _ B F7 X (by assumption) rfl q2 (by ktr_room) (by ktr_room) fun t5 h5 tk5 hk5 => ?_
      dsimp only
      refine ⟨?_, _, _, rfl, fun _ _ e => hk5 _ _ (hk' _ _ e)⟩
      rw [q3]
      have e8 : ival (Value.int (0 + (i : Nat) * 1) tv) = (i : Nat) := by show 0 + (i : Int) * 1 = (i : Nat); omega
      exact ⟨t5, by rw [e8]⟩
  · intro D h' tk ys vs hD hlD hpD hlen9 hP hF hns hk'
    have hS := paired_strs hlen9 hP hF
    have hlt9 : L < _ := F9.ns.lt
    have hkk : ∀ b o', b ≠ L → _ → h'.get? b = some o' := fun b o' hbL e => hk' b o' hbL (by intro hb; rw [List.mem_singleton] at hb; exact absurd (Heap.lt_size e) (by rw [hb]; exact Nat.lt_irrefl _)) (Heap.get?_push_of_some _ e)
    have F8 : Fr h₀ L h' _ := ⟨hns, fun b o e => hkk b o (Nat.ne_of_lt (Nat.lt_of_lt_of_le (Heap.lt_size e) F9.above)) (F9.keep b o e), F9.above⟩
    have N8 : News h₀ L h' _ := fun p hp => ⟨hkk _ _ (N9 p hp).2.1 (N9 p hp).1, (N9 p hp).2⟩
    obtain ⟨nw, hDw⟩ := hpD
    have hD1 := none_of_push hD
    have hne := fresh_ne N9 hD1
    have hDN : News h₀ L h' ([(D, W.listOf ys nw), (dm, W.listOf mvs.toArray ny), (dl, W.listOf dvs.toArray nn)] ++ cellsL L o6 o5 o4 o3 o2 o1) := by
      intro p hp
      rcases List.mem_cons.mp hp with rfl | hp
      · refine ⟨hDw, ?_, ?_⟩
        · rintro rfl
          obtain ⟨oL, _, _, e, _⟩ := F9.ns
          rw [hD1] at e; cases e
        · cases e : h₀.get? D with
          | none => rfl
          | some o => rw [F9.keep _ _ e] at hD1; cases hD1
      · exact N8 p hp
    have hab2 : Ab L [(D, W.listOf ys nw), (dm, W.listOf mvs.toArray ny), (dl, W.listOf dvs.toArray nn)] := Ab.cons (o6 := o6) (o5 := o5) (o4 := o4) (o3 := o3) (o2 := o2) (o1 := o1) hab fun q hq => hne q (List.mem_append_right _ hq)
    clear N8 N9
    iterate 4 (first | walk1 | (dsimp only; walk1))
    refine ld_meant (pre := [(D, W.listOf ys nw), (dm, W.listOf mvs.toArray ny), (dl, W.listOf dvs.toArray nn)]) hDN d4 ?_
    refine ne_strs (xs := ys) (ys := mvs) ⟨_, (hDN (D, W.listOf ys nw) (List.mem_cons_self ..)).1, rfl, _, rfl⟩ ⟨_, (hDN (dm, W.listOf mvs.toArray ny) (List.mem_cons_of_mem _ (List.mem_cons_self ..))).1, rfl, _, rfl⟩ hS hms (by units_room) ?_
    iterate 1 (first | walk1 | (dsimp only; walk1))
    rw [if_neg (by decide)]
    walk1
    refine hrest D ys.toList nw _ _ _ F8 rfl rfl rfl hS ?_ ?_
    · intro p hp
      rcases List.mem_cons.mp hp with rfl | hp
      · exact hDN (D, W.listOf ys nw) (List.mem_cons_self ..)
      · exact hDN _ (List.mem_cons_of_mem _ (List.mem_cons_of_mem _ hp))
    · intro p hp
      rcases List.mem_cons.mp hp with rfl | hp
      · exact hab2 (D, W.listOf ys nw) (List.mem_cons_self ..)
      · exact hab2 _ (List.mem_cons_of_mem _ (List.mem_cons_of_mem _ hp))
end Mine
end
section
open PySem PySem.W PyProof.Rows PySem.Spec PySem.Calls PyProof.V
namespace Mine
theorem News.drop2 {h₀ h : Heap} {L : Addr} {p q : Addr × Obj} {r : List (Addr × Obj)} (N : News h₀ L h (p :: q :: r)) : News h₀ L h (p :: r) := fun x hx => by
  rcases List.mem_cons.mp hx with rfl | hx
  · exact N _ (List.mem_cons_self ..)
  · exact N _ (List.mem_cons_of_mem _ (List.mem_cons_of_mem _ hx))
theorem ltsOf {d : Addr} : ∀ {l : List (Addr × Obj)}, AllLt d l → ∀ p ∈ l, p.1 < d
  | [], _, _, hp => nomatch hp
  | _ :: _, h, p, hp => by
    rcases List.mem_cons.mp hp with rfl | hp
    · exact h.1
    · exact ltsOf h.2 p hp
theorem st_below (w : World) (h₀ : Heap) (L fa dl dw : Addr) (cd : Value) (m : Str → Option Value) (o1 o2 o3 o4 o5 o6 : Obj) (dvs wvs : List Value) (nn nw Wd Ht : Nat) (t1 t3 : Tok) (mean : ExcName → Option Value) (mg mb : Str → Option Value) (s : Shared) (Q : Flow → Shared → Prop) (rest : List Stmt)
    (F : Fr h₀ L s.heap m) (X : (KK w.params).In h₀) (T : Top vw Mine.lw mean mg mb h₀)
    (N : News h₀ L s.heap ([(dw, W.listOf wvs.toArray nw), (dl, W.listOf dvs.toArray nn)] ++ cellsL L o6 o5 o4 o3 o2 o1)) (d5 : o5.data = .cell none)
    (hw : m (Str.ofString "wide") = some (.int (Wd : Int) t1)) (hsz : m (Str.ofString "size") = some (.int ((Wd * Ht : Nat) : Int) t3)) (hws : m (Str.ofString "words") = some (.ref dw)) (hdim : dims Wd Ht) (hab : Ab L [(dw, W.listOf wvs.toArray nw), (dl, W.listOf dvs.toArray nn)]) (B : Below callerA h₀ [] h₀)
    (hrest : ∀ (da db : Addr) (avs bvs : List Value) (o5' : Obj) (m' : Str → Option Value) (h : Heap) (tk : Nat), Fr h₀ L h m' → m' (Str.ofString "wide") = some (.int (Wd : Int) t1) → m' (Str.ofString "size") = some (.int ((Wd * Ht : Nat) : Int) t3) → m' (Str.ofString "words") = some (.ref dw) → m' (Str.ofString "above") = some (.ref da) → o5'.data = .cell (some (.ref db)) →
      News h₀ L h ([(da, W.listOf avs.toArray 0), (db, W.listOf bvs.toArray 0), (dw, W.listOf wvs.toArray nw), (dl, W.listOf dvs.toArray nn)] ++ cellsL L o6 o5' o4 o3 o2 o1) → IntsAre avs (List.replicate (Wd * Ht) 0) → IntsAre bvs (List.replicate (Wd * Ht) 0) → Ab L [(da, W.listOf avs.toArray 0), (db, W.listOf bvs.toArray 0), (dw, W.listOf wvs.toArray nw), (dl, W.listOf dvs.toArray nn)] →
      (∀ p ∈ [(db, W.listOf bvs.toArray 0), (dw, W.listOf wvs.toArray nw), (dl, W.listOf dvs.toArray nn)] ++ cellsL L o6 o5' o4 o3 o2 o1, p.1 < da) → (∀ p ∈ [(dw, W.listOf wvs.toArray nw), (dl, W.listOf dvs.toArray nn)] ++ cellsL L o6 o5 o4 o3 o2 o1, p.1 < db) →
      wpAny (model pw w) (LAr L fa cd) (execs rest (LE L fa cd)) Q NoE { s with heap := h, toks := tk })
    : wpAny (model pw w) (LAr L fa cd) (execs (z8 :: z9 :: rest) (LE L fa cd)) Q NoE s := by
  have F0 := Fr.list F [(Str.ofString "wide", .int (Wd : Int) t1), (Str.ofString "size", .int ((Wd * Ht : Nat) : Int) t3), (Str.ofString "words", .ref dw)] (by simpa using ⟨hw, hsz, hws⟩)
  clear F
  have h8 : 0 ≤ ((Wd * Ht : Nat) : Int) ∧ ((Wd * Ht : Nat) : Int) ≤ 8 := by rcases hdim with ⟨rfl, rfl⟩ | ⟨rfl, rfl⟩ | ⟨rfl, rfl⟩ | ⟨rfl, rfl⟩ <;> decide
  iterate 10 (first | walk1 | (dsimp only; walk1))
  rename Fr _ _ _ _ => F1; rename News _ _ _ _ => N1; rename IntsAre _ _ => I1; rename _ ∧ AllLt _ _ => A1
  rw [show (List.replicate ((Wd * Ht : Nat) : Int).toNat [(0 : Int)]).flatten = List.replicate (Wd * Ht) 0 from by rw [Int.toNat_natCast]; simp] at I1
  generalize (List.replicate ((Wd * Ht : Nat) : Int).toNat [Value.int 0 s.toks]).flatten = bvs at I1 N1
  have N2 := News.drop2 N1
  have hab2 := Ab.cons (o6 := o6) (o5 := o5) (o4 := o4) (o3 := o3) (o2 := o2) (o1 := o1) (p := (_, W.listOf bvs.toArray 0)) hab fun q hq => Nat.ne_of_lt (ltsOf A1.2 q (List.mem_append_right _ hq))
  refine sto_below F1 (pre := [_, _, _]) N2 hab2 d5 fun h5 o' hd' F5 N5 => ?_
  clear N1 N2 F1
  iterate 11 (first | walk1 | (dsimp only; walk1))
  rename Fr _ _ _ _ => F1; rename News _ _ _ _ => N1; rename IntsAre _ _ => I2; rename _ ∧ AllLt _ _ => A2
  rw [show (List.replicate ((Wd * Ht : Nat) : Int).toNat [(0 : Int)]).flatten = List.replicate (Wd * Ht) 0 from by rw [Int.toNat_natCast]; simp] at I2
  generalize (List.replicate ((Wd * Ht : Nat) : Int).toNat [Value.int 0 _]).flatten = avs at I2 N1
  have N2 := News.drop2 N1
  have hab3 := Ab.cons (o6 := o6) (o5 := o') (o4 := o4) (o3 := o3) (o2 := o2) (o1 := o1) (p := (_, W.listOf avs.toArray 0)) hab2 fun q hq => Nat.ne_of_lt (ltsOf A2.2 q (List.mem_append_right _ hq))
  have e3 := ltsOf A2.2
  have e4 := ltsOf A1.2
  clear N1
  walk1
  rename Fr _ _ _ _ => F6; rename News _ _ _ _ => N6
  exact hrest _ _ avs bvs o' _ _ _ F6 rfl rfl rfl rfl hd' N6 I2 I1 hab3 e3 e4
end Mine
end
section
open PySem PySem.W PyProof.Rows PySem.Spec PySem.Calls PyProof.V
namespace Mine
noncomputable def bodyOf : Stmt → List Stmt
  | .For _ _ b _ _ => b
  | .While _ b _ _ => b
  | .If _ b _ _ => b
  | _ => []
noncomputable def iterOf : Stmt → Expr
  | .For _ it _ _ _ => it
  | .While t _ _ _ => t
  | .If t _ _ _ => t
  | _ => .Constant .none 0 ⟨0, 0, 0, 0⟩
@[reducible] noncomputable def a0 : Stmt := by
  refine (⟨?b, ?h⟩ : {b : Stmt // b = stOr (bodyOf z10) 0}).1
  case h => conv => rhs; whnf
@[reducible] noncomputable def a1 : Stmt := by
  refine (⟨?b, ?h⟩ : {b : Stmt // b = stOr (bodyOf z10) 1}).1
  case h => conv => rhs; whnf
theorem a_eq : bodyOf z10 = [a0, a1] := by rfl
@[reducible] noncomputable def y0 : Stmt := by
  refine (⟨?b, ?h⟩ : {b : Stmt // b = stOr (bodyOf a1) 0}).1
  case h => conv => rhs; whnf
@[reducible] noncomputable def y1 : Stmt := by
  refine (⟨?b, ?h⟩ : {b : Stmt // b = stOr (bodyOf a1) 1}).1
  case h => conv => rhs; whnf
@[reducible] noncomputable def y2 : Stmt := by
  refine (⟨?b, ?h⟩ : {b : Stmt // b = stOr (bodyOf a1) 2}).1
  case h => conv => rhs; whnf
@[reducible] noncomputable def y3 : Stmt := by
  refine (⟨?b, ?h⟩ : {b : Stmt // b = stOr (bodyOf a1) 3}).1
  case h => conv => rhs; whnf
@[reducible] noncomputable def y4 : Stmt := by
  refine (⟨?b, ?h⟩ : {b : Stmt // b = stOr (bodyOf a1) 4}).1
  case h => conv => rhs; whnf
@[reducible] noncomputable def y5 : Stmt := by
  refine (⟨?b, ?h⟩ : {b : Stmt // b = stOr (bodyOf a1) 5}).1
  case h => conv => rhs; whnf
@[reducible] noncomputable def y6 : Stmt := by
  refine (⟨?b, ?h⟩ : {b : Stmt // b = stOr (bodyOf a1) 6}).1
  case h => conv => rhs; whnf
@[reducible] noncomputable def y7 : Stmt := by
  refine (⟨?b, ?h⟩ : {b : Stmt // b = stOr (bodyOf a1) 7}).1
  case h => conv => rhs; whnf
@[reducible] noncomputable def y8 : Stmt := by
  refine (⟨?b, ?h⟩ : {b : Stmt // b = stOr (bodyOf a1) 8}).1
  case h => conv => rhs; whnf
theorem y_eq : bodyOf a1 = [y0, y1, y2, y3, y4, y5, y6, y7, y8] := by rfl
@[reducible] noncomputable def w0 : Stmt := by
  refine (⟨?b, ?h⟩ : {b : Stmt // b = stOr (bodyOf z17) 0}).1
  case h => conv => rhs; whnf
@[reducible] noncomputable def w1 : Stmt := by
  refine (⟨?b, ?h⟩ : {b : Stmt // b = stOr (bodyOf z17) 1}).1
  case h => conv => rhs; whnf
@[reducible] noncomputable def w2 : Stmt := by
  refine (⟨?b, ?h⟩ : {b : Stmt // b = stOr (bodyOf z17) 2}).1
  case h => conv => rhs; whnf
@[reducible] noncomputable def w3 : Stmt := by
  refine (⟨?b, ?h⟩ : {b : Stmt // b = stOr (bodyOf z17) 3}).1
  case h => conv => rhs; whnf
@[reducible] noncomputable def w4 : Stmt := by
  refine (⟨?b, ?h⟩ : {b : Stmt // b = stOr (bodyOf z17) 4}).1
  case h => conv => rhs; whnf
@[reducible] noncomputable def w5 : Stmt := by
  refine (⟨?b, ?h⟩ : {b : Stmt // b = stOr (bodyOf z17) 5}).1
  case h => conv => rhs; whnf
@[reducible] noncomputable def w6 : Stmt := by
  refine (⟨?b, ?h⟩ : {b : Stmt // b = stOr (bodyOf z17) 6}).1
  case h => conv => rhs; whnf
theorem w_eq : bodyOf z17 = [w0, w1, w2, w3, w4, w5, w6] := by rfl
end Mine
end
section
open PySem PySem.W PyProof.Rows PySem.Spec PySem.Calls PyProof.V
namespace Mine
noncomputable abbrev VL1 (Wd Ht : Nat) (dw da : Addr) (p i j r : Nat) (u v : Str) (t1 t3 tp tu ti tj tr tv : Tok) : List (Str × Value) :=
  [(Str.ofString "wide", .int (Wd : Int) t1), (Str.ofString "size", .int ((Wd * Ht : Nat) : Int) t3), (Str.ofString "words", .ref dw), (Str.ofString "above", .ref da),
   (Str.ofString "p", .int (p : Nat) tp), (Str.ofString "u", .str u tu), (Str.ofString "i", .int (i : Nat) ti), (Str.ofString "j", .int (j : Nat) tj), (Str.ofString "r", .int (r : Nat) tr), (Str.ofString "v", .str v tv)]
theorem ldHigh {prog : Program} {w : World} {A : Around} {E : Value → Shared → Prop} {s : Shared} {h₀ : Heap} {L fa : Addr} {cd : Value} {o2 : Obj} {nl : List (Addr × Obj)} {v : Value} {pos : Pos} {Q : Value → Shared → Prop} (N : News h₀ L s.heap nl) (hm : (L + 1 + 1, o2) ∈ nl) (hd : o2.data = .cell (some v)) (hQ : Q v s) : wpAny (model prog w) A (eval (.Name (Str.ofString "high") pos) (LE L fa cd)) Q E s :=
  wpAny_Name (wpAny_loadName_cell (c := L + 1 + 1) rfl rfl rfl ⟨o2, (N _ hm).1, hd⟩ hQ) (by decide)
theorem ldDraws {prog : Program} {w : World} {A : Around} {E : Value → Shared → Prop} {s : Shared} {h₀ : Heap} {L fa : Addr} {cd : Value} {o1 : Obj} {nl : List (Addr × Obj)} {v : Value} {pos : Pos} {Q : Value → Shared → Prop} (N : News h₀ L s.heap nl) (hm : (L + 1, o1) ∈ nl) (hd : o1.data = .cell (some v)) (hQ : Q v s) : wpAny (model prog w) A (eval (.Name (Str.ofString "draws") pos) (LE L fa cd)) Q E s :=
  wpAny_Name (wpAny_loadName_cell (c := L + 1) rfl rfl rfl ⟨o1, (N _ hm).1, hd⟩ hQ) (by decide)
noncomputable def Has (m : Str → Option Value) (l : List (Str × Value)) : Prop := ∀ q ∈ l, m q.1 = some q.2
theorem Has.nil {m : Str → Option Value} : Has m [] := fun _ h => by cases h
theorem Has.cons {m : Str → Option Value} {k : Str} {x : Value} {l : List (Str × Value)} (h : m k = some x) (hl : Has m l) : Has m ((k, x) :: l) := List.forall_mem_cons.mpr ⟨h, hl⟩
theorem fdN (r H : Nat) : ((r : Nat) : Int).fdiv ((H : Nat) : Int) = ((r / H : Nat) : Int) := by
  rw [Int.fdiv_eq_ediv_of_nonneg _ (by omega)]; exact (Int.natCast_ediv r H).symm
theorem fmN (r H : Nat) : ((r : Nat) : Int).fmod ((H : Nat) : Int) = ((r % H : Nat) : Int) := by
  rw [Int.fmod_eq_emod_of_nonneg _ (by omega)]; exact (Int.natCast_emod r H).symm
theorem st_y01 (w : World) (h₀ : Heap) (L fa dl dw da : Addr) (cd : Value) (m : Str → Option Value) (o1 o2 : Obj) (nl : List (Addr × Obj)) (dvs : List Value) (ds : List Int) (nn Wd Ht p i j r : Nat) (u v : Str) (t1 t2 t3 tp tu ti tj tr tv : Tok) (mean : ExcName → Option Value) (mg mb : Str → Option Value) (s : Shared) (Q : Flow → Shared → Prop) (rest : List Stmt)
    (F : Fr h₀ L s.heap m) (X : (KK w.params).In h₀) (T : Top vw Mine.lw mean mg mb h₀) (B : Below callerA h₀ [] h₀)
    (N : News h₀ L s.heap nl) (m1 : (L + 1, o1) ∈ nl) (m2 : (L + 1 + 1, o2) ∈ nl) (ml : (dl, W.listOf dvs.toArray nn) ∈ nl) (d1 : o1.data = .cell (some (.ref dl))) (d2 : o2.data = .cell (some (.int (Ht : Int) t2))) (hids : IntsAre dvs ds) (hlen : ds.length = 5) (hb : ∀ d ∈ ds, 0 ≤ d ∧ d ≤ 70000000)
    (hm : Has m (VL1 Wd Ht dw da p i j r u v t1 t3 tp tu ti tj tr tv)) (hdim : dims Wd Ht) (D0 : Nat) (hd0 : ds.getD (0 : Int).toNat 0 = (D0 : Nat))
    (hrest : ∀ (tk tm tt : Tok) (m' : Str → Option Value) (h : Heap) (tk' : Nat), Fr h₀ L h m' → Has m' ((Str.ofString "k", Value.int ((r / Ht : Nat) : Int) tk) :: (Str.ofString "m", Value.int ((r % Ht : Nat) : Int) tm) :: (Str.ofString "turn", Value.int ((p + r + D0 : Nat) : Int) tt) :: VL1 Wd Ht dw da p i j r u v t1 t3 tp tu ti tj tr tv) → News h₀ L h nl →
      wpAny (model pw w) (LAr L fa cd) (execs rest (LE L fa cd)) Q NoE { s with heap := h, toks := tk' })
    : wpAny (model pw w) (LAr L fa cd) (execs (y0 :: y1 :: rest) (LE L fa cd)) Q NoE s := by
  have F0 := Fr.list F _ hm
  dsimp only [VL1] at F0
  clear F hm
  have hH : ((Ht : Nat) : Int) ≠ 0 := by rcases hdim with ⟨rfl, rfl⟩ | ⟨rfl, rfl⟩ | ⟨rfl, rfl⟩ | ⟨rfl, rfl⟩ <;> decide
  iterate 8 (first | walk1 | (dsimp only; walk1))
  refine ldHigh N m2 d2 ?_
  iterate 4 (first | walk1 | (dsimp only; walk1))
  rename Fr _ _ _ _ => F1; rename News _ _ _ _ => N1
  have N2 := News.tl N1
  clear N1
  rw [fdN r Ht, fmN r Ht]
  iterate 15 (first | walk1 | (dsimp only; walk1))
  rename Fr _ _ _ _ => F3; rename News _ _ _ _ => N3
  refine ldDraws N3 m1 d1 ?_
  walk1
  refine item_list_ints ⟨_, (N3 _ ml).1, rfl, _, rfl⟩ hids (by decide) (by omega) (by decide) (fun td => ?_)
  rw [hd0]
  walk1
  rw [show (p : Int) + (r : Int) + ((D0 : Nat) : Int) = ((p + r + D0 : Nat) : Int) from by omega]
  walk1
  rename Fr _ _ _ _ => F5; rename News _ _ _ _ => N5
  exact hrest _ _ _ _ _ _ F5 (by repeat' (first | exact Has.nil | refine Has.cons rfl ?_)) N5
end Mine
end
section
open PySem PySem.W PyProof.Rows PySem.Spec PySem.Calls PyProof.V
namespace Mine
noncomputable abbrev VL2 (Wd Ht : Nat) (dw da : Addr) (p i j r k m t : Nat) (u v : Str) (t1 t3 tp tu ti tj tr tv tk tm tt : Tok) : List (Str × Value) :=
  (Str.ofString "k", .int (k : Nat) tk) :: (Str.ofString "m", .int (m : Nat) tm) :: (Str.ofString "turn", .int (t : Nat) tt) :: VL1 Wd Ht dw da p i j r u v t1 t3 tp tu ti tj tr tv
noncomputable def wantA (t : Nat) (u : Str) (i : Nat) : Str :=
  if t % 3 = 0 then Str.ofString "..." ++ u ++ Str.ofString "..."
  else if t % 3 = 1 then Txt.slice u none (some (i : Int)) ++ Str.ofString "..." ++ Txt.slice u (some (i : Int)) none
  else Str.ofString "..." ++ Txt.join (Str.ofString "...") (signs u) ++ Str.ofString "..."
theorem st_y2 (w : World) (h₀ : Heap) (L fa dw da : Addr) (cd : Value) (mm : Str → Option Value) (nl : List (Addr × Obj)) (Wd Ht p i j r k m t : Nat) (u v : Str) (t1 t3 tp tu ti tj tr tv tk tm tt : Tok) (mean : ExcName → Option Value) (mg mb : Str → Option Value) (s : Shared) (Q : Flow → Shared → Prop) (rest : List Stmt)
    (F : Fr h₀ L s.heap mm) (X : (KK w.params).In h₀) (T : Top vw Mine.lw mean mg mb h₀) (B : Below callerA h₀ [] h₀)
    (N : News h₀ L s.heap nl) (hu : u.length ≤ 8) (hi8 : i ≤ 8)
    (hm : Has mm (VL2 Wd Ht dw da p i j r k m t u v t1 t3 tp tu ti tj tr tv tk tm tt))
    (hrest : ∀ (tw : Tok) (m' : Str → Option Value) (h : Heap) (tk' : Nat), Fr h₀ L h m' → Has m' ((Str.ofString "want", .str (wantA t u i) tw) :: VL2 Wd Ht dw da p i j r k m t u v t1 t3 tp tu ti tj tr tv tk tm tt) → News h₀ L h nl →
      wpAny (model pw w) (LAr L fa cd) (execs rest (LE L fa cd)) Q NoE { s with heap := h, toks := tk' })
    : wpAny (model pw w) (LAr L fa cd) (execs (y2 :: rest) (LE L fa cd)) Q NoE s := by
  have F0 := Fr.list F _ hm
  dsimp only [VL1, VL2] at F0
  clear F hm
  have ht3 : t % 3 = 0 ∨ t % 3 = 1 ∨ t % 3 = 2 := by omega
  iterate 7 (first | walk1 | (dsimp only; walk1))
  rw [show (t : Int).fmod 3 = ((t % 3 : Nat) : Int) from fmN t 3]
  rcases ht3 with e | e | e
  · rw [e]
    iterate 16 (first | walk1 | (dsimp only; walk1))
    rename Fr _ _ _ _ => F5; rename News _ _ _ _ => N5
    rw [show Str.ofString "..." ++ u ++ Str.ofString "..." = wantA t u i from (if_pos e).symm] at F5
    exact hrest _ _ _ _ F5 (by repeat' (first | exact Has.nil | refine Has.cons rfl ?_)) N5
  · rw [e]
    iterate 12 (first | walk1 | (dsimp only; walk1))
    rw [show (t : Int).fmod 3 = ((t % 3 : Nat) : Int) from fmN t 3, e]
    iterate 31 (first | walk1 | (dsimp only; walk1))
    rename Fr _ _ _ _ => F5; rename News _ _ _ _ => N5
    rw [show Txt.slice u none (some ↑i) ++ Str.ofString "..." ++ Txt.slice u (some ↑i) none = wantA t u i from ((if_neg (by omega)).trans (if_pos e)).symm] at F5
    exact hrest _ _ _ _ F5 (by repeat' (first | exact Has.nil | refine Has.cons rfl ?_)) N5
  · rw [e]
    iterate 12 (first | walk1 | (dsimp only; walk1))
    rw [show (t : Int).fmod 3 = ((t % 3 : Nat) : Int) from fmN t 3, e]
    iterate 18 (first | walk1 | (dsimp only; walk1))
    have hj : (Txt.join (Str.ofString "...") (signs u)).length ≤ 32 := by
      rw [len_join_signs, show (Str.ofString "...").length = 3 from rfl]; split <;> omega
    iterate 7 (first | walk1 | (dsimp only; walk1))
    rename Fr _ _ _ _ => F5; rename News _ _ _ _ => N5
    rw [show Str.ofString "..." ++ Txt.join (Str.ofString "...") (signs u) ++ Str.ofString "..." = wantA t u i from ((if_neg (by omega)).trans (if_neg (by omega))).symm] at F5
    exact hrest _ _ _ _ F5 (by repeat' (first | exact Has.nil | refine Has.cons rfl ?_)) N5
end Mine
end
section
open PySem PySem.W PyProof.Rows PySem.Spec PySem.Calls PyProof.V PySem.Builtin.Str
namespace Mine
noncomputable def emPre (x y : Str) : Prop := x.length ≤ 40 ∧ y.length ≤ 16 ∧ ((occurrences x (Str.ofString "...") 0 x.length 1).isEmpty = true ∨ (2 ≤ (Txt.split x (Str.ofString "...")).length ∧ (Txt.split x (Str.ofString "...")).length ≤ 100))
theorem st_y3 (w : World) (h₀ : Heap) (L fa dl dw da : Addr) (cd : Value) (mm : Str → Option Value) (nl : List (Addr × Obj)) (Wd Ht p i j r k m t : Nat) (u v x : Str) (t1 t3 tp tu ti tj tr tv tk tm tt tw : Tok) (mean : ExcName → Option Value) (mg mb : Str → Option Value) (s : Shared) (Q : Flow → Shared → Prop) (rest : List Stmt)
    (F : Fr h₀ L s.heap mm) (X : (KK w.params).In h₀) (T : Top vw Mine.lw mean mg mb h₀) (B : Below callerA h₀ [] h₀)
    (N : News h₀ L s.heap nl) (b : Bool) (hE : EM x v = b) (hP : emPre x v)
    (hm : Has mm ((Str.ofString "want", .str x tw) :: VL2 Wd Ht dw da p i j r k m t u v t1 t3 tp tu ti tj tr tv tk tm tt))
    (hrest : ∀ (m' : Str → Option Value) (h : Heap) (tk' : Nat), Fr h₀ L h m' → Has m' ((Str.ofString "lies", .bool b) :: VL2 Wd Ht dw da p i j r k m t u v t1 t3 tp tu ti tj tr tv tk tm tt) → News h₀ L h nl →
      wpAny (model pw w) (LAr L fa cd) (execs rest (LE L fa cd)) Q NoE { s with heap := h, toks := tk' })
    : wpAny (model pw w) (LAr L fa cd) (execs (y3 :: rest) (LE L fa cd)) Q NoE s := by
  have F0 := Fr.list F _ hm
  dsimp only [VL1, VL2] at F0
  clear F hm
  iterate 9 (first | walk1 | (dsimp only; walk1))
  rename Fr _ _ _ _ => F1; rename News _ _ _ _ => N1
  refine args_nil ⟨X.keeps F1.keep, ?_⟩
  refine p_em w _ _ _ _ _ _ _ _ _ _ _ _ _ _ _ _ _ _ _ _ _ _ _ _ B F1 X (by assumption) rfl hP (by ktr_room) (by ktr_room) fun t' h' tk' hk' => ?_
  have F2 := F1.kept (h' := h') hk'
  have N2 := News.kp N1 hk'
  clear F1 N1
  dsimp only
  rw [hE]
  walk1
  rename Fr _ _ _ _ => F5; rename News _ _ _ _ => N5
  exact hrest _ _ _ F5 (by repeat' (first | exact Has.nil | refine Has.cons rfl ?_)) N5
theorem st_y4 (w : World) (h₀ : Heap) (L fa dw da : Addr) (cd : Value) (mm : Str → Option Value) (nl : List (Addr × Obj)) (Wd Ht p i j r k m t : Nat) (u v : Str) (t1 t3 tp tu ti tj tr tv tk tm tt : Tok) (mean : ExcName → Option Value) (mg mb : Str → Option Value) (s : Shared) (Q : Flow → Shared → Prop) (rest : List Stmt)
    (F : Fr h₀ L s.heap mm) (X : (KK w.params).In h₀) (T : Top vw Mine.lw mean mg mb h₀) (B : Below callerA h₀ [] h₀)
    (N : News h₀ L s.heap nl) (b : Bool) (hbb : b = decide (i ≤ k ∧ j ≤ m))
    (hm : Has mm ((Str.ofString "lies", .bool b) :: VL2 Wd Ht dw da p i j r k m t u v t1 t3 tp tu ti tj tr tv tk tm tt))
    (hrest : ∀ (m' : Str → Option Value) (h : Heap) (tk' : Nat), Fr h₀ L h m' → Has m' ((Str.ofString "lies", .bool b) :: VL2 Wd Ht dw da p i j r k m t u v t1 t3 tp tu ti tj tr tv tk tm tt) → News h₀ L h nl →
      wpAny (model pw w) (LAr L fa cd) (execs rest (LE L fa cd)) Q NoE { s with heap := h, toks := tk' })
    : wpAny (model pw w) (LAr L fa cd) (execs (y4 :: rest) (LE L fa cd)) Q NoE s := by
  have F0 := Fr.list F _ hm
  dsimp only [VL1, VL2] at F0
  clear F
  iterate 9 (first | walk1 | (dsimp only; walk1))
  by_cases h1 : i ≤ k
  · rw [show decide ((i : Int) ≤ (k : Int)) = true from by simpa using h1]
    iterate 7 (first | walk1 | (dsimp only; walk1))
    rw [show decide ((j : Int) ≤ (m : Int)) = b from by rw [hbb]; simp [h1]]
    iterate 2 (first | walk1 | (dsimp only; walk1))
    rw [if_neg (by simp)]
    walk1
    exact hrest _ _ _ F0 (by repeat' (first | exact Has.nil | refine Has.cons rfl ?_)) N
  · rw [show decide ((i : Int) ≤ (k : Int)) = false from by simpa using h1]
    iterate 4 (first | walk1 | (dsimp only; walk1))
    have hb0 : b = false := by rw [hbb]; simp [h1]
    rw [if_neg (by simp [hb0])]
    walk1
    exact hrest _ _ _ F0 (by repeat' (first | exact Has.nil | refine Has.cons rfl ?_)) N
end Mine
end
section
open PySem PySem.W PyProof.Rows PySem.Spec PySem.Calls PyProof.V PySem.Builtin.Str
namespace Mine
theorem st_y5 (w : World) (h₀ : Heap) (L fa dl dw da : Addr) (cd : Value) (mm : Str → Option Value) (o1 : Obj) (nl : List (Addr × Obj)) (dvs : List Value) (ds : List Int) (nn Wd Ht p i j r k m t : Nat) (u v : Str) (t1 t3 tp tu ti tj tr tv tk tm tt : Tok) (mean : ExcName → Option Value) (mg mb : Str → Option Value) (s : Shared) (Q : Flow → Shared → Prop) (rest : List Stmt)
    (F : Fr h₀ L s.heap mm) (X : (KK w.params).In h₀) (T : Top vw Mine.lw mean mg mb h₀) (B : Below callerA h₀ [] h₀)
    (N : News h₀ L s.heap nl) (m1 : (L + 1, o1) ∈ nl) (ml : (dl, W.listOf dvs.toArray nn) ∈ nl) (d1 : o1.data = .cell (some (.ref dl))) (hids : IntsAre dvs ds) (hlen : ds.length = 5) (b : Bool) (D1 : Nat) (hd1 : ds.getD (1 : Int).toNat 0 = (D1 : Nat))
    (hm : Has mm ((Str.ofString "lies", .bool b) :: VL2 Wd Ht dw da p i j r k m t u v t1 t3 tp tu ti tj tr tv tk tm tt))
    (hrest : ∀ (tt' : Tok) (m' : Str → Option Value) (h : Heap) (tk' : Nat), Fr h₀ L h m' → Has m' ((Str.ofString "lies", .bool b) :: VL2 Wd Ht dw da p i j r k m (p + r + D1) u v t1 t3 tp tu ti tj tr tv tk tm tt') → News h₀ L h nl →
      wpAny (model pw w) (LAr L fa cd) (execs rest (LE L fa cd)) Q NoE { s with heap := h, toks := tk' })
    : wpAny (model pw w) (LAr L fa cd) (execs (y5 :: rest) (LE L fa cd)) Q NoE s := by
  have F0 := Fr.list F _ hm
  dsimp only [VL1, VL2] at F0
  clear F hm
  iterate 8 (first | walk1 | (dsimp only; walk1))
  rename Fr _ _ _ _ => F3; rename News _ _ _ _ => N3
  refine ldDraws N3 m1 d1 ?_
  walk1
  refine item_list_ints ⟨_, (N3 _ ml).1, rfl, _, rfl⟩ hids (by decide) (by omega) (by decide) (fun td => ?_)
  rw [hd1]
  walk1
  rw [show (p : Int) + (r : Int) + ((D1 : Nat) : Int) = ((p + r + D1 : Nat) : Int) from by omega]
  walk1
  rename Fr _ _ _ _ => F5; rename News _ _ _ _ => N5
  exact hrest _ _ _ _ F5 (by repeat' (first | exact Has.nil | refine Has.cons rfl ?_)) N5
noncomputable abbrev VL3 (b : Bool) (Wd Ht : Nat) (dw da : Addr) (p i j r k m t : Nat) (u v : Str) (t1 t3 tp tu ti tj tr tv tk tm tt : Tok) : List (Str × Value) :=
  (Str.ofString "lies", .bool b) :: VL2 Wd Ht dw da p i j r k m t u v t1 t3 tp tu ti tj tr tv tk tm tt
noncomputable def wantB (t : Nat) (u : Str) (i : Nat) : Str :=
  if t % 3 = 0 then u
  else if t % 3 = 1 then Txt.slice u (some (i : Int)) none ++ Str.ofString "..." ++ Txt.slice u none (some (i : Int))
  else Txt.join (Str.ofString "...") (signs u)
noncomputable def dueB (t i j k m p r : Nat) (b : Bool) : Bool :=
  if t % 3 = 0 then decide (p = r)
  else if t % 3 = 1 then decide ((j = 0 ∨ (k = 0 ∧ j ≤ m)) ∧ (i = 0 ∨ (m = 0 ∧ i ≤ k)))
  else if 1 < i + j then b && decide ((0 < i ∨ k = 0) ∧ (0 < j ∨ m = 0)) else decide (p = r)
theorem pr_eq (p r : Nat) : ((p : Int) == (r : Int)) = decide (p = r) := by
  by_cases h : p = r
  · subst h; simp
  · have h2 : (p : Int) ≠ (r : Int) := by omega
    simp [h, h2]
theorem st_y6a (w : World) (h₀ : Heap) (L fa dw da : Addr) (cd : Value) (mm : Str → Option Value) (nl : List (Addr × Obj)) (b : Bool) (Wd Ht p i j r k m t : Nat) (u v : Str) (t1 t3 tp tu ti tj tr tv tk tm tt : Tok) (mean : ExcName → Option Value) (mg mb : Str → Option Value) (s : Shared) (Q : Flow → Shared → Prop) (rest : List Stmt)
    (F : Fr h₀ L s.heap mm) (X : (KK w.params).In h₀) (T : Top vw Mine.lw mean mg mb h₀) (B : Below callerA h₀ [] h₀)
    (N : News h₀ L s.heap nl) (hu : u.length ≤ 8) (hi8 : i ≤ 8) (e : t % 3 = 0)
    (hrest : ∀ (tw : Tok) (m' : Str → Option Value) (h : Heap) (tk' : Nat), Fr h₀ L h m' → Has m' ((Str.ofString "want", .str (wantB t u i) tw) :: (Str.ofString "due", .bool (dueB t i j k m p r b)) :: VL3 b Wd Ht dw da p i j r k m t u v t1 t3 tp tu ti tj tr tv tk tm tt) → News h₀ L h nl →
      wpAny (model pw w) (LAr L fa cd) (execs rest (LE L fa cd)) Q NoE { s with heap := h, toks := tk' })
    (hm : Has mm (VL3 b Wd Ht dw da p i j r k m t u v t1 t3 tp tu ti tj tr tv tk tm tt))
    : wpAny (model pw w) (LAr L fa cd) (execs (y6 :: rest) (LE L fa cd)) Q NoE s := by
  have F0 := Fr.list F _ hm
  dsimp only [VL1, VL2, VL3] at F0
  clear F hm
  iterate 7 (first | walk1 | (dsimp only; walk1))
  rw [show (t : Int).fmod 3 = ((t % 3 : Nat) : Int) from fmN t 3, e]
  iterate 20 (first | walk1 | (dsimp only; walk1))
  rename Fr _ _ _ _ => F5; rename News _ _ _ _ => N5
  have N6 := News.tl N5
  clear N5
  rw [pr_eq]
  iterate 7 (first | walk1 | (dsimp only; walk1))
  rename Fr _ _ _ _ => F7; rename News _ _ _ _ => N7
  have ew : wantB t u i = u := if_pos e
  have ed : dueB t i j k m p r b = decide (p = r) := if_pos e
  exact hrest _ _ _ _ F7 (Has.cons (show some (Value.str u _) = some (Value.str (wantB t u i) _) from by rw [ew]) (Has.cons (show some (Value.bool (decide (p = r))) = _ from by rw [ed]) (by repeat' (first | exact Has.nil | refine Has.cons rfl ?_)))) N7
end Mine
end
section
open PySem PySem.W PyProof.Rows PySem.Spec PySem.Calls PyProof.V PySem.Builtin.Str
namespace Mine
theorem zN (n : Nat) : ((n : Int) == 0) = decide (n = 0) := by
  by_cases h : n = 0
  · subst h; simp
  · have h2 : (n : Int) ≠ 0 := by omega
    simp [h, h2]
theorem st_y6b (w : World) (h₀ : Heap) (L fa dw da : Addr) (cd : Value) (mm : Str → Option Value) (nl : List (Addr × Obj)) (b : Bool) (Wd Ht p i j r k m t : Nat) (u v : Str) (t1 t3 tp tu ti tj tr tv tk tm tt : Tok) (mean : ExcName → Option Value) (mg mb : Str → Option Value) (s : Shared) (Q : Flow → Shared → Prop) (rest : List Stmt)
    (F : Fr h₀ L s.heap mm) (X : (KK w.params).In h₀) (T : Top vw Mine.lw mean mg mb h₀) (B : Below callerA h₀ [] h₀)
    (N : News h₀ L s.heap nl) (hu : u.length ≤ 8) (hi8 : i ≤ 8) (e : t % 3 = 1)
    (hrest : ∀ (tw : Tok) (m' : Str → Option Value) (h : Heap) (tk' : Nat), Fr h₀ L h m' → Has m' ((Str.ofString "want", .str (wantB t u i) tw) :: (Str.ofString "due", .bool (dueB t i j k m p r b)) :: VL3 b Wd Ht dw da p i j r k m t u v t1 t3 tp tu ti tj tr tv tk tm tt) → News h₀ L h nl →
      wpAny (model pw w) (LAr L fa cd) (execs rest (LE L fa cd)) Q NoE { s with heap := h, toks := tk' })
    (hm : Has mm (VL3 b Wd Ht dw da p i j r k m t u v t1 t3 tp tu ti tj tr tv tk tm tt))
    : wpAny (model pw w) (LAr L fa cd) (execs (y6 :: rest) (LE L fa cd)) Q NoE s := by
  have F0 := Fr.list F _ hm
  dsimp only [VL1, VL2, VL3] at F0
  clear F hm
  iterate 7 (first | walk1 | (dsimp only; walk1))
  rw [show (t : Int).fmod 3 = ((t % 3 : Nat) : Int) from fmN t 3, e]
  iterate 12 (first | walk1 | (dsimp only; walk1))
  rw [show (t : Int).fmod 3 = ((t % 3 : Nat) : Int) from fmN t 3, e]
  iterate 37 (first | walk1 | (dsimp only; walk1))
  rw [zN]
  have ew : wantB t u i = _ := (if_neg (by omega)).trans (if_pos e)
  have ed0 : dueB t i j k m p r b = _ := (if_neg (by omega)).trans (if_pos e)
  by_cases hj : j = 0
  · rw [decide_eq_true hj]
    iterate 10 (first | walk1 | (dsimp only; walk1))
    rw [zN]
    by_cases hi : i = 0
    · rw [decide_eq_true hi]
      iterate 2 (first | walk1 | (dsimp only; walk1))
      iterate 3 (first | walk1 | (dsimp only; walk1))
      rename Fr _ _ _ _ => F7; rename News _ _ _ _ => N7
      have ed : dueB t i j k m p r b = true := by rw [ed0]; simp [hj, hi]
      exact hrest _ _ _ _ F7 (Has.cons (congrArg (fun z => some (Value.str z _)) ew.symm) (Has.cons (congrArg (fun z => some (Value.bool z)) ed.symm) (by repeat' (first | exact Has.nil | refine Has.cons rfl ?_)))) N7
    · rw [decide_eq_false hi]
      iterate 8 (first | walk1 | (dsimp only; walk1))
      rw [zN]
      by_cases hm0 : m = 0
      · rw [decide_eq_true hm0]
        iterate 7 (first | walk1 | (dsimp only; walk1))
        iterate 3 (first | walk1 | (dsimp only; walk1))
        rename Fr _ _ _ _ => F7; rename News _ _ _ _ => N7
        have ed : dueB t i j k m p r b = decide ((i : Int) ≤ (k : Int)) := by rw [ed0]; simp [hj, hi, hm0]
        exact hrest _ _ _ _ F7 (Has.cons (congrArg (fun z => some (Value.str z _)) ew.symm) (Has.cons (congrArg (fun z => some (Value.bool z)) ed.symm) (by repeat' (first | exact Has.nil | refine Has.cons rfl ?_)))) N7
      · rw [decide_eq_false hm0]
        iterate 2 (first | walk1 | (dsimp only; walk1))
        iterate 3 (first | walk1 | (dsimp only; walk1))
        rename Fr _ _ _ _ => F7; rename News _ _ _ _ => N7
        have ed : dueB t i j k m p r b = false := by rw [ed0]; simp [hj, hi, hm0]
        exact hrest _ _ _ _ F7 (Has.cons (congrArg (fun z => some (Value.str z _)) ew.symm) (Has.cons (congrArg (fun z => some (Value.bool z)) ed.symm) (by repeat' (first | exact Has.nil | refine Has.cons rfl ?_)))) N7
  · rw [decide_eq_false hj]
    iterate 8 (first | walk1 | (dsimp only; walk1))
    rw [zN]
    by_cases hk : k = 0
    · rw [decide_eq_true hk]
      iterate 7 (first | walk1 | (dsimp only; walk1))
      by_cases hjm : j ≤ m
      · rw [show decide ((j : Int) ≤ (m : Int)) = true from by simpa using hjm]
        iterate 8 (first | walk1 | (dsimp only; walk1))
        rw [zN]
        by_cases hi : i = 0
        · rw [decide_eq_true hi]
          iterate 2 (first | walk1 | (dsimp only; walk1))
          iterate 3 (first | walk1 | (dsimp only; walk1))
          rename Fr _ _ _ _ => F7; rename News _ _ _ _ => N7
          have ed : dueB t i j k m p r b = true := by rw [ed0]; simp [hj, hk, hjm, hi]
          exact hrest _ _ _ _ F7 (Has.cons (congrArg (fun z => some (Value.str z _)) ew.symm) (Has.cons (congrArg (fun z => some (Value.bool z)) ed.symm) (by repeat' (first | exact Has.nil | refine Has.cons rfl ?_)))) N7
        · rw [decide_eq_false hi]
          iterate 8 (first | walk1 | (dsimp only; walk1))
          rw [zN]
          by_cases hm0 : m = 0
          · rw [decide_eq_true hm0]
            iterate 7 (first | walk1 | (dsimp only; walk1))
            iterate 3 (first | walk1 | (dsimp only; walk1))
            rename Fr _ _ _ _ => F7; rename News _ _ _ _ => N7
            have ed : dueB t i j k m p r b = decide ((i : Int) ≤ (k : Int)) := by rw [ed0]; simp [hj, hk, hjm, hi, hm0]
            exact hrest _ _ _ _ F7 (Has.cons (congrArg (fun z => some (Value.str z _)) ew.symm) (Has.cons (congrArg (fun z => some (Value.bool z)) ed.symm) (by repeat' (first | exact Has.nil | refine Has.cons rfl ?_)))) N7
          · rw [decide_eq_false hm0]
            iterate 2 (first | walk1 | (dsimp only; walk1))
            iterate 3 (first | walk1 | (dsimp only; walk1))
            rename Fr _ _ _ _ => F7; rename News _ _ _ _ => N7
            have ed : dueB t i j k m p r b = false := by rw [ed0]; simp [hj, hk, hjm, hi, hm0]
            exact hrest _ _ _ _ F7 (Has.cons (congrArg (fun z => some (Value.str z _)) ew.symm) (Has.cons (congrArg (fun z => some (Value.bool z)) ed.symm) (by repeat' (first | exact Has.nil | refine Has.cons rfl ?_)))) N7
      · rw [show decide ((j : Int) ≤ (m : Int)) = false from by simpa using hjm]
        iterate 2 (first | walk1 | (dsimp only; walk1))
        iterate 3 (first | walk1 | (dsimp only; walk1))
        rename Fr _ _ _ _ => F7; rename News _ _ _ _ => N7
        have ed : dueB t i j k m p r b = false := by rw [ed0]; simp [hj, hk, hjm]
        exact hrest _ _ _ _ F7 (Has.cons (congrArg (fun z => some (Value.str z _)) ew.symm) (Has.cons (congrArg (fun z => some (Value.bool z)) ed.symm) (by repeat' (first | exact Has.nil | refine Has.cons rfl ?_)))) N7
    · rw [decide_eq_false hk]
      iterate 4 (first | walk1 | (dsimp only; walk1))
      iterate 3 (first | walk1 | (dsimp only; walk1))
      rename Fr _ _ _ _ => F7; rename News _ _ _ _ => N7
      have ed : dueB t i j k m p r b = false := by rw [ed0]; simp [hj, hk]
      exact hrest _ _ _ _ F7 (Has.cons (congrArg (fun z => some (Value.str z _)) ew.symm) (Has.cons (congrArg (fun z => some (Value.bool z)) ed.symm) (by repeat' (first | exact Has.nil | refine Has.cons rfl ?_)))) N7
end Mine
end
section
open PySem PySem.W PyProof.Rows PySem.Spec PySem.Calls PyProof.V PySem.Builtin.Str
namespace Mine
theorem st_y6c (w : World) (h₀ : Heap) (L fa dw da : Addr) (cd : Value) (mm : Str → Option Value) (nl : List (Addr × Obj)) (b : Bool) (Wd Ht p i j r k m t : Nat) (u v : Str) (t1 t3 tp tu ti tj tr tv tk tm tt : Tok) (mean : ExcName → Option Value) (mg mb : Str → Option Value) (s : Shared) (Q : Flow → Shared → Prop) (rest : List Stmt)
    (F : Fr h₀ L s.heap mm) (X : (KK w.params).In h₀) (T : Top vw Mine.lw mean mg mb h₀) (B : Below callerA h₀ [] h₀)
    (N : News h₀ L s.heap nl) (hu : u.length ≤ 8) (hi8 : i ≤ 8) (e : t % 3 = 2)
    (hrest : ∀ (tw : Tok) (m' : Str → Option Value) (h : Heap) (tk' : Nat), Fr h₀ L h m' → Has m' ((Str.ofString "want", .str (wantB t u i) tw) :: (Str.ofString "due", .bool (dueB t i j k m p r b)) :: VL3 b Wd Ht dw da p i j r k m t u v t1 t3 tp tu ti tj tr tv tk tm tt) → News h₀ L h nl →
      wpAny (model pw w) (LAr L fa cd) (execs rest (LE L fa cd)) Q NoE { s with heap := h, toks := tk' })
    (hm : Has mm (VL3 b Wd Ht dw da p i j r k m t u v t1 t3 tp tu ti tj tr tv tk tm tt))
    : wpAny (model pw w) (LAr L fa cd) (execs (y6 :: rest) (LE L fa cd)) Q NoE s := by
  have F0 := Fr.list F _ hm
  dsimp only [VL1, VL2, VL3] at F0
  clear F hm
  iterate 7 (first | walk1 | (dsimp only; walk1))
  rw [show (t : Int).fmod 3 = ((t % 3 : Nat) : Int) from fmN t 3, e]
  iterate 12 (first | walk1 | (dsimp only; walk1))
  rw [show (t : Int).fmod 3 = ((t % 3 : Nat) : Int) from fmN t 3, e]
  have hj3 : (Txt.join (Str.ofString "...") (signs u)).length ≤ 32 := by
    rw [len_join_signs, show (Str.ofString "...").length = 3 from rfl]; split <;> omega
  have ew : wantB t u i = _ := (if_neg (by omega)).trans (if_neg (by omega))
  have ed0 : ∀ b, dueB t i j k m p r b = _ := fun b => (if_neg (by omega)).trans (if_neg (by omega))
  iterate 27 (first | walk1 | (dsimp only; walk1))
  by_cases h1 : 1 < i + j
  · rw [show decide (1 < (i : Int) + (j : Int)) = true from by simp; omega]
    iterate 4 (first | walk1 | (dsimp only; walk1))
    cases b with
    | false =>
      iterate 2 (first | walk1 | (dsimp only; walk1))
      iterate 3 (first | walk1 | (dsimp only; walk1))
      rename Fr _ _ _ _ => F7; rename News _ _ _ _ => N7
      have ed : dueB t i j k m p r false = false := by rw [ed0]; simp [h1]
      exact hrest _ _ _ _ F7 (Has.cons (congrArg (fun z => some (Value.str z _)) ew.symm) (Has.cons (congrArg (fun z => some (Value.bool z)) ed.symm) (by repeat' (first | exact Has.nil | refine Has.cons rfl ?_)))) N7
    | true =>
      iterate 8 (first | walk1 | (dsimp only; walk1))
      by_cases hi : 0 < i
      · rw [show decide (0 < (i : Int)) = true from by simpa using hi]
        iterate 10 (first | walk1 | (dsimp only; walk1))
        by_cases hj : 0 < j
        · rw [show decide (0 < (j : Int)) = true from by simpa using hj]
          iterate 2 (first | walk1 | (dsimp only; walk1))
          iterate 3 (first | walk1 | (dsimp only; walk1))
          rename Fr _ _ _ _ => F7; rename News _ _ _ _ => N7
          have ed : dueB t i j k m p r true = true := by rw [ed0]; simp [h1, hi, hj]
          exact hrest _ _ _ _ F7 (Has.cons (congrArg (fun z => some (Value.str z _)) ew.symm) (Has.cons (congrArg (fun z => some (Value.bool z)) ed.symm) (by repeat' (first | exact Has.nil | refine Has.cons rfl ?_)))) N7
        · rw [show decide (0 < (j : Int)) = false from by simpa using hj]
          iterate 7 (first | walk1 | (dsimp only; walk1))
          rw [zN]
          iterate 3 (first | walk1 | (dsimp only; walk1))
          rename Fr _ _ _ _ => F7; rename News _ _ _ _ => N7
          have ed : dueB t i j k m p r true = decide (m = 0) := by rw [ed0]; simp [h1, hi, hj]
          exact hrest _ _ _ _ F7 (Has.cons (congrArg (fun z => some (Value.str z _)) ew.symm) (Has.cons (congrArg (fun z => some (Value.bool z)) ed.symm) (by repeat' (first | exact Has.nil | refine Has.cons rfl ?_)))) N7
      · rw [show decide (0 < (i : Int)) = false from by simpa using hi]
        iterate 7 (first | walk1 | (dsimp only; walk1))
        rw [zN]
        by_cases hk : k = 0
        · rw [decide_eq_true hk]
          iterate 8 (first | walk1 | (dsimp only; walk1))
          by_cases hj : 0 < j
          · rw [show decide (0 < (j : Int)) = true from by simpa using hj]
            iterate 2 (first | walk1 | (dsimp only; walk1))
            iterate 3 (first | walk1 | (dsimp only; walk1))
            rename Fr _ _ _ _ => F7; rename News _ _ _ _ => N7
            have ed : dueB t i j k m p r true = true := by rw [ed0]; simp [h1, hi, hk, hj]
            exact hrest _ _ _ _ F7 (Has.cons (congrArg (fun z => some (Value.str z _)) ew.symm) (Has.cons (congrArg (fun z => some (Value.bool z)) ed.symm) (by repeat' (first | exact Has.nil | refine Has.cons rfl ?_)))) N7
          · rw [show decide (0 < (j : Int)) = false from by simpa using hj]
            iterate 7 (first | walk1 | (dsimp only; walk1))
            rw [zN]
            iterate 3 (first | walk1 | (dsimp only; walk1))
            rename Fr _ _ _ _ => F7; rename News _ _ _ _ => N7
            have ed : dueB t i j k m p r true = decide (m = 0) := by rw [ed0]; simp [h1, hi, hk, hj]
            exact hrest _ _ _ _ F7 (Has.cons (congrArg (fun z => some (Value.str z _)) ew.symm) (Has.cons (congrArg (fun z => some (Value.bool z)) ed.symm) (by repeat' (first | exact Has.nil | refine Has.cons rfl ?_)))) N7
        · rw [decide_eq_false hk]
          iterate 2 (first | walk1 | (dsimp only; walk1))
          iterate 3 (first | walk1 | (dsimp only; walk1))
          rename Fr _ _ _ _ => F7; rename News _ _ _ _ => N7
          have ed : dueB t i j k m p r true = false := by rw [ed0]; simp [h1, hi, hk]
          exact hrest _ _ _ _ F7 (Has.cons (congrArg (fun z => some (Value.str z _)) ew.symm) (Has.cons (congrArg (fun z => some (Value.bool z)) ed.symm) (by repeat' (first | exact Has.nil | refine Has.cons rfl ?_)))) N7
  · rw [show decide (1 < (i : Int) + (j : Int)) = false from by simp; omega]
    iterate 6 (first | walk1 | (dsimp only; walk1))
    rw [pr_eq]
    iterate 3 (first | walk1 | (dsimp only; walk1))
    rename Fr _ _ _ _ => F7; rename News _ _ _ _ => N7
    have ed : dueB t i j k m p r b = decide (p = r) := by rw [ed0]; simp [h1]
    exact hrest _ _ _ _ F7 (Has.cons (congrArg (fun z => some (Value.str z _)) ew.symm) (Has.cons (congrArg (fun z => some (Value.bool z)) ed.symm) (by repeat' (first | exact Has.nil | refine Has.cons rfl ?_)))) N7
end Mine
end
section
open PySem PySem.W PyProof.Rows PySem.Spec PySem.Calls PyProof.V PySem.Builtin.Str
namespace Mine
theorem bandN (x y : Nat) : Builtin.bitAnd (x : Int) (y : Int) = ((x &&& y : Nat) : Int) := by
  unfold Builtin.bitAnd
  rw [decide_eq_true (Int.natCast_nonneg x), decide_eq_true (Int.natCast_nonneg y)]
  simp
theorem borN (x y : Nat) : Builtin.bitOr (x : Int) (y : Int) = ((x ||| y : Nat) : Int) := by
  unfold Builtin.bitOr Builtin.bitAnd
  have hx : ¬ (0 : Int) ≤ Builtin.bitNot (x : Int) := by unfold Builtin.bitNot; omega
  have hy : ¬ (0 : Int) ≤ Builtin.bitNot (y : Int) := by unfold Builtin.bitNot; omega
  rw [decide_eq_false hx, decide_eq_false hy]
  have e : ∀ z : Int, Builtin.bitNot (Builtin.bitNot z) = z := fun z => by unfold Builtin.bitNot; omega
  show Builtin.bitNot (Builtin.bitNot _) = _
  rw [e, e, e]
  simp
theorem orXA (n : Nat) : ∀ x y : Nat, x ≤ n → (x ||| y) = (x ^^^ y) + (x &&& y) := by
  induction n with
  | zero => intro x y h; obtain rfl : x = 0 := Nat.le_zero.mp h
            simp
  | succ n ih =>
    intro x y h
    by_cases hx : x = 0
    · subst hx; rw [Nat.zero_or, Nat.zero_xor, Nat.zero_and]; rfl
    · have h2 := ih (x / 2) (y / 2) (Nat.le_of_lt_succ (Nat.lt_of_lt_of_le (Nat.div_lt_self (Nat.pos_of_ne_zero hx) (by decide)) h))
      have a1 : (x ||| y) / 2 = (x / 2 ||| y / 2) := Nat.or_div_two
      have a2 : (x ^^^ y) / 2 = (x / 2 ^^^ y / 2) := Nat.xor_div_two
      have a3 : (x &&& y) / 2 = (x / 2 &&& y / 2) := Nat.and_div_two
      have b1 : (x ||| y) % 2 = (x % 2 ||| y % 2) := by simpa using Nat.or_mod_two_pow (a := x) (b := y) (n := 1)
      have b2 : (x ^^^ y) % 2 = (x % 2 ^^^ y % 2) := by simpa using Nat.xor_mod_two_pow (a := x) (b := y) (n := 1)
      have b3 : (x &&& y) % 2 = (x % 2 &&& y % 2) := by simpa using Nat.and_mod_two_pow (a := x) (b := y) (n := 1)
      have hxm : x % 2 = 0 ∨ x % 2 = 1 := Nat.mod_two_eq_zero_or_one x
      have hym : y % 2 = 0 ∨ y % 2 = 1 := Nat.mod_two_eq_zero_or_one y
      have c : (x % 2 ||| y % 2) = (x % 2 ^^^ y % 2) + (x % 2 &&& y % 2) := by
        rcases hxm with e | e <;> rcases hym with f | f <;> rw [e, f] <;> rfl
      have d1 : x ||| y = 2 * (x / 2 ||| y / 2) + (x % 2 ||| y % 2) := by rw [← a1, ← b1]; exact (Nat.div_add_mod _ 2).symm
      have d2 : x ^^^ y = 2 * (x / 2 ^^^ y / 2) + (x % 2 ^^^ y % 2) := by rw [← a2, ← b2]; exact (Nat.div_add_mod _ 2).symm
      have d3 : x &&& y = 2 * (x / 2 &&& y / 2) + (x % 2 &&& y % 2) := by rw [← a3, ← b3]; exact (Nat.div_add_mod _ 2).symm
      rw [d1, d2, d3, h2, c, Nat.mul_add]
      exact Nat.add_add_add_comm _ _ _ _
theorem bxorN (x y : Nat) : Builtin.bitXor (x : Int) (y : Int) = ((x ^^^ y : Nat) : Int) := by
  unfold Builtin.bitXor
  rw [borN, bandN, orXA x x y (Nat.le_refl _)]
  omega
theorem p_orN (w : World) (x y : Nat) (tx ty : CbTok) : PC 1 8 w 42 True [.int (x : Int) tx, .int (y : Int) ty] (fun t => .int ((x ||| y : Nat) : Int) t) := by
  rw [← borN]; exact p_or w _ _ tx ty
theorem p_andN (w : World) (x y : Nat) (tx ty : CbTok) : PC 1 8 w 28 True [.int (x : Int) tx, .int (y : Int) ty] (fun t => .int ((x &&& y : Nat) : Int) t) := by
  rw [← bandN]; exact p_and w _ _ tx ty
theorem p_xorN (w : World) (x y : Nat) (tx ty : CbTok) : PC 1 8 w 56 True [.int (x : Int) tx, .int (y : Int) ty] (fun t => .int ((x ^^^ y : Nat) : Int) t) := by
  rw [← bxorN]; exact p_xor w _ _ tx ty
theorem p_shlN (w : World) (x y : Nat) (tx ty : CbTok) : PC 1 8 w 35 (y ≤ 64 ∧ x ≤ 256) [.int (x : Int) tx, .int (y : Int) ty] (fun t => .int ((x <<< y : Nat) : Int) t) := by
  have e : ((x <<< y : Nat) : Int) = (x : Int) * 2 ^ (y : Int).toNat := by
    rw [Nat.shiftLeft_eq, Int.toNat_natCast]; push_cast; rfl
  rw [e]
  intro dp un gd cn cs a ccd cl outer A₀ base h₀ L m mean mg mb s Q E B F X T hk pre
  exact p_shl w _ _ tx ty dp un gd cn cs a ccd cl outer A₀ base h₀ L m mean mg mb s Q E B F X T hk ⟨by omega, by omega, by omega, by omega⟩
theorem p_shrN (w : World) (x y : Nat) (tx ty : CbTok) : PC 1 8 w 49 True [.int (x : Int) tx, .int (y : Int) ty] (fun t => .int ((x >>> y : Nat) : Int) t) := by
  have e : ((x >>> y : Nat) : Int) = (x : Int).fdiv (2 ^ (y : Int).toNat) := by
    rw [Nat.shiftRight_eq_div_pow, Int.toNat_natCast, Int.fdiv_eq_ediv_of_nonneg _ (by exact Int.le_of_lt (Int.pow_pos (by decide)))]
    push_cast; rfl
  rw [e]
  intro dp un gd cn cs a ccd cl outer A₀ base h₀ L m mean mg mb s Q E B F X T hk pre
  exact p_shr w _ _ tx ty dp un gd cn cs a ccd cl outer A₀ base h₀ L m mean mg mb s Q E B F X T hk (by omega)
noncomputable def cI (l : List Nat) : List Int := l.map fun x : Nat => (x : Int)
theorem cI_len (l : List Nat) : (cI l).length = l.length := List.length_map ..
theorem cI_set (l : List Nat) (i v : Nat) : (cI l).set i (v : Int) = cI (l.set i v) := by
  unfold cI; rw [List.map_set]
theorem cI_get (l : List Nat) (i : Nat) : (cI l).getD i 0 = ((l.getD i 0 : Nat) : Int) := by
  unfold cI
  rw [List.getD_eq_getElem?_getD, List.getD_eq_getElem?_getD, List.getElem?_map]
  cases l[i]? <;> rfl
end Mine
end
section
open PySem PySem.W PyProof.Rows PySem.Spec PySem.Calls PyProof.V PySem.Builtin.Str
namespace Mine
theorem st_y7 (w : World) (h₀ : Heap) (L fa dw da : Addr) (cd : Value) (mm : Str → Option Value) (nl : List (Addr × Obj)) (Wd Ht p i j r k m t : Nat) (u v x : Str) (t1 t3 tp tu ti tj tr tv tk tm tt tw : Tok) (mean : ExcName → Option Value) (mg mb : Str → Option Value) (s : Shared) (Q : Flow → Shared → Prop) (rest : List Stmt)
    (F : Fr h₀ L s.heap mm) (X : (KK w.params).In h₀) (T : Top vw Mine.lw mean mg mb h₀) (B : Below callerA h₀ [] h₀)
    (N : News h₀ L s.heap nl) (b d : Bool) (hE : EM x v = d) (hP : emPre x v)
    (hm : Has mm ((Str.ofString "want", .str x tw) :: (Str.ofString "due", .bool d) :: VL3 b Wd Ht dw da p i j r k m t u v t1 t3 tp tu ti tj tr tv tk tm tt))
    (hrest : ∀ (m' : Str → Option Value) (h : Heap) (tk' : Nat), Fr h₀ L h m' → Has m' (VL3 b Wd Ht dw da p i j r k m t u v t1 t3 tp tu ti tj tr tv tk tm tt) → News h₀ L h nl →
      wpAny (model pw w) (LAr L fa cd) (execs rest (LE L fa cd)) Q NoE { s with heap := h, toks := tk' })
    : wpAny (model pw w) (LAr L fa cd) (execs (y7 :: rest) (LE L fa cd)) Q NoE s := by
  have F0 := Fr.list F _ hm
  dsimp only [VL1, VL2, VL3] at F0
  clear F hm
  iterate 10 (first | walk1 | (dsimp only; walk1))
  refine args_nil ⟨X.keeps F0.keep, ?_⟩
  refine p_em w _ _ _ _ _ _ _ _ _ _ _ _ _ _ _ _ _ _ _ _ _ _ _ _ B F0 X (by assumption) rfl hP (by ktr_room) (by ktr_room) fun t' h' tk' hk' => ?_
  have F2 := F0.kept (h' := h') hk'
  have N2 := News.kp N hk'
  clear F0 N
  dsimp only
  rw [hE]
  iterate 3 (first | walk1 | (dsimp only; walk1))
  rw [if_neg (by simp)]
  walk1
  exact hrest _ _ _ F2 (by repeat' (first | exact Has.nil | refine Has.cons rfl ?_)) N2
theorem ldBelow {prog : Program} {w : World} {A : Around} {E : Value → Shared → Prop} {s : Shared} {h₀ : Heap} {L fa : Addr} {cd : Value} {o5 : Obj} {nl : List (Addr × Obj)} {v : Value} {pos : Pos} {Q : Value → Shared → Prop} (N : News h₀ L s.heap nl) (hm : (L + 1 + 1 + 1 + 1 + 1, o5) ∈ nl) (hd : o5.data = .cell (some v)) (hQ : Q v s) : wpAny (model prog w) A (eval (.Name (Str.ofString "below") pos) (LE L fa cd)) Q E s :=
  wpAny_Name (wpAny_loadName_cell (c := L + 1 + 1 + 1 + 1 + 1) rfl rfl rfl ⟨o5, (N _ hm).1, hd⟩ hQ) (by decide)
theorem set_list2 {prog : Program} {w : World} {A : Around} {E : Value → Shared → Prop} {s : Shared} {h₀ : Heap} {L d : Addr} {m : Str → Option Value} {vs : List Value} {nn : Nat} {p : Addr × Obj} {rest : List (Addr × Obj)} {k : Int} {t : Tok} {v : Value} {Q : Unit → Shared → Prop}
    (F : Fr h₀ L s.heap m) (N : News h₀ L s.heap (p :: (d, W.listOf vs.toArray nn) :: rest)) (hda : ∀ q ∈ (d, W.listOf vs.toArray nn) :: rest, q.1 ≠ p.1) (hne : ∀ q ∈ rest, q.1 ≠ d) (h0 : 0 ≤ k) (hfit : k < 2 ^ 63) (hn : k < vs.length)
    (hQ : ∀ h', Fr h₀ L h' m → News h₀ L h' (p :: (d, W.listOf (vs.set k.toNat v).toArray nn) :: rest) → Q () { s with heap := h' }) : wpAny (model prog w) A (setItem (.ref d) (.int k t) v) Q E s := by
  have N' : News h₀ L s.heap ((d, W.listOf vs.toArray nn) :: p :: rest) := by
    intro q hq
    rcases List.mem_cons.mp hq with rfl | hq
    · exact N _ (List.mem_cons_of_mem _ (List.mem_cons_self ..))
    · rcases List.mem_cons.mp hq with rfl | hq
      · exact N _ (List.mem_cons_self ..)
      · exact N _ (List.mem_cons_of_mem _ (List.mem_cons_of_mem _ hq))
  refine set_list F N' (fun q hq => ?_) h0 hfit hn fun h' F' N2 => hQ h' F' ?_
  · rcases List.mem_cons.mp hq with rfl | hq
    · exact fun e => hda _ (List.mem_cons_self ..) e.symm
    · exact hne q hq
  · intro q hq
    rcases List.mem_cons.mp hq with rfl | hq
    · exact N2 _ (List.mem_cons_of_mem _ (List.mem_cons_self ..))
    · rcases List.mem_cons.mp hq with rfl | hq
      · exact N2 _ (List.mem_cons_self ..)
      · exact N2 _ (List.mem_cons_of_mem _ (List.mem_cons_of_mem _ hq))
theorem st_y8 (w : World) (h₀ : Heap) (L fa dw da db : Addr) (cd : Value) (mm : Str → Option Value) (o5 : Obj) (nl : List (Addr × Obj)) (avs bvs : List Value) (as bs : List Nat) (Wd Ht p i j r k m t : Nat) (u v : Str) (t1 t3 tp tu ti tj tr tv tk tm tt : Tok) (mean : ExcName → Option Value) (mg mb : Str → Option Value) (s : Shared) (Q : Flow → Shared → Prop) (rest : List Stmt)
    (F : Fr h₀ L s.heap mm) (X : (KK w.params).In h₀) (T : Top vw Mine.lw mean mg mb h₀) (B : Below callerA h₀ [] h₀)
    (N : News h₀ L s.heap ((da, W.listOf avs.toArray 0) :: (db, W.listOf bvs.toArray 0) :: nl)) (hda : ∀ q ∈ (db, W.listOf bvs.toArray 0) :: nl, q.1 ≠ da) (hdb : ∀ q ∈ nl, q.1 ≠ db) (m5 : (L + 1 + 1 + 1 + 1 + 1, o5) ∈ nl) (d5 : o5.data = .cell (some (.ref db)))
    (ia : IntsAre avs (cI as)) (ib : IntsAre bvs (cI bs)) (b : Bool) (hp : p < 8) (hr : r < 8) (hpl : p < as.length) (hrl : r < bs.length)
    (hm : Has mm (VL3 b Wd Ht dw da p i j r k m t u v t1 t3 tp tu ti tj tr tv tk tm tt))
    (hrest : ∀ (avs' bvs' : List Value) (m' : Str → Option Value) (h : Heap) (tk' : Nat), Fr h₀ L h m' → Has m' (VL3 b Wd Ht dw da p i j r k m t u v t1 t3 tp tu ti tj tr tv tk tm tt) → News h₀ L h ((da, W.listOf avs'.toArray 0) :: (db, W.listOf bvs'.toArray 0) :: nl) →
      IntsAre avs' (cI (if b && p != r then as.set p (as.getD p 0 ||| 1 <<< r) else as)) → IntsAre bvs' (cI (if b && p != r then bs.set r (bs.getD r 0 ||| 1 <<< p) else bs)) →
      wpAny (model pw w) (LAr L fa cd) (execs rest (LE L fa cd)) Q NoE { s with heap := h, toks := tk' })
    : wpAny (model pw w) (LAr L fa cd) (execs (y8 :: rest) (LE L fa cd)) Q NoE s := by
  have F0 := Fr.list F _ hm
  dsimp only [VL1, VL2, VL3] at F0
  clear F hm
  cases b with
  | false =>
    iterate 7 (first | walk1 | (dsimp only; walk1))
    rw [if_neg (by decide)]
    walk1
    exact hrest avs bvs _ _ _ F0 (by repeat' (first | exact Has.nil | refine Has.cons rfl ?_)) N (by simpa using ia) (by simpa using ib)
  | true =>
    iterate 12 (first | walk1 | (dsimp only; walk1))
    by_cases hpr : p = r
    · rw [show ((p : Int) != (r : Int)) = false from by subst hpr; simp]
      iterate 2 (first | walk1 | (dsimp only; walk1))
      rw [if_neg (by decide)]
      walk1
      exact hrest avs bvs _ _ _ F0 (by repeat' (first | exact Has.nil | refine Has.cons rfl ?_)) N (by simpa [hpr] using ia) (by simpa [hpr] using ib)
    · rw [show ((p : Int) != (r : Int)) = true from by rw [bne, pr_eq]; simp [hpr]]
      iterate 11 (first | walk1 | (dsimp only; walk1))
      refine ldBelow N (List.mem_cons_of_mem _ (List.mem_cons_of_mem _ m5)) d5 ?_
      walk1
      have hrl' : (r : Int) < ((cI bs).length : Int) := by rw [cI_len]; omega
      refine item_list_ints ⟨_, (N (db, W.listOf bvs.toArray 0) (by repeat (first | exact List.mem_cons_self .. | refine List.mem_cons_of_mem _ ?_))).1, rfl, _, rfl⟩ ib (by omega) (by omega) (by omega) (fun td => ?_)
      rw [Int.toNat_natCast, cI_get]
      iterate 8 (first | walk1 | (dsimp only; walk1))
      refine args_nil ⟨X.keeps F0.keep, ?_⟩
      refine p_shlN w 1 p _ _ _ _ _ _ _ _ _ _ _ _ _ _ _ _ _ _ _ _ _ _ B F0 X (by assumption) rfl ⟨by omega, by omega⟩ (by ktr_room) (by ktr_room) fun t1' h1 tk1 hk1 => ?_
      have F1 := F0.kept (h' := h1) hk1
      have N1 := News.kp N hk1
      refine args_nil ⟨X.keeps F1.keep, ?_⟩
      refine p_orN w (bs.getD r 0) (1 <<< p) _ _ _ _ _ _ _ _ _ _ _ _ _ _ _ _ _ _ _ _ _ _ B F1 X (by assumption) rfl trivial (by ktr_room) (by ktr_room) fun t2' h2 tk2 hk2 => ?_
      have F2 := F1.kept (h' := h2) hk2
      have N2 := News.kp N1 hk2
      clear F0 F1 N N1
      refine ldBelow N2 (List.mem_cons_of_mem _ (List.mem_cons_of_mem _ m5)) d5 ?_
      walk1
      dsimp only
      refine set_list2 F2 N2 hda hdb (by omega) (by omega) (by rw [ib.length, cI_len]; omega) fun h3 F3 N3 => ?_
      have ib' := Mine.IntsAre.setX r ((bs.getD r 0 ||| 1 <<< p : Nat) : Int) t2' ib
      rw [cI_set] at ib'
      rw [Int.toNat_natCast] at N3
      generalize bvs.set r (Value.int ((bs.getD r 0 ||| 1 <<< p : Nat) : Int) t2') = bvs' at N3 ib'
      clear F2 N2
      iterate 9 (first | walk1 | (dsimp only; walk1))
      have hpl' : (p : Int) < ((cI as).length : Int) := by rw [cI_len]; omega
      refine item_list_ints ⟨_, (N3 (da, W.listOf avs.toArray 0) (by repeat (first | exact List.mem_cons_self .. | refine List.mem_cons_of_mem _ ?_))).1, rfl, _, rfl⟩ ia (by omega) (by omega) (by omega) (fun td2 => ?_)
      rw [Int.toNat_natCast, cI_get]
      iterate 8 (first | walk1 | (dsimp only; walk1))
      refine args_nil ⟨X.keeps F3.keep, ?_⟩
      refine p_shlN w 1 r _ _ _ _ _ _ _ _ _ _ _ _ _ _ _ _ _ _ _ _ _ _ B F3 X (by assumption) rfl ⟨by omega, by omega⟩ (by ktr_room) (by ktr_room) fun t4' h4 tk4 hk4 => ?_
      have F4 := F3.kept (h' := h4) hk4
      have N4 := News.kp N3 hk4
      refine args_nil ⟨X.keeps F4.keep, ?_⟩
      refine p_orN w (as.getD p 0) (1 <<< r) _ _ _ _ _ _ _ _ _ _ _ _ _ _ _ _ _ _ _ _ _ _ B F4 X (by assumption) rfl trivial (by ktr_room) (by ktr_room) fun t5' h5 tk5 hk5 => ?_
      have F5 := F4.kept (h' := h5) hk5
      have N5 := News.kp N4 hk5
      clear F3 F4 N3 N4
      iterate 2 (first | walk1 | (dsimp only; walk1))
      dsimp only
      refine set_list F5 N5 (fun q hq => by
        rcases List.mem_cons.mp hq with rfl | hq
        · exact hda (db, W.listOf bvs.toArray 0) (List.mem_cons_self ..)
        · exact hda _ (List.mem_cons_of_mem _ hq)) (by omega) (by omega) (by rw [ia.length, cI_len]; omega) fun h6 F6 N6 => ?_
      have ia' := Mine.IntsAre.setX p ((as.getD p 0 ||| 1 <<< r : Nat) : Int) t5' ia
      rw [cI_set] at ia'
      rw [Int.toNat_natCast] at N6
      generalize avs.set p (Value.int ((as.getD p 0 ||| 1 <<< r : Nat) : Int) t5') = avs' at N6 ia'
      clear F5 N5
      walk1
      exact hrest avs' bvs' _ _ _ F6 (by repeat' (first | exact Has.nil | refine Has.cons rfl ?_)) N6 (by simpa [hpr] using ia') (by simpa [hpr] using ib')
end Mine
end
section
open PySem PySem.W PyProof.Rows PySem.Spec PySem.Calls PyProof.V PySem.Builtin.Str
namespace Mine
noncomputable def preB (x y : Str) : Bool := decide (x.length ≤ 40) && decide (y.length ≤ 16) && ((occurrences x (Str.ofString "...") 0 x.length 1).isEmpty || (decide (2 ≤ (Txt.split x (Str.ofString "...")).length) && decide ((Txt.split x (Str.ofString "...")).length ≤ 100)))
theorem preB_of {x y : Str} (h : preB x y = true) : emPre x y := by
  unfold preB at h
  simp only [Bool.and_eq_true, Bool.or_eq_true, decide_eq_true_eq] at h
  exact ⟨h.1.1, h.1.2, h.2⟩
noncomputable def chkA (H n : Nat) (pr : Str) : Bool := (List.range n).all fun p => (List.range n).all fun r => (List.range 3).all fun t =>
  preB (wantA t (meantV pr H (p : Nat)) (p / H)) (meantV pr H (r : Nat)) && (EM (wantA t (meantV pr H (p : Nat)) (p / H)) (meantV pr H (r : Nat)) == decide (p / H ≤ r / H ∧ p % H ≤ r % H))
noncomputable def chkB (H n : Nat) (pr : Str) : Bool := (List.range n).all fun p => (List.range n).all fun r => (List.range 3).all fun t =>
  preB (wantB t (meantV pr H (p : Nat)) (p / H)) (meantV pr H (r : Nat)) && (EM (wantB t (meantV pr H (p : Nat)) (p / H)) (meantV pr H (r : Nat)) == dueB t (p / H) (p % H) (r / H) (r % H) p r (decide (p / H ≤ r / H ∧ p % H ≤ r % H)))
noncomputable def chkL (H n : Nat) (pr : Str) : Bool := (List.range n).all fun p => decide ((meantV pr H (p : Nat)).length ≤ 8)
noncomputable def chkE (H n : Nat) (pr : Str) : Bool := chkA H n pr && chkB H n pr && chkL H n pr
theorem ce1 : chkE 2 6 (Str.ofString "fi") = true := by decide +kernel
theorem ce2 : chkE 2 6 (Str.ofString "fl") = true := by decide +kernel
theorem ce3 : chkE 2 6 (Str.ofString "st") = true := by decide +kernel
theorem ce4 : chkE 2 6 (Str.ofString "km") = true := by decide +kernel
theorem ce5 : chkE 3 6 (Str.ofString "fi") = true := by decide +kernel
theorem ce6 : chkE 3 6 (Str.ofString "fl") = true := by decide +kernel
theorem ce7 : chkE 3 6 (Str.ofString "st") = true := by decide +kernel
theorem ce8 : chkE 3 6 (Str.ofString "km") = true := by decide +kernel
theorem cf1 : chkE 2 8 (Str.ofString "fi") = true := by decide +kernel
theorem cf2 : chkE 2 8 (Str.ofString "fl") = true := by decide +kernel
theorem cf3 : chkE 2 8 (Str.ofString "st") = true := by decide +kernel
theorem cf4 : chkE 2 8 (Str.ofString "km") = true := by decide +kernel
theorem cf5 : chkE 4 8 (Str.ofString "fi") = true := by decide +kernel
theorem cf6 : chkE 4 8 (Str.ofString "fl") = true := by decide +kernel
theorem cf7 : chkE 4 8 (Str.ofString "st") = true := by decide +kernel
theorem cf8 : chkE 4 8 (Str.ofString "km") = true := by decide +kernel
theorem chkE_at {Wd Ht : Nat} {pr : Str} (hd : dims Wd Ht) (hp : isPair pr) : chkA Ht (Wd * Ht) pr = true ∧ chkB Ht (Wd * Ht) pr = true ∧ chkL Ht (Wd * Ht) pr = true := by
  have h : chkE Ht (Wd * Ht) pr = true := by
    rcases hd with ⟨rfl, rfl⟩ | ⟨rfl, rfl⟩ | ⟨rfl, rfl⟩ | ⟨rfl, rfl⟩ <;> rcases hp with rfl | rfl | rfl | rfl
    · exact ce1
    · exact ce2
    · exact ce3
    · exact ce4
    · exact ce5
    · exact ce6
    · exact ce7
    · exact ce8
    · exact cf1
    · exact cf2
    · exact cf3
    · exact cf4
    · exact cf5
    · exact cf6
    · exact cf7
    · exact cf8
  unfold chkE at h
  simp only [Bool.and_eq_true] at h
  exact ⟨h.1.1, h.1.2, h.2⟩
theorem wantA_mod (t : Nat) (u : Str) (i : Nat) : wantA t u i = wantA (t % 3) u i := by unfold wantA; rw [Nat.mod_mod]
theorem wantB_mod (t : Nat) (u : Str) (i : Nat) : wantB t u i = wantB (t % 3) u i := by unfold wantB; rw [Nat.mod_mod]
theorem dueB_mod (t i j k m p r : Nat) (b : Bool) : dueB t i j k m p r b = dueB (t % 3) i j k m p r b := by unfold dueB; rw [Nat.mod_mod]
theorem pl_emA {Wd Ht p r : Nat} {pr : Str} (t : Nat) (hd : dims Wd Ht) (hp : isPair pr) (h1 : p < Wd * Ht) (h2 : r < Wd * Ht) :
    emPre (wantA t (meantV pr Ht (p : Nat)) (p / Ht)) (meantV pr Ht (r : Nat)) ∧ EM (wantA t (meantV pr Ht (p : Nat)) (p / Ht)) (meantV pr Ht (r : Nat)) = decide (p / Ht ≤ r / Ht ∧ p % Ht ≤ r % Ht) := by
  have h := (chkE_at hd hp).1
  unfold chkA at h
  have h := List.all_eq_true.mp h p (List.mem_range.mpr h1)
  have h := List.all_eq_true.mp h r (List.mem_range.mpr h2)
  have h := List.all_eq_true.mp h (t % 3) (List.mem_range.mpr (Nat.mod_lt _ (by decide)))
  rw [← wantA_mod] at h
  have h := Bool.and_eq_true_iff.mp h
  exact ⟨preB_of h.1, beq_iff_eq.mp h.2⟩
theorem pl_emB {Wd Ht p r : Nat} {pr : Str} (t : Nat) (hd : dims Wd Ht) (hp : isPair pr) (h1 : p < Wd * Ht) (h2 : r < Wd * Ht) :
    emPre (wantB t (meantV pr Ht (p : Nat)) (p / Ht)) (meantV pr Ht (r : Nat)) ∧ EM (wantB t (meantV pr Ht (p : Nat)) (p / Ht)) (meantV pr Ht (r : Nat)) = dueB t (p / Ht) (p % Ht) (r / Ht) (r % Ht) p r (decide (p / Ht ≤ r / Ht ∧ p % Ht ≤ r % Ht)) := by
  have h := (chkE_at hd hp).2.1
  unfold chkB at h
  have h := List.all_eq_true.mp h p (List.mem_range.mpr h1)
  have h := List.all_eq_true.mp h r (List.mem_range.mpr h2)
  have h := List.all_eq_true.mp h (t % 3) (List.mem_range.mpr (Nat.mod_lt _ (by decide)))
  rw [← wantB_mod, ← dueB_mod] at h
  have h := Bool.and_eq_true_iff.mp h
  exact ⟨preB_of h.1, beq_iff_eq.mp h.2⟩
theorem pl_len {Wd Ht p : Nat} {pr : Str} (hd : dims Wd Ht) (hp : isPair pr) (h1 : p < Wd * Ht) : (meantV pr Ht (p : Nat)).length ≤ 8 := by
  have h := (chkE_at hd hp).2.2
  unfold chkL at h
  exact of_decide_eq_true (List.all_eq_true.mp h p (List.mem_range.mpr h1))
end Mine
end
section
namespace Mine
noncomputable def leq (H p r : Nat) : Bool := p / H ≤ r / H && p % H ≤ r % H
noncomputable def stepB (H p : Nat) (B : List Nat) (r : Nat) : List Nat := if leq H p r && p != r then B.set r (B.getD r 0 ||| 1 <<< p) else B
noncomputable def stepA (H p : Nat) (A : List Nat) (r : Nat) : List Nat := if leq H p r && p != r then A.set p (A.getD p 0 ||| 1 <<< r) else A
noncomputable def rowB (H n p : Nat) (B : List Nat) : List Nat := (List.range n).foldl (stepB H p) B
noncomputable def rowA (H n p : Nat) (A : List Nat) : List Nat := (List.range n).foldl (stepA H p) A
noncomputable def tabB (H n : Nat) : List Nat := (List.range n).foldl (fun B p => rowB H n p B) (List.replicate n 0)
noncomputable def tabA (H n : Nat) : List Nat := (List.range n).foldl (fun A p => rowA H n p A) (List.replicate n 0)
noncomputable def freeL (B : List Nat) (left : List Nat) (laid : Nat) : List Nat := left.filter fun p => B.getD p 0 &&& laid == B.getD p 0
noncomputable def popStep (B A : List Nat) (s : Nat × Nat) (p : Nat) : Nat × Nat :=
  if (if s.1 &&& 1 <<< p == 0 then s.1 &&& B.getD p 0 == B.getD p 0 else s.1 &&& A.getD p 0 == 0) then (s.1 ^^^ 1 <<< p, s.2 ||| 1 <<< p) else s
noncomputable def dueStep (B : List Nat) (h : Nat) (d p : Nat) : Nat := if h &&& 1 <<< p == 0 && h &&& B.getD p 0 == B.getD p 0 then d ||| (B.getD p 0 ||| 1 <<< p) else d
noncomputable def rho (n : Nat) (B : List Nat) (h : Nat) : Nat := (List.range n).foldl (dueStep B h) 0
noncomputable def isIdeal (n : Nat) (B : List Nat) (h : Nat) : Bool := (List.range n).all fun p => h &&& 1 <<< p == 0 || h &&& B.getD p 0 == B.getD p 0
noncomputable def okOrd (n : Nat) (B A ord : List Nat) : Bool := (List.range (2 ^ n)).all fun h => !isIdeal n B h || (ord.reverse.foldl (popStep B A) (h, 0) == (rho n B h, h ^^^ rho n B h))
noncomputable def ext (n : Nat) (B A : List Nat) : Nat → List Nat → Nat → List Nat → Bool
  | 0, left, _, ord => left.isEmpty && okOrd n B A ord
  | k + 1, left, laid, ord => if left.isEmpty then okOrd n B A ord else !(freeL B left laid).isEmpty && (freeL B left laid).all fun p => ext n B A k (left.erase p) (laid ^^^ 1 <<< p) (ord ++ [p])
noncomputable def held0 (H n : Nat) (hs : List Nat) : Nat := (List.range n).foldl (fun h p => if p % H < hs.getD (p / H) 0 then h ^^^ 1 <<< p else h) 0
structure HS where
  h : Nat
  e : Nat
  l : Nat
  t : Nat
noncomputable def hourStep (n : Nat) (B : List Nat) (s : HS) (k : Nat) : HS :=
  ⟨rho n B s.h, s.e ||| s.h <<< (n * k), s.l ||| rho n B s.h <<< (n * k), s.t ||| (s.h ^^^ rho n B s.h) <<< (n * k)⟩
noncomputable def hours (n : Nat) (B : List Nat) (h : Nat) (k : Nat) : HS := (List.range k).foldl (hourStep n B) ⟨h, 0, 0, 0⟩
noncomputable def finOk (W H n : Nat) (h : Nat) (s : HS) : Bool :=
  s.e ^^^ s.l == s.t && s.l ^^^ s.t == s.e && s.t ^^^ s.e == s.l &&
  ((List.range n).all fun p => ((s.e >>> (n * (W + H - 1 - p / H - p % H))) >>> (n - 1 - p)) &&& 1 != (h >>> p) &&& 1) && s.l >>> (n * (W + H - 1)) == h
noncomputable def insD (a : Nat) : List Nat → List Nat
  | [] => [a]
  | b :: r => if a ≤ b then b :: insD a r else a :: b :: r
noncomputable def sortD (l : List Nat) : List Nat := l.foldr insD []
noncomputable def allG (H : Nat) : Nat → List (List Nat)
  | 0 => [[]]
  | k + 1 => (List.range (H + 1)).flatMap fun a => (allG H k).map (a :: ·)
noncomputable def simOk (W H n : Nat) : Bool := (allG H W).all fun g => isIdeal n (tabB H n) (held0 H n (sortD g)) && finOk W H n (held0 H n (sortD g)) (hours n (tabB H n) (held0 H n (sortD g)) (W + H))
noncomputable def rhoOk (H n : Nat) : Bool := (List.range (2 ^ n)).all fun h => !isIdeal n (tabB H n) h || isIdeal n (tabB H n) (rho n (tabB H n) h)
theorem tabB32 : tabB 2 6 = [0, 1, 1, 7, 5, 31] := by decide +kernel
theorem sim32 : simOk 3 2 6 = true := by decide +kernel
theorem rho32 : rhoOk 2 6 = true := by decide +kernel
theorem ext32 : ext 6 (tabB 2 6) (tabA 2 6) 6 (List.range 6) 0 [] = true := by decide +kernel
theorem sim42 : simOk 4 2 8 = true := by decide +kernel
theorem rho42 : rhoOk 2 8 = true := by decide +kernel
end Mine
end
section
namespace Mine
theorem ext42 : ext 8 (tabB 2 8) (tabA 2 8) 8 (List.range 8) 0 [] = true := by decide +kernel
theorem sim23 : simOk 2 3 6 = true := by decide +kernel
theorem rho23 : rhoOk 3 6 = true := by decide +kernel
theorem ext23 : ext 6 (tabB 3 6) (tabA 3 6) 6 (List.range 6) 0 [] = true := by decide +kernel
theorem sim24 : simOk 2 4 8 = true := by decide +kernel
theorem rho24 : rhoOk 4 8 = true := by decide +kernel
theorem ext24 : ext 8 (tabB 4 8) (tabA 4 8) 8 (List.range 8) 0 [] = true := by decide +kernel
end Mine
end
section
namespace Mine
noncomputable def ltOk (H n : Nat) : Bool := (List.range (2 ^ n)).all fun h => rho n (tabB H n) h < 2 ^ n
noncomputable def simLt (W H n : Nat) : Bool := (allG H W).all fun g => held0 H n (sortD g) < 2 ^ n
theorem lt32 : ltOk 2 6 = true := by decide +kernel
theorem lt23 : ltOk 3 6 = true := by decide +kernel
theorem lt42 : ltOk 2 8 = true := by decide +kernel
theorem lt24 : ltOk 4 8 = true := by decide +kernel
theorem sl32 : simLt 3 2 6 = true := by decide +kernel
theorem sl23 : simLt 2 3 6 = true := by decide +kernel
theorem sl42 : simLt 4 2 8 = true := by decide +kernel
theorem sl24 : simLt 2 4 8 = true := by decide +kernel
noncomputable def dimsP (W H : Nat) : Prop := (W = 3 ∧ H = 2) ∨ (W = 2 ∧ H = 3) ∨ (W = 4 ∧ H = 2) ∨ (W = 2 ∧ H = 4)
theorem d_ext {W H : Nat} (h : dimsP W H) : ext (W * H) (tabB H (W * H)) (tabA H (W * H)) (W * H) (List.range (W * H)) 0 [] = true := by
  rcases h with ⟨rfl, rfl⟩ | ⟨rfl, rfl⟩ | ⟨rfl, rfl⟩ | ⟨rfl, rfl⟩
  · exact ext32
  · exact ext23
  · exact ext42
  · exact ext24
theorem d_sim {W H : Nat} (h : dimsP W H) : simOk W H (W * H) = true := by
  rcases h with ⟨rfl, rfl⟩ | ⟨rfl, rfl⟩ | ⟨rfl, rfl⟩ | ⟨rfl, rfl⟩
  · exact sim32
  · exact sim23
  · exact sim42
  · exact sim24
theorem d_rho {W H : Nat} (h : dimsP W H) : rhoOk H (W * H) = true := by
  rcases h with ⟨rfl, rfl⟩ | ⟨rfl, rfl⟩ | ⟨rfl, rfl⟩ | ⟨rfl, rfl⟩
  · exact rho32
  · exact rho23
  · exact rho42
  · exact rho24
theorem d_lt {W H : Nat} (h : dimsP W H) : ltOk H (W * H) = true := by
  rcases h with ⟨rfl, rfl⟩ | ⟨rfl, rfl⟩ | ⟨rfl, rfl⟩ | ⟨rfl, rfl⟩
  · exact lt32
  · exact lt23
  · exact lt42
  · exact lt24
theorem d_sl {W H : Nat} (h : dimsP W H) : simLt W H (W * H) = true := by
  rcases h with ⟨rfl, rfl⟩ | ⟨rfl, rfl⟩ | ⟨rfl, rfl⟩ | ⟨rfl, rfl⟩
  · exact sl32
  · exact sl23
  · exact sl42
  · exact sl24
theorem ext_step {n k laid : Nat} {B A left ord : List Nat} (h : ext n B A (k + 1) left laid ord = true) (hl : left ≠ []) :
    freeL B left laid ≠ [] ∧ ∀ p ∈ freeL B left laid, ext n B A k (left.erase p) (laid ^^^ 1 <<< p) (ord ++ [p]) = true := by
  unfold ext at h
  have e : left.isEmpty = false := by cases left with
    | nil => exact absurd rfl hl
    | cons a b => rfl
  rw [e] at h
  simp only [Bool.false_eq_true, if_false, Bool.and_eq_true, Bool.not_eq_true', List.all_eq_true] at h
  refine ⟨fun h0 => ?_, h.2⟩
  rw [h0] at h
  simp at h
theorem ext_end {n k laid : Nat} {B A ord : List Nat} (h : ext n B A k [] laid ord = true) : okOrd n B A ord = true := by
  cases k with
  | zero => unfold ext at h; exact (Bool.and_eq_true_iff.mp h).2
  | succ k => unfold ext at h; simpa using h
theorem okOrd_at {n h : Nat} {B A ord : List Nat} (ho : okOrd n B A ord = true) (hl : h < 2 ^ n) (hi : isIdeal n B h = true) : ord.reverse.foldl (popStep B A) (h, 0) = (rho n B h, h ^^^ rho n B h) := by
  unfold okOrd at ho
  have := List.all_eq_true.mp ho h (List.mem_range.mpr hl)
  rw [hi] at this
  simpa using this
theorem rho_at {W H h : Nat} (hd : dimsP W H) (hl : h < 2 ^ (W * H)) (hi : isIdeal (W * H) (tabB H (W * H)) h = true) : rho (W * H) (tabB H (W * H)) h < 2 ^ (W * H) ∧ isIdeal (W * H) (tabB H (W * H)) (rho (W * H) (tabB H (W * H)) h) = true := by
  have a := List.all_eq_true.mp (show (List.range _).all _ = true from d_rho hd) h (List.mem_range.mpr hl)
  have b := List.all_eq_true.mp (show (List.range _).all _ = true from d_lt hd) h (List.mem_range.mpr hl)
  rw [hi] at a
  exact ⟨by simpa using b, by simpa using a⟩
theorem mem_allG {H : Nat} : ∀ {k : Nat} {g : List Nat}, g.length = k → (∀ x ∈ g, x ≤ H) → g ∈ allG H k
  | 0, [], _, _ => List.mem_singleton.mpr rfl
  | k + 1, a :: g, hl, hx => by
    unfold allG
    refine List.mem_flatMap.mpr ⟨a, List.mem_range.mpr (Nat.lt_succ_of_le (hx a (List.mem_cons_self ..))), List.mem_map.mpr ⟨g, mem_allG (by simpa using hl) fun x h => hx x (List.mem_cons_of_mem _ h), rfl⟩⟩
theorem sortD_id : ∀ {l : List Nat}, l.Pairwise (fun a b => b ≤ a) → sortD l = l
  | [], _ => rfl
  | a :: l, h => by
    have h' := List.pairwise_cons.mp h
    have e : sortD (a :: l) = insD a (sortD l) := rfl
    rw [e, sortD_id h'.2]
    cases l with
    | nil => rfl
    | cons b r =>
      have hb := h'.1 b (List.mem_cons_self ..)
      unfold insD
      by_cases hab : a ≤ b
      · have : a = b := Nat.le_antisymm hab hb
        subst this
        rw [if_pos (Nat.le_refl _)]
        have e2 : sortD (a :: r) = insD a (sortD r) := rfl
        have e3 := sortD_id (l := a :: r) h'.2
        have e4 := sortD_id (l := r) (List.pairwise_cons.mp h'.2).2
        rw [e2, e4] at e3
        rw [e3]
      · rw [if_neg hab]
theorem sim_at {W H : Nat} {hs : List Nat} (hd : dimsP W H) (hl : hs.length = W) (hx : ∀ x ∈ hs, x ≤ H) (hp : hs.Pairwise (fun a b => b ≤ a)) :
    isIdeal (W * H) (tabB H (W * H)) (held0 H (W * H) hs) = true ∧ held0 H (W * H) hs < 2 ^ (W * H) ∧ finOk W H (W * H) (held0 H (W * H) hs) (hours (W * H) (tabB H (W * H)) (held0 H (W * H) hs) (W + H)) = true := by
  have a := List.all_eq_true.mp (show (allG H W).all _ = true from d_sim hd) hs (mem_allG hl hx)
  have b := List.all_eq_true.mp (show (allG H W).all _ = true from d_sl hd) hs (mem_allG hl hx)
  rw [sortD_id hp] at a b
  simp only [Bool.and_eq_true] at a
  exact ⟨a.1, by simpa using b, a.2⟩
noncomputable def popStepT (B A : List Nat) (sh : Nat) (s : Nat × Nat) (p : Nat) : Nat × Nat :=
  if (if s.1 &&& 1 <<< p == 0 then s.1 &&& B.getD p 0 == B.getD p 0 else s.1 &&& A.getD p 0 == 0) then (s.1 ^^^ 1 <<< p, s.2 ||| (1 <<< p) <<< sh) else s
theorem popT {B A : List Nat} {sh t0 : Nat} : ∀ (l : List Nat) (h t : Nat), l.foldl (popStepT B A sh) (h, t0 ||| t <<< sh) = ((l.foldl (popStep B A) (h, t)).1, t0 ||| (l.foldl (popStep B A) (h, t)).2 <<< sh)
  | [], _, _ => rfl
  | p :: l, h, t => by
    rw [List.foldl_cons, List.foldl_cons]
    have e : popStepT B A sh (h, t0 ||| t <<< sh) p = ((popStep B A (h, t) p).1, t0 ||| (popStep B A (h, t) p).2 <<< sh) := by
      unfold popStepT popStep
      dsimp only
      generalize (if h &&& 1 <<< p == 0 then h &&& B.getD p 0 == B.getD p 0 else h &&& A.getD p 0 == 0) = c
      cases c with
      | true => simp only [if_true]; rw [Nat.shiftLeft_or_distrib, Nat.or_assoc]
      | false => simp only [Bool.false_eq_true, if_false]
    rw [e]
    exact popT l _ _
theorem pop_hour {n h t0 sh : Nat} {B A ord : List Nat} (ho : okOrd n B A ord = true) (hl : h < 2 ^ n) (hi : isIdeal n B h = true) : ord.reverse.foldl (popStepT B A sh) (h, t0) = (rho n B h, t0 ||| (h ^^^ rho n B h) <<< sh) := by
  have := popT (B := B) (A := A) (sh := sh) (t0 := t0) ord.reverse h 0
  rw [okOrd_at ho hl hi] at this
  simpa using this
theorem hours_succ {n : Nat} {B : List Nat} {h k : Nat} : hours n B h (k + 1) = hourStep n B (hours n B h k) k := by
  unfold hours; rw [List.range_succ, List.foldl_append]; rfl
theorem hours_inv {W H h : Nat} (hd : dimsP W H) (hl : h < 2 ^ (W * H)) (hi : isIdeal (W * H) (tabB H (W * H)) h = true) : ∀ k, (hours (W * H) (tabB H (W * H)) h k).h < 2 ^ (W * H) ∧ isIdeal (W * H) (tabB H (W * H)) (hours (W * H) (tabB H (W * H)) h k).h = true
  | 0 => ⟨hl, hi⟩
  | k + 1 => by
    rw [hours_succ]
    exact rho_at hd (hours_inv hd hl hi k).1 (hours_inv hd hl hi k).2
end Mine
end
section
open PySem PySem.W PyProof.Rows PySem.Spec PySem.Calls PyProof.V PySem.Builtin.Str
namespace Mine
theorem dims_b {Wd Ht p : Nat} (hd : dims Wd Ht) (h : p < Wd * Ht) : p < 8 ∧ p / Ht ≤ 8 ∧ 0 < Ht := by
  rcases hd with ⟨rfl, rfl⟩ | ⟨rfl, rfl⟩ | ⟨rfl, rfl⟩ | ⟨rfl, rfl⟩ <;> omega
theorem in_turn (w : World) (h₀ : Heap) (L fa dl dw da db : Addr) (cd : Value) (mm : Str → Option Value) (o1 o2 o5 : Obj) (nl : List (Addr × Obj)) (dvs avs bvs : List Value) (ds : List Int) (as bs : List Nat) (nn Wd Ht p r : Nat) (pr : Str) (t1 t2 t3 tp tu ti tj tr tv : Tok) (mean : ExcName → Option Value) (mg mb : Str → Option Value) (s : Shared) (Q : Flow → Shared → Prop)
    (F : Fr h₀ L s.heap mm) (X : (KK w.params).In h₀) (T : Top vw Mine.lw mean mg mb h₀) (B : Below callerA h₀ [] h₀)
    (N : News h₀ L s.heap ((da, W.listOf avs.toArray 0) :: (db, W.listOf bvs.toArray 0) :: nl)) (hda : ∀ q ∈ (db, W.listOf bvs.toArray 0) :: nl, q.1 ≠ da) (hdb : ∀ q ∈ nl, q.1 ≠ db)
    (m1 : (L + 1, o1) ∈ nl) (m2 : (L + 1 + 1, o2) ∈ nl) (m5 : (L + 1 + 1 + 1 + 1 + 1, o5) ∈ nl) (ml : (dl, W.listOf dvs.toArray nn) ∈ nl)
    (d1 : o1.data = .cell (some (.ref dl))) (d2 : o2.data = .cell (some (.int (Ht : Int) t2))) (d5 : o5.data = .cell (some (.ref db)))
    (hids : IntsAre dvs ds) (hlen : ds.length = 5) (hb : ∀ d ∈ ds, 0 ≤ d ∧ d ≤ 70000000) (D0 D1 : Nat) (hd0 : ds.getD (0 : Int).toNat 0 = (D0 : Nat)) (hd1 : ds.getD (1 : Int).toNat 0 = (D1 : Nat))
    (ia : IntsAre avs (cI as)) (ib : IntsAre bvs (cI bs)) (hdim : dims Wd Ht) (hpr : isPair pr) (hp : p < Wd * Ht) (hr : r < Wd * Ht) (hal : as.length = Wd * Ht) (hbl : bs.length = Wd * Ht)
    (hm : Has mm (VL1 Wd Ht dw da p (p / Ht) (p % Ht) r (meantV pr Ht (p : Nat)) (meantV pr Ht (r : Nat)) t1 t3 tp tu ti tj tr tv))
    (hrest : ∀ (avs' bvs' : List Value) (m' : Str → Option Value) (h : Heap) (tk' : Nat), Fr h₀ L h m' → Has m' (VL1 Wd Ht dw da p (p / Ht) (p % Ht) r (meantV pr Ht (p : Nat)) (meantV pr Ht (r : Nat)) t1 t3 tp tu ti tj tr tv) → News h₀ L h ((da, W.listOf avs'.toArray 0) :: (db, W.listOf bvs'.toArray 0) :: nl) →
      IntsAre avs' (cI (stepA Ht p as r)) → IntsAre bvs' (cI (stepB Ht p bs r)) → Q .next { s with heap := h, toks := tk' })
    : wpAny (model pw w) (LAr L fa cd) (execs [y0, y1, y2, y3, y4, y5, y6, y7, y8] (LE L fa cd)) Q NoE s := by
  obtain ⟨hp8, hi8, _⟩ := dims_b hdim hp
  obtain ⟨hr8, hk8, _⟩ := dims_b hdim hr
  have hul := pl_len hdim hpr hp
  refine st_y01 w h₀ L fa dl dw da cd mm o1 o2 ((da, W.listOf avs.toArray 0) :: (db, W.listOf bvs.toArray 0) :: nl) dvs ds nn Wd Ht p (p / Ht) (p % Ht) r _ _ t1 t2 t3 tp tu ti tj tr tv mean mg mb s Q _ F X T B N (List.mem_cons_of_mem _ (List.mem_cons_of_mem _ m1)) (List.mem_cons_of_mem _ (List.mem_cons_of_mem _ m2)) (List.mem_cons_of_mem _ (List.mem_cons_of_mem _ ml)) d1 d2 hids hlen hb hm hdim D0 hd0 fun tk tm tt m' h' tk' F1 hm1 N1 => ?_
  refine st_y2 w h₀ L fa dw da cd m' _ Wd Ht p (p / Ht) (p % Ht) r (r / Ht) (r % Ht) (p + r + D0) _ _ t1 t3 tp tu ti tj tr tv tk tm tt mean mg mb _ Q _ F1 X T B N1 hul hi8 hm1 fun tw m2' h2 tk2 F2 hm2 N2 => ?_
  obtain ⟨hpre, hE⟩ := pl_emA (p + r + D0) hdim hpr hp hr
  refine st_y3 w h₀ L fa dl dw da cd m2' _ Wd Ht p (p / Ht) (p % Ht) r (r / Ht) (r % Ht) (p + r + D0) _ _ _ t1 t3 tp tu ti tj tr tv tk tm tt tw mean mg mb _ Q _ F2 X T B N2 _ hE hpre hm2 fun m3' h3 tk3 F3 hm3 N3 => ?_
  refine st_y4 w h₀ L fa dw da cd m3' _ Wd Ht p (p / Ht) (p % Ht) r (r / Ht) (r % Ht) (p + r + D0) _ _ t1 t3 tp tu ti tj tr tv tk tm tt mean mg mb _ Q _ F3 X T B N3 _ rfl hm3 fun m4' h4 tk4 F4 hm4 N4 => ?_
  refine st_y5 w h₀ L fa dl dw da cd m4' o1 _ dvs ds nn Wd Ht p (p / Ht) (p % Ht) r (r / Ht) (r % Ht) (p + r + D0) _ _ t1 t3 tp tu ti tj tr tv tk tm tt mean mg mb _ Q _ F4 X T B N4 (List.mem_cons_of_mem _ (List.mem_cons_of_mem _ m1)) (List.mem_cons_of_mem _ (List.mem_cons_of_mem _ ml)) d1 hids hlen _ D1 hd1 hm4 fun tt' m5' h5 tk5 F5 hm5 N5 => ?_
  have next : ∀ (tw : Tok) (m' : Str → Option Value) (h : Heap) (tk' : Nat), Fr h₀ L h m' → Has m' ((Str.ofString "want", .str (wantB (p + r + D1) (meantV pr Ht (p : Nat)) (p / Ht)) tw) :: (Str.ofString "due", .bool (dueB (p + r + D1) (p / Ht) (p % Ht) (r / Ht) (r % Ht) p r (decide (p / Ht ≤ r / Ht ∧ p % Ht ≤ r % Ht)))) :: VL3 (decide (p / Ht ≤ r / Ht ∧ p % Ht ≤ r % Ht)) Wd Ht dw da p (p / Ht) (p % Ht) r (r / Ht) (r % Ht) (p + r + D1) (meantV pr Ht (p : Nat)) (meantV pr Ht (r : Nat)) t1 t3 tp tu ti tj tr tv tk tm tt') → News h₀ L h ((da, W.listOf avs.toArray 0) :: (db, W.listOf bvs.toArray 0) :: nl) →
      wpAny (model pw w) (LAr L fa cd) (execs [y7, y8] (LE L fa cd)) Q NoE { s with heap := h, toks := tk' } := by
    intro tw6 m6' h6 tk6 F6 hm6 N6
    obtain ⟨hpre2, hE2⟩ := pl_emB (p + r + D1) hdim hpr hp hr
    refine st_y7 w h₀ L fa dw da cd m6' _ Wd Ht p (p / Ht) (p % Ht) r (r / Ht) (r % Ht) (p + r + D1) _ _ _ t1 t3 tp tu ti tj tr tv tk tm tt' tw6 mean mg mb _ Q _ F6 X T B N6 _ _ hE2 hpre2 hm6 fun m7' h7 tk7 F7 hm7 N7 => ?_
    refine st_y8 w h₀ L fa dw da db cd m7' o5 nl avs bvs as bs Wd Ht p (p / Ht) (p % Ht) r (r / Ht) (r % Ht) (p + r + D1) _ _ t1 t3 tp tu ti tj tr tv tk tm tt' mean mg mb _ Q _ F7 X T B N7 hda hdb m5 d5 ia ib _ hp8 hr8 (by omega) (by omega) hm7 fun avs' bvs' m8' h8 tk8 F8 hm8 N8 ia' ib' => ?_
    refine wpAny_execs_nil ?_
    have el : (decide (p / Ht ≤ r / Ht ∧ p % Ht ≤ r % Ht)) = leq Ht p r := by unfold leq; rw [Bool.decide_and]
    rw [el] at ia' ib'
    refine hrest avs' bvs' m8' h8 tk8 F8 ?_ N8 ia' ib'
    exact fun q hq => hm8 q (List.mem_cons_of_mem _ (List.mem_cons_of_mem _ (List.mem_cons_of_mem _ (List.mem_cons_of_mem _ hq))))
  have ht : (p + r + D1) % 3 = 0 ∨ (p + r + D1) % 3 = 1 ∨ (p + r + D1) % 3 = 2 := by omega
  rcases ht with e | e | e
  · exact st_y6a w h₀ L fa dw da cd m5' _ _ Wd Ht p (p / Ht) (p % Ht) r (r / Ht) (r % Ht) (p + r + D1) _ _ t1 t3 tp tu ti tj tr tv tk tm tt' mean mg mb _ Q _ F5 X T B N5 hul hi8 e next hm5
  · exact st_y6b w h₀ L fa dw da cd m5' _ _ Wd Ht p (p / Ht) (p % Ht) r (r / Ht) (r % Ht) (p + r + D1) _ _ t1 t3 tp tu ti tj tr tv tk tm tt' mean mg mb _ Q _ F5 X T B N5 hul hi8 e next hm5
  · exact st_y6c w h₀ L fa dw da cd m5' _ _ Wd Ht p (p / Ht) (p % Ht) r (r / Ht) (r % Ht) (p + r + D1) _ _ t1 t3 tp tu ti tj tr tv tk tm tt' mean mg mb _ Q _ F5 X T B N5 hul hi8 e next hm5
end Mine
end
section
open PySem PySem.W PyProof.Rows PySem.Spec PySem.Calls PyProof.V PySem.Builtin.Str
namespace Mine
theorem Has.hd {m : Str → Option Value} {k : Str} {x : Value} {l : List (Str × Value)} (h : Has m ((k, x) :: l)) : m k = some x := h _ (List.mem_cons_self ..)
theorem Has.tl {m : Str → Option Value} {a : Str × Value} {l : List (Str × Value)} (h : Has m (a :: l)) : Has m l := fun q hq => h q (List.mem_cons_of_mem _ hq)
noncomputable abbrev VL0 (Wd Ht : Nat) (dw da : Addr) (p i j : Nat) (u : Str) (t1 t3 tp tu ti tj : Tok) : List (Str × Value) :=
  [(Str.ofString "wide", .int (Wd : Int) t1), (Str.ofString "size", .int ((Wd * Ht : Nat) : Int) t3), (Str.ofString "words", .ref dw), (Str.ofString "above", .ref da),
   (Str.ofString "p", .int (p : Nat) tp), (Str.ofString "u", .str u tu), (Str.ofString "i", .int (i : Nat) ti), (Str.ofString "j", .int (j : Nat) tj)]
noncomputable def JI (l0 : List (Str × Value)) (da db : Addr) (nl : List (Addr × Obj)) (Ht p : Nat) (as bs : List Nat) (i : Nat) (m₁ : Str → Option Value) (news₁ : List (Addr × Obj)) : Prop :=
  Has m₁ l0 ∧ ∃ avs bvs, IntsAre avs (cI ((List.range i).foldl (stepA Ht p) as)) ∧ IntsAre bvs (cI ((List.range i).foldl (stepB Ht p) bs)) ∧ news₁ = (da, W.listOf avs.toArray 0) :: (db, W.listOf bvs.toArray 0) :: nl
theorem stepA_len (H p : Nat) (A : List Nat) (r : Nat) : (stepA H p A r).length = A.length := by
  unfold stepA; split
  · rw [List.length_set]
  · rfl
theorem stepB_len (H p : Nat) (A : List Nat) (r : Nat) : (stepB H p A r).length = A.length := by
  unfold stepB; split
  · rw [List.length_set]
  · rfl
theorem foldA_len (H p : Nat) : ∀ (l : List Nat) (A : List Nat), (l.foldl (stepA H p) A).length = A.length
  | [], _ => rfl
  | a :: l, A => by rw [List.foldl_cons, foldA_len H p l, stepA_len]
theorem foldB_len (H p : Nat) : ∀ (l : List Nat) (A : List Nat), (l.foldl (stepB H p) A).length = A.length
  | [], _ => rfl
  | a :: l, A => by rw [List.foldl_cons, foldB_len H p l, stepB_len]
theorem st_a1 (w : World) (h₀ : Heap) (L fa dl dw da db : Addr) (cd : Value) (mm : Str → Option Value) (o1 o2 o5 : Obj) (nl : List (Addr × Obj)) (dvs wvs avs bvs : List Value) (ds : List Int) (as bs : List Nat) (nn nw Wd Ht p : Nat) (pr : Str) (t1 t2 t3 tp tu ti tj : Tok) (mean : ExcName → Option Value) (mg mb : Str → Option Value) (s : Shared) (Q : Flow → Shared → Prop) (rest : List Stmt)
    (F : Fr h₀ L s.heap mm) (X : (KK w.params).In h₀) (T : Top vw Mine.lw mean mg mb h₀) (B : Below callerA h₀ [] h₀)
    (N : News h₀ L s.heap ((da, W.listOf avs.toArray 0) :: (db, W.listOf bvs.toArray 0) :: nl)) (hdab : da ≠ db) (hda : ∀ q ∈ nl, q.1 ≠ da) (hdb : ∀ q ∈ nl, q.1 ≠ db)
    (m1 : (L + 1, o1) ∈ nl) (m2 : (L + 1 + 1, o2) ∈ nl) (m5 : (L + 1 + 1 + 1 + 1 + 1, o5) ∈ nl) (ml : (dl, W.listOf dvs.toArray nn) ∈ nl) (mw : (dw, W.listOf wvs.toArray nw) ∈ nl)
    (d1 : o1.data = .cell (some (.ref dl))) (d2 : o2.data = .cell (some (.int (Ht : Int) t2))) (d5 : o5.data = .cell (some (.ref db)))
    (hids : IntsAre dvs ds) (hlen : ds.length = 5) (hb : ∀ d ∈ ds, 0 ≤ d ∧ d ≤ 70000000) (D0 D1 : Nat) (hd0 : ds.getD (0 : Int).toNat 0 = (D0 : Nat)) (hd1 : ds.getD (1 : Int).toNat 0 = (D1 : Nat)) (hws : StrsAre wvs ((List.range (Wd * Ht)).map fun i => meantV pr Ht (i : Nat)))
    (ia : IntsAre avs (cI as)) (ib : IntsAre bvs (cI bs)) (hdim : dims Wd Ht) (hpr : isPair pr) (hp : p < Wd * Ht) (hal : as.length = Wd * Ht) (hbl : bs.length = Wd * Ht)
    (hm : Has mm (VL0 Wd Ht dw da p (p / Ht) (p % Ht) (meantV pr Ht (p : Nat)) t1 t3 tp tu ti tj))
    (hrest : ∀ (avs' bvs' : List Value) (m' : Str → Option Value) (h : Heap) (tk' : Nat), Fr h₀ L h m' → Has m' (VL0 Wd Ht dw da p (p / Ht) (p % Ht) (meantV pr Ht (p : Nat)) t1 t3 tp tu ti tj) → News h₀ L h ((da, W.listOf avs'.toArray 0) :: (db, W.listOf bvs'.toArray 0) :: nl) →
      IntsAre avs' (cI (rowA Ht (Wd * Ht) p as)) → IntsAre bvs' (cI (rowB Ht (Wd * Ht) p bs)) → wpAny (model pw w) (LAr L fa cd) (execs rest (LE L fa cd)) Q NoE { s with heap := h, toks := tk' })
    : wpAny (model pw w) (LAr L fa cd) (execs (a1 :: rest) (LE L fa cd)) Q NoE s := by
  have F0 := Fr.list F _ hm
  dsimp only [VL0] at F0
  have hlw : dw ≠ L := (N _ (List.mem_cons_of_mem _ (List.mem_cons_of_mem _ mw))).2.1
  have hws' : s.heap.IsList dw wvs.toArray := ⟨_, (N _ (List.mem_cons_of_mem _ (List.mem_cons_of_mem _ mw))).1, rfl, _, rfl⟩
  have hdaS : da < s.heap.objs.size := Heap.lt_size (N _ (List.mem_cons_self ..)).1
  have hdbS : db < s.heap.objs.size := Heap.lt_size (N _ (List.mem_cons_of_mem _ (List.mem_cons_self ..))).1
  have hwl : wvs.length = Wd * Ht := by rw [hws.length]; simp
  refine wpAny_execs_cons ?_
  refine For_WU2 (h₀ := h₀) rfl rfl rfl rfl (JI (VL0 Wd Ht dw da p (p / Ht) (p % Ht) (meantV pr Ht (p : Nat)) t1 t3 tp tu ti tj) da db nl Ht p as bs) ?_
  iterate 6 (first | walk1 | (dsimp only; walk1))
  refine src_enum (env := LE L fa cd) (h₀ := h₀) (vs := wvs) rfl (JI (VL0 Wd Ht dw da p (p / Ht) (p % Ht) (meantV pr Ht (p : Nat)) t1 t3 tp tu ti tj) da db nl Ht p as bs) hws' hlw F N ?_ ?_ ?_
  · exact ⟨hm, avs, bvs, ia, ib, rfl⟩
  · rintro r t v m₁ news₁ its h tk wr hv ⟨hm1, avs1, bvs1, ia1, ib1, rfl⟩ hnw hwr hits F3 N3
    obtain ⟨y, tv, rfl, hy⟩ := hws.item r v hv
    have hrl : r < Wd * Ht := by rw [← hwl]; exact (List.getElem?_eq_some_iff.mp hv).1
    have hyv : y = meantV pr Ht (r : Nat) := by
      rw [List.getElem?_map, List.getElem?_range hrl] at hy
      simpa using hy.symm
    subst hyv
    have e1 := hm1.hd; have e2 := hm1.tl.hd; have e3 := hm1.tl.tl.hd; have e4 := hm1.tl.tl.tl.hd
    have e5 := hm1.tl.tl.tl.tl.hd; have e6 := hm1.tl.tl.tl.tl.tl.hd; have e7 := hm1.tl.tl.tl.tl.tl.tl.hd; have e8 := hm1.tl.tl.tl.tl.tl.tl.tl.hd
    have hai : ∀ q ∈ its, q.1 ≠ da ∧ q.1 ≠ db := by
      intro q hq
      rcases hits q hq with e | e
      · rw [e]; exact ⟨fun e9 => hda _ mw e9, fun e9 => hdb _ mw e9⟩
      · exact ⟨fun e9 => absurd hdaS (Nat.not_lt.mpr (e9 ▸ e)), fun e9 => absurd hdbS (Nat.not_lt.mpr (e9 ▸ e))⟩
    refine in_turn w h₀ L fa dl dw da db cd _ o1 o2 o5 (nl ++ its) dvs avs1 bvs1 ds _ _ nn Wd Ht p r pr t1 t2 t3 tp tu ti tj t tv mean mg mb _ _ F3 X T B N3 ?_ ?_ (List.mem_append_left _ m1) (List.mem_append_left _ m2) (List.mem_append_left _ m5) (List.mem_append_left _ ml) d1 d2 d5 hids hlen hb D0 D1 hd0 hd1 ia1 ib1 hdim hpr hp hrl ?_ ?_
      (Has.cons e1 (Has.cons e2 (Has.cons e3 (Has.cons e4 (Has.cons e5 (Has.cons e6 (Has.cons e7 (Has.cons e8 (Has.cons rfl (Has.cons rfl Has.nil)))))))))) fun avs' bvs' m' h' tk' F5 hm5 N5 ia5 ib5 => ?_
    · intro q hq
      rcases List.mem_cons.mp hq with rfl | hq
      · exact fun e => hdab e.symm
      · rcases List.mem_append.mp hq with hq | hq
        · exact hda q hq
        · exact (hai q hq).1
    · intro q hq
      rcases List.mem_append.mp hq with hq | hq
      · exact hdb q hq
      · exact (hai q hq).2
    · rw [foldA_len]; exact hal
    · rw [foldB_len]; exact hbl
    · refine TurnW.mk (news' := (da, W.listOf avs'.toArray 0) :: (db, W.listOf bvs'.toArray 0) :: nl) F5 N5 ?_ ⟨?_, avs', bvs', ?_, ?_, rfl⟩
      · exact fun q hq => by
          rcases List.mem_cons.mp hq with e | hq
          · rw [e]; exact hnw (da, W.listOf avs1.toArray 0) (List.mem_cons_self ..)
          · rcases List.mem_cons.mp hq with e | hq
            · rw [e]; exact hnw (db, W.listOf bvs1.toArray 0) (List.mem_cons_of_mem _ (List.mem_cons_self ..))
            · exact hnw q (List.mem_cons_of_mem _ (List.mem_cons_of_mem _ hq))
      · exact Has.cons hm5.hd (Has.cons hm5.tl.hd (Has.cons hm5.tl.tl.hd (Has.cons hm5.tl.tl.tl.hd (Has.cons hm5.tl.tl.tl.tl.hd (Has.cons hm5.tl.tl.tl.tl.tl.hd (Has.cons hm5.tl.tl.tl.tl.tl.tl.hd (Has.cons hm5.tl.tl.tl.tl.tl.tl.tl.hd Has.nil)))))))
      · rw [List.range_succ, List.foldl_append]; exact ia5
      · rw [List.range_succ, List.foldl_append]; exact ib5
  · rintro m₁ news₁ h tk ⟨hm1, avs1, bvs1, ia1, ib1, rfl⟩ F3 N3
    rw [hwl] at ia1 ib1
    exact hrest avs1 bvs1 m₁ h tk F3 hm1 N3 ia1 ib1
end Mine
end
section
open PySem PySem.W PyProof.Rows PySem.Spec PySem.Calls PyProof.V PySem.Builtin.Str
namespace Mine
noncomputable abbrev VLz (Wd Ht : Nat) (dw da : Addr) (t1 t3 : Tok) : List (Str × Value) :=
  [(Str.ofString "wide", .int (Wd : Int) t1), (Str.ofString "size", .int ((Wd * Ht : Nat) : Int) t3), (Str.ofString "words", .ref dw), (Str.ofString "above", .ref da)]
noncomputable def JO (l0 : List (Str × Value)) (da db : Addr) (nl : List (Addr × Obj)) (Ht n : Nat) (i : Nat) (m₁ : Str → Option Value) (news₁ : List (Addr × Obj)) : Prop :=
  Has m₁ l0 ∧ ∃ avs bvs, IntsAre avs (cI ((List.range i).foldl (fun A p => rowA Ht n p A) (List.replicate n 0))) ∧ IntsAre bvs (cI ((List.range i).foldl (fun B p => rowB Ht n p B) (List.replicate n 0))) ∧ news₁ = (da, W.listOf avs.toArray 0) :: (db, W.listOf bvs.toArray 0) :: nl
theorem tabA_len (H n : Nat) : ∀ (l : List Nat) (A : List Nat), (l.foldl (fun A p => rowA H n p A) A).length = A.length
  | [], _ => rfl
  | a :: l, A => by rw [List.foldl_cons, tabA_len H n l]; exact foldA_len H a _ A
theorem tabB_len (H n : Nat) : ∀ (l : List Nat) (A : List Nat), (l.foldl (fun A p => rowB H n p A) A).length = A.length
  | [], _ => rfl
  | a :: l, A => by rw [List.foldl_cons, tabB_len H n l]; exact foldB_len H a _ A
theorem st_a0 (w : World) (h₀ : Heap) (L fa dw da : Addr) (cd : Value) (mm : Str → Option Value) (o2 : Obj) (nl : List (Addr × Obj)) (Wd Ht p : Nat) (u : Str) (t1 t2 t3 tp tu : Tok) (mean : ExcName → Option Value) (mg mb : Str → Option Value) (s : Shared) (Q : Flow → Shared → Prop) (rest : List Stmt)
    (F : Fr h₀ L s.heap mm) (X : (KK w.params).In h₀) (T : Top vw Mine.lw mean mg mb h₀) (B : Below callerA h₀ [] h₀)
    (N : News h₀ L s.heap nl) (m2 : (L + 1 + 1, o2) ∈ nl) (d2 : o2.data = .cell (some (.int (Ht : Int) t2))) (hdim : dims Wd Ht)
    (hm : Has mm ((Str.ofString "p", .int (p : Nat) tp) :: (Str.ofString "u", .str u tu) :: VLz Wd Ht dw da t1 t3))
    (hrest : ∀ (ti tj : Tok) (m' : Str → Option Value) (h : Heap) (tk' : Nat), Fr h₀ L h m' → Has m' (VL0 Wd Ht dw da p (p / Ht) (p % Ht) u t1 t3 tp tu ti tj) → News h₀ L h nl →
      wpAny (model pw w) (LAr L fa cd) (execs rest (LE L fa cd)) Q NoE { s with heap := h, toks := tk' })
    : wpAny (model pw w) (LAr L fa cd) (execs (a0 :: rest) (LE L fa cd)) Q NoE s := by
  have F0 := Fr.list F _ hm
  dsimp only [VLz] at F0
  clear F hm
  have hH : ((Ht : Nat) : Int) ≠ 0 := by rcases hdim with ⟨rfl, rfl⟩ | ⟨rfl, rfl⟩ | ⟨rfl, rfl⟩ | ⟨rfl, rfl⟩ <;> decide
  iterate 8 (first | walk1 | (dsimp only; walk1))
  refine ldHigh N m2 d2 ?_
  iterate 4 (first | walk1 | (dsimp only; walk1))
  rename Fr _ _ _ _ => F1; rename News _ _ _ _ => N1
  have N2 := News.tl N1
  clear N1
  rw [fdN p Ht, fmN p Ht]
  iterate 6 (first | walk1 | (dsimp only; walk1))
  rename Fr _ _ _ _ => F5; rename News _ _ _ _ => N5
  exact hrest _ _ _ _ _ F5 (by repeat' (first | exact Has.nil | refine Has.cons rfl ?_)) N5
theorem st_z10 (w : World) (h₀ : Heap) (L fa dl dw da db : Addr) (cd : Value) (mm : Str → Option Value) (o1 o2 o5 : Obj) (nl : List (Addr × Obj)) (dvs wvs avs bvs : List Value) (ds : List Int) (nn nw Wd Ht : Nat) (pr : Str) (t1 t2 t3 : Tok) (mean : ExcName → Option Value) (mg mb : Str → Option Value) (s : Shared) (Q : Flow → Shared → Prop) (rest : List Stmt)
    (F : Fr h₀ L s.heap mm) (X : (KK w.params).In h₀) (T : Top vw Mine.lw mean mg mb h₀) (B : Below callerA h₀ [] h₀)
    (N : News h₀ L s.heap ((da, W.listOf avs.toArray 0) :: (db, W.listOf bvs.toArray 0) :: nl)) (hdab : da ≠ db) (hda : ∀ q ∈ nl, q.1 ≠ da) (hdb : ∀ q ∈ nl, q.1 ≠ db)
    (m1 : (L + 1, o1) ∈ nl) (m2 : (L + 1 + 1, o2) ∈ nl) (m5 : (L + 1 + 1 + 1 + 1 + 1, o5) ∈ nl) (ml : (dl, W.listOf dvs.toArray nn) ∈ nl) (mw : (dw, W.listOf wvs.toArray nw) ∈ nl)
    (d1 : o1.data = .cell (some (.ref dl))) (d2 : o2.data = .cell (some (.int (Ht : Int) t2))) (d5 : o5.data = .cell (some (.ref db)))
    (hids : IntsAre dvs ds) (hlen : ds.length = 5) (hb : ∀ d ∈ ds, 0 ≤ d ∧ d ≤ 70000000) (D0 D1 : Nat) (hd0 : ds.getD (0 : Int).toNat 0 = (D0 : Nat)) (hd1 : ds.getD (1 : Int).toNat 0 = (D1 : Nat)) (hws : StrsAre wvs ((List.range (Wd * Ht)).map fun i => meantV pr Ht (i : Nat)))
    (ia : IntsAre avs (List.replicate (Wd * Ht) 0)) (ib : IntsAre bvs (List.replicate (Wd * Ht) 0)) (hdim : dims Wd Ht) (hpr : isPair pr)
    (hm : Has mm (VLz Wd Ht dw da t1 t3))
    (hrest : ∀ (avs' bvs' : List Value) (m' : Str → Option Value) (h : Heap) (tk' : Nat), Fr h₀ L h m' → Has m' (VLz Wd Ht dw da t1 t3) → News h₀ L h ((da, W.listOf avs'.toArray 0) :: (db, W.listOf bvs'.toArray 0) :: nl) →
      IntsAre avs' (cI (tabA Ht (Wd * Ht))) → IntsAre bvs' (cI (tabB Ht (Wd * Ht))) → wpAny (model pw w) (LAr L fa cd) (execs rest (LE L fa cd)) Q NoE { s with heap := h, toks := tk' })
    : wpAny (model pw w) (LAr L fa cd) (execs (z10 :: rest) (LE L fa cd)) Q NoE s := by
  have F0 := Fr.list F _ hm
  dsimp only [VLz] at F0
  have hlw : dw ≠ L := (N _ (List.mem_cons_of_mem _ (List.mem_cons_of_mem _ mw))).2.1
  have hws' : s.heap.IsList dw wvs.toArray := ⟨_, (N _ (List.mem_cons_of_mem _ (List.mem_cons_of_mem _ mw))).1, rfl, _, rfl⟩
  have hdaS : da < s.heap.objs.size := Heap.lt_size (N _ (List.mem_cons_self ..)).1
  have hdbS : db < s.heap.objs.size := Heap.lt_size (N _ (List.mem_cons_of_mem _ (List.mem_cons_self ..))).1
  have hwl : wvs.length = Wd * Ht := by rw [hws.length]; simp
  have hc0 : cI (List.replicate (Wd * Ht) 0) = List.replicate (Wd * Ht) 0 := by unfold cI; rw [List.map_replicate]; rfl
  refine wpAny_execs_cons ?_
  refine For_WU2 (h₀ := h₀) rfl rfl rfl rfl (JO (VLz Wd Ht dw da t1 t3) da db nl Ht (Wd * Ht)) ?_
  iterate 6 (first | walk1 | (dsimp only; walk1))
  refine src_enum (env := LE L fa cd) (h₀ := h₀) (vs := wvs) rfl (JO (VLz Wd Ht dw da t1 t3) da db nl Ht (Wd * Ht)) hws' hlw F N ?_ ?_ ?_
  · exact ⟨hm, avs, bvs, by rw [List.range_zero, List.foldl_nil, hc0]; exact ia, by rw [List.range_zero, List.foldl_nil, hc0]; exact ib, rfl⟩
  · rintro p t v m₁ news₁ its h tk wr hv ⟨hm1, avs1, bvs1, ia1, ib1, rfl⟩ hnw hwr hits F3 N3
    obtain ⟨y, tv, rfl, hy⟩ := hws.item p v hv
    have hpl : p < Wd * Ht := by rw [← hwl]; exact (List.getElem?_eq_some_iff.mp hv).1
    have hyv : y = meantV pr Ht (p : Nat) := by
      rw [List.getElem?_map, List.getElem?_range hpl] at hy
      simpa using hy.symm
    subst hyv
    have e1 := hm1.hd; have e2 := hm1.tl.hd; have e3 := hm1.tl.tl.hd; have e4 := hm1.tl.tl.tl.hd
    have hai : ∀ q ∈ its, q.1 ≠ da ∧ q.1 ≠ db := by
      intro q hq
      rcases hits q hq with e | e
      · rw [e]; exact ⟨fun e9 => hda _ mw e9, fun e9 => hdb _ mw e9⟩
      · exact ⟨fun e9 => absurd hdaS (Nat.not_lt.mpr (e9 ▸ e)), fun e9 => absurd hdbS (Nat.not_lt.mpr (e9 ▸ e))⟩
    refine st_a0 w h₀ L fa dw da cd _ o2 ((da, W.listOf avs1.toArray 0) :: (db, W.listOf bvs1.toArray 0) :: (nl ++ its)) Wd Ht p _ t1 t2 t3 t tv mean mg mb _ _ _ F3 X T B N3 (List.mem_cons_of_mem _ (List.mem_cons_of_mem _ (List.mem_append_left _ m2))) d2 hdim
      (Has.cons rfl (Has.cons rfl (Has.cons e1 (Has.cons e2 (Has.cons e3 (Has.cons e4 Has.nil)))))) fun ti tj m' h' tk' F5 hm5 N5 => ?_
    refine st_a1 w h₀ L fa dl dw da db cd _ o1 o2 o5 (nl ++ its) dvs wvs avs1 bvs1 ds _ _ nn nw Wd Ht p pr t1 t2 t3 t tv ti tj mean mg mb _ _ _ F5 X T B N5 hdab ?_ ?_ (List.mem_append_left _ m1) (List.mem_append_left _ m2) (List.mem_append_left _ m5) (List.mem_append_left _ ml) (List.mem_append_left _ mw) d1 d2 d5 hids hlen hb D0 D1 hd0 hd1 hws ia1 ib1 hdim hpr hpl ?_ ?_ hm5 fun avs' bvs' m'' h'' tk'' F7 hm7 N7 ia7 ib7 => ?_
    · intro q hq
      rcases List.mem_append.mp hq with hq | hq
      · exact hda q hq
      · exact (hai q hq).1
    · intro q hq
      rcases List.mem_append.mp hq with hq | hq
      · exact hdb q hq
      · exact (hai q hq).2
    · rw [tabA_len]; simp
    · rw [tabB_len]; simp
    · refine wpAny_execs_nil ?_
      refine TurnW.mk (news' := (da, W.listOf avs'.toArray 0) :: (db, W.listOf bvs'.toArray 0) :: nl) F7 N7 ?_ ⟨?_, avs', bvs', ?_, ?_, rfl⟩
      · exact fun q hq => by
          rcases List.mem_cons.mp hq with e | hq
          · rw [e]; exact hnw (da, W.listOf avs1.toArray 0) (List.mem_cons_self ..)
          · rcases List.mem_cons.mp hq with e | hq
            · rw [e]; exact hnw (db, W.listOf bvs1.toArray 0) (List.mem_cons_of_mem _ (List.mem_cons_self ..))
            · exact hnw q (List.mem_cons_of_mem _ (List.mem_cons_of_mem _ hq))
      · exact Has.cons hm7.hd (Has.cons hm7.tl.hd (Has.cons hm7.tl.tl.hd (Has.cons hm7.tl.tl.tl.hd Has.nil)))
      · rw [List.range_succ, List.foldl_append]; exact ia7
      · rw [List.range_succ, List.foldl_append]; exact ib7
  · rintro m₁ news₁ h tk ⟨hm1, avs1, bvs1, ia1, ib1, rfl⟩ F3 N3
    rw [hwl] at ia1 ib1
    exact hrest avs1 bvs1 m₁ h tk F3 hm1 N3 ia1 ib1
end Mine
end
section
open PySem PySem.W PyProof.Rows PySem.Spec PySem.Calls PyProof.V PySem.Builtin.Str
namespace Mine
theorem nw_fresh {h₀ h h' : Heap} {L x : Addr} {m : Str → Option Value} {o : Obj} {nl : List (Addr × Obj)} (F : Fr h₀ L h m) (N : News h₀ L h nl) (hk : ∀ b o, h.get? b = some o → h'.get? b = some o) (hx : h.get? x = none) (ho : h'.get? x = some o) : News h₀ L h' ((x, o) :: nl) ∧ ∀ q ∈ nl, q.1 ≠ x := by
  refine ⟨fun q hq => ?_, fun q hq e => ?_⟩
  · rcases List.mem_cons.mp hq with rfl | hq
    · refine ⟨ho, ?_, ?_⟩
      · rintro rfl
        obtain ⟨oL, _, _, e, _⟩ := F.ns
        rw [hx] at e; cases e
      · cases e : h₀.get? x with
        | none => rfl
        | some o => rw [F.keep _ _ e] at hx; cases hx
    · exact News.kp N hk q hq
  · have := (N q hq).1
    rw [e, hx] at this; cases this
theorem st_z11 (w : World) (h₀ : Heap) (L fa dl dw da : Addr) (cd : Value) (mm : Str → Option Value) (o1 : Obj) (nl : List (Addr × Obj)) (dvs : List Value) (ds : List Int) (nn Wd Ht : Nat) (t1 t3 : Tok) (mean : ExcName → Option Value) (mg mb : Str → Option Value) (s : Shared) (Q : Flow → Shared → Prop) (rest : List Stmt)
    (F : Fr h₀ L s.heap mm) (X : (KK w.params).In h₀) (T : Top vw Mine.lw mean mg mb h₀) (B : Below callerA h₀ [] h₀)
    (N : News h₀ L s.heap nl) (m1 : (L + 1, o1) ∈ nl) (ml : (dl, W.listOf dvs.toArray nn) ∈ nl) (d1 : o1.data = .cell (some (.ref dl))) (hids : IntsAre dvs ds) (hlen : ds.length = 5) (D1 : Nat) (hd1 : ds.getD (1 : Int).toNat 0 = (D1 : Nat))
    (hm : Has mm (VLz Wd Ht dw da t1 t3))
    (hrest : ∀ (x dx : Addr) (tr q1 q2 : Tok) (m' : Str → Option Value) (h : Heap) (tk' : Nat), Fr h₀ L h m' → Has m' ((Str.ofString "pile", .ref x) :: (Str.ofString "room", .int ((D1 % 3 : Nat) : Int) tr) :: VLz Wd Ht dw da t1 t3) → News h₀ L h ((x, pileO dx [] 0) :: (dx, pileD w.params q1 q2 ((D1 % 3 : Nat) : Int)) :: nl) → x ≠ dx → (∀ q ∈ nl, q.1 ≠ x) → (∀ q ∈ nl, q.1 ≠ dx) →
      wpAny (model pw w) (LAr L fa cd) (execs rest (LE L fa cd)) Q NoE { s with heap := h, toks := tk' })
    : wpAny (model pw w) (LAr L fa cd) (execs (z11 :: z12 :: rest) (LE L fa cd)) Q NoE s := by
  have F0 := Fr.list F _ hm
  dsimp only [VLz] at F0
  clear F hm
  iterate 4 (first | walk1 | (dsimp only; walk1))
  refine ldDraws N m1 d1 ?_
  walk1
  refine item_list_ints ⟨_, (N _ ml).1, rfl, _, rfl⟩ hids (by decide) (by omega) (by decide) (fun td => ?_)
  rw [hd1]
  iterate 2 (first | walk1 | (dsimp only; walk1))
  rw [show ((D1 : Nat) : Int).fmod 3 = ((D1 % 3 : Nat) : Int) from fmN D1 3]
  iterate 8 (first | walk1 | (dsimp only; walk1))
  rename Fr _ _ _ _ => F1; rename News _ _ _ _ => N1
  refine args_nil ⟨X.keeps F1.keep, ?_⟩
  refine p_make w _ _ _ _ _ _ _ _ _ _ _ _ _ _ _ _ _ _ _ _ _ _ B F1 X (by assumption) rfl (by ktr_room) (by ktr_room) fun x dx q1 q2 h2 tk2 hk2 hx hdx hne hox hodx => ?_
  have F2 := F1.kept (h' := h2) hk2
  obtain ⟨Na, na⟩ := nw_fresh F1 N1 hk2 hdx hodx
  have Nb : News h₀ L h2 ((x, pileO dx [] 0) :: (dx, pileD w.params q1 q2 ((D1 % 3 : Nat) : Int)) :: nl) := by
    intro q hq
    rcases List.mem_cons.mp hq with rfl | hq
    · exact (nw_fresh F1 N1 hk2 hx hox).1 _ (List.mem_cons_self ..)
    · exact Na q hq
  have nb := (nw_fresh F1 N1 hk2 hx hox).2
  clear F1 N1 Na
  walk1
  rename Fr _ _ _ _ => F5; rename News _ _ _ _ => N5
  exact hrest x dx _ q1 q2 _ _ _ F5 (by repeat' (first | exact Has.nil | refine Has.cons rfl ?_)) N5 hne nb na
end Mine
end
section
open PySem PySem.W PyProof.Rows PySem.Spec PySem.Calls PyProof.V PySem.Builtin.Str
namespace Mine
noncomputable abbrev VLp (Wd Ht : Nat) (dw da x : Addr) (D1 : Nat) (t1 t3 tr : Tok) : List (Str × Value) :=
  (Str.ofString "pile", .ref x) :: (Str.ofString "room", .int ((D1 % 3 : Nat) : Int) tr) :: VLz Wd Ht dw da t1 t3
theorem st_z13 (w : World) (h₀ : Heap) (L fa dl dw da x : Addr) (cd : Value) (mm : Str → Option Value) (o1 o2 o3 o4 o5 o6 : Obj) (pre : List (Addr × Obj)) (dvs : List Value) (ds : List Int) (nn Wd Ht D1 : Nat) (t1 t3 tr : Tok) (mean : ExcName → Option Value) (mg mb : Str → Option Value) (s : Shared) (Q : Flow → Shared → Prop) (rest : List Stmt)
    (F : Fr h₀ L s.heap mm) (X : (KK w.params).In h₀) (T : Top vw Mine.lw mean mg mb h₀) (B : Below callerA h₀ [] h₀)
    (N : News h₀ L s.heap (pre ++ cellsL L o6 o5 o4 o3 o2 o1)) (hab : Ab L pre) (ml : (dl, W.listOf dvs.toArray nn) ∈ pre) (d1 : o1.data = .cell (some (.ref dl))) (d6 : o6.data = .cell none) (hids : IntsAre dvs ds) (hlen : ds.length = 5) (D2 : Nat) (hd2 : ds.getD (2 : Int).toNat 0 = (D2 : Nat)) (hdim : dims Wd Ht)
    (hm : Has mm (VLp Wd Ht dw da x D1 t1 t3 tr))
    (hrest : ∀ (D : Addr) (lvs : List Value) (c : Nat) (tp te t0 : Tok) (m' : Str → Option Value) (o6' : Obj) (h : Heap) (tk' : Nat), Fr h₀ L h m' → Has m' ((Str.ofString "left", .ref D) :: (Str.ofString "text", .str (Str.ofString "") te) :: (Str.ofString "pick", .int (D2 : Int) tp) :: VLp Wd Ht dw da x D1 t1 t3 tr) → News h₀ L h ((D, W.listOf lvs.toArray c) :: (pre ++ cellsL L o6' o5 o4 o3 o2 o1)) → IntsAre lvs (cI (List.range (Wd * Ht))) → o6'.data = .cell (some (.int 0 t0)) → (∀ q ∈ pre ++ cellsL L o6' o5 o4 o3 o2 o1, q.1 ≠ D) →
      wpAny (model pw w) (LAr L fa cd) (execs rest (LE L fa cd)) Q NoE { s with heap := h, toks := tk' })
    : wpAny (model pw w) (LAr L fa cd) (execs (z13 :: z14 :: z15 :: z16 :: rest) (LE L fa cd)) Q NoE s := by
  have F0 := Fr.list F _ hm
  dsimp only [VLz, VLp] at F0
  clear F hm
  have h8 : 0 ≤ ((Wd * Ht : Nat) : Int) ∧ ((Wd * Ht : Nat) : Int) ≤ 8 := by rcases hdim with ⟨rfl, rfl⟩ | ⟨rfl, rfl⟩ | ⟨rfl, rfl⟩ | ⟨rfl, rfl⟩ <;> decide
  iterate 3 (first | walk1 | (dsimp only; walk1))
  refine ldDraws N (List.mem_append_right _ (by repeat (first | exact List.mem_cons_self .. | refine List.mem_cons_of_mem _ ?_))) d1 ?_
  walk1
  refine item_list_ints ⟨_, (N _ (List.mem_append_left _ ml)).1, rfl, _, rfl⟩ hids (by decide) (by omega) (by decide) (fun td => ?_)
  rw [hd2]
  iterate 4 (first | walk1 | (dsimp only; walk1))
  rename Fr _ _ _ _ => F1; rename News _ _ _ _ => N1
  refine sto_laid (pre := pre) F1 N1 hab d6 fun h5 o6' hd6 F5 N5 => ?_
  clear F1 N1
  iterate 19 (first | walk1 | (dsimp only; walk1))
  rename Fr _ _ _ _ => F7; rename News _ _ _ _ => N7; rename IntsAre _ _ => I7; rename (∀ p ∈ pre ++ cellsL L o6' o5 o4 o3 o2 o1, p.1 < _) => A7
  have hRk : rangeKs 0 (((Wd * Ht : Nat) : Int) - 0).toNat = cI (List.range (Wd * Ht)) := by
    rcases hdim with ⟨rfl, rfl⟩ | ⟨rfl, rfl⟩ | ⟨rfl, rfl⟩ | ⟨rfl, rfl⟩ <;> rfl
  rw [hRk] at I7
  walk1
  rename Fr _ _ _ _ => F9; rename News _ _ _ _ => N9
  exact hrest _ _ _ _ _ _ _ _ _ _ F9 (by repeat' (first | exact Has.nil | refine Has.cons rfl ?_)) N9 I7 hd6 fun q hq => Nat.ne_of_lt (A7 q hq)
end Mine
end
section
open PySem PySem.W PyProof.Rows PySem.Spec PySem.Calls PyProof.V PySem.Builtin.Str
namespace Mine
noncomputable abbrev VLw (Wd Ht : Nat) (dw da x D : Addr) (D1 pk : Nat) (tx : Str) (t1 t3 tr te tp : Tok) : List (Str × Value) :=
  (Str.ofString "left", .ref D) :: (Str.ofString "text", .str tx te) :: (Str.ofString "pick", .int (pk : Int) tp) :: VLp Wd Ht dw da x D1 t1 t3 tr
noncomputable def fkeep (bs : List Nat) (ld : Nat) (p : Nat) : Bool := bs.getD p 0 &&& ld == bs.getD p 0
theorem ints_filter {g : Nat → Bool} {pv : Value → Bool} (hg : ∀ (k : Nat) t, pv (.int (k : Int) t) = g k) : ∀ {vs : List Value} {l : List Nat}, IntsAre vs (cI l) → IntsAre (vs.filter pv) (cI (l.filter g))
  | [], [], _ => .nil
  | [], _ :: _, h => by cases h
  | _ :: _, [], h => by cases h
  | v :: vs, k :: l, h => by
    have h' : IntsAre (v :: vs) ((k : Int) :: cI l) := h
    cases h' with
    | cons n t r =>
      rw [List.filter_cons, List.filter_cons, hg]
      cases g k with
      | true => exact .cons _ t (ints_filter hg r)
      | false => exact ints_filter hg r
theorem vs_eq {vs lvs : List Value} (hl : vs.length = lvs.length) (h : ∀ (j : Nat) v, vs[j]? = some v → lvs[j]? = some v) : vs = lvs := by
  apply List.ext_getElem? fun j => ?_
  by_cases hj : j < vs.length
  · rw [h j _ (List.getElem?_eq_getElem hj), List.getElem?_eq_getElem hj]
  · rw [List.getElem?_eq_none (by omega), List.getElem?_eq_none (by omega)]
theorem prd_same : ∀ {xs ys : List Value}, Paired (fun v y => y = v) xs ys → ys = xs
  | _, _, .nil => rfl
  | _, _, .cons h r => by rw [h, prd_same r]
theorem il_at {lvs : List Value} {lf : List Nat} {i : Nat} {v : Value} (il : IntsAre lvs (cI lf)) (h : lvs[i]? = some v) : ∃ (p : Nat) (t : Tok), v = .int (p : Int) t ∧ p ∈ lf ∧ lf[i]? = some p := by
  have hi : i < lf.length := by
    have := (List.getElem?_eq_some_iff.mp h).1
    rw [il.length, cI_len] at this; exact this
  obtain ⟨t, e⟩ := Mine.IntsAre.getX il i (by rw [cI_len]; exact hi)
  rw [h, cI_get] at e
  have e2 : lf.getD i 0 = lf[i] := by rw [List.getD_eq_getElem?_getD, List.getElem?_eq_getElem hi]; rfl
  refine ⟨lf[i], t, ?_, List.getElem_mem _, List.getElem?_eq_getElem hi⟩
  rw [e2] at e
  exact Option.some.inj e
theorem st_w0 (w : World) (h₀ : Heap) (L fa dw da db x D : Addr) (cd : Value) (mm : Str → Option Value) (o5 o6 : Obj) (nl : List (Addr × Obj)) (bvs lvs : List Value) (bs lf : List Nat) (c Wd Ht D1 pk ld : Nat) (tx : Str) (t1 t3 tr te tp t0 : Tok) (mean : ExcName → Option Value) (mg mb : Str → Option Value) (s : Shared) (Q : Flow → Shared → Prop) (rest : List Stmt)
    (F : Fr h₀ L s.heap mm) (X : (KK w.params).In h₀) (T : Top vw Mine.lw mean mg mb h₀) (B : Below callerA h₀ [] h₀)
    (N : News h₀ L s.heap nl) (m5 : (L + 1 + 1 + 1 + 1 + 1, o5) ∈ nl) (m6 : (L + 1 + 1 + 1 + 1 + 1 + 1, o6) ∈ nl) (mb' : (db, W.listOf bvs.toArray 0) ∈ nl) (mD : (D, W.listOf lvs.toArray c) ∈ nl)
    (d5 : o5.data = .cell (some (.ref db))) (d6 : o6.data = .cell (some (.int (ld : Int) t0))) (ib : IntsAre bvs (cI bs)) (il : IntsAre lvs (cI lf)) (hbl : bs.length ≤ 8) (hlf : ∀ p ∈ lf, p < bs.length) (hll : lf.length ≤ 8)
    (hm : Has mm (VLw Wd Ht dw da x D D1 pk tx t1 t3 tr te tp))
    (hrest : ∀ (Df : Addr) (fvs : List Value) (cf : Nat) (m' : Str → Option Value) (h : Heap) (tk' : Nat), Fr h₀ L h m' → Has m' ((Str.ofString "free", .ref Df) :: VLw Wd Ht dw da x D D1 pk tx t1 t3 tr te tp) → News h₀ L h ((Df, W.listOf fvs.toArray cf) :: nl) → IntsAre fvs (cI (lf.filter (fkeep bs ld))) → (∀ q ∈ nl, q.1 ≠ Df) →
      wpAny (model pw w) (LAr L fa cd) (execs rest (LE L fa cd)) Q NoE { s with heap := h, toks := tk' })
    : wpAny (model pw w) (LAr L fa cd) (execs (w0 :: rest) (LE L fa cd)) Q NoE s := by
  have F9 := Fr.list F _ hm
  dsimp only [VLw, VLz, VLp] at F9
  clear F hm
  have hlvl : lvs.length = lf.length := by rw [il.length, cI_len]
  refine wpAny_execs_cons ?_
  refine wpAny_Assign_ListComp_free (fun v => fkeep bs ld (ival v).toNat) (fun v y => y = v) rfl rfl (by decide) rfl (by decide) rfl rfl rfl ?_
  walk1
  refine wpAny_pyIter_list (items := lvs.toArray) ⟨_, (N _ mD).1, rfl, _, rfl⟩ ?_
  have FP := F9.keptAll (h' := Heap.push _ { cls := .type "list_iterator", data := .fields #[.ref D, .int 0 0] }) fun _ _ e => Heap.get?_push_of_some _ e
  have hDlt : D < s.heap.objs.size := Heap.lt_size (N _ mD).1
  refine ⟨_, _, _, _, _, _, _, rfl, Walks.list rfl _ D (Nat.ne_of_lt hDlt) lvs.toArray, ?_, ⟨⟨_, Heap.get?_push_size _ rfl, rfl, rfl⟩, ⟨_, Heap.get?_push_of_some _ (N _ mD).1, rfl, _, rfl⟩⟩, ?_, ?_, FP.ns, ?_, ?_⟩
  · show lvs.toArray.size ≤ sizeLine
    unfold sizeLine
    simp only [List.size_toArray]; omega
  · intro b hb
    simp only [List.mem_cons, List.not_mem_nil, or_false] at hb
    rcases hb with rfl | rfl
    · exact Nat.lt_of_lt_of_eq (Nat.lt_succ_self _) (Heap.size_push _ _).symm
    · exact Nat.lt_of_lt_of_eq (Nat.lt_succ_of_lt hDlt) (Heap.size_push _ _).symm
  · intro hb
    rw [List.mem_singleton] at hb
    exact absurd F9.ns.lt (by rw [← hb]; exact Nat.lt_irrefl _)
  · constructor
    · intro C i v s₃ m₃ E' _ hP hn hm hkp htk
      have hk8 : ∀ b o', _ → s₃.heap.get? b = some o' := fun b o' e => hkp b o' (by intro hb; rw [List.mem_singleton] at hb; exact absurd (Heap.lt_size e) (by rw [hb]; exact Nat.lt_irrefl _)) (Heap.get?_push_of_some _ e)
      have F8 := F9.kept (h' := s₃.heap) hk8
      have N8 := News.kp N hk8
      clear F9 N FP
      obtain ⟨p, tv, rfl, hpl, hpi⟩ := il_at il (by simpa using hP)
      have hpb := hlf p hpl
      have hpb' : (p : Int) < ((cI bs).length : Int) := by rw [cI_len]; omega
      refine wpAny_tests_one ?_
      iterate 7 (first | walk1 | (dsimp only; walk1))
      refine ldCellK rfl ⟨_, (N8 (L + 1 + 1 + 1 + 1 + 1, o5) m5).1, d5⟩ ?_
      walk1
      refine item_list_ints ⟨_, (N8 (db, W.listOf bvs.toArray 0) mb').1, rfl, _, rfl⟩ ib (by omega) (by omega) (by omega) (fun td => ?_)
      rw [Int.toNat_natCast, cI_get]
      walk1
      refine ldCellK rfl ⟨_, (N8 (L + 1 + 1 + 1 + 1 + 1 + 1, o6) m6).1, d6⟩ ?_
      refine args_nil ⟨X.keeps F8.keep, ?_⟩
      refine p_andN w (bs.getD p 0) ld _ _ _ _ _ _ _ _ _ _ _ _ _ _ _ _ _ _ _ _ _ _ B F8 X (by assumption) rfl trivial (by ktr_room) (by ktr_room) fun t1' h1 tk1 hk1 => ?_
      have F7 := F8.kept (h' := h1) hk1
      have N7 := News.kp N8 hk1
      have hn7 : h1.Ns C m₃ := hn.at fun o e => hk1 _ _ e
      dsimp only
      walk1
      refine ldCellK rfl ⟨_, (N7 (L + 1 + 1 + 1 + 1 + 1, o5) m5).1, d5⟩ ?_
      walk1
      refine item_list_ints ⟨_, (N7 (db, W.listOf bvs.toArray 0) mb').1, rfl, _, rfl⟩ ib (by omega) (by omega) (by omega) (fun td => ?_)
      rw [Int.toNat_natCast, cI_get]
      iterate 2 (first | walk1 | (dsimp only; walk1))
      refine ⟨?_, _, _, rfl, fun b o e => hk1 b o e⟩
      rw [pr_eq]
      rfl
    · intro C i v s₃ m₃ E' _ hP hpv hn hm hkp htk
      have hk8 : ∀ b o', _ → s₃.heap.get? b = some o' := fun b o' e => hkp b o' (by intro hb; rw [List.mem_singleton] at hb; exact absurd (Heap.lt_size e) (by rw [hb]; exact Nat.lt_irrefl _)) (Heap.get?_push_of_some _ e)
      have F8 := F9.kept (h' := s₃.heap) hk8
      clear F9 N FP
      iterate 1 (first | walk1 | (dsimp only; walk1))
      exact ⟨rfl, _, _, rfl, fun _ _ e => e⟩
  · intro D' h' tk ys vs hD' hlD hpD hlen hP hF hns hk'
    have hvs : vs = lvs := vs_eq (by simpa using hlen) fun j v e => by simpa using hP j v e
    subst hvs
    have hys := prd_same hF
    have iF := ints_filter (g := fkeep bs ld) (pv := fun v => fkeep bs ld (ival v).toNat) (fun k t => rfl) il
    rw [← hys] at iF
    have hkk : ∀ b o', b ≠ L → _ → h'.get? b = some o' := fun b o' hbL e => hk' b o' hbL (by intro hb; rw [List.mem_singleton] at hb; exact absurd (Heap.lt_size e) (by rw [hb]; exact Nat.lt_irrefl _)) (Heap.get?_push_of_some _ e)
    have F8 : Fr h₀ L h' _ := ⟨hns, fun b o e => hkk b o (Nat.ne_of_lt (Nat.lt_of_lt_of_le (Heap.lt_size e) F9.above)) (F9.keep b o e), F9.above⟩
    have N8 : News h₀ L h' nl := fun p hp => ⟨hkk _ _ (N p hp).2.1 (N p hp).1, (N p hp).2⟩
    obtain ⟨nw, hDw⟩ := hpD
    have hD1 := none_of_push hD'
    have hne := fresh_ne N hD1
    refine hrest D' ys.toList nw _ _ _ F8 (by repeat' (first | exact Has.nil | refine Has.cons rfl ?_)) ?_ iF hne
    intro p hp
    rcases List.mem_cons.mp hp with rfl | hp
    · refine ⟨hDw, ?_, ?_⟩
      · rintro rfl
        obtain ⟨oL, _, _, e, _⟩ := F9.ns
        rw [hD1] at e; cases e
      · cases e : h₀.get? D' with
        | none => rfl
        | some o => rw [F9.keep _ _ e] at hD1; cases hD1
    · exact N8 p hp
end Mine
end
section
open PySem PySem.W PyProof.Rows PySem.Spec PySem.Calls PyProof.V PySem.Builtin.Str
namespace Mine
theorem st_w1 (w : World) (h₀ : Heap) (L fa dw da x D Df : Addr) (cd : Value) (mm : Str → Option Value) (nl : List (Addr × Obj)) (fvs : List Value) (fl : List Nat) (cf Wd Ht D1 pk : Nat) (tx : Str) (t1 t3 tr te tp : Tok) (mean : ExcName → Option Value) (mg mb : Str → Option Value) (s : Shared) (Q : Flow → Shared → Prop) (rest : List Stmt)
    (F : Fr h₀ L s.heap mm) (X : (KK w.params).In h₀) (T : Top vw Mine.lw mean mg mb h₀) (B : Below callerA h₀ [] h₀)
    (N : News h₀ L s.heap ((Df, W.listOf fvs.toArray cf) :: nl)) (il : IntsAre fvs (cI fl)) (hf0 : 0 < fl.length) (hf8 : fl.length ≤ 8)
    (hm : Has mm ((Str.ofString "free", .ref Df) :: VLw Wd Ht dw da x D D1 pk tx t1 t3 tr te tp))
    (hrest : ∀ (tp' tq : Tok) (m' : Str → Option Value) (h : Heap) (tk' : Nat), Fr h₀ L h m' → Has m' ((Str.ofString "p", .int ((fl.getD (pk % fl.length) 0 : Nat) : Int) tq) :: VLw Wd Ht dw da x D D1 (pk / fl.length) tx t1 t3 tr te tp') → News h₀ L h nl →
      wpAny (model pw w) (LAr L fa cd) (execs rest (LE L fa cd)) Q NoE { s with heap := h, toks := tk' })
    : wpAny (model pw w) (LAr L fa cd) (execs (w1 :: w2 :: rest) (LE L fa cd)) Q NoE s := by
  have F0 := Fr.list F _ hm
  dsimp only [VLw, VLz, VLp] at F0
  clear F hm
  have hfl : fvs.length = fl.length := by rw [il.length, cI_len]
  iterate 12 (first | walk1 | (dsimp only; walk1))
  have hsz : (fvs.toArray.size : Int) = ((fl.length : Nat) : Int) := by simp [hfl]
  have hflz : ((fl.length : Nat) : Int) ≠ 0 := by omega
  refine len_list ⟨_, (N (Df, W.listOf fvs.toArray cf) (List.mem_cons_self ..)).1, rfl, _, rfl⟩ (by rw [hsz]; omega) ?_
  rw [hsz]
  walk1
  rw [show ((pk : Nat) : Int).fmod ((fl.length : Nat) : Int) = ((pk % fl.length : Nat) : Int) from fmN pk fl.length]
  have hjl : pk % fl.length < fl.length := Nat.mod_lt _ hf0
  have hjl' : ((pk % fl.length : Nat) : Int) < ((cI fl).length : Int) := by rw [cI_len]; omega
  rename News _ _ _ _ => N1
  refine item_list_ints ⟨_, (N1 (Df, W.listOf fvs.toArray cf) (List.mem_cons_self ..)).1, rfl, _, rfl⟩ il (by omega) (by omega) (by omega) (fun td => ?_)
  rw [Int.toNat_natCast, cI_get]
  iterate 11 (first | walk1 | (dsimp only; walk1))
  rename News _ _ _ _ => N2; rename Fr _ _ _ _ => F2
  refine len_list ⟨_, (N2 (Df, W.listOf fvs.toArray cf) (List.mem_cons_self ..)).1, rfl, _, rfl⟩ (by rw [hsz]; omega) ?_
  rw [hsz]
  walk1
  rw [show ((pk : Nat) : Int).fdiv ((fl.length : Nat) : Int) = ((pk / fl.length : Nat) : Int) from fdN pk fl.length]
  walk1
  rename News _ _ _ _ => N3; rename Fr _ _ _ _ => F3
  exact hrest _ _ _ _ _ F3 (by repeat' (first | exact Has.nil | refine Has.cons rfl ?_)) (News.tl N3)
end Mine
end
section
open PySem PySem.W PyProof.Rows PySem.Spec PySem.Calls PyProof.V PySem.Builtin.Str
namespace Mine
theorem find_erase : ∀ {l : List Nat} {p : Nat}, p ∈ l → ∃ (j : Nat) (hj : j < l.length), l[j] = p ∧ (∀ (m : Nat) (hm : m < l.length), m < j → l[m] ≠ p) ∧ l.erase p = l.eraseIdx j
  | [], _, h => by cases h
  | a :: l, p, h => by
    by_cases e : a = p
    · subst e
      exact ⟨0, by simp, rfl, fun m _ hm => by omega, by simp⟩
    · have hp : p ∈ l := by
        rcases List.mem_cons.mp h with e1 | e1
        · exact absurd e1.symm e
        · exact e1
      obtain ⟨j, hj, h1, h2, h3⟩ := find_erase hp
      refine ⟨j + 1, by simpa using hj, by simpa using h1, fun m hm hmj => ?_, ?_⟩
      · cases m with
        | zero => simpa using e
        | succ m => simpa using h2 m (by simpa using hm) (by omega)
      · rw [List.erase_cons_tail (by simpa using e), h3]; rfl
theorem ints_eraseIdx : ∀ {vs : List Value} {ns : List Int} (j : Nat), IntsAre vs ns → IntsAre (vs.eraseIdx j) (ns.eraseIdx j)
  | _, _, _, .nil => by simpa using .nil
  | _, _, 0, .cons n t h => h
  | _, _, j + 1, .cons n t h => .cons n t (ints_eraseIdx j h)
theorem cI_eraseIdx (l : List Nat) (j : Nat) : (cI l).eraseIdx j = cI (l.eraseIdx j) := by
  unfold cI
  induction l generalizing j with
  | nil => simp
  | cons a l ih => cases j with
    | zero => simp
    | succ j => simp [ih]
theorem ints_getE {lvs : List Value} {lf : List Nat} (il : IntsAre lvs (cI lf)) (m : Nat) (hm : m < lvs.length) (hm2 : m < lf.length) : ∃ t, lvs[m] = .int (lf[m] : Int) t := by
  obtain ⟨t, e⟩ := Mine.IntsAre.getX il m (by rw [cI_len]; exact hm2)
  rw [cI_get, List.getElem?_eq_getElem hm] at e
  have e2 : lf.getD m 0 = lf[m] := by rw [List.getD_eq_getElem?_getD, List.getElem?_eq_getElem hm2]; rfl
  rw [e2] at e
  exact ⟨t, Option.some.inj e⟩
theorem rem_list {prog : Program} {w : World} {A : Around} {E : Value → Shared → Prop} {s : Shared} {h₀ : Heap} {L D : Addr} {m : Str → Option Value} {lvs : List Value} {lf : List Nat} {c p : Nat} {t : Tok} {nl : List (Addr × Obj)} {Q : Value → Shared → Prop}
    (F : Fr h₀ L s.heap m) (N : News h₀ L s.heap ((D, W.listOf lvs.toArray c) :: nl)) (hne : ∀ q ∈ nl, q.1 ≠ D) (il : IntsAre lvs (cI lf)) (hp : p ∈ lf) (h8 : lf.length ≤ 8)
    (hQ : ∀ (lvs' : List Value) (h' : Heap), IntsAre lvs' (cI (lf.erase p)) → Fr h₀ L h' m → News h₀ L h' ((D, W.listOf lvs'.toArray (c + 1)) :: nl) → Q .none { s with heap := h' }) : wpAny (model prog w) A (call (.builtin "list.remove") [.ref D, .int (p : Int) t]) Q E s := by
  obtain ⟨j, hj, e1, e2, e3⟩ := find_erase hp
  have hlen : lvs.length = lf.length := by rw [il.length, cI_len]
  have z := N _ (List.mem_cons_self ..)
  refine call_meets PySem.F.slot_list_remove ⟨_, z.1, rfl⟩ PySem.F.entry_list_remove (PySem.F.args_list_remove_2 _ _)
    (MeetsSeq.list_remove D lvs.toArray c (.int (p : Int) t) (fun v => ival v == (p : Int)) (fun y hy => ?_) j (by simpa [hlen] using hj) ?_ ?_ ?_) ⟨z.1, ?_⟩
  · obtain ⟨i, hi⟩ := List.mem_iff_getElem?.mp (show y ∈ lvs by simpa using hy)
    obtain ⟨q, u, rfl, _⟩ := il_at il hi
    exact MeetsSeq.EqGives.int _ _ _ _
  · obtain ⟨u, e⟩ := ints_getE il j (by omega) hj
    simp only [List.getElem_toArray]
    rw [e, e1]
    simp [ival]
  · intro i hi hij
    have hi' : i < lf.length := by simpa [hlen] using hi
    obtain ⟨u, e⟩ := ints_getE il i (by omega) hi'
    simp only [List.getElem_toArray]
    rw [e]
    have := e2 i hi' hij
    simp only [ival]
    rw [pr_eq]
    exact decide_eq_false this
  · unfold sizeLine; simp only [List.size_toArray]; omega
  · have hm1 : Obj.mapSeq (fun xs => xs.eraseIdxIfInBounds j) (W.listOf lvs.toArray c) = W.listOf (lvs.eraseIdx j).toArray (c + 1) := by
      have e4 : lvs.toArray.eraseIdxIfInBounds j = (lvs.eraseIdx j).toArray := by
        apply Array.toList_inj.mp; simp [Array.toList_eraseIdxIfInBounds]
      have e5 : ((lvs.eraseIdx j).toArray.size == lvs.toArray.size) = false := by
        rw [List.size_toArray, List.size_toArray, List.length_eraseIdx_of_lt (by omega)]
        simp; omega
      unfold Obj.mapSeq W.listOf
      simp only [e4, e5]
      rfl
    obtain ⟨F', N'⟩ := upd_head F N (Heap.SameBut.update _ D _) ((Heap.get?_update_self _ z.1 (by rw [hm1]; rfl)).trans (congrArg some hm1)) hne
    refine hQ (lvs.eraseIdx j) _ ?_ F' N'
    rw [e3, ← cI_eraseIdx]
    exact ints_eraseIdx j il
end Mine
end
section
open PySem PySem.W PyProof.Rows PySem.Spec PySem.Calls PyProof.V PySem.Builtin.Str
namespace Mine
theorem News.swap {h₀ h : Heap} {L : Addr} {p q : Addr × Obj} {r : List (Addr × Obj)} (N : News h₀ L h (p :: q :: r)) : News h₀ L h (q :: p :: r) := fun x hx => by
  rcases List.mem_cons.mp hx with rfl | hx
  · exact N _ (List.mem_cons_of_mem _ (List.mem_cons_self ..))
  · rcases List.mem_cons.mp hx with rfl | hx
    · exact N _ (List.mem_cons_self ..)
    · exact N _ (List.mem_cons_of_mem _ (List.mem_cons_of_mem _ hx))
theorem st_w3 (w : World) (h₀ : Heap) (L fa dw da x D : Addr) (cd : Value) (mm : Str → Option Value) (ox : Obj) (R : List (Addr × Obj)) (lvs : List Value) (lf : List Nat) (c Wd Ht D1 pk p : Nat) (tx : Str) (t1 t3 tr te tp tq : Tok) (mean : ExcName → Option Value) (mg mb : Str → Option Value) (s : Shared) (Q : Flow → Shared → Prop) (rest : List Stmt)
    (F : Fr h₀ L s.heap mm) (X : (KK w.params).In h₀) (T : Top vw Mine.lw mean mg mb h₀) (B : Below callerA h₀ [] h₀)
    (N : News h₀ L s.heap ((x, ox) :: (D, W.listOf lvs.toArray c) :: R)) (hxD : x ≠ D) (hD : ∀ q ∈ R, q.1 ≠ D) (il : IntsAre lvs (cI lf)) (hp : p ∈ lf) (h8 : lf.length ≤ 8)
    (hm : Has mm ((Str.ofString "p", .int (p : Int) tq) :: VLw Wd Ht dw da x D D1 pk tx t1 t3 tr te tp))
    (hrest : ∀ (lvs' : List Value) (m' : Str → Option Value) (h : Heap) (tk' : Nat), Fr h₀ L h m' → Has m' ((Str.ofString "p", .int (p : Int) tq) :: VLw Wd Ht dw da x D D1 pk tx t1 t3 tr te tp) → News h₀ L h ((x, ox) :: (D, W.listOf lvs'.toArray (c + 1)) :: R) → IntsAre lvs' (cI (lf.erase p)) →
      wpAny (model pw w) (LAr L fa cd) (execs rest (LE L fa cd)) Q NoE { s with heap := h, toks := tk' })
    : wpAny (model pw w) (LAr L fa cd) (execs (w3 :: rest) (LE L fa cd)) Q NoE s := by
  have F0 := Fr.list F _ hm
  dsimp only [VLw, VLz, VLp] at F0
  clear F
  iterate 9 (first | walk1 | (dsimp only; walk1))
  refine rem_list F0 (News.swap N) (fun q hq => ?_) il hp h8 fun lvs' h' il' F1 N1 => ?_
  · rcases List.mem_cons.mp hq with rfl | hq
    · exact hxD
    · exact hD q hq
  · skip
    have N2 := News.swap N1
    exact hrest lvs' _ h' _ F1 (by repeat' (first | exact Has.nil | refine Has.cons rfl ?_)) N2 il'
end Mine
end
section
open PySem PySem.W PyProof.Rows PySem.Spec PySem.Calls PyProof.V PySem.Builtin.Str
namespace Mine
noncomputable abbrev Nd (nl : List (Addr × Obj)) : Prop := (nl.map (·.1)).Nodup
theorem Nd.cons {d : Addr} {o : Obj} {nl : List (Addr × Obj)} (h : Nd nl) (hd : ∀ q ∈ nl, q.1 ≠ d) : Nd ((d, o) :: nl) := by
  refine List.nodup_cons.mpr ⟨fun hm => ?_, h⟩
  obtain ⟨q, hq, e⟩ := List.mem_map.mp hm
  exact hd q hq e
theorem Nd.split {d : Addr} {o : Obj} {pre post : List (Addr × Obj)} (h : Nd (pre ++ (d, o) :: post)) : (∀ q ∈ pre, q.1 ≠ d) ∧ (∀ q ∈ post, q.1 ≠ d) := by
  unfold Nd at h
  rw [List.map_append, List.map_cons] at h
  obtain ⟨_, h2, h3⟩ := List.nodup_append.mp h
  refine ⟨fun q hq e => ?_, fun q hq e => ?_⟩
  · exact h3 q.1 (List.mem_map_of_mem hq) d (List.mem_cons_self ..) e
  · exact (List.nodup_cons.mp h2).1 (List.mem_map.mpr ⟨q, hq, e⟩)
theorem Nd.upd {d : Addr} {o o' : Obj} {pre post : List (Addr × Obj)} (h : Nd (pre ++ (d, o) :: post)) : Nd (pre ++ (d, o') :: post) := by
  unfold Nd at h ⊢
  rw [List.map_append, List.map_cons] at h ⊢
  exact h
theorem upd_nd {h₀ h h' : Heap} {L d : Addr} {m : Str → Option Value} {o o' : Obj} {pre post : List (Addr × Obj)} (F : Fr h₀ L h m) (N : News h₀ L h (pre ++ (d, o) :: post)) (hn : Nd (pre ++ (d, o) :: post)) (hs : Heap.SameBut d h h') (ho : h'.get? d = some o') :
    Fr h₀ L h' m ∧ News h₀ L h' (pre ++ (d, o') :: post) := upd_at F N hs ho hn.split.1 hn.split.2
section
variable {prog : Program} {w : World} {A : Around} {E : Value → Shared → Prop} {s : Shared} {h₀ : Heap} {L fa : Addr} {cd : Value} {m : Str → Option Value} {o6 : Obj} {pre post nl : List (Addr × Obj)}
theorem stoLaid {v₀ : Option Value} {v : Value} {Q : Unit → Shared → Prop} (F : Fr h₀ L s.heap m) (N : News h₀ L s.heap (pre ++ (L + 1 + 1 + 1 + 1 + 1 + 1, o6) :: post)) (hn : Nd (pre ++ (L + 1 + 1 + 1 + 1 + 1 + 1, o6) :: post)) (hd : o6.data = .cell v₀)
    (hQ : ∀ h' o', o'.data = .cell (some v) → Fr h₀ L h' m → News h₀ L h' (pre ++ (L + 1 + 1 + 1 + 1 + 1 + 1, o') :: post) → Q () { s with heap := h' }) : wpAny (model prog w) A (storeName (LE L fa cd) (Str.ofString "laid") v) Q E s := by
  have hm := N (L + 1 + 1 + 1 + 1 + 1 + 1, o6) (List.mem_append_right _ (List.mem_cons_self ..))
  refine wpAny_storeName_cell (c := L + 1 + 1 + 1 + 1 + 1 + 1) rfl rfl rfl ⟨o6, hm.1, hd⟩ fun h' hv hs => ?_
  obtain ⟨o', ho', hd'⟩ := hv
  obtain ⟨F', N'⟩ := upd_nd F N hn hs ho'
  exact hQ h' o' hd' F' N'
theorem ldLaid {v : Value} {pos : Pos} {Q : Value → Shared → Prop} (N : News h₀ L s.heap nl) (hm : (L + 1 + 1 + 1 + 1 + 1 + 1, o6) ∈ nl) (hd : o6.data = .cell (some v)) (hQ : Q v s) : wpAny (model prog w) A (eval (.Name (Str.ofString "laid") pos) (LE L fa cd)) Q E s :=
  wpAny_Name (wpAny_loadName_cell (c := L + 1 + 1 + 1 + 1 + 1 + 1) rfl rfl rfl ⟨o6, (N _ hm).1, hd⟩ hQ) (by decide)
end
theorem st_w4 (w : World) (h₀ : Heap) (L fa dw da x D : Addr) (cd : Value) (mm : Str → Option Value) (o6 : Obj) (pre post : List (Addr × Obj)) (Wd Ht D1 pk p ld : Nat) (tx : Str) (t1 t3 tr te tp tq t0 : Tok) (mean : ExcName → Option Value) (mg mb : Str → Option Value) (s : Shared) (Q : Flow → Shared → Prop) (rest : List Stmt)
    (F : Fr h₀ L s.heap mm) (X : (KK w.params).In h₀) (T : Top vw Mine.lw mean mg mb h₀) (B : Below callerA h₀ [] h₀)
    (N : News h₀ L s.heap (pre ++ (L + 1 + 1 + 1 + 1 + 1 + 1, o6) :: post)) (hn : Nd (pre ++ (L + 1 + 1 + 1 + 1 + 1 + 1, o6) :: post)) (hd : o6.data = .cell (some (.int (ld : Int) t0))) (hp : p ≤ 64)
    (hm : Has mm ((Str.ofString "p", .int (p : Int) tq) :: VLw Wd Ht dw da x D D1 pk tx t1 t3 tr te tp))
    (hrest : ∀ (o6' : Obj) (t0' : Tok) (m' : Str → Option Value) (h : Heap) (tk' : Nat), Fr h₀ L h m' → Has m' ((Str.ofString "p", .int (p : Int) tq) :: VLw Wd Ht dw da x D D1 pk tx t1 t3 tr te tp) → News h₀ L h (pre ++ (L + 1 + 1 + 1 + 1 + 1 + 1, o6') :: post) → o6'.data = .cell (some (.int ((ld ^^^ 1 <<< p : Nat) : Int) t0')) →
      wpAny (model pw w) (LAr L fa cd) (execs rest (LE L fa cd)) Q NoE { s with heap := h, toks := tk' })
    : wpAny (model pw w) (LAr L fa cd) (execs (w4 :: rest) (LE L fa cd)) Q NoE s := by
  have F0 := Fr.list F _ hm
  dsimp only [VLw, VLz, VLp] at F0
  clear F hm
  iterate 6 (first | walk1 | (dsimp only; walk1))
  refine ldLaid N (List.mem_append_right _ (List.mem_cons_self ..)) hd ?_
  iterate 8 (first | walk1 | (dsimp only; walk1))
  refine args_nil ⟨X.keeps F0.keep, ?_⟩
  refine p_shlN w 1 p _ _ _ _ _ _ _ _ _ _ _ _ _ _ _ _ _ _ _ _ _ _ B F0 X (by assumption) rfl ⟨by omega, by omega⟩ (by ktr_room) (by ktr_room) fun t1' h1 tk1 hk1 => ?_
  have F1 := F0.kept (h' := h1) hk1
  have N1 := News.kp N hk1
  refine args_nil ⟨X.keeps F1.keep, ?_⟩
  refine p_xorN w ld (1 <<< p) _ _ _ _ _ _ _ _ _ _ _ _ _ _ _ _ _ _ _ _ _ _ B F1 X (by assumption) rfl trivial (by ktr_room) (by ktr_room) fun t2' h2 tk2 hk2 => ?_
  have F2 := F1.kept (h' := h2) hk2
  have N2 := News.kp N1 hk2
  clear F0 F1 N N1
  dsimp only
  refine stoLaid F2 N2 hn hd fun h3 o' hd' F3 N3 => ?_
  exact hrest o' _ _ _ _ F3 (by repeat' (first | exact Has.nil | refine Has.cons rfl ?_)) N3 hd'
noncomputable abbrev TIt := PItem × Nat
noncomputable abbrev tupO (q : TIt) : Obj := ⟨.type "tuple", none, .seq #[.str q.1.2.1.1 q.1.2.1.2, .str q.1.2.2.1 q.1.2.2.2] q.2, #[]⟩
noncomputable abbrev tnl (l : List TIt) : List (Addr × Obj) := l.map fun q => (q.1.1, tupO q)
noncomputable abbrev pvl (l : List TIt) : List Value := l.map fun q => .ref q.1.1
noncomputable def blanks (p : Nat) : Str := Txt.mul (Str.ofString " ") ((p : Int) + 1)
theorem News.sub {h₀ h : Heap} {L : Addr} {l l' : List (Addr × Obj)} (N : News h₀ L h l) (hs : ∀ q ∈ l', q ∈ l) : News h₀ L h l' := fun q hq => N q (hs q hq)
theorem Nd.snoc {d : Addr} {o : Obj} {nl : List (Addr × Obj)} (h : Nd nl) (hd : ∀ q ∈ nl, q.1 ≠ d) : Nd (nl ++ [(d, o)]) := by
  unfold Nd
  rw [List.map_append]
  refine List.nodup_append.mpr ⟨h, by simp, ?_⟩
  intro a ha b hb e
  obtain ⟨q, hq, e2⟩ := List.mem_map.mp ha
  simp only [List.map_cons, List.map_nil, List.mem_singleton] at hb
  exact hd q hq (e2.trans (e.trans hb))
theorem do_push (w : World) (h₀ : Heap) (L fa x dx : Addr) (cd : Value) (mm : Str → Option Value) (M : List (Addr × Obj)) (its : List TIt) (n : Nat) (a1 b1 : Str) (ta tb : CbTok) (q1 q2 : Tok) (room : Int) (mean : ExcName → Option Value) (mg mb : Str → Option Value) (s : Shared) (Q : Value → Shared → Prop) (E : Value → Shared → Prop)
    (F : Fr h₀ L s.heap mm) (X : (KK w.params).In h₀) (T : Top vw Mine.lw mean mg mb h₀) (B : Below callerA h₀ [] h₀)
    (N : News h₀ L s.heap ((x, pileO dx (pvl its) n) :: (M ++ tnl its))) (hn : Nd ((x, pileO dx (pvl its) n) :: (M ++ tnl its))) (hdx : (dx, pileD w.params q1 q2 room) ∈ M) (hl : its.length ≤ 20)
    (hQ : ∀ (T : Addr) (nt n' : Nat) (h : Heap) (tk' : Nat), Fr h₀ L h mm → News h₀ L h ((x, pileO dx (pvl (its ++ [((T, (a1, ta), (b1, tb)), nt)])) n') :: (M ++ tnl (its ++ [((T, (a1, ta), (b1, tb)), nt)]))) → Nd ((x, pileO dx (pvl (its ++ [((T, (a1, ta), (b1, tb)), nt)])) n') :: (M ++ tnl (its ++ [((T, (a1, ta), (b1, tb)), nt)]))) → Q .none { s with heap := h, toks := tk' }) :
    wpAny (model pw w) (LAr L fa cd) (call (.ref 87) [.ref x, .str a1 ta, .str b1 tb]) Q E s := by
  refine p_push w x dx (pvl its) n a1 b1 ta tb q1 q2 room _ _ _ _ _ _ _ _ _ _ _ _ _ _ _ _ _ _ _ _ B F X T rfl (by simp; omega) (by ktr_room) (by ktr_room) (News.sub N fun q hq => ?_) fun T n' nt h' tk' hk hx' hT hT' => ?_
  · simp only [List.mem_cons, List.not_mem_nil, or_false] at hq
    rcases hq with rfl | rfl
    · exact List.mem_cons_self ..
    · exact List.mem_cons_of_mem _ (List.mem_append_left _ hdx)
  · have hx0 := N _ (List.mem_cons_self ..)
    have hnx := (List.nodup_cons.mp hn).1
    have hxn : ∀ q ∈ M ++ tnl its, q.1 ≠ x := fun q hq e => hnx (List.mem_map.mpr ⟨q, hq, e⟩)
    have hxo : ∀ b o, h₀.get? b = some o → b ≠ x := fun b o e1 e2 => by rw [e2, hx0.2.2] at e1; cases e1
    have F' : Fr h₀ L h' mm := ⟨F.ns.at fun o e => hk _ o (fun e2 => hx0.2.1 e2.symm) e, fun b o e => hk b o (hxo b o e) (F.keep b o e), F.above⟩
    have hfr := fresh_ne N hT
    have hTL : T ≠ L := by
      rintro rfl
      obtain ⟨oL, _, _, e, _⟩ := F.ns
      rw [hT] at e; cases e
    have hT0 : h₀.get? T = none := by
      cases e : h₀.get? T with
      | none => rfl
      | some o => rw [F.keep _ _ e] at hT; cases hT
    refine hQ T nt n' h' tk' F' (fun q hq => ?_) ?_
    · rcases List.mem_cons.mp hq with rfl | hq
      · refine ⟨?_, hx0.2⟩
        rw [hx']; simp [pvl]
      · rcases List.mem_append.mp hq with hq | hq
        · have hq' := N q (List.mem_cons_of_mem _ (List.mem_append_left _ hq))
          exact ⟨hk _ _ (hxn q (List.mem_append_left _ hq)) hq'.1, hq'.2⟩
        · unfold tnl at hq
          rw [List.map_append] at hq
          rcases List.mem_append.mp hq with hq | hq
          · have hq' := N q (List.mem_cons_of_mem _ (List.mem_append_right _ hq))
            exact ⟨hk _ _ (hxn q (List.mem_append_right _ hq)) hq'.1, hq'.2⟩
          · simp only [List.map_cons, List.map_nil, List.mem_singleton] at hq
            subst hq
            exact ⟨hT', hTL, hT0⟩
    · have h1 : Nd (((x, pileO dx (pvl its) n) :: (M ++ tnl its)) ++ [(T, tupO ((T, (a1, ta), (b1, tb)), nt))]) := Nd.snoc hn hfr
      unfold Nd at h1 ⊢
      simpa [tnl] using h1
end Mine
end
section
open PySem PySem.W PyProof.Rows PySem.Spec PySem.Calls PyProof.V PySem.Builtin.Str
namespace Mine
theorem st_w5 (w : World) (h₀ : Heap) (L fa dw da x dx D : Addr) (cd : Value) (mm : Str → Option Value) (M : List (Addr × Obj)) (its : List TIt) (wvs : List Value) (wl : List Str) (nw n Wd Ht D1 pk p : Nat) (tx : Str) (q1 q2 : Tok) (t1 t3 tr te tp tq : Tok) (mean : ExcName → Option Value) (mg mb : Str → Option Value) (s : Shared) (Q : Flow → Shared → Prop) (rest : List Stmt)
    (F : Fr h₀ L s.heap mm) (X : (KK w.params).In h₀) (T : Top vw Mine.lw mean mg mb h₀) (B : Below callerA h₀ [] h₀)
    (N : News h₀ L s.heap ((x, pileO dx (pvl its) n) :: (M ++ tnl its))) (hn : Nd ((x, pileO dx (pvl its) n) :: (M ++ tnl its))) (hdx : (dx, pileD w.params q1 q2 ((D1 % 3 : Nat) : Int)) ∈ M) (mw : (dw, W.listOf wvs.toArray nw) ∈ M) (hl : its.length ≤ 20)
    (hws : StrsAre wvs wl) (hp : p < wl.length) (hp8 : p < 8)
    (hm : Has mm ((Str.ofString "p", .int (p : Int) tq) :: VLw Wd Ht dw da x D D1 pk tx t1 t3 tr te tp))
    (hrest : ∀ (T : Addr) (ta tb : CbTok) (nt n' : Nat) (m' : Str → Option Value) (h : Heap) (tk' : Nat), Fr h₀ L h m' → Has m' ((Str.ofString "p", .int (p : Int) tq) :: VLw Wd Ht dw da x D D1 pk tx t1 t3 tr te tp) → News h₀ L h ((x, pileO dx (pvl (its ++ [((T, (blanks p, ta), (wl.getD p ⟨#[]⟩, tb)), nt)])) n') :: (M ++ tnl (its ++ [((T, (blanks p, ta), (wl.getD p ⟨#[]⟩, tb)), nt)]))) → Nd ((x, pileO dx (pvl (its ++ [((T, (blanks p, ta), (wl.getD p ⟨#[]⟩, tb)), nt)])) n') :: (M ++ tnl (its ++ [((T, (blanks p, ta), (wl.getD p ⟨#[]⟩, tb)), nt)]))) →
      wpAny (model pw w) (LAr L fa cd) (execs rest (LE L fa cd)) Q NoE { s with heap := h, toks := tk' })
    : wpAny (model pw w) (LAr L fa cd) (execs (w5 :: rest) (LE L fa cd)) Q NoE s := by
  have F0 := Fr.list F _ hm
  dsimp only [VLw, VLz, VLp] at F0
  clear F hm
  iterate 4 (first | walk1 | (dsimp only; walk1))
  have II : InstAt s.heap x (pileO dx (pvl its) n) 143 (some (pileD w.params q1 q2 ((D1 % 3 : Nat) : Int))) := ⟨(N _ (List.mem_cons_self ..)).1, rfl, rfl, (N _ (List.mem_cons_of_mem _ (List.mem_append_left _ hdx))).1⟩
  refine method_any (K := KK w.params) (C := 143) (ox := pileO dx (pvl its) n) (od := some (pileD w.params q1 q2 ((D1 % 3 : Nat) : Int))) (v := .ref 87) (X.keeps F0.keep) II (ga := "list.__getattribute__") (by k_is) can_list (by k_is) (by k_is) (ty := .type "function") (looks_typeIn (X.keeps F0.keep) (by k_is)) (by decide) (by rfl) ?_
  iterate 13 (first | walk1 | (dsimp only; walk1))
  obtain ⟨tw, hw⟩ := hws.get p (wl.getD p ⟨#[]⟩) (by simp [List.getD_eq_getElem?_getD, hp])
  refine item_list (items := wvs.toArray) ⟨_, (N _ (List.mem_cons_of_mem _ (List.mem_append_left _ mw))).1, rfl, _, rfl⟩ (by omega) (by omega) (by simpa using hw) ?_
  refine args_nil ⟨X.keeps F0.keep, ?_⟩
  refine do_push w h₀ L fa x dx cd _ M its n (blanks p) (wl.getD p ⟨#[]⟩) _ _ q1 q2 _ mean mg mb _ _ _ F0 X T B N hn hdx hl fun T nt n' h tk' F1 N1 hn1 => ?_
  exact hrest T _ _ nt n' _ h tk' F1 (by repeat' (first | exact Has.nil | refine Has.cons rfl ?_)) N1 hn1
theorem st_w6 (w : World) (h₀ : Heap) (L fa dw da x D : Addr) (cd : Value) (mm : Str → Option Value) (nl : List (Addr × Obj)) (wvs : List Value) (wl : List Str) (nw Wd Ht D1 pk p : Nat) (tx : Str) (t1 t3 tr te tp tq : Tok) (mean : ExcName → Option Value) (mg mb : Str → Option Value) (s : Shared) (Q : Flow → Shared → Prop) (rest : List Stmt)
    (F : Fr h₀ L s.heap mm) (X : (KK w.params).In h₀) (T : Top vw Mine.lw mean mg mb h₀) (B : Below callerA h₀ [] h₀)
    (N : News h₀ L s.heap nl) (mw : (dw, W.listOf wvs.toArray nw) ∈ nl) (hws : StrsAre wvs wl) (hp : p < wl.length) (hp8 : p < 8) (hwl : ∀ x ∈ wl, x.length ≤ 8) (htx : tx.length ≤ 200)
    (hm : Has mm ((Str.ofString "p", .int (p : Int) tq) :: VLw Wd Ht dw da x D D1 pk tx t1 t3 tr te tp))
    (hrest : ∀ (te' : Tok) (m' : Str → Option Value) (h : Heap) (tk' : Nat), Fr h₀ L h m' → Has m' (VLw Wd Ht dw da x D D1 pk (tx ++ (blanks p ++ wl.getD p ⟨#[]⟩)) t1 t3 tr te' tp) → News h₀ L h nl →
      wpAny (model pw w) (LAr L fa cd) (execs rest (LE L fa cd)) Q NoE { s with heap := h, toks := tk' })
    : wpAny (model pw w) (LAr L fa cd) (execs (w6 :: rest) (LE L fa cd)) Q NoE s := by
  have F0 := Fr.list F _ hm
  dsimp only [VLw, VLz, VLp] at F0
  clear F hm
  have hwp : (wl.getD p ⟨#[]⟩).length ≤ 8 := by
    rw [List.getD_eq_getElem?_getD, List.getElem?_eq_getElem hp, Option.getD_some]
    exact hwl _ (List.getElem_mem _)
  iterate 14 (first | walk1 | (dsimp only; walk1))
  obtain ⟨tw, hw⟩ := hws.get p (wl.getD p ⟨#[]⟩) (by simp [List.getD_eq_getElem?_getD, hp])
  generalize wl.getD p ⟨#[]⟩ = y at hw hwp hrest
  refine item_list (items := wvs.toArray) ⟨_, (N _ mw).1, rfl, _, rfl⟩ (by omega) (by omega) (by simpa using hw) ?_
  have hl1 : (Txt.mul (Str.ofString " ") ((p : Int) + 1)).length ≤ 1 * 8 := len_mul_leN (Nat.le_of_eq rfl) (by omega)
  have hl2 : (Txt.mul (Str.ofString " ") ((p : Int) + 1) ++ y).length ≤ 16 := by
    have := Str.length_append (Txt.mul (Str.ofString " ") ((p : Int) + 1)) y
    omega
  iterate 3 (first | walk1 | (dsimp only; walk1))
  rename Fr _ _ _ _ => F5; rename News _ _ _ _ => N5
  exact hrest _ _ _ _ F5 (by repeat' (first | exact Has.nil | refine Has.cons rfl ?_)) N5
end Mine
end
section
open PySem PySem.W PyProof.Rows PySem.Spec PySem.Calls PyProof.V
namespace Mine
@[reducible] noncomputable def c0 : Stmt := by
  refine (⟨?b, ?h⟩ : {b : Stmt // b = stOr (bodyOf z21) 0}).1
  case h => conv => rhs; whnf
theorem c_eq : bodyOf z21 = [c0] := by rfl
@[reducible] noncomputable def cb0 : Stmt := by
  refine (⟨?b, ?h⟩ : {b : Stmt // b = stOr (bodyOf c0) 0}).1
  case h => conv => rhs; whnf
theorem cb_eq : bodyOf c0 = [cb0] := by rfl
@[reducible] noncomputable def hr0 : Stmt := by
  refine (⟨?b, ?h⟩ : {b : Stmt // b = stOr (bodyOf z24) 0}).1
  case h => conv => rhs; whnf
@[reducible] noncomputable def hr1 : Stmt := by
  refine (⟨?b, ?h⟩ : {b : Stmt // b = stOr (bodyOf z24) 1}).1
  case h => conv => rhs; whnf
@[reducible] noncomputable def hr2 : Stmt := by
  refine (⟨?b, ?h⟩ : {b : Stmt // b = stOr (bodyOf z24) 2}).1
  case h => conv => rhs; whnf
@[reducible] noncomputable def hr3 : Stmt := by
  refine (⟨?b, ?h⟩ : {b : Stmt // b = stOr (bodyOf z24) 3}).1
  case h => conv => rhs; whnf
@[reducible] noncomputable def hr4 : Stmt := by
  refine (⟨?b, ?h⟩ : {b : Stmt // b = stOr (bodyOf z24) 4}).1
  case h => conv => rhs; whnf
@[reducible] noncomputable def hr5 : Stmt := by
  refine (⟨?b, ?h⟩ : {b : Stmt // b = stOr (bodyOf z24) 5}).1
  case h => conv => rhs; whnf
@[reducible] noncomputable def hr6 : Stmt := by
  refine (⟨?b, ?h⟩ : {b : Stmt // b = stOr (bodyOf z24) 6}).1
  case h => conv => rhs; whnf
@[reducible] noncomputable def hr7 : Stmt := by
  refine (⟨?b, ?h⟩ : {b : Stmt // b = stOr (bodyOf z24) 7}).1
  case h => conv => rhs; whnf
@[reducible] noncomputable def hr8 : Stmt := by
  refine (⟨?b, ?h⟩ : {b : Stmt // b = stOr (bodyOf z24) 8}).1
  case h => conv => rhs; whnf
theorem hr_eq : bodyOf z24 = [hr0, hr1, hr2, hr3, hr4, hr5, hr6, hr7, hr8] := by rfl
@[reducible] noncomputable def du0 : Stmt := by
  refine (⟨?b, ?h⟩ : {b : Stmt // b = stOr (bodyOf hr2) 0}).1
  case h => conv => rhs; whnf
theorem du_eq : bodyOf hr2 = [du0] := by rfl
@[reducible] noncomputable def dub0 : Stmt := by
  refine (⟨?b, ?h⟩ : {b : Stmt // b = stOr (bodyOf du0) 0}).1
  case h => conv => rhs; whnf
theorem dub_eq : bodyOf du0 = [dub0] := by rfl
@[reducible] noncomputable def po0 : Stmt := by
  refine (⟨?b, ?h⟩ : {b : Stmt // b = stOr (bodyOf hr5) 0}).1
  case h => conv => rhs; whnf
@[reducible] noncomputable def po1 : Stmt := by
  refine (⟨?b, ?h⟩ : {b : Stmt // b = stOr (bodyOf hr5) 1}).1
  case h => conv => rhs; whnf
@[reducible] noncomputable def po2 : Stmt := by
  refine (⟨?b, ?h⟩ : {b : Stmt // b = stOr (bodyOf hr5) 2}).1
  case h => conv => rhs; whnf
@[reducible] noncomputable def po3 : Stmt := by
  refine (⟨?b, ?h⟩ : {b : Stmt // b = stOr (bodyOf hr5) 3}).1
  case h => conv => rhs; whnf
@[reducible] noncomputable def po4 : Stmt := by
  refine (⟨?b, ?h⟩ : {b : Stmt // b = stOr (bodyOf hr5) 4}).1
  case h => conv => rhs; whnf
theorem po_eq : bodyOf hr5 = [po0, po1, po2, po3, po4] := by rfl
@[reducible] noncomputable def pob0 : Stmt := by
  refine (⟨?b, ?h⟩ : {b : Stmt // b = stOr (bodyOf po2) 0}).1
  case h => conv => rhs; whnf
@[reducible] noncomputable def pob1 : Stmt := by
  refine (⟨?b, ?h⟩ : {b : Stmt // b = stOr (bodyOf po2) 1}).1
  case h => conv => rhs; whnf
theorem pob_eq : bodyOf po2 = [pob0, pob1] := by rfl
@[reducible] noncomputable def pu0 : Stmt := by
  refine (⟨?b, ?h⟩ : {b : Stmt // b = stOr (bodyOf hr7) 0}).1
  case h => conv => rhs; whnf
theorem pu_eq : bodyOf hr7 = [pu0] := by rfl
@[reducible] noncomputable def fi0 : Stmt := by
  refine (⟨?b, ?h⟩ : {b : Stmt // b = stOr (bodyOf z26) 0}).1
  case h => conv => rhs; whnf
@[reducible] noncomputable def fi1 : Stmt := by
  refine (⟨?b, ?h⟩ : {b : Stmt // b = stOr (bodyOf z26) 1}).1
  case h => conv => rhs; whnf
theorem fi_eq : bodyOf z26 = [fi0, fi1] := by rfl
end Mine
end
section
open PySem PySem.W PyProof.Rows PySem.Spec PySem.Calls PyProof.V PySem.Builtin.Str
namespace Mine
noncomputable def ItemsAre (wl : List Str) (its : List TIt) (ord : List Nat) : Prop := its.map (fun q => (q.1.2.1.1, q.1.2.2.1)) = ord.map fun p => (blanks p, wl.getD p ⟨#[]⟩)
noncomputable def wcp (wl : List Str) (p : Nat) : List Nat := (blanks p ++ wl.getD p ⟨#[]⟩).cps.toList
theorem ItemsAre.len {wl : List Str} {its : List TIt} {ord : List Nat} (h : ItemsAre wl its ord) : its.length = ord.length := by
  have := congrArg List.length h
  simpa using this
theorem ItemsAre.snoc {wl : List Str} {its : List TIt} {ord : List Nat} (h : ItemsAre wl its ord) (T : Addr) (p : Nat) (ta tb : Tok) (nt : Nat) : ItemsAre wl (its ++ [((T, (blanks p, ta), (wl.getD p ⟨#[]⟩, tb)), nt)]) (ord ++ [p]) := by
  unfold ItemsAre at h ⊢
  rw [List.map_append, List.map_append, h]
  rfl
noncomputable abbrev nlW (x dx D L : Addr) (R : List (Addr × Obj)) (its : List TIt) (n : Nat) (lvs : List Value) (c : Nat) (o6 : Obj) : List (Addr × Obj) :=
  (x, pileO dx (pvl its) n) :: (((D, W.listOf lvs.toArray c) :: (L + 1 + 1 + 1 + 1 + 1 + 1, o6) :: R) ++ tnl its)
noncomputable def IW (h₀ : Heap) (L dw da x dx D : Addr) (R : List (Addr × Obj)) (bs as : List Nat) (wl : List Str) (Wd Ht D1 : Nat) (t1 t3 tr : Tok) (s0 : Shared) (k : Nat) (s : Shared) : Prop :=
  ∃ (h : Heap) (tk : Nat) (m : Str → Option Value) (its : List TIt) (n c pk ld : Nat) (lvs : List Value) (lf ord : List Nat) (o6 : Obj) (tx : Str) (te tp t0 : Tok),
    s = { s0 with heap := h, toks := tk } ∧ Fr h₀ L h m ∧ Has m (VLw Wd Ht dw da x D D1 pk tx t1 t3 tr te tp) ∧
    News h₀ L h (nlW x dx D L R its n lvs c o6) ∧ Nd (nlW x dx D L R its n lvs c o6) ∧ IntsAre lvs (cI lf) ∧ o6.data = .cell (some (.int (ld : Int) t0)) ∧ lf.length = k ∧
    ext (Wd * Ht) bs as lf.length lf ld ord = true ∧ ord.length + lf.length = Wd * Ht ∧ (∀ p ∈ lf, p < Wd * Ht) ∧ (∀ p ∈ ord, p < Wd * Ht) ∧ ItemsAre wl its ord ∧ tx.cps.toList = ord.flatMap (wcp wl)
theorem blanks_len {p : Nat} (h : p < 8) : (blanks p).length ≤ 8 := by
  have : (Txt.mul (Str.ofString " ") ((p : Int) + 1)).length ≤ 1 * 8 := len_mul_leN (Nat.le_of_eq rfl) (by omega)
  exact this
theorem wcp_len {wl : List Str} {p : Nat} (hwl : ∀ x ∈ wl, x.length ≤ 8) (hp8 : p < 8) (hp : p < wl.length) : (wcp wl p).length ≤ 16 := by
  have h1 := blanks_len hp8
  have h2 : (wl.getD p ⟨#[]⟩).length ≤ 8 := by
    rw [List.getD_eq_getElem?_getD, List.getElem?_eq_getElem hp, Option.getD_some]
    exact hwl _ (List.getElem_mem _)
  have h3 := Str.length_append (blanks p) (wl.getD p ⟨#[]⟩)
  have : (wcp wl p).length = (blanks p ++ wl.getD p ⟨#[]⟩).length := by simp [wcp, Str.length]
  omega
theorem tx_len {wl : List Str} {n : Nat} (hwl : ∀ x ∈ wl, x.length ≤ 8) (hn : n ≤ 8) (hwn : wl.length = n) : ∀ {ord : List Nat}, (∀ p ∈ ord, p < n) → (ord.flatMap (wcp wl)).length ≤ 16 * ord.length
  | [], _ => by simp
  | p :: r, h => by
    rw [List.flatMap_cons, List.length_append, List.length_cons]
    have h1 := tx_len hwl hn hwn (ord := r) fun p hp => h p (List.mem_cons_of_mem _ hp)
    have hp := h p (List.mem_cons_self ..)
    have h2 := wcp_len hwl (by omega : p < 8) (by omega : p < wl.length)
    omega
theorem w_turn (w : World) (h₀ : Heap) (L fa dw da db x dx D : Addr) (cd : Value) (mm : Str → Option Value) (o5 o6 : Obj) (R : List (Addr × Obj)) (its : List TIt) (bvs lvs wvs : List Value) (bs as lf ord : List Nat) (wl : List Str) (c n nw Wd Ht D1 pk ld : Nat) (tx : Str) (q1 q2 : Tok) (t1 t3 tr te tp t0 : Tok) (mean : ExcName → Option Value) (mg mb : Str → Option Value) (s0 : Shared) (hh : Heap) (htk : Nat)
    (F : Fr h₀ L hh mm) (X : (KK w.params).In h₀) (T : Top vw Mine.lw mean mg mb h₀) (B : Below callerA h₀ [] h₀)
    (N : News h₀ L hh (nlW x dx D L R its n lvs c o6)) (hn : Nd (nlW x dx D L R its n lvs c o6))
    (m5 : (L + 1 + 1 + 1 + 1 + 1, o5) ∈ R) (mb' : (db, W.listOf bvs.toArray 0) ∈ R) (mw : (dw, W.listOf wvs.toArray nw) ∈ R) (hdx : (dx, pileD w.params q1 q2 ((D1 % 3 : Nat) : Int)) ∈ R)
    (d5 : o5.data = .cell (some (.ref db))) (d6 : o6.data = .cell (some (.int (ld : Int) t0))) (ib : IntsAre bvs (cI bs)) (il : IntsAre lvs (cI lf)) (hbl : bs.length = Wd * Ht) (h8 : Wd * Ht ≤ 8) (hws : StrsAre wvs wl) (hwn : wl.length = Wd * Ht) (hwl : ∀ x ∈ wl, x.length ≤ 8)
    (hlf : ∀ p ∈ lf, p < Wd * Ht) (hord : ∀ p ∈ ord, p < Wd * Ht) (hlen : ord.length + lf.length = Wd * Ht) (hne : lf ≠ []) (hext : ext (Wd * Ht) bs as lf.length lf ld ord = true) (hit : ItemsAre wl its ord) (htx : tx.cps.toList = ord.flatMap (wcp wl))
    (hm : Has mm (VLw Wd Ht dw da x D D1 pk tx t1 t3 tr te tp)) (Q : Flow → Shared → Prop)
    (hQ : ∀ s', IW h₀ L dw da x dx D R bs as wl Wd Ht D1 t1 t3 tr s0 (lf.length - 1) s' → Q .next s')
    : wpAny (model pw w) (LAr L fa cd) (execs [w0, w1, w2, w3, w4, w5, w6] (LE L fa cd)) Q NoE { s0 with heap := hh, toks := htk } := by
  have inR : ∀ {q : Addr × Obj}, q ∈ R → ∀ {lvs : List Value} {c : Nat} {o6 : Obj} {its : List TIt} {n : Nat}, q ∈ nlW x dx D L R its n lvs c o6 := fun hq => List.mem_cons_of_mem _ (List.mem_append_left _ (List.mem_cons_of_mem _ (List.mem_cons_of_mem _ hq)))
  have hl0 : 0 < lf.length := List.length_pos_iff.mpr hne
  have hxk : ext (Wd * Ht) bs as ((lf.length - 1) + 1) lf ld ord = true := by rw [Nat.sub_add_cancel hl0]; exact hext
  obtain ⟨hf0, hfs⟩ := ext_step hxk hne
  refine st_w0 w h₀ L fa dw da db x D cd mm o5 o6 (nlW x dx D L R its n lvs c o6) bvs lvs bs lf c Wd Ht D1 pk ld tx t1 t3 tr te tp t0 mean mg mb _ Q _ F X T B N (inR m5) (List.mem_cons_of_mem _ (List.mem_append_left _ (List.mem_cons_of_mem _ (List.mem_cons_self ..)))) (inR mb') (List.mem_cons_of_mem _ (List.mem_append_left _ (List.mem_cons_self ..))) d5 d6 ib il (by omega) (by rw [hbl]; exact hlf) (by omega) hm fun Df fvs cf m1 h1 tk1 F1 hm1 N1 il1 hD1 => ?_
  have hfl : lf.filter (fkeep bs ld) = freeL bs lf ld := rfl
  rw [hfl] at il1
  have hfpos : 0 < (freeL bs lf ld).length := List.length_pos_iff.mpr hf0
  have hfle : (freeL bs lf ld).length ≤ lf.length := List.length_filter_le _ _
  refine st_w1 w h₀ L fa dw da x D Df cd m1 (nlW x dx D L R its n lvs c o6) fvs (freeL bs lf ld) cf Wd Ht D1 pk tx t1 t3 tr te tp mean mg mb _ Q _ F1 X T B N1 il1 hfpos (by omega) hm1 fun tp' tq m2 h2 tk2 F2 hm2 N2 => ?_
  have hpm : (freeL bs lf ld).getD (pk % (freeL bs lf ld).length) 0 ∈ freeL bs lf ld := by
    have := Nat.mod_lt pk hfpos
    rw [List.getD_eq_getElem?_getD, List.getElem?_eq_getElem this, Option.getD_some]
    exact List.getElem_mem _
  generalize (freeL bs lf ld).getD (pk % (freeL bs lf ld).length) 0 = p at hpm hm2
  generalize pk / (freeL bs lf ld).length = pk' at hm2
  have hpl : p ∈ lf := (List.mem_filter.mp hpm).1
  have hpn := hlf p hpl
  have hx2 := hfs p hpm
  clear N1 F1 hm1 il1 N F hm
  have hxD : x ≠ D := fun e => (List.nodup_cons.mp hn).1 (List.mem_map.mpr ⟨(D, W.listOf lvs.toArray c), List.mem_append_left _ (List.mem_cons_self ..), e.symm⟩)
  have hDR : ∀ q ∈ (L + 1 + 1 + 1 + 1 + 1 + 1, o6) :: (R ++ tnl its), q.1 ≠ D := (Nd.split (pre := [(x, pileO dx (pvl its) n)]) (post := (L + 1 + 1 + 1 + 1 + 1 + 1, o6) :: (R ++ tnl its)) hn).2
  refine st_w3 w h₀ L fa dw da x D cd m2 (pileO dx (pvl its) n) ((L + 1 + 1 + 1 + 1 + 1 + 1, o6) :: (R ++ tnl its)) lvs lf c Wd Ht D1 pk' p tx t1 t3 tr te tp' tq mean mg mb _ Q _ F2 X T B N2 hxD hDR il hpl (by omega) hm2 fun lvs' m3 h3 tk3 F3 hm3 N3 il3 => ?_
  have hn3 : Nd (nlW x dx D L R its n lvs' (c + 1) o6) := hn
  clear N2 F2 hm2
  refine st_w4 w h₀ L fa dw da x D cd m3 o6 [(x, pileO dx (pvl its) n), (D, W.listOf lvs'.toArray (c + 1))] (R ++ tnl its) Wd Ht D1 pk' p ld tx t1 t3 tr te tp' tq t0 mean mg mb _ Q _ F3 X T B N3 hn3 d6 (by omega) hm3 fun o6' t0' m4 h4 tk4 F4 hm4 N4 d4 => ?_
  have hn4 : Nd (nlW x dx D L R its n lvs' (c + 1) o6') := hn
  clear N3 F3 hm3 hn3
  have hil := hit.len
  refine st_w5 w h₀ L fa dw da x dx D cd m4 ((D, W.listOf lvs'.toArray (c + 1)) :: (L + 1 + 1 + 1 + 1 + 1 + 1, o6') :: R) its wvs wl nw n Wd Ht D1 pk' p tx q1 q2 t1 t3 tr te tp' tq mean mg mb _ Q _ F4 X T B N4 hn4 (List.mem_cons_of_mem _ (List.mem_cons_of_mem _ hdx)) (List.mem_cons_of_mem _ (List.mem_cons_of_mem _ mw)) (by omega) hws (by omega) (by omega) hm4 fun TT ta tb nt n' m5' h5 tk5 F5 hm5 N5 hn5 => ?_
  clear N4 F4 hm4 hn4
  have htl : tx.length ≤ 200 := by
    have e1 : tx.length = tx.cps.toList.length := by simp [Str.length]
    rw [e1, htx]
    have := tx_len hwl h8 hwn hord
    omega
  refine st_w6 w h₀ L fa dw da x D cd m5' _ wvs wl nw Wd Ht D1 pk' p tx t1 t3 tr te tp' tq mean mg mb _ Q _ F5 X T B N5 (inR mw) hws (by omega) (by omega) hwl htl hm5 fun te' m6' h6 tk6 F6 hm6 N6 => ?_
  refine wpAny_execs_nil ?_
  have hel : (lf.erase p).length = lf.length - 1 := List.length_erase_of_mem hpl
  refine hQ _ ⟨h6, tk6, m6', _, n', c + 1, pk', ld ^^^ 1 <<< p, lvs', lf.erase p, ord ++ [p], o6', _, te', tp', t0', rfl, F6, hm6, N6, hn5, il3, d4, hel, ?_, ?_, ?_, ?_, hit.snoc TT p ta tb nt, ?_⟩
  · rw [hel]; exact hx2
  · rw [hel, List.length_append]; simp; omega
  · exact fun q hq => hlf q (List.mem_of_mem_erase hq)
  · intro q hq
    rcases List.mem_append.mp hq with hq | hq
    · exact hord q hq
    · simp only [List.mem_singleton] at hq; subst hq; exact hpn
  · rw [cps_app, htx, List.flatMap_append]
    simp [wcp]
end Mine
end
section
open PySem PySem.W PyProof.Rows PySem.Spec PySem.Calls PyProof.V PySem.Builtin.Str
namespace Mine
theorem st_z17 (w : World) (h₀ : Heap) (L fa dw da db x dx D : Addr) (cd : Value) (mm : Str → Option Value) (o5 o6 : Obj) (R : List (Addr × Obj)) (bvs lvs wvs : List Value) (bs as : List Nat) (wl : List Str) (c n nw Wd Ht D1 pk : Nat) (q1 q2 : Tok) (t1 t3 tr te tp t0 : Tok) (mean : ExcName → Option Value) (mg mb : Str → Option Value) (s : Shared) (Q : Flow → Shared → Prop) (rest : List Stmt)
    (F : Fr h₀ L s.heap mm) (X : (KK w.params).In h₀) (T : Top vw Mine.lw mean mg mb h₀) (B : Below callerA h₀ [] h₀)
    (N : News h₀ L s.heap (nlW x dx D L R [] n lvs c o6)) (hn : Nd (nlW x dx D L R [] n lvs c o6))
    (m5 : (L + 1 + 1 + 1 + 1 + 1, o5) ∈ R) (mb' : (db, W.listOf bvs.toArray 0) ∈ R) (mw : (dw, W.listOf wvs.toArray nw) ∈ R) (hdx : (dx, pileD w.params q1 q2 ((D1 % 3 : Nat) : Int)) ∈ R)
    (d5 : o5.data = .cell (some (.ref db))) (d6 : o6.data = .cell (some (.int 0 t0))) (ib : IntsAre bvs (cI bs)) (il : IntsAre lvs (cI (List.range (Wd * Ht)))) (hbl : bs.length = Wd * Ht) (h8 : Wd * Ht ≤ 8) (hws : StrsAre wvs wl) (hwn : wl.length = Wd * Ht) (hwl : ∀ x ∈ wl, x.length ≤ 8)
    (hext : ext (Wd * Ht) bs as (Wd * Ht) (List.range (Wd * Ht)) 0 [] = true)
    (hm : Has mm (VLw Wd Ht dw da x D D1 pk (Str.ofString "") t1 t3 tr te tp))
    (hrest : ∀ (h : Heap) (tk : Nat) (m : Str → Option Value) (its : List TIt) (n c pk ld : Nat) (lvs : List Value) (ord : List Nat) (o6 : Obj) (tx : Str) (te tp : Tok), Fr h₀ L h m → Has m (VLw Wd Ht dw da x D D1 pk tx t1 t3 tr te tp) →
      News h₀ L h (nlW x dx D L R its n lvs c o6) → Nd (nlW x dx D L R its n lvs c o6) → okOrd (Wd * Ht) bs as ord = true → ord.length = Wd * Ht → (∀ p ∈ ord, p < Wd * Ht) → ItemsAre wl its ord → tx.cps.toList = ord.flatMap (wcp wl) →
      wpAny (model pw w) (LAr L fa cd) (execs rest (LE L fa cd)) Q NoE { s with heap := h, toks := tk })
    : wpAny (model pw w) (LAr L fa cd) (execs (z17 :: rest) (LE L fa cd)) Q NoE s := by
  refine wpAny_execs_cons ?_
  refine While_J (IW h₀ L dw da x dx D R bs as wl Wd Ht D1 t1 t3 tr s) (fun k s' hI => ?_) (n := Wd * Ht) ?_
  · obtain ⟨h, tk, m, its, n', c', pk', ld, lvs', lf, ord, o6', tx, te', tp', t0', rfl, F1, hm1, N1, hn1, il1, d1, hk, hx1, hlen1, hlf1, hord1, hit1, htx1⟩ := hI
    have F0 := Fr.list F1 _ hm1
    dsimp only [VLw, VLz, VLp] at F0
    have mD : (D, W.listOf lvs'.toArray c') ∈ nlW x dx D L R its n' lvs' c' o6' := List.mem_cons_of_mem _ (List.mem_append_left _ (List.mem_cons_self ..))
    iterate 2 (first | walk1 | (dsimp only; walk1))
    have hlvl : lvs'.length = lf.length := by rw [il1.length, cI_len]
    refine wpAny_truthy_list (items := lvs'.toArray) ⟨_, (N1 _ mD).1, rfl, _, rfl⟩ (by simp only [List.size_toArray]; omega) ?_
    by_cases h0 : lf = []
    · subst h0
      have hl0 : lvs' = [] := List.eq_nil_of_length_eq_zero (by rw [hlvl]; rfl)
      subst hl0
      rw [if_neg (by simp)]
      exact hrest h (tk + 1 + 1) m its n' c' pk' ld [] ord o6' tx te' tp' F1 hm1 N1 hn1 (ext_end hx1) (by simpa using hlen1) hord1 hit1 htx1
    · rw [if_pos (by simp [hlvl, h0]; exact fun e => h0 (List.eq_nil_of_length_eq_zero (by rw [← hlvl, e]; rfl)))]
      refine w_turn w h₀ L fa dw da db x dx D cd m o5 o6' R its bvs lvs' wvs bs as lf ord wl c' n' nw Wd Ht D1 pk' ld tx q1 q2 t1 t3 tr te' tp' t0' mean mg mb s h (tk + 1 + 1) F1 X T B N1 hn1 m5 mb' mw hdx d5 d1 ib il1 hbl h8 hws hwn hwl hlf1 hord1 hlen1 h0 hx1 hit1 htx1 hm1 _ fun s' hI => ?_
      refine ⟨lf.length - 1, ?_, hI⟩
      have := List.length_pos_iff.mpr h0
      omega
  · exact ⟨s.heap, s.toks, mm, [], n, c, pk, 0, lvs, List.range (Wd * Ht), [], o6, Str.ofString "", te, tp, t0, rfl, F, hm, N, hn, il, d6, by simp, by simpa using hext, by simp, (fun p hp => List.mem_range.mp hp), (fun p hp => nomatch hp), rfl, rfl⟩
end Mine
end
section
open PySem PySem.W PyProof.Rows PySem.Spec PySem.Calls PyProof.V PySem.Builtin.Str
namespace Mine
theorem rebase {h₀ h h' : Heap} {L P : Addr} {m : Str → Option Value} {ps ps' : Array Value} {mean : ExcName → Option Value} {mg mb : Str → Option Value} {Pm : Params} {nl : List (Addr × Obj)} (F : Fr h₀ L h m) (X : (KK Pm).In h₀) (T : Top vw lw mean mg mb h₀) (N : News h₀ L h nl) (hP : P = 105 ∨ P = 112) (hp : h₀.get? P = some { cls := .none, data := .fields ps })
    (hk : ∀ b o, b ≠ P → h.get? b = some o → h'.get? b = some o) (hp' : h'.get? P = some { cls := .none, data := .fields ps' }) :
    Fr (regrown h₀ P ps') L h' m ∧ (KK Pm).In (regrown h₀ P ps') ∧ Top vw lw mean mg mb (regrown h₀ P ps') ∧ News (regrown h₀ P ps') L h' nl ∧ (∀ b o, b ≠ P → h₀.get? b = some o → (regrown h₀ P ps').get? b = some o) ∧ (regrown h₀ P ps').get? P = some { cls := .none, data := .fields ps' } := by
  have hself : (regrown h₀ P ps').get? P = some { cls := .none, data := .fields ps' } := Heap.get?_update_self _ hp rfl
  have hoth : ∀ b, b ≠ P → (regrown h₀ P ps').get? b = h₀.get? b := fun b hb => Heap.get?_update_other _ _ (Ne.symm hb)
  have hk0 : ∀ b o, b ≠ P → h₀.get? b = some o → (regrown h₀ P ps').get? b = some o := fun b o hb e => (hoth b hb).trans e
  have hPlt : P < h₀.objs.size := Heap.lt_size hp
  have hLP : L ≠ P := Nat.ne_of_gt (Nat.lt_of_lt_of_le hPlt F.above)
  refine ⟨⟨F.ns.at fun o e => hk _ o hLP e, fun b o e => ?_, Nat.le_trans (Nat.le_of_eq (Heap.SameBut.update h₀ P _).1) F.above⟩, fun b o e => ?_, top_reb T X hP hp hk0, fun q hq => ?_, hk0, hself⟩
  · by_cases hb : b = P
    · subst hb; rw [hself] at e; cases e; exact hp'
    · rw [hoth b hb] at e; exact hk b o hb (F.keep b o e)
  · refine hk0 b o ?_ (X b o e)
    rintro rfl
    rcases hP with rfl | rfl
    · rw [kkn105] at e; cases e
    · rw [kkn112] at e; cases e
  · obtain ⟨a1, a2, a3⟩ := N q hq
    have hb : q.1 ≠ P := fun e => by rw [e, hp] at a3; cases a3
    exact ⟨hk _ _ hb a1, a2, (hoth _ hb).trans a3⟩
theorem tab_at {h : Heap} {c P : Addr} {ps : Array Value} (t : h.TableAt c P ps) : h.get? P = some { cls := .none, data := .fields ps } := t.2
/-- a table that an end state bears, in the heap below the frame -/
theorem code_back {h₁ h' : Heap} {L c P : Addr} {m : Str → Option Value} {ps : Array Value} (F : Fr h₁ L h' m) (hc : h'.IsCode c P ps) (o : Obj) (h1 : h₁.get? c = some o) (h2 : h₁.get? P = some { cls := .none, data := .fields ps }) : h₁.IsCode c P ps :=
  hc.at2 (fun _ e => h1.trans ((F.keep _ _ h1).symm.trans e)) fun _ e => h2.trans ((F.keep _ _ h2).symm.trans e)
theorem table_back {h₁ h' : Heap} {L c P : Addr} {m : Str → Option Value} {ps : Array Value} (F : Fr h₁ L h' m) (hc : h'.TableAt c P ps) (o : Obj) (h1 : h₁.get? c = some o) (h2 : h₁.get? P = some { cls := .none, data := .fields ps }) : h₁.TableAt c P ps :=
  hc.at2 (fun _ e => h1.trans ((F.keep _ _ h1).symm.trans e)) fun _ e => h2.trans ((F.keep _ _ h2).symm.trans e)
theorem code_obj {h : Heap} {c P : Addr} {ps : Array Value} (x : h.TableAt c P ps) : ∃ o, h.get? c = some o := let ⟨⟨o, _, a, _⟩, _⟩ := x; ⟨o, a⟩
noncomputable def Reb (h₀ h₁ : Heap) : Prop := ∀ b o, b ≠ 105 → b ≠ 112 → h₀.get? b = some o → h₁.get? b = some o
theorem tups_of {h₀ h : Heap} {L : Addr} {nl : List (Addr × Obj)} (N : News h₀ L h nl) (its : List TIt) (hs : ∀ q ∈ tnl its, q ∈ nl) : Tups h (its.map (·.1)) := by
  intro p hp
  obtain ⟨q, hq, rfl⟩ := List.mem_map.mp hp
  exact ⟨q.2, (N _ (hs _ (List.mem_map.mpr ⟨q, hq, rfl⟩))).1⟩
theorem pvl_eq (its : List TIt) : pvals (its.map (·.1)) = pvl its := by simp [pvals, pvl]
theorem st_z18 (w : World) (h₀ : Heap) (L fa dw da x dx D : Addr) (cd : Value) (mm : Str → Option Value) (nl : List (Addr × Obj)) (its : List TIt) (pa pb : Array Value) (n Wd Ht D1 pk : Nat) (tx : Str) (q1 q2 : Tok) (t1 t3 tr te tp : Tok) (mean : ExcName → Option Value) (mg mb : Str → Option Value) (s : Shared) (Q : Flow → Shared → Prop) (rest : List Stmt)
    (F : Fr h₀ L s.heap mm) (X : (KK w.params).In h₀) (T : Top vw Mine.lw mean mg mb h₀) (B : Below callerA h₀ [] h₀)
    (N : News h₀ L s.heap nl) (hx : (x, pileO dx (pvl its) n) ∈ nl) (hdx : (dx, pileD w.params q1 q2 ((D1 % 3 : Nat) : Int)) ∈ nl) (hts : ∀ q ∈ tnl its, q ∈ nl)
    (hl : its.length ≤ 10) (hz : ∀ p ∈ its.map (·.1), p.2.1.1.length ≤ 20 ∧ p.2.2.1.length ≤ 20)
    (CA : h₀.IsCode 109 105 pa) (TA : h₀.TableAt 109 105 pa) (CB : h₀.IsCode 116 112 pb) (TB : h₀.TableAt 116 112 pb) (G : AllBare s.gens)
    (e1 : Txt.join (Str.ofString "") ((its.map (·.1)).map pjoin) = tx) (e2 : ((its.map (·.1)).map fun p => p.2.1.1.length + p.2.2.1.length).sum = tx.length) (htx : tx.length ≤ 200)
    (hm : Has mm (VLw Wd Ht dw da x D D1 pk tx t1 t3 tr te tp))
    (hrest : ∀ (h₂ : Heap) (pa pb : Array Value) (m' : Str → Option Value) (s' : Shared), Fr h₂ L s'.heap m' → (KK w.params).In h₂ → Top vw Mine.lw mean mg mb h₂ → Has m' (VLw Wd Ht dw da x D D1 pk tx t1 t3 tr te tp) → News h₂ L s'.heap nl → Reb h₀ h₂ → h₂.TableAt 109 105 pa → h₂.IsCode 116 112 pb → h₂.TableAt 116 112 pb → AllBare s'.gens → s'.os = s.os →
      wpAny (model pw w) (LAr L fa cd) (execs rest (LE L fa cd)) Q NoE s')
    : wpAny (model pw w) (LAr L fa cd) (execs (z18 :: rest) (LE L fa cd)) Q NoE s := by
  have F0 := Fr.list F _ hm
  dsimp only [VLw, VLz, VLp] at F0
  clear F hm
  iterate 10 (first | walk1 | (dsimp only; walk1))
  have hsn := N _ hx
  refine p_str w x dx (its.map (·.1)) n q1 q2 _ pb _ _ _ _ _ _ _ _ _ _ _ _ _ _ _ _ _ _ _ _ B F0 X T rfl (by ktr_room) (by ktr_room) (by rw [pvl_eq]; exact (N _ hx).1) (N _ hdx).1 (tups_of N its hts) (by simpa using hl) hz (CB.keeps F0.keep) (TB.keeps F0.keep) G fun t9 s9 pb' hk9 CB9 TB9 G9 os9 => ?_
  rw [e1]
  obtain ⟨F1, X1, T1, N1, R1, g1⟩ := rebase F0 X T N (.inr rfl) (tab_at TB) hk9 (tab_at TB9)
  have B1 : Below callerA (regrown h₀ 112 pb') [] (regrown h₀ 112 pb') := below_caller _
  obtain ⟨oc9, hoc9⟩ := code_obj TB
  have hne9 : (116 : Addr) ≠ 112 := by decide
  have CB1 := code_back F1 CB9 oc9 (R1 _ _ hne9 hoc9) g1
  have TB1 := table_back F1 TB9 oc9 (R1 _ _ hne9 hoc9) g1
  have CA1 : (regrown h₀ 112 pb').IsCode 109 105 pa := Heap.IsCode.at2 CA (fun o e => R1 _ o (by decide) e) (fun o e => R1 _ o (by decide) e)
  have TA1 : (regrown h₀ 112 pb').TableAt 109 105 pa := Heap.TableAt.at2 TA (fun o e => R1 _ o (by decide) e) (fun o e => R1 _ o (by decide) e)
  clear F0 N CB9 TB9 hk9 hsn
  iterate 2 (first | walk1 | (dsimp only; walk1))
  rw [show (tx != tx) = false from by simp]
  iterate 10 (first | walk1 | (dsimp only; walk1))
  refine p_len w x dx (its.map (·.1)) n q1 q2 _ pa _ _ _ _ _ _ _ _ _ _ _ _ _ _ _ _ _ _ _ _ B1 F1 X1 T1 rfl (by ktr_room) (by ktr_room) (by rw [pvl_eq]; exact (N1 _ hx).1) (N1 _ hdx).1 (tups_of N1 its hts) (by simpa using hl) hz (CA1.keeps F1.keep) (TA1.keeps F1.keep) G9 (by omega) fun t8 s8 pa' hk8 CA8 TA8 G8 os8 => ?_
  rw [e2]
  obtain ⟨F2, X2, T2, N2, R2, g2⟩ := rebase F1 X1 T1 N1 (.inl rfl) (tab_at TA1) hk8 (tab_at TA8)
  obtain ⟨oc8, hoc8⟩ := code_obj TA1
  have hne8 : (109 : Addr) ≠ 105 := by decide
  have CA2 := code_back F2 CA8 oc8 (R2 _ _ hne8 hoc8) g2
  have TA2 := table_back F2 TA8 oc8 (R2 _ _ hne8 hoc8) g2
  have CB2 : (regrown (regrown h₀ 112 pb') 105 pa').IsCode 116 112 pb' := Heap.IsCode.at2 CB1 (fun o e => R2 _ o (by decide) e) (fun o e => R2 _ o (by decide) e)
  have TB2 : (regrown (regrown h₀ 112 pb') 105 pa').TableAt 116 112 pb' := Heap.TableAt.at2 TB1 (fun o e => R2 _ o (by decide) e) (fun o e => R2 _ o (by decide) e)
  have RR : Reb h₀ (regrown (regrown h₀ 112 pb') 105 pa') := fun b o h1 h2 e => R2 b o h1 (R1 b o h2 e)
  clear F1 N1 CA8 TA8 hk8 CA1 TA1 CB1 TB1 g1 g2 X1 T1 B1
  generalize regrown (regrown h₀ 112 pb') 105 pa' = h₂ at F2 X2 T2 N2 CA2 TA2 CB2 TB2 RR
  clear R1 R2
  have B2 : Below callerA h₂ [] h₂ := below_caller _
  iterate 11 (first | walk1 | (dsimp only; walk1))
  rw [show ((((D1 % 3 : Nat) : Int) + ((tx.length : Nat) : Int)) != ((D1 % 3 : Nat) : Int) + (tx.length : Int)) = false from by simp]
  iterate 1 (first | walk1 | (dsimp only; walk1))
  rw [if_neg (by decide)]
  iterate 1 (first | walk1 | (dsimp only; walk1))
  rw [if_neg (by decide)]
  refine wpAny_execs_nil ?_
  dsimp only
  exact hrest h₂ pa' pb' _ { heap := s8.heap, gens := s8.gens, drawn := s8.drawn, toks := s8.toks + 1 + 1 + 1, os := s8.os } F2 X2 T2 (by repeat' (first | exact Has.nil | refine Has.cons rfl ?_)) N2 RR TA2 CB2 TB2 G8 (os8.trans os9)
end Mine
end
section
open PySem PySem.W PyProof.Rows PySem.Spec PySem.Calls PyProof.V PySem.Builtin.Str
namespace Mine
noncomputable def hgV (D1 Ht : Nat) (k : Int) : Int := ((D1 / 5 ^ k.toNat % (Ht + 1) : Nat) : Int)
theorem ints_of : ∀ {ts : List Int} {ys : List Value}, ys.length = ts.length → (∀ (j : Nat) (x : Int), ts[j]? = some x → ∃ t, ys[j]? = some (Value.int x t)) → IntsAre ys ts
  | [], [], _, _ => .nil
  | [], _ :: _, h, _ => by simp at h
  | _ :: _, [], h, _ => by simp at h
  | x :: ts, y :: ys, h, f => by
    obtain ⟨t, e⟩ := f 0 x rfl
    simp at e
    subst e
    exact .cons x t (ints_of (by simpa using h) fun j z hz => by simpa using f (j + 1) z (by simpa using hz))
theorem paired_ints {f : Int → Int} {n : Nat} {vs ys : List Value} (hlen : vs.length = n) (hP : ∀ j v, vs[j]? = some v → j < n ∧ ∃ t, v = .int (0 + (j : Nat) * 1) t)
    (hF : Paired (fun v y => ∃ t, y = Value.int (f (ival v)) t) (vs.filter fun _ => true) ys) : IntsAre ys ((List.range n).map fun i => f (i : Nat)) := by
  have e : vs.filter (fun _ => true) = vs := by simp
  rw [e] at hF
  obtain ⟨h1, h2⟩ := prd_at hF
  refine ints_of (by simp [h1, hlen]) fun j x hx => ?_
  simp only [List.getElem?_map, Option.map_eq_some_iff] at hx
  obtain ⟨i, hi, rfl⟩ := hx
  obtain ⟨hj, e9⟩ := List.getElem?_eq_some_iff.mp hi
  rw [List.getElem_range] at e9
  subst e9
  have hjl : j < vs.length := by rw [hlen]; simpa using hj
  obtain ⟨_, t, ev⟩ := hP j vs[j] (List.getElem?_eq_getElem hjl)
  obtain ⟨y, hy, t', ey⟩ := h2 j vs[j] (List.getElem?_eq_getElem hjl)
  refine ⟨t', ?_⟩
  rw [hy, ey, ev]
  have e0 : (0 : Int) + (j : Nat) * 1 = (j : Nat) := by omega
  rw [e0]
  rfl
theorem map_id_of : ∀ {l : List Int} {f : Int → Int}, (∀ x ∈ l, f x = x) → l.map f = l
  | [], _, _ => rfl
  | x :: r, f, h => by
    rw [List.map_cons, h x (List.mem_cons_self ..), map_id_of fun y hy => h y (List.mem_cons_of_mem _ hy)]
theorem st_z19 (w : World) (h₀ : Heap) (L fa dl dw da x D : Addr) (cd : Value) (mm : Str → Option Value) (o1 o2 : Obj) (nl : List (Addr × Obj)) (dvs : List Value) (ds : List Int) (nn Wd Ht D1 pk : Nat) (tx : Str) (t1 t2 t3 tr te tp : Tok) (mean : ExcName → Option Value) (mg mb : Str → Option Value) (s : Shared) (Q : Flow → Shared → Prop) (rest : List Stmt)
    (F : Fr h₀ L s.heap mm) (X : (KK w.params).In h₀) (T : Top vw Mine.lw mean mg mb h₀) (B : Below callerA h₀ [] h₀)
    (N : News h₀ L s.heap nl) (m1 : (L + 1, o1) ∈ nl) (m2 : (L + 1 + 1, o2) ∈ nl) (ml : (dl, W.listOf dvs.toArray nn) ∈ nl) (d1 : o1.data = .cell (some (.ref dl))) (d2 : o2.data = .cell (some (.int (Ht : Int) t2)))
    (hids : IntsAre dvs ds) (hlen : ds.length = 5) (hd1 : ds.getD (1 : Int).toNat 0 = (D1 : Nat)) (hD1 : D1 ≤ 70000000) (hdim : dims Wd Ht)
    (hm : Has mm (VLw Wd Ht dw da x D D1 pk tx t1 t3 tr te tp))
    (hrest : ∀ (dh : Addr) (hvs : List Value) (hs : List Nat) (ch : Nat) (m' : Str → Option Value) (h : Heap) (tk' : Nat), Fr h₀ L h m' → Has m' ((Str.ofString "heights", .ref dh) :: VLw Wd Ht dw da x D D1 pk tx t1 t3 tr te tp) → News h₀ L h ((dh, W.listOf hvs.toArray ch) :: nl) → (∀ q ∈ nl, q.1 ≠ dh) → IntsAre hvs (cI hs) → hs.length = Wd → (∀ x ∈ hs, x ≤ Ht) → hs.Pairwise (fun a b => b ≤ a) →
      wpAny (model pw w) (LAr L fa cd) (execs rest (LE L fa cd)) Q NoE { s with heap := h, toks := tk' })
    : wpAny (model pw w) (LAr L fa cd) (execs (z19 :: rest) (LE L fa cd)) Q NoE s := by
  have F0 := Fr.list F _ hm
  dsimp only [VLw, VLz, VLp] at F0
  clear F hm
  iterate 7 (first | walk1 | (dsimp only; walk1))
  refine wpAny_ListComp_free (fun _ => true) (fun v y => ∃ t, y = .int (hgV D1 Ht (ival v)) t) rfl (by decide) rfl (by decide) rfl ?_
  iterate 7 (first | walk1 | (dsimp only; walk1))
  rename IsRange _ _ _ _ _ _ _ _ => hr; rename Fr _ _ _ _ => F9; rename News _ _ _ _ => N9
  have hW4 : Wd ≤ 4 ∧ Ht ≤ 4 ∧ 0 < Ht := by rcases hdim with ⟨rfl, rfl⟩ | ⟨rfl, rfl⟩ | ⟨rfl, rfl⟩ | ⟨rfl, rfl⟩ <;> decide
  have hsm : Builtin.Range.small 0 ((Wd : Nat) : Int) 1 = true ∧ Builtin.Range.rangeSize 0 ((Wd : Nat) : Int) 1 = ((Wd : Nat) : Int) := by
    rcases hdim with ⟨rfl, rfl⟩ | ⟨rfl, rfl⟩ | ⟨rfl, rfl⟩ | ⟨rfl, rfl⟩ <;> decide
  refine wpAny_pyIter_range hr hsm.1 ?_
  refine ⟨_, _, _, Wd, _, _, rfl, Walks.bnd (Walks.range rfl _ 0 1 Wd), ?_, ?_, ?_, ?_, ?_⟩
  · unfold sizeLine; omega
  · show IsRangeIter _ _ _ _ _
    rw [hsm.2]
    show Heap.get? (Heap.push _ _) _ = _
    rw [Heap.get?_push_size _ rfl]
    simp [rawInt]
  · intro b hb
    rw [List.mem_singleton] at hb; subst hb
    exact Nat.lt_of_lt_of_eq (Nat.lt_succ_self _) (Heap.size_push _ _).symm
  · constructor
    · intro C i v s₃ m₃ E' _ hP hn hm hkp htk
      exact wpAny_tests_nil ⟨rfl, _, _, rfl, fun _ _ e => e⟩
    · intro C i v s₃ m₃ E' _ hP hpv hn hm hkp htk
      obtain ⟨hil, tv, rfl⟩ := hP
      have hk8 : ∀ b o', _ → s₃.heap.get? b = some o' := fun b o' e => hkp b o' (by intro hb; rw [List.mem_singleton] at hb; exact absurd (Heap.lt_size e) (by rw [hb]; exact Nat.lt_irrefl _)) (Heap.get?_push_of_some _ e)
      have F8 := F9.kept (h' := s₃.heap) hk8
      have N8 := News.kp N9 hk8
      have e9 : (0 : Int) + (i : Nat) * 1 = (i : Nat) := by omega
      rw [e9] at hm
      clear F9 N9
      iterate 5 (first | walk1 | (dsimp only; walk1))
      refine item_list_ints ⟨_, (N8 (dl, W.listOf dvs.toArray nn) ml).1, rfl, _, rfl⟩ hids (by decide) (by omega) (by decide) (fun td => ?_)
      rw [hd1]
      iterate 3 (first | walk1 | (dsimp only; walk1))
      iterate 1 (first | walk1 | (dsimp only; walk1))
      have h5 : (5 : Int) ^ ((i : Nat) : Int).toNat = ((5 ^ i : Nat) : Int) := by
        rw [Int.toNat_natCast]; push_cast; rfl
      have h50 : ((5 ^ i : Nat) : Int) ≠ 0 := by
        have : 0 < 5 ^ i := Nat.pow_pos (by decide)
        omega
      have h5b : 5 ^ i ≤ 5 ^ 3 := Nat.pow_le_pow_right (by decide) (by omega)
      rw [h5]
      generalize hp5 : 5 ^ i = p5 at h50 h5b
      have h5c : (p5 : Int) ≤ 125 := by omega
      have h5d : (D1 : Int) ≤ 70000000 := by omega
      iterate 1 (first | walk1 | (dsimp only; walk1))
      rw [fdN D1 p5]
      iterate 4 (first | walk1 | (dsimp only; walk1))
      have hH1 : (Ht : Int) + 1 ≠ 0 := by omega
      iterate 1 (first | walk1 | (dsimp only; walk1))
      refine ⟨⟨_, congrArg (fun z => Value.int z _) ?_⟩, _, _, rfl, fun _ _ e => e⟩
      show _ = hgV D1 Ht (0 + (i : Nat) * 1)
      rw [e9]
      unfold hgV
      rw [Int.toNat_natCast, hp5]
      exact fmN (D1 / p5) (Ht + 1)
  · intro D' h' tk ys vs hD hlD hpD hlen hP hF hk'
    have hI := paired_ints hlen hP hF
    have hkk : ∀ b o', _ → h'.get? b = some o' := fun b o' e => hk' b o' (by intro hb; rw [List.mem_singleton] at hb; exact absurd (Heap.lt_size e) (by rw [hb]; exact Nat.lt_irrefl _)) (Heap.get?_push_of_some _ e)
    obtain ⟨ny, hDy⟩ := hpD
    have hD1' := none_of_push hD
    obtain ⟨N7, hne0⟩ := nw_fresh F9 N9 hkk hD1' hDy
    have F8 := F9.kept (h' := h') hkk
    have N8 : News h₀ L h' ((D', W.listOf ys ny) :: nl) := News.sub N7 fun q hq => by
      rcases List.mem_cons.mp hq with rfl | hq
      · exact List.mem_cons_self ..
      · exact List.mem_cons_of_mem _ (by first | exact hq | exact List.mem_cons_of_mem _ hq)
    clear F9 N9 N7
    iterate 1 (first | walk1 | (dsimp only; walk1))
    refine kso_sorted F8 N8 ⟨_, (N8 _ (List.mem_cons_self ..)).1, rfl, _, rfl⟩ (by simpa using hI) (by simp; omega) fun D2 vs2 ns2 c2 h2 F2 N2 hlt I2 len2 perm2 pw2 _ => ?_
    clear F8 N8
    iterate 7 (first | walk1 | (dsimp only; walk1))
    have hl2 : vs2.length ≤ 4 := by rw [I2.length, len2]; simp; omega
    refine kba_turn (value' := PySem.Expr.Name (PySem.Str.ofString "_") ⟨0, 0, 0, 0⟩) (fun _ => rfl) ?_
    k_dflt (refine' krv_ints F2 N2 ⟨_, (N2 _ (List.mem_cons_self ..)).1, rfl, _, rfl⟩ (IsPart.int _ _) I2 ?_ ?s ?t ?z; (case s => with_unfolding_all rfl); (case t => (intro _; rfl)); (case z => (unfold sizeLine; simp only [List.size_toArray]; omega)))
    intro D3 ws h3 F3 N3 l3 I3 _
    clear F2 N2
    walk1
    rename Fr _ _ _ _ => F5; rename News _ _ _ _ => N5
    have hn1 : ∀ x ∈ ns2, 0 ≤ x ∧ x ≤ (Ht : Int) := by
      intro x hx
      obtain ⟨k, hk, rfl⟩ := List.mem_map.mp (perm2.mem_iff.mp hx)
      have := Nat.mod_lt (D1 / 5 ^ k) (show 0 < Ht + 1 from Nat.succ_pos Ht)
      unfold hgV
      rw [Int.toNat_natCast]
      omega
    have ecI : cI (ns2.reverse.map Int.toNat) = ns2.reverse := by
      unfold cI
      rw [List.map_map]
      exact map_id_of fun x hx => Int.toNat_of_nonneg (hn1 x (List.mem_reverse.mp hx)).1
    refine hrest D3 ws (ns2.reverse.map Int.toNat) 0 _ _ _ F5 (by repeat' (first | exact Has.nil | refine Has.cons rfl ?_)) (News.sub N5 fun q hq => ?_) (fun q hq => Nat.ne_of_lt (l3 q (List.mem_cons_of_mem _ (List.mem_cons_of_mem _ hq)))) (by rw [ecI]; exact I3) (by rw [List.length_map, List.length_reverse, len2]; simp) ?_ ?_
    · rcases List.mem_cons.mp hq with rfl | hq
      · exact List.mem_cons_self ..
      · exact List.mem_cons_of_mem _ (List.mem_cons_of_mem _ (List.mem_cons_of_mem _ hq))
    · intro y hy
      obtain ⟨x, hx, rfl⟩ := List.mem_map.mp hy
      have := hn1 x (List.mem_reverse.mp hx)
      omega
    · rw [List.pairwise_map, List.pairwise_reverse]
      refine pw2.imp_of_mem fun {a b} ha hb hab => ?_
      have := hn1 a ha
      have := hn1 b hb
      omega
end Mine
end
section
open PySem PySem.W PyProof.Rows PySem.Spec PySem.Calls PyProof.V PySem.Builtin.Str
namespace Mine
noncomputable abbrev VR (Wd Ht : Nat) (da x : Addr) (tx : Str) (t1 t3 te : Tok) : List (Str × Value) :=
  [(Str.ofString "text", .str tx te), (Str.ofString "pile", .ref x), (Str.ofString "wide", .int (Wd : Int) t1), (Str.ofString "size", .int ((Wd * Ht : Nat) : Int) t3), (Str.ofString "above", .ref da)]
noncomputable def heldF (H : Nat) (hs : List Nat) (n : Nat) : Nat := (List.range n).foldl (fun h p => if p % H < hs.getD (p / H) 0 then h ^^^ 1 <<< p else h) 0
noncomputable def JH (l0 : List (Str × Value)) (nl : List (Addr × Obj)) (Ht : Nat) (hs : List Nat) (i : Nat) (m₁ : Str → Option Value) (news₁ : List (Addr × Obj)) : Prop :=
  Has m₁ l0 ∧ (∃ t, m₁ (Str.ofString "held") = some (.int (heldF Ht hs i : Nat) t)) ∧ news₁ = nl
theorem ltN (a b : Nat) : decide ((a : Int) < (b : Int)) = decide (a < b) := by
  by_cases h : a < b
  · rw [decide_eq_true h, decide_eq_true (by omega)]
  · rw [decide_eq_false h, decide_eq_false (by omega)]
theorem st_z21 (w : World) (h₀ : Heap) (L fa dh da x : Addr) (cd : Value) (mm : Str → Option Value) (o2 : Obj) (nl : List (Addr × Obj)) (hvs : List Value) (hs : List Nat) (ch Wd Ht : Nat) (tx : Str) (t1 t2 t3 te th : Tok) (mean : ExcName → Option Value) (mg mb : Str → Option Value) (s : Shared) (Q : Flow → Shared → Prop) (rest : List Stmt)
    (F : Fr h₀ L s.heap mm) (X : (KK w.params).In h₀) (T : Top vw Mine.lw mean mg mb h₀) (B : Below callerA h₀ [] h₀)
    (N : News h₀ L s.heap nl) (m2 : (L + 1 + 1, o2) ∈ nl) (mh : (dh, W.listOf hvs.toArray ch) ∈ nl) (d2 : o2.data = .cell (some (.int (Ht : Int) t2)))
    (ih : IntsAre hvs (cI hs)) (hhl : hs.length = Wd) (hdim : dims Wd Ht)
    (hm : Has mm ((Str.ofString "held", .int 0 th) :: (Str.ofString "heights", .ref dh) :: VR Wd Ht da x tx t1 t3 te))
    (hrest : ∀ (th : Tok) (m' : Str → Option Value) (h : Heap) (tk' : Nat), Fr h₀ L h m' → Has m' ((Str.ofString "held", .int (heldF Ht hs (Wd * Ht) : Nat) th) :: VR Wd Ht da x tx t1 t3 te) → News h₀ L h nl →
      wpAny (model pw w) (LAr L fa cd) (execs rest (LE L fa cd)) Q NoE { s with heap := h, toks := tk' })
    : wpAny (model pw w) (LAr L fa cd) (execs (z21 :: rest) (LE L fa cd)) Q NoE s := by
  have F0 := Fr.list F _ hm
  dsimp only [VR] at F0
  clear F
  have hsm : Builtin.Range.small 0 ((Wd * Ht : Nat) : Int) 1 = true ∧ Builtin.Range.rangeSize 0 ((Wd * Ht : Nat) : Int) 1 = ((Wd * Ht : Nat) : Int) := by
    rcases hdim with ⟨rfl, rfl⟩ | ⟨rfl, rfl⟩ | ⟨rfl, rfl⟩ | ⟨rfl, rfl⟩ <;> decide
  refine wpAny_execs_cons ?_
  refine For_W2 (h₀ := h₀) rfl rfl rfl (JH ((Str.ofString "heights", .ref dh) :: VR Wd Ht da x tx t1 t3 te) nl Ht hs) ?_
  have h8 : 0 ≤ ((Wd * Ht : Nat) : Int) ∧ ((Wd * Ht : Nat) : Int) ≤ 8 := by rcases hdim with ⟨rfl, rfl⟩ | ⟨rfl, rfl⟩ | ⟨rfl, rfl⟩ | ⟨rfl, rfl⟩ <;> decide
  have hH0 : 0 < Ht := by rcases hdim with ⟨rfl, rfl⟩ | ⟨rfl, rfl⟩ | ⟨rfl, rfl⟩ | ⟨rfl, rfl⟩ <;> decide
  iterate 7 (first | walk1 | (dsimp only; walk1))
  rename IsRange _ _ _ _ _ _ _ _ => hr; rename Fr _ _ _ _ => F9; rename News _ _ _ _ => N9
  refine src_range (env := LE L fa cd) (h₀ := h₀) rfl (JH ((Str.ofString "heights", .ref dh) :: VR Wd Ht da x tx t1 t3 te) nl Ht hs) hr hsm.1 hsm.2 F9 N9 ?_ ?_ ?_
  · exact ⟨by repeat' (first | exact Has.nil | refine Has.cons rfl ?_), ⟨th, rfl⟩, rfl⟩
  · rintro i tv m₁ news₁ its h tk wr hi ⟨hm1, ⟨th1, hh1⟩, rfl⟩ hnw hwr hits F3 N3
    have hm4 : Has (fun y => if y = Str.ofString "p" then some (Value.int (i : Nat) tv) else m₁ y) ((Str.ofString "p", .int (i : Nat) tv) :: (Str.ofString "held", .int (heldF Ht hs i : Nat) th1) :: (Str.ofString "heights", .ref dh) :: VR Wd Ht da x tx t1 t3 te) := by
      have e1 := hm1.hd; have e2 := hm1.tl.hd; have e3 := hm1.tl.tl.hd; have e4 := hm1.tl.tl.tl.hd; have e5 := hm1.tl.tl.tl.tl.hd; have e6 := hm1.tl.tl.tl.tl.tl.hd
      exact Has.cons rfl (Has.cons hh1 (Has.cons e1 (Has.cons e2 (Has.cons e3 (Has.cons e4 (Has.cons e5 (Has.cons e6 Has.nil)))))))
    have F4 := Fr.list F3 _ hm4
    dsimp only [VR] at F4
    clear F9 N9 F3
    iterate 4 (first | walk1 | (dsimp only; walk1))
    have m2' := List.mem_append_left its m2
    have mh' := List.mem_append_left its mh
    have hHz : ((Ht : Nat) : Int) ≠ 0 := by omega
    have hH4 : 0 < ((Ht : Nat) : Int) ∧ ((Ht : Nat) : Int) ≤ 4 := by rcases hdim with ⟨rfl, rfl⟩ | ⟨rfl, rfl⟩ | ⟨rfl, rfl⟩ | ⟨rfl, rfl⟩ <;> decide
    have hil : i / Ht < Wd := Nat.div_lt_of_lt_mul (by rw [Nat.mul_comm]; exact hi)
    have hpi : (((i / Ht : Nat) : Nat) : Int) < ((cI hs).length : Int) := by rw [cI_len]; omega
    have hi8 : i < 8 := by omega
    have hW4 : Wd ≤ 4 := by rcases hdim with ⟨rfl, rfl⟩ | ⟨rfl, rfl⟩ | ⟨rfl, rfl⟩ | ⟨rfl, rfl⟩ <;> decide
    iterate 1 (first | walk1 | (dsimp only; walk1))
    refine ldHigh N3 m2' d2 ?_
    iterate 1 (first | walk1 | (dsimp only; walk1))
    rw [fmN i Ht]
    iterate 4 (first | walk1 | (dsimp only; walk1))
    refine ldHigh N3 m2' d2 ?_
    iterate 1 (first | walk1 | (dsimp only; walk1))
    rw [fdN i Ht]
    refine item_list_ints ⟨_, (N3 _ mh').1, rfl, _, rfl⟩ ih (Int.natCast_nonneg _) hpi (Int.lt_trans hpi (by rw [cI_len, hhl]; omega)) (fun td => ?_)
    rw [Int.toNat_natCast, cI_get]
    iterate 1 (first | walk1 | (dsimp only; walk1))
    rw [ltN]
    have hstep : heldF Ht hs (i + 1) = if i % Ht < hs.getD (i / Ht) 0 then heldF Ht hs i ^^^ 1 <<< i else heldF Ht hs i := by
      unfold heldF
      rw [List.range_succ, List.foldl_append]
      rfl
    by_cases hc : i % Ht < hs.getD (i / Ht) 0
    · rw [decide_eq_true hc]
      rw [if_pos hc] at hstep
      iterate 18 (first | walk1 | (dsimp only; walk1))
      refine args_nil ⟨X.keeps F4.keep, ?_⟩
      refine p_shlN w 1 i _ _ _ _ _ _ _ _ _ _ _ _ _ _ _ _ _ _ _ _ _ _ B F4 X (by assumption) rfl ⟨by omega, by omega⟩ (by ktr_room) (by ktr_room) fun t1' h1 tk1 hk1 => ?_
      have F5 := F4.kept (h' := h1) hk1
      have N5 := News.kp N3 hk1
      refine args_nil ⟨X.keeps F5.keep, ?_⟩
      refine p_xorN w (heldF Ht hs i) (1 <<< i) _ _ _ _ _ _ _ _ _ _ _ _ _ _ _ _ _ _ _ _ _ _ B F5 X (by assumption) rfl trivial (by ktr_room) (by ktr_room) fun t2' h2 tk2 hk2 => ?_
      have F6 := F5.kept (h' := h2) hk2
      have N6 := News.kp N5 hk2
      clear F4 F5 N3 N5
      iterate 1 (first | walk1 | (dsimp only; walk1))
      rename Fr _ _ _ _ => F7; rename News _ _ _ _ => N7
      refine wpAny_execs_nil ?_
      dsimp only
      refine wpAny_execs_nil ?_
      refine TurnW.mk F7 N7 hnw ⟨by repeat' (first | exact Has.nil | refine Has.cons rfl ?_), ⟨t2', ?_⟩, rfl⟩
      rw [hstep]; rfl
    · rw [decide_eq_false hc]
      rw [if_neg hc] at hstep
      iterate 2 (first | walk1 | (dsimp only; walk1))
      refine wpAny_execs_nil ?_
      dsimp only
      refine wpAny_execs_nil ?_
      refine TurnW.mk F4 N3 hnw ⟨by repeat' (first | exact Has.nil | refine Has.cons rfl ?_), ⟨th1, ?_⟩, rfl⟩
      rw [hstep]; rfl
  · rintro m₁ news₁ h tk ⟨hm1, ⟨th1, hh1⟩, rfl⟩ F3 N3
    exact hrest th1 m₁ h tk F3 (Has.cons hh1 hm1.tl) N3
end Mine
end
section
open PySem PySem.W PyProof.Rows PySem.Spec PySem.Calls PyProof.V PySem.Builtin.Str
namespace Mine
noncomputable abbrev VH (Wd Ht : Nat) (da x : Addr) (tx : Str) (t1 t3 te : Tok) (hh h0 e l t : Nat) (Th T0 Te Tl Tt : Tok) : List (Str × Value) :=
  (Str.ofString "held", .int (hh : Int) Th) :: (Str.ofString "first", .int (h0 : Int) T0) :: (Str.ofString "early", .int (e : Int) Te) :: (Str.ofString "late", .int (l : Int) Tl) :: (Str.ofString "turned", .int (t : Int) Tt) :: VR Wd Ht da x tx t1 t3 te
theorem st_z2023 (w : World) (h₀ : Heap) (L fa dh dw da x D : Addr) (cd : Value) (mm : Str → Option Value) (o2 : Obj) (nl : List (Addr × Obj)) (hvs : List Value) (hs : List Nat) (ch Wd Ht D1 pk : Nat) (tx : Str) (t1 t2 t3 tr te tp : Tok) (mean : ExcName → Option Value) (mg mb : Str → Option Value) (s : Shared) (Q : Flow → Shared → Prop) (rest : List Stmt)
    (F : Fr h₀ L s.heap mm) (X : (KK w.params).In h₀) (T : Top vw Mine.lw mean mg mb h₀) (B : Below callerA h₀ [] h₀)
    (N : News h₀ L s.heap nl) (m2 : (L + 1 + 1, o2) ∈ nl) (mh : (dh, W.listOf hvs.toArray ch) ∈ nl) (d2 : o2.data = .cell (some (.int (Ht : Int) t2)))
    (ih : IntsAre hvs (cI hs)) (hhl : hs.length = Wd) (hdim : dims Wd Ht)
    (hm : Has mm ((Str.ofString "heights", .ref dh) :: VLw Wd Ht dw da x D D1 pk tx t1 t3 tr te tp))
    (hrest : ∀ (Th T0 Te Tl Tt : Tok) (m' : Str → Option Value) (h : Heap) (tk' : Nat), Fr h₀ L h m' → Has m' (VH Wd Ht da x tx t1 t3 te (heldF Ht hs (Wd * Ht)) (heldF Ht hs (Wd * Ht)) 0 0 0 Th T0 Te Tl Tt) → News h₀ L h nl →
      wpAny (model pw w) (LAr L fa cd) (execs rest (LE L fa cd)) Q NoE { s with heap := h, toks := tk' })
    : wpAny (model pw w) (LAr L fa cd) (execs (z20 :: z21 :: z22 :: z23 :: rest) (LE L fa cd)) Q NoE s := by
  have F0 := Fr.list F _ hm
  dsimp only [VLw, VLz, VLp] at F0
  clear F
  iterate 4 (first | walk1 | (dsimp only; walk1))
  rename Fr _ _ _ _ => F1; rename News _ _ _ _ => N1
  refine st_z21 w h₀ L fa dh da x cd _ o2 nl hvs hs ch Wd Ht tx t1 t2 t3 te _ mean mg mb _ Q _ F1 X T B N1 m2 mh d2 ih hhl hdim (by repeat' (first | exact Has.nil | refine Has.cons rfl ?_)) fun th m' h tk' F2 hm2 N2 => ?_
  clear F1 N1
  have F3 := Fr.list F2 _ hm2
  dsimp only [VR] at F3
  clear F2
  iterate 26 (first | walk1 | (dsimp only; walk1))
  rename Fr _ _ _ _ => F5; rename News _ _ _ _ => N5
  exact hrest _ _ _ _ _ _ _ _ F5 (by repeat' (first | exact Has.nil | refine Has.cons rfl ?_)) (News.tl N5)
end Mine
end
section
open PySem PySem.W PyProof.Rows PySem.Spec PySem.Calls PyProof.V PySem.Builtin.Str
namespace Mine
theorem mul_size {Wd Ht : Nat} (k : Int) (hdim : dims Wd Ht) : IntMulOk ((Wd * Ht : Nat) : Int) k := IntMulOk.of_left (by
  rcases hdim with ⟨rfl, rfl⟩ | ⟨rfl, rfl⟩ | ⟨rfl, rfl⟩ | ⟨rfl, rfl⟩ <;> decide)
theorem size_hour {Wd Ht k : Nat} (hdim : dims Wd Ht) (hk : k ≤ Wd + Ht) : Wd * Ht * k ≤ 64 ∧ Wd * Ht ≤ 8 := by
  rcases hdim with ⟨rfl, rfl⟩ | ⟨rfl, rfl⟩ | ⟨rfl, rfl⟩ | ⟨rfl, rfl⟩ <;> omega
theorem st_hr0 (w : World) (h₀ : Heap) (L fa da x : Addr) (cd : Value) (mm : Str → Option Value) (nl : List (Addr × Obj)) (Wd Ht k : Nat) (tx : Str) (t1 t3 te tk : Tok) (hh h0 e l t : Nat) (Th T0 Te Tl Tt : Tok) (mean : ExcName → Option Value) (mg mb : Str → Option Value) (s : Shared) (Q : Flow → Shared → Prop) (rest : List Stmt)
    (F : Fr h₀ L s.heap mm) (X : (KK w.params).In h₀) (T : Top vw Mine.lw mean mg mb h₀) (B : Below callerA h₀ [] h₀)
    (N : News h₀ L s.heap nl) (hdim : dims Wd Ht) (hk : k ≤ Wd + Ht) (hhl : hh ≤ 256)
    (hm : Has mm ((Str.ofString "hour", .int (k : Int) tk) :: VH Wd Ht da x tx t1 t3 te hh h0 e l t Th T0 Te Tl Tt))
    (hrest : ∀ (Te : Tok) (m' : Str → Option Value) (h : Heap) (tk' : Nat), Fr h₀ L h m' → Has m' ((Str.ofString "hour", .int (k : Int) tk) :: VH Wd Ht da x tx t1 t3 te hh h0 (e ||| hh <<< (Wd * Ht * k)) l t Th T0 Te Tl Tt) → News h₀ L h nl →
      wpAny (model pw w) (LAr L fa cd) (execs rest (LE L fa cd)) Q NoE { s with heap := h, toks := tk' })
    : wpAny (model pw w) (LAr L fa cd) (execs (hr0 :: rest) (LE L fa cd)) Q NoE s := by
  have F0 := Fr.list F _ hm
  dsimp only [VH, VR] at F0
  clear F hm
  obtain ⟨hb1, hb2⟩ := size_hour hdim hk
  iterate 17 (first | walk1 | (dsimp only; walk1))
  refine mul_int ?_ (mul_size _ hdim)
  rw [show ((Wd * Ht : Nat) : Int) * (k : Int) = ((Wd * Ht * k : Nat) : Int) from (Int.natCast_mul ..).symm]
  refine args_nil ⟨X.keeps F0.keep, ?_⟩
  refine p_shlN w hh (Wd * Ht * k) _ _ _ _ _ _ _ _ _ _ _ _ _ _ _ _ _ _ _ _ _ _ B F0 X (by assumption) rfl ⟨hb1, hhl⟩ (by ktr_room) (by ktr_room) fun t1' h1 tk1 hk1 => ?_
  have F1 := F0.kept (h' := h1) hk1
  have N1 := News.kp N hk1
  refine args_nil ⟨X.keeps F1.keep, ?_⟩
  refine p_orN w e (hh <<< (Wd * Ht * k)) _ _ _ _ _ _ _ _ _ _ _ _ _ _ _ _ _ _ _ _ _ _ B F1 X (by assumption) rfl trivial (by ktr_room) (by ktr_room) fun t2' h2 tk2 hk2 => ?_
  have F2 := F1.kept (h' := h2) hk2
  have N2 := News.kp N1 hk2
  clear F0 F1 N N1
  iterate 1 (first | walk1 | (dsimp only; walk1))
  rename Fr _ _ _ _ => F5; rename News _ _ _ _ => N5
  exact hrest _ _ _ _ F5 (by repeat' (first | exact Has.nil | refine Has.cons rfl ?_)) N5
theorem st_hr8 (w : World) (h₀ : Heap) (L fa da x : Addr) (cd : Value) (mm : Str → Option Value) (nl : List (Addr × Obj)) (Wd Ht k : Nat) (tx : Str) (t1 t3 te tk : Tok) (hh h0 e l t : Nat) (Th T0 Te Tl Tt : Tok) (mean : ExcName → Option Value) (mg mb : Str → Option Value) (s : Shared) (Q : Flow → Shared → Prop) (rest : List Stmt)
    (F : Fr h₀ L s.heap mm) (X : (KK w.params).In h₀) (T : Top vw Mine.lw mean mg mb h₀) (B : Below callerA h₀ [] h₀)
    (N : News h₀ L s.heap nl) (hdim : dims Wd Ht) (hk : k ≤ Wd + Ht) (hhl : hh ≤ 256)
    (hm : Has mm ((Str.ofString "hour", .int (k : Int) tk) :: VH Wd Ht da x tx t1 t3 te hh h0 e l t Th T0 Te Tl Tt))
    (hrest : ∀ (Tl : Tok) (m' : Str → Option Value) (h : Heap) (tk' : Nat), Fr h₀ L h m' → Has m' ((Str.ofString "hour", .int (k : Int) tk) :: VH Wd Ht da x tx t1 t3 te hh h0 e (l ||| hh <<< (Wd * Ht * k)) t Th T0 Te Tl Tt) → News h₀ L h nl →
      wpAny (model pw w) (LAr L fa cd) (execs rest (LE L fa cd)) Q NoE { s with heap := h, toks := tk' })
    : wpAny (model pw w) (LAr L fa cd) (execs (hr8 :: rest) (LE L fa cd)) Q NoE s := by
  have F0 := Fr.list F _ hm
  dsimp only [VH, VR] at F0
  clear F hm
  obtain ⟨hb1, hb2⟩ := size_hour hdim hk
  iterate 17 (first | walk1 | (dsimp only; walk1))
  refine mul_int ?_ (mul_size _ hdim)
  rw [show ((Wd * Ht : Nat) : Int) * (k : Int) = ((Wd * Ht * k : Nat) : Int) from (Int.natCast_mul ..).symm]
  refine args_nil ⟨X.keeps F0.keep, ?_⟩
  refine p_shlN w hh (Wd * Ht * k) _ _ _ _ _ _ _ _ _ _ _ _ _ _ _ _ _ _ _ _ _ _ B F0 X (by assumption) rfl ⟨hb1, hhl⟩ (by ktr_room) (by ktr_room) fun t1' h1 tk1 hk1 => ?_
  have F1 := F0.kept (h' := h1) hk1
  have N1 := News.kp N hk1
  refine args_nil ⟨X.keeps F1.keep, ?_⟩
  refine p_orN w l (hh <<< (Wd * Ht * k)) _ _ _ _ _ _ _ _ _ _ _ _ _ _ _ _ _ _ _ _ _ _ B F1 X (by assumption) rfl trivial (by ktr_room) (by ktr_room) fun t2' h2 tk2 hk2 => ?_
  have F2 := F1.kept (h' := h2) hk2
  have N2 := News.kp N1 hk2
  clear F0 F1 N N1
  iterate 1 (first | walk1 | (dsimp only; walk1))
  rename Fr _ _ _ _ => F5; rename News _ _ _ _ => N5
  exact hrest _ _ _ _ F5 (by repeat' (first | exact Has.nil | refine Has.cons rfl ?_)) N5
end Mine
end
section
open PySem PySem.W PyProof.Rows PySem.Spec PySem.Calls PyProof.V PySem.Builtin.Str
namespace Mine
noncomputable def dueF (bs : List Nat) (hh n : Nat) : Nat := (List.range n).foldl (dueStep bs hh) 0
noncomputable def JD (l0 : List (Str × Value)) (nl : List (Addr × Obj)) (bs : List Nat) (hh : Nat) (i : Nat) (m₁ : Str → Option Value) (news₁ : List (Addr × Obj)) : Prop :=
  Has m₁ l0 ∧ (∃ t, m₁ (Str.ofString "due") = some (.int (dueF bs hh i : Nat) t)) ∧ news₁ = nl
theorem st_du (w : World) (h₀ : Heap) (L fa db da x : Addr) (cd : Value) (mm : Str → Option Value) (o5 : Obj) (nl : List (Addr × Obj)) (bvs : List Value) (bs : List Nat) (Wd Ht i k : Nat) (tx : Str) (t1 t3 te tk td tv : Tok) (hh h0 e l t due : Nat) (Th T0 Te Tl Tt : Tok) (mean : ExcName → Option Value) (mg mb : Str → Option Value) (s : Shared) (Q : Flow → Shared → Prop)
    (F : Fr h₀ L s.heap mm) (X : (KK w.params).In h₀) (T : Top vw Mine.lw mean mg mb h₀) (B : Below callerA h₀ [] h₀)
    (N : News h₀ L s.heap nl) (m5 : (L + 1 + 1 + 1 + 1 + 1, o5) ∈ nl) (mb' : (db, W.listOf bvs.toArray 0) ∈ nl) (d5 : o5.data = .cell (some (.ref db))) (ib : IntsAre bvs (cI bs)) (hi8 : i < 8) (hbl : i < bs.length)
    (hm : Has mm ((Str.ofString "p", .int (i : Int) tv) :: (Str.ofString "due", .int (due : Int) td) :: (Str.ofString "hour", .int (k : Int) tk) :: VH Wd Ht da x tx t1 t3 te hh h0 e l t Th T0 Te Tl Tt))
    (hrest : ∀ (td : Tok) (m' : Str → Option Value) (h : Heap) (tk' : Nat), Fr h₀ L h m' → Has m' ((Str.ofString "due", .int (dueStep bs hh due i : Nat) td) :: (Str.ofString "hour", .int (k : Int) tk) :: VH Wd Ht da x tx t1 t3 te hh h0 e l t Th T0 Te Tl Tt) → News h₀ L h nl →
      Q .next { s with heap := h, toks := tk' })
    : wpAny (model pw w) (LAr L fa cd) (execs [du0] (LE L fa cd)) Q NoE s := by
  have F0 := Fr.list F _ hm
  dsimp only [VH, VR] at F0
  clear F hm
  iterate 17 (first | walk1 | (dsimp only; walk1))
  refine args_nil ⟨X.keeps F0.keep, ?_⟩
  refine p_shlN w 1 i _ _ _ _ _ _ _ _ _ _ _ _ _ _ _ _ _ _ _ _ _ _ B F0 X (by assumption) rfl ⟨by omega, by omega⟩ (by ktr_room) (by ktr_room) fun t1' h1 tk1 hk1 => ?_
  have F1 := F0.kept (h' := h1) hk1
  have N1 := News.kp N hk1
  refine args_nil ⟨X.keeps F1.keep, ?_⟩
  refine p_andN w hh (1 <<< i) _ _ _ _ _ _ _ _ _ _ _ _ _ _ _ _ _ _ _ _ _ _ B F1 X (by assumption) rfl trivial (by ktr_room) (by ktr_room) fun t2' h2 tk2 hk2 => ?_
  have F2 := F1.kept (h' := h2) hk2
  have N2 := News.kp N1 hk2
  clear F0 F1 N N1
  iterate 2 (first | walk1 | (dsimp only; walk1))
  rw [zN]
  have hds : dueStep bs hh due i = if (decide (hh &&& 1 <<< i = 0) && decide (hh &&& bs.getD i 0 = bs.getD i 0)) = true then due ||| (bs.getD i 0 ||| 1 <<< i) else due := by
    unfold dueStep
    rw [show (hh &&& 1 <<< i == 0) = decide (hh &&& 1 <<< i = 0) from rfl, show (hh &&& bs.getD i 0 == bs.getD i 0) = decide (hh &&& bs.getD i 0 = bs.getD i 0) from rfl]
  by_cases c1 : hh &&& 1 <<< i = 0
  · rw [decide_eq_true c1] at hds ⊢
    iterate 11 (first | walk1 | (dsimp only; walk1))
    refine ldBelow N2 m5 d5 ?_
    iterate 1 (first | walk1 | (dsimp only; walk1))
    have hil : (i : Int) < ((cI bs).length : Int) := by rw [cI_len]; omega
    refine item_list_ints ⟨_, (N2 _ mb').1, rfl, _, rfl⟩ ib (by omega) hil (by omega) (fun td5 => ?_)
    rw [Int.toNat_natCast, cI_get]
    refine args_nil ⟨X.keeps F2.keep, ?_⟩
    refine p_andN w hh (bs.getD i 0) _ _ _ _ _ _ _ _ _ _ _ _ _ _ _ _ _ _ _ _ _ _ B F2 X (by assumption) rfl trivial (by ktr_room) (by ktr_room) fun t3' h3 tk3 hk3 => ?_
    have F3 := F2.kept (h' := h3) hk3
    have N3 := News.kp N2 hk3
    clear F2 N2
    iterate 1 (first | walk1 | (dsimp only; walk1))
    refine ldBelow N3 m5 d5 ?_
    iterate 1 (first | walk1 | (dsimp only; walk1))
    refine item_list_ints ⟨_, (N3 _ mb').1, rfl, _, rfl⟩ ib (by omega) hil (by omega) (fun td6 => ?_)
    rw [Int.toNat_natCast, cI_get]
    iterate 1 (first | walk1 | (dsimp only; walk1))
    rw [pr_eq]
    by_cases c2 : hh &&& bs.getD i 0 = bs.getD i 0
    · rw [decide_eq_true c2] at hds ⊢
      iterate 17 (first | walk1 | (dsimp only; walk1))
      refine ldBelow N3 m5 d5 ?_
      iterate 1 (first | walk1 | (dsimp only; walk1))
      refine item_list_ints ⟨_, (N3 _ mb').1, rfl, _, rfl⟩ ib (by omega) hil (by omega) (fun td7 => ?_)
      rw [Int.toNat_natCast, cI_get]
      iterate 8 (first | walk1 | (dsimp only; walk1))
      refine args_nil ⟨X.keeps F3.keep, ?_⟩
      refine p_shlN w 1 i _ _ _ _ _ _ _ _ _ _ _ _ _ _ _ _ _ _ _ _ _ _ B F3 X (by assumption) rfl ⟨by omega, by omega⟩ (by ktr_room) (by ktr_room) fun t4' h4 tk4 hk4 => ?_
      have F4 := F3.kept (h' := h4) hk4
      have N4 := News.kp N3 hk4
      refine args_nil ⟨X.keeps F4.keep, ?_⟩
      refine p_orN w (bs.getD i 0) (1 <<< i) _ _ _ _ _ _ _ _ _ _ _ _ _ _ _ _ _ _ _ _ _ _ B F4 X (by assumption) rfl trivial (by ktr_room) (by ktr_room) fun t5' h5 tk5 hk5 => ?_
      have F5 := F4.kept (h' := h5) hk5
      have N5 := News.kp N4 hk5
      refine args_nil ⟨X.keeps F5.keep, ?_⟩
      refine p_orN w due (bs.getD i 0 ||| 1 <<< i) _ _ _ _ _ _ _ _ _ _ _ _ _ _ _ _ _ _ _ _ _ _ B F5 X (by assumption) rfl trivial (by ktr_room) (by ktr_room) fun t6' h6 tk6 hk6 => ?_
      have F6 := F5.kept (h' := h6) hk6
      have N6 := News.kp N5 hk6
      clear F3 F4 F5 N3 N4 N5
      iterate 1 (first | walk1 | (dsimp only; walk1))
      rename Fr _ _ _ _ => F7; rename News _ _ _ _ => N7
      refine wpAny_execs_nil ?_
      dsimp only
      refine wpAny_execs_nil ?_
      have hd2 : dueStep bs hh due i = due ||| (bs.getD i 0 ||| 1 <<< i) := by rw [hds]; rfl
      exact hrest _ _ _ _ F7 (by rw [hd2]; repeat' (first | exact Has.nil | refine Has.cons rfl ?_)) N7
    · rw [decide_eq_false c2] at hds ⊢
      iterate 2 (first | walk1 | (dsimp only; walk1))
      refine wpAny_execs_nil ?_
      dsimp only
      refine wpAny_execs_nil ?_
      have hd2 : dueStep bs hh due i = due := by rw [hds]; rfl
      exact hrest td _ _ _ F3 (by rw [hd2]; repeat' (first | exact Has.nil | refine Has.cons rfl ?_)) N3
  · rw [decide_eq_false c1] at hds ⊢
    iterate 2 (first | walk1 | (dsimp only; walk1))
    rw [if_neg (by decide)]
    refine wpAny_execs_nil ?_
    dsimp only
    refine wpAny_execs_nil ?_
    have hd2 : dueStep bs hh due i = due := by rw [hds]; rfl
    exact hrest td _ _ _ F2 (by rw [hd2]; repeat' (first | exact Has.nil | refine Has.cons rfl ?_)) N2
end Mine
end
section
open PySem PySem.W PyProof.Rows PySem.Spec PySem.Calls PyProof.V PySem.Builtin.Str
namespace Mine
noncomputable abbrev VK (k Wd Ht : Nat) (da x : Addr) (tx : Str) (t1 t3 te tk : Tok) (hh h0 e l t : Nat) (Th T0 Te Tl Tt : Tok) : List (Str × Value) :=
  (Str.ofString "hour", .int (k : Int) tk) :: VH Wd Ht da x tx t1 t3 te hh h0 e l t Th T0 Te Tl Tt
theorem st_hr12 (w : World) (h₀ : Heap) (L fa db da x : Addr) (cd : Value) (mm : Str → Option Value) (o5 : Obj) (nl : List (Addr × Obj)) (bvs : List Value) (bs : List Nat) (Wd Ht k : Nat) (tx : Str) (t1 t3 te tk : Tok) (hh h0 e l t : Nat) (Th T0 Te Tl Tt : Tok) (mean : ExcName → Option Value) (mg mb : Str → Option Value) (s : Shared) (Q : Flow → Shared → Prop) (rest : List Stmt)
    (F : Fr h₀ L s.heap mm) (X : (KK w.params).In h₀) (T : Top vw Mine.lw mean mg mb h₀) (B : Below callerA h₀ [] h₀)
    (N : News h₀ L s.heap nl) (m5 : (L + 1 + 1 + 1 + 1 + 1, o5) ∈ nl) (mb' : (db, W.listOf bvs.toArray 0) ∈ nl) (d5 : o5.data = .cell (some (.ref db))) (ib : IntsAre bvs (cI bs)) (hbl : bs.length = Wd * Ht) (hdim : dims Wd Ht)
    (hm : Has mm (VK k Wd Ht da x tx t1 t3 te tk hh h0 e l t Th T0 Te Tl Tt))
    (hrest : ∀ (td : Tok) (m' : Str → Option Value) (h : Heap) (tk' : Nat), Fr h₀ L h m' → Has m' ((Str.ofString "due", .int (rho (Wd * Ht) bs hh : Nat) td) :: VK k Wd Ht da x tx t1 t3 te tk hh h0 e l t Th T0 Te Tl Tt) → News h₀ L h nl →
      wpAny (model pw w) (LAr L fa cd) (execs rest (LE L fa cd)) Q NoE { s with heap := h, toks := tk' })
    : wpAny (model pw w) (LAr L fa cd) (execs (hr1 :: hr2 :: rest) (LE L fa cd)) Q NoE s := by
  have F0 := Fr.list F _ hm
  dsimp only [VK, VH, VR] at F0
  clear F
  have hsm : Builtin.Range.small 0 ((Wd * Ht : Nat) : Int) 1 = true ∧ Builtin.Range.rangeSize 0 ((Wd * Ht : Nat) : Int) 1 = ((Wd * Ht : Nat) : Int) := by
    rcases hdim with ⟨rfl, rfl⟩ | ⟨rfl, rfl⟩ | ⟨rfl, rfl⟩ | ⟨rfl, rfl⟩ <;> decide
  have h8 : 0 ≤ ((Wd * Ht : Nat) : Int) ∧ ((Wd * Ht : Nat) : Int) ≤ 8 := by rcases hdim with ⟨rfl, rfl⟩ | ⟨rfl, rfl⟩ | ⟨rfl, rfl⟩ | ⟨rfl, rfl⟩ <;> decide
  iterate 4 (first | walk1 | (dsimp only; walk1))
  dsimp only
  refine wpAny_execs_cons ?_
  refine For_W2 (h₀ := h₀) rfl rfl rfl (JD (VK k Wd Ht da x tx t1 t3 te tk hh h0 e l t Th T0 Te Tl Tt) nl bs hh) ?_
  iterate 7 (first | walk1 | (dsimp only; walk1))
  rename IsRange _ _ _ _ _ _ _ _ => hr; rename Fr _ _ _ _ => F9; rename News _ _ _ _ => N9
  refine src_range (env := LE L fa cd) (h₀ := h₀) rfl (JD (VK k Wd Ht da x tx t1 t3 te tk hh h0 e l t Th T0 Te Tl Tt) nl bs hh) hr hsm.1 hsm.2 F9 N9 ?_ ?_ ?_
  · exact ⟨by repeat' (first | exact Has.nil | refine Has.cons rfl ?_), ⟨_, rfl⟩, rfl⟩
  · rintro i tv m₁ news₁ its h tk4 wr hi ⟨hm1, ⟨td1, hd1⟩, rfl⟩ hnw hwr hits F3 N3
    have hm4 : Has (fun y => if y = Str.ofString "p" then some (Value.int (i : Nat) tv) else m₁ y) ((Str.ofString "p", .int (i : Nat) tv) :: (Str.ofString "due", .int (dueF bs hh i : Nat) td1) :: VK k Wd Ht da x tx t1 t3 te tk hh h0 e l t Th T0 Te Tl Tt) := by
      have e1 := hm1.hd; have e2 := hm1.tl.hd; have e3 := hm1.tl.tl.hd; have e4 := hm1.tl.tl.tl.hd; have e5 := hm1.tl.tl.tl.tl.hd; have e6 := hm1.tl.tl.tl.tl.tl.hd
      have e7 := hm1.tl.tl.tl.tl.tl.tl.hd; have e8 := hm1.tl.tl.tl.tl.tl.tl.tl.hd; have e9 := hm1.tl.tl.tl.tl.tl.tl.tl.tl.hd; have e10 := hm1.tl.tl.tl.tl.tl.tl.tl.tl.tl.hd; have e11 := hm1.tl.tl.tl.tl.tl.tl.tl.tl.tl.tl.hd
      exact Has.cons rfl (Has.cons hd1 (Has.cons e1 (Has.cons e2 (Has.cons e3 (Has.cons e4 (Has.cons e5 (Has.cons e6 (Has.cons e7 (Has.cons e8 (Has.cons e9 (Has.cons e10 (Has.cons e11 Has.nil))))))))))))
    refine st_du w h₀ L fa db da x cd _ o5 (news₁ ++ its) bvs bs Wd Ht i k tx t1 t3 te tk td1 tv hh h0 e l t (dueF bs hh i) Th T0 Te Tl Tt mean mg mb _ _ F3 X T B N3 (List.mem_append_left _ m5) (List.mem_append_left _ mb') d5 ib (by omega) (by omega) hm4 fun td2 m2 h2 tk2 F5 hm5 N5 => ?_
    refine TurnW.mk F5 N5 hnw ⟨hm5.tl, ⟨td2, ?_⟩, rfl⟩
    rw [hm5.hd]
    unfold dueF
    rw [List.range_succ, List.foldl_append]
    rfl
  · rintro m₁ news₁ h tk4 ⟨hm1, ⟨td1, hd1⟩, rfl⟩ F3 N3
    exact hrest td1 m₁ h tk4 F3 (Has.cons hd1 hm1) N3
end Mine
end
section
open PySem PySem.W PyProof.Rows PySem.Spec PySem.Calls PyProof.V PySem.Builtin.Str
namespace Mine
theorem upd_x {h₀ h h' : Heap} {L x : Addr} {m : Str → Option Value} {o o' : Obj} {M : List (Addr × Obj)} (F : Fr h₀ L h m) (N : News h₀ L h ((x, o) :: M)) (hn : Nd ((x, o) :: M)) (hk : ∀ b o, b ≠ x → h.get? b = some o → h'.get? b = some o) (hx' : h'.get? x = some o') :
    Fr h₀ L h' m ∧ News h₀ L h' ((x, o') :: M) := by
  have hx0 := N _ (List.mem_cons_self ..)
  have hnx := (List.nodup_cons.mp hn).1
  have hxo : ∀ b o, h₀.get? b = some o → b ≠ x := fun b o e1 e2 => by rw [e2, hx0.2.2] at e1; cases e1
  refine ⟨⟨F.ns.at fun o e => hk _ o (fun e2 => hx0.2.1 e2.symm) e, fun b o e => hk b o (hxo b o e) (F.keep b o e), F.above⟩, fun q hq => ?_⟩
  rcases List.mem_cons.mp hq with rfl | hq
  · exact ⟨hx', hx0.2⟩
  · have hq' := N q (List.mem_cons_of_mem _ hq)
    exact ⟨hk _ _ (fun e => hnx (List.mem_map.mpr ⟨q, hq, e⟩)) hq'.1, hq'.2⟩
theorem tnl_snoc (its : List TIt) (q : TIt) : tnl (its ++ [q]) = tnl its ++ [(q.1.1, tupO q)] := by simp [tnl]
theorem pvl_snoc (its : List TIt) (q : TIt) : pvl (its ++ [q]) = pvl its ++ [.ref q.1.1] := by simp [pvl]
theorem do_pop (w : World) (h₀ : Heap) (L fa x dx : Addr) (cd : Value) (mm : Str → Option Value) (M : List (Addr × Obj)) (its : List TIt) (q : TIt) (n : Nat) (q1 q2 : Tok) (room : Int) (mean : ExcName → Option Value) (mg mb : Str → Option Value) (s : Shared) (Q : Value → Shared → Prop) (E : Value → Shared → Prop)
    (F : Fr h₀ L s.heap mm) (X : (KK w.params).In h₀) (T : Top vw Mine.lw mean mg mb h₀) (B : Below callerA h₀ [] h₀)
    (N : News h₀ L s.heap ((x, pileO dx (pvl (its ++ [q])) n) :: (M ++ tnl (its ++ [q])))) (hn : Nd ((x, pileO dx (pvl (its ++ [q])) n) :: (M ++ tnl (its ++ [q])))) (hdx : (dx, pileD w.params q1 q2 room) ∈ M) (hl : its.length ≤ 20)
    (hQ : ∀ (n' : Nat) (h : Heap) (tk' : Nat), Fr h₀ L h mm → News h₀ L h ((q.1.1, tupO q) :: (x, pileO dx (pvl its) n') :: (M ++ tnl its)) → Nd ((x, pileO dx (pvl its) n') :: (M ++ tnl its)) → Q (.ref q.1.1) { s with heap := h, toks := tk' }) :
    wpAny (model pw w) (LAr L fa cd) (call (.ref 103) [.ref x]) Q E s := by
  rw [pvl_snoc, tnl_snoc] at N hn
  refine p_pop w x dx (pvl its) (.ref q.1.1) n q1 q2 room _ _ _ _ _ _ _ _ _ _ _ _ _ _ _ _ _ _ _ _ B F X T rfl (by simp; omega) (by ktr_room) (by ktr_room) (News.sub N fun q hq => ?_) fun n' h' tk' hk hx' => ?_
  · simp only [List.mem_cons, List.not_mem_nil, or_false] at hq
    rcases hq with rfl | rfl
    · exact List.mem_cons_self ..
    · exact List.mem_cons_of_mem _ (List.mem_append_left _ hdx)
  · obtain ⟨F', N'⟩ := upd_x F N hn hk hx'
    refine hQ n' h' tk' F' (News.sub N' fun z hz => ?_) ?_
    · rcases List.mem_cons.mp hz with rfl | hz
      · exact List.mem_cons_of_mem _ (List.mem_append_right _ (List.mem_append_right _ (List.mem_cons_self ..)))
      · rcases List.mem_cons.mp hz with rfl | hz
        · exact List.mem_cons_self ..
        · rcases List.mem_append.mp hz with hz | hz
          · exact List.mem_cons_of_mem _ (List.mem_append_left _ hz)
          · exact List.mem_cons_of_mem _ (List.mem_append_right _ (List.mem_append_left _ hz))
    · have h1 : Nd (((x, pileO dx (pvl its) n') :: (M ++ tnl its)) ++ [(q.1.1, tupO q)]) := by
        unfold Nd at hn ⊢
        simpa using hn
      unfold Nd at h1 ⊢
      rw [List.map_append] at h1
      exact (List.nodup_append.mp h1).1
theorem do_pop0 (w : World) (h₀ : Heap) (L fa x dx : Addr) (cd : Value) (mm : Str → Option Value) (M : List (Addr × Obj)) (n : Nat) (q1 q2 : Tok) (room : Int) (mean : ExcName → Option Value) (mg mb : Str → Option Value) (s : Shared) (Q : Value → Shared → Prop) (E : Value → Shared → Prop)
    (F : Fr h₀ L s.heap mm) (X : (KK w.params).In h₀) (T : Top vw Mine.lw mean mg mb h₀) (B : Below callerA h₀ [] h₀)
    (N : News h₀ L s.heap ((x, pileO dx (pvl []) n) :: M)) (hdx : (dx, pileD w.params q1 q2 room) ∈ M)
    (hQ : ∀ (q : TIt) (h : Heap) (tk' : Nat), q.1.2.1.1 = Str.ofString "" → q.1.2.2.1 = Str.ofString "" → Fr h₀ L h mm → News h₀ L h ((q.1.1, tupO q) :: (x, pileO dx (pvl []) n) :: M) → Q (.ref q.1.1) { s with heap := h, toks := tk' }) :
    wpAny (model pw w) (LAr L fa cd) (call (.ref 103) [.ref x]) Q E s := by
  refine p_pop0n w x dx n q1 q2 room _ _ _ _ _ _ _ _ _ _ _ _ _ _ _ _ _ _ _ _ B F X T rfl (by ktr_room) (by ktr_room) (News.sub N fun q hq => ?_) fun T te1 te2 nt h' tk' hk hT0 hT => ?_
  · simp only [List.mem_cons, List.not_mem_nil, or_false] at hq
    rcases hq with rfl | rfl
    · exact List.mem_cons_self ..
    · exact List.mem_cons_of_mem _ hdx
  · exact hQ ((T, (Str.ofString "", te1), (Str.ofString "", te2)), nt) h' tk' rfl rfl (F.keptAll hk) (nw_fresh F N hk hT0 hT).1
noncomputable abbrev VG (g : Addr) (due : Nat) (td : Tok) (k Wd Ht : Nat) (da x : Addr) (tx : Str) (t1 t3 te tk : Tok) (hh h0 e l t : Nat) (Th T0 Te Tl Tt : Tok) : List (Str × Value) :=
  (Str.ofString "gone", .ref g) :: (Str.ofString "due", .int (due : Int) td) :: VK k Wd Ht da x tx t1 t3 te tk hh h0 e l t Th T0 Te Tl Tt
theorem st_popH (w : World) (h₀ : Heap) (L fa x dx da g : Addr) (cd : Value) (mm : Str → Option Value) (M : List (Addr × Obj)) (its : List TIt) (q : TIt) (n : Nat) (q1 q2 : Tok) (room : Int) (due : Nat) (td : Tok) (k Wd Ht : Nat) (tx : Str) (t1 t3 te tk : Tok) (hh h0 e l t : Nat) (Th T0 Te Tl Tt : Tok) (mean : ExcName → Option Value) (mg mb : Str → Option Value) (s : Shared) (Q : Flow → Shared → Prop) (rest : List Stmt)
    (F : Fr h₀ L s.heap mm) (X : (KK w.params).In h₀) (T : Top vw Mine.lw mean mg mb h₀) (B : Below callerA h₀ [] h₀)
    (N : News h₀ L s.heap ((x, pileO dx (pvl (its ++ [q])) n) :: (M ++ tnl (its ++ [q])))) (hn : Nd ((x, pileO dx (pvl (its ++ [q])) n) :: (M ++ tnl (its ++ [q])))) (hdx : (dx, pileD w.params q1 q2 room) ∈ M) (hl : its.length ≤ 20)
    (hm : Has mm (VG g due td k Wd Ht da x tx t1 t3 te tk hh h0 e l t Th T0 Te Tl Tt))
    (hrest : ∀ (n' : Nat) (m' : Str → Option Value) (h : Heap) (tk' : Nat), Fr h₀ L h m' → Has m' ((Str.ofString "blanks", .str q.1.2.1.1 q.1.2.1.2) :: (Str.ofString "word", .str q.1.2.2.1 q.1.2.2.2) :: VG g due td k Wd Ht da x tx t1 t3 te tk hh h0 e l t Th T0 Te Tl Tt) → News h₀ L h ((x, pileO dx (pvl its) n') :: (M ++ tnl its)) → Nd ((x, pileO dx (pvl its) n') :: (M ++ tnl its)) →
      wpAny (model pw w) (LAr L fa cd) (execs rest (LE L fa cd)) Q NoE { s with heap := h, toks := tk' })
    : wpAny (model pw w) (LAr L fa cd) (execs (hr4 :: rest) (LE L fa cd)) Q NoE s := by
  have F0 := Fr.list F _ hm
  dsimp only [VG, VK, VH, VR] at F0
  clear F hm
  iterate 4 (first | walk1 | (dsimp only; walk1))
  have II : InstAt s.heap x (pileO dx (pvl (its ++ [q])) n) 143 (some (pileD w.params q1 q2 room)) := ⟨(N _ (List.mem_cons_self ..)).1, rfl, rfl, (N _ (List.mem_cons_of_mem _ (List.mem_append_left _ hdx))).1⟩
  refine method_any (K := KK w.params) (C := 143) (ox := pileO dx (pvl (its ++ [q])) n) (od := some (pileD w.params q1 q2 room)) (v := .ref 103) (X.keeps F0.keep) II (ga := "list.__getattribute__") (by k_is) can_list (by k_is) (by k_is) (ty := .type "function") (looks_typeIn (X.keeps F0.keep) (by k_is)) (by decide) (by rfl) ?_
  iterate 1 (first | walk1 | (dsimp only; walk1))
  refine do_pop w h₀ L fa x dx cd _ M its q n q1 q2 room mean mg mb _ _ _ F0 X T B N hn hdx hl fun n' h1 tk1 F1 N1 hn1 => ?_
  clear F0 N hn II
  generalize hqe : tupO q = oq at N1
  obtain ⟨⟨Tq, ⟨a, ta⟩, ⟨b, tb⟩⟩, nq⟩ := q
  subst hqe
  dsimp only at N1 ⊢
  dsimp only at hrest
  iterate 8 (first | walk1 | (dsimp only; walk1))
  rename Fr _ _ _ _ => F5; rename News _ _ _ _ => N5
  exact hrest n' _ _ _ F5 (by repeat' (first | exact Has.nil | refine Has.cons rfl ?_)) (News.tl N5) hn1
theorem st_popeH (w : World) (h₀ : Heap) (L fa x dx da g : Addr) (cd : Value) (mm : Str → Option Value) (M : List (Addr × Obj)) (n : Nat) (q1 q2 : Tok) (room : Int) (due : Nat) (td : Tok) (k Wd Ht : Nat) (tx : Str) (t1 t3 te tk : Tok) (hh h0 e l t : Nat) (Th T0 Te Tl Tt : Tok) (mean : ExcName → Option Value) (mg mb : Str → Option Value) (s : Shared) (Q : Flow → Shared → Prop) (rest : List Stmt)
    (F : Fr h₀ L s.heap mm) (X : (KK w.params).In h₀) (T : Top vw Mine.lw mean mg mb h₀) (B : Below callerA h₀ [] h₀)
    (N : News h₀ L s.heap ((x, pileO dx (pvl []) n) :: M)) (hdx : (dx, pileD w.params q1 q2 room) ∈ M)
    (hm : Has mm (VG g due td k Wd Ht da x tx t1 t3 te tk hh h0 e l t Th T0 Te Tl Tt))
    (hrest : ∀ (ta tb : Tok) (m' : Str → Option Value) (h : Heap) (tk' : Nat), Fr h₀ L h m' → Has m' ((Str.ofString "blanks", .str (Str.ofString "") ta) :: (Str.ofString "word", .str (Str.ofString "") tb) :: VG g due td k Wd Ht da x tx t1 t3 te tk hh h0 e l t Th T0 Te Tl Tt) → News h₀ L h ((x, pileO dx (pvl []) n) :: M) →
      wpAny (model pw w) (LAr L fa cd) (execs rest (LE L fa cd)) Q NoE { s with heap := h, toks := tk' })
    : wpAny (model pw w) (LAr L fa cd) (execs (hr4 :: rest) (LE L fa cd)) Q NoE s := by
  have F0 := Fr.list F _ hm
  dsimp only [VG, VK, VH, VR] at F0
  clear F hm
  iterate 4 (first | walk1 | (dsimp only; walk1))
  have II : InstAt s.heap x (pileO dx (pvl []) n) 143 (some (pileD w.params q1 q2 room)) := ⟨(N _ (List.mem_cons_self ..)).1, rfl, rfl, (N _ (List.mem_cons_of_mem _ hdx)).1⟩
  refine method_any (K := KK w.params) (C := 143) (ox := pileO dx (pvl []) n) (od := some (pileD w.params q1 q2 room)) (v := .ref 103) (X.keeps F0.keep) II (ga := "list.__getattribute__") (by k_is) can_list (by k_is) (by k_is) (ty := .type "function") (looks_typeIn (X.keeps F0.keep) (by k_is)) (by decide) (by rfl) ?_
  iterate 1 (first | walk1 | (dsimp only; walk1))
  refine do_pop0 w h₀ L fa x dx cd _ M n q1 q2 room mean mg mb _ _ _ F0 X T B N hdx fun q h1 tk1 eq1 eq2 F1 N1 => ?_
  clear F0 N II
  obtain ⟨⟨Tq, ⟨a, ta⟩, ⟨b, tb⟩⟩, nq⟩ := q
  dsimp only at eq1 eq2
  subst eq1 eq2
  dsimp only at N1 ⊢
  iterate 8 (first | walk1 | (dsimp only; walk1))
  rename Fr _ _ _ _ => F5; rename News _ _ _ _ => N5
  exact hrest _ _ _ _ _ F5 (by repeat' (first | exact Has.nil | refine Has.cons rfl ?_)) (News.tl N5)
theorem st_popP (w : World) (h₀ : Heap) (L fa x dx da g : Addr) (cd : Value) (mm : Str → Option Value) (M : List (Addr × Obj)) (its : List TIt) (q : TIt) (n : Nat) (q1 q2 : Tok) (room : Int) (due : Nat) (td : Tok) (k Wd Ht : Nat) (tx : Str) (t1 t3 te tk : Tok) (hh h0 e l t : Nat) (Th T0 Te Tl Tt : Tok) (mean : ExcName → Option Value) (mg mb : Str → Option Value) (s : Shared) (Q : Flow → Shared → Prop) (rest : List Stmt)
    (F : Fr h₀ L s.heap mm) (X : (KK w.params).In h₀) (T : Top vw Mine.lw mean mg mb h₀) (B : Below callerA h₀ [] h₀)
    (N : News h₀ L s.heap ((x, pileO dx (pvl (its ++ [q])) n) :: (M ++ tnl (its ++ [q])))) (hn : Nd ((x, pileO dx (pvl (its ++ [q])) n) :: (M ++ tnl (its ++ [q])))) (hdx : (dx, pileD w.params q1 q2 room) ∈ M) (hl : its.length ≤ 20)
    (hm : Has mm (VG g due td k Wd Ht da x tx t1 t3 te tk hh h0 e l t Th T0 Te Tl Tt))
    (hrest : ∀ (n' : Nat) (m' : Str → Option Value) (h : Heap) (tk' : Nat), Fr h₀ L h m' → Has m' ((Str.ofString "blanks", .str q.1.2.1.1 q.1.2.1.2) :: (Str.ofString "word", .str q.1.2.2.1 q.1.2.2.2) :: VG g due td k Wd Ht da x tx t1 t3 te tk hh h0 e l t Th T0 Te Tl Tt) → News h₀ L h ((x, pileO dx (pvl its) n') :: (M ++ tnl its)) → Nd ((x, pileO dx (pvl its) n') :: (M ++ tnl its)) →
      wpAny (model pw w) (LAr L fa cd) (execs rest (LE L fa cd)) Q NoE { s with heap := h, toks := tk' })
    : wpAny (model pw w) (LAr L fa cd) (execs (po4 :: rest) (LE L fa cd)) Q NoE s := by
  have F0 := Fr.list F _ hm
  dsimp only [VG, VK, VH, VR] at F0
  clear F hm
  iterate 4 (first | walk1 | (dsimp only; walk1))
  have II : InstAt s.heap x (pileO dx (pvl (its ++ [q])) n) 143 (some (pileD w.params q1 q2 room)) := ⟨(N _ (List.mem_cons_self ..)).1, rfl, rfl, (N _ (List.mem_cons_of_mem _ (List.mem_append_left _ hdx))).1⟩
  refine method_any (K := KK w.params) (C := 143) (ox := pileO dx (pvl (its ++ [q])) n) (od := some (pileD w.params q1 q2 room)) (v := .ref 103) (X.keeps F0.keep) II (ga := "list.__getattribute__") (by k_is) can_list (by k_is) (by k_is) (ty := .type "function") (looks_typeIn (X.keeps F0.keep) (by k_is)) (by decide) (by rfl) ?_
  iterate 1 (first | walk1 | (dsimp only; walk1))
  refine do_pop w h₀ L fa x dx cd _ M its q n q1 q2 room mean mg mb _ _ _ F0 X T B N hn hdx hl fun n' h1 tk1 F1 N1 hn1 => ?_
  clear F0 N hn II
  generalize hqe : tupO q = oq at N1
  obtain ⟨⟨Tq, ⟨a, ta⟩, ⟨b, tb⟩⟩, nq⟩ := q
  subst hqe
  dsimp only at N1 ⊢
  dsimp only at hrest
  iterate 8 (first | walk1 | (dsimp only; walk1))
  rename Fr _ _ _ _ => F5; rename News _ _ _ _ => N5
  exact hrest n' _ _ _ F5 (by repeat' (first | exact Has.nil | refine Has.cons rfl ?_)) (News.tl N5) hn1
theorem st_popeP (w : World) (h₀ : Heap) (L fa x dx da g : Addr) (cd : Value) (mm : Str → Option Value) (M : List (Addr × Obj)) (n : Nat) (q1 q2 : Tok) (room : Int) (due : Nat) (td : Tok) (k Wd Ht : Nat) (tx : Str) (t1 t3 te tk : Tok) (hh h0 e l t : Nat) (Th T0 Te Tl Tt : Tok) (mean : ExcName → Option Value) (mg mb : Str → Option Value) (s : Shared) (Q : Flow → Shared → Prop) (rest : List Stmt)
    (F : Fr h₀ L s.heap mm) (X : (KK w.params).In h₀) (T : Top vw Mine.lw mean mg mb h₀) (B : Below callerA h₀ [] h₀)
    (N : News h₀ L s.heap ((x, pileO dx (pvl []) n) :: M)) (hdx : (dx, pileD w.params q1 q2 room) ∈ M)
    (hm : Has mm (VG g due td k Wd Ht da x tx t1 t3 te tk hh h0 e l t Th T0 Te Tl Tt))
    (hrest : ∀ (ta tb : Tok) (m' : Str → Option Value) (h : Heap) (tk' : Nat), Fr h₀ L h m' → Has m' ((Str.ofString "blanks", .str (Str.ofString "") ta) :: (Str.ofString "word", .str (Str.ofString "") tb) :: VG g due td k Wd Ht da x tx t1 t3 te tk hh h0 e l t Th T0 Te Tl Tt) → News h₀ L h ((x, pileO dx (pvl []) n) :: M) →
      wpAny (model pw w) (LAr L fa cd) (execs rest (LE L fa cd)) Q NoE { s with heap := h, toks := tk' })
    : wpAny (model pw w) (LAr L fa cd) (execs (po4 :: rest) (LE L fa cd)) Q NoE s := by
  have F0 := Fr.list F _ hm
  dsimp only [VG, VK, VH, VR] at F0
  clear F hm
  iterate 4 (first | walk1 | (dsimp only; walk1))
  have II : InstAt s.heap x (pileO dx (pvl []) n) 143 (some (pileD w.params q1 q2 room)) := ⟨(N _ (List.mem_cons_self ..)).1, rfl, rfl, (N _ (List.mem_cons_of_mem _ hdx)).1⟩
  refine method_any (K := KK w.params) (C := 143) (ox := pileO dx (pvl []) n) (od := some (pileD w.params q1 q2 room)) (v := .ref 103) (X.keeps F0.keep) II (ga := "list.__getattribute__") (by k_is) can_list (by k_is) (by k_is) (ty := .type "function") (looks_typeIn (X.keeps F0.keep) (by k_is)) (by decide) (by rfl) ?_
  iterate 1 (first | walk1 | (dsimp only; walk1))
  refine do_pop0 w h₀ L fa x dx cd _ M n q1 q2 room mean mg mb _ _ _ F0 X T B N hdx fun q h1 tk1 eq1 eq2 F1 N1 => ?_
  clear F0 N II
  obtain ⟨⟨Tq, ⟨a, ta⟩, ⟨b, tb⟩⟩, nq⟩ := q
  dsimp only at eq1 eq2
  subst eq1 eq2
  dsimp only at N1 ⊢
  iterate 8 (first | walk1 | (dsimp only; walk1))
  rename Fr _ _ _ _ => F5; rename News _ _ _ _ => N5
  exact hrest _ _ _ _ _ F5 (by repeat' (first | exact Has.nil | refine Has.cons rfl ?_)) (News.tl N5)
end Mine
end
section
open PySem PySem.W PyProof.Rows PySem.Spec PySem.Calls PyProof.V PySem.Builtin.Str
namespace Mine
theorem blanks_length (p : Nat) : (blanks p).length = p + 1 := by
  have e := len_mul (Str.ofString " ") ((p : Int) + 1)
  rw [if_neg (by simp; omega), show (Str.ofString " ").length = 1 from rfl] at e
  have : ((blanks p).length : Int) = (p : Int) + 1 := by
    unfold blanks; rw [e]; omega
  omega
theorem st_po01 (w : World) (h₀ : Heap) (L fa x da g : Addr) (cd : Value) (mm : Str → Option Value) (nl : List (Addr × Obj)) (p : Nat) (b : Str) (ta tb : Tok) (due : Nat) (td : Tok) (k Wd Ht : Nat) (tx : Str) (t1 t3 te tk : Tok) (hh h0 e l t : Nat) (Th T0 Te Tl Tt : Tok) (mean : ExcName → Option Value) (mg mb : Str → Option Value) (s : Shared) (Q : Flow → Shared → Prop) (rest : List Stmt)
    (F : Fr h₀ L s.heap mm) (X : (KK w.params).In h₀) (T : Top vw Mine.lw mean mg mb h₀) (B : Below callerA h₀ [] h₀)
    (N : News h₀ L s.heap nl) (hp8 : p < 8)
    (hm : Has mm ((Str.ofString "blanks", .str (blanks p) ta) :: (Str.ofString "word", .str b tb) :: VG g due td k Wd Ht da x tx t1 t3 te tk hh h0 e l t Th T0 Te Tl Tt))
    (hrest : ∀ (tp tbt : Tok) (m' : Str → Option Value) (h : Heap) (tk' : Nat), Fr h₀ L h m' → Has m' ((Str.ofString "p", .int (p : Int) tp) :: (Str.ofString "bit", .int (1 <<< p : Nat) tbt) :: (Str.ofString "blanks", .str (blanks p) ta) :: (Str.ofString "word", .str b tb) :: VG g due td k Wd Ht da x tx t1 t3 te tk hh h0 e l t Th T0 Te Tl Tt) → News h₀ L h nl →
      wpAny (model pw w) (LAr L fa cd) (execs rest (LE L fa cd)) Q NoE { s with heap := h, toks := tk' })
    : wpAny (model pw w) (LAr L fa cd) (execs (po0 :: po1 :: rest) (LE L fa cd)) Q NoE s := by
  have F0 := Fr.list F _ hm
  dsimp only [VG, VK, VH, VR] at F0
  clear F hm
  have hbl := blanks_length p
  generalize hbe : blanks p = bk at hbl F0 hrest
  iterate 12 (first | walk1 | (dsimp only; walk1))
  rw [show ((bk.length : Nat) : Int) - 1 = (p : Int) from by omega]
  iterate 11 (first | walk1 | (dsimp only; walk1))
  rename Fr _ _ _ _ => F1; rename News _ _ _ _ => N1
  refine args_nil ⟨X.keeps F1.keep, ?_⟩
  refine p_shlN w 1 p _ _ _ _ _ _ _ _ _ _ _ _ _ _ _ _ _ _ _ _ _ _ B F1 X (by assumption) rfl ⟨by omega, by omega⟩ (by ktr_room) (by ktr_room) fun t1' h1 tk1 hk1 => ?_
  have F2 := F1.kept (h' := h1) hk1
  have N2 := News.kp N1 hk1
  clear F1 N1
  iterate 1 (first | walk1 | (dsimp only; walk1))
  rename Fr _ _ _ _ => F5; rename News _ _ _ _ => N5
  exact hrest _ _ _ _ _ F5 (by repeat' (first | exact Has.nil | refine Has.cons rfl ?_)) N5
theorem st_pob (w : World) (h₀ : Heap) (L fa x da g : Addr) (cd : Value) (mm : Str → Option Value) (nl : List (Addr × Obj)) (p : Nat) (b bk : Str) (ta tb tp tbt : Tok) (due : Nat) (td : Tok) (k Wd Ht : Nat) (tx : Str) (t1 t3 te tk : Tok) (hh h0 e l t : Nat) (Th T0 Te Tl Tt : Tok) (mean : ExcName → Option Value) (mg mb : Str → Option Value) (s : Shared) (Q : Flow → Shared → Prop)
    (F : Fr h₀ L s.heap mm) (X : (KK w.params).In h₀) (T : Top vw Mine.lw mean mg mb h₀) (B : Below callerA h₀ [] h₀)
    (N : News h₀ L s.heap nl) (hp8 : p < 8) (hdim : dims Wd Ht) (hk : k ≤ Wd + Ht)
    (hm : Has mm ((Str.ofString "p", .int (p : Int) tp) :: (Str.ofString "bit", .int (1 <<< p : Nat) tbt) :: (Str.ofString "blanks", .str bk ta) :: (Str.ofString "word", .str b tb) :: VG g due td k Wd Ht da x tx t1 t3 te tk hh h0 e l t Th T0 Te Tl Tt))
    (hrest : ∀ (Th Tt : Tok) (m' : Str → Option Value) (h : Heap) (tk' : Nat), Fr h₀ L h m' → Has m' ((Str.ofString "blanks", .str bk ta) :: (Str.ofString "word", .str b tb) :: VG g due td k Wd Ht da x tx t1 t3 te tk (hh ^^^ 1 <<< p) h0 e l (t ||| (1 <<< p) <<< (Wd * Ht * k)) Th T0 Te Tl Tt) → News h₀ L h nl →
      Q .next { s with heap := h, toks := tk' })
    : wpAny (model pw w) (LAr L fa cd) (execs [pob0, pob1] (LE L fa cd)) Q NoE s := by
  have F0 := Fr.list F _ hm
  dsimp only [VG, VK, VH, VR] at F0
  clear F hm
  obtain ⟨hb1, hb2⟩ := size_hour hdim hk
  have hbit : 1 <<< p ≤ 256 := by
    have : p = 0 ∨ p = 1 ∨ p = 2 ∨ p = 3 ∨ p = 4 ∨ p = 5 ∨ p = 6 ∨ p = 7 := by omega
    rcases this with rfl | rfl | rfl | rfl | rfl | rfl | rfl | rfl <;> decide
  generalize 1 <<< p = bit at hbit F0 hrest
  iterate 9 (first | walk1 | (dsimp only; walk1))
  refine args_nil ⟨X.keeps F0.keep, ?_⟩
  refine p_xorN w hh bit _ _ _ _ _ _ _ _ _ _ _ _ _ _ _ _ _ _ _ _ _ _ B F0 X (by assumption) rfl trivial (by ktr_room) (by ktr_room) fun t2' h2 tk2 hk2 => ?_
  have F2 := F0.kept (h' := h2) hk2
  have N2 := News.kp N hk2
  clear F0 N
  iterate 18 (first | walk1 | (dsimp only; walk1))
  refine mul_int ?_ (mul_size _ hdim)
  rw [show ((Wd * Ht : Nat) : Int) * (k : Int) = ((Wd * Ht * k : Nat) : Int) from (Int.natCast_mul ..).symm]
  rename Fr _ _ _ _ => F3; rename News _ _ _ _ => N3
  refine args_nil ⟨X.keeps F3.keep, ?_⟩
  refine p_shlN w bit (Wd * Ht * k) _ _ _ _ _ _ _ _ _ _ _ _ _ _ _ _ _ _ _ _ _ _ B F3 X (by assumption) rfl ⟨hb1, hbit⟩ (by ktr_room) (by ktr_room) fun t4' h4 tk4 hk4 => ?_
  have F4 := F3.kept (h' := h4) hk4
  have N4 := News.kp N3 hk4
  refine args_nil ⟨X.keeps F4.keep, ?_⟩
  refine p_orN w t (bit <<< (Wd * Ht * k)) _ _ _ _ _ _ _ _ _ _ _ _ _ _ _ _ _ _ _ _ _ _ B F4 X (by assumption) rfl trivial (by ktr_room) (by ktr_room) fun t5' h5 tk5 hk5 => ?_
  have F5 := F4.kept (h' := h5) hk5
  have N5 := News.kp N4 hk5
  clear F3 F4 N3 N4
  iterate 1 (first | walk1 | (dsimp only; walk1))
  rename Fr _ _ _ _ => F6; rename News _ _ _ _ => N6
  refine wpAny_execs_nil ?_
  exact hrest _ _ _ _ _ F6 (by repeat' (first | exact Has.nil | refine Has.cons rfl ?_)) N6
theorem st_po2 (w : World) (h₀ : Heap) (L fa x da db g : Addr) (cd : Value) (mm : Str → Option Value) (o5 : Obj) (nl : List (Addr × Obj)) (avs bvs : List Value) (as bs : List Nat) (p : Nat) (b bk : Str) (ta tb tp tbt : Tok) (due : Nat) (td : Tok) (k Wd Ht : Nat) (tx : Str) (t1 t3 te tk : Tok) (hh h0 e l t : Nat) (Th T0 Te Tl Tt : Tok) (mean : ExcName → Option Value) (mg mb : Str → Option Value) (s : Shared) (Q : Flow → Shared → Prop) (rest : List Stmt)
    (F : Fr h₀ L s.heap mm) (X : (KK w.params).In h₀) (T : Top vw Mine.lw mean mg mb h₀) (B : Below callerA h₀ [] h₀)
    (N : News h₀ L s.heap nl) (m5 : (L + 1 + 1 + 1 + 1 + 1, o5) ∈ nl) (mb' : (db, W.listOf bvs.toArray 0) ∈ nl) (ma' : (da, W.listOf avs.toArray 0) ∈ nl) (d5 : o5.data = .cell (some (.ref db))) (ib : IntsAre bvs (cI bs)) (ia : IntsAre avs (cI as)) (hp8 : p < 8) (hbl : p < bs.length) (hal : p < as.length) (hdim : dims Wd Ht) (hk : k ≤ Wd + Ht)
    (hm : Has mm ((Str.ofString "p", .int (p : Int) tp) :: (Str.ofString "bit", .int (1 <<< p : Nat) tbt) :: (Str.ofString "blanks", .str bk ta) :: (Str.ofString "word", .str b tb) :: VG g due td k Wd Ht da x tx t1 t3 te tk hh h0 e l t Th T0 Te Tl Tt))
    (hrest : ∀ (Th Tt : Tok) (m' : Str → Option Value) (h : Heap) (tk' : Nat), Fr h₀ L h m' → Has m' ((Str.ofString "blanks", .str bk ta) :: (Str.ofString "word", .str b tb) :: VG g due td k Wd Ht da x tx t1 t3 te tk (popStepT bs as (Wd * Ht * k) (hh, t) p).1 h0 e l (popStepT bs as (Wd * Ht * k) (hh, t) p).2 Th T0 Te Tl Tt) → News h₀ L h nl →
      wpAny (model pw w) (LAr L fa cd) (execs rest (LE L fa cd)) Q NoE { s with heap := h, toks := tk' })
    : wpAny (model pw w) (LAr L fa cd) (execs (po2 :: rest) (LE L fa cd)) Q NoE s := by
  have F0 := Fr.list F _ hm
  dsimp only [VG, VK, VH, VR] at F0
  clear F hm
  iterate 11 (first | walk1 | (dsimp only; walk1))
  refine args_nil ⟨X.keeps F0.keep, ?_⟩
  refine p_andN w hh (1 <<< p) _ _ _ _ _ _ _ _ _ _ _ _ _ _ _ _ _ _ _ _ _ _ B F0 X (by assumption) rfl trivial (by ktr_room) (by ktr_room) fun t2' h2 tk2 hk2 => ?_
  have F2 := F0.kept (h' := h2) hk2
  have N2 := News.kp N hk2
  clear F0 N
  have hne : ((((hh &&& 1 <<< p : Nat) : Int)) != 0) = !decide (hh &&& 1 <<< p = 0) := by
    rw [bne, zN]
  have hps : popStepT bs as (Wd * Ht * k) (hh, t) p = if (if decide (hh &&& 1 <<< p = 0) then decide (hh &&& bs.getD p 0 = bs.getD p 0) else decide (hh &&& as.getD p 0 = 0)) = true then (hh ^^^ 1 <<< p, t ||| (1 <<< p) <<< (Wd * Ht * k)) else (hh, t) := rfl
  iterate 1 (first | walk1 | (dsimp only; walk1))
  rw [hne]
  by_cases c0 : hh &&& 1 <<< p = 0
  · rw [decide_eq_true c0] at hps ⊢
    rw [if_neg (by decide)]
    have hil : (p : Int) < ((cI bs).length : Int) := by rw [cI_len]; omega
    iterate 8 (first | walk1 | (dsimp only; walk1))
    refine ldBelow N2 m5 d5 ?_
    iterate 1 (first | walk1 | (dsimp only; walk1))
    refine item_list_ints ⟨_, (N2 _ mb').1, rfl, _, rfl⟩ ib (by omega) hil (by omega) (fun td5 => ?_)
    rw [Int.toNat_natCast, cI_get]
    refine args_nil ⟨X.keeps F2.keep, ?_⟩
    refine p_andN w hh (bs.getD p 0) _ _ _ _ _ _ _ _ _ _ _ _ _ _ _ _ _ _ _ _ _ _ B F2 X (by assumption) rfl trivial (by ktr_room) (by ktr_room) fun t3' h3 tk3 hk3 => ?_
    have F3 := F2.kept (h' := h3) hk3
    have N3 := News.kp N2 hk3
    clear F2 N2
    iterate 1 (first | walk1 | (dsimp only; walk1))
    refine ldBelow N3 m5 d5 ?_
    iterate 1 (first | walk1 | (dsimp only; walk1))
    refine item_list_ints ⟨_, (N3 _ mb').1, rfl, _, rfl⟩ ib (by omega) hil (by omega) (fun td6 => ?_)
    rw [Int.toNat_natCast, cI_get]
    iterate 1 (first | walk1 | (dsimp only; walk1))
    rw [pr_eq]
    by_cases c2 : hh &&& bs.getD p 0 = bs.getD p 0
    · rw [decide_eq_true c2] at hps ⊢
      refine wpAny_truthy_bool ?_
      rw [if_pos rfl]
      refine st_pob w h₀ L fa x da g cd _ nl p b bk ta tb tp tbt due td k Wd Ht tx t1 t3 te tk hh h0 e l t Th T0 Te Tl Tt mean mg mb _ _ F3 X T B N3 hp8 hdim hk (by repeat' (first | exact Has.nil | refine Has.cons rfl ?_)) fun Th' Tt' m' h' tk' F4 hm4 N4 => ?_
      exact hrest Th' Tt' m' h' tk' F4 (by rw [hps]; exact hm4) N4
    · rw [decide_eq_false c2] at hps ⊢
      refine wpAny_truthy_bool ?_
      rw [if_neg (by decide)]
      refine wpAny_execs_nil ?_
      exact hrest Th Tt _ _ _ F3 (by rw [hps]; repeat' (first | exact Has.nil | refine Has.cons rfl ?_)) N3
  · rw [decide_eq_false c0] at hps ⊢
    rw [if_pos (by decide)]
    have hil : (p : Int) < ((cI as).length : Int) := by rw [cI_len]; omega
    iterate 10 (first | walk1 | (dsimp only; walk1))
    refine item_list_ints ⟨_, (N2 _ ma').1, rfl, _, rfl⟩ ia (by omega) hil (by omega) (fun td5 => ?_)
    rw [Int.toNat_natCast, cI_get]
    refine args_nil ⟨X.keeps F2.keep, ?_⟩
    refine p_andN w hh (as.getD p 0) _ _ _ _ _ _ _ _ _ _ _ _ _ _ _ _ _ _ _ _ _ _ B F2 X (by assumption) rfl trivial (by ktr_room) (by ktr_room) fun t3' h3 tk3 hk3 => ?_
    have F3 := F2.kept (h' := h3) hk3
    have N3 := News.kp N2 hk3
    clear F2 N2
    iterate 2 (first | walk1 | (dsimp only; walk1))
    rw [zN]
    by_cases c2 : hh &&& as.getD p 0 = 0
    · rw [decide_eq_true c2] at hps ⊢
      refine wpAny_truthy_bool ?_
      rw [if_pos rfl]
      refine st_pob w h₀ L fa x da g cd _ nl p b bk ta tb tp tbt due td k Wd Ht tx t1 t3 te tk hh h0 e l t Th T0 Te Tl Tt mean mg mb _ _ F3 X T B N3 hp8 hdim hk (by repeat' (first | exact Has.nil | refine Has.cons rfl ?_)) fun Th' Tt' m' h' tk' F4 hm4 N4 => ?_
      exact hrest Th' Tt' m' h' tk' F4 (by rw [hps]; exact hm4) N4
    · rw [decide_eq_false c2] at hps ⊢
      refine wpAny_truthy_bool ?_
      rw [if_neg (by decide)]
      refine wpAny_execs_nil ?_
      exact hrest Th Tt _ _ _ F3 (by rw [hps]; repeat' (first | exact Has.nil | refine Has.cons rfl ?_)) N3
end Mine
end
section
open PySem PySem.W PyProof.Rows PySem.Spec PySem.Calls PyProof.V PySem.Builtin.Str
namespace Mine
theorem nd_perm {a b : List (Addr × Obj)} (h : Nd a) (p : a.Perm b) : Nd b := (List.Perm.nodup_iff (p.map _)).mp h
theorem st_po3 (w : World) (h₀ : Heap) (L fa x dx da g : Addr) (cd : Value) (mm : Str → Option Value) (M : List (Addr × Obj)) (its gl : List TIt) (c n : Nat) (a b : Str) (ta tb : Tok) (due : Nat) (td : Tok) (k Wd Ht : Nat) (tx : Str) (t1 t3 te tk : Tok) (hh h0 e l t : Nat) (Th T0 Te Tl Tt : Tok) (mean : ExcName → Option Value) (mg mb : Str → Option Value) (s : Shared) (Q : Flow → Shared → Prop) (rest : List Stmt)
    (F : Fr h₀ L s.heap mm) (X : (KK w.params).In h₀) (T : Top vw Mine.lw mean mg mb h₀) (B : Below callerA h₀ [] h₀)
    (N : News h₀ L s.heap ((x, pileO dx (pvl its) n) :: (((g, W.listOf (pvl gl).toArray c) :: (M ++ tnl gl)) ++ tnl its))) (hn : Nd ((x, pileO dx (pvl its) n) :: (((g, W.listOf (pvl gl).toArray c) :: (M ++ tnl gl)) ++ tnl its))) (hgl : gl.length ≤ 20)
    (hm : Has mm ((Str.ofString "blanks", .str a ta) :: (Str.ofString "word", .str b tb) :: VG g due td k Wd Ht da x tx t1 t3 te tk hh h0 e l t Th T0 Te Tl Tt))
    (hrest : ∀ (T : Addr) (nt c' : Nat) (m' : Str → Option Value) (h : Heap) (tk' : Nat), Fr h₀ L h m' → Has m' (VG g due td k Wd Ht da x tx t1 t3 te tk hh h0 e l t Th T0 Te Tl Tt) → News h₀ L h ((x, pileO dx (pvl its) n) :: (((g, W.listOf (pvl (gl ++ [((T, (a, ta), (b, tb)), nt)])).toArray c') :: (M ++ tnl (gl ++ [((T, (a, ta), (b, tb)), nt)]))) ++ tnl its)) → Nd ((x, pileO dx (pvl its) n) :: (((g, W.listOf (pvl (gl ++ [((T, (a, ta), (b, tb)), nt)])).toArray c') :: (M ++ tnl (gl ++ [((T, (a, ta), (b, tb)), nt)]))) ++ tnl its)) →
      wpAny (model pw w) (LAr L fa cd) (execs rest (LE L fa cd)) Q NoE { s with heap := h, toks := tk' })
    : wpAny (model pw w) (LAr L fa cd) (execs (po3 :: rest) (LE L fa cd)) Q NoE s := by
  have F0 := Fr.list F _ hm
  dsimp only [VG, VK, VH, VR] at F0
  clear F hm
  iterate 13 (first | walk1 | (dsimp only; walk1))
  generalize hnl : ((x, pileO dx (pvl its) n) :: (((g, W.listOf (pvl gl).toArray c) :: (M ++ tnl gl)) ++ tnl its)) = nl at N
  iterate 2 (first | walk1 | (dsimp only; walk1))
  rename Fr _ _ _ _ => F1; rename News _ _ _ _ => N1
  rename Addr => TT
  rename (∀ p ∈ nl, p.1 < TT) => l1
  subst hnl
  refine wpAny_list_append_plain (items := (pvl gl).toArray) ⟨c, (N1 _ (List.mem_cons_of_mem _ (List.mem_cons_of_mem _ (List.mem_cons_self ..)))).1⟩ (fun h' hp hs => ?_) (by unfold sizeLine; simp only [List.size_toArray, List.length_map]; omega)
  obtain ⟨c', hg'⟩ := hp
  have hn1 : Nd ((TT, tupO ((TT, (a, ta), (b, tb)), 0)) :: ((x, pileO dx (pvl its) n) :: (((g, W.listOf (pvl gl).toArray c) :: (M ++ tnl gl)) ++ tnl its))) := Nd.cons hn fun q hq => Nat.ne_of_lt (l1 q hq)
  obtain ⟨F2, N2⟩ := upd_nd (pre := [(TT, tupO ((TT, (a, ta), (b, tb)), 0)), (x, pileO dx (pvl its) n)]) (post := (M ++ tnl gl) ++ tnl its) (o' := W.listOf ((pvl gl).toArray.push (.ref TT)) c') F1 N1 hn1 hs hg'
  have hn2 : Nd ((TT, tupO ((TT, (a, ta), (b, tb)), 0)) :: ((x, pileO dx (pvl its) n) :: (((g, W.listOf ((pvl gl).toArray.push (.ref TT)) c') :: (M ++ tnl gl)) ++ tnl its))) := hn1
  have ea : (pvl gl).toArray.push (.ref TT) = (pvl (gl ++ [((TT, (a, ta), (b, tb)), 0)])).toArray := by rw [pvl_snoc]; simp
  rw [ea] at N2 hn2
  clear F1 N1 hn1
  refine hrest TT 0 c' _ _ _ F2 (by repeat' (first | exact Has.nil | refine Has.cons rfl ?_)) (News.sub N2 fun z hz => ?_) ?_
  · rw [tnl_snoc] at hz
    simp only [List.mem_cons, List.mem_append, List.not_mem_nil, or_false, List.cons_append, List.nil_append] at hz ⊢
    rcases hz with h | h | (h | h | h) | h
    · exact .inr (.inl h)
    · exact .inr (.inr (.inl h))
    · exact .inr (.inr (.inr (.inl (.inl h))))
    · exact .inr (.inr (.inr (.inl (.inr h))))
    · exact .inl h
    · exact .inr (.inr (.inr (.inr h)))
  · rw [tnl_snoc]
    refine nd_perm hn2 ?_
    simp only [List.cons_append]
    refine (List.perm_middle (l₁ := [(x, pileO dx (pvl its) n), (g, W.listOf (pvl (gl ++ [((TT, (a, ta), (b, tb)), 0)])).toArray c')] ++ (M ++ tnl gl)) (a := (TT, tupO ((TT, (a, ta), (b, tb)), 0))) (l₂ := tnl its)).symm.trans ?_
    simp
theorem st_hr3 (w : World) (h₀ : Heap) (L fa x da : Addr) (cd : Value) (mm : Str → Option Value) (nl : List (Addr × Obj)) (due : Nat) (td : Tok) (k Wd Ht : Nat) (tx : Str) (t1 t3 te tk : Tok) (hh h0 e l t : Nat) (Th T0 Te Tl Tt : Tok) (mean : ExcName → Option Value) (mg mb : Str → Option Value) (s : Shared) (Q : Flow → Shared → Prop) (rest : List Stmt)
    (F : Fr h₀ L s.heap mm) (X : (KK w.params).In h₀) (T : Top vw Mine.lw mean mg mb h₀) (B : Below callerA h₀ [] h₀)
    (N : News h₀ L s.heap nl)
    (hm : Has mm ((Str.ofString "due", .int (due : Int) td) :: VK k Wd Ht da x tx t1 t3 te tk hh h0 e l t Th T0 Te Tl Tt))
    (hrest : ∀ (g : Addr) (c : Nat) (m' : Str → Option Value) (h : Heap) (tk' : Nat), Fr h₀ L h m' → Has m' (VG g due td k Wd Ht da x tx t1 t3 te tk hh h0 e l t Th T0 Te Tl Tt) → News h₀ L h ((g, W.listOf #[] c) :: nl) → (∀ q ∈ nl, q.1 ≠ g) →
      wpAny (model pw w) (LAr L fa cd) (execs rest (LE L fa cd)) Q NoE { s with heap := h, toks := tk' })
    : wpAny (model pw w) (LAr L fa cd) (execs (hr3 :: rest) (LE L fa cd)) Q NoE s := by
  have F0 := Fr.list F _ hm
  dsimp only [VG, VK, VH, VR] at F0
  clear F hm
  iterate 5 (first | walk1 | (dsimp only; walk1))
  rename Addr => g; rename (∀ p ∈ nl, p.1 < g) => l1
  iterate 1 (first | walk1 | (dsimp only; walk1))
  rename Fr _ _ _ _ => F1; rename News _ _ _ _ => N1
  exact hrest g 0 _ _ _ F1 (by repeat' (first | exact Has.nil | refine Has.cons rfl ?_)) N1 fun q hq => Nat.ne_of_lt (l1 q hq)
end Mine
end
section
open PySem PySem.W PyProof.Rows PySem.Spec PySem.Calls PyProof.V PySem.Builtin.Str
namespace Mine
noncomputable abbrev nlP (x dx g : Addr) (M : List (Addr × Obj)) (its gl : List TIt) (n c : Nat) : List (Addr × Obj) :=
  (x, pileO dx (pvl its) n) :: (((g, W.listOf (pvl gl).toArray c) :: (M ++ tnl gl)) ++ tnl its)
noncomputable def IP (h₀ : Heap) (L g x dx da : Addr) (M : List (Addr × Obj)) (bs as : List Nat) (wl : List Str) (ord : List Nat) (hh0 t0 due : Nat) (td : Tok) (k Wd Ht : Nat) (tx : Str) (t1 t3 te tk : Tok) (h0 e l : Nat) (T0 Te Tl : Tok) (s0 : Shared) (j : Nat) (s : Shared) : Prop :=
  ∃ (h : Heap) (tk' : Nat) (m : Str → Option Value) (its gl : List TIt) (n c hh t : Nat) (Th Tt : Tok) (ordR ordD : List Nat),
    s = { s0 with heap := h, toks := tk' } ∧ Fr h₀ L h m ∧ News h₀ L h (nlP x dx g M its gl n c) ∧ Nd (nlP x dx g M its gl n c) ∧ ord = ordR ++ ordD ∧ ItemsAre wl gl ordD.reverse ∧ (hh, t) = ordD.reverse.foldl (popStepT bs as (Wd * Ht * k)) (hh0, t0) ∧ j = ordR.length ∧
    ((∃ (p : Nat) (ta tb : Tok) (ordR' : List Nat), ordR = ordR' ++ [p] ∧ ItemsAre wl its ordR' ∧ Has m ((Str.ofString "blanks", .str (blanks p) ta) :: (Str.ofString "word", .str (wl.getD p ⟨#[]⟩) tb) :: VG g due td k Wd Ht da x tx t1 t3 te tk hh h0 e l t Th T0 Te Tl Tt)) ∨
     (ordR = [] ∧ its = [] ∧ ∃ (ta tb : Tok), Has m ((Str.ofString "blanks", .str (Str.ofString "") ta) :: (Str.ofString "word", .str (Str.ofString "") tb) :: VG g due td k Wd Ht da x tx t1 t3 te tk hh h0 e l t Th T0 Te Tl Tt)))
theorem nil_or_snoc (l : List Nat) : l = [] ∨ ∃ l' b, l = l' ++ [b] := by
  rcases List.eq_nil_or_concat l with h | ⟨l', b, h⟩
  · exact .inl h
  · exact .inr ⟨l', b, by rw [h, List.concat_eq_append]⟩
theorem ItemsAre.last {wl : List Str} {its : List TIt} {ord : List Nat} {p : Nat} (h : ItemsAre wl its (ord ++ [p])) : ∃ its' q, its = its' ++ [q] ∧ ItemsAre wl its' ord ∧ q.1.2.1.1 = blanks p ∧ q.1.2.2.1 = wl.getD p ⟨#[]⟩ := by
  unfold ItemsAre at h
  rw [List.map_append] at h
  obtain ⟨l1, l2, rfl, h1, h2⟩ := List.map_eq_append_iff.mp h
  have hl2 : l2.length = 1 := by simpa using congrArg List.length h2
  obtain ⟨q, rfl⟩ := List.length_eq_one_iff.mp hl2
  simp only [List.map_cons, List.map_nil, List.cons.injEq, Prod.mk.injEq, and_true] at h2
  exact ⟨l1, q, rfl, h1, h2.1, h2.2⟩
theorem nextH (w : World) (h₀ : Heap) (L fa x dx da g : Addr) (cd : Value) (mm : Str → Option Value) (M : List (Addr × Obj)) (its gl : List TIt) (n c : Nat) (bs as : List Nat) (wl : List Str) (ord ordR ordD : List Nat) (q1 q2 : Tok) (room : Int) (hh0 t0 due : Nat) (td : Tok) (k Wd Ht : Nat) (tx : Str) (t1 t3 te tk : Tok) (hh h0 e l t : Nat) (Th T0 Te Tl Tt : Tok) (mean : ExcName → Option Value) (mg mb : Str → Option Value) (s0 : Shared) (h : Heap) (tk' : Nat) (Q : Flow → Shared → Prop) (rest : List Stmt)
    (F : Fr h₀ L h mm) (X : (KK w.params).In h₀) (T : Top vw Mine.lw mean mg mb h₀) (B : Below callerA h₀ [] h₀)
    (N : News h₀ L h (nlP x dx g M its gl n c)) (hn : Nd (nlP x dx g M its gl n c)) (hdx : (dx, pileD w.params q1 q2 room) ∈ M) (hl : its.length ≤ 20)
    (ho : ord = ordR ++ ordD) (hgl : ItemsAre wl gl ordD.reverse) (hst : (hh, t) = ordD.reverse.foldl (popStepT bs as (Wd * Ht * k)) (hh0, t0)) (hit : ItemsAre wl its ordR)
    (hm : Has mm (VG g due td k Wd Ht da x tx t1 t3 te tk hh h0 e l t Th T0 Te Tl Tt))
    (hrest : ∀ s', IP h₀ L g x dx da M bs as wl ord hh0 t0 due td k Wd Ht tx t1 t3 te tk h0 e l T0 Te Tl s0 ordR.length s' → wpAny (model pw w) (LAr L fa cd) (execs rest (LE L fa cd)) Q NoE s')
    : wpAny (model pw w) (LAr L fa cd) (execs (hr4 :: rest) (LE L fa cd)) Q NoE { s0 with heap := h, toks := tk' } := by
  rcases nil_or_snoc ordR with rfl | ⟨ordR', p, rfl⟩
  · have hi0 : its = [] := List.eq_nil_of_length_eq_zero (by rw [hit.len]; rfl)
    subst hi0
    refine st_popeH w h₀ L fa x dx da g cd mm ((g, W.listOf (pvl gl).toArray c) :: (M ++ tnl gl)) n q1 q2 room due td k Wd Ht tx t1 t3 te tk hh h0 e l t Th T0 Te Tl Tt mean mg mb _ Q rest F X T B (News.sub N fun z hz => by simpa using hz) (List.mem_cons_of_mem _ (List.mem_append_left _ hdx)) hm fun ta tb m' h' tk2 F2 hm2 N2 => ?_
    exact hrest _ ⟨h', tk2, m', [], gl, n, c, hh, t, Th, Tt, [], ordD, rfl, F2, News.sub N2 fun z hz => by simpa using hz, hn, ho, hgl, hst, rfl, .inr ⟨rfl, rfl, ta, tb, hm2⟩⟩
  · obtain ⟨its', q, rfl, hi', eq1, eq2⟩ := hit.last
    refine st_popH w h₀ L fa x dx da g cd mm ((g, W.listOf (pvl gl).toArray c) :: (M ++ tnl gl)) its' q n q1 q2 room due td k Wd Ht tx t1 t3 te tk hh h0 e l t Th T0 Te Tl Tt mean mg mb _ Q rest F X T B N hn (List.mem_cons_of_mem _ (List.mem_append_left _ hdx)) (by simp at hl; omega) hm fun n' m' h' tk2 F2 hm2 N2 hn2 => ?_
    rw [eq1, eq2] at hm2
    exact hrest _ ⟨h', tk2, m', its', gl, n', c, hh, t, Th, Tt, ordR' ++ [p], ordD, rfl, F2, N2, hn2, ho, hgl, hst, by simp, .inl ⟨p, _, _, ordR', rfl, hi', hm2⟩⟩
theorem nextP (w : World) (h₀ : Heap) (L fa x dx da g : Addr) (cd : Value) (mm : Str → Option Value) (M : List (Addr × Obj)) (its gl : List TIt) (n c : Nat) (bs as : List Nat) (wl : List Str) (ord ordR ordD : List Nat) (q1 q2 : Tok) (room : Int) (hh0 t0 due : Nat) (td : Tok) (k Wd Ht : Nat) (tx : Str) (t1 t3 te tk : Tok) (hh h0 e l t : Nat) (Th T0 Te Tl Tt : Tok) (mean : ExcName → Option Value) (mg mb : Str → Option Value) (s0 : Shared) (h : Heap) (tk' : Nat) (Q : Flow → Shared → Prop) (rest : List Stmt)
    (F : Fr h₀ L h mm) (X : (KK w.params).In h₀) (T : Top vw Mine.lw mean mg mb h₀) (B : Below callerA h₀ [] h₀)
    (N : News h₀ L h (nlP x dx g M its gl n c)) (hn : Nd (nlP x dx g M its gl n c)) (hdx : (dx, pileD w.params q1 q2 room) ∈ M) (hl : its.length ≤ 20)
    (ho : ord = ordR ++ ordD) (hgl : ItemsAre wl gl ordD.reverse) (hst : (hh, t) = ordD.reverse.foldl (popStepT bs as (Wd * Ht * k)) (hh0, t0)) (hit : ItemsAre wl its ordR)
    (hm : Has mm (VG g due td k Wd Ht da x tx t1 t3 te tk hh h0 e l t Th T0 Te Tl Tt))
    (hrest : ∀ s', IP h₀ L g x dx da M bs as wl ord hh0 t0 due td k Wd Ht tx t1 t3 te tk h0 e l T0 Te Tl s0 ordR.length s' → wpAny (model pw w) (LAr L fa cd) (execs rest (LE L fa cd)) Q NoE s')
    : wpAny (model pw w) (LAr L fa cd) (execs (po4 :: rest) (LE L fa cd)) Q NoE { s0 with heap := h, toks := tk' } := by
  rcases nil_or_snoc ordR with rfl | ⟨ordR', p, rfl⟩
  · have hi0 : its = [] := List.eq_nil_of_length_eq_zero (by rw [hit.len]; rfl)
    subst hi0
    refine st_popeP w h₀ L fa x dx da g cd mm ((g, W.listOf (pvl gl).toArray c) :: (M ++ tnl gl)) n q1 q2 room due td k Wd Ht tx t1 t3 te tk hh h0 e l t Th T0 Te Tl Tt mean mg mb _ Q rest F X T B (News.sub N fun z hz => by simpa using hz) (List.mem_cons_of_mem _ (List.mem_append_left _ hdx)) hm fun ta tb m' h' tk2 F2 hm2 N2 => ?_
    exact hrest _ ⟨h', tk2, m', [], gl, n, c, hh, t, Th, Tt, [], ordD, rfl, F2, News.sub N2 fun z hz => by simpa using hz, hn, ho, hgl, hst, rfl, .inr ⟨rfl, rfl, ta, tb, hm2⟩⟩
  · obtain ⟨its', q, rfl, hi', eq1, eq2⟩ := hit.last
    refine st_popP w h₀ L fa x dx da g cd mm ((g, W.listOf (pvl gl).toArray c) :: (M ++ tnl gl)) its' q n q1 q2 room due td k Wd Ht tx t1 t3 te tk hh h0 e l t Th T0 Te Tl Tt mean mg mb _ Q rest F X T B N hn (List.mem_cons_of_mem _ (List.mem_append_left _ hdx)) (by simp at hl; omega) hm fun n' m' h' tk2 F2 hm2 N2 hn2 => ?_
    rw [eq1, eq2] at hm2
    exact hrest _ ⟨h', tk2, m', its', gl, n', c, hh, t, Th, Tt, ordR' ++ [p], ordD, rfl, F2, N2, hn2, ho, hgl, hst, by simp, .inl ⟨p, _, _, ordR', rfl, hi', hm2⟩⟩
theorem p_turn (w : World) (h₀ : Heap) (L fa x dx da db g : Addr) (cd : Value) (mm : Str → Option Value) (o5 : Obj) (M : List (Addr × Obj)) (avs bvs : List Value) (its gl : List TIt) (n c : Nat) (bs as : List Nat) (wl : List Str) (ord ordR' ordD : List Nat) (p : Nat) (q1 q2 : Tok) (room : Int) (hh0 t0 due : Nat) (td : Tok) (k Wd Ht : Nat) (tx : Str) (t1 t3 te tk : Tok) (hh h0 e l t : Nat) (Th T0 Te Tl Tt ta tb : Tok) (mean : ExcName → Option Value) (mg mb : Str → Option Value) (s0 : Shared) (h : Heap) (tk' : Nat) (Q : Flow → Shared → Prop)
    (F : Fr h₀ L h mm) (X : (KK w.params).In h₀) (T : Top vw Mine.lw mean mg mb h₀) (B : Below callerA h₀ [] h₀)
    (N : News h₀ L h (nlP x dx g M its gl n c)) (hn : Nd (nlP x dx g M its gl n c)) (hdx : (dx, pileD w.params q1 q2 room) ∈ M)
    (m5 : (L + 1 + 1 + 1 + 1 + 1, o5) ∈ M) (mb' : (db, W.listOf bvs.toArray 0) ∈ M) (ma' : (da, W.listOf avs.toArray 0) ∈ M) (d5 : o5.data = .cell (some (.ref db))) (ib : IntsAre bvs (cI bs)) (ia : IntsAre avs (cI as)) (hbl : bs.length = Wd * Ht) (hal : as.length = Wd * Ht) (hdim : dims Wd Ht) (hk : k ≤ Wd + Ht)
    (ho : ord = ordR' ++ [p] ++ ordD) (hord : ∀ p ∈ ord, p < Wd * Ht) (hol : ord.length = Wd * Ht) (hgl : ItemsAre wl gl ordD.reverse) (hst : (hh, t) = ordD.reverse.foldl (popStepT bs as (Wd * Ht * k)) (hh0, t0)) (hit : ItemsAre wl its ordR')
    (hm : Has mm ((Str.ofString "blanks", .str (blanks p) ta) :: (Str.ofString "word", .str (wl.getD p ⟨#[]⟩) tb) :: VG g due td k Wd Ht da x tx t1 t3 te tk hh h0 e l t Th T0 Te Tl Tt))
    (hQ : ∀ s', IP h₀ L g x dx da M bs as wl ord hh0 t0 due td k Wd Ht tx t1 t3 te tk h0 e l T0 Te Tl s0 ordR'.length s' → Q .next s')
    : wpAny (model pw w) (LAr L fa cd) (execs [po0, po1, po2, po3, po4] (LE L fa cd)) Q NoE { s0 with heap := h, toks := tk' } := by
  have inM : ∀ {q : Addr × Obj}, q ∈ M → q ∈ nlP x dx g M its gl n c := fun hq => List.mem_cons_of_mem _ (List.mem_append_left _ (List.mem_cons_of_mem _ (List.mem_append_left _ hq)))
  obtain ⟨_, h8⟩ := size_hour hdim hk
  have hpn : p < Wd * Ht := hord p (by rw [ho]; simp)
  have hlen : ordR'.length + ordD.length + 1 = Wd * Ht := by
    rw [← hol, ho]; simp; omega
  have hgll := hgl.len
  have hitl := hit.len
  simp at hgll
  refine st_po01 w h₀ L fa x da g cd mm (nlP x dx g M its gl n c) p _ ta tb due td k Wd Ht tx t1 t3 te tk hh h0 e l t Th T0 Te Tl Tt mean mg mb _ Q _ F X T B N (by omega) hm fun tp tbt m1 h1 tk1 F1 hm1 N1 => ?_
  refine st_po2 w h₀ L fa x da db g cd m1 o5 (nlP x dx g M its gl n c) avs bvs as bs p _ _ ta tb tp tbt due td k Wd Ht tx t1 t3 te tk hh h0 e l t Th T0 Te Tl Tt mean mg mb _ Q _ F1 X T B N1 (inM m5) (inM mb') (inM ma') d5 ib ia (by omega) (by omega) (by omega) hdim hk hm1 fun Th' Tt' m2 h2 tk2 F2 hm2 N2 => ?_
  refine st_po3 w h₀ L fa x dx da g cd m2 M its gl c n _ _ ta tb due td k Wd Ht tx t1 t3 te tk _ h0 e l _ Th' T0 Te Tl Tt' mean mg mb _ Q _ F2 X T B N2 hn (by omega) hm2 fun TT nt c' m3 h3 tk3 F3 hm3 N3 hn3 => ?_
  refine nextP w h₀ L fa x dx da g cd m3 M its _ n c' bs as wl ord ordR' (p :: ordD) q1 q2 room hh0 t0 due td k Wd Ht tx t1 t3 te tk _ h0 e l _ Th' T0 Te Tl Tt' mean mg mb s0 h3 tk3 Q _ F3 X T B N3 hn3 hdx (by omega) (by rw [ho]; simp) ?_ ?_ hit hm3 fun s' hI => ?_
  · rw [List.reverse_cons]
    exact hgl.snoc TT p ta tb nt
  · rw [List.reverse_cons, List.foldl_append, ← hst]
    rfl
  · exact wpAny_execs_nil (hQ s' hI)
end Mine
end
section
open PySem PySem.W PyProof.Rows PySem.Spec PySem.Calls PyProof.V PySem.Builtin.Str
namespace Mine
theorem st_hr5 (w : World) (h₀ : Heap) (L fa x dx da db g : Addr) (cd : Value) (o5 : Obj) (M : List (Addr × Obj)) (avs bvs : List Value) (bs as : List Nat) (wl : List Str) (ord : List Nat) (q1 q2 : Tok) (room : Int) (hh0 t0 due : Nat) (td : Tok) (k Wd Ht : Nat) (tx : Str) (t1 t3 te tk : Tok) (h0 e l : Nat) (T0 Te Tl : Tok) (mean : ExcName → Option Value) (mg mb : Str → Option Value) (s0 s : Shared) (j : Nat) (Q : Flow → Shared → Prop) (rest : List Stmt)
    (X : (KK w.params).In h₀) (T : Top vw Mine.lw mean mg mb h₀) (B : Below callerA h₀ [] h₀)
    (hI : IP h₀ L g x dx da M bs as wl ord hh0 t0 due td k Wd Ht tx t1 t3 te tk h0 e l T0 Te Tl s0 j s) (hdx : (dx, pileD w.params q1 q2 room) ∈ M)
    (m5 : (L + 1 + 1 + 1 + 1 + 1, o5) ∈ M) (mb' : (db, W.listOf bvs.toArray 0) ∈ M) (ma' : (da, W.listOf avs.toArray 0) ∈ M) (d5 : o5.data = .cell (some (.ref db))) (ib : IntsAre bvs (cI bs)) (ia : IntsAre avs (cI as)) (hbl : bs.length = Wd * Ht) (hal : as.length = Wd * Ht) (hdim : dims Wd Ht) (hk : k ≤ Wd + Ht)
    (hord : ∀ p ∈ ord, p < Wd * Ht) (hol : ord.length = Wd * Ht)
    (hrest : ∀ (h : Heap) (tk' : Nat) (m : Str → Option Value) (gl : List TIt) (n c hh t : Nat) (Th Tt ta tb : Tok), Fr h₀ L h m → News h₀ L h (nlP x dx g M [] gl n c) → Nd (nlP x dx g M [] gl n c) → ItemsAre wl gl ord.reverse → (hh, t) = ord.reverse.foldl (popStepT bs as (Wd * Ht * k)) (hh0, t0) →
      Has m ((Str.ofString "blanks", .str (Str.ofString "") ta) :: (Str.ofString "word", .str (Str.ofString "") tb) :: VG g due td k Wd Ht da x tx t1 t3 te tk hh h0 e l t Th T0 Te Tl Tt) → wpAny (model pw w) (LAr L fa cd) (execs rest (LE L fa cd)) Q NoE { s0 with heap := h, toks := tk' })
    : wpAny (model pw w) (LAr L fa cd) (execs (hr5 :: rest) (LE L fa cd)) Q NoE s := by
  refine wpAny_execs_cons ?_
  refine While_J (IP h₀ L g x dx da M bs as wl ord hh0 t0 due td k Wd Ht tx t1 t3 te tk h0 e l T0 Te Tl s0) (fun j s' hI => ?_) (n := j) hI
  obtain ⟨h, tk', m, its, gl, n, c, hh, t, Th, Tt, ordR, ordD, rfl, F, N, hn, ho, hgl, hst, hj, hc⟩ := hI
  rcases hc with ⟨p, ta, tb, ordR', rfl, hit, hm⟩ | ⟨rfl, rfl, ta, tb, hm⟩
  · have F0 := Fr.list F _ hm
    dsimp only [VG, VK, VH, VR] at F0
    have hne : blanks p ≠ Str.ofString "" := fun e => by
      have h1 := blanks_length p
      rw [e] at h1
      exact absurd h1 (by rw [show (Str.ofString "").length = 0 from rfl]; omega)
    have hb : (blanks p != Str.ofString "") = true := by simpa using hne
    iterate 4 (first | walk1 | (dsimp only; walk1))
    rw [hb]
    refine wpAny_truthy_bool ?_
    rw [if_pos rfl]
    refine p_turn w h₀ L fa x dx da db g cd m o5 M avs bvs its gl n c bs as wl ord ordR' ordD p q1 q2 room hh0 t0 due td k Wd Ht tx t1 t3 te tk hh h0 e l t Th T0 Te Tl Tt ta tb mean mg mb s0 h _ _ F X T B N hn hdx m5 mb' ma' d5 ib ia hbl hal hdim hk ho hord hol hgl hst hit hm fun s' hI => ?_
    exact ⟨ordR'.length, by rw [hj]; simp, hI⟩
  · have F0 := Fr.list F _ hm
    dsimp only [VG, VK, VH, VR] at F0
    have hb : (Str.ofString "" != Str.ofString "") = false := by simp
    iterate 4 (first | walk1 | (dsimp only; walk1))
    rw [hb]
    refine wpAny_truthy_bool ?_
    rw [if_neg (by decide)]
    simp only [List.nil_append] at ho
    subst ho
    exact hrest h _ m gl n c hh t Th Tt ta tb F N hn hgl hst hm
theorem st_hr6 (w : World) (h₀ : Heap) (L fa x da g : Addr) (cd : Value) (mm : Str → Option Value) (nl : List (Addr × Obj)) (ta tb : Tok) (td : Tok) (k Wd Ht : Nat) (tx : Str) (t1 t3 te tk : Tok) (hh h0 e l t : Nat) (Th T0 Te Tl Tt : Tok) (mean : ExcName → Option Value) (mg mb : Str → Option Value) (s : Shared) (Q : Flow → Shared → Prop) (rest : List Stmt)
    (F : Fr h₀ L s.heap mm) (X : (KK w.params).In h₀) (T : Top vw Mine.lw mean mg mb h₀) (B : Below callerA h₀ [] h₀)
    (N : News h₀ L s.heap nl)
    (hm : Has mm ((Str.ofString "blanks", .str (Str.ofString "") ta) :: (Str.ofString "word", .str (Str.ofString "") tb) :: VG g hh td k Wd Ht da x tx t1 t3 te tk hh h0 e l t Th T0 Te Tl Tt))
    (hrest : ∀ (m' : Str → Option Value) (h : Heap) (tk' : Nat), Fr h₀ L h m' → Has m' (VG g hh td k Wd Ht da x tx t1 t3 te tk hh h0 e l t Th T0 Te Tl Tt) → News h₀ L h nl →
      wpAny (model pw w) (LAr L fa cd) (execs rest (LE L fa cd)) Q NoE { s with heap := h, toks := tk' })
    : wpAny (model pw w) (LAr L fa cd) (execs (hr6 :: rest) (LE L fa cd)) Q NoE s := by
  have F0 := Fr.list F _ hm
  dsimp only [VG, VK, VH, VR] at F0
  clear F hm
  iterate 7 (first | walk1 | (dsimp only; walk1))
  rw [show (((hh : Nat) : Int) != ((hh : Nat) : Int)) = false from by simp]
  iterate 7 (first | walk1 | (dsimp only; walk1))
  rw [show (Str.ofString "" != Str.ofString "") = false from by simp]
  refine wpAny_truthy_bool ?_
  rw [if_neg (by decide)]
  iterate 1 (first | walk1 | (dsimp only; walk1))
  rw [if_neg (by decide)]
  refine wpAny_execs_nil ?_
  exact hrest _ _ _ F0 (by repeat' (first | exact Has.nil | refine Has.cons rfl ?_)) N
end Mine
end
section
open PySem PySem.W PyProof.Rows PySem.Spec PySem.Calls PyProof.V PySem.Builtin.Str
namespace Mine
theorem ItemsAre.rev {wl : List Str} {its : List TIt} {ord : List Nat} (h : ItemsAre wl its ord.reverse) : ItemsAre wl its.reverse ord := by
  unfold ItemsAre at h ⊢
  rw [List.map_reverse, h, List.map_reverse, List.reverse_reverse]
theorem ItemsAre.at {wl : List Str} {its : List TIt} {ord : List Nat} (h : ItemsAre wl its ord) (i : Nat) (q : TIt) (hq : its[i]? = some q) : ∃ p, ord[i]? = some p ∧ q.1.2.1.1 = blanks p ∧ q.1.2.2.1 = wl.getD p ⟨#[]⟩ := by
  have := congrArg (·[i]?) h
  simp only [List.getElem?_map, hq, Option.map_some] at this
  obtain ⟨p, hp, e⟩ := Option.map_eq_some_iff.mp this.symm
  simp only [Prod.mk.injEq] at e
  exact ⟨p, hp, e.1.symm, e.2.symm⟩
theorem ItemsAre.take {wl : List Str} {its : List TIt} {ord : List Nat} {i p : Nat} (h : ItemsAre wl its (ord.take i)) (hp : ord[i]? = some p) (T : Addr) (ta tb : Tok) (nt : Nat) : ItemsAre wl (its ++ [((T, (blanks p, ta), (wl.getD p ⟨#[]⟩, tb)), nt)]) (ord.take (i + 1)) := by
  rw [List.take_add_one, hp]
  exact h.snoc T p ta tb nt
theorem do_push' (w : World) (h₀ : Heap) (L fa x dx : Addr) (cd : Value) (mm : Str → Option Value) (R : List (Addr × Obj)) (l : List Value) (n : Nat) (a1 b1 : Str) (ta tb : CbTok) (q1 q2 : Tok) (room : Int) (mean : ExcName → Option Value) (mg mb : Str → Option Value) (s : Shared) (Q : Value → Shared → Prop) (E : Value → Shared → Prop)
    (F : Fr h₀ L s.heap mm) (X : (KK w.params).In h₀) (T : Top vw Mine.lw mean mg mb h₀) (B : Below callerA h₀ [] h₀)
    (N : News h₀ L s.heap ((x, pileO dx l n) :: R)) (hxn : ∀ q ∈ R, q.1 ≠ x) (hdx : (dx, pileD w.params q1 q2 room) ∈ R) (hl : l.length ≤ 20)
    (hQ : ∀ (T : Addr) (nt n' : Nat) (h : Heap) (tk' : Nat), Fr h₀ L h mm → News h₀ L h ((T, tupO ((T, (a1, ta), (b1, tb)), nt)) :: (x, pileO dx (l ++ [.ref T]) n') :: R) → (∀ q ∈ (x, pileO dx l n) :: R, q.1 ≠ T) → Q .none { s with heap := h, toks := tk' }) :
    wpAny (model pw w) (LAr L fa cd) (call (.ref 87) [.ref x, .str a1 ta, .str b1 tb]) Q E s := by
  refine p_push w x dx l n a1 b1 ta tb q1 q2 room _ _ _ _ _ _ _ _ _ _ _ _ _ _ _ _ _ _ _ _ B F X T rfl (by omega) (by ktr_room) (by ktr_room) (News.sub N fun q hq => ?_) fun T n' nt h' tk' hk hx' hT hT' => ?_
  · simp only [List.mem_cons, List.not_mem_nil, or_false] at hq
    rcases hq with rfl | rfl
    · exact List.mem_cons_self ..
    · exact List.mem_cons_of_mem _ hdx
  · have hx0 := N _ (List.mem_cons_self ..)
    have hxo : ∀ b o, h₀.get? b = some o → b ≠ x := fun b o e1 e2 => by rw [e2, hx0.2.2] at e1; cases e1
    have F' : Fr h₀ L h' mm := ⟨F.ns.at fun o e => hk _ o (fun e2 => hx0.2.1 e2.symm) e, fun b o e => hk b o (hxo b o e) (F.keep b o e), F.above⟩
    have hfr := fresh_ne N hT
    refine hQ T nt n' h' tk' F' (fun q hq => ?_) hfr
    rcases List.mem_cons.mp hq with rfl | hq
    · refine ⟨hT', ?_, ?_⟩
      · rintro rfl
        obtain ⟨oL, _, _, e, _⟩ := F.ns
        rw [hT] at e; cases e
      · cases e : h₀.get? T with
        | none => rfl
        | some o => rw [F.keep _ _ e] at hT; cases hT
    · rcases List.mem_cons.mp hq with rfl | hq
      · exact ⟨hx', hx0.2⟩
      · have hq' := N q (List.mem_cons_of_mem _ hq)
        exact ⟨hk _ _ (hxn q hq) hq'.1, hq'.2⟩
theorem st_pu (w : World) (h₀ : Heap) (L fa x dx : Addr) (cd : Value) (mm : Str → Option Value) (R : List (Addr × Obj)) (l : List Value) (n : Nat) (a1 b1 : Str) (ta tb : Tok) (q1 q2 : Tok) (room : Int) (mean : ExcName → Option Value) (mg mb : Str → Option Value) (s : Shared) (Q : Flow → Shared → Prop)
    (F : Fr h₀ L s.heap mm) (X : (KK w.params).In h₀) (T : Top vw Mine.lw mean mg mb h₀) (B : Below callerA h₀ [] h₀)
    (N : News h₀ L s.heap ((x, pileO dx l n) :: R)) (hxn : ∀ q ∈ R, q.1 ≠ x) (hdx : (dx, pileD w.params q1 q2 room) ∈ R) (hl : l.length ≤ 20)
    (hm : Has mm [(Str.ofString "word", .str b1 tb), (Str.ofString "blanks", .str a1 ta), (Str.ofString "pile", .ref x)])
    (hQ : ∀ (T : Addr) (nt n' : Nat) (h : Heap) (tk' : Nat), Fr h₀ L h mm → News h₀ L h ((T, tupO ((T, (a1, ta), (b1, tb)), nt)) :: (x, pileO dx (l ++ [.ref T]) n') :: R) → (∀ q ∈ (x, pileO dx l n) :: R, q.1 ≠ T) → Q .next { s with heap := h, toks := tk' }) :
    wpAny (model pw w) (LAr L fa cd) (execs [pu0] (LE L fa cd)) Q NoE s := by
  have F0 := Fr.list F _ hm
  iterate 4 (first | walk1 | (dsimp only; walk1))
  have II : InstAt s.heap x (pileO dx l n) 143 (some (pileD w.params q1 q2 room)) := ⟨(N _ (List.mem_cons_self ..)).1, rfl, rfl, (N _ (List.mem_cons_of_mem _ hdx)).1⟩
  refine method_any (K := KK w.params) (C := 143) (ox := pileO dx l n) (od := some (pileD w.params q1 q2 room)) (v := .ref 87) (X.keeps F0.keep) II (ga := "list.__getattribute__") (by k_is) can_list (by k_is) (by k_is) (ty := .type "function") (looks_typeIn (X.keeps F0.keep) (by k_is)) (by decide) (by rfl) ?_
  iterate 5 (first | walk1 | (dsimp only; walk1))
  refine args_nil ⟨X.keeps F.keep, ?_⟩
  refine do_push' w h₀ L fa x dx cd mm R l n a1 b1 ta tb q1 q2 room mean mg mb _ _ _ F X T B N hxn hdx hl fun T nt n' h tk' F1 N1 hf1 => ?_
  refine wpAny_execs_nil ?_
  exact hQ T nt n' h tk' F1 N1 hf1
noncomputable def JP (l0 : List (Str × Value)) (x dx : Addr) (M : List (Addr × Obj)) (wl : List Str) (ord : List Nat) (i : Nat) (m₁ : Str → Option Value) (news₁ : List (Addr × Obj)) : Prop :=
  Has m₁ l0 ∧ ∃ (its : List TIt) (n : Nat), ItemsAre wl its (ord.take i) ∧ news₁ = (x, pileO dx (pvl its) n) :: (M ++ tnl its) ∧ Nd news₁
theorem st_hr7 (w : World) (h₀ : Heap) (L fa x dx da g : Addr) (cd : Value) (mm : Str → Option Value) (M : List (Addr × Obj)) (gl : List TIt) (n c : Nat) (wl : List Str) (ord : List Nat) (q1 q2 : Tok) (room : Int) (due : Nat) (td : Tok) (k Wd Ht : Nat) (tx : Str) (t1 t3 te tk : Tok) (hh h0 e l t : Nat) (Th T0 Te Tl Tt : Tok) (mean : ExcName → Option Value) (mg mb : Str → Option Value) (s : Shared) (Q : Flow → Shared → Prop) (rest : List Stmt)
    (F : Fr h₀ L s.heap mm) (X : (KK w.params).In h₀) (T : Top vw Mine.lw mean mg mb h₀) (B : Below callerA h₀ [] h₀)
    (N : News h₀ L s.heap (nlP x dx g M [] gl n c)) (hn : Nd (nlP x dx g M [] gl n c)) (hdx : (dx, pileD w.params q1 q2 room) ∈ M) (hgl : ItemsAre wl gl ord.reverse) (hol : ord.length ≤ 8)
    (hm : Has mm (VG g due td k Wd Ht da x tx t1 t3 te tk hh h0 e l t Th T0 Te Tl Tt))
    (hrest : ∀ (m' : Str → Option Value) (h : Heap) (tk' : Nat) (its : List TIt) (n : Nat), Fr h₀ L h m' → Has m' (VK k Wd Ht da x tx t1 t3 te tk hh h0 e l t Th T0 Te Tl Tt) → News h₀ L h ((x, pileO dx (pvl its) n) :: (M ++ tnl its)) → Nd ((x, pileO dx (pvl its) n) :: (M ++ tnl its)) → ItemsAre wl its ord →
      wpAny (model pw w) (LAr L fa cd) (execs rest (LE L fa cd)) Q NoE { s with heap := h, toks := tk' })
    : wpAny (model pw w) (LAr L fa cd) (execs (hr7 :: rest) (LE L fa cd)) Q NoE s := by
  have F0 := Fr.list F _ hm
  dsimp only [VG, VK, VH, VR] at F0
  clear F
  refine wpAny_execs_cons ?_
  refine For_WU2 (h₀ := h₀) rfl rfl rfl rfl (JP (VK k Wd Ht da x tx t1 t3 te tk hh h0 e l t Th T0 Te Tl Tt) x dx M wl ord) ?_
  iterate 9 (first | walk1 | (dsimp only; walk1))
  have hgm : (g, W.listOf (pvl gl).toArray c) ∈ nlP x dx g M [] gl n c := List.mem_cons_of_mem _ (List.mem_append_left _ (List.mem_cons_self ..))
  have hgll : gl.length ≤ 8 := by rw [hgl.len]; simpa using hol
  k_dflt (refine' krv_lit (zs := pvl gl.reverse) F0 N ⟨_, (N _ hgm).1, rfl, _, rfl⟩ (IsPart.int _ _) ?e ?_ ?s ?t ?z; (case e => simp [pvl]); (case s => with_unfolding_all rfl); (case t => (intro _; rfl)); (case z => (unfold sizeLine; simp only [List.size_toArray, List.length_map]; omega)))
  intro D h' F' N' l1
  clear F0 N
  have hDN := N' _ (List.mem_cons_self ..)
  refine wpAny_pyIter_list (items := (pvl gl.reverse).toArray) ⟨_, hDN.1, rfl, _, rfl⟩ ?_
  dsimp only
  have hrl : ∀ j, j < gl.reverse.length → ∃ q, gl.reverse[j]? = some q ∧ q ∈ gl := fun j hj => ⟨gl.reverse[j], List.getElem?_eq_getElem hj, List.mem_reverse.mp (List.getElem_mem hj)⟩
  have hsz : (pvl gl.reverse).toArray.size = gl.reverse.length := by simp
  have hLs : L < h'.objs.size := F'.ns.lt
  have hab : h₀.objs.size ≤ h'.objs.size := Nat.le_trans F'.above (Nat.le_of_lt hLs)
  have htm : ∀ q ∈ gl, (q.1.1, tupO q) ∈ nlP x dx g M [] gl n c := fun q hq => List.mem_cons_of_mem _ (List.mem_append_left _ (List.mem_cons_of_mem _ (List.mem_append_right _ (List.mem_map.mpr ⟨q, hq, rfl⟩))))
  have hlt : ∀ q ∈ (D, W.listOf (pvl gl.reverse).toArray 0) :: nlP x dx g M [] gl n c, q.1 < h'.objs.size := fun q hq => Heap.lt_size (N' q hq).1
  have hxM : ∀ q ∈ ((g, W.listOf (pvl gl).toArray c) :: (M ++ tnl gl)) ++ tnl [], q.1 ≠ x := fun q hq e => (List.nodup_cons.mp hn).1 (List.mem_map.mpr ⟨q, hq, e⟩)
  generalize hI : h'.objs.size = I at *
  have upI : ∀ b o, h'.get? b = some o → (h'.push { cls := .type "list_iterator", data := .fields #[.ref D, .int 0 0] }).get? b = some o := fun b o e => Heap.get?_push_of_some _ e
  let Ts : Nat → Addr := fun j => (gl.reverse[j]?.map fun q => q.1.1).getD 0
  let vals : Nat → Array Value := fun j => (gl.reverse[j]?.map fun q => (#[.str q.1.2.1.1 q.1.2.1.2, .str q.1.2.2.1 q.1.2.2.2] : Array Value)).getD #[.none, .none]
  have hTs : ∀ j, j < (pvl gl.reverse).toArray.size → ∃ q, gl.reverse[j]? = some q ∧ q ∈ gl ∧ Ts j = q.1.1 ∧ vals j = #[.str q.1.2.1.1 q.1.2.1.2, .str q.1.2.2.1 q.1.2.2.2] := fun j hj => by
    obtain ⟨q, e, hm⟩ := hrl j (hsz ▸ hj)
    exact ⟨q, e, hm, by simp only [Ts, e, Option.map_some, Option.getD_some], by simp only [vals, e, Option.map_some, Option.getD_some]⟩
  refine ⟨I, _, _, _, _, _, _, _, (x, pileO dx (pvl []) n) :: (M ++ tnl []), rfl, WalksU.listOfTuples (prog := pw) (w := w) rfl I D (Nat.ne_of_lt (hlt _ (List.mem_cons_self ..))) (pvl gl.reverse).toArray Ts vals ?_ ?_, ?_, ?_, ?_, ?_, F'.keptAll upI, ?_, ?_, ?_, ?_, ?_⟩
  · intro j hj
    obtain ⟨q, e, hm, e1, e2⟩ := hTs j hj
    rw [e1, List.getElem?_toArray]
    show (gl.reverse.map _)[j]? = _
    rw [List.getElem?_map, e]; rfl
  · intro j hj
    obtain ⟨q, e, hm, e1, e2⟩ := hTs j hj
    rw [e1]
    exact Nat.ne_of_lt (hlt (q.1.1, tupO q) (List.mem_cons_of_mem _ (htm q hm)))
  · rintro i v rfl
    cases hv : gl.reverse[i]? with
    | none => exact ⟨_, _, by simp only [vals, hv]; rfl⟩
    | some q => exact ⟨_, _, by simp only [vals, hv]; rfl⟩
  · refine ⟨⟨_, by rw [← hI]; exact Heap.get?_push_size _ rfl, rfl, rfl⟩, ⟨_, upI _ _ hDN.1, rfl, _, rfl⟩, fun k hk => ?_⟩
    obtain ⟨q, e, hm, e1, e2⟩ := hTs k hk
    rw [e1, e2]
    exact ⟨_, upI _ _ (N' _ (List.mem_cons_of_mem _ (htm q hm))).1, rfl, _, rfl⟩
  · intro b hb
    rcases List.mem_cons.mp hb with rfl | hb
    · exact Nat.ne_of_gt hLs
    · rcases List.mem_cons.mp hb with rfl | hb
      · exact hDN.2.1
      · obtain ⟨k, hk, rfl⟩ := List.mem_map.mp hb
        obtain ⟨q, e, hm, e1, e2⟩ := hTs k (List.mem_range.mp hk)
        rw [e1]
        exact (N' _ (List.mem_cons_of_mem _ (htm q hm))).2.1
  · intro b hb
    rw [List.mem_singleton] at hb; subst hb
    exact Heap.get?_none_of_le hab
  · refine News.sub (News.kp N' upI) fun q hq => List.mem_cons_of_mem _ ?_
    rcases List.mem_cons.mp hq with rfl | hq
    · exact List.mem_cons_self ..
    · exact List.mem_cons_of_mem _ (by simp at hq ⊢; exact .inr (.inl hq))
  · intro q hq hb
    rw [List.mem_singleton] at hb
    have := hlt q (List.mem_cons_of_mem _ (by
      rcases List.mem_cons.mp hq with rfl | hq
      · exact List.mem_cons_self ..
      · exact List.mem_cons_of_mem _ (by simp at hq ⊢; exact .inr (.inl hq))))
    rw [hb] at this
    exact absurd this (Nat.lt_irrefl _)
  · refine ⟨by repeat' (first | exact Has.nil | refine Has.cons rfl ?_), [], n, rfl, rfl, ?_⟩
    have hs : ((x, pileO dx (pvl []) n) :: (M ++ tnl [])).Sublist (nlP x dx g M [] gl n c) := by
      refine List.Sublist.cons₂ _ ?_
      simp only [tnl, List.map_nil, List.append_nil]
      exact (List.sublist_append_left M _).cons _
    exact (hs.map (·.1)).nodup hn
  · rintro i va vb m₁ news₁ its h4 tk4 hi hP ⟨hm1, its1, n1, hit1, rfl, hn1⟩ hnw hits st4 hin F3 N3
    obtain ⟨q, e, hmq, e1, e2⟩ := hTs i hi
    have hP' : #[va, vb] = vals i := hP
    rw [e2] at hP'
    obtain ⟨p, hp, ea, eb⟩ := (ItemsAre.rev hgl).at i q e
    rw [ea, eb] at hP'
    obtain ⟨rfl, rfl⟩ : va = _ ∧ vb = _ := by simpa using congrArg Array.toList hP'
    obtain ⟨oI, hoI, _⟩ := st4.1
    have hIin := hin I (List.mem_cons_self ..) oI hoI (Heap.get?_none_of_le hab)
    have hx0 : x < I := hlt _ (List.mem_cons_of_mem _ (List.mem_cons_self ..))
    have hxD : x < D := l1 _ (List.mem_cons_self ..)
    have hitx : ∀ z ∈ its, z.1 ≠ x := by
      intro z hz
      rcases List.mem_cons.mp (hits z hz) with e9 | hz
      · rw [e9]; exact Nat.ne_of_gt hx0
      · rcases List.mem_cons.mp hz with e9 | hz
        · rw [e9]; exact Nat.ne_of_gt hxD
        · obtain ⟨k9, hk9, e9⟩ := List.mem_map.mp hz
          obtain ⟨q9, _, hm9, e10, _⟩ := hTs k9 (List.mem_range.mp hk9)
          rw [← e9, e10]
          exact hxM (q9.1.1, tupO q9) (List.mem_append_left _ (List.mem_cons_of_mem _ (List.mem_append_right _ (List.mem_map.mpr ⟨q9, hm9, rfl⟩))))
    have hn1x : ∀ z ∈ M ++ tnl its1, z.1 ≠ x := fun z hz e => (List.nodup_cons.mp hn1).1 (List.mem_map.mpr ⟨z, hz, e⟩)
    have hlen1 : its1.length ≤ 8 := by rw [hit1.len]; exact Nat.le_trans (List.length_take_le' ..) hol
    have f1 := hm1.hd; have f2 := hm1.tl.hd; have f3 := hm1.tl.tl.hd; have f4 := hm1.tl.tl.tl.hd; have f5 := hm1.tl.tl.tl.tl.hd; have f6 := hm1.tl.tl.tl.tl.tl.hd
    have f7 := hm1.tl.tl.tl.tl.tl.tl.hd; have f8 := hm1.tl.tl.tl.tl.tl.tl.tl.hd; have f9 := hm1.tl.tl.tl.tl.tl.tl.tl.tl.hd; have f10 := hm1.tl.tl.tl.tl.tl.tl.tl.tl.tl.hd; have f11 := hm1.tl.tl.tl.tl.tl.tl.tl.tl.tl.tl.hd
    refine st_pu w h₀ L fa x dx cd _ ((M ++ tnl its1) ++ its) (pvl its1) n1 (blanks p) (wl.getD p ⟨#[]⟩) q.1.2.1.2 q.1.2.2.2 q1 q2 room mean mg mb _ _ F3 X T B N3 ?_ (List.mem_append_left _ (List.mem_append_left _ hdx)) (by simp; omega) ?_ fun TT nt n' h5 tk5 F5 N5 hf5 => ?_
    · intro z hz
      rcases List.mem_append.mp hz with hz | hz
      · exact hn1x z hz
      · exact hitx z hz
    · exact Has.cons rfl (Has.cons rfl (Has.cons f8 Has.nil))
    · refine TurnW.mk (news' := (x, pileO dx (pvl (its1 ++ [((TT, (blanks p, q.1.2.1.2), (wl.getD p ⟨#[]⟩, q.1.2.2.2)), nt)])) n') :: (M ++ tnl (its1 ++ [((TT, (blanks p, q.1.2.1.2), (wl.getD p ⟨#[]⟩, q.1.2.2.2)), nt)]))) F5 (News.sub N5 fun z hz => ?_) (fun z hz hb => ?_) ⟨?_, _, n', hit1.take hp TT q.1.2.1.2 q.1.2.2.2 nt, rfl, ?_⟩
      · rw [pvl_snoc, tnl_snoc] at hz
        simp only [List.mem_cons, List.mem_append, List.not_mem_nil, or_false, List.cons_append] at hz ⊢
        rcases hz with h9 | (h9 | h9 | h9) | h9
        · exact .inr (.inl h9)
        · exact .inr (.inr (.inl (.inl h9)))
        · exact .inr (.inr (.inl (.inr h9)))
        · exact .inl h9
        · exact .inr (.inr (.inr h9))
      · rw [List.mem_singleton] at hb
        rw [tnl_snoc] at hz
        simp only [List.mem_cons, List.mem_append, List.not_mem_nil, or_false] at hz
        rcases hz with h9 | h9 | h9 | h9
        · exact hnw (x, pileO dx (pvl its1) n1) (List.mem_cons_self ..) (by rw [List.mem_singleton, ← hb, h9])
        · exact hnw z (List.mem_cons_of_mem _ (List.mem_append_left _ h9)) (by rw [List.mem_singleton, ← hb])
        · exact hnw z (List.mem_cons_of_mem _ (List.mem_append_right _ h9)) (by rw [List.mem_singleton, ← hb])
        · exact hf5 (I, oI) (List.mem_cons_of_mem _ (List.mem_append_right _ hIin)) (by rw [← hb, h9])
      · exact Has.cons f1 (Has.cons f2 (Has.cons f3 (Has.cons f4 (Has.cons f5 (Has.cons f6 (Has.cons f7 (Has.cons f8 (Has.cons f9 (Has.cons f10 (Has.cons f11 Has.nil))))))))))
      · have h1 : Nd (((x, pileO dx (pvl its1) n1) :: (M ++ tnl its1)) ++ [(TT, tupO ((TT, (blanks p, q.1.2.1.2), (wl.getD p ⟨#[]⟩, q.1.2.2.2)), nt))]) := Nd.snoc hn1 fun z hz => hf5 z (by
          rcases List.mem_cons.mp hz with rfl | hz
          · exact List.mem_cons_self ..
          · exact List.mem_cons_of_mem _ (List.mem_append_left _ hz))
        unfold Nd at h1 ⊢
        simpa [tnl] using h1
  · rintro m₁ news₁ h4 tk4 ⟨hm1, its1, n1, hit1, rfl, hn1⟩ F3 N3
    have e9 : (pvl gl.reverse).toArray.size = ord.length := by rw [hsz, List.length_reverse, hgl.len]; simp
    rw [e9, List.take_length] at hit1
    exact hrest m₁ h4 tk4 its1 n1 F3 hm1 N3 hn1 hit1
end Mine
end
section
open PySem PySem.W PyProof.Rows PySem.Spec PySem.Calls PyProof.V PySem.Builtin.Str
namespace Mine
section
variable {prog : Program} {w : World} {A : Around} {E : Value → Shared → Prop} {s : Shared}
theorem src_range2 {env : Env} {x : Str} {body : List Stmt} {Q : Flow → Shared → Prop} {h₀ : Heap} {m : Str → Option Value} {news : List (Addr × Obj)} {r : Addr} {k : Nat} {t u v : Tok} (hA : A.handled = none)
    (J : Nat → (Str → Option Value) → List (Addr × Obj) → Prop) (hr : IsRange s.heap r 0 (k : Int) 1 t u v) (hsm : Builtin.Range.small 0 (k : Int) 1 = true) (hsz : Builtin.Range.rangeSize 0 (k : Int) 1 = k) (F : Fr h₀ env.locals s.heap m) (N : News h₀ env.locals s.heap news) (hj : J 0 m news)
    (turn : ∀ i tv m₁ news₁ I oI h tk, i < k → J i m₁ news₁ → (∀ p ∈ news₁, p.1 ≠ I) → s.heap.objs.size ≤ I → Fr h₀ env.locals h (fun y => if y = x then some (.int (i : Nat) tv) else m₁ y) → News h₀ env.locals h (news₁ ++ [(I, oI)]) →
        wpAny (model prog w) A (execs body env) (TurnW s h₀ env.locals [I] (J (i + 1)) [(I, oI)] Q) NoE { s with heap := h, toks := tk })
    (done : ∀ m₁ news₁ h tk, J k m₁ news₁ → Fr h₀ env.locals h m₁ → News h₀ env.locals h news₁ → Q .next { s with heap := h, toks := tk }) :
    wpAny (model prog w) A (pyIter (.ref r)) (FW prog w A env x body h₀ J Q) E s := by
  have hLs : env.locals < s.heap.objs.size := F.ns.lt
  have hab : h₀.objs.size ≤ s.heap.objs.size := Nat.le_trans F.above (Nat.le_of_lt hLs)
  refine wpAny_pyIter_range hr hsm ?_
  refine ⟨s.heap.objs.size, _, _, k, _, _, m, news, rfl, Walks.range (prog := prog) (w := w) hA s.heap.objs.size 0 1 k, ?_, ?_, ?_, F.keptAll fun _ _ e => Heap.get?_push_of_some _ e, News.kp N fun _ _ e => Heap.get?_push_of_some _ e, ?_, hj, ?_, ?_⟩
  · show IsRangeIter _ _ _ _ _
    rw [hsz]
    have := Heap.get?_push_size s.heap (o := { cls := .type "range_iterator", data := .fields #[rawInt 0, rawInt (k : Int), rawInt 1] }) rfl
    simpa [IsRangeIter] using this
  · intro b hb
    simp only [List.mem_cons, List.not_mem_nil, or_false] at hb
    subst hb
    exact Nat.ne_of_gt hLs
  · intro b hb
    simp only [List.mem_cons, List.not_mem_nil, or_false] at hb
    subst hb
    exact Heap.get?_none_of_le hab
  · intro p hp hb
    have hq := Heap.lt_size (N p hp).1
    simp only [List.mem_cons, List.not_mem_nil, or_false] at hb
    rw [hb] at hq; exact absurd hq (Nat.lt_irrefl _)
  · rintro i v m₁ news₁ its h tk hi ⟨tv, rfl⟩ hj₁ hn hits st hin F₁ N₁
    have e9 : (0 : Int) + (i : Nat) * 1 = (i : Nat) := by omega
    rw [e9] at F₁
    obtain ⟨oI, hoI⟩ : ∃ o, h.get? s.heap.objs.size = some o := ⟨_, st⟩
    have hIin := hin s.heap.objs.size (List.mem_singleton.mpr rfl) oI hoI (Heap.get?_none_of_le hab)
    have hall : ∀ p ∈ its, p = (s.heap.objs.size, oI) := by
      intro p hp
      have h1 := hits p hp
      rw [List.mem_singleton] at h1
      have h2 := (N₁ p (List.mem_append_right _ hp)).1
      rw [h1, hoI] at h2
      obtain ⟨a, b⟩ := p
      dsimp only at h1 h2
      rw [h1, ← Option.some.inj h2]
    refine wpAny_mono (turn i tv m₁ news₁ s.heap.objs.size oI h tk hi hj₁ (fun p hp e => hn p hp (List.mem_singleton.mpr e)) (Nat.le_refl _) F₁ (fun p hp => ?_)) (fun f s₃ h₃ => ?_) fun _ _ e => e
    · rcases List.mem_append.mp hp with hp | hp
      · exact N₁ p (List.mem_append_left _ hp)
      · rw [List.mem_singleton] at hp
        subst hp
        exact N₁ _ (List.mem_append_right _ hIin)
    · have cv : TurnN s h₀ env.locals [s.heap.objs.size] (J (i + 1)) [(s.heap.objs.size, oI)] s₃ → TurnN s h₀ env.locals [s.heap.objs.size] (J (i + 1)) its s₃ := by
        rintro ⟨h', tk', m', news', e, F', N', n', j'⟩
        refine ⟨h', tk', m', news', e, F', fun p hp => ?_, n', j'⟩
        rcases List.mem_append.mp hp with hp | hp
        · exact N' p (List.mem_append_left _ hp)
        · rw [hall p hp]
          exact N' _ (List.mem_append_right _ (List.mem_singleton.mpr rfl))
      refine TurnW.ren ?_ _ _
      cases f with
      | next => exact cv h₃
      | cont => exact cv h₃
      | brk => exact h₃
      | ret v => exact h₃
  · intro m₁ news₁ h tk hj₁ F₁ N₁
    exact done m₁ news₁ h tk hj₁ F₁ N₁
end
end Mine
end
section
open PySem PySem.W PyProof.Rows PySem.Spec PySem.Calls PyProof.V PySem.Builtin.Str
namespace Mine
theorem lt256 {Wd Ht h : Nat} (hdim : dims Wd Ht) (hl : h < 2 ^ (Wd * Ht)) : h ≤ 256 := by
  have : 2 ^ (Wd * Ht) ≤ 2 ^ 8 := Nat.pow_le_pow_right (by decide) (by rcases hdim with ⟨rfl, rfl⟩ | ⟨rfl, rfl⟩ | ⟨rfl, rfl⟩ | ⟨rfl, rfl⟩ <;> decide)
  have e : (2 : Nat) ^ 8 = 256 := by decide
  omega
theorem hour_turn (w : World) (h₀ : Heap) (L fa x dx da db : Addr) (cd : Value) (mm : Str → Option Value) (o5 : Obj) (M : List (Addr × Obj)) (avs bvs : List Value) (its : List TIt) (n : Nat) (bs as : List Nat) (wl : List Str) (ord : List Nat) (q1 q2 : Tok) (room : Int) (k Wd Ht : Nat) (tx : Str) (t1 t3 te tk : Tok) (h0 : Nat) (S : HS) (Th T0 Te Tl Tt : Tok) (mean : ExcName → Option Value) (mg mb : Str → Option Value) (s : Shared) (Q : Flow → Shared → Prop)
    (F : Fr h₀ L s.heap mm) (X : (KK w.params).In h₀) (T : Top vw Mine.lw mean mg mb h₀) (B : Below callerA h₀ [] h₀)
    (N : News h₀ L s.heap ((x, pileO dx (pvl its) n) :: (M ++ tnl its))) (hn : Nd ((x, pileO dx (pvl its) n) :: (M ++ tnl its))) (hdx : (dx, pileD w.params q1 q2 room) ∈ M)
    (m5 : (L + 1 + 1 + 1 + 1 + 1, o5) ∈ M) (mb' : (db, W.listOf bvs.toArray 0) ∈ M) (ma' : (da, W.listOf avs.toArray 0) ∈ M) (d5 : o5.data = .cell (some (.ref db))) (ib : IntsAre bvs (cI bs)) (ia : IntsAre avs (cI as)) (hbl : bs.length = Wd * Ht) (hal : as.length = Wd * Ht) (hdim : dims Wd Ht) (hk : k < Wd + Ht)
    (hord : ∀ p ∈ ord, p < Wd * Ht) (hol : ord.length = Wd * Ht) (hit : ItemsAre wl its ord) (hok : okOrd (Wd * Ht) bs as ord = true) (hlt : S.h < 2 ^ (Wd * Ht)) (hid : isIdeal (Wd * Ht) bs S.h = true) (hrl : rho (Wd * Ht) bs S.h < 2 ^ (Wd * Ht))
    (hm : Has mm (VK k Wd Ht da x tx t1 t3 te tk S.h h0 S.e S.l S.t Th T0 Te Tl Tt))
    (hQ : ∀ (m' : Str → Option Value) (h : Heap) (tk' : Nat) (its : List TIt) (n : Nat) (Th Te Tl Tt : Tok), Fr h₀ L h m' → Has m' (VK k Wd Ht da x tx t1 t3 te tk (hourStep (Wd * Ht) bs S k).h h0 (hourStep (Wd * Ht) bs S k).e (hourStep (Wd * Ht) bs S k).l (hourStep (Wd * Ht) bs S k).t Th T0 Te Tl Tt) → News h₀ L h ((x, pileO dx (pvl its) n) :: (M ++ tnl its)) → Nd ((x, pileO dx (pvl its) n) :: (M ++ tnl its)) → ItemsAre wl its ord → Q .next { s with heap := h, toks := tk' })
    : wpAny (model pw w) (LAr L fa cd) (execs [hr0, hr1, hr2, hr3, hr4, hr5, hr6, hr7, hr8] (LE L fa cd)) Q NoE s := by
  have inM : ∀ {q : Addr × Obj}, q ∈ M → ∀ {its : List TIt} {n : Nat}, q ∈ (x, pileO dx (pvl its) n) :: (M ++ tnl its) := fun hq => List.mem_cons_of_mem _ (List.mem_append_left _ hq)
  obtain ⟨_, h8⟩ := size_hour hdim (Nat.le_of_lt hk)
  have hil := hit.len
  refine st_hr0 w h₀ L fa da x cd mm _ Wd Ht k tx t1 t3 te tk S.h h0 S.e S.l S.t Th T0 Te Tl Tt mean mg mb _ Q _ F X T B N hdim (Nat.le_of_lt hk) (lt256 hdim hlt) hm fun Te1 m1 h1 tk1 F1 hm1 N1 => ?_
  refine st_hr12 w h₀ L fa db da x cd m1 o5 _ bvs bs Wd Ht k tx t1 t3 te tk S.h h0 _ S.l S.t Th T0 Te1 Tl Tt mean mg mb _ Q _ F1 X T B N1 (inM m5) (inM mb') d5 ib hbl hdim hm1 fun td m2 h2 tk2 F2 hm2 N2 => ?_
  refine st_hr3 w h₀ L fa x da cd m2 _ _ td k Wd Ht tx t1 t3 te tk S.h h0 _ S.l S.t Th T0 Te1 Tl Tt mean mg mb _ Q _ F2 X T B N2 hm2 fun g c m3 h3 tk3 F3 hm3 N3 hg3 => ?_
  have hp : ((g, W.listOf #[] c) :: (x, pileO dx (pvl its) n) :: (M ++ tnl its)).Perm (nlP x dx g M its [] n c) := by
    have e : nlP x dx g M its [] n c = (x, pileO dx (pvl its) n) :: (g, W.listOf #[] c) :: (M ++ tnl its) := by simp [nlP, tnl, pvl]
    rw [e]
    exact List.Perm.swap _ _ _
  refine nextH w h₀ L fa x dx da g cd m3 M its [] n c bs as wl ord ord [] q1 q2 room S.h S.t _ td k Wd Ht tx t1 t3 te tk S.h h0 _ S.l S.t Th T0 Te1 Tl Tt mean mg mb s h3 tk3 Q _ F3 X T B (News.sub N3 fun q hq => hp.mem_iff.mpr hq) (nd_perm (Nd.cons hn hg3) hp) hdx (by omega) (by simp) rfl rfl hit hm3 fun s4 hI => ?_
  refine st_hr5 w h₀ L fa x dx da db g cd o5 M avs bvs bs as wl ord q1 q2 room S.h S.t _ td k Wd Ht tx t1 t3 te tk h0 _ S.l T0 Te1 Tl mean mg mb s s4 _ Q _ X T B hI hdx m5 mb' ma' d5 ib ia hbl hal hdim (Nat.le_of_lt hk) hord hol fun h5 tk5 m5' gl n5 c5 hh t Th5 Tt5 ta5 tb5 F5 N5 hn5 hgl5 hst5 hm5 => ?_
  rw [pop_hour hok hlt hid] at hst5
  obtain ⟨rfl, rfl⟩ : hh = rho (Wd * Ht) bs S.h ∧ t = S.t ||| (S.h ^^^ rho (Wd * Ht) bs S.h) <<< (Wd * Ht * k) := by simpa using hst5
  refine st_hr6 w h₀ L fa x da g cd m5' _ ta5 tb5 td k Wd Ht tx t1 t3 te tk _ h0 _ S.l _ Th5 T0 Te1 Tl Tt5 mean mg mb _ Q _ F5 X T B N5 hm5 fun m6 h6 tk6 F6 hm6 N6 => ?_
  refine st_hr7 w h₀ L fa x dx da g cd m6 M gl n5 c5 wl ord q1 q2 room _ td k Wd Ht tx t1 t3 te tk _ h0 _ S.l _ Th5 T0 Te1 Tl Tt5 mean mg mb _ Q _ F6 X T B N6 hn5 hdx hgl5 (by omega) hm6 fun m7 h7 tk7 its7 n7 F7 hm7 N7 hn7 hit7 => ?_
  refine st_hr8 w h₀ L fa da x cd m7 _ Wd Ht k tx t1 t3 te tk _ h0 _ S.l _ Th5 T0 Te1 Tl Tt5 mean mg mb _ Q _ F7 X T B N7 hdim (Nat.le_of_lt hk) (lt256 hdim hrl) hm7 fun Tl8 m8 h8' tk8 F8 hm8 N8 => ?_
  refine wpAny_execs_nil ?_
  exact hQ m8 h8' tk8 its7 n7 Th5 Te1 Tl8 Tt5 F8 hm8 N8 hn7 hit7
noncomputable def JHr (Wd Ht : Nat) (da x dx : Addr) (M : List (Addr × Obj)) (tx : Str) (t1 t3 te T0 : Tok) (bs : List Nat) (wl : List Str) (ord : List Nat) (h0 : Nat) (k : Nat) (m₁ : Str → Option Value) (news₁ : List (Addr × Obj)) : Prop :=
  ∃ (its : List TIt) (n : Nat) (Th Te Tl Tt : Tok), Has m₁ (VH Wd Ht da x tx t1 t3 te (hours (Wd * Ht) bs h0 k).h h0 (hours (Wd * Ht) bs h0 k).e (hours (Wd * Ht) bs h0 k).l (hours (Wd * Ht) bs h0 k).t Th T0 Te Tl Tt) ∧ ItemsAre wl its ord ∧ news₁ = (x, pileO dx (pvl its) n) :: (M ++ tnl its) ∧ Nd news₁
theorem st_z24 (w : World) (h₀ : Heap) (L fa x dx da db : Addr) (cd : Value) (mm : Str → Option Value) (o2 o5 : Obj) (M : List (Addr × Obj)) (avs bvs : List Value) (its : List TIt) (n : Nat) (bs as : List Nat) (wl : List Str) (ord : List Nat) (q1 q2 : Tok) (room : Int) (Wd Ht : Nat) (tx : Str) (t1 t2 t3 te : Tok) (h0 : Nat) (Th T0 Te Tl Tt : Tok) (mean : ExcName → Option Value) (mg mb : Str → Option Value) (s : Shared) (Q : Flow → Shared → Prop) (rest : List Stmt)
    (F : Fr h₀ L s.heap mm) (X : (KK w.params).In h₀) (T : Top vw Mine.lw mean mg mb h₀) (B : Below callerA h₀ [] h₀)
    (N : News h₀ L s.heap ((x, pileO dx (pvl its) n) :: (M ++ tnl its))) (hn : Nd ((x, pileO dx (pvl its) n) :: (M ++ tnl its))) (hdx : (dx, pileD w.params q1 q2 room) ∈ M)
    (m2 : (L + 1 + 1, o2) ∈ M) (d2 : o2.data = .cell (some (.int (Ht : Int) t2)))
    (m5 : (L + 1 + 1 + 1 + 1 + 1, o5) ∈ M) (mb' : (db, W.listOf bvs.toArray 0) ∈ M) (ma' : (da, W.listOf avs.toArray 0) ∈ M) (d5 : o5.data = .cell (some (.ref db))) (ib : IntsAre bvs (cI bs)) (ia : IntsAre avs (cI as)) (hbl : bs.length = Wd * Ht) (hal : as.length = Wd * Ht) (hdim : dims Wd Ht)
    (hord : ∀ p ∈ ord, p < Wd * Ht) (hol : ord.length = Wd * Ht) (hit : ItemsAre wl its ord) (hok : okOrd (Wd * Ht) bs as ord = true)
    (hinv : ∀ k, (hours (Wd * Ht) bs h0 k).h < 2 ^ (Wd * Ht) ∧ isIdeal (Wd * Ht) bs (hours (Wd * Ht) bs h0 k).h = true)
    (hm : Has mm (VH Wd Ht da x tx t1 t3 te h0 h0 0 0 0 Th T0 Te Tl Tt))
    (hrest : ∀ (m' : Str → Option Value) (h : Heap) (tk' : Nat) (its : List TIt) (n : Nat) (Th Te Tl Tt : Tok), Fr h₀ L h m' → Has m' (VH Wd Ht da x tx t1 t3 te (hours (Wd * Ht) bs h0 (Wd + Ht)).h h0 (hours (Wd * Ht) bs h0 (Wd + Ht)).e (hours (Wd * Ht) bs h0 (Wd + Ht)).l (hours (Wd * Ht) bs h0 (Wd + Ht)).t Th T0 Te Tl Tt) → News h₀ L h ((x, pileO dx (pvl its) n) :: (M ++ tnl its)) → ItemsAre wl its ord → wpAny (model pw w) (LAr L fa cd) (execs rest (LE L fa cd)) Q NoE { s with heap := h, toks := tk' })
    : wpAny (model pw w) (LAr L fa cd) (execs (z24 :: rest) (LE L fa cd)) Q NoE s := by
  have F0 := Fr.list F _ hm
  dsimp only [VH, VR] at F0
  clear F
  refine wpAny_execs_cons ?_
  refine For_W2 (h₀ := h₀) rfl rfl rfl (JHr Wd Ht da x dx M tx t1 t3 te T0 bs wl ord h0) ?_
  have inM : ∀ {q : Addr × Obj}, q ∈ M → ∀ {its : List TIt} {n : Nat}, q ∈ (x, pileO dx (pvl its) n) :: (M ++ tnl its) := fun hq => List.mem_cons_of_mem _ (List.mem_append_left _ hq)
  have hsm : Builtin.Range.small 0 ((Wd + Ht : Nat) : Int) 1 = true ∧ Builtin.Range.rangeSize 0 ((Wd + Ht : Nat) : Int) 1 = ((Wd + Ht : Nat) : Int) := by
    rcases hdim with ⟨rfl, rfl⟩ | ⟨rfl, rfl⟩ | ⟨rfl, rfl⟩ | ⟨rfl, rfl⟩ <;> decide
  have h6 : 0 ≤ ((Wd + Ht : Nat) : Int) ∧ ((Wd + Ht : Nat) : Int) ≤ 8 := by rcases hdim with ⟨rfl, rfl⟩ | ⟨rfl, rfl⟩ | ⟨rfl, rfl⟩ | ⟨rfl, rfl⟩ <;> decide
  iterate 6 (first | walk1 | (dsimp only; walk1))
  refine ldHigh N (inM m2) d2 ?_
  iterate 1 (first | walk1 | (dsimp only; walk1))
  rw [show (Wd : Int) + (Ht : Int) = ((Wd + Ht : Nat) : Int) from by omega]
  iterate 2 (first | walk1 | (dsimp only; walk1))
  rename IsRange _ _ _ _ _ _ _ _ => hr; rename Fr _ _ _ _ => F9; rename News _ _ _ _ => N9
  refine src_range2 (env := LE L fa cd) (h₀ := h₀) rfl (JHr Wd Ht da x dx M tx t1 t3 te T0 bs wl ord h0) hr hsm.1 hsm.2 F9 N9 ?_ ?_ ?_
  · exact ⟨its, n, Th, Te, Tl, Tt, by repeat' (first | exact Has.nil | refine Has.cons rfl ?_), hit, rfl, hn⟩
  · rintro i tv m₁ news₁ I oI h tk hi ⟨its1, n1, Th1, Te1, Tl1, Tt1, hm1, hit1, rfl, hn1⟩ hnI hIs F3 N3
    have e1 := hm1.hd; have e2 := hm1.tl.hd; have e3 := hm1.tl.tl.hd; have e4 := hm1.tl.tl.tl.hd; have e5 := hm1.tl.tl.tl.tl.hd; have e6 := hm1.tl.tl.tl.tl.tl.hd
    have e7 := hm1.tl.tl.tl.tl.tl.tl.hd; have e8 := hm1.tl.tl.tl.tl.tl.tl.tl.hd; have e9 := hm1.tl.tl.tl.tl.tl.tl.tl.tl.hd; have e10 := hm1.tl.tl.tl.tl.tl.tl.tl.tl.tl.hd
    have hp : (((x, pileO dx (pvl its1) n1) :: (M ++ tnl its1)) ++ [(I, oI)]).Perm ((x, pileO dx (pvl its1) n1) :: (((I, oI) :: M) ++ tnl its1)) := by
      simp only [List.cons_append]
      refine List.Perm.cons _ ?_
      rw [List.append_assoc]
      refine (List.perm_middle (l₁ := M ++ tnl its1) (a := (I, oI)) (l₂ := [])).trans ?_ |> (fun z => by simpa [List.append_assoc] using z)
      simp
    have hnd : Nd ((x, pileO dx (pvl its1) n1) :: (((I, oI) :: M) ++ tnl its1)) := nd_perm (Nd.snoc hn1 hnI) hp
    refine hour_turn w h₀ L fa x dx da db cd _ o5 ((I, oI) :: M) avs bvs its1 n1 bs as wl ord q1 q2 room i Wd Ht tx t1 t3 te tv h0 (hours (Wd * Ht) bs h0 i) Th1 T0 Te1 Tl1 Tt1 mean mg mb _ _ F3 X T B (News.sub N3 fun q hq => hp.mem_iff.mpr hq) hnd (List.mem_cons_of_mem _ hdx) (List.mem_cons_of_mem _ m5) (List.mem_cons_of_mem _ mb') (List.mem_cons_of_mem _ ma') d5 ib ia hbl hal hdim hi hord hol hit1 hok (hinv i).1 (hinv i).2 ?_ ?_ fun m' h' tk' its' n' Th' Te' Tl' Tt' F4 hm4 N4 hn4 hit4 => ?_
    · have := (hinv (i + 1)).1
      rw [hours_succ] at this
      exact this
    · exact Has.cons rfl (Has.cons e1 (Has.cons e2 (Has.cons e3 (Has.cons e4 (Has.cons e5 (Has.cons e6 (Has.cons e7 (Has.cons e8 (Has.cons e9 (Has.cons hm1.tl.tl.tl.tl.tl.tl.tl.tl.tl.hd Has.nil))))))))))
    · have hp4 : (((x, pileO dx (pvl its') n') :: (M ++ tnl its')) ++ [(I, oI)]).Perm ((x, pileO dx (pvl its') n') :: (((I, oI) :: M) ++ tnl its')) := by
        simp only [List.cons_append]
        refine List.Perm.cons _ ?_
        rw [List.append_assoc]
        refine (List.perm_middle (l₁ := M ++ tnl its') (a := (I, oI)) (l₂ := [])).trans ?_ |> (fun z => by simpa [List.append_assoc] using z)
        simp
      have hn5 := nd_perm hn4 hp4.symm
      refine TurnW.mk (news' := (x, pileO dx (pvl its') n') :: (M ++ tnl its')) F4 (News.sub N4 fun q hq => hp4.mem_iff.mp hq) ?_ ⟨its', n', Th', Te', Tl', Tt', ?_, hit4, rfl, ?_⟩
      · intro q hq hb
        rw [List.mem_singleton] at hb
        exact (Nd.split (pre := (x, pileO dx (pvl its') n') :: (M ++ tnl its')) (post := []) hn5).1 q hq hb
      · rw [hours_succ]; exact hm4.tl
      · unfold Nd at hn5 ⊢
        rw [List.map_append] at hn5
        exact (List.nodup_append.mp hn5).1
  · rintro m₁ news₁ h tk ⟨its1, n1, Th1, Te1, Tl1, Tt1, hm1, hit1, rfl, hn1⟩ F3 N3
    exact hrest m₁ h tk its1 n1 Th1 Te1 Tl1 Tt1 F3 hm1 N3 hit1
end Mine
end
section
open PySem PySem.W PyProof.Rows PySem.Spec PySem.Calls PyProof.V PySem.Builtin.Str
namespace Mine
theorem st_z25 (w : World) (h₀ : Heap) (L fa x da : Addr) (cd : Value) (mm : Str → Option Value) (nl : List (Addr × Obj)) (Wd Ht : Nat) (tx : Str) (t1 t3 te : Tok) (hh h0 e l t : Nat) (Th T0 Te Tl Tt : Tok) (mean : ExcName → Option Value) (mg mb : Str → Option Value) (s : Shared) (Q : Flow → Shared → Prop) (rest : List Stmt)
    (F : Fr h₀ L s.heap mm) (X : (KK w.params).In h₀) (T : Top vw Mine.lw mean mg mb h₀) (B : Below callerA h₀ [] h₀)
    (N : News h₀ L s.heap nl) (c1 : e ^^^ l = t) (c2 : l ^^^ t = e) (c3 : t ^^^ e = l)
    (hm : Has mm (VH Wd Ht da x tx t1 t3 te hh h0 e l t Th T0 Te Tl Tt))
    (hrest : ∀ (m' : Str → Option Value) (h : Heap) (tk' : Nat), Fr h₀ L h m' → Has m' (VH Wd Ht da x tx t1 t3 te hh h0 e l t Th T0 Te Tl Tt) → News h₀ L h nl →
      wpAny (model pw w) (LAr L fa cd) (execs rest (LE L fa cd)) Q NoE { s with heap := h, toks := tk' })
    : wpAny (model pw w) (LAr L fa cd) (execs (z25 :: rest) (LE L fa cd)) Q NoE s := by
  have F0 := Fr.list F _ hm
  dsimp only [VH, VR] at F0
  clear F hm
  have hne : ∀ a : Nat, (((a : Nat) : Int) != ((a : Nat) : Int)) = false := fun a => by simp
  iterate 11 (first | walk1 | (dsimp only; walk1))
  refine args_nil ⟨X.keeps F0.keep, ?_⟩
  refine p_xorN w e l _ _ _ _ _ _ _ _ _ _ _ _ _ _ _ _ _ _ _ _ _ _ B F0 X (by assumption) rfl trivial (by ktr_room) (by ktr_room) fun t1' h1 tk1 hk1 => ?_
  rw [c1]
  have F1 := F0.kept (h' := h1) hk1
  have N1 := News.kp N hk1
  clear F0 N
  iterate 2 (first | walk1 | (dsimp only; walk1))
  rw [hne]
  refine wpAny_truthy_bool ?_
  rw [if_neg (by decide)]
  iterate 9 (first | walk1 | (dsimp only; walk1))
  refine args_nil ⟨X.keeps F1.keep, ?_⟩
  refine p_xorN w l t _ _ _ _ _ _ _ _ _ _ _ _ _ _ _ _ _ _ _ _ _ _ B F1 X (by assumption) rfl trivial (by ktr_room) (by ktr_room) fun t2' h2 tk2 hk2 => ?_
  rw [c2]
  have F2 := F1.kept (h' := h2) hk2
  have N2 := News.kp N1 hk2
  clear F1 N1
  iterate 2 (first | walk1 | (dsimp only; walk1))
  rw [hne]
  refine wpAny_truthy_bool ?_
  rw [if_neg (by decide)]
  iterate 9 (first | walk1 | (dsimp only; walk1))
  refine args_nil ⟨X.keeps F2.keep, ?_⟩
  refine p_xorN w t e _ _ _ _ _ _ _ _ _ _ _ _ _ _ _ _ _ _ _ _ _ _ B F2 X (by assumption) rfl trivial (by ktr_room) (by ktr_room) fun t3' h3 tk3 hk3 => ?_
  rw [c3]
  have F3 := F2.kept (h' := h3) hk3
  have N3 := News.kp N2 hk3
  clear F2 N2
  iterate 2 (first | walk1 | (dsimp only; walk1))
  rw [hne]
  refine wpAny_truthy_bool ?_
  rw [if_neg (by decide)]
  iterate 1 (first | walk1 | (dsimp only; walk1))
  rw [if_neg (by decide)]
  refine wpAny_execs_nil ?_
  exact hrest _ _ _ F3 (by repeat' (first | exact Has.nil | refine Has.cons rfl ?_)) N3
end Mine
end
section
open PySem PySem.W PyProof.Rows PySem.Spec PySem.Calls PyProof.V PySem.Builtin.Str
namespace Mine
theorem st_fi (w : World) (h₀ : Heap) (L fa x da : Addr) (cd : Value) (mm : Str → Option Value) (o2 : Obj) (nl : List (Addr × Obj)) (Wd Ht p : Nat) (tx : Str) (t1 t2 t3 te tp : Tok) (hh h0 e l t : Nat) (Th T0 Te Tl Tt : Tok) (mean : ExcName → Option Value) (mg mb : Str → Option Value) (s : Shared) (Q : Flow → Shared → Prop)
    (F : Fr h₀ L s.heap mm) (X : (KK w.params).In h₀) (T : Top vw Mine.lw mean mg mb h₀) (B : Below callerA h₀ [] h₀)
    (N : News h₀ L s.heap nl) (m2 : (L + 1 + 1, o2) ∈ nl) (d2 : o2.data = .cell (some (.int (Ht : Int) t2))) (hdim : dims Wd Ht) (hp : p < Wd * Ht)
    (hc : ((e >>> (Wd * Ht * (Wd + Ht - 1 - p / Ht - p % Ht))) >>> (Wd * Ht - 1 - p)) &&& 1 ≠ (h0 >>> p) &&& 1)
    (hm : Has mm ((Str.ofString "p", .int (p : Int) tp) :: VH Wd Ht da x tx t1 t3 te hh h0 e l t Th T0 Te Tl Tt))
    (hrest : ∀ (m' : Str → Option Value) (h : Heap) (tk' : Nat), Fr h₀ L h m' → Has m' (VH Wd Ht da x tx t1 t3 te hh h0 e l t Th T0 Te Tl Tt) → News h₀ L h nl → Q .next { s with heap := h, toks := tk' })
    : wpAny (model pw w) (LAr L fa cd) (execs [fi0, fi1] (LE L fa cd)) Q NoE s := by
  have F0 := Fr.list F _ hm
  dsimp only [VH, VR] at F0
  clear F hm
  have hH4 : 0 < Ht ∧ Ht ≤ 4 := by rcases hdim with ⟨rfl, rfl⟩ | ⟨rfl, rfl⟩ | ⟨rfl, rfl⟩ | ⟨rfl, rfl⟩ <;> decide
  have hHi : 0 < ((Ht : Nat) : Int) ∧ ((Ht : Nat) : Int) ≤ 4 := by omega
  have hHz : ((Ht : Nat) : Int) ≠ 0 := by omega
  have hp8 : p < 8 := by rcases hdim with ⟨rfl, rfl⟩ | ⟨rfl, rfl⟩ | ⟨rfl, rfl⟩ | ⟨rfl, rfl⟩ <;> omega
  have hW4 : Wd ≤ 4 := by rcases hdim with ⟨rfl, rfl⟩ | ⟨rfl, rfl⟩ | ⟨rfl, rfl⟩ | ⟨rfl, rfl⟩ <;> decide
  have hq : p / Ht < Wd := Nat.div_lt_of_lt_mul (by rw [Nat.mul_comm]; exact hp)
  have hr : p % Ht < Ht := Nat.mod_lt _ hH4.1
  iterate 15 (first | walk1 | (dsimp only; walk1))
  refine ldHigh N m2 d2 ?_
  iterate 5 (first | walk1 | (dsimp only; walk1))
  refine ldHigh N m2 d2 ?_
  iterate 1 (first | walk1 | (dsimp only; walk1))
  rw [fdN p Ht]
  iterate 3 (first | walk1 | (dsimp only; walk1))
  refine ldHigh N m2 d2 ?_
  iterate 1 (first | walk1 | (dsimp only; walk1))
  rw [fmN p Ht]
  iterate 1 (first | walk1 | (dsimp only; walk1))
  have hz : (Wd : Int) + (Ht : Int) - 1 - ((p / Ht : Nat) : Int) - ((p % Ht : Nat) : Int) = ((Wd + Ht - 1 - p / Ht - p % Ht : Nat) : Int) := by
    generalize p / Ht = a at hq ⊢
    generalize p % Ht = b at hr ⊢
    omega
  rw [hz]
  refine mul_int ?_ (mul_size _ hdim)
  rw [show ((Wd * Ht : Nat) : Int) * ((Wd + Ht - 1 - p / Ht - p % Ht : Nat) : Int) = ((Wd * Ht * (Wd + Ht - 1 - p / Ht - p % Ht) : Nat) : Int) from (Int.natCast_mul ..).symm]
  generalize Wd * Ht * (Wd + Ht - 1 - p / Ht - p % Ht) = z at hc
  refine args_nil ⟨X.keeps F0.keep, ?_⟩
  refine p_shrN w e z _ _ _ _ _ _ _ _ _ _ _ _ _ _ _ _ _ _ _ _ _ _ B F0 X (by assumption) rfl trivial (by ktr_room) (by ktr_room) fun t1' h1 tk1 hk1 => ?_
  have F1 := F0.kept (h' := h1) hk1
  have N1 := News.kp N hk1
  clear F0 N
  iterate 21 (first | walk1 | (dsimp only; walk1))
  rw [show ((Wd * Ht : Nat) : Int) - 1 - (p : Int) = ((Wd * Ht - 1 - p : Nat) : Int) from by omega]
  rename Fr _ _ _ _ => F2; rename News _ _ _ _ => N2
  refine args_nil ⟨X.keeps F2.keep, ?_⟩
  refine p_shrN w (e >>> z) (Wd * Ht - 1 - p) _ _ _ _ _ _ _ _ _ _ _ _ _ _ _ _ _ _ _ _ _ _ B F2 X (by assumption) rfl trivial (by ktr_room) (by ktr_room) fun t3' h3 tk3 hk3 => ?_
  have F3 := F2.kept (h' := h3) hk3
  have N3 := News.kp N2 hk3
  clear F2 N2
  iterate 2 (first | walk1 | (dsimp only; walk1))
  refine args_nil ⟨X.keeps F3.keep, ?_⟩
  refine p_andN w ((e >>> z) >>> (Wd * Ht - 1 - p)) 1 _ _ _ _ _ _ _ _ _ _ _ _ _ _ _ _ _ _ _ _ _ _ B F3 X (by assumption) rfl trivial (by ktr_room) (by ktr_room) fun t4' h4 tk4 hk4 => ?_
  have F4 := F3.kept (h' := h4) hk4
  have N4 := News.kp N3 hk4
  clear F3 N3
  iterate 11 (first | walk1 | (dsimp only; walk1))
  refine args_nil ⟨X.keeps F4.keep, ?_⟩
  refine p_shrN w h0 p _ _ _ _ _ _ _ _ _ _ _ _ _ _ _ _ _ _ _ _ _ _ B F4 X (by assumption) rfl trivial (by ktr_room) (by ktr_room) fun t5' h5 tk5 hk5 => ?_
  have F5 := F4.kept (h' := h5) hk5
  have N5 := News.kp N4 hk5
  clear F4 N4
  iterate 2 (first | walk1 | (dsimp only; walk1))
  refine args_nil ⟨X.keeps F5.keep, ?_⟩
  refine p_andN w (h0 >>> p) 1 _ _ _ _ _ _ _ _ _ _ _ _ _ _ _ _ _ _ _ _ _ _ B F5 X (by assumption) rfl trivial (by ktr_room) (by ktr_room) fun t6' h6 tk6 hk6 => ?_
  have F6 := F5.kept (h' := h6) hk6
  have N6 := News.kp N5 hk6
  clear F5 N5
  iterate 1 (first | walk1 | (dsimp only; walk1))
  rw [pr_eq, decide_eq_false hc]
  refine wpAny_truthy_bool ?_
  rw [if_neg (by decide)]
  refine wpAny_execs_nil ?_
  dsimp only
  refine wpAny_execs_nil ?_
  exact hrest _ _ _ F6 (by repeat' (first | exact Has.nil | refine Has.cons rfl ?_)) N6
noncomputable def JF (l0 : List (Str × Value)) (nl : List (Addr × Obj)) (_ : Nat) (m₁ : Str → Option Value) (news₁ : List (Addr × Obj)) : Prop := Has m₁ l0 ∧ news₁ = nl
theorem st_z26 (w : World) (h₀ : Heap) (L fa x da : Addr) (cd : Value) (mm : Str → Option Value) (o2 : Obj) (nl : List (Addr × Obj)) (Wd Ht : Nat) (tx : Str) (t1 t2 t3 te : Tok) (hh h0 e l t : Nat) (Th T0 Te Tl Tt : Tok) (mean : ExcName → Option Value) (mg mb : Str → Option Value) (s : Shared) (Q : Flow → Shared → Prop) (rest : List Stmt)
    (F : Fr h₀ L s.heap mm) (X : (KK w.params).In h₀) (T : Top vw Mine.lw mean mg mb h₀) (B : Below callerA h₀ [] h₀)
    (N : News h₀ L s.heap nl) (m2 : (L + 1 + 1, o2) ∈ nl) (d2 : o2.data = .cell (some (.int (Ht : Int) t2))) (hdim : dims Wd Ht)
    (hc : ∀ p, p < Wd * Ht → ((e >>> (Wd * Ht * (Wd + Ht - 1 - p / Ht - p % Ht))) >>> (Wd * Ht - 1 - p)) &&& 1 ≠ (h0 >>> p) &&& 1)
    (hm : Has mm (VH Wd Ht da x tx t1 t3 te hh h0 e l t Th T0 Te Tl Tt))
    (hrest : ∀ (m' : Str → Option Value) (h : Heap) (tk' : Nat), Fr h₀ L h m' → Has m' (VH Wd Ht da x tx t1 t3 te hh h0 e l t Th T0 Te Tl Tt) → News h₀ L h nl →
      wpAny (model pw w) (LAr L fa cd) (execs rest (LE L fa cd)) Q NoE { s with heap := h, toks := tk' })
    : wpAny (model pw w) (LAr L fa cd) (execs (z26 :: rest) (LE L fa cd)) Q NoE s := by
  have F0 := Fr.list F _ hm
  dsimp only [VH, VR] at F0
  clear F
  have hsm : Builtin.Range.small 0 ((Wd * Ht : Nat) : Int) 1 = true ∧ Builtin.Range.rangeSize 0 ((Wd * Ht : Nat) : Int) 1 = ((Wd * Ht : Nat) : Int) := by
    rcases hdim with ⟨rfl, rfl⟩ | ⟨rfl, rfl⟩ | ⟨rfl, rfl⟩ | ⟨rfl, rfl⟩ <;> decide
  have h8 : 0 ≤ ((Wd * Ht : Nat) : Int) ∧ ((Wd * Ht : Nat) : Int) ≤ 8 := by rcases hdim with ⟨rfl, rfl⟩ | ⟨rfl, rfl⟩ | ⟨rfl, rfl⟩ | ⟨rfl, rfl⟩ <;> decide
  refine wpAny_execs_cons ?_
  refine For_W2 (h₀ := h₀) rfl rfl rfl (JF (VH Wd Ht da x tx t1 t3 te hh h0 e l t Th T0 Te Tl Tt) nl) ?_
  iterate 7 (first | walk1 | (dsimp only; walk1))
  rename IsRange _ _ _ _ _ _ _ _ => hr; rename Fr _ _ _ _ => F9; rename News _ _ _ _ => N9
  refine src_range (env := LE L fa cd) (h₀ := h₀) rfl (JF (VH Wd Ht da x tx t1 t3 te hh h0 e l t Th T0 Te Tl Tt) nl) hr hsm.1 hsm.2 F9 N9 ?_ ?_ ?_
  · exact ⟨by repeat' (first | exact Has.nil | refine Has.cons rfl ?_), rfl⟩
  · rintro i tv m₁ news₁ its h tk wr hi ⟨hm1, rfl⟩ hnw hwr hits F3 N3
    have e1 := hm1.hd; have e2 := hm1.tl.hd; have e3 := hm1.tl.tl.hd; have e4 := hm1.tl.tl.tl.hd; have e5 := hm1.tl.tl.tl.tl.hd; have e6 := hm1.tl.tl.tl.tl.tl.hd
    have e7 := hm1.tl.tl.tl.tl.tl.tl.hd; have e8 := hm1.tl.tl.tl.tl.tl.tl.tl.hd; have e9 := hm1.tl.tl.tl.tl.tl.tl.tl.tl.hd; have e10 := hm1.tl.tl.tl.tl.tl.tl.tl.tl.tl.hd
    refine st_fi w h₀ L fa x da cd _ o2 (news₁ ++ its) Wd Ht i tx t1 t2 t3 te tv hh h0 e l t Th T0 Te Tl Tt mean mg mb _ _ F3 X T B N3 (List.mem_append_left _ m2) d2 hdim hi (hc i hi) ?_ fun m' h' tk' F4 hm4 N4 => ?_
    · exact Has.cons rfl (Has.cons e1 (Has.cons e2 (Has.cons e3 (Has.cons e4 (Has.cons e5 (Has.cons e6 (Has.cons e7 (Has.cons e8 (Has.cons e9 (Has.cons e10 Has.nil))))))))))
    · exact TurnW.mk F4 N4 hnw ⟨hm4, rfl⟩
  · rintro m₁ news₁ h tk ⟨hm1, rfl⟩ F3 N3
    exact hrest m₁ h tk F3 hm1 N3
end Mine
end
section
open PySem PySem.W PyProof.Rows PySem.Spec PySem.Calls PyProof.V PySem.Builtin.Str
namespace Mine
theorem st_z27 (w : World) (h₀ : Heap) (L fa x dx da : Addr) (cd : Value) (mm : Str → Option Value) (o2 : Obj) (nl : List (Addr × Obj)) (its : List TIt) (n : Nat) (q1 q2 : Tok) (room : Int) (pb : Array Value) (Wd Ht : Nat) (tx : Str) (t1 t2 t3 te : Tok) (hh h0 e l t : Nat) (Th T0 Te Tl Tt : Tok) (mean : ExcName → Option Value) (mg mb : Str → Option Value) (s : Shared) (Q : Flow → Shared → Prop) (rest : List Stmt)
    (F : Fr h₀ L s.heap mm) (X : (KK w.params).In h₀) (T : Top vw Mine.lw mean mg mb h₀) (B : Below callerA h₀ [] h₀)
    (N : News h₀ L s.heap nl) (m2 : (L + 1 + 1, o2) ∈ nl) (d2 : o2.data = .cell (some (.int (Ht : Int) t2))) (hdim : dims Wd Ht)
    (hx : (x, pileO dx (pvl its) n) ∈ nl) (hdx : (dx, pileD w.params q1 q2 room) ∈ nl) (hts : ∀ q ∈ tnl its, q ∈ nl) (hl : its.length ≤ 10) (hz : ∀ p ∈ its.map (·.1), p.2.1.1.length ≤ 20 ∧ p.2.2.1.length ≤ 20)
    (CB : h₀.IsCode 116 112 pb) (TB : h₀.TableAt 116 112 pb) (G : AllBare s.gens)
    (e1 : Txt.join (Str.ofString "") ((its.map (·.1)).map pjoin) = tx)
    (hc : l >>> (Wd * Ht * (Wd + Ht - 1)) = h0)
    (hm : Has mm (VH Wd Ht da x tx t1 t3 te hh h0 e l t Th T0 Te Tl Tt))
    (hrest : ∀ (s' : Shared) (pb' : Array Value), (∀ b o, b ≠ 112 → h₀.get? b = some o → s'.heap.get? b = some o) → s'.heap.TableAt 116 112 pb' → AllBare s'.gens → s'.os = s.os → Q (.ret (.bool true)) s')
    : wpAny (model pw w) (LAr L fa cd) (execs (z27 :: rest) (LE L fa cd)) Q NoE s := by
  have F0 := Fr.list F _ hm
  dsimp only [VH, VR] at F0
  clear F hm
  have hH4 : 0 < Ht ∧ Ht ≤ 4 := by rcases hdim with ⟨rfl, rfl⟩ | ⟨rfl, rfl⟩ | ⟨rfl, rfl⟩ | ⟨rfl, rfl⟩ <;> decide
  iterate 15 (first | walk1 | (dsimp only; walk1))
  refine ldHigh N m2 d2 ?_
  iterate 3 (first | walk1 | (dsimp only; walk1))
  rw [show (Wd : Int) + (Ht : Int) - 1 = ((Wd + Ht - 1 : Nat) : Int) from by omega]
  refine mul_int ?_ (mul_size _ hdim)
  rw [show ((Wd * Ht : Nat) : Int) * ((Wd + Ht - 1 : Nat) : Int) = ((Wd * Ht * (Wd + Ht - 1) : Nat) : Int) from (Int.natCast_mul ..).symm]
  refine args_nil ⟨X.keeps F0.keep, ?_⟩
  refine p_shrN w l (Wd * Ht * (Wd + Ht - 1)) _ _ _ _ _ _ _ _ _ _ _ _ _ _ _ _ _ _ _ _ _ _ B F0 X (by assumption) rfl trivial (by ktr_room) (by ktr_room) fun t1' h1 tk1 hk1 => ?_
  rw [hc]
  have F1 := F0.kept (h' := h1) hk1
  have N1 := News.kp N hk1
  clear F0 N
  iterate 2 (first | walk1 | (dsimp only; walk1))
  rw [pr_eq, decide_eq_true rfl]
  refine wpAny_truthy_bool ?_
  rw [if_pos rfl]
  iterate 8 (first | walk1 | (dsimp only; walk1))
  refine p_str w x dx (its.map (·.1)) n q1 q2 _ pb _ _ _ _ _ _ _ _ _ _ _ _ _ _ _ _ _ _ _ _ B F1 X T rfl (by ktr_room) (by ktr_room) (by rw [pvl_eq]; exact (N1 _ hx).1) (N1 _ hdx).1 (tups_of N1 its hts) (by simpa using hl) hz (CB.keeps F1.keep) (TB.keeps F1.keep) G fun t9 s9 pb' hk9 CB9 TB9 G9 os9 => ?_
  rw [e1]
  obtain ⟨F2, X2, T2, N2, R2, g2⟩ := rebase F1 X T N1 (.inr rfl) (tab_at TB) hk9 (tab_at TB9)
  have hfin : ∀ b o, b ≠ 112 → h₀.get? b = some o → s9.heap.get? b = some o := fun b o hb e => hk9 b o hb (F1.keep b o e)
  clear F1 N1
  iterate 2 (first | walk1 | (dsimp only; walk1))
  rw [show (tx == tx) = true from by simp]
  exact hrest s9 pb' hfin TB9 G9 os9
end Mine
end
section
open PySem PySem.W PyProof.Rows PySem.Spec PySem.Calls PyProof.V PySem.Builtin.Str
namespace Mine
theorem join_items {wl : List Str} {its : List TIt} {ord : List Nat} (h : ItemsAre wl its ord) : (Txt.join (Str.ofString "") ((its.map (·.1)).map pjoin)).cps.toList = ord.flatMap (wcp wl) := by
  rw [jcps]
  have e : (its.map (·.1)).map pjoin = (its.map (fun q => (q.1.2.1.1, q.1.2.2.1))).map (fun z => Txt.join (Str.ofString "") [z.1, z.2]) := by
    rw [List.map_map, List.map_map]; rfl
  rw [e, h, List.map_map, List.flatMap_map]
  exact flat_congr2 fun p _ => by
    show (Txt.join (Str.ofString "") [blanks p, wl.getD p ⟨#[]⟩]).cps.toList = wcp wl p
    rw [jcps]
    unfold wcp
    rw [cps_app]
    simp
where flat_congr2 : ∀ {l : List Nat} {f g : Nat → List Nat}, (∀ c ∈ l, f c = g c) → l.flatMap f = l.flatMap g
  | [], _, _, _ => rfl
  | c :: r, f, g, h => by
    rw [List.flatMap_cons, List.flatMap_cons, h c (List.mem_cons_self ..), flat_congr2 fun c hc => h c (List.mem_cons_of_mem _ hc)]
theorem sum_items {wl : List Str} {its : List TIt} {ord : List Nat} (h : ItemsAre wl its ord) : ((its.map (·.1)).map fun p => p.2.1.1.length + p.2.2.1.length).sum = (ord.flatMap (wcp wl)).length := by
  have e : ((its.map (·.1)).map fun p => p.2.1.1.length + p.2.2.1.length) = (its.map (fun q => (q.1.2.1.1, q.1.2.2.1))).map (fun z => z.1.length + z.2.length) := by
    rw [List.map_map, List.map_map]; rfl
  rw [e, h, List.map_map]
  clear e h its
  induction ord with
  | nil => rfl
  | cons p r ih =>
    rw [List.map_cons, List.sum_cons, ih, List.flatMap_cons, List.length_append]
    congr 1
    show (blanks p).length + (wl.getD p ⟨#[]⟩).length = (wcp wl p).length
    rw [← Str.length_append]
    simp [wcp, Str.length]
theorem len_items {wl : List Str} {its : List TIt} {ord : List Nat} {n : Nat} (h : ItemsAre wl its ord) (hwl : ∀ x ∈ wl, x.length ≤ 8) (hn : n ≤ 8) (hwn : wl.length = n) (hord : ∀ p ∈ ord, p < n) : ∀ p ∈ its.map (·.1), p.2.1.1.length ≤ 20 ∧ p.2.2.1.length ≤ 20 := by
  intro z hz
  obtain ⟨q, hq, rfl⟩ := List.mem_map.mp hz
  obtain ⟨i, hi⟩ := List.mem_iff_getElem?.mp hq
  have h1 := congrArg (·[i]?) h
  simp only [List.getElem?_map, hi, Option.map_some] at h1
  obtain ⟨p, hp, e⟩ := Option.map_eq_some_iff.mp h1.symm
  simp only [Prod.mk.injEq] at e
  have hpn := hord p (List.mem_of_getElem? hp)
  have h2 : (wl.getD p ⟨#[]⟩).length ≤ 8 := by
    rw [List.getD_eq_getElem?_getD, List.getElem?_eq_getElem (show p < wl.length by omega), Option.getD_some]
    exact hwl _ (List.getElem_mem _)
  have h3 := blanks_len (p := p) (by omega)
  show q.1.2.1.1.length ≤ 20 ∧ q.1.2.2.1.length ≤ 20
  rw [← e.1, ← e.2]
  exact ⟨by omega, by omega⟩
theorem oldK_of {h₀ h₂ h' : Heap} {pa pb : Array Value} (ta : h₀.TableAt 109 105 #[]) (tb : h₀.TableAt 116 112 #[]) (R : Reb h₀ h₂) (ta2 : h₂.TableAt 109 105 pa) (hk : ∀ b o, b ≠ 112 → h₂.get? b = some o → h'.get? b = some o) (tb2 : h'.TableAt 116 112 pb) : OldK h₀ h' := by
  refine ⟨fun b o e => ?_, fun b o e => ?_⟩
  · by_cases h1 : b = 105
    · subst h1
      have e0 := (ta.2.symm.trans e)
      cases e0
      exact .inr (.inl ⟨ta.isCodeTable, rfl, #[], pa, rfl, by rw [Array.empty_append]; exact hk _ _ (by decide) ta2.2⟩)
    · by_cases h2 : b = 112
      · subst h2
        have e0 := (tb.2.symm.trans e)
        cases e0
        exact .inr (.inl ⟨tb.isCodeTable, rfl, #[], pb, rfl, by rw [Array.empty_append]; exact tb2.2⟩)
      · exact .inl (hk b o h2 (R b o h1 h2 e))
  · by_cases h1 : b = 105
    · subst h1; exact ⟨_, hk _ _ (by decide) ta2.2⟩
    · by_cases h2 : b = 112
      · subst h2; exact ⟨_, tb2.2⟩
      · exact ⟨_, hk b o h2 (R b o h1 h2 e)⟩
theorem nat_of {ds : List Int} (hlen : ds.length = 5) (hb : ∀ d ∈ ds, 0 ≤ d ∧ d ≤ 70000000) (i : Nat) (hi : i < 5) : ∃ D : Nat, ds.getD i 0 = (D : Int) ∧ D ≤ 70000000 := by
  have hm : ds.getD i 0 ∈ ds := by
    rw [List.getD_eq_getElem?_getD, List.getElem?_eq_getElem (by omega), Option.getD_some]
    exact List.getElem_mem _
  obtain ⟨h1, h2⟩ := hb _ hm
  obtain ⟨D, hD⟩ := Int.eq_ofNat_of_zero_le h1
  exact ⟨D, hD, by omega⟩
end Mine
end
section
open PySem PySem.W PyProof.Rows PySem.Spec PySem.Calls PyProof.V PySem.Builtin.Str
namespace Mine
theorem cells_nd (L : Nat) : ([L + 1 + 1 + 1 + 1 + 1 + 1, L + 1 + 1 + 1 + 1 + 1, L + 1 + 1 + 1 + 1, L + 1 + 1 + 1, L + 1 + 1, L + 1] : List Nat).Nodup := by
  refine List.nodup_cons.mpr ⟨?_, List.nodup_cons.mpr ⟨?_, List.nodup_cons.mpr ⟨?_, List.nodup_cons.mpr ⟨?_, List.nodup_cons.mpr ⟨?_, List.nodup_cons.mpr ⟨?_, List.nodup_nil⟩⟩⟩⟩⟩⟩ <;>
    (first | exact List.not_mem_nil | (simp only [List.mem_cons, List.not_mem_nil, or_false]; omega))
theorem cells_any {L : Addr} {P : Addr → Prop} {a6 a5 a4 a3 a2 a1 b6 b5 b4 b3 b2 b1 : Obj} (h : ∀ p ∈ cellsL L a6 a5 a4 a3 a2 a1, P p.1) : ∀ p ∈ cellsL L b6 b5 b4 b3 b2 b1, P p.1 := by
  intro p hp
  simp only [cellsL, List.mem_cons, List.not_mem_nil, or_false] at hp
  rcases hp with rfl | rfl | rfl | rfl | rfl | rfl
  · exact h (L + 1 + 1 + 1 + 1 + 1 + 1, a6) (by repeat (first | exact List.mem_cons_self .. | refine List.mem_cons_of_mem _ ?_))
  · exact h (L + 1 + 1 + 1 + 1 + 1, a5) (by repeat (first | exact List.mem_cons_self .. | refine List.mem_cons_of_mem _ ?_))
  · exact h (L + 1 + 1 + 1 + 1, a4) (by repeat (first | exact List.mem_cons_self .. | refine List.mem_cons_of_mem _ ?_))
  · exact h (L + 1 + 1 + 1, a3) (by repeat (first | exact List.mem_cons_self .. | refine List.mem_cons_of_mem _ ?_))
  · exact h (L + 1 + 1, a2) (by repeat (first | exact List.mem_cons_self .. | refine List.mem_cons_of_mem _ ?_))
  · exact h (L + 1, a1) (by repeat (first | exact List.mem_cons_self .. | refine List.mem_cons_of_mem _ ?_))
theorem ab_cells {L : Addr} {pre : List (Addr × Obj)} (h : Ab L pre) {d : Addr} {o : Obj} (hd : (d, o) ∈ pre) {o6 o5 o4 o3 o2 o1 : Obj} : ∀ q ∈ cellsL L o6 o5 o4 o3 o2 o1, q.1 ≠ d := by
  intro q hq
  simp only [cellsL, List.mem_cons, List.not_mem_nil, or_false] at hq
  rcases hq with rfl | rfl | rfl | rfl | rfl | rfl
  · exact fun e => h (d, o) hd 6 (by decide) (by decide) e.symm
  · exact fun e => h (d, o) hd 5 (by decide) (by decide) e.symm
  · exact fun e => h (d, o) hd 4 (by decide) (by decide) e.symm
  · exact fun e => h (d, o) hd 3 (by decide) (by decide) e.symm
  · exact fun e => h (d, o) hd 2 (by decide) (by decide) e.symm
  · exact fun e => h (d, o) hd 1 (by decide) (by decide) e.symm
theorem any4 {P : Addr → Prop} {L : Addr} {a b c d : Addr × Obj} {o6 b6 o5 o4 o3 o2 o1 : Obj} (h : ∀ q ∈ a :: b :: c :: d :: cellsL L o6 o5 o4 o3 o2 o1, P q.1) : ∀ q ∈ [a, b, c, d] ++ cellsL L b6 o5 o4 o3 o2 o1, P q.1 := by
  intro q hq
  rcases List.mem_append.mp hq with hq | hq
  · exact h q (List.mem_append_left (as := [a, b, c, d]) (cellsL L o6 o5 o4 o3 o2 o1) hq)
  · exact cells_any (fun p hp => h p (List.mem_append_right [a, b, c, d] hp)) q hq
theorem fin_at {W H n h : Nat} {S : HS} (hf : finOk W H n h S = true) : (S.e ^^^ S.l = S.t) ∧ (S.l ^^^ S.t = S.e) ∧ (S.t ^^^ S.e = S.l) ∧ (∀ p, p < n → ((S.e >>> (n * (W + H - 1 - p / H - p % H))) >>> (n - 1 - p)) &&& 1 ≠ (h >>> p) &&& 1) ∧ S.l >>> (n * (W + H - 1)) = h := by
  unfold finOk at hf
  simp only [Bool.and_eq_true, beq_iff_eq, List.all_eq_true, List.mem_range, bne_iff_ne] at hf
  exact ⟨hf.1.1.1.1, hf.1.1.1.2, hf.1.1.2, hf.1.2, hf.2⟩
theorem nd_start {L dl dw db da dx x D : Addr} {o6 o5 o4 o3 o2 o1 a b c d e f g : Obj} (hcl : ∀ q ∈ cellsL L o6 o5 o4 o3 o2 o1, q.1 ≠ dl ∧ q.1 ≠ dw ∧ q.1 < db ∧ q.1 < da) (h1 : dw ≠ dl) (h2 : dl < db) (h3 : dw < db) (h4 : db < da) (h5 : dl < da) (h6 : dw < da)
    (hx : ∀ q ∈ [(da, d), (db, c), (dw, b), (dl, a)] ++ cellsL L o6 o5 o4 o3 o2 o1, q.1 ≠ x) (hdx : ∀ q ∈ [(da, d), (db, c), (dw, b), (dl, a)] ++ cellsL L o6 o5 o4 o3 o2 o1, q.1 ≠ dx) (hxdx : x ≠ dx)
    (hD : ∀ q ∈ [(x, f), (dx, e), (da, d), (db, c), (dw, b), (dl, a)] ++ cellsL L o6 o5 o4 o3 o2 o1, q.1 ≠ D) :
    Nd ((D, g) :: ([(x, f), (dx, e), (da, d), (db, c), (dw, b), (dl, a)] ++ cellsL L o6 o5 o4 o3 o2 o1)) := by
  have n0 : Nd (cellsL L o6 o5 o4 o3 o2 o1) := by
    unfold Nd
    simp only [cellsL, List.map_cons, List.map_nil]
    exact cells_nd L
  have n1 : Nd ((dl, a) :: cellsL L o6 o5 o4 o3 o2 o1) := Nd.cons n0 fun q hq => (hcl q hq).1
  have n2 : Nd ((dw, b) :: (dl, a) :: cellsL L o6 o5 o4 o3 o2 o1) := Nd.cons n1 fun q hq => by
    rcases List.mem_cons.mp hq with rfl | hq
    · exact fun e => h1 e.symm
    · exact (hcl q hq).2.1
  have n3 : Nd ((db, c) :: (dw, b) :: (dl, a) :: cellsL L o6 o5 o4 o3 o2 o1) := Nd.cons n2 fun q hq => by
    rcases List.mem_cons.mp hq with rfl | hq
    · exact Nat.ne_of_lt h3
    · rcases List.mem_cons.mp hq with rfl | hq
      · exact Nat.ne_of_lt h2
      · exact Nat.ne_of_lt (hcl q hq).2.2.1
  have n4 : Nd ((da, d) :: (db, c) :: (dw, b) :: (dl, a) :: cellsL L o6 o5 o4 o3 o2 o1) := Nd.cons n3 fun q hq => by
    rcases List.mem_cons.mp hq with rfl | hq
    · exact Nat.ne_of_lt h4
    · rcases List.mem_cons.mp hq with rfl | hq
      · exact Nat.ne_of_lt h6
      · rcases List.mem_cons.mp hq with rfl | hq
        · exact Nat.ne_of_lt h5
        · exact Nat.ne_of_lt (hcl q hq).2.2.2
  have n5 : Nd ((dx, e) :: (da, d) :: (db, c) :: (dw, b) :: (dl, a) :: cellsL L o6 o5 o4 o3 o2 o1) := Nd.cons n4 hdx
  have n6 : Nd ((x, f) :: (dx, e) :: (da, d) :: (db, c) :: (dw, b) :: (dl, a) :: cellsL L o6 o5 o4 o3 o2 o1) := Nd.cons n5 fun q hq => by
    rcases List.mem_cons.mp hq with rfl | hq
    · exact fun e => hxdx e.symm
    · exact hx q hq
  exact Nd.cons n6 hD
theorem exe_eq {M : Model} {A : Around} {R R' : List Stmt} {env : Env} {Q : Flow → Shared → Prop} {E : Value → Shared → Prop} {s : Shared} (e : R = R') (h : wpAny M A (execs R' env) Q E s) : wpAny M A (execs R env) Q E s := e ▸ h
theorem law_walk (w : World) (h₀ : Heap) (L fa l : Addr) (cd : Value) (m : Str → Option Value) (o1 o2 o3 o4 o5 o6 : Obj) (mean : ExcName → Option Value) (mg mb : Str → Option Value) (s : Shared) (Q : Flow → Shared → Prop) (R1 R2 R3 R4 R5 R6 R7 R8 R9 Ra Rb Rc Rd Re Rf Rg : List Stmt)
    (eR1 : R1 = z2 :: R2) (eR2 : R2 = z3 :: z4 :: R3) (eR3 : R3 = z5 :: R4) (eR4 : R4 = z6 :: z7 :: R5) (eR5 : R5 = z8 :: z9 :: R6) (eR6 : R6 = z10 :: R7) (eR7 : R7 = z11 :: z12 :: R8) (eR8 : R8 = z13 :: z14 :: z15 :: z16 :: R9) (eR9 : R9 = z17 :: Ra) (eRa : Ra = z18 :: Rb) (eRb : Rb = z19 :: Rc) (eRc : Rc = z20 :: z21 :: z22 :: z23 :: Rd) (eRd : Rd = z24 :: Re) (eRe : Re = z25 :: Rf) (eRf : Rf = z26 :: Rg) (eRg : Rg = z27 :: [])
    (F : Fr h₀ L s.heap m) (X : (KK w.params).In h₀) (T : Top vw Mine.lw mean mg mb h₀)
    (N : News h₀ L s.heap [(L + 1 + 1 + 1 + 1 + 1 + 1, o6), (L + 1 + 1 + 1 + 1 + 1, o5), (L + 1 + 1 + 1 + 1, o4), (L + 1 + 1 + 1, o3), (L + 1 + 1, o2), (L + 1, o1)]) (hsc : m (Str.ofString "script") = some (.ref l)) (vs : List Value) (ns : List Int) (hl : h₀.IsList l vs.toArray) (hi : IntsAre vs ns) (hn : ns.length ≤ 63) (d1 : o1.data = .cell none) (d2 : o2.data = .cell none) (d3 : o3.data = .cell none) (d4 : o4.data = .cell none) (d5 : o5.data = .cell none) (d6 : o6.data = .cell none) (B : Below callerA h₀ [] h₀)
    (CA : h₀.IsCode 109 105 #[]) (TA : h₀.TableAt 109 105 #[]) (CB : h₀.IsCode 116 112 #[]) (TB : h₀.TableAt 116 112 #[]) (G : AllBare s.gens)
    (hQ : ∀ s', OldK h₀ s'.heap → s'.os = s.os → AllBare s'.gens → Q (.ret (.bool true)) s')
    : wpAny (model pw w) (LAr L fa cd) (execs (z0 :: z1 :: R1) (LE L fa cd)) Q NoE s := by
  refine @st_draws w h₀ L fa l cd m o1 o2 o3 o4 o5 o6 mean mg mb s Q R1 F X T N hsc vs ns hl hi hn d1 d2 d3 d4 d5 d6 B fun m1 o1' dl dvs ds nn h1 tk1 F1 N1 d1' hids hlen hb hcl1 => ?_
  have habl : Ab L [(dl, W.listOf dvs.toArray nn)] := Ab.cons (o6 := o6) (o5 := o5) (o4 := o4) (o3 := o3) (o2 := o2) (o1 := o1') Ab.nil fun q hq => Nat.ne_of_lt (hcl1 q hq)
  refine exe_eq eR1 ?_
  refine @st_dims w h₀ L fa dl cd m1 o1' o2 o3 o4 o5 o6 dvs ds nn mean mg mb _ Q R2 F1 X T N1 hids hlen hb d1' d2 habl B fun Wd Ht m2 o2' t1 t2 h2 tk2 hdim F2 hw2 d2' N2 => ?_
  refine exe_eq eR2 ?_
  refine @st_pair w h₀ L fa dl cd m2 o1' o2' o3 o4 o5 o6 dvs ds nn Wd Ht t1 t2 mean mg mb _ Q R3 F2 X T N2 hids hlen hb d1' d2' d3 hw2 hdim habl B fun pr tpr t3 t4 m3 o3' h3 tk3 hpr F3 hw3 hsz3 d3' N3 => ?_
  refine exe_eq eR3 ?_
  refine @st_meant w h₀ L fa dl cd m3 o1' o2' o3' o4 o5 o6 dvs nn Wd Ht pr tpr t4 t2 t3 mean mg mb _ Q R4 F3 X T N3 d2' d3' d4 hw3 hsz3 hdim hpr habl B fun dm mvs ny m4 o4' h4 tk4 F4 hw4 hsz4 d4' hms N4 hne4 hab4 => ?_
  refine exe_eq eR4 ?_
  refine @st_words w h₀ L fa dl dm cd m4 o1' o2' o3' o4' o5 o6 dvs mvs ds nn ny Wd Ht pr tpr t4 t2 t3 mean mg mb _ Q R5 F4 X T N4 hids hlen hb d1' d2' d3' d4' hms hw4 hsz4 hdim hpr hab4 B fun dw wvs nw m5 h5 tk5 F5 hw5 hsz5 hws5 hwl5 N5 hab5 => ?_
  refine exe_eq eR5 ?_
  refine @st_below w h₀ L fa dl dw cd m5 o1' o2' o3' o4' o5 o6 dvs wvs nn nw Wd Ht t4 t3 mean mg mb _ Q R6 F5 X T N5 d5 hw5 hsz5 hws5 hdim hab5 B fun da db avs bvs o5' m6 h6 tk6 F6 hw6 hsz6 hws6 hab6' d5' N6 iavs ibvs hab6 hlda hldb => ?_
  refine exe_eq eR6 ?_
  have hn8 : Wd * Ht ≤ 8 ∧ 6 ≤ Wd * Ht := by rcases hdim with ⟨rfl, rfl⟩ | ⟨rfl, rfl⟩ | ⟨rfl, rfl⟩ | ⟨rfl, rfl⟩ <;> decide
  have c1 : ∀ q ∈ cellsL L o6 o5' o4' o3' o2' o1', q.1 < dl := cells_any (P := fun a => a < dl) hcl1
  have c2 : ∀ q ∈ cellsL L o6 o5' o4' o3' o2' o1', q.1 ≠ dw := ab_cells hab5 (List.mem_cons_self ..)
  have c3 : ∀ q ∈ cellsL L o6 o5' o4' o3' o2' o1', q.1 < db := cells_any (P := fun a => a < db) fun p hp => hldb p (List.mem_append_right _ hp)
  have c4 : ∀ q ∈ cellsL L o6 o5' o4' o3' o2' o1', q.1 < da := fun p hp => hlda p (List.mem_append_right _ hp)
  have k1 : dw ≠ dl := by
    rintro rfl
    have e1 := (N5 (dw, W.listOf wvs.toArray nw) (by repeat (first | exact List.mem_cons_self .. | refine List.mem_cons_of_mem _ ?_))).1
    have e2 := (N5 (dw, W.listOf dvs.toArray nn) (by repeat (first | exact List.mem_cons_self .. | refine List.mem_cons_of_mem _ ?_))).1
    dsimp only at e1 e2
    rw [e1] at e2
    have e3 := congrArg (fun o : Obj => match o.data with | .seq a _ => a.size | _ => 0) (Option.some.inj e2)
    simp only [W.listOf, List.size_toArray] at e3
    rw [hwl5.length, hids.length, hlen] at e3
    simp at e3
    omega
  have k2 : dl < db := hldb (dl, W.listOf dvs.toArray nn) (by repeat (first | exact List.mem_cons_self .. | refine List.mem_cons_of_mem _ ?_))
  have k3 : dw < db := hldb (dw, W.listOf wvs.toArray nw) (by repeat (first | exact List.mem_cons_self .. | refine List.mem_cons_of_mem _ ?_))
  have k4 : db < da := hlda (db, W.listOf bvs.toArray 0) (by repeat (first | exact List.mem_cons_self .. | refine List.mem_cons_of_mem _ ?_))
  have k5 : dl < da := hlda (dl, W.listOf dvs.toArray nn) (by repeat (first | exact List.mem_cons_self .. | refine List.mem_cons_of_mem _ ?_))
  have k6 : dw < da := hlda (dw, W.listOf wvs.toArray nw) (by repeat (first | exact List.mem_cons_self .. | refine List.mem_cons_of_mem _ ?_))
  obtain ⟨D0, hD0, _⟩ := nat_of hlen hb 0 (by decide)
  obtain ⟨D1, hD1, hD1b⟩ := nat_of hlen hb 1 (by decide)
  obtain ⟨D2, hD2, _⟩ := nat_of hlen hb 2 (by decide)
  have hm6 : Has m6 (VLz Wd Ht dw da t4 t3) := Has.cons hw6 (Has.cons hsz6 (Has.cons hws6 (Has.cons hab6' Has.nil)))
  refine @st_z10 w h₀ L fa dl dw da db cd m6 o1' o2' o5' ((dw, W.listOf wvs.toArray nw) :: (dl, W.listOf dvs.toArray nn) :: cellsL L o6 o5' o4' o3' o2' o1') dvs wvs avs bvs ds nn nw Wd Ht pr t4 t2 t3 mean mg mb _ Q R7 F6 X T B N6 (Nat.ne_of_gt k4) (fun q hq => ?_) (fun q hq => ?_) (by repeat (first | exact List.mem_cons_self .. | refine List.mem_cons_of_mem _ ?_)) (by repeat (first | exact List.mem_cons_self .. | refine List.mem_cons_of_mem _ ?_)) (by repeat (first | exact List.mem_cons_self .. | refine List.mem_cons_of_mem _ ?_)) (by repeat (first | exact List.mem_cons_self .. | refine List.mem_cons_of_mem _ ?_)) (by repeat (first | exact List.mem_cons_self .. | refine List.mem_cons_of_mem _ ?_)) d1' d2' d5' hids hlen hb D0 D1 hD0 hD1 hwl5 iavs ibvs hdim hpr hm6 fun avs' bvs' m7 h7 tk7 F7 hm7 N7 ia7 ib7 => ?_
  · rcases List.mem_cons.mp hq with rfl | hq
    · exact Nat.ne_of_lt k6
    · rcases List.mem_cons.mp hq with rfl | hq
      · exact Nat.ne_of_lt k5
      · exact Nat.ne_of_lt (c4 q hq)
  · rcases List.mem_cons.mp hq with rfl | hq
    · exact Nat.ne_of_lt k3
    · rcases List.mem_cons.mp hq with rfl | hq
      · exact Nat.ne_of_lt k2
      · exact Nat.ne_of_lt (c3 q hq)
  refine exe_eq eR7 ?_
  refine @st_z11 w h₀ L fa dl dw da cd m7 o1' _ dvs ds nn Wd Ht t4 t3 mean mg mb _ Q R8 F7 X T B N7 (by repeat (first | exact List.mem_cons_self .. | refine List.mem_cons_of_mem _ ?_)) (by repeat (first | exact List.mem_cons_self .. | refine List.mem_cons_of_mem _ ?_)) d1' hids hlen D1 hD1 hm7 fun x dx tr q1 q2 m8 h8 tk8 F8 hm8 N8 hxdx hx8 hdx8 => ?_
  have habx : Ab L [(x, pileO dx [] 0), (dx, pileD w.params q1 q2 ((D1 % 3 : Nat) : Int)), (da, W.listOf avs'.toArray 0), (db, W.listOf bvs'.toArray 0), (dw, W.listOf wvs.toArray nw), (dl, W.listOf dvs.toArray nn)] := by
    have cx : ∀ q ∈ cellsL L o6 o5' o4' o3' o2' o1', q.1 ≠ x := fun q hq => hx8 q (List.mem_cons_of_mem _ (List.mem_cons_of_mem _ (List.mem_cons_of_mem _ (List.mem_cons_of_mem _ hq))))
    have cdx : ∀ q ∈ cellsL L o6 o5' o4' o3' o2' o1', q.1 ≠ dx := fun q hq => hdx8 q (List.mem_cons_of_mem _ (List.mem_cons_of_mem _ (List.mem_cons_of_mem _ (List.mem_cons_of_mem _ hq))))
    exact Ab.cons (Ab.cons (Ab.cons (Ab.cons (Ab.cons (Ab.cons Ab.nil fun q hq => Nat.ne_of_lt (c1 q hq)) c2) fun q hq => Nat.ne_of_lt (c3 q hq)) fun q hq => Nat.ne_of_lt (c4 q hq)) cdx) cx
  refine exe_eq eR8 ?_
  refine @st_z13 w h₀ L fa dl dw da x cd m8 o1' o2' o3' o4' o5' o6 [(x, pileO dx [] 0), (dx, pileD w.params q1 q2 ((D1 % 3 : Nat) : Int)), (da, W.listOf avs'.toArray 0), (db, W.listOf bvs'.toArray 0), (dw, W.listOf wvs.toArray nw), (dl, W.listOf dvs.toArray nn)] dvs ds nn Wd Ht D1 t4 t3 tr mean mg mb _ Q R9 F8 X T B N8 habx (by repeat (first | exact List.mem_cons_self .. | refine List.mem_cons_of_mem _ ?_)) d1' d6 hids hlen D2 hD2 hdim hm8 fun D lvs c tp te t0 m9 o6' h9 tk9 F9 hm9 N9 il9 d6' hD9 => ?_
  have nd9 := nd_start (L := L) (o6 := o6') (o5 := o5') (o4 := o4') (o3 := o3') (o2 := o2') (o1 := o1') (a := W.listOf dvs.toArray nn) (b := W.listOf wvs.toArray nw) (c := W.listOf bvs'.toArray 0) (d := W.listOf avs'.toArray 0) (e := pileD w.params q1 q2 ((D1 % 3 : Nat) : Int)) (f := pileO dx [] 0) (g := W.listOf lvs.toArray c)
    (cells_any (P := fun a => a ≠ dl ∧ a ≠ dw ∧ a < db ∧ a < da) fun q hq => ⟨Nat.ne_of_lt (c1 q hq), c2 q hq, c3 q hq, c4 q hq⟩) k1 k2 k3 k4 k5 k6
    (x := x) (dx := dx) (D := D) (any4 (P := fun a => a ≠ x) hx8) (any4 (P := fun a => a ≠ dx) hdx8) hxdx hD9
  generalize hR : [(dx, pileD w.params q1 q2 ((D1 % 3 : Nat) : Int)), (da, W.listOf avs'.toArray 0), (db, W.listOf bvs'.toArray 0), (dw, W.listOf wvs.toArray nw), (dl, W.listOf dvs.toArray nn), (L + 1 + 1 + 1 + 1 + 1, o5'), (L + 1 + 1 + 1 + 1, o4'), (L + 1 + 1 + 1, o3'), (L + 1 + 1, o2'), (L + 1, o1')] = R
  have hp9 : ((D, W.listOf lvs.toArray c) :: ([(x, pileO dx [] 0), (dx, pileD w.params q1 q2 ((D1 % 3 : Nat) : Int)), (da, W.listOf avs'.toArray 0), (db, W.listOf bvs'.toArray 0), (dw, W.listOf wvs.toArray nw), (dl, W.listOf dvs.toArray nn)] ++ cellsL L o6' o5' o4' o3' o2' o1')).Perm (nlW x dx D L R [] 0 lvs c o6') := by
    have e : nlW x dx D L R [] 0 lvs c o6' = (x, pileO dx [] 0) :: (D, W.listOf lvs.toArray c) :: (L + 1 + 1 + 1 + 1 + 1 + 1, o6') :: R := by simp [nlW, tnl, pvl]
    rw [e, ← hR]
    exact (List.Perm.swap _ _ _).trans (List.Perm.cons _ (List.Perm.cons _ (List.perm_middle (l₁ := [(dx, pileD w.params q1 q2 ((D1 % 3 : Nat) : Int)), (da, W.listOf avs'.toArray 0), (db, W.listOf bvs'.toArray 0), (dw, W.listOf wvs.toArray nw), (dl, W.listOf dvs.toArray nn)]))))
  have r1 : (L + 1, o1') ∈ R := by rw [← hR]; repeat (first | exact List.mem_cons_self .. | refine List.mem_cons_of_mem _ ?_)
  have r2 : (L + 1 + 1, o2') ∈ R := by rw [← hR]; repeat (first | exact List.mem_cons_self .. | refine List.mem_cons_of_mem _ ?_)
  have r5 : (L + 1 + 1 + 1 + 1 + 1, o5') ∈ R := by rw [← hR]; repeat (first | exact List.mem_cons_self .. | refine List.mem_cons_of_mem _ ?_)
  have rb : (db, W.listOf bvs'.toArray 0) ∈ R := by rw [← hR]; repeat (first | exact List.mem_cons_self .. | refine List.mem_cons_of_mem _ ?_)
  have ra : (da, W.listOf avs'.toArray 0) ∈ R := by rw [← hR]; repeat (first | exact List.mem_cons_self .. | refine List.mem_cons_of_mem _ ?_)
  have rw' : (dw, W.listOf wvs.toArray nw) ∈ R := by rw [← hR]; repeat (first | exact List.mem_cons_self .. | refine List.mem_cons_of_mem _ ?_)
  have rl : (dl, W.listOf dvs.toArray nn) ∈ R := by rw [← hR]; repeat (first | exact List.mem_cons_self .. | refine List.mem_cons_of_mem _ ?_)
  have rdx : (dx, pileD w.params q1 q2 ((D1 % 3 : Nat) : Int)) ∈ R := by rw [← hR]; repeat (first | exact List.mem_cons_self .. | refine List.mem_cons_of_mem _ ?_)
  have nd9' := nd_perm nd9 hp9
  have N9' : News h₀ L h9 (nlW x dx D L R [] 0 lvs c o6') := News.sub N9 fun q hq => hp9.mem_iff.mpr hq
  have hbl : (tabB Ht (Wd * Ht)).length = Wd * Ht := by unfold tabB; rw [tabB_len]; simp
  have hal : (tabA Ht (Wd * Ht)).length = Wd * Ht := by unfold tabA; rw [tabA_len]; simp
  have hwl8 : ∀ x ∈ (List.range (Wd * Ht)).map (fun i => meantV pr Ht (i : Nat)), x.length ≤ 8 := by
    intro y hy
    obtain ⟨i, hi, rfl⟩ := List.mem_map.mp hy
    exact pl_len hdim hpr (List.mem_range.mp hi)
  have hwn : ((List.range (Wd * Ht)).map (fun i => meantV pr Ht (i : Nat))).length = Wd * Ht := by simp
  generalize ((List.range (Wd * Ht)).map fun i => meantV pr Ht (i : Nat)) = wl at hwl5 hwl8 hwn hms
  clear N9 N8 N7 N6 N5 N4 N3 N2 N1 F8 F7 F6 F5 F4 F3 F2 F1 nd9 hR hp9 habx hD9 hx8 hdx8 hlda hldb hab6 hab5 hab4 hcl1 habl
  refine exe_eq eR9 ?_
  refine @st_z17 w h₀ L fa dw da db x dx D cd m9 o5' o6' R bvs' lvs wvs (tabB Ht (Wd * Ht)) (tabA Ht (Wd * Ht)) wl c 0 nw Wd Ht D1 D2 q1 q2 t4 t3 tr te tp t0 mean mg mb _ Q Ra F9 X T B N9' nd9' r5 rb rw' rdx d5' d6' ib7 il9 hbl hn8.1 hwl5 hwn hwl8 (d_ext hdim) hm9 fun ha tka ma its na ca pk ld lva ord o6a tx tea tpa Fa hma Na nda hoka hola horda hita htxa => ?_
  have hitl := hita.len
  have htxl : tx.length ≤ 200 := by
    have e1 : tx.length = tx.cps.toList.length := by simp [Str.length]
    rw [e1, htxa]
    have := tx_len hwl8 hn8.1 hwn horda
    omega
  have hx_in : (x, pileO dx (pvl its) na) ∈ nlW x dx D L R its na lva ca o6a := List.mem_cons_self ..
  have inR : ∀ {q : Addr × Obj}, q ∈ R → q ∈ nlW x dx D L R its na lva ca o6a := fun hq => List.mem_cons_of_mem _ (List.mem_append_left _ (List.mem_cons_of_mem _ (List.mem_cons_of_mem _ hq)))
  refine exe_eq eRa ?_
  refine @st_z18 w h₀ L fa dw da x dx D cd ma (nlW x dx D L R its na lva ca o6a) its #[] #[] na Wd Ht D1 pk tx q1 q2 t4 t3 tr tea tpa mean mg mb _ Q Rb Fa X T B Na hx_in (inR rdx) (fun q hq => List.mem_cons_of_mem _ (List.mem_append_right _ hq)) (by omega) (len_items hita hwl8 hn8.1 hwn horda) CA TA CB TB G (str_ext ((join_items hita).trans htxa.symm)) (by rw [sum_items hita, ← htxa]; simp [Str.length]) htxl hma fun h₂ pa pb mb' sb F2 X2 T2 hm2 N2 RR TA2 CB2 TB2 G2 os2 => ?_
  have B2 : Below callerA h₂ [] h₂ := below_caller _
  refine exe_eq eRb ?_
  refine @st_z19 w h₂ L fa dl dw da x D cd mb' o1' o2' (nlW x dx D L R its na lva ca o6a) dvs ds nn Wd Ht D1 pk tx t4 t2 t3 tr tea tpa mean mg mb _ Q Rc F2 X2 T2 B2 N2 (inR r1) (inR r2) (inR rl) d1' d2' hids hlen hD1 hD1b hdim hm2 fun dh hvs hs ch mc hc tkc Fc hmc Nc hnec ihc hhl hhx hhp => ?_
  refine exe_eq eRc ?_
  refine @st_z2023 w h₂ L fa dh dw da x D cd mc o2' _ hvs hs ch Wd Ht D1 pk tx t4 t2 t3 tr tea tpa mean mg mb _ Q Rd Fc X2 T2 B2 Nc (List.mem_cons_of_mem _ (inR r2)) (List.mem_cons_self ..) d2' ihc hhl hdim hmc fun Th T0 Te Tl Tt md hd tkd Fd hmd Nd' => ?_
  obtain ⟨hid, hlt, hfin⟩ := sim_at hdim hhl hhx hhp
  have hinv := hours_inv hdim hlt hid
  have hinv' : ∀ k, (hours (Wd * Ht) (tabB Ht (Wd * Ht)) (heldF Ht hs (Wd * Ht)) k).h < 2 ^ (Wd * Ht) ∧ isIdeal (Wd * Ht) (tabB Ht (Wd * Ht)) (hours (Wd * Ht) (tabB Ht (Wd * Ht)) (heldF Ht hs (Wd * Ht)) k).h = true := hinv
  have hfin' : finOk Wd Ht (Wd * Ht) (heldF Ht hs (Wd * Ht)) (hours (Wd * Ht) (tabB Ht (Wd * Ht)) (heldF Ht hs (Wd * Ht)) (Wd + Ht)) = true := hfin
  clear hinv hfin hid hlt
  generalize heldF Ht hs (Wd * Ht) = h0 at hinv' hfin' hmd
  have inM : ∀ {q : Addr × Obj}, q ∈ R → q ∈ (D, W.listOf lva.toArray ca) :: (L + 1 + 1 + 1 + 1 + 1 + 1, o6a) :: R := fun hq => List.mem_cons_of_mem _ (List.mem_cons_of_mem _ hq)
  refine exe_eq eRd ?_
  refine @st_z24 w h₂ L fa x dx da db cd md o2' o5' ((D, W.listOf lva.toArray ca) :: (L + 1 + 1 + 1 + 1 + 1 + 1, o6a) :: R) avs' bvs' its na (tabB Ht (Wd * Ht)) (tabA Ht (Wd * Ht)) wl ord q1 q2 _ Wd Ht tx t4 t2 t3 tea h0 Th T0 Te Tl Tt mean mg mb _ Q Re Fd X2 T2 B2 (News.sub Nd' fun q hq => List.mem_cons_of_mem _ hq) nda (inM rdx) (inM r2) d2' (inM r5) (inM rb) (inM ra) d5' ib7 ia7 hbl hal hdim horda hola hita hoka hinv' hmd fun me he tke itse ne The Tee Tle Tte Fe hme Ne hite => ?_
  have hfs : ((hours (Wd * Ht) (tabB Ht (Wd * Ht)) h0 (Wd + Ht)).e ^^^ (hours (Wd * Ht) (tabB Ht (Wd * Ht)) h0 (Wd + Ht)).l = (hours (Wd * Ht) (tabB Ht (Wd * Ht)) h0 (Wd + Ht)).t) ∧ _ ∧ _ ∧ _ ∧ _ := fin_at hfin'
  obtain ⟨f1, f2, f3, f4, f5⟩ := hfs
  generalize hours (Wd * Ht) (tabB Ht (Wd * Ht)) h0 (Wd + Ht) = S at f1 f2 f3 f4 f5 hme
  refine exe_eq eRe ?_
  refine @st_z25 w h₂ L fa x da cd me _ Wd Ht tx t4 t3 tea S.h h0 S.e S.l S.t The T0 Tee Tle Tte mean mg mb _ Q Rf Fe X2 T2 B2 Ne f1 f2 f3 hme fun mf hf tkf Ff hmf Nf => ?_
  refine exe_eq eRf ?_
  refine @st_z26 w h₂ L fa x da cd mf o2' _ Wd Ht tx t4 t2 t3 tea S.h h0 S.e S.l S.t The T0 Tee Tle Tte mean mg mb _ Q Rg Ff X2 T2 B2 Nf (List.mem_cons_of_mem _ (List.mem_append_left _ (inM r2))) d2' hdim f4 hmf fun mg' hg' tkg Fg hmg' Ng => ?_
  refine exe_eq eRg ?_
  refine @st_z27 w h₂ L fa x dx da cd mg' o2' _ itse ne q1 q2 _ pb Wd Ht tx t4 t2 t3 tea S.h h0 S.e S.l S.t The T0 Tee Tle Tte mean mg mb _ Q [] Fg X2 T2 B2 Ng (List.mem_cons_of_mem _ (List.mem_append_left _ (inM r2))) d2' hdim (List.mem_cons_self ..) (List.mem_cons_of_mem _ (List.mem_append_left _ (inM rdx))) (fun q hq => List.mem_cons_of_mem _ (List.mem_append_right _ hq)) (by rw [hite.len]; omega) (len_items hite hwl8 hn8.1 hwn horda) CB2 TB2 G2 (str_ext ((join_items hite).trans htxa.symm)) f5 hmg' fun s' pb' hk tb' gg os' => ?_
  exact hQ s' (oldK_of TA TB RR TA2 hk tb') (os'.trans os2) gg
end Mine
end
section
open PySem PySem.W PyProof.Rows PySem.Spec PySem.Calls PyProof.V PySem.Builtin.Str
namespace Mine
theorem ky_kk {P : Params} {h : Heap} (X : (KY P).In h) : (KK P).In h := fun a o e => X a o (by
  have n1 : a ≠ 105 := by rintro rfl; exact kk105 P o e
  have n2 : a ≠ 112 := by rintro rfl; exact kk112 P o e
  have e1 : (a == 105) = false := by simp [n1]
  have e2 : (a == 112) = false := by simp [n2]
  show List.lookup a (_ :: _ :: KK P) = some o
  rw [List.lookup_cons, List.lookup_cons, e1, e2]
  exact e)
theorem ky_105 {P : Params} {h : Heap} (X : (KY P).In h) : h.get? 105 = some ⟨.none, none, (.fields #[]), #[]⟩ := X _ _ rfl
theorem ky_112 {P : Params} {h : Heap} (X : (KY P).In h) : h.get? 112 = some ⟨.none, none, (.fields #[]), #[]⟩ := X _ _ rfl
theorem code109 {P : Params} {h : Heap} (X : (KK P).In h) (K : h.get? 105 = some ⟨.none, none, (.fields #[]), #[]⟩) : h.IsCode 109 105 #[] := by
  refine ⟨_, _, _, _, _, _, _, _, _, _, X 109 _ rfl, rfl, rfl, rfl, rfl, rfl, rfl, K, rfl, ?_, by decide⟩
  trivial
theorem table109 {P : Params} {h : Heap} (X : (KK P).In h) (K : h.get? 105 = some ⟨.none, none, (.fields #[]), #[]⟩) : h.TableAt 109 105 #[] := by
  exact ⟨⟨_, _, X 109 _ rfl, rfl, rfl, rfl⟩, K⟩
theorem code116 {P : Params} {h : Heap} (X : (KK P).In h) (K : h.get? 112 = some ⟨.none, none, (.fields #[]), #[]⟩) : h.IsCode 116 112 #[] := by
  refine ⟨_, _, _, _, _, _, _, _, _, _, X 116 _ rfl, rfl, rfl, rfl, rfl, rfl, rfl, K, rfl, ?_, by decide⟩
  trivial
theorem table116 {P : Params} {h : Heap} (X : (KK P).In h) (K : h.get? 112 = some ⟨.none, none, (.fields #[]), #[]⟩) : h.TableAt 116 112 #[] := by
  exact ⟨⟨_, _, X 116 _ rfl, rfl, rfl, rfl⟩, K⟩
theorem walk : WalkO vw loos (XL vw []) hkK.says rwO.toRowW { name := Str.ofString "law", params := bA21, body := bB21, scope := bS21, pos := ⟨109, 0, 200, 80⟩ } [] fun f vs => PySem.call f vs := by
  intro w s₀ s₁ mg mb G Y fa o pm cd doc dV kV ho hd hcd hD hmg hg args vals as hpre hlay hrd hwl hlo
  have KX := kIn_of Y
  have K1 := ky_105 KX
  have K2 := ky_112 KX
  have KZ := ky_kk KX
  clear KX
  have X := (Ground.X G).1
  refine Ground.open G ?_
  intro T B D TE TW
  try (refine guard_noD D (by decide +kernel) ?_; clear D)
  obtain ⟨_, _, M⟩ := bmod_of_top T
  have TA := at_of_top T
  obtain ⟨_, _, he, B0⟩ := based_of_top T rfl hmg ho hd
  have he' : cd = _ := he
  subst he'
  clear he hmg
  wrow_args hpre hlay hrd hwl hlo
  all_goals (
    first | refine callC_kw (enter_call ?_) | refine enter_call ?_ | refine callC_kw (enter_callW ?_) | refine enter_callW ?_ | w_how
    w_top on
    have K0 := below_caller (Top.heap T)
    w_call any ho hd hcd hD T F
    clear hd TA
    k_drop
    skip)
  rename News _ _ _ _ => N0
  rename IntsAre _ _ => hI
  rename Heap.IsList _ _ _ => hL
  rename ¬ _ => hlen
  refine wpAny_mono (E := NoE) ?main (fun _ _ h => h) (fun _ _ e => e.elim)
  show wpAny (model pw w) (LAr s₁.heap.objs.size fa _) (execs bB21 (LE s₁.heap.objs.size fa _)) _ NoE _
  rw [law_body_eq]
  rename_i h1 tk1 o6 o5 o4 o3 o2 o1 e6 e5 e4 e3 e2 e1 X0
  refine @law_walk w s₁.heap s₁.heap.objs.size fa _ _ _ o1 o2 o3 o4 o5 o6 _ mg mb _ _ [z2, z3, z4, z5, z6, z7, z8, z9, z10, z11, z12, z13, z14, z15, z16, z17, z18, z19, z20, z21, z22, z23, z24, z25, z26, z27] [z3, z4, z5, z6, z7, z8, z9, z10, z11, z12, z13, z14, z15, z16, z17, z18, z19, z20, z21, z22, z23, z24, z25, z26, z27] [z5, z6, z7, z8, z9, z10, z11, z12, z13, z14, z15, z16, z17, z18, z19, z20, z21, z22, z23, z24, z25, z26, z27] [z6, z7, z8, z9, z10, z11, z12, z13, z14, z15, z16, z17, z18, z19, z20, z21, z22, z23, z24, z25, z26, z27] [z8, z9, z10, z11, z12, z13, z14, z15, z16, z17, z18, z19, z20, z21, z22, z23, z24, z25, z26, z27] [z10, z11, z12, z13, z14, z15, z16, z17, z18, z19, z20, z21, z22, z23, z24, z25, z26, z27] [z11, z12, z13, z14, z15, z16, z17, z18, z19, z20, z21, z22, z23, z24, z25, z26, z27] [z13, z14, z15, z16, z17, z18, z19, z20, z21, z22, z23, z24, z25, z26, z27] [z17, z18, z19, z20, z21, z22, z23, z24, z25, z26, z27] [z18, z19, z20, z21, z22, z23, z24, z25, z26, z27] [z19, z20, z21, z22, z23, z24, z25, z26, z27] [z20, z21, z22, z23, z24, z25, z26, z27] [z24, z25, z26, z27] [z25, z26, z27] [z26, z27] [z27] rfl rfl rfl rfl rfl rfl rfl rfl rfl rfl rfl rfl rfl rfl rfl rfl F KZ T N0 rfl _ _ hL hI (by omega) e1 e2 e3 e4 e5 e6 (below_caller _) (code109 KZ K1) (table109 KZ K1) (code116 KZ K2) (table116 KZ K2) ?_ fun s' ho hos hg' => ?_
  · exact .of_eq hg
  · refine ⟨.inl ⟨.bool true, .bool true, [], rfl, ?_, .bool _, ?_, ?_⟩, ho, hos, hg'⟩
    · first | exact raisesW_false (by wrow_none_raised) | exact fun _ => rfl
    · first | rfl | exact postW_of (by wrow_shape) (by wtm_val) (by w_fin)
    · first | exact unshared_nil | exact fun h => absurd h (by decide)
theorem fin_all : PySem.Challenge.rw_wr0046_01.Holds := hd0 prom walk
end Mine
end
theorem PySem.Challenge.cw_wr0046_01_holds : PySem.Challenge.rw_wr0046_01.Holds :=
  Mine.fin_all
