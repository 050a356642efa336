import PyProof.Rows.All
import Wide.All
import OpenK.AllK
import Wide.FinOn
import Open.Tops
import Lean
import PySem.Challenge.RW_to0071_01
open PySem PySem.W PyProof.Rows
set_option maxRecDepth 100000
set_option Elab.async false
set_option linter.all false
set_option maxHeartbeats 0
namespace Mine
open PySem PySem.W
noncomputable abbrev prg : Program := PySem.Challenge.pw_to0071_01
noncomputable def stAt (i : Nat) : Stmt := (prg.main.body[i]?).getD default
noncomputable def bodyOf : Stmt → List Stmt
  | .ClassDef _ _ _ b .. => b
  | .FunctionDef _ _ b .. => b
  | _ => []
noncomputable def inCls (i : Nat) : Stmt := ((bodyOf (stAt 10))[i]?).getD default
noncomputable def dictOfStmt : Stmt → List (Option Expr) × List Expr
  | .Assign _ (.Dict ks vs _) _ => (ks, vs)
  | _ => ([], [])
noncomputable def keyOf : Option Expr → Int
  | some (.Constant (.int k) ..) => k
  | _ => 0
noncomputable def valOf : Expr → Str
  | .Constant (.str s) .. => s
  | _ => Str.empty
noncomputable def b3pairs : List (Int × Str) := ((dictOfStmt (stAt 14)).1.zip (dictOfStmt (stAt 14)).2).map fun x => (keyOf x.1, valOf x.2)
noncomputable def b3tok (i : Nat) : Nat := if i < 646 then 386 + 3 * i else 2324 + 2 * (i - 646)
noncomputable def b3from : Nat → List (Int × Str) → List DictEntry
  | _, [] => []
  | i, (k, s) :: r => ⟨k, .int k (b3tok i), .str s (b3tok i + 1)⟩ :: b3from (i + 1) r
noncomputable def b3entries : List DictEntry := b3from 0 b3pairs

noncomputable def K : Params → Frag :=
  (fun (a21 : Arguments) (b21 : List Stmt) (s21 : Scope) (n21 : Str) (d21 : List Expr) (r21 : Option Expr) (t21 : List TypeParam) (u21 : Option Scope) (w21 : Str) (p21 : Pos) (_ : stAt 0 = Stmt.FunctionDef n21 a21 b21 d21 r21 t21 s21 u21 w21 p21) (a29 : Arguments) (b29 : List Stmt) (s29 : Scope) (n29 : Str) (d29 : List Expr) (r29 : Option Expr) (t29 : List TypeParam) (u29 : Option Scope) (w29 : Str) (p29 : Pos) (_ : stAt 2 = Stmt.FunctionDef n29 a29 b29 d29 r29 t29 s29 u29 w29 p29) (a36 : Arguments) (b36 : List Stmt) (s36 : Scope) (n36 : Str) (d36 : List Expr) (r36 : Option Expr) (t36 : List TypeParam) (u36 : Option Scope) (w36 : Str) (p36 : Pos) (_ : stAt 3 = Stmt.FunctionDef n36 a36 b36 d36 r36 t36 s36 u36 w36 p36) (a43 : Arguments) (b43 : List Stmt) (s43 : Scope) (n43 : Str) (d43 : List Expr) (r43 : Option Expr) (t43 : List TypeParam) (u43 : Option Scope) (w43 : Str) (p43 : Pos) (_ : stAt 4 = Stmt.FunctionDef n43 a43 b43 d43 r43 t43 s43 u43 w43 p43) (a50 : Arguments) (b50 : List Stmt) (s50 : Scope) (n50 : Str) (d50 : List Expr) (r50 : Option Expr) (t50 : List TypeParam) (u50 : Option Scope) (w50 : Str) (p50 : Pos) (_ : stAt 8 = Stmt.FunctionDef n50 a50 b50 d50 r50 t50 s50 u50 w50 p50) (a64 : Arguments) (b64 : List Stmt) (s64 : Scope) (n64 : Str) (d64 : List Expr) (r64 : Option Expr) (t64 : List TypeParam) (u64 : Option Scope) (w64 : Str) (p64 : Pos) (_ : inCls 0 = Stmt.FunctionDef n64 a64 b64 d64 r64 t64 s64 u64 w64 p64) (a71 : Arguments) (b71 : List Stmt) (s71 : Scope) (n71 : Str) (d71 : List Expr) (r71 : Option Expr) (t71 : List TypeParam) (u71 : Option Scope) (w71 : Str) (p71 : Pos) (_ : inCls 1 = Stmt.FunctionDef n71 a71 b71 d71 r71 t71 s71 u71 w71 p71) (a78 : Arguments) (b78 : List Stmt) (s78 : Scope) (n78 : Str) (d78 : List Expr) (r78 : Option Expr) (t78 : List TypeParam) (u78 : Option Scope) (w78 : Str) (p78 : Pos) (_ : inCls 2 = Stmt.FunctionDef n78 a78 b78 d78 r78 t78 s78 u78 w78 p78) (a85 : Arguments) (b85 : List Stmt) (s85 : Scope) (n85 : Str) (d85 : List Expr) (r85 : Option Expr) (t85 : List TypeParam) (u85 : Option Scope) (w85 : Str) (p85 : Pos) (_ : inCls 3 = Stmt.FunctionDef n85 a85 b85 d85 r85 t85 s85 u85 w85 p85) (a110 : Arguments) (b110 : List Stmt) (s110 : Scope) (n110 : Str) (d110 : List Expr) (r110 : Option Expr) (t110 : List TypeParam) (u110 : Option Scope) (w110 : Str) (p110 : Pos) (_ : stAt 13 = Stmt.FunctionDef n110 a110 b110 d110 r110 t110 s110 u110 w110 p110) (a156 : Arguments) (b156 : List Stmt) (s156 : Scope) (n156 : Str) (d156 : List Expr) (r156 : Option Expr) (t156 : List TypeParam) (u156 : Option Scope) (w156 : Str) (p156 : Pos) (_ : stAt 15 = Stmt.FunctionDef n156 a156 b156 d156 r156 t156 s156 u156 w156 p156) (a161 : Arguments) (b161 : List Stmt) (s161 : Scope) (n161 : Str) (d161 : List Expr) (r161 : Option Expr) (t161 : List TypeParam) (u161 : Option Scope) (w161 : Str) (p161 : Pos) (_ : stAt 17 = Stmt.FunctionDef n161 a161 b161 d161 r161 t161 s161 u161 w161 p161) (a168 : Arguments) (b168 : List Stmt) (s168 : Scope) (n168 : Str) (d168 : List Expr) (r168 : Option Expr) (t168 : List TypeParam) (u168 : Option Scope) (w168 : Str) (p168 : Pos) (_ : stAt 18 = Stmt.FunctionDef n168 a168 b168 d168 r168 t168 s168 u168 w168 p168) (a175 : Arguments) (b175 : List Stmt) (s175 : Scope) (n175 : Str) (d175 : List Expr) (r175 : Option Expr) (t175 : List TypeParam) (u175 : Option Scope) (w175 : Str) (p175 : Pos) (_ : stAt 19 = Stmt.FunctionDef n175 a175 b175 d175 r175 t175 s175 u175 w175 p175) (a182 : Arguments) (b182 : List Stmt) (s182 : Scope) (n182 : Str) (d182 : List Expr) (r182 : Option Expr) (t182 : List TypeParam) (u182 : Option Scope) (w182 : Str) (p182 : Pos) (_ : stAt 20 = Stmt.FunctionDef n182 a182 b182 d182 r182 t182 s182 u182 w182 p182) (a187 : Arguments) (b187 : List Stmt) (s187 : Scope) (n187 : Str) (d187 : List Expr) (r187 : Option Expr) (t187 : List TypeParam) (u187 : Option Scope) (w187 : Str) (p187 : Pos) (_ : stAt 21 = Stmt.FunctionDef n187 a187 b187 d187 r187 t187 s187 u187 w187 p187) (a194 : Arguments) (b194 : List Stmt) (s194 : Scope) (n194 : Str) (d194 : List Expr) (r194 : Option Expr) (t194 : List TypeParam) (u194 : Option Scope) (w194 : Str) (p194 : Pos) (_ : stAt 22 = Stmt.FunctionDef n194 a194 b194 d194 r194 t194 s194 u194 w194 p194) (a199 : Arguments) (b199 : List Stmt) (s199 : Scope) (n199 : Str) (d199 : List Expr) (r199 : Option Expr) (t199 : List TypeParam) (u199 : Option Scope) (w199 : Str) (p199 : Pos) (_ : stAt 23 = Stmt.FunctionDef n199 a199 b199 d199 r199 t199 s199 u199 w199 p199) (a206 : Arguments) (b206 : List Stmt) (s206 : Scope) (n206 : Str) (d206 : List Expr) (r206 : Option Expr) (t206 : List TypeParam) (u206 : Option Scope) (w206 : Str) (p206 : Pos) (_ : stAt 24 = Stmt.FunctionDef n206 a206 b206 d206 r206 t206 s206 u206 w206 p206) (a211 : Arguments) (b211 : List Stmt) (s211 : Scope) (n211 : Str) (d211 : List Expr) (r211 : Option Expr) (t211 : List TypeParam) (u211 : Option Scope) (w211 : Str) (p211 : Pos) (_ : stAt 25 = Stmt.FunctionDef n211 a211 b211 d211 r211 t211 s211 u211 w211 p211) (a218 : Arguments) (b218 : List Stmt) (s218 : Scope) (n218 : Str) (d218 : List Expr) (r218 : Option Expr) (t218 : List TypeParam) (u218 : Option Scope) (w218 : Str) (p218 : Pos) (_ : stAt 26 = Stmt.FunctionDef n218 a218 b218 d218 r218 t218 s218 u218 w218 p218) (a225 : Arguments) (b225 : List Stmt) (s225 : Scope) (n225 : Str) (d225 : List Expr) (r225 : Option Expr) (t225 : List TypeParam) (u225 : Option Scope) (w225 : Str) (p225 : Pos) (_ : stAt 27 = Stmt.FunctionDef n225 a225 b225 d225 r225 t225 s225 u225 w225 p225) (a230 : Arguments) (b230 : List Stmt) (s230 : Scope) (n230 : Str) (d230 : List Expr) (r230 : Option Expr) (t230 : List TypeParam) (u230 : Option Scope) (w230 : Str) (p230 : Pos) (_ : stAt 28 = Stmt.FunctionDef n230 a230 b230 d230 r230 t230 s230 u230 w230 p230) =>
  fun P =>
    (nat_lit 2, ⟨PySem.Value.none, none, (PySem.Data.dict #[] 0), #[]⟩) ::
    (nat_lit 3, ⟨(PySem.Value.type "dict"), none, (PySem.Data.dict #[⟨PySem.PyData.keyHash P (PySem.Str.ofString "__name__"), (PySem.Value.str (PySem.Str.ofString "__name__") 165), (PySem.Value.str (PySem.Str.ofString "law_to0071_01") 2345)⟩, ⟨PySem.PyData.keyHash P (PySem.Str.ofString "__doc__"), (PySem.Value.str (PySem.Str.ofString "__doc__") 166), PySem.Value.none⟩, ⟨PySem.PyData.keyHash P (PySem.Str.ofString "__package__"), (PySem.Value.str (PySem.Str.ofString "__package__") 167), PySem.Value.none⟩, ⟨PySem.PyData.keyHash P (PySem.Str.ofString "__loader__"), (PySem.Value.str (PySem.Str.ofString "__loader__") 168), (PySem.Value.builtin "__main__.__loader__#opaque")⟩, ⟨PySem.PyData.keyHash P (PySem.Str.ofString "__spec__"), (PySem.Value.str (PySem.Str.ofString "__spec__") 169), PySem.Value.none⟩, ⟨PySem.PyData.keyHash P (PySem.Str.ofString "__annotations__"), (PySem.Value.str (PySem.Str.ofString "__annotations__") 170), (PySem.Value.ref 6)⟩, ⟨PySem.PyData.keyHash P (PySem.Str.ofString "__builtins__"), (PySem.Value.str (PySem.Str.ofString "__builtins__") 171), (PySem.Value.ref 4)⟩, ⟨PySem.PyData.keyHash P (PySem.Str.ofString "__file__"), (PySem.Value.str (PySem.Str.ofString "__file__") 173), (PySem.Value.str (PySem.Str.ofString "/claim/cut.py") 172)⟩, ⟨PySem.PyData.keyHash P (PySem.Str.ofString "__cached__"), (PySem.Value.str (PySem.Str.ofString "__cached__") 174), PySem.Value.none⟩, ⟨PySem.PyData.keyHash P (PySem.Str.ofString "_wall"), (PySem.Value.str (PySem.Str.ofString "_wall") 193), (PySem.Value.ref 21)⟩, ⟨PySem.PyData.keyHash P (PySem.Str.ofString "compute_powers"), (PySem.Value.str (PySem.Str.ofString "compute_powers") 215), (PySem.Value.ref 29)⟩, ⟨PySem.PyData.keyHash P (PySem.Str.ofString "_int2digits"), (PySem.Value.str (PySem.Str.ofString "_int2digits") 226), (PySem.Value.ref 36)⟩, ⟨PySem.PyData.keyHash P (PySem.Str.ofString "_digits2int"), (PySem.Value.str (PySem.Str.ofString "_digits2int") 237), (PySem.Value.ref 43)⟩, ⟨PySem.PyData.keyHash P (PySem.Str.ofString "ONE_SIXTH"), (PySem.Value.str (PySem.Str.ofString "ONE_SIXTH") 243), (PySem.Value.float 4595172819793696085 242)⟩, ⟨PySem.PyData.keyHash P (PySem.Str.ofString "TWO_THIRD"), (PySem.Value.str (PySem.Str.ofString "TWO_THIRD") 247), (PySem.Value.float 4604180019048437077 246)⟩, ⟨PySem.PyData.keyHash P (PySem.Str.ofString "_v"), (PySem.Value.str (PySem.Str.ofString "_v") 256), (PySem.Value.ref 50)⟩, ⟨PySem.PyData.keyHash P (PySem.Str.ofString "_netrclex"), (PySem.Value.str (PySem.Str.ofString "_netrclex") 316), (PySem.Value.ref 88)⟩, ⟨PySem.PyData.keyHash P (PySem.Str.ofString "b1_set"), (PySem.Value.str (PySem.Str.ofString "b1_set") 378), (PySem.Value.ref 100)⟩, ⟨PySem.PyData.keyHash P (PySem.Str.ofString "in_table_b1"), (PySem.Value.str (PySem.Str.ofString "in_table_b1") 385), (PySem.Value.ref 110)⟩, ⟨PySem.PyData.keyHash P (PySem.Str.ofString "b3_exceptions"), (PySem.Value.str (PySem.Str.ofString "b3_exceptions") 2336), (PySem.Value.ref 111)⟩, ⟨PySem.PyData.keyHash P (PySem.Str.ofString "map_table_b3"), (PySem.Value.str (PySem.Str.ofString "map_table_b3") 2344), (PySem.Value.ref 156)⟩, ⟨PySem.PyData.keyHash P (PySem.Str.ofString "_law_draws"), (PySem.Value.str (PySem.Str.ofString "_law_draws") 2352), (PySem.Value.ref 161)⟩, ⟨PySem.PyData.keyHash P (PySem.Str.ofString "_law_day"), (PySem.Value.str (PySem.Str.ofString "_law_day") 2361), (PySem.Value.ref 168)⟩, ⟨PySem.PyData.keyHash P (PySem.Str.ofString "_law_word"), (PySem.Value.str (PySem.Str.ofString "_law_word") 2373), (PySem.Value.ref 175)⟩, ⟨PySem.PyData.keyHash P (PySem.Str.ofString "_law_machine"), (PySem.Value.str (PySem.Str.ofString "_law_machine") 2384), (PySem.Value.ref 182)⟩, ⟨PySem.PyData.keyHash P (PySem.Str.ofString "_law_read"), (PySem.Value.str (PySem.Str.ofString "_law_read") 2390), (PySem.Value.ref 187)⟩, ⟨PySem.PyData.keyHash P (PySem.Str.ofString "_law_counts"), (PySem.Value.str (PySem.Str.ofString "_law_counts") 2399), (PySem.Value.ref 194)⟩, ⟨PySem.PyData.keyHash P (PySem.Str.ofString "_law_trader"), (PySem.Value.str (PySem.Str.ofString "_law_trader") 2405), (PySem.Value.ref 199)⟩, ⟨PySem.PyData.keyHash P (PySem.Str.ofString "_law_kept"), (PySem.Value.str (PySem.Str.ofString "_law_kept") 2416), (PySem.Value.ref 206)⟩, ⟨PySem.PyData.keyHash P (PySem.Str.ofString "_law_sum"), (PySem.Value.str (PySem.Str.ofString "_law_sum") 2422), (PySem.Value.ref 211)⟩, ⟨PySem.PyData.keyHash P (PySem.Str.ofString "_law_holds"), (PySem.Value.str (PySem.Str.ofString "_law_holds") 2436), (PySem.Value.ref 218)⟩, ⟨PySem.PyData.keyHash P (PySem.Str.ofString "_law_rival"), (PySem.Value.str (PySem.Str.ofString "_law_rival") 2451), (PySem.Value.ref 225)⟩, ⟨PySem.PyData.keyHash P (PySem.Str.ofString "law"), (PySem.Value.str (PySem.Str.ofString "law") 2457), (PySem.Value.ref 230)⟩] 33), #[]⟩) ::
    (nat_lit 15, ⟨(PySem.Value.type "tuple"), none, (PySem.Data.seq #[] 0), #[]⟩) ::
    (nat_lit 17, ⟨(PySem.Value.type "tuple"), none, (PySem.Data.seq #[(PySem.Value.str (PySem.Str.ofString "k") 190)] 0), #[]⟩) ::
    (nat_lit 18, ⟨(PySem.Value.type "tuple"), none, (PySem.Data.seq #[] 0), #[]⟩) ::
    (nat_lit 20, ⟨(PySem.Value.type "code"), none, (PySem.Data.fields #[(PySem.Value.str (PySem.Str.ofString "_wall") 187), (PySem.Value.str (PySem.Str.ofString "_wall") 188), (PySem.Value.str (PySem.Str.ofString "/claim/cut.py") 189), (PySem.Value.int (1) 0), (PySem.Value.int (1) 0), (PySem.Value.int (0) 0), (PySem.Value.int (0) 0), (PySem.Value.int (3) 0), (PySem.Value.ref 15), (PySem.Value.bool true), (PySem.Value.int (181) 0), (PySem.Value.ref 16), PySem.Value.none, (PySem.Value.ref 17), (PySem.Value.ref 18), (PySem.Value.ref 19), (PySem.Value.int (191) 0), (PySem.Value.int (1) 0), (PySem.Value.str (PySem.Str.ofString "/claim/cut.py") 192)]), #[]⟩) ::
    (nat_lit 21, ⟨(PySem.Value.type "function"), none, (PySem.Data.func ⟨(PySem.Str.ofString "_wall"), (PySem.Str.ofString "_wall"), a21, PySem.FuncBody.stmts b21, s21, 3, [], PySem.Value.none, PySem.Value.none, PySem.Value.none, (PySem.Value.str (PySem.Str.ofString "__main__") 164), none, (PySem.Value.ref 20), PySem.Value.none, 0⟩), #[]⟩) ::
    (nat_lit 22, ⟨(PySem.Value.type "tuple"), none, (PySem.Data.seq #[(PySem.Value.bool false)] 0), #[]⟩) ::
    (nat_lit 23, ⟨(PySem.Value.type "tuple"), none, (PySem.Data.seq #[] 0), #[]⟩) ::
    (nat_lit 25, ⟨(PySem.Value.type "tuple"), none, (PySem.Data.seq #[(PySem.Value.str (PySem.Str.ofString "w") 199), (PySem.Value.str (PySem.Str.ofString "base") 200), (PySem.Value.str (PySem.Str.ofString "more_than") 201), (PySem.Value.str (PySem.Str.ofString "show") 202), (PySem.Value.str (PySem.Str.ofString "seen") 203), (PySem.Value.str (PySem.Str.ofString "need") 204), (PySem.Value.str (PySem.Str.ofString "ws") 205), (PySem.Value.str (PySem.Str.ofString "lo") 206), (PySem.Value.str (PySem.Str.ofString "d") 207), (PySem.Value.str (PySem.Str.ofString "it") 208), (PySem.Value.str (PySem.Str.ofString "first") 209), (PySem.Value.str (PySem.Str.ofString "this") 210), (PySem.Value.str (PySem.Str.ofString "hi") 211), (PySem.Value.str (PySem.Str.ofString "sq") 212)] 0), #[]⟩) ::
    (nat_lit 26, ⟨(PySem.Value.type "tuple"), none, (PySem.Data.seq #[] 0), #[]⟩) ::
    (nat_lit 28, ⟨(PySem.Value.type "code"), none, (PySem.Data.fields #[(PySem.Value.str (PySem.Str.ofString "compute_powers") 196), (PySem.Value.str (PySem.Str.ofString "compute_powers") 197), (PySem.Value.str (PySem.Str.ofString "/claim/cut.py") 198), (PySem.Value.int (5) 0), (PySem.Value.int (4) 0), (PySem.Value.int (0) 0), (PySem.Value.int (0) 0), (PySem.Value.int (3) 0), (PySem.Value.ref 23), (PySem.Value.bool true), (PySem.Value.int (181) 0), (PySem.Value.ref 24), PySem.Value.none, (PySem.Value.ref 25), (PySem.Value.ref 26), (PySem.Value.ref 27), (PySem.Value.int (213) 0), (PySem.Value.int (5) 0), (PySem.Value.str (PySem.Str.ofString "/claim/cut.py") 214)]), #[]⟩) ::
    (nat_lit 29, ⟨(PySem.Value.type "function"), none, (PySem.Data.func ⟨(PySem.Str.ofString "compute_powers"), (PySem.Str.ofString "compute_powers"), a29, PySem.FuncBody.stmts b29, s29, 3, [], (PySem.Value.ref 22), PySem.Value.none, PySem.Value.none, (PySem.Value.str (PySem.Str.ofString "cpy313._pylong") 194), none, (PySem.Value.ref 28), PySem.Value.none, 0⟩), #[]⟩) ::
    (nat_lit 30, ⟨(PySem.Value.type "tuple"), none, (PySem.Data.seq #[] 0), #[]⟩) ::
    (nat_lit 32, ⟨(PySem.Value.type "tuple"), none, (PySem.Data.seq #[(PySem.Value.str (PySem.Str.ofString "a") 219), (PySem.Value.str (PySem.Str.ofString "n") 220)] 0), #[]⟩) ::
    (nat_lit 33, ⟨(PySem.Value.type "tuple"), none, (PySem.Data.seq #[(PySem.Value.str (PySem.Str.ofString "n") 221), (PySem.Value.str (PySem.Str.ofString "a_digits") 222), (PySem.Value.str (PySem.Str.ofString "inner") 223)] 0), #[]⟩) ::
    (nat_lit 35, ⟨(PySem.Value.type "code"), none, (PySem.Data.fields #[(PySem.Value.str (PySem.Str.ofString "_int2digits") 216), (PySem.Value.str (PySem.Str.ofString "_int2digits") 217), (PySem.Value.str (PySem.Str.ofString "/claim/cut.py") 218), (PySem.Value.int (46) 0), (PySem.Value.int (2) 0), (PySem.Value.int (0) 0), (PySem.Value.int (0) 0), (PySem.Value.int (3) 0), (PySem.Value.ref 30), (PySem.Value.bool true), (PySem.Value.int (181) 0), (PySem.Value.ref 31), PySem.Value.none, (PySem.Value.ref 32), (PySem.Value.ref 33), (PySem.Value.ref 34), (PySem.Value.int (224) 0), (PySem.Value.int (46) 0), (PySem.Value.str (PySem.Str.ofString "/claim/cut.py") 225)]), #[]⟩) ::
    (nat_lit 36, ⟨(PySem.Value.type "function"), none, (PySem.Data.func ⟨(PySem.Str.ofString "_int2digits"), (PySem.Str.ofString "_int2digits"), a36, PySem.FuncBody.stmts b36, s36, 3, [], PySem.Value.none, PySem.Value.none, PySem.Value.none, (PySem.Value.str (PySem.Str.ofString "cpy313._pylong") 194), none, (PySem.Value.ref 35), PySem.Value.none, 0⟩), #[]⟩) ::
    (nat_lit 37, ⟨(PySem.Value.type "tuple"), none, (PySem.Data.seq #[] 0), #[]⟩) ::
    (nat_lit 39, ⟨(PySem.Value.type "tuple"), none, (PySem.Data.seq #[(PySem.Value.str (PySem.Str.ofString "digits") 230), (PySem.Value.str (PySem.Str.ofString "n") 231)] 0), #[]⟩) ::
    (nat_lit 40, ⟨(PySem.Value.type "tuple"), none, (PySem.Data.seq #[(PySem.Value.str (PySem.Str.ofString "digits") 232), (PySem.Value.str (PySem.Str.ofString "n") 233), (PySem.Value.str (PySem.Str.ofString "inner") 234)] 0), #[]⟩) ::
    (nat_lit 42, ⟨(PySem.Value.type "code"), none, (PySem.Data.fields #[(PySem.Value.str (PySem.Str.ofString "_digits2int") 227), (PySem.Value.str (PySem.Str.ofString "_digits2int") 228), (PySem.Value.str (PySem.Str.ofString "/claim/cut.py") 229), (PySem.Value.int (62) 0), (PySem.Value.int (2) 0), (PySem.Value.int (0) 0), (PySem.Value.int (0) 0), (PySem.Value.int (3) 0), (PySem.Value.ref 37), (PySem.Value.bool true), (PySem.Value.int (181) 0), (PySem.Value.ref 38), PySem.Value.none, (PySem.Value.ref 39), (PySem.Value.ref 40), (PySem.Value.ref 41), (PySem.Value.int (235) 0), (PySem.Value.int (62) 0), (PySem.Value.str (PySem.Str.ofString "/claim/cut.py") 236)]), #[]⟩) ::
    (nat_lit 43, ⟨(PySem.Value.type "function"), none, (PySem.Data.func ⟨(PySem.Str.ofString "_digits2int"), (PySem.Str.ofString "_digits2int"), a43, PySem.FuncBody.stmts b43, s43, 3, [], PySem.Value.none, PySem.Value.none, PySem.Value.none, (PySem.Value.str (PySem.Str.ofString "cpy313._pylong") 194), none, (PySem.Value.ref 42), PySem.Value.none, 0⟩), #[]⟩) ::
    (nat_lit 44, ⟨(PySem.Value.type "tuple"), none, (PySem.Data.seq #[] 0), #[]⟩) ::
    (nat_lit 46, ⟨(PySem.Value.type "tuple"), none, (PySem.Data.seq #[(PySem.Value.str (PySem.Str.ofString "m1") 251), (PySem.Value.str (PySem.Str.ofString "m2") 252), (PySem.Value.str (PySem.Str.ofString "hue") 253)] 0), #[]⟩) ::
    (nat_lit 47, ⟨(PySem.Value.type "tuple"), none, (PySem.Data.seq #[] 0), #[]⟩) ::
    (nat_lit 49, ⟨(PySem.Value.type "code"), none, (PySem.Data.fields #[(PySem.Value.str (PySem.Str.ofString "_v") 248), (PySem.Value.str (PySem.Str.ofString "_v") 249), (PySem.Value.str (PySem.Str.ofString "/claim/cut.py") 250), (PySem.Value.int (74) 0), (PySem.Value.int (3) 0), (PySem.Value.int (0) 0), (PySem.Value.int (0) 0), (PySem.Value.int (3) 0), (PySem.Value.ref 44), (PySem.Value.bool true), (PySem.Value.int (181) 0), (PySem.Value.ref 45), PySem.Value.none, (PySem.Value.ref 46), (PySem.Value.ref 47), (PySem.Value.ref 48), (PySem.Value.int (254) 0), (PySem.Value.int (74) 0), (PySem.Value.str (PySem.Str.ofString "/claim/cut.py") 255)]), #[]⟩) ::
    (nat_lit 50, ⟨(PySem.Value.type "function"), none, (PySem.Data.func ⟨(PySem.Str.ofString "_v"), (PySem.Str.ofString "_v"), a50, PySem.FuncBody.stmts b50, s50, 3, [], PySem.Value.none, PySem.Value.none, PySem.Value.none, (PySem.Value.str (PySem.Str.ofString "cpy313.colorsys") 238), none, (PySem.Value.ref 49), PySem.Value.none, 0⟩), #[]⟩) ::
    (nat_lit 58, ⟨(PySem.Value.type "tuple"), none, (PySem.Data.seq #[] 0), #[]⟩) ::
    (nat_lit 60, ⟨(PySem.Value.type "tuple"), none, (PySem.Data.seq #[(PySem.Value.str (PySem.Str.ofString "self") 274), (PySem.Value.str (PySem.Str.ofString "fp") 275)] 0), #[]⟩) ::
    (nat_lit 61, ⟨(PySem.Value.type "tuple"), none, (PySem.Data.seq #[] 0), #[]⟩) ::
    (nat_lit 63, ⟨(PySem.Value.type "code"), none, (PySem.Data.fields #[(PySem.Value.str (PySem.Str.ofString "__init__") 271), (PySem.Value.str (PySem.Str.ofString "_netrclex.__init__") 272), (PySem.Value.str (PySem.Str.ofString "/claim/cut.py") 273), (PySem.Value.int (86) 0), (PySem.Value.int (2) 0), (PySem.Value.int (0) 0), (PySem.Value.int (0) 0), (PySem.Value.int (3) 0), (PySem.Value.ref 58), (PySem.Value.bool true), (PySem.Value.int (181) 0), (PySem.Value.ref 59), PySem.Value.none, (PySem.Value.ref 60), (PySem.Value.ref 61), (PySem.Value.ref 62), (PySem.Value.int (276) 0), (PySem.Value.int (86) 0), (PySem.Value.str (PySem.Str.ofString "/claim/cut.py") 277)]), #[]⟩) ::
    (nat_lit 64, ⟨(PySem.Value.type "function"), none, (PySem.Data.func ⟨(PySem.Str.ofString "__init__"), (PySem.Str.ofString "_netrclex.__init__"), a64, PySem.FuncBody.stmts b64, s64, 3, [], PySem.Value.none, PySem.Value.none, PySem.Value.none, (PySem.Value.str (PySem.Str.ofString "cpy313.netrc") 257), none, (PySem.Value.ref 63), PySem.Value.none, 0⟩), #[]⟩) ::
    (nat_lit 65, ⟨(PySem.Value.type "tuple"), none, (PySem.Data.seq #[] 0), #[]⟩) ::
    (nat_lit 67, ⟨(PySem.Value.type "tuple"), none, (PySem.Data.seq #[(PySem.Value.str (PySem.Str.ofString "self") 282), (PySem.Value.str (PySem.Str.ofString "ch") 283)] 0), #[]⟩) ::
    (nat_lit 68, ⟨(PySem.Value.type "tuple"), none, (PySem.Data.seq #[] 0), #[]⟩) ::
    (nat_lit 70, ⟨(PySem.Value.type "code"), none, (PySem.Data.fields #[(PySem.Value.str (PySem.Str.ofString "_read_char") 279), (PySem.Value.str (PySem.Str.ofString "_netrclex._read_char") 280), (PySem.Value.str (PySem.Str.ofString "/claim/cut.py") 281), (PySem.Value.int (92) 0), (PySem.Value.int (1) 0), (PySem.Value.int (0) 0), (PySem.Value.int (0) 0), (PySem.Value.int (3) 0), (PySem.Value.ref 65), (PySem.Value.bool true), (PySem.Value.int (181) 0), (PySem.Value.ref 66), PySem.Value.none, (PySem.Value.ref 67), (PySem.Value.ref 68), (PySem.Value.ref 69), (PySem.Value.int (284) 0), (PySem.Value.int (92) 0), (PySem.Value.str (PySem.Str.ofString "/claim/cut.py") 285)]), #[]⟩) ::
    (nat_lit 71, ⟨(PySem.Value.type "function"), none, (PySem.Data.func ⟨(PySem.Str.ofString "_read_char"), (PySem.Str.ofString "_netrclex._read_char"), a71, PySem.FuncBody.stmts b71, s71, 3, [], PySem.Value.none, PySem.Value.none, PySem.Value.none, (PySem.Value.str (PySem.Str.ofString "cpy313.netrc") 257), none, (PySem.Value.ref 70), PySem.Value.none, 0⟩), #[]⟩) ::
    (nat_lit 72, ⟨(PySem.Value.type "tuple"), none, (PySem.Data.seq #[] 0), #[]⟩) ::
    (nat_lit 74, ⟨(PySem.Value.type "tuple"), none, (PySem.Data.seq #[(PySem.Value.str (PySem.Str.ofString "self") 290), (PySem.Value.str (PySem.Str.ofString "token") 291), (PySem.Value.str (PySem.Str.ofString "fiter") 292), (PySem.Value.str (PySem.Str.ofString "ch") 293)] 0), #[]⟩) ::
    (nat_lit 75, ⟨(PySem.Value.type "tuple"), none, (PySem.Data.seq #[] 0), #[]⟩) ::
    (nat_lit 77, ⟨(PySem.Value.type "code"), none, (PySem.Data.fields #[(PySem.Value.str (PySem.Str.ofString "get_token") 287), (PySem.Value.str (PySem.Str.ofString "_netrclex.get_token") 288), (PySem.Value.str (PySem.Str.ofString "/claim/cut.py") 289), (PySem.Value.int (98) 0), (PySem.Value.int (1) 0), (PySem.Value.int (0) 0), (PySem.Value.int (0) 0), (PySem.Value.int (3) 0), (PySem.Value.ref 72), (PySem.Value.bool true), (PySem.Value.int (181) 0), (PySem.Value.ref 73), PySem.Value.none, (PySem.Value.ref 74), (PySem.Value.ref 75), (PySem.Value.ref 76), (PySem.Value.int (294) 0), (PySem.Value.int (98) 0), (PySem.Value.str (PySem.Str.ofString "/claim/cut.py") 295)]), #[]⟩) ::
    (nat_lit 78, ⟨(PySem.Value.type "function"), none, (PySem.Data.func ⟨(PySem.Str.ofString "get_token"), (PySem.Str.ofString "_netrclex.get_token"), a78, PySem.FuncBody.stmts b78, s78, 3, [], PySem.Value.none, PySem.Value.none, PySem.Value.none, (PySem.Value.str (PySem.Str.ofString "cpy313.netrc") 257), none, (PySem.Value.ref 77), PySem.Value.none, 0⟩), #[]⟩) ::
    (nat_lit 79, ⟨(PySem.Value.type "tuple"), none, (PySem.Data.seq #[] 0), #[]⟩) ::
    (nat_lit 81, ⟨(PySem.Value.type "tuple"), none, (PySem.Data.seq #[(PySem.Value.str (PySem.Str.ofString "self") 300), (PySem.Value.str (PySem.Str.ofString "token") 301)] 0), #[]⟩) ::
    (nat_lit 82, ⟨(PySem.Value.type "tuple"), none, (PySem.Data.seq #[] 0), #[]⟩) ::
    (nat_lit 84, ⟨(PySem.Value.type "code"), none, (PySem.Data.fields #[(PySem.Value.str (PySem.Str.ofString "push_token") 297), (PySem.Value.str (PySem.Str.ofString "_netrclex.push_token") 298), (PySem.Value.str (PySem.Str.ofString "/claim/cut.py") 299), (PySem.Value.int (125) 0), (PySem.Value.int (2) 0), (PySem.Value.int (0) 0), (PySem.Value.int (0) 0), (PySem.Value.int (3) 0), (PySem.Value.ref 79), (PySem.Value.bool true), (PySem.Value.int (181) 0), (PySem.Value.ref 80), PySem.Value.none, (PySem.Value.ref 81), (PySem.Value.ref 82), (PySem.Value.ref 83), (PySem.Value.int (302) 0), (PySem.Value.int (125) 0), (PySem.Value.str (PySem.Str.ofString "/claim/cut.py") 303)]), #[]⟩) ::
    (nat_lit 85, ⟨(PySem.Value.type "function"), none, (PySem.Data.func ⟨(PySem.Str.ofString "push_token"), (PySem.Str.ofString "_netrclex.push_token"), a85, PySem.FuncBody.stmts b85, s85, 3, [], PySem.Value.none, PySem.Value.none, PySem.Value.none, (PySem.Value.str (PySem.Str.ofString "cpy313.netrc") 257), none, (PySem.Value.ref 84), PySem.Value.none, 0⟩), #[]⟩) ::
    (nat_lit 86, ⟨(PySem.Value.type "tuple"), none, (PySem.Data.seq #[(PySem.Value.str (PySem.Str.ofString "instream") 305), (PySem.Value.str (PySem.Str.ofString "lineno") 306), (PySem.Value.str (PySem.Str.ofString "pushback") 307), (PySem.Value.str (PySem.Str.ofString "whitespace") 308)] 0), #[]⟩) ::
    (nat_lit 87, ⟨(PySem.Value.type "dict"), none, (PySem.Data.dict #[⟨PySem.PyData.keyHash P (PySem.Str.ofString "__module__"), (PySem.Value.str (PySem.Str.ofString "__module__") 266), (PySem.Value.str (PySem.Str.ofString "cpy313.netrc") 257)⟩, ⟨PySem.PyData.keyHash P (PySem.Str.ofString "__firstlineno__"), (PySem.Value.str (PySem.Str.ofString "__firstlineno__") 270), (PySem.Value.int (84) 269)⟩, ⟨PySem.PyData.keyHash P (PySem.Str.ofString "__init__"), (PySem.Value.str (PySem.Str.ofString "__init__") 278), (PySem.Value.ref 64)⟩, ⟨PySem.PyData.keyHash P (PySem.Str.ofString "_read_char"), (PySem.Value.str (PySem.Str.ofString "_read_char") 286), (PySem.Value.ref 71)⟩, ⟨PySem.PyData.keyHash P (PySem.Str.ofString "get_token"), (PySem.Value.str (PySem.Str.ofString "get_token") 296), (PySem.Value.ref 78)⟩, ⟨PySem.PyData.keyHash P (PySem.Str.ofString "push_token"), (PySem.Value.str (PySem.Str.ofString "push_token") 304), (PySem.Value.ref 85)⟩, ⟨PySem.PyData.keyHash P (PySem.Str.ofString "__static_attributes__"), (PySem.Value.str (PySem.Str.ofString "__static_attributes__") 309), (PySem.Value.ref 86)⟩, ⟨PySem.PyData.keyHash P (PySem.Str.ofString "__dict__"), (PySem.Value.str (PySem.Str.ofString "__dict__") 311), (PySem.Value.ref 89)⟩, ⟨PySem.PyData.keyHash P (PySem.Str.ofString "__weakref__"), (PySem.Value.str (PySem.Str.ofString "__weakref__") 313), (PySem.Value.ref 90)⟩, ⟨PySem.PyData.keyHash P (PySem.Str.ofString "__doc__"), (PySem.Value.str (PySem.Str.ofString "__doc__") 314), PySem.Value.none⟩] 4), #[]⟩) ::
    (nat_lit 88, ⟨(PySem.Value.type "type"), none, (PySem.Data.cls ⟨(PySem.Str.ofString "_netrclex"), [(PySem.Value.type "object")], [(PySem.Value.ref 88), (PySem.Value.type "object")], 87, (PySem.Str.ofString "_netrclex"), true, [], [], false, none, false⟩), #[none, none, (some (PySem.Value.str (PySem.Str.ofString "_netrclex") 259)), (some (PySem.Value.str (PySem.Str.ofString "_netrclex") 267)), (some (PySem.Value.builtin "object.__new__")), (some (PySem.Value.bool true))]⟩) ::
    (nat_lit 89, ⟨(PySem.Value.type "getset_descriptor"), none, (PySem.Data.fields #[(PySem.Value.str (PySem.Str.ofString "__dict__") 310), (PySem.Value.ref 88), (PySem.Value.builtin "function.__dict__"), (PySem.Value.builtin "function.__dict__#set")]), #[]⟩) ::
    (nat_lit 90, ⟨(PySem.Value.type "getset_descriptor"), none, (PySem.Data.fields #[(PySem.Value.str (PySem.Str.ofString "__weakref__") 312), (PySem.Value.ref 88), (PySem.Value.builtin "ExceptionGroup.__weakref__"), PySem.Value.none]), #[]⟩) ::
    (nat_lit 100, ⟨(PySem.Value.type "set"), none, (PySem.Data.set #[(65024, (PySem.Value.int (65024) 335)), (65025, (PySem.Value.int (65025) 336)), (65026, (PySem.Value.int (65026) 337)), (65027, (PySem.Value.int (65027) 338)), (65028, (PySem.Value.int (65028) 339)), (65029, (PySem.Value.int (65029) 340)), (6150, (PySem.Value.int (6150) 321)), (65030, (PySem.Value.int (65030) 341)), (65031, (PySem.Value.int (65031) 342)), (65032, (PySem.Value.int (65032) 343)), (65033, (PySem.Value.int (65033) 344)), (6155, (PySem.Value.int (6155) 322)), (6156, (PySem.Value.int (6156) 323)), (6157, (PySem.Value.int (6157) 324)), (8203, (PySem.Value.int (8203) 325)), (8204, (PySem.Value.int (8204) 326)), (8205, (PySem.Value.int (8205) 327)), (65034, (PySem.Value.int (65034) 345)), (65035, (PySem.Value.int (65035) 346)), (65036, (PySem.Value.int (65036) 347)), (65037, (PySem.Value.int (65037) 348)), (65038, (PySem.Value.int (65038) 349)), (65039, (PySem.Value.int (65039) 350)), (173, (PySem.Value.int (173) 319)), (847, (PySem.Value.int (847) 320)), (8288, (PySem.Value.int (8288) 328)), (65279, (PySem.Value.int (65279) 329))] 29 { mask := 127, place := #[0, 1, 2, 3, 4, 5, 6, 7, 8, 9, 10, 11, 12, 13, 14, 15, 16, 17, 18, 19, 20, 21, 22, 45, 79, 96, 127], dummies := #[], finger := 0, led := Bool.not (PySem.Params.followText P "set-order"), moves := 2, plain := true }), #[]⟩) ::
    (nat_lit 104, ⟨(PySem.Value.type "tuple"), none, (PySem.Data.seq #[] 0), #[]⟩) ::
    (nat_lit 106, ⟨(PySem.Value.type "tuple"), none, (PySem.Data.seq #[(PySem.Value.str (PySem.Str.ofString "code") 382)] 0), #[]⟩) ::
    (nat_lit 107, ⟨(PySem.Value.type "tuple"), none, (PySem.Data.seq #[] 0), #[]⟩) ::
    (nat_lit 109, ⟨(PySem.Value.type "code"), none, (PySem.Data.fields #[(PySem.Value.str (PySem.Str.ofString "in_table_b1") 379), (PySem.Value.str (PySem.Str.ofString "in_table_b1") 380), (PySem.Value.str (PySem.Str.ofString "/claim/cut.py") 381), (PySem.Value.int (129) 0), (PySem.Value.int (1) 0), (PySem.Value.int (0) 0), (PySem.Value.int (0) 0), (PySem.Value.int (3) 0), (PySem.Value.ref 104), (PySem.Value.bool true), (PySem.Value.int (181) 0), (PySem.Value.ref 105), PySem.Value.none, (PySem.Value.ref 106), (PySem.Value.ref 107), (PySem.Value.ref 108), (PySem.Value.int (383) 0), (PySem.Value.int (129) 0), (PySem.Value.str (PySem.Str.ofString "/claim/cut.py") 384)]), #[]⟩) ::
    (nat_lit 110, ⟨(PySem.Value.type "function"), none, (PySem.Data.func ⟨(PySem.Str.ofString "in_table_b1"), (PySem.Str.ofString "in_table_b1"), a110, PySem.FuncBody.stmts b110, s110, 3, [], PySem.Value.none, PySem.Value.none, PySem.Value.none, (PySem.Value.str (PySem.Str.ofString "cpy313.stringprep") 317), none, (PySem.Value.ref 109), PySem.Value.none, 0⟩), #[]⟩) ::
    (nat_lit 111, ⟨(PySem.Value.type "dict"), none, (PySem.Data.dict (List.toArray b3entries) 650), #[]⟩) ::
    (nat_lit 150, ⟨(PySem.Value.type "tuple"), none, (PySem.Data.seq #[] 0), #[]⟩) ::
    (nat_lit 152, ⟨(PySem.Value.type "tuple"), none, (PySem.Data.seq #[(PySem.Value.str (PySem.Str.ofString "code") 2340), (PySem.Value.str (PySem.Str.ofString "r") 2341)] 0), #[]⟩) ::
    (nat_lit 153, ⟨(PySem.Value.type "tuple"), none, (PySem.Data.seq #[] 0), #[]⟩) ::
    (nat_lit 155, ⟨(PySem.Value.type "code"), none, (PySem.Data.fields #[(PySem.Value.str (PySem.Str.ofString "map_table_b3") 2337), (PySem.Value.str (PySem.Str.ofString "map_table_b3") 2338), (PySem.Value.str (PySem.Str.ofString "/claim/cut.py") 2339), (PySem.Value.int (132) 0), (PySem.Value.int (1) 0), (PySem.Value.int (0) 0), (PySem.Value.int (0) 0), (PySem.Value.int (3) 0), (PySem.Value.ref 150), (PySem.Value.bool true), (PySem.Value.int (181) 0), (PySem.Value.ref 151), PySem.Value.none, (PySem.Value.ref 152), (PySem.Value.ref 153), (PySem.Value.ref 154), (PySem.Value.int (2342) 0), (PySem.Value.int (132) 0), (PySem.Value.str (PySem.Str.ofString "/claim/cut.py") 2343)]), #[]⟩) ::
    (nat_lit 156, ⟨(PySem.Value.type "function"), none, (PySem.Data.func ⟨(PySem.Str.ofString "map_table_b3"), (PySem.Str.ofString "map_table_b3"), a156, PySem.FuncBody.stmts b156, s156, 3, [], PySem.Value.none, PySem.Value.none, PySem.Value.none, (PySem.Value.str (PySem.Str.ofString "cpy313.stringprep") 317), none, (PySem.Value.ref 155), PySem.Value.none, 0⟩), #[]⟩) ::
    (nat_lit 157, ⟨(PySem.Value.type "tuple"), none, (PySem.Data.seq #[] 0), #[]⟩) ::
    (nat_lit 160, ⟨(PySem.Value.type "code"), none, (PySem.Data.fields #[(PySem.Value.str (PySem.Str.ofString "_law_draws") 2347), (PySem.Value.str (PySem.Str.ofString "_law_draws") 2348), (PySem.Value.str (PySem.Str.ofString "/claim/cut.py") 2349), (PySem.Value.int (138) 0), (PySem.Value.int (1) 0), (PySem.Value.int (0) 0), (PySem.Value.int (0) 0), (PySem.Value.int (3) 0), (PySem.Value.ref 157), (PySem.Value.bool true), (PySem.Value.int (181) 0), (PySem.Value.ref 158), PySem.Value.none, PySem.Value.none, PySem.Value.none, (PySem.Value.ref 159), (PySem.Value.int (2350) 0), (PySem.Value.int (138) 0), (PySem.Value.str (PySem.Str.ofString "/claim/cut.py") 2351)]), #[]⟩) ::
    (nat_lit 161, ⟨(PySem.Value.type "function"), none, (PySem.Data.func ⟨(PySem.Str.ofString "_law_draws"), (PySem.Str.ofString "_law_draws"), a161, PySem.FuncBody.stmts b161, s161, 3, [], PySem.Value.none, PySem.Value.none, PySem.Value.none, (PySem.Value.str (PySem.Str.ofString "law_to0071_01") 2345), none, (PySem.Value.ref 160), PySem.Value.none, 0⟩), #[]⟩) ::
    (nat_lit 162, ⟨(PySem.Value.type "tuple"), none, (PySem.Data.seq #[] 0), #[]⟩) ::
    (nat_lit 164, ⟨(PySem.Value.type "tuple"), none, (PySem.Data.seq #[(PySem.Value.str (PySem.Str.ofString "x") 2356), (PySem.Value.str (PySem.Str.ofString "red") 2357), (PySem.Value.str (PySem.Str.ofString "green") 2358)] 0), #[]⟩) ::
    (nat_lit 165, ⟨(PySem.Value.type "tuple"), none, (PySem.Data.seq #[] 0), #[]⟩) ::
    (nat_lit 167, ⟨(PySem.Value.type "code"), none, (PySem.Data.fields #[(PySem.Value.str (PySem.Str.ofString "_law_day") 2353), (PySem.Value.str (PySem.Str.ofString "_law_day") 2354), (PySem.Value.str (PySem.Str.ofString "/claim/cut.py") 2355), (PySem.Value.int (141) 0), (PySem.Value.int (1) 0), (PySem.Value.int (0) 0), (PySem.Value.int (0) 0), (PySem.Value.int (3) 0), (PySem.Value.ref 162), (PySem.Value.bool true), (PySem.Value.int (181) 0), (PySem.Value.ref 163), PySem.Value.none, (PySem.Value.ref 164), (PySem.Value.ref 165), (PySem.Value.ref 166), (PySem.Value.int (2359) 0), (PySem.Value.int (141) 0), (PySem.Value.str (PySem.Str.ofString "/claim/cut.py") 2360)]), #[]⟩) ::
    (nat_lit 168, ⟨(PySem.Value.type "function"), none, (PySem.Data.func ⟨(PySem.Str.ofString "_law_day"), (PySem.Str.ofString "_law_day"), a168, PySem.FuncBody.stmts b168, s168, 3, [], PySem.Value.none, PySem.Value.none, PySem.Value.none, (PySem.Value.str (PySem.Str.ofString "law_to0071_01") 2345), none, (PySem.Value.ref 167), PySem.Value.none, 0⟩), #[]⟩) ::
    (nat_lit 169, ⟨(PySem.Value.type "tuple"), none, (PySem.Data.seq #[] 0), #[]⟩) ::
    (nat_lit 171, ⟨(PySem.Value.type "tuple"), none, (PySem.Data.seq #[(PySem.Value.str (PySem.Str.ofString "x") 2365), (PySem.Value.str (PySem.Str.ofString "red") 2366), (PySem.Value.str (PySem.Str.ofString "green") 2367), (PySem.Value.str (PySem.Str.ofString "start") 2368), (PySem.Value.str (PySem.Str.ofString "hidden") 2369), (PySem.Value.str (PySem.Str.ofString "word") 2370)] 0), #[]⟩) ::
    (nat_lit 172, ⟨(PySem.Value.type "tuple"), none, (PySem.Data.seq #[] 0), #[]⟩) ::
    (nat_lit 174, ⟨(PySem.Value.type "code"), none, (PySem.Data.fields #[(PySem.Value.str (PySem.Str.ofString "_law_word") 2362), (PySem.Value.str (PySem.Str.ofString "_law_word") 2363), (PySem.Value.str (PySem.Str.ofString "/claim/cut.py") 2364), (PySem.Value.int (145) 0), (PySem.Value.int (1) 0), (PySem.Value.int (0) 0), (PySem.Value.int (0) 0), (PySem.Value.int (3) 0), (PySem.Value.ref 169), (PySem.Value.bool true), (PySem.Value.int (181) 0), (PySem.Value.ref 170), PySem.Value.none, (PySem.Value.ref 171), (PySem.Value.ref 172), (PySem.Value.ref 173), (PySem.Value.int (2371) 0), (PySem.Value.int (145) 0), (PySem.Value.str (PySem.Str.ofString "/claim/cut.py") 2372)]), #[]⟩) ::
    (nat_lit 175, ⟨(PySem.Value.type "function"), none, (PySem.Data.func ⟨(PySem.Str.ofString "_law_word"), (PySem.Str.ofString "_law_word"), a175, PySem.FuncBody.stmts b175, s175, 3, [], PySem.Value.none, PySem.Value.none, PySem.Value.none, (PySem.Value.str (PySem.Str.ofString "law_to0071_01") 2345), none, (PySem.Value.ref 174), PySem.Value.none, 0⟩), #[]⟩) ::
    (nat_lit 176, ⟨(PySem.Value.type "tuple"), none, (PySem.Data.seq #[] 0), #[]⟩) ::
    (nat_lit 178, ⟨(PySem.Value.type "tuple"), none, (PySem.Data.seq #[(PySem.Value.str (PySem.Str.ofString "text") 2377), (PySem.Value.str (PySem.Str.ofString "_law_read_on") 2378), (PySem.Value.str (PySem.Str.ofString "stream") 2379)] 0), #[]⟩) ::
    (nat_lit 179, ⟨(PySem.Value.type "tuple"), none, (PySem.Data.seq #[(PySem.Value.str (PySem.Str.ofString "text") 2380), (PySem.Value.str (PySem.Str.ofString "at") 2381)] 0), #[]⟩) ::
    (nat_lit 181, ⟨(PySem.Value.type "code"), none, (PySem.Data.fields #[(PySem.Value.str (PySem.Str.ofString "_law_machine") 2374), (PySem.Value.str (PySem.Str.ofString "_law_machine") 2375), (PySem.Value.str (PySem.Str.ofString "/claim/cut.py") 2376), (PySem.Value.int (151) 0), (PySem.Value.int (1) 0), (PySem.Value.int (0) 0), (PySem.Value.int (0) 0), (PySem.Value.int (3) 0), (PySem.Value.ref 176), (PySem.Value.bool true), (PySem.Value.int (181) 0), (PySem.Value.ref 177), PySem.Value.none, (PySem.Value.ref 178), (PySem.Value.ref 179), (PySem.Value.ref 180), (PySem.Value.int (2382) 0), (PySem.Value.int (151) 0), (PySem.Value.str (PySem.Str.ofString "/claim/cut.py") 2383)]), #[]⟩) ::
    (nat_lit 182, ⟨(PySem.Value.type "function"), none, (PySem.Data.func ⟨(PySem.Str.ofString "_law_machine"), (PySem.Str.ofString "_law_machine"), a182, PySem.FuncBody.stmts b182, s182, 3, [], PySem.Value.none, PySem.Value.none, PySem.Value.none, (PySem.Value.str (PySem.Str.ofString "law_to0071_01") 2345), none, (PySem.Value.ref 181), PySem.Value.none, 0⟩), #[]⟩) ::
    (nat_lit 183, ⟨(PySem.Value.type "tuple"), none, (PySem.Data.seq #[] 0), #[]⟩) ::
    (nat_lit 186, ⟨(PySem.Value.type "code"), none, (PySem.Data.fields #[(PySem.Value.str (PySem.Str.ofString "_law_read") 2385), (PySem.Value.str (PySem.Str.ofString "_law_read") 2386), (PySem.Value.str (PySem.Str.ofString "/claim/cut.py") 2387), (PySem.Value.int (161) 0), (PySem.Value.int (2) 0), (PySem.Value.int (0) 0), (PySem.Value.int (0) 0), (PySem.Value.int (3) 0), (PySem.Value.ref 183), (PySem.Value.bool true), (PySem.Value.int (181) 0), (PySem.Value.ref 184), PySem.Value.none, PySem.Value.none, PySem.Value.none, (PySem.Value.ref 185), (PySem.Value.int (2388) 0), (PySem.Value.int (161) 0), (PySem.Value.str (PySem.Str.ofString "/claim/cut.py") 2389)]), #[]⟩) ::
    (nat_lit 187, ⟨(PySem.Value.type "function"), none, (PySem.Data.func ⟨(PySem.Str.ofString "_law_read"), (PySem.Str.ofString "_law_read"), a187, PySem.FuncBody.stmts b187, s187, 3, [], PySem.Value.none, PySem.Value.none, PySem.Value.none, (PySem.Value.str (PySem.Str.ofString "law_to0071_01") 2345), none, (PySem.Value.ref 186), PySem.Value.none, 0⟩), #[]⟩) ::
    (nat_lit 188, ⟨(PySem.Value.type "tuple"), none, (PySem.Data.seq #[] 0), #[]⟩) ::
    (nat_lit 190, ⟨(PySem.Value.type "tuple"), none, (PySem.Data.seq #[(PySem.Value.str (PySem.Str.ofString "number") 2394), (PySem.Value.str (PySem.Str.ofString "n") 2395), (PySem.Value.str (PySem.Str.ofString "told") 2396)] 0), #[]⟩) ::
    (nat_lit 191, ⟨(PySem.Value.type "tuple"), none, (PySem.Data.seq #[] 0), #[]⟩) ::
    (nat_lit 193, ⟨(PySem.Value.type "code"), none, (PySem.Data.fields #[(PySem.Value.str (PySem.Str.ofString "_law_counts") 2391), (PySem.Value.str (PySem.Str.ofString "_law_counts") 2392), (PySem.Value.str (PySem.Str.ofString "/claim/cut.py") 2393), (PySem.Value.int (168) 0), (PySem.Value.int (2) 0), (PySem.Value.int (0) 0), (PySem.Value.int (0) 0), (PySem.Value.int (3) 0), (PySem.Value.ref 188), (PySem.Value.bool true), (PySem.Value.int (181) 0), (PySem.Value.ref 189), PySem.Value.none, (PySem.Value.ref 190), (PySem.Value.ref 191), (PySem.Value.ref 192), (PySem.Value.int (2397) 0), (PySem.Value.int (168) 0), (PySem.Value.str (PySem.Str.ofString "/claim/cut.py") 2398)]), #[]⟩) ::
    (nat_lit 194, ⟨(PySem.Value.type "function"), none, (PySem.Data.func ⟨(PySem.Str.ofString "_law_counts"), (PySem.Str.ofString "_law_counts"), a194, PySem.FuncBody.stmts b194, s194, 3, [], PySem.Value.none, PySem.Value.none, PySem.Value.none, (PySem.Value.str (PySem.Str.ofString "law_to0071_01") 2345), none, (PySem.Value.ref 193), PySem.Value.none, 0⟩), #[]⟩) ::
    (nat_lit 195, ⟨(PySem.Value.type "tuple"), none, (PySem.Data.seq #[] 0), #[]⟩) ::
    (nat_lit 198, ⟨(PySem.Value.type "code"), none, (PySem.Data.fields #[(PySem.Value.str (PySem.Str.ofString "_law_trader") 2400), (PySem.Value.str (PySem.Str.ofString "_law_trader") 2401), (PySem.Value.str (PySem.Str.ofString "/claim/cut.py") 2402), (PySem.Value.int (171) 0), (PySem.Value.int (2) 0), (PySem.Value.int (0) 0), (PySem.Value.int (0) 0), (PySem.Value.int (3) 0), (PySem.Value.ref 195), (PySem.Value.bool true), (PySem.Value.int (181) 0), (PySem.Value.ref 196), PySem.Value.none, PySem.Value.none, PySem.Value.none, (PySem.Value.ref 197), (PySem.Value.int (2403) 0), (PySem.Value.int (171) 0), (PySem.Value.str (PySem.Str.ofString "/claim/cut.py") 2404)]), #[]⟩) ::
    (nat_lit 199, ⟨(PySem.Value.type "function"), none, (PySem.Data.func ⟨(PySem.Str.ofString "_law_trader"), (PySem.Str.ofString "_law_trader"), a199, PySem.FuncBody.stmts b199, s199, 3, [], PySem.Value.none, PySem.Value.none, PySem.Value.none, (PySem.Value.str (PySem.Str.ofString "law_to0071_01") 2345), none, (PySem.Value.ref 198), PySem.Value.none, 0⟩), #[]⟩) ::
    (nat_lit 200, ⟨(PySem.Value.type "tuple"), none, (PySem.Data.seq #[] 0), #[]⟩) ::
    (nat_lit 202, ⟨(PySem.Value.type "tuple"), none, (PySem.Data.seq #[(PySem.Value.str (PySem.Str.ofString "days") 2409), (PySem.Value.str (PySem.Str.ofString "j") 2410), (PySem.Value.str (PySem.Str.ofString "coin") 2411), (PySem.Value.str (PySem.Str.ofString "red") 2412), (PySem.Value.str (PySem.Str.ofString "green") 2413)] 0), #[]⟩) ::
    (nat_lit 203, ⟨(PySem.Value.type "tuple"), none, (PySem.Data.seq #[] 0), #[]⟩) ::
    (nat_lit 205, ⟨(PySem.Value.type "code"), none, (PySem.Data.fields #[(PySem.Value.str (PySem.Str.ofString "_law_kept") 2406), (PySem.Value.str (PySem.Str.ofString "_law_kept") 2407), (PySem.Value.str (PySem.Str.ofString "/claim/cut.py") 2408), (PySem.Value.int (186) 0), (PySem.Value.int (2) 0), (PySem.Value.int (0) 0), (PySem.Value.int (0) 0), (PySem.Value.int (3) 0), (PySem.Value.ref 200), (PySem.Value.bool true), (PySem.Value.int (181) 0), (PySem.Value.ref 201), PySem.Value.none, (PySem.Value.ref 202), (PySem.Value.ref 203), (PySem.Value.ref 204), (PySem.Value.int (2414) 0), (PySem.Value.int (186) 0), (PySem.Value.str (PySem.Str.ofString "/claim/cut.py") 2415)]), #[]⟩) ::
    (nat_lit 206, ⟨(PySem.Value.type "function"), none, (PySem.Data.func ⟨(PySem.Str.ofString "_law_kept"), (PySem.Str.ofString "_law_kept"), a206, PySem.FuncBody.stmts b206, s206, 3, [], PySem.Value.none, PySem.Value.none, PySem.Value.none, (PySem.Value.str (PySem.Str.ofString "law_to0071_01") 2345), none, (PySem.Value.ref 205), PySem.Value.none, 0⟩), #[]⟩) ::
    (nat_lit 207, ⟨(PySem.Value.type "tuple"), none, (PySem.Data.seq #[] 0), #[]⟩) ::
    (nat_lit 210, ⟨(PySem.Value.type "code"), none, (PySem.Data.fields #[(PySem.Value.str (PySem.Str.ofString "_law_sum") 2417), (PySem.Value.str (PySem.Str.ofString "_law_sum") 2418), (PySem.Value.str (PySem.Str.ofString "/claim/cut.py") 2419), (PySem.Value.int (191) 0), (PySem.Value.int (2) 0), (PySem.Value.int (0) 0), (PySem.Value.int (0) 0), (PySem.Value.int (3) 0), (PySem.Value.ref 207), (PySem.Value.bool true), (PySem.Value.int (181) 0), (PySem.Value.ref 208), PySem.Value.none, PySem.Value.none, PySem.Value.none, (PySem.Value.ref 209), (PySem.Value.int (2420) 0), (PySem.Value.int (191) 0), (PySem.Value.str (PySem.Str.ofString "/claim/cut.py") 2421)]), #[]⟩) ::
    (nat_lit 211, ⟨(PySem.Value.type "function"), none, (PySem.Data.func ⟨(PySem.Str.ofString "_law_sum"), (PySem.Str.ofString "_law_sum"), a211, PySem.FuncBody.stmts b211, s211, 3, [], PySem.Value.none, PySem.Value.none, PySem.Value.none, (PySem.Value.str (PySem.Str.ofString "law_to0071_01") 2345), none, (PySem.Value.ref 210), PySem.Value.none, 0⟩), #[]⟩) ::
    (nat_lit 212, ⟨(PySem.Value.type "tuple"), none, (PySem.Data.seq #[] 0), #[]⟩) ::
    (nat_lit 214, ⟨(PySem.Value.type "tuple"), none, (PySem.Data.seq #[(PySem.Value.str (PySem.Str.ofString "days") 2426), (PySem.Value.str (PySem.Str.ofString "counts") 2427), (PySem.Value.str (PySem.Str.ofString "purse") 2428), (PySem.Value.str (PySem.Str.ofString "scale") 2429), (PySem.Value.str (PySem.Str.ofString "j") 2430), (PySem.Value.str (PySem.Str.ofString "n") 2431), (PySem.Value.str (PySem.Str.ofString "share") 2432), (PySem.Value.str (PySem.Str.ofString "due") 2433)] 0), #[]⟩) ::
    (nat_lit 215, ⟨(PySem.Value.type "tuple"), none, (PySem.Data.seq #[] 0), #[]⟩) ::
    (nat_lit 217, ⟨(PySem.Value.type "code"), none, (PySem.Data.fields #[(PySem.Value.str (PySem.Str.ofString "_law_holds") 2423), (PySem.Value.str (PySem.Str.ofString "_law_holds") 2424), (PySem.Value.str (PySem.Str.ofString "/claim/cut.py") 2425), (PySem.Value.int (194) 0), (PySem.Value.int (5) 0), (PySem.Value.int (0) 0), (PySem.Value.int (0) 0), (PySem.Value.int (3) 0), (PySem.Value.ref 212), (PySem.Value.bool true), (PySem.Value.int (181) 0), (PySem.Value.ref 213), PySem.Value.none, (PySem.Value.ref 214), (PySem.Value.ref 215), (PySem.Value.ref 216), (PySem.Value.int (2434) 0), (PySem.Value.int (194) 0), (PySem.Value.str (PySem.Str.ofString "/claim/cut.py") 2435)]), #[]⟩) ::
    (nat_lit 218, ⟨(PySem.Value.type "function"), none, (PySem.Data.func ⟨(PySem.Str.ofString "_law_holds"), (PySem.Str.ofString "_law_holds"), a218, PySem.FuncBody.stmts b218, s218, 3, [], PySem.Value.none, PySem.Value.none, PySem.Value.none, (PySem.Value.str (PySem.Str.ofString "law_to0071_01") 2345), none, (PySem.Value.ref 217), PySem.Value.none, 0⟩), #[]⟩) ::
    (nat_lit 219, ⟨(PySem.Value.type "tuple"), none, (PySem.Data.seq #[] 0), #[]⟩) ::
    (nat_lit 221, ⟨(PySem.Value.type "tuple"), none, (PySem.Data.seq #[(PySem.Value.str (PySem.Str.ofString "seed") 2440), (PySem.Value.str (PySem.Str.ofString "n") 2441), (PySem.Value.str (PySem.Str.ofString "ends") 2442), (PySem.Value.str (PySem.Str.ofString "i") 2443), (PySem.Value.str (PySem.Str.ofString "later") 2444), (PySem.Value.str (PySem.Str.ofString "h") 2445), (PySem.Value.str (PySem.Str.ofString "hue") 2446), (PySem.Value.str (PySem.Str.ofString "coin") 2447), (PySem.Value.str (PySem.Str.ofString "reds") 2448)] 0), #[]⟩) ::
    (nat_lit 222, ⟨(PySem.Value.type "tuple"), none, (PySem.Data.seq #[] 0), #[]⟩) ::
    (nat_lit 224, ⟨(PySem.Value.type "code"), none, (PySem.Data.fields #[(PySem.Value.str (PySem.Str.ofString "_law_rival") 2437), (PySem.Value.str (PySem.Str.ofString "_law_rival") 2438), (PySem.Value.str (PySem.Str.ofString "/claim/cut.py") 2439), (PySem.Value.int (199) 0), (PySem.Value.int (2) 0), (PySem.Value.int (0) 0), (PySem.Value.int (0) 0), (PySem.Value.int (3) 0), (PySem.Value.ref 219), (PySem.Value.bool true), (PySem.Value.int (181) 0), (PySem.Value.ref 220), PySem.Value.none, (PySem.Value.ref 221), (PySem.Value.ref 222), (PySem.Value.ref 223), (PySem.Value.int (2449) 0), (PySem.Value.int (199) 0), (PySem.Value.str (PySem.Str.ofString "/claim/cut.py") 2450)]), #[]⟩) ::
    (nat_lit 225, ⟨(PySem.Value.type "function"), none, (PySem.Data.func ⟨(PySem.Str.ofString "_law_rival"), (PySem.Str.ofString "_law_rival"), a225, PySem.FuncBody.stmts b225, s225, 3, [], PySem.Value.none, PySem.Value.none, PySem.Value.none, (PySem.Value.str (PySem.Str.ofString "law_to0071_01") 2345), none, (PySem.Value.ref 224), PySem.Value.none, 0⟩), #[]⟩) ::
    (nat_lit 226, ⟨(PySem.Value.type "tuple"), none, (PySem.Data.seq #[] 0), #[]⟩) ::
    (nat_lit 229, ⟨(PySem.Value.type "code"), none, (PySem.Data.fields #[(PySem.Value.str (PySem.Str.ofString "law") 2452), (PySem.Value.str (PySem.Str.ofString "law") 2453), (PySem.Value.str (PySem.Str.ofString "/claim/cut.py") 2454), (PySem.Value.int (210) 0), (PySem.Value.int (1) 0), (PySem.Value.int (0) 0), (PySem.Value.int (0) 0), (PySem.Value.int (3) 0), (PySem.Value.ref 226), (PySem.Value.bool true), (PySem.Value.int (181) 0), (PySem.Value.ref 227), PySem.Value.none, PySem.Value.none, PySem.Value.none, (PySem.Value.ref 228), (PySem.Value.int (2455) 0), (PySem.Value.int (210) 0), (PySem.Value.str (PySem.Str.ofString "/claim/cut.py") 2456)]), #[]⟩) ::
    (nat_lit 230, ⟨(PySem.Value.type "function"), none, (PySem.Data.func ⟨(PySem.Str.ofString "law"), (PySem.Str.ofString "law"), a230, PySem.FuncBody.stmts b230, s230, 3, [], PySem.Value.none, PySem.Value.none, PySem.Value.none, (PySem.Value.str (PySem.Str.ofString "law_to0071_01") 2345), none, (PySem.Value.ref 229), PySem.Value.none, 0⟩), #[]⟩) ::
    [])
    _ _ _ _ _ _ _ _ _ _ rfl
    _ _ _ _ _ _ _ _ _ _ rfl
    _ _ _ _ _ _ _ _ _ _ rfl
    _ _ _ _ _ _ _ _ _ _ rfl
    _ _ _ _ _ _ _ _ _ _ rfl
    _ _ _ _ _ _ _ _ _ _ rfl
    _ _ _ _ _ _ _ _ _ _ rfl
    _ _ _ _ _ _ _ _ _ _ rfl
    _ _ _ _ _ _ _ _ _ _ rfl
    _ _ _ _ _ _ _ _ _ _ rfl
    _ _ _ _ _ _ _ _ _ _ rfl
    _ _ _ _ _ _ _ _ _ _ rfl
    _ _ _ _ _ _ _ _ _ _ rfl
    _ _ _ _ _ _ _ _ _ _ rfl
    _ _ _ _ _ _ _ _ _ _ rfl
    _ _ _ _ _ _ _ _ _ _ rfl
    _ _ _ _ _ _ _ _ _ _ rfl
    _ _ _ _ _ _ _ _ _ _ rfl
    _ _ _ _ _ _ _ _ _ _ rfl
    _ _ _ _ _ _ _ _ _ _ rfl
    _ _ _ _ _ _ _ _ _ _ rfl
    _ _ _ _ _ _ _ _ _ _ rfl
    _ _ _ _ _ _ _ _ _ _ rfl
noncomputable def Kaddrs : List Addr := [nat_lit 2, nat_lit 3, nat_lit 15, nat_lit 17, nat_lit 18, nat_lit 20, nat_lit 21, nat_lit 22, nat_lit 23, nat_lit 25, nat_lit 26, nat_lit 28, nat_lit 29, nat_lit 30, nat_lit 32, nat_lit 33, nat_lit 35, nat_lit 36, nat_lit 37, nat_lit 39, nat_lit 40, nat_lit 42, nat_lit 43, nat_lit 44, nat_lit 46, nat_lit 47, nat_lit 49, nat_lit 50, nat_lit 58, nat_lit 60, nat_lit 61, nat_lit 63, nat_lit 64, nat_lit 65, nat_lit 67, nat_lit 68, nat_lit 70, nat_lit 71, nat_lit 72, nat_lit 74, nat_lit 75, nat_lit 77, nat_lit 78, nat_lit 79, nat_lit 81, nat_lit 82, nat_lit 84, nat_lit 85, nat_lit 86, nat_lit 87, nat_lit 88, nat_lit 89, nat_lit 90, nat_lit 100, nat_lit 104, nat_lit 106, nat_lit 107, nat_lit 109, nat_lit 110, nat_lit 111, nat_lit 150, nat_lit 152, nat_lit 153, nat_lit 155, nat_lit 156, nat_lit 157, nat_lit 160, nat_lit 161, nat_lit 162, nat_lit 164, nat_lit 165, nat_lit 167, nat_lit 168, nat_lit 169, nat_lit 171, nat_lit 172, nat_lit 174, nat_lit 175, nat_lit 176, nat_lit 178, nat_lit 179, nat_lit 181, nat_lit 182, nat_lit 183, nat_lit 186, nat_lit 187, nat_lit 188, nat_lit 190, nat_lit 191, nat_lit 193, nat_lit 194, nat_lit 195, nat_lit 198, nat_lit 199, nat_lit 200, nat_lit 202, nat_lit 203, nat_lit 205, nat_lit 206, nat_lit 207, nat_lit 210, nat_lit 211, nat_lit 212, nat_lit 214, nat_lit 215, nat_lit 217, nat_lit 218, nat_lit 219, nat_lit 221, nat_lit 222, nat_lit 224, nat_lit 225, nat_lit 226, nat_lit 229, nat_lit 230]
theorem Kaddrs_eq (P : Params) : Kaddrs = (K P).map (·.1) := by kernel_rfl
theorem kFill : PySem.Challenge.rw_to0071_01.foot = 12 ∧ Mine.K = Mine.K := by
  k_fill
  exact ⟨rfl, rfl⟩
end Mine
namespace Mine
section
noncomputable def envM : Env := { scope := prg.main.scope, locals := mainNs, globals := mainNs, cells := [], code := .ref 13, frame := some 14 }
noncomputable def fnArgs : Stmt → Arguments
  | .FunctionDef _ a .. => a
  | _ => default
noncomputable def fnScope : Stmt → Scope
  | .FunctionDef _ _ _ _ _ _ s .. => s
  | _ => default

noncomputable def ob_11_0 (P : Params) : Obj := ⟨(PySem.Value.type "tuple"), none, (PySem.Data.seq #[] 0), #[]⟩
noncomputable def ob_12_0 (P : Params) : Obj := ⟨PySem.Value.none, none, (PySem.Data.fields #[]), #[]⟩
noncomputable def ob_13_0 (P : Params) : Obj := ⟨(PySem.Value.type "code"), none, (PySem.Data.fields #[(PySem.Value.str (PySem.Str.ofString "<module>") 182), (PySem.Value.str (PySem.Str.ofString "<module>") 183), (PySem.Value.str (PySem.Str.ofString "/claim/cut.py") 184), (PySem.Value.int (1) 0), (PySem.Value.int (0) 0), (PySem.Value.int (0) 0), (PySem.Value.int (0) 0), (PySem.Value.int (0) 0), (PySem.Value.ref 11), (PySem.Value.bool false), (PySem.Value.int (181) 0), (PySem.Value.ref 12), PySem.Value.none, PySem.Value.none, PySem.Value.none, PySem.Value.none, (PySem.Value.int (185) 0), (PySem.Value.int (1) 0), (PySem.Value.str (PySem.Str.ofString "/claim/cut.py") 186)]), #[]⟩
noncomputable def ob_14_0 (P : Params) : Obj := ⟨(PySem.Value.type "frame"), none, PySem.Data.plain, #[(some (PySem.Value.ref 13)), (some (PySem.Value.ref 3)), (some (PySem.Value.ref 3)), none, (some (PySem.Value.str (PySem.Str.ofString "__main__") 164)), none, (some (PySem.Value.ref 0))]⟩
noncomputable def Tm2 (P : Params) : BT :=
  .node (boot_o_0 P) (.node (boot_o_1 P) (.node (boot_o_3 P) (.node (boot_o_7 P) (.nil) (.nil)) (.node (ob_11_0 P) (.nil) (.nil))) (.node (boot_o_5 P) (.node (boot_o_9 P) (.nil) (.nil)) (.node (ob_13_0 P) (.nil) (.nil)))) (.node (boot_o_2 P) (.node (boot_o_4 P) (.node (boot_o_8 P) (.nil) (.nil)) (.node (ob_12_0 P) (.nil) (.nil))) (.node (boot_o_6 P) (.node (boot_o_10 P) (.nil) (.nil)) (.node (ob_14_0 P) (.nil) (.nil))))
noncomputable def posm2 : Pos := ⟨0, 0, 0, 0⟩
noncomputable abbrev Sm2 (w : World) (os : OsState) : SharedT := ⟨Tm2 w.params, 15, {}, #[], {}, 187, os⟩
noncomputable def ob_3_13 (P : Params) : Obj := ⟨(PySem.Value.type "dict"), none, (PySem.Data.dict #[⟨PySem.PyData.keyHash P (PySem.Str.ofString "__name__"), (PySem.Value.str (PySem.Str.ofString "__name__") 165), (PySem.Value.str (PySem.Str.ofString "cpy313.stringprep") 317)⟩, ⟨PySem.PyData.keyHash P (PySem.Str.ofString "__doc__"), (PySem.Value.str (PySem.Str.ofString "__doc__") 166), PySem.Value.none⟩, ⟨PySem.PyData.keyHash P (PySem.Str.ofString "__package__"), (PySem.Value.str (PySem.Str.ofString "__package__") 167), PySem.Value.none⟩, ⟨PySem.PyData.keyHash P (PySem.Str.ofString "__loader__"), (PySem.Value.str (PySem.Str.ofString "__loader__") 168), (PySem.Value.builtin "__main__.__loader__#opaque")⟩, ⟨PySem.PyData.keyHash P (PySem.Str.ofString "__spec__"), (PySem.Value.str (PySem.Str.ofString "__spec__") 169), PySem.Value.none⟩, ⟨PySem.PyData.keyHash P (PySem.Str.ofString "__annotations__"), (PySem.Value.str (PySem.Str.ofString "__annotations__") 170), (PySem.Value.ref 6)⟩, ⟨PySem.PyData.keyHash P (PySem.Str.ofString "__builtins__"), (PySem.Value.str (PySem.Str.ofString "__builtins__") 171), (PySem.Value.ref 4)⟩, ⟨PySem.PyData.keyHash P (PySem.Str.ofString "__file__"), (PySem.Value.str (PySem.Str.ofString "__file__") 173), (PySem.Value.str (PySem.Str.ofString "/claim/cut.py") 172)⟩, ⟨PySem.PyData.keyHash P (PySem.Str.ofString "__cached__"), (PySem.Value.str (PySem.Str.ofString "__cached__") 174), PySem.Value.none⟩, ⟨PySem.PyData.keyHash P (PySem.Str.ofString "_wall"), (PySem.Value.str (PySem.Str.ofString "_wall") 193), (PySem.Value.ref 21)⟩, ⟨PySem.PyData.keyHash P (PySem.Str.ofString "compute_powers"), (PySem.Value.str (PySem.Str.ofString "compute_powers") 215), (PySem.Value.ref 29)⟩, ⟨PySem.PyData.keyHash P (PySem.Str.ofString "_int2digits"), (PySem.Value.str (PySem.Str.ofString "_int2digits") 226), (PySem.Value.ref 36)⟩, ⟨PySem.PyData.keyHash P (PySem.Str.ofString "_digits2int"), (PySem.Value.str (PySem.Str.ofString "_digits2int") 237), (PySem.Value.ref 43)⟩, ⟨PySem.PyData.keyHash P (PySem.Str.ofString "ONE_SIXTH"), (PySem.Value.str (PySem.Str.ofString "ONE_SIXTH") 243), (PySem.Value.float 4595172819793696085 242)⟩, ⟨PySem.PyData.keyHash P (PySem.Str.ofString "TWO_THIRD"), (PySem.Value.str (PySem.Str.ofString "TWO_THIRD") 247), (PySem.Value.float 4604180019048437077 246)⟩, ⟨PySem.PyData.keyHash P (PySem.Str.ofString "_v"), (PySem.Value.str (PySem.Str.ofString "_v") 256), (PySem.Value.ref 50)⟩, ⟨PySem.PyData.keyHash P (PySem.Str.ofString "_netrclex"), (PySem.Value.str (PySem.Str.ofString "_netrclex") 316), (PySem.Value.ref 88)⟩] 17), #[]⟩
noncomputable def ob_12_13 (P : Params) : Obj := ⟨PySem.Value.none, none, (PySem.Data.fields #[(PySem.Value.int (1) 0), (PySem.Value.int (0) 0), (PySem.Value.ref 20), (PySem.Value.int (5) 0), (PySem.Value.int (0) 0), (PySem.Value.ref 28), (PySem.Value.int (46) 0), (PySem.Value.int (0) 0), (PySem.Value.ref 35), (PySem.Value.int (62) 0), (PySem.Value.int (0) 0), (PySem.Value.ref 42), (PySem.Value.int (74) 0), (PySem.Value.int (0) 0), (PySem.Value.ref 49), (PySem.Value.int (84) 0), (PySem.Value.int (0) 0), (PySem.Value.ref 56)]), #[]⟩
noncomputable def ob_15_13 (P : Params) : Obj := ⟨(PySem.Value.type "tuple"), none, (PySem.Data.seq #[] 0), #[]⟩
noncomputable def ob_16_13 (P : Params) : Obj := ⟨PySem.Value.none, none, (PySem.Data.fields #[]), #[]⟩
noncomputable def ob_17_13 (P : Params) : Obj := ⟨(PySem.Value.type "tuple"), none, (PySem.Data.seq #[(PySem.Value.str (PySem.Str.ofString "k") 190)] 0), #[]⟩
noncomputable def ob_18_13 (P : Params) : Obj := ⟨(PySem.Value.type "tuple"), none, (PySem.Data.seq #[] 0), #[]⟩
noncomputable def ob_19_13 (P : Params) : Obj := ⟨PySem.Value.none, none, (PySem.Data.func ⟨(PySem.Str.ofString "_wall"), (PySem.Str.ofString "_wall"), fnArgs (stAt 0), PySem.FuncBody.stmts (bodyOf (stAt 0)), fnScope (stAt 0), 0, [], PySem.Value.none, PySem.Value.none, PySem.Value.none, PySem.Value.none, none, PySem.Value.none, PySem.Value.none, 0⟩), #[]⟩
noncomputable def ob_20_13 (P : Params) : Obj := ⟨(PySem.Value.type "code"), none, (PySem.Data.fields #[(PySem.Value.str (PySem.Str.ofString "_wall") 187), (PySem.Value.str (PySem.Str.ofString "_wall") 188), (PySem.Value.str (PySem.Str.ofString "/claim/cut.py") 189), (PySem.Value.int (1) 0), (PySem.Value.int (1) 0), (PySem.Value.int (0) 0), (PySem.Value.int (0) 0), (PySem.Value.int (3) 0), (PySem.Value.ref 15), (PySem.Value.bool true), (PySem.Value.int (181) 0), (PySem.Value.ref 16), PySem.Value.none, (PySem.Value.ref 17), (PySem.Value.ref 18), (PySem.Value.ref 19), (PySem.Value.int (191) 0), (PySem.Value.int (1) 0), (PySem.Value.str (PySem.Str.ofString "/claim/cut.py") 192)]), #[]⟩
noncomputable def ob_21_13 (P : Params) : Obj := ⟨(PySem.Value.type "function"), none, (PySem.Data.func ⟨(PySem.Str.ofString "_wall"), (PySem.Str.ofString "_wall"), fnArgs (stAt 0), PySem.FuncBody.stmts (bodyOf (stAt 0)), fnScope (stAt 0), 3, [], PySem.Value.none, PySem.Value.none, PySem.Value.none, (PySem.Value.str (PySem.Str.ofString "__main__") 164), none, (PySem.Value.ref 20), PySem.Value.none, 0⟩), #[]⟩
noncomputable def ob_22_13 (P : Params) : Obj := ⟨(PySem.Value.type "tuple"), none, (PySem.Data.seq #[(PySem.Value.bool false)] 0), #[]⟩
noncomputable def ob_23_13 (P : Params) : Obj := ⟨(PySem.Value.type "tuple"), none, (PySem.Data.seq #[] 0), #[]⟩
noncomputable def ob_24_13 (P : Params) : Obj := ⟨PySem.Value.none, none, (PySem.Data.fields #[]), #[]⟩
noncomputable def ob_25_13 (P : Params) : Obj := ⟨(PySem.Value.type "tuple"), none, (PySem.Data.seq #[(PySem.Value.str (PySem.Str.ofString "w") 199), (PySem.Value.str (PySem.Str.ofString "base") 200), (PySem.Value.str (PySem.Str.ofString "more_than") 201), (PySem.Value.str (PySem.Str.ofString "show") 202), (PySem.Value.str (PySem.Str.ofString "seen") 203), (PySem.Value.str (PySem.Str.ofString "need") 204), (PySem.Value.str (PySem.Str.ofString "ws") 205), (PySem.Value.str (PySem.Str.ofString "lo") 206), (PySem.Value.str (PySem.Str.ofString "d") 207), (PySem.Value.str (PySem.Str.ofString "it") 208), (PySem.Value.str (PySem.Str.ofString "first") 209), (PySem.Value.str (PySem.Str.ofString "this") 210), (PySem.Value.str (PySem.Str.ofString "hi") 211), (PySem.Value.str (PySem.Str.ofString "sq") 212)] 0), #[]⟩
noncomputable def ob_26_13 (P : Params) : Obj := ⟨(PySem.Value.type "tuple"), none, (PySem.Data.seq #[] 0), #[]⟩
noncomputable def ob_27_13 (P : Params) : Obj := ⟨PySem.Value.none, none, (PySem.Data.func ⟨(PySem.Str.ofString "compute_powers"), (PySem.Str.ofString "compute_powers"), fnArgs (stAt 2), PySem.FuncBody.stmts (bodyOf (stAt 2)), fnScope (stAt 2), 0, [], PySem.Value.none, PySem.Value.none, PySem.Value.none, PySem.Value.none, none, PySem.Value.none, PySem.Value.none, 0⟩), #[]⟩
noncomputable def ob_28_13 (P : Params) : Obj := ⟨(PySem.Value.type "code"), none, (PySem.Data.fields #[(PySem.Value.str (PySem.Str.ofString "compute_powers") 196), (PySem.Value.str (PySem.Str.ofString "compute_powers") 197), (PySem.Value.str (PySem.Str.ofString "/claim/cut.py") 198), (PySem.Value.int (5) 0), (PySem.Value.int (4) 0), (PySem.Value.int (0) 0), (PySem.Value.int (0) 0), (PySem.Value.int (3) 0), (PySem.Value.ref 23), (PySem.Value.bool true), (PySem.Value.int (181) 0), (PySem.Value.ref 24), PySem.Value.none, (PySem.Value.ref 25), (PySem.Value.ref 26), (PySem.Value.ref 27), (PySem.Value.int (213) 0), (PySem.Value.int (5) 0), (PySem.Value.str (PySem.Str.ofString "/claim/cut.py") 214)]), #[]⟩
noncomputable def ob_29_13 (P : Params) : Obj := ⟨(PySem.Value.type "function"), none, (PySem.Data.func ⟨(PySem.Str.ofString "compute_powers"), (PySem.Str.ofString "compute_powers"), fnArgs (stAt 2), PySem.FuncBody.stmts (bodyOf (stAt 2)), fnScope (stAt 2), 3, [], (PySem.Value.ref 22), PySem.Value.none, PySem.Value.none, (PySem.Value.str (PySem.Str.ofString "cpy313._pylong") 194), none, (PySem.Value.ref 28), PySem.Value.none, 0⟩), #[]⟩
noncomputable def ob_30_13 (P : Params) : Obj := ⟨(PySem.Value.type "tuple"), none, (PySem.Data.seq #[] 0), #[]⟩
noncomputable def ob_31_13 (P : Params) : Obj := ⟨PySem.Value.none, none, (PySem.Data.fields #[]), #[]⟩
noncomputable def ob_32_13 (P : Params) : Obj := ⟨(PySem.Value.type "tuple"), none, (PySem.Data.seq #[(PySem.Value.str (PySem.Str.ofString "a") 219), (PySem.Value.str (PySem.Str.ofString "n") 220)] 0), #[]⟩
noncomputable def ob_33_13 (P : Params) : Obj := ⟨(PySem.Value.type "tuple"), none, (PySem.Data.seq #[(PySem.Value.str (PySem.Str.ofString "n") 221), (PySem.Value.str (PySem.Str.ofString "a_digits") 222), (PySem.Value.str (PySem.Str.ofString "inner") 223)] 0), #[]⟩
noncomputable def ob_34_13 (P : Params) : Obj := ⟨PySem.Value.none, none, (PySem.Data.func ⟨(PySem.Str.ofString "_int2digits"), (PySem.Str.ofString "_int2digits"), fnArgs (stAt 3), PySem.FuncBody.stmts (bodyOf (stAt 3)), fnScope (stAt 3), 0, [], PySem.Value.none, PySem.Value.none, PySem.Value.none, PySem.Value.none, none, PySem.Value.none, PySem.Value.none, 0⟩), #[]⟩
noncomputable def ob_35_13 (P : Params) : Obj := ⟨(PySem.Value.type "code"), none, (PySem.Data.fields #[(PySem.Value.str (PySem.Str.ofString "_int2digits") 216), (PySem.Value.str (PySem.Str.ofString "_int2digits") 217), (PySem.Value.str (PySem.Str.ofString "/claim/cut.py") 218), (PySem.Value.int (46) 0), (PySem.Value.int (2) 0), (PySem.Value.int (0) 0), (PySem.Value.int (0) 0), (PySem.Value.int (3) 0), (PySem.Value.ref 30), (PySem.Value.bool true), (PySem.Value.int (181) 0), (PySem.Value.ref 31), PySem.Value.none, (PySem.Value.ref 32), (PySem.Value.ref 33), (PySem.Value.ref 34), (PySem.Value.int (224) 0), (PySem.Value.int (46) 0), (PySem.Value.str (PySem.Str.ofString "/claim/cut.py") 225)]), #[]⟩
noncomputable def ob_36_13 (P : Params) : Obj := ⟨(PySem.Value.type "function"), none, (PySem.Data.func ⟨(PySem.Str.ofString "_int2digits"), (PySem.Str.ofString "_int2digits"), fnArgs (stAt 3), PySem.FuncBody.stmts (bodyOf (stAt 3)), fnScope (stAt 3), 3, [], PySem.Value.none, PySem.Value.none, PySem.Value.none, (PySem.Value.str (PySem.Str.ofString "cpy313._pylong") 194), none, (PySem.Value.ref 35), PySem.Value.none, 0⟩), #[]⟩
noncomputable def ob_37_13 (P : Params) : Obj := ⟨(PySem.Value.type "tuple"), none, (PySem.Data.seq #[] 0), #[]⟩
noncomputable def ob_38_13 (P : Params) : Obj := ⟨PySem.Value.none, none, (PySem.Data.fields #[]), #[]⟩
noncomputable def ob_39_13 (P : Params) : Obj := ⟨(PySem.Value.type "tuple"), none, (PySem.Data.seq #[(PySem.Value.str (PySem.Str.ofString "digits") 230), (PySem.Value.str (PySem.Str.ofString "n") 231)] 0), #[]⟩
noncomputable def ob_40_13 (P : Params) : Obj := ⟨(PySem.Value.type "tuple"), none, (PySem.Data.seq #[(PySem.Value.str (PySem.Str.ofString "digits") 232), (PySem.Value.str (PySem.Str.ofString "n") 233), (PySem.Value.str (PySem.Str.ofString "inner") 234)] 0), #[]⟩
noncomputable def ob_41_13 (P : Params) : Obj := ⟨PySem.Value.none, none, (PySem.Data.func ⟨(PySem.Str.ofString "_digits2int"), (PySem.Str.ofString "_digits2int"), fnArgs (stAt 4), PySem.FuncBody.stmts (bodyOf (stAt 4)), fnScope (stAt 4), 0, [], PySem.Value.none, PySem.Value.none, PySem.Value.none, PySem.Value.none, none, PySem.Value.none, PySem.Value.none, 0⟩), #[]⟩
noncomputable def ob_42_13 (P : Params) : Obj := ⟨(PySem.Value.type "code"), none, (PySem.Data.fields #[(PySem.Value.str (PySem.Str.ofString "_digits2int") 227), (PySem.Value.str (PySem.Str.ofString "_digits2int") 228), (PySem.Value.str (PySem.Str.ofString "/claim/cut.py") 229), (PySem.Value.int (62) 0), (PySem.Value.int (2) 0), (PySem.Value.int (0) 0), (PySem.Value.int (0) 0), (PySem.Value.int (3) 0), (PySem.Value.ref 37), (PySem.Value.bool true), (PySem.Value.int (181) 0), (PySem.Value.ref 38), PySem.Value.none, (PySem.Value.ref 39), (PySem.Value.ref 40), (PySem.Value.ref 41), (PySem.Value.int (235) 0), (PySem.Value.int (62) 0), (PySem.Value.str (PySem.Str.ofString "/claim/cut.py") 236)]), #[]⟩
noncomputable def ob_43_13 (P : Params) : Obj := ⟨(PySem.Value.type "function"), none, (PySem.Data.func ⟨(PySem.Str.ofString "_digits2int"), (PySem.Str.ofString "_digits2int"), fnArgs (stAt 4), PySem.FuncBody.stmts (bodyOf (stAt 4)), fnScope (stAt 4), 3, [], PySem.Value.none, PySem.Value.none, PySem.Value.none, (PySem.Value.str (PySem.Str.ofString "cpy313._pylong") 194), none, (PySem.Value.ref 42), PySem.Value.none, 0⟩), #[]⟩
noncomputable def ob_44_13 (P : Params) : Obj := ⟨(PySem.Value.type "tuple"), none, (PySem.Data.seq #[] 0), #[]⟩
noncomputable def ob_45_13 (P : Params) : Obj := ⟨PySem.Value.none, none, (PySem.Data.fields #[]), #[]⟩
noncomputable def ob_46_13 (P : Params) : Obj := ⟨(PySem.Value.type "tuple"), none, (PySem.Data.seq #[(PySem.Value.str (PySem.Str.ofString "m1") 251), (PySem.Value.str (PySem.Str.ofString "m2") 252), (PySem.Value.str (PySem.Str.ofString "hue") 253)] 0), #[]⟩
noncomputable def ob_47_13 (P : Params) : Obj := ⟨(PySem.Value.type "tuple"), none, (PySem.Data.seq #[] 0), #[]⟩
noncomputable def ob_48_13 (P : Params) : Obj := ⟨PySem.Value.none, none, (PySem.Data.func ⟨(PySem.Str.ofString "_v"), (PySem.Str.ofString "_v"), fnArgs (stAt 8), PySem.FuncBody.stmts (bodyOf (stAt 8)), fnScope (stAt 8), 0, [], PySem.Value.none, PySem.Value.none, PySem.Value.none, PySem.Value.none, none, PySem.Value.none, PySem.Value.none, 0⟩), #[]⟩
noncomputable def ob_49_13 (P : Params) : Obj := ⟨(PySem.Value.type "code"), none, (PySem.Data.fields #[(PySem.Value.str (PySem.Str.ofString "_v") 248), (PySem.Value.str (PySem.Str.ofString "_v") 249), (PySem.Value.str (PySem.Str.ofString "/claim/cut.py") 250), (PySem.Value.int (74) 0), (PySem.Value.int (3) 0), (PySem.Value.int (0) 0), (PySem.Value.int (0) 0), (PySem.Value.int (3) 0), (PySem.Value.ref 44), (PySem.Value.bool true), (PySem.Value.int (181) 0), (PySem.Value.ref 45), PySem.Value.none, (PySem.Value.ref 46), (PySem.Value.ref 47), (PySem.Value.ref 48), (PySem.Value.int (254) 0), (PySem.Value.int (74) 0), (PySem.Value.str (PySem.Str.ofString "/claim/cut.py") 255)]), #[]⟩
noncomputable def ob_50_13 (P : Params) : Obj := ⟨(PySem.Value.type "function"), none, (PySem.Data.func ⟨(PySem.Str.ofString "_v"), (PySem.Str.ofString "_v"), fnArgs (stAt 8), PySem.FuncBody.stmts (bodyOf (stAt 8)), fnScope (stAt 8), 3, [], PySem.Value.none, PySem.Value.none, PySem.Value.none, (PySem.Value.str (PySem.Str.ofString "cpy313.colorsys") 238), none, (PySem.Value.ref 49), PySem.Value.none, 0⟩), #[]⟩
noncomputable def ob_51_13 (P : Params) : Obj := ⟨(PySem.Value.type "tuple"), none, (PySem.Data.seq #[] 0), #[]⟩
noncomputable def ob_52_13 (P : Params) : Obj := ⟨(PySem.Value.type "builtin_function_or_method"), none, (PySem.Data.fields #[(PySem.Value.builtin "type.__prepare__"), (PySem.Value.type "type")]), #[]⟩
noncomputable def ob_53_13 (P : Params) : Obj := ⟨(PySem.Value.type "dict"), none, (PySem.Data.dict #[⟨PySem.PyData.keyHash P (PySem.Str.ofString "__module__"), (PySem.Value.str (PySem.Str.ofString "__module__") 266), (PySem.Value.str (PySem.Str.ofString "cpy313.netrc") 257)⟩, ⟨PySem.PyData.keyHash P (PySem.Str.ofString "__qualname__"), (PySem.Value.str (PySem.Str.ofString "__qualname__") 268), (PySem.Value.str (PySem.Str.ofString "_netrclex") 267)⟩, ⟨PySem.PyData.keyHash P (PySem.Str.ofString "__firstlineno__"), (PySem.Value.str (PySem.Str.ofString "__firstlineno__") 270), (PySem.Value.int (84) 269)⟩, ⟨PySem.PyData.keyHash P (PySem.Str.ofString "__init__"), (PySem.Value.str (PySem.Str.ofString "__init__") 278), (PySem.Value.ref 64)⟩, ⟨PySem.PyData.keyHash P (PySem.Str.ofString "_read_char"), (PySem.Value.str (PySem.Str.ofString "_read_char") 286), (PySem.Value.ref 71)⟩, ⟨PySem.PyData.keyHash P (PySem.Str.ofString "get_token"), (PySem.Value.str (PySem.Str.ofString "get_token") 296), (PySem.Value.ref 78)⟩, ⟨PySem.PyData.keyHash P (PySem.Str.ofString "push_token"), (PySem.Value.str (PySem.Str.ofString "push_token") 304), (PySem.Value.ref 85)⟩, ⟨PySem.PyData.keyHash P (PySem.Str.ofString "__static_attributes__"), (PySem.Value.str (PySem.Str.ofString "__static_attributes__") 309), (PySem.Value.ref 86)⟩] 8), #[]⟩
noncomputable def ob_54_13 (P : Params) : Obj := ⟨(PySem.Value.type "tuple"), none, (PySem.Data.seq #[] 0), #[]⟩
noncomputable def ob_55_13 (P : Params) : Obj := ⟨PySem.Value.none, none, (PySem.Data.fields #[(PySem.Value.int (86) 0), (PySem.Value.int (4) 0), (PySem.Value.ref 63), (PySem.Value.int (92) 0), (PySem.Value.int (4) 0), (PySem.Value.ref 70), (PySem.Value.int (98) 0), (PySem.Value.int (4) 0), (PySem.Value.ref 77), (PySem.Value.int (125) 0), (PySem.Value.int (4) 0), (PySem.Value.ref 84)]), #[]⟩
noncomputable def ob_56_13 (P : Params) : Obj := ⟨(PySem.Value.type "code"), none, (PySem.Data.fields #[(PySem.Value.str (PySem.Str.ofString "_netrclex") 261), (PySem.Value.str (PySem.Str.ofString "_netrclex") 262), (PySem.Value.str (PySem.Str.ofString "/claim/cut.py") 263), (PySem.Value.int (84) 0), (PySem.Value.int (0) 0), (PySem.Value.int (0) 0), (PySem.Value.int (0) 0), (PySem.Value.int (0) 0), (PySem.Value.ref 54), (PySem.Value.bool false), (PySem.Value.int (181) 0), (PySem.Value.ref 55), PySem.Value.none, PySem.Value.none, PySem.Value.none, PySem.Value.none, (PySem.Value.int (264) 0), (PySem.Value.int (84) 0), (PySem.Value.str (PySem.Str.ofString "/claim/cut.py") 265)]), #[]⟩
noncomputable def ob_57_13 (P : Params) : Obj := ⟨(PySem.Value.type "frame"), none, PySem.Data.plain, #[(some (PySem.Value.ref 56)), (some (PySem.Value.ref 3)), (some (PySem.Value.ref 53)), none, (some (PySem.Value.str (PySem.Str.ofString "cpy313.netrc") 257)), none, (some (PySem.Value.ref 0))]⟩
noncomputable def ob_58_13 (P : Params) : Obj := ⟨(PySem.Value.type "tuple"), none, (PySem.Data.seq #[] 0), #[]⟩
noncomputable def ob_59_13 (P : Params) : Obj := ⟨PySem.Value.none, none, (PySem.Data.fields #[]), #[]⟩
noncomputable def ob_60_13 (P : Params) : Obj := ⟨(PySem.Value.type "tuple"), none, (PySem.Data.seq #[(PySem.Value.str (PySem.Str.ofString "self") 274), (PySem.Value.str (PySem.Str.ofString "fp") 275)] 0), #[]⟩
noncomputable def ob_61_13 (P : Params) : Obj := ⟨(PySem.Value.type "tuple"), none, (PySem.Data.seq #[] 0), #[]⟩
noncomputable def ob_62_13 (P : Params) : Obj := ⟨PySem.Value.none, none, (PySem.Data.func ⟨(PySem.Str.ofString "__init__"), (PySem.Str.ofString "_netrclex.__init__"), fnArgs (inCls 0), PySem.FuncBody.stmts (bodyOf (inCls 0)), fnScope (inCls 0), 0, [], PySem.Value.none, PySem.Value.none, PySem.Value.none, PySem.Value.none, none, PySem.Value.none, PySem.Value.none, 0⟩), #[]⟩
noncomputable def ob_63_13 (P : Params) : Obj := ⟨(PySem.Value.type "code"), none, (PySem.Data.fields #[(PySem.Value.str (PySem.Str.ofString "__init__") 271), (PySem.Value.str (PySem.Str.ofString "_netrclex.__init__") 272), (PySem.Value.str (PySem.Str.ofString "/claim/cut.py") 273), (PySem.Value.int (86) 0), (PySem.Value.int (2) 0), (PySem.Value.int (0) 0), (PySem.Value.int (0) 0), (PySem.Value.int (3) 0), (PySem.Value.ref 58), (PySem.Value.bool true), (PySem.Value.int (181) 0), (PySem.Value.ref 59), PySem.Value.none, (PySem.Value.ref 60), (PySem.Value.ref 61), (PySem.Value.ref 62), (PySem.Value.int (276) 0), (PySem.Value.int (86) 0), (PySem.Value.str (PySem.Str.ofString "/claim/cut.py") 277)]), #[]⟩
noncomputable def ob_64_13 (P : Params) : Obj := ⟨(PySem.Value.type "function"), none, (PySem.Data.func ⟨(PySem.Str.ofString "__init__"), (PySem.Str.ofString "_netrclex.__init__"), fnArgs (inCls 0), PySem.FuncBody.stmts (bodyOf (inCls 0)), fnScope (inCls 0), 3, [], PySem.Value.none, PySem.Value.none, PySem.Value.none, (PySem.Value.str (PySem.Str.ofString "cpy313.netrc") 257), none, (PySem.Value.ref 63), PySem.Value.none, 0⟩), #[]⟩
noncomputable def ob_65_13 (P : Params) : Obj := ⟨(PySem.Value.type "tuple"), none, (PySem.Data.seq #[] 0), #[]⟩
noncomputable def ob_66_13 (P : Params) : Obj := ⟨PySem.Value.none, none, (PySem.Data.fields #[]), #[]⟩
noncomputable def ob_67_13 (P : Params) : Obj := ⟨(PySem.Value.type "tuple"), none, (PySem.Data.seq #[(PySem.Value.str (PySem.Str.ofString "self") 282), (PySem.Value.str (PySem.Str.ofString "ch") 283)] 0), #[]⟩
noncomputable def ob_68_13 (P : Params) : Obj := ⟨(PySem.Value.type "tuple"), none, (PySem.Data.seq #[] 0), #[]⟩
noncomputable def ob_69_13 (P : Params) : Obj := ⟨PySem.Value.none, none, (PySem.Data.func ⟨(PySem.Str.ofString "_read_char"), (PySem.Str.ofString "_netrclex._read_char"), fnArgs (inCls 1), PySem.FuncBody.stmts (bodyOf (inCls 1)), fnScope (inCls 1), 0, [], PySem.Value.none, PySem.Value.none, PySem.Value.none, PySem.Value.none, none, PySem.Value.none, PySem.Value.none, 0⟩), #[]⟩
noncomputable def ob_70_13 (P : Params) : Obj := ⟨(PySem.Value.type "code"), none, (PySem.Data.fields #[(PySem.Value.str (PySem.Str.ofString "_read_char") 279), (PySem.Value.str (PySem.Str.ofString "_netrclex._read_char") 280), (PySem.Value.str (PySem.Str.ofString "/claim/cut.py") 281), (PySem.Value.int (92) 0), (PySem.Value.int (1) 0), (PySem.Value.int (0) 0), (PySem.Value.int (0) 0), (PySem.Value.int (3) 0), (PySem.Value.ref 65), (PySem.Value.bool true), (PySem.Value.int (181) 0), (PySem.Value.ref 66), PySem.Value.none, (PySem.Value.ref 67), (PySem.Value.ref 68), (PySem.Value.ref 69), (PySem.Value.int (284) 0), (PySem.Value.int (92) 0), (PySem.Value.str (PySem.Str.ofString "/claim/cut.py") 285)]), #[]⟩
noncomputable def ob_71_13 (P : Params) : Obj := ⟨(PySem.Value.type "function"), none, (PySem.Data.func ⟨(PySem.Str.ofString "_read_char"), (PySem.Str.ofString "_netrclex._read_char"), fnArgs (inCls 1), PySem.FuncBody.stmts (bodyOf (inCls 1)), fnScope (inCls 1), 3, [], PySem.Value.none, PySem.Value.none, PySem.Value.none, (PySem.Value.str (PySem.Str.ofString "cpy313.netrc") 257), none, (PySem.Value.ref 70), PySem.Value.none, 0⟩), #[]⟩
noncomputable def ob_72_13 (P : Params) : Obj := ⟨(PySem.Value.type "tuple"), none, (PySem.Data.seq #[] 0), #[]⟩
noncomputable def ob_73_13 (P : Params) : Obj := ⟨PySem.Value.none, none, (PySem.Data.fields #[]), #[]⟩
noncomputable def ob_74_13 (P : Params) : Obj := ⟨(PySem.Value.type "tuple"), none, (PySem.Data.seq #[(PySem.Value.str (PySem.Str.ofString "self") 290), (PySem.Value.str (PySem.Str.ofString "token") 291), (PySem.Value.str (PySem.Str.ofString "fiter") 292), (PySem.Value.str (PySem.Str.ofString "ch") 293)] 0), #[]⟩
noncomputable def ob_75_13 (P : Params) : Obj := ⟨(PySem.Value.type "tuple"), none, (PySem.Data.seq #[] 0), #[]⟩
noncomputable def ob_76_13 (P : Params) : Obj := ⟨PySem.Value.none, none, (PySem.Data.func ⟨(PySem.Str.ofString "get_token"), (PySem.Str.ofString "_netrclex.get_token"), fnArgs (inCls 2), PySem.FuncBody.stmts (bodyOf (inCls 2)), fnScope (inCls 2), 0, [], PySem.Value.none, PySem.Value.none, PySem.Value.none, PySem.Value.none, none, PySem.Value.none, PySem.Value.none, 0⟩), #[]⟩
noncomputable def ob_77_13 (P : Params) : Obj := ⟨(PySem.Value.type "code"), none, (PySem.Data.fields #[(PySem.Value.str (PySem.Str.ofString "get_token") 287), (PySem.Value.str (PySem.Str.ofString "_netrclex.get_token") 288), (PySem.Value.str (PySem.Str.ofString "/claim/cut.py") 289), (PySem.Value.int (98) 0), (PySem.Value.int (1) 0), (PySem.Value.int (0) 0), (PySem.Value.int (0) 0), (PySem.Value.int (3) 0), (PySem.Value.ref 72), (PySem.Value.bool true), (PySem.Value.int (181) 0), (PySem.Value.ref 73), PySem.Value.none, (PySem.Value.ref 74), (PySem.Value.ref 75), (PySem.Value.ref 76), (PySem.Value.int (294) 0), (PySem.Value.int (98) 0), (PySem.Value.str (PySem.Str.ofString "/claim/cut.py") 295)]), #[]⟩
noncomputable def ob_78_13 (P : Params) : Obj := ⟨(PySem.Value.type "function"), none, (PySem.Data.func ⟨(PySem.Str.ofString "get_token"), (PySem.Str.ofString "_netrclex.get_token"), fnArgs (inCls 2), PySem.FuncBody.stmts (bodyOf (inCls 2)), fnScope (inCls 2), 3, [], PySem.Value.none, PySem.Value.none, PySem.Value.none, (PySem.Value.str (PySem.Str.ofString "cpy313.netrc") 257), none, (PySem.Value.ref 77), PySem.Value.none, 0⟩), #[]⟩
noncomputable def ob_79_13 (P : Params) : Obj := ⟨(PySem.Value.type "tuple"), none, (PySem.Data.seq #[] 0), #[]⟩
noncomputable def ob_80_13 (P : Params) : Obj := ⟨PySem.Value.none, none, (PySem.Data.fields #[]), #[]⟩
noncomputable def ob_81_13 (P : Params) : Obj := ⟨(PySem.Value.type "tuple"), none, (PySem.Data.seq #[(PySem.Value.str (PySem.Str.ofString "self") 300), (PySem.Value.str (PySem.Str.ofString "token") 301)] 0), #[]⟩
noncomputable def ob_82_13 (P : Params) : Obj := ⟨(PySem.Value.type "tuple"), none, (PySem.Data.seq #[] 0), #[]⟩
noncomputable def ob_83_13 (P : Params) : Obj := ⟨PySem.Value.none, none, (PySem.Data.func ⟨(PySem.Str.ofString "push_token"), (PySem.Str.ofString "_netrclex.push_token"), fnArgs (inCls 3), PySem.FuncBody.stmts (bodyOf (inCls 3)), fnScope (inCls 3), 0, [], PySem.Value.none, PySem.Value.none, PySem.Value.none, PySem.Value.none, none, PySem.Value.none, PySem.Value.none, 0⟩), #[]⟩
noncomputable def ob_84_13 (P : Params) : Obj := ⟨(PySem.Value.type "code"), none, (PySem.Data.fields #[(PySem.Value.str (PySem.Str.ofString "push_token") 297), (PySem.Value.str (PySem.Str.ofString "_netrclex.push_token") 298), (PySem.Value.str (PySem.Str.ofString "/claim/cut.py") 299), (PySem.Value.int (125) 0), (PySem.Value.int (2) 0), (PySem.Value.int (0) 0), (PySem.Value.int (0) 0), (PySem.Value.int (3) 0), (PySem.Value.ref 79), (PySem.Value.bool true), (PySem.Value.int (181) 0), (PySem.Value.ref 80), PySem.Value.none, (PySem.Value.ref 81), (PySem.Value.ref 82), (PySem.Value.ref 83), (PySem.Value.int (302) 0), (PySem.Value.int (125) 0), (PySem.Value.str (PySem.Str.ofString "/claim/cut.py") 303)]), #[]⟩
noncomputable def ob_85_13 (P : Params) : Obj := ⟨(PySem.Value.type "function"), none, (PySem.Data.func ⟨(PySem.Str.ofString "push_token"), (PySem.Str.ofString "_netrclex.push_token"), fnArgs (inCls 3), PySem.FuncBody.stmts (bodyOf (inCls 3)), fnScope (inCls 3), 3, [], PySem.Value.none, PySem.Value.none, PySem.Value.none, (PySem.Value.str (PySem.Str.ofString "cpy313.netrc") 257), none, (PySem.Value.ref 84), PySem.Value.none, 0⟩), #[]⟩
noncomputable def ob_86_13 (P : Params) : Obj := ⟨(PySem.Value.type "tuple"), none, (PySem.Data.seq #[(PySem.Value.str (PySem.Str.ofString "instream") 305), (PySem.Value.str (PySem.Str.ofString "lineno") 306), (PySem.Value.str (PySem.Str.ofString "pushback") 307), (PySem.Value.str (PySem.Str.ofString "whitespace") 308)] 0), #[]⟩
noncomputable def ob_87_13 (P : Params) : Obj := ⟨(PySem.Value.type "dict"), none, (PySem.Data.dict #[⟨PySem.PyData.keyHash P (PySem.Str.ofString "__module__"), (PySem.Value.str (PySem.Str.ofString "__module__") 266), (PySem.Value.str (PySem.Str.ofString "cpy313.netrc") 257)⟩, ⟨PySem.PyData.keyHash P (PySem.Str.ofString "__firstlineno__"), (PySem.Value.str (PySem.Str.ofString "__firstlineno__") 270), (PySem.Value.int (84) 269)⟩, ⟨PySem.PyData.keyHash P (PySem.Str.ofString "__init__"), (PySem.Value.str (PySem.Str.ofString "__init__") 278), (PySem.Value.ref 64)⟩, ⟨PySem.PyData.keyHash P (PySem.Str.ofString "_read_char"), (PySem.Value.str (PySem.Str.ofString "_read_char") 286), (PySem.Value.ref 71)⟩, ⟨PySem.PyData.keyHash P (PySem.Str.ofString "get_token"), (PySem.Value.str (PySem.Str.ofString "get_token") 296), (PySem.Value.ref 78)⟩, ⟨PySem.PyData.keyHash P (PySem.Str.ofString "push_token"), (PySem.Value.str (PySem.Str.ofString "push_token") 304), (PySem.Value.ref 85)⟩, ⟨PySem.PyData.keyHash P (PySem.Str.ofString "__static_attributes__"), (PySem.Value.str (PySem.Str.ofString "__static_attributes__") 309), (PySem.Value.ref 86)⟩, ⟨PySem.PyData.keyHash P (PySem.Str.ofString "__dict__"), (PySem.Value.str (PySem.Str.ofString "__dict__") 311), (PySem.Value.ref 89)⟩, ⟨PySem.PyData.keyHash P (PySem.Str.ofString "__weakref__"), (PySem.Value.str (PySem.Str.ofString "__weakref__") 313), (PySem.Value.ref 90)⟩, ⟨PySem.PyData.keyHash P (PySem.Str.ofString "__doc__"), (PySem.Value.str (PySem.Str.ofString "__doc__") 314), PySem.Value.none⟩] 4), #[]⟩
noncomputable def ob_88_13 (P : Params) : Obj := ⟨(PySem.Value.type "type"), none, (PySem.Data.cls ⟨(PySem.Str.ofString "_netrclex"), [(PySem.Value.type "object")], [(PySem.Value.ref 88), (PySem.Value.type "object")], 87, (PySem.Str.ofString "_netrclex"), true, [], [], false, none, false⟩), #[none, none, (some (PySem.Value.str (PySem.Str.ofString "_netrclex") 259)), (some (PySem.Value.str (PySem.Str.ofString "_netrclex") 267)), (some (PySem.Value.builtin "object.__new__")), (some (PySem.Value.bool true))]⟩
noncomputable def ob_89_13 (P : Params) : Obj := ⟨(PySem.Value.type "getset_descriptor"), none, (PySem.Data.fields #[(PySem.Value.str (PySem.Str.ofString "__dict__") 310), (PySem.Value.ref 88), (PySem.Value.builtin "function.__dict__"), (PySem.Value.builtin "function.__dict__#set")]), #[]⟩
noncomputable def ob_90_13 (P : Params) : Obj := ⟨(PySem.Value.type "getset_descriptor"), none, (PySem.Data.fields #[(PySem.Value.str (PySem.Str.ofString "__weakref__") 312), (PySem.Value.ref 88), (PySem.Value.builtin "ExceptionGroup.__weakref__"), PySem.Value.none]), #[]⟩
noncomputable def ob_91_13 (P : Params) : Obj := ⟨(PySem.Value.type "super"), none, (PySem.Data.fields #[(PySem.Value.ref 88), (PySem.Value.ref 88), (PySem.Value.ref 88)]), #[]⟩
noncomputable def ob_92_13 (P : Params) : Obj := ⟨(PySem.Value.type "builtin_function_or_method"), none, (PySem.Data.fields #[(PySem.Value.builtin "object.__init_subclass__"), (PySem.Value.ref 88)]), #[]⟩
noncomputable def T11 (P : Params) : BT :=
  .node (boot_o_0 P) (.node (boot_o_1 P) (.node (ob_3_13 P) (.node (boot_o_7 P) (.node (ob_15_13 P) (.node (ob_31_13 P) (.node (ob_63_13 P) (.nil) (.nil)) (.nil)) (.node (ob_47_13 P) (.node (ob_79_13 P) (.nil) (.nil)) (.nil))) (.node (ob_23_13 P) (.node (ob_39_13 P) (.node (ob_71_13 P) (.nil) (.nil)) (.nil)) (.node (ob_55_13 P) (.node (ob_87_13 P) (.nil) (.nil)) (.nil)))) (.node (ob_11_0 P) (.node (ob_19_13 P) (.node (ob_35_13 P) (.node (ob_67_13 P) (.nil) (.nil)) (.nil)) (.node (ob_51_13 P) (.node (ob_83_13 P) (.nil) (.nil)) (.nil))) (.node (ob_27_13 P) (.node (ob_43_13 P) (.node (ob_75_13 P) (.nil) (.nil)) (.nil)) (.node (ob_59_13 P) (.node (ob_91_13 P) (.nil) (.nil)) (.nil))))) (.node (boot_o_5 P) (.node (boot_o_9 P) (.node (ob_17_13 P) (.node (ob_33_13 P) (.node (ob_65_13 P) (.nil) (.nil)) (.nil)) (.node (ob_49_13 P) (.node (ob_81_13 P) (.nil) (.nil)) (.nil))) (.node (ob_25_13 P) (.node (ob_41_13 P) (.node (ob_73_13 P) (.nil) (.nil)) (.nil)) (.node (ob_57_13 P) (.node (ob_89_13 P) (.nil) (.nil)) (.nil)))) (.node (ob_13_0 P) (.node (ob_21_13 P) (.node (ob_37_13 P) (.node (ob_69_13 P) (.nil) (.nil)) (.nil)) (.node (ob_53_13 P) (.node (ob_85_13 P) (.nil) (.nil)) (.nil))) (.node (ob_29_13 P) (.node (ob_45_13 P) (.node (ob_77_13 P) (.nil) (.nil)) (.nil)) (.node (ob_61_13 P) (.nil) (.nil)))))) (.node (boot_o_2 P) (.node (boot_o_4 P) (.node (boot_o_8 P) (.node (ob_16_13 P) (.node (ob_32_13 P) (.node (ob_64_13 P) (.nil) (.nil)) (.nil)) (.node (ob_48_13 P) (.node (ob_80_13 P) (.nil) (.nil)) (.nil))) (.node (ob_24_13 P) (.node (ob_40_13 P) (.node (ob_72_13 P) (.nil) (.nil)) (.nil)) (.node (ob_56_13 P) (.node (ob_88_13 P) (.nil) (.nil)) (.nil)))) (.node (ob_12_13 P) (.node (ob_20_13 P) (.node (ob_36_13 P) (.node (ob_68_13 P) (.nil) (.nil)) (.nil)) (.node (ob_52_13 P) (.node (ob_84_13 P) (.nil) (.nil)) (.nil))) (.node (ob_28_13 P) (.node (ob_44_13 P) (.node (ob_76_13 P) (.nil) (.nil)) (.nil)) (.node (ob_60_13 P) (.node (ob_92_13 P) (.nil) (.nil)) (.nil))))) (.node (boot_o_6 P) (.node (boot_o_10 P) (.node (ob_18_13 P) (.node (ob_34_13 P) (.node (ob_66_13 P) (.nil) (.nil)) (.nil)) (.node (ob_50_13 P) (.node (ob_82_13 P) (.nil) (.nil)) (.nil))) (.node (ob_26_13 P) (.node (ob_42_13 P) (.node (ob_74_13 P) (.nil) (.nil)) (.nil)) (.node (ob_58_13 P) (.node (ob_90_13 P) (.nil) (.nil)) (.nil)))) (.node (ob_14_0 P) (.node (ob_22_13 P) (.node (ob_38_13 P) (.node (ob_70_13 P) (.nil) (.nil)) (.nil)) (.node (ob_54_13 P) (.node (ob_86_13 P) (.nil) (.nil)) (.nil))) (.node (ob_30_13 P) (.node (ob_46_13 P) (.node (ob_78_13 P) (.nil) (.nil)) (.nil)) (.node (ob_62_13 P) (.nil) (.nil))))))
noncomputable def pos11 : Pos := ⟨127, 0, 127, 8⟩
noncomputable abbrev S11 (w : World) (os : OsState) : SharedT := ⟨T11 w.params, 93, {}, #[], {}, 319, os⟩
noncomputable def ob_3_15 (P : Params) : Obj := ⟨(PySem.Value.type "dict"), none, (PySem.Data.dict #[⟨PySem.PyData.keyHash P (PySem.Str.ofString "__name__"), (PySem.Value.str (PySem.Str.ofString "__name__") 165), (PySem.Value.str (PySem.Str.ofString "cpy313.stringprep") 317)⟩, ⟨PySem.PyData.keyHash P (PySem.Str.ofString "__doc__"), (PySem.Value.str (PySem.Str.ofString "__doc__") 166), PySem.Value.none⟩, ⟨PySem.PyData.keyHash P (PySem.Str.ofString "__package__"), (PySem.Value.str (PySem.Str.ofString "__package__") 167), PySem.Value.none⟩, ⟨PySem.PyData.keyHash P (PySem.Str.ofString "__loader__"), (PySem.Value.str (PySem.Str.ofString "__loader__") 168), (PySem.Value.builtin "__main__.__loader__#opaque")⟩, ⟨PySem.PyData.keyHash P (PySem.Str.ofString "__spec__"), (PySem.Value.str (PySem.Str.ofString "__spec__") 169), PySem.Value.none⟩, ⟨PySem.PyData.keyHash P (PySem.Str.ofString "__annotations__"), (PySem.Value.str (PySem.Str.ofString "__annotations__") 170), (PySem.Value.ref 6)⟩, ⟨PySem.PyData.keyHash P (PySem.Str.ofString "__builtins__"), (PySem.Value.str (PySem.Str.ofString "__builtins__") 171), (PySem.Value.ref 4)⟩, ⟨PySem.PyData.keyHash P (PySem.Str.ofString "__file__"), (PySem.Value.str (PySem.Str.ofString "__file__") 173), (PySem.Value.str (PySem.Str.ofString "/claim/cut.py") 172)⟩, ⟨PySem.PyData.keyHash P (PySem.Str.ofString "__cached__"), (PySem.Value.str (PySem.Str.ofString "__cached__") 174), PySem.Value.none⟩, ⟨PySem.PyData.keyHash P (PySem.Str.ofString "_wall"), (PySem.Value.str (PySem.Str.ofString "_wall") 193), (PySem.Value.ref 21)⟩, ⟨PySem.PyData.keyHash P (PySem.Str.ofString "compute_powers"), (PySem.Value.str (PySem.Str.ofString "compute_powers") 215), (PySem.Value.ref 29)⟩, ⟨PySem.PyData.keyHash P (PySem.Str.ofString "_int2digits"), (PySem.Value.str (PySem.Str.ofString "_int2digits") 226), (PySem.Value.ref 36)⟩, ⟨PySem.PyData.keyHash P (PySem.Str.ofString "_digits2int"), (PySem.Value.str (PySem.Str.ofString "_digits2int") 237), (PySem.Value.ref 43)⟩, ⟨PySem.PyData.keyHash P (PySem.Str.ofString "ONE_SIXTH"), (PySem.Value.str (PySem.Str.ofString "ONE_SIXTH") 243), (PySem.Value.float 4595172819793696085 242)⟩, ⟨PySem.PyData.keyHash P (PySem.Str.ofString "TWO_THIRD"), (PySem.Value.str (PySem.Str.ofString "TWO_THIRD") 247), (PySem.Value.float 4604180019048437077 246)⟩, ⟨PySem.PyData.keyHash P (PySem.Str.ofString "_v"), (PySem.Value.str (PySem.Str.ofString "_v") 256), (PySem.Value.ref 50)⟩, ⟨PySem.PyData.keyHash P (PySem.Str.ofString "_netrclex"), (PySem.Value.str (PySem.Str.ofString "_netrclex") 316), (PySem.Value.ref 88)⟩, ⟨PySem.PyData.keyHash P (PySem.Str.ofString "b1_set"), (PySem.Value.str (PySem.Str.ofString "b1_set") 378), (PySem.Value.ref 100)⟩, ⟨PySem.PyData.keyHash P (PySem.Str.ofString "in_table_b1"), (PySem.Value.str (PySem.Str.ofString "in_table_b1") 385), (PySem.Value.ref 110)⟩] 19), #[]⟩
noncomputable def ob_12_15 (P : Params) : Obj := ⟨PySem.Value.none, none, (PySem.Data.fields #[(PySem.Value.int (1) 0), (PySem.Value.int (0) 0), (PySem.Value.ref 20), (PySem.Value.int (5) 0), (PySem.Value.int (0) 0), (PySem.Value.ref 28), (PySem.Value.int (46) 0), (PySem.Value.int (0) 0), (PySem.Value.ref 35), (PySem.Value.int (62) 0), (PySem.Value.int (0) 0), (PySem.Value.ref 42), (PySem.Value.int (74) 0), (PySem.Value.int (0) 0), (PySem.Value.ref 49), (PySem.Value.int (84) 0), (PySem.Value.int (0) 0), (PySem.Value.ref 56), (PySem.Value.int (129) 0), (PySem.Value.int (0) 0), (PySem.Value.ref 109)]), #[]⟩
noncomputable def ob_93_15 (P : Params) : Obj := ⟨(PySem.Value.type "list"), none, (PySem.Data.seq #[(PySem.Value.int (173) 319), (PySem.Value.int (847) 320), (PySem.Value.int (6150) 321), (PySem.Value.int (6155) 322), (PySem.Value.int (6156) 323), (PySem.Value.int (6157) 324), (PySem.Value.int (8203) 325), (PySem.Value.int (8204) 326), (PySem.Value.int (8205) 327), (PySem.Value.int (8288) 328), (PySem.Value.int (65279) 329)] 0), #[]⟩
noncomputable def ob_94_15 (P : Params) : Obj := ⟨(PySem.Value.type "range"), none, (PySem.Data.fields #[(PySem.Value.int (65024) 330), (PySem.Value.int (65040) 331), (PySem.Value.int (1) 332)]), #[]⟩
noncomputable def ob_95_15 (P : Params) : Obj := ⟨(PySem.Value.type "list"), none, (PySem.Data.seq #[(PySem.Value.int (65024) 335), (PySem.Value.int (65025) 336), (PySem.Value.int (65026) 337), (PySem.Value.int (65027) 338), (PySem.Value.int (65028) 339), (PySem.Value.int (65029) 340), (PySem.Value.int (65030) 341), (PySem.Value.int (65031) 342), (PySem.Value.int (65032) 343), (PySem.Value.int (65033) 344), (PySem.Value.int (65034) 345), (PySem.Value.int (65035) 346), (PySem.Value.int (65036) 347), (PySem.Value.int (65037) 348), (PySem.Value.int (65038) 349), (PySem.Value.int (65039) 350)] 18), #[]⟩
noncomputable def ob_96_15 (P : Params) : Obj := ⟨(PySem.Value.type "range_iterator"), none, (PySem.Data.fields #[(PySem.Value.int (65040) 0), (PySem.Value.int (0) 0), (PySem.Value.int (1) 0)]), #[]⟩
noncomputable def ob_97_15 (P : Params) : Obj := ⟨(PySem.Value.type "tuple"), none, (PySem.Data.seq #[] 0), #[]⟩
noncomputable def ob_98_15 (P : Params) : Obj := ⟨(PySem.Value.type "StopIteration"), none, (PySem.Data.fields #[(PySem.Value.ref 97), PySem.Value.none, PySem.Value.none, PySem.Value.none, (PySem.Value.bool false), PySem.Value.none]), #[]⟩
noncomputable def ob_99_15 (P : Params) : Obj := ⟨(PySem.Value.type "list"), none, (PySem.Data.seq #[(PySem.Value.int (173) 319), (PySem.Value.int (847) 320), (PySem.Value.int (6150) 321), (PySem.Value.int (6155) 322), (PySem.Value.int (6156) 323), (PySem.Value.int (6157) 324), (PySem.Value.int (8203) 325), (PySem.Value.int (8204) 326), (PySem.Value.int (8205) 327), (PySem.Value.int (8288) 328), (PySem.Value.int (65279) 329), (PySem.Value.int (65024) 335), (PySem.Value.int (65025) 336), (PySem.Value.int (65026) 337), (PySem.Value.int (65027) 338), (PySem.Value.int (65028) 339), (PySem.Value.int (65029) 340), (PySem.Value.int (65030) 341), (PySem.Value.int (65031) 342), (PySem.Value.int (65032) 343), (PySem.Value.int (65033) 344), (PySem.Value.int (65034) 345), (PySem.Value.int (65035) 346), (PySem.Value.int (65036) 347), (PySem.Value.int (65037) 348), (PySem.Value.int (65038) 349), (PySem.Value.int (65039) 350)] 0), #[]⟩
noncomputable def ob_100_15 (P : Params) : Obj := ⟨(PySem.Value.type "set"), none, (PySem.Data.set #[(65024, (PySem.Value.int (65024) 335)), (65025, (PySem.Value.int (65025) 336)), (65026, (PySem.Value.int (65026) 337)), (65027, (PySem.Value.int (65027) 338)), (65028, (PySem.Value.int (65028) 339)), (65029, (PySem.Value.int (65029) 340)), (6150, (PySem.Value.int (6150) 321)), (65030, (PySem.Value.int (65030) 341)), (65031, (PySem.Value.int (65031) 342)), (65032, (PySem.Value.int (65032) 343)), (65033, (PySem.Value.int (65033) 344)), (6155, (PySem.Value.int (6155) 322)), (6156, (PySem.Value.int (6156) 323)), (6157, (PySem.Value.int (6157) 324)), (8203, (PySem.Value.int (8203) 325)), (8204, (PySem.Value.int (8204) 326)), (8205, (PySem.Value.int (8205) 327)), (65034, (PySem.Value.int (65034) 345)), (65035, (PySem.Value.int (65035) 346)), (65036, (PySem.Value.int (65036) 347)), (65037, (PySem.Value.int (65037) 348)), (65038, (PySem.Value.int (65038) 349)), (65039, (PySem.Value.int (65039) 350)), (173, (PySem.Value.int (173) 319)), (847, (PySem.Value.int (847) 320)), (8288, (PySem.Value.int (8288) 328)), (65279, (PySem.Value.int (65279) 329))] 29 { mask := 127, place := #[0, 1, 2, 3, 4, 5, 6, 7, 8, 9, 10, 11, 12, 13, 14, 15, 16, 17, 18, 19, 20, 21, 22, 45, 79, 96, 127], dummies := #[], finger := 0, led := Bool.not (PySem.Params.followText P "set-order"), moves := 2, plain := true }), #[]⟩
noncomputable def ob_101_15 (P : Params) : Obj := ⟨(PySem.Value.type "list_iterator"), none, (PySem.Data.fields #[PySem.Value.none, (PySem.Value.int (27) 0)]), #[]⟩
noncomputable def ob_102_15 (P : Params) : Obj := ⟨(PySem.Value.type "tuple"), none, (PySem.Data.seq #[] 0), #[]⟩
noncomputable def ob_103_15 (P : Params) : Obj := ⟨(PySem.Value.type "StopIteration"), none, (PySem.Data.fields #[(PySem.Value.ref 102), PySem.Value.none, PySem.Value.none, PySem.Value.none, (PySem.Value.bool false), PySem.Value.none]), #[]⟩
noncomputable def ob_104_15 (P : Params) : Obj := ⟨(PySem.Value.type "tuple"), none, (PySem.Data.seq #[] 0), #[]⟩
noncomputable def ob_105_15 (P : Params) : Obj := ⟨PySem.Value.none, none, (PySem.Data.fields #[]), #[]⟩
noncomputable def ob_106_15 (P : Params) : Obj := ⟨(PySem.Value.type "tuple"), none, (PySem.Data.seq #[(PySem.Value.str (PySem.Str.ofString "code") 382)] 0), #[]⟩
noncomputable def ob_107_15 (P : Params) : Obj := ⟨(PySem.Value.type "tuple"), none, (PySem.Data.seq #[] 0), #[]⟩
noncomputable def ob_108_15 (P : Params) : Obj := ⟨PySem.Value.none, none, (PySem.Data.func ⟨(PySem.Str.ofString "in_table_b1"), (PySem.Str.ofString "in_table_b1"), fnArgs (stAt 13), PySem.FuncBody.stmts (bodyOf (stAt 13)), fnScope (stAt 13), 0, [], PySem.Value.none, PySem.Value.none, PySem.Value.none, PySem.Value.none, none, PySem.Value.none, PySem.Value.none, 0⟩), #[]⟩
noncomputable def ob_109_15 (P : Params) : Obj := ⟨(PySem.Value.type "code"), none, (PySem.Data.fields #[(PySem.Value.str (PySem.Str.ofString "in_table_b1") 379), (PySem.Value.str (PySem.Str.ofString "in_table_b1") 380), (PySem.Value.str (PySem.Str.ofString "/claim/cut.py") 381), (PySem.Value.int (129) 0), (PySem.Value.int (1) 0), (PySem.Value.int (0) 0), (PySem.Value.int (0) 0), (PySem.Value.int (3) 0), (PySem.Value.ref 104), (PySem.Value.bool true), (PySem.Value.int (181) 0), (PySem.Value.ref 105), PySem.Value.none, (PySem.Value.ref 106), (PySem.Value.ref 107), (PySem.Value.ref 108), (PySem.Value.int (383) 0), (PySem.Value.int (129) 0), (PySem.Value.str (PySem.Str.ofString "/claim/cut.py") 384)]), #[]⟩
noncomputable def ob_110_15 (P : Params) : Obj := ⟨(PySem.Value.type "function"), none, (PySem.Data.func ⟨(PySem.Str.ofString "in_table_b1"), (PySem.Str.ofString "in_table_b1"), fnArgs (stAt 13), PySem.FuncBody.stmts (bodyOf (stAt 13)), fnScope (stAt 13), 3, [], PySem.Value.none, PySem.Value.none, PySem.Value.none, (PySem.Value.str (PySem.Str.ofString "cpy313.stringprep") 317), none, (PySem.Value.ref 109), PySem.Value.none, 0⟩), #[]⟩
noncomputable def T13 (P : Params) : BT :=
  .node (boot_o_0 P) (.node (boot_o_1 P) (.node (ob_3_15 P) (.node (boot_o_7 P) (.node (ob_15_13 P) (.node (ob_31_13 P) (.node (ob_63_13 P) (.nil) (.nil)) (.node (ob_95_15 P) (.nil) (.nil))) (.node (ob_47_13 P) (.node (ob_79_13 P) (.nil) (.nil)) (.nil))) (.node (ob_23_13 P) (.node (ob_39_13 P) (.node (ob_71_13 P) (.nil) (.nil)) (.node (ob_103_15 P) (.nil) (.nil))) (.node (ob_55_13 P) (.node (ob_87_13 P) (.nil) (.nil)) (.nil)))) (.node (ob_11_0 P) (.node (ob_19_13 P) (.node (ob_35_13 P) (.node (ob_67_13 P) (.nil) (.nil)) (.node (ob_99_15 P) (.nil) (.nil))) (.node (ob_51_13 P) (.node (ob_83_13 P) (.nil) (.nil)) (.nil))) (.node (ob_27_13 P) (.node (ob_43_13 P) (.node (ob_75_13 P) (.nil) (.nil)) (.node (ob_107_15 P) (.nil) (.nil))) (.node (ob_59_13 P) (.node (ob_91_13 P) (.nil) (.nil)) (.nil))))) (.node (boot_o_5 P) (.node (boot_o_9 P) (.node (ob_17_13 P) (.node (ob_33_13 P) (.node (ob_65_13 P) (.nil) (.nil)) (.node (ob_97_15 P) (.nil) (.nil))) (.node (ob_49_13 P) (.node (ob_81_13 P) (.nil) (.nil)) (.nil))) (.node (ob_25_13 P) (.node (ob_41_13 P) (.node (ob_73_13 P) (.nil) (.nil)) (.node (ob_105_15 P) (.nil) (.nil))) (.node (ob_57_13 P) (.node (ob_89_13 P) (.nil) (.nil)) (.nil)))) (.node (ob_13_0 P) (.node (ob_21_13 P) (.node (ob_37_13 P) (.node (ob_69_13 P) (.nil) (.nil)) (.node (ob_101_15 P) (.nil) (.nil))) (.node (ob_53_13 P) (.node (ob_85_13 P) (.nil) (.nil)) (.nil))) (.node (ob_29_13 P) (.node (ob_45_13 P) (.node (ob_77_13 P) (.nil) (.nil)) (.node (ob_109_15 P) (.nil) (.nil))) (.node (ob_61_13 P) (.node (ob_93_15 P) (.nil) (.nil)) (.nil)))))) (.node (boot_o_2 P) (.node (boot_o_4 P) (.node (boot_o_8 P) (.node (ob_16_13 P) (.node (ob_32_13 P) (.node (ob_64_13 P) (.nil) (.nil)) (.node (ob_96_15 P) (.nil) (.nil))) (.node (ob_48_13 P) (.node (ob_80_13 P) (.nil) (.nil)) (.nil))) (.node (ob_24_13 P) (.node (ob_40_13 P) (.node (ob_72_13 P) (.nil) (.nil)) (.node (ob_104_15 P) (.nil) (.nil))) (.node (ob_56_13 P) (.node (ob_88_13 P) (.nil) (.nil)) (.nil)))) (.node (ob_12_15 P) (.node (ob_20_13 P) (.node (ob_36_13 P) (.node (ob_68_13 P) (.nil) (.nil)) (.node (ob_100_15 P) (.nil) (.nil))) (.node (ob_52_13 P) (.node (ob_84_13 P) (.nil) (.nil)) (.nil))) (.node (ob_28_13 P) (.node (ob_44_13 P) (.node (ob_76_13 P) (.nil) (.nil)) (.node (ob_108_15 P) (.nil) (.nil))) (.node (ob_60_13 P) (.node (ob_92_13 P) (.nil) (.nil)) (.nil))))) (.node (boot_o_6 P) (.node (boot_o_10 P) (.node (ob_18_13 P) (.node (ob_34_13 P) (.node (ob_66_13 P) (.nil) (.nil)) (.node (ob_98_15 P) (.nil) (.nil))) (.node (ob_50_13 P) (.node (ob_82_13 P) (.nil) (.nil)) (.nil))) (.node (ob_26_13 P) (.node (ob_42_13 P) (.node (ob_74_13 P) (.nil) (.nil)) (.node (ob_106_15 P) (.nil) (.nil))) (.node (ob_58_13 P) (.node (ob_90_13 P) (.nil) (.nil)) (.nil)))) (.node (ob_14_0 P) (.node (ob_22_13 P) (.node (ob_38_13 P) (.node (ob_70_13 P) (.nil) (.nil)) (.node (ob_102_15 P) (.nil) (.nil))) (.node (ob_54_13 P) (.node (ob_86_13 P) (.nil) (.nil)) (.nil))) (.node (ob_30_13 P) (.node (ob_46_13 P) (.node (ob_78_13 P) (.nil) (.nil)) (.node (ob_110_15 P) (.nil) (.nil))) (.node (ob_62_13 P) (.node (ob_94_15 P) (.nil) (.nil)) (.nil))))))
noncomputable def pos13 : Pos := ⟨129, 0, 130, 30⟩
noncomputable abbrev S13 (w : World) (os : OsState) : SharedT := ⟨T13 w.params, 111, {}, #[], {}, 386, os⟩
noncomputable def ob_3_16 (P : Params) : Obj := ⟨(PySem.Value.type "dict"), none, (PySem.Data.dict #[⟨PySem.PyData.keyHash P (PySem.Str.ofString "__name__"), (PySem.Value.str (PySem.Str.ofString "__name__") 165), (PySem.Value.str (PySem.Str.ofString "cpy313.stringprep") 317)⟩, ⟨PySem.PyData.keyHash P (PySem.Str.ofString "__doc__"), (PySem.Value.str (PySem.Str.ofString "__doc__") 166), PySem.Value.none⟩, ⟨PySem.PyData.keyHash P (PySem.Str.ofString "__package__"), (PySem.Value.str (PySem.Str.ofString "__package__") 167), PySem.Value.none⟩, ⟨PySem.PyData.keyHash P (PySem.Str.ofString "__loader__"), (PySem.Value.str (PySem.Str.ofString "__loader__") 168), (PySem.Value.builtin "__main__.__loader__#opaque")⟩, ⟨PySem.PyData.keyHash P (PySem.Str.ofString "__spec__"), (PySem.Value.str (PySem.Str.ofString "__spec__") 169), PySem.Value.none⟩, ⟨PySem.PyData.keyHash P (PySem.Str.ofString "__annotations__"), (PySem.Value.str (PySem.Str.ofString "__annotations__") 170), (PySem.Value.ref 6)⟩, ⟨PySem.PyData.keyHash P (PySem.Str.ofString "__builtins__"), (PySem.Value.str (PySem.Str.ofString "__builtins__") 171), (PySem.Value.ref 4)⟩, ⟨PySem.PyData.keyHash P (PySem.Str.ofString "__file__"), (PySem.Value.str (PySem.Str.ofString "__file__") 173), (PySem.Value.str (PySem.Str.ofString "/claim/cut.py") 172)⟩, ⟨PySem.PyData.keyHash P (PySem.Str.ofString "__cached__"), (PySem.Value.str (PySem.Str.ofString "__cached__") 174), PySem.Value.none⟩, ⟨PySem.PyData.keyHash P (PySem.Str.ofString "_wall"), (PySem.Value.str (PySem.Str.ofString "_wall") 193), (PySem.Value.ref 21)⟩, ⟨PySem.PyData.keyHash P (PySem.Str.ofString "compute_powers"), (PySem.Value.str (PySem.Str.ofString "compute_powers") 215), (PySem.Value.ref 29)⟩, ⟨PySem.PyData.keyHash P (PySem.Str.ofString "_int2digits"), (PySem.Value.str (PySem.Str.ofString "_int2digits") 226), (PySem.Value.ref 36)⟩, ⟨PySem.PyData.keyHash P (PySem.Str.ofString "_digits2int"), (PySem.Value.str (PySem.Str.ofString "_digits2int") 237), (PySem.Value.ref 43)⟩, ⟨PySem.PyData.keyHash P (PySem.Str.ofString "ONE_SIXTH"), (PySem.Value.str (PySem.Str.ofString "ONE_SIXTH") 243), (PySem.Value.float 4595172819793696085 242)⟩, ⟨PySem.PyData.keyHash P (PySem.Str.ofString "TWO_THIRD"), (PySem.Value.str (PySem.Str.ofString "TWO_THIRD") 247), (PySem.Value.float 4604180019048437077 246)⟩, ⟨PySem.PyData.keyHash P (PySem.Str.ofString "_v"), (PySem.Value.str (PySem.Str.ofString "_v") 256), (PySem.Value.ref 50)⟩, ⟨PySem.PyData.keyHash P (PySem.Str.ofString "_netrclex"), (PySem.Value.str (PySem.Str.ofString "_netrclex") 316), (PySem.Value.ref 88)⟩, ⟨PySem.PyData.keyHash P (PySem.Str.ofString "b1_set"), (PySem.Value.str (PySem.Str.ofString "b1_set") 378), (PySem.Value.ref 100)⟩, ⟨PySem.PyData.keyHash P (PySem.Str.ofString "in_table_b1"), (PySem.Value.str (PySem.Str.ofString "in_table_b1") 385), (PySem.Value.ref 110)⟩, ⟨PySem.PyData.keyHash P (PySem.Str.ofString "b3_exceptions"), (PySem.Value.str (PySem.Str.ofString "b3_exceptions") 2336), (PySem.Value.ref 111)⟩] 20), #[]⟩
noncomputable def ob_111_16 (P : Params) : Obj := ⟨(PySem.Value.type "dict"), none, (PySem.Data.dict (List.toArray b3entries) 650), #[]⟩
noncomputable def ob_112_16 (P : Params) : Obj := ⟨(PySem.Value.type "dict"), none, (PySem.Data.dict (List.toArray (b3from 17 ((b3pairs.drop 17).take 17))) 17), #[]⟩
noncomputable def ob_113_16 (P : Params) : Obj := ⟨(PySem.Value.type "dict"), none, (PySem.Data.dict (List.toArray (b3from 34 ((b3pairs.drop 34).take 17))) 17), #[]⟩
noncomputable def ob_114_16 (P : Params) : Obj := ⟨(PySem.Value.type "dict"), none, (PySem.Data.dict (List.toArray (b3from 51 ((b3pairs.drop 51).take 17))) 17), #[]⟩
noncomputable def ob_115_16 (P : Params) : Obj := ⟨(PySem.Value.type "dict"), none, (PySem.Data.dict (List.toArray (b3from 68 ((b3pairs.drop 68).take 17))) 17), #[]⟩
noncomputable def ob_116_16 (P : Params) : Obj := ⟨(PySem.Value.type "dict"), none, (PySem.Data.dict (List.toArray (b3from 85 ((b3pairs.drop 85).take 17))) 17), #[]⟩
noncomputable def ob_117_16 (P : Params) : Obj := ⟨(PySem.Value.type "dict"), none, (PySem.Data.dict (List.toArray (b3from 102 ((b3pairs.drop 102).take 17))) 17), #[]⟩
noncomputable def ob_118_16 (P : Params) : Obj := ⟨(PySem.Value.type "dict"), none, (PySem.Data.dict (List.toArray (b3from 119 ((b3pairs.drop 119).take 17))) 17), #[]⟩
noncomputable def ob_119_16 (P : Params) : Obj := ⟨(PySem.Value.type "dict"), none, (PySem.Data.dict (List.toArray (b3from 136 ((b3pairs.drop 136).take 17))) 17), #[]⟩
noncomputable def ob_120_16 (P : Params) : Obj := ⟨(PySem.Value.type "dict"), none, (PySem.Data.dict (List.toArray (b3from 153 ((b3pairs.drop 153).take 17))) 17), #[]⟩
noncomputable def ob_121_16 (P : Params) : Obj := ⟨(PySem.Value.type "dict"), none, (PySem.Data.dict (List.toArray (b3from 170 ((b3pairs.drop 170).take 17))) 17), #[]⟩
noncomputable def ob_122_16 (P : Params) : Obj := ⟨(PySem.Value.type "dict"), none, (PySem.Data.dict (List.toArray (b3from 187 ((b3pairs.drop 187).take 17))) 17), #[]⟩
noncomputable def ob_123_16 (P : Params) : Obj := ⟨(PySem.Value.type "dict"), none, (PySem.Data.dict (List.toArray (b3from 204 ((b3pairs.drop 204).take 17))) 17), #[]⟩
noncomputable def ob_124_16 (P : Params) : Obj := ⟨(PySem.Value.type "dict"), none, (PySem.Data.dict (List.toArray (b3from 221 ((b3pairs.drop 221).take 17))) 17), #[]⟩
noncomputable def ob_125_16 (P : Params) : Obj := ⟨(PySem.Value.type "dict"), none, (PySem.Data.dict (List.toArray (b3from 238 ((b3pairs.drop 238).take 17))) 17), #[]⟩
noncomputable def ob_126_16 (P : Params) : Obj := ⟨(PySem.Value.type "dict"), none, (PySem.Data.dict (List.toArray (b3from 255 ((b3pairs.drop 255).take 17))) 17), #[]⟩
noncomputable def ob_127_16 (P : Params) : Obj := ⟨(PySem.Value.type "dict"), none, (PySem.Data.dict (List.toArray (b3from 272 ((b3pairs.drop 272).take 17))) 17), #[]⟩
noncomputable def ob_128_16 (P : Params) : Obj := ⟨(PySem.Value.type "dict"), none, (PySem.Data.dict (List.toArray (b3from 289 ((b3pairs.drop 289).take 17))) 17), #[]⟩
noncomputable def ob_129_16 (P : Params) : Obj := ⟨(PySem.Value.type "dict"), none, (PySem.Data.dict (List.toArray (b3from 306 ((b3pairs.drop 306).take 17))) 17), #[]⟩
noncomputable def ob_130_16 (P : Params) : Obj := ⟨(PySem.Value.type "dict"), none, (PySem.Data.dict (List.toArray (b3from 323 ((b3pairs.drop 323).take 17))) 17), #[]⟩
noncomputable def ob_131_16 (P : Params) : Obj := ⟨(PySem.Value.type "dict"), none, (PySem.Data.dict (List.toArray (b3from 340 ((b3pairs.drop 340).take 17))) 17), #[]⟩
noncomputable def ob_132_16 (P : Params) : Obj := ⟨(PySem.Value.type "dict"), none, (PySem.Data.dict (List.toArray (b3from 357 ((b3pairs.drop 357).take 17))) 17), #[]⟩
noncomputable def ob_133_16 (P : Params) : Obj := ⟨(PySem.Value.type "dict"), none, (PySem.Data.dict (List.toArray (b3from 374 ((b3pairs.drop 374).take 17))) 17), #[]⟩
noncomputable def ob_134_16 (P : Params) : Obj := ⟨(PySem.Value.type "dict"), none, (PySem.Data.dict (List.toArray (b3from 391 ((b3pairs.drop 391).take 17))) 17), #[]⟩
noncomputable def ob_135_16 (P : Params) : Obj := ⟨(PySem.Value.type "dict"), none, (PySem.Data.dict (List.toArray (b3from 408 ((b3pairs.drop 408).take 17))) 17), #[]⟩
noncomputable def ob_136_16 (P : Params) : Obj := ⟨(PySem.Value.type "dict"), none, (PySem.Data.dict (List.toArray (b3from 425 ((b3pairs.drop 425).take 17))) 17), #[]⟩
noncomputable def ob_137_16 (P : Params) : Obj := ⟨(PySem.Value.type "dict"), none, (PySem.Data.dict (List.toArray (b3from 442 ((b3pairs.drop 442).take 17))) 17), #[]⟩
noncomputable def ob_138_16 (P : Params) : Obj := ⟨(PySem.Value.type "dict"), none, (PySem.Data.dict (List.toArray (b3from 459 ((b3pairs.drop 459).take 17))) 17), #[]⟩
noncomputable def ob_139_16 (P : Params) : Obj := ⟨(PySem.Value.type "dict"), none, (PySem.Data.dict (List.toArray (b3from 476 ((b3pairs.drop 476).take 17))) 17), #[]⟩
noncomputable def ob_140_16 (P : Params) : Obj := ⟨(PySem.Value.type "dict"), none, (PySem.Data.dict (List.toArray (b3from 493 ((b3pairs.drop 493).take 17))) 17), #[]⟩
noncomputable def ob_141_16 (P : Params) : Obj := ⟨(PySem.Value.type "dict"), none, (PySem.Data.dict (List.toArray (b3from 510 ((b3pairs.drop 510).take 17))) 17), #[]⟩
noncomputable def ob_142_16 (P : Params) : Obj := ⟨(PySem.Value.type "dict"), none, (PySem.Data.dict (List.toArray (b3from 527 ((b3pairs.drop 527).take 17))) 17), #[]⟩
noncomputable def ob_143_16 (P : Params) : Obj := ⟨(PySem.Value.type "dict"), none, (PySem.Data.dict (List.toArray (b3from 544 ((b3pairs.drop 544).take 17))) 17), #[]⟩
noncomputable def ob_144_16 (P : Params) : Obj := ⟨(PySem.Value.type "dict"), none, (PySem.Data.dict (List.toArray (b3from 561 ((b3pairs.drop 561).take 17))) 17), #[]⟩
noncomputable def ob_145_16 (P : Params) : Obj := ⟨(PySem.Value.type "dict"), none, (PySem.Data.dict (List.toArray (b3from 578 ((b3pairs.drop 578).take 17))) 17), #[]⟩
noncomputable def ob_146_16 (P : Params) : Obj := ⟨(PySem.Value.type "dict"), none, (PySem.Data.dict (List.toArray (b3from 595 ((b3pairs.drop 595).take 17))) 17), #[]⟩
noncomputable def ob_147_16 (P : Params) : Obj := ⟨(PySem.Value.type "dict"), none, (PySem.Data.dict (List.toArray (b3from 612 ((b3pairs.drop 612).take 17))) 17), #[]⟩
noncomputable def ob_148_16 (P : Params) : Obj := ⟨(PySem.Value.type "dict"), none, (PySem.Data.dict (List.toArray (b3from 629 ((b3pairs.drop 629).take 17))) 17), #[]⟩
noncomputable def ob_149_16 (P : Params) : Obj := ⟨(PySem.Value.type "dict"), none, (PySem.Data.dict (List.toArray (b3from 646 ((b3pairs.drop 646).take 17))) 4), #[]⟩
noncomputable def T14 (P : Params) : BT :=
  .node (boot_o_0 P) (.node (boot_o_1 P) (.node (ob_3_16 P) (.node (boot_o_7 P) (.node (ob_15_13 P) (.node (ob_31_13 P) (.node (ob_63_13 P) (.node (ob_127_16 P) (.nil) (.nil)) (.nil)) (.node (ob_95_15 P) (.nil) (.nil))) (.node (ob_47_13 P) (.node (ob_79_13 P) (.node (ob_143_16 P) (.nil) (.nil)) (.nil)) (.node (ob_111_16 P) (.nil) (.nil)))) (.node (ob_23_13 P) (.node (ob_39_13 P) (.node (ob_71_13 P) (.node (ob_135_16 P) (.nil) (.nil)) (.nil)) (.node (ob_103_15 P) (.nil) (.nil))) (.node (ob_55_13 P) (.node (ob_87_13 P) (.nil) (.nil)) (.node (ob_119_16 P) (.nil) (.nil))))) (.node (ob_11_0 P) (.node (ob_19_13 P) (.node (ob_35_13 P) (.node (ob_67_13 P) (.node (ob_131_16 P) (.nil) (.nil)) (.nil)) (.node (ob_99_15 P) (.nil) (.nil))) (.node (ob_51_13 P) (.node (ob_83_13 P) (.node (ob_147_16 P) (.nil) (.nil)) (.nil)) (.node (ob_115_16 P) (.nil) (.nil)))) (.node (ob_27_13 P) (.node (ob_43_13 P) (.node (ob_75_13 P) (.node (ob_139_16 P) (.nil) (.nil)) (.nil)) (.node (ob_107_15 P) (.nil) (.nil))) (.node (ob_59_13 P) (.node (ob_91_13 P) (.nil) (.nil)) (.node (ob_123_16 P) (.nil) (.nil)))))) (.node (boot_o_5 P) (.node (boot_o_9 P) (.node (ob_17_13 P) (.node (ob_33_13 P) (.node (ob_65_13 P) (.node (ob_129_16 P) (.nil) (.nil)) (.nil)) (.node (ob_97_15 P) (.nil) (.nil))) (.node (ob_49_13 P) (.node (ob_81_13 P) (.node (ob_145_16 P) (.nil) (.nil)) (.nil)) (.node (ob_113_16 P) (.nil) (.nil)))) (.node (ob_25_13 P) (.node (ob_41_13 P) (.node (ob_73_13 P) (.node (ob_137_16 P) (.nil) (.nil)) (.nil)) (.node (ob_105_15 P) (.nil) (.nil))) (.node (ob_57_13 P) (.node (ob_89_13 P) (.nil) (.nil)) (.node (ob_121_16 P) (.nil) (.nil))))) (.node (ob_13_0 P) (.node (ob_21_13 P) (.node (ob_37_13 P) (.node (ob_69_13 P) (.node (ob_133_16 P) (.nil) (.nil)) (.nil)) (.node (ob_101_15 P) (.nil) (.nil))) (.node (ob_53_13 P) (.node (ob_85_13 P) (.node (ob_149_16 P) (.nil) (.nil)) (.nil)) (.node (ob_117_16 P) (.nil) (.nil)))) (.node (ob_29_13 P) (.node (ob_45_13 P) (.node (ob_77_13 P) (.node (ob_141_16 P) (.nil) (.nil)) (.nil)) (.node (ob_109_15 P) (.nil) (.nil))) (.node (ob_61_13 P) (.node (ob_93_15 P) (.nil) (.nil)) (.node (ob_125_16 P) (.nil) (.nil))))))) (.node (boot_o_2 P) (.node (boot_o_4 P) (.node (boot_o_8 P) (.node (ob_16_13 P) (.node (ob_32_13 P) (.node (ob_64_13 P) (.node (ob_128_16 P) (.nil) (.nil)) (.nil)) (.node (ob_96_15 P) (.nil) (.nil))) (.node (ob_48_13 P) (.node (ob_80_13 P) (.node (ob_144_16 P) (.nil) (.nil)) (.nil)) (.node (ob_112_16 P) (.nil) (.nil)))) (.node (ob_24_13 P) (.node (ob_40_13 P) (.node (ob_72_13 P) (.node (ob_136_16 P) (.nil) (.nil)) (.nil)) (.node (ob_104_15 P) (.nil) (.nil))) (.node (ob_56_13 P) (.node (ob_88_13 P) (.nil) (.nil)) (.node (ob_120_16 P) (.nil) (.nil))))) (.node (ob_12_15 P) (.node (ob_20_13 P) (.node (ob_36_13 P) (.node (ob_68_13 P) (.node (ob_132_16 P) (.nil) (.nil)) (.nil)) (.node (ob_100_15 P) (.nil) (.nil))) (.node (ob_52_13 P) (.node (ob_84_13 P) (.node (ob_148_16 P) (.nil) (.nil)) (.nil)) (.node (ob_116_16 P) (.nil) (.nil)))) (.node (ob_28_13 P) (.node (ob_44_13 P) (.node (ob_76_13 P) (.node (ob_140_16 P) (.nil) (.nil)) (.nil)) (.node (ob_108_15 P) (.nil) (.nil))) (.node (ob_60_13 P) (.node (ob_92_13 P) (.nil) (.nil)) (.node (ob_124_16 P) (.nil) (.nil)))))) (.node (boot_o_6 P) (.node (boot_o_10 P) (.node (ob_18_13 P) (.node (ob_34_13 P) (.node (ob_66_13 P) (.node (ob_130_16 P) (.nil) (.nil)) (.nil)) (.node (ob_98_15 P) (.nil) (.nil))) (.node (ob_50_13 P) (.node (ob_82_13 P) (.node (ob_146_16 P) (.nil) (.nil)) (.nil)) (.node (ob_114_16 P) (.nil) (.nil)))) (.node (ob_26_13 P) (.node (ob_42_13 P) (.node (ob_74_13 P) (.node (ob_138_16 P) (.nil) (.nil)) (.nil)) (.node (ob_106_15 P) (.nil) (.nil))) (.node (ob_58_13 P) (.node (ob_90_13 P) (.nil) (.nil)) (.node (ob_122_16 P) (.nil) (.nil))))) (.node (ob_14_0 P) (.node (ob_22_13 P) (.node (ob_38_13 P) (.node (ob_70_13 P) (.node (ob_134_16 P) (.nil) (.nil)) (.nil)) (.node (ob_102_15 P) (.nil) (.nil))) (.node (ob_54_13 P) (.node (ob_86_13 P) (.nil) (.nil)) (.node (ob_118_16 P) (.nil) (.nil)))) (.node (ob_30_13 P) (.node (ob_46_13 P) (.node (ob_78_13 P) (.node (ob_142_16 P) (.nil) (.nil)) (.nil)) (.node (ob_110_15 P) (.nil) (.nil))) (.node (ob_62_13 P) (.node (ob_94_15 P) (.nil) (.nil)) (.node (ob_126_16 P) (.nil) (.nil)))))))
noncomputable def pos14 : Pos := ⟨131, 0, 131, 13⟩
noncomputable abbrev S14 (w : World) (os : OsState) : SharedT := ⟨T14 w.params, 150, {}, #[], {}, 2337, os⟩
noncomputable def ob_3_30 (P : Params) : Obj := ⟨(PySem.Value.type "dict"), none, (PySem.Data.dict #[⟨PySem.PyData.keyHash P (PySem.Str.ofString "__name__"), (PySem.Value.str (PySem.Str.ofString "__name__") 165), (PySem.Value.str (PySem.Str.ofString "law_to0071_01") 2345)⟩, ⟨PySem.PyData.keyHash P (PySem.Str.ofString "__doc__"), (PySem.Value.str (PySem.Str.ofString "__doc__") 166), PySem.Value.none⟩, ⟨PySem.PyData.keyHash P (PySem.Str.ofString "__package__"), (PySem.Value.str (PySem.Str.ofString "__package__") 167), PySem.Value.none⟩, ⟨PySem.PyData.keyHash P (PySem.Str.ofString "__loader__"), (PySem.Value.str (PySem.Str.ofString "__loader__") 168), (PySem.Value.builtin "__main__.__loader__#opaque")⟩, ⟨PySem.PyData.keyHash P (PySem.Str.ofString "__spec__"), (PySem.Value.str (PySem.Str.ofString "__spec__") 169), PySem.Value.none⟩, ⟨PySem.PyData.keyHash P (PySem.Str.ofString "__annotations__"), (PySem.Value.str (PySem.Str.ofString "__annotations__") 170), (PySem.Value.ref 6)⟩, ⟨PySem.PyData.keyHash P (PySem.Str.ofString "__builtins__"), (PySem.Value.str (PySem.Str.ofString "__builtins__") 171), (PySem.Value.ref 4)⟩, ⟨PySem.PyData.keyHash P (PySem.Str.ofString "__file__"), (PySem.Value.str (PySem.Str.ofString "__file__") 173), (PySem.Value.str (PySem.Str.ofString "/claim/cut.py") 172)⟩, ⟨PySem.PyData.keyHash P (PySem.Str.ofString "__cached__"), (PySem.Value.str (PySem.Str.ofString "__cached__") 174), PySem.Value.none⟩, ⟨PySem.PyData.keyHash P (PySem.Str.ofString "_wall"), (PySem.Value.str (PySem.Str.ofString "_wall") 193), (PySem.Value.ref 21)⟩, ⟨PySem.PyData.keyHash P (PySem.Str.ofString "compute_powers"), (PySem.Value.str (PySem.Str.ofString "compute_powers") 215), (PySem.Value.ref 29)⟩, ⟨PySem.PyData.keyHash P (PySem.Str.ofString "_int2digits"), (PySem.Value.str (PySem.Str.ofString "_int2digits") 226), (PySem.Value.ref 36)⟩, ⟨PySem.PyData.keyHash P (PySem.Str.ofString "_digits2int"), (PySem.Value.str (PySem.Str.ofString "_digits2int") 237), (PySem.Value.ref 43)⟩, ⟨PySem.PyData.keyHash P (PySem.Str.ofString "ONE_SIXTH"), (PySem.Value.str (PySem.Str.ofString "ONE_SIXTH") 243), (PySem.Value.float 4595172819793696085 242)⟩, ⟨PySem.PyData.keyHash P (PySem.Str.ofString "TWO_THIRD"), (PySem.Value.str (PySem.Str.ofString "TWO_THIRD") 247), (PySem.Value.float 4604180019048437077 246)⟩, ⟨PySem.PyData.keyHash P (PySem.Str.ofString "_v"), (PySem.Value.str (PySem.Str.ofString "_v") 256), (PySem.Value.ref 50)⟩, ⟨PySem.PyData.keyHash P (PySem.Str.ofString "_netrclex"), (PySem.Value.str (PySem.Str.ofString "_netrclex") 316), (PySem.Value.ref 88)⟩, ⟨PySem.PyData.keyHash P (PySem.Str.ofString "b1_set"), (PySem.Value.str (PySem.Str.ofString "b1_set") 378), (PySem.Value.ref 100)⟩, ⟨PySem.PyData.keyHash P (PySem.Str.ofString "in_table_b1"), (PySem.Value.str (PySem.Str.ofString "in_table_b1") 385), (PySem.Value.ref 110)⟩, ⟨PySem.PyData.keyHash P (PySem.Str.ofString "b3_exceptions"), (PySem.Value.str (PySem.Str.ofString "b3_exceptions") 2336), (PySem.Value.ref 111)⟩, ⟨PySem.PyData.keyHash P (PySem.Str.ofString "map_table_b3"), (PySem.Value.str (PySem.Str.ofString "map_table_b3") 2344), (PySem.Value.ref 156)⟩, ⟨PySem.PyData.keyHash P (PySem.Str.ofString "_law_draws"), (PySem.Value.str (PySem.Str.ofString "_law_draws") 2352), (PySem.Value.ref 161)⟩, ⟨PySem.PyData.keyHash P (PySem.Str.ofString "_law_day"), (PySem.Value.str (PySem.Str.ofString "_law_day") 2361), (PySem.Value.ref 168)⟩, ⟨PySem.PyData.keyHash P (PySem.Str.ofString "_law_word"), (PySem.Value.str (PySem.Str.ofString "_law_word") 2373), (PySem.Value.ref 175)⟩, ⟨PySem.PyData.keyHash P (PySem.Str.ofString "_law_machine"), (PySem.Value.str (PySem.Str.ofString "_law_machine") 2384), (PySem.Value.ref 182)⟩, ⟨PySem.PyData.keyHash P (PySem.Str.ofString "_law_read"), (PySem.Value.str (PySem.Str.ofString "_law_read") 2390), (PySem.Value.ref 187)⟩, ⟨PySem.PyData.keyHash P (PySem.Str.ofString "_law_counts"), (PySem.Value.str (PySem.Str.ofString "_law_counts") 2399), (PySem.Value.ref 194)⟩, ⟨PySem.PyData.keyHash P (PySem.Str.ofString "_law_trader"), (PySem.Value.str (PySem.Str.ofString "_law_trader") 2405), (PySem.Value.ref 199)⟩, ⟨PySem.PyData.keyHash P (PySem.Str.ofString "_law_kept"), (PySem.Value.str (PySem.Str.ofString "_law_kept") 2416), (PySem.Value.ref 206)⟩, ⟨PySem.PyData.keyHash P (PySem.Str.ofString "_law_sum"), (PySem.Value.str (PySem.Str.ofString "_law_sum") 2422), (PySem.Value.ref 211)⟩, ⟨PySem.PyData.keyHash P (PySem.Str.ofString "_law_holds"), (PySem.Value.str (PySem.Str.ofString "_law_holds") 2436), (PySem.Value.ref 218)⟩, ⟨PySem.PyData.keyHash P (PySem.Str.ofString "_law_rival"), (PySem.Value.str (PySem.Str.ofString "_law_rival") 2451), (PySem.Value.ref 225)⟩, ⟨PySem.PyData.keyHash P (PySem.Str.ofString "law"), (PySem.Value.str (PySem.Str.ofString "law") 2457), (PySem.Value.ref 230)⟩] 33), #[]⟩
noncomputable def ob_12_30 (P : Params) : Obj := ⟨PySem.Value.none, none, (PySem.Data.fields #[(PySem.Value.int (1) 0), (PySem.Value.int (0) 0), (PySem.Value.ref 20), (PySem.Value.int (5) 0), (PySem.Value.int (0) 0), (PySem.Value.ref 28), (PySem.Value.int (46) 0), (PySem.Value.int (0) 0), (PySem.Value.ref 35), (PySem.Value.int (62) 0), (PySem.Value.int (0) 0), (PySem.Value.ref 42), (PySem.Value.int (74) 0), (PySem.Value.int (0) 0), (PySem.Value.ref 49), (PySem.Value.int (84) 0), (PySem.Value.int (0) 0), (PySem.Value.ref 56), (PySem.Value.int (129) 0), (PySem.Value.int (0) 0), (PySem.Value.ref 109), (PySem.Value.int (132) 0), (PySem.Value.int (0) 0), (PySem.Value.ref 155), (PySem.Value.int (138) 0), (PySem.Value.int (0) 0), (PySem.Value.ref 160), (PySem.Value.int (141) 0), (PySem.Value.int (0) 0), (PySem.Value.ref 167), (PySem.Value.int (145) 0), (PySem.Value.int (0) 0), (PySem.Value.ref 174), (PySem.Value.int (151) 0), (PySem.Value.int (0) 0), (PySem.Value.ref 181), (PySem.Value.int (161) 0), (PySem.Value.int (0) 0), (PySem.Value.ref 186), (PySem.Value.int (168) 0), (PySem.Value.int (0) 0), (PySem.Value.ref 193), (PySem.Value.int (171) 0), (PySem.Value.int (0) 0), (PySem.Value.ref 198), (PySem.Value.int (186) 0), (PySem.Value.int (0) 0), (PySem.Value.ref 205), (PySem.Value.int (191) 0), (PySem.Value.int (0) 0), (PySem.Value.ref 210), (PySem.Value.int (194) 0), (PySem.Value.int (0) 0), (PySem.Value.ref 217), (PySem.Value.int (199) 0), (PySem.Value.int (0) 0), (PySem.Value.ref 224), (PySem.Value.int (210) 0), (PySem.Value.int (0) 0), (PySem.Value.ref 229)]), #[]⟩
noncomputable def ob_150_30 (P : Params) : Obj := ⟨(PySem.Value.type "tuple"), none, (PySem.Data.seq #[] 0), #[]⟩
noncomputable def ob_151_30 (P : Params) : Obj := ⟨PySem.Value.none, none, (PySem.Data.fields #[]), #[]⟩
noncomputable def ob_152_30 (P : Params) : Obj := ⟨(PySem.Value.type "tuple"), none, (PySem.Data.seq #[(PySem.Value.str (PySem.Str.ofString "code") 2340), (PySem.Value.str (PySem.Str.ofString "r") 2341)] 0), #[]⟩
noncomputable def ob_153_30 (P : Params) : Obj := ⟨(PySem.Value.type "tuple"), none, (PySem.Data.seq #[] 0), #[]⟩
noncomputable def ob_154_30 (P : Params) : Obj := ⟨PySem.Value.none, none, (PySem.Data.func ⟨(PySem.Str.ofString "map_table_b3"), (PySem.Str.ofString "map_table_b3"), fnArgs (stAt 15), PySem.FuncBody.stmts (bodyOf (stAt 15)), fnScope (stAt 15), 0, [], PySem.Value.none, PySem.Value.none, PySem.Value.none, PySem.Value.none, none, PySem.Value.none, PySem.Value.none, 0⟩), #[]⟩
noncomputable def ob_155_30 (P : Params) : Obj := ⟨(PySem.Value.type "code"), none, (PySem.Data.fields #[(PySem.Value.str (PySem.Str.ofString "map_table_b3") 2337), (PySem.Value.str (PySem.Str.ofString "map_table_b3") 2338), (PySem.Value.str (PySem.Str.ofString "/claim/cut.py") 2339), (PySem.Value.int (132) 0), (PySem.Value.int (1) 0), (PySem.Value.int (0) 0), (PySem.Value.int (0) 0), (PySem.Value.int (3) 0), (PySem.Value.ref 150), (PySem.Value.bool true), (PySem.Value.int (181) 0), (PySem.Value.ref 151), PySem.Value.none, (PySem.Value.ref 152), (PySem.Value.ref 153), (PySem.Value.ref 154), (PySem.Value.int (2342) 0), (PySem.Value.int (132) 0), (PySem.Value.str (PySem.Str.ofString "/claim/cut.py") 2343)]), #[]⟩
noncomputable def ob_156_30 (P : Params) : Obj := ⟨(PySem.Value.type "function"), none, (PySem.Data.func ⟨(PySem.Str.ofString "map_table_b3"), (PySem.Str.ofString "map_table_b3"), fnArgs (stAt 15), PySem.FuncBody.stmts (bodyOf (stAt 15)), fnScope (stAt 15), 3, [], PySem.Value.none, PySem.Value.none, PySem.Value.none, (PySem.Value.str (PySem.Str.ofString "cpy313.stringprep") 317), none, (PySem.Value.ref 155), PySem.Value.none, 0⟩), #[]⟩
noncomputable def ob_157_30 (P : Params) : Obj := ⟨(PySem.Value.type "tuple"), none, (PySem.Data.seq #[] 0), #[]⟩
noncomputable def ob_158_30 (P : Params) : Obj := ⟨PySem.Value.none, none, (PySem.Data.fields #[]), #[]⟩
noncomputable def ob_159_30 (P : Params) : Obj := ⟨PySem.Value.none, none, (PySem.Data.func ⟨(PySem.Str.ofString "_law_draws"), (PySem.Str.ofString "_law_draws"), fnArgs (stAt 17), PySem.FuncBody.stmts (bodyOf (stAt 17)), fnScope (stAt 17), 0, [], PySem.Value.none, PySem.Value.none, PySem.Value.none, PySem.Value.none, none, PySem.Value.none, PySem.Value.none, 0⟩), #[]⟩
noncomputable def ob_160_30 (P : Params) : Obj := ⟨(PySem.Value.type "code"), none, (PySem.Data.fields #[(PySem.Value.str (PySem.Str.ofString "_law_draws") 2347), (PySem.Value.str (PySem.Str.ofString "_law_draws") 2348), (PySem.Value.str (PySem.Str.ofString "/claim/cut.py") 2349), (PySem.Value.int (138) 0), (PySem.Value.int (1) 0), (PySem.Value.int (0) 0), (PySem.Value.int (0) 0), (PySem.Value.int (3) 0), (PySem.Value.ref 157), (PySem.Value.bool true), (PySem.Value.int (181) 0), (PySem.Value.ref 158), PySem.Value.none, PySem.Value.none, PySem.Value.none, (PySem.Value.ref 159), (PySem.Value.int (2350) 0), (PySem.Value.int (138) 0), (PySem.Value.str (PySem.Str.ofString "/claim/cut.py") 2351)]), #[]⟩
noncomputable def ob_161_30 (P : Params) : Obj := ⟨(PySem.Value.type "function"), none, (PySem.Data.func ⟨(PySem.Str.ofString "_law_draws"), (PySem.Str.ofString "_law_draws"), fnArgs (stAt 17), PySem.FuncBody.stmts (bodyOf (stAt 17)), fnScope (stAt 17), 3, [], PySem.Value.none, PySem.Value.none, PySem.Value.none, (PySem.Value.str (PySem.Str.ofString "law_to0071_01") 2345), none, (PySem.Value.ref 160), PySem.Value.none, 0⟩), #[]⟩
noncomputable def ob_162_30 (P : Params) : Obj := ⟨(PySem.Value.type "tuple"), none, (PySem.Data.seq #[] 0), #[]⟩
noncomputable def ob_163_30 (P : Params) : Obj := ⟨PySem.Value.none, none, (PySem.Data.fields #[]), #[]⟩
noncomputable def ob_164_30 (P : Params) : Obj := ⟨(PySem.Value.type "tuple"), none, (PySem.Data.seq #[(PySem.Value.str (PySem.Str.ofString "x") 2356), (PySem.Value.str (PySem.Str.ofString "red") 2357), (PySem.Value.str (PySem.Str.ofString "green") 2358)] 0), #[]⟩
noncomputable def ob_165_30 (P : Params) : Obj := ⟨(PySem.Value.type "tuple"), none, (PySem.Data.seq #[] 0), #[]⟩
noncomputable def ob_166_30 (P : Params) : Obj := ⟨PySem.Value.none, none, (PySem.Data.func ⟨(PySem.Str.ofString "_law_day"), (PySem.Str.ofString "_law_day"), fnArgs (stAt 18), PySem.FuncBody.stmts (bodyOf (stAt 18)), fnScope (stAt 18), 0, [], PySem.Value.none, PySem.Value.none, PySem.Value.none, PySem.Value.none, none, PySem.Value.none, PySem.Value.none, 0⟩), #[]⟩
noncomputable def ob_167_30 (P : Params) : Obj := ⟨(PySem.Value.type "code"), none, (PySem.Data.fields #[(PySem.Value.str (PySem.Str.ofString "_law_day") 2353), (PySem.Value.str (PySem.Str.ofString "_law_day") 2354), (PySem.Value.str (PySem.Str.ofString "/claim/cut.py") 2355), (PySem.Value.int (141) 0), (PySem.Value.int (1) 0), (PySem.Value.int (0) 0), (PySem.Value.int (0) 0), (PySem.Value.int (3) 0), (PySem.Value.ref 162), (PySem.Value.bool true), (PySem.Value.int (181) 0), (PySem.Value.ref 163), PySem.Value.none, (PySem.Value.ref 164), (PySem.Value.ref 165), (PySem.Value.ref 166), (PySem.Value.int (2359) 0), (PySem.Value.int (141) 0), (PySem.Value.str (PySem.Str.ofString "/claim/cut.py") 2360)]), #[]⟩
noncomputable def ob_168_30 (P : Params) : Obj := ⟨(PySem.Value.type "function"), none, (PySem.Data.func ⟨(PySem.Str.ofString "_law_day"), (PySem.Str.ofString "_law_day"), fnArgs (stAt 18), PySem.FuncBody.stmts (bodyOf (stAt 18)), fnScope (stAt 18), 3, [], PySem.Value.none, PySem.Value.none, PySem.Value.none, (PySem.Value.str (PySem.Str.ofString "law_to0071_01") 2345), none, (PySem.Value.ref 167), PySem.Value.none, 0⟩), #[]⟩
noncomputable def ob_169_30 (P : Params) : Obj := ⟨(PySem.Value.type "tuple"), none, (PySem.Data.seq #[] 0), #[]⟩
noncomputable def ob_170_30 (P : Params) : Obj := ⟨PySem.Value.none, none, (PySem.Data.fields #[]), #[]⟩
noncomputable def ob_171_30 (P : Params) : Obj := ⟨(PySem.Value.type "tuple"), none, (PySem.Data.seq #[(PySem.Value.str (PySem.Str.ofString "x") 2365), (PySem.Value.str (PySem.Str.ofString "red") 2366), (PySem.Value.str (PySem.Str.ofString "green") 2367), (PySem.Value.str (PySem.Str.ofString "start") 2368), (PySem.Value.str (PySem.Str.ofString "hidden") 2369), (PySem.Value.str (PySem.Str.ofString "word") 2370)] 0), #[]⟩
noncomputable def ob_172_30 (P : Params) : Obj := ⟨(PySem.Value.type "tuple"), none, (PySem.Data.seq #[] 0), #[]⟩
noncomputable def ob_173_30 (P : Params) : Obj := ⟨PySem.Value.none, none, (PySem.Data.func ⟨(PySem.Str.ofString "_law_word"), (PySem.Str.ofString "_law_word"), fnArgs (stAt 19), PySem.FuncBody.stmts (bodyOf (stAt 19)), fnScope (stAt 19), 0, [], PySem.Value.none, PySem.Value.none, PySem.Value.none, PySem.Value.none, none, PySem.Value.none, PySem.Value.none, 0⟩), #[]⟩
noncomputable def ob_174_30 (P : Params) : Obj := ⟨(PySem.Value.type "code"), none, (PySem.Data.fields #[(PySem.Value.str (PySem.Str.ofString "_law_word") 2362), (PySem.Value.str (PySem.Str.ofString "_law_word") 2363), (PySem.Value.str (PySem.Str.ofString "/claim/cut.py") 2364), (PySem.Value.int (145) 0), (PySem.Value.int (1) 0), (PySem.Value.int (0) 0), (PySem.Value.int (0) 0), (PySem.Value.int (3) 0), (PySem.Value.ref 169), (PySem.Value.bool true), (PySem.Value.int (181) 0), (PySem.Value.ref 170), PySem.Value.none, (PySem.Value.ref 171), (PySem.Value.ref 172), (PySem.Value.ref 173), (PySem.Value.int (2371) 0), (PySem.Value.int (145) 0), (PySem.Value.str (PySem.Str.ofString "/claim/cut.py") 2372)]), #[]⟩
noncomputable def ob_175_30 (P : Params) : Obj := ⟨(PySem.Value.type "function"), none, (PySem.Data.func ⟨(PySem.Str.ofString "_law_word"), (PySem.Str.ofString "_law_word"), fnArgs (stAt 19), PySem.FuncBody.stmts (bodyOf (stAt 19)), fnScope (stAt 19), 3, [], PySem.Value.none, PySem.Value.none, PySem.Value.none, (PySem.Value.str (PySem.Str.ofString "law_to0071_01") 2345), none, (PySem.Value.ref 174), PySem.Value.none, 0⟩), #[]⟩
noncomputable def ob_176_30 (P : Params) : Obj := ⟨(PySem.Value.type "tuple"), none, (PySem.Data.seq #[] 0), #[]⟩
noncomputable def ob_177_30 (P : Params) : Obj := ⟨PySem.Value.none, none, (PySem.Data.fields #[]), #[]⟩
noncomputable def ob_178_30 (P : Params) : Obj := ⟨(PySem.Value.type "tuple"), none, (PySem.Data.seq #[(PySem.Value.str (PySem.Str.ofString "text") 2377), (PySem.Value.str (PySem.Str.ofString "_law_read_on") 2378), (PySem.Value.str (PySem.Str.ofString "stream") 2379)] 0), #[]⟩
noncomputable def ob_179_30 (P : Params) : Obj := ⟨(PySem.Value.type "tuple"), none, (PySem.Data.seq #[(PySem.Value.str (PySem.Str.ofString "text") 2380), (PySem.Value.str (PySem.Str.ofString "at") 2381)] 0), #[]⟩
noncomputable def ob_180_30 (P : Params) : Obj := ⟨PySem.Value.none, none, (PySem.Data.func ⟨(PySem.Str.ofString "_law_machine"), (PySem.Str.ofString "_law_machine"), fnArgs (stAt 20), PySem.FuncBody.stmts (bodyOf (stAt 20)), fnScope (stAt 20), 0, [], PySem.Value.none, PySem.Value.none, PySem.Value.none, PySem.Value.none, none, PySem.Value.none, PySem.Value.none, 0⟩), #[]⟩
noncomputable def ob_181_30 (P : Params) : Obj := ⟨(PySem.Value.type "code"), none, (PySem.Data.fields #[(PySem.Value.str (PySem.Str.ofString "_law_machine") 2374), (PySem.Value.str (PySem.Str.ofString "_law_machine") 2375), (PySem.Value.str (PySem.Str.ofString "/claim/cut.py") 2376), (PySem.Value.int (151) 0), (PySem.Value.int (1) 0), (PySem.Value.int (0) 0), (PySem.Value.int (0) 0), (PySem.Value.int (3) 0), (PySem.Value.ref 176), (PySem.Value.bool true), (PySem.Value.int (181) 0), (PySem.Value.ref 177), PySem.Value.none, (PySem.Value.ref 178), (PySem.Value.ref 179), (PySem.Value.ref 180), (PySem.Value.int (2382) 0), (PySem.Value.int (151) 0), (PySem.Value.str (PySem.Str.ofString "/claim/cut.py") 2383)]), #[]⟩
noncomputable def ob_182_30 (P : Params) : Obj := ⟨(PySem.Value.type "function"), none, (PySem.Data.func ⟨(PySem.Str.ofString "_law_machine"), (PySem.Str.ofString "_law_machine"), fnArgs (stAt 20), PySem.FuncBody.stmts (bodyOf (stAt 20)), fnScope (stAt 20), 3, [], PySem.Value.none, PySem.Value.none, PySem.Value.none, (PySem.Value.str (PySem.Str.ofString "law_to0071_01") 2345), none, (PySem.Value.ref 181), PySem.Value.none, 0⟩), #[]⟩
noncomputable def ob_183_30 (P : Params) : Obj := ⟨(PySem.Value.type "tuple"), none, (PySem.Data.seq #[] 0), #[]⟩
noncomputable def ob_184_30 (P : Params) : Obj := ⟨PySem.Value.none, none, (PySem.Data.fields #[]), #[]⟩
noncomputable def ob_185_30 (P : Params) : Obj := ⟨PySem.Value.none, none, (PySem.Data.func ⟨(PySem.Str.ofString "_law_read"), (PySem.Str.ofString "_law_read"), fnArgs (stAt 21), PySem.FuncBody.stmts (bodyOf (stAt 21)), fnScope (stAt 21), 0, [], PySem.Value.none, PySem.Value.none, PySem.Value.none, PySem.Value.none, none, PySem.Value.none, PySem.Value.none, 0⟩), #[]⟩
noncomputable def ob_186_30 (P : Params) : Obj := ⟨(PySem.Value.type "code"), none, (PySem.Data.fields #[(PySem.Value.str (PySem.Str.ofString "_law_read") 2385), (PySem.Value.str (PySem.Str.ofString "_law_read") 2386), (PySem.Value.str (PySem.Str.ofString "/claim/cut.py") 2387), (PySem.Value.int (161) 0), (PySem.Value.int (2) 0), (PySem.Value.int (0) 0), (PySem.Value.int (0) 0), (PySem.Value.int (3) 0), (PySem.Value.ref 183), (PySem.Value.bool true), (PySem.Value.int (181) 0), (PySem.Value.ref 184), PySem.Value.none, PySem.Value.none, PySem.Value.none, (PySem.Value.ref 185), (PySem.Value.int (2388) 0), (PySem.Value.int (161) 0), (PySem.Value.str (PySem.Str.ofString "/claim/cut.py") 2389)]), #[]⟩
noncomputable def ob_187_30 (P : Params) : Obj := ⟨(PySem.Value.type "function"), none, (PySem.Data.func ⟨(PySem.Str.ofString "_law_read"), (PySem.Str.ofString "_law_read"), fnArgs (stAt 21), PySem.FuncBody.stmts (bodyOf (stAt 21)), fnScope (stAt 21), 3, [], PySem.Value.none, PySem.Value.none, PySem.Value.none, (PySem.Value.str (PySem.Str.ofString "law_to0071_01") 2345), none, (PySem.Value.ref 186), PySem.Value.none, 0⟩), #[]⟩
noncomputable def ob_188_30 (P : Params) : Obj := ⟨(PySem.Value.type "tuple"), none, (PySem.Data.seq #[] 0), #[]⟩
noncomputable def ob_189_30 (P : Params) : Obj := ⟨PySem.Value.none, none, (PySem.Data.fields #[]), #[]⟩
noncomputable def ob_190_30 (P : Params) : Obj := ⟨(PySem.Value.type "tuple"), none, (PySem.Data.seq #[(PySem.Value.str (PySem.Str.ofString "number") 2394), (PySem.Value.str (PySem.Str.ofString "n") 2395), (PySem.Value.str (PySem.Str.ofString "told") 2396)] 0), #[]⟩
noncomputable def ob_191_30 (P : Params) : Obj := ⟨(PySem.Value.type "tuple"), none, (PySem.Data.seq #[] 0), #[]⟩
noncomputable def ob_192_30 (P : Params) : Obj := ⟨PySem.Value.none, none, (PySem.Data.func ⟨(PySem.Str.ofString "_law_counts"), (PySem.Str.ofString "_law_counts"), fnArgs (stAt 22), PySem.FuncBody.stmts (bodyOf (stAt 22)), fnScope (stAt 22), 0, [], PySem.Value.none, PySem.Value.none, PySem.Value.none, PySem.Value.none, none, PySem.Value.none, PySem.Value.none, 0⟩), #[]⟩
noncomputable def ob_193_30 (P : Params) : Obj := ⟨(PySem.Value.type "code"), none, (PySem.Data.fields #[(PySem.Value.str (PySem.Str.ofString "_law_counts") 2391), (PySem.Value.str (PySem.Str.ofString "_law_counts") 2392), (PySem.Value.str (PySem.Str.ofString "/claim/cut.py") 2393), (PySem.Value.int (168) 0), (PySem.Value.int (2) 0), (PySem.Value.int (0) 0), (PySem.Value.int (0) 0), (PySem.Value.int (3) 0), (PySem.Value.ref 188), (PySem.Value.bool true), (PySem.Value.int (181) 0), (PySem.Value.ref 189), PySem.Value.none, (PySem.Value.ref 190), (PySem.Value.ref 191), (PySem.Value.ref 192), (PySem.Value.int (2397) 0), (PySem.Value.int (168) 0), (PySem.Value.str (PySem.Str.ofString "/claim/cut.py") 2398)]), #[]⟩
noncomputable def ob_194_30 (P : Params) : Obj := ⟨(PySem.Value.type "function"), none, (PySem.Data.func ⟨(PySem.Str.ofString "_law_counts"), (PySem.Str.ofString "_law_counts"), fnArgs (stAt 22), PySem.FuncBody.stmts (bodyOf (stAt 22)), fnScope (stAt 22), 3, [], PySem.Value.none, PySem.Value.none, PySem.Value.none, (PySem.Value.str (PySem.Str.ofString "law_to0071_01") 2345), none, (PySem.Value.ref 193), PySem.Value.none, 0⟩), #[]⟩
noncomputable def ob_195_30 (P : Params) : Obj := ⟨(PySem.Value.type "tuple"), none, (PySem.Data.seq #[] 0), #[]⟩
noncomputable def ob_196_30 (P : Params) : Obj := ⟨PySem.Value.none, none, (PySem.Data.fields #[]), #[]⟩
noncomputable def ob_197_30 (P : Params) : Obj := ⟨PySem.Value.none, none, (PySem.Data.func ⟨(PySem.Str.ofString "_law_trader"), (PySem.Str.ofString "_law_trader"), fnArgs (stAt 23), PySem.FuncBody.stmts (bodyOf (stAt 23)), fnScope (stAt 23), 0, [], PySem.Value.none, PySem.Value.none, PySem.Value.none, PySem.Value.none, none, PySem.Value.none, PySem.Value.none, 0⟩), #[]⟩
noncomputable def ob_198_30 (P : Params) : Obj := ⟨(PySem.Value.type "code"), none, (PySem.Data.fields #[(PySem.Value.str (PySem.Str.ofString "_law_trader") 2400), (PySem.Value.str (PySem.Str.ofString "_law_trader") 2401), (PySem.Value.str (PySem.Str.ofString "/claim/cut.py") 2402), (PySem.Value.int (171) 0), (PySem.Value.int (2) 0), (PySem.Value.int (0) 0), (PySem.Value.int (0) 0), (PySem.Value.int (3) 0), (PySem.Value.ref 195), (PySem.Value.bool true), (PySem.Value.int (181) 0), (PySem.Value.ref 196), PySem.Value.none, PySem.Value.none, PySem.Value.none, (PySem.Value.ref 197), (PySem.Value.int (2403) 0), (PySem.Value.int (171) 0), (PySem.Value.str (PySem.Str.ofString "/claim/cut.py") 2404)]), #[]⟩
noncomputable def ob_199_30 (P : Params) : Obj := ⟨(PySem.Value.type "function"), none, (PySem.Data.func ⟨(PySem.Str.ofString "_law_trader"), (PySem.Str.ofString "_law_trader"), fnArgs (stAt 23), PySem.FuncBody.stmts (bodyOf (stAt 23)), fnScope (stAt 23), 3, [], PySem.Value.none, PySem.Value.none, PySem.Value.none, (PySem.Value.str (PySem.Str.ofString "law_to0071_01") 2345), none, (PySem.Value.ref 198), PySem.Value.none, 0⟩), #[]⟩
noncomputable def ob_200_30 (P : Params) : Obj := ⟨(PySem.Value.type "tuple"), none, (PySem.Data.seq #[] 0), #[]⟩
noncomputable def ob_201_30 (P : Params) : Obj := ⟨PySem.Value.none, none, (PySem.Data.fields #[]), #[]⟩
noncomputable def ob_202_30 (P : Params) : Obj := ⟨(PySem.Value.type "tuple"), none, (PySem.Data.seq #[(PySem.Value.str (PySem.Str.ofString "days") 2409), (PySem.Value.str (PySem.Str.ofString "j") 2410), (PySem.Value.str (PySem.Str.ofString "coin") 2411), (PySem.Value.str (PySem.Str.ofString "red") 2412), (PySem.Value.str (PySem.Str.ofString "green") 2413)] 0), #[]⟩
noncomputable def ob_203_30 (P : Params) : Obj := ⟨(PySem.Value.type "tuple"), none, (PySem.Data.seq #[] 0), #[]⟩
noncomputable def ob_204_30 (P : Params) : Obj := ⟨PySem.Value.none, none, (PySem.Data.func ⟨(PySem.Str.ofString "_law_kept"), (PySem.Str.ofString "_law_kept"), fnArgs (stAt 24), PySem.FuncBody.stmts (bodyOf (stAt 24)), fnScope (stAt 24), 0, [], PySem.Value.none, PySem.Value.none, PySem.Value.none, PySem.Value.none, none, PySem.Value.none, PySem.Value.none, 0⟩), #[]⟩
noncomputable def ob_205_30 (P : Params) : Obj := ⟨(PySem.Value.type "code"), none, (PySem.Data.fields #[(PySem.Value.str (PySem.Str.ofString "_law_kept") 2406), (PySem.Value.str (PySem.Str.ofString "_law_kept") 2407), (PySem.Value.str (PySem.Str.ofString "/claim/cut.py") 2408), (PySem.Value.int (186) 0), (PySem.Value.int (2) 0), (PySem.Value.int (0) 0), (PySem.Value.int (0) 0), (PySem.Value.int (3) 0), (PySem.Value.ref 200), (PySem.Value.bool true), (PySem.Value.int (181) 0), (PySem.Value.ref 201), PySem.Value.none, (PySem.Value.ref 202), (PySem.Value.ref 203), (PySem.Value.ref 204), (PySem.Value.int (2414) 0), (PySem.Value.int (186) 0), (PySem.Value.str (PySem.Str.ofString "/claim/cut.py") 2415)]), #[]⟩
noncomputable def ob_206_30 (P : Params) : Obj := ⟨(PySem.Value.type "function"), none, (PySem.Data.func ⟨(PySem.Str.ofString "_law_kept"), (PySem.Str.ofString "_law_kept"), fnArgs (stAt 24), PySem.FuncBody.stmts (bodyOf (stAt 24)), fnScope (stAt 24), 3, [], PySem.Value.none, PySem.Value.none, PySem.Value.none, (PySem.Value.str (PySem.Str.ofString "law_to0071_01") 2345), none, (PySem.Value.ref 205), PySem.Value.none, 0⟩), #[]⟩
noncomputable def ob_207_30 (P : Params) : Obj := ⟨(PySem.Value.type "tuple"), none, (PySem.Data.seq #[] 0), #[]⟩
noncomputable def ob_208_30 (P : Params) : Obj := ⟨PySem.Value.none, none, (PySem.Data.fields #[]), #[]⟩
noncomputable def ob_209_30 (P : Params) : Obj := ⟨PySem.Value.none, none, (PySem.Data.func ⟨(PySem.Str.ofString "_law_sum"), (PySem.Str.ofString "_law_sum"), fnArgs (stAt 25), PySem.FuncBody.stmts (bodyOf (stAt 25)), fnScope (stAt 25), 0, [], PySem.Value.none, PySem.Value.none, PySem.Value.none, PySem.Value.none, none, PySem.Value.none, PySem.Value.none, 0⟩), #[]⟩
noncomputable def ob_210_30 (P : Params) : Obj := ⟨(PySem.Value.type "code"), none, (PySem.Data.fields #[(PySem.Value.str (PySem.Str.ofString "_law_sum") 2417), (PySem.Value.str (PySem.Str.ofString "_law_sum") 2418), (PySem.Value.str (PySem.Str.ofString "/claim/cut.py") 2419), (PySem.Value.int (191) 0), (PySem.Value.int (2) 0), (PySem.Value.int (0) 0), (PySem.Value.int (0) 0), (PySem.Value.int (3) 0), (PySem.Value.ref 207), (PySem.Value.bool true), (PySem.Value.int (181) 0), (PySem.Value.ref 208), PySem.Value.none, PySem.Value.none, PySem.Value.none, (PySem.Value.ref 209), (PySem.Value.int (2420) 0), (PySem.Value.int (191) 0), (PySem.Value.str (PySem.Str.ofString "/claim/cut.py") 2421)]), #[]⟩
noncomputable def ob_211_30 (P : Params) : Obj := ⟨(PySem.Value.type "function"), none, (PySem.Data.func ⟨(PySem.Str.ofString "_law_sum"), (PySem.Str.ofString "_law_sum"), fnArgs (stAt 25), PySem.FuncBody.stmts (bodyOf (stAt 25)), fnScope (stAt 25), 3, [], PySem.Value.none, PySem.Value.none, PySem.Value.none, (PySem.Value.str (PySem.Str.ofString "law_to0071_01") 2345), none, (PySem.Value.ref 210), PySem.Value.none, 0⟩), #[]⟩
noncomputable def ob_212_30 (P : Params) : Obj := ⟨(PySem.Value.type "tuple"), none, (PySem.Data.seq #[] 0), #[]⟩
noncomputable def ob_213_30 (P : Params) : Obj := ⟨PySem.Value.none, none, (PySem.Data.fields #[]), #[]⟩
noncomputable def ob_214_30 (P : Params) : Obj := ⟨(PySem.Value.type "tuple"), none, (PySem.Data.seq #[(PySem.Value.str (PySem.Str.ofString "days") 2426), (PySem.Value.str (PySem.Str.ofString "counts") 2427), (PySem.Value.str (PySem.Str.ofString "purse") 2428), (PySem.Value.str (PySem.Str.ofString "scale") 2429), (PySem.Value.str (PySem.Str.ofString "j") 2430), (PySem.Value.str (PySem.Str.ofString "n") 2431), (PySem.Value.str (PySem.Str.ofString "share") 2432), (PySem.Value.str (PySem.Str.ofString "due") 2433)] 0), #[]⟩
noncomputable def ob_215_30 (P : Params) : Obj := ⟨(PySem.Value.type "tuple"), none, (PySem.Data.seq #[] 0), #[]⟩
noncomputable def ob_216_30 (P : Params) : Obj := ⟨PySem.Value.none, none, (PySem.Data.func ⟨(PySem.Str.ofString "_law_holds"), (PySem.Str.ofString "_law_holds"), fnArgs (stAt 26), PySem.FuncBody.stmts (bodyOf (stAt 26)), fnScope (stAt 26), 0, [], PySem.Value.none, PySem.Value.none, PySem.Value.none, PySem.Value.none, none, PySem.Value.none, PySem.Value.none, 0⟩), #[]⟩
noncomputable def ob_217_30 (P : Params) : Obj := ⟨(PySem.Value.type "code"), none, (PySem.Data.fields #[(PySem.Value.str (PySem.Str.ofString "_law_holds") 2423), (PySem.Value.str (PySem.Str.ofString "_law_holds") 2424), (PySem.Value.str (PySem.Str.ofString "/claim/cut.py") 2425), (PySem.Value.int (194) 0), (PySem.Value.int (5) 0), (PySem.Value.int (0) 0), (PySem.Value.int (0) 0), (PySem.Value.int (3) 0), (PySem.Value.ref 212), (PySem.Value.bool true), (PySem.Value.int (181) 0), (PySem.Value.ref 213), PySem.Value.none, (PySem.Value.ref 214), (PySem.Value.ref 215), (PySem.Value.ref 216), (PySem.Value.int (2434) 0), (PySem.Value.int (194) 0), (PySem.Value.str (PySem.Str.ofString "/claim/cut.py") 2435)]), #[]⟩
noncomputable def ob_218_30 (P : Params) : Obj := ⟨(PySem.Value.type "function"), none, (PySem.Data.func ⟨(PySem.Str.ofString "_law_holds"), (PySem.Str.ofString "_law_holds"), fnArgs (stAt 26), PySem.FuncBody.stmts (bodyOf (stAt 26)), fnScope (stAt 26), 3, [], PySem.Value.none, PySem.Value.none, PySem.Value.none, (PySem.Value.str (PySem.Str.ofString "law_to0071_01") 2345), none, (PySem.Value.ref 217), PySem.Value.none, 0⟩), #[]⟩
noncomputable def ob_219_30 (P : Params) : Obj := ⟨(PySem.Value.type "tuple"), none, (PySem.Data.seq #[] 0), #[]⟩
noncomputable def ob_220_30 (P : Params) : Obj := ⟨PySem.Value.none, none, (PySem.Data.fields #[]), #[]⟩
noncomputable def ob_221_30 (P : Params) : Obj := ⟨(PySem.Value.type "tuple"), none, (PySem.Data.seq #[(PySem.Value.str (PySem.Str.ofString "seed") 2440), (PySem.Value.str (PySem.Str.ofString "n") 2441), (PySem.Value.str (PySem.Str.ofString "ends") 2442), (PySem.Value.str (PySem.Str.ofString "i") 2443), (PySem.Value.str (PySem.Str.ofString "later") 2444), (PySem.Value.str (PySem.Str.ofString "h") 2445), (PySem.Value.str (PySem.Str.ofString "hue") 2446), (PySem.Value.str (PySem.Str.ofString "coin") 2447), (PySem.Value.str (PySem.Str.ofString "reds") 2448)] 0), #[]⟩
noncomputable def ob_222_30 (P : Params) : Obj := ⟨(PySem.Value.type "tuple"), none, (PySem.Data.seq #[] 0), #[]⟩
noncomputable def ob_223_30 (P : Params) : Obj := ⟨PySem.Value.none, none, (PySem.Data.func ⟨(PySem.Str.ofString "_law_rival"), (PySem.Str.ofString "_law_rival"), fnArgs (stAt 27), PySem.FuncBody.stmts (bodyOf (stAt 27)), fnScope (stAt 27), 0, [], PySem.Value.none, PySem.Value.none, PySem.Value.none, PySem.Value.none, none, PySem.Value.none, PySem.Value.none, 0⟩), #[]⟩
noncomputable def ob_224_30 (P : Params) : Obj := ⟨(PySem.Value.type "code"), none, (PySem.Data.fields #[(PySem.Value.str (PySem.Str.ofString "_law_rival") 2437), (PySem.Value.str (PySem.Str.ofString "_law_rival") 2438), (PySem.Value.str (PySem.Str.ofString "/claim/cut.py") 2439), (PySem.Value.int (199) 0), (PySem.Value.int (2) 0), (PySem.Value.int (0) 0), (PySem.Value.int (0) 0), (PySem.Value.int (3) 0), (PySem.Value.ref 219), (PySem.Value.bool true), (PySem.Value.int (181) 0), (PySem.Value.ref 220), PySem.Value.none, (PySem.Value.ref 221), (PySem.Value.ref 222), (PySem.Value.ref 223), (PySem.Value.int (2449) 0), (PySem.Value.int (199) 0), (PySem.Value.str (PySem.Str.ofString "/claim/cut.py") 2450)]), #[]⟩
noncomputable def ob_225_30 (P : Params) : Obj := ⟨(PySem.Value.type "function"), none, (PySem.Data.func ⟨(PySem.Str.ofString "_law_rival"), (PySem.Str.ofString "_law_rival"), fnArgs (stAt 27), PySem.FuncBody.stmts (bodyOf (stAt 27)), fnScope (stAt 27), 3, [], PySem.Value.none, PySem.Value.none, PySem.Value.none, (PySem.Value.str (PySem.Str.ofString "law_to0071_01") 2345), none, (PySem.Value.ref 224), PySem.Value.none, 0⟩), #[]⟩
noncomputable def ob_226_30 (P : Params) : Obj := ⟨(PySem.Value.type "tuple"), none, (PySem.Data.seq #[] 0), #[]⟩
noncomputable def ob_227_30 (P : Params) : Obj := ⟨PySem.Value.none, none, (PySem.Data.fields #[]), #[]⟩
noncomputable def ob_228_30 (P : Params) : Obj := ⟨PySem.Value.none, none, (PySem.Data.func ⟨(PySem.Str.ofString "law"), (PySem.Str.ofString "law"), fnArgs (stAt 28), PySem.FuncBody.stmts (bodyOf (stAt 28)), fnScope (stAt 28), 0, [], PySem.Value.none, PySem.Value.none, PySem.Value.none, PySem.Value.none, none, PySem.Value.none, PySem.Value.none, 0⟩), #[]⟩
noncomputable def ob_229_30 (P : Params) : Obj := ⟨(PySem.Value.type "code"), none, (PySem.Data.fields #[(PySem.Value.str (PySem.Str.ofString "law") 2452), (PySem.Value.str (PySem.Str.ofString "law") 2453), (PySem.Value.str (PySem.Str.ofString "/claim/cut.py") 2454), (PySem.Value.int (210) 0), (PySem.Value.int (1) 0), (PySem.Value.int (0) 0), (PySem.Value.int (0) 0), (PySem.Value.int (3) 0), (PySem.Value.ref 226), (PySem.Value.bool true), (PySem.Value.int (181) 0), (PySem.Value.ref 227), PySem.Value.none, PySem.Value.none, PySem.Value.none, (PySem.Value.ref 228), (PySem.Value.int (2455) 0), (PySem.Value.int (210) 0), (PySem.Value.str (PySem.Str.ofString "/claim/cut.py") 2456)]), #[]⟩
noncomputable def ob_230_30 (P : Params) : Obj := ⟨(PySem.Value.type "function"), none, (PySem.Data.func ⟨(PySem.Str.ofString "law"), (PySem.Str.ofString "law"), fnArgs (stAt 28), PySem.FuncBody.stmts (bodyOf (stAt 28)), fnScope (stAt 28), 3, [], PySem.Value.none, PySem.Value.none, PySem.Value.none, (PySem.Value.str (PySem.Str.ofString "law_to0071_01") 2345), none, (PySem.Value.ref 229), PySem.Value.none, 0⟩), #[]⟩
noncomputable def T28 (P : Params) : BT :=
  .node (boot_o_0 P) (.node (boot_o_1 P) (.node (ob_3_30 P) (.node (boot_o_7 P) (.node (ob_15_13 P) (.node (ob_31_13 P) (.node (ob_63_13 P) (.node (ob_127_16 P) (.nil) (.nil)) (.node (ob_191_30 P) (.nil) (.nil))) (.node (ob_95_15 P) (.node (ob_159_30 P) (.nil) (.nil)) (.node (ob_223_30 P) (.nil) (.nil)))) (.node (ob_47_13 P) (.node (ob_79_13 P) (.node (ob_143_16 P) (.nil) (.nil)) (.node (ob_207_30 P) (.nil) (.nil))) (.node (ob_111_16 P) (.node (ob_175_30 P) (.nil) (.nil)) (.nil)))) (.node (ob_23_13 P) (.node (ob_39_13 P) (.node (ob_71_13 P) (.node (ob_135_16 P) (.nil) (.nil)) (.node (ob_199_30 P) (.nil) (.nil))) (.node (ob_103_15 P) (.node (ob_167_30 P) (.nil) (.nil)) (.nil))) (.node (ob_55_13 P) (.node (ob_87_13 P) (.node (ob_151_30 P) (.nil) (.nil)) (.node (ob_215_30 P) (.nil) (.nil))) (.node (ob_119_16 P) (.node (ob_183_30 P) (.nil) (.nil)) (.nil))))) (.node (ob_11_0 P) (.node (ob_19_13 P) (.node (ob_35_13 P) (.node (ob_67_13 P) (.node (ob_131_16 P) (.nil) (.nil)) (.node (ob_195_30 P) (.nil) (.nil))) (.node (ob_99_15 P) (.node (ob_163_30 P) (.nil) (.nil)) (.node (ob_227_30 P) (.nil) (.nil)))) (.node (ob_51_13 P) (.node (ob_83_13 P) (.node (ob_147_16 P) (.nil) (.nil)) (.node (ob_211_30 P) (.nil) (.nil))) (.node (ob_115_16 P) (.node (ob_179_30 P) (.nil) (.nil)) (.nil)))) (.node (ob_27_13 P) (.node (ob_43_13 P) (.node (ob_75_13 P) (.node (ob_139_16 P) (.nil) (.nil)) (.node (ob_203_30 P) (.nil) (.nil))) (.node (ob_107_15 P) (.node (ob_171_30 P) (.nil) (.nil)) (.nil))) (.node (ob_59_13 P) (.node (ob_91_13 P) (.node (ob_155_30 P) (.nil) (.nil)) (.node (ob_219_30 P) (.nil) (.nil))) (.node (ob_123_16 P) (.node (ob_187_30 P) (.nil) (.nil)) (.nil)))))) (.node (boot_o_5 P) (.node (boot_o_9 P) (.node (ob_17_13 P) (.node (ob_33_13 P) (.node (ob_65_13 P) (.node (ob_129_16 P) (.nil) (.nil)) (.node (ob_193_30 P) (.nil) (.nil))) (.node (ob_97_15 P) (.node (ob_161_30 P) (.nil) (.nil)) (.node (ob_225_30 P) (.nil) (.nil)))) (.node (ob_49_13 P) (.node (ob_81_13 P) (.node (ob_145_16 P) (.nil) (.nil)) (.node (ob_209_30 P) (.nil) (.nil))) (.node (ob_113_16 P) (.node (ob_177_30 P) (.nil) (.nil)) (.nil)))) (.node (ob_25_13 P) (.node (ob_41_13 P) (.node (ob_73_13 P) (.node (ob_137_16 P) (.nil) (.nil)) (.node (ob_201_30 P) (.nil) (.nil))) (.node (ob_105_15 P) (.node (ob_169_30 P) (.nil) (.nil)) (.nil))) (.node (ob_57_13 P) (.node (ob_89_13 P) (.node (ob_153_30 P) (.nil) (.nil)) (.node (ob_217_30 P) (.nil) (.nil))) (.node (ob_121_16 P) (.node (ob_185_30 P) (.nil) (.nil)) (.nil))))) (.node (ob_13_0 P) (.node (ob_21_13 P) (.node (ob_37_13 P) (.node (ob_69_13 P) (.node (ob_133_16 P) (.nil) (.nil)) (.node (ob_197_30 P) (.nil) (.nil))) (.node (ob_101_15 P) (.node (ob_165_30 P) (.nil) (.nil)) (.node (ob_229_30 P) (.nil) (.nil)))) (.node (ob_53_13 P) (.node (ob_85_13 P) (.node (ob_149_16 P) (.nil) (.nil)) (.node (ob_213_30 P) (.nil) (.nil))) (.node (ob_117_16 P) (.node (ob_181_30 P) (.nil) (.nil)) (.nil)))) (.node (ob_29_13 P) (.node (ob_45_13 P) (.node (ob_77_13 P) (.node (ob_141_16 P) (.nil) (.nil)) (.node (ob_205_30 P) (.nil) (.nil))) (.node (ob_109_15 P) (.node (ob_173_30 P) (.nil) (.nil)) (.nil))) (.node (ob_61_13 P) (.node (ob_93_15 P) (.node (ob_157_30 P) (.nil) (.nil)) (.node (ob_221_30 P) (.nil) (.nil))) (.node (ob_125_16 P) (.node (ob_189_30 P) (.nil) (.nil)) (.nil))))))) (.node (boot_o_2 P) (.node (boot_o_4 P) (.node (boot_o_8 P) (.node (ob_16_13 P) (.node (ob_32_13 P) (.node (ob_64_13 P) (.node (ob_128_16 P) (.nil) (.nil)) (.node (ob_192_30 P) (.nil) (.nil))) (.node (ob_96_15 P) (.node (ob_160_30 P) (.nil) (.nil)) (.node (ob_224_30 P) (.nil) (.nil)))) (.node (ob_48_13 P) (.node (ob_80_13 P) (.node (ob_144_16 P) (.nil) (.nil)) (.node (ob_208_30 P) (.nil) (.nil))) (.node (ob_112_16 P) (.node (ob_176_30 P) (.nil) (.nil)) (.nil)))) (.node (ob_24_13 P) (.node (ob_40_13 P) (.node (ob_72_13 P) (.node (ob_136_16 P) (.nil) (.nil)) (.node (ob_200_30 P) (.nil) (.nil))) (.node (ob_104_15 P) (.node (ob_168_30 P) (.nil) (.nil)) (.nil))) (.node (ob_56_13 P) (.node (ob_88_13 P) (.node (ob_152_30 P) (.nil) (.nil)) (.node (ob_216_30 P) (.nil) (.nil))) (.node (ob_120_16 P) (.node (ob_184_30 P) (.nil) (.nil)) (.nil))))) (.node (ob_12_30 P) (.node (ob_20_13 P) (.node (ob_36_13 P) (.node (ob_68_13 P) (.node (ob_132_16 P) (.nil) (.nil)) (.node (ob_196_30 P) (.nil) (.nil))) (.node (ob_100_15 P) (.node (ob_164_30 P) (.nil) (.nil)) (.node (ob_228_30 P) (.nil) (.nil)))) (.node (ob_52_13 P) (.node (ob_84_13 P) (.node (ob_148_16 P) (.nil) (.nil)) (.node (ob_212_30 P) (.nil) (.nil))) (.node (ob_116_16 P) (.node (ob_180_30 P) (.nil) (.nil)) (.nil)))) (.node (ob_28_13 P) (.node (ob_44_13 P) (.node (ob_76_13 P) (.node (ob_140_16 P) (.nil) (.nil)) (.node (ob_204_30 P) (.nil) (.nil))) (.node (ob_108_15 P) (.node (ob_172_30 P) (.nil) (.nil)) (.nil))) (.node (ob_60_13 P) (.node (ob_92_13 P) (.node (ob_156_30 P) (.nil) (.nil)) (.node (ob_220_30 P) (.nil) (.nil))) (.node (ob_124_16 P) (.node (ob_188_30 P) (.nil) (.nil)) (.nil)))))) (.node (boot_o_6 P) (.node (boot_o_10 P) (.node (ob_18_13 P) (.node (ob_34_13 P) (.node (ob_66_13 P) (.node (ob_130_16 P) (.nil) (.nil)) (.node (ob_194_30 P) (.nil) (.nil))) (.node (ob_98_15 P) (.node (ob_162_30 P) (.nil) (.nil)) (.node (ob_226_30 P) (.nil) (.nil)))) (.node (ob_50_13 P) (.node (ob_82_13 P) (.node (ob_146_16 P) (.nil) (.nil)) (.node (ob_210_30 P) (.nil) (.nil))) (.node (ob_114_16 P) (.node (ob_178_30 P) (.nil) (.nil)) (.nil)))) (.node (ob_26_13 P) (.node (ob_42_13 P) (.node (ob_74_13 P) (.node (ob_138_16 P) (.nil) (.nil)) (.node (ob_202_30 P) (.nil) (.nil))) (.node (ob_106_15 P) (.node (ob_170_30 P) (.nil) (.nil)) (.nil))) (.node (ob_58_13 P) (.node (ob_90_13 P) (.node (ob_154_30 P) (.nil) (.nil)) (.node (ob_218_30 P) (.nil) (.nil))) (.node (ob_122_16 P) (.node (ob_186_30 P) (.nil) (.nil)) (.nil))))) (.node (ob_14_0 P) (.node (ob_22_13 P) (.node (ob_38_13 P) (.node (ob_70_13 P) (.node (ob_134_16 P) (.nil) (.nil)) (.node (ob_198_30 P) (.nil) (.nil))) (.node (ob_102_15 P) (.node (ob_166_30 P) (.nil) (.nil)) (.node (ob_230_30 P) (.nil) (.nil)))) (.node (ob_54_13 P) (.node (ob_86_13 P) (.node (ob_150_30 P) (.nil) (.nil)) (.node (ob_214_30 P) (.nil) (.nil))) (.node (ob_118_16 P) (.node (ob_182_30 P) (.nil) (.nil)) (.nil)))) (.node (ob_30_13 P) (.node (ob_46_13 P) (.node (ob_78_13 P) (.node (ob_142_16 P) (.nil) (.nil)) (.node (ob_206_30 P) (.nil) (.nil))) (.node (ob_110_15 P) (.node (ob_174_30 P) (.nil) (.nil)) (.nil))) (.node (ob_62_13 P) (.node (ob_94_15 P) (.node (ob_158_30 P) (.nil) (.nil)) (.node (ob_222_30 P) (.nil) (.nil))) (.node (ob_126_16 P) (.node (ob_190_30 P) (.nil) (.nil)) (.nil)))))))
noncomputable def pos28 : Pos := ⟨210, 0, 222, 293⟩
noncomputable abbrev S28 (w : World) (os : OsState) : SharedT := ⟨T28 w.params, 231, {}, #[], {}, 2458, os⟩
end
end Mine
namespace Mine
section
noncomputable abbrev BF : List Frame := [topFrame default]
noncomputable def sts15 : List Stmt := [stAt 15, stAt 16, stAt 17, stAt 18, stAt 19, stAt 20, stAt 21, stAt 22, stAt 23, stAt 24, stAt 25, stAt 26, stAt 27, stAt 28]
noncomputable def sts0 : List Stmt := [stAt 0, stAt 1, stAt 2, stAt 3, stAt 4, stAt 5, stAt 6, stAt 7, stAt 8, stAt 9, stAt 10, stAt 11]
noncomputable def sts12 : List Stmt := [stAt 12, stAt 13]
theorem run28 (b : List Stmt) (w : World) (os : OsState) : segRunT treeTable prg w 11 (some (.ref 6)) 1 500 (S14 w os) (piecesOf sts15 envM (.body b envM) pos14 BF) = some (.next, S28 w os, .body b envM, pos28) := by
  rw [PySem.W.Fast.te10110043849684766642, PySem.W.Fast.te14364793385576792824]
  kernel_rfl
theorem run11 (b : List Stmt) (w : World) (os : OsState) : segRunT treeTable prg w 11 (some (.ref 6)) 1 600 (Sm2 w os) (piecesOf sts0 envM (.body b envM) posm2 BF) = some (.next, S11 w os, .body b envM, pos11) := by
  rw [PySem.W.Fast.te10110043849684766642, PySem.W.Fast.te14364793385576792824]
  kernel_rfl
noncomputable def P13 (b : List Stmt) (os : OsState) (w : World) : Prop := segRunT treeTable prg w 11 (some (.ref 6)) 1 1100 (S11 w os) (piecesOf sts12 envM (.body b envM) pos11 BF) = some (.next, S13 w os, .body b envM, pos13)
theorem r13ff (b : List Stmt) (os : OsState) (w : World) : P13 b os ((w.withFollow "special-get-raises" false).withFollow "set-order" false) := by
  delta P13
  rw [PySem.W.Fast.te10110043849684766642, PySem.W.Fast.te14364793385576792824]
  kernel_rfl
theorem r13ft (b : List Stmt) (os : OsState) (w : World) : P13 b os ((w.withFollow "special-get-raises" true).withFollow "set-order" false) := by
  delta P13
  rw [PySem.W.Fast.te10110043849684766642, PySem.W.Fast.te14364793385576792824]
  kernel_rfl
theorem r13tf (b : List Stmt) (os : OsState) (w : World) : P13 b os ((w.withFollow "special-get-raises" false).withFollow "set-order" true) := by
  delta P13
  rw [PySem.W.Fast.te10110043849684766642, PySem.W.Fast.te14364793385576792824]
  kernel_rfl
theorem r13tt (b : List Stmt) (os : OsState) (w : World) : P13 b os ((w.withFollow "special-get-raises" true).withFollow "set-order" true) := by
  delta P13
  rw [PySem.W.Fast.te10110043849684766642, PySem.W.Fast.te14364793385576792824]
  kernel_rfl
theorem run13 (b : List Stmt) (w : World) (os : OsState) : P13 b os w :=
  byRow2 "set-order" (P := P13 b os) (fun w => byRow2 "special-get-raises" (P := fun w => P13 b os (w.withFollow "set-order" false)) (r13ff b os) (r13ft b os) w) (fun w => byRow2 "special-get-raises" (P := fun w => P13 b os (w.withFollow "set-order" true)) (r13tf b os) (r13tt b os) w) w
end
end Mine
namespace Mine
section
noncomputable abbrev GoK (w : World) (bb : List Stmt) (n : Nat) (s : Shared) (cur : Sem Fin) (pos : Pos) : Option (Shared × Thread) := segGo treeTable prg w 11 (some (.ref 6)) 1 n s ⟨cur, .body bb envM, pos, BF⟩
noncomputable def Goes (w : World) (bb : List Stmt) {α : Type} (B : Nat) (s : Shared) (x : Sem α) (s' : Shared) (a : α) : Prop :=
  ∃ n, n ≤ B ∧ ∀ (K : α → Sem Fin) (H : Value → Sem Fin) (gd : Bool → Bool) (lv : List Value → List Value) (pos : Pos), ∃ pos', GoK w bb n s (x.wrap K H gd lv) pos = some (s', ⟨K a, .body bb envM, pos', BF⟩)
section
variable {w : World} {bb : List Stmt} {α β : Type} {s s1 s2 s' : Shared}
theorem segGo_trans {tb : String → Option Builtin} {p : Program} {n₀ : Nat} {ann : Option Value} {b : Nat} : ∀ {n N : Nat} {s s' : Shared} {t t' : Thread} {r}, segGo tb p w n₀ ann b n s t = some (s', t') → segGo tb p w n₀ ann b N s' t' = some r → segGo tb p w n₀ ann b (n + N) s t = some r
  | 0, N, s, s', t, t', r, h, k => by
    obtain ⟨rfl, rfl⟩ : s = s' ∧ t = t' := by simpa [segGo] using h
    rw [Nat.zero_add]; exact k
  | n + 1, N, s, s', t, t', r, h, k => by
    rw [show n + 1 + N = n + N + 1 by lia]
    unfold segGo at h ⊢
    cases he : endAt b t with
    | some f => rw [he] at h; cases h
    | none =>
      rw [he] at h
      cases hk : stepOk n₀ ann t with
      | false => rw [hk] at h; cases h
      | true =>
        rw [hk] at h
        cases hs : step (denote tb) p w s t with
        | halt o s₂ => rw [hs] at h; cases h
        | go s₂ t₂ => rw [hs] at h; exact segGo_trans h k
theorem Goes.pure (a : α) : Goes w bb 0 s (Pure.pure a) s a := ⟨0, Nat.le_refl _, fun _ _ _ _ pos => ⟨pos, rfl⟩⟩
theorem Goes.bind {x : Sem α} {f : α → Sem β} {a : α} {b : β} {B1 B2 : Nat} (h1 : Goes w bb B1 s x s1 a) (h2 : Goes w bb B2 s1 (f a) s2 b) : Goes w bb (B1 + B2) s (x >>= f) s2 b := by
  obtain ⟨n, hn, h1⟩ := h1
  obtain ⟨m, hm, h2⟩ := h2
  refine ⟨n + m, Nat.add_le_add hn hm, fun K H gd lv pos => ?_⟩
  rw [Sem.bind_eq_wrap', Sem.wrap_wrap]
  obtain ⟨p1, e1⟩ := h1 (fun a => (f a).wrap K H gd lv) (fun e => (Sem.raise e : Sem β).wrap K H gd lv) (fun g => gd (id g)) (fun l => lv (id l)) pos
  obtain ⟨p2, e2⟩ := h2 K H gd lv p1
  exact ⟨p2, segGo_trans e1 e2⟩
theorem Goes.mono {x : Sem α} {a : α} {B1 B2 : Nat} (h : Goes w bb B1 s x s1 a) (hB : B1 ≤ B2) : Goes w bb B2 s x s1 a := by
  obtain ⟨n, hn, h⟩ := h
  exact ⟨n, Nat.le_trans hn hB, h⟩
theorem Goes.keep {x : Sem α} {a : α} {B : Nat} {vs : List Value} (h : Goes w bb B s x s1 a) : Goes w bb B s (x.keep vs) s1 a := by
  obtain ⟨n, hn, h⟩ := h
  refine ⟨n, hn, fun K H gd lv pos => ?_⟩
  rw [Sem.keep_eq_wrap, Sem.wrap_wrap]
  exact h (fun a => (Sem.pure a : Sem α).wrap K H gd lv) _ _ _ pos
theorem Goes.holding {x : Sem α} {a : α} {B : Nat} {vs : List Value} (h : Goes w bb B s x s1 a) : Goes w bb B s (holding vs x) s1 a := by
  unfold PySem.holding
  split
  · exact h
  · exact h.keep
theorem Goes.onRaise {x : Sem α} {a : α} {B : Nat} {f : Value → Sem Unit} (h : Goes w bb B s x s1 a) : Goes w bb B s (x.onRaise f) s1 a := by
  obtain ⟨n, hn, h⟩ := h
  refine ⟨n, hn, fun K H gd lv pos => ?_⟩
  rw [Sem.onRaise_eq_wrap, Sem.wrap_wrap]
  exact h (fun a => (Sem.pure a : Sem α).wrap K H gd lv) _ _ _ pos
theorem goes_rule (t : String) : Goes w bb 1 s (rule t) s () := ⟨1, Nat.le_refl _, fun _ _ _ _ pos => ⟨pos, rfl⟩⟩
theorem goes_standAt (q : Pos) : Goes w bb 1 s (standAt q) s () := ⟨1, Nat.le_refl _, fun _ _ _ _ pos => ⟨q, rfl⟩⟩
theorem goes_mkInt (i : Int) : Goes w bb 1 s (mkInt i) { s with toks := s.toks + 1 } (.int i s.toks) := ⟨1, Nat.le_refl _, fun _ _ _ _ pos => ⟨pos, rfl⟩⟩
theorem goes_mkText (x : Str) : Goes w bb 1 s (mkText x) { s with toks := s.toks + 1 } (.str x s.toks) := ⟨1, Nat.le_refl _, fun _ _ _ _ pos => ⟨pos, rfl⟩⟩
theorem goes_load {a : Addr} {part : Option Value} {o : Obj} (h : s.heap.get? a = some o) : Goes w bb 1 s (loadPart a part) s o := by
  refine ⟨1, Nat.le_refl _, fun K H gd lv pos => ⟨pos, ?_⟩⟩
  show (match (match s.heap.get? a with | some o => Step.go _ _ | none => _ : Step) with | .go s' t' => _ | .halt _ _ => _) = _
  rw [h]
  rfl
theorem goes_update {a : Addr} {part : Option Value} {f : Obj → Obj} {o : Obj} (h : s.heap.get? a = some o) (ha : Nat.ble 11 a = true) : Goes w bb 1 s (updatePart a part f) { s with heap := s.heap.update a f } () := by
  refine ⟨1, Nat.le_refl _, fun K H gd lv pos => ⟨pos, ?_⟩⟩
  have hk : stepOk 11 (some (.ref 6)) ⟨.update a part f (fun x => (Sem.pure x : Sem Unit).wrap K H gd lv), .body bb envM, pos, BF⟩ = true := by
    show (true && (((Nat.ble 11 a || a == mainNs) || a == cStatics) || _)) = true
    rw [ha]; rfl
  have e : GoK w bb 1 s ((updatePart a part f).wrap K H gd lv) pos = (match stepOk 11 (some (.ref 6)) ⟨.update a part f (fun x => (Sem.pure x : Sem Unit).wrap K H gd lv), .body bb envM, pos, BF⟩ with
    | false => none
    | true => (match (if (s.heap.get? a).isSome then Step.go ⟨s.heap.update a f, s.gens, s.drawn, s.toks, s.os⟩ ⟨K (), .body bb envM, pos, BF⟩ else .halt (.stuck "update: no object at this address, or it has been freed") s : Step) with | .go s' t' => some (s', t') | .halt _ _ => none)) := rfl
  rw [e, hk, h]
  rfl
theorem goes_alloc (o : Obj) : Goes w bb 1 s (alloc o) { s with heap := s.heap.push o } s.heap.objs.size := ⟨1, Nat.le_refl _, fun _ _ _ _ pos => ⟨pos, rfl⟩⟩
theorem hash_run (b : Bool) (k : Int) (t : Tok) (K : Int → Sem Fin) (H : Value → Sem Fin) (gd : Bool → Bool) (lv : List Value → List Value) (pos : Pos) :
    GoK (w.withFollow "special-get-raises" b) bb 5 s ((pyHash (.int k t)).wrap K H gd lv) pos = some ({ s with toks := s.toks + 1 }, ⟨(PySem.pyHashByItsType.reduced (PySem.rawHash k)).wrap K H gd lv, .body bb envM, pos, BF⟩) := by
  cases b <;> kernel_rfl
theorem raw_small {k : Int} (h0 : 0 ≤ k) (h1 : k < 1000000) : PySem.rawHash k = k := by
  have e : ((k.natAbs % (2 ^ 61 - 1) : Nat) : Int) = k := by
    rw [Nat.mod_eq_of_lt (by lia)]; lia
  have n1 : ¬ k < 0 := by lia
  have n2 : (k == -1) = false := by simp; lia
  show (if ((if k < 0 then -((k.natAbs % (2 ^ 61 - 1) : Nat) : Int) else ((k.natAbs % (2 ^ 61 - 1) : Nat) : Int)) == -1) = true then -2 else (if k < 0 then -((k.natAbs % (2 ^ 61 - 1) : Nat) : Int) else ((k.natAbs % (2 ^ 61 - 1) : Nat) : Int))) = k
  rw [if_neg n1, e, n2]
  rfl
theorem reduced_small {k : Int} (h0 : 0 ≤ k) (h1 : k < 1000000) : PySem.pyHashByItsType.reduced (PySem.rawHash k) = Pure.pure k := by
  rw [raw_small h0 h1]
  unfold PySem.pyHashByItsType.reduced
  have c : (decide (-(2 ^ 63 : Int) ≤ k) && decide (k < 2 ^ 63)) = true := by
    simp only [Bool.and_eq_true, decide_eq_true_eq]
    constructor <;> lia
  have n2 : (k == -1) = false := by simp; lia
  rw [if_pos c, n2]
  rfl
theorem goes_hash {b : Bool} {k : Int} {t : Tok} (h0 : 0 ≤ k) (h1 : k < 1000000) : Goes (w.withFollow "special-get-raises" b) bb 5 s (pyHash (.int k t)) { s with toks := s.toks + 1 } k := by
  refine ⟨5, Nat.le_refl _, fun K H gd lv pos => ⟨pos, ?_⟩⟩
  have e := hash_run (w := w) (bb := bb) (s := s) b k t K H gd lv pos
  rw [reduced_small h0 h1] at e
  exact e
noncomputable abbrev dObj (es : List DictEntry) (n : Nat) : Obj := ⟨.type "dict", none, .dict es.toArray n, #[]⟩
noncomputable def NoH (es : List DictEntry) (k : Int) : Prop := ∀ e ∈ es, e.hash ≠ k
theorem places_none {es : List DictEntry} {k : Int} (h : NoH es k) : placesWithHash es.toArray.size (fun i => es.toArray[i]?.map (·.hash)) k = [] := by
  unfold placesWithHash
  rw [List.filter_eq_nil_iff]
  intro i _ hi
  simp only [List.getElem?_toArray, beq_iff_eq] at hi
  cases e : es[i]? with
  | none => rw [e] at hi; cases hi
  | some x =>
    rw [e] at hi
    exact h x (List.mem_of_getElem? e) (Option.some.inj hi)
theorem goes_entries {a : Addr} {part : Option Value} {es : List DictEntry} {n : Nat} (h : s.heap.get? a = some (dObj es n)) : Goes w bb 1 s (dictEntries a part) s es.toArray :=
  Goes.bind (B2 := 0) (goes_load h) (Goes.pure _)
theorem goes_epoch {a : Addr} {part : Option Value} {es : List DictEntry} {n : Nat} (h : s.heap.get? a = some (dObj es n)) : Goes w bb 1 s (dictEpoch a part) s n :=
  Goes.bind (B2 := 0) (goes_load h) (Goes.pure _)
theorem goes_find {a : Addr} {es : List DictEntry} {n : Nat} {k : Int} {t : Tok} (h : s.heap.get? a = some (dObj es n)) (no : NoH es k) : Goes w bb 1 s (dictFind a (.int k t) k) s none := by
  unfold dictFind
  refine Goes.holding (Goes.bind (B1 := 1) (B2 := 0) (goes_entries h) ?_)
  dsimp only
  rw [places_none no]
  exact Goes.pure _
theorem upd_self {h : Heap} {a : Addr} {es : List DictEntry} {n : Nat} (f : Array DictEntry → Array DictEntry) (g : h.get? a = some (dObj es n)) : (h.update a (Obj.mapDictKeys f)).get? a = some ⟨.type "dict", none, .dict (f es.toArray) (n + 1), #[]⟩ :=
  Heap.get?_update_self (Obj.mapDictKeys f) g rfl
theorem goes_push {a : Addr} {es : List DictEntry} {n : Nat} {e : DictEntry} {part : Option Value} (h : s.heap.get? a = some (dObj es n)) (ha : Nat.ble 11 a = true) (sz : es.length < 1000) :
    Goes w bb 3 s (updateDictKeys a (·.push e) part) { s with heap := s.heap.update a (Obj.mapDictKeys (·.push e)) } () := by
  unfold updateDictKeys
  refine Goes.bind (B1 := 1) (B2 := 2) (goes_load h) ?_
  dsimp only
  refine Goes.bind (B1 := 1) (B2 := 1) (goes_update h ha) ?_
  unfold lookBehind
  refine Goes.bind (B1 := 1) (B2 := 0) (goes_load (upd_self (·.push e) h)) ?_
  have : ¬ (es.toArray.push e).size > sizeLine + 1 := by
    simp only [Array.size_push, List.size_toArray, sizeLine]
    lia
  dsimp only [Data.pastItsLine]
  rw [if_neg this]
  exact Goes.pure _
end
end
end Mine
namespace Mine
section
noncomputable def hp (base l : List Obj) : Heap := ⟨(base ++ l).toArray, {}⟩
noncomputable abbrev stH (base l : List Obj) (tk : Nat) (os : OsState) : Shared := ⟨hp base l, #[], {}, tk, os⟩
section
variable {w : World} {bb : List Stmt} {base l : List Obj} {os : OsState} {tk : Nat} {bw : Bool}
theorem hp_get (hb : base.length = 111) {i : Nat} {es : List DictEntry} {n : Nat} (h : l[i]? = some (dObj es n)) : (hp base l).get? (111 + i) = some (dObj es n) := by
  unfold Heap.get? hp
  have e : (base ++ l).toArray[111 + i]? = some (dObj es n) := by
    rw [List.getElem?_toArray, List.getElem?_append_right (by lia), hb, Nat.add_sub_cancel_left]
    exact h
  rw [e]
theorem hp_push (o : Obj) : (hp base l).push o = hp base (l ++ [o]) := by
  unfold hp Heap.push
  simp
theorem hp_upd (hb : base.length = 111) (i : Nat) (f : Obj → Obj) : (hp base l).update (111 + i) f = hp base (l.modify i f) := by
  unfold hp Heap.update
  have : (base ++ l).toArray.modify (111 + i) f = (base ++ l.modify i f).toArray := by
    apply Array.ext_getElem?
    intro j
    rw [Array.getElem?_modify, List.getElem?_toArray, List.getElem?_toArray]
    by_cases hj : j < 111
    · rw [List.getElem?_append_left (by lia), List.getElem?_append_left (by lia), if_neg (by lia)]
    · rw [List.getElem?_append_right (by lia), List.getElem?_append_right (by lia), List.getElem?_modify, hb]
      by_cases e : 111 + i = j
      · subst e
        rw [if_pos rfl, Nat.add_sub_cancel_left]
        cases l[i]? <;> simp
      · rw [if_neg e]
        have : ¬ i = j - 111 := by lia
        cases l[j - 111]? <;> simp [this]
  show Heap.mk ((base ++ l).toArray.modify (111 + i) f) {} = _
  rw [this]
noncomputable def IsIt (w : World) (bb : List Stmt) (km vm : Sem Value) (k : Int) (x : Str) : Prop :=
  (∀ s, Goes w bb 1 s km { s with toks := s.toks + 1 } (.int k s.toks)) ∧ (∀ s, Goes w bb 2 s vm { s with toks := s.toks + 1 } (.str x s.toks))
inductive Its (w : World) (bb : List Stmt) : List (Sem Value × Sem Value) → List (Int × Str) → Prop
  | nil : Its w bb [] []
  | cons {km vm k x r p} : IsIt w bb km vm k x → Its w bb r p → Its w bb ((km, vm) :: r) ((k, x) :: p)
noncomputable def entA : Nat → List (Int × Str) → List DictEntry
  | _, [] => []
  | tk, (k, x) :: r => ⟨k, .int k tk, .str x (tk + 1)⟩ :: entA (tk + 3) r
noncomputable def entB : Nat → List (Int × Str) → List DictEntry
  | _, [] => []
  | tk, (k, x) :: r => ⟨k, .int k tk, .str x (tk + 1)⟩ :: entB (tk + 2) r
noncomputable def Asc : Int → List (Int × Str) → Prop
  | _, [] => True
  | lo, (k, _) :: r => lo < k ∧ k < 1000000 ∧ Asc k r
noncomputable def Hs (es : List DictEntry) (lo : Int) : Prop := ∀ e ∈ es, e.hash ≤ lo
theorem Hs.no {es : List DictEntry} {lo k : Int} (h : Hs es lo) (hk : lo < k) : NoH es k := fun e he q => by have := h e he; lia
theorem Hs.push {es : List DictEntry} {lo k : Int} {v u : Value} (h : Hs es lo) (hk : lo < k) : Hs (es ++ [⟨k, v, u⟩]) k := fun e he => by
  rcases List.mem_append.mp he with q | q
  · have := h e q; lia
  · rw [List.mem_singleton.mp q]; exact Int.le_refl _
theorem last_get {L : List Obj} {o : Obj} : (L ++ [o])[L.length]? = some o := by simp
theorem last_mod {L : List Obj} {o : Obj} {f : Obj → Obj} : (L ++ [o]).modify L.length f = L ++ [f o] := by
  induction L with
  | nil => rfl
  | cons a r ih => simp [List.modify_succ_cons, ih]
theorem push_obj (es : List DictEntry) (n : Nat) (e : DictEntry) : Obj.mapDictKeys (·.push e) (dObj es n) = dObj (es ++ [e]) (n + 1) := by
  show (⟨_, _, .dict (es.toArray.push e) (n + 1), _⟩ : Obj) = _
  rw [List.push_toArray]
theorem goes_setLast (hb : base.length = 111) {L : List Obj} {es : List DictEntry} {n : Nat} {k lo : Int} {t u : Tok} {x : Str} (h : Hs es lo) (hl : lo < k) (h0 : 0 ≤ lo) (h1 : k < 1000000) (sz : es.length < 1000) :
    Goes (w.withFollow "special-get-raises" bw) bb 10 (stH base (L ++ [dObj es n]) tk os) (dictSet (111 + L.length) (.int k t) (.str x u)) (stH base (L ++ [dObj (es ++ [⟨k, .int k t, .str x u⟩]) (n + 1)]) (tk + 1) os) () := by
  unfold dictSet
  refine Goes.holding (Goes.bind (B1 := 5) (B2 := 5) (goes_hash (by lia) h1) ?_)
  unfold dictSetHashed
  refine Goes.holding (Goes.bind (B1 := 1) (B2 := 4) (goes_find (es := es) (n := n) (hp_get hb last_get) (h.no hl)) ?_)
  refine Goes.bind (B1 := 1) (B2 := 3) (goes_rule _) ?_
  have g := goes_push (w := w.withFollow "special-get-raises" bw) (bb := bb) (s := stH base (L ++ [dObj es n]) (tk + 1) os) (e := ⟨k, .int k t, .str x u⟩) (part := keyPart (.int k t)) (hp_get hb last_get) (by
    show Nat.ble 11 (111 + L.length) = true
    exact Nat.ble_eq_true_of_le (by lia)) sz
  rw [hp_upd hb, last_mod, push_obj] at g
  exact g
theorem forIn_cons' {α β : Type} (a : α) (r : List α) (b : β) (F : α → β → Sem (ForInStep β)) : forIn (a :: r) b F = F a b >>= fun x => match x with | .done c => pure c | .yield c => forIn r c F := by
  rw [List.forIn_cons]
  congr 1
theorem forIn_nil' {α β : Type} (b : β) (F : α → β → Sem (ForInStep β)) : forIn ([] : List α) b F = pure b := List.forIn_nil
noncomputable abbrev FA (d : Addr) : Sem Value × Sem Value → PUnit → Sem (ForInStep PUnit) := fun x _ => match x with
  | (k, v) => do
    let kv ← k
    let vv ← holding [kv] v
    holding [kv, vv] (dictSet d kv vv)
    pure (ForInStep.yield PUnit.unit)
theorem goes_loopA (hb : base.length = 111) {L : List Obj} {ps : List (Int × Str)} {its : List (Sem Value × Sem Value)} (I : Its (w.withFollow "special-get-raises" bw) bb its ps) : ∀ {es : List DictEntry} {n tk : Nat} {lo : Int}, Hs es lo → 0 ≤ lo → Asc lo ps → es.length + ps.length < 1000 →
    Goes (w.withFollow "special-get-raises" bw) bb (20 * ps.length) (stH base (L ++ [dObj es n]) tk os) (forIn its PUnit.unit (FA (111 + L.length))) (stH base (L ++ [dObj (es ++ entA tk ps) (n + ps.length)]) (tk + 3 * ps.length) os) PUnit.unit := by
  induction I with
  | nil =>
    intro es n tk lo _ _ _ _
    rw [forIn_nil']
    simp only [entA, List.append_nil, List.length_nil, Nat.mul_zero, Nat.add_zero]
    exact Goes.pure _
  | @cons km vm k x r ps i is ih =>
    intro es n tk lo h h0 a sz
    rw [forIn_cons']
    obtain ⟨a1, a2, a3⟩ := a
    have ih := ih (n := n + 1) (tk := tk + 3) (h.push (v := .int k tk) (u := .str x (tk + 1)) a1) (by lia) a3 (by simp only [List.length_append, List.length_cons, List.length_nil] at sz ⊢; lia)
    have e : es ++ entA tk ((k, x) :: ps) = (es ++ [⟨k, .int k tk, .str x (tk + 1)⟩]) ++ entA (tk + 3) ps := by simp [entA]
    have e2 : n + ((k, x) :: ps).length = n + 1 + ps.length := by simp only [List.length_cons]; lia
    have e3 : tk + 3 * ((k, x) :: ps).length = tk + 3 + 3 * ps.length := by simp only [List.length_cons]; lia
    rw [e, e2, e3]
    refine Goes.mono (B1 := 1 + 2 + (10 + 0) + 20 * ps.length) ?_ (by simp only [List.length_cons]; lia)
    refine Goes.bind (B1 := 1 + 2 + (10 + 0)) (B2 := 20 * ps.length) (a := .yield PUnit.unit) (s1 := stH base (L ++ [dObj (es ++ [⟨k, .int k tk, .str x (tk + 1)⟩]) (n + 1)]) (tk + 3) os) ?_ ih
    rw [show 1 + 2 + (10 + 0) = 1 + (2 + (10 + 0)) by lia]
    exact Goes.bind (i.1 _) (Goes.bind (Goes.holding (i.2 _)) (Goes.bind (Goes.holding (goes_setLast hb h a1 h0 a2 (by lia))) (Goes.pure _)))
end
end
end Mine
namespace Mine
section
section
variable {w : World} {bb : List Stmt} {base l : List Obj} {os : OsState} {tk : Nat} {bw : Bool}
noncomputable def valsB : Nat → List (Int × Str) → List (Value × Value)
  | _, [] => []
  | tk, (k, x) :: r => (.int k tk, .str x (tk + 1)) :: valsB (tk + 2) r
theorem goes_evalPairs {h : Heap} {ps : List (Int × Str)} {its : List (Sem Value × Sem Value)} (I : Its w bb its ps) : ∀ {tk : Nat},
    Goes w bb (3 * ps.length) ⟨h, #[], {}, tk, os⟩ (evalPairs its) ⟨h, #[], {}, tk + 2 * ps.length, os⟩ (valsB tk ps) := by
  induction I with
  | nil =>
    intro tk
    simp only [List.length_nil, Nat.mul_zero, Nat.add_zero]
    exact Goes.pure _
  | @cons km vm k x r ps i is ih =>
    intro tk
    have ih := ih (tk := tk + 2)
    have e3 : tk + 2 * ((k, x) :: ps).length = tk + 2 + 2 * ps.length := by simp only [List.length_cons]; lia
    rw [e3]
    refine Goes.mono (B1 := 1 + (2 + (3 * ps.length + 0))) ?_ (by simp only [List.length_cons]; lia)
    unfold evalPairs
    exact Goes.bind (i.1 _) (Goes.bind (Goes.holding (i.2 _)) (Goes.bind (Goes.holding ih) (Goes.pure _)))
noncomputable abbrev FB (d : Addr) : Value × Value → PUnit → Sem (ForInStep PUnit) := fun x _ => match x with
  | (k, v) => do
    dictSet d k v
    pure (ForInStep.yield PUnit.unit)
theorem goes_loopB (hb : base.length = 111) {L : List Obj} : ∀ {ps : List (Int × Str)} {es : List DictEntry} {n tk tv : Nat} {lo : Int}, Hs es lo → 0 ≤ lo → Asc lo ps → es.length + ps.length < 1000 →
    Goes (w.withFollow "special-get-raises" bw) bb (10 * ps.length) (stH base (L ++ [dObj es n]) tk os) (forIn (valsB tv ps) PUnit.unit (FB (111 + L.length))) (stH base (L ++ [dObj (es ++ entB tv ps) (n + ps.length)]) (tk + ps.length) os) PUnit.unit
  | [], es, n, tk, tv, lo, _, _, _, _ => by
    show Goes _ _ _ _ (forIn [] _ _) _ _
    rw [forIn_nil']
    simp only [entB, List.append_nil, List.length_nil, Nat.mul_zero, Nat.add_zero]
    exact Goes.pure _
  | (k, x) :: ps, es, n, tk, tv, lo, h, h0, a, sz => by
    show Goes _ _ _ _ (forIn ((Value.int k tv, Value.str x (tv + 1)) :: valsB (tv + 2) ps) _ _) _ _
    rw [forIn_cons']
    obtain ⟨a1, a2, a3⟩ := a
    have ih := goes_loopB hb (L := L) (n := n + 1) (tk := tk + 1) (tv := tv + 2) (h.push (v := .int k tv) (u := .str x (tv + 1)) a1) (by lia) a3 (by simp only [List.length_append, List.length_cons, List.length_nil] at sz ⊢; lia)
    have e : es ++ entB tv ((k, x) :: ps) = (es ++ [⟨k, .int k tv, .str x (tv + 1)⟩]) ++ entB (tv + 2) ps := by simp [entB]
    have e2 : n + ((k, x) :: ps).length = n + 1 + ps.length := by simp only [List.length_cons]; lia
    have e3 : tk + ((k, x) :: ps).length = tk + 1 + ps.length := by simp only [List.length_cons]; lia
    rw [e, e2, e3]
    refine Goes.mono (B1 := (10 + 0) + 10 * ps.length) ?_ (by simp only [List.length_cons]; lia)
    refine Goes.bind (B1 := 10 + 0) (B2 := 10 * ps.length) (a := .yield PUnit.unit) (s1 := stH base (L ++ [dObj (es ++ [⟨k, .int k tv, .str x (tv + 1)⟩]) (n + 1)]) (tk + 1) os) ?_ ih
    exact Goes.bind (goes_setLast hb h a1 h0 a2 (by lia)) (Goes.pure _)
theorem hp_size (hb : base.length = 111) : (hp base l).objs.size = 111 + l.length := by
  unfold hp; simp [hb]
theorem Its.length {its : List (Sem Value × Sem Value)} {ps : List (Int × Str)} (h : Its w bb its ps) : its.length = ps.length := by
  induction h with
  | nil => rfl
  | cons _ _ ih => simp [ih]
theorem goes_subLong (hb : base.length = 111) {L : List Obj} {ps : List (Int × Str)} {its : List (Sem Value × Sem Value)} {tk : Nat} (I : Its (w.withFollow "special-get-raises" bw) bb its ps) (a : Asc 0 ps) (sz : ps.length < 100) (big : 15 < ps.length) :
    Goes (w.withFollow "special-get-raises" bw) bb (20 * ps.length + 10) (stH base L tk os) (subDict its) (stH base (L ++ [dObj (entA tk ps) ps.length]) (tk + 3 * ps.length) os) (111 + L.length) := by
  unfold subDict
  refine Goes.mono (B1 := 1 + ((1 + (20 * ps.length + 0)) + 0)) ?_ (by lia)
  have al := goes_alloc (w := w.withFollow "special-get-raises" bw) (bb := bb) (s := stH base L tk os) { cls := .type "dict", data := .dict #[] }
  rw [hp_push, hp_size hb] at al
  refine Goes.bind (B1 := 1) (B2 := (1 + (20 * ps.length + 0)) + 0) al ?_
  refine Goes.bind (a := ()) (B1 := 1 + (20 * ps.length + 0)) (B2 := 0) (Goes.holding ?_) (Goes.pure _)
  rw [if_neg (by rw [I.length]; lia)]
  refine Goes.bind (B1 := 1) (B2 := 20 * ps.length + 0) (goes_rule _) ?_
  have lp := goes_loopA (w := w) (bb := bb) (os := os) (bw := bw) hb (L := L) I (es := []) (n := 0) (tk := tk) (lo := 0) (fun _ h => nomatch h) (Int.le_refl _) a (by simp; lia)
  rw [List.nil_append, Nat.zero_add] at lp
  exact Goes.bind lp (Goes.pure _)
theorem goes_subShort (hb : base.length = 111) {L : List Obj} {ps : List (Int × Str)} {its : List (Sem Value × Sem Value)} {tk : Nat} (I : Its (w.withFollow "special-get-raises" bw) bb its ps) (a : Asc 0 ps) (sz : ps.length ≤ 15) :
    Goes (w.withFollow "special-get-raises" bw) bb (20 * ps.length + 10) (stH base L tk os) (subDict its) (stH base (L ++ [dObj (entB tk ps) ps.length]) (tk + 3 * ps.length) os) (111 + L.length) := by
  unfold subDict
  refine Goes.mono (B1 := 1 + ((3 * ps.length + (10 * ps.length + 0)) + 0)) ?_ (by lia)
  have al := goes_alloc (w := w.withFollow "special-get-raises" bw) (bb := bb) (s := stH base L tk os) { cls := .type "dict", data := .dict #[] }
  rw [hp_push, hp_size hb] at al
  refine Goes.bind (B1 := 1) (B2 := (3 * ps.length + (10 * ps.length + 0)) + 0) al ?_
  refine Goes.bind (a := ()) (B1 := 3 * ps.length + (10 * ps.length + 0)) (B2 := 0) (Goes.holding ?_) (Goes.pure _)
  rw [if_pos (by rw [I.length]; lia)]
  refine Goes.bind (B1 := 3 * ps.length) (B2 := 10 * ps.length + 0) (goes_evalPairs I) (Goes.holding ?_)
  have lp := goes_loopB (w := w) (bb := bb) (os := os) (bw := bw) hb (L := L) (es := []) (n := 0) (tk := tk + 2 * ps.length) (tv := tk) (lo := 0) (ps := ps) (fun _ h => nomatch h) (Int.le_refl _) a (by simp; lia)
  rw [List.nil_append, Nat.zero_add, show tk + 2 * ps.length + ps.length = tk + 3 * ps.length by lia] at lp
  exact Goes.bind lp (Goes.pure _)
noncomputable def EntOk (lo : Int) : List DictEntry → Prop
  | [] => True
  | e :: r => (∃ t x u, e = ⟨e.hash, .int e.hash t, .str x u⟩) ∧ lo < e.hash ∧ e.hash < 1000000 ∧ EntOk e.hash r
theorem entA_ok : ∀ {ps : List (Int × Str)} {lo : Int} {tk : Nat}, Asc lo ps → EntOk lo (entA tk ps)
  | [], _, _, _ => trivial
  | (k, x) :: ps, lo, tk, ⟨a, b, c⟩ => ⟨⟨tk, x, tk + 1, rfl⟩, a, b, entA_ok c⟩
theorem entB_ok : ∀ {ps : List (Int × Str)} {lo : Int} {tk : Nat}, Asc lo ps → EntOk lo (entB tk ps)
  | [], _, _, _ => trivial
  | (k, x) :: ps, lo, tk, ⟨a, b, c⟩ => ⟨⟨tk, x, tk + 1, rfl⟩, a, b, entB_ok c⟩
theorem goes_isDict (bw : Bool) {s : Shared} : Goes (w.withFollow "special-get-raises" bw) bb 30 s (isSubtype (.type "dict") (.type "dict")) s true := ⟨0, by decide, fun K H gd lv pos => ⟨pos, by cases bw <;> kernel_rfl⟩⟩
theorem goes_iterLook (bw : Bool) {s : Shared} : Goes (w.withFollow "special-get-raises" bw) bb 30 s (typeLookup (.type "dict") "__iter__") s (some (.builtin "dict.__iter__")) := ⟨0, by decide, fun K H gd lv pos => ⟨pos, by cases bw <;> kernel_rfl⟩⟩
theorem goes_typeOf {s : Shared} {a : Addr} {es : List DictEntry} {n : Nat} (h : s.heap.get? a = some (dObj es n)) : Goes w bb 1 s (typeOf (.ref a)) s (.type "dict") := by
  unfold typeOf
  exact Goes.bind (B1 := 1) (B2 := 0) (goes_load h) (Goes.pure _)
end
end
end Mine
namespace Mine
section
section
variable {w : World} {bb : List Stmt} {base l : List Obj} {os : OsState} {tk : Nat} {bw : Bool}
theorem EntOk.all : ∀ {es : List DictEntry} {lo : Int}, EntOk lo es → ∀ e ∈ es, (∃ t x u, e = ⟨e.hash, .int e.hash t, .str x u⟩) ∧ lo < e.hash
  | [], _, _, e, h => nomatch h
  | a :: r, lo, ⟨h1, h2, h3, h4⟩, e, h => by
    rcases List.mem_cons.mp h with rfl | h
    · exact ⟨h1, h2⟩
    · obtain ⟨q1, q2⟩ := EntOk.all h4 e h
      exact ⟨q1, by lia⟩
theorem goes_loopM {s : List DictEntry → Nat → Shared} {F : Nat → PUnit → Sem (ForInStep PUnit)} {es2 : List DictEntry}
    (step : ∀ i e es n, es2[i]? = some e → EntOk 0 (es ++ es2.drop i) → (es ++ es2.drop i).length < 1000 → Goes w bb 10 (s es n) (F i PUnit.unit) (s (es ++ [e]) (n + 1)) (.yield PUnit.unit)) :
    ∀ (r i : Nat) (es : List DictEntry) (n : Nat), i + r = es2.length → EntOk 0 (es ++ es2.drop i) → (es ++ es2.drop i).length < 1000 →
      Goes w bb (10 * r) (s es n) (forIn (List.range' i r) PUnit.unit F) (s (es ++ es2.drop i) (n + r)) PUnit.unit
  | 0, i, es, n, hi, ok, sz => by
    rw [List.range'_zero, forIn_nil', List.drop_eq_nil_of_le (by lia), List.append_nil]
    exact Goes.pure _
  | r + 1, i, es, n, hi, ok, sz => by
    have hl : i < es2.length := by lia
    have e1 : es2[i]? = some es2[i] := List.getElem?_eq_getElem hl
    have e2 : es2.drop i = es2[i] :: es2.drop (i + 1) := List.drop_eq_getElem_cons hl
    have st := step i es2[i] es n e1 ok sz
    rw [e2, show es ++ es2[i] :: es2.drop (i + 1) = (es ++ [es2[i]]) ++ es2.drop (i + 1) by simp] at ok sz ⊢
    rw [List.range'_succ, forIn_cons']
    have ih := goes_loopM step r (i + 1) (es ++ [es2[i]]) (n + 1) (by lia) ok sz
    rw [show n + 1 + r = n + (r + 1) by lia] at ih
    refine Goes.mono (B1 := 10 + 10 * r) ?_ (by lia)
    exact Goes.bind (B1 := 10) (B2 := 10 * r) (a := .yield PUnit.unit) st ih
theorem EntOk.noH : ∀ {es : List DictEntry} {lo : Int} {e : DictEntry} {r : List DictEntry}, EntOk lo (es ++ e :: r) → NoH es e.hash
  | [], _, _, _, _ => fun x hx => nomatch hx
  | a :: es, lo, e, r, ⟨h1, h2, h3, h4⟩ => fun x hx => by
    rcases List.mem_cons.mp hx with rfl | hx
    · have := (EntOk.all h4 e (by simp)).2
      lia
    · exact EntOk.noH h4 x hx
theorem goes_dictPut {s : Shared} {d : Addr} {es : List DictEntry} {n : Nat} {k : Int} {t : Tok} {v : Value} (h : s.heap.get? d = some (dObj es n)) (hd : Nat.ble 11 d = true) (no : NoH es k) (sz : es.length < 1000) :
    Goes w bb 4 s (dictPut d k (.int k t) v) { s with heap := s.heap.update d (Obj.mapDictKeys (·.push ⟨k, .int k t, v⟩)) } () := by
  unfold dictPut
  exact Goes.bind (B1 := 1) (B2 := 3) (goes_find h no) (goes_push h hd sz)
theorem head_mod {o : Obj} {L : List Obj} {f : Obj → Obj} : (o :: L).modify 0 f = f o :: L := rfl
theorem goes_merge (hb : base.length = 111) {L : List Obj} {es es2 : List DictEntry} {n m : Nat} (hes : es ≠ []) (sz : (es ++ es2).length < 1000) (ok : EntOk 0 (es ++ es2)) :
    Goes (w.withFollow "special-get-raises" bw) bb (10 * es2.length + 100) (stH base (dObj es n :: (L ++ [dObj es2 m])) tk os) (mergeMapping 111 (.ref (111 + (L.length + 1))) false) (stH base (dObj (es ++ es2) (n + es2.length) :: (L ++ [dObj es2 m])) tk os) () := by
  have g0 : ∀ es n, (hp base (dObj es n :: (L ++ [dObj es2 m]))).get? 111 = some (dObj es n) := fun es n => hp_get (i := 0) hb rfl
  have g1 : ∀ es n, (hp base (dObj es n :: (L ++ [dObj es2 m]))).get? (111 + (L.length + 1)) = some (dObj es2 m) := fun es n => hp_get hb (by simp)
  unfold mergeMapping
  refine Goes.mono (B1 := (1 + 30) + ((1 + 30) + (0 + (1 + (1 + (1 + (10 * es2.length + 0))))))) ?_ (by lia)
  have ns : ((111 + (L.length + 1)) == sysModules) = false := by
    simp only [beq_eq_false_iff_ne, ne_eq, sysModules]
    lia
  have ie : (some (Value.builtin "dict.__iter__") == some (Value.builtin "dict.__iter__")) = true := by simp
  refine Goes.bind (B1 := 1 + 30) (s1 := stH base (dObj es n :: (L ++ [dObj es2 m])) tk os) (a := true) ?_ ?_
  · unfold isInstance
    exact Goes.bind (goes_typeOf (g1 es n)) (goes_isDict bw)
  dsimp only
  rw [if_pos rfl]
  refine Goes.bind (B1 := 1 + 30) (s1 := stH base (dObj es n :: (L ++ [dObj es2 m])) tk os) (a := some (.builtin "dict.__iter__")) ?_ ?_
  · unfold specialOf
    exact Goes.bind (goes_typeOf (g1 es n)) (goes_iterLook bw)
  refine Goes.bind (B1 := 0) (s1 := stH base (dObj es n :: (L ++ [dObj es2 m])) tk os) (a := true) (B2 := 1 + (1 + (1 + (10 * es2.length + 0)))) ?_ ?_
  · rw [ie]; exact Goes.pure _
  dsimp only
  rw [ns, if_neg Bool.false_ne_true]
  refine Goes.bind (B1 := 1) (goes_entries (g0 es n)) ?_
  have ne : es.toArray.isEmpty = false := by
    cases es with
    | nil => exact absurd rfl hes
    | cons => rfl
  rw [ne, if_neg Bool.false_ne_true]
  refine Goes.bind (B1 := 1) (goes_entries (g1 es n)) ?_
  refine Goes.bind (B1 := 1) (goes_epoch (g1 es n)) ?_
  refine Goes.bind (B1 := 10 * es2.length) (B2 := 0) (a := PUnit.unit) (s1 := stH base (dObj (es ++ es2) (n + es2.length) :: (L ++ [dObj es2 m])) tk os) ?_ (Goes.pure _)
  rw [List.size_toArray, List.range_eq_range']
  refine goes_loopM (s := fun es n => stH base (dObj es n :: (L ++ [dObj es2 m])) tk os) ?_ es2.length 0 es n (by lia) ok sz
  intro i e es' n' hi hok hsz
  have hl : i < es2.length := (List.getElem?_eq_some_iff.mp hi).1
  have he : es2[i] = e := (List.getElem?_eq_some_iff.mp hi).2
  have e2 : es2.drop i = e :: es2.drop (i + 1) := by rw [← he]; exact List.drop_eq_getElem_cons hl
  rw [e2] at hok
  have szz : es'.length < 1000 := by simp only [List.length_append] at hsz; lia
  obtain ⟨⟨t, x, u, q⟩, _⟩ := hok.all e (by simp)
  refine Goes.mono (B1 := 1 + (4 + (1 + 0))) ?_ (by lia)
  refine Goes.bind (B1 := 1) (goes_entries (g1 es' n')) ?_
  rw [List.getElem?_toArray, hi]
  dsimp only
  refine Goes.bind (B1 := 4) (B2 := 1 + 0) (a := ()) (s1 := stH base (dObj (es' ++ [e]) (n' + 1) :: (L ++ [dObj es2 m])) tk os) (Goes.holding ?_) ?_
  · rw [if_neg Bool.false_ne_true]
    have p := goes_dictPut (w := w.withFollow "special-get-raises" bw) (bb := bb) (s := stH base (dObj es' n' :: (L ++ [dObj es2 m])) tk os) (t := t) (v := .str x u) (g0 es' n') (by decide) (hok.noH) szz
    rw [← q] at p
    have hk : e.key = .int e.hash t := by rw [q]
    have hv : e.val = .str x u := by rw [q]
    rw [hk, hv]
    have hu := hp_upd (base := base) (l := dObj es' n' :: (L ++ [dObj es2 m])) hb 0 (Obj.mapDictKeys (·.push e))
    rw [head_mod, push_obj, Nat.add_zero] at hu
    rw [hu] at p
    exact p
  · refine Goes.bind (B1 := 1) (B2 := 0) (goes_epoch (g1 _ _)) ?_
    rw [if_neg (by simp)]
    exact Goes.pure _
end
end
end Mine
namespace Mine
section
noncomputable abbrev SV := Sem Value
noncomputable def flushF (run : List (SV × SV)) (main : Option Addr) : Sem (Option Addr) := do
    if run.isEmpty then return main
    match main with
    | none => return some (← subDict run)
    | some d =>
      let sub ← holding [.ref d] (subDict run)
      (holding [.ref d, .ref sub] (mergeMapping d (.ref sub) false)).onRaise fun x => do let _ ← holding [.ref d, x] (runValue (.builtin "proto.let_go" {}))
      return some d
noncomputable abbrev sm : SV × SV → Option SV × SV := fun x => (some x.1, x.2)
section
variable {w : World} {bb : List Stmt} {base l : List Obj} {os : OsState} {tk : Nat} {bw : Bool} {s s1 s2 : Shared}
noncomputable abbrev FT := Option SV × SV → Option Addr × List (SV × SV) → Sem (ForInStep (Option Addr × List (SV × SV)))
structure FOk (F : FT) : Prop where
  more : ∀ k v main run, (run ++ [(k, v)]).length ≠ 17 → F (some k, v) (main, run) = pure (.yield (main, run ++ [(k, v)]))
  full : ∀ k v main run, (run ++ [(k, v)]).length = 17 → F (some k, v) (main, run) = (flushF (run ++ [(k, v)]) main >>= fun m => pure (.yield (m, [])))
theorem goes_collect {F : FT} (hF : FOk F) {main m1 : Option Addr} {rest : List (Option SV × SV)} {B1 B2 : Nat} {out : Option Addr × List (SV × SV)} :
    ∀ (c run : List (SV × SV)), run.length + c.length = 17 → c ≠ [] → Goes w bb B1 s (flushF (run ++ c) main) s1 m1 → Goes w bb B2 s1 (forIn rest (m1, []) F) s2 out →
      Goes w bb (B1 + B2) s (forIn (c.map sm ++ rest) (main, run) F) s2 out
  | [], _, _, h, _, _ => absurd rfl h
  | [(k, v)], run, hl, _, h1, h2 => by
    show Goes _ _ _ _ (forIn ((some k, v) :: rest) _ _) _ _
    rw [forIn_cons', hF.full k v main run (by simpa using hl)]
    refine Goes.bind (B1 := B1) (B2 := B2) (a := .yield (m1, [])) (s1 := s1) ?_ ?_
    · exact Goes.bind (B1 := B1) (B2 := 0) h1 (Goes.pure _)
    · exact h2
  | (k, v) :: x :: c, run, hl, _, h1, h2 => by
    show Goes _ _ _ _ (forIn ((some k, v) :: ((x :: c).map sm ++ rest)) _ _) _ _
    rw [forIn_cons', hF.more k v main run (by simp only [List.length_append, List.length_cons, List.length_nil] at hl ⊢; lia)]
    refine Goes.mono (B1 := 0 + (B1 + B2)) ?_ (by lia)
    refine Goes.bind (B1 := 0) (a := .yield (main, run ++ [(k, v)])) (Goes.pure _) ?_
    exact goes_collect hF (x :: c) (run ++ [(k, v)]) (by simp only [List.length_append, List.length_cons, List.length_nil] at hl ⊢; lia) (by simp) (by simpa using h1) h2
theorem goes_tail {F : FT} (hF : FOk F) {main : Option Addr} : ∀ (c run : List (SV × SV)), run.length + c.length < 17 → Goes w bb 0 s (forIn (c.map sm) (main, run) F) s (main, run ++ c)
  | [], run, _ => by
    show Goes _ _ _ _ (forIn [] _ _) _ _
    rw [forIn_nil', List.append_nil]
    exact Goes.pure _
  | (k, v) :: c, run, hl => by
    show Goes _ _ _ _ (forIn ((some k, v) :: (c.map sm)) _ _) _ _
    rw [forIn_cons', hF.more k v main run (by simp only [List.length_append, List.length_cons, List.length_nil] at hl ⊢; lia)]
    refine Goes.bind (B1 := 0) (B2 := 0) (a := .yield (main, run ++ [(k, v)])) (Goes.pure _) ?_
    have := goes_tail hF (main := main) c (run ++ [(k, v)]) (by simp only [List.length_append, List.length_cons, List.length_nil] at hl ⊢; lia)
    rw [show run ++ [(k, v)] ++ c = run ++ (k, v) :: c by simp] at this
    exact this
theorem Its.drop {its : List (SV × SV)} {ps : List (Int × Str)} (h : Its w bb its ps) : ∀ n, Its w bb (its.drop n) (ps.drop n) := by
  induction h with
  | nil => intro n; cases n <;> exact .nil
  | cons i r ih => intro n; cases n with
    | zero => exact .cons i r
    | succ n => exact ih n
theorem Its.take {its : List (SV × SV)} {ps : List (Int × Str)} (h : Its w bb its ps) : ∀ n, Its w bb (its.take n) (ps.take n) := by
  induction h with
  | nil => intro n; cases n <;> exact .nil
  | cons i r ih => intro n; cases n with
    | zero => exact .nil
    | succ n => exact .cons i (ih n)
theorem Asc.take : ∀ {ps : List (Int × Str)} {lo : Int} (n : Nat), Asc lo ps → Asc lo (ps.take n)
  | [], _, n, _ => by cases n <;> trivial
  | (k, x) :: ps, lo, 0, _ => trivial
  | (k, x) :: ps, lo, n + 1, ⟨a, b, c⟩ => ⟨a, b, Asc.take n c⟩
theorem Asc.weak : ∀ {ps : List (Int × Str)} {lo lo' : Int}, lo' ≤ lo → Asc lo ps → Asc lo' ps
  | [], _, _, _, _ => trivial
  | (k, x) :: ps, lo, lo', h, ⟨a, b, c⟩ => ⟨by lia, b, c⟩
theorem Asc.drop : ∀ {ps : List (Int × Str)} {lo : Int} (n : Nat), Asc lo ps → Asc lo (ps.drop n)
  | [], _, n, _ => by cases n <;> trivial
  | (k, x) :: ps, lo, 0, h => h
  | (k, x) :: ps, lo, n + 1, ⟨a, b, c⟩ => Asc.weak (by lia) (Asc.drop n c)
noncomputable def lastK : Int → List DictEntry → Int
  | lo, [] => lo
  | _, e :: r => lastK e.hash r
theorem ok_append : ∀ {es es2 : List DictEntry} {lo : Int}, EntOk lo es → EntOk (lastK lo es) es2 → EntOk lo (es ++ es2)
  | [], _, _, _, h => h
  | e :: r, _, lo, ⟨a, b, c, d⟩, h => ⟨a, b, c, ok_append d h⟩
theorem lastK_append : ∀ {es es2 : List DictEntry} {lo : Int}, lastK lo (es ++ es2) = lastK (lastK lo es) es2
  | [], _, _ => rfl
  | e :: r, es2, lo => lastK_append (es := r)
theorem Asc.split : ∀ {ps : List (Int × Str)} {lo : Int} {tk : Nat} (n : Nat), Asc lo ps → Asc (lastK lo (entA tk (ps.take n))) (ps.drop n)
  | [], _, _, n, _ => by cases n <;> trivial
  | (k, x) :: ps, lo, tk, 0, h => h
  | (k, x) :: ps, lo, tk, n + 1, ⟨a, b, c⟩ => Asc.split (tk := tk + 3) n c
theorem entA_len : ∀ {ps : List (Int × Str)} {tk : Nat}, (entA tk ps).length = ps.length
  | [], _ => rfl
  | _ :: r, tk => by simp [entA, entA_len (ps := r)]
theorem entB_len : ∀ {ps : List (Int × Str)} {tk : Nat}, (entB tk ps).length = ps.length
  | [], _ => rfl
  | _ :: r, tk => by simp [entB, entB_len (ps := r)]
theorem goes_flushSome {its : List (SV × SV)} {L : List Obj} {es es2 : List DictEntry} {n m tk' : Nat} {B : Nat} (hb : base.length = 111) (ne : its ≠ []) (hs : Goes (w.withFollow "special-get-raises" bw) bb B (stH base (dObj es n :: L) tk os) (subDict its) (stH base ((dObj es n :: L) ++ [dObj es2 m]) tk' os) (111 + (dObj es n :: L).length))
    (hes : es ≠ []) (sz : (es ++ es2).length < 1000) (ok : EntOk 0 (es ++ es2)) :
    Goes (w.withFollow "special-get-raises" bw) bb (B + (10 * es2.length + 100)) (stH base (dObj es n :: L) tk os) (flushF its (some 111)) (stH base (dObj (es ++ es2) (n + es2.length) :: (L ++ [dObj es2 m])) tk' os) (some 111) := by
  unfold flushF
  have e : its.isEmpty = false := by cases its with | nil => exact absurd rfl ne | cons => rfl
  rw [e, if_neg Bool.false_ne_true]
  dsimp only
  refine Goes.mono (B1 := B + ((10 * es2.length + 100) + 0)) ?_ (by lia)
  refine Goes.bind (B1 := B) (Goes.holding hs) ?_
  exact Goes.bind (Goes.onRaise (Goes.holding (goes_merge hb hes sz ok))) (Goes.pure _)
noncomputable def subsA : Nat → Nat → List (Int × Str) → List Obj
  | 0, _, _ => []
  | k + 1, tk, ps => dObj (entA tk (ps.take 17)) 17 :: subsA k (tk + 51) (ps.drop 17)
noncomputable def mainA : Nat → Nat → List (Int × Str) → List DictEntry
  | 0, _, _ => []
  | k + 1, tk, ps => entA tk (ps.take 17) ++ mainA k (tk + 51) (ps.drop 17)
theorem mainA_len : ∀ {k tk : Nat} {ps : List (Int × Str)}, 17 * k ≤ ps.length → (mainA k tk ps).length = 17 * k
  | 0, _, _, _ => rfl
  | k + 1, tk, ps, h => by
    show (entA tk (ps.take 17) ++ mainA k (tk + 51) (ps.drop 17)).length = _
    rw [List.length_append, entA_len, List.length_take, mainA_len (by rw [List.length_drop]; lia)]
    lia
theorem lastK_ge : ∀ {es : List DictEntry} {lo : Int}, EntOk lo es → lo ≤ lastK lo es
  | [], _, _ => Int.le_refl _
  | e :: r, lo, ⟨_, b, _, d⟩ => by
    have := lastK_ge d
    show lo ≤ lastK e.hash r
    lia
theorem goes_full {F : FT} (hF : FOk F) (hb : base.length = 111) : ∀ (k : Nat) {ps : List (Int × Str)} {its : List (SV × SV)} {tk : Nat} {es : List DictEntry} {n : Nat} {L : List Obj}, Its (w.withFollow "special-get-raises" bw) bb its ps → ps.length < 17 * k + 17 → 17 * k ≤ ps.length → es ≠ [] → EntOk 0 es → Asc (lastK 0 es) ps → es.length + ps.length < 1000 →
    Goes (w.withFollow "special-get-raises" bw) bb (1000 * k) (stH base (dObj es n :: L) tk os) (forIn (its.map sm) (some 111, []) F) (stH base (dObj (es ++ mainA k tk ps) (n + 17 * k) :: (L ++ subsA k tk ps)) (tk + 51 * k) os) (some 111, its.drop (17 * k))
  | 0, ps, its, tk, es, n, L, I, h1, h2, h3, h4, h6, h7 => by
    have := goes_tail (w := w.withFollow "special-get-raises" bw) (bb := bb) (s := stH base (dObj es n :: L) tk os) hF (main := some 111) its [] (by rw [I.length]; simpa using h1)
    simpa [mainA, subsA] using this
  | k + 1, ps, its, tk, es, n, L, I, h1, h2, h3, h4, h6, h7 => by
    have lt : (ps.take 17).length = 17 := by rw [List.length_take]; lia
    have li : (its.take 17).length = 17 := by rw [(I.take 17).length]; exact lt
    have ld : (ps.drop 17).length = ps.length - 17 := List.length_drop
    have sub := goes_subLong (w := w) (bb := bb) (os := os) (bw := bw) hb (L := dObj es n :: L) (tk := tk) (I.take 17) (Asc.weak (lastK_ge h4) (h6.take 17)) (by lia) (by lia)
    rw [lt] at sub
    have ok1 : EntOk (lastK 0 es) (entA tk (ps.take 17)) := entA_ok (h6.take 17)
    have okk : EntOk 0 (es ++ entA tk (ps.take 17)) := ok_append h4 ok1
    have fl := goes_flushSome (w := w) (bb := bb) (bw := bw) (os := os) hb (by intro q; rw [q] at li; cases li) sub h3 (by rw [List.length_append, entA_len, lt]; lia) okk
    rw [entA_len, lt] at fl
    have nn : es ++ entA tk (ps.take 17) ≠ [] := by intro q; exact h3 (List.append_eq_nil_iff.mp q).1
    have hk : lastK 0 (es ++ entA tk (ps.take 17)) = lastK (lastK 0 es) (entA tk (ps.take 17)) := lastK_append
    have as2 : Asc (lastK 0 (es ++ entA tk (ps.take 17))) (ps.drop 17) := by rw [hk]; exact h6.split 17
    have ih := goes_full hF hb k (tk := tk + 3 * 17) (n := n + 17) (L := L ++ [dObj (entA tk (ps.take 17)) 17]) (I.drop 17) (by rw [ld]; lia) (by rw [ld]; lia) nn okk as2 (by rw [List.length_append, entA_len, lt, ld]; lia)
    have e0 : its = its.take 17 ++ its.drop 17 := (List.take_append_drop 17 its).symm
    have all := goes_collect hF (its.take 17) [] (by simpa using li) (by intro q; rw [q] at li; cases li) (by simpa using fl) ih
    rw [← List.map_append, List.take_append_drop] at all
    have e1 : es ++ mainA (k + 1) tk ps = (es ++ entA tk (ps.take 17)) ++ mainA k (tk + 3 * 17) (ps.drop 17) := by simp [mainA]
    have e2 : L ++ subsA (k + 1) tk ps = (L ++ [dObj (entA tk (ps.take 17)) 17]) ++ subsA k (tk + 3 * 17) (ps.drop 17) := by simp [subsA]
    have e3 : its.drop (17 * (k + 1)) = (its.drop 17).drop (17 * k) := by rw [List.drop_drop]; congr 1; lia
    rw [e1, e2, e3, show n + 17 * (k + 1) = n + 17 + 17 * k by lia, show tk + 51 * (k + 1) = tk + 3 * 17 + 51 * k by lia]
    exact all.mono (by lia)
end
end
end Mine
namespace Mine
section
section
variable {w : World} {bb : List Stmt} {base l : List Obj} {os : OsState} {tk : Nat} {bw : Bool} {s s1 s2 : Shared}
noncomputable def lastP (ps : List (Int × Str)) : List (Int × Str) := (ps.drop 17).drop (17 * 37)
noncomputable def dispE (tk : Nat) (ps : List (Int × Str)) : List DictEntry := (entA tk (ps.take 17) ++ mainA 37 (tk + 51) (ps.drop 17)) ++ entB (tk + 51 + 51 * 37) (lastP ps)
noncomputable def dispS (tk : Nat) (ps : List (Int × Str)) : List Obj := subsA 37 (tk + 51) (ps.drop 17) ++ [dObj (entB (tk + 51 + 51 * 37) (lastP ps)) 4]
theorem mainA_ok : ∀ {k tk : Nat} {ps : List (Int × Str)} {lo : Int}, Asc lo ps → EntOk lo (mainA k tk ps) ∧ Asc (lastK lo (mainA k tk ps)) (ps.drop (17 * k))
  | 0, tk, ps, lo, a => ⟨trivial, a⟩
  | k + 1, tk, ps, lo, a => by
    have h1 : EntOk lo (entA tk (ps.take 17)) := entA_ok (a.take 17)
    have h2 := mainA_ok (k := k) (tk := tk + 51) (a.split (tk := tk) 17)
    show EntOk lo (entA tk (ps.take 17) ++ mainA k (tk + 51) (ps.drop 17)) ∧ Asc (lastK lo (entA tk (ps.take 17) ++ mainA k (tk + 51) (ps.drop 17))) _
    rw [lastK_append, show 17 * (k + 1) = 17 + 17 * k by lia, ← List.drop_drop]
    exact ⟨ok_append h1 h2.1, h2.2⟩
theorem goes_display (hb : base.length = 111) {ps : List (Int × Str)} {its : List (SV × SV)} (I : Its (w.withFollow "special-get-raises" bw) bb its ps) (len : ps.length = 650) (a : Asc 0 ps) :
    Goes (w.withFollow "special-get-raises" bw) bb 40000 (stH base [] tk os) (dictDisplay (its.map sm)) (stH base (dObj (dispE tk ps) 650 :: dispS tk ps) (tk + 1950) os) (.ref 111) := by
  have lt : (ps.take 17).length = 17 := by rw [List.length_take]; lia
  have li : (its.take 17).length = 17 := by rw [(I.take 17).length]; exact lt
  have ld : (ps.drop 17).length = 633 := by rw [List.length_drop]; lia
  have ll : (lastP ps).length = 4 := by unfold lastP; rw [List.length_drop, ld]
  have sub := goes_subLong (w := w) (bb := bb) (os := os) (bw := bw) hb (L := []) (tk := tk) (I.take 17) (a.take 17) (by lia) (by lia)
  rw [lt] at sub
  have ne1 : (its.take 17).isEmpty = false := by
    cases q : its.take 17 with
    | nil => rw [q] at li; cases li
    | cons => rfl
  have fl0 : Goes (w.withFollow "special-get-raises" bw) bb (20 * 17 + 10 + 0) (stH base [] tk os) (flushF (its.take 17) none) (stH base (dObj (entA tk (ps.take 17)) 17 :: []) (tk + 51) os) (some 111) := by
    unfold flushF
    rw [ne1, if_neg Bool.false_ne_true]
    exact Goes.bind sub (Goes.pure _)
  have okk : EntOk 0 (entA tk (ps.take 17)) := entA_ok (a.take 17)
  have a2 : Asc (lastK 0 (entA tk (ps.take 17))) (ps.drop 17) := a.split 17
  have m2 := mainA_ok (k := 37) (tk := tk + 51) a2
  have okE : EntOk 0 (entA tk (ps.take 17) ++ mainA 37 (tk + 51) (ps.drop 17)) := ok_append okk m2.1
  have a3 : Asc (lastK 0 (entA tk (ps.take 17) ++ mainA 37 (tk + 51) (ps.drop 17))) (lastP ps) := by rw [lastK_append]; exact m2.2
  have lE : (entA tk (ps.take 17) ++ mainA 37 (tk + 51) (ps.drop 17)).length = 646 := by
    rw [List.length_append, entA_len, lt, mainA_len (by lia)]
  have nn : entA tk (ps.take 17) ≠ [] := by intro q; have := entA_len (ps := ps.take 17) (tk := tk); rw [q, lt] at this; cases this
  have It : Its (w.withFollow "special-get-raises" bw) bb ((its.drop 17).drop (17 * 37)) (lastP ps) := (I.drop 17).drop _
  have subL := goes_subShort (w := w) (bb := bb) (os := os) (bw := bw) hb (L := dObj (entA tk (ps.take 17) ++ mainA 37 (tk + 51) (ps.drop 17)) (17 + 17 * 37) :: ([] ++ subsA 37 (tk + 51) (ps.drop 17))) (tk := tk + 51 + 51 * 37) It (Asc.weak (lastK_ge okE) a3) (by lia)
  rw [ll] at subL
  have ne2 : (its.drop 17).drop (17 * 37) ≠ [] := by intro q; have := It.length; rw [q, ll] at this; cases this
  have flL := goes_flushSome (w := w) (bb := bb) (bw := bw) (os := os) hb ne2 subL (by intro q; rw [q] at lE; cases lE) (by rw [List.length_append, lE, entB_len, ll]; decide) (ok_append okE (entB_ok a3))
  rw [entB_len, ll] at flL
  have key : ∀ F : FT, FOk F → Goes (w.withFollow "special-get-raises" bw) bb 38000 (stH base [] tk os) (forIn (its.map sm) (none, []) F) (stH base (dObj (entA tk (ps.take 17) ++ mainA 37 (tk + 51) (ps.drop 17)) (17 + 17 * 37) :: ([] ++ subsA 37 (tk + 51) (ps.drop 17))) (tk + 51 + 51 * 37) os) (some 111, (its.drop 17).drop (17 * 37)) := by
    intro F hF
    have full := goes_full (w := w) (bb := bb) (bw := bw) (os := os) hF hb 37 (tk := tk + 51) (n := 17) (L := []) (I.drop 17) (by lia) (by lia) nn okk a2 (by rw [entA_len, lt, ld]; decide)
    have all := goes_collect hF (its.take 17) [] (by simpa using li) (by intro q; rw [q] at li; cases li) (by simpa using fl0) full
    rw [← List.map_append, List.take_append_drop] at all
    exact all.mono (by lia)
  unfold dictDisplay
  refine Goes.mono (B1 := 38000 + ((20 * 4 + 10 + (10 * 4 + 100)) + 0)) ?_ (by lia)
  refine Goes.bind (key _ ?_) ?_
  · constructor
    · intro k v main run h
      dsimp only
      rw [if_neg (by simpa using h)]
    · intro k v main run h
      dsimp only
      rw [if_pos (by simpa using h)]
      rfl
  · dsimp only
    refine Goes.bind (f := fun x => match x with | some d => pure (.ref d) | none => newDict) flL ?_
    have e1 : tk + 51 + 51 * 37 + 3 * 4 = tk + 1950 := by lia
    rw [e1]
    exact Goes.pure _
end
end
end Mine
namespace Mine
section
noncomputable def tgtsOf : Stmt → List Expr
  | .Assign ts _ _ => ts
  | _ => []
noncomputable def aposOf : Stmt → Pos
  | .Assign _ _ p => p
  | _ => default
noncomputable def dposOf : Stmt → Pos
  | .Assign _ (.Dict _ _ p) _ => p
  | _ => default
noncomputable abbrev ks14 : List (Option Expr) := (dictOfStmt (stAt 14)).1
noncomputable abbrev vs14 : List Expr := (dictOfStmt (stAt 14)).2
theorem st14_eq : stAt 14 = .Assign (tgtsOf (stAt 14)) (.Dict ks14 vs14 (dposOf (stAt 14))) (aposOf (stAt 14)) := by kernel_rfl
noncomputable def itsOf (pos : Pos) : List (Option Expr) → List Expr → List (SV × SV)
  | some k :: ks, v :: vs => (eval k envM, (do let x ← eval v envM; standAt pos; pure x)) :: itsOf pos ks vs
  | _, _ => []
noncomputable def keyE (k : Option Expr) : Option Expr := some (.Constant (.int (keyOf k)) (match k with | some (.Constant _ a _) => a | _ => 0) (match k with | some (.Constant _ _ b) => b | _ => default))
noncomputable def valE (v : Expr) : Expr := .Constant (.str (valOf v)) (match v with | .Constant _ a _ => a | _ => 0) (match v with | .Constant _ _ b => b | _ => default)
inductive KV : List (Option Expr) → List Expr → Prop
  | nil : KV [] []
  | cons (k a b x c d) {ks vs} : KV ks vs → KV (some (.Constant (.int k) a b) :: ks) (.Constant (.str x) c d :: vs)
theorem kv_of : ∀ {ks : List (Option Expr)} {vs : List Expr}, ks.map keyE = ks → vs.map valE = vs → ks.length = vs.length → KV ks vs
  | [], [], _, _, _ => .nil
  | [], _ :: _, _, _, h => nomatch h
  | _ :: _, [], _, _, h => nomatch h
  | k :: ks, v :: vs, h1, h2, h3 => by
    have e1 := (List.cons.inj h1).1
    have e2 := (List.cons.inj h2).1
    rw [← e1, ← e2]
    exact .cons _ _ _ _ _ _ (kv_of (List.cons.inj h1).2 (List.cons.inj h2).2 (Nat.succ.inj h3))
noncomputable def ascB : Int → List (Int × Str) → Bool
  | _, [] => true
  | lo, (k, _) :: r => Int.blt' lo k && Int.blt' k 1000000 && ascB k r
where
  Int.blt' (a b : Int) : Bool := decide (a < b)
theorem asc_of : ∀ {ps : List (Int × Str)} {lo : Int}, ascB lo ps = true → Asc lo ps
  | [], _, _ => trivial
  | (k, x) :: r, lo, h => by
    simp only [ascB, ascB.Int.blt', Bool.and_eq_true, decide_eq_true_eq] at h
    exact ⟨h.1.1, h.1.2, asc_of h.2⟩
theorem ok14a : ks14.map keyE = ks14 := by kernel_rfl
theorem ok14b : vs14.map valE = vs14 := by kernel_rfl
theorem ok14c : ks14.length = vs14.length := by kernel_rfl
theorem ok14 : KV ks14 vs14 := kv_of ok14a ok14b ok14c
theorem asc14 : ascB 0 b3pairs = true := by kernel_rfl
theorem len14 : b3pairs.length = 650 := by kernel_rfl
section
variable {w : World} {bb : List Stmt} {s s1 s2 s' : Shared}
theorem its_of {pos : Pos} {ks : List (Option Expr)} {vs : List Expr} (h : KV ks vs) :
    Its w bb (itsOf pos ks vs) ((ks.zip vs).map fun x => (keyOf x.1, valOf x.2)) ∧ (evalEachOpt ks envM).zip ((evalEach vs envM).map fun v => do let x ← v; standAt pos; pure x) = (itsOf pos ks vs).map sm := by
  induction h with
  | nil => exact ⟨.nil, rfl⟩
  | @cons k a b x c d ks vs h ih =>
    refine ⟨.cons ⟨fun s => goes_mkInt k, fun s => ?_⟩ ih.1, ?_⟩
    · exact Goes.bind (B1 := 1) (B2 := 1 + 0) (goes_mkText x) (Goes.bind (goes_standAt pos) (Goes.pure _))
    · show (_ :: (evalEachOpt ks envM).zip ((evalEach vs envM).map _)) = _ :: (itsOf pos ks vs).map sm
      rw [ih.2]
      rfl
noncomputable def Goes2 (w : World) (bb : List Stmt) {α : Type} (B : Nat) (s : Shared) (x : Sem α) (s' : Shared) (a : α) (p' : Pos) : Prop :=
  ∃ n, n ≤ B ∧ ∀ (K : α → Sem Fin) (H : Value → Sem Fin) (gd : Bool → Bool) (lv : List Value → List Value) (pos : Pos), GoK w bb n s (x.wrap K H gd lv) pos = some (s', ⟨K a, .body bb envM, p', BF⟩)
theorem Goes2.bind {α β : Type} {x : Sem α} {f : α → Sem β} {a : α} {b : β} {B1 B2 : Nat} {p' : Pos} (h1 : Goes w bb B1 s x s1 a) (h2 : Goes2 w bb B2 s1 (f a) s2 b p') : Goes2 w bb (B1 + B2) s (x >>= f) s2 b p' := by
  obtain ⟨n, hn, h1⟩ := h1
  obtain ⟨m, hm, h2⟩ := h2
  refine ⟨n + m, Nat.add_le_add hn hm, fun K H gd lv pos => ?_⟩
  rw [Sem.bind_eq_wrap', Sem.wrap_wrap]
  obtain ⟨p1, e1⟩ := h1 (fun a => (f a).wrap K H gd lv) (fun e => (Sem.raise e : Sem β).wrap K H gd lv) (fun g => gd (id g)) (fun l => lv (id l)) pos
  exact segGo_trans e1 (h2 K H gd lv p1)
theorem Goes2.pure_bind {α β : Type} {x : Sem α} {f : α → Sem β} {a : α} {B1 : Nat} {p' : Pos} {b : β} (h1 : Goes2 w bb B1 s x s1 a p') (h2 : f a = pure b) : Goes2 w bb B1 s (x >>= f) s1 b p' := by
  obtain ⟨n, hn, h1⟩ := h1
  refine ⟨n, hn, fun K H gd lv pos => ?_⟩
  rw [Sem.bind_eq_wrap', Sem.wrap_wrap]
  have e := h1 (fun a => (f a).wrap K H gd lv) (fun e => (Sem.raise e : Sem β).wrap K H gd lv) (fun g => gd (id g)) (fun l => lv (id l)) pos
  rw [h2] at e
  exact e
end
noncomputable def T14a (P : Params) : BT := (T14 P).set 3 (fun _ => ob_3_15 P)
noncomputable abbrev S14a (w : World) (os : OsState) : SharedT := ⟨T14a w.params, 150, {}, #[], {}, 2336, os⟩
noncomputable abbrev base13 (P : Params) : List Obj := (T13 P).list 111
theorem base_len (P : Params) : (base13 P).length = 111 := by
  unfold base13 BT.list
  rw [List.length_map, List.length_range]
theorem end14 (P : Params) : base13 P ++ (dObj (dispE 386 b3pairs) 650 :: dispS 386 b3pairs) = (T14a P).list 150 := by kernel_rfl
end
end Mine
namespace Mine
section
noncomputable def R14 (v : Value) : Sem Flow := do assignStores envM v (← swappedStores (tgtsOf (stAt 14)) (.Dict ks14 vs14 (dposOf (stAt 14))) envM) ((assignEach (tgtsOf (stAt 14)) envM).map (·.2))
section
variable {w : World} {bb : List Stmt} {bw : Bool}
theorem swap14 {s : Shared} : Goes w bb 0 s (swapsWithSole (tgtsOf (stAt 14)) (.Dict ks14 vs14 (dposOf (stAt 14))) (aposOf (stAt 14)).line envM) s false := ⟨0, Nat.le_refl _, fun K H gd lv pos => ⟨pos, by kernel_rfl⟩⟩
theorem assign14 (os : OsState) : Goes2 (w.withFollow "special-get-raises" bw) bb 7 (S14a (w.withFollow "special-get-raises" bw) os).abs (R14 (.ref 111)) (S14 (w.withFollow "special-get-raises" bw) os).abs .next pos14 := by
  refine ⟨7, Nat.le_refl _, fun K H gd lv pos => ?_⟩
  have t : segGoT treeTable prg (w.withFollow "special-get-raises" bw) 11 (some (.ref 6)) 1 7 (S14a (w.withFollow "special-get-raises" bw) os) ⟨(R14 (.ref 111)).wrap K H gd lv, .body bb envM, pos, BF⟩ = some (S14 (w.withFollow "special-get-raises" bw) os, ⟨K .next, .body bb envM, pos14, BF⟩) := by
    cases bw <;> kernel_rfl
  exact segGo_of t
theorem eval14 : eval (.Dict ks14 vs14 (dposOf (stAt 14))) envM = (do standAt (dposOf (stAt 14)); dictDisplay ((evalEachOpt ks14 envM).zip ((evalEach vs14 envM).map fun v => do let x ← v; standAt (dposOf (stAt 14)); pure x))) := rfl
theorem body14 (os : OsState) : Goes2 (w.withFollow "special-get-raises" bw) bb 41000 (S13 (w.withFollow "special-get-raises" bw) os).abs (execs [stAt 14] envM) (S14 (w.withFollow "special-get-raises" bw) os).abs .next pos14 := by
  have s13 : (S13 (w.withFollow "special-get-raises" bw) os).abs = stH (base13 (w.withFollow "special-get-raises" bw).params) [] 386 os := by
    show Shared.mk _ _ _ _ _ = Shared.mk _ _ _ _ _
    unfold hp absHeap
    rw [List.append_nil]
  have s14 : (S14a (w.withFollow "special-get-raises" bw) os).abs = stH (base13 (w.withFollow "special-get-raises" bw).params) (dObj (dispE 386 b3pairs) 650 :: dispS 386 b3pairs) 2336 os := by
    show Shared.mk _ _ _ _ _ = Shared.mk _ _ _ _ _
    unfold hp absHeap
    rw [end14]
  have as := assign14 (w := w) (bb := bb) (bw := bw) os
  have I := its_of (w := w.withFollow "special-get-raises" bw) (bb := bb) (pos := dposOf (stAt 14)) ok14
  have dsp := goes_display (w := w) (bb := bb) (bw := bw) (os := os) (tk := 386) (base_len (w.withFollow "special-get-raises" bw).params) I.1 len14 (asc_of asc14)
  rw [← I.2] at dsp
  have s14' : stH (base13 (w.withFollow "special-get-raises" bw).params) (dObj (dispE 386 ((ks14.zip vs14).map fun x => (keyOf x.1, valOf x.2))) 650 :: dispS 386 ((ks14.zip vs14).map fun x => (keyOf x.1, valOf x.2))) (386 + 1950) os = (S14a (w.withFollow "special-get-raises" bw) os).abs := s14.symm
  rw [s14', ← s13] at dsp
  have ex : Goes2 (w.withFollow "special-get-raises" bw) bb (1 + (0 + ((1 + 40000) + 7))) (S13 (w.withFollow "special-get-raises" bw) os).abs (exec (stAt 14) envM) (S14 (w.withFollow "special-get-raises" bw) os).abs .next pos14 := by
    rw [st14_eq, exec_Assign]
    refine Goes2.bind (goes_standAt _) (Goes2.bind swap14 ?_)
    rw [if_neg Bool.false_ne_true, eval14]
    exact Goes2.bind (Goes.bind (goes_standAt _) dsp) as
  obtain ⟨n, hn, e⟩ := Goes2.pure_bind (f := fun f => match f with | .next => execs [] envM | f => pure f) (b := Flow.next) ex rfl
  exact ⟨n, Nat.le_trans hn (by decide), e⟩
end
theorem segRun_mono {tb : String → Option Builtin} {p : Program} {w : World} {n₀ : Nat} {ann : Option Value} {b : Nat} (k : Nat) : ∀ (n : Nat) (s : Shared) (t : Thread) (r : Flow × Shared × Code × Pos), segRun tb p w n₀ ann b n s t = some r → segRun tb p w n₀ ann b (n + k) s t = some r
  | 0, _, _, _, h => by simp [segRun] at h
  | n + 1, s, t, r, h => by
    rw [show n + 1 + k = n + k + 1 by lia]
    unfold segRun at h ⊢
    cases he : endAt b t with
    | some f => rw [he] at h; exact h
    | none =>
      rw [he] at h
      cases hk : stepOk n₀ ann t with
      | false => rw [hk] at h; cases h
      | true =>
        rw [hk] at h
        cases hs : step (denote tb) p w s t with
        | halt o s' => rw [hs] at h; cases h
        | go s' t' => rw [hs] at h; exact segRun_mono k n s' t' r h
theorem run14w (bw : Bool) (b : List Stmt) (w : World) (os : OsState) : segRun treeTable prg (w.withFollow "special-get-raises" bw) 11 (some (.ref 6)) 1 41001 (S13 (w.withFollow "special-get-raises" bw) os).abs (piecesOf [stAt 14] envM (.body b envM) pos13 BF) = some (.next, (S14 (w.withFollow "special-get-raises" bw) os).abs, .body b envM, pos14) := by
  obtain ⟨n, hn, e⟩ := body14 (w := w) (bb := b) (bw := bw) os
  have e1 := e doneF deadEnd id id pos13
  have e2 : segRun treeTable prg (w.withFollow "special-get-raises" bw) 11 (some (.ref 6)) 1 1 (S14 (w.withFollow "special-get-raises" bw) os).abs ⟨doneF .next, .body b envM, pos14, BF⟩ = some (.next, (S14 (w.withFollow "special-get-raises" bw) os).abs, .body b envM, pos14) := rfl
  have e3 := seg_go e1 e2
  have e4 := segRun_mono (41001 - (n + 1)) _ _ _ _ e3
  rw [show n + 1 + (41001 - (n + 1)) = 41001 by lia] at e4
  exact e4
theorem run14 (b : List Stmt) (w : World) (os : OsState) : segRun treeTable prg w 11 (some (.ref 6)) 1 41001 (S13 w os).abs (piecesOf [stAt 14] envM (.body b envM) pos13 BF) = some (.next, (S14 w os).abs, .body b envM, pos14) :=
  byRow2 "special-get-raises" (P := fun w => segRun treeTable prg w 11 (some (.ref 6)) 1 41001 (S13 w os).abs (piecesOf [stAt 14] envM (.body b envM) pos13 BF) = some (.next, (S14 w os).abs, .body b envM, pos14)) (fun w => run14w false b w os) (fun w => run14w true b w os) w
end
end Mine
namespace Mine
section
theorem stub_eq : ∀ (w : World) (os : OsState), topGo treeTable prg w 11 (some (.ref 6)) 12 ⟨boot_heap w.params, #[], boot_drawn, boot_toks, os⟩ (topStub prg) = some ((Sm2 w os).abs, ⟨denote treeTable (.body (behindTheImports prg) envM), .body (behindTheImports prg) envM, posm2, BF⟩) := by
  intro w os
  kernel_rfl
theorem block_eq (b : List Stmt) (w : World) (os : OsState) : segRun treeTable prg w 11 (some (.ref 6)) 1 1 (Sm2 w os).abs (blockOf (behindTheImports prg) envM (.body (behindTheImports prg) envM) posm2 BF) = some (.next, (Sm2 w os).abs, .body (behindTheImports prg) envM, posm2) := by
  kernel_rfl
theorem body_eq : behindTheImports prg = sts0 ++ (sts12 ++ ([stAt 14] ++ (sts15 ++ []))) := by kernel_rfl
theorem fin_eq (b : List Stmt) (w : World) (os : OsState) : topRun treeTable prg w 11 (some (.ref 6)) 2 (S28 w os).abs ⟨doneF .next, .body b envM, pos28, BF⟩ = some (S28 w os).abs := by
  kernel_rfl
noncomputable def Ntop : Nat := 12 + (1 + (600 + (1100 + (41001 + (500 + 2)))))
theorem run_all (w : World) (os : OsState) : topRun treeTable prg w 11 (some (.ref 6)) Ntop ⟨boot_heap w.params, #[], boot_drawn, boot_toks, os⟩ (topStub prg) = some (S28 w os).abs := by
  refine go_top (stub_eq w os) (piece_block (block_eq [] w os) ?_)
  have key : ∀ b, topRun treeTable prg w 11 (some (Value.ref 6)) (600 + (1100 + (41001 + (500 + 2)))) (Sm2 w os).abs (restOf (sts0 ++ (sts12 ++ ([stAt 14] ++ (sts15 ++ [])))) envM (Code.body b envM) posm2 [topFrame default]) = some (S28 w os).abs := fun b =>
    piece_app (segRun_of (run11 b w os)) (piece_app (segRun_of (run13 b w os)) (piece_app (run14 b w os) (piece_app (segRun_of (run28 b w os)) (piece_nil (fin_eq b w os)))))
  have k := key (behindTheImports prg)
  rw [← body_eq] at k
  exact k
theorem size_ok (w : World) : ((boot_heap w.params).isNs mainGlobals && (#[] : Array GenState).size == 0, (boot_heap w.params).objs.size, (boot_heap w.params).nsMap mainGlobals "__annotations__") = (true, 11, some (.ref 6)) := by kernel_rfl
theorem open_ok : ∀ w : World, (fencedOpening treeTable prg w 60000).map (fun s => (s.heap, s.gens, s.drawn, s.toks)) = some (boot_heap w.params, #[], boot_drawn, boot_toks) :=
  boot_open (by rfl) (by decide) (fun s => by rfl)
noncomputable def H1 (P : Params) : Heap := absHeap (T28 P) 231 {}
noncomputable def qV : Program := { prg with main := { prg.main with body := [stAt 0, stAt 3, stAt 4, stAt 6, stAt 7, stAt 8, stAt 10, stAt 12, stAt 13, stAt 14, stAt 15, stAt 17, stAt 18, stAt 19, stAt 20, stAt 21, stAt 22, stAt 23, stAt 24, stAt 25, stAt 26, stAt 27, stAt 28] } }
noncomputable def looseV : List Str := ["compute_powers", "ONE_SIXTH", "TWO_THIRD", "b1_set", "b3_exceptions"]
noncomputable def lvV : List (Str × WData) := [("ONE_SIXTH", .float 4595172819793696085), ("TWO_THIRD", .float 4604180019048437077)]
noncomputable abbrev XtV (s : Shared) : Bool := xlAt qV lvV s && recOk (RowW.records (OpenRow.toRowW (OpenLaw.row PySem.Challenge.rw_to0071_01))) s
noncomputable abbrev HkV : Hook := kmHook K Kaddrs Kaddrs_eq [31, 38, 177]
end
end Mine
namespace Mine
section
noncomputable abbrev sE (w : World) (os : OsState) : Shared := ⟨H1 w.params, #[], {}, 2458, os⟩
theorem mods_nil : importedModules prg.main.body = [] := by kernel_rfl
theorem l1 (w : World) : staticsOk (importedModules prg.main.body) (boot_heap w.params) (H1 w.params) = true := by kernel_rfl
theorem l2 (w : World) : namesBound prg (H1 w.params) = true := by kernel_rfl
theorem l3 (w : World) (os : OsState) : gensDone (sE w os) = true := by kernel_rfl
theorem l4 (w : World) : laidKept (boot_heap w.params) (H1 w.params) = true := by kernel_rfl
theorem l5 (w : World) (os : OsState) : Hook.obs HkV (sE w os) = Hook.val HkV w := by kernel_rfl
theorem l7a (w : World) (os : OsState) : seen ((recsOf qV).map (·.name)) (ownsOf qV) [] { sE w os with gens := #[] } = expectedOf qV := by kernel_rfl
theorem l7b (w : World) (os : OsState) : (sE w os).heap.bltView = bltViewBooted := by kernel_rfl
theorem l7c1 (w : World) (os : OsState) : (sE w os).heap.keysOk (looseW qV looseV) ((recsOf qV).map (·.name)) ((litsOf qV).map (·.1)) ((clssOf qV (looseW qV looseV)).map (·.name)) = true := by kernel_rfl
theorem l7c2 (w : World) (os : OsState) : (sE w os).heap.accountedOkI (importedModules prg.main.body) = true := by
  rw [mods_nil, PySem.W.Fast.te14722251495701143533]
  kernel_rfl
theorem l7c3 (w : World) (os : OsState) : (sE w os).heap.isNs mainGlobals = true := by kernel_rfl
theorem l7c3b (w : World) (os : OsState) : (sE w os).heap.isNs builtinsNs = true := by kernel_rfl
noncomputable def ascF : Int → List (PyData × PyData) → Bool
  | _, [] => true
  | lo, (.int k, _) :: D => decide (lo < k) && ascF k D
  | _, _ => false
theorem hasInt_asc {k : Int} : ∀ {D : List (PyData × PyData)} {lo : Int}, ascF lo D = true → k ≤ lo → hasIntKey k D = false ∧ keysApartInt D = true := by
  intro D
  induction D generalizing k with
  | nil => exact fun _ _ => ⟨rfl, rfl⟩
  | cons e D ih =>
    intro lo h hk
    obtain ⟨d, v⟩ := e
    cases d with
    | int j =>
      obtain ⟨h1, h2⟩ := (Bool.and_eq_true _ _).mp h
      have h3 := of_decide_eq_true h1
      obtain ⟨a, b⟩ := ih (k := j) h2 (Int.le_refl j)
      obtain ⟨c, _⟩ := ih (k := k) h2 (by lia)
      constructor
      · show ((j == k) || hasIntKey k D) = false
        rw [c, beq_eq_false_iff_ne.mpr (by lia)]; rfl
      · show (!hasIntKey j D && keysApartInt D) = true
        rw [a, b]; rfl
    | _ => cases h
theorem apart_eq : keysApartInt = fun D => ascF 0 D || keysApartInt D := by
  funext D
  cases h : ascF 0 D with
  | true => exact (hasInt_asc h (Int.le_refl 0)).2
  | false => rfl
theorem l7c4 (w : World) (os : OsState) : tablesOk qV (sE w os).heap = true := by
  delta tablesOk Heap.tabIntOk
  rw [apart_eq]
  kernel_rfl
theorem l7c5 (w : World) (os : OsState) : XtV (sE w os) = true := by kernel_rfl
theorem l7d (w : World) (os : OsState) : tabsOk qV (sE w os) = true := by kernel_rfl
theorem l7e (w : World) (os : OsState) : pinSeenD qV (drecsOf qV) (sE w os) = pinGoodD (drecsOf qV) := by kernel_rfl
theorem l7f (w : World) (os : OsState) : plainSeenE qV (looseW qV looseV) (sE w os) = plainGoodE qV (looseW qV looseV) := by kernel_rfl
theorem l7g (w : World) (os : OsState) : plainSeenD qV looseV (sE w os) = plainGoodD qV looseV := by kernel_rfl
theorem l7h (w : World) (os : OsState) : wideSeen qV (sE w os) = wideGood qV := by kernel_rfl
theorem l7i (w : World) (os : OsState) : clsSeenW qV looseV (sE w os) = clsGoodW qV looseV := by kernel_rfl
theorem l7 (w : World) (os : OsState) : openSeen qV looseV (importedModules prg.main.body) XtV true (sE w os) = openGood qV looseV := by
  unfold openSeen openGood
  refine Prod.ext (l7a w os) (Prod.ext (l7b w os) (Prod.ext ?_ (Prod.ext (l7d w os) (Prod.ext (l7e w os) (Prod.ext (l7f w os) (Prod.ext (l7g w os) (Prod.ext (l7h w os) (l7i w os))))))))
  show (_ && _ && _ && _ && _ && _ && _) = true
  rw [l7c1, l7c2, l7c3, l7c3b, l7c4, l7c5]
  rfl
theorem left : LeftO prg qV looseV XtV (Hook.obs HkV) (Hook.val HkV) 60000 := by
  refine LeftO.of_pieces (H₀ := boot_heap) (H₁ := H1) (gs₀ := #[]) (gs₁ := #[]) (d₀ := boot_drawn) (d₁ := {}) (k₀ := boot_toks) (k₁ := 2458) (m₀ := 11) (ann := some (.ref 6)) (M := Ntop) open_ok size_ok (fun w os => run_all w os) (by decide) (fun w => ?_)
  funext os
  refine Prod.ext ?_ (Prod.ext (l7 w os) (l5 w os))
  show (_ && _ && _ && _) = true
  rw [l1, l2, l3, l4]
  rfl
end
end Mine
namespace Mine
section
theorem said1 : PySem.W.Fast.tw8377067652309620493 (PySem.W.Fast.tw2368527892694137696 PySem.Challenge.rw_to0071_01).prog = true := by kernel_rfl
theorem said2 : PySem.W.Fast.tw12908688711261696721 (PySem.W.Fast.tw2368527892694137696 PySem.Challenge.rw_to0071_01).prog = true := by
  delta PySem.W.Fast.tw12908688711261696721
  dsimp only
  rw [said1]
  kernel_rfl
theorem said : OpenLaw.wellSaid PySem.Challenge.rw_to0071_01 = true := by
  rw [PySem.W.Fast.te9446332074065402090]
  delta PySem.W.Fast.tw9446332074065402090 PySem.W.Fast.tw17960256430627541270 PySem.W.Fast.tw2436336058641802641
  dsimp only
  rw [said2]
  kernel_rfl
theorem headOf (hw : (OpenRow.toRowW (OpenLaw.row PySem.Challenge.rw_to0071_01)).promised) {d : DefRec} {kwd : List (Str × Expr)} (hd : defOf qV (OpenLaw.row PySem.Challenge.rw_to0071_01).name = some (d, kwd))
    (hp : prg.theDef (OpenLaw.row PySem.Challenge.rw_to0071_01).name = some (d.params, d.body, d.scope)) (hk : kwWritten? d.params.kwonlyargs d.params.kw_defaults = some kwd)
    (call : WalkO qV looseV (XL qV lvV) (Hook.says HkV) (OpenRow.toRowW (OpenLaw.row PySem.Challenge.rw_to0071_01)) d kwd fun f vs => PySem.call f vs) : PySem.Challenge.rw_to0071_01.Holds := by
  refine holds_law said fun said' => ?_
  exact holds_open (q := qV) (loose := looseV) (Xt := XtV) (XP := XL qV lvV) (Yf := Hook.obs HkV) (Ya := Hook.val HkV) (YP := Hook.says HkV) (N := 60000) left (Hook.of HkV) (Hook.keeps HkV) (fun s e => xl_of s (Bool.and_eq_true_iff.mp e).1) XL.keeps hd hp hk (fun s e => recFacts_of (Bool.and_eq_true_iff.mp e).2) (by rfl) said' (by decide +kernel) ⟨rfl, rfl, rfl, rfl, rfl, by decide +kernel⟩ hw call
end
end Mine
open PySem.Calls
namespace Mine
section
section
noncomputable abbrev Vals := List Value
noncomputable abbrev Led := List (Addr × Obj)
noncomputable abbrev Locals := PySem.Str → Option Value
noncomputable abbrev Spec (w : World) (p : Program) (loose : List PySem.Str) (mean : ExcName → Option Value) (mg mb : Locals) (d u : Nat) (f : Value) (vs : Vals) (h₀ : Heap) (L : Addr) (m : Locals) (news : Led) (s : Shared) (Q E : Value → Shared → Prop) : Prop :=
  ∀ (dp un : Nat) (gd : Option (List Code)) (cn : PySem.Str) (cs : Scope) (a : Addr) (ccd : Value) (cl : List (PySem.Str × Addr)) (outer : List Env) (A₀ : Around) (base : Heap),
    Below A₀ base outer h₀ → Fr h₀ L s.heap m → (K w.params).In h₀ → News h₀ L s.heap news → Top p loose mean mg mb h₀ → cs.kind = .function → dp + d < recursionLimit → un + u < cLine →
      wpAny (model prg w) (ktrTop dp un gd cn cs L a ccd cl outer) (call f vs) Q E s
noncomputable def dayR (x : Int) : Int := if x.fmod 8 + (x.fdiv 8).fmod 8 = 0 then 1 else x.fmod 8
noncomputable def dayG (x : Int) : Int := if x.fmod 8 + (x.fdiv 8).fmod 8 = 0 then 0 else (x.fdiv 8).fmod 8
noncomputable abbrev tupOf (vs : List Value) : Obj := { cls := .type "tuple", data := .seq vs.toArray }
theorem ne_suf {e : Addr} {l t : Led} (h : AllLt e l) (hs : t <:+ l) : ∀ p ∈ t, p.1 ≠ e := by
  obtain ⟨x, rfl⟩ := hs
  induction x with
  | nil =>
    induction t with
    | nil => exact fun p hp => nomatch hp
    | cons a r ih =>
      intro p hp
      rcases List.mem_cons.mp hp with rfl | hp
      · have h1 := h.1
        exact Nat.ne_of_lt h1
      · exact ih h.2 p hp
  | cons a r ih => exact ih h.2
theorem allLt_mono {d e : Nat} : ∀ {l : Led}, AllLt d l → d ≤ e → AllLt e l
  | [], _, _ => trivial
  | p :: r, h, le => ⟨Nat.lt_of_lt_of_le h.1 le, allLt_mono h.2 le⟩

theorem ne_suf1 {e : Nat} {l t : Led} (h : AllLt e l) (hs : t <:+ l) : ∀ p ∈ t, p.1 ≠ e + 1 := ne_suf (allLt_mono h (by lia)) hs
theorem ne_suf2 {e : Nat} {l t : Led} (h : AllLt e l) (hs : t <:+ l) : ∀ p ∈ t, p.1 ≠ e + 1 + 1 := ne_suf (allLt_mono h (by lia)) hs
theorem ne_suf3 {e : Nat} {l t : Led} (h : AllLt e l) (hs : t <:+ l) : ∀ p ∈ t, p.1 ≠ e + 1 + 1 + 1 := ne_suf (allLt_mono h (by lia)) hs
theorem ne_suf4 {e : Nat} {l t : Led} (h : AllLt e l) (hs : t <:+ l) : ∀ p ∈ t, p.1 ≠ e + 1 + 1 + 1 + 1 := ne_suf (allLt_mono h (by lia)) hs
theorem ne_suf5 {e : Nat} {l t : Led} (h : AllLt e l) (hs : t <:+ l) : ∀ p ∈ t, p.1 ≠ e + 1 + 1 + 1 + 1 + 1 := ne_suf (allLt_mono h (by lia)) hs
theorem ne_suf6 {e : Nat} {l t : Led} (h : AllLt e l) (hs : t <:+ l) : ∀ p ∈ t, p.1 ≠ e + 1 + 1 + 1 + 1 + 1 + 1 := ne_suf (allLt_mono h (by lia)) hs
theorem suf_cons {a : Addr × Obj} {t l : Led} (h : t <:+ l) : t <:+ a :: l := h.trans (List.suffix_cons a l)
theorem sub_cons {a : Addr × Obj} {t l : Led} (h : ∀ p ∈ t, p ∈ l) : ∀ p ∈ t, p ∈ a :: l := fun p hp => List.Mem.tail _ (h p hp)
theorem sub_keep {a : Addr × Obj} {t l : Led} (h : ∀ p ∈ t, p ∈ l) : ∀ p ∈ a :: t, p ∈ a :: l := fun p hp => by
  rcases List.mem_cons.mp hp with rfl | hp
  · exact List.Mem.head _
  · exact List.Mem.tail _ (h p hp)
theorem off1_ne {D : Addr} : ∀ {l : Led}, LCg.Off1 D l → ∀ p ∈ l, p.1 ≠ D
  | [], _ => fun p hp => nomatch hp
  | _ :: _, h => fun p hp => by
    rcases List.mem_cons.mp hp with rfl | hp
    · exact h.1
    · exact off1_ne h.2 p hp
end
section
section
variable {prog : Program} {w : World} {A : Around} {R : Result → Shared → Prop} {target : PySem.Expr} {it : Value} {body orelse : List Stmt} {env : Env}
noncomputable def Turns (prog : Program) (w : World) (A : Around) (target : PySem.Expr) (it : Value) (body orelse : List Stmt) (env : Env) (R : Result → Shared → Prop) : Nat → Shared → Prop
  | 0, _ => False
  | n + 1, s => wpAny (model prog w) A (pyNext it) (fun r s₁ => match r with
      | none => wpAny (model prog w) A (execs orelse env) (fun f s₃ => R (.ok f) s₃) (notedBy (model prog w) A env fun e s' => R (.error e) s') s₁
      | some v => wpAny (model prog w) A (letOwnedTupleGo target it v) (fun _ s₁' =>
          wpAny (model prog w) A (assign target env v) (fun _ s₂ => wpAny (model prog w) A (execs body env) (fun f s₃ => match f with
            | .next | .cont => Turns prog w A target it body orelse env R n s₃
            | .brk => R (.ok .next) s₃
            | .ret v => R (.ok (.ret v)) s₃) (notedBy (model prog w) A env fun e s' => R (.error e) s') s₂) (notedBy (model prog w) A env fun e s' => R (.error e) s') s₁') (notedBy (model prog w) A env fun e s' => R (.error e) s') s₁)
      (notedBy (model prog w) A env fun e s' => R (.error e) s') s
theorem forLoop_T {n : Nat} {s : Shared} (h : Turns prog w A target it body orelse env R n s) : codeAny (model prog w) A (.forLoop target it body orelse env) R s := by
  refine codeAny_forLoop_any (fun n s => Turns prog w A target it body orelse env R n s) (fun n s hI => ?_) n h
  cases n with
  | zero => exact hI.elim
  | succ n =>
    refine wpAny_mono hI (fun r s₁ h₁ => ?_) fun _ _ x => x
    cases r with
    | none => exact h₁
    | some v =>
      refine wpAny_mono h₁ (fun _ s₁' h₂ => ?_) fun _ _ x => x
      refine wpAny_mono h₂ (fun _ s₂ h₃ => ?_) fun _ _ x => x
      refine wpAny_mono h₃ (fun f s₃ h₄ => ?_) fun _ _ x => x
      cases f with
      | next => exact ⟨n, Nat.lt_succ_self n, h₄⟩
      | cont => exact ⟨n, Nat.lt_succ_self n, h₄⟩
      | brk => exact h₄
      | ret v => exact h₄
theorem For_T (n : Nat) {iter : PySem.Expr} {pos : Pos} {E : Value → Shared → Prop} {Q : Flow → Shared → Prop} {s : Shared}
    (h : wpAny (model prog w) A (eval iter env) (fun x s₁ => wpAny (model prog w) A (pyIter x) (fun it s₂ =>
      Turns prog w A target it body orelse env (fun r s' => match r with | .ok f => Q f s' | .error e => cameBackBy (model prog w) A env E e s') n s₂) E s₁) E s)
    (hs : ∀ x, foldedSetIterable iter env x = pure x := by intro _; rfl) :
    wpAny (model prog w) A (exec (.For target iter body orelse pos) env) Q E s :=
  wpAny_For (wpAny_mono h (fun _ _ h₁ => wpAny_mono h₁ (fun _ _ h₂ => forLoop_T h₂) fun _ _ x => x) fun _ _ x => x) hs
theorem Turns.go {n : Nat} {s : Shared} (h : wpAny (model prog w) A (pyNext it) (fun r s₁ => match r with
      | none => wpAny (model prog w) A (execs orelse env) (fun f s₃ => R (.ok f) s₃) (notedBy (model prog w) A env fun e s' => R (.error e) s') s₁
      | some v => wpAny (model prog w) A (letOwnedTupleGo target it v) (fun _ s₁' =>
          wpAny (model prog w) A (assign target env v) (fun _ s₂ => wpAny (model prog w) A (execs body env) (fun f s₃ => match f with
            | .next | .cont => Turns prog w A target it body orelse env R n s₃
            | .brk => R (.ok .next) s₃
            | .ret v => R (.ok (.ret v)) s₃) (notedBy (model prog w) A env fun e s' => R (.error e) s') s₂) (notedBy (model prog w) A env fun e s' => R (.error e) s') s₁') (notedBy (model prog w) A env fun e s' => R (.error e) s') s₁)
      (notedBy (model prog w) A env fun e s' => R (.error e) s') s) : Turns prog w A target it body orelse env R (n + 1) s := h
end
inductive UpdD (d : Addr) (o : Obj) : Led → (Obj → Led) → Led → Prop
  | head {r} : (∀ p ∈ r, p.1 ≠ d) → UpdD d o ((d, o) :: r) (fun o' => (d, o') :: r) r
  | tail {p r g t} : p.1 ≠ d → UpdD d o r g t → UpdD d o (p :: r) (fun o' => p :: g o') (p :: t)
theorem UpdD.mem {d : Addr} {o : Obj} {l t : Led} {g : Obj → Led} (U : UpdD d o l g t) : (d, o) ∈ l := by
  induction U with
  | head _ => exact .head _
  | tail _ _ ih => exact .tail _ ih
theorem UpdD.rest {d : Addr} {o : Obj} {l t : Led} {g : Obj → Led} (U : UpdD d o l g t) : ∀ p ∈ t, p ∈ l ∧ p.1 ≠ d := by
  induction U with
  | head h => exact fun p hp => ⟨.tail _ hp, h p hp⟩
  | tail hn _ ih =>
    refine List.forall_mem_cons.mpr ⟨⟨.head _, hn⟩, fun p hp => ?_⟩
    exact ⟨.tail _ (ih p hp).1, (ih p hp).2⟩
theorem UpdD.new {d : Addr} {o o' : Obj} {l t : Led} {g : Obj → Led} (U : UpdD d o l g t) : ∀ p ∈ g o', p = (d, o') ∨ p ∈ t := by
  induction U with
  | head _ => exact List.forall_mem_cons.mpr ⟨.inl rfl, fun p hp => .inr hp⟩
  | tail _ _ ih => exact List.forall_mem_cons.mpr ⟨.inr (.head _), fun p hp => (ih p hp).imp id (.tail _)⟩
section
variable {h₀ h h' : Heap} {L d : Addr} {m : Locals} {news t : Led} {o o' : Obj} {g : Obj → Led}
theorem upd_ext (F : Fr h₀ L h m) (N : News h₀ L h news) (U : UpdD d o news g t) (hs : Heap.ExtBut d h h') : Fr h₀ L h' m ∧ News h₀ L h' t := by
  have D := N _ U.mem
  refine ⟨⟨F.ns.extBut hs D.2.1.symm, fun b x e => hs b x (fun q => ?_) (F.keep b x e), F.above⟩, fun p hp => ?_⟩
  · have := D.2.2; rw [← q, e] at this; cases this
  · obtain ⟨a, b⟩ := U.rest p hp
    exact ⟨hs _ _ b (N p a).1, (N p a).2⟩
theorem same_ext {h h' : Heap} (hs : Heap.SameBut d h h') : Heap.ExtBut d h h' := fun b o hb e => (hs.2 b hb).trans e
theorem upd_same (F : Fr h₀ L h m) (N : News h₀ L h news) (U : UpdD d o news g t) (hs : Heap.ExtBut d h h') (ho : h'.get? d = some o') : Fr h₀ L h' m ∧ News h₀ L h' (g o') := by
  have ⟨F', N'⟩ := upd_ext F N U hs
  refine ⟨F', fun p hp => ?_⟩
  rcases U.new p hp with rfl | hp
  · exact ⟨ho, (N _ U.mem).2⟩
  · exact N' p hp
theorem push_new (F : Fr h₀ L h m) (N : News h₀ L h news) (x : Obj) (hx : x.isFreed = false := by rfl) : Fr h₀ L (h.push x) m ∧ News h₀ L (h.push x) ((h.objs.size, x) :: news) ∧ ∀ p ∈ news, p.1 < h.objs.size :=
  ⟨F.push _, N.push F _ hx, fun p hp => Heap.lt_size (N p hp).1⟩
end
noncomputable def LiOf (o : Obj) (l : Addr) (i : Nat) : Prop := o.cls = .type "list_iterator" ∧ o.data = .fields #[.ref l, .int i 0]
noncomputable abbrev rangeIt (x left step : Int) : Obj := { cls := .type "range_iterator", dict := none, data := .fields #[rawInt x, rawInt left, rawInt step], slots := #[] }
section
variable {prog : Program} {w : World} {A : Around} {E : Value → Shared → Prop} {s : Shared} {h₀ : Heap} {L I l : Addr} {m : Locals} {news t : Led} {o : Obj} {g : Obj → Led}
theorem iterList_T {items : Array Value} {e : Nat} {Q : Value → Shared → Prop} (F : Fr h₀ L s.heap m) (N : News h₀ L s.heap news) (hm : (l, ({ cls := .type "list", data := .seq items e } : Obj)) ∈ news)
    (h : ∀ I o h', LiOf o l 0 → Fr h₀ L h' m → News h₀ L h' ((I, o) :: news) → (∀ p ∈ news, p.1 < I) → Q (.ref I) { s with heap := h' }) : wpAny (model prog w) A (pyIter (.ref l)) Q E s :=
  wpAny_pyIter_list ⟨_, (N _ hm).1, rfl, e, rfl⟩ (have ⟨a, b, c⟩ := push_new F N { cls := .type "list_iterator", data := .fields #[.ref l, .int 0 0] }; h _ _ _ ⟨rfl, rfl⟩ a b c)
theorem nextList_T {vs : List Value} {e i : Nat} {v : Value} {Q : Option Value → Shared → Prop} (F : Fr h₀ L s.heap m) (N : News h₀ L s.heap news) (U : UpdD I o news g t) (hL : LiOf o l i) (hm : (l, ({ cls := .type "list", data := .seq vs.toArray e } : Obj)) ∈ news) (hv : vs[i]? = some v)
    (h : ∀ o' h', LiOf o' l (i + 1) → Fr h₀ L h' m → News h₀ L h' (g o') → Q (some v) { s with heap := h' }) : wpAny (model prog w) A (pyNext (.ref I)) Q E s :=
  wpAny_pyNext_list_item ⟨o, (N _ U.mem).1, hL.1, hL.2⟩ ⟨_, (N _ hm).1, rfl, e, rfl⟩ (by rw [List.getElem?_toArray]; exact hv) fun h' ⟨o', ho, hc, hd⟩ hs =>
    have ⟨a, b⟩ := upd_same F N U (same_ext hs) ho
    h o' h' ⟨hc, hd⟩ a b
theorem endList_T {items : Array Value} {e i : Nat} {Q : Option Value → Shared → Prop} (hh : A.handled = none) (F : Fr h₀ L s.heap m) (N : News h₀ L s.heap news) (U : UpdD I o news g t) (hL : LiOf o l i) (hm : (l, ({ cls := .type "list", data := .seq items e } : Obj)) ∈ news) (hv : items[i]? = none)
    (h : ∀ h', Fr h₀ L h' m → News h₀ L h' t → Q none { s with heap := h' }) : wpAny (model prog w) A (pyNext (.ref I)) Q E s :=
  wpAny_pyNext_list_end hh ⟨o, (N _ U.mem).1, hL.1, hL.2⟩ ⟨_, (N _ hm).1, rfl, e, rfl⟩ hv fun h' hs =>
    have ⟨a, b⟩ := upd_ext F N U hs
    h h' a b
theorem ownList_T {elts : List PySem.Expr} {x1} {pos : Pos} {T : Addr} {i : Nat} {Q : Unit → Shared → Prop} (N : News h₀ L s.heap news) (hm : (I, o) ∈ news) (hL : LiOf o l i) (h : Q () s) :
    wpAny (model prog w) A (letOwnedTupleGo (.Tuple elts x1 pos) (.ref I) (.ref T)) Q E s := wpAny_letOwnedTupleGo_listiter ⟨o, (N _ hm).1, hL.1, hL.2⟩ h
theorem ownName_T {x : PySem.Str} {pos : Pos} {it v : Value} {Q : Unit → Shared → Prop} (h : Q () s) : wpAny (model prog w) A (letOwnedTupleGo (.Name x pos) it v) Q E s := wpAny_pure h
theorem iterRange_T {r : Addr} {a b c : Int} {t u v : Tok} {Q : Value → Shared → Prop} (F : Fr h₀ L s.heap m) (N : News h₀ L s.heap news) (hr : IsRange s.heap r a b c t u v) (hsmall : Builtin.Range.small a b c = true)
    (h : ∀ I h', Fr h₀ L h' m → News h₀ L h' ((I, rangeIt a (Builtin.Range.rangeSize a b c) c) :: news) → (∀ p ∈ news, p.1 < I) → Q (.ref I) { s with heap := h' }) : wpAny (model prog w) A (pyIter (.ref r)) Q E s :=
  wpAny_pyIter_range hr hsmall (have ⟨x, y, z⟩ := push_new F N (rangeIt a (Builtin.Range.rangeSize a b c) c); h _ _ x y z)
theorem nextRange_T {x left step : Int} {Q : Option Value → Shared → Prop} (F : Fr h₀ L s.heap m) (N : News h₀ L s.heap news) (U : UpdD I (rangeIt x left step) news g t) (hl : 0 < left)
    (h : ∀ h' tk, Fr h₀ L h' m → News h₀ L h' (g (rangeIt (x + step) (left - 1) step)) → Q (some (.int x s.toks)) { s with heap := h', toks := tk }) : wpAny (model prog w) A (pyNext (.ref I)) Q E s :=
  wpAny_pyNext_range_item (N _ U.mem).1 hl fun h' hit hs =>
    have ⟨a, b⟩ := upd_same F N U (same_ext hs) hit
    h h' _ a b
theorem endRange_T {x left step : Int} {Q : Option Value → Shared → Prop} (hh : A.handled = none) (F : Fr h₀ L s.heap m) (N : News h₀ L s.heap news) (U : UpdD I (rangeIt x left step) news g t) (hl : left ≤ 0)
    (h : ∀ h', Fr h₀ L h' m → News h₀ L h' t → Q none { s with heap := h' }) : wpAny (model prog w) A (pyNext (.ref I)) Q E s :=
  wpAny_pyNext_range_end hh (N _ U.mem).1 hl fun h' hs =>
    have ⟨a, b⟩ := upd_ext F N U hs
    h h' a b
end
end
section
noncomputable def look : List PySem.Str → List (Option Value) → Locals
  | x :: ns, v :: vs => fun y => if y = x then v else look ns vs y
  | _, _ => fun _ => none
inductive At (x : PySem.Str) : List PySem.Str → Nat → Prop
  | here {r} : At x (x :: r) 0
  | there {y r i} : At x r i → At x (y :: r) (i + 1)
noncomputable def NoDup : List PySem.Str → Prop
  | [] => True
  | x :: r => (∀ y ∈ r, y ≠ x) ∧ NoDup r
noncomputable def noDupB : List PySem.Str → Bool
  | [] => true
  | x :: r => r.all (fun y => decide (y ≠ x)) && noDupB r
theorem NoDup.of : ∀ {l : List PySem.Str}, noDupB l = true → NoDup l
  | [], _ => trivial
  | x :: r, h => by
    obtain ⟨a, b⟩ := Bool.and_eq_true_iff.mp h
    exact ⟨fun y hy => of_decide_eq_true (List.all_eq_true.mp a y hy), NoDup.of b⟩
theorem At.mem {x : PySem.Str} {ns : List PySem.Str} {i : Nat} (h : At x ns i) : x ∈ ns := by
  induction h with
  | here => exact .head _
  | there _ ih => exact .tail _ ih
theorem look_at {x : PySem.Str} {ns : List PySem.Str} {i : Nat} (h : At x ns i) : ∀ {vs : List (Option Value)} {v : Value}, NoDup ns → vs[i]? = some (some v) → look ns vs x = some v := by
  induction h with
  | here => intro vs v _ hv; cases vs with
    | nil => cases hv
    | cons a r => show (if x = x then a else _) = _; rw [if_pos rfl]; exact Option.some.inj hv
  | there h ih => intro vs v nd hv; cases vs with
    | nil => cases hv
    | cons a r => show (if x = _ then a else _) = _; rw [if_neg (nd.1 x h.mem)]; exact ih nd.2 hv
theorem look_set {x : PySem.Str} {ns : List PySem.Str} {i : Nat} (h : At x ns i) : ∀ {vs : List (Option Value)} {v : Value}, NoDup ns → vs.length = ns.length → (fun y => if y = x then some v else look ns vs y) = look ns (vs.set i (some v)) := by
  induction h with
  | here => intro vs v _ hl; cases vs with
    | nil => cases hl
    | cons a r => funext y; show (if y = x then _ else if y = x then _ else _) = if y = x then _ else _; by_cases e : y = x <;> simp [e]
  | there h ih => intro vs v nd hl; cases vs with
    | nil => cases hl
    | cons a r =>
      funext y
      have := congrFun (ih (v := v) nd.2 (Nat.succ.inj hl)) y
      show (if y = x then _ else if y = _ then _ else _) = if y = _ then _ else look _ (r.set _ _) y
      rw [← this]
      by_cases e : y = x
      · subst e; rw [if_pos rfl, if_pos rfl, if_neg (nd.1 y h.mem)]
      · rw [if_neg e, if_neg e]
theorem look_nones : ∀ {ns : List PySem.Str} {vs : List (Option Value)} {ns' : List PySem.Str} {k : Nat}, vs.length = ns.length → look (ns ++ ns') (vs ++ List.replicate k none) = look ns vs
  := by
  intro ns
  induction ns with
  | nil =>
    intro vs ns' k h
    rw [List.length_eq_zero_iff.mp h]
    funext y
    show look ns' (List.replicate k none) y = none
    induction ns' generalizing k with
    | nil => rfl
    | cons a r ih => cases k with
      | zero => rfl
      | succ k => show (if y = a then none else look r (List.replicate k none) y) = none; rw [ih, ite_self]
  | cons x ns ih =>
    intro vs ns' k h
    cases vs with
    | nil => cases h
    | cons v vs =>
      funext y
      show (if y = x then v else look (ns ++ ns') (vs ++ List.replicate k none) y) = if y = x then v else look ns vs y
      rw [ih (Nat.succ.inj h)]
theorem look_binds : ∀ (bs : List (PySem.Str × Value)), (fun y => bs.lookup y) = look (bs.map (·.1)) (bs.map fun b => some b.2)
  | [] => rfl
  | (x, v) :: r => by
    funext y
    have := congrFun (look_binds r) y
    show ((x, v) :: r).lookup y = if y = x then some v else look (r.map (·.1)) (r.map fun b => some b.2) y
    rw [← this, List.lookup_cons]
    by_cases e : y = x
    · subst e; simp
    · have : (y == x) = false := beq_eq_false_iff_ne.mpr e
      rw [this, if_neg e]
section
variable {M : Model} {A : Around} {E : Value → Shared → Prop} {s : Shared} {h₀ h : Heap} {L a : Addr} {m : Locals} {cn : PySem.Str} {cs : Scope} {ccd : Value} {cl : List (PySem.Str × Addr)} {x : PySem.Str} {v : Value} {news : Led} {ns : List PySem.Str} {vs : List (Option Value)} {i : Nat}
theorem Fr.conv {m' : Locals} (F : Fr h₀ L h m) (e : m = m') : Fr h₀ L h m' := e ▸ F
theorem name_P {pos : Pos} {Q : Value → Shared → Prop} (F : Fr h₀ L s.heap (look ns vs)) (nd : NoDup ns) (p : At x ns i) (hv : vs[i]? = some (some v)) (h : Q v s)
    (hk : cs.kind = .function := by rfl) (hx : (envX cn cs L a ccd cl).kindOf x = some .local := by rfl) (hd : (x == ("__debug__" : PySem.Str)) = false := by decide) :
    wpAny M A (eval (.Name x pos) (envX cn cs L a ccd cl)) Q E s := nameX_L F (look_at p nd hv) h hk hx hd
theorem store_P {Q : Unit → Shared → Prop} (F : Fr h₀ L s.heap (look ns vs)) (N : News h₀ L s.heap news) (nd : NoDup ns) (p : At x ns i) (hl : vs.length = ns.length)
    (h : ∀ h', Fr h₀ L h' (look ns (vs.set i (some v))) → News h₀ L h' news → Q () { s with heap := h', toks := s.toks + 1 })
    (hk : cs.kind = .function := by rfl) (hx : (envX cn cs L a ccd cl).kindOf x = some .local := by rfl) : wpAny M A (storeName (envX cn cs L a ccd cl) x v) Q E s :=
  storeX_L F N (fun h' F' N' => h h' (look_set p nd hl ▸ F') N') hk hx
theorem start_P {bs : List (PySem.Str × Value)} {ns' : List PySem.Str} {k : Nat} (F : Fr h₀ L h (fun y => bs.reverse.lookup y)) : Fr h₀ L h (look (bs.reverse.map (·.1) ++ ns') ((bs.reverse.map fun b => some b.2) ++ List.replicate k none)) :=
  Fr.conv F (by rw [look_nones (by simp), ← look_binds])
end
noncomputable abbrev NoE : Value → Shared → Prop := fun _ _ => False
theorem no_E {M : Model} {A : Around} {α : Type} {x : Sem α} {Q : α → Shared → Prop} {E : Value → Shared → Prop} {s : Shared} (h : wpAny M A x Q NoE s) : wpAny M A x Q E s := wpAny_mono h (fun _ _ h => h) fun _ _ h => h.elim
theorem gen_tk {M : Model} {A : Around} {α : Type} {x : Sem α} {Q : α → Shared → Prop} {E : Value → Shared → Prop} {s : Shared} {h : Heap} {t : Nat} (k : ∀ t, wpAny M A x Q E { s with heap := h, toks := t }) : wpAny M A x Q E { s with heap := h, toks := t } := k t
theorem room_1 {dp d a R : Nat} (h : dp + a < R) (e : Nat.ble (1 + d) a = true) : dp + 1 + d < R := by
  have := Nat.le_of_ble_eq_true e; lia
theorem room_0 {dp d a R : Nat} (h : dp + a < R) (e : Nat.ble d a = true) : dp + d < R := by
  have := Nat.le_of_ble_eq_true e; lia
section
variable {prog : Program} {w : World} {A : Around} {E : Value → Shared → Prop} {s : Shared} {h₀ : Heap} {L : Addr} {env : Env} {target : PySem.Expr} {body : List Stmt} {R : Result → Shared → Prop}
noncomputable def TEnd {σ : Type} (h₀ : Heap) (L : Addr) (mOf : σ → Locals) (nOf : σ → Led) (J : σ → Prop) (s : Shared) (f : Flow) (s' : Shared) : Prop :=
  f = .next ∧ ∃ x h' tk', s' = { s with heap := h', toks := tk' } ∧ J x ∧ Fr h₀ L h' (mOf x) ∧ News h₀ L h' (nOf x)
theorem TEnd.mk {σ : Type} {mOf : σ → Locals} {nOf : σ → Led} {J : σ → Prop} {h' : Heap} {tk' : Nat} (x : σ) (j : J x) (F : Fr h₀ L h' (mOf x)) (N : News h₀ L h' (nOf x)) : TEnd h₀ L mOf nOf J s .next { s with heap := h', toks := tk' } :=
  ⟨rfl, x, h', tk', rfl, j, F, N⟩
noncomputable def LStart {σ : Type} (h₀ : Heap) (L l : Addr) (mOf : σ → Locals) (nOf : σ → Led) (J : σ → Prop) (s : Shared) (v : Value) (s₁ : Shared) : Prop :=
  v = .ref l ∧ ∃ x₀ h tk, s₁ = { s with heap := h, toks := tk } ∧ J x₀ ∧ Fr h₀ L h (mOf x₀) ∧ News h₀ L h (nOf x₀)
theorem LStart.mk {σ : Type} {l : Addr} {mOf : σ → Locals} {nOf : σ → Led} {J : σ → Prop} {h : Heap} {tk : Nat} (x : σ) (j : J x) (F : Fr h₀ L h (mOf x)) (N : News h₀ L h (nOf x)) : LStart h₀ L l mOf nOf J s (.ref l) { s with heap := h, toks := tk } :=
  ⟨rfl, x, h, tk, rfl, j, F, N⟩
theorem for_inv {σ : Type} (mOf : σ → Locals) (nOf : σ → Led) (J : Nat → σ → Prop) {vs : List Value} {l : Addr} {ep : Nat} {x₀ : σ} (hh : A.handled = none)
    (hm : ∀ x, (l, ({ cls := .type "list", data := .seq vs.toArray ep } : Obj)) ∈ nOf x) (F : Fr h₀ L s.heap (mOf x₀)) (N : News h₀ L s.heap (nOf x₀)) (j : J 0 x₀)
    (turn : ∀ i x v h tk I o, vs[i]? = some v → J i x → Fr h₀ L h (mOf x) → News h₀ L h ((I, o) :: nOf x) → (∀ p ∈ nOf x, p.1 ≠ I) → LiOf o l (i + 1) →
      wpAny (model prog w) A (letOwnedTupleGo target (.ref I) v) (fun _ s₁' =>
          wpAny (model prog w) A (assign target env v) (fun _ s₂ => wpAny (model prog w) A (execs body env) (TEnd h₀ L mOf (fun x => (I, o) :: nOf x) (fun x => J (i + 1) x ∧ ∀ p ∈ nOf x, p.1 ≠ I) { s with heap := h, toks := tk }) NoE s₂) NoE s₁') NoE { s with heap := h, toks := tk })
    (done : ∀ x h tk, J vs.length x → Fr h₀ L h (mOf x) → News h₀ L h (nOf x) → R (.ok .next) { s with heap := h, toks := tk }) :
    wpAny (model prog w) A (pyIter (.ref l)) (fun it s₂ => Turns prog w A target it body [] env R (vs.length + 1) s₂) E s := by
  refine iterList_T F N (hm x₀) fun I o h' li F' N' lt => ?_
  have key : ∀ n i x h tk o, i + n = vs.length → J i x → Fr h₀ L h (mOf x) → News h₀ L h ((I, o) :: nOf x) → (∀ p ∈ nOf x, p.1 ≠ I) → LiOf o l i → Turns prog w A target (.ref I) body [] env R (n + 1) { s with heap := h, toks := tk } := by
    intro n
    induction n with
    | zero =>
      intro i x h tk o hi j F N ne li
      refine Turns.go (endList_T (i := i) (items := vs.toArray) (e := ep) hh F N (UpdD.head ne) li (.tail _ (hm x)) (by rw [List.getElem?_toArray]; exact List.getElem?_eq_none (by lia)) fun h' F' N' => ?_)
      have e : i = vs.length := by lia
      subst e
      exact wpAny_execs_nil (done x _ _ j F' N')
    | succ n ih =>
      intro i x h tk o hi j F N ne li
      have hl : i < vs.length := by lia
      refine Turns.go (nextList_T (i := i) (vs := vs) (e := ep) F N (UpdD.head ne) li (.tail _ (hm x)) (List.getElem?_eq_getElem hl) fun o' h' li' F' N' => ?_)
      refine no_E (wpAny_mono (turn i x vs[i] _ _ I o' (List.getElem?_eq_getElem hl) j F' N' ne li') (fun _ s₁ q => ?_) fun _ _ x => x)
      refine no_E (wpAny_mono q (fun _ s₂ q => ?_) fun _ _ x => x)
      refine no_E (wpAny_mono q (fun f s₃ q => ?_) fun _ _ x => x)
      obtain ⟨rfl, x', h3, tk3, rfl, ⟨j', ne'⟩, F3, N3⟩ := q
      exact ih (i + 1) x' h3 tk3 o' (by lia) j' F3 N3 ne' li'
  exact key vs.length 0 x₀ _ _ o (by lia) j F' N' (fun p hp => Nat.ne_of_lt (lt p hp)) li
theorem For_list {σ : Type} (mOf : σ → Locals) (nOf : σ → Led) (J : Nat → σ → Prop) {iter : PySem.Expr} {pos : Pos} {vs : List Value} {l : Addr} {ep : Nat} {Q : Flow → Shared → Prop} (hh : A.handled = none)
    (hm : ∀ x, (l, ({ cls := .type "list", data := .seq vs.toArray ep } : Obj)) ∈ nOf x)
    (h : wpAny (model prog w) A (eval iter env) (LStart h₀ L l mOf nOf (J 0) s) NoE s)
    (turn : ∀ i x v h tk I o, vs[i]? = some v → J i x → Fr h₀ L h (mOf x) → News h₀ L h ((I, o) :: nOf x) → (∀ p ∈ nOf x, p.1 ≠ I) → LiOf o l (i + 1) →
      wpAny (model prog w) A (letOwnedTupleGo target (.ref I) v) (fun _ s₁' =>
          wpAny (model prog w) A (assign target env v) (fun _ s₂ => wpAny (model prog w) A (execs body env) (TEnd h₀ L mOf (fun x => (I, o) :: nOf x) (fun x => J (i + 1) x ∧ ∀ p ∈ nOf x, p.1 ≠ I) { s with heap := h, toks := tk }) NoE s₂) NoE s₁') NoE { s with heap := h, toks := tk })
    (done : ∀ x h tk, J vs.length x → Fr h₀ L h (mOf x) → News h₀ L h (nOf x) → Q .next { s with heap := h, toks := tk })
    (hs : ∀ x, foldedSetIterable iter env x = pure x := by intro _; rfl) :
    wpAny (model prog w) A (exec (.For target iter body [] pos) env) Q E s := by
  refine For_T (vs.length + 1) (no_E (wpAny_mono h (fun v s₁ q => ?_) fun _ _ x => x)) hs
  obtain ⟨rfl, x₀, g, tk, rfl, j, F, N⟩ := q
  exact for_inv mOf nOf J hh hm F N j (fun i x v h tk I o => turn i x v h tk I o) (fun x h tk j F N => done x h tk j F N)
theorem cut_T {σ : Type} {mOf : σ → Locals} {nOf : σ → Led} {J : σ → Prop} {st : Stmt} {Q : Flow → Shared → Prop}
    (h : wpAny (model prog w) A (exec st env) (TEnd h₀ L mOf nOf J s) NoE s) (k : ∀ x h tk, J x → Fr h₀ L h (mOf x) → News h₀ L h (nOf x) → Q .next { s with heap := h, toks := tk }) : wpAny (model prog w) A (exec st env) Q E s := by
  refine no_E (wpAny_mono h (fun f s₁ q => ?_) fun _ _ x => x)
  obtain ⟨rfl, x, h', tk', rfl, j, F, N⟩ := q
  exact k x h' tk' j F N
end
end
theorem kFillN : PySem.Challenge.rw_to0071_01.foot = 12 ∧ Mine.K = Mine.K := by
  k_fill
  exact ⟨rfl, rfl⟩
local macro_rules | `(tactic| k_mem) => `(tactic| first | with_reducible assumption | exact List.Mem.head _ | (refine' List.mem_cons_of_mem _ ?_; k_mem))
local macro_rules | `(tactic| k_lt $h:ident) => `(tactic| ((have hT9 := allLt_of $h); replace $h := allLt_of $h; (try simp only [AllLt, and_true] at $h:ident)))
local macro_rules | `(tactic| k_ne) => `(tactic| first | with_reducible assumption | exact Ne.symm (by with_reducible assumption) | (refine neN ?_; (try dsimp only); lia))
local macro_rules | `(tactic| walk_at "mine suf") => `(tactic| first | exact List.suffix_rfl | (refine Mine.suf_cons ?_; walk_at "mine suf"))
local macro_rules | `(tactic| k_all) => `(tactic| first | assumption | exact List.forall_mem_nil _ | (refine Mine.ne_suf (by with_reducible assumption) ?_; walk_at "mine suf") | (refine Mine.ne_suf1 (by with_reducible assumption) ?_; walk_at "mine suf") | (refine Mine.ne_suf2 (by with_reducible assumption) ?_; walk_at "mine suf") | (refine Mine.ne_suf3 (by with_reducible assumption) ?_; walk_at "mine suf") | (refine Mine.ne_suf4 (by with_reducible assumption) ?_; walk_at "mine suf") | (refine Mine.ne_suf5 (by with_reducible assumption) ?_; walk_at "mine suf") | (refine Mine.ne_suf6 (by with_reducible assumption) ?_; walk_at "mine suf") | (refine' List.forall_mem_cons.mpr ⟨?a, ?b⟩; (case a => k_ne); (case b => k_all)))
local macro_rules | `(tactic| k_room) => `(tactic| (first | exact Mine.room_1 (by assumption) (by rfl) | exact Mine.room_0 (by assumption) (by rfl) | lia | ((try simp only [depth_under_make, depth_under_kw, depth_in1, depth_deeper, units_in1, units_deeper]); (try dsimp only [ktrTop]); first | exact Mine.room_1 (by assumption) (by rfl) | exact Mine.room_0 (by assumption) (by rfl) | lia)))

section
open PySem.Float64
noncomputable def IsF (x : UInt64) (n : Int) (k : Nat) : Prop := (∃ a m e, decode x = .fin a m e) ∧ val x * 2 ^ k = n * 2 ^ 1074
theorem infMag_is : infMag = 2047 * 2 ^ 52 := rfl
theorem V_bound {t : Nat} (h : t < infMag) : V t ≤ (2 ^ 53 - 1) * 2 ^ 2045 := by
  have h1 : V t ≤ V (infMag - 1) := V_mono (by lia)
  have h2 : V (infMag - 1) = (2 ^ 53 - 1) * 2 ^ 2045 := by
    have := V_at (k := 2045) (q := 2 ^ 53 - 1) (by decide) (.inl (by decide))
    rw [← this]
    congr 1
  lia
theorem right_exact {r : UInt64} {neg : Bool} {W D t' : Nat} (hr : Right r neg W D) (hD : 0 < D) (ht : t' < infMag) (hW : W = D * V t') : (∃ a m e, decode r = .fin a m e) ∧ val r = sgn neg (V t') := by
  obtain ⟨t, rfl, hle, hov, hn⟩ := hr
  have hb := V_bound ht
  have hlt : t < infMag := by
    rcases Nat.lt_or_eq_of_le hle with h | h
    · exact h
    · have h2 := hov.mp h
      rw [hW] at h2
      have h3 : D * V t' ≤ D * ((2 ^ 53 - 1) * 2 ^ 2045) := Nat.mul_le_mul_left D hb
      have hp : 0 < D * 2 ^ 2045 := Nat.mul_pos hD (Nat.two_pow_pos _)
      have e1 : D * ((2 ^ 54 - 1) * 2 ^ 2045) = (2 ^ 54 - 1) * (D * 2 ^ 2045) := by ac_rfl
      have e2 : D * ((2 ^ 53 - 1) * 2 ^ 2045) = (2 ^ 53 - 1) * (D * 2 ^ 2045) := by ac_rfl
      rw [e1] at h2
      rw [e2] at h3
      generalize D * 2 ^ 2045 = Z at *
      generalize D * V t' = Y at *
      lia
  have hd := (hn hlt t').1
  rw [hW] at hd
  have hz : dist (D * V t') (D * V t') = 0 := by unfold dist; lia
  have hz2 : dist (D * V t') (D * V t) = 0 := by lia
  have he : D * V t = D * V t' := by unfold dist at hz2; lia
  have hv : V t = V t' := Nat.eq_of_mul_eq_mul_left hD he
  obtain ⟨m, e, hdec, hm⟩ := decode_pack neg hlt
  exact ⟨⟨neg, m, e, hdec⟩, by rw [val_pack neg hlt, hv]⟩
theorem exists_V {n e : Nat} (hn : n < 2 ^ 53) (he : e ≤ 1074) : ∃ t, t < infMag ∧ V t = n * 2 ^ e := by
  rcases Nat.eq_zero_or_pos n with h0 | hp
  · subst h0
    exact ⟨0, by rw [infMag_is]; lia, by rw [V_zero]; lia⟩
  have hl : n.log2 ≤ 52 := by
    have := (Nat.log2_lt (n := n) (k := 53) (by lia)).mpr hn
    lia
  have hlo : 2 ^ n.log2 ≤ n := Nat.log2_self_le (by lia)
  have hhi : n < 2 ^ (n.log2 + 1) := Nat.lt_log2_self
  generalize n.log2 = l at *
  by_cases hs : 52 - l ≤ e
  · have hq1 : 2 ^ 52 ≤ n * 2 ^ (52 - l) := by
      calc 2 ^ 52 = 2 ^ l * 2 ^ (52 - l) := by rw [← Nat.pow_add]; congr 1; lia
        _ ≤ n * 2 ^ (52 - l) := Nat.mul_le_mul_right _ hlo
    have hq2 : n * 2 ^ (52 - l) < 2 ^ 53 := by
      calc n * 2 ^ (52 - l) < 2 ^ (l + 1) * 2 ^ (52 - l) := Nat.mul_lt_mul_of_pos_right hhi (Nat.two_pow_pos _)
        _ = 2 ^ 53 := by rw [← Nat.pow_add]; congr 1; lia
    refine ⟨(e - (52 - l)) * 2 ^ 52 + n * 2 ^ (52 - l), ?_, ?_⟩
    · rw [infMag_is]; lia
    · rw [V_at (by lia) (.inl hq1), Nat.mul_assoc, ← Nat.pow_add]
      congr 2
      lia
  · have hq2 : n * 2 ^ e < 2 ^ 53 := by
      calc n * 2 ^ e < 2 ^ (l + 1) * 2 ^ e := Nat.mul_lt_mul_of_pos_right hhi (Nat.two_pow_pos _)
        _ = 2 ^ (l + 1 + e) := by rw [← Nat.pow_add]
        _ ≤ 2 ^ 53 := Nat.pow_le_pow_right (by decide) (by lia)
    refine ⟨0 * 2 ^ 52 + n * 2 ^ e, ?_, ?_⟩
    · rw [infMag_is]; lia
    · rw [V_at (by lia) (.inr rfl), Nat.pow_zero, Nat.mul_one]
theorem sgn_abs (z : Int) : sgn (decide (z < 0)) z.natAbs = z := by
  unfold sgn
  by_cases h : z < 0
  · rw [decide_eq_true h, if_pos rfl]; lia
  · rw [decide_eq_false h]; simp; lia
theorem two_split {k : Nat} (hk : k ≤ 1074) : (2 : Int) ^ (1074 - k) * 2 ^ k = 2 ^ 1074 := by rw [← Int.pow_add]; congr 1; lia
theorem two_pos (k : Nat) : (0 : Int) < 2 ^ k := Int.pow_pos (by decide)
theorem IsF.val_of {x : UInt64} {n : Int} {k : Nat} (h : IsF x n k) (hk : k ≤ 1074) : val x = n * 2 ^ (1074 - k) := by
  have h1 := h.2
  rw [← two_split hk, ← Int.mul_assoc] at h1
  exact Int.eq_of_mul_eq_mul_right (Int.ne_of_gt (two_pos k)) h1
theorem natAbs_pow2 (n : Int) (k : Nat) : (n * 2 ^ k).natAbs = n.natAbs * 2 ^ k := by rw [Int.natAbs_mul, Int.natAbs_pow]; rfl
theorem IsF.ofInt {n : Int} (hn : n.natAbs < 2 ^ 53) : IsF (ofInt n) n 0 := by
  obtain ⟨t, ht, hV⟩ := exists_V hn (Nat.le_refl 1074)
  obtain ⟨h1, h2⟩ := right_exact (ofInt_right n) (by decide) ht (by rw [Nat.one_mul, hV])
  refine ⟨h1, ?_⟩
  rw [h2, hV, sgn_mul, sgn_abs, Int.pow_zero, Int.mul_one]
  norm_cast
theorem IsF.mul {x y : UInt64} {a b : Int} {j k : Nat} (hx : IsF x a j) (hy : IsF y b k) (hn : (a * b).natAbs < 2 ^ 53) (hk : j + k ≤ 1074) : IsF (mul x y) (a * b) (j + k) := by
  have vx := hx.val_of (by lia)
  have vy := hy.val_of (by lia)
  obtain ⟨⟨sa, m, e, dx⟩, _⟩ := hx
  obtain ⟨⟨sb, m', e', dy⟩, _⟩ := hy
  have hr := mul_right dx dy
  obtain ⟨t, ht, hV⟩ := exists_V hn (show 1074 - (j + k) ≤ 1074 by lia)
  have hW : (val x).natAbs * (val y).natAbs = 2 ^ 1074 * V t := by
    rw [hV, vx, vy, natAbs_pow2, natAbs_pow2, Int.natAbs_mul]
    have e1 : 1074 - j + (1074 - k) = 1074 + (1074 - (j + k)) := by lia
    calc a.natAbs * 2 ^ (1074 - j) * (b.natAbs * 2 ^ (1074 - k)) = a.natAbs * b.natAbs * (2 ^ (1074 - j) * 2 ^ (1074 - k)) := by ac_rfl
      _ = a.natAbs * b.natAbs * (2 ^ 1074 * 2 ^ (1074 - (j + k))) := by rw [← Nat.pow_add, ← Nat.pow_add, e1]
      _ = _ := by generalize (2 : Nat) ^ 1074 = Z; generalize (2 : Nat) ^ (1074 - (j + k)) = Y; ac_rfl
  obtain ⟨h1, h2⟩ := right_exact hr (Nat.two_pow_pos _) ht hW
  refine ⟨h1, ?_⟩
  have hs : sgn (sa != sb) (a * b).natAbs = a * b := by
    have ex : val x = sgn sa (m * 2 ^ (e + 1074).toNat) := val_eq dx
    have ey : val y = sgn sb (m' * 2 ^ (e' + 1074).toNat) := val_eq dy
    have hp : sgn (sa != sb) ((val x).natAbs * (val y).natAbs) = val x * val y := by
      rw [ex, ey, sgn_natAbs, sgn_natAbs]
      generalize m * 2 ^ (e + 1074).toNat = u
      generalize m' * 2 ^ (e' + 1074).toNat = v
      unfold sgn
      cases sa <;> cases sb <;> simp [Int.natCast_mul, Int.mul_neg, Int.neg_mul]
    rw [vx, vy, natAbs_pow2, natAbs_pow2] at hp
    have e3 : a.natAbs * 2 ^ (1074 - j) * (b.natAbs * 2 ^ (1074 - k)) = (a * b).natAbs * (2 ^ (1074 - j) * 2 ^ (1074 - k)) := by rw [Int.natAbs_mul]; ac_rfl
    have e4 : a * 2 ^ (1074 - j) * (b * 2 ^ (1074 - k)) = a * b * (((2 ^ (1074 - j) * 2 ^ (1074 - k) : Nat)) : Int) := by
      rw [Int.natCast_mul, Int.natCast_pow, Int.natCast_pow]
      show a * (2 : Int) ^ (1074 - j) * (b * (2 : Int) ^ (1074 - k)) = a * b * ((2 : Int) ^ (1074 - j) * (2 : Int) ^ (1074 - k))
      ac_rfl
    rw [e3, e4, sgn_mul] at hp
    refine Int.eq_of_mul_eq_mul_right ?_ hp
    have := Nat.mul_pos (Nat.two_pow_pos (1074 - j)) (Nat.two_pow_pos (1074 - k))
    lia
  rw [h2, hV, sgn_mul, hs]
  rw [← two_split hk, ← Int.mul_assoc]
  norm_cast
theorem IsF.add {x y : UInt64} {a b : Int} {k : Nat} (hx : IsF x a k) (hy : IsF y b k) (hn : (a + b).natAbs < 2 ^ 53) (hk : k ≤ 1074) : IsF (add x y) (a + b) k := by
  have vx := hx.val_of hk
  have vy := hy.val_of hk
  obtain ⟨⟨sa, m, e, dx⟩, _⟩ := hx
  obtain ⟨⟨sb, m', e', dy⟩, _⟩ := hy
  have vs : val x + val y = (a + b) * 2 ^ (1074 - k) := by rw [vx, vy, Int.add_mul]
  obtain ⟨hz, hr⟩ := add_right dx dy
  by_cases h0 : a + b = 0
  · rw [hz (by rw [vs, h0, Int.zero_mul]), h0]
    obtain ⟨m0, e0, hd0, hv0⟩ := decode_pack (sa && sb) (t := 0) (by rw [infMag_is]; decide)
    refine ⟨⟨_, m0, e0, hd0⟩, ?_⟩
    show val (pack (sa && sb) 0) * 2 ^ k = 0 * 2 ^ 1074
    rw [val_pack _ (by rw [infMag_is]; decide), V_zero]
    unfold sgn
    cases (sa && sb) <;> simp
  · have hne : val x + val y ≠ 0 := by
      rw [vs]
      exact Int.mul_ne_zero h0 (Int.ne_of_gt (two_pos _))
    obtain ⟨t, ht, hV⟩ := exists_V hn (show 1074 - k ≤ 1074 by lia)
    obtain ⟨h1, h2⟩ := right_exact (hr hne) (by decide) ht (by rw [Nat.one_mul, hV, vs, natAbs_pow2])
    refine ⟨h1, ?_⟩
    have hs : sgn (decide (val x + val y < 0)) (V t) = val x + val y := by
      have : V t = (val x + val y).natAbs := by rw [hV, vs, natAbs_pow2]
      rw [this, sgn_abs]
    rw [h2, hs, vs, Int.mul_assoc, two_split hk]
theorem IsF.cmpInt {x : UInt64} {a : Int} {k : Nat} (hx : IsF x a k) (hk : k ≤ 1074) (i : Int) : cmpInt x i = some (compare a (i * 2 ^ k)) := by
  have vx := hx.val_of hk
  obtain ⟨⟨sa, m, e, dx⟩, _⟩ := hx
  rw [cmpInt_right dx, vx, ← two_split hk]
  have e1 : i * (2 ^ (1074 - k) * 2 ^ k) = i * 2 ^ k * 2 ^ (1074 - k) := by ac_rfl
  rw [e1]
  generalize i * 2 ^ k = z
  have hp := two_pos (1074 - k)
  generalize (2 : Int) ^ (1074 - k) = Z at *
  congr 1
  rcases Int.lt_trichotomy a z with h | h | h
  · rw [Int.compare_eq_lt.mpr h, Int.compare_eq_lt.mpr (Int.mul_lt_mul_of_pos_right h hp)]
  · subst h; simp
  · rw [Int.compare_eq_gt.mpr h, Int.compare_eq_gt.mpr (Int.mul_lt_mul_of_pos_right h hp)]
theorem IsF.up {x : UInt64} {a : Int} {k : Nat} (hx : IsF x a k) (i : Nat) : IsF x (a * 2 ^ i) (k + i) := by
  refine ⟨hx.1, ?_⟩
  rw [Int.pow_add, ← Int.mul_assoc, hx.2]
  ac_rfl
theorem IsF.down {x : UInt64} {a : Int} {k i : Nat} (hx : IsF x (a * 2 ^ i) (k + i)) : IsF x a k := by
  refine ⟨hx.1, ?_⟩
  have h := hx.2
  rw [Int.pow_add, ← Int.mul_assoc] at h
  have e : a * 2 ^ i * 2 ^ 1074 = a * 2 ^ 1074 * 2 ^ i := by ac_rfl
  rw [e] at h
  exact Int.eq_of_mul_eq_mul_right (Int.ne_of_gt (two_pos i)) h
end
section
theorem nat_low (x k : Nat) : x &&& (x / 2 ^ k * 2 ^ k) = x / 2 ^ k * 2 ^ k := by
  apply Nat.eq_of_testBit_eq
  intro i
  rw [Nat.testBit_and, Nat.testBit_mul_two_pow]
  by_cases h : k ≤ i
  · simp [h, Nat.testBit_div_two_pow, Nat.sub_add_cancel h]
  · simp [h]
theorem bits_case {x : Int} {D : Nat} (h1 : 2 ^ (16 * D) ≤ x.natAbs) (h2 : x.natAbs < 2 ^ (16 * (D + 1))) : ((Builtin.Int.intBits x : Int) + 16 - 1).fdiv 16 = D + 1 := by
  have a : ¬ Builtin.Int.intBits x ≤ 16 * D := fun q => by have := intBits_le_iff.mp q; lia
  have b : Builtin.Int.intBits x ≤ 16 * (D + 1) := intBits_le_iff.mpr h2
  rw [Int.fdiv_eq_ediv_of_nonneg _ (by decide)]
  lia
theorem low_x {x : Int} (k : Nat) (h0 : 0 ≤ x) : Builtin.bitXor x (x.fdiv (2 ^ k) * 2 ^ k) = x % 2 ^ k := by
  obtain ⟨n, rfl⟩ := Int.eq_ofNat_of_zero_le h0
  rw [Int.fdiv_eq_ediv_of_nonneg _ (Int.le_of_lt (two_pos k))]
  have e : ((n : Int) / 2 ^ k * 2 ^ k) = ((n / 2 ^ k * 2 ^ k : Nat) : Int) := by norm_cast
  rw [bitXor_and, e]
  have e2 : Builtin.bitAnd (n : Int) ((n / 2 ^ k * 2 ^ k : Nat) : Int) = ((n &&& (n / 2 ^ k * 2 ^ k) : Nat) : Int) := by
    unfold Builtin.bitAnd
    rw [decide_eq_true (show (0 : Int) ≤ (n : Int) by lia), decide_eq_true (show (0 : Int) ≤ ((n / 2 ^ k * 2 ^ k : Nat) : Int) by lia)]
    rfl
  rw [e2, nat_low]
  have e3 : ((n : Int) % 2 ^ k) = ((n % 2 ^ k : Nat) : Int) := by norm_cast
  rw [e3]
  have := Nat.div_add_mod n (2 ^ k)
  rw [Nat.mul_comm] at this
  lia
structure Sz (X : Int) : Prop where
  nn : 0 ≤ X
  sz : Builtin.Int.intBits X ≤ 80
theorem Sz.up {X : Int} {k : Nat} (h : Sz X) : Sz (X.fdiv (2 ^ k)) := ⟨by rw [Int.fdiv_eq_ediv_of_nonneg _ (Int.le_of_lt (two_pos k))]; exact Int.ediv_nonneg h.nn (Int.le_of_lt (two_pos k)), intBits_fdiv_le h.sz⟩
end
section
variable {w : World} {p : Program} {loose : List PySem.Str} {mean : ExcName → Option Value} {mg mb : Locals} {h₀ : Heap} {L : Addr} {m : Locals} {news : Led} {s : Shared} {Q E : Value → Shared → Prop}
structure CodeObj (oc : Obj) (qual : PySem.Str) : Prop where
  ex : ∃ vs t, oc.data = .fields vs ∧ vs[1]? = some (.str qual t)
noncomputable abbrev tabInner (line col : Int) (c' : Addr) : Obj := tabObj #[rawInt line, rawInt col, .ref c']
end
section
theorem ne_sufL {c f : Nat} {l t : Led} (hc : @LT.lt Nat _ c f) (h : AllLt c l) (hs : t <:+ l) : ∀ p ∈ t, p.1 ≠ f := ne_suf (allLt_mono h (Nat.le_of_lt hc)) hs
namespace FN
open PySem.F
theorem slot_setattr : Slot "function" "__setattr__" "object.__setattr__" :=
  .of (owner := "object") (n := "__setattr__") (by rw [typeLookup_type, builtinLookup_eq_fast]; kernel_rfl) (by decide +kernel) (by decide +kernel) (by decide +kernel)
    (by first | exact .inl (by decide +kernel) | exact .inr (by decide +kernel)) (by rw [isSubtype_type]; kernel_rfl)
theorem slot_getattribute : Slot "function" "__getattribute__" "object.__getattribute__" :=
  .of (owner := "object") (n := "__getattribute__") (by rw [typeLookup_type, builtinLookup_eq_fast]; kernel_rfl) (by decide +kernel) (by decide +kernel) (by decide +kernel)
    (by first | exact .inl (by decide +kernel) | exact .inr (by decide +kernel)) (by rw [isSubtype_type]; kernel_rfl)
theorem mro : mroOf (.type "function") = pure [.type "function", .type "object"] := by rw [mroOf_type]; kernel_rfl
theorem no_read : typeLookup (.type "function") "read" = pure none := by rw [typeLookup_type, builtinLookup_eq_fast]; kernel_rfl
theorem no_getattr : typeLookup (.type "function") "__getattr__" = pure none := by rw [typeLookup_type, builtinLookup_eq_fast]; kernel_rfl
theorem has : typeHasDict (.type "function") = true := by decide +kernel
theorem refuse (self : Value) : refuseLoop self "__setattr__" [.type "function", .type "object"] = pure () := by kernel_rfl
theorem sub : isSubtype (.type "function") (.type "object") = pure true := by rw [isSubtype_type]; kernel_rfl
end FN
section
open PySem.Builtin PySem.Builtin.ObjectAttr
variable {prog : Program} {w : World} {A : Around} {E : Value → Shared → Prop} {s : Shared}
noncomputable def NsIs (od : Obj) (mm : Locals) : Prop := ∀ (h : Heap) (D : Addr), h.get? D = some od → h.Ns D mm
theorem fn_setAttr {S : Addr} {fd : FuncData} {sl : Array (Option Value)} {v : Value} {Q : Unit → Shared → Prop} (ho : s.heap.get? S = some ⟨.type "function", none, .func fd, sl⟩)
    (h : ∀ h' od tk', (∀ b o, b ≠ S → s.heap.get? b = some o → h'.get? b = some o) → h'.get? s.heap.objs.size = some od → NsIs od (fun x => if x = Str.ofString "read" then some v else none) →
      h'.get? S = some ⟨.type "function", some s.heap.objs.size, .func fd, sl⟩ → Q () { s with heap := h', toks := tk' }) :
    wpAny (model prog w) A (setAttr (.ref S) (Str.ofString "read") v) Q E s := by
  have hT : s.TypeIs (.ref S) "function" := ⟨_, ho, rfl⟩
  have hS : S < s.heap.objs.size := Heap.lt_size ho
  unfold setAttr
  refine wpAny_bind (wpAny_mkText ?_)
  refine wpAny_bind (wpAny_callSpecial?_slot (name := Str.ofString "__setattr__") (s := { s with toks := s.toks + 1 }) hT FN.slot_setattr
    (wpAny_call_entry FN.slot_setattr hT PySem.F.entry_object_setattr ?_ (PySem.F.args_object_setattr_3 _ _ _)))
  rw [osa_eq, refuse_eq]
  refine wpAny_bind (wpAny_bind (wpAny_typeOf (s := { s with toks := s.toks + 1 }) hT ?_))
  rw [FN.mro]
  refine wpAny_bind (wpAny_pure ?_)
  rw [FN.refuse]
  refine wpAny_pure ?_
  refine wpAny_bind (wpAny_typeOf (s := { s with toks := s.toks + 1 }) hT ?_)
  rw [show typeLookup (.type "function") (Str.ofString "read") = pure none from FN.no_read]
  refine wpAny_bind (wpAny_pure ?_)
  refine wpAny_bind (m := storeTaker? none) (wpAny_pure ?_)
  dsimp only
  unfold storeInOwnDict
  refine wpAny_bind (m := ownStreamTells _ _) (wpAny_of_eq (a := ()) (by kernel_rfl) ?_)
  rw [if_neg (by decide)]
  unfold ownDictForStores
  refine wpAny_bind ?_
  unfold instanceDict
  refine wpAny_bind (wpAny_loadPart (s := { s with toks := s.toks + 1 }) ho ?_)
  dsimp only
  rw [if_neg (by rw [FN.has]; decide)]
  refine wpAny_bind (wpAny_alloc ?_)
  have hS1 : (s.heap.push { cls := .type "dict", data := .dict #[] }).get? S = some ⟨.type "function", none, .func fd, sl⟩ := Heap.get?_push_of_some _ ho
  refine wpAny_bind (wpAny_update (s := { s with heap := s.heap.push { cls := .type "dict", data := .dict #[] }, toks := s.toks + 1 }) hS1 ?_)
  refine wpAny_mono (Q := fun r s' => r = some s.heap.objs.size ∧ s' = { s with heap := (s.heap.push { cls := .type "dict", data := .dict #[] }).update S (fun o => { o with dict := some s.heap.objs.size }), toks := s.toks + 1 }) (E := E) (wpAny_of_eq (a := some s.heap.objs.size) (by kernel_rfl) ⟨rfl, rfl⟩) (fun r s' hr => ?_) fun _ _ e => e
  obtain ⟨rfl, rfl⟩ := hr
  dsimp only
  unfold storeInDict newKeyGuard
  refine wpAny_bind (wpAny_pure ?_)
  have hS2 : ((s.heap.push { cls := .type "dict", data := .dict #[] }).update S (fun o => { o with dict := some s.heap.objs.size })).get? S = some ⟨.type "function", some s.heap.objs.size, .func fd, sl⟩ := Heap.get?_update_self _ hS1 rfl
  have hD2 : ((s.heap.push { cls := .type "dict", data := .dict #[] }).update S (fun o => { o with dict := some s.heap.objs.size })).get? s.heap.objs.size = some { cls := .type "dict", data := .dict #[] } := by
    rw [Heap.get?_update_ne _ _ _ _ (Nat.ne_of_gt hS)]
    exact Heap.get?_push_size _ rfl
  generalize hH2 : (s.heap.push { cls := .type "dict", data := .dict #[] }).update S (fun o => { o with dict := some s.heap.objs.size }) = H2 at hS2 hD2 ⊢
  have hk2 : ∀ b o, b ≠ S → s.heap.get? b = some o → H2.get? b = some o := by
    intro b o hb e
    rw [← hH2, Heap.get?_update_ne _ _ _ _ hb]
    exact Heap.get?_push_of_some _ e
  have hnd : H2.Ns s.heap.objs.size (fun _ => none) := ⟨_, #[], _, hD2, rfl, fun e he => absurd he (by simp), fun _ => rfl⟩
  refine wpAny_bind (wpAny_nsSet1 (s := { s with heap := H2, toks := s.toks + 1 }) (Heap.Ns1.of_empty hnd) fun h' hn' hs => ?_)
  obtain ⟨oD, esD, epD, hoD, hdD, hcD⟩ := hn'.count (Within.cons (Str.ofString "read") v Within.nil)
  refine wpAny_bind (wpAny_lookBehind hoD (by rw [hdD]; exact pastItsLine_dict (Nat.le_trans hcD (by rw [List.length_cons, List.length_nil, sizeLine_eq]; lia))) ?_)
  refine wpAny_pure ⟨_, rfl, wpAny_pure ?_⟩
  obtain ⟨o', es, ep, e1, e2, e3, e4, e5⟩ := hn'
  have hne : S ≠ s.heap.objs.size := Nat.ne_of_lt hS
  refine h h' o' _ (fun b o hb e => ?_) e1 (fun hh D hD => ⟨o', es, ep, hD, e2, e3, e5⟩) ((hs.2 S hne).trans hS2)
  exact (hs.2 b (Nat.ne_of_lt (Heap.lt_size e))).trans (hk2 b o hb e)
theorem fn_getAttr {S D : Addr} {fd : FuncData} {sl : Array (Option Value)} {od : Obj} {F : Addr} {b : Bool} {Q : Value → Shared → Prop} (ho : s.heap.get? S = some ⟨.type "function", some D, .func fd, sl⟩)
    (hD : s.heap.get? D = some od) (hn : NsIs od (fun x => if x = Str.ofString "read" then some (.ref F) else none))
    (h : Q (.ref F) { s with toks := s.toks + 1 }) : wpAny (model prog w) A (getAttr (.ref S) (Str.ofString "read") b) Q E s := by
  have hT : s.TypeIs (.ref S) "function" := ⟨_, ho, rfl⟩
  have hT1 : Shared.TypeIs { s with toks := s.toks + 1 } (.ref S) "function" := ⟨_, ho, rfl⟩
  have hns : s.heap.Ns D _ := hn _ _ hD
  unfold getAttr
  refine wpAny_bind (wpAny_mkText ?_)
  unfold getAttrBy
  refine wpAny_holding (wpAny_bind (wpAny_typeOf hT1 ?_))
  rw [FN.slot_getattribute.lookup]
  refine wpAny_bind (wpAny_pure ?_)
  dsimp only
  rw [if_neg (by decide)]
  unfold getAttrByItsOwn hookBefore callGetattribute
  rw [if_neg (by decide)]
  refine wpAny_bind (wpAny_pure ?_)
  rw [if_neg (by simp [onTheHeap])]
  unfold boundAndCalled
  refine wpAny_bind (wpAny_attempt (wpAny_holding ?_))
  rw [FN.slot_getattribute.bind]
  refine wpAny_bind (wpAny_pure ?_)
  refine wpAny_call_entry FN.slot_getattribute hT1 PySem.F.entry_object_getattribute ?_ (PySem.F.args_object_getattribute_2 _ _)
  unfold Builtin.«object.__getattribute__»
  refine wpAny_bind (m := slotArgs _ _ _) (wpAny_pure ?_)
  dsimp only
  refine wpAny_bind (m := attrName _) (wpAny_pure ?_)
  refine wpAny_bind (wpAny_typeOf hT1 ?_)
  unfold ObjectAttr.find
  rw [show typeLookup (.type "function") (Str.ofString "read") = pure none from FN.no_read]
  refine wpAny_bind (wpAny_bind (wpAny_pure ?_))
  refine wpAny_bind (m := getOf none) (wpAny_pure ?_)
  refine wpAny_bind (m := dataDescriptor? none _) (wpAny_pure ?_)
  dsimp only
  unfold ownThenClass inOwnDict Builtin.ObjectAttr.ownDict loadHead
  refine wpAny_bind (wpAny_bind (wpAny_bind (wpAny_loadPart (s := { s with toks := s.toks + 1 }) ho ?_)))
  dsimp only
  unfold instanceDict
  refine wpAny_bind (wpAny_loadPart (s := { s with toks := s.toks + 1 }) ho ?_)
  dsimp only
  refine wpAny_pure ?_
  refine wpAny_nsGet (s := { s with toks := s.toks + 1 }) hns ?_
  rw [if_pos rfl]
  dsimp only
  refine wpAny_bind (wpAny_rule (wpAny_pure ?_))
  dsimp only
  exact wpAny_pure ⟨_, rfl, wpAny_pure h⟩
theorem fn_getMethod {S D : Addr} {fd : FuncData} {sl : Array (Option Value)} {od : Obj} {F : Addr} {pl : Sem Bool} {Q : Value × List Value → Shared → Prop} (ho : s.heap.get? S = some ⟨.type "function", some D, .func fd, sl⟩)
    (hD : s.heap.get? D = some od) (hn : NsIs od (fun x => if x = Str.ofString "read" then some (.ref F) else none))
    (h : Q (.ref F, []) { s with toks := s.toks + 1 }) : wpAny (model prog w) A (getMethod (.ref S) (Str.ofString "read") pl) Q E s := by
  have hT : s.TypeIs (.ref S) "function" := ⟨_, ho, rfl⟩
  unfold getMethod
  refine wpAny_bind (wpAny_specialOf (name := Str.ofString "__getattribute__") hT FN.slot_getattribute.lookup ?_)
  dsimp only
  rw [if_neg (by decide +kernel)]
  refine wpAny_bind (wpAny_specialOf (name := Str.ofString "__getattr__") hT FN.no_getattr ?_)
  rw [if_neg (by decide)]
  refine wpAny_bind (wpAny_specialOf (name := Str.ofString "read") hT FN.no_read ?_)
  dsimp only
  exact wpAny_bind (fn_getAttr ho hD hn (wpAny_pure h))
end
end
section
section
variable {prog : Program} {w : World} {A : Around} {E : Value → Shared → Prop} {s : Shared} {h₀ : Heap} {L S D F : Addr} {m : Locals} {news : Led} {g : Obj → Led} {so od : Obj} {fd : FuncData} {sl : Array (Option Value)}
theorem upd_ext2 {h h' : Heap} {o' : Obj} (Fx : Fr h₀ L h m) (N : News h₀ L h news) (U : UpdF S so news g) (k : ∀ b o, b ≠ S → h.get? b = some o → h'.get? b = some o) (ho : h'.get? S = some o') :
    Fr h₀ L h' m ∧ News h₀ L h' (g o') := by
  obtain ⟨pre, post, rfl, hg, a, b⟩ := U.split
  have hm := N (S, so) (List.mem_append_right _ (.head _))
  obtain ⟨⟨oL, e1, e2, hL, e3⟩, kp, ab⟩ := Fx
  refine ⟨⟨⟨oL, e1, e2, k _ _ hm.2.1.symm hL, e3⟩, fun b o e => k _ _ (fun hb => ?_) (kp b o e), ab⟩, ?_⟩
  · subst hb
    rw [hm.2.2] at e; cases e
  · rw [hg o']
    intro p hp
    rcases List.mem_append.mp hp with hp | hp
    · exact ⟨k _ _ (a p hp) (N p (List.mem_append_left _ hp)).1, (N p (List.mem_append_left _ hp)).2⟩
    · rcases List.mem_cons.mp hp with rfl | hp
      · exact ⟨ho, hm.2⟩
      · exact ⟨k _ _ (b p hp) (N p (List.mem_append_right _ (.tail _ hp))).1, (N p (List.mem_append_right _ (.tail _ hp))).2⟩
theorem fnl_setAttr {v : Value} {Q : Unit → Shared → Prop} (Fx : Fr h₀ L s.heap m) (N : News h₀ L s.heap news) (U : UpdF S so news g) (e : so = ⟨.type "function", none, .func fd, sl⟩)
    (h : ∀ h' D od tk', Fr h₀ L h' m → News h₀ L h' ((D, od) :: g ⟨.type "function", some D, .func fd, sl⟩) → (∀ p ∈ news, p.1 < D) → NsIs od (fun x => if x = Str.ofString "read" then some v else none) → Q () { s with heap := h', toks := tk' }) :
    wpAny (model prog w) A (setAttr (.ref S) (Str.ofString "read") v) Q E s := by
  subst e
  have hm : s.heap.get? S = some ⟨.type "function", none, .func fd, sl⟩ ∧ S ≠ L ∧ h₀.get? S = none := by
    obtain ⟨pre, post, rfl, hg, a, b⟩ := U.split
    exact N (S, _) (List.mem_append_right _ (.head _))
  refine fn_setAttr hm.1 fun h' od tk' k1 k2 k3 k4 => ?_
  obtain ⟨F', N'⟩ := upd_ext2 Fx N U k1 k4
  obtain ⟨⟨oL, e1, e2, hL, e3⟩, kp, ab⟩ := Fx
  refine h h' _ od tk' F' (fun p hp => ?_) (fun p hp => Heap.lt_size (N p hp).1) k3
  rcases List.mem_cons.mp hp with rfl | hp
  · refine ⟨k2, Nat.ne_of_gt (Heap.lt_size hL), ?_⟩
    cases hq : h₀.get? s.heap.objs.size with
    | none => rfl
    | some o' => exact absurd (Heap.lt_size (kp _ _ hq)) (Nat.lt_irrefl _)
  · exact N' p hp
theorem fnl_getMethod {pl : Sem Bool} {Q : Value × List Value → Shared → Prop} (N : News h₀ L s.heap news) (hS : (S, (⟨.type "function", some D, .func fd, sl⟩ : Obj)) ∈ news) (hn : NsIs od (fun x => if x = Str.ofString "read" then some (.ref F) else none)) (hD : (D, od) ∈ news)
    (h : Q (.ref F, []) { s with toks := s.toks + 1 }) : wpAny (model prog w) A (getMethod (.ref S) (Str.ofString "read") pl) Q E s :=
  fn_getMethod (N _ hS).1 (N _ hD).1 hn h
end
end
section
noncomputable def inMach : Stmt := ((bodyOf (stAt 20))[1]?).getD default
noncomputable def rdObj : PySem.Str → List (PySem.Str × Addr) → Value → Value → Addr → Value → Obj :=
  (fun (n : PySem.Str) (a : Arguments) (b : List Stmt) (d : List PySem.Expr) (r : Option PySem.Expr) (t : List TypeParam) (s : Scope) (u : Option Scope) (w : PySem.Str) (p : Pos) (_ : inMach = Stmt.FunctionDef n a b d r t s u w p) =>
    fun q cl dc md c' ct => fnMade n q a b s cl dc md c' ct) _ _ _ _ _ _ _ _ _ _ rfl
structure MA where
  (pb x d rd S F cF at_ c1 c2 : Addr)
noncomputable abbrev ent (w : World) (x : PySem.Str) (t : Tok) (v : Value) : DictEntry := ⟨PyData.keyHash w.params x, .str x t, v⟩
noncomputable abbrev wsStr : PySem.Str := PySem.Str.ofString "\n\t\r "
structure MO where
  (od : Obj) (fd : FuncData) (sl : Array (Option Value)) (q : PySem.Str) (dc md ct : Value) (o1 o2 oc : Obj)
structure MIs (M : MA) (O : MO) (T : PySem.Str) : Prop where
  od : NsIs O.od (fun x => if x = PySem.Str.ofString "read" then some (.ref M.F) else none)
  o1 : ∃ t, O.o1.data = .cell (some (.str T t))
  o2 : O.o2.data = .cell (some (.ref M.at_))
  oc : CodeObj O.oc O.q
  ord : @LT.lt Nat _ M.c1 M.c2 ∧ @LT.lt Nat _ M.c2 M.at_ ∧ @LT.lt Nat _ M.at_ M.cF ∧ @LT.lt Nat _ M.cF M.F ∧ @LT.lt Nat _ M.F M.S ∧ @LT.lt Nat _ M.S M.rd ∧ @LT.lt Nat _ M.rd M.d ∧ @LT.lt Nat _ M.d M.x ∧ @LT.lt Nat _ M.x M.pb
noncomputable abbrev mLed (w : World) (M : MA) (O : MO) (ln k : Int) (t1 t2 t3 t4 tl tw tk : Tok) (ee : Nat) (news : Led) : Led :=
  (M.pb, listOf #[] 0) :: (M.x, instObj 88 M.d) :: (M.d, dictOf [ent w (PySem.Str.ofString "lineno") t1 (.int ln tl), ent w (PySem.Str.ofString "instream") t2 (.ref M.S), ent w (PySem.Str.ofString "whitespace") t3 (.str wsStr tw), ent w (PySem.Str.ofString "pushback") t4 (.ref M.pb)] 4) ::
  (M.rd, O.od) :: (M.S, ⟨.type "function", some M.rd, .func O.fd, O.sl⟩) :: (M.F, rdObj O.q [(PySem.Str.ofString "text", M.c1), (PySem.Str.ofString "at", M.c2)] O.dc O.md M.cF O.ct) :: (M.cF, O.oc) ::
  (M.at_, listOf #[.int k tk] ee) :: (M.c2, O.o2) :: (M.c1, O.o1) :: news
@[irreducible] noncomputable def mRest (M : MA) (O : MO) (k : Int) (tk : Tok) (ee : Nat) (news : Led) : Led :=
  (M.rd, O.od) :: (M.S, ⟨.type "function", some M.rd, .func O.fd, O.sl⟩) :: (M.F, rdObj O.q [(PySem.Str.ofString "text", M.c1), (PySem.Str.ofString "at", M.c2)] O.dc O.md M.cF O.ct) :: (M.cF, O.oc) ::
  (M.at_, listOf #[.int k tk] ee) :: (M.c2, O.o2) :: (M.c1, O.o1) :: news
noncomputable abbrev mLed2 (w : World) (M : MA) (O : MO) (ln k : Int) (t1 t2 t3 t4 tl tw tk : Tok) (ee : Nat) (news : Led) : Led :=
  (M.pb, listOf #[] 0) :: (M.x, instObj 88 M.d) :: (M.d, dictOf [ent w (PySem.Str.ofString "lineno") t1 (.int ln tl), ent w (PySem.Str.ofString "instream") t2 (.ref M.S), ent w (PySem.Str.ofString "whitespace") t3 (.str wsStr tw), ent w (PySem.Str.ofString "pushback") t4 (.ref M.pb)] 4) ::
  mRest M O k tk ee news
theorem mem_swap2 {α : Type} (A B : α) (pre news : List α) : ∀ p ∈ pre ++ A :: B :: news, p ∈ A :: B :: (pre ++ news) := by
  intro p h
  simp only [List.mem_append, List.mem_cons] at h ⊢
  rcases h with h | h | h | h <;> simp [h]
theorem mem_swap2' {α : Type} (A B : α) (pre news : List α) : ∀ p ∈ A :: B :: (pre ++ news), p ∈ pre ++ A :: B :: news := by
  intro p h
  simp only [List.mem_append, List.mem_cons] at h ⊢
  rcases h with h | h | h | h <;> simp [h]
theorem led_eq (w : World) (M : MA) (O : MO) (ln k : Int) (t1 t2 t3 t4 tl tw tk : Tok) (ee : Nat) (news : Led) : mLed2 w M O ln k t1 t2 t3 t4 tl tw tk ee news = mLed w M O ln k t1 t2 t3 t4 tl tw tk ee news := by
  unfold mLed2 mLed mRest
  rfl
noncomputable abbrev mPre (w : World) (M : MA) (O : MO) (ln k : Int) (t1 t2 t3 t4 tl tw tk : Tok) (ee : Nat) : Led := mLed w M O ln k t1 t2 t3 t4 tl tw tk ee []
theorem led_of {w : World} {M : MA} {O : MO} {ln k : Int} {t1 t2 t3 t4 tl tw tk : Tok} {ee : Nat} {news : Led} {h₀ h : Heap} {L : Addr}
    (N : News h₀ L h (mLed w M O ln k t1 t2 t3 t4 tl tw tk ee news)) : News h₀ L h (mLed2 w M O ln k t1 t2 t3 t4 tl tw tk ee news) := by
  rw [led_eq]
  exact N
theorem allLt_mem {d : Nat} : ∀ {l : Led}, AllLt d l → ∀ p ∈ l, @LT.lt Nat _ p.1 d
  | [], _ => fun p hp => nomatch hp
  | _ :: _, h => fun p hp => by
    rcases List.mem_cons.mp hp with rfl | hp
    · exact h.1
    · exact allLt_mem h.2 p hp
theorem rest_lt {M : MA} {O : MO} {k : Int} {tk : Tok} {ee J : Nat} {news : Led} (h : AllLt J (mRest M O k tk ee news)) : AllLt J news := by
  unfold mRest at h
  exact h.2.2.2.2.2.2.2
theorem led_in {w : World} {M : MA} {O : MO} {ln k : Int} {t1 t2 t3 t4 tl tw tk : Tok} {ee : Nat} {news : Led} {h₀ h : Heap} {L : Addr} (ex : Led)
    (N : News h₀ L h (ex ++ mLed2 w M O ln k t1 t2 t3 t4 tl tw tk ee news)) : News h₀ L h (mLed2 w M O ln k t1 t2 t3 t4 tl tw tk ee (ex ++ news)) := by
  rw [led_eq] at N ⊢
  refine cb_drop N fun p hp => ?_
  have e : mLed w M O ln k t1 t2 t3 t4 tl tw tk ee (ex ++ news) = mPre w M O ln k t1 t2 t3 t4 tl tw tk ee ++ (ex ++ news) := rfl
  have e2 : mLed w M O ln k t1 t2 t3 t4 tl tw tk ee news = mPre w M O ln k t1 t2 t3 t4 tl tw tk ee ++ news := rfl
  rw [e] at hp
  rw [e2]
  simp only [List.mem_append] at hp ⊢
  rcases hp with hp | hp | hp <;> simp [hp]
theorem led_out {w : World} {M : MA} {O : MO} {ln k : Int} {t1 t2 t3 t4 tl tw tk : Tok} {ee : Nat} {news : Led} {h₀ h : Heap} {L : Addr} (ex : Led)
    (N : News h₀ L h (mLed2 w M O ln k t1 t2 t3 t4 tl tw tk ee (ex ++ news))) : News h₀ L h (ex ++ mLed2 w M O ln k t1 t2 t3 t4 tl tw tk ee news) := by
  rw [led_eq] at N ⊢
  refine cb_drop N fun p hp => ?_
  have e : mLed w M O ln k t1 t2 t3 t4 tl tw tk ee (ex ++ news) = mPre w M O ln k t1 t2 t3 t4 tl tw tk ee ++ (ex ++ news) := rfl
  have e2 : mLed w M O ln k t1 t2 t3 t4 tl tw tk ee news = mPre w M O ln k t1 t2 t3 t4 tl tw tk ee ++ news := rfl
  rw [e2] at hp
  rw [e]
  simp only [List.mem_append] at hp ⊢
  rcases hp with hp | hp | hp <;> simp [hp]
theorem led_to {w : World} {M : MA} {O : MO} {ln k : Int} {t1 t2 t3 t4 tl tw tk : Tok} {ee : Nat} {news : Led} {h₀ h : Heap} {L : Addr} {A B : Addr × Obj}
    (N : News h₀ L h (A :: B :: mLed2 w M O ln k t1 t2 t3 t4 tl tw tk ee news)) : News h₀ L h (mLed w M O ln k t1 t2 t3 t4 tl tw tk ee (A :: B :: news)) := by
  rw [led_eq] at N
  exact cb_drop N (mem_swap2 A B (mPre w M O ln k t1 t2 t3 t4 tl tw tk ee) news)
theorem led_back {w : World} {M : MA} {O : MO} {ln k : Int} {t1 t2 t3 t4 tl tw tk : Tok} {ee : Nat} {news : Led} {h₀ h : Heap} {L : Addr} {A B : Addr × Obj}
    (N : News h₀ L h (mLed w M O ln k t1 t2 t3 t4 tl tw tk ee (A :: B :: news))) : News h₀ L h (A :: B :: mLed2 w M O ln k t1 t2 t3 t4 tl tw tk ee news) := by
  rw [led_eq]
  exact cb_drop N (mem_swap2' A B (mPre w M O ln k t1 t2 t3 t4 tl tw tk ee) news)
section
open PySem.Builtin PySem.Builtin.Str
variable {prog : Program} {w : World} {A : Around} {E : Value → Shared → Prop} {s : Shared} {h₀ : Heap} {L : Addr} {m : Locals} {news : Led} {x : PySem.Str} {t : Tok} {value slice : PySem.Expr} {Q : Value → Shared → Prop}
theorem slice_some {T : PySem.Str} {k c : Nat} {rest : List Nat} (h : T.cps.toList.drop k = c :: rest) : Txt.slice T (some (k : Int)) (some ((k : Int) + 1)) = ⟨#[c]⟩ := by
  have hl : k < T.cps.toList.length := by
    rcases Nat.lt_or_ge k T.cps.toList.length with q | q
    · exact q
    · rw [List.drop_eq_nil_of_le q] at h; cases h
  have e := eq_of_beq (slice_closes (x := T) (i := (k : Int)) (j := (k : Int) + 1) ⟨by lia, by lia, by lia⟩)
  rw [e, Int.toNat_natCast, h, show ((k : Int) + 1 - k).toNat = 1 by lia]
  rfl
end
end
section
section
variable {prog : Program} {w : World} {A : Around} {E : Value → Shared → Prop} {s : Shared}
noncomputable abbrev SetSt := List (Nat × Int) × List Nat
noncomputable def setT (st : SetSt) (fg : Nat) (ld : Bool) (mv : Nat) : SetTable := { mask := 7, place := (st.1.map (·.1)).toArray, dummies := st.2.toArray, finger := fg, led := ld, moves := mv, plain := true }
noncomputable def stripE : Int × Value → Option (Int × Int)
  | (h, .int v _) => some (h, v)
  | _ => none
noncomputable def ledOf (w : World) : Bool := !w.params.followText "set-order"
noncomputable abbrev setX (es : Array (Int × Value)) (ep : Nat) (t : SetTable) : Obj := { cls := .type "set", dict := none, data := .set es ep t, slots := #[] }
noncomputable def SX (w : World) (o : Obj) (st : SetSt) : Prop :=
  ∃ es ep fg mv, o = setX es ep (setT st fg (ledOf w) mv) ∧ es.toList.map stripE = st.1.map (fun pv => some (pv.2, pv.2))
noncomputable def SOk (st : SetSt) : Bool := st.1.all (fun pv => decide (0 ≤ pv.2 ∧ pv.2 < 1000)) && decide (st.1.length + st.2.length ≤ 7)
theorem stripE_eq {e : Int × Value} {a b : Int} (h : stripE e = some (a, b)) : ∃ t, e = (a, .int b t) := by
  obtain ⟨x, v⟩ := e
  cases v with
  | int v t => cases Option.some.inj h; exact ⟨t, rfl⟩
  | _ => exact nomatch (show (none : Option (Int × Int)) = some (a, b) from h)
theorem hashInt_all : ∀ n : Nat, n < 1000 → hashInt (n : Int) = (n : Int) := by decide +kernel
theorem hashInt_small {v : Int} (h : 0 ≤ v ∧ v < 1000) : hashInt v = v := by
  have h1 := hashInt_all v.toNat (by lia)
  rwa [Int.toNat_of_nonneg h.1] at h1
theorem SX.elem {es : Array (Int × Value)} {st : SetSt} (h : es.toList.map stripE = st.1.map (fun pv => some (pv.2, pv.2))) (hk : SOk st = true) :
    ∀ e ∈ es.toList, ∃ pv ∈ st.1, ∃ t, e = (pv.2, .int pv.2 t) ∧ 0 ≤ pv.2 ∧ pv.2 < 1000 := by
  intro e he
  have h1 : stripE e ∈ es.toList.map stripE := List.mem_map.mpr ⟨e, he, rfl⟩
  rw [h] at h1
  obtain ⟨pv, hp, h2⟩ := List.mem_map.mp h1
  obtain ⟨t, rfl⟩ := stripE_eq h2.symm
  rw [SOk, Bool.and_eq_true, List.all_eq_true] at hk
  exact ⟨pv, hp, t, rfl, of_decide_eq_true (hk.1 pv hp)⟩
theorem SX.size {es : Array (Int × Value)} {st : SetSt} (h : es.toList.map stripE = st.1.map (fun pv => some (pv.2, pv.2))) : es.size = st.1.length := by
  have := congrArg List.length h
  simpa using this
theorem setT_fits {st : SetSt} {fg mv : Nat} {ld : Bool} (hk : SOk st = true) : (setT st fg ld mv).fits st.1.length = true := by
  rw [SOk, Bool.and_eq_true] at hk
  have h2 := of_decide_eq_true hk.2
  simp [SetTable.fits, setT, SetTable.fill]
  exact h2
noncomputable def memS (st : SetSt) (k : Int) : Bool := st.1.any fun pv => decide (pv.2 = k)
theorem SX.elems {es : Array (Int × Value)} {st : SetSt} (h : es.toList.map stripE = st.1.map (fun pv => some (pv.2, pv.2))) (hk : SOk st = true) : ElemsOf (intKind prog w) es.toList := by
  intro e he
  obtain ⟨pv, _, t, rfl, hb⟩ := SX.elem h hk e he
  exact ⟨⟨pv.2, intKind_is prog w _ _, (hashInt_small hb).symm⟩, rfl⟩
theorem SX.mem {es : Array (Int × Value)} {st : SetSt} (h : es.toList.map stripE = st.1.map (fun pv => some (pv.2, pv.2))) (hk : SOk st = true) (k : Int) :
    memS st k = true ↔ ∃ e ∈ es.toList, (intKind prog w).is k e.2 = true := by
  rw [memS, List.any_eq_true]
  constructor
  · rintro ⟨pv, hp, he⟩
    have he := of_decide_eq_true he
    have h1 : some (pv.2, pv.2) ∈ es.toList.map stripE := by rw [h]; exact List.mem_map.mpr ⟨pv, hp, rfl⟩
    obtain ⟨e, h2, h3⟩ := List.mem_map.mp h1
    obtain ⟨t, rfl⟩ := stripE_eq h3
    exact ⟨_, h2, by subst he; exact intKind_is prog w _ _⟩
  · rintro ⟨e, he, hi⟩
    obtain ⟨pv, hp, t, rfl, _⟩ := SX.elem h hk e he
    refine ⟨pv, hp, decide_eq_true ?_⟩
    exact (intKind prog w).inj _ _ _ (intKind_is prog w _ _) hi
theorem SX.obj {o : Obj} {st : SetSt} (h : SX w o st) (hk : SOk st = true) : o.SetObjOf (intKind prog w) (memS st) st.1.length := by
  obtain ⟨es, ep, fg, mv, rfl, h1⟩ := h
  exact ⟨⟨rfl, rfl, rfl⟩, es, ep, _, rfl, SX.elems h1 hk, SX.mem h1 hk, SX.size h1, by rw [SX.size h1]; exact setT_fits hk⟩
-- the table's search looks at places and dummies alone
theorem go_setT (st : SetSt) (fg mv : Nat) (ld : Bool) (f : Nat → Int) (h : Int) : ∀ (n : Nat) (pr : SetTable.Probe),
    SetTable.probe.go (setT st fg ld mv) f h n pr = SetTable.probe.go (setT st 0 true 0) f h n pr
  | 0, _ => rfl
  | n + 1, pr => by
    unfold SetTable.probe.go
    rw [show (setT st fg ld mv).slot pr.j = (setT st 0 true 0).slot pr.j from rfl]
    split
    · rfl
    · rw [go_setT st fg mv ld f h n]; rfl
    · split
      · rfl
      · rw [go_setT st fg mv ld f h n]; rfl
theorem free_setT (st : SetSt) (fg mv : Nat) (ld : Bool) (h : Int) : (setT st fg ld mv).freeSlot h = (setT st 0 true 0).freeSlot h := by
  unfold SetTable.freeSlot SetTable.probe
  rw [show (setT st fg ld mv).probeStart h = (setT st 0 true 0).probeStart h from rfl]
  rw [show SetTable.turns (setT st fg ld mv).mask = SetTable.turns (setT st 0 true 0).mask from rfl]
  rw [go_setT]
theorem insertAt_list {α : Type} (l : List α) (p : Nat) (x : α) : SetTable.insertAt l.toArray p x = (l.take p ++ x :: l.drop p).toArray := by
  unfold SetTable.insertAt
  apply Array.ext'
  simp only [List.extract_toArray, List.extract_eq_take_drop, List.drop_zero, Nat.sub_zero, List.push_toArray, List.append_toArray, List.size_toArray]
  rw [List.take_of_length_le (l := List.drop p l) (by simp)]
  simp
theorem eraseAt_list {α : Type} (l : List α) (p : Nat) : SetTable.eraseAt l.toArray p = (l.take p ++ l.drop (p + 1)).toArray := by
  unfold SetTable.eraseAt
  apply Array.ext'
  simp only [List.extract_toArray, List.extract_eq_take_drop, List.drop_zero, Nat.sub_zero, List.append_toArray, List.size_toArray]
  rw [List.take_of_length_le (l := List.drop (p + 1) l) (by simp)]
noncomputable def freeS (st : SetSt) (k : Int) : Option (Nat × Bool) := (setT st 0 true 0).freeSlot k
noncomputable def addX (st : SetSt) (k : Int) : SetSt :=
  match freeS st k with
  | some (j, _) =>
    (st.1.take (SetTable.below (st.1.map (·.1)).toArray j) ++ (j, k) :: st.1.drop (SetTable.below (st.1.map (·.1)).toArray j),
      (if SetTable.has st.2.toArray j then SetTable.eraseAt st.2.toArray (SetTable.below st.2.toArray j) else st.2.toArray).toList)
  | none => st
noncomputable def addOk (st : SetSt) (k : Int) : Bool :=
  (freeS st k).isSome && SOk st && SOk (addX st k) && decide (0 ≤ k ∧ k < 1000) && !(setT (addX st k) 0 true 0).tooFull
theorem layNew_setT {st : SetSt} {k : Int} {es : Array (Int × Value)} (fg mv : Nat) (ld : Bool) (t : Tok)
    (hm : es.toList.map stripE = st.1.map (fun pv => some (pv.2, pv.2))) (hok : addOk st k = true) :
    ∃ es1 wd, layNew (setT st fg ld mv) es k (.int k t) = (es1, setT (addX st k) fg ld mv, wd, false) ∧ es1.toList.map stripE = (addX st k).1.map (fun pv => some (pv.2, pv.2)) := by
  simp only [addOk, Bool.and_eq_true] at hok
  obtain ⟨⟨⟨⟨h1, h2⟩, h3⟩, _⟩, _⟩ := hok
  obtain ⟨⟨j, wd⟩, hf⟩ := Option.isSome_iff_exists.mp h1
  have hp : (setT st fg ld mv).put j = (setT (addX st k) fg ld mv, SetTable.below (st.1.map (·.1)).toArray j) := by
    simp only [SetTable.put, setT, addX, hf, insertAt_list, List.map_append, List.map_cons, List.map_take, List.map_drop, Array.toArray_toList]
    rfl
  have hes : SetTable.insertAt es (SetTable.below (st.1.map (·.1)).toArray j) (k, Value.int k t) = (es.toList.take (SetTable.below (st.1.map (·.1)).toArray j) ++ (k, Value.int k t) :: es.toList.drop (SetTable.below (st.1.map (·.1)).toArray j)).toArray := by
    have := insertAt_list es.toList (SetTable.below (st.1.map (·.1)).toArray j) (k, Value.int k t)
    simpa using this
  have hmm : (es.toList.take (SetTable.below (st.1.map (·.1)).toArray j) ++ (k, Value.int k t) :: es.toList.drop (SetTable.below (st.1.map (·.1)).toArray j)).map stripE = (addX st k).1.map (fun pv => some (pv.2, pv.2)) := by
    simp only [addX, hf, List.map_append, List.map_cons, List.map_take, List.map_drop, hm]
    rfl
  refine ⟨_, wd, ?_, hmm⟩
  unfold layNew
  rw [free_setT]
  rw [show (setT st 0 true 0).freeSlot k = some (j, wd) from hf]
  simp only [hp, hes]
  have hsz : (es.toList.take (SetTable.below (st.1.map (·.1)).toArray j) ++ (k, Value.int k t) :: es.toList.drop (SetTable.below (st.1.map (·.1)).toArray j)).toArray.size = (addX st k).1.length := SX.size hmm
  have hfit := setT_fits (fg := fg) (mv := mv) (ld := ld) h3
  rw [hsz]
  simp only [SetTable.orStandIn, hfit, if_true, Bool.not_true]
theorem sx_add_old {a : Addr} {o : Obj} {st : SetSt} {k : Int} {t : Tok} {Q : Bool → Shared → Prop} (ho : s.heap.get? a = some o) (hx : SX w o st) (hk : SOk st = true) (hin : memS st k = true) (hb : 0 ≤ k ∧ k < 1000)
    (h : Q false s) : wpAny (model prog w) A (setAddHashed a (.int k t) k) Q E s := by
  obtain ⟨es, ep, fg, mv, rfl, h1⟩ := hx
  have hel := SX.elems (prog := prog) (w := w) h1 hk
  have hfit : (setT st fg (ledOf w) mv).fits es.size = true := by rw [SX.size h1]; exact setT_fits hk
  have hlen : es.size < scanBound := by
    rw [SX.size h1]
    rw [SOk, Bool.and_eq_true] at hk
    have := of_decide_eq_true hk.2
    unfold scanBound; lia
  unfold setAddHashed setAddHashedIn
  refine wpAny_holding (wpAny_bind (wpAny_setState_of ho rfl hfit ?_))
  dsimp only
  rw [byScan_of (knd := intKind prog w) rfl hlen hel, if_pos rfl]
  unfold setAddByScan
  refine wpAny_bind (wpAny_bind (wpAny_rule (wpAny_bind ?_)))
  have hq := wpAny_setScan_of (A := A) (E := E) (knd := intKind prog w) (k := k) (x := Value.int k t) (adding := true) (Q := fun r s' => (∃ i, r = .found i) ∧ s' = s) (intKind_is prog w _ _) ho rfl hfit hel
  rw [show (intKind prog w).hash k = k from hashInt_small hb] at hq
  refine wpAny_mono (hq ?_) (fun r s' hr => ?_) fun _ _ e => e
  · obtain ⟨e, he, hi⟩ := (SX.mem (prog := prog) (w := w) h1 hk k).mp hin
    cases hfd : List.findIdx? (fun e => (intKind prog w).is k e.2) es.toList with
    | some j => exact ⟨⟨_, rfl⟩, rfl⟩
    | none =>
      have := List.findIdx?_eq_none_iff.mp hfd e he
      rw [hi] at this; exact Bool.noConfusion this
  · obtain ⟨⟨i, rfl⟩, rfl⟩ := hr
    exact wpAny_pure (wpAny_pure h)
theorem sx_add_new {a : Addr} {o : Obj} {st : SetSt} {k : Int} {t : Tok} {Q : Bool → Shared → Prop} (ho : s.heap.get? a = some o) (hx : SX w o st) (hok : addOk st k = true) (hin : memS st k = false)
    (h : ∀ h' o', Heap.SameBut a s.heap h' → h'.get? a = some o' → SX w o' (addX st k) → Q true { s with heap := h' }) : wpAny (model prog w) A (setAddHashed a (.int k t) k) Q E s := by
  obtain ⟨es, ep, fg, mv, rfl, h1⟩ := hx
  obtain ⟨es1, wd, hlay, hm1⟩ := layNew_setT fg mv (ledOf w) t h1 hok
  simp only [addOk, Bool.and_eq_true] at hok
  obtain ⟨⟨⟨⟨_, hk⟩, hk1⟩, hb⟩, htf⟩ := hok
  have hb := of_decide_eq_true hb
  have hel := SX.elems (prog := prog) (w := w) h1 hk
  have hfit : (setT st fg (ledOf w) mv).fits es.size = true := by rw [SX.size h1]; exact setT_fits hk
  have hlen : es.size < scanBound := by
    rw [SX.size h1]
    rw [SOk, Bool.and_eq_true] at hk
    have := of_decide_eq_true hk.2
    unfold scanBound; lia
  have hlen1 : es1.size < scanBound := by
    rw [SX.size hm1]
    rw [SOk, Bool.and_eq_true] at hk1
    have := of_decide_eq_true hk1.2
    unfold scanBound; lia
  unfold setAddHashed setAddHashedIn
  refine wpAny_holding (wpAny_bind (wpAny_setState_of ho rfl hfit ?_))
  dsimp only
  rw [byScan_of (knd := intKind prog w) rfl hlen hel, if_pos rfl]
  unfold setAddByScan
  refine wpAny_bind (wpAny_bind (wpAny_rule (wpAny_bind ?_)))
  have hq := wpAny_setScan_of (A := A) (E := E) (knd := intKind prog w) (k := k) (x := Value.int k t) (adding := true) (Q := fun r s' => r = .absent ∧ s' = s) (intKind_is prog w _ _) ho rfl hfit hel
  rw [show (intKind prog w).hash k = k from hashInt_small hb] at hq
  refine wpAny_mono (hq ?_) (fun r s' hr => ?_) fun _ _ e => e
  · cases hfd : List.findIdx? (fun e => (intKind prog w).is k e.2) es.toList with
    | some j =>
      obtain ⟨hj, hpj, _⟩ := List.findIdx?_eq_some_iff_getElem.mp hfd
      have := (SX.mem (prog := prog) (w := w) h1 hk k).mpr ⟨_, List.getElem_mem hj, hpj⟩
      rw [hin] at this; exact Bool.noConfusion this
    | none => exact ⟨rfl, rfl⟩
  · obtain ⟨rfl, rfl⟩ := hr
    dsimp only
    rw [hlay]
    dsimp only
    refine wpAny_bind (m := pure ()) (wpAny_pure ?_)
    rw [if_pos (show (setT (addX st k) fg (ledOf w) mv).plain = true from rfl), hashByValue_scannable 8 rfl]
    refine wpAny_bind (wpAny_pure ?_)
    simp only [if_pos (show plainKind (Value.int k t) = true from rfl)]
    refine wpAny_bind (wpAny_storeSet_of ho rfl ?_ (fits_of_scanBound hlen1))
    have ht : (setT (addX st k) fg (ledOf w) mv).tooFull = false := (show (setT (addX st k) 0 true 0).tooFull = false by simpa using htf)
    rw [ht, Bool.and_false, if_neg Bool.false_ne_true]
    refine wpAny_pure (wpAny_pure ?_)
    refine h _ _ (Heap.SameBut.update _ a _) (Heap.get?_update_self _ ho (by rw [putSet_of _ _ rfl]; rfl)) ?_
    rw [putSet_of _ _ rfl]
    exact ⟨es1, ep + 1, fg, mv, rfl, hm1⟩
theorem wpAny_choose' {src : Source} {n : Nat} (hn : n ≠ 0) {Q : Nat → Shared → Prop} (h : ∀ i, i < n → ∀ d, Q i { s with drawn := d }) : wpAny (model prog w) A (choose src n) Q E s :=
  fun Γ p _ => by
    show Sem.wp _ _ (Sem.choose src n .pure) _ _ _ _
    rw [Sem.wp_choose]
    exact ⟨hn, h _ (Nat.mod_lt _ (Nat.pos_of_ne_zero hn)) _⟩
noncomputable def popX (st : SetSt) (i : Nat) : SetSt :=
  (st.1.take i ++ st.1.drop (i + 1), (SetTable.insertAt st.2.toArray (SetTable.below st.2.toArray ((st.1.map (·.1)).getD i 0)) ((st.1.map (·.1)).getD i 0)).toList)
theorem sx_pop {a : Addr} {o : Obj} {st : SetSt} {Q : Option Value → Shared → Prop} (ho : s.heap.get? a = some o) (hx : SX w o st) (hk : SOk st = true) (hne : 0 < st.1.length)
    (h : ∀ i (hi : i < st.1.length) h' o' t d, Heap.SameBut a s.heap h' → h'.get? a = some o' → SX w o' (popX st i) → Q (some (.int (st.1[i]).2 t)) { s with heap := h', drawn := d }) :
    wpAny (model prog w) A (setPop a) Q E s := by
  obtain ⟨es, ep, fg, mv, rfl, h1⟩ := hx
  have hsz := SX.size h1
  have hfit : (setT st fg (ledOf w) mv).fits es.size = true := by rw [hsz]; exact setT_fits hk
  have hpl : (setT st fg (ledOf w) mv).place.size = st.1.length := by simp [setT]
  have hpp : ∃ b, (setT st fg (ledOf w) mv).popPlace = some b ∧ b < es.size := by
    unfold SetTable.popPlace
    have he : (setT st fg (ledOf w) mv).place.isEmpty = false := by
      cases hq : (setT st fg (ledOf w) mv).place.isEmpty with
      | false => rfl
      | true => rw [Array.isEmpty_iff_size_eq_zero] at hq; lia
    rw [he, if_neg Bool.false_ne_true]
    refine ⟨_, rfl, ?_⟩
    split <;> lia
  obtain ⟨b, hb, hlt⟩ := hpp
  have fin : ∀ i, i < es.size → ∀ d, wpAny (model prog w) A (do
      let some (_, x) := es[i]? | unsupported "internal:set.pop"
      storeSet a (SetTable.eraseAt es i) ((setT st fg (ledOf w) mv).popped i)
      return some x) Q E { s with drawn := d } := by
    intro i hi d
    have hi' : i < st.1.length := by lia
    have hel : es[i]? = some es[i] := by simp [hi]
    have hst : stripE es[i] = some ((st.1[i]).2, (st.1[i]).2) := by
      have := congrArg (fun l => l[i]?) h1
      simp only [List.getElem?_map, Array.getElem?_toList, hel, Option.map_some] at this
      rw [List.getElem?_eq_getElem hi'] at this
      simpa using this
    obtain ⟨t, ht⟩ := stripE_eq hst
    rw [hel, ht]
    dsimp only
    have her : SetTable.eraseAt es i = (es.toList.take i ++ es.toList.drop (i + 1)).toArray := by
      have := eraseAt_list es.toList i
      simpa using this
    have hpd : (setT st fg (ledOf w) mv).popped i = setT (popX st i) (((st.1.map (·.1)).toArray.getD i 0) + 1) (ledOf w) mv := by
      have hg : (st.1.map (·.1)).toArray[i]? = some ((st.1.map (·.1)).getD i 0) := by
        simp [hi']
      simp only [SetTable.popped, SetTable.drop, setT, popX, hg, eraseAt_list, List.map_append, List.map_take, List.map_drop, Array.toArray_toList]
    have hm1 : (es.toList.take i ++ es.toList.drop (i + 1)).map stripE = (popX st i).1.map (fun pv => some (pv.2, pv.2)) := by
      simp only [popX, List.map_append, List.map_take, List.map_drop, h1]
    rw [her, hpd]
    have hsz1 : (es.toList.take i ++ es.toList.drop (i + 1)).toArray.size ≤ sizeLine := by
      refine fits_of_scanBound ?_
      rw [SOk, Bool.and_eq_true] at hk
      have := of_decide_eq_true hk.2
      have := List.length_take_le i es.toList
      simp only [List.size_toArray, List.length_append, List.length_drop, Array.length_toList] at *
      unfold scanBound; lia
    refine wpAny_bind (wpAny_storeSet_of (s := { s with drawn := d }) ho rfl ?_ hsz1)
    refine wpAny_pure ?_
    refine h i hi' _ _ t d (Heap.SameBut.update _ a _) (Heap.get?_update_self _ ho (by rw [putSet_of _ _ rfl]; rfl)) ?_
    rw [putSet_of _ _ rfl]
    exact ⟨_, ep + 1, _, mv, rfl, hm1⟩
  unfold setPop
  refine wpAny_bind (wpAny_setState_of ho rfl hfit ?_)
  dsimp only
  rw [hb]
  dsimp only
  unfold setsByText
  refine wpAny_bind (wpAny_bind (wpAny_askSetting (wpAny_pure ?_)))
  split
  · refine wpAny_bind (wpAny_choose' (by lia) fun i hi d => fin i hi d)
  · rename_i hc
    have hbt : w.params.followText "set-order" = false := by
      cases hq : w.params.followText "set-order" with
      | false => rfl
      | true => exact absurd (by show (w.params.followText "set-order" || _) = true; rw [hq, Bool.true_or]) hc
    refine wpAny_bind ?_
    show wpAny _ _ (if (!(setT st fg (ledOf w) mv).led && decide (es.size > 1)) = true then unsupported "set:maker-not-led" else pure ()) _ _ _
    rw [if_neg (by show ¬ (!(ledOf w) && _) = true; rw [ledOf, hbt]; simp)]
    exact wpAny_pure (wpAny_bind (wpAny_pure (fin b hlt s.drawn)))
theorem noBool_set : typeLookup (.type "set") "__bool__" = pure none := by rw [typeLookup_type, builtinLookup_eq_fast]; kernel_rfl
theorem sx_truthy {a : Addr} {o : Obj} {st : SetSt} {Q : Bool → Shared → Prop} (ho : s.heap.get? a = some o) (hx : SX w o st) (hk : SOk st = true)
    (h : Q (!st.1.isEmpty) { s with toks := s.toks + 1 + 1 }) : wpAny (model prog w) A (truthy (.ref a)) Q E s := by
  obtain ⟨es, ep, fg, mv, rfl, h1⟩ := hx
  have hsz := SX.size h1
  have hfit : (setT st fg (ledOf w) mv).fits es.size = true := by rw [hsz]; exact setT_fits hk
  have hb : st.1.length ≤ 7 := by
    rw [SOk, Bool.and_eq_true] at hk
    have := of_decide_eq_true hk.2
    lia
  have hne : ((es.size : Int) != 0) = !st.1.isEmpty := by rw [hsz]; cases st.1 <;> simp <;> lia
  have hT : s.TypeIs (.ref a) "set" := ⟨_, ho, rfl⟩
  have key : wpAny (model prog w) A (runValue (.builtin "len" ⟨[.ref a], []⟩)) (fun r s' => r = .int es.size (s.toks + 1) ∧ Q (!st.1.isEmpty) s') E s := by
    refine wpAny_runValue (codeAny_builtin entry_len ?_)
    rw [Around.under_plainId plain_len _]
    exact wpAny_mono (wpAny_len_body_set (Q := fun r s' => r = .int es.size (s.toks + 1) ∧ Q (!st.1.isEmpty) s') ho ⟨rfl, rfl, rfl⟩ rfl hfit (by lia) ⟨rfl, h⟩)
      (fun fin s' h' => by obtain ⟨r, rfl, hq⟩ := h'; exact hq) fun _ _ e => e
  unfold truthy
  first
    | refine wpAny_bind (wpAny_callSpecial?_none (name := Str.ofString "__bool__") hT noBool_set ?_)
    | refine wpAny_bind (wpAny_pure (wpAny_bind (wpAny_callSpecial?_none (name := Str.ofString "__bool__") hT noBool_set ?_)))
  first
    | refine wpAny_bind (wpAny_specialOf (name := Str.ofString "__len__") hT F.slot_set_len.lookup ?_)
    | refine wpAny_bind (wpAny_pure (wpAny_bind (wpAny_specialOf (name := Str.ofString "__len__") hT F.slot_set_len.lookup ?_)))
  first
    | exact wpAny_bind (wpAny_mono key (fun r s' h' => by obtain ⟨rfl, hq⟩ := h'; exact wpAny_pure (hne ▸ hq)) fun _ _ e => e)
    | exact wpAny_bind (wpAny_pure (wpAny_bind (wpAny_mono key (fun r s' h' => by obtain ⟨rfl, hq⟩ := h'; exact wpAny_pure (hne ▸ hq)) fun _ _ e => e)))
theorem sx_call_pop {a : Addr} {o : Obj} {st : SetSt} {Q : Value → Shared → Prop} (ho : s.heap.get? a = some o) (hx : SX w o st) (hk : SOk st = true) (hne : 0 < st.1.length)
    (h : ∀ i (hi : i < st.1.length) h' o' t d, Heap.SameBut a s.heap h' → h'.get? a = some o' → SX w o' (popX st i) → Q (.int (st.1[i]).2 t) { s with heap := h', drawn := d }) :
    wpAny (model prog w) A (call (.builtin "set.pop") [.ref a]) Q E s := by
  have hT : s.TypeIs (.ref a) "set" := by obtain ⟨es, ep, fg, mv, rfl, _⟩ := hx; exact ⟨_, ho, rfl⟩
  refine wpAny_call_entry F.slot_set_pop hT F.entry_set_pop ?_ (F.args_set_pop_1 _)
  unfold Builtin.«set.pop» Builtin.Frozenset.noArgs
  simp only [List.isEmpty_nil, bind_assoc]
  unfold Builtin.Frozenset.addrOf
  refine wpAny_bind (wpAny_pure ?_)
  try dsimp only
  refine wpAny_bind (sx_pop ho hx hk hne fun i hi h' o' t d a1 a2 a3 => ?_)
  exact wpAny_pure ⟨_, rfl, h i hi h' o' t d a1 a2 a3⟩
theorem SX.typeIs {a : Addr} {o : Obj} {st : SetSt} (ho : s.heap.get? a = some o) (hx : SX w o st) : s.TypeIs (.ref a) "set" := by
  obtain ⟨es, ep, fg, mv, rfl, _⟩ := hx; exact ⟨_, ho, rfl⟩
theorem sx_call_add_new {a : Addr} {o : Obj} {st : SetSt} {k : Int} {t : Tok} {Q : Value → Shared → Prop} (ho : s.heap.get? a = some o) (hx : SX w o st) (hok : addOk st k = true) (hin : memS st k = false)
    (h : ∀ h' o', Heap.SameBut a s.heap h' → h'.get? a = some o' → SX w o' (addX st k) → Q .none { s with heap := h', toks := s.toks + 1 }) :
    wpAny (model prog w) A (call (.builtin "set.add") [.ref a, .int k t]) Q E s := by
  have hb : 0 ≤ k ∧ k < 1000 := by
    have := hok
    simp only [addOk, Bool.and_eq_true] at this
    exact of_decide_eq_true this.1.2
  refine wpAny_call_entry F.slot_set_add (SX.typeIs ho hx) F.entry_set_add ?_ (F.args_set_add_2 _ _)
  unfold Builtin.«set.add» Builtin.Frozenset.oneOther
  simp only [List.isEmpty_nil, bind_assoc]
  unfold Builtin.Frozenset.addrOf setAdd
  refine wpAny_bind (wpAny_pure ?_)
  try dsimp only
  refine wpAny_bind (wpAny_pure ?_)
  try dsimp only
  refine wpAny_bind (wpAny_holding (wpAny_bind ((intKind prog w).pyHash (intKind_is prog w k t) ?_)))
  rw [show (intKind prog w).hash k = k from hashInt_small hb]
  refine sx_add_new (s := { s with toks := s.toks + 1 }) ho hx hok hin fun h' o' a1 a2 a3 => ?_
  show wpAny _ _ (ret Value.none) _ _ _
  exact wpAny_pure ⟨_, rfl, h h' o' a1 a2 a3⟩
theorem sx_call_add_old {a : Addr} {o : Obj} {st : SetSt} {k : Int} {t : Tok} {Q : Value → Shared → Prop} (ho : s.heap.get? a = some o) (hx : SX w o st) (hk : SOk st = true) (hin : memS st k = true) (hb : 0 ≤ k ∧ k < 1000)
    (h : Q .none { s with toks := s.toks + 1 }) :
    wpAny (model prog w) A (call (.builtin "set.add") [.ref a, .int k t]) Q E s := by
  refine wpAny_call_entry F.slot_set_add (SX.typeIs ho hx) F.entry_set_add ?_ (F.args_set_add_2 _ _)
  unfold Builtin.«set.add» Builtin.Frozenset.oneOther
  simp only [List.isEmpty_nil, bind_assoc]
  unfold Builtin.Frozenset.addrOf setAdd
  refine wpAny_bind (wpAny_pure ?_)
  try dsimp only
  refine wpAny_bind (wpAny_pure ?_)
  try dsimp only
  refine wpAny_bind (wpAny_holding (wpAny_bind ((intKind prog w).pyHash (intKind_is prog w k t) ?_)))
  rw [show (intKind prog w).hash k = k from hashInt_small hb]
  refine sx_add_old (s := { s with toks := s.toks + 1 }) ho hx hk hin hb ?_
  show wpAny _ _ (ret Value.none) _ _ _
  exact wpAny_pure ⟨_, rfl, h⟩
theorem sx_newSet {Q : Value → Shared → Prop} (h : Q (.ref s.heap.objs.size) { s with heap := s.heap.push (setX #[] 0 (.fresh 0 0 (ledOf w))) }) :
    wpAny (model prog w) A (newSet (.type "set")) Q E s := by
  unfold newSet setsByText
  refine wpAny_bind (wpAny_bind (wpAny_askSetting (wpAny_pure ?_)))
  simp only [newObj]
  exact wpAny_bind (wpAny_alloc (wpAny_pure h))
theorem SX.fresh : SX w (setX #[] 0 (.fresh 0 0 (ledOf w))) ([], []) := ⟨#[], 0, 0, 0, rfl, rfl⟩
theorem codeNew {Q₁ : Value → Shared → Prop} (h : Q₁ (.ref s.heap.objs.size) { s with heap := s.heap.push (setX #[] 0 (.fresh 0 0 (ledOf w))) }) :
    codeAny (model prog w) A (.call (.builtin "set.__new__") ⟨[.type "set"], []⟩) (wants Q₁ E) s := by
  refine codeAny_of_tree ?_
  show wpAny _ A.in1 (do checkBuiltinCall "set.__new__" ⟨[.type "set"], []⟩; again (.builtin "set.__new__" ⟨[.type "set"], []⟩)) _ _ s
  refine wpAny_bind (wpAny_of_eq F.newCall_set_0 (wpAny_pure ⟨plainId_quiet F.plain_set_new _, codeAny_builtin F.entry_set_new ?_⟩))
  rw [Around.under_plainId F.plain_set_new _]
  unfold Builtin.«set.__new__» Builtin.Frozenset.newClass newSet setsByText
  have hsub := sub_set_self
  obtain ⟨hp, g, d, tk, os⟩ := s
  dsimp only
  wp_walk
  refine wpAny_askSetting (wpAny_pure ?_)
  dsimp only
  simp only [newObj]
  refine wpAny_bind (wpAny_alloc (wpAny_pure ?_))
  exact wpAny_pure h
set_option maxHeartbeats 1000000 in
theorem sx_call_set {Q : Value → Shared → Prop} (h : Q (.ref s.heap.objs.size) { s with heap := s.heap.push (setX #[] 0 (.fresh 0 0 (ledOf w))) }) :
    wpAny (model prog w) A (call (.type "set") []) Q E s := by
  obtain ⟨c, tl, hmro⟩ := F.called_set.mro
  have hmade := F.called_set.made
  have hsub := F.called_set.sub
  refine wpAny_call (codeAny_of_tree ?_)
  show wpAny _ _ (callAny (.type "set") _) _ _ _
  refine wpAny_pure ⟨Code.quiet_builtin _ (by decide +kernel), codeAny_builtin F.entry_type_call ?_⟩
  rw [Around.under_plain (weight_type_call_type "set" [] []) rfl]
  have h1 := F.called_set.notType
  have h2 := F.called_set.canCreate
  have hct := F.typeCall_set_0
  repeat (any_goals (first | assumption | wp_step))
  refine codeAny_mono (codeNew (E := E) (Q₁ := fun obj s₁ => obj = .ref s.heap.objs.size ∧ s₁ = { s with heap := s.heap.push (setX #[] 0 (.fresh 0 0 (ledOf w))) }) ⟨rfl, rfl⟩) fun r s₁ hr => ?_
  cases r with
  | error e => exact hr
  | ok fl =>
    cases fl with
    | ret obj =>
      obtain ⟨rfl, rfl⟩ := hr
      have hS : (s.heap.push (setX #[] 0 (.fresh 0 0 (ledOf w)))).get? s.heap.objs.size = some (setX #[] 0 (.fresh 0 0 (ledOf w))) := Heap.get?_push_size _ rfl
      have hT : Shared.TypeIs { s with heap := s.heap.push (setX #[] 0 (.fresh 0 0 (ledOf w))) } (.ref s.heap.objs.size) "set" := ⟨_, hS, rfl⟩
      have hli := F.called_set.init.lookup
      have hbi := F.called_set.init.bind (.ref s.heap.objs.size)
      repeat (any_goals (first | assumption | wp_step))
      refine codeAny_mono (codeAny_call_builtin (R := wants (fun r s₂ => r = .none ∧ Q (.ref s.heap.objs.size) s₂) E) F.called_set.init.plain F.entry_set_init (check_set_init hT ?_)) fun r₂ s₂ hr₂ => ?_
      · unfold Builtin.«set.__init__» noKeywords
        wp_walk
        exact ⟨rfl, h⟩
      · cases r₂ with
        | error e => exact hr₂
        | ok fl₂ =>
          cases fl₂ with
          | ret r =>
            obtain ⟨rfl, hq⟩ := hr₂
            repeat (any_goals (first | assumption | wp_step))
          | _ => exact hr₂.elim
    | _ => exact hr.elim
end
end
section
section
variable {prog : Program} {w : World} {A : Around} {E : Value → Shared → Prop} {s : Shared} {h₀ : Heap} {L sa : Addr} {m : Locals} {news : Led} {g : Obj → Led} {so : Obj} {st : SetSt} {k : Int} {t : Tok}
theorem sxl_new {Q : Value → Shared → Prop} (F : Fr h₀ L s.heap m) (N : News h₀ L s.heap news)
    (h : ∀ D h' o', Fr h₀ L h' m → News h₀ L h' ((D, o') :: news) → (∀ p ∈ news, p.1 < D) → SX w o' ([], []) → Q (.ref D) { s with heap := h' }) :
    wpAny (model prog w) A (call (.type "set") []) Q E s :=
  sx_call_set (h _ _ _ (F.push _) (News.push F N _ rfl) (fun p hp => Heap.lt_size (N p hp).1) SX.fresh)
theorem sxl_method {n : String} {pl : Sem Bool} {Q : Value × List Value → Shared → Prop} (N : News h₀ L s.heap news) (U : UpdF sa so news g) (hx : SX w so st)
    (hn : n = "add" ∨ n = "pop") (h : Q (.builtin (if n = "add" then "set.add" else "set.pop"), [.ref sa]) s) :
    wpAny (model prog w) A (getMethod (.ref sa) n pl) Q E s := by
  obtain ⟨pre, post, rfl, hg, a, b⟩ := U.split
  have hm := N (sa, so) (List.mem_append_right _ (.head _))
  have hT := SX.typeIs hm.1 hx
  have hnd : ∀ b, Value.ref sa = .ref b → ∃ ob, s.heap.get? b = some ob ∧ ob.dict = none := by
    intro b e
    injection e with e
    subst e
    obtain ⟨es, ep, fg, mv, rfl, _⟩ := hx
    exact ⟨_, hm.1, rfl⟩
  rcases hn with rfl | rfl
  · exact getMethod_builtin hT F.plainAttrs_set F.slot_set_add F.type_set_add hnd h
  · exact getMethod_builtin hT F.plainAttrs_set F.slot_set_pop F.type_set_pop hnd h
theorem sxl_m_add {pl : Sem Bool} {Q : Value × List Value → Shared → Prop} (N : News h₀ L s.heap news) (U : UpdF sa so news g) (hx : SX w so st) (h : Q (.builtin "set.add", [.ref sa]) s) :
    wpAny (model prog w) A (getMethod (.ref sa) "add" pl) Q E s := sxl_method N U hx (.inl rfl) h
theorem sxl_m_pop {pl : Sem Bool} {Q : Value × List Value → Shared → Prop} (N : News h₀ L s.heap news) (U : UpdF sa so news g) (hx : SX w so st) (h : Q (.builtin "set.pop", [.ref sa]) s) :
    wpAny (model prog w) A (getMethod (.ref sa) "pop" pl) Q E s := sxl_method N U hx (.inr rfl) h
theorem sxl_add_new {Q : Value → Shared → Prop} (F : Fr h₀ L s.heap m) (N : News h₀ L s.heap news) (U : UpdF sa so news g) (hx : SX w so st) (hok : addOk st k = true) (hin : memS st k = false)
    (h : ∀ h' so', Fr h₀ L h' m → News h₀ L h' (g so') → SX w so' (addX st k) → Q .none { s with heap := h', toks := s.toks + 1 }) :
    wpAny (model prog w) A (call (.builtin "set.add") [.ref sa, .int k t]) Q E s := by
  obtain ⟨pre, post, rfl, hg, a, b⟩ := U.split
  have hm := N (sa, so) (List.mem_append_right _ (.head _))
  exact sx_call_add_new hm.1 hx hok hin fun h' o' a1 a2 a3 => h h' o' (F.change a1 hm.2.1 hm.2.2) (hg o' ▸ N.setIn a b a1 a2) a3
theorem sxl_add_old {Q : Value → Shared → Prop} (N : News h₀ L s.heap news) (U : UpdF sa so news g) (hx : SX w so st) (hk : SOk st = true) (hin : memS st k = true) (hb : (decide (0 ≤ k ∧ k < 1000)) = true)
    (h : Q .none { s with toks := s.toks + 1 }) :
    wpAny (model prog w) A (call (.builtin "set.add") [.ref sa, .int k t]) Q E s := by
  obtain ⟨pre, post, rfl, hg, a, b⟩ := U.split
  have hm := N (sa, so) (List.mem_append_right _ (.head _))
  exact sx_call_add_old hm.1 hx hk hin (of_decide_eq_true hb) h
theorem sxl_setAdd {Q : Bool → Shared → Prop} (F : Fr h₀ L s.heap m) (N : News h₀ L s.heap news) (U : UpdF sa so news g) (hx : SX w so st) (hok : addOk st k = true) (hin : memS st k = false)
    (h : ∀ h' so', Fr h₀ L h' m → News h₀ L h' (g so') → SX w so' (addX st k) → Q true { s with heap := h', toks := s.toks + 1 }) :
    wpAny (model prog w) A (setAdd sa (.int k t)) Q E s := by
  obtain ⟨pre, post, rfl, hg, a, b⟩ := U.split
  have hm := N (sa, so) (List.mem_append_right _ (.head _))
  have hb : 0 ≤ k ∧ k < 1000 := by
    have := hok
    simp only [addOk, Bool.and_eq_true] at this
    exact of_decide_eq_true this.1.2
  unfold setAdd
  refine wpAny_holding (wpAny_bind ((intKind prog w).pyHash (intKind_is prog w k t) ?_))
  rw [show (intKind prog w).hash k = k from hashInt_small hb]
  exact sx_add_new (s := { s with toks := s.toks + 1 }) hm.1 hx hok hin fun h' o' a1 a2 a3 => h h' o' (F.change a1 hm.2.1 hm.2.2) (hg o' ▸ N.setIn a b a1 a2) a3
theorem sxl_in {Q : Value → Shared → Prop} (v : Bool) (N : News h₀ L s.heap news) (U : UpdF sa so news g) (hx : SX w so st) (hk : SOk st = true) (hin : memS st k = v)
    (h : Q (.bool v) { s with toks := s.toks + 1 }) :
    wpAny (model prog w) A (compareOp .In (.int k t) (.ref sa)) Q E s := by
  have hb : st.1.length < scanBound := by
    rw [SOk, Bool.and_eq_true] at hk
    have := of_decide_eq_true hk.2
    unfold scanBound; lia
  exact kse_in N U (SX.obj hx hk) hb (intKind_is prog w k t) rfl (by rw [hin]; exact h)
theorem sxl_truthy {Q : Bool → Shared → Prop} (v : Bool) (N : News h₀ L s.heap news) (U : UpdF sa so news g) (hx : SX w so st) (hk : SOk st = true) (hv : (!st.1.isEmpty) = v)
    (h : Q v { s with toks := s.toks + 1 + 1 }) : wpAny (model prog w) A (truthy (.ref sa)) Q E s := by
  obtain ⟨pre, post, rfl, hg, a, b⟩ := U.split
  have hm := N (sa, so) (List.mem_append_right _ (.head _))
  exact sx_truthy hm.1 hx hk (by rw [hv]; exact h)
theorem sx_core {b : Bool} {e : Sem Value} {Q : Value → Shared → Prop}
    (h : wpAny (model prog w) A (evalAll [e]) (fun vs s' => KdsFill (model prog w) A E false s.heap.objs.size Q vs s') E { s with heap := s.heap.push (setX #[] 0 (.fresh 0 0 (ledOf w))) }) :
    wpAny (model prog w) A (setDisplay .oneByOne b [(false, e)]) Q E s := by
  unfold setDisplay
  try dsimp only
  rw [if_neg (by decide)]
  refine wpAny_bind (sx_newSet ?_)
  dsimp only
  refine wpAny_bind (wpAny_holding ?_)
  refine wpAny_bind (wpAny_mono h (fun vs s' h' => ?_) fun _ _ x => x)
  refine wpAny_bind (wpAny_holding ?_)
  refine wpAny_bind (wpAny_mono (kds_for (fun x P s hx => ?_) vs s' h') (fun _ s1 h1 => ?_) fun _ _ x => x)
  · refine wpAny_bind (wpAny_mono hx (fun _ s2 h2 => ?_) fun _ _ x => x)
    first | exact wpAny_pure ⟨rfl, h2⟩ | exact wpAny_bind (wpAny_pure (wpAny_pure ⟨rfl, h2⟩))
  · have h2 : Q (.ref s.heap.objs.size) s1 := by simpa [KdsFill] using h1
    rw [if_neg (by decide)]
    refine wpAny_pure ?_
    show wpAny _ _ (do let _ ← forIn _ _ _; pure _) _ _ _
    rw [show List.drop _ [(false, e)] = [] from rfl, List.forIn_nil]
    exact wpAny_pure (wpAny_pure h2)
theorem sxl_eval {K : Frag} {e : PySem.Expr} {k : Nat} {pos : Pos} {env : Env} {Q : Value → Shared → Prop} (F : Fr h₀ L s.heap m) (N : News h₀ L s.heap news) (X : K.In h₀) (hc : kdsCode K env.code = true)
    (hroad : displayRoad k [e] = .oneByOne) (hp : kdsPlain e = true)
    (h : ∀ D h' o', Fr h₀ L h' m → News h₀ L h' ((D, o') :: news) → (∀ p ∈ news, p.1 < D) → SX w o' ([], []) →
      KdsAll (model prog w) A E env [e] (fun vs s' => KdsFill (model prog w) A E false D Q vs s') { s with heap := h' }) :
    wpAny (model prog w) A (eval (.Set [e] k pos) env) Q E s := by
  rw [arm_eval_Set]
  refine wpAny_bind (wpAny_standAt ?_)
  refine wpAny_bind (kds_main (X.keeps F.keep) hc fun b => ?_)
  rw [kds_star [e] (by simp [hp]), List.map_map, hroad, arm_evalEach_cons]
  refine sx_core ?_
  refine wpAny_mono (kds_all pos [e] _ _ (h _ _ _ (F.push _) (News.push F N _ rfl) (fun p hp => Heap.lt_size (N p hp).1) SX.fresh)) (fun _ _ x => x) fun _ _ x => x
end
end
section
namespace SI
open PySem.F
theorem owner : Manifest.owners.lookup (String.ofList ['r', 'o', 't', 'a', 'r', 'e', 't', 'i', '_', 't', 'e', 's'].reverse) = some Manifest.sig_set_iterator := by kernel_rfl
theorem slot_iter : Slot "set_iterator" "__iter__" "set_iterator.__iter__" :=
  .of (owner := "set_iterator") (n := "__iter__") (by rw [typeLookup_type, builtinLookup_eq_fast]; kernel_rfl) (by decide +kernel) (by decide +kernel) (by decide +kernel)
    (by first | exact .inl (by decide +kernel) | exact .inr (by decide +kernel)) (by rw [isSubtype_type]; kernel_rfl)
theorem slot_next : Slot "set_iterator" "__next__" "set_iterator.__next__" :=
  .of (owner := "set_iterator") (n := "__next__") (by rw [typeLookup_type, builtinLookup_eq_fast]; kernel_rfl) (by decide +kernel) (by decide +kernel) (by decide +kernel)
    (by first | exact .inl (by decide +kernel) | exact .inr (by decide +kernel)) (by rw [isSubtype_type]; kernel_rfl)
theorem entry_next : entryFor table "set_iterator.__next__" = some Builtin.«set_iterator.__next__» := entryFor_of_tree (by kernel_rfl)
theorem args_next (a : Value) : argsOk "set_iterator.__next__" ⟨[a], []⟩ := by
  unfold argsOk; rw [signature?_of (id := "set_iterator.__next__") (n := ['_', '_', 't', 'x', 'e', 'n', '_', '_']) (o := ['r', 'o', 't', 'a', 'r', 'e', 't', 'i', '_', 't', 'e', 's']) (by kernel_rfl) owner]; kernel_rfl
theorem args_iter (a : Value) : argsOk "set_iterator.__iter__" ⟨[a], []⟩ := by
  unfold argsOk; rw [signature?_of (id := "set_iterator.__iter__") (n := ['_', '_', 'r', 'e', 't', 'i', '_', '_']) (o := ['r', 'o', 't', 'a', 'r', 'e', 't', 'i', '_', 't', 'e', 's']) (by kernel_rfl) owner]; kernel_rfl
theorem entry_iter : entryFor table "set_iterator.__iter__" = some Builtin.«dict_keyiterator.__iter__» :=
  entryFor_alias (id' := "dict_keyiterator.__iter__") (by kernel_rfl) rfl (by decide +kernel) (by kernel_rfl)
theorem entry_set_iter : entryFor table "set.__iter__" = some Builtin.«frozenset.__iter__» :=
  entryFor_alias (id' := "frozenset.__iter__") (by kernel_rfl) rfl (by decide +kernel) (by kernel_rfl)
end SI
theorem pickGo_perm {α : Type} (next : Nat → Nat) : ∀ (n k : Nat) (left : List α) (out : Array α), left.length ≤ n → (pickOrder.go next n k left out).toList.Perm (out.toList ++ left)
  | 0, k, left, out, h => by
    have : left = [] := List.length_eq_zero_iff.mp (by lia)
    subst this
    unfold pickOrder.go
    simp
  | n + 1, k, left, out, h => by
    unfold pickOrder.go
    split
    · rename_i x hx
      have hlt : next k % left.length < left.length := by
        rcases Nat.lt_or_ge (next k % left.length) left.length with h | h
        · exact h
        · rw [List.getElem?_eq_none h] at hx; cases hx
      have ih := pickGo_perm next n (k + 1) (left.eraseIdx (next k % left.length)) (out.push x) (by rw [List.length_eraseIdx]; split <;> lia)
      refine ih.trans ?_
      rw [Array.toList_push, List.append_assoc]
      refine List.Perm.append_left _ ?_
      rw [List.getElem?_eq_getElem hlt] at hx
      cases hx
      have e1 : left.take (next k % left.length) ++ left[next k % left.length] :: left.drop (next k % left.length + 1) = left := by
        rw [List.getElem_cons_drop, List.take_append_drop]
      show List.Perm (left[next k % left.length] :: left.eraseIdx (next k % left.length)) left
      rw [List.eraseIdx_eq_take_drop_succ]
      exact (List.perm_middle.symm.trans (List.Perm.of_eq e1))
    · rename_i hx
      have : left = [] := by
        cases left with
        | nil => rfl
        | cons a r =>
          have := Nat.mod_lt (next k) (show (a :: r).length > 0 by simp)
          rw [List.getElem?_eq_getElem this] at hx
          cases hx
      subst this
      simp
theorem pick_perm {α : Type} (next : Nat → Nat) (xs : Array α) : (pickOrder next xs).toList.Perm xs.toList := by
  have := pickGo_perm next xs.size 0 xs.toList #[] (by simp)
  simpa [pickOrder] using this
section
variable {prog : Program} {w : World} {A : Around} {E : Value → Shared → Prop} {s : Shared}
noncomputable def plOk (st : SetSt) : Bool :=
  SetTable.below (st.1.map (·.1)).toArray 0 == 0 && (List.range st.1.length).all fun i => SetTable.below (st.1.map (·.1)).toArray ((st.1.map (·.1)).getD i 0 + 1) == i + 1
noncomputable def walkOf (w : World) (a ep : Nat) (es : Array (Int × Value)) : Array (Int × Value) := if w.params.followText "set-order" then pickOrder (w.params.setOrder a ep) es else es
theorem walkOf_perm (a ep : Nat) (es : Array (Int × Value)) : (walkOf w a ep es).toList.Perm es.toList := by
  unfold walkOf
  split
  · exact pick_perm _ _
  · exact List.Perm.refl _
noncomputable def itX (nx i a n ep : Nat) : Obj := { cls := .type "set_iterator", dict := none, data := .fields #[.int nx 0, .int i 0, .ref a, .int n 0, .int ep 0], slots := #[] }
structure SetWalk (w : World) (I a : Addr) (st : SetSt) (es : Array (Int × Value)) (ep fg mv : Nat) (i : Nat) (h : Heap) : Prop where
  set : h.get? a = some (setX es ep (setT st fg (ledOf w) mv))
  it : ∃ nx, h.get? I = some (itX nx i a es.size ep) ∧ (w.params.followText "set-order" = false → SetTable.below (st.1.map (·.1)).toArray nx = i)
theorem siNext {I a : Addr} {st : SetSt} {es : Array (Int × Value)} {ep fg mv nx i : Nat} {e : Int × Value} {Q : Option (Value × Nat) → Shared → Prop}
    (h1 : es.toList.map stripE = st.1.map (fun pv => some (pv.2, pv.2))) (hk : SOk st = true) (hp : plOk st = true)
    (hs : s.heap.get? a = some (setX es ep (setT st fg (ledOf w) mv))) (hnx : w.params.followText "set-order" = false → SetTable.below (st.1.map (·.1)).toArray nx = i) (he : (walkOf w a ep es)[i]? = some e)
    (h : ∀ nx', (w.params.followText "set-order" = false → SetTable.below (st.1.map (·.1)).toArray nx' = i + 1) → Q (some (e.2, nx')) s) :
    wpAny (model prog w) A (setNext a nx i ep) Q E s := by
  have hfit : (setT st fg (ledOf w) mv).fits es.size = true := by rw [SX.size h1]; exact setT_fits hk
  unfold setNext
  refine wpAny_bind (wpAny_setState_of hs rfl hfit ?_)
  dsimp only
  unfold setsByText
  refine wpAny_bind (wpAny_bind (wpAny_askSetting (wpAny_pure ?_)))
  dsimp only
  cases hb : w.params.followText "set-order" with
  | true =>
    have hb' : (model prog w).w.params.followText "set-order" = true := hb
    rw [if_pos hb', if_neg (by simp)]
    unfold setWalk setsByText
    refine wpAny_bind (wpAny_bind (wpAny_setState_of hs rfl hfit ?_))
    dsimp only
    refine wpAny_bind (wpAny_bind (wpAny_askSetting (wpAny_pure ?_)))
    rw [if_pos hb']
    refine wpAny_bind (wpAny_askSetting (wpAny_pure ?_))
    have hw : pickOrder (w.params.setOrder a ep) es = walkOf w a ep es := by unfold walkOf; rw [if_pos hb]
    show wpAny _ _ (pure (((pickOrder (w.params.setOrder a ep) es)[i]?).map fun e => (e.2, nx))) _ _ _
    rw [hw, he]
    exact wpAny_pure (h nx (fun hf => by rw [hb] at hf; cases hf))
  | false =>
    have hw : walkOf w a ep es = es := by unfold walkOf; rw [if_neg (by rw [hb]; exact Bool.false_ne_true)]
    rw [hw] at he
    have hb' : ¬ (model prog w).w.params.followText "set-order" = true := by rw [show (model prog w).w.params.followText "set-order" = false from hb]; exact Bool.false_ne_true
    rw [if_neg hb']
    split
    · rename_i hd
      exact absurd (show (!(setT st fg (ledOf w) mv).plain && decide (es.size > 1)) = true from hd) (by simp [setT])
    refine wpAny_bind ?_
    show wpAny _ _ (if (!(setT st fg (ledOf w) mv).led && _) = true then _ else pure ()) _ _ _
    rw [if_neg (by simp [setT, ledOf, hb])]
    refine wpAny_pure ?_
    rw [show (setT st fg (ledOf w) mv).place = (st.1.map (·.1)).toArray from rfl, hnx hb, he]
    have hlt : i < st.1.length := by
      rw [← SX.size h1]
      rcases Nat.lt_or_ge i es.size with q | q
      · exact q
      · rw [Array.getElem?_eq_none q] at he; cases he
    have hpl : ((st.1.map (·.1)).toArray)[i]? = some ((st.1.map (·.1)).getD i 0) := by simp [hlt]
    rw [hpl]
    refine wpAny_pure (h _ fun _ => ?_)
    rw [plOk, Bool.and_eq_true, List.all_eq_true] at hp
    have := hp.2 i (by simpa using hlt)
    exact eq_of_beq this
theorem siEnd {I a : Addr} {st : SetSt} {es : Array (Int × Value)} {ep fg mv nx i : Nat} {Q : Option (Value × Nat) → Shared → Prop}
    (h1 : es.toList.map stripE = st.1.map (fun pv => some (pv.2, pv.2))) (hk : SOk st = true)
    (hs : s.heap.get? a = some (setX es ep (setT st fg (ledOf w) mv))) (hnx : w.params.followText "set-order" = false → SetTable.below (st.1.map (·.1)).toArray nx = i) (he : (walkOf w a ep es)[i]? = none)
    (h : Q none s) :
    wpAny (model prog w) A (setNext a nx i ep) Q E s := by
  have hfit : (setT st fg (ledOf w) mv).fits es.size = true := by rw [SX.size h1]; exact setT_fits hk
  unfold setNext
  refine wpAny_bind (wpAny_setState_of hs rfl hfit ?_)
  dsimp only
  unfold setsByText
  refine wpAny_bind (wpAny_bind (wpAny_askSetting (wpAny_pure ?_)))
  dsimp only
  cases hb : w.params.followText "set-order" with
  | true =>
    have hb' : (model prog w).w.params.followText "set-order" = true := hb
    rw [if_pos hb', if_neg (by simp)]
    unfold setWalk setsByText
    refine wpAny_bind (wpAny_bind (wpAny_setState_of hs rfl hfit ?_))
    dsimp only
    refine wpAny_bind (wpAny_bind (wpAny_askSetting (wpAny_pure ?_)))
    rw [if_pos hb']
    refine wpAny_bind (wpAny_askSetting (wpAny_pure ?_))
    have hw : pickOrder (w.params.setOrder a ep) es = walkOf w a ep es := by unfold walkOf; rw [if_pos hb]
    show wpAny _ _ (pure (((pickOrder (w.params.setOrder a ep) es)[i]?).map fun e => (e.2, nx))) _ _ _
    rw [hw, he]
    exact wpAny_pure h
  | false =>
    have hw : walkOf w a ep es = es := by unfold walkOf; rw [if_neg (by rw [hb]; exact Bool.false_ne_true)]
    rw [hw] at he
    have hb' : ¬ (model prog w).w.params.followText "set-order" = true := by rw [show (model prog w).w.params.followText "set-order" = false from hb]; exact Bool.false_ne_true
    rw [if_neg hb']
    split
    · rename_i hd
      exact absurd (show (!(setT st fg (ledOf w) mv).plain && decide (es.size > 1)) = true from hd) (by simp [setT])
    refine wpAny_bind ?_
    show wpAny _ _ (if (!(setT st fg (ledOf w) mv).led && _) = true then _ else pure ()) _ _ _
    rw [if_neg (by simp [setT, ledOf, hb])]
    refine wpAny_pure ?_
    rw [show (setT st fg (ledOf w) mv).place = (st.1.map (·.1)).toArray from rfl, hnx hb, he]
    exact wpAny_pure h
end
end
section
section
variable {prog : Program} {w : World} {A : Around} {E : Value → Shared → Prop} {s : Shared}
theorem itX_type {I a : Addr} {nx i n ep : Nat} (h : s.heap.get? I = some (itX nx i a n ep)) : s.TypeIs (.ref I) "set_iterator" := ⟨_, h, rfl⟩
theorem si_pyNext {I a : Addr} {st : SetSt} {es : Array (Int × Value)} {ep fg mv i : Nat} {e : Int × Value} {Q : Option Value → Shared → Prop}
    (h1 : es.toList.map stripE = st.1.map (fun pv => some (pv.2, pv.2))) (hk : SOk st = true) (hp : plOk st = true) (hne : a ≠ I)
    (W : SetWalk w I a st es ep fg mv i s.heap) (he : (walkOf w a ep es)[i]? = some e)
    (h : ∀ h', SetWalk w I a st es ep fg mv (i + 1) h' → Heap.SameBut I s.heap h' → Q (some e.2) { s with heap := h' }) :
    wpAny (model prog w) A (pyNext (.ref I)) Q E s := by
  obtain ⟨hs, nx, hI, hnx⟩ := W
  have hT := itX_type hI
  have hfit : (setT st fg (ledOf w) mv).fits es.size = true := by rw [SX.size h1]; exact setT_fits hk
  unfold pyNext
  refine wpAny_bind (wpAny_attempt (wpAny_callSpecial?_slot (name := Str.ofString "__next__") hT SI.slot_next
    (wpAny_call_entry SI.slot_next hT SI.entry_next ?_ (SI.args_next _))))
  unfold Builtin.«set_iterator.__next__»
  refine wpAny_bind (m := slotArgs "__next__" 0 _) (wpAny_pure ?_)
  refine wpAny_bind (wpAny_fieldsOf hI rfl ?_)
  dsimp only
  refine wpAny_bind (wpAny_setEntries_of hs rfl hfit ?_)
  rw [if_neg (by simp)]
  refine wpAny_bind (m := setNext a nx i ep) (siNext (I := I) h1 hk hp hs hnx he fun nx' hnx' => ?_)
  dsimp only
  refine wpAny_bind (wpAny_setField hI rfl (by simp) ?_)
  have hI1 : (s.heap.update I (Obj.mapFields (·.setIfInBounds 0 (rawInt nx')))).get? I = some (itX nx' i a es.size ep) := Heap.get?_update_self _ hI rfl
  refine wpAny_bind (wpAny_setField (s := { s with heap := s.heap.update I (Obj.mapFields (·.setIfInBounds 0 (rawInt nx'))) }) hI1 rfl (by simp) ?_)
  have hI2 : ((s.heap.update I (Obj.mapFields (·.setIfInBounds 0 (rawInt nx')))).update I (Obj.mapFields (·.setIfInBounds 1 (rawInt ((i : Int) + 1))))).get? I = some (itX nx' (i + 1) a es.size ep) := Heap.get?_update_self _ hI1 rfl
  have hsb : Heap.SameBut I s.heap ((s.heap.update I (Obj.mapFields (·.setIfInBounds 0 (rawInt nx')))).update I (Obj.mapFields (·.setIfInBounds 1 (rawInt ((i : Int) + 1))))) := (Heap.SameBut.update ..).trans (Heap.SameBut.update ..)
  refine wpAny_pure ⟨_, rfl, wpAny_pure (h _ ⟨?_, nx', hI2, hnx'⟩ hsb)⟩
  exact hsb.extBut _ _ hne hs
theorem si_pyEnd {I a : Addr} {st : SetSt} {es : Array (Int × Value)} {ep fg mv i : Nat} {Q : Option Value → Shared → Prop} (hh : A.handled = none)
    (h1 : es.toList.map stripE = st.1.map (fun pv => some (pv.2, pv.2))) (hk : SOk st = true)
    (W : SetWalk w I a st es ep fg mv i s.heap) (he : (walkOf w a ep es)[i]? = none)
    (h : ∀ h', Heap.ExtBut I s.heap h' → Q none { s with heap := h' }) :
    wpAny (model prog w) A (pyNext (.ref I)) Q E s := by
  obtain ⟨hs, nx, hI, hnx⟩ := W
  have hT := itX_type hI
  have hfit : (setT st fg (ledOf w) mv).fits es.size = true := by rw [SX.size h1]; exact setT_fits hk
  unfold pyNext
  refine wpAny_bind (wpAny_attempt (wpAny_callSpecial?_slot (name := Str.ofString "__next__") hT SI.slot_next
    (wpAny_call_entry SI.slot_next hT SI.entry_next ?_ (SI.args_next _))))
  unfold Builtin.«set_iterator.__next__»
  refine wpAny_bind (m := slotArgs "__next__" 0 _) (wpAny_pure ?_)
  refine wpAny_bind (wpAny_fieldsOf hI rfl ?_)
  dsimp only
  refine wpAny_bind (wpAny_setEntries_of hs rfl hfit ?_)
  rw [if_neg (by simp)]
  refine wpAny_bind (m := setNext a nx i ep) (siEnd (I := I) h1 hk hs hnx he ?_)
  dsimp only
  refine wpAny_bind (wpAny_setField hI rfl (by simp) ?_)
  show wpAny _ _ (newExc (.type "StopIteration") [] >>= _) _ _ _
  refine wpAny_bind ?_
  simp only [newExc, newTuple]
  refine wpAny_bind (wpAny_newObj_type ?_ (by size_fits))
  refine wpAny_bind (m := firstArgMember _ _) (wpAny_of_eq (a := Value.none) (by first | rfl | (simp only [firstArgMember]; rfl)) ?_)
  refine wpAny_newObj_type ?_ (by size_fits)
  simp only [raiseNew]
  refine wpAny_bind (wpAny_handled ?_)
  rw [show A.in1.handled = none from hh]
  refine wpAny_bind (wpAny_pure (wpAny_throw ?_))
  refine wpAny_bind (wpAny_isInstance (T := "StopIteration") (b := true) ⟨_, Heap.get?_push_size _ rfl, rfl⟩ isSubtype_stop ?_)
  exact wpAny_pure (h _ (((Heap.SameBut.update ..).extBut.push _).push _))
theorem si_self {I a : Addr} {nx i n ep : Nat} {Q : Value → Shared → Prop} (hI : s.heap.get? I = some (itX nx i a n ep)) (h : Q (.ref I) s) : wpAny (model prog w) A (pyIter (.ref I)) Q E s := by
  have hT := itX_type hI
  refine wpAny_pyIter_slot hT SI.slot_iter (wpAny_call_entry SI.slot_iter hT SI.entry_iter ?_ (SI.args_iter _))
  show wpAny _ _ (ret (.ref I)) _ _ s
  exact wpAny_pure ⟨_, rfl, "set_iterator", _, hT, SI.slot_next.lookup, h⟩
theorem SetWalk.at {I a : Addr} {st : SetSt} {es : Array (Int × Value)} {ep fg mv i : Nat} {h h' : Heap} (W : SetWalk w I a st es ep fg mv i h)
    (k : ∀ b ∈ [I, a], ∀ o, h.get? b = some o → h'.get? b = some o) : SetWalk w I a st es ep fg mv i h' := by
  obtain ⟨hs, nx, hI, hnx⟩ := W
  exact ⟨k a (by simp) _ hs, nx, k I (by simp) _ hI, hnx⟩
theorem setWalks (hh : A.handled = none) (I a : Addr) (hne : a ≠ I) {st : SetSt} {es : Array (Int × Value)} (ep fg mv : Nat)
    (h1 : es.toList.map stripE = st.1.map (fun pv => some (pv.2, pv.2))) (hk : SOk st = true) (hp : plOk st = true) :
    Walks prog w A I [I, a] [I] es.size (fun i v => ∃ e, (walkOf w a ep es)[i]? = some e ∧ v = e.2) (fun i h => SetWalk w I a st es ep fg mv i h) where
  sub := fun b hb => by simp at hb; simp [hb]
  frame := fun _ _ _ W hk => W.at hk
  item := fun i s Q E hi W hQ => by
    have hsz : (walkOf w a ep es).size = es.size := by
      have := (walkOf_perm (w := w) a ep es).length_eq
      simpa using this
    have he : (walkOf w a ep es)[i]? = some ((walkOf w a ep es)[i]'(by lia)) := by simp [hsz, hi]
    exact si_pyNext h1 hk hp hne W he fun h' W' hs' => hQ _ h' s.toks ⟨_, he, rfl⟩ W' fun b o hb e => hs'.extBut b o (fun h => hb (by simp [h])) e
  done := fun s Q E W hQ => by
    have hsz : (walkOf w a ep es).size = es.size := by
      have := (walkOf_perm (w := w) a ep es).length_eq
      simpa using this
    exact si_pyEnd hh h1 hk W (by simp [hsz]) fun h' he' => hQ h' s.toks fun b o hb e => he' b o (fun h => hb (by simp [h])) e
  self := fun _ _ _ _ W hQ => by
    obtain ⟨hs, nx, hI, hnx⟩ := W
    exact si_self hI hQ
end
end
section
section
variable {prog : Program} {w : World} {A : Around} {E : Value → Shared → Prop} {s : Shared} {h₀ : Heap} {L sa : Addr} {m : Locals} {news : Led} {g : Obj → Led} {so : Obj} {st : SetSt} {k : Int} {t : Tok}
theorem ints_of_entries : ∀ l : List (Int × Value), (∀ e ∈ l, ∃ v t, e = (v, Value.int v t)) → ∃ ns, IntsAre (l.map (·.2)) ns ∧ l.map stripE = ns.map (fun v => some (v, v))
  | [], _ => ⟨[], .nil, rfl⟩
  | e :: l, h => by
    obtain ⟨v, t, rfl⟩ := h e (List.mem_cons_self ..)
    obtain ⟨ns, a, b⟩ := ints_of_entries l (fun x hx => h x (List.mem_cons_of_mem _ hx))
    exact ⟨v :: ns, .cons v t a, by rw [List.map_cons, List.map_cons, b]; rfl⟩
theorem sx_iter {a : Addr} {es : Array (Int × Value)} {ep fg mv : Nat} {Q : Value → Shared → Prop}
    (h1 : es.toList.map stripE = st.1.map (fun pv => some (pv.2, pv.2))) (hk : SOk st = true)
    (hs : s.heap.get? a = some (setX es ep (setT st fg (ledOf w) mv)))
    (h : Q (.ref s.heap.objs.size) { s with heap := s.heap.push (itX 0 0 a es.size ep) }) : wpAny (model prog w) A (pyIter (.ref a)) Q E s := by
  have hfit : (setT st fg (ledOf w) mv).fits es.size = true := by rw [SX.size h1]; exact setT_fits hk
  have hT : s.TypeIs (.ref a) "set" := ⟨_, hs, rfl⟩
  refine wpAny_pyIter_slot hT F.slot_set_iter (wpAny_call_entry F.slot_set_iter hT SI.entry_set_iter ?_ (F.args_set_iter_1 _))
  unfold Builtin.«frozenset.__iter__» Builtin.Frozenset.slot0 slotArgs
  simp only [List.isEmpty_nil, Bool.not_true, Bool.false_eq_true, ↓reduceIte, bind_assoc, List.length_nil, bne_self_eq_false]
  unfold Builtin.Frozenset.addrOf Builtin.Frozenset.sizeOf
  refine wpAny_bind (wpAny_pure ?_)
  try dsimp only
  refine wpAny_bind (wpAny_pure ?_)
  try dsimp only
  refine wpAny_bind (wpAny_bind (wpAny_setEntries_of hs rfl hfit (wpAny_pure ?_)))
  unfold setDrawn setsByText
  refine wpAny_bind (wpAny_bind (wpAny_setState_of hs rfl hfit ?_))
  dsimp only
  refine wpAny_bind (wpAny_bind (wpAny_askSetting (wpAny_pure ?_)))
  refine wpAny_pure ?_
  split
  · rename_i hd
    exact absurd (show ((!(w.params.followText "set-order")) && (!(setT st fg (ledOf w) mv).plain && decide (es.size > 1))) = true from hd) (by simp [setT])
  refine wpAny_bind (wpAny_pure ?_)
  unfold setEpoch
  refine wpAny_bind (wpAny_bind (wpAny_setState_of hs rfl hfit (wpAny_pure ?_)))
  refine wpAny_bind (wpAny_newObj_type (wpAny_pure ⟨_, rfl, "set_iterator", _, ⟨_, Heap.get?_push_size _ rfl, rfl⟩, SI.slot_next.lookup, ?_⟩))
  exact h
theorem sx_collect {a : Addr} {o : Obj} {Q : List Value → Shared → Prop} (hh : A.handled = none) (ho : s.heap.get? a = some o) (hx : SX w o st) (hk : SOk st = true) (hp : plOk st = true)
    (h : ∀ s' vs ns, s'.gens = s.gens ∧ s'.os = s.os → (∀ b o, s.heap.get? b = some o → s'.heap.get? b = some o) → s.heap.objs.size ≤ s'.heap.objs.size → IntsAre vs ns → ns.Perm (st.1.map (·.2)) → Q vs s') :
    wpAny (model prog w) A (collect (.ref a)) Q E s := by
  obtain ⟨es, ep, fg, mv, rfl, h1⟩ := hx
  have ha : a < s.heap.objs.size := Heap.lt_size ho
  unfold collect
  refine wpAny_bind (wpAny_runValue (codeAny_builtin F.entry_proto_collect ?_))
  rw [Around.under_plainId F.plain_proto_collect _]
  show wpAny _ A.in1 (newList [] >>= fun l => again (.builtin "list.__iadd__" ⟨[l, .ref a], []⟩)) _ _ s
  refine wpAny_bind (wpAny_newObj_type ?_)
  refine wpAny_pure ⟨plainId_quiet F.plain_list_iadd _, codeAny_builtin F.entry_list_iadd ?_⟩
  rw [Around.under_plainId F.plain_list_iadd _]
  have hS₁ : (s.heap.push { cls := .type "list", data := .seq ([] : List Value).toArray }).get? s.heap.objs.size = some { cls := .type "list", data := .seq ([] : List Value).toArray } := Heap.get?_push_size _ rfl
  have ho₁ : (s.heap.push { cls := .type "list", data := .seq ([] : List Value).toArray }).get? a = some (setX es ep (setT st fg (ledOf w) mv)) := Heap.get?_push_of_some _ ho
  have hT₁ : Shared.TypeIs { s with heap := s.heap.push { cls := .type "list", data := .seq ([] : List Value).toArray } } (.ref a) "set" := ⟨_, ho₁, rfl⟩
  have hSa : s.heap.objs.size ≠ a := Nat.ne_of_gt ha
  have h1' : Builtin.List.listSameRef (.ref s.heap.objs.size) (.ref a) = false := by simp [Builtin.List.listSameRef, hSa]
  show wpAny _ A.in1 (Builtin.List.listExtendWith (.ref s.heap.objs.size) (.ref a) (.ref s.heap.objs.size)) _ _ _
  unfold Builtin.List.listExtendWith
  refine wpAny_bind (wpAny_typeOf hT₁ ?_)
  rw [if_neg (by rw [h1']; decide)]
  refine wpAny_bind (sx_iter h1 hk ho₁ ?_)
  refine wpAny_bind (wpAny_holding ?_)
  have ho₂ : ((s.heap.push { cls := .type "list", data := .seq ([] : List Value).toArray }).push (itX 0 0 a es.size ep)).get? a = some (setX es ep (setT st fg (ledOf w) mv)) := Heap.get?_push_of_some _ ho₁
  have hT₂ : Shared.TypeIs { s with heap := (s.heap.push { cls := .type "list", data := .seq ([] : List Value).toArray }).push (itX 0 0 a es.size ep) } (.ref a) "set" := ⟨_, ho₂, rfl⟩
  unfold Builtin.List.listLengthHint
  refine wpAny_bind (wpAny_specialOf (name := Str.ofString "__len__") hT₂ F.slot_set_len.lookup ?_)
  (generalize hid : ("set.__len__" : String) = id0; wp_delta; rw [show splitId id0 = some ("set", "__len__") from by subst hid; decide +kernel]; subst hid)
  refine wpAny_bind (wpAny_isInstance (b := true) hT₂ sub_set_self ?_)
  rw [if_neg (by decide)]
  dsimp only
  rw [if_pos (by decide +kernel)]
  refine wpAny_bind (wpAny_typeOf hT₂ ?_)
  refine wpAny_pure ?_
  rw [if_pos (by decide +kernel)]
  refine wpAny_bind (wpAny_rule ?_)
  unfold Builtin.List.listTouch
  have hS₂ : ((s.heap.push { cls := .type "list", data := .seq ([] : List Value).toArray }).push (itX 0 0 a es.size ep)).get? s.heap.objs.size = some { cls := .type "list", data := .seq ([] : List Value).toArray } := Heap.get?_push_of_some _ hS₁
  refine wpAny_bind (wpAny_bind (listUpdate_at hS₂ rfl ?_ (Nat.zero_le _) (by decide)))
  generalize hH3 : Heap.update _ _ _ = H3
  obtain ⟨c3, hS₃⟩ : ∃ c3, H3.get? s.heap.objs.size = some { cls := .type "list", data := .seq #[.none] c3 } := by
    rw [← hH3]; exact ⟨_, get?_update_seq hS₂ _⟩
  refine listUpdate_at (s := { s with heap := H3 }) hS₃ rfl ?_ (by decide) (by decide)
  generalize hH4 : Heap.update _ _ _ = H4
  obtain ⟨c4, hS₄⟩ : ∃ c4, H4.get? s.heap.objs.size = some { cls := .type "list", data := .seq #[] c4 } := by
    rw [← hH4]; exact ⟨_, get?_update_seq hS₃ _⟩
  have hsz1 : (s.heap.push { cls := .type "list", data := .seq ([] : List Value).toArray }).objs.size = s.heap.objs.size + 1 := size_push' _ _
  have hk4 : ∀ b o, b ≠ s.heap.objs.size → ((s.heap.push { cls := .type "list", data := .seq ([] : List Value).toArray }).push (itX 0 0 a es.size ep)).get? b = some o → H4.get? b = some o := by
    intro b o hb e
    rw [← hH4, Heap.get?_update_ne _ _ _ _ hb, ← hH3, Heap.get?_update_ne _ _ _ _ hb]
    exact e
  have hI4 : H4.get? (s.heap.objs.size + 1) = some (itX 0 0 a es.size ep) := by
    refine hk4 _ _ (by lia) ?_
    rw [← hsz1]
    exact Heap.get?_push_size _ rfl
  have hne : a ≠ s.heap.objs.size + 1 := Nat.ne_of_lt (Nat.lt_succ_of_lt ha)
  have hn : es.size ≤ sizeLine := fits_of_scanBound (by
    rw [SX.size h1]
    rw [SOk, Bool.and_eq_true] at hk
    have := of_decide_eq_true hk.2
    unfold scanBound; lia)
  have W := (setWalks (prog := prog) (w := w) (A := A.in1) hh (s.heap.objs.size + 1) a hne ep fg mv h1 hk hp).toS
  have hst : SetWalk w (s.heap.objs.size + 1) a st es ep fg mv 0 H4 := ⟨hk4 _ _ hSa.symm ho₂, 0, hI4, fun _ => by
    rw [plOk, Bool.and_eq_true] at hp
    exact eq_of_beq hp.1⟩
  rw [hsz1]
  refine wpAny_pure ⟨plainId_quiet F.plain_extend_loop _, codeAny_extend_loopS W hn _ (by simp; lia) _ es.size 0 { s with heap := H4 } _ _ rfl (Nat.zero_le _) hst hS₄ (ItemsOf.nil _) fun s' acc' c' hm hS' hacc => ?_⟩
  show wpAny _ A (load s.heap.objs.size >>= _) _ _ s'
  refine wpAny_bind (wpAny_load hS' ?_)
  refine wpAny_pure ?_
  have hWp := walkOf_perm (w := w) a ep es
  have hacc2 : acc'.toList = (walkOf w a ep es).toList.map (·.2) := by
    refine List.ext_getElem? fun j => ?_
    have hWs : (walkOf w a ep es).size = es.size := by have := hWp.length_eq; simpa using this
    rcases Nat.lt_or_ge j acc'.size with hj | hj
    · obtain ⟨e, he, hv⟩ := hacc.2 j acc'[j] (by simp [hj])
      rw [List.getElem?_map, Array.getElem?_toList, Array.getElem?_toList, he]
      simp [hj, hv]
    · rw [List.getElem?_eq_none (by simpa using hj), List.getElem?_eq_none (by simp; rw [hWs, ← hacc.1]; exact hj)]
  obtain ⟨ns, a1, a2⟩ := ints_of_entries (walkOf w a ep es).toList (fun e he => by
    obtain ⟨pv, _, t, e1, _⟩ := SX.elem h1 hk e (hWp.mem_iff.mp he)
    exact ⟨_, t, e1⟩)
  refine h _ _ ns ⟨hm.gens, hm.os⟩ (fun b o' hb => ?_) ?_ (hacc2 ▸ a1) ?_
  · have hbl : b < s.heap.objs.size := Heap.lt_size hb
    refine hm.heap b o' (by simp; exact ⟨Nat.ne_of_lt hbl, Nat.ne_of_lt (Nat.lt_succ_of_lt hbl)⟩) ?_
    refine hk4 _ _ (Nat.ne_of_lt hbl) ?_
    exact Heap.get?_push_of_some _ (Heap.get?_push_of_some _ hb)
  · exact Nat.le_of_lt (Heap.lt_size hS')
  · have p := (hWp.map stripE).trans (List.Perm.of_eq h1)
    rw [a2] at p
    have p2 := p.map (fun x : Option (Int × Int) => (x.getD (0, 0)).1)
    simpa [List.map_map, Function.comp_def] using p2
theorem sx_sorted {a : Addr} {o : Obj} {Q : Value → Shared → Prop} (ns : List Int) (hh : A.handled = none) (ho : s.heap.get? a = some o) (hx : SX w o st) (hk : SOk st = true) (hp : plOk st = true)
    (hs : ns.Pairwise (· ≤ ·)) (hn : ns.Perm (st.1.map (·.2)))
    (h : ∀ s' D vs e, s'.gens = s.gens ∧ s'.os = s.os → (∀ b o, s.heap.get? b = some o → s'.heap.get? b = some o) → s.heap.objs.size ≤ D → s'.heap.get? D = some { cls := .type "list", data := .seq vs.toArray e } → IntsAre vs ns → Q (.ref D) s') :
    wpAny (model prog w) A (call (.builtin "sorted") [.ref a]) Q E s := by
  have hlen : st.1.length < 64 := by
    rw [SOk, Bool.and_eq_true] at hk
    have := of_decide_eq_true hk.2
    lia
  refine Calls.call_function_entry kind_sorted plain_sorted entry_sorted (args_sorted1 _) ?_
  unfold Builtin.«sorted»
  refine wpAny_bind (m := checkCount "sorted" 1 1 _) (wpAny_pure ?_)
  refine wpAny_bind (sx_collect hh ho hx hk hp fun s' vs ns0 kgo k1 k2 hi hpm => ?_)
  have hvl : vs.length < 64 := by
    have h1 := IntsAre.length hi
    have h2 := hpm.length_eq
    rw [List.length_map] at h2
    lia
  refine wpAny_bind (wpAny_newList ?_)
  have hoL : (s'.heap.push (seqObj "list" vs.toArray 0)).get? s'.heap.objs.size = some (seqObj "list" vs.toArray 0) := Heap.get?_push_size _ rfl
  show wpAny _ _ _ _ _ { s' with heap := s'.heap.push (seqObj "list" vs.toArray 0) }
  refine wpAny_bind (wpAny_holding (wpAny_call_entry slot_list_sort ⟨_, hoL, rfl⟩ entry_list_sort (list_sort_tree (s := { s' with heap := s'.heap.push (seqObj "list" vs.toArray 0) }) hoL hi hvl fun out ns' b1 b2 b3 => ⟨_, rfl, ?_⟩) (args_list_sort _)))
  refine wpAny_pure ⟨_, rfl, ?_⟩
  obtain ⟨e, he⟩ := sortedHeap_at (out := out) hoL
  have hu : ns' = ns := lks_uniq ((b2.trans hpm).trans hn.symm) b3 hs
  subst hu
  refine h _ _ out.toList e kgo (fun b o hb => ?_) k2 (by simpa using he) b1
  have hb' := k1 b o hb
  have hlt := Heap.lt_size hb'
  rw [sortedHeap_old (Nat.ne_of_lt hlt) (by rw [size_push']; exact Nat.lt_succ_of_lt hlt), Heap.get?_push_ne _ _ _ (Nat.ne_of_lt hlt)]
  exact hb'
theorem sxl_sorted {Q : Value → Shared → Prop} (ns : List Int) (hh : A.handled = none) (F : Fr h₀ L s.heap m) (N : News h₀ L s.heap news) (U : UpdF sa so news g) (hx : SX w so st) (hk : (SOk st && plOk st) = true)
    (hs : (decide (ns.Pairwise (· ≤ ·)) && ns.isPerm (st.1.map (·.2))) = true)
    (h : ∀ s' D vs e, s'.gens = s.gens ∧ s'.os = s.os → Fr h₀ L s'.heap m → News h₀ L s'.heap ((D, { cls := .type "list", data := .seq vs.toArray e }) :: news) → (∀ p ∈ news, p.1 < D) → IntsAre vs ns → Q (.ref D) s') :
    wpAny (model prog w) A (call (.builtin "sorted") [.ref sa]) Q E s := by
  obtain ⟨pre, post, rfl, hg, a, b⟩ := U.split
  have hm := N (sa, so) (List.mem_append_right _ (.head _))
  rw [Bool.and_eq_true] at hk hs
  refine sx_sorted ns hh hm.1 hx hk.1 hk.2 (of_decide_eq_true hs.1) (List.isPerm_iff.mp hs.2) fun s' D vs e kgo k1 k2 hD hi => ?_
  exact h s' D vs e kgo (F.kept k1) (N.kept_cons F k1 k2 hD) (fun p hp => Nat.lt_of_lt_of_le (Heap.lt_size (N p hp).1) k2) hi
theorem ints2 {vs : List Value} {a b : Int} (h : IntsAre vs [a, b]) : ∃ t u, vs = [.int a t, .int b u] := by
  obtain _ | ⟨_, t, h⟩ := h
  obtain _ | ⟨_, u, h⟩ := h
  cases h
  exact ⟨t, u, rfl⟩
theorem ints3 {vs : List Value} {a b c : Int} (h : IntsAre vs [a, b, c]) : ∃ t u v, vs = [.int a t, .int b u, .int c v] := by
  obtain _ | ⟨_, t, h⟩ := h
  obtain ⟨u, v, rfl⟩ := ints2 h
  exact ⟨t, u, v, rfl⟩
theorem sxl_sorted2 {Q : Value → Shared → Prop} (x y : Int) (hh : A.handled = none) (F : Fr h₀ L s.heap m) (N : News h₀ L s.heap news) (U : UpdF sa so news g) (hx : SX w so st) (hk : (SOk st && plOk st) = true)
    (hs : (decide ([x, y].Pairwise (· ≤ ·)) && [x, y].isPerm (st.1.map (·.2))) = true)
    (h : ∀ s' D t u e, s'.gens = s.gens ∧ s'.os = s.os → Fr h₀ L s'.heap m → News h₀ L s'.heap ((D, { cls := .type "list", data := .seq #[.int x t, .int y u] e }) :: news) → (∀ p ∈ news, p.1 < D) → Q (.ref D) s') :
    wpAny (model prog w) A (call (.builtin "sorted") [.ref sa]) Q E s :=
  sxl_sorted [x, y] hh F N U hx hk hs fun s' D vs e kgo F' N' l hi => by
    obtain ⟨t, u, rfl⟩ := ints2 hi
    exact h s' D t u e kgo F' N' l
theorem sxl_sorted3 {Q : Value → Shared → Prop} (x y z : Int) (hh : A.handled = none) (F : Fr h₀ L s.heap m) (N : News h₀ L s.heap news) (U : UpdF sa so news g) (hx : SX w so st) (hk : (SOk st && plOk st) = true)
    (hs : (decide ([x, y, z].Pairwise (· ≤ ·)) && [x, y, z].isPerm (st.1.map (·.2))) = true)
    (h : ∀ s' D t u v e, s'.gens = s.gens ∧ s'.os = s.os → Fr h₀ L s'.heap m → News h₀ L s'.heap ((D, { cls := .type "list", data := .seq #[.int x t, .int y u, .int z v] e }) :: news) → (∀ p ∈ news, p.1 < D) → Q (.ref D) s') :
    wpAny (model prog w) A (call (.builtin "sorted") [.ref sa]) Q E s :=
  sxl_sorted [x, y, z] hh F N U hx hk hs fun s' D vs e kgo F' N' l hi => by
    obtain ⟨t, u, v, rfl⟩ := ints3 hi
    exact h s' D t u v e kgo F' N' l
end
end
section
section
variable {prog : Program} {w : World} {A : Around} {E : Value → Shared → Prop} {s : Shared} {h₀ : Heap} {L I l : Addr} {m : Locals} {news t : Led} {o : Obj} {g : Obj → Led}
theorem iter_list {items : Array Value} {e : Nat} {Q : Value → Shared → Prop} (F : Fr h₀ L s.heap m) (N : News h₀ L s.heap news) (hm : (l, ({ cls := .type "list", data := .seq items e } : Obj)) ∈ news)
    (h : ∀ I o h', LiOf o l 0 → Fr h₀ L h' m → News h₀ L h' ((I, o) :: news) → (∀ p ∈ news, p.1 < I) → Q (.ref I) { s with heap := h' }) :
    wpAny (model prog w) A (call (.builtin "iter") [.ref l]) Q E s := by
  refine call_function_entry (by decide +kernel) (by decide +kernel) kdk_entry_iter (kdk_args_iter _) ?_
  unfold Builtin.«iter»
  refine wpAny_bind (m := someArgs "iter" 1 2 _) (wpAny_of_eq (a := [Value.ref l]) (by first | rfl | kernel_rfl!) ?_)
  show wpAny _ _ (pyIter (.ref l) >>= _) _ _ _
  refine wpAny_bind (iterList_T F N hm fun I o h' a1 a2 a3 a4 => ?_)
  exact wpAny_pure ⟨_, rfl, h I o h' a1 a2 a3 a4⟩
theorem next_list {vs : List Value} {e i : Nat} {v : Value} {Q : Value → Shared → Prop} (F : Fr h₀ L s.heap m) (N : News h₀ L s.heap news) (U : UpdD I o news g t) (hL : LiOf o l i) (hm : (l, ({ cls := .type "list", data := .seq vs.toArray e } : Obj)) ∈ news) (hv : vs[i]? = some v)
    (h : ∀ o' h', LiOf o' l (i + 1) → Fr h₀ L h' m → News h₀ L h' (g o') → Q v { s with heap := h' }) :
    wpAny (model prog w) A (call (.builtin "next") [.ref I]) Q E s := by
  have hit : s.heap.IsListIter I l i := ⟨o, (N _ U.mem).1, hL.1, hL.2⟩
  obtain ⟨o1, ho, hc, hd⟩ := id hit
  have hol := (N _ hm).1
  refine call_function_entry (by decide +kernel) (by decide +kernel) kdk_entry_next (kdk_args_next _) ?_
  unfold Builtin.«next»
  refine wpAny_bind (m := someArgs "next" 1 2 _) (wpAny_of_eq (a := [Value.ref I]) (by first | rfl | kernel_rfl!) ?_)
  dsimp only
  refine wpAny_bind (wpAny_specialOf (name := Str.ofString "__next__") hit.typeIs slot_listiter_next.lookup ?_)
  refine wpAny_ite_split (fun hab => absurd hab (by decide)) (fun _ => ?_)
  refine wpAny_bind (wpAny_callSpecial?_slot (name := Str.ofString "__next__") hit.typeIs slot_listiter_next
    (wpAny_call_entry slot_listiter_next hit.typeIs entry_listiter_next ?_ (args_listiter_next _)))
  show wpAny _ _ (field (.ref I) 0 >>= _) _ _ s
  refine wpAny_bind (wpAny_field ho hd (x := .ref l) rfl ?_)
  show wpAny _ _ (if (Value.ref l == Value.none) = true then _ else _) _ _ s
  rw [if_neg (show ¬ ((Value.ref l == Value.none) = true) from Bool.false_ne_true)]
  show wpAny _ _ (field (.ref I) 1 >>= _) _ _ s
  refine wpAny_bind (wpAny_field ho hd (x := .int i 0) rfl ?_)
  show wpAny _ _ (seqItems? (.ref l) >>= _) _ _ s
  refine wpAny_bind (wpAny_seqItems hol rfl ?_)
  have hx : vs.toArray[i]? = some v := by rw [List.getElem?_toArray]; exact hv
  simp only [Int.toNat_natCast, hx]
  refine wpAny_bind (wpAny_setField ho hd (by simp) (wpAny_pure ⟨v, rfl, wpAny_pure ⟨_, rfl, ?_⟩⟩))
  obtain ⟨a, b⟩ := upd_same F N U (same_ext (Heap.SameBut.update ..)) (Heap.get?_update_self _ ho (Obj.isFreed_of_fields (Obj.data_mapFields hd _)))
  exact h _ _ ⟨(Obj.cls_mapFields ..).trans hc, by rw [Obj.data_mapFields hd]; simp [rawInt]⟩ a b
theorem iter_self {i : Nat} {Q : Value → Shared → Prop} (N : News h₀ L s.heap news) (hm : (I, o) ∈ news) (hL : LiOf o l i) (h : Q (.ref I) s) : wpAny (model prog w) A (pyIter (.ref I)) Q E s :=
  wpAny_pyIter_listiter ⟨o, (N _ hm).1, hL.1, hL.2⟩ h
end
end
section
namespace CIF
open PySem.F
theorem owner : Manifest.owners.lookup (String.ofList ['r', 'o', 't', 'a', 'r', 'e', 't', 'i', '_', 'e', 'l', 'b', 'a', 'l', 'l', 'a', 'c'].reverse) = some Manifest.sig_callable_iterator := by kernel_rfl
theorem slot_iter : Slot "callable_iterator" "__iter__" "callable_iterator.__iter__" :=
  .of (owner := "callable_iterator") (n := "__iter__") (by rw [typeLookup_type, builtinLookup_eq_fast]; kernel_rfl) (by decide +kernel) (by decide +kernel) (by decide +kernel)
    (by first | exact .inl (by decide +kernel) | exact .inr (by decide +kernel)) (by rw [isSubtype_type]; kernel_rfl)
theorem slot_next : Slot "callable_iterator" "__next__" "callable_iterator.__next__" :=
  .of (owner := "callable_iterator") (n := "__next__") (by rw [typeLookup_type, builtinLookup_eq_fast]; kernel_rfl) (by decide +kernel) (by decide +kernel) (by decide +kernel)
    (by first | exact .inl (by decide +kernel) | exact .inr (by decide +kernel)) (by rw [isSubtype_type]; kernel_rfl)
theorem entry_next : entryFor table "callable_iterator.__next__" = some Builtin.«callable_iterator.__next__» := entryFor_of_tree (by kernel_rfl)
theorem args_next (a : Value) : argsOk "callable_iterator.__next__" ⟨[a], []⟩ := by
  unfold argsOk; rw [signature?_of (id := "callable_iterator.__next__") (n := ['_', '_', 't', 'x', 'e', 'n', '_', '_']) (o := ['r', 'o', 't', 'a', 'r', 'e', 't', 'i', '_', 'e', 'l', 'b', 'a', 'l', 'l', 'a', 'c']) (by kernel_rfl) owner]; kernel_rfl
theorem args_iter (a : Value) : argsOk "callable_iterator.__iter__" ⟨[a], []⟩ := by
  unfold argsOk; rw [signature?_of (id := "callable_iterator.__iter__") (n := ['_', '_', 'r', 'e', 't', 'i', '_', '_']) (o := ['r', 'o', 't', 'a', 'r', 'e', 't', 'i', '_', 'e', 'l', 'b', 'a', 'l', 'l', 'a', 'c']) (by kernel_rfl) owner]; kernel_rfl
theorem entry_iter : entryFor table "callable_iterator.__iter__" = some Builtin.«dict_keyiterator.__iter__» :=
  entryFor_alias (id' := "dict_keyiterator.__iter__") (by kernel_rfl) rfl (by decide +kernel) (by kernel_rfl)
theorem call_method : typeLookup (.type "method") "__call__" = pure (some (.builtin "method.__call__")) := by rw [typeLookup_type, builtinLookup_eq_fast]; kernel_rfl
theorem args_iter2 (a b : Value) : argsOk "iter" ⟨[a, b], []⟩ := by unfold argsOk; kernel_rfl
end CIF
section
variable {prog : Program} {w : World} {A : Around} {E : Value → Shared → Prop} {s : Shared} {h₀ : Heap} {L I q f x : Addr} {m : Locals} {news : Led}
theorem wpAny_callBorrowed {fv : Value} {pos : List Value} {Q : Value → Shared → Prop} (hc : codeAny (model prog w) A (.call fv ⟨pos, []⟩) (wants Q E) s) : wpAny (model prog w) A (callBorrowed fv pos) Q E s := fun Γ p hΓ => by
  unfold callBorrowed
  rw [Sem.wp_call]
  refine wpCode_mono (fun r s' h => ?_) (hc _ p rfl (hΓ.enter _ none p (by intro x; cases x)))
  cases r with
  | error e => exact h
  | ok fl =>
    cases fl with
    | ret v => exact h
    | _ => exact h.elim
noncomputable abbrev ciObj (q : Addr) (t : Tok) : Obj := { cls := .type "callable_iterator", data := .fields #[.ref q, .str PySem.Str.empty t, .bool false] }
theorem ci_make {t : Tok} {Q : Value → Shared → Prop} (Fx : Fr h₀ L s.heap m) (N : News h₀ L s.heap news) (hq : (q, methodObj (.ref f) (.ref x)) ∈ news)
    (h : ∀ I h', Fr h₀ L h' m → News h₀ L h' ((I, ciObj q t) :: news) → (∀ p ∈ news, p.1 < I) → Q (.ref I) { s with heap := h' }) :
    wpAny (model prog w) A (call (.builtin "iter") [.ref q, .str PySem.Str.empty t]) Q E s := by
  have hT : s.TypeIs (.ref q) "method" := ⟨_, (N _ hq).1, rfl⟩
  refine call_function_entry (by decide +kernel) (by decide +kernel) kdk_entry_iter (CIF.args_iter2 _ _) ?_
  unfold Builtin.«iter»
  refine wpAny_bind (m := someArgs "iter" 1 2 _) (wpAny_of_eq (a := [Value.ref q, .str PySem.Str.empty t]) (by first | rfl | kernel_rfl!) ?_)
  dsimp only
  refine wpAny_bind (wpAny_specialOf (name := Str.ofString "__call__") hT CIF.call_method ?_)
  rw [if_neg (by decide)]
  refine wpAny_bind (wpAny_rule ?_)
  refine wpAny_bind (wpAny_newObj_type (wpAny_pure ⟨_, rfl, ?_⟩))
  exact h _ _ (Fx.push _) (News.push Fx N _ rfl) (fun p hp => Heap.lt_size (N p hp).1)
theorem ci_self {t : Tok} {Q : Value → Shared → Prop} (N : News h₀ L s.heap news) (hI : (I, ciObj q t) ∈ news) (h : Q (.ref I) s) : wpAny (model prog w) A (pyIter (.ref I)) Q E s := by
  have hT : s.TypeIs (.ref I) "callable_iterator" := ⟨_, (N _ hI).1, rfl⟩
  refine wpAny_pyIter_slot hT CIF.slot_iter (wpAny_call_entry CIF.slot_iter hT CIF.entry_iter ?_ (CIF.args_iter _))
  show wpAny _ _ (ret (.ref I)) _ _ s
  exact wpAny_pure ⟨_, rfl, "callable_iterator", _, hT, CIF.slot_next.lookup, h⟩
theorem ci_next {t : Tok} {fd : FuncData} {of : Obj} {Q : Option Value → Shared → Prop} (hh : A.handled = none) (N : News h₀ L s.heap news) (hI : (I, ciObj q t) ∈ news) (hq : (q, methodObj (.ref f) (.ref x)) ∈ news)
    (hf : s.heap.get? f = some of) (hfd : of.data = .func fd) (hk : ∀ h' : Heap, (∀ b o, h₀.get? b = some o → h'.get? b = some o) → h'.get? f = some of)
    (hc : codeAny (model prog w) A.in1 (.call (.ref f) ⟨[.ref x], []⟩) (wants (fun v s' => (∃ news' m', Fr h₀ L s'.heap m' ∧ News h₀ L s'.heap news' ∧ (I, ciObj q t) ∈ news' ∧ (q, methodObj (.ref f) (.ref x)) ∈ news') ∧
      ∃ c u, v = .str c u ∧ (c ≠ PySem.Str.empty → Q (some v) s') ∧ (c = PySem.Str.empty → ∀ h', Heap.ExtBut I s'.heap h' → Q none { s' with heap := h' })) fun _ _ => False) s) :
    wpAny (model prog w) A (pyNext (.ref I)) Q E s := by
  have hI1 := (N _ hI).1
  have hT : s.TypeIs (.ref I) "callable_iterator" := ⟨_, hI1, rfl⟩
  unfold pyNext
  refine wpAny_bind (wpAny_attempt (wpAny_callSpecial?_slot (name := Str.ofString "__next__") hT CIF.slot_next
    (wpAny_call_entry CIF.slot_next hT CIF.entry_next ?_ (CIF.args_next _))))
  unfold Builtin.«callable_iterator.__next__»
  refine wpAny_bind (m := slotArgs "__next__" 0 _) (wpAny_pure ?_)
  dsimp only
  refine wpAny_bind (wpAny_field hI1 rfl (x := .bool false) rfl ?_)
  rw [if_neg (by decide)]
  refine wpAny_bind (wpAny_field hI1 rfl (x := .ref q) rfl ?_)
  have hq1 := (N _ hq).1
  refine wpAny_bind (wpAny_attempt ?_)
  unfold callOutOfASlot borrowsExactly
  refine wpAny_bind (wpAny_bind (wpAny_load hq1 ?_))
  dsimp only
  rw [if_pos (by decide)]
  refine wpAny_bind (wpAny_load hf ?_)
  rw [hfd]
  refine wpAny_pure ?_
  rw [if_pos rfl]
  refine wpAny_callBorrowed (codeAny_mono (method_call hq1 hc) fun r s' hr => ?_)
  rcases r with e | fl
  · exact hr.elim
  cases fl with
  | ret v =>
    obtain ⟨⟨news', m', F', N', hI', hq'⟩, c, u, rfl, hgo, hstop⟩ := hr
    have hI2 := (N' _ hI').1
    show wpAny (model prog w) A.in1 _ _ _ s'
    refine wpAny_bind (wpAny_field hI2 rfl (x := .bool false) rfl ?_)
    rw [if_neg (by decide)]
    refine wpAny_bind (wpAny_field hI2 rfl (x := .str PySem.Str.empty t) rfl ?_)
    refine wpAny_bind (wpAny_holding (wpAny_eqBool_str ?_))
    by_cases hce : c = PySem.Str.empty
    · rw [if_neg (by simp [hce])]
      refine wpAny_bind (wpAny_rule ?_)
      have hq2 := (N' _ hq').1
      have hf2 := hk s'.heap F'.keep
      refine wpAny_bind ?_
      show wpAny _ _ (do slotLetsGo "callable_iterator.__next__" (← field (.ref I) 0) _; setField (.ref I) 0 .none; setField (.ref I) 1 .none; setField (.ref I) 2 (.bool true)) _ _ _
      refine wpAny_bind (wpAny_field hI2 rfl (x := .ref q) rfl ?_)
      unfold slotLetsGo borrowsExactly
      dsimp only
      refine wpAny_bind (wpAny_bind (wpAny_bind (wpAny_load hq2 ?_)))
      dsimp only
      rw [if_pos (by decide)]
      refine wpAny_bind (wpAny_load hf2 ?_)
      rw [hfd]
      refine wpAny_pure ?_
      rw [if_pos rfl]
      refine wpAny_pure ?_
      refine wpAny_bind (wpAny_setField hI2 rfl (by simp) ?_)
      have hI3 : (s'.heap.update I (Obj.mapFields (·.setIfInBounds 0 .none))).get? I = some { cls := .type "callable_iterator", data := .fields #[.none, .str PySem.Str.empty t, .bool false] } := Heap.get?_update_self _ hI2 rfl
      refine wpAny_bind (wpAny_setField (s := { s' with heap := _ }) hI3 rfl (by simp) ?_)
      have hI4 : ((s'.heap.update I (Obj.mapFields (·.setIfInBounds 0 .none))).update I (Obj.mapFields (·.setIfInBounds 1 .none))).get? I = some { cls := .type "callable_iterator", data := .fields #[.none, .none, .bool false] } := Heap.get?_update_self _ hI3 rfl
      refine wpAny_setField (s := { s' with heap := _ }) hI4 rfl (by simp) ?_
      have hsb : Heap.SameBut I s'.heap (((s'.heap.update I (Obj.mapFields (·.setIfInBounds 0 .none))).update I (Obj.mapFields (·.setIfInBounds 1 .none))).update I (Obj.mapFields (·.setIfInBounds 2 (.bool true)))) := ((Heap.SameBut.update ..).trans (Heap.SameBut.update ..)).trans (Heap.SameBut.update ..)
      generalize ((s'.heap.update I (Obj.mapFields (·.setIfInBounds 0 .none))).update I (Obj.mapFields (·.setIfInBounds 1 .none))).update I (Obj.mapFields (·.setIfInBounds 2 (.bool true))) = H5 at hsb ⊢
      show wpAny _ _ (Builtin.SmallTypes.stopIteration) _ _ _
      unfold Builtin.SmallTypes.stopIteration
      refine wpAny_bind ?_
      simp only [newExc, newTuple]
      refine wpAny_bind (wpAny_newObj_type ?_ (by size_fits))
      refine wpAny_bind (m := firstArgMember _ _) (wpAny_of_eq (a := Value.none) (by first | rfl | (simp only [firstArgMember]; rfl)) ?_)
      refine wpAny_newObj_type ?_ (by size_fits)
      simp only [raiseNew]
      refine wpAny_bind (wpAny_handled ?_)
      rw [show A.in1.handled = none from hh]
      refine wpAny_bind (wpAny_pure (wpAny_throw ?_))
      refine wpAny_bind (wpAny_isInstance (T := "StopIteration") (b := true) ⟨_, Heap.get?_push_size _ rfl, rfl⟩ isSubtype_stop ?_)
      exact wpAny_pure (hstop hce _ ((hsb.extBut.push _).push _))
    · rw [if_pos (by simp [Ne.symm hce])]
      exact wpAny_pure ⟨_, rfl, wpAny_pure (hgo hce)⟩
  | _ => exact hr.elim
end
end
section
section
open PySem.Builtin PySem.Builtin.Str
variable {prog : Program} {w : World} {A : Around} {E : Value → Shared → Prop} {s : Shared} {x y : PySem.Str} {t u : Tok} {Q : Value → Shared → Prop}
theorem ch_eq (v : Bool) (he : (x == y) = v) (h : Q (.bool v) s) : wpAny (model prog w) A (compareOp .Eq (.str x t) (.str y u)) Q E s :=
  PyProof.Rows.eq_str (by rw [he]; exact h)
theorem ch_in (v : Bool) (he : (!(occurrences x y 0 x.length 1).isEmpty) = v) (h : Q (.bool v) s) : wpAny (model prog w) A (compareOp .In (.str y u) (.str x t)) Q E s :=
  PyProof.Rows.in_str (by rw [he]; exact h)
noncomputable def letters : List Nat := [97, 98, 99, 100, 101, 102, 103, 104, 65, 66, 67, 68, 69, 70, 71, 72, 119808, 119809, 119810, 119811, 119812, 119813, 119814, 119815, 119860, 119861, 119862, 119863, 119864, 119865, 119866, 119867, 173]
theorem let_facts : ∀ a ∈ letters, a ≠ 10 ∧ ((⟨#[a]⟩ : PySem.Str) == PySem.Str.ofString "\"") = false ∧ ((⟨#[a]⟩ : PySem.Str) == PySem.Str.ofString "\\") = false ∧
    (!(occurrences wsStr (⟨#[a]⟩ : PySem.Str) 0 wsStr.length 1).isEmpty) = false := by decide +kernel
end
end
section
section
variable {prog : Program} {w : World} {A : Around} {E : Value → Shared → Prop} {s : Shared} {h₀ : Heap} {L : Addr} {m : Locals} {t : Tok} {Q : Value → Shared → Prop}
noncomputable def vt : Value → Int × Tok
  | .int v t => (v, t)
  | .str _ t => (0, t)
  | _ => (0, 0)
theorem map_id {α : Type} {f : α → α} {l : List α} (h : l.map f = l) {e : α} (he : e ∈ l) : f e = e :=
  List.map_inj_left.mp (h.trans (List.map_id l).symm) e he
noncomputable def set100 (P : Params) : Array (Int × Value) × Nat × SetTable := match ((K P).lookup 100).map Obj.data with
  | some (.set es ep tb) => (es, ep, tb)
  | _ => (#[], 0, setT ([], []) 0 true 0)
theorem is100 (P : Params) : (K P).lookup 100 = some (setX (set100 P).1 (set100 P).2.1 (set100 P).2.2) := by kernel_rfl
theorem keys100 (P : Params) : (set100 P).1.toList.map (fun e => (hashInt (vt e.2).1, Value.int (vt e.2).1 (vt e.2).2)) = (set100 P).1.toList := by kernel_rfl
theorem small100 (P : Params) : decide ((set100 P).1.size < scanBound) = true := by kernel_rfl
theorem let100 (P : Params) : (letters.all fun c => ((set100 P).1.toList.any fun e => e.2.isInt (c : Int)) == (c == 173)) = true := by kernel_rfl
theorem fits100 (P : Params) : (set100 P).2.2.fits (set100 P).1.size = true := by kernel_rfl
theorem in100 {c : Nat} (X : (K w.params).In h₀) (F : Fr h₀ L s.heap m) (hc : c ∈ letters) (h : Q (.bool (c == 173)) { s with toks := s.toks + 1 }) :
    wpAny (model prog w) A (compareOp .In (.int (c : Int) t) (.ref 100)) Q E s := by
  have hg := (X.keeps F.keep) 100 _ (is100 w.params)
  have hS : s.heap.SetOf (intKind prog w) 100 (fun k => (set100 w.params).1.toList.any fun e => e.2.isInt k) (set100 w.params).1.size := by
    refine ⟨_, (set100 w.params).1, (set100 w.params).2.1, (set100 w.params).2.2, hg, ⟨rfl, rfl, rfl⟩, rfl, fun e he => ?_, fun k => ?_, of_decide_eq_true (small100 _), fits100 _, rfl⟩
    · rw [← map_id (keys100 w.params) he]
      exact ⟨⟨_, intKind_is prog w _ _, rfl⟩, rfl⟩
    · rw [List.any_eq_true]
      rfl
  refine wpAny_inSet_of (intKind_is prog w _ _) rfl hS ?_
  have := eq_of_beq (List.all_eq_true.mp (let100 w.params) c hc)
  simp only [this]
  exact h
end
end
section
section
variable {prog : Program} {w : World} {A : Around} {E : Value → Shared → Prop} {s : Shared} {h₀ : Heap} {L : Addr} {m : Locals} {t : Tok} {Q : Value → Shared → Prop}
noncomputable def lowOf (c : Nat) : Nat := if c < 97 then c + 32 else if c < 119808 then c else if c < 119860 then c - 119808 + 97 else c - 119860 + 97
noncomputable def maths : List Nat := [119808, 119809, 119810, 119811, 119812, 119813, 119814, 119815, 119860, 119861, 119862, 119863, 119864, 119865, 119866, 119867]
noncomputable def b3val (c : Nat) : Value := ((b3entries.find? fun e => e.key.isInt (c : Int)).map (·.val)).getD .none
theorem b3_keys : (b3entries.map fun e => ({ e with key := Value.int (vt e.key).1 (vt e.key).2 } : DictEntry)) = b3entries := by kernel_rfl
theorem b3_hash : (b3entries.all fun e => e.hash == hashInt (vt e.key).1 && (decide ((vt e.key).1 < 65) || decide (104 < (vt e.key).1))) = true := by decide +kernel
theorem b3_vals : maths.map b3val = maths.map (fun c => Value.str ⟨#[lowOf c]⟩ (vt (b3val c)).2) := by kernel_rfl
theorem b3_ent {e : DictEntry} (he : e ∈ b3entries) : e.key = .int (vt e.key).1 (vt e.key).2 ∧ e.hash = hashInt (vt e.key).1 ∧ ((vt e.key).1 < 65 ∨ 104 < (vt e.key).1) := by
  have h := List.all_eq_true.mp b3_hash e he
  simp only [Bool.and_eq_true, Bool.or_eq_true, decide_eq_true_eq, beq_iff_eq] at h
  exact ⟨(congrArg DictEntry.key (map_id b3_keys he)).symm, h⟩
theorem look111 (P : Params) : (K P).lookup 111 = some ⟨.type "dict", none, .dict b3entries.toArray 650, #[]⟩ := by kernel_rfl
theorem b3_meth {h₀ : Heap} {pl : Sem Bool} {Q : Value × List Value → Shared → Prop} (X : (K w.params).In h₀) (Fx : Fr h₀ L s.heap m) (h : Q (.builtin "dict.get", [.ref 111]) s) :
    wpAny (model prog w) A (getMethod (.ref 111) "get" pl) Q E s := by
  have hg := (X.keeps Fx.keep) 111 _ (look111 _)
  exact getMethod_builtin (T := "dict") ⟨_, hg, rfl⟩ F.plainAttrs_dict F.slot_dict_get F.type_dict_get (fun b e => by injection e with e; subst e; exact ⟨_, hg, rfl⟩) h
theorem b3_get {c : Nat} {u : Tok} (X : (K w.params).In h₀) (Fx : Fr h₀ L s.heap m) (h : Q (b3val c) { s with toks := s.toks + 1 }) :
    wpAny (model prog w) A (call (.builtin "dict.get") [.ref 111, .int (c : Int) u]) Q E s := by
  have hg := (X.keeps Fx.keep) 111 _ (look111 _)
  have hm : s.heap.MapOf (intKind prog w) 111 (fun k => findBy (intKind prog w).is b3entries.toArray k) := by
    refine ⟨_, b3entries.toArray, 650, hg, ⟨rfl, rfl, rfl⟩, rfl, fun e he => ?_, fun k => rfl⟩
    obtain ⟨h1, h2, _⟩ := b3_ent (List.mem_toArray.mp he)
    exact ⟨_, by rw [h1]; exact intKind_is prog w _ _, h2⟩
  refine call_meetsIn F.slot_dict_get ⟨_, hg, rfl⟩ F.entry_dict_get (F.args_dict_get_2 _ _) (meets_dict_get (intKind prog w) 111 (intKind_is prog w (c : Int) u) (by decide)) ⟨_, hm, ?_⟩
  have e : findBy (intKind prog w).is b3entries.toArray (c : Int) = (b3entries.find? fun e => e.key.isInt (c : Int)).map (·.val) := by
    unfold findBy
    rw [List.find?_toArray]
    rfl
  show Q _ _
  rw [e]
  exact h
theorem b3val_math {c : Nat} (hc : c ∈ maths) : ∃ t, b3val c = .str ⟨#[lowOf c]⟩ t :=
  ⟨_, List.map_inj_left.mp b3_vals c hc⟩
theorem b3val_ascii {c : Nat} (h1 : 65 ≤ c) (h2 : c ≤ 104) : b3val c = .none := by
  have : (b3entries.find? fun e => e.key.isInt (c : Int)) = none := by
    rw [List.find?_eq_none]
    intro e he
    obtain ⟨h3, _, h4⟩ := b3_ent he
    rw [h3, show (Value.int (vt e.key).1 (vt e.key).2).isInt (c : Int) = ((vt e.key).1 == (c : Int)) from rfl, beq_iff_eq]
    lia
  unfold b3val
  rw [this]
  rfl
end
end
section
section
open LCg LCt
variable {prog : Program} {w : World} {A : Around} {E : Value → Shared → Prop} {s : Shared} {h₀ : Heap} {L : Addr} {m : Locals} {env : Env}
noncomputable def SignL (cs : List Nat) (i : Nat) (v : Value) : Prop := ∃ t, v = .str ⟨#[cs.getD i 0]⟩ t
noncomputable def SrcST (prog : Program) (w : World) (A : Around) (h₀ : Heap) (L : Addr) (m : Locals) (env : Env) (ct elt : PySem.Expr) (x : PySem.Str) (scope : Scope) (cl : List (PySem.Str × Addr)) (Fin : Shared → List Value → Led → Prop) (xv : Value) (s₁ : Shared) : Prop :=
  ∃ cs t news, xv = .str ⟨List.toArray cs⟩ t ∧ A.handled = none ∧ Fr h₀ L s₁.heap m ∧ News h₀ L s₁.heap news ∧ cs.length ≤ sizeLine ∧
    ∀ s₂ : Shared, (∃ h, s₂ = { s₁ with heap := h }) → CompRestT prog w A h₀ L m env ct elt x scope cl s₂ (fun _ => True) (SignL cs) (Fin s₂) cs.length 0 [] news
theorem SrcST.mk {ct elt : PySem.Expr} {x : PySem.Str} {scope : Scope} {cl : List (PySem.Str × Addr)} {Fin : Shared → List Value → Led → Prop} {cs : List Nat} {t : Tok} {news : Led} {s₁ : Shared}
    (hh : A.handled = none) (F : Fr h₀ L s₁.heap m) (N : News h₀ L s₁.heap news) (hsz : cs.length ≤ sizeLine)
    (h : ∀ g, CompRestT prog w A h₀ L m env ct elt x scope cl { s₁ with heap := g } (fun _ => True) (SignL cs) (Fin { s₁ with heap := g }) cs.length 0 [] news) :
    SrcST prog w A h₀ L m env ct elt x scope cl Fin (.str ⟨List.toArray cs⟩ t) s₁ := ⟨cs, t, news, rfl, hh, F, N, hsz, fun _ ⟨g, e⟩ => e ▸ h g⟩
theorem signL {cs : List Nat} {i : Nat} {v : Value} (h : SignAt ⟨List.toArray cs⟩ i v) : SignL cs i v := by
  obtain ⟨c, t, h1, rfl⟩ := h
  refine ⟨t, ?_⟩
  have : cs.getD i 0 = c := by
    have h2 : cs[i]? = some c := by simpa using h1
    simp [List.getD, h2]
  rw [this]
theorem mono_P {I : Addr} {fp wr : List Addr} {n : Nat} {P P' : Nat → Value → Prop} {St : Nat → Heap → Prop} (W : Walks prog w A I fp wr n P St) (h : ∀ i v, P i v → P' i v) : Walks prog w A I fp wr n P' St where
  sub := W.sub
  frame := W.frame
  item := fun i s Q E hi st hQ => W.item i s Q E hi st fun v h' tk hP => hQ v h' tk (h i v hP)
  done := W.done
  self := W.self
theorem str_st {I : Addr} {ty : String} {x : PySem.Str} {t : Tok} : ∀ i (h h' : Heap) (o : Obj) (nw : Led), h.IsStrIter I ty x t i → h.get? I = some o → h'.get? I = some o → (∀ b o, h₀.get? b = some o → h'.get? b = some o) → News h₀ L h' nw → True → h'.IsStrIter I ty x t i :=
  fun i h h' o nw st e e' _ _ _ => by obtain ⟨o', q, r⟩ := st; rw [e] at q; cases q; exact ⟨o, e', r⟩
theorem Assign_S {ct elt iter : PySem.Expr} {x y : PySem.Str} {px py : Pos} {scope : Scope} {cl : List (PySem.Str × Addr)} {pos spos : Pos} {Q : Flow → Shared → Prop} (F₀ : Fr h₀ L s.heap m) (hLe : env.locals = L)
    (hsw : swapsWith (.ListComp elt [⟨.Name x px, iter, [ct], 0⟩] scope pos) (some (.Name y py)) spos.line env = pure true)
    (hclos : closureFor scope env = pure cl) (hcell : ∀ z ∈ scope.names, z.2 ≠ .cell) (hkind : scope.kind = .function)
    (hnames : ∀ z ∈ scope.names, z.2 = .local → scope.names.lookup z.1 = some .local) (hx : scope.names.lookup x = some .local)
    (hy : env.kindOf y = some .local) (hp : (env.scope.kind == .class || (env.scope.kind == .module && env.locals != env.globals)) = false)
    (h : wpAny (model prog w) A (eval iter env) (SrcST prog w A h₀ L m env ct elt x scope cl (fun s₂ => FinA h₀ L m s₂ y Q)) E s)
    (hs : ∀ x, foldedSetIterable iter env x = pure x := by intro _; rfl) :
    wpAny (model prog w) A (exec (.Assign [.Name y py] (.ListComp elt [⟨.Name x px, iter, [ct], 0⟩] scope pos) spos) env) Q E s := by
  subst hLe
  rw [exec_Assign_Name_used _ _ _ _ hsw]
  refine wpAny_bind (wpAny_standAt (wpAny_bind ?_))
  show wpAny _ A (do let _ ← comprehension (.ListComp elt [⟨.Name x px, iter, [ct], 0⟩] scope pos) scope env _ (newList []) false (eval iter env) (some (assign (.Name y py) env))) _ _ s
  refine wpAny_bind (wpAny_mono (wpAny_comprehension_free (use := some (assign (.Name y py) env)) (Q := fun _ s' => Q .next s') rfl hs hclos hkind hnames
    (wpAny_mono h (fun xv s₁ h₁ => ?_) fun _ _ e => e)) (fun _ s' hq => wpAny_pure (wpAny_pure hq)) fun _ _ e => e)
  obtain ⟨cs, t, news, rfl, hh, F, N, hsz, R⟩ := h₁
  cases ha : (⟨List.toArray cs⟩ : PySem.Str).cps.all (· < 128)
  · refine wpAny_pyIter_wide ha ?_
    refine block_T (P := SignL cs) (n := cs.length) (mono_P (Walks.strWide hh s₁.heap.objs.size ⟨List.toArray cs⟩ t) fun i v => signL) hsz (fun i h st => by obtain ⟨o, e, _⟩ := st; exact ⟨o, e⟩) str_st hcell hkind hx ⟨_, Heap.get?_push_size _ rfl, rfl, rfl⟩ (fun b hb => ?_)
      (F.keeps fun _ _ e => Heap.get?_push_of_some _ e) (N.grown fun _ _ e => Heap.get?_push_of_some _ e) (Nat.ne_of_lt F.ns.lt) (next_is_new F) (fun p hp => Nat.ne_of_lt (Heap.lt_size (N p hp).1)) trivial (R _ ⟨_, rfl⟩) ?_
    · rw [List.mem_singleton.mp hb]
      show s₁.heap.objs.size < (s₁.heap.push _).objs.size
      rw [Heap.size_push]; exact Nat.lt_succ_self _
    · intro D C h' tk m' ys news' F' N' o1 hn hC₀ hD₀ hCL hDL hCD offC fin
      show wpAny _ A (assign (.Name y py) env (.ref D)) _ _ _
      refine wpAny_assign_Name (wpAny_storeName_local hy F'.ns (fun h₂ hn₂ hs₂ => ?_) hp)
      have hL₀ : h₀.get? env.locals = none := Heap.get?_none_of_le F'.above
      have F₂ : Fr h₀ env.locals h₂ (fun z => if z = y then some (.ref D) else m z) := ⟨hn₂, fun b o e => hs₂.extBut b o (fun q => by rw [q, hL₀] at e; cases e) (F'.keep b o e), F'.above⟩
      refine ⟨m', hn.sameBut hs₂ hCL, fun h'' hs'' => fin D h'' _ (F₂.change hs'' hCL hC₀) (fun p hp => ?_) o1⟩
      have z : h₂.get? p.1 = some p.2 := hs₂.extBut _ _ (N' p hp).2.1 (N' p hp).1
      refine ⟨hs''.extBut _ _ ?_ z, (N' p hp).2⟩
      rcases List.mem_cons.mp hp with rfl | hp
      · exact Ne.symm hCD
      · exact offC p hp
  · refine wpAny_pyIter_ascii ha ?_
    refine block_T (P := SignL cs) (n := cs.length) (mono_P (Walks.strAscii hh s₁.heap.objs.size ⟨List.toArray cs⟩ t) fun i v => signL) hsz (fun i h st => by obtain ⟨o, e, _⟩ := st; exact ⟨o, e⟩) str_st hcell hkind hx ⟨_, Heap.get?_push_size _ rfl, rfl, rfl⟩ (fun b hb => ?_)
      (F.keeps fun _ _ e => Heap.get?_push_of_some _ e) (N.grown fun _ _ e => Heap.get?_push_of_some _ e) (Nat.ne_of_lt F.ns.lt) (next_is_new F) (fun p hp => Nat.ne_of_lt (Heap.lt_size (N p hp).1)) trivial (R _ ⟨_, rfl⟩) ?_
    · rw [List.mem_singleton.mp hb]
      show s₁.heap.objs.size < (s₁.heap.push _).objs.size
      rw [Heap.size_push]; exact Nat.lt_succ_self _
    · intro D C h' tk m' ys news' F' N' o1 hn hC₀ hD₀ hCL hDL hCD offC fin
      show wpAny _ A (assign (.Name y py) env (.ref D)) _ _ _
      refine wpAny_assign_Name (wpAny_storeName_local hy F'.ns (fun h₂ hn₂ hs₂ => ?_) hp)
      have hL₀ : h₀.get? env.locals = none := Heap.get?_none_of_le F'.above
      have F₂ : Fr h₀ env.locals h₂ (fun z => if z = y then some (.ref D) else m z) := ⟨hn₂, fun b o e => hs₂.extBut b o (fun q => by rw [q, hL₀] at e; cases e) (F'.keep b o e), F'.above⟩
      refine ⟨m', hn.sameBut hs₂ hCL, fun h'' hs'' => fin D h'' _ (F₂.change hs'' hCL hC₀) (fun p hp => ?_) o1⟩
      have z : h₂.get? p.1 = some p.2 := hs₂.extBut _ _ (N' p hp).2.1 (N' p hp).1
      refine ⟨hs''.extBut _ _ ?_ z, (N' p hp).2⟩
      rcases List.mem_cons.mp hp with rfl | hp
      · exact Ne.symm hCD
      · exact offC p hp
theorem app_L {news : Led} {l : Addr} {so : Obj} {g : Obj → Led} {items : List Value} {ep : Nat} {v : Value} {Q : Value → Shared → Prop} (F : Fr h₀ L s.heap m) (N : News h₀ L s.heap news) (U : UpdF l so news g) (e : so = listOf items.toArray ep) (hz : items.length ≤ 1000)
    (h : ∀ h' e', Fr h₀ L h' m → News h₀ L h' (g (listOf (items ++ [v]).toArray e')) → Q .none { s with heap := h' }) : wpAny (model prog w) A (call (.builtin "list.append") [.ref l, v]) Q E s := by
  subst e
  obtain ⟨pre, post, rfl, hg, a, b⟩ := U.split
  have hm := N (l, listOf items.toArray ep) (List.mem_append_right _ (.head _))
  have hT : s.TypeIs (.ref l) "list" := ⟨_, hm.1, rfl⟩
  refine wpAny_call_entry slot_list_append hT entry_list_append ?_ (args_list_append _ _)
  show wpAny _ _ (updateSeq l (·.push v) >>= fun _ => ret .none) _ _ s
  refine wpAny_bind ?_
  refine wpAny_updateSeq hm.1 rfl (wpAny_pure ⟨.none, rfl, ?_⟩) (by rw [sizeLine_eq, List.size_toArray]; lia) (by rw [sizeLine_eq, Array.size_push, List.size_toArray]; lia)
  obtain ⟨c, hc⟩ : ∃ c, (s.heap.update l (Obj.mapSeq fun x => x.push v)).get? l = some (listOf (items.toArray.push v) c) := ⟨_, get?_update_seq hm.1 _⟩
  have he : items.toArray.push v = (items ++ [v]).toArray := by simp
  rw [he] at hc
  exact h _ c (F.change (Heap.SameBut.update ..) hm.2.1 hm.2.2) (hg _ ▸ N.setIn a b (Heap.SameBut.update ..) hc)
end
end
section
variable {w : World} {p : Program} {loose : List PySem.Str} {mean : ExcName → Option Value} {mg mb : Locals} {h₀ : Heap} {L : Addr} {m : Locals} {news : Led} {s : Shared} {Q E : Value → Shared → Prop}
noncomputable abbrev hueB (j : Int) : UInt64 := Float64.ofFrac (decide (j < 0) != decide ((64 : Int) < 0)) j.natAbs (Int.natAbs 64)
end
section
noncomputable def NumV (v : Value) (a : Int) (k : Nat) : Prop := (∃ i t, v = .int i t ∧ a = i * 2 ^ k) ∨ ∃ b t, v = .float b t ∧ IsF b a k
theorem NumV.ofInt (i : Int) (t : Tok) (k : Nat) : NumV (.int i t) (i * 2 ^ k) k := .inl ⟨i, t, rfl, rfl⟩
theorem NumV.one (t : Tok) : NumV (.int 1 t) 1 0 := .inl ⟨1, t, rfl, rfl⟩
theorem small_over {n : Nat} (h : n < 2 ^ 53) : ¬ 2 ^ 1024 - 2 ^ 970 ≤ n := by
  have h1 : 2 ^ 53 < 2 ^ 1024 - 2 ^ 970 := by decide +kernel
  exact fun q => absurd (Nat.lt_of_lt_of_le h1 (Nat.le_trans q (Nat.le_of_lt h))) (Nat.lt_irrefl _)
theorem mul_pow_le (i : Int) (k : Nat) : i.natAbs ≤ (i * 2 ^ k).natAbs := by
  rw [Int.natAbs_mul, Int.natAbs_pow]
  exact Nat.le_mul_of_pos_right _ (Nat.two_pow_pos _)
theorem mul_swap (a b : Int) (k l : Nat) : a * 2 ^ k * (b * 2 ^ l) = a * b * 2 ^ (k + l) := by
  rw [Int.pow_add]; ac_rfl
theorem bits_53 {i : Int} (h : i.natAbs < 2 ^ 53) : Builtin.Int.intBits i ≤ 64 := intBits_le_64 (by lia) (by lia)
section
variable {prog : Program} {w : World} {A : Around} {E : Value → Shared → Prop} {s : Shared} {x y : Value} {a b : Int} {k l : Nat} {Q : Value → Shared → Prop}
theorem mulV (hh : A.handled = none) (hx : NumV x a k) (hy : NumV y b l) (ha : a.natAbs < 2 ^ 53) (hb : b.natAbs < 2 ^ 53) (hab : (a * b).natAbs < 2 ^ 53) (hk : k + l ≤ 1074)
    (h : ∀ v tk, NumV v (a * b) (k + l) → Q v { s with toks := tk }) : wpAny (model prog w) A (binaryOp .Mult x y) Q E s := by
  refine no_E ?_
  rcases hx with ⟨i, t, rfl, rfl⟩ | ⟨f, t, rfl, hf⟩ <;> rcases hy with ⟨j, u, rfl, rfl⟩ | ⟨g, u, rfl, hg⟩
  · refine mul_int (h _ _ ?_) (IntMulOk.of_left (bits_53 (Nat.lt_of_le_of_lt (mul_pow_le _ _) ha)))
    exact .inl ⟨_, _, rfl, mul_swap i j k l⟩
  · have hi : i.natAbs < 2 ^ 53 := Nat.lt_of_le_of_lt (mul_pow_le i k) ha
    refine mul_if_sharp hh (fun q => absurd q (small_over hi)) fun _ => h _ _ (.inr ⟨_, _, rfl, ?_⟩)
    have e : i * 2 ^ k * b = i * b * 2 ^ k := by ac_rfl
    have m := IsF.mul (IsF.ofInt hi) hg (Nat.lt_of_le_of_lt (by have := mul_pow_le (i * b) k; rw [← e] at this; exact this) hab) (by lia)
    rw [e, Nat.add_comm k l, ← Nat.zero_add l]
    exact m.up k
  · have hj : j.natAbs < 2 ^ 53 := Nat.lt_of_le_of_lt (mul_pow_le j l) hb
    refine mul_fi_sharp hh (fun q => absurd q (small_over hj)) fun _ => h _ _ (.inr ⟨_, _, rfl, ?_⟩)
    have e : a * (j * 2 ^ l) = a * j * 2 ^ l := by ac_rfl
    have m := IsF.mul hf (IsF.ofInt hj) (Nat.lt_of_le_of_lt (by have := mul_pow_le (a * j) l; rw [← e] at this; exact this) hab) (by lia)
    rw [e]
    exact m.up l
  · exact mul_float (h _ _ (.inr ⟨_, _, rfl, IsF.mul hf hg hab hk⟩))
theorem eqV {d : Int} {u : Tok} (hx : NumV x a k) (hk : k ≤ 1074) (h : Q (.bool (decide (a = d * 2 ^ k))) s) : wpAny (model prog w) A (compareOp .Eq x (.int d u)) Q E s := by
  rcases hx with ⟨i, t, rfl, rfl⟩ | ⟨f, t, rfl, hf⟩
  · refine eq_int ?_
    have e : (i == d) = decide (i * 2 ^ k = d * 2 ^ k) := by
      rw [Bool.eq_iff_iff, beq_iff_eq, decide_eq_true_eq]
      exact ⟨fun q => q ▸ rfl, fun q => Int.eq_of_mul_eq_mul_right (by have : (0 : Int) < 2 ^ k := Int.pow_pos (by decide); lia) q⟩
    rw [e]; exact h
  · refine eq_fi ?_
    rw [hf.cmpInt hk]
    have e : (some (compare a (d * 2 ^ k)) == some Ordering.eq) = decide (a = d * 2 ^ k) := by
      rw [Bool.eq_iff_iff, beq_iff_eq, decide_eq_true_eq, Option.some.injEq, Int.compare_eq_eq]
    rw [e]; exact h
theorem ltV {d : Int} {u : Tok} (hx : NumV x a k) (hk : k ≤ 1074) (h : Q (.bool (decide (a < d * 2 ^ k))) s) : wpAny (model prog w) A (compareOp .Lt x (.int d u)) Q E s := by
  rcases hx with ⟨i, t, rfl, rfl⟩ | ⟨f, t, rfl, hf⟩
  · refine lt_int ?_
    have e : decide (i < d) = decide (i * 2 ^ k < d * 2 ^ k) := by
      rw [Bool.eq_iff_iff, decide_eq_true_eq, decide_eq_true_eq]
      have : (0 : Int) < 2 ^ k := Int.pow_pos (by decide)
      exact ⟨fun q => Int.mul_lt_mul_of_pos_right q this, fun q => Int.lt_of_mul_lt_mul_right q (Int.le_of_lt this)⟩
    rw [← e] at h; exact h
  · refine lt_fi ?_
    rw [hf.cmpInt hk]
    have e : (some (compare a (d * 2 ^ k)) == some Ordering.lt) = decide (a < d * 2 ^ k) := by
      rw [Bool.eq_iff_iff, beq_iff_eq, decide_eq_true_eq, Option.some.injEq, Int.compare_eq_lt]
    rw [e]; exact h
end
noncomputable def shareOf (j : Int) : Int := if j < 32 then (if 32 < 3 * j then 32 else 3 * j) else 0
noncomputable abbrev dayN (a g r : Int) : Int := (32 - a) * g + a * r
end
section
open LCg
noncomputable abbrev refsObj (ps : List Addr) (ep : Nat) : Obj := { cls := .type "list", data := .seq (ps.map Value.ref).toArray ep }
noncomputable def Stop9 (P : Prop) : Prop := P
theorem of_stop9 {P : Prop} (h : Stop9 P) : P := h
section
variable {prog : Program} {w : World} {A : Around} {E : Value → Shared → Prop} {s : Shared} {h₀ : Heap} {L : Addr} {m : Locals} {env : Env} {news : Led}
theorem comp_stop {elt : PySem.Expr} {x : PySem.Str} {scope : Scope} {cl : List (PySem.Str × Addr)} {S : Led → Prop} {P : Nat → Value → Prop} {Fin : List Value → Led → Prop} {n i : Nat} {ys : List Value} (h : Stop9 (CompRest prog w A h₀ L m env elt x scope cl s S P Fin n i ys news)) : CompRest prog w A h₀ L m env elt x scope cl s S P Fin n i ys news := h
noncomputable def CTurn (h₀ : Heap) (L : Addr) (m : Locals) (s₁ : Shared) (all : Led) (J : Value → Prop) (y : Value) (s₂ : Shared) : Prop :=
  ∃ h' tk, s₂ = { s₁ with heap := h', toks := tk } ∧ Fr h₀ L h' m ∧ News h₀ L h' all ∧ J y
theorem CTurn.mk {s₁ : Shared} {all : Led} {J : Value → Prop} {y : Value} {h' : Heap} {tk : Nat} (F : Fr h₀ L h' m) (N : News h₀ L h' all) (j : J y) : CTurn h₀ L m s₁ all J y { s₁ with heap := h', toks := tk } := ⟨h', tk, rfl, F, N, j⟩
theorem comp_fix {elt : PySem.Expr} {x : PySem.Str} {scope : Scope} {cl : List (PySem.Str × Addr)} {S : Led → Prop} {P : Nat → Value → Prop} {Fin : List Value → Led → Prop} {n : Nat} (J : Nat → List Value → Prop)
    (hS : S news) (j0 : J 0 []) (fin : ∀ ys, J n ys → Fin ys news)
    (turn : ∀ i ys v I oI C oC D m₂ h tk, i < n → J i ys → P i v → NsObj oC m₂ → m₂ x = some v → Fr h₀ L h m → News h₀ L h ((I, oI) :: (C, oC) :: (D, lst ys) :: news) → Off3 I C D news → ((@Ne Nat I C) ∧ (@Ne Nat I D) ∧ (@Ne Nat C D)) →
      wpAny (model prog w) A (eval elt (compEnvC scope cl C env)) (CTurn h₀ L m { s with heap := h, toks := tk } ((I, oI) :: (C, oC) :: (D, lst ys) :: news) (fun y => J (i + 1) (ys ++ [y]))) NoE { s with heap := h, toks := tk }) :
    CompRest prog w A h₀ L m env elt x scope cl s S P Fin n 0 [] news := by
  have key : ∀ k i ys, i + k = n → J i ys → CompRest prog w A h₀ L m env elt x scope cl s S P Fin k i ys news := by
    intro k
    induction k with
    | zero => intro i ys hi j; have e : i = n := by lia
              subst e; exact fin ys j
    | succ k ih =>
      intro i ys hi j v I oI C oC D m₂ h tk E' hP hC hx F N off ne
      refine no_E (wpAny_mono (turn i ys v I oI C oC D m₂ h tk (by lia) j hP hC hx F N off ne) (fun y s₂ q => ?_) fun _ _ x => x)
      obtain ⟨h', tk', rfl, F', N', j'⟩ := q
      exact ⟨h', tk', news, rfl, F', N', off, hS, ih (i + 1) (ys ++ [y]) (by lia) j'⟩
  exact key n 0 [] (by lia) j0
theorem IntsAre.snoc {vs : List Value} {ns : List Int} {k : Int} {t : Tok} (h : IntsAre vs ns) : IntsAre (vs ++ [.int k t]) (ns ++ [k]) := IntsAre.append h (.cons _ _ .nil)
theorem item_ints {value slice : PySem.Expr} {a : Addr} {vs : List Value} {ns : List Int} {ep : Nat} {k : Int} {i : Nat} {u : Tok} {Q : Value → Shared → Prop} (N : News h₀ L s.heap news) (hm : (a, ({ cls := .type "list", data := .seq vs.toArray ep } : Obj)) ∈ news)
    (hi : IntsAre vs ns) (hk : k = (i : Int)) (hl : i < ns.length) (hz : ns.length ≤ 1000) (h : ∀ t, Q (.int (ns.getD i 0) t) s)
    (hs : subscripted slice false (.ref a) (.int k u) = operate [.ref a, .int k u] (getItem (.ref a) (.int k u)) := by with_unfolding_all rfl) :
    wpAny (model prog w) A (subscriptTail value slice (.ref a) (.int k u)) Q E s := by
  subst hk
  have hL : s.heap.IsList a vs.toArray := ⟨_, (N _ hm).1, rfl, ep, rfl⟩
  have hv : i < vs.length := by rw [hi.length]; exact hl
  obtain ⟨t, ht⟩ := hi.int_at i _ (List.getElem?_eq_getElem hv)
  refine tail_any hL.typeIs slot_list_getitem.lookup (wpAny_getItem_list (x := vs[i]) hL (by lia) (by lia) (by simp) ?_) hs
  rw [ht]
  exact h t
theorem item_intZ {value slice : PySem.Expr} {a : Addr} {vs : List Value} {ns : List Int} {ep : Nat} {k : Int} {u : Tok} {Q : Value → Shared → Prop} (N : News h₀ L s.heap news) (hm : (a, ({ cls := .type "list", data := .seq vs.toArray ep } : Obj)) ∈ news)
    (hi : IntsAre vs ns) (hk : 0 ≤ k) (hl : k < (ns.length : Int)) (hz : ns.length ≤ 1000) (h : ∀ t, Q (.int (ns.getD k.toNat 0) t) s)
    (hs : subscripted slice false (.ref a) (.int k u) = operate [.ref a, .int k u] (getItem (.ref a) (.int k u)) := by with_unfolding_all rfl) :
    wpAny (model prog w) A (subscriptTail value slice (.ref a) (.int k u)) Q E s :=
  item_ints (i := k.toNat) N hm hi (by lia) (by lia) hz h hs
theorem kb_of {k b : Int} (h0 : 0 ≤ k) (h : k < 0 + (((b - 0).toNat : Nat) : Int)) : k < b := by lia
theorem q_int {Q : Value → Shared → Prop} {a b : Int} {t : Tok} {s' : Shared} (e : a = b) (h : Q (.int b t) s') : Q (.int a t) s' := e ▸ h
theorem item_ref {value slice : PySem.Expr} {a q : Addr} {ps : List Addr} {ep : Nat} {i : Nat} {u : Tok} {Q : Value → Shared → Prop} (N : News h₀ L s.heap news) (hm : (a, ({ cls := .type "list", data := .seq (ps.map Value.ref).toArray ep } : Obj)) ∈ news)
    (hq : ps[i]? = some q) (hz : i ≤ 1000) (h : Q (.ref q) s)
    (hs : subscripted slice false (.ref a) (.int (i : Int) u) = operate [.ref a, .int (i : Int) u] (getItem (.ref a) (.int (i : Int) u)) := by with_unfolding_all rfl) :
    wpAny (model prog w) A (subscriptTail value slice (.ref a) (.int (i : Int) u)) Q E s := by
  have hL : s.heap.IsList a (ps.map Value.ref).toArray := ⟨_, (N _ hm).1, rfl, ep, rfl⟩
  exact tail_any hL.typeIs slot_list_getitem.lookup (wpAny_getItem_list (x := .ref q) hL (by lia) (by lia) (by simp [hq]) h) hs
theorem len_ref {a : Addr} {ps : List Addr} {ep : Nat} {Q : Value → Shared → Prop} (N : News h₀ L s.heap news) (hm : (a, ({ cls := .type "list", data := .seq (ps.map Value.ref).toArray ep } : Obj)) ∈ news) (hz : ps.length ≤ 1000)
    (h : ∀ t tk, Q (.int (ps.length : Int) t) { s with toks := tk }) : wpAny (model prog w) A (call (.builtin "len") [.ref a]) Q E s := by
  have hL : s.heap.IsList a (ps.map Value.ref).toArray := ⟨_, (N _ hm).1, rfl, ep, rfl⟩
  refine len_list hL (by simp; lia) ?_
  have e : (((ps.map Value.ref).toArray.size : Nat) : Int) = (ps.length : Int) := by simp
  rw [e]
  exact h _ _
theorem fdiv_small {a b : Int} {t u : Tok} {Q : Value → Shared → Prop} (h0 : 0 < b) (h1 : b ≤ 1000000) (h : Q (.int (a.fdiv b) s.toks) { s with toks := s.toks + 1 }) : wpAny (model prog w) A (binaryOp .FloorDiv (.int a t) (.int b u)) Q E s :=
  floordiv_int (by lia) h (Or.inl (PyProof.noPylong_small (by lia)))
theorem list_at {h : Heap} {a : Addr} {xs : Array Value} {ep : Nat} (N : News h₀ L h news) (hm : (a, ({ cls := .type "list", data := .seq xs ep } : Obj)) ∈ news) : h.IsList a xs := ⟨_, (N _ hm).1, rfl, ep, rfl⟩
theorem src_range {elt : PySem.Expr} {x : PySem.Str} {scope : Scope} {cl : List (PySem.Str × Addr)} {Fin : Shared → List Value → Led → Prop} {r : Addr} {b : Int} {t u v : Tok} {n : Nat} {s₁ : Shared}
    (hh : A.handled = none) (F : Fr h₀ L s₁.heap m) (N : News h₀ L s₁.heap news) (hr : IsRange s₁.heap r 0 b 1 t u v) (hb : b = (n : Int)) (hsz : n ≤ 1000)
    (h : ∀ g, CompRest prog w A h₀ L m env elt x scope cl { s₁ with heap := g } (fun _ => True) (fun i v => ∃ t, v = .int (0 + (i : Int)) t) (Fin { s₁ with heap := g }) n 0 [] news) :
    CompSrc prog w A h₀ L m env elt x scope cl Fin (.ref r) s₁ := by
  subst hb
  have e : Builtin.Range.rangeSize 0 (n : Int) 1 = (n : Int) := by
    unfold Builtin.Range.rangeSize
    rw [if_pos (by decide)]
    split <;> lia
  refine CompSrc.range hh F N hr ?_ e (by rw [sizeLine_eq]; lia) h
  unfold Builtin.Range.small
  rw [e]
  have f : ∀ k : Int, 0 ≤ k → k ≤ 1001 → Builtin.Range.rangeFitsLong k = true := by
    intro k a b
    unfold Builtin.Range.rangeFitsLong
    rw [decide_eq_true (by lia), decide_eq_true (by lia)]
    rfl
  rw [f 0 (by lia) (by lia), f (n : Int) (by lia) (by lia), f 1 (by lia) (by lia), if_pos (by decide), f _ (by lia) (by lia), Bool.or_true]
  rfl
end
end
section
section
variable {prog : Program} {w : World} {A : Around} {E : Value → Shared → Prop} {s : Shared} {h₀ : Heap} {L : Addr} {env : Env} {target : PySem.Expr} {body : List Stmt} {R : Result → Shared → Prop}
noncomputable def RStart {σ : Type} (h₀ : Heap) (L : Addr) (n : Nat) (mOf : σ → Locals) (nOf : σ → Led) (J : σ → Prop) (s : Shared) (v : Value) (s₁ : Shared) : Prop :=
  ∃ r t u w, v = .ref r ∧ ∃ x₀ h tk, s₁ = { s with heap := h, toks := tk } ∧ IsRange h r 0 (n : Int) 1 t u w ∧ J x₀ ∧ Fr h₀ L h (mOf x₀) ∧ News h₀ L h (nOf x₀)
theorem RStart.mk {σ : Type} {n : Nat} {mOf : σ → Locals} {nOf : σ → Led} {J : σ → Prop} {h : Heap} {tk : Nat} {r : Addr} {t u w : Tok} {b : Int} (hr : IsRange h r 0 b 1 t u w) (hb : b = (n : Int)) (x : σ) (j : J x) (F : Fr h₀ L h (mOf x)) (N : News h₀ L h (nOf x)) : RStart h₀ L n mOf nOf J s (.ref r) { s with heap := h, toks := tk } :=
  ⟨r, t, u, w, rfl, x, h, tk, rfl, hb ▸ hr, j, F, N⟩
theorem small_n {n : Nat} (hn : n ≤ 1000) : Builtin.Range.small 0 (n : Int) 1 = true := by
  have e : Builtin.Range.rangeSize 0 (n : Int) 1 = (n : Int) := by
    unfold Builtin.Range.rangeSize
    rw [if_pos (by decide)]
    split <;> lia
  have f : ∀ k : Int, 0 ≤ k → k ≤ 1001 → Builtin.Range.rangeFitsLong k = true := by
    intro k a b
    unfold Builtin.Range.rangeFitsLong
    rw [decide_eq_true (by lia), decide_eq_true (by lia)]
    rfl
  unfold Builtin.Range.small
  rw [e, f 0 (by lia) (by lia), f (n : Int) (by lia) (by lia), f 1 (by lia) (by lia), if_pos (by decide), f _ (by lia) (by lia), Bool.or_true]
  rfl
theorem size_n (n : Nat) : Builtin.Range.rangeSize 0 (n : Int) 1 = (n : Int) := by
  unfold Builtin.Range.rangeSize
  rw [if_pos (by decide)]
  split <;> lia
theorem For_range {σ : Type} (n : Nat) (mOf : σ → Locals) (nOf : σ → Led) (J : Nat → σ → Prop) {iter : PySem.Expr} {pos : Pos} {Q : Flow → Shared → Prop} (hh : A.handled = none) (hn : n ≤ 1000)
    (h : wpAny (model prog w) A (eval iter env) (RStart h₀ L n mOf nOf (J 0) s) NoE s)
    (turn : ∀ i x t h tk I o, i < n → J i x → Fr h₀ L h (mOf x) → News h₀ L h ((I, o) :: nOf x) → (∀ p ∈ nOf x, p.1 ≠ I) →
      wpAny (model prog w) A (letOwnedTupleGo target (.ref I) (.int (i : Int) t)) (fun _ s₁' =>
          wpAny (model prog w) A (assign target env (.int (i : Int) t)) (fun _ s₂ => wpAny (model prog w) A (execs body env) (TEnd h₀ L mOf (fun x => (I, o) :: nOf x) (fun x => J (i + 1) x ∧ ∀ p ∈ nOf x, p.1 ≠ I) { s with heap := h, toks := tk }) NoE s₂) NoE s₁') NoE { s with heap := h, toks := tk })
    (done : ∀ x h tk, J n x → Fr h₀ L h (mOf x) → News h₀ L h (nOf x) → Q .next { s with heap := h, toks := tk })
    (hs : ∀ x, foldedSetIterable iter env x = pure x := by intro _; rfl) :
    wpAny (model prog w) A (exec (.For target iter body [] pos) env) Q E s := by
  refine For_T (n + 1) (no_E (wpAny_mono h (fun v s₁ q => ?_) fun _ _ x => x)) hs
  obtain ⟨r, t, u, w', rfl, x₀, g, tk, rfl, hr, j, F, N⟩ := q
  refine iterRange_T F N hr (small_n hn) fun I h' F' N' lt => ?_
  rw [size_n] at N'
  have key : ∀ k i x h tk, i + k = n → J i x → Fr h₀ L h (mOf x) → News h₀ L h ((I, rangeIt (i : Int) (k : Int) 1) :: nOf x) → (∀ p ∈ nOf x, p.1 ≠ I) → Turns prog w A target (.ref I) body [] env (fun r s' => match r with | .ok f => Q f s' | .error e => cameBackBy (model prog w) A env E e s') (k + 1) { s with heap := h, toks := tk } := by
    intro k
    induction k with
    | zero =>
      intro i x h tk hi j F N ne
      refine Turns.go (endRange_T hh F N (UpdD.head ne) (Int.le_refl _) fun h2 F2 N2 => ?_)
      have e : i = n := by lia
      subst e
      exact wpAny_execs_nil (done x _ _ j F2 N2)
    | succ k ih =>
      intro i x h tk hi j F N ne
      refine Turns.go (nextRange_T F N (UpdD.head ne) (by lia) fun h' tk' F' N' => ?_)
      refine no_E (wpAny_mono (turn i x _ _ _ I _ (by lia) j F' N' ne) (fun _ s₁ q => ?_) fun _ _ x => x)
      refine no_E (wpAny_mono q (fun _ s₂ q => ?_) fun _ _ x => x)
      refine no_E (wpAny_mono q (fun f s₃ q => ?_) fun _ _ x => x)
      obtain ⟨rfl, x', h3, tk3, rfl, ⟨j', ne'⟩, F3, N3⟩ := q
      have e1 : (i : Int) + 1 = ((i + 1 : Nat) : Int) := by lia
      have e2 : ((k + 1 : Nat) : Int) - 1 = (k : Int) := by lia
      rw [e1, e2] at N3
      exact ih (i + 1) x' h3 tk3 (by lia) j' F3 N3 ne'
  exact key n 0 x₀ _ _ (by lia) j F' N' (fun p hp => Nat.ne_of_lt (lt p hp))
end
end
section
section
variable {w : World} {p : Program} {loose : List PySem.Str} {mean : ExcName → Option Value} {mg mb : Locals} {h₀ : Heap} {L : Addr} {m : Locals} {news : Led} {s : Shared} {Q E : Value → Shared → Prop}
theorem day_g (x : Int) (t : Tok)
    (hret : ∀ h' tk' a t1 t2, AllLt a news → Fr h₀ L h' m → News h₀ L h' ((a, { cls := .type "tuple", data := .seq #[.int (dayR x) t1, .int (dayG x) t2] }) :: news) → Q (.ref a) { s with heap := h', toks := tk' }) :
      Spec w p loose mean mg mb 1 8 (.ref 168) [.int x t] h₀ L m news s Q E := by
  intro dp un gd cn cs a ccd cl outer A₀ base hB F X N T hk hd hu
  refine wpAny_call ?_
  k_dflt (refine' code_def ?k1 ?k2 ?k3 ?k4 ?k5 ?kA ?kF ?kK ?k6 ?k7 ?k8 ?k9 ?kB ?_ ?c2 ?c3 ?c4 ?c5; (case kA => exact rfl); (case kF => exact rfl); (case kK => first | assumption | exact rfl); (case k1 => k_asm); (case k2 => k_asm); (case k3 => k_asm); (case k4 => k_asm); (case k5 => k_asm); (case k6 => k_is); (case k7 => k_is); (case k8 => k_room); (case k9 => first | exact BindsTo.of_eq rfl | exact binds_K (by k_in) rfl (by k_is) rfl rfl rfl); (case c5 => decide); (case kB => exact locs rfl); (case c2 => exact rfl); (case c3 => exact rfl); (case c4 => exact rfl); k_whole; intro g' L' h' FG' F' N' B' X' T'; (try dsimp only); (try k_lift B'); (try k_fold))
  have nd9 : Mine.NoDup [PySem.Str.ofString "x", PySem.Str.ofString "red", PySem.Str.ofString "green"] := Mine.NoDup.of (by decide +kernel)
  have F0 : Fr _ _ _ (Mine.look [PySem.Str.ofString "x", PySem.Str.ofString "red", PySem.Str.ofString "green"] [some (.int x t), none, none]) := Mine.start_P (bs := [(PySem.Str.ofString "x", .int x t)]) (ns' := [PySem.Str.ofString "red", PySem.Str.ofString "green"]) (k := 2) F'
  clear F'
  refine Mine.gen_tk ?_; intro tk0
  refine no_E ?_
  (repeat' ((first | (k_unfold; (try dsimp only)) | (k_end; kc_close) | ((with_reducible show wpAny _ _ (eval (Expr.Name _ _) _) _ _ _); k_dflt (refine Mine.name_P (by with_reducible assumption) (by assumption) (by with_reducible (repeat (first | exact Mine.At.here | apply Mine.At.there))) (by exact Eq.refl (some (some _))) ?_; k_whole)) | ((with_reducible show wpAny _ _ (storeName _ _ _) _ _ _); k_dflt (refine Mine.store_P (by with_reducible assumption) (by k_asm) (by assumption) (by with_reducible (repeat (first | exact Mine.At.here | apply Mine.At.there))) (by rfl) ?_; k_whole; intro h' F' N'; (try dsimp only [List.set] at F'); (try k_sweep))) | walk1 | (dsimp only; walk1) | (leave1; (try dsimp only)) | fail "no step") <;> (try dsimp only)))
  · have e1 : dayR x = 1 := by unfold dayR; rw [if_pos (by assumption)]
    have e2 : dayG x = 0 := by unfold dayG; rw [if_pos (by assumption)]
    rename (AllLt _ _) => zA
    rename (Fr h₀ L _ _) => zF
    rename (News h₀ L _ _) => zN
    rw [← e1, ← e2] at zN
    exact hret _ _ _ _ _ zA zF zN
  · have e1 : dayR x = x.fmod 8 := by unfold dayR; rw [if_neg (by assumption)]
    have e2 : dayG x = (x.fdiv 8).fmod 8 := by unfold dayG; rw [if_neg (by assumption)]
    rename (AllLt _ _) => zA
    rename (Fr h₀ L _ _) => zF
    rename (News h₀ L _ _) => zN
    rw [← e1, ← e2] at zN
    exact hret _ _ _ _ _ zA zF zN
end
end
section
variable {w : World} {p : Program} {loose : List PySem.Str} {mean : ExcName → Option Value} {mg mb : Locals} {h₀ : Heap} {L : Addr} {m : Locals} {news : Led} {s : Shared} {Q E : Value → Shared → Prop}
theorem dayR_lo (x : Int) : 0 ≤ dayR x ∧ dayR x ≤ 7 := by
  unfold dayR
  have := Int.fmod_eq_emod_of_nonneg x (show (0 : Int) ≤ 8 by decide)
  split <;> lia
theorem dayG_lo (x : Int) : 0 ≤ dayG x ∧ dayG x ≤ 7 := by
  unfold dayG
  have := Int.fmod_eq_emod_of_nonneg (x.fdiv 8) (show (0 : Int) ≤ 8 by decide)
  split <;> lia
noncomputable def startOf (x : Int) : Int := [97, 65, 119808, 119860].getD ((x.fdiv 64).fmod 4).toNat 0
theorem startOf_in (x : Int) : startOf x = 97 ∨ startOf x = 65 ∨ startOf x = 119808 ∨ startOf x = 119860 := by
  unfold startOf
  have := Int.fmod_eq_emod_of_nonneg (x.fdiv 64) (show (0 : Int) ≤ 4 by decide)
  have h1 : 0 ≤ (x.fdiv 64).fmod 4 := by lia
  have h2 : (x.fdiv 64).fmod 4 < 4 := by lia
  generalize (x.fdiv 64).fmod 4 = y at *
  have : y = 0 ∨ y = 1 ∨ y = 2 ∨ y = 3 := by lia
  rcases this with rfl | rfl | rfl | rfl <;> simp
theorem codeR_in (x : Int) : 0 ≤ [97, 65, 119808, 119860].getD ((x.fdiv 64).fmod 4).toNat 0 + dayR x ∧ [97, 65, 119808, 119860].getD ((x.fdiv 64).fmod 4).toNat 0 + dayR x ≤ 1114111 := by
  have h := startOf_in x
  have g := dayR_lo x
  unfold startOf at h
  lia
theorem codeG_in (x : Int) : 0 ≤ [97, 65, 119808, 119860].getD ((x.fdiv 64).fmod 4).toNat 0 + dayG x ∧ [97, 65, 119808, 119860].getD ((x.fdiv 64).fmod 4).toNat 0 + dayG x ≤ 1114111 := by
  have h := startOf_in x
  have g := dayG_lo x
  unfold startOf at h
  lia
noncomputable def wordL (x : Int) : List Nat :=
  (if (x.fdiv 512).fmod 2 = 1 then [34] else []) ++ ([(startOf x + dayR x).toNat] ++ (if (x.fdiv 256).fmod 2 = 1 then [173] else []) ++ [(startOf x + dayG x).toNat]) ++ (if (x.fdiv 512).fmod 2 = 1 then [34, 10] else [10])
noncomputable def wordS (x : Int) : PySem.Str := ⟨(wordL x).toArray⟩
theorem str_app (a b : List Nat) : ((⟨a.toArray⟩ : PySem.Str) ++ (⟨b.toArray⟩ : PySem.Str)) = ⟨(a ++ b).toArray⟩ := by
  show PySem.Str.mk (a.toArray ++ b.toArray) = _
  rw [List.append_toArray]
theorem lit_q : PySem.Str.ofString "\"" = ⟨[34].toArray⟩ := by decide +kernel
theorem lit_qn : PySem.Str.ofString "\"\n" = ⟨[34, 10].toArray⟩ := by decide +kernel
theorem lit_n : PySem.Str.ofString "\n" = ⟨[10].toArray⟩ := by decide +kernel
theorem lit_0 : PySem.Str.ofString "" = ⟨([] : List Nat).toArray⟩ := by decide +kernel
theorem lit_h : PySem.Str.ofString "\u00ad" = ⟨[173].toArray⟩ := by decide +kernel
theorem one_arr (n : Nat) : #[n] = [n].toArray := rfl
theorem word_11 (x : Int) (h5 : (x.fdiv 512).fmod 2 = 1) (h2 : (x.fdiv 256).fmod 2 = 1) : PySem.Str.ofString "\"" ++ ((⟨#[([97, 65, 119808, 119860].getD ((x.fdiv 64).fmod 4).toNat 0 + dayR x).toNat]⟩ : PySem.Str) ++ PySem.Str.ofString "\u00ad" ++ ⟨#[([97, 65, 119808, 119860].getD ((x.fdiv 64).fmod 4).toNat 0 + dayG x).toNat]⟩) ++ PySem.Str.ofString "\"\n" = wordS x := by
  simp only [lit_q, lit_qn, lit_n, lit_0, lit_h, one_arr, str_app, wordS, wordL, startOf, h5, h2, if_true, if_false, List.append_assoc, List.nil_append, List.append_nil]
theorem word_10 (x : Int) (h5 : (x.fdiv 512).fmod 2 = 1) (h2 : ¬ (x.fdiv 256).fmod 2 = 1) : PySem.Str.ofString "\"" ++ ((⟨#[([97, 65, 119808, 119860].getD ((x.fdiv 64).fmod 4).toNat 0 + dayR x).toNat]⟩ : PySem.Str) ++ PySem.Str.ofString "" ++ ⟨#[([97, 65, 119808, 119860].getD ((x.fdiv 64).fmod 4).toNat 0 + dayG x).toNat]⟩) ++ PySem.Str.ofString "\"\n" = wordS x := by
  simp only [lit_q, lit_qn, lit_n, lit_0, lit_h, one_arr, str_app, wordS, wordL, startOf, h5, h2, if_true, if_false, List.append_assoc, List.nil_append, List.append_nil]
theorem word_01 (x : Int) (h5 : ¬ (x.fdiv 512).fmod 2 = 1) (h2 : (x.fdiv 256).fmod 2 = 1) : ((⟨#[([97, 65, 119808, 119860].getD ((x.fdiv 64).fmod 4).toNat 0 + dayR x).toNat]⟩ : PySem.Str) ++ PySem.Str.ofString "\u00ad" ++ ⟨#[([97, 65, 119808, 119860].getD ((x.fdiv 64).fmod 4).toNat 0 + dayG x).toNat]⟩) ++ PySem.Str.ofString "\n" = wordS x := by
  simp only [lit_q, lit_qn, lit_n, lit_0, lit_h, one_arr, str_app, wordS, wordL, startOf, h5, h2, if_true, if_false, List.append_assoc, List.nil_append, List.append_nil]
theorem word_00 (x : Int) (h5 : ¬ (x.fdiv 512).fmod 2 = 1) (h2 : ¬ (x.fdiv 256).fmod 2 = 1) : ((⟨#[([97, 65, 119808, 119860].getD ((x.fdiv 64).fmod 4).toNat 0 + dayR x).toNat]⟩ : PySem.Str) ++ PySem.Str.ofString "" ++ ⟨#[([97, 65, 119808, 119860].getD ((x.fdiv 64).fmod 4).toNat 0 + dayG x).toNat]⟩) ++ PySem.Str.ofString "\n" = wordS x := by
  simp only [lit_q, lit_qn, lit_n, lit_0, lit_h, one_arr, str_app, wordS, wordL, startOf, h5, h2, if_true, if_false, List.append_assoc, List.nil_append, List.append_nil]
theorem word_c (x : Int) (t : Tok) (hx : 0 ≤ x)
    (hret : ∀ h' tk' v t1, v = wordS x → Fr h₀ L h' m → News h₀ L h' news → Q (.str v t1) { s with heap := h', toks := tk' }) :
      Spec w p loose mean mg mb 4 20 (.ref 175) [.int x t] h₀ L m news s Q E := by
  intro dp un gd cn cs a ccd cl outer A₀ base hB F X N T hk hd hu
  refine wpAny_call ?_
  k_dflt (refine' code_def ?k1 ?k2 ?k3 ?k4 ?k5 ?kA ?kF ?kK ?k6 ?k7 ?k8 ?k9 ?kB ?_ ?c2 ?c3 ?c4 ?c5; (case kA => exact rfl); (case kF => exact rfl); (case kK => first | assumption | exact rfl); (case k1 => k_asm); (case k2 => k_asm); (case k3 => k_asm); (case k4 => k_asm); (case k5 => k_asm); (case k6 => k_is); (case k7 => k_is); (case k8 => k_room); (case k9 => first | exact BindsTo.of_eq rfl | exact binds_K (by k_in) rfl (by k_is) rfl rfl rfl); (case c5 => decide); (case kB => exact locs rfl); (case c2 => exact rfl); (case c3 => exact rfl); (case c4 => exact rfl); k_whole; intro g' L' h' FG' F' N' B' X' T'; (try dsimp only); (try k_lift B'); (try k_fold))
  refine no_E ?_
  (repeat' ((first | (k_unfold; (try dsimp only)) | (k_end; kc_close) | ((with_reducible show wpAny _ _ (call (Value.ref 168) _) _ _ _); k_dflt (refine' Mine.day_g _ _ ?_ _ _ _ _ _ _ _ _ _ _ _ ?c1 ?c2 ?c3 ?c4 ?c5 ?c6 ?c7 ?c8; (case c1 => k_asm); (case c2 => k_asm); (case c3 => k_asm); (case c4 => k_asm); (case c5 => k_asm); (case c6 => first | assumption | exact rfl); (case c7 => k_room); (case c8 => k_room); k_whole); intro h' tk' a' t1' t2' la' F' N'; (try dsimp only)) | ((with_reducible show wpAny _ _ (call (Value.builtin "chr") _) _ _ _); first | refine chr_of_range (codeR_in _).1 (codeR_in _).2 ?_ | refine chr_of_range (codeG_in _).1 (codeG_in _).2 ?_) | walk1 | (dsimp only; walk1) | (leave1; (try dsimp only)) | fail "no step") <;> (try dsimp only)))
  · exact hret _ _ _ _ (word_11 _ (by assumption) (by assumption)) (by assumption) (by first | assumption | (refine cb_drop (by assumption) ?_; (repeat (refine Mine.sub_cons ?_)); exact fun _ h => h))
  · exact hret _ _ _ _ (word_01 _ (by assumption) (by assumption)) (by assumption) (by first | assumption | (refine cb_drop (by assumption) ?_; (repeat (refine Mine.sub_cons ?_)); exact fun _ h => h))
  · exact hret _ _ _ _ (word_10 _ (by assumption) (by assumption)) (by assumption) (by first | assumption | (refine cb_drop (by assumption) ?_; (repeat (refine Mine.sub_cons ?_)); exact fun _ h => h))
  · exact hret _ _ _ _ (word_00 _ (by assumption) (by assumption)) (by assumption) (by first | assumption | (refine cb_drop (by assumption) ?_; (repeat (refine Mine.sub_cons ?_)); exact fun _ h => h))
end
section
variable {w : World} {p : Program} {loose : List PySem.Str} {mean : ExcName → Option Value} {mg mb : Locals} {h₀ : Heap} {L : Addr} {m : Locals} {news : Led} {s : Shared} {Q E : Value → Shared → Prop}
theorem no_over {n : Int} (h : n.natAbs ≤ 1000) : ¬ 2 ^ 1024 - 2 ^ 970 ≤ n.natAbs := by
  have h1 : 1000 < 2 ^ 1024 - 2 ^ 970 := by decide +kernel
  exact fun q => absurd (Nat.lt_of_lt_of_le h1 (Nat.le_trans q h)) (Nat.lt_irrefl _)
theorem IsF.six : IsF 4618441417868443648 6 0 := by
  have h : Float64.ofInt 6 = 4618441417868443648 := by decide +kernel
  rw [← h]
  exact IsF.ofInt (by decide)
structure HueOk (b : UInt64) (j : Int) : Prop where
  mod : (Float64.divmod b 4607182418800017408).snd = b
  is : IsF b j 6
  lo : (Float64.cmp b 4595172819793696085 == some Ordering.lt) = decide (j ≤ 10)
  mid : (Float64.cmp b 4602678819172646912 == some Ordering.lt) = decide (j ≤ 31)
  hi : (Float64.cmp b 4604180019048437077 == some Ordering.lt) = decide (j ≤ 42)
theorem v_val {b : UInt64} {m1 m2 j : Int} (hb : IsF b j 6) (h0 : 0 ≤ j) (h1 : j ≤ 10) (k1 : m1.natAbs ≤ 64) (k2 : m2.natAbs ≤ 64) :
    IsF (Float64.add (Float64.ofInt m1) (Float64.mul (Float64.mul (Float64.ofInt (m2 - m1)) b) 4618441417868443648)) (64 * m1 + 6 * j * (m2 - m1)) 6 := by
  have hm : (m2 - m1).natAbs ≤ 128 := by lia
  have hn : j.natAbs ≤ 10 := by lia
  have p1 : ((m2 - m1) * j).natAbs ≤ 1280 := by rw [Int.natAbs_mul]; exact Nat.mul_le_mul hm hn
  have p2 : ((m2 - m1) * j * 6).natAbs ≤ 7680 := by rw [Int.natAbs_mul]; exact Nat.mul_le_mul p1 (Nat.le_refl 6)
  have p3 : (m1 * 2 ^ 6).natAbs ≤ 4096 := by rw [Int.natAbs_mul]; exact Nat.mul_le_mul k1 (Nat.le_refl 64)
  have p4 : (m1 * 2 ^ 6 + (m2 - m1) * j * 6).natAbs ≤ 11776 := Nat.le_trans (Int.natAbs_add_le _ _) (Nat.add_le_add p3 p2)
  have e1 : IsF (Float64.mul (Float64.ofInt (m2 - m1)) b) ((m2 - m1) * j) (0 + 6) := IsF.mul (IsF.ofInt (Nat.lt_of_le_of_lt hm (by decide))) hb (Nat.lt_of_le_of_lt p1 (by decide)) (by decide)
  have e2 := IsF.mul e1 IsF.six (Nat.lt_of_le_of_lt p2 (by decide)) (by decide)
  have e3 : IsF (Float64.ofInt m1) (m1 * 2 ^ 6) (0 + 6) := (IsF.ofInt (Nat.lt_of_le_of_lt k1 (by decide))).up 6
  have e4 := IsF.add (k := 6) e3 e2 (Nat.lt_of_le_of_lt p4 (by decide)) (by decide)
  have e5 : m1 * 2 ^ 6 + (m2 - m1) * j * 6 = 64 * m1 + 6 * j * (m2 - m1) := by
    rw [Int.mul_comm m1, Int.mul_comm _ 6, Int.mul_comm (m2 - m1) j, ← Int.mul_assoc]
    rfl
  rw [← e5]
  exact e4
theorem v_c (m1 m2 j : Int) (b : UInt64) (t1 t2 t3 : Tok) (hb : HueOk b j) (k1 : m1.natAbs ≤ 64) (k2 : m2.natAbs ≤ 64) (h0 : 0 ≤ j) (hj : j ≤ 31 ∨ 42 < j)
    (hretF : ∀ h' tk' r tr, j ≤ 10 → IsF r (64 * m1 + 6 * j * (m2 - m1)) 6 → Fr h₀ L h' m → News h₀ L h' news → Q (.float r tr) { s with heap := h', toks := tk' })
    (hret2 : ∀ h' tk', 10 < j → j ≤ 31 → Fr h₀ L h' m → News h₀ L h' news → Q (.int m2 t2) { s with heap := h', toks := tk' })
    (hret1 : ∀ h' tk', 42 < j → Fr h₀ L h' m → News h₀ L h' news → Q (.int m1 t1) { s with heap := h', toks := tk' }) :
      Spec w p loose mean mg mb 4 20 (.ref 50) [.int m1 t1, .int m2 t2, .float b t3] h₀ L m news s Q E := by
  intro dp un gd cn cs a ccd cl outer A₀ base hB F X N T hk hd hu
  have c1 := no_over (n := m1) (by lia)
  have c2 := no_over (n := m2 - m1) (by lia)
  refine wpAny_call ?_
  k_dflt (refine' code_def ?k1 ?k2 ?k3 ?k4 ?k5 ?kA ?kF ?kK ?k6 ?k7 ?k8 ?k9 ?kB ?_ ?c2 ?c3 ?c4 ?c5; (case kA => exact rfl); (case kF => exact rfl); (case kK => first | assumption | exact rfl); (case k1 => k_asm); (case k2 => k_asm); (case k3 => k_asm); (case k4 => k_asm); (case k5 => k_asm); (case k6 => k_is); (case k7 => k_is); (case k8 => k_room); (case k9 => first | exact BindsTo.of_eq rfl | exact binds_K (by k_in) rfl (by k_is) rfl rfl rfl); (case c5 => decide); (case kB => exact locs rfl); (case c2 => exact rfl); (case c3 => exact rfl); (case c4 => exact rfl); k_whole; intro g' L' h' FG' F' N' B' X' T'; (try dsimp only); (try k_lift B'); (try k_fold))
  refine no_E ?_
  (repeat' ((first | (k_unfold; (try dsimp only)) | (k_end; kc_close) | ((with_reducible show wpAny _ _ (eval (Expr.Name _ _) _) _ _ _); k_dflt (refine Mine.name_P (by with_reducible assumption) (by assumption) (by with_reducible (repeat (first | exact Mine.At.here | apply Mine.At.there))) (by exact Eq.refl (some (some _))) ?_; k_whole)) | walk1 | (dsimp only; walk1) | (leave1; (try dsimp only)) | fail "no step") <;> (try dsimp only)))
  · rename ((Float64.cmp _ _ == some Ordering.lt) = true) => ha
    rw [hb.mod, hb.lo, decide_eq_true_eq] at ha
    exact hretF _ _ _ _ ha (by rw [hb.mod]; exact v_val hb.is h0 ha k1 k2) (by assumption) (by assumption)
  · rename ((Float64.cmp _ _ == some Ordering.lt) = true) => ha
    rename ((Float64.cmp _ _ == some Ordering.lt) = false) => ha2
    rw [hb.mod, hb.mid, decide_eq_true_eq] at ha
    rw [hb.mod, hb.lo, decide_eq_false_iff_not] at ha2
    exact hret2 _ _ (by lia) ha (by assumption) (by assumption)
  · rename ((Float64.cmp _ _ == some Ordering.lt) = true) => ha
    rename ((Float64.cmp _ _ == some Ordering.lt) = false) => ha2
    rw [hb.mod, hb.hi, decide_eq_true_eq] at ha
    rw [hb.mod, hb.mid, decide_eq_false_iff_not] at ha2
    lia
  · rename ((Float64.cmp _ _ == some Ordering.lt) = false) => ha
    rw [hb.mod, hb.hi, decide_eq_false_iff_not] at ha
    exact hret1 _ _ (by lia) (by assumption) (by assumption)
end
section
variable {w : World} {p : Program} {loose : List PySem.Str} {mean : ExcName → Option Value} {mg mb : Locals} {h₀ : Heap} {L : Addr} {m : Locals} {news : Led} {s : Shared} {Q E : Value → Shared → Prop}
noncomputable def pickInts (ns : List Int) (lo hi st : Option Int) : List Int :=
  (sliceRange (sliceBounds lo hi st ns.length).1 (sliceBounds lo hi st ns.length).2.1 (sliceBounds lo hi st ns.length).2.2).filterMap (ns[·]?)
theorem ints_pick {vs : Vals} {ns : List Int} (h : IntsAre vs ns) : ∀ is : List Nat, IntsAre (is.filterMap (vs.toArray[·]?)) (is.filterMap (ns[·]?))
  | [] => .nil
  | i :: is => by
    have ih := ints_pick h is
    have e : ∀ (vs : Vals) (ns : List Int), IntsAre vs ns → ∀ i : Nat, (vs[i]? = none ∧ ns[i]? = none) ∨ ∃ n t, vs[i]? = some (.int n t) ∧ ns[i]? = some n := by
      intro vs ns h
      induction h with
      | nil => intro i; exact .inl ⟨by simp, by simp⟩
      | cons n t _ ih =>
        intro i
        cases i with
        | zero => exact .inr ⟨n, t, by simp, by simp⟩
        | succ i => simpa using ih i
    rw [List.filterMap_cons, List.filterMap_cons]
    have e1 : vs.toArray[i]? = vs[i]? := by simp
    rw [e1]
    rcases e vs ns h i with ⟨a, b⟩ | ⟨n, t, a, b⟩
    · rw [a, b]; exact ih
    · rw [a, b]; exact .cons n t ih
theorem pick_ints {vs : Vals} {ns : List Int} (h : IntsAre vs ns) (lo hi st : Option Int) : IntsAre (slicePick vs.toArray lo hi st).toList (pickInts ns lo hi st) := by
  have hl : vs.toArray.size = ns.length := by rw [List.size_toArray]; exact h.length
  unfold slicePick pickInts
  rw [hl]
  exact ints_pick h _
theorem sum_pick {prog : Program} {A : Around} {l : Addr} {vs : Vals} {ns : List Int} {lo hi st : Option Int} {e : Nat} (hh : A.handled = none) (F : Fr h₀ L s.heap m) (N : News h₀ L s.heap news) (hm : (l, ({ cls := .type "list", data := .seq (slicePick vs.toArray lo hi st) e } : Obj)) ∈ news) (hi' : IntsAre vs ns)
    (h : ∀ h' tk t', Fr h₀ L h' m → News h₀ L h' news → Q (.int (pickInts ns lo hi st).sum t') { s with heap := h', toks := tk }) :
    wpAny (model prog w) A (call (.builtin "sum") [.ref l]) Q E s :=
  sumK hh F N (vs := (slicePick vs.toArray lo hi st).toList) ⟨_, (N _ hm).1, rfl, e, rfl⟩ (pick_ints hi' lo hi st) h
noncomputable def isDraw (x : Int) : Prop := 0 ≤ x ∧ x < 1000000
theorem isDraw_mod (x : Int) : isDraw (x.fmod 1000000) := by
  have := Int.fmod_eq_emod_of_nonneg x (show (0 : Int) ≤ 1000000 by decide)
  unfold isDraw
  lia
theorem fmod_two (x : Int) : x.fmod 2 = 0 ∨ x.fmod 2 = 1 := by
  have := Int.fmod_eq_emod_of_nonneg x (show (0 : Int) ≤ 2 by decide)
  lia
theorem n_of {x : Int} : ∃ n : Nat, (3 + x.fmod 2) = (n : Int) ∧ (n = 3 ∨ n = 4) := by
  rcases fmod_two x with h | h
  · exact ⟨3, by rw [h]; rfl, .inl rfl⟩
  · exact ⟨4, by rw [h]; rfl, .inr rfl⟩
theorem n_b {n i : Nat} (h : n = 3 ∨ n = 4) (hi : i < n) : n ≤ 1000 ∧ 0 + (i : Int) < 4 ∧ 0 ≤ 0 + (i : Int) := by lia
theorem n_c {n : Nat} (h : n = 3 ∨ n = 4) : n ≤ 1000 := by lia
theorem draws_g (sl : Addr) (vs : List Value) (ns : List Int) (hl : h₀.IsList sl vs.toArray) (hi : IntsAre vs ns) (hn : ns.length ≤ 63)
    (hret : ∀ h' tk' l e ws ds, IntsAre ws ds → (ds.length = 3 ∨ ds.length = 4) → (∀ d ∈ ds, isDraw d) → Fr h₀ L h' m → News h₀ L h' ((l, W.listOf ws.toArray e) :: news) → Q (.ref l) { s with heap := h', toks := tk' }) :
      Spec w p loose mean mg mb 10 60 (.ref 161) [.ref sl] h₀ L m news s Q E := by
  intro dp un gd cn cs a ccd cl outer A₀ base hB F X N T hk hd hu
  refine wpAny_call ?_
  k_dflt (refine' code_defC ?k1 ?k2 ?k3 ?k4 ?k5 ?kA ?kF ?kK ?k6 ?k7 ?k8 ?k9 ?kB ?kD ?_ ?c2 ?c3 ?c4; (case kA => exact rfl); (case kF => exact rfl); (case kK => first | assumption | exact rfl); (case k1 => k_asm); (case k2 => k_asm); (case k3 => k_asm); (case k4 => k_asm); (case k5 => k_asm); (case k6 => k_is); (case k7 => k_is); (case k8 => k_room); (case k9 => first | exact BindsTo.of_eq rfl | exact binds_K (by k_in) rfl (by k_is) rfl rfl rfl); (case kB => exact rfl); (case kD => decide +kernel); (case c2 => exact rfl); (case c3 => exact rfl); (case c4 => exact rfl); k_whole; intro g' L' h' tk' cells' FG' F' N' Y' B' X' T' l1; (try k_lt l1); k_cells Y'; (try simp only [List.cons_append, List.nil_append] at N'); (try dsimp only); (try k_lift B'); (try k_fold))
  have hl2 := stays_list (Fr.keep (h₀ := h₀) (L := L) (m := m) (by assumption)) hl
  refine no_E ?_
  (repeat' (first | (k_unfold; (try dsimp only)) | (k_end; kc_close) | ((with_reducible show wpAny _ _ (eval (PySem.Expr.ListComp _ _ _ _) _) _ _ _); k_dflt (refine LCg.ListComp_U (F₀ := by k_asm) (by rfl) (by decide) (by rfl) (by decide) (by rfl) ?_)) | ((with_reducible show LCg.CompSrc _ _ _ _ _ _ _ _ _ _ _ _ (Value.ref _) _); refine of_stop9 ?_) | walk1 | (dsimp only; walk1) | (leave1; (try dsimp only)) | fail "no step"))
  rename (Fr g' L' _ _) => F1
  rename (News g' L' _ _) => N1
  rename (IsRange _ _ _ _ _ _ _ _) => hr1
  unfold Stop9
  obtain ⟨n, en, hn4⟩ := n_of (x := (ns.length : Int))
  have hnc := n_c hn4
  k_dflt (refine Mine.src_range (n := n) (by rfl) F1 N1 hr1 ?zb ?zc ?_; (case zb => exact en); (case zc => exact hnc); intro g2)
  refine comp_fix (fun i ys => ∃ ds, IntsAre ys ds ∧ ds.length = i ∧ ∀ d ∈ ds, isDraw d) trivial ⟨[], .nil, rfl, fun d h => nomatch h⟩ (fun ys hy => ?_) ?_
  · obtain ⟨ds, h1, h2, h3⟩ := hy
    intro D h2' tk2 F2 N2 off2
    rw [← h2] at hn4
    (try dsimp only)
    (repeat' (first | (k_unfold; (try dsimp only)) | (k_end; kc_close) | ((with_reducible show wpAny _ _ (eval (Expr.Name _ _) _) _ _ _); k_dflt (refine Mine.name_P (by with_reducible assumption) (by assumption) (by with_reducible (repeat (first | exact Mine.At.here | apply Mine.At.there))) (by exact Eq.refl (some (some _))) ?_; k_whole)) | walk1 | (dsimp only; walk1) | (leave1; (try dsimp only)) | fail "no step"))
    rename (Fr h₀ L _ _) => zF
    rename (News h₀ L _ _) => zN
    exact hret _ _ D _ ys ds h1 hn4 h3 zF (cb_drop zN (by refine Mine.sub_keep ?_; (repeat (refine Mine.sub_cons ?_)); exact fun _ h => h))
  · intro i ys v I1 oI C1 oC D1 m1 h1 tk1 hk hy hv hC hx F N off ne
    obtain ⟨tv, rfl⟩ := hv
    obtain ⟨ds, d1, d2, d3⟩ := hy
    obtain ⟨b1, b2, b3⟩ := n_b hn4 hk
    (repeat' (first | (k_unfold; (try dsimp only)) | (k_end; kc_close) | ((with_reducible show wpAny _ _ (call (Value.builtin "sum") [Value.ref _]) _ _ _); k_dflt (refine' sum_pick ?k0 ?k1 ?k2 ?k3 ?k4 ?_; (case k0 => exact rfl); (case k1 => k_asm); (case k2 => k_asm); (case k3 => k_mem); (case k4 => assumption); k_whole); intro h' tk' t' F' N') | walk1 | (dsimp only; walk1) | (leave1; (try dsimp only)) | fail "no step"))
    refine CTurn.mk F' (cb_drop N' (Mine.sub_cons fun _ h => h)) ⟨ds ++ [_], IntsAre.snoc d1, by rw [List.length_append, d2]; rfl, fun d hd => (List.mem_append.mp hd).elim (d3 d) fun h => ?_⟩
    rw [List.mem_singleton.mp h]
    exact isDraw_mod _
end
section
variable {w : World} {p : Program} {loose : List PySem.Str} {mean : ExcName → Option Value} {mg mb : Locals} {h₀ : Heap} {L : Addr} {m : Locals} {news : Led} {s : Shared} {Q E : Value → Shared → Prop}
local macro_rules | `(tactic| k_all) => `(tactic| (refine Mine.ne_sufL (by with_reducible assumption) (by with_reducible assumption) ?_; walk_at "mine suf"))
theorem mach_c (T : PySem.Str) (t : Tok) (C : CodeHd h₀ 181 177) (hnw : ∀ p ∈ news, p.1 ≠ 177)
    (hret : ∀ s' M O tk t1 t2 t3 t4 tl tw ls, s'.gens = s.gens ∧ s'.os = s.os → MIs M O T → (∀ p ∈ news, @LT.lt Nat _ p.1 M.c1) → Fr h₀ L s'.heap m → News h₀ L s'.heap (mLed2 w M O 1 0 t1 t2 t3 t4 tl tw tk 0 ((177, tabObj ls) :: news)) → Q (.ref M.x) s') :
      Spec w p loose mean mg mb 20 200 (.ref 182) [.str T t] h₀ L m ((177, tabObj #[]) :: news) s Q E := by
  intro dp un gd cn cs a ccd cl outer A₀ base hB F X N T' hk hd hu
  refine wpAny_call ?_
  k_dflt (refine' code_defC ?k1 ?k2 ?k3 ?k4 ?k5 ?kA ?kF ?kK ?k6 ?k7 ?k8 ?k9 ?kB ?kD ?_ ?c2 ?c3 ?c4; (case kA => exact rfl); (case kF => exact rfl); (case kK => first | assumption | exact rfl); (case k1 => k_asm); (case k2 => k_asm); (case k3 => k_asm); (case k4 => k_asm); (case k5 => k_asm); (case k6 => k_is); (case k7 => k_is); (case k8 => k_room); (case k9 => first | exact BindsTo.of_eq rfl | exact binds_K (by k_in) rfl (by k_is) rfl rfl rfl); (case kB => exact rfl); (case kD => decide +kernel); (case c2 => exact rfl); (case c3 => exact rfl); (case c4 => exact rfl); k_whole; intro g' L' h' tk' cells' FG' F' N' Y' B' X' T' l1; (try k_lt l1); k_cells Y'; (try simp only [List.cons_append, List.nil_append] at N'); (try dsimp only); (try k_lift B'); (try k_fold))
  have C2 := CodeHd.keeps C (Fr.keep (h₀ := h₀) (L := L) (m := m) (by assumption))
  refine no_E ?_
  (repeat' ((first | (k_unfold; (try dsimp only)) | (k_end; kc_close) | ((with_reducible show wpAny _ _ (call (Value.ref 88) _) _ _ _); k_dflt (refine' call_cls ?k1 ?k2 ?k3 ?k4 ?k5 ?k6 ?_; (case k1 => k_asm); (case k2 => k_asm); (case k3 => k_asm); (case k4 => k_is); (case k5 => k_is); (case k6 => k_is); k_whole; intro x' d' h' F' N' l1 l2; (try k_lt l1); (try k_lt2 l2); (try k_sweep); k_enter)) | ((with_reducible show wpAny _ _ (callWith _ (Value.ref _) _ _ _) _ _ _); k_dflt (refine' callWith_K ?k1 ?k2 ?_; (case k1 => k_asm); (case k2 => k_is); k_whole)) | ((with_reducible show wpAny _ _ (setAttr (Value.ref _) (Str.ofString "read") _) _ _ _); k_dflt (refine' Mine.fnl_setAttr ?k1 ?k2 ?k3 ?k4 ?_; (case k1 => k_asm); (case k2 => k_asm); (case k3 => k_updF); (case k4 => exact rfl); k_whole); intro h' d' o' tk' F' N' l1 n'; (try dsimp only at N'); (try k_lt l1)) | walk1 | (dsimp only; walk1) | (leave1; (try dsimp only)) | fail "no step") <;> (try dsimp only)))
  refine' hret _ ⟨_, _, _, _, _, _, _, _, _, _⟩ ⟨_, _, _, _, _, _, _, _, _, _⟩ _ _ _ _ _ _ _ _ ⟨rfl, rfl⟩ ?I ?l ?F ?N
  case N =>
    refine' led_of (cb_drop ?n ?m)
    case n => assumption
    case m =>
      dsimp only [mLed]
      (repeat first | exact fun _ h => h | refine Mine.sub_keep ?_ | refine Mine.sub_cons ?_)
  case F => assumption
  case l =>
    intro p hp
    rename (@LT.lt Nat _ 177 _ ∧ AllLt _ news) => hl
    exact Nat.lt_succ_of_lt (allLt_mem hl.2 p hp)
  case I =>
    refine' ⟨?a, ?b, ?c, ?d, ?e⟩
    case a => assumption
    case b => exact ⟨_, by assumption⟩
    case c => assumption
    case d => exact ⟨⟨_, _, by assumption, by assumption⟩⟩
    case e => (refine ⟨?_, ?_, ?_, ?_, ?_, ?_, ?_, ?_, ?_⟩ <;> (dsimp only; lia))
end
section
variable {w : World} {p : Program} {loose : List PySem.Str} {mean : ExcName → Option Value} {mg mb : Locals} {h₀ : Heap} {L : Addr} {m : Locals} {news : Led} {s : Shared} {Q E : Value → Shared → Prop}
theorem b1_c (c : Nat) (t : Tok) (hc : c ∈ letters)
    (hret : ∀ h' tk', Fr h₀ L h' m → News h₀ L h' news → Q (.bool (c == 173)) { s with heap := h', toks := tk' }) :
      Spec w p loose mean mg mb 4 30 (.ref 110) [.str ⟨#[c]⟩ t] h₀ L m news s Q E := by
  intro dp un gd cn cs a ccd cl outer A₀ base hB F X N T' hk hd hu
  refine wpAny_call ?_
  k_dflt (refine' code_def ?k1 ?k2 ?k3 ?k4 ?k5 ?kA ?kF ?kK ?k6 ?k7 ?k8 ?k9 ?kB ?_ ?c2 ?c3 ?c4 ?c5; (case kA => exact rfl); (case kF => exact rfl); (case kK => first | assumption | exact rfl); (case k1 => k_asm); (case k2 => k_asm); (case k3 => k_asm); (case k4 => k_asm); (case k5 => k_asm); (case k6 => k_is); (case k7 => k_is); (case k8 => k_room); (case k9 => first | exact BindsTo.of_eq rfl | exact binds_K (by k_in) rfl (by k_is) rfl rfl rfl); (case c5 => decide); (case kB => exact locs rfl); (case c2 => exact rfl); (case c3 => exact rfl); (case c4 => exact rfl); k_whole; intro g' L' h' FG' F' N' B' X' T'; (try dsimp only); (try k_lift B'); (try k_fold))
  refine no_E ?_
  (repeat' ((first | (k_unfold; (try dsimp only)) | (k_end; kc_close) | ((with_reducible show wpAny _ _ (compareOp CmpOp.In (Value.int _ _) (Value.ref 100)) _ _ _); k_dflt (refine' Mine.in100 ?X ?F ?c ?_; (case X => k_asm); (case F => k_asm); (case c => assumption); k_whole)) | walk1 | (dsimp only; walk1) | (leave1; (try dsimp only)) | fail "no step") <;> (try dsimp only)))
  exact hret _ _ (by assumption) (by assumption)
end
section
section
variable {prog : Program} {w : World} {A : Around} {E : Value → Shared → Prop} {s : Shared} {h₀ : Heap} {L : Addr} {m : Locals} {t : Tok} {Q : Value → Shared → Prop}
theorem b3_get_m {c : Nat} {u : Tok} (X : (K w.params).In h₀) (Fx : Fr h₀ L s.heap m) (hc : c ∈ maths) (h : ∀ t, Q (.str ⟨#[lowOf c]⟩ t) { s with toks := s.toks + 1 }) :
    wpAny (model prog w) A (call (.builtin "dict.get") [.ref 111, .int (c : Int) u]) Q E s := by
  obtain ⟨t, e⟩ := b3val_math hc
  exact b3_get X Fx (by rw [e]; exact h t)
theorem b3_get_a {c : Nat} {u : Tok} (X : (K w.params).In h₀) (Fx : Fr h₀ L s.heap m) (h1 : 65 ≤ c) (h2 : c ≤ 104) (h : Q .none { s with toks := s.toks + 1 }) :
    wpAny (model prog w) A (call (.builtin "dict.get") [.ref 111, .int (c : Int) u]) Q E s :=
  b3_get X Fx (by rw [b3val_ascii h1 h2]; exact h)
noncomputable def asciis : List Nat := [97, 98, 99, 100, 101, 102, 103, 104, 65, 66, 67, 68, 69, 70, 71, 72]
theorem asciis_in : ∀ c ∈ asciis, 65 ≤ c ∧ c ≤ 104 := by decide
theorem lower_a : ∀ c ∈ asciis, Txt.lower ⟨#[c]⟩ = ⟨#[lowOf c]⟩ := by decide +kernel
theorem call_lower {c : Nat} (hc : c ∈ asciis) (h : ∀ t', Q (.str ⟨#[lowOf c]⟩ t') { s with toks := s.toks + 1 }) :
    wpAny (model prog w) A (call (.builtin "str.lower") [.str ⟨#[c]⟩ t]) Q E s :=
  SCL.lower (by show 1 ≤ 5592405; decide) fun _ => by rw [lower_a c hc]; exact h _
end
variable {w : World} {p : Program} {loose : List PySem.Str} {mean : ExcName → Option Value} {mg mb : Locals} {h₀ : Heap} {L : Addr} {m : Locals} {news : Led} {s : Shared} {Q E : Value → Shared → Prop}
theorem b3_m (c : Nat) (t : Tok) (hc : c ∈ maths)
    (hret : ∀ h' tk' t', Fr h₀ L h' m → News h₀ L h' news → Q (.str ⟨#[lowOf c]⟩ t') { s with heap := h', toks := tk' }) :
      Spec w p loose mean mg mb 4 30 (.ref 156) [.str ⟨#[c]⟩ t] h₀ L m news s Q E := by
  intro dp un gd cn cs a ccd cl outer A₀ base hB F X N T' hk hd hu
  refine wpAny_call ?_
  k_dflt (refine' code_def ?k1 ?k2 ?k3 ?k4 ?k5 ?kA ?kF ?kK ?k6 ?k7 ?k8 ?k9 ?kB ?_ ?c2 ?c3 ?c4 ?c5; (case kA => exact rfl); (case kF => exact rfl); (case kK => first | assumption | exact rfl); (case k1 => k_asm); (case k2 => k_asm); (case k3 => k_asm); (case k4 => k_asm); (case k5 => k_asm); (case k6 => k_is); (case k7 => k_is); (case k8 => k_room); (case k9 => first | exact BindsTo.of_eq rfl | exact binds_K (by k_in) rfl (by k_is) rfl rfl rfl); (case c5 => decide); (case kB => exact locs rfl); (case c2 => exact rfl); (case c3 => exact rfl); (case c4 => exact rfl); k_whole; intro g' L' h' FG' F' N' B' X' T'; (try dsimp only); (try k_lift B'); (try k_fold))
  refine no_E ?_
  (repeat' ((first | (k_unfold; (try dsimp only)) | (k_end; kc_close) | ((with_reducible show wpAny _ _ (getMethod (Value.ref 111) (Str.ofString "get") _) _ _ _); k_dflt (refine' Mine.b3_meth ?X ?F ?_; (case X => k_asm); (case F => k_asm); k_whole); (try dsimp only)) | ((with_reducible show wpAny _ _ (call (Value.builtin "dict.get") [Value.ref 111, Value.int _ _]) _ _ _); first | (k_dflt (refine' Mine.b3_get_m ?zX ?zF ?zc ?_; (case zX => k_asm); (case zF => k_asm); (case zc => assumption); k_whole); intro t') | (k_dflt (refine' Mine.b3_get_a ?zX ?zF ?zc ?zd ?_; (case zX => k_asm); (case zF => k_asm); (case zc => assumption); (case zd => assumption); k_whole))) | ((with_reducible show wpAny _ _ (call (Value.builtin "str.lower") [Value.str _ _]) _ _ _); k_dflt (refine' Mine.call_lower ?zc ?_; (case zc => assumption); k_whole); intro t') | walk1 | (dsimp only; walk1) | (leave1; (try dsimp only)) | fail "no step") <;> (try dsimp only)))
  exact hret _ _ _ (by assumption) (by assumption)
theorem b3_a (c : Nat) (t : Tok) (hc : c ∈ asciis)
    (hret : ∀ h' tk' t', Fr h₀ L h' m → News h₀ L h' news → Q (.str ⟨#[lowOf c]⟩ t') { s with heap := h', toks := tk' }) :
      Spec w p loose mean mg mb 4 30 (.ref 156) [.str ⟨#[c]⟩ t] h₀ L m news s Q E := by
  intro dp un gd cn cs a ccd cl outer A₀ base hB F X N T' hk hd hu
  obtain ⟨h1, h2⟩ := asciis_in c hc
  refine wpAny_call ?_
  k_dflt (refine' code_def ?k1 ?k2 ?k3 ?k4 ?k5 ?kA ?kF ?kK ?k6 ?k7 ?k8 ?k9 ?kB ?_ ?c2 ?c3 ?c4 ?c5; (case kA => exact rfl); (case kF => exact rfl); (case kK => first | assumption | exact rfl); (case k1 => k_asm); (case k2 => k_asm); (case k3 => k_asm); (case k4 => k_asm); (case k5 => k_asm); (case k6 => k_is); (case k7 => k_is); (case k8 => k_room); (case k9 => first | exact BindsTo.of_eq rfl | exact binds_K (by k_in) rfl (by k_is) rfl rfl rfl); (case c5 => decide); (case kB => exact locs rfl); (case c2 => exact rfl); (case c3 => exact rfl); (case c4 => exact rfl); k_whole; intro g' L' h' FG' F' N' B' X' T'; (try dsimp only); (try k_lift B'); (try k_fold))
  refine no_E ?_
  (repeat' ((first | (k_unfold; (try dsimp only)) | (k_end; kc_close) | ((with_reducible show wpAny _ _ (getMethod (Value.ref 111) (Str.ofString "get") _) _ _ _); k_dflt (refine' Mine.b3_meth ?X ?F ?_; (case X => k_asm); (case F => k_asm); k_whole); (try dsimp only)) | ((with_reducible show wpAny _ _ (call (Value.builtin "dict.get") [Value.ref 111, Value.int _ _]) _ _ _); first | (k_dflt (refine' Mine.b3_get_m ?zX ?zF ?zc ?_; (case zX => k_asm); (case zF => k_asm); (case zc => assumption); k_whole); intro t') | (k_dflt (refine' Mine.b3_get_a ?zX ?zF ?zc ?zd ?_; (case zX => k_asm); (case zF => k_asm); (case zc => assumption); (case zd => assumption); k_whole))) | ((with_reducible show wpAny _ _ (call (Value.builtin "str.lower") [Value.str _ _]) _ _ _); k_dflt (refine' Mine.call_lower ?zc ?_; (case zc => assumption); k_whole); intro t') | walk1 | (dsimp only; walk1) | (leave1; (try dsimp only)) | fail "no step") <;> (try dsimp only)))
  exact hret _ _ _ (by assumption) (by assumption)
end
section
noncomputable def isLet (a : Nat) : Prop := a ∈ maths ∨ a ∈ asciis
theorem isLet.mem {a : Nat} (h : isLet a) : a ∈ letters := by
  have h1 : ∀ a ∈ maths, a ∈ letters := by decide
  have h2 : ∀ a ∈ asciis, a ∈ letters := by decide
  exact h.elim (h1 a) (h2 a)
theorem isLet.ne {a : Nat} (h : isLet a) : (a == 173) = false := by
  have h1 : ∀ a ∈ maths, (a == 173) = false := by decide
  have h2 : ∀ a ∈ asciis, (a == 173) = false := by decide
  exact h.elim (h1 a) (h2 a)
variable {w : World} {p : Program} {loose : List PySem.Str} {mean : ExcName → Option Value} {mg mb : Locals} {h₀ : Heap} {L : Addr} {m : Locals} {news : Led} {s : Shared} {Q E : Value → Shared → Prop}
theorem b3_c (c : Nat) (t : Tok) (hc : isLet c)
    (hret : ∀ h' tk' t', Fr h₀ L h' m → News h₀ L h' news → Q (.str ⟨#[lowOf c]⟩ t') { s with heap := h', toks := tk' }) :
      Spec w p loose mean mg mb 4 30 (.ref 156) [.str ⟨#[c]⟩ t] h₀ L m news s Q E :=
  hc.elim (fun h => b3_m c t h hret) (fun h => b3_a c t h hret)
theorem b1_no (c : Nat) (t : Tok) (hc : isLet c)
    (hret : ∀ h' tk', Fr h₀ L h' m → News h₀ L h' news → Q (.bool false) { s with heap := h', toks := tk' }) :
      Spec w p loose mean mg mb 4 30 (.ref 110) [.str ⟨#[c]⟩ t] h₀ L m news s Q E :=
  b1_c c t hc.mem fun h' tk' F N => by rw [hc.ne]; exact hret h' tk' F N
theorem b1_yes (t : Tok)
    (hret : ∀ h' tk', Fr h₀ L h' m → News h₀ L h' news → Q (.bool true) { s with heap := h', toks := tk' }) :
      Spec w p loose mean mg mb 4 30 (.ref 110) [.str ⟨#[173]⟩ t] h₀ L m news s Q E :=
  b1_c 173 t (by decide) fun h' tk' F N => hret h' tk' F N
end
section
variable {w : World} {p : Program} {loose : List PySem.Str} {mean : ExcName → Option Value} {mg mb : Locals} {h₀ : Heap} {L : Addr} {m : Locals} {news : Led} {s : Shared} {Q E : Value → Shared → Prop}
theorem v_num (m1 m2 j : Int) (b : UInt64) (t1 t2 t3 : Tok) (hb : HueOk b j) (k1 : m1.natAbs ≤ 64) (k2 : m2.natAbs ≤ 64) (h0 : 0 ≤ j) (hj : j ≤ 31 ∨ 42 < j)
    (hret : ∀ h' tk' y, NumV y (dayN (shareOf j) m1 m2) 5 → Fr h₀ L h' m → News h₀ L h' news → Q y { s with heap := h', toks := tk' }) :
      Spec w p loose mean mg mb 4 20 (.ref 50) [.int m1 t1, .int m2 t2, .float b t3] h₀ L m news s Q E := by
  refine v_c m1 m2 j b t1 t2 t3 hb k1 k2 h0 hj (fun h' tk' r tr hj hr F N => hret h' tk' _ (.inr ⟨_, _, rfl, ?_⟩) F N) (fun h' tk' h1 h2 F N => hret h' tk' _ (.inl ⟨_, _, rfl, ?_⟩) F N) (fun h' tk' h1 F N => hret h' tk' _ (.inl ⟨_, _, rfl, ?_⟩) F N)
  · have e : 64 * m1 + 6 * j * (m2 - m1) = dayN (shareOf j) m1 m2 * 2 ^ 1 := by
      have : shareOf j = 3 * j := by unfold shareOf; rw [if_pos (by lia), if_neg (by lia)]
      rw [this, dayN, Int.mul_sub, Int.add_mul, Int.sub_mul, Int.mul_assoc 6 j m2, Int.mul_assoc 6 j m1, Int.mul_assoc 3 j m2, Int.mul_assoc 3 j m1]
      lia
    rw [e] at hr
    exact hr.down (k := 5)
  · have : shareOf j = 32 := by unfold shareOf; rw [if_pos (by lia), if_pos (by lia)]
    rw [this, dayN]; lia
  · have : shareOf j = 0 := by unfold shareOf; rw [if_neg (by lia)]
    rw [this, dayN]; lia
structure Days (news : Led) (dl : Addr) (ee : Nat) (ps : List Addr) (rg : List (Int × Int)) : Prop where
  list : (dl, ({ cls := .type "list", data := .seq (ps.map Value.ref).toArray ee } : Obj)) ∈ news
  len : ps.length = rg.length
  day : ∀ (i : Nat) (q : Addr), ps[i]? = some q → ∃ r g tr tg, rg[i]? = some (r, g) ∧ (q, ({ cls := .type "tuple", data := .seq #[.int r tr, .int g tg] } : Obj)) ∈ news ∧ (0 ≤ r ∧ r ≤ 7) ∧ 0 ≤ g ∧ g ≤ 7
noncomputable def keptN (a : Int) (rg : List (Int × Int)) : Int := rg.foldl (fun c x => c * dayN a x.2 x.1) 1
theorem shareOf_in {j : Int} (h : 0 ≤ j) : 0 ≤ shareOf j ∧ shareOf j ≤ 32 := by unfold shareOf; split <;> (try split) <;> lia
theorem dayN_in {a g r : Int} (ha : 0 ≤ a ∧ a ≤ 32) (hg : 0 ≤ g ∧ g ≤ 7) (hr : 0 ≤ r ∧ r ≤ 7) : 0 ≤ dayN a g r ∧ dayN a g r ≤ 224 := by
  have h1 : 0 ≤ (32 - a) * g := Int.mul_nonneg (by lia) hg.1
  have h2 : 0 ≤ a * r := Int.mul_nonneg ha.1 hr.1
  have h3 : (32 - a) * g ≤ (32 - a) * 7 := Int.mul_le_mul_of_nonneg_left hg.2 (by lia)
  have h4 : a * r ≤ a * 7 := Int.mul_le_mul_of_nonneg_left hr.2 ha.1
  unfold dayN; lia
theorem keptN_snoc (a : Int) (rg : List (Int × Int)) (x : Int × Int) : keptN a (rg ++ [x]) = keptN a rg * dayN a x.2 x.1 := by unfold keptN; rw [List.foldl_append]; rfl
noncomputable def pow224 : Nat → Int
  | 0 => 1
  | n + 1 => pow224 n * 224
theorem keep_in {c d : Int} {i : Nat} (h : 0 ≤ c ∧ c ≤ pow224 i) (hd : 0 ≤ d ∧ d ≤ 224) : 0 ≤ c * d ∧ c * d ≤ pow224 (i + 1) :=
  ⟨Int.mul_nonneg h.1 hd.1, Int.mul_le_mul h.2 hd.2 hd.1 (by lia)⟩
theorem pow224_le {i : Nat} (h : i ≤ 4) : pow224 i ≤ 2517630976 := by
  have : i = 0 ∨ i = 1 ∨ i = 2 ∨ i = 3 ∨ i = 4 := by lia
  rcases this with rfl | rfl | rfl | rfl | rfl <;> decide
theorem take_snoc {α : Type} {l : List α} {i : Nat} {x : α} (h : l[i]? = some x) : l.take (i + 1) = l.take i ++ [x] := by rw [List.take_add_one, h]; rfl
theorem keptN_in {a : Int} {rg : List (Int × Int)} (ha : 0 ≤ a ∧ a ≤ 32) (hb : ∀ x ∈ rg, (0 ≤ x.1 ∧ x.1 ≤ 7) ∧ 0 ≤ x.2 ∧ x.2 ≤ 7) : 0 ≤ keptN a rg ∧ keptN a rg ≤ pow224 rg.length := by
  have key : ∀ i, i ≤ rg.length → 0 ≤ keptN a (rg.take i) ∧ keptN a (rg.take i) ≤ pow224 i := by
    intro i
    induction i with
    | zero => intro _; exact ⟨by show (0 : Int) ≤ 1; decide, by show (1 : Int) ≤ 1; decide⟩
    | succ i ih =>
      intro hi
      have hx : rg[i]? = some rg[i] := List.getElem?_eq_getElem (by lia)
      have hm := hb _ (List.getElem_mem (l := rg) (n := i) (by lia))
      rw [take_snoc hx, keptN_snoc]
      exact keep_in (ih (by lia)) (dayN_in ha hm.2 hm.1)
  have := key rg.length (Nat.le_refl _)
  rwa [List.take_length] at this
theorem Days.all {dl : Addr} {ee : Nat} {ps : List Addr} {rg : List (Int × Int)} (D : Days news dl ee ps rg) : ∀ x ∈ rg, (0 ≤ x.1 ∧ x.1 ≤ 7) ∧ 0 ≤ x.2 ∧ x.2 ≤ 7 := by
  intro x hx
  obtain ⟨i, hi, rfl⟩ := List.getElem_of_mem hx
  have hp : i < ps.length := by rw [D.len]; exact hi
  obtain ⟨r, g, tr, tg, e, _, h1, h2⟩ := D.day i _ (List.getElem?_eq_getElem hp)
  rw [List.getElem?_eq_getElem hi] at e
  rw [Option.some.inj e]
  exact ⟨h1, h2⟩
noncomputable abbrev kNs : List PySem.Str := [PySem.Str.ofString "j", PySem.Str.ofString "days", PySem.Str.ofString "coin", PySem.Str.ofString "red", PySem.Str.ofString "green"]
theorem kept_c (j : Int) (dl : Addr) (ee : Nat) (ps : List Addr) (rg : List (Int × Int)) (tj : Tok) (D : Days news dl ee ps rg) (hn : rg.length ≤ 4) (hq : HueOk (hueB j) j) (h0 : 0 ≤ j) (h63 : j ≤ 63) (hj : j ≤ 31 ∨ 42 < j)
    (hret : ∀ h' tk' v, NumV v (keptN (shareOf j) rg) (5 * rg.length) → Fr h₀ L h' m → News h₀ L h' news → Q v { s with heap := h', toks := tk' }) :
      Spec w p loose mean mg mb 10 60 (.ref 206) [.ref dl, .int j tj] h₀ L m news s Q E := by
  intro dp un gd cn cs a ccd cl outer A₀ base hB F X N T hk hd hu
  refine wpAny_call ?_
  k_dflt (refine' code_def ?k1 ?k2 ?k3 ?k4 ?k5 ?kA ?kF ?kK ?k6 ?k7 ?k8 ?k9 ?kB ?_ ?c2 ?c3 ?c4 ?c5; (case kA => exact rfl); (case kF => exact rfl); (case kK => first | assumption | exact rfl); (case k1 => k_asm); (case k2 => k_asm); (case k3 => k_asm); (case k4 => k_asm); (case k5 => k_asm); (case k6 => k_is); (case k7 => k_is); (case k8 => k_room); (case k9 => first | exact BindsTo.of_eq rfl | exact binds_K (by k_in) rfl (by k_is) rfl rfl rfl); (case c5 => decide); (case kB => exact locs rfl); (case c2 => exact rfl); (case c3 => exact rfl); (case c4 => exact rfl); k_whole; intro g' L' h' FG' F' N' B' X' T'; (try dsimp only); (try k_lift B'); (try k_fold))
  have nd9 : Mine.NoDup [PySem.Str.ofString "j", PySem.Str.ofString "days", PySem.Str.ofString "coin", PySem.Str.ofString "red", PySem.Str.ofString "green"] := Mine.NoDup.of (by decide +kernel)
  have F0 : Fr _ _ _ (Mine.look [PySem.Str.ofString "j", PySem.Str.ofString "days", PySem.Str.ofString "coin", PySem.Str.ofString "red", PySem.Str.ofString "green"] [some (.int j tj), some (.ref dl), none, none, none]) := Mine.start_P (bs := [(PySem.Str.ofString "days", .ref dl), (PySem.Str.ofString "j", .int j tj)]) (ns' := [PySem.Str.ofString "coin", PySem.Str.ofString "red", PySem.Str.ofString "green"]) (k := 3) F'
  clear F'
  refine Mine.gen_tk ?_; intro tk0
  refine no_E ?_
  (repeat' (first | (k_unfold; (try dsimp only)) | (k_end; kc_close) | ((with_reducible show wpAny _ _ (eval (Expr.Name _ _) _) _ _ _); k_dflt (refine Mine.name_P (by with_reducible assumption) (by assumption) (by with_reducible (repeat (first | exact Mine.At.here | apply Mine.At.there))) (by exact Eq.refl (some (some _))) ?_; k_whole)) | ((with_reducible show wpAny _ _ (storeName _ _ _) _ _ _); k_dflt (refine Mine.store_P (by with_reducible assumption) (by k_asm) (by assumption) (by with_reducible (repeat (first | exact Mine.At.here | apply Mine.At.there))) (by rfl) ?_; k_whole; intro h' F' N'; (try dsimp only [List.set] at F'); (try k_sweep))) | walk1 | (dsimp only; walk1) | (leave1; (try dsimp only)) | fail "no step"))
  refine For_list (h₀ := g') (L := L') (fun x : Value × Option Value × Option Value => look kNs [some (.int j tj), some (.ref dl), some x.1, x.2.1, x.2.2]) (fun _ => news)
    (fun i x => NumV x.1 (keptN (shareOf j) (rg.take i)) (5 * i) ∧ 0 ≤ keptN (shareOf j) (rg.take i) ∧ keptN (shareOf j) (rg.take i) ≤ pow224 i) (vs := ps.map Value.ref) (l := dl) (ep := ee) (by rfl) (fun _ => D.list) ?_ ?_ ?_
  · (repeat' (first | (k_unfold; (try dsimp only)) | (k_end; kc_close) | ((with_reducible show wpAny _ _ (eval (Expr.Name _ _) _) _ _ _); k_dflt (refine Mine.name_P (by with_reducible assumption) (by assumption) (by with_reducible (repeat (first | exact Mine.At.here | apply Mine.At.there))) (by exact Eq.refl (some (some _))) ?_; k_whole)) | ((with_reducible show wpAny _ _ (storeName _ _ _) _ _ _); k_dflt (refine Mine.store_P (by with_reducible assumption) (by k_asm) (by assumption) (by with_reducible (repeat (first | exact Mine.At.here | apply Mine.At.there))) (by rfl) ?_; k_whole; intro h' F' N'; (try dsimp only [List.set] at F'); (try k_sweep))) | walk1 | (dsimp only; walk1) | (leave1; (try dsimp only)) | fail "no step"))
    exact LStart.mk (_, _, _) ⟨NumV.one _, (by show (0 : Int) ≤ 1; decide), (by show (1 : Int) ≤ 1; decide)⟩ F' N'
  · intro i x v h tk I o hv J F' N' ne li
    obtain ⟨hx, hlo, hhi⟩ := J
    rw [List.getElem?_map] at hv
    obtain ⟨q, hq1, rfl⟩ := Option.map_eq_some_iff.mp hv
    obtain ⟨r, g, tr, tg, hrg, hm, hr, hg⟩ := D.day i q hq1
    have hi : i < 4 := Nat.lt_of_lt_of_le (List.getElem?_eq_some_iff.mp hrg).1 hn
    have hd1 := dayN_in (shareOf_in h0) hg hr
    have hk1 := keep_in ⟨hlo, hhi⟩ hd1
    have hp := pow224_le (i := i + 1) (by lia)
    have hp0 := pow224_le (i := i) (by lia)
    have q1 : (keptN (shareOf j) (rg.take i)).natAbs < 2 ^ 53 := by lia
    have q2 : (dayN (shareOf j) g r).natAbs < 2 ^ 53 := by lia
    have q3 : (keptN (shareOf j) (rg.take i) * dayN (shareOf j) g r).natAbs < 2 ^ 53 := by lia
    (repeat' (first | (k_unfold; (try dsimp only)) | (k_end; kc_close) | ((with_reducible show wpAny _ _ (eval (Expr.Name _ _) _) _ _ _); k_dflt (refine Mine.name_P (by with_reducible assumption) (by assumption) (by with_reducible (repeat (first | exact Mine.At.here | apply Mine.At.there))) (by exact Eq.refl (some (some _))) ?_; k_whole)) | ((with_reducible show wpAny _ _ (storeName _ _ _) _ _ _); k_dflt (refine Mine.store_P (by with_reducible assumption) (by k_asm) (by assumption) (by with_reducible (repeat (first | exact Mine.At.here | apply Mine.At.there))) (by rfl) ?_; k_whole; intro h' F' N'; (try dsimp only [List.set] at F'); (try k_sweep))) | ((with_reducible show wpAny _ _ (letOwnedTupleGo _ _ _) _ _ _); first | (with_reducible refine Mine.ownName_T ?_) | (k_dflt (refine Mine.ownList_T (by k_asm) (by k_mem) (by assumption) ?_; k_whole))) | ((with_reducible show wpAny _ _ (call (Value.ref 50) _) _ _ _); k_dflt (refine' Mine.v_num _ _ _ _ _ _ _ ?hue ?k1 ?k2 ?h0 ?hj ?_ _ _ _ _ _ _ _ _ _ _ _ ?c1 ?c2 ?c3 ?c4 ?c5 ?c6 ?c7 ?c8; (case hue => assumption); (case k1 => lia); (case k2 => lia); (case h0 => assumption); (case hj => assumption);(case c1 => k_asm); (case c2 => k_asm); (case c3 => k_asm); (case c4 => k_asm); (case c5 => k_asm); (case c6 => first | assumption | exact rfl); (case c7 => k_room); (case c8 => k_room); k_whole); intro h' tk' y' hy' F' N'; (try dsimp only)) | ((with_reducible show wpAny _ _ (binaryOp Operator.Mult _ _) _ _ _); k_dflt (refine Mine.mulV (by rfl) (by with_reducible assumption) (by with_reducible assumption) (by with_reducible assumption) (by with_reducible assumption) (by with_reducible assumption) (by lia) ?_; k_whole); intro v' tk' hv') | walk1 | (dsimp only; walk1) | (leave1; (try dsimp only)) | fail "no step"))
    have e1 : rg.take (i + 1) = rg.take i ++ [(r, g)] := take_snoc hrg
    refine TEnd.mk (_, some _, some _) ⟨?_, ne⟩ F' N'
    rw [e1, keptN_snoc]
    exact ⟨hv', hk1.1, hk1.2⟩
  · intro x h tk J F' N'
    rw [List.length_map, D.len, List.take_length] at J
    (repeat' (first | (k_unfold; (try dsimp only)) | (k_end; kc_close) | ((with_reducible show wpAny _ _ (eval (Expr.Name _ _) _) _ _ _); k_dflt (refine Mine.name_P (by with_reducible assumption) (by assumption) (by with_reducible (repeat (first | exact Mine.At.here | apply Mine.At.there))) (by exact Eq.refl (some (some _))) ?_; k_whole)) | ((with_reducible show wpAny _ _ (storeName _ _ _) _ _ _); k_dflt (refine Mine.store_P (by with_reducible assumption) (by k_asm) (by assumption) (by with_reducible (repeat (first | exact Mine.At.here | apply Mine.At.there))) (by rfl) ?_; k_whole; intro h' F' N'; (try dsimp only [List.set] at F'); (try k_sweep))) | walk1 | (dsimp only; walk1) | (leave1; (try dsimp only)) | fail "no step"))
    exact hret _ _ _ J.1 (by assumption) (by assumption)
end
section
variable {w : World} {p : Program} {loose : List PySem.Str} {mean : ExcName → Option Value} {mg mb : Locals} {h₀ : Heap} {L : Addr} {m : Locals} {news : Led} {s : Shared} {Q E : Value → Shared → Prop}
theorem getD_in {l : List Int} {B : Int} (hB : 0 < B) (h : ∀ x ∈ l, 0 ≤ x ∧ x < B) (i : Nat) : 0 ≤ l.getD i 0 ∧ l.getD i 0 < B := by
  rw [List.getD_eq_getElem?_getD]
  cases e : l[i]? with
  | none => exact ⟨Int.le_refl _, hB⟩
  | some x => exact h x (List.mem_of_getElem? e)
theorem pow_le32 {a : Int} {n : Nat} (h0 : 0 ≤ a) (h1 : a ≤ 32) (hn : n ≤ 4) : 0 ≤ a ^ n ∧ a ^ n ≤ 1048576 := by
  have h3 : a ^ n ≤ 32 ^ n := by
    clear hn
    induction n with
    | zero => exact Int.le_of_eq (by rw [Int.pow_zero, Int.pow_zero])
    | succ k ih =>
      rw [Int.pow_succ, Int.pow_succ]
      exact Int.mul_le_mul ih h1 h0 (Int.pow_nonneg (by decide))
  have h5 : (32 : Int) ^ n ≤ 1048576 := by
    have : n = 0 ∨ n = 1 ∨ n = 2 ∨ n = 3 ∨ n = 4 := by lia
    rcases this with rfl | rfl | rfl | rfl | rfl <;> decide
  exact ⟨Int.pow_nonneg h0, Int.le_trans h3 h5⟩
noncomputable def sumTo (cs : List Int) (n : Nat) (a : Int) : Int := ((List.range (n + 1)).map fun k => cs.getD k 0 * a ^ k * (32 - a) ^ (n - k)).sum
theorem sum_is {cs : List Int} {n : Nat} {aa : Int} : ((rangeKs 0 ((((n + 1 : Nat) : Int) - 1 + 1 - 0).toNat)).map fun k' => if k' < ((n + 1 : Nat) : Int) - 1 + 1 then cs.getD k'.toNat 0 * aa ^ k'.toNat * (32 - aa) ^ (((n + 1 : Nat) : Int) - 1 - k').toNat else k').sum = sumTo cs n aa := by
  unfold sumTo rangeKs
  rw [List.map_map]
  have e : (((n + 1 : Nat) : Int) - 1 + 1 - 0).toNat = n + 1 := by lia
  rw [e]
  congr 1
  refine List.map_congr_left fun k hk => ?_
  have hk' := List.mem_range.mp hk
  have e0 : (0 : Int) + (k : Int) < ((n + 1 : Nat) : Int) - 1 + 1 := by lia
  have e1 : ((0 : Int) + (k : Int)).toNat = k := by lia
  have e2 : (((n + 1 : Nat) : Int) - 1 - ((0 : Int) + (k : Int))).toNat = n - k := by lia
  simp only [Function.comp, if_pos e0, e1, e2]
theorem mul_c {l : List Int} (h : ∀ x ∈ l, 0 ≤ x ∧ x < 65536) (i : Nat) (b : Int) : IntMulOk (l.getD i 0) b := by
  obtain ⟨h1, h2⟩ := getD_in (by decide) h i
  exact IntMulOk.of_left (intBits_le_64 (by lia) (by lia))
theorem mul_p {a b e : Int} (h0 : 0 ≤ a) (h1 : a ≤ 32) (hn : e ≤ 4) : IntMulOk b (a ^ e.toNat) := by
  obtain ⟨h1, h2⟩ := pow_le32 h0 h1 (n := e.toNat) (by lia)
  exact IntMulOk.of_right (intBits_le_64 (by lia) (by lia))
theorem abs_32 {a : Int} (h0 : 0 ≤ a) (h1 : a ≤ 32) : a.natAbs < 2 ^ 64 := by lia
theorem lsum_g (cs : List Int) (n : Nat) (aa : Int) (ca : Addr) (ee : Nat) (vs : List Value) (ta : Tok) (hm : (ca, ({ cls := .type "list", data := .seq vs.toArray ee } : Obj)) ∈ news) (hv : IntsAre vs cs) (hl : cs.length = n + 1) (hn : n ≤ 4)
    (hC : ∀ x ∈ cs, 0 ≤ x ∧ x < 65536) (ha : 0 ≤ aa) (hb : aa ≤ 32)
    (hret : ∀ h' tk' tr, Fr h₀ L h' m → News h₀ L h' news → Q (.int (sumTo cs n aa) tr) { s with heap := h', toks := tk' }) :
      Spec w p loose mean mg mb 10 60 (.ref 211) [.ref ca, .int aa ta] h₀ L m news s Q E := by
  intro dp un gd cn cs' a ccd cl outer A₀ base hB F X N T hk hd hu
  refine wpAny_call ?_
  k_dflt (refine' code_defC ?k1 ?k2 ?k3 ?k4 ?k5 ?kA ?kF ?kK ?k6 ?k7 ?k8 ?k9 ?kB ?kD ?_ ?c2 ?c3 ?c4; (case kA => exact rfl); (case kF => exact rfl); (case kK => first | assumption | exact rfl); (case k1 => k_asm); (case k2 => k_asm); (case k3 => k_asm); (case k4 => k_asm); (case k5 => k_asm); (case k6 => k_is); (case k7 => k_is); (case k8 => k_room); (case k9 => first | exact BindsTo.of_eq rfl | exact binds_K (by k_in) rfl (by k_is) rfl rfl rfl); (case kB => exact rfl); (case kD => decide +kernel); (case c2 => exact rfl); (case c3 => exact rfl); (case c4 => exact rfl); k_whole; intro g' L' h' tk' cells' FG' F' N' Y' B' X' T' l1; (try k_lt l1); k_cells Y'; (try simp only [List.cons_append, List.nil_append] at N'); (try dsimp only); (try k_lift B'); (try k_fold))
  refine no_E ?_
  have hz : vs.toArray.size = n + 1 := by rw [List.size_toArray, hv.length, hl]
  (repeat' (first | (k_unfold; (try dsimp only)) | (k_end; kc_close) | ((rename (_ < (0 : Int) + (((_ - 0 : Int).toNat : Nat) : Int)) => kb9); (have kb8 := Mine.kb_of (by with_reducible assumption) kb9); clear kb9) | ((with_reducible show wpAny _ _ (subscriptTail _ _ (Value.ref _) (Value.int _ _)) _ _ _); k_dflt (refine Mine.item_intZ (by k_asm) (by k_mem) (by with_reducible assumption) (by lia) (by lia) (by lia) ?_ (by with_unfolding_all rfl); k_whole); intro t'; (try dsimp only)) | ((with_reducible show LCg.CompSrc _ _ _ _ _ _ _ _ _ _ _ _ (Value.ref _) _); k_dflt (refine Mine.src_range (by rfl) (by with_reducible assumption) (by k_asm) (by assumption) (by first | rfl | lia) (by first | lia | decide) ?_; intro g')) | ((with_reducible refine Mine.comp_stop ?_)) | ((with_reducible show wpAny _ _ (binaryOp Operator.Pow _ _) _ _ _); k_dflt (refine pow_int_small (by lia) (by lia) (abs_32 (by first | with_reducible assumption | lia) (by first | with_reducible assumption | lia)) ?_)) | ((with_reducible show wpAny _ _ (binaryOp Operator.Mult _ _) _ _ _); k_dflt (first | refine mul_int ?_ (mul_c (by with_reducible assumption) _ _) | refine mul_int ?_ (mul_p (by with_reducible assumption) (by with_reducible assumption) (by lia)) | refine mul_int ?_ (mul_p (by lia) (by lia) (by lia)))) | walk1 | (dsimp only; walk1) | (leave1; (try dsimp only)) | fail "no step"))
  refine q_int sum_is (hret _ _ _ (by assumption) ?_)
  exact cb_drop (by assumption) (sub_cons (sub_cons (sub_cons (sub_cons fun _ h => h))))
end
section
variable {w : World} {p : Program} {loose : List PySem.Str} {mean : ExcName → Option Value} {mg mb : Locals} {h₀ : Heap} {L : Addr} {m : Locals} {news : Led} {s : Shared} {Q E : Value → Shared → Prop}
theorem eqV_true {prog : Program} {A : Around} {x : Value} {a d : Int} {k : Nat} {u : Tok} (hx : NumV x a k) (hk : k ≤ 1074) (e : a = d * 2 ^ k) (h : Q (.bool true) s) : wpAny (model prog w) A (compareOp .Eq x (.int d u)) Q E s :=
  eqV hx hk (by rw [decide_eq_true e]; exact h)
theorem q_bool {b : Bool} {s' : Shared} (hb : b = true) (h : Q (.bool true) s') : Q (.bool b) s' := by subst hb; exact h
theorem holds_g (j : Int) (dl : Addr) (ee : Nat) (ps : List Addr) (rg : List (Int × Int)) (cs : List Int) (n : Nat) (ca : Addr) (ec : Nat) (vs : List Value) (purse sc : Int) (tj tp ts : Tok) (D : Days news dl ee ps rg) (hn : rg.length ≤ 4) (hrn : rg.length = n) (h1n : 1 ≤ n)
    (hm : (ca, ({ cls := .type "list", data := .seq vs.toArray ec } : Obj)) ∈ news) (hv : IntsAre vs cs) (hl : cs.length = n + 1) (hC : ∀ x ∈ cs, 0 ≤ x ∧ x < 65536) (hq : HueOk (hueB j) j) (h0 : 0 ≤ j) (h63 : j ≤ 63) (hj : j ≤ 31 ∨ 42 < j)
    (hsc : sc = 32 ^ n) (hp0 : 0 ≤ purse) (hp1 : purse ≤ 1000000000000) (e1 : keptN (shareOf j) rg = sumTo cs n (shareOf j)) (e2 : sumTo cs n (shareOf j) * (n : Int) ^ n ≤ purse * 32 ^ n)
    (hret : ∀ h' tk', Fr h₀ L h' m → News h₀ L h' news → Q (.bool true) { s with heap := h', toks := tk' }) :
      Spec w p loose mean mg mb 20 120 (.ref 218) [.ref dl, .ref ca, .int purse tp, .int sc ts, .int j tj] h₀ L m news s Q E := by
  intro dp un gd cn cs' a ccd cl outer A₀ base hB F X N T hk hd hu
  refine wpAny_call ?_
  k_dflt (refine' code_def ?k1 ?k2 ?k3 ?k4 ?k5 ?kA ?kF ?kK ?k6 ?k7 ?k8 ?k9 ?kB ?_ ?c2 ?c3 ?c4 ?c5; (case kA => exact rfl); (case kF => exact rfl); (case kK => first | assumption | exact rfl); (case k1 => k_asm); (case k2 => k_asm); (case k3 => k_asm); (case k4 => k_asm); (case k5 => k_asm); (case k6 => k_is); (case k7 => k_is); (case k8 => k_room); (case k9 => first | exact BindsTo.of_eq rfl | exact binds_K (by k_in) rfl (by k_is) rfl rfl rfl); (case c5 => decide); (case kB => exact locs rfl); (case c2 => exact rfl); (case c3 => exact rfl); (case c4 => exact rfl); k_whole; intro g' L' h' FG' F' N' B' X' T'; (try dsimp only); (try k_lift B'); (try k_fold))
  have nd9 : Mine.NoDup [PySem.Str.ofString "j", PySem.Str.ofString "scale", PySem.Str.ofString "purse", PySem.Str.ofString "counts", PySem.Str.ofString "days", PySem.Str.ofString "n", PySem.Str.ofString "share", PySem.Str.ofString "due"] := Mine.NoDup.of (by decide +kernel)
  have F0 : Fr _ _ _ (Mine.look [PySem.Str.ofString "j", PySem.Str.ofString "scale", PySem.Str.ofString "purse", PySem.Str.ofString "counts", PySem.Str.ofString "days", PySem.Str.ofString "n", PySem.Str.ofString "share", PySem.Str.ofString "due"] [some (.int j tj), some (.int sc ts), some (.int purse tp), some (.ref ca), some (.ref dl), none, none, none]) := Mine.start_P (bs := [(PySem.Str.ofString "days", .ref dl), (PySem.Str.ofString "counts", .ref ca), (PySem.Str.ofString "purse", .int purse tp), (PySem.Str.ofString "scale", .int sc ts), (PySem.Str.ofString "j", .int j tj)]) (ns' := [PySem.Str.ofString "n", PySem.Str.ofString "share", PySem.Str.ofString "due"]) (k := 3) F'
  clear F'
  refine Mine.gen_tk ?_; intro tk0
  refine no_E ?_
  have hn4 : n ≤ 4 := by lia
  have hz : (ps.map Value.ref).toArray.size = n := by rw [List.size_toArray, List.length_map, D.len, hrn]
  have hml := D.list
  obtain ⟨hs0, hs1⟩ := shareOf_in h0
  (repeat' (first | (k_unfold; (try dsimp only)) | (k_end; kc_close) | ((with_reducible show wpAny _ _ (exec (Stmt.Assign _ (Expr.IfExp _ _ _ _) _) _) _ _ _); refine of_stop9 ?_) | ((with_reducible show wpAny _ _ (eval (Expr.Name _ _) _) _ _ _); k_dflt (refine Mine.name_P (by with_reducible assumption) (by assumption) (by with_reducible (repeat (first | exact Mine.At.here | apply Mine.At.there))) (by exact Eq.refl (some (some _))) ?_; k_whole)) | ((with_reducible show wpAny _ _ (storeName _ _ _) _ _ _); k_dflt (refine Mine.store_P (by with_reducible assumption) (by k_asm) (by assumption) (by with_reducible (repeat (first | exact Mine.At.here | apply Mine.At.there))) (by rfl) ?_; k_whole; intro h' F' N'; (try dsimp only [List.set] at F'); (try k_sweep))) | walk1 | (dsimp only; walk1) | (leave1; (try dsimp only)) | fail "no step"))
  unfold Stop9
  refine cut_T (h₀ := g') (L := L') (mOf := fun t : Tok × Tok => look [PySem.Str.ofString "j", PySem.Str.ofString "scale", PySem.Str.ofString "purse", PySem.Str.ofString "counts", PySem.Str.ofString "days", PySem.Str.ofString "n", PySem.Str.ofString "share", PySem.Str.ofString "due"] [some (.int j tj), some (.int sc ts), some (.int purse tp), some (.ref ca), some (.ref dl), some (.int (n : Int) t.1), some (.int (shareOf j) t.2), none]) (nOf := fun _ => news) (J := fun _ => True) ?_ ?_
  · (repeat' (first | (k_unfold; (try dsimp only)) | (k_end; kc_close) | ((with_reducible show wpAny _ _ (eval (Expr.Name _ _) _) _ _ _); k_dflt (refine Mine.name_P (by with_reducible assumption) (by assumption) (by with_reducible (repeat (first | exact Mine.At.here | apply Mine.At.there))) (by exact Eq.refl (some (some _))) ?_; k_whole)) | ((with_reducible show wpAny _ _ (storeName _ _ _) _ _ _); k_dflt (refine Mine.store_P (by with_reducible assumption) (by k_asm) (by assumption) (by with_reducible (repeat (first | exact Mine.At.here | apply Mine.At.there))) (by rfl) ?_; k_whole; intro h' F' N'; (try dsimp only [List.set] at F'); (try k_sweep))) | walk1 | (dsimp only; walk1) | (leave1; (try dsimp only)) | fail "no step"))
    · exact TEnd.mk (_, _) trivial (by rw [show shareOf j = if 32 < 3 * j then 32 else 3 * j from if_pos (by assumption)]; exact F') N'
    · exact TEnd.mk (_, _) trivial (by rw [show shareOf j = 0 from if_neg (by assumption)]; exact F') N'
  · intro t h tk2 _ F' N'
    have ki := keptN_in ⟨hs0, hs1⟩ D.all
    have kb := pow224_le hn
    have q1 : (keptN (shareOf j) rg).natAbs < 2 ^ 53 := by lia
    have hsV : NumV (.int sc ts) (sc * 2 ^ 0) 0 := NumV.ofInt sc ts 0
    have hsc2 : sc * 2 ^ 0 = sc := Int.mul_one sc
    have scb : 0 ≤ sc ∧ sc ≤ 1048576 := by rw [hsc]; exact pow_le32 (by decide) (by decide) hn4
    have q2 : (sc * 2 ^ 0).natAbs < 2 ^ 53 := by rw [hsc2]; lia
    have q3 : (keptN (shareOf j) rg * (sc * 2 ^ 0)).natAbs < 2 ^ 53 := by
      rw [hsc2]
      have h1 : 0 ≤ keptN (shareOf j) rg * sc := Int.mul_nonneg ki.1 scb.1
      have h2 : keptN (shareOf j) rg * sc ≤ 2517630976 * 1048576 := Int.mul_le_mul (Int.le_trans ki.2 kb) scb.2 scb.1 (by decide)
      lia
    have q4 : 5 * rg.length + 0 ≤ 1074 := by lia
    have q5 : keptN (shareOf j) rg * (sc * 2 ^ 0) = sumTo cs n (shareOf j) * 2 ^ (5 * rg.length + 0) := by
      rw [hsc2, e1, hsc, hrn, Nat.add_zero, Int.pow_mul]
      rfl
    (repeat' (first | (k_unfold; (try dsimp only)) | (k_end; kc_close) | ((with_reducible show wpAny _ _ (eval (Expr.Name _ _) _) _ _ _); k_dflt (refine Mine.name_P (by with_reducible assumption) (by assumption) (by with_reducible (repeat (first | exact Mine.At.here | apply Mine.At.there))) (by exact Eq.refl (some (some _))) ?_; k_whole)) | ((with_reducible show wpAny _ _ (storeName _ _ _) _ _ _); k_dflt (refine Mine.store_P (by with_reducible assumption) (by k_asm) (by assumption) (by with_reducible (repeat (first | exact Mine.At.here | apply Mine.At.there))) (by rfl) ?_; k_whole; intro h' F' N'; (try dsimp only [List.set] at F'); (try k_sweep))) | ((with_reducible show wpAny _ _ (call (Value.ref 211) _) _ _ _); k_dflt (refine' Mine.lsum_g _ _ _ _ _ _ _ ?zm ?zv ?zl ?zn ?zC ?za ?zb ?_ _ _ _ _ _ _ _ _ _ _ _ ?c1 ?c2 ?c3 ?c4 ?c5 ?c6 ?c7 ?c8; (case zm => k_mem); (case zv => assumption); (case zl => assumption); (case zn => assumption); (case zC => assumption); (case za => assumption); (case zb => assumption);(case c1 => k_asm); (case c2 => k_asm); (case c3 => k_asm); (case c4 => k_asm); (case c5 => k_asm); (case c6 => first | assumption | exact rfl); (case c7 => k_room); (case c8 => k_room); k_whole); intro h' tk' tr' F' N'; (try dsimp only)) | ((with_reducible show wpAny _ _ (call (Value.ref 206) _) _ _ _); k_dflt (refine' Mine.kept_c _ _ _ _ _ _ ?zD ?zn ?zq ?z0 ?z63 ?zj ?_ _ _ _ _ _ _ _ _ _ _ _ ?c1 ?c2 ?c3 ?c4 ?c5 ?c6 ?c7 ?c8; (case zD => assumption); (case zn => assumption); (case zq => assumption); (case z0 => assumption); (case z63 => assumption); (case zj => assumption);(case c1 => k_asm); (case c2 => k_asm); (case c3 => k_asm); (case c4 => k_asm); (case c5 => k_asm); (case c6 => first | assumption | exact rfl); (case c7 => k_room); (case c8 => k_room); k_whole); intro h' tk' v' hv' F' N'; (try dsimp only)) | ((with_reducible show wpAny _ _ (binaryOp Operator.Mult _ _) _ _ _); k_dflt (refine Mine.mulV (by rfl) (by with_reducible assumption) (by with_reducible assumption) (by with_reducible assumption) (by with_reducible assumption) (by with_reducible assumption) (by lia) ?_; k_whole); intro v' tk' hv') | ((with_reducible show wpAny _ _ (compareOp CmpOp.Eq _ _) _ _ _); k_dflt (refine Mine.eqV_true (by with_reducible assumption) (by with_reducible assumption) (by with_reducible assumption) ?_)) | walk1 | (dsimp only; walk1) | (leave1; (try dsimp only)) | fail "no step"))
    refine q_bool ?_ (hret _ _ (by assumption) (by assumption))
    rw [decide_eq_true_eq, Int.toNat_natCast, hsc]
    exact e2
end
section
variable {w : World} {p : Program} {loose : List PySem.Str} {mean : ExcName → Option Value} {mg mb : Locals} {h₀ : Heap} {L : Addr} {m : Locals} {news : Led} {s : Shared} {Q E : Value → Shared → Prop}
noncomputable def rNext (f : Nat → Int) : Nat → List (Int × Int) → List (Int × Int)
  | _, [] => []
  | h, (c, r) :: l => (c * (32 * f h), r + 1) :: (c * ((32 - f h) * 32), r) :: rNext f (h + 1) l
noncomputable def rIter (f : Nat → Nat → Int) : Nat → List (Int × Int)
  | 0 => [(1, 0)]
  | i + 1 => rNext (f i) 0 (rIter f i)
theorem rNext_snoc (f : Nat → Int) (l : List (Int × Int)) : ∀ (h : Nat) (x : Int × Int), rNext f h (l ++ [x]) = rNext f h l ++ [(x.1 * (32 * f (h + l.length)), x.2 + 1), (x.1 * ((32 - f (h + l.length)) * 32), x.2)] := by
  induction l with
  | nil => intro h x; rfl
  | cons a l ih =>
    intro h x
    show _ :: _ :: rNext f (h + 1) (l ++ [x]) = _ :: _ :: (rNext f (h + 1) l ++ _)
    rw [ih, List.length_cons, show h + 1 + l.length = h + (l.length + 1) by lia]
theorem rNext_len (f : Nat → Int) (l : List (Int × Int)) : ∀ h, (rNext f h l).length = 2 * l.length := by
  induction l with
  | nil => intro h; rfl
  | cons a l ih => intro h; show (rNext f (h + 1) l).length + 1 + 1 = _; rw [ih, List.length_cons]; lia
theorem rIter_len {f : Nat → Nat → Int} {i : Nat} (h : i ≤ 4) : (rIter f i).length ≤ 16 := by
  have e : ∀ k, (rIter f k).length = 2 ^ k := by
    intro k
    induction k with
    | zero => rfl
    | succ k ih => show (rNext (f k) 0 (rIter f k)).length = _; rw [rNext_len, ih, Nat.pow_succ]; lia
  rw [e]
  exact Nat.le_trans (Nat.pow_le_pow_right (by decide) h) (by decide)
noncomputable def rShare (seed : Int) (i h : Nat) : Int := shareOf ((seed.fdiv ((h : Int) + 1) + (i : Int)).fmod 12)
structure Ends (led : Led) (ps : List Addr) (cr : List (Int × Int)) (k : Nat) : Prop where
  len : ps.length = cr.length
  at_ : ∀ (i : Nat) (q : Addr), ps[i]? = some q → ∃ v c r t, cr[i]? = some (c, r) ∧ NumV v c k ∧ (q, ({ cls := .type "tuple", data := .seq #[v, .int r t] } : Obj)) ∈ led
theorem Ends.mono {led led' : Led} {ps : List Addr} {cr : List (Int × Int)} {k : Nat} (h : Ends led ps cr k) (hs : ∀ p ∈ led, p ∈ led') : Ends led' ps cr k :=
  ⟨h.len, fun i q hq => by obtain ⟨v, c, r, t, a, b, d⟩ := h.at_ i q hq; exact ⟨v, c, r, t, a, b, hs _ d⟩⟩
theorem Ends.snoc {led : Led} {ps : List Addr} {cr : List (Int × Int)} {k : Nat} {q : Addr} {v : Value} {c r : Int} {t : Tok} (h : Ends led ps cr k) (hv : NumV v c k) (hq : (q, ({ cls := .type "tuple", data := .seq #[v, .int r t] } : Obj)) ∈ led) : Ends led (ps ++ [q]) (cr ++ [(c, r)]) k := by
  refine ⟨by simp [h.len], fun i q' hi => ?_⟩
  by_cases e : i < ps.length
  · rw [List.getElem?_append_left e] at hi
    obtain ⟨v, c, r, t, a, b, d⟩ := h.at_ i q' hi
    exact ⟨v, c, r, t, by rw [List.getElem?_append_left (by rw [← h.len]; exact e)]; exact a, b, d⟩
  · rw [List.getElem?_append_right (by lia)] at hi
    have e0 : i - ps.length = 0 := by
      cases q9 : i - ps.length with
      | zero => rfl
      | succ n => rw [q9] at hi; cases hi
    rw [e0] at hi
    have e1 : i = cr.length := by rw [← h.len]; lia
    rw [← Option.some.inj hi]
    exact ⟨v, c, r, t, by rw [e1]; simp, hv, hq⟩
noncomputable def pow1024 : Nat → Int
  | 0 => 1
  | n + 1 => pow1024 n * 1024
noncomputable abbrev rNs : List PySem.Str := [PySem.Str.ofString "n", PySem.Str.ofString "seed", PySem.Str.ofString "ends", PySem.Str.ofString "i", PySem.Str.ofString "later", PySem.Str.ofString "h", PySem.Str.ofString "hue", PySem.Str.ofString "coin", PySem.Str.ofString "reds"]
structure RSt where
  el : Addr
  ep : Nat
  ps : List Addr
  rest : Led
  vi : Option Value
  vl : Option Value
  vh : Option Value
  vu : Option Value
  vc : Option Value
  vr : Option Value
noncomputable abbrev rOf (n seed : Value) (x : RSt) : Locals := look rNs [some n, some seed, some (.ref x.el), x.vi, x.vl, x.vh, x.vu, x.vc, x.vr]
theorem rNext_in {f : Nat → Int} (hf : ∀ h, 0 ≤ f h ∧ f h ≤ 32) {B : Int} : ∀ (l : List (Int × Int)) (h : Nat), (∀ x ∈ l, 0 ≤ x.1 ∧ x.1 ≤ B) → ∀ x ∈ rNext f h l, 0 ≤ x.1 ∧ x.1 ≤ B * 1024
  | [], _, _, x, hx => nomatch hx
  | (c, r) :: l, h, hb, x, hx => by
    have h0 := hb _ (.head _)
    have h1 := hf h
    rcases List.mem_cons.mp hx with rfl | hx
    · exact ⟨Int.mul_nonneg h0.1 (by lia), Int.mul_le_mul h0.2 (by lia) (by lia) (by lia)⟩
    rcases List.mem_cons.mp hx with rfl | hx
    · exact ⟨Int.mul_nonneg h0.1 (by lia), Int.mul_le_mul h0.2 (by lia) (by lia) (by lia)⟩
    · exact rNext_in hf l (h + 1) (fun y hy => hb y (.tail _ hy)) x hx
theorem rIter_in {f : Nat → Nat → Int} (hf : ∀ i h, 0 ≤ f i h ∧ f i h ≤ 32) : ∀ i, ∀ x ∈ rIter f i, 0 ≤ x.1 ∧ x.1 ≤ pow1024 i
  | 0, x, hx => by rw [List.mem_singleton.mp hx]; decide
  | i + 1, x, hx => rNext_in (hf i) _ 0 (rIter_in hf i) x hx
theorem pow1024_le {i : Nat} (h : i ≤ 3) : pow1024 i ≤ 1073741824 := by
  have : i = 0 ∨ i = 1 ∨ i = 2 ∨ i = 3 := by lia
  rcases this with rfl | rfl | rfl | rfl <;> decide
theorem rShare_in (seed : Int) (i h : Nat) : 0 ≤ rShare seed i h ∧ rShare seed i h ≤ 32 := shareOf_in (Int.fmod_nonneg_of_pos _ (by decide))
theorem mul_b {c d : Int} (hc : 0 ≤ c ∧ c ≤ 1073741824) (hd : 0 ≤ d ∧ d ≤ 1024) : (c * d).natAbs < 2 ^ 53 := by
  have h1 : 0 ≤ c * d := Int.mul_nonneg hc.1 hd.1
  have h2 : c * d ≤ 1073741824 * 1024 := Int.mul_le_mul hc.2 hd.2 hd.1 (by decide)
  lia
noncomputable def hueC (b : UInt64) (j : Int) : Bool := (match Float64.decode b with | .fin .. => true | _ => false) && decide (Float64.val b * 2 ^ 6 = j * 2 ^ 1074) && ((Float64.divmod b 4607182418800017408).snd == b) &&
  ((Float64.cmp b 4595172819793696085 == some Ordering.lt) == decide (j ≤ 10)) && ((Float64.cmp b 4602678819172646912 == some Ordering.lt) == decide (j ≤ 31)) && ((Float64.cmp b 4604180019048437077 == some Ordering.lt) == decide (j ≤ 42))
theorem HueOk.of {b : UInt64} {j : Int} (h : hueC b j = true) : HueOk b j := by
  unfold hueC at h
  simp only [Bool.and_eq_true, beq_iff_eq, decide_eq_true_eq] at h
  obtain ⟨⟨⟨⟨⟨h1, h2⟩, h3⟩, h4⟩, h5⟩, h6⟩ := h
  refine ⟨h3, ⟨?_, h2⟩, h4, h5, h6⟩
  generalize Float64.decode b = d at h1
  cases d with
  | fin a m x => exact ⟨a, m, x, rfl⟩
  | _ => cases h1
noncomputable abbrev hues : List Nat := [0, 1, 2, 3, 4, 5, 6, 7, 8, 9, 10, 11, 31, 43]
theorem hues_ok : (hues.all fun k => hueC (hueB (k : Int)) (k : Int)) = true := by decide +kernel
theorem hue_of {k : Nat} (h : k ∈ hues) : HueOk (hueB (k : Int)) (k : Int) := HueOk.of (List.all_eq_true.mp hues_ok k h)
theorem hue_small {j : Int} (h0 : 0 ≤ j) (h1 : j ≤ 11) : HueOk (hueB j) j := by
  have e : ((j.toNat : Nat) : Int) = j := Int.toNat_of_nonneg h0
  have : j.toNat ∈ hues := by
    have : j.toNat < 12 := by lia
    have key : ∀ k, k < 12 → k ∈ hues := by decide
    exact key _ this
  have := hue_of this
  rwa [e] at this
theorem Ends.one {led : Led} {q : Addr} {v : Value} {c r : Int} {t : Tok} {k : Nat} (hv : NumV v c k) : Ends ((q, { cls := .type "tuple", data := .seq #[v, .int r t] }) :: led) [q] [(c, r)] k :=
  Ends.snoc (ps := []) (cr := []) ⟨rfl, fun i q h => nomatch h⟩ hv (.head _)
structure RSt2 where
  ep : Nat
  ps : List Addr
  rest : Led
  vh : Option Value
  vu : Option Value
  vc : Option Value
  vr : Option Value
noncomputable def OrJ (j : Int) : Prop := j ≤ 31 ∨ 42 < j
theorem le_11 {x : Int} (h : x < 12) : x ≤ 11 := by lia
theorem le_31 {x : Int} (h : x < 12) : x ≤ 31 := by lia
theorem day_b1 {a : Int} (h : 0 ≤ a ∧ a ≤ 32) : 0 ≤ dayN a 0 32 ∧ dayN a 0 32 ≤ 1024 := by unfold dayN; lia
theorem day_b2 {a : Int} (h : 0 ≤ a ∧ a ≤ 32) : 0 ≤ dayN a 32 0 ∧ dayN a 32 0 ≤ 1024 := by unfold dayN; lia
theorem abs_c {c : Int} (h : 0 ≤ c ∧ c ≤ 1073741824) : c.natAbs < 2 ^ 53 := by lia
theorem abs_d {c : Int} (h : 0 ≤ c ∧ c ≤ 1024) : c.natAbs < 2 ^ 53 := by lia
theorem day_e1 {a : Int} : dayN a 0 32 = 32 * a := by unfold dayN; lia
theorem day_e2 {a : Int} : dayN a 32 0 = (32 - a) * 32 := by unfold dayN; lia
theorem rival_g (seed : Int) (n : Nat) (ts tn : Tok) (hs0 : 0 ≤ seed) (hs1 : seed ≤ 10000000) (hn : n ≤ 4)
    (hret : ∀ h' tk' el ep ps rest, Ends rest ps (rIter (rShare seed) n) (5 * n) → (∀ p ∈ news, p ∈ rest) → Fr h₀ L h' m → News h₀ L h' ((el, refsObj ps ep) :: rest) → Q (.ref el) { s with heap := h', toks := tk' }) :
      Spec w p loose mean mg mb 10 60 (.ref 225) [.int seed ts, .int (n : Int) tn] h₀ L m news s Q E := by
  intro dp un gd cn cs a ccd cl outer A₀ base hB F X N T hk hd hu
  refine wpAny_call ?_
  k_dflt (refine' code_def ?k1 ?k2 ?k3 ?k4 ?k5 ?kA ?kF ?kK ?k6 ?k7 ?k8 ?k9 ?kB ?_ ?c2 ?c3 ?c4 ?c5; (case kA => exact rfl); (case kF => exact rfl); (case kK => first | assumption | exact rfl); (case k1 => k_asm); (case k2 => k_asm); (case k3 => k_asm); (case k4 => k_asm); (case k5 => k_asm); (case k6 => k_is); (case k7 => k_is); (case k8 => k_room); (case k9 => first | exact BindsTo.of_eq rfl | exact binds_K (by k_in) rfl (by k_is) rfl rfl rfl); (case c5 => decide); (case kB => exact locs rfl); (case c2 => exact rfl); (case c3 => exact rfl); (case c4 => exact rfl); k_whole; intro g' L' h' FG' F' N' B' X' T'; (try dsimp only); (try k_lift B'); (try k_fold))
  have nd9 : Mine.NoDup [PySem.Str.ofString "n", PySem.Str.ofString "seed", PySem.Str.ofString "ends", PySem.Str.ofString "i", PySem.Str.ofString "later", PySem.Str.ofString "h", PySem.Str.ofString "hue", PySem.Str.ofString "coin", PySem.Str.ofString "reds"] := Mine.NoDup.of (by decide +kernel)
  have F0 : Fr _ _ _ (Mine.look [PySem.Str.ofString "n", PySem.Str.ofString "seed", PySem.Str.ofString "ends", PySem.Str.ofString "i", PySem.Str.ofString "later", PySem.Str.ofString "h", PySem.Str.ofString "hue", PySem.Str.ofString "coin", PySem.Str.ofString "reds"] [some (.int (n : Int) tn), some (.int seed ts), none, none, none, none, none, none, none]) := Mine.start_P (bs := [(PySem.Str.ofString "seed", .int seed ts), (PySem.Str.ofString "n", .int (n : Int) tn)]) (ns' := [PySem.Str.ofString "ends", PySem.Str.ofString "i", PySem.Str.ofString "later", PySem.Str.ofString "h", PySem.Str.ofString "hue", PySem.Str.ofString "coin", PySem.Str.ofString "reds"]) (k := 7) F'
  clear F'
  refine Mine.gen_tk ?_; intro tk0
  refine no_E ?_
  (repeat' ((first | (k_unfold; (try dsimp only)) | (k_end; kc_close) | ((with_reducible show wpAny _ _ (exec (Stmt.For _ _ _ _ _) _) _ _ _); refine of_stop9 ?_) | ((with_reducible show wpAny _ _ (eval (Expr.Name _ _) _) _ _ _); k_dflt (refine Mine.name_P (by with_reducible assumption) (by assumption) (by with_reducible (repeat (first | exact Mine.At.here | apply Mine.At.there))) (by exact Eq.refl (some (some _))) ?_; k_whole)) | ((with_reducible show wpAny _ _ (storeName _ _ _) _ _ _); k_dflt (refine Mine.store_P (by with_reducible assumption) (by k_asm) (by assumption) (by with_reducible (repeat (first | exact Mine.At.here | apply Mine.At.there))) (by rfl) ?_; k_whole; intro h' F' N'; (try dsimp only [List.set] at F'); (try k_sweep))) | walk1 | (dsimp only; walk1) | (leave1; (try dsimp only)) | fail "no step") <;> (try dsimp only)))
  unfold Stop9
  refine For_range (h₀ := g') (L := L') n (rOf (.int (n : Int) tn) (.int seed ts)) (fun x => (x.el, refsObj x.ps x.ep) :: x.rest) (fun i x => Ends x.rest x.ps (rIter (rShare seed) i) (5 * i) ∧ ∀ p ∈ news, p ∈ x.rest) (by rfl) (by lia) ?_ ?_ ?_
  · (repeat' ((first | (k_unfold; (try dsimp only)) | (k_end; kc_close) | ((with_reducible show wpAny _ _ (eval (Expr.Name _ _) _) _ _ _); k_dflt (refine Mine.name_P (by with_reducible assumption) (by assumption) (by with_reducible (repeat (first | exact Mine.At.here | apply Mine.At.there))) (by exact Eq.refl (some (some _))) ?_; k_whole)) | ((with_reducible show wpAny _ _ (storeName _ _ _) _ _ _); k_dflt (refine Mine.store_P (by with_reducible assumption) (by k_asm) (by assumption) (by with_reducible (repeat (first | exact Mine.At.here | apply Mine.At.there))) (by rfl) ?_; k_whole; intro h' F' N'; (try dsimp only [List.set] at F'); (try k_sweep))) | walk1 | (dsimp only; walk1) | (leave1; (try dsimp only)) | fail "no step") <;> (try dsimp only)))
    exact RStart.mk (by assumption) rfl ⟨_, 0, [_], _ :: news, none, none, none, none, none, none⟩ ⟨Ends.one (NumV.one _), fun p hp => .tail _ hp⟩ (by assumption) (by assumption)
  · intro i x t h tk I o hi J F' N' ne
    obtain ⟨hE, hsub⟩ := J
    have nI : @Ne Nat x.el I := ne _ (.head _)
    have len0 : x.ps.length ≤ 16 := by rw [hE.len]; exact rIter_len (by lia)
    (repeat' (first | (k_unfold; (try dsimp only)) | (k_end; kc_close) | ((with_reducible show wpAny _ _ (exec (Stmt.For _ _ _ _ _) _) _ _ _); refine of_stop9 ?_) | ((with_reducible show wpAny _ _ (letOwnedTupleGo _ _ _) _ _ _); first | (with_reducible refine Mine.ownName_T ?_) | (k_dflt (refine Mine.ownList_T (by k_asm) (by k_mem) (by assumption) ?_; k_whole))) | ((with_reducible show wpAny _ _ (eval (Expr.Name _ _) _) _ _ _); k_dflt (refine Mine.name_P (by with_reducible assumption) (by assumption) (by with_reducible (repeat (first | exact Mine.At.here | apply Mine.At.there))) (by exact Eq.refl (some (some _))) ?_; k_whole)) | ((with_reducible show wpAny _ _ (storeName _ _ _) _ _ _); k_dflt (refine Mine.store_P (by with_reducible assumption) (by k_asm) (by assumption) (by with_reducible (repeat (first | exact Mine.At.here | apply Mine.At.there))) (by rfl) ?_; k_whole; intro h' F' N'; (try dsimp only [List.set] at F'); (try k_sweep))) | walk1 | (dsimp only; walk1) | (leave1; (try dsimp only)) | fail "no step"))
    unfold Stop9
    rename_i lb h9 lt9 l19
    have nr : ∀ p ∈ x.rest, p.1 ≠ lb := fun p hp => Nat.ne_of_lt (allLt_mem lt9 p (.tail _ (.tail _ hp)))
    refine For_range (h₀ := g') (L := L') x.ps.length (fun y : RSt2 => look rNs [some (.int (n : Int) tn), some (.int seed ts), some (.ref x.el), some (.int (i : Int) t), some (.ref lb), y.vh, y.vu, y.vc, y.vr])
      (fun y => (lb, refsObj y.ps y.ep) :: (I, o) :: (x.el, refsObj x.ps x.ep) :: y.rest)
      (fun k y => Ends y.rest y.ps (rNext (rShare seed i) 0 ((rIter (rShare seed) i).take k)) (5 * (i + 1)) ∧ (∀ p ∈ x.rest, p ∈ y.rest) ∧ (∀ p ∈ y.rest, p.1 ≠ lb) ∧ ∀ p ∈ y.rest, p.1 ≠ I) (by rfl) (by lia) ?_ ?_ ?_
    · (repeat' ((first | (k_unfold; (try dsimp only)) | (k_end; kc_close) | ((with_reducible show wpAny _ _ (call (Value.builtin "len") [Value.ref _]) _ _ _); k_dflt (refine Mine.len_ref (by k_asm) (by k_mem) (by lia) ?_; k_whole); intro t' tk'; (try dsimp only)) | ((with_reducible show wpAny _ _ (eval (Expr.Name _ _) _) _ _ _); k_dflt (refine Mine.name_P (by with_reducible assumption) (by assumption) (by with_reducible (repeat (first | exact Mine.At.here | apply Mine.At.there))) (by exact Eq.refl (some (some _))) ?_; k_whole)) | ((with_reducible show wpAny _ _ (storeName _ _ _) _ _ _); k_dflt (refine Mine.store_P (by with_reducible assumption) (by k_asm) (by assumption) (by with_reducible (repeat (first | exact Mine.At.here | apply Mine.At.there))) (by rfl) ?_; k_whole; intro h' F' N'; (try dsimp only [List.set] at F'); (try k_sweep))) | walk1 | (dsimp only; walk1) | (leave1; (try dsimp only)) | fail "no step") <;> (try dsimp only)))
      exact RStart.mk (by assumption) rfl ⟨0, [], x.rest, x.vh, x.vu, x.vc, x.vr⟩ ⟨⟨rfl, fun i q h => nomatch h⟩, fun p h => h, nr, fun p hp => ne p (.tail _ hp)⟩ (by assumption) (by assumption)
    · intro k y tk1 h2 tk2 I2 o2 hk J F' N' ne2
      obtain ⟨hE2, hsub2, nlb, nI2⟩ := J
      have n1 : @Ne Nat lb I2 := ne2 _ (.head _)
      have n2 : @Ne Nat I I2 := ne2 _ (.tail _ (.head _))
      have n3 : @Ne Nat x.el I2 := ne2 _ (.tail _ (.tail _ (.head _)))
      obtain ⟨q, hq⟩ : ∃ q, x.ps[k]? = some q := ⟨_, List.getElem?_eq_getElem hk⟩
      obtain ⟨v, c, r, tr, hcr, hvn, hmem⟩ := hE.at_ k q hq
      have hmem2 := hsub2 _ hmem
      have j0 : 0 ≤ (seed.fdiv ((k : Int) + 1) + (i : Int)).fmod 12 := Int.fmod_nonneg_of_pos _ (by decide)
      have j1 : (seed.fdiv ((k : Int) + 1) + (i : Int)).fmod 12 < 12 := Int.fmod_lt_of_pos _ (by decide)
      have hue := hue_small j0 (le_11 j1)
      have j2 : OrJ ((seed.fdiv ((k : Int) + 1) + (i : Int)).fmod 12) := Or.inl (le_31 j1)
      have hin := rIter_in (rShare_in seed) i _ (List.mem_of_getElem? hcr)
      have hpw := pow1024_le (i := i) (by lia)
      have ha := shareOf_in j0
      have b1 : 0 ≤ dayN (shareOf ((seed.fdiv ((k : Int) + 1) + (i : Int)).fmod 12)) 0 32 ∧ dayN (shareOf ((seed.fdiv ((k : Int) + 1) + (i : Int)).fmod 12)) 0 32 ≤ 1024 := day_b1 ha
      have b2 : 0 ≤ dayN (shareOf ((seed.fdiv ((k : Int) + 1) + (i : Int)).fmod 12)) 32 0 ∧ dayN (shareOf ((seed.fdiv ((k : Int) + 1) + (i : Int)).fmod 12)) 32 0 ≤ 1024 := day_b2 ha
      have cb : 0 ≤ c ∧ c ≤ 1073741824 := ⟨hin.1, Int.le_trans hin.2 hpw⟩
      have q1 : c.natAbs < 2 ^ 53 := abs_c cb
      have q2 : (dayN (shareOf ((seed.fdiv ((k : Int) + 1) + (i : Int)).fmod 12)) 0 32).natAbs < 2 ^ 53 := abs_d b1
      have q3 : (dayN (shareOf ((seed.fdiv ((k : Int) + 1) + (i : Int)).fmod 12)) 32 0).natAbs < 2 ^ 53 := abs_d b2
      have q4 := mul_b cb b1
      have q5 := mul_b cb b2
      clear cb b1 b2 ha hpw
      have ly : (y.ps.map Value.ref).length ≤ 32 := by
        rw [List.length_map, hE2.len, rNext_len, List.length_take]
        lia
      (repeat' (first | (k_unfold; (try dsimp only)) | (k_end; kc_close) | ((with_reducible show wpAny _ _ (letOwnedTupleGo _ _ _) _ _ _); first | (with_reducible refine Mine.ownName_T ?_) | (k_dflt (refine Mine.ownList_T (by k_asm) (by k_mem) (by assumption) ?_; k_whole))) | ((with_reducible show wpAny _ _ (subscriptTail _ _ (Value.ref _) (Value.int _ _)) _ _ _); k_dflt (refine Mine.item_ref (by k_asm) (by k_mem) (by with_reducible assumption) (by lia) ?_ (by with_unfolding_all rfl); k_whole)) | ((with_reducible show wpAny _ _ (binaryOp Operator.FloorDiv (Value.int _ _) (Value.int _ _)) _ _ _); k_dflt (refine Mine.fdiv_small (by lia) (by lia) ?_)) | ((with_reducible show wpAny _ _ (eval (Expr.Name _ _) _) _ _ _); k_dflt (refine Mine.name_P (by with_reducible assumption) (by assumption) (by with_reducible (repeat (first | exact Mine.At.here | apply Mine.At.there))) (by exact Eq.refl (some (some _))) ?_; k_whole)) | ((with_reducible show wpAny _ _ (storeName _ _ _) _ _ _); k_dflt (refine Mine.store_P (by with_reducible assumption) (by k_asm) (by assumption) (by with_reducible (repeat (first | exact Mine.At.here | apply Mine.At.there))) (by rfl) ?_; k_whole; intro h' F' N'; (try dsimp only [List.set] at F'); (try k_sweep))) | ((with_reducible show wpAny _ _ (call (Value.ref 50) _) _ _ _); k_dflt (refine' Mine.v_num _ _ _ _ _ _ _ ?zhue ?zk1 ?zk2 ?z0 ?zj ?_ _ _ _ _ _ _ _ _ _ _ _ ?c1 ?c2 ?c3 ?c4 ?c5 ?c6 ?c7 ?c8; (case zhue => assumption); (case zk1 => decide); (case zk2 => decide); (case z0 => assumption); (case zj => assumption);(case c1 => k_asm); (case c2 => k_asm); (case c3 => k_asm); (case c4 => k_asm); (case c5 => k_asm); (case c6 => first | assumption | exact rfl); (case c7 => k_room); (case c8 => k_room); k_whole); intro h' tk' y' hy' F' N'; (try dsimp only)) | ((with_reducible show wpAny _ _ (binaryOp Operator.Mult _ _) _ _ _); k_dflt (refine Mine.mulV (by rfl) (by with_reducible assumption) (by with_reducible assumption) (by with_reducible assumption) (by with_reducible assumption) (by with_reducible assumption) (by lia) ?_; k_whole); intro v' tk' hv'; (try dsimp only)) | ((with_reducible show wpAny _ _ (call (Value.builtin "list.append") [Value.ref _, _]) _ _ _); k_dflt (refine' Mine.app_L ?zF ?zN ?zU ?ze ?zz ?_; (case zF => k_asm); (case zN => k_asm); (case zU => k_updF); (case ze => exact rfl); (case zz => first | exact Nat.le_of_ble_eq_true rfl | (simp only [List.length_append, List.length_cons, List.length_nil]; lia) | lia); k_whole); intro h' e' F' N') | walk1 | (dsimp only; walk1) | (leave1; (try dsimp only)) | fail "no step"))
      rename_i v1 t11 hv1 D1 t12 t13 l11 t14 t15 t16 t17 t18 D2 t19 t20 t21 t22 l12
      have tsn : (rIter (rShare seed) i).take (k + 1) = (rIter (rShare seed) i).take k ++ [(c, r)] := take_snoc hcr
      have lk : ((rIter (rShare seed) i).take k).length = k := by rw [List.length_take, ← hE.len]; lia
      have em : (((y.ps ++ [D1]) ++ [D2]).map Value.ref) = y.ps.map Value.ref ++ [.ref D1] ++ [.ref D2] := by simp
      have E1 := ((hE2.mono (fun p hp => .tail (D2, ({ cls := .type "tuple", data := .seq #[v', .int r tr] } : Obj)) (.tail (D1, ({ cls := .type "tuple", data := .seq #[v1, .int (r + 1) (t11 + 1)] } : Obj)) hp))).snoc hv1 (.tail _ (.head _))).snoc hv' (.head _)
      refine TEnd.mk ⟨e', (y.ps ++ [D1]) ++ [D2], (D2, { cls := .type "tuple", data := .seq #[v', .int r tr] }) :: (D1, { cls := .type "tuple", data := .seq #[v1, .int (r + 1) (t11 + 1)] }) :: y.rest, some _, some _, some _, some _⟩ ⟨⟨?_, fun p hp => .tail _ (.tail _ (hsub2 p hp)), ?_, ?_⟩, ?_⟩ F' ?_
      · rw [tsn, rNext_snoc, lk, Nat.zero_add]
        have d1 : c * dayN (shareOf ((seed.fdiv ((k : Int) + 1) + (i : Int)).fmod 12)) 0 32 = c * (32 * rShare seed i k) := by
          rw [day_e1]; rfl
        have d2 : c * dayN (shareOf ((seed.fdiv ((k : Int) + 1) + (i : Int)).fmod 12)) 32 0 = c * ((32 - rShare seed i k) * 32) := by
          rw [day_e2]; rfl
        have ap := List.append_assoc (rNext (rShare seed i) 0 ((rIter (rShare seed) i).take k)) [(c * (32 * rShare seed i k), r + 1)] [(c * ((32 - rShare seed i k) * 32), r)]
        rw [d1, d2, ap] at E1
        exact E1
      · intro p hp
        rcases List.mem_cons.mp hp with rfl | hp
        · exact Nat.ne_of_gt l12.2.2.1
        rcases List.mem_cons.mp hp with rfl | hp
        · exact Nat.ne_of_gt l11.2.1
        · exact nlb p hp
      · intro p hp
        rcases List.mem_cons.mp hp with rfl | hp
        · exact Nat.ne_of_gt l12.2.2.2.1
        rcases List.mem_cons.mp hp with rfl | hp
        · exact Nat.ne_of_gt l11.2.2.1
        · exact nI2 p hp
      · intro p hp
        rcases List.mem_cons.mp hp with rfl | hp
        · exact n1
        rcases List.mem_cons.mp hp with rfl | hp
        · exact n2
        rcases List.mem_cons.mp hp with rfl | hp
        · exact n3
        rcases List.mem_cons.mp hp with rfl | hp
        · exact Nat.ne_of_gt l12.2.1
        rcases List.mem_cons.mp hp with rfl | hp
        · exact Nat.ne_of_gt l11.1
        · exact ne2 p (.tail _ (.tail _ (.tail _ hp)))
      · show News g' L' h' (_ :: (lb, W.listOf (List.map Value.ref (y.ps ++ [D1] ++ [D2])).toArray e') :: _)
        rw [em]
        refine cb_drop N' ?_
        ((repeat (refine List.forall_mem_cons.mpr ⟨by k_mem, ?_⟩)); (repeat (refine Mine.sub_cons ?_)); exact fun _ h => h)
    · intro y h2 tk2 J F' N'
      (repeat' ((first | (k_unfold; (try dsimp only)) | (k_end; kc_close) | ((with_reducible show wpAny _ _ (eval (Expr.Name _ _) _) _ _ _); k_dflt (refine Mine.name_P (by with_reducible assumption) (by assumption) (by with_reducible (repeat (first | exact Mine.At.here | apply Mine.At.there))) (by exact Eq.refl (some (some _))) ?_; k_whole)) | ((with_reducible show wpAny _ _ (storeName _ _ _) _ _ _); k_dflt (refine Mine.store_P (by with_reducible assumption) (by k_asm) (by assumption) (by with_reducible (repeat (first | exact Mine.At.here | apply Mine.At.there))) (by rfl) ?_; k_whole; intro h' F' N'; (try dsimp only [List.set] at F'); (try k_sweep))) | walk1 | (dsimp only; walk1) | (leave1; (try dsimp only)) | fail "no step") <;> (try dsimp only)))
      obtain ⟨E2, sub2, _, nI3⟩ := J
      rw [hE.len, List.take_length] at E2
      refine TEnd.mk ⟨lb, y.ep, y.ps, y.rest, some _, some _, y.vh, y.vu, y.vc, y.vr⟩ ⟨⟨E2, fun p hp => sub2 p (hsub p hp)⟩, ?_⟩ F' ?_
      · intro p hp
        rcases List.mem_cons.mp hp with rfl | hp
        · exact Nat.ne_of_gt l19.1
        · exact nI3 p hp
      · refine cb_drop N' ?_
        ((repeat (refine List.forall_mem_cons.mpr ⟨by k_mem, ?_⟩)); (repeat (refine Mine.sub_cons ?_)); exact fun _ h => h)
  · intro x h tk J F' N'
    (repeat' ((first | (k_unfold; (try dsimp only)) | (k_end; kc_close) | ((with_reducible show wpAny _ _ (eval (Expr.Name _ _) _) _ _ _); k_dflt (refine Mine.name_P (by with_reducible assumption) (by assumption) (by with_reducible (repeat (first | exact Mine.At.here | apply Mine.At.there))) (by exact Eq.refl (some (some _))) ?_; k_whole)) | ((with_reducible show wpAny _ _ (storeName _ _ _) _ _ _); k_dflt (refine Mine.store_P (by with_reducible assumption) (by k_asm) (by assumption) (by with_reducible (repeat (first | exact Mine.At.here | apply Mine.At.there))) (by rfl) ?_; k_whole; intro h' F' N'; (try dsimp only [List.set] at F'); (try k_sweep))) | walk1 | (dsimp only; walk1) | (leave1; (try dsimp only)) | fail "no step") <;> (try dsimp only)))
    exact hret _ _ _ _ _ _ J.1 J.2 (by assumption) (by assumption)
end
section
open LCg
variable {w : World} {p : Program} {loose : List PySem.Str} {mean : ExcName → Option Value} {mg mb : Locals} {h₀ : Heap} {L : Addr} {m : Locals} {news : Led} {s : Shared} {Q E : Value → Shared → Prop}
noncomputable def digs : Nat → Int → List Int
  | 0, _ => []
  | d + 1, x => (x % 65536) :: digs d (x / 65536)
theorem digs_len : ∀ (d : Nat) (x : Int), (digs d x).length = d
  | 0, _ => rfl
  | d + 1, x => by show (digs d _).length + 1 = _; rw [digs_len]
theorem mod_div (n B M : Nat) : ((n : Int) % ((B : Int) * (M : Int))) / (B : Int) = (n : Int) / (B : Int) % (M : Int) := by
  have := @Nat.mod_mul_right_div_self n B M
  exact_mod_cast this
theorem digs_mod (d : Nat) : ∀ (k : Nat) (x : Int), 0 ≤ x → digs d (x % 65536 ^ (d + k)) = digs d x := by
  induction d with
  | zero => intro k x _; rfl
  | succ d ih =>
    intro k x h0
    show _ :: _ = _ :: _
    have e : (65536 : Int) ^ (d + 1 + k) = 65536 * 65536 ^ (d + k) := by rw [show d + 1 + k = (d + k) + 1 by lia, Int.pow_succ, Int.mul_comm]
    have pp : (0 : Int) < 65536 ^ (d + k) := Int.pow_pos (by decide)
    rw [e, Int.emod_emod_of_dvd _ (Int.dvd_mul_right _ _)]
    have e2 : x % (65536 * 65536 ^ (d + k)) / 65536 = x / 65536 % 65536 ^ (d + k) := by
      obtain ⟨n, rfl⟩ := Int.eq_ofNat_of_zero_le h0
      obtain ⟨M, hM⟩ := Int.eq_ofNat_of_zero_le (Int.le_of_lt pp)
      rw [hM]
      exact mod_div n 65536 M
    rw [e2, ih k _ (Int.ediv_nonneg h0 (by decide))]
theorem digs_add (a : Nat) : ∀ (b : Nat) (x : Int), 0 ≤ x → digs (a + b) x = digs a (x % 65536 ^ a) ++ digs b (x / 65536 ^ a) := by
  intro b x h0
  have q := digs_mod a 0 x h0
  rw [Nat.add_zero] at q
  rw [q]
  clear q
  induction a generalizing x with
  | zero => rw [Nat.zero_add, Int.pow_zero, Int.ediv_one]; rfl
  | succ a ih =>
    rw [show a + 1 + b = (a + b) + 1 by lia]
    show _ :: _ = _ :: (_ ++ _)
    rw [ih _ (Int.ediv_nonneg h0 (by decide)), Int.pow_succ, Int.mul_comm, Int.ediv_ediv_of_nonneg (by decide)]
theorem sh_pow (l a : Nat) : (2 : Int) ^ (((((l + a : Nat) : Int) - (l : Int)) * 16).toNat) = 65536 ^ a := by
  have e : ((((l + a : Nat) : Int) - (l : Int)) * 16).toNat = 16 * a := by lia
  rw [e, Int.pow_mul]
  rfl
section
variable {prog : Program} {A : Around} {Q : Value → Shared → Prop} {t u : Tok} {l a d r : Nat} {x : Int} {rest : Led} {D : Addr}
theorem mid_R (hr : r = l + d) (h : Q (.int ((l + d / 2 : Nat) : Int) s.toks) { s with toks := s.toks + 1 }) : wpAny (model prog w) A (binaryOp .RShift (.int ((l : Int) + (r : Int)) t) (.int 1 u)) Q E s := by
  subst hr
  refine rshift_int (by decide) ?_
  have e : ((l : Int) + ((l + d : Nat) : Int)).fdiv (2 ^ (1 : Int).toNat) = ((l + d / 2 : Nat) : Int) := by
    rw [Int.fdiv_eq_ediv_of_nonneg _ (by decide)]
    show _ / 2 = _
    lia
  rw [e]; exact h
theorem up_R (h : Q (.int (x / 65536 ^ a) s.toks) { s with toks := s.toks + 1 }) : wpAny (model prog w) A (binaryOp .RShift (.int x t) (.int ((((l + a : Nat) : Int) - (l : Int)) * 16) u)) Q E s := by
  refine rshift_int (by lia) ?_
  rw [sh_pow, Int.fdiv_eq_ediv_of_nonneg _ (Int.le_of_lt (Int.pow_pos (by decide)))]; exact h
theorem shl_R (hx : 0 ≤ x) (hb : x < 65536 ^ 8) (ha : a ≤ 8) (h : Q (.int (x * 65536 ^ a) s.toks) { s with toks := s.toks + 1 }) : wpAny (model prog w) A (binaryOp .LShift (.int x t) (.int ((((l + a : Nat) : Int) - (l : Int)) * 16) u)) Q E s := by
  have hb2 : x < 340282366920938463463374607431768211456 := hb
  refine lshift_int (by lia) (kbm_shl (m := 128) (intBits_le_iff.mpr (by lia)) (by lia) (by decide)) ?_
  rw [sh_pow]; exact h
theorem xor_R (hx : 0 ≤ x) (h : Q (.int (x % 65536 ^ a) s.toks) { s with toks := s.toks + 1 }) : wpAny (model prog w) A (binaryOp .BitXor (.int x t) (.int (x / 65536 ^ a * 65536 ^ a) u)) Q E s := by
  refine xor_int ?_
  have e := low_x (x := x) (16 * a) hx
  have e2 : (2 : Int) ^ (16 * a) = 65536 ^ a := by rw [Int.pow_mul]; rfl
  rw [e2, Int.fdiv_eq_ediv_of_nonneg _ (Int.le_of_lt (Int.pow_pos (by decide)))] at e
  rw [e]; exact h
theorem ints_set {vs : List Value} {cs : List Int} (h : IntsAre vs cs) : ∀ (l : Nat) (x : Int) (t : Tok), IntsAre (vs.set l (.int x t)) (cs.set l x) := by
  induction h with
  | nil => intro l x t; exact .nil
  | cons n u h ih => intro l x t; cases l with
    | zero => exact .cons _ _ h
    | succ l => exact .cons _ _ (ih l x t)
theorem set_I {vs : List Value} {cs : List Int} {e : Nat} {Q : Unit → Shared → Prop} (F : Fr h₀ L s.heap m) (N : News h₀ L s.heap ((D, W.listOf vs.toArray e) :: rest)) (hi : IntsAre vs cs) (hl : l < cs.length) (hz : cs.length ≤ 1000) (nr : ∀ p ∈ rest, p.1 ≠ D)
    (h : ∀ h' vs' e', IntsAre vs' (cs.set l x) → Fr h₀ L h' m → News h₀ L h' ((D, W.listOf vs'.toArray e') :: rest) → Q () { s with heap := h' }) : wpAny (model prog w) A (setItem (.ref D) (.int (l : Int) t) (.int x u)) Q E s := by
  have z := N _ (.head _)
  have hv : vs.length = cs.length := hi.length
  refine ki_setAt z.1 (by lia) (by lia) (by simp; lia) (h _ (vs.set l (.int x u)) e (ints_set hi l x u) (F.change (Heap.SameBut.update ..) z.2.1 z.2.2) ?_)
  refine ki_turn (pre := []) _ N (fun _ h => nomatch h) nr ?_ ?_
  · show vs.toArray.setIfInBounds (l : Int).toNat _ = _
    simp
  · simp
end
noncomputable def innerSt : Stmt := ((bodyOf (stAt 3))[1]?).getD default
noncomputable def inObj (st : Stmt) (qual : PySem.Str) (cl : List (PySem.Str × Addr)) (doc pm : Value) (c' : Addr) (ctv : Value) : Obj :=
  match st with
  | .FunctionDef name params body _ _ _ scope _ _ _ => fnMade name qual params body scope cl doc pm c' ctv
  | _ => default
noncomputable abbrev i2dQ : PySem.Str := PySem.Str.ofString "_int2digits.<locals>.inner"
structure InnerAt (rest : Led) (f c' cN cI cA D : Addr) : Prop where
  fn : ∃ doc pm ctv, (f, inObj innerSt i2dQ [(PySem.Str.ofString "n", cN), (PySem.Str.ofString "inner", cI), (PySem.Str.ofString "a_digits", cA)] doc pm c' ctv) ∈ rest
  cn : ∃ o t, (cN, o) ∈ rest ∧ o.data = .cell (some (.int 16 t))
  ci : ∃ o, (cI, o) ∈ rest ∧ o.data = .cell (some (.ref f))
  ca : ∃ o, (cA, o) ∈ rest ∧ o.data = .cell (some (.ref D))
  cc : ∃ oc, (c', oc) ∈ rest ∧ CodeObj oc i2dQ
noncomputable def putD (cs : List Int) (l d : Nat) (x : Int) : List Int := cs.take l ++ digs d x ++ cs.drop (l + d)
theorem putD_len {cs : List Int} {l d : Nat} {x : Int} (h : l + d ≤ cs.length) : (putD cs l d x).length = cs.length := by
  unfold putD
  simp only [List.length_append, List.length_take, List.length_drop, digs_len]
  lia
theorem putD_one {cs : List Int} {l : Nat} {x : Int} (h0 : 0 ≤ x) (h1 : x < 65536 ^ 1) (hl : l < cs.length) : cs.set l x = putD cs l 1 x := by
  have e : x % 65536 = x := Int.emod_eq_of_lt h0 h1
  show _ = cs.take l ++ [x % 65536] ++ cs.drop (l + 1)
  rw [e, List.set_eq_take_append_cons_drop, if_pos hl, List.append_assoc]
  rfl
theorem putD_two {cs : List Int} {l a b : Nat} {x : Int} (h0 : 0 ≤ x) (hl : l + (a + b) ≤ cs.length) : putD (putD cs l a (x % 65536 ^ a)) (l + a) b (x / 65536 ^ a) = putD cs l (a + b) x := by
  have e1 : (cs.take l ++ digs a (x % 65536 ^ a)).length = l + a := by
    simp only [List.length_append, List.length_take, digs_len]; lia
  have e2 : (putD cs l a (x % 65536 ^ a)).take (l + a) = cs.take l ++ digs a (x % 65536 ^ a) := by
    unfold putD
    rw [List.take_append_of_le_length (by lia), List.take_of_length_le (by lia)]
  have e3 : (putD cs l a (x % 65536 ^ a)).drop (l + a + b) = cs.drop (l + (a + b)) := by
    unfold putD
    rw [List.drop_append, List.drop_eq_nil_of_le (by lia), e1, List.nil_append, List.drop_drop]
    congr 1; lia
  show (putD cs l a (x % 65536 ^ a)).take (l + a) ++ digs b (x / 65536 ^ a) ++ (putD cs l a (x % 65536 ^ a)).drop (l + a + b) = _
  rw [e2, e3, List.append_assoc (cs.take l), ← digs_add a b x h0]
  rfl
theorem div_lt {x : Int} {a b : Nat} (h : x < 65536 ^ (a + b)) : x / 65536 ^ a < 65536 ^ b := by
  refine Int.ediv_lt_of_lt_mul (Int.pow_pos (by decide)) ?_
  rw [← Int.pow_add, Nat.add_comm]; exact h
theorem pow_mono9 {a b : Nat} (h : a ≤ b) : (65536 : Int) ^ a ≤ 65536 ^ b := by
  obtain ⟨c, rfl⟩ := Nat.le.dest h
  rw [Int.pow_add]
  have h1 : (0 : Int) < 65536 ^ a := Int.pow_pos (by decide)
  have h2 : (0 : Int) < 65536 ^ c := Int.pow_pos (by decide)
  have := Int.mul_le_mul_of_nonneg_left (show 1 ≤ (65536 : Int) ^ c by lia) (Int.le_of_lt h1)
  rwa [Int.mul_one] at this
section
variable {l r d n : Nat}
theorem hv0 (hr : r = l + d) (h1 : 1 ≤ d) (h : (l : Int) + 1 ≠ (r : Int)) : 2 ≤ d := by lia
theorem hv1 (h : 2 ≤ d) : d / 2 < d := by lia
theorem hv2 (h : 2 ≤ d) : 1 ≤ d / 2 := by lia
theorem hv4 (h : 2 ≤ d) : d - d / 2 < d := by lia
theorem hv5 (h : 2 ≤ d) : 1 ≤ d - d / 2 := by lia
theorem hv6 (h : d ≤ 8) : d - d / 2 ≤ 8 := by lia
theorem hv7 (h : l + d ≤ n) : l + d / 2 ≤ n := by lia
theorem hv8 (h : l + d ≤ n) : l + d / 2 + (d - d / 2) ≤ n := by lia
theorem hv9 (h : r = l + d) : r = l + d / 2 + (d - d / 2) := by lia
theorem hva (hr : r = l + d) (h1 : 1 ≤ d) (h : (l : Int) + 1 = (r : Int)) : d = 1 := by lia
end
set_option maxHeartbeats 600000 in
theorem inner_g (d : Nat) : ∀ {h₀ : Heap} {L : Addr} {m : Locals} {rest : Led} {s : Shared} {Q E : Value → Shared → Prop} (x : Int) (l r : Nat) (tx tl tr : Tok) (vs : List Value) (e : Nat) (cs : List Int) (D f c' cN cI cA : Addr),
    r = l + d → 1 ≤ d → d ≤ 8 → 0 ≤ x → x < 65536 ^ d → l + d ≤ cs.length → cs.length ≤ 8 → IntsAre vs cs → InnerAt rest f c' cN cI cA D → (∀ p ∈ rest, p.1 ≠ D) →
    (∀ h' tk' vs' e', IntsAre vs' (putD cs l d x) → Fr h₀ L h' m → News h₀ L h' ((D, W.listOf vs'.toArray e') :: rest) → Q .none { s with heap := h', toks := tk' }) →
      Spec w p loose mean mg mb (3 * d + 4) (20 * d + 40) (.ref f) [.int x tx, .int (l : Int) tl, .int (r : Int) tr] h₀ L m ((D, W.listOf vs.toArray e) :: rest) s Q E := by
  induction d using Nat.strongRecOn with
  | ind d ih =>
  intro h₀ L m rest s Q E x l r tx tl tr vs e cs D f c' cN cI cA hr h1 h8 hx0 hxd hl hcs hi IA nr hret
  intro dp un gd cn cs' a ccd cl outer A₀ base hB F X N T hk hd hu
  obtain ⟨doc, pm, ctv, hf⟩ := IA.fn
  obtain ⟨oN, tN, hcN, hdN⟩ := IA.cn
  obtain ⟨oI, hcI, hdI⟩ := IA.ci
  obtain ⟨oA, hcA, hdA⟩ := IA.ca
  obtain ⟨oc, hcc, ⟨⟨cvs, ct, e1, e2⟩⟩⟩ := IA.cc
  have ef : inObj innerSt i2dQ [(PySem.Str.ofString "n", cN), (PySem.Str.ofString "inner", cI), (PySem.Str.ofString "a_digits", cA)] doc pm c' ctv = fnMade _ i2dQ _ _ _ [(PySem.Str.ofString "n", cN), (PySem.Str.ofString "inner", cI), (PySem.Str.ofString "a_digits", cA)] doc pm c' ctv := rfl
  rw [ef] at hf
  clear ef
  have u0 : 0 ≤ x / 65536 ^ (d / 2) := Int.ediv_nonneg hx0 (Int.le_of_lt (Int.pow_pos (by decide)))
  have u1 : x / 65536 ^ (d / 2) < 65536 ^ (d - d / 2) := div_lt (by rw [show d / 2 + (d - d / 2) = d by lia]; exact hxd)
  have u2 : x / 65536 ^ (d / 2) < 65536 ^ 8 := Int.lt_of_lt_of_le u1 (pow_mono9 (by lia))
  have u3 : d / 2 ≤ 8 := by lia
  have u4 : 0 ≤ x % 65536 ^ (d / 2) := Int.emod_nonneg _ (Int.ne_of_gt (Int.pow_pos (by decide)))
  refine wpAny_call ?_
  k_dflt (refine' code_nest ?k1 ?k2 ?k3 ?k4 ?k5 ?kA ?kF ?kK ?k6 ?k7 ?k8 ?k9 ?kB ?_ ?c2 ?c3 ?c4 ?c5; (case kA => exact rfl); (case kF => exact rfl); (case kK => first | assumption | exact rfl); (case k1 => k_asm); (case k2 => k_asm); (case k3 => k_asm); (case k4 => k_asm); (case k5 => k_asm); (case k6 => k_mem); (case k7 => exact codeRec_news (by k_asm) (by k_mem) (by assumption) (by assumption)); (case k8 => k_room); (case k9 => exact BindsTo.of_eq rfl); (case c5 => decide); (case kB => exact locs rfl); (case c2 => exact rfl); (case c3 => exact rfl); (case c4 => exact rfl); k_whole; intro g' L' h' FG' F' N' B' X' T'; (try dsimp only); (try k_lift B'); (try k_fold))
  have nd9 : Mine.NoDup [PySem.Str.ofString "R", PySem.Str.ofString "L", PySem.Str.ofString "x", PySem.Str.ofString "mid", PySem.Str.ofString "shift", PySem.Str.ofString "upper", PySem.Str.ofString "lower"] := Mine.NoDup.of (by decide +kernel)
  have F0 : Fr _ _ _ (Mine.look [PySem.Str.ofString "R", PySem.Str.ofString "L", PySem.Str.ofString "x", PySem.Str.ofString "mid", PySem.Str.ofString "shift", PySem.Str.ofString "upper", PySem.Str.ofString "lower"] [some (.int (r : Int) tr), some (.int (l : Int) tl), some (.int x tx), none, none, none, none]) := Mine.start_P (bs := [(PySem.Str.ofString "x", .int x tx), (PySem.Str.ofString "L", .int (l : Int) tl), (PySem.Str.ofString "R", .int (r : Int) tr)]) (ns' := [PySem.Str.ofString "mid", PySem.Str.ofString "shift", PySem.Str.ofString "upper", PySem.Str.ofString "lower"]) (k := 4) F'
  clear F'
  refine Mine.gen_tk ?_; intro tk0
  (repeat' (first | (k_unfold; (try dsimp only)) | (k_end; kc_close) | ((with_reducible show wpAny _ _ (call (Value.ref _) [Value.int (HMod.hMod _ _) _, _, _]) _ _ _); (have d2 := Mine.hv0 (by assumption) (by assumption) (by assumption)); k_dflt (refine' ih (d / 2) ?z1 _ _ _ _ _ _ _ _ _ _ _ _ _ _ _ ?zr ?z2 ?z3 ?z4 ?z5 ?z6 ?z7 ?zI ?zA ?zn ?_ _ _ _ _ _ _ _ _ _ _ _ ?c1 ?c2 ?c3 ?c4 ?c5 ?c6 ?c7 ?c8; (case zI => with_reducible assumption); (case zA => assumption); (case zn => assumption); (case zr => exact rfl); (case z1 => exact Mine.hv1 d2); (case z2 => exact Mine.hv2 d2); (case z3 => assumption); (case z4 => assumption); (case z5 => exact Int.emod_lt_of_pos _ (Int.pow_pos (by decide))); (case z6 => exact Mine.hv7 (by assumption)); (case z7 => assumption); (case c1 => k_asm); (case c2 => k_asm); (case c3 => k_asm); (case c4 => k_asm); (case c5 => k_asm); (case c6 => first | assumption | exact rfl); (case c7 => k_room); (case c8 => k_room); k_whole; intro h' tk' vs' e' i' F' N'; (try dsimp only))) | ((with_reducible show wpAny _ _ (call (Value.ref _) [Value.int (HDiv.hDiv _ _) _, _, _]) _ _ _); (have d2 := Mine.hv0 (by assumption) (by assumption) (by assumption)); k_dflt (refine' ih (d - d / 2) ?z1 _ _ _ _ _ _ _ _ _ _ _ _ _ _ _ ?zr ?z2 ?z3 ?z4 ?z5 ?z6 ?z7 ?zI ?zA ?zn ?_ _ _ _ _ _ _ _ _ _ _ _ ?c1 ?c2 ?c3 ?c4 ?c5 ?c6 ?c7 ?c8; (case zI => with_reducible assumption); (case zA => assumption); (case zn => assumption); (case zr => exact Mine.hv9 (by assumption)); (case z1 => exact Mine.hv4 d2); (case z2 => exact Mine.hv5 d2); (case z3 => exact Mine.hv6 (by assumption)); (case z4 => assumption); (case z5 => assumption); (case z6 => rw [putD_len (Mine.hv7 (by assumption))]; exact Mine.hv8 (by assumption)); (case z7 => rw [putD_len (Mine.hv7 (by assumption))]; assumption); (case c1 => k_asm); (case c2 => k_asm); (case c3 => k_asm); (case c4 => k_asm); (case c5 => k_asm); (case c6 => first | assumption | exact rfl); (case c7 => k_room); (case c8 => k_room); k_whole; intro h' tk' vs' e' i' F' N'; (try dsimp only))) | ((with_reducible show wpAny _ _ (callWith _ (Value.ref _) _ _ _) _ _ _); k_dflt (refine' callWith_F ?k1 ?_; (case k1 => exact FnAt.of (by k_asm) (by k_mem)); k_whole)) | ((with_reducible show FnAt _ _); k_dflt (exact FnAt.of (by k_asm) (by k_mem))) | ((with_reducible show wpAny _ _ (eval (Expr.Name _ _) _) _ _ _); k_dflt (refine Mine.name_P (by with_reducible assumption) (by assumption) (by with_reducible (repeat (first | exact Mine.At.here | apply Mine.At.there))) (by exact Eq.refl (some (some _))) ?_; k_whole)) | ((with_reducible show wpAny _ _ (eval (Expr.Name _ _) _) _ _ _); k_dflt (refine' nameX_F ?N ?c ?m ?d ?_ ?a ?b; (case a => rfl); (case b => rfl); (case N => k_asm); (case c => rfl); (case m => k_mem); (case d => k_asm); k_whole)) | ((with_reducible show wpAny _ _ (storeName _ _ _) _ _ _); k_dflt (refine Mine.store_P (by with_reducible assumption) (by k_asm) (by assumption) (by with_reducible (repeat (first | exact Mine.At.here | apply Mine.At.there))) (by rfl) ?_; k_whole; intro h' F' N'; (try dsimp only [List.set] at F'); (try k_sweep))) | ((with_reducible show wpAny _ _ (binaryOp Operator.RShift _ _) _ _ _); k_dflt (first | (with_reducible refine Mine.mid_R (by assumption) ?_) | (with_reducible refine Mine.up_R ?_)); k_whole; (try dsimp only)) | ((with_reducible show wpAny _ _ (binaryOp Operator.LShift _ _) _ _ _); k_dflt (with_reducible refine Mine.shl_R (by assumption) (by assumption) (by assumption) ?_); k_whole; (try dsimp only)) | ((with_reducible show wpAny _ _ (binaryOp Operator.BitXor _ _) _ _ _); k_dflt (with_reducible refine Mine.xor_R (by assumption) ?_); k_whole; (try dsimp only)) | ((with_reducible show wpAny _ _ (setItem (Value.ref _) (Value.int _ _) (Value.int _ _)) _ _ _); k_dflt (refine Mine.set_I (by k_asm) (by k_asm) (by with_reducible assumption) (by lia) (by lia) (by with_reducible assumption) ?_); k_whole; intro h' vs' e' i' F' N'; (try dsimp only)) | walk1 | (dsimp only; walk1) | (leave1; (try dsimp only)) | fail "no step"))
  · rename (_ + 1 = _) => e1
    have ed := hva hr h1 e1
    have ib : IntsAre vs' (putD cs l d x) := by
      rw [ed, ← putD_one hx0 (by rw [ed] at hxd; exact hxd) (by clear hxd u1 u2; lia)]
      exact i'
    exact hret _ _ _ _ ib (by assumption) (by assumption)
  · rw [putD_two hx0 (by clear hxd u1 u2; lia), show d / 2 + (d - d / 2) = d by clear hxd u1 u2; lia] at i'
    exact hret _ _ _ _ i' (by assumption) (by assumption)
end
section
open LCg
variable {w : World} {p : Program} {loose : List PySem.Str} {mean : ExcName → Option Value} {mg mb : Locals} {h₀ : Heap} {L : Addr} {m : Locals} {news : Led} {s : Shared} {Q E : Value → Shared → Prop}
inductive TabS (line col : Int) (qual : PySem.Str) : Obj → Led → Prop
  | empty {rest : Led} : TabS line col qual (tabObj #[]) rest
  | hit {rest : Led} {c' : Addr} {oc : Obj} : (c', oc) ∈ rest → CodeObj oc qual → TabS line col qual (tabInner line col c') rest
theorem TabS.mono {line col : Int} {qual : PySem.Str} {o : Obj} {a b : Led} (h : TabS line col qual o a) (hs : ∀ p ∈ a, p ∈ b) : TabS line col qual o b := by
  cases h with
  | empty => exact .empty
  | hit h1 h2 => exact .hit (hs _ h1) h2
theorem all_lt9 {d : Nat} : ∀ {l : Led}, AllLt d l → ∀ p ∈ l, @LT.lt Nat _ p.1 d
  | [], _ => fun _ h => nomatch h
  | _ :: _, h => fun p hp => by
    rcases List.mem_cons.mp hp with rfl | hp
    · exact h.1
    · exact all_lt9 h.2 p hp
section
variable {prog : Program} {A : Around} {cn : PySem.Str} {cs : Scope} {a c : Addr} {ccd : Value} {cl clos : List (PySem.Str × Addr)} {P B : Addr} {o : Obj} {g : Obj → Led} {old : Led} {name qual : PySem.Str} {params : Arguments} {body : List Stmt} {scope : Scope} {pos : Pos} {firstLine : Nat}
theorem nest_both {Q : Value → Shared → Prop} (F : Fr h₀ L s.heap m) (N : News h₀ L s.heap news) (T : Top p loose mean mg mb h₀) (C : CodeHd h₀ c P) (hcd : ccd = .ref c) (U : UpdF P o news g) (S : TabS pos.line pos.col qual o old) (hs : ∀ p ∈ old, p ∈ news) (hB : ∀ p ∈ old, p.1 < B)
    (hcl : closureFor scope (envX cn cs L a ccd cl) = pure clos)
    (h : ∀ f c' oc ctv doc h' tk, Fr h₀ L h' m → News h₀ L h' ((f, fnMade name qual params body scope clos doc ((mg "__name__").getD .none) c' ctv) :: (c', oc) :: g (tabInner pos.line pos.col c')) →
      CodeObj oc qual → (∀ q ∈ news, q.1 < f) → @LT.lt Nat _ c' f → (∀ q ∈ news, B ≤ q.1 → @Ne Nat c' q.1) → @Ne Nat c' P → ((∀ q ∈ news, @LT.lt Nat _ q.1 c') ∨ (c', oc) ∈ old) → Q (.ref f) { s with heap := h', toks := tk }) :
    wpAny (model prog w) A (makeFunction name qual params (.stmts body) scope (envX cn cs L a ccd cl) [] [] [] pos firstLine) Q E s := by
  have hP : (P, o) ∈ news := by obtain ⟨pre, post, e, _⟩ := U.split; rw [e]; exact List.mem_append_right _ (.head _)
  cases S with
  | empty =>
    exact nest_K F N T C hcd U trivial rfl hcl fun f c' oc vs t ctv doc h' tk F' N' e1 e2 l1 l2 =>
      h f c' oc ctv doc h' tk F' N' ⟨⟨vs, t, e1, e2⟩⟩ (fun q hq => Nat.lt_trans (l1 q hq) l2) l2 (fun q hq _ => Nat.ne_of_gt (l1 q hq)) (Nat.ne_of_gt (l1 _ hP)) (.inl l1)
  | @hit rest c' oc h1 h2 =>
    have hc : c' ≠ P := fun e => by
      have n1 : s.heap.get? c' = some oc := (N _ (hs _ h1)).1
      have n2 : s.heap.get? P = some (tabInner pos.line pos.col c') := (N _ hP).1
      rw [e, n2] at n1
      obtain ⟨vs, t, d1, d2⟩ := h2.ex
      have n3 := Option.some.inj n1
      rw [← n3] at d1
      cases d1
      simp [rawInt] at d2
    refine nestHit_K (c' := c') F N T C hcd hP ?_ ?_ hcl fun f ctv doc h' tk F' N' l1 =>
      h f c' oc ctv doc h' tk F' ?_ h2 l1 (l1 _ (hs _ h1)) (fun q hq hb => Nat.ne_of_lt (Nat.lt_of_lt_of_le (hB _ h1) hb)) hc (.inr h1)
    · simp [TriplesOk, rawInt]
    · simp [codeAmong, rawInt]
    · obtain ⟨pre, post, e, hg, _⟩ := U.split
      rw [hg, ← e]
      intro q hq
      rcases List.mem_cons.mp hq with rfl | hq
      · exact N' _ (.head _)
      rcases List.mem_cons.mp hq with rfl | hq
      · exact N' _ (.tail _ (hs _ h1))
      · exact N' _ (.tail _ hq)
end
theorem putD_all {cs : List Int} {D : Nat} {x : Int} (h : cs.length = D) : putD cs 0 D x = digs D x := by
  unfold putD
  rw [Nat.zero_add, List.drop_eq_nil_of_le (Nat.le_of_eq h), List.append_nil]
  rfl
theorem rot3 {a b d : Addr × Obj} {r : Led} {h : Heap} (N : News h₀ L h (a :: b :: d :: r)) : News h₀ L h (d :: a :: b :: r) := fun q hq => by
  rcases List.mem_cons.mp hq with rfl | hq
  · exact N _ (.tail _ (.tail _ (.head _)))
  rcases List.mem_cons.mp hq with rfl | hq
  · exact N _ (.head _)
  rcases List.mem_cons.mp hq with rfl | hq
  · exact N _ (.tail _ (.head _))
  · exact N _ (.tail _ (.tail _ (.tail _ hq)))
theorem i2d_g (D : Nat) (x : Int) (o31 : Obj) (tx tn : Tok) (h1 : 1 ≤ D) (h8 : D ≤ 8) (hx : 65536 ^ (D - 1) ≤ x) (hx2 : x < 65536 ^ D) (C : CodeHd h₀ 35 31) (old : Led) (hS : TabS 49 4 i2dQ o31 old) (hs : ∀ p ∈ old, p ∈ news) (hnw : ∀ p ∈ news, p.1 ≠ 31)
    (hret : ∀ h' tk' l vs e c' oc, IntsAre vs (digs D x) → CodeObj oc i2dQ → ((∀ p ∈ news, @LT.lt Nat _ p.1 c') ∨ (c', oc) ∈ old) → (∀ p ∈ news, p.1 < l) → @Ne Nat l 31 → @Ne Nat l c' → @Ne Nat c' 31 → Fr h₀ L h' m → News h₀ L h' ((31, tabInner 49 4 c') :: (l, W.listOf vs.toArray e) :: (c', oc) :: news) → Q (.ref l) { s with heap := h', toks := tk' }) :
      Spec w p loose mean mg mb 40 300 (.ref 36) [.int x tx, .int 16 tn] h₀ L m ((31, o31) :: news) s Q E := by
  intro dp un gd cn cs a ccd cl outer A₀ base hB F X N T hk hd hu
  have pp : (0 : Int) < 65536 ^ (D - 1) := Int.pow_pos (by decide)
  have hx0 : 1 ≤ x := by lia
  have hq : ((Builtin.Int.intBits x : Int) + 16 - 1).fdiv 16 = (D : Int) := by
    have a1 : (65536 : Int) ^ (D - 1) = ((2 ^ (16 * (D - 1)) : Nat) : Int) := by rw [Nat.pow_mul]; simp
    have a2 : (65536 : Int) ^ D = ((2 ^ (16 * (D - 1 + 1)) : Nat) : Int) := by rw [Nat.pow_mul, show D - 1 + 1 = D by lia]; simp
    have := bits_case (x := x) (D := D - 1) (by rw [a1] at hx; lia) (by rw [a2] at hx2; lia)
    rw [this]; lia
  refine wpAny_call ?_
  k_dflt (refine' code_defC ?k1 ?k2 ?k3 ?k4 ?k5 ?kA ?kF ?kK ?k6 ?k7 ?k8 ?k9 ?kB ?kD ?_ ?c2 ?c3 ?c4; (case kA => exact rfl); (case kF => exact rfl); (case kK => first | assumption | exact rfl); (case k1 => k_asm); (case k2 => k_asm); (case k3 => k_asm); (case k4 => k_asm); (case k5 => k_asm); (case k6 => k_is); (case k7 => k_is); (case k8 => k_room); (case k9 => first | exact BindsTo.of_eq rfl | exact binds_K (by k_in) rfl (by k_is) rfl rfl rfl); (case kB => exact rfl); (case kD => decide +kernel); (case c2 => exact rfl); (case c3 => exact rfl); (case c4 => exact rfl); k_whole; intro g' L' h' tk' cells' FG' F' N' Y' B' X' T' l1; (try k_lt l1); k_cells Y'; (try simp only [List.cons_append, List.nil_append] at N'); (try dsimp only); (try k_lift B'); (try k_fold))
  have C2 := CodeHd.keeps C (Fr.keep (h₀ := h₀) (L := L) (m := m) (by assumption))
  clear hx pp
  (repeat' (first | (k_unfold; (try dsimp only)) | (k_end; kc_close) | ((with_reducible show wpAny _ _ (exec (Stmt.FunctionDef _ _ _ _ _ _ _ _ _ _) _) _ _ _); refine of_stop9 ?_) | ((with_reducible show wpAny _ _ (binaryOp Operator.Mult (Value.ref _) (Value.int _ _)) _ _ _); k_dflt (rw [hq])) | walk1 | (dsimp only; walk1) | (leave1; (try dsimp only)) | fail "no step"))
  unfold Stop9
  rename_i oX oY oZ d1 d2 d3 la ha t1 lla Da hb i1 n1 s1 e1 e2 e3 t2 lb hc ob Fb Nb db
  have L0 : AllLt L' news := l1.2
  k_dflt (refine' nestDef_K ?d0 ?k0 ?a0 ?_; (case d0 => exact rfl); (case k0 => exact rfl); (case a0 => exact rfl))
  k_dflt (refine' Mine.nest_both (B := L') ?zF ?zN ?zT ?zC ?zcd ?zU ?zS ?zs ?zB ?zcl ?_; (case zF => k_asm); (case zN => k_asm); (case zT => k_asm); (case zC => exact C2); (case zcd => exact rfl); (case zU => k_updF); (case zS => exact hS); (case zs => exact fun p hp => .tail _ (.tail _ (.tail _ (.tail _ (.tail _ (.tail _ (hs p hp))))))); (case zB => exact fun p hp => all_lt9 L0 p (hs p hp)); (case zcl => exact rfl); k_whole)
  intro f' c' oc' ct' dc' h' tk' F' N' hoc lf lcf lc lc31 ho
  replace ho := ho.imp_left fun h q hq => h q (.tail _ (.tail _ (.tail _ (.tail _ (.tail _ (.tail _ hq))))))
  dsimp only at N'
  have q1 : @LT.lt Nat _ Da f' := lf _ (.head _)
  have q2 : @LT.lt Nat _ (L' + 1 + 1 + 1) f' := lf _ (.tail _ (.tail _ (.head _)))
  have q3 : @Ne Nat c' (L' + 1 + 1 + 1) := lc _ (.tail _ (.tail _ (.head _))) (Nat.le_add_right L' 3)
  have q4 : @Ne Nat c' (L' + 1 + 1) := lc _ (.tail _ (.tail _ (.tail _ (.head _)))) (Nat.le_add_right L' 2)
  have q5 : @Ne Nat c' (L' + 1) := lc _ (.tail _ (.tail _ (.tail _ (.tail _ (.head _))))) (Nat.le_add_right L' 1)
  have q7 : @LT.lt Nat _ la f' := lf _ (.tail _ (.head _))
  have q6 : @Ne Nat c' Da := lc _ (.head _) (Nat.le_of_lt (Nat.lt_of_succ_lt lb.2.2.2.1))
  have r2 : n1 = D := by have := e3 (by lia); lia
  have len1 : (List.replicate (D : Int).toNat [(0 : Int)]).flatten.length = D := e1.trans r2
  clear t1 t2
  (repeat' (first | (k_unfold; (try dsimp only)) | (k_end; kc_close) | ((with_reducible show wpAny _ _ (call (Value.ref _) [Value.int _ _, _, _]) _ _ _); refine of_stop9 ?_) | walk1 | (dsimp only; walk1) | (leave1; (try dsimp only)) | fail "no step"))
  · unfold Stop9
    k_dflt (refine' Mine.inner_g D x 0 n1 _ _ _ _ 0 _ Da f' c' (L' + 1) (L' + 1 + 1 + 1) (L' + 1 + 1) ?zr h1 h8 ?z0 hx2 ?zl ?z8 ?zi ?zA ?zn ?_ _ _ _ _ _ _ _ _ _ _ _ ?c1 ?c2 ?c3 ?c4 ?c5 ?c6 ?c7 ?c8; (case c1 => k_asm); (case c2 => k_asm); (case c3 => k_asm); (case c4 => exact Mine.rot3 (by with_reducible assumption)); (case c5 => k_asm); (case c6 => first | assumption | exact rfl); (case c7 => k_room); (case c8 => k_room); (case zr => lia); (case z0 => lia); (case zi => exact i1); (case zl => rw [len1]; lia); (case z8 => rw [len1]; lia); k_whole)
    case zA => exact ⟨⟨_, _, _, .head _⟩, ⟨oZ, _, .tail _ (.tail _ (.tail _ (.tail _ (.tail _ (.head _))))), d3⟩, ⟨_, .tail _ (.tail _ (.tail _ (.head _))), by assumption⟩, ⟨ob, .tail _ (.tail _ (.tail _ (.tail _ (.head _)))), db⟩, ⟨oc', .tail _ (.head _), hoc⟩⟩
    case zn => exact List.forall_mem_cons.mpr ⟨Nat.ne_of_gt q1, List.forall_mem_cons.mpr ⟨q6, List.forall_mem_cons.mpr ⟨Nat.ne_of_lt lb.1, List.forall_mem_cons.mpr ⟨Nat.ne_of_lt lb.2.1, List.forall_mem_cons.mpr ⟨Nat.ne_of_lt lb.2.2.1, List.forall_mem_cons.mpr ⟨Nat.ne_of_lt lb.2.2.2.1, List.forall_mem_cons.mpr ⟨Nat.ne_of_lt lb.2.2.2.2.1, fun p hp => Nat.ne_of_lt (all_lt9 lb.2.2.2.2.2 p hp)⟩⟩⟩⟩⟩⟩⟩
    intro h' tk' vs' e' i' F' N'
    (try dsimp only)
    (repeat' (first | (k_unfold; (try dsimp only)) | (k_end; kc_close) | ((with_reducible show wpAny _ _ (call (Value.ref _) [Value.int _ _, _, _]) _ _ _); refine of_stop9 ?_) | walk1 | (dsimp only; walk1) | (leave1; (try dsimp only)) | fail "no step"))
    rw [putD_all len1] at i'
    refine hret _ _ Da vs' e' c' oc' i' hoc ho (fun p hp => all_lt9 lb.2.2.2.2.2 p hp) (Nat.ne_of_gt lb.2.2.2.2.1) (Ne.symm q6) lc31 (by assumption) (cb_drop (by assumption) ?_)
    ((repeat (refine List.forall_mem_cons.mpr ⟨by k_mem, ?_⟩)); (repeat (refine Mine.sub_cons ?_)); exact fun _ h => h)
  · exfalso
    lia
end
section
open LCg
variable {w : World} {p : Program} {loose : List PySem.Str} {mean : ExcName → Option Value} {mg mb : Locals} {h₀ : Heap} {L : Addr} {m : Locals} {news : Led} {s : Shared} {Q E : Value → Shared → Prop}
theorem has_D {x : Int} (h1 : 1 ≤ x) (n : Nat) : x < 65536 ^ (n + 1) → ∃ D, 1 ≤ D ∧ D ≤ n + 1 ∧ 65536 ^ (D - 1) ≤ x ∧ x < 65536 ^ D := by
  induction n with
  | zero =>
    intro h
    refine ⟨1, Nat.le_refl _, Nat.le_refl _, ?_, h⟩
    rw [Nat.sub_self, Int.pow_zero]; exact h1
  | succ n ih =>
    intro h
    by_cases c : x < 65536 ^ (n + 1)
    · obtain ⟨D, a, b, d, e⟩ := ih c
      exact ⟨D, a, Nat.le_succ_of_le b, d, e⟩
    · refine ⟨n + 2, by lia, Nat.le_refl _, ?_, h⟩
      rw [show n + 2 - 1 = n + 1 from rfl]
      exact Int.not_lt.mp c
theorem digs_zero : ∀ d, digs d 0 = List.replicate d 0
  | 0 => rfl
  | d + 1 => by show _ :: digs d (0 / 65536) = _; rw [show (0 : Int) / 65536 = 0 from rfl, digs_zero d]; rfl
theorem digs_pad {D n : Nat} {x : Int} (h0 : 0 ≤ x) (hx : x < 65536 ^ D) (h : D ≤ n) : digs D x ++ List.replicate (n - D) 0 = digs n x := by
  have e : n = D + (n - D) := by lia
  rw [e, digs_add D (n - D) x h0, Int.emod_eq_of_lt h0 hx, Int.ediv_eq_zero_of_lt h0 hx, digs_zero]
  congr 2; lia
theorem len_I {prog : Program} {A : Around} {a : Addr} {vs : List Value} {ns : List Int} {ep : Nat} {Q : Value → Shared → Prop} (N : News h₀ L s.heap news) (hm : (a, W.listOf vs.toArray ep) ∈ news) (hi : IntsAre vs ns) (hz : ns.length ≤ 1000)
    (h : ∀ t tk, Q (.int (ns.length : Int) t) { s with toks := tk }) : wpAny (model prog w) A (call (.builtin "len") [.ref a]) Q E s := by
  have hL : s.heap.IsList a vs.toArray := ⟨_, (N _ hm).1, rfl, ep, rfl⟩
  have hv : vs.length = ns.length := hi.length
  refine len_list hL (by simp; lia) ?_
  have e : ((vs.toArray.size : Nat) : Int) = (ns.length : Int) := by simp [hv]
  rw [e]
  exact h _ _
theorem flat_rep : ∀ k : Nat, (List.replicate k [(0 : Int)]).flatten = List.replicate k 0
  | 0 => rfl
  | k + 1 => by rw [List.replicate_succ, List.flatten_cons, flat_rep k]; rfl
theorem counts_g (n : Nat) (x : Int) (o31 : Obj) (tx tn : Tok) (hn : n ≤ 4) (hx1 : 1 ≤ x) (hxn : x < 65536 ^ (n + 1)) (C : CodeHd h₀ 35 31) (old : Led) (hS : TabS 49 4 i2dQ o31 old) (hs : ∀ p ∈ old, p ∈ news) (hnw : ∀ p ∈ news, p.1 ≠ 31)
    (hret : ∀ h' tk' l vs e c' oc, IntsAre vs (digs (n + 1) x) → CodeObj oc i2dQ → ((∀ p ∈ news, @LT.lt Nat _ p.1 c') ∨ (c', oc) ∈ old) → (∀ p ∈ news, p.1 < l) → @Ne Nat l 31 → @Ne Nat l c' → @Ne Nat c' 31 → Fr h₀ L h' m → News h₀ L h' ((31, tabInner 49 4 c') :: (l, W.listOf vs.toArray e) :: (c', oc) :: news) → Q (.ref l) { s with heap := h', toks := tk' }) :
      Spec w p loose mean mg mb 50 400 (.ref 194) [.int x tx, .int (n : Int) tn] h₀ L m ((31, o31) :: news) s Q E := by
  intro dp un gd cn cs a ccd cl outer A₀ base hB F X N T hk hd hu
  obtain ⟨D, h1, hD, hx, hx2⟩ := has_D hx1 n hxn
  have h8 : D ≤ 8 := by lia
  refine wpAny_call ?_
  k_dflt (refine' code_def ?k1 ?k2 ?k3 ?k4 ?k5 ?kA ?kF ?kK ?k6 ?k7 ?k8 ?k9 ?kB ?_ ?c2 ?c3 ?c4 ?c5; (case kA => exact rfl); (case kF => exact rfl); (case kK => first | assumption | exact rfl); (case k1 => k_asm); (case k2 => k_asm); (case k3 => k_asm); (case k4 => k_asm); (case k5 => k_asm); (case k6 => k_is); (case k7 => k_is); (case k8 => k_room); (case k9 => first | exact BindsTo.of_eq rfl | exact binds_K (by k_in) rfl (by k_is) rfl rfl rfl); (case c5 => decide); (case kB => exact locs rfl); (case c2 => exact rfl); (case c3 => exact rfl); (case c4 => exact rfl); k_whole; intro g' L' h' FG' F' N' B' X' T'; (try dsimp only); (try k_lift B'); (try k_fold))
  have nd9 : Mine.NoDup [PySem.Str.ofString "n", PySem.Str.ofString "number", PySem.Str.ofString "told"] := Mine.NoDup.of (by decide +kernel)
  have F0 : Fr _ _ _ (Mine.look [PySem.Str.ofString "n", PySem.Str.ofString "number", PySem.Str.ofString "told"] [some (.int (n : Int) tn), some (.int x tx), none]) := Mine.start_P (bs := [(PySem.Str.ofString "number", .int x tx), (PySem.Str.ofString "n", .int (n : Int) tn)]) (ns' := [PySem.Str.ofString "told"]) (k := 1) F'
  clear F'
  refine Mine.gen_tk ?_; intro tk0
  have C2 := CodeHd.keeps C (Fr.keep (h₀ := h₀) (L := L) (m := m) (by assumption))
  (repeat' (first | (k_unfold; (try dsimp only)) | (k_end; kc_close) | ((with_reducible show wpAny _ _ (call (Value.ref 36) _) _ _ _); k_dflt (refine' Mine.i2d_g _ _ _ _ _ h1 h8 hx hx2 C2 old hS hs ?zn ?_ _ _ _ _ _ _ _ _ _ _ _ ?c1 ?c2 ?c3 ?c4 ?c5 ?c6 ?c7 ?c8; (case zn => first | assumption | exact hnw);(case c1 => k_asm); (case c2 => k_asm); (case c3 => k_asm); (case c4 => k_asm); (case c5 => k_asm); (case c6 => first | assumption | exact rfl); (case c7 => k_room); (case c8 => k_room); k_whole); intro h' tk' l' vs' e' c' oc' i' hoc' ho q1 q2 q3 q4 F' N'; (try dsimp only)) | ((with_reducible show wpAny _ _ (call (Value.builtin "len") [Value.ref _]) _ _ _); k_dflt (refine Mine.len_I (by k_asm) (by k_mem) (by with_reducible assumption) (by rw [digs_len]; lia) ?_; k_whole); intro t' tk'; (try simp only [Mine.digs_len])) | ((with_reducible show wpAny _ _ (binaryOp Operator.Add (Value.ref _) (Value.ref _)) _ _ _); refine of_stop9 ?_) | ((with_reducible show wpAny _ _ (eval (Expr.Name _ _) _) _ _ _); k_dflt (refine Mine.name_P (by with_reducible assumption) (by assumption) (by with_reducible (repeat (first | exact Mine.At.here | apply Mine.At.there))) (by exact Eq.refl (some (some _))) ?_; k_whole)) | ((with_reducible show wpAny _ _ (storeName _ _ _) _ _ _); k_dflt (refine Mine.store_P (by with_reducible assumption) (by k_asm) (by assumption) (by with_reducible (repeat (first | exact Mine.At.here | apply Mine.At.there))) (by rfl) ?_; k_whole; intro h' F' N'; (try dsimp only [List.set] at F'); (try k_sweep))) | walk1 | (dsimp only; walk1) | (leave1; (try dsimp only)) | fail "no step"))
  unfold Stop9
  rename_i la ha ta lla Da hb Fb Nb i1 n1 s1 e1 e2 e3 tb llb
  k_dflt (refine' kmk_add_ints ?zF ?zN ?za ?zb ?zi ?zj ?_ ?zz; (case zF => k_asm); (case zN => exact Nb); (case za => exact Mine.list_at Nb (by k_mem)); (case zb => exact Mine.list_at Nb (.head _)); (case zi => exact i'); (case zj => exact i1); (case zz => rw [digs_len, e1, sizeLine_eq]; have := e3 (by lia); lia); k_whole)
  clear e1 e2 e3 s1 ta tb
  intro D' ws' h' F' N' l1 hI'
  (try dsimp only)
  rw [flat_rep, show ((n : Int) + 1 - (D : Int)).toNat = n + 1 - D by lia, digs_pad (by lia) hx2 hD] at hI'
  (repeat' (first | (k_unfold; (try dsimp only)) | (k_end; kc_close) | ((with_reducible show wpAny _ _ (eval (Expr.Name _ _) _) _ _ _); k_dflt (refine Mine.name_P (by with_reducible assumption) (by assumption) (by with_reducible (repeat (first | exact Mine.At.here | apply Mine.At.there))) (by exact Eq.refl (some (some _))) ?_; k_whole)) | ((with_reducible show wpAny _ _ (storeName _ _ _) _ _ _); k_dflt (refine Mine.store_P (by with_reducible assumption) (by k_asm) (by assumption) (by with_reducible (repeat (first | exact Mine.At.here | apply Mine.At.there))) (by rfl) ?_; k_whole; intro h' F' N'; (try dsimp only [List.set] at F'); (try k_sweep))) | walk1 | (dsimp only; walk1) | (leave1; (try dsimp only)) | fail "no step"))
  refine hret _ _ D' ws' 0 c' oc' hI' hoc' ho (fun p hp => l1 p (.tail _ (.tail _ (.tail _ (.tail _ (.tail _ hp)))))) (Nat.ne_of_gt (l1 _ (.tail _ (.tail _ (.head _))))) (Nat.ne_of_gt (l1 _ (.tail _ (.tail _ (.tail _ (.tail _ (.head _))))))) q4 (by assumption) (cb_drop (by assumption) ?_)
  ((repeat (refine List.forall_mem_cons.mpr ⟨by k_mem, ?_⟩)); (repeat (refine Mine.sub_cons ?_)); exact fun _ h => h)
end
section
open LCg
variable {w : World} {p : Program} {loose : List PySem.Str} {mean : ExcName → Option Value} {mg mb : Locals} {h₀ : Heap} {L : Addr} {m : Locals} {news : Led} {s : Shared} {Q E : Value → Shared → Prop}
noncomputable def dval : List Int → Int
  | [] => 0
  | c :: r => c + 65536 * dval r
theorem dval_app (a b : List Int) : dval (a ++ b) = dval b * 65536 ^ a.length + dval a := by
  induction a with
  | nil => show dval b = dval b * 1 + 0; lia
  | cons c r ih =>
    show c + 65536 * dval (r ++ b) = dval b * 65536 ^ (r.length + 1) + (c + 65536 * dval r)
    rw [ih, Int.pow_succ, Int.mul_add, ← Int.mul_assoc (dval b), Int.mul_comm (dval b * _) 65536]
    lia
theorem dval_in : ∀ {l : List Int}, (∀ c ∈ l, 0 ≤ c ∧ c < 65536) → 0 ≤ dval l ∧ dval l < 65536 ^ l.length
  | [], _ => by constructor <;> decide
  | c :: r, h => by
    have h1 := h c (.head _)
    have h2 := dval_in (l := r) fun x hx => h x (.tail _ hx)
    show 0 ≤ c + 65536 * dval r ∧ c + 65536 * dval r < 65536 ^ (r.length + 1)
    rw [Int.pow_succ]
    generalize (65536 : Int) ^ r.length = B at h2
    lia
noncomputable def seg (cs : List Int) (l d : Nat) : List Int := (cs.drop l).take d
theorem seg_len {cs : List Int} {l d : Nat} (h : l + d ≤ cs.length) : (seg cs l d).length = d := by
  unfold seg; rw [List.length_take, List.length_drop]; lia
theorem seg_two {cs : List Int} {l a b : Nat} (h : l + a ≤ cs.length) : dval (seg cs (l + a) b) * 65536 ^ a + dval (seg cs l a) = dval (seg cs l (a + b)) := by
  have e : seg cs l (a + b) = seg cs l a ++ seg cs (l + a) b := by unfold seg; rw [List.take_add, List.drop_drop]
  rw [e, dval_app, seg_len h]
theorem seg_in {cs : List Int} {l d : Nat} (h : ∀ c ∈ cs, 0 ≤ c ∧ c < 65536) (hd : d ≤ 8) : 0 ≤ dval (seg cs l d) ∧ dval (seg cs l d) < 65536 ^ 8 := by
  have h1 := dval_in (l := seg cs l d) fun c hc => h c (List.mem_of_mem_drop (List.mem_of_mem_take hc))
  have h2 : (seg cs l d).length ≤ d := by unfold seg; rw [List.length_take]; lia
  exact ⟨h1.1, Int.lt_of_lt_of_le h1.2 (pow_mono9 (Nat.le_trans h2 hd))⟩
theorem seg_one {cs : List Int} {l : Nat} (h : l < cs.length) : cs.getD l 0 = dval (seg cs l 1) := by
  unfold seg
  rw [List.drop_eq_getElem_cons h]
  show _ = cs[l] + 65536 * 0
  rw [List.getD_eq_getElem?_getD, List.getElem?_eq_getElem h]
  show cs[l] = _
  lia
noncomputable def dinSt : Stmt := ((bodyOf (stAt 4))[0]?).getD default
noncomputable abbrev d2iQ : PySem.Str := PySem.Str.ofString "_digits2int.<locals>.inner"
structure DinAt (news : Led) (f c' cN cI cD Dl : Addr) : Prop where
  fn : ∃ doc pm ctv, (f, inObj dinSt d2iQ [(PySem.Str.ofString "n", cN), (PySem.Str.ofString "inner", cI), (PySem.Str.ofString "digits", cD)] doc pm c' ctv) ∈ news
  cn : ∃ o t, (cN, o) ∈ news ∧ o.data = .cell (some (.int 16 t))
  ci : ∃ o, (cI, o) ∈ news ∧ o.data = .cell (some (.ref f))
  ca : ∃ o, (cD, o) ∈ news ∧ o.data = .cell (some (.ref Dl))
  cc : ∃ oc, (c', oc) ∈ news ∧ CodeObj oc d2iQ
set_option maxHeartbeats 800000 in
theorem din_g (d : Nat) : ∀ {h₀ : Heap} {L : Addr} {m : Locals} {news : Led} {s : Shared} {Q E : Value → Shared → Prop} (l r : Nat) (tl tr : Tok) (vs : List Value) (e : Nat) (cs : List Int) (Dl f c' cN cI cD : Addr),
    r = l + d → 1 ≤ d → d ≤ 8 → l + d ≤ cs.length → cs.length ≤ 1000 → IntsAre vs cs → (∀ c ∈ cs, 0 ≤ c ∧ c < 65536) → (Dl, W.listOf vs.toArray e) ∈ news → DinAt news f c' cN cI cD Dl →
    (∀ h' tk' t, Fr h₀ L h' m → News h₀ L h' news → Q (.int (dval (seg cs l d)) t) { s with heap := h', toks := tk' }) →
      Spec w p loose mean mg mb (3 * d + 4) (20 * d + 40) (.ref f) [.int (l : Int) tl, .int (r : Int) tr] h₀ L m news s Q E := by
  induction d using Nat.strongRecOn with
  | ind d ih =>
  intro h₀ L m news s Q E l r tl tr vs e cs Dl f c' cN cI cD hr h1 h8 hl hcs hi hcb hmD IA hret
  intro dp un gd cn cs' a ccd cl outer A₀ base hB F X N T hk hd hu
  obtain ⟨doc, pm, ctv, hf⟩ := id IA.fn
  obtain ⟨oN, tN, hcN, hdN⟩ := id IA.cn
  obtain ⟨oI, hcI, hdI⟩ := id IA.ci
  obtain ⟨oA, hcA, hdA⟩ := id IA.ca
  obtain ⟨oc, hcc, ⟨⟨cvs, ct, e1, e2⟩⟩⟩ := id IA.cc
  have ef : inObj dinSt d2iQ [(PySem.Str.ofString "n", cN), (PySem.Str.ofString "inner", cI), (PySem.Str.ofString "digits", cD)] doc pm c' ctv = fnMade _ d2iQ _ _ _ [(PySem.Str.ofString "n", cN), (PySem.Str.ofString "inner", cI), (PySem.Str.ofString "digits", cD)] doc pm c' ctv := rfl
  rw [ef] at hf
  clear ef
  have hll : l < cs.length := by lia
  obtain ⟨s0, s1⟩ := seg_in (l := l + d / 2) (d := d - d / 2) hcb (by lia)
  have u3 : d / 2 ≤ 8 := by lia
  refine wpAny_call ?_
  k_dflt (refine' code_nest ?k1 ?k2 ?k3 ?k4 ?k5 ?kA ?kF ?kK ?k6 ?k7 ?k8 ?k9 ?kB ?_ ?c2 ?c3 ?c4 ?c5; (case kA => exact rfl); (case kF => exact rfl); (case kK => first | assumption | exact rfl); (case k1 => k_asm); (case k2 => k_asm); (case k3 => k_asm); (case k4 => k_asm); (case k5 => k_asm); (case k6 => k_mem); (case k7 => exact codeRec_news (by k_asm) (by k_mem) (by assumption) (by assumption)); (case k8 => k_room); (case k9 => exact BindsTo.of_eq rfl); (case c5 => decide); (case kB => exact locs rfl); (case c2 => exact rfl); (case c3 => exact rfl); (case c4 => exact rfl); k_whole; intro g' L' h' FG' F' N' B' X' T'; (try dsimp only); (try k_lift B'); (try k_fold))
  have nd9 : Mine.NoDup [PySem.Str.ofString "R", PySem.Str.ofString "L", PySem.Str.ofString "mid", PySem.Str.ofString "shift"] := Mine.NoDup.of (by decide +kernel)
  have F0 : Fr _ _ _ (Mine.look [PySem.Str.ofString "R", PySem.Str.ofString "L", PySem.Str.ofString "mid", PySem.Str.ofString "shift"] [some (.int (r : Int) tr), some (.int (l : Int) tl), none, none]) := Mine.start_P (bs := [(PySem.Str.ofString "L", .int (l : Int) tl), (PySem.Str.ofString "R", .int (r : Int) tr)]) (ns' := [PySem.Str.ofString "mid", PySem.Str.ofString "shift"]) (k := 2) F'
  clear F'
  refine Mine.gen_tk ?_; intro tk0
  (repeat' (first | (k_unfold; (try dsimp only)) | (k_end; kc_close) | ((with_reducible show wpAny _ _ (call (Value.ref _) [Value.int _ _, Value.int _ _]) _ _ _); (have d2 := Mine.hv0 (by assumption) (by assumption) (by assumption)); first | (k_dflt (refine' ih (d / 2) ?z1 l (l + d / 2) _ _ _ _ _ _ _ _ _ _ _ ?zr ?z2 ?z3 ?z6 ?z7 ?zI ?zb ?zm ?zA ?_ _ _ _ _ _ _ _ _ _ _ _ ?c1 ?c2 ?c3 ?c4 ?c5 ?c6 ?c7 ?c8; (case zI => with_reducible assumption); (case zb => assumption); (case zr => exact rfl); (case z1 => exact Mine.hv1 d2); (case z2 => exact Mine.hv2 d2); (case z3 => assumption); (case z6 => exact Mine.hv7 (by assumption)); (case z7 => assumption); (case c1 => k_asm); (case c2 => k_asm); (case c3 => k_asm); (case c4 => k_asm); (case c5 => k_asm); (case c6 => first | assumption | exact rfl); (case c7 => k_room); (case c8 => k_room); (case zA => assumption); (case zm => assumption); k_whole)) | (k_dflt (refine' ih (d - d / 2) ?z1 (l + d / 2) r _ _ _ _ _ _ _ _ _ _ _ ?zr ?z2 ?z3 ?z6 ?z7 ?zI ?zb ?zm ?zA ?_ _ _ _ _ _ _ _ _ _ _ _ ?c1 ?c2 ?c3 ?c4 ?c5 ?c6 ?c7 ?c8; (case zI => with_reducible assumption); (case zb => assumption); (case zr => exact Mine.hv9 (by assumption)); (case z1 => exact Mine.hv4 d2); (case z2 => exact Mine.hv5 d2); (case z3 => exact Mine.hv6 (by assumption)); (case z6 => exact Mine.hv8 (by assumption)); (case z7 => assumption); (case c1 => k_asm); (case c2 => k_asm); (case c3 => k_asm); (case c4 => k_asm); (case c5 => k_asm); (case c6 => first | assumption | exact rfl); (case c7 => k_room); (case c8 => k_room); (case zA => assumption); (case zm => assumption); k_whole)); intro h' tk' t' F' N'; (try dsimp only)) | ((with_reducible show wpAny _ _ (callWith _ (Value.ref _) _ _ _) _ _ _); k_dflt (refine' callWith_F ?k1 ?_; (case k1 => exact FnAt.of (by k_asm) (by k_mem)); k_whole)) | ((with_reducible show FnAt _ _); k_dflt (exact FnAt.of (by k_asm) (by k_mem))) | ((with_reducible show wpAny _ _ (eval (Expr.Name _ _) _) _ _ _); k_dflt (refine Mine.name_P (by with_reducible assumption) (by assumption) (by with_reducible (repeat (first | exact Mine.At.here | apply Mine.At.there))) (by exact Eq.refl (some (some _))) ?_; k_whole)) | ((with_reducible show wpAny _ _ (eval (Expr.Name _ _) _) _ _ _); k_dflt (refine' nameX_F ?N ?c ?m ?d ?_ ?a ?b; (case a => rfl); (case b => rfl); (case N => k_asm); (case c => rfl); (case m => k_mem); (case d => k_asm); k_whole)) | ((with_reducible show wpAny _ _ (subscriptTail _ _ (Value.ref _) (Value.int _ _)) _ _ _); k_dflt (refine Mine.item_ints (by k_asm) (by k_mem) (by with_reducible assumption) rfl (by assumption) (by assumption) ?_ (by with_unfolding_all rfl); k_whole); intro t'; (try dsimp only)) | ((with_reducible show wpAny _ _ (storeName _ _ _) _ _ _); k_dflt (refine Mine.store_P (by with_reducible assumption) (by k_asm) (by assumption) (by with_reducible (repeat (first | exact Mine.At.here | apply Mine.At.there))) (by rfl) ?_; k_whole; intro h' F' N'; (try dsimp only [List.set] at F'); (try k_sweep))) | ((with_reducible show wpAny _ _ (binaryOp Operator.RShift _ _) _ _ _); k_dflt (with_reducible refine Mine.mid_R (by assumption) ?_); k_whole; (try dsimp only)) | ((with_reducible show wpAny _ _ (binaryOp Operator.LShift _ _) _ _ _); k_dflt (with_reducible refine Mine.shl_R (by assumption) (by assumption) (by assumption) ?_); k_whole; (try dsimp only)) | walk1 | (dsimp only; walk1) | (leave1; (try dsimp only)) | fail "no step"))
  · rename (_ + 1 = _) => e1
    have ed := hva hr h1 e1
    exact q_int (b := dval (seg cs l d)) (by rw [ed]; exact seg_one hll) (hret _ _ _ (by assumption) (by assumption))
  · have hs : d / 2 + (d - d / 2) = d := by clear s0 s1; lia
    exact q_int (b := dval (seg cs l d)) (by rw [seg_two (Mine.hv7 hl), hs]) (hret _ _ _ (by assumption) (by assumption))
theorem seg_all {cs : List Int} {D : Nat} (h : cs.length = D) : seg cs 0 D = cs := by
  unfold seg; rw [List.drop_zero]; exact List.take_of_length_le (by lia)
theorem true_L {prog : Program} {A : Around} {a : Addr} {vs : List Value} {ns : List Int} {ep : Nat} {Q : Bool → Shared → Prop} (N : News h₀ L s.heap news) (hm : (a, W.listOf vs.toArray ep) ∈ news) (hi : IntsAre vs ns) (h1 : 1 ≤ ns.length) (hz : ns.length ≤ 8)
    (h : Q true { s with toks := s.toks + 1 + 1 }) : wpAny (model prog w) A (truthy (.ref a)) Q E s := by
  have hL : s.heap.IsList a vs.toArray := ⟨_, (N _ hm).1, rfl, ep, rfl⟩
  have hv : vs.length = ns.length := hi.length
  refine wpAny_truthy_list hL (by simp; lia) ?_
  have e : (!vs.toArray.isEmpty) = true := by
    cases vs with
    | nil => rw [List.length_nil] at hv; lia
    | cons x r => rfl
  rw [e]
  exact h
theorem d2i_g (dl : Addr) (ee : Nat) (ds : List Value) (cs : List Int) (o38 : Obj) (tn : Tok) (hi : IntsAre ds cs) (h1 : 1 ≤ cs.length) (h8 : cs.length ≤ 8) (hcb : ∀ c ∈ cs, 0 ≤ c ∧ c < 65536) (C : CodeHd h₀ 42 38) (old : Led) (hS : TabS 64 4 d2iQ o38 old) (hs : ∀ p ∈ old, p ∈ news) (hnw : ∀ p ∈ news, p.1 ≠ 38) (hdl : (dl, W.listOf ds.toArray ee) ∈ news)
    (hret : ∀ h' tk' t' c' oc, CodeObj oc d2iQ → ((∀ p ∈ news, @LT.lt Nat _ p.1 c') ∨ (c', oc) ∈ old) → @Ne Nat c' 38 → Fr h₀ L h' m → News h₀ L h' ((38, tabInner 64 4 c') :: (c', oc) :: news) → Q (.int (dval cs) t') { s with heap := h', toks := tk' }) :
      Spec w p loose mean mg mb 40 300 (.ref 43) [.ref dl, .int 16 tn] h₀ L m ((38, o38) :: news) s Q E := by
  intro dp un gd cn cs' a ccd cl outer A₀ base hB F X N T hk hd hu
  refine wpAny_call ?_
  k_dflt (refine' code_defC ?k1 ?k2 ?k3 ?k4 ?k5 ?kA ?kF ?kK ?k6 ?k7 ?k8 ?k9 ?kB ?kD ?_ ?c2 ?c3 ?c4; (case kA => exact rfl); (case kF => exact rfl); (case kK => first | assumption | exact rfl); (case k1 => k_asm); (case k2 => k_asm); (case k3 => k_asm); (case k4 => k_asm); (case k5 => k_asm); (case k6 => k_is); (case k7 => k_is); (case k8 => k_room); (case k9 => first | exact BindsTo.of_eq rfl | exact binds_K (by k_in) rfl (by k_is) rfl rfl rfl); (case kB => exact rfl); (case kD => decide +kernel); (case c2 => exact rfl); (case c3 => exact rfl); (case c4 => exact rfl); k_whole; intro g' L' h' tk' cells' FG' F' N' Y' B' X' T' l1; (try k_lt l1); k_cells Y'; (try simp only [List.cons_append, List.nil_append] at N'); (try dsimp only); (try k_lift B'); (try k_fold))
  have C2 := CodeHd.keeps C (Fr.keep (h₀ := h₀) (L := L) (m := m) (by assumption))
  (repeat' (first | (k_unfold; (try dsimp only)) | (k_end; kc_close) | ((with_reducible show wpAny _ _ (exec (Stmt.FunctionDef _ _ _ _ _ _ _ _ _ _) _) _ _ _); refine of_stop9 ?_) | walk1 | (dsimp only; walk1) | (leave1; (try dsimp only)) | fail "no step"))
  unfold Stop9
  rename_i oX oY oZ d1 d2 d3
  have L0 : AllLt L' news := l1.2
  k_dflt (refine' nestDef_K ?d0 ?k0 ?a0 ?_; (case d0 => exact rfl); (case k0 => exact rfl); (case a0 => exact rfl))
  k_dflt (refine' Mine.nest_both (B := L') ?zF ?zN ?zT ?zC ?zcd ?zU ?zS ?zs ?zB ?zcl ?_; (case zF => k_asm); (case zN => k_asm); (case zT => k_asm); (case zC => exact C2); (case zcd => exact rfl); (case zU => k_updF); (case zS => exact hS); (case zs => exact fun p hp => .tail _ (.tail _ (.tail _ (.tail _ (hs p hp))))); (case zB => exact fun p hp => all_lt9 L0 p (hs p hp)); (case zcl => exact rfl); k_whole)
  intro f' c' oc' ct' dc' h' tk' F' N' hoc lf lcf lc lc31 ho
  replace ho := ho.imp_left fun h q hq => h q (.tail _ (.tail _ (.tail _ (.tail _ hq))))
  dsimp only at N'
  have q2 : @LT.lt Nat _ (L' + 1 + 1 + 1) f' := lf _ (.head _)
  have q3 : @Ne Nat c' (L' + 1 + 1 + 1) := lc _ (.head _) (Nat.le_add_right L' 3)
  have q4 : @Ne Nat c' (L' + 1 + 1) := lc _ (.tail _ (.head _)) (Nat.le_add_right L' 2)
  have q5 : @Ne Nat c' (L' + 1) := lc _ (.tail _ (.tail _ (.head _))) (Nat.le_add_right L' 1)
  clear lf lc
  (repeat' (first | (k_unfold; (try dsimp only)) | (k_end; kc_close) | ((with_reducible show wpAny _ _ (call (Value.builtin "len") [Value.ref _]) _ _ _); k_dflt (refine Mine.len_I (by k_asm) (by k_mem) (by with_reducible assumption) (by lia) ?_; k_whole); intro t' tk'; (try dsimp only)) | ((with_reducible show wpAny _ _ (call (Value.ref _) [Value.int _ _, _]) _ _ _); refine of_stop9 ?_) | ((with_reducible show wpAny _ _ (truthy (Value.ref _)) _ _ _); k_dflt (refine Mine.true_L (by k_asm) (by k_mem) (by with_reducible assumption) (by assumption) (by assumption) ?_; k_whole); rw [if_pos rfl]) | walk1 | (dsimp only; walk1) | (leave1; (try dsimp only)) | fail "no step"))
  unfold Stop9
  k_dflt (refine' Mine.din_g cs.length 0 cs.length _ _ ds ee cs dl f' c' (L' + 1 + 1) (L' + 1 + 1 + 1) (L' + 1) ?zr h1 h8 ?zl ?zz hi hcb ?zm ?zA ?_ _ _ _ _ _ _ _ _ _ _ _ ?c1 ?c2 ?c3 ?c4 ?c5 ?c6 ?c7 ?c8; (case c1 => k_asm); (case c2 => k_asm); (case c3 => k_asm); (case c4 => k_asm); (case c5 => k_asm); (case c6 => first | assumption | exact rfl); (case c7 => k_room); (case c8 => k_room); (case zr => lia); (case zl => lia); (case zz => lia); (case zm => k_mem); k_whole)
  case zA => exact ⟨⟨_, _, _, .head _⟩, ⟨oY, _, .tail _ (.tail _ (.tail _ (.head _))), d2⟩, ⟨_, .tail _ (.tail _ (.head _)), by assumption⟩, ⟨oZ, .tail _ (.tail _ (.tail _ (.tail _ (.head _)))), d3⟩, ⟨oc', .tail _ (.head _), hoc⟩⟩
  intro h' tk' t' F' N'
  (try dsimp only)
  (repeat' (first | (k_unfold; (try dsimp only)) | (k_end; kc_close) | ((with_reducible show wpAny _ _ (call (Value.ref _) [Value.int _ _, _]) _ _ _); refine of_stop9 ?_) | walk1 | (dsimp only; walk1) | (leave1; (try dsimp only)) | fail "no step"))
  rw [seg_all rfl]
  refine hret _ _ _ c' oc' hoc ho lc31 (by assumption) (cb_drop (by assumption) ?_)
  ((repeat (refine List.forall_mem_cons.mpr ⟨by k_mem, ?_⟩)); (repeat (refine Mine.sub_cons ?_)); exact fun _ h => h)
end
section
section
variable {prog : Program} {w : World} {A : Around} {E : Value → Shared → Prop} {s : Shared} {h₀ : Heap} {L : Addr} {env : Env} {body : List Stmt}
theorem While_n {σ : Type} (n : Nat) (mOf : σ → Locals) (nOf : σ → Led) (J : Nat → σ → Prop) {test : PySem.Expr} {pos : Pos} {Q : Flow → Shared → Prop} (x₀ : σ) (F : Fr h₀ L s.heap (mOf x₀)) (N : News h₀ L s.heap (nOf x₀)) (j : J 0 x₀)
    (turn : ∀ k x h tk, k ≤ n → J k x → Fr h₀ L h (mOf x) → News h₀ L h (nOf x) →
      wpAny (model prog w) A (isTrue test env (eval test env)) (fun b s₂ => if b = true then wpAny (model prog w) A (execs body env) (TEnd h₀ L mOf nOf (fun x => k + 1 ≤ n ∧ J (k + 1) x) { s with heap := h, toks := tk }) NoE s₂ else Q .next s₂) NoE { s with heap := h, toks := tk })
    (hE : PassesOwn (model prog w) A env NoE := by passes_own) :
    wpAny (model prog w) A (exec (.While test body [] pos) env) Q E s := by
  refine no_E ?_
  refine wpAny_While (codeAny_whileLoop (fun n' s' => ∃ k x h tk, k + n' = n ∧ s' = { s with heap := h, toks := tk } ∧ J k x ∧ Fr h₀ L h (mOf x) ∧ News h₀ L h (nOf x)) ?_ n ⟨0, x₀, s.heap, s.toks, by lia, rfl, j, F, N⟩)
  rintro n' s' ⟨k, x, h, tk, hk, rfl, J₁, F₁, N₁⟩
  refine wpAny_mono (turn k x h tk (by lia) J₁ F₁ N₁) (fun b s₂ h₂ => ?_) hE
  cases b with
  | false =>
    simp only [Bool.false_eq_true, if_false] at h₂ ⊢
    exact wpAny_execs_nil h₂
  | true =>
    simp only [if_true] at h₂ ⊢
    refine wpAny_mono h₂ (fun f s₃ h₃ => ?_) hE
    obtain ⟨rfl, x', h', tk', rfl, ⟨hk', J'⟩, F', N'⟩ := h₃
    exact ⟨n' - 1, by lia, k + 1, x', h', tk', by lia, rfl, J', F', N'⟩
end
theorem bindL_all {kindOf : PySem.Str → Option NameKind} : ∀ (bs : List (PySem.Str × Value)) (m : Locals), (bs.all fun b => decide (kindOf b.1 = some .local)) = true → bindL kindOf bs m = fun y => (bs.reverse.lookup y).or (m y)
  | [], m, _ => by funext y; rfl
  | (n, v) :: r, m, h => by
    rw [List.all_cons, Bool.and_eq_true] at h
    have h1 : kindOf n = some .local := of_decide_eq_true h.1
    show bindL kindOf r (if kindOf n = some .local then fun y => if y = n then some v else m y else m) = _
    rw [if_pos h1, bindL_all r _ h.2]
    funext y
    rw [List.reverse_cons, List.lookup_append]
    show _ = ((List.lookup y r.reverse).or (match y == n with | true => some v | false => none)).or (m y)
    by_cases e : y = n
    · subst e; simp
    · have e2 : (y == n) = false := by simp [e]
      rw [e2, if_neg e]; simp
theorem start_C {h₀ : Heap} {L : Addr} {h : Heap} {kindOf : PySem.Str → Option NameKind} {bs : List (PySem.Str × Value)} {ns' : List PySem.Str} {k : Nat} (F : Fr h₀ L h (bindL kindOf bs fun _ => none)) (e : (bs.all fun b => decide (kindOf b.1 = some .local)) = true) : Fr h₀ L h (look (bs.reverse.map (·.1) ++ ns') ((bs.reverse.map fun b => some b.2) ++ List.replicate k none)) := by
  refine start_P ?_
  rw [bindL_all bs _ e] at F
  refine Fr.conv F ?_
  funext y
  simp
theorem ins_L {prog : Program} {w : World} {A : Around} {E : Value → Shared → Prop} {s : Shared} {h₀ : Heap} {L : Addr} {m : Locals} {rest : Led} {l : Addr} {items : List Value} {ep : Nat} {v : Value} {u : Tok} {Q : Value → Shared → Prop} (F : Fr h₀ L s.heap m) (N : News h₀ L s.heap ((l, W.listOf items.toArray ep) :: rest)) (nr : ∀ p ∈ rest, p.1 ≠ l) (hz : items.length ≤ 1000)
    (h : ∀ h', Fr h₀ L h' m → News h₀ L h' ((l, W.listOf (v :: items).toArray (ep + 1)) :: rest) → Q .none { s with heap := h' }) : wpAny (model prog w) A (call (.builtin "list.insert") [.ref l, .int 0 u, v]) Q E s := by
  refine kl_insert (l := v :: items) F N (by rfl) ?_ (.head nr) (by rw [sizeLine_eq]; simp; lia) h
  show kl_ins items 0 v = v :: items
  cases items <;> rfl
end
section
noncomputable def dot : List Int → List Int → Int
  | c :: l, p :: q => c * p + dot l q
  | _, _ => 0
noncomputable def up : List Int → List Int
  | a :: b :: r => (a + b) :: up (b :: r)
  | _ => []
noncomputable def mulc (g r : Int) : List Int → Int → List Int
  | [], prev => [r * prev]
  | c :: l, prev => (g * c + r * prev) :: mulc g r l c
theorem mulc_len (g r : Int) : ∀ (l : List Int) (v : Int), (mulc g r l v).length = l.length + 1
  | [], _ => rfl
  | c :: l, _ => by show (mulc g r l c).length + 1 = _; rw [mulc_len]; rfl
theorem mulc_val (g r : Int) : ∀ (l : List Int) (v : Int), dval (mulc g r l v) = dval l * (g + r * 65536) + r * v
  | [], v => by show r * v + 65536 * 0 = 0 * _ + r * v; lia
  | c :: l, v => by
    show g * c + r * v + 65536 * dval (mulc g r l c) = (c + 65536 * dval l) * (g + r * 65536) + r * v
    rw [mulc_val g r l c]
    grind
theorem mulc_sum (g r : Int) : ∀ (l : List Int) (v : Int), (mulc g r l v).sum = (g + r) * l.sum + r * v
  | [], v => by show r * v + 0 = (g + r) * 0 + r * v; lia
  | c :: l, v => by
    show g * c + r * v + (mulc g r l c).sum = (g + r) * (c + l.sum) + r * v
    rw [mulc_sum g r l c]
    grind
theorem mulc_nn {g r : Int} (hg : 0 ≤ g) (hr : 0 ≤ r) : ∀ (l : List Int) (v : Int), 0 ≤ v → (∀ c ∈ l, 0 ≤ c) → ∀ c ∈ mulc g r l v, 0 ≤ c
  | [], v, hv, _, c, hc => by rw [List.mem_singleton.mp hc]; exact Int.mul_nonneg hr hv
  | a :: l, v, hv, h, c, hc => by
    have ha := h a (.head _)
    rcases List.mem_cons.mp hc with rfl | hc
    · exact Int.add_nonneg (Int.mul_nonneg hg ha) (Int.mul_nonneg hr hv)
    · exact mulc_nn hg hr l a ha (fun x hx => h x (.tail _ hx)) c hc
theorem mulc_dot (g r : Int) : ∀ (l : List Int) (v p : Int) (P : List Int), P.length = l.length → dot (mulc g r l v) (p :: P) = g * dot l (p :: P) + r * (v * p + dot l P)
  | [], v, p, P, h => by
    cases P with
    | nil => show r * v * p + 0 = g * 0 + r * (v * p + 0); grind
    | cons _ _ => cases h
  | c :: l, v, p, P, h => by
    cases P with
    | nil => cases h
    | cons q P =>
      show (g * c + r * v) * p + dot (mulc g r l c) (q :: P) = g * (c * p + dot l (q :: P)) + r * (v * p + (c * q + dot l P))
      rw [mulc_dot g r l c q P (Nat.succ.inj h)]
      grind
theorem dot_up : ∀ (l : List Int) (p : Int) (P : List Int), P.length = l.length → dot l (up (p :: P)) = dot l (p :: P) + dot l P
  | [], p, P, _ => rfl
  | c :: l, p, P, h => by
    cases P with
    | nil => cases h
    | cons q P =>
      show c * (p + q) + dot l (up (q :: P)) = (c * p + dot l (q :: P)) + (c * q + dot l P)
      rw [dot_up l q P (Nat.succ.inj h)]
      grind
theorem up_len : ∀ (l : List Int), (up l).length = l.length - 1
  | [] => rfl
  | [_] => rfl
  | a :: b :: r => by show (up (b :: r)).length + 1 = _; rw [up_len (b :: r)]; simp
theorem le_sum : ∀ {l : List Int}, (∀ c ∈ l, 0 ≤ c) → 0 ≤ l.sum ∧ ∀ c ∈ l, c ≤ l.sum
  | [], _ => ⟨Int.le_refl _, fun c h => nomatch h⟩
  | a :: l, h => by
    have h1 := h a (.head _)
    obtain ⟨h2, h3⟩ := le_sum (l := l) fun x hx => h x (.tail _ hx)
    refine ⟨?_, fun c hc => ?_⟩
    · show 0 ≤ a + l.sum; lia
    · show c ≤ a + l.sum
      rcases List.mem_cons.mp hc with rfl | hc
      · lia
      · have := h3 c hc; lia
theorem digs_val : ∀ {l : List Int}, (∀ c ∈ l, 0 ≤ c ∧ c < 65536) → digs l.length (dval l) = l
  | [], _ => rfl
  | c :: l, h => by
    have h1 := h c (.head _)
    show (c + 65536 * dval l) % 65536 :: digs l.length ((c + 65536 * dval l) / 65536) = c :: l
    have e1 : (c + 65536 * dval l) % 65536 = c := by lia
    have e2 : (c + 65536 * dval l) / 65536 = dval l := by lia
    rw [e1, e2, digs_val fun x hx => h x (.tail _ hx)]
noncomputable def coefs : List (Int × Int) → List Int
  | [] => [1]
  | (r, g) :: l => mulc g r (coefs l) 0
theorem coefs_ok : ∀ {l : List (Int × Int)}, (∀ x ∈ l, (0 ≤ x.1 ∧ x.1 ≤ 7) ∧ 0 ≤ x.2 ∧ x.2 ≤ 7) → l.length ≤ 4 → (coefs l).length = l.length + 1 ∧ (∀ c ∈ coefs l, 0 ≤ c) ∧ (coefs l).sum ≤ 14 ^ l.length
  | [], _, _ => ⟨rfl, fun c h => by rw [List.mem_singleton.mp h]; decide, by decide⟩
  | (r, g) :: l, h, hl => by
    obtain ⟨a, b, c⟩ := coefs_ok (l := l) (fun x hx => h x (.tail _ hx)) (Nat.le_of_succ_le hl)
    have hx := h _ (.head _)
    refine ⟨?_, mulc_nn hx.2.1 hx.1.1 _ 0 (Int.le_refl _) b, ?_⟩
    · show (mulc g r (coefs l) 0).length = _; rw [mulc_len, a]; rfl
    · show (mulc g r (coefs l) 0).sum ≤ 14 ^ (l.length + 1)
      rw [mulc_sum, Int.mul_zero, Int.add_zero, Int.pow_succ, Int.mul_comm (14 ^ l.length)]
      have s0 := (le_sum b).1
      exact Int.le_trans (Int.mul_le_mul_of_nonneg_left c (by lia)) (Int.mul_le_mul_of_nonneg_right (by lia) (Int.le_trans s0 c))
theorem coefs_in {l : List (Int × Int)} (h : ∀ x ∈ l, (0 ≤ x.1 ∧ x.1 ≤ 7) ∧ 0 ≤ x.2 ∧ x.2 ≤ 7) (hl : l.length ≤ 4) : ∀ c ∈ coefs l, 0 ≤ c ∧ c < 65536 := by
  obtain ⟨_, b, d⟩ := coefs_ok h hl
  intro c hc
  refine ⟨b c hc, ?_⟩
  have h1 := (le_sum b).2 c hc
  have h2 : (14 : Int) ^ l.length ≤ 38416 := by
    have : l.length = 0 ∨ l.length = 1 ∨ l.length = 2 ∨ l.length = 3 ∨ l.length = 4 := by lia
    rcases this with e | e | e | e | e <;> rw [e] <;> decide
  lia
end
section
open LCg
variable {w : World} {p : Program} {loose : List PySem.Str} {mean : ExcName → Option Value} {mg mb : Locals} {h₀ : Heap} {L : Addr} {m : Locals} {news : Led} {s : Shared} {Q E : Value → Shared → Prop}
noncomputable def upN (w : List Int) : Nat → List Int
  | 0 => w
  | k + 1 => up (upN w k)
noncomputable def plansK (w : List Int) : Nat → List (List Int)
  | 0 => [w]
  | k + 1 => upN w (k + 1) :: plansK w k
theorem upN_len (w : List Int) : ∀ k, (upN w k).length = w.length - k
  | 0 => rfl
  | k + 1 => by show (up (upN w k)).length = _; rw [up_len, upN_len w k]; lia
theorem plansK_head (w : List Int) (k : Nat) : (plansK w k)[0]? = some (upN w k) := by cases k <;> rfl
theorem plansK_len (w : List Int) : ∀ k, (plansK w k).length = k + 1
  | 0 => rfl
  | k + 1 => by show (plansK w k).length + 1 = _; rw [plansK_len w k]
structure Plans (led : Led) (ps : List Addr) (rows : List (List Int)) : Prop where
  len : ps.length = rows.length
  at_ : ∀ (i : Nat) (q : Addr), ps[i]? = some q → ∃ row vs e, rows[i]? = some row ∧ (q, W.listOf vs.toArray e) ∈ led ∧ IntsAre vs row
theorem Plans.one {led : Led} {q : Addr} {row : List Int} {vs : List Value} {e : Nat} (h : (q, W.listOf vs.toArray e) ∈ led) (hi : IntsAre vs row) : Plans led [q] [row] :=
  ⟨rfl, fun i q' hq => by
    cases i with
    | zero => rw [← Option.some.inj hq]; exact ⟨row, vs, e, rfl, h, hi⟩
    | succ i => cases hq⟩
theorem Plans.mono {led led' : Led} {ps : List Addr} {rows : List (List Int)} (h : Plans led ps rows) (hs : ∀ p ∈ led, p ∈ led') : Plans led' ps rows :=
  ⟨h.len, fun i q hq => by obtain ⟨r, v, e, a, b, c⟩ := h.at_ i q hq; exact ⟨r, v, e, a, hs _ b, c⟩⟩
theorem Plans.push {led : Led} {ps : List Addr} {rows : List (List Int)} {q : Addr} {row : List Int} {vs : List Value} {e : Nat} (P : Plans led ps rows) (h : (q, W.listOf vs.toArray e) ∈ led) (hi : IntsAre vs row) : Plans led (q :: ps) (row :: rows) :=
  ⟨by rw [List.length_cons, List.length_cons, P.len], fun i q' hq => by
    cases i with
    | zero => rw [← Option.some.inj hq]; exact ⟨row, vs, e, rfl, h, hi⟩
    | succ i => exact P.at_ i q' hq⟩
theorem up_at : ∀ (l : List Int) (i : Nat), i + 1 < l.length → (up l)[i]? = some (l.getD i 0 + l.getD (i + 1) 0)
  | [], i, h => by simp at h
  | [_], i, h => by simp at h
  | a :: b :: r, 0, _ => rfl
  | a :: b :: r, i + 1, h => by
    have := up_at (b :: r) i (by simp at h ⊢; lia)
    show (up (b :: r))[i]? = _
    rw [this]; rfl
theorem sum_le_dval : ∀ {l : List Int}, (∀ c ∈ l, 0 ≤ c) → l.sum ≤ dval l
  | [], _ => Int.le_refl _
  | c :: r, h => by
    have h1 := sum_le_dval (l := r) fun x hx => h x (.tail _ hx)
    have h2 := (le_sum (l := r) fun x hx => h x (.tail _ hx)).1
    show c + r.sum ≤ c + 65536 * dval r
    lia
theorem coefs_pos : ∀ {l : List (Int × Int)}, (∀ x ∈ l, 1 ≤ x.1 + x.2) → 1 ≤ (coefs l).sum
  | [], _ => by decide
  | (r, g) :: l, h => by
    have h1 := coefs_pos (l := l) fun x hx => h x (.tail _ hx)
    have h2 : 1 ≤ r + g := h _ (.head _)
    show 1 ≤ (mulc g r (coefs l) 0).sum
    rw [mulc_sum, Int.mul_zero, Int.add_zero]
    exact Int.le_trans h1 (by have := Int.mul_le_mul_of_nonneg_right (a := 1) (b := g + r) (c := (coefs l).sum) (by lia) (by lia); lia)
theorem coefs_all {l : List (Int × Int)} (h : ∀ x ∈ l, (0 ≤ x.1 ∧ x.1 ≤ 7) ∧ 0 ≤ x.2 ∧ x.2 ≤ 7) (hp : ∀ x ∈ l, 1 ≤ x.1 + x.2) (hl : l.length ≤ 4) :
    (coefs l).length = l.length + 1 ∧ (∀ c ∈ coefs l, 0 ≤ c ∧ c < 65536) ∧ 1 ≤ dval (coefs l) ∧ dval (coefs l) < 65536 ^ (l.length + 1) ∧ digs (l.length + 1) (dval (coefs l)) = coefs l := by
  obtain ⟨a, b, _⟩ := coefs_ok h hl
  have c := coefs_in h hl
  refine ⟨a, c, Int.le_trans (coefs_pos hp) (sum_le_dval b), ?_, ?_⟩
  · rw [← a]; exact (dval_in c).2
  · rw [← a]; exact digs_val c
theorem dot_range : ∀ (cs P : List Int), cs.length ≤ P.length → ((List.range cs.length).map fun k => cs.getD k 0 * P.getD k 0).sum = dot cs P
  | [], _, _ => by cases ‹List Int› <;> rfl
  | c :: cs, [], h => by simp at h
  | c :: cs, p :: P, h => by
    have ih := dot_range cs P (by simpa using h)
    rw [List.length_cons, List.range_succ_eq_map, List.map_cons, List.map_map]
    show c * p + _ = c * p + dot cs P
    rw [← ih]
    rfl
theorem dot_range1 (cs : List Int) : ∀ (P : List Int), cs.length + 1 ≤ P.length → ((List.range cs.length).map fun k => cs.getD k 0 * P.getD (k + 1) 0).sum = dot cs P.tail
  | [], h => by simp at h
  | p :: P, h => dot_range cs P (by simpa using h)
theorem plansK_at (w : List Int) : ∀ (n i : Nat), i ≤ n → (plansK w n)[i]? = some (upN w (n - i))
  | 0, i, h => by
    have e : i = 0 := by lia
    subst e; rfl
  | n + 1, 0, _ => rfl
  | n + 1, i + 1, h => by
    show (plansK w n)[i]? = _
    rw [plansK_at w n i (by lia), Nat.add_sub_add_right]
theorem rev_snoc {α : Type} (l : List α) (x : α) : (l ++ [x]).reverse = x :: l.reverse := by simp
theorem turn_plain (cs P : List Int) (r g : Int) (hc : P.length = cs.length + 1) : dot cs P.tail + dot cs P = dot cs (up P) ∧ r * dot cs P.tail + g * dot cs P = dot (mulc g r cs 0) P := by
  cases P with
  | nil => simp at hc
  | cons p P =>
    have hl : P.length = cs.length := by simpa using hc
    constructor
    · rw [dot_up cs p P hl]; show dot cs P + _ = _; lia
    · rw [mulc_dot g r cs 0 p P hl]; show r * dot cs P + g * _ = _; grind
end
section
open LCg
variable {w : World} {p : Program} {loose : List PySem.Str} {mean : ExcName → Option Value} {mg mb : Locals} {h₀ : Heap} {L : Addr} {m : Locals} {news : Led} {s : Shared} {Q E : Value → Shared → Prop}
structure FSt where
  num : Int
  purse : Int
  tn : Tok
  tp : Tok
  vr : Option Value
  vg : Option Value
  o31 : Obj
  o38 : Obj
  oX : Obj
  oY : Obj
  rest : Led
structure WSt where
  ep : Nat
  ps : List Addr
  rest : Led
theorem item_ref0 {prog : Program} {A : Around} {value slice : PySem.Expr} {a q : Addr} {ps : List Addr} {ep : Nat} {u : Tok} {Q : Value → Shared → Prop} (N : News h₀ L s.heap news) (hm : (a, refsObj ps ep) ∈ news)
    (hq : ps[0]? = some q) (h : Q (.ref q) s)
    (hs : subscripted slice false (.ref a) (.int 0 u) = operate [.ref a, .int 0 u] (getItem (.ref a) (.int 0 u)) := by with_unfolding_all rfl) :
    wpAny (model prog w) A (subscriptTail value slice (.ref a) (.int 0 u)) Q E s := item_ref (i := 0) N hm hq (by decide) h hs
theorem TabS.tab {line col : Int} {qual : PySem.Str} {o : Obj} {r : Led} (h : TabS line col qual o r) : ∃ ps, o = tabObj ps := by
  cases h with
  | empty => exact ⟨_, rfl⟩
  | hit _ _ => exact ⟨_, rfl⟩
theorem sum_v {prog : Program} {A : Around} {l : Addr} {vs : List Value} {ns : List Int} {r : Int} {Q : Value → Shared → Prop} (hs : ns.sum = r) (F : Fr h₀ L s.heap m) (N : News h₀ L s.heap news) (hh : A.handled = none) (hl : s.heap.IsList l vs.toArray) (hi : IntsAre vs ns)
    (h : ∀ h' tk t', Fr h₀ L h' m → News h₀ L h' news → Q (.int r t') { s with heap := h', toks := tk }) : wpAny (model prog w) A (call (.builtin "sum") [.ref l]) Q E s := by
  subst hs
  exact LSm.sum_ints F N hh hl hi h
theorem ne_false {prog : Program} {A : Around} {a b : Int} {t u : Tok} {Q : Value → Shared → Prop} (e : a = b) (h : Q (.bool false) s) : wpAny (model prog w) A (compareOp .NotEq (.int a t) (.int b u)) Q E s := by
  subst e
  exact ne_int (by rw [bne_self_eq_false]; exact h)
theorem mul_7 {a b : Int} (h : 0 ≤ a ∧ a ≤ 7) : IntMulOk a b := IntMulOk.of_left (intBits_le_64 (by lia) (by lia))
theorem mul_d {a b : Int} (h : 0 ≤ b ∧ b ≤ 1000000) : IntMulOk a b := IntMulOk.of_right (intBits_le_64 (by lia) (by lia))
theorem item_two0 {prog : Program} {A : Around} {value slice : PySem.Expr} {a : Addr} {x y : Value} {u : Tok} {Q : Value → Shared → Prop} (N : News h₀ L s.heap news) (hm : (a, ({ cls := .type "tuple", data := .seq #[x, y] } : Obj)) ∈ news) (h : Q x s)
    (hs : subscripted slice false (.ref a) (.int 0 u) = operate [.ref a, .int 0 u] (getItem (.ref a) (.int 0 u)) := by with_unfolding_all rfl) :
    wpAny (model prog w) A (subscriptTail value slice (.ref a) (.int 0 u)) Q E s :=
  have ht : IsTup s.heap a #[x, y] := ⟨_, (N _ hm).1, rfl, 0, rfl⟩
  tail_any ht.typeIs slot_tuple_getitem.lookup (getItem_tuple ht (by decide) (by decide) (by rfl) (by rfl) h) hs
theorem item_two1 {prog : Program} {A : Around} {value slice : PySem.Expr} {a : Addr} {x y : Value} {u : Tok} {Q : Value → Shared → Prop} (N : News h₀ L s.heap news) (hm : (a, ({ cls := .type "tuple", data := .seq #[x, y] } : Obj)) ∈ news) (h : Q y s)
    (hs : subscripted slice false (.ref a) (.int 1 u) = operate [.ref a, .int 1 u] (getItem (.ref a) (.int 1 u)) := by with_unfolding_all rfl) :
    wpAny (model prog w) A (subscriptTail value slice (.ref a) (.int 1 u)) Q E s :=
  have ht : IsTup s.heap a #[x, y] := ⟨_, (N _ hm).1, rfl, 0, rfl⟩
  tail_any ht.typeIs slot_tuple_getitem.lookup (getItem_tuple ht (by decide) (by decide) (by rfl) (by rfl) h) hs
theorem item_refk {prog : Program} {A : Around} {value slice : PySem.Expr} {a q : Addr} {ps : List Addr} {ep : Nat} {i : Nat} {k : Int} {u : Tok} {Q : Value → Shared → Prop} (hk : k = (i : Int)) (N : News h₀ L s.heap news) (hm : (a, refsObj ps ep) ∈ news)
    (hq : ps[i]? = some q) (hz : i ≤ 1000) (h : Q (.ref q) s)
    (hs : subscripted slice false (.ref a) (.int k u) = operate [.ref a, .int k u] (getItem (.ref a) (.int k u)) := by with_unfolding_all rfl) :
    wpAny (model prog w) A (subscriptTail value slice (.ref a) (.int k u)) Q E s := by
  subst hk
  exact item_ref N hm hq hz h hs
theorem range_snoc {f : Nat → Int} {k : Nat} : (List.range (k + 1)).map f = (List.range k).map f ++ [f k] := by rw [List.range_succ, List.map_append]; rfl
set_option maxHeartbeats 8000000 in
theorem trader_g (rg : List (Int × Int)) (dl wl : Addr) (ee we : Nat) (ps : List Addr) (ws : List Value) (worth : List Int) (o31 o38 : Obj) (D : Days news dl ee ps rg) (hn : rg.length ≤ 4) (hw : (wl, W.listOf ws.toArray we) ∈ news) (hi : IntsAre ws worth) (hl : worth.length = rg.length + 1) (hb : ∀ x ∈ worth, 0 ≤ x ∧ x ≤ 256)
    (C : CodeHd h₀ 35 31) (Cb : CodeHd h₀ 42 38) (hS : TabS 49 4 i2dQ o31 news) (hS2 : TabS 64 4 d2iQ o38 news) (hnw : ∀ p ∈ news, p.1 ≠ 31 ∧ p.1 ≠ 38) (hpos : ∀ x ∈ rg, 1 ≤ x.1 + x.2)
    (hret : ∀ h' tk' c l vs e t p1 p2, IntsAre vs (coefs rg.reverse) → Fr h₀ L h' m → News h₀ L h' ((c, tupOf [.int (dot (coefs rg.reverse) worth) t, .ref l]) :: (l, W.listOf vs.toArray e) :: (31, tabObj p1) :: (38, tabObj p2) :: news) → Q (.ref c) { s with heap := h', toks := tk' }) :
      Spec w p loose mean mg mb 60 600 (.ref 199) [.ref dl, .ref wl] h₀ L m ((31, o31) :: (38, o38) :: news) s Q E := by
  intro dp un gd cn cs' a ccd cl outer A₀ base hB F X N T hk hd hu
  refine wpAny_call ?_
  k_dflt (refine' code_defC ?k1 ?k2 ?k3 ?k4 ?k5 ?kA ?kF ?kK ?k6 ?k7 ?k8 ?k9 ?kB ?kD ?_ ?c2 ?c3 ?c4; (case kA => exact rfl); (case kF => exact rfl); (case kK => first | assumption | exact rfl); (case k1 => k_asm); (case k2 => k_asm); (case k3 => k_asm); (case k4 => k_asm); (case k5 => k_asm); (case k6 => k_is); (case k7 => k_is); (case k8 => k_room); (case k9 => first | exact BindsTo.of_eq rfl | exact binds_K (by k_in) rfl (by k_is) rfl rfl rfl); (case kB => exact rfl); (case kD => decide +kernel); (case c2 => exact rfl); (case c3 => exact rfl); (case c4 => exact rfl); k_whole; intro g' L' h' tk' cells' FG' F' N' Y' B' X' T' l1; (try k_lt l1); k_cells Y'; (try simp only [List.cons_append, List.nil_append] at N'); (try dsimp only); (try k_lift B'); (try k_fold))
  refine no_E ?_
  have nd9 : Mine.NoDup [PySem.Str.ofString "worth", PySem.Str.ofString "days", PySem.Str.ofString "number", PySem.Str.ofString "purse", PySem.Str.ofString "red", PySem.Str.ofString "green"] := Mine.NoDup.of (by decide +kernel)
  have F0 : Fr _ _ _ (Mine.look [PySem.Str.ofString "worth", PySem.Str.ofString "days", PySem.Str.ofString "number", PySem.Str.ofString "purse", PySem.Str.ofString "red", PySem.Str.ofString "green"] [some (.ref wl), some (.ref dl), none, none, none, none]) := Mine.start_C (bs := [(PySem.Str.ofString "days", .ref dl), (PySem.Str.ofString "worth", .ref wl)]) (ns' := [PySem.Str.ofString "number", PySem.Str.ofString "purse", PySem.Str.ofString "red", PySem.Str.ofString "green"]) (k := 4) F' (by with_unfolding_all rfl)
  clear F'
  refine Mine.gen_tk ?_; intro tk0
  (repeat' (first | (k_unfold; (try dsimp only)) | (k_end; kc_close) | ((with_reducible show wpAny _ _ (exec (Stmt.While _ _ _ _) _) _ _ _); refine of_stop9 ?_) | ((with_reducible show wpAny _ _ (eval (Expr.Name _ _) _) _ _ _); k_dflt (refine Mine.name_P (by with_reducible assumption) (by assumption) (by with_reducible (repeat (first | exact Mine.At.here | apply Mine.At.there))) (by exact Eq.refl (some (some _))) ?_; k_whole)) | ((with_reducible show wpAny _ _ (storeName _ _ _) _ _ _); k_dflt (refine Mine.store_P (by with_reducible assumption) (by k_asm) (by assumption) (by with_reducible (repeat (first | exact Mine.At.here | apply Mine.At.there))) (by rfl) ?_; k_whole; intro h' F' N'; (try dsimp only [List.set] at F'); (try k_sweep))) | walk1 | (dsimp only; walk1) | (leave1; (try dsimp only)) | fail "no step"))
  unfold Stop9
  rename_i oX oY oZ d1 d2 d3 la ha t1 lla hb oC Fb Nb dC
  have L0 : AllLt L' news := l1.2.2
  have Nc : News g' L' hb ((la, refsObj [wl] 0) :: (31, o31) :: (38, o38) :: (L' + 1 + 1 + 1, oX) :: (L' + 1 + 1, oY) :: (L' + 1, oC) :: news) := by
    refine cb_drop Nb ?_
    ((repeat (refine List.forall_mem_cons.mpr ⟨by k_mem, ?_⟩)); (repeat (refine Mine.sub_cons ?_)); exact fun _ h => h)
  refine While_n (h₀ := g') (L := L') rg.length (fun _ => _) (fun x : WSt => (la, refsObj x.ps x.ep) :: (31, o31) :: (38, o38) :: (L' + 1 + 1 + 1, oX) :: (L' + 1 + 1, oY) :: (L' + 1, oC) :: x.rest) (fun k x => Plans x.rest x.ps (plansK worth k) ∧ (∀ p ∈ news, p ∈ x.rest) ∧ ∀ p ∈ x.rest, p.1 ≠ la ∧ p.1 ≠ 31 ∧ p.1 ≠ 38 ∧ p.1 ≠ L' + 1 ∧ p.1 ≠ L' + 1 + 1 ∧ p.1 ≠ L' + 1 + 1 + 1) ⟨0, [wl], news⟩ Fb Nc ⟨Plans.one hw hi, fun p h => h, ?_⟩ ?_
  · intro p hp
    have h1 := all_lt9 L0 p hp
    have h2 := hnw p hp
    have h3 := all_lt9 lla.2.2.2.2.2 p hp
    exact ⟨Nat.ne_of_lt h3, h2.1, h2.2, Nat.ne_of_lt (Nat.lt_succ_of_lt h1), Nat.ne_of_lt (Nat.lt_succ_of_lt (Nat.lt_succ_of_lt h1)), Nat.ne_of_lt (Nat.lt_succ_of_lt (Nat.lt_succ_of_lt (Nat.lt_succ_of_lt h1)))⟩
  · intro k x h tk hk J F' N'
    obtain ⟨hP, hsub, hne⟩ := J
    obtain ⟨q, hq⟩ : ∃ q, x.ps[0]? = some q := ⟨_, List.getElem?_eq_getElem (by rw [hP.len, plansK_len]; lia)⟩
    obtain ⟨row, vs, e, e1, hm, hv⟩ := hP.at_ 0 q hq
    rw [plansK_head] at e1
    have er : upN worth k = row := Option.some.inj e1
    have lr : row.length = rg.length + 1 - k := by rw [← er, upN_len, hl]
    have lr2 : row.length ≤ 1000 := by lia
    obtain ⟨n1, en⟩ : ∃ n1, row.length = n1 + 1 := ⟨rg.length - k, by lia⟩
    have n4 : n1 ≤ 4 := by lia
    (repeat' ((first | (k_unfold; (try dsimp only)) | (k_end; kc_close) | ((with_reducible show wpAny _ _ (exec (Stmt.For _ _ _ _ _) _) _ _ _); refine of_stop9 ?_) | ((with_reducible refine Mine.comp_stop ?_)) | ((with_reducible show LCg.CompSrc _ _ _ _ _ _ _ _ _ _ _ _ (Value.ref _) _); refine of_stop9 ?_) | ((with_reducible show wpAny _ _ (subscriptTail _ _ (Value.ref _) (Value.int 0 _)) _ _ _); k_dflt (refine Mine.item_ref0 (by k_asm) (by k_mem) (by with_reducible assumption) ?_ (by with_unfolding_all rfl); k_whole)) | ((with_reducible show wpAny _ _ (call (Value.builtin "len") [Value.ref _]) _ _ _); k_dflt (refine Mine.len_I (by k_asm) (by k_mem) (by with_reducible assumption) (by with_reducible assumption) ?_; k_whole); intro t' tk'; (try dsimp only)) | ((with_reducible show wpAny _ _ (eval (Expr.Name _ _) _) _ _ _); k_dflt (refine Mine.name_P (by with_reducible assumption) (by assumption) (by with_reducible (repeat (first | exact Mine.At.here | apply Mine.At.there))) (by exact Eq.refl (some (some _))) ?_; k_whole)) | ((with_reducible show wpAny _ _ (storeName _ _ _) _ _ _); k_dflt (refine Mine.store_P (by with_reducible assumption) (by k_asm) (by assumption) (by with_reducible (repeat (first | exact Mine.At.here | apply Mine.At.there))) (by rfl) ?_; k_whole; intro h' F' N'; (try dsimp only [List.set] at F'); (try k_sweep))) | walk1 | (dsimp only; walk1) | (leave1; (try dsimp only)) | fail "no step") <;> (try dsimp only)))
    · unfold Stop9
      k_dflt (refine Mine.src_range (n := n1) (by rfl) (by with_reducible assumption) (by k_asm) (by assumption) ?zb ?zc ?_; (case zb => lia); (case zc => lia); intro g')
      refine comp_fix (fun i ys => IntsAre ys ((up row).take i)) trivial .nil (fun ys hy => ?_) ?_
      · intro D' h' tk' F' N' off
        have hyu : IntsAre ys (up row) := by
          have : (up row).length ≤ n1 := by rw [up_len, en]; lia
          rwa [List.take_of_length_le this] at hy
        have offn := off1_ne off
        have N2 := cb_drop N' (news := (la, refsObj x.ps x.ep) :: (D', LCg.lst ys) :: (31, o31) :: (38, o38) :: (L' + 1 + 1 + 1, oX) :: (L' + 1 + 1, oY) :: (L' + 1, oC) :: x.rest) (by
          ((repeat (refine List.forall_mem_cons.mpr ⟨by k_mem, ?_⟩)); (repeat (refine Mine.sub_cons ?_)); exact fun _ h => h))
        have nr : ∀ p ∈ (D', LCg.lst ys) :: (31, o31) :: (38, o38) :: (L' + 1 + 1 + 1, oX) :: (L' + 1 + 1, oY) :: (L' + 1, oC) :: x.rest, p.1 ≠ la :=
          List.forall_mem_cons.mpr ⟨Ne.symm (offn _ (.head _)), List.forall_mem_cons.mpr ⟨Nat.ne_of_lt lla.2.2.2.1, List.forall_mem_cons.mpr ⟨Nat.ne_of_lt lla.2.2.2.2.1, List.forall_mem_cons.mpr ⟨Nat.ne_of_lt lla.1, List.forall_mem_cons.mpr ⟨Nat.ne_of_lt lla.2.1, List.forall_mem_cons.mpr ⟨Nat.ne_of_lt lla.2.2.1, fun p hp => (hne p hp).1⟩⟩⟩⟩⟩⟩
        (repeat' ((first | (k_unfold; (try dsimp only)) | (k_end; kc_close) | ((with_reducible show wpAny _ _ (call (Value.builtin "list.insert") _) _ _ _); refine of_stop9 ?_) | walk1 | (dsimp only; walk1) | (leave1; (try dsimp only)) | fail "no step") <;> (try dsimp only)))
        unfold Stop9
        k_dflt (refine Mine.ins_L (items := x.ps.map Value.ref) (by k_asm) (by exact N2) nr ?zz ?_; (case zz => rw [List.length_map, hP.len, plansK_len]; lia); k_whole)
        intro h2 F2 N3
        (try dsimp only)
        (repeat' ((first | (k_unfold; (try dsimp only)) | (k_end; kc_close) | ((with_reducible show wpAny _ _ (eval (Expr.Name _ _) _) _ _ _); k_dflt (refine Mine.name_P (by with_reducible assumption) (by assumption) (by with_reducible (repeat (first | exact Mine.At.here | apply Mine.At.there))) (by exact Eq.refl (some (some _))) ?_; k_whole)) | ((with_reducible show wpAny _ _ (storeName _ _ _) _ _ _); k_dflt (refine Mine.store_P (by with_reducible assumption) (by k_asm) (by assumption) (by with_reducible (repeat (first | exact Mine.At.here | apply Mine.At.there))) (by rfl) ?_; k_whole; intro h' F' N'; (try dsimp only [List.set] at F'); (try k_sweep))) | walk1 | (dsimp only; walk1) | (leave1; (try dsimp only)) | fail "no step") <;> (try dsimp only)))
        have hPn := (hP.mono (fun p hp => .tail (D', LCg.lst ys) hp)).push (q := D') (vs := ys) (e := ys.length) (row := up row) (.head _) hyu
        refine TEnd.mk ⟨x.ep + 1, D' :: x.ps, (D', LCg.lst ys) :: x.rest⟩ ⟨by lia, ?_, fun p hp => .tail _ (hsub p hp), ?_⟩ (by assumption) ?_
        · show Plans _ _ (up (upN worth k) :: plansK worth k)
          rw [er]
          exact hPn
        · intro p hp
          rcases List.mem_cons.mp hp with rfl | hp
          · exact ⟨Ne.symm (offn _ (.head _)), Ne.symm (offn _ (.tail _ (.head _))), Ne.symm (offn _ (.tail _ (.tail _ (.head _)))), Ne.symm (offn _ (.tail _ (.tail _ (.tail _ (.tail _ (.tail _ (.head _))))))), Ne.symm (offn _ (.tail _ (.tail _ (.tail _ (.tail _ (.head _)))))), Ne.symm (offn _ (.tail _ (.tail _ (.tail _ (.head _)))))⟩
          · exact hne p hp
        · refine cb_drop (by assumption) ?_
          ((repeat (refine List.forall_mem_cons.mpr ⟨by k_mem, ?_⟩)); (repeat (refine Mine.sub_cons ?_)); exact fun _ h => h)
      · intro i ys v I oI C oC D m₂ h tk hi hy hv2 hC hx F N off ne
        obtain ⟨ti, rfl⟩ := hv2
        have i1 : i < row.length := by lia
        have i2 : i + 1 < row.length := by lia
        have hvv : row.length ≤ 1000 := lr2
        rw [Int.zero_add] at hx
        (repeat' ((first | (k_unfold; (try dsimp only)) | (k_end; kc_close) | ((with_reducible show wpAny _ _ (subscriptTail _ _ (Value.ref _) (Value.int 0 _)) _ _ _); k_dflt (refine Mine.item_ref0 (by k_asm) (by k_mem) (by with_reducible assumption) ?_ (by with_unfolding_all rfl); k_whole)) | ((with_reducible show wpAny _ _ (subscriptTail _ _ (Value.ref _) (Value.int _ _)) _ _ _); k_dflt (first | (refine Mine.item_ints (i := i) (by k_asm) (by k_mem) hv rfl i1 hvv ?_ (by with_unfolding_all rfl)) | (refine Mine.item_ints (i := i + 1) (by k_asm) (by k_mem) hv rfl i2 hvv ?_ (by with_unfolding_all rfl)); k_whole); intro t'; (try dsimp only)) | walk1 | (dsimp only; walk1) | (leave1; (try dsimp only)) | fail "no step") <;> (try dsimp only)))
        refine CTurn.mk (by assumption) (by assumption) ?_
        rw [take_snoc (up_at row i i2)]
        exact IntsAre.snoc hy
    · unfold Stop9
      rename (¬ _ < _) => hlast
      have kn : k = rg.length := by lia
      subst kn
      have er0 : row.length = 1 := by lia
      have hD2 : (dl, refsObj ps ee) ∈ x.rest := hsub _ D.list
      have lps : ps.length = rg.length := D.len
      refine For_range (h₀ := g') (L := L') rg.length (fun y : FSt => look [PySem.Str.ofString "worth", PySem.Str.ofString "days", PySem.Str.ofString "number", PySem.Str.ofString "purse", PySem.Str.ofString "red", PySem.Str.ofString "green"] [some (.ref wl), some (.ref dl), some (.int y.num y.tn), some (.int y.purse y.tp), y.vr, y.vg])
        (fun y => (31, y.o31) :: (38, y.o38) :: (L' + 1 + 1 + 1, y.oX) :: (L' + 1 + 1, y.oY) :: (L' + 1, oC) :: y.rest)
        (fun i y => y.num = dval (coefs (rg.take i).reverse) ∧ y.purse = dot (coefs (rg.take i).reverse) (upN worth (rg.length - i)) ∧ TabS 49 4 i2dQ y.o31 y.rest ∧ TabS 64 4 d2iQ y.o38 y.rest ∧ (∃ v, y.oX.data = .cell v) ∧ (∃ v, y.oY.data = .cell v) ∧ (la, refsObj x.ps x.ep) ∈ y.rest ∧ (∀ p ∈ x.rest, p ∈ y.rest) ∧ ∀ p ∈ y.rest, p.1 ≠ 31 ∧ p.1 ≠ 38 ∧ p.1 ≠ L' + 1 ∧ p.1 ≠ L' + 1 + 1 ∧ p.1 ≠ L' + 1 + 1 + 1) (by rfl) (by lia) ?_ ?_ ?_
      · (repeat' ((first | (k_unfold; (try dsimp only)) | (k_end; kc_close) | ((with_reducible show wpAny _ _ (call (Value.builtin "len") [Value.ref _]) _ _ _); k_dflt (refine Mine.len_ref (by k_asm) (by k_mem) (by lia) ?_; k_whole); intro t' tk'; (try dsimp only)) | ((with_reducible show wpAny _ _ (eval (Expr.Name _ _) _) _ _ _); k_dflt (refine Mine.name_P (by with_reducible assumption) (by assumption) (by with_reducible (repeat (first | exact Mine.At.here | apply Mine.At.there))) (by exact Eq.refl (some (some _))) ?_; k_whole)) | ((with_reducible show wpAny _ _ (storeName _ _ _) _ _ _); k_dflt (refine Mine.store_P (by with_reducible assumption) (by k_asm) (by assumption) (by with_reducible (repeat (first | exact Mine.At.here | apply Mine.At.there))) (by rfl) ?_; k_whole; intro h' F' N'; (try dsimp only [List.set] at F'); (try k_sweep))) | walk1 | (dsimp only; walk1) | (leave1; (try dsimp only)) | fail "no step") <;> (try dsimp only)))
        refine RStart.mk (by assumption) (by lia) ⟨1, row.getD (Int.toNat 0) 0, _, _, none, none, o31, o38, oX, oY, (la, refsObj x.ps x.ep) :: x.rest⟩ ⟨rfl, ?_, hS.mono fun p hp => .tail _ (hsub p hp), hS2.mono fun p hp => .tail _ (hsub p hp), ⟨_, d1⟩, ⟨_, d2⟩, .head _, fun p hp => .tail _ hp, ?_⟩ (by assumption) ?_
        · rw [Nat.sub_zero, er]
          show _ = dot [1] row
          cases row with
          | nil => cases er0
          | cons p0 r0 =>
            show p0 = 1 * p0 + dot [] r0
            show p0 = 1 * p0 + 0
            lia
        · intro p hp
          rcases List.mem_cons.mp hp with rfl | hp
          · exact ⟨Nat.ne_of_gt lla.2.2.2.1, Nat.ne_of_gt lla.2.2.2.2.1, Nat.ne_of_gt lla.2.2.1, Nat.ne_of_gt lla.2.1, Nat.ne_of_gt lla.1⟩
          · exact (hne p hp).2
        · refine cb_drop (by assumption) ?_
          ((repeat (refine List.forall_mem_cons.mpr ⟨by k_mem, ?_⟩)); (repeat (refine Mine.sub_cons ?_)); exact fun _ h => h)
      · intro i y t h tk I o hi J F' N' neI
        obtain ⟨j1, j2, jS, jS2, ⟨vX, dX⟩, ⟨vY, dY⟩, jla, jsub, jne⟩ := J
        have i31 : @Ne Nat 31 I := neI _ (.head _)
        have i38 : @Ne Nat 38 I := neI _ (.tail _ (.head _))
        have iX : @Ne Nat (L' + 1 + 1 + 1) I := neI _ (.tail _ (.tail _ (.head _)))
        have iY : @Ne Nat (L' + 1 + 1) I := neI _ (.tail _ (.tail _ (.tail _ (.head _))))
        have iC : @Ne Nat (L' + 1) I := neI _ (.tail _ (.tail _ (.tail _ (.tail _ (.head _)))))
        have nX : ∀ p ∈ y.rest, p.1 ≠ L' + 1 + 1 + 1 := fun p hp => (jne p hp).2.2.2.2
        have nY : ∀ p ∈ y.rest, p.1 ≠ L' + 1 + 1 := fun p hp => (jne p hp).2.2.2.1
        (repeat' (first | (k_unfold; (try dsimp only)) | (k_end; kc_close) | ((with_reducible show wpAny _ _ (call (Value.ref 194) _) _ _ _); refine of_stop9 ?_) | ((with_reducible show wpAny _ _ (letOwnedTupleGo _ _ _) _ _ _); first | (with_reducible refine Mine.ownName_T ?_) | (k_dflt (refine Mine.ownList_T (by k_asm) (by k_mem) (by assumption) ?_; k_whole))) | ((with_reducible show wpAny _ _ (eval (Expr.Name _ _) _) _ _ _); k_dflt (refine Mine.name_P (by with_reducible assumption) (by assumption) (by with_reducible (repeat (first | exact Mine.At.here | apply Mine.At.there))) (by exact Eq.refl (some (some _))) ?_; k_whole)) | ((with_reducible show wpAny _ _ (storeName _ _ _) _ _ _); k_dflt (refine Mine.store_P (by with_reducible assumption) (by k_asm) (by assumption) (by with_reducible (repeat (first | exact Mine.At.here | apply Mine.At.there))) (by rfl) ?_; k_whole; intro h' F' N'; (try dsimp only [List.set] at F'); (try k_sweep))) | walk1 | (dsimp only; walk1) | (leave1; (try dsimp only)) | fail "no step"))
        unfold Stop9
        rename_i hh oY2 Fh Nh dY2
        have rl : (rg.take i).reverse.length = i := by rw [List.length_reverse, List.length_take]; lia
        have rsub : ∀ x ∈ (rg.take i).reverse, x ∈ rg := fun x hx => List.mem_of_mem_take (List.mem_reverse.mp hx)
        obtain ⟨c1, c2, c3, c4, c5⟩ := coefs_all (l := (rg.take i).reverse) (fun x hx => D.all x (rsub x hx)) (fun x hx => hpos x (rsub x hx)) (by lia)
        rw [← j1] at c3 c4 c5
        rw [rl] at c1 c4 c5
        have N31 := cb_drop Nh (news := (31, y.o31) :: (I, o) :: (38, y.o38) :: (L' + 1 + 1 + 1, y.oX) :: (L' + 1 + 1, oY2) :: (L' + 1, oC) :: y.rest) (by
          ((repeat (refine List.forall_mem_cons.mpr ⟨by k_mem, ?_⟩)); (repeat (refine Mine.sub_cons ?_)); exact fun _ h => h))
        have n31 : ∀ p ∈ (I, o) :: (38, y.o38) :: (L' + 1 + 1 + 1, y.oX) :: (L' + 1 + 1, oY2) :: (L' + 1, oC) :: y.rest, p.1 ≠ 31 :=
          List.forall_mem_cons.mpr ⟨Ne.symm i31, List.forall_mem_cons.mpr ⟨show @Ne Nat 38 31 by decide, List.forall_mem_cons.mpr ⟨Nat.ne_of_gt (Nat.lt_succ_of_lt (Nat.lt_succ_of_lt (Nat.lt_succ_of_lt l1.1))), List.forall_mem_cons.mpr ⟨Nat.ne_of_gt (Nat.lt_succ_of_lt (Nat.lt_succ_of_lt l1.1)), List.forall_mem_cons.mpr ⟨Nat.ne_of_gt (Nat.lt_succ_of_lt l1.1), fun p hp => (jne p hp).1⟩⟩⟩⟩⟩
        have C2 := CodeHd.keeps C (Fr.keep (h₀ := h₀) (L := L) (m := m) FG')
        have C3 := CodeHd.keeps Cb (Fr.keep (h₀ := h₀) (L := L) (m := m) FG')
        k_dflt (refine' Mine.counts_g i y.num y.o31 _ _ ?z4 c3 c4 C2 y.rest jS (fun p hp => .tail _ (.tail _ (.tail _ (.tail _ (.tail _ hp))))) n31 ?_ _ _ _ _ _ _ _ _ _ _ _ ?c1 ?c2 ?c3 ?c4 ?c5 ?c6 ?c7 ?c8; (case z4 => lia); (case c1 => k_asm); (case c2 => k_asm); (case c3 => k_asm); (case c4 => k_asm); (case c5 => k_asm); (case c6 => first | assumption | exact rfl); (case c7 => k_room); (case c8 => k_room); k_whole)
        intro hp tkp lp vp ep cp ocp hvp hcp hop lpb lp31 lpc cp31 Fp Np
        rw [c5] at hvp
        (try dsimp only)
        have cpa : @Ne Nat cp 38 ∧ @Ne Nat cp (L' + 1) ∧ @Ne Nat cp (L' + 1 + 1) ∧ @Ne Nat cp (L' + 1 + 1 + 1) ∧ @Ne Nat cp I := hop.elim
          (fun h => ⟨Nat.ne_of_gt (h _ (.tail _ (.head _))), Nat.ne_of_gt (h _ (.tail _ (.tail _ (.tail _ (.tail _ (.head _)))))), Nat.ne_of_gt (h _ (.tail _ (.tail _ (.tail _ (.head _))))), Nat.ne_of_gt (h _ (.tail _ (.tail _ (.head _)))), Nat.ne_of_gt (h _ (.head _))⟩)
          (fun h => have a := jne _ h; ⟨a.2.1, a.2.2.1, a.2.2.2.1, a.2.2.2.2, neI _ (.tail _ (.tail _ (.tail _ (.tail _ (.tail _ h)))))⟩)
        obtain ⟨r2, hr2⟩ : ∃ r, r = (lp, W.listOf vp.toArray ep) :: (cp, ocp) :: y.rest := ⟨_, rfl⟩
        have hsub2 : ∀ p ∈ y.rest, p ∈ r2 := fun p h => hr2 ▸ .tail _ (.tail _ h)
        have hlp : (lp, W.listOf vp.toArray ep) ∈ r2 := hr2 ▸ .head _
        have jS3 : TabS 49 4 i2dQ (tabInner 49 4 cp) r2 := .hit (hr2 ▸ .tail _ (.head _)) hcp
        have jne2 : ∀ p ∈ r2, p.1 ≠ 31 ∧ p.1 ≠ 38 ∧ p.1 ≠ L' + 1 ∧ p.1 ≠ L' + 1 + 1 ∧ p.1 ≠ L' + 1 + 1 + 1 ∧ p.1 ≠ I := by
          rw [hr2]
          refine List.forall_mem_cons.mpr ⟨⟨lp31, Nat.ne_of_gt (lpb _ (.tail _ (.head _))), Nat.ne_of_gt (lpb _ (.tail _ (.tail _ (.tail _ (.tail _ (.head _)))))), Nat.ne_of_gt (lpb _ (.tail _ (.tail _ (.tail _ (.head _))))), Nat.ne_of_gt (lpb _ (.tail _ (.tail _ (.head _)))), Nat.ne_of_gt (lpb _ (.head _))⟩, List.forall_mem_cons.mpr ⟨⟨cp31, cpa.1, cpa.2.1, cpa.2.2.1, cpa.2.2.2.1, cpa.2.2.2.2⟩, fun p hp => ?_⟩⟩
          have a := jne p hp
          exact ⟨a.1, a.2.1, a.2.2.1, a.2.2.2.1, a.2.2.2.2, neI _ (.tail _ (.tail _ (.tail _ (.tail _ (.tail _ hp)))))⟩
        have N3 := cb_drop Np (news := (I, o) :: (31, tabInner 49 4 cp) :: (38, y.o38) :: (L' + 1 + 1 + 1, y.oX) :: (L' + 1 + 1, oY2) :: (L' + 1, oC) :: r2) (by
          rw [hr2]
          ((repeat (refine List.forall_mem_cons.mpr ⟨by k_mem, ?_⟩)); (repeat (refine Mine.sub_cons ?_)); exact fun _ h => h))
        clear hr2 Np cpa lpb lpc lp31 cp31 hop hcp N31 n31 Nh nX nY
        have nX : ∀ p ∈ r2, p.1 ≠ L' + 1 + 1 + 1 := fun p hp => (jne2 p hp).2.2.2.2.1
        obtain ⟨q, hq⟩ : ∃ q, x.ps[i + 1]? = some q := ⟨_, List.getElem?_eq_getElem (by rw [hP.len, plansK_len]; lia)⟩
        obtain ⟨row1, vs1, e1, ew, hm1, hv1⟩ := hP.at_ (i + 1) q hq
        rw [plansK_at worth rg.length (i + 1) (by lia)] at ew
        have er1 : upN worth (rg.length - (i + 1)) = row1 := Option.some.inj ew
        have lr1 : row1.length = i + 1 + 1 := by rw [← er1, upN_len, hl]; lia
        have hm1 : (q, W.listOf vs1.toArray e1) ∈ r2 := hsub2 _ (jsub _ hm1)
        have jla2 : (la, refsObj x.ps x.ep) ∈ r2 := hsub2 _ jla
        obtain ⟨red, hred⟩ : ∃ r, r = dot (coefs (rg.take i).reverse) row1.tail := ⟨_, rfl⟩
        obtain ⟨green, hgreen⟩ : ∃ r, r = dot (coefs (rg.take i).reverse) row1 := ⟨_, rfl⟩
        have k5 : i ≤ 1000 := by lia
        have hqi : i < ps.length := by rw [lps]; exact hi
        obtain ⟨rd, gd', trd, tgd, ed, hday, hrd, hgd⟩ := D.day i _ (List.getElem?_eq_getElem hqi)
        have hqd := List.getElem?_eq_getElem hqi
        generalize ps[i] = qd at hday hqd
        have hday : (qd, ({ cls := .type "tuple", data := .seq #[.int rd trd, .int gd' tgd] } : Obj)) ∈ r2 := hsub2 _ (jsub _ (hsub _ hday))
        have hD3 : (dl, refsObj ps ee) ∈ r2 := hsub2 _ (jsub _ hD2)
        (repeat' (first | (k_unfold; (try dsimp only)) | (k_end; kc_close) | ((with_reducible show LCg.CompSrc _ _ _ _ _ _ _ _ _ _ _ _ (Value.ref _) _); refine of_stop9 ?_) | ((with_reducible refine Mine.comp_stop ?_)) | ((with_reducible show wpAny _ _ (eval (Expr.Name _ _) _) _ _ _); k_dflt (refine Mine.name_P (by with_reducible assumption) (by assumption) (by with_reducible (repeat (first | exact Mine.At.here | apply Mine.At.there))) (by exact Eq.refl (some (some _))) ?_; k_whole)) | ((with_reducible show wpAny _ _ (storeName _ _ _) _ _ _); k_dflt (refine Mine.store_P (by with_reducible assumption) (by k_asm) (by assumption) (by with_reducible (repeat (first | exact Mine.At.here | apply Mine.At.there))) (by rfl) ?_; k_whole; intro h' F' N'; (try dsimp only [List.set] at F'); (try k_sweep))) | walk1 | (dsimp only; walk1) | (leave1; (try dsimp only)) | fail "no step"))
        unfold Stop9
        rename_i _ oX2 _ _ dX2 _ _ _ _ _ _ _ _ _
        k_dflt (refine Mine.src_range (n := i + 1) (by rfl) (by with_reducible assumption) (by k_asm) (by assumption) ?zb ?zc ?_; (case zb => exact rfl); (case zc => lia); intro g1)
        refine comp_fix (fun k ys => IntsAre ys ((List.range k).map fun k => (coefs (rg.take i).reverse).getD k 0 * row1.getD (k + 1) 0)) trivial .nil (fun ys hy => ?_) ?_
        · intro D1 h1 tk1 F1 N1 off1
          have hsum : ((List.range (i + 1)).map fun k => (coefs (rg.take i).reverse).getD k 0 * row1.getD (k + 1) 0).sum = red := by
            rw [← c1, dot_range1 (coefs (rg.take i).reverse) row1 (by rw [c1, lr1]; exact Nat.le_refl _)]; exact hred.symm
          (repeat' ((first | (k_unfold; (try dsimp only)) | (k_end; kc_close) | ((with_reducible show wpAny _ _ (call (Value.builtin "sum") [Value.ref _]) _ _ _); k_dflt (refine Mine.sum_v hsum (by with_reducible assumption) (by k_asm) (by rfl) (by exact Mine.list_at (by k_asm) (by k_mem)) (by with_reducible assumption) ?_; k_whole); intro h' tk' t' F' N') | ((with_reducible show LCg.CompSrc _ _ _ _ _ _ _ _ _ _ _ _ (Value.ref _) _); refine of_stop9 ?_) | ((with_reducible refine Mine.comp_stop ?_)) | ((with_reducible show wpAny _ _ (eval (Expr.Name _ _) _) _ _ _); k_dflt (refine Mine.name_P (by with_reducible assumption) (by assumption) (by with_reducible (repeat (first | exact Mine.At.here | apply Mine.At.there))) (by exact Eq.refl (some (some _))) ?_; k_whole)) | ((with_reducible show wpAny _ _ (storeName _ _ _) _ _ _); k_dflt (refine Mine.store_P (by with_reducible assumption) (by k_asm) (by assumption) (by with_reducible (repeat (first | exact Mine.At.here | apply Mine.At.there))) (by rfl) ?_; k_whole; intro h' F' N'; (try dsimp only [List.set] at F'); (try k_sweep))) | walk1 | (dsimp only; walk1) | (leave1; (try dsimp only)) | fail "no step") <;> (try dsimp only)))
          unfold Stop9
          k_dflt (refine Mine.src_range (n := i + 1) (by rfl) (by with_reducible assumption) (by k_asm) (by assumption) ?zb ?zc ?_; (case zb => exact rfl); (case zc => lia); intro g2)
          refine comp_fix (fun k ys => IntsAre ys ((List.range k).map fun k => (coefs (rg.take i).reverse).getD k 0 * row1.getD k 0)) trivial .nil (fun ys2 hy2 => ?_) ?_
          · clear hy hsum
            intro D2 h2 tk2 F2 N2 off2
            have hsum : ((List.range (i + 1)).map fun k => (coefs (rg.take i).reverse).getD k 0 * row1.getD k 0).sum = green := by
              rw [← c1, dot_range (coefs (rg.take i).reverse) row1 (by rw [c1, lr1]; exact Nat.le_succ _)]; exact hgreen.symm
            obtain ⟨heq, hpur⟩ := turn_plain (coefs (rg.take i).reverse) row1 rd gd' (by rw [c1, lr1])
            rw [← hred, ← hgreen, ← er1, ← upN, show (rg.length - (i + 1)).succ = rg.length - i by lia, ← j2] at heq
            (repeat' (first | (k_unfold; (try dsimp only)) | (k_end; kc_close) | ((with_reducible show wpAny _ _ (call (Value.builtin "sum") [Value.ref _]) _ _ _); k_dflt (refine Mine.sum_v hsum (by with_reducible assumption) (by k_asm) (by rfl) (by exact Mine.list_at (by k_asm) (by k_mem)) (by with_reducible assumption) ?_; k_whole); intro h' tk' t' F' N') | ((with_reducible show wpAny _ _ (compareOp CmpOp.NotEq (Value.int _ _) (Value.int _ _)) _ _ _); k_dflt (refine Mine.ne_false heq ?_; k_whole)) | ((with_reducible show wpAny _ _ (subscriptTail _ _ (Value.ref qd) (Value.int 0 _)) _ _ _); k_dflt (refine Mine.item_two0 (by k_asm) (by k_mem) ?_ (by with_unfolding_all rfl); k_whole)) | ((with_reducible show wpAny _ _ (subscriptTail _ _ (Value.ref qd) (Value.int 1 _)) _ _ _); k_dflt (refine Mine.item_two1 (by k_asm) (by k_mem) ?_ (by with_unfolding_all rfl); k_whole)) | ((with_reducible show wpAny _ _ (subscriptTail _ _ (Value.ref dl) (Value.int _ _)) _ _ _); k_dflt (refine Mine.item_refk (i := i) rfl (by k_asm) (by k_mem) hqd k5 ?_ (by with_unfolding_all rfl); k_whole)) | ((with_reducible show wpAny _ _ (subscriptTail _ _ (Value.ref _) (Value.int _ _)) _ _ _); refine of_stop9 ?_) | ((with_reducible show wpAny _ _ (binaryOp Operator.Mult _ _) _ _ _); k_dflt (refine mul_int ?_ (mul_7 (by with_reducible assumption)))) | ((with_reducible show wpAny _ _ (call (Value.ref 43) _) _ _ _); refine of_stop9 ?_) | ((with_reducible show wpAny _ _ (eval (Expr.Name _ _) _) _ _ _); k_dflt (refine Mine.name_P (by with_reducible assumption) (by assumption) (by with_reducible (repeat (first | exact Mine.At.here | apply Mine.At.there))) (by exact Eq.refl (some (some _))) ?_; k_whole)) | ((with_reducible show wpAny _ _ (storeName _ _ _) _ _ _); k_dflt (refine Mine.store_P (by with_reducible assumption) (by k_asm) (by assumption) (by with_reducible (repeat (first | exact Mine.At.here | apply Mine.At.there))) (by rfl) ?_; k_whole; intro h' F' N'; (try dsimp only [List.set] at F'); (try k_sweep))) | walk1 | (dsimp only; walk1) | (leave1; (try dsimp only)) | fail "no step"))
            unfold Stop9
            rename_i lq hq9 Fq Nq _ lql
            have N38 := cb_drop Nq (news := (38, y.o38) :: (lq, W.listOf #[Value.int gd' tgd, Value.int rd trd] 0) :: (I, o) :: (31, tabInner 49 4 cp) :: (L' + 1 + 1 + 1, oX2) :: (L' + 1 + 1, oY2) :: (L' + 1, oC) :: r2) (by
              ((repeat (refine List.forall_mem_cons.mpr ⟨by k_mem, ?_⟩)); (repeat (refine Mine.sub_cons ?_)); exact fun _ h => h))
            have n38 : ∀ p ∈ (lq, W.listOf #[Value.int gd' tgd, Value.int rd trd] 0) :: (I, o) :: (31, tabInner 49 4 cp) :: (L' + 1 + 1 + 1, oX2) :: (L' + 1 + 1, oY2) :: (L' + 1, oC) :: r2, p.1 ≠ 38 :=
              List.forall_mem_cons.mpr ⟨Nat.ne_of_gt lql.2.2.2.2.1, List.forall_mem_cons.mpr ⟨Ne.symm i38, List.forall_mem_cons.mpr ⟨show @Ne Nat 31 38 by decide, List.forall_mem_cons.mpr ⟨Nat.ne_of_gt (Nat.lt_succ_of_lt (Nat.lt_succ_of_lt (Nat.lt_succ_of_lt l1.2.1))), List.forall_mem_cons.mpr ⟨Nat.ne_of_gt (Nat.lt_succ_of_lt (Nat.lt_succ_of_lt l1.2.1)), List.forall_mem_cons.mpr ⟨Nat.ne_of_gt (Nat.lt_succ_of_lt l1.2.1), fun p hp => (jne2 p hp).2.1⟩⟩⟩⟩⟩⟩
            k_dflt (refine' Mine.d2i_g lq 0 [Value.int gd' tgd, Value.int rd trd] [gd', rd] y.o38 _ (.cons _ _ (.cons _ _ .nil)) ?z1 ?z2 ?z3 C3 y.rest jS2 (fun p hp => .tail _ (.tail _ (.tail _ (.tail _ (.tail _ (.tail _ (hsub2 p hp))))))) n38 (.head _) ?_ _ _ _ _ _ _ _ _ _ _ _ ?c1 ?c2 ?c3 ?c4 ?c5 ?c6 ?c7 ?c8; (case z1 => exact Nat.le_add_left 1 1); (case z2 => exact Nat.le_of_ble_eq_true rfl); (case z3 => exact List.forall_mem_cons.mpr ⟨⟨hgd.1, by lia⟩, List.forall_mem_cons.mpr ⟨⟨hrd.1, by lia⟩, List.forall_mem_nil _⟩⟩); (case c1 => k_asm); (case c2 => k_asm); (case c3 => k_asm); (case c4 => k_asm); (case c5 => k_asm); (case c6 => first | assumption | exact rfl); (case c7 => k_room); (case c8 => k_room); k_whole)
            intro h9 tk9 t9 c9 oc9 hc9 ho9 c38 F9 N9
            (try dsimp only)
            have hdv : 0 ≤ dval [gd', rd] ∧ dval [gd', rd] ≤ 1000000 := by
              show 0 ≤ gd' + 65536 * (rd + 65536 * 0) ∧ gd' + 65536 * (rd + 65536 * 0) ≤ 1000000
              lia
            have c9a : c9 ≠ 31 ∧ c9 ≠ 38 ∧ c9 ≠ L' + 1 ∧ c9 ≠ L' + 1 + 1 ∧ c9 ≠ L' + 1 + 1 + 1 ∧ c9 ≠ I := ho9.elim
              (fun h => ⟨Nat.ne_of_gt (h _ (.tail _ (.tail _ (.head _)))), c38, Nat.ne_of_gt (h _ (.tail _ (.tail _ (.tail _ (.tail _ (.tail _ (.head _))))))), Nat.ne_of_gt (h _ (.tail _ (.tail _ (.tail _ (.tail _ (.head _)))))), Nat.ne_of_gt (h _ (.tail _ (.tail _ (.tail _ (.head _))))), Nat.ne_of_gt (h _ (.tail _ (.head _)))⟩)
              (fun h => jne2 _ (hsub2 _ h))
            (repeat' ((first | (k_unfold; (try dsimp only)) | (k_end; kc_close) | ((with_reducible show wpAny _ _ (binaryOp Operator.Mult _ _) _ _ _); k_dflt (refine mul_int ?_ (mul_d hdv))) | ((with_reducible show wpAny _ _ (eval (Expr.Name _ _) _) _ _ _); k_dflt (refine Mine.name_P (by with_reducible assumption) (by assumption) (by with_reducible (repeat (first | exact Mine.At.here | apply Mine.At.there))) (by exact Eq.refl (some (some _))) ?_; k_whole)) | ((with_reducible show wpAny _ _ (storeName _ _ _) _ _ _); k_dflt (refine Mine.store_P (by with_reducible assumption) (by k_asm) (by assumption) (by with_reducible (repeat (first | exact Mine.At.here | apply Mine.At.there))) (by rfl) ?_; k_whole; intro h' F' N'; (try dsimp only [List.set] at F'); (try k_sweep))) | walk1 | (dsimp only; walk1) | (leave1; (try dsimp only)) | fail "no step") <;> (try dsimp only)))
            have e2 : coefs (rg.take (i + 1)).reverse = mulc gd' rd (coefs (rg.take i).reverse) 0 := by rw [take_snoc ed, rev_snoc]; rfl
            refine TEnd.mk ⟨y.num * dval [gd', rd], rd * red + gd' * green, _, _, _, _, tabInner 49 4 cp, tabInner 64 4 c9, oX2, oY2, (c9, oc9) :: r2⟩ ⟨⟨?_, ?_, jS3.mono fun p hp => .tail _ hp, .hit (.head _) hc9, ⟨_, dX2⟩, ⟨_, dY2⟩, .tail _ jla2, fun p hp => .tail _ (hsub2 _ (jsub _ hp)), ?_⟩, ?_⟩ (by assumption) ?_
            · rw [e2, mulc_val, Int.mul_zero, Int.add_zero, ← j1]
              show _ * (gd' + 65536 * (rd + 65536 * 0)) = _
              rw [show gd' + 65536 * (rd + 65536 * 0) = gd' + rd * 65536 by lia]
            · rw [e2, er1, ← hpur, ← hred, ← hgreen]
            · exact List.forall_mem_cons.mpr ⟨⟨c9a.1, c9a.2.1, c9a.2.2.1, c9a.2.2.2.1, c9a.2.2.2.2.1⟩, fun p hp => have a := jne2 p hp; ⟨a.1, a.2.1, a.2.2.1, a.2.2.2.1, a.2.2.2.2.1⟩⟩
            · exact List.forall_mem_cons.mpr ⟨i31, List.forall_mem_cons.mpr ⟨i38, List.forall_mem_cons.mpr ⟨iX, List.forall_mem_cons.mpr ⟨iY, List.forall_mem_cons.mpr ⟨iC, List.forall_mem_cons.mpr ⟨c9a.2.2.2.2.2, fun p hp => (jne2 p hp).2.2.2.2.2⟩⟩⟩⟩⟩⟩
            · refine cb_drop (by assumption) ?_
              ((repeat (refine List.forall_mem_cons.mpr ⟨by k_mem, ?_⟩)); (repeat (refine Mine.sub_cons ?_)); exact fun _ h => h)
          · clear hy hsum
            intro k ys v I1 oI1 C1 oC1 D1 m1 h1 tk1 hk hy hv2 hC hx F1 N1 off1 ne1
            obtain ⟨ti, rfl⟩ := hv2
            rw [Int.zero_add] at hx
            have k1 : k < (coefs (rg.take i).reverse).length := by lia
            have k3 : (coefs (rg.take i).reverse).length ≤ 1000 := by lia
            have k2 : k < row1.length := by lia
            have k4 : row1.length ≤ 1000 := by lia
            have k5 : i + 1 ≤ 1000 := by lia
            (repeat' ((first | (k_unfold; (try dsimp only)) | (k_end; kc_close) | (first | ((with_reducible show wpAny _ _ (subscriptTail _ _ (Value.ref lp) (Value.int _ _)) _ _ _); k_dflt (refine Mine.item_ints (i := k) (by k_asm) (by k_mem) hvp rfl k1 k3 ?_ (by with_unfolding_all rfl); k_whole; intro t'; (try dsimp only))) | ((with_reducible show wpAny _ _ (subscriptTail _ _ (Value.ref la) (Value.int _ _)) _ _ _); k_dflt (refine Mine.item_refk (i := i + 1) rfl (by k_asm) (by k_mem) hq k5 ?_ (by with_unfolding_all rfl); k_whole)) | ((with_reducible show wpAny _ _ (subscriptTail _ _ (Value.ref q) (Value.int _ _)) _ _ _); k_dflt (refine Mine.item_ints (i := k) (by k_asm) (by k_mem) hv1 rfl k2 k4 ?_ (by with_unfolding_all rfl); k_whole; intro t'; (try dsimp only)))) | ((with_reducible show wpAny _ _ (subscriptTail _ _ (Value.ref _) (Value.int _ _)) _ _ _); refine of_stop9 ?_) | ((with_reducible show wpAny _ _ (binaryOp Operator.Mult _ _) _ _ _); k_dflt (refine mul_int ?_ (mul_c c2 _ _))) | walk1 | (dsimp only; walk1) | (leave1; (try dsimp only)) | fail "no step") <;> (try dsimp only)))
            refine CTurn.mk (by assumption) (by assumption) ?_
            rw [range_snoc]
            exact IntsAre.snoc hy
        · intro k ys v I1 oI1 C1 oC1 D1 m1 h1 tk1 hk hy hv2 hC hx F1 N1 off1 ne1
          obtain ⟨ti, rfl⟩ := hv2
          rw [Int.zero_add] at hx
          have k1 : k < (coefs (rg.take i).reverse).length := by lia
          have k3 : (coefs (rg.take i).reverse).length ≤ 1000 := by lia
          have k2 : k + 1 < row1.length := by lia
          have k4 : row1.length ≤ 1000 := by lia
          have k5 : i + 1 ≤ 1000 := by lia
          (repeat' ((first | (k_unfold; (try dsimp only)) | (k_end; kc_close) | (first | ((with_reducible show wpAny _ _ (subscriptTail _ _ (Value.ref lp) (Value.int _ _)) _ _ _); k_dflt (refine Mine.item_ints (i := k) (by k_asm) (by k_mem) hvp rfl k1 k3 ?_ (by with_unfolding_all rfl); k_whole; intro t'; (try dsimp only))) | ((with_reducible show wpAny _ _ (subscriptTail _ _ (Value.ref la) (Value.int _ _)) _ _ _); k_dflt (refine Mine.item_refk (i := i + 1) rfl (by k_asm) (by k_mem) hq k5 ?_ (by with_unfolding_all rfl); k_whole)) | ((with_reducible show wpAny _ _ (subscriptTail _ _ (Value.ref q) (Value.int _ _)) _ _ _); k_dflt (refine Mine.item_ints (i := k + 1) (by k_asm) (by k_mem) hv1 rfl k2 k4 ?_ (by with_unfolding_all rfl); k_whole; intro t'; (try dsimp only)))) | ((with_reducible show wpAny _ _ (subscriptTail _ _ (Value.ref _) (Value.int _ _)) _ _ _); refine of_stop9 ?_) | ((with_reducible show wpAny _ _ (binaryOp Operator.Mult _ _) _ _ _); k_dflt (refine mul_int ?_ (mul_c c2 _ _))) | walk1 | (dsimp only; walk1) | (leave1; (try dsimp only)) | fail "no step") <;> (try dsimp only)))
          refine CTurn.mk (by assumption) (by assumption) ?_
          rw [range_snoc]
          exact IntsAre.snoc hy
      · intro y h tk J F' N'
        obtain ⟨j1, j2, jS, jS2, ⟨vX, dX⟩, ⟨vY, dY⟩, jla, jsub, jne⟩ := J
        rw [List.take_length] at j1 j2
        rw [Nat.sub_self] at j2
        change y.purse = dot (coefs rg.reverse) worth at j2
        have rsub : ∀ x ∈ rg.reverse, x ∈ rg := fun x hx => List.mem_reverse.mp hx
        have rl : rg.reverse.length = rg.length := List.length_reverse
        obtain ⟨c1, c2, c3, c4, c5⟩ := coefs_all (l := rg.reverse) (fun x hx => D.all x (rsub x hx)) (fun x hx => hpos x (rsub x hx)) (by lia)
        rw [← j1] at c3 c4 c5
        rw [rl] at c1 c4 c5
        have n31 : ∀ p ∈ (38, y.o38) :: (L' + 1 + 1 + 1, y.oX) :: (L' + 1 + 1, y.oY) :: (L' + 1, oC) :: y.rest, p.1 ≠ 31 :=
          List.forall_mem_cons.mpr ⟨show @Ne Nat 38 31 by decide, List.forall_mem_cons.mpr ⟨Nat.ne_of_gt (Nat.lt_succ_of_lt (Nat.lt_succ_of_lt (Nat.lt_succ_of_lt l1.1))), List.forall_mem_cons.mpr ⟨Nat.ne_of_gt (Nat.lt_succ_of_lt (Nat.lt_succ_of_lt l1.1)), List.forall_mem_cons.mpr ⟨Nat.ne_of_gt (Nat.lt_succ_of_lt l1.1), fun p hp => (jne p hp).1⟩⟩⟩⟩
        have C2 := CodeHd.keeps C (Fr.keep (h₀ := h₀) (L := L) (m := m) FG')
        have hD3 : (dl, refsObj ps ee) ∈ y.rest := jsub _ hD2
        (repeat' ((first | (k_unfold; (try dsimp only)) | (k_end; kc_close) | ((with_reducible show wpAny _ _ (call (Value.builtin "len") [Value.ref _]) _ _ _); k_dflt (refine Mine.len_ref (by k_asm) (by k_mem) (by lia) ?_; k_whole); intro t' tk'; (try dsimp only)) | ((with_reducible show wpAny _ _ (call (Value.ref 194) _) _ _ _); refine of_stop9 ?_) | ((with_reducible show wpAny _ _ (eval (Expr.Name _ _) _) _ _ _); k_dflt (refine Mine.name_P (by with_reducible assumption) (by assumption) (by with_reducible (repeat (first | exact Mine.At.here | apply Mine.At.there))) (by exact Eq.refl (some (some _))) ?_; k_whole)) | ((with_reducible show wpAny _ _ (storeName _ _ _) _ _ _); k_dflt (refine Mine.store_P (by with_reducible assumption) (by k_asm) (by assumption) (by with_reducible (repeat (first | exact Mine.At.here | apply Mine.At.there))) (by rfl) ?_; k_whole; intro h' F' N'; (try dsimp only [List.set] at F'); (try k_sweep))) | walk1 | (dsimp only; walk1) | (leave1; (try dsimp only)) | fail "no step") <;> (try dsimp only)))
        unfold Stop9
        rw [lps]
        k_dflt (refine' Mine.counts_g rg.length y.num y.o31 _ _ hn c3 c4 C2 y.rest jS (fun p hp => .tail _ (.tail _ (.tail _ (.tail _ hp)))) n31 ?_ _ _ _ _ _ _ _ _ _ _ _ ?c1 ?c2 ?c3 ?c4 ?c5 ?c6 ?c7 ?c8; (case c1 => k_asm); (case c2 => k_asm); (case c3 => k_asm); (case c4 => k_asm); (case c5 => k_asm); (case c6 => first | assumption | exact rfl); (case c7 => k_room); (case c8 => k_room); k_whole)
        intro hp tkp lp vp ep cp ocp hvp hcp hop lpb lp31 lpc cp31 Fp Np
        rw [c5] at hvp
        (try dsimp only)
        (repeat' (first | (k_unfold; (try dsimp only)) | (k_end; kc_close) | ((with_reducible show wpAny _ _ (eval (Expr.Name _ _) _) _ _ _); k_dflt (refine Mine.name_P (by with_reducible assumption) (by assumption) (by with_reducible (repeat (first | exact Mine.At.here | apply Mine.At.there))) (by exact Eq.refl (some (some _))) ?_; k_whole)) | ((with_reducible show wpAny _ _ (storeName _ _ _) _ _ _); k_dflt (refine Mine.store_P (by with_reducible assumption) (by k_asm) (by assumption) (by with_reducible (repeat (first | exact Mine.At.here | apply Mine.At.there))) (by rfl) ?_; k_whole; intro h' F' N'; (try dsimp only [List.set] at F'); (try k_sweep))) | walk1 | (dsimp only; walk1) | (leave1; (try dsimp only)) | fail "no step"))
        rename_i D9 h9 _ _ _ _ kF9 kN9 _ _
        obtain ⟨p2, e38⟩ := jS2.tab
        refine hret _ _ D9 lp vp ep y.tp #[rawInt 49, rawInt 4, .ref cp] p2 hvp kF9 ?_
        rw [← j2]
        refine cb_drop kN9 ?_
        exact List.forall_mem_cons.mpr ⟨.head _, List.forall_mem_cons.mpr ⟨.tail _ (.tail _ (.head _)), List.forall_mem_cons.mpr ⟨.tail _ (.head _), List.forall_mem_cons.mpr ⟨by rw [← e38]; exact .tail _ (.tail _ (.tail _ (.tail _ (.head _)))), fun p hp => .tail _ (.tail _ (.tail _ (.tail _ (.tail _ (.tail _ (.tail _ (.tail _ (jsub _ (hsub _ hp)))))))))⟩⟩⟩⟩
end
section
variable {w : World} {p : Program} {loose : List PySem.Str} {mean : ExcName → Option Value} {mg mb : Locals} {h₀ : Heap} {L : Addr} {m : Locals} {news : Led} {s : Shared} {Q E : Value → Shared → Prop}
noncomputable abbrev SpecC (w : World) (p : Program) (loose : List PySem.Str) (mean : ExcName → Option Value) (mg mb : Locals) (d u : Nat) (f : Value) (vs : Vals) (h₀ : Heap) (L : Addr) (m : Locals) (news : Led) (s : Shared) (Q E : Value → Shared → Prop) : Prop :=
  ∀ (dp un : Nat) (gd : Option (List Code)) (cn : PySem.Str) (cs : Scope) (a : Addr) (ccd : Value) (cl : List (PySem.Str × Addr)) (outer : List Env) (A₀ : Around) (base : Heap),
    Below A₀ base outer h₀ → Fr h₀ L s.heap m → (K w.params).In h₀ → News h₀ L s.heap news → Top p loose mean mg mb h₀ → cs.kind = .function → dp + d < recursionLimit → un + u < cLine →
      codeAny (model prg w) (ktrTop dp un gd cn cs L a ccd cl outer) (.call f ⟨vs, []⟩) (wants Q E) s
noncomputable abbrev SpecN (w : World) (p : Program) (loose : List PySem.Str) (mean : ExcName → Option Value) (mg mb : Locals) (d u : Nat) (it : Value) (h₀ : Heap) (L : Addr) (m : Locals) (news : Led) (s : Shared) (Q : Option Value → Shared → Prop) (E : Value → Shared → Prop) : Prop :=
  ∀ (dp un : Nat) (gd : Option (List Code)) (cn : PySem.Str) (cs : Scope) (a : Addr) (ccd : Value) (cl : List (PySem.Str × Addr)) (outer : List Env) (A₀ : Around) (base : Heap),
    Below A₀ base outer h₀ → Fr h₀ L s.heap m → (K w.params).In h₀ → News h₀ L s.heap news → Top p loose mean mg mb h₀ → cs.kind = .function → dp + d < recursionLimit → un + u < cLine →
      wpAny (model prg w) (ktrTop dp un gd cn cs L a ccd cl outer) (pyNext it) Q E s
noncomputable def obj71 (P : Params) : Obj := ((K P).lookup 71).getD default
noncomputable def fnOf (d : Data) : Option FuncData := match d with
  | .func fd => some fd
  | _ => none
theorem is71 (P : Params) : (K P).lookup 71 = some (obj71 P) := by kernel_rfl
theorem fn71 (P : Params) : (obj71 P).data = .func ((fnOf (obj71 P).data).getD default) := by kernel_rfl
section
open PySem.Builtin PySem.Builtin.Str
variable {prog : Program} {A : Around} {x : PySem.Str} {t : Tok} {value slice : PySem.Expr}
theorem cut_sg {sg : PySem.Str} {i j : Int} {ui uj : Tok} {Q : Value → Shared → Prop} (hF : Fr h₀ L s.heap m) (hN : News h₀ L s.heap news) (hsl : Txt.slice x (some i) (some j) = sg) (hsz : x.length ≤ sizeLine) (h : ∀ h' t' tk, Fr h₀ L h' m → News h₀ L h' news → Q (.str sg t') { s with heap := h', toks := tk })
    (hs : subscripted slice false (.str x t) (.ref s.heap.objs.size) = operate [.ref s.heap.objs.size, .str x t] (getItem (.str x t) (.ref s.heap.objs.size)) := by with_unfolding_all rfl)
    (ht : ∀ r, letTemporaryGo value (.str x t) r = pure () := by intro _; with_unfolding_all rfl) :
    wpAny (model prog w) A (subscriptTail value slice (.str x t) (.ref s.heap.objs.size)) Q E { s with heap := s.heap.push { cls := .type "slice", data := .fields #[.int i ui, .int j uj, .none] } } :=
  slice_strN_ss hF hN (fun h' t' tk a b => by rw [hsl]; exact h h' t' tk a b) hs ht hsz
theorem len_sg {Q : Value → Shared → Prop} (h1 : x.length ≤ 1) (h : ∀ t tk, Q (.int (x.length : Int) t) { s with toks := tk }) : wpAny (model prog w) A (call (.builtin "len") [.str x t]) Q E s :=
  PyProof.Rows.len_str (by lia) (h _ _)
end
theorem MIs.ne_at {M : MA} {O : MO} {T : PySem.Str} (I : MIs M O T) : @Ne Nat M.pb M.at_ ∧ @Ne Nat M.x M.at_ ∧ @Ne Nat M.d M.at_ ∧ @Ne Nat M.rd M.at_ ∧ @Ne Nat M.S M.at_ ∧ @Ne Nat M.F M.at_ ∧ @Ne Nat M.cF M.at_ ∧ @Ne Nat M.c2 M.at_ ∧ @Ne Nat M.c1 M.at_ := by
  obtain ⟨r1, r2, r3, r4, r5, r6, r7, r8, r9⟩ := I.ord
  exact ⟨Nat.ne_of_gt (Nat.lt_trans r3 (Nat.lt_trans r4 (Nat.lt_trans r5 (Nat.lt_trans r6 (Nat.lt_trans r7 (Nat.lt_trans r8 (r9))))))), Nat.ne_of_gt (Nat.lt_trans r3 (Nat.lt_trans r4 (Nat.lt_trans r5 (Nat.lt_trans r6 (Nat.lt_trans r7 (r8)))))), Nat.ne_of_gt (Nat.lt_trans r3 (Nat.lt_trans r4 (Nat.lt_trans r5 (Nat.lt_trans r6 (r7))))), Nat.ne_of_gt (Nat.lt_trans r3 (Nat.lt_trans r4 (Nat.lt_trans r5 (r6)))), Nat.ne_of_gt (Nat.lt_trans r3 (Nat.lt_trans r4 (r5))), Nat.ne_of_gt (Nat.lt_trans r3 (r4)), Nat.ne_of_gt (r3), Nat.ne_of_lt (r2), Nat.ne_of_lt (Nat.lt_trans r1 (r2))⟩
theorem MIs.ne_d {M : MA} {O : MO} {T : PySem.Str} (I : MIs M O T) : @Ne Nat M.pb M.d ∧ @Ne Nat M.x M.d ∧ @Ne Nat M.rd M.d ∧ @Ne Nat M.S M.d ∧ @Ne Nat M.F M.d ∧ @Ne Nat M.cF M.d ∧ @Ne Nat M.at_ M.d ∧ @Ne Nat M.c2 M.d ∧ @Ne Nat M.c1 M.d := by
  obtain ⟨r1, r2, r3, r4, r5, r6, r7, r8, r9⟩ := I.ord
  exact ⟨Nat.ne_of_gt (Nat.lt_trans r8 (r9)), Nat.ne_of_gt (r8), Nat.ne_of_lt (r7), Nat.ne_of_lt (Nat.lt_trans r6 (r7)), Nat.ne_of_lt (Nat.lt_trans r5 (Nat.lt_trans r6 (r7))), Nat.ne_of_lt (Nat.lt_trans r4 (Nat.lt_trans r5 (Nat.lt_trans r6 (r7)))), Nat.ne_of_lt (Nat.lt_trans r3 (Nat.lt_trans r4 (Nat.lt_trans r5 (Nat.lt_trans r6 (r7))))), Nat.ne_of_lt (Nat.lt_trans r2 (Nat.lt_trans r3 (Nat.lt_trans r4 (Nat.lt_trans r5 (Nat.lt_trans r6 (r7)))))), Nat.ne_of_lt (Nat.lt_trans r1 (Nat.lt_trans r2 (Nat.lt_trans r3 (Nat.lt_trans r4 (Nat.lt_trans r5 (Nat.lt_trans r6 (r7)))))))⟩
theorem rdon_g (M : MA) (O : MO) (T : PySem.Str) (I : MIs M O T) (k : Nat) (sg : PySem.Str) (hsl : Txt.slice T (some (k : Int)) (some ((k : Int) + 1)) = sg) (h1 : sg.length ≤ 1) (tk t1 : Tok) (ee : Nat) (hz : T.length ≤ sizeLine)
    (C : CodeHd h₀ 181 177) (hA : ∀ p ∈ news, p.1 ≠ M.at_) (m1 : (M.c1, O.o1) ∈ news) (m2 : (M.c2, O.o2) ∈ news) (m3 : (M.cF, O.oc) ∈ news) (m4 : (M.F, rdObj O.q [(PySem.Str.ofString "text", M.c1), (PySem.Str.ofString "at", M.c2)] O.dc O.md M.cF O.ct) ∈ news)
    (hret : ∀ h' tk' t' tk2 ee', Fr h₀ L h' m → News h₀ L h' ((M.at_, W.listOf #[.int ((k : Int) + (sg.length : Int)) tk2] ee') :: news) → Q (.str sg t') { s with heap := h', toks := tk' }) :
      Spec w p loose mean mg mb 6 60 (.ref M.F) [.int 1 t1] h₀ L m ((M.at_, W.listOf #[.int (k : Int) tk] ee) :: news) s Q E := by
  intro dp un gd cn cs a ccd cl outer A₀ base hB F X N T' hk hd hu
  obtain ⟨hod, ⟨tT, ho1⟩, ho2, ⟨⟨vs, tq, e1, e2⟩⟩, hord⟩ := I
  obtain ⟨pb, x, d, rd, S, Fa, cF, at_, c1, c2⟩ := M
  obtain ⟨od, fd, sl, q, dc, md, ct, o1, o2, oc⟩ := O
  dsimp only [rdObj] at *
  refine wpAny_call ?_
  k_dflt (refine' code_nest ?k1 ?k2 ?k3 ?k4 ?k5 ?kA ?kF ?kK ?k6 ?k7 ?k8 ?k9 ?kB ?_ ?c2 ?c3 ?c4 ?c5; (case kA => exact rfl); (case kF => exact rfl); (case kK => first | assumption | exact rfl); (case k1 => k_asm); (case k2 => k_asm); (case k3 => k_asm); (case k4 => k_asm); (case k5 => k_asm); (case k6 => k_mem); (case k7 => exact codeRec_news (by k_asm) (by k_mem) (by assumption) (by assumption)); (case k8 => k_room); (case k9 => exact BindsTo.of_eq rfl); (case c5 => decide); (case kB => exact locs rfl); (case c2 => exact rfl); (case c3 => exact rfl); (case c4 => exact rfl); k_whole; intro g' L' h' FG' F' N' B' X' T'; (try dsimp only); (try k_lift B'); (try k_fold))
  have nd9 : Mine.NoDup [PySem.Str.ofString "size", PySem.Str.ofString "sign"] := Mine.NoDup.of (by decide +kernel)
  have F0 : Fr _ _ _ (Mine.look [PySem.Str.ofString "size", PySem.Str.ofString "sign"] [some (.int 1 t1), none]) := Mine.start_P (bs := [(PySem.Str.ofString "size", .int 1 t1)]) (ns' := [PySem.Str.ofString "sign"]) (k := 1) F'
  clear F'
  refine Mine.gen_tk ?_; intro tk0
  (repeat' (first | (k_unfold; (try dsimp only)) | (k_end; kc_close) | ((with_reducible show wpAny _ _ (subscriptTail _ (PySem.Expr.Slice (some _) (some _) none _) _ _) _ _ _); k_dflt (refine' Mine.cut_sg (s := ⟨_, _, _, _, _⟩) ?F ?N ?x ?z ?_; (case F => k_asm); (case N => k_asm); (case x => assumption); (case z => assumption); k_whole); intro h' t' tk' F' N') | ((with_reducible show wpAny _ _ (call (Value.builtin "len") [Value.str _ _]) _ _ _); k_dflt (refine Mine.len_sg (by assumption) ?_; k_whole); intro t' tk'; (try dsimp only)) | ((with_reducible show wpAny _ _ (eval (Expr.Name _ _) _) _ _ _); k_dflt (refine' nameX_F ?N ?c ?m ?d ?_ ?a ?b; (case a => rfl); (case b => rfl); (case N => k_asm); (case c => rfl); (case m => k_mem); (case d => k_asm); k_whole)) | ((with_reducible show wpAny _ _ (eval (Expr.Name _ _) _) _ _ _); k_dflt (refine Mine.name_P (by with_reducible assumption) (by assumption) (by with_reducible (repeat (first | exact Mine.At.here | apply Mine.At.there))) (by exact Eq.refl (some (some _))) ?_; k_whole)) | ((with_reducible show wpAny _ _ (storeName _ _ _) _ _ _); k_dflt (refine Mine.store_P (by with_reducible assumption) (by k_asm) (by assumption) (by with_reducible (repeat (first | exact Mine.At.here | apply Mine.At.there))) (by rfl) ?_; k_whole; intro h' F' N'; (try dsimp only [List.set] at F'); (try k_sweep))) | walk1 | (dsimp only; walk1) | (leave1; (try dsimp only)) | fail "no step"))
  exact hret _ _ _ _ _ (by assumption) (by assumption)
noncomputable def lnUp (sg : PySem.Str) (ln : Int) : Int := if (sg == PySem.Str.ofString "\n") = true then ln + 1 else ln
theorem readc_g (M : MA) (O : MO) (T : PySem.Str) (I : MIs M O T) (ln : Int) (k : Nat) (sg : PySem.Str) (hsl : Txt.slice T (some (k : Int)) (some ((k : Int) + 1)) = sg) (h1 : sg.length ≤ 1) (t1 t2 t3 t4 tl tw tk : Tok) (ee : Nat) (hz : T.length ≤ sizeLine)
    (C : CodeHd h₀ 181 177) (hA : ∀ p ∈ news, p.1 ≠ M.at_) (hD : ∀ p ∈ news, p.1 ≠ M.d)
    (hret : ∀ h' tk' t' tk2 tl' ee', Fr h₀ L h' m → News h₀ L h' (mLed w M O (lnUp sg ln) ((k : Int) + (sg.length : Int)) t1 t2 t3 t4 tl' tw tk2 ee' news) → Q (.str sg t') { s with heap := h', toks := tk' }) :
      SpecC w p loose mean mg mb 12 120 (.ref 71) [.ref M.x] h₀ L m (mLed w M O ln (k : Int) t1 t2 t3 t4 tl tw tk ee news) s Q E := by
  intro dp un gd cn cs a ccd cl outer A₀ base hB F X N T' hk hd hu
  have I9 := I
  obtain ⟨hod, ⟨tT, ho1⟩, ho2, ⟨⟨vs, tq, e1, e2⟩⟩, hord⟩ := I
  obtain ⟨pb, x, d, rd, S, Fa, cF, at_, c1, c2⟩ := M
  obtain ⟨od, fd, sl, q, dc, md, ct, o1, o2, oc⟩ := O
  dsimp only [mLed] at N hret ⊢
  k_dflt (refine' code_def ?k1 ?k2 ?k3 ?k4 ?k5 ?kA ?kF ?kK ?k6 ?k7 ?k8 ?k9 ?kB ?_ ?c2 ?c3 ?c4 ?c5; (case kA => exact rfl); (case kF => exact rfl); (case kK => first | assumption | exact rfl); (case k1 => k_asm); (case k2 => k_asm); (case k3 => k_asm); (case k4 => k_asm); (case k5 => k_asm); (case k6 => k_is); (case k7 => k_is); (case k8 => k_room); (case k9 => first | exact BindsTo.of_eq rfl | exact binds_K (by k_in) rfl (by k_is) rfl rfl rfl); (case c5 => decide); (case kB => exact locs rfl); (case c2 => exact rfl); (case c3 => exact rfl); (case c4 => exact rfl); k_whole; intro g' L' h' FG' F' N' B' X' T'; (try dsimp only); (try k_lift B'); (try k_fold))
  have C2 := CodeHd.keeps C (Fr.keep (h₀ := h₀) (L := L) (m := m) (by assumption))
  obtain ⟨ea1, ea2, ea3, ea4, ea5, ea6, ea7, ea8, ea9⟩ := I9.ne_at
  obtain ⟨ed1, ed2, ed3, ed4, ed5, ed6, ed7, ed8, ed9⟩ := I9.ne_d
  dsimp only at ea1 ea2 ea3 ea4 ea5 ea6 ea7 ea8 ea9 ed1 ed2 ed3 ed4 ed5 ed6 ed7 ed8 ed9
  have nat_ : ∀ p ∈ (pb, listOf #[] 0) :: (x, instObj 88 d) :: (d, dictOf [ent w (PySem.Str.ofString "lineno") t1 (.int ln tl), ent w (PySem.Str.ofString "instream") t2 (.ref S), ent w (PySem.Str.ofString "whitespace") t3 (.str wsStr tw), ent w (PySem.Str.ofString "pushback") t4 (.ref pb)] 4) :: (rd, od) :: (S, ⟨.type "function", some rd, .func fd, sl⟩) :: (Fa, rdObj q [(PySem.Str.ofString "text", c1), (PySem.Str.ofString "at", c2)] dc md cF ct) :: (cF, oc) :: (c2, o2) :: (c1, o1) :: news, p.1 ≠ at_ := List.forall_mem_cons.mpr ⟨ea1, List.forall_mem_cons.mpr ⟨ea2, List.forall_mem_cons.mpr ⟨ea3, List.forall_mem_cons.mpr ⟨ea4, List.forall_mem_cons.mpr ⟨ea5, List.forall_mem_cons.mpr ⟨ea6, List.forall_mem_cons.mpr ⟨ea7, List.forall_mem_cons.mpr ⟨ea8, List.forall_mem_cons.mpr ⟨ea9, hA⟩⟩⟩⟩⟩⟩⟩⟩⟩
  have nd9 : Mine.NoDup [PySem.Str.ofString "self", PySem.Str.ofString "ch"] := Mine.NoDup.of (by decide +kernel)
  have F0 : Fr _ _ _ (Mine.look [PySem.Str.ofString "self", PySem.Str.ofString "ch"] [some (.ref x), none]) := Mine.start_P (bs := [(PySem.Str.ofString "self", .ref x)]) (ns' := [PySem.Str.ofString "ch"]) (k := 1) F'
  clear F'
  refine Mine.gen_tk ?_; intro tk0
  (repeat' (first | (k_unfold; (try dsimp only)) | (k_end; kc_close) | ((with_reducible show wpAny _ _ (getMethod (Value.ref _) (Str.ofString "read") _) _ _ _); k_dflt (refine' Mine.fnl_getMethod ?k1 ?k2 ?k3 ?k4 ?_; (case k1 => k_asm); (case k2 => k_mem); (case k3 => assumption); (case k4 => k_mem); k_whole); (try dsimp only)) | ((with_reducible show wpAny _ _ (call (Value.ref Fa) _) _ _ _); k_dflt (refine' Mine.rdon_g (news := (pb, listOf #[] 0) :: (x, instObj 88 d) :: (d, dictOf [ent w (PySem.Str.ofString "lineno") t1 (.int ln tl), ent w (PySem.Str.ofString "instream") t2 (.ref S), ent w (PySem.Str.ofString "whitespace") t3 (.str wsStr tw), ent w (PySem.Str.ofString "pushback") t4 (.ref pb)] 4) :: (rd, od) :: (S, ⟨.type "function", some rd, .func fd, sl⟩) :: (Fa, rdObj q [(PySem.Str.ofString "text", c1), (PySem.Str.ofString "at", c2)] dc md cF ct) :: (cF, oc) :: (c2, o2) :: (c1, o1) :: news) _ _ T I9 k sg hsl h1 _ _ _ hz C2 ?zA ?m1 ?m2 ?m3 ?m4 ?_ _ _ _ _ _ _ _ _ _ _ _ ?c1 ?c2 ?c3 ?c4 ?c5 ?c6 ?c7 ?c8; (case zA => exact nat_); (case m1 => k_mem); (case m2 => k_mem); (case m3 => k_mem); (case m4 => k_mem); (case c1 => k_asm); (case c2 => k_asm); (case c3 => k_asm); (case c4 => exact cb_drop (by k_asm) (by ((repeat (refine List.forall_mem_cons.mpr ⟨by k_mem, ?_⟩)); (repeat (refine Mine.sub_cons ?_)); exact fun _ h => h))); (case c5 => k_asm); (case c6 => first | assumption | exact rfl); (case c7 => k_room); (case c8 => k_room); k_whole); intro h' tk' t' tk2 ee' F' N'; (try dsimp only)) | ((with_reducible show wpAny _ _ (eval (Expr.Name _ _) _) _ _ _); k_dflt (refine Mine.name_P (by with_reducible assumption) (by assumption) (by with_reducible (repeat (first | exact Mine.At.here | apply Mine.At.there))) (by exact Eq.refl (some (some _))) ?_; k_whole)) | ((with_reducible show wpAny _ _ (storeName _ _ _) _ _ _); k_dflt (refine Mine.store_P (by with_reducible assumption) (by k_asm) (by assumption) (by with_reducible (repeat (first | exact Mine.At.here | apply Mine.At.there))) (by rfl) ?_; k_whole; intro h' F' N'; (try dsimp only [List.set] at F'); (try k_sweep))) | walk1 | (dsimp only; walk1) | (leave1; (try dsimp only)) | fail "no step"))
  · rw [lnUp, if_pos (by assumption)] at hret
    rename (News h₀ L _ _) => zN
    exact hret _ _ _ _ _ _ (by assumption) (cb_drop zN (by ((repeat (refine List.forall_mem_cons.mpr ⟨by k_mem, ?_⟩)); (repeat (refine Mine.sub_cons ?_)); exact fun _ h => h)))
  · rw [lnUp, if_neg (Bool.eq_false_iff.mp (by assumption))] at hret
    rename (News h₀ L _ _) => zN
    exact hret _ _ _ _ _ _ (by assumption) (cb_drop zN (by ((repeat (refine List.forall_mem_cons.mpr ⟨by k_mem, ?_⟩)); (repeat (refine Mine.sub_cons ?_)); exact fun _ h => h)))
theorem ext_keep {h h' : Heap} {J : Addr} {o : Obj} {l : Led} (Fx : Fr h₀ L h m) (N : News h₀ L h l) (hJ : (J, o) ∈ l) (e : Heap.ExtBut J h h') :
    Fr h₀ L h' m ∧ ∀ l' : Led, (∀ p ∈ l', p ∈ l ∧ p.1 ≠ J) → News h₀ L h' l' := by
  have hm := N _ hJ
  obtain ⟨⟨oL, e1, e2, hL, e3⟩, kp, ab⟩ := Fx
  refine ⟨⟨⟨oL, e1, e2, e _ _ hm.2.1.symm hL, e3⟩, fun b o' eb => e _ _ (fun hb => ?_) (kp b o' eb), ab⟩, fun l' hl p hp => ?_⟩
  · subst hb
    rw [hm.2.2] at eb; cases eb
  · obtain ⟨h1, h2⟩ := hl p hp
    exact ⟨e _ _ h2 (N p h1).1, (N p h1).2⟩
structure MT where
  (t1 t2 t3 t4 tw : Tok)
structure MS where
  (ln : Int) (k : Nat) (tl tk : Tok) (ee : Nat)
noncomputable abbrev mS (w : World) (M : MA) (O : MO) (c : MT) (x : MS) (news : Led) : Led := mLed2 w M O x.ln (x.k : Int) c.t1 c.t2 c.t3 c.t4 x.tl c.tw x.tk x.ee news
noncomputable abbrev mS1 (w : World) (M : MA) (O : MO) (c : MT) (x : MS) (news : Led) : Led := mLed w M O x.ln (x.k : Int) c.t1 c.t2 c.t3 c.t4 x.tl c.tw x.tk x.ee news
theorem mem_mS1 {w : World} {M : MA} {O : MO} {c : MT} {x : MS} {news : Led} {q : Addr × Obj} (h : q ∈ news) : q ∈ mS1 w M O c x news :=
  .tail _ (.tail _ (.tail _ (.tail _ (.tail _ (.tail _ (.tail _ (.tail _ (.tail _ (.tail _ h)))))))))
noncomputable def up10 (c : Nat) : Int := if c = 10 then 1 else 0
theorem lnUp_one (c : Nat) (ln : Int) : lnUp ⟨#[c]⟩ ln = ln + up10 c := by
  unfold lnUp up10
  by_cases e : c = 10
  · subst e
    rw [if_pos (by decide +kernel), if_pos rfl]
  · rw [show PySem.Str.ofString "\n" = ⟨#[10]⟩ by decide +kernel, if_neg (fun h => e (by simpa using eq_of_beq h)), if_neg e]; lia
theorem ne_two {news : Led} {a J q : Addr} {o o' : Obj} (h : ∀ p ∈ news, p.1 ≠ a) (h1 : @LT.lt Nat _ a q) (h2 : @LT.lt Nat _ q J) : ∀ p ∈ (J, o) :: (q, o') :: news, p.1 ≠ a :=
  List.forall_mem_cons.mpr ⟨Nat.ne_of_gt (Nat.lt_trans h1 h2), List.forall_mem_cons.mpr ⟨Nat.ne_of_gt h1, h⟩⟩
theorem MIs.lt_pb {M : MA} {O : MO} {T : PySem.Str} (I : MIs M O T) : @LT.lt Nat _ M.at_ M.pb ∧ @LT.lt Nat _ M.d M.pb := by
  obtain ⟨r1, r2, r3, r4, r5, r6, r7, r8, r9⟩ := I.ord
  have h := Nat.lt_trans r8 r9
  exact ⟨Nat.lt_trans r3 (Nat.lt_trans r4 (Nat.lt_trans r5 (Nat.lt_trans r6 (Nat.lt_trans r7 h)))), h⟩
theorem next_g {Q : Option Value → Shared → Prop} (M : MA) (O : MO) (T : PySem.Str) (I : MIs M O T) (J q : Addr) (ts : Tok) (ct : MT) (x : MS) (c : Nat) (rest : List Nat) (hx : T.cps.toList.drop x.k = c :: rest) (hz : T.length ≤ sizeLine)
    (C : CodeHd h₀ 181 177) (hpq : @LT.lt Nat _ M.pb q) (hqJ : @LT.lt Nat _ q J) (hA : ∀ p ∈ news, p.1 ≠ M.at_) (hD : ∀ p ∈ news, p.1 ≠ M.d)
    (hret : ∀ h' tk' t' (x' : MS), T.cps.toList.drop x'.k = rest → x'.ln = x.ln + up10 c → Fr h₀ L h' m → News h₀ L h' ((J, ciObj q ts) :: (q, methodObj (.ref 71) (.ref M.x)) :: mS w M O ct x' news) → Q (some (.str ⟨#[c]⟩ t')) { s with heap := h', toks := tk' }) :
      SpecN w p loose mean mg mb 12 130 (.ref J) h₀ L m ((J, ciObj q ts) :: (q, methodObj (.ref 71) (.ref M.x)) :: mS w M O ct x news) s Q E := by
  intro dp un gd cn cs a ccd cl outer A₀ base hB F X N T' hk hd hu
  replace N := led_to N
  refine ci_next rfl N (mem_mS1 (.head _)) (mem_mS1 (.tail _ (.head _))) ((X.keeps F.keep) 71 _ (is71 w.params)) (fn71 w.params) (fun h' k => k _ _ (X 71 _ (is71 w.params))) ?_
  refine readc_g M O T I x.ln x.k ⟨#[c]⟩ (slice_some hx) (Nat.le_refl 1) ct.t1 ct.t2 ct.t3 ct.t4 x.tl ct.tw x.tk x.ee hz C (ne_two hA (Nat.lt_trans I.lt_pb.1 hpq) hqJ) (ne_two hD (Nat.lt_trans I.lt_pb.2 hpq) hqJ) ?_ dp (un + 1) gd cn cs a ccd cl outer A₀ base hB F X N T' hk hd (by lia)
  intro h' tk' t' tk2 tl' ee' F' N'
  refine ⟨⟨_, m, F', N', mem_mS1 (x := ⟨_, x.k + 1, tl', tk2, ee'⟩) (.head _), mem_mS1 (x := ⟨_, x.k + 1, tl', tk2, ee'⟩) (.tail _ (.head _))⟩, _, t', rfl, fun hne => ?_, fun he => ?_⟩
  · rw [lnUp_one] at N'
    refine hret h' tk' t' ⟨x.ln + up10 c, x.k + 1, tl', tk2, ee'⟩ ?_ rfl F' (led_back N')
    rw [← List.drop_drop, hx]; rfl
  · exact absurd (congrArg (fun z : PySem.Str => z.cps.size) he) (show ¬ (1 : Nat) = 0 by decide)
open PySem.Builtin PySem.Builtin.Str in
theorem slice_none2 {T : PySem.Str} {k : Nat} (h : T.cps.toList.drop k = []) : Txt.slice T (some (k : Int)) (some ((k : Int) + 1)) = ⟨#[]⟩ := by
  have hl : T.cps.size ≤ k := by
    have := congrArg List.length h
    simp only [List.length_drop, List.length_nil, Array.length_toList] at this
    lia
  have hlen : T.length = T.cps.size := rfl
  have e : strSliceIndices (some (k : Int)) (some ((k : Int) + 1)) 1 T.length = [] := by
    unfold strSliceIndices sliceRange
    simp only [show (1 : Int) > 0 by decide, if_true, show ¬ ((k : Int) < 0) by lia, show ¬ ((k : Int) + 1 < 0) by lia, if_false]
    rw [if_neg (by rw [hlen]; lia)]
    rfl
  unfold Txt.slice
  rw [e]
  split
  · rename_i hz
    simp at hz
    obtain ⟨c⟩ := T
    simp only [PySem.Str.length] at hz
    have : c = #[] := Array.eq_empty_of_size_eq_zero hz.symm
    rw [this]
  · rfl
theorem next_end {Q : Option Value → Shared → Prop} (M : MA) (O : MO) (T : PySem.Str) (I : MIs M O T) (J q : Addr) (ts : Tok) (ct : MT) (x : MS) (hx : T.cps.toList.drop x.k = []) (hz : T.length ≤ sizeLine)
    (C : CodeHd h₀ 181 177) (hpq : @LT.lt Nat _ M.pb q) (hqJ : @LT.lt Nat _ q J) (hA : ∀ p ∈ news, p.1 ≠ M.at_) (hD : ∀ p ∈ news, p.1 ≠ M.d) (hJ : ∀ p ∈ news, p.1 ≠ J)
    (hret : ∀ h' tk' (x' : MS), x'.ln = x.ln → x'.k = x.k → Fr h₀ L h' m → News h₀ L h' (mS w M O ct x' news) → Q none { s with heap := h', toks := tk' }) :
      SpecN w p loose mean mg mb 12 130 (.ref J) h₀ L m ((J, ciObj q ts) :: (q, methodObj (.ref 71) (.ref M.x)) :: mS w M O ct x news) s Q E := by
  intro dp un gd cn cs a ccd cl outer A₀ base hB F X N T' hk hd hu
  replace N := led_to N
  refine ci_next rfl N (mem_mS1 (.head _)) (mem_mS1 (.tail _ (.head _))) ((X.keeps F.keep) 71 _ (is71 w.params)) (fn71 w.params) (fun h' k => k _ _ (X 71 _ (is71 w.params))) ?_
  refine readc_g M O T I x.ln x.k ⟨#[]⟩ (slice_none2 hx) (Nat.zero_le 1) ct.t1 ct.t2 ct.t3 ct.t4 x.tl ct.tw x.tk x.ee hz C (ne_two hA (Nat.lt_trans I.lt_pb.1 hpq) hqJ) (ne_two hD (Nat.lt_trans I.lt_pb.2 hpq) hqJ) ?_ dp (un + 1) gd cn cs a ccd cl outer A₀ base hB F X N T' hk hd (by lia)
  intro h' tk' t' tk2 tl' ee' F' N'
  rw [show lnUp ⟨#[]⟩ x.ln = x.ln from if_neg (by decide +kernel), show ((x.k : Int) + (((⟨#[]⟩ : PySem.Str).length : Nat) : Int)) = (x.k : Int) from Int.add_zero _] at N'
  refine ⟨⟨_, m, F', N', mem_mS1 (x := ⟨_, x.k, tl', tk2, ee'⟩) (.head _), mem_mS1 (x := ⟨_, x.k, tl', tk2, ee'⟩) (.tail _ (.head _))⟩, _, t', rfl, fun hne => ?_, fun he => ?_⟩
  · exact absurd rfl hne
  · intro h2 he2
    obtain ⟨F2, N2⟩ := ext_keep F' N' (mem_mS1 (x := ⟨_, x.k, tl', tk2, ee'⟩) (.head _)) he2
    refine hret h2 tk' ⟨x.ln, x.k, tl', tk2, ee'⟩ rfl rfl F2 ?_
    rw [show mS w M O ct ⟨x.ln, x.k, tl', tk2, ee'⟩ news = mS1 w M O ct ⟨x.ln, x.k, tl', tk2, ee'⟩ news from led_eq ..]
    obtain ⟨r1, r2, r3, r4, r5, r6, r7, r8, r9⟩ := I.ord
    have u1 := Nat.lt_trans hpq hqJ
    have u2 := Nat.lt_trans r9 u1
    have u3 := Nat.lt_trans r8 u2
    have u4 := Nat.lt_trans r7 u3
    have u5 := Nat.lt_trans r6 u4
    have u6 := Nat.lt_trans r5 u5
    have u7 := Nat.lt_trans r4 u6
    have u8 := Nat.lt_trans r3 u7
    have u9 := Nat.lt_trans r2 u8
    have u10 := Nat.lt_trans r1 u9
    refine N2 _ (List.forall_mem_cons.mpr ⟨⟨.head _, Nat.ne_of_lt u1⟩, List.forall_mem_cons.mpr ⟨⟨.tail _ (.head _), Nat.ne_of_lt u2⟩, List.forall_mem_cons.mpr ⟨⟨.tail _ (.tail _ (.head _)), Nat.ne_of_lt u3⟩, List.forall_mem_cons.mpr ⟨⟨.tail _ (.tail _ (.tail _ (.head _))), Nat.ne_of_lt u4⟩, List.forall_mem_cons.mpr ⟨⟨.tail _ (.tail _ (.tail _ (.tail _ (.head _)))), Nat.ne_of_lt u5⟩, List.forall_mem_cons.mpr ⟨⟨.tail _ (.tail _ (.tail _ (.tail _ (.tail _ (.head _))))), Nat.ne_of_lt u6⟩, List.forall_mem_cons.mpr ⟨⟨.tail _ (.tail _ (.tail _ (.tail _ (.tail _ (.tail _ (.head _)))))), Nat.ne_of_lt u7⟩, List.forall_mem_cons.mpr ⟨⟨.tail _ (.tail _ (.tail _ (.tail _ (.tail _ (.tail _ (.tail _ (.head _))))))), Nat.ne_of_lt u8⟩, List.forall_mem_cons.mpr ⟨⟨.tail _ (.tail _ (.tail _ (.tail _ (.tail _ (.tail _ (.tail _ (.tail _ (.head _)))))))), Nat.ne_of_lt u9⟩, List.forall_mem_cons.mpr ⟨⟨.tail _ (.tail _ (.tail _ (.tail _ (.tail _ (.tail _ (.tail _ (.tail _ (.tail _ (.head _))))))))), Nat.ne_of_lt u10⟩, fun p hp => ⟨mem_mS1 (x := ⟨x.ln, x.k, tl', tk2, ee'⟩) (.tail _ (.tail _ hp)), hJ p hp⟩⟩⟩⟩⟩⟩⟩⟩⟩⟩⟩)
end
section
open PySem.Builtin PySem.Builtin.Str
variable {w : World} {p : Program} {loose : List PySem.Str} {mean : ExcName → Option Value} {mg mb : Locals} {h₀ : Heap} {L : Addr} {m : Locals} {news : Led} {s : Shared} {Q E : Value → Shared → Prop}
noncomputable def b2i (b : Bool) : Int := if b then 1 else 0
noncomputable def pendL (b : Bool) : List Nat := if b then [10] else []
noncomputable def NX (w : World) (A : Around) (T : PySem.Str) (h₀ : Heap) (L : Addr) (led : MS → Led) (J : Addr) (s : Shared) : Prop :=
  ∀ (Q : Option Value → Shared → Prop) (E : Value → Shared → Prop) (x : MS) (c : Nat) (rest : List Nat) (h : Heap) (tk : Nat) (m' : Locals), T.cps.toList.drop x.k = c :: rest → Fr h₀ L h m' → News h₀ L h (led x) →
    (∀ h' tk' t' (x' : MS), T.cps.toList.drop x'.k = rest → x'.ln = x.ln + up10 c → Fr h₀ L h' m' → News h₀ L h' (led x') → Q (some (.str ⟨#[c]⟩ t')) { s with heap := h', toks := tk' }) → wpAny (model prg w) A (pyNext (.ref J)) Q E { s with heap := h, toks := tk }
noncomputable def CEnd (h₀ : Heap) (L : Addr) (mOf : List Nat → Tok → Option Value → Locals) (led : Led) (tok : List Nat) (s : Shared) (f : Flow) (s' : Shared) : Prop :=
  (f = .next ∨ f = .cont) ∧ ∃ tt ch h' tk', s' = { s with heap := h', toks := tk' } ∧ Fr h₀ L h' (mOf tok tt ch) ∧ News h₀ L h' led
theorem CEnd.mk {mOf : List Nat → Tok → Option Value → Locals} {led : Led} {tok : List Nat} {h' : Heap} {tk' : Nat} {tt : Tok} {ch : Option Value} (F : Fr h₀ L h' (mOf tok tt ch)) (N : News h₀ L h' led) : CEnd h₀ L mOf led tok s .next { s with heap := h', toks := tk' } := ⟨.inl rfl, tt, ch, h', tk', rfl, F, N⟩
theorem CEnd.mkc {mOf : List Nat → Tok → Option Value → Locals} {led : Led} {tok : List Nat} {h' : Heap} {tk' : Nat} {tt : Tok} {ch : Option Value} (F : Fr h₀ L h' (mOf tok tt ch)) (N : News h₀ L h' led) : CEnd h₀ L mOf led tok s .cont { s with heap := h', toks := tk' } := ⟨.inr rfl, tt, ch, h', tk', rfl, F, N⟩
noncomputable def RetEnd (R : Result → Shared → Prop) (f : Flow) (s' : Shared) : Prop := match f with
  | .ret v => R (.ok (.ret v)) s'
  | _ => False
section
variable {A : Around} {T : PySem.Str} {J : Addr} {target : PySem.Expr} {body : List Stmt} {env : Env} {R : Result → Shared → Prop} {led : MS → Led}
theorem turn_go {mOf : List Nat → Tok → Option Value → Locals} {c n : Nat} {rest tok : List Nat} {x : MS} {h : Heap} {tk : Nat} {m' : Locals} (nx : NX w A T h₀ L led J s) (hx : T.cps.toList.drop x.k = c :: rest) (F : Fr h₀ L h m') (N : News h₀ L h (led x))
    (turn : ∀ (x' : MS) h tk t, T.cps.toList.drop x'.k = rest → x'.ln = x.ln + up10 c → Fr h₀ L h m' → News h₀ L h (led x') →
      wpAny (model prg w) A (letOwnedTupleGo target (.ref J) (.str ⟨#[c]⟩ t)) (fun _ s₁' => wpAny (model prg w) A (assign target env (.str ⟨#[c]⟩ t)) (fun _ s₂ => wpAny (model prg w) A (execs body env) (CEnd h₀ L mOf (led x') tok { s with heap := h, toks := tk }) NoE s₂) NoE s₁') NoE { s with heap := h, toks := tk })
    (k : ∀ (x' : MS) h tk tt ch, T.cps.toList.drop x'.k = rest → x'.ln = x.ln + up10 c → Fr h₀ L h (mOf tok tt ch) → News h₀ L h (led x') → Turns prg w A target (.ref J) body [] env R n { s with heap := h, toks := tk }) :
    Turns prg w A target (.ref J) body [] env R (n + 1) { s with heap := h, toks := tk } := by
  refine Turns.go (nx _ _ x c rest h tk m' hx F N fun h' tk' t' x' hx' hl F' N' => ?_)
  refine no_E (wpAny_mono (turn x' h' tk' t' hx' hl F' N') (fun _ s₁ q => ?_) fun _ _ x => x)
  refine no_E (wpAny_mono q (fun _ s₂ q => ?_) fun _ _ x => x)
  refine no_E (wpAny_mono q (fun f s₃ q => ?_) fun _ _ x => x)
  obtain ⟨hf, tt, ch, h3, tk3, rfl, F3, N3⟩ := q
  have r := k x' h3 tk3 tt ch hx' hl F3 N3
  rcases hf with rfl | rfl
  · exact r
  · exact r
theorem turn_last {c n : Nat} {rest : List Nat} {x : MS} {h : Heap} {tk : Nat} {m' : Locals} (nx : NX w A T h₀ L led J s) (hx : T.cps.toList.drop x.k = c :: rest) (F : Fr h₀ L h m') (N : News h₀ L h (led x))
    (turn : ∀ (x' : MS) h tk t, T.cps.toList.drop x'.k = rest → x'.ln = x.ln + up10 c → Fr h₀ L h m' → News h₀ L h (led x') →
      wpAny (model prg w) A (letOwnedTupleGo target (.ref J) (.str ⟨#[c]⟩ t)) (fun _ s₁' => wpAny (model prg w) A (assign target env (.str ⟨#[c]⟩ t)) (fun _ s₂ => wpAny (model prg w) A (execs body env) (RetEnd R) NoE s₂) NoE s₁') NoE { s with heap := h, toks := tk }) :
    Turns prg w A target (.ref J) body [] env R (n + 1) { s with heap := h, toks := tk } := by
  refine Turns.go (nx _ _ x c rest h tk m' hx F N fun h' tk' t' x' hx' hl F' N' => ?_)
  refine no_E (wpAny_mono (turn x' h' tk' t' hx' hl F' N') (fun _ s₁ q => ?_) fun _ _ x => x)
  refine no_E (wpAny_mono q (fun _ s₂ q => ?_) fun _ _ x => x)
  refine no_E (wpAny_mono q (fun f s₃ q => ?_) fun _ _ x => x)
  cases f with
  | ret v => exact q
  | _ => exact q.elim
theorem up10_let {c : Nat} (h : c ∈ letters) : up10 c = 0 := if_neg (let_facts c h).1
theorem turns_ci (B : Nat) {mOf : List Nat → Tok → Option Value → Locals} {e : Nat} {rest : List Nat} (nx : NX w A T h₀ L led J s)
    (turn : ∀ tok c tt ch (x' : MS) h tk t, c ∈ letters → tok.length < B → Fr h₀ L h (mOf tok tt ch) → News h₀ L h (led x') →
      wpAny (model prg w) A (letOwnedTupleGo target (.ref J) (.str ⟨#[c]⟩ t)) (fun _ s₁' => wpAny (model prg w) A (assign target env (.str ⟨#[c]⟩ t)) (fun _ s₂ => wpAny (model prg w) A (execs body env) (CEnd h₀ L mOf (led x') (tok ++ [c]) { s with heap := h, toks := tk }) NoE s₂) NoE s₁') NoE { s with heap := h, toks := tk }) :
    ∀ (ls tok : List Nat) (tt : Tok) (ch : Option Value) (x : MS) (h : Heap) (tk : Nat), (∀ c ∈ ls, c ∈ letters) → tok.length + ls.length ≤ B → T.cps.toList.drop x.k = ls ++ e :: rest → Fr h₀ L h (mOf tok tt ch) → News h₀ L h (led x) →
    (last : ∀ tt ch (x' : MS) h tk t, T.cps.toList.drop x'.k = rest → x'.ln = x.ln + up10 e → Fr h₀ L h (mOf (tok ++ ls) tt ch) → News h₀ L h (led x') →
      wpAny (model prg w) A (letOwnedTupleGo target (.ref J) (.str ⟨#[e]⟩ t)) (fun _ s₁' => wpAny (model prg w) A (assign target env (.str ⟨#[e]⟩ t)) (fun _ s₂ => wpAny (model prg w) A (execs body env) (RetEnd R) NoE s₂) NoE s₁') NoE { s with heap := h, toks := tk }) →
    Turns prg w A target (.ref J) body [] env R (ls.length + 1) { s with heap := h, toks := tk } := by
  intro ls
  induction ls with
  | nil => exact fun tok tt ch x h tk _ _ hx F N last => turn_last nx hx F N fun x' h tk t hx' hl F N => last tt ch x' h tk t hx' hl (by rw [List.append_nil]; exact F) N
  | cons c ls ih =>
    intro tok tt ch x h tk hls hb hx F N last
    rw [List.length_cons] at hb
    exact turn_go (mOf := mOf) (tok := tok ++ [c]) nx hx F N (fun x' h tk t hx' hl F N => turn tok c tt ch x' h tk t (hls c (.head _)) (by lia) F N) fun x' h tk tt ch hx' hl F N =>
      ih (tok ++ [c]) tt ch x' h tk (fun y hy => hls y (.tail _ hy)) (by rw [List.length_append, List.length_singleton]; lia) hx' F N fun tt ch x2 h tk t hx2 hl2 F N =>
        last tt ch x2 h tk t hx2 (by rw [hl2, hl, up10_let (hls c (.head _)), Int.add_zero]) (by rw [List.append_assoc] at F; exact F) N
end
section
variable {A : Around} {T : PySem.Str} {J : Addr} {target iter : PySem.Expr} {body : List Stmt} {env : Env} {led : MS → Led}
theorem For_gt {mOf : List Nat → Tok → Option Value → Locals} {pos : Pos} {Q : Flow → Shared → Prop} (pd : Bool) (cs : List Nat) (x : MS) {tt : Tok} {ch : Option Value} (hx : T.cps.toList.drop x.k = pendL pd ++ cs) (F : Fr h₀ L s.heap (mOf [] tt ch)) (N : News h₀ L s.heap (led x)) (nx : NX w A T h₀ L led J s)
    (hd : ∀ (R' : Value → Shared → Prop), (∀ tk', R' (.ref J) { s with toks := tk' }) → wpAny (model prg w) A (eval iter env) (fun v s₁ => wpAny (model prg w) A (pyIter v) R' E s₁) E s)
    (pend : ∀ (x' : MS) tt ch h tk t, Fr h₀ L h (mOf [] tt ch) → News h₀ L h (led x') →
      wpAny (model prg w) A (letOwnedTupleGo target (.ref J) (.str ⟨#[10]⟩ t)) (fun _ s₁' => wpAny (model prg w) A (assign target env (.str ⟨#[10]⟩ t)) (fun _ s₂ => wpAny (model prg w) A (execs body env) (CEnd h₀ L mOf (led x') [] { s with heap := h, toks := tk }) NoE s₂) NoE s₁') NoE { s with heap := h, toks := tk })
    (key : NX w A T h₀ L led J s → ∀ (x' : MS) tt ch h tk, T.cps.toList.drop x'.k = cs → x'.ln = x.ln + b2i pd → Fr h₀ L h (mOf [] tt ch) → News h₀ L h (led x') →
      Turns prg w A target (.ref J) body [] env (fun r s' => match r with | .ok f => Q f s' | .error e => cameBackBy (model prg w) A env E e s') 2 { s with heap := h, toks := tk })
    (hs : ∀ x, foldedSetIterable iter env x = pure x := by intro _; rfl) : wpAny (model prg w) A (exec (.For target iter body [] pos) env) Q E s := by
  cases pd with
  | false => exact For_T 2 (hd _ fun tk' => key nx x tt ch s.heap tk' hx (by show _ = x.ln + 0; rw [Int.add_zero]) F N) hs
  | true => exact For_T 3 (hd _ fun tk' => turn_go (mOf := mOf) (tok := []) nx hx F N (fun x' h tk t _ _ F N => pend x' tt ch h tk t F N) fun x' h tk tt ch hx' hl F N => key nx x' tt ch h tk hx' hl F N) hs
end
inductive Tok1 : List Nat → List Nat → List Nat → Int → Prop
  | bare (a : Nat) (ls rest : List Nat) : a ∈ letters → (∀ c ∈ ls, c ∈ letters) → ls.length ≤ 6 → Tok1 (a :: (ls ++ 10 :: rest)) (a :: ls) rest 1
  | quote (ls rest : List Nat) : (∀ c ∈ ls, c ∈ letters) → ls.length ≤ 6 → Tok1 (34 :: (ls ++ 34 :: rest)) ls rest 0
  | fin : Tok1 [] [] [] 0
theorem ws_nl : (!(occurrences wsStr (⟨#[10]⟩ : PySem.Str) 0 wsStr.length 1).isEmpty) = true := by decide +kernel
theorem ws_q : (!(occurrences wsStr (⟨#[34]⟩ : PySem.Str) 0 wsStr.length 1).isEmpty) = false := by decide +kernel
theorem q_q : ((⟨#[34]⟩ : PySem.Str) == PySem.Str.ofString "\"") = true := by decide +kernel
theorem iadd_tok {prog : Program} {A : Around} {l : List Nat} {c : Nat} {t u : Tok} {Q : Value → Shared → Prop} (hl : l.length < 8) (h : ∀ t' tk, Q (.str ⟨(l ++ [c]).toArray⟩ t') { s with toks := tk }) : wpAny (model prog w) A (inplaceOp .Add (.str ⟨l.toArray⟩ t) (.str ⟨#[c]⟩ u)) Q E s :=
  PyProof.Rows.iadd_str (fun t' tk => by
    have e : (⟨l.toArray⟩ : PySem.Str) ++ ⟨#[c]⟩ = ⟨(l ++ [c]).toArray⟩ := by
      show (⟨l.toArray ++ #[c]⟩ : PySem.Str) = _
      simp
    rw [e]; exact h t' tk) (by rw [sizeLine_eq]; show l.toArray.size + 1 ≤ _; simp; lia)
end
section
open PySem.Builtin PySem.Builtin.Str
variable {w : World} {p : Program} {loose : List PySem.Str} {mean : ExcName → Option Value} {mg mb : Locals} {h₀ : Heap} {L : Addr} {m : Locals} {news : Led} {s : Shared} {Q E : Value → Shared → Prop}
theorem gt_g (M : MA) (O : MO) (T : PySem.Str) (I : MIs M O T) (ct : MT) (x : MS) (pd : Bool) (cs tok rest : List Nat) (up : Int) (hx : T.cps.toList.drop x.k = pendL pd ++ cs) (W : Tok1 cs tok rest up) (hsz : T.length ≤ sizeLine)
    (C : CodeHd h₀ 181 177) (hA : ∀ p ∈ news, p.1 ≠ M.at_) (hD : ∀ p ∈ news, p.1 ≠ M.d)
    (hret : ∀ h' tk' t' (x' : MS), T.cps.toList.drop x'.k = rest → x'.ln = x.ln + b2i pd + up → Fr h₀ L h' m → News h₀ L h' (mS w M O ct x' news) → Q (.str ⟨tok.toArray⟩ t') { s with heap := h', toks := tk' }) :
      Spec w p loose mean mg mb 30 200 (.ref 78) [.ref M.x] h₀ L m (mS w M O ct x news) s Q E := by
  intro dp un gd cn cs' a' ccd cl outer A₀ base hB F X N T' hk hd hu
  dsimp only [mS, mLed2] at N ⊢
  refine wpAny_call ?_
  have wnl := ws_nl
  have wq := ws_q
  have qq := q_q
  k_dflt (refine' code_def ?k1 ?k2 ?k3 ?k4 ?k5 ?kA ?kF ?kK ?k6 ?k7 ?k8 ?k9 ?kB ?_ ?c2 ?c3 ?c4 ?c5; (case kA => exact rfl); (case kF => exact rfl); (case kK => first | assumption | exact rfl); (case k1 => k_asm); (case k2 => k_asm); (case k3 => k_asm); (case k4 => k_asm); (case k5 => k_asm); (case k6 => k_is); (case k7 => k_is); (case k8 => k_room); (case k9 => first | exact BindsTo.of_eq rfl | exact binds_K (by k_in) rfl (by k_is) rfl rfl rfl); (case c5 => decide); (case kB => exact locs rfl); (case c2 => exact rfl); (case c3 => exact rfl); (case c4 => exact rfl); k_whole; intro g' L' h' FG' F' N' B' X' T'; (try dsimp only); (try k_lift B'); (try k_fold))
  have C2 := CodeHd.keeps C (Fr.keep (h₀ := h₀) (L := L) (m := m) (by assumption))
  have nd9 : Mine.NoDup [PySem.Str.ofString "self", PySem.Str.ofString "token", PySem.Str.ofString "fiter", PySem.Str.ofString "ch"] := Mine.NoDup.of (by decide +kernel)
  have F0 : Fr _ _ _ (Mine.look [PySem.Str.ofString "self", PySem.Str.ofString "token", PySem.Str.ofString "fiter", PySem.Str.ofString "ch"] [some (.ref M.x), none, none, none]) := Mine.start_P (bs := [(PySem.Str.ofString "self", .ref M.x)]) (ns' := [PySem.Str.ofString "token", PySem.Str.ofString "fiter", PySem.Str.ofString "ch"]) (k := 3) F'
  clear F'
  refine Mine.gen_tk ?_; intro tk0
  (repeat' (first | (k_unfold; (try dsimp only)) | (k_end; kc_close) | ((with_reducible show wpAny _ _ (exec (Stmt.For _ _ _ _ _) _) _ _ _); refine of_stop9 ?_) | ((with_reducible show wpAny _ _ (call (Value.builtin "iter") [Value.ref _, Value.str _ _]) _ _ _); k_dflt (refine' Mine.ci_make ?k1 ?k2 ?k3 ?_; (case k1 => k_asm); (case k2 => k_asm); (case k3 => k_mem); k_whole); intro I' h' F' N' l1; (try k_lt l1)) | ((with_reducible show wpAny _ _ (eval (Expr.Name _ _) _) _ _ _); k_dflt (refine Mine.name_P (by with_reducible assumption) (by assumption) (by with_reducible (repeat (first | exact Mine.At.here | apply Mine.At.there))) (by exact Eq.refl (some (some _))) ?_; k_whole)) | ((with_reducible show wpAny _ _ (storeName _ _ _) _ _ _); k_dflt (refine Mine.store_P (by with_reducible assumption) (by k_asm) (by assumption) (by with_reducible (repeat (first | exact Mine.At.here | apply Mine.At.there))) (by rfl) ?_; k_whole; intro h' F' N'; (try dsimp only [List.set] at F'); (try k_sweep))) | walk1 | (dsimp only; walk1) | (leave1; (try dsimp only)) | fail "no step"))
  unfold Stop9
  rename_i q _ _ lq _ _
  have hpq := lq.1
  have hqJ := l1.1
  have hJn : ∀ p ∈ news, p.1 ≠ I' := fun p hp => Nat.ne_of_lt (allLt_mem (rest_lt l1.2.2.2.2) p hp)
  clear lq l1
  k_dflt (refine Mine.For_gt (J := I') (led := fun x => (I', ciObj q _) :: (q, methodObj (.ref 71) (.ref M.x)) :: mS w M O ct x news) (mOf := fun tok tt ch => look [PySem.Str.ofString "self", PySem.Str.ofString "token", PySem.Str.ofString "fiter", PySem.Str.ofString "ch"] [some (.ref M.x), some (.str ⟨tok.toArray⟩ tt), some (.ref I'), ch]) pd cs x hx (by assumption) (by assumption) ?nx ?hd ?pend ?key)
  case nx =>
    intro Q E x c rest h tk m' hx F N k
    k_dflt (refine' next_g (s := { s with heap := h, toks := tk }) M O T I I' q _ ct x c rest hx hsz C2 hpq hqJ hA hD ?_ _ _ _ _ _ _ _ _ _ _ _ ?c1 ?c2 ?c3 ?c4 ?c5 ?c6 ?c7 ?c8; (case c1 => k_asm); (case c2 => k_asm); (case c3 => k_asm); (case c4 => k_asm); (case c5 => k_asm); (case c6 => first | assumption | exact rfl); (case c7 => k_room); (case c8 => k_room))
    exact k
  case hd =>
    intro R' k
    (repeat' ((first | (k_unfold; (try dsimp only)) | (k_end; kc_close) | ((with_reducible show wpAny _ _ (eval (Expr.Name _ _) _) _ _ _); k_dflt (refine Mine.name_P (by with_reducible assumption) (by assumption) (by with_reducible (repeat (first | exact Mine.At.here | apply Mine.At.there))) (by exact Eq.refl (some (some _))) ?_; k_whole)) | ((with_reducible show wpAny _ _ (pyIter (Value.ref _)) _ _ _); k_dflt (refine' Mine.ci_self ?k1 ?k3 ?_; (case k1 => k_asm); (case k3 => k_mem); k_whole); (try dsimp only)) | walk1 | (dsimp only; walk1) | (leave1; (try dsimp only)) | fail "no step") <;> (try dsimp only)))
    exact k _
  case pend =>
    intro x' tt ch h tk t F N
    dsimp only [mS, mLed2] at N
    (repeat' ((first | (k_unfold; (try dsimp only)) | (k_end; kc_close) | ((with_reducible show wpAny _ _ (compareOp CmpOp.In (Value.str _ _) (Value.str _ _)) _ _ _); first | (k_dflt (refine' Mine.ch_in false ?e ?_; (case e => with_reducible assumption); k_whole)) | (k_dflt (refine' Mine.ch_in true ?e ?_; (case e => with_reducible assumption); k_whole))) | ((with_reducible show wpAny _ _ (letOwnedTupleGo _ _ _) _ _ _); first | (with_reducible refine Mine.ownName_T ?_) | (k_dflt (refine Mine.ownList_T (by k_asm) (by k_mem) (by assumption) ?_; k_whole))) | ((with_reducible show wpAny _ _ (eval (Expr.Name _ _) _) _ _ _); k_dflt (refine Mine.name_P (by with_reducible assumption) (by assumption) (by with_reducible (repeat (first | exact Mine.At.here | apply Mine.At.there))) (by exact Eq.refl (some (some _))) ?_; k_whole)) | ((with_reducible show wpAny _ _ (storeName _ _ _) _ _ _); k_dflt (refine Mine.store_P (by with_reducible assumption) (by k_asm) (by assumption) (by with_reducible (repeat (first | exact Mine.At.here | apply Mine.At.there))) (by rfl) ?_; k_whole; intro h' F' N'; (try dsimp only [List.set] at F'); (try k_sweep))) | walk1 | (dsimp only; walk1) | (leave1; (try dsimp only)) | fail "no step") <;> (try dsimp only)))
    (try dsimp only)
    exact CEnd.mkc (by assumption) (by assumption)
  case key =>
    intro nx x1 tt ch h tk hx1 hl1 F N
    cases W with
    | fin =>
      refine Turns.go ?_
      k_dflt (refine' next_end (s := { s with heap := h, toks := tk }) M O T I I' q _ ct x1 hx1 hsz C2 hpq hqJ hA hD hJn ?_ _ _ _ _ _ _ _ _ _ _ _ ?c1 ?c2 ?c3 ?c4 ?c5 ?c6 ?c7 ?c8; (case c1 => k_asm); (case c2 => k_asm); (case c3 => k_asm); (case c4 => k_asm); (case c5 => k_asm); (case c6 => first | assumption | exact rfl); (case c7 => k_room); (case c8 => k_room))
      intro h' tk' x' hl' hk' F' N'
      (try dsimp only)
      (repeat' ((first | (k_unfold; (try dsimp only)) | (k_end; kc_close) | ((with_reducible show wpAny _ _ (eval (Expr.Name _ _) _) _ _ _); k_dflt (refine Mine.name_P (by with_reducible assumption) (by assumption) (by with_reducible (repeat (first | exact Mine.At.here | apply Mine.At.there))) (by exact Eq.refl (some (some _))) ?_; k_whole)) | walk1 | (dsimp only; walk1) | (leave1; (try dsimp only)) | fail "no step") <;> (try dsimp only)))
      rename (Fr h₀ L _ m) => zF
      rename (News h₀ L _ _) => zN
      exact hret _ _ _ x' (by rw [hk']; exact hx1) (by rw [hl', hl1, Int.add_zero]) zF zN
    | bare a ls _ ha hls h6 =>
      refine turn_last nx hx1 F N fun x2 h tk t hx2 hl2 F N => ?_
      obtain ⟨fa1, fa2, fa3, fa4⟩ := let_facts a ha
      dsimp only [mS, mLed2] at N
      (repeat' ((first | (k_unfold; (try dsimp only)) | (k_end; kc_close) | ((with_reducible show wpAny _ _ (exec (Stmt.For _ _ _ _ _) _) _ _ _); refine of_stop9 ?_) | ((with_reducible show wpAny _ _ (compareOp CmpOp.In (Value.str _ _) (Value.str _ _)) _ _ _); first | (k_dflt (refine' Mine.ch_in false ?e ?_; (case e => with_reducible assumption); k_whole)) | (k_dflt (refine' Mine.ch_in true ?e ?_; (case e => with_reducible assumption); k_whole))) | ((with_reducible show wpAny _ _ (compareOp CmpOp.Eq (Value.str _ _) (Value.str _ _)) _ _ _); first | (k_dflt (refine' Mine.ch_eq false ?e ?_; (case e => with_reducible assumption); k_whole)) | (k_dflt (refine' Mine.ch_eq true ?e ?_; (case e => with_reducible assumption); k_whole))) | ((with_reducible show wpAny _ _ (inplaceOp Operator.Add (Value.str _ _) (Value.str _ _)) _ _ _); k_dflt (refine Mine.iadd_tok (by first | with_reducible assumption | exact Nat.le_of_ble_eq_true rfl) ?_; k_whole); intro t' tk') | ((with_reducible show wpAny _ _ (letOwnedTupleGo _ _ _) _ _ _); first | (with_reducible refine Mine.ownName_T ?_) | (k_dflt (refine Mine.ownList_T (by k_asm) (by k_mem) (by assumption) ?_; k_whole))) | ((with_reducible show wpAny _ _ (eval (Expr.Name _ _) _) _ _ _); k_dflt (refine Mine.name_P (by with_reducible assumption) (by assumption) (by with_reducible (repeat (first | exact Mine.At.here | apply Mine.At.there))) (by exact Eq.refl (some (some _))) ?_; k_whole)) | ((with_reducible show wpAny _ _ (storeName _ _ _) _ _ _); k_dflt (refine Mine.store_P (by with_reducible assumption) (by k_asm) (by assumption) (by with_reducible (repeat (first | exact Mine.At.here | apply Mine.At.there))) (by rfl) ?_; k_whole; intro h' F' N'; (try dsimp only [List.set] at F'); (try k_sweep))) | walk1 | (dsimp only; walk1) | (leave1; (try dsimp only)) | fail "no step") <;> (try dsimp only)))
      unfold Stop9
      refine For_T (ls.length + 1) ?_
      (repeat' ((first | (k_unfold; (try dsimp only)) | (k_end; kc_close) | ((with_reducible show wpAny _ _ (eval (Expr.Name _ _) _) _ _ _); k_dflt (refine Mine.name_P (by with_reducible assumption) (by assumption) (by with_reducible (repeat (first | exact Mine.At.here | apply Mine.At.there))) (by exact Eq.refl (some (some _))) ?_; k_whole)) | ((with_reducible show wpAny _ _ (pyIter (Value.ref _)) _ _ _); k_dflt (refine' Mine.ci_self ?k1 ?k3 ?_; (case k1 => k_asm); (case k3 => k_mem); k_whole); (try dsimp only)) | walk1 | (dsimp only; walk1) | (leave1; (try dsimp only)) | fail "no step") <;> (try dsimp only)))
      refine turns_ci (led := fun x => (I', ciObj q _) :: (q, methodObj (.ref 71) (.ref M.x)) :: mS w M O ct x news) (mOf := fun tok tt ch => look [PySem.Str.ofString "self", PySem.Str.ofString "token", PySem.Str.ofString "fiter", PySem.Str.ofString "ch"] [some (.ref M.x), some (.str ⟨tok.toArray⟩ tt), some (.ref I'), ch]) 7 nx ?_ ls [a] _ _ x2 _ _ hls (by rw [List.length_singleton]; lia) hx2 (by assumption) (by assumption) ?_
      · intro tok c tt ch x' h tk t hc hb F N
        have hb8 := Nat.lt_succ_of_lt hb
        obtain ⟨fa1, fa2, fa3, fa4⟩ := let_facts c hc
        dsimp only [mS, mLed2] at N
        (repeat' ((first | (k_unfold; (try dsimp only)) | (k_end; kc_close) | ((with_reducible show wpAny _ _ (compareOp CmpOp.In (Value.str _ _) (Value.str _ _)) _ _ _); first | (k_dflt (refine' Mine.ch_in false ?e ?_; (case e => with_reducible assumption); k_whole)) | (k_dflt (refine' Mine.ch_in true ?e ?_; (case e => with_reducible assumption); k_whole))) | ((with_reducible show wpAny _ _ (compareOp CmpOp.Eq (Value.str _ _) (Value.str _ _)) _ _ _); first | (k_dflt (refine' Mine.ch_eq false ?e ?_; (case e => with_reducible assumption); k_whole)) | (k_dflt (refine' Mine.ch_eq true ?e ?_; (case e => with_reducible assumption); k_whole))) | ((with_reducible show wpAny _ _ (inplaceOp Operator.Add (Value.str _ _) (Value.str _ _)) _ _ _); k_dflt (refine Mine.iadd_tok (by first | with_reducible assumption | exact Nat.le_of_ble_eq_true rfl) ?_; k_whole); intro t' tk') | ((with_reducible show wpAny _ _ (letOwnedTupleGo _ _ _) _ _ _); first | (with_reducible refine Mine.ownName_T ?_) | (k_dflt (refine Mine.ownList_T (by k_asm) (by k_mem) (by assumption) ?_; k_whole))) | ((with_reducible show wpAny _ _ (eval (Expr.Name _ _) _) _ _ _); k_dflt (refine Mine.name_P (by with_reducible assumption) (by assumption) (by with_reducible (repeat (first | exact Mine.At.here | apply Mine.At.there))) (by exact Eq.refl (some (some _))) ?_; k_whole)) | ((with_reducible show wpAny _ _ (storeName _ _ _) _ _ _); k_dflt (refine Mine.store_P (by with_reducible assumption) (by k_asm) (by assumption) (by with_reducible (repeat (first | exact Mine.At.here | apply Mine.At.there))) (by rfl) ?_; k_whole; intro h' F' N'; (try dsimp only [List.set] at F'); (try k_sweep))) | walk1 | (dsimp only; walk1) | (leave1; (try dsimp only)) | fail "no step") <;> (try dsimp only)))
        exact CEnd.mk (by assumption) (by assumption)
      · intro tt ch x' h tk t hx' hl' F N
        dsimp only [mS, mLed2] at N
        (repeat' ((first | (k_unfold; (try dsimp only)) | (k_end; kc_close) | ((with_reducible show wpAny _ _ (compareOp CmpOp.In (Value.str _ _) (Value.str _ _)) _ _ _); first | (k_dflt (refine' Mine.ch_in false ?e ?_; (case e => with_reducible assumption); k_whole)) | (k_dflt (refine' Mine.ch_in true ?e ?_; (case e => with_reducible assumption); k_whole))) | ((with_reducible show wpAny _ _ (compareOp CmpOp.Eq (Value.str _ _) (Value.str _ _)) _ _ _); first | (k_dflt (refine' Mine.ch_eq false ?e ?_; (case e => with_reducible assumption); k_whole)) | (k_dflt (refine' Mine.ch_eq true ?e ?_; (case e => with_reducible assumption); k_whole))) | ((with_reducible show wpAny _ _ (letOwnedTupleGo _ _ _) _ _ _); first | (with_reducible refine Mine.ownName_T ?_) | (k_dflt (refine Mine.ownList_T (by k_asm) (by k_mem) (by assumption) ?_; k_whole))) | ((with_reducible show wpAny _ _ (eval (Expr.Name _ _) _) _ _ _); k_dflt (refine Mine.name_P (by with_reducible assumption) (by assumption) (by with_reducible (repeat (first | exact Mine.At.here | apply Mine.At.there))) (by exact Eq.refl (some (some _))) ?_; k_whole)) | ((with_reducible show wpAny _ _ (storeName _ _ _) _ _ _); k_dflt (refine Mine.store_P (by with_reducible assumption) (by k_asm) (by assumption) (by with_reducible (repeat (first | exact Mine.At.here | apply Mine.At.there))) (by rfl) ?_; k_whole; intro h' F' N'; (try dsimp only [List.set] at F'); (try k_sweep))) | walk1 | (dsimp only; walk1) | (leave1; (try dsimp only)) | fail "no step") <;> (try dsimp only)))
        dsimp only [RetEnd]
        (repeat' ((first | (k_unfold; (try dsimp only)) | (k_end; kc_close) | ((with_reducible show wpAny _ _ (eval (Expr.Name _ _) _) _ _ _); k_dflt (refine Mine.name_P (by with_reducible assumption) (by assumption) (by with_reducible (repeat (first | exact Mine.At.here | apply Mine.At.there))) (by exact Eq.refl (some (some _))) ?_; k_whole)) | walk1 | (dsimp only; walk1) | (leave1; (try dsimp only)) | fail "no step") <;> (try dsimp only)))
        rename (Fr h₀ L _ m) => zF
        rename (News h₀ L _ _) => zN
        refine hret _ _ _ x' hx' (by rw [hl', hl2, hl1, up10_let ha, Int.add_zero]; rfl) zF (cb_drop zN ?_)
        exact fun p hp => .tail _ (.tail _ hp)
    | quote _ _ hls h6 =>
      refine turn_last nx hx1 F N fun x2 h tk t hx2 hl2 F N => ?_
      dsimp only [mS, mLed2] at N
      (repeat' ((first | (k_unfold; (try dsimp only)) | (k_end; kc_close) | ((with_reducible show wpAny _ _ (exec (Stmt.For _ _ _ _ _) _) _ _ _); refine of_stop9 ?_) | ((with_reducible show wpAny _ _ (compareOp CmpOp.In (Value.str _ _) (Value.str _ _)) _ _ _); first | (k_dflt (refine' Mine.ch_in false ?e ?_; (case e => with_reducible assumption); k_whole)) | (k_dflt (refine' Mine.ch_in true ?e ?_; (case e => with_reducible assumption); k_whole))) | ((with_reducible show wpAny _ _ (compareOp CmpOp.Eq (Value.str _ _) (Value.str _ _)) _ _ _); first | (k_dflt (refine' Mine.ch_eq false ?e ?_; (case e => with_reducible assumption); k_whole)) | (k_dflt (refine' Mine.ch_eq true ?e ?_; (case e => with_reducible assumption); k_whole))) | ((with_reducible show wpAny _ _ (letOwnedTupleGo _ _ _) _ _ _); first | (with_reducible refine Mine.ownName_T ?_) | (k_dflt (refine Mine.ownList_T (by k_asm) (by k_mem) (by assumption) ?_; k_whole))) | ((with_reducible show wpAny _ _ (eval (Expr.Name _ _) _) _ _ _); k_dflt (refine Mine.name_P (by with_reducible assumption) (by assumption) (by with_reducible (repeat (first | exact Mine.At.here | apply Mine.At.there))) (by exact Eq.refl (some (some _))) ?_; k_whole)) | ((with_reducible show wpAny _ _ (storeName _ _ _) _ _ _); k_dflt (refine Mine.store_P (by with_reducible assumption) (by k_asm) (by assumption) (by with_reducible (repeat (first | exact Mine.At.here | apply Mine.At.there))) (by rfl) ?_; k_whole; intro h' F' N'; (try dsimp only [List.set] at F'); (try k_sweep))) | walk1 | (dsimp only; walk1) | (leave1; (try dsimp only)) | fail "no step") <;> (try dsimp only)))
      unfold Stop9
      refine For_T (tok.length + 1) ?_
      (repeat' ((first | (k_unfold; (try dsimp only)) | (k_end; kc_close) | ((with_reducible show wpAny _ _ (eval (Expr.Name _ _) _) _ _ _); k_dflt (refine Mine.name_P (by with_reducible assumption) (by assumption) (by with_reducible (repeat (first | exact Mine.At.here | apply Mine.At.there))) (by exact Eq.refl (some (some _))) ?_; k_whole)) | ((with_reducible show wpAny _ _ (pyIter (Value.ref _)) _ _ _); k_dflt (refine' Mine.ci_self ?k1 ?k3 ?_; (case k1 => k_asm); (case k3 => k_mem); k_whole); (try dsimp only)) | walk1 | (dsimp only; walk1) | (leave1; (try dsimp only)) | fail "no step") <;> (try dsimp only)))
      refine turns_ci (led := fun x => (I', ciObj q _) :: (q, methodObj (.ref 71) (.ref M.x)) :: mS w M O ct x news) (mOf := fun tok tt ch => look [PySem.Str.ofString "self", PySem.Str.ofString "token", PySem.Str.ofString "fiter", PySem.Str.ofString "ch"] [some (.ref M.x), some (.str ⟨tok.toArray⟩ tt), some (.ref I'), ch]) 7 nx ?_ tok [] _ _ x2 _ _ hls (by rw [List.length_nil]; lia) hx2 (by assumption) (by assumption) ?_
      · intro tok c tt ch x' h tk t hc hb F N
        have hb8 := Nat.lt_succ_of_lt hb
        obtain ⟨fa1, fa2, fa3, fa4⟩ := let_facts c hc
        dsimp only [mS, mLed2] at N
        (repeat' ((first | (k_unfold; (try dsimp only)) | (k_end; kc_close) | ((with_reducible show wpAny _ _ (compareOp CmpOp.Eq (Value.str _ _) (Value.str _ _)) _ _ _); first | (k_dflt (refine' Mine.ch_eq false ?e ?_; (case e => with_reducible assumption); k_whole)) | (k_dflt (refine' Mine.ch_eq true ?e ?_; (case e => with_reducible assumption); k_whole))) | ((with_reducible show wpAny _ _ (inplaceOp Operator.Add (Value.str _ _) (Value.str _ _)) _ _ _); k_dflt (refine Mine.iadd_tok (by first | with_reducible assumption | exact Nat.le_of_ble_eq_true rfl) ?_; k_whole); intro t' tk') | ((with_reducible show wpAny _ _ (letOwnedTupleGo _ _ _) _ _ _); first | (with_reducible refine Mine.ownName_T ?_) | (k_dflt (refine Mine.ownList_T (by k_asm) (by k_mem) (by assumption) ?_; k_whole))) | ((with_reducible show wpAny _ _ (eval (Expr.Name _ _) _) _ _ _); k_dflt (refine Mine.name_P (by with_reducible assumption) (by assumption) (by with_reducible (repeat (first | exact Mine.At.here | apply Mine.At.there))) (by exact Eq.refl (some (some _))) ?_; k_whole)) | ((with_reducible show wpAny _ _ (storeName _ _ _) _ _ _); k_dflt (refine Mine.store_P (by with_reducible assumption) (by k_asm) (by assumption) (by with_reducible (repeat (first | exact Mine.At.here | apply Mine.At.there))) (by rfl) ?_; k_whole; intro h' F' N'; (try dsimp only [List.set] at F'); (try k_sweep))) | walk1 | (dsimp only; walk1) | (leave1; (try dsimp only)) | fail "no step") <;> (try dsimp only)))
        exact CEnd.mk (by assumption) (by assumption)
      · intro tt ch x' h tk t hx' hl' F N
        dsimp only [mS, mLed2] at N
        (repeat' ((first | (k_unfold; (try dsimp only)) | (k_end; kc_close) | ((with_reducible show wpAny _ _ (compareOp CmpOp.Eq (Value.str _ _) (Value.str _ _)) _ _ _); first | (k_dflt (refine' Mine.ch_eq false ?e ?_; (case e => with_reducible assumption); k_whole)) | (k_dflt (refine' Mine.ch_eq true ?e ?_; (case e => with_reducible assumption); k_whole))) | ((with_reducible show wpAny _ _ (letOwnedTupleGo _ _ _) _ _ _); first | (with_reducible refine Mine.ownName_T ?_) | (k_dflt (refine Mine.ownList_T (by k_asm) (by k_mem) (by assumption) ?_; k_whole))) | ((with_reducible show wpAny _ _ (eval (Expr.Name _ _) _) _ _ _); k_dflt (refine Mine.name_P (by with_reducible assumption) (by assumption) (by with_reducible (repeat (first | exact Mine.At.here | apply Mine.At.there))) (by exact Eq.refl (some (some _))) ?_; k_whole)) | ((with_reducible show wpAny _ _ (storeName _ _ _) _ _ _); k_dflt (refine Mine.store_P (by with_reducible assumption) (by k_asm) (by assumption) (by with_reducible (repeat (first | exact Mine.At.here | apply Mine.At.there))) (by rfl) ?_; k_whole; intro h' F' N'; (try dsimp only [List.set] at F'); (try k_sweep))) | walk1 | (dsimp only; walk1) | (leave1; (try dsimp only)) | fail "no step") <;> (try dsimp only)))
        dsimp only [RetEnd]
        (repeat' ((first | (k_unfold; (try dsimp only)) | (k_end; kc_close) | ((with_reducible show wpAny _ _ (eval (Expr.Name _ _) _) _ _ _); k_dflt (refine Mine.name_P (by with_reducible assumption) (by assumption) (by with_reducible (repeat (first | exact Mine.At.here | apply Mine.At.there))) (by exact Eq.refl (some (some _))) ?_; k_whole)) | walk1 | (dsimp only; walk1) | (leave1; (try dsimp only)) | fail "no step") <;> (try dsimp only)))
        rename (Fr h₀ L _ m) => zF
        rename (News h₀ L _ _) => zN
        refine hret _ _ _ x' hx' (by rw [hl', hl2, hl1, show up10 34 = 0 from rfl, Int.add_zero]) zF (cb_drop zN ?_)
        exact fun p hp => .tail _ (.tail _ hp)
end
section
open LCg LCt
section
variable {prog : Program} {w : World} {A : Around} {E : Value → Shared → Prop} {s : Shared} {h₀ : Heap} {L : Addr} {m : Locals} {env : Env} {news : Led}
theorem compT_fix {ct elt : PySem.Expr} {x : PySem.Str} {scope : Scope} {cl : List (PySem.Str × Addr)} {S : Led → Prop} {P : Nat → Value → Prop} {Fin : List Value → Led → Prop} {n : Nat} (J : Nat → List Value → Prop)
    (hS : S news) (j0 : J 0 []) (fin : ∀ ys, J n ys → Fin ys news)
    (turn : ∀ i ys v I oI C oC D m₂ h tk, i < n → J i ys → P i v → NsObj oC m₂ → m₂ x = some v → Fr h₀ L h m → News h₀ L h ((I, oI) :: (C, oC) :: (D, lst ys) :: news) → Off3 I C D news → ((@Ne Nat I C) ∧ (@Ne Nat I D) ∧ (@Ne Nat C D)) →
      wpAny (model prog w) A (isTrue ct (compEnvC scope cl C env) (eval ct (compEnvC scope cl C env))) (fun ok s' => if ok = true then
        wpAny (model prog w) A (eval elt (compEnvC scope cl C env)) (CTurn h₀ L m { s with heap := h, toks := tk } ((I, oI) :: (C, oC) :: (D, lst ys) :: news) (fun y => J (i + 1) (ys ++ [y]))) NoE s'
        else CTurn h₀ L m { s with heap := h, toks := tk } ((I, oI) :: (C, oC) :: (D, lst ys) :: news) (fun _ => J (i + 1) ys) Value.none s') NoE { s with heap := h, toks := tk }) :
    CompRestT prog w A h₀ L m env ct elt x scope cl s S P Fin n 0 [] news := by
  have key : ∀ k i ys, i + k = n → J i ys → CompRestT prog w A h₀ L m env ct elt x scope cl s S P Fin k i ys news := by
    intro k
    induction k with
    | zero => intro i ys hi j; have e : i = n := by lia
              subst e; exact fin ys j
    | succ k ih =>
      intro i ys hi j v I oI C oC D m₂ h tk E' hP hC hx F N off ne
      refine no_E (wpAny_mono (turn i ys v I oI C oC D m₂ h tk (by lia) j hP hC hx F N off ne) (fun ok s₂ q => ?_) fun _ _ x => x)
      cases ok with
      | true =>
        rw [if_pos rfl] at q ⊢
        refine no_E (wpAny_mono q (fun y s₂ q => ?_) fun _ _ x => x)
        obtain ⟨h', tk', rfl, F', N', j'⟩ := q
        exact ⟨h', tk', news, rfl, F', N', off, hS, ih (i + 1) (ys ++ [y]) (by lia) j'⟩
      | false =>
        rw [if_neg (by decide)] at q ⊢
        obtain ⟨h', tk', rfl, F', N', j'⟩ := q
        exact ⟨h', tk', news, rfl, F', N', off, hS, ih (i + 1) ys (by lia) j'⟩
  exact key n 0 [] (by lia) j0
inductive StrL : List Value → List Nat → Prop
  | nil : StrL [] []
  | cons (c : Nat) (t : Tok) {vs : List Value} {cs : List Nat} : StrL vs cs → StrL (.str ⟨#[c]⟩ t :: vs) (c :: cs)
theorem StrL.snoc {c : Nat} {t : Tok} {vs : List Value} {cs : List Nat} (S : StrL vs cs) : StrL (vs ++ [.str ⟨#[c]⟩ t]) (cs ++ [c]) := by
  induction S with
  | nil => exact .cons c t .nil
  | cons a u _ ih => exact .cons a u ih
theorem StrL.at_ {vs : List Value} {cs : List Nat} (S : StrL vs cs) : ∀ (i : Nat) (v : Value), vs[i]? = some v → ∃ c t, cs[i]? = some c ∧ v = .str ⟨#[c]⟩ t := by
  induction S with
  | nil => intro i v h; cases h
  | cons a u _ ih =>
    intro i v e
    cases i with
    | zero => exact ⟨a, u, rfl, (Option.some.inj e).symm⟩
    | succ i => exact ih i v e
theorem StrL.len {vs : List Value} {cs : List Nat} (S : StrL vs cs) : vs.length = cs.length := by
  induction S with
  | nil => rfl
  | cons _ _ _ ih => exact congrArg Nat.succ ih
theorem src_list {elt : PySem.Expr} {x : PySem.Str} {scope : Scope} {cl : List (PySem.Str × Addr)} {Fin : Shared → List Value → Led → Prop} {ax : Addr} {vs : List Value} {k : Nat} {s₁ : Shared}
    (hh : A.handled = none) (F : Fr h₀ L s₁.heap m) (N : News h₀ L s₁.heap news) (hm : (ax, W.listOf vs.toArray k) ∈ news) (hz : vs.length ≤ 1000)
    (h : ∀ g, CompRest prog w A h₀ L m env elt x scope cl { s₁ with heap := g } (SrcAt h₀ ax vs.toArray) (fun i v => vs[i]? = some v) (Fin { s₁ with heap := g }) vs.length 0 [] news) :
    CompSrc prog w A h₀ L m env elt x scope cl Fin (.ref ax) s₁ :=
  CompSrc.ledger hh F N hm (by rw [sizeLine_eq]; simp; lia) (fun g => by
    have e : (fun (i : Nat) v => vs.toArray[i]? = some v) = fun i v => vs[i]? = some v := by funext i v; simp
    rw [e]
    exact h g)
end
structure WD where
  (q h : Bool) (a b : Nat) (r g : Int)
structure WD.Ok (x : WD) : Prop where
  la : isLet x.a
  lb : isLet x.b
  ra : (lowOf x.a : Int) - 97 = x.r
  gb : (lowOf x.b : Int) - 97 = x.g
  r7 : 0 ≤ x.r ∧ x.r ≤ 7
  g7 : 0 ≤ x.g ∧ x.g ≤ 7
noncomputable def WD.tok (x : WD) : List Nat := if x.h then [x.a, 173, x.b] else [x.a, x.b]
noncomputable def WD.txt (x : WD) : List Nat := if x.q then 34 :: (x.tok ++ [34]) else x.tok ++ [10]
noncomputable def wText : List WD → List Nat
  | [] => []
  | x :: r => x.txt ++ (pendL x.q ++ wText r)
theorem WD.tok1 {x : WD} (k : x.Ok) (rest : List Nat) : Tok1 (x.txt ++ rest) x.tok rest (1 - b2i x.q) := by
  have h1 := k.la.mem
  have h2 := k.lb.mem
  have h3 : 173 ∈ letters := by decide
  obtain ⟨q, h, a, b, r, g⟩ := x
  have l2 : ∀ c ∈ [a, b], c ∈ letters := List.forall_mem_cons.mpr ⟨h1, List.forall_mem_cons.mpr ⟨h2, List.forall_mem_nil _⟩⟩
  have l3 : ∀ c ∈ [a, 173, b], c ∈ letters := List.forall_mem_cons.mpr ⟨h1, List.forall_mem_cons.mpr ⟨h3, List.forall_mem_cons.mpr ⟨h2, List.forall_mem_nil _⟩⟩⟩
  cases q <;> cases h
  · exact Tok1.bare a [b] rest h1 (fun c hc => l2 c (.tail _ hc)) (Nat.le_of_ble_eq_true rfl)
  · exact Tok1.bare a [173, b] rest h1 (fun c hc => l3 c (.tail _ hc)) (Nat.le_of_ble_eq_true rfl)
  · exact Tok1.quote [a, b] rest l2 (Nat.le_of_ble_eq_true rfl)
  · exact Tok1.quote [a, 173, b] rest l3 (Nat.le_of_ble_eq_true rfl)
theorem WD.signs {x : WD} (k : x.Ok) : ∀ c ∈ x.tok, c = 173 ∨ isLet c := by
  obtain ⟨q, h, a, b, r, g⟩ := x
  cases h
  · exact List.forall_mem_cons.mpr ⟨.inr k.la, List.forall_mem_cons.mpr ⟨.inr k.lb, List.forall_mem_nil _⟩⟩
  · exact List.forall_mem_cons.mpr ⟨.inr k.la, List.forall_mem_cons.mpr ⟨.inl rfl, List.forall_mem_cons.mpr ⟨.inr k.lb, List.forall_mem_nil _⟩⟩⟩
noncomputable def keptL (cs : List Nat) : List Nat := (cs.filter fun c => !(c == 173)).map lowOf
theorem WD.kept {x : WD} (k : x.Ok) : keptL x.tok = [lowOf x.a, lowOf x.b] := by
  have h1 := k.la.ne
  have h2 := k.lb.ne
  obtain ⟨q, h, a, b, r, g⟩ := x
  dsimp only at h1 h2
  cases h <;> simp [keptL, WD.tok, h1, h2]
theorem keptL_snoc (cs : List Nat) (c : Nat) : keptL (cs ++ [c]) = if (!(c == 173)) = true then keptL cs ++ [lowOf c] else keptL cs := by
  unfold keptL
  rw [List.filter_append, List.map_append]
  cases h : (c == 173) <;> simp [h]
theorem at1 {P : Addr → Prop} {a : Addr} {o : Obj} {l : Led} (h : ∀ p ∈ l, P p.1) (m : (a, o) ∈ l) : P a := h _ m
theorem mS_all {w : World} {M : MA} {O : MO} {c : MT} {x x' : MS} {news news' : Led} {P : Addr → Prop} (h : ∀ p ∈ mS w M O c x news, P p.1) (h2 : ∀ p ∈ news', P p.1) : ∀ p ∈ mS w M O c x' news', P p.1 := by
  rw [show mS w M O c x news = mS1 w M O c x news from led_eq ..] at h
  rw [show mS w M O c x' news' = mS1 w M O c x' news' from led_eq ..]
  exact List.forall_mem_cons.mpr ⟨at1 h (.head _), List.forall_mem_cons.mpr ⟨at1 h (.tail _ (.head _)), List.forall_mem_cons.mpr ⟨at1 h (.tail _ (.tail _ (.head _))), List.forall_mem_cons.mpr ⟨at1 h (.tail _ (.tail _ (.tail _ (.head _)))), List.forall_mem_cons.mpr ⟨at1 h (.tail _ (.tail _ (.tail _ (.tail _ (.head _))))), List.forall_mem_cons.mpr ⟨at1 h (.tail _ (.tail _ (.tail _ (.tail _ (.tail _ (.head _)))))), List.forall_mem_cons.mpr ⟨at1 h (.tail _ (.tail _ (.tail _ (.tail _ (.tail _ (.tail _ (.head _))))))), List.forall_mem_cons.mpr ⟨at1 h (.tail _ (.tail _ (.tail _ (.tail _ (.tail _ (.tail _ (.tail _ (.head _)))))))), List.forall_mem_cons.mpr ⟨at1 h (.tail _ (.tail _ (.tail _ (.tail _ (.tail _ (.tail _ (.tail _ (.tail _ (.head _))))))))), List.forall_mem_cons.mpr ⟨at1 h (.tail _ (.tail _ (.tail _ (.tail _ (.tail _ (.tail _ (.tail _ (.tail _ (.tail _ (.head _)))))))))), h2⟩⟩⟩⟩⟩⟩⟩⟩⟩⟩
theorem mem_mS {w : World} {M : MA} {O : MO} {c : MT} {x : MS} {news : Led} {q : Addr × Obj} (h : q ∈ news) : q ∈ mS w M O c x news := by
  rw [show mS w M O c x news = mS1 w M O c x news from led_eq ..]
  exact mem_mS1 h
theorem mS_mono {w : World} {M : MA} {O : MO} {c : MT} {x : MS} {news news' : Led} (h : ∀ p ∈ news, p ∈ news') : ∀ p ∈ mS w M O c x news, p ∈ mS w M O c x news' := by
  rw [show mS w M O c x news = mS1 w M O c x news from led_eq .., show mS w M O c x news' = mS1 w M O c x news' from led_eq ..]
  exact List.forall_mem_cons.mpr ⟨.head _, List.forall_mem_cons.mpr ⟨.tail _ (.head _), List.forall_mem_cons.mpr ⟨.tail _ (.tail _ (.head _)), List.forall_mem_cons.mpr ⟨.tail _ (.tail _ (.tail _ (.head _))), List.forall_mem_cons.mpr ⟨.tail _ (.tail _ (.tail _ (.tail _ (.head _)))), List.forall_mem_cons.mpr ⟨.tail _ (.tail _ (.tail _ (.tail _ (.tail _ (.head _))))), List.forall_mem_cons.mpr ⟨.tail _ (.tail _ (.tail _ (.tail _ (.tail _ (.tail _ (.head _)))))), List.forall_mem_cons.mpr ⟨.tail _ (.tail _ (.tail _ (.tail _ (.tail _ (.tail _ (.tail _ (.head _))))))), List.forall_mem_cons.mpr ⟨.tail _ (.tail _ (.tail _ (.tail _ (.tail _ (.tail _ (.tail _ (.tail _ (.head _)))))))), List.forall_mem_cons.mpr ⟨.tail _ (.tail _ (.tail _ (.tail _ (.tail _ (.tail _ (.tail _ (.tail _ (.tail _ (.head _))))))))), fun p hp => mem_mS1 (h p hp)⟩⟩⟩⟩⟩⟩⟩⟩⟩⟩
end
section
open LCg LCt
variable {w : World} {p : Program} {loose : List PySem.Str} {mean : ExcName → Option Value} {mg mb : Locals} {h₀ : Heap} {L : Addr} {m : Locals} {news : Led} {s : Shared} {Q E : Value → Shared → Prop}
theorem led_in2 {M : MA} {O : MO} {ct : MT} {x : MS} {news : Led} {h : Heap} {A B : Addr × Obj} (N : News h₀ L h (A :: B :: mS w M O ct x news)) : News h₀ L h (mS w M O ct x (A :: B :: news)) := led_in [A, B] N
theorem led_out2 {M : MA} {O : MO} {ct : MT} {x : MS} {news : Led} {h : Heap} {A B : Addr × Obj} (N : News h₀ L h (mS w M O ct x (A :: B :: news))) : News h₀ L h (A :: B :: mS w M O ct x news) := led_out [A, B] N
theorem at_mem {M : MA} {O : MO} {ct : MT} {x : MS} {news : Led} : (M.at_, listOf #[.int (x.k : Int) x.tk] x.ee) ∈ mS w M O ct x news := by
  rw [show mS w M O ct x news = mS1 w M O ct x news from led_eq ..]
  exact .tail _ (.tail _ (.tail _ (.tail _ (.tail _ (.tail _ (.tail _ (.head _)))))))
theorem d_mem {M : MA} {O : MO} {ct : MT} {x : MS} {news : Led} : ∃ o, (M.d, o) ∈ mS w M O ct x news := ⟨_, .tail _ (.tail _ (.head _))⟩
theorem mS_cons {M : MA} {O : MO} {ct : MT} {x : MS} {a : Addr × Obj} {news : Led} : ∀ p ∈ mS w M O ct x (a :: news), p ∈ a :: mS w M O ct x news := by
  rw [show mS w M O ct x news = mS1 w M O ct x news from led_eq .., show mS w M O ct x (a :: news) = mS1 w M O ct x (a :: news) from led_eq ..]
  exact List.forall_mem_cons.mpr ⟨.tail _ (.head _), List.forall_mem_cons.mpr ⟨.tail _ (.tail _ (.head _)), List.forall_mem_cons.mpr ⟨.tail _ (.tail _ (.tail _ (.head _))), List.forall_mem_cons.mpr ⟨.tail _ (.tail _ (.tail _ (.tail _ (.head _)))), List.forall_mem_cons.mpr ⟨.tail _ (.tail _ (.tail _ (.tail _ (.tail _ (.head _))))), List.forall_mem_cons.mpr ⟨.tail _ (.tail _ (.tail _ (.tail _ (.tail _ (.tail _ (.head _)))))), List.forall_mem_cons.mpr ⟨.tail _ (.tail _ (.tail _ (.tail _ (.tail _ (.tail _ (.tail _ (.head _))))))), List.forall_mem_cons.mpr ⟨.tail _ (.tail _ (.tail _ (.tail _ (.tail _ (.tail _ (.tail _ (.tail _ (.head _)))))))), List.forall_mem_cons.mpr ⟨.tail _ (.tail _ (.tail _ (.tail _ (.tail _ (.tail _ (.tail _ (.tail _ (.tail _ (.head _))))))))), List.forall_mem_cons.mpr ⟨.tail _ (.tail _ (.tail _ (.tail _ (.tail _ (.tail _ (.tail _ (.tail _ (.tail _ (.tail _ (.head _)))))))))), List.forall_mem_cons.mpr ⟨.head _, fun p hp => .tail _ (mem_mS1 hp)⟩⟩⟩⟩⟩⟩⟩⟩⟩⟩⟩
theorem WD.tok_len (x : WD) : x.tok.length ≤ sizeLine := by
  rw [sizeLine_eq]
  unfold WD.tok
  split <;> exact Nat.le_of_ble_eq_true rfl
theorem ints_two {vs : List Value} {a b : Int} (h : IntsAre vs [a, b]) : ∃ t u, vs = [.int a t, .int b u] := by
  cases h with
  | cons _ t h => cases h with
    | cons _ u h => cases h; exact ⟨t, u, rfl⟩
theorem takeS {α : Type} {l : List α} {i : Nat} {x : α} (h : l[i]? = some x) : l.take (i + 1) = l.take i ++ [x] := by rw [List.take_add_one, h]; rfl
structure LSt where
  x : MS
  ps : List Addr
  ep : Nat
  rest : Led
  pd : Bool
  vi : Option Value
  vw : Option Value
  vl : Option Value
structure DaysP (led : Led) (ps : List Addr) (ds : List WD) : Prop where
  len : ps.length = ds.length
  day : ∀ (i : Nat) (q : Addr), ps[i]? = some q → ∃ d tr tg, ds[i]? = some d ∧ (q, tupOf [.int d.r tr, .int d.g tg]) ∈ led
theorem DaysP.snoc {led : Led} {ps : List Addr} {ds : List WD} {q : Addr} {d : WD} {tr tg : Tok} (h : DaysP led ps ds) (hq : (q, tupOf [.int d.r tr, .int d.g tg]) ∈ led) : DaysP led (ps ++ [q]) (ds ++ [d]) := by
  refine ⟨by rw [List.length_append, List.length_append, h.len]; rfl, fun i q' e => ?_⟩
  rcases Nat.lt_or_ge i ps.length with hi | hi
  · rw [List.getElem?_append_left hi] at e
    obtain ⟨d', a, b, e1, e2⟩ := h.day i q' e
    exact ⟨d', a, b, by rw [List.getElem?_append_left (by rw [← h.len]; exact hi)]; exact e1, e2⟩
  · rw [List.getElem?_append_right hi] at e
    have h0 : i - ps.length = 0 := by
      rcases Nat.eq_zero_or_pos (i - ps.length) with z | z
      · exact z
      · rw [List.getElem?_eq_none (by rw [List.length_singleton]; exact z)] at e; cases e
    rw [h0] at e
    have := Option.some.inj e
    subst this
    exact ⟨d, tr, tg, by rw [List.getElem?_append_right (by rw [← h.len]; exact hi), ← h.len, h0]; rfl, hq⟩
theorem DaysP.mono {led led' : Led} {ps : List Addr} {ds : List WD} (h : DaysP led ps ds) (hs : ∀ p ∈ led, p ∈ led') : DaysP led' ps ds :=
  ⟨h.len, fun i q e => by obtain ⟨d, a, b, e1, e2⟩ := h.day i q e; exact ⟨d, a, b, e1, hs _ e2⟩⟩
theorem read_g (M : MA) (O : MO) (T : PySem.Str) (I : MIs M O T) (ct : MT) (x : MS) (ds : List WD) (tn : Tok) (hx : T.cps.toList.drop x.k = wText ds) (hok : ∀ d ∈ ds, d.Ok) (hn : ds.length ≤ 4) (hsz : T.length ≤ sizeLine)
    (C : CodeHd h₀ 181 177) (hA : ∀ p ∈ news, p.1 ≠ M.at_) (hD : ∀ p ∈ news, p.1 ≠ M.d)
    (hret : ∀ h' tk' l e ps (x' : MS) pd' rest, T.cps.toList.drop x'.k = pendL pd' → x'.ln + b2i pd' = x.ln + (ds.length : Int) → DaysP rest ps ds → (∀ p ∈ news, p ∈ rest) → (l, ({ cls := .type "list", data := .seq (ps.map Value.ref).toArray e } : Obj)) ∈ rest → (∀ p ∈ rest, p.1 ≠ M.at_ ∧ p.1 ≠ M.d) →
      Fr h₀ L h' m → News h₀ L h' (mS w M O ct x' rest) → Q (.ref l) { s with heap := h', toks := tk' }) :
      Spec w p loose mean mg mb 40 300 (.ref 187) [.ref M.x, .int (ds.length : Int) tn] h₀ L m (mS w M O ct x news) s Q E := by
  intro dp un gd cn cs' a' ccd cl outer A₀ base hB F X N T' hk hd hu
  refine wpAny_call ?_
  k_dflt (refine' code_def ?k1 ?k2 ?k3 ?k4 ?k5 ?kA ?kF ?kK ?k6 ?k7 ?k8 ?k9 ?kB ?_ ?c2 ?c3 ?c4 ?c5; (case kA => exact rfl); (case kF => exact rfl); (case kK => first | assumption | exact rfl); (case k1 => k_asm); (case k2 => k_asm); (case k3 => k_asm); (case k4 => k_asm); (case k5 => k_asm); (case k6 => k_is); (case k7 => k_is); (case k8 => k_room); (case k9 => first | exact BindsTo.of_eq rfl | exact binds_K (by k_in) rfl (by k_is) rfl rfl rfl); (case c5 => decide); (case kB => exact locs rfl); (case c2 => exact rfl); (case c3 => exact rfl); (case c4 => exact rfl); k_whole; intro g' L' h' FG' F' N' B' X' T'; (try dsimp only); (try k_lift B'); (try k_fold))
  refine no_E ?_
  have C2 := CodeHd.keeps C (Fr.keep (h₀ := h₀) (L := L) (m := m) (by assumption))
  have nd9 : Mine.NoDup [PySem.Str.ofString "n", PySem.Str.ofString "machine", PySem.Str.ofString "days", PySem.Str.ofString "i", PySem.Str.ofString "word", PySem.Str.ofString "letters"] := Mine.NoDup.of (by decide +kernel)
  have F0 : Fr _ _ _ (Mine.look [PySem.Str.ofString "n", PySem.Str.ofString "machine", PySem.Str.ofString "days", PySem.Str.ofString "i", PySem.Str.ofString "word", PySem.Str.ofString "letters"] [some (.int (ds.length : Int) tn), some (.ref M.x), none, none, none, none]) := Mine.start_P (bs := [(PySem.Str.ofString "machine", .ref M.x), (PySem.Str.ofString "n", .int (ds.length : Int) tn)]) (ns' := [PySem.Str.ofString "days", PySem.Str.ofString "i", PySem.Str.ofString "word", PySem.Str.ofString "letters"]) (k := 4) F'
  clear F'
  refine Mine.gen_tk ?_; intro tk0
  (repeat' (first | (k_unfold; (try dsimp only)) | (k_end; kc_close) | ((with_reducible show wpAny _ _ (exec (Stmt.For _ _ _ _ _) _) _ _ _); refine of_stop9 ?_) | ((with_reducible show wpAny _ _ (eval (Expr.Name _ _) _) _ _ _); k_dflt (refine Mine.name_P (by with_reducible assumption) (by assumption) (by with_reducible (repeat (first | exact Mine.At.here | apply Mine.At.there))) (by exact Eq.refl (some (some _))) ?_; k_whole)) | ((with_reducible show wpAny _ _ (storeName _ _ _) _ _ _); k_dflt (refine Mine.store_P (by with_reducible assumption) (by k_asm) (by assumption) (by with_reducible (repeat (first | exact Mine.At.here | apply Mine.At.there))) (by rfl) ?_; k_whole; intro h' F' N'; (try dsimp only [List.set] at F'); (try k_sweep))) | walk1 | (dsimp only; walk1) | (leave1; (try dsimp only)) | fail "no step"))
  unfold Stop9
  rename_i Dl _ lD _
  have lDa := allLt_mem lD
  clear lD
  refine For_range (h₀ := g') (L := L') ds.length (fun y : LSt => look [PySem.Str.ofString "n", PySem.Str.ofString "machine", PySem.Str.ofString "days", PySem.Str.ofString "i", PySem.Str.ofString "word", PySem.Str.ofString "letters"] [some (.int (ds.length : Int) tn), some (.ref M.x), some (.ref Dl), y.vi, y.vw, y.vl])
    (fun y => (Dl, refsObj y.ps y.ep) :: mS w M O ct y.x y.rest)
    (fun i y => T.cps.toList.drop y.x.k = pendL y.pd ++ wText (ds.drop i) ∧ y.x.ln + b2i y.pd = x.ln + (i : Int) ∧ DaysP y.rest y.ps (ds.take i) ∧ (∀ p ∈ news, p ∈ y.rest) ∧ (∀ p ∈ y.rest, p.1 ≠ M.at_ ∧ p.1 ≠ M.d) ∧ ∀ p ∈ mS w M O ct y.x y.rest, p.1 ≠ Dl) (by rfl) (by lia) ?_ ?_ ?_
  · (repeat' ((first | (k_unfold; (try dsimp only)) | (k_end; kc_close) | ((with_reducible show wpAny _ _ (eval (Expr.Name _ _) _) _ _ _); k_dflt (refine Mine.name_P (by with_reducible assumption) (by assumption) (by with_reducible (repeat (first | exact Mine.At.here | apply Mine.At.there))) (by exact Eq.refl (some (some _))) ?_; k_whole)) | ((with_reducible show wpAny _ _ (storeName _ _ _) _ _ _); k_dflt (refine Mine.store_P (by with_reducible assumption) (by k_asm) (by assumption) (by with_reducible (repeat (first | exact Mine.At.here | apply Mine.At.there))) (by rfl) ?_; k_whole; intro h' F' N'; (try dsimp only [List.set] at F'); (try k_sweep))) | walk1 | (dsimp only; walk1) | (leave1; (try dsimp only)) | fail "no step") <;> (try dsimp only)))
    refine RStart.mk (by assumption) rfl ⟨x, [], 0, news, false, _, _, _⟩ ⟨hx, by show x.ln + 0 = x.ln + 0; rfl, ⟨rfl, fun i q e => by cases e⟩, fun p h => h, fun p hp => ⟨hA p hp, hD p hp⟩, fun p hp => Nat.ne_of_lt (lDa p hp)⟩ (by assumption) (by assumption)
  · intro i y t h tk Ix o hi J F' N' neI
    obtain ⟨j1, j2, j3, j4, j5, j6⟩ := J
    obtain ⟨wd, hwd⟩ : ∃ wd, ds[i]? = some wd := ⟨_, List.getElem?_eq_getElem hi⟩
    have hwk := hok wd (List.mem_of_getElem? hwd)
    have dr : ds.drop i = wd :: ds.drop (i + 1) := by
      rw [List.drop_eq_getElem_cons hi]
      rw [List.getElem?_eq_getElem hi] at hwd
      rw [Option.some.inj hwd]
    rw [dr] at j1
    have nI : ∀ p ∈ mS w M O ct y.x y.rest, p.1 ≠ Ix := fun p hp => neI p (.tail _ hp)
    have nDI : @Ne Nat Dl Ix := neI _ (.head _)
    have oA : ∀ p ∈ (Ix, o) :: (Dl, refsObj y.ps y.ep) :: y.rest, p.1 ≠ M.at_ := List.forall_mem_cons.mpr ⟨(nI _ at_mem).symm, List.forall_mem_cons.mpr ⟨(j6 _ at_mem).symm, fun p hp => (j5 p hp).1⟩⟩
    have oD : ∀ p ∈ (Ix, o) :: (Dl, refsObj y.ps y.ep) :: y.rest, p.1 ≠ M.d := List.forall_mem_cons.mpr ⟨(nI _ d_mem.choose_spec).symm, List.forall_mem_cons.mpr ⟨(j6 _ d_mem.choose_spec).symm, fun p hp => (j5 p hp).2⟩⟩
    dsimp only [mS, mLed2] at N'
    (repeat' ((first | (k_unfold; (try dsimp only)) | (k_end; kc_close) | ((with_reducible show wpAny _ _ (call (Value.ref 78) _) _ _ _); refine of_stop9 ?_) | ((with_reducible show wpAny _ _ (letOwnedTupleGo _ _ _) _ _ _); first | (with_reducible refine Mine.ownName_T ?_) | (k_dflt (refine Mine.ownList_T (by k_asm) (by k_mem) (by assumption) ?_; k_whole))) | ((with_reducible show wpAny _ _ (eval (Expr.Name _ _) _) _ _ _); k_dflt (refine Mine.name_P (by with_reducible assumption) (by assumption) (by with_reducible (repeat (first | exact Mine.At.here | apply Mine.At.there))) (by exact Eq.refl (some (some _))) ?_; k_whole)) | ((with_reducible show wpAny _ _ (storeName _ _ _) _ _ _); k_dflt (refine Mine.store_P (by with_reducible assumption) (by k_asm) (by assumption) (by with_reducible (repeat (first | exact Mine.At.here | apply Mine.At.there))) (by rfl) ?_; k_whole; intro h' F' N'; (try dsimp only [List.set] at F'); (try k_sweep))) | walk1 | (dsimp only; walk1) | (leave1; (try dsimp only)) | fail "no step") <;> (try dsimp only)))
    unfold Stop9
    k_dflt (refine' Mine.gt_g M O T I ct y.x y.pd _ _ _ _ j1 (WD.tok1 hwk _) hsz C2 oA oD ?_ _ _ _ _ _ _ _ _ _ _ _ ?c1 ?c2 ?c3 ?c4 ?c5 ?c6 ?c7 ?c8; (case c1 => k_asm); (case c2 => k_asm); (case c3 => k_asm); (case c4 => exact Mine.led_in2 (by with_reducible assumption)); (case c5 => k_asm); (case c6 => first | assumption | exact rfl); (case c7 => k_room); (case c8 => k_room); k_whole)
    intro h9 tk9 t9 x9 hx9 hl9 F9 N9
    replace N9 := led_out2 N9
    have nI9 := mS_all (P := fun a => a ≠ Ix) (x' := x9) nI (fun p hp => nI p (mem_mS hp))
    have nD9 := mS_all (P := fun a => a ≠ Dl) (x' := x9) j6 (fun p hp => j6 p (mem_mS hp))
    generalize hZ : mS w M O ct x9 y.rest = Z at N9 nI9 nD9
    (try dsimp only)
    (repeat' ((first | (k_unfold; (try dsimp only)) | (k_end; kc_close) | ((with_reducible show wpAny _ _ (exec (Stmt.Assign _ (PySem.Expr.ListComp _ _ _ _) _) _) _ _ _); refine of_stop9 ?_) | ((with_reducible show wpAny _ _ (eval (Expr.Name _ _) _) _ _ _); k_dflt (refine Mine.name_P (by with_reducible assumption) (by assumption) (by with_reducible (repeat (first | exact Mine.At.here | apply Mine.At.there))) (by exact Eq.refl (some (some _))) ?_; k_whole)) | ((with_reducible show wpAny _ _ (storeName _ _ _) _ _ _); k_dflt (refine Mine.store_P (by with_reducible assumption) (by k_asm) (by assumption) (by with_reducible (repeat (first | exact Mine.At.here | apply Mine.At.there))) (by rfl) ?_; k_whole; intro h' F' N'; (try dsimp only [List.set] at F'); (try k_sweep))) | walk1 | (dsimp only; walk1) | (leave1; (try dsimp only)) | fail "no step") <;> (try dsimp only)))
    unfold Stop9
    k_dflt (refine Mine.Assign_S (F₀ := by k_asm) (by rfl) (by with_unfolding_all rfl) (by with_unfolding_all rfl) (by decide) (by rfl) (by decide) (by rfl) (by rfl) (by rfl) ?_)
    (repeat' ((first | (k_unfold; (try dsimp only)) | (k_end; kc_close) | ((with_reducible show wpAny _ _ (eval (Expr.Name _ _) _) _ _ _); k_dflt (refine Mine.name_P (by with_reducible assumption) (by assumption) (by with_reducible (repeat (first | exact Mine.At.here | apply Mine.At.there))) (by exact Eq.refl (some (some _))) ?_; k_whole)) | walk1 | (dsimp only; walk1) | (leave1; (try dsimp only)) | fail "no step") <;> (try dsimp only)))
    refine SrcST.mk (cs := wd.tok) (by rfl) (by assumption) (by with_reducible assumption) (WD.tok_len wd) fun g => ?_
    refine compT_fix (fun i ys => StrL ys (keptL (wd.tok.take i))) trivial .nil (fun ys hy => ?_) ?_
    · intro D1 h1 tk1 F1 N1 off1
      rw [List.take_length, WD.kept hwk] at hy
      replace F1 := Fr.conv F1 (look_set (v := .ref D1) (.there (.there (.there (.there (.there .here))))) nd9 rfl)
      dsimp only [List.set] at F1
      have N2 : News g' L' h1 ((D1, W.listOf ys.toArray ys.length) :: (Ix, o) :: (Dl, refsObj y.ps y.ep) :: Z) := N1
      (try dsimp only)
      (repeat' ((first | (k_unfold; (try dsimp only)) | (k_end; kc_close) | ((with_reducible show wpAny _ _ (eval (PySem.Expr.ListComp _ _ _ _) _) _ _ _); k_dflt (refine LCg.ListComp_U (F₀ := by k_asm) (by rfl) (by decide) (by rfl) (by decide) (by rfl) ?_)) | ((with_reducible show LCg.CompSrc _ _ _ _ _ _ _ _ _ _ _ _ (Value.ref _) _); refine of_stop9 ?_) | ((with_reducible show wpAny _ _ (eval (Expr.Name _ _) _) _ _ _); k_dflt (refine Mine.name_P (by with_reducible assumption) (by assumption) (by with_reducible (repeat (first | exact Mine.At.here | apply Mine.At.there))) (by exact Eq.refl (some (some _))) ?_; k_whole)) | ((with_reducible show wpAny _ _ (storeName _ _ _) _ _ _); k_dflt (refine Mine.store_P (by with_reducible assumption) (by k_asm) (by assumption) (by with_reducible (repeat (first | exact Mine.At.here | apply Mine.At.there))) (by rfl) ?_; k_whole; intro h' F' N'; (try dsimp only [List.set] at F'); (try k_sweep))) | walk1 | (dsimp only; walk1) | (leave1; (try dsimp only)) | fail "no step") <;> (try dsimp only)))
      unfold Stop9
      k_dflt (refine Mine.src_list (by rfl) (by assumption) N2 (.head _) (by rw [hy.len]; exact Nat.le_of_ble_eq_true rfl) ?_; intro g2)
      refine comp_fix (fun i ys => IntsAre ys (([lowOf wd.a, lowOf wd.b].map fun c : Nat => (c : Int) - 97).take i)) (.inr ⟨_, .head _, rfl, _, rfl⟩) .nil (fun ys2 hy2 => ?_) ?_
      · intro D2 h2 tk2 F2 N2 off2
        have e2 : ([lowOf wd.a, lowOf wd.b].map fun c : Nat => (c : Int) - 97).take ys.length = [wd.r, wd.g] := by
          rw [hy.len]
          show [(lowOf wd.a : Int) - 97, (lowOf wd.b : Int) - 97] = _
          rw [hwk.ra, hwk.gb]
        rw [e2] at hy2
        obtain ⟨tr, tg, rfl⟩ := ints_two hy2
        have N3 : News g' L' h2 ((D2, W.listOf #[.int wd.r tr, .int wd.g tg] 2) :: (Ix, o) :: (Dl, refsObj y.ps y.ep) :: Z) := cb_drop N2 (List.forall_mem_cons.mpr ⟨.head _, List.forall_mem_cons.mpr ⟨.tail _ (.tail _ (.head _)), List.forall_mem_cons.mpr ⟨.tail _ (.tail _ (.tail _ (.head _))), fun p hp => .tail _ (.tail _ (.tail _ (.tail _ hp)))⟩⟩⟩)
        clear N2
        (repeat' (first | (k_unfold; (try dsimp only)) | (k_end; kc_close) | ((with_reducible show wpAny _ _ (call (Value.builtin "list.append") _) _ _ _); refine of_stop9 ?_) | ((with_reducible show wpAny _ _ (eval (Expr.Name _ _) _) _ _ _); k_dflt (refine Mine.name_P (by with_reducible assumption) (by assumption) (by with_reducible (repeat (first | exact Mine.At.here | apply Mine.At.there))) (by exact Eq.refl (some (some _))) ?_; k_whole)) | ((with_reducible show wpAny _ _ (storeName _ _ _) _ _ _); k_dflt (refine Mine.store_P (by with_reducible assumption) (by k_asm) (by assumption) (by with_reducible (repeat (first | exact Mine.At.here | apply Mine.At.there))) (by rfl) ?_; k_whole; intro h' F' N'; (try dsimp only [List.set] at F'); (try k_sweep))) | walk1 | (dsimp only; walk1) | (leave1; (try dsimp only)) | fail "no step"))
        unfold Stop9
        rename_i Dt h5 F5 N5 _ l5
        have dD : @Ne Nat Dt Dl := Nat.ne_of_gt l5.2.2.1
        have dI : @Ne Nat Dt Ix := Nat.ne_of_gt l5.2.1
        have dP : @LT.lt Nat _ M.pb Dt := allLt_mem l5.2.2.2 (M.pb, listOf #[] 0) (by rw [← hZ]; exact .head _)
        have N6 : News g' L' h5 ((Dl, listOf (y.ps.map Value.ref).toArray y.ep) :: (Dt, tupOf [.int wd.r tr, .int wd.g tg]) :: (Ix, o) :: Z) := cb_drop N5 (List.forall_mem_cons.mpr ⟨.tail _ (.tail _ (.tail _ (.head _))), List.forall_mem_cons.mpr ⟨.head _, List.forall_mem_cons.mpr ⟨.tail _ (.tail _ (.head _)), fun p hp => .tail _ (.tail _ (.tail _ (.tail _ hp)))⟩⟩⟩)
        clear l5 N5
        k_dflt (refine' Mine.app_L (items := y.ps.map Value.ref) (ep := y.ep) F5 N6 (UpdF.head ?a) rfl ?z ?_; (case a => exact List.forall_mem_cons.mpr ⟨dD, List.forall_mem_cons.mpr ⟨Ne.symm nDI, nD9⟩⟩); (case z => rw [List.length_map, j3.len, List.length_take]; lia); k_whole)
        intro h7 e7 F7 N7
        (try dsimp only)
        (repeat' ((first | (k_unfold; (try dsimp only)) | (k_end; kc_close) | ((with_reducible show wpAny _ _ (eval (Expr.Name _ _) _) _ _ _); k_dflt (refine Mine.name_P (by with_reducible assumption) (by assumption) (by with_reducible (repeat (first | exact Mine.At.here | apply Mine.At.there))) (by exact Eq.refl (some (some _))) ?_; k_whole)) | ((with_reducible show wpAny _ _ (storeName _ _ _) _ _ _); k_dflt (refine Mine.store_P (by with_reducible assumption) (by k_asm) (by assumption) (by with_reducible (repeat (first | exact Mine.At.here | apply Mine.At.there))) (by rfl) ?_; k_whole; intro h' F' N'; (try dsimp only [List.set] at F'); (try k_sweep))) | walk1 | (dsimp only; walk1) | (leave1; (try dsimp only)) | fail "no step") <;> (try dsimp only)))
        refine TEnd.mk ⟨x9, y.ps ++ [Dt], e7, (Dt, tupOf [.int wd.r tr, .int wd.g tg]) :: y.rest, wd.q, _, _, _⟩ ⟨⟨hx9, ?_, ?_, fun p hp => .tail _ (j4 p hp), ?_, ?_⟩, ?_⟩ (by assumption) ?_
        · show x9.ln + b2i wd.q = x.ln + ((i + 1 : Nat) : Int)
          rw [hl9]; lia
        · rw [takeS hwd]
          exact (j3.mono fun p hp => .tail _ hp).snoc (.head _)
        · exact List.forall_mem_cons.mpr ⟨⟨Nat.ne_of_gt (Nat.lt_trans I.lt_pb.1 dP), Nat.ne_of_gt (Nat.lt_trans I.lt_pb.2 dP)⟩, j5⟩
        · exact mS_all (P := fun a => a ≠ Dl) j6 (List.forall_mem_cons.mpr ⟨dD, fun p hp => j6 p (mem_mS hp)⟩)
        · exact List.forall_mem_cons.mpr ⟨nDI, mS_all (P := fun a => a ≠ Ix) nI (List.forall_mem_cons.mpr ⟨dI, fun p hp => nI p (mem_mS hp)⟩)⟩
        · subst hZ
          rename (News g' L' _ _) => zN
          refine cb_drop zN ?_
          show ∀ p ∈ (Ix, o) :: (Dl, refsObj (y.ps ++ [Dt]) e7) :: mS w M O ct x9 ((Dt, tupOf [.int wd.r tr, .int wd.g tg]) :: y.rest), _
          unfold refsObj
          rw [List.map_append]
          exact List.forall_mem_cons.mpr ⟨.tail _ (.tail _ (.head _)), List.forall_mem_cons.mpr ⟨.head _, fun p hp => (List.mem_cons.mp (mS_cons p hp)).elim (fun e => e ▸ .tail _ (.head _)) fun h => .tail _ (.tail _ (.tail _ h))⟩⟩
      · intro k ys3 v I1 oI C1 oC D3 m1 h1 tk1 hk hy3 hv hC hx1 F N off ne
        obtain ⟨c, tv, hc, rfl⟩ := hy.at_ k v hv
        (repeat' ((first | (k_unfold; (try dsimp only)) | (k_end; kc_close) | ((with_reducible show wpAny _ _ (eval (Expr.Name _ _) _) _ _ _); k_dflt (refine Mine.name_P (by with_reducible assumption) (by assumption) (by with_reducible (repeat (first | exact Mine.At.here | apply Mine.At.there))) (by exact Eq.refl (some (some _))) ?_; k_whole)) | walk1 | (dsimp only; walk1) | (leave1; (try dsimp only)) | fail "no step") <;> (try dsimp only)))
        refine CTurn.mk (by assumption) (by assumption) ?_
        rw [takeS (x := (c : Int) - 97) (by rw [List.getElem?_map, hc]; rfl)]
        exact IntsAre.snoc hy3
    · intro k ys v I1 oI C1 oC D1 m1 h1 tk1 hk hy hv hC hx1 F N off ne
      obtain ⟨tv, rfl⟩ := hv
      obtain ⟨c, hc⟩ : ∃ c, wd.tok[k]? = some c := ⟨_, List.getElem?_eq_getElem hk⟩
      have ec : wd.tok.getD k 0 = c := by rw [List.getD_eq_getElem?_getD, hc]; rfl
      rw [ec] at hx1
      have hcs := WD.signs hwk c (List.mem_of_getElem? hc)
      rcases hcs with rfl | hl
      · (repeat' ((first | (k_unfold; (try dsimp only)) | (k_end; kc_close) | ((with_reducible show wpAny _ _ (call (Value.ref 110) _) _ _ _); k_dflt (refine' Mine.b1_yes _ ?_ _ _ _ _ _ _ _ _ _ _ _ ?c1 ?c2 ?c3 ?c4 ?c5 ?c6 ?c7 ?c8; (case c1 => k_asm); (case c2 => k_asm); (case c3 => k_asm); (case c4 => k_asm); (case c5 => k_asm); (case c6 => first | assumption | exact rfl); (case c7 => k_room); (case c8 => k_room); k_whole); intro h' tk' F' N'; (try dsimp only)) | walk1 | (dsimp only; walk1) | (leave1; (try dsimp only)) | fail "no step") <;> (try dsimp only)))
        refine CTurn.mk (by assumption) (by assumption) ?_
        rw [takeS hc, keptL_snoc, if_neg (by decide)]
        exact hy
      · (repeat' ((first | (k_unfold; (try dsimp only)) | (k_end; kc_close) | ((with_reducible show wpAny _ _ (call (Value.ref 110) _) _ _ _); k_dflt (refine' Mine.b1_no _ _ hl ?_ _ _ _ _ _ _ _ _ _ _ _ ?c1 ?c2 ?c3 ?c4 ?c5 ?c6 ?c7 ?c8; (case c1 => k_asm); (case c2 => k_asm); (case c3 => k_asm); (case c4 => k_asm); (case c5 => k_asm); (case c6 => first | assumption | exact rfl); (case c7 => k_room); (case c8 => k_room); k_whole); intro h' tk' F' N'; (try dsimp only)) | ((with_reducible show wpAny _ _ (call (Value.ref 156) _) _ _ _); k_dflt (refine' Mine.b3_c _ _ hl ?_ _ _ _ _ _ _ _ _ _ _ _ ?c1 ?c2 ?c3 ?c4 ?c5 ?c6 ?c7 ?c8; (case c1 => k_asm); (case c2 => k_asm); (case c3 => k_asm); (case c4 => k_asm); (case c5 => k_asm); (case c6 => first | assumption | exact rfl); (case c7 => k_room); (case c8 => k_room); k_whole); intro h' tk' t' F' N'; (try dsimp only)) | walk1 | (dsimp only; walk1) | (leave1; (try dsimp only)) | fail "no step") <;> (try dsimp only)))
        refine CTurn.mk (by assumption) (by assumption) ?_
        rw [takeS hc, keptL_snoc, if_pos (by rw [hl.ne]; rfl)]
        exact hy.snoc
  · intro y h tk J F' N'
    obtain ⟨j1, j2, j3, j4, j5, j6⟩ := J
    rw [List.drop_length] at j1
    rw [List.take_length] at j3
    (repeat' ((first | (k_unfold; (try dsimp only)) | (k_end; kc_close) | ((with_reducible show wpAny _ _ (eval (Expr.Name _ _) _) _ _ _); k_dflt (refine Mine.name_P (by with_reducible assumption) (by assumption) (by with_reducible (repeat (first | exact Mine.At.here | apply Mine.At.there))) (by exact Eq.refl (some (some _))) ?_; k_whole)) | walk1 | (dsimp only; walk1) | (leave1; (try dsimp only)) | fail "no step") <;> (try dsimp only)))
    rename (Fr h₀ L _ m) => zF
    rename (News h₀ L _ _) => zN
    exact hret _ _ Dl y.ep y.ps y.x y.pd ((Dl, refsObj y.ps y.ep) :: y.rest) (j1.trans (List.append_nil _)) j2 (j3.mono fun p hp => .tail _ hp) (fun p hp => .tail _ (j4 p hp)) (.head _) (List.forall_mem_cons.mpr ⟨⟨(j6 _ at_mem).symm, (j6 _ d_mem.choose_spec).symm⟩, j5⟩) zF (led_in [(Dl, refsObj y.ps y.ep)] zN)
end
section
noncomputable abbrev P3 := SetSt × SetSt × SetSt
noncomputable def addS (st : SetSt) (k : Int) : SetSt := if memS st k then st else addX st k
noncomputable def addSOk (st : SetSt) (k : Int) : Bool := SOk st && decide (0 ≤ k ∧ k < 1000) && (memS st k || addOk st k)
noncomputable def popV (st : SetSt) (i : Nat) : Int := (st.1.map (·.2)).getD i 0
noncomputable def loP (v : Int) : Int := v.fdiv (2 ^ (1 : Int).toNat)
noncomputable def oddP (v : Int) : Bool := !(Builtin.bitAnd v 1 == 0)
noncomputable def skipP (x : P3) (v : Int) : Bool := memS x.1 v || decide (v ≤ 1)
noncomputable def stepP (x : P3) (i : Nat) : P3 :=
  let v := popV x.2.2 i
  let W := popX x.2.2 i
  if skipP x v then (x.1, x.2.1, W)
  else (addS x.1 v, addS x.2.1 (loP v), if oddP v then addS (addS W (loP v)) (loP v + 1) else addS W (loP v))
noncomputable def okP (x : P3) (i : Nat) : Bool :=
  let v := popV x.2.2 i
  let W := popX x.2.2 i
  SOk x.1 && decide (0 ≤ v ∧ v < 1000) && (skipP x v || (addSOk x.1 v && (!memS x.1 v) && addSOk x.2.1 (loP v) && addSOk W (loP v) && (!oddP v || addSOk (addS W (loP v)) (loP v + 1))))
noncomputable def endP (ns : List Int) (x : P3) : Bool := (SOk x.2.1 && plOk x.2.1) && (decide (ns.Pairwise (· ≤ ·)) && ns.isPerm (x.2.1.1.map (·.2))) && !x.2.1.1.isEmpty
noncomputable def runP (ns : List Int) : Nat → P3 → Bool
  | 0, x => SOk x.2.2 && x.2.2.1.isEmpty && endP ns x
  | n + 1, x => SOk x.2.2 && (if x.2.2.1.isEmpty then endP ns x else (List.range x.2.2.1.length).all fun i => okP x i && runP ns n (stepP x i))
theorem run_6 : runP [1, 3] 6 (([], []), ([], []), addX ([], []) 6) = true := by decide +kernel
theorem run_8 : runP [1, 2, 4] 5 (([], []), ([], []), addX ([], []) 8) = true := by decide +kernel
theorem run_next {ns : List Int} {n i : Nat} {x : P3} (h : runP ns n x = true) (hi : i < x.2.2.1.length) : ∃ m, n = m + 1 ∧ okP x i = true ∧ runP ns m (stepP x i) = true := by
  have hne : x.2.2.1.isEmpty = false := by
    cases e : x.2.2.1 with
    | nil => rw [e] at hi; cases hi
    | cons a r => rfl
  cases n with
  | zero => simp [runP, hne] at h
  | succ m =>
    simp only [runP, hne, Bool.false_eq_true, if_false, Bool.and_eq_true] at h
    have := List.all_eq_true.mp h.2 i (List.mem_range.mpr hi)
    rw [Bool.and_eq_true] at this
    exact ⟨m, rfl, this.1, this.2⟩
theorem run_end {ns : List Int} {n : Nat} {x : P3} (h : runP ns n x = true) (he : x.2.2.1.isEmpty = true) : endP ns x = true := by
  cases n with
  | zero => simp [runP] at h; exact h.2
  | succ m => simp only [runP, he, if_true, Bool.and_eq_true] at h; exact h.2
theorem run_ok {ns : List Int} {n : Nat} {x : P3} (h : runP ns n x = true) : SOk x.2.2 = true := by
  cases n with
  | zero => simp only [runP, Bool.and_eq_true] at h; exact h.1.1
  | succ m => simp only [runP, Bool.and_eq_true] at h; exact h.1
section
variable {prog : Program} {w : World} {A : Around} {E : Value → Shared → Prop} {s : Shared} {h₀ : Heap} {L sa : Addr} {m : Locals} {news : Led} {g : Obj → Led} {so : Obj} {st : SetSt} {k : Int} {t : Tok}
theorem sxl_addS {Q : Value → Shared → Prop} (F : Fr h₀ L s.heap m) (N : News h₀ L s.heap news) (U : UpdF sa so news g) (hx : SX w so st) (hok : addSOk st k = true)
    (h : ∀ h' so' tk, Fr h₀ L h' m → News h₀ L h' (g so') → SX w so' (addS st k) → Q .none { s with heap := h', toks := tk }) :
    wpAny (model prog w) A (call (.builtin "set.add") [.ref sa, .int k t]) Q E s := by
  unfold addSOk at hok
  rw [Bool.and_eq_true, Bool.and_eq_true] at hok
  cases hm : memS st k with
  | true =>
    have e : addS st k = st := by unfold addS; rw [hm]; rfl
    obtain ⟨pre, post, hl, hg, _⟩ := id U.split
    refine sxl_add_old N U hx hok.1.1 hm hok.1.2 (h s.heap so _ F (by rw [hg so, ← hl]; exact N) (by rw [e]; exact hx))
  | false =>
    have e : addS st k = addX st k := by unfold addS; rw [hm]; rfl
    rw [hm, Bool.false_or] at hok
    exact sxl_add_new F N U hx hok.2 hm fun h' so' F' N' X' => h h' so' _ F' N' (by rw [e]; exact X')
theorem sxl_popN {Q : Value → Shared → Prop} (F : Fr h₀ L s.heap m) (N : News h₀ L s.heap news) (U : UpdF sa so news g) (hx : SX w so st) (hk : SOk st = true) (hne : st.1.isEmpty = false)
    (h : ∀ i h' so' t d, i < st.1.length → Fr h₀ L h' m → News h₀ L h' (g so') → SX w so' (popX st i) → Q (.int (popV st i) t) { s with heap := h', drawn := d }) :
    wpAny (model prog w) A (call (.builtin "set.pop") [.ref sa]) Q E s := by
  obtain ⟨pre, post, rfl, hg, a, b⟩ := U.split
  have hm := N (sa, so) (List.mem_append_right _ (.head _))
  have hl : 0 < st.1.length := by
    cases e : st.1 with
    | nil => rw [e] at hne; cases hne
    | cons a r => exact Nat.succ_pos _
  refine sx_call_pop hm.1 hx hk hl fun i hi h' o' t d a1 a2 a3 => ?_
  have e : (st.1[i]).2 = popV st i := by
    unfold popV
    rw [List.getD_eq_getElem?_getD, List.getElem?_map, List.getElem?_eq_getElem hi]
    rfl
  rw [e]
  exact h i h' o' t d hi (F.change a1 hm.2.1 hm.2.2) (hg o' ▸ N.setIn a b a1 a2) a3
end
theorem okP_of {x : P3} {i : Nat} (h : okP x i = true) : SOk x.1 = true ∧ (skipP x (popV x.2.2 i) = true ∨ (addSOk x.1 (popV x.2.2 i) = true ∧ addSOk x.2.1 (loP (popV x.2.2 i)) = true ∧ addSOk (popX x.2.2 i) (loP (popV x.2.2 i)) = true ∧
    (oddP (popV x.2.2 i) = false ∨ addSOk (addS (popX x.2.2 i) (loP (popV x.2.2 i))) (loP (popV x.2.2 i) + 1) = true))) := by
  simp only [okP, Bool.and_eq_true, Bool.or_eq_true, Bool.not_eq_true'] at h
  exact ⟨h.1.1, h.2.imp id fun h => ⟨h.1.1.1.1, h.1.1.2, h.1.2, h.2⟩⟩
theorem allLtP {d : Nat} : ∀ {l : Led}, AllLt d l → ∀ p ∈ l, @LT.lt Nat _ p.1 d
  | [], _ => fun _ h => nomatch h
  | _ :: _, h => fun p hp => by
    rcases List.mem_cons.mp hp with rfl | hp
    · exact h.1
    · exact allLtP h.2 p hp
section
variable {prog : Program} {w : World} {A : Around} {E : Value → Shared → Prop} {s : Shared} {h₀ : Heap} {L : Addr} {env : Env} {body : List Stmt}
noncomputable def TEndC {σ : Type} (h₀ : Heap) (L : Addr) (mOf : σ → Locals) (nOf : σ → Led) (J : σ → Prop) (s : Shared) (f : Flow) (s' : Shared) : Prop :=
  (f = .next ∨ f = .cont) ∧ ∃ x h' tk' d', s' = { s with heap := h', toks := tk', drawn := d' } ∧ J x ∧ Fr h₀ L h' (mOf x) ∧ News h₀ L h' (nOf x)
theorem TEndC.mk {σ : Type} {mOf : σ → Locals} {nOf : σ → Led} {J : σ → Prop} {h' : Heap} {tk' : Nat} {d' : Drawn} (x : σ) (j : J x) (F : Fr h₀ L h' (mOf x)) (N : News h₀ L h' (nOf x)) : TEndC h₀ L mOf nOf J s .next { s with heap := h', toks := tk', drawn := d' } :=
  ⟨.inl rfl, x, h', tk', d', rfl, j, F, N⟩
theorem TEndC.mkc {σ : Type} {mOf : σ → Locals} {nOf : σ → Led} {J : σ → Prop} {h' : Heap} {tk' : Nat} {d' : Drawn} (x : σ) (j : J x) (F : Fr h₀ L h' (mOf x)) (N : News h₀ L h' (nOf x)) : TEndC h₀ L mOf nOf J s .cont { s with heap := h', toks := tk', drawn := d' } :=
  ⟨.inr rfl, x, h', tk', d', rfl, j, F, N⟩
theorem While_c {σ : Type} (mOf : σ → Locals) (nOf : σ → Led) (J : Nat → σ → Prop) {n : Nat} {test : PySem.Expr} {pos : Pos} {Q : Flow → Shared → Prop} (x₀ : σ) (F : Fr h₀ L s.heap (mOf x₀)) (N : News h₀ L s.heap (nOf x₀)) (j : J n x₀)
    (turn : ∀ k x h tk d, J k x → Fr h₀ L h (mOf x) → News h₀ L h (nOf x) →
      wpAny (model prog w) A (isTrue test env (eval test env)) (fun b s₂ => if b = true then wpAny (model prog w) A (execs body env) (TEndC h₀ L mOf nOf (fun x' => ∃ k', k = k' + 1 ∧ J k' x') { s with heap := h, toks := tk, drawn := d }) NoE s₂ else Q .next s₂) NoE { s with heap := h, toks := tk, drawn := d })
    (hE : PassesOwn (model prog w) A env NoE := by passes_own) :
    wpAny (model prog w) A (exec (.While test body [] pos) env) Q E s := by
  refine no_E ?_
  refine wpAny_While (codeAny_whileLoop (fun k s' => ∃ x h tk d, s' = { s with heap := h, toks := tk, drawn := d } ∧ J k x ∧ Fr h₀ L h (mOf x) ∧ News h₀ L h (nOf x)) ?_ n ⟨x₀, s.heap, s.toks, s.drawn, rfl, j, F, N⟩)
  rintro k s' ⟨x, h, tk, d, rfl, J₁, F₁, N₁⟩
  refine wpAny_mono (turn k x h tk d J₁ F₁ N₁) (fun b s₂ h₂ => ?_) hE
  cases b with
  | false =>
    simp only [Bool.false_eq_true, if_false] at h₂ ⊢
    exact wpAny_execs_nil h₂
  | true =>
    simp only [if_true] at h₂ ⊢
    refine wpAny_mono h₂ (fun f s₃ h₃ => ?_) hE
    obtain ⟨hf, x', h', tk', d', rfl, ⟨k', rfl, J'⟩, F', N'⟩ := h₃
    rcases hf with rfl | rfl
    · exact ⟨k', Nat.lt_succ_self k', x', h', tk', d', rfl, J', F', N'⟩
    · exact ⟨k', Nat.lt_succ_self k', x', h', tk', d', rfl, J', F', N'⟩
end
theorem stepP_skip {x : P3} {i : Nat} (h : skipP x (popV x.2.2 i) = true) : stepP x i = (x.1, x.2.1, popX x.2.2 i) := by simp [stepP, h]
theorem stepP_odd {x : P3} {i : Nat} (h : skipP x (popV x.2.2 i) = false) (h2 : oddP (popV x.2.2 i) = true) : stepP x i = (addS x.1 (popV x.2.2 i), addS x.2.1 (loP (popV x.2.2 i)), addS (addS (popX x.2.2 i) (loP (popV x.2.2 i))) (loP (popV x.2.2 i) + 1)) := by simp [stepP, h, h2]
theorem stepP_even {x : P3} {i : Nat} (h : skipP x (popV x.2.2 i) = false) (h2 : oddP (popV x.2.2 i) = false) : stepP x i = (addS x.1 (popV x.2.2 i), addS x.2.1 (loP (popV x.2.2 i)), addS (popX x.2.2 i) (loP (popV x.2.2 i))) := by simp [stepP, h, h2]
theorem shr_lo {prog : Program} {w : World} {A : Around} {E : Value → Shared → Prop} {s : Shared} {v : Int} {t u : Tok} {Q : Value → Shared → Prop} (h : Q (.int (loP v) s.toks) { s with toks := s.toks + 1 }) : wpAny (model prog w) A (binaryOp .RShift (.int v t) (.int 1 u)) Q E s := PyProof.Rows.rshift_int (by decide) h
theorem tr_odd {prog : Program} {w : World} {A : Around} {E : Value → Shared → Prop} {s : Shared} {v : Int} {b : Bool} {t : Tok} {Q : Bool → Shared → Prop} (e : oddP v = b) (h : Q b s) : wpAny (model prog w) A (truthy (.int (Builtin.bitAnd v 1) t)) Q E s := PyProof.Rows.truthy_int (by rw [show (Builtin.bitAnd v 1 != 0) = b from e]; exact h)
end
section
variable {w : World} {p : Program} {loose : List PySem.Str} {mean : ExcName → Option Value} {mg mb : Locals} {h₀ : Heap} {L : Addr} {m : Locals} {news : Led} {s : Shared} {Q E : Value → Shared → Prop}
local macro_rules | `(tactic| walk_at "mine updD") => `(tactic| first | (refine' UpdD.head ?a; (case a => k_all)) | (refine' UpdD.tail ?a ?b; (case a => k_ne); (case b => walk_at "mine updD")))
structure PSt where
  P : P3
  oS : Obj
  oN : Obj
  oW : Obj
  vw : Int
  tw : Tok
  vlo : Option Value
theorem pow_g (w0 : Int) (ns : List Int) (n : Nat) (t t' t'' : Tok) (h1 : addOk ([], []) w0 = true) (h2 : memS ([], []) w0 = false) (pairs : List (PyData × PyData)) (hns : (ns = [1, 3] ∧ pairs = [(.int 1, .int 32), (.int 3, .int 32768)]) ∨ (ns = [1, 2, 4] ∧ pairs = [(.int 1, .int 32), (.int 2, .int 1024), (.int 4, .int 1048576)])) (hrun : runP ns n (([], []), ([], []), addX ([], []) w0) = true)
    (hret : ∀ s' a o' D, s'.gens = s.gens ∧ s'.os = s.os → (a == sysModules) = false → o'.IsDictOf (intKind prg w) D → PyProof.V.FlatPairs PyData.int D pairs → AllLt a news → Fr h₀ L s'.heap m → News h₀ L s'.heap ((a, o') :: news) → Q (.ref a) s') :
      Spec w p loose mean mg mb 4 60 (.ref 29) [.int w0 t, .int 32 t', .int 1 t''] h₀ L m news s Q E := by
  intro dp un gd cn cs a ccd cl outer A₀ base hB F X N T hk hd hu
  refine wpAny_call ?_
  k_dflt (refine' code_def ?k1 ?k2 ?k3 ?k4 ?k5 ?kA ?kF ?kK ?k6 ?k7 ?k8 ?k9 ?kB ?_ ?c2 ?c3 ?c4 ?c5; (case kA => exact rfl); (case kF => exact rfl); (case kK => first | assumption | exact rfl); (case k1 => k_asm); (case k2 => k_asm); (case k3 => k_asm); (case k4 => k_asm); (case k5 => k_asm); (case k6 => k_is); (case k7 => k_is); (case k8 => k_room); (case k9 => first | exact BindsTo.of_eq rfl | exact binds_K (by k_in) rfl (by k_is) rfl rfl rfl); (case c5 => decide); (case kB => exact locs rfl); (case c2 => exact rfl); (case c3 => exact rfl); (case c4 => exact rfl); k_whole; intro g' L' h' FG' F' N' B' X' T'; (try dsimp only); (try k_lift B'); (try k_fold))
  have nd9 : Mine.NoDup [PySem.Str.ofString "show", PySem.Str.ofString "more_than", PySem.Str.ofString "base", PySem.Str.ofString "w", PySem.Str.ofString "seen", PySem.Str.ofString "need", PySem.Str.ofString "ws", PySem.Str.ofString "lo", PySem.Str.ofString "d", PySem.Str.ofString "it", PySem.Str.ofString "first", PySem.Str.ofString "this", PySem.Str.ofString "hi", PySem.Str.ofString "sq"] := Mine.NoDup.of (by decide +kernel)
  have F0 : Fr _ _ _ (Mine.look [PySem.Str.ofString "show", PySem.Str.ofString "more_than", PySem.Str.ofString "base", PySem.Str.ofString "w", PySem.Str.ofString "seen", PySem.Str.ofString "need", PySem.Str.ofString "ws", PySem.Str.ofString "lo", PySem.Str.ofString "d", PySem.Str.ofString "it", PySem.Str.ofString "first", PySem.Str.ofString "this", PySem.Str.ofString "hi", PySem.Str.ofString "sq"] [some (.bool false), some (.int 1 t''), some (.int 32 t'), some (.int w0 t), none, none, none, none, none, none, none, none, none, none]) := Mine.start_P (bs := [(PySem.Str.ofString "w", .int w0 t), (PySem.Str.ofString "base", .int 32 t'), (PySem.Str.ofString "more_than", .int 1 t''), (PySem.Str.ofString "show", .bool false)]) (ns' := [PySem.Str.ofString "seen", PySem.Str.ofString "need", PySem.Str.ofString "ws", PySem.Str.ofString "lo", PySem.Str.ofString "d", PySem.Str.ofString "it", PySem.Str.ofString "first", PySem.Str.ofString "this", PySem.Str.ofString "hi", PySem.Str.ofString "sq"]) (k := 10) F'
  clear F'
  refine Mine.gen_tk ?_; intro tk0
  (repeat' (first | (k_unfold; (try dsimp only)) | (k_end; kc_close) | ((with_reducible show wpAny _ _ (exec (Stmt.While _ _ _ _) _) _ _ _); refine of_stop9 ?_) | ((with_reducible show wpAny _ _ (call (Value.type "set") []) _ _ _); k_dflt (refine' Mine.sxl_new ?zF ?zN ?_; (case zF => k_asm); (case zN => k_asm); k_whole); intro d' h' o' F' N' l1 X'; (try k_lt l1)) | ((with_reducible show wpAny _ _ (eval (PySem.Expr.Set _ _ _) _) _ _ _); k_dflt (refine' Mine.sxl_eval ?zF ?zN ?zX ?zc ?zr ?zp ?_; (case zF => k_asm); (case zN => k_asm); (case zX => k_asm); (case zc => first | k_is | kernel_rfl!); (case zr => rfl); (case zp => rfl); k_whole); intro d' h' o' F' N' l1 X'; (try k_lt l1); (try dsimp only [KdsAll])) | ((with_reducible show wpAny _ _ (setAdd _ (Value.int _ _)) _ _ _); k_dflt (refine' Mine.sxl_setAdd ?zF ?zN ?zU ?zx ?zok ?zhi ?_; (case zF => k_asm); (case zN => k_asm); (case zU => k_updF); (case zx => with_reducible assumption); (case zhi => assumption); (case zok => assumption); k_whole); intro h' o' F' N' X'; (try dsimp only at N')) | ((with_reducible show wpAny _ _ (eval (Expr.Name _ _) _) _ _ _); k_dflt (refine Mine.name_P (by with_reducible assumption) (by assumption) (by with_reducible (repeat (first | exact Mine.At.here | apply Mine.At.there))) (by exact Eq.refl (some (some _))) ?_; k_whole)) | ((with_reducible show wpAny _ _ (storeName _ _ _) _ _ _); k_dflt (refine Mine.store_P (by with_reducible assumption) (by k_asm) (by assumption) (by with_reducible (repeat (first | exact Mine.At.here | apply Mine.At.there))) (by rfl) ?_; k_whole; intro h' F' N'; (try dsimp only [List.set] at F'); (try k_sweep))) | walk1 | (dsimp only; walk1) | (leave1; (try dsimp only)) | fail "no step"))
  unfold Stop9
  rename_i aS _ oS XS _ lS _ aN _ oN XN _ lN _ _ _ _ _ _
  have nS : ∀ p ∈ news, p.1 ≠ aS := fun p hp => Nat.ne_of_lt (allLtP lS p hp)
  have nN : ∀ p ∈ news, p.1 ≠ aN := fun p hp => Nat.ne_of_lt (allLtP lN.2 p hp)
  have nW : ∀ p ∈ news, p.1 ≠ d' := fun p hp => Nat.ne_of_lt (allLtP l1.2.2 p hp)
  have eSN : @Ne Nat aS aN := Nat.ne_of_lt lN.1
  have eSW : @Ne Nat aS d' := Nat.ne_of_lt l1.2.1
  have eNW : @Ne Nat aN d' := Nat.ne_of_lt l1.1
  clear lS lN
  refine While_c (h₀ := g') (L := L') (n := n) (fun x : PSt => look [PySem.Str.ofString "show", PySem.Str.ofString "more_than", PySem.Str.ofString "base", PySem.Str.ofString "w", PySem.Str.ofString "seen", PySem.Str.ofString "need", PySem.Str.ofString "ws", PySem.Str.ofString "lo", PySem.Str.ofString "d", PySem.Str.ofString "it", PySem.Str.ofString "first", PySem.Str.ofString "this", PySem.Str.ofString "hi", PySem.Str.ofString "sq"] [some (.bool false), some (.int 1 t''), some (.int 32 t'), some (.int x.vw x.tw), some (.ref aS), some (.ref aN), some (.ref d'), x.vlo, none, none, none, none, none, none])
    (fun x => (d', x.oW) :: (aN, x.oN) :: (aS, x.oS) :: news) (fun k x => runP ns k x.P = true ∧ SX w x.oS x.P.1 ∧ SX w x.oN x.P.2.1 ∧ SX w x.oW x.P.2.2) ⟨(([], []), ([], []), addX ([], []) w0), oS, oN, o', w0, t, none⟩ (by assumption) (by assumption) ⟨hrun, XS, XN, X'⟩ ?_ (hE := by passes_own)
  intro k x h tk d J F' N'
  obtain ⟨jr, jS, jN, jW⟩ := J
  have ok1 := run_ok jr
  cases he : x.P.2.2.1.isEmpty with
  | true =>
    have hz : (!x.P.2.2.1.isEmpty) = false := by rw [he]; rfl
    have hend := run_end jr he
    unfold endP at hend
    rw [Bool.and_eq_true, Bool.and_eq_true] at hend
    obtain ⟨⟨e1, e2⟩, hz2⟩ := hend
    have e3 : SOk x.P.2.1 = true := (Bool.and_eq_true_iff.mp e1).1
    clear jr he hrun
    (repeat' (first | (k_unfold; (try dsimp only)) | (k_end; kc_close) | ((with_reducible show wpAny _ _ (truthy (Value.ref _)) _ _ _); first | (k_dflt (refine' Mine.sxl_truthy true ?zN ?zU ?zx ?zok ?zhi ?_; (case zN => k_asm); (case zU => k_updF); (case zx => with_reducible assumption); (case zok => assumption); (case zhi => assumption); k_whole)) | (k_dflt (refine' Mine.sxl_truthy false ?zN ?zU ?zx ?zok ?zhi ?_; (case zN => k_asm); (case zU => k_updF); (case zx => with_reducible assumption); (case zok => assumption); (case zhi => assumption); k_whole))) | ((with_reducible show wpAny _ _ (call (Value.builtin "sorted") _) _ _ _); refine of_stop9 ?_) | ((with_reducible show wpAny _ _ (eval (Expr.Name _ _) _) _ _ _); k_dflt (refine Mine.name_P (by with_reducible assumption) (by assumption) (by with_reducible (repeat (first | exact Mine.At.here | apply Mine.At.there))) (by exact Eq.refl (some (some _))) ?_; k_whole)) | ((with_reducible show wpAny _ _ (storeName _ _ _) _ _ _); k_dflt (refine Mine.store_P (by with_reducible assumption) (by k_asm) (by assumption) (by with_reducible (repeat (first | exact Mine.At.here | apply Mine.At.there))) (by rfl) ?_; k_whole; intro h' F' N'; (try dsimp only [List.set] at F'); (try k_sweep))) | walk1 | (dsimp only; walk1) | (leave1; (try dsimp only)) | fail "no step"))
    unfold Stop9
    rename_i dA _ oD _ _ _ _ _ ldA _
    have ndA : ∀ p ∈ news, p.1 ≠ dA := fun p hp => Nat.ne_of_lt (allLtP ldA p (.tail _ (.tail _ (.tail _ hp))))
    have ldN : ∀ p ∈ news, @LT.lt Nat _ p.1 dA := fun p hp => allLtP ldA p (.tail _ (.tail _ (.tail _ hp)))
    clear ldA
    rcases hns with ⟨rfl, rfl⟩ | ⟨rfl, rfl⟩
    · k_dflt (refine' Mine.sxl_sorted2 1 3 ?zh ?zF ?zN ?zU jN e1 e2 ?_; (case zh => exact rfl); (case zF => k_asm); (case zN => k_asm); (case zU => k_updF); k_whole)
      intro s2 D2 u1 u2 ee go2 F2 N2 l2
      have nD2 : @Ne Nat D2 dA := Nat.ne_of_gt (l2 _ (.head _))
      have N3 : News g' L' s2.heap ((D2, { cls := .type "list", data := .seq #[.int 1 u1, .int 3 u2] ee }) :: (dA, oD) :: news) := cb_drop N2 (List.forall_mem_cons.mpr ⟨.head _, List.forall_mem_cons.mpr ⟨.tail _ (.head _), fun p hp => .tail _ (.tail _ (.tail _ (.tail _ (.tail _ hp))))⟩⟩)
      clear N2 l2
      (try dsimp only)
      (repeat' ((first | (k_unfold; (try dsimp only)) | (k_end; kc_close) | ((with_reducible show wpAny _ _ (call (Value.builtin "iter") [Value.ref _]) _ _ _); k_dflt (refine' Mine.iter_list ?k1 ?k2 ?k3 ?_; (case k1 => k_asm); (case k2 => k_asm); (case k3 => k_mem); k_whole); intro I' o' h' li' F' N' l1; (try k_lt l1)) | ((with_reducible show wpAny _ _ (call (Value.builtin "next") [Value.ref _]) _ _ _); k_dflt (refine' Mine.next_list ?k1 ?k2 ?k3 ?k4 ?k5 ?k6 ?_; (case k1 => k_asm); (case k2 => k_asm); (case k4 => assumption); (case k3 => walk_at "mine updD"); (case k5 => k_mem); (case k6 => exact rfl); k_whole); intro o' h' li' F' N'; (try dsimp only at N')) | ((with_reducible show wpAny _ _ (exec (Stmt.For _ _ _ _ _) _) _ _ _); k_dflt (refine' Mine.For_T 4 ?_ ?zs; (case zs => (intro _; exact rfl)); k_whole)) | ((with_reducible show Mine.Turns _ _ _ _ _ _ _ _ _ _ _); refine Mine.Turns.go ?_) | ((with_reducible show wpAny _ _ (pyIter (Value.ref _)) _ _ _); k_dflt (refine' Mine.iter_self ?k1 ?k2 ?k3 ?_; (case k1 => k_asm); (case k3 => assumption); (case k2 => k_mem); k_whole)) | ((with_reducible show wpAny _ _ (pyNext (Value.ref _)) _ _ _); first | (k_dflt (refine' Mine.nextList_T ?k1 ?k2 ?k3 ?k4 ?k5 ?k6 ?_; (case k1 => k_asm); (case k2 => k_asm); (case k4 => assumption); (case k3 => walk_at "mine updD"); (case k5 => k_mem); (case k6 => exact rfl); k_whole); intro o' h' li' F' N'; (try dsimp only at N'); (try dsimp only)) | (k_dflt (refine' Mine.endList_T ?k0 ?k1 ?k2 ?k3 ?k4 ?k5 ?k6 ?_; (case k0 => exact rfl); (case k1 => k_asm); (case k2 => k_asm); (case k4 => assumption); (case k3 => walk_at "mine updD"); (case k5 => k_mem); (case k6 => exact rfl); k_whole); intro h' F' N'; (try dsimp only))) | ((with_reducible show wpAny _ _ (letOwnedTupleGo _ _ _) _ _ _); first | (with_reducible refine Mine.ownName_T ?_) | (k_dflt (refine Mine.ownList_T (by k_asm) (by k_mem) (by assumption) ?_; k_whole))) | ((with_reducible show wpAny _ _ (eval (Expr.Name _ _) _) _ _ _); k_dflt (refine Mine.name_P (by with_reducible assumption) (by assumption) (by with_reducible (repeat (first | exact Mine.At.here | apply Mine.At.there))) (by exact Eq.refl (some (some _))) ?_; k_whole)) | ((with_reducible show wpAny _ _ (storeName _ _ _) _ _ _); k_dflt (refine Mine.store_P (by with_reducible assumption) (by k_asm) (by assumption) (by with_reducible (repeat (first | exact Mine.At.here | apply Mine.At.there))) (by rfl) ?_; k_whole; intro h' F' N'; (try dsimp only [List.set] at F'); (try k_sweep))) | walk1 | (dsimp only; walk1) | (leave1; (try dsimp only)) | fail "no step") <;> (try dsimp only)))
      all_goals first
        | (rename (¬ _ = _) => hno; exact absurd (by decide +kernel) hno)
        | skip
      refine hret _ dA _ _ go2 (by assumption) (by assumption) (by assumption) (allLt_of ldN) (by assumption) (cb_drop (by assumption) ?_)
      exact List.forall_mem_cons.mpr ⟨.tail _ (.head _), fun p hp => .tail _ (.tail _ hp)⟩
    · k_dflt (refine' Mine.sxl_sorted3 1 2 4 ?zh ?zF ?zN ?zU jN e1 e2 ?_; (case zh => exact rfl); (case zF => k_asm); (case zN => k_asm); (case zU => k_updF); k_whole)
      intro s2 D2 u1 u2 u3 ee go2 F2 N2 l2
      have nD2 : @Ne Nat D2 dA := Nat.ne_of_gt (l2 _ (.head _))
      have N3 : News g' L' s2.heap ((D2, { cls := .type "list", data := .seq #[.int 1 u1, .int 2 u2, .int 4 u3] ee }) :: (dA, oD) :: news) := cb_drop N2 (List.forall_mem_cons.mpr ⟨.head _, List.forall_mem_cons.mpr ⟨.tail _ (.head _), fun p hp => .tail _ (.tail _ (.tail _ (.tail _ (.tail _ hp))))⟩⟩)
      clear N2 l2
      (try dsimp only)
      (repeat' ((first | (k_unfold; (try dsimp only)) | (k_end; kc_close) | ((with_reducible show wpAny _ _ (call (Value.builtin "iter") [Value.ref _]) _ _ _); k_dflt (refine' Mine.iter_list ?k1 ?k2 ?k3 ?_; (case k1 => k_asm); (case k2 => k_asm); (case k3 => k_mem); k_whole); intro I' o' h' li' F' N' l1; (try k_lt l1)) | ((with_reducible show wpAny _ _ (call (Value.builtin "next") [Value.ref _]) _ _ _); k_dflt (refine' Mine.next_list ?k1 ?k2 ?k3 ?k4 ?k5 ?k6 ?_; (case k1 => k_asm); (case k2 => k_asm); (case k4 => assumption); (case k3 => walk_at "mine updD"); (case k5 => k_mem); (case k6 => exact rfl); k_whole); intro o' h' li' F' N'; (try dsimp only at N')) | ((with_reducible show wpAny _ _ (exec (Stmt.For _ _ _ _ _) _) _ _ _); k_dflt (refine' Mine.For_T 4 ?_ ?zs; (case zs => (intro _; exact rfl)); k_whole)) | ((with_reducible show Mine.Turns _ _ _ _ _ _ _ _ _ _ _); refine Mine.Turns.go ?_) | ((with_reducible show wpAny _ _ (pyIter (Value.ref _)) _ _ _); k_dflt (refine' Mine.iter_self ?k1 ?k2 ?k3 ?_; (case k1 => k_asm); (case k3 => assumption); (case k2 => k_mem); k_whole)) | ((with_reducible show wpAny _ _ (pyNext (Value.ref _)) _ _ _); first | (k_dflt (refine' Mine.nextList_T ?k1 ?k2 ?k3 ?k4 ?k5 ?k6 ?_; (case k1 => k_asm); (case k2 => k_asm); (case k4 => assumption); (case k3 => walk_at "mine updD"); (case k5 => k_mem); (case k6 => exact rfl); k_whole); intro o' h' li' F' N'; (try dsimp only at N'); (try dsimp only)) | (k_dflt (refine' Mine.endList_T ?k0 ?k1 ?k2 ?k3 ?k4 ?k5 ?k6 ?_; (case k0 => exact rfl); (case k1 => k_asm); (case k2 => k_asm); (case k4 => assumption); (case k3 => walk_at "mine updD"); (case k5 => k_mem); (case k6 => exact rfl); k_whole); intro h' F' N'; (try dsimp only))) | ((with_reducible show wpAny _ _ (letOwnedTupleGo _ _ _) _ _ _); first | (with_reducible refine Mine.ownName_T ?_) | (k_dflt (refine Mine.ownList_T (by k_asm) (by k_mem) (by assumption) ?_; k_whole))) | ((with_reducible show wpAny _ _ (eval (Expr.Name _ _) _) _ _ _); k_dflt (refine Mine.name_P (by with_reducible assumption) (by assumption) (by with_reducible (repeat (first | exact Mine.At.here | apply Mine.At.there))) (by exact Eq.refl (some (some _))) ?_; k_whole)) | ((with_reducible show wpAny _ _ (storeName _ _ _) _ _ _); k_dflt (refine Mine.store_P (by with_reducible assumption) (by k_asm) (by assumption) (by with_reducible (repeat (first | exact Mine.At.here | apply Mine.At.there))) (by rfl) ?_; k_whole; intro h' F' N'; (try dsimp only [List.set] at F'); (try k_sweep))) | walk1 | (dsimp only; walk1) | (leave1; (try dsimp only)) | fail "no step") <;> (try dsimp only)))
      all_goals first
        | (rename (¬ _ = _) => hno; exact absurd (by decide +kernel) hno)
        | skip
      refine hret _ dA _ _ go2 (by assumption) (by assumption) (by assumption) (allLt_of ldN) (by assumption) (cb_drop (by assumption) ?_)
      exact List.forall_mem_cons.mpr ⟨.tail _ (.head _), fun p hp => .tail _ (.tail _ hp)⟩
  | false =>
    have hz : (!x.P.2.2.1.isEmpty) = true := by rw [he]; rfl
    (repeat' (first | (k_unfold; (try dsimp only)) | (k_end; kc_close) | ((with_reducible show wpAny _ _ (truthy (Value.ref _)) _ _ _); first | (k_dflt (refine' Mine.sxl_truthy true ?zN ?zU ?zx ?zok ?zhi ?_; (case zN => k_asm); (case zU => k_updF); (case zx => with_reducible assumption); (case zok => assumption); (case zhi => assumption); k_whole)) | (k_dflt (refine' Mine.sxl_truthy false ?zN ?zU ?zx ?zok ?zhi ?_; (case zN => k_asm); (case zU => k_updF); (case zx => with_reducible assumption); (case zok => assumption); (case zhi => assumption); k_whole))) | ((with_reducible show wpAny _ _ (call (Value.builtin "set.pop") _) _ _ _); refine of_stop9 ?_) | ((with_reducible show wpAny _ _ (getMethod (Value.ref _) _ _) _ _ _); first | ((with_reducible show wpAny _ _ (getMethod (Value.ref _) (Str.ofString "add") _) _ _ _); k_dflt (refine' Mine.sxl_m_add ?zN ?zU ?zx ?_; (case zN => k_asm); (case zU => k_updF); (case zx => with_reducible assumption); k_whole); (try dsimp only)) | ((with_reducible show wpAny _ _ (getMethod (Value.ref _) (Str.ofString "pop") _) _ _ _); k_dflt (refine' Mine.sxl_m_pop ?zN ?zU ?zx ?_; (case zN => k_asm); (case zU => k_updF); (case zx => with_reducible assumption); k_whole); (try dsimp only))) | ((with_reducible show wpAny _ _ (eval (Expr.Name _ _) _) _ _ _); k_dflt (refine Mine.name_P (by with_reducible assumption) (by assumption) (by with_reducible (repeat (first | exact Mine.At.here | apply Mine.At.there))) (by exact Eq.refl (some (some _))) ?_; k_whole)) | ((with_reducible show wpAny _ _ (storeName _ _ _) _ _ _); k_dflt (refine Mine.store_P (by with_reducible assumption) (by k_asm) (by assumption) (by with_reducible (repeat (first | exact Mine.At.here | apply Mine.At.there))) (by rfl) ?_; k_whole; intro h' F' N'; (try dsimp only [List.set] at F'); (try k_sweep))) | walk1 | (dsimp only; walk1) | (leave1; (try dsimp only)) | fail "no step"))
    unfold Stop9
    k_dflt (refine' Mine.sxl_popN ?zF ?zN ?zU jW ok1 he ?_; (case zF => k_asm); (case zN => k_asm); (case zU => k_updF); k_whole)
    intro i h2 oW2 t2 d2 hi F2 N2 jW2
    (try dsimp only at N2)
    obtain ⟨m, em, ho, jr2⟩ := run_next jr hi
    obtain ⟨k1, k2⟩ := okP_of ho
    generalize hv : popV x.P.2.2 i = v at k2
    clear ho jr ok1
    cases hm : memS x.P.1 v with
    | true =>
      have hsk : skipP x.P (popV x.P.2.2 i) = true := by rw [hv]; unfold skipP; rw [hm]; rfl
      rw [stepP_skip hsk] at jr2
      (repeat' ((first | (k_unfold; (try dsimp only)) | (k_end; kc_close) | ((with_reducible show wpAny _ _ (compareOp CmpOp.In (Value.int _ _) (Value.ref _)) _ _ _); first | (k_dflt (refine' Mine.sxl_in true ?zN ?zU ?zx ?zok ?zhi ?_; (case zN => k_asm); (case zU => k_updF); (case zx => with_reducible assumption); (case zok => assumption); (case zhi => assumption); k_whole)) | (k_dflt (refine' Mine.sxl_in false ?zN ?zU ?zx ?zok ?zhi ?_; (case zN => k_asm); (case zU => k_updF); (case zx => with_reducible assumption); (case zok => assumption); (case zhi => assumption); k_whole))) | ((with_reducible show wpAny _ _ (eval (Expr.Name _ _) _) _ _ _); k_dflt (refine Mine.name_P (by with_reducible assumption) (by assumption) (by with_reducible (repeat (first | exact Mine.At.here | apply Mine.At.there))) (by exact Eq.refl (some (some _))) ?_; k_whole)) | ((with_reducible show wpAny _ _ (storeName _ _ _) _ _ _); k_dflt (refine Mine.store_P (by with_reducible assumption) (by k_asm) (by assumption) (by with_reducible (repeat (first | exact Mine.At.here | apply Mine.At.there))) (by rfl) ?_; k_whole; intro h' F' N'; (try dsimp only [List.set] at F'); (try k_sweep))) | walk1 | (dsimp only; walk1) | (leave1; (try dsimp only)) | fail "no step") <;> (try dsimp only)))
      (try dsimp only)
      exact TEndC.mkc ⟨(x.P.1, x.P.2.1, popX x.P.2.2 i), x.oS, x.oN, oW2, v, _, x.vlo⟩ ⟨m, em, jr2, jS, jN, jW2⟩ (by assumption) (by assumption)
    | false =>
      by_cases hl : v ≤ 1
      · have hsk : skipP x.P (popV x.P.2.2 i) = true := by rw [hv]; unfold skipP; rw [hm, decide_eq_true hl]; rfl
        rw [stepP_skip hsk] at jr2
        (repeat' ((first | (k_unfold; (try dsimp only)) | (k_end; kc_close) | ((with_reducible show wpAny _ _ (compareOp CmpOp.In (Value.int _ _) (Value.ref _)) _ _ _); first | (k_dflt (refine' Mine.sxl_in true ?zN ?zU ?zx ?zok ?zhi ?_; (case zN => k_asm); (case zU => k_updF); (case zx => with_reducible assumption); (case zok => assumption); (case zhi => assumption); k_whole)) | (k_dflt (refine' Mine.sxl_in false ?zN ?zU ?zx ?zok ?zhi ?_; (case zN => k_asm); (case zU => k_updF); (case zx => with_reducible assumption); (case zok => assumption); (case zhi => assumption); k_whole))) | ((with_reducible show wpAny _ _ (eval (Expr.Name _ _) _) _ _ _); k_dflt (refine Mine.name_P (by with_reducible assumption) (by assumption) (by with_reducible (repeat (first | exact Mine.At.here | apply Mine.At.there))) (by exact Eq.refl (some (some _))) ?_; k_whole)) | ((with_reducible show wpAny _ _ (storeName _ _ _) _ _ _); k_dflt (refine Mine.store_P (by with_reducible assumption) (by k_asm) (by assumption) (by with_reducible (repeat (first | exact Mine.At.here | apply Mine.At.there))) (by rfl) ?_; k_whole; intro h' F' N'; (try dsimp only [List.set] at F'); (try k_sweep))) | walk1 | (dsimp only; walk1) | (leave1; (try dsimp only)) | fail "no step") <;> (try dsimp only)))
        (try dsimp only)
        exact TEndC.mkc ⟨(x.P.1, x.P.2.1, popX x.P.2.2 i), x.oS, x.oN, oW2, v, _, x.vlo⟩ ⟨m, em, jr2, jS, jN, jW2⟩ (by assumption) (by assumption)
      · have hsk : skipP x.P (popV x.P.2.2 i) = false := by rw [hv]; unfold skipP; rw [hm, decide_eq_false hl]; rfl
        rw [hv] at hsk
        obtain ⟨a1, a2, a3, a4⟩ := k2.resolve_left (by rw [hsk]; decide)
        cases hod : oddP v with
        | true =>
          have a5 := a4.resolve_left (by rw [hod]; decide)
          rw [stepP_odd (by rw [hv]; exact hsk) (by rw [hv]; exact hod), hv] at jr2
          (repeat' ((first | (k_unfold; (try dsimp only)) | (k_end; kc_close) | ((with_reducible show wpAny _ _ (compareOp CmpOp.In (Value.int _ _) (Value.ref _)) _ _ _); first | (k_dflt (refine' Mine.sxl_in true ?zN ?zU ?zx ?zok ?zhi ?_; (case zN => k_asm); (case zU => k_updF); (case zx => with_reducible assumption); (case zok => assumption); (case zhi => assumption); k_whole)) | (k_dflt (refine' Mine.sxl_in false ?zN ?zU ?zx ?zok ?zhi ?_; (case zN => k_asm); (case zU => k_updF); (case zx => with_reducible assumption); (case zok => assumption); (case zhi => assumption); k_whole))) | ((with_reducible show wpAny _ _ (getMethod (Value.ref _) _ _) _ _ _); first | ((with_reducible show wpAny _ _ (getMethod (Value.ref _) (Str.ofString "add") _) _ _ _); k_dflt (refine' Mine.sxl_m_add ?zN ?zU ?zx ?_; (case zN => k_asm); (case zU => k_updF); (case zx => with_reducible assumption); k_whole); (try dsimp only)) | ((with_reducible show wpAny _ _ (getMethod (Value.ref _) (Str.ofString "pop") _) _ _ _); k_dflt (refine' Mine.sxl_m_pop ?zN ?zU ?zx ?_; (case zN => k_asm); (case zU => k_updF); (case zx => with_reducible assumption); k_whole); (try dsimp only))) | ((with_reducible show wpAny _ _ (call (Value.builtin "set.add") [Value.ref _, Value.int _ _]) _ _ _); k_dflt (refine' Mine.sxl_addS ?zF ?zN ?zU ?zx ?zok ?_; (case zF => k_asm); (case zN => k_asm); (case zU => k_updF); (case zx => with_reducible assumption); (case zok => assumption); k_whole); intro h' o' tk' F' N' X'; (try dsimp only at N')) | ((with_reducible show wpAny _ _ (binaryOp Operator.RShift _ _) _ _ _); k_dflt (refine Mine.shr_lo ?_); k_whole; (try dsimp only)) | ((with_reducible show wpAny _ _ (truthy (Value.int _ _)) _ _ _); k_dflt (refine Mine.tr_odd hod ?_; k_whole); (try dsimp only)) | ((with_reducible show wpAny _ _ (eval (Expr.Name _ _) _) _ _ _); k_dflt (refine Mine.name_P (by with_reducible assumption) (by assumption) (by with_reducible (repeat (first | exact Mine.At.here | apply Mine.At.there))) (by exact Eq.refl (some (some _))) ?_; k_whole)) | ((with_reducible show wpAny _ _ (storeName _ _ _) _ _ _); k_dflt (refine Mine.store_P (by with_reducible assumption) (by k_asm) (by assumption) (by with_reducible (repeat (first | exact Mine.At.here | apply Mine.At.there))) (by rfl) ?_; k_whole; intro h' F' N'; (try dsimp only [List.set] at F'); (try k_sweep))) | walk1 | (dsimp only; walk1) | (leave1; (try dsimp only)) | fail "no step") <;> (try dsimp only)))
          exact TEndC.mk ⟨(addS x.P.1 v, addS x.P.2.1 (loP v), addS (addS (popX x.P.2.2 i) (loP v)) (loP v + 1)), _, _, _, v, _, _⟩ ⟨m, em, jr2, by with_reducible assumption, by with_reducible assumption, by with_reducible assumption⟩ (by assumption) (by assumption)
        | false =>
          rw [stepP_even (by rw [hv]; exact hsk) (by rw [hv]; exact hod), hv] at jr2
          (repeat' ((first | (k_unfold; (try dsimp only)) | (k_end; kc_close) | ((with_reducible show wpAny _ _ (compareOp CmpOp.In (Value.int _ _) (Value.ref _)) _ _ _); first | (k_dflt (refine' Mine.sxl_in true ?zN ?zU ?zx ?zok ?zhi ?_; (case zN => k_asm); (case zU => k_updF); (case zx => with_reducible assumption); (case zok => assumption); (case zhi => assumption); k_whole)) | (k_dflt (refine' Mine.sxl_in false ?zN ?zU ?zx ?zok ?zhi ?_; (case zN => k_asm); (case zU => k_updF); (case zx => with_reducible assumption); (case zok => assumption); (case zhi => assumption); k_whole))) | ((with_reducible show wpAny _ _ (getMethod (Value.ref _) _ _) _ _ _); first | ((with_reducible show wpAny _ _ (getMethod (Value.ref _) (Str.ofString "add") _) _ _ _); k_dflt (refine' Mine.sxl_m_add ?zN ?zU ?zx ?_; (case zN => k_asm); (case zU => k_updF); (case zx => with_reducible assumption); k_whole); (try dsimp only)) | ((with_reducible show wpAny _ _ (getMethod (Value.ref _) (Str.ofString "pop") _) _ _ _); k_dflt (refine' Mine.sxl_m_pop ?zN ?zU ?zx ?_; (case zN => k_asm); (case zU => k_updF); (case zx => with_reducible assumption); k_whole); (try dsimp only))) | ((with_reducible show wpAny _ _ (call (Value.builtin "set.add") [Value.ref _, Value.int _ _]) _ _ _); k_dflt (refine' Mine.sxl_addS ?zF ?zN ?zU ?zx ?zok ?_; (case zF => k_asm); (case zN => k_asm); (case zU => k_updF); (case zx => with_reducible assumption); (case zok => assumption); k_whole); intro h' o' tk' F' N' X'; (try dsimp only at N')) | ((with_reducible show wpAny _ _ (binaryOp Operator.RShift _ _) _ _ _); k_dflt (refine Mine.shr_lo ?_); k_whole; (try dsimp only)) | ((with_reducible show wpAny _ _ (truthy (Value.int _ _)) _ _ _); k_dflt (refine Mine.tr_odd hod ?_; k_whole); (try dsimp only)) | ((with_reducible show wpAny _ _ (eval (Expr.Name _ _) _) _ _ _); k_dflt (refine Mine.name_P (by with_reducible assumption) (by assumption) (by with_reducible (repeat (first | exact Mine.At.here | apply Mine.At.there))) (by exact Eq.refl (some (some _))) ?_; k_whole)) | ((with_reducible show wpAny _ _ (storeName _ _ _) _ _ _); k_dflt (refine Mine.store_P (by with_reducible assumption) (by k_asm) (by assumption) (by with_reducible (repeat (first | exact Mine.At.here | apply Mine.At.there))) (by rfl) ?_; k_whole; intro h' F' N'; (try dsimp only [List.set] at F'); (try k_sweep))) | walk1 | (dsimp only; walk1) | (leave1; (try dsimp only)) | fail "no step") <;> (try dsimp only)))
          exact TEndC.mk ⟨(addS x.P.1 v, addS x.P.2.1 (loP v), addS (popX x.P.2.2 i) (loP v)), _, _, _, v, _, _⟩ ⟨m, em, jr2, by with_reducible assumption, by with_reducible assumption, by with_reducible assumption⟩ (by assumption) (by assumption)
end
section
section
open PySem.Float64 PySem.Flt
theorem IsF.neg {x : UInt64} {a : Int} {k : Nat} (hx : IsF x a k) : IsF (neg x) (-a) k := by
  obtain ⟨⟨s, m, e, d⟩, v⟩ := hx
  refine ⟨⟨_, _, _, neg_decode d⟩, ?_⟩
  rw [neg_val d, Int.neg_mul, v, Int.neg_mul]
theorem IsF.sub {x y : UInt64} {a b : Int} {k : Nat} (hx : IsF x a k) (hy : IsF y b k) (hn : (a - b).natAbs < 2 ^ 53) (hk : k ≤ 1074) : IsF (sub x y) (a - b) k := by
  have := hx.add hy.neg (by rwa [← Int.sub_eq_add_neg]) hk
  rw [← Int.sub_eq_add_neg] at this
  unfold Float64.sub
  exact this
inductive DatN (k : Nat) : WData → Int → Prop
  | int (i : Int) : DatN k (.int i) (i * 2 ^ k)
  | flt (b : UInt64) (a : Int) : IsF b a k → DatN k (.float b) a
inductive DatsN (k : Nat) : List WData → List Int → Prop
  | nil : DatsN k [] []
  | cons {d : WData} {c : Int} {xs : List WData} {cs : List Int} : DatN k d c → DatsN k xs cs → DatsN k (d :: xs) (c :: cs)
theorem ofInt_up {i : Int} (h : i.natAbs < 2 ^ 53) (k : Nat) : IsF (ofInt i) (i * 2 ^ k) k := by
  have := (IsF.ofInt h).up k
  rwa [Nat.zero_add] at this
theorem nab {a : Int} (h0 : 0 ≤ a) (h : a < 2 ^ 52) : a.natAbs < 2 ^ 52 := by lia
theorem up53 {n : Nat} (h : n < 2 ^ 52) : n < 2 ^ 53 := Nat.lt_trans h (by decide)
theorem nab2 {a b : Int} (ha : a.natAbs < 2 ^ 52) (hb : b.natAbs < 2 ^ 52) : (a + b).natAbs < 2 ^ 53 :=
  Nat.lt_of_le_of_lt (Int.natAbs_add_le a b) (show a.natAbs + b.natAbs < 2 ^ 52 + 2 ^ 52 from Nat.add_lt_add ha hb)
theorem sum_pos {cs : List Int} (h : ∀ x ∈ cs, 0 ≤ x) : 0 ≤ cs.sum := by
  induction cs with
  | nil => exact Int.le_refl _
  | cons x r ih =>
    rw [List.sum_cons]
    exact Int.add_nonneg (h x (.head _)) (ih fun y hy => h y (.tail _ hy))
theorem lost_a {x y s : UInt64} {a b : Int} {k : Nat} (hx : IsF x a k) (hs : IsF s (a + b) k) (hy : IsF y b k) (hb : b.natAbs < 2 ^ 52) (hk : k ≤ 1074) : IsF (add (sub x s) y) 0 k := by
  have e : a - (a + b) = -b := by lia
  have h1 := hx.sub hs (by rw [e, Int.natAbs_neg]; exact up53 hb) hk
  rw [e] at h1
  have h2 := h1.add hy (by rw [Int.add_left_neg]; decide) hk
  rwa [Int.add_left_neg] at h2
theorem lost_zero {t x : UInt64} {a b : Int} {k : Nat} (ht : IsF t a k) (hx : IsF x b k) (ha : a.natAbs < 2 ^ 52) (hb : b.natAbs < 2 ^ 52) (hk : k ≤ 1074) (q : Bool) :
    IsF (if q = true then add (sub x (add t x)) t else add (sub t (add t x)) x) 0 k := by
  have hs := ht.add hx (nab2 ha hb) hk
  cases q with
  | true => rw [if_pos rfl]; exact lost_a hx (Int.add_comm a b ▸ hs) ht ha hk
  | false => rw [if_neg (by decide)]; exact lost_a ht hs hx hb hk
theorem sum3 {a b c : Int} (ha : 0 ≤ a) (hb : 0 ≤ b) (hc : 0 ≤ c) (h : a + b + c < 2 ^ 52) : 0 ≤ a + b ∧ a + b < 2 ^ 52 ∧ a < 2 ^ 52 ∧ b < 2 ^ 52 := by lia
theorem mul_up {i : Int} {k : Nat} (h : 0 ≤ i * 2 ^ k) : 0 ≤ i ∧ i ≤ i * 2 ^ k := by
  have hi : 0 ≤ i := Int.not_lt.mp fun q => Int.not_lt.mpr h (by have := Int.mul_lt_mul_of_pos_right q (two_pos k); rwa [Int.zero_mul] at this)
  refine ⟨hi, ?_⟩
  have := Int.mul_le_mul_of_nonneg_left (show (1 : Int) ≤ 2 ^ k from two_pos k) hi
  rwa [Int.mul_one] at this
theorem fits_of {i : Int} (h0 : 0 ≤ i) (h : i < 2 ^ 52) : Num.fitsLong i = true := by unfold Num.fitsLong; simp; lia
theorem sumFloats_is {k : Nat} (hk : k ≤ 1074) {xs : List WData} {cs : List Int} (D : DatsN k xs cs) : ∀ (t c : UInt64) (a : Int), (∀ x ∈ cs, 0 ≤ x) → 0 ≤ a → a + cs.sum < 2 ^ 52 → IsF t a k → IsF c 0 k → ∃ r, Num.sumFloats t c xs = some (.float r) ∧ IsF r (a + cs.sum) k := by
  induction D with
  | nil =>
    intro t c a _ h0 hs ht hc
    rw [List.sum_nil, Int.add_zero] at hs ⊢
    refine ⟨_, rfl, ?_⟩
    unfold Num.settled
    split
    · have := ht.add hc (by rw [Int.add_zero]; exact up53 (nab h0 hs)) hk
      rwa [Int.add_zero] at this
    · exact ht
  | @cons d b xs cs hd hr ih =>
    intro t c a hn h0 hs ht hc
    have hr2 : ∀ x ∈ cs, 0 ≤ x := fun x h => hn x (.tail _ h)
    rw [List.sum_cons, ← Int.add_assoc] at hs ⊢
    obtain ⟨q1, q2, q3, q4⟩ := sum3 h0 (hn b (.head _)) (sum_pos hr2) hs
    cases hd with
    | int i =>
      have hi := mul_up (hn _ (.head _))
      have hl := Int.lt_of_le_of_lt hi.2 q4
      unfold Num.sumFloats
      rw [if_pos (fits_of hi.1 hl)]
      exact ih _ _ _ hr2 q1 hs (ht.add (ofInt_up (up53 (nab hi.1 hl)) k) (up53 (nab q1 q2)) hk) hc
    | flt x _ hx =>
      unfold Num.sumFloats
      have hc2 := hc.add (lost_zero ht hx (nab h0 q3) (nab (hn b (.head _)) q4) hk (cmp (abs t) (abs x) == some .lt || isNaN t || isNaN x)) (by decide) hk
      exact ih _ _ _ hr2 q1 hs (ht.add hx (up53 (nab q1 q2)) hk) hc2
theorem isF_zero (k : Nat) : IsF 0 0 k := by
  refine ⟨⟨_, _, _, show decode 0 = .fin false 0 (-1074) by kernel_rfl⟩, ?_⟩
  rw [show val 0 = 0 by decide +kernel, Int.zero_mul, Int.zero_mul]
theorem sumInts_is {k : Nat} (hk : k ≤ 1074) {xs : List WData} {cs : List Int} (D : DatsN k xs cs) : ∀ (a : Int), (∀ x ∈ cs, 0 ≤ x) → 0 ≤ a → a * 2 ^ k + cs.sum < 2 ^ 52 → ∃ d, Num.sumInts a xs = some d ∧ DatN k d (a * 2 ^ k + cs.sum) := by
  induction D with
  | nil =>
    intro a _ h0 hs
    rw [List.sum_nil, Int.add_zero] at hs ⊢
    exact ⟨_, rfl, .int a⟩
  | @cons d b xs cs hd hr ih =>
    intro a hn h0 hs
    have hr2 : ∀ x ∈ cs, 0 ≤ x := fun x h => hn x (.tail _ h)
    have h1 := Int.mul_nonneg h0 (Int.le_of_lt (two_pos k))
    rw [List.sum_cons, ← Int.add_assoc] at hs ⊢
    obtain ⟨q1, q2, q3, q4⟩ := sum3 h1 (hn b (.head _)) (sum_pos hr2) hs
    have ha := mul_up h1
    cases hd with
    | int i =>
      have hi := mul_up (hn _ (.head _))
      unfold Num.sumInts
      rw [← Int.add_mul] at hs q1 q2 ⊢
      have hai := mul_up q1
      rw [if_pos (by rw [fits_of hi.1 (Int.lt_of_le_of_lt hi.2 q4), fits_of hai.1 (Int.lt_of_le_of_lt hai.2 q2)]; rfl)]
      exact ih _ hr2 hai.1 hs
    | flt x _ hx =>
      unfold Num.sumInts
      obtain ⟨r, e, hr'⟩ := sumFloats_is hk hr _ 0 _ hr2 q1 hs ((ofInt_up (up53 (nab ha.1 (Int.lt_of_le_of_lt ha.2 q3))) k).add hx (up53 (nab q1 q2)) hk) (isF_zero k)
      exact ⟨_, e, .flt _ _ hr'⟩
end
inductive NumsV (k : Nat) : List Value → List Int → Prop
  | nil : NumsV k [] []
  | cons {v : Value} {c : Int} {vs : List Value} {cs : List Int} : NumV v c k → NumsV k vs cs → NumsV k (v :: vs) (c :: cs)
theorem NumsV.snoc {k : Nat} {v : Value} {c : Int} (h : NumV v c k) {vs : List Value} {cs : List Int} (D : NumsV k vs cs) : NumsV k (vs ++ [v]) (cs ++ [c]) := by
  induction D with
  | nil => exact .cons h .nil
  | cons a _ ih => exact .cons a ih
open PySem.Flt in
theorem nums_i {v : Value} {d : WData} {vs : List Value} {xs : List WData} (h : NumIs v d) (h3 : ∀ (i : Nat) (v : Value), vs[i]? = some v → ∃ d, xs[i]? = some d ∧ NumIs v d) (i : Nat) (u : Value) (e : (v :: vs)[i]? = some u) : ∃ e, (d :: xs)[i]? = some e ∧ NumIs u e := by
  cases i with
  | zero => rw [← Option.some.inj e]; exact ⟨_, rfl, h⟩
  | succ j => exact h3 j u e
open PySem.Flt in
theorem NumsV.dats {k : Nat} {vs : List Value} {cs : List Int} (D : NumsV k vs cs) : ∃ xs, DatsN k xs cs ∧ vs.length = xs.length ∧ ∀ (i : Nat) (v : Value), vs[i]? = some v → ∃ d, xs[i]? = some d ∧ NumIs v d := by
  induction D with
  | nil => exact ⟨[], .nil, rfl, fun i v h => nomatch h⟩
  | cons a _ ih =>
    obtain ⟨xs, h1, h2, h3⟩ := ih
    rcases a with ⟨i, t, rfl, rfl⟩ | ⟨b, t, rfl, hb⟩
    · exact ⟨.int i :: xs, .cons (.int i) h1, congrArg Nat.succ h2, nums_i (.int i t) h3⟩
    · exact ⟨.float b :: xs, .cons (.flt b _ hb) h1, congrArg Nat.succ h2, nums_i (.float b t) h3⟩
open PySem.Flt in
theorem sum_nums {prog : Program} {w : World} {A : Around} {E : Value → Shared → Prop} {s : Shared} {Q : Value → Shared → Prop} {h₀ : Heap} {L l : Addr} {m : Locals} {news : Led} {vs : List Value} {cs : List Int} {k : Nat} (hk : k ≤ 1074) (hh : A.handled = none) (F : Fr h₀ L s.heap m) (N : News h₀ L s.heap news) (hl : s.heap.IsList l vs.toArray) (hv : NumsV k vs cs) (h0 : ∀ x ∈ cs, 0 ≤ x) (hs : cs.sum < 2 ^ 52)
    (h : ∀ h' tk v, NumV v cs.sum k → Fr h₀ L h' m → News h₀ L h' news → Q v { s with heap := h', toks := tk }) : wpAny (model prog w) A (call (.builtin "sum") [.ref l]) Q E s := by
  obtain ⟨xs, hd, hlen, hat⟩ := hv.dats
  obtain ⟨r, hr, hN⟩ := sumInts_is hk hd 0 h0 (Int.le_refl _) (by rw [Int.zero_mul, Int.zero_add]; exact hs)
  rw [Int.zero_mul, Int.zero_add] at hN
  refine call_sum_walkF hr (iter_list_ hl fun s₂ e st hfp hlI => ?_)
  subst e
  have W := (Walks.list (prog := prog) (w := w) (A := A.in1) hh _ l hlI vs.toArray).toS
  have hlen2 : vs.toArray.size = xs.length := by simpa using hlen
  rw [hlen2] at W
  refine ⟨_, _, _, _, _, _, rfl, W, st, hfp, fun i v hP => hat i v (by simpa using hP), fun s' v hv hm => ?_⟩
  obtain ⟨hp, g, d, tk, os⟩ := s'
  have kp := kept_iter hm.heap
  have hnv : NumV v cs.sum k := by
    generalize cs.sum = c at hN
    cases hv with
    | int a t => cases hN; exact .inl ⟨_, _, rfl, rfl⟩
    | float b t => cases hN with
      | flt _ _ hb => exact .inr ⟨_, _, rfl, hb⟩
  have := h hp tk v hnv (F.grownK kp) (N.grown kp)
  have e1 : g = s.gens := hm.gens
  have e2 : d = s.drawn := hm.drawn
  have e3 : os = s.os := hm.os
  subst e1 e2 e3
  exact this
end
section
noncomputable def hor (a b : Int) : List Int → Int
  | [] => 0
  | c :: l => c * b ^ l.length + a * hor a b l
theorem hor_mulc (a b g r : Int) : ∀ (l : List Int) (v : Int), hor a b (mulc g r l v) = g * b * hor a b l + r * (v * b ^ l.length + a * hor a b l)
  | [], v => by show r * v * b ^ 0 + a * 0 = g * b * 0 + r * (v * b ^ 0 + a * 0); rw [Int.pow_zero]; grind
  | c :: l, v => by
    show (g * c + r * v) * b ^ (mulc g r l c).length + a * hor a b (mulc g r l c) = g * b * (c * b ^ l.length + a * hor a b l) + r * (v * b ^ (l.length + 1) + a * (c * b ^ l.length + a * hor a b l))
    rw [mulc_len, hor_mulc a b g r l c, Int.pow_succ]
    generalize b ^ l.length = B
    generalize hor a b l = H
    grind
theorem hor_coefs (a b : Int) : ∀ (l : List (Int × Int)), hor a b (coefs l) = (l.map fun x => b * x.2 + a * x.1).foldr (· * ·) 1
  | [] => by show 1 * b ^ 0 + a * 0 = 1; rw [Int.pow_zero]; lia
  | (r, g) :: l => by
    show hor a b (mulc g r (coefs l) 0) = (b * g + a * r) * (l.map fun x => b * x.2 + a * x.1).foldr (· * ·) 1
    rw [hor_mulc, ← hor_coefs a b l]
    grind
theorem hor_sum (a b : Int) : ∀ (cs : List Int), ((List.range cs.length).map fun k => cs.getD k 0 * a ^ k * b ^ (cs.length - 1 - k)).sum = hor a b cs
  | [] => rfl
  | c :: l => by
    rw [List.length_cons, List.range_succ_eq_map, List.map_cons, List.map_map, List.sum_cons]
    show c * a ^ 0 * b ^ (l.length + 1 - 1 - 0) + _ = c * b ^ l.length + a * hor a b l
    rw [← hor_sum a b l, Int.pow_zero, Int.mul_one, Nat.add_sub_cancel, Nat.sub_zero]
    congr 1
    have e : ∀ (L : List Nat) (f : Nat → Int), a * (L.map f).sum = (L.map fun k => a * f k).sum := by
      intro L f
      induction L with
      | nil => exact Int.mul_zero a
      | cons x r ih => rw [List.map_cons, List.sum_cons, List.map_cons, List.sum_cons, Int.mul_add, ih]
    rw [e]
    congr 1
    refine List.map_congr_left fun k hk => ?_
    have hk' := List.mem_range.mp hk
    show l.getD k 0 * a ^ (k + 1) * b ^ (l.length - (k + 1)) = a * (l.getD k 0 * a ^ k * b ^ (l.length - 1 - k))
    rw [show l.length - (k + 1) = l.length - 1 - k by lia, Int.pow_succ]
    generalize b ^ (l.length - 1 - k) = B
    generalize a ^ k = A
    grind
theorem sumTo_hor {cs : List Int} {n : Nat} (h : cs.length = n + 1) (a : Int) : sumTo cs n a = hor a (32 - a) cs := by
  rw [← hor_sum, h]
  rfl
theorem keptN_prod (a : Int) : ∀ (l : List (Int × Int)) (c : Int), l.foldl (fun c x => c * dayN a x.2 x.1) c = c * ((l.reverse).map fun x => (32 - a) * x.2 + a * x.1).foldr (· * ·) 1
  | [], c => by show c = c * 1; lia
  | x :: l, c => by
    rw [List.foldl_cons, keptN_prod a l, List.reverse_cons, List.map_append, List.foldr_append]
    show c * dayN a x.2 x.1 * _ = c * List.foldr (· * ·) (((32 - a) * x.2 + a * x.1) * 1) _
    have e : ∀ (L : List Int) (z : Int), L.foldr (· * ·) z = L.foldr (· * ·) 1 * z := by
      intro L z
      induction L with
      | nil => show z = 1 * z; lia
      | cons y r ih => show y * r.foldr (· * ·) z = y * r.foldr (· * ·) 1 * z; rw [ih, Int.mul_assoc]
    rw [e _ (((32 - a) * x.2 + a * x.1) * 1), show dayN a x.2 x.1 = (32 - a) * x.2 + a * x.1 from rfl]
    grind
theorem kept_sum {rg : List (Int × Int)} {n : Nat} (h : (coefs rg.reverse).length = n + 1) (a : Int) : keptN a rg = sumTo (coefs rg.reverse) n a := by
  rw [sumTo_hor h, hor_coefs]
  show rg.foldl _ 1 = _
  rw [keptN_prod, Int.one_mul]
noncomputable def worthL (n : Nat) : List Int := (List.range (n + 1)).map fun k : Nat => (k : Int) ^ k * ((n : Int) - k) ^ (n - k)
theorem worth_3 : worthL 3 = [27, 4, 4, 27] := by decide
theorem worth_4 : worthL 4 = [256, 27, 16, 27, 256] := by decide
noncomputable def bestB (n : Nat) : Bool := (List.range 33).all fun a => (List.range (n + 1)).all fun k => decide ((a : Int) ^ k * (32 - (a : Int)) ^ (n - k) * (n : Int) ^ n ≤ (worthL n).getD k 0 * 32 ^ n)
theorem best_3 : bestB 3 = true := by decide +kernel
theorem best_4 : bestB 4 = true := by decide +kernel
theorem sum_le {f g : Nat → Int} : ∀ (L : List Nat), (∀ k ∈ L, f k ≤ g k) → (L.map f).sum ≤ (L.map g).sum
  | [], _ => Int.le_refl _
  | x :: r, h => by
    rw [List.map_cons, List.sum_cons, List.map_cons, List.sum_cons]
    have h1 := h x (.head _)
    have h2 := sum_le r fun k hk => h k (.tail _ hk)
    lia
theorem sum_mul (f : Nat → Int) (z : Int) : ∀ L : List Nat, (L.map f).sum * z = (L.map fun k => f k * z).sum
  | [] => Int.zero_mul z
  | x :: r => by rw [List.map_cons, List.sum_cons, List.map_cons, List.sum_cons, Int.add_mul, sum_mul f z r]
theorem best_of {n : Nat} (hb : bestB n = true) {cs : List Int} (hl : cs.length = n + 1) (h0 : ∀ c ∈ cs, 0 ≤ c) {a : Int} (ha : 0 ≤ a ∧ a ≤ 32) : sumTo cs n a * (n : Int) ^ n ≤ dot cs (worthL n) * 32 ^ n := by
  have e : dot cs (worthL n) = ((List.range (n + 1)).map fun k => cs.getD k 0 * (worthL n).getD k 0).sum := by
    rw [← dot_range cs (worthL n) (by rw [hl]; simp [worthL]), hl]
  rw [e]
  unfold sumTo
  rw [sum_mul, sum_mul]
  refine sum_le _ fun k hk => ?_
  have hc : 0 ≤ cs.getD k 0 := by
    rw [List.getD_eq_getElem?_getD]
    cases e : cs[k]? with
    | none => exact Int.le_refl _
    | some x => exact h0 x (List.mem_of_getElem? e)
  obtain ⟨a', rfl⟩ := Int.eq_ofNat_of_zero_le ha.1
  have h1 := List.all_eq_true.mp (List.all_eq_true.mp hb a' (List.mem_range.mpr (by lia))) k hk
  have h2 := Int.mul_le_mul_of_nonneg_left (of_decide_eq_true h1) hc
  rw [Int.mul_assoc (cs.getD k 0 * _), Int.mul_assoc (cs.getD k 0), Int.mul_assoc (cs.getD k 0), ← Int.mul_assoc ((a' : Int) ^ k)]
  exact h2
theorem dot_in : ∀ {cs P : List Int}, (∀ c ∈ cs, 0 ≤ c ∧ c < 65536) → (∀ p ∈ P, 0 ≤ p ∧ p ≤ 256) → 0 ≤ dot cs P ∧ dot cs P ≤ 16777216 * (cs.length : Int)
  | [], P, _, _ => ⟨Int.le_refl _, by show (0 : Int) ≤ _; simp⟩
  | _ :: _, [], _, _ => ⟨Int.le_refl _, by show (0 : Int) ≤ _; lia⟩
  | c :: cs, p :: P, h, g => by
    obtain ⟨a1, a2⟩ := dot_in (cs := cs) (P := P) (fun x hx => h x (.tail _ hx)) fun x hx => g x (.tail _ hx)
    have hc := h c (.head _)
    have hp := g p (.head _)
    have q1 := Int.mul_nonneg hc.1 hp.1
    have q2 : c * p ≤ 65536 * 256 := Int.mul_le_mul (by lia) hp.2 hp.1 (by decide)
    show 0 ≤ c * p + dot cs P ∧ c * p + dot cs P ≤ 16777216 * ((cs.length + 1 : Nat) : Int)
    lia
noncomputable def redsL : Nat → List Int
  | 0 => [0]
  | i + 1 => (redsL i).flatMap fun r => [r + 1, r]
theorem rNext_reds (f : Nat → Int) : ∀ (l : List (Int × Int)) (h : Nat), (rNext f h l).map (·.2) = (l.map (·.2)).flatMap fun r => [r + 1, r]
  | [], _ => rfl
  | (c, r) :: l, h => by
    show (r + 1) :: r :: (rNext f (h + 1) l).map (·.2) = _
    rw [rNext_reds f l]
    rfl
theorem rIter_reds (f : Nat → Nat → Int) : ∀ n, (rIter f n).map (·.2) = redsL n
  | 0 => rfl
  | n + 1 => by show (rNext (f n) 0 (rIter f n)).map (·.2) = _; rw [rNext_reds, rIter_reds f n]; rfl
theorem rNext_sum (f : Nat → Int) : ∀ (l : List (Int × Int)) (h : Nat), ((rNext f h l).map (·.1)).sum = (l.map (·.1)).sum * 1024
  | [], _ => rfl
  | (c, r) :: l, h => by
    show c * (32 * f h) + (c * ((32 - f h) * 32) + ((rNext f (h + 1) l).map (·.1)).sum) = (c + (l.map (·.1)).sum) * 1024
    rw [rNext_sum f l, Int.sub_mul, Int.mul_sub]
    generalize f h = F
    have : c * (32 * F) = c * (F * 32) := by rw [Int.mul_comm 32 F]
    lia
theorem rIter_sum (f : Nat → Nat → Int) : ∀ n, ((rIter f n).map (·.1)).sum = 1024 ^ n
  | 0 => rfl
  | n + 1 => by show ((rNext (f n) 0 (rIter f n)).map (·.1)).sum = _; rw [rNext_sum, rIter_sum f n, Int.pow_succ]
theorem rIter_all (f : Nat → Nat → Int) : ∀ n, ∃ c, (c, (n : Int)) ∈ rIter f n
  | 0 => ⟨1, .head _⟩
  | n + 1 => by
    obtain ⟨c, hc⟩ := rIter_all f n
    have key : ∀ (l : List (Int × Int)) (h : Nat) (x : Int × Int), x ∈ l → ∃ c, (c, x.2 + 1) ∈ rNext (f n) h l := by
      intro l
      induction l with
      | nil => intro h x hx; cases hx
      | cons a l ih =>
        intro h x hx
        rcases List.mem_cons.mp hx with rfl | hx
        · exact ⟨_, .head _⟩
        · obtain ⟨c, hc⟩ := ih (h + 1) x hx
          exact ⟨c, .tail _ (.tail _ hc)⟩
    exact key _ 0 _ hc
theorem eq_all {α : Type} {f g : α → Int} : ∀ {l : List α}, (∀ x ∈ l, f x ≤ g x) → (l.map f).sum = (l.map g).sum → ∀ x ∈ l, f x = g x
  | [], _, _, x, hx => nomatch hx
  | a :: l, h, e, x, hx => by
    rw [List.map_cons, List.sum_cons, List.map_cons, List.sum_cons] at e
    have h1 := h a (.head _)
    have h2 : (l.map f).sum ≤ (l.map g).sum := by
      clear e hx
      induction l with
      | nil => exact Int.le_refl _
      | cons b r ih =>
        rw [List.map_cons, List.sum_cons, List.map_cons, List.sum_cons]
        have := h b (.tail _ (.head _))
        have := ih fun y hy => by
          rcases List.mem_cons.mp hy with rfl | hy
          · exact h1
          · exact h y (.tail _ (.tail _ hy))
        lia
    rcases List.mem_cons.mp hx with rfl | hx
    · lia
    · exact eq_all (fun y hy => h y (.tail _ hy)) (by lia) x hx
theorem map_mul {α : Type} (f : α → Int) (z : Int) : ∀ l : List α, (l.map fun x => f x * z).sum = (l.map f).sum * z
  | [] => (Int.zero_mul z).symm
  | x :: r => by rw [List.map_cons, List.sum_cons, List.map_cons, List.sum_cons, Int.add_mul, map_mul f z r]
theorem behind_some (f : Nat → Nat → Int) (n : Nat) (W : Int → Int) (hbad : ∀ c, ((redsL n).map W).sum * c ≠ W n * 1024 ^ n) : ∃ x ∈ rIter f n, ((redsL n).map W).sum * x.1 < W x.2 * 1024 ^ n := by
  refine Classical.byContradiction fun hno => ?_
  have h : ∀ x ∈ rIter f n, W x.2 * 1024 ^ n ≤ x.1 * ((redsL n).map W).sum := fun x hx => by
    rw [Int.mul_comm x.1]
    exact Int.not_lt.mp fun q => hno ⟨x, hx, q⟩
  have e := eq_all h (by
    rw [map_mul (fun x : Int × Int => W x.2), map_mul (fun x : Int × Int => x.1), rIter_sum, Int.mul_comm]
    rw [show ((rIter f n).map fun x : Int × Int => W x.2) = ((rIter f n).map (·.2)).map W by rw [List.map_map]; rfl, rIter_reds])
  obtain ⟨c, hc⟩ := rIter_all f n
  have := e _ hc
  rw [Int.mul_comm c] at this
  exact hbad c this.symm
noncomputable def worthAt (n : Nat) (r : Int) : Int := (worthL n).getD r.toNat 0
theorem bad_3 (c : Int) : ((redsL 3).map (worthAt 3)).sum * c ≠ worthAt 3 (3 : Nat) * 1024 ^ 3 := by
  rw [show ((redsL 3).map (worthAt 3)).sum = 78 by decide, show worthAt 3 (3 : Nat) = 27 by decide, show (1024 : Int) ^ 3 = 1073741824 by decide]
  lia
theorem bad_4 (c : Int) : ((redsL 4).map (worthAt 4)).sum * c ≠ worthAt 4 (4 : Nat) * 1024 ^ 4 := by
  rw [show ((redsL 4).map (worthAt 4)).sum = 824 by decide, show worthAt 4 (4 : Nat) = 256 by decide, show (1024 : Int) ^ 4 = 1099511627776 by decide]
  lia
end
section
section
open LCg LCt
variable {prog : Program} {w : World} {A : Around} {E : Value → Shared → Prop} {s : Shared} {h₀ : Heap} {L : Addr} {m : Locals} {env : Env} {news : Led}
noncomputable abbrev PTurn (prog : Program) (w : World) (A : Around) (h₀ : Heap) (L : Addr) (m : Locals) (env : Env) (ct elt : PySem.Expr) (x x₂ : PySem.Str) (scope : Scope) (cl : List (PySem.Str × Addr)) (s : Shared) (news : Led) (vs : List Value) (J : Nat → List Value → Prop) : Prop :=
  ∀ i ys v, vs[i]? = some v → J i ys → ∃ t v₁ v₂, v = .ref t ∧ (t, ({ cls := .type "tuple", data := .seq #[v₁, v₂] } : Obj)) ∈ news ∧
    ∀ I oI C oC D m₂ h tk, NsObj oC m₂ → m₂ x = some v₁ → m₂ x₂ = some v₂ → Fr h₀ L h m → News h₀ L h ((I, oI) :: (C, oC) :: (D, lst ys) :: news) → Off3 I C D news → ((@Ne Nat I C) ∧ (@Ne Nat I D) ∧ (@Ne Nat C D)) →
      wpAny (model prog w) A (isTrue ct (compEnvC scope cl C env) (eval ct (compEnvC scope cl C env))) (fun ok s' => if ok = true then
        wpAny (model prog w) A (eval elt (compEnvC scope cl C env)) (CTurn h₀ L m { s with heap := h, toks := tk } ((I, oI) :: (C, oC) :: (D, lst ys) :: news) (fun y => J (i + 1) (ys ++ [y]))) NoE s'
        else CTurn h₀ L m { s with heap := h, toks := tk } ((I, oI) :: (C, oC) :: (D, lst ys) :: news) (fun _ => J (i + 1) ys) Value.none s') NoE { s with heap := h, toks := tk }
theorem ext_two {C : Addr} {h1 h2 h3 : Heap} (a : Heap.SameBut C h1 h2) (b : Heap.SameBut C h2 h3) : Heap.ExtBut C h1 h3 := fun x o hx e => same_ext b x o hx (same_ext a x o hx e)
theorem block_PT {ct elt iter : PySem.Expr} {x x₂ : PySem.Str} {px px₂ tp : Pos} {k9 : Nat} {scope : Scope} {cl : List (PySem.Str × Addr)} {pos : Pos} {ax : Addr} {vs : List Value} {e : Nat} {J : Nat → List Value → Prop} {RR : Value → Addr → Result → Shared → Prop}
    (hh : A.handled = none) (F : Fr h₀ L s.heap m) (N : News h₀ L s.heap news) (hm : (ax, ({ cls := .type "list", data := .seq vs.toArray e } : Obj)) ∈ news) (hz : vs.length ≤ 1000)
    (hcell : ∀ y ∈ scope.names, y.2 ≠ .cell) (hkind : scope.kind = .function) (hx : scope.names.lookup x = some .local) (hx₂ : scope.names.lookup x₂ = some .local) (hxx : x ≠ x₂)
    (j0 : J 0 []) (turn : PTurn prog w A h₀ L m env ct elt x x₂ scope cl s news vs J)
    (hRR : ∀ D C oC m' h tk ys, Fr h₀ L h m → News h₀ L h ((C, oC) :: (D, lst ys) :: news) → NsObj oC m' → (∀ p ∈ (D, lst ys) :: news, p.1 ≠ C) → Off1 D news → J vs.length ys → RR (.ref D) C (.ok .next) { s with heap := h, toks := tk }) :
    wpAny (model prog w) A (pyIter (.ref ax)) (fun it s₂ => wpAny (model prog w) A (newList []) (fun acc s₃ => wpAny (model prog w) A (newFunctionEnv scope env.globals cl [] env.qual none .none (some env)) (fun cenv s₄ =>
      codeAny (model prog w) A (.compStart (.ListComp elt [⟨.Tuple [.Name x px, .Name x₂ px₂] k9 tp, iter, [ct], 0⟩] scope pos) 0 it acc { cenv with scope := relabel scope env }) (RR acc cenv.locals) s₄) E s₃) E s₂) E s := by
  refine iterList_T F N hm fun I o h1 li F1 N1 lt1 => ?_
  refine wpAny_newObj_type (wpAny_newFunctionEnv hcell (by intro y hy; simp at hy) (fun h3 hn3 hs3 => ?_) hkind)
  dsimp only at hn3 hs3 ⊢
  obtain ⟨F2, N2, lt2⟩ := push_new F1 N1 (lst [])
  have e2 : h1.push { cls := .type "list", dict := none, data := .seq ([] : List Value).toArray } = h1.push (lst []) := rfl
  rw [e2] at hn3 hs3 ⊢
  generalize hD : h1.objs.size = D at *
  generalize h1.push (lst []) = H2 at *
  obtain ⟨F3, N3, lt3⟩ := push_new F2 N2 ({ cls := .type "dict", data := .dict #[] } : Obj)
  generalize H2.objs.size = C at *
  obtain ⟨oC, eC, hC⟩ := ns_obj hn3
  have offC0 : ∀ p ∈ (D, lst []) :: (I, o) :: news, p.1 ≠ C := fun p hp => Nat.ne_of_lt (lt3 p hp)
  obtain ⟨F4, N4⟩ := upd_same F3 N3 (UpdD.head offC0) (same_ext hs3) eC
  have nID : @Ne Nat I D := Nat.ne_of_lt (lt2 _ (.head _))
  have nIC : @Ne Nat I C := offC0 _ (.tail _ (.head _))
  have nCD : @Ne Nat C D := (offC0 _ (.head _)).symm
  have off : Off3 I C D news := Off3.of fun p hp => ⟨Nat.ne_of_lt (lt1 p hp), offC0 p (.tail _ (.tail _ hp)), Nat.ne_of_lt (lt2 p (.tail _ hp))⟩
  have N5 : News h₀ L h3 ((I, o) :: (C, oC) :: (D, lst []) :: news) := cb_drop N4 (List.forall_mem_cons.mpr ⟨.tail _ (.tail _ (.head _)), List.forall_mem_cons.mpr ⟨.head _, List.forall_mem_cons.mpr ⟨.tail _ (.head _), fun p hp => .tail _ (.tail _ (.tail _ hp))⟩⟩⟩)
  have offI : ∀ (oC : Obj) (ys : List Value), ∀ p ∈ (C, oC) :: (D, lst ys) :: news, p.1 ≠ I := fun oC ys => List.forall_mem_cons.mpr ⟨Ne.symm nIC, List.forall_mem_cons.mpr ⟨Ne.symm nID, fun p hp => (off.mem p hp).1⟩⟩
  have offC : ∀ (ys : List Value), ∀ p ∈ (D, lst ys) :: news, p.1 ≠ C := fun ys => List.forall_mem_cons.mpr ⟨Ne.symm nCD, fun p hp => (off.mem p hp).2.1⟩
  have offD : ∀ p ∈ news, p.1 ≠ D := fun p hp => (off.mem p hp).2.2
  clear N1 N2 N3 N4 F1 F2 F3 lt1 lt2 lt3 offC0 e2 eC hn3 hs3
  have loop : ∀ s₃ : Shared, s₃ = { s with heap := h3, toks := s.toks + ([] : List (PySem.Str × Value)).length } →
      codeAny (model prog w) A (.compLoop (.ListComp elt [⟨.Tuple [.Name x px, .Name x₂ px₂] k9 tp, iter, [ct], 0⟩] scope pos) 0 (.ref I) (.ref D) (compEnvC scope cl C env)) (RR (.ref D) C) s₃ := by
    rintro s₃ rfl
    refine kct_loop (fun k s' => ∃ h' tk i ys m' o oC, s' = { s with heap := h', toks := tk } ∧ k + i = vs.length + 1 ∧ i ≤ vs.length ∧ ys.length ≤ i ∧ J i ys ∧ LiOf o ax i ∧ NsObj oC m' ∧ Fr h₀ L h' m ∧ News h₀ L h' ((I, o) :: (C, oC) :: (D, lst ys) :: news))
      ?_ (vs.length + 1) ⟨h3, _, 0, [], _, o, oC, rfl, rfl, Nat.zero_le _, Nat.le_refl _, j0, li, hC, F4, N5⟩
    rintro k s' ⟨h', tk, i, ys, m', o, oC, rfl, hik, hi, hyl, j, li, hC, F', N'⟩
    by_cases hlt : i < vs.length
    · refine nextList_T (i := i) (vs := vs) (e := e) F' N' (UpdD.head (offI oC ys)) li (.tail _ (.tail _ (.tail _ hm))) (List.getElem?_eq_getElem hlt) fun o' h4 li' F4 N4 => ?_
      obtain ⟨t, v₁, v₂, hv, ht, T⟩ := turn i ys _ (List.getElem?_eq_getElem hlt) j
      dsimp only
      rw [hv]
      refine ownList_T N4 (.head _) li' ?_
      have hT : IsTup h4 t #[v₁, v₂] := ⟨_, (N4 _ (.tail _ (.tail _ (.tail _ ht)))).1, rfl, _, rfl⟩
      refine assign_Tuple_tuple hh hT rfl rfl fun h5 he => ?_
      have he' : ∀ b o, h4.get? b = some o → h5.get? b = some o := fun b o e => he b o (Nat.ne_of_lt (Heap.lt_size e)) e
      have F5 := F4.keeps he'
      have N5 := N4.grown he'
      refine assignInOrder_cons (wpAny_assign_Name (wpAny_storeName_local (lookup_relabel_local hx) (hC.ns (N5 _ (.tail _ (.head _))).1) (fun h6 hn6 hs6 => ?_) (by simp [compEnvC, relabel, hkind])))
      refine assignInOrder_cons (wpAny_assign_Name (wpAny_storeName_local (lookup_relabel_local hx₂) hn6 (fun h7 hn7 hs7 => ?_) (by simp [compEnvC, relabel, hkind])))
      refine assignInOrder_nil ?_
      obtain ⟨oC7, eC7, hC7⟩ := ns_obj hn7
      obtain ⟨F7, N7⟩ := upd_same F5 N5 (UpdD.tail nIC (UpdD.head (offC ys))) (ext_two hs6 hs7) eC7
      refine no_E (wpAny_mono (T I o' C oC7 D _ h7 _ hC7 (by simp [hxx]) (by simp) F7 N7 off ⟨nIC, nID, nCD⟩) (fun ok s₃ q => ?_) fun _ _ x => x)
      cases ok with
      | true =>
        rw [if_pos rfl] at q ⊢
        refine no_E (wpAny_mono q (fun y s₄ q => ?_) fun _ _ x => x)
        obtain ⟨h8, tk8, rfl, F8, N8, j8⟩ := q
        refine append_at (hsz := by show ys.toArray.size ≤ sizeLine; rw [List.size_toArray, sizeLine_eq]; lia) (N8 _ (.tail _ (.tail _ (.head _)))).1 fun h9 hs9 hD9 => ?_
        obtain ⟨F9, N9⟩ := upd_same F8 N8 (UpdD.tail nID (UpdD.tail nCD (UpdD.head offD))) (same_ext hs9) (hD9.trans (congrArg some (lst_snoc ys y)))
        exact ⟨k - 1, by lia, h9, tk8, i + 1, ys ++ [y], _, o', oC7, rfl, by lia, hlt, by rw [List.length_append, List.length_singleton]; lia, j8, li', hC7, F9, N9⟩
      | false =>
        rw [if_neg (by decide)] at q ⊢
        obtain ⟨h8, tk8, rfl, F8, N8, j8⟩ := q
        exact ⟨k - 1, by lia, h8, tk8, i + 1, ys, _, o', oC7, rfl, by lia, hlt, by lia, j8, li', hC7, F8, N8⟩
    · have e9 : i = vs.length := by lia
      subst e9
      refine endList_T (i := vs.length) (items := vs.toArray) (e := e) hh F' N' (UpdD.head (offI oC ys)) li (.tail _ (.tail _ (.tail _ hm))) (by rw [List.getElem?_toArray]; exact List.getElem?_eq_none (Nat.le_refl _)) fun h4 F4 N4 => ?_
      exact hRR D C oC m' h4 tk ys F4 N4 hC (offC ys) off.one j
  refine codeAny_compStart_list (loop _ rfl) ?_
  exact (Walks.list hh I ax (Ne.symm (offI oC [] (ax, _) (.tail _ (.tail _ hm))).symm) vs.toArray).self 0 _ _ _ ⟨⟨o, (N5 _ (.head _)).1, li.1, li.2⟩, ⟨_, (N5 _ (.tail _ (.tail _ (.tail _ hm)))).1, rfl, e, rfl⟩⟩ (loop _ rfl)
noncomputable def SrcPT (prog : Program) (w : World) (A : Around) (h₀ : Heap) (L : Addr) (m : Locals) (env : Env) (ct elt : PySem.Expr) (x x₂ : PySem.Str) (scope : Scope) (cl : List (PySem.Str × Addr)) (Fin : Shared → List Value → Led → Prop) (xv : Value) (s₁ : Shared) : Prop :=
  ∃ ax vs e news J, xv = .ref ax ∧ A.handled = none ∧ Fr h₀ L s₁.heap m ∧ News h₀ L s₁.heap news ∧ (ax, ({ cls := .type "list", data := .seq (List.toArray vs) e } : Obj)) ∈ news ∧ vs.length ≤ 1000 ∧ J 0 [] ∧ (∀ ys, J vs.length ys → Fin s₁ ys news) ∧
    PTurn prog w A h₀ L m env ct elt x x₂ scope cl s₁ news vs J
theorem SrcPT.mk {ct elt : PySem.Expr} {x x₂ : PySem.Str} {scope : Scope} {cl : List (PySem.Str × Addr)} {Fin : Shared → List Value → Led → Prop} {ax : Addr} {vs : List Value} {e : Nat} {s₁ : Shared} (J : Nat → List Value → Prop)
    (hh : A.handled = none) (F : Fr h₀ L s₁.heap m) (N : News h₀ L s₁.heap news) (hm : (ax, ({ cls := .type "list", data := .seq vs.toArray e } : Obj)) ∈ news) (hz : vs.length ≤ 1000) (j0 : J 0 []) (fin : ∀ ys, J vs.length ys → Fin s₁ ys news)
    (turn : PTurn prog w A h₀ L m env ct elt x x₂ scope cl s₁ news vs J) : SrcPT prog w A h₀ L m env ct elt x x₂ scope cl Fin (.ref ax) s₁ := ⟨ax, vs, e, news, J, rfl, hh, F, N, hm, hz, j0, fin, turn⟩
theorem Assign_PT {ct elt iter : PySem.Expr} {x x₂ y : PySem.Str} {px px₂ tp py : Pos} {k9 : Nat} {scope : Scope} {cl : List (PySem.Str × Addr)} {pos spos : Pos} {Q : Flow → Shared → Prop} (F₀ : Fr h₀ L s.heap m) (hLe : env.locals = L)
    (hsw : swapsWith (.ListComp elt [⟨.Tuple [.Name x px, .Name x₂ px₂] k9 tp, iter, [ct], 0⟩] scope pos) (some (.Name y py)) spos.line env = pure true)
    (hclos : closureFor scope env = pure cl) (hcell : ∀ z ∈ scope.names, z.2 ≠ .cell) (hkind : scope.kind = .function)
    (hnames : ∀ z ∈ scope.names, z.2 = .local → scope.names.lookup z.1 = some .local) (hx : scope.names.lookup x = some .local) (hx₂ : scope.names.lookup x₂ = some .local) (hxx : x ≠ x₂)
    (hy : env.kindOf y = some .local) (hp : (env.scope.kind == .class || (env.scope.kind == .module && env.locals != env.globals)) = false)
    (h : wpAny (model prog w) A (eval iter env) (SrcPT prog w A h₀ L m env ct elt x x₂ scope cl (fun s₂ => FinA h₀ L m s₂ y Q)) E s)
    (hs : ∀ x, foldedSetIterable iter env x = pure x := by intro _; rfl) :
    wpAny (model prog w) A (exec (.Assign [.Name y py] (.ListComp elt [⟨.Tuple [.Name x px, .Name x₂ px₂] k9 tp, iter, [ct], 0⟩] scope pos) spos) env) Q E s := by
  subst hLe
  rw [exec_Assign_Name_used _ _ _ _ hsw]
  refine wpAny_bind (wpAny_standAt (wpAny_bind ?_))
  show wpAny _ A (do let _ ← comprehension (.ListComp elt [⟨.Tuple [.Name x px, .Name x₂ px₂] k9 tp, iter, [ct], 0⟩] scope pos) scope env _ (newList []) false (eval iter env) (some (assign (.Name y py) env))) _ _ s
  refine wpAny_bind (wpAny_mono (wpAny_comprehension_free (use := some (assign (.Name y py) env)) (Q := fun _ s' => Q .next s') rfl hs hclos hkind hnames
    (wpAny_mono h (fun xv s₁ h₁ => ?_) fun _ _ e => e)) (fun _ s' hq => wpAny_pure (wpAny_pure hq)) fun _ _ e => e)
  obtain ⟨ax, vs, e, news, J, rfl, hh, F, N, hm, hz, j0, fin, turn⟩ := h₁
  refine block_PT hh F N hm hz hcell hkind hx hx₂ hxx j0 turn ?_
  intro D C oC m' h' tk ys F' N' hC offC o1 j
  show wpAny _ A (assign (.Name y py) env (.ref D)) _ _ _
  refine wpAny_assign_Name (wpAny_storeName_local hy F'.ns (fun h₂ hn₂ hs₂ => ?_) hp)
  have hCN := N' _ (.head _)
  have hL₀ : h₀.get? env.locals = none := Heap.get?_none_of_le F'.above
  have F₂ : Fr h₀ env.locals h₂ (fun z => if z = y then some (.ref D) else m z) := ⟨hn₂, fun b o e => hs₂.extBut b o (fun q => by rw [q, hL₀] at e; cases e) (F'.keep b o e), F'.above⟩
  refine ⟨m', (hC.ns hCN.1).sameBut hs₂ hCN.2.1, fun h'' hs'' => fin ys j D h'' _ (F₂.change hs'' hCN.2.1 hCN.2.2) (fun p hp => ?_) o1⟩
  have z : h₂.get? p.1 = some p.2 := hs₂.extBut _ _ (N' p (.tail _ hp)).2.1 (N' p (.tail _ hp)).1
  exact ⟨hs''.extBut _ _ (offC p hp) z, (N' p (.tail _ hp)).2⟩
theorem compP_fix {elt : PySem.Expr} {x x₂ : PySem.Str} {scope : Scope} {cl : List (PySem.Str × Addr)} {S : Led → Prop} {P : Nat → Value → Prop} {Fin : List Value → Led → Prop} {n : Nat} (J : Nat → List Value → Prop)
    (hS : S news) (j0 : J 0 []) (fin : ∀ ys, J n ys → Fin ys news)
    (turn : ∀ i ys v, i < n → P i v → J i ys → ∃ t v₁ v₂, v = .ref t ∧ (t, ({ cls := .type "tuple", data := .seq #[v₁, v₂] } : Obj)) ∈ news ∧
      ∀ I oI C oC D m₂ h tk, NsObj oC m₂ → m₂ x = some v₁ → m₂ x₂ = some v₂ → Fr h₀ L h m → News h₀ L h ((I, oI) :: (C, oC) :: (D, lst ys) :: news) → Off3 I C D news → ((@Ne Nat I C) ∧ (@Ne Nat I D) ∧ (@Ne Nat C D)) →
      wpAny (model prog w) A (eval elt (compEnvC scope cl C env)) (CTurn h₀ L m { s with heap := h, toks := tk } ((I, oI) :: (C, oC) :: (D, lst ys) :: news) (fun y => J (i + 1) (ys ++ [y]))) NoE { s with heap := h, toks := tk }) :
    LCp.CompRestP prog w A h₀ L m env elt x x₂ scope cl s S P Fin n 0 [] news := by
  have key : ∀ k i ys, i + k = n → J i ys → LCp.CompRestP prog w A h₀ L m env elt x x₂ scope cl s S P Fin k i ys news := by
    intro k
    induction k with
    | zero => intro i ys hi j; have e : i = n := by lia
              subst e; exact fin ys j
    | succ k ih =>
      intro i ys hi j v hP
      obtain ⟨t, v₁, v₂, hv, ht, T⟩ := turn i ys v (by lia) hP j
      refine ⟨t, _, v₁, v₂, _, hv, ht, rfl, rfl, ?_⟩
      intro I oI C oC D m₂ h tk E' hC hx hx2 F N off ne
      refine no_E (wpAny_mono (T I oI C oC D m₂ h tk hC hx hx2 F N off ne) (fun y s₂ q => ?_) fun _ _ x => x)
      obtain ⟨h', tk', rfl, F', N', j'⟩ := q
      exact ⟨h', tk', news, rfl, F', N', off, hS, ih (i + 1) (ys ++ [y]) (by lia) j'⟩
  exact key n 0 [] (by lia) j0
end
end
section
open LCg LCt
noncomputable def NoCell (o : Obj) : Prop := ∀ v, o.data ≠ .cell v
theorem noCell_list {vs : Array Value} {e : Nat} : NoCell ({ cls := .type "list", data := .seq vs e } : Obj) := fun _ h => by cases h
theorem noCell_tup {vs : Array Value} {e : Nat} : NoCell ({ cls := .type "tuple", data := .seq vs e } : Obj) := fun _ h => by cases h
noncomputable abbrev cells7 (L : Nat) (o7 o6 o5 o4 o3 o2 o1 : Obj) (rest : Led) : Led :=
  (L + 1 + 1 + 1 + 1 + 1 + 1 + 1, o7) :: (L + 1 + 1 + 1 + 1 + 1 + 1, o6) :: (L + 1 + 1 + 1 + 1 + 1, o5) :: (L + 1 + 1 + 1 + 1, o4) :: (L + 1 + 1 + 1, o3) :: (L + 1 + 1, o2) :: (L + 1, o1) :: rest
structure Off7 (L : Nat) (rest : Led) : Prop where
  f1 : ∀ p ∈ rest, p.1 ≠ L + 1
  f2 : ∀ p ∈ rest, p.1 ≠ L + 1 + 1
  f3 : ∀ p ∈ rest, p.1 ≠ L + 1 + 1 + 1
  f4 : ∀ p ∈ rest, p.1 ≠ L + 1 + 1 + 1 + 1
  f5 : ∀ p ∈ rest, p.1 ≠ L + 1 + 1 + 1 + 1 + 1
  f6 : ∀ p ∈ rest, p.1 ≠ L + 1 + 1 + 1 + 1 + 1 + 1
  f7 : ∀ p ∈ rest, p.1 ≠ L + 1 + 1 + 1 + 1 + 1 + 1 + 1
noncomputable def offB (L : Nat) (p : Addr × Obj) : Bool := decide (p.1 ≠ L + 1 ∧ p.1 ≠ L + 1 + 1 ∧ p.1 ≠ L + 1 + 1 + 1 ∧ p.1 ≠ L + 1 + 1 + 1 + 1 ∧ p.1 ≠ L + 1 + 1 + 1 + 1 + 1 ∧ p.1 ≠ L + 1 + 1 + 1 + 1 + 1 + 1 ∧ p.1 ≠ L + 1 + 1 + 1 + 1 + 1 + 1 + 1)
structure Cells (o7 o6 o5 o4 o3 o2 o1 : Obj) : Prop where
  d7 : ∃ v, o7.data = .cell v
  d6 : ∃ v, o6.data = .cell v
  d5 : ∃ v, o5.data = .cell v
  d4 : ∃ v, o4.data = .cell v
  d3 : ∃ v, o3.data = .cell v
  d2 : ∃ v, o2.data = .cell v
  d1 : ∃ v, o1.data = .cell v
theorem ne_cell {h₀ h : Heap} {L a c : Addr} {o oc : Obj} {led : Led} (N : News h₀ L h led) (h1 : (a, o) ∈ led) (h2 : (c, oc) ∈ led) (hn : NoCell o) (hc : ∃ v, oc.data = .cell v) : a ≠ c := fun e => by
  subst e
  have e1 := (N _ h1).1
  have e2 := (N _ h2).1
  have : o = oc := Option.some.inj (e1.symm.trans e2)
  subst this
  exact hn _ hc.choose_spec
theorem relay {h₀ h : Heap} {L₀ : Addr} {L : Nat} {o7 o6 o5 o4 o3 o2 o1 : Obj} {led : Led} (N : News h₀ L₀ h led) (hd : Cells o7 o6 o5 o4 o3 o2 o1) (hc : ∀ p ∈ cells7 L o7 o6 o5 o4 o3 o2 o1 [], p ∈ led) :
    ∃ rest, News h₀ L₀ h (cells7 L o7 o6 o5 o4 o3 o2 o1 rest) ∧ Off7 L rest ∧ ∀ a o, (a, o) ∈ led → NoCell o → (a, o) ∈ rest := by
  have m7 := hc _ (.head _)
  have m6 := hc _ (.tail _ (.head _))
  have m5 := hc _ (.tail _ (.tail _ (.head _)))
  have m4 := hc _ (.tail _ (.tail _ (.tail _ (.head _))))
  have m3 := hc _ (.tail _ (.tail _ (.tail _ (.tail _ (.head _)))))
  have m2 := hc _ (.tail _ (.tail _ (.tail _ (.tail _ (.tail _ (.head _))))))
  have m1 := hc _ (.tail _ (.tail _ (.tail _ (.tail _ (.tail _ (.tail _ (.head _)))))))
  refine ⟨led.filter (offB L), ?_, ?_, ?_⟩
  · exact cb_drop N (List.forall_mem_cons.mpr ⟨m7, List.forall_mem_cons.mpr ⟨m6, List.forall_mem_cons.mpr ⟨m5, List.forall_mem_cons.mpr ⟨m4, List.forall_mem_cons.mpr ⟨m3, List.forall_mem_cons.mpr ⟨m2, List.forall_mem_cons.mpr ⟨m1, fun p hp => (List.mem_filter.mp hp).1⟩⟩⟩⟩⟩⟩⟩)
  · have k : ∀ p ∈ led.filter (offB L), _ := fun p hp => of_decide_eq_true (List.mem_filter.mp hp).2
    exact ⟨fun p hp => (k p hp).1, fun p hp => (k p hp).2.1, fun p hp => (k p hp).2.2.1, fun p hp => (k p hp).2.2.2.1, fun p hp => (k p hp).2.2.2.2.1, fun p hp => (k p hp).2.2.2.2.2.1, fun p hp => (k p hp).2.2.2.2.2.2⟩
  · intro a o hm hn
    exact List.mem_filter.mpr ⟨hm, decide_eq_true ⟨ne_cell N hm m1 hn hd.d1, ne_cell N hm m2 hn hd.d2, ne_cell N hm m3 hn hd.d3, ne_cell N hm m4 hn hd.d4, ne_cell N hm m5 hn hd.d5, ne_cell N hm m6 hn hd.d6, ne_cell N hm m7 hn hd.d7⟩⟩
theorem Days.move {led led' : Led} {dl : Addr} {ee : Nat} {ps : List Addr} {rg : List (Int × Int)} (D : Days led dl ee ps rg) (hm : ∀ a o, (a, o) ∈ led → NoCell o → (a, o) ∈ led') : Days led' dl ee ps rg :=
  ⟨hm _ _ D.list noCell_list, D.len, fun i q hq => by obtain ⟨r, g, tr, tg, a, b, c, d⟩ := D.day i q hq; exact ⟨r, g, tr, tg, a, hm _ _ b noCell_tup, c, d⟩⟩
theorem Ends.move {led led' : Led} {ps : List Addr} {cr : List (Int × Int)} {k : Nat} (D : Ends led ps cr k) (hm : ∀ a o, (a, o) ∈ led → NoCell o → (a, o) ∈ led') : Ends led' ps cr k :=
  ⟨D.len, fun i q hq => by obtain ⟨v, c, r, t, a, b, d⟩ := D.at_ i q hq; exact ⟨v, c, r, t, a, b, hm _ _ d noCell_tup⟩⟩
theorem cells_ne (L : Nat) : @Ne Nat (L + 1 + 1) (L + 1) ∧ @Ne Nat (L + 1 + 1 + 1) (L + 1) ∧ @Ne Nat (L + 1 + 1 + 1 + 1) (L + 1) ∧ @Ne Nat (L + 1 + 1 + 1 + 1 + 1) (L + 1) ∧ @Ne Nat (L + 1 + 1 + 1 + 1 + 1 + 1) (L + 1) ∧ @Ne Nat (L + 1 + 1 + 1 + 1 + 1 + 1 + 1) (L + 1) ∧ @Ne Nat (L + 1 + 1 + 1) (L + 1 + 1) ∧ @Ne Nat (L + 1 + 1 + 1 + 1) (L + 1 + 1) ∧ @Ne Nat (L + 1 + 1 + 1 + 1 + 1) (L + 1 + 1) ∧ @Ne Nat (L + 1 + 1 + 1 + 1 + 1 + 1) (L + 1 + 1) ∧ @Ne Nat (L + 1 + 1 + 1 + 1 + 1 + 1 + 1) (L + 1 + 1) ∧ @Ne Nat (L + 1 + 1 + 1 + 1) (L + 1 + 1 + 1) ∧ @Ne Nat (L + 1 + 1 + 1 + 1 + 1) (L + 1 + 1 + 1) ∧ @Ne Nat (L + 1 + 1 + 1 + 1 + 1 + 1) (L + 1 + 1 + 1) ∧ @Ne Nat (L + 1 + 1 + 1 + 1 + 1 + 1 + 1) (L + 1 + 1 + 1) ∧ @Ne Nat (L + 1 + 1 + 1 + 1 + 1) (L + 1 + 1 + 1 + 1) ∧ @Ne Nat (L + 1 + 1 + 1 + 1 + 1 + 1) (L + 1 + 1 + 1 + 1) ∧ @Ne Nat (L + 1 + 1 + 1 + 1 + 1 + 1 + 1) (L + 1 + 1 + 1 + 1) ∧ @Ne Nat (L + 1 + 1 + 1 + 1 + 1 + 1) (L + 1 + 1 + 1 + 1 + 1) ∧ @Ne Nat (L + 1 + 1 + 1 + 1 + 1 + 1 + 1) (L + 1 + 1 + 1 + 1 + 1) ∧ @Ne Nat (L + 1 + 1 + 1 + 1 + 1 + 1 + 1) (L + 1 + 1 + 1 + 1 + 1 + 1) := by
  refine ⟨?_, ?_, ?_, ?_, ?_, ?_, ?_, ?_, ?_, ?_, ?_, ?_, ?_, ?_, ?_, ?_, ?_, ?_, ?_, ?_, ?_⟩ <;> lia
theorem noCell_tab {ls : Array Value} : NoCell (tabObj ls) := fun _ h => by cases h
end
section
open LCg LCt
theorem sub_toNat {n i : Nat} (h : i < n + 1) : ((n : Int) - (i : Int)).toNat = n - i := by lia
theorem n34 {n : Nat} (h : n = 3 ∨ n = 4) : 3 ≤ n ∧ n ≤ 4 := by lia
noncomputable def wdOf (x : Int) : WD := ⟨decide ((x.fdiv 512).fmod 2 = 1), decide ((x.fdiv 256).fmod 2 = 1), (startOf x + dayR x).toNat, (startOf x + dayG x).toNat, dayR x, dayG x⟩
theorem wd_word (x : Int) : wordL x = (wdOf x).txt ++ pendL (wdOf x).q := by
  unfold wordL wdOf WD.txt WD.tok pendL
  by_cases h1 : (x.fdiv 512).fmod 2 = 1 <;> by_cases h2 : (x.fdiv 256).fmod 2 = 1 <;> simp [h1, h2]
noncomputable def letB : Bool := [97, 65, 119808, 119860].all fun st => (List.range 8).all fun r => (maths.contains (st + r) || asciis.contains (st + r)) && lowOf (st + r) == 97 + r
theorem letB_ok : letB = true := by decide +kernel
theorem let_of {st r : Int} (hs : st = 97 ∨ st = 65 ∨ st = 119808 ∨ st = 119860) (hr : 0 ≤ r ∧ r ≤ 7) : isLet (st + r).toNat ∧ (lowOf (st + r).toNat : Int) - 97 = r := by
  obtain ⟨k, rfl⟩ : ∃ k : Nat, r = k := ⟨r.toNat, by lia⟩
  have hk : k ∈ List.range 8 := List.mem_range.mpr (by lia)
  have key : ∀ a : Nat, a ∈ [97, 65, 119808, 119860] → isLet (a + k) ∧ lowOf (a + k) = 97 + k := by
    intro a ha
    have h := List.all_eq_true.mp (List.all_eq_true.mp letB_ok a ha) k hk
    rw [Bool.and_eq_true, Bool.or_eq_true] at h
    exact ⟨h.1.imp (fun e => List.contains_iff_mem.mp e) (fun e => List.contains_iff_mem.mp e), eq_of_beq h.2⟩
  have fin : ∀ a : Nat, a ∈ [97, 65, 119808, 119860] → st = (a : Int) → isLet (st + (k : Int)).toNat ∧ (lowOf (st + (k : Int)).toNat : Int) - 97 = k := by
    intro a ha e
    subst e
    have e2 : ((a : Int) + (k : Int)).toNat = a + k := by lia
    rw [e2, (key a ha).2]
    exact ⟨(key a ha).1, by lia⟩
  rcases hs with h | h | h | h
  · exact fin 97 (by decide) h
  · exact fin 65 (by decide) h
  · exact fin 119808 (by decide) h
  · exact fin 119860 (by decide) h
theorem wdOf_ok (x : Int) : (wdOf x).Ok :=
  ⟨(let_of (startOf_in x) (dayR_lo x)).1, (let_of (startOf_in x) (dayG_lo x)).1, (let_of (startOf_in x) (dayR_lo x)).2, (let_of (startOf_in x) (dayG_lo x)).2, dayR_lo x, dayG_lo x⟩
theorem wText_words : ∀ ds : List Int, ds.flatMap wordL = wText (ds.map wdOf)
  | [] => rfl
  | x :: r => by rw [List.flatMap_cons, wd_word, wText_words r, List.append_assoc]; rfl
theorem join_flat : ∀ ds : List Int, PySem.Str.join (PySem.Str.ofString "") (ds.map wordS) = ⟨(ds.flatMap wordL).toArray⟩
  | [] => by show PySem.Str.empty = _; rfl
  | [x] => by
    show wordS x = _
    rw [List.flatMap_cons, List.flatMap_nil, List.append_nil]
    rfl
  | x :: y :: r => by
    show wordS x ++ PySem.Str.ofString "" ++ PySem.Str.join (PySem.Str.ofString "") ((y :: r).map wordS) = _
    rw [join_flat (y :: r), lit_0, List.flatMap_cons (x := x)]
    unfold wordS
    rw [str_app, str_app, List.append_nil]
theorem join_words (ds : List Int) : Txt.join (PySem.Str.ofString "") (ds.map wordS) = ⟨(wText (ds.map wdOf)).toArray⟩ := by
  rw [← wText_words, ← join_flat]
  exact StrLaws.glued_eq_join _ _
theorem wordL_len (x : Int) : (wordL x).length ≤ 6 := by
  unfold wordL
  by_cases h1 : (x.fdiv 512).fmod 2 = 1 <;> by_cases h2 : (x.fdiv 256).fmod 2 = 1 <;> simp [h1, h2]
theorem flat_len : ∀ ds : List Int, (ds.flatMap wordL).length ≤ 6 * ds.length
  | [] => Nat.le_refl _
  | x :: r => by
    have h1 := wordL_len x
    have h2 := flat_len r
    rw [List.flatMap_cons, List.length_append, List.length_cons]
    lia
theorem words_sum : ∀ ds : List Int, (((ds.map wordS).map (·.length)).sum) ≤ 6 * ds.length
  | [] => Nat.le_refl _
  | x :: r => by
    have h1 : (wordS x).length ≤ 6 := by show (wordL x).toArray.size ≤ 6; rw [List.size_toArray]; exact wordL_len x
    have h2 := words_sum r
    rw [List.map_cons, List.map_cons, List.sum_cons, List.length_cons]
    lia
theorem worth_at {n i : Nat} (h : i < n + 1) : (worthL n)[i]? = some ((i : Int) ^ i * ((n : Int) - i) ^ (n - i)) := by
  unfold worthL
  rw [List.getElem?_map, List.getElem?_range h]
  rfl
theorem worthL_len (n : Nat) : (worthL n).length = n + 1 := by unfold worthL; rw [List.length_map, List.length_range]
theorem worth_in {n : Nat} (h : n = 3 ∨ n = 4) : ∀ x ∈ worthL n, 0 ≤ x ∧ x ≤ 256 := by
  rcases h with rfl | rfl
  · rw [worth_3]; decide
  · rw [worth_4]; decide
theorem worth_snoc {n i : Nat} {ys : List Value} {k : Int} {t : Tok} (h : i < n + 1) (hy : IntsAre ys ((worthL n).take i)) (e : k = (i : Int) ^ i * ((n : Int) - i) ^ (n - i)) : IntsAre (ys ++ [.int k t]) ((worthL n).take (i + 1)) := by
  rw [takeS (worth_at h), e]
  exact IntsAre.snoc hy
end
section
open LCg LCt
theorem pick {h₀ h : Heap} {L₀ a : Addr} {o : Obj} {led : Led} (N : News h₀ L₀ h led) (hm : (a, o) ∈ led) : ∃ r, News h₀ L₀ h ((a, o) :: r) ∧ (∀ p ∈ r, p.1 ≠ a) ∧ ∀ b o', (b, o') ∈ led → b ≠ a → (b, o') ∈ r := by
  refine ⟨led.filter fun p => decide (p.1 ≠ a), cb_drop N (List.forall_mem_cons.mpr ⟨hm, fun p hp => (List.mem_filter.mp hp).1⟩), fun p hp => of_decide_eq_true (List.mem_filter.mp hp).2, fun b o' hb hn => List.mem_filter.mpr ⟨hb, decide_eq_true hn⟩⟩
theorem ne_obj {h₀ h : Heap} {L₀ a b : Addr} {o1 o2 : Obj} {led : Led} (N : News h₀ L₀ h led) (h1 : (a, o1) ∈ led) (h2 : (b, o2) ∈ led) (hc : o1.cls ≠ o2.cls) : a ≠ b := fun e => by
  subst e
  have e1 := (N _ h1).1
  have e2 := (N _ h2).1
  rw [e1] at e2
  cases e2
  exact hc rfl
theorem ne_tab {h₀ h : Heap} {L₀ a b : Addr} {o1 : Obj} {ls : Array Value} {led : Led} (N : News h₀ L₀ h led) (h1 : (a, o1) ∈ led) (h2 : (b, tabObj ls) ∈ led) (hc : o1.cls = .none → False) : a ≠ b := ne_obj N h1 h2 hc
theorem strs_snoc {vs : List Value} {ys : List PySem.Str} {x : PySem.Str} {t : Tok} (h : StrsAre vs ys) : StrsAre (vs ++ [.str x t]) (ys ++ [x]) := strsAre_append h (.cons x t .nil)
theorem MIs.lo {M : MA} {O : MO} {T : PySem.Str} (I : MIs M O T) : ∀ {w : World} {c : MT} {x : MS}, ∀ p ∈ mS w M O c x [], @LE.le Nat _ M.c1 p.1 := by
  intro w c x
  rw [show mS w M O c x [] = mS1 w M O c x [] from led_eq ..]
  obtain ⟨a1, a2, a3, a4, a5, a6, a7, a8, a9⟩ := I.ord
  refine List.forall_mem_cons.mpr ⟨?_, List.forall_mem_cons.mpr ⟨?_, List.forall_mem_cons.mpr ⟨?_, List.forall_mem_cons.mpr ⟨?_, List.forall_mem_cons.mpr ⟨?_, List.forall_mem_cons.mpr ⟨?_, List.forall_mem_cons.mpr ⟨?_, List.forall_mem_cons.mpr ⟨?_, List.forall_mem_cons.mpr ⟨?_, List.forall_mem_cons.mpr ⟨?_, List.forall_mem_nil _⟩⟩⟩⟩⟩⟩⟩⟩⟩⟩ <;> (dsimp only; lia)
theorem MIs.lt_d {M : MA} {O : MO} {T : PySem.Str} (I : MIs M O T) : @LT.lt Nat _ M.c1 M.at_ ∧ @LT.lt Nat _ M.c1 M.d := by
  obtain ⟨a1, a2, a3, a4, a5, a6, a7, a8, a9⟩ := I.ord
  constructor <;> lia
theorem mem_split {w : World} {M : MA} {O : MO} {c : MT} {x : MS} {rest : Led} : ∀ p ∈ mS w M O c x rest, p ∈ mS w M O c x [] ∨ p ∈ rest := by
  rw [show mS w M O c x rest = mS1 w M O c x rest from led_eq .., show mS w M O c x [] = mS1 w M O c x [] from led_eq ..]
  exact List.forall_mem_cons.mpr ⟨.inl (.head _), List.forall_mem_cons.mpr ⟨.inl (.tail _ (.head _)), List.forall_mem_cons.mpr ⟨.inl (.tail _ (.tail _ (.head _))), List.forall_mem_cons.mpr ⟨.inl (.tail _ (.tail _ (.tail _ (.head _)))), List.forall_mem_cons.mpr ⟨.inl (.tail _ (.tail _ (.tail _ (.tail _ (.head _))))), List.forall_mem_cons.mpr ⟨.inl (.tail _ (.tail _ (.tail _ (.tail _ (.tail _ (.head _)))))), List.forall_mem_cons.mpr ⟨.inl (.tail _ (.tail _ (.tail _ (.tail _ (.tail _ (.tail _ (.head _))))))), List.forall_mem_cons.mpr ⟨.inl (.tail _ (.tail _ (.tail _ (.tail _ (.tail _ (.tail _ (.tail _ (.head _)))))))), List.forall_mem_cons.mpr ⟨.inl (.tail _ (.tail _ (.tail _ (.tail _ (.tail _ (.tail _ (.tail _ (.tail _ (.head _))))))))), List.forall_mem_cons.mpr ⟨.inl (.tail _ (.tail _ (.tail _ (.tail _ (.tail _ (.tail _ (.tail _ (.tail _ (.tail _ (.head _)))))))))), fun p hp => .inr hp⟩⟩⟩⟩⟩⟩⟩⟩⟩⟩
theorem offB_of {L : Nat} {p : Addr × Obj} (h : @LT.lt Nat _ (L + 1 + 1 + 1 + 1 + 1 + 1 + 1) p.1) : offB L p = true := by
  unfold offB
  exact decide_eq_true ⟨Nat.ne_of_gt (by lia), Nat.ne_of_gt (by lia), Nat.ne_of_gt (by lia), Nat.ne_of_gt (by lia), Nat.ne_of_gt (by lia), Nat.ne_of_gt (by lia), Nat.ne_of_gt (by lia)⟩
theorem off7_of {L : Nat} {rest : Led} (k : ∀ p ∈ rest, offB L p = true) : Off7 L rest := by
  have k : ∀ p ∈ rest, _ := fun p hp => of_decide_eq_true (k p hp)
  exact ⟨fun p hp => (k p hp).1, fun p hp => (k p hp).2.1, fun p hp => (k p hp).2.2.1, fun p hp => (k p hp).2.2.2.1, fun p hp => (k p hp).2.2.2.2.1, fun p hp => (k p hp).2.2.2.2.2.1, fun p hp => (k p hp).2.2.2.2.2.2⟩
theorem layC {h₀ h : Heap} {L₀ : Addr} {L : Nat} {o7 o6 o5 o4 o3 o2 o1 : Obj} {w : World} {M : MA} {O : MO} {T : PySem.Str} {c : MT} {x : MS} {rest : Led} (I : MIs M O T) (N : News h₀ L₀ h (mS w M O c x rest)) (hd : Cells o7 o6 o5 o4 o3 o2 o1)
    (hc : ∀ p ∈ cells7 L o7 o6 o5 o4 o3 o2 o1 [], p ∈ rest) (hlo : @LT.lt Nat _ (L + 1 + 1 + 1 + 1 + 1 + 1 + 1) M.c1) :
    ∃ r, News h₀ L₀ h (cells7 L o7 o6 o5 o4 o3 o2 o1 (mS w M O c x r)) ∧ Off7 L (mS w M O c x r) ∧ (∀ a o, (a, o) ∈ rest → NoCell o → (a, o) ∈ r) ∧ ∀ p ∈ r, p ∈ rest := by
  have m7 := mem_mS (w := w) (M := M) (O := O) (c := c) (x := x) (hc _ (.head _))
  have m6 := mem_mS (w := w) (M := M) (O := O) (c := c) (x := x) (hc _ (.tail _ (.head _)))
  have m5 := mem_mS (w := w) (M := M) (O := O) (c := c) (x := x) (hc _ (.tail _ (.tail _ (.head _))))
  have m4 := mem_mS (w := w) (M := M) (O := O) (c := c) (x := x) (hc _ (.tail _ (.tail _ (.tail _ (.head _)))))
  have m3 := mem_mS (w := w) (M := M) (O := O) (c := c) (x := x) (hc _ (.tail _ (.tail _ (.tail _ (.tail _ (.head _))))))
  have m2 := mem_mS (w := w) (M := M) (O := O) (c := c) (x := x) (hc _ (.tail _ (.tail _ (.tail _ (.tail _ (.tail _ (.head _)))))))
  have m1 := mem_mS (w := w) (M := M) (O := O) (c := c) (x := x) (hc _ (.tail _ (.tail _ (.tail _ (.tail _ (.tail _ (.tail _ (.head _))))))))
  refine ⟨rest.filter (offB L), ?_, off7_of fun p hp => ?_, ?_, fun p hp => (List.mem_filter.mp hp).1⟩
  · exact cb_drop N (List.forall_mem_cons.mpr ⟨m7, List.forall_mem_cons.mpr ⟨m6, List.forall_mem_cons.mpr ⟨m5, List.forall_mem_cons.mpr ⟨m4, List.forall_mem_cons.mpr ⟨m3, List.forall_mem_cons.mpr ⟨m2, List.forall_mem_cons.mpr ⟨m1, mS_mono fun p hp => (List.mem_filter.mp hp).1⟩⟩⟩⟩⟩⟩⟩)
  · rcases mem_split p hp with hp | hp
    · exact offB_of (Nat.lt_of_lt_of_le hlo (I.lo p hp))
    · exact (List.mem_filter.mp hp).2
  · intro a o hm hn
    have hm2 := mem_mS (w := w) (M := M) (O := O) (c := c) (x := x) hm
    exact List.mem_filter.mpr ⟨hm, decide_eq_true ⟨ne_cell N hm2 m1 hn hd.d1, ne_cell N hm2 m2 hn hd.d2, ne_cell N hm2 m3 hn hd.d3, ne_cell N hm2 m4 hn hd.d4, ne_cell N hm2 m5 hn hd.d5, ne_cell N hm2 m6 hn hd.d6, ne_cell N hm2 m7 hn hd.d7⟩⟩
theorem in7 {h₀ h : Heap} {L₀ : Addr} {L : Nat} {o7 o6 o5 o4 o3 o2 o1 : Obj} {w : World} {M : MA} {O : MO} {c : MT} {x : MS} {r : Led} (N : News h₀ L₀ h (cells7 L o7 o6 o5 o4 o3 o2 o1 (mS w M O c x r))) : News h₀ L₀ h (mS w M O c x (cells7 L o7 o6 o5 o4 o3 o2 o1 r)) :=
  led_in [(L + 1 + 1 + 1 + 1 + 1 + 1 + 1, o7), (L + 1 + 1 + 1 + 1 + 1 + 1, o6), (L + 1 + 1 + 1 + 1 + 1, o5), (L + 1 + 1 + 1 + 1, o4), (L + 1 + 1 + 1, o3), (L + 1 + 1, o2), (L + 1, o1)] N
theorem out7 {h₀ h : Heap} {L₀ : Addr} {L : Nat} {o7 o6 o5 o4 o3 o2 o1 : Obj} {w : World} {M : MA} {O : MO} {c : MT} {x : MS} {r : Led} (N : News h₀ L₀ h (mS w M O c x (cells7 L o7 o6 o5 o4 o3 o2 o1 r))) : News h₀ L₀ h (cells7 L o7 o6 o5 o4 o3 o2 o1 (mS w M O c x r)) :=
  led_out [(L + 1 + 1 + 1 + 1 + 1 + 1 + 1, o7), (L + 1 + 1 + 1 + 1 + 1 + 1, o6), (L + 1 + 1 + 1 + 1 + 1, o5), (L + 1 + 1 + 1 + 1, o4), (L + 1 + 1 + 1, o3), (L + 1 + 1, o2), (L + 1, o1)] N
theorem all7 {L : Nat} {o7 o6 o5 o4 o3 o2 o1 : Obj} {r : Led} {P : Addr → Prop} (h : ∀ a, @LE.le Nat _ a (L + 1 + 1 + 1 + 1 + 1 + 1 + 1) → P a) (h2 : ∀ p ∈ r, P p.1) : ∀ p ∈ cells7 L o7 o6 o5 o4 o3 o2 o1 r, P p.1 :=
  List.forall_mem_cons.mpr ⟨h _ (Nat.le_refl _), List.forall_mem_cons.mpr ⟨h _ (by lia), List.forall_mem_cons.mpr ⟨h _ (by lia), List.forall_mem_cons.mpr ⟨h _ (by lia), List.forall_mem_cons.mpr ⟨h _ (by lia), List.forall_mem_cons.mpr ⟨h _ (by lia), List.forall_mem_cons.mpr ⟨h _ (by lia), h2⟩⟩⟩⟩⟩⟩⟩
theorem out_mach {h₀ h : Heap} {L₀ : Addr} {L : Nat} {o7 o6 o5 o4 o3 o2 o1 : Obj} {w : World} {M : MA} {O : MO} {c : MT} {x : MS} {r : Led} (N : News h₀ L₀ h (cells7 L o7 o6 o5 o4 o3 o2 o1 (mS w M O c x r))) : News h₀ L₀ h (cells7 L o7 o6 o5 o4 o3 o2 o1 r) :=
  cb_drop N (sub_keep (sub_keep (sub_keep (sub_keep (sub_keep (sub_keep (sub_keep fun _ h => mem_mS h)))))))
theorem all7m {L : Nat} {o7 o6 o5 o4 o3 o2 o1 : Obj} {led r : Led} {k : Nat} (h : ∀ (a : Addr), a ≠ k → ∀ o, (a, o) ∈ led → (a, o) ∈ r) (hk : k < L) (hc : ∀ p ∈ cells7 L o7 o6 o5 o4 o3 o2 o1 [], p ∈ led) : ∀ p ∈ cells7 L o7 o6 o5 o4 o3 o2 o1 [], p ∈ r :=
  List.forall_mem_cons.mpr ⟨h _ (Nat.ne_of_gt (by lia)) _ (hc _ (.head _)), List.forall_mem_cons.mpr ⟨h _ (Nat.ne_of_gt (by lia)) _ (hc _ (.tail _ (.head _))), List.forall_mem_cons.mpr ⟨h _ (Nat.ne_of_gt (by lia)) _ (hc _ (.tail _ (.tail _ (.head _)))), List.forall_mem_cons.mpr ⟨h _ (Nat.ne_of_gt (by lia)) _ (hc _ (.tail _ (.tail _ (.tail _ (.head _))))), List.forall_mem_cons.mpr ⟨h _ (Nat.ne_of_gt (by lia)) _ (hc _ (.tail _ (.tail _ (.tail _ (.tail _ (.head _)))))), List.forall_mem_cons.mpr ⟨h _ (Nat.ne_of_gt (by lia)) _ (hc _ (.tail _ (.tail _ (.tail _ (.tail _ (.tail _ (.head _))))))), List.forall_mem_cons.mpr ⟨h _ (Nat.ne_of_gt (by lia)) _ (hc _ (.tail _ (.tail _ (.tail _ (.tail _ (.tail _ (.tail _ (.head _)))))))), List.forall_mem_nil _⟩⟩⟩⟩⟩⟩⟩
theorem wText_len (ds : List Int) (h : ds.length ≤ 4) : (wText (ds.map wdOf)).length ≤ 24 := by
  have := flat_len ds
  rw [wText_words] at this
  lia
theorem mem7 {L : Nat} {o7 o6 o5 o4 o3 o2 o1 : Obj} {r : Led} {q : Addr × Obj} (h : q ∈ r) : q ∈ cells7 L o7 o6 o5 o4 o3 o2 o1 r := .tail _ (.tail _ (.tail _ (.tail _ (.tail _ (.tail _ (.tail _ h))))))
theorem sub7 {L : Nat} {o7 o6 o5 o4 o3 o2 o1 : Obj} {r : Led} : ∀ p ∈ cells7 L o7 o6 o5 o4 o3 o2 o1 [], p ∈ cells7 L o7 o6 o5 o4 o3 o2 o1 r := sub_keep (sub_keep (sub_keep (sub_keep (sub_keep (sub_keep (sub_keep fun _ h => nomatch h))))))
theorem DaysP.move {led led' : Led} {ps : List Addr} {ds : List WD} (D : DaysP led ps ds) (hm : ∀ a o, (a, o) ∈ led → NoCell o → (a, o) ∈ led') : DaysP led' ps ds :=
  ⟨D.len, fun i q hq => by obtain ⟨d, tr, tg, a, b⟩ := D.day i q hq; exact ⟨d, tr, tg, a, hm _ _ b noCell_tup⟩⟩
section
variable {w : World} {p : Program} {loose : List PySem.Str} {mean : ExcName → Option Value} {mg mb : Locals} {h₀ : Heap} {L : Addr} {m : Locals} {news : Led} {s : Shared} {Q E : Value → Shared → Prop}
theorem eqS_true {prog : Program} {A : Around} {x y : PySem.Str} {t u : Tok} (e : (x == y) = true) (h : Q (.bool true) s) : wpAny (model prog w) A (compareOp .Eq (.str x t) (.str y u)) Q E s := eq_str (by rw [e]; exact h)
theorem eqI_true {prog : Program} {A : Around} {x y : Int} {t u : Tok} (e : x = y) (h : Q (.bool true) s) : wpAny (model prog w) A (compareOp .Eq (.int x t) (.int y u)) Q E s := eq_int (by rw [e, beq_self_eq_true]; exact h)
theorem read_n (M : MA) (O : MO) (T : PySem.Str) (I : MIs M O T) (ct : MT) (x : MS) (ds : List WD) (n : Nat) (tn : Tok) (e : ds.length = n) (hx : T.cps.toList.drop x.k = wText ds) (hok : ∀ d ∈ ds, d.Ok) (hn : ds.length ≤ 4) (hsz : T.length ≤ sizeLine)
    (C : CodeHd h₀ 181 177) (hA : ∀ p ∈ news, p.1 ≠ M.at_) (hD : ∀ p ∈ news, p.1 ≠ M.d)
    (hret : ∀ h' tk' l e ps (x' : MS) pd' rest, T.cps.toList.drop x'.k = pendL pd' → x'.ln + b2i pd' = x.ln + (n : Int) → DaysP rest ps ds → (∀ p ∈ news, p ∈ rest) → (l, ({ cls := .type "list", data := .seq (ps.map Value.ref).toArray e } : Obj)) ∈ rest → (∀ p ∈ rest, p.1 ≠ M.at_ ∧ p.1 ≠ M.d) →
      Fr h₀ L h' m → News h₀ L h' (mS w M O ct x' rest) → Q (.ref l) { s with heap := h', toks := tk' }) :
      Spec w p loose mean mg mb 40 300 (.ref 187) [.ref M.x, .int (n : Int) tn] h₀ L m (mS w M O ct x news) s Q E := by
  subst e
  exact read_g M O T I ct x ds tn hx hok hn hsz C hA hD hret
end
end
section
open LCg LCt
theorem pick2 {h₀ h : Heap} {L₀ a b : Addr} {p1 p2 : Array Value} {led : Led} (N : News h₀ L₀ h led) (h1 : (a, tabObj p1) ∈ led) (h2 : (b, tabObj p2) ∈ led) : ∃ r, News h₀ L₀ h ((a, tabObj p1) :: (b, tabObj p2) :: r) ∧ (∀ p ∈ r, p.1 ≠ a ∧ p.1 ≠ b) ∧
    (∀ c o', (c, o') ∈ led → c ≠ a → c ≠ b → (c, o') ∈ r) ∧ ∀ c o', (c, o') ∈ led → (o'.cls = .none → False) → (c, o') ∈ r := by
  have key : ∀ c o', (c, o') ∈ led → c ≠ a → c ≠ b → (c, o') ∈ led.filter fun p => decide (p.1 ≠ a ∧ p.1 ≠ b) := fun c o' hc ha hb => List.mem_filter.mpr ⟨hc, decide_eq_true ⟨ha, hb⟩⟩
  refine ⟨led.filter fun p => decide (p.1 ≠ a ∧ p.1 ≠ b), cb_drop N (List.forall_mem_cons.mpr ⟨h1, List.forall_mem_cons.mpr ⟨h2, fun p hp => (List.mem_filter.mp hp).1⟩⟩), fun p hp => of_decide_eq_true (List.mem_filter.mp hp).2, key, ?_⟩
  intro c o' hc hn
  exact key c o' hc (ne_tab N hc h1 hn) (ne_tab N hc h2 hn)
theorem all7n {L : Nat} {o7 o6 o5 o4 o3 o2 o1 : Obj} {led r : Led} {k l : Nat} (h : ∀ (a : Addr) (o : Obj), (a, o) ∈ led → a ≠ k → a ≠ l → (a, o) ∈ r) (hk : k < L) (hl : l < L) (hc : ∀ p ∈ cells7 L o7 o6 o5 o4 o3 o2 o1 [], p ∈ led) : ∀ p ∈ cells7 L o7 o6 o5 o4 o3 o2 o1 [], p ∈ r :=
  List.forall_mem_cons.mpr ⟨h _ _ (hc _ (.head _)) (Nat.ne_of_gt (by lia)) (Nat.ne_of_gt (by lia)), List.forall_mem_cons.mpr ⟨h _ _ (hc _ (.tail _ (.head _))) (Nat.ne_of_gt (by lia)) (Nat.ne_of_gt (by lia)), List.forall_mem_cons.mpr ⟨h _ _ (hc _ (.tail _ (.tail _ (.head _)))) (Nat.ne_of_gt (by lia)) (Nat.ne_of_gt (by lia)), List.forall_mem_cons.mpr ⟨h _ _ (hc _ (.tail _ (.tail _ (.tail _ (.head _))))) (Nat.ne_of_gt (by lia)) (Nat.ne_of_gt (by lia)), List.forall_mem_cons.mpr ⟨h _ _ (hc _ (.tail _ (.tail _ (.tail _ (.tail _ (.head _)))))) (Nat.ne_of_gt (by lia)) (Nat.ne_of_gt (by lia)), List.forall_mem_cons.mpr ⟨h _ _ (hc _ (.tail _ (.tail _ (.tail _ (.tail _ (.tail _ (.head _))))))) (Nat.ne_of_gt (by lia)) (Nat.ne_of_gt (by lia)), List.forall_mem_cons.mpr ⟨h _ _ (hc _ (.tail _ (.tail _ (.tail _ (.tail _ (.tail _ (.tail _ (.head _)))))))) (Nat.ne_of_gt (by lia)) (Nat.ne_of_gt (by lia)), List.forall_mem_nil _⟩⟩⟩⟩⟩⟩⟩
noncomputable def dayP (x : Int) : Int × Int := (dayR x, dayG x)
theorem Days.moveT {led led' : Led} {dl : Addr} {ee : Nat} {ps : List Addr} {rg : List (Int × Int)} (D : Days led dl ee ps rg) (hm : ∀ a o, (a, o) ∈ led → (o.cls = .none → False) → (a, o) ∈ led') : Days led' dl ee ps rg :=
  ⟨hm _ _ D.list (fun h => by cases h), D.len, fun i q hq => by obtain ⟨r, g, tr, tg, a, b, c, d⟩ := D.day i q hq; exact ⟨r, g, tr, tg, a, hm _ _ b (fun h => by cases h), c, d⟩⟩
theorem days_of {led : Led} {l : Addr} {e : Nat} {ps : List Addr} {ds : List Int} (D : DaysP led ps (ds.map wdOf)) (hl : (l, ({ cls := .type "list", data := .seq (ps.map Value.ref).toArray e } : Obj)) ∈ led) : Days led l e ps (ds.map dayP) := by
  refine ⟨hl, by rw [D.len, List.length_map, List.length_map], fun i q hq => ?_⟩
  obtain ⟨d, tr, tg, h1, h2⟩ := D.day i q hq
  rw [List.getElem?_map] at h1
  obtain ⟨x, hx, rfl⟩ := Option.map_eq_some_iff.mp h1
  exact ⟨dayR x, dayG x, tr, tg, by rw [List.getElem?_map, hx]; rfl, h2, dayR_lo x, dayG_lo x⟩
theorem day_pos {ds : List Int} : ∀ x ∈ ds.map dayP, 1 ≤ x.1 + x.2 := by
  intro x hx
  obtain ⟨d, _, rfl⟩ := List.mem_map.mp hx
  show 1 ≤ dayR d + dayG d
  have h1 := dayR_lo d
  have h2 := dayG_lo d
  unfold dayR dayG at *
  split at h1 <;> split at h2 <;> simp_all <;> lia
theorem pairs_two {D : List (Int × Value)} {a x b y : Int} (h : PyProof.V.FlatPairs PyData.int D [(.int a, .int x), (.int b, .int y)]) : ∃ t u, D = [(a, .int x t), (b, .int y u)] := by
  cases h with
  | cons f1 h => cases h with
    | cons f2 h => cases h; obtain ⟨t, rfl⟩ := f1.int_inv; obtain ⟨u, rfl⟩ := f2.int_inv; exact ⟨t, u, rfl⟩
theorem pairs_three {D : List (Int × Value)} {a x b y c z : Int} (h : PyProof.V.FlatPairs PyData.int D [(.int a, .int x), (.int b, .int y), (.int c, .int z)]) : ∃ t u v, D = [(a, .int x t), (b, .int y u), (c, .int z v)] := by
  cases h with
  | cons f1 h => cases h with
    | cons f2 h => cases h with
      | cons f3 h => cases h; obtain ⟨t, rfl⟩ := f1.int_inv; obtain ⟨u, rfl⟩ := f2.int_inv; obtain ⟨v, rfl⟩ := f3.int_inv; exact ⟨t, u, v, rfl⟩
theorem news_tl {h₀ h : Heap} {L₀ : Addr} {a : Addr × Obj} {l : Led} (N : News h₀ L₀ h (a :: l)) : News h₀ L₀ h l := cb_drop N fun _ hp => .tail _ hp
theorem isInt_self {w : World} (n : Int) (t : Tok) : (PySem.intKind prg w).is n (.int n t) = true := by
  show Value.isInt n (.int n t) = true
  simp [Value.isInt]
theorem draws_sum : ∀ {ds : List Int}, (∀ d ∈ ds, isDraw d) → 0 ≤ ds.sum ∧ ds.sum ≤ 1000000 * (ds.length : Int)
  | [], _ => ⟨Int.le_refl _, Int.le_refl _⟩
  | d :: r, h => by
    have h1 := h d (.head _)
    obtain ⟨h2, h3⟩ := draws_sum (ds := r) fun x hx => h x (.tail _ hx)
    unfold isDraw at h1
    rw [List.sum_cons, List.length_cons]
    lia
theorem redsL_in : ∀ (n : Nat), ∀ r ∈ redsL n, 0 ≤ r ∧ r ≤ (n : Int)
  | 0, r, h => by rw [List.mem_singleton.mp h]; decide
  | n + 1, r, h => by
    obtain ⟨q, hq, hr⟩ := List.mem_flatMap.mp h
    have := redsL_in n q hq
    rcases List.mem_cons.mp hr with rfl | hr
    · lia
    · rw [List.mem_singleton.mp hr]; lia
theorem reds_in {f : Nat → Nat → Int} {n : Nat} {x : Int × Int} (h : x ∈ rIter f n) : 0 ≤ x.2 ∧ x.2 < ((worthL n).length : Int) := by
  have := redsL_in n x.2 (by rw [← rIter_reds f n]; exact List.mem_map_of_mem h)
  rw [worthL_len]
  lia
theorem mul_w {a b : Int} (h : 0 ≤ a ∧ a ≤ 256) : IntMulOk a b := IntMulOk.of_left (intBits_le_64 (by lia) (by lia))
theorem ltV_b {prog : Program} {w : World} {A : Around} {E : Value → Shared → Prop} {s : Shared} {x : Value} {a d : Int} {k : Nat} {u : Tok} {b : Bool} {Q : Value → Shared → Prop} (hx : NumV x a k) (hk : k ≤ 1074) (e : decide (a < d * 2 ^ k) = b) (h : Q (.bool b) s) : wpAny (model prog w) A (compareOp .Lt x (.int d u)) Q E s :=
  ltV hx hk (by rw [e]; exact h)
noncomputable def totW (n : Nat) : Int := ((redsL n).map (worthAt n)).sum
theorem totW_is (f : Nat → Nat → Int) (n : Nat) : ((rIter f n).map fun x => worthAt n x.2).sum = totW n := by
  unfold totW
  rw [← rIter_reds f n, List.map_map]
  rfl
theorem totW_in {n : Nat} (h : n = 3 ∨ n = 4) : 0 ≤ totW n ∧ totW n ≤ 1000 := by rcases h with rfl | rfl <;> decide +kernel
theorem behind_n (f : Nat → Nat → Int) {n : Nat} (h : n = 3 ∨ n = 4) : ∃ x ∈ rIter f n, totW n * x.1 < worthAt n x.2 * 1024 ^ n := by
  refine behind_some f n (worthAt n) ?_
  rcases h with rfl | rfl
  · exact bad_3
  · exact bad_4
theorem scale_n {n : Nat} (h : n = 3 ∨ n = 4) : (32 : Int) ^ n * 2 ^ (0 + 5 * n) = 1024 ^ n := by rcases h with rfl | rfl <;> decide +kernel
theorem pow1024_n {n : Nat} (h : n = 3 ∨ n = 4) : pow1024 n ≤ 1099511627776 := by rcases h with rfl | rfl <;> decide +kernel
theorem worthAt_in {n : Nat} (h : n = 3 ∨ n = 4) (r : Int) : 0 ≤ (worthL n).getD r.toNat 0 ∧ (worthL n).getD r.toNat 0 ≤ 256 := by
  have := getD_in (l := worthL n) (B := 257) (by decide) (fun x hx => by have := worth_in h x hx; lia) r.toNat
  lia
theorem tot_b {t c : Int} (ht : 0 ≤ t ∧ t ≤ 1000) (hc : 0 ≤ c ∧ c ≤ 1099511627776) : (t * c).natAbs < 2 ^ 53 := by
  have h1 : 0 ≤ t * c := Int.mul_nonneg ht.1 hc.1
  have h2 : t * c ≤ 1000 * 1099511627776 := Int.mul_le_mul ht.2 hc.2 hc.1 (by decide)
  lia
theorem abs_53 {a : Int} (h : 0 ≤ a ∧ a ≤ 1099511627776) : a.natAbs < 2 ^ 53 := by lia
theorem abs_t {a : Int} (h : 0 ≤ a ∧ a ≤ 1000) : (a * 2 ^ 0).natAbs < 2 ^ 53 := by rw [Int.pow_zero, Int.mul_one]; lia
theorem refs_at {ps : List Addr} {i : Nat} {v : Value} (h : (ps.map Value.ref)[i]? = some v) : ∃ q, ps[i]? = some q ∧ v = .ref q := by
  rw [List.getElem?_map] at h
  obtain ⟨q, h1, h2⟩ := Option.map_eq_some_iff.mp h
  exact ⟨q, h1, h2.symm⟩
section
variable {w : World} {p : Program} {loose : List PySem.Str} {mean : ExcName → Option Value} {mg mb : Locals} {h₀ : Heap} {L : Addr} {m : Locals} {news : Led} {s : Shared} {Q E : Value → Shared → Prop}
theorem pow_n (n : Nat) (hn : n = 3 ∨ n = 4) (t t' t'' : Tok)
    (hret : ∀ s' a o' D u, s'.gens = s.gens ∧ s'.os = s.os → o'.IsDictOf (intKind prg w) D → valueAt D (n : Int) = some (.int (32 ^ n) u) → AllLt a news → Fr h₀ L s'.heap m → News h₀ L s'.heap ((a, o') :: news) → Q (.ref a) s') :
      Spec w p loose mean mg mb 4 60 (.ref 29) [.int (2 * (n : Int)) t, .int 32 t', .int 1 t''] h₀ L m news s Q E := by
  rcases hn with rfl | rfl
  · refine pow_g 6 [1, 3] 6 t t' t'' (by decide +kernel) (by decide +kernel) _ (.inl ⟨rfl, rfl⟩) run_6 ?_
    intro s' a o' D go _ hd hf hl F N
    obtain ⟨t, u, rfl⟩ := pairs_two hf
    exact hret s' a o' _ u go hd rfl hl F N
  · refine pow_g 8 [1, 2, 4] 5 t t' t'' (by decide +kernel) (by decide +kernel) _ (.inr ⟨rfl, rfl⟩) run_8 ?_
    intro s' a o' D go _ hd hf hl F N
    obtain ⟨t, u, v, rfl⟩ := pairs_three hf
    exact hret s' a o' _ v go hd rfl hl F N
end
section
variable {prog : Program} {w : World} {A : Around} {E : Value → Shared → Prop} {s : Shared} {h₀ : Heap} {L : Addr} {led : Led}
noncomputable def dayD (rg : List (Int × Int)) : List PyData := rg.map fun x => .tuple [.int x.1, .int x.2]
theorem readsDays {h : Heap} {dl : Addr} {ee : Nat} (N : News h₀ L h led) : ∀ {ps : List Addr} {rg : List (Int × Int)}, ps.length = rg.length → (∀ (i : Nat) (q : Addr), ps[i]? = some q → ∃ r g tr tg, rg[i]? = some (r, g) ∧ (q, ({ cls := .type "tuple", data := .seq #[.int r tr, .int g tg] } : Obj)) ∈ led) →
    ∃ as, ReadsAll h (ps.map Value.ref) (dayD rg) as := by
  intro ps
  induction ps with
  | nil =>
    intro rg hl _
    rw [List.length_eq_zero_iff.mp hl.symm]
    exact ⟨_, .nil⟩
  | cons q ps ih =>
    intro rg hl hd
    cases rg with
    | nil => cases hl
    | cons x rg =>
      obtain ⟨r', g', tr, tg, e, hm⟩ := hd 0 q rfl
      obtain ⟨as, ih⟩ := ih (Nat.succ.inj hl) fun i q hq => hd (i + 1) q hq
      cases Option.some.inj e
      exact ⟨_, .cons (.tuple (N _ hm).1 rfl rfl (.cons (.int _ tr) (.cons (.int _ tg) .nil))) ih⟩
theorem lay_days : ∀ rg : List (Int × Int), PyData.canLayAll0 (dayD rg) = true ∧ PyData.depthAll (dayD rg) ≤ 2
  | [] => by simp [dayD, PyData.canLayAll0, PyData.depthAll]
  | x :: r => by
    obtain ⟨h1, h2⟩ := lay_days r
    unfold dayD at *
    rw [List.map_cons]
    constructor
    · simp only [PyData.canLayAll0, PyData.canLay0, h1, Bool.and_true, Bool.and_self]
    · simp only [PyData.depthAll, PyData.depth] at *
      lia
theorem noMix_days : ∀ rg : List (Int × Int), SeqAt.noMixAll (dayD rg) (dayD rg) = true
  | [] => by simp [dayD, SeqAt.noMixAll]
  | x :: r => by
    have h := noMix_days r
    unfold dayD at *
    rw [List.map_cons]
    simp only [SeqAt.noMixAll, SeqAt.noMix, h, Bool.and_true, Bool.and_self]
theorem shaped_days (rg : List (Int × Int)) : SeqAt.shaped (.list (dayD rg)) = true := by
  obtain ⟨h1, h2⟩ := lay_days rg
  unfold SeqAt.shaped
  rw [Bool.and_eq_true]
  refine ⟨by simp only [PyData.canLay0]; exact h1, decide_eq_true ?_⟩
  simp only [PyData.depth]
  lia
theorem eq_days {a b : Addr} {ea eb : Nat} {ps qs : List Addr} {rg : List (Int × Int)} {Q : Value → Shared → Prop} (N : News h₀ L s.heap led) (Da : Days led a ea ps rg) (Db : Days led b eb qs rg) (hu : A.units + 64 < cLine)
    (h : Q (.bool true) s) : wpAny (model prog w) A (compareOp .Eq (.ref a) (.ref b)) Q E s := by
  obtain ⟨as, ra⟩ := readsDays (dl := a) (ee := ea) N Da.len fun i q hq => by obtain ⟨r, g, tr, tg, e, hm, _⟩ := Da.day i q hq; exact ⟨r, g, tr, tg, e, hm⟩
  obtain ⟨bs, rb⟩ := readsDays (dl := b) (ee := eb) N Db.len fun i q hq => by obtain ⟨r, g, tr, tg, e, hm, _⟩ := Db.day i q hq; exact ⟨r, g, tr, tg, e, hm⟩
  refine eq_dataH_same (.list (N _ Da.list).1 rfl rfl ra) (.list (N _ Db.list).1 rfl rfl rb) (shaped_days rg) (shaped_days rg) hu ?_ ?_
  · simp only [SeqAt.noMix]; exact noMix_days rg
  · rw [PySem.Spec.same_self]; exact h
end
end
section
open LCg LCt
section
variable {prog : Program} {w : World} {A : Around} {E : Value → Shared → Prop} {s : Shared} {h₀ : Heap} {L : Addr} {m : Locals} {env : Env} {news : Led}
theorem comp_grow {elt : PySem.Expr} {x : PySem.Str} {scope : Scope} {cl : List (PySem.Str × Addr)} {S : Led → Prop} {P : Nat → Value → Prop} {Fin : List Value → Led → Prop} {n : Nat} (J : Nat → List Value → Led → Prop)
    (hS : ∀ i ys led, J i ys led → S led) (j0 : J 0 [] news) (fin : ∀ ys led, J n ys led → Fin ys led)
    (turn : ∀ i ys led v I oI C oC D m₂ h tk, i < n → J i ys led → P i v → NsObj oC m₂ → m₂ x = some v → Fr h₀ L h m → News h₀ L h ((I, oI) :: (C, oC) :: (D, lst ys) :: led) → Off3 I C D led → ((@Ne Nat I C) ∧ (@Ne Nat I D) ∧ (@Ne Nat C D)) →
      wpAny (model prog w) A (eval elt (compEnvC scope cl C env)) (CompEnd h₀ L m { s with heap := h, toks := tk } I oI C oC D (lst ys) (fun _ => True) (fun y led' => J (i + 1) (ys ++ [y]) led')) NoE { s with heap := h, toks := tk }) :
    CompRest prog w A h₀ L m env elt x scope cl s S P Fin n 0 [] news := by
  have key : ∀ k i ys led, i + k = n → J i ys led → CompRest prog w A h₀ L m env elt x scope cl s S P Fin k i ys led := by
    intro k
    induction k with
    | zero => intro i ys led hi j; have e : i = n := by lia
              subst e; exact fin ys led j
    | succ k ih =>
      intro i ys led hi j v I oI C oC D m₂ h tk E' hP hC hx F N off ne
      refine no_E (wpAny_mono (turn i ys led v I oI C oC D m₂ h tk (by lia) j hP hC hx F N off ne) (fun y s₂ q => ?_) fun _ _ x => x)
      obtain ⟨h', tk', led', rfl, F', N', off', _, j'⟩ := q
      exact ⟨h', tk', led', rfl, F', N', off', hS _ _ _ j', ih (i + 1) (ys ++ [y]) led' (by lia) j'⟩
  exact key n 0 [] news (by lia) j0
theorem hue_list : ∀ j ∈ (List.map (fun a => a) (rangeInts 0 1 (12 - 0 : Int).toNat) ++ [31, 43] : List Int), HueOk (hueB j) j ∧ 0 ≤ j ∧ j ≤ 63 ∧ (j ≤ 31 ∨ 42 < j) := by
  have e : (List.map (fun a => a) (rangeInts 0 1 (12 - 0 : Int).toNat) ++ [31, 43] : List Int) = hues.map fun k : Nat => (k : Int) := by decide +kernel
  rw [e]
  intro j hj
  obtain ⟨k, hk, rfl⟩ := List.mem_map.mp hj
  have hb : ∀ k ∈ hues, k ≤ 63 ∧ (k ≤ 31 ∨ 42 < k) := by decide
  have := hb k hk
  exact ⟨hue_of hk, by lia, by lia, by lia⟩
theorem best_n {n : Nat} (h : n = 3 ∨ n = 4) : bestB n = true := by
  rcases h with rfl | rfl
  · exact best_3
  · exact best_4
theorem scale_5 {n : Nat} (h : n = 3 ∨ n = 4) : (1024 : Int) ^ n = 32 ^ n * 2 ^ (5 * n) := by rcases h with rfl | rfl <;> decide +kernel
theorem sum_52 {n : Nat} (h : n = 3 ∨ n = 4) : (1024 : Int) ^ n < 2 ^ 52 := by rcases h with rfl | rfl <;> decide +kernel
theorem eq_nil {a b : Addr} {Q : Value → Shared → Prop} (hl : s.heap.IsList a ([] : List Value).toArray) (hl' : s.heap.IsList b ([] : List Value).toArray) (hu : A.units + 64 < cLine) (h : Q (.bool true) s) : wpAny (model prog w) A (compareOp .Eq (.ref a) (.ref b)) Q E s :=
  eq_intsK hl .nil hl' .nil hu (by rw [decide_eq_true rfl]; exact h)
theorem ne_nil {a b : Addr} {vs : List Value} {ks : List Int} {Q : Value → Shared → Prop} (hk : ks ≠ []) (hl : s.heap.IsList a vs.toArray) (hi : IntsAre vs ks) (hl' : s.heap.IsList b ([] : List Value).toArray) (hu : A.units + 64 < cLine) (h : Q (.bool true) s) : wpAny (model prog w) A (compareOp .NotEq (.ref a) (.ref b)) Q E s :=
  ne_intsK hl hi hl' .nil hu (by rw [decide_eq_false hk]; exact h)
theorem range_take {f : Nat → Int} {n i : Nat} (h : i < n) : (((List.range n).map f).take (i + 1)) = ((List.range n).map f).take i ++ [f i] := takeS (by rw [List.getElem?_map, List.getElem?_range h]; rfl)
end
end
section
open LCg LCt
noncomputable def LawEnd (g : Heap) (L : Addr) (s : Shared) (f : Flow) (s' : Shared) : Prop :=
  f = .ret (.bool true) ∧ s'.gens = s.gens ∧ s'.os = s.os ∧ ∃ h' m' news p1 p2 p3, Fr g L s'.heap m' ∧ News g L s'.heap news ∧ (31, tabObj p1) ∈ news ∧ (38, tabObj p2) ∈ news ∧ (177, tabObj p3) ∈ news ∧ h' = s'.heap
theorem law_post {M : Model} {A : Around} {α : Type} {x : Sem α} {P Q : α → Shared → Prop} {E : Value → Shared → Prop} {s : Shared} (h : wpAny M A x P NoE s) (k : ∀ f s', P f s' → Q f s') : wpAny M A x Q E s := no_E (wpAny_mono h k fun _ _ e => e)
theorem law_holds : PySem.Challenge.rw_to0071_01.Holds := by
  w_on
  refine Mine.headOf ?hw rfl rfl rfl ?hc
  case hw => w_witness2
  case hc =>
    intro w s₀ s₁ mg mb G Y fa o pm cd doc dV kV ho hd hcd hD hmg hg args vals as hpre hlay hrd hwl hlo
    have KX := km_in_of Y
    have hT8 := km_tabs_of Y
    have X := (Ground.X G).1
    have V := (Ground.X G).2
    refine Ground.open G ?_
    intro T B D TE TW
    try (refine guard_noD D (by decide +kernel) ?_; clear D)
    km_lay T hmg ho hd cd
    clear hmg
    wrow_args hpre hlay hrd hwl hlo
    all_goals (
      first | refine callC_kw (enter_call ?_) | refine enter_call ?_
      w_top on
      kn_posts
      w_call any ho hd hcd hD T F
      clear hd
      kn_ghosts F T
      k_drop
      skip)
    rename_i tk1 o7 o6 o5 o4 o3 o2 o1 d7 d6 d5 d4 d3 d2 d1 X0 Xh Th Bh Fh C1 C2 Nh hTl l0
    rename (IntsAre _ _) => hi
    rename (¬ _ < _) => hlen
    have C3 := codeHd
    have hl := lifted
    have F0 : Fr _ _ _ (look [PySem.Str.ofString "script", PySem.Str.ofString "draws", PySem.Str.ofString "machine", PySem.Str.ofString "ended", PySem.Str.ofString "rival", PySem.Str.ofString "behind"] _) := Mine.start_C (bs := [(PySem.Str.ofString "script", _)]) (ns' := [PySem.Str.ofString "draws", PySem.Str.ofString "machine", PySem.Str.ofString "ended", PySem.Str.ofString "rival", PySem.Str.ofString "behind"]) (k := 5) Fh (by with_unfolding_all rfl)
    have hcl : Cells o7 o6 o5 o4 o3 o2 o1 := ⟨⟨_, d7⟩, ⟨_, d6⟩, ⟨_, d5⟩, ⟨_, d4⟩, ⟨_, d3⟩, ⟨_, d2⟩, ⟨_, d1⟩⟩
    clear hcd hD G Y ho hT8 hT9 X V T B TE TW codeHd lifted d7 d6 d5 d4 d3 d2 d1 X0 Fh
    generalize ghostOf s₁.heap [(35, 31), (42, 38), (181, 177)] = g0 at *
    generalize s₁.heap.objs.size = L0 at *
    obtain ⟨ns, hi, hn⟩ : ∃ ns, IntsAre _ ns ∧ ns.length ≤ 63 := ⟨_, hi, by lia⟩
    dsimp only
    obtain ⟨r0, N0, ⟨x1, x2, x3, x4, x5, x6, x7⟩, m0⟩ := relay Nh hcl (by ((repeat (refine List.forall_mem_cons.mpr ⟨by k_mem, ?_⟩)); exact List.forall_mem_nil _))
    have t31 := m0 31 _ (by k_mem) noCell_tab
    have t38 := m0 38 _ (by k_mem) noCell_tab
    have t177 := m0 177 _ (by k_mem) noCell_tab
    clear Nh m0 hTl hlen
    replace F0 : Fr g0 L0 _ (look [PySem.Str.ofString "script", PySem.Str.ofString "draws", PySem.Str.ofString "machine", PySem.Str.ofString "ended", PySem.Str.ofString "rival", PySem.Str.ofString "behind"] [some (.ref _), none, none, none, none, none]) := F0
    have nd9 : Mine.NoDup [PySem.Str.ofString "script", PySem.Str.ofString "draws", PySem.Str.ofString "machine", PySem.Str.ofString "ended", PySem.Str.ofString "rival", PySem.Str.ofString "behind"] := Mine.NoDup.of (by decide +kernel)
    obtain ⟨y1, y2, y3, y4, y5, y6, y7, y8, y9, y10, y11, y12, y13, y14, y15, y16, y17, y18, y19, y20, y21⟩ := cells_ne L0
    have hdp : callerA.depth + 100 < recursionLimit := by decide +kernel
    have hun : callerA.units + 1000 < cLine := by decide +kernel
    obtain ⟨⟨vc7, dc7⟩, ⟨vc6, dc6⟩, ⟨vc5, dc5⟩, ⟨vc4, dc4⟩, ⟨vc3, dc3⟩, ⟨vc2, dc2⟩, ⟨vc1, dc1⟩⟩ := id hcl
    refine law_post (P := LawEnd g0 L0 s₁) ?_ ?_
    case refine_2 =>
      intro f s' hend
      obtain ⟨rfl, e1, e2, h', m', news, p1, p2, p3, F, N, t1, t2, t3, rfl⟩ := hend
      refine ⟨⟨.inl ⟨.bool true, .bool true, [], rfl, ?_, ?_, ?_, ?_⟩, F.keep, e2, e1.trans hg⟩, ?_⟩
      · intro cls; rfl
      · exact .bool true
      · kernel_rfl
      · exact fun _ => ⟨List.nodup_nil, fun a h => nomatch h⟩
      · exact ⟨GrownAt.of N t1, GrownAt.of N t2, GrownAt.of N t3, trivial⟩
    (repeat' (first | (k_unfold; (try dsimp only)) | (k_end; kc_close) | ((with_reducible show wpAny _ _ (callWith _ (Value.ref _) _ _ _) _ _ _); k_dflt (refine' callWith_K ?k1 ?k2 ?_; (case k1 => k_asm); (case k2 => k_is); k_whole)) | ((with_reducible show wpAny _ _ (call (Value.ref _) _) _ _ _); refine of_stop9 ?_) | ((with_reducible show wpAny _ _ (eval (Expr.Name _ _) _) _ _ _); k_dflt (refine Mine.name_P (by with_reducible assumption) (by assumption) (by with_reducible (repeat (first | exact Mine.At.here | apply Mine.At.there))) (by exact Eq.refl (some (some _))) ?_; k_whole)) | ((with_reducible show wpAny _ _ (storeName _ _ _) _ _ _); k_dflt (refine Mine.store_P (by with_reducible assumption) (by k_asm) (by assumption) (by with_reducible (repeat (first | exact Mine.At.here | apply Mine.At.there))) (by rfl) ?_; k_whole; intro h' F' N'; (try dsimp only [List.set] at F'); (try k_sweep))) | walk1 | (dsimp only; walk1) | (leave1; (try dsimp only)) | fail "no step"))
    unfold Stop9
    k_dflt (refine' Mine.draws_g _ _ _ hl hi hn ?_ _ _ _ _ _ _ _ _ _ _ _ ?c1 ?c2 ?c3 ?c4 ?c5 ?c6 ?c7 ?c8; (case c1 => k_asm); (case c2 => k_asm); (case c3 => k_asm); (case c4 => k_asm); (case c5 => k_asm); (case c6 => first | assumption | exact rfl); (case c7 => k_room); (case c8 => k_room); k_whole)
    intro h1 tk1 dl ee ws ds iw hd3 hdd F1 N1
    have hn34 := n34 hd3
    obtain ⟨r1, N2, ⟨z1, z2, z3, z4, z5, z6, z7⟩, m1⟩ := relay N1 hcl (by ((repeat (refine List.forall_mem_cons.mpr ⟨by k_mem, ?_⟩)); exact List.forall_mem_nil _))
    have mdl := m1 dl _ (.head _) noCell_list
    replace t31 := m1 31 _ (by k_mem) noCell_tab
    replace t38 := m1 38 _ (by k_mem) noCell_tab
    replace t177 := m1 177 _ (by k_mem) noCell_tab
    dsimp only [cells7] at N2
    clear N1 N0 m1 x1 x2 x3 x4 x5 x6 x7
    (try dsimp only)
    (repeat' (first | (k_unfold; (try dsimp only)) | (k_end; kc_close) | ((with_reducible show wpAny _ _ (callWith _ (Value.ref _) _ _ _) _ _ _); k_dflt (refine' callWith_K ?k1 ?k2 ?_; (case k1 => k_asm); (case k2 => k_is); k_whole)) | ((with_reducible show wpAny _ _ (eval (PySem.Expr.ListComp _ _ _ _) _) _ _ _); k_dflt (refine LCg.ListComp_U (F₀ := by k_asm) (by rfl) (by decide) (by rfl) (by decide) (by rfl) ?_)) | ((with_reducible show LCg.CompSrc _ _ _ _ _ _ _ _ _ _ _ _ (Value.ref _) _); refine of_stop9 ?_) | ((with_reducible show wpAny _ _ (call (Value.builtin "len") [Value.ref _]) _ _ _); k_dflt (refine Mine.len_I (by k_asm) (by k_mem) (by with_reducible assumption) (by lia) ?_; k_whole); intro t' tk'; (try dsimp only)) | ((with_reducible show wpAny _ _ (eval (Expr.Name _ _) _) _ _ _); k_dflt (refine Mine.name_P (by with_reducible assumption) (by assumption) (by with_reducible (repeat (first | exact Mine.At.here | apply Mine.At.there))) (by exact Eq.refl (some (some _))) ?_; k_whole)) | ((with_reducible show wpAny _ _ (storeName _ _ _) _ _ _); k_dflt (refine Mine.store_P (by with_reducible assumption) (by k_asm) (by assumption) (by with_reducible (repeat (first | exact Mine.At.here | apply Mine.At.there))) (by rfl) ?_; k_whole; intro h' F' N'; (try dsimp only [List.set] at F'); (try k_sweep))) | walk1 | (dsimp only; walk1) | (leave1; (try dsimp only)) | fail "no step"))
    rename (IntsAre ws ds) => hids
    rename_i tk5 h5 oN FN NN dN en9 hb9 h4 tk4 t1 u1 v1 hr4 F4 N4 k4
    have hz9 := hb9
    unfold Stop9
    generalize hn9 : ds.length = n at *
    have hn4 : n = 3 ∨ n = 4 := hd3
    have hcl2 : Cells o7 o6 o5 o4 o3 o2 oN := ⟨hcl.d7, hcl.d6, hcl.d5, hcl.d4, hcl.d3, hcl.d2, ⟨_, dN⟩⟩
    k_dflt (refine Mine.src_range (n := n + 1) (by rfl) F4 N4 hr4 ?zb ?zc ?_; (case zb => rfl); (case zc => lia); intro g')
    refine comp_fix (fun i ys => IntsAre ys ((worthL n).take i)) trivial .nil (fun ys hy => ?_) ?_
    · intro D2 h2 tk2 F2 N2 off2
      rw [List.take_of_length_le (Nat.le_of_eq (worthL_len n))] at hy
      clear z1 z2 z3 z4 z5 z6 z7
      obtain ⟨r2, N3, ⟨z1, z2, z3, z4, z5, z6, z7⟩, m2⟩ := relay N2 hcl2 (by ((repeat (refine List.forall_mem_cons.mpr ⟨by k_mem, ?_⟩)); exact List.forall_mem_nil _))
      have mw := m2 D2 _ (.head _) noCell_list
      replace mdl := m2 dl _ (by k_mem) noCell_list
      replace t31 := m2 31 _ (by k_mem) noCell_tab
      replace t38 := m2 38 _ (by k_mem) noCell_tab
      replace t177 := m2 177 _ (by k_mem) noCell_tab
      dsimp only [cells7] at N3
      clear N2 m2 off2
      (try dsimp only)
      (repeat' (first | (k_unfold; (try dsimp only)) | (k_end; kc_close) | ((with_reducible show wpAny _ _ (callWith _ (Value.ref _) _ _ _) _ _ _); k_dflt (refine' callWith_K ?k1 ?k2 ?_; (case k1 => k_asm); (case k2 => k_is); k_whole)) | ((with_reducible show wpAny _ _ (eval (PySem.Expr.ListComp _ _ _ _) _) _ _ _); k_dflt (refine LCg.ListComp_U (F₀ := by k_asm) (by rfl) (by decide) (by rfl) (by decide) (by rfl) ?_)) | ((with_reducible show LCg.CompSrc _ _ _ _ _ _ _ _ _ _ _ _ (Value.ref _) _); refine of_stop9 ?_) | ((with_reducible show wpAny _ _ (call (Value.ref _) _) _ _ _); refine of_stop9 ?_) | ((with_reducible show wpAny _ _ (eval (Expr.Name _ _) _) _ _ _); k_dflt (refine Mine.name_P (by with_reducible assumption) (by assumption) (by with_reducible (repeat (first | exact Mine.At.here | apply Mine.At.there))) (by exact Eq.refl (some (some _))) ?_; k_whole)) | ((with_reducible show wpAny _ _ (storeName _ _ _) _ _ _); k_dflt (refine Mine.store_P (by with_reducible assumption) (by k_asm) (by assumption) (by with_reducible (repeat (first | exact Mine.At.here | apply Mine.At.there))) (by rfl) ?_; k_whole; intro h' F' N'; (try dsimp only [List.set] at F'); (try k_sweep))) | walk1 | (dsimp only; walk1) | (leave1; (try dsimp only)) | fail "no step"))
      rename_i h6 o2w F6 N6 d2w
      unfold Stop9
      have hcl3 : Cells o7 o6 o5 o4 o3 o2w oN := ⟨hcl.d7, hcl.d6, hcl.d5, hcl.d4, hcl.d3, ⟨_, d2w⟩, ⟨_, dN⟩⟩
      k_dflt (refine Mine.src_list (by rfl) F6 N6 (by k_mem) (by lia) ?_; intro g2)
      (try dsimp only)
      refine comp_fix (fun i ys => StrsAre ys ((ds.take i).map wordS)) (.inr ⟨_, by k_mem, rfl, _, rfl⟩) .nil (fun ys3 hy3 => ?_) ?_
      · intro D3 h7 tk7 F7 N7 off7
        rw [List.take_of_length_le (by lia)] at hy3
        have hys := words_sum ds
        (try dsimp only)
        (repeat' (first | (k_unfold; (try dsimp only)) | (k_end; kc_close) | ((with_reducible show wpAny _ _ (callWith _ (Value.ref _) _ _ _) _ _ _); k_dflt (refine' callWith_K ?k1 ?k2 ?_; (case k1 => k_asm); (case k2 => k_is); k_whole)) | ((with_reducible show wpAny _ _ (call (Value.ref _) _) _ _ _); refine of_stop9 ?_) | ((with_reducible show wpAny _ _ (call (Value.builtin "str.join") _) _ _ _); (show wpAny _ _ (call (Value.builtin "str.join") [Value.str _ _, Value.ref _]) _ _ _); k_dflt (refine join_listW (by exact Mine.list_at (by k_asm) (by k_mem)) (by exact hy3) (by decide +kernel) (by rw [List.length_map]; lia) ?_; k_whole); intro t7 k7) | ((with_reducible show wpAny _ _ (eval (Expr.Name _ _) _) _ _ _); k_dflt (refine Mine.name_P (by with_reducible assumption) (by assumption) (by with_reducible (repeat (first | exact Mine.At.here | apply Mine.At.there))) (by exact Eq.refl (some (some _))) ?_; k_whole)) | ((with_reducible show wpAny _ _ (storeName _ _ _) _ _ _); k_dflt (refine Mine.store_P (by with_reducible assumption) (by k_asm) (by assumption) (by with_reducible (repeat (first | exact Mine.At.here | apply Mine.At.there))) (by rfl) ?_; k_whole; intro h' F' N'; (try dsimp only [List.set] at F'); (try k_sweep))) | walk1 | (dsimp only; walk1) | (leave1; (try dsimp only)) | fail "no step"))
        unfold Stop9
        rw [join_words]
        clear z1 z2 z3 z4 z5 z6 z7
        obtain ⟨r3, N8, n177, m8⟩ := pick (a := 177) N7 (by k_mem)
        have hcc : ∀ p ∈ cells7 L0 o7 o6 o5 o4 o3 o2w oN [], p ∈ r3 := all7m (fun a ha o ho => m8 a o ho ha) l0.2.2 (by ((repeat (refine List.forall_mem_cons.mpr ⟨by k_mem, ?_⟩)); exact List.forall_mem_nil _))
        have mdl8 := m8 dl _ (by k_mem) (ne_tab N7 (a := dl) (ls := #[]) (by k_mem) (by k_mem) (by intro h; cases h))
        have mw8 := m8 D2 _ (by k_mem) (ne_tab N7 (a := D2) (ls := #[]) (by k_mem) (by k_mem) (by intro h; cases h))
        have t31b := m8 31 _ (by k_mem) (by decide)
        have t38b := m8 38 _ (by k_mem) (by decide)
        clear N7 m8 off7 N6 hys mdl mw t31 t38 t177
        k_dflt (refine' Mine.mach_c _ _ C3 n177 ?_ _ _ _ _ _ _ _ _ _ _ _ ?c1 ?c2 ?c3 ?c4 ?c5 ?c6 ?c7 ?c8; (case c1 => k_asm); (case c2 => k_asm); (case c3 => k_asm); (case c4 => k_asm); (case c5 => k_asm); (case c6 => first | assumption | exact rfl); (case c7 => k_room); (case c8 => k_room); k_whole)
        intro s8 M O tk8 q1 q2 q3 q4 ql qw ls go8 I hlt F8 N8
        obtain ⟨ct, hct⟩ : ∃ ct : MT, ct = ⟨q1, q2, q3, q4, qw⟩ := ⟨_, rfl⟩
        obtain ⟨x0, hx0⟩ : ∃ x0 : MS, x0 = ⟨1, 0, ql, tk8, 0⟩ := ⟨_, rfl⟩
        have N9 : News g0 L0 s8.heap (mS w M O ct x0 ((177, tabObj ls) :: r3)) := by rw [hct, hx0]; exact N8
        clear N8
        have hc1 : @LT.lt Nat _ (L0 + 1 + 1 + 1 + 1 + 1 + 1 + 1) M.c1 := hlt _ (hcc _ (.head _))
        obtain ⟨r4, N10, ⟨z1, z2, z3, z4, z5, z6, z7⟩, m4, s4⟩ := layC I N9 hcl3 (fun p hp => .tail _ (hcc p hp)) hc1
        have mdl := m4 dl _ (.tail _ mdl8) noCell_list
        have mw := m4 D2 _ (.tail _ mw8) noCell_list
        have t31 := m4 31 _ (.tail _ t31b) noCell_tab
        have t38 := m4 38 _ (.tail _ t38b) noCell_tab
        have t177 := m4 177 _ (.head _) noCell_tab
        have hlo4 : ∀ p ∈ r4, @LT.lt Nat _ p.1 M.c1 := fun p hp => by
          rcases List.mem_cons.mp (s4 p hp) with rfl | hp
          · exact Nat.lt_trans (by lia) hc1
          · exact hlt p hp
        clear N9 m4 s4 mdl8 mw8 t31b t38b hlt hcc n177
        generalize hX : mS w M O ct x0 r4 = X at *
        (try dsimp only)
        (repeat' (first | (k_unfold; (try dsimp only)) | (k_end; kc_close) | ((with_reducible show wpAny _ _ (callWith _ (Value.ref _) _ _ _) _ _ _); k_dflt (refine' callWith_K ?k1 ?k2 ?_; (case k1 => k_asm); (case k2 => k_is); k_whole)) | ((with_reducible show wpAny _ _ (call (Value.ref _) _) _ _ _); refine of_stop9 ?_) | ((with_reducible show wpAny _ _ (eval (Expr.Name _ _) _) _ _ _); k_dflt (refine Mine.name_P (by with_reducible assumption) (by assumption) (by with_reducible (repeat (first | exact Mine.At.here | apply Mine.At.there))) (by exact Eq.refl (some (some _))) ?_; k_whole)) | ((with_reducible show wpAny _ _ (storeName _ _ _) _ _ _); k_dflt (refine Mine.store_P (by with_reducible assumption) (by k_asm) (by assumption) (by with_reducible (repeat (first | exact Mine.At.here | apply Mine.At.there))) (by rfl) ?_; k_whole; intro h' F' N'; (try dsimp only [List.set] at F'); (try k_sweep))) | walk1 | (dsimp only; walk1) | (leave1; (try dsimp only)) | fail "no step"))
        rename (Fr g0 L0 _ _) => F9
        rename (News g0 L0 _ _) => N9
        unfold Stop9
        subst hX
        have hA4 := all7 (L := L0) (o7 := o7) (o6 := o6) (o5 := o5) (o4 := o4) (o3 := o3) (o2 := o2w) (o1 := oN) (P := fun a => a ≠ M.at_) (fun a h => Nat.ne_of_lt (Nat.lt_of_le_of_lt h (Nat.lt_trans hc1 I.lt_d.1))) (fun p hp => Nat.ne_of_lt (Nat.lt_trans (hlo4 p hp) I.lt_d.1))
        have hD4 := all7 (L := L0) (o7 := o7) (o6 := o6) (o5 := o5) (o4 := o4) (o3 := o3) (o2 := o2w) (o1 := oN) (P := fun a => a ≠ M.d) (fun a h => Nat.ne_of_lt (Nat.lt_of_le_of_lt h (Nat.lt_trans hc1 I.lt_d.2))) (fun p hp => Nat.ne_of_lt (Nat.lt_trans (hlo4 p hp) I.lt_d.2))
        have hwl : (ds.map wdOf).length = n := by rw [List.length_map]; exact hn9
        have hx9 : ((⟨(wText (ds.map wdOf)).toArray⟩ : PySem.Str).cps.toList.drop x0.k) = wText (ds.map wdOf) := by rw [hx0]; rfl
        have hok9 : ∀ d ∈ ds.map wdOf, d.Ok := fun d hd => by obtain ⟨x, _, rfl⟩ := List.mem_map.mp hd; exact wdOf_ok x
        have hsz9 : (⟨(wText (ds.map wdOf)).toArray⟩ : PySem.Str).length ≤ sizeLine := by
          have := wText_len ds (by lia)
          rw [sizeLine_eq]
          show (wText (ds.map wdOf)).toArray.size ≤ _
          rw [List.size_toArray]
          lia
        k_dflt (refine' Mine.read_n M O _ I ct x0 (ds.map wdOf) n _ hwl hx9 hok9 (by lia) hsz9 C3 hA4 hD4 ?_ _ _ _ _ _ _ _ _ _ _ _ ?c1 ?c2 ?c3 ?c4 ?c5 ?c6 ?c7 ?c8; (case c1 => k_asm); (case c2 => k_asm); (case c3 => k_asm); (case c4 => exact Mine.in7 (by with_reducible assumption)); (case c5 => k_asm); (case c6 => first | assumption | exact rfl); (case c7 => k_room); (case c8 => k_room); k_whole)
        clear hA4 hD4
        intro h10 tk10 l10 e10 ps10 x10 pd10 r10 hdr hln hDP hsub hml hne10 F10 N10
        have hln10 : x10.ln + b2i pd10 = (n : Int) + 1 := by rw [hln, hx0]; exact Int.add_comm 1 _
        clear z1 z2 z3 z4 z5 z6 z7
        obtain ⟨r11, N11, ⟨z1, z2, z3, z4, z5, z6, z7⟩, m11, s11⟩ := layC I N10 hcl3 (fun p hp => hsub p (sub7 p hp)) hc1
        replace mdl := m11 dl _ (hsub _ (mem7 mdl)) noCell_list
        replace mw := m11 D2 _ (hsub _ (mem7 mw)) noCell_list
        replace t31 := m11 31 _ (hsub _ (mem7 t31)) noCell_tab
        replace t38 := m11 38 _ (hsub _ (mem7 t38)) noCell_tab
        replace t177 := m11 177 _ (hsub _ (mem7 t177)) noCell_tab
        have mld := m11 _ _ hml noCell_list
        have hDP2 := hDP.move m11
        have hne11 : ∀ p ∈ r11, p.1 ≠ M.at_ ∧ p.1 ≠ M.d := fun p hp => hne10 p (s11 p hp)
        clear N10 hDP hml hsub m11 s11 hne10 hlo4 hln hx9 hct hx0 N9 F9 hok9
        generalize hX : mS w M O ct x10 r11 = X at *
        (try dsimp only)
        (repeat' (first | (k_unfold; (try dsimp only)) | (k_end; kc_close) | ((with_reducible show wpAny _ _ (callWith _ (Value.ref _) _ _ _) _ _ _); k_dflt (refine' callWith_K ?k1 ?k2 ?_; (case k1 => k_asm); (case k2 => k_is); k_whole)) | ((with_reducible show wpAny _ _ (exec (Stmt.Assign _ (PySem.Expr.BoolOp _ _ _) _) _) _ _ _); refine of_stop9 ?_) | ((with_reducible show wpAny _ _ (eval (Expr.Name _ _) _) _ _ _); k_dflt (refine Mine.name_P (by with_reducible assumption) (by assumption) (by with_reducible (repeat (first | exact Mine.At.here | apply Mine.At.there))) (by exact Eq.refl (some (some _))) ?_; k_whole)) | ((with_reducible show wpAny _ _ (storeName _ _ _) _ _ _); k_dflt (refine Mine.store_P (by with_reducible assumption) (by k_asm) (by assumption) (by with_reducible (repeat (first | exact Mine.At.here | apply Mine.At.there))) (by rfl) ?_; k_whole; intro h' F' N'; (try dsimp only [List.set] at F'); (try k_sweep))) | walk1 | (dsimp only; walk1) | (leave1; (try dsimp only)) | fail "no step"))
        rename (Fr g0 L0 _ _) => F12
        rename (News g0 L0 _ _) => N12
        rename (Obj.data _ = Data.cell (some (Value.ref l10))) => d3d
        rename Obj => o3d
        unfold Stop9
        have hcl4 : Cells o7 o6 o5 o4 o3d o2w oN := ⟨hcl.d7, hcl.d6, hcl.d5, hcl.d4, ⟨_, d3d⟩, ⟨_, d2w⟩, ⟨_, dN⟩⟩
        subst hX
        dsimp only [mS, mLed2] at N12
        (repeat' (first | (k_unfold; (try dsimp only)) | (k_end; kc_close) | ((with_reducible show wpAny _ _ (callWith _ (Value.ref _) _ _ _) _ _ _); k_dflt (refine' callWith_K ?k1 ?k2 ?_; (case k1 => k_asm); (case k2 => k_is); k_whole)) | ((with_reducible show wpAny _ _ (call (Value.ref 78) _) _ _ _); refine of_stop9 ?_) | ((with_reducible show wpAny _ _ (eval (Expr.Name _ _) _) _ _ _); k_dflt (refine Mine.name_P (by with_reducible assumption) (by assumption) (by with_reducible (repeat (first | exact Mine.At.here | apply Mine.At.there))) (by exact Eq.refl (some (some _))) ?_; k_whole)) | ((with_reducible show wpAny _ _ (storeName _ _ _) _ _ _); k_dflt (refine Mine.store_P (by with_reducible assumption) (by k_asm) (by assumption) (by with_reducible (repeat (first | exact Mine.At.here | apply Mine.At.there))) (by rfl) ?_; k_whole; intro h' F' N'; (try dsimp only [List.set] at F'); (try k_sweep))) | walk1 | (dsimp only; walk1) | (leave1; (try dsimp only)) | fail "no step"))
        unfold Stop9
        have hA4 := all7 (L := L0) (o7 := o7) (o6 := o6) (o5 := o5) (o4 := o4) (o3 := o3d) (o2 := o2w) (o1 := oN) (P := fun a => a ≠ M.at_) (fun a h => Nat.ne_of_lt (Nat.lt_of_le_of_lt h (Nat.lt_trans hc1 I.lt_d.1))) (fun p hp => (hne11 p hp).1)
        have hD4 := all7 (L := L0) (o7 := o7) (o6 := o6) (o5 := o5) (o4 := o4) (o3 := o3d) (o2 := o2w) (o1 := oN) (P := fun a => a ≠ M.d) (fun a h => Nat.ne_of_lt (Nat.lt_of_le_of_lt h (Nat.lt_trans hc1 I.lt_d.2))) (fun p hp => (hne11 p hp).2)
        k_dflt (refine' Mine.gt_g M O _ I ct x10 pd10 [] [] [] 0 (hdr.trans (List.append_nil _).symm) Tok1.fin hsz9 C3 hA4 hD4 ?_ _ _ _ _ _ _ _ _ _ _ _ ?c1 ?c2 ?c3 ?c4 ?c5 ?c6 ?c7 ?c8; (case c1 => k_asm); (case c2 => k_asm); (case c3 => k_asm); (case c4 => exact Mine.in7 (by with_reducible assumption)); (case c5 => k_asm); (case c6 => first | assumption | exact rfl); (case c7 => k_room); (case c8 => k_room); k_whole)
        clear hA4 hD4 hne11
        intro h13 tk13 t13 x13 hdr13 hln13 F13 N13
        have hl13 : x13.ln = (n : Int) + 1 := by rw [hln13, hln10, Int.add_zero]
        replace N13 := out7 N13
        have z1' : ∀ p ∈ r11, p.1 ≠ L0 + 1 := fun p hp => z1 p (mem_mS hp)
        dsimp only [mS, mLed2] at N13
        (try dsimp only)
        (repeat' (first | (k_unfold; (try dsimp only)) | (k_end; kc_close) | ((with_reducible show wpAny _ _ (callWith _ (Value.ref _) _ _ _) _ _ _); k_dflt (refine' callWith_K ?k1 ?k2 ?_; (case k1 => k_asm); (case k2 => k_is); k_whole)) | ((with_reducible show wpAny _ _ (compareOp CmpOp.Eq (Value.str _ _) (Value.str _ _)) _ _ _); k_dflt (refine Mine.eqS_true (by decide +kernel) ?_; k_whole)) | ((with_reducible show wpAny _ _ (compareOp CmpOp.Eq (Value.int _ _) (Value.int _ _)) _ _ _); k_dflt (refine Mine.eqI_true (by first | with_reducible rfl | with_reducible assumption | lia) ?_; k_whole)) | ((with_reducible show wpAny _ _ (call (Value.ref _) _) _ _ _); refine of_stop9 ?_) | ((with_reducible show wpAny _ _ (eval (Expr.Name _ _) _) _ _ _); k_dflt (refine Mine.name_P (by with_reducible assumption) (by assumption) (by with_reducible (repeat (first | exact Mine.At.here | apply Mine.At.there))) (by exact Eq.refl (some (some _))) ?_; k_whole)) | ((with_reducible show wpAny _ _ (storeName _ _ _) _ _ _); k_dflt (refine Mine.store_P (by with_reducible assumption) (by k_asm) (by assumption) (by with_reducible (repeat (first | exact Mine.At.here | apply Mine.At.there))) (by rfl) ?_; k_whole; intro h' F' N'; (try dsimp only [List.set] at F'); (try k_sweep))) | walk1 | (dsimp only; walk1) | (leave1; (try dsimp only)) | fail "no step"))
        clear hdr13 hln13 hdr hln10 hsz9 hwl hc1 I hy3 hcl3 hcl2 hr4 en9 hz9 k4 hb9 dc1 dc2 dc3 dc4 dc5 dc6 dc7 hcl hn hi
        rename (Fr g0 L0 _ _) => F14
        rename (News g0 L0 _ _) => N13b
        unfold Stop9
        have N14 : News g0 L0 _ (cells7 L0 o7 o6 o5 o4 o3d o2w oN r11) := out_mach (w := w) (M := M) (O := O) (c := ct) (x := x13) N13b
        obtain ⟨r15, N15, hnw, m15, c15⟩ := pick2 N14 (mem7 t31) (mem7 t38)
        have hcc := all7n m15 l0.1 l0.2.1 sub7
        have hdl := c15 dl _ (mem7 mdl) (by intro h; cases h)
        have hw15 := c15 D2 _ (mem7 mw) (by intro h; cases h)
        have t177b := m15 177 _ (mem7 t177) (by decide) (by decide)
        have D15 : Days r15 l10 e10 ps10 (ds.map dayP) := (days_of hDP2 mld).moveT (fun a o ha => c15 a o (mem7 ha))
        have hrl : (ds.map dayP).length = n := by rw [List.length_map]; exact hn9
        clear N14 N13b m15 c15 t31 t38 t177 mdl mw mld hDP2
        k_dflt (refine' Mine.trader_g (ds.map dayP) l10 D2 e10 _ ps10 _ (worthL n) _ _ D15 (by lia) hw15 hy (by rw [worthL_len, hrl]) (worth_in hn4) C1 C2 .empty .empty hnw day_pos ?_ _ _ _ _ _ _ _ _ _ _ _ ?c1 ?c2 ?c3 ?c4 ?c5 ?c6 ?c7 ?c8; (case c1 => k_asm); (case c2 => k_asm); (case c3 => k_asm); (case c4 => k_asm); (case c5 => k_asm); (case c6 => first | assumption | exact rfl); (case c7 => k_room); (case c8 => k_room); k_whole)
        intro h16 tk16 c16 l16 vs16 e16 tp16 p1 p2 hv16 F16 N16
        clear z1 z2 z3 z4 z5 z6 z7
        obtain ⟨r17, N17, ⟨z1, z2, z3, z4, z5, z6, z7⟩, m17⟩ := relay N16 hcl4 (fun p hp => .tail _ (.tail _ (.tail _ (.tail _ (hcc p hp)))))
        have mtu := m17 c16 _ (.head _) noCell_tup
        have mcs := m17 l16 _ (.tail _ (.head _)) noCell_list
        have t31 := m17 31 _ (.tail _ (.tail _ (.head _))) noCell_tab
        have t38 := m17 38 _ (.tail _ (.tail _ (.tail _ (.head _)))) noCell_tab
        have t177 := m17 177 _ (.tail _ (.tail _ (.tail _ (.tail _ t177b)))) noCell_tab
        have mdl := m17 dl _ (.tail _ (.tail _ (.tail _ (.tail _ hdl)))) noCell_list
        have mw := m17 D2 _ (.tail _ (.tail _ (.tail _ (.tail _ hw15)))) noCell_list
        have D17 := D15.move (fun a o ha => m17 a o (.tail _ (.tail _ (.tail _ (.tail _ ha)))))
        clear N16 m17 t177b hdl hw15 D15 hcc hnw N15
        generalize hpu : dot (coefs (List.map dayP ds).reverse) (worthL n) = purse at *
        obtain ⟨vc7, dc7⟩ := hcl4.d7
        obtain ⟨vc6, dc6⟩ := hcl4.d6
        obtain ⟨vc5, dc5⟩ := hcl4.d5
        obtain ⟨vc4, dc4⟩ := hcl4.d4
        dsimp only [cells7] at N17
        (try dsimp only)
        (repeat' (first | (k_unfold; (try dsimp only)) | (k_end; kc_close) | ((with_reducible show wpAny _ _ (callWith _ (Value.ref _) _ _ _) _ _ _); k_dflt (refine' callWith_K ?k1 ?k2 ?_; (case k1 => k_asm); (case k2 => k_is); k_whole)) | ((with_reducible show wpAny _ _ (call (Value.ref _) _) _ _ _); refine of_stop9 ?_) | ((with_reducible show wpAny _ _ (eval (Expr.Name _ _) _) _ _ _); k_dflt (refine Mine.name_P (by with_reducible assumption) (by assumption) (by with_reducible (repeat (first | exact Mine.At.here | apply Mine.At.there))) (by exact Eq.refl (some (some _))) ?_; k_whole)) | ((with_reducible show wpAny _ _ (storeName _ _ _) _ _ _); k_dflt (refine Mine.store_P (by with_reducible assumption) (by k_asm) (by assumption) (by with_reducible (repeat (first | exact Mine.At.here | apply Mine.At.there))) (by rfl) ?_; k_whole; intro h' F' N'; (try dsimp only [List.set] at F'); (try k_sweep))) | walk1 | (dsimp only; walk1) | (leave1; (try dsimp only)) | fail "no step"))
        rename (Obj.data _ = Data.cell (some (Value.int purse tp16))) => d4p
        rename (Obj.data _ = Data.cell (some (Value.ref l16))) => d5c
        rename_i o4p _ o5c _ _
        have zz4 : o4p.data = Data.cell (some (Value.int purse tp16)) := d4p
        have zz5 : o5c.data = Data.cell (some (Value.ref l16)) := d5c
        clear zz4 zz5
        unfold Stop9
        have hcl5 := (⟨hcl4.d7, hcl4.d6, ⟨_, d5c⟩, ⟨_, d4p⟩, ⟨_, d3d⟩, ⟨_, d2w⟩, ⟨_, dN⟩⟩ : Cells o7 o6 o5c o4p o3d o2w oN)
        k_dflt (refine' Mine.pow_n n hn4 _ _ _ ?_ _ _ _ _ _ _ _ _ _ _ _ ?c1 ?c2 ?c3 ?c4 ?c5 ?c6 ?c7 ?c8; (case c1 => k_asm); (case c2 => k_asm); (case c3 => k_asm); (case c4 => k_asm); (case c5 => k_asm); (case c6 => first | assumption | exact rfl); (case c7 => k_room); (case c8 => k_room); k_whole)
        intro s18 a18 o18 D18 u18 go18 hD18 hv18 hl18 F18 N18
        (try dsimp only)
        (repeat' (first | (k_unfold; (try dsimp only)) | (k_end; kc_close) | ((with_reducible show wpAny _ _ (callWith _ (Value.ref _) _ _ _) _ _ _); k_dflt (refine' callWith_K ?k1 ?k2 ?_; (case k1 => k_asm); (case k2 => k_is); k_whole)) | ((with_reducible show wpAny _ _ (subscriptTail _ _ (Value.ref _) (Value.int _ _)) _ _ _); refine of_stop9 ?_) | ((with_reducible show wpAny _ _ (call (Value.ref _) _) _ _ _); refine of_stop9 ?_) | ((with_reducible show wpAny _ _ (eval (Expr.Name _ _) _) _ _ _); k_dflt (refine Mine.name_P (by with_reducible assumption) (by assumption) (by with_reducible (repeat (first | exact Mine.At.here | apply Mine.At.there))) (by exact Eq.refl (some (some _))) ?_; k_whole)) | ((with_reducible show wpAny _ _ (storeName _ _ _) _ _ _); k_dflt (refine Mine.store_P (by with_reducible assumption) (by k_asm) (by assumption) (by with_reducible (repeat (first | exact Mine.At.here | apply Mine.At.there))) (by rfl) ?_; k_whole; intro h' F' N'; (try dsimp only [List.set] at F'); (try k_sweep))) | walk1 | (dsimp only; walk1) | (leave1; (try dsimp only)) | fail "no step"))
        unfold Stop9
        refine kdt_tail N18 (.head _) hD18 (kdt_getItem N18 (.head _) hD18 (isInt_self _ _) hv18 ?_) (by with_unfolding_all rfl)
        replace N18 := news_tl N18
        clear hD18 hv18 hl18
        (try dsimp only)
        (repeat' (first | (k_unfold; (try dsimp only)) | (k_end; kc_close) | ((with_reducible show wpAny _ _ (callWith _ (Value.ref _) _ _ _) _ _ _); k_dflt (refine' callWith_K ?k1 ?k2 ?_; (case k1 => k_asm); (case k2 => k_is); k_whole)) | ((with_reducible show wpAny _ _ (call (Value.builtin "sum") [Value.ref dl]) _ _ _); k_dflt (refine Mine.sum_v rfl (by k_asm) (by k_asm) (by rfl) (Mine.list_at (by k_asm) (by k_mem)) hids ?_; k_whole); intro h' tk' t' F' N') | ((with_reducible show wpAny _ _ (call (Value.ref _) _) _ _ _); refine of_stop9 ?_) | ((with_reducible show wpAny _ _ (eval (Expr.Name _ _) _) _ _ _); k_dflt (refine Mine.name_P (by with_reducible assumption) (by assumption) (by with_reducible (repeat (first | exact Mine.At.here | apply Mine.At.there))) (by exact Eq.refl (some (some _))) ?_; k_whole)) | ((with_reducible show wpAny _ _ (storeName _ _ _) _ _ _); k_dflt (refine Mine.store_P (by with_reducible assumption) (by k_asm) (by assumption) (by with_reducible (repeat (first | exact Mine.At.here | apply Mine.At.there))) (by rfl) ?_; k_whole; intro h' F' N'; (try dsimp only [List.set] at F'); (try k_sweep))) | walk1 | (dsimp only; walk1) | (leave1; (try dsimp only)) | fail "no step"))
        rename (Obj.data _ = Data.cell (some (Value.int (32 ^ n) u18))) => d6s
        rename Obj => o6s
        unfold Stop9
        have hcl6 := (⟨hcl4.d7, ⟨_, d6s⟩, ⟨_, d5c⟩, ⟨_, d4p⟩, ⟨_, d3d⟩, ⟨_, d2w⟩, ⟨_, dN⟩⟩ : Cells o7 o6s o5c o4p o3d o2w oN)
        have hsum := draws_sum hdd
        k_dflt (refine' Mine.rival_g ds.sum n _ _ hsum.1 (by lia) (by lia) ?_ _ _ _ _ _ _ _ _ _ _ _ ?c1 ?c2 ?c3 ?c4 ?c5 ?c6 ?c7 ?c8; (case c1 => k_asm); (case c2 => k_asm); (case c3 => k_asm); (case c4 => k_asm); (case c5 => k_asm); (case c6 => first | assumption | exact rfl); (case c7 => k_room); (case c8 => k_room); k_whole)
        intro h19 tk19 el19 ep19 ps19 r19 hE hsub F19 N19
        clear z1 z2 z3 z4 z5 z6 z7
        obtain ⟨r20, N20, ⟨z1, z2, z3, z4, z5, z6, z7⟩, m20⟩ := relay (L := L0) N19 hcl6 (fun p hp => .tail _ (hsub p (sub7 p hp)))
        have mel := m20 el19 _ (.head _) noCell_list
        replace mcs := m20 l16 _ (.tail _ (hsub _ (mem7 mcs))) noCell_list
        replace t31 := m20 31 _ (.tail _ (hsub _ (mem7 t31))) noCell_tab
        replace t38 := m20 38 _ (.tail _ (hsub _ (mem7 t38))) noCell_tab
        replace t177 := m20 177 _ (.tail _ (hsub _ (mem7 t177))) noCell_tab
        replace mdl := m20 dl _ (.tail _ (hsub _ (mem7 mdl))) noCell_list
        replace mw := m20 D2 _ (.tail _ (hsub _ (mem7 mw))) noCell_list
        have D20 := D17.move (fun a o ha => m20 a o (.tail _ (hsub _ (mem7 ha))))
        have E20 := hE.move (fun a o ha => m20 a o (.tail _ ha))
        clear N19 m20 hsub hE D17 mtu
        dsimp only [cells7] at N20
        (try dsimp only)
        (repeat' (first | (k_unfold; (try dsimp only)) | (k_end; kc_close) | ((with_reducible show wpAny _ _ (callWith _ (Value.ref _) _ _ _) _ _ _); k_dflt (refine' callWith_K ?k1 ?k2 ?_; (case k1 => k_asm); (case k2 => k_is); k_whole)) | ((with_reducible show wpAny _ _ (eval (PySem.Expr.ListComp _ _ _ _) _) _ _ _); k_dflt (refine LCp.ListComp_P (F₀ := by k_asm) (by rfl) (by decide) (by rfl) (by decide) (by rfl) (by rfl) (by decide) ?_)) | ((with_reducible show LCp.SrcLP _ _ _ _ _ _ _ _ _ _ _ _ _ (Value.ref _) _); refine of_stop9 ?_) | ((with_reducible show wpAny _ _ (eval (Expr.Name _ _) _) _ _ _); k_dflt (refine Mine.name_P (by with_reducible assumption) (by assumption) (by with_reducible (repeat (first | exact Mine.At.here | apply Mine.At.there))) (by exact Eq.refl (some (some _))) ?_; k_whole)) | ((with_reducible show wpAny _ _ (storeName _ _ _) _ _ _); k_dflt (refine Mine.store_P (by with_reducible assumption) (by k_asm) (by assumption) (by with_reducible (repeat (first | exact Mine.At.here | apply Mine.At.there))) (by rfl) ?_; k_whole; intro h' F' N'; (try dsimp only [List.set] at F'); (try k_sweep))) | walk1 | (dsimp only; walk1) | (leave1; (try dsimp only)) | fail "no step"))
        rename (Fr g0 L0 _ _) => F21
        rename (News g0 L0 _ _) => N21
        unfold Stop9
        have el16 : ps19.length ≤ 16 := by rw [E20.len]; exact rIter_len (by lia)
        have elen := E20.len
        have hsz21 : (ps19.map Value.ref).toArray.size ≤ sizeLine := by rw [sizeLine_eq, List.size_toArray, List.length_map]; lia
        k_dflt (refine LCp.SrcLP.ledger (by rfl) F21 N21 (by k_mem) hsz21 ?_; intro g2)
        (try dsimp only)
        refine compP_fix (fun i ys => IntsAre ys (((rIter (rShare ds.sum) n).map fun x => worthAt n x.2).take i)) (.inr ⟨_, by k_mem, rfl, _, rfl⟩) .nil (fun ys22 hy22 => ?_) ?_
        · intro D22 h22 tk22 F22 N22 off22
          rw [List.take_of_length_le (by rw [List.length_map, List.size_toArray, List.length_map]; lia)] at hy22
          (try dsimp only)
          (repeat' (first | (k_unfold; (try dsimp only)) | (k_end; kc_close) | ((with_reducible show wpAny _ _ (callWith _ (Value.ref _) _ _ _) _ _ _); k_dflt (refine' callWith_K ?k1 ?k2 ?_; (case k1 => k_asm); (case k2 => k_is); k_whole)) | ((with_reducible show wpAny _ _ (call (Value.builtin "sum") _) _ _ _); refine of_stop9 ?_) | walk1 | (dsimp only; walk1) | (leave1; (try dsimp only)) | fail "no step"))
          unfold Stop9
          k_dflt (refine Mine.sum_v (totW_is _ _) F22 N22 (by rfl) (Mine.list_at N22 (.head _)) hy22 ?_; k_whole)
          intro h23 tk23 t23 F23 N23
          replace N23 := news_tl N23
          clear N22 off22 hy22
          (try dsimp only)
          (repeat' (first | (k_unfold; (try dsimp only)) | (k_end; kc_close) | ((with_reducible show wpAny _ _ (callWith _ (Value.ref _) _ _ _) _ _ _); k_dflt (refine' callWith_K ?k1 ?k2 ?_; (case k1 => k_asm); (case k2 => k_is); k_whole)) | ((with_reducible show wpAny _ _ (exec (Stmt.Assign _ (PySem.Expr.ListComp _ _ _ _) _) _) _ _ _); refine of_stop9 ?_) | ((with_reducible show wpAny _ _ (eval (Expr.Name _ _) _) _ _ _); k_dflt (refine Mine.name_P (by with_reducible assumption) (by assumption) (by with_reducible (repeat (first | exact Mine.At.here | apply Mine.At.there))) (by exact Eq.refl (some (some _))) ?_; k_whole)) | ((with_reducible show wpAny _ _ (storeName _ _ _) _ _ _); k_dflt (refine Mine.store_P (by with_reducible assumption) (by k_asm) (by assumption) (by with_reducible (repeat (first | exact Mine.At.here | apply Mine.At.there))) (by rfl) ?_; k_whole; intro h' F' N'; (try dsimp only [List.set] at F'); (try k_sweep))) | walk1 | (dsimp only; walk1) | (leave1; (try dsimp only)) | fail "no step"))
          rename (Fr g0 L0 _ _) => F23
          rename (News g0 L0 _ _) => N23
          rename (Obj.data _ = Data.cell (some (Value.int (totW n) t23))) => d7t
          rename Obj => o7t
          unfold Stop9
          have hcl7 := (⟨⟨_, d7t⟩, ⟨_, d6s⟩, ⟨_, d5c⟩, ⟨_, d4p⟩, ⟨_, d3d⟩, ⟨_, d2w⟩, ⟨_, dN⟩⟩ : Cells o7t o6s o5c o4p o3d o2w oN)
          have hz23 : (ps19.map Value.ref).length ≤ 1000 := by rw [List.length_map]; lia
          k_dflt (refine Mine.Assign_PT F23 (by rfl) (by with_unfolding_all rfl) (by with_unfolding_all rfl) (by decide) (by rfl) (by decide) (by rfl) (by rfl) (by decide) (by rfl) (by rfl) ?_)
          (repeat' (first | (k_unfold; (try dsimp only)) | (k_end; kc_close) | ((with_reducible show wpAny _ _ (callWith _ (Value.ref _) _ _ _) _ _ _); k_dflt (refine' callWith_K ?k1 ?k2 ?_; (case k1 => k_asm); (case k2 => k_is); k_whole)) | ((with_reducible show wpAny _ _ (eval (Expr.Name _ _) _) _ _ _); k_dflt (refine Mine.name_P (by with_reducible assumption) (by assumption) (by with_reducible (repeat (first | exact Mine.At.here | apply Mine.At.there))) (by exact Eq.refl (some (some _))) ?_; k_whole)) | walk1 | (dsimp only; walk1) | (leave1; (try dsimp only)) | fail "no step"))
          refine SrcPT.mk (fun i ys => ∃ ks, IntsAre ys ks ∧ ((∃ x ∈ (rIter (rShare ds.sum) n).take i, totW n * x.1 < worthAt n x.2 * 1024 ^ n) → ks ≠ [])) (by rfl) F23 N23 (by k_mem) hz23 ⟨[], .nil, fun ⟨x, hx, _⟩ => nomatch hx⟩ ?_ ?_
          · intro ys24 ⟨ks, hks, hne⟩ D24 h24 tk24 F24 N24 off24
            rw [List.take_of_length_le (by rw [List.length_map]; lia)] at hne
            replace hne := hne (behind_n _ hn4)
            replace F24 := Fr.conv F24 (look_set (v := .ref D24) (.there (.there (.there (.there (.there .here))))) nd9 rfl)
            dsimp only [List.set] at F24
            clear z1 z2 z3 z4 z5 z6 z7
            obtain ⟨r25, N25, ⟨z1, z2, z3, z4, z5, z6, z7⟩, m25⟩ := relay (L := L0) N24 hcl7 (fun p hp => .tail _ (sub7 p hp))
            have mbh := m25 D24 _ (.head _) noCell_list
            replace mel := m25 el19 _ (.tail _ (mem7 mel)) noCell_list
            replace mcs := m25 l16 _ (.tail _ (mem7 mcs)) noCell_list
            replace t31 := m25 31 _ (.tail _ (mem7 t31)) noCell_tab
            replace t38 := m25 38 _ (.tail _ (mem7 t38)) noCell_tab
            replace t177 := m25 177 _ (.tail _ (mem7 t177)) noCell_tab
            replace mdl := m25 dl _ (.tail _ (mem7 mdl)) noCell_list
            replace mw := m25 D2 _ (.tail _ (mem7 mw)) noCell_list
            replace D20 := D20.move (fun a o ha => m25 a o (.tail _ (mem7 ha)))
            replace E20 := E20.move (fun a o ha => m25 a o (.tail _ (mem7 ha)))
            clear N24 m25 off24 N23 F23 hcl6 hcl5 hcl4 hl13 dc4 dc5 dc6 dc7 z1' hl
            dsimp only [cells7] at N25
            (try dsimp only)
            (repeat' (first | (k_unfold; (try dsimp only)) | (k_end; kc_close) | ((with_reducible show wpAny _ _ (callWith _ (Value.ref _) _ _ _) _ _ _); k_dflt (refine' callWith_K ?k1 ?k2 ?_; (case k1 => k_asm); (case k2 => k_is); k_whole)) | ((with_reducible show wpAny _ _ (eval (PySem.Expr.ListComp _ _ _ _) _) _ _ _); k_dflt (refine LCg.ListComp_U (F₀ := by k_asm) (by rfl) (by decide) (by rfl) (by decide) (by rfl) ?_)) | ((with_reducible show LCg.CompSrc _ _ _ _ _ _ _ _ _ _ _ _ (Value.ref _) _); refine of_stop9 ?_) | ((with_reducible show wpAny _ _ (eval (Expr.Name _ _) _) _ _ _); k_dflt (refine Mine.name_P (by with_reducible assumption) (by assumption) (by with_reducible (repeat (first | exact Mine.At.here | apply Mine.At.there))) (by exact Eq.refl (some (some _))) ?_; k_whole)) | walk1 | (dsimp only; walk1) | (leave1; (try dsimp only)) | fail "no step"))
            rename (Fr g0 L0 _ _) => F26
            rename (News g0 L0 _ _) => N26
            unfold Stop9
            have hw26 : ws.length = n := by rw [hids.length]; exact hn9
            k_dflt (refine Mine.src_list (by rfl) F26 N26 (by k_mem) (by lia) ?_; intro g26)
            (try dsimp only)
            refine comp_grow (fun i ys led => ∃ qs, ys = qs.map Value.ref ∧ (∀ p ∈ cells7 L0 o7t o6s o5c o4p o3d o2w oN r25, p ∈ led) ∧ DaysP led qs ((ds.map wdOf).take i)) (fun i ys led ⟨qs, _, hs, _⟩ => .inr ⟨_, hs _ (mem7 mdl), rfl, _, rfl⟩) ⟨[], rfl, fun p h => h, rfl, fun i q e => by cases e⟩ (fun ys27 led27 hy27 => ?_) ?_
            · obtain ⟨qs, rfl, hsub, hDQ⟩ := hy27
              intro D27 h27 tk27 F27 N27 off27
              rw [List.take_of_length_le (by rw [List.length_map]; lia)] at hDQ
              have Db : Days ((D27, lst (qs.map Value.ref)) :: led27) D27 _ qs (ds.map dayP) := days_of (hDQ.mono (fun p hp => .tail _ hp)) (.head _)
              have Da : Days ((D27, lst (qs.map Value.ref)) :: led27) l10 e10 ps10 (ds.map dayP) := D20.move (fun a o ha _ => .tail _ (hsub _ (mem7 ha)))
              (try dsimp only)
              (repeat' (first | (k_unfold; (try dsimp only)) | (k_end; kc_close) | ((with_reducible show wpAny _ _ (callWith _ (Value.ref _) _ _ _) _ _ _); k_dflt (refine' callWith_K ?k1 ?k2 ?_; (case k1 => k_asm); (case k2 => k_is); k_whole)) | ((with_reducible show wpAny _ _ (compareOp _ (Value.ref _) (Value.ref _)) _ _ _); refine of_stop9 ?_) | walk1 | (dsimp only; walk1) | (leave1; (try dsimp only)) | fail "no step"))
              unfold Stop9
              k_dflt (refine Mine.eq_days N27 Da Db (by k_room) ?_; k_whole)
              clear z1 z2 z3 z4 z5 z6 z7
              obtain ⟨r28, N28, ⟨z1, z2, z3, z4, z5, z6, z7⟩, m28⟩ := relay (L := L0) N27 hcl7 (fun p hp => .tail _ (hsub p (sub7 p hp)))
              replace mbh := m28 D24 _ (.tail _ (hsub _ (mem7 mbh))) noCell_list
              replace mel := m28 el19 _ (.tail _ (hsub _ (mem7 mel))) noCell_list
              replace mcs := m28 l16 _ (.tail _ (hsub _ (mem7 mcs))) noCell_list
              replace t31 := m28 31 _ (.tail _ (hsub _ (mem7 t31))) noCell_tab
              replace t38 := m28 38 _ (.tail _ (hsub _ (mem7 t38))) noCell_tab
              replace t177 := m28 177 _ (.tail _ (hsub _ (mem7 t177))) noCell_tab
              replace mw := m28 D2 _ (.tail _ (hsub _ (mem7 mw))) noCell_list
              replace D20 := D20.move (fun a o ha => m28 a o (.tail _ (hsub _ (mem7 ha))))
              replace E20 := E20.move (fun a o ha => m28 a o (.tail _ (hsub _ (mem7 ha))))
              clear Db Da hDQ hsub m28 off27 N26 F26 N27 mdl
              dsimp only [cells7] at N28
              rename (IntsAre vs16 _) => hv16
              have hrg : (ds.map dayP).reverse.length = n := by rw [List.length_reverse]; exact hrl
              have hco := coefs_all (l := (ds.map dayP).reverse) (fun x hx => D20.all x (List.mem_reverse.mp hx)) (fun x hx => day_pos x (List.mem_reverse.mp hx)) (by lia)
              have hcl : (coefs (ds.map dayP).reverse).length = n + 1 := by rw [hco.1, hrg]
              have hcC := hco.2.1
              generalize hcs9 : coefs (ds.map dayP).reverse = cs at *
              have hdot : ((List.range (n + 1)).map fun k => cs.getD k 0 * (worthL n).getD k 0).sum = purse := by
                rw [← hcl, dot_range cs (worthL n) (by rw [worthL_len]; lia), hpu]
              (try dsimp only)
              (repeat' (first | (k_unfold; (try dsimp only)) | (k_end; kc_close) | ((with_reducible show wpAny _ _ (callWith _ (Value.ref _) _ _ _) _ _ _); k_dflt (refine' callWith_K ?k1 ?k2 ?_; (case k1 => k_asm); (case k2 => k_is); k_whole)) | ((with_reducible show wpAny _ _ (eval (PySem.Expr.ListComp _ _ _ _) _) _ _ _); k_dflt (refine LCg.ListComp_U (F₀ := by k_asm) (by rfl) (by decide) (by rfl) (by decide) (by rfl) ?_)) | ((with_reducible show LCg.CompSrc _ _ _ _ _ _ _ _ _ _ _ _ (Value.ref _) _); refine of_stop9 ?_) | ((with_reducible show wpAny _ _ (eval (Expr.Name _ _) _) _ _ _); k_dflt (refine Mine.name_P (by with_reducible assumption) (by assumption) (by with_reducible (repeat (first | exact Mine.At.here | apply Mine.At.there))) (by exact Eq.refl (some (some _))) ?_; k_whole)) | walk1 | (dsimp only; walk1) | (leave1; (try dsimp only)) | fail "no step"))
              rename (Fr g0 L0 _ _) => F29
              rename (News g0 L0 _ _) => N29
              rename (IsRange _ _ _ _ _ _ _ _) => hr29
              unfold Stop9
              k_dflt (refine Mine.src_range (n := n + 1) (by rfl) F29 N29 hr29 ?zb ?zc ?_; (case zb => rfl); (case zc => lia); intro g29)
              (try dsimp only)
              refine comp_fix (fun i ys => IntsAre ys (((List.range (n + 1)).map fun k => cs.getD k 0 * (worthL n).getD k 0).take i)) trivial .nil (fun ys30 hy30 => ?_) ?_
              · intro D30 h30 tk30 F30 N30 off30
                rw [List.take_of_length_le (by rw [List.length_map, List.length_range]; lia)] at hy30
                (try dsimp only)
                (repeat' (first | (k_unfold; (try dsimp only)) | (k_end; kc_close) | ((with_reducible show wpAny _ _ (callWith _ (Value.ref _) _ _ _) _ _ _); k_dflt (refine' callWith_K ?k1 ?k2 ?_; (case k1 => k_asm); (case k2 => k_is); k_whole)) | ((with_reducible show wpAny _ _ (call (Value.builtin "sum") _) _ _ _); refine of_stop9 ?_) | walk1 | (dsimp only; walk1) | (leave1; (try dsimp only)) | fail "no step"))
                unfold Stop9
                k_dflt (refine Mine.sum_v hdot F30 N30 (by rfl) (Mine.list_at N30 (.head _)) hy30 ?_; k_whole)
                intro h31 tk31 t31' F31 N31
                replace N31 := news_tl N31
                clear N30 off30 hy30 F30
                (try dsimp only)
                (repeat' (first | (k_unfold; (try dsimp only)) | (k_end; kc_close) | ((with_reducible show wpAny _ _ (callWith _ (Value.ref _) _ _ _) _ _ _); k_dflt (refine' callWith_K ?k1 ?k2 ?_; (case k1 => k_asm); (case k2 => k_is); k_whole)) | ((with_reducible show wpAny _ _ (compareOp CmpOp.Eq (Value.int _ _) (Value.int _ _)) _ _ _); k_dflt (refine Mine.eqI_true (by first | with_reducible rfl | with_reducible assumption | lia) ?_; k_whole)) | ((with_reducible show wpAny _ _ (eval (PySem.Expr.ListComp _ _ _ _) _) _ _ _); k_dflt (refine LCt.ListComp_T (F₀ := by k_asm) (by rfl) (by decide) (by rfl) (by decide) (by rfl) ?_)) | ((with_reducible show LCt.CompSrcT _ _ _ _ _ _ _ _ _ _ _ _ _ (Value.ref _) _); refine of_stop9 ?_) | ((with_reducible show wpAny _ _ (eval (Expr.Name _ _) _) _ _ _); k_dflt (refine Mine.name_P (by with_reducible assumption) (by assumption) (by with_reducible (repeat (first | exact Mine.At.here | apply Mine.At.there))) (by exact Eq.refl (some (some _))) ?_; k_whole)) | walk1 | (dsimp only; walk1) | (leave1; (try dsimp only)) | fail "no step"))
                rename (Fr g0 L0 _ _) => F32
                rename (News g0 L0 _ _) => N32
                rename (IntsAre _ (_ ++ _)) => hI32
                rename List Value => ws32
                unfold Stop9
                have hl32 : ws32.length = 14 := hI32.length
                have hjs : ∀ (i : Nat) (v : Value), ws32[i]? = some v → ∃ j t, v = .int j t ∧ HueOk (hueB j) j ∧ 0 ≤ j ∧ j ≤ 63 ∧ (j ≤ 31 ∨ 42 < j) := fun i v hv => by
                  obtain ⟨j, t, e, hj⟩ := hI32.at i v hv
                  exact ⟨j, t, e, hue_list j (List.mem_of_getElem? hj)⟩
                have hz32 : ws32.toArray.size ≤ sizeLine := by rw [sizeLine_eq, List.size_toArray, hl32]; decide
                have N32b : News g0 L0 _ ((_, W.listOf ws32.toArray 0) :: cells7 L0 o7t o6s o5c o4p o3d o2w oN r28) := cb_drop N32 (List.forall_mem_cons.mpr ⟨.head _, fun p hp => .tail _ (.tail _ (.tail _ hp))⟩)
                clear N32
                dsimp only [cells7] at N32b
                k_dflt (refine LCt.CompSrcT.ledger (by rfl) F32 N32b (.head _) hz32 ?_; intro g32)
                (try dsimp only)
                refine compT_fix (fun i ys => ys = []) (.inr ⟨_, .head _, rfl, _, rfl⟩) rfl (fun ys33 e33 => ?_) ?_
                · subst e33
                  intro D33 h33 tk33 F33 N33 off33
                  clear F32 N32b
                  (try dsimp only)
                  (repeat' (first | (k_unfold; (try dsimp only)) | (k_end; kc_close) | ((with_reducible show wpAny _ _ (callWith _ (Value.ref _) _ _ _) _ _ _); k_dflt (refine' callWith_K ?k1 ?k2 ?_; (case k1 => k_asm); (case k2 => k_is); k_whole)) | ((with_reducible show wpAny _ _ (compareOp _ (Value.ref _) (Value.ref _)) _ _ _); refine of_stop9 ?_) | walk1 | (dsimp only; walk1) | (leave1; (try dsimp only)) | fail "no step"))
                  rename (Fr g0 L0 _ _) => F34
                  rename (News g0 L0 _ _) => N34
                  unfold Stop9
                  k_dflt (refine Mine.eq_nil (Mine.list_at N34 (.tail _ (.head _))) (Mine.list_at N34 (.head _)) (by k_room) ?_; k_whole)
                  replace N34 := news_tl (news_tl (news_tl N34))
                  clear off33
                  (try dsimp only)
                  (repeat' (first | (k_unfold; (try dsimp only)) | (k_end; kc_close) | ((with_reducible show wpAny _ _ (callWith _ (Value.ref _) _ _ _) _ _ _); k_dflt (refine' callWith_K ?k1 ?k2 ?_; (case k1 => k_asm); (case k2 => k_is); k_whole)) | ((with_reducible show wpAny _ _ (eval (PySem.Expr.ListComp _ _ _ _) _) _ _ _); k_dflt (refine LCp.ListComp_P (F₀ := by k_asm) (by rfl) (by decide) (by rfl) (by decide) (by rfl) (by rfl) (by decide) ?_)) | ((with_reducible show LCp.SrcLP _ _ _ _ _ _ _ _ _ _ _ _ _ (Value.ref _) _); refine of_stop9 ?_) | ((with_reducible show wpAny _ _ (eval (Expr.Name _ _) _) _ _ _); k_dflt (refine Mine.name_P (by with_reducible assumption) (by assumption) (by with_reducible (repeat (first | exact Mine.At.here | apply Mine.At.there))) (by exact Eq.refl (some (some _))) ?_; k_whole)) | walk1 | (dsimp only; walk1) | (leave1; (try dsimp only)) | fail "no step"))
                  rename (Fr g0 L0 _ _) => F35
                  rename (News g0 L0 _ _) => N35
                  unfold Stop9
                  k_dflt (refine LCp.SrcLP.ledger (by rfl) F35 N35 (by k_mem) hsz21 ?_; intro g35)
                  (try dsimp only)
                  refine compP_fix (fun i ys => NumsV (5 * n) ys (((rIter (rShare ds.sum) n).map fun x => x.1).take i)) (.inr ⟨_, by k_mem, rfl, _, rfl⟩) .nil (fun ys36 hy36 => ?_) ?_
                  · intro D36 h36 tk36 F36 N36 off36
                    rw [List.take_of_length_le (by rw [List.length_map, List.size_toArray, List.length_map]; lia)] at hy36
                    have hrs := rIter_sum (rShare ds.sum) n
                    have h0s : ∀ x ∈ (rIter (rShare ds.sum) n).map fun x => x.1, 0 ≤ x := fun x hx => by
                      obtain ⟨y, hy1, rfl⟩ := List.mem_map.mp hx
                      exact (rIter_in (rShare_in ds.sum) n y hy1).1
                    have hss := sum_52 hn4
                    (try dsimp only)
                    (repeat' (first | (k_unfold; (try dsimp only)) | (k_end; kc_close) | ((with_reducible show wpAny _ _ (callWith _ (Value.ref _) _ _ _) _ _ _); k_dflt (refine' callWith_K ?k1 ?k2 ?_; (case k1 => k_asm); (case k2 => k_is); k_whole)) | ((with_reducible show wpAny _ _ (call (Value.builtin "sum") _) _ _ _); refine of_stop9 ?_) | walk1 | (dsimp only; walk1) | (leave1; (try dsimp only)) | fail "no step"))
                    unfold Stop9
                    k_dflt (refine Mine.sum_nums (k := 5 * n) (by lia) (by rfl) F36 N36 (Mine.list_at N36 (.head _)) hy36 h0s (by rw [hrs]; exact hss) ?_; k_whole)
                    intro h37 tk37 v37 hv37 F37 N37
                    rw [hrs, scale_5 hn4] at hv37
                    have hk5 : 5 * n ≤ 1074 := by lia
                    replace N37 := news_tl N37
                    clear N36 off36 hy36 F36 hrs h0s hss
                    (try dsimp only)
                    (repeat' (first | (k_unfold; (try dsimp only)) | (k_end; kc_close) | ((with_reducible show wpAny _ _ (callWith _ (Value.ref _) _ _ _) _ _ _); k_dflt (refine' callWith_K ?k1 ?k2 ?_; (case k1 => k_asm); (case k2 => k_is); k_whole)) | ((with_reducible show wpAny _ _ (compareOp CmpOp.Eq v37 _) _ _ _); k_dflt (refine Mine.eqV_true hv37 hk5 rfl ?_; k_whole)) | ((with_reducible show wpAny _ _ (compareOp _ (Value.ref _) (Value.ref _)) _ _ _); refine of_stop9 ?_) | ((with_reducible show wpAny _ _ (eval (Expr.Name _ _) _) _ _ _); k_dflt (refine Mine.name_P (by with_reducible assumption) (by assumption) (by with_reducible (repeat (first | exact Mine.At.here | apply Mine.At.there))) (by exact Eq.refl (some (some _))) ?_; k_whole)) | walk1 | (dsimp only; walk1) | (leave1; (try dsimp only)) | fail "no step"))
                    rename (Fr g0 L0 _ _) => F38
                    rename (News g0 L0 _ _) => N38
                    unfold Stop9
                    k_dflt (refine Mine.ne_nil hne (Mine.list_at N38 (by k_mem)) hks (Mine.list_at N38 (.head _)) (by k_room) ?_; k_whole)
                    (try dsimp only)
                    (repeat' (first | (k_unfold; (try dsimp only)) | (k_end; kc_close) | ((with_reducible show wpAny _ _ (callWith _ (Value.ref _) _ _ _) _ _ _); k_dflt (refine' callWith_K ?k1 ?k2 ?_; (case k1 => k_asm); (case k2 => k_is); k_whole)) | ((with_reducible show wpAny _ _ (eval (Expr.Name _ _) _) _ _ _); k_dflt (refine Mine.name_P (by with_reducible assumption) (by assumption) (by with_reducible (repeat (first | exact Mine.At.here | apply Mine.At.there))) (by exact Eq.refl (some (some _))) ?_; k_whole)) | walk1 | (dsimp only; walk1) | (leave1; (try dsimp only)) | fail "no step"))
                    exact ⟨rfl, go18.1.trans go8.1, go18.2.trans go8.2, _, _, _, _, _, _, F38, N38, .tail _ (mem7 t31), .tail _ (mem7 t38), .tail _ (mem7 t177), rfl⟩
                  · intro i ys v hi hP hyi
                    have hP2 : (ps19.map Value.ref)[i]? = some v := by simpa using hP
                    obtain ⟨q, hq, rfl⟩ := refs_at hP2
                    obtain ⟨v1, c, r, t, hcr, hvn, hm⟩ := E20.at_ i q hq
                    refine ⟨q, v1, .int r t, rfl, mem7 hm, ?_⟩
                    intro I1 oI C1 oC D1 m1 h1 tk1 hC hx hx2 F N off ne
                    (repeat' (first | (k_unfold; (try dsimp only)) | (k_end; kc_close) | ((with_reducible show wpAny _ _ (callWith _ (Value.ref _) _ _ _) _ _ _); k_dflt (refine' callWith_K ?k1 ?k2 ?_; (case k1 => k_asm); (case k2 => k_is); k_whole)) | ((with_reducible show wpAny _ _ (eval (Expr.Name _ _) _) _ _ _); k_dflt (refine Mine.name_P (by with_reducible assumption) (by assumption) (by with_reducible (repeat (first | exact Mine.At.here | apply Mine.At.there))) (by exact Eq.refl (some (some _))) ?_; k_whole)) | walk1 | (dsimp only; walk1) | (leave1; (try dsimp only)) | fail "no step"))
                    refine CTurn.mk (by assumption) (by assumption) ?_
                    rw [takeS (x := c) (by rw [List.getElem?_map, hcr]; rfl)]
                    exact NumsV.snoc hvn hyi
                · intro i ys v I1 oI C1 oC D1 m1 h1 tk1 hk hy1 hv hC hx F N off ne
                  subst hy1
                  obtain ⟨j, tj, rfl, hq, hj0, hj63, hjj⟩ := hjs i v (by simpa using hv)
                  have hpu0 := dot_in hcC (worth_in hn4)
                  rw [hpu, hcl] at hpu0
                  have e1 : keptN (shareOf j) (ds.map dayP) = sumTo cs n (shareOf j) := by
                    rw [← hcs9]
                    exact kept_sum (by rw [hcs9]; exact hcl) _
                  have e2 := best_of (best_n hn4) hcl (fun c hc => (hcC c hc).1) (shareOf_in hj0)
                  rw [hpu] at e2
                  (repeat' (first | (k_unfold; (try dsimp only)) | (k_end; kc_close) | ((with_reducible show wpAny _ _ (callWith _ (Value.ref _) _ _ _) _ _ _); k_dflt (refine' callWith_K ?k1 ?k2 ?_; (case k1 => k_asm); (case k2 => k_is); k_whole)) | ((with_reducible show wpAny _ _ (eval (Expr.Name _ _) _) _ _ _); k_dflt (refine' nameX_F ?N ?c ?m ?d ?_ ?a ?b; (case a => rfl); (case b => rfl); (case N => k_asm); (case c => rfl); (case m => k_mem); (case d => k_asm); k_whole)) | ((with_reducible show wpAny _ _ (call (Value.ref _) _) _ _ _); refine of_stop9 ?_) | ((with_reducible show wpAny _ _ (eval (Expr.Name _ _) _) _ _ _); k_dflt (refine Mine.name_P (by with_reducible assumption) (by assumption) (by with_reducible (repeat (first | exact Mine.At.here | apply Mine.At.there))) (by exact Eq.refl (some (some _))) ?_; k_whole)) | walk1 | (dsimp only; walk1) | (leave1; (try dsimp only)) | fail "no step"))
                  unfold Stop9
                  rename (IntsAre vs16 _) => hv16
                  k_dflt (refine' Mine.holds_g j l10 e10 ps10 (ds.map dayP) cs n l16 e16 vs16 purse (32 ^ n) _ _ _ ?zD (by lia) hrl (by lia) ?zm hv16 hcl hcC hq hj0 hj63 hjj rfl hpu0.1 (by lia) e1 e2 ?_ _ _ _ _ _ _ _ _ _ _ _ ?c1 ?c2 ?c3 ?c4 ?c5 ?c6 ?c7 ?c8; (case c1 => k_asm); (case c2 => k_asm); (case c3 => k_asm); (case c4 => k_asm); (case c5 => k_asm); (case c6 => first | assumption | exact rfl); (case c7 => k_room); (case c8 => k_room); (case zD => exact D20.move (fun a o ha _ => .tail _ (.tail _ (.tail _ (.tail _ (mem7 ha)))))); (case zm => exact .tail _ (.tail _ (.tail _ (.tail _ (mem7 mcs))))); k_whole)
                  intro h40 tk40 F40 N40
                  (try dsimp only)
                  (repeat' (first | (k_unfold; (try dsimp only)) | (k_end; kc_close) | ((with_reducible show wpAny _ _ (callWith _ (Value.ref _) _ _ _) _ _ _); k_dflt (refine' callWith_K ?k1 ?k2 ?_; (case k1 => k_asm); (case k2 => k_is); k_whole)) | ((with_reducible show wpAny _ _ (eval (Expr.Name _ _) _) _ _ _); k_dflt (refine Mine.name_P (by with_reducible assumption) (by assumption) (by with_reducible (repeat (first | exact Mine.At.here | apply Mine.At.there))) (by exact Eq.refl (some (some _))) ?_; k_whole)) | walk1 | (dsimp only; walk1) | (leave1; (try dsimp only)) | fail "no step"))
                  exact CTurn.mk F40 N40 rfl
              · intro i ys v I1 oI C1 oC D1 m1 h1 tk1 hk hy1 hv hC hx F N off ne
                obtain ⟨tv, rfl⟩ := hv
                have i1 : i < cs.length := by lia
                have i2 : i < (worthL n).length := by rw [worthL_len]; lia
                have i3 : cs.length ≤ 1000 := by lia
                have i4 : (worthL n).length ≤ 1000 := by rw [worthL_len]; lia
                have i5 : (0 : Int) + (i : Int) = (i : Int) := Int.zero_add _
                rename (IntsAre vs16 _) => hv16
                (repeat' (first | (k_unfold; (try dsimp only)) | (k_end; kc_close) | ((with_reducible show wpAny _ _ (callWith _ (Value.ref _) _ _ _) _ _ _); k_dflt (refine' callWith_K ?k1 ?k2 ?_; (case k1 => k_asm); (case k2 => k_is); k_whole)) | ((with_reducible show wpAny _ _ (eval (Expr.Name _ _) _) _ _ _); k_dflt (refine' nameX_F ?N ?c ?m ?d ?_ ?a ?b; (case a => rfl); (case b => rfl); (case N => k_asm); (case c => rfl); (case m => k_mem); (case d => k_asm); k_whole)) | ((with_reducible show wpAny _ _ (subscriptTail _ _ (Value.ref l16) (Value.int _ _)) _ _ _); k_dflt (refine Mine.item_ints (by k_asm) (by k_mem) hv16 i5 i1 i3 ?_ (by with_unfolding_all rfl); k_whole); intro t'; (try dsimp only)) | ((with_reducible show wpAny _ _ (subscriptTail _ _ (Value.ref D2) (Value.int _ _)) _ _ _); k_dflt (refine Mine.item_ints (by k_asm) (by k_mem) hy i5 i2 i4 ?_ (by with_unfolding_all rfl); k_whole); intro t'; (try dsimp only)) | ((with_reducible show wpAny _ _ (binaryOp Operator.Mult _ _) _ _ _); k_dflt (refine mul_int ?_ (mul_c hcC _ _))) | ((with_reducible show wpAny _ _ (eval (Expr.Name _ _) _) _ _ _); k_dflt (refine Mine.name_P (by with_reducible assumption) (by assumption) (by with_reducible (repeat (first | exact Mine.At.here | apply Mine.At.there))) (by exact Eq.refl (some (some _))) ?_; k_whole)) | walk1 | (dsimp only; walk1) | (leave1; (try dsimp only)) | fail "no step"))
                refine CTurn.mk (by assumption) (by assumption) ?_
                rw [range_take hk]
                exact IntsAre.snoc hy1
            · intro i ys led v I1 oI C1 oC D1 m1 h1 tk1 hk hy1 hv hC hx F N off ne
              obtain ⟨qs, rfl, hsub, hDQ⟩ := hy1
              obtain ⟨x, tx, rfl, hxx⟩ := hids.at i v hv
              (repeat' (first | (k_unfold; (try dsimp only)) | (k_end; kc_close) | ((with_reducible show wpAny _ _ (callWith _ (Value.ref _) _ _ _) _ _ _); k_dflt (refine' callWith_K ?k1 ?k2 ?_; (case k1 => k_asm); (case k2 => k_is); k_whole)) | ((with_reducible show wpAny _ _ (eval (Expr.Name _ _) _) _ _ _); k_dflt (refine Mine.name_P (by with_reducible assumption) (by assumption) (by with_reducible (repeat (first | exact Mine.At.here | apply Mine.At.there))) (by exact Eq.refl (some (some _))) ?_; k_whole)) | ((with_reducible show wpAny _ _ (call (Value.ref 168) _) _ _ _); k_dflt (refine' Mine.day_g _ _ ?_ _ _ _ _ _ _ _ _ _ _ _ ?c1 ?c2 ?c3 ?c4 ?c5 ?c6 ?c7 ?c8; (case c1 => k_asm); (case c2 => k_asm); (case c3 => k_asm); (case c4 => k_asm); (case c5 => k_asm); (case c6 => first | assumption | exact rfl); (case c7 => k_room); (case c8 => k_room); k_whole); intro h' tk' a' t1' t2' la' F' N'; (try dsimp only)) | walk1 | (dsimp only; walk1) | (leave1; (try dsimp only)) | fail "no step"))
              have ha3 : @Ne Nat a' I1 ∧ @Ne Nat a' C1 ∧ @Ne Nat a' D1 := ⟨Nat.ne_of_gt la'.1, Nat.ne_of_gt la'.2.1, Nat.ne_of_gt la'.2.2.1⟩
              refine CompEnd.intro F' N' ((a', ({ cls := .type "tuple", data := .seq #[.int (dayR x) t1', .int (dayG x) t2'] } : Obj)) :: led) ?_ ⟨ha3, off⟩ trivial ⟨qs ++ [a'], by rw [List.map_append]; rfl, fun p hp => .tail _ (hsub p hp), ?_⟩
              · exact List.forall_mem_cons.mpr ⟨.tail _ (.head _), List.forall_mem_cons.mpr ⟨.tail _ (.tail _ (.head _)), List.forall_mem_cons.mpr ⟨.tail _ (.tail _ (.tail _ (.head _))), List.forall_mem_cons.mpr ⟨.head _, fun p hp => .tail _ (.tail _ (.tail _ (.tail _ hp)))⟩⟩⟩⟩
              · rw [takeS (x := wdOf x) (by rw [List.getElem?_map, hxx]; rfl)]
                exact (hDQ.mono fun p hp => .tail _ hp).snoc (.head _)
          · intro i ys v hv ⟨ks, hks, hne⟩
            obtain ⟨q, hq, rfl⟩ := refs_at hv
            obtain ⟨v1, c, r, t, hcr, hvn, hm⟩ := E20.at_ i q hq
            refine ⟨q, v1, .int r t, rfl, mem7 hm, ?_⟩
            intro I1 oI C1 oC D1 m1 h1 tk1 hC hx hx2 F N off ne
            have hmx := List.mem_of_getElem? hcr
            have hr := reds_in hmx
            have hr0 := hr.1
            have hr1 := hr.2
            have hwl : (worthL n).length ≤ 1000 := by rw [worthL_len]; lia
            have hwb := worthAt_in hn4 r
            have hc := rIter_in (rShare_in ds.sum) n _ hmx
            have hp := pow1024_n hn4
            have hcb : 0 ≤ c ∧ c ≤ 1099511627776 := ⟨hc.1, Int.le_trans hc.2 hp⟩
            have htb := totW_in hn4
            have q1 : (totW n * 2 ^ 0).natAbs < 2 ^ 53 := abs_t htb
            have q2 : c.natAbs < 2 ^ 53 := abs_53 hcb
            have q3 : (totW n * 2 ^ 0 * c).natAbs < 2 ^ 53 := by rw [Int.pow_zero, Int.mul_one]; exact tot_b htb hcb
            have q4 : 0 + 5 * n ≤ 1074 := by lia
            have tk9 := takeS hcr
            by_cases hlt : totW n * c < worthAt n r * 1024 ^ n
            · have hdec : decide (totW n * 2 ^ 0 * c < (worthL n).getD r.toNat 0 * 32 ^ n * 2 ^ (0 + 5 * n)) = true := by
                rw [Int.mul_assoc _ (32 ^ n), scale_n hn4, Int.pow_zero, Int.mul_one]
                exact decide_eq_true hlt
              (repeat' (first | (k_unfold; (try dsimp only)) | (k_end; kc_close) | ((with_reducible show wpAny _ _ (callWith _ (Value.ref _) _ _ _) _ _ _); k_dflt (refine' callWith_K ?k1 ?k2 ?_; (case k1 => k_asm); (case k2 => k_is); k_whole)) | ((with_reducible show wpAny _ _ (eval (Expr.Name _ _) _) _ _ _); k_dflt (refine' nameX_F ?N ?c ?m ?d ?_ ?a ?b; (case a => rfl); (case b => rfl); (case N => k_asm); (case c => rfl); (case m => k_mem); (case d => k_asm); k_whole)) | ((with_reducible show wpAny _ _ (subscriptTail _ _ (Value.ref D2) (Value.int _ _)) _ _ _); k_dflt (refine Mine.item_intZ (by k_asm) (by k_mem) hy hr0 hr1 hwl ?_ (by with_unfolding_all rfl); k_whole); intro t'; (try dsimp only)) | ((with_reducible show wpAny _ _ (binaryOp Operator.Mult _ v1) _ _ _); k_dflt (refine Mine.mulV (by rfl) (NumV.ofInt _ _ 0) hvn q1 q2 q3 q4 ?_; k_whole); intro v' tk' hv') | ((with_reducible show wpAny _ _ (binaryOp Operator.Mult (Value.int _ _) (Value.int _ _)) _ _ _); k_dflt (refine mul_int ?_ (Mine.mul_w hwb))) | ((with_reducible show wpAny _ _ (compareOp CmpOp.Lt _ _) _ _ _); k_dflt (refine Mine.ltV_b hv' q4 hdec ?_; k_whole)) | ((with_reducible show wpAny _ _ (eval (Expr.Name _ _) _) _ _ _); k_dflt (refine Mine.name_P (by with_reducible assumption) (by assumption) (by with_reducible (repeat (first | exact Mine.At.here | apply Mine.At.there))) (by exact Eq.refl (some (some _))) ?_; k_whole)) | walk1 | (dsimp only; walk1) | (leave1; (try dsimp only)) | fail "no step"))
              refine CTurn.mk (by assumption) (by assumption) ⟨ks ++ [r], IntsAre.snoc hks, fun _ h => by simp at h⟩
            · have hdec : decide (totW n * 2 ^ 0 * c < (worthL n).getD r.toNat 0 * 32 ^ n * 2 ^ (0 + 5 * n)) = false := by
                rw [Int.mul_assoc _ (32 ^ n), scale_n hn4, Int.pow_zero, Int.mul_one]
                exact decide_eq_false hlt
              (repeat' (first | (k_unfold; (try dsimp only)) | (k_end; kc_close) | ((with_reducible show wpAny _ _ (callWith _ (Value.ref _) _ _ _) _ _ _); k_dflt (refine' callWith_K ?k1 ?k2 ?_; (case k1 => k_asm); (case k2 => k_is); k_whole)) | ((with_reducible show wpAny _ _ (eval (Expr.Name _ _) _) _ _ _); k_dflt (refine' nameX_F ?N ?c ?m ?d ?_ ?a ?b; (case a => rfl); (case b => rfl); (case N => k_asm); (case c => rfl); (case m => k_mem); (case d => k_asm); k_whole)) | ((with_reducible show wpAny _ _ (subscriptTail _ _ (Value.ref D2) (Value.int _ _)) _ _ _); k_dflt (refine Mine.item_intZ (by k_asm) (by k_mem) hy hr0 hr1 hwl ?_ (by with_unfolding_all rfl); k_whole); intro t'; (try dsimp only)) | ((with_reducible show wpAny _ _ (binaryOp Operator.Mult _ v1) _ _ _); k_dflt (refine Mine.mulV (by rfl) (NumV.ofInt _ _ 0) hvn q1 q2 q3 q4 ?_; k_whole); intro v' tk' hv') | ((with_reducible show wpAny _ _ (binaryOp Operator.Mult (Value.int _ _) (Value.int _ _)) _ _ _); k_dflt (refine mul_int ?_ (Mine.mul_w hwb))) | ((with_reducible show wpAny _ _ (compareOp CmpOp.Lt _ _) _ _ _); k_dflt (refine Mine.ltV_b hv' q4 hdec ?_; k_whole)) | ((with_reducible show wpAny _ _ (eval (Expr.Name _ _) _) _ _ _); k_dflt (refine Mine.name_P (by with_reducible assumption) (by assumption) (by with_reducible (repeat (first | exact Mine.At.here | apply Mine.At.there))) (by exact Eq.refl (some (some _))) ?_; k_whole)) | walk1 | (dsimp only; walk1) | (leave1; (try dsimp only)) | fail "no step"))
              refine CTurn.mk (by assumption) (by assumption) ⟨ks, hks, fun ⟨x, hx, hl⟩ => hne ⟨x, ?_, hl⟩⟩
              rw [tk9] at hx
              rcases List.mem_append.mp hx with hx | hx
              · exact hx
              · rw [List.mem_singleton.mp hx] at hl; exact absurd hl hlt
        · intro i ys v hi hP hyi
          have hP2 : (ps19.map Value.ref)[i]? = some v := by simpa using hP
          obtain ⟨q, hq, rfl⟩ := refs_at hP2
          obtain ⟨v1, c, r, t, hcr, hvn, hm⟩ := E20.at_ i q hq
          refine ⟨q, v1, .int r t, rfl, mem7 hm, ?_⟩
          intro I1 oI C1 oC D1 m1 h1 tk1 hC hx hx2 F N off ne
          have hr := reds_in (List.mem_of_getElem? hcr)
          have hr0 := hr.1
          have hr1 := hr.2
          have hwl : (worthL n).length ≤ 1000 := by rw [worthL_len]; lia
          (repeat' (first | (k_unfold; (try dsimp only)) | (k_end; kc_close) | ((with_reducible show wpAny _ _ (callWith _ (Value.ref _) _ _ _) _ _ _); k_dflt (refine' callWith_K ?k1 ?k2 ?_; (case k1 => k_asm); (case k2 => k_is); k_whole)) | ((with_reducible show wpAny _ _ (eval (Expr.Name _ _) _) _ _ _); k_dflt (refine' nameX_F ?N ?c ?m ?d ?_ ?a ?b; (case a => rfl); (case b => rfl); (case N => k_asm); (case c => rfl); (case m => k_mem); (case d => k_asm); k_whole)) | ((with_reducible show wpAny _ _ (subscriptTail _ _ (Value.ref D2) (Value.int _ _)) _ _ _); k_dflt (refine Mine.item_intZ (by k_asm) (by k_mem) hy hr0 hr1 hwl ?_ (by with_unfolding_all rfl); k_whole); intro t'; (try dsimp only)) | ((with_reducible show wpAny _ _ (eval (Expr.Name _ _) _) _ _ _); k_dflt (refine Mine.name_P (by with_reducible assumption) (by assumption) (by with_reducible (repeat (first | exact Mine.At.here | apply Mine.At.there))) (by exact Eq.refl (some (some _))) ?_; k_whole)) | walk1 | (dsimp only; walk1) | (leave1; (try dsimp only)) | fail "no step"))
          refine CTurn.mk (by assumption) (by assumption) ?_
          rw [takeS (x := (worthL n).getD r.toNat 0) (by rw [List.getElem?_map, hcr]; rfl)]
          exact IntsAre.snoc hyi
      · intro i ys3 v I1 oI C1 oC D1 m1 h1 tk1 hk hy3 hv hC hx F N off ne
        obtain ⟨x, tx, rfl, hxx⟩ := hids.at i v hv
        have hx0 : 0 ≤ x := (hdd x (List.mem_of_getElem? hxx)).1
        (repeat' (first | (k_unfold; (try dsimp only)) | (k_end; kc_close) | ((with_reducible show wpAny _ _ (callWith _ (Value.ref _) _ _ _) _ _ _); k_dflt (refine' callWith_K ?k1 ?k2 ?_; (case k1 => k_asm); (case k2 => k_is); k_whole)) | ((with_reducible show wpAny _ _ (eval (Expr.Name _ _) _) _ _ _); k_dflt (refine Mine.name_P (by with_reducible assumption) (by assumption) (by with_reducible (repeat (first | exact Mine.At.here | apply Mine.At.there))) (by exact Eq.refl (some (some _))) ?_; k_whole)) | ((with_reducible show wpAny _ _ (call (Value.ref 175) _) _ _ _); k_dflt (refine' Mine.word_c _ _ hx0 ?_ _ _ _ _ _ _ _ _ _ _ _ ?c1 ?c2 ?c3 ?c4 ?c5 ?c6 ?c7 ?c8; (case c1 => k_asm); (case c2 => k_asm); (case c3 => k_asm); (case c4 => k_asm); (case c5 => k_asm); (case c6 => first | assumption | exact rfl); (case c7 => k_room); (case c8 => k_room); k_whole); intro h' tk' v1 t1 hv1 F' N'; (try dsimp only)) | walk1 | (dsimp only; walk1) | (leave1; (try dsimp only)) | fail "no step"))
        refine CTurn.mk (by assumption) (by assumption) ?_
        rw [takeS hxx, List.map_append]
        subst hv1
        exact strs_snoc hy3
    · intro i ys v I1 oI C1 oC D1 m1 h1 tk1 hk hy hv hC hx F N off ne
      obtain ⟨tv, rfl⟩ := hv
      (repeat' (first | (k_unfold; (try dsimp only)) | (k_end; kc_close) | ((with_reducible show wpAny _ _ (callWith _ (Value.ref _) _ _ _) _ _ _); k_dflt (refine' callWith_K ?k1 ?k2 ?_; (case k1 => k_asm); (case k2 => k_is); k_whole)) | ((with_reducible show wpAny _ _ (eval (Expr.Name _ _) _) _ _ _); k_dflt (refine' nameX_F ?N ?c ?m ?d ?_ ?a ?b; (case a => rfl); (case b => rfl); (case N => k_asm); (case c => rfl); (case m => k_mem); (case d => k_asm); k_whole)) | ((with_reducible show wpAny _ _ (eval (Expr.Name _ _) _) _ _ _); k_dflt (refine Mine.name_P (by with_reducible assumption) (by assumption) (by with_reducible (repeat (first | exact Mine.At.here | apply Mine.At.there))) (by exact Eq.refl (some (some _))) ?_; k_whole)) | ((with_reducible show wpAny _ _ (binaryOp Operator.Pow _ _) _ _ _); k_dflt (refine pow_int_small (by lia) (by lia) (abs_32 (by lia) (by lia)) ?_)) | ((with_reducible show wpAny _ _ (binaryOp Operator.Mult _ _) _ _ _); k_dflt (refine mul_int ?_ (mul_p (by lia) (by lia) (by lia)))) | walk1 | (dsimp only; walk1) | (leave1; (try dsimp only)) | fail "no step"))
      refine CTurn.mk (by assumption) (by assumption) (worth_snoc hk hy ?_)
      rw [Int.zero_add, Int.toNat_natCast, sub_toNat hk]
end
end
end Mine
theorem PySem.Challenge.cw_to0071_01_holds : PySem.Challenge.rw_to0071_01.Holds := by
  exact Mine.law_holds
