import PyProof.Rows.All
import Wide.All
import OpenK.AllK
import Wide.FinOn
import PySem.Challenge.RW_bd0004_02
set_option Elab.async false
set_option compiler.extract_closed false
open PySem PySem.W PyProof.Rows PySem.Calls
section
open PySem PySem.W PyProof.Rows
set_option maxRecDepth 100000
namespace Mine
noncomputable section
abbrev lit {α : Type} {o : Option α} {x : α} (_ : o = some x) : α := x
def stAt (i : Nat) : Option PySem.Stmt := PySem.Challenge.pw_bd0004_02.main.body[i]?
def inCls : Option PySem.Stmt → Nat → Option PySem.Stmt
  | some (.ClassDef _ _ _ body _ _ _ _ _ _ _), j => body[j]?
  | _, _ => none
def fParams : Option PySem.Stmt → Option PySem.Arguments
  | some (.FunctionDef _ a _ _ _ _ _ _ _ _) => some a
  | _ => none
def fBody : Option PySem.Stmt → Option (List PySem.Stmt)
  | some (.FunctionDef _ _ b _ _ _ _ _ _ _) => some b
  | _ => none
def fScope : Option PySem.Stmt → Option PySem.Scope
  | some (.FunctionDef _ _ _ _ _ _ s _ _ _) => some s
  | _ => none
noncomputable abbrev p21 : PySem.Arguments := lit (o := fParams (stAt 0)) rfl
noncomputable abbrev b21 : List PySem.Stmt := lit (o := fBody (stAt 0)) rfl
noncomputable abbrev s21 : PySem.Scope := lit (o := fScope (stAt 0)) rfl
noncomputable abbrev p35 : PySem.Arguments := lit (o := fParams (inCls (stAt 2) 0)) rfl
noncomputable abbrev b35 : List PySem.Stmt := lit (o := fBody (inCls (stAt 2) 0)) rfl
noncomputable abbrev s35 : PySem.Scope := lit (o := fScope (inCls (stAt 2) 0)) rfl
noncomputable abbrev p42 : PySem.Arguments := lit (o := fParams (inCls (stAt 2) 1)) rfl
noncomputable abbrev b42 : List PySem.Stmt := lit (o := fBody (inCls (stAt 2) 1)) rfl
noncomputable abbrev s42 : PySem.Scope := lit (o := fScope (inCls (stAt 2) 1)) rfl
noncomputable abbrev p49 : PySem.Arguments := lit (o := fParams (inCls (stAt 2) 2)) rfl
noncomputable abbrev b49 : List PySem.Stmt := lit (o := fBody (inCls (stAt 2) 2)) rfl
noncomputable abbrev s49 : PySem.Scope := lit (o := fScope (inCls (stAt 2) 2)) rfl
noncomputable abbrev p56 : PySem.Arguments := lit (o := fParams (inCls (stAt 2) 3)) rfl
noncomputable abbrev b56 : List PySem.Stmt := lit (o := fBody (inCls (stAt 2) 3)) rfl
noncomputable abbrev s56 : PySem.Scope := lit (o := fScope (inCls (stAt 2) 3)) rfl
noncomputable abbrev p63 : PySem.Arguments := lit (o := fParams (inCls (stAt 2) 4)) rfl
noncomputable abbrev b63 : List PySem.Stmt := lit (o := fBody (inCls (stAt 2) 4)) rfl
noncomputable abbrev s63 : PySem.Scope := lit (o := fScope (inCls (stAt 2) 4)) rfl
noncomputable abbrev p84 : PySem.Arguments := lit (o := fParams (inCls (stAt 3) 0)) rfl
noncomputable abbrev b84 : List PySem.Stmt := lit (o := fBody (inCls (stAt 3) 0)) rfl
noncomputable abbrev s84 : PySem.Scope := lit (o := fScope (inCls (stAt 3) 0)) rfl
noncomputable abbrev p91 : PySem.Arguments := lit (o := fParams (inCls (stAt 3) 1)) rfl
noncomputable abbrev b91 : List PySem.Stmt := lit (o := fBody (inCls (stAt 3) 1)) rfl
noncomputable abbrev s91 : PySem.Scope := lit (o := fScope (inCls (stAt 3) 1)) rfl
noncomputable abbrev p98 : PySem.Arguments := lit (o := fParams (inCls (stAt 3) 2)) rfl
noncomputable abbrev b98 : List PySem.Stmt := lit (o := fBody (inCls (stAt 3) 2)) rfl
noncomputable abbrev s98 : PySem.Scope := lit (o := fScope (inCls (stAt 3) 2)) rfl
noncomputable abbrev p103 : PySem.Arguments := lit (o := fParams (inCls (stAt 3) 3)) rfl
noncomputable abbrev b103 : List PySem.Stmt := lit (o := fBody (inCls (stAt 3) 3)) rfl
noncomputable abbrev s103 : PySem.Scope := lit (o := fScope (inCls (stAt 3) 3)) rfl
noncomputable abbrev p110 : PySem.Arguments := lit (o := fParams (inCls (stAt 3) 4)) rfl
noncomputable abbrev b110 : List PySem.Stmt := lit (o := fBody (inCls (stAt 3) 4)) rfl
noncomputable abbrev s110 : PySem.Scope := lit (o := fScope (inCls (stAt 3) 4)) rfl
noncomputable abbrev p117 : PySem.Arguments := lit (o := fParams (inCls (stAt 3) 5)) rfl
noncomputable abbrev b117 : List PySem.Stmt := lit (o := fBody (inCls (stAt 3) 5)) rfl
noncomputable abbrev s117 : PySem.Scope := lit (o := fScope (inCls (stAt 3) 5)) rfl
noncomputable abbrev p124 : PySem.Arguments := lit (o := fParams (inCls (stAt 3) 6)) rfl
noncomputable abbrev b124 : List PySem.Stmt := lit (o := fBody (inCls (stAt 3) 6)) rfl
noncomputable abbrev s124 : PySem.Scope := lit (o := fScope (inCls (stAt 3) 6)) rfl
noncomputable abbrev p129 : PySem.Arguments := lit (o := fParams (inCls (stAt 3) 7)) rfl
noncomputable abbrev b129 : List PySem.Stmt := lit (o := fBody (inCls (stAt 3) 7)) rfl
noncomputable abbrev s129 : PySem.Scope := lit (o := fScope (inCls (stAt 3) 7)) rfl
noncomputable abbrev p134 : PySem.Arguments := lit (o := fParams (inCls (stAt 3) 8)) rfl
noncomputable abbrev b134 : List PySem.Stmt := lit (o := fBody (inCls (stAt 3) 8)) rfl
noncomputable abbrev s134 : PySem.Scope := lit (o := fScope (inCls (stAt 3) 8)) rfl
noncomputable abbrev p139 : PySem.Arguments := lit (o := fParams (inCls (stAt 3) 9)) rfl
noncomputable abbrev b139 : List PySem.Stmt := lit (o := fBody (inCls (stAt 3) 9)) rfl
noncomputable abbrev s139 : PySem.Scope := lit (o := fScope (inCls (stAt 3) 9)) rfl
noncomputable abbrev p146 : PySem.Arguments := lit (o := fParams (inCls (stAt 3) 10)) rfl
noncomputable abbrev b146 : List PySem.Stmt := lit (o := fBody (inCls (stAt 3) 10)) rfl
noncomputable abbrev s146 : PySem.Scope := lit (o := fScope (inCls (stAt 3) 10)) rfl
noncomputable abbrev p153 : PySem.Arguments := lit (o := fParams (inCls (stAt 3) 11)) rfl
noncomputable abbrev b153 : List PySem.Stmt := lit (o := fBody (inCls (stAt 3) 11)) rfl
noncomputable abbrev s153 : PySem.Scope := lit (o := fScope (inCls (stAt 3) 11)) rfl
noncomputable abbrev p160 : PySem.Arguments := lit (o := fParams (inCls (stAt 3) 12)) rfl
noncomputable abbrev b160 : List PySem.Stmt := lit (o := fBody (inCls (stAt 3) 12)) rfl
noncomputable abbrev s160 : PySem.Scope := lit (o := fScope (inCls (stAt 3) 12)) rfl
noncomputable abbrev p165 : PySem.Arguments := lit (o := fParams (inCls (stAt 3) 13)) rfl
noncomputable abbrev b165 : List PySem.Stmt := lit (o := fBody (inCls (stAt 3) 13)) rfl
noncomputable abbrev s165 : PySem.Scope := lit (o := fScope (inCls (stAt 3) 13)) rfl
noncomputable abbrev p172 : PySem.Arguments := lit (o := fParams (inCls (stAt 3) 14)) rfl
noncomputable abbrev b172 : List PySem.Stmt := lit (o := fBody (inCls (stAt 3) 14)) rfl
noncomputable abbrev s172 : PySem.Scope := lit (o := fScope (inCls (stAt 3) 14)) rfl
noncomputable abbrev p179 : PySem.Arguments := lit (o := fParams (inCls (stAt 3) 15)) rfl
noncomputable abbrev b179 : List PySem.Stmt := lit (o := fBody (inCls (stAt 3) 15)) rfl
noncomputable abbrev s179 : PySem.Scope := lit (o := fScope (inCls (stAt 3) 15)) rfl
noncomputable abbrev p186 : PySem.Arguments := lit (o := fParams (inCls (stAt 3) 16)) rfl
noncomputable abbrev b186 : List PySem.Stmt := lit (o := fBody (inCls (stAt 3) 16)) rfl
noncomputable abbrev s186 : PySem.Scope := lit (o := fScope (inCls (stAt 3) 16)) rfl
noncomputable abbrev p191 : PySem.Arguments := lit (o := fParams (inCls (stAt 3) 17)) rfl
noncomputable abbrev b191 : List PySem.Stmt := lit (o := fBody (inCls (stAt 3) 17)) rfl
noncomputable abbrev s191 : PySem.Scope := lit (o := fScope (inCls (stAt 3) 17)) rfl
noncomputable abbrev p198 : PySem.Arguments := lit (o := fParams (inCls (stAt 3) 18)) rfl
noncomputable abbrev b198 : List PySem.Stmt := lit (o := fBody (inCls (stAt 3) 18)) rfl
noncomputable abbrev s198 : PySem.Scope := lit (o := fScope (inCls (stAt 3) 18)) rfl
noncomputable abbrev p205 : PySem.Arguments := lit (o := fParams (inCls (stAt 3) 19)) rfl
noncomputable abbrev b205 : List PySem.Stmt := lit (o := fBody (inCls (stAt 3) 19)) rfl
noncomputable abbrev s205 : PySem.Scope := lit (o := fScope (inCls (stAt 3) 19)) rfl
noncomputable abbrev p212 : PySem.Arguments := lit (o := fParams (inCls (stAt 3) 20)) rfl
noncomputable abbrev b212 : List PySem.Stmt := lit (o := fBody (inCls (stAt 3) 20)) rfl
noncomputable abbrev s212 : PySem.Scope := lit (o := fScope (inCls (stAt 3) 20)) rfl
noncomputable abbrev p219 : PySem.Arguments := lit (o := fParams (inCls (stAt 3) 21)) rfl
noncomputable abbrev b219 : List PySem.Stmt := lit (o := fBody (inCls (stAt 3) 21)) rfl
noncomputable abbrev s219 : PySem.Scope := lit (o := fScope (inCls (stAt 3) 21)) rfl
noncomputable abbrev p226 : PySem.Arguments := lit (o := fParams (inCls (stAt 3) 22)) rfl
noncomputable abbrev b226 : List PySem.Stmt := lit (o := fBody (inCls (stAt 3) 22)) rfl
noncomputable abbrev s226 : PySem.Scope := lit (o := fScope (inCls (stAt 3) 22)) rfl
noncomputable abbrev p247 : PySem.Arguments := lit (o := fParams (inCls (stAt 5) 0)) rfl
noncomputable abbrev b247 : List PySem.Stmt := lit (o := fBody (inCls (stAt 5) 0)) rfl
noncomputable abbrev s247 : PySem.Scope := lit (o := fScope (inCls (stAt 5) 0)) rfl
noncomputable abbrev p254 : PySem.Arguments := lit (o := fParams (inCls (stAt 5) 1)) rfl
noncomputable abbrev b254 : List PySem.Stmt := lit (o := fBody (inCls (stAt 5) 1)) rfl
noncomputable abbrev s254 : PySem.Scope := lit (o := fScope (inCls (stAt 5) 1)) rfl
noncomputable abbrev p261 : PySem.Arguments := lit (o := fParams (inCls (stAt 5) 2)) rfl
noncomputable abbrev b261 : List PySem.Stmt := lit (o := fBody (inCls (stAt 5) 2)) rfl
noncomputable abbrev s261 : PySem.Scope := lit (o := fScope (inCls (stAt 5) 2)) rfl
noncomputable abbrev p268 : PySem.Arguments := lit (o := fParams (inCls (stAt 5) 3)) rfl
noncomputable abbrev b268 : List PySem.Stmt := lit (o := fBody (inCls (stAt 5) 3)) rfl
noncomputable abbrev s268 : PySem.Scope := lit (o := fScope (inCls (stAt 5) 3)) rfl
noncomputable abbrev p275 : PySem.Arguments := lit (o := fParams (inCls (stAt 5) 4)) rfl
noncomputable abbrev b275 : List PySem.Stmt := lit (o := fBody (inCls (stAt 5) 4)) rfl
noncomputable abbrev s275 : PySem.Scope := lit (o := fScope (inCls (stAt 5) 4)) rfl
noncomputable abbrev p294 : PySem.Arguments := lit (o := fParams (inCls (stAt 7) 0)) rfl
noncomputable abbrev b294 : List PySem.Stmt := lit (o := fBody (inCls (stAt 7) 0)) rfl
noncomputable abbrev s294 : PySem.Scope := lit (o := fScope (inCls (stAt 7) 0)) rfl
noncomputable abbrev p301 : PySem.Arguments := lit (o := fParams (inCls (stAt 7) 1)) rfl
noncomputable abbrev b301 : List PySem.Stmt := lit (o := fBody (inCls (stAt 7) 1)) rfl
noncomputable abbrev s301 : PySem.Scope := lit (o := fScope (inCls (stAt 7) 1)) rfl
noncomputable abbrev p309 : PySem.Arguments := lit (o := fParams (inCls (stAt 7) 2)) rfl
noncomputable abbrev b309 : List PySem.Stmt := lit (o := fBody (inCls (stAt 7) 2)) rfl
noncomputable abbrev s309 : PySem.Scope := lit (o := fScope (inCls (stAt 7) 2)) rfl
noncomputable abbrev p314 : PySem.Arguments := lit (o := fParams (inCls (stAt 7) 3)) rfl
noncomputable abbrev b314 : List PySem.Stmt := lit (o := fBody (inCls (stAt 7) 3)) rfl
noncomputable abbrev s314 : PySem.Scope := lit (o := fScope (inCls (stAt 7) 3)) rfl
noncomputable abbrev p321 : PySem.Arguments := lit (o := fParams (inCls (stAt 7) 4)) rfl
noncomputable abbrev b321 : List PySem.Stmt := lit (o := fBody (inCls (stAt 7) 4)) rfl
noncomputable abbrev s321 : PySem.Scope := lit (o := fScope (inCls (stAt 7) 4)) rfl
noncomputable abbrev p328 : PySem.Arguments := lit (o := fParams (inCls (stAt 7) 5)) rfl
noncomputable abbrev b328 : List PySem.Stmt := lit (o := fBody (inCls (stAt 7) 5)) rfl
noncomputable abbrev s328 : PySem.Scope := lit (o := fScope (inCls (stAt 7) 5)) rfl
noncomputable abbrev p335 : PySem.Arguments := lit (o := fParams (inCls (stAt 7) 6)) rfl
noncomputable abbrev b335 : List PySem.Stmt := lit (o := fBody (inCls (stAt 7) 6)) rfl
noncomputable abbrev s335 : PySem.Scope := lit (o := fScope (inCls (stAt 7) 6)) rfl
noncomputable abbrev p342 : PySem.Arguments := lit (o := fParams (inCls (stAt 7) 7)) rfl
noncomputable abbrev b342 : List PySem.Stmt := lit (o := fBody (inCls (stAt 7) 7)) rfl
noncomputable abbrev s342 : PySem.Scope := lit (o := fScope (inCls (stAt 7) 7)) rfl
noncomputable abbrev p349 : PySem.Arguments := lit (o := fParams (inCls (stAt 7) 8)) rfl
noncomputable abbrev b349 : List PySem.Stmt := lit (o := fBody (inCls (stAt 7) 8)) rfl
noncomputable abbrev s349 : PySem.Scope := lit (o := fScope (inCls (stAt 7) 8)) rfl
noncomputable abbrev p356 : PySem.Arguments := lit (o := fParams (inCls (stAt 7) 9)) rfl
noncomputable abbrev b356 : List PySem.Stmt := lit (o := fBody (inCls (stAt 7) 9)) rfl
noncomputable abbrev s356 : PySem.Scope := lit (o := fScope (inCls (stAt 7) 9)) rfl
noncomputable abbrev p363 : PySem.Arguments := lit (o := fParams (inCls (stAt 7) 10)) rfl
noncomputable abbrev b363 : List PySem.Stmt := lit (o := fBody (inCls (stAt 7) 10)) rfl
noncomputable abbrev s363 : PySem.Scope := lit (o := fScope (inCls (stAt 7) 10)) rfl
noncomputable abbrev p370 : PySem.Arguments := lit (o := fParams (inCls (stAt 7) 11)) rfl
noncomputable abbrev b370 : List PySem.Stmt := lit (o := fBody (inCls (stAt 7) 11)) rfl
noncomputable abbrev s370 : PySem.Scope := lit (o := fScope (inCls (stAt 7) 11)) rfl
noncomputable abbrev p378 : PySem.Arguments := lit (o := fParams (inCls (stAt 7) 12)) rfl
noncomputable abbrev b378 : List PySem.Stmt := lit (o := fBody (inCls (stAt 7) 12)) rfl
noncomputable abbrev s378 : PySem.Scope := lit (o := fScope (inCls (stAt 7) 12)) rfl
noncomputable abbrev p385 : PySem.Arguments := lit (o := fParams (inCls (stAt 7) 13)) rfl
noncomputable abbrev b385 : List PySem.Stmt := lit (o := fBody (inCls (stAt 7) 13)) rfl
noncomputable abbrev s385 : PySem.Scope := lit (o := fScope (inCls (stAt 7) 13)) rfl
noncomputable abbrev p404 : PySem.Arguments := lit (o := fParams (inCls (stAt 8) 0)) rfl
noncomputable abbrev b404 : List PySem.Stmt := lit (o := fBody (inCls (stAt 8) 0)) rfl
noncomputable abbrev s404 : PySem.Scope := lit (o := fScope (inCls (stAt 8) 0)) rfl
noncomputable abbrev p411 : PySem.Arguments := lit (o := fParams (inCls (stAt 8) 1)) rfl
noncomputable abbrev b411 : List PySem.Stmt := lit (o := fBody (inCls (stAt 8) 1)) rfl
noncomputable abbrev s411 : PySem.Scope := lit (o := fScope (inCls (stAt 8) 1)) rfl
noncomputable abbrev p418 : PySem.Arguments := lit (o := fParams (inCls (stAt 8) 2)) rfl
noncomputable abbrev b418 : List PySem.Stmt := lit (o := fBody (inCls (stAt 8) 2)) rfl
noncomputable abbrev s418 : PySem.Scope := lit (o := fScope (inCls (stAt 8) 2)) rfl
noncomputable abbrev p425 : PySem.Arguments := lit (o := fParams (inCls (stAt 8) 3)) rfl
noncomputable abbrev b425 : List PySem.Stmt := lit (o := fBody (inCls (stAt 8) 3)) rfl
noncomputable abbrev s425 : PySem.Scope := lit (o := fScope (inCls (stAt 8) 3)) rfl
noncomputable abbrev p433 : PySem.Arguments := lit (o := fParams (inCls (stAt 8) 4)) rfl
noncomputable abbrev b433 : List PySem.Stmt := lit (o := fBody (inCls (stAt 8) 4)) rfl
noncomputable abbrev s433 : PySem.Scope := lit (o := fScope (inCls (stAt 8) 4)) rfl
noncomputable abbrev p441 : PySem.Arguments := lit (o := fParams (inCls (stAt 8) 5)) rfl
noncomputable abbrev b441 : List PySem.Stmt := lit (o := fBody (inCls (stAt 8) 5)) rfl
noncomputable abbrev s441 : PySem.Scope := lit (o := fScope (inCls (stAt 8) 5)) rfl
noncomputable abbrev p448 : PySem.Arguments := lit (o := fParams (inCls (stAt 8) 7)) rfl
noncomputable abbrev b448 : List PySem.Stmt := lit (o := fBody (inCls (stAt 8) 7)) rfl
noncomputable abbrev s448 : PySem.Scope := lit (o := fScope (inCls (stAt 8) 7)) rfl
noncomputable abbrev p455 : PySem.Arguments := lit (o := fParams (inCls (stAt 8) 8)) rfl
noncomputable abbrev b455 : List PySem.Stmt := lit (o := fBody (inCls (stAt 8) 8)) rfl
noncomputable abbrev s455 : PySem.Scope := lit (o := fScope (inCls (stAt 8) 8)) rfl
noncomputable abbrev p462 : PySem.Arguments := lit (o := fParams (inCls (stAt 8) 10)) rfl
noncomputable abbrev b462 : List PySem.Stmt := lit (o := fBody (inCls (stAt 8) 10)) rfl
noncomputable abbrev s462 : PySem.Scope := lit (o := fScope (inCls (stAt 8) 10)) rfl
noncomputable abbrev p472 : PySem.Arguments := lit (o := fParams (inCls (stAt 8) 11)) rfl
noncomputable abbrev b472 : List PySem.Stmt := lit (o := fBody (inCls (stAt 8) 11)) rfl
noncomputable abbrev s472 : PySem.Scope := lit (o := fScope (inCls (stAt 8) 11)) rfl
noncomputable abbrev p479 : PySem.Arguments := lit (o := fParams (inCls (stAt 8) 12)) rfl
noncomputable abbrev b479 : List PySem.Stmt := lit (o := fBody (inCls (stAt 8) 12)) rfl
noncomputable abbrev s479 : PySem.Scope := lit (o := fScope (inCls (stAt 8) 12)) rfl
noncomputable abbrev p486 : PySem.Arguments := lit (o := fParams (inCls (stAt 8) 13)) rfl
noncomputable abbrev b486 : List PySem.Stmt := lit (o := fBody (inCls (stAt 8) 13)) rfl
noncomputable abbrev s486 : PySem.Scope := lit (o := fScope (inCls (stAt 8) 13)) rfl
noncomputable abbrev p493 : PySem.Arguments := lit (o := fParams (inCls (stAt 8) 14)) rfl
noncomputable abbrev b493 : List PySem.Stmt := lit (o := fBody (inCls (stAt 8) 14)) rfl
noncomputable abbrev s493 : PySem.Scope := lit (o := fScope (inCls (stAt 8) 14)) rfl
noncomputable abbrev p500 : PySem.Arguments := lit (o := fParams (inCls (stAt 8) 15)) rfl
noncomputable abbrev b500 : List PySem.Stmt := lit (o := fBody (inCls (stAt 8) 15)) rfl
noncomputable abbrev s500 : PySem.Scope := lit (o := fScope (inCls (stAt 8) 15)) rfl
noncomputable abbrev p507 : PySem.Arguments := lit (o := fParams (inCls (stAt 8) 16)) rfl
noncomputable abbrev b507 : List PySem.Stmt := lit (o := fBody (inCls (stAt 8) 16)) rfl
noncomputable abbrev s507 : PySem.Scope := lit (o := fScope (inCls (stAt 8) 16)) rfl
noncomputable abbrev p514 : PySem.Arguments := lit (o := fParams (inCls (stAt 8) 17)) rfl
noncomputable abbrev b514 : List PySem.Stmt := lit (o := fBody (inCls (stAt 8) 17)) rfl
noncomputable abbrev s514 : PySem.Scope := lit (o := fScope (inCls (stAt 8) 17)) rfl
noncomputable abbrev p521 : PySem.Arguments := lit (o := fParams (inCls (stAt 8) 18)) rfl
noncomputable abbrev b521 : List PySem.Stmt := lit (o := fBody (inCls (stAt 8) 18)) rfl
noncomputable abbrev s521 : PySem.Scope := lit (o := fScope (inCls (stAt 8) 18)) rfl
noncomputable abbrev p540 : PySem.Arguments := lit (o := fParams (inCls (stAt 9) 0)) rfl
noncomputable abbrev b540 : List PySem.Stmt := lit (o := fBody (inCls (stAt 9) 0)) rfl
noncomputable abbrev s540 : PySem.Scope := lit (o := fScope (inCls (stAt 9) 0)) rfl
noncomputable abbrev p547 : PySem.Arguments := lit (o := fParams (inCls (stAt 9) 1)) rfl
noncomputable abbrev b547 : List PySem.Stmt := lit (o := fBody (inCls (stAt 9) 1)) rfl
noncomputable abbrev s547 : PySem.Scope := lit (o := fScope (inCls (stAt 9) 1)) rfl
noncomputable abbrev p554 : PySem.Arguments := lit (o := fParams (inCls (stAt 9) 2)) rfl
noncomputable abbrev b554 : List PySem.Stmt := lit (o := fBody (inCls (stAt 9) 2)) rfl
noncomputable abbrev s554 : PySem.Scope := lit (o := fScope (inCls (stAt 9) 2)) rfl
noncomputable abbrev p559 : PySem.Arguments := lit (o := fParams (inCls (stAt 9) 3)) rfl
noncomputable abbrev b559 : List PySem.Stmt := lit (o := fBody (inCls (stAt 9) 3)) rfl
noncomputable abbrev s559 : PySem.Scope := lit (o := fScope (inCls (stAt 9) 3)) rfl
noncomputable abbrev p566 : PySem.Arguments := lit (o := fParams (inCls (stAt 9) 4)) rfl
noncomputable abbrev b566 : List PySem.Stmt := lit (o := fBody (inCls (stAt 9) 4)) rfl
noncomputable abbrev s566 : PySem.Scope := lit (o := fScope (inCls (stAt 9) 4)) rfl
noncomputable abbrev p573 : PySem.Arguments := lit (o := fParams (inCls (stAt 9) 5)) rfl
noncomputable abbrev b573 : List PySem.Stmt := lit (o := fBody (inCls (stAt 9) 5)) rfl
noncomputable abbrev s573 : PySem.Scope := lit (o := fScope (inCls (stAt 9) 5)) rfl
noncomputable abbrev p580 : PySem.Arguments := lit (o := fParams (inCls (stAt 9) 6)) rfl
noncomputable abbrev b580 : List PySem.Stmt := lit (o := fBody (inCls (stAt 9) 6)) rfl
noncomputable abbrev s580 : PySem.Scope := lit (o := fScope (inCls (stAt 9) 6)) rfl
noncomputable abbrev p585 : PySem.Arguments := lit (o := fParams (inCls (stAt 9) 7)) rfl
noncomputable abbrev b585 : List PySem.Stmt := lit (o := fBody (inCls (stAt 9) 7)) rfl
noncomputable abbrev s585 : PySem.Scope := lit (o := fScope (inCls (stAt 9) 7)) rfl
noncomputable abbrev p597 : PySem.Arguments := lit (o := fParams (stAt 11)) rfl
noncomputable abbrev b597 : List PySem.Stmt := lit (o := fBody (stAt 11)) rfl
noncomputable abbrev s597 : PySem.Scope := lit (o := fScope (stAt 11)) rfl
noncomputable abbrev p604 : PySem.Arguments := lit (o := fParams (stAt 12)) rfl
noncomputable abbrev b604 : List PySem.Stmt := lit (o := fBody (stAt 12)) rfl
noncomputable abbrev s604 : PySem.Scope := lit (o := fScope (stAt 12)) rfl
noncomputable abbrev p611 : PySem.Arguments := lit (o := fParams (stAt 13)) rfl
noncomputable abbrev b611 : List PySem.Stmt := lit (o := fBody (stAt 13)) rfl
noncomputable abbrev s611 : PySem.Scope := lit (o := fScope (stAt 13)) rfl
noncomputable abbrev p616 : PySem.Arguments := lit (o := fParams (stAt 14)) rfl
noncomputable abbrev b616 : List PySem.Stmt := lit (o := fBody (stAt 14)) rfl
noncomputable abbrev s616 : PySem.Scope := lit (o := fScope (stAt 14)) rfl
noncomputable abbrev p621 : PySem.Arguments := lit (o := fParams (stAt 15)) rfl
noncomputable abbrev b621 : List PySem.Stmt := lit (o := fBody (stAt 15)) rfl
noncomputable abbrev s621 : PySem.Scope := lit (o := fScope (stAt 15)) rfl
noncomputable abbrev p628 : PySem.Arguments := lit (o := fParams (stAt 16)) rfl
noncomputable abbrev b628 : List PySem.Stmt := lit (o := fBody (stAt 16)) rfl
noncomputable abbrev s628 : PySem.Scope := lit (o := fScope (stAt 16)) rfl
set_option maxHeartbeats 4000000 in
noncomputable def K (P : PySem.Params) : PySem.W.Frag := 
  (nat_lit 2, { cls := PySem.Value.none, data := PySem.Data.dict #[] }) ::
  (nat_lit 3, { cls := PySem.Value.type "dict", data := PySem.Data.dict #[{ hash := PySem.PyData.keyHash P (PySem.Str.ofString "__name__"), key := PySem.Value.str (PySem.Str.ofString "__name__") 165, val := PySem.Value.str (PySem.Str.ofString "law_bd0004_02") 930 }, { hash := PySem.PyData.keyHash P (PySem.Str.ofString "__doc__"), key := PySem.Value.str (PySem.Str.ofString "__doc__") 166, val := PySem.Value.none }, { hash := PySem.PyData.keyHash P (PySem.Str.ofString "__package__"), key := PySem.Value.str (PySem.Str.ofString "__package__") 167, val := PySem.Value.none }, { hash := PySem.PyData.keyHash P (PySem.Str.ofString "__loader__"), key := PySem.Value.str (PySem.Str.ofString "__loader__") 168, val := PySem.Value.builtin "__main__.__loader__#opaque" }, { hash := PySem.PyData.keyHash P (PySem.Str.ofString "__spec__"), key := PySem.Value.str (PySem.Str.ofString "__spec__") 169, val := PySem.Value.none }, { hash := PySem.PyData.keyHash P (PySem.Str.ofString "__annotations__"), key := PySem.Value.str (PySem.Str.ofString "__annotations__") 170, val := PySem.Value.ref 6 }, { hash := PySem.PyData.keyHash P (PySem.Str.ofString "__builtins__"), key := PySem.Value.str (PySem.Str.ofString "__builtins__") 171, val := PySem.Value.ref 4 }, { hash := PySem.PyData.keyHash P (PySem.Str.ofString "__file__"), key := PySem.Value.str (PySem.Str.ofString "__file__") 173, val := PySem.Value.str (PySem.Str.ofString "/claim/cut.py") 172 }, { hash := PySem.PyData.keyHash P (PySem.Str.ofString "__cached__"), key := PySem.Value.str (PySem.Str.ofString "__cached__") 174, val := PySem.Value.none }, { hash := PySem.PyData.keyHash P (PySem.Str.ofString "_wall"), key := PySem.Value.str (PySem.Str.ofString "_wall") 193, val := PySem.Value.ref 21 }, { hash := PySem.PyData.keyHash P (PySem.Str.ofString "PolynomialRingGeneric"), key := PySem.Value.str (PySem.Str.ofString "PolynomialRingGeneric") 256, val := PySem.Value.ref 66 }, { hash := PySem.PyData.keyHash P (PySem.Str.ofString "PolynomialGeneric"), key := PySem.Value.str (PySem.Str.ofString "PolynomialGeneric") 455, val := PySem.Value.ref 229 }, { hash := PySem.PyData.keyHash P (PySem.Str.ofString "Shake"), key := PySem.Value.str (PySem.Str.ofString "Shake") 525, val := PySem.Value.ref 278 }, { hash := PySem.PyData.keyHash P (PySem.Str.ofString "PolynomialRing"), key := PySem.Value.str (PySem.Str.ofString "PolynomialRing") 678, val := PySem.Value.ref 388 }, { hash := PySem.PyData.keyHash P (PySem.Str.ofString "Polynomial"), key := PySem.Value.str (PySem.Str.ofString "Polynomial") 849, val := PySem.Value.ref 524 }, { hash := PySem.PyData.keyHash P (PySem.Str.ofString "PolynomialNTT"), key := PySem.Value.str (PySem.Str.ofString "PolynomialNTT") 929, val := PySem.Value.ref 588 }, { hash := PySem.PyData.keyHash P (PySem.Str.ofString "_law_number"), key := PySem.Value.str (PySem.Str.ofString "_law_number") 940, val := PySem.Value.ref 597 }, { hash := PySem.PyData.keyHash P (PySem.Str.ofString "_law_ring"), key := PySem.Value.str (PySem.Str.ofString "_law_ring") 953, val := PySem.Value.ref 604 }, { hash := PySem.PyData.keyHash P (PySem.Str.ofString "_law_groups"), key := PySem.Value.str (PySem.Str.ofString "_law_groups") 964, val := PySem.Value.ref 611 }, { hash := PySem.PyData.keyHash P (PySem.Str.ofString "_law_matrix_right"), key := PySem.Value.str (PySem.Str.ofString "_law_matrix_right") 970, val := PySem.Value.ref 616 }, { hash := PySem.PyData.keyHash P (PySem.Str.ofString "_law_ball_right"), key := PySem.Value.str (PySem.Str.ofString "_law_ball_right") 976, val := PySem.Value.ref 621 }, { hash := PySem.PyData.keyHash P (PySem.Str.ofString "law"), key := PySem.Value.str (PySem.Str.ofString "law") 984, val := PySem.Value.ref 628 }] 22 }) ::
  (nat_lit 15, { cls := PySem.Value.type "tuple", data := PySem.Data.seq #[] }) ::
  (nat_lit 17, { cls := PySem.Value.type "tuple", data := PySem.Data.seq #[PySem.Value.str (PySem.Str.ofString "k") 190] }) ::
  (nat_lit 18, { cls := PySem.Value.type "tuple", data := PySem.Data.seq #[] }) ::
  (nat_lit 20, { cls := PySem.Value.type "code", data := PySem.Data.fields #[PySem.Value.str (PySem.Str.ofString "_wall") 187, PySem.Value.str (PySem.Str.ofString "_wall") 188, PySem.Value.str (PySem.Str.ofString "/claim/cut.py") 189, PySem.Value.int 1 0, PySem.Value.int 1 0, PySem.Value.int 0 0, PySem.Value.int 0 0, PySem.Value.int 3 0, PySem.Value.ref 15, PySem.Value.bool Bool.true, PySem.Value.int 181 0, PySem.Value.ref 16, PySem.Value.none, PySem.Value.ref 17, PySem.Value.ref 18, PySem.Value.ref 19, PySem.Value.int 191 0, PySem.Value.int 1 0, PySem.Value.str (PySem.Str.ofString "/claim/cut.py") 192] }) ::
  (nat_lit 21, { cls := PySem.Value.type "function", data := PySem.Data.func { name := PySem.Str.ofString "_wall", qualname := PySem.Str.ofString "_wall", params := p21, body := PySem.FuncBody.stmts b21, scope := s21, globals := 3, closure := [], defaults := PySem.Value.none, kwdefaults := PySem.Value.none, pyModule := PySem.Value.str (PySem.Str.ofString "__main__") 164, code := PySem.Value.ref 20 } }) ::
  (nat_lit 29, { cls := PySem.Value.type "tuple", data := PySem.Data.seq #[] }) ::
  (nat_lit 31, { cls := PySem.Value.type "tuple", data := PySem.Data.seq #[PySem.Value.str (PySem.Str.ofString "self") 211, PySem.Value.str (PySem.Str.ofString "q") 212, PySem.Value.str (PySem.Str.ofString "n") 213] }) ::
  (nat_lit 32, { cls := PySem.Value.type "tuple", data := PySem.Data.seq #[] }) ::
  (nat_lit 34, { cls := PySem.Value.type "code", data := PySem.Data.fields #[PySem.Value.str (PySem.Str.ofString "__init__") 208, PySem.Value.str (PySem.Str.ofString "PolynomialRingGeneric.__init__") 209, PySem.Value.str (PySem.Str.ofString "/claim/cut.py") 210, PySem.Value.int 7 0, PySem.Value.int 3 0, PySem.Value.int 0 0, PySem.Value.int 0 0, PySem.Value.int 3 0, PySem.Value.ref 29, PySem.Value.bool Bool.true, PySem.Value.int 181 0, PySem.Value.ref 30, PySem.Value.none, PySem.Value.ref 31, PySem.Value.ref 32, PySem.Value.ref 33, PySem.Value.int 214 0, PySem.Value.int 7 0, PySem.Value.str (PySem.Str.ofString "/claim/cut.py") 215] }) ::
  (nat_lit 35, { cls := PySem.Value.type "function", data := PySem.Data.func { name := PySem.Str.ofString "__init__", qualname := PySem.Str.ofString "PolynomialRingGeneric.__init__", params := p35, body := PySem.FuncBody.stmts b35, scope := s35, globals := 3, closure := [], defaults := PySem.Value.none, kwdefaults := PySem.Value.none, pyModule := PySem.Value.str (PySem.Str.ofString "dilithium_py.polynomials.polynomials_generic") 194, code := PySem.Value.ref 34 } }) ::
  (nat_lit 36, { cls := PySem.Value.type "tuple", data := PySem.Data.seq #[] }) ::
  (nat_lit 38, { cls := PySem.Value.type "tuple", data := PySem.Data.seq #[PySem.Value.str (PySem.Str.ofString "self") 220] }) ::
  (nat_lit 39, { cls := PySem.Value.type "tuple", data := PySem.Data.seq #[] }) ::
  (nat_lit 41, { cls := PySem.Value.type "code", data := PySem.Data.fields #[PySem.Value.str (PySem.Str.ofString "zero") 217, PySem.Value.str (PySem.Str.ofString "PolynomialRingGeneric.zero") 218, PySem.Value.str (PySem.Str.ofString "/claim/cut.py") 219, PySem.Value.int 11 0, PySem.Value.int 1 0, PySem.Value.int 0 0, PySem.Value.int 0 0, PySem.Value.int 3 0, PySem.Value.ref 36, PySem.Value.bool Bool.true, PySem.Value.int 181 0, PySem.Value.ref 37, PySem.Value.none, PySem.Value.ref 38, PySem.Value.ref 39, PySem.Value.ref 40, PySem.Value.int 221 0, PySem.Value.int 11 0, PySem.Value.str (PySem.Str.ofString "/claim/cut.py") 222] }) ::
  (nat_lit 42, { cls := PySem.Value.type "function", data := PySem.Data.func { name := PySem.Str.ofString "zero", qualname := PySem.Str.ofString "PolynomialRingGeneric.zero", params := p42, body := PySem.FuncBody.stmts b42, scope := s42, globals := 3, closure := [], defaults := PySem.Value.none, kwdefaults := PySem.Value.none, pyModule := PySem.Value.str (PySem.Str.ofString "dilithium_py.polynomials.polynomials_generic") 194, code := PySem.Value.ref 41 } }) ::
  (nat_lit 43, { cls := PySem.Value.type "tuple", data := PySem.Data.seq #[] }) ::
  (nat_lit 45, { cls := PySem.Value.type "tuple", data := PySem.Data.seq #[PySem.Value.str (PySem.Str.ofString "self") 227] }) ::
  (nat_lit 46, { cls := PySem.Value.type "tuple", data := PySem.Data.seq #[] }) ::
  (nat_lit 48, { cls := PySem.Value.type "code", data := PySem.Data.fields #[PySem.Value.str (PySem.Str.ofString "gen") 224, PySem.Value.str (PySem.Str.ofString "PolynomialRingGeneric.gen") 225, PySem.Value.str (PySem.Str.ofString "/claim/cut.py") 226, PySem.Value.int 14 0, PySem.Value.int 1 0, PySem.Value.int 0 0, PySem.Value.int 0 0, PySem.Value.int 3 0, PySem.Value.ref 43, PySem.Value.bool Bool.true, PySem.Value.int 181 0, PySem.Value.ref 44, PySem.Value.none, PySem.Value.ref 45, PySem.Value.ref 46, PySem.Value.ref 47, PySem.Value.int 228 0, PySem.Value.int 14 0, PySem.Value.str (PySem.Str.ofString "/claim/cut.py") 229] }) ::
  (nat_lit 49, { cls := PySem.Value.type "function", data := PySem.Data.func { name := PySem.Str.ofString "gen", qualname := PySem.Str.ofString "PolynomialRingGeneric.gen", params := p49, body := PySem.FuncBody.stmts b49, scope := s49, globals := 3, closure := [], defaults := PySem.Value.none, kwdefaults := PySem.Value.none, pyModule := PySem.Value.str (PySem.Str.ofString "dilithium_py.polynomials.polynomials_generic") 194, code := PySem.Value.ref 48 } }) ::
  (nat_lit 50, { cls := PySem.Value.type "tuple", data := PySem.Data.seq #[] }) ::
  (nat_lit 52, { cls := PySem.Value.type "tuple", data := PySem.Data.seq #[PySem.Value.str (PySem.Str.ofString "self") 234, PySem.Value.str (PySem.Str.ofString "coefficients") 235] }) ::
  (nat_lit 53, { cls := PySem.Value.type "tuple", data := PySem.Data.seq #[] }) ::
  (nat_lit 55, { cls := PySem.Value.type "code", data := PySem.Data.fields #[PySem.Value.str (PySem.Str.ofString "__call__") 231, PySem.Value.str (PySem.Str.ofString "PolynomialRingGeneric.__call__") 232, PySem.Value.str (PySem.Str.ofString "/claim/cut.py") 233, PySem.Value.int 17 0, PySem.Value.int 2 0, PySem.Value.int 0 0, PySem.Value.int 0 0, PySem.Value.int 3 0, PySem.Value.ref 50, PySem.Value.bool Bool.true, PySem.Value.int 181 0, PySem.Value.ref 51, PySem.Value.none, PySem.Value.ref 52, PySem.Value.ref 53, PySem.Value.ref 54, PySem.Value.int 236 0, PySem.Value.int 17 0, PySem.Value.str (PySem.Str.ofString "/claim/cut.py") 237] }) ::
  (nat_lit 56, { cls := PySem.Value.type "function", data := PySem.Data.func { name := PySem.Str.ofString "__call__", qualname := PySem.Str.ofString "PolynomialRingGeneric.__call__", params := p56, body := PySem.FuncBody.stmts b56, scope := s56, globals := 3, closure := [], defaults := PySem.Value.none, kwdefaults := PySem.Value.none, pyModule := PySem.Value.str (PySem.Str.ofString "dilithium_py.polynomials.polynomials_generic") 194, code := PySem.Value.ref 55 } }) ::
  (nat_lit 57, { cls := PySem.Value.type "tuple", data := PySem.Data.seq #[] }) ::
  (nat_lit 59, { cls := PySem.Value.type "tuple", data := PySem.Data.seq #[PySem.Value.str (PySem.Str.ofString "self") 242, PySem.Value.str (PySem.Str.ofString "value") 243] }) ::
  (nat_lit 60, { cls := PySem.Value.type "tuple", data := PySem.Data.seq #[] }) ::
  (nat_lit 62, { cls := PySem.Value.type "code", data := PySem.Data.fields #[PySem.Value.str (PySem.Str.ofString "is_element") 239, PySem.Value.str (PySem.Str.ofString "PolynomialRingGeneric.is_element") 240, PySem.Value.str (PySem.Str.ofString "/claim/cut.py") 241, PySem.Value.int 24 0, PySem.Value.int 2 0, PySem.Value.int 0 0, PySem.Value.int 0 0, PySem.Value.int 3 0, PySem.Value.ref 57, PySem.Value.bool Bool.true, PySem.Value.int 181 0, PySem.Value.ref 58, PySem.Value.none, PySem.Value.ref 59, PySem.Value.ref 60, PySem.Value.ref 61, PySem.Value.int 244 0, PySem.Value.int 24 0, PySem.Value.str (PySem.Str.ofString "/claim/cut.py") 245] }) ::
  (nat_lit 63, { cls := PySem.Value.type "function", data := PySem.Data.func { name := PySem.Str.ofString "is_element", qualname := PySem.Str.ofString "PolynomialRingGeneric.is_element", params := p63, body := PySem.FuncBody.stmts b63, scope := s63, globals := 3, closure := [], defaults := PySem.Value.none, kwdefaults := PySem.Value.none, pyModule := PySem.Value.str (PySem.Str.ofString "dilithium_py.polynomials.polynomials_generic") 194, code := PySem.Value.ref 62 } }) ::
  (nat_lit 64, { cls := PySem.Value.type "tuple", data := PySem.Data.seq #[PySem.Value.str (PySem.Str.ofString "n") 247, PySem.Value.str (PySem.Str.ofString "q") 248] }) ::
  (nat_lit 65, { cls := PySem.Value.type "dict", data := PySem.Data.dict #[{ hash := PySem.PyData.keyHash P (PySem.Str.ofString "__module__"), key := PySem.Value.str (PySem.Str.ofString "__module__") 203, val := PySem.Value.str (PySem.Str.ofString "dilithium_py.polynomials.polynomials_generic") 194 }, { hash := PySem.PyData.keyHash P (PySem.Str.ofString "__firstlineno__"), key := PySem.Value.str (PySem.Str.ofString "__firstlineno__") 207, val := PySem.Value.int 5 206 }, { hash := PySem.PyData.keyHash P (PySem.Str.ofString "__init__"), key := PySem.Value.str (PySem.Str.ofString "__init__") 216, val := PySem.Value.ref 35 }, { hash := PySem.PyData.keyHash P (PySem.Str.ofString "zero"), key := PySem.Value.str (PySem.Str.ofString "zero") 223, val := PySem.Value.ref 42 }, { hash := PySem.PyData.keyHash P (PySem.Str.ofString "gen"), key := PySem.Value.str (PySem.Str.ofString "gen") 230, val := PySem.Value.ref 49 }, { hash := PySem.PyData.keyHash P (PySem.Str.ofString "__call__"), key := PySem.Value.str (PySem.Str.ofString "__call__") 238, val := PySem.Value.ref 56 }, { hash := PySem.PyData.keyHash P (PySem.Str.ofString "is_element"), key := PySem.Value.str (PySem.Str.ofString "is_element") 246, val := PySem.Value.ref 63 }, { hash := PySem.PyData.keyHash P (PySem.Str.ofString "__static_attributes__"), key := PySem.Value.str (PySem.Str.ofString "__static_attributes__") 249, val := PySem.Value.ref 64 }, { hash := PySem.PyData.keyHash P (PySem.Str.ofString "__dict__"), key := PySem.Value.str (PySem.Str.ofString "__dict__") 251, val := PySem.Value.ref 67 }, { hash := PySem.PyData.keyHash P (PySem.Str.ofString "__weakref__"), key := PySem.Value.str (PySem.Str.ofString "__weakref__") 253, val := PySem.Value.ref 68 }, { hash := PySem.PyData.keyHash P (PySem.Str.ofString "__doc__"), key := PySem.Value.str (PySem.Str.ofString "__doc__") 254, val := PySem.Value.none }] 4 }) ::
  (nat_lit 66, { cls := PySem.Value.type "type", data := PySem.Data.cls { name := PySem.Str.ofString "PolynomialRingGeneric", bases := [PySem.Value.type "object"], mro := [PySem.Value.ref 66, PySem.Value.type "object"], ns := 65, qualname := PySem.Str.ofString "PolynomialRingGeneric", subclasses := [PySem.Value.ref 388] }, slots := #[Option.none, Option.none, Option.some (PySem.Value.str (PySem.Str.ofString "PolynomialRingGeneric") 196), Option.some (PySem.Value.str (PySem.Str.ofString "PolynomialRingGeneric") 204), Option.some (PySem.Value.builtin "object.__new__"), Option.some (PySem.Value.bool Bool.true)] }) ::
  (nat_lit 67, { cls := PySem.Value.type "getset_descriptor", data := PySem.Data.fields #[PySem.Value.str (PySem.Str.ofString "__dict__") 250, PySem.Value.ref 66, PySem.Value.builtin "function.__dict__", PySem.Value.builtin "function.__dict__#set"] }) ::
  (nat_lit 68, { cls := PySem.Value.type "getset_descriptor", data := PySem.Data.fields #[PySem.Value.str (PySem.Str.ofString "__weakref__") 252, PySem.Value.ref 66, PySem.Value.builtin "ExceptionGroup.__weakref__", PySem.Value.none] }) ::
  (nat_lit 78, { cls := PySem.Value.type "tuple", data := PySem.Data.seq #[] }) ::
  (nat_lit 80, { cls := PySem.Value.type "tuple", data := PySem.Data.seq #[PySem.Value.str (PySem.Str.ofString "self") 272, PySem.Value.str (PySem.Str.ofString "parent") 273, PySem.Value.str (PySem.Str.ofString "coefficients") 274] }) ::
  (nat_lit 81, { cls := PySem.Value.type "tuple", data := PySem.Data.seq #[] }) ::
  (nat_lit 83, { cls := PySem.Value.type "code", data := PySem.Data.fields #[PySem.Value.str (PySem.Str.ofString "__init__") 269, PySem.Value.str (PySem.Str.ofString "PolynomialGeneric.__init__") 270, PySem.Value.str (PySem.Str.ofString "/claim/cut.py") 271, PySem.Value.int 28 0, PySem.Value.int 3 0, PySem.Value.int 0 0, PySem.Value.int 0 0, PySem.Value.int 3 0, PySem.Value.ref 78, PySem.Value.bool Bool.true, PySem.Value.int 181 0, PySem.Value.ref 79, PySem.Value.none, PySem.Value.ref 80, PySem.Value.ref 81, PySem.Value.ref 82, PySem.Value.int 275 0, PySem.Value.int 28 0, PySem.Value.str (PySem.Str.ofString "/claim/cut.py") 276] }) ::
  (nat_lit 84, { cls := PySem.Value.type "function", data := PySem.Data.func { name := PySem.Str.ofString "__init__", qualname := PySem.Str.ofString "PolynomialGeneric.__init__", params := p84, body := PySem.FuncBody.stmts b84, scope := s84, globals := 3, closure := [], defaults := PySem.Value.none, kwdefaults := PySem.Value.none, pyModule := PySem.Value.str (PySem.Str.ofString "dilithium_py.polynomials.polynomials_generic") 194, code := PySem.Value.ref 83 } }) ::
  (nat_lit 85, { cls := PySem.Value.type "tuple", data := PySem.Data.seq #[] }) ::
  (nat_lit 87, { cls := PySem.Value.type "tuple", data := PySem.Data.seq #[PySem.Value.str (PySem.Str.ofString "self") 281] }) ::
  (nat_lit 88, { cls := PySem.Value.type "tuple", data := PySem.Data.seq #[] }) ::
  (nat_lit 90, { cls := PySem.Value.type "code", data := PySem.Data.fields #[PySem.Value.str (PySem.Str.ofString "is_zero") 278, PySem.Value.str (PySem.Str.ofString "PolynomialGeneric.is_zero") 279, PySem.Value.str (PySem.Str.ofString "/claim/cut.py") 280, PySem.Value.int 32 0, PySem.Value.int 1 0, PySem.Value.int 0 0, PySem.Value.int 0 0, PySem.Value.int 3 0, PySem.Value.ref 85, PySem.Value.bool Bool.true, PySem.Value.int 181 0, PySem.Value.ref 86, PySem.Value.none, PySem.Value.ref 87, PySem.Value.ref 88, PySem.Value.ref 89, PySem.Value.int 282 0, PySem.Value.int 32 0, PySem.Value.str (PySem.Str.ofString "/claim/cut.py") 283] }) ::
  (nat_lit 91, { cls := PySem.Value.type "function", data := PySem.Data.func { name := PySem.Str.ofString "is_zero", qualname := PySem.Str.ofString "PolynomialGeneric.is_zero", params := p91, body := PySem.FuncBody.stmts b91, scope := s91, globals := 3, closure := [], defaults := PySem.Value.none, kwdefaults := PySem.Value.none, pyModule := PySem.Value.str (PySem.Str.ofString "dilithium_py.polynomials.polynomials_generic") 194, code := PySem.Value.ref 90 } }) ::
  (nat_lit 92, { cls := PySem.Value.type "tuple", data := PySem.Data.seq #[] }) ::
  (nat_lit 94, { cls := PySem.Value.type "tuple", data := PySem.Data.seq #[PySem.Value.str (PySem.Str.ofString "self") 288] }) ::
  (nat_lit 95, { cls := PySem.Value.type "tuple", data := PySem.Data.seq #[] }) ::
  (nat_lit 97, { cls := PySem.Value.type "code", data := PySem.Data.fields #[PySem.Value.str (PySem.Str.ofString "is_constant") 285, PySem.Value.str (PySem.Str.ofString "PolynomialGeneric.is_constant") 286, PySem.Value.str (PySem.Str.ofString "/claim/cut.py") 287, PySem.Value.int 35 0, PySem.Value.int 1 0, PySem.Value.int 0 0, PySem.Value.int 0 0, PySem.Value.int 3 0, PySem.Value.ref 92, PySem.Value.bool Bool.true, PySem.Value.int 181 0, PySem.Value.ref 93, PySem.Value.none, PySem.Value.ref 94, PySem.Value.ref 95, PySem.Value.ref 96, PySem.Value.int 289 0, PySem.Value.int 35 0, PySem.Value.str (PySem.Str.ofString "/claim/cut.py") 290] }) ::
  (nat_lit 98, { cls := PySem.Value.type "function", data := PySem.Data.func { name := PySem.Str.ofString "is_constant", qualname := PySem.Str.ofString "PolynomialGeneric.is_constant", params := p98, body := PySem.FuncBody.stmts b98, scope := s98, globals := 3, closure := [], defaults := PySem.Value.none, kwdefaults := PySem.Value.none, pyModule := PySem.Value.str (PySem.Str.ofString "dilithium_py.polynomials.polynomials_generic") 194, code := PySem.Value.ref 97 } }) ::
  (nat_lit 99, { cls := PySem.Value.type "tuple", data := PySem.Data.seq #[] }) ::
  (nat_lit 102, { cls := PySem.Value.type "code", data := PySem.Data.fields #[PySem.Value.str (PySem.Str.ofString "_parse_coefficients") 292, PySem.Value.str (PySem.Str.ofString "PolynomialGeneric._parse_coefficients") 293, PySem.Value.str (PySem.Str.ofString "/claim/cut.py") 294, PySem.Value.int 38 0, PySem.Value.int 2 0, PySem.Value.int 0 0, PySem.Value.int 0 0, PySem.Value.int 3 0, PySem.Value.ref 99, PySem.Value.bool Bool.true, PySem.Value.int 181 0, PySem.Value.ref 100, PySem.Value.none, PySem.Value.none, PySem.Value.none, PySem.Value.ref 101, PySem.Value.int 295 0, PySem.Value.int 38 0, PySem.Value.str (PySem.Str.ofString "/claim/cut.py") 296] }) ::
  (nat_lit 103, { cls := PySem.Value.type "function", data := PySem.Data.func { name := PySem.Str.ofString "_parse_coefficients", qualname := PySem.Str.ofString "PolynomialGeneric._parse_coefficients", params := p103, body := PySem.FuncBody.stmts b103, scope := s103, globals := 3, closure := [], defaults := PySem.Value.none, kwdefaults := PySem.Value.none, pyModule := PySem.Value.str (PySem.Str.ofString "dilithium_py.polynomials.polynomials_generic") 194, code := PySem.Value.ref 102 } }) ::
  (nat_lit 104, { cls := PySem.Value.type "tuple", data := PySem.Data.seq #[] }) ::
  (nat_lit 106, { cls := PySem.Value.type "tuple", data := PySem.Data.seq #[PySem.Value.str (PySem.Str.ofString "self") 301] }) ::
  (nat_lit 107, { cls := PySem.Value.type "tuple", data := PySem.Data.seq #[] }) ::
  (nat_lit 109, { cls := PySem.Value.type "code", data := PySem.Data.fields #[PySem.Value.str (PySem.Str.ofString "reduce_coefficients") 298, PySem.Value.str (PySem.Str.ofString "PolynomialGeneric.reduce_coefficients") 299, PySem.Value.str (PySem.Str.ofString "/claim/cut.py") 300, PySem.Value.int 46 0, PySem.Value.int 1 0, PySem.Value.int 0 0, PySem.Value.int 0 0, PySem.Value.int 3 0, PySem.Value.ref 104, PySem.Value.bool Bool.true, PySem.Value.int 181 0, PySem.Value.ref 105, PySem.Value.none, PySem.Value.ref 106, PySem.Value.ref 107, PySem.Value.ref 108, PySem.Value.int 302 0, PySem.Value.int 46 0, PySem.Value.str (PySem.Str.ofString "/claim/cut.py") 303] }) ::
  (nat_lit 110, { cls := PySem.Value.type "function", data := PySem.Data.func { name := PySem.Str.ofString "reduce_coefficients", qualname := PySem.Str.ofString "PolynomialGeneric.reduce_coefficients", params := p110, body := PySem.FuncBody.stmts b110, scope := s110, globals := 3, closure := [], defaults := PySem.Value.none, kwdefaults := PySem.Value.none, pyModule := PySem.Value.str (PySem.Str.ofString "dilithium_py.polynomials.polynomials_generic") 194, code := PySem.Value.ref 109 } }) ::
  (nat_lit 111, { cls := PySem.Value.type "tuple", data := PySem.Data.seq #[] }) ::
  (nat_lit 113, { cls := PySem.Value.type "tuple", data := PySem.Data.seq #[PySem.Value.str (PySem.Str.ofString "self") 308, PySem.Value.str (PySem.Str.ofString "x") 309, PySem.Value.str (PySem.Str.ofString "y") 310] }) ::
  (nat_lit 114, { cls := PySem.Value.type "tuple", data := PySem.Data.seq #[] }) ::
  (nat_lit 116, { cls := PySem.Value.type "code", data := PySem.Data.fields #[PySem.Value.str (PySem.Str.ofString "_add_mod_q") 305, PySem.Value.str (PySem.Str.ofString "PolynomialGeneric._add_mod_q") 306, PySem.Value.str (PySem.Str.ofString "/claim/cut.py") 307, PySem.Value.int 49 0, PySem.Value.int 3 0, PySem.Value.int 0 0, PySem.Value.int 0 0, PySem.Value.int 3 0, PySem.Value.ref 111, PySem.Value.bool Bool.true, PySem.Value.int 181 0, PySem.Value.ref 112, PySem.Value.none, PySem.Value.ref 113, PySem.Value.ref 114, PySem.Value.ref 115, PySem.Value.int 311 0, PySem.Value.int 49 0, PySem.Value.str (PySem.Str.ofString "/claim/cut.py") 312] }) ::
  (nat_lit 117, { cls := PySem.Value.type "function", data := PySem.Data.func { name := PySem.Str.ofString "_add_mod_q", qualname := PySem.Str.ofString "PolynomialGeneric._add_mod_q", params := p117, body := PySem.FuncBody.stmts b117, scope := s117, globals := 3, closure := [], defaults := PySem.Value.none, kwdefaults := PySem.Value.none, pyModule := PySem.Value.str (PySem.Str.ofString "dilithium_py.polynomials.polynomials_generic") 194, code := PySem.Value.ref 116 } }) ::
  (nat_lit 118, { cls := PySem.Value.type "tuple", data := PySem.Data.seq #[] }) ::
  (nat_lit 120, { cls := PySem.Value.type "tuple", data := PySem.Data.seq #[PySem.Value.str (PySem.Str.ofString "self") 317, PySem.Value.str (PySem.Str.ofString "x") 318, PySem.Value.str (PySem.Str.ofString "y") 319] }) ::
  (nat_lit 121, { cls := PySem.Value.type "tuple", data := PySem.Data.seq #[] }) ::
  (nat_lit 123, { cls := PySem.Value.type "code", data := PySem.Data.fields #[PySem.Value.str (PySem.Str.ofString "_sub_mod_q") 314, PySem.Value.str (PySem.Str.ofString "PolynomialGeneric._sub_mod_q") 315, PySem.Value.str (PySem.Str.ofString "/claim/cut.py") 316, PySem.Value.int 52 0, PySem.Value.int 3 0, PySem.Value.int 0 0, PySem.Value.int 0 0, PySem.Value.int 3 0, PySem.Value.ref 118, PySem.Value.bool Bool.true, PySem.Value.int 181 0, PySem.Value.ref 119, PySem.Value.none, PySem.Value.ref 120, PySem.Value.ref 121, PySem.Value.ref 122, PySem.Value.int 320 0, PySem.Value.int 52 0, PySem.Value.str (PySem.Str.ofString "/claim/cut.py") 321] }) ::
  (nat_lit 124, { cls := PySem.Value.type "function", data := PySem.Data.func { name := PySem.Str.ofString "_sub_mod_q", qualname := PySem.Str.ofString "PolynomialGeneric._sub_mod_q", params := p124, body := PySem.FuncBody.stmts b124, scope := s124, globals := 3, closure := [], defaults := PySem.Value.none, kwdefaults := PySem.Value.none, pyModule := PySem.Value.str (PySem.Str.ofString "dilithium_py.polynomials.polynomials_generic") 194, code := PySem.Value.ref 123 } }) ::
  (nat_lit 125, { cls := PySem.Value.type "tuple", data := PySem.Data.seq #[] }) ::
  (nat_lit 128, { cls := PySem.Value.type "code", data := PySem.Data.fields #[PySem.Value.str (PySem.Str.ofString "_schoolbook_multiplication") 323, PySem.Value.str (PySem.Str.ofString "PolynomialGeneric._schoolbook_multiplication") 324, PySem.Value.str (PySem.Str.ofString "/claim/cut.py") 325, PySem.Value.int 55 0, PySem.Value.int 2 0, PySem.Value.int 0 0, PySem.Value.int 0 0, PySem.Value.int 3 0, PySem.Value.ref 125, PySem.Value.bool Bool.true, PySem.Value.int 181 0, PySem.Value.ref 126, PySem.Value.none, PySem.Value.none, PySem.Value.none, PySem.Value.ref 127, PySem.Value.int 326 0, PySem.Value.int 55 0, PySem.Value.str (PySem.Str.ofString "/claim/cut.py") 327] }) ::
  (nat_lit 129, { cls := PySem.Value.type "function", data := PySem.Data.func { name := PySem.Str.ofString "_schoolbook_multiplication", qualname := PySem.Str.ofString "PolynomialGeneric._schoolbook_multiplication", params := p129, body := PySem.FuncBody.stmts b129, scope := s129, globals := 3, closure := [], defaults := PySem.Value.none, kwdefaults := PySem.Value.none, pyModule := PySem.Value.str (PySem.Str.ofString "dilithium_py.polynomials.polynomials_generic") 194, code := PySem.Value.ref 128 } }) ::
  (nat_lit 130, { cls := PySem.Value.type "tuple", data := PySem.Data.seq #[] }) ::
  (nat_lit 133, { cls := PySem.Value.type "code", data := PySem.Data.fields #[PySem.Value.str (PySem.Str.ofString "__neg__") 329, PySem.Value.str (PySem.Str.ofString "PolynomialGeneric.__neg__") 330, PySem.Value.str (PySem.Str.ofString "/claim/cut.py") 331, PySem.Value.int 68 0, PySem.Value.int 1 0, PySem.Value.int 0 0, PySem.Value.int 0 0, PySem.Value.int 3 0, PySem.Value.ref 130, PySem.Value.bool Bool.true, PySem.Value.int 181 0, PySem.Value.ref 131, PySem.Value.none, PySem.Value.none, PySem.Value.none, PySem.Value.ref 132, PySem.Value.int 332 0, PySem.Value.int 68 0, PySem.Value.str (PySem.Str.ofString "/claim/cut.py") 333] }) ::
  (nat_lit 134, { cls := PySem.Value.type "function", data := PySem.Data.func { name := PySem.Str.ofString "__neg__", qualname := PySem.Str.ofString "PolynomialGeneric.__neg__", params := p134, body := PySem.FuncBody.stmts b134, scope := s134, globals := 3, closure := [], defaults := PySem.Value.none, kwdefaults := PySem.Value.none, pyModule := PySem.Value.str (PySem.Str.ofString "dilithium_py.polynomials.polynomials_generic") 194, code := PySem.Value.ref 133 } }) ::
  (nat_lit 135, { cls := PySem.Value.type "tuple", data := PySem.Data.seq #[] }) ::
  (nat_lit 138, { cls := PySem.Value.type "code", data := PySem.Data.fields #[PySem.Value.str (PySem.Str.ofString "_add_") 335, PySem.Value.str (PySem.Str.ofString "PolynomialGeneric._add_") 336, PySem.Value.str (PySem.Str.ofString "/claim/cut.py") 337, PySem.Value.int 72 0, PySem.Value.int 2 0, PySem.Value.int 0 0, PySem.Value.int 0 0, PySem.Value.int 3 0, PySem.Value.ref 135, PySem.Value.bool Bool.true, PySem.Value.int 181 0, PySem.Value.ref 136, PySem.Value.none, PySem.Value.none, PySem.Value.none, PySem.Value.ref 137, PySem.Value.int 338 0, PySem.Value.int 72 0, PySem.Value.str (PySem.Str.ofString "/claim/cut.py") 339] }) ::
  (nat_lit 139, { cls := PySem.Value.type "function", data := PySem.Data.func { name := PySem.Str.ofString "_add_", qualname := PySem.Str.ofString "PolynomialGeneric._add_", params := p139, body := PySem.FuncBody.stmts b139, scope := s139, globals := 3, closure := [], defaults := PySem.Value.none, kwdefaults := PySem.Value.none, pyModule := PySem.Value.str (PySem.Str.ofString "dilithium_py.polynomials.polynomials_generic") 194, code := PySem.Value.ref 138 } }) ::
  (nat_lit 140, { cls := PySem.Value.type "tuple", data := PySem.Data.seq #[] }) ::
  (nat_lit 142, { cls := PySem.Value.type "tuple", data := PySem.Data.seq #[PySem.Value.str (PySem.Str.ofString "self") 344, PySem.Value.str (PySem.Str.ofString "other") 345, PySem.Value.str (PySem.Str.ofString "new_coeffs") 346] }) ::
  (nat_lit 143, { cls := PySem.Value.type "tuple", data := PySem.Data.seq #[] }) ::
  (nat_lit 145, { cls := PySem.Value.type "code", data := PySem.Data.fields #[PySem.Value.str (PySem.Str.ofString "__add__") 341, PySem.Value.str (PySem.Str.ofString "PolynomialGeneric.__add__") 342, PySem.Value.str (PySem.Str.ofString "/claim/cut.py") 343, PySem.Value.int 82 0, PySem.Value.int 2 0, PySem.Value.int 0 0, PySem.Value.int 0 0, PySem.Value.int 3 0, PySem.Value.ref 140, PySem.Value.bool Bool.true, PySem.Value.int 181 0, PySem.Value.ref 141, PySem.Value.none, PySem.Value.ref 142, PySem.Value.ref 143, PySem.Value.ref 144, PySem.Value.int 347 0, PySem.Value.int 82 0, PySem.Value.str (PySem.Str.ofString "/claim/cut.py") 348] }) ::
  (nat_lit 146, { cls := PySem.Value.type "function", data := PySem.Data.func { name := PySem.Str.ofString "__add__", qualname := PySem.Str.ofString "PolynomialGeneric.__add__", params := p146, body := PySem.FuncBody.stmts b146, scope := s146, globals := 3, closure := [], defaults := PySem.Value.none, kwdefaults := PySem.Value.none, pyModule := PySem.Value.str (PySem.Str.ofString "dilithium_py.polynomials.polynomials_generic") 194, code := PySem.Value.ref 145 } }) ::
  (nat_lit 147, { cls := PySem.Value.type "tuple", data := PySem.Data.seq #[] }) ::
  (nat_lit 149, { cls := PySem.Value.type "tuple", data := PySem.Data.seq #[PySem.Value.str (PySem.Str.ofString "self") 353, PySem.Value.str (PySem.Str.ofString "other") 354] }) ::
  (nat_lit 150, { cls := PySem.Value.type "tuple", data := PySem.Data.seq #[] }) ::
  (nat_lit 152, { cls := PySem.Value.type "code", data := PySem.Data.fields #[PySem.Value.str (PySem.Str.ofString "__radd__") 350, PySem.Value.str (PySem.Str.ofString "PolynomialGeneric.__radd__") 351, PySem.Value.str (PySem.Str.ofString "/claim/cut.py") 352, PySem.Value.int 86 0, PySem.Value.int 2 0, PySem.Value.int 0 0, PySem.Value.int 0 0, PySem.Value.int 3 0, PySem.Value.ref 147, PySem.Value.bool Bool.true, PySem.Value.int 181 0, PySem.Value.ref 148, PySem.Value.none, PySem.Value.ref 149, PySem.Value.ref 150, PySem.Value.ref 151, PySem.Value.int 355 0, PySem.Value.int 86 0, PySem.Value.str (PySem.Str.ofString "/claim/cut.py") 356] }) ::
  (nat_lit 153, { cls := PySem.Value.type "function", data := PySem.Data.func { name := PySem.Str.ofString "__radd__", qualname := PySem.Str.ofString "PolynomialGeneric.__radd__", params := p153, body := PySem.FuncBody.stmts b153, scope := s153, globals := 3, closure := [], defaults := PySem.Value.none, kwdefaults := PySem.Value.none, pyModule := PySem.Value.str (PySem.Str.ofString "dilithium_py.polynomials.polynomials_generic") 194, code := PySem.Value.ref 152 } }) ::
  (nat_lit 154, { cls := PySem.Value.type "tuple", data := PySem.Data.seq #[] }) ::
  (nat_lit 156, { cls := PySem.Value.type "tuple", data := PySem.Data.seq #[PySem.Value.str (PySem.Str.ofString "self") 361, PySem.Value.str (PySem.Str.ofString "other") 362] }) ::
  (nat_lit 157, { cls := PySem.Value.type "tuple", data := PySem.Data.seq #[] }) ::
  (nat_lit 159, { cls := PySem.Value.type "code", data := PySem.Data.fields #[PySem.Value.str (PySem.Str.ofString "__iadd__") 358, PySem.Value.str (PySem.Str.ofString "PolynomialGeneric.__iadd__") 359, PySem.Value.str (PySem.Str.ofString "/claim/cut.py") 360, PySem.Value.int 89 0, PySem.Value.int 2 0, PySem.Value.int 0 0, PySem.Value.int 0 0, PySem.Value.int 3 0, PySem.Value.ref 154, PySem.Value.bool Bool.true, PySem.Value.int 181 0, PySem.Value.ref 155, PySem.Value.none, PySem.Value.ref 156, PySem.Value.ref 157, PySem.Value.ref 158, PySem.Value.int 363 0, PySem.Value.int 89 0, PySem.Value.str (PySem.Str.ofString "/claim/cut.py") 364] }) ::
  (nat_lit 160, { cls := PySem.Value.type "function", data := PySem.Data.func { name := PySem.Str.ofString "__iadd__", qualname := PySem.Str.ofString "PolynomialGeneric.__iadd__", params := p160, body := PySem.FuncBody.stmts b160, scope := s160, globals := 3, closure := [], defaults := PySem.Value.none, kwdefaults := PySem.Value.none, pyModule := PySem.Value.str (PySem.Str.ofString "dilithium_py.polynomials.polynomials_generic") 194, code := PySem.Value.ref 159 } }) ::
  (nat_lit 161, { cls := PySem.Value.type "tuple", data := PySem.Data.seq #[] }) ::
  (nat_lit 164, { cls := PySem.Value.type "code", data := PySem.Data.fields #[PySem.Value.str (PySem.Str.ofString "_sub_") 366, PySem.Value.str (PySem.Str.ofString "PolynomialGeneric._sub_") 367, PySem.Value.str (PySem.Str.ofString "/claim/cut.py") 368, PySem.Value.int 92 0, PySem.Value.int 2 0, PySem.Value.int 0 0, PySem.Value.int 0 0, PySem.Value.int 3 0, PySem.Value.ref 161, PySem.Value.bool Bool.true, PySem.Value.int 181 0, PySem.Value.ref 162, PySem.Value.none, PySem.Value.none, PySem.Value.none, PySem.Value.ref 163, PySem.Value.int 369 0, PySem.Value.int 92 0, PySem.Value.str (PySem.Str.ofString "/claim/cut.py") 370] }) ::
  (nat_lit 165, { cls := PySem.Value.type "function", data := PySem.Data.func { name := PySem.Str.ofString "_sub_", qualname := PySem.Str.ofString "PolynomialGeneric._sub_", params := p165, body := PySem.FuncBody.stmts b165, scope := s165, globals := 3, closure := [], defaults := PySem.Value.none, kwdefaults := PySem.Value.none, pyModule := PySem.Value.str (PySem.Str.ofString "dilithium_py.polynomials.polynomials_generic") 194, code := PySem.Value.ref 164 } }) ::
  (nat_lit 166, { cls := PySem.Value.type "tuple", data := PySem.Data.seq #[] }) ::
  (nat_lit 168, { cls := PySem.Value.type "tuple", data := PySem.Data.seq #[PySem.Value.str (PySem.Str.ofString "self") 375, PySem.Value.str (PySem.Str.ofString "other") 376, PySem.Value.str (PySem.Str.ofString "new_coeffs") 377] }) ::
  (nat_lit 169, { cls := PySem.Value.type "tuple", data := PySem.Data.seq #[] }) ::
  (nat_lit 171, { cls := PySem.Value.type "code", data := PySem.Data.fields #[PySem.Value.str (PySem.Str.ofString "__sub__") 372, PySem.Value.str (PySem.Str.ofString "PolynomialGeneric.__sub__") 373, PySem.Value.str (PySem.Str.ofString "/claim/cut.py") 374, PySem.Value.int 102 0, PySem.Value.int 2 0, PySem.Value.int 0 0, PySem.Value.int 0 0, PySem.Value.int 3 0, PySem.Value.ref 166, PySem.Value.bool Bool.true, PySem.Value.int 181 0, PySem.Value.ref 167, PySem.Value.none, PySem.Value.ref 168, PySem.Value.ref 169, PySem.Value.ref 170, PySem.Value.int 378 0, PySem.Value.int 102 0, PySem.Value.str (PySem.Str.ofString "/claim/cut.py") 379] }) ::
  (nat_lit 172, { cls := PySem.Value.type "function", data := PySem.Data.func { name := PySem.Str.ofString "__sub__", qualname := PySem.Str.ofString "PolynomialGeneric.__sub__", params := p172, body := PySem.FuncBody.stmts b172, scope := s172, globals := 3, closure := [], defaults := PySem.Value.none, kwdefaults := PySem.Value.none, pyModule := PySem.Value.str (PySem.Str.ofString "dilithium_py.polynomials.polynomials_generic") 194, code := PySem.Value.ref 171 } }) ::
  (nat_lit 173, { cls := PySem.Value.type "tuple", data := PySem.Data.seq #[] }) ::
  (nat_lit 175, { cls := PySem.Value.type "tuple", data := PySem.Data.seq #[PySem.Value.str (PySem.Str.ofString "self") 384, PySem.Value.str (PySem.Str.ofString "other") 385] }) ::
  (nat_lit 176, { cls := PySem.Value.type "tuple", data := PySem.Data.seq #[] }) ::
  (nat_lit 178, { cls := PySem.Value.type "code", data := PySem.Data.fields #[PySem.Value.str (PySem.Str.ofString "__rsub__") 381, PySem.Value.str (PySem.Str.ofString "PolynomialGeneric.__rsub__") 382, PySem.Value.str (PySem.Str.ofString "/claim/cut.py") 383, PySem.Value.int 106 0, PySem.Value.int 2 0, PySem.Value.int 0 0, PySem.Value.int 0 0, PySem.Value.int 3 0, PySem.Value.ref 173, PySem.Value.bool Bool.true, PySem.Value.int 181 0, PySem.Value.ref 174, PySem.Value.none, PySem.Value.ref 175, PySem.Value.ref 176, PySem.Value.ref 177, PySem.Value.int 386 0, PySem.Value.int 106 0, PySem.Value.str (PySem.Str.ofString "/claim/cut.py") 387] }) ::
  (nat_lit 179, { cls := PySem.Value.type "function", data := PySem.Data.func { name := PySem.Str.ofString "__rsub__", qualname := PySem.Str.ofString "PolynomialGeneric.__rsub__", params := p179, body := PySem.FuncBody.stmts b179, scope := s179, globals := 3, closure := [], defaults := PySem.Value.none, kwdefaults := PySem.Value.none, pyModule := PySem.Value.str (PySem.Str.ofString "dilithium_py.polynomials.polynomials_generic") 194, code := PySem.Value.ref 178 } }) ::
  (nat_lit 180, { cls := PySem.Value.type "tuple", data := PySem.Data.seq #[] }) ::
  (nat_lit 182, { cls := PySem.Value.type "tuple", data := PySem.Data.seq #[PySem.Value.str (PySem.Str.ofString "self") 392, PySem.Value.str (PySem.Str.ofString "other") 393] }) ::
  (nat_lit 183, { cls := PySem.Value.type "tuple", data := PySem.Data.seq #[] }) ::
  (nat_lit 185, { cls := PySem.Value.type "code", data := PySem.Data.fields #[PySem.Value.str (PySem.Str.ofString "__isub__") 389, PySem.Value.str (PySem.Str.ofString "PolynomialGeneric.__isub__") 390, PySem.Value.str (PySem.Str.ofString "/claim/cut.py") 391, PySem.Value.int 109 0, PySem.Value.int 2 0, PySem.Value.int 0 0, PySem.Value.int 0 0, PySem.Value.int 3 0, PySem.Value.ref 180, PySem.Value.bool Bool.true, PySem.Value.int 181 0, PySem.Value.ref 181, PySem.Value.none, PySem.Value.ref 182, PySem.Value.ref 183, PySem.Value.ref 184, PySem.Value.int 394 0, PySem.Value.int 109 0, PySem.Value.str (PySem.Str.ofString "/claim/cut.py") 395] }) ::
  (nat_lit 186, { cls := PySem.Value.type "function", data := PySem.Data.func { name := PySem.Str.ofString "__isub__", qualname := PySem.Str.ofString "PolynomialGeneric.__isub__", params := p186, body := PySem.FuncBody.stmts b186, scope := s186, globals := 3, closure := [], defaults := PySem.Value.none, kwdefaults := PySem.Value.none, pyModule := PySem.Value.str (PySem.Str.ofString "dilithium_py.polynomials.polynomials_generic") 194, code := PySem.Value.ref 185 } }) ::
  (nat_lit 187, { cls := PySem.Value.type "tuple", data := PySem.Data.seq #[] }) ::
  (nat_lit 190, { cls := PySem.Value.type "code", data := PySem.Data.fields #[PySem.Value.str (PySem.Str.ofString "__mul__") 397, PySem.Value.str (PySem.Str.ofString "PolynomialGeneric.__mul__") 398, PySem.Value.str (PySem.Str.ofString "/claim/cut.py") 399, PySem.Value.int 112 0, PySem.Value.int 2 0, PySem.Value.int 0 0, PySem.Value.int 0 0, PySem.Value.int 3 0, PySem.Value.ref 187, PySem.Value.bool Bool.true, PySem.Value.int 181 0, PySem.Value.ref 188, PySem.Value.none, PySem.Value.none, PySem.Value.none, PySem.Value.ref 189, PySem.Value.int 400 0, PySem.Value.int 112 0, PySem.Value.str (PySem.Str.ofString "/claim/cut.py") 401] }) ::
  (nat_lit 191, { cls := PySem.Value.type "function", data := PySem.Data.func { name := PySem.Str.ofString "__mul__", qualname := PySem.Str.ofString "PolynomialGeneric.__mul__", params := p191, body := PySem.FuncBody.stmts b191, scope := s191, globals := 3, closure := [], defaults := PySem.Value.none, kwdefaults := PySem.Value.none, pyModule := PySem.Value.str (PySem.Str.ofString "dilithium_py.polynomials.polynomials_generic") 194, code := PySem.Value.ref 190 } }) ::
  (nat_lit 192, { cls := PySem.Value.type "tuple", data := PySem.Data.seq #[] }) ::
  (nat_lit 194, { cls := PySem.Value.type "tuple", data := PySem.Data.seq #[PySem.Value.str (PySem.Str.ofString "self") 406, PySem.Value.str (PySem.Str.ofString "other") 407] }) ::
  (nat_lit 195, { cls := PySem.Value.type "tuple", data := PySem.Data.seq #[] }) ::
  (nat_lit 197, { cls := PySem.Value.type "code", data := PySem.Data.fields #[PySem.Value.str (PySem.Str.ofString "__rmul__") 403, PySem.Value.str (PySem.Str.ofString "PolynomialGeneric.__rmul__") 404, PySem.Value.str (PySem.Str.ofString "/claim/cut.py") 405, PySem.Value.int 121 0, PySem.Value.int 2 0, PySem.Value.int 0 0, PySem.Value.int 0 0, PySem.Value.int 3 0, PySem.Value.ref 192, PySem.Value.bool Bool.true, PySem.Value.int 181 0, PySem.Value.ref 193, PySem.Value.none, PySem.Value.ref 194, PySem.Value.ref 195, PySem.Value.ref 196, PySem.Value.int 408 0, PySem.Value.int 121 0, PySem.Value.str (PySem.Str.ofString "/claim/cut.py") 409] }) ::
  (nat_lit 198, { cls := PySem.Value.type "function", data := PySem.Data.func { name := PySem.Str.ofString "__rmul__", qualname := PySem.Str.ofString "PolynomialGeneric.__rmul__", params := p198, body := PySem.FuncBody.stmts b198, scope := s198, globals := 3, closure := [], defaults := PySem.Value.none, kwdefaults := PySem.Value.none, pyModule := PySem.Value.str (PySem.Str.ofString "dilithium_py.polynomials.polynomials_generic") 194, code := PySem.Value.ref 197 } }) ::
  (nat_lit 199, { cls := PySem.Value.type "tuple", data := PySem.Data.seq #[] }) ::
  (nat_lit 201, { cls := PySem.Value.type "tuple", data := PySem.Data.seq #[PySem.Value.str (PySem.Str.ofString "self") 414, PySem.Value.str (PySem.Str.ofString "other") 415] }) ::
  (nat_lit 202, { cls := PySem.Value.type "tuple", data := PySem.Data.seq #[] }) ::
  (nat_lit 204, { cls := PySem.Value.type "code", data := PySem.Data.fields #[PySem.Value.str (PySem.Str.ofString "__imul__") 411, PySem.Value.str (PySem.Str.ofString "PolynomialGeneric.__imul__") 412, PySem.Value.str (PySem.Str.ofString "/claim/cut.py") 413, PySem.Value.int 124 0, PySem.Value.int 2 0, PySem.Value.int 0 0, PySem.Value.int 0 0, PySem.Value.int 3 0, PySem.Value.ref 199, PySem.Value.bool Bool.true, PySem.Value.int 181 0, PySem.Value.ref 200, PySem.Value.none, PySem.Value.ref 201, PySem.Value.ref 202, PySem.Value.ref 203, PySem.Value.int 416 0, PySem.Value.int 124 0, PySem.Value.str (PySem.Str.ofString "/claim/cut.py") 417] }) ::
  (nat_lit 205, { cls := PySem.Value.type "function", data := PySem.Data.func { name := PySem.Str.ofString "__imul__", qualname := PySem.Str.ofString "PolynomialGeneric.__imul__", params := p205, body := PySem.FuncBody.stmts b205, scope := s205, globals := 3, closure := [], defaults := PySem.Value.none, kwdefaults := PySem.Value.none, pyModule := PySem.Value.str (PySem.Str.ofString "dilithium_py.polynomials.polynomials_generic") 194, code := PySem.Value.ref 204 } }) ::
  (nat_lit 206, { cls := PySem.Value.type "tuple", data := PySem.Data.seq #[] }) ::
  (nat_lit 208, { cls := PySem.Value.type "tuple", data := PySem.Data.seq #[PySem.Value.str (PySem.Str.ofString "self") 422, PySem.Value.str (PySem.Str.ofString "n") 423, PySem.Value.str (PySem.Str.ofString "f") 424, PySem.Value.str (PySem.Str.ofString "g") 425] }) ::
  (nat_lit 209, { cls := PySem.Value.type "tuple", data := PySem.Data.seq #[] }) ::
  (nat_lit 211, { cls := PySem.Value.type "code", data := PySem.Data.fields #[PySem.Value.str (PySem.Str.ofString "__pow__") 419, PySem.Value.str (PySem.Str.ofString "PolynomialGeneric.__pow__") 420, PySem.Value.str (PySem.Str.ofString "/claim/cut.py") 421, PySem.Value.int 127 0, PySem.Value.int 2 0, PySem.Value.int 0 0, PySem.Value.int 0 0, PySem.Value.int 3 0, PySem.Value.ref 206, PySem.Value.bool Bool.true, PySem.Value.int 181 0, PySem.Value.ref 207, PySem.Value.none, PySem.Value.ref 208, PySem.Value.ref 209, PySem.Value.ref 210, PySem.Value.int 426 0, PySem.Value.int 127 0, PySem.Value.str (PySem.Str.ofString "/claim/cut.py") 427] }) ::
  (nat_lit 212, { cls := PySem.Value.type "function", data := PySem.Data.func { name := PySem.Str.ofString "__pow__", qualname := PySem.Str.ofString "PolynomialGeneric.__pow__", params := p212, body := PySem.FuncBody.stmts b212, scope := s212, globals := 3, closure := [], defaults := PySem.Value.none, kwdefaults := PySem.Value.none, pyModule := PySem.Value.str (PySem.Str.ofString "dilithium_py.polynomials.polynomials_generic") 194, code := PySem.Value.ref 211 } }) ::
  (nat_lit 213, { cls := PySem.Value.type "tuple", data := PySem.Data.seq #[] }) ::
  (nat_lit 215, { cls := PySem.Value.type "tuple", data := PySem.Data.seq #[PySem.Value.str (PySem.Str.ofString "self") 432, PySem.Value.str (PySem.Str.ofString "other") 433] }) ::
  (nat_lit 216, { cls := PySem.Value.type "tuple", data := PySem.Data.seq #[] }) ::
  (nat_lit 218, { cls := PySem.Value.type "code", data := PySem.Data.fields #[PySem.Value.str (PySem.Str.ofString "__eq__") 429, PySem.Value.str (PySem.Str.ofString "PolynomialGeneric.__eq__") 430, PySem.Value.str (PySem.Str.ofString "/claim/cut.py") 431, PySem.Value.int 141 0, PySem.Value.int 2 0, PySem.Value.int 0 0, PySem.Value.int 0 0, PySem.Value.int 3 0, PySem.Value.ref 213, PySem.Value.bool Bool.true, PySem.Value.int 181 0, PySem.Value.ref 214, PySem.Value.none, PySem.Value.ref 215, PySem.Value.ref 216, PySem.Value.ref 217, PySem.Value.int 434 0, PySem.Value.int 141 0, PySem.Value.str (PySem.Str.ofString "/claim/cut.py") 435] }) ::
  (nat_lit 219, { cls := PySem.Value.type "function", data := PySem.Data.func { name := PySem.Str.ofString "__eq__", qualname := PySem.Str.ofString "PolynomialGeneric.__eq__", params := p219, body := PySem.FuncBody.stmts b219, scope := s219, globals := 3, closure := [], defaults := PySem.Value.none, kwdefaults := PySem.Value.none, pyModule := PySem.Value.str (PySem.Str.ofString "dilithium_py.polynomials.polynomials_generic") 194, code := PySem.Value.ref 218 } }) ::
  (nat_lit 220, { cls := PySem.Value.type "tuple", data := PySem.Data.seq #[] }) ::
  (nat_lit 222, { cls := PySem.Value.type "tuple", data := PySem.Data.seq #[PySem.Value.str (PySem.Str.ofString "self") 440, PySem.Value.str (PySem.Str.ofString "idx") 441] }) ::
  (nat_lit 223, { cls := PySem.Value.type "tuple", data := PySem.Data.seq #[] }) ::
  (nat_lit 225, { cls := PySem.Value.type "code", data := PySem.Data.fields #[PySem.Value.str (PySem.Str.ofString "__getitem__") 437, PySem.Value.str (PySem.Str.ofString "PolynomialGeneric.__getitem__") 438, PySem.Value.str (PySem.Str.ofString "/claim/cut.py") 439, PySem.Value.int 148 0, PySem.Value.int 2 0, PySem.Value.int 0 0, PySem.Value.int 0 0, PySem.Value.int 3 0, PySem.Value.ref 220, PySem.Value.bool Bool.true, PySem.Value.int 181 0, PySem.Value.ref 221, PySem.Value.none, PySem.Value.ref 222, PySem.Value.ref 223, PySem.Value.ref 224, PySem.Value.int 442 0, PySem.Value.int 148 0, PySem.Value.str (PySem.Str.ofString "/claim/cut.py") 443] }) ::
  (nat_lit 226, { cls := PySem.Value.type "function", data := PySem.Data.func { name := PySem.Str.ofString "__getitem__", qualname := PySem.Str.ofString "PolynomialGeneric.__getitem__", params := p226, body := PySem.FuncBody.stmts b226, scope := s226, globals := 3, closure := [], defaults := PySem.Value.none, kwdefaults := PySem.Value.none, pyModule := PySem.Value.str (PySem.Str.ofString "dilithium_py.polynomials.polynomials_generic") 194, code := PySem.Value.ref 225 } }) ::
  (nat_lit 227, { cls := PySem.Value.type "tuple", data := PySem.Data.seq #[PySem.Value.str (PySem.Str.ofString "coeffs") 445, PySem.Value.str (PySem.Str.ofString "parent") 446] }) ::
  (nat_lit 228, { cls := PySem.Value.type "dict", data := PySem.Data.dict #[{ hash := PySem.PyData.keyHash P (PySem.Str.ofString "__module__"), key := PySem.Value.str (PySem.Str.ofString "__module__") 264, val := PySem.Value.str (PySem.Str.ofString "dilithium_py.polynomials.polynomials_generic") 194 }, { hash := PySem.PyData.keyHash P (PySem.Str.ofString "__firstlineno__"), key := PySem.Value.str (PySem.Str.ofString "__firstlineno__") 268, val := PySem.Value.int 26 267 }, { hash := PySem.PyData.keyHash P (PySem.Str.ofString "__init__"), key := PySem.Value.str (PySem.Str.ofString "__init__") 277, val := PySem.Value.ref 84 }, { hash := PySem.PyData.keyHash P (PySem.Str.ofString "is_zero"), key := PySem.Value.str (PySem.Str.ofString "is_zero") 284, val := PySem.Value.ref 91 }, { hash := PySem.PyData.keyHash P (PySem.Str.ofString "is_constant"), key := PySem.Value.str (PySem.Str.ofString "is_constant") 291, val := PySem.Value.ref 98 }, { hash := PySem.PyData.keyHash P (PySem.Str.ofString "_parse_coefficients"), key := PySem.Value.str (PySem.Str.ofString "_parse_coefficients") 297, val := PySem.Value.ref 103 }, { hash := PySem.PyData.keyHash P (PySem.Str.ofString "reduce_coefficients"), key := PySem.Value.str (PySem.Str.ofString "reduce_coefficients") 304, val := PySem.Value.ref 110 }, { hash := PySem.PyData.keyHash P (PySem.Str.ofString "_add_mod_q"), key := PySem.Value.str (PySem.Str.ofString "_add_mod_q") 313, val := PySem.Value.ref 117 }, { hash := PySem.PyData.keyHash P (PySem.Str.ofString "_sub_mod_q"), key := PySem.Value.str (PySem.Str.ofString "_sub_mod_q") 322, val := PySem.Value.ref 124 }, { hash := PySem.PyData.keyHash P (PySem.Str.ofString "_schoolbook_multiplication"), key := PySem.Value.str (PySem.Str.ofString "_schoolbook_multiplication") 328, val := PySem.Value.ref 129 }, { hash := PySem.PyData.keyHash P (PySem.Str.ofString "__neg__"), key := PySem.Value.str (PySem.Str.ofString "__neg__") 334, val := PySem.Value.ref 134 }, { hash := PySem.PyData.keyHash P (PySem.Str.ofString "_add_"), key := PySem.Value.str (PySem.Str.ofString "_add_") 340, val := PySem.Value.ref 139 }, { hash := PySem.PyData.keyHash P (PySem.Str.ofString "__add__"), key := PySem.Value.str (PySem.Str.ofString "__add__") 349, val := PySem.Value.ref 146 }, { hash := PySem.PyData.keyHash P (PySem.Str.ofString "__radd__"), key := PySem.Value.str (PySem.Str.ofString "__radd__") 357, val := PySem.Value.ref 153 }, { hash := PySem.PyData.keyHash P (PySem.Str.ofString "__iadd__"), key := PySem.Value.str (PySem.Str.ofString "__iadd__") 365, val := PySem.Value.ref 160 }, { hash := PySem.PyData.keyHash P (PySem.Str.ofString "_sub_"), key := PySem.Value.str (PySem.Str.ofString "_sub_") 371, val := PySem.Value.ref 165 }, { hash := PySem.PyData.keyHash P (PySem.Str.ofString "__sub__"), key := PySem.Value.str (PySem.Str.ofString "__sub__") 380, val := PySem.Value.ref 172 }, { hash := PySem.PyData.keyHash P (PySem.Str.ofString "__rsub__"), key := PySem.Value.str (PySem.Str.ofString "__rsub__") 388, val := PySem.Value.ref 179 }, { hash := PySem.PyData.keyHash P (PySem.Str.ofString "__isub__"), key := PySem.Value.str (PySem.Str.ofString "__isub__") 396, val := PySem.Value.ref 186 }, { hash := PySem.PyData.keyHash P (PySem.Str.ofString "__mul__"), key := PySem.Value.str (PySem.Str.ofString "__mul__") 402, val := PySem.Value.ref 191 }, { hash := PySem.PyData.keyHash P (PySem.Str.ofString "__rmul__"), key := PySem.Value.str (PySem.Str.ofString "__rmul__") 410, val := PySem.Value.ref 198 }, { hash := PySem.PyData.keyHash P (PySem.Str.ofString "__imul__"), key := PySem.Value.str (PySem.Str.ofString "__imul__") 418, val := PySem.Value.ref 205 }, { hash := PySem.PyData.keyHash P (PySem.Str.ofString "__pow__"), key := PySem.Value.str (PySem.Str.ofString "__pow__") 428, val := PySem.Value.ref 212 }, { hash := PySem.PyData.keyHash P (PySem.Str.ofString "__eq__"), key := PySem.Value.str (PySem.Str.ofString "__eq__") 436, val := PySem.Value.ref 219 }, { hash := PySem.PyData.keyHash P (PySem.Str.ofString "__getitem__"), key := PySem.Value.str (PySem.Str.ofString "__getitem__") 444, val := PySem.Value.ref 226 }, { hash := PySem.PyData.keyHash P (PySem.Str.ofString "__static_attributes__"), key := PySem.Value.str (PySem.Str.ofString "__static_attributes__") 447, val := PySem.Value.ref 227 }, { hash := PySem.PyData.keyHash P (PySem.Str.ofString "__dict__"), key := PySem.Value.str (PySem.Str.ofString "__dict__") 449, val := PySem.Value.ref 230 }, { hash := PySem.PyData.keyHash P (PySem.Str.ofString "__weakref__"), key := PySem.Value.str (PySem.Str.ofString "__weakref__") 451, val := PySem.Value.ref 231 }, { hash := PySem.PyData.keyHash P (PySem.Str.ofString "__doc__"), key := PySem.Value.str (PySem.Str.ofString "__doc__") 452, val := PySem.Value.none }, { hash := PySem.PyData.keyHash P (PySem.Str.ofString "__hash__"), key := PySem.Value.str (PySem.Str.ofString "__hash__") 453, val := PySem.Value.none }] 5 }) ::
  (nat_lit 229, { cls := PySem.Value.type "type", data := PySem.Data.cls { name := PySem.Str.ofString "PolynomialGeneric", bases := [PySem.Value.type "object"], mro := [PySem.Value.ref 229, PySem.Value.type "object"], ns := 228, qualname := PySem.Str.ofString "PolynomialGeneric", subclasses := [PySem.Value.ref 524] }, slots := #[Option.none, Option.none, Option.some (PySem.Value.str (PySem.Str.ofString "PolynomialGeneric") 257), Option.some (PySem.Value.str (PySem.Str.ofString "PolynomialGeneric") 265), Option.some (PySem.Value.builtin "object.__new__"), Option.some (PySem.Value.bool Bool.true)] }) ::
  (nat_lit 230, { cls := PySem.Value.type "getset_descriptor", data := PySem.Data.fields #[PySem.Value.str (PySem.Str.ofString "__dict__") 448, PySem.Value.ref 229, PySem.Value.builtin "function.__dict__", PySem.Value.builtin "function.__dict__#set"] }) ::
  (nat_lit 231, { cls := PySem.Value.type "getset_descriptor", data := PySem.Data.fields #[PySem.Value.str (PySem.Str.ofString "__weakref__") 450, PySem.Value.ref 229, PySem.Value.builtin "ExceptionGroup.__weakref__", PySem.Value.none] }) ::
  (nat_lit 241, { cls := PySem.Value.type "tuple", data := PySem.Data.seq #[] }) ::
  (nat_lit 243, { cls := PySem.Value.type "tuple", data := PySem.Data.seq #[PySem.Value.str (PySem.Str.ofString "self") 473, PySem.Value.str (PySem.Str.ofString "algorithm") 474, PySem.Value.str (PySem.Str.ofString "block_length") 475] }) ::
  (nat_lit 244, { cls := PySem.Value.type "tuple", data := PySem.Data.seq #[] }) ::
  (nat_lit 246, { cls := PySem.Value.type "code", data := PySem.Data.fields #[PySem.Value.str (PySem.Str.ofString "__init__") 470, PySem.Value.str (PySem.Str.ofString "Shake.__init__") 471, PySem.Value.str (PySem.Str.ofString "/claim/cut.py") 472, PySem.Value.int 153 0, PySem.Value.int 3 0, PySem.Value.int 0 0, PySem.Value.int 0 0, PySem.Value.int 3 0, PySem.Value.ref 241, PySem.Value.bool Bool.true, PySem.Value.int 181 0, PySem.Value.ref 242, PySem.Value.none, PySem.Value.ref 243, PySem.Value.ref 244, PySem.Value.ref 245, PySem.Value.int 476 0, PySem.Value.int 153 0, PySem.Value.str (PySem.Str.ofString "/claim/cut.py") 477] }) ::
  (nat_lit 247, { cls := PySem.Value.type "function", data := PySem.Data.func { name := PySem.Str.ofString "__init__", qualname := PySem.Str.ofString "Shake.__init__", params := p247, body := PySem.FuncBody.stmts b247, scope := s247, globals := 3, closure := [], defaults := PySem.Value.none, kwdefaults := PySem.Value.none, pyModule := PySem.Value.str (PySem.Str.ofString "dilithium_py.shake.shake_wrapper") 456, code := PySem.Value.ref 246 } }) ::
  (nat_lit 248, { cls := PySem.Value.type "tuple", data := PySem.Data.seq #[] }) ::
  (nat_lit 250, { cls := PySem.Value.type "tuple", data := PySem.Data.seq #[PySem.Value.str (PySem.Str.ofString "self") 482, PySem.Value.str (PySem.Str.ofString "input_bytes") 483] }) ::
  (nat_lit 251, { cls := PySem.Value.type "tuple", data := PySem.Data.seq #[] }) ::
  (nat_lit 253, { cls := PySem.Value.type "code", data := PySem.Data.fields #[PySem.Value.str (PySem.Str.ofString "absorb") 479, PySem.Value.str (PySem.Str.ofString "Shake.absorb") 480, PySem.Value.str (PySem.Str.ofString "/claim/cut.py") 481, PySem.Value.int 159 0, PySem.Value.int 2 0, PySem.Value.int 0 0, PySem.Value.int 0 0, PySem.Value.int 3 0, PySem.Value.ref 248, PySem.Value.bool Bool.true, PySem.Value.int 181 0, PySem.Value.ref 249, PySem.Value.none, PySem.Value.ref 250, PySem.Value.ref 251, PySem.Value.ref 252, PySem.Value.int 484 0, PySem.Value.int 159 0, PySem.Value.str (PySem.Str.ofString "/claim/cut.py") 485] }) ::
  (nat_lit 254, { cls := PySem.Value.type "function", data := PySem.Data.func { name := PySem.Str.ofString "absorb", qualname := PySem.Str.ofString "Shake.absorb", params := p254, body := PySem.FuncBody.stmts b254, scope := s254, globals := 3, closure := [], defaults := PySem.Value.none, kwdefaults := PySem.Value.none, pyModule := PySem.Value.str (PySem.Str.ofString "dilithium_py.shake.shake_wrapper") 456, code := PySem.Value.ref 253 } }) ::
  (nat_lit 255, { cls := PySem.Value.type "tuple", data := PySem.Data.seq #[] }) ::
  (nat_lit 257, { cls := PySem.Value.type "tuple", data := PySem.Data.seq #[PySem.Value.str (PySem.Str.ofString "self") 490, PySem.Value.str (PySem.Str.ofString "n") 491] }) ::
  (nat_lit 258, { cls := PySem.Value.type "tuple", data := PySem.Data.seq #[] }) ::
  (nat_lit 260, { cls := PySem.Value.type "code", data := PySem.Data.fields #[PySem.Value.str (PySem.Str.ofString "xof_read") 487, PySem.Value.str (PySem.Str.ofString "Shake.xof_read") 488, PySem.Value.str (PySem.Str.ofString "/claim/cut.py") 489, PySem.Value.int 165 0, PySem.Value.int 2 0, PySem.Value.int 0 0, PySem.Value.int 0 0, PySem.Value.int 3 0, PySem.Value.ref 255, PySem.Value.bool Bool.true, PySem.Value.int 181 0, PySem.Value.ref 256, PySem.Value.none, PySem.Value.ref 257, PySem.Value.ref 258, PySem.Value.ref 259, PySem.Value.int 492 0, PySem.Value.int 165 0, PySem.Value.str (PySem.Str.ofString "/claim/cut.py") 493] }) ::
  (nat_lit 261, { cls := PySem.Value.type "function", data := PySem.Data.func { name := PySem.Str.ofString "xof_read", qualname := PySem.Str.ofString "Shake.xof_read", params := p261, body := PySem.FuncBody.stmts b261, scope := s261, globals := 3, closure := [], defaults := PySem.Value.none, kwdefaults := PySem.Value.none, pyModule := PySem.Value.str (PySem.Str.ofString "dilithium_py.shake.shake_wrapper") 456, code := PySem.Value.ref 260 } }) ::
  (nat_lit 262, { cls := PySem.Value.type "tuple", data := PySem.Data.seq #[] }) ::
  (nat_lit 264, { cls := PySem.Value.type "tuple", data := PySem.Data.seq #[PySem.Value.str (PySem.Str.ofString "self") 498, PySem.Value.str (PySem.Str.ofString "n") 499, PySem.Value.str (PySem.Str.ofString "send") 500] }) ::
  (nat_lit 265, { cls := PySem.Value.type "tuple", data := PySem.Data.seq #[] }) ::
  (nat_lit 267, { cls := PySem.Value.type "code", data := PySem.Data.fields #[PySem.Value.str (PySem.Str.ofString "read") 495, PySem.Value.str (PySem.Str.ofString "Shake.read") 496, PySem.Value.str (PySem.Str.ofString "/claim/cut.py") 497, PySem.Value.int 168 0, PySem.Value.int 2 0, PySem.Value.int 0 0, PySem.Value.int 0 0, PySem.Value.int 3 0, PySem.Value.ref 262, PySem.Value.bool Bool.true, PySem.Value.int 181 0, PySem.Value.ref 263, PySem.Value.none, PySem.Value.ref 264, PySem.Value.ref 265, PySem.Value.ref 266, PySem.Value.int 501 0, PySem.Value.int 168 0, PySem.Value.str (PySem.Str.ofString "/claim/cut.py") 502] }) ::
  (nat_lit 268, { cls := PySem.Value.type "function", data := PySem.Data.func { name := PySem.Str.ofString "read", qualname := PySem.Str.ofString "Shake.read", params := p268, body := PySem.FuncBody.stmts b268, scope := s268, globals := 3, closure := [], defaults := PySem.Value.none, kwdefaults := PySem.Value.none, pyModule := PySem.Value.str (PySem.Str.ofString "dilithium_py.shake.shake_wrapper") 456, code := PySem.Value.ref 267 } }) ::
  (nat_lit 269, { cls := PySem.Value.type "tuple", data := PySem.Data.seq #[] }) ::
  (nat_lit 271, { cls := PySem.Value.type "tuple", data := PySem.Data.seq #[PySem.Value.str (PySem.Str.ofString "self") 507, PySem.Value.str (PySem.Str.ofString "input_bytes") 508] }) ::
  (nat_lit 272, { cls := PySem.Value.type "tuple", data := PySem.Data.seq #[] }) ::
  (nat_lit 274, { cls := PySem.Value.type "code", data := PySem.Data.fields #[PySem.Value.str (PySem.Str.ofString "__call__") 504, PySem.Value.str (PySem.Str.ofString "Shake.__call__") 505, PySem.Value.str (PySem.Str.ofString "/claim/cut.py") 506, PySem.Value.int 176 0, PySem.Value.int 2 0, PySem.Value.int 0 0, PySem.Value.int 0 0, PySem.Value.int 3 0, PySem.Value.ref 269, PySem.Value.bool Bool.true, PySem.Value.int 181 0, PySem.Value.ref 270, PySem.Value.none, PySem.Value.ref 271, PySem.Value.ref 272, PySem.Value.ref 273, PySem.Value.int 509 0, PySem.Value.int 176 0, PySem.Value.str (PySem.Str.ofString "/claim/cut.py") 510] }) ::
  (nat_lit 275, { cls := PySem.Value.type "function", data := PySem.Data.func { name := PySem.Str.ofString "__call__", qualname := PySem.Str.ofString "Shake.__call__", params := p275, body := PySem.FuncBody.stmts b275, scope := s275, globals := 3, closure := [], defaults := PySem.Value.none, kwdefaults := PySem.Value.none, pyModule := PySem.Value.str (PySem.Str.ofString "dilithium_py.shake.shake_wrapper") 456, code := PySem.Value.ref 274 } }) ::
  (nat_lit 276, { cls := PySem.Value.type "tuple", data := PySem.Data.seq #[PySem.Value.str (PySem.Str.ofString "algorithm") 512, PySem.Value.str (PySem.Str.ofString "block_length") 513, PySem.Value.str (PySem.Str.ofString "buf") 514, PySem.Value.str (PySem.Str.ofString "index") 515, PySem.Value.str (PySem.Str.ofString "input_bytes") 516, PySem.Value.str (PySem.Str.ofString "len_buf") 517] }) ::
  (nat_lit 277, { cls := PySem.Value.type "dict", data := PySem.Data.dict #[{ hash := PySem.PyData.keyHash P (PySem.Str.ofString "__module__"), key := PySem.Value.str (PySem.Str.ofString "__module__") 465, val := PySem.Value.str (PySem.Str.ofString "dilithium_py.shake.shake_wrapper") 456 }, { hash := PySem.PyData.keyHash P (PySem.Str.ofString "__firstlineno__"), key := PySem.Value.str (PySem.Str.ofString "__firstlineno__") 469, val := PySem.Value.int 151 468 }, { hash := PySem.PyData.keyHash P (PySem.Str.ofString "__init__"), key := PySem.Value.str (PySem.Str.ofString "__init__") 478, val := PySem.Value.ref 247 }, { hash := PySem.PyData.keyHash P (PySem.Str.ofString "absorb"), key := PySem.Value.str (PySem.Str.ofString "absorb") 486, val := PySem.Value.ref 254 }, { hash := PySem.PyData.keyHash P (PySem.Str.ofString "xof_read"), key := PySem.Value.str (PySem.Str.ofString "xof_read") 494, val := PySem.Value.ref 261 }, { hash := PySem.PyData.keyHash P (PySem.Str.ofString "read"), key := PySem.Value.str (PySem.Str.ofString "read") 503, val := PySem.Value.ref 268 }, { hash := PySem.PyData.keyHash P (PySem.Str.ofString "__call__"), key := PySem.Value.str (PySem.Str.ofString "__call__") 511, val := PySem.Value.ref 275 }, { hash := PySem.PyData.keyHash P (PySem.Str.ofString "__static_attributes__"), key := PySem.Value.str (PySem.Str.ofString "__static_attributes__") 518, val := PySem.Value.ref 276 }, { hash := PySem.PyData.keyHash P (PySem.Str.ofString "__dict__"), key := PySem.Value.str (PySem.Str.ofString "__dict__") 520, val := PySem.Value.ref 279 }, { hash := PySem.PyData.keyHash P (PySem.Str.ofString "__weakref__"), key := PySem.Value.str (PySem.Str.ofString "__weakref__") 522, val := PySem.Value.ref 280 }, { hash := PySem.PyData.keyHash P (PySem.Str.ofString "__doc__"), key := PySem.Value.str (PySem.Str.ofString "__doc__") 523, val := PySem.Value.none }] 4 }) ::
  (nat_lit 278, { cls := PySem.Value.type "type", data := PySem.Data.cls { name := PySem.Str.ofString "Shake", bases := [PySem.Value.type "object"], mro := [PySem.Value.ref 278, PySem.Value.type "object"], ns := 277, qualname := PySem.Str.ofString "Shake" }, slots := #[Option.none, Option.none, Option.some (PySem.Value.str (PySem.Str.ofString "Shake") 458), Option.some (PySem.Value.str (PySem.Str.ofString "Shake") 466), Option.some (PySem.Value.builtin "object.__new__"), Option.some (PySem.Value.bool Bool.true)] }) ::
  (nat_lit 279, { cls := PySem.Value.type "getset_descriptor", data := PySem.Data.fields #[PySem.Value.str (PySem.Str.ofString "__dict__") 519, PySem.Value.ref 278, PySem.Value.builtin "function.__dict__", PySem.Value.builtin "function.__dict__#set"] }) ::
  (nat_lit 280, { cls := PySem.Value.type "getset_descriptor", data := PySem.Data.fields #[PySem.Value.str (PySem.Str.ofString "__weakref__") 521, PySem.Value.ref 278, PySem.Value.builtin "ExceptionGroup.__weakref__", PySem.Value.none] }) ::
  (nat_lit 283, { cls := PySem.Value.type "tuple", data := PySem.Data.seq #[PySem.Value.ref 66] }) ::
  (nat_lit 290, { cls := PySem.Value.type "tuple", data := PySem.Data.seq #[] }) ::
  (nat_lit 293, { cls := PySem.Value.type "code", data := PySem.Data.fields #[PySem.Value.str (PySem.Str.ofString "__init__") 540, PySem.Value.str (PySem.Str.ofString "PolynomialRing.__init__") 541, PySem.Value.str (PySem.Str.ofString "/claim/cut.py") 542, PySem.Value.int 182 0, PySem.Value.int 3 0, PySem.Value.int 0 0, PySem.Value.int 0 0, PySem.Value.int 3 0, PySem.Value.ref 290, PySem.Value.bool Bool.true, PySem.Value.int 181 0, PySem.Value.ref 291, PySem.Value.none, PySem.Value.none, PySem.Value.none, PySem.Value.ref 292, PySem.Value.int 543 0, PySem.Value.int 182 0, PySem.Value.str (PySem.Str.ofString "/claim/cut.py") 544] }) ::
  (nat_lit 294, { cls := PySem.Value.type "function", data := PySem.Data.func { name := PySem.Str.ofString "__init__", qualname := PySem.Str.ofString "PolynomialRing.__init__", params := p294, body := PySem.FuncBody.stmts b294, scope := s294, globals := 3, closure := [], defaults := PySem.Value.none, kwdefaults := PySem.Value.none, pyModule := PySem.Value.str (PySem.Str.ofString "dilithium_py.polynomials.polynomials") 526, code := PySem.Value.ref 293 } }) ::
  (nat_lit 295, { cls := PySem.Value.type "tuple", data := PySem.Data.seq #[] }) ::
  (nat_lit 297, { cls := PySem.Value.type "tuple", data := PySem.Data.seq #[PySem.Value.str (PySem.Str.ofString "i") 549, PySem.Value.str (PySem.Str.ofString "k") 550, PySem.Value.str (PySem.Str.ofString "bin_i") 551] }) ::
  (nat_lit 298, { cls := PySem.Value.type "tuple", data := PySem.Data.seq #[] }) ::
  (nat_lit 300, { cls := PySem.Value.type "code", data := PySem.Data.fields #[PySem.Value.str (PySem.Str.ofString "br") 546, PySem.Value.str (PySem.Str.ofString "PolynomialRing.br") 547, PySem.Value.str (PySem.Str.ofString "/claim/cut.py") 548, PySem.Value.int 191 0, PySem.Value.int 2 0, PySem.Value.int 0 0, PySem.Value.int 0 0, PySem.Value.int 3 0, PySem.Value.ref 295, PySem.Value.bool Bool.true, PySem.Value.int 181 0, PySem.Value.ref 296, PySem.Value.none, PySem.Value.ref 297, PySem.Value.ref 298, PySem.Value.ref 299, PySem.Value.int 552 0, PySem.Value.int 191 0, PySem.Value.str (PySem.Str.ofString "/claim/cut.py") 553] }) ::
  (nat_lit 301, { cls := PySem.Value.type "function", data := PySem.Data.func { name := PySem.Str.ofString "br", qualname := PySem.Str.ofString "PolynomialRing.br", params := p301, body := PySem.FuncBody.stmts b301, scope := s301, globals := 3, closure := [], defaults := PySem.Value.none, kwdefaults := PySem.Value.none, pyModule := PySem.Value.str (PySem.Str.ofString "dilithium_py.polynomials.polynomials") 526, annotations := Option.some 304, code := PySem.Value.ref 300 } }) ::
  (nat_lit 302, { cls := PySem.Value.type "dict", data := PySem.Data.dict #[{ hash := PySem.PyData.keyHash P (PySem.Str.ofString "__module__"), key := PySem.Value.str (PySem.Str.ofString "__module__") 555, val := PySem.Value.str (PySem.Str.ofString "dilithium_py.polynomials.polynomials") 526 }, { hash := PySem.PyData.keyHash P (PySem.Str.ofString "__name__"), key := PySem.Value.str (PySem.Str.ofString "__name__") 558, val := PySem.Value.str (PySem.Str.ofString "br") 557 }, { hash := PySem.PyData.keyHash P (PySem.Str.ofString "__qualname__"), key := PySem.Value.str (PySem.Str.ofString "__qualname__") 561, val := PySem.Value.str (PySem.Str.ofString "PolynomialRing.br") 560 }, { hash := PySem.PyData.keyHash P (PySem.Str.ofString "__doc__"), key := PySem.Value.str (PySem.Str.ofString "__doc__") 563, val := PySem.Value.none }, { hash := PySem.PyData.keyHash P (PySem.Str.ofString "__annotations__"), key := PySem.Value.str (PySem.Str.ofString "__annotations__") 565, val := PySem.Value.ref 304 }] 5 }) ::
  (nat_lit 303, { cls := PySem.Value.type "staticmethod", dict := Option.some 302, data := PySem.Data.fields #[PySem.Value.ref 301, PySem.Value.bool Bool.false] }) ::
  (nat_lit 304, { cls := PySem.Value.type "dict", data := PySem.Data.dict #[] }) ::
  (nat_lit 305, { cls := PySem.Value.type "tuple", data := PySem.Data.seq #[] }) ::
  (nat_lit 308, { cls := PySem.Value.type "code", data := PySem.Data.fields #[PySem.Value.str (PySem.Str.ofString "sample_in_ball") 567, PySem.Value.str (PySem.Str.ofString "PolynomialRing.sample_in_ball") 568, PySem.Value.str (PySem.Str.ofString "/claim/cut.py") 569, PySem.Value.int 196 0, PySem.Value.int 3 0, PySem.Value.int 0 0, PySem.Value.int 0 0, PySem.Value.int 3 0, PySem.Value.ref 305, PySem.Value.bool Bool.true, PySem.Value.int 181 0, PySem.Value.ref 306, PySem.Value.none, PySem.Value.none, PySem.Value.none, PySem.Value.ref 307, PySem.Value.int 570 0, PySem.Value.int 196 0, PySem.Value.str (PySem.Str.ofString "/claim/cut.py") 571] }) ::
  (nat_lit 309, { cls := PySem.Value.type "function", data := PySem.Data.func { name := PySem.Str.ofString "sample_in_ball", qualname := PySem.Str.ofString "PolynomialRing.sample_in_ball", params := p309, body := PySem.FuncBody.stmts b309, scope := s309, globals := 3, closure := [], defaults := PySem.Value.none, kwdefaults := PySem.Value.none, pyModule := PySem.Value.str (PySem.Str.ofString "dilithium_py.polynomials.polynomials") 526, code := PySem.Value.ref 308 } }) ::
  (nat_lit 310, { cls := PySem.Value.type "tuple", data := PySem.Data.seq #[] }) ::
  (nat_lit 313, { cls := PySem.Value.type "code", data := PySem.Data.fields #[PySem.Value.str (PySem.Str.ofString "rejection_sample_ntt_poly") 573, PySem.Value.str (PySem.Str.ofString "PolynomialRing.rejection_sample_ntt_poly") 574, PySem.Value.str (PySem.Str.ofString "/claim/cut.py") 575, PySem.Value.int 214 0, PySem.Value.int 4 0, PySem.Value.int 0 0, PySem.Value.int 0 0, PySem.Value.int 3 0, PySem.Value.ref 310, PySem.Value.bool Bool.true, PySem.Value.int 181 0, PySem.Value.ref 311, PySem.Value.none, PySem.Value.none, PySem.Value.none, PySem.Value.ref 312, PySem.Value.int 576 0, PySem.Value.int 214 0, PySem.Value.str (PySem.Str.ofString "/claim/cut.py") 577] }) ::
  (nat_lit 314, { cls := PySem.Value.type "function", data := PySem.Data.func { name := PySem.Str.ofString "rejection_sample_ntt_poly", qualname := PySem.Str.ofString "PolynomialRing.rejection_sample_ntt_poly", params := p314, body := PySem.FuncBody.stmts b314, scope := s314, globals := 3, closure := [], defaults := PySem.Value.none, kwdefaults := PySem.Value.none, pyModule := PySem.Value.str (PySem.Str.ofString "dilithium_py.polynomials.polynomials") 526, code := PySem.Value.ref 313 } }) ::
  (nat_lit 315, { cls := PySem.Value.type "tuple", data := PySem.Data.seq #[] }) ::
  (nat_lit 317, { cls := PySem.Value.type "tuple", data := PySem.Data.seq #[PySem.Value.str (PySem.Str.ofString "self") 582, PySem.Value.str (PySem.Str.ofString "rho_prime") 583, PySem.Value.str (PySem.Str.ofString "i") 584, PySem.Value.str (PySem.Str.ofString "eta") 585] }) ::
  (nat_lit 318, { cls := PySem.Value.type "tuple", data := PySem.Data.seq #[] }) ::
  (nat_lit 320, { cls := PySem.Value.type "code", data := PySem.Data.fields #[PySem.Value.str (PySem.Str.ofString "rejection_bounded_poly") 579, PySem.Value.str (PySem.Str.ofString "PolynomialRing.rejection_bounded_poly") 580, PySem.Value.str (PySem.Str.ofString "/claim/cut.py") 581, PySem.Value.int 228 0, PySem.Value.int 4 0, PySem.Value.int 0 0, PySem.Value.int 0 0, PySem.Value.int 3 0, PySem.Value.ref 315, PySem.Value.bool Bool.true, PySem.Value.int 181 0, PySem.Value.ref 316, PySem.Value.none, PySem.Value.ref 317, PySem.Value.ref 318, PySem.Value.ref 319, PySem.Value.int 586 0, PySem.Value.int 228 0, PySem.Value.str (PySem.Str.ofString "/claim/cut.py") 587] }) ::
  (nat_lit 321, { cls := PySem.Value.type "function", data := PySem.Data.func { name := PySem.Str.ofString "rejection_bounded_poly", qualname := PySem.Str.ofString "PolynomialRing.rejection_bounded_poly", params := p321, body := PySem.FuncBody.stmts b321, scope := s321, globals := 3, closure := [], defaults := PySem.Value.none, kwdefaults := PySem.Value.none, pyModule := PySem.Value.str (PySem.Str.ofString "dilithium_py.polynomials.polynomials") 526, code := PySem.Value.ref 320 } }) ::
  (nat_lit 322, { cls := PySem.Value.type "tuple", data := PySem.Data.seq #[] }) ::
  (nat_lit 324, { cls := PySem.Value.type "tuple", data := PySem.Data.seq #[PySem.Value.str (PySem.Str.ofString "self") 592, PySem.Value.str (PySem.Str.ofString "rho_prime") 593, PySem.Value.str (PySem.Str.ofString "i") 594, PySem.Value.str (PySem.Str.ofString "kappa") 595, PySem.Value.str (PySem.Str.ofString "gamma_1") 596] }) ::
  (nat_lit 325, { cls := PySem.Value.type "tuple", data := PySem.Data.seq #[] }) ::
  (nat_lit 327, { cls := PySem.Value.type "code", data := PySem.Data.fields #[PySem.Value.str (PySem.Str.ofString "sample_mask_polynomial") 589, PySem.Value.str (PySem.Str.ofString "PolynomialRing.sample_mask_polynomial") 590, PySem.Value.str (PySem.Str.ofString "/claim/cut.py") 591, PySem.Value.int 231 0, PySem.Value.int 5 0, PySem.Value.int 0 0, PySem.Value.int 0 0, PySem.Value.int 3 0, PySem.Value.ref 322, PySem.Value.bool Bool.true, PySem.Value.int 181 0, PySem.Value.ref 323, PySem.Value.none, PySem.Value.ref 324, PySem.Value.ref 325, PySem.Value.ref 326, PySem.Value.int 597 0, PySem.Value.int 231 0, PySem.Value.str (PySem.Str.ofString "/claim/cut.py") 598] }) ::
  (nat_lit 328, { cls := PySem.Value.type "function", data := PySem.Data.func { name := PySem.Str.ofString "sample_mask_polynomial", qualname := PySem.Str.ofString "PolynomialRing.sample_mask_polynomial", params := p328, body := PySem.FuncBody.stmts b328, scope := s328, globals := 3, closure := [], defaults := PySem.Value.none, kwdefaults := PySem.Value.none, pyModule := PySem.Value.str (PySem.Str.ofString "dilithium_py.polynomials.polynomials") 526, code := PySem.Value.ref 327 } }) ::
  (nat_lit 329, { cls := PySem.Value.type "tuple", data := PySem.Data.seq #[] }) ::
  (nat_lit 331, { cls := PySem.Value.type "tuple", data := PySem.Data.seq #[PySem.Value.str (PySem.Str.ofString "self") 603, PySem.Value.str (PySem.Str.ofString "input_bytes") 604, PySem.Value.str (PySem.Str.ofString "n_bits") 605] }) ::
  (nat_lit 332, { cls := PySem.Value.type "tuple", data := PySem.Data.seq #[] }) ::
  (nat_lit 334, { cls := PySem.Value.type "code", data := PySem.Data.fields #[PySem.Value.str (PySem.Str.ofString "_bit_unpack") 600, PySem.Value.str (PySem.Str.ofString "PolynomialRing._bit_unpack") 601, PySem.Value.str (PySem.Str.ofString "/claim/cut.py") 602, PySem.Value.int 234 0, PySem.Value.int 3 0, PySem.Value.int 0 0, PySem.Value.int 0 0, PySem.Value.int 3 0, PySem.Value.ref 329, PySem.Value.bool Bool.true, PySem.Value.int 181 0, PySem.Value.ref 330, PySem.Value.none, PySem.Value.ref 331, PySem.Value.ref 332, PySem.Value.ref 333, PySem.Value.int 606 0, PySem.Value.int 234 0, PySem.Value.str (PySem.Str.ofString "/claim/cut.py") 607] }) ::
  (nat_lit 335, { cls := PySem.Value.type "function", data := PySem.Data.func { name := PySem.Str.ofString "_bit_unpack", qualname := PySem.Str.ofString "PolynomialRing._bit_unpack", params := p335, body := PySem.FuncBody.stmts b335, scope := s335, globals := 3, closure := [], defaults := PySem.Value.none, kwdefaults := PySem.Value.none, pyModule := PySem.Value.str (PySem.Str.ofString "dilithium_py.polynomials.polynomials") 526, code := PySem.Value.ref 334 } }) ::
  (nat_lit 336, { cls := PySem.Value.type "tuple", data := PySem.Data.seq #[] }) ::
  (nat_lit 338, { cls := PySem.Value.type "tuple", data := PySem.Data.seq #[PySem.Value.str (PySem.Str.ofString "self") 612, PySem.Value.str (PySem.Str.ofString "input_bytes") 613] }) ::
  (nat_lit 339, { cls := PySem.Value.type "tuple", data := PySem.Data.seq #[] }) ::
  (nat_lit 341, { cls := PySem.Value.type "code", data := PySem.Data.fields #[PySem.Value.str (PySem.Str.ofString "bit_unpack_t0") 609, PySem.Value.str (PySem.Str.ofString "PolynomialRing.bit_unpack_t0") 610, PySem.Value.str (PySem.Str.ofString "/claim/cut.py") 611, PySem.Value.int 237 0, PySem.Value.int 2 0, PySem.Value.int 0 0, PySem.Value.int 0 0, PySem.Value.int 3 0, PySem.Value.ref 336, PySem.Value.bool Bool.true, PySem.Value.int 181 0, PySem.Value.ref 337, PySem.Value.none, PySem.Value.ref 338, PySem.Value.ref 339, PySem.Value.ref 340, PySem.Value.int 614 0, PySem.Value.int 237 0, PySem.Value.str (PySem.Str.ofString "/claim/cut.py") 615] }) ::
  (nat_lit 342, { cls := PySem.Value.type "function", data := PySem.Data.func { name := PySem.Str.ofString "bit_unpack_t0", qualname := PySem.Str.ofString "PolynomialRing.bit_unpack_t0", params := p342, body := PySem.FuncBody.stmts b342, scope := s342, globals := 3, closure := [], defaults := PySem.Value.none, kwdefaults := PySem.Value.none, pyModule := PySem.Value.str (PySem.Str.ofString "dilithium_py.polynomials.polynomials") 526, code := PySem.Value.ref 341 } }) ::
  (nat_lit 343, { cls := PySem.Value.type "tuple", data := PySem.Data.seq #[] }) ::
  (nat_lit 345, { cls := PySem.Value.type "tuple", data := PySem.Data.seq #[PySem.Value.str (PySem.Str.ofString "self") 620, PySem.Value.str (PySem.Str.ofString "input_bytes") 621] }) ::
  (nat_lit 346, { cls := PySem.Value.type "tuple", data := PySem.Data.seq #[] }) ::
  (nat_lit 348, { cls := PySem.Value.type "code", data := PySem.Data.fields #[PySem.Value.str (PySem.Str.ofString "bit_unpack_t1") 617, PySem.Value.str (PySem.Str.ofString "PolynomialRing.bit_unpack_t1") 618, PySem.Value.str (PySem.Str.ofString "/claim/cut.py") 619, PySem.Value.int 240 0, PySem.Value.int 2 0, PySem.Value.int 0 0, PySem.Value.int 0 0, PySem.Value.int 3 0, PySem.Value.ref 343, PySem.Value.bool Bool.true, PySem.Value.int 181 0, PySem.Value.ref 344, PySem.Value.none, PySem.Value.ref 345, PySem.Value.ref 346, PySem.Value.ref 347, PySem.Value.int 622 0, PySem.Value.int 240 0, PySem.Value.str (PySem.Str.ofString "/claim/cut.py") 623] }) ::
  (nat_lit 349, { cls := PySem.Value.type "function", data := PySem.Data.func { name := PySem.Str.ofString "bit_unpack_t1", qualname := PySem.Str.ofString "PolynomialRing.bit_unpack_t1", params := p349, body := PySem.FuncBody.stmts b349, scope := s349, globals := 3, closure := [], defaults := PySem.Value.none, kwdefaults := PySem.Value.none, pyModule := PySem.Value.str (PySem.Str.ofString "dilithium_py.polynomials.polynomials") 526, code := PySem.Value.ref 348 } }) ::
  (nat_lit 350, { cls := PySem.Value.type "tuple", data := PySem.Data.seq #[] }) ::
  (nat_lit 352, { cls := PySem.Value.type "tuple", data := PySem.Data.seq #[PySem.Value.str (PySem.Str.ofString "self") 628, PySem.Value.str (PySem.Str.ofString "input_bytes") 629, PySem.Value.str (PySem.Str.ofString "eta") 630] }) ::
  (nat_lit 353, { cls := PySem.Value.type "tuple", data := PySem.Data.seq #[] }) ::
  (nat_lit 355, { cls := PySem.Value.type "code", data := PySem.Data.fields #[PySem.Value.str (PySem.Str.ofString "bit_unpack_s") 625, PySem.Value.str (PySem.Str.ofString "PolynomialRing.bit_unpack_s") 626, PySem.Value.str (PySem.Str.ofString "/claim/cut.py") 627, PySem.Value.int 243 0, PySem.Value.int 3 0, PySem.Value.int 0 0, PySem.Value.int 0 0, PySem.Value.int 3 0, PySem.Value.ref 350, PySem.Value.bool Bool.true, PySem.Value.int 181 0, PySem.Value.ref 351, PySem.Value.none, PySem.Value.ref 352, PySem.Value.ref 353, PySem.Value.ref 354, PySem.Value.int 631 0, PySem.Value.int 243 0, PySem.Value.str (PySem.Str.ofString "/claim/cut.py") 632] }) ::
  (nat_lit 356, { cls := PySem.Value.type "function", data := PySem.Data.func { name := PySem.Str.ofString "bit_unpack_s", qualname := PySem.Str.ofString "PolynomialRing.bit_unpack_s", params := p356, body := PySem.FuncBody.stmts b356, scope := s356, globals := 3, closure := [], defaults := PySem.Value.none, kwdefaults := PySem.Value.none, pyModule := PySem.Value.str (PySem.Str.ofString "dilithium_py.polynomials.polynomials") 526, code := PySem.Value.ref 355 } }) ::
  (nat_lit 357, { cls := PySem.Value.type "tuple", data := PySem.Data.seq #[] }) ::
  (nat_lit 359, { cls := PySem.Value.type "tuple", data := PySem.Data.seq #[PySem.Value.str (PySem.Str.ofString "self") 637, PySem.Value.str (PySem.Str.ofString "input_bytes") 638, PySem.Value.str (PySem.Str.ofString "gamma_2") 639] }) ::
  (nat_lit 360, { cls := PySem.Value.type "tuple", data := PySem.Data.seq #[] }) ::
  (nat_lit 362, { cls := PySem.Value.type "code", data := PySem.Data.fields #[PySem.Value.str (PySem.Str.ofString "bit_unpack_w") 634, PySem.Value.str (PySem.Str.ofString "PolynomialRing.bit_unpack_w") 635, PySem.Value.str (PySem.Str.ofString "/claim/cut.py") 636, PySem.Value.int 246 0, PySem.Value.int 3 0, PySem.Value.int 0 0, PySem.Value.int 0 0, PySem.Value.int 3 0, PySem.Value.ref 357, PySem.Value.bool Bool.true, PySem.Value.int 181 0, PySem.Value.ref 358, PySem.Value.none, PySem.Value.ref 359, PySem.Value.ref 360, PySem.Value.ref 361, PySem.Value.int 640 0, PySem.Value.int 246 0, PySem.Value.str (PySem.Str.ofString "/claim/cut.py") 641] }) ::
  (nat_lit 363, { cls := PySem.Value.type "function", data := PySem.Data.func { name := PySem.Str.ofString "bit_unpack_w", qualname := PySem.Str.ofString "PolynomialRing.bit_unpack_w", params := p363, body := PySem.FuncBody.stmts b363, scope := s363, globals := 3, closure := [], defaults := PySem.Value.none, kwdefaults := PySem.Value.none, pyModule := PySem.Value.str (PySem.Str.ofString "dilithium_py.polynomials.polynomials") 526, code := PySem.Value.ref 362 } }) ::
  (nat_lit 364, { cls := PySem.Value.type "tuple", data := PySem.Data.seq #[] }) ::
  (nat_lit 366, { cls := PySem.Value.type "tuple", data := PySem.Data.seq #[PySem.Value.str (PySem.Str.ofString "self") 646, PySem.Value.str (PySem.Str.ofString "input_bytes") 647, PySem.Value.str (PySem.Str.ofString "gamma_1") 648] }) ::
  (nat_lit 367, { cls := PySem.Value.type "tuple", data := PySem.Data.seq #[] }) ::
  (nat_lit 369, { cls := PySem.Value.type "code", data := PySem.Data.fields #[PySem.Value.str (PySem.Str.ofString "bit_unpack_z") 643, PySem.Value.str (PySem.Str.ofString "PolynomialRing.bit_unpack_z") 644, PySem.Value.str (PySem.Str.ofString "/claim/cut.py") 645, PySem.Value.int 249 0, PySem.Value.int 3 0, PySem.Value.int 0 0, PySem.Value.int 0 0, PySem.Value.int 3 0, PySem.Value.ref 364, PySem.Value.bool Bool.true, PySem.Value.int 181 0, PySem.Value.ref 365, PySem.Value.none, PySem.Value.ref 366, PySem.Value.ref 367, PySem.Value.ref 368, PySem.Value.int 649 0, PySem.Value.int 249 0, PySem.Value.str (PySem.Str.ofString "/claim/cut.py") 650] }) ::
  (nat_lit 370, { cls := PySem.Value.type "function", data := PySem.Data.func { name := PySem.Str.ofString "bit_unpack_z", qualname := PySem.Str.ofString "PolynomialRing.bit_unpack_z", params := p370, body := PySem.FuncBody.stmts b370, scope := s370, globals := 3, closure := [], defaults := PySem.Value.none, kwdefaults := PySem.Value.none, pyModule := PySem.Value.str (PySem.Str.ofString "dilithium_py.polynomials.polynomials") 526, code := PySem.Value.ref 369 } }) ::
  (nat_lit 371, { cls := PySem.Value.type "tuple", data := PySem.Data.seq #[PySem.Value.bool Bool.false] }) ::
  (nat_lit 372, { cls := PySem.Value.type "tuple", data := PySem.Data.seq #[] }) ::
  (nat_lit 374, { cls := PySem.Value.type "tuple", data := PySem.Data.seq #[PySem.Value.str (PySem.Str.ofString "self") 655, PySem.Value.str (PySem.Str.ofString "coefficients") 656, PySem.Value.str (PySem.Str.ofString "is_ntt") 657] }) ::
  (nat_lit 375, { cls := PySem.Value.type "tuple", data := PySem.Data.seq #[] }) ::
  (nat_lit 377, { cls := PySem.Value.type "code", data := PySem.Data.fields #[PySem.Value.str (PySem.Str.ofString "__call__") 652, PySem.Value.str (PySem.Str.ofString "PolynomialRing.__call__") 653, PySem.Value.str (PySem.Str.ofString "/claim/cut.py") 654, PySem.Value.int 252 0, PySem.Value.int 3 0, PySem.Value.int 0 0, PySem.Value.int 0 0, PySem.Value.int 3 0, PySem.Value.ref 372, PySem.Value.bool Bool.true, PySem.Value.int 181 0, PySem.Value.ref 373, PySem.Value.none, PySem.Value.ref 374, PySem.Value.ref 375, PySem.Value.ref 376, PySem.Value.int 658 0, PySem.Value.int 252 0, PySem.Value.str (PySem.Str.ofString "/claim/cut.py") 659] }) ::
  (nat_lit 378, { cls := PySem.Value.type "function", data := PySem.Data.func { name := PySem.Str.ofString "__call__", qualname := PySem.Str.ofString "PolynomialRing.__call__", params := p378, body := PySem.FuncBody.stmts b378, scope := s378, globals := 3, closure := [], defaults := PySem.Value.ref 371, kwdefaults := PySem.Value.none, pyModule := PySem.Value.str (PySem.Str.ofString "dilithium_py.polynomials.polynomials") 526, code := PySem.Value.ref 377 } }) ::
  (nat_lit 379, { cls := PySem.Value.type "tuple", data := PySem.Data.seq #[] }) ::
  (nat_lit 381, { cls := PySem.Value.type "tuple", data := PySem.Data.seq #[PySem.Value.str (PySem.Str.ofString "self") 664, PySem.Value.str (PySem.Str.ofString "value") 665] }) ::
  (nat_lit 382, { cls := PySem.Value.type "tuple", data := PySem.Data.seq #[] }) ::
  (nat_lit 384, { cls := PySem.Value.type "code", data := PySem.Data.fields #[PySem.Value.str (PySem.Str.ofString "is_element") 661, PySem.Value.str (PySem.Str.ofString "PolynomialRing.is_element") 662, PySem.Value.str (PySem.Str.ofString "/claim/cut.py") 663, PySem.Value.int 261 0, PySem.Value.int 2 0, PySem.Value.int 0 0, PySem.Value.int 0 0, PySem.Value.int 3 0, PySem.Value.ref 379, PySem.Value.bool Bool.true, PySem.Value.int 181 0, PySem.Value.ref 380, PySem.Value.none, PySem.Value.ref 381, PySem.Value.ref 382, PySem.Value.ref 383, PySem.Value.int 666 0, PySem.Value.int 261 0, PySem.Value.str (PySem.Str.ofString "/claim/cut.py") 667] }) ::
  (nat_lit 385, { cls := PySem.Value.type "function", data := PySem.Data.func { name := PySem.Str.ofString "is_element", qualname := PySem.Str.ofString "PolynomialRing.is_element", params := p385, body := PySem.FuncBody.stmts b385, scope := s385, globals := 3, closure := [], defaults := PySem.Value.none, kwdefaults := PySem.Value.none, pyModule := PySem.Value.str (PySem.Str.ofString "dilithium_py.polynomials.polynomials") 526, code := PySem.Value.ref 384 } }) ::
  (nat_lit 386, { cls := PySem.Value.type "tuple", data := PySem.Data.seq #[PySem.Value.str (PySem.Str.ofString "n") 669, PySem.Value.str (PySem.Str.ofString "ntt_f") 670, PySem.Value.str (PySem.Str.ofString "ntt_zetas") 671, PySem.Value.str (PySem.Str.ofString "q") 672, PySem.Value.str (PySem.Str.ofString "shake128") 673, PySem.Value.str (PySem.Str.ofString "shake256") 674] }) ::
  (nat_lit 387, { cls := PySem.Value.type "dict", data := PySem.Data.dict #[{ hash := PySem.PyData.keyHash P (PySem.Str.ofString "__module__"), key := PySem.Value.str (PySem.Str.ofString "__module__") 535, val := PySem.Value.str (PySem.Str.ofString "dilithium_py.polynomials.polynomials") 526 }, { hash := PySem.PyData.keyHash P (PySem.Str.ofString "__firstlineno__"), key := PySem.Value.str (PySem.Str.ofString "__firstlineno__") 539, val := PySem.Value.int 180 538 }, { hash := PySem.PyData.keyHash P (PySem.Str.ofString "__init__"), key := PySem.Value.str (PySem.Str.ofString "__init__") 545, val := PySem.Value.ref 294 }, { hash := PySem.PyData.keyHash P (PySem.Str.ofString "br"), key := PySem.Value.str (PySem.Str.ofString "br") 566, val := PySem.Value.ref 303 }, { hash := PySem.PyData.keyHash P (PySem.Str.ofString "sample_in_ball"), key := PySem.Value.str (PySem.Str.ofString "sample_in_ball") 572, val := PySem.Value.ref 309 }, { hash := PySem.PyData.keyHash P (PySem.Str.ofString "rejection_sample_ntt_poly"), key := PySem.Value.str (PySem.Str.ofString "rejection_sample_ntt_poly") 578, val := PySem.Value.ref 314 }, { hash := PySem.PyData.keyHash P (PySem.Str.ofString "rejection_bounded_poly"), key := PySem.Value.str (PySem.Str.ofString "rejection_bounded_poly") 588, val := PySem.Value.ref 321 }, { hash := PySem.PyData.keyHash P (PySem.Str.ofString "sample_mask_polynomial"), key := PySem.Value.str (PySem.Str.ofString "sample_mask_polynomial") 599, val := PySem.Value.ref 328 }, { hash := PySem.PyData.keyHash P (PySem.Str.ofString "_bit_unpack"), key := PySem.Value.str (PySem.Str.ofString "_bit_unpack") 608, val := PySem.Value.ref 335 }, { hash := PySem.PyData.keyHash P (PySem.Str.ofString "bit_unpack_t0"), key := PySem.Value.str (PySem.Str.ofString "bit_unpack_t0") 616, val := PySem.Value.ref 342 }, { hash := PySem.PyData.keyHash P (PySem.Str.ofString "bit_unpack_t1"), key := PySem.Value.str (PySem.Str.ofString "bit_unpack_t1") 624, val := PySem.Value.ref 349 }, { hash := PySem.PyData.keyHash P (PySem.Str.ofString "bit_unpack_s"), key := PySem.Value.str (PySem.Str.ofString "bit_unpack_s") 633, val := PySem.Value.ref 356 }, { hash := PySem.PyData.keyHash P (PySem.Str.ofString "bit_unpack_w"), key := PySem.Value.str (PySem.Str.ofString "bit_unpack_w") 642, val := PySem.Value.ref 363 }, { hash := PySem.PyData.keyHash P (PySem.Str.ofString "bit_unpack_z"), key := PySem.Value.str (PySem.Str.ofString "bit_unpack_z") 651, val := PySem.Value.ref 370 }, { hash := PySem.PyData.keyHash P (PySem.Str.ofString "__call__"), key := PySem.Value.str (PySem.Str.ofString "__call__") 660, val := PySem.Value.ref 378 }, { hash := PySem.PyData.keyHash P (PySem.Str.ofString "is_element"), key := PySem.Value.str (PySem.Str.ofString "is_element") 668, val := PySem.Value.ref 385 }, { hash := PySem.PyData.keyHash P (PySem.Str.ofString "__static_attributes__"), key := PySem.Value.str (PySem.Str.ofString "__static_attributes__") 675, val := PySem.Value.ref 386 }, { hash := PySem.PyData.keyHash P (PySem.Str.ofString "__doc__"), key := PySem.Value.str (PySem.Str.ofString "__doc__") 676, val := PySem.Value.none }] 2 }) ::
  (nat_lit 388, { cls := PySem.Value.type "type", data := PySem.Data.cls { name := PySem.Str.ofString "PolynomialRing", bases := [PySem.Value.ref 66], mro := [PySem.Value.ref 388, PySem.Value.ref 66, PySem.Value.type "object"], ns := 387, qualname := PySem.Str.ofString "PolynomialRing" }, slots := #[Option.some (PySem.Value.ref 283), Option.none, Option.some (PySem.Value.str (PySem.Str.ofString "PolynomialRing") 528), Option.some (PySem.Value.str (PySem.Str.ofString "PolynomialRing") 536), Option.some (PySem.Value.builtin "object.__new__"), Option.some (PySem.Value.bool Bool.true)] }) ::
  (nat_lit 391, { cls := PySem.Value.type "tuple", data := PySem.Data.seq #[PySem.Value.ref 229] }) ::
  (nat_lit 398, { cls := PySem.Value.type "tuple", data := PySem.Data.seq #[] }) ::
  (nat_lit 400, { cls := PySem.Value.type "tuple", data := PySem.Data.seq #[PySem.Value.str (PySem.Str.ofString "self") 694, PySem.Value.str (PySem.Str.ofString "parent") 695, PySem.Value.str (PySem.Str.ofString "coefficients") 696] }) ::
  (nat_lit 401, { cls := PySem.Value.type "tuple", data := PySem.Data.seq #[] }) ::
  (nat_lit 403, { cls := PySem.Value.type "code", data := PySem.Data.fields #[PySem.Value.str (PySem.Str.ofString "__init__") 691, PySem.Value.str (PySem.Str.ofString "Polynomial.__init__") 692, PySem.Value.str (PySem.Str.ofString "/claim/cut.py") 693, PySem.Value.int 265 0, PySem.Value.int 3 0, PySem.Value.int 0 0, PySem.Value.int 0 0, PySem.Value.int 3 0, PySem.Value.ref 398, PySem.Value.bool Bool.true, PySem.Value.int 181 0, PySem.Value.ref 399, PySem.Value.none, PySem.Value.ref 400, PySem.Value.ref 401, PySem.Value.ref 402, PySem.Value.int 697 0, PySem.Value.int 265 0, PySem.Value.str (PySem.Str.ofString "/claim/cut.py") 698] }) ::
  (nat_lit 404, { cls := PySem.Value.type "function", data := PySem.Data.func { name := PySem.Str.ofString "__init__", qualname := PySem.Str.ofString "Polynomial.__init__", params := p404, body := PySem.FuncBody.stmts b404, scope := s404, globals := 3, closure := [], defaults := PySem.Value.none, kwdefaults := PySem.Value.none, pyModule := PySem.Value.str (PySem.Str.ofString "dilithium_py.polynomials.polynomials") 526, code := PySem.Value.ref 403 } }) ::
  (nat_lit 405, { cls := PySem.Value.type "tuple", data := PySem.Data.seq #[] }) ::
  (nat_lit 407, { cls := PySem.Value.type "tuple", data := PySem.Data.seq #[PySem.Value.str (PySem.Str.ofString "self") 703] }) ::
  (nat_lit 408, { cls := PySem.Value.type "tuple", data := PySem.Data.seq #[] }) ::
  (nat_lit 410, { cls := PySem.Value.type "code", data := PySem.Data.fields #[PySem.Value.str (PySem.Str.ofString "to_ntt") 700, PySem.Value.str (PySem.Str.ofString "Polynomial.to_ntt") 701, PySem.Value.str (PySem.Str.ofString "/claim/cut.py") 702, PySem.Value.int 269 0, PySem.Value.int 1 0, PySem.Value.int 0 0, PySem.Value.int 0 0, PySem.Value.int 3 0, PySem.Value.ref 405, PySem.Value.bool Bool.true, PySem.Value.int 181 0, PySem.Value.ref 406, PySem.Value.none, PySem.Value.ref 407, PySem.Value.ref 408, PySem.Value.ref 409, PySem.Value.int 704 0, PySem.Value.int 269 0, PySem.Value.str (PySem.Str.ofString "/claim/cut.py") 705] }) ::
  (nat_lit 411, { cls := PySem.Value.type "function", data := PySem.Data.func { name := PySem.Str.ofString "to_ntt", qualname := PySem.Str.ofString "Polynomial.to_ntt", params := p411, body := PySem.FuncBody.stmts b411, scope := s411, globals := 3, closure := [], defaults := PySem.Value.none, kwdefaults := PySem.Value.none, pyModule := PySem.Value.str (PySem.Str.ofString "dilithium_py.polynomials.polynomials") 526, code := PySem.Value.ref 410 } }) ::
  (nat_lit 412, { cls := PySem.Value.type "tuple", data := PySem.Data.seq #[] }) ::
  (nat_lit 414, { cls := PySem.Value.type "tuple", data := PySem.Data.seq #[PySem.Value.str (PySem.Str.ofString "self") 710] }) ::
  (nat_lit 415, { cls := PySem.Value.type "tuple", data := PySem.Data.seq #[] }) ::
  (nat_lit 417, { cls := PySem.Value.type "code", data := PySem.Data.fields #[PySem.Value.str (PySem.Str.ofString "from_ntt") 707, PySem.Value.str (PySem.Str.ofString "Polynomial.from_ntt") 708, PySem.Value.str (PySem.Str.ofString "/claim/cut.py") 709, PySem.Value.int 272 0, PySem.Value.int 1 0, PySem.Value.int 0 0, PySem.Value.int 0 0, PySem.Value.int 3 0, PySem.Value.ref 412, PySem.Value.bool Bool.true, PySem.Value.int 181 0, PySem.Value.ref 413, PySem.Value.none, PySem.Value.ref 414, PySem.Value.ref 415, PySem.Value.ref 416, PySem.Value.int 711 0, PySem.Value.int 272 0, PySem.Value.str (PySem.Str.ofString "/claim/cut.py") 712] }) ::
  (nat_lit 418, { cls := PySem.Value.type "function", data := PySem.Data.func { name := PySem.Str.ofString "from_ntt", qualname := PySem.Str.ofString "Polynomial.from_ntt", params := p418, body := PySem.FuncBody.stmts b418, scope := s418, globals := 3, closure := [], defaults := PySem.Value.none, kwdefaults := PySem.Value.none, pyModule := PySem.Value.str (PySem.Str.ofString "dilithium_py.polynomials.polynomials") 526, code := PySem.Value.ref 417 } }) ::
  (nat_lit 419, { cls := PySem.Value.type "tuple", data := PySem.Data.seq #[] }) ::
  (nat_lit 421, { cls := PySem.Value.type "tuple", data := PySem.Data.seq #[PySem.Value.str (PySem.Str.ofString "self") 717, PySem.Value.str (PySem.Str.ofString "d") 718] }) ::
  (nat_lit 422, { cls := PySem.Value.type "tuple", data := PySem.Data.seq #[] }) ::
  (nat_lit 424, { cls := PySem.Value.type "code", data := PySem.Data.fields #[PySem.Value.str (PySem.Str.ofString "power_2_round") 714, PySem.Value.str (PySem.Str.ofString "Polynomial.power_2_round") 715, PySem.Value.str (PySem.Str.ofString "/claim/cut.py") 716, PySem.Value.int 275 0, PySem.Value.int 2 0, PySem.Value.int 0 0, PySem.Value.int 0 0, PySem.Value.int 3 0, PySem.Value.ref 419, PySem.Value.bool Bool.true, PySem.Value.int 181 0, PySem.Value.ref 420, PySem.Value.none, PySem.Value.ref 421, PySem.Value.ref 422, PySem.Value.ref 423, PySem.Value.int 719 0, PySem.Value.int 275 0, PySem.Value.str (PySem.Str.ofString "/claim/cut.py") 720] }) ::
  (nat_lit 425, { cls := PySem.Value.type "function", data := PySem.Data.func { name := PySem.Str.ofString "power_2_round", qualname := PySem.Str.ofString "Polynomial.power_2_round", params := p425, body := PySem.FuncBody.stmts b425, scope := s425, globals := 3, closure := [], defaults := PySem.Value.none, kwdefaults := PySem.Value.none, pyModule := PySem.Value.str (PySem.Str.ofString "dilithium_py.polynomials.polynomials") 526, code := PySem.Value.ref 424 } }) ::
  (nat_lit 426, { cls := PySem.Value.type "tuple", data := PySem.Data.seq #[PySem.Value.bool Bool.false] }) ::
  (nat_lit 427, { cls := PySem.Value.type "tuple", data := PySem.Data.seq #[] }) ::
  (nat_lit 429, { cls := PySem.Value.type "tuple", data := PySem.Data.seq #[PySem.Value.str (PySem.Str.ofString "self") 725, PySem.Value.str (PySem.Str.ofString "alpha") 726, PySem.Value.str (PySem.Str.ofString "is_ntt") 727] }) ::
  (nat_lit 430, { cls := PySem.Value.type "tuple", data := PySem.Data.seq #[] }) ::
  (nat_lit 432, { cls := PySem.Value.type "code", data := PySem.Data.fields #[PySem.Value.str (PySem.Str.ofString "high_bits") 722, PySem.Value.str (PySem.Str.ofString "Polynomial.high_bits") 723, PySem.Value.str (PySem.Str.ofString "/claim/cut.py") 724, PySem.Value.int 278 0, PySem.Value.int 3 0, PySem.Value.int 0 0, PySem.Value.int 0 0, PySem.Value.int 3 0, PySem.Value.ref 427, PySem.Value.bool Bool.true, PySem.Value.int 181 0, PySem.Value.ref 428, PySem.Value.none, PySem.Value.ref 429, PySem.Value.ref 430, PySem.Value.ref 431, PySem.Value.int 728 0, PySem.Value.int 278 0, PySem.Value.str (PySem.Str.ofString "/claim/cut.py") 729] }) ::
  (nat_lit 433, { cls := PySem.Value.type "function", data := PySem.Data.func { name := PySem.Str.ofString "high_bits", qualname := PySem.Str.ofString "Polynomial.high_bits", params := p433, body := PySem.FuncBody.stmts b433, scope := s433, globals := 3, closure := [], defaults := PySem.Value.ref 426, kwdefaults := PySem.Value.none, pyModule := PySem.Value.str (PySem.Str.ofString "dilithium_py.polynomials.polynomials") 526, code := PySem.Value.ref 432 } }) ::
  (nat_lit 434, { cls := PySem.Value.type "tuple", data := PySem.Data.seq #[PySem.Value.bool Bool.false] }) ::
  (nat_lit 435, { cls := PySem.Value.type "tuple", data := PySem.Data.seq #[] }) ::
  (nat_lit 437, { cls := PySem.Value.type "tuple", data := PySem.Data.seq #[PySem.Value.str (PySem.Str.ofString "self") 734, PySem.Value.str (PySem.Str.ofString "alpha") 735, PySem.Value.str (PySem.Str.ofString "is_ntt") 736] }) ::
  (nat_lit 438, { cls := PySem.Value.type "tuple", data := PySem.Data.seq #[] }) ::
  (nat_lit 440, { cls := PySem.Value.type "code", data := PySem.Data.fields #[PySem.Value.str (PySem.Str.ofString "low_bits") 731, PySem.Value.str (PySem.Str.ofString "Polynomial.low_bits") 732, PySem.Value.str (PySem.Str.ofString "/claim/cut.py") 733, PySem.Value.int 281 0, PySem.Value.int 3 0, PySem.Value.int 0 0, PySem.Value.int 0 0, PySem.Value.int 3 0, PySem.Value.ref 435, PySem.Value.bool Bool.true, PySem.Value.int 181 0, PySem.Value.ref 436, PySem.Value.none, PySem.Value.ref 437, PySem.Value.ref 438, PySem.Value.ref 439, PySem.Value.int 737 0, PySem.Value.int 281 0, PySem.Value.str (PySem.Str.ofString "/claim/cut.py") 738] }) ::
  (nat_lit 441, { cls := PySem.Value.type "function", data := PySem.Data.func { name := PySem.Str.ofString "low_bits", qualname := PySem.Str.ofString "Polynomial.low_bits", params := p441, body := PySem.FuncBody.stmts b441, scope := s441, globals := 3, closure := [], defaults := PySem.Value.ref 434, kwdefaults := PySem.Value.none, pyModule := PySem.Value.str (PySem.Str.ofString "dilithium_py.polynomials.polynomials") 526, code := PySem.Value.ref 440 } }) ::
  (nat_lit 442, { cls := PySem.Value.type "tuple", data := PySem.Data.seq #[] }) ::
  (nat_lit 444, { cls := PySem.Value.type "tuple", data := PySem.Data.seq #[PySem.Value.str (PySem.Str.ofString "self") 744, PySem.Value.str (PySem.Str.ofString "alpha") 745] }) ::
  (nat_lit 445, { cls := PySem.Value.type "tuple", data := PySem.Data.seq #[] }) ::
  (nat_lit 447, { cls := PySem.Value.type "code", data := PySem.Data.fields #[PySem.Value.str (PySem.Str.ofString "decompose") 741, PySem.Value.str (PySem.Str.ofString "Polynomial.decompose") 742, PySem.Value.str (PySem.Str.ofString "/claim/cut.py") 743, PySem.Value.int 285 0, PySem.Value.int 2 0, PySem.Value.int 0 0, PySem.Value.int 0 0, PySem.Value.int 3 0, PySem.Value.ref 442, PySem.Value.bool Bool.true, PySem.Value.int 181 0, PySem.Value.ref 443, PySem.Value.none, PySem.Value.ref 444, PySem.Value.ref 445, PySem.Value.ref 446, PySem.Value.int 746 0, PySem.Value.int 285 0, PySem.Value.str (PySem.Str.ofString "/claim/cut.py") 747] }) ::
  (nat_lit 448, { cls := PySem.Value.type "function", data := PySem.Data.func { name := PySem.Str.ofString "decompose", qualname := PySem.Str.ofString "Polynomial.decompose", params := p448, body := PySem.FuncBody.stmts b448, scope := s448, globals := 3, closure := [], defaults := PySem.Value.none, kwdefaults := PySem.Value.none, pyModule := PySem.Value.str (PySem.Str.ofString "dilithium_py.polynomials.polynomials") 526, code := PySem.Value.ref 447 } }) ::
  (nat_lit 449, { cls := PySem.Value.type "tuple", data := PySem.Data.seq #[] }) ::
  (nat_lit 451, { cls := PySem.Value.type "tuple", data := PySem.Data.seq #[PySem.Value.str (PySem.Str.ofString "self") 752, PySem.Value.str (PySem.Str.ofString "bound") 753] }) ::
  (nat_lit 452, { cls := PySem.Value.type "tuple", data := PySem.Data.seq #[] }) ::
  (nat_lit 454, { cls := PySem.Value.type "code", data := PySem.Data.fields #[PySem.Value.str (PySem.Str.ofString "check_norm_bound") 749, PySem.Value.str (PySem.Str.ofString "Polynomial.check_norm_bound") 750, PySem.Value.str (PySem.Str.ofString "/claim/cut.py") 751, PySem.Value.int 288 0, PySem.Value.int 2 0, PySem.Value.int 0 0, PySem.Value.int 0 0, PySem.Value.int 3 0, PySem.Value.ref 449, PySem.Value.bool Bool.true, PySem.Value.int 181 0, PySem.Value.ref 450, PySem.Value.none, PySem.Value.ref 451, PySem.Value.ref 452, PySem.Value.ref 453, PySem.Value.int 754 0, PySem.Value.int 288 0, PySem.Value.str (PySem.Str.ofString "/claim/cut.py") 755] }) ::
  (nat_lit 455, { cls := PySem.Value.type "function", data := PySem.Data.func { name := PySem.Str.ofString "check_norm_bound", qualname := PySem.Str.ofString "Polynomial.check_norm_bound", params := p455, body := PySem.FuncBody.stmts b455, scope := s455, globals := 3, closure := [], defaults := PySem.Value.none, kwdefaults := PySem.Value.none, pyModule := PySem.Value.str (PySem.Str.ofString "dilithium_py.polynomials.polynomials") 526, code := PySem.Value.ref 454 } }) ::
  (nat_lit 456, { cls := PySem.Value.type "tuple", data := PySem.Data.seq #[] }) ::
  (nat_lit 458, { cls := PySem.Value.type "tuple", data := PySem.Data.seq #[PySem.Value.str (PySem.Str.ofString "coeffs") 761, PySem.Value.str (PySem.Str.ofString "n_bits") 762, PySem.Value.str (PySem.Str.ofString "n_bytes") 763] }) ::
  (nat_lit 459, { cls := PySem.Value.type "tuple", data := PySem.Data.seq #[] }) ::
  (nat_lit 461, { cls := PySem.Value.type "code", data := PySem.Data.fields #[PySem.Value.str (PySem.Str.ofString "_bit_pack") 758, PySem.Value.str (PySem.Str.ofString "Polynomial._bit_pack") 759, PySem.Value.str (PySem.Str.ofString "/claim/cut.py") 760, PySem.Value.int 292 0, PySem.Value.int 3 0, PySem.Value.int 0 0, PySem.Value.int 0 0, PySem.Value.int 3 0, PySem.Value.ref 456, PySem.Value.bool Bool.true, PySem.Value.int 181 0, PySem.Value.ref 457, PySem.Value.none, PySem.Value.ref 458, PySem.Value.ref 459, PySem.Value.ref 460, PySem.Value.int 764 0, PySem.Value.int 292 0, PySem.Value.str (PySem.Str.ofString "/claim/cut.py") 765] }) ::
  (nat_lit 462, { cls := PySem.Value.type "function", data := PySem.Data.func { name := PySem.Str.ofString "_bit_pack", qualname := PySem.Str.ofString "Polynomial._bit_pack", params := p462, body := PySem.FuncBody.stmts b462, scope := s462, globals := 3, closure := [], defaults := PySem.Value.none, kwdefaults := PySem.Value.none, pyModule := PySem.Value.str (PySem.Str.ofString "dilithium_py.polynomials.polynomials") 526, annotations := Option.some 465, code := PySem.Value.ref 461 } }) ::
  (nat_lit 463, { cls := PySem.Value.type "dict", data := PySem.Data.dict #[{ hash := PySem.PyData.keyHash P (PySem.Str.ofString "__module__"), key := PySem.Value.str (PySem.Str.ofString "__module__") 767, val := PySem.Value.str (PySem.Str.ofString "dilithium_py.polynomials.polynomials") 526 }, { hash := PySem.PyData.keyHash P (PySem.Str.ofString "__name__"), key := PySem.Value.str (PySem.Str.ofString "__name__") 770, val := PySem.Value.str (PySem.Str.ofString "_bit_pack") 769 }, { hash := PySem.PyData.keyHash P (PySem.Str.ofString "__qualname__"), key := PySem.Value.str (PySem.Str.ofString "__qualname__") 773, val := PySem.Value.str (PySem.Str.ofString "Polynomial._bit_pack") 772 }, { hash := PySem.PyData.keyHash P (PySem.Str.ofString "__doc__"), key := PySem.Value.str (PySem.Str.ofString "__doc__") 775, val := PySem.Value.none }, { hash := PySem.PyData.keyHash P (PySem.Str.ofString "__annotations__"), key := PySem.Value.str (PySem.Str.ofString "__annotations__") 777, val := PySem.Value.ref 465 }] 5 }) ::
  (nat_lit 464, { cls := PySem.Value.type "staticmethod", dict := Option.some 463, data := PySem.Data.fields #[PySem.Value.ref 462, PySem.Value.bool Bool.false] }) ::
  (nat_lit 465, { cls := PySem.Value.type "dict", data := PySem.Data.dict #[] }) ::
  (nat_lit 466, { cls := PySem.Value.type "tuple", data := PySem.Data.seq #[] }) ::
  (nat_lit 468, { cls := PySem.Value.type "tuple", data := PySem.Data.seq #[PySem.Value.str (PySem.Str.ofString "self") 782] }) ::
  (nat_lit 469, { cls := PySem.Value.type "tuple", data := PySem.Data.seq #[] }) ::
  (nat_lit 471, { cls := PySem.Value.type "code", data := PySem.Data.fields #[PySem.Value.str (PySem.Str.ofString "bit_pack_t0") 779, PySem.Value.str (PySem.Str.ofString "Polynomial.bit_pack_t0") 780, PySem.Value.str (PySem.Str.ofString "/claim/cut.py") 781, PySem.Value.int 296 0, PySem.Value.int 1 0, PySem.Value.int 0 0, PySem.Value.int 0 0, PySem.Value.int 3 0, PySem.Value.ref 466, PySem.Value.bool Bool.true, PySem.Value.int 181 0, PySem.Value.ref 467, PySem.Value.none, PySem.Value.ref 468, PySem.Value.ref 469, PySem.Value.ref 470, PySem.Value.int 783 0, PySem.Value.int 296 0, PySem.Value.str (PySem.Str.ofString "/claim/cut.py") 784] }) ::
  (nat_lit 472, { cls := PySem.Value.type "function", data := PySem.Data.func { name := PySem.Str.ofString "bit_pack_t0", qualname := PySem.Str.ofString "Polynomial.bit_pack_t0", params := p472, body := PySem.FuncBody.stmts b472, scope := s472, globals := 3, closure := [], defaults := PySem.Value.none, kwdefaults := PySem.Value.none, pyModule := PySem.Value.str (PySem.Str.ofString "dilithium_py.polynomials.polynomials") 526, code := PySem.Value.ref 471 } }) ::
  (nat_lit 473, { cls := PySem.Value.type "tuple", data := PySem.Data.seq #[] }) ::
  (nat_lit 475, { cls := PySem.Value.type "tuple", data := PySem.Data.seq #[PySem.Value.str (PySem.Str.ofString "self") 789] }) ::
  (nat_lit 476, { cls := PySem.Value.type "tuple", data := PySem.Data.seq #[] }) ::
  (nat_lit 478, { cls := PySem.Value.type "code", data := PySem.Data.fields #[PySem.Value.str (PySem.Str.ofString "bit_pack_t1") 786, PySem.Value.str (PySem.Str.ofString "Polynomial.bit_pack_t1") 787, PySem.Value.str (PySem.Str.ofString "/claim/cut.py") 788, PySem.Value.int 299 0, PySem.Value.int 1 0, PySem.Value.int 0 0, PySem.Value.int 0 0, PySem.Value.int 3 0, PySem.Value.ref 473, PySem.Value.bool Bool.true, PySem.Value.int 181 0, PySem.Value.ref 474, PySem.Value.none, PySem.Value.ref 475, PySem.Value.ref 476, PySem.Value.ref 477, PySem.Value.int 790 0, PySem.Value.int 299 0, PySem.Value.str (PySem.Str.ofString "/claim/cut.py") 791] }) ::
  (nat_lit 479, { cls := PySem.Value.type "function", data := PySem.Data.func { name := PySem.Str.ofString "bit_pack_t1", qualname := PySem.Str.ofString "Polynomial.bit_pack_t1", params := p479, body := PySem.FuncBody.stmts b479, scope := s479, globals := 3, closure := [], defaults := PySem.Value.none, kwdefaults := PySem.Value.none, pyModule := PySem.Value.str (PySem.Str.ofString "dilithium_py.polynomials.polynomials") 526, code := PySem.Value.ref 478 } }) ::
  (nat_lit 480, { cls := PySem.Value.type "tuple", data := PySem.Data.seq #[] }) ::
  (nat_lit 482, { cls := PySem.Value.type "tuple", data := PySem.Data.seq #[PySem.Value.str (PySem.Str.ofString "self") 796, PySem.Value.str (PySem.Str.ofString "eta") 797] }) ::
  (nat_lit 483, { cls := PySem.Value.type "tuple", data := PySem.Data.seq #[] }) ::
  (nat_lit 485, { cls := PySem.Value.type "code", data := PySem.Data.fields #[PySem.Value.str (PySem.Str.ofString "bit_pack_s") 793, PySem.Value.str (PySem.Str.ofString "Polynomial.bit_pack_s") 794, PySem.Value.str (PySem.Str.ofString "/claim/cut.py") 795, PySem.Value.int 302 0, PySem.Value.int 2 0, PySem.Value.int 0 0, PySem.Value.int 0 0, PySem.Value.int 3 0, PySem.Value.ref 480, PySem.Value.bool Bool.true, PySem.Value.int 181 0, PySem.Value.ref 481, PySem.Value.none, PySem.Value.ref 482, PySem.Value.ref 483, PySem.Value.ref 484, PySem.Value.int 798 0, PySem.Value.int 302 0, PySem.Value.str (PySem.Str.ofString "/claim/cut.py") 799] }) ::
  (nat_lit 486, { cls := PySem.Value.type "function", data := PySem.Data.func { name := PySem.Str.ofString "bit_pack_s", qualname := PySem.Str.ofString "Polynomial.bit_pack_s", params := p486, body := PySem.FuncBody.stmts b486, scope := s486, globals := 3, closure := [], defaults := PySem.Value.none, kwdefaults := PySem.Value.none, pyModule := PySem.Value.str (PySem.Str.ofString "dilithium_py.polynomials.polynomials") 526, code := PySem.Value.ref 485 } }) ::
  (nat_lit 487, { cls := PySem.Value.type "tuple", data := PySem.Data.seq #[] }) ::
  (nat_lit 489, { cls := PySem.Value.type "tuple", data := PySem.Data.seq #[PySem.Value.str (PySem.Str.ofString "self") 804, PySem.Value.str (PySem.Str.ofString "gamma_2") 805] }) ::
  (nat_lit 490, { cls := PySem.Value.type "tuple", data := PySem.Data.seq #[] }) ::
  (nat_lit 492, { cls := PySem.Value.type "code", data := PySem.Data.fields #[PySem.Value.str (PySem.Str.ofString "bit_pack_w") 801, PySem.Value.str (PySem.Str.ofString "Polynomial.bit_pack_w") 802, PySem.Value.str (PySem.Str.ofString "/claim/cut.py") 803, PySem.Value.int 305 0, PySem.Value.int 2 0, PySem.Value.int 0 0, PySem.Value.int 0 0, PySem.Value.int 3 0, PySem.Value.ref 487, PySem.Value.bool Bool.true, PySem.Value.int 181 0, PySem.Value.ref 488, PySem.Value.none, PySem.Value.ref 489, PySem.Value.ref 490, PySem.Value.ref 491, PySem.Value.int 806 0, PySem.Value.int 305 0, PySem.Value.str (PySem.Str.ofString "/claim/cut.py") 807] }) ::
  (nat_lit 493, { cls := PySem.Value.type "function", data := PySem.Data.func { name := PySem.Str.ofString "bit_pack_w", qualname := PySem.Str.ofString "Polynomial.bit_pack_w", params := p493, body := PySem.FuncBody.stmts b493, scope := s493, globals := 3, closure := [], defaults := PySem.Value.none, kwdefaults := PySem.Value.none, pyModule := PySem.Value.str (PySem.Str.ofString "dilithium_py.polynomials.polynomials") 526, code := PySem.Value.ref 492 } }) ::
  (nat_lit 494, { cls := PySem.Value.type "tuple", data := PySem.Data.seq #[] }) ::
  (nat_lit 496, { cls := PySem.Value.type "tuple", data := PySem.Data.seq #[PySem.Value.str (PySem.Str.ofString "self") 812, PySem.Value.str (PySem.Str.ofString "gamma_1") 813] }) ::
  (nat_lit 497, { cls := PySem.Value.type "tuple", data := PySem.Data.seq #[] }) ::
  (nat_lit 499, { cls := PySem.Value.type "code", data := PySem.Data.fields #[PySem.Value.str (PySem.Str.ofString "bit_pack_z") 809, PySem.Value.str (PySem.Str.ofString "Polynomial.bit_pack_z") 810, PySem.Value.str (PySem.Str.ofString "/claim/cut.py") 811, PySem.Value.int 308 0, PySem.Value.int 2 0, PySem.Value.int 0 0, PySem.Value.int 0 0, PySem.Value.int 3 0, PySem.Value.ref 494, PySem.Value.bool Bool.true, PySem.Value.int 181 0, PySem.Value.ref 495, PySem.Value.none, PySem.Value.ref 496, PySem.Value.ref 497, PySem.Value.ref 498, PySem.Value.int 814 0, PySem.Value.int 308 0, PySem.Value.str (PySem.Str.ofString "/claim/cut.py") 815] }) ::
  (nat_lit 500, { cls := PySem.Value.type "function", data := PySem.Data.func { name := PySem.Str.ofString "bit_pack_z", qualname := PySem.Str.ofString "Polynomial.bit_pack_z", params := p500, body := PySem.FuncBody.stmts b500, scope := s500, globals := 3, closure := [], defaults := PySem.Value.none, kwdefaults := PySem.Value.none, pyModule := PySem.Value.str (PySem.Str.ofString "dilithium_py.polynomials.polynomials") 526, code := PySem.Value.ref 499 } }) ::
  (nat_lit 501, { cls := PySem.Value.type "tuple", data := PySem.Data.seq #[] }) ::
  (nat_lit 503, { cls := PySem.Value.type "tuple", data := PySem.Data.seq #[PySem.Value.str (PySem.Str.ofString "self") 820, PySem.Value.str (PySem.Str.ofString "other") 821, PySem.Value.str (PySem.Str.ofString "alpha") 822] }) ::
  (nat_lit 504, { cls := PySem.Value.type "tuple", data := PySem.Data.seq #[] }) ::
  (nat_lit 506, { cls := PySem.Value.type "code", data := PySem.Data.fields #[PySem.Value.str (PySem.Str.ofString "make_hint") 817, PySem.Value.str (PySem.Str.ofString "Polynomial.make_hint") 818, PySem.Value.str (PySem.Str.ofString "/claim/cut.py") 819, PySem.Value.int 311 0, PySem.Value.int 3 0, PySem.Value.int 0 0, PySem.Value.int 0 0, PySem.Value.int 3 0, PySem.Value.ref 501, PySem.Value.bool Bool.true, PySem.Value.int 181 0, PySem.Value.ref 502, PySem.Value.none, PySem.Value.ref 503, PySem.Value.ref 504, PySem.Value.ref 505, PySem.Value.int 823 0, PySem.Value.int 311 0, PySem.Value.str (PySem.Str.ofString "/claim/cut.py") 824] }) ::
  (nat_lit 507, { cls := PySem.Value.type "function", data := PySem.Data.func { name := PySem.Str.ofString "make_hint", qualname := PySem.Str.ofString "Polynomial.make_hint", params := p507, body := PySem.FuncBody.stmts b507, scope := s507, globals := 3, closure := [], defaults := PySem.Value.none, kwdefaults := PySem.Value.none, pyModule := PySem.Value.str (PySem.Str.ofString "dilithium_py.polynomials.polynomials") 526, code := PySem.Value.ref 506 } }) ::
  (nat_lit 508, { cls := PySem.Value.type "tuple", data := PySem.Data.seq #[] }) ::
  (nat_lit 510, { cls := PySem.Value.type "tuple", data := PySem.Data.seq #[PySem.Value.str (PySem.Str.ofString "self") 829, PySem.Value.str (PySem.Str.ofString "other") 830, PySem.Value.str (PySem.Str.ofString "alpha") 831] }) ::
  (nat_lit 511, { cls := PySem.Value.type "tuple", data := PySem.Data.seq #[] }) ::
  (nat_lit 513, { cls := PySem.Value.type "code", data := PySem.Data.fields #[PySem.Value.str (PySem.Str.ofString "make_hint_optimised") 826, PySem.Value.str (PySem.Str.ofString "Polynomial.make_hint_optimised") 827, PySem.Value.str (PySem.Str.ofString "/claim/cut.py") 828, PySem.Value.int 314 0, PySem.Value.int 3 0, PySem.Value.int 0 0, PySem.Value.int 0 0, PySem.Value.int 3 0, PySem.Value.ref 508, PySem.Value.bool Bool.true, PySem.Value.int 181 0, PySem.Value.ref 509, PySem.Value.none, PySem.Value.ref 510, PySem.Value.ref 511, PySem.Value.ref 512, PySem.Value.int 832 0, PySem.Value.int 314 0, PySem.Value.str (PySem.Str.ofString "/claim/cut.py") 833] }) ::
  (nat_lit 514, { cls := PySem.Value.type "function", data := PySem.Data.func { name := PySem.Str.ofString "make_hint_optimised", qualname := PySem.Str.ofString "Polynomial.make_hint_optimised", params := p514, body := PySem.FuncBody.stmts b514, scope := s514, globals := 3, closure := [], defaults := PySem.Value.none, kwdefaults := PySem.Value.none, pyModule := PySem.Value.str (PySem.Str.ofString "dilithium_py.polynomials.polynomials") 526, code := PySem.Value.ref 513 } }) ::
  (nat_lit 515, { cls := PySem.Value.type "tuple", data := PySem.Data.seq #[] }) ::
  (nat_lit 517, { cls := PySem.Value.type "tuple", data := PySem.Data.seq #[PySem.Value.str (PySem.Str.ofString "self") 838, PySem.Value.str (PySem.Str.ofString "other") 839, PySem.Value.str (PySem.Str.ofString "alpha") 840] }) ::
  (nat_lit 518, { cls := PySem.Value.type "tuple", data := PySem.Data.seq #[] }) ::
  (nat_lit 520, { cls := PySem.Value.type "code", data := PySem.Data.fields #[PySem.Value.str (PySem.Str.ofString "use_hint") 835, PySem.Value.str (PySem.Str.ofString "Polynomial.use_hint") 836, PySem.Value.str (PySem.Str.ofString "/claim/cut.py") 837, PySem.Value.int 317 0, PySem.Value.int 3 0, PySem.Value.int 0 0, PySem.Value.int 0 0, PySem.Value.int 3 0, PySem.Value.ref 515, PySem.Value.bool Bool.true, PySem.Value.int 181 0, PySem.Value.ref 516, PySem.Value.none, PySem.Value.ref 517, PySem.Value.ref 518, PySem.Value.ref 519, PySem.Value.int 841 0, PySem.Value.int 317 0, PySem.Value.str (PySem.Str.ofString "/claim/cut.py") 842] }) ::
  (nat_lit 521, { cls := PySem.Value.type "function", data := PySem.Data.func { name := PySem.Str.ofString "use_hint", qualname := PySem.Str.ofString "Polynomial.use_hint", params := p521, body := PySem.FuncBody.stmts b521, scope := s521, globals := 3, closure := [], defaults := PySem.Value.none, kwdefaults := PySem.Value.none, pyModule := PySem.Value.str (PySem.Str.ofString "dilithium_py.polynomials.polynomials") 526, code := PySem.Value.ref 520 } }) ::
  (nat_lit 522, { cls := PySem.Value.type "tuple", data := PySem.Data.seq #[PySem.Value.str (PySem.Str.ofString "coeffs") 844, PySem.Value.str (PySem.Str.ofString "parent") 845] }) ::
  (nat_lit 523, { cls := PySem.Value.type "dict", data := PySem.Data.dict #[{ hash := PySem.PyData.keyHash P (PySem.Str.ofString "__module__"), key := PySem.Value.str (PySem.Str.ofString "__module__") 686, val := PySem.Value.str (PySem.Str.ofString "dilithium_py.polynomials.polynomials") 526 }, { hash := PySem.PyData.keyHash P (PySem.Str.ofString "__firstlineno__"), key := PySem.Value.str (PySem.Str.ofString "__firstlineno__") 690, val := PySem.Value.int 263 689 }, { hash := PySem.PyData.keyHash P (PySem.Str.ofString "__init__"), key := PySem.Value.str (PySem.Str.ofString "__init__") 699, val := PySem.Value.ref 404 }, { hash := PySem.PyData.keyHash P (PySem.Str.ofString "to_ntt"), key := PySem.Value.str (PySem.Str.ofString "to_ntt") 706, val := PySem.Value.ref 411 }, { hash := PySem.PyData.keyHash P (PySem.Str.ofString "from_ntt"), key := PySem.Value.str (PySem.Str.ofString "from_ntt") 713, val := PySem.Value.ref 418 }, { hash := PySem.PyData.keyHash P (PySem.Str.ofString "power_2_round"), key := PySem.Value.str (PySem.Str.ofString "power_2_round") 721, val := PySem.Value.ref 425 }, { hash := PySem.PyData.keyHash P (PySem.Str.ofString "high_bits"), key := PySem.Value.str (PySem.Str.ofString "high_bits") 730, val := PySem.Value.ref 433 }, { hash := PySem.PyData.keyHash P (PySem.Str.ofString "low_bits"), key := PySem.Value.str (PySem.Str.ofString "low_bits") 739, val := PySem.Value.ref 441 }, { hash := PySem.PyData.keyHash P (PySem.Str.ofString "decompose"), key := PySem.Value.str (PySem.Str.ofString "decompose") 748, val := PySem.Value.ref 448 }, { hash := PySem.PyData.keyHash P (PySem.Str.ofString "check_norm_bound"), key := PySem.Value.str (PySem.Str.ofString "check_norm_bound") 756, val := PySem.Value.ref 455 }, { hash := PySem.PyData.keyHash P (PySem.Str.ofString "_bit_pack"), key := PySem.Value.str (PySem.Str.ofString "_bit_pack") 778, val := PySem.Value.ref 464 }, { hash := PySem.PyData.keyHash P (PySem.Str.ofString "bit_pack_t0"), key := PySem.Value.str (PySem.Str.ofString "bit_pack_t0") 785, val := PySem.Value.ref 472 }, { hash := PySem.PyData.keyHash P (PySem.Str.ofString "bit_pack_t1"), key := PySem.Value.str (PySem.Str.ofString "bit_pack_t1") 792, val := PySem.Value.ref 479 }, { hash := PySem.PyData.keyHash P (PySem.Str.ofString "bit_pack_s"), key := PySem.Value.str (PySem.Str.ofString "bit_pack_s") 800, val := PySem.Value.ref 486 }, { hash := PySem.PyData.keyHash P (PySem.Str.ofString "bit_pack_w"), key := PySem.Value.str (PySem.Str.ofString "bit_pack_w") 808, val := PySem.Value.ref 493 }, { hash := PySem.PyData.keyHash P (PySem.Str.ofString "bit_pack_z"), key := PySem.Value.str (PySem.Str.ofString "bit_pack_z") 816, val := PySem.Value.ref 500 }, { hash := PySem.PyData.keyHash P (PySem.Str.ofString "make_hint"), key := PySem.Value.str (PySem.Str.ofString "make_hint") 825, val := PySem.Value.ref 507 }, { hash := PySem.PyData.keyHash P (PySem.Str.ofString "make_hint_optimised"), key := PySem.Value.str (PySem.Str.ofString "make_hint_optimised") 834, val := PySem.Value.ref 514 }, { hash := PySem.PyData.keyHash P (PySem.Str.ofString "use_hint"), key := PySem.Value.str (PySem.Str.ofString "use_hint") 843, val := PySem.Value.ref 521 }, { hash := PySem.PyData.keyHash P (PySem.Str.ofString "__static_attributes__"), key := PySem.Value.str (PySem.Str.ofString "__static_attributes__") 846, val := PySem.Value.ref 522 }, { hash := PySem.PyData.keyHash P (PySem.Str.ofString "__doc__"), key := PySem.Value.str (PySem.Str.ofString "__doc__") 847, val := PySem.Value.none }] 2 }) ::
  (nat_lit 524, { cls := PySem.Value.type "type", data := PySem.Data.cls { name := PySem.Str.ofString "Polynomial", bases := [PySem.Value.ref 229], mro := [PySem.Value.ref 524, PySem.Value.ref 229, PySem.Value.type "object"], ns := 523, qualname := PySem.Str.ofString "Polynomial", subclasses := [PySem.Value.ref 588] }, slots := #[Option.some (PySem.Value.ref 391), Option.none, Option.some (PySem.Value.str (PySem.Str.ofString "Polynomial") 679), Option.some (PySem.Value.str (PySem.Str.ofString "Polynomial") 687), Option.some (PySem.Value.builtin "object.__new__"), Option.some (PySem.Value.bool Bool.true)] }) ::
  (nat_lit 527, { cls := PySem.Value.type "tuple", data := PySem.Data.seq #[PySem.Value.ref 524] }) ::
  (nat_lit 534, { cls := PySem.Value.type "tuple", data := PySem.Data.seq #[] }) ::
  (nat_lit 536, { cls := PySem.Value.type "tuple", data := PySem.Data.seq #[PySem.Value.str (PySem.Str.ofString "self") 865, PySem.Value.str (PySem.Str.ofString "parent") 866, PySem.Value.str (PySem.Str.ofString "coefficients") 867] }) ::
  (nat_lit 537, { cls := PySem.Value.type "tuple", data := PySem.Data.seq #[] }) ::
  (nat_lit 539, { cls := PySem.Value.type "code", data := PySem.Data.fields #[PySem.Value.str (PySem.Str.ofString "__init__") 862, PySem.Value.str (PySem.Str.ofString "PolynomialNTT.__init__") 863, PySem.Value.str (PySem.Str.ofString "/claim/cut.py") 864, PySem.Value.int 321 0, PySem.Value.int 3 0, PySem.Value.int 0 0, PySem.Value.int 0 0, PySem.Value.int 3 0, PySem.Value.ref 534, PySem.Value.bool Bool.true, PySem.Value.int 181 0, PySem.Value.ref 535, PySem.Value.none, PySem.Value.ref 536, PySem.Value.ref 537, PySem.Value.ref 538, PySem.Value.int 868 0, PySem.Value.int 321 0, PySem.Value.str (PySem.Str.ofString "/claim/cut.py") 869] }) ::
  (nat_lit 540, { cls := PySem.Value.type "function", data := PySem.Data.func { name := PySem.Str.ofString "__init__", qualname := PySem.Str.ofString "PolynomialNTT.__init__", params := p540, body := PySem.FuncBody.stmts b540, scope := s540, globals := 3, closure := [], defaults := PySem.Value.none, kwdefaults := PySem.Value.none, pyModule := PySem.Value.str (PySem.Str.ofString "dilithium_py.polynomials.polynomials") 526, code := PySem.Value.ref 539 } }) ::
  (nat_lit 541, { cls := PySem.Value.type "tuple", data := PySem.Data.seq #[] }) ::
  (nat_lit 543, { cls := PySem.Value.type "tuple", data := PySem.Data.seq #[PySem.Value.str (PySem.Str.ofString "self") 874] }) ::
  (nat_lit 544, { cls := PySem.Value.type "tuple", data := PySem.Data.seq #[] }) ::
  (nat_lit 546, { cls := PySem.Value.type "code", data := PySem.Data.fields #[PySem.Value.str (PySem.Str.ofString "to_ntt") 871, PySem.Value.str (PySem.Str.ofString "PolynomialNTT.to_ntt") 872, PySem.Value.str (PySem.Str.ofString "/claim/cut.py") 873, PySem.Value.int 325 0, PySem.Value.int 1 0, PySem.Value.int 0 0, PySem.Value.int 0 0, PySem.Value.int 3 0, PySem.Value.ref 541, PySem.Value.bool Bool.true, PySem.Value.int 181 0, PySem.Value.ref 542, PySem.Value.none, PySem.Value.ref 543, PySem.Value.ref 544, PySem.Value.ref 545, PySem.Value.int 875 0, PySem.Value.int 325 0, PySem.Value.str (PySem.Str.ofString "/claim/cut.py") 876] }) ::
  (nat_lit 547, { cls := PySem.Value.type "function", data := PySem.Data.func { name := PySem.Str.ofString "to_ntt", qualname := PySem.Str.ofString "PolynomialNTT.to_ntt", params := p547, body := PySem.FuncBody.stmts b547, scope := s547, globals := 3, closure := [], defaults := PySem.Value.none, kwdefaults := PySem.Value.none, pyModule := PySem.Value.str (PySem.Str.ofString "dilithium_py.polynomials.polynomials") 526, code := PySem.Value.ref 546 } }) ::
  (nat_lit 548, { cls := PySem.Value.type "tuple", data := PySem.Data.seq #[] }) ::
  (nat_lit 550, { cls := PySem.Value.type "tuple", data := PySem.Data.seq #[PySem.Value.str (PySem.Str.ofString "self") 881] }) ::
  (nat_lit 551, { cls := PySem.Value.type "tuple", data := PySem.Data.seq #[] }) ::
  (nat_lit 553, { cls := PySem.Value.type "code", data := PySem.Data.fields #[PySem.Value.str (PySem.Str.ofString "from_ntt") 878, PySem.Value.str (PySem.Str.ofString "PolynomialNTT.from_ntt") 879, PySem.Value.str (PySem.Str.ofString "/claim/cut.py") 880, PySem.Value.int 328 0, PySem.Value.int 1 0, PySem.Value.int 0 0, PySem.Value.int 0 0, PySem.Value.int 3 0, PySem.Value.ref 548, PySem.Value.bool Bool.true, PySem.Value.int 181 0, PySem.Value.ref 549, PySem.Value.none, PySem.Value.ref 550, PySem.Value.ref 551, PySem.Value.ref 552, PySem.Value.int 882 0, PySem.Value.int 328 0, PySem.Value.str (PySem.Str.ofString "/claim/cut.py") 883] }) ::
  (nat_lit 554, { cls := PySem.Value.type "function", data := PySem.Data.func { name := PySem.Str.ofString "from_ntt", qualname := PySem.Str.ofString "PolynomialNTT.from_ntt", params := p554, body := PySem.FuncBody.stmts b554, scope := s554, globals := 3, closure := [], defaults := PySem.Value.none, kwdefaults := PySem.Value.none, pyModule := PySem.Value.str (PySem.Str.ofString "dilithium_py.polynomials.polynomials") 526, code := PySem.Value.ref 553 } }) ::
  (nat_lit 555, { cls := PySem.Value.type "tuple", data := PySem.Data.seq #[] }) ::
  (nat_lit 558, { cls := PySem.Value.type "code", data := PySem.Data.fields #[PySem.Value.str (PySem.Str.ofString "ntt_coefficient_multiplication") 885, PySem.Value.str (PySem.Str.ofString "PolynomialNTT.ntt_coefficient_multiplication") 886, PySem.Value.str (PySem.Str.ofString "/claim/cut.py") 887, PySem.Value.int 331 0, PySem.Value.int 3 0, PySem.Value.int 0 0, PySem.Value.int 0 0, PySem.Value.int 3 0, PySem.Value.ref 555, PySem.Value.bool Bool.true, PySem.Value.int 181 0, PySem.Value.ref 556, PySem.Value.none, PySem.Value.none, PySem.Value.none, PySem.Value.ref 557, PySem.Value.int 888 0, PySem.Value.int 331 0, PySem.Value.str (PySem.Str.ofString "/claim/cut.py") 889] }) ::
  (nat_lit 559, { cls := PySem.Value.type "function", data := PySem.Data.func { name := PySem.Str.ofString "ntt_coefficient_multiplication", qualname := PySem.Str.ofString "PolynomialNTT.ntt_coefficient_multiplication", params := p559, body := PySem.FuncBody.stmts b559, scope := s559, globals := 3, closure := [], defaults := PySem.Value.none, kwdefaults := PySem.Value.none, pyModule := PySem.Value.str (PySem.Str.ofString "dilithium_py.polynomials.polynomials") 526, code := PySem.Value.ref 558 } }) ::
  (nat_lit 560, { cls := PySem.Value.type "tuple", data := PySem.Data.seq #[] }) ::
  (nat_lit 562, { cls := PySem.Value.type "tuple", data := PySem.Data.seq #[PySem.Value.str (PySem.Str.ofString "self") 894, PySem.Value.str (PySem.Str.ofString "other") 895, PySem.Value.str (PySem.Str.ofString "new_coeffs") 896] }) ::
  (nat_lit 563, { cls := PySem.Value.type "tuple", data := PySem.Data.seq #[] }) ::
  (nat_lit 565, { cls := PySem.Value.type "code", data := PySem.Data.fields #[PySem.Value.str (PySem.Str.ofString "ntt_multiplication") 891, PySem.Value.str (PySem.Str.ofString "PolynomialNTT.ntt_multiplication") 892, PySem.Value.str (PySem.Str.ofString "/claim/cut.py") 893, PySem.Value.int 334 0, PySem.Value.int 2 0, PySem.Value.int 0 0, PySem.Value.int 0 0, PySem.Value.int 3 0, PySem.Value.ref 560, PySem.Value.bool Bool.true, PySem.Value.int 181 0, PySem.Value.ref 561, PySem.Value.none, PySem.Value.ref 562, PySem.Value.ref 563, PySem.Value.ref 564, PySem.Value.int 897 0, PySem.Value.int 334 0, PySem.Value.str (PySem.Str.ofString "/claim/cut.py") 898] }) ::
  (nat_lit 566, { cls := PySem.Value.type "function", data := PySem.Data.func { name := PySem.Str.ofString "ntt_multiplication", qualname := PySem.Str.ofString "PolynomialNTT.ntt_multiplication", params := p566, body := PySem.FuncBody.stmts b566, scope := s566, globals := 3, closure := [], defaults := PySem.Value.none, kwdefaults := PySem.Value.none, pyModule := PySem.Value.str (PySem.Str.ofString "dilithium_py.polynomials.polynomials") 526, code := PySem.Value.ref 565 } }) ::
  (nat_lit 567, { cls := PySem.Value.type "tuple", data := PySem.Data.seq #[] }) ::
  (nat_lit 569, { cls := PySem.Value.type "tuple", data := PySem.Data.seq #[PySem.Value.str (PySem.Str.ofString "self") 903, PySem.Value.str (PySem.Str.ofString "other") 904, PySem.Value.str (PySem.Str.ofString "new_coeffs") 905] }) ::
  (nat_lit 570, { cls := PySem.Value.type "tuple", data := PySem.Data.seq #[] }) ::
  (nat_lit 572, { cls := PySem.Value.type "code", data := PySem.Data.fields #[PySem.Value.str (PySem.Str.ofString "__add__") 900, PySem.Value.str (PySem.Str.ofString "PolynomialNTT.__add__") 901, PySem.Value.str (PySem.Str.ofString "/claim/cut.py") 902, PySem.Value.int 340 0, PySem.Value.int 2 0, PySem.Value.int 0 0, PySem.Value.int 0 0, PySem.Value.int 3 0, PySem.Value.ref 567, PySem.Value.bool Bool.true, PySem.Value.int 181 0, PySem.Value.ref 568, PySem.Value.none, PySem.Value.ref 569, PySem.Value.ref 570, PySem.Value.ref 571, PySem.Value.int 906 0, PySem.Value.int 340 0, PySem.Value.str (PySem.Str.ofString "/claim/cut.py") 907] }) ::
  (nat_lit 573, { cls := PySem.Value.type "function", data := PySem.Data.func { name := PySem.Str.ofString "__add__", qualname := PySem.Str.ofString "PolynomialNTT.__add__", params := p573, body := PySem.FuncBody.stmts b573, scope := s573, globals := 3, closure := [], defaults := PySem.Value.none, kwdefaults := PySem.Value.none, pyModule := PySem.Value.str (PySem.Str.ofString "dilithium_py.polynomials.polynomials") 526, code := PySem.Value.ref 572 } }) ::
  (nat_lit 574, { cls := PySem.Value.type "tuple", data := PySem.Data.seq #[] }) ::
  (nat_lit 576, { cls := PySem.Value.type "tuple", data := PySem.Data.seq #[PySem.Value.str (PySem.Str.ofString "self") 912, PySem.Value.str (PySem.Str.ofString "other") 913, PySem.Value.str (PySem.Str.ofString "new_coeffs") 914] }) ::
  (nat_lit 577, { cls := PySem.Value.type "tuple", data := PySem.Data.seq #[] }) ::
  (nat_lit 579, { cls := PySem.Value.type "code", data := PySem.Data.fields #[PySem.Value.str (PySem.Str.ofString "__sub__") 909, PySem.Value.str (PySem.Str.ofString "PolynomialNTT.__sub__") 910, PySem.Value.str (PySem.Str.ofString "/claim/cut.py") 911, PySem.Value.int 344 0, PySem.Value.int 2 0, PySem.Value.int 0 0, PySem.Value.int 0 0, PySem.Value.int 3 0, PySem.Value.ref 574, PySem.Value.bool Bool.true, PySem.Value.int 181 0, PySem.Value.ref 575, PySem.Value.none, PySem.Value.ref 576, PySem.Value.ref 577, PySem.Value.ref 578, PySem.Value.int 915 0, PySem.Value.int 344 0, PySem.Value.str (PySem.Str.ofString "/claim/cut.py") 916] }) ::
  (nat_lit 580, { cls := PySem.Value.type "function", data := PySem.Data.func { name := PySem.Str.ofString "__sub__", qualname := PySem.Str.ofString "PolynomialNTT.__sub__", params := p580, body := PySem.FuncBody.stmts b580, scope := s580, globals := 3, closure := [], defaults := PySem.Value.none, kwdefaults := PySem.Value.none, pyModule := PySem.Value.str (PySem.Str.ofString "dilithium_py.polynomials.polynomials") 526, code := PySem.Value.ref 579 } }) ::
  (nat_lit 581, { cls := PySem.Value.type "tuple", data := PySem.Data.seq #[] }) ::
  (nat_lit 584, { cls := PySem.Value.type "code", data := PySem.Data.fields #[PySem.Value.str (PySem.Str.ofString "__mul__") 918, PySem.Value.str (PySem.Str.ofString "PolynomialNTT.__mul__") 919, PySem.Value.str (PySem.Str.ofString "/claim/cut.py") 920, PySem.Value.int 348 0, PySem.Value.int 2 0, PySem.Value.int 0 0, PySem.Value.int 0 0, PySem.Value.int 3 0, PySem.Value.ref 581, PySem.Value.bool Bool.true, PySem.Value.int 181 0, PySem.Value.ref 582, PySem.Value.none, PySem.Value.none, PySem.Value.none, PySem.Value.ref 583, PySem.Value.int 921 0, PySem.Value.int 348 0, PySem.Value.str (PySem.Str.ofString "/claim/cut.py") 922] }) ::
  (nat_lit 585, { cls := PySem.Value.type "function", data := PySem.Data.func { name := PySem.Str.ofString "__mul__", qualname := PySem.Str.ofString "PolynomialNTT.__mul__", params := p585, body := PySem.FuncBody.stmts b585, scope := s585, globals := 3, closure := [], defaults := PySem.Value.none, kwdefaults := PySem.Value.none, pyModule := PySem.Value.str (PySem.Str.ofString "dilithium_py.polynomials.polynomials") 526, code := PySem.Value.ref 584 } }) ::
  (nat_lit 586, { cls := PySem.Value.type "tuple", data := PySem.Data.seq #[PySem.Value.str (PySem.Str.ofString "coeffs") 924, PySem.Value.str (PySem.Str.ofString "parent") 925] }) ::
  (nat_lit 587, { cls := PySem.Value.type "dict", data := PySem.Data.dict #[{ hash := PySem.PyData.keyHash P (PySem.Str.ofString "__module__"), key := PySem.Value.str (PySem.Str.ofString "__module__") 857, val := PySem.Value.str (PySem.Str.ofString "dilithium_py.polynomials.polynomials") 526 }, { hash := PySem.PyData.keyHash P (PySem.Str.ofString "__firstlineno__"), key := PySem.Value.str (PySem.Str.ofString "__firstlineno__") 861, val := PySem.Value.int 319 860 }, { hash := PySem.PyData.keyHash P (PySem.Str.ofString "__init__"), key := PySem.Value.str (PySem.Str.ofString "__init__") 870, val := PySem.Value.ref 540 }, { hash := PySem.PyData.keyHash P (PySem.Str.ofString "to_ntt"), key := PySem.Value.str (PySem.Str.ofString "to_ntt") 877, val := PySem.Value.ref 547 }, { hash := PySem.PyData.keyHash P (PySem.Str.ofString "from_ntt"), key := PySem.Value.str (PySem.Str.ofString "from_ntt") 884, val := PySem.Value.ref 554 }, { hash := PySem.PyData.keyHash P (PySem.Str.ofString "ntt_coefficient_multiplication"), key := PySem.Value.str (PySem.Str.ofString "ntt_coefficient_multiplication") 890, val := PySem.Value.ref 559 }, { hash := PySem.PyData.keyHash P (PySem.Str.ofString "ntt_multiplication"), key := PySem.Value.str (PySem.Str.ofString "ntt_multiplication") 899, val := PySem.Value.ref 566 }, { hash := PySem.PyData.keyHash P (PySem.Str.ofString "__add__"), key := PySem.Value.str (PySem.Str.ofString "__add__") 908, val := PySem.Value.ref 573 }, { hash := PySem.PyData.keyHash P (PySem.Str.ofString "__sub__"), key := PySem.Value.str (PySem.Str.ofString "__sub__") 917, val := PySem.Value.ref 580 }, { hash := PySem.PyData.keyHash P (PySem.Str.ofString "__mul__"), key := PySem.Value.str (PySem.Str.ofString "__mul__") 923, val := PySem.Value.ref 585 }, { hash := PySem.PyData.keyHash P (PySem.Str.ofString "__static_attributes__"), key := PySem.Value.str (PySem.Str.ofString "__static_attributes__") 926, val := PySem.Value.ref 586 }, { hash := PySem.PyData.keyHash P (PySem.Str.ofString "__doc__"), key := PySem.Value.str (PySem.Str.ofString "__doc__") 927, val := PySem.Value.none }] 2 }) ::
  (nat_lit 588, { cls := PySem.Value.type "type", data := PySem.Data.cls { name := PySem.Str.ofString "PolynomialNTT", bases := [PySem.Value.ref 524], mro := [PySem.Value.ref 588, PySem.Value.ref 524, PySem.Value.ref 229, PySem.Value.type "object"], ns := 587, qualname := PySem.Str.ofString "PolynomialNTT" }, slots := #[Option.some (PySem.Value.ref 527), Option.none, Option.some (PySem.Value.str (PySem.Str.ofString "PolynomialNTT") 850), Option.some (PySem.Value.str (PySem.Str.ofString "PolynomialNTT") 858), Option.some (PySem.Value.builtin "object.__new__"), Option.some (PySem.Value.bool Bool.true)] }) ::
  (nat_lit 591, { cls := PySem.Value.type "tuple", data := PySem.Data.seq #[] }) ::
  (nat_lit 593, { cls := PySem.Value.type "tuple", data := PySem.Data.seq #[PySem.Value.str (PySem.Str.ofString "script") 935, PySem.Value.str (PySem.Str.ofString "k") 936, PySem.Value.str (PySem.Str.ofString "missing") 937] }) ::
  (nat_lit 594, { cls := PySem.Value.type "tuple", data := PySem.Data.seq #[] }) ::
  (nat_lit 596, { cls := PySem.Value.type "code", data := PySem.Data.fields #[PySem.Value.str (PySem.Str.ofString "_law_number") 932, PySem.Value.str (PySem.Str.ofString "_law_number") 933, PySem.Value.str (PySem.Str.ofString "/claim/cut.py") 934, PySem.Value.int 357 0, PySem.Value.int 3 0, PySem.Value.int 0 0, PySem.Value.int 0 0, PySem.Value.int 3 0, PySem.Value.ref 591, PySem.Value.bool Bool.true, PySem.Value.int 181 0, PySem.Value.ref 592, PySem.Value.none, PySem.Value.ref 593, PySem.Value.ref 594, PySem.Value.ref 595, PySem.Value.int 938 0, PySem.Value.int 357 0, PySem.Value.str (PySem.Str.ofString "/claim/cut.py") 939] }) ::
  (nat_lit 597, { cls := PySem.Value.type "function", data := PySem.Data.func { name := PySem.Str.ofString "_law_number", qualname := PySem.Str.ofString "_law_number", params := p597, body := PySem.FuncBody.stmts b597, scope := s597, globals := 3, closure := [], defaults := PySem.Value.none, kwdefaults := PySem.Value.none, pyModule := PySem.Value.str (PySem.Str.ofString "law_bd0004_02") 930, code := PySem.Value.ref 596 } }) ::
  (nat_lit 598, { cls := PySem.Value.type "tuple", data := PySem.Data.seq #[] }) ::
  (nat_lit 600, { cls := PySem.Value.type "tuple", data := PySem.Data.seq #[PySem.Value.str (PySem.Str.ofString "place") 944, PySem.Value.str (PySem.Str.ofString "seed") 945, PySem.Value.str (PySem.Str.ofString "octets") 946, PySem.Value.str (PySem.Str.ofString "_law_asked") 947, PySem.Value.str (PySem.Str.ofString "_law_unasked") 948] }) ::
  (nat_lit 601, { cls := PySem.Value.type "tuple", data := PySem.Data.seq #[PySem.Value.str (PySem.Str.ofString "seed") 949, PySem.Value.str (PySem.Str.ofString "octets") 950] }) ::
  (nat_lit 603, { cls := PySem.Value.type "code", data := PySem.Data.fields #[PySem.Value.str (PySem.Str.ofString "_law_ring") 941, PySem.Value.str (PySem.Str.ofString "_law_ring") 942, PySem.Value.str (PySem.Str.ofString "/claim/cut.py") 943, PySem.Value.int 359 0, PySem.Value.int 3 0, PySem.Value.int 0 0, PySem.Value.int 0 0, PySem.Value.int 3 0, PySem.Value.ref 598, PySem.Value.bool Bool.true, PySem.Value.int 181 0, PySem.Value.ref 599, PySem.Value.none, PySem.Value.ref 600, PySem.Value.ref 601, PySem.Value.ref 602, PySem.Value.int 951 0, PySem.Value.int 359 0, PySem.Value.str (PySem.Str.ofString "/claim/cut.py") 952] }) ::
  (nat_lit 604, { cls := PySem.Value.type "function", data := PySem.Data.func { name := PySem.Str.ofString "_law_ring", qualname := PySem.Str.ofString "_law_ring", params := p604, body := PySem.FuncBody.stmts b604, scope := s604, globals := 3, closure := [], defaults := PySem.Value.none, kwdefaults := PySem.Value.none, pyModule := PySem.Value.str (PySem.Str.ofString "law_bd0004_02") 930, code := PySem.Value.ref 603 } }) ::
  (nat_lit 605, { cls := PySem.Value.type "tuple", data := PySem.Data.seq #[] }) ::
  (nat_lit 607, { cls := PySem.Value.type "tuple", data := PySem.Data.seq #[PySem.Value.str (PySem.Str.ofString "numbers") 957, PySem.Value.str (PySem.Str.ofString "top") 958, PySem.Value.str (PySem.Str.ofString "octets") 959, PySem.Value.str (PySem.Str.ofString "i") 960, PySem.Value.str (PySem.Str.ofString "n") 961] }) ::
  (nat_lit 608, { cls := PySem.Value.type "tuple", data := PySem.Data.seq #[] }) ::
  (nat_lit 610, { cls := PySem.Value.type "code", data := PySem.Data.fields #[PySem.Value.str (PySem.Str.ofString "_law_groups") 954, PySem.Value.str (PySem.Str.ofString "_law_groups") 955, PySem.Value.str (PySem.Str.ofString "/claim/cut.py") 956, PySem.Value.int 370 0, PySem.Value.int 2 0, PySem.Value.int 0 0, PySem.Value.int 0 0, PySem.Value.int 3 0, PySem.Value.ref 605, PySem.Value.bool Bool.true, PySem.Value.int 181 0, PySem.Value.ref 606, PySem.Value.none, PySem.Value.ref 607, PySem.Value.ref 608, PySem.Value.ref 609, PySem.Value.int 962 0, PySem.Value.int 370 0, PySem.Value.str (PySem.Str.ofString "/claim/cut.py") 963] }) ::
  (nat_lit 611, { cls := PySem.Value.type "function", data := PySem.Data.func { name := PySem.Str.ofString "_law_groups", qualname := PySem.Str.ofString "_law_groups", params := p611, body := PySem.FuncBody.stmts b611, scope := s611, globals := 3, closure := [], defaults := PySem.Value.none, kwdefaults := PySem.Value.none, pyModule := PySem.Value.str (PySem.Str.ofString "law_bd0004_02") 930, code := PySem.Value.ref 610 } }) ::
  (nat_lit 612, { cls := PySem.Value.type "tuple", data := PySem.Data.seq #[] }) ::
  (nat_lit 615, { cls := PySem.Value.type "code", data := PySem.Data.fields #[PySem.Value.str (PySem.Str.ofString "_law_matrix_right") 965, PySem.Value.str (PySem.Str.ofString "_law_matrix_right") 966, PySem.Value.str (PySem.Str.ofString "/claim/cut.py") 967, PySem.Value.int 376 0, PySem.Value.int 2 0, PySem.Value.int 0 0, PySem.Value.int 0 0, PySem.Value.int 3 0, PySem.Value.ref 612, PySem.Value.bool Bool.true, PySem.Value.int 181 0, PySem.Value.ref 613, PySem.Value.none, PySem.Value.none, PySem.Value.none, PySem.Value.ref 614, PySem.Value.int 968 0, PySem.Value.int 376 0, PySem.Value.str (PySem.Str.ofString "/claim/cut.py") 969] }) ::
  (nat_lit 616, { cls := PySem.Value.type "function", data := PySem.Data.func { name := PySem.Str.ofString "_law_matrix_right", qualname := PySem.Str.ofString "_law_matrix_right", params := p616, body := PySem.FuncBody.stmts b616, scope := s616, globals := 3, closure := [], defaults := PySem.Value.none, kwdefaults := PySem.Value.none, pyModule := PySem.Value.str (PySem.Str.ofString "law_bd0004_02") 930, code := PySem.Value.ref 615 } }) ::
  (nat_lit 617, { cls := PySem.Value.type "tuple", data := PySem.Data.seq #[] }) ::
  (nat_lit 620, { cls := PySem.Value.type "code", data := PySem.Data.fields #[PySem.Value.str (PySem.Str.ofString "_law_ball_right") 971, PySem.Value.str (PySem.Str.ofString "_law_ball_right") 972, PySem.Value.str (PySem.Str.ofString "/claim/cut.py") 973, PySem.Value.int 386 0, PySem.Value.int 2 0, PySem.Value.int 0 0, PySem.Value.int 0 0, PySem.Value.int 3 0, PySem.Value.ref 617, PySem.Value.bool Bool.true, PySem.Value.int 181 0, PySem.Value.ref 618, PySem.Value.none, PySem.Value.none, PySem.Value.none, PySem.Value.ref 619, PySem.Value.int 974 0, PySem.Value.int 386 0, PySem.Value.str (PySem.Str.ofString "/claim/cut.py") 975] }) ::
  (nat_lit 621, { cls := PySem.Value.type "function", data := PySem.Data.func { name := PySem.Str.ofString "_law_ball_right", qualname := PySem.Str.ofString "_law_ball_right", params := p621, body := PySem.FuncBody.stmts b621, scope := s621, globals := 3, closure := [], defaults := PySem.Value.none, kwdefaults := PySem.Value.none, pyModule := PySem.Value.str (PySem.Str.ofString "law_bd0004_02") 930, code := PySem.Value.ref 620 } }) ::
  (nat_lit 622, { cls := PySem.Value.type "tuple", data := PySem.Data.seq #[] }) ::
  (nat_lit 624, { cls := PySem.Value.type "tuple", data := PySem.Data.seq #[PySem.Value.str (PySem.Str.ofString "script") 980, PySem.Value.str (PySem.Str.ofString "first") 981] }) ::
  (nat_lit 625, { cls := PySem.Value.type "tuple", data := PySem.Data.seq #[] }) ::
  (nat_lit 627, { cls := PySem.Value.type "code", data := PySem.Data.fields #[PySem.Value.str (PySem.Str.ofString "law") 977, PySem.Value.str (PySem.Str.ofString "law") 978, PySem.Value.str (PySem.Str.ofString "/claim/cut.py") 979, PySem.Value.int 400 0, PySem.Value.int 1 0, PySem.Value.int 0 0, PySem.Value.int 0 0, PySem.Value.int 3 0, PySem.Value.ref 622, PySem.Value.bool Bool.true, PySem.Value.int 181 0, PySem.Value.ref 623, PySem.Value.none, PySem.Value.ref 624, PySem.Value.ref 625, PySem.Value.ref 626, PySem.Value.int 982 0, PySem.Value.int 400 0, PySem.Value.str (PySem.Str.ofString "/claim/cut.py") 983] }) ::
  (nat_lit 628, { cls := PySem.Value.type "function", data := PySem.Data.func { name := PySem.Str.ofString "law", qualname := PySem.Str.ofString "law", params := p628, body := PySem.FuncBody.stmts b628, scope := s628, globals := 3, closure := [], defaults := PySem.Value.none, kwdefaults := PySem.Value.none, pyModule := PySem.Value.str (PySem.Str.ofString "law_bd0004_02") 930, code := PySem.Value.ref 627 } }) :: []
end
end Mine
end
section
open PySem PySem.W PyProof.Rows PySem.Calls
namespace Mine
def Says (prog : Program) (w : World) (K : Frag) (d : Nat) (f : Value) (vs : List Value) (news : List (Addr × Obj)) (Post : Value → List (Addr × Obj) → Prop) : Prop :=
  ∀ (p : Program) (loose : List Str) (mean : ExcName → Option Value) (mg mb : Str → Option Value) (dp un : Nat) (gd : Option (List Code)) (cn : Str) (cs : Scope) (a : Addr) (ccd : Value) (cl : List (Str × Addr)) (outer : List Env) (A₀ : Around) (base h₀ : Heap) (L : Addr) (m : Str → Option Value) (s : Shared) (Q E : Value → Shared → Prop),
    Below A₀ base outer h₀ → Fr h₀ L s.heap m → K.In h₀ → News h₀ L s.heap news → Top p loose mean mg mb h₀ → cs.kind = .function → dp + d < recursionLimit → un + 8 * d < cLine →
    (∀ r news' h' tk', Fr h₀ L h' m → News h₀ L h' news' → Post r news' → Q r { s with heap := h', toks := tk' }) →
    wpAny (model prog w) (ktrTop dp un gd cn cs L a ccd cl outer) (call f vs) Q E s
theorem news_dup {h₀ h : Heap} {L : Addr} {news : List (Addr × Obj)} {p : Addr × Obj} (N : News h₀ L h news) (hp : p ∈ news) : News h₀ L h (p :: news) := fun q hq => by
  rcases List.mem_cons.mp hq with rfl | hq
  · exact N _ hp
  · exact N _ hq
end Mine
namespace Mine
theorem use_says {prog : Program} {w : World} {K : Frag} {d : Nat} {f : Value} {vs : List Value} {news : List (Addr × Obj)} {Post : Value → List (Addr × Obj) → Prop} {p : Program} {loose : List Str} {mean : ExcName → Option Value} {mg mb : Str → Option Value} {dp un : Nat} {gd : Option (List Code)} {cn : Str} {cs : Scope} {a : Addr} {ccd : Value} {cl : List (Str × Addr)} {outer : List Env} {A₀ : Around} {base h₀ : Heap} {L : Addr} {m : Str → Option Value} {s : Shared} {Q E : Value → Shared → Prop}
    (S : Says prog w K d f vs news Post) (B : Below A₀ base outer h₀) (F : Fr h₀ L s.heap m) (X : K.In h₀) (N : News h₀ L s.heap news) (T : Top p loose mean mg mb h₀) (hk : cs.kind = .function) (hd : dp + d < recursionLimit) (hu : un + 8 * d < cLine)
    (ret : ∀ r news' h' tk', Fr h₀ L h' m → News h₀ L h' news' → Post r news' → Q r { s with heap := h', toks := tk' }) :
    wpAny (model prog w) (ktrTop dp un gd cn cs L a ccd cl outer) (call f vs) Q E s := by unfold Says at S; apply S <;> assumption
theorem un_make (A : Around) (C : Addr) (pos : List Value) (kw : List (Str × Value)) : (A.under (.builtin "type.__call__" ⟨.ref C :: pos, kw⟩)).units = A.units + 1 := rfl
def Hold (P : Prop) : Prop := P
theorem Hold.out {P : Prop} (h : Hold P) : P := h
end Mine
end
section
open PySem PySem.W PyProof.Rows PySem.Calls
namespace Mine
/-- a dict of n signs at places below 256 -/
structure Sg (c : List (Int × Int)) (n : Nat) : Prop where
  len : c.length = n
  nd : (c.map (·.1)).Nodup
  ok : ∀ p ∈ c, 0 ≤ p.1 ∧ p.1 < 256 ∧ (p.2 = 1 ∨ p.2 = -1)
abbrev Sg.the {c : List (Int × Int)} {n : Nat} (_ : Sg c n) : List (Int × Int) := c
theorem Sg.both {c : List (Int × Int)} {n : Nat} (h : Sg c n) : Sg c n ∧ c.length = n := ⟨h, h.len⟩
theorem has_iff {c : List (Int × Int)} {k : Int} : kdfHas c k = true ↔ k ∈ c.map (·.1) := by
  unfold kdfHas
  rw [List.any_eq_true]
  constructor
  · rintro ⟨p, hp, e⟩
    exact List.mem_map.mpr ⟨p, hp, of_decide_eq_true e⟩
  · intro h
    obtain ⟨p, hp, e⟩ := List.mem_map.mp h
    exact ⟨p, hp, decide_eq_true e⟩
theorem fm256 (a : Int) : a.fmod 256 = a % 256 := Int.fmod_eq_emod_of_nonneg a (by decide)
theorem fm0 (a : Int) : 0 ≤ a.fmod 256 := by rw [fm256]; omega
theorem fm1 (a : Int) : a.fmod 256 < 256 := Int.fmod_lt_of_pos _ (by decide)

/-- how many places are taken from p on -/
def dist (c : List (Int × Int)) : Nat → Int → Nat
  | 0, _ => 0
  | k + 1, p => if kdfHas c p then dist c k ((p + 1).fmod 256) + 1 else 0
end Mine
end
section
open PySem PySem.W PyProof.Rows PySem.Calls
namespace Mine
section
variable {prog : Program} {w : World} {A : Around} {E : Value → Shared → Prop} {s : Shared} {env : Env} {h₀ : Heap} {x : Str} {body : List Stmt} {Q : Flow → Shared → Prop}
end
/-- what a step of the shuffle makes of the polynomial -/
def fwd (f : Int → Int) (own : Int) (p : Int × Int) : Int → Int := fun x => if x = p.1 then p.2 else if x = own then f p.1 else f x
def fwdAll (f : Int → Int) (own : Int) : List (Int × Int) → Int → Int
  | [] => f
  | p :: r => fwdAll (fwd f own p) (own + 1) r
abbrev lk (c : List (Int × Int)) : Int → Int := fun x => kdfLook c x 0
abbrev tupD (p : Int × Int) : Dat := Dat.tuple [Dat.int p.1, Dat.int p.2]
/-- a step's place lies at its own place or below it, its sign is a sign -/
def StOk (own : Int) : List (Int × Int) → Prop
  | [] => True
  | p :: r => (0 ≤ p.1 ∧ p.1 ≤ own ∧ (p.2 = 1 ∨ p.2 = -1)) ∧ StOk (own + 1) r
structure StInv (c0 : List (Int × Int)) (tau k : Nat) (c : List (Int × Int)) (ps : List Int) (st : List (Int × Int)) : Prop where
  kt : k ≤ tau
  sg : Sg c (tau - k)
  pe : ps = c.map (·.1)
  below : ∀ p ∈ c, p.1 < 256 - (k : Int)
  len : st.length = k
  ok : StOk (256 - (k : Int)) st.reverse
  fw : fwdAll (lk c) (256 - (k : Int)) st.reverse = lk c0
theorem StInv.start {c0 : List (Int × Int)} {tau : Nat} (S : Sg c0 tau) : StInv c0 tau 0 c0 (c0.map (·.1)) [] :=
  ⟨Nat.zero_le _, S, rfl, fun p hp => by have := S.ok p hp; omega, rfl, trivial, rfl⟩
section
variable {c0 c : List (Int × Int)} {tau k : Nat} {ps : List Int} {st : List (Int × Int)} {own place : Int}
theorem StInv.fin (I : StInv c0 tau tau c ps st) : fwdAll (fun _ => 0) (256 - (tau : Int)) st.reverse = lk c0 := by
  have h := I.sg.len
  rw [Nat.sub_self] at h
  have hc : c = [] := List.eq_nil_of_length_eq_zero h
  rw [← I.fw, hc]
  rfl
end
end Mine
end
section
open PySem PySem.W PyProof.Rows PySem.Calls
namespace Mine
theorem StInv.mem {c0 c : List (Int × Int)} {tau k : Nat} {ps st} {x : Int} (I : StInv c0 tau k c ps st) (h : kdfHas c x = true) : x ∈ ps := by
  rw [I.pe]; exact has_iff.mp h
end Mine
end
section
open PySem PySem.W PyProof.Rows PySem.Calls
namespace Mine
/-- the octets that lead to the steps: refused ones above the step's own place, then its place -/
def Os : Int → List (Int × Int) → List Int → Prop
  | _, [], os => os = []
  | own, p :: r, os => ∃ rs os', os = rs ++ p.1 :: os' ∧ (∀ x ∈ rs, own < x ∧ x ≤ 255) ∧ rs.length ≤ 3 ∧ Os (own + 1) r os'
theorem Os.snoc {p : Int × Int} {rs : List Int} : ∀ {S : List (Int × Int)} {own : Int} {os : List Int}, Os own S os → (∀ x ∈ rs, own + (S.length : Int) < x ∧ x ≤ 255) → rs.length ≤ 3 → Os own (S ++ [p]) ((os ++ rs) ++ [p.1])
  | [], own, os, h, hr, hl => by
    have h' : os = [] := h
    subst h'
    refine ⟨rs, [], by simp, fun x hx => ?_, hl, rfl⟩
    have := hr x hx
    simp at this
    exact this
  | q :: r, own, os, h, hr, hl => by
    obtain ⟨rs', os', rfl, h1, h2, h3⟩ := h
    refine ⟨rs', (os' ++ rs) ++ [p.1], by simp, h1, h2, Os.snoc h3 (fun x hx => ?_) hl⟩
    have := hr x hx
    simp only [List.length_cons] at this
    exact ⟨by omega, this.2⟩
theorem Os.len : ∀ {S : List (Int × Int)} {own : Int} {os : List Int}, Os own S os → os.length ≤ 4 * S.length
  | [], _, os, h => by have h' : os = [] := h; simp [h']
  | q :: r, _, os, h => by
    obtain ⟨rs', os', rfl, _, h2, h3⟩ := h
    have := h3.len
    simp only [List.length_append, List.length_cons]
    omega
theorem Os.bound : ∀ {S : List (Int × Int)} {own : Int} {os : List Int}, Os own S os → StOk own S → 0 ≤ own → own + (S.length : Int) ≤ 256 → ∀ x ∈ os, 0 ≤ x ∧ x < 256
  | [], _, os, h, _, _, _ => by have h' : os = [] := h; simp [h']
  | q :: r, own, os, h, hS, h0, h1 => by
    obtain ⟨rs', os', rfl, h2, _, h3⟩ := h
    obtain ⟨hq, hr⟩ := hS
    simp only [List.length_cons] at h1
    intro x hx
    rcases List.mem_append.mp hx with hx | hx
    · have := h2 x hx; omega
    · rcases List.mem_cons.mp hx with rfl | hx
      · omega
      · exact h3.bound hr (by omega) (by omega) x hx
/-- the bits of the signs: 1 where the sign is -1 -/
def sgnSum : Nat → List (Int × Int) → Int
  | _, [] => 0
  | t, p :: r => (if p.2 = -1 then 2 ^ t else 0) + sgnSum (t + 1) r
/-- the walk's own state in the middle of the octets -/
structure OsAt (own0 : Int) (S : List (Int × Int)) (t : Nat) (os : List Int) : Prop where
  ok : Os own0 (S.take t) os
structure OsIn (own0 : Int) (S : List (Int × Int)) (t j : Nat) (os : List Int) : Prop where
  ok : ∃ o rs, os = o ++ rs ∧ Os own0 (S.take t) o ∧ rs.length = j ∧ ∀ x ∈ rs, own0 + (t : Int) < x ∧ x ≤ 255
theorem OsAt.start (own0 : Int) (S : List (Int × Int)) : OsAt own0 S 0 [] := ⟨by rw [List.take_zero]; rfl⟩
theorem OsAt.to {own0 : Int} {S : List (Int × Int)} {t : Nat} {os : List Int} (h : OsAt own0 S t os) : OsIn own0 S t 0 os := ⟨os, [], by simp, h.ok, rfl, by simp⟩
theorem OsIn.more {own0 : Int} {S : List (Int × Int)} {t j : Nat} {os : List Int} {x : Int} (h : OsIn own0 S t j os) (h1 : own0 + (t : Int) < x) (h2 : x ≤ 255) : OsIn own0 S t (j + 1) (os ++ [x]) := by
  obtain ⟨o, rs, rfl, h3, h4, h5⟩ := h.ok
  refine ⟨o, rs ++ [x], by simp, h3, by simp [h4], fun y hy => ?_⟩
  rcases List.mem_append.mp hy with hy | hy
  · exact h5 y hy
  · rw [List.mem_singleton.mp hy]; exact ⟨h1, h2⟩
theorem OsIn.end {own0 : Int} {S : List (Int × Int)} {t j : Nat} {os : List Int} (h : OsIn own0 S t j os) (hj : j ≤ 3) (ht : t < S.length) : OsAt own0 S (t + 1) (os ++ [(S.getD t (0, 0)).1]) := by
  obtain ⟨o, rs, rfl, h3, h4, h5⟩ := h.ok
  have hl : (S.take t).length = t := by rw [List.length_take]; omega
  have e : S.take (t + 1) = S.take t ++ [S.getD t (0, 0)] := by
    rw [List.take_add_one, List.getD_eq_getElem?_getD, List.getElem?_eq_getElem ht]; rfl
  refine ⟨?_⟩
  rw [e]
  exact Os.snoc h3 (by rw [hl]; exact h5) (by omega)
theorem OsIn.len {own0 : Int} {S : List (Int × Int)} {t j : Nat} {os : List Int} (h : OsIn own0 S t j os) : os.length ≤ 4 * t + j := by
  obtain ⟨o, rs, rfl, h3, h4, _⟩ := h.ok
  have := h3.len
  rw [List.length_take] at this
  simp only [List.length_append]
  omega
theorem OsAt.len {own0 : Int} {S : List (Int × Int)} {t : Nat} {os : List Int} (h : OsAt own0 S t os) : os.length ≤ 4 * t := h.to.len
theorem lt_up {d : Addr} {l : List (Addr × Obj)} (h : ∀ p ∈ l, p.1 < d) (k : Nat) : AllLt (d + k) l := allLt_of fun p hp => Nat.lt_of_lt_of_le (h p hp) (Nat.le_add_right _ _)
theorem len_of {prog : Program} {w : World} {A : Around} {E : Value → Shared → Prop} {s : Shared} {h₀ : Heap} {L l : Addr} {led : List (Addr × Obj)} {vs : List Value} {n k : Nat} {Q : Value → Shared → Prop}
    (N : News h₀ L s.heap led) (hm : (l, listOf vs.toArray n) ∈ led) (e : vs.length = k) (hk : k ≤ 1000000) (h : Q (.int (k : Nat) (s.toks + 1)) { s with toks := s.toks + 1 + 1 }) : wpAny (model prog w) A (call (.builtin "len") [.ref l]) Q E s := by
  have hl : s.heap.IsList l vs.toArray := ⟨_, (N _ hm).1, rfl, n, rfl⟩
  have e' : vs.toArray.size = k := by rw [List.size_toArray]; exact e
  exact call_len_list hl (by rw [e']; omega) (by rw [e']; exact h)
end Mine
end
section
open PySem PySem.W PyProof.Rows PySem.Calls
namespace Mine
section
variable {prog : Program} {w : World} {A : Around} {E : Value → Shared → Prop} {s : Shared} {env : Env} {h₀ : Heap} {x : Str} {body : List Stmt} {Q : Flow → Shared → Prop}
/-! a loop over a range upwards that grows one list of ints (lo), all else standing -/
abbrev SigG := List Value × List Int × Nat
abbrev grLed (lo : Addr) (cst : List (Addr × Obj)) (c : SigG) : List (Addr × Obj) := (lo, listOf c.1.toArray c.2.2) :: cst
abbrev GrS (lo : Addr) (cst : List (Addr × Obj)) (stored : List Str) (m₀ : Str → Option Value) (P : Nat → List Int → Prop) (x : Str) (pre : List Int) : (Str → Option Value) → List (Addr × Obj) → Prop :=
  KstS (grLed lo cst) (fun _ => []) (fun c => IntsAre c.1 c.2.1) x stored m₀ (fun pre c => P pre.length c.2.1) pre
theorem grow_loop {r lo : Addr} {a₀ b₀ : Int} {t₀ u₀ v₀ : Tok} {n : Nat} {m₀ : Str → Option Value} {cst : List (Addr × Obj)} {vo : List Value} {os : List Int} {no : Nat} (stored : List Str) (P : Nat → List Int → Prop)
    (hh : A.handled = none) (hr : IsRange s.heap r a₀ b₀ 1 t₀ u₀ v₀) (hsmall : Builtin.Range.small a₀ b₀ 1 = true) (hn : Builtin.Range.rangeSize a₀ b₀ 1 = (n : Int)) (F : Fr h₀ env.locals s.heap m₀)
    (N : News h₀ env.locals s.heap ((lo, listOf vo.toArray no) :: cst)) (hi : IntsAre vo os) (hp : P 0 os)
    (turn : ∀ (vo : List Value) (os : List Int) (no : Nat) (pre : List Int) (k : Int) t (u : Str → Option Value) h tk own, k = a₀ + (pre.length : Int) → pre.length < n → OwnOff own (lo :: cst.map (·.1)) → IntsAre vo os → P pre.length os →
      Fr h₀ env.locals h (fun y => if y = x then some (.int k t) else if stored.contains y then u y else m₀ y) → News h₀ env.locals h ((lo, listOf vo.toArray no) :: (cst ++ own)) →
      wpAny (model prog w) A (execs body env) (InvPostN h₀ env.locals (GrS lo cst stored m₀ P x (pre ++ [k])) own (lo :: cst.map (·.1)) { s with heap := h, toks := tk } Q) E { s with heap := h, toks := tk })
    (done : ∀ (vo : List Value) (os : List Int) (no : Nat) (u : Str → Option Value) h tk, IntsAre vo os → P n os → Fr h₀ env.locals h (fun y => if y = x then u y else if stored.contains y then u y else m₀ y) → News h₀ env.locals h ((lo, listOf vo.toArray no) :: cst) → Q .next { s with heap := h, toks := tk }) :
    wpAny (model prog w) A (pyIter (.ref r)) (fun it s₂ => LoopAtV prog w A h₀ env x body Q E it s₂) E s := by
  refine kst_range (σ := SigG) (n := n) (grLed lo cst) (fun _ => []) (fun c => IntsAre c.1 c.2.1) stored (fun pre c => P pre.length c.2.1) (vo, os, no) hh hr hsmall hn F N hi (List.forall_mem_nil _) hp ?_ ?_
  · rintro ⟨vo, os, no⟩ pre k t u h tk own hk hlt hoff hf hP F₁ N₁
    exact turn vo os no pre k t u h tk own hk hlt hoff hf hP F₁ N₁
  · rintro ⟨vo, os, no⟩ u h tk hf hP F₁ N₁
    rw [rangeKs_length] at hP
    exact done vo os no u h tk hf hP F₁ N₁
theorem grow_end {lo : Addr} {cst own : List (Addr × Obj)} {stored : List Str} {m₀ m' : Str → Option Value} {P : Nat → List Int → Prop} {pre : List Int} {k : Int} {vo : List Value} {os : List Int} {no : Nat} {L : Addr} {news' : List (Addr × Obj)} {s₁ : Shared} {h' : Heap} {tk : Nat}
    (F : Fr h₀ L h' m') (N : News h₀ L h' news') (hl : (lo, listOf vo.toArray no) ∈ news') (hc : ∀ p ∈ cst, p ∈ news') (ho : ∀ p ∈ own, p ∈ news')
    (hm : ∀ z, z ≠ x → stored.contains z = false → m' z = m₀ z) (hi : IntsAre vo os) (hP : P (pre.length + 1) os) :
    InvEndN h₀ L (GrS lo cst stored m₀ P x (pre ++ [k])) own (lo :: cst.map (·.1)) s₁ { s₁ with heap := h', toks := tk } :=
  kst_end (σ := SigG) (vo, os, no) F N (fun p hp => by rcases List.mem_cons.mp hp with rfl | hp; exact hl; exact hc p hp) ho rfl hi (List.forall_mem_nil _) (fun z h1 _ h3 => hm z h1 h3) (by rw [List.length_append]; exact hP)
/-! the same, and a cell (lc) that holds an int turns with it -/
abbrev SigC := Obj × Int × Tok × List Value × List Int × Nat
abbrev gcLed (lo lc : Addr) (cst : List (Addr × Obj)) (c : SigC) : List (Addr × Obj) := (lo, listOf c.2.2.2.1.toArray c.2.2.2.2.2) :: (lc, c.1) :: cst
abbrev gcFacts (c : SigC) : Prop := c.1.data = Data.cell (some (.int c.2.1 c.2.2.1)) ∧ IntsAre c.2.2.2.1 c.2.2.2.2.1
abbrev GcS (lo lc : Addr) (cst : List (Addr × Obj)) (stored : List Str) (m₀ : Str → Option Value) (P : Nat → Int → List Int → Prop) (x : Str) (pre : List Int) : (Str → Option Value) → List (Addr × Obj) → Prop :=
  KstS (gcLed lo lc cst) (fun _ => []) gcFacts x stored m₀ (fun pre c => P pre.length c.2.1 c.2.2.2.2.1) pre
end
theorem OsIn.next {own0 : Int} {S : List (Int × Int)} {t j : Nat} {os : List Int} {x ab : Int} (h : OsIn own0 S t j os) (ha : ab = 255 - (own0 + (t : Int))) (h0 : 0 < ab) : OsIn own0 S t (j + 1) (os ++ [255 - x.fmod ab]) := by
  have h1 : 0 ≤ x.fmod ab := by rw [Int.fmod_eq_emod_of_nonneg _ (by omega)]; exact Int.emod_nonneg _ (by omega)
  have h2 : x.fmod ab < ab := Int.fmod_lt_of_pos _ h0
  exact h.more (by omega) (by omega)
theorem pow256_ne (n : Nat) : (256 : Int) ^ n ≠ 0 := Int.ne_of_gt (Int.pow_pos (by decide))
theorem py256 {x : Int} {n : Nat} (h : n ≤ 8) : Builtin.divisionGoesByPylong x ((256 : Int) ^ n) = false := by
  refine PyProof.noPylong_of_log2 ?_
  have e : ((256 : Int) ^ n).natAbs = 256 ^ n := by rw [Int.natAbs_pow]; rfl
  rw [e]
  have h1 : 256 ^ n ≤ 256 ^ 8 := Nat.pow_le_pow_right (by decide) h
  have h2 : (256 ^ n).log2 ≤ 64 := by
    have hp : 256 ^ n ≠ 0 := Nat.ne_of_gt (Nat.pow_pos (by decide))
    apply Nat.le_of_lt_succ
    rw [Nat.log2_lt hp]
    exact Nat.lt_of_le_of_lt h1 (by decide)
  omega
end Mine
end
section
open PySem PySem.W PyProof.Rows PySem.Calls
namespace Mine
/-- the eight octets of a number, the lowest first -/
abbrev digs (g : Int) : List Int := (rangeKs 0 (8 - 0 : Int).toNat).map fun k => (g.fdiv (256 ^ k.toNat)).fmod 256
/-- a number's bits are the steps' signs -/
def SgOk : Int → List (Int × Int) → Prop
  | _, [] => True
  | g, p :: r => 1 - 2 * (g % 2) = p.2 ∧ SgOk (g / 2) r
theorem fd (a b : Int) (h : 0 ≤ b) : a.fdiv b = a / b := Int.fdiv_eq_ediv_of_nonneg a h
theorem fm (a b : Int) (h : 0 ≤ b) : a.fmod b = a % b := Int.fmod_eq_emod_of_nonneg a h
/-- what the octets of a stream are -/
structure StreamOk (own0 : Int) (S : List (Int × Int)) (ks : List Int) : Prop where
  form : ∃ g os, ks = digs g ++ os ∧ Os own0 S os ∧ 0 ≤ g ∧ g < 2 ^ 64 ∧ SgOk g S
  inn : KBa.In ks
  len : ks.length ≤ 8 + 4 * S.length
theorem digs_in (g : Int) : KBa.In (digs g) := by
  intro n hn
  obtain ⟨k, _, rfl⟩ := List.mem_map.mp hn
  exact ⟨fm0 _, fm1 _⟩
theorem digs_len (g : Int) : (digs g).length = 8 := by simp [digs, rangeKs]
end Mine
end
section
open PySem PySem.W PyProof.Rows PySem.Calls PySem.NumText
set_option maxRecDepth 100000
namespace Mine
theorem typeCall_int2 (a b : Value) : checkTypeCall "int" ⟨[a, b], []⟩ = pure () := by kernel_rfl
theorem newCall_int2 (a b : Value) : checkBuiltinCall "int.__new__" ⟨[.type "int", a, b], []⟩ = pure () := by kernel_rfl
theorem args_init3 (a b c : Value) : argsOk "object.__init__" ⟨[a, b, c], []⟩ := by
  unfold argsOk; rw [signature?_of (id := "object.__init__") (n := ['_', '_', 't', 'i', 'n', 'i', '_', '_']) (o := ['t', 'c', 'e', 'j', 'b', 'o']) (by kernel_rfl) PySem.F.owner_object]; kernel_rfl
theorem wp_text2 {M : Model} {A : Around} {E : Value → Shared → Prop} {s : Shared} {Q : Value → Shared → Prop} {v : Value} {text : List Nat} {n : Int}
    (hs : (text.takeWhile (· != 0)).length ≤ 640) (hr : (int_private% "readNumeral") 0 2 (text.takeWhile (· != 0)) = (int_private% "Numeral.value") n)
    (ha : ((text.takeWhile (· != 0)).length == text.length) = true) (h : Q (.int n s.toks) { s with toks := s.toks + 1 }) :
    wpAny M A ((int_private% "intFromText") v text 2) Q E s := by
  obtain ⟨hp, g, d, tk, os⟩ := s
  repeat (any_goals (first
    | assumption
    | (with_reducible refine wpAny_ite_true (decide_eq_true hs) ?_)
    | (with_reducible refine wpAny_ite_true (decide_eq_true ha) ?_)
    | wp_step))
  all_goals (try rw [hr])
  all_goals (try dsimp only)
  repeat (any_goals (first
    | assumption
    | (with_reducible refine wpAny_ite_true (decide_eq_true hs) ?_)
    | (with_reducible refine wpAny_ite_true (decide_eq_true ha) ?_)
    | wp_step))
structure Hid3 (x : Str) (n : Int) : Prop where
  a : (numSeenOf x).length ≤ 640
  b : (int_private% "readNumeral") 0 2 (numSeenOf x) = (int_private% "Numeral.value") n
  c : ((numSeenOf x).length == (numTextOf x).length) = true
set_option maxHeartbeats 4000000 in
theorem gives_text2 {x : Str} {u u2 : Tok} {n : Int} (hk : Hid3 x n) : Gives (Builtin.«int.__new__» ⟨[.type "int", .str x u, .int 2 u2], []⟩) (.int n) :=
  .of_wp fun M A E s Q h => by
    obtain ⟨hp, g, d, tk, os⟩ := s
    have f1 := PySem.F.conv_sub_int
    have f2 := PySem.F.madeHere_int
    have f6 : typeOf (.str x u) = pure (.type "str") := rfl
    repeat (any_goals (first
      | assumption
      | ((with_reducible show wpAny _ _ ((int_private% "intFromText") _ _ _) _ _ _); refine wp_text2 hk.a hk.b hk.c ?_)
      | wp_step))
    all_goals exact ⟨_, rfl, h⟩
theorem call_int_2 {prog : Program} {w : World} {A : Around} {E : Value → Shared → Prop} {s : Shared} {Q : Value → Shared → Prop} {x : Str} {t u : Tok} {n : Int} (hk : Hid3 x n) (h : Q (.int n s.toks) { s with toks := s.toks + 1 }) :
    wpAny (model prog w) A (call (.type "int") [.str x t, .int 2 u]) Q E s :=
  callType_new PySem.F.called_int PySem.F.newNe_int (typeCall_int2 _ _) (newCall_int2 _ _) (fun obj => args_init3 obj _ _) PySem.F.entry_int_new (gives_text2 hk).meets (show (Made.int n).post _ s from ⟨rfl, h⟩)
def okText (x : Str) : Bool :=
  decide ((numSeenOf x).length ≤ 640) && ((numSeenOf x).length == (numTextOf x).length) && (sign ((numSeenOf x).dropWhile blank)).1 == false &&
  (based 2 (sign ((numSeenOf x).dropWhile blank)).2).1 == 2 && (based 2 (sign ((numSeenOf x).dropWhile blank)).2).2.1 == false &&
  (digits? 2 (((based 2 (sign ((numSeenOf x).dropWhile blank)).2).2.2.reverse.dropWhile blank).reverse)).isSome
theorem okText_reads {x : Str} (h : okText x = true) : ∃ n, 0 ≤ n ∧ Hid3 x n := by
  unfold okText at h
  simp only [Bool.and_eq_true, decide_eq_true_eq, beq_iff_eq] at h
  obtain ⟨⟨⟨⟨⟨h1, h2⟩, h3⟩, h4⟩, h5⟩, h6⟩ := h
  obtain ⟨ds, hd⟩ := Option.isSome_iff_exists.mp h6
  refine ⟨((ds.foldl (fun acc d => acc * 2 + d) 0 : Nat) : Int), Int.natCast_nonneg _, h1, ?_, beq_iff_eq.mpr h2⟩
  refine (readNumeral_eq 0 2 (numSeenOf x)).trans ?_
  rw [h3, h4, h5, hd]
  rfl
/-- the text that a place's eight bits are read back from -/
abbrev brText (i : Int) (u : Tok) : Str := Txt.sliceBy (Txt.zfill (Txt.slice (baseText "0b" 2 (Builtin.bitAnd i (2 ^ Int.toNat 8 - 1))) (some 2) none) 8) none none (-1, u)
theorem br_ok : ∀ i : Nat, i < 256 → okText (brText (i : Int) 0) = true := by decide +kernel
end Mine
end
section
open PySem PySem.W PyProof.Rows PySem.Calls
set_option maxRecDepth 100000
namespace Mine
theorem entry_pow : entryFor table "pow" = some Builtin.«pow» := entryFor_of_tree (by kernel_rfl)
theorem kind_pow : builtinKind "pow" = none := by decide +kernel
theorem plain_pow : plainId "pow" = true := by decide +kernel
theorem args_pow3 (a b c : Value) : argsOk "pow" ⟨[a, b, c], []⟩ := by unfold argsOk; kernel_rfl
abbrev pw (x y : Int) : Int := ((Builtin.powMod (x % 8380417).toNat y.natAbs 8380417 : Nat) : Int)
set_option maxHeartbeats 4000000 in
theorem gives_int_pow3 {x y : Int} {t u v : Tok} (h0 : 0 ≤ y) : Gives (Builtin.«int.__pow__» ⟨[.int x t, .int y u, .int 8380417 v], []⟩) (.int (pw x y)) :=
  .of_wp fun M A E s Q h => by
    obtain ⟨hp, g, d, tk, os⟩ := s
    have hy : ¬ y < 0 := by omega
    repeat (any_goals (first
      | assumption
      | (with_reducible refine wpAny_ite_false (decide_eq_false hy) ?_)
      | wp_step))
    refine ⟨_, rfl, ?_⟩
    rw [if_neg (by simp)]
    exact h
set_option maxHeartbeats 4000000 in
theorem gives_int_inv {t u v : Tok} : Gives (Builtin.«int.__pow__» ⟨[.int 256 t, .int (-1) u, .int 8380417 v], []⟩) (.int 8347681) :=
  .of_wp fun M A E s Q h => by
    obtain ⟨hp, g, d, tk, os⟩ := s
    repeat (any_goals (first
      | assumption
      | wp_step))
    refine ⟨_, rfl, ?_⟩
    have e : ∀ z : Int, z = 8347681 → Q (Value.int z tk) { heap := hp, gens := g, drawn := d, toks := tk + 1, os := os } := by
      rintro _ rfl
      exact h
    exact e _ (by decide +kernel)
theorem call_int_pow3 {prog : Program} {w : World} {A : Around} {E : Value → Shared → Prop} {s : Shared} {Q : Value → Shared → Prop} {x y n : Int} {t u v : Tok} (G : Gives (Builtin.«int.__pow__» ⟨[.int x t, .int y u, .int 8380417 v], []⟩) (.int n)) (h : Q (.int n s.toks) { s with toks := s.toks + 1 }) :
    wpAny (model prog w) A (call (.builtin "int.__pow__") [.int x t, .int y u, .int 8380417 v]) Q E s :=
  call_meets PySem.F.slot_int_pow (typeIs_int s x t) PySem.F.entry_int_pow (PySem.F.args_int_pow_3 _ _ _) G.meets (show (Made.int n).post _ s from h)
set_option maxHeartbeats 4000000 in
theorem meets_pow3 {x y n : Int} {t u v : Tok} (G : Gives (Builtin.«int.__pow__» ⟨[.int x t, .int y u, .int 8380417 v], []⟩) (.int n)) : Meets (Builtin.«pow» ⟨[.int x t, .int y u, .int 8380417 v], []⟩) (fun _ R s => R (.ok (.ret (.int n s.toks))) { s with toks := s.toks + 1 }) := by
  intro prog w A R s h
  obtain ⟨hp, g, d, tk, os⟩ := s
  have f7 : typeLookup (.type "int") "__pow__" = pure (some (.builtin "int.__pow__")) := PySem.F.slot_int_pow.lookup
  repeat (any_goals (first
      | assumption
      | ((with_reducible show wpAny _ _ (callSpecial? _ _ _ _) _ _ _); refine wpAny_callSpecial?_slot (typeIs_int _ _ _) PySem.F.slot_int_pow (call_int_pow3 G ?_))
      | wp_step))
theorem call_pow3 {prog : Program} {w : World} {A : Around} {E : Value → Shared → Prop} {s : Shared} {Q : Value → Shared → Prop} {x y n : Int} {t u v : Tok} (G : Gives (Builtin.«int.__pow__» ⟨[.int x t, .int y u, .int 8380417 v], []⟩) (.int n)) (h : Q (.int n s.toks) { s with toks := s.toks + 1 }) :
    wpAny (model prog w) A (call (.builtin "pow") [.int x t, .int y u, .int 8380417 v]) Q E s :=
  call_function_meets kind_pow plain_pow entry_pow (args_pow3 _ _ _) (meets_pow3 G) h
end Mine
end
section
open PySem PySem.W PyProof.Rows PySem.Calls
set_option maxRecDepth 100000
set_option rowWalk.seconds 0
namespace Mine
theorem br_szs : ∀ i : Nat, i < 256 → (baseText "0b" 2 (Builtin.bitAnd (i : Int) (2 ^ Int.toNat 8 - 1))).length ≤ 12 ∧ (Txt.zfill (Txt.slice (baseText "0b" 2 (Builtin.bitAnd (i : Int) (2 ^ Int.toNat 8 - 1))) (some 2) none) 8).length ≤ 12 := by decide +kernel
structure Br1 (k : Int) (x : Str) : Prop where
  h0 : 0 ≤ k
  h1 : k < 256
  e : x = baseText "0b" 2 (Builtin.bitAnd k (2 ^ Int.toNat 8 - 1))
structure Br2 (k : Int) (x : Str) : Prop where
  h0 : 0 ≤ k
  h1 : k < 256
  e : x = Txt.slice (baseText "0b" 2 (Builtin.bitAnd k (2 ^ Int.toNat 8 - 1))) (some 2) none
structure Br3 (k : Int) (x : Str) : Prop where
  h0 : 0 ≤ k
  h1 : k < 256
  e : x = Txt.zfill (Txt.slice (baseText "0b" 2 (Builtin.bitAnd k (2 ^ Int.toNat 8 - 1))) (some 2) none) 8
noncomputable def brN (k : Int) : Int := Classical.epsilon fun n => 0 ≤ n ∧ Hid3 (brText k 0) n
theorem brN_spec {k : Int} (h0 : 0 ≤ k) (h1 : k < 256) : 0 ≤ brN k ∧ Hid3 (brText k 0) (brN k) := by
  have h := br_ok k.toNat (by omega)
  rw [Int.toNat_of_nonneg h0] at h
  exact Classical.epsilon_spec (okText_reads h)
structure Br4 (k : Int) (x : Str) : Prop where
  h0 : 0 ≤ k
  h1 : k < 256
  e : x = brText k 0
section
variable {prog : Program} {w : World} {A : Around} {E : Value → Shared → Prop} {s : Shared} {h₀ : Heap} {L : Addr} {m : Str → Option Value} {news : List (Addr × Obj)} {value slice : PySem.Expr} {k : Int} {x : Str} {t u : Tok} {Q : Value → Shared → Prop}
theorem Br1.size (b : Br1 k x) : x.length ≤ sizeLine := by
  have := br_szs k.toNat (by have := b.h0; have := b.h1; omega)
  rw [Int.toNat_of_nonneg b.h0, ← b.e] at this
  rw [sizeLine_eq]; omega
theorem Br3.size (b : Br3 k x) : x.length ≤ sizeLine := by
  have := br_szs k.toNat (by have := b.h0; have := b.h1; omega)
  rw [Int.toNat_of_nonneg b.h0, ← b.e] at this
  rw [sizeLine_eq]; omega
theorem br_bin (h0 : 0 ≤ k) (h1 : k < 256) (h : ∀ x, Br1 k x → Q (.str x s.toks) { s with toks := s.toks + 1 }) : wpAny (model prog w) A (call (.builtin "bin") [.int (Builtin.bitAnd k (2 ^ Int.toNat 8 - 1)) t]) Q E s :=
  P.bin_of_int (h _ ⟨h0, h1, rfl⟩) (Br1.size ⟨h0, h1, rfl⟩)
theorem br_cut (b : Br1 k x) (hF : Fr h₀ L s.heap m) (hN : News h₀ L s.heap news) (h : ∀ y h' t' c, Fr h₀ L h' m → News h₀ L h' news → Br2 k y → Q (.str y t') { s with heap := h', toks := c })
    (hs : subscripted slice false (.str x t) (.ref s.heap.objs.size) = operate [.ref s.heap.objs.size, .str x t] (getItem (.str x t) (.ref s.heap.objs.size)) := by with_unfolding_all rfl)
    (ht : ∀ r, letTemporaryGo value (.str x t) r = pure () := by intro _; with_unfolding_all rfl) :
    wpAny (model prog w) A (subscriptTail value slice (.str x t) (.ref s.heap.objs.size)) Q E { s with heap := s.heap.push { cls := .type "slice", data := .fields #[.int 2 u, .none, .none] } } :=
  slice_strN_sn hF hN (fun h' t' c F' N' => h _ h' t' c F' N' ⟨b.h0, b.h1, by rw [b.e]⟩) hs ht b.size
theorem br_fill (b : Br2 k x) (h : ∀ y t' c, Br3 k y → Q (.str y t') { s with toks := c }) : wpAny (model prog w) A (call (.builtin "str.zfill") [.str x t, .int 8 u]) Q E s :=
  SC.zfill (by decide +kernel) fun t' c => h _ t' c ⟨b.h0, b.h1, by rw [b.e]⟩
theorem br_rev (b : Br3 k x) (hF : Fr h₀ L s.heap m) (hN : News h₀ L s.heap news) (h : ∀ y h' t' c, Fr h₀ L h' m → News h₀ L h' news → Br4 k y → Q (.str y t') { s with heap := h', toks := c })
    (hs : subscripted slice false (.str x t) (.ref s.heap.objs.size) = operate [.ref s.heap.objs.size, .str x t] (getItem (.str x t) (.ref s.heap.objs.size)) := by with_unfolding_all rfl)
    (ht : ∀ r, letTemporaryGo value (.str x t) r = pure () := by intro _; with_unfolding_all rfl) :
    wpAny (model prog w) A (subscriptTail value slice (.str x t) (.ref s.heap.objs.size)) Q E { s with heap := s.heap.push { cls := .type "slice", data := .fields #[.none, .none, .int (-1) u] } } :=
  slice_strK_nn hF hN (by decide) (fun h' t' c F' N' => h _ h' t' c F' N' ⟨b.h0, b.h1, by rw [b.e]; rfl⟩) hs ht b.size
theorem br_int (b : Br4 k x) (h : Q (.int (brN k) s.toks) { s with toks := s.toks + 1 }) : wpAny (model prog w) A (call (.type "int") [.str x t, .int 2 u]) Q E s :=
  call_int_2 (by rw [b.e]; exact (brN_spec b.h0 b.h1).2) h
end
local macro_rules | `(tactic| walk_at "call builtin:bin") => `(tactic| (k_dflt (refine br_bin (by omega) (by omega) ?_); intro _ _))
local macro_rules | `(tactic| walk_at "subscriptTail") => `(tactic| ((with_reducible show wpAny _ _ (subscriptTail _ (Expr.Slice (some _) none none _) (Value.str _ _) (Value.ref _)) _ _ _); (with_reducible rename Fr _ _ _ _ => F'); (with_reducible rename News _ _ _ _ => N'); k_dflt (refine br_cut (s := ⟨_, _, _, _, _⟩) (by assumption) F' N' ?_); intro _ _ _ _ _ _ _))
local macro_rules | `(tactic| walk_at "subscriptTail") => `(tactic| ((with_reducible show wpAny _ _ (subscriptTail _ (Expr.Slice none none (some _) _) (Value.str _ _) (Value.ref _)) _ _ _); (with_reducible rename Fr _ _ _ _ => F'); (with_reducible rename News _ _ _ _ => N'); k_dflt (refine br_rev (s := ⟨_, _, _, _, _⟩) (by assumption) F' N' ?_); intro _ _ _ _ _ _ _))
local macro_rules | `(tactic| walk_at "call builtin:str.zfill") => `(tactic| (k_dflt (refine br_fill (by assumption) ?_); intro _ _ _ _))
local macro_rules | `(tactic| walk_at "call type:int") => `(tactic| (k_dflt (refine br_int (by assumption) ?_)))
set_option maxHeartbeats 4000000 in
theorem br_says (w : World) (k : Int) (tk1 tk2 : Tok) (news : List (Addr × Obj)) (hk0 : 0 ≤ k) (hk1 : k < 256) :
    Says PySem.Challenge.rw_bd0004_02.row.prog w (Mine.K w.params) 20 (.ref 301) [.int k tk1, .int 8 tk2] news (fun r news' => ∃ tk, r = .int (brN k) tk ∧ 0 ≤ brN k ∧ news' = news) := by
  unfold Says; k_fill
  intro p loose mean mg mb dp un gd cn cs a ccd cl outer A₀ base h₀ L m s Q E B F X N T hk hdp hun hret
  refine wpAny_call ?_
  k_dflt ktr_enter
  k_steps
  exact hret _ _ _ _ (by assumption) (by assumption) ⟨_, rfl, (brN_spec hk0 hk1).1, rfl⟩
end Mine
end
section
open PySem PySem.W PyProof.Rows PySem.Calls
namespace Mine
abbrev kE (P : Params) (x : Str) (t : Tok) (v : Value) : DictEntry := { hash := PyData.keyHash P x, key := .str x t, val := v }
/-- a Shake as __init__ leaves it -/
abbrev shO (P : Params) (alg : Addr) (bl : Int) (t1 t2 t3 t4 t5 t6 t7 : Tok) : Obj :=
  dictOf [kE P "algorithm" t1 (.ref alg), kE P "block_length" t2 (.int bl t3), kE P "buf" t4 (.bytes #[] t5), kE P "len_buf" t6 (.int 0 t7)] 4
abbrev ringO (P : Params) (s1 s2 z : Addr) (t1 t2 t3 t4 t5 t6 t7 t8 t9 : Tok) : Obj :=
  dictOf [kE P "q" t1 (.int 8380417 t2), kE P "n" t3 (.int 256 t4), kE P "shake128" t5 (.ref s1), kE P "shake256" t6 (.ref s2), kE P "ntt_zetas" t7 (.ref z), kE P "ntt_f" t8 (.int 8347681 t9)] 6
def RingPost (P : Params) (cR cS f g : Addr) (news : List (Addr × Obj)) (r : Value) (news' : List (Addr × Obj)) : Prop :=
  ∃ x dx s1 d1 s2 d2 z t1 t2 t3 t4 t5 t6 t7 u1 u2 u3 u4 u5 u6 u7 v1 v2 v3 v4 v5 v6 v7 v8 v9, r = .ref x ∧
    news' = (s2, instObj cS d2) :: (d2, shO P g 136 t1 t2 t3 t4 t5 t6 t7) :: (s1, instObj cS d1) :: (d1, shO P f 168 u1 u2 u3 u4 u5 u6 u7) :: (x, instObj cR dx) :: (dx, ringO P s1 s2 z v1 v2 v3 v4 v5 v6 v7 v8 v9) :: news ∧
    d2 < s2 ∧ s1 < d2 ∧ d1 < s1 ∧ x < d1 ∧ dx < x ∧ AllLt dx news
theorem ring_end {P : Params} {cR cS f g : Addr} {h₀ h' : Heap} {L x dx s1 d1 s2 d2 z c1 c2 : Addr} {zo o1 o2 : Obj} {news : List (Addr × Obj)} {t1 t2 t3 t4 t5 t6 t7 u1 u2 u3 u4 u5 u6 u7 v1 v2 v3 v4 v5 v6 v7 v8 v9 : Tok}
    (N : News h₀ L h' ((z, zo) :: (s2, instObj cS d2) :: (d2, shO P g 136 t1 t2 t3 t4 t5 t6 t7) :: (s1, instObj cS d1) :: (d1, shO P f 168 u1 u2 u3 u4 u5 u6 u7) :: (c1, o1) :: (c2, o2) :: (x, instObj cR dx) :: (dx, ringO P s1 s2 z v1 v2 v3 v4 v5 v6 v7 v8 v9) :: news))
    (h1 : d2 < s2) (h2 : s1 < d2) (h3 : d1 < s1) (h4 : x < d1) (h5 : dx < x) (h6 : ∀ p ∈ news, p.1 < dx) : ∃ news', News h₀ L h' news' ∧ RingPost P cR cS f g news (.ref x) news' :=
  have N' : News h₀ L h' ((s2, instObj cS d2) :: (d2, shO P g 136 t1 t2 t3 t4 t5 t6 t7) :: (s1, instObj cS d1) :: (d1, shO P f 168 u1 u2 u3 u4 u5 u6 u7) :: (x, instObj cR dx) :: (dx, ringO P s1 s2 z v1 v2 v3 v4 v5 v6 v7 v8 v9) :: news) := fun p hp => N p (by
    rcases List.mem_cons.mp hp with h | hp
    · subst h; exact .tail _ (.head _)
    rcases List.mem_cons.mp hp with h | hp
    · subst h; exact .tail _ (.tail _ (.head _))
    rcases List.mem_cons.mp hp with h | hp
    · subst h; exact .tail _ (.tail _ (.tail _ (.head _)))
    rcases List.mem_cons.mp hp with h | hp
    · subst h; exact .tail _ (.tail _ (.tail _ (.tail _ (.head _))))
    exact .tail _ (.tail _ (.tail _ (.tail _ (.tail _ (.tail _ (.tail _ hp)))))))
  ⟨_, N', _, _, _, _, _, _, _, _, _, _, _, _, _, _, _, _, _, _, _, _, _, _, _, _, _, _, _, _, _, _, rfl, rfl, h1, h2, h3, h4, h5, allLt_of h6⟩
end Mine
end
section
open Mine
local macro_rules | `(tactic| k_enter) => `(tactic| first | (refine' code_def ?k1 ?k2 ?k3 ?k4 ?k5 ?kA ?kF ?kK ?k6 ?k7 ?k8 ?k9 ?kB ?_ ?c2 ?c3 ?c4 ?c5; (case kA => exact rfl); (case kF => exact rfl); (case kK => first | exact rfl | assumption); (case k1 => k_asm); (case k2 => k_asm); (case k3 => k_asm); (case k4 => k_asm); (case k5 => k_asm); (case k6 => k_is); (case k7 => k_is); (case k8 => ktr_room); (case k9 => first | exact BindsTo.of_eq rfl | exact binds_K (by k_in) rfl (by k_is) rfl rfl rfl); (case c5 => decide); (case kB => exact locs rfl); (case c2 => exact rfl); (case c3 => exact rfl); (case c4 => exact rfl); k_whole; intro g' L' h' FG' F' N' B' X' T'; (try dsimp only); (try k_lift B'); (try k_fold)) | (refine' code_defC ?k1 ?k2 ?k3 ?k4 ?k5 ?kA ?kF ?kK ?k6 ?k7 ?k8 ?k9 ?kB ?kD ?_ ?c2 ?c3 ?c4; (case kA => exact rfl); (case kF => exact rfl); (case kK => first | exact rfl | assumption); (case k1 => k_asm); (case k2 => k_asm); (case k3 => k_asm); (case k4 => k_asm); (case k5 => k_asm); (case k6 => k_is); (case k7 => k_is); (case k8 => ktr_room); (case k9 => first | exact BindsTo.of_eq rfl | exact binds_K (by k_in) rfl (by k_is) rfl rfl rfl); (case kB => exact rfl); (case kD => decide +kernel); (case c2 => exact rfl); (case c3 => exact rfl); (case c4 => exact rfl); k_whole; intro g' L' h' tk' cells' FG' F' N' Y' B' X' T' l1; have l2 := lt_up l1 1; (simp only [AllLt, and_true] at l2); have l3 := lt_up l1 2; (simp only [AllLt, and_true] at l3); have l4 := lt_up l1 3; (simp only [AllLt, and_true] at l4); have l5 := lt_up l1 4; (simp only [AllLt, and_true] at l5); (try k_lt l1); k_cells Y'; (try simp only [List.cons_append, List.nil_append] at N'); (try dsimp only); (try k_lift B'); (try k_fold)))
local macro_rules | `(tactic| kn_enter) => `(tactic| (refine' code_nest ?k1 ?k2 ?k3 ?k4 ?k5 ?kA ?kF ?kK ?k6 ?k7 ?k8 ?k9 ?kB ?_ ?c2 ?c3 ?c4 ?c5; (case kA => exact rfl); (case kF => exact rfl); (case kK => first | exact rfl | assumption); (case k1 => k_asm); (case k2 => k_asm); (case k3 => k_asm); (case k4 => k_asm); (case k5 => k_asm); (case k6 => k_mem); (case k7 => exact codeRec_news (by k_asm) (by k_mem) (by assumption) (by assumption)); (case k8 => ktr_room); (case k9 => exact BindsTo.of_eq rfl); (case c5 => decide); (case kB => exact locs rfl); (case c2 => exact rfl); (case c3 => exact rfl); (case c4 => exact rfl); k_whole; intro g' L' h' FG' F' N' B' X' T'; (try dsimp only); (try k_lift B'); (try k_fold)))
section
open PySem PySem.W PyProof.Rows PySem.Calls
set_option maxRecDepth 100000
set_option rowWalk.seconds 0
namespace Mine
local macro_rules | `(tactic| walk_at "clear ne") => `(tactic| (repeat (first | (rename (_ ∧ _) ∧ _ => hz9; clear hz9) | (rename _ ≠ _ ∧ _ => hz9; clear hz9))))
local macro_rules | `(tactic| walk_at "call builtin:pow") => `(tactic| first | k_dflt (refine call_pow3 (gives_int_pow3 (by omega)) ?_) | k_dflt (refine call_pow3 gives_int_inv ?_))
local macro_rules | `(tactic| walk_at "call ref") => `(tactic| (k_here; k_dflt (refine' use_says (br_says _ _ _ _ _ ?b0 ?b1) ?k1 ?k2 ?k3 ?k4 ?k5 ?kK ?kd ?ku ?_; (case k1 => k_asm); (case k2 => k_asm); (case k3 => k_asm); (case k4 => k_asm); (case k5 => k_asm); (case kK => first | exact rfl | assumption); (case b0 => (walk_at "clear ne"; omega)); (case b1 => (walk_at "clear ne"; omega)); (case kd => ktr_room); (case ku => (simp only [un_make, units_in1, units_deeper, Around.mark_units] ; (try dsimp only [ktrTop]); omega))); intro r9 n9 h9 tk9 F9 N9 hp9; obtain ⟨t9, hr9, hv9, hn9⟩ := hp9; subst hr9; subst hn9; (try dsimp only)))
set_option maxHeartbeats 4000000 in
theorem ring_says (w : World) (f g : Addr) (news : List (Addr × Obj)) :
    Says PySem.Challenge.rw_bd0004_02.row.prog w (Mine.K w.params) 60 (.ref 388) [.ref f, .ref g] news (fun r news' => RingPost w.params 388 278 f g news r news') := by
  unfold Says; k_fill
  intro p loose mean mg mb dp un gd cn cs a ccd cl outer A₀ base h₀ L m s Q E B F X N T hk hdp hun hret
  k_steps
  (rename ∀ (p : Addr × Obj), p ∈ news → _ => hA)
  (rename News _ _ _ _ => NE)
  obtain ⟨n', N', P'⟩ := ring_end NE (by assumption) (And.left (by assumption)) (by assumption) (And.left (And.right (And.right (by assumption)))) (by assumption) hA
  exact hret _ _ _ _ (by assumption) N' P'
end Mine
end
section
open PySem PySem.W PyProof.Rows PySem.Calls
namespace Mine
/-- the first n octets that a row brings, noughts behind it -/
def pre (S : List Int) (n : Nat) : List Int := (S ++ List.replicate n 0).take n
/-- n octets from place i on -/
def win (S : List Int) (i n : Nat) : List Int := (List.range n).map fun k => S.getD (i + k) 0
theorem pre_len (S : List Int) (n : Nat) : (pre S n).length = n := by simp [pre]
theorem pre_get (S : List Int) (n i : Nat) (h : i < n) : (pre S n).getD i 0 = S.getD i 0 := by
  unfold pre
  rw [List.getD_eq_getElem?_getD, List.getD_eq_getElem?_getD, List.getElem?_take_of_lt h]
  by_cases hi : i < S.length
  · rw [List.getElem?_append_left hi]
  · rw [List.getElem?_append_right (by omega), List.getElem?_replicate, List.getElem?_eq_none (l := S) (by omega)]
    split <;> rfl
theorem win_of (S : List Int) {i n m : Nat} (h : i + n ≤ m) : ((pre S m).drop i).take n = win S i n := by
  apply List.ext_getElem?
  intro k
  unfold win
  by_cases hk : k < n
  · rw [List.getElem?_take_of_lt hk, List.getElem?_drop, List.getElem?_map, List.getElem?_range hk]
    have h1 : i + k < (pre S m).length := by rw [pre_len]; omega
    have h2 := pre_get S m (i + k) (by omega)
    rw [List.getD_eq_getElem?_getD, List.getElem?_eq_getElem h1] at h2
    rw [List.getElem?_eq_getElem h1]
    simp at h2
    simp [h2]
  · rw [List.getElem?_eq_none (by simp; omega), List.getElem?_eq_none (by simp; omega)]
theorem cut_win {S ks : List Int} {idx n lb : Nat} (h : idx + n ≤ lb)
    (e : ks = List.take ((some ((idx : Int) + n)).elim lb (clipAt lb) - (some (idx : Int)).elim 0 (clipAt lb)) (List.drop ((some (idx : Int)).elim 0 (clipAt lb)) (pre S lb))) : ks = win S idx n := by
  rw [e]
  show List.take (clipAt lb ((idx : Int) + n) - clipAt lb (idx : Int)) (List.drop (clipAt lb (idx : Int)) (pre S lb)) = _
  rw [show ((idx : Int) + (n : Int)) = ((idx + n : Nat) : Int) by omega, clipAt_nat, clipAt_nat, Nat.min_eq_left h, Nat.min_eq_left (by omega : idx ≤ lb), Nat.add_sub_cancel_left]
  exact win_of S h
theorem win_len (S : List Int) (i n : Nat) : (win S i n).length = n := by simp [win]
/-- a Shake that has absorbed -/
abbrev shS (P : Params) (alg : Addr) (bl : Int) (b : Array UInt8) (lb idx : Int) (sb : Array UInt8) (t1 t2 t3 t4 t5 t6 t7 t8 t9 t10 t11 : Tok) : Obj :=
  dictOf [kE P "algorithm" t1 (.ref alg), kE P "block_length" t2 (.int bl t3), kE P "buf" t4 (.bytes b t5), kE P "len_buf" t6 (.int lb t7), kE P "index" t8 (.int idx t9), kE P "input_bytes" t10 (.bytes sb t11)] 6
/-- .. over the row S -/
structure ShAt (P : Params) (alg : Addr) (bl : Int) (sb : Array UInt8) (S : List Int) (lb idx : Nat) (o : Obj) : Prop where
  form : ∃ b t1 t2 t3 t4 t5 t6 t7 t8 t9 t10 t11, o = shS P alg bl b (lb : Int) (idx : Int) sb t1 t2 t3 t4 t5 t6 t7 t8 t9 t10 t11 ∧ KBw.bInts b = pre S lb
/-- from place i on the row brings refused octets, and then the octet j, which is taken; the next place is i' -/
structure Rej (S : List Int) (own : Int) (i i' : Nat) (j : Int) : Prop where
  lt : i < i'
  le : i' ≤ 20000
  at' : S.getD (i' - 1) 0 = j
  ok : j ≤ own
  off : ∀ m, i ≤ m → m + 1 < i' → own < S.getD m 0
theorem Rej.take {S : List Int} {own j : Int} {i i' : Nat} (h : Rej S own i i' j) {k : Nat} (h1 : i ≤ k) (h2 : k < i') (h3 : S.getD k 0 ≤ own) : S.getD k 0 = j ∧ k + 1 = i' := by
  by_cases e : k + 1 < i'
  · have := h.off k h1 e; omega
  · have e2 : k + 1 = i' := by omega
    refine ⟨?_, e2⟩
    have := h.at'
    rwa [show i' - 1 = k by omega] at this
theorem Rej.pass {S : List Int} {own j : Int} {i i' : Nat} (h : Rej S own i i' j) {k : Nat} (h2 : k < i') (h3 : ¬ S.getD k 0 ≤ own) : k + 1 < i' := by
  by_cases e : k + 1 < i'
  · exact e
  · have := h.at'
    rw [show i' - 1 = k by omega] at this
    have := h.ok
    omega
/-- what the row brings for each step -/
def Feed (S : List Int) : Nat → Int → List (Int × Int) → Prop
  | _, _, [] => True
  | i, own, p :: r => (0 ≤ p.1 ∧ ∃ i', Rej S own i i' p.1 ∧ Feed S i' (own + 1) r)
/-- what a handed-in stream gives: the row, by its count -/
structure AlgSays (prog : Program) (w : World) (K : Frag) (alg : Addr) (gl : List (Addr × Obj)) (sb : Array UInt8) (S : List Int) : Prop where
  fn : ∃ oc od fd sl, (alg, (⟨oc, od, .func fd, sl⟩ : Obj)) ∈ gl
  run : ∀ (news : List (Addr × Obj)) (k : Int) (n : Nat) (ts tn : Tok), (∀ p ∈ gl, p ∈ news) → k = (n : Int) → n ≤ 100000 → Says prog w K 20 (.ref alg) [.bytes sb ts, .int k tn] news (fun r news' => ∃ b t, r = .bytes b t ∧ KBw.bInts b = pre S n ∧ news' = news)
theorem pull2 {h₀ h : Heap} {L : Addr} {a b p q : Addr × Obj} {rest : List (Addr × Obj)} (N : News h₀ L h (a :: b :: p :: q :: rest)) : News h₀ L h (p :: q :: a :: b :: rest) := fun x hx => N x (by
  simp only [List.mem_cons] at hx ⊢
  rcases hx with h | h | h | h | h <;> simp [h])
theorem off_cons {x : Addr × Obj} {l : List (Addr × Obj)} {ds : List Addr} (h : ∀ b ∈ ds, x.1 ≠ b) (hl : OwnOff l ds) : OwnOff (x :: l) ds := fun p hp => by
  rcases List.mem_cons.mp hp with e | hp
  · rw [e]; exact h
  · exact hl p hp
theorem off_less {l : List (Addr × Obj)} {ds es : List Addr} (hl : OwnOff l ds) (h : ∀ b ∈ es, b ∈ ds) : OwnOff l es := fun p hp b hb => hl p hp b (h b hb)
theorem off_one {d : Addr} {x : Addr × Obj} {l : List (Addr × Obj)} (h : @Ne Nat x.1 d) (hl : OwnOff l [d]) : OwnOff (x :: l) [d] := off_cons (ds := [d]) (fun b hb => by rw [List.mem_singleton.mp hb]; exact h) hl
theorem off_app {a b : List (Addr × Obj)} {ds : List Addr} (ha : OwnOff a ds) (hb : OwnOff b ds) : OwnOff (a ++ b) ds := fun p hp => by
  rcases List.mem_append.mp hp with h | h
  · exact ha p h
  · exact hb p h
theorem off_nil {ds : List Addr} : OwnOff [] ds := fun _ h => nomatch h
/-- as Says, where a code's table of own codes is laid aside -/
def SaysC (c P : Addr) (prog : Program) (w : World) (K : Frag) (d : Nat) (f : Value) (vs : List Value) (news : List (Addr × Obj)) (Post : Value → List (Addr × Obj) → Prop) : Prop :=
  ∀ (p : Program) (loose : List Str) (mean : ExcName → Option Value) (mg mb : Str → Option Value) (dp un : Nat) (gd : Option (List Code)) (cn : Str) (cs : Scope) (a : Addr) (ccd : Value) (cl : List (Str × Addr)) (outer : List Env) (A₀ : Around) (base h₀ : Heap) (L : Addr) (m : Str → Option Value) (s : Shared) (Q E : Value → Shared → Prop),
    Below A₀ base outer h₀ → Fr h₀ L s.heap m → K.In h₀ → News h₀ L s.heap news → Top p loose mean mg mb h₀ → CodeHd base c P → cs.kind = .function → dp + d < recursionLimit → un + 8 * d < cLine →
    (∀ r news' h' tk', Fr h₀ L h' m → News h₀ L h' news' → Post r news' → Q r { s with heap := h', toks := tk' }) →
    wpAny (model prog w) (ktrTop dp un gd cn cs L a ccd cl outer) (call f vs) Q E s
theorem use_saysC {c P : Addr} {prog : Program} {w : World} {K : Frag} {d : Nat} {f : Value} {vs : List Value} {news : List (Addr × Obj)} {Post : Value → List (Addr × Obj) → Prop} {p : Program} {loose : List Str} {mean : ExcName → Option Value} {mg mb : Str → Option Value} {dp un : Nat} {gd : Option (List Code)} {cn : Str} {cs : Scope} {a : Addr} {ccd : Value} {cl : List (Str × Addr)} {outer : List Env} {A₀ : Around} {base h₀ : Heap} {L : Addr} {m : Str → Option Value} {s : Shared} {Q E : Value → Shared → Prop}
    (S : SaysC c P prog w K d f vs news Post) (B : Below A₀ base outer h₀) (F : Fr h₀ L s.heap m) (X : K.In h₀) (N : News h₀ L s.heap news) (T : Top p loose mean mg mb h₀) (C : CodeHd base c P) (hk : cs.kind = .function) (hd : dp + d < recursionLimit) (hu : un + 8 * d < cLine)
    (ret : ∀ r news' h' tk', Fr h₀ L h' m → News h₀ L h' news' → Post r news' → Q r { s with heap := h', toks := tk' }) :
    wpAny (model prog w) (ktrTop dp un gd cn cs L a ccd cl outer) (call f vs) Q E s := by unfold SaysC at S; apply S <;> assumption
end Mine
namespace Mine
section
variable {prog : Program} {w : World} {A : Around} {E : Value → Shared → Prop} {Q : Flow → Shared → Prop} {s : Shared} {env : Env} {h₀ : Heap} {L : Addr}
abbrev SigR := Obj × Nat
abbrev RdEnd (P : Params) (alg : Addr) (bl : Int) (sb : Array UInt8) (S : List Int) (h₀ : Heap) (L d2 : Addr) (cst : List (Addr × Obj)) (lb0 idx n : Nat) (m₀ : Str → Option Value) (s : Shared) (c : SigR) (s₂ : Shared) : Prop :=
  KswEnd h₀ L s (fun c : SigR => (d2, c.1) :: cst) (fun _ => []) (fun c => ShAt P alg bl sb S c.2 idx c.1) [] m₀ (fun c => c.2 = lb0 ∨ (c.2 = 2 * lb0 ∧ lb0 < idx + n)) (fun c => idx + n - c.2) c s₂
theorem read_loop {test : Expr} {body : List Stmt} {pos : Pos} {m₀ : Str → Option Value} {P : Params} {alg d2 : Addr} {bl : Int} {sb : Array UInt8} {S : List Int} {lb0 idx n : Nat} {o : Obj} {cst : List (Addr × Obj)}
    (F : Fr h₀ L s.heap m₀) (N : News h₀ L s.heap ((d2, o) :: cst)) (ho : ShAt P alg bl sb S lb0 idx o)
    (turn : ∀ (o : Obj) (lb : Nat) h tk, ShAt P alg bl sb S lb idx o → (lb = lb0 ∨ (lb = 2 * lb0 ∧ lb0 < idx + n)) → Fr h₀ L h m₀ → News h₀ L h ((d2, o) :: cst) →
      wpAny (model prog w) A (isTrue test env (eval test env)) (fun b s₂ =>
        if b = true then wpAny (model prog w) A (execs body env) (KswPost h₀ L s (fun c : SigR => (d2, c.1) :: cst) (fun _ => []) (fun c => ShAt P alg bl sb S c.2 idx c.1) [] m₀ (fun c => c.2 = lb0 ∨ (c.2 = 2 * lb0 ∧ lb0 < idx + n)) (fun c => idx + n - c.2) Q (o, lb)) E s₂ else Q .next s₂) E { s with heap := h, toks := tk })
    (hE : PassesOwn (model prog w) A env E := by passes_own) :
    wpAny (model prog w) A (exec (.While test body [] pos) env) Q E s := by
  refine ksw_while (σ := SigR) (fun c => (d2, c.1) :: cst) (fun _ => []) (fun c => ShAt P alg bl sb S c.2 idx c.1) [] (fun c => c.2 = lb0 ∨ (c.2 = 2 * lb0 ∧ lb0 < idx + n)) (fun c => idx + n - c.2) (o, lb0) F N ho (List.forall_mem_nil _) (.inl rfl) ?_ hE
  rintro ⟨o, lb⟩ u h tk ho hP F₁ N₁
  have e : (kstB (fun z => if ([] : List Str).contains z then u z else m₀ z) []) = m₀ := by
    funext z
    show (if ([] : List Str).contains z = true then u z else m₀ z) = m₀ z
    simp
  rw [e] at F₁
  exact turn o lb h tk ho hP F₁ N₁
end
end Mine
end
section
open PySem PySem.W PyProof.Rows PySem.Calls
set_option maxRecDepth 100000
set_option rowWalk.seconds 0
namespace Mine
local macro_rules | `(tactic| walk_at "exec While Compare cons nil") => `(tactic| refine Hold.out ?_)
local macro_rules | `(tactic| walk_at "FnAt") => `(tactic| k_dflt (rename @Membership.mem (Addr × Obj) _ _ _ _ => hfn'; exact FnAt.of (by k_asm) (.tail _ (.tail _ hfn'))))
local macro_rules | `(tactic| walk_at "callWith ref") => `(tactic| k_dflt (rename @Membership.mem (Addr × Obj) _ _ _ _ => hfn'; refine' callWith_F ?k1 ?_; (case k1 => exact FnAt.of (by k_asm) (.tail _ (.tail _ hfn'))); k_whole))
local macro_rules | `(tactic| walk_at "call ref") => `(tactic| k_dflt (rename AlgSays _ _ _ _ _ _ _ => hA'; rename (∀ p ∈ _, p ∈ _) => hg'; refine' use_says (hA'.run _ _ (Nat.mul _ 2) _ _ ?zg (by exact rfl) ?zn) ?B ?F ?X ?N ?T ?k ?d ?u ?_; (case B => assumption); (case F => assumption); (case X => assumption); (case N => assumption); (case T => assumption); (case zg => intro p hp; exact .tail _ (.tail _ (hg' p hp))); (case zn => (show _ * 2 ≤ 100000); omega); (case k => first | exact rfl | assumption); (case d => ktr_room); (case u => (simp only [un_make, units_in1, units_deeper, Around.mark_units]; (try dsimp only [ktrTop]); omega)); intro r9 n9 h9 tk9 F9 N9 hp9; obtain ⟨b9, t9, hr9, hb9, hn9⟩ := hp9; subst hr9; subst hn9; (try dsimp only)))
local macro_rules | `(tactic| walk_at "subscriptTail") => `(tactic| k_dflt ((show wpAny _ _ (subscriptTail _ (Expr.Slice _ _ none _) (Value.bytes _ _) (Value.ref _)) _ _ _); rename Fr _ _ _ _ => F'; rename News _ _ _ _ => N'; rename KBw.bInts _ = pre _ _ => hbb; (refine' KBc.slice_K (s := ⟨_, _, _, _, _⟩) F' N' hbb (by constructor) (by constructor) ?z ?_); (case z => rw [pre_len]; omega); intro _ _ _ F' N' kbcK; rw [pre_len] at kbcK))
set_option maxHeartbeats 4000000 in
theorem read_says (w : World) (alg d2 s2 : Addr) (bl : Int) (gl rest : List (Addr × Obj)) (sb : Array UInt8) (S : List Int) (lb idx n : Nat) (o : Obj) (tn : Tok)
    (hA : AlgSays PySem.Challenge.rw_bd0004_02.row.prog w (Mine.K w.params) alg gl sb S) (hg : ∀ p ∈ gl, p ∈ rest) (ho : ShAt w.params alg bl sb S lb idx o) (hoff : OwnOff rest [d2]) (hne : @LT.lt Nat _ d2 s2) (h1 : idx ≤ lb) (h2 : n ≤ 8) (h3 : 8 ≤ lb) (h4 : lb ≤ 40000) :
    Says PySem.Challenge.rw_bd0004_02.row.prog w (Mine.K w.params) 40 (.ref 268) [.ref s2, .int (n : Int) tn] ((d2, o) :: (s2, instObj 278 d2) :: rest) (fun r news' => ∃ b t o' lb', r = .bytes b t ∧ KBw.bInts b = win S idx n ∧ ShAt w.params alg bl sb S lb' (idx + n) o' ∧ (lb' = lb ∨ (lb' = 2 * lb ∧ lb < idx + n)) ∧ idx + n ≤ lb' ∧ news' = (d2, o') :: (s2, instObj 278 d2) :: rest) := by
  obtain ⟨b, t1, t2, t3, t4, t5, t6, t7, t8, t9, t10, t11, rfl, hb⟩ := ho.form
  obtain ⟨oca, oda, fda, sla, hfn⟩ := hA.fn
  replace hfn := hg _ hfn
  unfold Says; k_fill
  intro p loose mean mg mb dp un gd cn cs a ccd cl outer A₀ base h₀ L m s Q E B F X N T hk hdp hun hret
  refine wpAny_call ?_
  k_dflt k_enter
  k_steps
  unfold Hold
  refine read_loop (n := n) (by assumption) (by assumption) ho ?_
  intro o₁ lb₁ h tk ho₁ hlb F N
  obtain ⟨b₁, t1, t2, t3, t4, t5, t6, t7, t8, t9, t10, t11, rfl, hb₁⟩ := ho₁.form
  k_steps
  · rename News _ _ _ _ => nE
    rename Fr _ _ _ _ => fE
    rename KBw.bInts _ = pre S (Nat.mul lb₁ 2) => hb9
    k_dflt (refine' ksw_end (?zo, lb₁ * 2) fE nE (fun p hp => hp) ⟨⟨_, _, _, _, _, _, _, _, _, _, _, _, rfl, hb9⟩⟩ (List.forall_mem_nil _) (fun _ _ _ => rfl) ?_ ?_)
    · show lb₁ * 2 = lb ∨ (lb₁ * 2 = 2 * lb ∧ lb < idx + n)
      omega
    · show idx + n - lb₁ * 2 < idx + n - lb₁
      omega
  · rename Fr h₀ L _ m => fE
    rename News h₀ L _ _ => nE
    rename KBw.bInts _ = List.take _ _ => kc
    rename KBw.bInts b₁ = pre S lb₁ => hb₁
    have hle : idx + n ≤ lb₁ := by omega
    k_dflt (exact hret _ _ _ _ fE nE ⟨_, _, _, lb₁, rfl, cut_win hle kc, ⟨⟨_, _, _, _, _, _, _, _, _, _, _, _, rfl, hb₁⟩⟩, hlb, hle, rfl⟩)
end Mine
end
section
open PySem PySem.W PyProof.Rows PySem.Calls
namespace Mine
theorem win_digs (g : Int) (os : List Int) : win (digs g ++ os) 0 8 = digs g := rfl
theorem digs_eq (g : Int) : digs g = [g % 256, g / 256 % 256, g / 65536 % 256, g / 16777216 % 256, g / 4294967296 % 256, g / 1099511627776 % 256, g / 281474976710656 % 256, g / 72057594037927936 % 256] := by
  show [(g.fdiv 1).fmod 256, (g.fdiv 256).fmod 256, (g.fdiv 65536).fmod 256, (g.fdiv 16777216).fmod 256, (g.fdiv 4294967296).fmod 256, (g.fdiv 1099511627776).fmod 256, (g.fdiv 281474976710656).fmod 256, (g.fdiv 72057594037927936).fmod 256] = _
  simp only [fun a : Int => fm a 256 (by decide), fd g 1 (by decide), fd g 256 (by decide), fd g 65536 (by decide), fd g 16777216 (by decide), fd g 4294967296 (by decide), fd g 1099511627776 (by decide), fd g 281474976710656 (by decide), fd g 72057594037927936 (by decide), Int.ediv_one]
theorem val_digs {g : Int} (h0 : 0 ≤ g) (h1 : g < 2 ^ 64) : KFB.value (digs g).reverse = g := by
  rw [digs_eq]
  simp only [KFB.value, List.reverse_cons, List.reverse_nil, List.nil_append, List.cons_append, List.foldl_cons, List.foldl_nil]
  have h2 : (2 : Int) ^ 64 = 18446744073709551616 := rfl
  omega
end Mine
namespace Mine
/-- the place that the refusing loop stands at -/
structure RejIn (idx idx' lb i : Nat) : Prop where
  a : idx ≤ i
  b : i < idx'
  c : i ≤ lb
  d : 8 ≤ lb
  e : lb ≤ 40000
/-- after t of the steps -/
structure BallIn (S : List Int) (own0 : Int) (st : List (Int × Int)) (t idx lb : Nat) (co : List Int) (gs : Int) : Prop where
  feed : Feed S idx (own0 + (t : Int)) (st.drop t)
  le : idx ≤ lb
  lo : 8 ≤ lb
  hi : lb ≤ 40000
  len : co.length = 256
  g0 : 0 ≤ gs
  sg : SgOk gs (st.drop t)
  val : ∀ x : Nat, x < 256 → co.getD x 0 = fwdAll (fun _ => 0) own0 (st.take t) x
section
variable {prog : Program} {w : World} {A : Around} {E : Value → Shared → Prop} {Q : Flow → Shared → Prop} {s : Shared} {env : Env} {h₀ : Heap} {L : Addr} {x : Str} {body : List Stmt}
abbrev SigJ := Obj × Nat × Nat
theorem rej_loop {test : Expr} {body : List Stmt} {pos : Pos} {m₀ : Str → Option Value} {P : Params} {alg d2 : Addr} {bl : Int} {sb : Array UInt8} {S : List Int} {lb0 idx idx' : Nat} {own j : Int} {o : Obj} {cst : List (Addr × Obj)} (stored : List Str)
    (F : Fr h₀ L s.heap m₀) (N : News h₀ L s.heap ((d2, o) :: cst)) (ho : ShAt P alg bl sb S lb0 idx o) (hR : Rej S own idx idx' j) (h1 : idx ≤ lb0) (h2 : 8 ≤ lb0) (h3 : lb0 ≤ 40000)
    (turn : ∀ (o : Obj) (lb i : Nat) (u : Str → Option Value) h tk, ShAt P alg bl sb S lb i o → RejIn idx idx' lb i → Fr h₀ L h (fun z => if stored.contains z then u z else m₀ z) → News h₀ L h ((d2, o) :: cst) →
      wpAny (model prog w) A (isTrue test env (eval test env)) (fun b s₂ =>
        if b = true then wpAny (model prog w) A (execs body env) (KswPost h₀ L s (fun c : SigJ => (d2, c.1) :: cst) (fun _ => []) (fun c => ShAt P alg bl sb S c.2.1 c.2.2 c.1) stored m₀ (fun c => RejIn idx idx' c.2.1 c.2.2) (fun c => idx' - c.2.2) Q (o, lb, i)) E s₂ else Q .next s₂) E { s with heap := h, toks := tk })
    (hE : PassesOwn (model prog w) A env E := by passes_own) :
    wpAny (model prog w) A (exec (.While test body [] pos) env) Q E s := by
  refine ksw_while (σ := SigJ) (fun c => (d2, c.1) :: cst) (fun _ => []) (fun c => ShAt P alg bl sb S c.2.1 c.2.2 c.1) stored (fun c => RejIn idx idx' c.2.1 c.2.2) (fun c => idx' - c.2.2) (o, lb0, idx) F N ho (List.forall_mem_nil _) ⟨Nat.le_refl _, hR.lt, h1, h2, h3⟩ ?_ hE
  rintro ⟨o, lb, i⟩ u h tk ho hP F₁ N₁
  exact turn o lb i u h tk ho hP F₁ N₁
abbrev SigB := Obj × Nat × Nat × List Value × List Int × Nat × Int × Tok
abbrev blLed (d2 s2 lo : Addr) (so : Obj) (cst : List (Addr × Obj)) (c : SigB) : List (Addr × Obj) := (d2, c.1) :: (s2, so) :: (lo, listOf c.2.2.2.1.toArray c.2.2.2.2.2.1) :: cst
abbrev blFacts (P : Params) (alg : Addr) (bl : Int) (sb : Array UInt8) (S : List Int) (c : SigB) : Prop := ShAt P alg bl sb S c.2.1 c.2.2.1 c.1 ∧ IntsAre c.2.2.2.1 c.2.2.2.2.1
abbrev BlS (P : Params) (alg : Addr) (bl : Int) (sb : Array UInt8) (S : List Int) (d2 s2 lo : Addr) (so : Obj) (cst : List (Addr × Obj)) (y : Str) (stored : List Str) (m₀ : Str → Option Value) (own0 : Int) (st : List (Int × Int)) (x : Str) (pre : List Int) : (Str → Option Value) → List (Addr × Obj) → Prop :=
  KstS (blLed d2 s2 lo so cst) (fun c => [(y, .int c.2.2.2.2.2.2.1 c.2.2.2.2.2.2.2)]) (blFacts P alg bl sb S) x stored m₀ (fun pre c => BallIn S own0 st pre.length c.2.2.1 c.2.1 c.2.2.2.2.1 c.2.2.2.2.2.2.1) pre
theorem ball_loop {r : Addr} {a₀ b₀ : Int} {t₀ u₀ v₀ : Tok} {n : Nat} {m₀ : Str → Option Value} {P : Params} {alg d2 s2 lo : Addr} {so : Obj} {bl : Int} {sb : Array UInt8} {S : List Int} {lb0 idx : Nat} {o : Obj} {cst : List (Addr × Obj)} {vo : List Value} {co : List Int} {no : Nat} {gs : Int} {tg : Tok} {st : List (Int × Int)} (y : Str) (stored : List Str)
    (hh : A.handled = none) (hr : IsRange s.heap r a₀ b₀ 1 t₀ u₀ v₀) (hsmall : Builtin.Range.small a₀ b₀ 1 = true) (hn : Builtin.Range.rangeSize a₀ b₀ 1 = (n : Int)) (F : Fr h₀ env.locals s.heap m₀)
    (N : News h₀ env.locals s.heap ((d2, o) :: (s2, so) :: (lo, listOf vo.toArray no) :: cst)) (ho : ShAt P alg bl sb S lb0 idx o) (hi : IntsAre vo co) (hy : m₀ y = some (.int gs tg)) (hp : BallIn S a₀ st 0 idx lb0 co gs)
    (turn : ∀ (o : Obj) (lb i : Nat) (vo : List Value) (co : List Int) (no : Nat) (gs : Int) (tg : Tok) (pre : List Int) (k : Int) t (u : Str → Option Value) h tk own, k = a₀ + (pre.length : Int) → pre.length < n → OwnOff own (d2 :: s2 :: lo :: cst.map (·.1)) → ShAt P alg bl sb S lb i o → IntsAre vo co → BallIn S a₀ st pre.length i lb co gs →
      Fr h₀ env.locals h (fun z => if z = x then some (.int k t) else if z = y then some (.int gs tg) else if stored.contains z then u z else m₀ z) → News h₀ env.locals h ((d2, o) :: (s2, so) :: (lo, listOf vo.toArray no) :: (cst ++ own)) →
      wpAny (model prog w) A (execs body env) (InvPostN h₀ env.locals (BlS P alg bl sb S d2 s2 lo so cst y stored m₀ a₀ st x (pre ++ [k])) own (d2 :: s2 :: lo :: cst.map (·.1)) { s with heap := h, toks := tk } Q) E { s with heap := h, toks := tk })
    (done : ∀ (o : Obj) (lb i : Nat) (vo : List Value) (co : List Int) (no : Nat) (gs : Int) (tg : Tok) (u : Str → Option Value) h tk, ShAt P alg bl sb S lb i o → IntsAre vo co → BallIn S a₀ st n i lb co gs → Fr h₀ env.locals h (fun z => if z = x then u z else if z = y then some (.int gs tg) else if stored.contains z then u z else m₀ z) → News h₀ env.locals h ((d2, o) :: (s2, so) :: (lo, listOf vo.toArray no) :: cst) → Q .next { s with heap := h, toks := tk }) :
    wpAny (model prog w) A (pyIter (.ref r)) (fun it s₂ => LoopAtV prog w A h₀ env x body Q E it s₂) E s := by
  refine kst_range (σ := SigB) (n := n) (blLed d2 s2 lo so cst) (fun c => [(y, .int c.2.2.2.2.2.2.1 c.2.2.2.2.2.2.2)]) (blFacts P alg bl sb S) stored (fun pre c => BallIn S a₀ st pre.length c.2.2.1 c.2.1 c.2.2.2.2.1 c.2.2.2.2.2.2.1) (o, lb0, idx, vo, co, no, gs, tg) hh hr hsmall hn F N ⟨ho, hi⟩ (fun p hp => by rw [List.mem_singleton.mp hp]; exact hy) hp ?_ ?_
  · rintro ⟨o, lb, i, vo, co, no, gs, tg⟩ pre k t u h tk own hk hlt hoff ⟨hf, hf2⟩ hP F₁ N₁
    exact turn o lb i vo co no gs tg pre k t u h tk own hk hlt hoff hf hf2 hP F₁ N₁
  · rintro ⟨o, lb, i, vo, co, no, gs, tg⟩ u h tk ⟨hf, hf2⟩ hP F₁ N₁
    rw [rangeKs_length] at hP
    exact done o lb i vo co no gs tg u h tk hf hf2 hP F₁ N₁
theorem ball_end {m₀ m' : Str → Option Value} {P : Params} {alg d2 s2 lo : Addr} {so : Obj} {bl : Int} {sb : Array UInt8} {S : List Int} {lb i : Nat} {o : Obj} {cst own : List (Addr × Obj)} {vo : List Value} {co : List Int} {no : Nat} {gs : Int} {tg : Tok} {st : List (Int × Int)} {own0 : Int} {y : Str} {stored : List Str} {pre : List Int} {k : Int} {news' : List (Addr × Obj)} {s₁ : Shared} {h' : Heap} {tk : Nat}
    (F : Fr h₀ L h' m') (N : News h₀ L h' news') (h1 : (d2, o) ∈ news') (h2 : (s2, so) ∈ news') (hl : (lo, listOf vo.toArray no) ∈ news') (hc : ∀ p ∈ cst, p ∈ news') (ho : ∀ p ∈ own, p ∈ news')
    (hy : m' y = some (.int gs tg)) (hm : ∀ z, z ≠ x → z ≠ y → stored.contains z = false → m' z = m₀ z) (hs : ShAt P alg bl sb S lb i o) (hi : IntsAre vo co) (hP : BallIn S own0 st (pre.length + 1) i lb co gs) :
    InvEndN h₀ L (BlS P alg bl sb S d2 s2 lo so cst y stored m₀ own0 st x (pre ++ [k])) own (d2 :: s2 :: lo :: cst.map (·.1)) s₁ { s₁ with heap := h', toks := tk } :=
  kst_end (σ := SigB) (o, lb, i, vo, co, no, gs, tg) F N (fun p hp => by
    rcases List.mem_cons.mp hp with rfl | hp
    · exact h1
    rcases List.mem_cons.mp hp with rfl | hp
    · exact h2
    rcases List.mem_cons.mp hp with rfl | hp
    · exact hl
    · exact hc p hp) ho rfl ⟨hs, hi⟩ (fun p hp => by rw [List.mem_singleton.mp hp]; exact hy) (fun z h1 h2 h3 => hm z h1 (h2 _ (.head _)) h3) (by rw [List.length_append]; exact hP)
end
end Mine
namespace Mine
structure StepAt (S : List Int) (own0 : Int) (st : List (Int × Int)) (t idx i' : Nat) (gs : Int) (p : Int × Int) : Prop where
  cons : st.drop t = p :: st.drop (t + 1)
  tk : st.take (t + 1) = st.take t ++ [p]
  p0 : 0 ≤ p.1
  rej : Rej S (own0 + (t : Int)) idx i' p.1
  feed : Feed S i' (own0 + ((t + 1 : Nat) : Int)) (st.drop (t + 1))
  sign : 1 - 2 * (gs % 2) = p.2
  sg : SgOk (gs / 2) (st.drop (t + 1))
theorem BallIn.step {S : List Int} {own0 : Int} {st : List (Int × Int)} {t idx lb : Nat} {co : List Int} {gs : Int} (h : BallIn S own0 st t idx lb co gs) (ht : t < st.length) : ∃ p i', StepAt S own0 st t idx i' gs p := by
  have e : st.drop t = st[t] :: st.drop (t + 1) := List.drop_eq_getElem_cons ht
  have hf := h.feed
  have hs := h.sg
  rw [e] at hf hs
  obtain ⟨h0, i', hr, hf⟩ := hf
  refine ⟨st[t], i', e, ?_, h0, hr, ?_, hs.1, hs.2⟩
  · rw [List.take_add_one, List.getElem?_eq_getElem ht]; rfl
  · rwa [show own0 + ((t + 1 : Nat) : Int) = own0 + (t : Int) + 1 by omega]
theorem fwdAll_snoc (p : Int × Int) : ∀ (l : List (Int × Int)) (f : Int → Int) (own : Int), fwdAll f own (l ++ [p]) = fwd (fwdAll f own l) (own + (l.length : Int)) p
  | [], f, own => by simp [fwdAll]
  | q :: r, f, own => by
    show fwdAll (fwd f own q) (own + 1) (r ++ [p]) = fwd (fwdAll (fwd f own q) (own + 1) r) _ p
    rw [fwdAll_snoc p r, show own + 1 + (r.length : Int) = own + ((q :: r).length : Int) by simp; omega]
theorem BallIn.next {S : List Int} {own0 : Int} {st : List (Int × Int)} {t idx i' lb lb' : Nat} {co co' : List Int} {gs gs' : Int} {p : Int × Int} (h : BallIn S own0 st t idx lb co gs) (hs : StepAt S own0 st t idx i' gs p) (ht : t < st.length) (h0 : 0 ≤ own0)
    (hi : i' ≤ lb') (hlo : 8 ≤ lb') (hhi : lb' ≤ 40000) (hco : co' = (co.set (own0 + (t : Int)).toNat (co.getD p.1.toNat 0)).set p.1.toNat (1 - 2 * (gs % 2))) (hgs : gs' = gs / 2) (hown : own0 + (t : Int) < 256) : BallIn S own0 st (t + 1) i' lb' co' gs' := by
  have hl : (st.take t).length = t := by rw [List.length_take]; omega
  have h1 := hs.rej.ok
  have h2 := hs.p0
  refine ⟨hs.feed, hi, hlo, hhi, ?_, ?_, ?_, ?_⟩
  · rw [hco, List.length_set, List.length_set]; exact h.len
  · rw [hgs]; exact Int.ediv_nonneg h.g0 (by decide)
  · rw [hgs]; exact hs.sg
  · intro x hx
    rw [hs.tk, fwdAll_snoc, hl, hco]
    unfold fwd
    have hlen := h.len
    have v1 := h.val x hx
    have v2 := h.val p.1.toNat (by omega)
    rw [Int.toNat_of_nonneg h2] at v2
    rw [← v1, ← v2, List.getD_eq_getElem?_getD, List.getElem?_set, List.getElem?_set, List.length_set, hlen, hs.sign]
    by_cases e1 : p.1.toNat = x
    · have a1 : (x : Int) = p.1 := by omega
      have a2 : p.1.toNat < 256 := by omega
      rw [if_pos e1, if_pos a2, if_pos a1]; rfl
    · have a1 : ¬ (x : Int) = p.1 := by omega
      rw [if_neg e1, if_neg a1]
      by_cases e2 : (own0 + (t : Int)).toNat = x
      · have a3 : (x : Int) = own0 + (t : Int) := by omega
        have a4 : (own0 + (t : Int)).toNat < 256 := by omega
        rw [if_pos e2, if_pos a4, if_pos a3]; rfl
      · have a3 : ¬ (x : Int) = own0 + (t : Int) := by omega
        rw [if_neg e2, if_neg a3, ← List.getD_eq_getElem?_getD]
theorem win_one (S : List Int) (i : Nat) : win S i 1 = [S.getD i 0] := rfl
end Mine
namespace Mine
theorem item_one {prog : Program} {w : World} {A : Around} {E : Value → Shared → Prop} {s : Shared} {value slice : PySem.Expr} {b : Array UInt8} {t ui : Tok} {c : Int} {Q : Value → Shared → Prop} (hk : KBw.bInts b = [c]) (h : ∀ t' k, 0 ≤ c → c < 256 → Q (.int c t') { s with toks := k })
    (hs : subscripted slice false (.bytes b t) (.int 0 ui) = operate [.bytes b t, .int 0 ui] (getItem (.bytes b t) (.int 0 ui)) := by with_unfolding_all rfl)
    (ht : ∀ r, letTemporaryGo value (.bytes b t) r = pure () := by intro _; with_unfolding_all rfl) :
    wpAny (model prog w) A (subscriptTail value slice (.bytes b t) (.int 0 ui)) Q E s :=
  KBw.item_K hk (by simp) (by decide) (by simp) h hs ht
end Mine
namespace Mine
theorem off_of1 {D : Addr} : ∀ {l : List (Addr × Obj)}, LCg.Off1 D l → OwnOff l [D]
  | [], _ => off_nil
  | _ :: _, h => off_one h.1 (off_of1 h.2)
end Mine
namespace Mine
theorem KE_and_one (x : Int) : Builtin.bitAnd x 1 = x % 2 := bitAnd_m1 x
end Mine
end
section
open PySem PySem.W PyProof.Rows PySem.Calls
set_option maxRecDepth 100000
set_option rowWalk.seconds 0
namespace Mine
local macro_rules | `(tactic| walk_at "call builtin:len") => `(tactic| (k_here; (with_reducible show wpAny _ _ (call (Value.builtin "len") [Value.ref _]) _ _ _); refine len_of (by k_asm) (by k_mem) (by assumption) (by omega) ?_))
abbrev polyO (P : Params) (x lo : Addr) (t1 t2 : Tok) : Obj := dictOf [kE P "parent" t1 (.ref x), kE P "coeffs" t2 (.ref lo)] 2
def PolyPost (P : Params) (cP x lo : Addr) (news : List (Addr × Obj)) (r : Value) (news' : List (Addr × Obj)) : Prop :=
  ∃ p' dp' t1 t2, r = .ref p' ∧ news' = (p', instObj cP dp') :: (dp', polyO P x lo t1 t2) :: news
theorem poly_end {P : Params} {cP x lo p' dp' : Addr} {e1 e2 e3 : Addr × Obj} {h₀ h' : Heap} {L : Addr} {news : List (Addr × Obj)} {t1 t2 : Tok}
    (N : News h₀ L h' ((p', instObj cP dp') :: (dp', polyO P x lo t1 t2) :: e1 :: e2 :: e3 :: news)) : ∃ news', News h₀ L h' news' ∧ PolyPost P cP x lo news (.ref p') news' :=
  ⟨(p', instObj cP dp') :: (dp', polyO P x lo t1 t2) :: news, fun q hq => N q (by
    rcases List.mem_cons.mp hq with h | hq
    · rw [h]; exact .head _
    rcases List.mem_cons.mp hq with h | hq
    · rw [h]; exact .tail _ (.head _)
    exact .tail _ (.tail _ (.tail _ (.tail _ (.tail _ hq))))), _, _, _, _, rfl, rfl⟩
set_option maxHeartbeats 4000000 in
theorem poly_says (w : World) (x dx s1 s2 z lo : Addr) (v1 v2 v3 v4 v5 v6 v7 v8 v9 : Tok) (vo : List Value) (no : Nat) (news : List (Addr × Obj))
    (hx : (x, instObj 388 dx) ∈ news) (hdx : (dx, ringO w.params s1 s2 z v1 v2 v3 v4 v5 v6 v7 v8 v9) ∈ news) (hlo : (lo, listOf vo.toArray no) ∈ news) (hvl : vo.length = 256) :
    Says PySem.Challenge.rw_bd0004_02.row.prog w (Mine.K w.params) 40 (.ref x) [.ref lo] news (fun r news' => PolyPost w.params 524 x lo news r news') := by
  unfold Says; k_fill
  intro p loose mean mg mb dp un gd cn cs a ccd cl outer A₀ base h₀ L m s Q E B F X N0 T hk hdp hun hret
  have N := news_dup (news_dup (news_dup N0 hx) (.tail _ hdx)) (.tail _ (.tail _ hlo))
  clear N0
  k_steps
  rename Fr h₀ L _ m => fE
  rename News h₀ L _ _ => nE
  obtain ⟨n9, N9, P9⟩ := poly_end nE
  exact hret _ _ _ _ fE N9 P9
end Mine
end
section
open PySem PySem.W PyProof.Rows PySem.Calls
namespace Mine
theorem zeros_getD {α : Type} (l : List α) (n : Nat) : (l.map fun _ => (0 : Int)).getD n 0 = 0 := by
  rw [List.getD_eq_getElem?_getD, List.getElem?_map]
  cases l[n]? <;> rfl
theorem val_start {α : Type} (l : List α) (own0 : Int) (st : List (Int × Int)) : ∀ x : Nat, x < 256 → (l.map fun _ => (0 : Int)).getD x 0 = fwdAll (fun _ => 0) own0 (st.take 0) x := fun x _ => by
  rw [zeros_getD]; rfl
def BallPost (P : Params) (cP x : Addr) (own0 : Int) (st : List (Int × Int)) (rest : List (Addr × Obj)) (r : Value) (news' : List (Addr × Obj)) : Prop :=
  ∃ p' dp' lo t1 t2 vo co no ps, r = .ref p' ∧ news' = (p', instObj cP dp') :: (dp', polyO P x lo t1 t2) :: (lo, listOf (List.toArray vo) no) :: (306, tabObj ps) :: rest ∧ IntsAre vo co ∧ co.length = 256 ∧ ∀ k : Nat, k < 256 → co.getD k 0 = fwdAll (fun _ => 0) own0 st k
theorem ball_post {P : Params} {cP x lo p' dp' : Addr} {h₀ h' : Heap} {L : Addr} {led rest : List (Addr × Obj)} {t1 t2 : Tok} {vo : List Value} {ps : Array Value} {co S : List Int} {no tau idx lb : Nat} {own0 gs : Int} {st : List (Int × Int)}
    (N : News h₀ L h' led) (m1 : (p', instObj cP dp') ∈ led) (m2 : (dp', polyO P x lo t1 t2) ∈ led) (m3 : (lo, listOf vo.toArray no) ∈ led) (m5 : (306, tabObj ps) ∈ led) (m4 : ∀ p ∈ rest, p ∈ led) (hi : IntsAre vo co) (hB : BallIn S own0 st tau idx lb co gs) (hst : st.length = tau) :
    ∃ news', News h₀ L h' news' ∧ BallPost P cP x own0 st rest (.ref p') news' :=
  ⟨(p', instObj cP dp') :: (dp', polyO P x lo t1 t2) :: (lo, listOf vo.toArray no) :: (306, tabObj ps) :: rest, fun q hq => N q (by
    rcases List.mem_cons.mp hq with h | hq
    · rw [h]; exact m1
    rcases List.mem_cons.mp hq with h | hq
    · rw [h]; exact m2
    rcases List.mem_cons.mp hq with h | hq
    · rw [h]; exact m3
    rcases List.mem_cons.mp hq with h | hq
    · rw [h]; exact m5
    exact m4 _ hq), _, _, _, _, _, _, _, _, _, rfl, rfl, hi, hB.len, fun k hk => by
      have := hB.val k hk
      rwa [List.take_of_length_le (by omega)] at this⟩
/-- the ledger without the objects at ds -/
def apart (ds : List Addr) (led : List (Addr × Obj)) : List (Addr × Obj) := led.filter fun p => decide (∀ b ∈ ds, p.1 ≠ b)
theorem apart_off (ds : List Addr) (led : List (Addr × Obj)) : OwnOff (apart ds led) ds := fun _ hp => of_decide_eq_true (List.mem_filter.mp hp).2
theorem apart_sub {ds : List Addr} {led : List (Addr × Obj)} {p : Addr × Obj} (h : p ∈ apart ds led) : p ∈ led := (List.mem_filter.mp h).1
theorem apart_mem2 {d c : Addr} {led : List (Addr × Obj)} {a : Addr} {o : Obj} (h : (a, o) ∈ led) (h1 : @Ne Nat a d) (h2 : @Ne Nat a c) : (a, o) ∈ apart [d, c] led :=
  List.mem_filter.mpr ⟨h, decide_eq_true (by
    intro b hb
    rcases List.mem_cons.mp hb with e | hb
    · rw [e]; exact h1
    · rw [List.mem_singleton.mp hb]; exact h2)⟩
end Mine
end
section
open PySem PySem.W PyProof.Rows PySem.Calls
set_option maxRecDepth 100000
namespace Mine
theorem no_bytes_int : typeLookup (.type "int") "__bytes__" = pure none := by rw [typeLookup_type, builtinLookup_eq_fast]; kernel_rfl
theorem has_index_int : typeLookup (.type "int") "__index__" = pure (some (.builtin "int.__index__")) := by rw [typeLookup_type, builtinLookup_eq_fast]; kernel_rfl
set_option maxHeartbeats 4000000 in
theorem meets_bytes_int {k : Int} {u : Tok} (h0 : 0 ≤ k) (h1 : k ≤ 100000) : Meets (Builtin.«bytes.__new__» ⟨[.type "bytes", .int k u], []⟩) (fun _ R s => ∀ t c, R (.ok (.ret (.bytes (Array.replicate k.toNat 0) t))) { s with toks := c }) := by
  intro prog w A R s h
  obtain ⟨hp, g, d, tk, os⟩ := s
  unfold Builtin.«bytes.__new__»
  refine wpAny_bind (wpAny_of_eq (a := true) rfl ?_)
  refine bm_if_false rfl ?_
  refine wpAny_bind (wpAny_of_eq F.bm_sub ?_)
  refine bm_if_false rfl ?_
  refine wpAny_bind (wpAny_of_eq (F.bm_bind _) ?_)
  refine wpAny_bind (wpAny_of_eq (a := ()) rfl ?_)
  refine wpAny_bind (wpAny_of_eq (a := ()) rfl ?_)
  refine bm_if_false rfl ?_
  refine wpAny_bind (wpAny_specialOf (typeIs_int _ _ _) no_bytes_int ?_)
  refine wpAny_bind (wpAny_bind ?_)
  have c1 : (!Builtin.Bytes.fitsIndex k) = false := by
    simp only [Builtin.Bytes.fitsIndex, Bool.not_eq_false', Bool.and_eq_true, decide_eq_true_eq]
    omega
  have c2 : ¬ k < 0 := by omega
  have c3 : ¬ k > 2 ^ 63 - 34 := by omega
  have c4 : Builtin.Bytes.tooLong k.toNat = false := KBy.tooLong_not (by omega)
  repeat (any_goals (first
      | assumption
      | wp_step))
  refine wpAny_of_eq has_index_int ?_
  refine bm_if_false rfl ?_
  repeat (any_goals (first
      | assumption
      | (with_reducible refine bm_if_false c1 ?_)
      | (with_reducible refine wpAny_ite_false (decide_eq_false c2) ?_)
      | (with_reducible refine wpAny_ite_false (decide_eq_false c3) ?_)
      | (with_reducible refine bm_if_false c4 ?_)
      | wp_step))
  have c5 : ¬ (Array.replicate k.toNat (0 : UInt8)).size > sizeLine := by rw [Array.size_replicate, sizeLine_eq]; omega
  repeat (any_goals (first
      | assumption
      | (rw [if_neg c5])
      | wp_step))
  all_goals (try exact h _ _)
  all_goals trace_state
theorem newNe_bytes : (some "bytes.__new__" != some "object.__new__") = true := by decide +kernel
theorem bInts_zero (n : Nat) : KBw.bInts (Array.replicate n (0 : UInt8)) = List.replicate n 0 := by
  unfold KBw.bInts
  simp
theorem call_bytes_int {prog : Program} {w : World} {A : Around} {E : Value → Shared → Prop} {s : Shared} {Q : Value → Shared → Prop} {k : Int} {u : Tok} (h0 : 0 ≤ k) (h1 : k ≤ 100000)
    (h : ∀ b t c, KBw.bInts b = List.replicate k.toNat 0 → Q (.bytes b t) { s with toks := c }) : wpAny (model prog w) A (call (.type "bytes") [.int k u]) Q E s :=
  callType_new F.bm_called newNe_bytes (F.bm_typeCall _) (F.bm_newCall _) (fun obj => F.args_object_init_2 obj _) F.bm_entry (meets_bytes_int h0 h1) fun t c => ⟨PySem.W.typeIs_bytes _ _ _, h _ t c (bInts_zero _)⟩
end Mine
end
section
open PySem PySem.W PyProof.Rows PySem.Calls
namespace Mine
/-- the number that three octets tell, its top bit struck -/
def val3 (S : List Int) (i : Nat) : Int := Builtin.bitAnd (S.getD i 0 + 256 * S.getD (i + 1) 0 + 65536 * S.getD (i + 2) 0) 8388607
/-- from place i on m refused groups, then one that tells v, which is taken -/
structure Rej3 (S : List Int) (i m : Nat) (v : Int) : Prop where
  le : i + 3 * (m + 1) ≤ 20000
  at' : val3 S (i + 3 * m) = v
  ok : v < 8380417
  off : ∀ k, k < m → 8380417 ≤ val3 S (i + 3 * k)
theorem Rej3.take {S : List Int} {i m k : Nat} {v : Int} (h : Rej3 S i m v) (hk : k ≤ m) (h3 : val3 S (i + 3 * k) < 8380417) : val3 S (i + 3 * k) = v ∧ k = m := by
  by_cases e : k < m
  · have := h.off k e; omega
  · have e2 : k = m := by omega
    subst e2; exact ⟨h.at', rfl⟩
theorem Rej3.pass {S : List Int} {i m k : Nat} {v : Int} (h : Rej3 S i m v) (hk : k ≤ m) (h3 : ¬ val3 S (i + 3 * k) < 8380417) : k + 1 ≤ m := by
  by_cases e : k < m
  · exact e
  · have e2 : k = m := by omega
    subst e2
    have h1 := h.at'
    have h2 := h.ok
    omega
def Feed3 (S : List Int) : Nat → List Int → Prop
  | _, [] => True
  | i, v :: r => ∃ m, Rej3 S i m v ∧ Feed3 S (i + 3 * (m + 1)) r
theorem win_three (S : List Int) (i : Nat) : win S i 3 = [S.getD i 0, S.getD (i + 1) 0, S.getD (i + 2) 0] := rfl
theorem val_three (S : List Int) (i : Nat) : KFB.value (win S i 3).reverse = S.getD i 0 + 256 * S.getD (i + 1) 0 + 65536 * S.getD (i + 2) 0 := by
  rw [win_three]
  simp only [KFB.value, List.reverse_cons, List.reverse_nil, List.nil_append, List.cons_append, List.foldl_cons, List.foldl_nil]
  omega
structure RejIn3 (idx m lb k : Nat) : Prop where
  b : k ≤ m
  c : idx + 3 * k ≤ lb
  d : 8 ≤ lb
  e : lb ≤ 40000
section
variable {prog : Program} {w : World} {A : Around} {E : Value → Shared → Prop} {Q : Flow → Shared → Prop} {s : Shared} {env : Env} {h₀ : Heap} {L : Addr}
theorem rej3_loop {test : Expr} {body : List Stmt} {pos : Pos} {m₀ : Str → Option Value} {P : Params} {alg d2 : Addr} {bl : Int} {sb : Array UInt8} {S : List Int} {lb0 idx m : Nat} {o : Obj} {cst : List (Addr × Obj)} (stored : List Str)
    (F : Fr h₀ L s.heap m₀) (N : News h₀ L s.heap ((d2, o) :: cst)) (ho : ShAt P alg bl sb S lb0 idx o) (h1 : idx ≤ lb0) (h2 : 8 ≤ lb0) (h3 : lb0 ≤ 40000)
    (turn : ∀ (o : Obj) (lb k : Nat) (u : Str → Option Value) h tk, ShAt P alg bl sb S lb (idx + 3 * k) o → RejIn3 idx m lb k → Fr h₀ L h (fun z => if stored.contains z then u z else m₀ z) → News h₀ L h ((d2, o) :: cst) →
      wpAny (model prog w) A (isTrue test env (eval test env)) (fun b s₂ =>
        if b = true then wpAny (model prog w) A (execs body env) (KswPost h₀ L s (fun c : SigJ => (d2, c.1) :: cst) (fun _ => []) (fun c => ShAt P alg bl sb S c.2.1 (idx + 3 * c.2.2) c.1) stored m₀ (fun c => RejIn3 idx m c.2.1 c.2.2) (fun c => m + 1 - c.2.2) Q (o, lb, k)) E s₂ else Q .next s₂) E { s with heap := h, toks := tk })
    (hE : PassesOwn (model prog w) A env E := by passes_own) :
    wpAny (model prog w) A (exec (.While test body [] pos) env) Q E s := by
  refine ksw_while (σ := SigJ) (fun c => (d2, c.1) :: cst) (fun _ => []) (fun c => ShAt P alg bl sb S c.2.1 (idx + 3 * c.2.2) c.1) stored (fun c => RejIn3 idx m c.2.1 c.2.2) (fun c => m + 1 - c.2.2) (o, lb0, 0) F N ho (List.forall_mem_nil _) ⟨Nat.zero_le _, h1, h2, h3⟩ ?_ hE
  rintro ⟨o, lb, k⟩ u h tk ho hP F₁ N₁
  exact turn o lb k u h tk ho hP F₁ N₁
end
section
variable {prog : Program} {w : World} {A : Around} {s : Shared} {env : Env} {h₀ : Heap} {L : Addr}
/-- a comprehension whose element takes the next number off a stream -/
theorem comp_feed {elt : Expr} {x : Str} {scope : Scope} {cl : List (Str × Addr)} {m₀ : Str → Option Value} {P : Params} {alg d1 : Addr} {bl : Int} {sb : Array UInt8} {S : List Int} {cst : List (Addr × Obj)} {Pv : Nat → Value → Prop} {Fin : List Value → List (Addr × Obj) → Prop}
    (turn : ∀ (v : Int) (m idx lb : Nat) (o : Obj) (ys : List Value) (I C D : Addr) (oI oC : Obj) (m₂ : Str → Option Value) (h : Heap) (tk : Nat) (E' Q' : Value → Shared → Prop), ShAt P alg bl sb S lb idx o → Rej3 S idx m v → idx ≤ lb → 8 ≤ lb → lb ≤ 40000 → LCg.NsObj oC m₂ → Fr h₀ L h m₀ →
      News h₀ L h ((I, oI) :: (C, oC) :: (D, LCg.lst ys) :: (d1, o) :: cst) → LCg.Off3 I C D ((d1, o) :: cst) → ((@Ne Nat I C) ∧ (@Ne Nat I D) ∧ (@Ne Nat C D)) →
      (∀ t o' lb' h' tk', Fr h₀ L h' m₀ → News h₀ L h' ((I, oI) :: (C, oC) :: (D, LCg.lst ys) :: (d1, o') :: cst) → ShAt P alg bl sb S lb' (idx + 3 * (m + 1)) o' → idx + 3 * (m + 1) ≤ lb' → 8 ≤ lb' → lb' ≤ 40000 → Q' (.int v t) { s with heap := h', toks := tk' }) →
      wpAny (model prog w) A (eval elt (compEnvC scope cl C env)) Q' E' { s with heap := h, toks := tk }) :
    ∀ (vs pr : List Int) (i : Nat) (ys : List Value) (o : Obj) (lb idx : Nat), IntsAre ys pr → ShAt P alg bl sb S lb idx o → idx ≤ lb → 8 ≤ lb → lb ≤ 40000 → Feed3 S idx vs →
      (∀ ys o, IntsAre ys (pr ++ vs) → Fin ys ((d1, o) :: cst)) →
      LCg.CompRest prog w A h₀ L m₀ env elt x scope cl s (fun _ => True) Pv Fin vs.length i ys ((d1, o) :: cst)
  | [], pr, _, ys, o, _, _, hy, _, _, _, _, _, fin => fin ys o (by rw [List.append_nil]; exact hy)
  | v :: r, pr, i, ys, o, lb, idx, hy, ho, h1, h2, h3, hf, fin => by
    obtain ⟨m, hR, hf'⟩ := hf
    refine LCg.CompRest.succ ?_
    intro u I oI C oC D m₂ h tk E' _ hC _ F N off ne
    refine turn v m idx lb o ys I C D oI oC m₂ h tk E' _ ho hR h1 h2 h3 hC F N off ne ?_
    intro t o' lb' h' tk' F' N' ho' h1' h2' h3'
    refine LCg.CompEnd.intro F' N' ((d1, o') :: cst) (fun _ hp => hp) ⟨off.1, off.2⟩ trivial ?_
    exact comp_feed turn r (pr ++ [v]) (i + 1) (ys ++ [.int v t]) o' lb' _ (IntsAre.append hy (.cons _ _ .nil)) ho' h1' h2' h3' hf' (fun ys o hh => fin ys o (by simpa using hh))
theorem comp_run {elt : Expr} {x : Str} {scope : Scope} {cl : List (Str × Addr)} {m₀ : Str → Option Value} {P : Params} {alg d1 : Addr} {bl : Int} {sb : Array UInt8} {S : List Int} {cst : List (Addr × Obj)} {Pv : Nat → Value → Prop} {Fin : List Value → List (Addr × Obj) → Prop} {vs : List Int} {n lb : Nat} {o : Obj}
    (hn : vs.length = n) (ho : ShAt P alg bl sb S lb 0 o) (h2 : 8 ≤ lb) (h3 : lb ≤ 40000) (hf : Feed3 S 0 vs)
    (turn : ∀ (v : Int) (m idx lb : Nat) (o : Obj) (ys : List Value) (I C D : Addr) (oI oC : Obj) (m₂ : Str → Option Value) (h : Heap) (tk : Nat) (E' Q' : Value → Shared → Prop), ShAt P alg bl sb S lb idx o → Rej3 S idx m v → idx ≤ lb → 8 ≤ lb → lb ≤ 40000 → LCg.NsObj oC m₂ → Fr h₀ L h m₀ →
      News h₀ L h ((I, oI) :: (C, oC) :: (D, LCg.lst ys) :: (d1, o) :: cst) → LCg.Off3 I C D ((d1, o) :: cst) → ((@Ne Nat I C) ∧ (@Ne Nat I D) ∧ (@Ne Nat C D)) →
      (∀ t o' lb' h' tk', Fr h₀ L h' m₀ → News h₀ L h' ((I, oI) :: (C, oC) :: (D, LCg.lst ys) :: (d1, o') :: cst) → ShAt P alg bl sb S lb' (idx + 3 * (m + 1)) o' → idx + 3 * (m + 1) ≤ lb' → 8 ≤ lb' → lb' ≤ 40000 → Q' (.int v t) { s with heap := h', toks := tk' }) →
      wpAny (model prog w) A (eval elt (compEnvC scope cl C env)) Q' E' { s with heap := h, toks := tk })
    (fin : ∀ ys o, IntsAre ys vs → Fin ys ((d1, o) :: cst)) :
    LCg.CompRest prog w A h₀ L m₀ env elt x scope cl s (fun _ => True) Pv Fin n 0 [] ((d1, o) :: cst) := by
  subst hn
  exact comp_feed turn vs [] 0 [] o lb 0 .nil ho (Nat.zero_le _) h2 h3 hf fin
end
theorem pull5 {h₀ h : Heap} {L : Addr} {a b c d e p : Addr × Obj} {rest : List (Addr × Obj)} (N : News h₀ L h (a :: b :: c :: d :: e :: p :: rest)) : News h₀ L h (p :: a :: b :: c :: d :: e :: rest) := fun x hx => N x (by
  simp only [List.mem_cons] at hx ⊢
  rcases hx with h | h | h | h | h | h | h <;> simp [h])
theorem callWith_KWi {M : Model} {A : Around} {E : Value → Shared → Prop} {s : Shared} {K : Frag} {env : Env} {pos : Pos} {x C : Addr} {ox : Obj} {od : Option Obj} {first : List Value} {Q : Value → Shared → Prop} {e : Expr} {rest : List Expr} {kws : List Keyword} (_X : K.In s.heap) (_I : InstAt s.heap x ox C od) (hd : ox.data = .plain)
    (hall : (backToKw pos (keywordEach kws env)).all (·.1.isSome) = true)
    (h : wpAny M A (spliced (backTo pos (starEach (e :: rest) env))) (fun vs s₁ => wpAny M A (evalAll ((backToKw pos (keywordEach kws env)).map (·.2)))
      (fun ks s₂ => kco_P K x C ox od s₂.heap ∧ wpAny M A (call (.ref x) (first ++ vs) (((backToKw pos (keywordEach kws env)).filterMap (·.1)).zip ks)) Q E s₂) E s₁) E s)
    (hplain : ((backTo pos (starEach (e :: rest) env)).any (·.1) || (backToKw pos (keywordEach kws env)).any (·.1.isNone)) = false := by rfl) (he : starEach (e :: rest) env = (false, eval e env) :: starEach rest env := by rfl) :
    wpAny M A (callWith pos (.ref x) first (backTo pos (starEach (e :: rest) env)) (backToKw pos (keywordEach kws env))) Q E s :=
  kco_callWith_of hplain hd (evalArgs_kw2 hall h he)
theorem pull39 {h₀ h : Heap} {L : Addr} {a b c p e1 e2 e3 e4 e5 q : Addr × Obj} {rest : List (Addr × Obj)} (N : News h₀ L h (a :: b :: c :: p :: e1 :: e2 :: e3 :: e4 :: e5 :: q :: rest)) : News h₀ L h (p :: q :: a :: b :: c :: e1 :: e2 :: e3 :: e4 :: e5 :: rest) := fun x hx => N x (by
  simp only [List.mem_cons] at hx ⊢
  rcases hx with h | h | h | h | h | h | h | h | h | h | h <;> simp [h])
def NttPost (P : Params) (x : Addr) (vs : List Int) (rest : List (Addr × Obj)) (r : Value) (news' : List (Addr × Obj)) : Prop :=
  ∃ p' dp' lo t1 t2 vo no ps, r = .ref p' ∧ news' = (p', instObj 588 dp') :: (dp', polyO P x lo t1 t2) :: (lo, listOf (List.toArray vo) no) :: (311, tabObj ps) :: rest ∧ IntsAre vo vs
theorem ntt_post {P : Params} {x lo p' dp' : Addr} {h₀ h' : Heap} {L : Addr} {led rest : List (Addr × Obj)} {t1 t2 : Tok} {vo : List Value} {ps : Array Value} {vs : List Int} {no : Nat}
    (N : News h₀ L h' led) (m1 : (p', instObj 588 dp') ∈ led) (m2 : (dp', polyO P x lo t1 t2) ∈ led) (m3 : (lo, listOf vo.toArray no) ∈ led) (m5 : (311, tabObj ps) ∈ led) (m4 : ∀ p ∈ rest, p ∈ led) (hi : IntsAre vo vs) :
    ∃ news', News h₀ L h' news' ∧ NttPost P x vs rest (.ref p') news' :=
  ⟨(p', instObj 588 dp') :: (dp', polyO P x lo t1 t2) :: (lo, listOf vo.toArray no) :: (311, tabObj ps) :: rest, fun q hq => N q (by
    rcases List.mem_cons.mp hq with h | hq
    · rw [h]; exact m1
    rcases List.mem_cons.mp hq with h | hq
    · rw [h]; exact m2
    rcases List.mem_cons.mp hq with h | hq
    · rw [h]; exact m3
    rcases List.mem_cons.mp hq with h | hq
    · rw [h]; exact m5
    exact m4 _ hq), _, _, _, _, _, _, _, _, rfl, rfl, hi⟩
theorem un39 {h₀ h : Heap} {L : Addr} {z a b c p e1 e2 e3 e4 e5 q : Addr × Obj} {rest : List (Addr × Obj)} (N : News h₀ L h (z :: p :: q :: a :: b :: c :: e1 :: e2 :: e3 :: e4 :: e5 :: rest)) : News h₀ L h (a :: b :: c :: p :: e1 :: e2 :: e3 :: e4 :: e5 :: q :: rest) := fun x hx => N x (by
  simp only [List.mem_cons] at hx ⊢
  rcases hx with h | h | h | h | h | h | h | h | h | h | h <;> simp [h])
end Mine
end
section
open Mine
local macro_rules | `(tactic| walk_at "FnAt") => `(tactic| k_dflt (rename @Membership.mem (Addr × Obj) _ _ _ _ => hfn'; exact FnAt.of (by k_asm) (by (repeat (first | exact hfn' | exact List.mem_append_left _ hfn' | refine List.Mem.tail _ ?_)))))
local macro_rules | `(tactic| walk_at "callWith ref") => `(tactic| k_dflt (rename @Membership.mem (Addr × Obj) _ _ _ _ => hfn'; refine' callWith_F ?k1 ?_; (case k1 => exact FnAt.of (by k_asm) (by (repeat (first | exact hfn' | exact List.mem_append_left _ hfn' | refine List.Mem.tail _ ?_)))); k_whole))
local macro_rules | `(tactic| walk_at "call ref") => `(tactic| k_dflt ((show wpAny _ _ (call (Value.ref 268) _) _ _ _); refine Hold.out ?_))
local macro_rules | `(tactic| walk_at "call ref") => `(tactic| k_dflt ((show wpAny _ _ (call (Value.ref _) [Value.bytes _ _, Value.str _ _]) _ _ _); rename KBw.bInts _ = win _ _ _ => hw'; rename KFB.value _ = _ => hG'; refine KFB.call_little (by k_asm) (by k_mem) hw' (by rw [win_len]; decide) ?_; intro _ _; rw [hG']))
local macro_rules | `(tactic| walk_at "subscriptTail") => `(tactic| k_dflt ((show wpAny _ _ (subscriptTail _ _ (Value.bytes _ _) (Value.int _ _)) _ _ _); rename KBw.bInts _ = [_] => hw'; refine item_one hw' ?_; intro _ _ kbaLo kbaHi))
local macro_rules | `(tactic| walk_at "call ref") => `(tactic| k_dflt ((show wpAny _ _ (call (Value.ref _) [Value.ref _]) _ _ _); refine Hold.out ?_))
local macro_rules | `(tactic| walk_at "KswPost") => `(tactic| refine Hold.out ?_)
local macro_rules | `(tactic| walk_at "KswEnd") => `(tactic| refine Hold.out ?_)
local macro_rules | `(tactic| walk_at "call builtin:len") => `(tactic| (k_here; (with_reducible show wpAny _ _ (call (Value.builtin "len") [Value.ref _]) _ _ _); refine len_of (by k_asm) (by k_mem) (by assumption) (by omega) ?_))
local macro_rules | `(tactic| walk_at "pyIter ref") => `(tactic| refine Hold.out ?_)
local macro_rules | `(tactic| walk_at "InvEndN") => `(tactic| refine Hold.out ?_)
local macro_rules | `(tactic| walk_at "exec While Constant cons nil") => `(tactic| refine Hold.out ?_)
local macro_rules | `(tactic| walk_at "call type:range") => `(tactic| ((rename Fr _ _ _ _ => F'); (rename News _ _ _ _ => N'); first
  | (with_unfolding_all refine range1_rows F' N' ?_; intro _ _ _ _ _ _ _ _ _)
  | (with_unfolding_all refine range2_rows F' N' ?_; intro _ _ _ _ _ _ _ _ _)))
section
open PySem PySem.W PyProof.Rows PySem.Calls
set_option maxRecDepth 100000
set_option rowWalk.seconds 0
namespace Mine
local macro_rules | `(tactic| walk_at "call ref") => `(tactic| k_dflt (rename AlgSays _ _ _ _ _ _ _ => hA'; rename (∀ p ∈ _, p ∈ _) => hg'; refine' use_says (hA'.run _ _ 680 _ _ ?zg (by exact rfl) ?zn) ?B ?F ?X ?N ?T ?k ?d ?u ?_; (case B => assumption); (case F => assumption); (case X => assumption); (case N => assumption); (case T => assumption); (case zg => intro p hp; (repeat (first | exact (hg' p hp) | exact List.mem_append_left _ (hg' p hp) | refine List.Mem.tail _ ?_))); (case zn => decide); (case k => first | exact rfl | assumption); (case d => ktr_room); (case u => (simp only [un_make, units_in1, units_deeper, Around.mark_units]; (try dsimp only [ktrTop]); omega)); intro r9 n9 h9 tk9 F9 N9 hp9; obtain ⟨b9, t9, hr9, hb9, hn9⟩ := hp9; subst hr9; subst hn9; (try dsimp only)))
set_option maxHeartbeats 8000000 in
theorem ball_says (w : World) (x dx s1 d2 s2 z alg : Addr) (v1 v2 v3 v4 v5 v6 v7 v8 v9 t1 t2 t3 t4 t5 t6 t7 ts tt : Tok) (gl rest : List (Addr × Obj)) (sb : Array UInt8) (S os : List Int) (g : Int) (tau : Nat) (st : List (Int × Int))
    (hA : AlgSays PySem.Challenge.rw_bd0004_02.row.prog w (Mine.K w.params) alg gl sb S) (hg : ∀ p ∈ gl, p ∈ rest) (hoff : OwnOff rest [d2, 306]) (hne : @LT.lt Nat _ d2 s2) (hxd : @LT.lt Nat _ x d2) (hdx : @LT.lt Nat _ dx x) (h306 : @LT.lt Nat _ 306 dx)
    (ht : tau ≤ 60) (hst : st.length = tau) (hS : S = digs g ++ os) (hg0 : 0 ≤ g) (hg1 : g < 2 ^ 64) (hsg : SgOk g st) (hfeed : Feed S 8 (256 - (tau : Int)) st) :
    SaysC 308 306 PySem.Challenge.rw_bd0004_02.row.prog w (Mine.K w.params) 100 (.ref 309) [.ref x, .bytes sb ts, .int (tau : Int) tt]
      ((d2, shO w.params alg 136 t1 t2 t3 t4 t5 t6 t7) :: (s2, instObj 278 d2) :: (x, instObj 388 dx) :: (dx, ringO w.params s1 s2 z v1 v2 v3 v4 v5 v6 v7 v8 v9) :: (306, tabObj #[]) :: rest)
      (fun r news' => BallPost w.params 524 x (256 - (tau : Int)) st rest r news') := by
  obtain ⟨oca, oda, fda, sla, hfn⟩ := hA.fn
  replace hfn := hg _ hfn
  unfold SaysC; k_fill
  intro p loose mean mg mb dp un gd cn cs a ccd cl outer A₀ base h₀ L m s Q E B F X N T CH hk hdp hun hret
  refine wpAny_call ?_
  k_dflt k_enter
  k_steps
  unfold Hold
  rename KBw.bInts _ = pre S 680 => hb9
  rename News _ _ _ _ => N1
  rename _ ∧ _ ∧ _ ∧ _ ∧ _ ∧ AllLt _ rest => l1
  rename _ < _ => l2
  rename ∀ p ∈ gl, p ∈ rest => hg
  rename AlgSays _ _ _ _ _ _ _ => hA
  k_dflt (refine' use_says (read_says w alg d2 s2 136 gl _ sb S 680 0 8 _ _ hA ?zg ⟨⟨_, _, _, _, _, _, _, _, _, _, _, _, rfl, hb9⟩⟩ ?zo hne ?z1 ?z2 ?z3 ?z4) ?B ?F ?X (pull2 N1) ?T ?k ?d ?u ?_)
  (case B => k_asm); (case F => k_asm); (case X => k_asm); (case T => k_asm)
  (case k => first | exact rfl | assumption)
  (case d => ktr_room)
  (case u => (simp only [un_make, units_in1, units_deeper, Around.mark_units]; (try dsimp only [ktrTop]); omega))
  (case zg => intro p hp; (repeat (first | exact (hg p hp) | exact List.mem_append_left _ (hg p hp) | refine List.Mem.tail _ ?_)))
  (case z1 => decide); (case z2 => decide); (case z3 => decide); (case z4 => decide)
  (case zo => (have q1 := l1.1); (repeat (refine off_one (by (try dsimp only); omega) ?_)); exact off_less hoff (by intro b hb; rw [List.mem_singleton.mp hb]; exact .head _))
  k_dflt (rintro r9 n9 h9 tk9 F9 N9 ⟨b9, t9, o9, lb9, hr9, hw9, ho9, hl9, hle9, hn9⟩; subst hr9; subst hn9; (try dsimp only))
  have hG : KFB.value (win S 0 8).reverse = g := by rw [hS, win_digs]; exact val_digs hg0 hg1
  k_steps
  unfold Hold
  rename News _ _ _ _ => N2
  rename IntsAre _ (List.map (fun _ => (0 : Int)) _) => hI
  have hlb : lb9 = 680 := by omega
  subst hlb
  refine ball_loop (n := tau) (st := st) (gs := g) (Str.ofString "sign_int") [Str.ofString "j"] rfl (by assumption) (small_one (by omega) (by omega) (by omega) (by omega)) (by rw [rangeSize_nat]; omega) (by assumption) (pull2 N2) ho9 hI rfl
    ⟨by simpa using hfeed, by decide, by decide, by decide, by simp [rangeKs], hg0, by simpa using hsg, val_start _ _ _⟩ ?_ ?_
  · intro o lb i vo co no gs tg pre k t u h tk own hk hlt hown hsh hi hB F N
    have kM2 := kstMark
    have kM1 := kdMark
    obtain ⟨p, i', hS⟩ := hB.step (by omega)
    subst hk
    have hcl := hB.len
    have hvl := hi.length
    simp only [List.cons_append, List.map_cons] at N hown
    rename d2 < _ ∧ _ ∧ _ ∧ _ ∧ _ ∧ _ ∧ _ ∧ AllLt _ rest => l3
    rename _ ∧ d2 ≠ _ ∧ _ ∧ _ ∧ _ ∧ _ ∧ _ ∧ _ ∧ LCg.Off1 _ rest => o1
    have q1 : @LT.lt Nat _ _ _ := l1.1
    have q2 : @LT.lt Nat _ _ _ := l3.1
    have q3 : @Ne Nat _ _ := o1.2.1
    have q4 : @Ne Nat _ _ := o1.1
    have q5 : @Ne Nat _ _ := o1.2.2.1
    have q6 : @Ne Nat _ _ := o1.2.2.2.1
    have q7 : @Ne Nat _ _ := o1.2.2.2.2.1
    have q8 : @Ne Nat _ _ := o1.2.2.2.2.2.1
    have q9 : @Ne Nat _ _ := o1.2.2.2.2.2.2.1
    have q10 : @Ne Nat _ _ := o1.2.2.2.2.2.2.2.1
    have hRO := off_app (a := rest) (b := own) (off_of1 o1.2.2.2.2.2.2.2.2) (off_less hown (by intro b hb; rw [List.mem_singleton.mp hb]; exact .tail _ (.tail _ (.head _))))
    k_steps
    unfold Hold
    refine rej_loop [Str.ofString "j"] (by assumption) (by assumption) hsh hS.rej hB.le hB.lo hB.hi ?_
    intro o3 lb3 i3 u3 h3 tk3 hsh3 hR3 F3 N3
    obtain ⟨b3, y1, y2, y3, y4, y5, y6, y7, y8, y9, y10, y11, rfl, hb3⟩ := hsh3.form
    k_steps
    unfold Hold
    k_dflt (refine' use_says (read_says w alg d2 s2 136 gl _ sb S lb3 i3 1 _ _ hA ?zg hsh3 ?zo hne hR3.c ?z2 hR3.d hR3.e) ?B ?F ?X N3 ?T ?k ?d ?u ?_)
    (case B => k_asm); (case F => k_asm); (case X => k_asm); (case T => k_asm)
    (case k => first | exact rfl | assumption)
    (case d => ktr_room)
    (case u => (simp only [un_make, units_in1, units_deeper, Around.mark_units]; (try dsimp only [ktrTop]); omega))
    (case zg => intro p hp; (repeat (first | exact (hg p hp) | exact List.mem_append_left _ (hg p hp) | refine List.Mem.tail _ ?_)))
    (case z2 => decide)
    (case zo => (repeat (refine off_one (by (try dsimp only); omega) ?_)); exact off_app (off_less hoff (by intro b hb; rw [List.mem_singleton.mp hb]; exact .head _)) (off_less hown (by intro b hb; rw [List.mem_singleton.mp hb]; exact .head _)))
    k_dflt (rintro r9 n9 h9 tk9 F9 N9 ⟨b9, t9, o9, lb9, hr9, hw9, ho9, hl9, hle9, hn9⟩; subst hr9; subst hn9; (try dsimp only))
    rw [win_one] at hw9
    have hrle := hS.rej.le
    have hrb := hR3.b
    have hrd := hR3.d
    have hre := hR3.e
    k_steps
    · unfold Hold
      dsimp only [KswPost]
      obtain ⟨hT1, hT2⟩ := hS.rej.take hR3.a hR3.b (by omega)
      subst hT2
      obtain ⟨b4, y1, y2, y3, y4, y5, y6, y7, y8, y9, y10, y11, rfl, hb4⟩ := ho9.form
      k_steps
      unfold Hold
      rename News _ _ _ _ => nE
      rename Fr _ _ _ _ => fE
      rename IntsAre (List.set (List.set vo _ _) _ _) _ => hiE
      refine ball_end fE nE (.head _) (.tail _ (.head _)) (.tail _ (.tail _ (.head _))) (by kst_inAny) (by (intro p hp; kst_mem)) rfl ?ze1 ho9 hiE (hB.next hS (by omega) (by omega) (by omega) (by omega) (by omega) ?ze2 ?ze3 (by omega))
      (case ze1 => intro z h1 h2 h3; simp only [List.contains_cons, List.contains_nil, Bool.or_false, beq_eq_false_iff_ne, ne_eq] at h3; simp [h1, h2, h3])
      (case ze2 => rw [hT1, KE_and_one])
      (case ze3 => exact fd gs 2 (by decide))
    · unfold Hold
      dsimp only [KswPost]
      have hN := hS.rej.pass hR3.b (by omega)
      rename News _ _ _ _ => nE
      rename Fr _ _ _ _ => fE
      k_dflt (refine' ksw_end (?zo, lb9, i3 + 1) fE nE (fun p hp => hp) ho9 (List.forall_mem_nil _) ?zr ⟨Nat.le_succ_of_le hR3.a, hN, hle9, ?z8, ?z4⟩ ?zm)
      (case zr =>
        intro z _ h3
        have h4 : ¬ z = Str.ofString "j" := by
          intro e
          rw [e] at h3
          exact absurd h3 (by decide)
        exact (if_neg h4).trans (if_neg (by rw [h3]; exact Bool.false_ne_true)))
      (case z8 => show 8 ≤ lb9; omega)
      (case z4 => show lb9 ≤ 40000; omega)
      (case zm => show i' - (i3 + 1) < i' - i3; omega)
  · intro o lb i vo co no gs tg u h tk hsh hi hB F N
    have kM2 := kstMark
    have kM1 := kdMark
    have hvl : vo.length = 256 := hi.length.trans hB.len
    k_steps
    unfold Hold
    k_dflt (refine' use_says (poly_says w x dx s1 s2 z _ v1 v2 v3 v4 v5 v6 v7 v8 v9 vo no _ ?zx ?zd ?zl hvl) ?B ?F ?X N ?T ?k ?d ?u ?_)
    (case B => k_asm); (case F => k_asm); (case X => k_asm); (case T => k_asm)
    (case k => first | exact rfl | assumption)
    (case d => ktr_room)
    (case u => (simp only [un_make, units_in1, units_deeper, Around.mark_units]; (try dsimp only [ktrTop]); omega))
    (case zx => k_mem); (case zd => k_mem); (case zl => k_mem)
    k_dflt (rintro r9 n9 h9 tk9 F9 N9 ⟨p9, d9, t91, t92, hr9, hn9⟩; subst hr9; subst hn9; (try dsimp only))
    k_steps
    rename Fr h₀ L _ m => fE
    rename News h₀ L _ _ => nE
    obtain ⟨n9, N9, P9⟩ := ball_post nE (.head _) (.tail _ (.head _)) (.tail _ (.tail _ (.tail _ (.tail _ (.head _))))) (by repeat (first | exact .head _ | refine .tail _ ?_)) (rest := rest) (by intro p hp; repeat (first | exact hp | refine .tail _ ?_)) hi hB hst
    exact hret _ _ _ _ fE N9 P9
end Mine
end
section
open PySem PySem.W PyProof.Rows PySem.Calls
set_option maxRecDepth 100000
set_option rowWalk.seconds 0
namespace Mine
local macro_rules | `(tactic| walk_at "call ref") => `(tactic| k_dflt (rename AlgSays _ _ _ _ _ _ _ => hA'; rename (∀ p ∈ _, p ∈ _) => hg'; refine' use_says (hA'.run _ _ 840 _ _ ?zg (by exact rfl) ?zn) ?B ?F ?X ?N ?T ?k ?d ?u ?_; (case B => assumption); (case F => assumption); (case X => assumption); (case N => assumption); (case T => assumption); (case zg => intro p hp; (repeat (first | exact (hg' p hp) | exact List.mem_append_left _ (hg' p hp) | refine List.Mem.tail _ ?_))); (case zn => decide); (case k => first | exact rfl | assumption); (case d => ktr_room); (case u => (simp only [un_make, units_in1, units_deeper, Around.mark_units]; (try dsimp only [ktrTop]); omega)); intro r9 n9 h9 tk9 F9 N9 hp9; obtain ⟨b9, t9, hr9, hb9, hn9⟩ := hp9; subst hr9; subst hn9; (try dsimp only)))
local macro_rules | `(tactic| walk_at "call type:bytes") => `(tactic| refine Hold.out ?_)
local macro_rules | `(tactic| walk_at "binaryOp Add bytes bytes") => `(tactic| refine Hold.out ?_)
local macro_rules | `(tactic| walk_at "callWith ref") => `(tactic| k_dflt ((show wpAny _ _ (callWith _ (Value.ref _) _ _ (backToKw _ (keywordEach (_ :: _) _))) _ _ _); (refine' callWith_KWi ?zw1 ?zw2 ?zw3 ?zw4 ?_; (case zw1 => k_in); (case zw2 => k_inst); (case zw3 => rfl); (case zw4 => rfl); k_whole)))
local macro_rules | `(tactic| walk_at "CompSrc") => `(tactic| refine Hold.out ?_)
set_option maxHeartbeats 8000000 in
theorem ntt_says (w : World) (x dx s1 d1 s2 z alg : Addr) (v1 v2 v3 v4 v5 v6 v7 v8 v9 t1 t2 t3 t4 t5 t6 t7 tr ti tj : Tok) (gl rest : List (Addr × Obj)) (rb : Array UInt8) (S vs : List Int) (i j : Int)
    (hi0 : 0 ≤ i) (hi1 : i < 256) (hj0 : 0 ≤ j) (hj1 : j < 256) (hrb : (KBw.bInts rb).length ≤ 100)
    (hA : AlgSays PySem.Challenge.rw_bd0004_02.row.prog w (Mine.K w.params) alg gl (rb ++ byteArr [j, i]) S) (hg : ∀ p ∈ gl, p ∈ rest) (hoff : OwnOff rest [d1, 311]) (hne : @LT.lt Nat _ d1 s1) (hxd : @LT.lt Nat _ x d1) (hdx : @LT.lt Nat _ dx x) (h311 : @LT.lt Nat _ 311 dx)
    (hvs : vs.length = 256) (hfeed : Feed3 S 0 vs) :
    SaysC 313 311 PySem.Challenge.rw_bd0004_02.row.prog w (Mine.K w.params) 100 (.ref 314) [.ref x, .bytes rb tr, .int i ti, .int j tj]
      ((d1, shO w.params alg 168 t1 t2 t3 t4 t5 t6 t7) :: (s1, instObj 278 d1) :: (x, instObj 388 dx) :: (dx, ringO w.params s1 s2 z v1 v2 v3 v4 v5 v6 v7 v8 v9) :: (311, tabObj #[]) :: rest)
      (fun r news' => NttPost w.params x vs rest r news') := by
  obtain ⟨oca, oda, fda, sla, hfn⟩ := hA.fn
  replace hfn := hg _ hfn
  unfold SaysC; k_fill
  intro p loose mean mg mb dp un gd cn cs a ccd cl outer A₀ base h₀ L m s Q E B F X N T CH hk hdp hun hret
  refine wpAny_call ?_
  k_dflt k_enter
  k_steps
  unfold Hold
  rename News _ _ _ _ => NE
  rename _ ∧ _ ∧ _ ∧ _ ∧ _ ∧ AllLt _ rest => lL
  rename _ ∧ _ ∧ _ ∧ _ ∧ _ ∧ _ ∧ _ ∧ AllLt _ rest => lC
  rename _ ∧ _ ∧ _ ∧ _ ∧ _ ∧ _ ∧ _ ∧ _ ∧ _ ∧ AllLt _ rest => lI
  rename _ < _ => l2f
  have lF := Nat.lt_trans lC.2.2.1 l2f
  have hin : KBa.In [j, i] := by
    intro n hn
    simp only [List.mem_cons, List.not_mem_nil, or_false] at hn
    rcases hn with rfl | rfl
    · exact ⟨hj0, hj1⟩
    · exact ⟨hi0, hi1⟩
  refine KBa.make_K (by assumption) NE rfl ⟨_, (NE _ (.head _)).1, rfl, _, rfl⟩ (ns := [j, i]) (.cons _ _ (.cons _ _ .nil)) hin (by simp) ?_
  intro h9 t9 k9 F9 N9 _
  k_steps
  unfold Hold
  refine KBa.add_K rfl (KBa.ints_make hin) (by simp only [List.length_cons, List.length_nil]; omega) ?_
  intro t8 k8 _
  k_steps
  unfold Hold
  rename News _ _ _ _ => NE
  rename KBw.bInts _ = pre S 840 => hb9
  refine LCg.CompSrc.range (n := 256) rfl (by assumption) (pull5 NE) (by assumption) (by decide) (by decide) (by rw [sizeLine_eq]; decide) ?_
  intro g9
  refine comp_run hvs ⟨⟨_, _, _, _, _, _, _, _, _, _, _, _, rfl, hb9⟩⟩ (by decide) (by decide) hfeed ?turn ?fin
  (case fin =>
    intro ys o hys
    k_steps
    rename Fr h₀ L _ m => fE
    rename News h₀ L _ _ => nE
    obtain ⟨n9, N9, P9⟩ := ntt_post nE (.head _) (.tail _ (.head _)) (.tail _ (.tail _ (.head _))) (by repeat (first | exact .head _ | refine .tail _ ?_)) (rest := rest) (by intro p hp; repeat (first | exact hp | refine .tail _ ?_)) hys
    exact hret _ _ _ _ fE N9 P9)
  intro v mm idx lb o ys I C D oI oC m₂ h tk E' Q' ho hR h1 h2 h3 hC F2 N2 off2 ne2 hnext
  k_steps
  unfold Hold
  k_dflt (refine wpAny_call ?_; kn_enter)
  k_steps
  unfold Hold
  rename News _ _ _ _ => NF
  refine rej3_loop [Str.ofString "j_bytes", Str.ofString "j"] (m := mm) (by assumption) (pull39 NF) ho h1 h2 h3 ?_
  intro o3 lb3 k3 u3 h3' tk3 hsh3 hR3 F3 N3
  obtain ⟨b3, y1, y2, y3, y4, y5, y6, y7, y8, y9, y10, y11, rfl, hb3⟩ := hsh3.form
  k_steps
  unfold Hold
  rename ∀ p ∈ gl, p ∈ rest => hg
  rename AlgSays _ _ _ _ _ _ _ => hA
  k_dflt (refine' use_says (read_says w alg d1 s1 168 gl _ _ S lb3 (idx + 3 * k3) 3 _ _ hA ?zg hsh3 ?zo hne hR3.c ?zz2 hR3.d hR3.e) ?zB ?zF ?zX N3 ?zT ?zk ?zd ?zu ?_)
  (case zB => k_asm); (case zF => k_asm); (case zX => k_asm); (case zT => k_asm)
  (case zk => first | exact rfl | assumption)
  (case zd => ktr_room)
  (case zu => (simp only [un_make, units_in1, units_deeper, Around.mark_units]; (try dsimp only [ktrTop]); omega))
  (case zg => intro p hp; (repeat (first | exact (hg p hp) | exact List.mem_append_left _ (hg p hp) | refine List.Mem.tail _ ?_)))
  (case zz2 => decide)
  (case zo =>
    have p1 := off2.1.1
    have p2 := off2.1.2.1
    have p3 := off2.1.2.2
    have p4 := lL.1
    have p5 := lC.2.2.1
    have p6 := lI.2.2.2.2.1
    clear ne2
    (repeat (refine off_one (by (try dsimp only); omega) ?_))
    exact off_less hoff (by intro b hb; rw [List.mem_singleton.mp hb]; exact .head _))
  k_dflt (rintro r9 n9 h9 tk9 F9 N9 ⟨b9, t9, o9, lb9, hr9, hw9, ho9, hl9, hle9, hn9⟩; subst hr9; subst hn9; (try dsimp only))
  have hG := val_three S (idx + 3 * k3)
  have hrd := hR3.d
  have hre := hR3.e
  have hrb' := hR3.b
  have hrle := hR.le
  k_steps
  · unfold Hold
    dsimp only [KswPost]
    obtain ⟨hT1, hT2⟩ := hR.take hR3.b (by assumption)
    subst hT2
    rename News _ _ _ _ => nE
    rename Fr _ _ _ _ => fE
    k_steps
    rw [← hT1] at hnext
    refine hnext _ o9 lb9 _ _ (by assumption) (un39 (by assumption)) ho9 ?_ ?_ ?_
    · show idx + 3 * (k3 + 1) ≤ lb9
      omega
    · omega
    · omega
  · unfold Hold
    dsimp only [KswPost]
    have hN := hR.pass hR3.b (by assumption)
    rename News _ _ _ _ => nE
    rename Fr _ _ _ _ => fE
    k_dflt (refine' ksw_end (?zo2, lb9, k3 + 1) fE nE (fun p hp => .tail _ hp) ho9 (List.forall_mem_nil _) ?zr2 ⟨hN, ?zq1, ?zq2, ?zq3⟩ ?zm2)
    (case zr2 =>
      intro z _ h3
      have h4 : ¬ z = Str.ofString "j" := by
        intro e
        rw [e] at h3
        exact absurd h3 (by decide)
      have h5 : ¬ z = Str.ofString "j_bytes" := by
        intro e
        rw [e] at h3
        exact absurd h3 (by decide)
      exact (if_neg h4).trans ((if_neg h4).trans ((if_neg h5).trans (if_neg (by rw [h3]; exact Bool.false_ne_true)))))
    (case zq1 => show idx + 3 * (k3 + 1) ≤ lb9; omega)
    (case zq2 => show 8 ≤ lb9; omega)
    (case zq3 => show lb9 ≤ 40000; omega)
    (case zm2 => show mm + 1 - (k3 + 1) < mm + 1 - k3; omega)
end Mine
end
end
section
open PySem PySem.W PyProof.Rows PySem.Calls
namespace Mine
theorem feed3_filter {S : List Int} : ∀ (ns : List Int) (j m : Nat), (∀ k, k < ns.length → val3 S (3 * (j + m + k)) = ns.getD k 0) → (∀ k, k < m → 8380417 ≤ val3 S (3 * (j + k))) → 3 * (j + m + ns.length) ≤ 20000 →
    Feed3 S (3 * j) (ns.filter fun n => decide (n < 8380417))
  | [], _, _, _, _, _ => trivial
  | n :: r, j, m, hv, ho, hl => by
    have h0 : val3 S (3 * (j + m)) = n := hv 0 (by simp)
    simp only [List.length_cons] at hl
    have hr : ∀ k, k < r.length → val3 S (3 * (j + m + 1 + k)) = r.getD k 0 := fun k hk => by
      have := hv (k + 1) (by simp only [List.length_cons]; omega)
      rw [show j + m + 1 + k = j + m + (k + 1) by omega]
      exact this
    rw [List.filter_cons]
    by_cases hn : n < 8380417
    · rw [if_pos (decide_eq_true hn)]
      refine ⟨m, ⟨by omega, ?_, hn, fun k hk => ?_⟩, ?_⟩
      · rw [show 3 * j + 3 * m = 3 * (j + m) by omega]; exact h0
      · rw [show 3 * j + 3 * k = 3 * (j + k) by omega]; exact ho k hk
      · have := feed3_filter r (j + m + 1) 0 (fun k hk => by rw [show j + m + 1 + 0 + k = j + m + 1 + k by omega]; exact hr k hk) (fun k hk => absurd hk (Nat.not_lt_zero _)) (by omega)
        rw [show 3 * j + 3 * (m + 1) = 3 * (j + m + 1) by omega]
        exact this
    · rw [if_neg (by simpa using hn)]
      refine feed3_filter r j (m + 1) (fun k hk => by rw [show j + (m + 1) + k = j + m + 1 + k by omega]; exact hr k hk) (fun k hk => ?_) (by omega)
      by_cases e : k < m
      · exact ho k e
      · have e2 : k = m := by omega
        subst e2
        rw [h0]; omega
end Mine
namespace Mine
theorem bitAnd_m23 (x : Int) (h0 : 0 ≤ x) : Builtin.bitAnd x 8388607 = x % 8388608 := by
  rw [bitAnd_pp h0 (by decide)]
  have h : x.toNat &&& (8388607 : Int).toNat = x.toNat % 8388608 := Nat.and_two_pow_sub_one_eq_mod x.toNat 23
  rw [h]
  omega
/-- the octets of one group -/
def grp (n t : Int) : List Int := [(n + 8388608 * t) % 256, (n + 8388608 * t) / 256 % 256, (n + 8388608 * t) / 65536]
def groupsOf (top : Int) : Nat → List Int → List Int
  | _, [] => []
  | i, n :: r => grp n ((top + (i : Int)) % 2) ++ groupsOf top (i + 1) r
theorem groups_len (top : Int) : ∀ (ns : List Int) (i : Nat), (groupsOf top i ns).length = 3 * ns.length
  | [], _ => rfl
  | n :: r, i => by
    rw [groupsOf, List.length_append, groups_len top r (i + 1), List.length_cons]
    simp [grp]; omega
theorem groups_val {S : List Int} (top : Int) : ∀ (ns : List Int) (i : Nat) (pr : List Int) (_ : ∀ n ∈ ns, 0 ≤ n ∧ n < 8388608) (_ : S = pr ++ groupsOf top i ns) (k : Nat), k < ns.length → val3 S (pr.length + 3 * k) = ns.getD k 0
  | [], _, _, _, _, _, h => absurd h (Nat.not_lt_zero _)
  | n :: r, i, pr, hb, hS, 0, _ => by
    have e : ∀ j, j < 3 → S.getD (pr.length + j) 0 = (grp n ((top + (i : Int)) % 2)).getD j 0 := fun j hj => by
      rw [hS, groupsOf, List.getD_eq_getElem?_getD, List.getElem?_append_right (by omega), Nat.add_sub_cancel_left, List.getElem?_append_left (by simp [grp]; omega), ← List.getD_eq_getElem?_getD]
    have e0 := e 0 (by decide)
    have e1 := e 1 (by decide)
    have e2 := e 2 (by decide)
    have hn := hb n (.head _)
    unfold val3
    rw [Nat.mul_zero, Nat.add_zero] 
    rw [Nat.add_zero] at e0
    rw [e0, e1, e2]
    simp only [grp, List.getD_cons_zero, List.getD_cons_succ]
    have ht : (top + (i : Int)) % 2 = 0 ∨ (top + (i : Int)) % 2 = 1 := by omega
    rw [bitAnd_m23 _ (by omega)]
    omega
  | n :: r, i, pr, hb, hS, k + 1, hk => by
    have h1 := groups_val (S := S) top r (i + 1) (pr ++ grp n ((top + (i : Int)) % 2)) (fun x hx => hb x (.tail _ hx)) (by rw [hS, groupsOf, List.append_assoc]) k (by simp only [List.length_cons] at hk; omega)
    have e : (pr ++ grp n ((top + (i : Int)) % 2)).length = pr.length + 3 := by simp [grp]
    rw [e] at h1
    rw [show pr.length + 3 * (k + 1) = pr.length + 3 + 3 * k by omega]
    exact h1
end Mine
end
section
open PySem PySem.W PyProof.Rows PySem.Calls
namespace Mine
theorem groups_snoc (top x : Int) : ∀ (ns : List Int) (i : Nat), groupsOf top i (ns ++ [x]) = groupsOf top i ns ++ grp x ((top + ((i + ns.length : Nat) : Int)) % 2)
  | [], i => by simp [groupsOf]
  | n :: r, i => by
    rw [List.cons_append, groupsOf, groups_snoc top x r (i + 1), groupsOf, List.append_assoc, List.length_cons, show i + 1 + r.length = i + (r.length + 1) by omega]
theorem groups_next (top : Int) (ns os : List Int) (t : Nat) (x y : Int) (ht : t < ns.length) (ho : os = groupsOf top 0 (ns.take t)) (hx : x = ns.getD t 0 + 8388608 * ((top + (t : Int)).fmod 2)) (hb : ∀ n ∈ ns, 0 ≤ n ∧ n < 8388608) (hy : y = (x.fdiv 256).fmod 256) :
    os ++ [x.fmod 256, y, x.fdiv 65536] = groupsOf top 0 (ns.take (t + 1)) := by
  have e : ns.take (t + 1) = ns.take t ++ [ns.getD t 0] := by
    rw [List.take_add_one, List.getD_eq_getElem?_getD, List.getElem?_eq_getElem ht]; rfl
  have hl : (ns.take t).length = t := by rw [List.length_take]; omega
  rw [e, groups_snoc, ho, hl, Nat.zero_add, hy, hx]
  have h2 : (top + (t : Int)).fmod 2 = (top + (t : Int)) % 2 := Int.fmod_eq_emod_of_nonneg _ (by decide)
  have hd1 : ∀ a : Int, a.fdiv 256 = a / 256 := fun a => Int.fdiv_eq_ediv_of_nonneg a (by decide)
  have hd2 : ∀ a : Int, a.fdiv 65536 = a / 65536 := fun a => Int.fdiv_eq_ediv_of_nonneg a (by decide)
  rw [h2, hd1, hd2, fm256, fm256]
  rfl
theorem groups_in (top : Int) : ∀ (ns : List Int) (i : Nat), (∀ n ∈ ns, 0 ≤ n ∧ n < 8388608) → ∀ x ∈ groupsOf top i ns, 0 ≤ x ∧ x < 256
  | [], _, _, _, hx => nomatch hx
  | n :: r, i, hb, x, hx => by
    rw [groupsOf] at hx
    rcases List.mem_append.mp hx with hx | hx
    · have hn := hb n (.head _)
      simp only [grp, List.mem_cons, List.not_mem_nil, or_false] at hx
      omega
    · exact groups_in top r (i + 1) (fun m hm => hb m (.tail _ hm)) x hx
end Mine
end
section
open PySem PySem.W PyProof.Rows PySem.Calls
set_option maxRecDepth 100000
namespace Mine
theorem iadd_fills : fillsInplaceSlot (.type "list") "add" (Operator.Add == .Add) = pure false := by
  unfold fillsInplaceSlot
  show (typeLookup (.type "list") (dunderI "add") >>= fun fi => pure (fi.isSome && !isSeqSlot fi)) = pure false
  rw [F.slot_list_iadd.lookup]
  have h : isSeqSlot (some (.builtin "list.__iadd__")) = true := by decide +kernel
  simp only [pure_bind, h]
  rfl
theorem iadd_seq : seqSlot? (.type "list") (dunderI "add") = pure (some (.builtin "list.__iadd__")) := PySem.seqSlot_of F.slot_list_iadd.lookup (by decide +kernel)
section
variable {M : Model} {A : Around} {E : Value → Shared → Prop} {s : Shared}
theorem inplace_list {a b : Value} {Q : Value → Shared → Prop} (ha : s.TypeIs a "list") (hb : s.TypeIs b "list") (hc : wpAny M A (call (.builtin "list.__iadd__") [a, b]) Q E s) : wpAny M A (inplaceOp .Add a b) Q E s := by
  unfold inplaceOp
  refine wpAny_holding ?_
  refine wpAny_bind (wpAny_typeOf ha (wpAny_bind (wpAny_of_eq iadd_fills ?_)))
  show wpAny M A (if false = true then _ else _) Q E s
  rw [if_neg Bool.false_ne_true]
  refine wpAny_bind (wpAny_binaryOp1_none (nm := "add") ha hb noFill_list_add ?_)
  refine wpAny_bind (wpAny_of_eq iadd_seq ?_)
  exact wpAny_bind (wpAny_rule hc)
end
section
variable {prog : Program} {w : World} {A : Around} {E : Value → Shared → Prop} {s : Shared} {h₀ : Heap} {L D b : Addr} {m : Str → Option Value} {news news' : List (Addr × Obj)}
/-- a list of known items added in place to a list that stands in the ledger -/
theorem iadd_list {vs ws : List Value} {n n2 : Nat} {Q : Value → Shared → Prop} (F : Fr h₀ L s.heap m) (N : News h₀ L s.heap news) (hb : (b, listOf ws.toArray n2) ∈ news) (hne : ws.length ≠ 0)
    (U : Upd D (listOf vs.toArray n) (listOf (vs ++ ws).toArray (n + 1)) news news') (hz : vs.length + ws.length ≤ 1000000)
    (h : ∀ h', Fr h₀ L h' m → News h₀ L h' news' → Q (.ref D) { s with heap := h' }) : wpAny (model prog w) A (inplaceOp .Add (.ref D) (.ref b)) Q E s := by
  obtain ⟨pre, post, rfl, rfl, a, c⟩ := U.split
  have z := N (D, listOf vs.toArray n) (List.mem_append.mpr (.inr (.head _)))
  have hs : vs.toArray.size + ws.toArray.size ≤ sizeLine := by rw [List.size_toArray, List.size_toArray, sizeLine_eq]; omega
  refine inplace_list ⟨_, z.1, rfl⟩ ⟨_, (N _ hb).1, rfl⟩ ?_
  refine call_meets PySem.F.slot_list_iadd ⟨_, z.1, rfl⟩ PySem.F.entry_list_iadd (PySem.F.args_list_iadd_2 _ _) (PySem.AutoSeq1.list___iadd___list_list_0 D vs.toArray n b ws.toArray n2 (extend_door hs) (by omega) (by omega)) ⟨z.1, (N _ hb).1, h _ (F.change (Heap.SameBut.update ..) z.2.1 z.2.2) (kl_turn _ N a c ?_ ?_)⟩
  · apply Array.toList_inj.mp
    simp
  · simpa using hne
end
end Mine
end
section
open PySem PySem.W PyProof.Rows PySem.Calls
set_option maxRecDepth 100000
set_option rowWalk.seconds 0
namespace Mine
local macro_rules | `(tactic| walk_at "call type:range") => `(tactic| ((rename Fr _ _ _ _ => F'); (rename News _ _ _ _ => N'); first
  | (with_unfolding_all refine range1_rows F' N' ?_; intro _ _ _ _ _ _ _ _ _)
  | (with_unfolding_all refine range2_rows F' N' ?_; intro _ _ _ _ _ _ _ _ _)))
local macro_rules | `(tactic| walk_at "InvEndN") => `(tactic| refine Hold.out ?_)
local macro_rules | `(tactic| walk_at "pyIter ref") => `(tactic| refine Hold.out ?_)
local macro_rules | `(tactic| walk_at "call builtin:len") => `(tactic| (k_here; (with_reducible show wpAny _ _ (call (Value.builtin "len") [Value.ref _]) _ _ _); refine len_of (by k_asm) (by k_mem) (by assumption) (by omega) ?_))
local macro_rules | `(tactic| walk_at "inplaceOp Add ref ref") => `(tactic| (k_here; k_dflt (refine' iadd_list ?zjF ?zjN ?zjb ?zjne ?zjU ?zjz ?_; (case zjF => k_asm); (case zjN => k_asm); (case zjU => k_upd); (case zjb => k_mem); (case zjne => exact Nat.succ_ne_zero _); (case zjz => (simp only [List.length_cons, List.length_nil]; omega))); intro h' F' N'; (try dsimp only [List.nil_append, List.cons_append] at N')))
set_option maxHeartbeats 4000000 in
theorem groups_says (w : World) (D : Addr) (vs : List Value) (ns : List Int) (n0 : Nat) (top : Int) (tt : Tok) (news : List (Addr × Obj)) (hn : IntsAre vs ns) (hlen : ns.length ≤ 576) (hD : (D, listOf vs.toArray n0) ∈ news) (hb : ∀ n ∈ ns, 0 ≤ n ∧ n < 8388608) :
    Says PySem.Challenge.rw_bd0004_02.row.prog w (Mine.K w.params) 20 (.ref 611) [.ref D, .int top tt] news (fun r news' => ∃ d vo no, r = .ref d ∧ news' = (d, listOf (List.toArray vo) no) :: news ∧ IntsAre vo (groupsOf top 0 ns) ∧ AllLt d news) := by
  unfold Says; k_fill
  intro p loose mean mg mb dp un gd cn cs a ccd cl outer A₀ base h₀ L m s Q E B F X N0 T hk hdp hun hret
  have N := news_dup N0 hD
  clear N0
  have hvl := hn.length
  refine wpAny_call ?_
  k_dflt ktr_enter
  k_steps
  unfold Hold
  refine grow_loop (n := ns.length) [Str.ofString "n"] (fun t os => os = groupsOf top 0 (ns.take t)) rfl (by assumption) (small_one (by omega) (by omega) (by omega) (by omega)) (by rw [rangeSize_nat]; rfl) (by assumption) (by assumption) .nil rfl ?_ ?_
  · intro vo os no pre k t u h tk own hk hlt hoff hi hP F N
    have kM2 := kstMark
    have kM1 := kdMark
    simp only [List.cons_append, List.map_cons] at N hoff
    have hk0 : k = (pre.length : Int) := by omega
    subst hk0
    have hol : os.length = 3 * pre.length := by rw [hP, groups_len, List.length_take]; omega
    have hil := hi.length
    k_steps
    unfold Hold
    (rename News _ _ _ _ => NE)
    (rename Fr _ _ _ _ => FE)
    refine grow_end FE NE (.tail _ (.head _)) (by kst_inAny) (by (intro p hp; kst_mem)) (by intro z h1 h3; simp only [List.contains_cons, List.contains_nil, Bool.or_false, beq_eq_false_iff_ne, ne_eq] at h3; simp [h1, h3]; intro e1 e2; exact absurd e1 e2) (IntsAre.append hi (.cons _ _ (.cons _ _ (.cons _ _ .nil)))) (groups_next top ns os pre.length _ _ hlt hP ?zx1 hb rfl)
    (case zx1 => rw [Int.toNat_natCast])
  · intro vo os no u h tk hi hP F N
    k_steps
    rename D < _ ∧ _ => hlD
    rename Fr h₀ L _ m => fE
    rename News h₀ L _ _ => nE
    rw [List.take_length] at hP
    subst hP
    exact hret _ _ _ _ fE (fun p hp => nE p (by rcases List.mem_cons.mp hp with rfl | hp; exact .head _; exact .tail _ (.tail _ hp))) ⟨_, vo, no, rfl, rfl, hi, hlD.2⟩
end Mine
end
section
open PySem PySem.W PyProof.Rows PySem.Calls
set_option maxRecDepth 100000
namespace Mine
/-- a function handed in that tells a row for one text, by its cells -/
theorem asked_of {prog : Program} {w : World} {K : Frag} {nm ql : Str} {params : Arguments} {body : List Stmt} {scope : Scope} {cl : List (Str × Addr)} {doc pm ctv : Value} {f c' ca cb : Addr} {oc oa ob : Obj} {sb : Array UInt8} {S : List Int}
    (run : ∀ (news : List (Addr × Obj)) (k : Int) (n : Nat) (ts tn : Tok), k = (n : Int) → n ≤ 100000 → Says prog w K 20 (.ref f) [.bytes sb ts, .int k tn] ((f, fnMade nm ql params body scope cl doc pm c' ctv) :: (c', oc) :: (ca, oa) :: (cb, ob) :: news)
      (fun r news' => ∃ b t, r = .bytes b t ∧ KBw.bInts b = pre S n ∧ news' = (f, fnMade nm ql params body scope cl doc pm c' ctv) :: (c', oc) :: (ca, oa) :: (cb, ob) :: news)) :
    AlgSays prog w K f [(f, fnMade nm ql params body scope cl doc pm c' ctv), (c', oc), (ca, oa), (cb, ob)] sb S := by
  refine ⟨⟨_, _, _, _, .head _⟩, ?_⟩
  intro news k n ts tn hg hk hn p loose mean mg mb dp un gd cn cs a ccd cl outer A₀ base h₀ L m s Q E B F X N T hkk hdp hun hret
  refine use_says (run news k n ts tn hk hn) B F X ?_ T hkk hdp hun ?_
  · intro q hq
    rcases List.mem_cons.mp hq with h | hq
    · exact N _ (hg _ (by rw [h]; exact .head _))
    rcases List.mem_cons.mp hq with h | hq
    · exact N _ (hg _ (by rw [h]; exact .tail _ (.head _)))
    rcases List.mem_cons.mp hq with h | hq
    · exact N _ (hg _ (by rw [h]; exact .tail _ (.tail _ (.head _))))
    rcases List.mem_cons.mp hq with h | hq
    · exact N _ (hg _ (by rw [h]; exact .tail _ (.tail _ (.tail _ (.head _)))))
    exact N _ hq
  · rintro r news' h' tk' F' N' ⟨b, t, e1, e2, rfl⟩
    exact hret r news h' tk' F' (fun q hq => N' q (.tail _ (.tail _ (.tail _ (.tail _ hq))))) ⟨b, t, e1, e2, rfl⟩
structure IntPost (s : Shared) (v : Value) (s' : Shared) : Prop where
  ok : ∃ n tk tk', v = .int n tk ∧ s' = { s with toks := tk' }
theorem join_int {M : Model} {A : Around} {E : Value → Shared → Prop} {s : Shared} {Q : Value → Shared → Prop} {t : Sem Value} (h1 : wpAny M A t (fun v s' => IntPost s v s') E s)
    (h2 : ∀ n tk tk', Q (.int n tk) { s with toks := tk' }) : wpAny M A t Q E s :=
  wpAny_mono h1 (fun v s' ⟨n, tk, tk', e1, e2⟩ => by subst e1; subst e2; exact h2 n tk tk') (fun _ _ h => h)
theorem have_asked {prog : Program} {w : World} {K : Frag} {A : Around} {E : Value → Shared → Prop} {s : Shared} {α : Type} {Q : α → Shared → Prop} {t : Sem α} {h₀ h' : Heap} {L : Addr} {led : List (Addr × Obj)} (sb : Array UInt8) (S : List Int)
    {nm ql x1 x2 : Str} {params : Arguments} {body : List Stmt} {scope : Scope} {doc pm ctv : Value} {f c' ca cb : Addr} {oc oa ob : Obj} (_X : K.In h₀) (_N : News h₀ L h' led)
    (_m1 : (f, fnMade nm ql params body scope [(x1, ca), (x2, cb)] doc pm c' ctv) ∈ led) (_m2 : (c', oc) ∈ led) (_m3 : (ca, oa) ∈ led) (_m4 : (cb, ob) ∈ led)
    (run : ∀ (news : List (Addr × Obj)) (k : Int) (n : Nat) (ts tn : Tok), k = (n : Int) → n ≤ 100000 → Says prog w K 20 (.ref f) [.bytes sb ts, .int k tn] ((f, fnMade nm ql params body scope [(x1, ca), (x2, cb)] doc pm c' ctv) :: (c', oc) :: (ca, oa) :: (cb, ob) :: news)
      (fun r news' => ∃ b t, r = .bytes b t ∧ KBw.bInts b = pre S n ∧ news' = (f, fnMade nm ql params body scope [(x1, ca), (x2, cb)] doc pm c' ctv) :: (c', oc) :: (ca, oa) :: (cb, ob) :: news))
    (h : AlgSays prog w K f [(f, fnMade nm ql params body scope [(x1, ca), (x2, cb)] doc pm c' ctv), (c', oc), (ca, oa), (cb, ob)] sb S → wpAny (model prog w) A t Q E s) : wpAny (model prog w) A t Q E s := h (asked_of run)
theorem cut_pre {S ks : List Int} {n m : Nat} (hm : m = (S ++ List.replicate n 0).length) (e : ks = List.take ((some (n : Int)).elim m (clipAt m) - (none : Option Int).elim 0 (clipAt m)) (List.drop ((none : Option Int).elim 0 (clipAt m)) (S ++ List.replicate n 0))) : ks = pre S n := by
  rw [e]
  show List.take (clipAt m (n : Int) - 0) (List.drop 0 _) = _
  rw [clipAt_nat, Nat.sub_zero, List.drop_zero]
  unfold pre
  rw [Nat.min_eq_left (by rw [hm, List.length_append, List.length_replicate]; omega)]
end Mine
end
section
open PySem PySem.W PyProof.Rows PySem.Calls
set_option maxRecDepth 100000
set_option rowWalk.seconds 0
namespace Mine
/-- as Says, over a list that stands from the start -/
def SaysB (D : Addr) (its : Array Value) (prog : Program) (w : World) (K : Frag) (d : Nat) (f : Value) (vs : List Value) (news : List (Addr × Obj)) (Post : Value → List (Addr × Obj) → Prop) : Prop :=
  ∀ (p : Program) (loose : List Str) (mean : ExcName → Option Value) (mg mb : Str → Option Value) (dp un : Nat) (gd : Option (List Code)) (cn : Str) (cs : Scope) (a : Addr) (ccd : Value) (cl : List (Str × Addr)) (outer : List Env) (A₀ : Around) (base h₀ : Heap) (L : Addr) (m : Str → Option Value) (s : Shared) (Q E : Value → Shared → Prop),
    base.IsList D its → Below A₀ base outer h₀ → Fr h₀ L s.heap m → K.In h₀ → News h₀ L s.heap news → Top p loose mean mg mb h₀ → cs.kind = .function → dp + d < recursionLimit → un + 8 * d < cLine →
    (∀ r news' h' tk', Fr h₀ L h' m → News h₀ L h' news' → Post r news' → Q r { s with heap := h', toks := tk' }) →
    wpAny (model prog w) (ktrTop dp un gd cn cs L a ccd cl outer) (call f vs) Q E s
theorem use_saysB {D : Addr} {its : Array Value} {prog : Program} {w : World} {K : Frag} {d : Nat} {f : Value} {vs : List Value} {news : List (Addr × Obj)} {Post : Value → List (Addr × Obj) → Prop} {p : Program} {loose : List Str} {mean : ExcName → Option Value} {mg mb : Str → Option Value} {dp un : Nat} {gd : Option (List Code)} {cn : Str} {cs : Scope} {a : Addr} {ccd : Value} {cl : List (Str × Addr)} {outer : List Env} {A₀ : Around} {base h₀ : Heap} {L : Addr} {m : Str → Option Value} {s : Shared} {Q E : Value → Shared → Prop}
    (S : SaysB D its prog w K d f vs news Post) (Z : base.IsList D its) (B : Below A₀ base outer h₀) (F : Fr h₀ L s.heap m) (X : K.In h₀) (N : News h₀ L s.heap news) (T : Top p loose mean mg mb h₀) (hk : cs.kind = .function) (hd : dp + d < recursionLimit) (hu : un + 8 * d < cLine)
    (ret : ∀ r news' h' tk', Fr h₀ L h' m → News h₀ L h' news' → Post r news' → Q r { s with heap := h', toks := tk' }) :
    wpAny (model prog w) (ktrTop dp un gd cn cs L a ccd cl outer) (call f vs) Q E s := by unfold SaysB at S; apply S <;> assumption
local macro_rules | `(tactic| walk_at "eval IfExp") => `(tactic| refine Hold.out ?_)
set_option maxHeartbeats 4000000 in
theorem number_says (w : World) (D : Addr) (vs : List Value) (ns : List Int) (k mi : Int) (tk tm : Tok) (news : List (Addr × Obj)) (hn : IntsAre vs ns) (hlen : ns.length ≤ 63) (hk0 : 0 ≤ k) :
    SaysB D vs.toArray PySem.Challenge.rw_bd0004_02.row.prog w (Mine.K w.params) 20 (.ref 597) [.ref D, .int k tk, .int mi tm] news (fun r news' => ∃ n t, r = .int n t ∧ news' = news) := by
  unfold SaysB; k_fill
  intro p loose mean mg mb dp un gd cn cs a ccd cl outer A₀ base h₀ L m s Q E Z B F X N T hk hdp hun hret
  have hvl := hn.length
  refine wpAny_call ?_
  k_dflt ktr_enter
  rename Below _ _ _ _ => B2
  have Z2 := stays_list B2.stays Z
  k_steps
  unfold Hold
  (with_reducible refine IfExp_ ?_)
  k_steps
  all_goals (
    rename Fr h₀ L _ m => fE
    rename News h₀ L _ _ => nE
    exact hret _ _ _ _ fE nE ⟨_, _, rfl, rfl⟩)
end Mine
end
section
open PySem PySem.W PyProof.Rows PySem.Calls
set_option maxRecDepth 100000
set_option rowWalk.seconds 0
namespace Mine
/-- what _law_ring gives: a ring over the asked stream and the unasked one -/
def RgPost (prog : Program) (w : World) (K : Frag) (sb : Array UInt8) (S : List Int) (first : Bool) (rest : List (Addr × Obj)) (r : Value) (news' : List (Addr × Obj)) : Prop :=
  ∃ f c' ca cb fu of oc oa ob ps x dx s1 d1 s2 d2 z t1 t2 t3 t4 t5 t6 t7 u1 u2 u3 u4 u5 u6 u7 v1 v2 v3 v4 v5 v6 v7 v8 v9, r = .ref x ∧ AlgSays prog w K f [(f, of), (c', oc), (ca, oa), (cb, ob)] sb S ∧
    news' = (s2, instObj 278 d2) :: (d2, shO w.params (cond first fu f) 136 t1 t2 t3 t4 t5 t6 t7) :: (s1, instObj 278 d1) :: (d1, shO w.params (cond first f fu) 168 u1 u2 u3 u4 u5 u6 u7) :: (x, instObj 388 dx) :: (dx, ringO w.params s1 s2 z v1 v2 v3 v4 v5 v6 v7 v8 v9) :: (f, of) :: (c', oc) :: (ca, oa) :: (cb, ob) :: (599, tabObj ps) :: rest ∧
    d2 < s2 ∧ s1 < d2 ∧ d1 < s1 ∧ x < d1 ∧ dx < x ∧ AllLt dx ((f, of) :: (c', oc) :: (ca, oa) :: (cb, ob) :: (599, tabObj ps) :: rest) ∧
    (∀ p ∈ rest, @LT.lt Nat _ p.1 f ∧ @LT.lt Nat _ p.1 c' ∧ @LT.lt Nat _ p.1 ca ∧ @LT.lt Nat _ p.1 cb)
theorem drop67 {h₀ h : Heap} {L : Addr} {a b c d e f g i j k l q : Addr × Obj} {rest : List (Addr × Obj)} (N : News h₀ L h (a :: b :: c :: d :: e :: f :: g :: i :: j :: k :: l :: q :: rest)) : News h₀ L h (a :: b :: c :: d :: e :: f :: j :: k :: q :: l :: rest) := fun p hp => N p (by
  simp only [List.mem_cons] at hp ⊢
  rcases hp with h | h | h | h | h | h | h | h | h | h | h <;> simp [h])
local macro_rules | `(tactic| walk_at "subscriptTail") => `(tactic| k_dflt ((show wpAny _ _ (subscriptTail _ (Expr.Slice none _ none _) (Value.bytes _ _) (Value.ref _)) _ _ _); rename Fr _ _ _ _ => F'; rename News _ _ _ _ => N'; rename KBw.bInts _ = _ ++ _ => hbb; (refine' KBc.slice_K (s := ⟨_, _, _, _, _⟩) F' N' hbb (by constructor) (by constructor) ?zsl ?_); (case zsl => (rw [List.length_append, List.length_replicate]; omega)); intro _ _ _ F' N' kbcK))
local macro_rules | `(tactic| walk_at "eval IfExp") => `(tactic| refine Hold.out ?_)
local macro_rules | `(tactic| walk_at "call ref") => `(tactic| refine Hold.out ?_)
local macro_rules | `(tactic| walk_at "call type:bytes") => `(tactic| refine Hold.out ?_)
set_option maxHeartbeats 4000000 in
theorem ring0_says (w : World) (sb strm : Array UInt8) (ks : List Int) (tp ts to : Tok) (rest : List (Addr × Obj)) (hstrm : KBw.bInts strm = ks) (hkl : ks.length ≤ 20000) (hoff : OwnOff rest [599]) :
    SaysC 603 599 PySem.Challenge.rw_bd0004_02.row.prog w (Mine.K w.params) 80 (.ref 604) [.int 0 tp, .bytes sb ts, .bytes strm to] ((599, tabObj #[]) :: rest) (fun r news' => RgPost PySem.Challenge.rw_bd0004_02.row.prog w (Mine.K w.params) sb ks true rest r news') := by
  unfold SaysC; k_fill
  intro p loose mean mg mb dp un gd cn cs a ccd cl outer A₀ base h₀ L m s Q E B F X N T CH hk hdp hun hret
  refine wpAny_call ?_
  k_dflt k_enter
  k_steps
  unfold Hold
  rename News _ _ _ _ => NE
  rename Frag.In _ _ => XE
  refine' have_asked sb ks XE NE (.tail _ (.tail _ (.head _))) (.tail _ (.tail _ (.tail _ (.head _)))) ?za1 ?za2 ?za3 ?za4
  (case za1 => k_mem); (case za2 => k_mem)
  (case za3 =>
    clear hret
    intro news k n ts tn hk hn
    unfold Says
    intro p loose mean mg9 mb dp un gd cn cs9 a9 ccd cl outer A₀ base h₀ L m s9 Q E B F X N T hkk hdp hun hret
    subst hk
    k_dflt (refine wpAny_call ?_; kn_enter)
    k_steps
    unfold Hold
    (with_reducible refine IfExp_ ?_)
    k_steps
    · unfold Hold
      refine call_bytes_int (by omega) (by omega) ?_
      intro bz tz cz hz9
      rw [Int.toNat_natCast] at hz9
      k_steps
      refine KBa.add_K hstrm hz9 (by rw [List.length_replicate]; omega) ?_
      intro t8 k8 hadd
      k_steps
      rename Fr h₀ L _ m => fE
      rename News h₀ L _ _ => nE
      rename KBw.bInts _ = List.take _ _ => kc
      exact hret _ _ _ _ fE nE ⟨_, _, rfl, cut_pre rfl kc, rfl⟩
    · exfalso
      first
        | exact absurd (beq_self_eq_true sb.toList) (by assumption)
        | (rename (_ == _) = false => hbf; rw [beq_self_eq_true] at hbf; exact Bool.noConfusion hbf))
  intro hAsk
  k_dflt (refine' use_says (ring_says _ _ _ _) ?zB ?zF ?zX NE ?zT ?zk ?zd ?zu ?_)
  (case zB => k_asm); (case zF => k_asm); (case zX => k_asm); (case zT => k_asm)
  (case zk => first | exact rfl | assumption)
  (case zd => ktr_room)
  (case zu => (simp only [units_in1, units_deeper, Around.mark_units]; (try dsimp only [ktrTop]); omega))
  k_dflt (rintro r9 n9 h9 tk9 F9 N9 ⟨x, dx, s1, d1, s2, d2, z, t1, t2, t3, t4, t5, t6, t7, u1, u2, u3, u4, u5, u6, u7, v1, v2, v3, v4, v5, v6, v7, v8, v9, hr9, hn9, hL1, hL2, hL3, hL4, hL5, hL6⟩; subst hr9; subst hn9; (try dsimp only))
  k_steps
  rename Fr h₀ L _ m => fE
  rename News h₀ L _ _ => nE
  rename 599 < _ ∧ AllLt _ rest => hl
  have hlr := ktn_ltOf hl.2
  rename _ < _ ∧ _ < _ ∧ 599 < _ ∧ AllLt _ rest => hc
  have hc1 := hc.1
  exact hret _ _ _ _ fE (drop67 nE) ⟨_, _, _, _, _, _, _, _, _, _, _, _, _, _, _, _, _, _, _, _, _, _, _, _, _, _, _, _, _, _, _, _, _, _, _, _, _, _, _, _, rfl, hAsk, rfl, hL1, hL2, hL3, hL4, hL5, ⟨hL6.2.2.1, hL6.2.2.2.1, hL6.2.2.2.2.2.1, hL6.2.2.2.2.1, hL6.2.2.2.2.2.2⟩, fun p hp => by (have h9 : @LT.lt Nat _ _ _ := hlr p hp); refine ⟨?_, ?_, ?_, ?_⟩ <;> omega⟩
set_option maxHeartbeats 4000000 in
theorem ring1_says (w : World) (sb strm : Array UInt8) (ks : List Int) (tp ts to : Tok) (rest : List (Addr × Obj)) (hstrm : KBw.bInts strm = ks) (hkl : ks.length ≤ 20000) (hoff : OwnOff rest [599]) :
    SaysC 603 599 PySem.Challenge.rw_bd0004_02.row.prog w (Mine.K w.params) 80 (.ref 604) [.int 1 tp, .bytes sb ts, .bytes strm to] ((599, tabObj #[]) :: rest) (fun r news' => RgPost PySem.Challenge.rw_bd0004_02.row.prog w (Mine.K w.params) sb ks false rest r news') := by
  unfold SaysC; k_fill
  intro p loose mean mg mb dp un gd cn cs a ccd cl outer A₀ base h₀ L m s Q E B F X N T CH hk hdp hun hret
  refine wpAny_call ?_
  k_dflt k_enter
  k_steps
  unfold Hold
  rename News _ _ _ _ => NE
  rename Frag.In _ _ => XE
  refine' have_asked sb ks XE NE (.tail _ (.tail _ (.head _))) (.tail _ (.tail _ (.tail _ (.head _)))) ?za1 ?za2 ?za3 ?za4
  (case za1 => k_mem); (case za2 => k_mem)
  (case za3 =>
    clear hret
    intro news k n ts tn hk hn
    unfold Says
    intro p loose mean mg9 mb dp un gd cn cs9 a9 ccd cl outer A₀ base h₀ L m s9 Q E B F X N T hkk hdp hun hret
    subst hk
    k_dflt (refine wpAny_call ?_; kn_enter)
    k_steps
    unfold Hold
    (with_reducible refine IfExp_ ?_)
    k_steps
    · unfold Hold
      refine call_bytes_int (by omega) (by omega) ?_
      intro bz tz cz hz9
      rw [Int.toNat_natCast] at hz9
      k_steps
      refine KBa.add_K hstrm hz9 (by rw [List.length_replicate]; omega) ?_
      intro t8 k8 hadd
      k_steps
      rename Fr h₀ L _ m => fE
      rename News h₀ L _ _ => nE
      rename KBw.bInts _ = List.take _ _ => kc
      exact hret _ _ _ _ fE nE ⟨_, _, rfl, cut_pre rfl kc, rfl⟩
    · exfalso
      first
        | exact absurd (beq_self_eq_true sb.toList) (by assumption)
        | (rename (_ == _) = false => hbf; rw [beq_self_eq_true] at hbf; exact Bool.noConfusion hbf))
  intro hAsk
  k_dflt (refine' use_says (ring_says _ _ _ _) ?zB ?zF ?zX NE ?zT ?zk ?zd ?zu ?_)
  (case zB => k_asm); (case zF => k_asm); (case zX => k_asm); (case zT => k_asm)
  (case zk => first | exact rfl | assumption)
  (case zd => ktr_room)
  (case zu => (simp only [units_in1, units_deeper, Around.mark_units]; (try dsimp only [ktrTop]); omega))
  k_dflt (rintro r9 n9 h9 tk9 F9 N9 ⟨x, dx, s1, d1, s2, d2, z, t1, t2, t3, t4, t5, t6, t7, u1, u2, u3, u4, u5, u6, u7, v1, v2, v3, v4, v5, v6, v7, v8, v9, hr9, hn9, hL1, hL2, hL3, hL4, hL5, hL6⟩; subst hr9; subst hn9; (try dsimp only))
  k_steps
  rename Fr h₀ L _ m => fE
  rename News h₀ L _ _ => nE
  rename 599 < _ ∧ AllLt _ rest => hl
  have hlr := ktn_ltOf hl.2
  rename _ < _ ∧ _ < _ ∧ 599 < _ ∧ AllLt _ rest => hc
  have hc1 := hc.1
  exact hret _ _ _ _ fE (drop67 nE) ⟨_, _, _, _, _, _, _, _, _, _, _, _, _, _, _, _, _, _, _, _, _, _, _, _, _, _, _, _, _, _, _, _, _, _, _, _, _, _, _, _, rfl, hAsk, rfl, hL1, hL2, hL3, hL4, hL5, ⟨hL6.2.2.1, hL6.2.2.2.1, hL6.2.2.2.2.2.1, hL6.2.2.2.2.1, hL6.2.2.2.2.2.2⟩, fun p hp => by (have h9 : @LT.lt Nat _ _ _ := hlr p hp); refine ⟨?_, ?_, ?_, ?_⟩ <;> omega⟩
end Mine
end
section
open PySem PySem.W PyProof.Rows PySem.Calls
namespace Mine
/-- a fact laid aside, so that no arithmetic reads it -/
structure Kept (P : Prop) : Prop where
  out : P
/-- as SaysC, where two codes' tables of own codes are laid aside -/
def SaysC2B (D : Addr) (its : Array Value) (c P c2 P2 : Addr) (prog : Program) (w : World) (K : Frag) (d : Nat) (f : Value) (vs : List Value) (news : List (Addr × Obj)) (Post : Value → List (Addr × Obj) → Prop) : Prop :=
  ∀ (p : Program) (loose : List Str) (mean : ExcName → Option Value) (mg mb : Str → Option Value) (dp un : Nat) (gd : Option (List Code)) (cn : Str) (cs : Scope) (a : Addr) (ccd : Value) (cl : List (Str × Addr)) (outer : List Env) (A₀ : Around) (base h₀ : Heap) (L : Addr) (m : Str → Option Value) (s : Shared) (Q E : Value → Shared → Prop),
    base.IsList D its → Below A₀ base outer h₀ → Fr h₀ L s.heap m → K.In h₀ → News h₀ L s.heap news → Top p loose mean mg mb h₀ → CodeHd base c P → CodeHd base c2 P2 → cs.kind = .function → dp + d < recursionLimit → un + 8 * d < cLine →
    (∀ r news' h' tk', Fr h₀ L h' m → News h₀ L h' news' → Post r news' → Q r { s with heap := h', toks := tk' }) →
    wpAny (model prog w) (ktrTop dp un gd cn cs L a ccd cl outer) (call f vs) Q E s
theorem use_saysC2B {c P c2 P2 : Addr} {prog : Program} {w : World} {K : Frag} {d : Nat} {f : Value} {vs : List Value} {news : List (Addr × Obj)} {Post : Value → List (Addr × Obj) → Prop} {p : Program} {loose : List Str} {mean : ExcName → Option Value} {mg mb : Str → Option Value} {dp un : Nat} {gd : Option (List Code)} {cn : Str} {cs : Scope} {a : Addr} {ccd : Value} {cl : List (Str × Addr)} {outer : List Env} {A₀ : Around} {base h₀ : Heap} {L : Addr} {m : Str → Option Value} {s : Shared} {Q E : Value → Shared → Prop}
    (S : SaysC2B D its c P c2 P2 prog w K d f vs news Post) (Z : base.IsList D its) (B : Below A₀ base outer h₀) (F : Fr h₀ L s.heap m) (X : K.In h₀) (N : News h₀ L s.heap news) (T : Top p loose mean mg mb h₀) (C : CodeHd base c P) (C2 : CodeHd base c2 P2) (hk : cs.kind = .function) (hd : dp + d < recursionLimit) (hu : un + 8 * d < cLine)
    (ret : ∀ r news' h' tk', Fr h₀ L h' m → News h₀ L h' news' → Post r news' → Q r { s with heap := h', toks := tk' }) :
    wpAny (model prog w) (ktrTop dp un gd cn cs L a ccd cl outer) (call f vs) Q E s := by unfold SaysC2B at S; apply S <;> assumption
theorem use_number {w : World} {D : Addr} {vs : List Value} {ns : List Int} {k mi : Int} {tk tm : Tok} {news : List (Addr × Obj)} {p : Program} {loose : List Str} {mean : ExcName → Option Value} {mg mb : Str → Option Value} {dp un : Nat} {gd : Option (List Code)} {cn : Str} {cs : Scope} {a : Addr} {ccd : Value} {cl : List (Str × Addr)} {outer : List Env} {A₀ : Around} {base h₀ : Heap} {L : Addr} {m : Str → Option Value} {s : Shared} {Q E : Value → Shared → Prop}
    (Z : base.IsList D vs.toArray) (B : Below A₀ base outer h₀) (F : Fr h₀ L s.heap m) (X : (Mine.K w.params).In h₀) (N : News h₀ L s.heap news) (T : Top p loose mean mg mb h₀) (hn : IntsAre vs ns) (hlen : ns.length ≤ 63) (hk0 : 0 ≤ k) (hk : cs.kind = .function) (hd : dp + 20 < recursionLimit) (hu : un + 8 * 20 < cLine)
    (ret : ∀ n t h' tk', Fr h₀ L h' m → News h₀ L h' news → Q (.int n t) { s with heap := h', toks := tk' }) :
    wpAny (model PySem.Challenge.rw_bd0004_02.row.prog w) (ktrTop dp un gd cn cs L a ccd cl outer) (call (.ref 597) [.ref D, .int k tk, .int mi tm]) Q E s :=
  use_saysB (number_says w D vs ns k mi tk tm news hn hlen hk0) Z B F X N T hk hd hu (by
    rintro r news' h' tk' F' N' ⟨n, t, rfl, rfl⟩
    exact ret n t h' tk' F' N')
theorem mul_left {prog : Program} {w : World} {A : Around} {E : Value → Shared → Prop} {s : Shared} {a b : Int} {t u : Tok} {Q : Value → Shared → Prop} (h0 : 0 ≤ a) (h1 : a < 1000000) (h : Q (.int (a * b) s.toks) { s with toks := s.toks + 1 }) : wpAny (model prog w) A (binaryOp .Mult (.int a t) (.int b u)) Q E s :=
  PyProof.Rows.mul_int h (IntMulOk.of_left (intBits_le_64 (by omega) (by omega)))
theorem fm_lt (a b : Int) (h : 0 < b) : 0 ≤ a.fmod b ∧ a.fmod b < b := ⟨by rw [Int.fmod_eq_emod_of_nonneg _ (by omega)]; exact Int.emod_nonneg _ (by omega), Int.fmod_lt_of_pos _ h⟩
theorem gen_ints {G : Prop} {vs : List Value} {ns : List Int} (P : List Int → Prop) (h : IntsAre vs ns) (hP : P ns) (k : ∀ ms, IntsAre vs ms → P ms → G) : G := k ns h hP
theorem Hold.go {P : Prop} (h : P) : Hold P := h
theorem rfd_in (a : Int) : 8380417 ≤ 8380417 + a.fmod 8191 ∧ 8380417 + a.fmod 8191 < 8388608 := by have := fm_lt a 8191 (by decide); omega
theorem map_bound {f : Int → Int} {l : List Int} {P : Int → Prop} (h : ∀ k, P (f k)) : ∀ x ∈ l.map f, P x := fun x hx => by
  obtain ⟨k, _, rfl⟩ := List.mem_map.mp hx
  exact h k
theorem two_in {a b : Int} (ha : 0 ≤ a ∧ a < 256) (hb : 0 ≤ b ∧ b < 256) : ∀ x ∈ [a, b], 0 ≤ x ∧ x < 256 := fun x hx => by
  simp only [List.mem_cons, List.not_mem_nil, or_false] at hx
  rcases hx with rfl | rfl
  · exact ha
  · exact hb
theorem fm_small (a b : Int) (h : 0 < b) (h2 : b ≤ 256) : 0 ≤ a.fmod b ∧ a.fmod b < 256 := by have := fm_lt a b h; omega
theorem apart_mem1 {d a : Addr} {led : List (Addr × Obj)} {o : Obj} (h : (a, o) ∈ led) (h1 : @Ne Nat a d) : (a, o) ∈ apart [d] led :=
  List.mem_filter.mpr ⟨h, decide_eq_true (by
    intro b hb
    rw [List.mem_singleton.mp hb]; exact h1)⟩
theorem apart1_news {h₀ h : Heap} {L d : Addr} {o : Obj} {led : List (Addr × Obj)} (N : News h₀ L h led) (m : (d, o) ∈ led) : News h₀ L h ((d, o) :: apart [d] led) := fun q hq => N q (by
  rcases List.mem_cons.mp hq with h | hq
  · rw [h]; exact m
  · exact apart_sub hq)
theorem ring_news {h₀ h : Heap} {L : Addr} {led : List (Addr × Obj)} {d2 s2 x dx tb : Addr} {o1 o2 o3 o4 o5 : Obj} (N : News h₀ L h led) (m1 : (d2, o1) ∈ led) (m2 : (s2, o2) ∈ led) (m3 : (x, o3) ∈ led) (m4 : (dx, o4) ∈ led) (m5 : (tb, o5) ∈ led) :
    News h₀ L h ((d2, o1) :: (s2, o2) :: (x, o3) :: (dx, o4) :: (tb, o5) :: apart [d2, tb] led) := fun q hq => N q (by
  rcases List.mem_cons.mp hq with h | hq
  · rw [h]; exact m1
  rcases List.mem_cons.mp hq with h | hq
  · rw [h]; exact m2
  rcases List.mem_cons.mp hq with h | hq
  · rw [h]; exact m3
  rcases List.mem_cons.mp hq with h | hq
  · rw [h]; exact m4
  rcases List.mem_cons.mp hq with h | hq
  · rw [h]; exact m5
  exact apart_sub hq)
theorem mat_end {h₀ h : Heap} {L d tb t t1 t2 : Addr} {a b c e : Addr × Obj} {o o1 o2 : Obj} {led : List (Addr × Obj)} (N : News h₀ L h (a :: b :: c :: e :: apart [d, tb] led)) (m : (t, o) ∈ led) (h1 : @Ne Nat t d) (h2 : @Ne Nat t tb)
    (m1 : (t1, o1) ∈ led) (h11 : @Ne Nat t1 d) (h12 : @Ne Nat t1 tb) (m2 : (t2, o2) ∈ led) (h21 : @Ne Nat t2 d) (h22 : @Ne Nat t2 tb) : News h₀ L h [a, b, c, (t, o), e, (t1, o1), (t2, o2)] := fun q hq => N q (by
  simp only [List.mem_cons, List.not_mem_nil, or_false] at hq
  rcases hq with h | h | h | h | h | h | h
  · rw [h]; exact .head _
  · rw [h]; exact .tail _ (.head _)
  · rw [h]; exact .tail _ (.tail _ (.head _))
  · rw [h]; exact .tail _ (.tail _ (.tail _ (.tail _ (apart_mem2 m h1 h2))))
  · rw [h]; exact .tail _ (.tail _ (.tail _ (.head _)))
  · rw [h]; exact .tail _ (.tail _ (.tail _ (.tail _ (apart_mem2 m1 h11 h12))))
  · rw [h]; exact .tail _ (.tail _ (.tail _ (.tail _ (apart_mem2 m2 h21 h22)))))
/-- what both halves of the law give -/
def TruePost (r : Value) (news' : List (Addr × Obj)) : Prop := r = .bool true ∧ ∃ p1 p2 p3, (311, tabObj p1) ∈ news' ∧ (306, tabObj p2) ∈ news' ∧ (599, tabObj p3) ∈ news'
/-- an address apart from two others -/
structure Off2 (a b t : Addr) : Prop where
  l : @Ne Nat t a
  r : @Ne Nat t b
theorem mod_free {prog : Program} {w : World} {A : Around} {E : Value → Shared → Prop} {s : Shared} {a b : Int} {t u : Tok} {Q : Value → Shared → Prop} (hb : 0 < b) (h : ∀ r, 0 ≤ r → r < b → Q (.int r s.toks) { s with toks := s.toks + 1 }) : wpAny (model prog w) A (binaryOp .Mod (.int a t) (.int b u)) Q E s :=
  mod_int' (by omega) (h _ (fm_lt a b hb).1 (fm_lt a b hb).2)
theorem mat_len {tkn rfd : List Int} (n : Nat) (h1 : tkn.length = 256) (h2 : rfd.length ≤ 320) : (tkn.take n ++ rfd ++ tkn.drop n).length ≤ 576 := by
  simp only [List.length_append, List.length_take, List.length_drop]; omega
theorem mat_in {tkn rfd : List Int} (n : Nat) (h1 : ∀ x ∈ tkn, 0 ≤ x ∧ x < 8380417) (h2 : ∀ x ∈ rfd, 8380417 ≤ x ∧ x < 8388608) : ∀ x ∈ tkn.take n ++ rfd ++ tkn.drop n, 0 ≤ x ∧ x < 8388608 := fun x hx => by
  rcases List.mem_append.mp hx with hx | hx
  · rcases List.mem_append.mp hx with hx | hx
    · have := h1 x (List.mem_of_mem_take hx); omega
    · have := h2 x hx; omega
  · have := h1 x (List.mem_of_mem_drop hx); omega
theorem mat_filter {tkn rfd : List Int} (n : Nat) (h1 : ∀ x ∈ tkn, 0 ≤ x ∧ x < 8380417) (h2 : ∀ x ∈ rfd, 8380417 ≤ x ∧ x < 8388608) : (tkn.take n ++ rfd ++ tkn.drop n).filter (fun n => decide (n < 8380417)) = tkn := by
  have e1 : ∀ l : List Int, (∀ x ∈ l, 0 ≤ x ∧ x < 8380417) → l.filter (fun n => decide (n < 8380417)) = l := fun l h => List.filter_eq_self.mpr fun x hx => decide_eq_true (h x hx).2
  have e2 : rfd.filter (fun n => decide (n < 8380417)) = [] := List.filter_eq_nil_iff.mpr fun x hx => by
    have := h2 x hx
    simp; omega
  rw [List.filter_append, List.filter_append, e1 _ (fun x hx => h1 x (List.mem_of_mem_take hx)), e1 _ (fun x hx => h1 x (List.mem_of_mem_drop hx)), e2, List.append_nil, List.take_append_drop]
end Mine
end
section
open PySem PySem.W PyProof.Rows PySem.Calls
namespace Mine
theorem tab_news {h₀ h : Heap} {L : Addr} {led : List (Addr × Obj)} {p1 p2 p3 : Array Value} (N : News h₀ L h led) (m1 : (311, tabObj p1) ∈ led) (m2 : (306, tabObj p2) ∈ led) (m3 : (599, tabObj p3) ∈ led) : News h₀ L h [(311, tabObj p1), (306, tabObj p2), (599, tabObj p3)] := fun q hq => N q (by
  simp only [List.mem_cons, List.not_mem_nil, or_false] at hq
  rcases hq with h | h | h
  · rw [h]; exact m1
  · rw [h]; exact m2
  · rw [h]; exact m3)
end Mine
end
section
open PySem PySem.W PyProof.Rows PySem.Calls
namespace Mine
/-- the octets that the first law builds bring just the numbers that are taken -/
structure MatRow (tkn grs : List Int) : Prop where
  inn : ∀ x ∈ grs, 0 ≤ x ∧ x < 256
  len : grs.length ≤ 2000
  feed : Feed3 grs 0 tkn
theorem mat_row {top : Int} {ns tkn grs : List Int} (e : groupsOf top 0 ns = grs) (hb : ∀ n ∈ ns, 0 ≤ n ∧ n < 8388608) (hl : ns.length ≤ 576) (hf : ns.filter (fun n => decide (n < 8380417)) = tkn) : MatRow tkn grs := by
  subst e
  refine ⟨groups_in top ns 0 hb, by rw [groups_len]; omega, ?_⟩
  rw [← hf]
  refine feed3_filter ns 0 0 (fun k hk => ?_) (fun k hk => absurd hk (Nat.not_lt_zero _)) (by omega)
  have := groups_val (S := groupsOf top 0 ns) top ns 0 [] hb rfl k hk
  rw [← this]
  congr 1
  simp
end Mine
end
section
open PySem PySem.W PyProof.Rows PySem.Calls
namespace Mine
theorem pow2_ne (n : Nat) : (2 : Int) ^ n ≠ 0 := Int.ne_of_gt (Int.pow_pos (by decide))
theorem py2 {x : Int} {n : Nat} (h : n ≤ 20) : Builtin.divisionGoesByPylong x ((2 : Int) ^ n) = false := by
  refine PyProof.noPylong_of_log2 ?_
  have e : ((2 : Int) ^ n).natAbs = 2 ^ n := by rw [Int.natAbs_pow]; rfl
  rw [e]
  have h1 : 2 ^ n ≤ 2 ^ 20 := Nat.pow_le_pow_right (by decide) h
  have h2 : (2 ^ n).log2 ≤ 20 := by
    have hp : 2 ^ n ≠ 0 := Nat.ne_of_gt (Nat.pow_pos (by decide))
    apply Nat.le_of_lt_succ
    rw [Nat.log2_lt hp]
    exact Nat.lt_of_le_of_lt h1 (by decide)
  omega
theorem getD_mem (l : List Int) (n : Nat) (h : n < l.length) : l.getD n 0 ∈ l := by
  rw [List.getD_eq_getElem?_getD, List.getElem?_eq_getElem h]
  exact List.getElem_mem _
theorem name_lt {G : Prop} {r b : Int} (_h : r < b) (k : ∀ x, x = r → G) : G := k r rfl
theorem ta_facts {ta at9 : Int} (h0 : 0 ≤ ta) (h8 : ta < 8) (a0 : 0 ≤ at9) (a1 : at9 < ta + 2 - 1) :
    (ta + 2 - 0).toNat ≤ 9 ∧ 256 - (ta + 2) + at9 = 256 - ((ta + 2 - 0).toNat : Int) + (at9.toNat : Int) ∧ 0 ≤ 256 - (ta + 2) + at9 ∧ ta + 2 = ((ta + 2 - 0).toNat : Int) := by
  refine ⟨?_, ?_, ?_, ?_⟩ <;> omega
/-- the places that the second law builds: apart, below 240 -/
structure PlOk (n : Nat) (pl : List Int) : Prop where
  len : pl.length = n
  inn : ∀ x ∈ pl, 0 ≤ x ∧ x < 240
  nd : pl.Nodup
theorem pl_ok (st : Int) (n : Nat) (h : n ≤ 9) : PlOk n (List.map (fun k' => (st + 5 * k').fmod 240) (rangeKs 0 n)) := by
  refine ⟨by rw [List.length_map, rangeKs_length], map_bound fun k => fm_lt _ _ (by decide), ?_⟩
  unfold rangeKs
  rw [List.map_map, List.nodup_iff_pairwise_ne, List.pairwise_map]
  refine List.Pairwise.imp_of_mem ?_ (List.nodup_iff_pairwise_ne.mp (List.nodup_range (n := n)))
  intro a b ha hb hab e
  simp only [List.mem_range] at ha hb
  simp only [Function.comp] at e
  rw [Int.fmod_eq_emod_of_nonneg _ (by decide), Int.fmod_eq_emod_of_nonneg _ (by decide)] at e
  omega
/-- the refused octets -/
structure RfOk (own : Int) (rf : List Int) : Prop where
  len : rf.length ≤ 694
  inn : ∀ x ∈ rf, own < x ∧ x ≤ 255
theorem rf_ok {own od : Int} {n : Nat} (h : n ≤ 694) (h2 : own < 255) : RfOk own (List.map (fun k' => 255 - (od + k').fmod (255 - own)) (rangeKs 0 n)) :=
  ⟨by rw [List.length_map, rangeKs_length]; exact h, map_bound fun k => by have := fm_lt (od + k) (255 - own) (by omega); omega⟩
end Mine
end
section
open PySem PySem.W PyProof.Rows PySem.Calls
namespace Mine
theorem cast_arg {c P : Addr} {prog : Program} {w : World} {K : Frag} {d : Nat} {f a b : Value} {t : Int} {n : Nat} {tt : Tok} {news : List (Addr × Obj)} {Post : Value → List (Addr × Obj) → Prop}
    (h : SaysC c P prog w K d f [a, b, .int (n : Int) tt] news Post) (e : t = (n : Int)) : SaysC c P prog w K d f [a, b, .int t tt] news Post := by subst e; exact h
theorem name_digs {G : Prop} {vs : List Value} {od : Int} {a b c : List Int} (_h : IntsAre vs (digs od ++ a ++ b ++ c)) (k : ∀ x, x = od → G) : G := k od rfl
theorem one_in {a : Int} (ha : 0 ≤ a ∧ a < 256) : ∀ x ∈ [a], 0 ≤ x ∧ x < 256 := fun x hx => by
  rw [List.mem_singleton.mp hx]
  exact ha
theorem due_news {h₀ h : Heap} {L : Addr} {a0 a1 a2 a3 a4 a5 a6 a7 a8 a9 a10 c3 c2 c1 t3 t6 t5 : Addr × Obj} {rest : List (Addr × Obj)} (N : News h₀ L h (a0 :: a1 :: a2 :: a3 :: a4 :: a5 :: a6 :: a7 :: a8 :: a9 :: a10 :: c3 :: c2 :: c1 :: t3 :: t6 :: t5 :: rest)) : News h₀ L h [a0, a1, a8, c3, c2, c1, t3, t6, t5] := fun q hq => N q (by
  simp only [List.mem_cons, List.not_mem_nil, or_false] at hq ⊢
  rcases hq with h | h | h | h | h | h | h | h | h <;> simp [h])
/-- the steps that the second law builds: the places, with the signs that a number's bits tell -/
def stOf : List Int → Int → List (Int × Int)
  | [], _ => []
  | p :: r, x => (p, 1 - 2 * (x % 2)) :: stOf r (x / 2)
theorem stOf_len : ∀ (pl : List Int) (x : Int), (stOf pl x).length = pl.length
  | [], _ => rfl
  | p :: r, x => by rw [stOf, List.length_cons, stOf_len r, List.length_cons]
theorem stOf_fst : ∀ (pl : List Int) (x : Int), (stOf pl x).map (·.1) = pl
  | [], _ => rfl
  | p :: r, x => by rw [stOf, List.map_cons, stOf_fst r]
theorem stOf_congr : ∀ (pl : List Int) (m : Nat) (x y c : Int), pl.length ≤ m → x = y + 2 ^ m * c → stOf pl x = stOf pl y
  | [], _, _, _, _, _, _ => rfl
  | p :: r, 0, _, _, _, h, _ => absurd h (by simp)
  | p :: r, m + 1, x, y, c, h, e => by
    have e2 : x = y + 2 * (2 ^ m * c) := by rw [e, Int.pow_succ, Int.mul_comm ((2 : Int) ^ m) 2, Int.mul_assoc]
    have e3 : x / 2 = y / 2 + 2 ^ m * c := by
      generalize (2 : Int) ^ m * c = q at e2 ⊢
      omega
    have e4 : x % 2 = y % 2 := by
      generalize (2 : Int) ^ m * c = q at e2
      omega
    rw [stOf, stOf, e4, stOf_congr r m (x / 2) (y / 2) c (by simp only [List.length_cons] at h; omega) e3]
theorem stOf_sg : ∀ (pl : List Int) (x : Int), SgOk x (stOf pl x)
  | [], _ => trivial
  | p :: r, x => ⟨rfl, stOf_sg r (x / 2)⟩
theorem stOf_get : ∀ (pl : List Int) (x : Int) (t : Nat), t < pl.length → (stOf pl x).getD t (0, 0) = (pl.getD t 0, 1 - 2 * (x.fdiv (2 ^ t)).fmod 2)
  | [], _, _, h => absurd h (by simp)
  | p :: r, x, 0, _ => by
    have h1 : x.fdiv (2 ^ 0) = x := by rw [Int.pow_zero, Int.fdiv_one]
    have h2 : x.fmod 2 = x % 2 := Int.fmod_eq_emod_of_nonneg _ (by decide)
    rw [h1, h2]; rfl
  | p :: r, x, t + 1, h => by
    have h1 := stOf_get r (x / 2) t (by simp only [List.length_cons] at h; omega)
    have h2 : (x / 2).fdiv (2 ^ t) = x.fdiv (2 ^ (t + 1)) := by
      have hp : (0 : Int) ≤ 2 ^ t := Int.le_of_lt (Int.pow_pos (by decide))
      have hp1 : (0 : Int) ≤ 2 ^ (t + 1) := Int.le_of_lt (Int.pow_pos (by decide))
      rw [Int.fdiv_eq_ediv_of_nonneg _ hp, Int.fdiv_eq_ediv_of_nonneg _ hp1, Int.ediv_ediv_of_nonneg (by decide), Int.pow_succ, Int.mul_comm]
    rw [stOf, List.getD_cons_succ, List.getD_cons_succ, h1, h2]
theorem digs_mod (x : Int) : digs (x % 18446744073709551616) = digs x := by
  rw [digs_eq, digs_eq]
  simp only [List.cons.injEq, and_true]
  refine ⟨?_, ?_, ?_, ?_, ?_, ?_, ?_, ?_⟩ <;> omega
theorem feed_at {S : List Int} : ∀ (st : List (Int × Int)) (own : Int) (a : Nat) (pr rf tl : List Int), (∀ p ∈ st, 0 ≤ p.1 ∧ p.1 < 240) → 240 ≤ own → (∀ x ∈ rf, own + (a : Int) < x) →
    S = pr ++ ((st.map (·.1)).take a ++ rf ++ (st.map (·.1)).drop a) → S.length ≤ 20000 → Feed S pr.length own st
  | [], _, _, _, _, _, _, _, _, _, _ => trivial
  | p :: r, own, 0, pr, rf, tl, hp, ho, hr, hS, hl => by
    have h1 := hp p (.head _)
    rw [List.map_cons, List.take_zero, List.drop_zero, List.nil_append] at hS
    have hlen : S.length = pr.length + rf.length + (r.length + 1) := by rw [hS]; simp [Nat.add_assoc]
    refine ⟨h1.1, pr.length + rf.length + 1, ⟨by omega, by omega, ?_, by omega, ?_⟩, ?_⟩
    · rw [hS, List.getD_eq_getElem?_getD, List.getElem?_append_right (by omega), List.getElem?_append_right (by omega), show pr.length + rf.length + 1 - 1 - pr.length - rf.length = 0 by omega]
      rfl
    · intro m hm1 hm2
      have hm : m - pr.length < rf.length := by omega
      rw [hS, List.getD_eq_getElem?_getD, List.getElem?_append_right hm1, List.getElem?_append_left hm, List.getElem?_eq_getElem hm]
      have := hr _ (List.getElem_mem hm)
      simp at this ⊢
      omega
    · have := feed_at (S := S) r (own + 1) 0 (pr ++ rf ++ [p.1]) [] tl (fun q hq => hp q (.tail _ hq)) (by omega) (fun x hx => nomatch hx) (by rw [hS]; simp) hl
      have e : (pr ++ rf ++ [p.1]).length = pr.length + rf.length + 1 := by simp [Nat.add_assoc]
      rw [e] at this
      exact this
  | p :: r, own, a + 1, pr, rf, tl, hp, ho, hr, hS, hl => by
    have h1 := hp p (.head _)
    rw [List.map_cons, List.take_succ_cons, List.drop_succ_cons] at hS
    have hS' : S = pr ++ ([p.1] ++ ((r.map (·.1)).take a ++ rf ++ (r.map (·.1)).drop a)) := by rw [hS]; simp
    have hlen : pr.length + 1 ≤ S.length := by rw [hS']; simp only [List.length_append, List.length_cons]; omega
    refine ⟨h1.1, pr.length + 1, ⟨by omega, by omega, ?_, by omega, ?_⟩, ?_⟩
    · rw [hS', List.getD_eq_getElem?_getD, List.getElem?_append_right (by omega), List.getElem?_append_left (by simp), show pr.length + 1 - 1 - pr.length = 0 by omega]
      rfl
    · intro m hm1 hm2; omega
    · have := feed_at (S := S) r (own + 1) a (pr ++ [p.1]) rf tl (fun q hq => hp q (.tail _ hq)) (by omega) (fun x hx => by have := hr x hx; omega) (by rw [hS']; simp) hl
      have e : (pr ++ [p.1]).length = pr.length + 1 := by simp
      rw [e] at this
      exact this
/-- what the second law's octets bring -/
structure BallRow (tau : Nat) (st : List (Int × Int)) (ks : List Int) : Prop where
  form : ∃ g os, ks = digs g ++ os ∧ 0 ≤ g ∧ g < 2 ^ 64 ∧ SgOk g st
  inn : ∀ x ∈ ks, 0 ≤ x ∧ x < 256
  len : ks.length ≤ 2000
  feed : Feed ks 8 (256 - (tau : Int)) st
theorem ball_row {tau a : Nat} {od own : Int} {pl rf : List Int} (hp : PlOk tau pl) (hr : RfOk own rf) (ht : tau ≤ 9) (ho : own = 256 - (tau : Int) + (a : Int)) (ho0 : 0 ≤ own) : BallRow tau (stOf pl od) (digs od ++ pl.take a ++ rf ++ pl.drop a) := by
  have hl : (digs od ++ pl.take a ++ rf ++ pl.drop a).length ≤ 2000 := by
    have := hr.len
    have := hp.len
    simp only [List.length_append, List.length_take, List.length_drop, digs_len]; omega
  refine ⟨⟨od % 18446744073709551616, pl.take a ++ rf ++ pl.drop a, by rw [digs_mod]; simp [List.append_assoc], by omega, by show od % 18446744073709551616 < 18446744073709551616; omega, ?_⟩, ?_, hl, ?_⟩
  · have h1 : stOf pl od = stOf pl (od % 18446744073709551616) := stOf_congr pl 64 _ _ (od / 18446744073709551616) (by have := hp.len; omega) (by show od = od % 18446744073709551616 + 18446744073709551616 * (od / 18446744073709551616); omega)
    rw [h1]
    exact stOf_sg _ _
  · intro x hx
    rcases List.mem_append.mp hx with hx | hx
    · rcases List.mem_append.mp hx with hx | hx
      · rcases List.mem_append.mp hx with hx | hx
        · exact digs_in od x hx
        · have := hp.inn x (List.mem_of_mem_take hx); omega
      · have := hr.inn x hx; omega
    · have := hp.inn x (List.mem_of_mem_drop hx); omega
  · have := feed_at (S := digs od ++ pl.take a ++ rf ++ pl.drop a) (stOf pl od) (256 - (tau : Int)) a (digs od) rf [] (fun p hq => hp.inn _ (by rw [← stOf_fst pl od]; exact List.mem_map.mpr ⟨p, hq, rfl⟩)) (by omega)
      (fun x hx => by have := hr.inn x hx; omega) (by rw [stOf_fst]; simp [List.append_assoc]) (by omega)
    rw [digs_len] at this
    exact this
theorem fwd_free : ∀ (l : List (Int × Int)) (f : Int → Int) (own : Int), (∀ p ∈ l, p.1 < own) → (l.map (·.1)).Nodup → (∀ p ∈ l, f p.1 = 0) → (∀ o, own ≤ o → f o = 0) → ∀ x, x ∉ l.map (·.1) → fwdAll f own l x = f x
  | [], _, _, _, _, _, _, _, _ => rfl
  | p :: r, f, own, h1, h2, h3, h4, x, hx => by
    rw [List.map_cons] at h2 hx
    obtain ⟨h5, h6⟩ := List.nodup_cons.mp h2
    have hp1 := h1 p (.head _)
    have hxp : x ≠ p.1 := fun e => hx (by rw [e]; exact .head _)
    show fwdAll (fwd f own p) (own + 1) r x = f x
    rw [fwd_free r (fwd f own p) (own + 1) (fun q hq => by have := h1 q (.tail _ hq); omega) h6 (fun q hq => ?_) (fun o ho => ?_) x (fun h => hx (.tail _ h))]
    · unfold fwd
      rw [if_neg hxp]
      split
      · rename_i e
        rw [h3 p (.head _), e, h4 own (Int.le_refl _)]
      · rfl
    · unfold fwd
      have hq1 : q.1 ≠ p.1 := fun e => h5 (by rw [← e]; exact List.mem_map.mpr ⟨q, hq, rfl⟩)
      have hq2 : q.1 ≠ own := by have := h1 q (.tail _ hq); omega
      rw [if_neg hq1, if_neg hq2, h3 q (.tail _ hq)]
    · unfold fwd
      rw [if_neg (by omega), if_neg (by omega), h4 o (by omega)]
/-- the due list after t of the places -/
structure DueAt (own0 : Int) (st : List (Int × Int)) (t : Nat) (du : List Int) : Prop where
  len : du.length = 256
  val : ∀ x : Nat, x < 256 → du.getD x 0 = fwdAll (fun _ => 0) own0 (st.take t) x
theorem due_start {α : Type} {l : List α} (own0 : Int) (st : List (Int × Int)) (h : l.length = 256) : DueAt own0 st 0 (l.map fun _ => (0 : Int)) := ⟨by rw [List.length_map]; exact h, fun x _ => by rw [zeros_getD]; rfl⟩
theorem due_next {tau t : Nat} {od v : Int} {pl du : List Int} (h : DueAt (256 - (tau : Int)) (stOf pl od) t du) (hp : PlOk tau pl) (ht : t < tau) (h9 : tau ≤ 9) (hv : v = 1 - 2 * (od.fdiv (2 ^ t)).fmod 2) :
    DueAt (256 - (tau : Int)) (stOf pl od) (t + 1) (du.set (pl.getD t 0).toNat v) := by
  have hl := hp.len
  have hsl := stOf_len pl od
  have ht' : t < (stOf pl od).length := by omega
  have hg := stOf_get pl od t (by omega)
  have e : (stOf pl od).take (t + 1) = (stOf pl od).take t ++ [(pl.getD t 0, v)] := by
    rw [List.take_add_one, List.getElem?_eq_getElem ht']
    rw [List.getD_eq_getElem?_getD, List.getElem?_eq_getElem ht'] at hg
    rw [hv, ← hg]; rfl
  have hmem : pl.getD t 0 ∈ pl := by
    rw [List.getD_eq_getElem?_getD, List.getElem?_eq_getElem (by omega)]
    exact List.getElem_mem _
  have hpt := hp.inn _ hmem
  have hnd := hp.nd
  have hfst : ((stOf pl od).take t).map (·.1) = pl.take t := by rw [List.map_take, stOf_fst]
  have hnot : pl.getD t 0 ∉ pl.take t := by
    have h1 : pl.take (t + 1) = pl.take t ++ [pl.getD t 0] := by
      rw [List.take_add_one, List.getD_eq_getElem?_getD, List.getElem?_eq_getElem (by omega)]; rfl
    have h2 := List.Nodup.sublist (List.take_sublist (t + 1) pl) hnd
    rw [h1, List.nodup_append] at h2
    exact fun hm => h2.2.2 _ hm _ (.head _) rfl
  have free : ∀ x, x ∉ pl.take t → fwdAll (fun _ => 0) (256 - (tau : Int)) ((stOf pl od).take t) x = 0 := fun x hx =>
    fwd_free _ _ _ (fun p hq => by
      have h1 : p.1 ∈ pl.take t := by rw [← hfst]; exact List.mem_map.mpr ⟨p, hq, rfl⟩
      have := hp.inn _ (List.mem_of_mem_take h1)
      omega) (by rw [hfst]; exact List.Nodup.sublist (List.take_sublist t pl) hnd) (fun _ _ => rfl) (fun _ _ => rfl) x (by rw [hfst]; exact hx)
  refine ⟨by rw [List.length_set]; exact h.len, fun x hx => ?_⟩
  rw [e, fwdAll_snoc]
  have hlt : ((stOf pl od).take t).length = t := by rw [List.length_take]; omega
  rw [hlt]
  unfold fwd
  have hlen := h.len
  rw [List.getD_eq_getElem?_getD, List.getElem?_set, hlen]
  by_cases e1 : (pl.getD t 0).toNat = x
  · have a1 : (x : Int) = pl.getD t 0 := by omega
    have a2 : (pl.getD t 0).toNat < 256 := by omega
    rw [if_pos e1, if_pos a2, if_pos a1]; rfl
  · have a1 : ¬ (x : Int) = pl.getD t 0 := by omega
    rw [if_neg e1, if_neg a1, ← List.getD_eq_getElem?_getD, h.val x hx]
    split
    · rename_i e2
      rw [free _ hnot, e2, free]
      intro hm
      have := hp.inn _ (List.mem_of_mem_take hm)
      omega
    · rfl
theorem due_eq {own0 : Int} {st : List (Int × Int)} {du co : List Int} {tau : Nat} (h : DueAt own0 st tau du) (hst : st.length = tau) (hl : co.length = 256) (hv : ∀ k : Nat, k < 256 → co.getD k 0 = fwdAll (fun _ => 0) own0 st k) : co = du := by
  have h1 := h.len
  apply List.ext_getElem
  · rw [hl, h1]
  · intro i h2 h3
    have a := hv i (by omega)
    have b := h.val i (by omega)
    rw [List.take_of_length_le (by omega)] at b
    rw [List.getD_eq_getElem?_getD, List.getElem?_eq_getElem h2] at a
    rw [List.getD_eq_getElem?_getD, List.getElem?_eq_getElem h3] at b
    simp only [Option.getD_some] at a b
    rw [a, b]
end Mine
end
section
open Mine
local macro_rules | `(tactic| walk_at "clear ne") => `(tactic| (repeat (first | (rename (_ ∧ _) ∧ _ => hz9; clear hz9) | (rename _ ≠ _ ∧ _ => hz9; clear hz9))))
local macro_rules | `(tactic| walk_at "call type:range") => `(tactic| ((rename Fr _ _ _ _ => F'); (rename News _ _ _ _ => N'); first
  | (with_unfolding_all refine range1_rows F' N' ?_; intro _ _ _ _ _ _ _ _ _)
  | (with_unfolding_all refine range2_rows F' N' ?_; intro _ _ _ _ _ _ _ _ _)))
local macro_rules | `(tactic| walk_at "call ref") => `(tactic| refine Hold.out ?_)
local macro_rules | `(tactic| walk_at "exec Assign cons ListComp") => `(tactic| ((rename _ ≠ _ ∧ _ => hz9); refine Hold.out ?_))
local macro_rules | `(tactic| walk_at "subscriptTail Name Slice ref ref") => `(tactic| (k_here; (with_reducible show wpAny _ _ (subscriptTail _ (PySem.Expr.Slice _ _ none _) (Value.ref _) (Value.ref _)) _ _ _); k_dflt (refine' kmk_slice_ints ?zvF ?zvN ?zvl ?zvp ?zvq ?zvi ?zvm ?zvc ?_ ?zvs ?zvt ?zvz; (case zvF => k_asm); (case zvN => k_asm); (case zvl => kmk_list); (case zvp => kmk_part); (case zvq => kmk_part); (case zvi => l_ints); (case zvm => first | ((with_reducible refine' kmk_upto ?zvi2 ?zvs2); (case zvi2 => l_ints); (case zvs2 => kmk_sign)) | ((with_reducible refine' kmk_from ?zvi2 ?zvs2); (case zvi2 => l_ints); (case zvs2 => kmk_sign))); (case zvc => kmk_len); (case zvs => with_unfolding_all rfl); (case zvt => kmk_pure); (case zvz => kmk_size)); intro D' ws' h' F' N' l1 hI' hC' hL'; (try simp only [Int.reduceNeg, Int.neg_neg, Int.reduceToNat] at hI' hC' hL'); (try k_lt l1); (try k_sweep)))
local macro_rules | `(tactic| walk_at "binaryOp Mult int int") => `(tactic| (k_here; (with_reducible refine mul_left ?zm1 ?zm2 ?_); (case zm1 => (walk_at "clear ne"; omega)); (case zm2 => (walk_at "clear ne"; omega))))
local macro_rules | `(tactic| walk_at "call ref") => `(tactic| (k_here; k_dflt ((show wpAny _ _ (call (Value.ref 597) _) _ _ _); refine' use_number ?zqm ?zqB ?zqF ?zqX ?zqN ?zqT ?zqi ?zql ?zq0 ?zqk ?zqd ?zqu ?_; (case zqB => k_asm); (case zqF => k_asm); (case zqX => k_asm); (case zqN => k_asm); (case zqT => k_asm); (case zqm => exact Kept.out (by assumption)); (case zqi => assumption); (case zql => omega); (case zq0 => decide); (case zqk => first | exact rfl | assumption); (case zqd => ktr_room); (case zqu => (simp only [units_in1, units_deeper, Around.mark_units]; (try dsimp only [ktrTop]); omega))); intro n9 t9 h9 tk9 F9 N9))
local macro_rules | `(tactic| walk_at "call type:bytes") => `(tactic| refine Hold.out ?_)
local macro_rules | `(tactic| walk_at "binaryOp Add bytes bytes") => `(tactic| refine Hold.out ?_)
section
open PySem PySem.W PyProof.Rows PySem.Calls
set_option maxRecDepth 100000
set_option rowWalk.seconds 0
namespace Mine
local macro_rules | `(tactic| walk_at "exec Assign") => `(tactic| ((rename _ ≠ _ ∧ _ => hz9); refine Hold.out ?_))
set_option maxHeartbeats 8000000 in
theorem matrix_says (w : World) (D : Addr) (vs : List Value) (ns : List Int) (first : Int) (tf : Tok) (rest : List (Addr × Obj)) (hn : IntsAre vs ns) (hlen : ns.length ≤ 63) (h601 : (599, tabObj #[]) ∈ rest) (h311 : (311, tabObj #[]) ∈ rest) (h306 : (306, tabObj #[]) ∈ rest) :
    SaysC2B D vs.toArray 603 599 313 311 PySem.Challenge.rw_bd0004_02.row.prog w (Mine.K w.params) 200 (.ref 616) [.int first tf, .ref D] rest (fun r news' => TruePost r news') := by
  unfold SaysC2B; k_fill
  intro p loose mean mg mb dp un gd cn cs a ccd cl outer A₀ base h₀ L m s Q E Z B F X N0 T CH CH2 hk hdp hun hret
  have Zk := Kept.mk Z
  clear Z
  have N := news_dup (news_dup (news_dup N0 h306) (.tail _ h601)) (.tail _ (.tail _ h311))
  clear N0
  refine wpAny_call ?_
  k_dflt k_enter
  k_steps
  refine Hold.go ?_
  (repeat (rename _ < _ ∧ _ => hq9; clear hq9))
  rename _ ≠ _ ∧ _ => hz9
  have hzt : Off2 311 599 _ := ⟨fun e => hz9.2.2.2.2.2.1 e.symm, fun e => hz9.2.2.2.2.2.2.1 e.symm⟩
  clear hz9
  rename IntsAre _ (List.map _ (rangeKs _ _)) => hI9
  rename List.length _ = List.length (List.map _ (rangeKs _ _)) => hl9
  refine gen_ints (fun l => l.length = 256 ∧ ∀ x ∈ l, 0 ≤ x ∧ x < 8380417) hI9 ⟨by rw [List.length_map, rangeKs_length]; rfl, map_bound fun k => fm_lt _ _ (by decide)⟩ ?_
  clear hI9 hl9
  intro tkn htk htkP
  have htkl := htkP.1
  have htkb := htkP.2
  (with_reducible show wpAny _ _ _ _ _ _)
  k_steps
  refine Hold.go ?_
  (repeat (rename _ < _ ∧ _ => hq9; clear hq9))
  rename _ ≠ _ ∧ _ => hz9
  clear hz9
  rename IntsAre _ (List.map _ (rangeKs _ _)) => hI9
  rename List.length _ = List.length (List.map _ (rangeKs _ _)) => hl9
  refine gen_ints (fun l => l.length ≤ 320 ∧ ∀ x ∈ l, 8380417 ≤ x ∧ x < 8388608) hI9 ⟨by rw [List.length_map, rangeKs_length]; omega, map_bound fun k => rfd_in _⟩ ?_
  clear hI9 hl9
  intro rfd hrf hrfP
  have hrfl := hrfP.1
  have hrfb := hrfP.2
  (with_reducible show wpAny _ _ _ _ _ _)
  k_steps
  refine Hold.go ?_
  (repeat (rename _ < _ ∧ _ => hq9; clear hq9))
  rename News _ _ _ _ => NE
  rename IntsAre _ (_ ++ _ ++ _) => hI9
  k_dflt (refine' use_says (groups_says w _ _ _ _ _ _ _ hI9 ?zl ?zm ?zb) ?zB ?zF ?zX NE ?zT ?zk ?zd ?zu ?_)
  (case zB => k_asm); (case zF => k_asm); (case zX => k_asm); (case zT => k_asm)
  (case zk => first | exact rfl | assumption)
  (case zd => ktr_room)
  (case zu => (simp only [units_in1, units_deeper, Around.mark_units]; (try dsimp only [ktrTop]); omega))
  (case zl => exact mat_len _ htkl hrfl)
  (case zm => exact .head _)
  (case zb => exact mat_in _ htkb hrfb)
  k_dflt (rintro r9 m9 h9 tk9 F9 N9 ⟨dg, vg, ng, hr9, hn9, hig, hlg⟩; subst hr9; subst hn9; (try dsimp only))
  generalize hgr : groupsOf (first.fdiv 2) 0 _ = grs at hig
  have hMR := mat_row hgr (mat_in _ htkb hrfb) (mat_len _ htkl hrfl) (mat_filter _ htkb hrfb)
  clear hgr hI9
  k_steps
  refine Hold.go ?_
  (repeat (rename _ < _ ∧ _ => hq9; clear hq9))
  rename News _ _ _ _ => NE
  refine KBa.make_K (by assumption) NE rfl ⟨_, (NE _ (.head _)).1, rfl, _, rfl⟩ hig hMR.inn (Nat.le_trans hMR.len (by decide)) ?_
  intro h9 t9 k9 F9 N9 _
  have hstrm : KBw.bInts (byteArr grs) = grs := KBa.ints_make hMR.inn
  generalize byteArr grs = strm at hstrm N9 ⊢
  k_steps
  refine Hold.go ?_
  (repeat (rename _ < _ ∧ _ => hq9; clear hq9))
  rename News _ _ _ _ => NE
  refine KBa.make_K (by assumption) NE rfl ⟨_, (NE _ (.head _)).1, rfl, _, rfl⟩ (.cons _ _ (.cons _ _ .nil)) (two_in (fm_lt _ _ (by decide)) (fm_lt _ _ (by decide))) (by simp only [List.length_cons, List.length_nil]; omega) ?_
  intro h9 t9 k9 F9 N9 _
  k_steps
  refine Hold.go ?_
  (repeat (rename _ < _ ∧ _ => hq9; clear hq9))
  rename News _ _ _ _ => NE
  refine KBa.make_K (by assumption) NE rfl ⟨_, (NE _ (.head _)).1, rfl, _, rfl⟩ (.cons _ _ (.cons _ _ .nil)) (two_in (fm_small _ _ (by decide) (by decide)) (fm_small _ _ (by decide) (by decide))) (by simp only [List.length_cons, List.length_nil]; omega) ?_
  intro h9 t9 k9 F9 N9 _
  k_steps
  refine Hold.go ?_
  (repeat (rename _ < _ ∧ _ => hq9; clear hq9))
  refine KBa.add_K (KBa.ints_make (two_in (fm_lt _ _ (by decide)) (fm_lt _ _ (by decide)))) (KBa.ints_make (two_in (fm_small _ _ (by decide) (by decide)) (fm_small _ _ (by decide) (by decide)))) (by simp only [List.length_cons, List.length_nil]; omega) ?_
  intro t8 k8 _
  k_steps
  refine Hold.go ?_
  rename News _ _ _ _ => NE
  k_dflt (refine' use_saysC (ring0_says w _ strm grs _ _ _ (apart [599] _) hstrm ?zl (apart_off _ _)) ?zB ?zF ?zX (apart1_news NE ?zm) ?zT ?zC ?zk ?zd ?zu ?_)
  (case zB => k_asm); (case zF => k_asm); (case zX => k_asm); (case zT => k_asm); (case zC => assumption)
  (case zk => first | exact rfl | assumption)
  (case zd => ktr_room)
  (case zu => (simp only [units_in1, units_deeper, Around.mark_units]; (try dsimp only [ktrTop]); omega))
  (case zl => exact Nat.le_trans hMR.len (by decide))
  (case zm => k_mem)
  k_dflt (rintro r9 m9 h9 tk9 F9 N9 ⟨af, ac, aca, acb, afu, aof, aoc, aoa, aob, aps, x, dx, s1, d1, s2, d2, z, t1, t2, t3, t4, t5, t6, t7, u1, u2, u3, u4, u5, u6, u7, v1, v2, v3, v4, v5, v6, v7, v8, v9, hr9, hAsk, hn9, hL1, hL2, hL3, hL4, hL5, hL6, hL7⟩; subst hr9; subst hn9; (try dsimp only [cond]))
  dsimp only [cond] at N9
  have h7 := hL7 (311, tabObj #[]) (apart_mem1 (by k_mem) (by decide))
  have hL8 := ktn_ltOf hL6
  have h311 : @LT.lt Nat _ 311 dx := hL8 (311, tabObj #[]) (.tail _ (.tail _ (.tail _ (.tail _ (.tail _ (apart_mem1 (by k_mem) (by decide)))))))
  have hdd : @LT.lt Nat _ dx d1 := Nat.lt_trans hL5 hL4
  have htd : @LT.lt Nat _ _ dx := hL8 (_, _) (.tail _ (.tail _ (.tail _ (.tail _ (.tail _ (apart_mem1 (by k_mem) hzt.r))))))
  k_steps
  refine Hold.go ?_
  rename News _ _ _ _ => NE
  k_dflt (refine' use_saysC (ntt_says w x dx s1 d1 s2 z af v1 v2 v3 v4 v5 v6 v7 v8 v9 u1 u2 u3 u4 u5 u6 u7 _ _ _ _ (apart [d1, 311] _) _ grs tkn _ _ ?zi0 ?zi1 ?zj0 ?zj1 ?zrb hAsk ?zg (apart_off _ _) hL3 hL4 hL5 h311 htkl hMR.feed) ?zB ?zF ?zX (ring_news NE ?zm1 ?zm2 ?zm3 ?zm4 ?zm5) ?zT ?zC ?zk ?zd ?zu ?_)
  (case zB => k_asm); (case zF => k_asm); (case zX => k_asm); (case zT => k_asm); (case zC => assumption)
  (case zk => first | exact rfl | assumption)
  (case zd => ktr_room)
  (case zu => (simp only [units_in1, units_deeper, Around.mark_units]; (try dsimp only [ktrTop]); omega))
  (case zm1 => k_mem); (case zm2 => k_mem); (case zm3 => k_mem); (case zm4 => k_mem); (case zm5 => exact .tail _ (.tail _ (.tail _ (.tail _ (.tail _ (.tail _ (.tail _ (.tail _ (.tail _ (.tail _ (.tail _ (apart_mem1 (by k_mem) (by decide)))))))))))))
  (case zi0 => exact (fm_lt _ _ (by decide)).1); (case zi1 => exact (fm_small _ _ (by decide) (by decide)).2); (case zj0 => exact (fm_lt _ _ (by decide)).1); (case zj1 => exact (fm_small _ _ (by decide) (by decide)).2)
  (case zrb => rw [KBa.ints_make (two_in (fm_lt _ _ (by decide)) (fm_lt _ _ (by decide)))]; simp only [List.length_cons, List.length_nil]; omega)
  (case zg =>
    intro p hp
    simp only [List.mem_cons, List.not_mem_nil, or_false] at hp
    rcases hp with hp | hp | hp | hp
    · rw [hp]; exact apart_mem2 (by k_mem) (Nat.ne_of_lt (Nat.lt_trans hL6.1 hdd)) (Nat.ne_of_gt h7.1)
    · rw [hp]; exact apart_mem2 (by k_mem) (Nat.ne_of_lt (Nat.lt_trans hL6.2.1 hdd)) (Nat.ne_of_gt h7.2.1)
    · rw [hp]; exact apart_mem2 (by k_mem) (Nat.ne_of_lt (Nat.lt_trans hL6.2.2.1 hdd)) (Nat.ne_of_gt h7.2.2.1)
    · rw [hp]; exact apart_mem2 (by k_mem) (Nat.ne_of_lt (Nat.lt_trans hL6.2.2.2.1 hdd)) (Nat.ne_of_gt h7.2.2.2))
  k_dflt (rintro r9 n9 h9 tk9 F9 N9 ⟨p9, d9, lo9, t91, t92, vo9, no9, ps9, hr9, hn9, hco⟩; subst hr9; subst hn9; (try dsimp only))
  have h59 : @LT.lt Nat _ 599 dx := hL6.2.2.2.2.1
  have hot : @LT.lt Nat _ 306 dx := hL8 (306, tabObj #[]) (.tail _ (.tail _ (.tail _ (.tail _ (.tail _ (apart_mem1 (by k_mem) (by decide)))))))
  have N10 := mat_end N9 (.tail _ (.tail _ (.tail _ (.tail _ (.tail _ (.tail _ (.tail _ (.tail _ (.tail _ (.tail _ (.tail _ (apart_mem1 (by k_mem) hzt.r)))))))))))) (Nat.ne_of_lt (Nat.lt_trans htd hdd)) hzt.l (.tail _ (.tail _ (.tail _ (.tail _ (.tail _ (.tail _ (.tail _ (.tail _ (.tail _ (.tail _ (.head _))))))))))) (Nat.ne_of_lt (Nat.lt_trans h59 hdd)) (by decide) (t2 := 306) (o2 := tabObj #[]) (.tail _ (.tail _ (.tail _ (.tail _ (.tail _ (.tail _ (.tail _ (.tail _ (.tail _ (.tail _ (.tail _ (apart_mem1 (by k_mem) (by decide))))))))))))) (Nat.ne_of_lt (Nat.lt_trans hot hdd)) (by decide)
  clear N9 NE hL6 hL7 hL8
  k_steps
  rename Fr h₀ L _ m => fE
  rename News h₀ L _ _ => nE
  exact hret _ _ _ _ fE nE ⟨rfl, _, _, _, by k_mem, by k_mem, by k_mem⟩
end Mine
end
section
open PySem PySem.W PyProof.Rows PySem.Calls
set_option maxRecDepth 100000
set_option rowWalk.seconds 0
namespace Mine
local macro_rules | `(tactic| walk_at "exec Assign") => `(tactic| ((fail_if_success (rename KstMark => hq9)); (rename _ ≠ _ ∧ _ => hz9); refine Hold.out ?_))
local macro_rules | `(tactic| walk_at "binaryOp Mod int int") => `(tactic| (k_here; (first | (with_reducible show wpAny _ _ (binaryOp _ (Value.int _ _) (Value.int 8 _)) _ _ _) | (with_reducible show wpAny _ _ (binaryOp _ (Value.int _ _) (Value.int 40 _)) _ _ _) | (with_reducible show wpAny _ _ (binaryOp _ (Value.int _ _) (Value.int (_ - 1) _)) _ _ _) | (with_reducible show wpAny _ _ (binaryOp _ (Value.int (Int.fdiv _ 2) _) (Value.int 2 _)) _ _ _)); (refine mod_free ?zmA ?_); (case zmA => omega); intro r9 hr90 hr91))
local macro_rules | `(tactic| walk_at "InvEndN") => `(tactic| refine Hold.out ?_)
local macro_rules | `(tactic| walk_at "pyIter ref") => `(tactic| refine Hold.out ?_)
local macro_rules | `(tactic| walk_at "binaryOp FloorDiv int int") => `(tactic| (k_here; refine floordiv_int (pow256_ne _) ?_ (Or.inl (py256 (by walk_at "clear ne"; omega)))))
local macro_rules | `(tactic| walk_at "binaryOp FloorDiv int int") => `(tactic| (k_here; refine floordiv_int (pow2_ne _) ?_ (Or.inl (py2 (by walk_at "clear ne"; omega)))))
local macro_rules | `(tactic| walk_at "binaryOp Pow int int") => `(tactic| (k_here; (with_reducible refine pow_int_small ?zp1 ?zp2 ?zp3 ?_); (case zp1 => (walk_at "clear ne"; l_bnd)); (case zp2 => (walk_at "clear ne"; l_bnd)); (case zp3 => decide)))
set_option maxHeartbeats 8000000 in
theorem ballr_says (w : World) (D : Addr) (vs : List Value) (ns : List Int) (first : Int) (tf : Tok) (rest : List (Addr × Obj)) (hn : IntsAre vs ns) (hlen : ns.length ≤ 63) (h601 : (599, tabObj #[]) ∈ rest) (h306 : (306, tabObj #[]) ∈ rest) (h311 : (311, tabObj #[]) ∈ rest) :
    SaysC2B D vs.toArray 603 599 308 306 PySem.Challenge.rw_bd0004_02.row.prog w (Mine.K w.params) 200 (.ref 621) [.int first tf, .ref D] rest (fun r news' => TruePost r news') := by
  unfold SaysC2B; k_fill
  intro p loose mean mg mb dp un gd cn cs a ccd cl outer A₀ base h₀ L m s Q E Z B F X N0 T CH CH2 hk hdp hun hret
  have Zk := Kept.mk Z
  clear Z
  have N := news_dup (news_dup (news_dup N0 h311) (.tail _ h601)) (.tail _ (.tail _ h306))
  clear N0
  refine wpAny_call ?_
  k_dflt k_enter
  k_steps
  refine Hold.go ?_
  (repeat (rename _ < _ ∧ _ => hq9; clear hq9))
  rename _ < (8 : Int) => h8
  refine name_lt h8 ?_
  intro ta hta
  subst hta
  rename _ < ta + 2 - 1 => hat
  refine name_lt hat ?_
  intro at9 hat9
  subst hat9
  rename 0 ≤ ta => ht0
  rename 0 ≤ at9 => ha0
  have hTA := ta_facts ht0 h8 ha0 hat
  rename _ < (40 : Int) => h40
  rename _ < (2 : Int) => h2
  rename _ ≠ _ ∧ _ => hz9
  have hzp := Kept.mk hz9
  clear hz9
  rename IntsAre _ (List.map _ (rangeKs _ _)) => hI9
  rename List.length _ = List.length (List.map _ (rangeKs _ _)) => hl9
  refine gen_ints (PlOk (ta + 2 - 0).toNat) hI9 (pl_ok _ _ hTA.1) ?_
  clear hI9 hl9
  intro pl hpl hPl
  have hpll := hPl.len
  (with_reducible show wpAny _ _ _ _ _ _)
  k_steps
  refine Hold.go ?_
  (repeat (rename _ < _ ∧ _ => hq9; clear hq9))
  rename _ ≠ _ ∧ _ => hz9
  clear hz9
  rename IntsAre _ (List.map _ (rangeKs _ _)) => hI9
  rename List.length _ = List.length (List.map _ (rangeKs _ _)) => hl9
  refine gen_ints (RfOk (256 - (ta + 2) + at9)) hI9 (rf_ok (by omega) (by omega)) ?_
  clear hI9 hl9
  intro rfd hrf hRf
  have hrfl := hRf.len
  (with_reducible show wpAny _ _ _ _ _ _)
  k_steps
  refine Hold.go ?_
  (repeat (rename _ < _ ∧ _ => hq9; clear hq9))
  rename _ ≠ _ ∧ _ => hz9
  clear hz9
  rename IntsAre _ (List.map _ (rangeKs _ _)) => hI9
  rename List.length _ = List.length (List.map _ (rangeKs _ _)) => hl9
  clear hI9 hl9
  rename IntsAre _ (_ ++ _ ++ _ ++ _) => hI9
  refine name_digs hI9 ?_
  intro od hod
  subst hod
  refine gen_ints (fun l => BallRow (ta + 2 - 0).toNat (stOf pl od) l) hI9 (ball_row hPl hRf hTA.1 hTA.2.1 hTA.2.2.1) ?_
  clear hI9
  intro ks hks hBR
  have hksl := hBR.len
  (with_reducible show wpAny _ _ _ _ _ _)
  k_steps
  refine Hold.go ?_
  (repeat (rename _ < _ ∧ _ => hq9; clear hq9))
  rename IntsAre _ (List.map _ (rangeKs _ _)) => hI9
  rename _ ≠ _ ∧ _ => hz9
  have hzd : Off2 306 599 _ := ⟨fun e => hz9.2.2.2.2.2.2.2.2.2.2.2.2.2.1 e.symm, fun e => hz9.2.2.2.2.2.2.2.2.2.2.2.2.2.2.1 e.symm⟩
  have q0 : @Ne Nat _ _ := hz9.1
  have q1 : @Ne Nat _ _ := hz9.2.2.2.2.2.2.2.1
  have q2 : @Ne Nat _ _ := hz9.2.2.2.2.2.2.2.2.2.2.1
  have q3 : @Ne Nat _ _ := hz9.2.2.2.2.2.2.2.2.2.2.2.1
  have q4 : @Ne Nat _ _ := hz9.2.2.2.2.2.2.2.2.2.2.2.2.1
  have q5 : @Ne Nat _ _ := hz9.2.2.2.2.2.2.2.2.2.2.2.2.2.1
  have q6 : @Ne Nat _ _ := hz9.2.2.2.2.2.2.2.2.2.2.2.2.2.2.1
  have q7 : @Ne Nat _ _ := hz9.2.2.2.2.2.2.2.2.2.2.2.2.2.2.2.1
  clear hz9
  rename News _ _ _ _ => NE
  refine grow_loop (n := (ta + 2 - 0).toNat) [] (fun t os => DueAt (256 - ((ta + 2 - 0).toNat : Int)) (stOf pl od) t os) rfl (by assumption) (small_one (by omega) (by omega) (by omega) (by omega)) (rangeSize_nat _ _) (by assumption) (due_news NE) hI9 (due_start _ _ (by rw [rangeKs_length]; rfl)) ?_ ?_
  · intro vo os no pre k t u h tk own hk hlt hoff hi hP F N
    have kM2 := kstMark
    have kM1 := kdMark
    simp only [List.cons_append, List.map_cons] at N hoff
    have hk0 : k = (pre.length : Int) := by omega
    subst hk0
    have hol := hP.len
    have hil := hi.length
    have hpt := hPl.inn (pl.getD (pre.length : Int).toNat 0) (getD_mem _ _ (by omega))
    have hpt0 := hpt.1
    have hpt1 := hpt.2
    k_steps
    refine Hold.go ?_
    (repeat (rename _ < _ ∧ _ => hq9; clear hq9))
    (rename News _ _ _ _ => NF)
    (rename Fr _ _ _ _ => FE)
    (rename IntsAre (List.set _ _ _) _ => hiE)
    rw [Int.toNat_natCast] at hiE NF
    refine grow_end FE NF (.head _) (by kst_inAny) (by (intro p hp; kst_mem)) (by intro z h1 h3; simp [h1]) hiE (due_next hP hPl hlt hTA.1 rfl)
  · intro vo os no u h tk hi hP F N
    have hst : (stOf pl od).length = (ta + 2 - 0).toNat := by rw [stOf_len]; exact hpll
    k_steps
    refine Hold.go ?_
    (repeat (rename _ < _ ∧ _ => hq9; clear hq9))
    rename News _ _ _ _ => NF
    refine KBa.make_K (by assumption) NF rfl ⟨_, (NF _ (.head _)).1, rfl, _, rfl⟩ (.cons _ _ .nil) (one_in (fm_lt _ _ (by decide))) (by simp only [List.length_cons, List.length_nil]; omega) ?_
    intro h9 t9 k9 F9 N9 _
    k_steps
    refine Hold.go ?_
    (repeat (rename _ < _ ∧ _ => hq9; clear hq9))
    rename News _ _ _ _ => NF
    refine KBa.make_K (by assumption) NF rfl ⟨_, (NF _ (.tail _ (.tail _ (.head _)))).1, rfl, _, rfl⟩ hks hBR.inn (Nat.le_trans hBR.len (by decide)) ?_
    intro h9 t9 k9 F9 N9 _
    have hstrm : KBw.bInts (byteArr ks) = ks := KBa.ints_make hBR.inn
    generalize byteArr ks = strm at hstrm N9 ⊢
    k_steps
    refine Hold.go ?_
    rename News _ _ _ _ => NF
    k_dflt (refine' use_saysC (ring1_says w _ strm ks _ _ _ (apart [599] _) hstrm ?zl (apart_off _ _)) ?zB ?zF ?zX (apart1_news NF ?zm) ?zT ?zC ?zk ?zd ?zu ?_)
    (case zB => k_asm); (case zF => k_asm); (case zX => k_asm); (case zT => k_asm); (case zC => assumption)
    (case zk => first | exact rfl | assumption)
    (case zd => ktr_room)
    (case zu => (simp only [units_in1, units_deeper, Around.mark_units]; (try dsimp only [ktrTop]); omega))
    (case zl => exact Nat.le_trans hBR.len (by decide))
    (case zm => k_mem)
    k_dflt (rintro r9 m9 h9 tk9 F9 N9 ⟨af, ac, aca, acb, afu, aof, aoc, aoa, aob, aps, x, dx, s1, d1, s2, d2, z, t1, t2, t3, t4, t5, t6, t7, u1, u2, u3, u4, u5, u6, u7, v1, v2, v3, v4, v5, v6, v7, v8, v9, hr9, hAsk, hn9, hL1, hL2, hL3, hL4, hL5, hL6, hL7⟩; subst hr9; subst hn9; (try dsimp only [cond]))
    dsimp only [cond] at N9
    have h7 := hL7 (306, tabObj #[]) (apart_mem1 (by k_mem) (by decide))
    have hL8 := ktn_ltOf hL6
    have h306' : @LT.lt Nat _ 306 dx := hL8 (306, tabObj #[]) (.tail _ (.tail _ (.tail _ (.tail _ (.tail _ (apart_mem1 (by k_mem) (by decide)))))))
    have hxd : @LT.lt Nat _ x d2 := Nat.lt_trans hL4 (Nat.lt_trans hL3 hL2)
    have hdd : @LT.lt Nat _ dx d2 := Nat.lt_trans hL5 hxd
    have htd : @LT.lt Nat _ _ dx := hL8 (_, _) (.tail _ (.tail _ (.tail _ (.tail _ (.tail _ (apart_mem1 (by k_mem) hzd.r))))))
    k_steps
    refine Hold.go ?_
    rename News _ _ _ _ => NF
    obtain ⟨g, os8, hkf, hg0, hg1, hsg⟩ := hBR.form
    k_dflt (refine' use_saysC (cast_arg (ball_says w x dx s1 d2 s2 z af v1 v2 v3 v4 v5 v6 v7 v8 v9 t1 t2 t3 t4 t5 t6 t7 _ _ _ (apart [d2, 306] _) _ ks os8 g (ta + 2 - 0).toNat (stOf pl od) hAsk ?zg (apart_off _ _) hL1 hxd hL5 h306' ?zt hst hkf hg0 hg1 hsg hBR.feed) ?ze) ?zB ?zF ?zX (ring_news NF ?zm1 ?zm2 ?zm3 ?zm4 ?zm5) ?zT ?zC ?zk ?zd ?zu ?_)
    (case zB => k_asm); (case zF => k_asm); (case zX => k_asm); (case zT => k_asm); (case zC => assumption)
    (case zk => first | exact rfl | assumption)
    (case zd => ktr_room)
    (case zu => (simp only [units_in1, units_deeper, Around.mark_units]; (try dsimp only [ktrTop]); omega))
    (case zt => exact Nat.le_trans hTA.1 (by decide)); (case ze => exact hTA.2.2.2)
    (case zm1 => k_mem); (case zm2 => k_mem); (case zm3 => k_mem); (case zm4 => k_mem); (case zm5 => exact .tail _ (.tail _ (.tail _ (.tail _ (.tail _ (.tail _ (.tail _ (.tail _ (.tail _ (.tail _ (.tail _ (apart_mem1 (by k_mem) (by decide)))))))))))))
    (case zg =>
      intro p hp
      simp only [List.mem_cons, List.not_mem_nil, or_false] at hp
      rcases hp with hp | hp | hp | hp
      · rw [hp]; exact apart_mem2 (by k_mem) (Nat.ne_of_lt (Nat.lt_trans hL6.1 hdd)) (Nat.ne_of_gt h7.1)
      · rw [hp]; exact apart_mem2 (by k_mem) (Nat.ne_of_lt (Nat.lt_trans hL6.2.1 hdd)) (Nat.ne_of_gt h7.2.1)
      · rw [hp]; exact apart_mem2 (by k_mem) (Nat.ne_of_lt (Nat.lt_trans hL6.2.2.1 hdd)) (Nat.ne_of_gt h7.2.2.1)
      · rw [hp]; exact apart_mem2 (by k_mem) (Nat.ne_of_lt (Nat.lt_trans hL6.2.2.2.1 hdd)) (Nat.ne_of_gt h7.2.2.2))
    k_dflt (rintro r9 n9 h9 tk9 F9 N9 ⟨p9, d9, lo9, t91, t92, vo9, co9, no9, ps9, hr9, hn9, hco, hcl, hval⟩; subst hr9; subst hn9; (try dsimp only))
    have h59 : @LT.lt Nat _ 599 dx := hL6.2.2.2.2.1
    have hot : @LT.lt Nat _ 311 dx := hL8 (311, tabObj #[]) (.tail _ (.tail _ (.tail _ (.tail _ (.tail _ (apart_mem1 (by k_mem) (by decide)))))))
    have N10 := mat_end N9 (.tail _ (.tail _ (.tail _ (.tail _ (.tail _ (.tail _ (.tail _ (.tail _ (.tail _ (.tail _ (.tail _ (apart_mem1 (by k_mem) hzd.r)))))))))))) (Nat.ne_of_lt (Nat.lt_trans htd hdd)) hzd.l (.tail _ (.tail _ (.tail _ (.tail _ (.tail _ (.tail _ (.tail _ (.tail _ (.tail _ (.tail _ (.head _))))))))))) (Nat.ne_of_lt (Nat.lt_trans h59 hdd)) (by decide) (t2 := 311) (o2 := tabObj #[]) (.tail _ (.tail _ (.tail _ (.tail _ (.tail _ (.tail _ (.tail _ (.tail _ (.tail _ (.tail _ (.tail _ (apart_mem1 (by k_mem) (by decide))))))))))))) (Nat.ne_of_lt (Nat.lt_trans hot hdd)) (by decide)
    have hce := due_eq hP hst hcl hval
    subst hce
    clear N9 NF hL6 hL7 hL8
    k_steps
    rename Fr h₀ L _ m => fE
    rename News h₀ L _ _ => nE
    exact hret _ _ _ _ fE nE ⟨rfl, _, _, _, by k_mem, by k_mem, by k_mem⟩
end Mine
end
end
end
section
open PySem PySem.W PyProof.Rows PySem.Calls
set_option maxRecDepth 100000
set_option rowWalk.seconds 0
namespace Mine
local macro_rules | `(tactic| walk_at "eval IfExp") => `(tactic| refine Hold.out ?_)
local macro_rules | `(tactic| walk_at "call ref") => `(tactic| refine Hold.out ?_)
theorem law2.tw17430903823274588463 : True := trivial
theorem law2.tw14263644908778130648 : True := trivial
theorem law2.tw4571199042742759032 : True := trivial
theorem law2.tw7549830004417391252 : True := trivial
theorem law2.tw11078143170787443261 : True := trivial
theorem law2.tw5164291490625200813 : True := trivial
theorem law2.tw9650335150651223649 : True := trivial
theorem law2.tw6452090792445582915 : True := trivial
theorem law2.tw17984658326051364888 : True := trivial
theorem law2.tw8187982041708899436 : True := trivial
theorem law2.tw10252283321899734237 : True := trivial
theorem law2.tw4953797197475406174 : True := trivial
theorem law2.tw4194269223200438394 : True := trivial
theorem law2.tw10714412762156609431 : True := trivial
theorem law2.tw2227780201440329974 : True := trivial
theorem law2.tw14832406695981015680 : True := trivial
theorem law2.tw6876711218238607155 : True := trivial
theorem law2.tw16674006362113740084 : True := trivial
theorem law2.tw4322715729430896557 : True := trivial
theorem law2.tw4963261722351599518 : True := trivial
theorem law2.tw9911536997369177329 : True := trivial
theorem law2.tw8899982613307367419 : True := trivial
theorem law2.tw2379008863437213668 : True := trivial
theorem law2.tw12388204394460826436 : True := trivial
theorem law2.tw152188054868952714 : True := trivial
theorem law2.tw15635369661828756774 : True := trivial
theorem law2.tw12288048869380145494 : True := trivial
theorem law2.tw14628783314366945872 : True := trivial
theorem law2.tw17832219708255846524 : True := trivial
theorem law2.tw3413671491812341756 : True := trivial
theorem law2.tw10105453991298766125 : True := trivial
theorem law2.tw8979634381671306328 : True := trivial
theorem law2.tw16946132225601558884 : True := trivial
theorem law2.tw16585153491694372779 : True := trivial
theorem law2.tw6137138170078171191 : True := trivial
theorem law2.tw12350523713884105618 : True := trivial
theorem law2.tw6742077897979036384 : True := trivial
theorem law2.tw3211782477219512210 : True := trivial
theorem law2.tw14145497472233207836 : True := trivial
theorem law2.tw567185997284843110 : True := trivial
theorem law2.tw6512456963504074534 : True := trivial
theorem law2.tw14394029379070837905 : True := trivial
theorem law2.tw16617027228925013834 : True := trivial
theorem law2.tw11350218091154833061 : True := trivial
theorem law2.tw4541446489853521563 : True := trivial
theorem law2.tw4887453194849236852 : True := trivial
theorem law2.tw15118594649210877259 : True := trivial
theorem law2.tw18026295130498484052 : True := trivial
theorem law2.tw17333546195373043615 : True := trivial
theorem law2.tw12774213470008654750 : True := trivial
theorem law2.tw12168164487155875355 : True := trivial
theorem law2.tw2211997004982577453 : True := trivial
theorem law2.tw13802856562398729796 : True := trivial
theorem law2.tw16490003435924085506 : True := trivial
theorem law2.tw7385617069606114414 : True := trivial
theorem law2.tw566576220370844529 : True := trivial
theorem law2.tw13667387963378212830 : True := trivial
theorem law2.tw8433860482205102218 : True := trivial
theorem law2.tw17444317739432614528 : True := trivial
theorem law2.tw12483290430090174623 : True := trivial
theorem law2.tw8077091406981386696 : True := trivial
theorem law2.tw8534681932436317132 : True := trivial
theorem law2.tw3650353295500500805 : True := trivial
theorem law2.tw2929533007265569068 : True := trivial
theorem law2.tw8834812177175901867 : True := trivial
theorem law2.tw1213818229819217612 : True := trivial
theorem law2.tw1008039701109068947 : True := trivial
theorem law2.tw7800822555361969448 : True := trivial
theorem law2.tw13668831578282943042 : True := trivial
theorem law2.tw709304958283066986 : True := trivial
theorem law2.tw15779200108869921455 : True := trivial
theorem law2.tw2203449300728034587 : True := trivial
theorem law2.tw16842993948151351762 : True := trivial
theorem law2.tw1282607584801922606 : True := trivial
theorem law2.tw57398416534739281 : True := trivial
theorem law2.tw5923942443837557886 : True := trivial
theorem law2.tw8921045668276018532 : True := trivial
theorem law2.tw14855774137428492667 : True := trivial
theorem law2.tw9888012424429638090 : True := trivial
theorem law2.tw14736448197989861222 : True := trivial
theorem law2.tw14597457106678807131 : True := trivial
theorem law2.tw12277033558523064868 : True := trivial
theorem law2.tw9199125942053382914 : True := trivial
theorem law2.tw17429170118929994479 : True := trivial
theorem law2.tw770558405414537493 : True := trivial
theorem law2.tw12566727944905584708 : True := trivial
theorem law2.tw5896089901179534257 : True := trivial
theorem law2.tw12913173009037349234 : True := trivial
theorem law2.tw5626845880682327094 : True := trivial
theorem law2.tw8893586931104210598 : True := trivial
theorem law2.tw18094335733483486070 : True := trivial
theorem law2.tw10646184799258751688 : True := trivial
theorem law2.tw4493301873171258547 : True := trivial
theorem law2.tw13660837871911673309 : True := trivial
theorem law2.tw4806553887923846507 : True := trivial
theorem law2.tw15471594454788253885 : True := trivial
theorem law2.tw18186325713176137855 : True := trivial
theorem law2.tw555806781162079342 : True := trivial
theorem law2.tw1837374647969617505 : True := trivial
theorem law2.tw11308211820920166018 : True := trivial
theorem law2.tw1048620116002599721 : True := trivial
theorem law2.tw13902800401727993886 : True := trivial
theorem law2.tw3916331844820364878 : True := trivial
theorem law2.tw11484261810646127063 : True := trivial
theorem law2.tw3353771275807695079 : True := trivial
theorem law2.tw3521226698007501239 : True := trivial
theorem law2.tw4265296781261543108 : True := trivial
theorem law2.tw4277606685076893208 : True := trivial
theorem law2.tw4513926563128906307 : True := trivial
theorem law2.tw2620920797395182738 : True := trivial
theorem law2.tw16154519120638562162 : True := trivial
theorem law2.tw7472926752504371362 : True := trivial
theorem law2.tw3152965247793333989 : True := trivial
theorem law2.tw12676161469761128567 : True := trivial
theorem law2.tw15569716260724435850 : True := trivial
theorem law2.tw11413821674579270208 : True := trivial
theorem law2.tw4482468995041826211 : True := trivial
theorem law2.tw3271948151626964867 : True := trivial
theorem law2.tw1602717996466297627 : True := trivial
theorem law2.tw16124484563584793362 : True := trivial
theorem law2.tw16738230840479151272 : True := trivial
theorem law2.tw17782836989929799548 : True := trivial
theorem law2.tw15996481043640675418 : True := trivial
theorem law2.tw6505145671564942650 : True := trivial
theorem law2.tw11811696788461723054 : True := trivial
theorem law2.tw17144489118905483633 : True := trivial
theorem law2.tw9910730764511758463 : True := trivial
theorem law2.tw12072689828163086449 : True := trivial
theorem law2.tw5304776391323367401 : True := trivial
theorem law2.tw4854796040247698013 : True := trivial
theorem law2.tw8783528172738404570 : True := trivial
theorem law2.tw342553125886647328 : True := trivial
theorem law2.tw3082618671999891302 : True := trivial
theorem law2.tw10885948221384002286 : True := trivial
theorem law2.tw14778116609261356508 : True := trivial
theorem law2.tw17213264229055032587 : True := trivial
theorem law2.tw13696830977432809310 : True := trivial
theorem law2.tw15140695051291434388 : True := trivial
theorem law2.tw11101171498838591830 : True := trivial
theorem law2.tw1347867844886224110 : True := trivial
theorem law2.tw13050299850301234684 : True := trivial
theorem law2.tw13167568411642124253 : True := trivial
theorem law2.tw4280208275593954705 : True := trivial
theorem law2.tw13403656755529178269 : True := trivial
theorem law2.tw9608251812419647234 : True := trivial
theorem law2.tw16210970637118193422 : True := trivial
theorem law2.tw5238353234366858626 : True := trivial
theorem law2.tw8061650211071988014 : True := trivial
theorem law2.tw5612856856303506769 : True := trivial
theorem law2.tw11697174508519947133 : True := trivial
theorem law2.tw3850951316246465927 : True := trivial
theorem law2.tw3055133863696780619 : True := trivial
theorem law2.tw8262013982441658895 : True := trivial
theorem law2.tw15401272504149619609 : True := trivial
theorem law2.tw18072052890752403168 : True := trivial
theorem law2.tw8109677733020898718 : True := trivial
theorem law2.tw10526765285562277871 : True := trivial
theorem law2.tw9640970984077570805 : True := trivial
theorem law2.tw13884881567315741176 : True := trivial
theorem law2.tw18013848920349652373 : True := trivial
theorem law2.tw3942348240095961429 : True := trivial
theorem law2.tw13115534168822309122 : True := trivial
theorem law2.tw8541354063113892678 : True := trivial
theorem law2.tw5803192601034443747 : True := trivial
theorem law2.tw12452638766965793804 : True := trivial
theorem law2.tw13810277845038227226 : True := trivial
theorem law2.tw7392281017096208471 : True := trivial
theorem law2.tw15313167060736542131 : True := trivial
theorem law2.tw3345277462784407027 : True := trivial
theorem law2.tw8595045456944956564 : True := trivial
theorem law2.tw8155442257228941838 : True := trivial
theorem law2.tw14680577180921598473 : True := trivial
theorem law2.tw18350345519146914582 : True := trivial
theorem law2.tw12047426153435696485 : True := trivial
theorem law2.tw5498481897385641683 : True := trivial
theorem law2.tw6540270704901541861 : True := trivial
theorem law2.tw5348219365147189296 : True := trivial
theorem law2.tw11633969926367054261 : True := trivial
theorem law2.tw7009525122538533567 : True := trivial
theorem law2.tw4578317566565795098 : True := trivial
theorem law2.tw9016247339428401058 : True := trivial
theorem law2.tw6468044461453912152 : True := trivial
theorem law2.tw14944812579172465562 : True := trivial
theorem law2.tw8429196542500097094 : True := trivial
theorem law2.tw5039752939921839688 : True := trivial
theorem law2.tw5813123070709855345 : True := trivial
theorem law2.tw5133838692427505333 : True := trivial
theorem law2.tw10103719790554902358 : True := trivial
theorem law2.tw7744337319322259712 : True := trivial
theorem law2.tw13545053623155840048 : True := trivial
theorem law2.tw5475896336249944559 : True := trivial
theorem law2.tw13765800505946163472 : True := trivial
theorem law2.tw5512998434179250259 : True := trivial
theorem law2.tw6626630442093418497 : True := trivial
theorem law2.tw15304582881088409150 : True := trivial
theorem law2.tw6585349385627811690 : True := trivial
theorem law2.tw5933842160801926775 : True := trivial
theorem law2.tw16506806452751506550 : True := trivial
theorem law2.tw6783147746490938027 : True := trivial
theorem law2.tw11047333506077045927 : True := trivial
theorem law2.tw16684495972745239363 : True := trivial
theorem law2.tw3218826985406270175 : True := trivial
theorem law2.tw13646712835207967613 : True := trivial
theorem law2.tw8787920897983834108 : True := trivial
theorem law2.tw7598301079733852452 : True := trivial
theorem law2.tw13966108202489109407 : True := trivial
theorem law2.tw8582579074987231256 : True := trivial
theorem law2.tw7528459207043151878 : True := trivial
theorem law2.tw4657898049351043428 : True := trivial
theorem law2.tw7089839441817872077 : True := trivial
theorem law2.tw16418003830055475780 : True := trivial
theorem law2.tw10157419714887491491 : True := trivial
theorem law2.tw2290643118578395505 : True := trivial
theorem law2.tw7830150721599792706 : True := trivial
theorem law2.tw1054081189630606109 : True := trivial
theorem law2.tw17956046745308248770 : True := trivial
theorem law2.tw8937480684808382349 : True := trivial
theorem law2.tw11370314111951061557 : True := trivial
theorem law2.tw12328023717452617337 : True := trivial
theorem law2.tw7125577651643078464 : True := trivial
theorem law2.tw2921838139916666691 : True := trivial
theorem law2.tw6521883231634447770 : True := trivial
theorem law2.tw6397319876211506241 : True := trivial
theorem law2.tw6478218981658875773 : True := trivial
theorem law2.tw8200397981126203904 : True := trivial
theorem law2.tw4672607871124188682 : True := trivial
theorem law2.tw6782891147975929753 : True := trivial
theorem law2.tw14868597308448580485 : True := trivial
theorem law2.tw8557555174273376045 : True := trivial
theorem law2.tw7375767907083390852 : True := trivial
theorem law2.tw18381727957474830241 : True := trivial
theorem law2.tw13487216857742945463 : True := trivial
theorem law2.tw18393320385423915812 : True := trivial
theorem law2.tw13104735131655495150 : True := trivial
theorem law2.tw5977885785611729222 : True := trivial
theorem law2.tw2282567864207680068 : True := trivial
theorem law2.tw8811924883358220452 : True := trivial
theorem law2.tw16945258410192766963 : True := trivial
theorem law2.tw14890776073777948208 : True := trivial
theorem law2.tw5669725489396236988 : True := trivial
theorem law2.tw1600707009734992803 : True := trivial
theorem law2.tw15681906668772025280 : True := trivial
theorem law2.tw9885530393225811479 : True := trivial
theorem law2.tw10343886611182681159 : True := trivial
theorem law2.tw12467957822024232961 : True := trivial
theorem law2.tw4884652741174434183 : True := trivial
theorem law2.tw7485133643008080111 : True := trivial
theorem law2.tw15154151693672389720 : True := trivial
theorem law2.tw11973645277079011852 : True := trivial
theorem law2.tw10316329415868064272 : True := trivial
theorem law2.tw2062436971927819106 : True := trivial
theorem law2.tw379187311777953743 : True := trivial
theorem law2.tw3083829098438439695 : True := trivial
theorem law2.tw5564409882573698603 : True := trivial
theorem law2.tw444799656229519836 : True := trivial
theorem law2.tw16873345748572830232 : True := trivial
theorem law2.tw1712694742462058604 : True := trivial
theorem law2.tw982458968594716381 : True := trivial
theorem law2.tw12905237090304695760 : True := trivial
theorem law2.tw3501949733923837273 : True := trivial
theorem law2.tw7181037193310842430 : True := trivial
theorem law2.tw15806901802300416516 : True := trivial
theorem law2.tw10945031025796042780 : True := trivial
theorem law2.tw14187398206738861212 : True := trivial
theorem law2.tw1038648963751977219 : True := trivial
theorem law2.tw18382259114895424792 : True := trivial
theorem law2.tw5866176660313986931 : True := trivial
theorem law2.tw16830907944082136148 : True := trivial
theorem law2.tw17590874978780029132 : True := trivial
theorem law2.tw4450442650976447260 : True := trivial
theorem law2.tw9068410246000738840 : True := trivial
theorem law2.tw1802130283120980561 : True := trivial
theorem law2.tw15491589418123093127 : True := trivial
theorem law2.tw322640149176063820 : True := trivial
theorem law2.tw15738778041932537296 : True := trivial
theorem law2.tw9560393299104611618 : True := trivial
theorem law2.tw13634644786189201876 : True := trivial
theorem law2.tw16651841502814312770 : True := trivial
theorem law2.tw14050401890339602341 : True := trivial
theorem law2.tw5197267901218252585 : True := trivial
theorem law2.tw15500631759768944975 : True := trivial
theorem law2.tw11160214102535749181 : True := trivial
theorem law2.tw4196477337451348844 : True := trivial
theorem law2.tw4418433251241374869 : True := trivial
theorem law2.tw2195251550816542587 : True := trivial
theorem law2.tw16438342792207169562 : True := trivial
theorem law2.tw8819155568782481099 : True := trivial
theorem law2.tw4477929635467489487 : True := trivial
theorem law2.tw2101006474297074055 : True := trivial
theorem law2.tw4848999110291640814 : True := trivial
theorem law2.tw1196457892400021510 : True := trivial
theorem law2.tw11404318963459444531 : True := trivial
theorem law2.tw4095569421616918090 : True := trivial
theorem law2.tw9474328390751152210 : True := trivial
theorem law2.tw14562212997001706170 : True := trivial
theorem law2.tw758624264155143941 : True := trivial
theorem law2.tw10044075063188719170 : True := trivial
theorem law2.tw6190934098284861612 : True := trivial
theorem law2.tw18201918619477569541 : True := trivial
theorem law2.tw3787496746881619427 : True := trivial
theorem law2.tw6807796305886725964 : True := trivial
theorem law2.tw5567292244835639257 : True := trivial
theorem law2.tw16648706268583016989 : True := trivial
theorem law2.tw9146332779264479316 : True := trivial
theorem law2.tw4944044009333762099 : True := trivial
theorem law2.tw9223230773150304205 : True := trivial
theorem law2.tw10383394290701708996 : True := trivial
theorem law2.tw9855802776226769960 : True := trivial
theorem law2.tw8044764153469214507 : True := trivial
theorem law2.tw6595327373204841845 : True := trivial
theorem law2.tw9926797401744891667 : True := trivial
theorem law2.tw2366948722634325255 : True := trivial
theorem law2.tw4924971407841905940 : True := trivial
theorem law2.tw15621708516027173735 : True := trivial
theorem law2.tw2423059850738009076 : True := trivial
theorem law2.tw8013220618361158180 : True := trivial
theorem law2.tw17721860154870297354 : True := trivial
theorem law2.tw14838696776430078604 : True := trivial
theorem law2.tw17965751861489235627 : True := trivial
theorem law2.tw11398365380215795465 : True := trivial
theorem law2.tw16316572540238250363 : True := trivial
theorem law2.tw12641274924196099533 : True := trivial
theorem law2.tw13931650237350220428 : True := trivial
theorem law2.tw13307079133902405422 : True := trivial
theorem law2.tw16483893623093109649 : True := trivial
theorem law2.tw7176950116716954666 : True := trivial
theorem law2.tw6683462575210508007 : True := trivial
theorem law2.tw3457123650534546816 : True := trivial
theorem law2.tw6439558934254223333 : True := trivial
theorem law2.tw2627009587210735099 : True := trivial
theorem law2.tw10947796811731949184 : True := trivial
theorem law2.tw14759968104752336406 : True := trivial
theorem law2.tw654284400874576746 : True := trivial
theorem law2.tw8703060326754162260 : True := trivial
theorem law2.tw9299991975280918585 : True := trivial
theorem law2.tw16026047571582462029 : True := trivial
theorem law2.tw12806043929332387057 : True := trivial
theorem law2.tw1076877086044277689 : True := trivial
theorem law2.tw13153972285792659165 : True := trivial
theorem law2.tw9356530000443454486 : True := trivial
theorem law2.tw3860505654495892523 : True := trivial
theorem law2.tw2043378090315708911 : True := trivial
theorem law2.tw15979525627834401516 : True := trivial
theorem law2.tw18242982101928781575 : True := trivial
theorem law2.tw11520121325940100432 : True := trivial
theorem law2.tw15981334667985737293 : True := trivial
theorem law2.tw12951238743430257252 : True := trivial
theorem law2.tw237008033120869937 : True := trivial
theorem law2.tw16335444959522354117 : True := trivial
theorem law2.tw13784467063556464444 : True := trivial
theorem law2.tw4428674000055091977 : True := trivial
theorem law2.tw7146074074991944023 : True := trivial
theorem law2.tw14892764596390056672 : True := trivial
theorem law2.tw17515730440879542058 : True := trivial
theorem law2.tw6925113799223561718 : True := trivial
theorem law2.tw15893605251246665369 : True := trivial
theorem law2.tw11195555689690427147 : True := trivial
theorem law2.tw17901019121371571206 : True := trivial
theorem law2.tw1492773433303875942 : True := trivial
theorem law2.tw13878065045340186363 : True := trivial
theorem law2.tw3684227783150514332 : True := trivial
theorem law2.tw17615585551469148294 : True := trivial
theorem law2.tw7668547979126705544 : True := trivial
theorem law2.tw3514153750430676470 : True := trivial
theorem law2.tw8925236611996979767 : True := trivial
theorem law2.tw14591178443754633564 : True := trivial
theorem law2.tw9088987924689208894 : True := trivial
theorem law2.tw10559488182075873457 : True := trivial
theorem law2.tw10179840985468583774 : True := trivial
theorem law2.tw5374911021408383161 : True := trivial
theorem law2.tw13739422688996433312 : True := trivial
theorem law2.tw16121608201867939515 : True := trivial
theorem law2.tw5648731030729830276 : True := trivial
theorem law2.tw10936818184257861187 : True := trivial
theorem law2.tw7807563833730501964 : True := trivial
theorem law2.tw13869903859238830577 : True := trivial
theorem law2.tw8351336813882236432 : True := trivial
theorem law2.tw17962550841461286156 : True := trivial
theorem law2.tw4722700121276849532 : True := trivial
theorem law2.tw1240268497535519473 : True := trivial
theorem law2.tw12398901595294441756 : True := trivial
theorem law2.tw3489563094444613524 : True := trivial
theorem law2.tw6086474313681322551 : True := trivial
theorem law2.tw1114158999923597793 : True := trivial
theorem law2.tw13556878201268360361 : True := trivial
theorem law2.tw1853947026072464182 : True := trivial
theorem law2.tw6753690199013236987 : True := trivial
theorem law2.tw6053322999218563509 : True := trivial
theorem law2.tw12249671881649511636 : True := trivial
theorem law2.tw13336372240355863019 : True := trivial
theorem law2.tw1131615860390284492 : True := trivial
theorem law2.tw13006091987762768309 : True := trivial
theorem law2.tw7301760951141815214 : True := trivial
theorem law2.tw2894003755838260830 : True := trivial
theorem law2.tw13242280426130371727 : True := trivial
theorem law2.tw14604959220102241374 : True := trivial
theorem law2.tw11219335282107216873 : True := trivial
theorem law2.tw14325876909503610884 : True := trivial
theorem law2.tw4493267688427457080 : True := trivial
theorem law2.tw6571234273755828231 : True := trivial
theorem law2.tw7677232384085097607 : True := trivial
theorem law2.tw10456496355143178874 : True := trivial
theorem law2.tw8932228746067743601 : True := trivial
theorem law2.tw16135551457870125909 : True := trivial
theorem law2.tw1147498020628017760 : True := trivial
theorem law2.tw3075866865877389038 : True := trivial
theorem law2.tw11477570141840244841 : True := trivial
theorem law2.tw2910750741197172972 : True := trivial
theorem law2.tw11929777238829350809 : True := trivial
theorem law2.tw17427281559273334539 : True := trivial
theorem law2.tw13894452850261706313 : True := trivial
theorem law2.tw6920336844851819057 : True := trivial
theorem law2.tw15874410473238956649 : True := trivial
theorem law2.tw2770673324301610043 : True := trivial
theorem law2.tw8065149864337127583 : True := trivial
theorem law2.tw4179369323339085257 : True := trivial
theorem law2.tw15078331428154091065 : True := trivial
theorem law2.tw3845027413902692438 : True := trivial
theorem law2.tw7583557516923311304 : True := trivial
theorem law2.tw10124011465935428861 : True := trivial
theorem law2.tw4868291830340907203 : True := trivial
theorem law2.tw10896606355965486878 : True := trivial
theorem law2.tw4163517109577291954 : True := trivial
theorem law2.tw3174321839246590012 : True := trivial
theorem law2.tw5978287108494992406 : True := trivial
theorem law2.tw4344227896206183473 : True := trivial
theorem law2.tw11537825202057612096 : True := trivial
theorem law2.tw609508739292478811 : True := trivial
theorem law2.tw15928882252470132048 : True := trivial
theorem law2.tw17035205859515967910 : True := trivial
theorem law2.tw15832752923639710927 : True := trivial
theorem law2.tw635113123649283667 : True := trivial
theorem law2.tw7017082602282222633 : True := trivial
theorem law2.tw18409636161424362592 : True := trivial
theorem law2.tw11998238422103247056 : True := trivial
theorem law2.tw9722444474557762517 : True := trivial
theorem law2.tw14306479245845403782 : True := trivial
theorem law2.tw7297736114255340699 : True := trivial
theorem law2.tw8015897361001457214 : True := trivial
theorem law2.tw3053175309307190852 : True := trivial
theorem law2.tw3759767544269401379 : True := trivial
theorem law2.tw15551470932276925696 : True := trivial
theorem law2.tw15652830661208651697 : True := trivial
theorem law2.tw4260225085484954949 : True := trivial
theorem law2.tw6084756688982876383 : True := trivial
theorem law2.tw14006652129889205863 : True := trivial
theorem law2.tw13301537013695823073 : True := trivial
theorem law2.tw9424854086450321803 : True := trivial
theorem law2.tw6139878084598462625 : True := trivial
theorem law2.tw11643987388136564377 : True := trivial
theorem law2.tw14418727656953888411 : True := trivial
theorem law2.tw17326326324608600121 : True := trivial
theorem law2.tw3892318887490240167 : True := trivial
theorem law2.tw13354208542374723192 : True := trivial
theorem law2.tw7254234089710300281 : True := trivial
theorem law2.tw9999432725112452802 : True := trivial
theorem law2.tw4346630048794621026 : True := trivial
theorem law2.tw331832733569499802 : True := trivial
theorem law2.tw16565563412746702064 : True := trivial
theorem law2.tw13633987804688817693 : True := trivial
theorem law2.tw5816595909324147366 : True := trivial
theorem law2.tw2046436797624385012 : True := trivial
theorem law2.tw3583596788730500851 : True := trivial
theorem law2.tw6990188600556792637 : True := trivial
theorem law2.tw13022410965136282614 : True := trivial
theorem law2.tw5555749072247545555 : True := trivial
theorem law2.tw2698177201924251414 : True := trivial
theorem law2.tw5149998082381863667 : True := trivial
theorem law2.tw17390272766825017668 : True := trivial
theorem law2.tw9936690497152639194 : True := trivial
theorem law2.tw105030890966199316 : True := trivial
theorem law2.tw8810566527717629305 : True := trivial
theorem law2.tw15236797529809568732 : True := trivial
theorem law2.tw9797360853659742683 : True := trivial
theorem law2.tw14323574877982205111 : True := trivial
theorem law2.tw15571945868511344772 : True := trivial
theorem law2.tw9690331778808746017 : True := trivial
theorem law2.tw16524203547440126283 : True := trivial
theorem law2.tw9982976296056816725 : True := trivial
theorem law2.tw14401104534323596469 : True := trivial
theorem law2.tw6738980315481427898 : True := trivial
theorem law2.tw800737437882130624 : True := trivial
theorem law2.tw13738277233760849843 : True := trivial
theorem law2.tw7544145492634741463 : True := trivial
theorem law2.tw13887442662943166570 : True := trivial
theorem law2.tw5438104646094619153 : True := trivial
theorem law2.tw9819929692023775107 : True := trivial
theorem law2.tw13646356787927559196 : True := trivial
theorem law2.tw8146404309735031734 : True := trivial
theorem law2.tw4984757088194918723 : True := trivial
theorem law2.tw5238492775391388200 : True := trivial
theorem law2.tw15355638885855054776 : True := trivial
theorem law2.tw16662943967097848157 : True := trivial
theorem law2.tw3699087018321885760 : True := trivial
theorem law2.tw3684822921240367064 : True := trivial
theorem law2.tw7857161240412943657 : True := trivial
theorem law2.tw1441118743463429261 : True := trivial
theorem law2.tw7539339472308977629 : True := trivial
theorem law2.tw4025433429882772261 : True := trivial
theorem law2.tw7176382382216294707 : True := trivial
theorem law2.tw11641686142347275227 : True := trivial
theorem law2.tw12801876600899262502 : True := trivial
theorem law2.tw15367645388831380602 : True := trivial
theorem law2.tw5562788447927510133 : True := trivial
theorem law2.tw2506587627098025015 : True := trivial
theorem law2.tw4510805816924817847 : True := trivial
theorem law2.tw11144292978944084405 : True := trivial
theorem law2.tw2675345558521676590 : True := trivial
theorem law2.tw16203355781657267775 : True := trivial
theorem law2.tw2805517328258443125 : True := trivial
theorem law2.tw923473973278714104 : True := trivial
theorem law2.tw7923952612716138913 : True := trivial
theorem law2.tw743057608507991811 : True := trivial
theorem law2.tw6535812413418676523 : True := trivial
theorem law2.tw10065527435694528049 : True := trivial
theorem law2.tw4485960923977009520 : True := trivial
theorem law2.tw17909363565284751197 : True := trivial
theorem law2.tw466011727994495105 : True := trivial
theorem law2.tw1872793578229402749 : True := trivial
theorem law2.tw18113852118913078022 : True := trivial
theorem law2.tw2131183015335675088 : True := trivial
theorem law2.tw7415282422113397582 : True := trivial
theorem law2.tw1712837826811954629 : True := trivial
theorem law2.tw16116738094163401521 : True := trivial
theorem law2.tw14074410700222163584 : True := trivial
theorem law2.tw2471147868696269657 : True := trivial
theorem law2.tw15759803181315133484 : True := trivial
theorem law2.tw3232481506184612758 : True := trivial
theorem law2.tw544755208055372623 : True := trivial
theorem law2.tw8488311467784769563 : True := trivial
theorem law2.tw14849377499668617438 : True := trivial
theorem law2.tw4606570888333767395 : True := trivial
theorem law2.tw6133439193448185521 : True := trivial
theorem law2.tw6675398998424190471 : True := trivial
theorem law2.tw13964823338758510523 : True := trivial
theorem law2.tw14419965264492123763 : True := trivial
theorem law2.tw6847673084152235733 : True := trivial
theorem law2.tw11899090725881890457 : True := trivial
theorem law2.tw12286301314098193272 : True := trivial
theorem law2.tw16151515181624167834 : True := trivial
theorem law2.tw15475500471869915204 : True := trivial
theorem law2.tw3239459109681885772 : True := trivial
theorem law2.tw7574582086313014825 : True := trivial
theorem law2.tw8136817333219095347 : True := trivial
theorem law2.tw7919435988918261630 : True := trivial
theorem law2.tw9179911754898329522 : True := trivial
theorem law2.tw3769500358816645795 : True := trivial
theorem law2.tw14482475769583166775 : True := trivial
theorem law2.tw13658556864383961923 : True := trivial
theorem law2.tw17703521581958620980 : True := trivial
theorem law2.tw9769399110012583928 : True := trivial
theorem law2.tw15422268022521386514 : True := trivial
theorem law2.tw11886743871687144877 : True := trivial
theorem law2.tw1695692385377076409 : True := trivial
theorem law2.tw7580091589566304403 : True := trivial
theorem law2.tw11854804951009372995 : True := trivial
theorem law2.tw8535864586271263434 : True := trivial
theorem law2.tw17483438195021862224 : True := trivial
theorem law2.tw17163572068547295207 : True := trivial
theorem law2.tw5219912564378172049 : True := trivial
theorem law2.tw17210138299615704493 : True := trivial
theorem law2.tw6172908651565628718 : True := trivial
theorem law2.tw15227380672650639280 : True := trivial
theorem law2.tw16526244059959903262 : True := trivial
theorem law2.tw12430428249098457466 : True := trivial
theorem law2.tw5030067975287867613 : True := trivial
theorem law2.tw1257989264373090146 : True := trivial
theorem law2.tw6636954368899389528 : True := trivial
theorem law2.tw7000554004474193384 : True := trivial
theorem law2.tw14631642341745325670 : True := trivial
theorem law2.tw6530272719707782902 : True := trivial
theorem law2.tw8523826585911660703 : True := trivial
theorem law2.tw1346067273290215422 : True := trivial
theorem law2.tw9931048847400746822 : True := trivial
theorem law2.tw3785033433039116595 : True := trivial
theorem law2.tw4566551101112005393 : True := trivial
theorem law2.tw7569714401854288408 : True := trivial
theorem law2.tw8353201445304711599 : True := trivial
theorem law2.tw14874296493869352619 : True := trivial
theorem law2.tw3918405532123288832 : True := trivial
theorem law2.tw5226355116554585586 : True := trivial
theorem law2.tw15203870459928265339 : True := trivial
theorem law2.tw3856182795638293721 : True := trivial
theorem law2.tw18359324714972550873 : True := trivial
theorem law2.tw5121011059708100520 : True := trivial
theorem law2.tw1748447987709332095 : True := trivial
theorem law2.tw17965515779323645879 : True := trivial
theorem law2.tw11349261046606874457 : True := trivial
theorem law2.tw18215344700146426446 : True := trivial
theorem law2.tw15974843768119089954 : True := trivial
theorem law2.tw6974660093683965518 : True := trivial
theorem law2.tw14741533417989131666 : True := trivial
theorem law2.tw15311819305966388070 : True := trivial
theorem law2.tw10629659404074610616 : True := trivial
theorem law2.tw9930123296697399271 : True := trivial
theorem law2.tw6672642109064476830 : True := trivial
theorem law2.tw13497924105210126512 : True := trivial
theorem law2.tw6926397976422293578 : True := trivial
theorem law2.tw17313164304869090676 : True := trivial
theorem law2.tw8205336636722967541 : True := trivial
theorem law2.tw8032474458069821570 : True := trivial
theorem law2.tw5539483439467368466 : True := trivial
theorem law2.tw4183881027965759473 : True := trivial
theorem law2.tw9861309047823837284 : True := trivial
theorem law2.tw5111230114351973450 : True := trivial
theorem law2.tw18145394762660293529 : True := trivial
theorem law2.tw197123461962203197 : True := trivial
theorem law2.tw6028240027079321792 : True := trivial
theorem law2.tw10833985206933132660 : True := trivial
theorem law2.tw2724799187800818912 : True := trivial
theorem law2.tw6181933444794841458 : True := trivial
theorem law2.tw10303827456672020390 : True := trivial
theorem law2.tw1325445282860658436 : True := trivial
theorem law2.tw3758266912034389861 : True := trivial
theorem law2.tw3112683618853647838 : True := trivial
theorem law2.tw15258005132101092065 : True := trivial
theorem law2.tw13107530990876393977 : True := trivial
theorem law2.tw4064705697899504530 : True := trivial
theorem law2.tw10474042971464415657 : True := trivial
theorem law2.tw14907385389832024627 : True := trivial
theorem law2.tw14913342698587601771 : True := trivial
theorem law2.tw3926011889724768309 : True := trivial
theorem law2.tw2443274079213280968 : True := trivial
theorem law2.tw10185943477660989536 : True := trivial
theorem law2.tw13769671785058266624 : True := trivial
theorem law2.tw14601716229338556727 : True := trivial
theorem law2.tw2417369419108778861 : True := trivial
theorem law2.tw12289532938358350130 : True := trivial
theorem law2.tw12868587774555847478 : True := trivial
theorem law2.tw617659900285741479 : True := trivial
theorem law2.tw5532694118900997755 : True := trivial
theorem law2.tw17163042626838738287 : True := trivial
theorem law2.tw1569673308611259251 : True := trivial
theorem law2.tw15012738884757991013 : True := trivial
theorem law2.tw8206478802028435104 : True := trivial
theorem law2.tw3096817237719906270 : True := trivial
theorem law2.tw3048688119467645117 : True := trivial
theorem law2.tw1457556261513033908 : True := trivial
theorem law2.tw1664786362607849494 : True := trivial
theorem law2.tw14550409471118977324 : True := trivial
theorem law2.tw11410096073886505308 : True := trivial
theorem law2.tw8307169248621636514 : True := trivial
theorem law2.tw10300798213016146791 : True := trivial
theorem law2.tw13314120419342845858 : True := trivial
theorem law2.tw9644288025246185441 : True := trivial
theorem law2.tw11111931714405618325 : True := trivial
theorem law2.tw14105928962460706361 : True := trivial
theorem law2.tw14849668403243382229 : True := trivial
theorem law2.tw15411237435539232268 : True := trivial
theorem law2.tw8389345318330187270 : True := trivial
theorem law2.tw549482218781479483 : True := trivial
theorem law2.tw1354855375191507920 : True := trivial
theorem law2.tw1584169573011455771 : True := trivial
theorem law2.tw10871324859263985494 : True := trivial
theorem law2.tw10051888912582546065 : True := trivial
theorem law2.tw3881422271113671155 : True := trivial
theorem law2.tw4751764805528527755 : True := trivial
theorem law2.tw10061934039977670267 : True := trivial
theorem law2.tw7925081120042793865 : True := trivial
theorem law2.tw2064874736702975436 : True := trivial
theorem law2.tw685282128515839317 : True := trivial
theorem law2.tw7435667409336857412 : True := trivial
theorem law2.tw4316002026450858403 : True := trivial
theorem law2.tw7891530762301462404 : True := trivial
theorem law2.tw16185032429438536577 : True := trivial
theorem law2.tw13606105384822602559 : True := trivial
theorem law2.tw8604730860925257465 : True := trivial
theorem law2.tw7442038553175041133 : True := trivial
theorem law2.tw5962399175534937230 : True := trivial
theorem law2.tw9613285242582662395 : True := trivial
theorem law2.tw1425957894500304262 : True := trivial
theorem law2.tw1772587353204194201 : True := trivial
theorem law2.tw12646323276254631324 : True := trivial
theorem law2.tw14234832241593930771 : True := trivial
theorem law2.tw3124294560530868536 : True := trivial
theorem law2.tw13994471284770666282 : True := trivial
theorem law2.tw16557797588224022440 : True := trivial
theorem law2.tw7451179178709055465 : True := trivial
theorem law2.tw3187739887388565598 : True := trivial
theorem law2.tw9068175162438279858 : True := trivial
theorem law2.tw1042985469962613894 : True := trivial
theorem law2.tw8305669103610120943 : True := trivial
theorem law2.tw3077503621990649231 : True := trivial
theorem law2.tw9575837221443142555 : True := trivial
theorem law2.tw16177656708885966009 : True := trivial
theorem law2.tw583501672897473682 : True := trivial
theorem law2.tw1468917465595899802 : True := trivial
theorem law2.tw1243479009252298232 : True := trivial
theorem law2.tw9003051085142975783 : True := trivial
theorem law2.tw9196560795389890166 : True := trivial
theorem law2.tw16813146516627255840 : True := trivial
theorem law2.tw6452205202507550539 : True := trivial
theorem law2.tw6425396574222582196 : True := trivial
theorem law2.tw14061536979933753195 : True := trivial
theorem law2.tw6303767342658233547 : True := trivial
theorem law2.tw17073322507857944574 : True := trivial
theorem law2.tw16628625946239289964 : True := trivial
theorem law2.tw16195529895408528202 : True := trivial
theorem law2.tw6221772485103445006 : True := trivial
theorem law2.tw9419761602418739344 : True := trivial
theorem law2.tw1484361290851813233 : True := trivial
theorem law2.tw6640907683719204306 : True := trivial
theorem law2.tw17196924231781411339 : True := trivial
theorem law2.tw1517684122568869978 : True := trivial
theorem law2.tw14873474225989587090 : True := trivial
theorem law2.tw9807193735478041715 : True := trivial
theorem law2.tw12957530357128080936 : True := trivial
theorem law2.tw5427993353181108695 : True := trivial
theorem law2.tw522713159524902408 : True := trivial
theorem law2.tw5288530473020024006 : True := trivial
theorem law2.tw9006390875017001520 : True := trivial
theorem law2.tw6813302646947468240 : True := trivial
theorem law2.tw1195082939569291906 : True := trivial
theorem law2.tw9611993098960130224 : True := trivial
theorem law2.tw11193775154354542792 : True := trivial
theorem law2.tw7238970931874558226 : True := trivial
theorem law2.tw218785066357006861 : True := trivial
theorem law2.tw7693918604027934405 : True := trivial
theorem law2.tw7880952203950390546 : True := trivial
theorem law2.tw7682063983088524802 : True := trivial
theorem law2.tw1122306107141672160 : True := trivial
theorem law2.tw10912860775952463684 : True := trivial
theorem law2.tw3947746640885233835 : True := trivial
theorem law2.tw4643969774243015507 : True := trivial
theorem law2.tw4232353801414835364 : True := trivial
theorem law2.tw7985099250079894021 : True := trivial
theorem law2.tw13344959278907090344 : True := trivial
theorem law2.tw16084946544042759213 : True := trivial
theorem law2.tw16989226236888819153 : True := trivial
theorem law2.tw8057892389281297086 : True := trivial
theorem law2.tw11669410473364476463 : True := trivial
theorem law2.tw16016320488684895708 : True := trivial
theorem law2.tw8631467119144586495 : True := trivial
theorem law2.tw6225667758626605294 : True := trivial
theorem law2.tw8027224126158776586 : True := trivial
theorem law2.tw2206987139356210482 : True := trivial
theorem law2.tw10041391314198943777 : True := trivial
theorem law2.tw11189973643563402541 : True := trivial
theorem law2.tw1225858181173087159 : True := trivial
theorem law2.tw677057792686660850 : True := trivial
theorem law2.tw6490500060000242088 : True := trivial
theorem law2.tw6091176952874369733 : True := trivial
theorem law2.tw17519671792451409039 : True := trivial
theorem law2.tw16851791293272305936 : True := trivial
set_option Elab.async true in
set_option maxHeartbeats 8000000 in
theorem law2 : PySem.Challenge.rw_bd0004_02.Holds := by
  w_on
  o_law
  k_head
  (case hw => w_witness2)
  k_go0
  all_goals (try k_fold)
  k_steps
  unfold Hold
  refine join_int (by (with_reducible refine IfExp_ ?_); k_steps; all_goals exact ⟨⟨_, _, _, rfl, rfl⟩⟩) ?_
  intro n0 t0 tk0
  k_steps
  unfold Hold
  (with_reducible refine IfExp_ ?_)
  k_steps
  · refine Hold.go ?_
    rename News _ _ _ _ => N0
    k_dflt (refine' use_saysC2B (matrix_says _ _ _ _ _ _ _ ?zn ?zl ?z6 ?z3 ?z9) ?zZ ?zB ?zF ?zX N0 ?zT ?zC ?zC2 ?zk ?zd ?zu ?_)
    (case zB => k_asm)
    (case zZ => with_reducible assumption)
    (case zF => k_asm); (case zX => (rename Frag.In _ _ => X9; exact X9)); (case zT => k_asm)
    (case zn => assumption)
    (case zl => omega); (case z6 => k_mem); (case z3 => k_mem); (case z9 => k_mem)
    (case zk => first | exact rfl | assumption)
    (case zd => ktr_room)
    (case zu => (simp only [un_make, units_in1, units_deeper, Around.mark_units, units_caller]; (try dsimp only [ktrTop]); (try simp only [cLine]); omega))
    (case zC => (with_reducible (rename CodeHd _ (603, 599).1 (603, 599).2 => hC1); exact hC1))
    (case zC2 => (with_reducible (rename CodeHd _ (313, 311).1 (313, 311).2 => hC1); exact hC1))
    rintro r9 n9 h9 tk9 F9 N9 ⟨hr9, a1, a2, a3, m1, m2, m3⟩
    subst hr9
    have N10 := tab_news N9 m1 m2 m3
    clear N9 m1 m2 m3
    (with_reducible show _)
    k_steps
  · refine Hold.go ?_
    rename News _ _ _ _ => N0
    k_dflt (refine' use_saysC2B (ballr_says _ _ _ _ _ _ _ ?zn ?zl ?z6 ?z3 ?z9) ?zZ ?zB ?zF ?zX N0 ?zT ?zC ?zC2 ?zk ?zd ?zu ?_)
    (case zB => k_asm)
    (case zZ => with_reducible assumption)
    (case zF => k_asm); (case zX => (rename Frag.In _ _ => X9; exact X9)); (case zT => k_asm)
    (case zn => assumption)
    (case zl => omega); (case z6 => k_mem); (case z3 => k_mem); (case z9 => k_mem)
    (case zk => first | exact rfl | assumption)
    (case zd => ktr_room)
    (case zu => (simp only [un_make, units_in1, units_deeper, Around.mark_units, units_caller]; (try dsimp only [ktrTop]); (try simp only [cLine]); omega))
    (case zC => (with_reducible (rename CodeHd _ (603, 599).1 (603, 599).2 => hC1); exact hC1))
    (case zC2 => (with_reducible (rename CodeHd _ (308, 306).1 (308, 306).2 => hC1); exact hC1))
    rintro r9 n9 h9 tk9 F9 N9 ⟨hr9, a1, a2, a3, m1, m2, m3⟩
    subst hr9
    have N10 := tab_news N9 m1 m2 m3
    clear N9 m1 m2 m3
    (with_reducible show _)
    k_steps
end Mine
end
theorem PySem.Challenge.cw_bd0004_02_holds : PySem.Challenge.rw_bd0004_02.Holds := by
  exact Mine.law2
