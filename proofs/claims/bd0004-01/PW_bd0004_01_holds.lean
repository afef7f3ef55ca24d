import PyProof.Rows.All
import Wide.All
import OpenK.AllK
import Wide.FinOn
import PySem.Challenge.RW_bd0004_01
set_option Elab.async false
section
open PySem PySem.W PyProof.Rows
set_option maxRecDepth 100000
namespace Mine
noncomputable section
abbrev lit {α : Type} {o : Option α} {x : α} (_ : o = some x) : α := x
def stAt (i : Nat) : Option PySem.Stmt := PySem.Challenge.pw_bd0004_01.main.body[i]?
def inCls : Option PySem.Stmt → Nat → Option PySem.Stmt
  | some (.ClassDef _ _ _ body _ _ _ _ _ _ _), j => body[j]?
  | _, _ => none
def fParams : Option PySem.Stmt → Option PySem.Arguments
  | some (.FunctionDef _ a _ _ _ _ _ _ _ _) => some a
  | _ => none
def fBody : Option PySem.Stmt → Option (List PySem.Stmt)
  | some (.FunctionDef _ _ b _ _ _ _ _ _ _) => some b
  | _ => none
def fScope : Option PySem.Stmt → Option PySem.Scope
  | some (.FunctionDef _ _ _ _ _ _ s _ _ _) => some s
  | _ => none
noncomputable abbrev p21 : PySem.Arguments := lit (o := fParams (stAt 0)) rfl
noncomputable abbrev b21 : List PySem.Stmt := lit (o := fBody (stAt 0)) rfl
noncomputable abbrev s21 : PySem.Scope := lit (o := fScope (stAt 0)) rfl
noncomputable abbrev p35 : PySem.Arguments := lit (o := fParams (inCls (stAt 2) 0)) rfl
noncomputable abbrev b35 : List PySem.Stmt := lit (o := fBody (inCls (stAt 2) 0)) rfl
noncomputable abbrev s35 : PySem.Scope := lit (o := fScope (inCls (stAt 2) 0)) rfl
noncomputable abbrev p42 : PySem.Arguments := lit (o := fParams (inCls (stAt 2) 1)) rfl
noncomputable abbrev b42 : List PySem.Stmt := lit (o := fBody (inCls (stAt 2) 1)) rfl
noncomputable abbrev s42 : PySem.Scope := lit (o := fScope (inCls (stAt 2) 1)) rfl
noncomputable abbrev p49 : PySem.Arguments := lit (o := fParams (inCls (stAt 2) 2)) rfl
noncomputable abbrev b49 : List PySem.Stmt := lit (o := fBody (inCls (stAt 2) 2)) rfl
noncomputable abbrev s49 : PySem.Scope := lit (o := fScope (inCls (stAt 2) 2)) rfl
noncomputable abbrev p56 : PySem.Arguments := lit (o := fParams (inCls (stAt 2) 3)) rfl
noncomputable abbrev b56 : List PySem.Stmt := lit (o := fBody (inCls (stAt 2) 3)) rfl
noncomputable abbrev s56 : PySem.Scope := lit (o := fScope (inCls (stAt 2) 3)) rfl
noncomputable abbrev p63 : PySem.Arguments := lit (o := fParams (inCls (stAt 2) 4)) rfl
noncomputable abbrev b63 : List PySem.Stmt := lit (o := fBody (inCls (stAt 2) 4)) rfl
noncomputable abbrev s63 : PySem.Scope := lit (o := fScope (inCls (stAt 2) 4)) rfl
noncomputable abbrev p84 : PySem.Arguments := lit (o := fParams (inCls (stAt 3) 0)) rfl
noncomputable abbrev b84 : List PySem.Stmt := lit (o := fBody (inCls (stAt 3) 0)) rfl
noncomputable abbrev s84 : PySem.Scope := lit (o := fScope (inCls (stAt 3) 0)) rfl
noncomputable abbrev p91 : PySem.Arguments := lit (o := fParams (inCls (stAt 3) 1)) rfl
noncomputable abbrev b91 : List PySem.Stmt := lit (o := fBody (inCls (stAt 3) 1)) rfl
noncomputable abbrev s91 : PySem.Scope := lit (o := fScope (inCls (stAt 3) 1)) rfl
noncomputable abbrev p98 : PySem.Arguments := lit (o := fParams (inCls (stAt 3) 2)) rfl
noncomputable abbrev b98 : List PySem.Stmt := lit (o := fBody (inCls (stAt 3) 2)) rfl
noncomputable abbrev s98 : PySem.Scope := lit (o := fScope (inCls (stAt 3) 2)) rfl
noncomputable abbrev p103 : PySem.Arguments := lit (o := fParams (inCls (stAt 3) 3)) rfl
noncomputable abbrev b103 : List PySem.Stmt := lit (o := fBody (inCls (stAt 3) 3)) rfl
noncomputable abbrev s103 : PySem.Scope := lit (o := fScope (inCls (stAt 3) 3)) rfl
noncomputable abbrev p110 : PySem.Arguments := lit (o := fParams (inCls (stAt 3) 4)) rfl
noncomputable abbrev b110 : List PySem.Stmt := lit (o := fBody (inCls (stAt 3) 4)) rfl
noncomputable abbrev s110 : PySem.Scope := lit (o := fScope (inCls (stAt 3) 4)) rfl
noncomputable abbrev p117 : PySem.Arguments := lit (o := fParams (inCls (stAt 3) 5)) rfl
noncomputable abbrev b117 : List PySem.Stmt := lit (o := fBody (inCls (stAt 3) 5)) rfl
noncomputable abbrev s117 : PySem.Scope := lit (o := fScope (inCls (stAt 3) 5)) rfl
noncomputable abbrev p124 : PySem.Arguments := lit (o := fParams (inCls (stAt 3) 6)) rfl
noncomputable abbrev b124 : List PySem.Stmt := lit (o := fBody (inCls (stAt 3) 6)) rfl
noncomputable abbrev s124 : PySem.Scope := lit (o := fScope (inCls (stAt 3) 6)) rfl
noncomputable abbrev p129 : PySem.Arguments := lit (o := fParams (inCls (stAt 3) 7)) rfl
noncomputable abbrev b129 : List PySem.Stmt := lit (o := fBody (inCls (stAt 3) 7)) rfl
noncomputable abbrev s129 : PySem.Scope := lit (o := fScope (inCls (stAt 3) 7)) rfl
noncomputable abbrev p134 : PySem.Arguments := lit (o := fParams (inCls (stAt 3) 8)) rfl
noncomputable abbrev b134 : List PySem.Stmt := lit (o := fBody (inCls (stAt 3) 8)) rfl
noncomputable abbrev s134 : PySem.Scope := lit (o := fScope (inCls (stAt 3) 8)) rfl
noncomputable abbrev p139 : PySem.Arguments := lit (o := fParams (inCls (stAt 3) 9)) rfl
noncomputable abbrev b139 : List PySem.Stmt := lit (o := fBody (inCls (stAt 3) 9)) rfl
noncomputable abbrev s139 : PySem.Scope := lit (o := fScope (inCls (stAt 3) 9)) rfl
noncomputable abbrev p146 : PySem.Arguments := lit (o := fParams (inCls (stAt 3) 10)) rfl
noncomputable abbrev b146 : List PySem.Stmt := lit (o := fBody (inCls (stAt 3) 10)) rfl
noncomputable abbrev s146 : PySem.Scope := lit (o := fScope (inCls (stAt 3) 10)) rfl
noncomputable abbrev p153 : PySem.Arguments := lit (o := fParams (inCls (stAt 3) 11)) rfl
noncomputable abbrev b153 : List PySem.Stmt := lit (o := fBody (inCls (stAt 3) 11)) rfl
noncomputable abbrev s153 : PySem.Scope := lit (o := fScope (inCls (stAt 3) 11)) rfl
noncomputable abbrev p160 : PySem.Arguments := lit (o := fParams (inCls (stAt 3) 12)) rfl
noncomputable abbrev b160 : List PySem.Stmt := lit (o := fBody (inCls (stAt 3) 12)) rfl
noncomputable abbrev s160 : PySem.Scope := lit (o := fScope (inCls (stAt 3) 12)) rfl
noncomputable abbrev p165 : PySem.Arguments := lit (o := fParams (inCls (stAt 3) 13)) rfl
noncomputable abbrev b165 : List PySem.Stmt := lit (o := fBody (inCls (stAt 3) 13)) rfl
noncomputable abbrev s165 : PySem.Scope := lit (o := fScope (inCls (stAt 3) 13)) rfl
noncomputable abbrev p172 : PySem.Arguments := lit (o := fParams (inCls (stAt 3) 14)) rfl
noncomputable abbrev b172 : List PySem.Stmt := lit (o := fBody (inCls (stAt 3) 14)) rfl
noncomputable abbrev s172 : PySem.Scope := lit (o := fScope (inCls (stAt 3) 14)) rfl
noncomputable abbrev p179 : PySem.Arguments := lit (o := fParams (inCls (stAt 3) 15)) rfl
noncomputable abbrev b179 : List PySem.Stmt := lit (o := fBody (inCls (stAt 3) 15)) rfl
noncomputable abbrev s179 : PySem.Scope := lit (o := fScope (inCls (stAt 3) 15)) rfl
noncomputable abbrev p186 : PySem.Arguments := lit (o := fParams (inCls (stAt 3) 16)) rfl
noncomputable abbrev b186 : List PySem.Stmt := lit (o := fBody (inCls (stAt 3) 16)) rfl
noncomputable abbrev s186 : PySem.Scope := lit (o := fScope (inCls (stAt 3) 16)) rfl
noncomputable abbrev p191 : PySem.Arguments := lit (o := fParams (inCls (stAt 3) 17)) rfl
noncomputable abbrev b191 : List PySem.Stmt := lit (o := fBody (inCls (stAt 3) 17)) rfl
noncomputable abbrev s191 : PySem.Scope := lit (o := fScope (inCls (stAt 3) 17)) rfl
noncomputable abbrev p198 : PySem.Arguments := lit (o := fParams (inCls (stAt 3) 18)) rfl
noncomputable abbrev b198 : List PySem.Stmt := lit (o := fBody (inCls (stAt 3) 18)) rfl
noncomputable abbrev s198 : PySem.Scope := lit (o := fScope (inCls (stAt 3) 18)) rfl
noncomputable abbrev p205 : PySem.Arguments := lit (o := fParams (inCls (stAt 3) 19)) rfl
noncomputable abbrev b205 : List PySem.Stmt := lit (o := fBody (inCls (stAt 3) 19)) rfl
noncomputable abbrev s205 : PySem.Scope := lit (o := fScope (inCls (stAt 3) 19)) rfl
noncomputable abbrev p212 : PySem.Arguments := lit (o := fParams (inCls (stAt 3) 20)) rfl
noncomputable abbrev b212 : List PySem.Stmt := lit (o := fBody (inCls (stAt 3) 20)) rfl
noncomputable abbrev s212 : PySem.Scope := lit (o := fScope (inCls (stAt 3) 20)) rfl
noncomputable abbrev p219 : PySem.Arguments := lit (o := fParams (inCls (stAt 3) 21)) rfl
noncomputable abbrev b219 : List PySem.Stmt := lit (o := fBody (inCls (stAt 3) 21)) rfl
noncomputable abbrev s219 : PySem.Scope := lit (o := fScope (inCls (stAt 3) 21)) rfl
noncomputable abbrev p226 : PySem.Arguments := lit (o := fParams (inCls (stAt 3) 22)) rfl
noncomputable abbrev b226 : List PySem.Stmt := lit (o := fBody (inCls (stAt 3) 22)) rfl
noncomputable abbrev s226 : PySem.Scope := lit (o := fScope (inCls (stAt 3) 22)) rfl
noncomputable abbrev p247 : PySem.Arguments := lit (o := fParams (inCls (stAt 5) 0)) rfl
noncomputable abbrev b247 : List PySem.Stmt := lit (o := fBody (inCls (stAt 5) 0)) rfl
noncomputable abbrev s247 : PySem.Scope := lit (o := fScope (inCls (stAt 5) 0)) rfl
noncomputable abbrev p254 : PySem.Arguments := lit (o := fParams (inCls (stAt 5) 1)) rfl
noncomputable abbrev b254 : List PySem.Stmt := lit (o := fBody (inCls (stAt 5) 1)) rfl
noncomputable abbrev s254 : PySem.Scope := lit (o := fScope (inCls (stAt 5) 1)) rfl
noncomputable abbrev p261 : PySem.Arguments := lit (o := fParams (inCls (stAt 5) 2)) rfl
noncomputable abbrev b261 : List PySem.Stmt := lit (o := fBody (inCls (stAt 5) 2)) rfl
noncomputable abbrev s261 : PySem.Scope := lit (o := fScope (inCls (stAt 5) 2)) rfl
noncomputable abbrev p268 : PySem.Arguments := lit (o := fParams (inCls (stAt 5) 3)) rfl
noncomputable abbrev b268 : List PySem.Stmt := lit (o := fBody (inCls (stAt 5) 3)) rfl
noncomputable abbrev s268 : PySem.Scope := lit (o := fScope (inCls (stAt 5) 3)) rfl
noncomputable abbrev p275 : PySem.Arguments := lit (o := fParams (inCls (stAt 5) 4)) rfl
noncomputable abbrev b275 : List PySem.Stmt := lit (o := fBody (inCls (stAt 5) 4)) rfl
noncomputable abbrev s275 : PySem.Scope := lit (o := fScope (inCls (stAt 5) 4)) rfl
noncomputable abbrev p294 : PySem.Arguments := lit (o := fParams (inCls (stAt 7) 0)) rfl
noncomputable abbrev b294 : List PySem.Stmt := lit (o := fBody (inCls (stAt 7) 0)) rfl
noncomputable abbrev s294 : PySem.Scope := lit (o := fScope (inCls (stAt 7) 0)) rfl
noncomputable abbrev p301 : PySem.Arguments := lit (o := fParams (inCls (stAt 7) 1)) rfl
noncomputable abbrev b301 : List PySem.Stmt := lit (o := fBody (inCls (stAt 7) 1)) rfl
noncomputable abbrev s301 : PySem.Scope := lit (o := fScope (inCls (stAt 7) 1)) rfl
noncomputable abbrev p309 : PySem.Arguments := lit (o := fParams (inCls (stAt 7) 2)) rfl
noncomputable abbrev b309 : List PySem.Stmt := lit (o := fBody (inCls (stAt 7) 2)) rfl
noncomputable abbrev s309 : PySem.Scope := lit (o := fScope (inCls (stAt 7) 2)) rfl
noncomputable abbrev p316 : PySem.Arguments := lit (o := fParams (inCls (stAt 7) 3)) rfl
noncomputable abbrev b316 : List PySem.Stmt := lit (o := fBody (inCls (stAt 7) 3)) rfl
noncomputable abbrev s316 : PySem.Scope := lit (o := fScope (inCls (stAt 7) 3)) rfl
noncomputable abbrev p323 : PySem.Arguments := lit (o := fParams (inCls (stAt 7) 4)) rfl
noncomputable abbrev b323 : List PySem.Stmt := lit (o := fBody (inCls (stAt 7) 4)) rfl
noncomputable abbrev s323 : PySem.Scope := lit (o := fScope (inCls (stAt 7) 4)) rfl
noncomputable abbrev p330 : PySem.Arguments := lit (o := fParams (inCls (stAt 7) 5)) rfl
noncomputable abbrev b330 : List PySem.Stmt := lit (o := fBody (inCls (stAt 7) 5)) rfl
noncomputable abbrev s330 : PySem.Scope := lit (o := fScope (inCls (stAt 7) 5)) rfl
noncomputable abbrev p337 : PySem.Arguments := lit (o := fParams (inCls (stAt 7) 6)) rfl
noncomputable abbrev b337 : List PySem.Stmt := lit (o := fBody (inCls (stAt 7) 6)) rfl
noncomputable abbrev s337 : PySem.Scope := lit (o := fScope (inCls (stAt 7) 6)) rfl
noncomputable abbrev p344 : PySem.Arguments := lit (o := fParams (inCls (stAt 7) 7)) rfl
noncomputable abbrev b344 : List PySem.Stmt := lit (o := fBody (inCls (stAt 7) 7)) rfl
noncomputable abbrev s344 : PySem.Scope := lit (o := fScope (inCls (stAt 7) 7)) rfl
noncomputable abbrev p351 : PySem.Arguments := lit (o := fParams (inCls (stAt 7) 8)) rfl
noncomputable abbrev b351 : List PySem.Stmt := lit (o := fBody (inCls (stAt 7) 8)) rfl
noncomputable abbrev s351 : PySem.Scope := lit (o := fScope (inCls (stAt 7) 8)) rfl
noncomputable abbrev p358 : PySem.Arguments := lit (o := fParams (inCls (stAt 7) 9)) rfl
noncomputable abbrev b358 : List PySem.Stmt := lit (o := fBody (inCls (stAt 7) 9)) rfl
noncomputable abbrev s358 : PySem.Scope := lit (o := fScope (inCls (stAt 7) 9)) rfl
noncomputable abbrev p365 : PySem.Arguments := lit (o := fParams (inCls (stAt 7) 10)) rfl
noncomputable abbrev b365 : List PySem.Stmt := lit (o := fBody (inCls (stAt 7) 10)) rfl
noncomputable abbrev s365 : PySem.Scope := lit (o := fScope (inCls (stAt 7) 10)) rfl
noncomputable abbrev p372 : PySem.Arguments := lit (o := fParams (inCls (stAt 7) 11)) rfl
noncomputable abbrev b372 : List PySem.Stmt := lit (o := fBody (inCls (stAt 7) 11)) rfl
noncomputable abbrev s372 : PySem.Scope := lit (o := fScope (inCls (stAt 7) 11)) rfl
noncomputable abbrev p380 : PySem.Arguments := lit (o := fParams (inCls (stAt 7) 12)) rfl
noncomputable abbrev b380 : List PySem.Stmt := lit (o := fBody (inCls (stAt 7) 12)) rfl
noncomputable abbrev s380 : PySem.Scope := lit (o := fScope (inCls (stAt 7) 12)) rfl
noncomputable abbrev p387 : PySem.Arguments := lit (o := fParams (inCls (stAt 7) 13)) rfl
noncomputable abbrev b387 : List PySem.Stmt := lit (o := fBody (inCls (stAt 7) 13)) rfl
noncomputable abbrev s387 : PySem.Scope := lit (o := fScope (inCls (stAt 7) 13)) rfl
noncomputable abbrev p406 : PySem.Arguments := lit (o := fParams (inCls (stAt 8) 0)) rfl
noncomputable abbrev b406 : List PySem.Stmt := lit (o := fBody (inCls (stAt 8) 0)) rfl
noncomputable abbrev s406 : PySem.Scope := lit (o := fScope (inCls (stAt 8) 0)) rfl
noncomputable abbrev p413 : PySem.Arguments := lit (o := fParams (inCls (stAt 8) 1)) rfl
noncomputable abbrev b413 : List PySem.Stmt := lit (o := fBody (inCls (stAt 8) 1)) rfl
noncomputable abbrev s413 : PySem.Scope := lit (o := fScope (inCls (stAt 8) 1)) rfl
noncomputable abbrev p420 : PySem.Arguments := lit (o := fParams (inCls (stAt 8) 2)) rfl
noncomputable abbrev b420 : List PySem.Stmt := lit (o := fBody (inCls (stAt 8) 2)) rfl
noncomputable abbrev s420 : PySem.Scope := lit (o := fScope (inCls (stAt 8) 2)) rfl
noncomputable abbrev p427 : PySem.Arguments := lit (o := fParams (inCls (stAt 8) 3)) rfl
noncomputable abbrev b427 : List PySem.Stmt := lit (o := fBody (inCls (stAt 8) 3)) rfl
noncomputable abbrev s427 : PySem.Scope := lit (o := fScope (inCls (stAt 8) 3)) rfl
noncomputable abbrev p435 : PySem.Arguments := lit (o := fParams (inCls (stAt 8) 4)) rfl
noncomputable abbrev b435 : List PySem.Stmt := lit (o := fBody (inCls (stAt 8) 4)) rfl
noncomputable abbrev s435 : PySem.Scope := lit (o := fScope (inCls (stAt 8) 4)) rfl
noncomputable abbrev p443 : PySem.Arguments := lit (o := fParams (inCls (stAt 8) 5)) rfl
noncomputable abbrev b443 : List PySem.Stmt := lit (o := fBody (inCls (stAt 8) 5)) rfl
noncomputable abbrev s443 : PySem.Scope := lit (o := fScope (inCls (stAt 8) 5)) rfl
noncomputable abbrev p450 : PySem.Arguments := lit (o := fParams (inCls (stAt 8) 7)) rfl
noncomputable abbrev b450 : List PySem.Stmt := lit (o := fBody (inCls (stAt 8) 7)) rfl
noncomputable abbrev s450 : PySem.Scope := lit (o := fScope (inCls (stAt 8) 7)) rfl
noncomputable abbrev p457 : PySem.Arguments := lit (o := fParams (inCls (stAt 8) 8)) rfl
noncomputable abbrev b457 : List PySem.Stmt := lit (o := fBody (inCls (stAt 8) 8)) rfl
noncomputable abbrev s457 : PySem.Scope := lit (o := fScope (inCls (stAt 8) 8)) rfl
noncomputable abbrev p464 : PySem.Arguments := lit (o := fParams (inCls (stAt 8) 10)) rfl
noncomputable abbrev b464 : List PySem.Stmt := lit (o := fBody (inCls (stAt 8) 10)) rfl
noncomputable abbrev s464 : PySem.Scope := lit (o := fScope (inCls (stAt 8) 10)) rfl
noncomputable abbrev p474 : PySem.Arguments := lit (o := fParams (inCls (stAt 8) 11)) rfl
noncomputable abbrev b474 : List PySem.Stmt := lit (o := fBody (inCls (stAt 8) 11)) rfl
noncomputable abbrev s474 : PySem.Scope := lit (o := fScope (inCls (stAt 8) 11)) rfl
noncomputable abbrev p481 : PySem.Arguments := lit (o := fParams (inCls (stAt 8) 12)) rfl
noncomputable abbrev b481 : List PySem.Stmt := lit (o := fBody (inCls (stAt 8) 12)) rfl
noncomputable abbrev s481 : PySem.Scope := lit (o := fScope (inCls (stAt 8) 12)) rfl
noncomputable abbrev p488 : PySem.Arguments := lit (o := fParams (inCls (stAt 8) 13)) rfl
noncomputable abbrev b488 : List PySem.Stmt := lit (o := fBody (inCls (stAt 8) 13)) rfl
noncomputable abbrev s488 : PySem.Scope := lit (o := fScope (inCls (stAt 8) 13)) rfl
noncomputable abbrev p495 : PySem.Arguments := lit (o := fParams (inCls (stAt 8) 14)) rfl
noncomputable abbrev b495 : List PySem.Stmt := lit (o := fBody (inCls (stAt 8) 14)) rfl
noncomputable abbrev s495 : PySem.Scope := lit (o := fScope (inCls (stAt 8) 14)) rfl
noncomputable abbrev p502 : PySem.Arguments := lit (o := fParams (inCls (stAt 8) 15)) rfl
noncomputable abbrev b502 : List PySem.Stmt := lit (o := fBody (inCls (stAt 8) 15)) rfl
noncomputable abbrev s502 : PySem.Scope := lit (o := fScope (inCls (stAt 8) 15)) rfl
noncomputable abbrev p509 : PySem.Arguments := lit (o := fParams (inCls (stAt 8) 16)) rfl
noncomputable abbrev b509 : List PySem.Stmt := lit (o := fBody (inCls (stAt 8) 16)) rfl
noncomputable abbrev s509 : PySem.Scope := lit (o := fScope (inCls (stAt 8) 16)) rfl
noncomputable abbrev p516 : PySem.Arguments := lit (o := fParams (inCls (stAt 8) 17)) rfl
noncomputable abbrev b516 : List PySem.Stmt := lit (o := fBody (inCls (stAt 8) 17)) rfl
noncomputable abbrev s516 : PySem.Scope := lit (o := fScope (inCls (stAt 8) 17)) rfl
noncomputable abbrev p523 : PySem.Arguments := lit (o := fParams (inCls (stAt 8) 18)) rfl
noncomputable abbrev b523 : List PySem.Stmt := lit (o := fBody (inCls (stAt 8) 18)) rfl
noncomputable abbrev s523 : PySem.Scope := lit (o := fScope (inCls (stAt 8) 18)) rfl
noncomputable abbrev p542 : PySem.Arguments := lit (o := fParams (inCls (stAt 9) 0)) rfl
noncomputable abbrev b542 : List PySem.Stmt := lit (o := fBody (inCls (stAt 9) 0)) rfl
noncomputable abbrev s542 : PySem.Scope := lit (o := fScope (inCls (stAt 9) 0)) rfl
noncomputable abbrev p549 : PySem.Arguments := lit (o := fParams (inCls (stAt 9) 1)) rfl
noncomputable abbrev b549 : List PySem.Stmt := lit (o := fBody (inCls (stAt 9) 1)) rfl
noncomputable abbrev s549 : PySem.Scope := lit (o := fScope (inCls (stAt 9) 1)) rfl
noncomputable abbrev p556 : PySem.Arguments := lit (o := fParams (inCls (stAt 9) 2)) rfl
noncomputable abbrev b556 : List PySem.Stmt := lit (o := fBody (inCls (stAt 9) 2)) rfl
noncomputable abbrev s556 : PySem.Scope := lit (o := fScope (inCls (stAt 9) 2)) rfl
noncomputable abbrev p561 : PySem.Arguments := lit (o := fParams (inCls (stAt 9) 3)) rfl
noncomputable abbrev b561 : List PySem.Stmt := lit (o := fBody (inCls (stAt 9) 3)) rfl
noncomputable abbrev s561 : PySem.Scope := lit (o := fScope (inCls (stAt 9) 3)) rfl
noncomputable abbrev p568 : PySem.Arguments := lit (o := fParams (inCls (stAt 9) 4)) rfl
noncomputable abbrev b568 : List PySem.Stmt := lit (o := fBody (inCls (stAt 9) 4)) rfl
noncomputable abbrev s568 : PySem.Scope := lit (o := fScope (inCls (stAt 9) 4)) rfl
noncomputable abbrev p575 : PySem.Arguments := lit (o := fParams (inCls (stAt 9) 5)) rfl
noncomputable abbrev b575 : List PySem.Stmt := lit (o := fBody (inCls (stAt 9) 5)) rfl
noncomputable abbrev s575 : PySem.Scope := lit (o := fScope (inCls (stAt 9) 5)) rfl
noncomputable abbrev p582 : PySem.Arguments := lit (o := fParams (inCls (stAt 9) 6)) rfl
noncomputable abbrev b582 : List PySem.Stmt := lit (o := fBody (inCls (stAt 9) 6)) rfl
noncomputable abbrev s582 : PySem.Scope := lit (o := fScope (inCls (stAt 9) 6)) rfl
noncomputable abbrev p587 : PySem.Arguments := lit (o := fParams (inCls (stAt 9) 7)) rfl
noncomputable abbrev b587 : List PySem.Stmt := lit (o := fBody (inCls (stAt 9) 7)) rfl
noncomputable abbrev s587 : PySem.Scope := lit (o := fScope (inCls (stAt 9) 7)) rfl
noncomputable abbrev p599 : PySem.Arguments := lit (o := fParams (stAt 11)) rfl
noncomputable abbrev b599 : List PySem.Stmt := lit (o := fBody (stAt 11)) rfl
noncomputable abbrev s599 : PySem.Scope := lit (o := fScope (stAt 11)) rfl
noncomputable abbrev p606 : PySem.Arguments := lit (o := fParams (stAt 12)) rfl
noncomputable abbrev b606 : List PySem.Stmt := lit (o := fBody (stAt 12)) rfl
noncomputable abbrev s606 : PySem.Scope := lit (o := fScope (stAt 12)) rfl
noncomputable abbrev p613 : PySem.Arguments := lit (o := fParams (stAt 13)) rfl
noncomputable abbrev b613 : List PySem.Stmt := lit (o := fBody (stAt 13)) rfl
noncomputable abbrev s613 : PySem.Scope := lit (o := fScope (stAt 13)) rfl
noncomputable abbrev p618 : PySem.Arguments := lit (o := fParams (stAt 14)) rfl
noncomputable abbrev b618 : List PySem.Stmt := lit (o := fBody (stAt 14)) rfl
noncomputable abbrev s618 : PySem.Scope := lit (o := fScope (stAt 14)) rfl
noncomputable abbrev p623 : PySem.Arguments := lit (o := fParams (stAt 15)) rfl
noncomputable abbrev b623 : List PySem.Stmt := lit (o := fBody (stAt 15)) rfl
noncomputable abbrev s623 : PySem.Scope := lit (o := fScope (stAt 15)) rfl
set_option maxHeartbeats 4000000 in
noncomputable def K (P : PySem.Params) : PySem.W.Frag := 
  (nat_lit 2, { cls := PySem.Value.none, data := PySem.Data.dict #[] }) ::
  (nat_lit 3, { cls := PySem.Value.type "dict", data := PySem.Data.dict #[{ hash := PySem.PyData.keyHash P (PySem.Str.ofString "__name__"), key := PySem.Value.str (PySem.Str.ofString "__name__") 165, val := PySem.Value.str (PySem.Str.ofString "law_bd0004_01") 934 }, { hash := PySem.PyData.keyHash P (PySem.Str.ofString "__doc__"), key := PySem.Value.str (PySem.Str.ofString "__doc__") 166, val := PySem.Value.none }, { hash := PySem.PyData.keyHash P (PySem.Str.ofString "__package__"), key := PySem.Value.str (PySem.Str.ofString "__package__") 167, val := PySem.Value.none }, { hash := PySem.PyData.keyHash P (PySem.Str.ofString "__loader__"), key := PySem.Value.str (PySem.Str.ofString "__loader__") 168, val := PySem.Value.builtin "__main__.__loader__#opaque" }, { hash := PySem.PyData.keyHash P (PySem.Str.ofString "__spec__"), key := PySem.Value.str (PySem.Str.ofString "__spec__") 169, val := PySem.Value.none }, { hash := PySem.PyData.keyHash P (PySem.Str.ofString "__annotations__"), key := PySem.Value.str (PySem.Str.ofString "__annotations__") 170, val := PySem.Value.ref 6 }, { hash := PySem.PyData.keyHash P (PySem.Str.ofString "__builtins__"), key := PySem.Value.str (PySem.Str.ofString "__builtins__") 171, val := PySem.Value.ref 4 }, { hash := PySem.PyData.keyHash P (PySem.Str.ofString "__file__"), key := PySem.Value.str (PySem.Str.ofString "__file__") 173, val := PySem.Value.str (PySem.Str.ofString "/claim/cut.py") 172 }, { hash := PySem.PyData.keyHash P (PySem.Str.ofString "__cached__"), key := PySem.Value.str (PySem.Str.ofString "__cached__") 174, val := PySem.Value.none }, { hash := PySem.PyData.keyHash P (PySem.Str.ofString "_wall"), key := PySem.Value.str (PySem.Str.ofString "_wall") 193, val := PySem.Value.ref 21 }, { hash := PySem.PyData.keyHash P (PySem.Str.ofString "PolynomialRingGeneric"), key := PySem.Value.str (PySem.Str.ofString "PolynomialRingGeneric") 256, val := PySem.Value.ref 66 }, { hash := PySem.PyData.keyHash P (PySem.Str.ofString "PolynomialGeneric"), key := PySem.Value.str (PySem.Str.ofString "PolynomialGeneric") 455, val := PySem.Value.ref 229 }, { hash := PySem.PyData.keyHash P (PySem.Str.ofString "Shake"), key := PySem.Value.str (PySem.Str.ofString "Shake") 525, val := PySem.Value.ref 278 }, { hash := PySem.PyData.keyHash P (PySem.Str.ofString "PolynomialRing"), key := PySem.Value.str (PySem.Str.ofString "PolynomialRing") 682, val := PySem.Value.ref 390 }, { hash := PySem.PyData.keyHash P (PySem.Str.ofString "Polynomial"), key := PySem.Value.str (PySem.Str.ofString "Polynomial") 853, val := PySem.Value.ref 526 }, { hash := PySem.PyData.keyHash P (PySem.Str.ofString "PolynomialNTT"), key := PySem.Value.str (PySem.Str.ofString "PolynomialNTT") 933, val := PySem.Value.ref 590 }, { hash := PySem.PyData.keyHash P (PySem.Str.ofString "_law_no_stream"), key := PySem.Value.str (PySem.Str.ofString "_law_no_stream") 943, val := PySem.Value.ref 599 }, { hash := PySem.PyData.keyHash P (PySem.Str.ofString "_law_signs"), key := PySem.Value.str (PySem.Str.ofString "_law_signs") 953, val := PySem.Value.ref 606 }, { hash := PySem.PyData.keyHash P (PySem.Str.ofString "_law_steps"), key := PySem.Value.str (PySem.Str.ofString "_law_steps") 967, val := PySem.Value.ref 613 }, { hash := PySem.PyData.keyHash P (PySem.Str.ofString "_law_stream"), key := PySem.Value.str (PySem.Str.ofString "_law_stream") 973, val := PySem.Value.ref 618 }, { hash := PySem.PyData.keyHash P (PySem.Str.ofString "law"), key := PySem.Value.str (PySem.Str.ofString "law") 979, val := PySem.Value.ref 623 }] 21 }) ::
  (nat_lit 15, { cls := PySem.Value.type "tuple", data := PySem.Data.seq #[] }) ::
  (nat_lit 17, { cls := PySem.Value.type "tuple", data := PySem.Data.seq #[PySem.Value.str (PySem.Str.ofString "k") 190] }) ::
  (nat_lit 18, { cls := PySem.Value.type "tuple", data := PySem.Data.seq #[] }) ::
  (nat_lit 20, { cls := PySem.Value.type "code", data := PySem.Data.fields #[PySem.Value.str (PySem.Str.ofString "_wall") 187, PySem.Value.str (PySem.Str.ofString "_wall") 188, PySem.Value.str (PySem.Str.ofString "/claim/cut.py") 189, PySem.Value.int 1 0, PySem.Value.int 1 0, PySem.Value.int 0 0, PySem.Value.int 0 0, PySem.Value.int 3 0, PySem.Value.ref 15, PySem.Value.bool Bool.true, PySem.Value.int 181 0, PySem.Value.ref 16, PySem.Value.none, PySem.Value.ref 17, PySem.Value.ref 18, PySem.Value.ref 19, PySem.Value.int 191 0, PySem.Value.int 1 0, PySem.Value.str (PySem.Str.ofString "/claim/cut.py") 192] }) ::
  (nat_lit 21, { cls := PySem.Value.type "function", data := PySem.Data.func { name := PySem.Str.ofString "_wall", qualname := PySem.Str.ofString "_wall", params := p21, body := PySem.FuncBody.stmts b21, scope := s21, globals := 3, closure := [], defaults := PySem.Value.none, kwdefaults := PySem.Value.none, pyModule := PySem.Value.str (PySem.Str.ofString "__main__") 164, code := PySem.Value.ref 20 } }) ::
  (nat_lit 29, { cls := PySem.Value.type "tuple", data := PySem.Data.seq #[] }) ::
  (nat_lit 31, { cls := PySem.Value.type "tuple", data := PySem.Data.seq #[PySem.Value.str (PySem.Str.ofString "self") 211, PySem.Value.str (PySem.Str.ofString "q") 212, PySem.Value.str (PySem.Str.ofString "n") 213] }) ::
  (nat_lit 32, { cls := PySem.Value.type "tuple", data := PySem.Data.seq #[] }) ::
  (nat_lit 34, { cls := PySem.Value.type "code", data := PySem.Data.fields #[PySem.Value.str (PySem.Str.ofString "__init__") 208, PySem.Value.str (PySem.Str.ofString "PolynomialRingGeneric.__init__") 209, PySem.Value.str (PySem.Str.ofString "/claim/cut.py") 210, PySem.Value.int 7 0, PySem.Value.int 3 0, PySem.Value.int 0 0, PySem.Value.int 0 0, PySem.Value.int 3 0, PySem.Value.ref 29, PySem.Value.bool Bool.true, PySem.Value.int 181 0, PySem.Value.ref 30, PySem.Value.none, PySem.Value.ref 31, PySem.Value.ref 32, PySem.Value.ref 33, PySem.Value.int 214 0, PySem.Value.int 7 0, PySem.Value.str (PySem.Str.ofString "/claim/cut.py") 215] }) ::
  (nat_lit 35, { cls := PySem.Value.type "function", data := PySem.Data.func { name := PySem.Str.ofString "__init__", qualname := PySem.Str.ofString "PolynomialRingGeneric.__init__", params := p35, body := PySem.FuncBody.stmts b35, scope := s35, globals := 3, closure := [], defaults := PySem.Value.none, kwdefaults := PySem.Value.none, pyModule := PySem.Value.str (PySem.Str.ofString "dilithium_py.polynomials.polynomials_generic") 194, code := PySem.Value.ref 34 } }) ::
  (nat_lit 36, { cls := PySem.Value.type "tuple", data := PySem.Data.seq #[] }) ::
  (nat_lit 38, { cls := PySem.Value.type "tuple", data := PySem.Data.seq #[PySem.Value.str (PySem.Str.ofString "self") 220] }) ::
  (nat_lit 39, { cls := PySem.Value.type "tuple", data := PySem.Data.seq #[] }) ::
  (nat_lit 41, { cls := PySem.Value.type "code", data := PySem.Data.fields #[PySem.Value.str (PySem.Str.ofString "zero") 217, PySem.Value.str (PySem.Str.ofString "PolynomialRingGeneric.zero") 218, PySem.Value.str (PySem.Str.ofString "/claim/cut.py") 219, PySem.Value.int 11 0, PySem.Value.int 1 0, PySem.Value.int 0 0, PySem.Value.int 0 0, PySem.Value.int 3 0, PySem.Value.ref 36, PySem.Value.bool Bool.true, PySem.Value.int 181 0, PySem.Value.ref 37, PySem.Value.none, PySem.Value.ref 38, PySem.Value.ref 39, PySem.Value.ref 40, PySem.Value.int 221 0, PySem.Value.int 11 0, PySem.Value.str (PySem.Str.ofString "/claim/cut.py") 222] }) ::
  (nat_lit 42, { cls := PySem.Value.type "function", data := PySem.Data.func { name := PySem.Str.ofString "zero", qualname := PySem.Str.ofString "PolynomialRingGeneric.zero", params := p42, body := PySem.FuncBody.stmts b42, scope := s42, globals := 3, closure := [], defaults := PySem.Value.none, kwdefaults := PySem.Value.none, pyModule := PySem.Value.str (PySem.Str.ofString "dilithium_py.polynomials.polynomials_generic") 194, code := PySem.Value.ref 41 } }) ::
  (nat_lit 43, { cls := PySem.Value.type "tuple", data := PySem.Data.seq #[] }) ::
  (nat_lit 45, { cls := PySem.Value.type "tuple", data := PySem.Data.seq #[PySem.Value.str (PySem.Str.ofString "self") 227] }) ::
  (nat_lit 46, { cls := PySem.Value.type "tuple", data := PySem.Data.seq #[] }) ::
  (nat_lit 48, { cls := PySem.Value.type "code", data := PySem.Data.fields #[PySem.Value.str (PySem.Str.ofString "gen") 224, PySem.Value.str (PySem.Str.ofString "PolynomialRingGeneric.gen") 225, PySem.Value.str (PySem.Str.ofString "/claim/cut.py") 226, PySem.Value.int 14 0, PySem.Value.int 1 0, PySem.Value.int 0 0, PySem.Value.int 0 0, PySem.Value.int 3 0, PySem.Value.ref 43, PySem.Value.bool Bool.true, PySem.Value.int 181 0, PySem.Value.ref 44, PySem.Value.none, PySem.Value.ref 45, PySem.Value.ref 46, PySem.Value.ref 47, PySem.Value.int 228 0, PySem.Value.int 14 0, PySem.Value.str (PySem.Str.ofString "/claim/cut.py") 229] }) ::
  (nat_lit 49, { cls := PySem.Value.type "function", data := PySem.Data.func { name := PySem.Str.ofString "gen", qualname := PySem.Str.ofString "PolynomialRingGeneric.gen", params := p49, body := PySem.FuncBody.stmts b49, scope := s49, globals := 3, closure := [], defaults := PySem.Value.none, kwdefaults := PySem.Value.none, pyModule := PySem.Value.str (PySem.Str.ofString "dilithium_py.polynomials.polynomials_generic") 194, code := PySem.Value.ref 48 } }) ::
  (nat_lit 50, { cls := PySem.Value.type "tuple", data := PySem.Data.seq #[] }) ::
  (nat_lit 52, { cls := PySem.Value.type "tuple", data := PySem.Data.seq #[PySem.Value.str (PySem.Str.ofString "self") 234, PySem.Value.str (PySem.Str.ofString "coefficients") 235] }) ::
  (nat_lit 53, { cls := PySem.Value.type "tuple", data := PySem.Data.seq #[] }) ::
  (nat_lit 55, { cls := PySem.Value.type "code", data := PySem.Data.fields #[PySem.Value.str (PySem.Str.ofString "__call__") 231, PySem.Value.str (PySem.Str.ofString "PolynomialRingGeneric.__call__") 232, PySem.Value.str (PySem.Str.ofString "/claim/cut.py") 233, PySem.Value.int 17 0, PySem.Value.int 2 0, PySem.Value.int 0 0, PySem.Value.int 0 0, PySem.Value.int 3 0, PySem.Value.ref 50, PySem.Value.bool Bool.true, PySem.Value.int 181 0, PySem.Value.ref 51, PySem.Value.none, PySem.Value.ref 52, PySem.Value.ref 53, PySem.Value.ref 54, PySem.Value.int 236 0, PySem.Value.int 17 0, PySem.Value.str (PySem.Str.ofString "/claim/cut.py") 237] }) ::
  (nat_lit 56, { cls := PySem.Value.type "function", data := PySem.Data.func { name := PySem.Str.ofString "__call__", qualname := PySem.Str.ofString "PolynomialRingGeneric.__call__", params := p56, body := PySem.FuncBody.stmts b56, scope := s56, globals := 3, closure := [], defaults := PySem.Value.none, kwdefaults := PySem.Value.none, pyModule := PySem.Value.str (PySem.Str.ofString "dilithium_py.polynomials.polynomials_generic") 194, code := PySem.Value.ref 55 } }) ::
  (nat_lit 57, { cls := PySem.Value.type "tuple", data := PySem.Data.seq #[] }) ::
  (nat_lit 59, { cls := PySem.Value.type "tuple", data := PySem.Data.seq #[PySem.Value.str (PySem.Str.ofString "self") 242, PySem.Value.str (PySem.Str.ofString "value") 243] }) ::
  (nat_lit 60, { cls := PySem.Value.type "tuple", data := PySem.Data.seq #[] }) ::
  (nat_lit 62, { cls := PySem.Value.type "code", data := PySem.Data.fields #[PySem.Value.str (PySem.Str.ofString "is_element") 239, PySem.Value.str (PySem.Str.ofString "PolynomialRingGeneric.is_element") 240, PySem.Value.str (PySem.Str.ofString "/claim/cut.py") 241, PySem.Value.int 24 0, PySem.Value.int 2 0, PySem.Value.int 0 0, PySem.Value.int 0 0, PySem.Value.int 3 0, PySem.Value.ref 57, PySem.Value.bool Bool.true, PySem.Value.int 181 0, PySem.Value.ref 58, PySem.Value.none, PySem.Value.ref 59, PySem.Value.ref 60, PySem.Value.ref 61, PySem.Value.int 244 0, PySem.Value.int 24 0, PySem.Value.str (PySem.Str.ofString "/claim/cut.py") 245] }) ::
  (nat_lit 63, { cls := PySem.Value.type "function", data := PySem.Data.func { name := PySem.Str.ofString "is_element", qualname := PySem.Str.ofString "PolynomialRingGeneric.is_element", params := p63, body := PySem.FuncBody.stmts b63, scope := s63, globals := 3, closure := [], defaults := PySem.Value.none, kwdefaults := PySem.Value.none, pyModule := PySem.Value.str (PySem.Str.ofString "dilithium_py.polynomials.polynomials_generic") 194, code := PySem.Value.ref 62 } }) ::
  (nat_lit 64, { cls := PySem.Value.type "tuple", data := PySem.Data.seq #[PySem.Value.str (PySem.Str.ofString "n") 247, PySem.Value.str (PySem.Str.ofString "q") 248] }) ::
  (nat_lit 65, { cls := PySem.Value.type "dict", data := PySem.Data.dict #[{ hash := PySem.PyData.keyHash P (PySem.Str.ofString "__module__"), key := PySem.Value.str (PySem.Str.ofString "__module__") 203, val := PySem.Value.str (PySem.Str.ofString "dilithium_py.polynomials.polynomials_generic") 194 }, { hash := PySem.PyData.keyHash P (PySem.Str.ofString "__firstlineno__"), key := PySem.Value.str (PySem.Str.ofString "__firstlineno__") 207, val := PySem.Value.int 5 206 }, { hash := PySem.PyData.keyHash P (PySem.Str.ofString "__init__"), key := PySem.Value.str (PySem.Str.ofString "__init__") 216, val := PySem.Value.ref 35 }, { hash := PySem.PyData.keyHash P (PySem.Str.ofString "zero"), key := PySem.Value.str (PySem.Str.ofString "zero") 223, val := PySem.Value.ref 42 }, { hash := PySem.PyData.keyHash P (PySem.Str.ofString "gen"), key := PySem.Value.str (PySem.Str.ofString "gen") 230, val := PySem.Value.ref 49 }, { hash := PySem.PyData.keyHash P (PySem.Str.ofString "__call__"), key := PySem.Value.str (PySem.Str.ofString "__call__") 238, val := PySem.Value.ref 56 }, { hash := PySem.PyData.keyHash P (PySem.Str.ofString "is_element"), key := PySem.Value.str (PySem.Str.ofString "is_element") 246, val := PySem.Value.ref 63 }, { hash := PySem.PyData.keyHash P (PySem.Str.ofString "__static_attributes__"), key := PySem.Value.str (PySem.Str.ofString "__static_attributes__") 249, val := PySem.Value.ref 64 }, { hash := PySem.PyData.keyHash P (PySem.Str.ofString "__dict__"), key := PySem.Value.str (PySem.Str.ofString "__dict__") 251, val := PySem.Value.ref 67 }, { hash := PySem.PyData.keyHash P (PySem.Str.ofString "__weakref__"), key := PySem.Value.str (PySem.Str.ofString "__weakref__") 253, val := PySem.Value.ref 68 }, { hash := PySem.PyData.keyHash P (PySem.Str.ofString "__doc__"), key := PySem.Value.str (PySem.Str.ofString "__doc__") 254, val := PySem.Value.none }] 4 }) ::
  (nat_lit 66, { cls := PySem.Value.type "type", data := PySem.Data.cls { name := PySem.Str.ofString "PolynomialRingGeneric", bases := [PySem.Value.type "object"], mro := [PySem.Value.ref 66, PySem.Value.type "object"], ns := 65, qualname := PySem.Str.ofString "PolynomialRingGeneric", subclasses := [PySem.Value.ref 390] }, slots := #[Option.none, Option.none, Option.some (PySem.Value.str (PySem.Str.ofString "PolynomialRingGeneric") 196), Option.some (PySem.Value.str (PySem.Str.ofString "PolynomialRingGeneric") 204), Option.some (PySem.Value.builtin "object.__new__"), Option.some (PySem.Value.bool Bool.true)] }) ::
  (nat_lit 67, { cls := PySem.Value.type "getset_descriptor", data := PySem.Data.fields #[PySem.Value.str (PySem.Str.ofString "__dict__") 250, PySem.Value.ref 66, PySem.Value.builtin "function.__dict__", PySem.Value.builtin "function.__dict__#set"] }) ::
  (nat_lit 68, { cls := PySem.Value.type "getset_descriptor", data := PySem.Data.fields #[PySem.Value.str (PySem.Str.ofString "__weakref__") 252, PySem.Value.ref 66, PySem.Value.builtin "ExceptionGroup.__weakref__", PySem.Value.none] }) ::
  (nat_lit 78, { cls := PySem.Value.type "tuple", data := PySem.Data.seq #[] }) ::
  (nat_lit 80, { cls := PySem.Value.type "tuple", data := PySem.Data.seq #[PySem.Value.str (PySem.Str.ofString "self") 272, PySem.Value.str (PySem.Str.ofString "parent") 273, PySem.Value.str (PySem.Str.ofString "coefficients") 274] }) ::
  (nat_lit 81, { cls := PySem.Value.type "tuple", data := PySem.Data.seq #[] }) ::
  (nat_lit 83, { cls := PySem.Value.type "code", data := PySem.Data.fields #[PySem.Value.str (PySem.Str.ofString "__init__") 269, PySem.Value.str (PySem.Str.ofString "PolynomialGeneric.__init__") 270, PySem.Value.str (PySem.Str.ofString "/claim/cut.py") 271, PySem.Value.int 28 0, PySem.Value.int 3 0, PySem.Value.int 0 0, PySem.Value.int 0 0, PySem.Value.int 3 0, PySem.Value.ref 78, PySem.Value.bool Bool.true, PySem.Value.int 181 0, PySem.Value.ref 79, PySem.Value.none, PySem.Value.ref 80, PySem.Value.ref 81, PySem.Value.ref 82, PySem.Value.int 275 0, PySem.Value.int 28 0, PySem.Value.str (PySem.Str.ofString "/claim/cut.py") 276] }) ::
  (nat_lit 84, { cls := PySem.Value.type "function", data := PySem.Data.func { name := PySem.Str.ofString "__init__", qualname := PySem.Str.ofString "PolynomialGeneric.__init__", params := p84, body := PySem.FuncBody.stmts b84, scope := s84, globals := 3, closure := [], defaults := PySem.Value.none, kwdefaults := PySem.Value.none, pyModule := PySem.Value.str (PySem.Str.ofString "dilithium_py.polynomials.polynomials_generic") 194, code := PySem.Value.ref 83 } }) ::
  (nat_lit 85, { cls := PySem.Value.type "tuple", data := PySem.Data.seq #[] }) ::
  (nat_lit 87, { cls := PySem.Value.type "tuple", data := PySem.Data.seq #[PySem.Value.str (PySem.Str.ofString "self") 281] }) ::
  (nat_lit 88, { cls := PySem.Value.type "tuple", data := PySem.Data.seq #[] }) ::
  (nat_lit 90, { cls := PySem.Value.type "code", data := PySem.Data.fields #[PySem.Value.str (PySem.Str.ofString "is_zero") 278, PySem.Value.str (PySem.Str.ofString "PolynomialGeneric.is_zero") 279, PySem.Value.str (PySem.Str.ofString "/claim/cut.py") 280, PySem.Value.int 32 0, PySem.Value.int 1 0, PySem.Value.int 0 0, PySem.Value.int 0 0, PySem.Value.int 3 0, PySem.Value.ref 85, PySem.Value.bool Bool.true, PySem.Value.int 181 0, PySem.Value.ref 86, PySem.Value.none, PySem.Value.ref 87, PySem.Value.ref 88, PySem.Value.ref 89, PySem.Value.int 282 0, PySem.Value.int 32 0, PySem.Value.str (PySem.Str.ofString "/claim/cut.py") 283] }) ::
  (nat_lit 91, { cls := PySem.Value.type "function", data := PySem.Data.func { name := PySem.Str.ofString "is_zero", qualname := PySem.Str.ofString "PolynomialGeneric.is_zero", params := p91, body := PySem.FuncBody.stmts b91, scope := s91, globals := 3, closure := [], defaults := PySem.Value.none, kwdefaults := PySem.Value.none, pyModule := PySem.Value.str (PySem.Str.ofString "dilithium_py.polynomials.polynomials_generic") 194, code := PySem.Value.ref 90 } }) ::
  (nat_lit 92, { cls := PySem.Value.type "tuple", data := PySem.Data.seq #[] }) ::
  (nat_lit 94, { cls := PySem.Value.type "tuple", data := PySem.Data.seq #[PySem.Value.str (PySem.Str.ofString "self") 288] }) ::
  (nat_lit 95, { cls := PySem.Value.type "tuple", data := PySem.Data.seq #[] }) ::
  (nat_lit 97, { cls := PySem.Value.type "code", data := PySem.Data.fields #[PySem.Value.str (PySem.Str.ofString "is_constant") 285, PySem.Value.str (PySem.Str.ofString "PolynomialGeneric.is_constant") 286, PySem.Value.str (PySem.Str.ofString "/claim/cut.py") 287, PySem.Value.int 35 0, PySem.Value.int 1 0, PySem.Value.int 0 0, PySem.Value.int 0 0, PySem.Value.int 3 0, PySem.Value.ref 92, PySem.Value.bool Bool.true, PySem.Value.int 181 0, PySem.Value.ref 93, PySem.Value.none, PySem.Value.ref 94, PySem.Value.ref 95, PySem.Value.ref 96, PySem.Value.int 289 0, PySem.Value.int 35 0, PySem.Value.str (PySem.Str.ofString "/claim/cut.py") 290] }) ::
  (nat_lit 98, { cls := PySem.Value.type "function", data := PySem.Data.func { name := PySem.Str.ofString "is_constant", qualname := PySem.Str.ofString "PolynomialGeneric.is_constant", params := p98, body := PySem.FuncBody.stmts b98, scope := s98, globals := 3, closure := [], defaults := PySem.Value.none, kwdefaults := PySem.Value.none, pyModule := PySem.Value.str (PySem.Str.ofString "dilithium_py.polynomials.polynomials_generic") 194, code := PySem.Value.ref 97 } }) ::
  (nat_lit 99, { cls := PySem.Value.type "tuple", data := PySem.Data.seq #[] }) ::
  (nat_lit 102, { cls := PySem.Value.type "code", data := PySem.Data.fields #[PySem.Value.str (PySem.Str.ofString "_parse_coefficients") 292, PySem.Value.str (PySem.Str.ofString "PolynomialGeneric._parse_coefficients") 293, PySem.Value.str (PySem.Str.ofString "/claim/cut.py") 294, PySem.Value.int 38 0, PySem.Value.int 2 0, PySem.Value.int 0 0, PySem.Value.int 0 0, PySem.Value.int 3 0, PySem.Value.ref 99, PySem.Value.bool Bool.true, PySem.Value.int 181 0, PySem.Value.ref 100, PySem.Value.none, PySem.Value.none, PySem.Value.none, PySem.Value.ref 101, PySem.Value.int 295 0, PySem.Value.int 38 0, PySem.Value.str (PySem.Str.ofString "/claim/cut.py") 296] }) ::
  (nat_lit 103, { cls := PySem.Value.type "function", data := PySem.Data.func { name := PySem.Str.ofString "_parse_coefficients", qualname := PySem.Str.ofString "PolynomialGeneric._parse_coefficients", params := p103, body := PySem.FuncBody.stmts b103, scope := s103, globals := 3, closure := [], defaults := PySem.Value.none, kwdefaults := PySem.Value.none, pyModule := PySem.Value.str (PySem.Str.ofString "dilithium_py.polynomials.polynomials_generic") 194, code := PySem.Value.ref 102 } }) ::
  (nat_lit 104, { cls := PySem.Value.type "tuple", data := PySem.Data.seq #[] }) ::
  (nat_lit 106, { cls := PySem.Value.type "tuple", data := PySem.Data.seq #[PySem.Value.str (PySem.Str.ofString "self") 301] }) ::
  (nat_lit 107, { cls := PySem.Value.type "tuple", data := PySem.Data.seq #[] }) ::
  (nat_lit 109, { cls := PySem.Value.type "code", data := PySem.Data.fields #[PySem.Value.str (PySem.Str.ofString "reduce_coefficients") 298, PySem.Value.str (PySem.Str.ofString "PolynomialGeneric.reduce_coefficients") 299, PySem.Value.str (PySem.Str.ofString "/claim/cut.py") 300, PySem.Value.int 46 0, PySem.Value.int 1 0, PySem.Value.int 0 0, PySem.Value.int 0 0, PySem.Value.int 3 0, PySem.Value.ref 104, PySem.Value.bool Bool.true, PySem.Value.int 181 0, PySem.Value.ref 105, PySem.Value.none, PySem.Value.ref 106, PySem.Value.ref 107, PySem.Value.ref 108, PySem.Value.int 302 0, PySem.Value.int 46 0, PySem.Value.str (PySem.Str.ofString "/claim/cut.py") 303] }) ::
  (nat_lit 110, { cls := PySem.Value.type "function", data := PySem.Data.func { name := PySem.Str.ofString "reduce_coefficients", qualname := PySem.Str.ofString "PolynomialGeneric.reduce_coefficients", params := p110, body := PySem.FuncBody.stmts b110, scope := s110, globals := 3, closure := [], defaults := PySem.Value.none, kwdefaults := PySem.Value.none, pyModule := PySem.Value.str (PySem.Str.ofString "dilithium_py.polynomials.polynomials_generic") 194, code := PySem.Value.ref 109 } }) ::
  (nat_lit 111, { cls := PySem.Value.type "tuple", data := PySem.Data.seq #[] }) ::
  (nat_lit 113, { cls := PySem.Value.type "tuple", data := PySem.Data.seq #[PySem.Value.str (PySem.Str.ofString "self") 308, PySem.Value.str (PySem.Str.ofString "x") 309, PySem.Value.str (PySem.Str.ofString "y") 310] }) ::
  (nat_lit 114, { cls := PySem.Value.type "tuple", data := PySem.Data.seq #[] }) ::
  (nat_lit 116, { cls := PySem.Value.type "code", data := PySem.Data.fields #[PySem.Value.str (PySem.Str.ofString "_add_mod_q") 305, PySem.Value.str (PySem.Str.ofString "PolynomialGeneric._add_mod_q") 306, PySem.Value.str (PySem.Str.ofString "/claim/cut.py") 307, PySem.Value.int 49 0, PySem.Value.int 3 0, PySem.Value.int 0 0, PySem.Value.int 0 0, PySem.Value.int 3 0, PySem.Value.ref 111, PySem.Value.bool Bool.true, PySem.Value.int 181 0, PySem.Value.ref 112, PySem.Value.none, PySem.Value.ref 113, PySem.Value.ref 114, PySem.Value.ref 115, PySem.Value.int 311 0, PySem.Value.int 49 0, PySem.Value.str (PySem.Str.ofString "/claim/cut.py") 312] }) ::
  (nat_lit 117, { cls := PySem.Value.type "function", data := PySem.Data.func { name := PySem.Str.ofString "_add_mod_q", qualname := PySem.Str.ofString "PolynomialGeneric._add_mod_q", params := p117, body := PySem.FuncBody.stmts b117, scope := s117, globals := 3, closure := [], defaults := PySem.Value.none, kwdefaults := PySem.Value.none, pyModule := PySem.Value.str (PySem.Str.ofString "dilithium_py.polynomials.polynomials_generic") 194, code := PySem.Value.ref 116 } }) ::
  (nat_lit 118, { cls := PySem.Value.type "tuple", data := PySem.Data.seq #[] }) ::
  (nat_lit 120, { cls := PySem.Value.type "tuple", data := PySem.Data.seq #[PySem.Value.str (PySem.Str.ofString "self") 317, PySem.Value.str (PySem.Str.ofString "x") 318, PySem.Value.str (PySem.Str.ofString "y") 319] }) ::
  (nat_lit 121, { cls := PySem.Value.type "tuple", data := PySem.Data.seq #[] }) ::
  (nat_lit 123, { cls := PySem.Value.type "code", data := PySem.Data.fields #[PySem.Value.str (PySem.Str.ofString "_sub_mod_q") 314, PySem.Value.str (PySem.Str.ofString "PolynomialGeneric._sub_mod_q") 315, PySem.Value.str (PySem.Str.ofString "/claim/cut.py") 316, PySem.Value.int 52 0, PySem.Value.int 3 0, PySem.Value.int 0 0, PySem.Value.int 0 0, PySem.Value.int 3 0, PySem.Value.ref 118, PySem.Value.bool Bool.true, PySem.Value.int 181 0, PySem.Value.ref 119, PySem.Value.none, PySem.Value.ref 120, PySem.Value.ref 121, PySem.Value.ref 122, PySem.Value.int 320 0, PySem.Value.int 52 0, PySem.Value.str (PySem.Str.ofString "/claim/cut.py") 321] }) ::
  (nat_lit 124, { cls := PySem.Value.type "function", data := PySem.Data.func { name := PySem.Str.ofString "_sub_mod_q", qualname := PySem.Str.ofString "PolynomialGeneric._sub_mod_q", params := p124, body := PySem.FuncBody.stmts b124, scope := s124, globals := 3, closure := [], defaults := PySem.Value.none, kwdefaults := PySem.Value.none, pyModule := PySem.Value.str (PySem.Str.ofString "dilithium_py.polynomials.polynomials_generic") 194, code := PySem.Value.ref 123 } }) ::
  (nat_lit 125, { cls := PySem.Value.type "tuple", data := PySem.Data.seq #[] }) ::
  (nat_lit 128, { cls := PySem.Value.type "code", data := PySem.Data.fields #[PySem.Value.str (PySem.Str.ofString "_schoolbook_multiplication") 323, PySem.Value.str (PySem.Str.ofString "PolynomialGeneric._schoolbook_multiplication") 324, PySem.Value.str (PySem.Str.ofString "/claim/cut.py") 325, PySem.Value.int 55 0, PySem.Value.int 2 0, PySem.Value.int 0 0, PySem.Value.int 0 0, PySem.Value.int 3 0, PySem.Value.ref 125, PySem.Value.bool Bool.true, PySem.Value.int 181 0, PySem.Value.ref 126, PySem.Value.none, PySem.Value.none, PySem.Value.none, PySem.Value.ref 127, PySem.Value.int 326 0, PySem.Value.int 55 0, PySem.Value.str (PySem.Str.ofString "/claim/cut.py") 327] }) ::
  (nat_lit 129, { cls := PySem.Value.type "function", data := PySem.Data.func { name := PySem.Str.ofString "_schoolbook_multiplication", qualname := PySem.Str.ofString "PolynomialGeneric._schoolbook_multiplication", params := p129, body := PySem.FuncBody.stmts b129, scope := s129, globals := 3, closure := [], defaults := PySem.Value.none, kwdefaults := PySem.Value.none, pyModule := PySem.Value.str (PySem.Str.ofString "dilithium_py.polynomials.polynomials_generic") 194, code := PySem.Value.ref 128 } }) ::
  (nat_lit 130, { cls := PySem.Value.type "tuple", data := PySem.Data.seq #[] }) ::
  (nat_lit 133, { cls := PySem.Value.type "code", data := PySem.Data.fields #[PySem.Value.str (PySem.Str.ofString "__neg__") 329, PySem.Value.str (PySem.Str.ofString "PolynomialGeneric.__neg__") 330, PySem.Value.str (PySem.Str.ofString "/claim/cut.py") 331, PySem.Value.int 68 0, PySem.Value.int 1 0, PySem.Value.int 0 0, PySem.Value.int 0 0, PySem.Value.int 3 0, PySem.Value.ref 130, PySem.Value.bool Bool.true, PySem.Value.int 181 0, PySem.Value.ref 131, PySem.Value.none, PySem.Value.none, PySem.Value.none, PySem.Value.ref 132, PySem.Value.int 332 0, PySem.Value.int 68 0, PySem.Value.str (PySem.Str.ofString "/claim/cut.py") 333] }) ::
  (nat_lit 134, { cls := PySem.Value.type "function", data := PySem.Data.func { name := PySem.Str.ofString "__neg__", qualname := PySem.Str.ofString "PolynomialGeneric.__neg__", params := p134, body := PySem.FuncBody.stmts b134, scope := s134, globals := 3, closure := [], defaults := PySem.Value.none, kwdefaults := PySem.Value.none, pyModule := PySem.Value.str (PySem.Str.ofString "dilithium_py.polynomials.polynomials_generic") 194, code := PySem.Value.ref 133 } }) ::
  (nat_lit 135, { cls := PySem.Value.type "tuple", data := PySem.Data.seq #[] }) ::
  (nat_lit 138, { cls := PySem.Value.type "code", data := PySem.Data.fields #[PySem.Value.str (PySem.Str.ofString "_add_") 335, PySem.Value.str (PySem.Str.ofString "PolynomialGeneric._add_") 336, PySem.Value.str (PySem.Str.ofString "/claim/cut.py") 337, PySem.Value.int 72 0, PySem.Value.int 2 0, PySem.Value.int 0 0, PySem.Value.int 0 0, PySem.Value.int 3 0, PySem.Value.ref 135, PySem.Value.bool Bool.true, PySem.Value.int 181 0, PySem.Value.ref 136, PySem.Value.none, PySem.Value.none, PySem.Value.none, PySem.Value.ref 137, PySem.Value.int 338 0, PySem.Value.int 72 0, PySem.Value.str (PySem.Str.ofString "/claim/cut.py") 339] }) ::
  (nat_lit 139, { cls := PySem.Value.type "function", data := PySem.Data.func { name := PySem.Str.ofString "_add_", qualname := PySem.Str.ofString "PolynomialGeneric._add_", params := p139, body := PySem.FuncBody.stmts b139, scope := s139, globals := 3, closure := [], defaults := PySem.Value.none, kwdefaults := PySem.Value.none, pyModule := PySem.Value.str (PySem.Str.ofString "dilithium_py.polynomials.polynomials_generic") 194, code := PySem.Value.ref 138 } }) ::
  (nat_lit 140, { cls := PySem.Value.type "tuple", data := PySem.Data.seq #[] }) ::
  (nat_lit 142, { cls := PySem.Value.type "tuple", data := PySem.Data.seq #[PySem.Value.str (PySem.Str.ofString "self") 344, PySem.Value.str (PySem.Str.ofString "other") 345, PySem.Value.str (PySem.Str.ofString "new_coeffs") 346] }) ::
  (nat_lit 143, { cls := PySem.Value.type "tuple", data := PySem.Data.seq #[] }) ::
  (nat_lit 145, { cls := PySem.Value.type "code", data := PySem.Data.fields #[PySem.Value.str (PySem.Str.ofString "__add__") 341, PySem.Value.str (PySem.Str.ofString "PolynomialGeneric.__add__") 342, PySem.Value.str (PySem.Str.ofString "/claim/cut.py") 343, PySem.Value.int 82 0, PySem.Value.int 2 0, PySem.Value.int 0 0, PySem.Value.int 0 0, PySem.Value.int 3 0, PySem.Value.ref 140, PySem.Value.bool Bool.true, PySem.Value.int 181 0, PySem.Value.ref 141, PySem.Value.none, PySem.Value.ref 142, PySem.Value.ref 143, PySem.Value.ref 144, PySem.Value.int 347 0, PySem.Value.int 82 0, PySem.Value.str (PySem.Str.ofString "/claim/cut.py") 348] }) ::
  (nat_lit 146, { cls := PySem.Value.type "function", data := PySem.Data.func { name := PySem.Str.ofString "__add__", qualname := PySem.Str.ofString "PolynomialGeneric.__add__", params := p146, body := PySem.FuncBody.stmts b146, scope := s146, globals := 3, closure := [], defaults := PySem.Value.none, kwdefaults := PySem.Value.none, pyModule := PySem.Value.str (PySem.Str.ofString "dilithium_py.polynomials.polynomials_generic") 194, code := PySem.Value.ref 145 } }) ::
  (nat_lit 147, { cls := PySem.Value.type "tuple", data := PySem.Data.seq #[] }) ::
  (nat_lit 149, { cls := PySem.Value.type "tuple", data := PySem.Data.seq #[PySem.Value.str (PySem.Str.ofString "self") 353, PySem.Value.str (PySem.Str.ofString "other") 354] }) ::
  (nat_lit 150, { cls := PySem.Value.type "tuple", data := PySem.Data.seq #[] }) ::
  (nat_lit 152, { cls := PySem.Value.type "code", data := PySem.Data.fields #[PySem.Value.str (PySem.Str.ofString "__radd__") 350, PySem.Value.str (PySem.Str.ofString "PolynomialGeneric.__radd__") 351, PySem.Value.str (PySem.Str.ofString "/claim/cut.py") 352, PySem.Value.int 86 0, PySem.Value.int 2 0, PySem.Value.int 0 0, PySem.Value.int 0 0, PySem.Value.int 3 0, PySem.Value.ref 147, PySem.Value.bool Bool.true, PySem.Value.int 181 0, PySem.Value.ref 148, PySem.Value.none, PySem.Value.ref 149, PySem.Value.ref 150, PySem.Value.ref 151, PySem.Value.int 355 0, PySem.Value.int 86 0, PySem.Value.str (PySem.Str.ofString "/claim/cut.py") 356] }) ::
  (nat_lit 153, { cls := PySem.Value.type "function", data := PySem.Data.func { name := PySem.Str.ofString "__radd__", qualname := PySem.Str.ofString "PolynomialGeneric.__radd__", params := p153, body := PySem.FuncBody.stmts b153, scope := s153, globals := 3, closure := [], defaults := PySem.Value.none, kwdefaults := PySem.Value.none, pyModule := PySem.Value.str (PySem.Str.ofString "dilithium_py.polynomials.polynomials_generic") 194, code := PySem.Value.ref 152 } }) ::
  (nat_lit 154, { cls := PySem.Value.type "tuple", data := PySem.Data.seq #[] }) ::
  (nat_lit 156, { cls := PySem.Value.type "tuple", data := PySem.Data.seq #[PySem.Value.str (PySem.Str.ofString "self") 361, PySem.Value.str (PySem.Str.ofString "other") 362] }) ::
  (nat_lit 157, { cls := PySem.Value.type "tuple", data := PySem.Data.seq #[] }) ::
  (nat_lit 159, { cls := PySem.Value.type "code", data := PySem.Data.fields #[PySem.Value.str (PySem.Str.ofString "__iadd__") 358, PySem.Value.str (PySem.Str.ofString "PolynomialGeneric.__iadd__") 359, PySem.Value.str (PySem.Str.ofString "/claim/cut.py") 360, PySem.Value.int 89 0, PySem.Value.int 2 0, PySem.Value.int 0 0, PySem.Value.int 0 0, PySem.Value.int 3 0, PySem.Value.ref 154, PySem.Value.bool Bool.true, PySem.Value.int 181 0, PySem.Value.ref 155, PySem.Value.none, PySem.Value.ref 156, PySem.Value.ref 157, PySem.Value.ref 158, PySem.Value.int 363 0, PySem.Value.int 89 0, PySem.Value.str (PySem.Str.ofString "/claim/cut.py") 364] }) ::
  (nat_lit 160, { cls := PySem.Value.type "function", data := PySem.Data.func { name := PySem.Str.ofString "__iadd__", qualname := PySem.Str.ofString "PolynomialGeneric.__iadd__", params := p160, body := PySem.FuncBody.stmts b160, scope := s160, globals := 3, closure := [], defaults := PySem.Value.none, kwdefaults := PySem.Value.none, pyModule := PySem.Value.str (PySem.Str.ofString "dilithium_py.polynomials.polynomials_generic") 194, code := PySem.Value.ref 159 } }) ::
  (nat_lit 161, { cls := PySem.Value.type "tuple", data := PySem.Data.seq #[] }) ::
  (nat_lit 164, { cls := PySem.Value.type "code", data := PySem.Data.fields #[PySem.Value.str (PySem.Str.ofString "_sub_") 366, PySem.Value.str (PySem.Str.ofString "PolynomialGeneric._sub_") 367, PySem.Value.str (PySem.Str.ofString "/claim/cut.py") 368, PySem.Value.int 92 0, PySem.Value.int 2 0, PySem.Value.int 0 0, PySem.Value.int 0 0, PySem.Value.int 3 0, PySem.Value.ref 161, PySem.Value.bool Bool.true, PySem.Value.int 181 0, PySem.Value.ref 162, PySem.Value.none, PySem.Value.none, PySem.Value.none, PySem.Value.ref 163, PySem.Value.int 369 0, PySem.Value.int 92 0, PySem.Value.str (PySem.Str.ofString "/claim/cut.py") 370] }) ::
  (nat_lit 165, { cls := PySem.Value.type "function", data := PySem.Data.func { name := PySem.Str.ofString "_sub_", qualname := PySem.Str.ofString "PolynomialGeneric._sub_", params := p165, body := PySem.FuncBody.stmts b165, scope := s165, globals := 3, closure := [], defaults := PySem.Value.none, kwdefaults := PySem.Value.none, pyModule := PySem.Value.str (PySem.Str.ofString "dilithium_py.polynomials.polynomials_generic") 194, code := PySem.Value.ref 164 } }) ::
  (nat_lit 166, { cls := PySem.Value.type "tuple", data := PySem.Data.seq #[] }) ::
  (nat_lit 168, { cls := PySem.Value.type "tuple", data := PySem.Data.seq #[PySem.Value.str (PySem.Str.ofString "self") 375, PySem.Value.str (PySem.Str.ofString "other") 376, PySem.Value.str (PySem.Str.ofString "new_coeffs") 377] }) ::
  (nat_lit 169, { cls := PySem.Value.type "tuple", data := PySem.Data.seq #[] }) ::
  (nat_lit 171, { cls := PySem.Value.type "code", data := PySem.Data.fields #[PySem.Value.str (PySem.Str.ofString "__sub__") 372, PySem.Value.str (PySem.Str.ofString "PolynomialGeneric.__sub__") 373, PySem.Value.str (PySem.Str.ofString "/claim/cut.py") 374, PySem.Value.int 102 0, PySem.Value.int 2 0, PySem.Value.int 0 0, PySem.Value.int 0 0, PySem.Value.int 3 0, PySem.Value.ref 166, PySem.Value.bool Bool.true, PySem.Value.int 181 0, PySem.Value.ref 167, PySem.Value.none, PySem.Value.ref 168, PySem.Value.ref 169, PySem.Value.ref 170, PySem.Value.int 378 0, PySem.Value.int 102 0, PySem.Value.str (PySem.Str.ofString "/claim/cut.py") 379] }) ::
  (nat_lit 172, { cls := PySem.Value.type "function", data := PySem.Data.func { name := PySem.Str.ofString "__sub__", qualname := PySem.Str.ofString "PolynomialGeneric.__sub__", params := p172, body := PySem.FuncBody.stmts b172, scope := s172, globals := 3, closure := [], defaults := PySem.Value.none, kwdefaults := PySem.Value.none, pyModule := PySem.Value.str (PySem.Str.ofString "dilithium_py.polynomials.polynomials_generic") 194, code := PySem.Value.ref 171 } }) ::
  (nat_lit 173, { cls := PySem.Value.type "tuple", data := PySem.Data.seq #[] }) ::
  (nat_lit 175, { cls := PySem.Value.type "tuple", data := PySem.Data.seq #[PySem.Value.str (PySem.Str.ofString "self") 384, PySem.Value.str (PySem.Str.ofString "other") 385] }) ::
  (nat_lit 176, { cls := PySem.Value.type "tuple", data := PySem.Data.seq #[] }) ::
  (nat_lit 178, { cls := PySem.Value.type "code", data := PySem.Data.fields #[PySem.Value.str (PySem.Str.ofString "__rsub__") 381, PySem.Value.str (PySem.Str.ofString "PolynomialGeneric.__rsub__") 382, PySem.Value.str (PySem.Str.ofString "/claim/cut.py") 383, PySem.Value.int 106 0, PySem.Value.int 2 0, PySem.Value.int 0 0, PySem.Value.int 0 0, PySem.Value.int 3 0, PySem.Value.ref 173, PySem.Value.bool Bool.true, PySem.Value.int 181 0, PySem.Value.ref 174, PySem.Value.none, PySem.Value.ref 175, PySem.Value.ref 176, PySem.Value.ref 177, PySem.Value.int 386 0, PySem.Value.int 106 0, PySem.Value.str (PySem.Str.ofString "/claim/cut.py") 387] }) ::
  (nat_lit 179, { cls := PySem.Value.type "function", data := PySem.Data.func { name := PySem.Str.ofString "__rsub__", qualname := PySem.Str.ofString "PolynomialGeneric.__rsub__", params := p179, body := PySem.FuncBody.stmts b179, scope := s179, globals := 3, closure := [], defaults := PySem.Value.none, kwdefaults := PySem.Value.none, pyModule := PySem.Value.str (PySem.Str.ofString "dilithium_py.polynomials.polynomials_generic") 194, code := PySem.Value.ref 178 } }) ::
  (nat_lit 180, { cls := PySem.Value.type "tuple", data := PySem.Data.seq #[] }) ::
  (nat_lit 182, { cls := PySem.Value.type "tuple", data := PySem.Data.seq #[PySem.Value.str (PySem.Str.ofString "self") 392, PySem.Value.str (PySem.Str.ofString "other") 393] }) ::
  (nat_lit 183, { cls := PySem.Value.type "tuple", data := PySem.Data.seq #[] }) ::
  (nat_lit 185, { cls := PySem.Value.type "code", data := PySem.Data.fields #[PySem.Value.str (PySem.Str.ofString "__isub__") 389, PySem.Value.str (PySem.Str.ofString "PolynomialGeneric.__isub__") 390, PySem.Value.str (PySem.Str.ofString "/claim/cut.py") 391, PySem.Value.int 109 0, PySem.Value.int 2 0, PySem.Value.int 0 0, PySem.Value.int 0 0, PySem.Value.int 3 0, PySem.Value.ref 180, PySem.Value.bool Bool.true, PySem.Value.int 181 0, PySem.Value.ref 181, PySem.Value.none, PySem.Value.ref 182, PySem.Value.ref 183, PySem.Value.ref 184, PySem.Value.int 394 0, PySem.Value.int 109 0, PySem.Value.str (PySem.Str.ofString "/claim/cut.py") 395] }) ::
  (nat_lit 186, { cls := PySem.Value.type "function", data := PySem.Data.func { name := PySem.Str.ofString "__isub__", qualname := PySem.Str.ofString "PolynomialGeneric.__isub__", params := p186, body := PySem.FuncBody.stmts b186, scope := s186, globals := 3, closure := [], defaults := PySem.Value.none, kwdefaults := PySem.Value.none, pyModule := PySem.Value.str (PySem.Str.ofString "dilithium_py.polynomials.polynomials_generic") 194, code := PySem.Value.ref 185 } }) ::
  (nat_lit 187, { cls := PySem.Value.type "tuple", data := PySem.Data.seq #[] }) ::
  (nat_lit 190, { cls := PySem.Value.type "code", data := PySem.Data.fields #[PySem.Value.str (PySem.Str.ofString "__mul__") 397, PySem.Value.str (PySem.Str.ofString "PolynomialGeneric.__mul__") 398, PySem.Value.str (PySem.Str.ofString "/claim/cut.py") 399, PySem.Value.int 112 0, PySem.Value.int 2 0, PySem.Value.int 0 0, PySem.Value.int 0 0, PySem.Value.int 3 0, PySem.Value.ref 187, PySem.Value.bool Bool.true, PySem.Value.int 181 0, PySem.Value.ref 188, PySem.Value.none, PySem.Value.none, PySem.Value.none, PySem.Value.ref 189, PySem.Value.int 400 0, PySem.Value.int 112 0, PySem.Value.str (PySem.Str.ofString "/claim/cut.py") 401] }) ::
  (nat_lit 191, { cls := PySem.Value.type "function", data := PySem.Data.func { name := PySem.Str.ofString "__mul__", qualname := PySem.Str.ofString "PolynomialGeneric.__mul__", params := p191, body := PySem.FuncBody.stmts b191, scope := s191, globals := 3, closure := [], defaults := PySem.Value.none, kwdefaults := PySem.Value.none, pyModule := PySem.Value.str (PySem.Str.ofString "dilithium_py.polynomials.polynomials_generic") 194, code := PySem.Value.ref 190 } }) ::
  (nat_lit 192, { cls := PySem.Value.type "tuple", data := PySem.Data.seq #[] }) ::
  (nat_lit 194, { cls := PySem.Value.type "tuple", data := PySem.Data.seq #[PySem.Value.str (PySem.Str.ofString "self") 406, PySem.Value.str (PySem.Str.ofString "other") 407] }) ::
  (nat_lit 195, { cls := PySem.Value.type "tuple", data := PySem.Data.seq #[] }) ::
  (nat_lit 197, { cls := PySem.Value.type "code", data := PySem.Data.fields #[PySem.Value.str (PySem.Str.ofString "__rmul__") 403, PySem.Value.str (PySem.Str.ofString "PolynomialGeneric.__rmul__") 404, PySem.Value.str (PySem.Str.ofString "/claim/cut.py") 405, PySem.Value.int 121 0, PySem.Value.int 2 0, PySem.Value.int 0 0, PySem.Value.int 0 0, PySem.Value.int 3 0, PySem.Value.ref 192, PySem.Value.bool Bool.true, PySem.Value.int 181 0, PySem.Value.ref 193, PySem.Value.none, PySem.Value.ref 194, PySem.Value.ref 195, PySem.Value.ref 196, PySem.Value.int 408 0, PySem.Value.int 121 0, PySem.Value.str (PySem.Str.ofString "/claim/cut.py") 409] }) ::
  (nat_lit 198, { cls := PySem.Value.type "function", data := PySem.Data.func { name := PySem.Str.ofString "__rmul__", qualname := PySem.Str.ofString "PolynomialGeneric.__rmul__", params := p198, body := PySem.FuncBody.stmts b198, scope := s198, globals := 3, closure := [], defaults := PySem.Value.none, kwdefaults := PySem.Value.none, pyModule := PySem.Value.str (PySem.Str.ofString "dilithium_py.polynomials.polynomials_generic") 194, code := PySem.Value.ref 197 } }) ::
  (nat_lit 199, { cls := PySem.Value.type "tuple", data := PySem.Data.seq #[] }) ::
  (nat_lit 201, { cls := PySem.Value.type "tuple", data := PySem.Data.seq #[PySem.Value.str (PySem.Str.ofString "self") 414, PySem.Value.str (PySem.Str.ofString "other") 415] }) ::
  (nat_lit 202, { cls := PySem.Value.type "tuple", data := PySem.Data.seq #[] }) ::
  (nat_lit 204, { cls := PySem.Value.type "code", data := PySem.Data.fields #[PySem.Value.str (PySem.Str.ofString "__imul__") 411, PySem.Value.str (PySem.Str.ofString "PolynomialGeneric.__imul__") 412, PySem.Value.str (PySem.Str.ofString "/claim/cut.py") 413, PySem.Value.int 124 0, PySem.Value.int 2 0, PySem.Value.int 0 0, PySem.Value.int 0 0, PySem.Value.int 3 0, PySem.Value.ref 199, PySem.Value.bool Bool.true, PySem.Value.int 181 0, PySem.Value.ref 200, PySem.Value.none, PySem.Value.ref 201, PySem.Value.ref 202, PySem.Value.ref 203, PySem.Value.int 416 0, PySem.Value.int 124 0, PySem.Value.str (PySem.Str.ofString "/claim/cut.py") 417] }) ::
  (nat_lit 205, { cls := PySem.Value.type "function", data := PySem.Data.func { name := PySem.Str.ofString "__imul__", qualname := PySem.Str.ofString "PolynomialGeneric.__imul__", params := p205, body := PySem.FuncBody.stmts b205, scope := s205, globals := 3, closure := [], defaults := PySem.Value.none, kwdefaults := PySem.Value.none, pyModule := PySem.Value.str (PySem.Str.ofString "dilithium_py.polynomials.polynomials_generic") 194, code := PySem.Value.ref 204 } }) ::
  (nat_lit 206, { cls := PySem.Value.type "tuple", data := PySem.Data.seq #[] }) ::
  (nat_lit 208, { cls := PySem.Value.type "tuple", data := PySem.Data.seq #[PySem.Value.str (PySem.Str.ofString "self") 422, PySem.Value.str (PySem.Str.ofString "n") 423, PySem.Value.str (PySem.Str.ofString "f") 424, PySem.Value.str (PySem.Str.ofString "g") 425] }) ::
  (nat_lit 209, { cls := PySem.Value.type "tuple", data := PySem.Data.seq #[] }) ::
  (nat_lit 211, { cls := PySem.Value.type "code", data := PySem.Data.fields #[PySem.Value.str (PySem.Str.ofString "__pow__") 419, PySem.Value.str (PySem.Str.ofString "PolynomialGeneric.__pow__") 420, PySem.Value.str (PySem.Str.ofString "/claim/cut.py") 421, PySem.Value.int 127 0, PySem.Value.int 2 0, PySem.Value.int 0 0, PySem.Value.int 0 0, PySem.Value.int 3 0, PySem.Value.ref 206, PySem.Value.bool Bool.true, PySem.Value.int 181 0, PySem.Value.ref 207, PySem.Value.none, PySem.Value.ref 208, PySem.Value.ref 209, PySem.Value.ref 210, PySem.Value.int 426 0, PySem.Value.int 127 0, PySem.Value.str (PySem.Str.ofString "/claim/cut.py") 427] }) ::
  (nat_lit 212, { cls := PySem.Value.type "function", data := PySem.Data.func { name := PySem.Str.ofString "__pow__", qualname := PySem.Str.ofString "PolynomialGeneric.__pow__", params := p212, body := PySem.FuncBody.stmts b212, scope := s212, globals := 3, closure := [], defaults := PySem.Value.none, kwdefaults := PySem.Value.none, pyModule := PySem.Value.str (PySem.Str.ofString "dilithium_py.polynomials.polynomials_generic") 194, code := PySem.Value.ref 211 } }) ::
  (nat_lit 213, { cls := PySem.Value.type "tuple", data := PySem.Data.seq #[] }) ::
  (nat_lit 215, { cls := PySem.Value.type "tuple", data := PySem.Data.seq #[PySem.Value.str (PySem.Str.ofString "self") 432, PySem.Value.str (PySem.Str.ofString "other") 433] }) ::
  (nat_lit 216, { cls := PySem.Value.type "tuple", data := PySem.Data.seq #[] }) ::
  (nat_lit 218, { cls := PySem.Value.type "code", data := PySem.Data.fields #[PySem.Value.str (PySem.Str.ofString "__eq__") 429, PySem.Value.str (PySem.Str.ofString "PolynomialGeneric.__eq__") 430, PySem.Value.str (PySem.Str.ofString "/claim/cut.py") 431, PySem.Value.int 141 0, PySem.Value.int 2 0, PySem.Value.int 0 0, PySem.Value.int 0 0, PySem.Value.int 3 0, PySem.Value.ref 213, PySem.Value.bool Bool.true, PySem.Value.int 181 0, PySem.Value.ref 214, PySem.Value.none, PySem.Value.ref 215, PySem.Value.ref 216, PySem.Value.ref 217, PySem.Value.int 434 0, PySem.Value.int 141 0, PySem.Value.str (PySem.Str.ofString "/claim/cut.py") 435] }) ::
  (nat_lit 219, { cls := PySem.Value.type "function", data := PySem.Data.func { name := PySem.Str.ofString "__eq__", qualname := PySem.Str.ofString "PolynomialGeneric.__eq__", params := p219, body := PySem.FuncBody.stmts b219, scope := s219, globals := 3, closure := [], defaults := PySem.Value.none, kwdefaults := PySem.Value.none, pyModule := PySem.Value.str (PySem.Str.ofString "dilithium_py.polynomials.polynomials_generic") 194, code := PySem.Value.ref 218 } }) ::
  (nat_lit 220, { cls := PySem.Value.type "tuple", data := PySem.Data.seq #[] }) ::
  (nat_lit 222, { cls := PySem.Value.type "tuple", data := PySem.Data.seq #[PySem.Value.str (PySem.Str.ofString "self") 440, PySem.Value.str (PySem.Str.ofString "idx") 441] }) ::
  (nat_lit 223, { cls := PySem.Value.type "tuple", data := PySem.Data.seq #[] }) ::
  (nat_lit 225, { cls := PySem.Value.type "code", data := PySem.Data.fields #[PySem.Value.str (PySem.Str.ofString "__getitem__") 437, PySem.Value.str (PySem.Str.ofString "PolynomialGeneric.__getitem__") 438, PySem.Value.str (PySem.Str.ofString "/claim/cut.py") 439, PySem.Value.int 148 0, PySem.Value.int 2 0, PySem.Value.int 0 0, PySem.Value.int 0 0, PySem.Value.int 3 0, PySem.Value.ref 220, PySem.Value.bool Bool.true, PySem.Value.int 181 0, PySem.Value.ref 221, PySem.Value.none, PySem.Value.ref 222, PySem.Value.ref 223, PySem.Value.ref 224, PySem.Value.int 442 0, PySem.Value.int 148 0, PySem.Value.str (PySem.Str.ofString "/claim/cut.py") 443] }) ::
  (nat_lit 226, { cls := PySem.Value.type "function", data := PySem.Data.func { name := PySem.Str.ofString "__getitem__", qualname := PySem.Str.ofString "PolynomialGeneric.__getitem__", params := p226, body := PySem.FuncBody.stmts b226, scope := s226, globals := 3, closure := [], defaults := PySem.Value.none, kwdefaults := PySem.Value.none, pyModule := PySem.Value.str (PySem.Str.ofString "dilithium_py.polynomials.polynomials_generic") 194, code := PySem.Value.ref 225 } }) ::
  (nat_lit 227, { cls := PySem.Value.type "tuple", data := PySem.Data.seq #[PySem.Value.str (PySem.Str.ofString "coeffs") 445, PySem.Value.str (PySem.Str.ofString "parent") 446] }) ::
  (nat_lit 228, { cls := PySem.Value.type "dict", data := PySem.Data.dict #[{ hash := PySem.PyData.keyHash P (PySem.Str.ofString "__module__"), key := PySem.Value.str (PySem.Str.ofString "__module__") 264, val := PySem.Value.str (PySem.Str.ofString "dilithium_py.polynomials.polynomials_generic") 194 }, { hash := PySem.PyData.keyHash P (PySem.Str.ofString "__firstlineno__"), key := PySem.Value.str (PySem.Str.ofString "__firstlineno__") 268, val := PySem.Value.int 26 267 }, { hash := PySem.PyData.keyHash P (PySem.Str.ofString "__init__"), key := PySem.Value.str (PySem.Str.ofString "__init__") 277, val := PySem.Value.ref 84 }, { hash := PySem.PyData.keyHash P (PySem.Str.ofString "is_zero"), key := PySem.Value.str (PySem.Str.ofString "is_zero") 284, val := PySem.Value.ref 91 }, { hash := PySem.PyData.keyHash P (PySem.Str.ofString "is_constant"), key := PySem.Value.str (PySem.Str.ofString "is_constant") 291, val := PySem.Value.ref 98 }, { hash := PySem.PyData.keyHash P (PySem.Str.ofString "_parse_coefficients"), key := PySem.Value.str (PySem.Str.ofString "_parse_coefficients") 297, val := PySem.Value.ref 103 }, { hash := PySem.PyData.keyHash P (PySem.Str.ofString "reduce_coefficients"), key := PySem.Value.str (PySem.Str.ofString "reduce_coefficients") 304, val := PySem.Value.ref 110 }, { hash := PySem.PyData.keyHash P (PySem.Str.ofString "_add_mod_q"), key := PySem.Value.str (PySem.Str.ofString "_add_mod_q") 313, val := PySem.Value.ref 117 }, { hash := PySem.PyData.keyHash P (PySem.Str.ofString "_sub_mod_q"), key := PySem.Value.str (PySem.Str.ofString "_sub_mod_q") 322, val := PySem.Value.ref 124 }, { hash := PySem.PyData.keyHash P (PySem.Str.ofString "_schoolbook_multiplication"), key := PySem.Value.str (PySem.Str.ofString "_schoolbook_multiplication") 328, val := PySem.Value.ref 129 }, { hash := PySem.PyData.keyHash P (PySem.Str.ofString "__neg__"), key := PySem.Value.str (PySem.Str.ofString "__neg__") 334, val := PySem.Value.ref 134 }, { hash := PySem.PyData.keyHash P (PySem.Str.ofString "_add_"), key := PySem.Value.str (PySem.Str.ofString "_add_") 340, val := PySem.Value.ref 139 }, { hash := PySem.PyData.keyHash P (PySem.Str.ofString "__add__"), key := PySem.Value.str (PySem.Str.ofString "__add__") 349, val := PySem.Value.ref 146 }, { hash := PySem.PyData.keyHash P (PySem.Str.ofString "__radd__"), key := PySem.Value.str (PySem.Str.ofString "__radd__") 357, val := PySem.Value.ref 153 }, { hash := PySem.PyData.keyHash P (PySem.Str.ofString "__iadd__"), key := PySem.Value.str (PySem.Str.ofString "__iadd__") 365, val := PySem.Value.ref 160 }, { hash := PySem.PyData.keyHash P (PySem.Str.ofString "_sub_"), key := PySem.Value.str (PySem.Str.ofString "_sub_") 371, val := PySem.Value.ref 165 }, { hash := PySem.PyData.keyHash P (PySem.Str.ofString "__sub__"), key := PySem.Value.str (PySem.Str.ofString "__sub__") 380, val := PySem.Value.ref 172 }, { hash := PySem.PyData.keyHash P (PySem.Str.ofString "__rsub__"), key := PySem.Value.str (PySem.Str.ofString "__rsub__") 388, val := PySem.Value.ref 179 }, { hash := PySem.PyData.keyHash P (PySem.Str.ofString "__isub__"), key := PySem.Value.str (PySem.Str.ofString "__isub__") 396, val := PySem.Value.ref 186 }, { hash := PySem.PyData.keyHash P (PySem.Str.ofString "__mul__"), key := PySem.Value.str (PySem.Str.ofString "__mul__") 402, val := PySem.Value.ref 191 }, { hash := PySem.PyData.keyHash P (PySem.Str.ofString "__rmul__"), key := PySem.Value.str (PySem.Str.ofString "__rmul__") 410, val := PySem.Value.ref 198 }, { hash := PySem.PyData.keyHash P (PySem.Str.ofString "__imul__"), key := PySem.Value.str (PySem.Str.ofString "__imul__") 418, val := PySem.Value.ref 205 }, { hash := PySem.PyData.keyHash P (PySem.Str.ofString "__pow__"), key := PySem.Value.str (PySem.Str.ofString "__pow__") 428, val := PySem.Value.ref 212 }, { hash := PySem.PyData.keyHash P (PySem.Str.ofString "__eq__"), key := PySem.Value.str (PySem.Str.ofString "__eq__") 436, val := PySem.Value.ref 219 }, { hash := PySem.PyData.keyHash P (PySem.Str.ofString "__getitem__"), key := PySem.Value.str (PySem.Str.ofString "__getitem__") 444, val := PySem.Value.ref 226 }, { hash := PySem.PyData.keyHash P (PySem.Str.ofString "__static_attributes__"), key := PySem.Value.str (PySem.Str.ofString "__static_attributes__") 447, val := PySem.Value.ref 227 }, { hash := PySem.PyData.keyHash P (PySem.Str.ofString "__dict__"), key := PySem.Value.str (PySem.Str.ofString "__dict__") 449, val := PySem.Value.ref 230 }, { hash := PySem.PyData.keyHash P (PySem.Str.ofString "__weakref__"), key := PySem.Value.str (PySem.Str.ofString "__weakref__") 451, val := PySem.Value.ref 231 }, { hash := PySem.PyData.keyHash P (PySem.Str.ofString "__doc__"), key := PySem.Value.str (PySem.Str.ofString "__doc__") 452, val := PySem.Value.none }, { hash := PySem.PyData.keyHash P (PySem.Str.ofString "__hash__"), key := PySem.Value.str (PySem.Str.ofString "__hash__") 453, val := PySem.Value.none }] 5 }) ::
  (nat_lit 229, { cls := PySem.Value.type "type", data := PySem.Data.cls { name := PySem.Str.ofString "PolynomialGeneric", bases := [PySem.Value.type "object"], mro := [PySem.Value.ref 229, PySem.Value.type "object"], ns := 228, qualname := PySem.Str.ofString "PolynomialGeneric", subclasses := [PySem.Value.ref 526] }, slots := #[Option.none, Option.none, Option.some (PySem.Value.str (PySem.Str.ofString "PolynomialGeneric") 257), Option.some (PySem.Value.str (PySem.Str.ofString "PolynomialGeneric") 265), Option.some (PySem.Value.builtin "object.__new__"), Option.some (PySem.Value.bool Bool.true)] }) ::
  (nat_lit 230, { cls := PySem.Value.type "getset_descriptor", data := PySem.Data.fields #[PySem.Value.str (PySem.Str.ofString "__dict__") 448, PySem.Value.ref 229, PySem.Value.builtin "function.__dict__", PySem.Value.builtin "function.__dict__#set"] }) ::
  (nat_lit 231, { cls := PySem.Value.type "getset_descriptor", data := PySem.Data.fields #[PySem.Value.str (PySem.Str.ofString "__weakref__") 450, PySem.Value.ref 229, PySem.Value.builtin "ExceptionGroup.__weakref__", PySem.Value.none] }) ::
  (nat_lit 241, { cls := PySem.Value.type "tuple", data := PySem.Data.seq #[] }) ::
  (nat_lit 243, { cls := PySem.Value.type "tuple", data := PySem.Data.seq #[PySem.Value.str (PySem.Str.ofString "self") 473, PySem.Value.str (PySem.Str.ofString "algorithm") 474, PySem.Value.str (PySem.Str.ofString "block_length") 475] }) ::
  (nat_lit 244, { cls := PySem.Value.type "tuple", data := PySem.Data.seq #[] }) ::
  (nat_lit 246, { cls := PySem.Value.type "code", data := PySem.Data.fields #[PySem.Value.str (PySem.Str.ofString "__init__") 470, PySem.Value.str (PySem.Str.ofString "Shake.__init__") 471, PySem.Value.str (PySem.Str.ofString "/claim/cut.py") 472, PySem.Value.int 153 0, PySem.Value.int 3 0, PySem.Value.int 0 0, PySem.Value.int 0 0, PySem.Value.int 3 0, PySem.Value.ref 241, PySem.Value.bool Bool.true, PySem.Value.int 181 0, PySem.Value.ref 242, PySem.Value.none, PySem.Value.ref 243, PySem.Value.ref 244, PySem.Value.ref 245, PySem.Value.int 476 0, PySem.Value.int 153 0, PySem.Value.str (PySem.Str.ofString "/claim/cut.py") 477] }) ::
  (nat_lit 247, { cls := PySem.Value.type "function", data := PySem.Data.func { name := PySem.Str.ofString "__init__", qualname := PySem.Str.ofString "Shake.__init__", params := p247, body := PySem.FuncBody.stmts b247, scope := s247, globals := 3, closure := [], defaults := PySem.Value.none, kwdefaults := PySem.Value.none, pyModule := PySem.Value.str (PySem.Str.ofString "dilithium_py.shake.shake_wrapper") 456, code := PySem.Value.ref 246 } }) ::
  (nat_lit 248, { cls := PySem.Value.type "tuple", data := PySem.Data.seq #[] }) ::
  (nat_lit 250, { cls := PySem.Value.type "tuple", data := PySem.Data.seq #[PySem.Value.str (PySem.Str.ofString "self") 482, PySem.Value.str (PySem.Str.ofString "input_bytes") 483] }) ::
  (nat_lit 251, { cls := PySem.Value.type "tuple", data := PySem.Data.seq #[] }) ::
  (nat_lit 253, { cls := PySem.Value.type "code", data := PySem.Data.fields #[PySem.Value.str (PySem.Str.ofString "absorb") 479, PySem.Value.str (PySem.Str.ofString "Shake.absorb") 480, PySem.Value.str (PySem.Str.ofString "/claim/cut.py") 481, PySem.Value.int 159 0, PySem.Value.int 2 0, PySem.Value.int 0 0, PySem.Value.int 0 0, PySem.Value.int 3 0, PySem.Value.ref 248, PySem.Value.bool Bool.true, PySem.Value.int 181 0, PySem.Value.ref 249, PySem.Value.none, PySem.Value.ref 250, PySem.Value.ref 251, PySem.Value.ref 252, PySem.Value.int 484 0, PySem.Value.int 159 0, PySem.Value.str (PySem.Str.ofString "/claim/cut.py") 485] }) ::
  (nat_lit 254, { cls := PySem.Value.type "function", data := PySem.Data.func { name := PySem.Str.ofString "absorb", qualname := PySem.Str.ofString "Shake.absorb", params := p254, body := PySem.FuncBody.stmts b254, scope := s254, globals := 3, closure := [], defaults := PySem.Value.none, kwdefaults := PySem.Value.none, pyModule := PySem.Value.str (PySem.Str.ofString "dilithium_py.shake.shake_wrapper") 456, code := PySem.Value.ref 253 } }) ::
  (nat_lit 255, { cls := PySem.Value.type "tuple", data := PySem.Data.seq #[] }) ::
  (nat_lit 257, { cls := PySem.Value.type "tuple", data := PySem.Data.seq #[PySem.Value.str (PySem.Str.ofString "self") 490, PySem.Value.str (PySem.Str.ofString "n") 491] }) ::
  (nat_lit 258, { cls := PySem.Value.type "tuple", data := PySem.Data.seq #[] }) ::
  (nat_lit 260, { cls := PySem.Value.type "code", data := PySem.Data.fields #[PySem.Value.str (PySem.Str.ofString "xof_read") 487, PySem.Value.str (PySem.Str.ofString "Shake.xof_read") 488, PySem.Value.str (PySem.Str.ofString "/claim/cut.py") 489, PySem.Value.int 165 0, PySem.Value.int 2 0, PySem.Value.int 0 0, PySem.Value.int 0 0, PySem.Value.int 3 0, PySem.Value.ref 255, PySem.Value.bool Bool.true, PySem.Value.int 181 0, PySem.Value.ref 256, PySem.Value.none, PySem.Value.ref 257, PySem.Value.ref 258, PySem.Value.ref 259, PySem.Value.int 492 0, PySem.Value.int 165 0, PySem.Value.str (PySem.Str.ofString "/claim/cut.py") 493] }) ::
  (nat_lit 261, { cls := PySem.Value.type "function", data := PySem.Data.func { name := PySem.Str.ofString "xof_read", qualname := PySem.Str.ofString "Shake.xof_read", params := p261, body := PySem.FuncBody.stmts b261, scope := s261, globals := 3, closure := [], defaults := PySem.Value.none, kwdefaults := PySem.Value.none, pyModule := PySem.Value.str (PySem.Str.ofString "dilithium_py.shake.shake_wrapper") 456, code := PySem.Value.ref 260 } }) ::
  (nat_lit 262, { cls := PySem.Value.type "tuple", data := PySem.Data.seq #[] }) ::
  (nat_lit 264, { cls := PySem.Value.type "tuple", data := PySem.Data.seq #[PySem.Value.str (PySem.Str.ofString "self") 498, PySem.Value.str (PySem.Str.ofString "n") 499, PySem.Value.str (PySem.Str.ofString "send") 500] }) ::
  (nat_lit 265, { cls := PySem.Value.type "tuple", data := PySem.Data.seq #[] }) ::
  (nat_lit 267, { cls := PySem.Value.type "code", data := PySem.Data.fields #[PySem.Value.str (PySem.Str.ofString "read") 495, PySem.Value.str (PySem.Str.ofString "Shake.read") 496, PySem.Value.str (PySem.Str.ofString "/claim/cut.py") 497, PySem.Value.int 168 0, PySem.Value.int 2 0, PySem.Value.int 0 0, PySem.Value.int 0 0, PySem.Value.int 3 0, PySem.Value.ref 262, PySem.Value.bool Bool.true, PySem.Value.int 181 0, PySem.Value.ref 263, PySem.Value.none, PySem.Value.ref 264, PySem.Value.ref 265, PySem.Value.ref 266, PySem.Value.int 501 0, PySem.Value.int 168 0, PySem.Value.str (PySem.Str.ofString "/claim/cut.py") 502] }) ::
  (nat_lit 268, { cls := PySem.Value.type "function", data := PySem.Data.func { name := PySem.Str.ofString "read", qualname := PySem.Str.ofString "Shake.read", params := p268, body := PySem.FuncBody.stmts b268, scope := s268, globals := 3, closure := [], defaults := PySem.Value.none, kwdefaults := PySem.Value.none, pyModule := PySem.Value.str (PySem.Str.ofString "dilithium_py.shake.shake_wrapper") 456, code := PySem.Value.ref 267 } }) ::
  (nat_lit 269, { cls := PySem.Value.type "tuple", data := PySem.Data.seq #[] }) ::
  (nat_lit 271, { cls := PySem.Value.type "tuple", data := PySem.Data.seq #[PySem.Value.str (PySem.Str.ofString "self") 507, PySem.Value.str (PySem.Str.ofString "input_bytes") 508] }) ::
  (nat_lit 272, { cls := PySem.Value.type "tuple", data := PySem.Data.seq #[] }) ::
  (nat_lit 274, { cls := PySem.Value.type "code", data := PySem.Data.fields #[PySem.Value.str (PySem.Str.ofString "__call__") 504, PySem.Value.str (PySem.Str.ofString "Shake.__call__") 505, PySem.Value.str (PySem.Str.ofString "/claim/cut.py") 506, PySem.Value.int 176 0, PySem.Value.int 2 0, PySem.Value.int 0 0, PySem.Value.int 0 0, PySem.Value.int 3 0, PySem.Value.ref 269, PySem.Value.bool Bool.true, PySem.Value.int 181 0, PySem.Value.ref 270, PySem.Value.none, PySem.Value.ref 271, PySem.Value.ref 272, PySem.Value.ref 273, PySem.Value.int 509 0, PySem.Value.int 176 0, PySem.Value.str (PySem.Str.ofString "/claim/cut.py") 510] }) ::
  (nat_lit 275, { cls := PySem.Value.type "function", data := PySem.Data.func { name := PySem.Str.ofString "__call__", qualname := PySem.Str.ofString "Shake.__call__", params := p275, body := PySem.FuncBody.stmts b275, scope := s275, globals := 3, closure := [], defaults := PySem.Value.none, kwdefaults := PySem.Value.none, pyModule := PySem.Value.str (PySem.Str.ofString "dilithium_py.shake.shake_wrapper") 456, code := PySem.Value.ref 274 } }) ::
  (nat_lit 276, { cls := PySem.Value.type "tuple", data := PySem.Data.seq #[PySem.Value.str (PySem.Str.ofString "algorithm") 512, PySem.Value.str (PySem.Str.ofString "block_length") 513, PySem.Value.str (PySem.Str.ofString "buf") 514, PySem.Value.str (PySem.Str.ofString "index") 515, PySem.Value.str (PySem.Str.ofString "input_bytes") 516, PySem.Value.str (PySem.Str.ofString "len_buf") 517] }) ::
  (nat_lit 277, { cls := PySem.Value.type "dict", data := PySem.Data.dict #[{ hash := PySem.PyData.keyHash P (PySem.Str.ofString "__module__"), key := PySem.Value.str (PySem.Str.ofString "__module__") 465, val := PySem.Value.str (PySem.Str.ofString "dilithium_py.shake.shake_wrapper") 456 }, { hash := PySem.PyData.keyHash P (PySem.Str.ofString "__firstlineno__"), key := PySem.Value.str (PySem.Str.ofString "__firstlineno__") 469, val := PySem.Value.int 151 468 }, { hash := PySem.PyData.keyHash P (PySem.Str.ofString "__init__"), key := PySem.Value.str (PySem.Str.ofString "__init__") 478, val := PySem.Value.ref 247 }, { hash := PySem.PyData.keyHash P (PySem.Str.ofString "absorb"), key := PySem.Value.str (PySem.Str.ofString "absorb") 486, val := PySem.Value.ref 254 }, { hash := PySem.PyData.keyHash P (PySem.Str.ofString "xof_read"), key := PySem.Value.str (PySem.Str.ofString "xof_read") 494, val := PySem.Value.ref 261 }, { hash := PySem.PyData.keyHash P (PySem.Str.ofString "read"), key := PySem.Value.str (PySem.Str.ofString "read") 503, val := PySem.Value.ref 268 }, { hash := PySem.PyData.keyHash P (PySem.Str.ofString "__call__"), key := PySem.Value.str (PySem.Str.ofString "__call__") 511, val := PySem.Value.ref 275 }, { hash := PySem.PyData.keyHash P (PySem.Str.ofString "__static_attributes__"), key := PySem.Value.str (PySem.Str.ofString "__static_attributes__") 518, val := PySem.Value.ref 276 }, { hash := PySem.PyData.keyHash P (PySem.Str.ofString "__dict__"), key := PySem.Value.str (PySem.Str.ofString "__dict__") 520, val := PySem.Value.ref 279 }, { hash := PySem.PyData.keyHash P (PySem.Str.ofString "__weakref__"), key := PySem.Value.str (PySem.Str.ofString "__weakref__") 522, val := PySem.Value.ref 280 }, { hash := PySem.PyData.keyHash P (PySem.Str.ofString "__doc__"), key := PySem.Value.str (PySem.Str.ofString "__doc__") 523, val := PySem.Value.none }] 4 }) ::
  (nat_lit 278, { cls := PySem.Value.type "type", data := PySem.Data.cls { name := PySem.Str.ofString "Shake", bases := [PySem.Value.type "object"], mro := [PySem.Value.ref 278, PySem.Value.type "object"], ns := 277, qualname := PySem.Str.ofString "Shake" }, slots := #[Option.none, Option.none, Option.some (PySem.Value.str (PySem.Str.ofString "Shake") 458), Option.some (PySem.Value.str (PySem.Str.ofString "Shake") 466), Option.some (PySem.Value.builtin "object.__new__"), Option.some (PySem.Value.bool Bool.true)] }) ::
  (nat_lit 279, { cls := PySem.Value.type "getset_descriptor", data := PySem.Data.fields #[PySem.Value.str (PySem.Str.ofString "__dict__") 519, PySem.Value.ref 278, PySem.Value.builtin "function.__dict__", PySem.Value.builtin "function.__dict__#set"] }) ::
  (nat_lit 280, { cls := PySem.Value.type "getset_descriptor", data := PySem.Data.fields #[PySem.Value.str (PySem.Str.ofString "__weakref__") 521, PySem.Value.ref 278, PySem.Value.builtin "ExceptionGroup.__weakref__", PySem.Value.none] }) ::
  (nat_lit 283, { cls := PySem.Value.type "tuple", data := PySem.Data.seq #[PySem.Value.ref 66] }) ::
  (nat_lit 290, { cls := PySem.Value.type "tuple", data := PySem.Data.seq #[] }) ::
  (nat_lit 293, { cls := PySem.Value.type "code", data := PySem.Data.fields #[PySem.Value.str (PySem.Str.ofString "__init__") 540, PySem.Value.str (PySem.Str.ofString "PolynomialRing.__init__") 541, PySem.Value.str (PySem.Str.ofString "/claim/cut.py") 542, PySem.Value.int 182 0, PySem.Value.int 3 0, PySem.Value.int 0 0, PySem.Value.int 0 0, PySem.Value.int 3 0, PySem.Value.ref 290, PySem.Value.bool Bool.true, PySem.Value.int 181 0, PySem.Value.ref 291, PySem.Value.none, PySem.Value.none, PySem.Value.none, PySem.Value.ref 292, PySem.Value.int 543 0, PySem.Value.int 182 0, PySem.Value.str (PySem.Str.ofString "/claim/cut.py") 544] }) ::
  (nat_lit 294, { cls := PySem.Value.type "function", data := PySem.Data.func { name := PySem.Str.ofString "__init__", qualname := PySem.Str.ofString "PolynomialRing.__init__", params := p294, body := PySem.FuncBody.stmts b294, scope := s294, globals := 3, closure := [], defaults := PySem.Value.none, kwdefaults := PySem.Value.none, pyModule := PySem.Value.str (PySem.Str.ofString "dilithium_py.polynomials.polynomials") 526, code := PySem.Value.ref 293 } }) ::
  (nat_lit 295, { cls := PySem.Value.type "tuple", data := PySem.Data.seq #[] }) ::
  (nat_lit 297, { cls := PySem.Value.type "tuple", data := PySem.Data.seq #[PySem.Value.str (PySem.Str.ofString "i") 549, PySem.Value.str (PySem.Str.ofString "k") 550, PySem.Value.str (PySem.Str.ofString "bin_i") 551] }) ::
  (nat_lit 298, { cls := PySem.Value.type "tuple", data := PySem.Data.seq #[] }) ::
  (nat_lit 300, { cls := PySem.Value.type "code", data := PySem.Data.fields #[PySem.Value.str (PySem.Str.ofString "br") 546, PySem.Value.str (PySem.Str.ofString "PolynomialRing.br") 547, PySem.Value.str (PySem.Str.ofString "/claim/cut.py") 548, PySem.Value.int 191 0, PySem.Value.int 2 0, PySem.Value.int 0 0, PySem.Value.int 0 0, PySem.Value.int 3 0, PySem.Value.ref 295, PySem.Value.bool Bool.true, PySem.Value.int 181 0, PySem.Value.ref 296, PySem.Value.none, PySem.Value.ref 297, PySem.Value.ref 298, PySem.Value.ref 299, PySem.Value.int 552 0, PySem.Value.int 191 0, PySem.Value.str (PySem.Str.ofString "/claim/cut.py") 553] }) ::
  (nat_lit 301, { cls := PySem.Value.type "function", data := PySem.Data.func { name := PySem.Str.ofString "br", qualname := PySem.Str.ofString "PolynomialRing.br", params := p301, body := PySem.FuncBody.stmts b301, scope := s301, globals := 3, closure := [], defaults := PySem.Value.none, kwdefaults := PySem.Value.none, pyModule := PySem.Value.str (PySem.Str.ofString "dilithium_py.polynomials.polynomials") 526, annotations := Option.some 304, code := PySem.Value.ref 300 } }) ::
  (nat_lit 302, { cls := PySem.Value.type "dict", data := PySem.Data.dict #[{ hash := PySem.PyData.keyHash P (PySem.Str.ofString "__module__"), key := PySem.Value.str (PySem.Str.ofString "__module__") 555, val := PySem.Value.str (PySem.Str.ofString "dilithium_py.polynomials.polynomials") 526 }, { hash := PySem.PyData.keyHash P (PySem.Str.ofString "__name__"), key := PySem.Value.str (PySem.Str.ofString "__name__") 558, val := PySem.Value.str (PySem.Str.ofString "br") 557 }, { hash := PySem.PyData.keyHash P (PySem.Str.ofString "__qualname__"), key := PySem.Value.str (PySem.Str.ofString "__qualname__") 561, val := PySem.Value.str (PySem.Str.ofString "PolynomialRing.br") 560 }, { hash := PySem.PyData.keyHash P (PySem.Str.ofString "__doc__"), key := PySem.Value.str (PySem.Str.ofString "__doc__") 563, val := PySem.Value.none }, { hash := PySem.PyData.keyHash P (PySem.Str.ofString "__annotations__"), key := PySem.Value.str (PySem.Str.ofString "__annotations__") 565, val := PySem.Value.ref 304 }] 5 }) ::
  (nat_lit 303, { cls := PySem.Value.type "staticmethod", dict := Option.some 302, data := PySem.Data.fields #[PySem.Value.ref 301, PySem.Value.bool Bool.false] }) ::
  (nat_lit 304, { cls := PySem.Value.type "dict", data := PySem.Data.dict #[] }) ::
  (nat_lit 305, { cls := PySem.Value.type "tuple", data := PySem.Data.seq #[] }) ::
  (nat_lit 308, { cls := PySem.Value.type "code", data := PySem.Data.fields #[PySem.Value.str (PySem.Str.ofString "sample_in_ball") 567, PySem.Value.str (PySem.Str.ofString "PolynomialRing.sample_in_ball") 568, PySem.Value.str (PySem.Str.ofString "/claim/cut.py") 569, PySem.Value.int 196 0, PySem.Value.int 3 0, PySem.Value.int 0 0, PySem.Value.int 0 0, PySem.Value.int 3 0, PySem.Value.ref 305, PySem.Value.bool Bool.true, PySem.Value.int 181 0, PySem.Value.ref 306, PySem.Value.none, PySem.Value.none, PySem.Value.none, PySem.Value.ref 307, PySem.Value.int 570 0, PySem.Value.int 196 0, PySem.Value.str (PySem.Str.ofString "/claim/cut.py") 571] }) ::
  (nat_lit 309, { cls := PySem.Value.type "function", data := PySem.Data.func { name := PySem.Str.ofString "sample_in_ball", qualname := PySem.Str.ofString "PolynomialRing.sample_in_ball", params := p309, body := PySem.FuncBody.stmts b309, scope := s309, globals := 3, closure := [], defaults := PySem.Value.none, kwdefaults := PySem.Value.none, pyModule := PySem.Value.str (PySem.Str.ofString "dilithium_py.polynomials.polynomials") 526, code := PySem.Value.ref 308 } }) ::
  (nat_lit 310, { cls := PySem.Value.type "tuple", data := PySem.Data.seq #[] }) ::
  (nat_lit 312, { cls := PySem.Value.type "tuple", data := PySem.Data.seq #[PySem.Value.str (PySem.Str.ofString "self") 576, PySem.Value.str (PySem.Str.ofString "rho") 577, PySem.Value.str (PySem.Str.ofString "i") 578, PySem.Value.str (PySem.Str.ofString "j") 579] }) ::
  (nat_lit 313, { cls := PySem.Value.type "tuple", data := PySem.Data.seq #[] }) ::
  (nat_lit 315, { cls := PySem.Value.type "code", data := PySem.Data.fields #[PySem.Value.str (PySem.Str.ofString "rejection_sample_ntt_poly") 573, PySem.Value.str (PySem.Str.ofString "PolynomialRing.rejection_sample_ntt_poly") 574, PySem.Value.str (PySem.Str.ofString "/claim/cut.py") 575, PySem.Value.int 214 0, PySem.Value.int 4 0, PySem.Value.int 0 0, PySem.Value.int 0 0, PySem.Value.int 3 0, PySem.Value.ref 310, PySem.Value.bool Bool.true, PySem.Value.int 181 0, PySem.Value.ref 311, PySem.Value.none, PySem.Value.ref 312, PySem.Value.ref 313, PySem.Value.ref 314, PySem.Value.int 580 0, PySem.Value.int 214 0, PySem.Value.str (PySem.Str.ofString "/claim/cut.py") 581] }) ::
  (nat_lit 316, { cls := PySem.Value.type "function", data := PySem.Data.func { name := PySem.Str.ofString "rejection_sample_ntt_poly", qualname := PySem.Str.ofString "PolynomialRing.rejection_sample_ntt_poly", params := p316, body := PySem.FuncBody.stmts b316, scope := s316, globals := 3, closure := [], defaults := PySem.Value.none, kwdefaults := PySem.Value.none, pyModule := PySem.Value.str (PySem.Str.ofString "dilithium_py.polynomials.polynomials") 526, code := PySem.Value.ref 315 } }) ::
  (nat_lit 317, { cls := PySem.Value.type "tuple", data := PySem.Data.seq #[] }) ::
  (nat_lit 319, { cls := PySem.Value.type "tuple", data := PySem.Data.seq #[PySem.Value.str (PySem.Str.ofString "self") 586, PySem.Value.str (PySem.Str.ofString "rho_prime") 587, PySem.Value.str (PySem.Str.ofString "i") 588, PySem.Value.str (PySem.Str.ofString "eta") 589] }) ::
  (nat_lit 320, { cls := PySem.Value.type "tuple", data := PySem.Data.seq #[] }) ::
  (nat_lit 322, { cls := PySem.Value.type "code", data := PySem.Data.fields #[PySem.Value.str (PySem.Str.ofString "rejection_bounded_poly") 583, PySem.Value.str (PySem.Str.ofString "PolynomialRing.rejection_bounded_poly") 584, PySem.Value.str (PySem.Str.ofString "/claim/cut.py") 585, PySem.Value.int 217 0, PySem.Value.int 4 0, PySem.Value.int 0 0, PySem.Value.int 0 0, PySem.Value.int 3 0, PySem.Value.ref 317, PySem.Value.bool Bool.true, PySem.Value.int 181 0, PySem.Value.ref 318, PySem.Value.none, PySem.Value.ref 319, PySem.Value.ref 320, PySem.Value.ref 321, PySem.Value.int 590 0, PySem.Value.int 217 0, PySem.Value.str (PySem.Str.ofString "/claim/cut.py") 591] }) ::
  (nat_lit 323, { cls := PySem.Value.type "function", data := PySem.Data.func { name := PySem.Str.ofString "rejection_bounded_poly", qualname := PySem.Str.ofString "PolynomialRing.rejection_bounded_poly", params := p323, body := PySem.FuncBody.stmts b323, scope := s323, globals := 3, closure := [], defaults := PySem.Value.none, kwdefaults := PySem.Value.none, pyModule := PySem.Value.str (PySem.Str.ofString "dilithium_py.polynomials.polynomials") 526, code := PySem.Value.ref 322 } }) ::
  (nat_lit 324, { cls := PySem.Value.type "tuple", data := PySem.Data.seq #[] }) ::
  (nat_lit 326, { cls := PySem.Value.type "tuple", data := PySem.Data.seq #[PySem.Value.str (PySem.Str.ofString "self") 596, PySem.Value.str (PySem.Str.ofString "rho_prime") 597, PySem.Value.str (PySem.Str.ofString "i") 598, PySem.Value.str (PySem.Str.ofString "kappa") 599, PySem.Value.str (PySem.Str.ofString "gamma_1") 600] }) ::
  (nat_lit 327, { cls := PySem.Value.type "tuple", data := PySem.Data.seq #[] }) ::
  (nat_lit 329, { cls := PySem.Value.type "code", data := PySem.Data.fields #[PySem.Value.str (PySem.Str.ofString "sample_mask_polynomial") 593, PySem.Value.str (PySem.Str.ofString "PolynomialRing.sample_mask_polynomial") 594, PySem.Value.str (PySem.Str.ofString "/claim/cut.py") 595, PySem.Value.int 220 0, PySem.Value.int 5 0, PySem.Value.int 0 0, PySem.Value.int 0 0, PySem.Value.int 3 0, PySem.Value.ref 324, PySem.Value.bool Bool.true, PySem.Value.int 181 0, PySem.Value.ref 325, PySem.Value.none, PySem.Value.ref 326, PySem.Value.ref 327, PySem.Value.ref 328, PySem.Value.int 601 0, PySem.Value.int 220 0, PySem.Value.str (PySem.Str.ofString "/claim/cut.py") 602] }) ::
  (nat_lit 330, { cls := PySem.Value.type "function", data := PySem.Data.func { name := PySem.Str.ofString "sample_mask_polynomial", qualname := PySem.Str.ofString "PolynomialRing.sample_mask_polynomial", params := p330, body := PySem.FuncBody.stmts b330, scope := s330, globals := 3, closure := [], defaults := PySem.Value.none, kwdefaults := PySem.Value.none, pyModule := PySem.Value.str (PySem.Str.ofString "dilithium_py.polynomials.polynomials") 526, code := PySem.Value.ref 329 } }) ::
  (nat_lit 331, { cls := PySem.Value.type "tuple", data := PySem.Data.seq #[] }) ::
  (nat_lit 333, { cls := PySem.Value.type "tuple", data := PySem.Data.seq #[PySem.Value.str (PySem.Str.ofString "self") 607, PySem.Value.str (PySem.Str.ofString "input_bytes") 608, PySem.Value.str (PySem.Str.ofString "n_bits") 609] }) ::
  (nat_lit 334, { cls := PySem.Value.type "tuple", data := PySem.Data.seq #[] }) ::
  (nat_lit 336, { cls := PySem.Value.type "code", data := PySem.Data.fields #[PySem.Value.str (PySem.Str.ofString "_bit_unpack") 604, PySem.Value.str (PySem.Str.ofString "PolynomialRing._bit_unpack") 605, PySem.Value.str (PySem.Str.ofString "/claim/cut.py") 606, PySem.Value.int 223 0, PySem.Value.int 3 0, PySem.Value.int 0 0, PySem.Value.int 0 0, PySem.Value.int 3 0, PySem.Value.ref 331, PySem.Value.bool Bool.true, PySem.Value.int 181 0, PySem.Value.ref 332, PySem.Value.none, PySem.Value.ref 333, PySem.Value.ref 334, PySem.Value.ref 335, PySem.Value.int 610 0, PySem.Value.int 223 0, PySem.Value.str (PySem.Str.ofString "/claim/cut.py") 611] }) ::
  (nat_lit 337, { cls := PySem.Value.type "function", data := PySem.Data.func { name := PySem.Str.ofString "_bit_unpack", qualname := PySem.Str.ofString "PolynomialRing._bit_unpack", params := p337, body := PySem.FuncBody.stmts b337, scope := s337, globals := 3, closure := [], defaults := PySem.Value.none, kwdefaults := PySem.Value.none, pyModule := PySem.Value.str (PySem.Str.ofString "dilithium_py.polynomials.polynomials") 526, code := PySem.Value.ref 336 } }) ::
  (nat_lit 338, { cls := PySem.Value.type "tuple", data := PySem.Data.seq #[] }) ::
  (nat_lit 340, { cls := PySem.Value.type "tuple", data := PySem.Data.seq #[PySem.Value.str (PySem.Str.ofString "self") 616, PySem.Value.str (PySem.Str.ofString "input_bytes") 617] }) ::
  (nat_lit 341, { cls := PySem.Value.type "tuple", data := PySem.Data.seq #[] }) ::
  (nat_lit 343, { cls := PySem.Value.type "code", data := PySem.Data.fields #[PySem.Value.str (PySem.Str.ofString "bit_unpack_t0") 613, PySem.Value.str (PySem.Str.ofString "PolynomialRing.bit_unpack_t0") 614, PySem.Value.str (PySem.Str.ofString "/claim/cut.py") 615, PySem.Value.int 226 0, PySem.Value.int 2 0, PySem.Value.int 0 0, PySem.Value.int 0 0, PySem.Value.int 3 0, PySem.Value.ref 338, PySem.Value.bool Bool.true, PySem.Value.int 181 0, PySem.Value.ref 339, PySem.Value.none, PySem.Value.ref 340, PySem.Value.ref 341, PySem.Value.ref 342, PySem.Value.int 618 0, PySem.Value.int 226 0, PySem.Value.str (PySem.Str.ofString "/claim/cut.py") 619] }) ::
  (nat_lit 344, { cls := PySem.Value.type "function", data := PySem.Data.func { name := PySem.Str.ofString "bit_unpack_t0", qualname := PySem.Str.ofString "PolynomialRing.bit_unpack_t0", params := p344, body := PySem.FuncBody.stmts b344, scope := s344, globals := 3, closure := [], defaults := PySem.Value.none, kwdefaults := PySem.Value.none, pyModule := PySem.Value.str (PySem.Str.ofString "dilithium_py.polynomials.polynomials") 526, code := PySem.Value.ref 343 } }) ::
  (nat_lit 345, { cls := PySem.Value.type "tuple", data := PySem.Data.seq #[] }) ::
  (nat_lit 347, { cls := PySem.Value.type "tuple", data := PySem.Data.seq #[PySem.Value.str (PySem.Str.ofString "self") 624, PySem.Value.str (PySem.Str.ofString "input_bytes") 625] }) ::
  (nat_lit 348, { cls := PySem.Value.type "tuple", data := PySem.Data.seq #[] }) ::
  (nat_lit 350, { cls := PySem.Value.type "code", data := PySem.Data.fields #[PySem.Value.str (PySem.Str.ofString "bit_unpack_t1") 621, PySem.Value.str (PySem.Str.ofString "PolynomialRing.bit_unpack_t1") 622, PySem.Value.str (PySem.Str.ofString "/claim/cut.py") 623, PySem.Value.int 229 0, PySem.Value.int 2 0, PySem.Value.int 0 0, PySem.Value.int 0 0, PySem.Value.int 3 0, PySem.Value.ref 345, PySem.Value.bool Bool.true, PySem.Value.int 181 0, PySem.Value.ref 346, PySem.Value.none, PySem.Value.ref 347, PySem.Value.ref 348, PySem.Value.ref 349, PySem.Value.int 626 0, PySem.Value.int 229 0, PySem.Value.str (PySem.Str.ofString "/claim/cut.py") 627] }) ::
  (nat_lit 351, { cls := PySem.Value.type "function", data := PySem.Data.func { name := PySem.Str.ofString "bit_unpack_t1", qualname := PySem.Str.ofString "PolynomialRing.bit_unpack_t1", params := p351, body := PySem.FuncBody.stmts b351, scope := s351, globals := 3, closure := [], defaults := PySem.Value.none, kwdefaults := PySem.Value.none, pyModule := PySem.Value.str (PySem.Str.ofString "dilithium_py.polynomials.polynomials") 526, code := PySem.Value.ref 350 } }) ::
  (nat_lit 352, { cls := PySem.Value.type "tuple", data := PySem.Data.seq #[] }) ::
  (nat_lit 354, { cls := PySem.Value.type "tuple", data := PySem.Data.seq #[PySem.Value.str (PySem.Str.ofString "self") 632, PySem.Value.str (PySem.Str.ofString "input_bytes") 633, PySem.Value.str (PySem.Str.ofString "eta") 634] }) ::
  (nat_lit 355, { cls := PySem.Value.type "tuple", data := PySem.Data.seq #[] }) ::
  (nat_lit 357, { cls := PySem.Value.type "code", data := PySem.Data.fields #[PySem.Value.str (PySem.Str.ofString "bit_unpack_s") 629, PySem.Value.str (PySem.Str.ofString "PolynomialRing.bit_unpack_s") 630, PySem.Value.str (PySem.Str.ofString "/claim/cut.py") 631, PySem.Value.int 232 0, PySem.Value.int 3 0, PySem.Value.int 0 0, PySem.Value.int 0 0, PySem.Value.int 3 0, PySem.Value.ref 352, PySem.Value.bool Bool.true, PySem.Value.int 181 0, PySem.Value.ref 353, PySem.Value.none, PySem.Value.ref 354, PySem.Value.ref 355, PySem.Value.ref 356, PySem.Value.int 635 0, PySem.Value.int 232 0, PySem.Value.str (PySem.Str.ofString "/claim/cut.py") 636] }) ::
  (nat_lit 358, { cls := PySem.Value.type "function", data := PySem.Data.func { name := PySem.Str.ofString "bit_unpack_s", qualname := PySem.Str.ofString "PolynomialRing.bit_unpack_s", params := p358, body := PySem.FuncBody.stmts b358, scope := s358, globals := 3, closure := [], defaults := PySem.Value.none, kwdefaults := PySem.Value.none, pyModule := PySem.Value.str (PySem.Str.ofString "dilithium_py.polynomials.polynomials") 526, code := PySem.Value.ref 357 } }) ::
  (nat_lit 359, { cls := PySem.Value.type "tuple", data := PySem.Data.seq #[] }) ::
  (nat_lit 361, { cls := PySem.Value.type "tuple", data := PySem.Data.seq #[PySem.Value.str (PySem.Str.ofString "self") 641, PySem.Value.str (PySem.Str.ofString "input_bytes") 642, PySem.Value.str (PySem.Str.ofString "gamma_2") 643] }) ::
  (nat_lit 362, { cls := PySem.Value.type "tuple", data := PySem.Data.seq #[] }) ::
  (nat_lit 364, { cls := PySem.Value.type "code", data := PySem.Data.fields #[PySem.Value.str (PySem.Str.ofString "bit_unpack_w") 638, PySem.Value.str (PySem.Str.ofString "PolynomialRing.bit_unpack_w") 639, PySem.Value.str (PySem.Str.ofString "/claim/cut.py") 640, PySem.Value.int 235 0, PySem.Value.int 3 0, PySem.Value.int 0 0, PySem.Value.int 0 0, PySem.Value.int 3 0, PySem.Value.ref 359, PySem.Value.bool Bool.true, PySem.Value.int 181 0, PySem.Value.ref 360, PySem.Value.none, PySem.Value.ref 361, PySem.Value.ref 362, PySem.Value.ref 363, PySem.Value.int 644 0, PySem.Value.int 235 0, PySem.Value.str (PySem.Str.ofString "/claim/cut.py") 645] }) ::
  (nat_lit 365, { cls := PySem.Value.type "function", data := PySem.Data.func { name := PySem.Str.ofString "bit_unpack_w", qualname := PySem.Str.ofString "PolynomialRing.bit_unpack_w", params := p365, body := PySem.FuncBody.stmts b365, scope := s365, globals := 3, closure := [], defaults := PySem.Value.none, kwdefaults := PySem.Value.none, pyModule := PySem.Value.str (PySem.Str.ofString "dilithium_py.polynomials.polynomials") 526, code := PySem.Value.ref 364 } }) ::
  (nat_lit 366, { cls := PySem.Value.type "tuple", data := PySem.Data.seq #[] }) ::
  (nat_lit 368, { cls := PySem.Value.type "tuple", data := PySem.Data.seq #[PySem.Value.str (PySem.Str.ofString "self") 650, PySem.Value.str (PySem.Str.ofString "input_bytes") 651, PySem.Value.str (PySem.Str.ofString "gamma_1") 652] }) ::
  (nat_lit 369, { cls := PySem.Value.type "tuple", data := PySem.Data.seq #[] }) ::
  (nat_lit 371, { cls := PySem.Value.type "code", data := PySem.Data.fields #[PySem.Value.str (PySem.Str.ofString "bit_unpack_z") 647, PySem.Value.str (PySem.Str.ofString "PolynomialRing.bit_unpack_z") 648, PySem.Value.str (PySem.Str.ofString "/claim/cut.py") 649, PySem.Value.int 238 0, PySem.Value.int 3 0, PySem.Value.int 0 0, PySem.Value.int 0 0, PySem.Value.int 3 0, PySem.Value.ref 366, PySem.Value.bool Bool.true, PySem.Value.int 181 0, PySem.Value.ref 367, PySem.Value.none, PySem.Value.ref 368, PySem.Value.ref 369, PySem.Value.ref 370, PySem.Value.int 653 0, PySem.Value.int 238 0, PySem.Value.str (PySem.Str.ofString "/claim/cut.py") 654] }) ::
  (nat_lit 372, { cls := PySem.Value.type "function", data := PySem.Data.func { name := PySem.Str.ofString "bit_unpack_z", qualname := PySem.Str.ofString "PolynomialRing.bit_unpack_z", params := p372, body := PySem.FuncBody.stmts b372, scope := s372, globals := 3, closure := [], defaults := PySem.Value.none, kwdefaults := PySem.Value.none, pyModule := PySem.Value.str (PySem.Str.ofString "dilithium_py.polynomials.polynomials") 526, code := PySem.Value.ref 371 } }) ::
  (nat_lit 373, { cls := PySem.Value.type "tuple", data := PySem.Data.seq #[PySem.Value.bool Bool.false] }) ::
  (nat_lit 374, { cls := PySem.Value.type "tuple", data := PySem.Data.seq #[] }) ::
  (nat_lit 376, { cls := PySem.Value.type "tuple", data := PySem.Data.seq #[PySem.Value.str (PySem.Str.ofString "self") 659, PySem.Value.str (PySem.Str.ofString "coefficients") 660, PySem.Value.str (PySem.Str.ofString "is_ntt") 661] }) ::
  (nat_lit 377, { cls := PySem.Value.type "tuple", data := PySem.Data.seq #[] }) ::
  (nat_lit 379, { cls := PySem.Value.type "code", data := PySem.Data.fields #[PySem.Value.str (PySem.Str.ofString "__call__") 656, PySem.Value.str (PySem.Str.ofString "PolynomialRing.__call__") 657, PySem.Value.str (PySem.Str.ofString "/claim/cut.py") 658, PySem.Value.int 241 0, PySem.Value.int 3 0, PySem.Value.int 0 0, PySem.Value.int 0 0, PySem.Value.int 3 0, PySem.Value.ref 374, PySem.Value.bool Bool.true, PySem.Value.int 181 0, PySem.Value.ref 375, PySem.Value.none, PySem.Value.ref 376, PySem.Value.ref 377, PySem.Value.ref 378, PySem.Value.int 662 0, PySem.Value.int 241 0, PySem.Value.str (PySem.Str.ofString "/claim/cut.py") 663] }) ::
  (nat_lit 380, { cls := PySem.Value.type "function", data := PySem.Data.func { name := PySem.Str.ofString "__call__", qualname := PySem.Str.ofString "PolynomialRing.__call__", params := p380, body := PySem.FuncBody.stmts b380, scope := s380, globals := 3, closure := [], defaults := PySem.Value.ref 373, kwdefaults := PySem.Value.none, pyModule := PySem.Value.str (PySem.Str.ofString "dilithium_py.polynomials.polynomials") 526, code := PySem.Value.ref 379 } }) ::
  (nat_lit 381, { cls := PySem.Value.type "tuple", data := PySem.Data.seq #[] }) ::
  (nat_lit 383, { cls := PySem.Value.type "tuple", data := PySem.Data.seq #[PySem.Value.str (PySem.Str.ofString "self") 668, PySem.Value.str (PySem.Str.ofString "value") 669] }) ::
  (nat_lit 384, { cls := PySem.Value.type "tuple", data := PySem.Data.seq #[] }) ::
  (nat_lit 386, { cls := PySem.Value.type "code", data := PySem.Data.fields #[PySem.Value.str (PySem.Str.ofString "is_element") 665, PySem.Value.str (PySem.Str.ofString "PolynomialRing.is_element") 666, PySem.Value.str (PySem.Str.ofString "/claim/cut.py") 667, PySem.Value.int 250 0, PySem.Value.int 2 0, PySem.Value.int 0 0, PySem.Value.int 0 0, PySem.Value.int 3 0, PySem.Value.ref 381, PySem.Value.bool Bool.true, PySem.Value.int 181 0, PySem.Value.ref 382, PySem.Value.none, PySem.Value.ref 383, PySem.Value.ref 384, PySem.Value.ref 385, PySem.Value.int 670 0, PySem.Value.int 250 0, PySem.Value.str (PySem.Str.ofString "/claim/cut.py") 671] }) ::
  (nat_lit 387, { cls := PySem.Value.type "function", data := PySem.Data.func { name := PySem.Str.ofString "is_element", qualname := PySem.Str.ofString "PolynomialRing.is_element", params := p387, body := PySem.FuncBody.stmts b387, scope := s387, globals := 3, closure := [], defaults := PySem.Value.none, kwdefaults := PySem.Value.none, pyModule := PySem.Value.str (PySem.Str.ofString "dilithium_py.polynomials.polynomials") 526, code := PySem.Value.ref 386 } }) ::
  (nat_lit 388, { cls := PySem.Value.type "tuple", data := PySem.Data.seq #[PySem.Value.str (PySem.Str.ofString "n") 673, PySem.Value.str (PySem.Str.ofString "ntt_f") 674, PySem.Value.str (PySem.Str.ofString "ntt_zetas") 675, PySem.Value.str (PySem.Str.ofString "q") 676, PySem.Value.str (PySem.Str.ofString "shake128") 677, PySem.Value.str (PySem.Str.ofString "shake256") 678] }) ::
  (nat_lit 389, { cls := PySem.Value.type "dict", data := PySem.Data.dict #[{ hash := PySem.PyData.keyHash P (PySem.Str.ofString "__module__"), key := PySem.Value.str (PySem.Str.ofString "__module__") 535, val := PySem.Value.str (PySem.Str.ofString "dilithium_py.polynomials.polynomials") 526 }, { hash := PySem.PyData.keyHash P (PySem.Str.ofString "__firstlineno__"), key := PySem.Value.str (PySem.Str.ofString "__firstlineno__") 539, val := PySem.Value.int 180 538 }, { hash := PySem.PyData.keyHash P (PySem.Str.ofString "__init__"), key := PySem.Value.str (PySem.Str.ofString "__init__") 545, val := PySem.Value.ref 294 }, { hash := PySem.PyData.keyHash P (PySem.Str.ofString "br"), key := PySem.Value.str (PySem.Str.ofString "br") 566, val := PySem.Value.ref 303 }, { hash := PySem.PyData.keyHash P (PySem.Str.ofString "sample_in_ball"), key := PySem.Value.str (PySem.Str.ofString "sample_in_ball") 572, val := PySem.Value.ref 309 }, { hash := PySem.PyData.keyHash P (PySem.Str.ofString "rejection_sample_ntt_poly"), key := PySem.Value.str (PySem.Str.ofString "rejection_sample_ntt_poly") 582, val := PySem.Value.ref 316 }, { hash := PySem.PyData.keyHash P (PySem.Str.ofString "rejection_bounded_poly"), key := PySem.Value.str (PySem.Str.ofString "rejection_bounded_poly") 592, val := PySem.Value.ref 323 }, { hash := PySem.PyData.keyHash P (PySem.Str.ofString "sample_mask_polynomial"), key := PySem.Value.str (PySem.Str.ofString "sample_mask_polynomial") 603, val := PySem.Value.ref 330 }, { hash := PySem.PyData.keyHash P (PySem.Str.ofString "_bit_unpack"), key := PySem.Value.str (PySem.Str.ofString "_bit_unpack") 612, val := PySem.Value.ref 337 }, { hash := PySem.PyData.keyHash P (PySem.Str.ofString "bit_unpack_t0"), key := PySem.Value.str (PySem.Str.ofString "bit_unpack_t0") 620, val := PySem.Value.ref 344 }, { hash := PySem.PyData.keyHash P (PySem.Str.ofString "bit_unpack_t1"), key := PySem.Value.str (PySem.Str.ofString "bit_unpack_t1") 628, val := PySem.Value.ref 351 }, { hash := PySem.PyData.keyHash P (PySem.Str.ofString "bit_unpack_s"), key := PySem.Value.str (PySem.Str.ofString "bit_unpack_s") 637, val := PySem.Value.ref 358 }, { hash := PySem.PyData.keyHash P (PySem.Str.ofString "bit_unpack_w"), key := PySem.Value.str (PySem.Str.ofString "bit_unpack_w") 646, val := PySem.Value.ref 365 }, { hash := PySem.PyData.keyHash P (PySem.Str.ofString "bit_unpack_z"), key := PySem.Value.str (PySem.Str.ofString "bit_unpack_z") 655, val := PySem.Value.ref 372 }, { hash := PySem.PyData.keyHash P (PySem.Str.ofString "__call__"), key := PySem.Value.str (PySem.Str.ofString "__call__") 664, val := PySem.Value.ref 380 }, { hash := PySem.PyData.keyHash P (PySem.Str.ofString "is_element"), key := PySem.Value.str (PySem.Str.ofString "is_element") 672, val := PySem.Value.ref 387 }, { hash := PySem.PyData.keyHash P (PySem.Str.ofString "__static_attributes__"), key := PySem.Value.str (PySem.Str.ofString "__static_attributes__") 679, val := PySem.Value.ref 388 }, { hash := PySem.PyData.keyHash P (PySem.Str.ofString "__doc__"), key := PySem.Value.str (PySem.Str.ofString "__doc__") 680, val := PySem.Value.none }] 2 }) ::
  (nat_lit 390, { cls := PySem.Value.type "type", data := PySem.Data.cls { name := PySem.Str.ofString "PolynomialRing", bases := [PySem.Value.ref 66], mro := [PySem.Value.ref 390, PySem.Value.ref 66, PySem.Value.type "object"], ns := 389, qualname := PySem.Str.ofString "PolynomialRing" }, slots := #[Option.some (PySem.Value.ref 283), Option.none, Option.some (PySem.Value.str (PySem.Str.ofString "PolynomialRing") 528), Option.some (PySem.Value.str (PySem.Str.ofString "PolynomialRing") 536), Option.some (PySem.Value.builtin "object.__new__"), Option.some (PySem.Value.bool Bool.true)] }) ::
  (nat_lit 393, { cls := PySem.Value.type "tuple", data := PySem.Data.seq #[PySem.Value.ref 229] }) ::
  (nat_lit 400, { cls := PySem.Value.type "tuple", data := PySem.Data.seq #[] }) ::
  (nat_lit 402, { cls := PySem.Value.type "tuple", data := PySem.Data.seq #[PySem.Value.str (PySem.Str.ofString "self") 698, PySem.Value.str (PySem.Str.ofString "parent") 699, PySem.Value.str (PySem.Str.ofString "coefficients") 700] }) ::
  (nat_lit 403, { cls := PySem.Value.type "tuple", data := PySem.Data.seq #[] }) ::
  (nat_lit 405, { cls := PySem.Value.type "code", data := PySem.Data.fields #[PySem.Value.str (PySem.Str.ofString "__init__") 695, PySem.Value.str (PySem.Str.ofString "Polynomial.__init__") 696, PySem.Value.str (PySem.Str.ofString "/claim/cut.py") 697, PySem.Value.int 254 0, PySem.Value.int 3 0, PySem.Value.int 0 0, PySem.Value.int 0 0, PySem.Value.int 3 0, PySem.Value.ref 400, PySem.Value.bool Bool.true, PySem.Value.int 181 0, PySem.Value.ref 401, PySem.Value.none, PySem.Value.ref 402, PySem.Value.ref 403, PySem.Value.ref 404, PySem.Value.int 701 0, PySem.Value.int 254 0, PySem.Value.str (PySem.Str.ofString "/claim/cut.py") 702] }) ::
  (nat_lit 406, { cls := PySem.Value.type "function", data := PySem.Data.func { name := PySem.Str.ofString "__init__", qualname := PySem.Str.ofString "Polynomial.__init__", params := p406, body := PySem.FuncBody.stmts b406, scope := s406, globals := 3, closure := [], defaults := PySem.Value.none, kwdefaults := PySem.Value.none, pyModule := PySem.Value.str (PySem.Str.ofString "dilithium_py.polynomials.polynomials") 526, code := PySem.Value.ref 405 } }) ::
  (nat_lit 407, { cls := PySem.Value.type "tuple", data := PySem.Data.seq #[] }) ::
  (nat_lit 409, { cls := PySem.Value.type "tuple", data := PySem.Data.seq #[PySem.Value.str (PySem.Str.ofString "self") 707] }) ::
  (nat_lit 410, { cls := PySem.Value.type "tuple", data := PySem.Data.seq #[] }) ::
  (nat_lit 412, { cls := PySem.Value.type "code", data := PySem.Data.fields #[PySem.Value.str (PySem.Str.ofString "to_ntt") 704, PySem.Value.str (PySem.Str.ofString "Polynomial.to_ntt") 705, PySem.Value.str (PySem.Str.ofString "/claim/cut.py") 706, PySem.Value.int 258 0, PySem.Value.int 1 0, PySem.Value.int 0 0, PySem.Value.int 0 0, PySem.Value.int 3 0, PySem.Value.ref 407, PySem.Value.bool Bool.true, PySem.Value.int 181 0, PySem.Value.ref 408, PySem.Value.none, PySem.Value.ref 409, PySem.Value.ref 410, PySem.Value.ref 411, PySem.Value.int 708 0, PySem.Value.int 258 0, PySem.Value.str (PySem.Str.ofString "/claim/cut.py") 709] }) ::
  (nat_lit 413, { cls := PySem.Value.type "function", data := PySem.Data.func { name := PySem.Str.ofString "to_ntt", qualname := PySem.Str.ofString "Polynomial.to_ntt", params := p413, body := PySem.FuncBody.stmts b413, scope := s413, globals := 3, closure := [], defaults := PySem.Value.none, kwdefaults := PySem.Value.none, pyModule := PySem.Value.str (PySem.Str.ofString "dilithium_py.polynomials.polynomials") 526, code := PySem.Value.ref 412 } }) ::
  (nat_lit 414, { cls := PySem.Value.type "tuple", data := PySem.Data.seq #[] }) ::
  (nat_lit 416, { cls := PySem.Value.type "tuple", data := PySem.Data.seq #[PySem.Value.str (PySem.Str.ofString "self") 714] }) ::
  (nat_lit 417, { cls := PySem.Value.type "tuple", data := PySem.Data.seq #[] }) ::
  (nat_lit 419, { cls := PySem.Value.type "code", data := PySem.Data.fields #[PySem.Value.str (PySem.Str.ofString "from_ntt") 711, PySem.Value.str (PySem.Str.ofString "Polynomial.from_ntt") 712, PySem.Value.str (PySem.Str.ofString "/claim/cut.py") 713, PySem.Value.int 261 0, PySem.Value.int 1 0, PySem.Value.int 0 0, PySem.Value.int 0 0, PySem.Value.int 3 0, PySem.Value.ref 414, PySem.Value.bool Bool.true, PySem.Value.int 181 0, PySem.Value.ref 415, PySem.Value.none, PySem.Value.ref 416, PySem.Value.ref 417, PySem.Value.ref 418, PySem.Value.int 715 0, PySem.Value.int 261 0, PySem.Value.str (PySem.Str.ofString "/claim/cut.py") 716] }) ::
  (nat_lit 420, { cls := PySem.Value.type "function", data := PySem.Data.func { name := PySem.Str.ofString "from_ntt", qualname := PySem.Str.ofString "Polynomial.from_ntt", params := p420, body := PySem.FuncBody.stmts b420, scope := s420, globals := 3, closure := [], defaults := PySem.Value.none, kwdefaults := PySem.Value.none, pyModule := PySem.Value.str (PySem.Str.ofString "dilithium_py.polynomials.polynomials") 526, code := PySem.Value.ref 419 } }) ::
  (nat_lit 421, { cls := PySem.Value.type "tuple", data := PySem.Data.seq #[] }) ::
  (nat_lit 423, { cls := PySem.Value.type "tuple", data := PySem.Data.seq #[PySem.Value.str (PySem.Str.ofString "self") 721, PySem.Value.str (PySem.Str.ofString "d") 722] }) ::
  (nat_lit 424, { cls := PySem.Value.type "tuple", data := PySem.Data.seq #[] }) ::
  (nat_lit 426, { cls := PySem.Value.type "code", data := PySem.Data.fields #[PySem.Value.str (PySem.Str.ofString "power_2_round") 718, PySem.Value.str (PySem.Str.ofString "Polynomial.power_2_round") 719, PySem.Value.str (PySem.Str.ofString "/claim/cut.py") 720, PySem.Value.int 264 0, PySem.Value.int 2 0, PySem.Value.int 0 0, PySem.Value.int 0 0, PySem.Value.int 3 0, PySem.Value.ref 421, PySem.Value.bool Bool.true, PySem.Value.int 181 0, PySem.Value.ref 422, PySem.Value.none, PySem.Value.ref 423, PySem.Value.ref 424, PySem.Value.ref 425, PySem.Value.int 723 0, PySem.Value.int 264 0, PySem.Value.str (PySem.Str.ofString "/claim/cut.py") 724] }) ::
  (nat_lit 427, { cls := PySem.Value.type "function", data := PySem.Data.func { name := PySem.Str.ofString "power_2_round", qualname := PySem.Str.ofString "Polynomial.power_2_round", params := p427, body := PySem.FuncBody.stmts b427, scope := s427, globals := 3, closure := [], defaults := PySem.Value.none, kwdefaults := PySem.Value.none, pyModule := PySem.Value.str (PySem.Str.ofString "dilithium_py.polynomials.polynomials") 526, code := PySem.Value.ref 426 } }) ::
  (nat_lit 428, { cls := PySem.Value.type "tuple", data := PySem.Data.seq #[PySem.Value.bool Bool.false] }) ::
  (nat_lit 429, { cls := PySem.Value.type "tuple", data := PySem.Data.seq #[] }) ::
  (nat_lit 431, { cls := PySem.Value.type "tuple", data := PySem.Data.seq #[PySem.Value.str (PySem.Str.ofString "self") 729, PySem.Value.str (PySem.Str.ofString "alpha") 730, PySem.Value.str (PySem.Str.ofString "is_ntt") 731] }) ::
  (nat_lit 432, { cls := PySem.Value.type "tuple", data := PySem.Data.seq #[] }) ::
  (nat_lit 434, { cls := PySem.Value.type "code", data := PySem.Data.fields #[PySem.Value.str (PySem.Str.ofString "high_bits") 726, PySem.Value.str (PySem.Str.ofString "Polynomial.high_bits") 727, PySem.Value.str (PySem.Str.ofString "/claim/cut.py") 728, PySem.Value.int 267 0, PySem.Value.int 3 0, PySem.Value.int 0 0, PySem.Value.int 0 0, PySem.Value.int 3 0, PySem.Value.ref 429, PySem.Value.bool Bool.true, PySem.Value.int 181 0, PySem.Value.ref 430, PySem.Value.none, PySem.Value.ref 431, PySem.Value.ref 432, PySem.Value.ref 433, PySem.Value.int 732 0, PySem.Value.int 267 0, PySem.Value.str (PySem.Str.ofString "/claim/cut.py") 733] }) ::
  (nat_lit 435, { cls := PySem.Value.type "function", data := PySem.Data.func { name := PySem.Str.ofString "high_bits", qualname := PySem.Str.ofString "Polynomial.high_bits", params := p435, body := PySem.FuncBody.stmts b435, scope := s435, globals := 3, closure := [], defaults := PySem.Value.ref 428, kwdefaults := PySem.Value.none, pyModule := PySem.Value.str (PySem.Str.ofString "dilithium_py.polynomials.polynomials") 526, code := PySem.Value.ref 434 } }) ::
  (nat_lit 436, { cls := PySem.Value.type "tuple", data := PySem.Data.seq #[PySem.Value.bool Bool.false] }) ::
  (nat_lit 437, { cls := PySem.Value.type "tuple", data := PySem.Data.seq #[] }) ::
  (nat_lit 439, { cls := PySem.Value.type "tuple", data := PySem.Data.seq #[PySem.Value.str (PySem.Str.ofString "self") 738, PySem.Value.str (PySem.Str.ofString "alpha") 739, PySem.Value.str (PySem.Str.ofString "is_ntt") 740] }) ::
  (nat_lit 440, { cls := PySem.Value.type "tuple", data := PySem.Data.seq #[] }) ::
  (nat_lit 442, { cls := PySem.Value.type "code", data := PySem.Data.fields #[PySem.Value.str (PySem.Str.ofString "low_bits") 735, PySem.Value.str (PySem.Str.ofString "Polynomial.low_bits") 736, PySem.Value.str (PySem.Str.ofString "/claim/cut.py") 737, PySem.Value.int 270 0, PySem.Value.int 3 0, PySem.Value.int 0 0, PySem.Value.int 0 0, PySem.Value.int 3 0, PySem.Value.ref 437, PySem.Value.bool Bool.true, PySem.Value.int 181 0, PySem.Value.ref 438, PySem.Value.none, PySem.Value.ref 439, PySem.Value.ref 440, PySem.Value.ref 441, PySem.Value.int 741 0, PySem.Value.int 270 0, PySem.Value.str (PySem.Str.ofString "/claim/cut.py") 742] }) ::
  (nat_lit 443, { cls := PySem.Value.type "function", data := PySem.Data.func { name := PySem.Str.ofString "low_bits", qualname := PySem.Str.ofString "Polynomial.low_bits", params := p443, body := PySem.FuncBody.stmts b443, scope := s443, globals := 3, closure := [], defaults := PySem.Value.ref 436, kwdefaults := PySem.Value.none, pyModule := PySem.Value.str (PySem.Str.ofString "dilithium_py.polynomials.polynomials") 526, code := PySem.Value.ref 442 } }) ::
  (nat_lit 444, { cls := PySem.Value.type "tuple", data := PySem.Data.seq #[] }) ::
  (nat_lit 446, { cls := PySem.Value.type "tuple", data := PySem.Data.seq #[PySem.Value.str (PySem.Str.ofString "self") 748, PySem.Value.str (PySem.Str.ofString "alpha") 749] }) ::
  (nat_lit 447, { cls := PySem.Value.type "tuple", data := PySem.Data.seq #[] }) ::
  (nat_lit 449, { cls := PySem.Value.type "code", data := PySem.Data.fields #[PySem.Value.str (PySem.Str.ofString "decompose") 745, PySem.Value.str (PySem.Str.ofString "Polynomial.decompose") 746, PySem.Value.str (PySem.Str.ofString "/claim/cut.py") 747, PySem.Value.int 274 0, PySem.Value.int 2 0, PySem.Value.int 0 0, PySem.Value.int 0 0, PySem.Value.int 3 0, PySem.Value.ref 444, PySem.Value.bool Bool.true, PySem.Value.int 181 0, PySem.Value.ref 445, PySem.Value.none, PySem.Value.ref 446, PySem.Value.ref 447, PySem.Value.ref 448, PySem.Value.int 750 0, PySem.Value.int 274 0, PySem.Value.str (PySem.Str.ofString "/claim/cut.py") 751] }) ::
  (nat_lit 450, { cls := PySem.Value.type "function", data := PySem.Data.func { name := PySem.Str.ofString "decompose", qualname := PySem.Str.ofString "Polynomial.decompose", params := p450, body := PySem.FuncBody.stmts b450, scope := s450, globals := 3, closure := [], defaults := PySem.Value.none, kwdefaults := PySem.Value.none, pyModule := PySem.Value.str (PySem.Str.ofString "dilithium_py.polynomials.polynomials") 526, code := PySem.Value.ref 449 } }) ::
  (nat_lit 451, { cls := PySem.Value.type "tuple", data := PySem.Data.seq #[] }) ::
  (nat_lit 453, { cls := PySem.Value.type "tuple", data := PySem.Data.seq #[PySem.Value.str (PySem.Str.ofString "self") 756, PySem.Value.str (PySem.Str.ofString "bound") 757] }) ::
  (nat_lit 454, { cls := PySem.Value.type "tuple", data := PySem.Data.seq #[] }) ::
  (nat_lit 456, { cls := PySem.Value.type "code", data := PySem.Data.fields #[PySem.Value.str (PySem.Str.ofString "check_norm_bound") 753, PySem.Value.str (PySem.Str.ofString "Polynomial.check_norm_bound") 754, PySem.Value.str (PySem.Str.ofString "/claim/cut.py") 755, PySem.Value.int 277 0, PySem.Value.int 2 0, PySem.Value.int 0 0, PySem.Value.int 0 0, PySem.Value.int 3 0, PySem.Value.ref 451, PySem.Value.bool Bool.true, PySem.Value.int 181 0, PySem.Value.ref 452, PySem.Value.none, PySem.Value.ref 453, PySem.Value.ref 454, PySem.Value.ref 455, PySem.Value.int 758 0, PySem.Value.int 277 0, PySem.Value.str (PySem.Str.ofString "/claim/cut.py") 759] }) ::
  (nat_lit 457, { cls := PySem.Value.type "function", data := PySem.Data.func { name := PySem.Str.ofString "check_norm_bound", qualname := PySem.Str.ofString "Polynomial.check_norm_bound", params := p457, body := PySem.FuncBody.stmts b457, scope := s457, globals := 3, closure := [], defaults := PySem.Value.none, kwdefaults := PySem.Value.none, pyModule := PySem.Value.str (PySem.Str.ofString "dilithium_py.polynomials.polynomials") 526, code := PySem.Value.ref 456 } }) ::
  (nat_lit 458, { cls := PySem.Value.type "tuple", data := PySem.Data.seq #[] }) ::
  (nat_lit 460, { cls := PySem.Value.type "tuple", data := PySem.Data.seq #[PySem.Value.str (PySem.Str.ofString "coeffs") 765, PySem.Value.str (PySem.Str.ofString "n_bits") 766, PySem.Value.str (PySem.Str.ofString "n_bytes") 767] }) ::
  (nat_lit 461, { cls := PySem.Value.type "tuple", data := PySem.Data.seq #[] }) ::
  (nat_lit 463, { cls := PySem.Value.type "code", data := PySem.Data.fields #[PySem.Value.str (PySem.Str.ofString "_bit_pack") 762, PySem.Value.str (PySem.Str.ofString "Polynomial._bit_pack") 763, PySem.Value.str (PySem.Str.ofString "/claim/cut.py") 764, PySem.Value.int 281 0, PySem.Value.int 3 0, PySem.Value.int 0 0, PySem.Value.int 0 0, PySem.Value.int 3 0, PySem.Value.ref 458, PySem.Value.bool Bool.true, PySem.Value.int 181 0, PySem.Value.ref 459, PySem.Value.none, PySem.Value.ref 460, PySem.Value.ref 461, PySem.Value.ref 462, PySem.Value.int 768 0, PySem.Value.int 281 0, PySem.Value.str (PySem.Str.ofString "/claim/cut.py") 769] }) ::
  (nat_lit 464, { cls := PySem.Value.type "function", data := PySem.Data.func { name := PySem.Str.ofString "_bit_pack", qualname := PySem.Str.ofString "Polynomial._bit_pack", params := p464, body := PySem.FuncBody.stmts b464, scope := s464, globals := 3, closure := [], defaults := PySem.Value.none, kwdefaults := PySem.Value.none, pyModule := PySem.Value.str (PySem.Str.ofString "dilithium_py.polynomials.polynomials") 526, annotations := Option.some 467, code := PySem.Value.ref 463 } }) ::
  (nat_lit 465, { cls := PySem.Value.type "dict", data := PySem.Data.dict #[{ hash := PySem.PyData.keyHash P (PySem.Str.ofString "__module__"), key := PySem.Value.str (PySem.Str.ofString "__module__") 771, val := PySem.Value.str (PySem.Str.ofString "dilithium_py.polynomials.polynomials") 526 }, { hash := PySem.PyData.keyHash P (PySem.Str.ofString "__name__"), key := PySem.Value.str (PySem.Str.ofString "__name__") 774, val := PySem.Value.str (PySem.Str.ofString "_bit_pack") 773 }, { hash := PySem.PyData.keyHash P (PySem.Str.ofString "__qualname__"), key := PySem.Value.str (PySem.Str.ofString "__qualname__") 777, val := PySem.Value.str (PySem.Str.ofString "Polynomial._bit_pack") 776 }, { hash := PySem.PyData.keyHash P (PySem.Str.ofString "__doc__"), key := PySem.Value.str (PySem.Str.ofString "__doc__") 779, val := PySem.Value.none }, { hash := PySem.PyData.keyHash P (PySem.Str.ofString "__annotations__"), key := PySem.Value.str (PySem.Str.ofString "__annotations__") 781, val := PySem.Value.ref 467 }] 5 }) ::
  (nat_lit 466, { cls := PySem.Value.type "staticmethod", dict := Option.some 465, data := PySem.Data.fields #[PySem.Value.ref 464, PySem.Value.bool Bool.false] }) ::
  (nat_lit 467, { cls := PySem.Value.type "dict", data := PySem.Data.dict #[] }) ::
  (nat_lit 468, { cls := PySem.Value.type "tuple", data := PySem.Data.seq #[] }) ::
  (nat_lit 470, { cls := PySem.Value.type "tuple", data := PySem.Data.seq #[PySem.Value.str (PySem.Str.ofString "self") 786] }) ::
  (nat_lit 471, { cls := PySem.Value.type "tuple", data := PySem.Data.seq #[] }) ::
  (nat_lit 473, { cls := PySem.Value.type "code", data := PySem.Data.fields #[PySem.Value.str (PySem.Str.ofString "bit_pack_t0") 783, PySem.Value.str (PySem.Str.ofString "Polynomial.bit_pack_t0") 784, PySem.Value.str (PySem.Str.ofString "/claim/cut.py") 785, PySem.Value.int 285 0, PySem.Value.int 1 0, PySem.Value.int 0 0, PySem.Value.int 0 0, PySem.Value.int 3 0, PySem.Value.ref 468, PySem.Value.bool Bool.true, PySem.Value.int 181 0, PySem.Value.ref 469, PySem.Value.none, PySem.Value.ref 470, PySem.Value.ref 471, PySem.Value.ref 472, PySem.Value.int 787 0, PySem.Value.int 285 0, PySem.Value.str (PySem.Str.ofString "/claim/cut.py") 788] }) ::
  (nat_lit 474, { cls := PySem.Value.type "function", data := PySem.Data.func { name := PySem.Str.ofString "bit_pack_t0", qualname := PySem.Str.ofString "Polynomial.bit_pack_t0", params := p474, body := PySem.FuncBody.stmts b474, scope := s474, globals := 3, closure := [], defaults := PySem.Value.none, kwdefaults := PySem.Value.none, pyModule := PySem.Value.str (PySem.Str.ofString "dilithium_py.polynomials.polynomials") 526, code := PySem.Value.ref 473 } }) ::
  (nat_lit 475, { cls := PySem.Value.type "tuple", data := PySem.Data.seq #[] }) ::
  (nat_lit 477, { cls := PySem.Value.type "tuple", data := PySem.Data.seq #[PySem.Value.str (PySem.Str.ofString "self") 793] }) ::
  (nat_lit 478, { cls := PySem.Value.type "tuple", data := PySem.Data.seq #[] }) ::
  (nat_lit 480, { cls := PySem.Value.type "code", data := PySem.Data.fields #[PySem.Value.str (PySem.Str.ofString "bit_pack_t1") 790, PySem.Value.str (PySem.Str.ofString "Polynomial.bit_pack_t1") 791, PySem.Value.str (PySem.Str.ofString "/claim/cut.py") 792, PySem.Value.int 288 0, PySem.Value.int 1 0, PySem.Value.int 0 0, PySem.Value.int 0 0, PySem.Value.int 3 0, PySem.Value.ref 475, PySem.Value.bool Bool.true, PySem.Value.int 181 0, PySem.Value.ref 476, PySem.Value.none, PySem.Value.ref 477, PySem.Value.ref 478, PySem.Value.ref 479, PySem.Value.int 794 0, PySem.Value.int 288 0, PySem.Value.str (PySem.Str.ofString "/claim/cut.py") 795] }) ::
  (nat_lit 481, { cls := PySem.Value.type "function", data := PySem.Data.func { name := PySem.Str.ofString "bit_pack_t1", qualname := PySem.Str.ofString "Polynomial.bit_pack_t1", params := p481, body := PySem.FuncBody.stmts b481, scope := s481, globals := 3, closure := [], defaults := PySem.Value.none, kwdefaults := PySem.Value.none, pyModule := PySem.Value.str (PySem.Str.ofString "dilithium_py.polynomials.polynomials") 526, code := PySem.Value.ref 480 } }) ::
  (nat_lit 482, { cls := PySem.Value.type "tuple", data := PySem.Data.seq #[] }) ::
  (nat_lit 484, { cls := PySem.Value.type "tuple", data := PySem.Data.seq #[PySem.Value.str (PySem.Str.ofString "self") 800, PySem.Value.str (PySem.Str.ofString "eta") 801] }) ::
  (nat_lit 485, { cls := PySem.Value.type "tuple", data := PySem.Data.seq #[] }) ::
  (nat_lit 487, { cls := PySem.Value.type "code", data := PySem.Data.fields #[PySem.Value.str (PySem.Str.ofString "bit_pack_s") 797, PySem.Value.str (PySem.Str.ofString "Polynomial.bit_pack_s") 798, PySem.Value.str (PySem.Str.ofString "/claim/cut.py") 799, PySem.Value.int 291 0, PySem.Value.int 2 0, PySem.Value.int 0 0, PySem.Value.int 0 0, PySem.Value.int 3 0, PySem.Value.ref 482, PySem.Value.bool Bool.true, PySem.Value.int 181 0, PySem.Value.ref 483, PySem.Value.none, PySem.Value.ref 484, PySem.Value.ref 485, PySem.Value.ref 486, PySem.Value.int 802 0, PySem.Value.int 291 0, PySem.Value.str (PySem.Str.ofString "/claim/cut.py") 803] }) ::
  (nat_lit 488, { cls := PySem.Value.type "function", data := PySem.Data.func { name := PySem.Str.ofString "bit_pack_s", qualname := PySem.Str.ofString "Polynomial.bit_pack_s", params := p488, body := PySem.FuncBody.stmts b488, scope := s488, globals := 3, closure := [], defaults := PySem.Value.none, kwdefaults := PySem.Value.none, pyModule := PySem.Value.str (PySem.Str.ofString "dilithium_py.polynomials.polynomials") 526, code := PySem.Value.ref 487 } }) ::
  (nat_lit 489, { cls := PySem.Value.type "tuple", data := PySem.Data.seq #[] }) ::
  (nat_lit 491, { cls := PySem.Value.type "tuple", data := PySem.Data.seq #[PySem.Value.str (PySem.Str.ofString "self") 808, PySem.Value.str (PySem.Str.ofString "gamma_2") 809] }) ::
  (nat_lit 492, { cls := PySem.Value.type "tuple", data := PySem.Data.seq #[] }) ::
  (nat_lit 494, { cls := PySem.Value.type "code", data := PySem.Data.fields #[PySem.Value.str (PySem.Str.ofString "bit_pack_w") 805, PySem.Value.str (PySem.Str.ofString "Polynomial.bit_pack_w") 806, PySem.Value.str (PySem.Str.ofString "/claim/cut.py") 807, PySem.Value.int 294 0, PySem.Value.int 2 0, PySem.Value.int 0 0, PySem.Value.int 0 0, PySem.Value.int 3 0, PySem.Value.ref 489, PySem.Value.bool Bool.true, PySem.Value.int 181 0, PySem.Value.ref 490, PySem.Value.none, PySem.Value.ref 491, PySem.Value.ref 492, PySem.Value.ref 493, PySem.Value.int 810 0, PySem.Value.int 294 0, PySem.Value.str (PySem.Str.ofString "/claim/cut.py") 811] }) ::
  (nat_lit 495, { cls := PySem.Value.type "function", data := PySem.Data.func { name := PySem.Str.ofString "bit_pack_w", qualname := PySem.Str.ofString "Polynomial.bit_pack_w", params := p495, body := PySem.FuncBody.stmts b495, scope := s495, globals := 3, closure := [], defaults := PySem.Value.none, kwdefaults := PySem.Value.none, pyModule := PySem.Value.str (PySem.Str.ofString "dilithium_py.polynomials.polynomials") 526, code := PySem.Value.ref 494 } }) ::
  (nat_lit 496, { cls := PySem.Value.type "tuple", data := PySem.Data.seq #[] }) ::
  (nat_lit 498, { cls := PySem.Value.type "tuple", data := PySem.Data.seq #[PySem.Value.str (PySem.Str.ofString "self") 816, PySem.Value.str (PySem.Str.ofString "gamma_1") 817] }) ::
  (nat_lit 499, { cls := PySem.Value.type "tuple", data := PySem.Data.seq #[] }) ::
  (nat_lit 501, { cls := PySem.Value.type "code", data := PySem.Data.fields #[PySem.Value.str (PySem.Str.ofString "bit_pack_z") 813, PySem.Value.str (PySem.Str.ofString "Polynomial.bit_pack_z") 814, PySem.Value.str (PySem.Str.ofString "/claim/cut.py") 815, PySem.Value.int 297 0, PySem.Value.int 2 0, PySem.Value.int 0 0, PySem.Value.int 0 0, PySem.Value.int 3 0, PySem.Value.ref 496, PySem.Value.bool Bool.true, PySem.Value.int 181 0, PySem.Value.ref 497, PySem.Value.none, PySem.Value.ref 498, PySem.Value.ref 499, PySem.Value.ref 500, PySem.Value.int 818 0, PySem.Value.int 297 0, PySem.Value.str (PySem.Str.ofString "/claim/cut.py") 819] }) ::
  (nat_lit 502, { cls := PySem.Value.type "function", data := PySem.Data.func { name := PySem.Str.ofString "bit_pack_z", qualname := PySem.Str.ofString "Polynomial.bit_pack_z", params := p502, body := PySem.FuncBody.stmts b502, scope := s502, globals := 3, closure := [], defaults := PySem.Value.none, kwdefaults := PySem.Value.none, pyModule := PySem.Value.str (PySem.Str.ofString "dilithium_py.polynomials.polynomials") 526, code := PySem.Value.ref 501 } }) ::
  (nat_lit 503, { cls := PySem.Value.type "tuple", data := PySem.Data.seq #[] }) ::
  (nat_lit 505, { cls := PySem.Value.type "tuple", data := PySem.Data.seq #[PySem.Value.str (PySem.Str.ofString "self") 824, PySem.Value.str (PySem.Str.ofString "other") 825, PySem.Value.str (PySem.Str.ofString "alpha") 826] }) ::
  (nat_lit 506, { cls := PySem.Value.type "tuple", data := PySem.Data.seq #[] }) ::
  (nat_lit 508, { cls := PySem.Value.type "code", data := PySem.Data.fields #[PySem.Value.str (PySem.Str.ofString "make_hint") 821, PySem.Value.str (PySem.Str.ofString "Polynomial.make_hint") 822, PySem.Value.str (PySem.Str.ofString "/claim/cut.py") 823, PySem.Value.int 300 0, PySem.Value.int 3 0, PySem.Value.int 0 0, PySem.Value.int 0 0, PySem.Value.int 3 0, PySem.Value.ref 503, PySem.Value.bool Bool.true, PySem.Value.int 181 0, PySem.Value.ref 504, PySem.Value.none, PySem.Value.ref 505, PySem.Value.ref 506, PySem.Value.ref 507, PySem.Value.int 827 0, PySem.Value.int 300 0, PySem.Value.str (PySem.Str.ofString "/claim/cut.py") 828] }) ::
  (nat_lit 509, { cls := PySem.Value.type "function", data := PySem.Data.func { name := PySem.Str.ofString "make_hint", qualname := PySem.Str.ofString "Polynomial.make_hint", params := p509, body := PySem.FuncBody.stmts b509, scope := s509, globals := 3, closure := [], defaults := PySem.Value.none, kwdefaults := PySem.Value.none, pyModule := PySem.Value.str (PySem.Str.ofString "dilithium_py.polynomials.polynomials") 526, code := PySem.Value.ref 508 } }) ::
  (nat_lit 510, { cls := PySem.Value.type "tuple", data := PySem.Data.seq #[] }) ::
  (nat_lit 512, { cls := PySem.Value.type "tuple", data := PySem.Data.seq #[PySem.Value.str (PySem.Str.ofString "self") 833, PySem.Value.str (PySem.Str.ofString "other") 834, PySem.Value.str (PySem.Str.ofString "alpha") 835] }) ::
  (nat_lit 513, { cls := PySem.Value.type "tuple", data := PySem.Data.seq #[] }) ::
  (nat_lit 515, { cls := PySem.Value.type "code", data := PySem.Data.fields #[PySem.Value.str (PySem.Str.ofString "make_hint_optimised") 830, PySem.Value.str (PySem.Str.ofString "Polynomial.make_hint_optimised") 831, PySem.Value.str (PySem.Str.ofString "/claim/cut.py") 832, PySem.Value.int 303 0, PySem.Value.int 3 0, PySem.Value.int 0 0, PySem.Value.int 0 0, PySem.Value.int 3 0, PySem.Value.ref 510, PySem.Value.bool Bool.true, PySem.Value.int 181 0, PySem.Value.ref 511, PySem.Value.none, PySem.Value.ref 512, PySem.Value.ref 513, PySem.Value.ref 514, PySem.Value.int 836 0, PySem.Value.int 303 0, PySem.Value.str (PySem.Str.ofString "/claim/cut.py") 837] }) ::
  (nat_lit 516, { cls := PySem.Value.type "function", data := PySem.Data.func { name := PySem.Str.ofString "make_hint_optimised", qualname := PySem.Str.ofString "Polynomial.make_hint_optimised", params := p516, body := PySem.FuncBody.stmts b516, scope := s516, globals := 3, closure := [], defaults := PySem.Value.none, kwdefaults := PySem.Value.none, pyModule := PySem.Value.str (PySem.Str.ofString "dilithium_py.polynomials.polynomials") 526, code := PySem.Value.ref 515 } }) ::
  (nat_lit 517, { cls := PySem.Value.type "tuple", data := PySem.Data.seq #[] }) ::
  (nat_lit 519, { cls := PySem.Value.type "tuple", data := PySem.Data.seq #[PySem.Value.str (PySem.Str.ofString "self") 842, PySem.Value.str (PySem.Str.ofString "other") 843, PySem.Value.str (PySem.Str.ofString "alpha") 844] }) ::
  (nat_lit 520, { cls := PySem.Value.type "tuple", data := PySem.Data.seq #[] }) ::
  (nat_lit 522, { cls := PySem.Value.type "code", data := PySem.Data.fields #[PySem.Value.str (PySem.Str.ofString "use_hint") 839, PySem.Value.str (PySem.Str.ofString "Polynomial.use_hint") 840, PySem.Value.str (PySem.Str.ofString "/claim/cut.py") 841, PySem.Value.int 306 0, PySem.Value.int 3 0, PySem.Value.int 0 0, PySem.Value.int 0 0, PySem.Value.int 3 0, PySem.Value.ref 517, PySem.Value.bool Bool.true, PySem.Value.int 181 0, PySem.Value.ref 518, PySem.Value.none, PySem.Value.ref 519, PySem.Value.ref 520, PySem.Value.ref 521, PySem.Value.int 845 0, PySem.Value.int 306 0, PySem.Value.str (PySem.Str.ofString "/claim/cut.py") 846] }) ::
  (nat_lit 523, { cls := PySem.Value.type "function", data := PySem.Data.func { name := PySem.Str.ofString "use_hint", qualname := PySem.Str.ofString "Polynomial.use_hint", params := p523, body := PySem.FuncBody.stmts b523, scope := s523, globals := 3, closure := [], defaults := PySem.Value.none, kwdefaults := PySem.Value.none, pyModule := PySem.Value.str (PySem.Str.ofString "dilithium_py.polynomials.polynomials") 526, code := PySem.Value.ref 522 } }) ::
  (nat_lit 524, { cls := PySem.Value.type "tuple", data := PySem.Data.seq #[PySem.Value.str (PySem.Str.ofString "coeffs") 848, PySem.Value.str (PySem.Str.ofString "parent") 849] }) ::
  (nat_lit 525, { cls := PySem.Value.type "dict", data := PySem.Data.dict #[{ hash := PySem.PyData.keyHash P (PySem.Str.ofString "__module__"), key := PySem.Value.str (PySem.Str.ofString "__module__") 690, val := PySem.Value.str (PySem.Str.ofString "dilithium_py.polynomials.polynomials") 526 }, { hash := PySem.PyData.keyHash P (PySem.Str.ofString "__firstlineno__"), key := PySem.Value.str (PySem.Str.ofString "__firstlineno__") 694, val := PySem.Value.int 252 693 }, { hash := PySem.PyData.keyHash P (PySem.Str.ofString "__init__"), key := PySem.Value.str (PySem.Str.ofString "__init__") 703, val := PySem.Value.ref 406 }, { hash := PySem.PyData.keyHash P (PySem.Str.ofString "to_ntt"), key := PySem.Value.str (PySem.Str.ofString "to_ntt") 710, val := PySem.Value.ref 413 }, { hash := PySem.PyData.keyHash P (PySem.Str.ofString "from_ntt"), key := PySem.Value.str (PySem.Str.ofString "from_ntt") 717, val := PySem.Value.ref 420 }, { hash := PySem.PyData.keyHash P (PySem.Str.ofString "power_2_round"), key := PySem.Value.str (PySem.Str.ofString "power_2_round") 725, val := PySem.Value.ref 427 }, { hash := PySem.PyData.keyHash P (PySem.Str.ofString "high_bits"), key := PySem.Value.str (PySem.Str.ofString "high_bits") 734, val := PySem.Value.ref 435 }, { hash := PySem.PyData.keyHash P (PySem.Str.ofString "low_bits"), key := PySem.Value.str (PySem.Str.ofString "low_bits") 743, val := PySem.Value.ref 443 }, { hash := PySem.PyData.keyHash P (PySem.Str.ofString "decompose"), key := PySem.Value.str (PySem.Str.ofString "decompose") 752, val := PySem.Value.ref 450 }, { hash := PySem.PyData.keyHash P (PySem.Str.ofString "check_norm_bound"), key := PySem.Value.str (PySem.Str.ofString "check_norm_bound") 760, val := PySem.Value.ref 457 }, { hash := PySem.PyData.keyHash P (PySem.Str.ofString "_bit_pack"), key := PySem.Value.str (PySem.Str.ofString "_bit_pack") 782, val := PySem.Value.ref 466 }, { hash := PySem.PyData.keyHash P (PySem.Str.ofString "bit_pack_t0"), key := PySem.Value.str (PySem.Str.ofString "bit_pack_t0") 789, val := PySem.Value.ref 474 }, { hash := PySem.PyData.keyHash P (PySem.Str.ofString "bit_pack_t1"), key := PySem.Value.str (PySem.Str.ofString "bit_pack_t1") 796, val := PySem.Value.ref 481 }, { hash := PySem.PyData.keyHash P (PySem.Str.ofString "bit_pack_s"), key := PySem.Value.str (PySem.Str.ofString "bit_pack_s") 804, val := PySem.Value.ref 488 }, { hash := PySem.PyData.keyHash P (PySem.Str.ofString "bit_pack_w"), key := PySem.Value.str (PySem.Str.ofString "bit_pack_w") 812, val := PySem.Value.ref 495 }, { hash := PySem.PyData.keyHash P (PySem.Str.ofString "bit_pack_z"), key := PySem.Value.str (PySem.Str.ofString "bit_pack_z") 820, val := PySem.Value.ref 502 }, { hash := PySem.PyData.keyHash P (PySem.Str.ofString "make_hint"), key := PySem.Value.str (PySem.Str.ofString "make_hint") 829, val := PySem.Value.ref 509 }, { hash := PySem.PyData.keyHash P (PySem.Str.ofString "make_hint_optimised"), key := PySem.Value.str (PySem.Str.ofString "make_hint_optimised") 838, val := PySem.Value.ref 516 }, { hash := PySem.PyData.keyHash P (PySem.Str.ofString "use_hint"), key := PySem.Value.str (PySem.Str.ofString "use_hint") 847, val := PySem.Value.ref 523 }, { hash := PySem.PyData.keyHash P (PySem.Str.ofString "__static_attributes__"), key := PySem.Value.str (PySem.Str.ofString "__static_attributes__") 850, val := PySem.Value.ref 524 }, { hash := PySem.PyData.keyHash P (PySem.Str.ofString "__doc__"), key := PySem.Value.str (PySem.Str.ofString "__doc__") 851, val := PySem.Value.none }] 2 }) ::
  (nat_lit 526, { cls := PySem.Value.type "type", data := PySem.Data.cls { name := PySem.Str.ofString "Polynomial", bases := [PySem.Value.ref 229], mro := [PySem.Value.ref 526, PySem.Value.ref 229, PySem.Value.type "object"], ns := 525, qualname := PySem.Str.ofString "Polynomial", subclasses := [PySem.Value.ref 590] }, slots := #[Option.some (PySem.Value.ref 393), Option.none, Option.some (PySem.Value.str (PySem.Str.ofString "Polynomial") 683), Option.some (PySem.Value.str (PySem.Str.ofString "Polynomial") 691), Option.some (PySem.Value.builtin "object.__new__"), Option.some (PySem.Value.bool Bool.true)] }) ::
  (nat_lit 529, { cls := PySem.Value.type "tuple", data := PySem.Data.seq #[PySem.Value.ref 526] }) ::
  (nat_lit 536, { cls := PySem.Value.type "tuple", data := PySem.Data.seq #[] }) ::
  (nat_lit 538, { cls := PySem.Value.type "tuple", data := PySem.Data.seq #[PySem.Value.str (PySem.Str.ofString "self") 869, PySem.Value.str (PySem.Str.ofString "parent") 870, PySem.Value.str (PySem.Str.ofString "coefficients") 871] }) ::
  (nat_lit 539, { cls := PySem.Value.type "tuple", data := PySem.Data.seq #[] }) ::
  (nat_lit 541, { cls := PySem.Value.type "code", data := PySem.Data.fields #[PySem.Value.str (PySem.Str.ofString "__init__") 866, PySem.Value.str (PySem.Str.ofString "PolynomialNTT.__init__") 867, PySem.Value.str (PySem.Str.ofString "/claim/cut.py") 868, PySem.Value.int 310 0, PySem.Value.int 3 0, PySem.Value.int 0 0, PySem.Value.int 0 0, PySem.Value.int 3 0, PySem.Value.ref 536, PySem.Value.bool Bool.true, PySem.Value.int 181 0, PySem.Value.ref 537, PySem.Value.none, PySem.Value.ref 538, PySem.Value.ref 539, PySem.Value.ref 540, PySem.Value.int 872 0, PySem.Value.int 310 0, PySem.Value.str (PySem.Str.ofString "/claim/cut.py") 873] }) ::
  (nat_lit 542, { cls := PySem.Value.type "function", data := PySem.Data.func { name := PySem.Str.ofString "__init__", qualname := PySem.Str.ofString "PolynomialNTT.__init__", params := p542, body := PySem.FuncBody.stmts b542, scope := s542, globals := 3, closure := [], defaults := PySem.Value.none, kwdefaults := PySem.Value.none, pyModule := PySem.Value.str (PySem.Str.ofString "dilithium_py.polynomials.polynomials") 526, code := PySem.Value.ref 541 } }) ::
  (nat_lit 543, { cls := PySem.Value.type "tuple", data := PySem.Data.seq #[] }) ::
  (nat_lit 545, { cls := PySem.Value.type "tuple", data := PySem.Data.seq #[PySem.Value.str (PySem.Str.ofString "self") 878] }) ::
  (nat_lit 546, { cls := PySem.Value.type "tuple", data := PySem.Data.seq #[] }) ::
  (nat_lit 548, { cls := PySem.Value.type "code", data := PySem.Data.fields #[PySem.Value.str (PySem.Str.ofString "to_ntt") 875, PySem.Value.str (PySem.Str.ofString "PolynomialNTT.to_ntt") 876, PySem.Value.str (PySem.Str.ofString "/claim/cut.py") 877, PySem.Value.int 314 0, PySem.Value.int 1 0, PySem.Value.int 0 0, PySem.Value.int 0 0, PySem.Value.int 3 0, PySem.Value.ref 543, PySem.Value.bool Bool.true, PySem.Value.int 181 0, PySem.Value.ref 544, PySem.Value.none, PySem.Value.ref 545, PySem.Value.ref 546, PySem.Value.ref 547, PySem.Value.int 879 0, PySem.Value.int 314 0, PySem.Value.str (PySem.Str.ofString "/claim/cut.py") 880] }) ::
  (nat_lit 549, { cls := PySem.Value.type "function", data := PySem.Data.func { name := PySem.Str.ofString "to_ntt", qualname := PySem.Str.ofString "PolynomialNTT.to_ntt", params := p549, body := PySem.FuncBody.stmts b549, scope := s549, globals := 3, closure := [], defaults := PySem.Value.none, kwdefaults := PySem.Value.none, pyModule := PySem.Value.str (PySem.Str.ofString "dilithium_py.polynomials.polynomials") 526, code := PySem.Value.ref 548 } }) ::
  (nat_lit 550, { cls := PySem.Value.type "tuple", data := PySem.Data.seq #[] }) ::
  (nat_lit 552, { cls := PySem.Value.type "tuple", data := PySem.Data.seq #[PySem.Value.str (PySem.Str.ofString "self") 885] }) ::
  (nat_lit 553, { cls := PySem.Value.type "tuple", data := PySem.Data.seq #[] }) ::
  (nat_lit 555, { cls := PySem.Value.type "code", data := PySem.Data.fields #[PySem.Value.str (PySem.Str.ofString "from_ntt") 882, PySem.Value.str (PySem.Str.ofString "PolynomialNTT.from_ntt") 883, PySem.Value.str (PySem.Str.ofString "/claim/cut.py") 884, PySem.Value.int 317 0, PySem.Value.int 1 0, PySem.Value.int 0 0, PySem.Value.int 0 0, PySem.Value.int 3 0, PySem.Value.ref 550, PySem.Value.bool Bool.true, PySem.Value.int 181 0, PySem.Value.ref 551, PySem.Value.none, PySem.Value.ref 552, PySem.Value.ref 553, PySem.Value.ref 554, PySem.Value.int 886 0, PySem.Value.int 317 0, PySem.Value.str (PySem.Str.ofString "/claim/cut.py") 887] }) ::
  (nat_lit 556, { cls := PySem.Value.type "function", data := PySem.Data.func { name := PySem.Str.ofString "from_ntt", qualname := PySem.Str.ofString "PolynomialNTT.from_ntt", params := p556, body := PySem.FuncBody.stmts b556, scope := s556, globals := 3, closure := [], defaults := PySem.Value.none, kwdefaults := PySem.Value.none, pyModule := PySem.Value.str (PySem.Str.ofString "dilithium_py.polynomials.polynomials") 526, code := PySem.Value.ref 555 } }) ::
  (nat_lit 557, { cls := PySem.Value.type "tuple", data := PySem.Data.seq #[] }) ::
  (nat_lit 560, { cls := PySem.Value.type "code", data := PySem.Data.fields #[PySem.Value.str (PySem.Str.ofString "ntt_coefficient_multiplication") 889, PySem.Value.str (PySem.Str.ofString "PolynomialNTT.ntt_coefficient_multiplication") 890, PySem.Value.str (PySem.Str.ofString "/claim/cut.py") 891, PySem.Value.int 320 0, PySem.Value.int 3 0, PySem.Value.int 0 0, PySem.Value.int 0 0, PySem.Value.int 3 0, PySem.Value.ref 557, PySem.Value.bool Bool.true, PySem.Value.int 181 0, PySem.Value.ref 558, PySem.Value.none, PySem.Value.none, PySem.Value.none, PySem.Value.ref 559, PySem.Value.int 892 0, PySem.Value.int 320 0, PySem.Value.str (PySem.Str.ofString "/claim/cut.py") 893] }) ::
  (nat_lit 561, { cls := PySem.Value.type "function", data := PySem.Data.func { name := PySem.Str.ofString "ntt_coefficient_multiplication", qualname := PySem.Str.ofString "PolynomialNTT.ntt_coefficient_multiplication", params := p561, body := PySem.FuncBody.stmts b561, scope := s561, globals := 3, closure := [], defaults := PySem.Value.none, kwdefaults := PySem.Value.none, pyModule := PySem.Value.str (PySem.Str.ofString "dilithium_py.polynomials.polynomials") 526, code := PySem.Value.ref 560 } }) ::
  (nat_lit 562, { cls := PySem.Value.type "tuple", data := PySem.Data.seq #[] }) ::
  (nat_lit 564, { cls := PySem.Value.type "tuple", data := PySem.Data.seq #[PySem.Value.str (PySem.Str.ofString "self") 898, PySem.Value.str (PySem.Str.ofString "other") 899, PySem.Value.str (PySem.Str.ofString "new_coeffs") 900] }) ::
  (nat_lit 565, { cls := PySem.Value.type "tuple", data := PySem.Data.seq #[] }) ::
  (nat_lit 567, { cls := PySem.Value.type "code", data := PySem.Data.fields #[PySem.Value.str (PySem.Str.ofString "ntt_multiplication") 895, PySem.Value.str (PySem.Str.ofString "PolynomialNTT.ntt_multiplication") 896, PySem.Value.str (PySem.Str.ofString "/claim/cut.py") 897, PySem.Value.int 323 0, PySem.Value.int 2 0, PySem.Value.int 0 0, PySem.Value.int 0 0, PySem.Value.int 3 0, PySem.Value.ref 562, PySem.Value.bool Bool.true, PySem.Value.int 181 0, PySem.Value.ref 563, PySem.Value.none, PySem.Value.ref 564, PySem.Value.ref 565, PySem.Value.ref 566, PySem.Value.int 901 0, PySem.Value.int 323 0, PySem.Value.str (PySem.Str.ofString "/claim/cut.py") 902] }) ::
  (nat_lit 568, { cls := PySem.Value.type "function", data := PySem.Data.func { name := PySem.Str.ofString "ntt_multiplication", qualname := PySem.Str.ofString "PolynomialNTT.ntt_multiplication", params := p568, body := PySem.FuncBody.stmts b568, scope := s568, globals := 3, closure := [], defaults := PySem.Value.none, kwdefaults := PySem.Value.none, pyModule := PySem.Value.str (PySem.Str.ofString "dilithium_py.polynomials.polynomials") 526, code := PySem.Value.ref 567 } }) ::
  (nat_lit 569, { cls := PySem.Value.type "tuple", data := PySem.Data.seq #[] }) ::
  (nat_lit 571, { cls := PySem.Value.type "tuple", data := PySem.Data.seq #[PySem.Value.str (PySem.Str.ofString "self") 907, PySem.Value.str (PySem.Str.ofString "other") 908, PySem.Value.str (PySem.Str.ofString "new_coeffs") 909] }) ::
  (nat_lit 572, { cls := PySem.Value.type "tuple", data := PySem.Data.seq #[] }) ::
  (nat_lit 574, { cls := PySem.Value.type "code", data := PySem.Data.fields #[PySem.Value.str (PySem.Str.ofString "__add__") 904, PySem.Value.str (PySem.Str.ofString "PolynomialNTT.__add__") 905, PySem.Value.str (PySem.Str.ofString "/claim/cut.py") 906, PySem.Value.int 329 0, PySem.Value.int 2 0, PySem.Value.int 0 0, PySem.Value.int 0 0, PySem.Value.int 3 0, PySem.Value.ref 569, PySem.Value.bool Bool.true, PySem.Value.int 181 0, PySem.Value.ref 570, PySem.Value.none, PySem.Value.ref 571, PySem.Value.ref 572, PySem.Value.ref 573, PySem.Value.int 910 0, PySem.Value.int 329 0, PySem.Value.str (PySem.Str.ofString "/claim/cut.py") 911] }) ::
  (nat_lit 575, { cls := PySem.Value.type "function", data := PySem.Data.func { name := PySem.Str.ofString "__add__", qualname := PySem.Str.ofString "PolynomialNTT.__add__", params := p575, body := PySem.FuncBody.stmts b575, scope := s575, globals := 3, closure := [], defaults := PySem.Value.none, kwdefaults := PySem.Value.none, pyModule := PySem.Value.str (PySem.Str.ofString "dilithium_py.polynomials.polynomials") 526, code := PySem.Value.ref 574 } }) ::
  (nat_lit 576, { cls := PySem.Value.type "tuple", data := PySem.Data.seq #[] }) ::
  (nat_lit 578, { cls := PySem.Value.type "tuple", data := PySem.Data.seq #[PySem.Value.str (PySem.Str.ofString "self") 916, PySem.Value.str (PySem.Str.ofString "other") 917, PySem.Value.str (PySem.Str.ofString "new_coeffs") 918] }) ::
  (nat_lit 579, { cls := PySem.Value.type "tuple", data := PySem.Data.seq #[] }) ::
  (nat_lit 581, { cls := PySem.Value.type "code", data := PySem.Data.fields #[PySem.Value.str (PySem.Str.ofString "__sub__") 913, PySem.Value.str (PySem.Str.ofString "PolynomialNTT.__sub__") 914, PySem.Value.str (PySem.Str.ofString "/claim/cut.py") 915, PySem.Value.int 333 0, PySem.Value.int 2 0, PySem.Value.int 0 0, PySem.Value.int 0 0, PySem.Value.int 3 0, PySem.Value.ref 576, PySem.Value.bool Bool.true, PySem.Value.int 181 0, PySem.Value.ref 577, PySem.Value.none, PySem.Value.ref 578, PySem.Value.ref 579, PySem.Value.ref 580, PySem.Value.int 919 0, PySem.Value.int 333 0, PySem.Value.str (PySem.Str.ofString "/claim/cut.py") 920] }) ::
  (nat_lit 582, { cls := PySem.Value.type "function", data := PySem.Data.func { name := PySem.Str.ofString "__sub__", qualname := PySem.Str.ofString "PolynomialNTT.__sub__", params := p582, body := PySem.FuncBody.stmts b582, scope := s582, globals := 3, closure := [], defaults := PySem.Value.none, kwdefaults := PySem.Value.none, pyModule := PySem.Value.str (PySem.Str.ofString "dilithium_py.polynomials.polynomials") 526, code := PySem.Value.ref 581 } }) ::
  (nat_lit 583, { cls := PySem.Value.type "tuple", data := PySem.Data.seq #[] }) ::
  (nat_lit 586, { cls := PySem.Value.type "code", data := PySem.Data.fields #[PySem.Value.str (PySem.Str.ofString "__mul__") 922, PySem.Value.str (PySem.Str.ofString "PolynomialNTT.__mul__") 923, PySem.Value.str (PySem.Str.ofString "/claim/cut.py") 924, PySem.Value.int 337 0, PySem.Value.int 2 0, PySem.Value.int 0 0, PySem.Value.int 0 0, PySem.Value.int 3 0, PySem.Value.ref 583, PySem.Value.bool Bool.true, PySem.Value.int 181 0, PySem.Value.ref 584, PySem.Value.none, PySem.Value.none, PySem.Value.none, PySem.Value.ref 585, PySem.Value.int 925 0, PySem.Value.int 337 0, PySem.Value.str (PySem.Str.ofString "/claim/cut.py") 926] }) ::
  (nat_lit 587, { cls := PySem.Value.type "function", data := PySem.Data.func { name := PySem.Str.ofString "__mul__", qualname := PySem.Str.ofString "PolynomialNTT.__mul__", params := p587, body := PySem.FuncBody.stmts b587, scope := s587, globals := 3, closure := [], defaults := PySem.Value.none, kwdefaults := PySem.Value.none, pyModule := PySem.Value.str (PySem.Str.ofString "dilithium_py.polynomials.polynomials") 526, code := PySem.Value.ref 586 } }) ::
  (nat_lit 588, { cls := PySem.Value.type "tuple", data := PySem.Data.seq #[PySem.Value.str (PySem.Str.ofString "coeffs") 928, PySem.Value.str (PySem.Str.ofString "parent") 929] }) ::
  (nat_lit 589, { cls := PySem.Value.type "dict", data := PySem.Data.dict #[{ hash := PySem.PyData.keyHash P (PySem.Str.ofString "__module__"), key := PySem.Value.str (PySem.Str.ofString "__module__") 861, val := PySem.Value.str (PySem.Str.ofString "dilithium_py.polynomials.polynomials") 526 }, { hash := PySem.PyData.keyHash P (PySem.Str.ofString "__firstlineno__"), key := PySem.Value.str (PySem.Str.ofString "__firstlineno__") 865, val := PySem.Value.int 308 864 }, { hash := PySem.PyData.keyHash P (PySem.Str.ofString "__init__"), key := PySem.Value.str (PySem.Str.ofString "__init__") 874, val := PySem.Value.ref 542 }, { hash := PySem.PyData.keyHash P (PySem.Str.ofString "to_ntt"), key := PySem.Value.str (PySem.Str.ofString "to_ntt") 881, val := PySem.Value.ref 549 }, { hash := PySem.PyData.keyHash P (PySem.Str.ofString "from_ntt"), key := PySem.Value.str (PySem.Str.ofString "from_ntt") 888, val := PySem.Value.ref 556 }, { hash := PySem.PyData.keyHash P (PySem.Str.ofString "ntt_coefficient_multiplication"), key := PySem.Value.str (PySem.Str.ofString "ntt_coefficient_multiplication") 894, val := PySem.Value.ref 561 }, { hash := PySem.PyData.keyHash P (PySem.Str.ofString "ntt_multiplication"), key := PySem.Value.str (PySem.Str.ofString "ntt_multiplication") 903, val := PySem.Value.ref 568 }, { hash := PySem.PyData.keyHash P (PySem.Str.ofString "__add__"), key := PySem.Value.str (PySem.Str.ofString "__add__") 912, val := PySem.Value.ref 575 }, { hash := PySem.PyData.keyHash P (PySem.Str.ofString "__sub__"), key := PySem.Value.str (PySem.Str.ofString "__sub__") 921, val := PySem.Value.ref 582 }, { hash := PySem.PyData.keyHash P (PySem.Str.ofString "__mul__"), key := PySem.Value.str (PySem.Str.ofString "__mul__") 927, val := PySem.Value.ref 587 }, { hash := PySem.PyData.keyHash P (PySem.Str.ofString "__static_attributes__"), key := PySem.Value.str (PySem.Str.ofString "__static_attributes__") 930, val := PySem.Value.ref 588 }, { hash := PySem.PyData.keyHash P (PySem.Str.ofString "__doc__"), key := PySem.Value.str (PySem.Str.ofString "__doc__") 931, val := PySem.Value.none }] 2 }) ::
  (nat_lit 590, { cls := PySem.Value.type "type", data := PySem.Data.cls { name := PySem.Str.ofString "PolynomialNTT", bases := [PySem.Value.ref 526], mro := [PySem.Value.ref 590, PySem.Value.ref 526, PySem.Value.ref 229, PySem.Value.type "object"], ns := 589, qualname := PySem.Str.ofString "PolynomialNTT" }, slots := #[Option.some (PySem.Value.ref 529), Option.none, Option.some (PySem.Value.str (PySem.Str.ofString "PolynomialNTT") 854), Option.some (PySem.Value.str (PySem.Str.ofString "PolynomialNTT") 862), Option.some (PySem.Value.builtin "object.__new__"), Option.some (PySem.Value.bool Bool.true)] }) ::
  (nat_lit 593, { cls := PySem.Value.type "tuple", data := PySem.Data.seq #[] }) ::
  (nat_lit 595, { cls := PySem.Value.type "tuple", data := PySem.Data.seq #[PySem.Value.str (PySem.Str.ofString "data") 939, PySem.Value.str (PySem.Str.ofString "count") 940] }) ::
  (nat_lit 596, { cls := PySem.Value.type "tuple", data := PySem.Data.seq #[] }) ::
  (nat_lit 598, { cls := PySem.Value.type "code", data := PySem.Data.fields #[PySem.Value.str (PySem.Str.ofString "_law_no_stream") 936, PySem.Value.str (PySem.Str.ofString "_law_no_stream") 937, PySem.Value.str (PySem.Str.ofString "/claim/cut.py") 938, PySem.Value.int 346 0, PySem.Value.int 2 0, PySem.Value.int 0 0, PySem.Value.int 0 0, PySem.Value.int 3 0, PySem.Value.ref 593, PySem.Value.bool Bool.true, PySem.Value.int 181 0, PySem.Value.ref 594, PySem.Value.none, PySem.Value.ref 595, PySem.Value.ref 596, PySem.Value.ref 597, PySem.Value.int 941 0, PySem.Value.int 346 0, PySem.Value.str (PySem.Str.ofString "/claim/cut.py") 942] }) ::
  (nat_lit 599, { cls := PySem.Value.type "function", data := PySem.Data.func { name := PySem.Str.ofString "_law_no_stream", qualname := PySem.Str.ofString "_law_no_stream", params := p599, body := PySem.FuncBody.stmts b599, scope := s599, globals := 3, closure := [], defaults := PySem.Value.none, kwdefaults := PySem.Value.none, pyModule := PySem.Value.str (PySem.Str.ofString "law_bd0004_01") 934, code := PySem.Value.ref 598 } }) ::
  (nat_lit 600, { cls := PySem.Value.type "tuple", data := PySem.Data.seq #[] }) ::
  (nat_lit 602, { cls := PySem.Value.type "tuple", data := PySem.Data.seq #[PySem.Value.str (PySem.Str.ofString "numbers") 947, PySem.Value.str (PySem.Str.ofString "signs") 948, PySem.Value.str (PySem.Str.ofString "n") 949, PySem.Value.str (PySem.Str.ofString "place") 950] }) ::
  (nat_lit 603, { cls := PySem.Value.type "tuple", data := PySem.Data.seq #[] }) ::
  (nat_lit 605, { cls := PySem.Value.type "code", data := PySem.Data.fields #[PySem.Value.str (PySem.Str.ofString "_law_signs") 944, PySem.Value.str (PySem.Str.ofString "_law_signs") 945, PySem.Value.str (PySem.Str.ofString "/claim/cut.py") 946, PySem.Value.int 348 0, PySem.Value.int 1 0, PySem.Value.int 0 0, PySem.Value.int 0 0, PySem.Value.int 3 0, PySem.Value.ref 600, PySem.Value.bool Bool.true, PySem.Value.int 181 0, PySem.Value.ref 601, PySem.Value.none, PySem.Value.ref 602, PySem.Value.ref 603, PySem.Value.ref 604, PySem.Value.int 951 0, PySem.Value.int 348 0, PySem.Value.str (PySem.Str.ofString "/claim/cut.py") 952] }) ::
  (nat_lit 606, { cls := PySem.Value.type "function", data := PySem.Data.func { name := PySem.Str.ofString "_law_signs", qualname := PySem.Str.ofString "_law_signs", params := p606, body := PySem.FuncBody.stmts b606, scope := s606, globals := 3, closure := [], defaults := PySem.Value.none, kwdefaults := PySem.Value.none, pyModule := PySem.Value.str (PySem.Str.ofString "law_bd0004_01") 934, code := PySem.Value.ref 605 } }) ::
  (nat_lit 607, { cls := PySem.Value.type "tuple", data := PySem.Data.seq #[] }) ::
  (nat_lit 609, { cls := PySem.Value.type "tuple", data := PySem.Data.seq #[PySem.Value.str (PySem.Str.ofString "signs") 957, PySem.Value.str (PySem.Str.ofString "numbers") 958, PySem.Value.str (PySem.Str.ofString "left") 959, PySem.Value.str (PySem.Str.ofString "spots") 960, PySem.Value.str (PySem.Str.ofString "steps") 961, PySem.Value.str (PySem.Str.ofString "t") 962, PySem.Value.str (PySem.Str.ofString "own") 963, PySem.Value.str (PySem.Str.ofString "place") 964] }) ::
  (nat_lit 610, { cls := PySem.Value.type "tuple", data := PySem.Data.seq #[] }) ::
  (nat_lit 612, { cls := PySem.Value.type "code", data := PySem.Data.fields #[PySem.Value.str (PySem.Str.ofString "_law_steps") 954, PySem.Value.str (PySem.Str.ofString "_law_steps") 955, PySem.Value.str (PySem.Str.ofString "/claim/cut.py") 956, PySem.Value.int 356 0, PySem.Value.int 2 0, PySem.Value.int 0 0, PySem.Value.int 0 0, PySem.Value.int 3 0, PySem.Value.ref 607, PySem.Value.bool Bool.true, PySem.Value.int 181 0, PySem.Value.ref 608, PySem.Value.none, PySem.Value.ref 609, PySem.Value.ref 610, PySem.Value.ref 611, PySem.Value.int 965 0, PySem.Value.int 356 0, PySem.Value.str (PySem.Str.ofString "/claim/cut.py") 966] }) ::
  (nat_lit 613, { cls := PySem.Value.type "function", data := PySem.Data.func { name := PySem.Str.ofString "_law_steps", qualname := PySem.Str.ofString "_law_steps", params := p613, body := PySem.FuncBody.stmts b613, scope := s613, globals := 3, closure := [], defaults := PySem.Value.none, kwdefaults := PySem.Value.none, pyModule := PySem.Value.str (PySem.Str.ofString "law_bd0004_01") 934, code := PySem.Value.ref 612 } }) ::
  (nat_lit 614, { cls := PySem.Value.type "tuple", data := PySem.Data.seq #[] }) ::
  (nat_lit 617, { cls := PySem.Value.type "code", data := PySem.Data.fields #[PySem.Value.str (PySem.Str.ofString "_law_stream") 968, PySem.Value.str (PySem.Str.ofString "_law_stream") 969, PySem.Value.str (PySem.Str.ofString "/claim/cut.py") 970, PySem.Value.int 368 0, PySem.Value.int 3 0, PySem.Value.int 0 0, PySem.Value.int 0 0, PySem.Value.int 3 0, PySem.Value.ref 614, PySem.Value.bool Bool.true, PySem.Value.int 181 0, PySem.Value.ref 615, PySem.Value.none, PySem.Value.none, PySem.Value.none, PySem.Value.ref 616, PySem.Value.int 971 0, PySem.Value.int 368 0, PySem.Value.str (PySem.Str.ofString "/claim/cut.py") 972] }) ::
  (nat_lit 618, { cls := PySem.Value.type "function", data := PySem.Data.func { name := PySem.Str.ofString "_law_stream", qualname := PySem.Str.ofString "_law_stream", params := p618, body := PySem.FuncBody.stmts b618, scope := s618, globals := 3, closure := [], defaults := PySem.Value.none, kwdefaults := PySem.Value.none, pyModule := PySem.Value.str (PySem.Str.ofString "law_bd0004_01") 934, code := PySem.Value.ref 617 } }) ::
  (nat_lit 619, { cls := PySem.Value.type "tuple", data := PySem.Data.seq #[] }) ::
  (nat_lit 622, { cls := PySem.Value.type "code", data := PySem.Data.fields #[PySem.Value.str (PySem.Str.ofString "law") 974, PySem.Value.str (PySem.Str.ofString "law") 975, PySem.Value.str (PySem.Str.ofString "/claim/cut.py") 976, PySem.Value.int 380 0, PySem.Value.int 1 0, PySem.Value.int 0 0, PySem.Value.int 0 0, PySem.Value.int 3 0, PySem.Value.ref 619, PySem.Value.bool Bool.true, PySem.Value.int 181 0, PySem.Value.ref 620, PySem.Value.none, PySem.Value.none, PySem.Value.none, PySem.Value.ref 621, PySem.Value.int 977 0, PySem.Value.int 380 0, PySem.Value.str (PySem.Str.ofString "/claim/cut.py") 978] }) ::
  (nat_lit 623, { cls := PySem.Value.type "function", data := PySem.Data.func { name := PySem.Str.ofString "law", qualname := PySem.Str.ofString "law", params := p623, body := PySem.FuncBody.stmts b623, scope := s623, globals := 3, closure := [], defaults := PySem.Value.none, kwdefaults := PySem.Value.none, pyModule := PySem.Value.str (PySem.Str.ofString "law_bd0004_01") 934, code := PySem.Value.ref 622 } }) :: []
end
end Mine
end
section
open PySem PySem.W PyProof.Rows PySem.Calls
namespace Mine
def Says (prog : Program) (w : World) (K : Frag) (d : Nat) (f : Value) (vs : List Value) (news : List (Addr × Obj)) (Post : Value → List (Addr × Obj) → Prop) : Prop :=
  ∀ (p : Program) (loose : List Str) (mean : ExcName → Option Value) (mg mb : Str → Option Value) (dp un : Nat) (gd : Option (List Code)) (cn : Str) (cs : Scope) (a : Addr) (ccd : Value) (cl : List (Str × Addr)) (outer : List Env) (A₀ : Around) (base h₀ : Heap) (L : Addr) (m : Str → Option Value) (s : Shared) (Q E : Value → Shared → Prop),
    Below A₀ base outer h₀ → Fr h₀ L s.heap m → K.In h₀ → News h₀ L s.heap news → Top p loose mean mg mb h₀ → cs.kind = .function → dp + d < recursionLimit → un + 8 * d < cLine →
    (∀ r news' h' tk', Fr h₀ L h' m → News h₀ L h' news' → Post r news' → Q r { s with heap := h', toks := tk' }) →
    wpAny (model prog w) (ktrTop dp un gd cn cs L a ccd cl outer) (call f vs) Q E s
theorem news_dup {h₀ h : Heap} {L : Addr} {news : List (Addr × Obj)} {p : Addr × Obj} (N : News h₀ L h news) (hp : p ∈ news) : News h₀ L h (p :: news) := fun q hq => by
  rcases List.mem_cons.mp hq with rfl | hq
  · exact N _ hp
  · exact N _ hq
end Mine
namespace Mine
theorem use_says {prog : Program} {w : World} {K : Frag} {d : Nat} {f : Value} {vs : List Value} {news : List (Addr × Obj)} {Post : Value → List (Addr × Obj) → Prop} {p : Program} {loose : List Str} {mean : ExcName → Option Value} {mg mb : Str → Option Value} {dp un : Nat} {gd : Option (List Code)} {cn : Str} {cs : Scope} {a : Addr} {ccd : Value} {cl : List (Str × Addr)} {outer : List Env} {A₀ : Around} {base h₀ : Heap} {L : Addr} {m : Str → Option Value} {s : Shared} {Q E : Value → Shared → Prop}
    (S : Says prog w K d f vs news Post) (B : Below A₀ base outer h₀) (F : Fr h₀ L s.heap m) (X : K.In h₀) (N : News h₀ L s.heap news) (T : Top p loose mean mg mb h₀) (hk : cs.kind = .function) (hd : dp + d < recursionLimit) (hu : un + 8 * d < cLine)
    (ret : ∀ r news' h' tk', Fr h₀ L h' m → News h₀ L h' news' → Post r news' → Q r { s with heap := h', toks := tk' }) :
    wpAny (model prog w) (ktrTop dp un gd cn cs L a ccd cl outer) (call f vs) Q E s := by unfold Says at S; apply S <;> assumption
theorem un_make (A : Around) (C : Addr) (pos : List Value) (kw : List (Str × Value)) : (A.under (.builtin "type.__call__" ⟨.ref C :: pos, kw⟩)).units = A.units + 1 := rfl
def Hold (P : Prop) : Prop := P
theorem Hold.out {P : Prop} (h : Hold P) : P := h
end Mine
end
section
open PySem PySem.W PyProof.Rows PySem.Calls
namespace Mine
/-- a dict of n signs at places below 256 -/
structure Sg (c : List (Int × Int)) (n : Nat) : Prop where
  len : c.length = n
  nd : (c.map (·.1)).Nodup
  ok : ∀ p ∈ c, 0 ≤ p.1 ∧ p.1 < 256 ∧ (p.2 = 1 ∨ p.2 = -1)
abbrev Sg.the {c : List (Int × Int)} {n : Nat} (_ : Sg c n) : List (Int × Int) := c
theorem Sg.both {c : List (Int × Int)} {n : Nat} (h : Sg c n) : Sg c n ∧ c.length = n := ⟨h, h.len⟩
theorem sg_nil : Sg [] ([] : List Int).length := ⟨rfl, .nil, fun _ h => nomatch h⟩
theorem has_iff {c : List (Int × Int)} {k : Int} : kdfHas c k = true ↔ k ∈ c.map (·.1) := by
  unfold kdfHas
  rw [List.any_eq_true]
  constructor
  · rintro ⟨p, hp, e⟩
    exact List.mem_map.mpr ⟨p, hp, of_decide_eq_true e⟩
  · intro h
    obtain ⟨p, hp, e⟩ := List.mem_map.mp h
    exact ⟨p, hp, decide_eq_true e⟩
theorem has_false {c : List (Int × Int)} {k : Int} : kdfHas c k = false ↔ k ∉ c.map (·.1) := by
  rw [← has_iff]; cases kdfHas c k <;> simp
theorem put_new {c : List (Int × Int)} {k v : Int} (h : kdfHas c k = false) : kdfPut c k v = c ++ [(k, v)] := by
  unfold kdfPut; unfold kdfHas at h; rw [if_neg (by rw [h]; decide)]
theorem sg_put {c : List (Int × Int)} {pre : List Int} {x p v : Int} (h : Sg c pre.length) (hp : kdfHas c p = false) (h0 : 0 ≤ p) (h1 : p < 256) (hv : v = 1 ∨ v = -1) : Sg (kdfPut c p v) (pre ++ [x]).length := by
  rw [put_new hp]
  refine ⟨by simp [h.len], ?_, ?_⟩
  · rw [List.map_append, List.nodup_append]
    refine ⟨h.nd, by simp, ?_⟩
    intro a ha b hb e
    simp at hb
    subst hb; subst e
    exact has_false.mp hp ha
  · intro q hq
    rcases List.mem_append.mp hq with hq | hq
    · exact h.ok q hq
    · simp at hq; subst hq; exact ⟨h0, h1, hv⟩
theorem sg_sign (n : Int) : 1 - 2 * (n.fdiv 256).fmod 2 = 1 ∨ 1 - 2 * (n.fdiv 256).fmod 2 = -1 := by
  rw [Int.fmod_eq_emod_of_nonneg _ (by decide : (0 : Int) ≤ 2)]
  omega
theorem fm256 (a : Int) : a.fmod 256 = a % 256 := Int.fmod_eq_emod_of_nonneg a (by decide)
theorem fm0 (a : Int) : 0 ≤ a.fmod 256 := by rw [fm256]; omega
theorem fm1 (a : Int) : a.fmod 256 < 256 := Int.fmod_lt_of_pos _ (by decide)

/-- how many places are taken from p on -/
def dist (c : List (Int × Int)) : Nat → Int → Nat
  | 0, _ => 0
  | k + 1, p => if kdfHas c p then dist c k ((p + 1).fmod 256) + 1 else 0
theorem dist_run {c : List (Int × Int)} : ∀ {k : Nat} {p : Int} {i : Nat}, 0 ≤ p → p < 256 → i < dist c k p → kdfHas c ((p + i).fmod 256) = true
  | 0, _, _, _, _, h => absurd h (Nat.not_lt_zero _)
  | k + 1, p, i, h0, h1, h => by
    unfold dist at h
    split at h
    · rename_i hp
      cases i with
      | zero => rw [fm256]; rw [show (p + ((0 : Nat) : Int)) % 256 = p by omega]; exact hp
      | succ i =>
        have := dist_run (c := c) (k := k) (p := (p + 1).fmod 256) (i := i) (fm0 _) (fm1 _) (by omega)
        rw [fm256] at this ⊢
        rw [fm256] at this
        rwa [show ((p + 1) % 256 + (i : Int)) % 256 = (p + ((i + 1 : Nat) : Int)) % 256 by omega] at this
    · omega
theorem pigeon {c : List (Int × Int)} : ∀ {l : List Int}, l.Nodup → (∀ x ∈ l, kdfHas c x = true) → l.length ≤ c.length := by
  intro l
  induction l generalizing c with
  | nil => intro _ _; simp
  | cons a r ih =>
    intro hn ha
    obtain ⟨h1, h2⟩ := List.nodup_cons.mp hn
    have hlt : (kdyDel c a).length < c.length := by
      have := ha a (.head _)
      obtain ⟨q, hq, e⟩ := List.mem_map.mp (has_iff.mp this)
      refine List.length_filter_lt_length_iff_exists.mpr ⟨q, hq, ?_⟩
      simp [e]
    have := ih (c := kdyDel c a) h2 fun x hx => by
      have hxa : x ≠ a := fun e => h1 (e ▸ hx)
      have := has_iff.mp (ha x (.tail _ hx))
      obtain ⟨q, hq, e⟩ := List.mem_map.mp this
      refine has_iff.mpr (List.mem_map.mpr ⟨q, List.mem_filter.mpr ⟨hq, ?_⟩, e⟩)
      simp [e, hxa]
    simp only [List.length_cons]
    omega
theorem dist_le {c : List (Int × Int)} {k : Nat} {p : Int} (h0 : 0 ≤ p) (h1 : p < 256) (hc : c.length < 255) : dist c k p ≤ c.length := by
  apply Nat.le_of_not_lt
  intro h
  have hl := pigeon (c := c) (l := (List.range (c.length + 1)).map fun (i : Nat) => (p + (i : Int)) % 256) ?_ ?_
  · simp at hl
    omega
  · rw [List.nodup_iff_pairwise_ne, List.pairwise_map]
    have h2 := List.nodup_iff_pairwise_ne.mp (List.nodup_range (n := c.length + 1))
    refine List.Pairwise.imp_of_mem ?_ h2
    intro a b ha hb hab e
    simp at ha hb
    exact hab (by omega)
  · intro x hx
    obtain ⟨i, hi, rfl⟩ := List.mem_map.mp hx
    simp at hi
    rw [← fm256]
    exact dist_run (c := c) h0 h1 (Nat.lt_of_le_of_lt (Nat.le_of_lt_succ hi) h)
theorem dist_succ (c : List (Int × Int)) (k : Nat) (p : Int) : dist c (k + 1) p = if kdfHas c p then dist c k ((p + 1).fmod 256) + 1 else 0 := rfl
theorem dist_more {c : List (Int × Int)} : ∀ {k : Nat} {p : Int}, dist c k p < k → dist c (k + 1) p = dist c k p
  | 0, _, h => absurd h (Nat.not_lt_zero _)
  | k + 1, p, h => by
    rw [dist_succ c k p] at h
    rw [dist_succ c (k + 1) p, dist_succ c k p]
    split
    · rename_i hp
      rw [if_pos hp] at h
      rw [dist_more (by omega)]
    · rfl
theorem dist_step {c : List (Int × Int)} {n : Nat} {p : Int} (S : Sg c n) (hn : n < 255) (hp : kdfHas c p = true) : dist c 256 ((p + 1).fmod 256) < dist c 256 p := by
  have h2 : dist c 255 ((p + 1).fmod 256) ≤ c.length := dist_le (fm0 _) (fm1 _) (by rw [S.len]; exact hn)
  have h3 := dist_more (c := c) (k := 255) (p := (p + 1).fmod 256) (by rw [S.len] at h2; omega)
  rw [h3, dist_succ c 255 p, if_pos hp]
  omega
end Mine
end
section
open PySem PySem.W PyProof.Rows PySem.Calls
namespace Mine
section
variable {prog : Program} {w : World} {A : Around} {E : Value → Shared → Prop} {s : Shared} {env : Env} {h₀ : Heap} {x : Str} {body : List Stmt} {Q : Flow → Shared → Prop}
set_option maxHeartbeats 3200000 in
/-- a loop over a range that goes down by ones, with data made in its turns -/
theorem loop_down {σ : Type} {r : Addr} {a₀ b₀ : Int} {t₀ u₀ v₀ : Tok} {n : Nat} {m₀ : Str → Option Value} {news : List (Addr × Obj)} (Led : σ → List (Addr × Obj)) (cst : List (Addr × Obj)) (ps : σ → List (Str × Value)) (Facts : List (Addr × Obj) → σ → Prop) (stored : List Str) (P : List Int → σ → Prop) (adr : List Addr) (c₀ : σ)
    (hh : A.handled = none) (hr : IsRange s.heap r a₀ b₀ (-1) t₀ u₀ v₀) (hsmall : Builtin.Range.small a₀ b₀ (-1) = true) (hsz : Builtin.Range.rangeSize a₀ b₀ (-1) = (n : Int)) (F : Fr h₀ env.locals s.heap m₀) (N : News h₀ env.locals s.heap news) (hn : ∀ p ∈ Led c₀ ++ (cst ++ []), p ∈ news) (hadr : ∀ c, (Led c ++ cst).map (·.1) = adr) (hf : Facts (cst ++ []) c₀) (hk : ∀ p ∈ ps c₀, m₀ p.1 = some p.2) (hp : P [] c₀)
    (turn : ∀ (c : σ) tl (pre : List Int) (k : Int) t (u : Str → Option Value) h tk own, k = a₀ - (pre.length : Int) → pre.length < n → KdSep own tl adr → OwnOff (tl ++ own) adr → Facts (cst ++ tl) c → P pre c →
      Fr h₀ env.locals h (fun y => if y = x then some (.int k t) else kstB (fun z => if stored.contains z then u z else m₀ z) (ps c) y) → News h₀ env.locals h (Led c ++ (cst ++ (tl ++ own))) →
      wpAny (model prog w) A (execs body env) (InvPostG h₀ env.locals (KdS Led cst ps Facts x stored m₀ P adr (pre ++ [k])) own { s with heap := h, toks := tk } Q) E { s with heap := h, toks := tk })
    (done : ∀ (c : σ) tl (u : Str → Option Value) h tk, OwnOff tl adr → Facts (cst ++ tl) c → P (downKs a₀ n) c → Fr h₀ env.locals h (fun y => if y = x then u y else kstB (fun z => if stored.contains z then u z else m₀ z) (ps c) y) → News h₀ env.locals h (Led c ++ (cst ++ tl)) → Q .next { s with heap := h, toks := tk }) :
    wpAny (model prog w) A (pyIter (.ref r)) (fun it s₂ => LoopAtV prog w A h₀ env x body Q E it s₂) E s := by
  refine wpAny_pyIter_range hr hsmall ?_
  have W : Walks prog w A s.heap.objs.size [s.heap.objs.size] [s.heap.objs.size] n (fun i v => i < n ∧ ∃ t, v = .int (a₀ + i * (-1)) t)
      (fun i h => IsRangeIter h s.heap.objs.size (a₀ + (i : Nat) * (-1)) ((n : Int) - (i : Nat)) (-1)) := (Walks.range hh _ a₀ (-1) n).bound
  refine kdr_loop (fun i m nx => KdS Led cst ps Facts x stored m₀ P adr ((downKs a₀ n).take i) m nx) W (fun _ h => h) (fun _ h => h) ?_ ?_ ?_ ?_ (by show IsRangeIter _ _ _ _ _; rw [hsz]; simpa using Heap.get?_push_size _ rfl) (F.push _) (fun p hp => ⟨Heap.get?_push_of_some _ (N p (hn p hp)).1, (N p (hn p hp)).2⟩) ⟨c₀, [], rfl, fun _ hp => (nomatch hp), hf, hk, fun _ _ _ _ => rfl, by simpa using hp⟩ ?_ ?_
  · intro i h hi b hb
    rw [List.mem_singleton.mp hb]
    exact ⟨_, hi⟩
  · intro hm
    exact absurd F.ns.lt ((List.mem_singleton.mp hm) ▸ Nat.lt_irrefl _)
  · intro b hb
    rw [List.mem_singleton.mp hb]
    exact next_is_new F
  · intro p hp hI
    exact absurd (Heap.lt_size (N p (hn p hp)).1) ((List.mem_singleton.mp hI) ▸ Nat.lt_irrefl _)
  · rintro i v m₁ nx h tk own hi ⟨_, t, rfl⟩ hoff ⟨c, tl, rfl, ht, hf', h1, h2, hp'⟩ F₁ N₁
    have e1 : a₀ + (i : Int) * (-1) = a₀ - (i : Int) := by omega
    rw [e1] at F₁
    have hk' : (downKs a₀ n)[i]? = some (a₀ - (i : Int)) := by simp [downKs, hi]
    have hs : (downKs a₀ n).take (i + 1) = (downKs a₀ n).take i ++ [a₀ - (i : Int)] := by simp [List.take_add_one, hk']
    have hlen : ((downKs a₀ n).take i).length = i := by rw [List.length_take, downKs_length]; omega
    rw [hs]
    obtain ⟨o1, o2⟩ := kd_split (hadr c) hoff
    rw [List.append_assoc, List.append_assoc] at N₁
    exact turn c tl _ _ t m₁ h tk own (by rw [hlen]) (by rw [hlen]; exact hi) ⟨o1, o2, ht⟩ (kd_off o1 ht) hf' hp' (kst_fr h1 h2 F₁) N₁
  · rintro m₁ nx h tk ⟨c, tl, rfl, ht, hf', h1, h2, hp'⟩ F₁ N₁
    have hl : (downKs a₀ n).take n = downKs a₀ n := List.take_of_length_le (Nat.le_of_eq (downKs_length _ _))
    rw [hl] at hp'
    exact done c tl m₁ h tk ht hf' hp' (kst_frOut h1 h2 F₁) N₁
end
/-- what a step of the shuffle makes of the polynomial -/
def fwd (f : Int → Int) (own : Int) (p : Int × Int) : Int → Int := fun x => if x = p.1 then p.2 else if x = own then f p.1 else f x
def fwdAll (f : Int → Int) (own : Int) : List (Int × Int) → Int → Int
  | [] => f
  | p :: r => fwdAll (fwd f own p) (own + 1) r
abbrev lk (c : List (Int × Int)) : Int → Int := fun x => kdfLook c x 0
abbrev tupD (p : Int × Int) : Dat := Dat.tuple [Dat.int p.1, Dat.int p.2]
/-- a step's place lies at its own place or below it, its sign is a sign -/
def StOk (own : Int) : List (Int × Int) → Prop
  | [] => True
  | p :: r => (0 ≤ p.1 ∧ p.1 ≤ own ∧ (p.2 = 1 ∨ p.2 = -1)) ∧ StOk (own + 1) r
structure StInv (c0 : List (Int × Int)) (tau k : Nat) (c : List (Int × Int)) (ps : List Int) (st : List (Int × Int)) : Prop where
  kt : k ≤ tau
  sg : Sg c (tau - k)
  pe : ps = c.map (·.1)
  below : ∀ p ∈ c, p.1 < 256 - (k : Int)
  len : st.length = k
  ok : StOk (256 - (k : Int)) st.reverse
  fw : fwdAll (lk c) (256 - (k : Int)) st.reverse = lk c0
theorem StInv.start {c0 : List (Int × Int)} {tau : Nat} (S : Sg c0 tau) : StInv c0 tau 0 c0 (c0.map (·.1)) [] :=
  ⟨Nat.zero_le _, S, rfl, fun p hp => by have := S.ok p hp; omega, rfl, trivial, rfl⟩
theorem look_mem {c : List (Int × Int)} {p : Int × Int} (hn : (c.map (·.1)).Nodup) (hp : p ∈ c) : kdfLook c p.1 0 = p.2 := by
  induction c with
  | nil => cases hp
  | cons q r ih =>
    rw [List.map_cons] at hn
    obtain ⟨h1, h2⟩ := List.nodup_cons.mp hn
    unfold kdfLook
    rw [List.find?_cons]
    by_cases e : q.1 = p.1
    · rw [decide_eq_true e]
      rcases List.mem_cons.mp hp with rfl | hp
      · rfl
      · exact absurd (List.mem_map.mpr ⟨p, hp, e.symm⟩) h1
    · rw [decide_eq_false e]
      rcases List.mem_cons.mp hp with rfl | hp
      · exact absurd rfl e
      · exact ih h2 hp
theorem look_none {c : List (Int × Int)} {k : Int} (h : kdfHas c k = false) : kdfLook c k 0 = 0 := by
  unfold kdfLook kdfHas at *
  rw [List.find?_eq_none.mpr]
  · rfl
  · intro q hq e
    rw [List.any_eq_false] at h
    exact h q hq e
theorem look_sign {c : List (Int × Int)} {n : Nat} {k : Int} (S : Sg c n) (h : kdfHas c k = true) : 0 ≤ k ∧ k < 256 ∧ (kdfLook c k 0 = 1 ∨ kdfLook c k 0 = -1) := by
  obtain ⟨q, hq, e⟩ := List.mem_map.mp (has_iff.mp h)
  have h1 := S.ok q hq
  have h2 := look_mem S.nd hq
  subst e
  rw [h2]; exact h1
theorem look_del {c : List (Int × Int)} (k x : Int) : kdfLook (kdyDel c k) x 0 = if x = k then 0 else kdfLook c x 0 := by
  induction c with
  | nil => unfold kdyDel kdfLook; simp
  | cons q r ih =>
    unfold kdyDel at ih ⊢
    rw [List.filter_cons]
    unfold kdfLook at ih ⊢
    by_cases e : q.1 = k
    · simp only [e, decide_true, Bool.not_true, Bool.false_eq_true, if_false]
      rw [ih, List.find?_cons]
      by_cases h : x = k
      · simp [h]
      · simp only [if_neg h]
        have : ¬ (q.1 = x) := by rw [e]; exact fun z => h z.symm
        rw [decide_eq_false this]
    · simp only [decide_eq_false e, Bool.not_false, if_true]
      rw [List.find?_cons, List.find?_cons]
      by_cases h : q.1 = x
      · have : ¬ x = k := by rw [← h]; exact e
        simp [h, this]
      · rw [decide_eq_false h]
        exact ih
theorem put_there {c : List (Int × Int)} {k v : Int} (hk : kdfHas c k = true) : kdfPut c k v = c.map fun p => if p.1 = k then (p.1, v) else p := by
  unfold kdfPut; unfold kdfHas at hk; rw [if_pos hk]
  refine List.map_congr_left fun p _ => ?_
  by_cases e : p.1 = k <;> simp [e]
theorem put_keys {c : List (Int × Int)} {k v : Int} (hk : kdfHas c k = true) : (kdfPut c k v).map (·.1) = c.map (·.1) := by
  rw [put_there hk, List.map_map]
  refine List.map_congr_left fun p _ => ?_
  show (if p.1 = k then (p.1, v) else p).1 = p.1
  split <;> rfl
theorem look_put {c : List (Int × Int)} {k v : Int} (hk : kdfHas c k = true) (x : Int) : kdfLook (kdfPut c k v) x 0 = if x = k then v else kdfLook c x 0 := by
  rw [put_there hk]
  unfold kdfHas at hk
  induction c with
  | nil => simp at hk
  | cons q r ih =>
    rw [List.map_cons]
    unfold kdfLook at ih ⊢
    rw [List.find?_cons, List.find?_cons]
    by_cases e : q.1 = k
    · rw [if_pos e]
      by_cases h : x = k
      · have : q.1 = x := by rw [e, h]
        simp [this, h]
      · have : ¬ q.1 = x := by rw [e]; exact fun z => h z.symm
        simp only [decide_eq_false this, if_neg h]
        clear ih hk
        induction r with
        | nil => rfl
        | cons q' r' ih' =>
          rw [List.map_cons, List.find?_cons, List.find?_cons]
          by_cases e' : q'.1 = k
          · rw [if_pos e']
            have : ¬ q'.1 = x := by rw [e']; exact fun z => h z.symm
            simp only [decide_eq_false this]
            exact ih'
          · rw [if_neg e']
            by_cases h' : q'.1 = x
            · simp [h']
            · simp only [decide_eq_false h']
              exact ih'
    · rw [if_neg e]
      by_cases h : q.1 = x
      · have : ¬ x = k := by rw [← h]; exact e
        simp [h, this]
      · simp only [decide_eq_false h]
        refine ih ?_
        rw [List.any_cons] at hk
        simpa [e] using hk
theorem del_keys {c : List (Int × Int)} {k : Int} (hn : (c.map (·.1)).Nodup) : (kdyDel c k).map (·.1) = (c.map (·.1)).erase k := by
  rw [hn.erase_eq_filter]
  unfold kdyDel
  rw [List.filter_map]
  congr 1
theorem del_mem {c : List (Int × Int)} {k : Int} {p : Int × Int} (h : p ∈ kdyDel c k) : p ∈ c ∧ p.1 ≠ k := by
  obtain ⟨h1, h2⟩ := List.mem_filter.mp h
  exact ⟨h1, by simpa using h2⟩
theorem sg_del {c : List (Int × Int)} {n : Nat} {k : Int} (S : Sg c n) (h : kdfHas c k = true) : Sg (kdyDel c k) (n - 1) := by
  refine ⟨?_, ?_, fun p hp => S.ok p (del_mem hp).1⟩
  · have := congrArg List.length (del_keys (k := k) S.nd)
    rw [List.length_map, List.length_erase_of_mem (has_iff.mp h), List.length_map, S.len] at this
    exact this
  · rw [del_keys S.nd]; exact S.nd.erase k
theorem sg_put' {c : List (Int × Int)} {n : Nat} {k v : Int} (S : Sg c n) (h : kdfHas c k = true) (hv : v = 1 ∨ v = -1) : Sg (kdfPut c k v) n := by
  refine ⟨by rw [put_there h, List.length_map, S.len], by rw [put_keys h]; exact S.nd, fun p hp => ?_⟩
  rw [put_there h] at hp
  obtain ⟨q, hq, rfl⟩ := List.mem_map.mp hp
  have := S.ok q hq
  by_cases e : q.1 = k
  · simp only [if_pos e]; exact ⟨this.1, this.2.1, hv⟩
  · simp only [if_neg e]; exact this
section
variable {c0 c : List (Int × Int)} {tau k : Nat} {ps : List Int} {st : List (Int × Int)} {own place : Int}
theorem StInv.stay (I : StInv c0 tau k c ps st) (hk : k < tau) (ho : own = 255 - (k : Int)) (hp : kdfHas c place = true) (hm : own = place ∨ kdfHas c own = false) :
    StInv c0 tau (k + 1) (kdyDel c place) (ps.erase place) (st ++ [(place, kdfLook c place 0)]) := by
  have hs := look_sign I.sg hp
  have hb : place ≤ 255 - (k : Int) := by
    obtain ⟨q, hq, e⟩ := List.mem_map.mp (has_iff.mp hp)
    have := I.below q hq
    omega
  refine ⟨hk, by rw [show tau - (k + 1) = tau - k - 1 by omega]; exact sg_del I.sg hp, by rw [I.pe, del_keys I.sg.nd], ?_, by rw [List.length_append, I.len]; rfl, ?_, ?_⟩
  · intro p h
    obtain ⟨h1, h2⟩ := del_mem h
    have h3 := I.below p h1
    have h4 : p.1 ≠ own := by
      rintro e
      rcases hm with rfl | hm
      · exact h2 e
      · exact has_false.mp hm (List.mem_map.mpr ⟨p, h1, e⟩)
    omega
  · rw [List.reverse_append]
    refine ⟨⟨hs.1, by show place ≤ _; omega, hs.2.2⟩, ?_⟩
    have := I.ok
    rwa [show (256 - ((k + 1 : Nat) : Int) + 1) = 256 - (k : Int) by omega]
  · rw [List.reverse_append]
    show fwdAll (fwd (lk (kdyDel c place)) (256 - ((k + 1 : Nat) : Int)) (place, kdfLook c place 0)) (256 - ((k + 1 : Nat) : Int) + 1) st.reverse = _
    rw [show (256 - ((k + 1 : Nat) : Int) + 1) = 256 - (k : Int) by omega, show (256 - ((k + 1 : Nat) : Int)) = own by omega, ← I.fw]
    congr 1
    funext x
    unfold fwd lk
    dsimp only
    rw [look_del, look_del]
    by_cases h1 : x = place
    · rw [if_pos h1, h1]
    · rw [if_neg h1, if_neg h1, if_pos rfl]
      by_cases h2 : x = own
      · rw [if_pos h2]
        rcases hm with hm | hm
        · exact absurd (h2.trans hm) h1
        · rw [h2, look_none hm]
      · rw [if_neg h2]
theorem StInv.move (I : StInv c0 tau k c ps st) (hk : k < tau) (ho : own = 255 - (k : Int)) (hp : kdfHas c place = true) (hne : own ≠ place) (hm : kdfHas c own = true) :
    StInv c0 tau (k + 1) (kdyDel (kdfPut c place (kdfLook c own 0)) own) (ps.erase own) (st ++ [(place, kdfLook c place 0)]) := by
  have hs := look_sign I.sg hp
  have hb : place ≤ 255 - (k : Int) := by
    obtain ⟨q, hq, e⟩ := List.mem_map.mp (has_iff.mp hp)
    have := I.below q hq
    omega
  have hm' : kdfHas (kdfPut c place (kdfLook c own 0)) own = true := by rw [has_iff, put_keys hp]; exact has_iff.mp hm
  refine ⟨hk, by rw [show tau - (k + 1) = tau - k - 1 by omega]; exact sg_del (sg_put' I.sg hp (look_sign I.sg hm).2.2) hm', by rw [I.pe, del_keys (by rw [put_keys hp]; exact I.sg.nd), put_keys hp], ?_, by rw [List.length_append, I.len]; rfl, ?_, ?_⟩
  · intro p h
    obtain ⟨h1, h2⟩ := del_mem h
    rw [put_there hp] at h1
    obtain ⟨q, hq, rfl⟩ := List.mem_map.mp h1
    have h3 := I.below q hq
    have e : (if q.1 = place then (q.1, kdfLook c own 0) else q).1 = q.1 := by split <;> rfl
    rw [e] at h2 ⊢
    omega
  · rw [List.reverse_append]
    refine ⟨⟨hs.1, by show place ≤ _; omega, hs.2.2⟩, ?_⟩
    have := I.ok
    rwa [show (256 - ((k + 1 : Nat) : Int) + 1) = 256 - (k : Int) by omega]
  · rw [List.reverse_append]
    show fwdAll (fwd (lk (kdyDel (kdfPut c place (kdfLook c own 0)) own)) (256 - ((k + 1 : Nat) : Int)) (place, kdfLook c place 0)) (256 - ((k + 1 : Nat) : Int) + 1) st.reverse = _
    rw [show (256 - ((k + 1 : Nat) : Int) + 1) = 256 - (k : Int) by omega, show (256 - ((k + 1 : Nat) : Int)) = own by omega, ← I.fw]
    congr 1
    funext x
    unfold fwd lk
    dsimp only
    rw [look_del, look_del, look_put hp, look_put hp]
    by_cases h1 : x = place
    · rw [if_pos h1, h1]
    · rw [if_neg h1]
      by_cases h2 : x = own
      · rw [if_pos h2, if_neg (Ne.symm hne), if_pos rfl, h2]
      · rw [if_neg h2, if_neg h2, if_neg h1]
theorem StInv.fin (I : StInv c0 tau tau c ps st) : fwdAll (fun _ => 0) (256 - (tau : Int)) st.reverse = lk c0 := by
  have h := I.sg.len
  rw [Nat.sub_self] at h
  have hc : c = [] := List.eq_nil_of_length_eq_zero h
  rw [← I.fw, hc]
  rfl
end
end Mine
end
section
open PySem PySem.W PyProof.Rows PySem.Calls
namespace Mine
theorem ints_kf : ∀ {vs : List Value} {ns : List Int}, IntsAre vs ns → kf_ints vs = true
  | _, _, .nil => rfl
  | _, _, .cons _ _ h => by unfold kf_ints; exact ints_kf h
theorem ints_find {k : Int} : ∀ {vs : List Value} {ns : List Int}, IntsAre vs ns → k ∈ ns → ∃ j q, kf_at k vs = some j ∧ ki_delL vs j = some q ∧ IntsAre q (ns.erase k)
  | _, _, .nil, h => nomatch h
  | _, _, .cons (vs := vs) (ns := ns) n t r, h => by
    by_cases e : n = k
    · subst e
      refine ⟨0, _, ?_, rfl, ?_⟩
      · show cond (isInt n (Value.int n t)) _ _ = _
        rw [show isInt n (Value.int n t) = true by simp [isInt]]; rfl
      · rw [List.erase_cons_head]; exact r
    · obtain ⟨j, q, h1, h2, h3⟩ := ints_find r ((List.mem_cons.mp h).resolve_left (fun z => e z.symm))
      refine ⟨j + 1, .int n t :: q, ?_, ?_, ?_⟩
      · show cond (isInt k (Value.int n t)) _ _ = _
        rw [show isInt k (Value.int n t) = false by simp [isInt, e], h1]; rfl
      · show (match ki_delL vs j with | some q => some (Value.int n t :: q) | none => none) = _
        rw [h2]
      · rw [List.erase_cons_tail (by simpa using e)]; exact .cons _ _ h3
theorem upd_of {d : Addr} {o o' : Obj} : ∀ {l : List (Addr × Obj)} {g : Obj → List (Addr × Obj)}, UpdF d o l g → Upd d o o' l (g o')
  | _, _, .head h => .head h
  | _, _, .tail h r => .tail h (upd_of r)
theorem remove_ints {prog : Program} {w : World} {A : Around} {E : Value → Shared → Prop} {s : Shared} {h₀ : Heap} {L D : Addr} {m : Str → Option Value} {news : List (Addr × Obj)} {g : Obj → List (Addr × Obj)} {vs : List Value} {ns : List Int} {n : Nat} {k : Int} {t : Tok} {Q : Value → Shared → Prop}
    (F : Fr h₀ L s.heap m) (N : News h₀ L s.heap news) (U : UpdF D (listOf vs.toArray n) news g) (hi : IntsAre vs ns) (hk : k ∈ ns) (hz : ns.length ≤ 16777216)
    (h : ∀ h' q, Fr h₀ L h' m → News h₀ L h' (g (listOf q.toArray (n + 1))) → IntsAre q (ns.erase k) → Q .none { s with heap := h' }) : wpAny (model prog w) A (call (.builtin "list.remove") [.ref D, .int k t]) Q E s := by
  obtain ⟨j, q, h1, h2, h3⟩ := ints_find hi hk
  have e : vs.toArray.toList = vs := rfl
  exact kf_remove F N (by rw [e]; exact ints_kf hi) (by rw [e]; exact h1) (by rw [e]; exact h2) (upd_of U) (by rw [e, sizeLine_eq, hi.length]; exact hz) fun h' F' N' => h h' q F' N' h3
theorem StInv.mem {c0 c : List (Int × Int)} {tau k : Nat} {ps st} {x : Int} (I : StInv c0 tau k c ps st) (h : kdfHas c x = true) : x ∈ ps := by
  rw [I.pe]; exact has_iff.mp h
theorem spot_has {c0 c : List (Int × Int)} {tau k : Nat} {ps st} (I : StInv c0 tau k c ps st) (hk : k < tau) (a : Int) : kdfHas c (ps.getD (a.fmod (ps.length : Int)).toNat 0) = true := by
  have hpl : ps.length = tau - k := by rw [I.pe, List.length_map, I.sg.len]
  have h1 : 0 ≤ a.fmod (ps.length : Int) := by rw [Int.fmod_eq_emod_of_nonneg _ (by omega)]; exact Int.emod_nonneg _ (by omega)
  have h2 : a.fmod (ps.length : Int) < (ps.length : Int) := Int.fmod_lt_of_pos _ (by omega)
  have h3 : (a.fmod (ps.length : Int)).toNat < ps.length := by omega
  rw [has_iff, ← I.pe, List.getD_eq_getElem?_getD, List.getElem?_eq_getElem h3]
  exact List.getElem_mem _
theorem sg_size {c : List (Int × Int)} {n : Nat} (h : Sg c n) (hn : n ≤ 60) : (kdfD c).length ≤ sizeLine := by
  rw [sizeLine_eq]; unfold kdfD; rw [List.length_map, h.len]; omega
theorem has_put {c : List (Int × Int)} {k v x : Int} (hk : kdfHas c k = true) (h : kdfHas c x = true) : kdfHas (kdfPut c k v) x = true := by
  rw [has_iff, put_keys hk]; exact has_iff.mp h
end Mine
end
section
open PySem PySem.W PyProof.Rows PySem.Calls
namespace Mine
/-- the octets that lead to the steps: refused ones above the step's own place, then its place -/
def Os : Int → List (Int × Int) → List Int → Prop
  | _, [], os => os = []
  | own, p :: r, os => ∃ rs os', os = rs ++ p.1 :: os' ∧ (∀ x ∈ rs, own < x ∧ x ≤ 255) ∧ rs.length ≤ 3 ∧ Os (own + 1) r os'
theorem Os.snoc {p : Int × Int} {rs : List Int} : ∀ {S : List (Int × Int)} {own : Int} {os : List Int}, Os own S os → (∀ x ∈ rs, own + (S.length : Int) < x ∧ x ≤ 255) → rs.length ≤ 3 → Os own (S ++ [p]) ((os ++ rs) ++ [p.1])
  | [], own, os, h, hr, hl => by
    have h' : os = [] := h
    subst h'
    refine ⟨rs, [], by simp, fun x hx => ?_, hl, rfl⟩
    have := hr x hx
    simp at this
    exact this
  | q :: r, own, os, h, hr, hl => by
    obtain ⟨rs', os', rfl, h1, h2, h3⟩ := h
    refine ⟨rs', (os' ++ rs) ++ [p.1], by simp, h1, h2, Os.snoc h3 (fun x hx => ?_) hl⟩
    have := hr x hx
    simp only [List.length_cons] at this
    exact ⟨by omega, this.2⟩
theorem Os.len : ∀ {S : List (Int × Int)} {own : Int} {os : List Int}, Os own S os → os.length ≤ 4 * S.length
  | [], _, os, h => by have h' : os = [] := h; simp [h']
  | q :: r, _, os, h => by
    obtain ⟨rs', os', rfl, _, h2, h3⟩ := h
    have := h3.len
    simp only [List.length_append, List.length_cons]
    omega
theorem Os.bound : ∀ {S : List (Int × Int)} {own : Int} {os : List Int}, Os own S os → StOk own S → 0 ≤ own → own + (S.length : Int) ≤ 256 → ∀ x ∈ os, 0 ≤ x ∧ x < 256
  | [], _, os, h, _, _, _ => by have h' : os = [] := h; simp [h']
  | q :: r, own, os, h, hS, h0, h1 => by
    obtain ⟨rs', os', rfl, h2, _, h3⟩ := h
    obtain ⟨hq, hr⟩ := hS
    simp only [List.length_cons] at h1
    intro x hx
    rcases List.mem_append.mp hx with hx | hx
    · have := h2 x hx; omega
    · rcases List.mem_cons.mp hx with rfl | hx
      · omega
      · exact h3.bound hr (by omega) (by omega) x hx
/-- the bits of the signs: 1 where the sign is -1 -/
def sgnSum : Nat → List (Int × Int) → Int
  | _, [] => 0
  | t, p :: r => (if p.2 = -1 then 2 ^ t else 0) + sgnSum (t + 1) r
theorem sgnSum_snoc (p : Int × Int) : ∀ (S : List (Int × Int)) (t : Nat), sgnSum t (S ++ [p]) = sgnSum t S + (if p.2 = -1 then 2 ^ (t + S.length) else 0)
  | [], t => by simp [sgnSum]
  | q :: r, t => by
    rw [List.cons_append, sgnSum, sgnSum, sgnSum_snoc p r (t + 1), List.length_cons, show t + 1 + r.length = t + (r.length + 1) by omega]
    omega
theorem sgnSum_bound : ∀ (S : List (Int × Int)) (t : Nat), 0 ≤ sgnSum t S ∧ sgnSum t S ≤ 2 ^ (t + S.length) - 2 ^ t
  | [], t => by simp [sgnSum]
  | q :: r, t => by
    have h := sgnSum_bound r (t + 1)
    have e : (2 : Int) ^ (t + 1) = 2 * 2 ^ t := by rw [Int.pow_succ]; omega
    have hp : (0 : Int) < 2 ^ t := Int.pow_pos (by decide)
    rw [sgnSum, List.length_cons, show t + (r.length + 1) = t + 1 + r.length by omega]
    split <;> omega
/-- the walk's own state in the middle of the octets -/
structure OsAt (own0 : Int) (S : List (Int × Int)) (t : Nat) (os : List Int) : Prop where
  ok : Os own0 (S.take t) os
structure OsIn (own0 : Int) (S : List (Int × Int)) (t j : Nat) (os : List Int) : Prop where
  ok : ∃ o rs, os = o ++ rs ∧ Os own0 (S.take t) o ∧ rs.length = j ∧ ∀ x ∈ rs, own0 + (t : Int) < x ∧ x ≤ 255
theorem OsAt.start (own0 : Int) (S : List (Int × Int)) : OsAt own0 S 0 [] := ⟨by rw [List.take_zero]; rfl⟩
theorem OsAt.to {own0 : Int} {S : List (Int × Int)} {t : Nat} {os : List Int} (h : OsAt own0 S t os) : OsIn own0 S t 0 os := ⟨os, [], by simp, h.ok, rfl, by simp⟩
theorem OsIn.more {own0 : Int} {S : List (Int × Int)} {t j : Nat} {os : List Int} {x : Int} (h : OsIn own0 S t j os) (h1 : own0 + (t : Int) < x) (h2 : x ≤ 255) : OsIn own0 S t (j + 1) (os ++ [x]) := by
  obtain ⟨o, rs, rfl, h3, h4, h5⟩ := h.ok
  refine ⟨o, rs ++ [x], by simp, h3, by simp [h4], fun y hy => ?_⟩
  rcases List.mem_append.mp hy with hy | hy
  · exact h5 y hy
  · rw [List.mem_singleton.mp hy]; exact ⟨h1, h2⟩
theorem OsIn.end {own0 : Int} {S : List (Int × Int)} {t j : Nat} {os : List Int} (h : OsIn own0 S t j os) (hj : j ≤ 3) (ht : t < S.length) : OsAt own0 S (t + 1) (os ++ [(S.getD t (0, 0)).1]) := by
  obtain ⟨o, rs, rfl, h3, h4, h5⟩ := h.ok
  have hl : (S.take t).length = t := by rw [List.length_take]; omega
  have e : S.take (t + 1) = S.take t ++ [S.getD t (0, 0)] := by
    rw [List.take_add_one, List.getD_eq_getElem?_getD, List.getElem?_eq_getElem ht]; rfl
  refine ⟨?_⟩
  rw [e]
  exact Os.snoc h3 (by rw [hl]; exact h5) (by omega)
theorem OsIn.len {own0 : Int} {S : List (Int × Int)} {t j : Nat} {os : List Int} (h : OsIn own0 S t j os) : os.length ≤ 4 * t + j := by
  obtain ⟨o, rs, rfl, h3, h4, _⟩ := h.ok
  have := h3.len
  rw [List.length_take] at this
  simp only [List.length_append]
  omega
theorem OsAt.len {own0 : Int} {S : List (Int × Int)} {t : Nat} {os : List Int} (h : OsAt own0 S t os) : os.length ≤ 4 * t := h.to.len
theorem lt_up {d : Addr} {l : List (Addr × Obj)} (h : ∀ p ∈ l, p.1 < d) (k : Nat) : AllLt (d + k) l := allLt_of fun p hp => Nat.lt_of_lt_of_le (h p hp) (Nat.le_add_right _ _)
theorem len_of {prog : Program} {w : World} {A : Around} {E : Value → Shared → Prop} {s : Shared} {h₀ : Heap} {L l : Addr} {led : List (Addr × Obj)} {vs : List Value} {n k : Nat} {Q : Value → Shared → Prop}
    (N : News h₀ L s.heap led) (hm : (l, listOf vs.toArray n) ∈ led) (e : vs.length = k) (hk : k ≤ 1000000) (h : Q (.int (k : Nat) (s.toks + 1)) { s with toks := s.toks + 1 + 1 }) : wpAny (model prog w) A (call (.builtin "len") [.ref l]) Q E s := by
  have hl : s.heap.IsList l vs.toArray := ⟨_, (N _ hm).1, rfl, n, rfl⟩
  have e' : vs.toArray.size = k := by rw [List.size_toArray]; exact e
  exact call_len_list hl (by rw [e']; omega) (by rw [e']; exact h)
theorem step_item {prog : Program} {w : World} {A : Around} {E : Value → Shared → Prop} {s : Shared} {h₀ : Heap} {L dr : Addr} {led sub : List (Addr × Obj)} {vr : List Value} {S : List (Int × Int)} {nr : Nat} {k : Int} {u : Tok} {value slice : PySem.Expr} {Q : Value → Shared → Prop}
    (N : News h₀ L s.heap led) (hm : (dr, listOf vr.toArray nr) ∈ led) (hda : DatAll sub vr (S.map tupD)) (hsub : ∀ p ∈ sub, p ∈ led) (h0 : 0 ≤ k) (h1 : k < (S.length : Int)) (hb : S.length ≤ 60)
    (h : ∀ a n t1 t2, (a, ({ cls := .type "tuple", data := .seq #[.int (S.getD k.toNat (0, 0)).1 t1, .int (S.getD k.toNat (0, 0)).2 t2] n } : Obj)) ∈ sub → Q (.ref a) s)
    (hs : subscripted slice false (.ref dr) (.int k u) = operate [.ref dr, .int k u] (getItem (.ref dr) (.int k u)) := by with_unfolding_all rfl) :
    wpAny (model prog w) A (subscriptTail value slice (.ref dr) (.int k u)) Q E s := by
  have hl : s.heap.IsList dr vr.toArray := ⟨_, (N _ hm).1, rfl, nr, rfl⟩
  have hk : k.toNat < (S.map tupD).length := by rw [List.length_map]; omega
  obtain ⟨v, hv, hd⟩ := hda.get hk
  have e : (S.map tupD)[k.toNat] = tupD (S.getD k.toNat (0, 0)) := by
    have hk' : k.toNat < S.length := by omega
    simp [List.getD_eq_getElem?_getD, List.getElem?_eq_getElem hk']
  rw [e] at hd
  cases hd with
  | tuple hin hall =>
    rename_i a vs n
    cases hall with
    | cons h1' r1 =>
      cases r1 with
      | cons h2' r2 =>
        cases r2
        cases h1'
        cases h2'
        exact tail_any hl.typeIs slot_list_getitem.lookup (wpAny_getItem_list hl h0 (by omega) (by simpa using hv) (h a n _ _ hin)) hs
end Mine
end
section
open PySem PySem.W PyProof.Rows PySem.Calls
namespace Mine
section
variable {prog : Program} {w : World} {A : Around} {E : Value → Shared → Prop} {s : Shared} {env : Env} {h₀ : Heap} {x : Str} {body : List Stmt} {Q : Flow → Shared → Prop}
/-! a loop over a range upwards that grows one list of ints (lo), all else standing -/
abbrev SigG := List Value × List Int × Nat
abbrev grLed (lo : Addr) (cst : List (Addr × Obj)) (c : SigG) : List (Addr × Obj) := (lo, listOf c.1.toArray c.2.2) :: cst
abbrev GrS (lo : Addr) (cst : List (Addr × Obj)) (stored : List Str) (m₀ : Str → Option Value) (P : Nat → List Int → Prop) (x : Str) (pre : List Int) : (Str → Option Value) → List (Addr × Obj) → Prop :=
  KstS (grLed lo cst) (fun _ => []) (fun c => IntsAre c.1 c.2.1) x stored m₀ (fun pre c => P pre.length c.2.1) pre
theorem grow_loop {r lo : Addr} {a₀ b₀ : Int} {t₀ u₀ v₀ : Tok} {n : Nat} {m₀ : Str → Option Value} {cst : List (Addr × Obj)} {vo : List Value} {os : List Int} {no : Nat} (stored : List Str) (P : Nat → List Int → Prop)
    (hh : A.handled = none) (hr : IsRange s.heap r a₀ b₀ 1 t₀ u₀ v₀) (hsmall : Builtin.Range.small a₀ b₀ 1 = true) (hn : Builtin.Range.rangeSize a₀ b₀ 1 = (n : Int)) (F : Fr h₀ env.locals s.heap m₀)
    (N : News h₀ env.locals s.heap ((lo, listOf vo.toArray no) :: cst)) (hi : IntsAre vo os) (hp : P 0 os)
    (turn : ∀ (vo : List Value) (os : List Int) (no : Nat) (pre : List Int) (k : Int) t (u : Str → Option Value) h tk own, k = a₀ + (pre.length : Int) → pre.length < n → OwnOff own (lo :: cst.map (·.1)) → IntsAre vo os → P pre.length os →
      Fr h₀ env.locals h (fun y => if y = x then some (.int k t) else if stored.contains y then u y else m₀ y) → News h₀ env.locals h ((lo, listOf vo.toArray no) :: (cst ++ own)) →
      wpAny (model prog w) A (execs body env) (InvPostN h₀ env.locals (GrS lo cst stored m₀ P x (pre ++ [k])) own (lo :: cst.map (·.1)) { s with heap := h, toks := tk } Q) E { s with heap := h, toks := tk })
    (done : ∀ (vo : List Value) (os : List Int) (no : Nat) (u : Str → Option Value) h tk, IntsAre vo os → P n os → Fr h₀ env.locals h (fun y => if y = x then u y else if stored.contains y then u y else m₀ y) → News h₀ env.locals h ((lo, listOf vo.toArray no) :: cst) → Q .next { s with heap := h, toks := tk }) :
    wpAny (model prog w) A (pyIter (.ref r)) (fun it s₂ => LoopAtV prog w A h₀ env x body Q E it s₂) E s := by
  refine kst_range (σ := SigG) (n := n) (grLed lo cst) (fun _ => []) (fun c => IntsAre c.1 c.2.1) stored (fun pre c => P pre.length c.2.1) (vo, os, no) hh hr hsmall hn F N hi (List.forall_mem_nil _) hp ?_ ?_
  · rintro ⟨vo, os, no⟩ pre k t u h tk own hk hlt hoff hf hP F₁ N₁
    exact turn vo os no pre k t u h tk own hk hlt hoff hf hP F₁ N₁
  · rintro ⟨vo, os, no⟩ u h tk hf hP F₁ N₁
    rw [rangeKs_length] at hP
    exact done vo os no u h tk hf hP F₁ N₁
theorem grow_end {lo : Addr} {cst own : List (Addr × Obj)} {stored : List Str} {m₀ m' : Str → Option Value} {P : Nat → List Int → Prop} {pre : List Int} {k : Int} {vo : List Value} {os : List Int} {no : Nat} {L : Addr} {news' : List (Addr × Obj)} {s₁ : Shared} {h' : Heap} {tk : Nat}
    (F : Fr h₀ L h' m') (N : News h₀ L h' news') (hl : (lo, listOf vo.toArray no) ∈ news') (hc : ∀ p ∈ cst, p ∈ news') (ho : ∀ p ∈ own, p ∈ news')
    (hm : ∀ z, z ≠ x → stored.contains z = false → m' z = m₀ z) (hi : IntsAre vo os) (hP : P (pre.length + 1) os) :
    InvEndN h₀ L (GrS lo cst stored m₀ P x (pre ++ [k])) own (lo :: cst.map (·.1)) s₁ { s₁ with heap := h', toks := tk } :=
  kst_end (σ := SigG) (vo, os, no) F N (fun p hp => by rcases List.mem_cons.mp hp with rfl | hp; exact hl; exact hc p hp) ho rfl hi (List.forall_mem_nil _) (fun z h1 _ h3 => hm z h1 h3) (by rw [List.length_append]; exact hP)
/-! the same, and a cell (lc) that holds an int turns with it -/
abbrev SigC := Obj × Int × Tok × List Value × List Int × Nat
abbrev gcLed (lo lc : Addr) (cst : List (Addr × Obj)) (c : SigC) : List (Addr × Obj) := (lo, listOf c.2.2.2.1.toArray c.2.2.2.2.2) :: (lc, c.1) :: cst
abbrev gcFacts (c : SigC) : Prop := c.1.data = Data.cell (some (.int c.2.1 c.2.2.1)) ∧ IntsAre c.2.2.2.1 c.2.2.2.2.1
abbrev GcS (lo lc : Addr) (cst : List (Addr × Obj)) (stored : List Str) (m₀ : Str → Option Value) (P : Nat → Int → List Int → Prop) (x : Str) (pre : List Int) : (Str → Option Value) → List (Addr × Obj) → Prop :=
  KstS (gcLed lo lc cst) (fun _ => []) gcFacts x stored m₀ (fun pre c => P pre.length c.2.1 c.2.2.2.2.1) pre
theorem growc_loop {r lo lc : Addr} {a₀ b₀ : Int} {t₀ u₀ v₀ : Tok} {n : Nat} {m₀ : Str → Option Value} {cst : List (Addr × Obj)} {oc : Obj} {g : Int} {tg : Tok} {vo : List Value} {os : List Int} {no : Nat} (stored : List Str) (P : Nat → Int → List Int → Prop)
    (hh : A.handled = none) (hr : IsRange s.heap r a₀ b₀ 1 t₀ u₀ v₀) (hsmall : Builtin.Range.small a₀ b₀ 1 = true) (hn : Builtin.Range.rangeSize a₀ b₀ 1 = (n : Int)) (F : Fr h₀ env.locals s.heap m₀)
    (N : News h₀ env.locals s.heap ((lo, listOf vo.toArray no) :: (lc, oc) :: cst)) (hg : oc.data = Data.cell (some (.int g tg))) (hi : IntsAre vo os) (hp : P 0 g os)
    (turn : ∀ (oc : Obj) (g : Int) (tg : Tok) (vo : List Value) (os : List Int) (no : Nat) (pre : List Int) (k : Int) t (u : Str → Option Value) h tk own, k = a₀ + (pre.length : Int) → pre.length < n → OwnOff own (lo :: lc :: cst.map (·.1)) → oc.data = Data.cell (some (.int g tg)) → IntsAre vo os → P pre.length g os →
      Fr h₀ env.locals h (fun y => if y = x then some (.int k t) else if stored.contains y then u y else m₀ y) → News h₀ env.locals h ((lo, listOf vo.toArray no) :: (lc, oc) :: (cst ++ own)) →
      wpAny (model prog w) A (execs body env) (InvPostN h₀ env.locals (GcS lo lc cst stored m₀ P x (pre ++ [k])) own (lo :: lc :: cst.map (·.1)) { s with heap := h, toks := tk } Q) E { s with heap := h, toks := tk })
    (done : ∀ (oc : Obj) (g : Int) (tg : Tok) (vo : List Value) (os : List Int) (no : Nat) (u : Str → Option Value) h tk, oc.data = Data.cell (some (.int g tg)) → IntsAre vo os → P n g os → Fr h₀ env.locals h (fun y => if y = x then u y else if stored.contains y then u y else m₀ y) → News h₀ env.locals h ((lo, listOf vo.toArray no) :: (lc, oc) :: cst) → Q .next { s with heap := h, toks := tk }) :
    wpAny (model prog w) A (pyIter (.ref r)) (fun it s₂ => LoopAtV prog w A h₀ env x body Q E it s₂) E s := by
  refine kst_range (σ := SigC) (n := n) (gcLed lo lc cst) (fun _ => []) gcFacts stored (fun pre c => P pre.length c.2.1 c.2.2.2.2.1) (oc, g, tg, vo, os, no) hh hr hsmall hn F N ⟨hg, hi⟩ (List.forall_mem_nil _) hp ?_ ?_
  · rintro ⟨oc, g, tg, vo, os, no⟩ pre k t u h tk own hk hlt hoff ⟨hf, hf2⟩ hP F₁ N₁
    exact turn oc g tg vo os no pre k t u h tk own hk hlt hoff hf hf2 hP F₁ N₁
  · rintro ⟨oc, g, tg, vo, os, no⟩ u h tk ⟨hf, hf2⟩ hP F₁ N₁
    rw [rangeKs_length] at hP
    exact done oc g tg vo os no u h tk hf hf2 hP F₁ N₁
theorem growc_end {lo lc : Addr} {cst own : List (Addr × Obj)} {stored : List Str} {m₀ m' : Str → Option Value} {P : Nat → Int → List Int → Prop} {pre : List Int} {k : Int} {oc : Obj} {g : Int} {tg : Tok} {vo : List Value} {os : List Int} {no : Nat} {L : Addr} {news' : List (Addr × Obj)} {s₁ : Shared} {h' : Heap} {tk : Nat}
    (F : Fr h₀ L h' m') (N : News h₀ L h' news') (hl : (lo, listOf vo.toArray no) ∈ news') (hcl : (lc, oc) ∈ news') (hc : ∀ p ∈ cst, p ∈ news') (ho : ∀ p ∈ own, p ∈ news')
    (hm : ∀ z, z ≠ x → stored.contains z = false → m' z = m₀ z) (hg : oc.data = Data.cell (some (.int g tg))) (hi : IntsAre vo os) (hP : P (pre.length + 1) g os) :
    InvEndN h₀ L (GcS lo lc cst stored m₀ P x (pre ++ [k])) own (lo :: lc :: cst.map (·.1)) s₁ { s₁ with heap := h', toks := tk } :=
  kst_end (σ := SigC) (oc, g, tg, vo, os, no) F N (fun p hp => by
    rcases List.mem_cons.mp hp with rfl | hp
    · exact hl
    · rcases List.mem_cons.mp hp with rfl | hp
      · exact hcl
      · exact hc p hp) ho rfl ⟨hg, hi⟩ (List.forall_mem_nil _) (fun z h1 _ h3 => hm z h1 h3) (by rw [List.length_append]; exact hP)
end
theorem take_snoc {S : List (Int × Int)} {t : Nat} (ht : t < S.length) : S.take (t + 1) = S.take t ++ [S.getD t (0, 0)] := by
  rw [List.take_add_one, List.getD_eq_getElem?_getD, List.getElem?_eq_getElem ht]; rfl
theorem sgn_yes {S : List (Int × Int)} {t : Nat} {g base : Int} (hg : g = base + sgnSum 0 (S.take t)) (ht : t < S.length) (h : (S.getD t (0, 0)).2 = -1) : g + 2 ^ t = base + sgnSum 0 (S.take (t + 1)) := by
  have e : (S.take t).length = t := by rw [List.length_take]; omega
  rw [take_snoc ht, sgnSum_snoc, if_pos h, e, Nat.zero_add]; omega
theorem sgn_no {S : List (Int × Int)} {t : Nat} {g base : Int} (hg : g = base + sgnSum 0 (S.take t)) (ht : t < S.length) (h : ¬ (S.getD t (0, 0)).2 = -1) : g = base + sgnSum 0 (S.take (t + 1)) := by
  rw [take_snoc ht, sgnSum_snoc, if_neg h]; omega
theorem OsIn.next {own0 : Int} {S : List (Int × Int)} {t j : Nat} {os : List Int} {x ab : Int} (h : OsIn own0 S t j os) (ha : ab = 255 - (own0 + (t : Int))) (h0 : 0 < ab) : OsIn own0 S t (j + 1) (os ++ [255 - x.fmod ab]) := by
  have h1 : 0 ≤ x.fmod ab := by rw [Int.fmod_eq_emod_of_nonneg _ (by omega)]; exact Int.emod_nonneg _ (by omega)
  have h2 : x.fmod ab < ab := Int.fmod_lt_of_pos _ h0
  exact h.more (by omega) (by omega)
theorem pow256_ne (n : Nat) : (256 : Int) ^ n ≠ 0 := Int.ne_of_gt (Int.pow_pos (by decide))
theorem py256 {x : Int} {n : Nat} (h : n ≤ 8) : Builtin.divisionGoesByPylong x ((256 : Int) ^ n) = false := by
  refine PyProof.noPylong_of_log2 ?_
  have e : ((256 : Int) ^ n).natAbs = 256 ^ n := by rw [Int.natAbs_pow]; rfl
  rw [e]
  have h1 : 256 ^ n ≤ 256 ^ 8 := Nat.pow_le_pow_right (by decide) h
  have h2 : (256 ^ n).log2 ≤ 64 := by
    have hp : 256 ^ n ≠ 0 := Nat.ne_of_gt (Nat.pow_pos (by decide))
    apply Nat.le_of_lt_succ
    rw [Nat.log2_lt hp]
    exact Nat.lt_of_le_of_lt h1 (by decide)
  omega
end Mine
end
section
open PySem PySem.W PyProof.Rows PySem.Calls
namespace Mine
/-- the eight octets of a number, the lowest first -/
abbrev digs (g : Int) : List Int := (rangeKs 0 (8 - 0 : Int).toNat).map fun k => (g.fdiv (256 ^ k.toNat)).fmod 256
/-- a number's bits are the steps' signs -/
def SgOk : Int → List (Int × Int) → Prop
  | _, [] => True
  | g, p :: r => 1 - 2 * (g % 2) = p.2 ∧ SgOk (g / 2) r
theorem sgnSum_up : ∀ (S : List (Int × Int)) (t : Nat), sgnSum (t + 1) S = 2 * sgnSum t S
  | [], _ => rfl
  | p :: r, t => by
    rw [sgnSum, sgnSum, sgnSum_up r (t + 1)]
    have e : (2 : Int) ^ (t + 1) = 2 * 2 ^ t := by rw [Int.pow_succ]; omega
    split <;> omega
theorem sgOk_of : ∀ {S : List (Int × Int)} {A own : Int}, StOk own S → SgOk (A * 2 ^ S.length + sgnSum 0 S) S
  | [], _, _, _ => trivial
  | p :: r, A, own, h => by
    obtain ⟨⟨_, _, hp⟩, hr⟩ := h
    have e : (2 : Int) ^ (r.length + 1) = 2 * 2 ^ r.length := by rw [Int.pow_succ]; omega
    have e2 : A * (2 * 2 ^ r.length) = 2 * (A * 2 ^ r.length) := by rw [← Int.mul_assoc, Int.mul_comm A 2, Int.mul_assoc]
    have ih := sgOk_of (S := r) (A := A) hr
    rw [List.length_cons, e, e2, sgnSum, sgnSum_up]
    generalize A * 2 ^ r.length = X at ih ⊢
    generalize sgnSum 0 r = Y at ih ⊢
    have e0 : (2 : Int) ^ 0 = 1 := rfl
    rw [e0]
    refine ⟨?_, ?_⟩
    · rcases hp with h | h
      · rw [if_neg (by omega), h]; omega
      · rw [if_pos h, h]; omega
    · rw [show (2 * X + ((if p.2 = -1 then 1 else 0) + 2 * Y)) / 2 = X + Y by split <;> omega]
      exact ih
theorem fd (a b : Int) (h : 0 ≤ b) : a.fdiv b = a / b := Int.fdiv_eq_ediv_of_nonneg a h
theorem fm (a b : Int) (h : 0 ≤ b) : a.fmod b = a % b := Int.fmod_eq_emod_of_nonneg a h
/-- what the octets of a stream are -/
structure StreamOk (own0 : Int) (S : List (Int × Int)) (ks : List Int) : Prop where
  form : ∃ g os, ks = digs g ++ os ∧ Os own0 S os ∧ 0 ≤ g ∧ g < 2 ^ 64 ∧ SgOk g S
  inn : KBa.In ks
  len : ks.length ≤ 8 + 4 * S.length
theorem digs_in (g : Int) : KBa.In (digs g) := by
  intro n hn
  obtain ⟨k, _, rfl⟩ := List.mem_map.mp hn
  exact ⟨fm0 _, fm1 _⟩
theorem digs_len (g : Int) : (digs g).length = 8 := by simp [digs, rangeKs]
theorem base_bound (rest : Int) (n : Nat) (hn : n ≤ 60) (y : Int) (h0 : 0 ≤ y) (h1 : y ≤ 2 ^ n - 1) : 0 ≤ (rest.fmod (2 ^ Int.toNat 64)).fdiv (2 ^ n) * 2 ^ n + y ∧ (rest.fmod (2 ^ Int.toNat 64)).fdiv (2 ^ n) * 2 ^ n + y < 2 ^ 64 := by
  have hp : (0 : Int) < 2 ^ n := Int.pow_pos (by decide)
  have e64 : (2 : Int) ^ Int.toNat 64 = 2 ^ 64 := rfl
  rw [e64, fm _ _ (by decide), fd _ _ (by omega)]
  have hx0 : 0 ≤ rest % 2 ^ 64 := Int.emod_nonneg _ (by decide)
  have hx1 : rest % 2 ^ 64 < 2 ^ 64 := Int.emod_lt_of_pos _ (by decide)
  generalize rest % 2 ^ 64 = X at hx0 hx1 ⊢
  have h64 : (2 : Int) ^ 64 = 2 ^ (64 - n) * 2 ^ n := by rw [← Int.pow_add]; congr 1; omega
  have hq0 : 0 ≤ X / 2 ^ n := Int.ediv_nonneg hx0 (by omega)
  have hq1 : X / 2 ^ n < 2 ^ (64 - n) := Int.ediv_lt_of_lt_mul hp (by rw [← h64]; exact hx1)
  have hm : X / 2 ^ n * 2 ^ n ≤ (2 ^ (64 - n) - 1) * 2 ^ n := Int.mul_le_mul_of_nonneg_right (by omega) (by omega)
  have hm0 : 0 ≤ X / 2 ^ n * 2 ^ n := Int.mul_nonneg hq0 (by omega)
  have e : (2 ^ (64 - n) - 1) * (2 : Int) ^ n = 2 ^ 64 - 2 ^ n := by rw [Int.sub_mul, ← h64, Int.one_mul]
  rw [e] at hm
  omega
theorem stream_ok {own0 rest g : Int} {S : List (Int × Int)} {os : List Int} {n : Nat} (hn : S.length = n) (hl : n ≤ 60) (ho : own0 = 256 - (n : Int)) (hok : StOk own0 S) (h : OsAt own0 S n os)
    (hg : g = (rest.fmod (2 ^ Int.toNat 64)).fdiv (2 ^ (n : Int).toNat) * 2 ^ (n : Int).toNat + sgnSum 0 (S.take n)) : StreamOk own0 S (digs g ++ os) := by
  have hO := h.ok
  have hT : S.take n = S := List.take_of_length_le (by omega)
  rw [hT] at hO hg
  rw [Int.toNat_natCast] at hg
  have hb := sgnSum_bound S 0
  rw [Nat.zero_add, hn] at hb
  have hb' : sgnSum 0 S ≤ 2 ^ n - 1 := by simpa using hb.2
  have hB := base_bound rest n hl _ hb.1 hb'
  rw [← hg] at hB
  refine ⟨⟨g, os, rfl, hO, hB.1, hB.2, ?_⟩, ?_, ?_⟩
  · rw [hg, ← hn]; exact sgOk_of hok
  · intro x hx
    rcases List.mem_append.mp hx with hx | hx
    · exact digs_in g x hx
    · exact hO.bound hok (by omega) (by omega) x hx
  · rw [List.length_append, digs_len]
    have := hO.len
    omega
end Mine
end
section
open PySem PySem.W PyProof.Rows PySem.Calls PySem.NumText
set_option maxRecDepth 100000
namespace Mine
theorem typeCall_int2 (a b : Value) : checkTypeCall "int" ⟨[a, b], []⟩ = pure () := by kernel_rfl
theorem newCall_int2 (a b : Value) : checkBuiltinCall "int.__new__" ⟨[.type "int", a, b], []⟩ = pure () := by kernel_rfl
theorem args_init3 (a b c : Value) : argsOk "object.__init__" ⟨[a, b, c], []⟩ := by
  unfold argsOk; rw [signature?_of (id := "object.__init__") (n := ['_', '_', 't', 'i', 'n', 'i', '_', '_']) (o := ['t', 'c', 'e', 'j', 'b', 'o']) (by kernel_rfl) PySem.F.owner_object]; kernel_rfl
theorem wp_text2 {M : Model} {A : Around} {E : Value → Shared → Prop} {s : Shared} {Q : Value → Shared → Prop} {v : Value} {text : List Nat} {n : Int}
    (hs : (text.takeWhile (· != 0)).length ≤ 640) (hr : (int_private% "readNumeral") 0 2 (text.takeWhile (· != 0)) = (int_private% "Numeral.value") n)
    (ha : ((text.takeWhile (· != 0)).length == text.length) = true) (h : Q (.int n s.toks) { s with toks := s.toks + 1 }) :
    wpAny M A ((int_private% "intFromText") v text 2) Q E s := by
  obtain ⟨hp, g, d, tk, os⟩ := s
  repeat (any_goals (first
    | assumption
    | (with_reducible refine wpAny_ite_true (decide_eq_true hs) ?_)
    | (with_reducible refine wpAny_ite_true (decide_eq_true ha) ?_)
    | wp_step))
  all_goals (try rw [hr])
  all_goals (try dsimp only)
  repeat (any_goals (first
    | assumption
    | (with_reducible refine wpAny_ite_true (decide_eq_true hs) ?_)
    | (with_reducible refine wpAny_ite_true (decide_eq_true ha) ?_)
    | wp_step))
structure Hid3 (x : Str) (n : Int) : Prop where
  a : (numSeenOf x).length ≤ 640
  b : (int_private% "readNumeral") 0 2 (numSeenOf x) = (int_private% "Numeral.value") n
  c : ((numSeenOf x).length == (numTextOf x).length) = true
set_option maxHeartbeats 4000000 in
theorem gives_text2 {x : Str} {u u2 : Tok} {n : Int} (hk : Hid3 x n) : Gives (Builtin.«int.__new__» ⟨[.type "int", .str x u, .int 2 u2], []⟩) (.int n) :=
  .of_wp fun M A E s Q h => by
    obtain ⟨hp, g, d, tk, os⟩ := s
    have f1 := PySem.F.conv_sub_int
    have f2 := PySem.F.madeHere_int
    have f6 : typeOf (.str x u) = pure (.type "str") := rfl
    repeat (any_goals (first
      | assumption
      | ((with_reducible show wpAny _ _ ((int_private% "intFromText") _ _ _) _ _ _); refine wp_text2 hk.a hk.b hk.c ?_)
      | wp_step))
    all_goals exact ⟨_, rfl, h⟩
theorem call_int_2 {prog : Program} {w : World} {A : Around} {E : Value → Shared → Prop} {s : Shared} {Q : Value → Shared → Prop} {x : Str} {t u : Tok} {n : Int} (hk : Hid3 x n) (h : Q (.int n s.toks) { s with toks := s.toks + 1 }) :
    wpAny (model prog w) A (call (.type "int") [.str x t, .int 2 u]) Q E s :=
  callType_new PySem.F.called_int PySem.F.newNe_int (typeCall_int2 _ _) (newCall_int2 _ _) (fun obj => args_init3 obj _ _) PySem.F.entry_int_new (gives_text2 hk).meets (show (Made.int n).post _ s from ⟨rfl, h⟩)
def okText (x : Str) : Bool :=
  decide ((numSeenOf x).length ≤ 640) && ((numSeenOf x).length == (numTextOf x).length) && (sign ((numSeenOf x).dropWhile blank)).1 == false &&
  (based 2 (sign ((numSeenOf x).dropWhile blank)).2).1 == 2 && (based 2 (sign ((numSeenOf x).dropWhile blank)).2).2.1 == false &&
  (digits? 2 (((based 2 (sign ((numSeenOf x).dropWhile blank)).2).2.2.reverse.dropWhile blank).reverse)).isSome
theorem okText_reads {x : Str} (h : okText x = true) : ∃ n, 0 ≤ n ∧ Hid3 x n := by
  unfold okText at h
  simp only [Bool.and_eq_true, decide_eq_true_eq, beq_iff_eq] at h
  obtain ⟨⟨⟨⟨⟨h1, h2⟩, h3⟩, h4⟩, h5⟩, h6⟩ := h
  obtain ⟨ds, hd⟩ := Option.isSome_iff_exists.mp h6
  refine ⟨((ds.foldl (fun acc d => acc * 2 + d) 0 : Nat) : Int), Int.natCast_nonneg _, h1, ?_, beq_iff_eq.mpr h2⟩
  refine (readNumeral_eq 0 2 (numSeenOf x)).trans ?_
  rw [h3, h4, h5, hd]
  rfl
/-- the text that a place's eight bits are read back from -/
abbrev brText (i : Int) (u : Tok) : Str := Txt.sliceBy (Txt.zfill (Txt.slice (baseText "0b" 2 (Builtin.bitAnd i (2 ^ Int.toNat 8 - 1))) (some 2) none) 8) none none (-1, u)
theorem br_ok : ∀ i : Nat, i < 256 → okText (brText (i : Int) 0) = true := by decide +kernel
end Mine
end
section
open PySem PySem.W PyProof.Rows PySem.Calls
set_option maxRecDepth 100000
namespace Mine
theorem entry_pow : entryFor table "pow" = some Builtin.«pow» := entryFor_of_tree (by kernel_rfl)
theorem kind_pow : builtinKind "pow" = none := by decide +kernel
theorem plain_pow : plainId "pow" = true := by decide +kernel
theorem args_pow3 (a b c : Value) : argsOk "pow" ⟨[a, b, c], []⟩ := by unfold argsOk; kernel_rfl
abbrev pw (x y : Int) : Int := ((Builtin.powMod (x % 8380417).toNat y.natAbs 8380417 : Nat) : Int)
set_option maxHeartbeats 4000000 in
theorem gives_int_pow3 {x y : Int} {t u v : Tok} (h0 : 0 ≤ y) : Gives (Builtin.«int.__pow__» ⟨[.int x t, .int y u, .int 8380417 v], []⟩) (.int (pw x y)) :=
  .of_wp fun M A E s Q h => by
    obtain ⟨hp, g, d, tk, os⟩ := s
    have hy : ¬ y < 0 := by omega
    repeat (any_goals (first
      | assumption
      | (with_reducible refine wpAny_ite_false (decide_eq_false hy) ?_)
      | wp_step))
    refine ⟨_, rfl, ?_⟩
    rw [if_neg (by simp)]
    exact h
set_option maxHeartbeats 4000000 in
theorem gives_int_inv {t u v : Tok} : Gives (Builtin.«int.__pow__» ⟨[.int 256 t, .int (-1) u, .int 8380417 v], []⟩) (.int 8347681) :=
  .of_wp fun M A E s Q h => by
    obtain ⟨hp, g, d, tk, os⟩ := s
    repeat (any_goals (first
      | assumption
      | wp_step))
    refine ⟨_, rfl, ?_⟩
    have e : ∀ z : Int, z = 8347681 → Q (Value.int z tk) { heap := hp, gens := g, drawn := d, toks := tk + 1, os := os } := by
      rintro _ rfl
      exact h
    exact e _ (by decide +kernel)
theorem call_int_pow3 {prog : Program} {w : World} {A : Around} {E : Value → Shared → Prop} {s : Shared} {Q : Value → Shared → Prop} {x y n : Int} {t u v : Tok} (G : Gives (Builtin.«int.__pow__» ⟨[.int x t, .int y u, .int 8380417 v], []⟩) (.int n)) (h : Q (.int n s.toks) { s with toks := s.toks + 1 }) :
    wpAny (model prog w) A (call (.builtin "int.__pow__") [.int x t, .int y u, .int 8380417 v]) Q E s :=
  call_meets PySem.F.slot_int_pow (typeIs_int s x t) PySem.F.entry_int_pow (PySem.F.args_int_pow_3 _ _ _) G.meets (show (Made.int n).post _ s from h)
set_option maxHeartbeats 4000000 in
theorem meets_pow3 {x y n : Int} {t u v : Tok} (G : Gives (Builtin.«int.__pow__» ⟨[.int x t, .int y u, .int 8380417 v], []⟩) (.int n)) : Meets (Builtin.«pow» ⟨[.int x t, .int y u, .int 8380417 v], []⟩) (fun _ R s => R (.ok (.ret (.int n s.toks))) { s with toks := s.toks + 1 }) := by
  intro prog w A R s h
  obtain ⟨hp, g, d, tk, os⟩ := s
  have f7 : typeLookup (.type "int") "__pow__" = pure (some (.builtin "int.__pow__")) := PySem.F.slot_int_pow.lookup
  repeat (any_goals (first
      | assumption
      | ((with_reducible show wpAny _ _ (callSpecial? _ _ _ _) _ _ _); refine wpAny_callSpecial?_slot (typeIs_int _ _ _) PySem.F.slot_int_pow (call_int_pow3 G ?_))
      | wp_step))
theorem call_pow3 {prog : Program} {w : World} {A : Around} {E : Value → Shared → Prop} {s : Shared} {Q : Value → Shared → Prop} {x y n : Int} {t u v : Tok} (G : Gives (Builtin.«int.__pow__» ⟨[.int x t, .int y u, .int 8380417 v], []⟩) (.int n)) (h : Q (.int n s.toks) { s with toks := s.toks + 1 }) :
    wpAny (model prog w) A (call (.builtin "pow") [.int x t, .int y u, .int 8380417 v]) Q E s :=
  call_function_meets kind_pow plain_pow entry_pow (args_pow3 _ _ _) (meets_pow3 G) h
end Mine
end
section
open PySem PySem.W PyProof.Rows PySem.Calls
set_option maxRecDepth 100000
set_option rowWalk.seconds 0
namespace Mine
set_option maxHeartbeats 4000000 in
theorem signs_says (w : World) (D : Addr) (vs : List Value) (ns : List Int) (n0 : Nat) (news : List (Addr × Obj)) (hn : IntsAre vs ns) (hlen : ns.length ≤ 60) (hD : (D, listOf vs.toArray n0) ∈ news) :
    Says PySem.Challenge.rw_bd0004_01.row.prog w (Mine.K w.params) 20 (.ref 606) [.ref D] news (fun r news' => ∃ d o kvs c, r = .ref d ∧ AllLt d news ∧ o.IsDictOf (PySem.intKind PySem.Challenge.rw_bd0004_01.row.prog w) kvs ∧ PyProof.V.FlatPairs PyData.int kvs (kdfD c) ∧ (d == sysModules) = false ∧ news' = (d, o) :: news ∧ Sg c ns.length) := by
  k_with "pyIter ref" => k_state (fun pre (c : List (Int × Int)) => Sg c pre.length ∧ c.length = pre.length) "signs"
  k_with "exec While Compare cons nil" => k_while (fun _ place => 0 ≤ place ∧ place < 256) (fun _ place => dist (Sg.the ‹Sg _ _›) 256 place) "place"
  k_with "measure" => exact dist_step (by assumption) (by omega) (by assumption)
  k_with "state" => first | exact sg_nil.both | exact ⟨fm0 _, fm1 _⟩ | exact (sg_put (by assumption) (by assumption) (by assumption) (by assumption) (sg_sign _)).both
  unfold Says; k_fill
  intro p loose mean mg mb dp un gd cn cs a ccd cl outer A₀ base h₀ L m s Q E B F X N0 T hk hdp hun hret
  have N := news_dup N0 hD
  clear N0
  refine wpAny_call ?_
  k_dflt ktr_enter
  k_steps
  exact hret _ _ _ _ (by assumption) (kst_newsOf (by assumption) (l' := (_, _) :: news) (by intro p hp; rcases List.mem_cons.mp hp with rfl | hp; exact .head _; exact .tail _ (.tail _ hp))) ⟨_, _, _, _, rfl, And.right (by assumption), by assumption, by assumption, by assumption, rfl, by assumption⟩
end Mine
end
section
open PySem PySem.W PyProof.Rows PySem.Calls
set_option maxRecDepth 100000
set_option rowWalk.seconds 0
namespace Mine
abbrev tupO (p q : Int) (t1 t2 : Tok) : Obj := { cls := .type "tuple", data := .seq #[.int p t1, .int q t2] }
theorem dat_rev {news : List (Addr × Obj)} : ∀ {vs : List Value} {ds : List Dat}, DatAll news vs ds → DatAll news vs.reverse ds.reverse
  | _, _, .nil => .nil
  | _, _, .cons h r => by
    rw [List.reverse_cons, List.reverse_cons]
    exact (dat_rev r).append (.one h)
section
abbrev SigS := Obj × List (Int × Value) × List (Int × Int) × List Value × List Int × Nat × List Value × List (Int × Int) × Nat
abbrev stLed (lt lp dl : Addr) (c : SigS) : List (Addr × Obj) := [(lt, listOf c.2.2.2.2.2.2.1.toArray c.2.2.2.2.2.2.2.2), (lp, listOf c.2.2.2.1.toArray c.2.2.2.2.2.1), (dl, c.1)]
abbrev stFacts (prog : Program) (w : World) (tl : List (Addr × Obj)) (c : SigS) : Prop :=
  Obj.IsDictOf (PySem.intKind prog w) c.1 c.2.1 ∧ PyProof.V.FlatPairs PyData.int c.2.1 (kdfD c.2.2.1) ∧ IntsAre c.2.2.2.1 c.2.2.2.2.1 ∧ DatAll tl c.2.2.2.2.2.2.1 (c.2.2.2.2.2.2.2.1.map tupD)
abbrev stP (c0 : List (Int × Int)) (tau : Nat) (pre : List Int) (c : SigS) : Prop := StInv c0 tau pre.length c.2.2.1 c.2.2.2.2.1 c.2.2.2.2.2.2.2.1
abbrev stAdr (lt lp dl d D : Addr) (news : List (Addr × Obj)) : List Addr := lt :: lp :: dl :: d :: D :: news.map (·.1)
variable {prog : Program} {w : World} {A : Around} {E : Value → Shared → Prop} {s : Shared} {env : Env} {h₀ : Heap} {body : List Stmt} {Q : Flow → Shared → Prop}
abbrev StEnd (prog : Program) (w : World) (h₀ : Heap) (L lt lp dl d D : Addr) (o : Obj) (vs : List Value) (n0 : Nat) (news : List (Addr × Obj)) (c0 : List (Int × Int)) (tau : Nat) (m₀ : Str → Option Value) (pre : List Int) (own : List (Addr × Obj)) (s₁ s₂ : Shared) : Prop :=
  InvEndG h₀ L (KdS (stLed lt lp dl) ((d, o) :: (D, listOf vs.toArray n0) :: news) (fun _ => []) (stFacts prog w) (Str.ofString "t") [Str.ofString "own", Str.ofString "place"] m₀ (stP c0 tau) (stAdr lt lp dl d D news) pre) own s₁ s₂
theorem steps_loop {r tu lt lp dl d D : Addr} {ot ol o : Obj} {vp vs : List Value} {ns : List Int} {np n0 : Nat} {news : List (Addr × Obj)} {kvs : List (Int × Value)} {c0 : List (Int × Int)} {t₀ u₀ v₀ : Tok} {m₀ : Str → Option Value}
    (hh : A.handled = none) (hr : IsRange s.heap r ((ns.length : Int) - 1) (-1) (-1) t₀ u₀ v₀) (hlen : ns.length ≤ 60) (F : Fr h₀ env.locals s.heap m₀)
    (N : News h₀ env.locals s.heap ((tu, ot) :: (lt, listOf #[] 0) :: (lp, listOf vp.toArray np) :: (dl, ol) :: (d, o) :: (D, listOf vs.toArray n0) :: news))
    (hd : ol.IsDictOf (PySem.intKind prog w) kvs) (hf : PyProof.V.FlatPairs PyData.int kvs (kdfD c0)) (hp : IntsAre vp (c0.map (·.1))) (S : Sg c0 ns.length)
    (turn : ∀ o₁ kvs₁ c vp₁ ps np₁ vt st nt tl (pre : List Int) (i : Int) t (u : Str → Option Value) h tk own, i = (ns.length : Int) - 1 - (pre.length : Int) → pre.length < ns.length →
      KdSep own tl (stAdr lt lp dl d D news) → OwnOff (tl ++ own) (stAdr lt lp dl d D news) → Obj.IsDictOf (PySem.intKind prog w) o₁ kvs₁ → PyProof.V.FlatPairs PyData.int kvs₁ (kdfD c) → IntsAre vp₁ ps → DatAll ((d, o) :: (D, listOf vs.toArray n0) :: (news ++ tl)) vt (st.map tupD) → StInv c0 ns.length pre.length c ps st →
      Fr h₀ env.locals h (fun y => if y = Str.ofString "t" then some (.int i t) else if [Str.ofString "own", Str.ofString "place"].contains y then u y else m₀ y) → News h₀ env.locals h ((lt, listOf vt.toArray nt) :: (lp, listOf vp₁.toArray np₁) :: (dl, o₁) :: (d, o) :: (D, listOf vs.toArray n0) :: (news ++ (tl ++ own))) →
      wpAny (model prog w) A (execs body env) (InvPostG h₀ env.locals (KdS (stLed lt lp dl) ((d, o) :: (D, listOf vs.toArray n0) :: news) (fun _ => []) (stFacts prog w) (Str.ofString "t") [Str.ofString "own", Str.ofString "place"] m₀ (stP c0 ns.length) (stAdr lt lp dl d D news) (pre ++ [i])) own { s with heap := h, toks := tk } Q) E { s with heap := h, toks := tk })
    (done : ∀ (o₁ : Obj) (kvs₁ : List (Int × Value)) (c : List (Int × Int)) (vp₁ : List Value) (ps : List Int) (np₁ : Nat) (vt : List Value) (st : List (Int × Int)) (nt : Nat) (tl : List (Addr × Obj)) (u : Str → Option Value) h tk, OwnOff tl (stAdr lt lp dl d D news) → DatAll ((d, o) :: (D, listOf vs.toArray n0) :: (news ++ tl)) vt (st.map tupD) → StInv c0 ns.length ns.length c ps st →
      Fr h₀ env.locals h (fun y => if y = Str.ofString "t" then u y else if [Str.ofString "own", Str.ofString "place"].contains y then u y else m₀ y) → News h₀ env.locals h ((lt, listOf vt.toArray nt) :: (lp, listOf vp₁.toArray np₁) :: (dl, o₁) :: (d, o) :: (D, listOf vs.toArray n0) :: (news ++ tl)) →
      Q .next { s with heap := h, toks := tk }) :
    wpAny (model prog w) A (pyIter (.ref r)) (fun it s₂ => LoopAtV prog w A h₀ env (Str.ofString "t") body Q E it s₂) E s := by
  refine loop_down (σ := SigS) (n := ns.length) (stLed lt lp dl) ((d, o) :: (D, listOf vs.toArray n0) :: news) (fun _ => []) (stFacts prog w) [Str.ofString "own", Str.ofString "place"] (stP c0 ns.length) (stAdr lt lp dl d D news) (ol, kvs, c0, vp, c0.map (·.1), np, [], [], 0)
    hh hr (small_down (by omega) (by omega) (by omega) (by omega)) (by rw [rangeSize_downNat]; congr 1; omega) F N ?_ (fun _ => rfl) ⟨hd, hf, hp, .nil⟩ (List.forall_mem_nil _) (StInv.start S) ?_ ?_
  · intro p hp
    simp only [List.cons_append, List.nil_append, List.append_nil, List.mem_cons] at hp ⊢
    rcases hp with rfl | rfl | rfl | rfl | rfl | hp <;> simp_all
  · rintro ⟨o₁, kvs₁, c, vp₁, ps, np₁, vt, st, nt⟩ tl pre k t u h tk own hk hlt hsep hoff ⟨h1, h2, h3, h4⟩ hP F₁ N₁
    exact turn o₁ kvs₁ c vp₁ ps np₁ vt st nt tl pre k t u h tk own hk hlt hsep hoff h1 h2 h3 h4 hP F₁ N₁
  · rintro ⟨o₁, kvs₁, c, vp₁, ps, np₁, vt, st, nt⟩ tl u h tk hoff ⟨h1, h2, h3, h4⟩ hP F₁ N₁
    refine done o₁ kvs₁ c vp₁ ps np₁ vt st nt tl u h tk hoff h4 ?_ F₁ N₁
    have : (downKs ((ns.length : Int) - 1) ns.length).length = ns.length := downKs_length _ _
    unfold stP at hP
    rwa [this] at hP
theorem steps_end {L lt lp dl d D a : Addr} {o o₂ : Obj} {vs vq vt : List Value} {tau n0 np nt : Nat} {news tl own : List (Addr × Obj)} {c0 c₂ : List (Int × Int)} {kvs₂ : List (Int × Value)} {pq : List Int} {st : List (Int × Int)} {pre : List Int} {p q i : Int} {t1 t2 : Tok}
    {m₀ m' : Str → Option Value} {s₁ : Shared} {h' : Heap} {tk : Nat}
    (hsep : KdSep own tl (stAdr lt lp dl d D news)) (F : Fr h₀ L h' m')
    (N : News h₀ L h' ((a, tupO p q t1 t2) :: (lt, listOf (vt.toArray.push (.ref a)) nt) :: (lp, listOf vq.toArray np) :: (dl, o₂) :: (d, o) :: (D, listOf vs.toArray n0) :: (news ++ (tl ++ own))))
    (hl : AllLt a ((lt, listOf vt.toArray 0) :: (lp, listOf vt.toArray 0) :: (dl, o₂) :: (d, o) :: (D, listOf vs.toArray n0) :: (news ++ (tl ++ own))))
    (hm : ∀ z, z ≠ Str.ofString "t" → [Str.ofString "own", Str.ofString "place"].contains z = false → m' z = m₀ z)
    (hd : Obj.IsDictOf (PySem.intKind prog w) o₂ kvs₂) (hf : PyProof.V.FlatPairs PyData.int kvs₂ (kdfD c₂)) (hi : IntsAre vq pq) (hda : DatAll ((d, o) :: (D, listOf vs.toArray n0) :: (news ++ tl)) vt (st.map tupD))
    (hI : StInv c0 tau (pre.length + 1) c₂ pq (st ++ [(p, q)])) :
    StEnd prog w h₀ L lt lp dl d D o vs n0 news c0 tau m₀ (pre ++ [i]) own s₁ { s₁ with heap := h', toks := tk } := by
  have hlt := ktn_ltOf hl
  refine kd_end (σ := SigS) (tl := tl) (o₂, kvs₂, c₂, vq, pq, np, vt ++ [.ref a], st ++ [(p, q)], nt) [(a, tupO p q t1 t2)] hsep F N ?_ ?_ rfl ?_ ?_ (List.forall_mem_nil _) (fun z h1 _ h3 => hm z h1 h3) ⟨hd, hf, hi, ?_⟩ ?_
  · intro x hx
    have e : (vt ++ [Value.ref a]).toArray = vt.toArray.push (.ref a) := by simp
    simp only [stLed, e, List.cons_append, List.nil_append, List.mem_cons, List.mem_append] at hx ⊢
    rcases hx with h | h | h | h | h | h | h | h <;> simp [h]
  · intro x hx
    simp only [List.mem_cons, List.mem_append, hx, or_true]
  · intro x hx b hb
    rw [List.mem_singleton.mp hx]
    have hb' : ∃ y ∈ ((lt, listOf vt.toArray 0) :: (lp, listOf vt.toArray 0) :: (dl, o₂) :: (d, o) :: (D, listOf vs.toArray n0) :: (news ++ (tl ++ own))), y.1 = b := by
      simp only [stAdr, List.mem_cons, List.mem_map] at hb
      rcases hb with rfl | rfl | rfl | rfl | rfl | ⟨y, hy, rfl⟩
      · exact ⟨_, .head _, rfl⟩
      · exact ⟨_, .tail _ (.head _), rfl⟩
      · exact ⟨_, .tail _ (.tail _ (.head _)), rfl⟩
      · exact ⟨_, .tail _ (.tail _ (.tail _ (.head _))), rfl⟩
      · exact ⟨_, .tail _ (.tail _ (.tail _ (.tail _ (.head _)))), rfl⟩
      · exact ⟨y, .tail _ (.tail _ (.tail _ (.tail _ (.tail _ (List.mem_append.mpr (.inl hy)))))), rfl⟩
    obtain ⟨y, hy, rfl⟩ := hb'
    exact Nat.ne_of_lt (hlt y hy)
  · intro x hx y hy
    rw [List.mem_singleton.mp hx]
    exact Nat.ne_of_lt (hlt y (.tail _ (.tail _ (.tail _ (.tail _ (.tail _ (List.mem_append.mpr (.inr (List.mem_append.mpr (.inr hy)))))))))) 
  · rw [List.map_append]
    refine DatAll.append (hda.mono fun x hx => ?_) (DatAll.one (.tuple (n := 0) (vs := [.int p t1, .int q t2]) ?_ (.cons (.int p t1) (.cons (.int q t2) .nil))))
    · simp only [List.cons_append, List.nil_append, List.mem_cons, List.mem_append] at hx ⊢
      rcases hx with h | h | h | h <;> simp [h]
    · simp
  · show StInv c0 tau (pre ++ [i]).length c₂ pq (st ++ [(p, q)])
    rw [List.length_append]; exact hI
end
local macro_rules | `(tactic| walk_at "call type:dict") => `(tactic| (k_here; refine kt_dict_K (knd := PySem.intKind _ _) (enc := PyData.int) (by k_asm) (by k_asm) (Top.nolimit (by k_asm)) (by kt_ktab) (sg_size (by assumption) (by omega)) ?_; intro d' h' o' kvs' F' N' l1 lo' hd' hf'; (try k_lt l1)))
local macro_rules | `(tactic| walk_at "subscriptTail") => `(tactic| (k_here; kdf_here; (with_reducible show wpAny _ _ (subscriptTail _ _ (Value.ref _) (Value.int _ _)) _ _ _); refine kdf_item (by k_tabat) (by assumption) ?_; intro _))
local macro_rules | `(tactic| walk_at "call builtin:list.remove") => `(tactic| (k_here; (with_reducible show wpAny _ _ (call (Value.builtin _) [Value.ref _, Value.int _ _]) _ _ _); (refine' remove_ints ?F ?N ?U ?i ?k ?z ?_; (case F => k_asm); (case N => k_asm); (case U => k_updF); (case i => assumption); (case k => exact StInv.mem (by assumption) (by assumption)); (case z => omega)); intro h' q' F' N' hi'; (try dsimp only at N')))
local macro_rules | `(tactic| walk_at "call builtin:dict.pop") => `(tactic| (k_here; (refine' kdy_pop (more := []) (.inl rfl) (PySem.F.args_dict_pop_2 _ _) ?F ?N ?U ?d ?f ?k ?z ?_; (case F => k_asm); (case N => k_asm); (case U => k_updF); (case d => k_asm); (case f => k_asm); (case k => first | assumption | exact has_put (by assumption) (by assumption)); (case z => first | omega | (refine Nat.le_trans (kdfPut_len _ _ _) ?_; omega))); intro h' o' kvs' t' F' N' hd' hf'; (try dsimp only at N')))
local macro_rules | `(tactic| walk_at "InvEndG") => `(tactic| refine Hold.out ?_)
local macro_rules | `(tactic| walk_at "pyIter ref") => `(tactic| refine Hold.out ?_)
local macro_rules | `(tactic| walk_at "subscriptTail Name Slice ref ref") => `(tactic| (k_here; (refine' krv_lit (its := List.toArray _) (zs := List.reverse _) ?F ?N ?l ?k rfl ?_ ?s ?t ?z; (case F => k_asm); (case N => k_asm); (case l => kmk_list); (case k => exact IsPart.int _ _); (case s => with_unfolding_all rfl); (case t => kmk_pure); (case z => (rw [List.size_toArray, sizeLine_eq]; omega))); intro D' h' F' N' l1; (try k_lt l1); (try k_sweep)))
set_option maxHeartbeats 4000000 in
theorem steps_says (w : World) (D d : Addr) (o : Obj) (kvs : List (Int × Value)) (c : List (Int × Int)) (vs : List Value) (ns : List Int) (n0 : Nat) (news : List (Addr × Obj)) (hn : IntsAre vs ns) (hlen : ns.length ≤ 60) (hD : (D, listOf vs.toArray n0) ∈ news)
    (hd : (d, o) ∈ news) (hk : o.IsDictOf (PySem.intKind PySem.Challenge.rw_bd0004_01.row.prog w) kvs) (hf : PyProof.V.FlatPairs PyData.int kvs (kdfD c)) (hlo : (d == sysModules) = false) (S : Sg c ns.length) :
    Says PySem.Challenge.rw_bd0004_01.row.prog w (Mine.K w.params) 20 (.ref 613) [.ref d, .ref D] news (fun r news' => ∃ dr vr st tl, r = .ref dr ∧ news' = (dr, listOf (List.toArray vr) 0) :: (news ++ tl) ∧ AllLt dr (news ++ tl) ∧ DatAll (news ++ tl) vr ((List.reverse st).map tupD) ∧ OwnOff tl (news.map (·.1)) ∧
      fwdAll (fun _ => 0) (256 - (ns.length : Int)) st.reverse = lk c ∧ StOk (256 - (ns.length : Int)) st.reverse ∧ st.length = ns.length) := by
  unfold Says; k_fill
  intro p loose mean mg mb dp un gd cn cs a ccd cl outer A₀ base h₀ L m s Q E B F X N0 T hk hdp hun hret
  have N := news_dup (news_dup N0 hD) (.tail _ hd)
  clear N0
  have hcl := S.len
  refine wpAny_call ?_
  k_dflt ktr_enter
  k_steps
  refine steps_loop rfl (by assumption) hlen (by assumption) (by assumption) (by assumption) (by assumption) (by assumption) S ?_ ?_
  · intro o₁ kvs₁ c₁ vp₁ ps np₁ vt st nt tl pre i t u h tk own hi hk hsep ho3 hd1 hf1 hi1 hda I F N
    have kM1 := kdMark
    have kM2 := kstMark
    have hpl : ps.length = c₁.length := by rw [I.pe, List.length_map]
    have hcl1 := I.sg.len
    have hstl := I.len
    have hvt := hda.length
    rw [List.length_map] at hvt
    have hhas := spot_has I hk ((ns.getD i.toNat 0).fdiv 512)
    obtain ⟨ho1, ho2, ho4⟩ := id hsep
    k_steps
    · exact steps_end hsep (by assumption) (by assumption) (by assumption) (by intro z h1 h3; simp only [List.contains_cons, List.contains_nil, Bool.or_false, Bool.or_eq_false_iff, beq_eq_false_iff_ne, ne_eq] at h3; simp [h1, h3]) (by assumption) (by assumption) (by assumption) hda (I.move (own := 256 - (ns.length : Int) + i) hk (by omega) hhas (by assumption) (by assumption))
    · exact steps_end hsep (by assumption) (by assumption) (by assumption) (by intro z h1 h3; simp only [List.contains_cons, List.contains_nil, Bool.or_false, Bool.or_eq_false_iff, beq_eq_false_iff_ne, ne_eq] at h3; simp [h1, h3]) (by assumption) (by assumption) (by assumption) hda (I.stay (own := 256 - (ns.length : Int) + i) hk (by omega) hhas (.inr (by assumption)))
    · exact steps_end hsep (by assumption) (by assumption) (by assumption) (by intro z h1 h3; simp only [List.contains_cons, List.contains_nil, Bool.or_false, Bool.or_eq_false_iff, beq_eq_false_iff_ne, ne_eq] at h3; simp [h1, h3]) (by assumption) (by assumption) (by assumption) hda (I.stay (own := 256 - (ns.length : Int) + i) hk (by omega) hhas (.inl (by assumption)))
  · intro o₁ kvs₁ c₁ vp₁ ps np₁ vt st nt tl u h tk hoff hda I F N
    have hstl := I.len
    have hvt := hda.length
    rw [List.length_map] at hvt
    k_steps
    (rename (_ ∧ _ ∧ _ ∧ _ ∧ _ ∧ AllLt _ (news ++ tl)) => hA)
    refine hret _ _ _ _ (by assumption) (kst_newsOf (by assumption) ?_) ⟨_, vt.reverse, st, tl, rfl, rfl, hA.2.2.2.2.2, ?_, ?_, I.fin, I.ok, I.len⟩
    · intro p hp
      simp only [List.mem_cons, List.mem_append] at hp ⊢
      rcases hp with hp | hp | hp <;> simp [hp]
    · rw [List.map_reverse]
      refine dat_rev (hda.mono ?_)
      intro p hp
      rcases List.mem_cons.mp hp with rfl | hp
      · exact List.mem_append.mpr (.inl hd)
      · rcases List.mem_cons.mp hp with rfl | hp
        · exact List.mem_append.mpr (.inl hD)
        · exact hp
    · exact fun p hp b hb => hoff p hp b (.tail _ (.tail _ (.tail _ (.tail _ (.tail _ hb)))))
end Mine
end
section
open PySem PySem.W PyProof.Rows PySem.Calls
set_option maxRecDepth 100000
set_option rowWalk.seconds 0
namespace Mine
local macro_rules | `(tactic| walk_at "clear ne") => `(tactic| (repeat (first | (rename (_ ∧ _) ∧ _ => hz9; clear hz9) | (rename _ ≠ _ ∧ _ => hz9; clear hz9))))
local macro_rules | `(tactic| walk_at "binaryOp Pow int int") => `(tactic| (k_here; (with_reducible refine pow_int_small ?zp1 ?zp2 ?zp3 ?_); (case zp1 => (walk_at "clear ne"; l_bnd)); (case zp2 => (walk_at "clear ne"; l_bnd)); (case zp3 => decide)))
local macro_rules | `(tactic| walk_at "call type:range") => `(tactic| ((rename Fr _ _ _ _ => F'); (rename News _ _ _ _ => N'); first
  | (with_unfolding_all refine range1_rows F' N' ?_; intro _ _ _ _ _ _ _ _ _)
  | (with_unfolding_all refine range2_rows F' N' ?_; intro _ _ _ _ _ _ _ _ _)))
local macro_rules | `(tactic| walk_at "binaryOp FloorDiv int int") => `(tactic| (k_here; refine floordiv_int (pow256_ne _) ?_ (Or.inl (py256 (by walk_at "clear ne"; omega)))))
local macro_rules | `(tactic| walk_at "subscriptTail") => `(tactic| (k_here; (with_reducible show wpAny _ _ (subscriptTail _ _ (Value.ref _) (Value.int _ _)) _ _ _); (rename News _ _ _ _ => N9); k_dflt (refine' step_item N9 ?k1 ?kd ?k2 ?k3 ?k4 ?k5 ?_; (case k1 => k_mem); (case kd => assumption); (case k2 => (intro p9 hp9; simp only [List.mem_cons, List.mem_append, hp9, true_or, or_true])); (case k3 => omega); (case k4 => omega); (case k5 => omega)); intro a9 n9 t91 t92 hm9))
local macro_rules | `(tactic| walk_at "InvEndN") => `(tactic| refine Hold.out ?_)
local macro_rules | `(tactic| walk_at "call type:bytes") => `(tactic| refine Hold.out ?_)
local macro_rules | `(tactic| walk_at "pyIter ref") => `(tactic| refine Hold.out ?_)
local macro_rules | `(tactic| walk_at "call builtin:len") => `(tactic| (k_here; (with_reducible show wpAny _ _ (call (Value.builtin "len") [Value.ref _]) _ _ _); refine len_of (by k_asm) (by k_mem) (by assumption) (by omega) ?_))
local macro_rules | `(tactic| k_enter) => `(tactic| (refine' code_defC ?k1 ?k2 ?k3 ?k4 ?k5 ?kA ?kF ?kK ?k6 ?k7 ?k8 ?k9 ?kB ?kD ?_ ?c2 ?c3 ?c4; (case kA => exact rfl); (case kF => exact rfl); (case kK => assumption); (case k1 => k_asm); (case k2 => k_asm); (case k3 => k_asm); (case k4 => k_asm); (case k5 => k_asm); (case k6 => k_is); (case k7 => k_is); (case k8 => ktr_room); (case k9 => exact BindsTo.of_eq rfl); (case kB => exact rfl); (case kD => decide +kernel); (case c2 => exact rfl); (case c3 => exact rfl); (case c4 => exact rfl); k_whole; intro g' L' h' tk' cells' FG' F' N' Y' B' X' T' l1; have l2 := lt_up l1 1; (simp only [AllLt, and_true] at l2); (try k_lt l1); k_cells Y'; (try simp only [List.cons_append, List.nil_append] at N'); (try dsimp only); (try k_lift B'); (try k_fold)))
theorem fm4 (a : Int) : 0 ≤ a.fmod 4 ∧ a.fmod 4 < 4 := by rw [Int.fmod_eq_emod_of_nonneg _ (by decide)]; omega
set_option maxHeartbeats 4000000 in
theorem stream_says (w : World) (D dr : Addr) (vs vr : List Value) (ns : List Int) (S : List (Int × Int)) (n0 nr : Nat) (rest : Int) (tr : Tok) (news sub : List (Addr × Obj)) (hn : IntsAre vs ns) (hlen : ns.length ≤ 60) (hS : S.length = ns.length) (hD : (D, listOf vs.toArray n0) ∈ news)
    (hdr : (dr, listOf vr.toArray nr) ∈ news) (hda : DatAll sub vr (S.map tupD)) (hsub : ∀ p ∈ sub, p ∈ news) (hok : StOk (256 - (ns.length : Int)) S) :
    Says PySem.Challenge.rw_bd0004_01.row.prog w (Mine.K w.params) 20 (.ref 618) [.ref dr, .ref D, .int rest tr] news (fun r news' => ∃ ks tk, r = .bytes (byteArr ks) tk ∧ news' = news ∧ StreamOk (256 - (ns.length : Int)) S ks) := by
  unfold Says; k_fill
  intro p loose mean mg mb dp un gd cn cs a ccd cl outer A₀ base h₀ L m s Q E B F X N0 T hk hdp hun hret
  have N := news_dup (news_dup N0 hD) (.tail _ hdr)
  clear N0
  replace hda := hda.mono hsub
  clear hsub
  have hvr := hda.length
  rw [List.length_map, hS] at hvr
  refine wpAny_call ?_
  k_dflt k_enter
  k_steps
  refine growc_loop (n := ns.length) [Str.ofString "place", Str.ofString "sign", Str.ofString "above", Str.ofString "m"] (fun t g os => OsAt (256 - (ns.length : Int)) S t os ∧ g = (rest.fmod (2 ^ Int.toNat 64)).fdiv (2 ^ (ns.length : Int).toNat) * 2 ^ (ns.length : Int).toNat + sgnSum 0 (S.take t))
    rfl (by assumption) (small_one (by omega) (by omega) (by omega) (by omega)) (by rw [rangeSize_nat]; rfl) (by assumption) (by assumption) (by assumption) .nil ⟨.start _ _, by simp [sgnSum]⟩ ?_ ?_
  · intro oc g tg vo os no pre k t u h tk own hk hlt hoff hg hi hP F N
    obtain ⟨hP1, hP2'⟩ := hP
    have kM2 := kstMark
    have kM1 := kdMark
    simp only [List.cons_append, List.map_cons] at N hoff
    have hk0 : k = (pre.length : Int) := by omega
    have hol := hP1.len
    have hil := hi.length
    have ht9 : pre.length < S.length := by omega
    subst hk0
    k_steps
    · unfold Hold
      refine grow_loop [] (fun j os => OsIn (256 - (ns.length : Int)) S pre.length j os) rfl (by assumption) (small_one (by omega) (by omega) (by first | omega | (have := fm4 ((ns.getD (pre.length : Int).toNat 0).fdiv 4096); omega)) (by first | omega | (have := fm4 ((ns.getD (pre.length : Int).toNat 0).fdiv 4096); omega))) (rangeSize_nat _ _) (by assumption) (by assumption) hi hP1.to ?_ ?_
      · intro vo2 os2 no2 pre2 k2 t2 u2 h2 tk2 own2 hk2 hlt2 hoff2 hi2 hP2 F2 N2
        simp only [List.cons_append, List.map_cons, List.append_assoc] at N2 hoff2
        have hil2 := hi2.length
        have hol2 := hP2.len
        have hb2 := fm4 ((ns.getD (pre.length : Int).toNat 0).fdiv 4096)
        k_steps
        unfold Hold
        (rename News _ _ _ _ => NE)
        simp only [List.push_toArray] at NE
        refine grow_end (by assumption) NE (.head _) (by kst_inAny) (by (intro p hp; kst_mem)) (by intro z h1 h3; simp [h1]) (IntsAre.append hi2 (.cons _ _ .nil)) (hP2.next ?_ ?_)
        · omega
        · omega
      · intro vo2 os2 no2 u2 h2 tk2 hi2 hP2 F2 N2
        have hil2 := hi2.length
        have hol2 := hP2.len
        have hb2 := fm4 ((ns.getD (pre.length : Int).toNat 0).fdiv 4096)
        k_steps
        unfold Hold
        (rename News _ _ _ _ => NE)
        simp only [List.push_toArray] at NE
        refine growc_end (by assumption) NE (.head _) (.tail _ (.head _)) (by kst_inAny) (by (intro p hp; kst_mem)) (by intro z h1 h3; simp only [List.contains_cons, List.contains_nil, Bool.or_false, Bool.or_eq_false_iff, beq_eq_false_iff_ne, ne_eq] at h3; simp [h1, h3]) (by assumption) (IntsAre.append hi2 (.cons _ _ .nil)) ⟨hP2.end ?_ ht9, ?_⟩
        · omega
        · first | exact sgn_yes hP2' ht9 (by assumption) | exact sgn_no hP2' ht9 (by assumption)
    · unfold Hold
      refine grow_loop [] (fun j os => OsIn (256 - (ns.length : Int)) S pre.length j os) rfl (by assumption) (small_one (by omega) (by omega) (by first | omega | (have := fm4 ((ns.getD (pre.length : Int).toNat 0).fdiv 4096); omega)) (by first | omega | (have := fm4 ((ns.getD (pre.length : Int).toNat 0).fdiv 4096); omega))) (rangeSize_nat _ _) (by assumption) (by assumption) hi hP1.to ?_ ?_
      · intro vo2 os2 no2 pre2 k2 t2 u2 h2 tk2 own2 hk2 hlt2 hoff2 hi2 hP2 F2 N2
        exact absurd hlt2 (by omega)
      · intro vo2 os2 no2 u2 h2 tk2 hi2 hP2 F2 N2
        have hil2 := hi2.length
        have hol2 := hP2.len
        have hb2 := fm4 ((ns.getD (pre.length : Int).toNat 0).fdiv 4096)
        k_steps
        unfold Hold
        (rename News _ _ _ _ => NE)
        simp only [List.push_toArray] at NE
        refine growc_end (by assumption) NE (.head _) (.tail _ (.head _)) (by kst_inAny) (by (intro p hp; kst_mem)) (by intro z h1 h3; simp only [List.contains_cons, List.contains_nil, Bool.or_false, Bool.or_eq_false_iff, beq_eq_false_iff_ne, ne_eq] at h3; simp [h1, h3]) (by assumption) (IntsAre.append hi2 (.cons _ _ .nil)) ⟨hP2.end ?_ ht9, ?_⟩
        · omega
        · first | exact sgn_yes hP2' ht9 (by assumption) | exact sgn_no hP2' ht9 (by assumption)
    · unfold Hold
      refine grow_loop [] (fun j os => OsIn (256 - (ns.length : Int)) S pre.length j os) rfl (by assumption) (small_one (by omega) (by omega) (by first | omega | (have := fm4 ((ns.getD (pre.length : Int).toNat 0).fdiv 4096); omega)) (by first | omega | (have := fm4 ((ns.getD (pre.length : Int).toNat 0).fdiv 4096); omega))) (rangeSize_nat _ _) (by assumption) (by assumption) hi hP1.to ?_ ?_
      · intro vo2 os2 no2 pre2 k2 t2 u2 h2 tk2 own2 hk2 hlt2 hoff2 hi2 hP2 F2 N2
        simp only [List.cons_append, List.map_cons, List.append_assoc] at N2 hoff2
        have hil2 := hi2.length
        have hol2 := hP2.len
        have hb2 := fm4 ((ns.getD (pre.length : Int).toNat 0).fdiv 4096)
        k_steps
        unfold Hold
        (rename News _ _ _ _ => NE)
        simp only [List.push_toArray] at NE
        refine grow_end (by assumption) NE (.head _) (by kst_inAny) (by (intro p hp; kst_mem)) (by intro z h1 h3; simp [h1]) (IntsAre.append hi2 (.cons _ _ .nil)) (hP2.next ?_ ?_)
        · omega
        · omega
      · intro vo2 os2 no2 u2 h2 tk2 hi2 hP2 F2 N2
        have hil2 := hi2.length
        have hol2 := hP2.len
        have hb2 := fm4 ((ns.getD (pre.length : Int).toNat 0).fdiv 4096)
        k_steps
        unfold Hold
        (rename News _ _ _ _ => NE)
        simp only [List.push_toArray] at NE
        refine growc_end (by assumption) NE (.head _) (.tail _ (.head _)) (by kst_inAny) (by (intro p hp; kst_mem)) (by intro z h1 h3; simp only [List.contains_cons, List.contains_nil, Bool.or_false, Bool.or_eq_false_iff, beq_eq_false_iff_ne, ne_eq] at h3; simp [h1, h3]) (by assumption) (IntsAre.append hi2 (.cons _ _ .nil)) ⟨hP2.end ?_ ht9, ?_⟩
        · omega
        · first | exact sgn_yes hP2' ht9 (by assumption) | exact sgn_no hP2' ht9 (by assumption)
    · unfold Hold
      refine grow_loop [] (fun j os => OsIn (256 - (ns.length : Int)) S pre.length j os) rfl (by assumption) (small_one (by omega) (by omega) (by first | omega | (have := fm4 ((ns.getD (pre.length : Int).toNat 0).fdiv 4096); omega)) (by first | omega | (have := fm4 ((ns.getD (pre.length : Int).toNat 0).fdiv 4096); omega))) (rangeSize_nat _ _) (by assumption) (by assumption) hi hP1.to ?_ ?_
      · intro vo2 os2 no2 pre2 k2 t2 u2 h2 tk2 own2 hk2 hlt2 hoff2 hi2 hP2 F2 N2
        exact absurd hlt2 (by omega)
      · intro vo2 os2 no2 u2 h2 tk2 hi2 hP2 F2 N2
        have hil2 := hi2.length
        have hol2 := hP2.len
        have hb2 := fm4 ((ns.getD (pre.length : Int).toNat 0).fdiv 4096)
        k_steps
        unfold Hold
        (rename News _ _ _ _ => NE)
        simp only [List.push_toArray] at NE
        refine growc_end (by assumption) NE (.head _) (.tail _ (.head _)) (by kst_inAny) (by (intro p hp; kst_mem)) (by intro z h1 h3; simp only [List.contains_cons, List.contains_nil, Bool.or_false, Bool.or_eq_false_iff, beq_eq_false_iff_ne, ne_eq] at h3; simp [h1, h3]) (by assumption) (IntsAre.append hi2 (.cons _ _ .nil)) ⟨hP2.end ?_ ht9, ?_⟩
        · omega
        · first | exact sgn_yes hP2' ht9 (by assumption) | exact sgn_no hP2' ht9 (by assumption)
  · intro oc g tg vo os no u h tk hg hi hP F N
    obtain ⟨hP1, hP2⟩ := hP
    have kM2 := kstMark
    have kM1 := kdMark
    have hol := hP1.len
    have hil := hi.length
    have hST := stream_ok (rest := rest) hS hlen rfl hok hP1 hP2
    k_steps
    unfold Hold
    (rename News _ _ _ _ => NE)
    (rename IntsAre _ (digs g ++ os) => hI9)
    refine KBa.make_K (by assumption) NE rfl ⟨_, (NE _ (.head _)).1, rfl, 0, rfl⟩ hI9 hST.inn (Nat.le_trans hST.len (by omega)) ?_
    intro h9 t9 k9 F9 N9 _
    k_steps
    exact hret _ _ _ _ (by assumption) (kst_newsOf (by assumption) (by intro p hp; simp only [List.mem_cons, hp, or_true])) ⟨_, _, rfl, rfl, hST⟩
end Mine
end
section
open PySem PySem.W PyProof.Rows PySem.Calls
set_option maxRecDepth 100000
set_option rowWalk.seconds 0
namespace Mine
theorem br_szs : ∀ i : Nat, i < 256 → (baseText "0b" 2 (Builtin.bitAnd (i : Int) (2 ^ Int.toNat 8 - 1))).length ≤ 12 ∧ (Txt.zfill (Txt.slice (baseText "0b" 2 (Builtin.bitAnd (i : Int) (2 ^ Int.toNat 8 - 1))) (some 2) none) 8).length ≤ 12 := by decide +kernel
structure Br1 (k : Int) (x : Str) : Prop where
  h0 : 0 ≤ k
  h1 : k < 256
  e : x = baseText "0b" 2 (Builtin.bitAnd k (2 ^ Int.toNat 8 - 1))
structure Br2 (k : Int) (x : Str) : Prop where
  h0 : 0 ≤ k
  h1 : k < 256
  e : x = Txt.slice (baseText "0b" 2 (Builtin.bitAnd k (2 ^ Int.toNat 8 - 1))) (some 2) none
structure Br3 (k : Int) (x : Str) : Prop where
  h0 : 0 ≤ k
  h1 : k < 256
  e : x = Txt.zfill (Txt.slice (baseText "0b" 2 (Builtin.bitAnd k (2 ^ Int.toNat 8 - 1))) (some 2) none) 8
noncomputable def brN (k : Int) : Int := Classical.epsilon fun n => 0 ≤ n ∧ Hid3 (brText k 0) n
theorem brN_spec {k : Int} (h0 : 0 ≤ k) (h1 : k < 256) : 0 ≤ brN k ∧ Hid3 (brText k 0) (brN k) := by
  have h := br_ok k.toNat (by omega)
  rw [Int.toNat_of_nonneg h0] at h
  exact Classical.epsilon_spec (okText_reads h)
structure Br4 (k : Int) (x : Str) : Prop where
  h0 : 0 ≤ k
  h1 : k < 256
  e : x = brText k 0
section
variable {prog : Program} {w : World} {A : Around} {E : Value → Shared → Prop} {s : Shared} {h₀ : Heap} {L : Addr} {m : Str → Option Value} {news : List (Addr × Obj)} {value slice : PySem.Expr} {k : Int} {x : Str} {t u : Tok} {Q : Value → Shared → Prop}
theorem Br1.size (b : Br1 k x) : x.length ≤ sizeLine := by
  have := br_szs k.toNat (by have := b.h0; have := b.h1; omega)
  rw [Int.toNat_of_nonneg b.h0, ← b.e] at this
  rw [sizeLine_eq]; omega
theorem Br3.size (b : Br3 k x) : x.length ≤ sizeLine := by
  have := br_szs k.toNat (by have := b.h0; have := b.h1; omega)
  rw [Int.toNat_of_nonneg b.h0, ← b.e] at this
  rw [sizeLine_eq]; omega
theorem br_bin (h0 : 0 ≤ k) (h1 : k < 256) (h : ∀ x, Br1 k x → Q (.str x s.toks) { s with toks := s.toks + 1 }) : wpAny (model prog w) A (call (.builtin "bin") [.int (Builtin.bitAnd k (2 ^ Int.toNat 8 - 1)) t]) Q E s :=
  P.bin_of_int (h _ ⟨h0, h1, rfl⟩) (Br1.size ⟨h0, h1, rfl⟩)
theorem br_cut (b : Br1 k x) (hF : Fr h₀ L s.heap m) (hN : News h₀ L s.heap news) (h : ∀ y h' t' c, Fr h₀ L h' m → News h₀ L h' news → Br2 k y → Q (.str y t') { s with heap := h', toks := c })
    (hs : subscripted slice false (.str x t) (.ref s.heap.objs.size) = operate [.ref s.heap.objs.size, .str x t] (getItem (.str x t) (.ref s.heap.objs.size)) := by with_unfolding_all rfl)
    (ht : ∀ r, letTemporaryGo value (.str x t) r = pure () := by intro _; with_unfolding_all rfl) :
    wpAny (model prog w) A (subscriptTail value slice (.str x t) (.ref s.heap.objs.size)) Q E { s with heap := s.heap.push { cls := .type "slice", data := .fields #[.int 2 u, .none, .none] } } :=
  slice_strN_sn hF hN (fun h' t' c F' N' => h _ h' t' c F' N' ⟨b.h0, b.h1, by rw [b.e]⟩) hs ht b.size
theorem br_fill (b : Br2 k x) (h : ∀ y t' c, Br3 k y → Q (.str y t') { s with toks := c }) : wpAny (model prog w) A (call (.builtin "str.zfill") [.str x t, .int 8 u]) Q E s :=
  SC.zfill (by decide +kernel) fun t' c => h _ t' c ⟨b.h0, b.h1, by rw [b.e]⟩
theorem br_rev (b : Br3 k x) (hF : Fr h₀ L s.heap m) (hN : News h₀ L s.heap news) (h : ∀ y h' t' c, Fr h₀ L h' m → News h₀ L h' news → Br4 k y → Q (.str y t') { s with heap := h', toks := c })
    (hs : subscripted slice false (.str x t) (.ref s.heap.objs.size) = operate [.ref s.heap.objs.size, .str x t] (getItem (.str x t) (.ref s.heap.objs.size)) := by with_unfolding_all rfl)
    (ht : ∀ r, letTemporaryGo value (.str x t) r = pure () := by intro _; with_unfolding_all rfl) :
    wpAny (model prog w) A (subscriptTail value slice (.str x t) (.ref s.heap.objs.size)) Q E { s with heap := s.heap.push { cls := .type "slice", data := .fields #[.none, .none, .int (-1) u] } } :=
  slice_strK_nn hF hN (by decide) (fun h' t' c F' N' => h _ h' t' c F' N' ⟨b.h0, b.h1, by rw [b.e]; rfl⟩) hs ht b.size
theorem br_int (b : Br4 k x) (h : Q (.int (brN k) s.toks) { s with toks := s.toks + 1 }) : wpAny (model prog w) A (call (.type "int") [.str x t, .int 2 u]) Q E s :=
  call_int_2 (by rw [b.e]; exact (brN_spec b.h0 b.h1).2) h
end
local macro_rules | `(tactic| walk_at "no such key 0") => `(tactic| fail "none")
local macro_rules | `(tactic| walk_at "no such key 1") => `(tactic| fail "none")
local macro_rules | `(tactic| walk_at "no such key 2") => `(tactic| fail "none")
local macro_rules | `(tactic| walk_at "no such key 3") => `(tactic| fail "none")
local macro_rules | `(tactic| walk_at "no such key 4") => `(tactic| fail "none")
local macro_rules | `(tactic| walk_at "call builtin:bin") => `(tactic| (k_dflt (refine br_bin (by omega) (by omega) ?_); intro _ _))
local macro_rules | `(tactic| walk_at "subscriptTail") => `(tactic| ((with_reducible show wpAny _ _ (subscriptTail _ (Expr.Slice (some _) none none _) (Value.str _ _) (Value.ref _)) _ _ _); (with_reducible rename Fr _ _ _ _ => F'); (with_reducible rename News _ _ _ _ => N'); k_dflt (refine br_cut (s := ⟨_, _, _, _, _⟩) (by assumption) F' N' ?_); intro _ _ _ _ _ _ _))
local macro_rules | `(tactic| walk_at "subscriptTail") => `(tactic| ((with_reducible show wpAny _ _ (subscriptTail _ (Expr.Slice none none (some _) _) (Value.str _ _) (Value.ref _)) _ _ _); (with_reducible rename Fr _ _ _ _ => F'); (with_reducible rename News _ _ _ _ => N'); k_dflt (refine br_rev (s := ⟨_, _, _, _, _⟩) (by assumption) F' N' ?_); intro _ _ _ _ _ _ _))
local macro_rules | `(tactic| walk_at "call builtin:str.zfill") => `(tactic| (k_dflt (refine br_fill (by assumption) ?_); intro _ _ _ _))
local macro_rules | `(tactic| walk_at "call type:int") => `(tactic| (k_dflt (refine br_int (by assumption) ?_)))
set_option maxHeartbeats 4000000 in
theorem br_says (w : World) (k : Int) (tk1 tk2 : Tok) (news : List (Addr × Obj)) (hk0 : 0 ≤ k) (hk1 : k < 256) :
    Says PySem.Challenge.rw_bd0004_01.row.prog w (Mine.K w.params) 20 (.ref 301) [.int k tk1, .int 8 tk2] news (fun r news' => ∃ tk, r = .int (brN k) tk ∧ 0 ≤ brN k ∧ news' = news) := by
  unfold Says; k_fill
  intro p loose mean mg mb dp un gd cn cs a ccd cl outer A₀ base h₀ L m s Q E B F X N T hk hdp hun hret
  refine wpAny_call ?_
  k_dflt ktr_enter
  k_steps
  exact hret _ _ _ _ (by assumption) (by assumption) ⟨_, rfl, (brN_spec hk0 hk1).1, rfl⟩
end Mine
end
section
open PySem PySem.W PyProof.Rows PySem.Calls
namespace Mine
abbrev kE (P : Params) (x : Str) (t : Tok) (v : Value) : DictEntry := { hash := PyData.keyHash P x, key := .str x t, val := v }
/-- a Shake as __init__ leaves it -/
abbrev shO (P : Params) (alg : Addr) (bl : Int) (t1 t2 t3 t4 t5 t6 t7 : Tok) : Obj :=
  dictOf [kE P "algorithm" t1 (.ref alg), kE P "block_length" t2 (.int bl t3), kE P "buf" t4 (.bytes #[] t5), kE P "len_buf" t6 (.int 0 t7)] 4
abbrev ringO (P : Params) (s1 s2 z : Addr) (t1 t2 t3 t4 t5 t6 t7 t8 t9 : Tok) : Obj :=
  dictOf [kE P "q" t1 (.int 8380417 t2), kE P "n" t3 (.int 256 t4), kE P "shake128" t5 (.ref s1), kE P "shake256" t6 (.ref s2), kE P "ntt_zetas" t7 (.ref z), kE P "ntt_f" t8 (.int 8347681 t9)] 6
def RingPost (P : Params) (cR cS f g : Addr) (news : List (Addr × Obj)) (r : Value) (news' : List (Addr × Obj)) : Prop :=
  ∃ x dx s1 d1 s2 d2 z t1 t2 t3 t4 t5 t6 t7 u1 u2 u3 u4 u5 u6 u7 v1 v2 v3 v4 v5 v6 v7 v8 v9, r = .ref x ∧
    news' = (s2, instObj cS d2) :: (d2, shO P g 136 t1 t2 t3 t4 t5 t6 t7) :: (s1, instObj cS d1) :: (d1, shO P f 168 u1 u2 u3 u4 u5 u6 u7) :: (x, instObj cR dx) :: (dx, ringO P s1 s2 z v1 v2 v3 v4 v5 v6 v7 v8 v9) :: news ∧
    d2 < s2 ∧ s1 < d2 ∧ d1 < s1 ∧ x < d1 ∧ dx < x ∧ AllLt dx news
theorem ring_end {P : Params} {cR cS f g : Addr} {h₀ h' : Heap} {L x dx s1 d1 s2 d2 z c1 c2 : Addr} {zo o1 o2 : Obj} {news : List (Addr × Obj)} {t1 t2 t3 t4 t5 t6 t7 u1 u2 u3 u4 u5 u6 u7 v1 v2 v3 v4 v5 v6 v7 v8 v9 : Tok}
    (N : News h₀ L h' ((z, zo) :: (s2, instObj cS d2) :: (d2, shO P g 136 t1 t2 t3 t4 t5 t6 t7) :: (s1, instObj cS d1) :: (d1, shO P f 168 u1 u2 u3 u4 u5 u6 u7) :: (c1, o1) :: (c2, o2) :: (x, instObj cR dx) :: (dx, ringO P s1 s2 z v1 v2 v3 v4 v5 v6 v7 v8 v9) :: news))
    (h1 : d2 < s2) (h2 : s1 < d2) (h3 : d1 < s1) (h4 : x < d1) (h5 : dx < x) (h6 : ∀ p ∈ news, p.1 < dx) : ∃ news', News h₀ L h' news' ∧ RingPost P cR cS f g news (.ref x) news' :=
  have N' : News h₀ L h' ((s2, instObj cS d2) :: (d2, shO P g 136 t1 t2 t3 t4 t5 t6 t7) :: (s1, instObj cS d1) :: (d1, shO P f 168 u1 u2 u3 u4 u5 u6 u7) :: (x, instObj cR dx) :: (dx, ringO P s1 s2 z v1 v2 v3 v4 v5 v6 v7 v8 v9) :: news) := fun p hp => N p (by
    rcases List.mem_cons.mp hp with h | hp
    · subst h; exact .tail _ (.head _)
    rcases List.mem_cons.mp hp with h | hp
    · subst h; exact .tail _ (.tail _ (.head _))
    rcases List.mem_cons.mp hp with h | hp
    · subst h; exact .tail _ (.tail _ (.tail _ (.head _)))
    rcases List.mem_cons.mp hp with h | hp
    · subst h; exact .tail _ (.tail _ (.tail _ (.tail _ (.head _))))
    exact .tail _ (.tail _ (.tail _ (.tail _ (.tail _ (.tail _ (.tail _ hp)))))))
  ⟨_, N', _, _, _, _, _, _, _, _, _, _, _, _, _, _, _, _, _, _, _, _, _, _, _, _, _, _, _, _, _, _, rfl, rfl, h1, h2, h3, h4, h5, allLt_of h6⟩
end Mine
end
section
open PySem PySem.W PyProof.Rows PySem.Calls
set_option maxRecDepth 100000
set_option rowWalk.seconds 0
namespace Mine
local macro_rules | `(tactic| walk_at "no such key 0") => `(tactic| fail "none")
local macro_rules | `(tactic| walk_at "no such key 1") => `(tactic| fail "none")
local macro_rules | `(tactic| walk_at "no such key 2") => `(tactic| fail "none")
local macro_rules | `(tactic| walk_at "no such key 3") => `(tactic| fail "none")
local macro_rules | `(tactic| walk_at "no such key 4") => `(tactic| fail "none")
local macro_rules | `(tactic| walk_at "no such key 5") => `(tactic| fail "none")
local macro_rules | `(tactic| walk_at "no such key 6") => `(tactic| fail "none")
local macro_rules | `(tactic| walk_at "no such key 7") => `(tactic| fail "none")
local macro_rules | `(tactic| walk_at "clear ne") => `(tactic| (repeat (first | (rename (_ ∧ _) ∧ _ => hz9; clear hz9) | (rename _ ≠ _ ∧ _ => hz9; clear hz9))))
local macro_rules | `(tactic| k_enter) => `(tactic| first | (refine' code_def ?k1 ?k2 ?k3 ?k4 ?k5 ?kA ?kF ?kK ?k6 ?k7 ?k8 ?k9 ?kB ?_ ?c2 ?c3 ?c4 ?c5; (case kA => exact rfl); (case kF => exact rfl); (case kK => first | exact rfl | assumption); (case k1 => k_asm); (case k2 => k_asm); (case k3 => k_asm); (case k4 => k_asm); (case k5 => k_asm); (case k6 => k_is); (case k7 => k_is); (case k8 => ktr_room); (case k9 => first | exact BindsTo.of_eq rfl | exact binds_K (by k_in) rfl (by k_is) rfl rfl rfl); (case c5 => decide); (case kB => exact locs rfl); (case c2 => exact rfl); (case c3 => exact rfl); (case c4 => exact rfl); k_whole; intro g' L' h' FG' F' N' B' X' T'; (try dsimp only); (try k_lift B'); (try k_fold)) | (refine' code_defC ?k1 ?k2 ?k3 ?k4 ?k5 ?kA ?kF ?kK ?k6 ?k7 ?k8 ?k9 ?kB ?kD ?_ ?c2 ?c3 ?c4; (case kA => exact rfl); (case kF => exact rfl); (case kK => first | exact rfl | assumption); (case k1 => k_asm); (case k2 => k_asm); (case k3 => k_asm); (case k4 => k_asm); (case k5 => k_asm); (case k6 => k_is); (case k7 => k_is); (case k8 => ktr_room); (case k9 => first | exact BindsTo.of_eq rfl | exact binds_K (by k_in) rfl (by k_is) rfl rfl rfl); (case kB => exact rfl); (case kD => decide +kernel); (case c2 => exact rfl); (case c3 => exact rfl); (case c4 => exact rfl); k_whole; intro g' L' h' tk' cells' FG' F' N' Y' B' X' T' l1; have l2 := lt_up l1 1; (simp only [AllLt, and_true] at l2); have l3 := lt_up l1 2; (simp only [AllLt, and_true] at l3); have l4 := lt_up l1 3; (simp only [AllLt, and_true] at l4); have l5 := lt_up l1 4; (simp only [AllLt, and_true] at l5); (try k_lt l1); k_cells Y'; (try simp only [List.cons_append, List.nil_append] at N'); (try dsimp only); (try k_lift B'); (try k_fold)))
local macro_rules | `(tactic| walk_at "call builtin:pow") => `(tactic| first | k_dflt (refine call_pow3 (gives_int_pow3 (by omega)) ?_) | k_dflt (refine call_pow3 gives_int_inv ?_))
local macro_rules | `(tactic| walk_at "call ref") => `(tactic| (k_here; k_dflt (refine' use_says (br_says _ _ _ _ _ ?b0 ?b1) ?k1 ?k2 ?k3 ?k4 ?k5 ?kK ?kd ?ku ?_; (case k1 => k_asm); (case k2 => k_asm); (case k3 => k_asm); (case k4 => k_asm); (case k5 => k_asm); (case kK => first | exact rfl | assumption); (case b0 => (walk_at "clear ne"; omega)); (case b1 => (walk_at "clear ne"; omega)); (case kd => ktr_room); (case ku => (simp only [un_make, units_in1, units_deeper, Around.mark_units] ; (try dsimp only [ktrTop]); omega))); intro r9 n9 h9 tk9 F9 N9 hp9; obtain ⟨t9, hr9, hv9, hn9⟩ := hp9; subst hr9; subst hn9; (try dsimp only)))
set_option maxHeartbeats 4000000 in
theorem ring_says (w : World) (f g : Addr) (news : List (Addr × Obj)) :
    Says PySem.Challenge.rw_bd0004_01.row.prog w (Mine.K w.params) 60 (.ref 390) [.ref f, .ref g] news (fun r news' => RingPost w.params 390 278 f g news r news') := by
  unfold Says; k_fill
  intro p loose mean mg mb dp un gd cn cs a ccd cl outer A₀ base h₀ L m s Q E B F X N T hk hdp hun hret
  k_steps
  (rename ∀ (p : Addr × Obj), p ∈ news → _ => hA)
  (rename News _ _ _ _ => NE)
  obtain ⟨n', N', P'⟩ := ring_end NE (by assumption) (And.left (by assumption)) (by assumption) (And.left (And.right (And.right (by assumption)))) (by assumption) hA
  exact hret _ _ _ _ (by assumption) N' P'
end Mine
end
section
open PySem PySem.W PyProof.Rows PySem.Calls
namespace Mine
/-- the first n octets that a row brings, noughts behind it -/
def pre (S : List Int) (n : Nat) : List Int := (S ++ List.replicate n 0).take n
/-- n octets from place i on -/
def win (S : List Int) (i n : Nat) : List Int := (List.range n).map fun k => S.getD (i + k) 0
theorem pre_len (S : List Int) (n : Nat) : (pre S n).length = n := by simp [pre]
theorem pre_get (S : List Int) (n i : Nat) (h : i < n) : (pre S n).getD i 0 = S.getD i 0 := by
  unfold pre
  rw [List.getD_eq_getElem?_getD, List.getD_eq_getElem?_getD, List.getElem?_take_of_lt h]
  by_cases hi : i < S.length
  · rw [List.getElem?_append_left hi]
  · rw [List.getElem?_append_right (by omega), List.getElem?_replicate, List.getElem?_eq_none (l := S) (by omega)]
    split <;> rfl
theorem win_of (S : List Int) {i n m : Nat} (h : i + n ≤ m) : ((pre S m).drop i).take n = win S i n := by
  apply List.ext_getElem?
  intro k
  unfold win
  by_cases hk : k < n
  · rw [List.getElem?_take_of_lt hk, List.getElem?_drop, List.getElem?_map, List.getElem?_range hk]
    have h1 : i + k < (pre S m).length := by rw [pre_len]; omega
    have h2 := pre_get S m (i + k) (by omega)
    rw [List.getD_eq_getElem?_getD, List.getElem?_eq_getElem h1] at h2
    rw [List.getElem?_eq_getElem h1]
    simp at h2
    simp [h2]
  · rw [List.getElem?_eq_none (by simp; omega), List.getElem?_eq_none (by simp; omega)]
theorem cut_win {S ks : List Int} {idx n lb : Nat} (h : idx + n ≤ lb)
    (e : ks = List.take ((some ((idx : Int) + n)).elim lb (clipAt lb) - (some (idx : Int)).elim 0 (clipAt lb)) (List.drop ((some (idx : Int)).elim 0 (clipAt lb)) (pre S lb))) : ks = win S idx n := by
  rw [e]
  show List.take (clipAt lb ((idx : Int) + n) - clipAt lb (idx : Int)) (List.drop (clipAt lb (idx : Int)) (pre S lb)) = _
  rw [show ((idx : Int) + (n : Int)) = ((idx + n : Nat) : Int) by omega, clipAt_nat, clipAt_nat, Nat.min_eq_left h, Nat.min_eq_left (by omega : idx ≤ lb), Nat.add_sub_cancel_left]
  exact win_of S h
theorem win_len (S : List Int) (i n : Nat) : (win S i n).length = n := by simp [win]
/-- a Shake that has absorbed -/
abbrev shS (P : Params) (alg : Addr) (bl : Int) (b : Array UInt8) (lb idx : Int) (sb : Array UInt8) (t1 t2 t3 t4 t5 t6 t7 t8 t9 t10 t11 : Tok) : Obj :=
  dictOf [kE P "algorithm" t1 (.ref alg), kE P "block_length" t2 (.int bl t3), kE P "buf" t4 (.bytes b t5), kE P "len_buf" t6 (.int lb t7), kE P "index" t8 (.int idx t9), kE P "input_bytes" t10 (.bytes sb t11)] 6
/-- .. over the row S -/
structure ShAt (P : Params) (alg : Addr) (bl : Int) (sb : Array UInt8) (S : List Int) (lb idx : Nat) (o : Obj) : Prop where
  form : ∃ b t1 t2 t3 t4 t5 t6 t7 t8 t9 t10 t11, o = shS P alg bl b (lb : Int) (idx : Int) sb t1 t2 t3 t4 t5 t6 t7 t8 t9 t10 t11 ∧ KBw.bInts b = pre S lb
/-- from place i on the row brings refused octets, and then the octet j, which is taken; the next place is i' -/
structure Rej (S : List Int) (own : Int) (i i' : Nat) (j : Int) : Prop where
  lt : i < i'
  le : i' ≤ 20000
  at' : S.getD (i' - 1) 0 = j
  ok : j ≤ own
  off : ∀ m, i ≤ m → m + 1 < i' → own < S.getD m 0
theorem Rej.take {S : List Int} {own j : Int} {i i' : Nat} (h : Rej S own i i' j) {k : Nat} (h1 : i ≤ k) (h2 : k < i') (h3 : S.getD k 0 ≤ own) : S.getD k 0 = j ∧ k + 1 = i' := by
  by_cases e : k + 1 < i'
  · have := h.off k h1 e; omega
  · have e2 : k + 1 = i' := by omega
    refine ⟨?_, e2⟩
    have := h.at'
    rwa [show i' - 1 = k by omega] at this
theorem Rej.pass {S : List Int} {own j : Int} {i i' : Nat} (h : Rej S own i i' j) {k : Nat} (h2 : k < i') (h3 : ¬ S.getD k 0 ≤ own) : k + 1 < i' := by
  by_cases e : k + 1 < i'
  · exact e
  · have := h.at'
    rw [show i' - 1 = k by omega] at this
    have := h.ok
    omega
/-- what the row brings for each step -/
def Feed (S : List Int) : Nat → Int → List (Int × Int) → Prop
  | _, _, [] => True
  | i, own, p :: r => (0 ≤ p.1 ∧ ∃ i', Rej S own i i' p.1 ∧ Feed S i' (own + 1) r)
/-- what a handed-in stream gives: the row, by its count -/
structure AlgSays (prog : Program) (w : World) (K : Frag) (alg : Addr) (gl : List (Addr × Obj)) (sb : Array UInt8) (S : List Int) : Prop where
  fn : ∃ oc od fd sl, (alg, (⟨oc, od, .func fd, sl⟩ : Obj)) ∈ gl
  run : ∀ (news : List (Addr × Obj)) (k : Int) (n : Nat) (ts tn : Tok), (∀ p ∈ gl, p ∈ news) → k = (n : Int) → n ≤ 100000 → Says prog w K 20 (.ref alg) [.bytes sb ts, .int k tn] news (fun r news' => ∃ b t, r = .bytes b t ∧ KBw.bInts b = pre S n ∧ news' = news)
theorem pull2 {h₀ h : Heap} {L : Addr} {a b p q : Addr × Obj} {rest : List (Addr × Obj)} (N : News h₀ L h (a :: b :: p :: q :: rest)) : News h₀ L h (p :: q :: a :: b :: rest) := fun x hx => N x (by
  simp only [List.mem_cons] at hx ⊢
  rcases hx with h | h | h | h | h <;> simp [h])
theorem off_cons {x : Addr × Obj} {l : List (Addr × Obj)} {ds : List Addr} (h : ∀ b ∈ ds, x.1 ≠ b) (hl : OwnOff l ds) : OwnOff (x :: l) ds := fun p hp => by
  rcases List.mem_cons.mp hp with e | hp
  · rw [e]; exact h
  · exact hl p hp
theorem off_less {l : List (Addr × Obj)} {ds es : List Addr} (hl : OwnOff l ds) (h : ∀ b ∈ es, b ∈ ds) : OwnOff l es := fun p hp b hb => hl p hp b (h b hb)
theorem off_one {d : Addr} {x : Addr × Obj} {l : List (Addr × Obj)} (h : @Ne Nat x.1 d) (hl : OwnOff l [d]) : OwnOff (x :: l) [d] := off_cons (ds := [d]) (fun b hb => by rw [List.mem_singleton.mp hb]; exact h) hl
theorem off_app {a b : List (Addr × Obj)} {ds : List Addr} (ha : OwnOff a ds) (hb : OwnOff b ds) : OwnOff (a ++ b) ds := fun p hp => by
  rcases List.mem_append.mp hp with h | h
  · exact ha p h
  · exact hb p h
theorem off_nil {ds : List Addr} : OwnOff [] ds := fun _ h => nomatch h
/-- as Says, where a code's table of own codes is laid aside -/
def SaysC (c P : Addr) (prog : Program) (w : World) (K : Frag) (d : Nat) (f : Value) (vs : List Value) (news : List (Addr × Obj)) (Post : Value → List (Addr × Obj) → Prop) : Prop :=
  ∀ (p : Program) (loose : List Str) (mean : ExcName → Option Value) (mg mb : Str → Option Value) (dp un : Nat) (gd : Option (List Code)) (cn : Str) (cs : Scope) (a : Addr) (ccd : Value) (cl : List (Str × Addr)) (outer : List Env) (A₀ : Around) (base h₀ : Heap) (L : Addr) (m : Str → Option Value) (s : Shared) (Q E : Value → Shared → Prop),
    Below A₀ base outer h₀ → Fr h₀ L s.heap m → K.In h₀ → News h₀ L s.heap news → Top p loose mean mg mb h₀ → CodeHd base c P → cs.kind = .function → dp + d < recursionLimit → un + 8 * d < cLine →
    (∀ r news' h' tk', Fr h₀ L h' m → News h₀ L h' news' → Post r news' → Q r { s with heap := h', toks := tk' }) →
    wpAny (model prog w) (ktrTop dp un gd cn cs L a ccd cl outer) (call f vs) Q E s
theorem use_saysC {c P : Addr} {prog : Program} {w : World} {K : Frag} {d : Nat} {f : Value} {vs : List Value} {news : List (Addr × Obj)} {Post : Value → List (Addr × Obj) → Prop} {p : Program} {loose : List Str} {mean : ExcName → Option Value} {mg mb : Str → Option Value} {dp un : Nat} {gd : Option (List Code)} {cn : Str} {cs : Scope} {a : Addr} {ccd : Value} {cl : List (Str × Addr)} {outer : List Env} {A₀ : Around} {base h₀ : Heap} {L : Addr} {m : Str → Option Value} {s : Shared} {Q E : Value → Shared → Prop}
    (S : SaysC c P prog w K d f vs news Post) (B : Below A₀ base outer h₀) (F : Fr h₀ L s.heap m) (X : K.In h₀) (N : News h₀ L s.heap news) (T : Top p loose mean mg mb h₀) (C : CodeHd base c P) (hk : cs.kind = .function) (hd : dp + d < recursionLimit) (hu : un + 8 * d < cLine)
    (ret : ∀ r news' h' tk', Fr h₀ L h' m → News h₀ L h' news' → Post r news' → Q r { s with heap := h', toks := tk' }) :
    wpAny (model prog w) (ktrTop dp un gd cn cs L a ccd cl outer) (call f vs) Q E s := by unfold SaysC at S; apply S <;> assumption
end Mine
namespace Mine
section
variable {prog : Program} {w : World} {A : Around} {E : Value → Shared → Prop} {Q : Flow → Shared → Prop} {s : Shared} {env : Env} {h₀ : Heap} {L : Addr}
abbrev SigR := Obj × Nat
abbrev RdEnd (P : Params) (alg : Addr) (bl : Int) (sb : Array UInt8) (S : List Int) (h₀ : Heap) (L d2 : Addr) (cst : List (Addr × Obj)) (lb0 idx n : Nat) (m₀ : Str → Option Value) (s : Shared) (c : SigR) (s₂ : Shared) : Prop :=
  KswEnd h₀ L s (fun c : SigR => (d2, c.1) :: cst) (fun _ => []) (fun c => ShAt P alg bl sb S c.2 idx c.1) [] m₀ (fun c => c.2 = lb0 ∨ (c.2 = 2 * lb0 ∧ lb0 < idx + n)) (fun c => idx + n - c.2) c s₂
theorem read_loop {test : Expr} {body : List Stmt} {pos : Pos} {m₀ : Str → Option Value} {P : Params} {alg d2 : Addr} {bl : Int} {sb : Array UInt8} {S : List Int} {lb0 idx n : Nat} {o : Obj} {cst : List (Addr × Obj)}
    (F : Fr h₀ L s.heap m₀) (N : News h₀ L s.heap ((d2, o) :: cst)) (ho : ShAt P alg bl sb S lb0 idx o)
    (turn : ∀ (o : Obj) (lb : Nat) h tk, ShAt P alg bl sb S lb idx o → (lb = lb0 ∨ (lb = 2 * lb0 ∧ lb0 < idx + n)) → Fr h₀ L h m₀ → News h₀ L h ((d2, o) :: cst) →
      wpAny (model prog w) A (isTrue test env (eval test env)) (fun b s₂ =>
        if b = true then wpAny (model prog w) A (execs body env) (KswPost h₀ L s (fun c : SigR => (d2, c.1) :: cst) (fun _ => []) (fun c => ShAt P alg bl sb S c.2 idx c.1) [] m₀ (fun c => c.2 = lb0 ∨ (c.2 = 2 * lb0 ∧ lb0 < idx + n)) (fun c => idx + n - c.2) Q (o, lb)) E s₂ else Q .next s₂) E { s with heap := h, toks := tk })
    (hE : PassesOwn (model prog w) A env E := by passes_own) :
    wpAny (model prog w) A (exec (.While test body [] pos) env) Q E s := by
  refine ksw_while (σ := SigR) (fun c => (d2, c.1) :: cst) (fun _ => []) (fun c => ShAt P alg bl sb S c.2 idx c.1) [] (fun c => c.2 = lb0 ∨ (c.2 = 2 * lb0 ∧ lb0 < idx + n)) (fun c => idx + n - c.2) (o, lb0) F N ho (List.forall_mem_nil _) (.inl rfl) ?_ hE
  rintro ⟨o, lb⟩ u h tk ho hP F₁ N₁
  have e : (kstB (fun z => if ([] : List Str).contains z then u z else m₀ z) []) = m₀ := by
    funext z
    show (if ([] : List Str).contains z = true then u z else m₀ z) = m₀ z
    simp
  rw [e] at F₁
  exact turn o lb h tk ho hP F₁ N₁
end
end Mine
end
section
open PySem PySem.W PyProof.Rows PySem.Calls
set_option maxRecDepth 100000
set_option rowWalk.seconds 0
namespace Mine
local macro_rules | `(tactic| k_enter) => `(tactic| first | (refine' code_def ?k1 ?k2 ?k3 ?k4 ?k5 ?kA ?kF ?kK ?k6 ?k7 ?k8 ?k9 ?kB ?_ ?c2 ?c3 ?c4 ?c5; (case kA => exact rfl); (case kF => exact rfl); (case kK => first | exact rfl | assumption); (case k1 => k_asm); (case k2 => k_asm); (case k3 => k_asm); (case k4 => k_asm); (case k5 => k_asm); (case k6 => k_is); (case k7 => k_is); (case k8 => ktr_room); (case k9 => first | exact BindsTo.of_eq rfl | exact binds_K (by k_in) rfl (by k_is) rfl rfl rfl); (case c5 => decide); (case kB => exact locs rfl); (case c2 => exact rfl); (case c3 => exact rfl); (case c4 => exact rfl); k_whole; intro g' L' h' FG' F' N' B' X' T'; (try dsimp only); (try k_lift B'); (try k_fold)) | (refine' code_defC ?k1 ?k2 ?k3 ?k4 ?k5 ?kA ?kF ?kK ?k6 ?k7 ?k8 ?k9 ?kB ?kD ?_ ?c2 ?c3 ?c4; (case kA => exact rfl); (case kF => exact rfl); (case kK => first | exact rfl | assumption); (case k1 => k_asm); (case k2 => k_asm); (case k3 => k_asm); (case k4 => k_asm); (case k5 => k_asm); (case k6 => k_is); (case k7 => k_is); (case k8 => ktr_room); (case k9 => first | exact BindsTo.of_eq rfl | exact binds_K (by k_in) rfl (by k_is) rfl rfl rfl); (case kB => exact rfl); (case kD => decide +kernel); (case c2 => exact rfl); (case c3 => exact rfl); (case c4 => exact rfl); k_whole; intro g' L' h' tk' cells' FG' F' N' Y' B' X' T' l1; have l2 := lt_up l1 1; (simp only [AllLt, and_true] at l2); have l3 := lt_up l1 2; (simp only [AllLt, and_true] at l3); have l4 := lt_up l1 3; (simp only [AllLt, and_true] at l4); have l5 := lt_up l1 4; (simp only [AllLt, and_true] at l5); (try k_lt l1); k_cells Y'; (try simp only [List.cons_append, List.nil_append] at N'); (try dsimp only); (try k_lift B'); (try k_fold)))
local macro_rules | `(tactic| walk_at "no such key 0") => `(tactic| fail "none")
local macro_rules | `(tactic| walk_at "no such key 1") => `(tactic| fail "none")
local macro_rules | `(tactic| walk_at "no such key 2") => `(tactic| fail "none")
local macro_rules | `(tactic| walk_at "no such key 3") => `(tactic| fail "none")
local macro_rules | `(tactic| walk_at "no such key 4") => `(tactic| fail "none")
local macro_rules | `(tactic| walk_at "no such key 5") => `(tactic| fail "none")
local macro_rules | `(tactic| walk_at "no such key 6") => `(tactic| fail "none")
local macro_rules | `(tactic| walk_at "exec While Compare cons nil") => `(tactic| refine Hold.out ?_)
local macro_rules | `(tactic| walk_at "FnAt") => `(tactic| k_dflt (rename @Membership.mem (Addr × Obj) _ _ _ _ => hfn'; exact FnAt.of (by k_asm) (.tail _ (.tail _ hfn'))))
local macro_rules | `(tactic| walk_at "callWith ref") => `(tactic| k_dflt (rename @Membership.mem (Addr × Obj) _ _ _ _ => hfn'; refine' callWith_F ?k1 ?_; (case k1 => exact FnAt.of (by k_asm) (.tail _ (.tail _ hfn'))); k_whole))
local macro_rules | `(tactic| walk_at "call ref") => `(tactic| k_dflt (rename AlgSays _ _ _ _ _ _ _ => hA'; rename (∀ p ∈ _, p ∈ _) => hg'; refine' use_says (hA'.run _ _ (Nat.mul _ 2) _ _ ?zg (by exact rfl) ?zn) ?B ?F ?X ?N ?T ?k ?d ?u ?_; (case B => assumption); (case F => assumption); (case X => assumption); (case N => assumption); (case T => assumption); (case zg => intro p hp; exact .tail _ (.tail _ (hg' p hp))); (case zn => (show _ * 2 ≤ 100000); omega); (case k => first | exact rfl | assumption); (case d => ktr_room); (case u => (simp only [un_make, units_in1, units_deeper, Around.mark_units]; (try dsimp only [ktrTop]); omega)); intro r9 n9 h9 tk9 F9 N9 hp9; obtain ⟨b9, t9, hr9, hb9, hn9⟩ := hp9; subst hr9; subst hn9; (try dsimp only)))
local macro_rules | `(tactic| walk_at "subscriptTail") => `(tactic| k_dflt ((show wpAny _ _ (subscriptTail _ (Expr.Slice _ _ none _) (Value.bytes _ _) (Value.ref _)) _ _ _); rename Fr _ _ _ _ => F'; rename News _ _ _ _ => N'; rename KBw.bInts _ = pre _ _ => hbb; (refine' KBc.slice_K (s := ⟨_, _, _, _, _⟩) F' N' hbb (by constructor) (by constructor) ?z ?_); (case z => rw [pre_len]; omega); intro _ _ _ F' N' kbcK; rw [pre_len] at kbcK))
set_option maxHeartbeats 4000000 in
theorem read_says (w : World) (alg d2 s2 : Addr) (bl : Int) (gl rest : List (Addr × Obj)) (sb : Array UInt8) (S : List Int) (lb idx n : Nat) (o : Obj) (tn : Tok)
    (hA : AlgSays PySem.Challenge.rw_bd0004_01.row.prog w (Mine.K w.params) alg gl sb S) (hg : ∀ p ∈ gl, p ∈ rest) (ho : ShAt w.params alg bl sb S lb idx o) (hoff : OwnOff rest [d2]) (hne : @LT.lt Nat _ d2 s2) (h1 : idx ≤ lb) (h2 : n ≤ 8) (h3 : 8 ≤ lb) (h4 : lb ≤ 40000) :
    Says PySem.Challenge.rw_bd0004_01.row.prog w (Mine.K w.params) 40 (.ref 268) [.ref s2, .int (n : Int) tn] ((d2, o) :: (s2, instObj 278 d2) :: rest) (fun r news' => ∃ b t o' lb', r = .bytes b t ∧ KBw.bInts b = win S idx n ∧ ShAt w.params alg bl sb S lb' (idx + n) o' ∧ (lb' = lb ∨ (lb' = 2 * lb ∧ lb < idx + n)) ∧ idx + n ≤ lb' ∧ news' = (d2, o') :: (s2, instObj 278 d2) :: rest) := by
  obtain ⟨b, t1, t2, t3, t4, t5, t6, t7, t8, t9, t10, t11, rfl, hb⟩ := ho.form
  obtain ⟨oca, oda, fda, sla, hfn⟩ := hA.fn
  replace hfn := hg _ hfn
  unfold Says; k_fill
  intro p loose mean mg mb dp un gd cn cs a ccd cl outer A₀ base h₀ L m s Q E B F X N T hk hdp hun hret
  refine wpAny_call ?_
  k_dflt k_enter
  k_steps
  unfold Hold
  refine read_loop (n := n) (by assumption) (by assumption) ho ?_
  intro o₁ lb₁ h tk ho₁ hlb F N
  obtain ⟨b₁, t1, t2, t3, t4, t5, t6, t7, t8, t9, t10, t11, rfl, hb₁⟩ := ho₁.form
  k_steps
  · rename News _ _ _ _ => nE
    rename Fr _ _ _ _ => fE
    rename KBw.bInts _ = pre S (Nat.mul lb₁ 2) => hb9
    k_dflt (refine' ksw_end (?zo, lb₁ * 2) fE nE (fun p hp => hp) ⟨⟨_, _, _, _, _, _, _, _, _, _, _, _, rfl, hb9⟩⟩ (List.forall_mem_nil _) (fun _ _ _ => rfl) ?_ ?_)
    · show lb₁ * 2 = lb ∨ (lb₁ * 2 = 2 * lb ∧ lb < idx + n)
      omega
    · show idx + n - lb₁ * 2 < idx + n - lb₁
      omega
  · rename Fr h₀ L _ m => fE
    rename News h₀ L _ _ => nE
    rename KBw.bInts _ = List.take _ _ => kc
    rename KBw.bInts b₁ = pre S lb₁ => hb₁
    have hle : idx + n ≤ lb₁ := by omega
    k_dflt (exact hret _ _ _ _ fE nE ⟨_, _, _, lb₁, rfl, cut_win hle kc, ⟨⟨_, _, _, _, _, _, _, _, _, _, _, _, rfl, hb₁⟩⟩, hlb, hle, rfl⟩)
end Mine
end
section
open PySem PySem.W PyProof.Rows PySem.Calls
namespace Mine
theorem win_digs (g : Int) (os : List Int) : win (digs g ++ os) 0 8 = digs g := rfl
theorem digs_eq (g : Int) : digs g = [g % 256, g / 256 % 256, g / 65536 % 256, g / 16777216 % 256, g / 4294967296 % 256, g / 1099511627776 % 256, g / 281474976710656 % 256, g / 72057594037927936 % 256] := by
  show [(g.fdiv 1).fmod 256, (g.fdiv 256).fmod 256, (g.fdiv 65536).fmod 256, (g.fdiv 16777216).fmod 256, (g.fdiv 4294967296).fmod 256, (g.fdiv 1099511627776).fmod 256, (g.fdiv 281474976710656).fmod 256, (g.fdiv 72057594037927936).fmod 256] = _
  simp only [fun a : Int => fm a 256 (by decide), fd g 1 (by decide), fd g 256 (by decide), fd g 65536 (by decide), fd g 16777216 (by decide), fd g 4294967296 (by decide), fd g 1099511627776 (by decide), fd g 281474976710656 (by decide), fd g 72057594037927936 (by decide), Int.ediv_one]
theorem val_digs {g : Int} (h0 : 0 ≤ g) (h1 : g < 2 ^ 64) : KFB.value (digs g).reverse = g := by
  rw [digs_eq]
  simp only [KFB.value, List.reverse_cons, List.reverse_nil, List.nil_append, List.cons_append, List.foldl_cons, List.foldl_nil]
  have h2 : (2 : Int) ^ 64 = 18446744073709551616 := rfl
  omega
end Mine
namespace Mine
/-- the place that the refusing loop stands at -/
structure RejIn (idx idx' lb i : Nat) : Prop where
  a : idx ≤ i
  b : i < idx'
  c : i ≤ lb
  d : 8 ≤ lb
  e : lb ≤ 40000
/-- after t of the steps -/
structure BallIn (S : List Int) (own0 : Int) (st : List (Int × Int)) (t idx lb : Nat) (co : List Int) (gs : Int) : Prop where
  feed : Feed S idx (own0 + (t : Int)) (st.drop t)
  le : idx ≤ lb
  lo : 8 ≤ lb
  hi : lb ≤ 40000
  len : co.length = 256
  g0 : 0 ≤ gs
  sg : SgOk gs (st.drop t)
  val : ∀ x : Nat, x < 256 → co.getD x 0 = fwdAll (fun _ => 0) own0 (st.take t) x
section
variable {prog : Program} {w : World} {A : Around} {E : Value → Shared → Prop} {Q : Flow → Shared → Prop} {s : Shared} {env : Env} {h₀ : Heap} {L : Addr} {x : Str} {body : List Stmt}
abbrev SigJ := Obj × Nat × Nat
theorem rej_loop {test : Expr} {body : List Stmt} {pos : Pos} {m₀ : Str → Option Value} {P : Params} {alg d2 : Addr} {bl : Int} {sb : Array UInt8} {S : List Int} {lb0 idx idx' : Nat} {own j : Int} {o : Obj} {cst : List (Addr × Obj)} (stored : List Str)
    (F : Fr h₀ L s.heap m₀) (N : News h₀ L s.heap ((d2, o) :: cst)) (ho : ShAt P alg bl sb S lb0 idx o) (hR : Rej S own idx idx' j) (h1 : idx ≤ lb0) (h2 : 8 ≤ lb0) (h3 : lb0 ≤ 40000)
    (turn : ∀ (o : Obj) (lb i : Nat) (u : Str → Option Value) h tk, ShAt P alg bl sb S lb i o → RejIn idx idx' lb i → Fr h₀ L h (fun z => if stored.contains z then u z else m₀ z) → News h₀ L h ((d2, o) :: cst) →
      wpAny (model prog w) A (isTrue test env (eval test env)) (fun b s₂ =>
        if b = true then wpAny (model prog w) A (execs body env) (KswPost h₀ L s (fun c : SigJ => (d2, c.1) :: cst) (fun _ => []) (fun c => ShAt P alg bl sb S c.2.1 c.2.2 c.1) stored m₀ (fun c => RejIn idx idx' c.2.1 c.2.2) (fun c => idx' - c.2.2) Q (o, lb, i)) E s₂ else Q .next s₂) E { s with heap := h, toks := tk })
    (hE : PassesOwn (model prog w) A env E := by passes_own) :
    wpAny (model prog w) A (exec (.While test body [] pos) env) Q E s := by
  refine ksw_while (σ := SigJ) (fun c => (d2, c.1) :: cst) (fun _ => []) (fun c => ShAt P alg bl sb S c.2.1 c.2.2 c.1) stored (fun c => RejIn idx idx' c.2.1 c.2.2) (fun c => idx' - c.2.2) (o, lb0, idx) F N ho (List.forall_mem_nil _) ⟨Nat.le_refl _, hR.lt, h1, h2, h3⟩ ?_ hE
  rintro ⟨o, lb, i⟩ u h tk ho hP F₁ N₁
  exact turn o lb i u h tk ho hP F₁ N₁
abbrev SigB := Obj × Nat × Nat × List Value × List Int × Nat × Int × Tok
abbrev blLed (d2 s2 lo : Addr) (so : Obj) (cst : List (Addr × Obj)) (c : SigB) : List (Addr × Obj) := (d2, c.1) :: (s2, so) :: (lo, listOf c.2.2.2.1.toArray c.2.2.2.2.2.1) :: cst
abbrev blFacts (P : Params) (alg : Addr) (bl : Int) (sb : Array UInt8) (S : List Int) (c : SigB) : Prop := ShAt P alg bl sb S c.2.1 c.2.2.1 c.1 ∧ IntsAre c.2.2.2.1 c.2.2.2.2.1
abbrev BlS (P : Params) (alg : Addr) (bl : Int) (sb : Array UInt8) (S : List Int) (d2 s2 lo : Addr) (so : Obj) (cst : List (Addr × Obj)) (y : Str) (stored : List Str) (m₀ : Str → Option Value) (own0 : Int) (st : List (Int × Int)) (x : Str) (pre : List Int) : (Str → Option Value) → List (Addr × Obj) → Prop :=
  KstS (blLed d2 s2 lo so cst) (fun c => [(y, .int c.2.2.2.2.2.2.1 c.2.2.2.2.2.2.2)]) (blFacts P alg bl sb S) x stored m₀ (fun pre c => BallIn S own0 st pre.length c.2.2.1 c.2.1 c.2.2.2.2.1 c.2.2.2.2.2.2.1) pre
theorem ball_loop {r : Addr} {a₀ b₀ : Int} {t₀ u₀ v₀ : Tok} {n : Nat} {m₀ : Str → Option Value} {P : Params} {alg d2 s2 lo : Addr} {so : Obj} {bl : Int} {sb : Array UInt8} {S : List Int} {lb0 idx : Nat} {o : Obj} {cst : List (Addr × Obj)} {vo : List Value} {co : List Int} {no : Nat} {gs : Int} {tg : Tok} {st : List (Int × Int)} (y : Str) (stored : List Str)
    (hh : A.handled = none) (hr : IsRange s.heap r a₀ b₀ 1 t₀ u₀ v₀) (hsmall : Builtin.Range.small a₀ b₀ 1 = true) (hn : Builtin.Range.rangeSize a₀ b₀ 1 = (n : Int)) (F : Fr h₀ env.locals s.heap m₀)
    (N : News h₀ env.locals s.heap ((d2, o) :: (s2, so) :: (lo, listOf vo.toArray no) :: cst)) (ho : ShAt P alg bl sb S lb0 idx o) (hi : IntsAre vo co) (hy : m₀ y = some (.int gs tg)) (hp : BallIn S a₀ st 0 idx lb0 co gs)
    (turn : ∀ (o : Obj) (lb i : Nat) (vo : List Value) (co : List Int) (no : Nat) (gs : Int) (tg : Tok) (pre : List Int) (k : Int) t (u : Str → Option Value) h tk own, k = a₀ + (pre.length : Int) → pre.length < n → OwnOff own (d2 :: s2 :: lo :: cst.map (·.1)) → ShAt P alg bl sb S lb i o → IntsAre vo co → BallIn S a₀ st pre.length i lb co gs →
      Fr h₀ env.locals h (fun z => if z = x then some (.int k t) else if z = y then some (.int gs tg) else if stored.contains z then u z else m₀ z) → News h₀ env.locals h ((d2, o) :: (s2, so) :: (lo, listOf vo.toArray no) :: (cst ++ own)) →
      wpAny (model prog w) A (execs body env) (InvPostN h₀ env.locals (BlS P alg bl sb S d2 s2 lo so cst y stored m₀ a₀ st x (pre ++ [k])) own (d2 :: s2 :: lo :: cst.map (·.1)) { s with heap := h, toks := tk } Q) E { s with heap := h, toks := tk })
    (done : ∀ (o : Obj) (lb i : Nat) (vo : List Value) (co : List Int) (no : Nat) (gs : Int) (tg : Tok) (u : Str → Option Value) h tk, ShAt P alg bl sb S lb i o → IntsAre vo co → BallIn S a₀ st n i lb co gs → Fr h₀ env.locals h (fun z => if z = x then u z else if z = y then some (.int gs tg) else if stored.contains z then u z else m₀ z) → News h₀ env.locals h ((d2, o) :: (s2, so) :: (lo, listOf vo.toArray no) :: cst) → Q .next { s with heap := h, toks := tk }) :
    wpAny (model prog w) A (pyIter (.ref r)) (fun it s₂ => LoopAtV prog w A h₀ env x body Q E it s₂) E s := by
  refine kst_range (σ := SigB) (n := n) (blLed d2 s2 lo so cst) (fun c => [(y, .int c.2.2.2.2.2.2.1 c.2.2.2.2.2.2.2)]) (blFacts P alg bl sb S) stored (fun pre c => BallIn S a₀ st pre.length c.2.2.1 c.2.1 c.2.2.2.2.1 c.2.2.2.2.2.2.1) (o, lb0, idx, vo, co, no, gs, tg) hh hr hsmall hn F N ⟨ho, hi⟩ (fun p hp => by rw [List.mem_singleton.mp hp]; exact hy) hp ?_ ?_
  · rintro ⟨o, lb, i, vo, co, no, gs, tg⟩ pre k t u h tk own hk hlt hoff ⟨hf, hf2⟩ hP F₁ N₁
    exact turn o lb i vo co no gs tg pre k t u h tk own hk hlt hoff hf hf2 hP F₁ N₁
  · rintro ⟨o, lb, i, vo, co, no, gs, tg⟩ u h tk ⟨hf, hf2⟩ hP F₁ N₁
    rw [rangeKs_length] at hP
    exact done o lb i vo co no gs tg u h tk hf hf2 hP F₁ N₁
theorem ball_end {m₀ m' : Str → Option Value} {P : Params} {alg d2 s2 lo : Addr} {so : Obj} {bl : Int} {sb : Array UInt8} {S : List Int} {lb i : Nat} {o : Obj} {cst own : List (Addr × Obj)} {vo : List Value} {co : List Int} {no : Nat} {gs : Int} {tg : Tok} {st : List (Int × Int)} {own0 : Int} {y : Str} {stored : List Str} {pre : List Int} {k : Int} {news' : List (Addr × Obj)} {s₁ : Shared} {h' : Heap} {tk : Nat}
    (F : Fr h₀ L h' m') (N : News h₀ L h' news') (h1 : (d2, o) ∈ news') (h2 : (s2, so) ∈ news') (hl : (lo, listOf vo.toArray no) ∈ news') (hc : ∀ p ∈ cst, p ∈ news') (ho : ∀ p ∈ own, p ∈ news')
    (hy : m' y = some (.int gs tg)) (hm : ∀ z, z ≠ x → z ≠ y → stored.contains z = false → m' z = m₀ z) (hs : ShAt P alg bl sb S lb i o) (hi : IntsAre vo co) (hP : BallIn S own0 st (pre.length + 1) i lb co gs) :
    InvEndN h₀ L (BlS P alg bl sb S d2 s2 lo so cst y stored m₀ own0 st x (pre ++ [k])) own (d2 :: s2 :: lo :: cst.map (·.1)) s₁ { s₁ with heap := h', toks := tk } :=
  kst_end (σ := SigB) (o, lb, i, vo, co, no, gs, tg) F N (fun p hp => by
    rcases List.mem_cons.mp hp with rfl | hp
    · exact h1
    rcases List.mem_cons.mp hp with rfl | hp
    · exact h2
    rcases List.mem_cons.mp hp with rfl | hp
    · exact hl
    · exact hc p hp) ho rfl ⟨hs, hi⟩ (fun p hp => by rw [List.mem_singleton.mp hp]; exact hy) (fun z h1 h2 h3 => hm z h1 (h2 _ (.head _)) h3) (by rw [List.length_append]; exact hP)
end
end Mine
namespace Mine
structure StepAt (S : List Int) (own0 : Int) (st : List (Int × Int)) (t idx i' : Nat) (gs : Int) (p : Int × Int) : Prop where
  cons : st.drop t = p :: st.drop (t + 1)
  tk : st.take (t + 1) = st.take t ++ [p]
  p0 : 0 ≤ p.1
  rej : Rej S (own0 + (t : Int)) idx i' p.1
  feed : Feed S i' (own0 + ((t + 1 : Nat) : Int)) (st.drop (t + 1))
  sign : 1 - 2 * (gs % 2) = p.2
  sg : SgOk (gs / 2) (st.drop (t + 1))
theorem BallIn.step {S : List Int} {own0 : Int} {st : List (Int × Int)} {t idx lb : Nat} {co : List Int} {gs : Int} (h : BallIn S own0 st t idx lb co gs) (ht : t < st.length) : ∃ p i', StepAt S own0 st t idx i' gs p := by
  have e : st.drop t = st[t] :: st.drop (t + 1) := List.drop_eq_getElem_cons ht
  have hf := h.feed
  have hs := h.sg
  rw [e] at hf hs
  obtain ⟨h0, i', hr, hf⟩ := hf
  refine ⟨st[t], i', e, ?_, h0, hr, ?_, hs.1, hs.2⟩
  · rw [List.take_add_one, List.getElem?_eq_getElem ht]; rfl
  · rwa [show own0 + ((t + 1 : Nat) : Int) = own0 + (t : Int) + 1 by omega]
theorem fwdAll_snoc (p : Int × Int) : ∀ (l : List (Int × Int)) (f : Int → Int) (own : Int), fwdAll f own (l ++ [p]) = fwd (fwdAll f own l) (own + (l.length : Int)) p
  | [], f, own => by simp [fwdAll]
  | q :: r, f, own => by
    show fwdAll (fwd f own q) (own + 1) (r ++ [p]) = fwd (fwdAll (fwd f own q) (own + 1) r) _ p
    rw [fwdAll_snoc p r, show own + 1 + (r.length : Int) = own + ((q :: r).length : Int) by simp; omega]
theorem BallIn.next {S : List Int} {own0 : Int} {st : List (Int × Int)} {t idx i' lb lb' : Nat} {co co' : List Int} {gs gs' : Int} {p : Int × Int} (h : BallIn S own0 st t idx lb co gs) (hs : StepAt S own0 st t idx i' gs p) (ht : t < st.length) (h0 : 0 ≤ own0)
    (hi : i' ≤ lb') (hlo : 8 ≤ lb') (hhi : lb' ≤ 40000) (hco : co' = (co.set (own0 + (t : Int)).toNat (co.getD p.1.toNat 0)).set p.1.toNat (1 - 2 * (gs % 2))) (hgs : gs' = gs / 2) (hown : own0 + (t : Int) < 256) : BallIn S own0 st (t + 1) i' lb' co' gs' := by
  have hl : (st.take t).length = t := by rw [List.length_take]; omega
  have h1 := hs.rej.ok
  have h2 := hs.p0
  refine ⟨hs.feed, hi, hlo, hhi, ?_, ?_, ?_, ?_⟩
  · rw [hco, List.length_set, List.length_set]; exact h.len
  · rw [hgs]; exact Int.ediv_nonneg h.g0 (by decide)
  · rw [hgs]; exact hs.sg
  · intro x hx
    rw [hs.tk, fwdAll_snoc, hl, hco]
    unfold fwd
    have hlen := h.len
    have v1 := h.val x hx
    have v2 := h.val p.1.toNat (by omega)
    rw [Int.toNat_of_nonneg h2] at v2
    rw [← v1, ← v2, List.getD_eq_getElem?_getD, List.getElem?_set, List.getElem?_set, List.length_set, hlen, hs.sign]
    by_cases e1 : p.1.toNat = x
    · have a1 : (x : Int) = p.1 := by omega
      have a2 : p.1.toNat < 256 := by omega
      rw [if_pos e1, if_pos a2, if_pos a1]; rfl
    · have a1 : ¬ (x : Int) = p.1 := by omega
      rw [if_neg e1, if_neg a1]
      by_cases e2 : (own0 + (t : Int)).toNat = x
      · have a3 : (x : Int) = own0 + (t : Int) := by omega
        have a4 : (own0 + (t : Int)).toNat < 256 := by omega
        rw [if_pos e2, if_pos a4, if_pos a3]; rfl
      · have a3 : ¬ (x : Int) = own0 + (t : Int) := by omega
        rw [if_neg e2, if_neg a3, ← List.getD_eq_getElem?_getD]
theorem win_one (S : List Int) (i : Nat) : win S i 1 = [S.getD i 0] := rfl
end Mine
namespace Mine
theorem item_one {prog : Program} {w : World} {A : Around} {E : Value → Shared → Prop} {s : Shared} {value slice : PySem.Expr} {b : Array UInt8} {t ui : Tok} {c : Int} {Q : Value → Shared → Prop} (hk : KBw.bInts b = [c]) (h : ∀ t' k, 0 ≤ c → c < 256 → Q (.int c t') { s with toks := k })
    (hs : subscripted slice false (.bytes b t) (.int 0 ui) = operate [.bytes b t, .int 0 ui] (getItem (.bytes b t) (.int 0 ui)) := by with_unfolding_all rfl)
    (ht : ∀ r, letTemporaryGo value (.bytes b t) r = pure () := by intro _; with_unfolding_all rfl) :
    wpAny (model prog w) A (subscriptTail value slice (.bytes b t) (.int 0 ui)) Q E s :=
  KBw.item_K hk (by simp) (by decide) (by simp) h hs ht
end Mine
namespace Mine
theorem off_of1 {D : Addr} : ∀ {l : List (Addr × Obj)}, LCg.Off1 D l → OwnOff l [D]
  | [], _ => off_nil
  | _ :: _, h => off_one h.1 (off_of1 h.2)
end Mine
namespace Mine
theorem KE_and_one (x : Int) : Builtin.bitAnd x 1 = x % 2 := bitAnd_m1 x
end Mine
end
section
open PySem PySem.W PyProof.Rows PySem.Calls
set_option maxRecDepth 100000
set_option rowWalk.seconds 0
namespace Mine
local macro_rules | `(tactic| k_enter) => `(tactic| first | (refine' code_def ?k1 ?k2 ?k3 ?k4 ?k5 ?kA ?kF ?kK ?k6 ?k7 ?k8 ?k9 ?kB ?_ ?c2 ?c3 ?c4 ?c5; (case kA => exact rfl); (case kF => exact rfl); (case kK => first | exact rfl | assumption); (case k1 => k_asm); (case k2 => k_asm); (case k3 => k_asm); (case k4 => k_asm); (case k5 => k_asm); (case k6 => k_is); (case k7 => k_is); (case k8 => ktr_room); (case k9 => first | exact BindsTo.of_eq rfl | exact binds_K (by k_in) rfl (by k_is) rfl rfl rfl); (case c5 => decide); (case kB => exact locs rfl); (case c2 => exact rfl); (case c3 => exact rfl); (case c4 => exact rfl); k_whole; intro g' L' h' FG' F' N' B' X' T'; (try dsimp only); (try k_lift B'); (try k_fold)) | (refine' code_defC ?k1 ?k2 ?k3 ?k4 ?k5 ?kA ?kF ?kK ?k6 ?k7 ?k8 ?k9 ?kB ?kD ?_ ?c2 ?c3 ?c4; (case kA => exact rfl); (case kF => exact rfl); (case kK => first | exact rfl | assumption); (case k1 => k_asm); (case k2 => k_asm); (case k3 => k_asm); (case k4 => k_asm); (case k5 => k_asm); (case k6 => k_is); (case k7 => k_is); (case k8 => ktr_room); (case k9 => first | exact BindsTo.of_eq rfl | exact binds_K (by k_in) rfl (by k_is) rfl rfl rfl); (case kB => exact rfl); (case kD => decide +kernel); (case c2 => exact rfl); (case c3 => exact rfl); (case c4 => exact rfl); k_whole; intro g' L' h' tk' cells' FG' F' N' Y' B' X' T' l1; have l2 := lt_up l1 1; (simp only [AllLt, and_true] at l2); have l3 := lt_up l1 2; (simp only [AllLt, and_true] at l3); have l4 := lt_up l1 3; (simp only [AllLt, and_true] at l4); have l5 := lt_up l1 4; (simp only [AllLt, and_true] at l5); (try k_lt l1); k_cells Y'; (try simp only [List.cons_append, List.nil_append] at N'); (try dsimp only); (try k_lift B'); (try k_fold)))
local macro_rules | `(tactic| walk_at "no such key 0") => `(tactic| fail "none")
local macro_rules | `(tactic| walk_at "no such key 1") => `(tactic| fail "none")
local macro_rules | `(tactic| walk_at "no such key 2") => `(tactic| fail "none")
local macro_rules | `(tactic| walk_at "no such key 3") => `(tactic| fail "none")
local macro_rules | `(tactic| walk_at "no such key 4") => `(tactic| fail "none")
local macro_rules | `(tactic| walk_at "no such key 5") => `(tactic| fail "none")
local macro_rules | `(tactic| walk_at "no such key 6") => `(tactic| fail "none")
local macro_rules | `(tactic| walk_at "no such key 7") => `(tactic| fail "none")
local macro_rules | `(tactic| walk_at "no such key 8") => `(tactic| fail "none")
local macro_rules | `(tactic| walk_at "no such key 9") => `(tactic| fail "none")
local macro_rules | `(tactic| walk_at "no such key 10") => `(tactic| fail "none")
local macro_rules | `(tactic| walk_at "no such key 11") => `(tactic| fail "none")
local macro_rules | `(tactic| walk_at "call builtin:len") => `(tactic| (k_here; (with_reducible show wpAny _ _ (call (Value.builtin "len") [Value.ref _]) _ _ _); refine len_of (by k_asm) (by k_mem) (by assumption) (by omega) ?_))
abbrev polyO (P : Params) (x lo : Addr) (t1 t2 : Tok) : Obj := dictOf [kE P "parent" t1 (.ref x), kE P "coeffs" t2 (.ref lo)] 2
def PolyPost (P : Params) (cP x lo : Addr) (news : List (Addr × Obj)) (r : Value) (news' : List (Addr × Obj)) : Prop :=
  ∃ p' dp' t1 t2, r = .ref p' ∧ news' = (p', instObj cP dp') :: (dp', polyO P x lo t1 t2) :: news
theorem poly_end {P : Params} {cP x lo p' dp' : Addr} {e1 e2 e3 : Addr × Obj} {h₀ h' : Heap} {L : Addr} {news : List (Addr × Obj)} {t1 t2 : Tok}
    (N : News h₀ L h' ((p', instObj cP dp') :: (dp', polyO P x lo t1 t2) :: e1 :: e2 :: e3 :: news)) : ∃ news', News h₀ L h' news' ∧ PolyPost P cP x lo news (.ref p') news' :=
  ⟨(p', instObj cP dp') :: (dp', polyO P x lo t1 t2) :: news, fun q hq => N q (by
    rcases List.mem_cons.mp hq with h | hq
    · rw [h]; exact .head _
    rcases List.mem_cons.mp hq with h | hq
    · rw [h]; exact .tail _ (.head _)
    exact .tail _ (.tail _ (.tail _ (.tail _ (.tail _ hq))))), _, _, _, _, rfl, rfl⟩
set_option maxHeartbeats 4000000 in
theorem poly_says (w : World) (x dx s1 s2 z lo : Addr) (v1 v2 v3 v4 v5 v6 v7 v8 v9 : Tok) (vo : List Value) (no : Nat) (news : List (Addr × Obj))
    (hx : (x, instObj 390 dx) ∈ news) (hdx : (dx, ringO w.params s1 s2 z v1 v2 v3 v4 v5 v6 v7 v8 v9) ∈ news) (hlo : (lo, listOf vo.toArray no) ∈ news) (hvl : vo.length = 256) :
    Says PySem.Challenge.rw_bd0004_01.row.prog w (Mine.K w.params) 40 (.ref x) [.ref lo] news (fun r news' => PolyPost w.params 526 x lo news r news') := by
  unfold Says; k_fill
  intro p loose mean mg mb dp un gd cn cs a ccd cl outer A₀ base h₀ L m s Q E B F X N0 T hk hdp hun hret
  have N := news_dup (news_dup (news_dup N0 hx) (.tail _ hdx)) (.tail _ (.tail _ hlo))
  clear N0
  k_steps
  rename Fr h₀ L _ m => fE
  rename News h₀ L _ _ => nE
  obtain ⟨n9, N9, P9⟩ := poly_end nE
  exact hret _ _ _ _ fE N9 P9
end Mine
end
section
open PySem PySem.W PyProof.Rows PySem.Calls
namespace Mine
theorem zeros_getD {α : Type} (l : List α) (n : Nat) : (l.map fun _ => (0 : Int)).getD n 0 = 0 := by
  rw [List.getD_eq_getElem?_getD, List.getElem?_map]
  cases l[n]? <;> rfl
theorem val_start {α : Type} (l : List α) (own0 : Int) (st : List (Int × Int)) : ∀ x : Nat, x < 256 → (l.map fun _ => (0 : Int)).getD x 0 = fwdAll (fun _ => 0) own0 (st.take 0) x := fun x _ => by
  rw [zeros_getD]; rfl
def BallPost (P : Params) (cP x : Addr) (own0 : Int) (st : List (Int × Int)) (rest : List (Addr × Obj)) (r : Value) (news' : List (Addr × Obj)) : Prop :=
  ∃ p' dp' lo t1 t2 vo co no ps, r = .ref p' ∧ news' = (p', instObj cP dp') :: (dp', polyO P x lo t1 t2) :: (lo, listOf (List.toArray vo) no) :: (306, tabObj ps) :: rest ∧ IntsAre vo co ∧ co.length = 256 ∧ ∀ k : Nat, k < 256 → co.getD k 0 = fwdAll (fun _ => 0) own0 st k
theorem ball_post {P : Params} {cP x lo p' dp' : Addr} {h₀ h' : Heap} {L : Addr} {led rest : List (Addr × Obj)} {t1 t2 : Tok} {vo : List Value} {ps : Array Value} {co S : List Int} {no tau idx lb : Nat} {own0 gs : Int} {st : List (Int × Int)}
    (N : News h₀ L h' led) (m1 : (p', instObj cP dp') ∈ led) (m2 : (dp', polyO P x lo t1 t2) ∈ led) (m3 : (lo, listOf vo.toArray no) ∈ led) (m5 : (306, tabObj ps) ∈ led) (m4 : ∀ p ∈ rest, p ∈ led) (hi : IntsAre vo co) (hB : BallIn S own0 st tau idx lb co gs) (hst : st.length = tau) :
    ∃ news', News h₀ L h' news' ∧ BallPost P cP x own0 st rest (.ref p') news' :=
  ⟨(p', instObj cP dp') :: (dp', polyO P x lo t1 t2) :: (lo, listOf vo.toArray no) :: (306, tabObj ps) :: rest, fun q hq => N q (by
    rcases List.mem_cons.mp hq with h | hq
    · rw [h]; exact m1
    rcases List.mem_cons.mp hq with h | hq
    · rw [h]; exact m2
    rcases List.mem_cons.mp hq with h | hq
    · rw [h]; exact m3
    rcases List.mem_cons.mp hq with h | hq
    · rw [h]; exact m5
    exact m4 _ hq), _, _, _, _, _, _, _, _, _, rfl, rfl, hi, hB.len, fun k hk => by
      have := hB.val k hk
      rwa [List.take_of_length_le (by omega)] at this⟩
/-- the ledger without the objects at ds -/
def apart (ds : List Addr) (led : List (Addr × Obj)) : List (Addr × Obj) := led.filter fun p => decide (∀ b ∈ ds, p.1 ≠ b)
theorem apart_off (ds : List Addr) (led : List (Addr × Obj)) : OwnOff (apart ds led) ds := fun _ hp => of_decide_eq_true (List.mem_filter.mp hp).2
theorem apart_sub {ds : List Addr} {led : List (Addr × Obj)} {p : Addr × Obj} (h : p ∈ apart ds led) : p ∈ led := (List.mem_filter.mp h).1
theorem apart_mem2 {d c : Addr} {led : List (Addr × Obj)} {a : Addr} {o : Obj} (h : (a, o) ∈ led) (h1 : @Ne Nat a d) (h2 : @Ne Nat a c) : (a, o) ∈ apart [d, c] led :=
  List.mem_filter.mpr ⟨h, decide_eq_true (by
    intro b hb
    rcases List.mem_cons.mp hb with e | hb
    · rw [e]; exact h1
    · rw [List.mem_singleton.mp hb]; exact h2)⟩
theorem ball_news {h₀ h : Heap} {L : Addr} {led : List (Addr × Obj)} {d2 s2 x dx : Addr} {o1 o2 o3 o4 o5 : Obj} (N : News h₀ L h led) (m1 : (d2, o1) ∈ led) (m2 : (s2, o2) ∈ led) (m3 : (x, o3) ∈ led) (m4 : (dx, o4) ∈ led) (m5 : (306, o5) ∈ led) :
    News h₀ L h ((d2, o1) :: (s2, o2) :: (x, o3) :: (dx, o4) :: (306, o5) :: apart [d2, 306] led) := fun q hq => N q (by
  rcases List.mem_cons.mp hq with h | hq
  · rw [h]; exact m1
  rcases List.mem_cons.mp hq with h | hq
  · rw [h]; exact m2
  rcases List.mem_cons.mp hq with h | hq
  · rw [h]; exact m3
  rcases List.mem_cons.mp hq with h | hq
  · rw [h]; exact m4
  rcases List.mem_cons.mp hq with h | hq
  · rw [h]; exact m5
  exact apart_sub hq)
end Mine
end
section
open PySem PySem.W PyProof.Rows PySem.Calls
set_option maxRecDepth 100000
set_option rowWalk.seconds 0
namespace Mine
local macro_rules | `(tactic| k_enter) => `(tactic| first | (refine' code_def ?k1 ?k2 ?k3 ?k4 ?k5 ?kA ?kF ?kK ?k6 ?k7 ?k8 ?k9 ?kB ?_ ?c2 ?c3 ?c4 ?c5; (case kA => exact rfl); (case kF => exact rfl); (case kK => first | exact rfl | assumption); (case k1 => k_asm); (case k2 => k_asm); (case k3 => k_asm); (case k4 => k_asm); (case k5 => k_asm); (case k6 => k_is); (case k7 => k_is); (case k8 => ktr_room); (case k9 => first | exact BindsTo.of_eq rfl | exact binds_K (by k_in) rfl (by k_is) rfl rfl rfl); (case c5 => decide); (case kB => exact locs rfl); (case c2 => exact rfl); (case c3 => exact rfl); (case c4 => exact rfl); k_whole; intro g' L' h' FG' F' N' B' X' T'; (try dsimp only); (try k_lift B'); (try k_fold)) | (refine' code_defC ?k1 ?k2 ?k3 ?k4 ?k5 ?kA ?kF ?kK ?k6 ?k7 ?k8 ?k9 ?kB ?kD ?_ ?c2 ?c3 ?c4; (case kA => exact rfl); (case kF => exact rfl); (case kK => first | exact rfl | assumption); (case k1 => k_asm); (case k2 => k_asm); (case k3 => k_asm); (case k4 => k_asm); (case k5 => k_asm); (case k6 => k_is); (case k7 => k_is); (case k8 => ktr_room); (case k9 => first | exact BindsTo.of_eq rfl | exact binds_K (by k_in) rfl (by k_is) rfl rfl rfl); (case kB => exact rfl); (case kD => decide +kernel); (case c2 => exact rfl); (case c3 => exact rfl); (case c4 => exact rfl); k_whole; intro g' L' h' tk' cells' FG' F' N' Y' B' X' T' l1; have l2 := lt_up l1 1; (simp only [AllLt, and_true] at l2); have l3 := lt_up l1 2; (simp only [AllLt, and_true] at l3); have l4 := lt_up l1 3; (simp only [AllLt, and_true] at l4); have l5 := lt_up l1 4; (simp only [AllLt, and_true] at l5); (try k_lt l1); k_cells Y'; (try simp only [List.cons_append, List.nil_append] at N'); (try dsimp only); (try k_lift B'); (try k_fold)))
local macro_rules | `(tactic| kn_enter) => `(tactic| (refine' code_nest ?k1 ?k2 ?k3 ?k4 ?k5 ?kA ?kF ?kK ?k6 ?k7 ?k8 ?k9 ?kB ?_ ?c2 ?c3 ?c4 ?c5; (case kA => exact rfl); (case kF => exact rfl); (case kK => first | exact rfl | assumption); (case k1 => k_asm); (case k2 => k_asm); (case k3 => k_asm); (case k4 => k_asm); (case k5 => k_asm); (case k6 => k_mem); (case k7 => exact codeRec_news (by k_asm) (by k_mem) (by assumption) (by assumption)); (case k8 => ktr_room); (case k9 => exact BindsTo.of_eq rfl); (case c5 => decide); (case kB => exact locs rfl); (case c2 => exact rfl); (case c3 => exact rfl); (case c4 => exact rfl); k_whole; intro g' L' h' FG' F' N' B' X' T'; (try dsimp only); (try k_lift B'); (try k_fold)))
local macro_rules | `(tactic| walk_at "FnAt") => `(tactic| k_dflt (rename @Membership.mem (Addr × Obj) _ _ _ _ => hfn'; exact FnAt.of (by k_asm) (by (repeat (first | exact hfn' | exact List.mem_append_left _ hfn' | refine List.Mem.tail _ ?_)))))
local macro_rules | `(tactic| walk_at "callWith ref") => `(tactic| k_dflt (rename @Membership.mem (Addr × Obj) _ _ _ _ => hfn'; refine' callWith_F ?k1 ?_; (case k1 => exact FnAt.of (by k_asm) (by (repeat (first | exact hfn' | exact List.mem_append_left _ hfn' | refine List.Mem.tail _ ?_)))); k_whole))
local macro_rules | `(tactic| walk_at "call ref") => `(tactic| k_dflt (rename AlgSays _ _ _ _ _ _ _ => hA'; rename (∀ p ∈ _, p ∈ _) => hg'; refine' use_says (hA'.run _ _ 680 _ _ ?zg (by exact rfl) ?zn) ?B ?F ?X ?N ?T ?k ?d ?u ?_; (case B => assumption); (case F => assumption); (case X => assumption); (case N => assumption); (case T => assumption); (case zg => intro p hp; (repeat (first | exact (hg' p hp) | exact List.mem_append_left _ (hg' p hp) | refine List.Mem.tail _ ?_))); (case zn => decide); (case k => first | exact rfl | assumption); (case d => ktr_room); (case u => (simp only [un_make, units_in1, units_deeper, Around.mark_units]; (try dsimp only [ktrTop]); omega)); intro r9 n9 h9 tk9 F9 N9 hp9; obtain ⟨b9, t9, hr9, hb9, hn9⟩ := hp9; subst hr9; subst hn9; (try dsimp only)))
local macro_rules | `(tactic| walk_at "call ref") => `(tactic| k_dflt ((show wpAny _ _ (call (Value.ref 268) _) _ _ _); refine Hold.out ?_))
local macro_rules | `(tactic| walk_at "call ref") => `(tactic| k_dflt ((show wpAny _ _ (call (Value.ref _) [Value.bytes _ _, Value.str _ _]) _ _ _); rename KBw.bInts _ = win _ _ _ => hw'; rename KFB.value _ = _ => hG'; refine KFB.call_little (by k_asm) (by k_mem) hw' (by rw [win_len]; decide) ?_; intro _ _; rw [hG']))
local macro_rules | `(tactic| walk_at "subscriptTail") => `(tactic| k_dflt ((show wpAny _ _ (subscriptTail _ _ (Value.bytes _ _) (Value.int _ _)) _ _ _); rename KBw.bInts _ = [_] => hw'; refine item_one hw' ?_; intro _ _ kbaLo kbaHi))
local macro_rules | `(tactic| walk_at "call ref") => `(tactic| k_dflt ((show wpAny _ _ (call (Value.ref _) [Value.ref _]) _ _ _); refine Hold.out ?_))
local macro_rules | `(tactic| walk_at "KswPost") => `(tactic| refine Hold.out ?_)
local macro_rules | `(tactic| walk_at "KswEnd") => `(tactic| refine Hold.out ?_)
local macro_rules | `(tactic| walk_at "call builtin:len") => `(tactic| (k_here; (with_reducible show wpAny _ _ (call (Value.builtin "len") [Value.ref _]) _ _ _); refine len_of (by k_asm) (by k_mem) (by assumption) (by omega) ?_))
local macro_rules | `(tactic| walk_at "pyIter ref") => `(tactic| refine Hold.out ?_)
local macro_rules | `(tactic| walk_at "InvEndN") => `(tactic| refine Hold.out ?_)
local macro_rules | `(tactic| walk_at "exec While Constant cons nil") => `(tactic| refine Hold.out ?_)
local macro_rules | `(tactic| walk_at "call type:range") => `(tactic| ((rename Fr _ _ _ _ => F'); (rename News _ _ _ _ => N'); first
  | (with_unfolding_all refine range1_rows F' N' ?_; intro _ _ _ _ _ _ _ _ _)
  | (with_unfolding_all refine range2_rows F' N' ?_; intro _ _ _ _ _ _ _ _ _)))
set_option maxHeartbeats 8000000 in
theorem ball_says (w : World) (x dx s1 d2 s2 z alg : Addr) (v1 v2 v3 v4 v5 v6 v7 v8 v9 t1 t2 t3 t4 t5 t6 t7 ts tt : Tok) (gl rest : List (Addr × Obj)) (sb : Array UInt8) (S os : List Int) (g : Int) (tau : Nat) (st : List (Int × Int))
    (hA : AlgSays PySem.Challenge.rw_bd0004_01.row.prog w (Mine.K w.params) alg gl sb S) (hg : ∀ p ∈ gl, p ∈ rest) (hoff : OwnOff rest [d2, 306]) (hne : @LT.lt Nat _ d2 s2) (hxd : @LT.lt Nat _ x d2) (hdx : @LT.lt Nat _ dx x) (h306 : @LT.lt Nat _ 306 dx)
    (ht : tau ≤ 60) (hst : st.length = tau) (hS : S = digs g ++ os) (hg0 : 0 ≤ g) (hg1 : g < 2 ^ 64) (hsg : SgOk g st) (hfeed : Feed S 8 (256 - (tau : Int)) st) :
    SaysC 308 306 PySem.Challenge.rw_bd0004_01.row.prog w (Mine.K w.params) 100 (.ref 309) [.ref x, .bytes sb ts, .int (tau : Int) tt]
      ((d2, shO w.params alg 136 t1 t2 t3 t4 t5 t6 t7) :: (s2, instObj 278 d2) :: (x, instObj 390 dx) :: (dx, ringO w.params s1 s2 z v1 v2 v3 v4 v5 v6 v7 v8 v9) :: (306, tabObj #[]) :: rest)
      (fun r news' => BallPost w.params 526 x (256 - (tau : Int)) st rest r news') := by
  obtain ⟨oca, oda, fda, sla, hfn⟩ := hA.fn
  replace hfn := hg _ hfn
  unfold SaysC; k_fill
  intro p loose mean mg mb dp un gd cn cs a ccd cl outer A₀ base h₀ L m s Q E B F X N T CH hk hdp hun hret
  refine wpAny_call ?_
  k_dflt k_enter
  k_steps
  unfold Hold
  rename KBw.bInts _ = pre S 680 => hb9
  rename News _ _ _ _ => N1
  rename _ ∧ _ ∧ _ ∧ _ ∧ _ ∧ AllLt _ rest => l1
  rename _ < _ => l2
  rename ∀ p ∈ gl, p ∈ rest => hg
  rename AlgSays _ _ _ _ _ _ _ => hA
  k_dflt (refine' use_says (read_says w alg d2 s2 136 gl _ sb S 680 0 8 _ _ hA ?zg ⟨⟨_, _, _, _, _, _, _, _, _, _, _, _, rfl, hb9⟩⟩ ?zo hne ?z1 ?z2 ?z3 ?z4) ?B ?F ?X (pull2 N1) ?T ?k ?d ?u ?_)
  (case B => k_asm); (case F => k_asm); (case X => k_asm); (case T => k_asm)
  (case k => first | exact rfl | assumption)
  (case d => ktr_room)
  (case u => (simp only [un_make, units_in1, units_deeper, Around.mark_units]; (try dsimp only [ktrTop]); omega))
  (case zg => intro p hp; (repeat (first | exact (hg p hp) | exact List.mem_append_left _ (hg p hp) | refine List.Mem.tail _ ?_)))
  (case z1 => decide); (case z2 => decide); (case z3 => decide); (case z4 => decide)
  (case zo => (have q1 := l1.1); (repeat (refine off_one (by (try dsimp only); omega) ?_)); exact off_less hoff (by intro b hb; rw [List.mem_singleton.mp hb]; exact .head _))
  k_dflt (rintro r9 n9 h9 tk9 F9 N9 ⟨b9, t9, o9, lb9, hr9, hw9, ho9, hl9, hle9, hn9⟩; subst hr9; subst hn9; (try dsimp only))
  have hG : KFB.value (win S 0 8).reverse = g := by rw [hS, win_digs]; exact val_digs hg0 hg1
  k_steps
  unfold Hold
  rename News _ _ _ _ => N2
  rename IntsAre _ (List.map (fun _ => (0 : Int)) _) => hI
  have hlb : lb9 = 680 := by omega
  subst hlb
  refine ball_loop (n := tau) (st := st) (gs := g) (Str.ofString "sign_int") [Str.ofString "j"] rfl (by assumption) (small_one (by omega) (by omega) (by omega) (by omega)) (by rw [rangeSize_nat]; omega) (by assumption) (pull2 N2) ho9 hI rfl
    ⟨by simpa using hfeed, by decide, by decide, by decide, by simp [rangeKs], hg0, by simpa using hsg, val_start _ _ _⟩ ?_ ?_
  · intro o lb i vo co no gs tg pre k t u h tk own hk hlt hown hsh hi hB F N
    have kM2 := kstMark
    have kM1 := kdMark
    obtain ⟨p, i', hS⟩ := hB.step (by omega)
    subst hk
    have hcl := hB.len
    have hvl := hi.length
    simp only [List.cons_append, List.map_cons] at N hown
    rename d2 < _ ∧ _ ∧ _ ∧ _ ∧ _ ∧ _ ∧ _ ∧ AllLt _ rest => l3
    rename _ ∧ d2 ≠ _ ∧ _ ∧ _ ∧ _ ∧ _ ∧ _ ∧ _ ∧ LCg.Off1 _ rest => o1
    have q1 : @LT.lt Nat _ _ _ := l1.1
    have q2 : @LT.lt Nat _ _ _ := l3.1
    have q3 : @Ne Nat _ _ := o1.2.1
    have q4 : @Ne Nat _ _ := o1.1
    have q5 : @Ne Nat _ _ := o1.2.2.1
    have q6 : @Ne Nat _ _ := o1.2.2.2.1
    have q7 : @Ne Nat _ _ := o1.2.2.2.2.1
    have q8 : @Ne Nat _ _ := o1.2.2.2.2.2.1
    have q9 : @Ne Nat _ _ := o1.2.2.2.2.2.2.1
    have q10 : @Ne Nat _ _ := o1.2.2.2.2.2.2.2.1
    have hRO := off_app (a := rest) (b := own) (off_of1 o1.2.2.2.2.2.2.2.2) (off_less hown (by intro b hb; rw [List.mem_singleton.mp hb]; exact .tail _ (.tail _ (.head _))))
    k_steps
    unfold Hold
    refine rej_loop [Str.ofString "j"] (by assumption) (by assumption) hsh hS.rej hB.le hB.lo hB.hi ?_
    intro o3 lb3 i3 u3 h3 tk3 hsh3 hR3 F3 N3
    obtain ⟨b3, y1, y2, y3, y4, y5, y6, y7, y8, y9, y10, y11, rfl, hb3⟩ := hsh3.form
    k_steps
    unfold Hold
    k_dflt (refine' use_says (read_says w alg d2 s2 136 gl _ sb S lb3 i3 1 _ _ hA ?zg hsh3 ?zo hne hR3.c ?z2 hR3.d hR3.e) ?B ?F ?X N3 ?T ?k ?d ?u ?_)
    (case B => k_asm); (case F => k_asm); (case X => k_asm); (case T => k_asm)
    (case k => first | exact rfl | assumption)
    (case d => ktr_room)
    (case u => (simp only [un_make, units_in1, units_deeper, Around.mark_units]; (try dsimp only [ktrTop]); omega))
    (case zg => intro p hp; (repeat (first | exact (hg p hp) | exact List.mem_append_left _ (hg p hp) | refine List.Mem.tail _ ?_)))
    (case z2 => decide)
    (case zo => (repeat (refine off_one (by (try dsimp only); omega) ?_)); exact off_app (off_less hoff (by intro b hb; rw [List.mem_singleton.mp hb]; exact .head _)) (off_less hown (by intro b hb; rw [List.mem_singleton.mp hb]; exact .head _)))
    k_dflt (rintro r9 n9 h9 tk9 F9 N9 ⟨b9, t9, o9, lb9, hr9, hw9, ho9, hl9, hle9, hn9⟩; subst hr9; subst hn9; (try dsimp only))
    rw [win_one] at hw9
    have hrle := hS.rej.le
    have hrb := hR3.b
    have hrd := hR3.d
    have hre := hR3.e
    k_steps
    · unfold Hold
      dsimp only [KswPost]
      obtain ⟨hT1, hT2⟩ := hS.rej.take hR3.a hR3.b (by omega)
      subst hT2
      obtain ⟨b4, y1, y2, y3, y4, y5, y6, y7, y8, y9, y10, y11, rfl, hb4⟩ := ho9.form
      k_steps
      unfold Hold
      rename News _ _ _ _ => nE
      rename Fr _ _ _ _ => fE
      rename IntsAre (List.set (List.set vo _ _) _ _) _ => hiE
      refine ball_end fE nE (.head _) (.tail _ (.head _)) (.tail _ (.tail _ (.head _))) (by kst_inAny) (by (intro p hp; kst_mem)) rfl ?ze1 ho9 hiE (hB.next hS (by omega) (by omega) (by omega) (by omega) (by omega) ?ze2 ?ze3 (by omega))
      (case ze1 => intro z h1 h2 h3; simp only [List.contains_cons, List.contains_nil, Bool.or_false, beq_eq_false_iff_ne, ne_eq] at h3; simp [h1, h2, h3])
      (case ze2 => rw [hT1, KE_and_one])
      (case ze3 => exact fd gs 2 (by decide))
    · unfold Hold
      dsimp only [KswPost]
      have hN := hS.rej.pass hR3.b (by omega)
      rename News _ _ _ _ => nE
      rename Fr _ _ _ _ => fE
      k_dflt (refine' ksw_end (?zo, lb9, i3 + 1) fE nE (fun p hp => hp) ho9 (List.forall_mem_nil _) ?zr ⟨Nat.le_succ_of_le hR3.a, hN, hle9, ?z8, ?z4⟩ ?zm)
      (case zr =>
        intro z _ h3
        have h4 : ¬ z = Str.ofString "j" := by
          intro e
          rw [e] at h3
          exact absurd h3 (by decide)
        exact (if_neg h4).trans (if_neg (by rw [h3]; exact Bool.false_ne_true)))
      (case z8 => show 8 ≤ lb9; omega)
      (case z4 => show lb9 ≤ 40000; omega)
      (case zm => show i' - (i3 + 1) < i' - i3; omega)
  · intro o lb i vo co no gs tg u h tk hsh hi hB F N
    have kM2 := kstMark
    have kM1 := kdMark
    have hvl : vo.length = 256 := hi.length.trans hB.len
    k_steps
    unfold Hold
    k_dflt (refine' use_says (poly_says w x dx s1 s2 z _ v1 v2 v3 v4 v5 v6 v7 v8 v9 vo no _ ?zx ?zd ?zl hvl) ?B ?F ?X N ?T ?k ?d ?u ?_)
    (case B => k_asm); (case F => k_asm); (case X => k_asm); (case T => k_asm)
    (case k => first | exact rfl | assumption)
    (case d => ktr_room)
    (case u => (simp only [un_make, units_in1, units_deeper, Around.mark_units]; (try dsimp only [ktrTop]); omega))
    (case zx => k_mem); (case zd => k_mem); (case zl => k_mem)
    k_dflt (rintro r9 n9 h9 tk9 F9 N9 ⟨p9, d9, t91, t92, hr9, hn9⟩; subst hr9; subst hn9; (try dsimp only))
    k_steps
    rename Fr h₀ L _ m => fE
    rename News h₀ L _ _ => nE
    obtain ⟨n9, N9, P9⟩ := ball_post nE (.head _) (.tail _ (.head _)) (.tail _ (.tail _ (.tail _ (.tail _ (.head _))))) (by repeat (first | exact .head _ | refine .tail _ ?_)) (rest := rest) (by intro p hp; repeat (first | exact hp | refine .tail _ ?_)) hi hB hst
    exact hret _ _ _ _ fE N9 P9
end Mine
end
section
open PySem PySem.W PyProof.Rows PySem.Calls
namespace Mine
theorem feed_of : ∀ {st : List (Int × Int)} {own : Int} {os : List Int} (pr : List Int), Os own st os → StOk own st → pr.length + os.length ≤ 20000 → Feed (pr ++ os) pr.length own st
  | [], _, _, _, _, _, _ => trivial
  | p :: r, own, os, pr, h, hS, hl => by
    obtain ⟨rs, os', rfl, h1, h2, h3⟩ := h
    obtain ⟨⟨p0, p1, _⟩, hr⟩ := hS
    simp only [List.length_append, List.length_cons] at hl
    refine ⟨p0, pr.length + rs.length + 1, ⟨by omega, by omega, ?_, p1, ?_⟩, ?_⟩
    · rw [List.getD_eq_getElem?_getD, List.getElem?_append_right (by omega), List.getElem?_append_right (by omega)]
      rw [show pr.length + rs.length + 1 - 1 - pr.length - rs.length = 0 by omega]; rfl
    · intro m hm1 hm2
      have hm : m - pr.length < rs.length := by omega
      rw [List.getD_eq_getElem?_getD, List.getElem?_append_right hm1, List.getElem?_append_left hm, List.getElem?_eq_getElem hm]
      exact (h1 _ (List.getElem_mem hm)).1
    · have := feed_of (pr ++ rs ++ [p.1]) h3 hr (by simp only [List.length_append, List.length_cons, List.length_nil]; omega)
      have e1 : pr ++ (rs ++ p.1 :: os') = pr ++ rs ++ [p.1] ++ os' := by simp
      have e2 : pr.length + rs.length + 1 = (pr ++ rs ++ [p.1]).length := by simp; omega
      rw [e1, e2]; exact this
theorem stream_feed {own0 : Int} {S : List (Int × Int)} {ks : List Int} (h : StreamOk own0 S ks) (hok : StOk own0 S) (hl : S.length ≤ 60) : ∃ g os, ks = digs g ++ os ∧ 0 ≤ g ∧ g < 2 ^ 64 ∧ SgOk g S ∧ Feed ks 8 own0 S := by
  obtain ⟨g, os, e, h1, h2, h3, h4⟩ := h.form
  have hle := h1.len
  refine ⟨g, os, e, h2, h3, h4, ?_⟩
  have := feed_of (digs g) h1 hok (by rw [digs_len]; omega)
  rw [digs_len] at this
  rw [e]; exact this
end Mine
end
section
open PySem PySem.W PyProof.Rows PySem.Calls
set_option maxRecDepth 100000
namespace Mine
theorem no_bytes_int : typeLookup (.type "int") "__bytes__" = pure none := by rw [typeLookup_type, builtinLookup_eq_fast]; kernel_rfl
theorem has_index_int : typeLookup (.type "int") "__index__" = pure (some (.builtin "int.__index__")) := by rw [typeLookup_type, builtinLookup_eq_fast]; kernel_rfl
set_option maxHeartbeats 4000000 in
theorem meets_bytes_int {k : Int} {u : Tok} (h0 : 0 ≤ k) (h1 : k ≤ 100000) : Meets (Builtin.«bytes.__new__» ⟨[.type "bytes", .int k u], []⟩) (fun _ R s => ∀ t c, R (.ok (.ret (.bytes (Array.replicate k.toNat 0) t))) { s with toks := c }) := by
  intro prog w A R s h
  obtain ⟨hp, g, d, tk, os⟩ := s
  unfold Builtin.«bytes.__new__»
  refine wpAny_bind (wpAny_of_eq (a := true) rfl ?_)
  refine bm_if_false rfl ?_
  refine wpAny_bind (wpAny_of_eq F.bm_sub ?_)
  refine bm_if_false rfl ?_
  refine wpAny_bind (wpAny_of_eq (F.bm_bind _) ?_)
  refine wpAny_bind (wpAny_of_eq (a := ()) rfl ?_)
  refine wpAny_bind (wpAny_of_eq (a := ()) rfl ?_)
  refine bm_if_false rfl ?_
  refine wpAny_bind (wpAny_specialOf (typeIs_int _ _ _) no_bytes_int ?_)
  refine wpAny_bind (wpAny_bind ?_)
  have c1 : (!Builtin.Bytes.fitsIndex k) = false := by
    simp only [Builtin.Bytes.fitsIndex, Bool.not_eq_false', Bool.and_eq_true, decide_eq_true_eq]
    omega
  have c2 : ¬ k < 0 := by omega
  have c3 : ¬ k > 2 ^ 63 - 34 := by omega
  have c4 : Builtin.Bytes.tooLong k.toNat = false := KBy.tooLong_not (by omega)
  repeat (any_goals (first
      | assumption
      | wp_step))
  refine wpAny_of_eq has_index_int ?_
  refine bm_if_false rfl ?_
  repeat (any_goals (first
      | assumption
      | (with_reducible refine bm_if_false c1 ?_)
      | (with_reducible refine wpAny_ite_false (decide_eq_false c2) ?_)
      | (with_reducible refine wpAny_ite_false (decide_eq_false c3) ?_)
      | (with_reducible refine bm_if_false c4 ?_)
      | wp_step))
  have c5 : ¬ (Array.replicate k.toNat (0 : UInt8)).size > sizeLine := by rw [Array.size_replicate, sizeLine_eq]; omega
  repeat (any_goals (first
      | assumption
      | (rw [if_neg c5])
      | wp_step))
  all_goals (try exact h _ _)
  all_goals trace_state
theorem newNe_bytes : (some "bytes.__new__" != some "object.__new__") = true := by decide +kernel
theorem bInts_zero (n : Nat) : KBw.bInts (Array.replicate n (0 : UInt8)) = List.replicate n 0 := by
  unfold KBw.bInts
  simp
theorem call_bytes_int {prog : Program} {w : World} {A : Around} {E : Value → Shared → Prop} {s : Shared} {Q : Value → Shared → Prop} {k : Int} {u : Tok} (h0 : 0 ≤ k) (h1 : k ≤ 100000)
    (h : ∀ b t c, KBw.bInts b = List.replicate k.toNat 0 → Q (.bytes b t) { s with toks := c }) : wpAny (model prog w) A (call (.type "bytes") [.int k u]) Q E s :=
  callType_new F.bm_called newNe_bytes (F.bm_typeCall _) (F.bm_newCall _) (fun obj => F.args_object_init_2 obj _) F.bm_entry (meets_bytes_int h0 h1) fun t c => ⟨PySem.W.typeIs_bytes _ _ _, h _ t c (bInts_zero _)⟩
end Mine
end
section
open PySem PySem.W PyProof.Rows PySem.Calls
set_option maxRecDepth 100000
namespace Mine
theorem num_of {vs : List Value} {l : List Int} (hn : IntsAre vs (List.take (min 61 l.length - 1) (List.drop 1 l))) (h : (1 : Int) < (l.length : Int)) : ∃ ns, IntsAre vs ns ∧ 1 ≤ ns.length ∧ ns.length ≤ 60 :=
  ⟨_, hn, by rw [List.length_take, List.length_drop]; omega, by rw [List.length_take, List.length_drop]; omega⟩
theorem num_one (t : Tok) : ∃ ns, IntsAre [Value.int 300 t] ns ∧ 1 ≤ ns.length ∧ ns.length ≤ 60 := ⟨[300], .cons _ _ .nil, by decide, by decide⟩
theorem signs_any (w : World) (D : Addr) (vs : List Value) (n0 : Nat) (news : List (Addr × Obj)) (hD : (D, listOf vs.toArray n0) ∈ news) (hn : ∃ ns, IntsAre vs ns ∧ 1 ≤ ns.length ∧ ns.length ≤ 60) :
    Says PySem.Challenge.rw_bd0004_01.row.prog w (Mine.K w.params) 20 (.ref 606) [.ref D] news (fun r news' => ∃ ns d o kvs c, IntsAre vs ns ∧ 1 ≤ ns.length ∧ ns.length ≤ 60 ∧ r = .ref d ∧ AllLt d news ∧ o.IsDictOf (PySem.intKind PySem.Challenge.rw_bd0004_01.row.prog w) kvs ∧ PyProof.V.FlatPairs PyData.int kvs (kdfD c) ∧ (d == sysModules) = false ∧ news' = (d, o) :: news ∧ Sg c ns.length) := by
  obtain ⟨ns, h1, h2, h3⟩ := hn
  intro p loose mean mg mb dp un gd cn cs a ccd cl outer A₀ base h₀ L m s Q E B F X N T hk hdp hun hret
  refine use_says (signs_says w D vs ns n0 news h1 h3 hD) B F X N T hk hdp hun ?_
  rintro r news' h' tk' F' N' ⟨d, o, kvs, c, e⟩
  exact hret r news' h' tk' F' N' ⟨ns, d, o, kvs, c, h1, h2, h3, e⟩
/-- a function handed in that tells a row for one text, by its cells -/
theorem asked_of {prog : Program} {w : World} {K : Frag} {nm ql : Str} {params : Arguments} {body : List Stmt} {scope : Scope} {cl : List (Str × Addr)} {doc pm ctv : Value} {f c' ca cb : Addr} {oc oa ob : Obj} {sb : Array UInt8} {S : List Int}
    (run : ∀ (news : List (Addr × Obj)) (k : Int) (n : Nat) (ts tn : Tok), k = (n : Int) → n ≤ 100000 → Says prog w K 20 (.ref f) [.bytes sb ts, .int k tn] ((f, fnMade nm ql params body scope cl doc pm c' ctv) :: (c', oc) :: (ca, oa) :: (cb, ob) :: news)
      (fun r news' => ∃ b t, r = .bytes b t ∧ KBw.bInts b = pre S n ∧ news' = (f, fnMade nm ql params body scope cl doc pm c' ctv) :: (c', oc) :: (ca, oa) :: (cb, ob) :: news)) :
    AlgSays prog w K f [(f, fnMade nm ql params body scope cl doc pm c' ctv), (c', oc), (ca, oa), (cb, ob)] sb S := by
  refine ⟨⟨_, _, _, _, .head _⟩, ?_⟩
  intro news k n ts tn hg hk hn p loose mean mg mb dp un gd cn cs a ccd cl outer A₀ base h₀ L m s Q E B F X N T hkk hdp hun hret
  refine use_says (run news k n ts tn hk hn) B F X ?_ T hkk hdp hun ?_
  · intro q hq
    rcases List.mem_cons.mp hq with h | hq
    · exact N _ (hg _ (by rw [h]; exact .head _))
    rcases List.mem_cons.mp hq with h | hq
    · exact N _ (hg _ (by rw [h]; exact .tail _ (.head _)))
    rcases List.mem_cons.mp hq with h | hq
    · exact N _ (hg _ (by rw [h]; exact .tail _ (.tail _ (.head _))))
    rcases List.mem_cons.mp hq with h | hq
    · exact N _ (hg _ (by rw [h]; exact .tail _ (.tail _ (.tail _ (.head _)))))
    exact N _ hq
  · rintro r news' h' tk' F' N' ⟨b, t, e1, e2, rfl⟩
    exact hret r news h' tk' F' (fun q hq => N' q (.tail _ (.tail _ (.tail _ (.tail _ hq))))) ⟨b, t, e1, e2, rfl⟩
end Mine
namespace Mine
structure IntPost (s : Shared) (v : Value) (s' : Shared) : Prop where
  ok : ∃ n tk tk', v = .int n tk ∧ s' = { s with toks := tk' }
theorem join_int {M : Model} {A : Around} {E : Value → Shared → Prop} {s : Shared} {Q : Value → Shared → Prop} {t : Sem Value} (h1 : wpAny M A t (fun v s' => IntPost s v s') E s)
    (h2 : ∀ n tk tk', Q (.int n tk) { s with toks := tk' }) : wpAny M A t Q E s :=
  wpAny_mono h1 (fun v s' ⟨n, tk, tk', e1, e2⟩ => by subst e1; subst e2; exact h2 n tk tk') (fun _ _ h => h)
structure NumPost (h₀ : Heap) (L : Addr) (m : Str → Option Value) (news : List (Addr × Obj)) (s : Shared) (v : Value) (s' : Shared) : Prop where
  ok : ∃ D vs h' tk' ns, v = .ref D ∧ s' = { s with heap := h', toks := tk' } ∧ Fr h₀ L h' m ∧ News h₀ L h' ((D, listOf (List.toArray vs) 0) :: news) ∧ AllLt D news ∧ IntsAre vs ns ∧ 1 ≤ ns.length ∧ ns.length ≤ 60
theorem join_nums {M : Model} {A : Around} {E : Value → Shared → Prop} {s : Shared} {Q : Value → Shared → Prop} {t : Sem Value} {h₀ : Heap} {L : Addr} {m : Str → Option Value} {news : List (Addr × Obj)} (_F : Fr h₀ L s.heap m) (_N : News h₀ L s.heap news)
    (h1 : wpAny M A t (fun v s' => NumPost h₀ L m news s v s') E s)
    (h2 : ∀ D vs h' tk' ns, Fr h₀ L h' m → News h₀ L h' ((D, listOf (List.toArray vs) 0) :: news) → AllLt D news → IntsAre vs ns → 1 ≤ ns.length → ns.length ≤ 60 → Q (.ref D) { s with heap := h', toks := tk' }) : wpAny M A t Q E s :=
  wpAny_mono h1 (fun v s' ⟨D, vs, h', tk', ns, e1, e2, F, N, l, hn, a, b⟩ => by subst e1; subst e2; exact h2 D vs h' tk' ns F N l hn a b) (fun _ _ h => h)
end Mine
namespace Mine
theorem have_asked {prog : Program} {w : World} {K : Frag} {A : Around} {E : Value → Shared → Prop} {s : Shared} {α : Type} {Q : α → Shared → Prop} {t : Sem α} {h₀ h' : Heap} {L : Addr} {led : List (Addr × Obj)} (sb : Array UInt8) (S : List Int)
    {nm ql x1 x2 : Str} {params : Arguments} {body : List Stmt} {scope : Scope} {doc pm ctv : Value} {f c' ca cb : Addr} {oc oa ob : Obj} (_X : K.In h₀) (_N : News h₀ L h' led)
    (_m1 : (f, fnMade nm ql params body scope [(x1, ca), (x2, cb)] doc pm c' ctv) ∈ led) (_m2 : (c', oc) ∈ led) (_m3 : (ca, oa) ∈ led) (_m4 : (cb, ob) ∈ led)
    (run : ∀ (news : List (Addr × Obj)) (k : Int) (n : Nat) (ts tn : Tok), k = (n : Int) → n ≤ 100000 → Says prog w K 20 (.ref f) [.bytes sb ts, .int k tn] ((f, fnMade nm ql params body scope [(x1, ca), (x2, cb)] doc pm c' ctv) :: (c', oc) :: (ca, oa) :: (cb, ob) :: news)
      (fun r news' => ∃ b t, r = .bytes b t ∧ KBw.bInts b = pre S n ∧ news' = (f, fnMade nm ql params body scope [(x1, ca), (x2, cb)] doc pm c' ctv) :: (c', oc) :: (ca, oa) :: (cb, ob) :: news))
    (h : AlgSays prog w K f [(f, fnMade nm ql params body scope [(x1, ca), (x2, cb)] doc pm c' ctv), (c', oc), (ca, oa), (cb, ob)] sb S → wpAny (model prog w) A t Q E s) : wpAny (model prog w) A t Q E s := h (asked_of run)
end Mine
namespace Mine
theorem cut_pre {S ks : List Int} {n m : Nat} (hm : m = (S ++ List.replicate n 0).length) (e : ks = List.take ((some (n : Int)).elim m (clipAt m) - (none : Option Int).elim 0 (clipAt m)) (List.drop ((none : Option Int).elim 0 (clipAt m)) (S ++ List.replicate n 0))) : ks = pre S n := by
  rw [e]
  show List.take (clipAt m (n : Int) - 0) (List.drop 0 _) = _
  rw [clipAt_nat, Nat.sub_zero, List.drop_zero]
  unfold pre
  rw [Nat.min_eq_left (by rw [hm, List.length_append, List.length_replicate]; omega)]
end Mine
namespace Mine
theorem news_end3 {h₀ h : Heap} {L : Addr} {a b c d : Addr × Obj} {ds : List Addr} {led : List (Addr × Obj)} {e1 e2 e3 : Addr} {o1 o2 o3 : Obj} {v : Value} (N : News h₀ L h (a :: b :: c :: d :: apart ds led)) (_hc : o1.data = Data.cell (some v)) (m1 : (e1, o1) ∈ apart ds led) (m2 : (e2, o2) ∈ apart ds led) (m3 : (e3, o3) ∈ apart ds led) :
    News h₀ L h [a, b, c, d, (e1, o1), (e2, o2), (e3, o3)] := fun q hq => N q (by
  simp only [List.mem_cons, List.not_mem_nil, or_false] at hq
  rcases hq with h | h | h | h | h | h | h
  · rw [h]; exact .head _
  · rw [h]; exact .tail _ (.head _)
  · rw [h]; exact .tail _ (.tail _ (.head _))
  · rw [h]; exact .tail _ (.tail _ (.tail _ (.head _)))
  · rw [h]; exact .tail _ (.tail _ (.tail _ (.tail _ m1)))
  · rw [h]; exact .tail _ (.tail _ (.tail _ (.tail _ m2)))
  · rw [h]; exact .tail _ (.tail _ (.tail _ (.tail _ m3))))
end Mine
namespace Mine
theorem final_eq {co : List Int} {cs st : List (Int × Int)} {own0 : Int} (hl : co.length = 256) (hv : ∀ k : Nat, k < 256 → co.getD k 0 = fwdAll (fun _ => 0) own0 st k) (hf : fwdAll (fun _ => 0) own0 st = lk cs) :
    co = (rangeKs 0 (256 - 0 : Int).toNat).map (fun k' => kdfLook cs k' 0) := by
  have e : (256 - 0 : Int).toNat = 256 := rfl
  rw [e]
  apply List.ext_getElem
  · rw [hl, List.length_map, rangeKs_length]
  · intro i h1 h2
    have h3 := hv i (by omega)
    rw [hf] at h3
    rw [List.getD_eq_getElem?_getD, List.getElem?_eq_getElem h1] at h3
    simp only [Option.getD_some] at h3
    rw [h3, List.getElem_map]
    simp [lk, rangeKs]
end Mine
end
section
open PySem PySem.W PyProof.Rows PySem.Calls
set_option maxRecDepth 100000
set_option rowWalk.seconds 0
namespace Mine
local macro_rules | `(tactic| walk_at "no such key 0") => `(tactic| fail "none")
local macro_rules | `(tactic| walk_at "no such key 1") => `(tactic| fail "none")
local macro_rules | `(tactic| walk_at "no such key 2") => `(tactic| fail "none")
local macro_rules | `(tactic| walk_at "no such key 3") => `(tactic| fail "none")
local macro_rules | `(tactic| walk_at "no such key 4") => `(tactic| fail "none")
local macro_rules | `(tactic| walk_at "no such key 5") => `(tactic| fail "none")
local macro_rules | `(tactic| walk_at "clear ne") => `(tactic| (repeat (first | (rename (_ ∧ _) ∧ _ => hz9; clear hz9) | (rename _ ≠ _ ∧ _ => hz9; clear hz9))))
local macro_rules | `(tactic| walk_at "binaryOp Pow int int") => `(tactic| (k_here; (with_reducible refine pow_int_small ?zp1 ?zp2 ?zp3 ?_); (case zp1 => (walk_at "clear ne"; l_bnd)); (case zp2 => (walk_at "clear ne"; l_bnd)); (case zp3 => decide)))
local macro_rules | `(tactic| walk_at "call type:range") => `(tactic| ((rename Fr _ _ _ _ => F'); (rename News _ _ _ _ => N'); first
  | (with_unfolding_all refine range1_rows F' N' ?_; intro _ _ _ _ _ _ _ _ _)
  | (with_unfolding_all refine range2_rows F' N' ?_; intro _ _ _ _ _ _ _ _ _)))
local macro_rules | `(tactic| walk_at "binaryOp FloorDiv int int") => `(tactic| (k_here; refine floordiv_int (pow256_ne _) ?_ (Or.inl (py256 (by walk_at "clear ne"; omega)))))
local macro_rules | `(tactic| walk_at "eval IfExp") => `(tactic| refine Hold.out ?_)
local macro_rules | `(tactic| walk_at "subscriptTail") => `(tactic| k_dflt ((show wpAny _ _ (subscriptTail _ (Expr.Slice none _ none _) (Value.bytes _ _) (Value.ref _)) _ _ _); rename Fr _ _ _ _ => F'; rename News _ _ _ _ => N'; rename KBw.bInts _ = _ ++ _ => hbb; (refine' KBc.slice_K (s := ⟨_, _, _, _, _⟩) F' N' hbb (by constructor) (by constructor) ?zsl ?_); (case zsl => (rw [List.length_append, List.length_replicate]; omega)); intro _ _ _ F' N' kbcK))
local macro_rules | `(tactic| kn_enter) => `(tactic| (refine' code_nest ?k1 ?k2 ?k3 ?k4 ?k5 ?kA ?kF ?kK ?k6 ?k7 ?k8 ?k9 ?kB ?_ ?c2 ?c3 ?c4 ?c5; (case kA => exact rfl); (case kF => exact rfl); (case kK => first | exact rfl | assumption); (case k1 => k_asm); (case k2 => k_asm); (case k3 => k_asm); (case k4 => k_asm); (case k5 => k_asm); (case k6 => k_mem); (case k7 => exact codeRec_news (by k_asm) (by k_mem) (by assumption) (by assumption)); (case k8 => ktr_room); (case k9 => exact BindsTo.of_eq rfl); (case c5 => decide); (case kB => exact locs rfl); (case c2 => exact rfl); (case c3 => exact rfl); (case c4 => exact rfl); k_whole; intro g' L' h' FG' F' N' B' X' T'; (try dsimp only); (try k_lift B'); (try k_fold)))
local macro_rules | `(tactic| walk_at "call ref") => `(tactic| refine Hold.out ?_)
local macro_rules | `(tactic| walk_at "compareOp Eq ref ref") => `(tactic| refine Hold.out ?_)
local macro_rules | `(tactic| walk_at "call type:bytes") => `(tactic| refine Hold.out ?_)
def law1.tw3477150639020133394 : Unit := ()
def law1.tw3120620362338151402 : Unit := ()
def law1.tw4890227939681478158 : Unit := ()
def law1.tw12191197132745763042 : Unit := ()
def law1.tw8000687931055382663 : Unit := ()
def law1.tw7523296514099105837 : Unit := ()
def law1.tw6520371986752259347 : Unit := ()
def law1.tw16960902716871439265 : Unit := ()
def law1.tw16536346542256954922 : Unit := ()
def law1.tw13501883993395325215 : Unit := ()
def law1.tw2055633964245340815 : Unit := ()
def law1.tw5892707615568296460 : Unit := ()
def law1.tw11511883091664624584 : Unit := ()
def law1.tw4353341142285491285 : Unit := ()
def law1.tw11992416906813049332 : Unit := ()
def law1.tw781471976764260874 : Unit := ()
def law1.tw7559564563687219981 : Unit := ()
def law1.tw4895874276903044172 : Unit := ()
def law1.tw15473929354968792308 : Unit := ()
def law1.tw1233116296488252300 : Unit := ()
def law1.tw5409059332683154822 : Unit := ()
def law1.tw8107247033155940758 : Unit := ()
def law1.tw6328894281282629542 : Unit := ()
def law1.tw14993429415246267844 : Unit := ()
def law1.tw15517190849925675852 : Unit := ()
def law1.tw4331581354472800824 : Unit := ()
def law1.tw9454523124785234670 : Unit := ()
def law1.tw9684973286482324543 : Unit := ()
def law1.tw3024665437949970945 : Unit := ()
def law1.tw14627441686336490090 : Unit := ()
def law1.tw11904595775140397574 : Unit := ()
def law1.tw15489113951595033392 : Unit := ()
def law1.tw11188337217353781040 : Unit := ()
def law1.tw5110581607101548002 : Unit := ()
def law1.tw13772970855233759438 : Unit := ()
def law1.tw10537874152499203012 : Unit := ()
def law1.tw9469746996215883524 : Unit := ()
def law1.tw4588756248244023171 : Unit := ()
def law1.tw17409160246661122201 : Unit := ()
def law1.tw10297275896522415500 : Unit := ()
def law1.tw11459534814125011783 : Unit := ()
def law1.tw9540885506028747257 : Unit := ()
def law1.tw7372620022585678198 : Unit := ()
def law1.tw67560674543104841 : Unit := ()
def law1.tw15877511904447709947 : Unit := ()
def law1.tw10135372359255278486 : Unit := ()
def law1.tw10265566214582722722 : Unit := ()
def law1.tw7298160708039704312 : Unit := ()
def law1.tw14155862194700631884 : Unit := ()
def law1.tw5107154883046734502 : Unit := ()
def law1.tw16593578323184330815 : Unit := ()
def law1.tw13088052402470712256 : Unit := ()
def law1.tw3564778410344695259 : Unit := ()
def law1.tw13085823723931228216 : Unit := ()
def law1.tw17153371352560597900 : Unit := ()
def law1.tw1461251552766110146 : Unit := ()
def law1.tw15277595768224444305 : Unit := ()
def law1.tw13064955678843618326 : Unit := ()
def law1.tw11922942694729837811 : Unit := ()
def law1.tw1098154972720954084 : Unit := ()
def law1.tw12836018983413197886 : Unit := ()
def law1.tw7885733805536700265 : Unit := ()
def law1.tw8835331757208406401 : Unit := ()
def law1.tw16815908932765450919 : Unit := ()
def law1.tw5903819467611609315 : Unit := ()
def law1.tw7576879296654946392 : Unit := ()
def law1.tw4721038401383611581 : Unit := ()
def law1.tw6400007306610964850 : Unit := ()
def law1.tw12404814867839728240 : Unit := ()
def law1.tw2327348258468173351 : Unit := ()
def law1.tw10658354238514085129 : Unit := ()
def law1.tw3635491124432154220 : Unit := ()
def law1.tw10805841380471340550 : Unit := ()
def law1.tw5196254562079369291 : Unit := ()
def law1.tw15555023332339810936 : Unit := ()
def law1.tw17354299410872269241 : Unit := ()
def law1.tw12706798595789434566 : Unit := ()
def law1.tw2828820706508579776 : Unit := ()
def law1.tw8171165045604165002 : Unit := ()
def law1.tw9494242301506943063 : Unit := ()
def law1.tw30106081212771900 : Unit := ()
def law1.tw13505170558159920336 : Unit := ()
def law1.tw16470383198422120547 : Unit := ()
def law1.tw4684426052691618100 : Unit := ()
def law1.tw3305832305306165263 : Unit := ()
def law1.tw3417023690065837877 : Unit := ()
def law1.tw8008959736794923361 : Unit := ()
def law1.tw13674383566481548175 : Unit := ()
def law1.tw9126420173112000809 : Unit := ()
def law1.tw4419268771897313911 : Unit := ()
def law1.tw9094397412918826935 : Unit := ()
set_option Elab.async true in
set_option maxHeartbeats 8000000 in
theorem law1 : PySem.Challenge.rw_bd0004_01.Holds := by
  w_on
  o_law
  k_head
  (case hw => w_witness2)
  k_go0
  all_goals (try k_fold)
  k_steps
  unfold Hold
  refine join_int (by (with_reducible refine IfExp_ ?_); k_steps; all_goals exact ⟨⟨_, _, _, rfl, rfl⟩⟩) ?_
  intro n0 t0 tk0
  k_steps
  unfold Hold
  rename Fr _ _ _ _ => F0
  rename News _ _ _ _ => N0
  refine join_nums F0 N0 ?zz1 ?zz2
  · (with_reducible refine IfExp_ ?_)
    k_steps
    · rename IntsAre _ (List.take _ _) => hnn
      rename (1 : Int) < _ => hlt
      obtain ⟨ns, hn, hn1, hn60⟩ := num_of hnn hlt
      k_dflt (exact ⟨⟨_, _, _, _, ns, rfl, rfl, by assumption, by assumption, by (simp only [AllLt, and_true]; assumption), hn, hn1, hn60⟩⟩)
    · k_dflt (exact ⟨⟨_, _, _, _, [300], rfl, rfl, by assumption, by assumption, by (simp only [AllLt, and_true]; assumption), .cons _ _ .nil, by decide, by decide⟩⟩)
  intro D vs hh tk1 ns F1 N1 hD hn hn1 hn60
  clear F0 N0
  replace hD := ktn_ltOf hD
  k_lt hD
  k_steps
  all_goals (
    unfold Hold
    rename News _ _ _ _ => N0
    k_dflt (refine' use_says (signs_says _ _ _ ns _ _ hn hn60 ?zD) ?zB ?zF ?zX N0 ?zT ?zk ?zd ?zu ?_)
    (case zB => k_asm); (case zF => k_asm); (case zX => (rename Frag.In _ _ => X9; exact X9)); (case zT => k_asm)
    (case zk => first | exact rfl | assumption)
    (case zd => ktr_room)
    (case zu => (simp only [un_make, units_in1, units_deeper, Around.mark_units, units_caller]; (try dsimp only [ktrTop]); (try simp only [cLine]); omega))
    (case zD => k_mem)
    k_dflt (rintro r9 n9 h9 tk9 F9 N9 ⟨ds, os, kvs, cs, hr9, hds, hdict, hflat, hdsys, hn9, hSg⟩; subst hr9; subst hn9; (try dsimp only))
    replace hds := ktn_ltOf hds
    k_lt hds
    k_steps
    unfold Hold
    rename News _ _ _ _ => N1
    k_dflt (refine' use_says (steps_says _ _ _ os kvs cs _ ns _ _ hn hn60 ?zD ?ze hdict hflat hdsys hSg) ?zB ?zF ?zX N1 ?zT ?zk ?zd ?zu ?_)
    (case zB => k_asm); (case zF => k_asm); (case zX => (rename Frag.In _ _ => X9; exact X9)); (case zT => k_asm)
    (case zk => first | exact rfl | assumption)
    (case zd => ktr_room)
    (case zu => (simp only [un_make, units_in1, units_deeper, Around.mark_units, units_caller]; (try dsimp only [ktrTop]); (try simp only [cLine]); omega))
    (case zD => k_mem); (case ze => k_mem)
    k_dflt (rintro r9 n9 h9 tk9 F9 N9 ⟨dr, vr, st, tl, hr9, hn9, hdr, hda, htl, hfw, hok, hst⟩; subst hr9; subst hn9; (try dsimp only))
    simp only [List.cons_append, List.nil_append] at N9 hdr hda
    replace hdr := ktn_ltOf hdr
    k_lt hdr
    k_steps
    unfold Hold
    rename News _ _ _ _ => N1
    k_dflt (refine' use_says (stream_says _ _ _ _ _ ns st.reverse _ _ _ _ _ _ hn hn60 ?zS ?zD ?ze hda ?zs hok) ?zB ?zF ?zX N1 ?zT ?zk ?zd ?zu ?_)
    (case zB => k_asm); (case zF => k_asm); (case zX => (rename Frag.In _ _ => X9; exact X9)); (case zT => k_asm)
    (case zk => first | exact rfl | assumption)
    (case zd => ktr_room)
    (case zu => (simp only [un_make, units_in1, units_deeper, Around.mark_units, units_caller]; (try dsimp only [ktrTop]); (try simp only [cLine]); omega))
    (case zS => rw [List.length_reverse]; exact hst)
    (case zD => k_mem); (case ze => k_mem); (case zs => exact fun p hp => .tail _ hp)
    k_dflt (rintro r9 n9 h9 tk9 F9 N9 ⟨ks, tks, hr9, hn9, hST⟩; subst hr9; subst hn9; (try dsimp only))
    have hstrm : KBw.bInts (byteArr ks) = ks := KBa.ints_make hST.inn
    generalize byteArr ks = strm at hstrm N9 ⊢
    k_steps
    unfold Hold
    rename News _ _ _ _ => NE
    rename IntsAre _ (List.map _ (rangeKs _ _)) => hI9
    refine KBa.make_K (by assumption) NE rfl ⟨_, (NE _ (.head _)).1, rfl, _, rfl⟩ hI9 (by intro n hn; obtain ⟨k, _, rfl⟩ := List.mem_map.mp hn; exact ⟨fm0 _, fm1 _⟩) (by rw [List.length_map, rangeKs_length]; omega) ?_
    intro h9 t9 k9 F9 N9 _
    generalize byteArr _ = sb at N9 ⊢
    k_steps
    unfold Hold
    rename News _ _ _ _ => NE
    rename Frag.In _ _ => XE
    have hkl : ks.length ≤ 248 := by
      have h1 := hST.len
      rw [List.length_reverse] at h1
      omega
    refine' have_asked sb ks XE NE (.head _) (.tail _ (.head _)) ?za1 ?za2 ?za3 ?za4
    (case za1 => k_mem); (case za2 => k_mem)
    (case za3 =>
      intro news k n ts tn hk hn
      unfold Says
      intro p loose mean mg9 mb dp un gd cn cs9 a9 ccd cl outer A₀ base h₀ L m s9 Q E B F X N T hkk hdp hun hret
      subst hk
      k_dflt (refine wpAny_call ?_; kn_enter)
      k_steps
      unfold Hold
      (with_reducible refine IfExp_ ?_)
      k_steps
      · unfold Hold
        refine call_bytes_int (by omega) (by omega) ?_
        intro bz tz cz hz9
        rw [Int.toNat_natCast] at hz9
        k_steps
        refine KBa.add_K hstrm hz9 (by rw [List.length_replicate]; omega) ?_
        intro t8 k8 hadd
        k_steps
        rename Fr h₀ L _ m => fE
        rename News h₀ L _ _ => nE
        rename KBw.bInts _ = List.take _ _ => kc
        exact hret _ _ _ _ fE nE ⟨_, _, rfl, cut_pre rfl kc, rfl⟩
      · exfalso
        first
          | exact absurd (beq_self_eq_true sb.toList) (by assumption)
          | (rename (_ == _) = false => hbf; rw [beq_self_eq_true] at hbf; exact Bool.noConfusion hbf))
    intro hAsk
    k_dflt (refine' use_says (ring_says _ _ _ _) ?zB ?zF ?zX NE ?zT ?zk ?zd ?zu ?_)
    (case zB => k_asm); (case zF => k_asm); (case zX => (rename Frag.In _ _ => X9; exact X9)); (case zT => k_asm)
    (case zk => first | exact rfl | assumption)
    (case zd => ktr_room)
    (case zu => (simp only [un_make, units_in1, units_deeper, Around.mark_units, units_caller]; (try dsimp only [ktrTop]); (try simp only [cLine]); omega))
    k_dflt (rintro r9 n9 h9 tk9 F9 N9 ⟨x, dx, s1, d1, s2, d2, z, t1, t2, t3, t4, t5, t6, t7, u1, u2, u3, u4, u5, u6, u7, v1, v2, v3, v4, v5, v6, v7, v8, v9, hr9, hn9, hL1, hL2, hL3, hL4, hL5, hL6⟩; subst hr9; subst hn9; (try dsimp only))
    replace hL6 := ktn_ltOf hL6
    have hL7 := hL6
    k_lt hL6
    have hxd : @LT.lt Nat _ x d2 := Nat.lt_trans hL4 (Nat.lt_trans hL3 hL2)
    have hdd : @LT.lt Nat _ dx d2 := Nat.lt_trans hL5 hxd
    k_steps
    unfold Hold
    rename News _ _ _ _ => NE
    obtain ⟨g, os8, hks, hg0, hg1, hsg, hfeed⟩ := stream_feed hST hok (by rw [List.length_reverse]; omega)
    k_dflt (refine' use_saysC (ball_says _ x dx s1 d2 s2 z _ v1 v2 v3 v4 v5 v6 v7 v8 v9 t1 t2 t3 t4 t5 t6 t7 _ _ _ (apart [d2, 306] _) sb ks os8 g ns.length st.reverse hAsk ?zg (apart_off _ _) hL1 hxd hL5 ?z306 hn60 ?zst hks hg0 hg1 hsg hfeed) ?zB ?zF ?zX (ball_news NE ?zm1 ?zm2 ?zm3 ?zm4 ?zm5) ?zT ?zC ?zk ?zd ?zu ?_)
    (case zB => k_asm); (case zF => k_asm); (case zX => (rename Frag.In _ _ => X9; exact X9)); (case zT => k_asm); (case zC => assumption)
    (case zk => first | exact rfl | assumption)
    (case zd => ktr_room)
    (case zu => (simp only [un_make, units_in1, units_deeper, Around.mark_units, units_caller]; (try dsimp only [ktrTop]); (try simp only [cLine]); omega))
    (case zm1 => k_mem); (case zm2 => k_mem); (case zm3 => k_mem); (case zm4 => k_mem); (case zm5 => k_mem)
    (case z306 => exact hL7 (306, _) (by k_mem))
    (case zst => rw [List.length_reverse]; exact hst)
    (case zg =>
      intro p hp
      simp only [List.mem_cons, List.not_mem_nil, or_false] at hp
      rcases hp with hp | hp | hp | hp
      all_goals (rw [hp]; refine apart_mem2 (by k_mem) (Nat.ne_of_lt (Nat.lt_trans (hL7 (_, _) (by k_mem)) hdd)) ?_)
      all_goals ((repeat (rename _ ∧ _ => hcj; obtain ⟨_, _⟩ := hcj)); omega))
    k_dflt (rintro r9 n9 h9 tk9 F9 N9 ⟨p9, d9, lo9, t91, t92, vo9, co9, no9, ps9, hr9, hn9, hco, hcl, hval⟩; subst hr9; subst hn9; (try dsimp only))
    have hds2 : @LT.lt Nat _ ds d2 := Nat.lt_trans (hL7 (ds, os) (by k_mem)) hdd
    have h6202 : @LT.lt Nat _ 620 d2 := Nat.lt_trans (hL7 (620, _) (by k_mem)) hdd
    have hds3 : @Ne Nat ds 306 := by ((repeat (rename _ ∧ _ => hcj; obtain ⟨_, _⟩ := hcj)); omega)
    rename _ = Data.cell (some (Value.ref ds)) => hcs
    have N10 := news_end3 N9 hcs (apart_mem2 (by k_mem) (Nat.ne_of_lt (Nat.lt_trans (hL7 (_, _) (by k_mem)) hdd)) (by (repeat (rename _ ∧ _ => hcj; obtain ⟨_, _⟩ := hcj)); omega)) (apart_mem2 (a := ds) (by k_mem) (Nat.ne_of_lt hds2) hds3) (apart_mem2 (a := 620) (by k_mem) (Nat.ne_of_lt h6202) (by decide))
    clear N9 NE
    k_steps
    unfold Hold
    rename IntsAre _ (List.map _ (rangeKs 0 (256 - 0 : Int).toNat)) => hI8
    k_dflt (refine ke_eq_ints (by is_list) (by is_list) hco hI8 (by ke_room) ?_)
    rw [decide_eq_true (final_eq hcl hval hfw)]
    k_steps)
end Mine
end
theorem PySem.Challenge.cw_bd0004_01_holds : PySem.Challenge.rw_bd0004_01.Holds := by
  exact Mine.law1
