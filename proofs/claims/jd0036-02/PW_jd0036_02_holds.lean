import PyProof.Rows.All
import Wide.All
import OpenK.AllK
import Wide.FinOn
import PySem.Challenge.RW_jd0036_02
set_option Elab.async false
section
open PySem PySem.W PyProof.Rows
set_option maxRecDepth 100000
set_option maxHeartbeats 0
namespace Mine
/-- the program,its names spelled out -/
noncomputable def qpS:{ q:Program // PySem.Challenge.pw_jd0036_02 = q }:=⟨_,by conv=>{ lhs; reduce }⟩
noncomputable def qp:Program:=qpS.1
noncomputable abbrev wsQ:=@PySem.W.Fast.tw9446332074065402090
noncomputable def qlOf (q:Program):OpenLaw:={ PySem.Challenge.rw_jd0036_02 with prog:=q }
theorem rw_of {q:Program} (h:PySem.Challenge.pw_jd0036_02 = q):PySem.Challenge.rw_jd0036_02 = qlOf q:=by subst h; rfl
noncomputable abbrev ql:OpenLaw:=qlOf qp
theorem rw_eq:PySem.Challenge.rw_jd0036_02 = ql:=rw_of qpS.2
theorem said_t:wsQ ql = true:=by kernel_rfl
theorem said_q:ql.wellSaid = true:=(congrFun PySem.W.Fast.te9446332074065402090 ql).trans said_t
theorem said_r:ql.row.wellSaid = true:=row_said said_q
theorem law_of_row (h:ql.row.Holds):PySem.Challenge.rw_jd0036_02.Holds:=by
  rw [rw_eq]
  w_on
  exact holds_law said_q fun _=>h
end Mine
namespace Mine
noncomputable section
noncomputable def zp:Pos:=⟨0,0,0,0⟩
noncomputable def mbody:List Stmt:=behindTheImports qp
noncomputable def menv:Env:={ scope:=qp.main.scope,locals:=mainNs,globals:=mainNs,cells:=[],code:=.ref 13,frame:=some 14 }
noncomputable def mcode:Code:=.body mbody menv
noncomputable abbrev tbQ:=PySem.W.Fast.tw14364793385576792824
noncomputable abbrev denQ:=@PySem.W.Fast.tw11892475500146522536
noncomputable abbrev topGoQ:=@PySem.W.Fast.tw15667345088766844465
noncomputable abbrev segRunTQ:=@PySem.W.Fast.tw10110043849684766642
noncomputable abbrev S0 (w:World) (os:OsState):Shared:=⟨boot_heap w.params,#[],boot_drawn,boot_toks,os⟩
noncomputable abbrev preR (w:World) (os:OsState):Option (Shared × Thread):=topGoQ tbQ qp w 11 (some (.ref 6)) 12 (S0 w os) (topStub qp)
noncomputable def Sa (w:World) (os:OsState):Shared:=match preR w os with | some (s,_)=>s | none=>⟨{},#[],{},0,os⟩
theorem pre_q (w:World) (os:OsState):preR w os = some (Sa w os,⟨denQ tbQ mcode,mcode,zp,[topFrame zp]⟩):=by
  kernel_rfl
theorem size_q (w:World) (os:OsState):(Sa w os).heap.objs.size = 15:=by kernel_rfl
theorem rest_q (w:World) (os:OsState):((Sa w os).gens,(Sa w os).drawn,(Sa w os).toks,(Sa w os).os,(Sa w os).heap.life) = (#[],boot_drawn,187,os,{}):=by kernel_rfl
end
end Mine
namespace Mine
noncomputable section
noncomputable def toBT:List Obj → Nat → BT → BT
  | [],_,t=>t
  | o :: r,i,t=>toBT r (i + 1) (t.ins i o)
noncomputable def SB (w:World) (os:OsState):SharedT:=⟨toBT (Sa w os).heap.objs.toList 0 .nil,15,{},#[],boot_drawn,187,os⟩
theorem SB_abs (w:World) (os:OsState):(SB w os).abs = Sa w os:=by kernel_rfl
noncomputable abbrev execsQ:=@PySem.W.Fast.tw12563942051412417395
noncomputable abbrev mainR (w:World) (os:OsState):Option (Flow × SharedT × Code × Pos):=
  segRunTQ tbQ qp w 11 (some (.ref 6)) 1 8040 (SB w os) ⟨(execsQ mbody menv).wrap doneF deadEnd id id,mcode,zp,[topFrame zp]⟩
end
end Mine
end
section
open PySem PySem.W PyProof.Rows
set_option maxRecDepth 100000
set_option maxHeartbeats 0
set_option linter.unusedVariables false
namespace Mine
noncomputable section
noncomputable def topS (i:Nat):Stmt:=match qp.main.body[i]? with | some s=>s | none=>.Pass zp
noncomputable def clsS (i j:Nat):Stmt:=match topS i with
  | .ClassDef _ _ _ b _ _ _ _ _ _ _=>(match b[j]? with | some s=>s | none=>.Pass zp)
  | _=>.Pass zp
noncomputable def fnO (d:Stmt) (name qual:Str) (dV pm cd:Value):Obj:=match d with
  | .FunctionDef _ args body _ _ _ scope _ _ _=>{ cls:=.type "function",data:=.func { name,qualname:=qual,params:=args,body:=.stmts body,scope,globals:=3,closure:=[],defaults:=dV,kwdefaults:=.none,doc:=.none,pyModule:=pm,annotations:=none,code:=cd,closureTuple:=.none,builtins:=0 } }
  | _=>default
noncomputable abbrev e (P:Params) (x:Str) (t:Nat) (v:Value):DictEntry:=⟨PyData.keyHash P x,.str x t,v⟩
noncomputable def x0:Str:=⟨⟨[116,121,112,101,46,95,95,115,117,98,99,108,97,115,115,101,115,95,95,46,69,120,99,101,112,116,105,111,110,46,48]⟩⟩
noncomputable def x1:Str:=⟨⟨[116,121,112,101,46,95,95,115,117,98,99,108,97,115,115,101,115,95,95,46,69,120,99,101,112,116,105,111,110,46,110]⟩⟩
noncomputable def x2:Str:=⟨⟨[116,121,112,101,46,95,95,115,117,98,99,108,97,115,115,101,115,95,95,46,69,120,99,101,112,116,105,111,110,46,49]⟩⟩
noncomputable def x3:Str:=⟨⟨[116,121,112,101,46,95,95,115,117,98,99,108,97,115,115,101,115,95,95,46,69,120,99,101,112,116,105,111,110,46,50]⟩⟩
noncomputable def x4:Str:=⟨⟨[95,95,110,97,109,101,95,95]⟩⟩
noncomputable def x5:Str:=⟨⟨[108,97,119,95,106,100,48,48,51,54,95,48,50]⟩⟩
noncomputable def x6:Str:=⟨⟨[95,95,100,111,99,95,95]⟩⟩
noncomputable def x7:Str:=⟨⟨[95,95,112,97,99,107,97,103,101,95,95]⟩⟩
noncomputable def x8:Str:=⟨⟨[95,95,108,111,97,100,101,114,95,95]⟩⟩
noncomputable def x9:Str:=⟨⟨[95,95,115,112,101,99,95,95]⟩⟩
noncomputable def x10:Str:=⟨⟨[95,95,97,110,110,111,116,97,116,105,111,110,115,95,95]⟩⟩
noncomputable def x11:Str:=⟨⟨[95,95,98,117,105,108,116,105,110,115,95,95]⟩⟩
noncomputable def x12:Str:=⟨⟨[95,95,102,105,108,101,95,95]⟩⟩
noncomputable def x13:Str:=⟨⟨[47,99,108,97,105,109,47,99,117,116,46,112,121]⟩⟩
noncomputable def cdO (a b:Str) (t:Nat) (l n:Int) (r:Nat) (u:Int) (v:Nat):Obj:=⟨.type "code",none,.fields ⟨[.str a t,.str b (t + 1),.str x13 (t + 2),.int l 0,.int n 0,.int 0 0,.int 0 0,.int 3 0,.ref r,.bool true,.int 181 0,.ref (r + 1),.none,.ref (r + 2),.ref (r + 3),.ref (r + 4),.int u 0,.int l 0,.str x13 v]⟩,#[]⟩
noncomputable def x14:Str:=⟨⟨[95,95,99,97,99,104,101,100,95,95]⟩⟩
noncomputable def x15:Str:=⟨⟨[95,119,97,108,108]⟩⟩
noncomputable def x16:Str:=⟨⟨[84,114,97,110,115,112,111,114,116]⟩⟩
noncomputable def x17:Str:=⟨⟨[70,65,73,76,95,82,69,65,83,79,78]⟩⟩
noncomputable def x18:Str:=⟨⟨[83,69,82,73,65,76,73,90,69,82,95,83,84,65,84,69]⟩⟩
noncomputable def x19:Str:=⟨⟨[83,121,110,99,79,98,106,67,111,110,102]⟩⟩
noncomputable def x20:Str:=⟨⟨[74,111,117,114,110,97,108]⟩⟩
noncomputable def x21:Str:=⟨⟨[77,101,109,111,114,121,74,111,117,114,110,97,108]⟩⟩
noncomputable def x22:Str:=⟨⟨[71,105,118,101,110]⟩⟩
noncomputable def x23:Str:=⟨⟨[70,117,108,108]⟩⟩
noncomputable def x24:Str:=⟨⟨[69,109,112,116,121]⟩⟩
noncomputable def x25:Str:=⟨⟨[70,97,115,116,81,117,101,117,101]⟩⟩
noncomputable def x26:Str:=⟨⟨[83,101,114,105,97,108,105,122,101,114]⟩⟩
noncomputable def x27:Str:=⟨⟨[95,82,65,70,84,95,83,84,65,84,69]⟩⟩
noncomputable def x28:Str:=⟨⟨[95,67,79,77,77,65,78,68,95,84,89,80,69]⟩⟩
noncomputable def x29:Str:=⟨⟨[83,121,110,99,79,98,106,69,120,99,101,112,116,105,111,110]⟩⟩
noncomputable def x30:Str:=⟨⟨[83,121,110,99,79,98,106,69,120,99,101,112,116,105,111,110,87,114,111,110,103,86,101,114]⟩⟩
noncomputable def x31:Str:=⟨⟨[83,121,110,99,79,98,106]⟩⟩
noncomputable def x32:Str:=⟨⟨[95,108,97,119,95,98,111,114,110]⟩⟩
noncomputable def x33:Str:=⟨⟨[95,108,97,119,95,100,105,103,105,116]⟩⟩
noncomputable def x34:Str:=⟨⟨[95,108,97,119,95,118,111,116,101]⟩⟩
noncomputable def x35:Str:=⟨⟨[95,108,97,119,95,101,110,116,114,105,101,115]⟩⟩
noncomputable def x36:Str:=⟨⟨[108,97,119]⟩⟩
noncomputable def x37:Str:=⟨⟨[95,95,109,97,105,110,95,95]⟩⟩
noncomputable def x38:Str:=⟨⟨[95,95,105,110,105,116,95,95]⟩⟩
noncomputable def x39:Str:=⟨⟨[84,114,97,110,115,112,111,114,116,46,95,95,105,110,105,116,95,95]⟩⟩
noncomputable def x40:Str:=⟨⟨[112,121,115,121,110,99,111,98,106,46,116,114,97,110,115,112,111,114,116]⟩⟩
noncomputable def x41:Str:=⟨⟨[95,111,110,77,101,115,115,97,103,101,82,101,99,101,105,118,101,100]⟩⟩
noncomputable def x42:Str:=⟨⟨[84,114,97,110,115,112,111,114,116,46,95,111,110,77,101,115,115,97,103,101,82,101,99,101,105,118,101,100]⟩⟩
noncomputable def x43:Str:=⟨⟨[95,111,110,78,111,100,101,67,111,110,110,101,99,116,101,100]⟩⟩
noncomputable def x44:Str:=⟨⟨[84,114,97,110,115,112,111,114,116,46,95,111,110,78,111,100,101,67,111,110,110,101,99,116,101,100]⟩⟩
noncomputable def x45:Str:=⟨⟨[95,111,110,78,111,100,101,68,105,115,99,111,110,110,101,99,116,101,100]⟩⟩
noncomputable def x46:Str:=⟨⟨[84,114,97,110,115,112,111,114,116,46,95,111,110,78,111,100,101,68,105,115,99,111,110,110,101,99,116,101,100]⟩⟩
noncomputable def x47:Str:=⟨⟨[95,111,110,82,101,97,100,111,110,108,121,78,111,100,101,67,111,110,110,101,99,116,101,100]⟩⟩
noncomputable def x48:Str:=⟨⟨[84,114,97,110,115,112,111,114,116,46,95,111,110,82,101,97,100,111,110,108,121,78,111,100,101,67,111,110,110,101,99,116,101,100]⟩⟩
noncomputable def x49:Str:=⟨⟨[95,111,110,82,101,97,100,111,110,108,121,78,111,100,101,68,105,115,99,111,110,110,101,99,116,101,100]⟩⟩
noncomputable def x50:Str:=⟨⟨[84,114,97,110,115,112,111,114,116,46,95,111,110,82,101,97,100,111,110,108,121,78,111,100,101,68,105,115,99,111,110,110,101,99,116,101,100]⟩⟩
noncomputable def x51:Str:=⟨⟨[116,114,121,71,101,116,82,101,97,100,121]⟩⟩
noncomputable def x52:Str:=⟨⟨[84,114,97,110,115,112,111,114,116,46,116,114,121,71,101,116,82,101,97,100,121]⟩⟩
noncomputable def x53:Str:=⟨⟨[114,101,97,100,121]⟩⟩
noncomputable def x54:Str:=⟨⟨[84,114,97,110,115,112,111,114,116,46,114,101,97,100,121]⟩⟩
noncomputable def x55:Str:=⟨⟨[119,97,105,116,82,101,97,100,121]⟩⟩
noncomputable def x56:Str:=⟨⟨[84,114,97,110,115,112,111,114,116,46,119,97,105,116,82,101,97,100,121]⟩⟩
noncomputable def x57:Str:=⟨⟨[97,100,100,78,111,100,101]⟩⟩
noncomputable def x58:Str:=⟨⟨[84,114,97,110,115,112,111,114,116,46,97,100,100,78,111,100,101]⟩⟩
noncomputable def x59:Str:=⟨⟨[100,114,111,112,78,111,100,101]⟩⟩
noncomputable def x60:Str:=⟨⟨[84,114,97,110,115,112,111,114,116,46,100,114,111,112,78,111,100,101]⟩⟩
noncomputable def x61:Str:=⟨⟨[115,101,110,100]⟩⟩
noncomputable def x62:Str:=⟨⟨[84,114,97,110,115,112,111,114,116,46,115,101,110,100]⟩⟩
noncomputable def x63:Str:=⟨⟨[100,101,115,116,114,111,121]⟩⟩
noncomputable def x64:Str:=⟨⟨[84,114,97,110,115,112,111,114,116,46,100,101,115,116,114,111,121]⟩⟩
noncomputable def x65:Str:=⟨⟨[95,95,109,111,100,117,108,101,95,95]⟩⟩
noncomputable def x66:Str:=⟨⟨[95,95,102,105,114,115,116,108,105,110,101,110,111,95,95]⟩⟩
noncomputable def x67:Str:=⟨⟨[95,95,115,116,97,116,105,99,95,97,116,116,114,105,98,117,116,101,115,95,95]⟩⟩
noncomputable def x68:Str:=⟨⟨[95,95,100,105,99,116,95,95]⟩⟩
noncomputable def x69:Str:=⟨⟨[95,95,119,101,97,107,114,101,102,95,95]⟩⟩
noncomputable def x70:Str:=⟨⟨[112,121,115,121,110,99,111,98,106,46,99,111,110,102,105,103]⟩⟩
noncomputable def x71:Str:=⟨⟨[83,85,67,67,69,83,83]⟩⟩
noncomputable def x72:Str:=⟨⟨[81,85,69,85,69,95,70,85,76,76]⟩⟩
noncomputable def x73:Str:=⟨⟨[77,73,83,83,73,78,71,95,76,69,65,68,69,82]⟩⟩
noncomputable def x74:Str:=⟨⟨[68,73,83,67,65,82,68,69,68]⟩⟩
noncomputable def x75:Str:=⟨⟨[78,79,84,95,76,69,65,68,69,82]⟩⟩
noncomputable def x76:Str:=⟨⟨[76,69,65,68,69,82,95,67,72,65,78,71,69,68]⟩⟩
noncomputable def x77:Str:=⟨⟨[82,69,81,85,69,83,84,95,68,69,78,73,69,68]⟩⟩
noncomputable def x78:Str:=⟨⟨[85,78,75,78,79,87,78,95,79,85,84,67,79,77,69]⟩⟩
noncomputable def x79:Str:=⟨⟨[78,79,84,95,83,69,82,73,65,76,73,90,73,78,71]⟩⟩
noncomputable def x80:Str:=⟨⟨[83,69,82,73,65,76,73,90,73,78,71]⟩⟩
noncomputable def x81:Str:=⟨⟨[70,65,73,76,69,68]⟩⟩
noncomputable def x82:Str:=⟨⟨[83,121,110,99,79,98,106,67,111,110,102,46,95,95,105,110,105,116,95,95]⟩⟩
noncomputable def x83:Str:=⟨⟨[118,97,108,105,100,97,116,101]⟩⟩
noncomputable def x84:Str:=⟨⟨[83,121,110,99,79,98,106,67,111,110,102,46,118,97,108,105,100,97,116,101]⟩⟩
noncomputable def x85:Str:=⟨⟨[97,100,100]⟩⟩
noncomputable def x86:Str:=⟨⟨[74,111,117,114,110,97,108,46,97,100,100]⟩⟩
noncomputable def x87:Str:=⟨⟨[112,121,115,121,110,99,111,98,106,46,106,111,117,114,110,97,108]⟩⟩
noncomputable def x88:Str:=⟨⟨[99,108,101,97,114]⟩⟩
noncomputable def x89:Str:=⟨⟨[74,111,117,114,110,97,108,46,99,108,101,97,114]⟩⟩
noncomputable def x90:Str:=⟨⟨[100,101,108,101,116,101,69,110,116,114,105,101,115,70,114,111,109]⟩⟩
noncomputable def x91:Str:=⟨⟨[74,111,117,114,110,97,108,46,100,101,108,101,116,101,69,110,116,114,105,101,115,70,114,111,109]⟩⟩
noncomputable def x92:Str:=⟨⟨[100,101,108,101,116,101,69,110,116,114,105,101,115,84,111]⟩⟩
noncomputable def x93:Str:=⟨⟨[74,111,117,114,110,97,108,46,100,101,108,101,116,101,69,110,116,114,105,101,115,84,111]⟩⟩
noncomputable def x94:Str:=⟨⟨[95,95,103,101,116,105,116,101,109,95,95]⟩⟩
noncomputable def x95:Str:=⟨⟨[74,111,117,114,110,97,108,46,95,95,103,101,116,105,116,101,109,95,95]⟩⟩
noncomputable def x96:Str:=⟨⟨[112,97,114,116]⟩⟩
noncomputable def x97:Str:=⟨⟨[74,111,117,114,110,97,108,46,112,97,114,116]⟩⟩
noncomputable def x98:Str:=⟨⟨[95,95,108,101,110,95,95]⟩⟩
noncomputable def x99:Str:=⟨⟨[74,111,117,114,110,97,108,46,95,95,108,101,110,95,95]⟩⟩
noncomputable def x100:Str:=⟨⟨[95,100,101,115,116,114,111,121]⟩⟩
noncomputable def x101:Str:=⟨⟨[74,111,117,114,110,97,108,46,95,100,101,115,116,114,111,121]⟩⟩
noncomputable def x102:Str:=⟨⟨[115,101,116,82,97,102,116,67,111,109,109,105,116,73,110,100,101,120]⟩⟩
noncomputable def x103:Str:=⟨⟨[74,111,117,114,110,97,108,46,115,101,116,82,97,102,116,67,111,109,109,105,116,73,110,100,101,120]⟩⟩
noncomputable def x104:Str:=⟨⟨[103,101,116,82,97,102,116,67,111,109,109,105,116,73,110,100,101,120]⟩⟩
noncomputable def x105:Str:=⟨⟨[74,111,117,114,110,97,108,46,103,101,116,82,97,102,116,67,111,109,109,105,116,73,110,100,101,120]⟩⟩
noncomputable def x106:Str:=⟨⟨[115,101,116,67,117,114,114,101,110,116,84,101,114,109]⟩⟩
noncomputable def x107:Str:=⟨⟨[74,111,117,114,110,97,108,46,115,101,116,67,117,114,114,101,110,116,84,101,114,109]⟩⟩
noncomputable def x108:Str:=⟨⟨[103,101,116,67,117,114,114,101,110,116,84,101,114,109]⟩⟩
noncomputable def x109:Str:=⟨⟨[74,111,117,114,110,97,108,46,103,101,116,67,117,114,114,101,110,116,84,101,114,109]⟩⟩
noncomputable def x110:Str:=⟨⟨[103,101,116,86,111,116,101,100,70,111,114,78,111,100,101,73,100]⟩⟩
noncomputable def x111:Str:=⟨⟨[74,111,117,114,110,97,108,46,103,101,116,86,111,116,101,100,70,111,114,78,111,100,101,73,100]⟩⟩
noncomputable def x112:Str:=⟨⟨[111,110,79,110,101,83,101,99,111,110,100,84,105,109,101,114]⟩⟩
noncomputable def x113:Str:=⟨⟨[74,111,117,114,110,97,108,46,111,110,79,110,101,83,101,99,111,110,100,84,105,109,101,114]⟩⟩
noncomputable def x114:Str:=⟨⟨[77,101,109,111,114,121,74,111,117,114,110,97,108,46,95,95,105,110,105,116,95,95]⟩⟩
noncomputable def x115:Str:=⟨⟨[77,101,109,111,114,121,74,111,117,114,110,97,108,46,97,100,100]⟩⟩
noncomputable def x116:Str:=⟨⟨[77,101,109,111,114,121,74,111,117,114,110,97,108,46,99,108,101,97,114]⟩⟩
noncomputable def x117:Str:=⟨⟨[77,101,109,111,114,121,74,111,117,114,110,97,108,46,100,101,108,101,116,101,69,110,116,114,105,101,115,70,114,111,109]⟩⟩
noncomputable def x118:Str:=⟨⟨[77,101,109,111,114,121,74,111,117,114,110,97,108,46,100,101,108,101,116,101,69,110,116,114,105,101,115,84,111]⟩⟩
noncomputable def x119:Str:=⟨⟨[77,101,109,111,114,121,74,111,117,114,110,97,108,46,95,95,103,101,116,105,116,101,109,95,95]⟩⟩
noncomputable def x120:Str:=⟨⟨[77,101,109,111,114,121,74,111,117,114,110,97,108,46,112,97,114,116]⟩⟩
noncomputable def x121:Str:=⟨⟨[77,101,109,111,114,121,74,111,117,114,110,97,108,46,95,95,108,101,110,95,95]⟩⟩
noncomputable def x122:Str:=⟨⟨[77,101,109,111,114,121,74,111,117,114,110,97,108,46,95,100,101,115,116,114,111,121]⟩⟩
noncomputable def x123:Str:=⟨⟨[77,101,109,111,114,121,74,111,117,114,110,97,108,46,115,101,116,82,97,102,116,67,111,109,109,105,116,73,110,100,101,120]⟩⟩
noncomputable def x124:Str:=⟨⟨[77,101,109,111,114,121,74,111,117,114,110,97,108,46,103,101,116,82,97,102,116,67,111,109,109,105,116,73,110,100,101,120]⟩⟩
noncomputable def x125:Str:=⟨⟨[77,101,109,111,114,121,74,111,117,114,110,97,108,46,115,101,116,67,117,114,114,101,110,116,84,101,114,109]⟩⟩
noncomputable def x126:Str:=⟨⟨[77,101,109,111,114,121,74,111,117,114,110,97,108,46,103,101,116,67,117,114,114,101,110,116,84,101,114,109]⟩⟩
noncomputable def x127:Str:=⟨⟨[77,101,109,111,114,121,74,111,117,114,110,97,108,46,103,101,116,86,111,116,101,100,70,111,114,78,111,100,101,73,100]⟩⟩
noncomputable def x128:Str:=⟨⟨[71,105,118,101,110,46,95,95,105,110,105,116,95,95]⟩⟩
noncomputable def x129:Str:=⟨⟨[112,121,115,121,110,99,111,98,106,46,109,111,110,111,116,111,110,105,99]⟩⟩
noncomputable def x130:Str:=⟨⟨[99,108,111,99,107]⟩⟩
noncomputable def x131:Str:=⟨⟨[71,105,118,101,110,46,99,108,111,99,107]⟩⟩
noncomputable def x132:Str:=⟨⟨[100,114,97,119]⟩⟩
noncomputable def x133:Str:=⟨⟨[71,105,118,101,110,46,100,114,97,119]⟩⟩
noncomputable def x134:Str:=⟨⟨[97,112,112,108,121]⟩⟩
noncomputable def x135:Str:=⟨⟨[71,105,118,101,110,46,97,112,112,108,121]⟩⟩
noncomputable def x136:Str:=⟨⟨[116,101,108,108]⟩⟩
noncomputable def x137:Str:=⟨⟨[71,105,118,101,110,46,116,101,108,108]⟩⟩
noncomputable def x138:Str:=⟨⟨[100,117,109,112]⟩⟩
noncomputable def x139:Str:=⟨⟨[71,105,118,101,110,46,100,117,109,112]⟩⟩
noncomputable def x140:Str:=⟨⟨[108,111,97,100]⟩⟩
noncomputable def x141:Str:=⟨⟨[71,105,118,101,110,46,108,111,97,100]⟩⟩
noncomputable def x142:Str:=⟨⟨[100,117,109,112,115]⟩⟩
noncomputable def x143:Str:=⟨⟨[71,105,118,101,110,46,100,117,109,112,115]⟩⟩
noncomputable def x144:Str:=⟨⟨[108,111,97,100,115]⟩⟩
noncomputable def x145:Str:=⟨⟨[71,105,118,101,110,46,108,111,97,100,115]⟩⟩
noncomputable def x146:Str:=⟨⟨[112,121,115,121,110,99,111,98,106,46,102,97,115,116,95,113,117,101,117,101]⟩⟩
noncomputable def x147:Str:=⟨⟨[70,97,115,116,81,117,101,117,101,46,95,95,105,110,105,116,95,95]⟩⟩
noncomputable def x148:Str:=⟨⟨[112,117,116,95,110,111,119,97,105,116]⟩⟩
noncomputable def x149:Str:=⟨⟨[70,97,115,116,81,117,101,117,101,46,112,117,116,95,110,111,119,97,105,116]⟩⟩
noncomputable def x150:Str:=⟨⟨[103,101,116,95,110,111,119,97,105,116]⟩⟩
noncomputable def x151:Str:=⟨⟨[70,97,115,116,81,117,101,117,101,46,103,101,116,95,110,111,119,97,105,116]⟩⟩
noncomputable def x152:Str:=⟨⟨[83,101,114,105,97,108,105,122,101,114,46,95,95,105,110,105,116,95,95]⟩⟩
noncomputable def x153:Str:=⟨⟨[112,121,115,121,110,99,111,98,106,46,115,101,114,105,97,108,105,122,101,114]⟩⟩
noncomputable def x154:Str:=⟨⟨[99,104,101,99,107,83,101,114,105,97,108,105,122,105,110,103]⟩⟩
noncomputable def x155:Str:=⟨⟨[83,101,114,105,97,108,105,122,101,114,46,99,104,101,99,107,83,101,114,105,97,108,105,122,105,110,103]⟩⟩
noncomputable def x156:Str:=⟨⟨[115,101,114,105,97,108,105,122,101]⟩⟩
noncomputable def x157:Str:=⟨⟨[83,101,114,105,97,108,105,122,101,114,46,115,101,114,105,97,108,105,122,101]⟩⟩
noncomputable def x158:Str:=⟨⟨[100,101,115,101,114,105,97,108,105,122,101]⟩⟩
noncomputable def x159:Str:=⟨⟨[83,101,114,105,97,108,105,122,101,114,46,100,101,115,101,114,105,97,108,105,122,101]⟩⟩
noncomputable def x160:Str:=⟨⟨[103,101,116,84,114,97,110,115,109,105,115,115,105,111,110,68,97,116,97]⟩⟩
noncomputable def x161:Str:=⟨⟨[83,101,114,105,97,108,105,122,101,114,46,103,101,116,84,114,97,110,115,109,105,115,115,105,111,110,68,97,116,97]⟩⟩
noncomputable def x162:Str:=⟨⟨[115,101,116,84,114,97,110,115,109,105,115,115,105,111,110,68,97,116,97]⟩⟩
noncomputable def x163:Str:=⟨⟨[83,101,114,105,97,108,105,122,101,114,46,115,101,116,84,114,97,110,115,109,105,115,115,105,111,110,68,97,116,97]⟩⟩
noncomputable def x164:Str:=⟨⟨[99,97,110,99,101,108,84,114,97,110,115,109,105,115,115,116,105,111,110]⟩⟩
noncomputable def x165:Str:=⟨⟨[83,101,114,105,97,108,105,122,101,114,46,99,97,110,99,101,108,84,114,97,110,115,109,105,115,115,116,105,111,110]⟩⟩
noncomputable def x166:Str:=⟨⟨[112,121,115,121,110,99,111,98,106,46,115,121,110,99,111,98,106]⟩⟩
noncomputable def x167:Str:=⟨⟨[70,79,76,76,79,87,69,82]⟩⟩
noncomputable def x168:Str:=⟨⟨[67,65,78,68,73,68,65,84,69]⟩⟩
noncomputable def x169:Str:=⟨⟨[76,69,65,68,69,82]⟩⟩
noncomputable def x170:Str:=⟨⟨[82,69,71,85,76,65,82]⟩⟩
noncomputable def x171:Str:=⟨⟨[78,79,95,79,80]⟩⟩
noncomputable def x172:Str:=⟨⟨[77,69,77,66,69,82,83,72,73,80]⟩⟩
noncomputable def x173:Str:=⟨⟨[86,69,82,83,73,79,78]⟩⟩
noncomputable def x174:Str:=⟨⟨[83,121,110,99,79,98,106,69,120,99,101,112,116,105,111,110,46,95,95,105,110,105,116,95,95]⟩⟩
noncomputable def x175:Str:=⟨⟨[83,121,110,99,79,98,106,69,120,99,101,112,116,105,111,110,87,114,111,110,103,86,101,114,46,95,95,105,110,105,116,95,95]⟩⟩
noncomputable def x176:Str:=⟨⟨[83,121,110,99,79,98,106,46,95,95,105,110,105,116,95,95]⟩⟩
noncomputable def x177:Str:=⟨⟨[103,101,116,67,111,100,101,86,101,114,115,105,111,110]⟩⟩
noncomputable def x178:Str:=⟨⟨[83,121,110,99,79,98,106,46,103,101,116,67,111,100,101,86,101,114,115,105,111,110]⟩⟩
noncomputable def x179:Str:=⟨⟨[115,101,116,67,111,100,101,86,101,114,115,105,111,110]⟩⟩
noncomputable def x180:Str:=⟨⟨[83,121,110,99,79,98,106,46,115,101,116,67,111,100,101,86,101,114,115,105,111,110]⟩⟩
noncomputable def x181:Str:=⟨⟨[97,100,100,78,111,100,101,84,111,67,108,117,115,116,101,114]⟩⟩
noncomputable def x182:Str:=⟨⟨[83,121,110,99,79,98,106,46,97,100,100,78,111,100,101,84,111,67,108,117,115,116,101,114]⟩⟩
noncomputable def x183:Str:=⟨⟨[114,101,109,111,118,101,78,111,100,101,70,114,111,109,67,108,117,115,116,101,114]⟩⟩
noncomputable def x184:Str:=⟨⟨[83,121,110,99,79,98,106,46,114,101,109,111,118,101,78,111,100,101,70,114,111,109,67,108,117,115,116,101,114]⟩⟩
noncomputable def x185:Str:=⟨⟨[116,114,97,110,115,102,101,114,76,101,97,100,101,114,115,104,105,112]⟩⟩
noncomputable def x186:Str:=⟨⟨[83,121,110,99,79,98,106,46,116,114,97,110,115,102,101,114,76,101,97,100,101,114,115,104,105,112]⟩⟩
noncomputable def x187:Str:=⟨⟨[95,97,112,112,108,121,67,111,109,109,97,110,100]⟩⟩
noncomputable def x188:Str:=⟨⟨[83,121,110,99,79,98,106,46,95,97,112,112,108,121,67,111,109,109,97,110,100]⟩⟩
noncomputable def x189:Str:=⟨⟨[95,99,104,101,99,107,67,111,109,109,97,110,100,115,84,111,65,112,112,108,121]⟩⟩
noncomputable def x190:Str:=⟨⟨[83,121,110,99,79,98,106,46,95,99,104,101,99,107,67,111,109,109,97,110,100,115,84,111,65,112,112,108,121]⟩⟩
noncomputable def x191:Str:=⟨⟨[100,111,84,105,99,107]⟩⟩
noncomputable def x192:Str:=⟨⟨[83,121,110,99,79,98,106,46,100,111,84,105,99,107]⟩⟩
noncomputable def x193:Str:=⟨⟨[95,111,110,84,105,99,107]⟩⟩
noncomputable def x194:Str:=⟨⟨[83,121,110,99,79,98,106,46,95,111,110,84,105,99,107]⟩⟩
noncomputable def x195:Str:=⟨⟨[95,83,121,110,99,79,98,106,95,95,97,112,112,108,121,76,111,103,69,110,116,114,105,101,115]⟩⟩
noncomputable def x196:Str:=⟨⟨[83,121,110,99,79,98,106,46,95,83,121,110,99,79,98,106,95,95,97,112,112,108,121,76,111,103,69,110,116,114,105,101,115]⟩⟩
noncomputable def x197:Str:=⟨⟨[105,115,78,111,100,101,67,111,110,110,101,99,116,101,100]⟩⟩
noncomputable def x198:Str:=⟨⟨[83,121,110,99,79,98,106,46,105,115,78,111,100,101,67,111,110,110,101,99,116,101,100]⟩⟩
noncomputable def x199:Str:=⟨⟨[115,101,108,102,78,111,100,101]⟩⟩
noncomputable def x200:Str:=⟨⟨[83,121,110,99,79,98,106,46,115,101,108,102,78,111,100,101]⟩⟩
noncomputable def x201:Str:=⟨⟨[111,116,104,101,114,78,111,100,101,115]⟩⟩
noncomputable def x202:Str:=⟨⟨[83,121,110,99,79,98,106,46,111,116,104,101,114,78,111,100,101,115]⟩⟩
noncomputable def x203:Str:=⟨⟨[114,101,97,100,111,110,108,121,78,111,100,101,115]⟩⟩
noncomputable def x204:Str:=⟨⟨[83,121,110,99,79,98,106,46,114,101,97,100,111,110,108,121,78,111,100,101,115]⟩⟩
noncomputable def x205:Str:=⟨⟨[114,97,102,116,76,97,115,116,65,112,112,108,105,101,100]⟩⟩
noncomputable def x206:Str:=⟨⟨[83,121,110,99,79,98,106,46,114,97,102,116,76,97,115,116,65,112,112,108,105,101,100]⟩⟩
noncomputable def x207:Str:=⟨⟨[114,97,102,116,67,111,109,109,105,116,73,110,100,101,120]⟩⟩
noncomputable def x208:Str:=⟨⟨[83,121,110,99,79,98,106,46,114,97,102,116,67,111,109,109,105,116,73,110,100,101,120]⟩⟩
noncomputable def x209:Str:=⟨⟨[114,97,102,116,67,117,114,114,101,110,116,84,101,114,109]⟩⟩
noncomputable def x210:Str:=⟨⟨[83,121,110,99,79,98,106,46,114,97,102,116,67,117,114,114,101,110,116,84,101,114,109]⟩⟩
noncomputable def x211:Str:=⟨⟨[104,97,115,81,117,111,114,117,109]⟩⟩
noncomputable def x212:Str:=⟨⟨[83,121,110,99,79,98,106,46,104,97,115,81,117,111,114,117,109]⟩⟩
noncomputable def x213:Str:=⟨⟨[103,101,116,83,116,97,116,117,115]⟩⟩
noncomputable def x214:Str:=⟨⟨[83,121,110,99,79,98,106,46,103,101,116,83,116,97,116,117,115]⟩⟩
noncomputable def x215:Str:=⟨⟨[102,111,114,99,101,76,111,103,67,111,109,112,97,99,116,105,111,110]⟩⟩
noncomputable def x216:Str:=⟨⟨[83,121,110,99,79,98,106,46,102,111,114,99,101,76,111,103,67,111,109,112,97,99,116,105,111,110]⟩⟩
noncomputable def x217:Str:=⟨⟨[95,83,121,110,99,79,98,106,95,95,100,111,65,112,112,108,121,67,111,109,109,97,110,100]⟩⟩
noncomputable def x218:Str:=⟨⟨[83,121,110,99,79,98,106,46,95,83,121,110,99,79,98,106,95,95,100,111,65,112,112,108,121,67,111,109,109,97,110,100]⟩⟩
noncomputable def x219:Str:=⟨⟨[95,83,121,110,99,79,98,106,95,95,111,110,77,101,115,115,97,103,101,82,101,99,101,105,118,101,100]⟩⟩
noncomputable def x220:Str:=⟨⟨[83,121,110,99,79,98,106,46,95,83,121,110,99,79,98,106,95,95,111,110,77,101,115,115,97,103,101,82,101,99,101,105,118,101,100]⟩⟩
noncomputable def x221:Str:=⟨⟨[95,83,121,110,99,79,98,106,95,95,99,97,108,108,69,114,114,67,97,108,108,98,97,99,107]⟩⟩
noncomputable def x222:Str:=⟨⟨[83,121,110,99,79,98,106,46,95,83,121,110,99,79,98,106,95,95,99,97,108,108,69,114,114,67,97,108,108,98,97,99,107]⟩⟩
noncomputable def x223:Str:=⟨⟨[95,83,121,110,99,79,98,106,95,95,115,101,110,100,78,101,120,116,78,111,100,101,73,100,120]⟩⟩
noncomputable def x224:Str:=⟨⟨[83,121,110,99,79,98,106,46,95,83,121,110,99,79,98,106,95,95,115,101,110,100,78,101,120,116,78,111,100,101,73,100,120]⟩⟩
noncomputable def x225:Str:=⟨⟨[95,83,121,110,99,79,98,106,95,95,103,101,110,101,114,97,116,101,82,97,102,116,84,105,109,101,111,117,116]⟩⟩
noncomputable def x226:Str:=⟨⟨[83,121,110,99,79,98,106,46,95,83,121,110,99,79,98,106,95,95,103,101,110,101,114,97,116,101,82,97,102,116,84,105,109,101,111,117,116]⟩⟩
noncomputable def x227:Str:=⟨⟨[95,83,121,110,99,79,98,106,95,95,111,110,82,101,97,100,111,110,108,121,78,111,100,101,67,111,110,110,101,99,116,101,100]⟩⟩
noncomputable def x228:Str:=⟨⟨[83,121,110,99,79,98,106,46,95,83,121,110,99,79,98,106,95,95,111,110,82,101,97,100,111,110,108,121,78,111,100,101,67,111,110,110,101,99,116,101,100]⟩⟩
noncomputable def x229:Str:=⟨⟨[95,83,121,110,99,79,98,106,95,95,111,110,82,101,97,100,111,110,108,121,78,111,100,101,68,105,115,99,111,110,110,101,99,116,101,100]⟩⟩
noncomputable def x230:Str:=⟨⟨[83,121,110,99,79,98,106,46,95,83,121,110,99,79,98,106,95,95,111,110,82,101,97,100,111,110,108,121,78,111,100,101,68,105,115,99,111,110,110,101,99,116,101,100]⟩⟩
noncomputable def x231:Str:=⟨⟨[95,83,121,110,99,79,98,106,95,95,111,110,78,111,100,101,67,111,110,110,101,99,116,101,100]⟩⟩
noncomputable def x232:Str:=⟨⟨[83,121,110,99,79,98,106,46,95,83,121,110,99,79,98,106,95,95,111,110,78,111,100,101,67,111,110,110,101,99,116,101,100]⟩⟩
noncomputable def x233:Str:=⟨⟨[95,83,121,110,99,79,98,106,95,95,111,110,78,111,100,101,68,105,115,99,111,110,110,101,99,116,101,100]⟩⟩
noncomputable def x234:Str:=⟨⟨[83,121,110,99,79,98,106,46,95,83,121,110,99,79,98,106,95,95,111,110,78,111,100,101,68,105,115,99,111,110,110,101,99,116,101,100]⟩⟩
noncomputable def x235:Str:=⟨⟨[95,83,121,110,99,79,98,106,95,95,103,101,116,67,117,114,114,101,110,116,76,111,103,73,110,100,101,120]⟩⟩
noncomputable def x236:Str:=⟨⟨[83,121,110,99,79,98,106,46,95,83,121,110,99,79,98,106,95,95,103,101,116,67,117,114,114,101,110,116,76,111,103,73,110,100,101,120]⟩⟩
noncomputable def x237:Str:=⟨⟨[95,83,121,110,99,79,98,106,95,95,103,101,116,67,117,114,114,101,110,116,76,111,103,84,101,114,109]⟩⟩
noncomputable def x238:Str:=⟨⟨[83,121,110,99,79,98,106,46,95,83,121,110,99,79,98,106,95,95,103,101,116,67,117,114,114,101,110,116,76,111,103,84,101,114,109]⟩⟩
noncomputable def x239:Str:=⟨⟨[95,83,121,110,99,79,98,106,95,95,103,101,116,80,114,101,118,76,111,103,73,110,100,101,120,84,101,114,109]⟩⟩
noncomputable def x240:Str:=⟨⟨[83,121,110,99,79,98,106,46,95,83,121,110,99,79,98,106,95,95,103,101,116,80,114,101,118,76,111,103,73,110,100,101,120,84,101,114,109]⟩⟩
noncomputable def x241:Str:=⟨⟨[95,83,121,110,99,79,98,106,95,95,103,101,116,69,110,116,114,105,101,115]⟩⟩
noncomputable def x242:Str:=⟨⟨[83,121,110,99,79,98,106,46,95,83,121,110,99,79,98,106,95,95,103,101,116,69,110,116,114,105,101,115]⟩⟩
noncomputable def x243:Str:=⟨⟨[95,105,115,76,101,97,100,101,114]⟩⟩
noncomputable def x244:Str:=⟨⟨[83,121,110,99,79,98,106,46,95,105,115,76,101,97,100,101,114]⟩⟩
noncomputable def x245:Str:=⟨⟨[95,103,101,116,76,101,97,100,101,114]⟩⟩
noncomputable def x246:Str:=⟨⟨[83,121,110,99,79,98,106,46,95,103,101,116,76,101,97,100,101,114]⟩⟩
noncomputable def x247:Str:=⟨⟨[105,115,82,101,97,100,121]⟩⟩
noncomputable def x248:Str:=⟨⟨[83,121,110,99,79,98,106,46,105,115,82,101,97,100,121]⟩⟩
noncomputable def x249:Str:=⟨⟨[95,103,101,116,84,101,114,109]⟩⟩
noncomputable def x250:Str:=⟨⟨[83,121,110,99,79,98,106,46,95,103,101,116,84,101,114,109]⟩⟩
noncomputable def x251:Str:=⟨⟨[95,103,101,116,82,97,102,116,76,111,103,83,105,122,101]⟩⟩
noncomputable def x252:Str:=⟨⟨[83,121,110,99,79,98,106,46,95,103,101,116,82,97,102,116,76,111,103,83,105,122,101]⟩⟩
noncomputable def x253:Str:=⟨⟨[95,83,121,110,99,79,98,106,95,95,100,101,108,101,116,101,69,110,116,114,105,101,115,70,114,111,109]⟩⟩
noncomputable def x254:Str:=⟨⟨[83,121,110,99,79,98,106,46,95,83,121,110,99,79,98,106,95,95,100,101,108,101,116,101,69,110,116,114,105,101,115,70,114,111,109]⟩⟩
noncomputable def x255:Str:=⟨⟨[95,83,121,110,99,79,98,106,95,95,100,101,108,101,116,101,69,110,116,114,105,101,115,84,111]⟩⟩
noncomputable def x256:Str:=⟨⟨[83,121,110,99,79,98,106,46,95,83,121,110,99,79,98,106,95,95,100,101,108,101,116,101,69,110,116,114,105,101,115,84,111]⟩⟩
noncomputable def x257:Str:=⟨⟨[95,83,121,110,99,79,98,106,95,95,111,110,66,101,99,111,109,101,76,101,97,100,101,114]⟩⟩
noncomputable def x258:Str:=⟨⟨[83,121,110,99,79,98,106,46,95,83,121,110,99,79,98,106,95,95,111,110,66,101,99,111,109,101,76,101,97,100,101,114]⟩⟩
noncomputable def x259:Str:=⟨⟨[95,83,121,110,99,79,98,106,95,95,115,101,116,67,117,114,114,101,110,116,84,101,114,109]⟩⟩
noncomputable def x260:Str:=⟨⟨[83,121,110,99,79,98,106,46,95,83,121,110,99,79,98,106,95,95,115,101,116,67,117,114,114,101,110,116,84,101,114,109]⟩⟩
noncomputable def x261:Str:=⟨⟨[95,83,121,110,99,79,98,106,95,95,115,101,116,83,116,97,116,101]⟩⟩
noncomputable def x262:Str:=⟨⟨[83,121,110,99,79,98,106,46,95,83,121,110,99,79,98,106,95,95,115,101,116,83,116,97,116,101]⟩⟩
noncomputable def x263:Str:=⟨⟨[95,83,121,110,99,79,98,106,95,95,111,110,76,101,97,100,101,114,67,104,97,110,103,101,100]⟩⟩
noncomputable def x264:Str:=⟨⟨[83,121,110,99,79,98,106,46,95,83,121,110,99,79,98,106,95,95,111,110,76,101,97,100,101,114,67,104,97,110,103,101,100]⟩⟩
noncomputable def x265:Str:=⟨⟨[95,83,121,110,99,79,98,106,95,95,115,101,110,100,65,112,112,101,110,100,69,110,116,114,105,101,115]⟩⟩
noncomputable def x266:Str:=⟨⟨[83,121,110,99,79,98,106,46,95,83,121,110,99,79,98,106,95,95,115,101,110,100,65,112,112,101,110,100,69,110,116,114,105,101,115]⟩⟩
noncomputable def x267:Str:=⟨⟨[95,83,121,110,99,79,98,106,95,95,99,111,110,110,101,99,116,101,100,84,111,65,110,121,111,110,101]⟩⟩
noncomputable def x268:Str:=⟨⟨[83,121,110,99,79,98,106,46,95,83,121,110,99,79,98,106,95,95,99,111,110,110,101,99,116,101,100,84,111,65,110,121,111,110,101]⟩⟩
noncomputable def x269:Str:=⟨⟨[95,83,121,110,99,79,98,106,95,95,99,104,97,110,103,101,67,108,117,115,116,101,114]⟩⟩
noncomputable def x270:Str:=⟨⟨[83,121,110,99,79,98,106,46,95,83,121,110,99,79,98,106,95,95,99,104,97,110,103,101,67,108,117,115,116,101,114]⟩⟩
noncomputable def x271:Str:=⟨⟨[95,83,121,110,99,79,98,106,95,95,100,111,67,104,97,110,103,101,67,108,117,115,116,101,114]⟩⟩
noncomputable def x272:Str:=⟨⟨[83,121,110,99,79,98,106,46,95,83,121,110,99,79,98,106,95,95,100,111,67,104,97,110,103,101,67,108,117,115,116,101,114]⟩⟩
noncomputable def x273:Str:=⟨⟨[95,83,121,110,99,79,98,106,95,95,112,97,114,115,101,67,104,97,110,103,101,67,108,117,115,116,101,114,82,101,113,117,101,115,116]⟩⟩
noncomputable def x274:Str:=⟨⟨[83,121,110,99,79,98,106,46,95,83,121,110,99,79,98,106,95,95,112,97,114,115,101,67,104,97,110,103,101,67,108,117,115,116,101,114,82,101,113,117,101,115,116]⟩⟩
noncomputable def x275:Str:=⟨⟨[95,83,121,110,99,79,98,106,95,95,116,114,121,76,111,103,67,111,109,112,97,99,116,105,111,110]⟩⟩
noncomputable def x276:Str:=⟨⟨[83,121,110,99,79,98,106,46,95,83,121,110,99,79,98,106,95,95,116,114,121,76,111,103,67,111,109,112,97,99,116,105,111,110]⟩⟩
noncomputable def x277:Str:=⟨⟨[95,83,121,110,99,79,98,106,95,95,108,111,97,100,68,117,109,112,70,105,108,101]⟩⟩
noncomputable def x278:Str:=⟨⟨[83,121,110,99,79,98,106,46,95,83,121,110,99,79,98,106,95,95,108,111,97,100,68,117,109,112,70,105,108,101]⟩⟩
noncomputable def x279:Str:=⟨⟨[95,83,121,110,99,79,98,106,95,95,117,112,100,97,116,101,67,108,117,115,116,101,114,67,111,110,102,105,103,117,114,97,116,105,111,110]⟩⟩
noncomputable def x280:Str:=⟨⟨[83,121,110,99,79,98,106,46,95,83,121,110,99,79,98,106,95,95,117,112,100,97,116,101,67,108,117,115,116,101,114,67,111,110,102,105,103,117,114,97,116,105,111,110]⟩⟩
noncomputable def xb1:Str:=⟨⟨[98,117,105,108,116,105,110,115]⟩⟩
noncomputable def xb2:Str:=⟨⟨[95,95,109,97,105,110,95,95]⟩⟩
noncomputable def k1 (P:Params):Obj:=⟨(.type "dict"),none,.dict ⟨[e P xb1 162 (.ref 4),e P xb2 163 (.ref 5)]⟩ 2,#[]⟩
noncomputable def k2 (P:Params):Obj:=⟨.none,none,.dict ⟨[e P x0 843 (.int 493 0),e P x1 844 (.int 3 0),e P x2 863 (.int 506 0),e P x3 1087 (.int 652 0)]⟩ 4,#[]⟩
noncomputable def k3 (P:Params):Obj:=⟨(.type "dict"),none,.dict ⟨[e P x4 165 (.str x5 1706),e P x6 166 .none,e P x7 167 .none,e P x8 168 (.builtin "__main__.__loader__#opaque"),e P x9 169 .none,e P x10 170 (.ref 6),e P x11 171 (.ref 4),e P x12 173 (.str x13 172),e P x14 174 .none,e P x15 193 (.ref 21),e P x16 322 (.ref 123),e P x17 360 (.ref 137),e P x18 388 (.ref 151),e P x19 461 (.ref 180),e P x20 592 (.ref 292),e P x21 722 (.ref 404),e P x22 824 (.ref 479),e P x23 846 (.ref 493),e P x24 866 (.ref 506),e P x25 911 (.ref 540),e P x26 1005 (.ref 603),e P x27 1033 (.ref 617),e P x28 1061 (.ref 631),e P x29 1090 (.ref 652),e P x30 1115 (.ref 672),e P x31 1705 (.ref 1070),e P x32 1720 (.ref 1081),e P x33 1729 (.ref 1088),e P x34 1743 (.ref 1095),e P x35 1763 (.ref 1102),e P x36 1787 (.ref 1109)]⟩ 31,#[]⟩
noncomputable def k20 (P:Params):Obj:=cdO x15 x15 187 1 1 15 191 192
noncomputable def k21 (P:Params):Obj:=fnO (topS 0) x15 x15 .none (.str x37 164) (.ref 20)
noncomputable def k34 (P:Params):Obj:=cdO x38 x39 208 7 4 29 215 216
noncomputable def k35 (P:Params):Obj:=fnO (clsS 2 0) x38 x39 .none (.str x40 194) (.ref 34)
noncomputable def k41 (P:Params):Obj:=cdO x41 x42 218 11 3 36 224 225
noncomputable def k42 (P:Params):Obj:=fnO (clsS 2 1) x41 x42 .none (.str x40 194) (.ref 41)
noncomputable def k48 (P:Params):Obj:=cdO x43 x44 227 15 2 43 232 233
noncomputable def k49 (P:Params):Obj:=fnO (clsS 2 2) x43 x44 .none (.str x40 194) (.ref 48)
noncomputable def k55 (P:Params):Obj:=cdO x45 x46 235 19 2 50 240 241
noncomputable def k56 (P:Params):Obj:=fnO (clsS 2 3) x45 x46 .none (.str x40 194) (.ref 55)
noncomputable def k62 (P:Params):Obj:=cdO x47 x48 243 22 2 57 248 249
noncomputable def k63 (P:Params):Obj:=fnO (clsS 2 4) x47 x48 .none (.str x40 194) (.ref 62)
noncomputable def k69 (P:Params):Obj:=cdO x49 x50 251 25 2 64 256 257
noncomputable def k70 (P:Params):Obj:=fnO (clsS 2 5) x49 x50 .none (.str x40 194) (.ref 69)
noncomputable def k76 (P:Params):Obj:=cdO x51 x52 259 28 1 71 263 264
noncomputable def k77 (P:Params):Obj:=fnO (clsS 2 6) x51 x52 .none (.str x40 194) (.ref 76)
noncomputable def k83 (P:Params):Obj:=cdO x53 x54 266 31 1 78 270 271
noncomputable def k84 (P:Params):Obj:=fnO (clsS 2 7) x53 x54 .none (.str x40 194) (.ref 83)
noncomputable def k85 (P:Params):Obj:=⟨(.type "property"),none,.fields ⟨[(.ref 84),.none,.none,.none,(.str x53 273),(.bool false)]⟩,#[]⟩
noncomputable def k91 (P:Params):Obj:=cdO x55 x56 274 35 1 86 278 279
noncomputable def k92 (P:Params):Obj:=fnO (clsS 2 8) x55 x56 .none (.str x40 194) (.ref 91)
noncomputable def k98 (P:Params):Obj:=cdO x57 x58 281 38 2 93 286 287
noncomputable def k99 (P:Params):Obj:=fnO (clsS 2 9) x57 x58 .none (.str x40 194) (.ref 98)
noncomputable def k105 (P:Params):Obj:=cdO x59 x60 289 41 2 100 294 295
noncomputable def k106 (P:Params):Obj:=fnO (clsS 2 10) x59 x60 .none (.str x40 194) (.ref 105)
noncomputable def k112 (P:Params):Obj:=cdO x61 x62 297 44 3 107 303 304
noncomputable def k113 (P:Params):Obj:=fnO (clsS 2 11) x61 x62 .none (.str x40 194) (.ref 112)
noncomputable def k119 (P:Params):Obj:=cdO x63 x64 306 48 1 114 310 311
noncomputable def k120 (P:Params):Obj:=fnO (clsS 2 12) x63 x64 .none (.str x40 194) (.ref 119)
noncomputable def k122 (P:Params):Obj:=⟨(.type "dict"),none,.dict ⟨[e P x65 203 (.str x40 194),e P x66 207 (.int 5 206),e P x38 217 (.ref 35),e P x41 226 (.ref 42),e P x43 234 (.ref 49),e P x45 242 (.ref 56),e P x47 250 (.ref 63),e P x49 258 (.ref 70),e P x51 265 (.ref 77),e P x53 273 (.ref 85),e P x55 280 (.ref 92),e P x57 288 (.ref 99),e P x59 296 (.ref 106),e P x61 305 (.ref 113),e P x63 312 (.ref 120),e P x67 315 (.ref 121),e P x68 317 (.ref 124),e P x69 319 (.ref 125),e P x6 320 .none]⟩ 4,#[]⟩
noncomputable def k123 (P:Params):Obj:={ cls:=(.type "type"),data:=.cls { name:=x16,bases:=[(.type "object")],mro:=[(.ref 123),(.type "object")],ns:=122,qualname:=x16,hasDict:=true,slotNames:=[],subclasses:=[],abstract:=false,collection:=none,hasDel:=false },slots:=#[some (.ref 22),none,some (.str x16 196),some (.str x16 204),some (.builtin "object.__new__"),some (.bool true)] }
noncomputable def k136 (P:Params):Obj:=⟨(.type "dict"),none,.dict ⟨[e P x65 332 (.str x70 323),e P x66 336 (.int 51 335),e P x71 338 (.int 0 337),e P x72 340 (.int 1 339),e P x73 342 (.int 2 341),e P x74 344 (.int 3 343),e P x75 346 (.int 4 345),e P x76 348 (.int 5 347),e P x77 350 (.int 6 349),e P x78 352 (.int 7 351),e P x67 353 (.ref 135),e P x68 355 (.ref 138),e P x69 357 (.ref 139),e P x6 358 .none]⟩ 4,#[]⟩
noncomputable def k137 (P:Params):Obj:={ cls:=(.type "type"),data:=.cls { name:=x17,bases:=[(.type "object")],mro:=[(.ref 137),(.type "object")],ns:=136,qualname:=x17,hasDict:=true,slotNames:=[],subclasses:=[],abstract:=false,collection:=none,hasDel:=false },slots:=#[none,none,some (.str x17 325),some (.str x17 333),some (.builtin "object.__new__"),some (.bool true)] }
noncomputable def k150 (P:Params):Obj:=⟨(.type "dict"),none,.dict ⟨[e P x65 368 (.str x70 323),e P x66 372 (.int 60 371),e P x79 374 (.int 0 373),e P x80 376 (.int 1 375),e P x71 378 (.int 2 377),e P x81 380 (.int 3 379),e P x67 381 (.ref 149),e P x68 383 (.ref 152),e P x69 385 (.ref 153),e P x6 386 .none]⟩ 4,#[]⟩
noncomputable def k151 (P:Params):Obj:={ cls:=(.type "type"),data:=.cls { name:=x18,bases:=[(.type "object")],mro:=[(.ref 151),(.type "object")],ns:=150,qualname:=x18,hasDict:=true,slotNames:=[],subclasses:=[],abstract:=false,collection:=none,hasDel:=false },slots:=#[none,none,some (.str x18 361),some (.str x18 369),some (.builtin "object.__new__"),some (.bool true)] }
noncomputable def k163 (P:Params):Obj:=⟨(.type "tuple"),none,.seq ⟨[.none]⟩ 0,#[]⟩
noncomputable def k169 (P:Params):Obj:=cdO x38 x82 401 67 2 164 406 407
noncomputable def k170 (P:Params):Obj:=fnO (clsS 6 0) x38 x82 (.ref 163) (.str x70 323) (.ref 169)
noncomputable def k176 (P:Params):Obj:=cdO x83 x84 409 108 1 171 414 415
noncomputable def k177 (P:Params):Obj:=fnO (clsS 6 1) x83 x84 .none (.str x70 323) (.ref 176)
noncomputable def k179 (P:Params):Obj:=⟨(.type "dict"),none,.dict ⟨[e P x65 396 (.str x70 323),e P x66 400 (.int 65 399),e P x38 408 (.ref 170),e P x83 416 (.ref 177),e P x67 454 (.ref 178),e P x68 456 (.ref 181),e P x69 458 (.ref 182),e P x6 459 .none]⟩ 4,#[]⟩
noncomputable def k180 (P:Params):Obj:={ cls:=(.type "type"),data:=.cls { name:=x19,bases:=[(.type "object")],mro:=[(.ref 180),(.type "object")],ns:=179,qualname:=x19,hasDict:=true,slotNames:=[],subclasses:=[],abstract:=false,collection:=none,hasDel:=false },slots:=#[some (.ref 156),none,some (.str x19 389),some (.str x19 397),some (.builtin "object.__new__"),some (.bool true)] }
noncomputable def k197 (P:Params):Obj:=cdO x85 x86 476 139 4 192 483 484
noncomputable def k198 (P:Params):Obj:=fnO (clsS 8 0) x85 x86 .none (.str x87 462) (.ref 197)
noncomputable def k204 (P:Params):Obj:=cdO x88 x89 486 142 1 199 490 491
noncomputable def k205 (P:Params):Obj:=fnO (clsS 8 1) x88 x89 .none (.str x87 462) (.ref 204)
noncomputable def k211 (P:Params):Obj:=cdO x90 x91 493 145 2 206 498 499
noncomputable def k212 (P:Params):Obj:=fnO (clsS 8 2) x90 x91 .none (.str x87 462) (.ref 211)
noncomputable def k218 (P:Params):Obj:=cdO x92 x93 501 148 2 213 506 507
noncomputable def k219 (P:Params):Obj:=fnO (clsS 8 3) x92 x93 .none (.str x87 462) (.ref 218)
noncomputable def k225 (P:Params):Obj:=cdO x94 x95 509 151 2 220 514 515
noncomputable def k226 (P:Params):Obj:=fnO (clsS 8 4) x94 x95 .none (.str x87 462) (.ref 225)
noncomputable def k232 (P:Params):Obj:=cdO x96 x97 517 154 3 227 523 524
noncomputable def k233 (P:Params):Obj:=fnO (clsS 8 5) x96 x97 .none (.str x87 462) (.ref 232)
noncomputable def k239 (P:Params):Obj:=cdO x98 x99 526 157 1 234 530 531
noncomputable def k240 (P:Params):Obj:=fnO (clsS 8 6) x98 x99 .none (.str x87 462) (.ref 239)
noncomputable def k246 (P:Params):Obj:=cdO x100 x101 533 160 1 241 537 538
noncomputable def k247 (P:Params):Obj:=fnO (clsS 8 7) x100 x101 .none (.str x87 462) (.ref 246)
noncomputable def k253 (P:Params):Obj:=cdO x102 x103 540 163 2 248 545 546
noncomputable def k254 (P:Params):Obj:=fnO (clsS 8 8) x102 x103 .none (.str x87 462) (.ref 253)
noncomputable def k260 (P:Params):Obj:=cdO x104 x105 548 166 1 255 552 553
noncomputable def k261 (P:Params):Obj:=fnO (clsS 8 9) x104 x105 .none (.str x87 462) (.ref 260)
noncomputable def k267 (P:Params):Obj:=cdO x106 x107 555 169 3 262 561 562
noncomputable def k268 (P:Params):Obj:=fnO (clsS 8 10) x106 x107 .none (.str x87 462) (.ref 267)
noncomputable def k274 (P:Params):Obj:=cdO x108 x109 564 172 1 269 568 569
noncomputable def k275 (P:Params):Obj:=fnO (clsS 8 11) x108 x109 .none (.str x87 462) (.ref 274)
noncomputable def k281 (P:Params):Obj:=cdO x110 x111 571 175 1 276 575 576
noncomputable def k282 (P:Params):Obj:=fnO (clsS 8 12) x110 x111 .none (.str x87 462) (.ref 281)
noncomputable def k288 (P:Params):Obj:=cdO x112 x113 578 178 1 283 582 583
noncomputable def k289 (P:Params):Obj:=fnO (clsS 8 13) x112 x113 .none (.str x87 462) (.ref 288)
noncomputable def k291 (P:Params):Obj:=⟨(.type "dict"),none,.dict ⟨[e P x65 471 (.str x87 462),e P x66 475 (.int 137 474),e P x85 485 (.ref 198),e P x88 492 (.ref 205),e P x90 500 (.ref 212),e P x92 508 (.ref 219),e P x94 516 (.ref 226),e P x96 525 (.ref 233),e P x98 532 (.ref 240),e P x100 539 (.ref 247),e P x102 547 (.ref 254),e P x104 554 (.ref 261),e P x106 563 (.ref 268),e P x108 570 (.ref 275),e P x110 577 (.ref 282),e P x112 584 (.ref 289),e P x67 585 (.ref 290),e P x68 587 (.ref 293),e P x69 589 (.ref 294),e P x6 590 .none]⟩ 4,#[]⟩
noncomputable def k292 (P:Params):Obj:={ cls:=(.type "type"),data:=.cls { name:=x20,bases:=[(.type "object")],mro:=[(.ref 292),(.type "object")],ns:=291,qualname:=x20,hasDict:=true,slotNames:=[],subclasses:=[(.ref 404)],abstract:=false,collection:=none,hasDel:=false },slots:=#[some (.ref 185),none,some (.str x20 464),some (.str x20 472),some (.builtin "object.__new__"),some (.bool true)] }
noncomputable def k309 (P:Params):Obj:=cdO x38 x114 605 182 1 304 609 610
noncomputable def k310 (P:Params):Obj:=fnO (clsS 9 0) x38 x114 .none (.str x87 462) (.ref 309)
noncomputable def k316 (P:Params):Obj:=cdO x85 x115 612 189 4 311 619 620
noncomputable def k317 (P:Params):Obj:=fnO (clsS 9 1) x85 x115 .none (.str x87 462) (.ref 316)
noncomputable def k323 (P:Params):Obj:=cdO x88 x116 622 192 1 318 626 627
noncomputable def k324 (P:Params):Obj:=fnO (clsS 9 2) x88 x116 .none (.str x87 462) (.ref 323)
noncomputable def k330 (P:Params):Obj:=cdO x90 x117 629 195 2 325 634 635
noncomputable def k331 (P:Params):Obj:=fnO (clsS 9 3) x90 x117 .none (.str x87 462) (.ref 330)
noncomputable def k337 (P:Params):Obj:=cdO x92 x118 637 198 2 332 642 643
noncomputable def k338 (P:Params):Obj:=fnO (clsS 9 4) x92 x118 .none (.str x87 462) (.ref 337)
noncomputable def k344 (P:Params):Obj:=cdO x94 x119 645 201 2 339 650 651
noncomputable def k345 (P:Params):Obj:=fnO (clsS 9 5) x94 x119 .none (.str x87 462) (.ref 344)
noncomputable def k351 (P:Params):Obj:=cdO x96 x120 653 204 3 346 659 660
noncomputable def k352 (P:Params):Obj:=fnO (clsS 9 6) x96 x120 .none (.str x87 462) (.ref 351)
noncomputable def k358 (P:Params):Obj:=cdO x98 x121 662 209 1 353 666 667
noncomputable def k359 (P:Params):Obj:=fnO (clsS 9 7) x98 x121 .none (.str x87 462) (.ref 358)
noncomputable def k365 (P:Params):Obj:=cdO x100 x122 669 212 1 360 673 674
noncomputable def k366 (P:Params):Obj:=fnO (clsS 9 8) x100 x122 .none (.str x87 462) (.ref 365)
noncomputable def k372 (P:Params):Obj:=cdO x102 x123 676 215 2 367 681 682
noncomputable def k373 (P:Params):Obj:=fnO (clsS 9 9) x102 x123 .none (.str x87 462) (.ref 372)
noncomputable def k379 (P:Params):Obj:=cdO x104 x124 684 218 1 374 688 689
noncomputable def k380 (P:Params):Obj:=fnO (clsS 9 10) x104 x124 .none (.str x87 462) (.ref 379)
noncomputable def k386 (P:Params):Obj:=cdO x106 x125 691 221 3 381 697 698
noncomputable def k387 (P:Params):Obj:=fnO (clsS 9 11) x106 x125 .none (.str x87 462) (.ref 386)
noncomputable def k393 (P:Params):Obj:=cdO x108 x126 700 225 1 388 704 705
noncomputable def k394 (P:Params):Obj:=fnO (clsS 9 12) x108 x126 .none (.str x87 462) (.ref 393)
noncomputable def k400 (P:Params):Obj:=cdO x110 x127 707 228 1 395 711 712
noncomputable def k401 (P:Params):Obj:=fnO (clsS 9 13) x110 x127 .none (.str x87 462) (.ref 400)
noncomputable def k403 (P:Params):Obj:=⟨(.type "dict"),none,.dict ⟨[e P x65 600 (.str x87 462),e P x66 604 (.int 180 603),e P x38 611 (.ref 310),e P x85 621 (.ref 317),e P x88 628 (.ref 324),e P x90 636 (.ref 331),e P x92 644 (.ref 338),e P x94 652 (.ref 345),e P x96 661 (.ref 352),e P x98 668 (.ref 359),e P x100 675 (.ref 366),e P x102 683 (.ref 373),e P x104 690 (.ref 380),e P x106 699 (.ref 387),e P x108 706 (.ref 394),e P x110 713 (.ref 401),e P x67 719 (.ref 402),e P x6 720 .none]⟩ 2,#[]⟩
noncomputable def k404 (P:Params):Obj:={ cls:=(.type "type"),data:=.cls { name:=x21,bases:=[(.ref 292)],mro:=[(.ref 404),(.ref 292),(.type "object")],ns:=403,qualname:=x21,hasDict:=true,slotNames:=[],subclasses:=[],abstract:=false,collection:=none,hasDel:=false },slots:=#[some (.ref 297),none,some (.str x21 593),some (.str x21 601),some (.builtin "object.__new__"),some (.bool true)] }
noncomputable def k419 (P:Params):Obj:=cdO x38 x128 737 233 1 414 741 742
noncomputable def k420 (P:Params):Obj:=fnO (clsS 11 0) x38 x128 .none (.str x129 723) (.ref 419)
noncomputable def k426 (P:Params):Obj:=cdO x130 x131 744 242 1 421 748 749
noncomputable def k427 (P:Params):Obj:=fnO (clsS 11 1) x130 x131 .none (.str x129 723) (.ref 426)
noncomputable def k433 (P:Params):Obj:=cdO x132 x133 751 245 2 428 756 757
noncomputable def k434 (P:Params):Obj:=fnO (clsS 11 2) x132 x133 .none (.str x129 723) (.ref 433)
noncomputable def k440 (P:Params):Obj:=cdO x134 x135 759 250 4 435 766 767
noncomputable def k441 (P:Params):Obj:=fnO (clsS 11 3) x134 x135 .none (.str x129 723) (.ref 440)
noncomputable def k447 (P:Params):Obj:=cdO x136 x137 769 254 4 442 776 777
noncomputable def k448 (P:Params):Obj:=fnO (clsS 11 4) x136 x137 .none (.str x129 723) (.ref 447)
noncomputable def k454 (P:Params):Obj:=cdO x138 x139 779 257 1 449 783 784
noncomputable def k455 (P:Params):Obj:=fnO (clsS 11 5) x138 x139 .none (.str x129 723) (.ref 454)
noncomputable def k461 (P:Params):Obj:=cdO x140 x141 786 260 2 456 791 792
noncomputable def k462 (P:Params):Obj:=fnO (clsS 11 6) x140 x141 .none (.str x129 723) (.ref 461)
noncomputable def k468 (P:Params):Obj:=cdO x142 x143 794 263 2 463 799 800
noncomputable def k469 (P:Params):Obj:=fnO (clsS 11 7) x142 x143 .none (.str x129 723) (.ref 468)
noncomputable def k475 (P:Params):Obj:=cdO x144 x145 802 267 2 470 807 808
noncomputable def k476 (P:Params):Obj:=fnO (clsS 11 8) x144 x145 .none (.str x129 723) (.ref 475)
noncomputable def k478 (P:Params):Obj:=⟨(.type "dict"),none,.dict ⟨[e P x65 732 (.str x129 723),e P x66 736 (.int 231 735),e P x38 743 (.ref 420),e P x130 750 (.ref 427),e P x132 758 (.ref 434),e P x134 768 (.ref 441),e P x136 778 (.ref 448),e P x138 785 (.ref 455),e P x140 793 (.ref 462),e P x142 801 (.ref 469),e P x144 809 (.ref 476),e P x67 817 (.ref 477),e P x68 819 (.ref 480),e P x69 821 (.ref 481),e P x6 822 .none]⟩ 4,#[]⟩
noncomputable def k479 (P:Params):Obj:={ cls:=(.type "type"),data:=.cls { name:=x22,bases:=[(.type "object")],mro:=[(.ref 479),(.type "object")],ns:=478,qualname:=x22,hasDict:=true,slotNames:=[],subclasses:=[],abstract:=false,collection:=none,hasDel:=false },slots:=#[some (.ref 407),none,some (.str x22 725),some (.str x22 733),some (.builtin "object.__new__"),some (.bool true)] }
noncomputable def k492 (P:Params):Obj:=⟨(.type "dict"),none,.dict ⟨[e P x65 834 (.str x146 825),e P x66 838 (.int 270 837),e P x67 839 (.ref 491),e P x69 841 (.ref 494),e P x6 842 .none]⟩ 3,#[]⟩
noncomputable def k493 (P:Params):Obj:={ cls:=(.type "type"),data:=.cls { name:=x23,bases:=[(.type "Exception")],mro:=[(.ref 493),(.type "Exception"),(.type "BaseException"),(.type "object")],ns:=492,qualname:=x23,hasDict:=true,slotNames:=[],subclasses:=[],abstract:=false,collection:=none,hasDel:=false },slots:=#[some (.ref 484),none,some (.str x23 827),some (.str x23 835),some (.builtin "Exception.__new__"),some (.bool true)] }
noncomputable def k505 (P:Params):Obj:=⟨(.type "dict"),none,.dict ⟨[e P x65 854 (.str x146 825),e P x66 858 (.int 272 857),e P x67 859 (.ref 504),e P x69 861 (.ref 507),e P x6 862 .none]⟩ 3,#[]⟩
noncomputable def k506 (P:Params):Obj:={ cls:=(.type "type"),data:=.cls { name:=x24,bases:=[(.type "Exception")],mro:=[(.ref 506),(.type "Exception"),(.type "BaseException"),(.type "object")],ns:=505,qualname:=x24,hasDict:=true,slotNames:=[],subclasses:=[],abstract:=false,collection:=none,hasDel:=false },slots:=#[some (.ref 497),none,some (.str x24 847),some (.str x24 855),some (.builtin "Exception.__new__"),some (.bool true)] }
noncomputable def k522 (P:Params):Obj:=cdO x38 x147 879 276 2 517 884 885
noncomputable def k523 (P:Params):Obj:=fnO (clsS 15 0) x38 x147 .none (.str x146 825) (.ref 522)
noncomputable def k529 (P:Params):Obj:=cdO x148 x149 887 280 2 524 892 893
noncomputable def k530 (P:Params):Obj:=fnO (clsS 15 1) x148 x149 .none (.str x146 825) (.ref 529)
noncomputable def k536 (P:Params):Obj:=cdO x150 x151 895 285 1 531 899 900
noncomputable def k537 (P:Params):Obj:=fnO (clsS 15 2) x150 x151 .none (.str x146 825) (.ref 536)
noncomputable def k539 (P:Params):Obj:=⟨(.type "dict"),none,.dict ⟨[e P x65 874 (.str x146 825),e P x66 878 (.int 274 877),e P x38 886 (.ref 523),e P x148 894 (.ref 530),e P x150 901 (.ref 537),e P x67 904 (.ref 538),e P x68 906 (.ref 541),e P x69 908 (.ref 542),e P x6 909 .none]⟩ 4,#[]⟩
noncomputable def k540 (P:Params):Obj:={ cls:=(.type "type"),data:=.cls { name:=x25,bases:=[(.type "object")],mro:=[(.ref 540),(.type "object")],ns:=539,qualname:=x25,hasDict:=true,slotNames:=[],subclasses:=[],abstract:=false,collection:=none,hasDel:=false },slots:=#[some (.ref 510),none,some (.str x25 867),some (.str x25 875),some (.builtin "object.__new__"),some (.bool true)] }
noncomputable def k557 (P:Params):Obj:=cdO x38 x152 926 292 3 552 932 933
noncomputable def k558 (P:Params):Obj:=fnO (clsS 17 0) x38 x152 .none (.str x153 912) (.ref 557)
noncomputable def k564 (P:Params):Obj:=cdO x154 x155 935 301 1 559 940 941
noncomputable def k565 (P:Params):Obj:=fnO (clsS 17 1) x154 x155 .none (.str x153 912) (.ref 564)
noncomputable def k571 (P:Params):Obj:=cdO x156 x157 943 309 3 566 949 950
noncomputable def k572 (P:Params):Obj:=fnO (clsS 17 2) x156 x157 .none (.str x153 912) (.ref 571)
noncomputable def k578 (P:Params):Obj:=cdO x158 x159 952 316 1 573 956 957
noncomputable def k579 (P:Params):Obj:=fnO (clsS 17 3) x158 x159 .none (.str x153 912) (.ref 578)
noncomputable def k585 (P:Params):Obj:=cdO x160 x161 959 319 2 580 970 971
noncomputable def k586 (P:Params):Obj:=fnO (clsS 17 4) x160 x161 .none (.str x153 912) (.ref 585)
noncomputable def k592 (P:Params):Obj:=cdO x162 x163 973 341 2 587 980 981
noncomputable def k593 (P:Params):Obj:=fnO (clsS 17 5) x162 x163 .none (.str x153 912) (.ref 592)
noncomputable def k599 (P:Params):Obj:=cdO x164 x165 983 356 2 594 988 989
noncomputable def k600 (P:Params):Obj:=fnO (clsS 17 6) x164 x165 .none (.str x153 912) (.ref 599)
noncomputable def k602 (P:Params):Obj:=⟨(.type "dict"),none,.dict ⟨[e P x65 921 (.str x153 912),e P x66 925 (.int 290 924),e P x38 934 (.ref 558),e P x154 942 (.ref 565),e P x156 951 (.ref 572),e P x158 958 (.ref 579),e P x160 972 (.ref 586),e P x162 982 (.ref 593),e P x164 990 (.ref 600),e P x67 998 (.ref 601),e P x68 1000 (.ref 604),e P x69 1002 (.ref 605),e P x6 1003 .none]⟩ 4,#[]⟩
noncomputable def k603 (P:Params):Obj:={ cls:=(.type "type"),data:=.cls { name:=x26,bases:=[(.type "object")],mro:=[(.ref 603),(.type "object")],ns:=602,qualname:=x26,hasDict:=true,slotNames:=[],subclasses:=[],abstract:=false,collection:=none,hasDel:=false },slots:=#[some (.ref 545),none,some (.str x26 914),some (.str x26 922),some (.builtin "object.__new__"),some (.bool true)] }
noncomputable def k616 (P:Params):Obj:=⟨(.type "dict"),none,.dict ⟨[e P x65 1015 (.str x166 1006),e P x66 1019 (.int 359 1018),e P x167 1021 (.int 0 1020),e P x168 1023 (.int 1 1022),e P x169 1025 (.int 2 1024),e P x67 1026 (.ref 615),e P x68 1028 (.ref 618),e P x69 1030 (.ref 619),e P x6 1031 .none]⟩ 4,#[]⟩
noncomputable def k617 (P:Params):Obj:={ cls:=(.type "type"),data:=.cls { name:=x27,bases:=[(.type "object")],mro:=[(.ref 617),(.type "object")],ns:=616,qualname:=x27,hasDict:=true,slotNames:=[],subclasses:=[],abstract:=false,collection:=none,hasDel:=false },slots:=#[none,none,some (.str x27 1008),some (.str x27 1016),some (.builtin "object.__new__"),some (.bool true)] }
noncomputable def k630 (P:Params):Obj:=⟨(.type "dict"),none,.dict ⟨[e P x65 1041 (.str x166 1006),e P x66 1045 (.int 363 1044),e P x170 1047 (.int 0 1046),e P x171 1049 (.int 1 1048),e P x172 1051 (.int 2 1050),e P x173 1053 (.int 3 1052),e P x67 1054 (.ref 629),e P x68 1056 (.ref 632),e P x69 1058 (.ref 633),e P x6 1059 .none]⟩ 4,#[]⟩
noncomputable def k631 (P:Params):Obj:={ cls:=(.type "type"),data:=.cls { name:=x28,bases:=[(.type "object")],mro:=[(.ref 631),(.type "object")],ns:=630,qualname:=x28,hasDict:=true,slotNames:=[],subclasses:=[],abstract:=false,collection:=none,hasDel:=false },slots:=#[none,none,some (.str x28 1034),some (.str x28 1042),some (.builtin "object.__new__"),some (.bool true)] }
noncomputable def k648 (P:Params):Obj:=cdO x38 x174 1074 370 2 643 1079 1080
noncomputable def k649 (P:Params):Obj:=fnO (clsS 21 0) x38 x174 .none (.str x166 1006) (.ref 648)
noncomputable def k651 (P:Params):Obj:=⟨(.type "dict"),none,.dict ⟨[e P x65 1069 (.str x166 1006),e P x66 1073 (.int 368 1072),e P x38 1081 (.ref 649),e P x67 1083 (.ref 650),e P x69 1085 (.ref 653),e P x6 1086 .none]⟩ 3,#[]⟩
noncomputable def k652 (P:Params):Obj:={ cls:=(.type "type"),data:=.cls { name:=x29,bases:=[(.type "Exception")],mro:=[(.ref 652),(.type "Exception"),(.type "BaseException"),(.type "object")],ns:=651,qualname:=x29,hasDict:=true,slotNames:=[],subclasses:=[(.ref 672)],abstract:=false,collection:=none,hasDel:=false },slots:=#[some (.ref 636),none,some (.str x29 1062),some (.str x29 1070),some (.builtin "Exception.__new__"),some (.bool true)] }
noncomputable def k668 (P:Params):Obj:=cdO x38 x175 1103 375 2 663 1108 1109
noncomputable def k669 (P:Params):Obj:=fnO (clsS 22 0) x38 x175 .none (.str x166 1006) (.ref 668)
noncomputable def k671 (P:Params):Obj:=⟨(.type "dict"),none,.dict ⟨[e P x65 1098 (.str x166 1006),e P x66 1102 (.int 373 1101),e P x38 1110 (.ref 669),e P x67 1112 (.ref 670),e P x6 1113 .none]⟩ 2,#[]⟩
noncomputable def k672 (P:Params):Obj:={ cls:=(.type "type"),data:=.cls { name:=x30,bases:=[(.ref 652)],mro:=[(.ref 672),(.ref 652),(.type "Exception"),(.type "BaseException"),(.type "object")],ns:=671,qualname:=x30,hasDict:=true,slotNames:=[],subclasses:=[],abstract:=false,collection:=none,hasDel:=false },slots:=#[some (.ref 656),none,some (.str x30 1091),some (.str x30 1099),some (.builtin "Exception.__new__"),some (.bool true)] }
noncomputable def k687 (P:Params):Obj:=cdO x38 x176 1128 380 7 682 1139 1140
noncomputable def k688 (P:Params):Obj:=fnO (clsS 23 0) x38 x176 .none (.str x166 1006) (.ref 687)
noncomputable def k694 (P:Params):Obj:=cdO x177 x178 1142 431 1 689 1146 1147
noncomputable def k695 (P:Params):Obj:=fnO (clsS 23 1) x177 x178 .none (.str x166 1006) (.ref 694)
noncomputable def k696 (P:Params):Obj:=⟨(.type "tuple"),none,.seq ⟨[.none]⟩ 0,#[]⟩
noncomputable def k702 (P:Params):Obj:=cdO x179 x180 1149 434 3 697 1155 1156
noncomputable def k703 (P:Params):Obj:=fnO (clsS 23 2) x179 x180 (.ref 696) (.str x166 1006) (.ref 702)
noncomputable def k704 (P:Params):Obj:=⟨(.type "tuple"),none,.seq ⟨[.none]⟩ 0,#[]⟩
noncomputable def k710 (P:Params):Obj:=cdO x181 x182 1158 437 3 705 1164 1165
noncomputable def k711 (P:Params):Obj:=fnO (clsS 23 3) x181 x182 (.ref 704) (.str x166 1006) (.ref 710)
noncomputable def k712 (P:Params):Obj:=⟨(.type "tuple"),none,.seq ⟨[.none]⟩ 0,#[]⟩
noncomputable def k718 (P:Params):Obj:=cdO x183 x184 1167 440 3 713 1173 1174
noncomputable def k719 (P:Params):Obj:=fnO (clsS 23 4) x183 x184 (.ref 712) (.str x166 1006) (.ref 718)
noncomputable def k720 (P:Params):Obj:=⟨(.type "tuple"),none,.seq ⟨[.none,.none]⟩ 0,#[]⟩
noncomputable def k726 (P:Params):Obj:=cdO x185 x186 1176 443 3 721 1182 1183
noncomputable def k727 (P:Params):Obj:=fnO (clsS 23 5) x185 x186 (.ref 720) (.str x166 1006) (.ref 726)
noncomputable def k728 (P:Params):Obj:=⟨(.type "tuple"),none,.seq ⟨[.none]⟩ 0,#[]⟩
noncomputable def k734 (P:Params):Obj:=cdO x187 x188 1185 446 4 729 1192 1193
noncomputable def k735 (P:Params):Obj:=fnO (clsS 23 6) x187 x188 (.ref 728) (.str x166 1006) (.ref 734)
noncomputable def k741 (P:Params):Obj:=cdO x189 x190 1195 455 1 736 1208 1209
noncomputable def k742 (P:Params):Obj:=fnO (clsS 23 7) x189 x190 .none (.str x166 1006) (.ref 741)
noncomputable def k743 (P:Params):Obj:=⟨(.type "tuple"),none,.seq ⟨[(.int 0 1211)]⟩ 0,#[]⟩
noncomputable def k749 (P:Params):Obj:=cdO x191 x192 1212 500 2 744 1217 1218
noncomputable def k750 (P:Params):Obj:=fnO (clsS 23 8) x191 x192 (.ref 743) (.str x166 1006) (.ref 749)
noncomputable def k751 (P:Params):Obj:=⟨(.type "tuple"),none,.seq ⟨[(.int 0 1220)]⟩ 0,#[]⟩
noncomputable def k757 (P:Params):Obj:=cdO x193 x194 1221 504 2 752 1235 1236
noncomputable def k758 (P:Params):Obj:=fnO (clsS 23 9) x193 x194 (.ref 751) (.str x166 1006) (.ref 757)
noncomputable def k764 (P:Params):Obj:=cdO x195 x196 1238 561 1 759 1251 1252
noncomputable def k765 (P:Params):Obj:=fnO (clsS 23 10) x195 x196 .none (.str x166 1006) (.ref 764)
noncomputable def k771 (P:Params):Obj:=cdO x197 x198 1254 583 2 766 1259 1260
noncomputable def k772 (P:Params):Obj:=fnO (clsS 23 11) x197 x198 .none (.str x166 1006) (.ref 771)
noncomputable def k778 (P:Params):Obj:=cdO x199 x200 1262 586 1 773 1266 1267
noncomputable def k779 (P:Params):Obj:=fnO (clsS 23 12) x199 x200 .none (.str x166 1006) (.ref 778)
noncomputable def k780 (P:Params):Obj:=⟨(.type "property"),none,.fields ⟨[(.ref 779),.none,.none,.none,(.str x199 1269),(.bool false)]⟩,#[]⟩
noncomputable def k786 (P:Params):Obj:=cdO x201 x202 1270 590 1 781 1274 1275
noncomputable def k787 (P:Params):Obj:=fnO (clsS 23 13) x201 x202 .none (.str x166 1006) (.ref 786)
noncomputable def k788 (P:Params):Obj:=⟨(.type "property"),none,.fields ⟨[(.ref 787),.none,.none,.none,(.str x201 1277),(.bool false)]⟩,#[]⟩
noncomputable def k794 (P:Params):Obj:=cdO x203 x204 1278 594 1 789 1282 1283
noncomputable def k795 (P:Params):Obj:=fnO (clsS 23 14) x203 x204 .none (.str x166 1006) (.ref 794)
noncomputable def k796 (P:Params):Obj:=⟨(.type "property"),none,.fields ⟨[(.ref 795),.none,.none,.none,(.str x203 1285),(.bool false)]⟩,#[]⟩
noncomputable def k802 (P:Params):Obj:=cdO x205 x206 1286 598 1 797 1290 1291
noncomputable def k803 (P:Params):Obj:=fnO (clsS 23 15) x205 x206 .none (.str x166 1006) (.ref 802)
noncomputable def k804 (P:Params):Obj:=⟨(.type "property"),none,.fields ⟨[(.ref 803),.none,.none,.none,(.str x205 1293),(.bool false)]⟩,#[]⟩
noncomputable def k810 (P:Params):Obj:=cdO x207 x208 1294 602 1 805 1298 1299
noncomputable def k811 (P:Params):Obj:=fnO (clsS 23 16) x207 x208 .none (.str x166 1006) (.ref 810)
noncomputable def k812 (P:Params):Obj:=⟨(.type "property"),none,.fields ⟨[(.ref 811),.none,.none,.none,(.str x207 1301),(.bool false)]⟩,#[]⟩
noncomputable def k818 (P:Params):Obj:=cdO x209 x210 1302 606 1 813 1306 1307
noncomputable def k819 (P:Params):Obj:=fnO (clsS 23 17) x209 x210 .none (.str x166 1006) (.ref 818)
noncomputable def k820 (P:Params):Obj:=⟨(.type "property"),none,.fields ⟨[(.ref 819),.none,.none,.none,(.str x209 1309),(.bool false)]⟩,#[]⟩
noncomputable def k826 (P:Params):Obj:=cdO x211 x212 1310 610 1 821 1314 1315
noncomputable def k827 (P:Params):Obj:=fnO (clsS 23 18) x211 x212 .none (.str x166 1006) (.ref 826)
noncomputable def k828 (P:Params):Obj:=⟨(.type "property"),none,.fields ⟨[(.ref 827),.none,.none,.none,(.str x211 1317),(.bool false)]⟩,#[]⟩
noncomputable def k834 (P:Params):Obj:=cdO x213 x214 1318 614 1 829 1322 1323
noncomputable def k835 (P:Params):Obj:=fnO (clsS 23 19) x213 x214 .none (.str x166 1006) (.ref 834)
noncomputable def k841 (P:Params):Obj:=cdO x215 x216 1325 617 1 836 1329 1330
noncomputable def k842 (P:Params):Obj:=fnO (clsS 23 20) x215 x216 .none (.str x166 1006) (.ref 841)
noncomputable def k848 (P:Params):Obj:=cdO x217 x218 1332 620 2 843 1345 1346
noncomputable def k849 (P:Params):Obj:=fnO (clsS 23 21) x217 x218 .none (.str x166 1006) (.ref 848)
noncomputable def k855 (P:Params):Obj:=cdO x219 x220 1348 648 3 850 1373 1374
noncomputable def k856 (P:Params):Obj:=fnO (clsS 23 22) x219 x220 .none (.str x166 1006) (.ref 855)
noncomputable def k862 (P:Params):Obj:=cdO x221 x222 1376 760 3 857 1384 1385
noncomputable def k863 (P:Params):Obj:=fnO (clsS 23 23) x221 x222 .none (.str x166 1006) (.ref 862)
noncomputable def k864 (P:Params):Obj:=⟨(.type "tuple"),none,.seq ⟨[(.bool false),.none,(.bool false)]⟩ 0,#[]⟩
noncomputable def k870 (P:Params):Obj:=cdO x223 x224 1387 769 5 865 1395 1396
noncomputable def k871 (P:Params):Obj:=fnO (clsS 23 24) x223 x224 (.ref 864) (.str x166 1006) (.ref 870)
noncomputable def k877 (P:Params):Obj:=cdO x225 x226 1398 774 1 872 1404 1405
noncomputable def k878 (P:Params):Obj:=fnO (clsS 23 25) x225 x226 .none (.str x166 1006) (.ref 877)
noncomputable def k884 (P:Params):Obj:=cdO x227 x228 1407 779 2 879 1412 1413
noncomputable def k885 (P:Params):Obj:=fnO (clsS 23 26) x227 x228 .none (.str x166 1006) (.ref 884)
noncomputable def k891 (P:Params):Obj:=cdO x229 x230 1415 782 2 886 1420 1421
noncomputable def k892 (P:Params):Obj:=fnO (clsS 23 27) x229 x230 .none (.str x166 1006) (.ref 891)
noncomputable def k898 (P:Params):Obj:=cdO x231 x232 1423 785 2 893 1428 1429
noncomputable def k899 (P:Params):Obj:=fnO (clsS 23 28) x231 x232 .none (.str x166 1006) (.ref 898)
noncomputable def k905 (P:Params):Obj:=cdO x233 x234 1431 788 2 900 1436 1437
noncomputable def k906 (P:Params):Obj:=fnO (clsS 23 29) x233 x234 .none (.str x166 1006) (.ref 905)
noncomputable def k912 (P:Params):Obj:=cdO x235 x236 1439 791 1 907 1443 1444
noncomputable def k913 (P:Params):Obj:=fnO (clsS 23 30) x235 x236 .none (.str x166 1006) (.ref 912)
noncomputable def k919 (P:Params):Obj:=cdO x237 x238 1446 794 1 914 1450 1451
noncomputable def k920 (P:Params):Obj:=fnO (clsS 23 31) x237 x238 .none (.str x166 1006) (.ref 919)
noncomputable def k926 (P:Params):Obj:=cdO x239 x240 1453 797 2 921 1460 1461
noncomputable def k927 (P:Params):Obj:=fnO (clsS 23 32) x239 x240 .none (.str x166 1006) (.ref 926)
noncomputable def k928 (P:Params):Obj:=⟨(.type "tuple"),none,.seq ⟨[.none,.none]⟩ 0,#[]⟩
noncomputable def k934 (P:Params):Obj:=cdO x241 x242 1463 804 4 929 1476 1477
noncomputable def k935 (P:Params):Obj:=fnO (clsS 23 33) x241 x242 (.ref 928) (.str x166 1006) (.ref 934)
noncomputable def k941 (P:Params):Obj:=cdO x243 x244 1479 823 1 936 1483 1484
noncomputable def k942 (P:Params):Obj:=fnO (clsS 23 34) x243 x244 .none (.str x166 1006) (.ref 941)
noncomputable def k948 (P:Params):Obj:=cdO x245 x246 1486 826 1 943 1490 1491
noncomputable def k949 (P:Params):Obj:=fnO (clsS 23 35) x245 x246 .none (.str x166 1006) (.ref 948)
noncomputable def k955 (P:Params):Obj:=cdO x247 x248 1493 829 1 950 1497 1498
noncomputable def k956 (P:Params):Obj:=fnO (clsS 23 36) x247 x248 .none (.str x166 1006) (.ref 955)
noncomputable def k962 (P:Params):Obj:=cdO x249 x250 1500 832 1 957 1504 1505
noncomputable def k963 (P:Params):Obj:=fnO (clsS 23 37) x249 x250 .none (.str x166 1006) (.ref 962)
noncomputable def k969 (P:Params):Obj:=cdO x251 x252 1507 835 1 964 1511 1512
noncomputable def k970 (P:Params):Obj:=fnO (clsS 23 38) x251 x252 .none (.str x166 1006) (.ref 969)
noncomputable def k976 (P:Params):Obj:=cdO x253 x254 1514 838 2 971 1521 1522
noncomputable def k977 (P:Params):Obj:=fnO (clsS 23 39) x253 x254 .none (.str x166 1006) (.ref 976)
noncomputable def k983 (P:Params):Obj:=cdO x255 x256 1524 845 2 978 1531 1532
noncomputable def k984 (P:Params):Obj:=fnO (clsS 23 40) x255 x256 .none (.str x166 1006) (.ref 983)
noncomputable def k990 (P:Params):Obj:=cdO x257 x258 1534 852 1 985 1541 1542
noncomputable def k991 (P:Params):Obj:=fnO (clsS 23 41) x257 x258 .none (.str x166 1006) (.ref 990)
noncomputable def k997 (P:Params):Obj:=cdO x259 x260 1544 867 3 992 1550 1551
noncomputable def k998 (P:Params):Obj:=fnO (clsS 23 42) x259 x260 .none (.str x166 1006) (.ref 997)
noncomputable def k1004 (P:Params):Obj:=cdO x261 x262 1553 872 2 999 1559 1560
noncomputable def k1005 (P:Params):Obj:=fnO (clsS 23 43) x261 x262 .none (.str x166 1006) (.ref 1004)
noncomputable def k1011 (P:Params):Obj:=cdO x263 x264 1562 878 1 1006 1567 1568
noncomputable def k1012 (P:Params):Obj:=fnO (clsS 23 44) x263 x264 .none (.str x166 1006) (.ref 1011)
noncomputable def k1018 (P:Params):Obj:=cdO x265 x266 1570 883 1 1013 1587 1588
noncomputable def k1019 (P:Params):Obj:=fnO (clsS 23 45) x265 x266 .none (.str x166 1006) (.ref 1018)
noncomputable def k1025 (P:Params):Obj:=cdO x267 x268 1590 929 1 1020 1594 1595
noncomputable def k1026 (P:Params):Obj:=fnO (clsS 23 46) x267 x268 .none (.str x166 1006) (.ref 1025)
noncomputable def k1032 (P:Params):Obj:=cdO x269 x270 1597 932 2 1027 1602 1603
noncomputable def k1033 (P:Params):Obj:=fnO (clsS 23 47) x269 x270 .none (.str x166 1006) (.ref 1032)
noncomputable def k1034 (P:Params):Obj:=⟨(.type "tuple"),none,.seq ⟨[(.bool false)]⟩ 0,#[]⟩
noncomputable def k1040 (P:Params):Obj:=cdO x271 x272 1605 942 3 1035 1617 1618
noncomputable def k1041 (P:Params):Obj:=fnO (clsS 23 48) x271 x272 (.ref 1034) (.str x166 1006) (.ref 1040)
noncomputable def k1047 (P:Params):Obj:=cdO x273 x274 1620 978 2 1042 1626 1627
noncomputable def k1048 (P:Params):Obj:=fnO (clsS 23 49) x273 x274 .none (.str x166 1006) (.ref 1047)
noncomputable def k1054 (P:Params):Obj:=cdO x275 x276 1629 984 1 1049 1639 1640
noncomputable def k1055 (P:Params):Obj:=fnO (clsS 23 50) x275 x276 .none (.str x166 1006) (.ref 1054)
noncomputable def k1059 (P:Params):Obj:=⟨(.type "code"),none,.fields ⟨[(.str x277 1642),(.str x278 1643),(.str x13 1644),(.int 1004 0),(.int 2 0),(.int 0 0),(.int 0 0),(.int 3 0),(.ref 1056),(.bool true),(.int 181 0),(.ref 1057),.none,.none,.none,(.ref 1058),(.int 1645 0),(.int 1004 0),(.str x13 1646)]⟩,#[]⟩
noncomputable def k1060 (P:Params):Obj:=fnO (clsS 23 51) x277 x278 .none (.str x166 1006) (.ref 1059)
noncomputable def k1066 (P:Params):Obj:=cdO x279 x280 1648 1023 2 1061 1656 1657
noncomputable def k1067 (P:Params):Obj:=fnO (clsS 23 52) x279 x280 .none (.str x166 1006) (.ref 1066)
noncomputable def k1069 (P:Params):Obj:=⟨(.type "dict"),none,.dict ⟨[e P x65 1123 (.str x166 1006),e P x66 1127 (.int 378 1126),e P x38 1141 (.ref 688),e P x177 1148 (.ref 695),e P x179 1157 (.ref 703),e P x181 1166 (.ref 711),e P x183 1175 (.ref 719),e P x185 1184 (.ref 727),e P x187 1194 (.ref 735),e P x189 1210 (.ref 742),e P x191 1219 (.ref 750),e P x193 1237 (.ref 758),e P x195 1253 (.ref 765),e P x197 1261 (.ref 772),e P x199 1269 (.ref 780),e P x201 1277 (.ref 788),e P x203 1285 (.ref 796),e P x205 1293 (.ref 804),e P x207 1301 (.ref 812),e P x209 1309 (.ref 820),e P x211 1317 (.ref 828),e P x213 1324 (.ref 835),e P x215 1331 (.ref 842),e P x217 1347 (.ref 849),e P x219 1375 (.ref 856),e P x221 1386 (.ref 863),e P x223 1397 (.ref 871),e P x225 1406 (.ref 878),e P x227 1414 (.ref 885),e P x229 1422 (.ref 892),e P x231 1430 (.ref 899),e P x233 1438 (.ref 906),e P x235 1445 (.ref 913),e P x237 1452 (.ref 920),e P x239 1462 (.ref 927),e P x241 1478 (.ref 935),e P x243 1485 (.ref 942),e P x245 1492 (.ref 949),e P x247 1499 (.ref 956),e P x249 1506 (.ref 963),e P x251 1513 (.ref 970),e P x253 1523 (.ref 977),e P x255 1533 (.ref 984),e P x257 1543 (.ref 991),e P x259 1552 (.ref 998),e P x261 1561 (.ref 1005),e P x263 1569 (.ref 1012),e P x265 1589 (.ref 1019),e P x267 1596 (.ref 1026),e P x269 1604 (.ref 1033),e P x271 1619 (.ref 1041),e P x273 1628 (.ref 1048),e P x275 1641 (.ref 1055),e P x277 1647 (.ref 1060),e P x279 1658 (.ref 1067),e P x67 1698 (.ref 1068),e P x68 1700 (.ref 1071),e P x69 1702 (.ref 1072),e P x6 1703 .none]⟩ 4,#[]⟩
noncomputable def k1070 (P:Params):Obj:={ cls:=(.type "type"),data:=.cls { name:=x31,bases:=[(.type "object")],mro:=[(.ref 1070),(.type "object")],ns:=1069,qualname:=x31,hasDict:=true,slotNames:=[],subclasses:=[],abstract:=false,collection:=none,hasDel:=false },slots:=#[some (.ref 675),none,some (.str x31 1116),some (.str x31 1124),some (.builtin "object.__new__"),some (.bool true)] }
noncomputable def k1080 (P:Params):Obj:=cdO x32 x32 1708 1037 3 1075 1718 1719
noncomputable def k1081 (P:Params):Obj:=fnO (topS 25) x32 x32 .none (.str x5 1706) (.ref 1080)
noncomputable def k1087 (P:Params):Obj:=cdO x33 x33 1721 1044 2 1082 1727 1728
noncomputable def k1088 (P:Params):Obj:=fnO (topS 26) x33 x33 .none (.str x5 1706) (.ref 1087)
noncomputable def k1094 (P:Params):Obj:=cdO x34 x34 1730 1048 3 1089 1741 1742
noncomputable def k1095 (P:Params):Obj:=fnO (topS 27) x34 x34 .none (.str x5 1706) (.ref 1094)
noncomputable def k1101 (P:Params):Obj:=cdO x35 x35 1744 1059 4 1096 1761 1762
noncomputable def k1102 (P:Params):Obj:=fnO (topS 28) x35 x35 .none (.str x5 1706) (.ref 1101)
noncomputable def k1108 (P:Params):Obj:=cdO x36 x36 1764 1084 1 1103 1785 1786
noncomputable def k1109 (P:Params):Obj:=fnO (topS 29) x36 x36 .none (.str x5 1706) (.ref 1108)
noncomputable def K (P:Params):Frag:=[(1,k1 P),(2,k2 P),(3,k3 P),(20,k20 P),(21,k21 P),(34,k34 P),(35,k35 P),(41,k41 P),(42,k42 P),(48,k48 P),(49,k49 P),(55,k55 P),(56,k56 P),(62,k62 P),(63,k63 P),(69,k69 P),(70,k70 P),(76,k76 P),(77,k77 P),(83,k83 P),(84,k84 P),(85,k85 P),(91,k91 P),(92,k92 P),(98,k98 P),(99,k99 P),(105,k105 P),(106,k106 P),(112,k112 P),(113,k113 P),(119,k119 P),(120,k120 P),(122,k122 P),(123,k123 P),(136,k136 P),(137,k137 P),(150,k150 P),(151,k151 P),(163,k163 P),(169,k169 P),(170,k170 P),(176,k176 P),(177,k177 P),(179,k179 P),(180,k180 P),(197,k197 P),(198,k198 P),(204,k204 P),(205,k205 P),(211,k211 P),(212,k212 P),(218,k218 P),(219,k219 P),(225,k225 P),(226,k226 P),(232,k232 P),(233,k233 P),(239,k239 P),(240,k240 P),(246,k246 P),(247,k247 P),(253,k253 P),(254,k254 P),(260,k260 P),(261,k261 P),(267,k267 P),(268,k268 P),(274,k274 P),(275,k275 P),(281,k281 P),(282,k282 P),(288,k288 P),(289,k289 P),(291,k291 P),(292,k292 P),(309,k309 P),(310,k310 P),(316,k316 P),(317,k317 P),(323,k323 P),(324,k324 P),(330,k330 P),(331,k331 P),(337,k337 P),(338,k338 P),(344,k344 P),(345,k345 P),(351,k351 P),(352,k352 P),(358,k358 P),(359,k359 P),(365,k365 P),(366,k366 P),(372,k372 P),(373,k373 P),(379,k379 P),(380,k380 P),(386,k386 P),(387,k387 P),(393,k393 P),(394,k394 P),(400,k400 P),(401,k401 P),(403,k403 P),(404,k404 P),(419,k419 P),(420,k420 P),(426,k426 P),(427,k427 P),(433,k433 P),(434,k434 P),(440,k440 P),(441,k441 P),(447,k447 P),(448,k448 P),(454,k454 P),(455,k455 P),(461,k461 P),(462,k462 P),(468,k468 P),(469,k469 P),(475,k475 P),(476,k476 P),(478,k478 P),(479,k479 P),(492,k492 P),(493,k493 P),(505,k505 P),(506,k506 P),(522,k522 P),(523,k523 P),(529,k529 P),(530,k530 P),(536,k536 P),(537,k537 P),(539,k539 P),(540,k540 P),(557,k557 P),(558,k558 P),(564,k564 P),(565,k565 P),(571,k571 P),(572,k572 P),(578,k578 P),(579,k579 P),(585,k585 P),(586,k586 P),(592,k592 P),(593,k593 P),(599,k599 P),(600,k600 P),(602,k602 P),(603,k603 P),(616,k616 P),(617,k617 P),(630,k630 P),(631,k631 P),(648,k648 P),(649,k649 P),(651,k651 P),(652,k652 P),(668,k668 P),(669,k669 P),(671,k671 P),(672,k672 P),(687,k687 P),(688,k688 P),(694,k694 P),(695,k695 P),(696,k696 P),(702,k702 P),(703,k703 P),(704,k704 P),(710,k710 P),(711,k711 P),(712,k712 P),(718,k718 P),(719,k719 P),(720,k720 P),(726,k726 P),(727,k727 P),(728,k728 P),(734,k734 P),(735,k735 P),(741,k741 P),(742,k742 P),(743,k743 P),(749,k749 P),(750,k750 P),(751,k751 P),(757,k757 P),(758,k758 P),(764,k764 P),(765,k765 P),(771,k771 P),(772,k772 P),(778,k778 P),(779,k779 P),(780,k780 P),(786,k786 P),(787,k787 P),(788,k788 P),(794,k794 P),(795,k795 P),(796,k796 P),(802,k802 P),(803,k803 P),(804,k804 P),(810,k810 P),(811,k811 P),(812,k812 P),(818,k818 P),(819,k819 P),(820,k820 P),(826,k826 P),(827,k827 P),(828,k828 P),(834,k834 P),(835,k835 P),(841,k841 P),(842,k842 P),(848,k848 P),(849,k849 P),(855,k855 P),(856,k856 P),(862,k862 P),(863,k863 P),(864,k864 P),(870,k870 P),(871,k871 P),(877,k877 P),(878,k878 P),(884,k884 P),(885,k885 P),(891,k891 P),(892,k892 P),(898,k898 P),(899,k899 P),(905,k905 P),(906,k906 P),(912,k912 P),(913,k913 P),(919,k919 P),(920,k920 P),(926,k926 P),(927,k927 P),(928,k928 P),(934,k934 P),(935,k935 P),(941,k941 P),(942,k942 P),(948,k948 P),(949,k949 P),(955,k955 P),(956,k956 P),(962,k962 P),(963,k963 P),(969,k969 P),(970,k970 P),(976,k976 P),(977,k977 P),(983,k983 P),(984,k984 P),(990,k990 P),(991,k991 P),(997,k997 P),(998,k998 P),(1004,k1004 P),(1005,k1005 P),(1011,k1011 P),(1012,k1012 P),(1018,k1018 P),(1019,k1019 P),(1025,k1025 P),(1026,k1026 P),(1032,k1032 P),(1033,k1033 P),(1034,k1034 P),(1040,k1040 P),(1041,k1041 P),(1047,k1047 P),(1048,k1048 P),(1054,k1054 P),(1055,k1055 P),(1059,k1059 P),(1060,k1060 P),(1066,k1066 P),(1067,k1067 P),(1069,k1069 P),(1070,k1070 P),(1080,k1080 P),(1081,k1081 P),(1087,k1087 P),(1088,k1088 P),(1094,k1094 P),(1095,k1095 P),(1101,k1101 P),(1102,k1102 P),(1108,k1108 P),(1109,k1109 P)]
noncomputable def Kas:List Addr:=[1,2,3,20,21,34,35,41,42,48,49,55,56,62,63,69,70,76,77,83,84,85,91,92,98,99,105,106,112,113,119,120,122,123,136,137,150,151,163,169,170,176,177,179,180,197,198,204,205,211,212,218,219,225,226,232,233,239,240,246,247,253,254,260,261,267,268,274,275,281,282,288,289,291,292,309,310,316,317,323,324,330,331,337,338,344,345,351,352,358,359,365,366,372,373,379,380,386,387,393,394,400,401,403,404,419,420,426,427,433,434,440,441,447,448,454,455,461,462,468,469,475,476,478,479,492,493,505,506,522,523,529,530,536,537,539,540,557,558,564,565,571,572,578,579,585,586,592,593,599,600,602,603,616,617,630,631,648,649,651,652,668,669,671,672,687,688,694,695,696,702,703,704,710,711,712,718,719,720,726,727,728,734,735,741,742,743,749,750,751,757,758,764,765,771,772,778,779,780,786,787,788,794,795,796,802,803,804,810,811,812,818,819,820,826,827,828,834,835,841,842,848,849,855,856,862,863,864,870,871,877,878,884,885,891,892,898,899,905,906,912,913,919,920,926,927,928,934,935,941,942,948,949,955,956,962,963,969,970,976,977,983,984,990,991,997,998,1004,1005,1011,1012,1018,1019,1025,1026,1032,1033,1034,1040,1041,1047,1048,1054,1055,1059,1060,1066,1067,1069,1070,1080,1081,1087,1088,1094,1095,1101,1102,1108,1109]
theorem K_keys:∀ P,Kas = (K P).map (·.1):=fun _=>by kernel_rfl
end
end Mine
end
section
open PySem PySem.W PyProof.Rows
set_option maxRecDepth 100000
set_option maxHeartbeats 0
namespace Mine
noncomputable section
noncomputable def nLaw:Str:=⟨⟨[108,97,119]⟩⟩
noncomputable def qv:Program:={ qp with main:={ qp.main with body:=[topS 29] } }
noncomputable def loose:List Str:=qp.boundNames.filter (fun n=>n != nLaw)
noncomputable def mods:List Str:=importedModules qp.main.body
noncomputable abbrev openSeenQ:=@PySem.W.Fast.tw4187177175401517315
noncomputable def fpos:Pos:=⟨1084,0,1121,15⟩
noncomputable abbrev hK:Hook:=kHook K Kas K_keys
theorem look_q (w:World) (os:OsState):(mainR w os).map (fun r=>(r.1,r.2.2,
      (staticsOk mods (boot_heap w.params) r.2.1.abs.heap && namesBound qp r.2.1.abs.heap && gensDone r.2.1.abs && laidKept (boot_heap w.params) r.2.1.abs.heap),
      openSeenQ qv loose mods (fun _=>true) true r.2.1.abs,hK.obs r.2.1.abs)) =
    some (.next,(mcode,fpos),true,openGood qv loose,hK.val w):=by kernel_rfl
end
end Mine
namespace Mine
noncomputable section
theorem tb_eq:treeTable = tbQ:=PySem.W.Fast.te14364793385576792824
theorem topGo_eq:@topGo = topGoQ:=PySem.W.Fast.te15667345088766844465
theorem segRunT_eq:@segRunT = segRunTQ:=PySem.W.Fast.te10110043849684766642
theorem denote_eq:@denote = denQ:=PySem.W.Fast.te11892475500146522536
theorem execs_eq:@execs = execsQ:=PySem.W.Fast.te12563942051412417395
theorem openSeen_eq:@openSeen = openSeenQ:=PySem.W.Fast.te4187177175401517315
/-- the head's parts joined,with no program in sight -/
theorem left_of {p q:Program} {loose:List Str} {Xt:Shared → Bool} {α:Type} {Yf:Shared → α} {Ya:World → α} {N M J:Nat} {H₀:Params → Heap} {gs₀:Array GenState} {d₀:Drawn} {k₀ m₀:Nat} {ann:Option Value}
    (open_:∀ w:World,(fencedOpening treeTable p w N).map (fun s=>(s.heap,s.gens,s.drawn,s.toks)) = some (H₀ w.params,gs₀,d₀,k₀))
    (size:∀ w:World,((H₀ w.params).isNs mainGlobals && gs₀.size == 0) = true∧(H₀ w.params).objs.size = m₀∧(H₀ w.params).nsMap mainGlobals "__annotations__" = ann)
    (run:∀ (w:World) (os:OsState),∃ s:Shared,topRun treeTable p w m₀ ann M ⟨H₀ w.params,gs₀,d₀,k₀,os⟩ (topStub p) = some s ∧
      (staticsOk (importedModules p.main.body) (H₀ w.params) s.heap && namesBound p s.heap && gensDone s && laidKept (H₀ w.params) s.heap) = true ∧
      openSeen q loose (importedModules p.main.body) Xt true s = openGood q loose∧Yf s = Ya w) (le:M + J = N):LeftO p q loose Xt Yf Ya N:=by
  intro w
  obtain ⟨⟨h,gs,d,k,os⟩,e,e'⟩:=Option.map_eq_some_iff.mp (open_ w)
  obtain ⟨rfl,rfl,rfl,rfl⟩:h = H₀ w.params∧gs = gs₀∧d = d₀∧k = k₀:=by simpa using e'
  obtain ⟨z1,z2,z3⟩:=size w
  obtain ⟨s,r,l1,l2,l3⟩:=run w os
  have r:=topRun_mono J _ _ _ _ r
  rw [le] at r
  have t:topFrom treeTable p w N ⟨H₀ w.params,gs,d,k,os⟩ = some s:=by
    unfold topFrom
    dsimp only
    rw [z1,z2,z3,r]
    show (match staticsOk (importedModules p.main.body) (H₀ w.params) s.heap && namesBound p s.heap && gensDone s && laidKept (H₀ w.params) s.heap with | true=>_ | false=>_) = _
    rw [l1]
  unfold openEnds
  rw [e]
  show (topFrom treeTable p w N _).map _ = _
  rw [t]
  exact congrArg some (Prod.ext l2 l3)
theorem run_of {p:Program} {w:World} {m₀:Nat} {ann:Option Value} {s₀ s₁:Shared} {sT s:SharedT} {b:List Stmt} {env:Env} {c:Code} {pos p' q:Pos} {tq:String → Option Builtin} {stub t:Thread} {n₁ n₂:Nat}
    {tg:(String → Option Builtin) → Program → World → Nat → Option Value → Nat → Shared → Thread → Option (Shared × Thread)}
    {sr:(String → Option Builtin) → Program → World → Nat → Option Value → Nat → Nat → SharedT → Thread → Option (Flow × SharedT × Code × Pos)}
    {dn:(String → Option Builtin) → Code → Sem Fin} {ex:List Stmt → Env → Sem Flow}
    (e1:treeTable = tq) (e2:@topGo = tg) (e3:@segRunT = sr) (e4:@denote = dn) (e5:@execs = ex) (hc:c = .body b env)
    (pre:tg tq p w m₀ ann n₁ s₀ stub = some (s₁,⟨dn tq c,c,pos,[topFrame q]⟩))
    (block:segRun treeTable p w m₀ ann 1 1 s₁ (blockOf b env c pos [topFrame q]) = some (.next,s₁,c,pos))
    (hs:sT.abs = s₁)
    (ht:t = ⟨(ex b env).wrap doneF deadEnd id id,c,pos,[topFrame q]⟩)
    (main:sr tq p w m₀ ann 1 n₂ sT t = some (.next,s,c,p')):topRun treeTable p w m₀ ann (n₁ + (1 + (n₂ + 2))) s₀ stub = some s.abs:=by
  subst e1 e2 e3 e4 e5 hs ht hc
  have fin:topRun treeTable p w m₀ ann 2 s.abs ⟨doneF .next,.body b env,p',[topFrame q]⟩ = some s.abs:=by
    obtain ⟨h,g,d,t,o⟩:=s
    rfl
  have a:=piece_app (rest:=[]) (segRun_of main) (piece_nil fin)
  rw [List.append_nil] at a
  exact go_top pre (piece_block block a)
end
end Mine
namespace Mine
noncomputable section
theorem block_p (w:World) (os:OsState):segRun treeTable qp w 11 (some (.ref 6)) 1 1 (Sa w os) (blockOf mbody menv mcode zp [topFrame zp]) = some (.next,Sa w os,mcode,zp):=by
  kernel_rfl
theorem open_q:∀ w:World,(fencedOpening treeTable qp w 9000).map (fun s=>(s.heap,s.gens,s.drawn,s.toks)) = some (boot_heap w.params,#[],boot_drawn,boot_toks):=
  boot_open (by kernel_rfl) (by kernel_rfl) (fun _=>rfl)
theorem size_q2:∀ w:World,((boot_heap w.params).isNs mainGlobals && (#[]:Array GenState).size == 0) = true∧(boot_heap w.params).objs.size = 11∧(boot_heap w.params).nsMap mainGlobals "__annotations__" = some (.ref 6):=fun w=>
  ⟨by kernel_rfl,by kernel_rfl,by kernel_rfl⟩
theorem look_parts {α β γ δ ε:Type} {x:Option (α × δ × β × γ)} {f:δ → Bool} {g:δ → ε} {k:δ → List (Option Obj)} {a:α} {b:β} {c:γ} {e:ε} {l:List (Option Obj)}
    (h:x.map (fun r=>(r.1,r.2.2,f r.2.1,g r.2.1,k r.2.1)) = some (a,(b,c),true,e,l)):∃ s,x = some (a,s,b,c)∧f s = true∧g s = e∧k s = l:=by
  cases x with
  | none=>cases h
  | some r=>
    obtain ⟨r1,s,r2,r3⟩:=r
    simp only [Option.map_some,Option.some.injEq,Prod.mk.injEq] at h
    obtain ⟨rfl,⟨rfl,rfl⟩,h1,h2,h3⟩:=h
    exact ⟨s,rfl,h1,h2,h3⟩
theorem main_p (w:World) (os:OsState):∃ s:SharedT,mainR w os = some (.next,s,mcode,fpos) ∧
    (staticsOk mods (boot_heap w.params) s.abs.heap && namesBound qp s.abs.heap && gensDone s.abs && laidKept (boot_heap w.params) s.abs.heap) = true ∧
    openSeenQ qv loose mods (fun _=>true) true s.abs = openGood qv loose∧hK.obs s.abs = hK.val w:=look_parts (look_q w os)
theorem run_q (w:World) (os:OsState):∃ s:Shared,topRun treeTable qp w 11 (some (.ref 6)) (12 + (1 + (8040 + 2))) (S0 w os) (topStub qp) = some s ∧
    (staticsOk mods (boot_heap w.params) s.heap && namesBound qp s.heap && gensDone s && laidKept (boot_heap w.params) s.heap) = true ∧
    openSeenQ qv loose mods (fun _=>true) true s = openGood qv loose∧hK.obs s = hK.val w:=by
  obtain ⟨s,h1,h2⟩:=main_p w os
  exact ⟨s.abs,run_of tb_eq topGo_eq segRunT_eq denote_eq execs_eq rfl (pre_q w os) (block_p w os) (SB_abs w os) rfl h1,h2⟩
theorem left_q:LeftO qp qv loose (fun _=>true) hK.obs hK.val 9000:=by
  refine left_of (M:=12 + (1 + (8040 + 2))) (J:=945) open_q size_q2 ?_ (by rfl)
  intro w os
  obtain ⟨s,h1,h2,h3,h4⟩:=run_q w os
  rw [← openSeen_eq] at h3
  exact ⟨s,h1,h2,h3,h4⟩
end
end Mine
namespace Mine
noncomputable section
noncomputable def dLaw:DefRec:=match topS 29 with
  | .FunctionDef name args body _ _ _ scope _ _ pos=>{ name,params:=args,body,scope,pos }
  | _=>{ name:=nLaw,params:=⟨[],[],none,[],[],none,[]⟩,body:=[],scope:=⟨.function,[],false,false,[]⟩,pos:=zp }
theorem def_q:defOf qv ql.row.name = some (dLaw,[]):=by kernel_rfl
theorem theDef_q:ql.row.prog.theDef ql.row.name = some (dLaw.params,dLaw.body,dLaw.scope):=by kernel_rfl
theorem kw_q:kwWritten? dLaw.params.kwonlyargs dLaw.params.kw_defaults = some []:=by kernel_rfl
theorem ok_q:(chainsOk qv && opensWell ql.row.prog && (frees ql.row.toRowW && ql.row.toRowW.within.isEmpty)) = true:=by kernel_rfl
theorem bare_q:ql.row.prog.bare:=⟨rfl,rfl,rfl,rfl,rfl,by decide +kernel⟩
theorem promised_q:ql.row.toRowW.promised:=⟨[.list []],by kernel_rfl,by kernel_rfl⟩
theorem of_walk (said:ql.row.wellSaid = true) (walk:WalkO qv loose (fun _ _=>True) hK.says ql.row.toRowW dLaw [] fun f vs=>PySem.call f vs):ql.row.Holds:=
  holds_open (q:=qv) (loose:=loose) (Xt:=fun _=>true) (XP:=fun _ _=>True) (Yf:=hK.obs) (Ya:=hK.val) (YP:=hK.says) (N:=9000) left_q hK.of hK.keeps (fun _ _=>trivial) (fun _ _ _ _ _=>trivial)
    def_q theDef_q kw_q (fun _ _=>recFacts_nil rfl) rfl said ok_q bare_q promised_q walk
end
end Mine
end
section
open PySem PySem.W PySem.Calls PyProof.Rows
set_option maxRecDepth 100000
set_option genSizeOfSpec false
namespace Mine
/-! names by number -/
noncomputable def cdL:List Nat → Nat
  | []=>0
  | c :: r=>cdL r * 128 + (c + 1)
noncomputable def okL:List Nat → Bool
  | []=>true
  | c :: r=>Nat.ble c 126 && okL r
noncomputable def cd (x:Str):Nat:=match okL x.cps.toList with
  | true=>cdL x.cps.toList
  | false=>0
theorem cdL_inj:∀ {l m:List Nat},okL l = true → okL m = true → cdL l = cdL m → l = m
  | [],[],_,_,_=>rfl
  | [],c :: m,_,_,h=>by simp only [cdL] at h; omega
  | c :: l,[],_,_,h=>by simp only [cdL] at h; omega
  | c :: l,d :: m,h1,h2,h=>by
    simp only [okL,Bool.and_eq_true,Nat.ble_eq] at h1 h2
    simp only [cdL] at h
    have e1:c = d:=by omega
    have e2:cdL l = cdL m:=by omega
    rw [e1,cdL_inj h1.2 h2.2 e2]
theorem cd_ok {x:Str} (h:cd x ≠ 0):okL x.cps.toList = true∧cd x = cdL x.cps.toList:=by
  unfold cd at h ⊢
  cases e:okL x.cps.toList with
  | true=>exact ⟨rfl,rfl⟩
  | false=>rw [e] at h; exact absurd rfl h
theorem cd_inj {x y:Str} (h:cd x = cd y) (hx:cd x ≠ 0):x = y:=by
  obtain ⟨a,b⟩:=cd_ok hx
  obtain ⟨c,d⟩:=cd_ok (h ▸ hx)
  have:=cdL_inj a c (by rw [← b,← d,h])
  cases x; cases y
  simp only [Str.mk.injEq]
  exact Array.toList_inj.mp this
/-! tables by number -/
noncomputable def gt {α:Type}:List (Nat × α) → Nat → Option α
  | [],_=>none
  | p :: r,k=>match Nat.beq p.1 k with
    | true=>some p.2
    | false=>gt r k
noncomputable def pt {α:Type}:List (Nat × α) → Nat → α → List (Nat × α)
  | [],k,v=>[(k,v)]
  | p :: r,k,v=>match Nat.beq p.1 k with
    | true=>(k,v) :: r
    | false=>p :: pt r k v
theorem beq_dec (a b:Nat):Nat.beq a b = decide (a = b):=BT.beq_eq a b
theorem gt_pt {α:Type} (l:List (Nat × α)) (k:Nat) (v:α) (j:Nat):gt (pt l k v) j = if k = j then some v else gt l j:=by
  induction l with
  | nil=>
    simp only [pt,gt,beq_dec]
    by_cases h:k = j <;> simp [h]
  | cons p r ih=>
    simp only [pt,beq_dec]
    by_cases h:p.1 = k
    · simp only [h,decide_true,gt,beq_dec]
      by_cases q:k = j
      · simp [q]
      · simp [q]
    · simp only [h,decide_false,gt,beq_dec,ih]
      by_cases q:p.1 = j
      · have:k ≠ j:=fun z=>h (q.trans z.symm)
        simp [q,this]
      · simp [q]
/-! values -/
inductive AV where
  | none
  | bool (b:Bool)
  | int (i:Int)
  | str (x:Str)
  | tup (l:List AV)
  | loc (n:Nat)
  | stat (v:Value)
  | fl (l:List AV)
  | sb (b:Bool)
  | si (i:Int)
  | ss (x:Str)
  | so (o:Option Str)
  | io (o:Option Int)
  | sl (l:List AV)
  deriving Inhabited
inductive AObj where
  | inst (C:Addr) (at_:List (Nat × AV))
  | list (l:List AV)
  | dict (kv:List (Str × AV))
  | set (l:List Str)
  | slist (l:List AV)
  | edict
  deriving Inhabited
noncomputable abbrev Frozen:=Addr → Option Obj
noncomputable def Imm (o:Obj):Prop:=∃ vs ep,o.data = .seq vs ep
mutual
inductive VR (J:Frozen) (nx:Nat) (ρ:Nat → Addr):AV → Value → Prop
  | none:VR J nx ρ .none .none
  | bool {b}:VR J nx ρ (.bool b) (.bool b)
  | int {i t}:VR J nx ρ (.int i) (.int i t)
  | str {x t}:VR J nx ρ (.str x) (.str x t)
  | loc {n} (h:n < nx):VR J nx ρ (.loc n) (.ref (ρ n))
  | stat {v}:VR J nx ρ (.stat v) v
  | tup {l a vs ep} (h:J a = some ⟨.type "tuple",none,.seq vs ep,#[]⟩) (hs:VRs J nx ρ l vs.toList):VR J nx ρ (.tup l) (.ref a)
  | fl {l a vs ep} (h:J a = some ⟨.type "list",none,.seq vs ep,#[]⟩) (hs:VRs J nx ρ l vs.toList):VR J nx ρ (.fl l) (.ref a)
  | sb {b}:VR J nx ρ (.sb b) (.bool b)
  | si {i t}:VR J nx ρ (.si i) (.int i t)
  | ss {x t}:VR J nx ρ (.ss x) (.str x t)
  | son:VR J nx ρ (.so none) .none
  | sos {x t}:VR J nx ρ (.so (some x)) (.str x t)
  | ion:VR J nx ρ (.io none) .none
  | ios {x t}:VR J nx ρ (.io (some x)) (.int x t)
  | sl {l a vs ep} (h:J a = some ⟨.type "list",none,.seq vs ep,#[]⟩) (hs:VRs J nx ρ l vs.toList):VR J nx ρ (.sl l) (.ref a)
inductive VRs (J:Frozen) (nx:Nat) (ρ:Nat → Addr):List AV → List Value → Prop
  | nil:VRs J nx ρ [] []
  | cons {a l v vs} (h:VR J nx ρ a v) (hs:VRs J nx ρ l vs):VRs J nx ρ (a :: l) (v :: vs)
end
structure Grow (J:Frozen) (nx:Nat) (ρ:Nat → Addr) (J':Frozen) (nx':Nat) (ρ':Nat → Addr):Prop where
  j:∀ a o,J a = some o → Imm o → J' a = some o
  n:nx ≤ nx'
  r:∀ n,n < nx → ρ' n = ρ n
theorem Grow.refl {J nx ρ}:Grow J nx ρ J nx ρ:=⟨fun _ _ h _=>h,Nat.le_refl _,fun _ _=>rfl⟩
theorem Grow.trans {J nx ρ J' nx' ρ' J'' nx'' ρ''} (a:Grow J nx ρ J' nx' ρ') (b:Grow J' nx' ρ' J'' nx'' ρ''):Grow J nx ρ J'' nx'' ρ'':=
  ⟨fun x o h i=>b.j x o (a.j x o h i) i,Nat.le_trans a.n b.n,fun n h=>(b.r n (Nat.lt_of_lt_of_le h a.n)).trans (a.r n h)⟩
mutual
theorem VR.mono {J nx ρ J' nx' ρ'} (g:Grow J nx ρ J' nx' ρ'):∀ {a v},VR J nx ρ a v → VR J' nx' ρ' a v
  | _,_,.none=>.none
  | _,_,.bool=>.bool
  | _,_,.int=>.int
  | _,_,.str=>.str
  | _,_,.loc h=>by rw [← g.r _ h]; exact .loc (Nat.lt_of_lt_of_le h g.n)
  | _,_,.stat=>.stat
  | _,_,.tup h hs=>.tup (g.j _ _ h ⟨_,_,rfl⟩) (hs.mono g)
  | _,_,.fl h hs=>.fl (g.j _ _ h ⟨_,_,rfl⟩) (hs.mono g)
  | _,_,.sb=>.sb
  | _,_,.si=>.si
  | _,_,.ss=>.ss
  | _,_,.son=>.son
  | _,_,.sos=>.sos
  | _,_,.ion=>.ion
  | _,_,.ios=>.ios
  | _,_,.sl h hs=>.sl (g.j _ _ h ⟨_,_,rfl⟩) (hs.mono g)
theorem VRs.mono {J nx ρ J' nx' ρ'} (g:Grow J nx ρ J' nx' ρ'):∀ {a v},VRs J nx ρ a v → VRs J' nx' ρ' a v
  | _,_,.nil=>.nil
  | _,_,.cons h hs=>.cons (h.mono g) (hs.mono g)
end
theorem VRs.length {J nx ρ}:∀ {l vs},VRs J nx ρ l vs → l.length = vs.length
  | _,_,.nil=>rfl
  | _,_,.cons _ hs=>by simp only [List.length_cons,hs.length]
theorem VRs.app {J nx ρ}:∀ {l vs m ws},VRs J nx ρ l vs → VRs J nx ρ m ws → VRs J nx ρ (l ++ m) (vs ++ ws)
  | _,_,_,_,.nil,h=>h
  | _,_,_,_,.cons h hs,k=>.cons h (hs.app k)
/-! objects -/
noncomputable def AttR (J:Frozen) (nx:Nat) (ρ:Nat → Addr):Option AV → Option Value → Prop
  | none,none=>True
  | some a,some v=>VR J nx ρ a v
  | _,_=>False
noncomputable def feet (h:Heap) (a:Addr):List Addr:=a :: (match h.get? a with | some o=>o.dict.toList | none=>[])
inductive KVR {κ:Type} (J:Frozen) (nx:Nat) (ρ:Nat → Addr):List (κ × AV) → List (κ × Value) → Prop
  | nil:KVR J nx ρ [] []
  | cons {k a v l vs} (h:VR J nx ρ a v) (hs:KVR J nx ρ l vs):KVR J nx ρ ((k,a) :: l) ((k,v) :: vs)
theorem KVR.mono {κ:Type} {J nx ρ J' nx' ρ'} (g:Grow J nx ρ J' nx' ρ'):∀ {l:List (κ × AV)} {vs},KVR J nx ρ l vs → KVR J' nx' ρ' l vs
  | _,_,.nil=>.nil
  | _,_,.cons h hs=>.cons (h.mono g) (hs.mono g)
structure Cx where
  prog:Program
  w:World
  h₀:Heap
  os:OsState
/-- a name table of a bounded size -/
noncomputable def NsZ (h:Heap) (a:Addr) (m:Str → Option Value) (z:Nat):Prop:=∃ o es ep,h.get? a = some o∧o.data = .dict es ep∧StrKeys es∧(∀ x,nsFind es x = m x)∧es.size ≤ z
theorem NsZ.ns {h:Heap} {a:Addr} {m:Str → Option Value} {z:Nat} (x:NsZ h a m z):h.Ns a m:=let ⟨o,es,ep,e,d,k,f,_⟩:=x; ⟨o,es,ep,e,d,k,f⟩
inductive OR (X:Cx) (h:Heap) (J:Frozen) (nx:Nat) (ρ:Nat → Addr) (a:Addr):AObj → Prop
  | inst {C at_ dx m} (h1:h.get? a = some (instObj C dx)) (h2:NsZ h dx m at_.length) (h3:dx ≠ a) (h4:∀ x,cd x ≠ 0 → AttR J nx ρ (gt at_ (cd x)) (m x)):OR X h J nx ρ a (.inst C at_)
  | list {l vs ep} (h1:h.get? a = some ⟨.type "list",none,.seq vs ep,#[]⟩) (h2:VRs J nx ρ l vs.toList):OR X h J nx ρ a (.list l)
  | dict {kv vs} (h1:h.DictOf (PySem.strKind X.prog X.w) a vs) (h2:KVR J nx ρ kv vs):OR X h J nx ρ a (.dict kv)
  | slist {l vs ep} (h1:h.get? a = some ⟨.type "list",none,.seq vs ep,#[]⟩) (h2:VRs J nx ρ l vs.toList):OR X h J nx ρ a (.slist l)
  | edict (h1:h.DictOf (PySem.strKind X.prog X.w) a []) (h2:h.DictOf (PySem.intKind X.prog X.w) a []):OR X h J nx ρ a .edict
  | set {l} (h1:h.SetOf (PySem.strKind X.prog X.w) a (fun x=>l.contains x) l.length):OR X h J nx ρ a (.set l)
theorem AttR.mono {J nx ρ J' nx' ρ'} (g:Grow J nx ρ J' nx' ρ'):∀ {a v},AttR J nx ρ a v → AttR J' nx' ρ' a v
  | none,none,h=>h
  | some _,some _,h=>VR.mono g h
  | none,some _,h=>h.elim
  | some _,none,h=>h.elim
/-- the running frame,and those that wait -/
structure Lk where
  a:Addr
  up:List Addr
noncomputable def fcls:Value:=.type "frame that waits"
noncomputable def Marked (o:Obj):Prop:=o.cls = fcls∧∃ es n,o.data = .dict es n
/-- kept as it was; a frame that waits: its names -/
noncomputable def Held (h₀ h:Heap) (a:Addr) (o:Obj):Prop:=h.get? a = some o ∨ (Marked o∧h₀.get? a = none∧∃ o',h.get? a = some o'∧o'.data = o.data)
theorem Held.of {h₀ h h':Heap} {a:Addr} {o:Obj} (x:Held h₀ h a o) (k:∀ ob,h.get? a = some ob → h'.get? a = some ob):Held h₀ h' a o:=by
  rcases x with e | ⟨m,n,o',e,d⟩
  · exact .inl (k _ e)
  · exact .inr ⟨m,n,o',k _ e,d⟩
theorem Held.some {h₀ h:Heap} {a:Addr} {o:Obj} (x:Held h₀ h a o):∃ o',h.get? a = some o'∧o'.data = o.data:=by
  rcases x with e | ⟨m,n,o',e,d⟩
  · exact ⟨_,e,rfl⟩
  · exact ⟨o',e,d⟩
theorem Held.exact {h₀ h:Heap} {a:Addr} {o:Obj} (x:Held h₀ h a o) (hc:o.cls ≠ fcls):h.get? a = .some o:=by
  rcases x with e | ⟨m,_⟩
  · exact e
  · exact absurd m.1 hc
structure Rel (X:Cx) (J:Frozen) (ρ:Nat → Addr) (L:Lk) (F:List (Nat × AV)) (σ:List (Nat × AObj)) (nx:Nat) (s:Shared):Prop where
  jh:∀ a o,J a = some o → Held X.h₀ s.heap a o
  up:∀ a ∈ L.up,∃ o,J a = some o∧Marked o∧X.h₀.get? a = none
  hj:∀ a o,X.h₀.get? a = some o → J a = some o
  gens:s.gens = #[]
  os:s.os = X.os
  Lj:J L.a = none
  fr:∃ m,s.heap.Ns L.a m∧∀ c av,gt F c = some av → ∃ x v,cd x = c∧c ≠ 0∧m x = some v∧VR J nx ρ av v
  st:∀ n o,gt σ n = some o → n < nx∧OR X s.heap J nx ρ (ρ n) o∧∀ a ∈ feet s.heap (ρ n),J a = none∧a ≠ L.a
  dj:∀ n n' o o',gt σ n = some o → gt σ n' = some o' → n ≠ n' → ∀ a ∈ feet s.heap (ρ n),a ∉ feet s.heap (ρ n')
theorem Rel.keep {X J ρ L F σ nx s} (R:Rel X J ρ L F σ nx s):∀ a o,X.h₀.get? a = some o → s.heap.get? a = some o:=fun a o h=>(R.jh a o (R.hj a o h)).elim id fun ⟨_,n,_⟩=>by rw [h] at n; cases n
theorem Rel.jx {X J ρ L F σ nx s} (R:Rel X J ρ L F σ nx s) {a:Addr} {o:Obj} (h:J a = some o) (hc:o.cls ≠ fcls:=by (intro z; exact absurd (Value.type.inj z) (by decide))):s.heap.get? a = some o:=(R.jh a o h).exact hc
theorem Rel.jn {X J ρ L F σ nx s} (R:Rel X J ρ L F σ nx s) {a:Addr} {o:Obj} (h:J a = some o) (n:s.heap.get? a = none):False:=by
  obtain ⟨o',e,_⟩:=(R.jh a o h).some
  rw [n] at e; cases e
theorem Rel.local {X J ρ L F σ nx s} (R:Rel X J ρ L F σ nx s) {x:Str} {av:AV} (h:gt F (cd x) = some av):∃ m v,s.heap.Ns L.a m∧m x = some v∧VR J nx ρ av v:=by
  obtain ⟨m,hm,hf⟩:=R.fr
  obtain ⟨y,v,h1,h2,h3,h4⟩:=hf _ _ h
  obtain rfl:y = x:=cd_inj h1 (h1 ▸ h2)
  exact ⟨m,v,hm,h3,h4⟩
end Mine
end
section
open PySem PySem.W PySem.Calls PyProof.Rows
set_option maxRecDepth 100000
set_option linter.unusedVariables false
namespace Mine
section
variable {X:Cx} {J J':Frozen} {ρ ρ':Nat → Addr} {L:Lk} {F:List (Nat × AV)} {σ:List (Nat × AObj)} {nx nx':Nat} {s s':Shared} {h h':Heap} {a:Addr} {o:AObj}
theorem feet_of {ob:Obj} (e:h.get? a = some ob):feet h a = a :: ob.dict.toList:=by unfold feet; rw [e]
theorem OR.there (x:OR X h J nx ρ a o):∃ ob,h.get? a = some ob:=by
  cases x with
  | inst h1=>exact ⟨_,h1⟩
  | list h1=>exact ⟨_,h1⟩
  | dict h1=>obtain ⟨ob,_,_,h,_⟩:=h1; exact ⟨_,h⟩
  | slist h1=>exact ⟨_,h1⟩
  | edict h1=>obtain ⟨ob,_,_,h,_⟩:=h1; exact ⟨_,h⟩
  | set h1=>obtain ⟨ob,_,_,_,h,_⟩:=h1; exact ⟨_,h⟩
theorem OR.feet_eq (x:OR X h J nx ρ a o) (k:∀ b ∈ feet h a,∀ ob,h.get? b = some ob → h'.get? b = some ob):feet h' a = feet h a:=by
  obtain ⟨ob,e⟩:=x.there
  rw [feet_of e,feet_of (k a (by rw [feet_of e]; exact .head _) _ e)]
theorem Ns_at {m:Str → Option Value} (x:h.Ns a m) (k:∀ ob,h.get? a = some ob → h'.get? a = some ob):h'.Ns a m:=
  let ⟨o,es,ep,e,r⟩:=x; ⟨o,es,ep,k _ e,r⟩
theorem NsZ_at {m:Str → Option Value} {z:Nat} (x:NsZ h a m z) (k:∀ ob,h.get? a = some ob → h'.get? a = some ob):NsZ h' a m z:=
  let ⟨o,es,ep,e,r⟩:=x; ⟨o,es,ep,k _ e,r⟩
theorem OR.at (x:OR X h J nx ρ a o) (k:∀ b ∈ feet h a,∀ ob,h.get? b = some ob → h'.get? b = some ob) (g:Grow J nx ρ J' nx' ρ'):OR X h' J' nx' ρ' a o:=by
  have ka:∀ ob,h.get? a = some ob → h'.get? a = some ob:=fun ob e=>k a (by unfold feet; exact .head _) ob e
  cases x with
  | inst h1 h2 h3 h4=>exact .inst (ka _ h1) (NsZ_at h2 fun ob e=>k _ (by rw [feet_of h1]; exact .tail _ (.head _)) ob e) h3 fun x hx=>(h4 x hx).mono g
  | list h1 h2=>exact .list (ka _ h1) (h2.mono g)
  | dict h1 h2=>exact .dict (h1.at ka) (h2.mono g)
  | slist h1 h2=>exact .slist (ka _ h1) (h2.mono g)
  | edict h1 h2=>exact .edict (h1.at ka) (h2.at ka)
  | set h1=>exact .set (let ⟨o,es,ep,t,e,r⟩:=h1; ⟨o,es,ep,t,ka _ e,r⟩)
theorem OR.feet_lt (x:OR X h J nx ρ a o):∀ b ∈ feet h a,∃ ob,h.get? b = some ob:=by
  obtain ⟨ob,e⟩:=x.there
  intro b hb
  rw [feet_of e] at hb
  rcases List.mem_cons.mp hb with rfl | hb
  · exact ⟨_,e⟩
  · cases x with
    | inst h1 h2=>
      rw [h1] at e; cases e
      obtain ⟨o2,_,_,e2,_⟩:=h2
      rcases List.mem_cons.mp hb with rfl | hb
      · exact ⟨_,e2⟩
      · cases hb
    | list h1=>rw [h1] at e; cases e; cases hb
    | dict h1=>obtain ⟨o2,_,_,e2,x2,_⟩:=h1; rw [e2] at e; cases e; rw [x2.2.1] at hb; cases hb
    | slist h1=>rw [h1] at e; cases e; cases hb
    | edict h1=>obtain ⟨o2,_,_,e2,x2,_⟩:=h1; rw [e2] at e; cases e; rw [x2.2.1] at hb; cases hb
    | set h1=>obtain ⟨o2,_,_,_,e2,x2,_⟩:=h1; rw [e2] at e; cases e; rw [x2.2.1] at hb; cases hb
/-- the store's objects as they were,all else anew -/
theorem Rel.same (R:Rel X J ρ L F σ nx s) (g:Grow J nx ρ J' nx ρ) (hk:∀ b ob,J b = none → b ≠ L.a → s.heap.get? b = some ob → s'.heap.get? b = some ob)
    (jh:∀ b ob,J' b = some ob → Held X.h₀ s'.heap b ob) (hj:∀ b ob,X.h₀.get? b = some ob → J' b = some ob) (hg:s'.gens = #[]) (ho:s'.os = X.os)
    (new:∀ b,J' b ≠ none → J b ≠ none ∨ b = L.a ∨ s.heap.get? b = none) {L':Lk} {F':List (Nat × AV)} (hL:J' L'.a = none) (hL':L' = L ∨ J L'.a ≠ none ∨ s.heap.get? L'.a = none)
    (fr:∃ m,s'.heap.Ns L'.a m∧∀ c av,gt F' c = some av → ∃ x v,cd x = c∧c ≠ 0∧m x = some v∧VR J' nx ρ av v) (up:∀ a ∈ L'.up,∃ o,J' a = some o∧Marked o∧X.h₀.get? a = none):Rel X J' ρ L' F' σ nx s':=by
  have kk:∀ n o,gt σ n = some o → ∀ b ∈ feet s.heap (ρ n),∀ ob,s.heap.get? b = some ob → s'.heap.get? b = some ob:=fun n o e b hb ob q=>
    hk b ob ((R.st n o e).2.2 b hb).1 ((R.st n o e).2.2 b hb).2 q
  have fe:∀ n o,gt σ n = some o → feet s'.heap (ρ n) = feet s.heap (ρ n):=fun n o e=>(R.st n o e).2.1.feet_eq (kk n o e)
  refine ⟨jh,up,hj,hg,ho,hL,fr,fun n o e=>⟨(R.st n o e).1,(R.st n o e).2.1.at (kk n o e) g,fun b hb=>?_⟩,fun n n' o o' e e' d b hb=>?_⟩
  · rw [fe n o e] at hb
    obtain ⟨ob,q⟩:=(R.st n o e).2.1.feet_lt b hb
    obtain ⟨q1,q2⟩:=(R.st n o e).2.2 b hb
    refine ⟨?_,?_⟩
    · cases z:J' b with
      | none=>rfl
      | some ob'=>
        rcases new b (by rw [z]; exact fun w=>by cases w) with w | w | w
        · exact absurd q1 w
        · exact absurd w q2
        · rw [q] at w; cases w
    · rcases hL' with rfl | w | w
      · exact q2
      · intro z; subst z; exact w q1
      · intro z; subst z; rw [q] at w; cases w
  · rw [fe n o e] at hb
    rw [fe n' o' e']
    exact R.dj n n' o o' e e' d b hb
theorem Rel.L_some (R:Rel X J ρ L F σ nx s):∃ ob,s.heap.get? L.a = some ob:=let ⟨_,h,_⟩:=R.fr; let ⟨o,_,_,e,_⟩:=h; ⟨o,e⟩
theorem fresh_none (h:Heap):h.get? h.objs.size = none:=by
  cases e:h.get? h.objs.size with
  | none=>rfl
  | some o=>exact absurd (Heap.lt_size e) (Nat.lt_irrefl _)
/-- an object that nobody keeps -/
theorem Rel.push (R:Rel X J ρ L F σ nx s) (ob:Obj) (t:Nat):Rel X J ρ L F σ nx { s with heap:=s.heap.push ob,toks:=t }:=
  R.same (s':={ s with heap:=s.heap.push ob,toks:=t }) .refl (fun b o _ _ e=>Heap.get?_push_of_some _ e) (fun b o e=>(R.jh b o e).of fun _=>Heap.get?_push_of_some _) R.hj R.gens R.os (fun b e=>.inl e) R.Lj (.inl rfl)
    (let ⟨m,a,b⟩:=R.fr; ⟨m,a.push _,b⟩) R.up
theorem Rel.toks (R:Rel X J ρ L F σ nx s) (t:Nat):Rel X J ρ L F σ nx { s with toks:=t }:=
  R.same (s':={ s with toks:=t }) .refl (fun b o _ _ e=>e) R.jh R.hj R.gens R.os (fun b e=>.inl e) R.Lj (.inl rfl) R.fr R.up
/-- freeze a new object -/
noncomputable def put (J:Frozen) (a:Addr) (o:Obj):Frozen:=fun b=>if b = a then some o else J b
theorem put_grow {ob:Obj} (e:J a = none):Grow J nx ρ (put J a ob) nx ρ:=⟨fun b o q _=>by unfold put; split; (rename_i z; rw [z,e] at q; cases q); exact q,Nat.le_refl _,fun _ _=>rfl⟩
theorem Rel.J_fresh (R:Rel X J ρ L F σ nx s):J s.heap.objs.size = none:=by
  cases e:J s.heap.objs.size with
  | none=>rfl
  | some o=>exact absurd (Heap.lt_size (R.jh _ _ e).some.choose_spec.1) (Nat.lt_irrefl _)
theorem Rel.up_put (R:Rel X J ρ L F σ nx s) {I:Addr} {ob:Obj} (h:J I = none):∀ a ∈ L.up,∃ o,put J I ob a = some o∧Marked o∧X.h₀.get? a = none:=fun a ha=>by
  obtain ⟨o,e,m⟩:=R.up a ha
  refine ⟨o,?_,m⟩
  unfold put
  rw [if_neg (fun z=>by rw [z,h] at e; cases e)]
  exact e
theorem Rel.freeze (R:Rel X J ρ L F σ nx s) {ob:Obj} (hf:ob.isFreed = false) (t:Nat):Rel X (put J s.heap.objs.size ob) ρ L F σ nx { s with heap:=s.heap.push ob,toks:=t }:=by
  have g:Grow J nx ρ (put J s.heap.objs.size ob) nx ρ:=put_grow R.J_fresh
  refine R.same (s':={ s with heap:=s.heap.push ob,toks:=t }) g (fun b o _ _ e=>Heap.get?_push_of_some _ e) (fun b o e=>?_) (fun b o e=>?_) R.gens R.os (fun b e=>?_) ?_ (.inl rfl)
    (let ⟨m,a,b⟩:=R.fr; ⟨m,a.push _,fun c av q=>let ⟨x,v,h1,h2,h3,h4⟩:=b c av q; ⟨x,v,h1,h2,h3,h4.mono g⟩⟩) (R.up_put R.J_fresh)
  · unfold put at e
    split at e
    · rename_i z; cases e; rw [z]; exact .inl (Heap.get?_push_size _ hf)
    · exact (R.jh b o e).of fun _=>Heap.get?_push_of_some _
  · unfold put
    split
    · rename_i z; have:=R.hj b o e; rw [z,R.J_fresh] at this; cases this
    · exact R.hj b o e
  · unfold put at e
    split at e
    · rename_i z; right; right; rw [z]; exact fresh_none _
    · left; exact e
  · unfold put
    split
    · rename_i z
      obtain ⟨o,q⟩:=R.L_some
      exact absurd (Heap.lt_size q) (by rw [z]; exact Nat.lt_irrefl _)
    · exact R.Lj
/-- a name of the frame stored -/
theorem Rel.store (R:Rel X J ρ L F σ nx s) {x:Str} {av:AV} {v:Value} (hx:cd x ≠ 0) (hv:VR J nx ρ av v) {h':Heap} {m:Str → Option Value} (hm:s.heap.Ns L.a m)
    (hm':h'.Ns L.a (fun y=>if y = x then some v else m y)) (hs:Heap.SameBut L.a s.heap h') (t:Nat):Rel X J ρ L (pt F (cd x) av) σ nx { s with heap:=h',toks:=t }:=by
  refine R.same (s':={ s with heap:=h',toks:=t }) .refl (fun b o _ hb e=>(hs.2 b hb).trans e) (fun b o e=>?_) R.hj R.gens R.os (fun b e=>.inl e) R.Lj (.inl rfl) ⟨_,hm',fun c av' q=>?_⟩ R.up
  · refine (R.jh b o e).of fun _ q=>(hs.2 b fun z=>?_).trans q
    rw [z,R.Lj] at e; cases e
  · rw [gt_pt] at q
    split at q
    · rename_i z; cases q; exact ⟨x,v,z,z ▸ hx,by simp,hv⟩
    · rename_i z
      obtain ⟨m2,hm2,hf⟩:=R.fr
      obtain ⟨y,w,h1,h2,h3,h4⟩:=hf c av' q
      refine ⟨y,w,h1,h2,?_,h4⟩
      have:y ≠ x:=fun e=>z (by rw [← e,h1])
      simp only [this,if_false]
      obtain ⟨o1,e1,p1,g1,d1,k1,f1⟩:=hm
      obtain ⟨o2,e2,p2,g2,d2,k2,f2⟩:=hm2
      rw [g1] at g2; cases g2
      rw [d1] at d2; cases d2
      rw [← f1,f2,h3]
end
end Mine
namespace Mine
section
variable {X:Cx} {J J':Frozen} {ρ ρ':Nat → Addr} {L:Lk} {F:List (Nat × AV)} {σ:List (Nat × AObj)} {nx nx':Nat} {s s':Shared} {h h':Heap} {a:Addr} {o o':AObj}
noncomputable def at_ (ρ:Nat → Addr) (nx:Nat) (a:Addr):Nat → Addr:=fun n=>if n = nx then a else ρ n
theorem at_grow:Grow J nx ρ J (nx + 1) (at_ ρ nx a):=⟨fun _ _ h _=>h,Nat.le_succ _,fun n h=>by unfold at_; rw [if_neg (Nat.ne_of_lt h)]⟩
/-- an object onto the store -/
theorem Rel.new (R:Rel X J ρ L F σ nx s) (k:∀ b ob,s.heap.get? b = some ob → h'.get? b = some ob) (x:OR X h' J (nx + 1) (at_ ρ nx a) a o) (fr:∀ b ∈ feet h' a,s.heap.get? b = none) (t:Nat) :
    Rel X J (at_ ρ nx a) L F ((nx,o) :: σ) (nx + 1) { s with heap:=h',toks:=t }:=by
  have g:Grow J nx ρ J (nx + 1) (at_ ρ nx a):=at_grow
  have old:∀ n o,gt σ n = some o → at_ ρ nx a n = ρ n:=fun n o e=>g.r n (R.st n o e).1
  have fe:∀ n o,gt σ n = some o → feet h' (ρ n) = feet s.heap (ρ n):=fun n o e=>(R.st n o e).2.1.feet_eq fun b _ ob q=>k b ob q
  have here:at_ ρ nx a nx = a:=by unfold at_; rw [if_pos rfl]
  have apart:∀ n o,gt σ n = some o → ∀ b ∈ feet s.heap (ρ n),b ∉ feet h' a:=fun n o e b hb hb'=>by
    obtain ⟨ob,q⟩:=(R.st n o e).2.1.feet_lt b hb
    rw [fr b hb'] at q; cases q
  refine ⟨fun b ob e=>(R.jh b ob e).of fun _ q=>k _ _ q,R.up,R.hj,R.gens,R.os,R.Lj,?_,fun n o e=>?_,fun n n' o o' e e' d b hb=>?_⟩
  · obtain ⟨m,h1,h2⟩:=R.fr
    exact ⟨m,Ns_at h1 fun ob q=>k _ _ q,fun c av q=>let ⟨x,v,h1,h2,h3,h4⟩:=h2 c av q; ⟨x,v,h1,h2,h3,h4.mono g⟩⟩
  · by_cases z:nx = n
    · subst z
      simp only [gt,beq_dec,decide_true] at e
      cases e
      refine ⟨Nat.lt_succ_self _,by rw [here]; exact x,fun b hb=>?_⟩
      have hb:b ∈ feet h' a:=by rw [here] at hb; exact hb
      have q:=fr b hb
      refine ⟨?_,?_⟩
      · cases z:J b with
        | none=>rfl
        | some ob=>exact (R.jn z q).elim
      · intro z
        obtain ⟨ob,w⟩:=R.L_some
        rw [← z,q] at w; cases w
    · simp only [gt,beq_dec,decide_eq_false z] at e
      obtain ⟨h1,h2,h3⟩:=R.st n o e
      rw [old n o e]
      refine ⟨Nat.lt_succ_of_lt h1,h2.at (fun b _ ob q=>k b ob q) g,fun b hb=>?_⟩
      have hb:b ∈ feet h' (ρ n):=hb
      rw [fe n o e] at hb
      exact h3 b hb
  · by_cases z:nx = n <;> by_cases z':nx = n'
    · exact absurd (z.symm.trans z') d
    · subst z
      simp only [gt,beq_dec,decide_eq_false z'] at e'
      have hb:b ∈ feet h' a:=by rw [here] at hb; exact hb
      rw [old n' o' e']
      show b ∉ feet h' (ρ n')
      rw [fe n' o' e']
      exact fun w=>apart n' o' e' b w hb
    · subst z'
      simp only [gt,beq_dec,decide_eq_false z] at e
      have hb:b ∈ feet h' (ρ n):=by rw [old n o e] at hb; exact hb
      rw [fe n o e] at hb
      rw [here]
      exact apart n o e b hb
    · simp only [gt,beq_dec,decide_eq_false z] at e
      simp only [gt,beq_dec,decide_eq_false z'] at e'
      have hb:b ∈ feet h' (ρ n):=by rw [old n o e] at hb; exact hb
      rw [fe n o e] at hb
      rw [old n' o' e']
      show b ∉ feet h' (ρ n')
      rw [fe n' o' e']
      exact R.dj n n' o o' e e' d b hb
theorem VR.new:VR J (nx + 1) (at_ ρ nx a) (.loc nx) (.ref a):=by
  have:VR J (nx + 1) (at_ ρ nx a) (.loc nx) (.ref (at_ ρ nx a nx)):=.loc (Nat.lt_succ_self _)
  rwa [show at_ ρ nx a nx = a from by unfold at_; rw [if_pos rfl]] at this
/-- an object of the store changed -/
theorem Rel.upd (R:Rel X J ρ L F σ nx s) {n:Nat} (e:gt σ n = some o) (k:∀ b ob,b ∉ feet s.heap (ρ n) → s.heap.get? b = some ob → h'.get? b = some ob) (x:OR X h' J nx ρ (ρ n) o') (fe:feet h' (ρ n) = feet s.heap (ρ n)) (t:Nat) :
    Rel X J ρ L F (pt σ n o') nx { s with heap:=h',toks:=t }:=by
  obtain ⟨n1,n2,n3⟩:=R.st n o e
  have out:∀ b ob,J b = some ob → b ∉ feet s.heap (ρ n):=fun b ob q z=>by rw [(n3 b z).1] at q; cases q
  have Lout:L.a ∉ feet s.heap (ρ n):=fun z=>(n3 L.a z).2 rfl
  have others:∀ m o,m ≠ n → gt σ m = some o → ∀ b ∈ feet s.heap (ρ m),∀ ob,s.heap.get? b = some ob → h'.get? b = some ob:=fun m o d q b hb ob w=>k b ob (R.dj m n _ _ q e d b hb) w
  have fo:∀ m o,m ≠ n → gt σ m = some o → feet h' (ρ m) = feet s.heap (ρ m):=fun m o d q=>(R.st m o q).2.1.feet_eq (others m o d q)
  have all:∀ m o,gt (pt σ n o') m = some o → feet h' (ρ m) = feet s.heap (ρ m):=fun m o q=>by
    rw [gt_pt] at q
    split at q
    · rename_i z; rw [← z]; exact fe
    · rename_i z; exact fo m o (Ne.symm z) q
  refine ⟨fun b ob q=>(R.jh b ob q).of fun _ w=>k b _ (out b ob q) w,R.up,R.hj,R.gens,R.os,R.Lj,?_,fun m o q=>?_,fun m m' o1 o2 q q' d b hb=>?_⟩
  · obtain ⟨m,h1,h2⟩:=R.fr
    exact ⟨m,Ns_at h1 fun ob q=>k _ _ Lout q,h2⟩
  · have fm:=all m o q
    rw [gt_pt] at q
    split at q
    · rename_i z
      subst z; cases q
      exact ⟨n1,x,fun b hb=>n3 b (by rw [← fm]; exact hb)⟩
    · rename_i z
      obtain ⟨h1,h2,h3⟩:=R.st m o q
      exact ⟨h1,h2.at (others m o (Ne.symm z) q) .refl,fun b hb=>h3 b (by rw [← fm]; exact hb)⟩
  · have hb:b ∈ feet h' (ρ m):=hb
    show b ∉ feet h' (ρ m')
    rw [all m o1 q] at hb
    rw [all m' o2 q']
    have there:∀ m o,gt (pt σ n o') m = some o → ∃ o,gt σ m = some o:=fun m o q=>by
      rw [gt_pt] at q
      split at q
      · rename_i z; exact ⟨_,z ▸ e⟩
      · exact ⟨_,q⟩
    obtain ⟨p1,e1⟩:=there m o1 q
    obtain ⟨p2,e2⟩:=there m' o2 q'
    exact R.dj m m' p1 p2 e1 e2 d b hb
/-- what is no more asked is forgotten -/
theorem Rel.less (R:Rel X J ρ L F σ nx s) {σ':List (Nat × AObj)} (k:∀ n o,gt σ' n = some o → gt σ n = some o):Rel X J ρ L F σ' nx s:=
  ⟨R.jh,R.up,R.hj,R.gens,R.os,R.Lj,R.fr,fun n o e=>R.st n o (k n o e),fun n n' o o' e e'=>R.dj n n' o o' (k n o e) (k n' o' e')⟩
theorem Rel.loc_at (R:Rel X J ρ L F σ nx s) {n:Nat} {v:Value} (h:VR J nx ρ (.loc n) v):v = .ref (ρ n):=by cases h; rfl
end
end Mine
namespace Mine
/-! binding the arguments of a def without star parameters -/
noncomputable def slotsKw {α:Type} (names:List Str):List (Str × α) → List (Str × α) → Option (List (Str × α))
  | sl,[]=>some sl
  | sl,x :: r=>if names.contains x.1 = true then (if (sl.lookup x.1).isSome = true then none else slotsKw names (sl ++ [x]) r) else none
noncomputable def addDef {α:Type}:List (Str × α) → List (Str × α) → List (Str × α)
  | sl,[]=>sl
  | sl,x :: r=>addDef (if (sl.lookup x.1).isNone = true then sl ++ [x] else sl) r
noncomputable def bindG {α:Type} (names:List Str) (pos:List α) (kw:List (Str × α)) (dflt:List α):Option (List (Str × α)):=
  if names.length < pos.length then none else
  match slotsKw names (names.zip pos) kw with
  | none=>none
  | some sl=>
    if ((names.take (names.length - (dflt.drop (dflt.length - names.length)).length)).filter fun n=>(sl.lookup n).isNone).isEmpty = true then
      some (names.filterMap fun n=>((addDef sl ((names.drop (names.length - (dflt.drop (dflt.length - names.length)).length)).zip (dflt.drop (dflt.length - names.length)))).lookup n).map fun v=>(n,v))
    else none
theorem forIn_slots {β:Type} {names:List Str} {b:(Str × Value) → (List (Str × Value) × β) → Sem (ForInStep (List (Str × Value) × β))}
    (hb:∀ x s,names.contains x.1 = true → (s.1.lookup x.1).isSome = false → b x s = pure (.yield (s.1 ++ [x],s.2))):∀ (kw sl:List (Str × Value)) (ex:β) (sl':List (Str × Value)),
    slotsKw names sl kw = some sl' → forIn kw (sl,ex) b = pure (sl',ex)
  | [],sl,ex,sl',h=>by cases h; rfl
  | x :: r,sl,ex,sl',h=>by
    simp only [slotsKw] at h
    split at h
    · rename_i h1
      split at h
      · cases h
      · rename_i h2
        rw [List.forIn_cons,hb x (sl,ex) h1 (Bool.not_eq_true _ ▸ h2)]
        exact forIn_slots hb r _ ex sl' h
    · cases h
theorem forIn_defs {b:(Str × Value) → List (Str × Value) → Sem (ForInStep (List (Str × Value)))}
    (hb:∀ x s,b x s = pure (.yield (if (s.lookup x.1).isNone = true then s ++ [x] else s))):∀ (l sl:List (Str × Value)),forIn l sl b = pure (addDef sl l)
  | [],sl=>rfl
  | x :: r,sl=>by
    rw [List.forIn_cons,hb]
    exact forIn_defs hb r _
noncomputable def simpleP (p:Arguments):Bool:=p.posonlyargs.isEmpty && p.vararg.isNone && p.kwonlyargs.isEmpty && p.kwarg.isNone
noncomputable def namesOf (p:Arguments):List Str:=p.args.map (·.arg)
noncomputable def DfltAt (h:Heap) (d:Value) (dflt:List Value):Prop:=(d = .none∧dflt = []) ∨ ∃ T o ep,d = .ref T∧h.get? T = some o∧o.data = .seq dflt.toArray ep
theorem binds_simple {s:Shared} {fd:FuncData} {pos:List Value} {kw:List (Str × Value)} {dflt:List Value} {binds:List (Str × Value)} (hp:simpleP fd.params = true) (hd:DfltAt s.heap fd.defaults dflt)
    (h:bindG (namesOf fd.params) pos kw dflt = some binds):BindsTo s fd ⟨pos,kw⟩ binds:=by
  intro M A E Q hq
  simp only [simpleP,Bool.and_eq_true,List.isEmpty_iff,Option.isNone_iff_eq_none] at hp
  obtain ⟨⟨⟨h1,h2⟩,h3⟩,h4⟩:=hp
  unfold namesOf at h
  unfold bindG at h
  split at h
  · cases h
  rename_i hn
  split at h
  · cases h
  rename_i sl hs
  split at h
  · rename_i hm
    cases h
    unfold bindArgs
    simp only [h1,h2,h3,h4,List.map_nil,List.nil_append,List.append_nil,List.contains_nil,Bool.or_false,Option.isSome_none,Bool.false_eq_true,if_false]
    rw [forIn_slots (names:=List.map (fun x=>x.arg) fd.params.args) ?hb kw _ _ sl hs]
    case hb=>
      intro x t q1 q2
      rw [if_pos q1,q2]
      rfl
    refine wpAny_bind (wpAny_pure ?_)
    have look:wpAny M A (seqItems? fd.defaults) (fun r s'=>(r.getD #[]).toList = dflt∧s' = s) E s:=by
      rcases hd with ⟨e,rfl⟩ | ⟨T,o,ep,e,ho,hdat⟩
      · rw [e]; exact wpAny_bind (wpAny_pure (wpAny_pure ⟨rfl,rfl⟩))
      · rw [e]; exact wpAny_seqItems ho hdat ⟨rfl,rfl⟩
    refine wpAny_bind (wpAny_mono look (fun r s' hr=>?_) fun _ _ x=>x)
    obtain ⟨hr,rfl⟩:=hr
    rw [hr]
    rw [if_neg (by simp only [Bool.and_eq_true,decide_eq_true_eq]; omega)]
    dsimp only
    rw [if_neg (by rw [hm]; decide)]
    rw [forIn_defs ?hb]
    case hb=>intro x t; split <;> rfl
    refine wpAny_bind (wpAny_pure ?_)
    refine wpAny_bind (wpAny_pure ?_)
    exact wpAny_pure hq
  · cases h
end Mine
namespace Mine
section
variable {α β:Type} (f:α → β)
noncomputable abbrev mapV (l:List (Str × α)):List (Str × β):=l.map fun x=>(x.1,f x.2)
theorem lookup_mapV (l:List (Str × α)) (n:Str):(mapV f l).lookup n = (l.lookup n).map f:=by
  induction l with
  | nil=>rfl
  | cons x r ih=>
    show List.lookup n ((x.1,f x.2) :: mapV f r) = _
    obtain ⟨k,v⟩:=x
    simp only [List.lookup]
    cases n == k with
    | true=>rfl
    | false=>exact ih
theorem slotsKw_map (names:List Str):∀ (kw sl:List (Str × α)),slotsKw names (mapV f sl) (mapV f kw) = (slotsKw names sl kw).map (mapV f)
  | [],sl=>rfl
  | x :: r,sl=>by
    show slotsKw names (mapV f sl) ((x.1,f x.2) :: mapV f r) = _
    simp only [slotsKw,lookup_mapV,Option.isSome_map]
    split
    · split
      · rfl
      · have:=slotsKw_map names r (sl ++ [x])
        simp only [mapV,List.map_append,List.map_cons,List.map_nil] at this
        exact this
    · rfl
theorem addDef_map:∀ (l sl:List (Str × α)),addDef (mapV f sl) (mapV f l) = mapV f (addDef sl l)
  | [],sl=>rfl
  | x :: r,sl=>by
    show addDef (mapV f sl) ((x.1,f x.2) :: mapV f r) = _
    simp only [addDef,lookup_mapV,Option.isNone_map]
    have h:(if (sl.lookup x.1).isNone = true then mapV f sl ++ [(x.1,f x.2)] else mapV f sl) = mapV f (if (sl.lookup x.1).isNone = true then sl ++ [x] else sl):=by
      split <;> simp [mapV]
    rw [h]
    exact addDef_map r _
theorem zip_mapV (ns:List Str) (l:List α):ns.zip (l.map f) = mapV f (ns.zip l):=by
  induction ns generalizing l with
  | nil=>rfl
  | cons n r ih=>cases l with
    | nil=>rfl
    | cons x l=>simp only [List.map_cons,List.zip_cons_cons,mapV,ih]
theorem bindG_map (names:List Str) (pos:List α) (kw:List (Str × α)) (dflt:List α):bindG names (pos.map f) (mapV f kw) (dflt.map f) = (bindG names pos kw dflt).map (mapV f):=by
  unfold bindG
  rw [List.length_map]
  split
  · rfl
  · rw [zip_mapV,slotsKw_map]
    cases slotsKw names (names.zip pos) kw with
    | none=>rfl
    | some sl=>
      simp only [Option.map_some,List.length_map,← List.map_drop,zip_mapV,addDef_map,lookup_mapV,Option.isNone_map,Option.map_map]
      split
      · simp only [Option.map_some,mapV,List.map_filterMap,Option.map_map]
        rfl
      · rfl
end
section
variable {J:Frozen} {nx:Nat} {ρ:Nat → Addr}
noncomputable abbrev PV (J:Frozen) (nx:Nat) (ρ:Nat → Addr):={ p:AV × Value // VR J nx ρ p.1 p.2 }
theorem VRs.pairs:∀ {l:List AV} {vs:List Value},VRs J nx ρ l vs → ∃ ps:List (PV J nx ρ),l = ps.map (·.1.1)∧vs = ps.map (·.1.2)
  | _,_,.nil=>⟨[],rfl,rfl⟩
  | _,_,.cons (a:=a) (v:=v) h hs=>let ⟨ps,e1,e2⟩:=hs.pairs; ⟨⟨(a,v),h⟩ :: ps,by rw [e1]; rfl,by rw [e2]; rfl⟩
theorem KVR.pairs {κ:Type}:∀ {l:List (κ × AV)} {vs:List (κ × Value)},KVR J nx ρ l vs → ∃ ps:List (κ × PV J nx ρ),l = ps.map (fun x=>(x.1,x.2.1.1))∧vs = ps.map fun x=>(x.1,x.2.1.2)
  | _,_,.nil=>⟨[],rfl,rfl⟩
  | _,_,.cons (k:=k) (a:=a) (v:=v) h hs=>let ⟨ps,e1,e2⟩:=hs.pairs; ⟨(k,⟨(a,v),h⟩) :: ps,by rw [e1]; rfl,by rw [e2]; rfl⟩
theorem KVR.of_pairs {κ:Type} (ps:List (κ × PV J nx ρ)):KVR J nx ρ (ps.map fun x=>(x.1,x.2.1.1)) (ps.map fun x=>(x.1,x.2.1.2)):=by
  induction ps with
  | nil=>exact .nil
  | cons x r ih=>exact .cons x.2.2 ih
theorem bindG_rel {names:List Str} {pos:List AV} {kw:List (Str × AV)} {dflt:List AV} {b:List (Str × AV)} {posV:List Value} {kwV:List (Str × Value)} {dfltV:List Value}
    (hp:VRs J nx ρ pos posV) (hk:KVR J nx ρ kw kwV) (hd:VRs J nx ρ dflt dfltV) (h:bindG names pos kw dflt = some b):∃ bV,bindG names posV kwV dfltV = some bV∧KVR J nx ρ b bV:=by
  obtain ⟨p,rfl,rfl⟩:=hp.pairs
  obtain ⟨k,rfl,rfl⟩:=hk.pairs
  obtain ⟨d,rfl,rfl⟩:=hd.pairs
  have m1:=bindG_map (fun x:PV J nx ρ=>x.1.1) names p k d
  have m2:=bindG_map (fun x:PV J nx ρ=>x.1.2) names p k d
  simp only [mapV] at m1 m2
  rw [m1] at h
  obtain ⟨r,hr,rfl⟩:=Option.map_eq_some_iff.mp h
  rw [m2,hr]
  exact ⟨_,rfl,KVR.of_pairs r⟩
/-- the callee's frame -/
noncomputable def frameOf:List (Str × AV) → List (Nat × AV)
  | []=>[]
  | x :: r=>(cd x.1,x.2) :: frameOf r
noncomputable def okNs:List Str → Bool
  | []=>true
  | n :: r=>!(Nat.beq (cd n) 0) && (r.all fun m=>!(Nat.beq (cd n) (cd m))) && okNs r
theorem KVR.keys {κ:Type}:∀ {l:List (κ × AV)} {vs:List (κ × Value)},KVR J nx ρ l vs → l.map (·.1) = vs.map (·.1)
  | _,_,.nil=>rfl
  | _,_,.cons h hs=>by simp only [List.map_cons,hs.keys]
theorem frame_binds:∀ {b:List (Str × AV)} {bV:List (Str × Value)},KVR J nx ρ b bV → okNs (b.map (·.1)) = true → ∀ c av,gt (frameOf b) c = some av → ∃ x v,cd x = c∧c ≠ 0∧(x,v) ∈ bV∧VR J nx ρ av v
  | _,_,.nil,_,c,av,q=>by cases q
  | _,_,.cons (k:=k) (a:=a) (v:=v) (vs:=vs) h hs,ok,c,av,q=>by
    simp only [List.map_cons,okNs,Bool.and_eq_true,Bool.not_eq_true'] at ok
    simp only [frameOf,gt,beq_dec] at q
    by_cases z:cd k = c
    · simp only [z,decide_true] at q
      cases q
      refine ⟨k,v,z,?_,.head _,h⟩
      have:=ok.1.1
      rw [beq_dec] at this
      intro w
      rw [z] at this
      exact absurd w (of_decide_eq_false this)
    · simp only [decide_eq_false z] at q
      obtain ⟨x,w,h1,h2,h3,h4⟩:=frame_binds hs ok.2 c av q
      exact ⟨x,w,h1,h2,.tail _ h3,h4⟩
theorem lookup_of_mem:∀ {l:List (Str × Value)},(l.map (·.1)).Nodup → ∀ {x:Str} {v:Value},(x,v) ∈ l → l.lookup x = some v
  | [],_,_,_,h=>by cases h
  | (k,w) :: r,hn,x,v,h=>by
    simp only [List.map_cons,List.nodup_cons] at hn
    simp only [List.lookup]
    by_cases e:x = k
    · subst e
      simp only [beq_self_eq_true]
      rcases List.mem_cons.mp h with q | q
      · cases q; rfl
      · exact absurd (List.mem_map_of_mem (f:=(·.1)) q) hn.1
    · rw [show (x == k) = false from beq_eq_false_iff_ne.mpr e]
      rcases List.mem_cons.mp h with q | q
      · cases q; exact absurd rfl e
      · exact lookup_of_mem hn.2 q
theorem lookup_rev_of_mem {l:List (Str × Value)} (hn:(l.map (·.1)).Nodup) {x:Str} {v:Value} (h:(x,v) ∈ l):l.reverse.lookup x = some v:=
  lookup_of_mem (by rw [List.map_reverse]; unfold List.Nodup; rw [List.pairwise_reverse]; exact hn.imp fun h=>Ne.symm h) (List.mem_reverse.mpr h)
theorem okNs_nodup:∀ {l:List Str},okNs l = true → l.Nodup
  | [],_=>List.nodup_nil
  | n :: r,h=>by
    simp only [okNs,Bool.and_eq_true,Bool.not_eq_true',List.all_eq_true] at h
    refine List.nodup_cons.mpr ⟨fun q=>?_,okNs_nodup h.2⟩
    have:=h.1.2 n q
    rw [beq_dec] at this
    exact absurd rfl (of_decide_eq_false this)
end
end Mine
namespace Mine
structure Ext (J:Frozen) (nx:Nat) (ρ:Nat → Addr) (J':Frozen) (nx':Nat) (ρ':Nat → Addr):Prop where
  j:∀ a o,J a = some o → J' a = some o
  n:nx ≤ nx'
  r:∀ n,n < nx → ρ' n = ρ n
theorem Ext.refl {J nx ρ}:Ext J nx ρ J nx ρ:=⟨fun _ _ h=>h,Nat.le_refl _,fun _ _=>rfl⟩
theorem Ext.trans {J nx ρ J' nx' ρ' J'' nx'' ρ''} (a:Ext J nx ρ J' nx' ρ') (b:Ext J' nx' ρ' J'' nx'' ρ''):Ext J nx ρ J'' nx'' ρ'':=
  ⟨fun x o h=>b.j x o (a.j x o h),Nat.le_trans a.n b.n,fun n h=>(b.r n (Nat.lt_of_lt_of_le h a.n)).trans (a.r n h)⟩
theorem Ext.grow {J nx ρ J' nx' ρ'} (a:Ext J nx ρ J' nx' ρ'):Grow J nx ρ J' nx' ρ':=⟨fun x o h _=>a.j x o h,a.n,a.r⟩
theorem put_ext {J:Frozen} {nx ρ} {a:Addr} {ob:Obj} (e:J a = none):Ext J nx ρ (put J a ob) nx ρ:=⟨fun b o q=>by unfold put; split; (rename_i z; rw [z,e] at q; cases q); exact q,Nat.le_refl _,fun _ _=>rfl⟩
theorem at_ext {J:Frozen} {nx:Nat} {ρ:Nat → Addr} {a:Addr}:Ext J nx ρ J (nx + 1) (at_ ρ nx a):=⟨fun _ _ h=>h,Nat.le_succ _,fun n h=>by unfold at_; rw [if_neg (Nat.ne_of_lt h)]⟩
noncomputable def del (J:Frozen) (a:Addr):Frozen:=fun b=>if b = a then none else J b
section
variable {X:Cx} {J J' J'':Frozen} {ρ ρ' ρ'':Nat → Addr} {L L':Lk} {F F' F'':List (Nat × AV)} {σ σ' σ'':List (Nat × AObj)} {nx nx' nx'':Nat} {s s':Shared} {h':Heap} {oL:Obj}
/-- a frame that waits,by its names alone -/
noncomputable def wt (o:Obj):Obj:={ cls:=fcls,dict:=none,data:=o.data,slots:=#[] }
theorem Rel.L_dict (R:Rel X J ρ L F σ nx s) (hL:s.heap.get? L.a = some oL):∃ es n,oL.data = .dict es n:=by
  obtain ⟨m,⟨o,es,ep,e,d,_⟩,_⟩:=R.fr
  rw [hL] at e; cases e
  exact ⟨_,_,d⟩
theorem Rel.L_h0 (R:Rel X J ρ L F σ nx s):X.h₀.get? L.a = none:=by
  cases q:X.h₀.get? L.a with
  | none=>rfl
  | some o=>have:=R.hj _ _ q; rw [R.Lj] at this; cases this
/-- a callee's frame; the caller's is frozen -/
theorem Rel.enter (R:Rel X J ρ L F σ nx s) (hL:s.heap.get? L.a = some oL) {h₁:Heap} {m:Str → Option Value} (hns:h₁.Ns s.heap.objs.size m) (hk:∀ b o,s.heap.get? b = some o → h₁.get? b = some o)
    (fr:∀ c av,gt F' c = some av → ∃ x v,cd x = c∧c ≠ 0∧m x = some v∧VR J nx ρ av v) (t:Nat):Rel X (put J L.a (wt oL)) ρ ⟨s.heap.objs.size,L.a :: L.up⟩ F' σ nx { s with heap:=h₁,toks:=t }:=by
  have g:Grow J nx ρ (put J L.a (wt oL)) nx ρ:=put_grow R.Lj
  have hd:=R.L_dict hL
  refine R.same (s':={ s with heap:=h₁,toks:=t }) (L':=⟨s.heap.objs.size,L.a :: L.up⟩) g (fun b o _ _ e=>hk b o e) (fun b o e=>?_) (fun b o e=>(put_ext (nx:=nx) (ρ:=ρ) R.Lj).j b o (R.hj b o e)) R.gens R.os (fun b e=>?_) ?_ (.inr (.inr (fresh_none _)))
    ⟨m,hns,fun c av q=>let ⟨x,v,h1,h2,h3,h4⟩:=fr c av q; ⟨x,v,h1,h2,h3,h4.mono g⟩⟩ (fun a ha=>?_)
  · unfold put at e
    split at e
    · rename_i z; cases e; rw [z]; exact .inr ⟨⟨rfl,hd⟩,R.L_h0,oL,hk _ _ hL,rfl⟩
    · exact (R.jh b o e).of fun _=>hk _ _
  · unfold put at e
    split at e
    · rename_i z; exact .inr (.inl z)
    · exact .inl e
  · unfold put
    split
    · rename_i z; rw [← z] at hL; exact absurd (Heap.lt_size hL) (Nat.lt_irrefl _)
    · exact R.J_fresh
  · rcases List.mem_cons.mp ha with rfl | ha
    · exact ⟨wt oL,by unfold put; rw [if_pos rfl],⟨rfl,hd⟩,R.L_h0⟩
    · exact R.up_put R.Lj a ha
/-- back in the caller's frame -/
theorem Rel.leave (R:Rel X J ρ L F σ nx s) (hL:s.heap.get? L.a = some oL) (E:Ext (put J L.a (wt oL)) nx ρ J' nx' ρ') (R':Rel X J' ρ' L' F' σ' nx' s') :
    Ext J nx ρ (del J' L.a) nx' ρ'∧Rel X (del J' L.a) ρ' L F σ' nx' s'∧∀ av v,VR J' nx' ρ' av v → VR (del J' L.a) nx' ρ' av v:=by
  have hJL:J' L.a = some (wt oL):=E.j L.a _ (by unfold put; rw [if_pos rfl])
  obtain ⟨es,ep,hd⟩:=R.L_dict hL
  have hi:¬ Imm (wt oL):=fun ⟨_,_,z⟩=>by rw [show (wt oL).data = oL.data from rfl,hd] at z; cases z
  have g2:Grow J' nx' ρ' (del J' L.a) nx' ρ':=⟨fun b o q i=>by
    unfold del
    split
    · rename_i z; rw [z,hJL] at q; cases q; exact absurd i hi
    · exact q,Nat.le_refl _,fun _ _=>rfl⟩
  have e:Ext J nx ρ (del J' L.a) nx' ρ':=⟨fun b o q=>by
    unfold del
    split
    · rename_i z; rw [z,R.Lj] at q; cases q
    · exact E.j b o ((put_ext (nx:=nx) (ρ:=ρ) R.Lj).j b o q),E.n,E.r⟩
  refine ⟨e,?_,fun av v h=>h.mono g2⟩
  obtain ⟨oL',hL',hdL⟩:=(R'.jh L.a _ hJL).some
  refine R'.same (s':=s') (L':=L) g2 (fun b o _ _ q=>q) (fun b o q=>?_) (fun b o q=>?_) R'.gens R'.os (fun b q=>?_) (by unfold del; rw [if_pos rfl]) ?_ ?_ ?_
  · unfold del at q
    split at q
    · cases q
    · exact R'.jh b o q
  · exact e.j b o (R.hj b o q)
  · unfold del at q
    split at q
    · exact absurd rfl q
    · exact .inl q
  · exact .inr (.inl (by rw [hJL]; exact fun z=>by cases z))
  · obtain ⟨m,h1,h2⟩:=R.fr
    refine ⟨m,?_,fun c av q=>let ⟨x,v,a1,a2,a3,a4⟩:=h2 c av q; ⟨x,v,a1,a2,a3,a4.mono e.grow⟩⟩
    obtain ⟨o,es2,ep2,g1,g3,g4⟩:=h1
    rw [hL] at g1; cases g1
    exact ⟨oL',es2,ep2,hL',hdL.trans g3,g4⟩
  · intro a ha
    obtain ⟨o,q,m⟩:=R.up a ha
    exact ⟨o,e.j a o q,m⟩
/-! a def called -/
noncomputable def litV:Value → Option AV
  | .none=>some .none
  | .bool b=>some (.bool b)
  | .int i _=>some (.int i)
  | .str x _=>some (.str x)
  | _=>none
noncomputable def litVs:List Value → Option (List AV)
  | []=>some []
  | v :: r=>match litV v,litVs r with
    | some a,some l=>some (a :: l)
    | _,_=>none
theorem litV_rel {J nx ρ}:∀ {v a},litV v = some a → VR J nx ρ a v
  | .none,_,h=>by cases h; exact .none
  | .bool _,_,h=>by cases h; exact .bool
  | .int _ _,_,h=>by cases h; exact .int
  | .str _ _,_,h=>by cases h; exact .str
theorem litVs_rel {J nx ρ}:∀ {vs l},litVs vs = some l → VRs J nx ρ l vs
  | [],_,h=>by cases h; exact .nil
  | v :: r,l,h=>by
    simp only [litVs] at h
    split at h
    · rename_i h1 h2; cases h; exact .cons (litV_rel h1) (litVs_rel h2)
    · cases h
/-- the defaults of a def,read off the fragment -/
noncomputable def dfltIn (K:Frag) (d:Value):Option (List AV):=match d with
  | .none=>some []
  | .ref T=>match K.lookup T with
    | some ⟨_,_,.seq vs _,_⟩=>litVs vs.toList
    | _=>none
  | _=>none
theorem dflt_at {K:Frag} {h:Heap} (hK:K.In h) {d:Value} {l:List AV} (e:dfltIn K d = some l) {J nx ρ}:∃ vs,DfltAt h d vs∧VRs J nx ρ l vs:=by
  unfold dfltIn at e
  split at e
  · cases e; exact ⟨[],.inl ⟨rfl,rfl⟩,.nil⟩
  · split at e
    · rename_i T _ c dd vs ep sl ho
      exact ⟨vs.toList,.inr ⟨T,_,ep,rfl,hK _ _ ho,rfl⟩,litVs_rel e⟩
    · cases e
  · cases e
noncomputable def fnOk (K:Frag) (fd:FuncData):Bool:=simpleP fd.params && codeIn K fd.code fd.qualname && (match fd.scope.kind with | .function=>true | _=>false) && !fd.scope.isCoroutine && !fd.scope.isGenerator &&
  (fd.scope.names.all fun x=>match x.2 with | .cell=>false | _=>true) && Nat.beq fd.globals mainGlobals && fd.closure.isEmpty && Nat.beq fd.builtins builtinsNs
noncomputable def locOk (sc:Scope) (ns:List Str):Bool:=ns.all fun n=>match sc.names.lookup n with | some .local=>true | _=>false
/-- the answer of a call or an expression -/
inductive Ans (X:Cx) (J:Frozen) (nx:Nat) (ρ:Nat → Addr) (L:Lk) (F:List (Nat × AV)) (Q:AV → List (Nat × AObj) → Nat → Prop) (v:Value) (s':Shared):Prop
  | mk (av:AV) (J':Frozen) (ρ':Nat → Addr) (σ':List (Nat × AObj)) (nx':Nat) (E:Ext J nx ρ J' nx' ρ') (R:Rel X J' ρ' L F σ' nx' s') (x:VR J' nx' ρ' av v) (q:Q av σ' nx')
theorem Ns_notImm {h:Heap} {a:Addr} {m:Str → Option Value} {ob:Obj} (x:h.Ns a m) (e:h.get? a = some ob):¬ Imm ob:=fun ⟨vs,ep,i⟩=>by
  obtain ⟨o,es,n,e2,d,_⟩:=x
  rw [e] at e2; cases e2
  rw [d] at i; cases i
end
end Mine
namespace Mine
noncomputable abbrev Store:=List (Nat × AObj)
noncomputable abbrev Frame:=List (Nat × AV)
/-- nothing is handled; the frames that run and wait are known -/
noncomputable def HH (A:Around) (L:Lk):Prop:=A.handled = none∧∃ l,A.frames = some l∧∀ env ∈ l,env.scope.kind ≠ .module∧∃ a,a ∈ L.a :: L.up∧env.frame = some a
theorem HH.deeper {A:Around} {L:Lk} {a:Addr} {env:Env} (h:HH A L) (k:env.scope.kind ≠ .module) (f:env.frame = some a):HH (A.deeper env) ⟨a,L.a :: L.up⟩:=by
  obtain ⟨h1,l,h2,h3⟩:=h
  refine ⟨h1,env :: l,Around.frames_deeper h2,fun e he=>?_⟩
  rcases List.mem_cons.mp he with rfl | he
  · exact ⟨k,a,.head _,f⟩
  · obtain ⟨k',b,hb,f'⟩:=h3 e he
    exact ⟨k',b,.tail _ hb,f'⟩
/-- a point of the run,seen by the machine -/
structure At (X:Cx) (d:Nat) (F:Frame) (σ:Store) (nx:Nat) where
  A:Around
  J:Frozen
  ρ:Nat → Addr
  L:Lk
  f:Addr
  s:Shared
  hh:HH A L
  hd:A.depth + d ≤ recursionLimit
  hu:A.units + 9 * d ≤ 9000
  R:Rel X J ρ L F σ nx s
/-- what holds at the start -/
structure Cx.Ok (X:Cx) (K:Frag):Prop where
  K:K.In X.h₀
  lim:X.h₀.NoLimit
  blt:∃ mb,X.h₀.Ns builtinsNs mb∧∀ x:Str,x ≠ "__name__" → mb x = bootBuiltins x
  glb:∃ mg,X.h₀.Ns mainGlobals mg
  sysm:∃ o,X.h₀.get? sysModules = some o
  top:∃ p loose mg mb,TopRead p loose mg mb X.h₀
noncomputable abbrev QE:=AV → Store → Nat → Prop
noncomputable abbrev QB:=Bool → Store → Nat → Prop
inductive Fl where
  | next | brk | cont
  | ret (a:AV)
noncomputable abbrev QS:=Fl → Frame → Store → Nat → Prop
noncomputable def FlR (J:Frozen) (nx:Nat) (ρ:Nat → Addr):Fl → Flow → Prop
  | .next,.next=>True
  | .brk,.brk=>True
  | .cont,.cont=>True
  | .ret a,.ret v=>VR J nx ρ a v
  | _,_=>False
inductive AnsB (X:Cx) (J:Frozen) (nx:Nat) (ρ:Nat → Addr) (L:Lk) (F:Frame) (Q:QB) (b:Bool) (s':Shared):Prop
  | mk (J':Frozen) (ρ':Nat → Addr) (σ':Store) (nx':Nat) (E:Ext J nx ρ J' nx' ρ') (R:Rel X J' ρ' L F σ' nx' s') (q:Q b σ' nx')
inductive AnsU (X:Cx) (J:Frozen) (nx:Nat) (ρ:Nat → Addr) (L:Lk) (F:Frame) (Q:Store → Nat → Prop) (b:Unit) (s':Shared):Prop
  | mk (J':Frozen) (ρ':Nat → Addr) (σ':Store) (nx':Nat) (E:Ext J nx ρ J' nx' ρ') (R:Rel X J' ρ' L F σ' nx' s') (q:Q σ' nx')
inductive AnsF (X:Cx) (J:Frozen) (nx:Nat) (ρ:Nat → Addr) (L:Lk) (Q:Frame → Store → Nat → Prop) (b:Unit) (s':Shared):Prop
  | mk (F':Frame) (J':Frozen) (ρ':Nat → Addr) (σ':Store) (nx':Nat) (E:Ext J nx ρ J' nx' ρ') (R:Rel X J' ρ' L F' σ' nx' s') (q:Q F' σ' nx')
inductive AnsL (X:Cx) (J:Frozen) (nx:Nat) (ρ:Nat → Addr) (L:Lk) (F:Frame) (Q:List AV → Store → Nat → Prop) (vs:List Value) (s':Shared):Prop
  | mk (as:List AV) (J':Frozen) (ρ':Nat → Addr) (σ':Store) (nx':Nat) (E:Ext J nx ρ J' nx' ρ') (R:Rel X J' ρ' L F σ' nx' s') (x:VRs J' nx' ρ' as vs) (q:Q as σ' nx')
inductive AnsS (X:Cx) (J:Frozen) (nx:Nat) (ρ:Nat → Addr) (L:Lk) (Q:QS) (fl:Flow) (s':Shared):Prop
  | mk (φ:Fl) (F':Frame) (J':Frozen) (ρ':Nat → Addr) (σ':Store) (nx':Nat) (E:Ext J nx ρ J' nx' ρ') (R:Rel X J' ρ' L F' σ' nx' s') (x:FlR J' nx' ρ' φ fl) (q:Q φ F' σ' nx')
section
variable {X:Cx} {d:Nat} {F:Frame} {σ:Store} {nx:Nat} {Q Q':QE} {R:QB} {fd:FuncData}
noncomputable abbrev At.env (p:At X d F σ nx) (fd:FuncData):Env:=callEnv fd p.L.a p.f
noncomputable abbrev At.Ans (p:At X d F σ nx) (Q:QE):Value → Shared → Prop:=Mine.Ans X p.J nx p.ρ p.L F Q
noncomputable abbrev At.AnsB (p:At X d F σ nx) (Q:QB):Bool → Shared → Prop:=Mine.AnsB X p.J nx p.ρ p.L F Q
noncomputable abbrev At.AnsU (p:At X d F σ nx) (Q:Store → Nat → Prop):Unit → Shared → Prop:=Mine.AnsU X p.J nx p.ρ p.L F Q
noncomputable abbrev At.AnsF (p:At X d F σ nx) (Q:Frame → Store → Nat → Prop):Unit → Shared → Prop:=Mine.AnsF X p.J nx p.ρ p.L Q
noncomputable abbrev At.AnsL (p:At X d F σ nx) (Q:List AV → Store → Nat → Prop):List Value → Shared → Prop:=Mine.AnsL X p.J nx p.ρ p.L F Q
noncomputable abbrev At.AnsS (p:At X d F σ nx) (Q:QS):Flow → Shared → Prop:=Mine.AnsS X p.J nx p.ρ p.L Q
noncomputable abbrev At.M (_:At X d F σ nx):Model:=model X.prog X.w
noncomputable abbrev no:Value → Shared → Prop:=fun _ _=>False
noncomputable abbrev At.VR (p:At X d F σ nx) (a:AV) (v:Value):Prop:=Mine.VR p.J nx p.ρ a v
noncomputable abbrev At.VRs (p:At X d F σ nx) (a:List AV) (v:List Value):Prop:=Mine.VRs p.J nx p.ρ a v
/-- a tree that answers with a value -/
noncomputable abbrev Ev (X:Cx) (d:Nat) (fd:FuncData) (F:Frame) (t:Env → Sem Value) (σ:Store) (nx:Nat) (Q:QE):Prop:=
  ∀ p:At X d F σ nx,wpAny p.M p.A (t (p.env fd)) (p.Ans Q) no p.s
noncomputable abbrev EvL (X:Cx) (d:Nat) (fd:FuncData) (F:Frame) (t:Env → Sem (List Value)) (σ:Store) (nx:Nat) (Q:List AV → Store → Nat → Prop):Prop:=
  ∀ p:At X d F σ nx,wpAny p.M p.A (t (p.env fd)) (p.AnsL Q) no p.s
noncomputable abbrev Tr (X:Cx) (d:Nat) (fd:FuncData) (F:Frame) (t:Env → Sem Bool) (σ:Store) (nx:Nat) (Q:QB):Prop:=
  ∀ p:At X d F σ nx,wpAny p.M p.A (t (p.env fd)) (p.AnsB Q) no p.s
noncomputable abbrev Xs (X:Cx) (d:Nat) (fd:FuncData) (F:Frame) (t:Env → Sem Flow) (σ:Store) (nx:Nat) (Q:QS):Prop:=
  ∀ p:At X d F σ nx,wpAny p.M p.A (t (p.env fd)) (p.AnsS Q) no p.s
/-- a store into a target -/
noncomputable abbrev Sto (X:Cx) (d:Nat) (fd:FuncData) (F:Frame) (t:Env → Value → Sem Unit) (a:AV) (σ:Store) (nx:Nat) (Q:Frame → Store → Nat → Prop):Prop:=
  ∀ (p:At X d F σ nx) v,p.VR a v → wpAny p.M p.A (t (p.env fd) v) (p.AnsF Q) no p.s
noncomputable abbrev Op1 (X:Cx) (d:Nat) (t:Value → Sem Value) (a:AV) (σ:Store) (nx:Nat) (Q:QE):Prop:=
  ∀ (F:Frame) (p:At X d F σ nx) v,p.VR a v → wpAny p.M p.A (t v) (p.Ans Q) no p.s
noncomputable abbrev Op2 (X:Cx) (d:Nat) (t:Value → Value → Sem Value) (a b:AV) (σ:Store) (nx:Nat) (Q:QE):Prop:=
  ∀ (F:Frame) (p:At X d F σ nx) v w,p.VR a v → p.VR b w → wpAny p.M p.A (t v w) (p.Ans Q) no p.s
noncomputable abbrev Op3U (X:Cx) (d:Nat) (t:Value → Value → Value → Sem Unit) (a b c:AV) (σ:Store) (nx:Nat) (Q:Store → Nat → Prop):Prop:=
  ∀ (F:Frame) (p:At X d F σ nx) u v w,p.VR a u → p.VR b v → p.VR c w → wpAny p.M p.A (t u v w) (p.AnsU Q) no p.s
noncomputable abbrev Op2U (X:Cx) (d:Nat) (t:Value → Value → Sem Unit) (a b:AV) (σ:Store) (nx:Nat) (Q:Store → Nat → Prop):Prop:=
  ∀ (F:Frame) (p:At X d F σ nx) u v,p.VR a u → p.VR b v → wpAny p.M p.A (t u v) (p.AnsU Q) no p.s
noncomputable abbrev Tru (X:Cx) (d:Nat) (a:AV) (σ:Store) (nx:Nat) (Q:QB):Prop:=
  ∀ (F:Frame) (p:At X d F σ nx) v,p.VR a v → wpAny p.M p.A (truthy v) (p.AnsB Q) no p.s
/-- a call -/
noncomputable abbrev Cl (X:Cx) (d:Nat) (f:Value) (as:List AV) (kw:List (Str × AV)) (σ:Store) (nx:Nat) (Q:QE):Prop:=
  ∀ (F:Frame) (p:At X d F σ nx) vs kvs,p.VRs as vs → KVR p.J nx p.ρ kw kvs →
    codeAny p.M p.A (.call f ⟨vs,kvs⟩) (fun r s'=>match r with | .ok (.ret v)=>p.Ans Q v s' | _=>False) p.s
section
variable {J J':Frozen} {ρ ρ':Nat → Addr} {nx':Nat} {L:Lk}
theorem Ans.ext {v:Value} {s:Shared} (E:Ext J nx ρ J' nx' ρ') (h:Ans X J' nx' ρ' L F Q v s):Ans X J nx ρ L F Q v s:=
  let ⟨av,J2,ρ2,σ2,n2,e,r,x,q⟩:=h; ⟨av,J2,ρ2,σ2,n2,E.trans e,r,x,q⟩
theorem AnsB.ext {b:Bool} {s:Shared} (E:Ext J nx ρ J' nx' ρ') (h:AnsB X J' nx' ρ' L F R b s):AnsB X J nx ρ L F R b s:=
  let ⟨J2,ρ2,σ2,n2,e,r,q⟩:=h; ⟨J2,ρ2,σ2,n2,E.trans e,r,q⟩
theorem AnsU.ext {R:Store → Nat → Prop} {b:Unit} {s:Shared} (E:Ext J nx ρ J' nx' ρ') (h:AnsU X J' nx' ρ' L F R b s):AnsU X J nx ρ L F R b s:=
  let ⟨J2,ρ2,σ2,n2,e,r,q⟩:=h; ⟨J2,ρ2,σ2,n2,E.trans e,r,q⟩
theorem AnsF.ext {R:Frame → Store → Nat → Prop} {b:Unit} {s:Shared} (E:Ext J nx ρ J' nx' ρ') (h:AnsF X J' nx' ρ' L R b s):AnsF X J nx ρ L R b s:=
  let ⟨F2,J2,ρ2,σ2,n2,e,r,q⟩:=h; ⟨F2,J2,ρ2,σ2,n2,E.trans e,r,q⟩
theorem AnsL.ext {R:List AV → Store → Nat → Prop} {b:List Value} {s:Shared} (E:Ext J nx ρ J' nx' ρ') (h:AnsL X J' nx' ρ' L F R b s):AnsL X J nx ρ L F R b s:=
  let ⟨as,J2,ρ2,σ2,n2,e,r,x,q⟩:=h; ⟨as,J2,ρ2,σ2,n2,E.trans e,r,x,q⟩
theorem AnsS.ext {R:QS} {b:Flow} {s:Shared} (E:Ext J nx ρ J' nx' ρ') (h:AnsS X J' nx' ρ' L R b s):AnsS X J nx ρ L R b s:=
  let ⟨φ,F2,J2,ρ2,σ2,n2,e,r,x,q⟩:=h; ⟨φ,F2,J2,ρ2,σ2,n2,E.trans e,r,x,q⟩
end
section
variable {J':Frozen} {ρ':Nat → Addr} {nx':Nat} {σ':Store} {F':Frame} {s':Shared}
/-- the next point -/
noncomputable abbrev At.to (p:At X d F σ nx) (R:Rel X J' ρ' p.L F' σ' nx' s'):At X d F' σ' nx':=⟨p.A,J',ρ',p.L,p.f,s',p.hh,p.hd,p.hu,R⟩
theorem At.now (p:At X d F σ nx) {v:Value} {a:AV} (x:p.VR a v) (q:Q a σ nx):p.Ans Q v p.s:=⟨a,p.J,p.ρ,σ,nx,.refl,p.R,x,q⟩
theorem At.nowB (p:At X d F σ nx) {b:Bool} (q:R b σ nx):p.AnsB R b p.s:=⟨p.J,p.ρ,σ,nx,.refl,p.R,q⟩
theorem At.toks (p:At X d F σ nx) (t:Nat):Rel X p.J p.ρ p.L F σ nx { p.s with toks:=t }:=p.R.toks t
theorem At.nowT (p:At X d F σ nx) {t:Nat} {v:Value} {a:AV} (x:p.VR a v) (q:Q a σ nx):p.Ans Q v { p.s with toks:=t }:=⟨a,p.J,p.ρ,σ,nx,.refl,p.R.toks t,x,q⟩
end
/-! one tree after another -/
section
variable {t:Sem Value} {tb:Sem Bool} {tu:Sem Unit} {tl:Sem (List Value)} {ts:Sem Flow} {Q₁:QE} {R₁:QB} {F':Frame} {σ':Store} {nx':Nat}
theorem an {p:At X d F σ nx} {P:Value → Shared → Prop} {E:Value → Shared → Prop} (h:wpAny p.M p.A t (p.Ans Q₁) no p.s)
    (k:∀ v a J' ρ' σ' nx' s',Rel X J' ρ' p.L F σ' nx' s' → Ext p.J nx p.ρ J' nx' ρ' → VR J' nx' ρ' a v → Q₁ a σ' nx' → P v s'):wpAny p.M p.A t P E p.s:=
  wpAny_mono h (fun v s' ⟨a,J',ρ',σ',nx',E,R,x,q⟩=>k v a J' ρ' σ' nx' s' R E x q) fun _ _ z=>z.elim
theorem anB {p:At X d F σ nx} {P:Bool → Shared → Prop} {E:Value → Shared → Prop} (h:wpAny p.M p.A tb (p.AnsB R₁) no p.s)
    (k:∀ b J' ρ' σ' nx' s',Rel X J' ρ' p.L F σ' nx' s' → Ext p.J nx p.ρ J' nx' ρ' → R₁ b σ' nx' → P b s'):wpAny p.M p.A tb P E p.s:=
  wpAny_mono h (fun v s' ⟨J',ρ',σ',nx',E,R,q⟩=>k v J' ρ' σ' nx' s' R E q) fun _ _ z=>z.elim
theorem anU {p:At X d F σ nx} {Q₁:Store → Nat → Prop} {P:Unit → Shared → Prop} {E:Value → Shared → Prop} (h:wpAny p.M p.A tu (p.AnsU Q₁) no p.s)
    (k:∀ J' ρ' σ' nx' s',Rel X J' ρ' p.L F σ' nx' s' → Ext p.J nx p.ρ J' nx' ρ' → Q₁ σ' nx' → P () s'):wpAny p.M p.A tu P E p.s:=
  wpAny_mono h (fun v s' ⟨J',ρ',σ',nx',E,R,q⟩=>k J' ρ' σ' nx' s' R E q) fun _ _ z=>z.elim
theorem anF {p:At X d F σ nx} {Q₁:Frame → Store → Nat → Prop} {P:Unit → Shared → Prop} {E:Value → Shared → Prop} (h:wpAny p.M p.A tu (p.AnsF Q₁) no p.s)
    (k:∀ F' J' ρ' σ' nx' s',Rel X J' ρ' p.L F' σ' nx' s' → Ext p.J nx p.ρ J' nx' ρ' → Q₁ F' σ' nx' → P () s'):wpAny p.M p.A tu P E p.s:=
  wpAny_mono h (fun v s' ⟨F',J',ρ',σ',nx',E,R,q⟩=>k F' J' ρ' σ' nx' s' R E q) fun _ _ z=>z.elim
theorem anL {p:At X d F σ nx} {Q₁:List AV → Store → Nat → Prop} {P:List Value → Shared → Prop} {E:Value → Shared → Prop} (h:wpAny p.M p.A tl (p.AnsL Q₁) no p.s)
    (k:∀ vs as J' ρ' σ' nx' s',Rel X J' ρ' p.L F σ' nx' s' → Ext p.J nx p.ρ J' nx' ρ' → VRs J' nx' ρ' as vs → Q₁ as σ' nx' → P vs s'):wpAny p.M p.A tl P E p.s:=
  wpAny_mono h (fun v s' ⟨a,J',ρ',σ',nx',E,R,x,q⟩=>k v a J' ρ' σ' nx' s' R E x q) fun _ _ z=>z.elim
theorem anS {p:At X d F σ nx} {Q₁:QS} {P:Flow → Shared → Prop} {E:Value → Shared → Prop} (h:wpAny p.M p.A ts (p.AnsS Q₁) no p.s)
    (k:∀ fl φ F' J' ρ' σ' nx' s',Rel X J' ρ' p.L F' σ' nx' s' → Ext p.J nx p.ρ J' nx' ρ' → FlR J' nx' ρ' φ fl → Q₁ φ F' σ' nx' → P fl s'):wpAny p.M p.A ts P E p.s:=
  wpAny_mono h (fun v s' ⟨a,F',J',ρ',σ',nx',E,R,x,q⟩=>k v a F' J' ρ' σ' nx' s' R E x q) fun _ _ z=>z.elim
/-- a tree that answers,answers so too -/
theorem up {p:At X d F σ nx} {J':Frozen} {ρ':Nat → Addr} {s':Shared} (E:Ext p.J nx p.ρ J' nx' ρ') (R:Rel X J' ρ' p.L F' σ' nx' s') {P:Value → Shared → Prop}
    (h:wpAny p.M p.A t ((p.to R).Ans Q) no s') (f:∀ v s,Mine.Ans X J' nx' ρ' p.L F' Q v s → P v s):wpAny p.M p.A t P no s':=wpAny_mono h (fun v s z=>f v s z) fun _ _ z=>z
end
end
end Mine
namespace Mine
/-! the library's frames (Fr,News) out of a point -/
noncomputable def h00:Heap:={ objs:=#[] }
theorem h00_get (b:Addr):h00.get? b = none:=by
  cases e:h00.get? b with
  | none=>rfl
  | some o=>exact absurd (Heap.lt_size e) (Nat.not_lt_zero _)
noncomputable def allBut (h:Heap) (ex:List Addr):List (Addr × Obj):=(List.range h.objs.size).filterMap fun a=>if a ∈ ex then none else (h.get? a).map fun o=>(a,o)
theorem mem_allBut {h:Heap} {ex:List Addr} {a:Addr} {o:Obj}:(a,o) ∈ allBut h ex ↔ a ∉ ex∧h.get? a = some o:=by
  unfold allBut
  simp only [List.mem_filterMap,List.mem_range]
  constructor
  · rintro ⟨b,hb,e⟩
    split at e
    · cases e
    · rename_i q
      obtain ⟨o',ho,e⟩:=Option.map_eq_some_iff.mp e
      cases e
      exact ⟨q,ho⟩
  · rintro ⟨q,ho⟩
    exact ⟨a,Heap.lt_size ho,by rw [if_neg q,ho]; rfl⟩
section
variable {X:Cx} {J J':Frozen} {ρ ρ':Nat → Addr} {L:Lk} {F F':Frame} {σ:Store} {nx nx':Nat} {s s':Shared} {h h':Heap} {a:Addr} {o o':AObj} {m:Str → Option Value}
theorem fr_of (hns:h.Ns L.a m):Fr h00 L.a h m:=⟨hns,(fun b o e=>by rw [h00_get] at e; cases e),Nat.zero_le _⟩
theorem news_of {ex:List Addr} (hL:L.a ∈ ex):News h00 L.a h (allBut h ex):=fun p hp=>by
  obtain ⟨a,o⟩:=p
  obtain ⟨q,e⟩:=mem_allBut.mp hp
  exact ⟨e,(fun (z:a = L.a)=>q (z ▸ hL)),h00_get _⟩
noncomputable abbrev FrOk (F:Frame) (J:Frozen) (nx:Nat) (ρ:Nat → Addr) (m:Str → Option Value):Prop:=∀ c av,gt F c = some av → ∃ x v,cd x = c∧c ≠ 0∧m x = some v∧VR J nx ρ av v
theorem FrOk.mono (g:Grow J nx ρ J' nx' ρ') (x:FrOk F J nx ρ m):FrOk F J' nx' ρ' m:=fun c av e=>let ⟨x,v,a,b,c,d⟩:=x c av e; ⟨x,v,a,b,c,d.mono g⟩
/-- all objects but the frame's as they were,the frame's names too -/
theorem Rel.moved (R:Rel X J ρ L F σ nx s) (k:∀ b ob,b ≠ L.a → s.heap.get? b = some ob → h'.get? b = some ob) (hL:h'.Ns L.a m) (hm:FrOk F' J nx ρ m) (t:Nat):Rel X J ρ L F' σ nx { s with heap:=h',toks:=t }:=by
  refine R.same (s':={ s with heap:=h',toks:=t }) .refl (fun b o _ hb e=>k b o hb e) (fun b o e=>(R.jh b o e).of fun _=>k b _ (fun z=>?_)) R.hj R.gens R.os (fun b e=>.inl e) R.Lj (.inl rfl) ⟨m,hL,hm⟩ R.up
  rw [z,R.Lj] at e; cases e
/-- an object of the heap is taken into the store -/
theorem Rel.add (R:Rel X J ρ L F σ nx s) (x:OR X s.heap J (nx + 1) (at_ ρ nx a) a o) (hJ:∀ b ∈ feet s.heap a,J b = none∧b ≠ L.a) (hd:∀ n o,gt σ n = some o → ∀ b ∈ feet s.heap (ρ n),b ∉ feet s.heap a) :
    Rel X J (at_ ρ nx a) L F ((nx,o) :: σ) (nx + 1) s:=by
  have g:Grow J nx ρ J (nx + 1) (at_ ρ nx a):=at_grow
  have old:∀ n o,gt σ n = some o → at_ ρ nx a n = ρ n:=fun n o e=>g.r n (R.st n o e).1
  have here:at_ ρ nx a nx = a:=by unfold at_; rw [if_pos rfl]
  refine ⟨R.jh,R.up,R.hj,R.gens,R.os,R.Lj,?_,fun n o e=>?_,fun n n' o o' e e' d b hb=>?_⟩
  · obtain ⟨m,h1,h2⟩:=R.fr
    exact ⟨m,h1,FrOk.mono g h2⟩
  · by_cases z:nx = n
    · subst z
      simp only [gt,beq_dec,decide_true] at e
      cases e
      exact ⟨Nat.lt_succ_self _,by rw [here]; exact x,fun b hb=>hJ b (by rw [here] at hb; exact hb)⟩
    · simp only [gt,beq_dec,decide_eq_false z] at e
      obtain ⟨h1,h2,h3⟩:=R.st n o e
      rw [old n o e]
      exact ⟨Nat.lt_succ_of_lt h1,h2.at (fun b _ ob q=>q) g,h3⟩
  · by_cases z:nx = n <;> by_cases z':nx = n'
    · exact absurd (z.symm.trans z') d
    · subst z
      simp only [gt,beq_dec,decide_eq_false z'] at e'
      rw [here] at hb
      rw [old n' o' e']
      exact fun w=>hd n' o' e' b w hb
    · subst z'
      simp only [gt,beq_dec,decide_eq_false z] at e
      rw [old n o e] at hb
      rw [here]
      exact hd n o e b hb
    · simp only [gt,beq_dec,decide_eq_false z] at e
      simp only [gt,beq_dec,decide_eq_false z'] at e'
      rw [old n o e] at hb
      rw [old n' o' e']
      exact R.dj n n' o o' e e' d b hb
theorem Rel.newL (R:Rel X J ρ L F σ nx s) (hm:FrOk F J nx ρ m) (k:∀ b ob,b ≠ L.a → s.heap.get? b = some ob → h'.get? b = some ob) (hL:h'.Ns L.a m) (x:OR X h' J (nx + 1) (at_ ρ nx a) a o) (fr:∀ b ∈ feet h' a,s.heap.get? b = none) (t:Nat) :
    Rel X J (at_ ρ nx a) L F ((nx,o) :: σ) (nx + 1) { s with heap:=h',toks:=t }:=by
  have R':=R.moved k hL hm t
  refine R'.add x (fun b hb=>?_) (fun n o e b hb hb'=>?_)
  · have q:=fr b hb
    refine ⟨?_,fun z=>?_⟩
    · cases z:J b with
      | none=>rfl
      | some ob=>exact (R.jn z q).elim
    · obtain ⟨ob,w⟩:=R.L_some
      rw [← z,q] at w; cases w
  · have hb:b ∈ feet h' (ρ n):=hb
    rw [(R.st n o e).2.1.feet_eq (fun b hb ob q=>k b ob ((R.st n o e).2.2 b hb).2 q)] at hb
    obtain ⟨ob,q⟩:=(R.st n o e).2.1.feet_lt b hb
    rw [fr b hb'] at q; cases q
theorem Rel.updL (R:Rel X J ρ L F σ nx s) (hm:FrOk F J nx ρ m) {n:Nat} (e:gt σ n = some o) (k:∀ b ob,b ≠ L.a → b ∉ feet s.heap (ρ n) → s.heap.get? b = some ob → h'.get? b = some ob) (hL:h'.Ns L.a m) (x:OR X h' J nx ρ (ρ n) o') (fe:feet h' (ρ n) = feet s.heap (ρ n)) (t:Nat) :
    Rel X J ρ L F (pt σ n o') nx { s with heap:=h',toks:=t }:=by
  obtain ⟨n1,n2,n3⟩:=R.st n o e
  have out:∀ b ob,J b = some ob → b ∉ feet s.heap (ρ n):=fun b ob q z=>by rw [(n3 b z).1] at q; cases q
  have others:∀ m o,m ≠ n → gt σ m = some o → ∀ b ∈ feet s.heap (ρ m),∀ ob,s.heap.get? b = some ob → h'.get? b = some ob:=fun m o d q b hb ob w=>k b ob ((R.st m o q).2.2 b hb).2 (R.dj m n _ _ q e d b hb) w
  have fo:∀ m o,m ≠ n → gt σ m = some o → feet h' (ρ m) = feet s.heap (ρ m):=fun m o d q=>(R.st m o q).2.1.feet_eq (others m o d q)
  have all:∀ m o,gt (pt σ n o') m = some o → feet h' (ρ m) = feet s.heap (ρ m):=fun m o q=>by
    rw [gt_pt] at q
    split at q
    · rename_i z; rw [← z]; exact fe
    · rename_i z; exact fo m o (Ne.symm z) q
  refine ⟨fun b ob q=>(R.jh b ob q).of fun _=>k b _ (fun z=>by rw [z,R.Lj] at q; cases q) (out b ob q),R.up,R.hj,R.gens,R.os,R.Lj,⟨m,hL,hm⟩,fun m o q=>?_,fun m m' o1 o2 q q' d b hb=>?_⟩
  · have fm:=all m o q
    rw [gt_pt] at q
    split at q
    · rename_i z
      subst z; cases q
      exact ⟨n1,x,fun b hb=>n3 b (by rw [← fm]; exact hb)⟩
    · rename_i z
      obtain ⟨h1,h2,h3⟩:=R.st m o q
      exact ⟨h1,h2.at (others m o (Ne.symm z) q) .refl,fun b hb=>h3 b (by rw [← fm]; exact hb)⟩
  · have hb:b ∈ feet h' (ρ m):=hb
    show b ∉ feet h' (ρ m')
    rw [all m o1 q] at hb
    rw [all m' o2 q']
    have there:∀ m o,gt (pt σ n o') m = some o → ∃ o,gt σ m = some o:=fun m o q=>by
      rw [gt_pt] at q
      split at q
      · rename_i z; exact ⟨_,z ▸ e⟩
      · exact ⟨_,q⟩
    obtain ⟨p1,e1⟩:=there m o1 q
    obtain ⟨p2,e2⟩:=there m' o2 q'
    exact R.dj m m' p1 p2 e1 e2 d b hb
end
section
variable {M:Model} {A:Around} {E:Value → Shared → Prop} {s:Shared}
theorem wpAny_nsSetZ {a:Addr} {m:Str → Option Value} {z:Nat} {name:Str} {v:Value} {Q:Unit → Shared → Prop} (hn:NsZ s.heap a m z)
    (h:∀ h' o,h'.get? a = some o → (∀ z',(m name = none → z + 1 ≤ z') → z ≤ z' → (∃ es n,o.data = .dict es n∧es.size ≤ z')∧NsZ h' a (fun x=>if x = name then some v else m x) z') → Heap.SameBut a s.heap h' → (∀ o₀,s.heap.get? a = some o₀ → o.cls = o₀.cls∧o.dict = o₀.dict∧o.slots = o₀.slots) → Q () { s with heap:=h',toks:=s.toks + 1 }) :
    wpAny M A (nsSet a name v) Q E s:=by
  obtain ⟨o,es,ep,ho,hd,hk,hm,hz⟩:=hn
  intro Γ p _
  simp only [nsSet,strHash,Sem.wp_bind',Sem.wp_cmd_ask,Sem.wp_pure',Sem.wp_cmd_mkText]
  rw [Sem.wp_loadPart_of M Γ _ p { s with toks:=s.toks + 1 } (o:=o) _ ho]
  have hany:es.any (·.refKey) = false:=by
    rw [Array.any_eq_false']; intro e he; obtain ⟨n,t,h⟩:=hk e he; simp [DictEntry.refKey,h]
  simp only [hd,aRefKeyMayBeTheName_eq,aRefKeyMayBeTheNameByArray,hany,Bool.and_false,Bool.false_eq_true,if_false,Sem.wp_cmd_updatePart]
  obtain ⟨c,d,dt,sl⟩:=o
  subst hd
  cases hi:es.findIdx? (·.key.isStr name) with
  | some i=>
    have g:=Heap.get?_update_self (h:=s.heap) (Obj.putName name (PyData.keyHash M.w.params name) (.str name s.toks) v) ho (by simp only [Obj.putName_eq,Obj.putNameByArray,hi]; rfl)
    refine ⟨by rw [ho]; rfl,h _ _ g (fun z' _ hz'=>?_) (Heap.SameBut.update ..) (fun o₀ e₀=>?_)⟩
    · refine ⟨⟨_,_,by simp only [Obj.putName_eq,Obj.putNameByArray,hi]; rfl,by rw [Array.size_modify]; omega⟩,_,_,ep,g,by simp only [Obj.putName_eq,Obj.putNameByArray,hi]; rfl,hk.modify _ _,fun x=>?_,by rw [Array.size_modify]; omega⟩
      show _ = if x = name then some v else m x
      rw [← hm]; exact findBy_modify (fun n v=>v.isStr n) Value.isStr_inj es name x v i hi
    · rw [ho] at e₀; cases e₀; simp only [Obj.putName_eq,Obj.putNameByArray,hi]; exact ⟨trivial,trivial,trivial⟩
  | none=>
    have g:=Heap.get?_update_self (h:=s.heap) (Obj.putName name (PyData.keyHash M.w.params name) (.str name s.toks) v) ho (by simp only [Obj.putName_eq,Obj.putNameByArray,hi]; rfl)
    have hno:m name = none:=by
      rw [← hm]
      unfold nsFind
      rw [findBy_of_findIdx?,hi]
    refine ⟨by rw [ho]; rfl,h _ _ g (fun z' hz1 hz'=>?_) (Heap.SameBut.update ..) (fun o₀ e₀=>?_)⟩
    · have:=hz1 hno
      refine ⟨⟨_,_,by simp only [Obj.putName_eq,Obj.putNameByArray,hi]; rfl,by rw [Array.size_push]; omega⟩,_,_,ep + 1,g,by simp only [Obj.putName_eq,Obj.putNameByArray,hi]; rfl,hk.push _ _ _ _,fun x=>?_,by rw [Array.size_push]; omega⟩
      show _ = if x = name then some v else m x
      rw [← hm]
      exact findBy_push (fun n v=>v.isStr n) es name x _ _ v (fun y=>by
        show (name == y) = decide (y = name)
        by_cases h:y = name
        · subst h; simp
        · have:¬ name = y:=fun e=>h e.symm
          simp [h,this]) hi
    · rw [ho] at e₀; cases e₀; simp only [Obj.putName_eq,Obj.putNameByArray,hi]; exact ⟨trivial,trivial,trivial⟩
end
end Mine
end
section
open PySem PySem.W PySem.Calls PyProof.Rows
set_option maxRecDepth 100000
set_option linter.unusedVariables false
set_option genSizeOfSpec false
namespace Mine
/-- the machine stops: nothing follows -/
inductive Stop (n:Nat):Prop
theorem Stop.no {n:Nat} {G:Prop} (h:Stop n):G:=nomatch h
/-! choices -/
noncomputable def onB (b:Bool) (x y:Prop):Prop:=match b with
  | true=>x
  | false=>y
noncomputable def onT (n:Nat) (b:Bool) (x:Prop):Prop:=onB b x (Stop n)
noncomputable def onO {α:Type} (o:Option α) (f:α → Prop) (y:Prop):Prop:=match o with
  | some a=>f a
  | none=>y
noncomputable def onS {α:Type} (n:Nat) (o:Option α) (f:α → Prop):Prop:=onO o f (Stop n)
section
variable {n:Nat} {b:Bool} {x y G:Prop} {α:Type} {o:Option α} {f:α → Prop}
theorem onB_e (h:onB b x y) (k1:b = true → x → G) (k2:b = false → y → G):G:=match b,h with
  | true,h=>k1 rfl h
  | false,h=>k2 rfl h
theorem onT_e (h:onT n b x) (k1:b = true → x → G):G:=onB_e h k1 fun _ h=>h.no
theorem onO_e (h:onO o f y) (k1:∀ a,o = some a → f a → G) (k2:o = none → y → G):G:=match o,h with
  | some a,h=>k1 a rfl h
  | none,h=>k2 rfl h
theorem onS_e (h:onS n o f) (k1:∀ a,o = some a → f a → G):G:=onO_e h k1 fun _ h=>h.no
/-- a goal,by name -/
theorem gl {P:Prop} (h:∀ G:Prop,(P → G) → G):P:=h P id
end
/-! the machine that runs: what it looks up,what it is told -/
inductive Hint where
  | bit (b:Bool)
  | av (a:AV)
  | fz (line:Nat)
  | call (f:Nat) (a:AV) (σ:Store) (nx:Nat)
  | stmt (line:Nat) (fl:Fl) (F:Frame) (σ:Store) (nx:Nat)
structure W where
  o:List Hint
  σ:Store
  nx:Nat
noncomputable abbrev KE:=AV → W → Prop
noncomputable abbrev KB:=Bool → W → Prop
noncomputable abbrev KL:=List AV → W → Prop
noncomputable abbrev KF:=Frame → W → Prop
noncomputable abbrev KS:=Fl → Frame → W → Prop
noncomputable abbrev KU:=W → Prop
noncomputable def W.put (w:W) (n:Nat) (o:AObj):W:=⟨w.o,pt w.σ n o,w.nx⟩
noncomputable def W.new (w:W) (o:AObj) (k:KE):Prop:=k (.loc w.nx) ⟨w.o,(w.nx,o) :: w.σ,w.nx + 1⟩
noncomputable def W.wo (w:W) (o:List Hint):W:=⟨o,w.σ,w.nx⟩
inductive CA where
  | no
  | val (a:AV)
  | fn (f:Nat)
  | prop (f:Nat)
structure ClsI where
  at_:List (Nat × CA)
  init:Option Nat
inductive Bi where
  | len | max | min | int | range | enum | list | set | isi | sorted | dict | tuple | bool | str
inductive Me where
  | append | pop | clear | get | setdefault | add | update | copy | discard | index | extend
inductive GV where
  | val (a:AV)
  | fn (f:Nat)
  | cls (C:Nat)
  | bi (b:Bi)
structure Tab where
  K:Frag
  glob:List (Nat × GV)
  fns:List (Nat × List (Nat × Bool))
  cls:List (Nat × ClsI)
  me:List (Nat × Me)
noncomputable def fdAt (K:Frag) (f:Nat):FuncData:=match K.lookup f with
  | some ⟨_,_,.func fd,_⟩=>fd
  | _=>default
structure Fi where
  fd:FuncData
  nm:List (Nat × Bool)
structure Rec where
  ev:Fi → Frame → PySem.Expr → W → KE → Prop
  tr:Fi → Frame → PySem.Expr → W → KB → Prop
  xs:Fi → Frame → List Stmt → W → KS → Prop
  cl:Nat → List AV → List (Str × AV) → W → KE → Prop
/-! what is told next -/
noncomputable def hAv (n:Nat) (l:List Hint) (f:AV → List Hint → Prop):Prop:=match l with
  | .av c :: o=>f c o
  | _=>Stop n
noncomputable def hBit (n:Nat) (l:List Hint) (f:Bool → List Hint → Prop):Prop:=match l with
  | .bit c :: o=>f c o
  | _=>Stop n
theorem hAv_e {n:Nat} {l:List Hint} {f:AV → List Hint → Prop} {G:Prop} (h:hAv n l f) (k:∀ c o,f c o → G):G:=match l,h with
  | .av c :: o,h=>k c o h
  | [],h=>Stop.no (n:=n) h
  | .bit _ :: _,h=>Stop.no (n:=n) h
  | .fz _ :: _,h=>Stop.no (n:=n) h
  | .call _ _ _ _ :: _,h=>Stop.no (n:=n) h
  | .stmt _ _ _ _ _ :: _,h=>Stop.no (n:=n) h
theorem hBit_e {n:Nat} {l:List Hint} {f:Bool → List Hint → Prop} {G:Prop} (h:hBit n l f) (k:∀ c o,f c o → G):G:=match l,h with
  | .bit c :: o,h=>k c o h
  | [],h=>Stop.no (n:=n) h
  | .av _ :: _,h=>Stop.no (n:=n) h
  | .fz _ :: _,h=>Stop.no (n:=n) h
  | .call _ _ _ _ :: _,h=>Stop.no (n:=n) h
  | .stmt _ _ _ _ _ :: _,h=>Stop.no (n:=n) h
/-! values -/
noncomputable def asI:AV → Option (Bool × Int)
  | .int i=>some (false,i)
  | .si i=>some (true,i)
  | _=>none
noncomputable def asS:AV → Option (Bool × Str)
  | .str x=>some (false,x)
  | .ss x=>some (true,x)
  | _=>none
noncomputable def asB:AV → Option (Bool × Bool)
  | .bool x=>some (false,x)
  | .sb x=>some (true,x)
  | _=>none
noncomputable def asO:AV → Option (Option Str)
  | .so o=>some o
  | _=>none
noncomputable def asJ:AV → Option (Option Int)
  | .io o=>some o
  | _=>none
noncomputable def oL:Option AObj → Option (Bool × List AV)
  | some (.list l)=>some (false,l)
  | some (.slist l)=>some (true,l)
  | _=>none
noncomputable def asSl:AV → Option (List AV)
  | .sl l=>some l
  | _=>none
noncomputable def asLoc:AV → Option Nat
  | .loc n=>some n
  | _=>none
noncomputable def asL (σ:Store) (a:AV):Option (Bool × List AV):=match asSl a with
  | some l=>some (true,l)
  | none=>match asLoc a with
    | some n=>oL (gt σ n)
    | none=>none
noncomputable def asT:AV → Option (List AV)
  | .tup l=>some l
  | _=>none
noncomputable def asN:AV → Bool
  | .none=>true
  | _=>false
noncomputable def oInst:Option AObj → Option (Nat × List (Nat × AV))
  | some (.inst C as)=>some (C,as)
  | _=>none
noncomputable def oDict:Option AObj → Option (List (Str × AV))
  | some (.dict kv)=>some kv
  | _=>none
noncomputable def isED:Option AObj → Bool
  | some .edict=>true
  | _=>false
noncomputable def oSet:Option AObj → Option (List Str)
  | some (.set l)=>some l
  | _=>none
noncomputable def oList:Option AObj → Option (List AV)
  | some (.list l)=>some l
  | _=>none
noncomputable def sRef:AV → Option Nat
  | .stat (.ref C)=>some C
  | _=>none
noncomputable def mkI (t:Bool) (i:Int):AV:=cond t (.si i) (.int i)
noncomputable def mkB (t:Bool) (i:Bool):AV:=cond t (.sb i) (.bool i)
noncomputable def mkLO (t:Bool) (l:List AV):AObj:=cond t (.slist l) (.list l)
noncomputable def or_ (t u:Bool):Bool:=cond t true u
noncomputable def len (l:List AV):Int:=Int.ofNat l.length
/-- the item at a place,from the end if below zero -/
noncomputable def ix (l:List AV):Int → Option AV
  | .ofNat n=>l[n]?
  | .negSucc n=>if n < l.length then l[l.length - (n + 1)]? else none
noncomputable def clampI (n:Nat):Int → Nat
  | .ofNat i=>if i < n then i else n
  | .negSucc i=>n - (i + 1)
noncomputable def cut (l:List AV) (a b:Option Int):List AV:=
  let i:=match a with | none=>0 | some a=>clampI l.length a
  let j:=match b with | none=>l.length | some b=>clampI l.length b
  (l.take j).drop i
noncomputable def lkS:List (Str × AV) → Nat → Option AV
  | [],_=>none
  | p :: r,k=>cond (Nat.beq (cd p.1) k) (some p.2) (lkS r k)
noncomputable def ptS:List (Str × AV) → Str → AV → List (Str × AV)
  | [],x,v=>[(x,v)]
  | p :: r,x,v=>cond (Nat.beq (cd p.1) (cd x)) ((p.1,v) :: r) (p :: ptS r x v)
/-- a value known less -/
inductive Soft:AV → AV → Prop
  | refl (a:AV):Soft a a
  | int (i:Int):Soft (.int i) (.si i)
  | str (x:Str):Soft (.str x) (.ss x)
noncomputable def SoftO (o:Option AV) (c:AV):Prop:=∃ a,o = some a∧Soft a c
/-- an item of a list -/
noncomputable def item (t:Bool) (l:List AV) (i:Int) (w:W) (k:KE):Prop:=onB t
  (hAv 3 w.o fun c o=>(l.length < 2 ^ 62∧SoftO (ix l i) c)∧k c (w.wo o))
  (onT 2 (Nat.ble l.length 100000) (onS 143 (ix l i) fun a=>k a w))
noncomputable def bit (t b:Bool) (w:W) (k:KB):Prop:=onB t
  (hBit 4 w.o fun c o=>b = c∧k c (w.wo o))
  (onB b (k true w) (k false w))
/-- a size: reckoned,or asked -/
noncomputable def szP (t:Bool) (l:List AV) (P k:Prop):Prop:=onB t (P∧k) (onT 172 (Nat.ble l.length 100000) k)
noncomputable def bits64 (i:Int):Bool:=Nat.ble (Builtin.Int.intBits i) 64
noncomputable def okDiv (i:Int):Bool:=cond (Nat.ble 1 i.natAbs) (Nat.ble i.natAbs 1000000) false
noncomputable def okPow (i:Int):Int → Bool
  | .ofNat n=>Nat.ble (Builtin.Int.intBits i * n) 100000
  | .negSucc _=>false
/-! operators -/
noncomputable def bopI (op:Operator) (t u:Bool) (i j:Int) (w:W) (k:KE):Prop:=match op with
  | .Add=>k (mkI (or_ t u) (i + j)) w
  | .Sub=>k (mkI (or_ t u) (i - j)) w
  | .Mult=>onB t (Stop 174) (onT 173 (bits64 i) (k (mkI u (i * j)) w))
  | .FloorDiv=>onB u ((j ≠ 0∧j.natAbs < 1073741824)∧k (mkI true (i.fdiv j)) w) (onT 175 (okDiv j) (k (mkI t (i.fdiv j)) w))
  | .Mod=>onB u (j ≠ 0∧k (mkI true (i.fmod j)) w) (onT 176 (okDiv j) (k (mkI t (i.fmod j)) w))
  | .Pow=>onB (or_ t u) (Stop 178) (onT 177 (okPow i j) (k (mkI false (i ^ j.toNat)) w))
  | _=>Stop 5
noncomputable def bopL (w:W) (k:KE) (p q:Bool × List AV):Prop:=szP (or_ p.1 q.1) (p.2 ++ q.2) (p.2.length + q.2.length ≤ sizeLine) (w.new (mkLO (or_ p.1 q.1) (p.2 ++ q.2)) k)
noncomputable def isAdd (op:Operator):Option (PLift (op = .Add)):=match op with
  | .Add=>some ⟨rfl⟩
  | _=>none
noncomputable def bop (op:Operator) (a b:AV) (w:W) (k:KE):Prop:=onO (asI a)
  (fun p=>onS 8 (asI b) fun q=>bopI op p.1 q.1 p.2 q.2 w k)
  (onS 6 (isAdd op) fun _=>onS 7 (asL w.σ a) fun p=>onS 9 (asL w.σ b) fun q=>bopL w k p q)
noncomputable def cmpI (op:CmpOp) (i j:Int):Option Bool:=match op with
  | .Lt=>some (decide (i < j))
  | .LtE=>some (decide (i ≤ j))
  | .Gt=>some (decide (j < i))
  | .GtE=>some (decide (j ≤ i))
  | _=>none
noncomputable def eqS (x y:Str):Bool:=decide (x = y)
end Mine
end
section
open PySem PySem.W PySem.Calls PyProof.Rows PySem.SeqAt
set_option maxRecDepth 100000
set_option linter.unusedVariables false
namespace Mine
/-! two values equal,as data -/
/-- what is kept stands in the heap -/
noncomputable def Js (J:Frozen) (s:Shared):Prop:=∀ a o,J a = some o → o.cls ≠ fcls → s.heap.get? a = some o
/-- a value equal to itself,as data -/
noncomputable def FlatOk (a:AV):Prop:=∀ {J:Frozen} {nx:Nat} {ρ:Nat → Addr} {s:Shared},Js J s → ∀ {A:Around} {v u:Value},VR J nx ρ a v → VR J nx ρ a u → A.units + 8 < cLine → EqAt A s v u true
noncomputable def eqFs (f:AV → AV → Prop → Prop):List AV → List AV → Prop → Prop
  | [],[],k=>k
  | a :: l,b :: m,k=>f a b (eqFs f l m k)
  | _,_,_=>Stop 178
noncomputable def eqT (z c:Bool) (P k:Prop):Prop:=onB z (P∧k) (onT 179 c k)
noncomputable def eqLs (l m:List AV) (k:Prop):Prop:=(l = m∧∀ x,x ∈ l → FlatOk x)∧k
/-- the same data,told so: what is symbolic is asked -/
noncomputable def eqF (σ:Store) (a b:AV) (k:Prop):Prop:=
  onO (asI a) (fun p=>onS 181 (asI b) fun q=>eqT (or_ p.1 q.1) (decide (p.2 = q.2)) (p.2 = q.2) k)
  (onO (asS a) (fun p=>onS 182 (asS b) fun q=>eqT (or_ p.1 q.1) (eqS p.2 q.2) (p.2 = q.2) k)
  (onO (asB a) (fun p=>onS 183 (asB b) fun q=>eqT (or_ p.1 q.1) (p.2 == q.2) (p.2 = q.2) k)
  (onO (asO a) (fun o=>onS 184 (asO b) fun p=>o = p∧k)
  (onB (asN a) (onT 185 (asN b) k)
  (onS 186 (asL σ a) fun p=>onS 187 (asL σ b) fun q=>eqLs p.2 q.2 k)))))
noncomputable def eqKV (f:AV → AV → Prop → Prop) (kv':List (Str × AV)):List (Str × AV) → Prop → Prop
  | [],k=>k
  | p :: r,k=>onB (Nat.beq (cd p.1) 0) (Stop 182) (onS 188 (lkS kv' (cd p.1)) fun c=>f p.2 c (eqKV f kv' r k))
/-- items of what is compared -/
noncomputable def eqP (σ:Store):Nat → AV → AV → Prop → Prop
  | 0,_,_,_=>Stop 183
  | n + 1,a,b,k=>onO (asT a) (fun l=>onS 189 (asT b) fun m=>eqFs (eqP σ n) l m k)
    (onO (asLoc a) (fun i=>onO (oDict (gt σ i)) (fun kv=>onS 190 (asLoc b) fun j=>onS 191 (oDict (gt σ j)) fun kv'=>onT 184 (Nat.beq kv.length kv'.length) (eqKV (eqF σ) kv' kv k)) (eqF σ a b k))
    (eqF σ a b k))
noncomputable def eqT0 (σ:Store) (a b:AV) (k:Prop):Prop:=onO (asT a) (fun l=>onS 189 (asT b) fun m=>eqFs (eqP σ 9) l m k)
    (onO (asLoc a) (fun i=>onO (oList (gt σ i)) (fun l=>onO (asLoc b) (fun j=>onO (oList (gt σ j)) (fun m=>eqFs (eqP σ 9) l m k) (eqF σ a b k)) (eqF σ a b k)) (eqF σ a b k)) (eqF σ a b k))
/-- equality of ints,strs,None by kind -/
noncomputable def eqB (a b:AV) (w:W) (k:Bool → Bool → W → Prop) (y:Prop):Prop:=
  onO (asI a) (fun p=>onO (asI b) (fun q=>k (or_ p.1 q.1) (decide (p.2 = q.2)) w) (onS 1 (asJ b) fun o=>k true (decide (o = some p.2)) w))
  (onO (asS a) (fun p=>onO (asS b) (fun q=>k (or_ p.1 q.1) (eqS p.2 q.2) w) (onS 2 (asO b) fun o=>k true (decide (o = some p.2)) w))
  (onO (asB a) (fun p=>onS 3 (asB b) fun q=>k (or_ p.1 q.1) (p.2 == q.2) w)
  (onO (asO a) (fun o=>onO (asS b) (fun q=>k true (decide (o = some q.2)) w) (onS 4 (asO b) fun p=>k true (decide (o = p)) w))
  (onB (asN a) (onT 5 (asN b) (k false true w)) y))))
/-- the same for `!=`; what is deeper is told -/
noncomputable def eqN (a b:AV) (w:W) (k:Bool → Bool → W → Prop):Prop:=eqB a b w k (hAv 7 w.o fun _ o=>eqT0 w.σ a b (k false true (w.wo o)))
/-- None or not,known at once -/
noncomputable def nn:AV → Bool
  | .stat _=>false
  | .io _=>false
  | .so _=>false
  | _=>true
noncomputable def two (a:AV):Option { p:AV × AV // a = .tup [p.1,p.2] }:=match a with
  | .tup [a,b]=>some ⟨(a,b),rfl⟩
  | _=>none
noncomputable def isLt (op:CmpOp):Option (PLift (op = .Lt)):=match op with
  | .Lt=>some ⟨rfl⟩
  | _=>none
noncomputable def lex2 (op:CmpOp) (a b:AV) (k:AV → Prop):Prop:=onS 18 (isLt op) fun _=>(onS 18 (two a) fun p=>onS 18 (two b) fun q=>
  onS 18 (asI p.1.1) fun i=>onS 18 (asI p.1.2) fun j=>onS 18 (asI q.1.1) fun m=>onS 18 (asI q.1.2) fun n=>k (.sb (decide (i.2 < m.2 ∨ (i.2 = m.2∧j.2 < n.2)))))
/-- an atom equal to an atom -/
noncomputable def eqAt (a b:AV) (k:Bool → Bool → Prop):Prop:=onO (asI a) (fun p=>onS 154 (asI b) fun q=>k (or_ p.1 q.1) (decide (q.2 = p.2)))
  (onS 154 (asS a) fun p=>onO (asS b) (fun q=>k (or_ p.1 q.1) (eqS q.2 p.2)) (onT 154 (asN b) (k false false)))
noncomputable def anyAt (a:AV):List AV → (Bool → Bool → Prop) → Prop
  | [],k=>k false false
  | b :: l,k=>eqAt a b fun t x=>anyAt a l fun u y=>k (or_ t u) (or_ x y)
noncomputable def inA (a b:AV) (w:W) (k:AV → W → Prop):Prop:=onO (asT b) (fun l=>anyAt a l fun t c=>k (mkB t c) w)
  (onS 12 (asLoc b) fun n=>onS 11 (oDict (gt w.σ n)) fun kv=>onS 11 (asS a) fun p=>onB (Nat.beq (cd p.2) 0) (Stop 144) (onS 144 (lkS kv (cd p.2)) fun _=>k (.bool true) w))
noncomputable def isA (z:Bool) (a b:AV) (w:W) (k:KE):Prop:=onT 13 (asN b) (onO (asO a) (fun o=>k (.sb (cond z (!o.isNone) o.isNone)) w) (onT 185 (nn a) (k (.bool (cond z (!asN a) (asN a))) w)))
noncomputable def cmp (op:CmpOp) (a b:AV) (w:W) (k:KE):Prop:=match op with
  | .Is=>isA false a b w k
  | .IsNot=>isA true a b w k
  | .In=>inA a b w k
  | .Eq=>eqB a b w (fun t c w=>k (mkB t c) w) (Stop 15)
  | .NotEq=>eqN a b w fun t c w=>k (mkB t (!c)) w
  | op=>onO (asI a) (fun p=>onS 17 (asI b) fun q=>onS 17 (cmpI op p.2 q.2) fun r=>k (mkB (or_ p.1 q.1) r) w) (lex2 op a b fun r=>k r w)
/-! truth -/
noncomputable def tru (a:AV) (w:W) (k:KB):Prop:=onO (asB a) (fun p=>bit p.1 p.2 w k)
  (onS 19 (asL w.σ a) fun p=>szP p.1 p.2 (p.2.length < 2 ^ 62) (bit p.1 (!p.2.isEmpty) w k))
/-! one after another -/
noncomputable def plainE:PySem.Expr → Bool
  | .Starred _ _=>false
  | _=>true
noncomputable def evl (r:PySem.Expr → W → KE → Prop):List PySem.Expr → W → KL → Prop
  | [],w,k=>k [] w
  | e :: es,w,k=>onT 133 (plainE e) (r e w fun a w=>evl r es w fun as w=>k (a :: as) w)
noncomputable def kwOk:List Keyword → Bool
  | []=>true
  | e :: es=>cond e.arg.isSome (kwOk es) false
noncomputable def evk (r:PySem.Expr → W → KE → Prop):List Keyword → W → (List (Str × AV) → W → Prop) → Prop
  | [],w,k=>k [] w
  | e :: es,w,k=>onS 21 e.arg fun x=>r e.value w fun a w=>evk r es w fun as w=>k ((x,a) :: as) w
noncomputable def plainAll:List PySem.Expr → Bool
  | []=>true
  | e :: es=>cond (plainE e) (plainAll es) false
noncomputable def baseOk:PySem.Expr → Bool
  | .Name _ _=>true
  | .Attribute _ _ _=>true
  | .Subscript _ _ _=>true
  | _=>false
/-- a method's call in the usual form -/
noncomputable def mOk (o:PySem.Expr) (args:List PySem.Expr) (kws:List Keyword) (apos pos:Pos):Bool:=
  cond (baseOk o) (cond (plainAll args) (cond (kwOk kws) (cond (Nat.ble (args.length + kws.length) 20) (Nat.beq apos.endLine pos.line) false) false) false) false
noncomputable def argP (r:PySem.Expr → W → KE → Prop) (es:List PySem.Expr) (kws:List Keyword) (w:W) (k:List AV → List (Str × AV) → W → Prop):Prop:=onT 138 (kwOk kws) (evl r es w fun as w=>evk r kws w fun kv w=>k as kv w)
/-- the arguments of a call with a lone star -/
noncomputable def argS (r:PySem.Expr → W → KE → Prop) (e:PySem.Expr) (w:W) (k:List AV → List (Str × AV) → W → Prop):Prop:=r e w fun a w=>onS 134 (asT a) fun l=>onT 139 (Nat.ble l.length 1000) (k l [] w)
noncomputable def evd (r:PySem.Expr → W → KE → Prop):List (Option PySem.Expr) → List PySem.Expr → W → (List (Str × AV) → W → Prop) → Prop
  | [],[],w,k=>k [] w
  | some q :: qs,e :: es,w,k=>r q w fun a w=>onS 22 (asS a) fun p=>onB (Nat.beq (cd p.2) 0) (Stop 147) (r e w fun a w=>evd r qs es w fun as w=>k ((p.2,a) :: as) w)
  | _,_,_,_=>Stop 23
noncomputable def dOk:List (Option PySem.Expr) → List PySem.Expr → Bool
  | [],[]=>true
  | some _ :: qs,_ :: es=>dOk qs es
  | _,_=>false
/-- a truth of And,Or -/
noncomputable def trl (r:PySem.Expr → W → KB → Prop) (stop:Bool):List PySem.Expr → W → KB → Prop
  | [],w,k=>Stop 24
  | e :: es,w,k=>r e w fun b w=>onB (cond es.isEmpty true (b == stop)) (k b w) (trl r stop es w k)
section
variable (X:Cx) (T:Tab) (n:Nat) (r:Rec) (fi:Fi) (F:Frame)
noncomputable def gCls (g:Option GV):Option { C // g = some (.cls C) }:=match g with
  | some (.cls C)=>some ⟨C,rfl⟩
  | _=>none
noncomputable def gFn (g:Option GV):Option { f // g = some (.fn f) }:=match g with
  | some (.fn f)=>some ⟨f,rfl⟩
  | _=>none
noncomputable def gBi (g:Option GV):Option { b // g = some (.bi b) }:=match g with
  | some (.bi b)=>some ⟨b,rfl⟩
  | _=>none
noncomputable def name (x:Str) (w:W) (k:KE):Prop:=onS 28 (gt fi.nm (cd x)) fun z=>onB z (onS 26 (gt F (cd x)) fun a=>k a w) (onS 27 (gCls (gt T.glob (cd x))) fun C=>k (.stat (.ref C.1)) w)
noncomputable def hnd:AV → Bool
  | .stat _=>false
  | _=>true
noncomputable def cFn (c:Option CA):Option { f // c = some (.fn f) }:=match c with
  | some (.fn f)=>some ⟨f,rfl⟩
  | _=>none
noncomputable def cProp (c:Option CA):Option { f // c = some (.prop f) }:=match c with
  | some (.prop f)=>some ⟨f,rfl⟩
  | _=>none
noncomputable def cVal (c:Option CA):Option { a // c = some (.val a) }:=match c with
  | some (.val a)=>some ⟨a,rfl⟩
  | _=>none
noncomputable def cNo (c:Option CA):Option (PLift (c = some .no)):=match c with
  | some .no=>some ⟨rfl⟩
  | _=>none
/-- an object,its class -/
noncomputable def inst (n:Nat) (σ:Store) (k:Nat → List (Nat × AV) → ClsI → Prop):Prop:=onS 33 (oInst (gt σ n)) fun p=>onS 32 (gt T.cls p.1) fun ci=>k p.1 p.2 ci
noncomputable def attrI (x:Str) (a:AV) (w:W) (k:KE) (as:List (Nat × AV)) (c:Option CA):Prop:=onO (cProp c) (fun f=>r.cl f.1 [a] [] w fun v w=>onT 142 (hnd v) (k v w))
  (onS 31 (cNo c) fun _=>onS 30 (gt as (cd x)) fun v=>onT 130 (hnd v) (k v w))
noncomputable def attr (x:Str) (a:AV) (w:W) (k:KE):Prop:=onO (asLoc a) (fun n=>inst T n w.σ fun _ as ci=>attrI r x a w k as (gt ci.at_ (cd x)))
  (onS 36 (sRef a) fun C=>onS 35 (gt T.cls C) fun ci=>onS 34 (cVal (gt ci.at_ (cd x))) fun v=>k v.1 w)
noncomputable def setattr (x:Str) (o a:AV) (w:W) (k:KU):Prop:=onS 41 (asLoc o) fun n=>inst T n w.σ fun C as ci=>onS 38 (gt ci.at_ (cd x)) fun c=>onT 37 ((cProp (some c)).isNone) (onT 132 (Nat.ble as.length 1000) (k (w.put n (.inst C (pt as (cd x) a)))))
noncomputable def itI (t:Bool) (l:List AV) (i:AV) (w:W) (k:KE):Prop:=onS 42 (asI i) fun p=>item t l p.2 w k
noncomputable def itD (kv:List (Str × AV)) (i:AV) (w:W) (k:KE):Prop:=onS 44 (asS i) fun p=>onB (Nat.beq (cd p.2) 0) (Stop 43) (onS 43 (lkS kv (cd p.2)) fun a=>k a w)
/-- the flag of an item: the list's or the place's -/
noncomputable def itL (p:Bool × List AV) (i:AV) (w:W) (k:KE):Prop:=onS 45 (asI i) fun q=>item (or_ p.1 q.1) p.2 q.2 w k
noncomputable def getit (o i:AV) (w:W) (k:KE):Prop:=onO (asT o) (fun l=>itL (false,l) i w k)
  (onO (asL w.σ o) (fun p=>itL p i w k)
  (onS 52 (asLoc o) fun n=>onO (oDict (gt w.σ n)) (fun kv=>itD kv i w k) (inst T n w.σ fun _ _ ci=>onS 47 (cFn (gt ci.at_ 128)) fun f=>r.cl f.1 [o,i] [] w k)))
/-- a bound of a slice -/
noncomputable def part (a:AV):Option (Bool × Option Int):=match asI a with
  | some p=>some (p.1,some p.2)
  | none=>cond (asN a) (some (false,none)) none
noncomputable def flOf:List Hint → Option (List AV × List Hint)
  | .av (.fl l) :: o=>some (l,o)
  | _=>none
noncomputable def slice (o a b:AV) (w:W) (k:KE):Prop:=onS 148 (asL w.σ o) fun p=>onS 148 (part a) fun i=>onS 148 (part b) fun j=>
  szP p.1 p.2 (p.2.length ≤ sizeLine) (onO (flOf w.o) (fun q=>cut p.2 i.2 j.2 = q.1∧W.new (w.wo q.2) (.list q.1) k) (w.new (mkLO (or_ p.1 (or_ i.1 j.1)) (cut p.2 i.2 j.2)) k))
noncomputable def natI (a:AV):Option { j // a = .int (.ofNat j) }:=match a with
  | .int (.ofNat j)=>some ⟨j,rfl⟩
  | _=>none
noncomputable def setit (o i a:AV) (w:W) (k:KU):Prop:=onS 59 (asLoc o) fun n=>
  onO (oDict (gt w.σ n)) (fun kv=>onS 55 (asS i) fun p=>onB (Nat.beq (cd p.2) 0) (Stop 145) (onT 145 (Nat.ble kv.length 1000) (k (w.put n (.dict (ptS kv p.2 a))))))
  (onS 58 (oList (gt w.σ n)) fun l=>onS 57 (natI i) fun j=>onB (Nat.ble l.length j.1) (Stop 56) (onT 152 (Nat.ble j.1 100000) (k (w.put n (.list (l.set j.1 a))))))
/-- pairs stored one after another -/
noncomputable def mrg:List (Str × AV) → List (Str × AV) → List (Str × AV)
  | kv,[]=>kv
  | kv,p :: r=>mrg (ptS kv p.1 p.2) r
noncomputable def fzOf:List Hint → Option (Nat × List Hint)
  | .fz m :: o=>some (m,o)
  | _=>none
/-- a list made: of the store,or for ever -/
noncomputable def mkl (line:Nat) (l:List AV) (w:W) (k:KE):Prop:=onO (fzOf w.o) (fun q=>onB (Nat.beq q.1 line) (k (.fl l) (w.wo q.2)) (w.new (.list l) k)) (w.new (.list l) k)
noncomputable def okLen (v:AV) (k:Prop):Prop:=onS 155 (asI v) fun p=>onB p.1 ((0 ≤ p.2∧p.2 < 2 ^ 63)∧k) (onS 189 (natI (.int p.2)) fun n=>onT 188 (Nat.ble n.1 1000000) k)
noncomputable def lenA (a:AV) (w:W) (k:KE):Prop:=onO (asT a) (fun l=>szP false l (l.length < 2 ^ 62) (k (.int (len l)) w))
  (onO (asL w.σ a) (fun p=>szP p.1 p.2 (p.2.length < 2 ^ 62) (k (mkI p.1 (len p.2)) w))
  (onS 63 (asLoc a) fun n=>inst T n w.σ fun _ _ ci=>onS 60 (cFn (gt ci.at_ 256)) fun f=>r.cl f.1 [a] [] w fun v w=>okLen v (k v w)))
noncomputable def isi (a:AV) (b:Bi) (k:Bool → Prop):Prop:=match b with
  | .tuple=>onO (asI a) (fun _=>k false) (onS 86 (asT a) fun _=>k true)
  | .int=>onS 86 (asI a) fun _=>k true
  | _=>Stop 86
noncomputable def one {α:Type} (l:List α):Option { a // l = [a] }:=match l with
  | [a]=>some ⟨a,rfl⟩
  | _=>none
noncomputable def pr {α:Type} (l:List α):Option { p:α × α // l = [p.1,p.2] }:=match l with
  | [a,b]=>some ⟨(a,b),rfl⟩
  | _=>none
noncomputable def bi (b:Bi) (as:List AV) (w:W) (k:KE):Prop:=match b with
  | .len=>onS 64 (one as) fun a=>lenA T r a.1 w k
  | .max=>onS 64 (pr as) fun a=>onS 64 (asI a.1.1) fun p=>onS 64 (asI a.1.2) fun q=>k (mkI (or_ p.1 q.1) (if p.2 < q.2 then q.2 else p.2)) w
  | .min=>onS 65 (pr as) fun a=>onS 65 (asI a.1.1) fun p=>onS 65 (asI a.1.2) fun q=>k (mkI (or_ p.1 q.1) (if q.2 < p.2 then q.2 else p.2)) w
  | .int=>onS 66 (one as) fun a=>onS 66 (asB a.1) fun p=>k (mkI p.1 (if p.2 then 1 else 0)) w
  | .list=>onS 67 (one as) fun a=>onS 67 (asL w.σ a.1) fun p=>szP p.1 p.2 (p.2.length ≤ sizeLine) (w.new (mkLO p.1 p.2) k)
  | .set=>onT 69 as.isEmpty (w.new (.set []) k)
  | .sorted=>onS 68 (one as) fun a=>onS 68 (asLoc a.1) fun n=>onT 68 (isED (gt w.σ n)) (w.new (.list []) k)
  | _=>Stop 69
/-- does the object have this method -/
noncomputable def midB (o:Option AObj):Me → Bool
  | .append=>(oL o).isSome
  | .clear=>(oList o).isSome
  | .get=>(oDict o).isSome
  | .pop=>isED o
  | .add=>(oSet o).isSome
  | _=>false
noncomputable def methB (m:Me) (as:List AV) (n:Nat) (w:W) (k:KE):Prop:=match m with
  | .append=>onS 71 (one as) fun a=>onS 71 (oL (gt w.σ n)) fun p=>szP p.1 p.2 (p.2.length ≤ sizeLine) (k .none (w.put n (mkLO p.1 (p.2 ++ [a.1]))))
  | .clear=>onT 72 as.isEmpty (onS 72 (oList (gt w.σ n)) fun l=>szP false l (l.length ≤ sizeLine) (k .none (w.put n (.list []))))
  | .get=>onS 73 (pr as) fun q=>onS 73 (oDict (gt w.σ n)) fun kv=>onS 73 (asS q.1.1) fun p=>onB (Nat.beq (cd p.2) 0) (Stop 146) (onO (lkS kv (cd p.2)) (fun a=>k a w) (k q.1.2 w))
  | .pop=>onS 75 (pr as) fun q=>onT 75 (isED (gt w.σ n)) (onS 74 (asI q.1.1) fun _=>k q.1.2 w)
  | .add=>onS 76 (one as) fun a=>onS 76 (oSet (gt w.σ n)) fun l=>onS 76 (asS a.1) fun p=>onB (l.contains p.2) (Stop 151) (onT 151 (Nat.ble l.length 1000) (k .none (w.put n (.set (l ++ [p.2])))))
  | _=>Stop 77
noncomputable def make (C:Nat) (as:List AV) (kw:List (Str × AV)) (w:W) (k:KE):Prop:=onS 80 (gt T.cls C) fun ci=>onS 79 ci.init fun f=>
  w.new (.inst C []) fun o w=>r.cl f (o :: as) kw w fun a w=>onT 78 (asN a) (k o w)
/-- a method of an object's class -/
noncomputable def ownFn (x:Str) (a:AV) (σ:Store) (k:Nat → Prop) (y:Prop):Prop:=onS 85 (asLoc a) fun n=>onO (oInst (gt σ n)) (fun p=>onS 82 (gt T.cls p.1) fun ci=>onB (gt p.2 (cd x)).isNone (onS 81 (cFn (gt ci.at_ (cd x))) fun f=>k f.1) (Stop 81)) y
noncomputable def stE (es:List PySem.Expr):Option { e // ∃ sp,es = [.Starred e sp] }:=match es with
  | [.Starred e sp]=>some ⟨e,sp,rfl⟩
  | _=>none
noncomputable def callS (o:PySem.Expr) (x:Str) (e:PySem.Expr) (w:W) (k:KE):Prop:=onT 140 (baseOk o) (r.ev fi F o w fun a w=>
  ownFn T x a w.σ (fun f=>onS 200 (gt T.fns f) fun _=>argS (r.ev fi F) e w fun vs kv w=>r.cl f (a :: vs) kv w k) (Stop 201))
noncomputable def callB (n:Nat) (x:Str) (args:List PySem.Expr) (w:W) (k:KE):Prop:=onS 83 (gt T.me (cd x)) fun m=>onT 153 (midB (gt w.σ n) m) (onT 83 (plainAll args) (evl (r.ev fi F) args w fun vs w=>methB m vs n w k))
noncomputable def callM (o:PySem.Expr) (x:Str) (args:List PySem.Expr) (kws:List Keyword) (w:W) (k:KE):Prop:=r.ev fi F o w fun a w=>
  ownFn T x a w.σ (fun f=>argP (r.ev fi F) args kws w fun vs kv w=>r.cl f (a :: vs) kv w k) (onT 83 kws.isEmpty (onS 84 (asLoc a) fun n=>callB T r fi F n x args w k))
noncomputable def isiArgs (es:List PySem.Expr):Option { p:PySem.Expr × Str // ∃ py,es = [p.1,.Name p.2 py] }:=match es with
  | [e,.Name y py]=>some ⟨(e,y),py,rfl⟩
  | _=>none
noncomputable def isIsi (b:Bi):Option (PLift (b = .isi)):=match b with
  | .isi=>some ⟨rfl⟩
  | _=>none
noncomputable def callI (args:List PySem.Expr) (w:W) (k:KE):Prop:=onS 88 (isiArgs args) fun p=>onS 87 (gt fi.nm (cd p.1.2)) fun z=>onB z (Stop 87) (onS 87 (gBi (gt T.glob (cd p.1.2))) fun b=>onT 87 (plainE p.1.1) (r.ev fi F p.1.1 w fun a w=>isi a b.1 fun c=>k (.bool c) w))
noncomputable def callN (x:Str) (args:List PySem.Expr) (kws:List Keyword) (w:W) (k:KE) (g:Option GV):Prop:=
  onO (gFn g) (fun f=>argP (r.ev fi F) args kws w fun vs kv w=>r.cl f.1 vs kv w k)
  (onO (gCls g) (fun C=>argP (r.ev fi F) args kws w fun vs kv w=>make T r C.1 vs kv w k)
  (onS 90 (gBi g) fun b=>onT 89 kws.isEmpty (onO (isIsi b.1) (fun _=>callI T r fi F args w k) (onT 157 (plainAll args) (evl (r.ev fi F) args w fun vs w=>bi T r b.1 vs w k)))))
noncomputable def callE (fn:PySem.Expr) (args:List PySem.Expr) (kws:List Keyword) (pos:Pos) (w:W) (k:KE):Prop:=match fn with
  | .Attribute o x apos=>onB (mOk o args kws apos pos) (callM T r fi F o x args kws w k) (onT 140 kws.isEmpty (onS 140 (stE args) fun e=>callS T r fi F o x e.1 w k))
  | .Name x _=>onS 90 (gt fi.nm (cd x)) fun z=>onB z (Stop 90) (callN T r fi F x args kws w k (gt T.glob (cd x)))
  | _=>Stop 91
noncomputable def optE (e:Option PySem.Expr) (w:W) (k:KE):Prop:=onO e (fun e=>r.ev fi F e w k) (k .none w)
noncomputable def constA (c:Const) (k:KE) (w:W):Prop:=match c with
  | .none=>k .none w
  | .bool b=>k (.bool b) w
  | .int i=>k (.int i) w
  | .str x=>k (.str x) w
  | _=>Stop 92
noncomputable def slOf (e:PySem.Expr):Option { p:Option PySem.Expr × Option PySem.Expr // ∃ ps,e = .Slice p.1 p.2 none ps }:=match e with
  | .Slice l u none ps=>some ⟨(l,u),ps,rfl⟩
  | _=>none
noncomputable def notSlice:PySem.Expr → Bool
  | .Slice _ _ _ _=>false
  | _=>true
noncomputable def evF (e:PySem.Expr) (w:W) (k:KE):Prop:=match e with
  | .Name x _=>name T fi F x w k
  | .Constant c _ _=>constA c k w
  | .Attribute o x _=>onT 141 (baseOk o) (r.ev fi F o w fun a w=>attr T r x a w k)
  | .Subscript o i _=>r.ev fi F o w fun a w=>onO (slOf i) (fun p=>optE r fi F p.1.1 w fun l w=>optE r fi F p.1.2 w fun u w=>slice a l u w k)
    (onT 93 (notSlice i) (r.ev fi F i w fun b w=>getit T r a b w k))
  | .BinOp l op m _=>r.ev fi F l w fun a w=>r.ev fi F m w fun b w=>bop op a b w k
  | .UnaryOp .USub x _=>r.ev fi F x w fun a w=>onS 94 (asI a) fun p=>k (mkI p.1 (-p.2)) w
  | .Compare l ops cs _=>onS 96 (one ops) fun op=>onS 96 (one cs) fun m=>onB (behindInMarks op.1 m.1) (Stop 126) (r.ev fi F l w fun a w=>r.ev fi F m.1 w fun b w=>cmp op.1 a b w k)
  | .IfExp t b o _=>r.tr fi F t w fun c w=>onB c (r.ev fi F b w k) (r.ev fi F o w k)
  | .Tuple es _ _=>onT 135 (Nat.ble es.length 1000) (evl (r.ev fi F) es w fun l w=>k (.tup l) w)
  | .List es p=>onT 136 (Nat.ble es.length 1000) (evl (r.ev fi F) es w fun l w=>mkl p.line l w k)
  | .Dict ks vs _=>onB (cond ks.isEmpty vs.isEmpty false) (w.new .edict k) (onT 137 (Nat.ble ks.length 15) (onT 156 (dOk ks vs) (evd (r.ev fi F) ks vs w fun kv w=>w.new (.dict (mrg [] kv)) k)))
  | .Call fn args kws pos=>callE T r fi F fn args kws pos w k
  | _=>Stop 97
noncomputable def trF (e:PySem.Expr) (w:W) (k:KB):Prop:=match e with
  | .UnaryOp .Not x _=>r.tr fi F x w fun b w=>k (!b) w
  | .BoolOp op es _=>match op with
    | .And=>trl (r.tr fi F) false es w k
    | .Or=>trl (r.tr fi F) true es w k
  | .Compare l ops cs _=>onS 127 (one ops) fun op=>onS 127 (one cs) fun m=>onB (behindInMarks op.1 m.1) (Stop 127) (r.ev fi F l w fun a w=>r.ev fi F m.1 w fun b w=>cmp op.1 a b w fun c w=>tru c w k)
  | .Name _ _=>r.ev fi F e w fun a w=>tru a w k
  | .Attribute _ _ _=>r.ev fi F e w fun a w=>tru a w k
  | .Call _ _ _ _=>r.ev fi F e w fun a w=>tru a w k
  | _=>Stop 129
end
noncomputable def stmtsOf:FuncBody → Option (List Stmt)
  | .stmts b=>some b
  | _=>none
end Mine
end
section
open PySem PySem.W PySem.Calls PyProof.Rows
set_option maxRecDepth 100000
set_option linter.unusedVariables false
namespace Mine
noncomputable def zT:Option Bool → Bool
  | some true=>true
  | _=>false
noncomputable def isLoc (fi:Fi) (x:Str):Bool:=zT (gt fi.nm (cd x))
noncomputable def nmE (e:PySem.Expr):Option { p:Str × Pos // e = .Name p.1 p.2 }:=match e with
  | .Name x ps=>some ⟨(x,ps),rfl⟩
  | _=>none
noncomputable def tupE (e:PySem.Expr):Option { l:List PySem.Expr // ∃ i ps,e = .Tuple l i ps }:=match e with
  | .Tuple es i ps=>some ⟨es,i,ps,rfl⟩
  | _=>none
/-- the order of an assignment's stores -/
noncomputable def swOf (fd:FuncData) (ts:List PySem.Expr) (e:PySem.Expr):Option { r:Option (List Str) // ∀ L f,swappedStores ts e (callEnv fd L f) = pure r }:=match h:swappedStores ts e (callEnv fd 0 0) with
  | .pure r=>some ⟨r,fun L f=>h⟩
  | _=>none
noncomputable def small (b:Int):Bool:=Nat.ble b.natAbs 1000000
/-- a number told -/
noncomputable def hard (a:AV) (w:W) (k:Int → W → Prop):Prop:=onS 159 (asI a) fun p=>onB p.1 (hAv 158 w.o fun c o=>onS 158 (asI c) fun q=>p.2 = q.2∧k q.2 (w.wo o)) (k p.2 w)
section
variable (X:Cx) (T:Tab) (n:Nat) (r:Rec) (fi:Fi)
/-- a store into a target -/
noncomputable def sto1 (t:PySem.Expr) (a:AV) (F:Frame) (w:W) (k:KF):Prop:=match t with
  | .Name x _=>onT 98 (isLoc fi x) (k (pt F (cd x) a) w)
  | .Attribute o x _=>r.ev fi F o w fun o w=>setattr T x o a w fun w=>k F w
  | .Subscript o i _=>r.ev fi F o w fun o w=>onT 99 (notSlice i) (r.ev fi F i w fun i w=>setit o i a w fun w=>k F w)
  | _=>Stop 100
noncomputable def stol:List PySem.Expr → List AV → Frame → W → KF → Prop
  | [],[],F,w,k=>k F w
  | t :: ts,a :: as,F,w,k=>sto1 T r fi t a F w fun F w=>stol ts as F w k
  | _,_,_,_,_=>Stop 101
noncomputable def stoT (ts:List PySem.Expr) (a:AV) (F:Frame) (w:W) (k:KF):Prop:=onS 102 (asT a) fun as=>onT 160 (plainAll ts) (onT 160 (Nat.beq ts.length as.length) (stol T r fi ts as F w k))
noncomputable def sto (t:PySem.Expr) (a:AV) (F:Frame) (w:W) (k:KF):Prop:=onO (tupE t) (fun ts=>stoT T r fi ts.1 a F w k) (sto1 T r fi t a F w k)
noncomputable def stos:List PySem.Expr → AV → Frame → W → KF → Prop
  | [],a,F,w,k=>k F w
  | t :: ts,a,F,w,k=>sto T r fi t a F w fun F w=>stos ts a F w k
/-- a turn that ends -/
noncomputable def nxt (fl:Fl) (k:Prop):Prop:=match fl with
  | .next=>k
  | _=>Stop 104
noncomputable def brks (fl:Fl) (k:Prop):Prop:=match fl with
  | .brk=>k
  | _=>Stop 105
/-- a loop over a list -/
noncomputable def forL (t:PySem.Expr) (body:List Stmt) (a:AV):Nat → Nat → Frame → W → KS → Prop
  | 0,_,_,_,_=>Stop 103
  | m + 1,j,F,w,k=>onS 104 (asL w.σ a) fun p=>onB p.1 (Stop 104) (onO p.2[j]? (fun v=>sto T r fi t v F w fun F w=>r.xs fi F body w fun fl F w=>nxt fl (forL t body a m (j + 1) F w k)) (k .next F w))
/-- a loop over a range -/
noncomputable def forR (t:PySem.Expr) (body:List Stmt) (b:Int):Nat → Int → Frame → W → KS → Prop
  | 0,_,_,_,_=>Stop 105
  | m + 1,i,F,w,k=>onB (decide (i < b)) (sto T r fi t (.int i) F w fun F w=>r.xs fi F body w fun fl F w=>nxt fl (forR t body b m (i + 1) F w k)) (k .next F w)
/-- a statement that ends so -/
@[irreducible] noncomputable def XsOk (d:Nat) (fd:FuncData) (F:Frame) (s:Stmt) (σ:Store) (nx:Nat) (fl:Fl) (F':Frame) (σ':Store) (nx':Nat):Prop:=
  Xs X d fd F (fun env=>exec s env) σ nx fun φ F₁ σ₁ n₁=>φ = fl∧F₁ = F'∧σ₁ = σ'∧n₁ = nx'
variable {X} in
theorem xsGo {d:Nat} {fd:FuncData} {F:Frame} {s:Stmt} {σ:Store} {nx:Nat} {fl:Fl} {F':Frame} {σ':Store} {nx':Nat} (h:XsOk X d fd F s σ nx fl F' σ' nx'):Xs X d fd F (fun env=>exec s env) σ nx fun φ F₁ σ₁ n₁=>φ = fl∧F₁ = F'∧σ₁ = σ'∧n₁ = nx':=by
  unfold XsOk at h; exact h
variable {X} in
theorem xsMk {d:Nat} {fd:FuncData} {F:Frame} {s:Stmt} {σ:Store} {nx:Nat} {fl:Fl} {F':Frame} {σ':Store} {nx':Nat} (h:Xs X d fd F (fun env=>exec s env) σ nx fun φ F₁ σ₁ n₁=>φ = fl∧F₁ = F'∧σ₁ = σ'∧n₁ = nx'):XsOk X d fd F s σ nx fl F' σ' nx':=by
  unfold XsOk; exact h
noncomputable abbrev ClOk (d:Nat) (f:Nat) (as:List AV) (kw:List (Str × AV)) (σ:Store) (nx:Nat) (a:AV) (σ':Store) (nx':Nat):Prop:=
  Cl X d (.ref f) as kw σ nx fun b σ₁ n₁=>b = a∧σ₁ = σ'∧n₁ = nx'
noncomputable def callOf (e:PySem.Expr):Option { p:Str × PySem.Expr // ∃ px ps,e = .Call (.Name p.1 px) [p.2] [] ps }:=match e with
  | .Call (.Name x px) [e] [] ps=>some ⟨(x,e),px,ps,rfl⟩
  | _=>none
noncomputable def isRng (b:Option GV):Bool:=match b with
  | some (.bi .range)=>true
  | _=>false
noncomputable def isRange (e:PySem.Expr):Option PySem.Expr:=match callOf e with
  | some p=>cond (isRng (gt T.glob (cd p.1.1))) (cond ((gt fi.nm (cd p.1.1)).any not) (some p.1.2) none) none
  | none=>none
noncomputable def isSet:PySem.Expr → Bool
  | .Set _ _ _=>true
  | _=>false
noncomputable def forS (t:PySem.Expr) (body:List Stmt) (it:PySem.Expr) (F:Frame) (w:W) (k:KS):Prop:=onO (isRange T fi it)
  (fun e=>onT 169 (plainE e) (r.ev fi F e w fun a w=>hard a w fun b w=>onT 106 (small b) (forR T r fi t body b (b.toNat + 1) 0 F w k)))
  (onB (isSet it) (Stop 162) (r.ev fi F it w fun a w=>onS 109 (asL w.σ a) fun p=>onB p.1 (Stop 109) (forL T r fi t body a (p.2.length + 1) 0 F w k)))
noncomputable def tgt1 (t:PySem.Expr):Bool:=(nmE t).isSome || (tupE t).isSome
noncomputable def whS (t:PySem.Expr) (body:List Stmt) (F:Frame) (w:W) (k:KS):Prop:=r.tr fi F t w fun b w=>onT 161 b (r.xs fi F body w fun fl F w=>brks fl (k .next F w))
noncomputable def augS (t:PySem.Expr) (op:Operator) (e:PySem.Expr) (F:Frame) (w:W) (k:KS):Prop:=match t with
  | .Attribute o x _=>r.ev fi F o w fun o w=>attr T r x o w fun a w=>onS 115 (asI a) fun p=>r.ev fi F e w fun b w=>onS 114 (asI b) fun q=>onS 116 (isAdd op) fun _=>setattr T x o (mkI (or_ p.1 q.1) (p.2 + q.2)) w fun w=>k .next F w
  | _=>Stop 116
/-- names stored one after another -/
noncomputable def stoN:List Str → List AV → Frame → W → KF → Prop
  | [],[],F,w,k=>k F w
  | x :: xs,a :: as,F,w,k=>onT 98 (isLoc fi x) (stoN xs as (pt F (cd x) a) w k)
  | _,_,_,_,_=>Stop 101
noncomputable def asg1 (xs:List Str) (a:AV) (F:Frame) (w:W) (k:KS):Prop:=onS 165 (asT a) fun as=>onT 164 (Nat.beq xs.length as.length) (stoN fi xs.reverse as.reverse F w fun F w=>k .next F w)
noncomputable def notComp:PySem.Expr → Bool
  | .ListComp _ _ _ _=>false
  | .SetComp _ _ _ _=>false
  | .DictComp _ _ _ _ _=>false
  | _=>true
noncomputable def asg (ts:List PySem.Expr) (e:PySem.Expr) (F:Frame) (w:W) (k:KS):Prop:=onT 166 (notComp e) (r.ev fi F e w fun a w=>onS 166 (swOf fi.fd ts e) fun q=>
  onO q.1 (fun xs=>asg1 fi xs a F w k) (onT 168 (plainAll ts) (stos T r fi ts a F w fun F w=>k .next F w)))
noncomputable def xG (s:Stmt) (F:Frame) (w:W) (k:KS):Prop:=match s with
  | .Expr e _=>onT 167 (notComp e) (r.ev fi F e w fun _ w=>k .next F w)
  | .Assign ts e _=>asg T r fi ts e F w k
  | .AugAssign t op e _=>augS T r fi t op e F w k
  | .If t b o _=>r.tr fi F t w fun c w=>onB c (r.xs fi F b w k) (r.xs fi F o w k)
  | .Return e _=>onO e (fun e=>r.ev fi F e w fun a w=>k (.ret a) F w) (k (.ret .none) F w)
  | .Assert t _ _=>r.tr fi F t w fun c w=>onT 117 c (k .next F w)
  | .Pass _=>k .next F w
  | .Try b (_ :: _) [] [] _=>r.xs fi F b w k
  | .Break _=>k .brk F w
  | .For t it body [] _=>onT 163 (tgt1 t) (forS T r fi t body it F w k)
  | .While t body [] _=>whS r fi t body F w k
  | _=>Stop 110
/-- what is told of a statement -/
noncomputable def told (line:Nat) (w:W) (f:Fl → Frame → W → Prop) (y:Prop):Prop:=match w.o with
  | .stmt l fl F σ nx :: o=>onB (Nat.beq l line) (f fl F ⟨o,σ,nx⟩) y
  | _=>y
noncomputable def xF (s:Stmt) (F:Frame) (w:W) (k:KS):Prop:=told s.pos.line w (fun fl F' w'=>XsOk X n fi.fd F s w.σ w.nx fl F' w'.σ w'.nx∧k fl F' w') (xG T r fi s F w k)
/-- behind a statement -/
noncomputable def thn (fl:Fl) (F:Frame) (w:W) (k:KS) (y:Prop):Prop:=match fl with
  | .next=>y
  | fl=>k fl F w
noncomputable def xsF:List Stmt → Frame → W → KS → Prop
  | [],F,w,k=>k .next F w
  | s :: ss,F,w,k=>xF X T n r fi s F w fun fl F w=>thn fl F w k (xsF ss F w k)
noncomputable def back (fl:Fl) (w:W) (k:KE):Prop:=match fl with
  | .ret a=>k a w
  | .next=>k .none w
  | _=>Stop 118
noncomputable def clG (f:Nat) (as:List AV) (kw:List (Str × AV)) (w:W) (k:KE):Prop:=onS 121 (gt T.fns f) fun nm=>onS 120 (dfltIn T.K (fdAt T.K f).defaults) fun dflt=>onS 120 (stmtsOf (fdAt T.K f).body) fun body=>
  onS 119 (bindG (namesOf (fdAt T.K f).params) as kw dflt) fun b=>r.xs ⟨fdAt T.K f,nm⟩ (frameOf b) body w fun fl _ w=>back fl w k
noncomputable def clF (f:Nat) (as:List AV) (kw:List (Str × AV)) (w:W) (k:KE):Prop:=match w.o with
  | .call g a σ nx :: o=>onT 122 (Nat.beq g f) (ClOk X n f as kw w.σ w.nx a σ nx∧k a ⟨o,σ,nx⟩)
  | _=>clG T r f as kw w k
end
noncomputable def run (X:Cx) (T:Tab):Nat → Rec
  | 0=>⟨fun _ _ _ _ _=>Stop 122,fun _ _ _ _ _=>Stop 123,fun _ _ _ _ _=>Stop 124,fun _ _ _ _ _=>Stop 125⟩
  | n + 1=>⟨fun fi F e w k=>evF T (run X T n) fi F e w k,fun fi F e w k=>trF (run X T n) fi F e w k,fun fi F ss w k=>xsF X T n (run X T n) fi ss F w k,fun f as kw w k=>clF X T n (run X T n) f as kw w k⟩
end Mine
namespace Mine
noncomputable abbrev qE (k:KE):QE:=fun a σ n=>∃ o,k a ⟨o,σ,n⟩
noncomputable abbrev qB (k:KB):QB:=fun a σ n=>∃ o,k a ⟨o,σ,n⟩
noncomputable abbrev qS (k:KS):QS:=fun a F σ n=>∃ o,k a F ⟨o,σ,n⟩
noncomputable abbrev qL (k:KL):List AV → Store → Nat → Prop:=fun a σ n=>∃ o,k a ⟨o,σ,n⟩
noncomputable abbrev qF (k:KF):Frame → Store → Nat → Prop:=fun F σ n=>∃ o,k F ⟨o,σ,n⟩
noncomputable abbrev qU (k:KU):Store → Nat → Prop:=fun σ n=>∃ o,k ⟨o,σ,n⟩
theorem onO_of {α:Type} {o:Option α} {f:α → Prop} {a:α} (h:onO o f True) (e:o = some a):f a:=by subst e; exact h
theorem onB_of {b:Bool} {x:Prop} (h:onB b x True) (e:b = true):x:=by subst e; exact h
/-- a list in the heap -/
noncomputable def LsAt (h:Heap) (J:Frozen) (nx:Nat) (ρ:Nat → Addr) (ad:Addr) (l:List AV):Prop:=∃ vs ep,h.get? ad = some ⟨.type "list",none,.seq vs ep,#[]⟩∧VRs J nx ρ l vs.toList
/-- a tuple for ever -/
noncomputable def TpAt (J:Frozen) (nx:Nat) (ρ:Nat → Addr) (ad:Addr) (l:List AV):Prop:=∃ vs ep,J ad = some ⟨.type "tuple",none,.seq vs ep,#[]⟩∧VRs J nx ρ l vs.toList
/-- what is known of a value,by each view -/
structure Vw (J:Frozen) (nx:Nat) (ρ:Nat → Addr) (a:AV) (v:Value):Prop where
  i:onO (asI a) (fun p=>∃ t,v = .int p.2 t) True
  s:onO (asS a) (fun p=>∃ t,v = .str p.2 t) True
  b:onO (asB a) (fun p=>v = .bool p.2) True
  o:onO (asO a) (fun o=>onO o (fun x=>∃ t,v = .str x t) (v = .none)) True
  n:onB (asN a) (v = .none) True
  j:onO (asJ a) (fun o=>onO o (fun x=>∃ t,v = .int x t) (v = .none)) True
  loc:onO (asLoc a) (fun n=>v = .ref (ρ n)) True
  sr:onO (sRef a) (fun n=>v = .ref n) True
  t:onO (asT a) (fun l=>∃ ad,v = .ref ad∧TpAt J nx ρ ad l) True
  h:onB (hnd a) (handedIn v = true) True
  z:onB (nn a) ((v == Value.none) = asN a) True
  l:onO (asSl a) (fun l=>∃ ad vs ep,v = .ref ad∧J ad = some ⟨.type "list",none,.seq vs ep,#[]⟩∧VRs J nx ρ l vs.toList) True
section
variable {X:Cx} {d:Nat} {F:Frame} {σ:Store} {nx:Nat} {J:Frozen} {ρ:Nat → Addr} {L:Lk} {s:Shared} {a b:AV} {v w':Value} {w:W} {k:KE}
theorem VR.vw (x:VR J nx ρ a v):Vw J nx ρ a v:=by
  cases x with
  | none=>exact ⟨trivial,trivial,trivial,trivial,rfl,trivial,trivial,trivial,trivial,rfl,rfl,trivial⟩
  | bool=>exact ⟨trivial,trivial,rfl,trivial,trivial,trivial,trivial,trivial,trivial,rfl,rfl,trivial⟩
  | int=>exact ⟨⟨_,rfl⟩,trivial,trivial,trivial,trivial,trivial,trivial,trivial,trivial,rfl,rfl,trivial⟩
  | str=>exact ⟨trivial,⟨_,rfl⟩,trivial,trivial,trivial,trivial,trivial,trivial,trivial,rfl,rfl,trivial⟩
  | loc h=>exact ⟨trivial,trivial,trivial,trivial,trivial,trivial,rfl,trivial,trivial,rfl,rfl,trivial⟩
  | stat=>exact ⟨trivial,trivial,trivial,trivial,trivial,trivial,trivial,by cases v <;> first | exact rfl | exact trivial,trivial,trivial,trivial,trivial⟩
  | tup h hs=>exact ⟨trivial,trivial,trivial,trivial,trivial,trivial,trivial,trivial,⟨_,rfl,_,_,h,hs⟩,rfl,rfl,trivial⟩
  | fl h hs=>exact ⟨trivial,trivial,trivial,trivial,trivial,trivial,trivial,trivial,trivial,rfl,rfl,trivial⟩
  | sb=>exact ⟨trivial,trivial,rfl,trivial,trivial,trivial,trivial,trivial,trivial,rfl,rfl,trivial⟩
  | si=>exact ⟨⟨_,rfl⟩,trivial,trivial,trivial,trivial,trivial,trivial,trivial,trivial,rfl,rfl,trivial⟩
  | ss=>exact ⟨trivial,⟨_,rfl⟩,trivial,trivial,trivial,trivial,trivial,trivial,trivial,rfl,rfl,trivial⟩
  | son=>exact ⟨trivial,trivial,trivial,rfl,trivial,trivial,trivial,trivial,trivial,rfl,trivial,trivial⟩
  | sos=>exact ⟨trivial,trivial,trivial,⟨_,rfl⟩,trivial,trivial,trivial,trivial,trivial,rfl,trivial,trivial⟩
  | ion=>exact ⟨trivial,trivial,trivial,trivial,trivial,rfl,trivial,trivial,trivial,rfl,trivial,trivial⟩
  | ios=>exact ⟨trivial,trivial,trivial,trivial,trivial,⟨_,rfl⟩,trivial,trivial,trivial,rfl,trivial,trivial⟩
  | sl h hs=>exact ⟨trivial,trivial,trivial,trivial,trivial,trivial,trivial,trivial,trivial,rfl,rfl,⟨_,_,_,rfl,h,hs⟩⟩
theorem asI_vr {p:Bool × Int} (e:asI a = some p) (x:VR J nx ρ a v):∃ tk,v = .int p.2 tk:=(onO_of x.vw.i e :)
theorem asI_re {p:Bool × Int} {J':Frozen} {nx':Nat} {ρ':Nat → Addr} {t:Tok} (e:asI a = some p) (x:VR J nx ρ a v):VR J' nx' ρ' a (.int p.2 t):=by cases x <;> cases e <;> first | exact .int | exact .si
theorem asS_vr {p:Bool × Str} (e:asS a = some p) (x:VR J nx ρ a v):∃ tk,v = .str p.2 tk:=(onO_of x.vw.s e :)
theorem asB_vr {p:Bool × Bool} (e:asB a = some p) (x:VR J nx ρ a v):v = .bool p.2:=(onO_of x.vw.b e :)
theorem asN_vr (e:asN a = true) (x:VR J nx ρ a v):v = .none:=(onB_of x.vw.n e :)
theorem asT_vr {l:List AV} (e:asT a = some l) (x:VR J nx ρ a v):∃ ad,v = .ref ad∧TpAt J nx ρ ad l:=(onO_of x.vw.t e :)
theorem hnd_vr (e:hnd a = true) (x:VR J nx ρ a v):handedIn v = true:=(onB_of x.vw.h e :)
theorem nn_vr (e:nn a = true) (x:VR J nx ρ a v):(v == Value.none) = asN a:=(onB_of x.vw.z e :)
theorem loc_eq {n:Nat} (e:asLoc a = some n):a = .loc n:=by cases a <;> cases e; rfl
theorem loc_vr {n:Nat} (e:asLoc a = some n) (x:VR J nx ρ a v):v = .ref (ρ n):=(onO_of x.vw.loc e :)
/-- what is known of an object of the store,by each view -/
structure Ow (X:Cx) (h:Heap) (J:Frozen) (nx:Nat) (ρ:Nat → Addr) (n:Nat) (o:Option AObj):Prop where
  l:onO (oL o) (fun p=>(o = some (mkLO p.1 p.2))∧LsAt h J nx ρ (ρ n) p.2) True
  l0:onO (oList o) (fun l=>o = some (.list l)∧LsAt h J nx ρ (ρ n) l) True
  d:onO (oDict o) (fun kv=>o = some (.dict kv)∧∃ vs,h.DictOf (PySem.strKind X.prog X.w) (ρ n) vs∧KVR J nx ρ kv vs) True
  e:onB (isED o) (o = some .edict∧h.DictOf (PySem.strKind X.prog X.w) (ρ n) []∧h.DictOf (PySem.intKind X.prog X.w) (ρ n) []) True
  s:onO (oSet o) (fun l=>o = some (.set l)∧h.SetOf (PySem.strKind X.prog X.w) (ρ n) (fun x=>l.contains x) l.length) True
  i:onO (oInst o) (fun p=>o = some (.inst p.1 p.2)) True
theorem Rel.ow (R:Rel X J ρ L F σ nx s) (n:Nat):Ow X s.heap J nx ρ n (gt σ n):=by
  have go:∀ o:Option AObj,(∀ ob,o = some ob → OR X s.heap J nx ρ (ρ n) ob) → Ow X s.heap J nx ρ n o:=fun o h=>by
    cases o with
    | none=>exact ⟨trivial,trivial,trivial,trivial,trivial,trivial⟩
    | some ob=>cases h ob rfl with
      | inst=>exact ⟨trivial,trivial,trivial,trivial,trivial,rfl⟩
      | list h1 h2=>exact ⟨⟨rfl,_,_,h1,h2⟩,⟨rfl,_,_,h1,h2⟩,trivial,trivial,trivial,trivial⟩
      | slist h1 h2=>exact ⟨⟨rfl,_,_,h1,h2⟩,trivial,trivial,trivial,trivial,trivial⟩
      | dict h1 h2=>exact ⟨trivial,trivial,⟨rfl,_,h1,h2⟩,trivial,trivial,trivial⟩
      | edict h1 h2=>exact ⟨trivial,trivial,trivial,⟨rfl,h1,h2⟩,trivial,trivial⟩
      | set h1=>exact ⟨trivial,trivial,trivial,trivial,⟨rfl,h1⟩,trivial⟩
  exact go _ fun ob e=>(R.st n ob e).2.1
theorem asL_vr {p:Bool × List AV} (R:Rel X J ρ L F σ nx s) (e:asL σ a = some p) (x:VR J nx ρ a v):∃ ad,v = .ref ad∧LsAt s.heap J nx ρ ad p.2:=by
  have w:=x.vw
  unfold asL at e
  cases h:asSl a with
  | some l=>
    rw [h] at e; cases e
    obtain ⟨ad,vs,ep,e1,g,hs⟩:=(onO_of w.l h :)
    exact ⟨ad,e1,vs,ep,R.jx g,hs⟩
  | none=>
    rw [h] at e
    cases h2:asLoc a with
    | some n=>
      rw [h2] at e
      exact ⟨_,(onO_of w.loc h2 :),((onO_of (R.ow n).l e :)).2⟩
    | none=>rw [h2] at e; cases e
theorem asI_v {G:Value → Prop} {p:Bool × Int} (x:VR J nx ρ a v) (e:asI a = some p) (k:∀ t,G (.int p.2 t)):G v:=let ⟨t,q⟩:=asI_vr e x; q ▸ k t
theorem asS_v {G:Value → Prop} {p:Bool × Str} (x:VR J nx ρ a v) (e:asS a = some p) (k:∀ t,G (.str p.2 t)):G v:=let ⟨t,q⟩:=asS_vr e x; q ▸ k t
theorem asL_v {G:Value → Prop} {p:Bool × List AV} (R:Rel X J ρ L F σ nx s) (x:VR J nx ρ a v) (e:asL σ a = some p) (k:∀ ad,LsAt s.heap J nx ρ ad p.2 → G (.ref ad)):G v:=let ⟨ad,q,h⟩:=asL_vr R e x; q ▸ k ad h
theorem asT_v {G:Value → Prop} {l:List AV} (x:VR J nx ρ a v) (e:asT a = some l) (k:∀ ad,TpAt J nx ρ ad l → G (.ref ad)):G v:=let ⟨ad,q,h⟩:=asT_vr e x; q ▸ k ad h
theorem loc_v {G:Value → Prop} {n:Nat} (x:VR J nx ρ a v) (e:asLoc a = some n) (k:G (.ref (ρ n))):G v:=loc_vr e x ▸ k
theorem mkI_vr {t:Bool} {i:Int} {tk:Tok}:VR J nx ρ (mkI t i) (.int i tk):=match t with | true=>.si | false=>.int
theorem mkB_vr {t:Bool} {i:Bool}:VR J nx ρ (mkB t i) (.bool i):=match t with | true=>.sb | false=>.bool
theorem mkLO_or {h:Heap} {t:Bool} {l:List AV} {ad:Addr} {vs:Array Value} {ep:Nat} (h1:h.get? ad = some ⟨.type "list",none,.seq vs ep,#[]⟩) (h2:VRs J nx ρ l vs.toList):OR X h J nx ρ ad (mkLO t l):=match t with | true=>.slist h1 h2 | false=>.list h1 h2
theorem At.q (p:At X d F σ nx) {o:List Hint} {v:Value} {a:AV} (x:p.VR a v) (q:k a ⟨o,σ,nx⟩):p.Ans (qE k) v p.s:=p.now x ⟨o,q⟩
theorem At.qT (p:At X d F σ nx) {o:List Hint} {t:Nat} {v:Value} {a:AV} (x:p.VR a v) (q:k a ⟨o,σ,nx⟩):p.Ans (qE k) v { p.s with toks:=t }:=p.nowT x ⟨o,q⟩
theorem At.qB (p:At X d F σ nx) {o:List Hint} {k:KB} {b:Bool} (q:k b ⟨o,σ,nx⟩):p.AnsB (Mine.qB k) b p.s:=p.nowB ⟨o,q⟩
theorem At.qBT (p:At X d F σ nx) {o:List Hint} {k:KB} {t:Nat} {b:Bool} (q:k b ⟨o,σ,nx⟩):p.AnsB (Mine.qB k) b { p.s with toks:=t }:=⟨p.J,p.ρ,σ,nx,.refl,p.R.toks t,⟨o,q⟩⟩
theorem size_big:(100000:Nat) ≤ sizeLine:=by decide +kernel
theorem szP_ok {t:Bool} {l:List AV} {P k:Prop} (hP:l.length ≤ 100000 → P) (h:szP t l P k):P∧k:=
  onB_e h (fun _ h=>h) fun _ h=>onT_e h fun e h=>⟨hP (Nat.le_of_ble_eq_true e),h⟩
theorem okDiv_ok {j:Int} (h:okDiv j = true):j ≠ 0∧j.natAbs < 1073741824:=by
  unfold okDiv at h
  cases e:Nat.ble 1 j.natAbs with
  | true=>
    rw [e] at h
    have:=Nat.le_of_ble_eq_true e
    have:=Nat.le_of_ble_eq_true h
    omega
  | false=>rw [e] at h; cases h
theorem okPow_ok {i j:Int} (h:okPow i j = true):0 ≤ j∧(Builtin.Int.intBits i:Int) * j ≤ 2 ^ 27:=by
  cases j with
  | ofNat n=>
    have:=Nat.le_of_ble_eq_true h
    refine ⟨Int.natCast_nonneg _,?_⟩
    have e2:((Builtin.Int.intBits i:Nat):Int) * (Int.ofNat n) = ((Builtin.Int.intBits i * n:Nat):Int):=by simp
    rw [e2]
    omega
  | negSucc n=>cases h
theorem bopI_ok {op:Operator} {t u:Bool} {i j:Int} {tk tl:Tok} (h:bopI op t u i j w k) (p:At X d F w.σ w.nx):wpAny p.M p.A (binaryOp op (.int i tk) (.int j tl)) (p.Ans (qE k)) no p.s:=by
  cases op with
  | Add=>exact add_int (p.qT mkI_vr h)
  | Sub=>exact sub_int (p.qT mkI_vr h)
  | Mult=>exact onB_e h (fun _ h=>Stop.no h) fun _ h=>onT_e h fun e h=>mul_int (p.qT mkI_vr h) (IntMulOk.of_left (Nat.le_of_ble_eq_true e))
  | Mod=>exact onB_e h (fun _ h=>mod_int' h.1 (p.qT mkI_vr h.2)) fun _ h=>onT_e h fun e h=>mod_int' (okDiv_ok e).1 (p.qT mkI_vr h)
  | Pow=>exact onB_e h (fun _ h=>Stop.no h) fun _ h=>onT_e h fun e h=>pow_int (okPow_ok e).1 (okPow_ok e).2 (p.qT mkI_vr h)
  | FloorDiv=>exact onB_e h (fun _ h=>floordiv_int h.1.1 (p.qT mkI_vr h.2) (.inl (PyProof.noPylong_small h.1.2))) fun _ h=>onT_e h fun e h=>floordiv_int (okDiv_ok e).1 (p.qT mkI_vr h) (.inl (PyProof.noPylong_small (okDiv_ok e).2))
  | _=>exact Stop.no (n:=5) h
theorem At.new (p:At X d F σ nx) {m:Str → Option Value} (hm:FrOk F p.J nx p.ρ m) {h':Heap} (k:∀ b ob,b ≠ p.L.a → p.s.heap.get? b = some ob → h'.get? b = some ob) (hL:h'.Ns p.L.a m) {o:AObj} {a:Addr} (x:OR X h' p.J (nx + 1) (at_ p.ρ nx a) a o)
    (fr:∀ b ∈ feet h' a,p.s.heap.get? b = none) (t:Nat) {Q:QE} (q:Q (.loc nx) ((nx,o) :: σ) (nx + 1)):p.Ans Q (.ref a) { p.s with heap:=h',toks:=t }:=
  ⟨.loc nx,p.J,_,_,_,at_ext,p.R.newL hm k hL x fr t,.new,q⟩
theorem feet_list {h:Heap} {a:Addr} {c:Value} {dt:Data} {sl:Array (Option Value)} (e:h.get? a = some ⟨c,none,dt,sl⟩):feet h a = [a]:=by rw [feet_of e]; rfl
theorem feet_new {h h0:Heap} {a:Addr} {c:Value} {dt:Data} {sl:Array (Option Value)} (e:h.get? a = some ⟨c,none,dt,sl⟩) (f:h0.get? a = none):∀ b ∈ feet h a,h0.get? b = none:=fun b hb=>by
  rw [feet_list e] at hb; rw [List.mem_singleton.mp hb]; exact f
theorem VRs.grow {J':Frozen} {nx':Nat} {ρ':Nat → Addr} {l:List AV} {vs:List Value} (g:Grow J nx ρ J' nx' ρ') (h:VRs J nx ρ l vs):VRs J' nx' ρ' l vs:=h.mono g
theorem len_ofL {l:List AV} {vs:Array Value} (h:VRs J nx ρ l vs.toList):vs.size = l.length:=h.length.symm
theorem bopL_ok {op:Operator} (eo:PLift (op = .Add)) {P Q:Bool × List AV} {a1 a2:Addr} (p:At X d F w.σ w.nx) (h1:LsAt p.s.heap p.J w.nx p.ρ a1 P.2) (h2:LsAt p.s.heap p.J w.nx p.ρ a2 Q.2) (h:bopL w k P Q):wpAny p.M p.A (binaryOp op (.ref a1) (.ref a2)) (p.Ans (qE k)) no p.s:=by
  obtain rfl:=eo.down
  obtain ⟨vs,e1,g1,r1⟩:=h1
  obtain ⟨ws,e2,g2,r2⟩:=h2
  obtain ⟨hs,h⟩:=szP_ok (fun z=>by rw [List.length_append] at z; rw [sizeLine_eq]; omega) h
  obtain ⟨m0,hns,hm⟩:=p.R.fr
  refine add_arrays (L:=p.L.a) (h₀:=h00) (m:=m0) (news:=allBut p.s.heap [p.L.a]) (its:=vs) (its2:=ws) (fr_of hns) (news_of (.head _)) ⟨_,g1,rfl,_,rfl⟩ ⟨_,g2,rfl,_,rfl⟩ (fun h' F' N'=>?_) (by rw [len_ofL r1,len_ofL r2]; exact hs)
  have hg:=(N' _ (.head _)).1
  exact p.new hm (fun b ob hb e=>(N' _ (.tail _ (mem_allBut.mpr ⟨mt List.mem_singleton.mp hb,e⟩))).1) F'.ns (mkLO_or hg ((r1.app r2).mono at_grow)) (feet_new hg (fresh_none _)) p.s.toks ⟨w.o,h⟩
theorem bop_ok {op:Operator} (h:bop op a b w k):Op2 X d (fun v w=>binaryOp op v w) a b w.σ w.nx (qE k):=fun F p v u hv hu=>by
  refine onO_e h (fun P ea h=>onS_e h fun Q eb h=>?_) fun _ h=>onS_e h fun eo _ h=>onS_e h fun P ea h=>onS_e h fun Q eb hk=>?_
  · apply asI_v hv ea; intro _
    apply asI_v hu eb; intro _
    exact bopI_ok h p
  · apply asL_v p.R hv ea; intro _ h1
    apply asL_v p.R hu eb; intro _ h2
    exact bopL_ok eo p h1 h2 hk
end
end Mine
end
section
open PySem PySem.W PySem.Calls PyProof.Rows PySem.SeqAt
set_option maxRecDepth 100000
set_option linter.unusedVariables false
namespace Mine
section
open AutoSeq1 (wpAny_loadPart')
open MeetsSeq MeetsSeq2 MeetsSeq3
variable {prog:Program} {w:World}
noncomputable def EqM (prog:Program) (w:World) (A:Around) (s:Shared) (y x:Value):Prop:=∀ (E:Value → Shared → Prop) (Q:Bool → Shared → Prop),Q true s → wpAny (model prog w) A (eqBool y x) Q E s
noncomputable def RcE (prog:Program) (w:World) (A:Around) (s:Shared) (y x:Value):Prop:=∀ (E:Value → Shared → Prop) (Q:Value → Shared → Prop),Q (.bool true) s → wpAny (model prog w) A (richCompare .Eq y x) Q E s
noncomputable def RcN (prog:Program) (w:World) (A:Around) (s:Shared) (y x:Value):Prop:=∀ (E:Value → Shared → Prop) (Q:Value → Shared → Prop),Q (.bool false) s → wpAny (model prog w) A (richCompare .NotEq y x) Q E s
/-- items equal -/
noncomputable def EqI (prog:Program) (w:World) (A:Around) (s:Shared) (items items2:Array Value):Prop:=items.size = items2.size∧∀ j (h1:j < items.size) (h2:j < items2.size),EqM prog w A s items[j] items2[j]
theorem EqM.of_refs {A:Around} {s:Shared} {l b:Addr} (h:RcE prog w A s (.ref l) (.ref b)):EqM prog w A s (.ref l) (.ref b):=fun E Q hq=>by
  unfold eqBool
  refine wpAny_holding ?_
  refine wpAny_ite_split (fun hab=>?_) (fun _=>?_)
  · exact wpAny_bind (wpAny_rule (wpAny_pure hq))
  · exact wpAny_bind (h E _ (wpAny_truthy_bool hq))
theorem same_loop (l b:Addr) (items items2:Array Value) (n n2:Nat) (dd dd2:Option Addr) (sl sl2:Array (Option Value)) (k:Nat) :
    ∀ i:Nat,items.size - i = k → MeetsIn prog w (Builtin.«list.__eq__.loop» ⟨[.ref l,.ref b,rawInt i,rawInt 3],[]⟩)
      (fun A R s=>s.heap.get? l = some { cls:=.type "list",dict:=dd,data:=.seq items n,slots:=sl }∧s.heap.get? b = some { cls:=.type "list",dict:=dd2,data:=.seq items2 n2,slots:=sl2 }∧EqI prog w A.in1 s items items2∧R (.ok (.ret (.bool false))) s):=by
  induction k with
  | zero=>
    intro i hk A R s h
    obtain ⟨hp,g,d,tk,os⟩:=s; obtain ⟨hl,hb,⟨hsz,he⟩,h⟩:=h
    wp_walk using wpAny_loadPart' hl,wpAny_loadPart' hb
    rw [show items[((i:Nat):Int).toNat]? = none from Array.getElem?_eq_none (Nat.le_of_sub_eq_zero hk),show items2[((i:Nat):Int).toNat]? = none from Array.getElem?_eq_none (hsz ▸ Nat.le_of_sub_eq_zero hk)]
    wp_walk using wpAny_loadPart' hl,wpAny_loadPart' hb
    show R (.ok (.ret (.bool (items.size != items2.size)))) _
    rw [hsz,bne_self_eq_false]
    exact h
  | succ k ih=>
    intro i hk A R s h
    have next:=ih (i + 1) ((Nat.sub_succ _ _).trans (congrArg Nat.pred hk)) A R s h
    obtain ⟨hp,g,d,tk,os⟩:=s; obtain ⟨hl,hb,⟨hsz,he⟩,h⟩:=h
    have hlt:i < items.size:=Nat.lt_of_sub_eq_succ hk
    have hlt2:i < items2.size:=hsz ▸ hlt
    wp_walk using wpAny_loadPart' hl,wpAny_loadPart' hb
    rw [show items[((i:Nat):Int).toNat]? = some items[i] from Array.getElem?_eq_getElem hlt,show items2[((i:Nat):Int).toNat]? = some items2[i] from Array.getElem?_eq_getElem hlt2]
    refine wpAny_bind (he i hlt hlt2 _ _ ?_)
    wp_walk
    exact ⟨plainId_quiet plain_eq_loop _,codeAny_builtin entry_eq_loop (by
      rw [Around.under_plainId plain_eq_loop _]
      exact next)⟩
theorem same_list_ne (l b:Addr) (items items2:Array Value) (n n2:Nat) (dd dd2:Option Addr) (sl sl2:Array (Option Value)) :
    MeetsIn prog w (Builtin.«list.__ne__» ⟨[.ref l,.ref b],[]⟩)
      (fun A R s=>s.heap.get? l = some { cls:=.type "list",dict:=dd,data:=.seq items n,slots:=sl }∧s.heap.get? b = some { cls:=.type "list",dict:=dd2,data:=.seq items2 n2,slots:=sl2 }∧EqI prog w A.in1 s items items2∧R (.ok (.ret (.bool false))) s):=by
  intro A R s h
  have next:=same_loop l b items items2 n n2 dd dd2 sl sl2 _ 0 rfl A R _ h
  obtain ⟨hp,g,d,tk,os⟩:=s; obtain ⟨hl,hb,⟨hsz,he⟩,h⟩:=h
  have f3:=AutoSeq1.sub_list_list
  have hne:¬ (items.size != items2.size) = true:=by simp [hsz]
  wp_walk using wpAny_loadPart' hl,wpAny_loadPart' hb
  exact ⟨plainId_quiet plain_eq_loop _,codeAny_builtin entry_eq_loop (by
    rw [Around.under_plainId plain_eq_loop _]
    exact next)⟩
theorem zip_turn {items items2:Array Value} {rest:List (Value × Value)} {y x:Value} {i:Nat} (hz:(y,x) :: rest = (items.toList.zip items2.toList).drop i):∃ (h1:i < items.size) (h2:i < items2.size),y = items[i]∧x = items2[i]∧rest = (items.toList.zip items2.toList).drop (i + 1):=by
  have hlt:i < (items.toList.zip items2.toList).length:=by
    rcases Nat.lt_or_ge i (items.toList.zip items2.toList).length with h' | h'
    · exact h'
    · rw [List.drop_of_length_le h'] at hz; cases hz
  have hm:i < min items.size items2.size:=by simpa using hlt
  rw [List.drop_eq_getElem_cons hlt] at hz
  injection hz with hyx hrest
  exact ⟨Nat.lt_of_lt_of_le hm (Nat.min_le_left _ _),Nat.lt_of_lt_of_le hm (Nat.min_le_right _ _),(congrArg Prod.fst hyx).trans (by simp),(congrArg Prod.snd hyx).trans (by simp),hrest⟩
theorem same_tuple_eq (l b:Addr) (items items2:Array Value) (n n2:Nat) (dd dd2:Option Addr) (sl sl2:Array (Option Value)) :
    MeetsIn prog w (Builtin.«tuple.__eq__» ⟨[.ref l,.ref b],[]⟩)
      (fun A R s=>s.heap.get? l = some { cls:=.type "tuple",dict:=dd,data:=.seq items n,slots:=sl }∧s.heap.get? b = some { cls:=.type "tuple",dict:=dd2,data:=.seq items2 n2,slots:=sl2 } ∧
        EqI prog w A.in1 s items items2∧R (.ok (.ret (.bool true))) s):=
  .of_wp fun A R s h=>by
    obtain ⟨hp,g,d,tk,os⟩:=s; obtain ⟨hl,hb,⟨hsz,he⟩,h⟩:=h
    have f2:=AutoSeq1.sub_tuple_tuple
    wp_walk using wpAny_loadPart' hl,wpAny_loadPart' hb,wpAny_forIn_list _ (fun rest b s'=>b.1 = none∧s' = ⟨hp,g,d,tk,os⟩∧∃ i,rest = (items.toList.zip items2.toList).drop i) _
    case turn=>
      rintro ⟨y,x⟩ rest b s' ⟨hb',rfl,i,hz⟩
      obtain ⟨h1,h2,rfl,rfl,hrest⟩:=zip_turn hz
      refine wpAny_bind (he i h1 h2 _ _ ?_)
      wp_walk
      exact ⟨rfl,rfl,i + 1,hrest⟩
    case fin=>
      rintro ⟨b1,b2⟩ s' ⟨rfl,rfl,i,hz⟩
      wp_walk
      exact ⟨_,rfl,by simpa [Builtin.Tuple.tupleCompareSizes,hsz] using h⟩
    case h=>exact ⟨rfl,rfl,0,rfl⟩
theorem same_tuple_ne (l b:Addr) (items items2:Array Value) (n n2:Nat) (dd dd2:Option Addr) (sl sl2:Array (Option Value)) :
    MeetsIn prog w (Builtin.«tuple.__ne__» ⟨[.ref l,.ref b],[]⟩)
      (fun A R s=>s.heap.get? l = some { cls:=.type "tuple",dict:=dd,data:=.seq items n,slots:=sl }∧s.heap.get? b = some { cls:=.type "tuple",dict:=dd2,data:=.seq items2 n2,slots:=sl2 } ∧
        EqI prog w A.in1 s items items2∧R (.ok (.ret (.bool false))) s):=
  .of_wp fun A R s h=>by
    obtain ⟨hp,g,d,tk,os⟩:=s; obtain ⟨hl,hb,⟨hsz,he⟩,h⟩:=h
    have f2:=AutoSeq1.sub_tuple_tuple
    wp_walk using wpAny_loadPart' hl,wpAny_loadPart' hb,wpAny_forIn_list _ (fun rest b s'=>b.1 = none∧s' = ⟨hp,g,d,tk,os⟩∧∃ i,rest = (items.toList.zip items2.toList).drop i) _
    case turn=>
      rintro ⟨y,x⟩ rest b s' ⟨hb',rfl,i,hz⟩
      obtain ⟨h1,h2,rfl,rfl,hrest⟩:=zip_turn hz
      refine wpAny_bind (he i h1 h2 _ _ ?_)
      wp_walk
      exact ⟨rfl,rfl,i + 1,hrest⟩
    case fin=>
      rintro ⟨b1,b2⟩ s' ⟨rfl,rfl,i,hz⟩
      wp_walk
      exact ⟨_,rfl,by simpa [Builtin.Tuple.tupleCompareSizes,hsz] using h⟩
    case h=>exact ⟨rfl,rfl,0,rfl⟩
theorem rcn_lists {A:Around} {s:Shared} {l b:Addr} {items items2:Array Value} (hl:s.heap.IsList l items) (hb:s.heap.IsList b items2) (hu:A.units < cLine) (he:EqI prog w A.in1 s items items2):RcN prog w A s (.ref l) (.ref b):=by
  obtain ⟨⟨_,dd,_,sl⟩,ho,rfl,n,rfl⟩:=hl
  obtain ⟨⟨_,dd2,_,sl2⟩,ho2,rfl,n2,rfl⟩:=hb
  exact fun E Q h=>wpAny_richCompare_same_room (op:=.NotEq) ⟨_,ho,rfl⟩ ⟨_,ho2,rfl⟩ PySem.F.slot_list_ne (call_meetsIn PySem.F.slot_list_ne ⟨_,ho,rfl⟩ PySem.F.entry_list_ne (PySem.F.args_list_ne_2 _ _) (same_list_ne l b items items2 n n2 dd dd2 sl sl2) ⟨ho,ho2,he,(fun x=>nomatch x),h⟩) hu
theorem rcn_tuples {A:Around} {s:Shared} {l b:Addr} {items items2:Array Value} (hl:s.heap.IsTuple l items) (hb:s.heap.IsTuple b items2) (hu:A.units < cLine) (he:EqI prog w A.in1 s items items2):RcN prog w A s (.ref l) (.ref b):=by
  obtain ⟨⟨_,dd,_,sl⟩,ho,rfl,n,rfl⟩:=hl
  obtain ⟨⟨_,dd2,_,sl2⟩,ho2,rfl,n2,rfl⟩:=hb
  exact fun E Q h=>wpAny_richCompare_same_room (op:=.NotEq) ⟨_,ho,rfl⟩ ⟨_,ho2,rfl⟩ PySem.F.slot_tuple_ne (call_meetsIn PySem.F.slot_tuple_ne ⟨_,ho,rfl⟩ PySem.F.entry_tuple_ne (PySem.F.args_tuple_ne_2 _ _) (same_tuple_ne l b items items2 n n2 dd dd2 sl sl2) ⟨ho,ho2,he,(fun x=>nomatch x),h⟩) hu
theorem rce_tuples {A:Around} {s:Shared} {l b:Addr} {items items2:Array Value} (hl:s.heap.IsTuple l items) (hb:s.heap.IsTuple b items2) (hu:A.units < cLine) (he:EqI prog w A.in1 s items items2):RcE prog w A s (.ref l) (.ref b):=by
  obtain ⟨⟨_,dd,_,sl⟩,ho,rfl,n,rfl⟩:=hl
  obtain ⟨⟨_,dd2,_,sl2⟩,ho2,rfl,n2,rfl⟩:=hb
  exact fun E Q h=>wpAny_richCompare_same_room (op:=.Eq) ⟨_,ho,rfl⟩ ⟨_,ho2,rfl⟩ PySem.F.slot_tuple_eq (call_meetsIn PySem.F.slot_tuple_eq ⟨_,ho,rfl⟩ PySem.F.entry_tuple_eq (PySem.F.args_tuple_eq_2 _ _) (same_tuple_eq l b items items2 n n2 dd dd2 sl sl2) ⟨ho,ho2,he,(fun x=>nomatch x),h⟩) hu
end
end Mine
namespace Mine
/-- equal,and not unequal -/
structure Eq2 (A:Around) (s:Shared) (v u:Value):Prop where
  e:EqAt A s v u true
  n:RcNeAt A s v u false
section
variable {A:Around} {s:Shared}
theorem nbeq {α:Type} [BEq α] [LawfulBEq α] (a:α):(!(a == a)) = false:=by rw [beq_self_eq_true]; rfl
theorem Eq2.int {i:Int} {t t':Tok}:Eq2 A s (.int i t) (.int i t'):=⟨beq_self_eq_true i ▸ EqAt.int_int i t i t',nbeq i ▸ RcNeAt.int_int i t i t'⟩
theorem Eq2.str {i:Str} {t t':Tok}:Eq2 A s (.str i t) (.str i t'):=⟨beq_self_eq_true i ▸ EqAt.str_str i t i t',nbeq i ▸ RcNeAt.str_str i t i t'⟩
theorem Eq2.bool {b:Bool}:Eq2 A s (.bool b) (.bool b):=⟨EqAt.same _,nbeq b ▸ RcNeAt.bool_bool b b⟩
theorem Eq2.none:Eq2 A s .none .none:=⟨EqAt.same _,RcNeAt.none_none⟩
theorem allT {n:Nat}:(List.range n).all (fun _=>true) = true:=List.all_eq_true.mpr fun _ _=>rfl
theorem allF {n:Nat}:(!(List.range n).all (fun _=>true)) = false:=congrArg not allT
theorem Eq2.list {l b:Addr} {items items2:Array Value} (hl:s.heap.IsList l items) (hb:s.heap.IsList b items2) (hsz:items.size = items2.size) (hu:A.units < cLine)
    (he:∀ j (h1:j < items.size) (h2:j < items2.size),EqAt A.in1 s items[j] items2[j] true):Eq2 A s (.ref l) (.ref b):=
  ⟨if q:l = b then q ▸ EqAt.same _ else EqAt.of_refs q (allT ▸ RcAt.lists (e:=fun _=>true) hl hb hsz hu he),allF ▸ RcNeAt.lists (e:=fun _=>true) hl hb hsz hu he⟩
theorem eq_tup {l b:Addr} {items items2:Array Value} (hl:s.heap.IsTuple l items) (hb:s.heap.IsTuple b items2) (hsz:items.size = items2.size) (hu:A.units < cLine)
    (he:∀ j (h1:j < items.size) (h2:j < items2.size),EqAt A.in1 s items[j] items2[j] true):EqAt A s (.ref l) (.ref b) true:=
  if q:l = b then q ▸ EqAt.same _ else EqAt.of_refs q (by
    have:=RcAt.tuples (e:=fun _=>true) hl hb hu he
    rwa [allT,hsz,beq_self_eq_true] at this)
end
section
variable {X:Cx} {K:Frag} {d:Nat} {F:Frame} {σ:Store} {nx:Nat} {a b:AV} {v u:Value} {J:Frozen} {ρ:Nat → Addr} {L:Lk} {s:Shared}
theorem VRs.at {l:List AV} {vs:List Value} (h:VRs J nx ρ l vs):∀ {j:Nat} (hj:j < vs.length),∃ a,l[j]? = some a∧VR J nx ρ a vs[j]:=by
  induction l generalizing vs with
  | nil=>cases h; exact fun hj=>absurd hj (Nat.not_lt_zero _)
  | cons a l ih=>cases h with
    | cons h hs=>
      intro j hj
      cases j with
      | zero=>exact ⟨a,rfl,h⟩
      | succ j=>exact ih hs (Nat.lt_of_succ_lt_succ hj)
/-- items in pairs -/
theorem VRs.pair {l m:List AV} {vs us:Array Value} {P:AV → AV → Prop} {Z:Value → Value → Prop} (h1:VRs J nx ρ l vs.toList) (h2:VRs J nx ρ m us.toList) (hl:l.length = m.length) (hp:∀ (i:Nat) (a b:AV),l[i]? = some a → m[i]? = some b → P a b)
    (hz:∀ {a b v u},P a b → VR J nx ρ a v → VR J nx ρ b u → Z v u):vs.size = us.size∧∀ j (q1:j < vs.size) (q2:j < us.size),Z vs[j] us[j]:=⟨(len_ofL h1).trans (hl.trans (len_ofL h2).symm),fun j q1 q2=>
  let ⟨a,e1,x1⟩:=h1.at q1
  let ⟨b,e2,x2⟩:=h2.at q2
  hz (hp j a b e1 e2) x1 x2⟩
theorem Rel.js (R:Rel X J ρ L F σ nx s):Js J s:=fun a o h hc=>R.jx h hc
theorem Js.at (h:Js J s) {a:Addr} {x:String} {vs:Array Value} {ep:Nat} (e:J a = some ⟨.type x,none,.seq vs ep,#[]⟩) (hc:Value.type x ≠ fcls):s.heap.get? a = some ⟨.type x,none,.seq vs ep,#[]⟩:=h _ _ e hc
theorem ne_tup:Value.type "tuple" ≠ fcls:=fun z=>absurd (Value.type.inj z) (by decide)
theorem ne_list:Value.type "list" ≠ fcls:=fun z=>absurd (Value.type.inj z) (by decide)
/-! what is equal to itself -/
noncomputable def SelfN (n:Nat) (a:AV):Prop:=∀ {J:Frozen} {nx:Nat} {ρ:Nat → Addr} {s:Shared},Js J s → ∀ {A:Around} {v u:Value},VR J nx ρ a v → VR J nx ρ a u → A.units + n < cLine → EqAt A s v u true
theorem self_i {n:Nat} {p:Bool × Int} (e:asI a = some p):SelfN n a:=fun {J nx ρ s} hj {A v u} h1 h2 _=>by
  obtain ⟨_,rfl⟩:=asI_vr e h1
  obtain ⟨_,rfl⟩:=asI_vr e h2
  exact Eq2.int.e
theorem self_get {n:Nat} {l:List AV} (h:∀ x,x ∈ l → SelfN n x):∀ (i:Nat) (a b:AV),l[i]? = some a → l[i]? = some b → a = b∧SelfN n a:=fun i a b e1 e2=>⟨Option.some.inj (e1.symm.trans e2),h a (List.mem_of_getElem? e1)⟩
theorem self_tup {n:Nat} {l:List AV} (h:∀ x,x ∈ l → SelfN n x):SelfN (n + 1) (.tup l):=fun {J nx ρ s} hj {A v u} h1 h2 hu=>by
  obtain ⟨_,rfl,vs,ep,g1,r1⟩:=asT_vr rfl h1
  obtain ⟨_,rfl,us,ep',g2,r2⟩:=asT_vr rfl h2
  obtain ⟨q1,q2⟩:=VRs.pair (Z:=fun v u=>EqAt A.in1 s v u true) r1 r2 rfl (self_get h) fun {a b v u} h x1 x2=>h.2 hj x1 (h.1 ▸ x2) (by show A.units + 1 + n < cLine; omega)
  exact eq_tup ⟨_,hj.at g1 ne_tup,rfl,_,rfl⟩ ⟨_,hj.at g2 ne_tup,rfl,_,rfl⟩ q1 (by omega) q2
theorem self_fl {n:Nat} {l:List AV} (h:∀ x,x ∈ l → SelfN n x):SelfN (n + 1) (.fl l):=fun {J nx ρ s} hj {A v u} h1 h2 hu=>by
  cases h1 with
  | fl g1 r1=>cases h2 with
    | fl g2 r2=>
      obtain ⟨q1,q2⟩:=VRs.pair (Z:=fun v u=>EqAt A.in1 s v u true) r1 r2 rfl (self_get h) fun {a b v u} h x1 x2=>h.2 hj x1 (h.1 ▸ x2) (by show A.units + 1 + n < cLine; omega)
      exact (Eq2.list ⟨_,hj.at g1 ne_list,rfl,_,rfl⟩ ⟨_,hj.at g2 ne_list,rfl,_,rfl⟩ q1 (by omega) q2).e
/-! what the machine was told -/
/-- two abstract values of one datum -/
noncomputable def SameD (X:Cx) (σ:Store) (a b:AV):Prop:=∀ {J:Frozen} {ρ:Nat → Addr} {L:Lk} {F:Frame} {nx:Nat} {s:Shared},Rel X J ρ L F σ nx s → ∀ {A:Around} {v u:Value},VR J nx ρ a v → VR J nx ρ b u → A.units + 10 < cLine → Eq2 A s v u
theorem eqT_ok {z c:Bool} {P k G:Prop} (hc:c = true → P) (h:eqT z c P k) (g:P → k → G):G:=onB_e h (fun _ h=>g h.1 h.2) fun _ h=>onT_e h fun e h=>g (hc e) h
theorem sameI {p q:Bool × Int} (ea:asI a = some p) (eb:asI b = some q) (e:p.2 = q.2):SameD X σ a b:=fun {J ρ L F nx s} R {A v u} h1 h2 _=>by
  obtain ⟨_,rfl⟩:=asI_vr ea h1
  obtain ⟨_,rfl⟩:=asI_vr eb h2
  rw [e]; exact .int
theorem sameS {p q:Bool × Str} (ea:asS a = some p) (eb:asS b = some q) (e:p.2 = q.2):SameD X σ a b:=fun {J ρ L F nx s} R {A v u} h1 h2 _=>by
  obtain ⟨_,rfl⟩:=asS_vr ea h1
  obtain ⟨_,rfl⟩:=asS_vr eb h2
  rw [e]; exact .str
theorem sameB {p q:Bool × Bool} (ea:asB a = some p) (eb:asB b = some q) (e:p.2 = q.2):SameD X σ a b:=fun {J ρ L F nx s} R {A v u} h1 h2 _=>by
  obtain rfl:=asB_vr ea h1
  obtain rfl:=asB_vr eb h2
  rw [e]; exact .bool
theorem sameN (ea:asN a = true) (eb:asN b = true):SameD X σ a b:=fun {J ρ L F nx s} R {A v u} h1 h2 _=>by
  rw [asN_vr ea h1,asN_vr eb h2]; exact .none
theorem sameO {o:Option Str} (ea:asO a = some o) (eb:asO b = some o):SameD X σ a b:=fun {J ρ L F nx s} R {A v u} h1 h2 _=>by
  have q1:=(onO_of h1.vw.o ea :)
  have q2:=(onO_of h2.vw.o eb :)
  cases o with
  | none=>rw [show v = .none from q1,show u = .none from q2]; exact .none
  | some x=>
    obtain ⟨_,rfl⟩:=(q1:∃ t,v = .str x t)
    obtain ⟨_,rfl⟩:=(q2:∃ t,u = .str x t)
    exact .str
theorem sameL {p q:Bool × List AV} (ea:asL σ a = some p) (eb:asL σ b = some q) (e:p.2 = q.2) (hf:∀ x,x ∈ p.2 → FlatOk x):SameD X σ a b:=fun {J ρ L F nx s} R {A v u} h1 h2 hu=>by
  obtain ⟨_,rfl,vs,ep,g1,r1⟩:=asL_vr R ea h1
  obtain ⟨_,rfl,us,ep',g2,r2⟩:=asL_vr R eb h2
  rw [← e] at r2
  obtain ⟨q1,q2⟩:=VRs.pair (Z:=fun v u=>EqAt A.in1 s v u true) r1 r2 rfl (self_get (n:=8) hf) fun {a b v u} h x1 x2=>h.2 R.js x1 (h.1 ▸ x2) (by show A.units + 1 + 8 < cLine; omega)
  exact .list ⟨_,g1,rfl,_,rfl⟩ ⟨_,g2,rfl,_,rfl⟩ q1 (by omega) q2
theorem eqF_ok {k:Prop} (h:eqF σ a b k):k∧SameD X σ a b:=by
  refine onO_e h (fun p ea h=>onS_e h fun q eb h=>eqT_ok of_decide_eq_true h fun e h=>⟨h,sameI ea eb e⟩) fun _ h=>?_
  refine onO_e h (fun p ea h=>onS_e h fun q eb h=>eqT_ok of_decide_eq_true h fun e h=>⟨h,sameS ea eb e⟩) fun _ h=>?_
  refine onO_e h (fun p ea h=>onS_e h fun q eb h=>eqT_ok (fun z=>beq_iff_eq.mp z) h fun e h=>⟨h,sameB ea eb e⟩) fun _ h=>?_
  refine onO_e h (fun p ea h=>onS_e h fun q eb h=>⟨h.2,sameO ea (h.1 ▸ eb)⟩) fun _ h=>?_
  exact onB_e h (fun ea h=>onT_e h fun eb h=>⟨h,sameN ea eb⟩) fun _ h=>onS_e h fun p ea h=>onS_e h fun q eb h=>⟨h.2,sameL ea eb h.1.1 h.1.2⟩
/-- items of what is compared -/
noncomputable def SameE (X:Cx) (n:Nat) (σ:Store) (a b:AV):Prop:=∀ {J:Frozen} {ρ:Nat → Addr} {L:Lk} {F:Frame} {nx:Nat} {s:Shared},Rel X J ρ L F σ nx s → ∀ {A:Around} {v u:Value},VR J nx ρ a v → VR J nx ρ b u → A.units + (12 + n) < cLine → EqM X.prog X.w A s v u
theorem SameD.e {n:Nat} (h:SameD X σ a b):SameE X n σ a b:=fun {J ρ L F nx s} R {A v u} h1 h2 hu E Q q=>(h R h1 h2 (by omega)).e _ _ E Q q
theorem eqFs_ok {n:Nat} {f:AV → AV → Prop → Prop} (hf:∀ a b k,f a b k → k∧SameE X n σ a b):∀ (l m:List AV) {k:Prop},eqFs f l m k → k∧l.length = m.length∧∀ (i:Nat) (a b:AV),l[i]? = some a → m[i]? = some b → SameE X n σ a b
  | [],[],k,h=>⟨h,rfl,fun i a b e=>nomatch e⟩
  | a :: l,b :: m,k,h=>
    let ⟨h1,h2⟩:=hf a b _ h
    let ⟨h3,h4,h5⟩:=eqFs_ok hf l m h1
    ⟨h3,congrArg Nat.succ h4,fun i x y e1 e2=>match i,e1,e2 with
      | 0,e1,e2=>Option.some.inj e1 ▸ Option.some.inj e2 ▸ h2
      | i + 1,e1,e2=>h5 i x y e1 e2⟩
  | [],_ :: _,k,h=>Stop.no (n:=178) h
  | _ :: _,[],k,h=>Stop.no (n:=178) h
theorem TpAt.is (R:Rel X J ρ L F σ nx s) {ad:Addr} {l:List AV} (h:TpAt J nx ρ ad l):∃ vs,s.heap.IsTuple ad vs∧VRs J nx ρ l vs.toList:=let ⟨vs,ep,e,r⟩:=h; ⟨vs,⟨_,R.js.at e ne_tup,rfl,ep,rfl⟩,r⟩
theorem LsAt.is {h:Heap} {ad:Addr} {l:List AV} (x:LsAt h J nx ρ ad l):∃ vs,h.IsList ad vs∧VRs J nx ρ l vs.toList:=let ⟨vs,ep,e,r⟩:=x; ⟨vs,⟨_,e,rfl,ep,rfl⟩,r⟩
theorem items_eq {n:Nat} {l m:List AV} {vs us:Array Value} {A:Around} (R:Rel X J ρ L F σ nx s) (h:l.length = m.length∧∀ (i:Nat) (a b:AV),l[i]? = some a → m[i]? = some b → SameE X n σ a b) (r1:VRs J nx ρ l vs.toList) (r2:VRs J nx ρ m us.toList) (hu:A.units + (12 + (n + 1)) < cLine):EqI X.prog X.w A.in1 s vs us:=
  VRs.pair r1 r2 h.1 h.2 fun {a b v u} h x1 x2=>h R x1 x2 (by show A.units + 1 + (12 + n) < cLine; omega)
/-- pairs found in a dict -/
theorem hits_of {A:Around} {kv':List (Str × AV)} {vs':List (Str × Value)} (R:Rel X J ρ L F σ nx s) (r':KVR J nx ρ kv' vs') (lk:∀ x c,cd x ≠ 0 → lkS kv' (cd x) = some c → ∃ y,valueAt vs' x = some y∧VR J nx ρ c y) (hu:A.units + 10 < cLine):∀ {kv:List (Str × AV)} {vs:List (Str × Value)} {k:Prop},KVR J nx ρ kv vs → eqKV (eqF σ) kv' kv k → KeqHits A s vs' vs true
  | _,_,k,.nil,h=>.nil
  | _,_,k,.cons (k:=x) h1 hs,h=>onB_e h (fun _ h=>Stop.no h) fun hx h=>onS_e h fun c e1 h=>by
    obtain ⟨h2,h3⟩:=eqF_ok h
    obtain ⟨y,e4,e5⟩:=lk x c (fun z=>by rw [z] at hx; cases hx) e1
    exact .hit (e:=true) (b:=true) e4 (h3 R h1 e5 hu).e (hits_of R r' lk hu hs h2)
theorem eqKV_k (X:Cx) {kv':List (Str × AV)}:∀ {kv:List (Str × AV)} {k:Prop},eqKV (eqF σ) kv' kv k → k
  | [],k,h=>h
  | p :: r,k,h=>onB_e h (fun _ h=>Stop.no h) fun _ h=>onS_e h fun c e1 h=>eqKV_k X (eqF_ok (X:=X) h).1
end
end Mine
namespace Mine
section
variable {X:Cx} {K:Frag} {d:Nat} {F:Frame} {σ:Store} {nx n:Nat} {a b:AV} {v u:Value} {J:Frozen} {ρ:Nat → Addr} {L:Lk} {s:Shared} {A:Around} {o:AObj} {w:W} {k:KE} {x y:Str}
theorem is_str (x:Str) (t:Tok):(strKind X.prog X.w).is x (.str x t) = true:=by show Value.isStrOf x (.str x t) = true; simp [Value.isStrOf]
theorem cd_ne (h:cd x ≠ cd y):x ≠ y:=fun e=>h (by rw [e])
theorem nz (h:Nat.beq (cd x) 0 = false):cd x ≠ 0:=fun e=>by rw [e] at h; cases h
theorem KVR.len {κ:Type}:∀ {l:List (κ × AV)} {vs:List (κ × Value)},KVR J nx ρ l vs → vs.length = l.length
  | _,_,.nil=>rfl
  | _,_,.cons _ hs=>congrArg Nat.succ hs.len
theorem val_cons {v:Value} {vs:List (Str × Value)}:valueAt ((y,v) :: vs) x = if y = x then some v else valueAt vs x:=by
  unfold valueAt
  rw [List.find?_cons]
  by_cases q:y = x
  · rw [if_pos q,decide_eq_true q]; rfl
  · rw [if_neg q,decide_eq_false q]
theorem lkS_val (hx:cd x ≠ 0) {kv:List (Str × AV)} {vs:List (Str × Value)} (h:KVR J nx ρ kv vs):onO (lkS kv (cd x)) (fun a=>∃ v,valueAt vs x = some v∧VR J nx ρ a v) (valueAt vs x = none):=by
  induction h with
  | nil=>exact rfl
  | @cons y a v l vs h hs ih=>
    show onO (cond (Nat.beq (cd y) (cd x)) (some a) (lkS l (cd x))) _ _
    rw [val_cons,beq_dec]
    by_cases q:cd y = cd x
    · rw [decide_eq_true q,if_pos (cd_inj q (q ▸ hx))]
      exact ⟨v,rfl,h⟩
    · rw [decide_eq_false q,if_neg (cd_ne q)]
      exact ih
theorem lkS_some (hx:cd x ≠ 0) {kv:List (Str × AV)} {vs:List (Str × Value)} (h:KVR J nx ρ kv vs) (e:lkS kv (cd x) = some a):∃ v,valueAt vs x = some v∧VR J nx ρ a v:=by
  have:=lkS_val hx h
  rw [e] at this
  exact this
theorem not_sysR (ok:X.Ok K) (R:Rel X J ρ L F σ nx s) (e:gt σ n = some o):(ρ n == sysModules) = false:=by
  obtain ⟨ob,hs⟩:=ok.sysm
  have hr:=((R.st _ _ e).2.2 (ρ n) (by unfold feet; exact .head _)).1
  exact beq_eq_false_iff_ne.mpr fun z=>by rw [z,R.hj _ _ hs] at hr; cases hr
theorem not_sys (ok:X.Ok K) (p:At X d F σ nx) (e:gt σ n = some o):(p.ρ n == sysModules) = false:=not_sysR ok p.R e
theorem sameTup {n:Nat} {l m:List AV} (ea:asT a = some l) (eb:asT b = some m) (h:l.length = m.length∧∀ (i:Nat) (a b:AV),l[i]? = some a → m[i]? = some b → SameE X n σ a b):SameE X (n + 1) σ a b:=fun {J ρ L F nx s} R {A v u} h1 h2 hu=>by
  obtain ⟨_,rfl,g1⟩:=asT_vr ea h1
  obtain ⟨_,rfl,g2⟩:=asT_vr eb h2
  obtain ⟨vs,i1,r1⟩:=g1.is R
  obtain ⟨us,i2,r2⟩:=g2.is R
  exact EqM.of_refs (rce_tuples i1 i2 (by omega) (items_eq R h r1 r2 hu))
theorem sameDict (ok:X.Ok K) {n i j:Nat} {kv kv':List (Str × AV)} {k:Prop} (ea:asLoc a = some i) (eb:asLoc b = some j) (ed:oDict (gt σ i) = some kv) (ed':oDict (gt σ j) = some kv') (hl:Nat.beq kv.length kv'.length = true) (h:eqKV (eqF σ) kv' kv k):SameE X n σ a b:=fun {J ρ L F nx s} R {A v u} h1 h2 hu=>by
  obtain rfl:=loc_vr ea h1
  obtain rfl:=loc_vr eb h2
  obtain ⟨e1,vs,d1,r1⟩:=(onO_of (R.ow i).d ed :)
  obtain ⟨e2,us,d2,r2⟩:=(onO_of (R.ow j).d ed' :)
  have l1:=r1.len
  have l2:=r2.len
  have l3:=Nat.eq_of_beq_eq_true hl
  have hits:KeqHits A.in1 s us vs true:=hits_of R r2 (fun x c hx e=>lkS_some hx r2 e) (by show A.units + 1 + 10 < cLine; omega) r1 h
  exact EqM.of_refs fun E Q h=>keq_eq (not_sysR ok R e1) (not_sysR ok R e2) d1 d2 (by omega) (fun _=>hits) (by rw [show (vs.length == us.length) = true from beq_iff_eq.mpr (by omega)]; exact h)
theorem eqP_ok (ok:X.Ok K):∀ (n:Nat) (a b:AV) (k:Prop),eqP σ n a b k → k∧SameE X n σ a b
  | 0,a,b,k,h=>Stop.no (n:=183) h
  | n + 1,a,b,k,h=>
    have flat:eqF σ a b k → k∧SameE X (n + 1) σ a b:=fun h=>⟨(eqF_ok (X:=X) h).1,SameD.e (eqF_ok h).2⟩
    onO_e h (fun l ea h=>onS_e h fun m eb h=>let z:=eqFs_ok (eqP_ok ok n) l m h; ⟨z.1,sameTup ea eb z.2⟩) fun _ h=>
    onO_e h (fun i ei h=>onO_e h (fun kv ek h=>onS_e h fun j ej h=>onS_e h fun kv' ek' h=>onT_e h fun el h=>⟨eqKV_k X h,sameDict ok ei ej ek ek' el h⟩) fun _ h=>flat h) fun _ h=>flat h
/-- what is compared by `!=` -/
noncomputable def SameT (X:Cx) (σ:Store) (a b:AV):Prop:=∀ {J:Frozen} {ρ:Nat → Addr} {L:Lk} {F:Frame} {nx:Nat} {s:Shared},Rel X J ρ L F σ nx s → ∀ {A:Around} {v u:Value},VR J nx ρ a v → VR J nx ρ b u → A.units + (12 + (9 + 1)) < cLine → RcN X.prog X.w A s v u
theorem eqT0_ok (ok:X.Ok K) {k:Prop} (h:eqT0 σ a b k):k∧SameT X σ a b:=by
  have flat:eqF σ a b k → k∧SameT X σ a b:=fun h=>⟨(eqF_ok (X:=X) h).1,fun {J ρ L F nx s} R {A v u} h1 h2 hu E Q q=>((eqF_ok h).2 R h1 h2 (by omega)).n _ _ E Q q⟩
  refine onO_e h (fun l ea h=>onS_e h fun m eb h=>?_) fun _ h=>onO_e h (fun i ei h=>onO_e h (fun l ea h=>onO_e h (fun j ej h=>onO_e h (fun m eb h=>?_) fun _ h=>flat h) fun _ h=>flat h) fun _ h=>flat h) fun _ h=>flat h
  · refine ⟨(eqFs_ok (eqP_ok ok 9) l m h).1,fun {J ρ L F nx s} R {A v u} h1 h2 hu=>?_⟩
    obtain ⟨_,rfl,g1⟩:=asT_vr ea h1
    obtain ⟨_,rfl,g2⟩:=asT_vr eb h2
    obtain ⟨vs,i1,r1⟩:=g1.is R
    obtain ⟨us,i2,r2⟩:=g2.is R
    exact rcn_tuples i1 i2 (by omega) (items_eq R (eqFs_ok (eqP_ok ok 9) l m h).2 r1 r2 hu)
  · refine ⟨(eqFs_ok (eqP_ok ok 9) l m h).1,fun {J ρ L F nx s} R {A v u} h1 h2 hu=>?_⟩
    obtain rfl:=loc_vr ei h1
    obtain rfl:=loc_vr ej h2
    obtain ⟨vs,i1,r1⟩:=(onO_of (R.ow i).l0 ea :).2.is
    obtain ⟨us,i2,r2⟩:=(onO_of (R.ow j).l0 eb :).2.is
    exact rcn_lists i1 i2 (by omega) (items_eq R (eqFs_ok (eqP_ok ok 9) l m h).2 r1 r2 hu)
/-! equality by kind -/
structure Bq (A:Around) (s:Shared) (v u:Value) (c:Bool):Prop where
  e:RcAt A s v u c
  n:RcNeAt A s v u (!c)
theorem bd {α:Type} [DecidableEq α] [BEq α] [LawfulBEq α] (a b:α):(a == b) = decide (a = b):=by by_cases h:a = b <;> simp [h]
theorem Bq.int {i j:Int} {t t':Tok}:Bq A s (.int i t) (.int j t') (decide (i = j)):=bd i j ▸ ⟨RcAt.int_int _ _ _ _,RcNeAt.int_int _ _ _ _⟩
theorem Bq.str {i j:Str} {t t':Tok}:Bq A s (.str i t) (.str j t') (decide (i = j)):=bd i j ▸ ⟨RcAt.str_str _ _ _ _,RcNeAt.str_str _ _ _ _⟩
noncomputable abbrev OV (o:Option Str) (v:Value):Prop:=onO o (fun x=>∃ t,v = .str x t) (v = .none)
theorem some_dec:decide (some x = some y) = decide (x = y):=decide_eq_decide.mpr ⟨Option.some.inj,congrArg some⟩
theorem Bq.os {o:Option Str} {t:Tok} (h:OV o v):Bq A s v (.str x t) (decide (o = some x)):=by
  cases o with
  | none=>rw [show v = .none from h]; exact ⟨RcAt.none_str _ _,RcNeAt.none_str _ _⟩
  | some y=>obtain ⟨_,rfl⟩:=(h:∃ t,v = .str y t); exact some_dec ▸ .str
theorem Bq.so {o:Option Str} {t:Tok} (h:OV o v):Bq A s (.str x t) v (decide (o = some x)):=by
  cases o with
  | none=>rw [show v = .none from h]; exact ⟨RcAt.str_none _ _,RcNeAt.str_none _ _⟩
  | some y=>obtain ⟨_,rfl⟩:=(h:∃ t,v = .str y t); exact (some_dec.trans (decide_eq_decide.mpr ⟨Eq.symm,Eq.symm⟩):decide (some y = some x) = decide (x = y)) ▸ .str
theorem Bq.ij {j:Option Int} {i:Int} {t:Tok} (h:onO j (fun x=>∃ t,v = .int x t) (v = .none)):Bq A s (.int i t) v (decide (j = some i)):=by
  cases j with
  | none=>rw [show v = .none from h]; exact ⟨RcAt.int_none _ _,RcNeAt.int_none _ _⟩
  | some y=>obtain ⟨_,rfl⟩:=(h:∃ t,v = .int y t); exact (decide_eq_decide.mpr ⟨fun z=>congrArg some z.symm,fun z=>(Option.some.inj z).symm⟩:decide (i = y) = decide (some y = some i)) ▸ .int
theorem Bq.oo {o p:Option Str} (h:OV o v) (h':OV p u):Bq A s v u (decide (o = p)):=by
  cases p with
  | some y=>obtain ⟨_,rfl⟩:=(h':∃ t,u = .str y t); exact Bq.os h
  | none=>
    rw [show u = .none from h']
    cases o with
    | none=>rw [show v = .none from h]; exact ⟨RcAt.none_none,RcNeAt.none_none⟩
    | some y=>obtain ⟨_,rfl⟩:=(h:∃ t,v = .str y t); exact ⟨RcAt.str_none _ _,RcNeAt.str_none _ _⟩
theorem eqB_e {kk:Bool → Bool → W → Prop} {y G:Prop} (h:eqB a b w kk y) (hv:VR J nx ρ a v) (hu:VR J nx ρ b u) (g:∀ t c,Bq A s v u c → kk t c w → G) (g2:y → G):G:=by
  refine onO_e h (fun p ea h=>onO_e h (fun q eb h=>?_) fun _ h=>onS_e h fun o eb h=>?_) fun _ h=>onO_e h (fun p ea h=>onO_e h (fun q eb h=>?_) fun _ h=>onS_e h fun o eb h=>?_) fun _ h=>onO_e h (fun p ea h=>onS_e h fun q eb h=>?_) fun _ h=>
    onO_e h (fun o ea h=>onO_e h (fun q eb h=>?_) fun _ h=>onS_e h fun p eb h=>?_) fun _ h=>onB_e h (fun ea h=>onT_e h fun eb h=>?_) fun _ h=>g2 h
  · obtain ⟨_,rfl⟩:=asI_vr ea hv
    obtain ⟨_,rfl⟩:=asI_vr eb hu
    exact g _ _ .int h
  · obtain ⟨_,rfl⟩:=asI_vr ea hv
    exact g _ _ (.ij (onO_of hu.vw.j eb :)) h
  · obtain ⟨_,rfl⟩:=asS_vr ea hv
    obtain ⟨_,rfl⟩:=asS_vr eb hu
    exact g _ _ .str h
  · obtain ⟨_,rfl⟩:=asS_vr ea hv
    exact g _ _ (.so (onO_of hu.vw.o eb :)) h
  · obtain rfl:=asB_vr ea hv
    obtain rfl:=asB_vr eb hu
    exact g _ _ ⟨RcAt.bool_bool _ _,RcNeAt.bool_bool _ _⟩ h
  · obtain ⟨_,rfl⟩:=asS_vr eb hu
    exact g _ _ (.os (onO_of hv.vw.o ea :)) h
  · exact g _ _ (.oo (onO_of hv.vw.o ea :) (onO_of hu.vw.o eb :)) h
  · obtain rfl:=asN_vr ea hv
    obtain rfl:=asN_vr eb hu
    exact g _ _ ⟨RcAt.none_none,RcNeAt.none_none⟩ h
theorem eq_ok {z:Nat} (h:eqB a b w (fun t c w=>k (mkB t c) w) (Stop z)):Op2 X d (fun v w=>compareOp .Eq v w) a b w.σ w.nx (qE k):=fun F p v u hv hu=>
  eqB_e h hv hu (fun t c q h=>cmp_ofEq (q.e _ _ _ _ (p.q mkB_vr h))) Stop.no
theorem ne_ok (ok:X.Ok K) (h:eqN a b w fun t c w=>k (mkB t (!c)) w):Op2 X d (fun v w=>compareOp .NotEq v w) a b w.σ w.nx (qE k):=fun F p v u hv hu=>
  eqB_e h hv hu (fun t c q h=>cmp_ofNotEq (q.n _ _ _ _ (p.q mkB_vr h))) fun h=>hAv_e h fun _ o h=>cmp_ofNotEq ((eqT0_ok ok h).2 p.R hv hu (by have:=p.hu; show p.A.units + 22 < 9900; omega) _ _ (p.q .bool (eqT0_ok ok h).1))
theorem cmpI_ok {op:CmpOp} {t:Bool} {i j:Int} {r:Bool} {tk tl:Tok} (e:cmpI op i j = some r) (h:k (mkB t r) w) (p:At X d F w.σ w.nx):wpAny p.M p.A (compareOp op (.int i tk) (.int j tl)) (p.Ans (qE k)) no p.s:=by
  cases op with
  | Lt=>cases e; exact lt_int (p.q mkB_vr h)
  | LtE=>cases e; exact le_int (p.q mkB_vr h)
  | Gt=>cases e; exact gt_int (p.q mkB_vr h)
  | GtE=>cases e; exact ge_int (p.q mkB_vr h)
  | _=>cases e
theorem OV.nn {o:Option Str} (h:OV o v):(v == Value.none) = o.isNone:=by
  cases o with
  | none=>rw [show v = .none from h]; rfl
  | some y=>obtain ⟨_,rfl⟩:=(h:∃ t,v = .str y t); rfl
theorem isA_e {z:Bool} {G:Prop} (h:isA z a b w k) (hv:VR J nx ρ a v) (hu:VR J nx ρ b u) (g:∀ t,u = .none → k (mkB t (cond z (!(v == Value.none)) (v == Value.none))) w → G):G:=
  onT_e h fun eb h=>onO_e h (fun o ea h=>g true (asN_vr eb hu) (by rw [OV.nn (onO_of hv.vw.o ea :)]; exact h)) fun _ h=>onT_e h fun ea h=>g false (asN_vr eb hu) (by rw [nn_vr ea hv]; exact h)
theorem is_ok (h:isA false a b w k):Op2 X d (fun v w=>compareOp .Is v w) a b w.σ w.nx (qE k):=fun F p v u hv hu=>isA_e h hv hu fun t e h=>e ▸ is_none_gen (p.q mkB_vr h)
theorem isnot_ok (h:isA true a b w k):Op2 X d (fun v w=>compareOp .IsNot v w) a b w.σ w.nx (qE k):=fun F p v u hv hu=>isA_e h hv hu fun t e h=>e ▸ isnot_none_gen (p.q mkB_vr h)
theorem bit_ok {t b:Bool} {k:KB} (h:bit t b w k) (p:At X d F w.σ w.nx) (tk:Nat):p.AnsB (qB k) b { p.s with toks:=tk }:=
  onB_e h (fun _ h=>hBit_e h fun c o h=>p.qBT (o:=o) (h.1 ▸ h.2)) fun _ h=>onB_e h (fun e h=>e ▸ p.qBT (o:=w.o) h) fun e h=>e ▸ p.qBT (o:=w.o) h
theorem empty_eq {l:List AV} {vs:Array Value} (h:vs.size = l.length):vs.isEmpty = l.isEmpty:=by
  cases l with
  | nil=>exact decide_eq_true h
  | cons a l=>exact decide_eq_false fun z=>by rw [h] at z; cases z
theorem tru_ok {k:KB} (h:tru a w k):Tru X d a w.σ w.nx (qB k):=fun F p v hv=>by
  refine onO_e h (fun q ea h=>?_) fun _ h=>onS_e h fun q ea h=>?_
  · rw [asB_vr ea hv]
    exact wpAny_truthy_bool (bit_ok h p _)
  · obtain ⟨ad,rfl,vs,ep,hg,hr⟩:=asL_vr p.R ea hv
    obtain ⟨hsz,h⟩:=szP_ok (fun z=>by omega) h
    have hlen:=len_ofL hr
    refine wpAny_truthy_list ⟨_,hg,rfl,_,rfl⟩ (by omega) ?_
    rw [empty_eq hlen]
    exact bit_ok h p _
end
end Mine
end
section
open PySem PySem.W PySem.Calls PyProof.Rows
set_option maxRecDepth 100000
set_option linter.unusedVariables false
namespace Mine
/-! what the tables say -/
structure NmOk (fd:FuncData) (nm:List (Nat × Bool)):Prop where
  kind:fd.scope.kind = .function
  gl:fd.globals = mainGlobals
  bl:fd.builtins = builtinsNs
  loc:∀ x,gt nm (cd x) = some true → fd.scope.names.lookup x = some .local
  glb:∀ x,gt nm (cd x) = some false → fd.scope.names.lookup x = some .globalImplicit
  ok:∀ x b,gt nm (cd x) = some b → cd x ≠ 0∧(x == ("__debug__":Str)) = false∧x ≠ "__name__"
structure ClsOk (K:Frag) (C:Addr) (ci:ClsI):Prop where
  ga:findIn K (.ref C) "__getattribute__" = some (some (.builtin "object.__getattribute__"))
  gk:findIn K (.ref C) "__getattr__" = some none
  sa:findIn K (.ref C) "__setattr__" = some (some (.builtin "object.__setattr__"))
  over:plainOver K C = true
  dict:(clsIn K C).any (·.hasDict) = true
  ok:∀ x r,gt ci.at_ (cd x) = some r → cd x ≠ 0∧copiedNames.contains x = false
  no:∀ x,gt ci.at_ (cd x) = some .no → findIn K (.ref C) x = some none
  val:∀ x a,gt ci.at_ (cd x) = some (.val a) → ∃ v,findIn K (.ref C) x = some (some v)∧specialIn K v "__get__" = some none∧takesIn K v = some false∧handedIn v = true∧litV v = some a
  fn:∀ x f,gt ci.at_ (cd x) = some (.fn f) → findIn K (.ref C) x = some (some (.ref f))∧typeIn K (.ref f) = some (.type "function")∧takesIn K (.ref f) = some false
  prop:∀ x f,gt ci.at_ (cd x) = some (.prop f) → ∃ p rest,findIn K (.ref C) x = some (some (.ref p))∧specialIn K (.ref p) "__get__" = some (some (.builtin "property.__get__"))∧takesIn K (.ref p) = some true∧recIn K p "property" = some (.ref f :: rest)
  item:∀ f,gt ci.at_ 128 = some (.fn f) → findIn K (.ref C) "__getitem__" = some (some (.ref f))∧typeIn K (.ref f) = some (.type "function")∧fnIn K f = true
  len:∀ f,gt ci.at_ 256 = some (.fn f) → findIn K (.ref C) "__len__" = some (some (.ref f))∧typeIn K (.ref f) = some (.type "function")
  reads:readsIn K C (.type "type") = true
  cval:∀ x a,gt ci.at_ (cd x) = some (.val a) → ∃ v,findCls K (.ref C) (.type "type") x = some (.val v)∧handedIn v = true∧litV v = some a
  init:∀ f,ci.init = some f → makesIn K C = true∧findIn K (.ref C) "__init__" = some (some (.ref f))∧typeIn K (.ref f) = some (.type "function")
  init0:ci.init = none → makesIn K C = true∧findIn K (.ref C) "__init__" = some (some (.builtin "object.__init__"))
/-- an own object,its table -/
structure InstW (h:Heap) (J:Frozen) (nx:Nat) (ρ:Nat → Addr) (a:Addr) (C:Nat) (as:List (Nat × AV)) (dx:Addr) (m:Str → Option Value) (o:Obj):Prop where
  ns:NsZ h dx m as.length
  i:InstAt h a (instObj C dx) C (some o)
  g:h.get? a = some (instObj C dx)
  ne:dx ≠ a
  l:∀ x,lookIn x o = some (m x)
  at_:∀ x,cd x ≠ 0 → AttR J nx ρ (gt as (cd x)) (m x)
section
variable {X:Cx} {K:Frag} {d:Nat} {F:Frame} {σ:Store} {nx:Nat} {a b:AV} {v u:Value} {w:W} {k:KE} {fd:FuncData} {C:Addr} {ci:ClsI} {as:List (Nat × AV)} {n:Nat} {x:Str} {J:Frozen} {ρ:Nat → Addr} {L:Lk} {s:Shared}
theorem Rel.KX (ok:X.Ok K) (R:Rel X J ρ L F σ nx s):K.In s.heap:=fun a o e=>R.keep a o (ok.K a o e)
theorem look_ns {o:Obj} {es:Array DictEntry} {ep:Nat} {m:Str → Option Value} (g2:o.data = .dict es ep) (g3:StrKeys es) (g4:∀ x,nsFind es x = m x):lookIn x o = some (m x):=by
  unfold lookIn
  rw [g2]
  dsimp only
  have:=g4 x
  unfold nsFind findBy at this
  rw [← Array.find?_toList] at this
  rw [← this]
  cases q:es.toList.find? (·.key.isStr x) with
  | some en=>rfl
  | none=>
    have hany:es.toList.any (·.refKey) = false:=by
      rw [List.any_eq_false]; intro e he; obtain ⟨n,t,h⟩:=g3 e (by simpa using he); simp [DictEntry.refKey,h]
    dsimp only
    rw [hany]
    rfl
/-- an own object of the store,in the heap -/
theorem inst_of (R:Rel X J ρ L F σ nx s) (e:gt σ n = some (.inst C as)):∃ dx m o,InstW s.heap J nx ρ (ρ n) C as dx m o:=by
  cases (R.st _ _ e).2.1 with
  | @inst C as dx m h1 h2 h3 h4=>
    obtain ⟨o,es,ep,g1,g2,g3,g4,_⟩:=id h2
    exact ⟨dx,m,o,h2,⟨h1,rfl,rfl,g1⟩,h1,h3,fun x=>look_ns g2 g3 g4,h4⟩
theorem AttR.none {mv:Option Value} (h:AttR J nx ρ none mv):mv = none:=by cases mv with
  | none=>rfl
  | some _=>exact h.elim
theorem AttR.some {mv:Option Value} (h:AttR J nx ρ (some a) mv):∃ v,mv = some v∧VR J nx ρ a v:=by cases mv with
  | none=>exact h.elim
  | some v=>exact ⟨v,rfl,h⟩
theorem InstW.own {dx:Addr} {m:Str → Option Value} {o:Obj} {ad:Addr} {cdd:ClassData} (I:InstW s.heap J nx ρ ad C as dx m o) (hd:cdd.hasDict = true):W.ownOf cdd (some o) x = some (m x):=by
  unfold W.ownOf; rw [hd,if_pos rfl]; exact I.l x
theorem attr_own (ok:X.Ok K) (co:ClsOk K C ci) (e:gt σ n = some (.inst C as)) (er:gt ci.at_ (cd x) = some .no) (ea:gt as (cd x) = some a) (ha:hnd a = true) (p:At X d F σ nx) {expr:Bool} {Q:QE} (q:Q a σ nx) :
    wpAny p.M p.A (getAttr (.ref (p.ρ n)) x expr) (p.Ans Q) no p.s:=by
  obtain ⟨dx,m,o,I⟩:=inst_of p.R e
  obtain ⟨hx0,hcop⟩:=co.ok _ _ er
  obtain ⟨v,em,hv⟩:=(ea ▸ I.at_ x hx0:AttR p.J nx p.ρ (some a) (m x)).some
  obtain ⟨cdd,hc,hd⟩:=any_some co.dict
  refine get_value (p.R.KX ok) I.i co.ga ?_ (hnd_vr ha hv) (p.nowT hv q)
  unfold findObj
  rw [hc,co.no _ er]
  simp [I.own (x:=x) hd,em]
theorem less_u {u d:Nat} (h:u + 9 * (d + 1) ≤ 9000):u + 1 + 9 * d ≤ 9000:=by omega
/-- a point within a builtin -/
noncomputable abbrev At.inn (p:At X (d + 1) F σ nx) {s':Shared} (R:Rel X p.J p.ρ p.L F σ nx s'):At X d F σ nx:=⟨p.A.in1,p.J,p.ρ,p.L,p.f,s',p.hh,Nat.le_of_succ_le p.hd,less_u p.hu,R⟩
theorem attr_prop (ok:X.Ok K) (co:ClsOk K C ci) (e:gt σ n = some (.inst C as)) {f:Nat} (er:gt ci.at_ (cd x) = some (.prop f)) (p:At X (d + 1) F σ nx) {expr:Bool} {Q:QE}
    (h:Cl X d (.ref f) [.loc n] [] σ nx fun a σ' n'=>hnd a = true∧Q a σ' n') :
    wpAny p.M p.A (getAttr (.ref (p.ρ n)) x expr) (p.Ans Q) no p.s:=by
  obtain ⟨dx,m,o,I⟩:=inst_of p.R e
  obtain ⟨hx0,hcop⟩:=co.ok _ _ er
  obtain ⟨pr,rest,e1,e2,e3,e4⟩:=co.prop _ _ er
  obtain ⟨cdd,hc,hd⟩:=any_some co.dict
  refine get_bind (p.R.KX ok) I.i co.ga (g:=.builtin "property.__get__") (a:=.ref pr) ?_ co.gk ?_
  · unfold findObj
    rw [hc]
    simp [e1,e2,e3]
  · have R1:=p.R.toks (p.s.toks + 1)
    refine wpAny_call (prop_get (R1.KX ok) e4 (codeAny_mono (h F (p.inn R1) [.ref (p.ρ n)] [] (.cons (.loc (p.R.st _ _ e).1) .nil) .nil) fun r s' z=>?_))
    rcases r with e | (v | _ | _ | _) <;> first | exact z.elim | skip
    obtain ⟨a,J',ρ',σ',n',E,R',hv,ha,hq⟩:=z
    exact handed_on (hnd_vr ha hv) ⟨a,J',ρ',σ',n',E,R',hv,hq⟩
theorem attr_cls (ok:X.Ok K) (co:ClsOk K C ci) (er:gt ci.at_ (cd x) = some (.val a)) (p:At X d F σ nx) {expr:Bool} {Q:QE} (q:Q a σ nx) :
    wpAny p.M p.A (getAttr (.ref C) x expr) (p.Ans Q) no p.s:=by
  obtain ⟨v,e1,e2,e3⟩:=co.cval _ _ er
  exact cls_value (p.R.KX ok) co.reads e1 e2 (p.nowT (litV_rel e3) q)
theorem pt_len {α:Type} (c:Nat) (v:α):∀ l:List (Nat × α),l.length ≤ (pt l c v).length∧(pt l c v).length ≤ l.length + 1∧(gt l c = none → (pt l c v).length = l.length + 1)
  | []=>⟨Nat.zero_le _,Nat.le_refl _,fun _=>rfl⟩
  | p :: r=>by
    obtain ⟨h1,h2,h3⟩:=pt_len c v r
    simp only [pt,gt,beq_dec]
    by_cases q:p.1 = c
    · rw [decide_eq_true q]; exact ⟨Nat.le_refl _,Nat.le_succ _,fun h=>nomatch h⟩
    · rw [decide_eq_false q]; exact ⟨Nat.succ_le_succ h1,Nat.succ_le_succ h2,fun h=>congrArg Nat.succ (h3 h)⟩
theorem taker_of (e1:findIn K (.ref C) x = some (some v)) (e3:takesIn K v = some false):takerIn K C x = some none:=by
  unfold takerIn; rw [e1]
  show (takesIn K v).map _ = _
  rw [e3]; rfl
theorem ClsOk.take (co:ClsOk K C ci) {r:CA} (er:gt ci.at_ (cd x) = some r) (hr:(cProp (some r)).isNone = true):takerIn K C x = some none:=by
  cases r with
  | no=>unfold takerIn; rw [co.no _ er]; rfl
  | val a=>obtain ⟨v,e1,_,e3,_⟩:=co.val _ _ er; exact taker_of e1 e3
  | fn f=>obtain ⟨e1,e2,e3⟩:=co.fn _ _ er; exact taker_of e1 e3
  | prop f=>cases hr
theorem att_put {m:Str → Option Value} (hx0:cd x ≠ 0) (hat:∀ x,cd x ≠ 0 → AttR J nx ρ (gt as (cd x)) (m x)) (hv:VR J nx ρ a v) (y:Str) (hy:cd y ≠ 0):AttR J nx ρ (gt (pt as (cd x) a) (cd y)) (if y = x then some v else m y):=by
  rw [gt_pt]
  by_cases z:x = y
  · rw [if_pos (congrArg cd z),if_pos z.symm]; exact hv
  · rw [if_neg (fun w=>z (cd_inj w hx0)),if_neg (fun w=>z w.symm)]; exact hat y hy
theorem setattr_ok (ok:X.Ok K) (co:ClsOk K C ci) (e:gt σ n = some (.inst C as)) {r:CA} (er:gt ci.at_ (cd x) = some r) (hr:(cProp (some r)).isNone = true) (hz:as.length ≤ 1000) (p:At X d F σ nx) (hv:p.VR a v) {Q:Store → Nat → Prop}
    (q:Q (pt σ n (.inst C (pt as (cd x) a))) nx):wpAny p.M p.A (setAttr (.ref (p.ρ n)) x v) (p.AnsU Q) no p.s:=by
  have R1:=p.R.toks (p.s.toks + 1)
  obtain ⟨dx,m,o,I⟩:=inst_of R1 e
  obtain ⟨_,m',o',I'⟩:=inst_of p.R e
  obtain ⟨hx0,hcop⟩:=co.ok _ _ er
  obtain ⟨l1,l2,l3⟩:=pt_len (cd x) a as
  obtain ⟨cdd,hc,hd⟩:=any_some co.dict
  refine set_plain (p.R.KX ok) I'.i co.sa (osa_open (R1.KX ok) I.i co.over (co.take er hr) fun b=>wpAny_bind (wpAny_pure (wpAny_bind (wpAny_bind (wpAny_loadPart I.g (wpAny_bind ((looks_clsIn (R1.KX ok) hc).here ?_)))))))
  rw [hd]
  refine wpAny_pure (a:=some dx) (wpAny_bind (wpAny_pure (wpAny_bind (wpAny_nsSetZ I.ns fun h' od g hN hs hk=>?_))))
  obtain ⟨⟨es',n',d1,d2⟩,N⟩:=hN _ (fun z=>Nat.le_of_eq (l3 (by
    have:=I.at_ x hx0
    rw [z] at this
    cases q:gt as (cd x) with
    | none=>rfl
    | some _=>rw [q] at this; exact this.elim)).symm) l1
  refine wpAny_bind (wpAny_lookBehind g (by rw [d1]; exact pastItsLine_dict (by rw [sizeLine_eq]; omega)) (wpAny_pure ?_))
  have hx':h'.get? (p.ρ n) = some (instObj C dx):=(hs.2 _ (Ne.symm I.ne)).trans I.g
  have f0:=feet_of (h:=p.s.heap) I.g
  exact ⟨p.J,p.ρ,_,nx,.refl,p.R.upd (h':=h') e (fun b ob hb e'=>(hs.2 b fun z=>hb (by rw [f0,z]; exact .tail _ (.head _))).trans e') (.inst hx' N I.ne (att_put hx0 I.at_ hv)) ((feet_of hx').trans f0.symm) _,q⟩
end
end Mine
end
section
open PySem PySem.W PySem.Calls PyProof.Rows PySem.SeqAt
set_option maxRecDepth 100000
set_option linter.unusedVariables false
namespace Mine
/-- an expression's walk is at hand -/
noncomputable abbrev EvOk (X:Cx) (d:Nat) (fd:FuncData) (F:Frame) (r:PySem.Expr → W → KE → Prop):Prop:=∀ e w k,r e w k → Ev X d fd F (fun env=>eval e env) w.σ w.nx (qE k)
section
variable {X:Cx} {K:Frag} {d:Nat} {F:Frame} {σ:Store} {nx:Nat} {a b:AV} {v u:Value} {w:W} {k:KE} {fd:FuncData} {r:PySem.Expr → W → KE → Prop}
theorem put_self {J:Frozen} {a:Addr} {o:Obj}:put J a o a = some o:=if_pos rfl
theorem starEach_plain {e:PySem.Expr} {es:List PySem.Expr} {env:Env} (h:plainE e = true):starEach (e :: es) env = (false,eval e env) :: starEach es env:=by
  cases e <;> first | rfl | (cases h; done)
/-- the points after a point -/
theorem evl_ok (hr:EvOk X d fd F r) {pos:Pos}:∀ (es:List PySem.Expr) {w:W} {k:KL},evl r es w k → EvL X d fd F (fun env=>spliced (backTo pos (starEach es env))) w.σ w.nx (qL fun l w=>l.length = es.length∧k l w)
  | [],w,k,h=>fun p=>Calls.spliced_nil ⟨[],p.J,p.ρ,w.σ,w.nx,.refl,p.R,.nil,w.o,rfl,h⟩
  | e :: es,w,k,h=>fun p=>onT_e h fun he h=>by
    show wpAny p.M p.A (spliced (backTo pos (starEach (e :: es) (p.env fd)))) _ _ _
    rw [starEach_plain he]
    refine Calls.spliced_cons (an (hr _ _ _ h p) fun v a J1 ρ1 σ1 n1 s1 R1 E1 x1 ⟨o1,h1⟩=>?_)
    exact wpAny_mono (evl_ok hr es h1 (p.to R1)) (fun vs s2 ⟨as,J2,ρ2,σ2,n2,E2,R2,x2,o2,e2,h2⟩=>⟨a :: as,J2,ρ2,σ2,n2,E1.trans E2,R2,.cons (x1.mono E2.grow) x2,o2,congrArg Nat.succ e2,h2⟩) fun _ _ z=>z
theorem VRs.len_arr {J ρ} {l:List AV} {vs:List Value} (h:VRs J nx ρ l vs):VRs J nx ρ l vs.toArray.toList:=h
theorem tuple_ok (hr:EvOk X d fd F r) {es:List PySem.Expr} {i:Nat} {pos:Pos} (hl:Nat.ble es.length 1000 = true) (h:evl r es w fun l w=>k (.tup l) w):Ev X d fd F (fun env=>eval (.Tuple es i pos) env) w.σ w.nx (qE k):=fun p=>by
  refine wpAny_Tuple_spliced (anL (evl_ok hr es h p) fun vs as J1 ρ1 σ1 n1 s1 R1 E1 x1 ⟨o1,e1,h1⟩=>⟨?_,?_⟩)
  · have:=x1.length; have:=Nat.le_of_ble_eq_true hl; rw [sizeLine_eq]; omega
  · have R2:=R1.freeze (ob:={ cls:=.type "tuple",data:=.seq vs.toArray }) rfl s1.toks
    have E2:Ext J1 n1 ρ1 (put J1 s1.heap.objs.size { cls:=.type "tuple",data:=.seq vs.toArray }) n1 ρ1:=put_ext R1.J_fresh
    refine ⟨.tup as,_,ρ1,σ1,n1,E1.trans E2,R2,?_,o1,h1⟩
    exact .tup (vs:=vs.toArray) (ep:=0) put_self (x1.mono E2.grow)
theorem new_list {z:Bool} {as:List AV} {vs:List Value} (p:At X d F w.σ w.nx) (x:p.VRs as vs) (h:w.new (mkLO z as) k):p.Ans (qE k) (.ref p.s.heap.objs.size) { p.s with heap:=p.s.heap.push { cls:=.type "list",data:=.seq vs.toArray } }:=by
  have g:(p.s.heap.push { cls:=.type "list",data:=.seq vs.toArray }).get? p.s.heap.objs.size = some ⟨.type "list",none,.seq vs.toArray 0,#[]⟩:=Heap.get?_push_size _ rfl
  exact ⟨.loc w.nx,p.J,_,_,_,at_ext,p.R.new (fun b ob e=>Heap.get?_push_of_some _ e) (mkLO_or g (x.mono at_grow)) (feet_new g (fresh_none _)) p.s.toks,.new,w.o,h⟩
theorem fz_list {as:List AV} {vs:List Value} {o:List Hint} (p:At X d F w.σ w.nx) (x:p.VRs as vs) (h:k (.fl as) ⟨o,w.σ,w.nx⟩):p.Ans (qE k) (.ref p.s.heap.objs.size) { p.s with heap:=p.s.heap.push { cls:=.type "list",data:=.seq vs.toArray } }:=
  have E2:Ext p.J w.nx p.ρ (put p.J p.s.heap.objs.size { cls:=.type "list",data:=.seq vs.toArray }) w.nx p.ρ:=put_ext p.R.J_fresh
  ⟨.fl as,_,p.ρ,w.σ,w.nx,E2,p.R.freeze rfl p.s.toks,.fl (vs:=vs.toArray) (ep:=0) put_self (x.mono E2.grow),o,h⟩
theorem mkl_vr {line:Nat} {as:List AV} {vs:List Value} (h:mkl line as w k) (p:At X d F w.σ w.nx) (x:p.VRs as vs):p.Ans (qE k) (.ref p.s.heap.objs.size) { p.s with heap:=p.s.heap.push { cls:=.type "list",data:=.seq vs.toArray } }:=
  onO_e h (fun q _ h=>onB_e h (fun _ h=>fz_list p x h) fun _ h=>new_list (z:=false) p x h) fun _ h=>new_list (z:=false) p x h
theorem list_ok (hr:EvOk X d fd F r) {es:List PySem.Expr} {line:Nat} {pos:Pos} (hl:Nat.ble es.length 1000 = true) (h:evl r es w fun l w=>mkl line l w k):Ev X d fd F (fun env=>eval (.List es pos) env) w.σ w.nx (qE k):=fun p=>by
  refine wpAny_List (anL (evl_ok hr es h p) fun vs as J1 ρ1 σ1 n1 s1 R1 E1 x1 ⟨o1,e1,h1⟩=>⟨?_,?_⟩)
  · have:=x1.length; have:=Nat.le_of_ble_eq_true hl; rw [sizeLine_eq]; omega
  · exact Ans.ext E1 (mkl_vr h1 (p.to R1) x1)
/-! a dict's display -/
theorem del_put {J:Frozen} {a:Addr} {o:Obj} (h:J a = none):del (put J a o) a = J:=by
  funext b
  unfold del put
  split
  · rename_i z; rw [z,h]
  · rfl
theorem del_grow {J:Frozen} {ρ:Nat → Addr} {a:Addr} {o:Obj} (e:J a = some o) (hi:¬ Imm o):Grow J nx ρ (del J a) nx ρ:=⟨fun b ob q i=>by
    unfold del
    split
    · rename_i z; rw [z,e] at q; cases q; exact absurd i hi
    · exact q,Nat.le_refl _,fun _ _=>rfl⟩
theorem Rel.up_del {J ρ L s} {a:Addr} {ob:Obj} (R:Rel X J ρ L F σ nx s) (e:J a = some ob) (hc:ob.cls ≠ fcls):∀ b ∈ L.up,∃ o,del J a b = some o∧Marked o∧X.h₀.get? b = none:=fun b hb=>by
  obtain ⟨o,q,m⟩:=R.up b hb
  refine ⟨o,?_,m⟩
  unfold del
  rw [if_neg (fun z=>by rw [z,e] at q; cases q; exact hc m.1.1)]
  exact q
theorem Rel.thaw {J ρ L s} {a:Addr} {ob:Obj} (R:Rel X J ρ L F σ nx s) (e:J a = some ob) (hi:¬ Imm ob) (h0:X.h₀.get? a = none) (hc:ob.cls ≠ fcls:=by (intro z; exact absurd (Value.type.inj z) (by decide))):Rel X (del J a) ρ L F σ nx s:=by
  have g:=del_grow (nx:=nx) (ρ:=ρ) e hi
  refine R.same (s':=s) g (fun b o _ _ q=>q) (fun b o q=>?_) (fun b o q=>?_) R.gens R.os (fun b q=>?_) ?_ (.inl rfl) ?_ (R.up_del e hc)
  · unfold del at q
    split at q
    · cases q
    · exact R.jh b o q
  · unfold del
    split
    · rename_i z; rw [z,h0] at q; cases q
    · exact R.hj b o q
  · unfold del at q
    split at q
    · exact absurd rfl q
    · exact .inl q
  · unfold del
    split
    · rfl
    · exact R.Lj
  · obtain ⟨m,h1,h2⟩:=R.fr
    exact ⟨m,h1,FrOk.mono g h2⟩
theorem Ext.drop {J J':Frozen} {ρ ρ':Nat → Addr} {nx':Nat} {a:Addr} {o:Obj} (h:J a = none) (E:Ext (put J a o) nx ρ J' nx' ρ'):Ext J nx ρ (del J' a) nx' ρ':=⟨fun b ob q=>by
    unfold del
    split
    · rename_i z; rw [z,h] at q; cases q
    · exact E.j b ob (by unfold put; split; (rename_i z1 z2; exact absurd z2 z1); exact q),E.n,E.r⟩
noncomputable def kwNames:List Keyword → List Str
  | []=>[]
  | e :: es=>match e.arg with
    | some x=>x :: kwNames es
    | none=>kwNames es
theorem kw_names {pos:Pos} {env:Env}:∀ {es:List Keyword},kwOk es = true → (backToKw pos (keywordEach es env)).all (·.1.isSome) = true∧(backToKw pos (keywordEach es env)).filterMap (·.1) = kwNames es
  | [],_=>⟨rfl,rfl⟩
  | ⟨none,e,_⟩ :: es,h=>by cases h
  | ⟨some x,e,_⟩ :: es,h=>
    let z:=kw_names (pos:=pos) (env:=env) (es:=es) h
    ⟨z.1,congrArg (x :: ·) z.2⟩
inductive AnsK (X:Cx) (J:Frozen) (nx:Nat) (ρ:Nat → Addr) (L:Lk) (F:Frame) (ns:List Str) (k:List (Str × AV) → W → Prop) (vs:List Value) (s':Shared):Prop
  | mk (kv:List (Str × AV)) (J':Frozen) (ρ':Nat → Addr) (σ':Store) (nx':Nat) (o:List Hint) (E:Ext J nx ρ J' nx' ρ') (R:Rel X J' ρ' L F σ' nx' s') (x:KVR J' nx' ρ' kv (ns.zip vs)) (q:k kv ⟨o,σ',nx'⟩)
theorem evk_ok (hr:EvOk X d fd F r) {pos:Pos}:∀ (es:List Keyword) {w:W} {k:List (Str × AV) → W → Prop},kwOk es = true → evk r es w k → ∀ p:At X d F w.σ w.nx,
    wpAny p.M p.A (evalAll ((backToKw pos (keywordEach es (p.env fd))).map (·.2))) (AnsK X p.J w.nx p.ρ p.L F (kwNames es) k) no p.s
  | [],w,k,_,h,p=>wpAny_pure ⟨[],p.J,p.ρ,w.σ,w.nx,w.o,.refl,p.R,.nil,h⟩
  | ⟨none,e,pos'⟩ :: es,w,k,ho,h,p=>by cases ho
  | ⟨some x,e,pos'⟩ :: es,w,k,ho,h,p=>by
    show wpAny p.M p.A (evalAll ((do let v ← eval e (p.env fd); standAt pos; pure v) :: (backToKw pos (keywordEach es (p.env fd))).map (·.2))) _ _ _
    rw [evalAll]
    refine wpAny_bind (wpAny_bind (an (hr _ _ _ h p) fun v a J1 ρ1 σ1 n1 s1 R1 E1 x1 ⟨o1,h1⟩=>wpAny_bind (wpAny_standAt (wpAny_pure ?_))))
    exact wpAny_bind (wpAny_holding (wpAny_mono (evk_ok hr es (w:=⟨o1,σ1,n1⟩) ho h1 (p.to R1)) (fun vs s2 ⟨kv,J2,ρ2,σ2,n2,o2,E2,R2,x2,h2⟩=>wpAny_pure ⟨(x,a) :: kv,J2,ρ2,σ2,n2,o2,E1.trans E2,R2,.cons (x1.mono E2.grow) x2,h2⟩) fun _ _ z=>z))
end
end Mine
namespace Mine
section
variable {X:Cx} {K:Frag} {d:Nat} {F:Frame} {σ:Store} {nx:Nat} {a b:AV} {v u:Value} {w:W} {k:KE} {fd:FuncData} {r:PySem.Expr → W → KE → Prop}
theorem Rel.grown {J ρ L s} {h':Heap} (R:Rel X J ρ L F σ nx s) (k:∀ b ob,s.heap.get? b = some ob → h'.get? b = some ob) (t:Nat):Rel X J ρ L F σ nx { s with heap:=h',toks:=t }:=
  let ⟨m,h1,h2⟩:=R.fr; R.moved (fun b ob _ e=>k b ob e) (Ns_at h1 fun ob e=>k _ _ e) h2 t
inductive AnsA' (X:Cx) (J:Frozen) (nx:Nat) (ρ:Nat → Addr) (L:Lk) (F:Frame) (k:List AV → List (Str × AV) → W → Prop) (a:Args) (s':Shared):Prop
  | mk (as:List AV) (kv:List (Str × AV)) (J':Frozen) (ρ':Nat → Addr) (σ':Store) (nx':Nat) (o:List Hint) (E:Ext J nx ρ J' nx' ρ') (R:Rel X J' ρ' L F σ' nx' s') (x:VRs J' nx' ρ' as a.pos) (y:KVR J' nx' ρ' kv a.kw) (q:k as kv ⟨o,σ',nx'⟩)
noncomputable abbrev AnsA (p:At X d F σ nx) (k:List AV → List (Str × AV) → W → Prop):Args → Shared → Prop:=AnsA' X p.J nx p.ρ p.L F k
theorem notIter_tuple {M:Model} {A:Around} {E:Value → Shared → Prop} {s:Shared} {t:Addr} {Q:Bool → Shared → Prop} (hT:s.TypeIs (.ref t) "tuple") (h:Q false s):wpAny M A (notIterableAtAll (.ref t)) Q E s:=by
  unfold notIterableAtAll
  refine wpAny_bind (wpAny_specialOf hT slot_tuple_iter.lookup ?_)
  exact wpAny_pure h
theorem args_of (hr:EvOk X d fd F r) {f:Value} {pos:Pos} {es:List PySem.Expr} {kws:List Keyword} {k:KL} (hk:kwOk kws = true) (h:evl r es w k) (p:At X d F w.σ w.nx) {P:Args → Shared → Prop}
    (H:∀ vs as J' ρ' σ' nx' s',Rel X J' ρ' p.L F σ' nx' s' → Ext p.J w.nx p.ρ J' nx' ρ' → VRs J' nx' ρ' as vs → (∃ o,k as ⟨o,σ',nx'⟩) → wpAny p.M p.A (evalAll ((backToKw pos (keywordEach kws (p.env fd))).map (·.2))) (fun ks s₂=>P ⟨vs,((backToKw pos (keywordEach kws (p.env fd))).filterMap (·.1)).zip ks⟩ s₂) no s') :
    wpAny p.M p.A (evalArgs f true (backTo pos (starEach es (p.env fd))) (backToKw pos (keywordEach kws (p.env fd)))) P no p.s:=by
  have e1:=(kw_names (pos:=pos) (env:=p.env fd) hk).1
  cases es with
  | nil=>exact evalArgs_kw_nil e1 (H [] [] p.J p.ρ _ _ _ p.R .refl .nil ⟨w.o,h⟩)
  | cons e es=>
    have go:wpAny p.M p.A (spliced (backTo pos (starEach (e :: es) (p.env fd)))) (fun vs s₁=>wpAny p.M p.A (evalAll ((backToKw pos (keywordEach kws (p.env fd))).map (·.2))) (fun ks s₂=>P ⟨vs,((backToKw pos (keywordEach kws (p.env fd))).filterMap (·.1)).zip ks⟩ s₂) no s₁) no p.s:=
      anL (evl_ok hr (e :: es) h p) fun vs as J1 ρ1 σ1 n1 s1 R1 E1 x1 ⟨o1,_,h1⟩=>H vs as J1 ρ1 σ1 n1 s1 R1 E1 x1 ⟨o1,h1⟩
    refine onT_e h fun he _=>?_
    rw [starEach_plain he] at go ⊢
    exact evalArgs_kw e1 go
theorem evl_args (hr:EvOk X d fd F r) {f:Value} {pos:Pos} {es:List PySem.Expr} {kws:List Keyword} {k:List AV → List (Str × AV) → W → Prop} (h:argP r es kws w k) (p:At X d F w.σ w.nx) :
    wpAny p.M p.A (evalArgs f true (backTo pos (starEach es (p.env fd))) (backToKw pos (keywordEach kws (p.env fd)))) (AnsA p k) no p.s:=onT_e h fun hk h=>
  args_of hr hk h p fun vs as J1 ρ1 σ1 n1 s1 R1 E1 x1 ⟨o1,h1⟩=>wpAny_mono (evk_ok hr kws hk h1 (p.to R1)) (fun ks s2 ⟨kv,J2,ρ2,σ2,n2,o2,E2,R2,x2,h2⟩=>⟨as,kv,J2,ρ2,σ2,n2,o2,E1.trans E2,R2,x1.mono E2.grow,(kw_names hk).2 ▸ x2,h2⟩) fun _ _ z=>z
theorem arg_star (hr:EvOk X d fd F r) {f:Value} {pos ps:Pos} {e:PySem.Expr} {k:List AV → List (Str × AV) → W → Prop} (h:argS r e w k) (p:At X d F w.σ w.nx) :
    wpAny p.M p.A (evalArgs f true (backTo pos (starEach [.Starred e ps] (p.env fd))) (backToKw pos (keywordEach [] (p.env fd)))) (AnsA p k) no p.s:=by
  show wpAny p.M p.A (evalArgs f true [(true,do let v ← eval e (p.env fd); standAt pos; pure v)] []) _ _ _
  unfold evalArgs
  refine wpAny_bind (wpAny_bind (an (hr _ _ _ h p) fun v a J1 ρ1 σ1 n1 s1 R1 E1 x1 ⟨o1,h1⟩=>wpAny_bind (wpAny_standAt (wpAny_pure (onS_e h1 fun l ea h1=>onT_e h1 fun hsz h1=>?_)))))
  obtain ⟨ta,rfl,vs,ep,ht,hs⟩:=asT_vr ea x1
  have g:=R1.jx ht
  refine wpAny_bind (wpAny_pure (wpAny_holding ?_))
  rw [if_pos (by rfl)]
  refine wpAny_bind (wpAny_pure (wpAny_bind (wpAny_bind (notIter_tuple ⟨_,g,rfl⟩ ?_))))
  rw [if_neg (by decide)]
  exact wpAny_holding (wpAny_collect_seq ta (.inr rfl) g rfl rfl (fun h' kk=>wpAny_pure ⟨_,[],J1,ρ1,σ1,n1,o1,E1,R1.grown kk _,hs,.nil,h1⟩) (by rw [len_ofL hs]; exact Nat.le_trans (Nat.le_of_ble_eq_true hsz) (by rw [sizeLine_eq]; decide)))
/-- a call with its arguments -/
theorem cw_ok {Q:QE} {f:Addr} {fa:List AV} {first:List Value} {pos:Pos} {es:List PySem.Expr} {kws:List Keyword} {k:List AV → List (Str × AV) → W → Prop} (ok:X.Ok K) (hkeep:keepIn K (.ref f) = true)
    (hr:EvOk X d fd F r) (h:argP r es kws w k) (p:At X d F w.σ w.nx) (hf:p.VRs fa first) (H:∀ as kv w',k as kv w' → Cl X d (.ref f) (fa ++ as) kv w'.σ w'.nx Q) :
    wpAny p.M p.A (callWith pos (.ref f) first (backTo pos (starEach es (p.env fd))) (backToKw pos (keywordEach kws (p.env fd)))) (p.Ans Q) no p.s:=by
  unfold callWith
  refine wpAny_bind (wpAny_holding (wpAny_mono (evl_args hr h p) (fun a s1 ⟨as,kv,J1,ρ1,σ1,n1,o1,E1,R1,x1,y1,h1⟩=>wpAny_bind (wpAny_standAt ?_)) fun _ _ x=>x))
  have hc:=H _ _ _ h1 F (p.to R1) (first ++ a.pos) a.kw ((hf.mono E1.grow).app x1) y1
  have hc':wpAny p.M p.A (call (.ref f) (first ++ a.pos) a.kw) (p.Ans Q) no s1:=by
    refine wpAny_call (codeAny_mono hc fun r s' z=>?_)
    rcases r with e | (v | _ | _ | _) <;> first | exact z.elim | exact Ans.ext E1 z
  obtain ⟨kp,hk',L⟩:=keeps_K (M:=p.M) hkeep s1.heap (R1.KX ok)
  refine wpAny_bind (L.here ?_)
  have tail:∀ {t:Sem Value},wpAny p.M p.A t (p.Ans Q) no s1 → wpAny p.M p.A (t >>= fun r=>holding [r] point >>= fun _=>pure r) (p.Ans Q) no s1:=
    fun ht=>wpAny_bind (wpAny_mono ht (fun r s₂ hr=>wpAny_bind (wpAny_holding (wpAny_point (wpAny_pure hr)))) fun _ _ x=>x)
  have marked (mk:Value):wpAny p.M p.A (callMarked mk (.ref f) (first ++ a.pos) a.kw) (p.Ans Q) no s1:=by unfold callMarked; exact Calls.wpAny_keep hc'
  generalize ((backTo pos (starEach es (p.env fd))).any (·.1) || (backToKw pos (keywordEach kws (p.env fd))).any (·.1.isNone)) = st
  rcases hk' with rfl | rfl | rfl <;> cases st <;> dsimp only <;> first | exact tail hc' | exact tail (marked _) | exact tail (wpAny_operate' hc') | (split <;> first | exact tail hc' | exact tail (marked _))
end
end Mine
namespace Mine
structure FnIs (K:Frag) (f:Addr) (nm:List (Nat × Bool)):Prop where
  at_:∃ oc od osl,K.lookup f = some ⟨oc,od,.func (fdAt K f),osl⟩
  ok:fnOk K (fdAt K f) = true
  nm:NmOk (fdAt K f) nm
  kp:keepIn K (.ref f) = true
  loc:okNs (namesOf (fdAt K f).params) = true∧locOk (fdAt K f).scope (namesOf (fdAt K f).params) = true
section
variable {X:Cx} {K:Frag} {d:Nat} {F:Frame} {σ:Store} {nx:Nat} {a b:AV} {v u:Value} {w:W} {k:KE} {fd:FuncData} {r:PySem.Expr → W → KE → Prop}
theorem stmtsOf_eq {b:FuncBody} {l:List Stmt} (e:stmtsOf b = some l):b = .stmts l:=by cases b <;> cases e; rfl
theorem fm_sub {α:Type} (sl:List (Str × α)):∀ names:List Str,((names.filterMap fun n=>(sl.lookup n).map fun v=>(n,v)).map (·.1)).Sublist names
  | []=>.slnil
  | n :: names=>by
    simp only [List.filterMap_cons]
    cases sl.lookup n with
    | none=>exact .cons _ (fm_sub sl names)
    | some v=>exact .cons_cons _ (fm_sub sl names)
theorem bindG_sub {names:List Str} {pos dflt:List AV} {kw b:List (Str × AV)} (e:bindG names pos kw dflt = some b):(b.map (·.1)).Sublist names:=by
  unfold bindG at e
  split at e
  · cases e
  split at e
  · cases e
  split at e
  · cases e
    exact fm_sub _ _
  · cases e
theorem fnOk_parts {K:Frag} {fd:FuncData} (h:fnOk K fd = true):simpleP fd.params = true∧codeIn K fd.code fd.qualname = true∧fd.scope.isCoroutine = false∧fd.scope.isGenerator = false∧∀ x ∈ fd.scope.names,x.2 ≠ .cell:=by
  unfold fnOk at h
  simp only [Bool.and_eq_true,Bool.not_eq_true'] at h
  exact ⟨h.1.1.1.1.1.1.1.1,h.1.1.1.1.1.1.1.2,h.1.1.1.1.1.2,h.1.1.1.1.2,fun x hx z=>by
    have:=List.all_eq_true.mp h.1.1.1.2 x hx
    rw [z] at this
    cases this⟩
theorem loc_of {sc:Scope} {ns:List Str} {x:Str} (h:locOk sc ns = true) (hx:x ∈ ns):sc.names.lookup x = some .local:=by
  have:=List.all_eq_true.mp h x hx
  revert this
  cases e:sc.names.lookup x with
  | none=>exact fun z=>nomatch z
  | some k=>cases k <;> first | exact fun _=>rfl | exact fun z=>nomatch z
theorem deep_d {a d n:Nat} (h:a + (d + 1) ≤ n):a + 1 + d ≤ n:=by omega
theorem deep_u {u d:Nat} (h:u + 9 * (d + 1) ≤ 9000):u + 3 + 9 * d ≤ 9000:=by omega
theorem okNs_sub:∀ {l m:List Str},l.Sublist m → okNs m = true → okNs l = true
  | _,_,.slnil,h=>h
  | _,_,.cons a s,h=>by
    simp only [okNs,Bool.and_eq_true] at h
    exact okNs_sub s h.2
  | _,_,.cons_cons a s,h=>by
    simp only [okNs,Bool.and_eq_true] at h ⊢
    exact ⟨⟨h.1.1,List.all_eq_true.mpr fun x hx=>List.all_eq_true.mp h.1.2 x (s.subset hx)⟩,okNs_sub s h.2⟩
/-- a def entered -/
theorem enter_def {R:Result → Shared → Prop} {f:Addr} {nm:List (Nat × Bool)} {body:List Stmt} {pos dflt:List AV} {kw b:List (Str × AV)} (ok:X.Ok K) (fi:FnIs K f nm) (hbody:stmtsOf (fdAt K f).body = some body)
    (hd:dfltIn K (fdAt K f).defaults = some dflt) (hb:bindG (namesOf (fdAt K f).params) pos kw dflt = some b) (p:At X (d + 1) F σ nx) {posV:List Value} {kwV:List (Str × Value)} (hp:p.VRs pos posV) (hk:KVR p.J nx p.ρ kw kwV)
    (h:∀ (p':At X d (frameOf b) σ nx) oL,p.s.heap.get? p.L.a = some oL → p'.A = p.A.deeper (p'.env (fdAt K f)) → p'.J = put p.J p.L.a (wt oL) → p'.ρ = p.ρ → p'.L.up = p.L.a :: p.L.up →
      wpAny p.M p'.A (execs body (p'.env (fdAt K f))) (fun fl s'=>R (.ok (.ret (match fl with | .ret v=>v | _=>.none))) s') (fun e s'=>wpAny p.M p'.A (leaving (p'.env (fdAt K f)) e) (fun _ s''=>R (.error e) s'') (fun e' s''=>R (.error e') s'') s') p'.s) :
    codeAny p.M p.A (.call (.ref f) ⟨posV,kwV⟩) R p.s:=by
  obtain ⟨o1,o2,o4,o5,o6⟩:=fnOk_parts fi.ok
  have KX:=p.R.KX ok
  obtain ⟨oc,od,osl,hf⟩:=fi.at_
  obtain ⟨dv,dA,dR⟩:=dflt_at (J:=p.J) (nx:=nx) (ρ:=p.ρ) KX hd
  obtain ⟨bV,hbV,hbR⟩:=bindG_rel hp hk dR hb
  obtain ⟨oL,hL⟩:=p.R.L_some
  have hsub:=bindG_sub hb
  have hn:okNs (b.map (·.1)) = true:=okNs_sub hsub fi.loc.1
  refine codeAny_call_def (Nat.lt_of_lt_of_le (Nat.lt_add_of_pos_right (Nat.succ_pos d)) p.hd) (KX _ _ hf) rfl (ok.lim.keeps p.R.keep) (codeRec_of KX o2) (stmtsOf_eq hbody) (binds_simple o1 dA hbV) o6 (fun x hx=>loc_of fi.loc.2 (hsub.subset (hbR.keys ▸ List.mem_map_of_mem hx))) (fun h₁ hns hk₁=>?_) o4 o5 fi.nm.kind
  exact h ⟨p.A.deeper (callEnv (fdAt K f) p.s.heap.objs.size f),_,p.ρ,_,f,_,p.hh.deeper (fi.nm.kind ▸ by decide) rfl,deep_d p.hd,deep_u p.hu,p.R.enter hL hns hk₁ (F':=frameOf b) (fun c av q=>
    let ⟨x,v,h1,h2,h3,h4⟩:=frame_binds hbR hn c av q
    ⟨x,v,h1,h2,lookup_rev_of_mem (hbR.keys ▸ okNs_nodup hn) h3,h4⟩) (p.s.toks + bV.length)⟩ oL hL rfl rfl rfl rfl
/-- what a body gives a caller -/
noncomputable abbrev retQ (Q:QE):QS:=fun fl _ σ' n'=>match fl with | .ret a=>Q a σ' n' | .next=>Q .none σ' n' | _=>False
theorem cl_def {Q:QE} {f:Addr} {nm:List (Nat × Bool)} {body:List Stmt} {pos dflt:List AV} {kw b:List (Str × AV)} (ok:X.Ok K) (fi:FnIs K f nm) (hbody:stmtsOf (fdAt K f).body = some body)
    (hd:dfltIn K (fdAt K f).defaults = some dflt) (hb:bindG (namesOf (fdAt K f).params) pos kw dflt = some b)
    (h:∀ p:At X d (frameOf b) σ nx,(∃ l,p.A.frames = some (p.env (fdAt K f) :: l)) → wpAny p.M p.A (execs body (p.env (fdAt K f))) (p.AnsS (retQ Q)) no p.s) :
    Cl X (d + 1) (.ref f) pos kw σ nx Q:=fun F p posV kwV hp hk=>
  enter_def ok fi hbody hd hb p hp hk fun p' oL hL hA hJ hρ hup=>wpAny_mono (h p' (hA ▸ ⟨_,Around.frames_deeper p.hh.2.choose_spec.1⟩)) (fun fl s'' hq=>by
    obtain ⟨φ,F'',J',ρ',σ',nx',E,R',hv,q⟩:=hq
    rw [hJ,hρ] at E
    obtain ⟨e1,e2,e3⟩:=p.R.leave hL E R'
    cases φ with
    | next=>cases fl <;> first | (exact hv.elim) | exact ⟨.none,_,ρ',σ',nx',e1,e2,.none,q⟩
    | brk=>exact q.elim
    | cont=>exact q.elim
    | ret a=>cases fl <;> first | (exact hv.elim) | exact ⟨a,_,ρ',σ',nx',e1,e2,e3 _ _ hv,q⟩) (fun _ _ z=>z.elim)
end
end Mine
namespace Mine
section
variable {X:Cx} {K:Frag} {d:Nat} {F:Frame} {σ:Store} {nx:Nat} {a b:AV} {v u:Value} {w:W} {k:KE} {C:Addr} {ci:ClsI}
theorem made_rel {J ρ L s} (R:Rel X J ρ L F σ nx s) (t:Nat):Rel X J (at_ ρ nx (s.heap.objs.size + 1)) L F ((nx,.inst C []) :: σ) (nx + 1) { s with heap:=(s.heap.push emptyDict).push (instObj C s.heap.objs.size),toks:=t }:=by
  have g1:((s.heap.push emptyDict).push (instObj C s.heap.objs.size)).get? (s.heap.objs.size + 1) = some (instObj C s.heap.objs.size):=by
    have:=Heap.get?_push_size (s.heap.push emptyDict) (o:=instObj C s.heap.objs.size) rfl
    rwa [Heap.size_push] at this
  have g2:((s.heap.push emptyDict).push (instObj C s.heap.objs.size)).get? s.heap.objs.size = some emptyDict:=Heap.get?_push_of_some _ (Heap.get?_push_size _ rfl)
  refine R.new (fun b ob e=>Heap.get?_push_of_some _ (Heap.get?_push_of_some _ e)) (.inst (C:=C) (at_:=[]) (m:=fun _=>none) g1 ⟨_,#[],0,g2,rfl,(fun e he=>by simp at he),(fun x=>rfl),Nat.le_refl _⟩ (Nat.ne_of_lt (Nat.lt_succ_self _)) (fun x _=>trivial)) (fun b hb=>?_) t
  rw [feet_of g1] at hb
  have over:∀ b,s.heap.objs.size ≤ b → s.heap.get? b = none:=fun b hb=>by
    cases e:s.heap.get? b with
    | none=>rfl
    | some o=>exact absurd (Heap.lt_size e) (Nat.not_lt.mpr hb)
  rcases List.mem_cons.mp hb with rfl | hb
  · exact over _ (Nat.le_succ _)
  · rcases List.mem_cons.mp hb with hb | hb
    · exact over _ (Nat.le_of_eq hb.symm)
    · cases hb
theorem make_ok {Q:QE} (ok:X.Ok K) (co:ClsOk K C ci) {f:Addr} (hi:ci.init = some f) {as:List AV} {kw:List (Str × AV)}
    (h:Cl X d (.ref f) (.loc nx :: as) kw ((nx,.inst C []) :: σ) (nx + 1) fun a σ' n'=>asN a = true∧Q (.loc nx) σ' n'):Cl X (d + 1) (.ref C) as kw σ nx Q:=fun F p posV kwV hp hk=>by
  obtain ⟨i1,i2,i3⟩:=co.init f hi
  have KX:=p.R.KX ok
  have R':=made_rel (C:=C) p.R p.s.toks
  have pd:=p.hd
  have pu:=p.hu
  have Y:=makes_of (M:=p.M) KX i1
  obtain ⟨A,J,ρ,L,fa,⟨hp0,g,dr,tk,os⟩,hh,hd,hu,R⟩:=p
  refine make_core Y (looks_findIn KX i2) (fun self=>bind_fn KX self i3) (.inl rfl) (codeAny_mono (h F ⟨A.under (.builtin "type.__call__" ⟨.ref C :: posV,kwV⟩),J,_,L,fa,_,hh,deep_d hd,less_u hu,R'⟩ (.ref (hp0.objs.size + 1) :: posV) kwV
    (.cons .new (hp.mono at_grow)) (hk.mono at_grow)) fun r s' z=>?_)
  rcases r with e | (v | _ | _ | _) <;> first | exact z.elim | skip
  obtain ⟨a,J',ρ',σ',n',E,R2,hv,ea,q⟩:=z
  exact ⟨asN_vr ea hv,.loc nx,J',ρ',σ',n',(at_ext (a:=hp0.objs.size + 1)).trans E,R2,VR.new.mono E.grow,q⟩
end
end Mine
namespace Mine
theorem base_plain {o:PySem.Expr} {attr:Str} {env:Env} {t:Sem Value} (h:baseOk o = true):attributeBase o attr env t = t:=by
  cases o <;> first | rfl | (cases h; done)
theorem cond_e {b c:Bool} (h:cond b c false = true):b = true∧c = true:=by cases b with
  | true=>exact ⟨rfl,h⟩
  | false=>cases h
theorem plain_all {es:List PySem.Expr} {env:Env} {pos:Pos} (h:plainAll es = true):(backTo pos (starEach es env)).all (!·.1) = true:=by
  induction es with
  | nil=>rfl
  | cons e es ih=>
    obtain ⟨h1,h2⟩:=cond_e h
    rw [starEach_plain h1]
    exact ih h2
theorem plain_form {n:Nat} {es:List PySem.Expr} {kws:List Keyword} {env:Env} {pos:Pos} (h1:plainAll es = true) (h2:kwOk kws = true) (h3:Nat.ble n 20 = true) :
    methodCallForm n (backTo pos (starEach es env)) (backToKw pos (keywordEach kws env)) = true:=by
  unfold methodCallForm
  rw [plain_all h1,(kw_names h2).1]
  have:=Nat.le_of_ble_eq_true h3
  simp only [Bool.true_and,decide_eq_true_eq]
  split <;> omega
section
variable {M:Model} {A:Around} {E:Value → Shared → Prop} {s:Shared} {env:Env}
theorem mcall {o:PySem.Expr} {x:Str} {apos pos:Pos} {args:List PySem.Expr} {kws:List Keyword} {Q:Value → Shared → Prop} (hm:mOk o args kws apos pos = true)
    (h:wpAny M A (eval o env) (fun ov s₁=>∀ pl,wpAny M A (getMethod ov x pl) (fun fx s₂=>wpAny M A (callWith pos fx.1 fx.2 (backTo pos (starEach args env)) (backToKw pos (keywordEach kws env))) Q E s₂) E s₁) E s) :
    wpAny M A (eval (.Call (.Attribute o x apos) args kws pos) env) Q E s:=by
  obtain ⟨h1,hm⟩:=cond_e hm
  obtain ⟨h2,hm⟩:=cond_e hm
  obtain ⟨h3,hm⟩:=cond_e hm
  obtain ⟨h4,hm⟩:=cond_e hm
  rw [arm_eval_Call,base_plain h1]
  refine wpAny_bind (wpAny_mono h (fun ov s₁ h₁=>wpAny_bind (wpAny_standAt ?_)) fun _ _ z=>z)
  unfold methodCall
  rw [plain_form h2 h3 h4]
  refine wpAny_bind (wpAny_holding (wpAny_mono (h₁ _) (fun fx s₂ h₂=>?_) fun _ _ z=>z))
  have e:methodCallPos true o env apos pos = pure pos:=by unfold methodCallPos; rw [Nat.eq_of_beq_eq_true hm]; simp
  dsimp only
  rw [e]
  exact wpAny_bind (wpAny_pure h₂)
theorem attrE {o:PySem.Expr} {x:Str} {pos:Pos} {prog:Program} {w:World} {Q:Value → Shared → Prop} (hb:baseOk o = true)
    (h:wpAny (model prog w) A (eval o env) (fun ov s₁=>wpAny (model prog w) A (getAttr ov x true) Q E s₁) E s):wpAny (model prog w) A (eval (.Attribute o x pos) env) Q E s:=
  Attribute_any_ h (by rw [arm_eval_Attribute,base_plain hb])
end
/-! the tables as a whole -/
noncomputable def meNm:Me → Str
  | .append=>"append"
  | .pop=>"pop"
  | .clear=>"clear"
  | .get=>"get"
  | .setdefault=>"setdefault"
  | .add=>"add"
  | .update=>"update"
  | .copy=>"copy"
  | .discard=>"discard"
  | .index=>"index"
  | .extend=>"extend"
structure TabOk (T:Tab):Prop where
  gfn:∀ x f,gt T.glob (cd x) = some (.fn f) → nsIn T.K mainGlobals x = some (some (.ref f))∧keepIn T.K (.ref f) = true
  gcl:∀ x f,gt T.glob (cd x) = some (.cls f) → nsIn T.K mainGlobals x = some (some (.ref f))∧keepIn T.K (.ref f) = true
  gva:∀ x a,gt T.glob (cd x) ≠ some (.val a)
  me:∀ x m,gt T.me (cd x) = some m → x = meNm m
  fns:∀ f nm,gt T.fns f = some nm → FnIs T.K f nm
  cls:∀ C ci,gt T.cls C = some ci → ClsOk T.K C ci
  cfn:∀ C ci x f,gt T.cls C = some ci → gt ci.at_ (cd x) = some (.fn f) → keepIn T.K (.ref f) = true
section
variable {X:Cx} {T:Tab} {d:Nat} {F:Frame} {σ:Store} {nx:Nat} {a b:AV} {v u:Value} {w:W} {k:KE} {fi:Fi} {r:Rec}
theorem glob_ok (ok:X.Ok T.K) (nm:NmOk fi.fd fi.nm) {x:Str} (p:At X d F σ nx) (e:gt fi.nm (cd x) = some false) (e2:nsIn T.K mainGlobals x = some (some v)) {ps:Pos} {P:Value → Shared → Prop} (h:P v p.s):wpAny p.M p.A (eval (.Name x ps) (p.env fi.fd)) P no p.s:=by
  obtain ⟨mg,hg⟩:=ok.glb
  have hg':=hg.keeps p.R.keep
  exact Name_function_global (env:=p.env fi.fd) nm.kind (nm.glb _ e) (loadGlobal_global (mg:=mg) (show p.s.heap.Ns fi.fd.globals mg from nm.gl ▸ hg') (mg_of (p.R.KX ok) hg' e2) h) (nm.ok _ _ e).2.1
theorem name_ok (ok:X.Ok T.K) (to:TabOk T) (nm:NmOk fi.fd fi.nm) {x:Str} {pos:Pos} (h:name T fi F x w k):Ev X d fi.fd F (fun env=>eval (.Name x pos) env) w.σ w.nx (qE k):=fun p=>
  onS_e h fun z e h=>onB_e h (fun ez h=>onS_e h fun a ha h=>by
    obtain ⟨m,v,h1,h2,h3⟩:=p.R.local ha
    exact wpAny_Name (wpAny_loadName_local (env:=p.env fi.fd) nm.kind (nm.loc _ (ez ▸ e)) h1 h2 (p.q h3 h)) (nm.ok _ _ e).2.1) fun ez h=>onS_e h fun C ec h=>glob_ok ok nm p (ez ▸ e) (to.gcl _ _ C.2).1 (p.q .stat h)
theorem Cl.mono {X:Cx} {d:Nat} {f:Value} {as:List AV} {kw:List (Str × AV)} {σ:Store} {nx:Nat} {Q Q':QE} (h:Cl X d f as kw σ nx Q) (q:∀ a σ' n',Q a σ' n' → Q' a σ' n'):Cl X d f as kw σ nx Q':=fun F p vs kvs hv hk=>
  codeAny_mono (h F p vs kvs hv hk) fun r s' z=>by
    rcases r with e | (v | _ | _ | _) <;> first | exact z | skip
    obtain ⟨a,J',ρ',σ',n',E,R,x,z⟩:=z
    exact ⟨a,J',ρ',σ',n',E,R,x,q _ _ _ z⟩
noncomputable abbrev ClR (X:Cx) (d:Nat) (r:Rec):Prop:=∀ f as kw w k,r.cl f as kw w k → Cl X d (.ref f) as kw w.σ w.nx (qE k)
theorem inst_e {n:Nat} {kk:Nat → List (Nat × AV) → ClsI → Prop} {G:Prop} {J ρ L s} (to:TabOk T) (R:Rel X J ρ L F σ nx s) (h:inst T n σ kk) (g:∀ C as ci,gt σ n = some (.inst C as) → gt T.cls C = some ci → ClsOk T.K C ci → kk C as ci → G):G:=
  onS_e h fun p ep h=>onS_e h fun ci hci h=>g p.1 p.2 ci (onO_of (R.ow n).i ep :) hci (to.cls _ _ hci) h
theorem attr_ok (ok:X.Ok T.K) (to:TabOk T) (hc:ClR X d r) {x:Str} (h:attr T r x a w k):Op1 X (d + 1) (fun v=>getAttr v x true) a w.σ w.nx (qE k):=fun F p v hv=>
  onO_e h (fun n en h=>loc_vr en hv ▸ inst_e to p.R h fun C as ci e hci co h=>
    onO_e h (fun f ef h=>attr_prop ok co e f.2 p (Cl.mono (hc _ _ _ _ _ (loc_eq en ▸ h)) fun a' σ' n' ⟨o',z⟩=>onT_e z fun hh z=>⟨hh,o',z⟩)) fun _ h=>
    onS_e h fun er _ h=>onS_e h fun v ea h=>onT_e h fun hh h=>attr_own ok co e er.down ea hh p ⟨_,h⟩) fun _ h=>
  onS_e h fun C ec h=>onS_e h fun ci hci h=>onS_e h fun av er h=>(show v = .ref C from (onO_of hv.vw.sr ec :)) ▸ attr_cls ok (to.cls _ _ hci) av.2 p ⟨_,h⟩
end
end Mine
namespace Mine
theorem sub_false {slice:PySem.Expr} (h:notSlice slice = true) (o i:Value):subscripted slice false o i = operate [o,i] (getItem o i):=by cases slice <;> first | rfl | (cases h; done)
theorem sub_true {slice:PySem.Expr} (h:notSlice slice = true) (o i:Value):subscripted slice true o i = runValue (.builtin "lifetime.subscript" ⟨[o,i],[]⟩):=by cases slice <;> first | rfl | (cases h; done)
theorem VRs.get {J nx ρ} {l:List AV} {vs:List Value} (h:VRs J nx ρ l vs):∀ {j:Nat} {a:AV},l[j]? = some a → ∃ v,vs[j]? = some v∧VR J nx ρ a v:=fun {j a} e=>
  have hj:=(List.getElem?_eq_some_iff.mp e).1
  have hj':j < vs.length:=h.length ▸ hj
  let ⟨b,e2,x⟩:=h.at hj'
  ⟨_,List.getElem?_eq_getElem hj',Option.some.inj (e2.symm.trans e) ▸ x⟩
theorem Soft.vr {J nx ρ} {a b:AV} (s:Soft a b) {v:Value} (h:VR J nx ρ a v):VR J nx ρ b v:=by
  cases s with
  | refl=>exact h
  | int=>obtain ⟨_,rfl⟩:=asI_vr rfl h; exact .si
  | str=>obtain ⟨_,rfl⟩:=asS_vr rfl h; exact .ss
noncomputable def nrm (i:Int) (n:Nat):Int:=if i < 0 then i + (n:Int) else i
theorem ix_idx {l:List AV} {i:Int} {a:AV} (e:ix l i = some a):l[(nrm i l.length).toNat]? = some a∧0 ≤ nrm i l.length∧nrm i l.length < (l.length:Int)∧-(l.length:Int) ≤ i∧i < (l.length:Int):=by
  unfold nrm
  cases i with
  | ofNat n=>
    have e:l[n]? = some a:=e
    have hn:=Int.ofNat_lt.mpr (List.getElem?_eq_some_iff.mp e).1
    have h0:=Int.natCast_nonneg n
    rw [if_neg (show ¬ (Int.ofNat n < 0) from Int.not_lt.mpr h0)]
    exact ⟨e,h0,hn,Int.le_trans (Int.neg_nonpos_of_nonneg (Int.natCast_nonneg _)) h0,hn⟩
  | negSucc n=>
    have e:(if n < l.length then l[l.length - (n + 1)]? else none) = some a:=e
    by_cases hn:n < l.length
    · rw [if_pos hn] at e
      rw [if_pos (Int.negSucc_lt_zero n)]
      have h2:(Int.negSucc n + (l.length:Int)).toNat = l.length - (n + 1):=by omega
      exact ⟨h2 ▸ e,by omega,by omega,by omega,by omega⟩
    · rw [if_neg hn] at e; cases e
theorem seq_nrm {i:Int} {n:Nat} (h1:0 ≤ nrm i n) (h2:nrm i n < (n:Int)):seqIndex? i n = some (nrm i n).toNat:=if_pos (Bool.and_eq_true_iff.mpr ⟨decide_eq_true h1,decide_eq_true h2⟩)
section
variable {X:Cx} {T:Tab} {d:Nat} {F:Frame} {σ:Store} {nx:Nat} {a b:AV} {v u:Value} {w:W} {k:KE} {fi:Fi} {r:Rec}
/-- what an item's place says of the list's items -/
structure ItP {J:Frozen} {nx:Nat} {ρ:Nat → Addr} (n:Nat) (vs:Array Value) (i:Int) (w:W) (k:KE) (a:AV) (v:Value) (o:List Hint):Prop where
  k:k a ⟨o,w.σ,w.nx⟩
  x:VR J nx ρ a v
  e:vs[(nrm i vs.size).toNat]? = some v
  h0:0 ≤ nrm i vs.size
  h1:nrm i vs.size < (vs.size:Int)
  h2:-(2 ^ 62) ≤ i
  h3:i < 2 ^ 62
  h4:-(vs.size:Int) ≤ i
theorem item_ok {t:Bool} {l:List AV} {i:Int} {J:Frozen} {nx:Nat} {ρ:Nat → Addr} {vs:Array Value} (h:item t l i w k) (hv:VRs J nx ρ l vs.toList):∃ a v o,ItP (J:=J) (nx:=nx) (ρ:=ρ) l.length vs i w k a v o:=by
  have go:∀ {a a0:AV} {o:List Hint},k a ⟨o,w.σ,w.nx⟩ → ix l i = some a0 → Soft a0 a → l.length < 2 ^ 62 → ∃ a v o,ItP (J:=J) (nx:=nx) (ρ:=ρ) l.length vs i w k a v o:=fun {a a0 o} q e hs hl=>by
    obtain ⟨e1,e2,e3,e4,e5⟩:=ix_idx e
    obtain ⟨v,hv1,hv2⟩:=hv.get e1
    rw [← len_ofL hv] at hv1 e2 e3 e4 e5 hl
    exact ⟨a,v,o,q,hs.vr hv2,by rw [← Array.getElem?_toList]; exact hv1,e2,e3,by omega,by omega,e4⟩
  exact onB_e h (fun _ h=>hAv_e h fun c o h=>let ⟨⟨h1,a0,h2,h3⟩,h4⟩:=h; go h4 h2 h3 h1) fun _ h=>onT_e h fun hl h=>onS_e h fun a e h=>go (o:=w.o) h e (.refl a) (Nat.lt_of_le_of_lt (Nat.le_of_ble_eq_true hl) (by decide))
theorem list_item {value slice:PySem.Expr} (hs:notSlice slice = true) (p:At X d F w.σ w.nx) {t:Bool} {l:List AV} {i:Int} {tk:Tok} (h:item t l i w k) {ad:Addr} (hl:LsAt p.s.heap p.J w.nx p.ρ ad l):wpAny p.M p.A (subscriptTail value slice (.ref ad) (.int i tk)) (p.Ans (qE k)) no p.s:=by
  obtain ⟨vs,L,hv⟩:=hl.is
  obtain ⟨a,v,o,I⟩:=item_ok h hv
  refine tail_any L.typeIs slot_list_getitem.lookup ?_ (sub_false hs _ _)
  have e:=I.e
  have h0:=I.h0
  unfold nrm at e h0
  by_cases hi:i < 0
  · rw [if_pos hi] at e
    exact wpAny_getItem_list_neg L hi I.h4 (Int.le_trans (by decide) I.h2) e (p.q I.x I.k)
  · rw [if_neg hi] at e
    exact wpAny_getItem_list L (Int.not_lt.mp hi) (Int.lt_trans I.h3 (by decide)) e (p.q I.x I.k)
theorem tup_item {value slice:PySem.Expr} (hs:notSlice slice = true) (p:At X d F w.σ w.nx) {t:Bool} {l:List AV} {i:Int} {tk:Tok} (h:item t l i w k) {ad:Addr} (hl:TpAt p.J w.nx p.ρ ad l):wpAny p.M p.A (subscriptTail value slice (.ref ad) (.int i tk)) (p.Ans (qE k)) no p.s:=by
  obtain ⟨vs,ep,g,hv⟩:=hl
  obtain ⟨a,v,o,I⟩:=item_ok h hv
  have L:IsTup p.s.heap ad vs:=⟨_,p.R.jx g,rfl,_,rfl⟩
  exact tail_any L.typeIs slot_tuple_getitem.lookup (getItem_tuple L (Int.le_trans (by decide) I.h2) (Int.lt_trans I.h3 (by decide)) (seq_nrm I.h0 I.h1) I.e (p.q I.x I.k)) (sub_false hs _ _)
theorem dict_item (ok:X.Ok T.K) {value slice:PySem.Expr} (hs:notSlice slice = true) (p:At X d F w.σ w.nx) {n:Nat} {kv:List (Str × AV)} {x:Str} {tk:Tok} (e:oDict (gt w.σ n) = some kv) (hx:Nat.beq (cd x) 0 = false) (hl:lkS kv (cd x) = some a) (h:k a w) :
    wpAny p.M p.A (subscriptTail value slice (.ref (p.ρ n)) (.str x tk)) (p.Ans (qE k)) no p.s:=by
  obtain ⟨_,vs,h1,h2⟩:=(onO_of (p.R.ow n).d e :)
  obtain ⟨v,h3,h4⟩:=lkS_some (nz hx) h2 hl
  exact tail_any h1.typeIs slot_dict_getitem.lookup (wpAny_getItem_of (is_str x tk) h1.mapOf h3 (p.qT h4 h)) (sub_false hs _ _)
theorem fnIn_at {K:Frag} {f:Nat} (h:fnIn K f = true):∃ oc od fdd osl,K.lookup f = some ⟨oc,od,.func fdd,osl⟩:=by
  unfold fnIn at h
  split at h
  · rename_i e; exact ⟨_,_,_,_,e⟩
  · cases h
theorem inst_item {K:Frag} {C:Addr} {ci:ClsI} {as:List (Nat × AV)} (ok:X.Ok K) (co:ClsOk K C ci) {value slice:PySem.Expr} (hs:notSlice slice = true) (p:At X (d + 1) F σ nx) {n:Nat} {f:Addr} (e:gt σ n = some (.inst C as)) (ef:gt ci.at_ 128 = some (.fn f))
    (hv:p.VR b v) {Q:QE} (h:Cl X d (.ref f) [.loc n,b] [] σ nx Q):wpAny p.M p.A (subscriptTail value slice (.ref (p.ρ n)) v) (p.Ans Q) no p.s:=by
  obtain ⟨dx,m,o,I⟩:=inst_of p.R e
  obtain ⟨e1,e2,e3⟩:=co.item _ ef
  have KX:=p.R.KX ok
  obtain ⟨oc,od,fdd,osl,hf⟩:=fnIn_at e3
  unfold subscriptTail getitemInPython
  refine wpAny_bind (wpAny_bind (wpAny_bind (I.i.type.here ((looks_findIn KX e1).here (wpAny_bind (wpAny_load (KX _ _ hf) (wpAny_pure ?_)))))))
  dsimp only
  rw [sub_true hs]
  refine wpAny_bind (wpAny_runValue (codeAny_builtin entry_sub ?_))
  unfold Builtin.«lifetime.subscript»
  have hq:=h F ⟨p.A.under (.builtin "lifetime.subscript" ⟨[.ref (p.ρ n),v],[]⟩),p.J,p.ρ,p.L,p.f,_,p.hh,Nat.le_of_succ_le p.hd,less_u p.hu,p.R⟩ [.ref (p.ρ n),v] [] (.cons (.loc (p.R.st _ _ e).1) (.cons hv .nil)) .nil
  refine wpAny_bind (special_fn KX I.i e1 e2 (wpAny_call (codeAny_mono hq fun r s' z=>?_)))
  rcases r with e | (v' | _ | _ | _) <;> first | exact z.elim | skip
  refine wpAny_pure ?_
  show wpAny p.M p.A (letTemporaryGo value (.ref (p.ρ n)) _ >>= fun _=>pure _) (p.Ans Q) no s'
  exact wpAny_bind (wpAny_letTemporaryGo (wpAny_pure z))
theorem getit_ok (ok:X.Ok T.K) (to:TabOk T) (hc:ClR X d r) {value slice:PySem.Expr} (hs:notSlice slice = true) (h:getit T r a b w k):Op2 X (d + 1) (fun v u=>subscriptTail value slice v u) a b w.σ w.nx (qE k):=fun F p v u hv hu=>by
  refine onO_e h (fun l ea h=>onS_e h fun q eb h=>?_) fun _ h=>onO_e h (fun l ea h=>onS_e h fun q eb h=>?_) fun _ h=>onS_e h fun n en h=>?_
  · obtain ⟨_,rfl⟩:=asI_vr eb hu
    obtain ⟨_,rfl,g⟩:=asT_vr ea hv
    exact tup_item hs p h g
  · obtain ⟨_,rfl⟩:=asI_vr eb hu
    obtain ⟨_,rfl,g⟩:=asL_vr p.R ea hv
    exact list_item hs p h g
  · refine loc_vr en hv ▸ onO_e h (fun kv ek h=>onS_e h fun q eq h=>onB_e h (fun _ h=>Stop.no h) fun hx h=>onS_e h fun a ea h=>?_) fun _ h=>inst_e to p.R h fun C as ci e hci co h=>onS_e h fun f ef h=>inst_item ok co hs p e f.2 hu (hc _ _ _ _ _ (loc_eq en ▸ h))
    obtain ⟨_,rfl⟩:=asS_vr eq hu
    exact dict_item ok hs p ek hx ea h
end
end Mine
namespace Mine
theorem VRs.take {J nx ρ} {l:List AV} {vs:List Value} (h:VRs J nx ρ l vs) (n:Nat):VRs J nx ρ (l.take n) (vs.take n):=by
  induction l generalizing vs n with
  | nil=>cases h; rw [List.take_nil,List.take_nil]; exact .nil
  | cons a l ih=>cases h with
    | cons h hs=>cases n with
      | zero=>exact .nil
      | succ n=>exact .cons h (ih hs n)
theorem VRs.drop {J nx ρ} {l:List AV} {vs:List Value} (h:VRs J nx ρ l vs) (n:Nat):VRs J nx ρ (l.drop n) (vs.drop n):=by
  induction l generalizing vs n with
  | nil=>cases h; rw [List.drop_nil,List.drop_nil]; exact .nil
  | cons a l ih=>cases h with
    | cons h hs=>cases n with
      | zero=>exact .cons h hs
      | succ n=>exact ih hs n
noncomputable def cutN {α:Type} (l:List α) (a b:Option Int):List α:=
  let i:=match a with | none=>0 | some a=>clampI l.length a
  let j:=match b with | none=>l.length | some b=>clampI l.length b
  (l.take j).drop i
theorem clip_eq (n:Nat) (i:Int):max 0 (min (if i < 0 then i + (n:Int) else i) (n:Int)) = ((clampI n i:Nat):Int):=by
  cases i with
  | ofNat k=>
    rw [if_neg (show ¬ (Int.ofNat k < 0) from Int.not_lt.mpr (Int.natCast_nonneg k))]
    show max 0 (min (k:Int) n) = ((if k < n then k else n:Nat):Int)
    by_cases h:k < n
    · rw [if_pos h,Int.min_eq_left (Int.ofNat_le.mpr (Nat.le_of_lt h))]; exact Int.max_eq_right (Int.natCast_nonneg k)
    · rw [if_neg h,Int.min_eq_right (Int.ofNat_le.mpr (Nat.le_of_not_lt h))]; exact Int.max_eq_right (Int.natCast_nonneg n)
  | negSucc k=>
    rw [if_pos (Int.negSucc_lt_zero k)]
    show max 0 (min (Int.negSucc k + (n:Int)) n) = ((n - (k + 1):Nat):Int)
    have e:Int.negSucc k + (n:Int) = (n:Int) - ((k + 1:Nat):Int):=Int.add_comm _ _
    rw [e,Int.min_eq_left (Int.sub_le_self _ (Int.natCast_nonneg _))]
    rcases Nat.le_total (k + 1) n with h | h
    · rw [← Int.ofNat_sub h]; exact Int.max_eq_right (Int.natCast_nonneg _)
    · rw [Nat.sub_eq_zero_of_le h]; exact Int.max_eq_left (Int.sub_nonpos_of_le (Int.ofNat_le.mpr h))
theorem bounds_eq (n:Nat) (lo hi:Option Int):sliceBounds lo hi none n = (((match lo with | none=>0 | some a=>clampI n a:Nat):Int),((match hi with | none=>n | some b=>clampI n b:Nat):Int),1):=by
  cases lo <;> cases hi <;> simp only [sliceBounds,Option.getD_none,show (1:Int) > 0 by decide,if_true,clip_eq] <;> rfl
theorem slicePick_cut (items:Array Value) (lo hi:Option Int):slicePick items lo hi none = (cutN items.toList lo hi).toArray:=by
  unfold slicePick
  rw [bounds_eq]
  simp only [sliceRange_one,pick_run]
  unfold cutN
  simp only [Array.length_toList]
  rw [List.drop_take]
section
variable {X:Cx} {T:Tab} {d:Nat} {F:Frame} {σ:Store} {nx:Nat} {a b c:AV} {v u t:Value} {w:W} {k:KE} {fi:Fi} {r:Rec}
theorem VRs.cut {J ρ} {l:List AV} {vs:List Value} (h:VRs J nx ρ l vs) (lo hi:Option Int):VRs J nx ρ (Mine.cut l lo hi) (cutN vs lo hi):=by
  unfold Mine.cut cutN
  rw [h.length]
  exact (h.take _).drop _
/-- the slice of a list,once its bounds are read -/
theorem slice_new {value:PySem.Expr} {lower upper:Option PySem.Expr} {ps:Pos} {z:Bool} {lo hi:Option Int} (p:At X d F w.σ w.nx) {s₀:Addr} {vl vu:Value} {l:List AV} {ad:Addr} (hl:LsAt p.s.heap p.J w.nx p.ρ ad l) (pl:IsPart vl lo) (pu:IsPart vu hi)
    (hsl:p.s.heap.IsSliceOf s₀ vl vu .none) (hsz:l.length ≤ sizeLine) (h:w.new (mkLO z (Mine.cut l lo hi)) k) :
    wpAny p.M p.A (subscriptTail value (.Slice lower upper none ps) (.ref ad) (.ref s₀)) (p.Ans (qE k)) no p.s:=by
  obtain ⟨vs,L,hr⟩:=hl.is
  have hsz:vs.size ≤ sizeLine:=(len_ofL hr).symm ▸ hsz
  refine tail_any (ops:=[.ref s₀,.ref ad]) L.typeIs slot_list_getitem.lookup (wpAny_getItem_list_slice L hsl pl pu .none (by simp) ?_ hsz) rfl
  rw [slicePick_cut]
  exact new_list p (hr.cut lo hi) h
end
end Mine
namespace Mine
section
variable {X:Cx} {K:Frag} {T:Tab} {d:Nat} {F:Frame} {σ:Store} {nx:Nat} {a b c:AV} {v u t:Value} {w:W} {k:KE} {fi:Fi} {r:Rec} {n:Nat} {o o':AObj}
/-- an object without a table of its own is changed in place -/
theorem At.set (p:At X d F w.σ w.nx) (e:gt w.σ n = some o) {ob:Obj} (hg:p.s.heap.get? (p.ρ n) = some ob) (hd:ob.dict = none) {h':Heap} {ob':Obj} (hs:Heap.SameBut (p.ρ n) p.s.heap h') (hg':h'.get? (p.ρ n) = some ob') (hd':ob'.dict = none)
    (x:OR X h' p.J w.nx p.ρ (p.ρ n) o') (tk:Nat) {v:Value} (hv:p.VR a v) (q:k a (w.put n o')):p.Ans (qE k) v { p.s with heap:=h',toks:=tk }:=by
  have f1:feet p.s.heap (p.ρ n) = [p.ρ n]:=by rw [feet_of hg,hd]; rfl
  have f2:feet h' (p.ρ n) = [p.ρ n]:=by rw [feet_of hg',hd']; rfl
  exact ⟨a,p.J,p.ρ,_,_,.refl,p.R.upd e (fun b ob hb e'=>(hs.2 b fun z=>hb (by rw [f1,z]; exact .head _)).trans e') x (f2.trans f1.symm) tk,hv,w.o,q⟩
theorem m_append {p0:Bool × List AV} (p:At X d F w.σ w.nx) (e:oL (gt w.σ n) = some p0) (hv:p.VR a v) (h:szP p0.1 p0.2 (p0.2.length ≤ sizeLine) (k .none (w.put n (mkLO p0.1 (p0.2 ++ [a]))))) :
    wpAny p.M p.A (call (.builtin "list.append") [.ref (p.ρ n),v]) (p.Ans (qE k)) no p.s:=by
  obtain ⟨hsz,h⟩:=szP_ok (fun z=>Nat.le_trans z size_big) h
  obtain ⟨e,vs,ep,g,hr⟩:=(onO_of (p.R.ow n).l e :)
  exact append_at g (fun h' hs hg'=>p.set e g rfl hs hg' rfl (mkLO_or hg' (by rw [Array.toList_push]; exact hr.app (.cons hv .nil))) _ .none h) (by rw [len_ofL hr]; exact hsz)
theorem m_clear {l:List AV} (p:At X d F w.σ w.nx) (e:oList (gt w.σ n) = some l) (h:szP false l (l.length ≤ sizeLine) (k .none (w.put n (.list [])))) :
    wpAny p.M p.A (call (.builtin "list.clear") [.ref (p.ρ n)]) (p.Ans (qE k)) no p.s:=by
  obtain ⟨hsz,h⟩:=szP_ok (fun z=>Nat.le_trans z size_big) h
  obtain ⟨e,vs,ep,g,hr⟩:=(onO_of (p.R.ow n).l0 e :)
  have hg':=Heap.get?_update_self (Obj.mapSeq fun _=>#[]) g rfl
  exact call_meets PySem.F.slot_list_clear ⟨_,g,rfl⟩ PySem.F.entry_list_clear (PySem.F.args_list_clear_1 _) (AutoSeq1.list_clear_list_0 (p.ρ n) vs ep (by rw [len_ofL hr]; exact hsz)) ⟨g,p.set e g rfl (Heap.SameBut.update ..) hg' rfl (.list hg' .nil) _ .none h⟩
theorem m_get (ok:X.Ok K) {kv:List (Str × AV)} {x:Str} {tk:Tok} (p:At X d F w.σ w.nx) (e:oDict (gt w.σ n) = some kv) (hx:Nat.beq (cd x) 0 = false) (hu:p.VR b u)
    (h:onO (lkS kv (cd x)) (fun a=>k a w) (k b w)):wpAny p.M p.A (call (.builtin "dict.get") [.ref (p.ρ n),.str x tk,u]) (p.Ans (qE k)) no p.s:=by
  obtain ⟨e,vs,h1,h2⟩:=(onO_of (p.R.ow n).d e :)
  refine call_meetsIn PySem.F.slot_dict_get h1.typeIs PySem.F.entry_dict_get (PySem.F.args_dict_get_3 _ _ _) (meets_dict_get_default (strKind X.prog X.w) (p.ρ n) (is_str x tk) (not_sys ok p e) u) ⟨_,h1.mapOf,?_⟩
  show p.Ans (qE k) _ _
  have hl:=lkS_val (nz hx) h2
  exact onO_e h (fun a q h=>by rw [q] at hl; obtain ⟨v,h3,h4⟩:=hl; rw [h3]; exact p.qT h4 h) fun q h=>by rw [q] at hl; rw [show valueAt vs x = none from hl]; exact p.qT hu h
theorem is_int (i:Int) (t:Tok):(intKind X.prog X.w).is i (.int i t) = true:=by show Value.isInt i (.int i t) = true; simp [Value.isInt]
theorem m_epop (ok:X.Ok K) {i:Int} {tk:Tok} (p:At X d F w.σ w.nx) (e:isED (gt w.σ n) = true) (hu:p.VR b u) (h:k b w):wpAny p.M p.A (call (.builtin "dict.pop") [.ref (p.ρ n),.int i tk,u]) (p.Ans (qE k)) no p.s:=by
  obtain ⟨e,h1,h2⟩:=(onB_of (p.R.ow n).e e :)
  exact call_meetsIn PySem.F.slot_dict_pop h2.typeIs PySem.F.entry_dict_pop (PySem.F.args_dict_pop_3 _ _ _) (meets_dict_pop_default (intKind X.prog X.w) (p.ρ n) (k:=i) (is_int i tk) (not_sys ok p e) rfl u) ⟨_,h2,rfl,p.qT hu h⟩
theorem m_add {l:List Str} {x:Str} {tk:Tok} (p:At X d F w.σ w.nx) (e:oSet (gt w.σ n) = some l) (hc:l.contains x = false) (hsz:Nat.ble l.length 1000 = true) (h:k .none (w.put n (.set (l ++ [x])))) :
    wpAny p.M p.A (call (.builtin "set.add") [.ref (p.ρ n),.str x tk]) (p.Ans (qE k)) no p.s:=by
  obtain ⟨e,h1⟩:=(onO_of (p.R.ow n).s e :)
  obtain ⟨ob,_,_,_,g,hd,_⟩:=id h1
  refine call_set_add (is_str x tk) rfl h1 (Nat.lt_of_lt_of_le (Nat.succ_lt_succ (Nat.lt_succ_of_le (Nat.le_of_ble_eq_true hsz))) (show 1002 ≤ 4096 by decide)) (fun h' hs h2=>?_)
  obtain ⟨ob',_,_,_,g',hd',_⟩:=id h2
  refine p.set e g hd.2.1 hs g' hd'.2.1 (.set ?_) _ .none h
  have q:(fun y=>l.contains y || decide (y = x)) = fun y=>(l ++ [x]).contains y:=by funext y; simp
  rw [q,if_neg (by rw [hc]; decide)] at h2
  rw [List.length_append]
  exact h2
end
end Mine
namespace Mine
section
variable {X:Cx} {K:Frag} {T:Tab} {d:Nat} {F:Frame} {σ:Store} {nx:Nat} {a b c:AV} {v u t:Value} {w:W} {k:KE} {fi:Fi} {r:Rec} {n:Nat} {o o':AObj}
theorem At.grow (p:At X d F w.σ w.nx) {h':Heap} (kk:∀ b ob,p.s.heap.get? b = some ob → h'.get? b = some ob) (tk:Nat) {o:List Hint} (hv:p.VR a v) (q:k a ⟨o,w.σ,w.nx⟩):p.Ans (qE k) v { p.s with heap:=h',toks:=tk }:=
  ⟨a,p.J,p.ρ,_,_,.refl,p.R.grown kk tk,hv,o,q⟩
theorem b_max {z:Bool} {i j:Int} {t u:Tok} (p:At X d F w.σ w.nx) (h:k (mkI z (if i < j then j else i)) w):wpAny p.M p.A (call (.builtin "max") [.int i t,.int j u]) (p.Ans (qE k)) no p.s:=
  max_two_ints p.hh.1 fun h' tk hk=>p.grow hk tk (if q:i < j then by rw [if_pos q,if_pos (show j > i from q)]; exact mkI_vr else by rw [if_neg q,if_neg (show ¬ j > i from q)]; exact mkI_vr) h
theorem b_min {z:Bool} {i j:Int} {t u:Tok} (p:At X d F w.σ w.nx) (h:k (mkI z (if j < i then j else i)) w):wpAny p.M p.A (call (.builtin "min") [.int i t,.int j u]) (p.Ans (qE k)) no p.s:=
  min_two_ints p.hh.1 fun h' tk hk=>p.grow hk tk (if q:j < i then by rw [if_pos q,if_pos q]; exact mkI_vr else by rw [if_neg q,if_neg q]; exact mkI_vr) h
theorem b_len_list {z:Bool} {l:List AV} {ad:Addr} (p:At X d F w.σ w.nx) (g:LsAt p.s.heap p.J w.nx p.ρ ad l) (hsz:l.length < 2 ^ 62) (h:k (mkI z (len l)) w) :
    wpAny p.M p.A (call (.builtin "len") [.ref ad]) (p.Ans (qE k)) no p.s:=by
  obtain ⟨vs,L,hr⟩:=g.is
  have e:=len_ofL hr
  refine call_len_list L (by omega) ?_
  rw [e]
  exact p.qT mkI_vr h
theorem b_len_tup {z:Bool} {l:List AV} {ad:Addr} (p:At X d F w.σ w.nx) (g:TpAt p.J w.nx p.ρ ad l) (hsz:l.length < 2 ^ 62) (h:k (mkI z (len l)) w) :
    wpAny p.M p.A (call (.builtin "len") [.ref ad]) (p.Ans (qE k)) no p.s:=by
  obtain ⟨vs,L,hr⟩:=g.is p.R
  have e:=len_ofL hr
  refine PyProof.Rows.len_tuple L (by omega) ?_
  rw [e]
  exact p.qT mkI_vr h
theorem b_set0 (p:At X d F w.σ w.nx) (h:w.new (.set []) k):wpAny p.M p.A (call (.type "set") []) (p.Ans (qE k)) no p.s:=by
  refine call_set_0 fun led=>?_
  have g:(p.s.heap.push { cls:=.type "set",dict:=none,data:=.set #[] 0 (.fresh 0 0 led) }).get? p.s.heap.objs.size = some { cls:=.type "set",dict:=none,data:=.set #[] 0 (.fresh 0 0 led) }:=Heap.get?_push_size _ rfl
  refine ⟨.loc w.nx,p.J,_,_,_,at_ext,p.R.new (fun b ob e=>Heap.get?_push_of_some _ e) (.set ⟨_,_,_,_,g,⟨rfl,rfl,rfl⟩,rfl,(fun e he=>by simp at he),(fun k=>by simp),by decide,rfl,rfl⟩) (feet_new g (fresh_none _)) p.s.toks,.new,w.o,h⟩
end
end Mine
namespace Mine
section
variable {X:Cx} {K:Frag} {T:Tab} {d:Nat} {F:Frame} {σ:Store} {nx:Nat} {a b c:AV} {v u t:Value} {w:W} {k:KE} {fi:Fi} {r:Rec} {n:Nat} {o o':AObj}
theorem stored_eq {y:Str} {u v:Value} {vs:List (Str × Value)} (hn:y ∉ vs.map (·.1)):stored ((y,u) :: vs) y v = (y,v) :: vs:=by
  unfold stored
  rw [if_pos (by rw [List.any_cons,decide_eq_true rfl]; rfl),List.map_cons,if_pos rfl]
  refine congrArg ((y,v) :: ·) ?_
  refine (List.map_congr_left fun p hp=>?_).trans (List.map_id vs)
  exact if_neg fun (e:p.1 = y)=>hn (e ▸ List.mem_map_of_mem hp)
theorem stored_ne {x y:Str} {u v:Value} {vs:List (Str × Value)} (h:y ≠ x):stored ((y,u) :: vs) x v = (y,u) :: stored vs x v:=by
  unfold stored
  rw [List.any_cons,decide_eq_false h,Bool.false_or,List.map_cons,if_neg h]
  cases vs.any (fun kv=>decide (kv.1 = x)) <;> rfl
theorem KVR.sto {J ρ} {x:Str} (hx:cd x ≠ 0) {a:AV} {v:Value} (hv:VR J nx ρ a v) {kv:List (Str × AV)} {vs:List (Str × Value)} (h:KVR J nx ρ kv vs) (hn:(vs.map (·.1)).Nodup):KVR J nx ρ (ptS kv x a) (stored vs x v):=by
  induction h with
  | nil=>exact .cons hv .nil
  | @cons y b u l vs h hs ih=>
    obtain ⟨h1,h2⟩:=List.nodup_cons.mp hn
    show KVR J nx ρ (cond (Nat.beq (cd y) (cd x)) ((y,a) :: l) ((y,b) :: ptS l x a)) _
    rw [beq_dec]
    by_cases q:cd y = cd x
    · rw [decide_eq_true q]
      obtain rfl:=cd_inj q (q ▸ hx)
      rw [stored_eq h1]
      exact .cons hv hs
    · rw [decide_eq_false q,stored_ne (cd_ne q)]
      exact .cons h (ih h2)
/-- an object without a table of its own is changed in place -/
theorem At.setU (p:At X d F w.σ w.nx) (e:gt w.σ n = some o) {ob:Obj} (hg:p.s.heap.get? (p.ρ n) = some ob) (hd:ob.dict = none) {h':Heap} {ob':Obj} (hs:Heap.SameBut (p.ρ n) p.s.heap h') (hg':h'.get? (p.ρ n) = some ob') (hd':ob'.dict = none)
    (x:OR X h' p.J w.nx p.ρ (p.ρ n) o') (tk:Nat) {k:KU} (q:k (w.put n o')):p.AnsU (qU k) () { p.s with heap:=h',toks:=tk }:=
  have f1:feet p.s.heap (p.ρ n) = [p.ρ n]:=by rw [feet_of hg,hd]; rfl
  have f2:feet h' (p.ρ n) = [p.ρ n]:=by rw [feet_of hg',hd']; rfl
  ⟨p.J,p.ρ,_,_,.refl,p.R.upd e (fun b ob hb e'=>(hs.2 b fun z=>hb (by rw [f1,z]; exact .head _)).trans e') x (f2.trans f1.symm) tk,w.o,q⟩
theorem m_setdict {kv:List (Str × AV)} {x:Str} {tk:Tok} (p:At X d F w.σ w.nx) (e:oDict (gt w.σ n) = some kv) (hx:Nat.beq (cd x) 0 = false) (hsz:Nat.ble kv.length 1000 = true) (hv:p.VR a v) {k:KU} (h:k (w.put n (.dict (ptS kv x a)))) :
    wpAny p.M p.A (setItem (.ref (p.ρ n)) (.str x tk) v) (p.AnsU (qU k)) no p.s:=by
  obtain ⟨e,vs,h1,h2⟩:=(onO_of (p.R.ow n).d e :)
  refine wpAny_setItem_pairs (is_str x tk) h1 (fun h' h3 hs=>?_) (by rw [h2.len]; exact Nat.le_trans (Nat.le_of_ble_eq_true hsz) (Nat.le_trans (by decide:1000 ≤ 100000) size_big))
  obtain ⟨ob,_,_,g,hd,_⟩:=id h1
  obtain ⟨ob',_,_,g',hd',_⟩:=id h3
  have nd:=let ⟨_,_,_,_,_,_,_,_,z⟩:=h1; z
  exact p.setU e g hd.2.1 hs g' hd'.2.1 (.dict h3 (h2.sto (nz hx) hv nd)) _ h
theorem VRs.set {J ρ} {v:Value} (hv:VR J nx ρ a v) {l:List AV} {vs:List Value} (h:VRs J nx ρ l vs) (j:Nat):VRs J nx ρ (l.set j a) (vs.set j v):=by
  induction l generalizing vs j with
  | nil=>cases h; exact .nil
  | cons b l ih=>cases h with
    | cons h hs=>cases j with
      | zero=>exact .cons hv hs
      | succ j=>exact .cons h (ih hs j)
theorem m_setlist {l:List AV} {j:Nat} {tk:Tok} (p:At X d F w.σ w.nx) (e:oList (gt w.σ n) = some l) (hj:Nat.ble l.length j = false) (hl:j < 2 ^ 62) (hv:p.VR a v) {k:KU} (h:k (w.put n (.list (l.set j a)))) :
    wpAny p.M p.A (setItem (.ref (p.ρ n)) (.int (Int.ofNat j) tk) v) (p.AnsU (qU k)) no p.s:=by
  obtain ⟨e,vs,ep,g,hr⟩:=(onO_of (p.R.ow n).l0 e :)
  have hj':j < vs.size:=by
    rw [len_ofL hr]
    exact Nat.lt_of_not_le fun q=>by rw [Nat.ble_eq_true_of_le q] at hj; cases hj
  have L:p.s.heap.IsList (p.ρ n) vs:=⟨_,g,rfl,_,rfl⟩
  obtain ⟨z,hz⟩:∃ z:Int,z = (j:Int):=⟨_,rfl⟩
  rw [show Int.ofNat j = z from hz.symm]
  unfold setItem
  refine wpAny_holding (wpAny_bind (wpAny_sequenceKey L.typeIs (by decide) ?_))
  refine wpAny_bind (wpAny_callSpecial?_slot (name:=Str.ofString "__setitem__") L.typeIs slot_list_setitem (wpAny_call_entry slot_list_setitem L.typeIs entry_list_setitem ?_ (args_list_setitem _ _ _)))
  show wpAny _ _ (Builtin.List.listSubscript? (.int z tk) >>= _) _ _ p.s
  refine wpAny_bind (wpAny_listSubscript_int (fitsIndex_of (by omega) (by omega)) ?_)
  subst hz
  show wpAny _ _ ((seqItemAt (p.ρ n) j >>= fun r=>pure (r.map (j,·))) >>= _) _ _ p.s
  refine wpAny_bind (wpAny_bind (wpAny_seqItemAt g rfl (wpAny_pure ?_)))
  rw [show vs[j]? = some vs[j] from Array.getElem?_eq_getElem hj']
  show wpAny _ _ (setSeqItemAt (p.ρ n) j v >>= _) _ _ p.s
  have hg':=Heap.get?_update_self (Obj.mapSeq (·.setIfInBounds j v)) g rfl
  have fin:p.AnsU (qU k) () { p.s with heap:=p.s.heap.update (p.ρ n) (Obj.mapSeq (·.setIfInBounds j v)) }:=p.setU e g rfl (Heap.SameBut.update ..) hg' rfl (.list hg' (by rw [Array.toList_setIfInBounds]; exact hr.set hv j)) _ h
  refine wpAny_bind (wpAny_setSeqItemAt g rfl ?_)
  first
    | exact wpAny_bind (wpAny_pure (wpAny_pure ⟨.none,rfl,wpAny_pure fin⟩))
    | exact wpAny_pure ⟨.none,rfl,wpAny_pure fin⟩
end
end Mine
namespace Mine
section
variable {X:Cx} {T:Tab} {d:Nat} {F:Frame} {σ:Store} {nx:Nat} {a b c:AV} {v u t:Value} {w:W} {k:KE} {fi:Fi} {r:Rec} {n:Nat} {o o':AObj}
theorem less9 {u d:Nat} (h:u + 9 * (d + 1) ≤ 9000):u + 9 * d ≤ 9000:=by omega
noncomputable abbrev At.less (p:At X (d + 1) F σ nx):At X d F σ nx:=⟨p.A,p.J,p.ρ,p.L,p.f,p.s,p.hh,Nat.le_of_succ_le p.hd,less9 p.hu,p.R⟩
theorem setit_ok {k:KU} (h:setit a b c w k) (F:Frame) (p:At X d F w.σ w.nx) {v u t:Value} (hv:p.VR a v) (hu:p.VR b u) (ht:p.VR c t):wpAny p.M p.A (setItem v u t) (p.AnsU (qU k)) no p.s:=onS_e h fun n en h=>by
  rw [loc_vr en hv]
  refine onO_e h (fun kv ek h=>onS_e h fun q eq h=>onB_e h (fun _ h=>Stop.no h) fun hx h=>onT_e h fun hz h=>?_) fun _ h=>onS_e h fun l el h=>onS_e h fun j ej h=>onB_e h (fun _ h=>Stop.no h) fun hj h=>onT_e h fun hj2 h=>?_
  · obtain ⟨_,rfl⟩:=asS_vr eq hu
    exact m_setdict p ek hx hz ht h
  · obtain ⟨_,rfl⟩:=asI_vr (p:=(false,Int.ofNat j.1)) (congrArg asI j.2) hu
    exact m_setlist p el hj (Nat.lt_of_le_of_lt (Nat.le_of_ble_eq_true hj2) (by decide)) ht h
theorem setattrA_ok (ok:X.Ok T.K) (to:TabOk T) {x:Str} {k:KU} (h:setattr T x a b w k) (F:Frame) (p:At X d F w.σ w.nx) {v u:Value} (hv:p.VR a v) (hu:p.VR b u):wpAny p.M p.A (setAttr v x u) (p.AnsU (qU k)) no p.s:=
  onS_e h fun n en h=>loc_vr en hv ▸ inst_e to p.R h fun C as ci e hci co h=>onS_e h fun c er h=>onT_e h fun hr h=>onT_e h fun hz h=>setattr_ok ok co e er hr (Nat.le_of_ble_eq_true hz) p hu ⟨w.o,h⟩
end
end Mine
namespace Mine
theorem plain_any {es:List PySem.Expr} {env:Env} {pos:Pos} (h:plainAll es = true):(backTo pos (starEach es env)).any (·.1) = false:=by
  induction es with
  | nil=>rfl
  | cons e es ih=>
    obtain ⟨h1,h2⟩:=cond_e h
    rw [starEach_plain h1]
    exact ih h2
section
variable {X:Cx} {T:Tab} {d:Nat} {F:Frame} {σ:Store} {nx:Nat} {a b c:AV} {v u t:Value} {w:W} {k:KE} {fi:Fi} {r:PySem.Expr → W → KE → Prop} {n:Nat} {o o':AObj} {J:Frozen} {ρ:Nat → Addr} {L:Lk} {s:Shared}
theorem VRs.none {vs:List Value} (h:VRs J nx ρ [] vs):vs = []:=by cases h; rfl
theorem VRs.one {vs:List Value} (h:VRs J nx ρ [a] vs):∃ v,vs = [v]∧VR J nx ρ a v:=by cases h with | cons h hs=>exact ⟨_,congrArg _ hs.none,h⟩
theorem VRs.pr {vs:List Value} (h:VRs J nx ρ [a,b] vs):∃ v u,vs = [v,u]∧VR J nx ρ a v∧VR J nx ρ b u:=by cases h with | cons h hs=>exact let ⟨u,e,x⟩:=hs.one; ⟨_,u,congrArg _ e,h,x⟩
/-- the values of plain arguments,for a call without keywords -/
theorem evl_plain (hr:EvOk X d fi.fd F r) {f:Value} {pos:Pos} {es:List PySem.Expr} {k:KL} (h:evl r es w k) (p:At X d F w.σ w.nx) {P:Args → Shared → Prop}
    (H:∀ vs as J' ρ' σ' nx' s',Rel X J' ρ' p.L F σ' nx' s' → Ext p.J w.nx p.ρ J' nx' ρ' → VRs J' nx' ρ' as vs → (∃ o,k as ⟨o,σ',nx'⟩) → P ⟨vs,[]⟩ s'):wpAny p.M p.A (evalArgs f true (backTo pos (starEach es (p.env fi.fd))) []) P no p.s:=
  args_of (kws:=[]) hr rfl h p fun vs as J1 ρ1 σ1 n1 s1 R1 E1 x1 q1=>wpAny_pure (H vs as J1 ρ1 σ1 n1 s1 R1 E1 x1 q1)
theorem bcw {id:String} {pos:Pos} {es:List PySem.Expr} {first:List Value} {fa:List AV} {Q:QE} {k:KL} (hr:EvOk X d fi.fd F r) (hp:plainAll es = true) (h:evl r es w k) (p:At X d F w.σ w.nx) (hf:p.VRs fa first)
    (H:∀ as w',k as w' → ∀ (p':At X d F w'.σ w'.nx) vs fs,p'.VRs as vs → p'.VRs fa fs → wpAny p'.M p'.A (call (.builtin id) (fs ++ vs)) (p'.Ans Q) no p'.s) :
    wpAny p.M p.A (callWith pos (.builtin id) first (backTo pos (starEach es (p.env fi.fd))) []) (p.Ans Q) no p.s:=
  Calls.callWith_builtin (plain_any hp) (evl_plain hr h p fun vs as J1 ρ1 σ1 n1 s1 R1 E1 x1 ⟨o1,h1⟩=>wpAny_mono (H as _ h1 (p.to R1) vs first x1 (hf.mono E1.grow)) (fun _ _ z=>Ans.ext E1 z) fun _ _ z=>z)
noncomputable def meId:Me → String
  | .append=>"list.append"
  | .clear=>"list.clear"
  | .get=>"dict.get"
  | .pop=>"dict.pop"
  | _=>"set.add"
theorem some_of {α:Type} {o:Option α} (h:o.isSome = true):∃ a,o = some a:=by cases o with | none=>cases h | some a=>exact ⟨a,rfl⟩
theorem gm_ok {m:Me} (p:At X d F σ nx) (hi:midB (gt σ n) m = true) {pl:Sem Bool} {Q:Value × List Value → Shared → Prop} (h:Q (.builtin (meId m),[.ref (p.ρ n)]) p.s):wpAny p.M p.A (getMethod (.ref (p.ρ n)) (meNm m) pl) Q no p.s:=by
  have nd:(∃ ob,p.s.heap.get? (p.ρ n) = some ob∧ob.dict = none) → ∀ a,Value.ref (p.ρ n) = .ref a → ∃ ob,p.s.heap.get? a = some ob∧ob.dict = none:=fun z a q=>Value.ref.inj q ▸ z
  have R:=p.R.ow n
  cases m with
  | append=>
    obtain ⟨_,e⟩:=some_of hi
    obtain ⟨_,vs,ep,g,_⟩:=(onO_of R.l e :)
    exact getMethod_builtin ⟨_,g,rfl⟩ PySem.F.plainAttrs_list PySem.F.slot_list_append PySem.F.type_list_append (nd ⟨_,g,rfl⟩) h
  | clear=>
    obtain ⟨_,e⟩:=some_of hi
    obtain ⟨_,vs,ep,g,_⟩:=(onO_of R.l0 e :)
    exact getMethod_builtin ⟨_,g,rfl⟩ PySem.F.plainAttrs_list PySem.F.slot_list_clear PySem.F.type_list_clear (nd ⟨_,g,rfl⟩) h
  | get=>
    obtain ⟨_,e⟩:=some_of hi
    obtain ⟨_,vs,h1,_⟩:=(onO_of R.d e :)
    exact getMethod_builtin h1.typeIs PySem.F.plainAttrs_dict PySem.F.slot_dict_get PySem.F.type_dict_get (nd (let ⟨ob,_,_,g,hd,_⟩:=h1; ⟨ob,g,hd.2.1⟩)) h
  | pop=>
    obtain ⟨_,h1,_⟩:=(onB_of R.e hi :)
    exact getMethod_builtin h1.typeIs PySem.F.plainAttrs_dict PySem.F.slot_dict_pop PySem.F.type_dict_pop (nd (let ⟨ob,_,_,g,hd,_⟩:=h1; ⟨ob,g,hd.2.1⟩)) h
  | add=>
    obtain ⟨_,e⟩:=some_of hi
    obtain ⟨_,h1⟩:=(onO_of R.s e :)
    exact getMethod_builtin h1.typeIs PySem.F.plainAttrs_set PySem.F.slot_set_add PySem.F.type_set_add (nd (let ⟨ob,_,_,_,g,hd,_⟩:=h1; ⟨ob,g,hd.2.1⟩)) h
  | _=>cases hi
theorem meth_ok {K:Frag} (ok:X.Ok K) {m:Me} {as:List AV} (h:methB m as n w k) (p:At X d F w.σ w.nx) {vs:List Value} (hv:p.VRs as vs) :
    wpAny p.M p.A (call (.builtin (meId m)) (.ref (p.ρ n) :: vs)) (p.Ans (qE k)) no p.s:=by
  cases m with
  | append=>
    refine onS_e h fun a e1 h=>onS_e h fun q e2 h=>?_
    obtain ⟨v,rfl,x⟩:=(a.2 ▸ hv).one
    exact m_append p e2 x h
  | clear=>
    refine onT_e h fun e1 h=>onS_e h fun q e2 h=>?_
    obtain rfl:=(List.isEmpty_iff.mp e1 ▸ hv).none
    exact m_clear p e2 h
  | get=>
    refine onS_e h fun q e1 h=>onS_e h fun kv e2 h=>onS_e h fun r e3 h=>onB_e h (fun _ h=>Stop.no h) fun hx h=>?_
    obtain ⟨v,u,rfl,x,y⟩:=(q.2 ▸ hv).pr
    obtain ⟨_,rfl⟩:=asS_vr e3 x
    exact m_get ok p e2 hx y h
  | pop=>
    refine onS_e h fun q e1 h=>onT_e h fun e2 h=>onS_e h fun r e3 h=>?_
    obtain ⟨v,u,rfl,x,y⟩:=(q.2 ▸ hv).pr
    obtain ⟨_,rfl⟩:=asI_vr e3 x
    exact m_epop ok p e2 y h
  | add=>
    refine onS_e h fun a e1 h=>onS_e h fun l e2 h=>onS_e h fun r e3 h=>onB_e h (fun _ h=>Stop.no h) fun hc h=>onT_e h fun hz h=>?_
    obtain ⟨v,rfl,x⟩:=(a.2 ▸ hv).one
    obtain ⟨_,rfl⟩:=asS_vr e3 x
    exact m_add p e2 hc hz h
  | _=>exact Stop.no (n:=77) h
end
end Mine
namespace Mine
section
variable {X:Cx} {T:Tab} {K:Frag} {d:Nat} {F:Frame} {σ:Store} {nx:Nat} {a b c:AV} {v u t:Value} {w:W} {k:KE} {fi:Fi} {r:Rec} {n:Nat} {o o':AObj} {C:Addr} {ci:ClsI} {as:List (Nat × AV)} {x:Str}
theorem InstW.noOwn {h:Heap} {J:Frozen} {ρ:Nat → Addr} {ad dx:Addr} {m:Str → Option Value} {o:Obj} (I:InstW h J nx ρ ad C as dx m o) (hx0:cd x ≠ 0) (ea:gt as (cd x) = none):m x = none:=(ea ▸ I.at_ x hx0:AttR J nx ρ none (m x)).none
theorem own_method (ok:X.Ok K) (co:ClsOk K C ci) {f:Nat} (e:gt σ n = some (.inst C as)) (er:gt ci.at_ (cd x) = some (.fn f)) (ea:gt as (cd x) = none) (p:At X d F σ nx) {pl:Sem Bool} {Q:Value × List Value → Shared → Prop} (h:Q (.ref f,[.ref (p.ρ n)]) p.s) :
    wpAny p.M p.A (getMethod (.ref (p.ρ n)) x pl) Q no p.s:=by
  obtain ⟨dx,m,o,I⟩:=inst_of p.R e
  obtain ⟨hx0,hcop⟩:=co.ok _ _ er
  obtain ⟨e1,e2,e3⟩:=co.fn _ _ er
  exact method_fn (p.R.KX ok) I.i co.ga co.gk e1 e2 (show (lookIn x o).map (·.isSome) = _ by rw [I.l,I.noOwn hx0 ea]; rfl) h
/-- the method as an object of its own -/
theorem own_bound (ok:X.Ok K) (co:ClsOk K C ci) {f:Nat} (e:gt σ n = some (.inst C as)) (er:gt ci.at_ (cd x) = some (.fn f)) (ea:gt as (cd x) = none) (p:At X d F σ nx) {expr:Bool} {Q:Value → Shared → Prop}
    (h:∀ J' s',Rel X J' p.ρ p.L F σ nx s' → Ext p.J nx p.ρ J' nx p.ρ → J' p.s.heap.objs.size = some (methodObj (.ref f) (.ref (p.ρ n))) → Q (.ref p.s.heap.objs.size) s') :
    wpAny p.M p.A (getAttr (.ref (p.ρ n)) x expr) Q no p.s:=by
  obtain ⟨dx,m,o,I⟩:=inst_of p.R e
  obtain ⟨hx0,hcop⟩:=co.ok _ _ er
  obtain ⟨e1,e2,e3⟩:=co.fn _ _ er
  obtain ⟨cdd,hc,hd⟩:=any_some co.dict
  have hs:specialIn K (.ref f) "__get__" = some (some (.builtin "function.__get__")):=by
    unfold specialIn
    rw [e2]
    kernel_rfl
  refine get_bind (p.R.KX ok) I.i co.ga (g:=.builtin "function.__get__") (a:=.ref f) ?_ co.gk ?_
  · have own:=I.own (x:=x) hd
    rw [I.noOwn hx0 ea] at own
    have hcop':x ∉ copiedNames:=by simpa using hcop
    unfold findObj
    rw [hc]
    simp [e1,hs,e3,own,hcop']
  · have R1:=p.R.toks (p.s.toks + 1)
    refine wpAny_call (fn_get (R1.KX ok) e2 (handed_on rfl ?_))
    exact h _ _ (p.R.freeze (ob:=methodObj (.ref f) (.ref (p.ρ n))) rfl (p.s.toks + 1)) (put_ext p.R.J_fresh) put_self
theorem star_form {e:PySem.Expr} {sp pos:Pos} {env:Env} {n:Nat} {kw:List (Option Str × Sem Value)}:methodCallForm n (backTo pos (starEach [.Starred e sp] env)) kw = false:=rfl
theorem scall {o:PySem.Expr} {apos pos:Pos} {e:PySem.Expr} {sp:Pos} {Q:Value → Shared → Prop} {M:Model} {A:Around} {E:Value → Shared → Prop} {s:Shared} {env:Env} (hb:baseOk o = true)
    (h:wpAny M A (eval o env) (fun ov s₁=>wpAny M A (getAttr ov x true) (fun f s₂=>wpAny M A (callWith pos f [] (backTo pos (starEach [.Starred e sp] env)) (backToKw pos (keywordEach [] env))) Q E s₂) E s₁) E s) :
    wpAny M A (eval (.Call (.Attribute o x apos) [.Starred e sp] [] pos) env) Q E s:=by
  rw [arm_eval_Call,base_plain hb]
  refine wpAny_bind (wpAny_mono h (fun ov s₁ h₁=>wpAny_bind (wpAny_standAt ?_)) fun _ _ z=>z)
  unfold methodCall
  rw [star_form]
  unfold calleeOf methodCallPos
  refine wpAny_bind (wpAny_holding ?_)
  show wpAny M A (getAttr ov x true >>= fun f=>pure (f,[])) _ _ _
  refine wpAny_bind (wpAny_mono h₁ (fun f s₂ h₂=>wpAny_pure ?_) fun _ _ z=>z)
  dsimp only
  exact wpAny_bind (wpAny_pure h₂)
theorem cwM_ok {Q:QE} {f:Addr} {nm:List (Nat × Bool)} {I:Addr} {self:Value} {sa:AV} {pos:Pos} {e:PySem.Expr} {sp:Pos} {kk:List AV → List (Str × AV) → W → Prop} {fd:FuncData} {rr:PySem.Expr → W → KE → Prop} (ok:X.Ok K) (fi:FnIs K f nm)
    (hr:EvOk X d fd F rr) (h:argS rr e w kk) (p:At X d F w.σ w.nx) (hI:p.J I = some (methodObj (.ref f) self)) (hs:p.VR sa self) (H:∀ as kv w',kk as kv w' → Cl X d (.ref f) (sa :: as) kv w'.σ w'.nx Q) :
    wpAny p.M p.A (callWith pos (.ref I) [] (backTo pos (starEach [.Starred e sp] (p.env fd))) (backToKw pos (keywordEach [] (p.env fd)))) (p.Ans Q) no p.s:=by
  unfold callWith
  refine wpAny_bind (wpAny_holding (wpAny_mono (arg_star hr h p) (fun a s1 ⟨as,kv,J1,ρ1,σ1,n1,o1,E1,R1,x1,y1,h1⟩=>wpAny_bind (wpAny_standAt ?_)) fun _ _ x=>x))
  have gI:=R1.jx (E1.j _ _ hI)
  have hc':wpAny p.M p.A (call (.ref I) a.pos a.kw) (p.Ans Q) no s1:=by
    refine wpAny_call (method_call gI (codeAny_mono (H _ _ _ h1 F (p.to R1) (self :: a.pos) a.kw (.cons (hs.mono E1.grow) x1) y1) fun r s' z=>?_))
    rcases r with e | (v | _ | _ | _) <;> first | exact z.elim | exact Ans.ext E1 z
  obtain ⟨oc,od,osl,hf⟩:=fi.at_
  have kp:wpAny p.M p.A (keeperOf (.ref I)) (fun k s2=>k = .boundFrame∧s2 = s1) no s1:=by
    unfold keeperOf
    refine wpAny_bind (wpAny_load gI ?_)
    dsimp only
    exact wpAny_bind (wpAny_load (R1.KX ok _ _ hf) (wpAny_pure ⟨rfl,rfl⟩))
  refine wpAny_bind (wpAny_mono kp (fun k s2 ⟨ek,es⟩=>?_) fun _ _ z=>z)
  subst ek es
  exact wpAny_bind (wpAny_mono (wpAny_operate' hc') (fun r s₂ hr=>wpAny_bind (wpAny_holding (wpAny_point (wpAny_pure hr)))) fun _ _ x=>x)
theorem own_e {a:AV} {kk:Nat → Prop} {y G:Prop} {J:Frozen} {ρ:Nat → Addr} {L:Lk} {s:Shared} (to:TabOk T) (R:Rel X J ρ L F σ nx s) (h:ownFn T x a σ kk y)
    (g:∀ n C as ci f,a = .loc n → gt σ n = some (.inst C as) → gt T.cls C = some ci → gt ci.at_ (cd x) = some (.fn f) → gt as (cd x) = none → kk f → G) (g2:y → G):G:=
  onS_e h fun n en h=>onO_e h (fun p ep h=>onS_e h fun ci hci h=>onB_e h (fun ea h=>onS_e h fun f ef h=>g n p.1 p.2 ci f.1 (loc_eq en) (onO_of (R.ow n).i ep :) hci f.2 (Option.isNone_iff_eq_none.mp ea) h) fun _ h=>Stop.no h) fun _ h=>g2 h
theorem callS_ok (ok:X.Ok T.K) (to:TabOk T) (hr:EvOk X d fi.fd F (r.ev fi F)) (hc:ClR X d r) {o e:PySem.Expr} {apos pos:Pos} {args:List PySem.Expr} {kws:List Keyword} (ea:∃ sp,args = [.Starred e sp]) (ek:kws = []) (h:callS T r fi F o x e w k) :
    Ev X (d + 1) fi.fd F (fun env=>eval (.Call (.Attribute o x apos) args kws pos) env) w.σ w.nx (qE k):=fun p=>onT_e h fun hb h=>by
  obtain ⟨sp,rfl⟩:=ea
  subst ek
  refine scall hb (an (hr _ _ _ h p.less) fun v a J1 ρ1 σ1 n1 s1 R1 E1 x1 ⟨o1,h1⟩=>own_e to R1 h1 (fun n C as ci f ea e1 hci er ea' h1=>onS_e h1 fun nm hnm h1=>?_) Stop.no)
  obtain rfl:=loc_vr rfl (ea ▸ x1)
  exact own_bound ok (to.cls _ _ hci) e1 er ea' (p.to R1) fun J2 s2 R2 E2 hI=>wpAny_mono (cwM_ok (Q:=qE k) ok (to.fns _ _ hnm) hr h1 (p.to R2).less hI (x1.mono E2.grow) fun as kv w' hk=>hc _ _ _ _ _ hk) (fun _ _ z=>Ans.ext (E1.trans E2) z) fun _ _ z=>z
theorem mOk_parts {o:PySem.Expr} {args:List PySem.Expr} {kws:List Keyword} {apos pos:Pos} (h:mOk o args kws apos pos = true):plainAll args = true:=(cond_e (cond_e h).2).1
theorem callM_ok (ok:X.Ok T.K) (to:TabOk T) (hr:EvOk X d fi.fd F (r.ev fi F)) (hc:ClR X d r) {o:PySem.Expr} {apos pos:Pos} {args:List PySem.Expr} {kws:List Keyword} (hm:mOk o args kws apos pos = true) (h:callM T r fi F o x args kws w k) :
    Ev X (d + 1) fi.fd F (fun env=>eval (.Call (.Attribute o x apos) args kws pos) env) w.σ w.nx (qE k):=fun p=>by
  refine mcall hm (an (hr _ _ _ h p.less) fun v a J1 ρ1 σ1 n1 s1 R1 E1 x1 ⟨o1,h1⟩ pl=>own_e to R1 h1 (fun n C as ci f ea e1 hci er ea' h1=>?_) fun h1=>onT_e h1 fun hk h1=>onS_e h1 fun n en h1=>onS_e h1 fun m hme h1=>onT_e h1 fun hi h1=>onT_e h1 fun hpl hz=>?_)
  · obtain rfl:=loc_vr rfl (ea ▸ x1)
    exact own_method ok (to.cls _ _ hci) e1 er ea' (p.to R1) (wpAny_mono (cw_ok (Q:=qE k) (fa:=[_]) ok (to.cfn _ _ _ _ hci er) hr h1 (p.to R1).less (.cons x1 .nil) fun as kv w' hk=>hc _ _ _ _ _ hk) (fun _ _ z=>Ans.ext E1 z) fun _ _ z=>z)
  · obtain rfl:=List.isEmpty_iff.mp hk
    obtain rfl:=to.me _ _ hme
    obtain rfl:=loc_vr en x1
    refine gm_ok (p.to R1) hi (wpAny_mono (bcw (w:=⟨o1,σ1,n1⟩) (Q:=qE k) (fa:=[.loc n]) hr hpl hz (p.to R1).less (.cons (loc_eq en ▸ x1) .nil) fun as w' hk p' vs fs hv hf=>?_) (fun _ _ z=>Ans.ext E1 z) fun _ _ z=>z)
    obtain ⟨u,rfl,y⟩:=hf.one
    obtain rfl:=loc_vr rfl y
    exact meth_ok ok hk p' hv
end
end Mine
namespace Mine
noncomputable def biV:Bi → Value
  | .len=>.builtin "len"
  | .max=>.builtin "max"
  | .min=>.builtin "min"
  | .int=>.type "int"
  | .range=>.type "range"
  | .enum=>.type "enumerate"
  | .list=>.type "list"
  | .set=>.type "set"
  | .isi=>.builtin "isinstance"
  | .sorted=>.builtin "sorted"
  | .dict=>.type "dict"
  | .tuple=>.type "tuple"
  | .bool=>.type "bool"
  | .str=>.type "str"
structure BiOk (T:Tab):Prop where
  bi:∀ x b,gt T.glob (cd x) = some (.bi b) → nsIn T.K mainGlobals x = some none∧bootBuiltins x = some (biV b)
section
variable {X:Cx} {T:Tab} {K:Frag} {d:Nat} {F:Frame} {σ:Store} {nx:Nat} {a b c:AV} {v u t:Value} {w:W} {k:KE} {fi:Fi} {r:Rec} {n:Nat} {x:Str}
theorem bui_ok (ok:X.Ok K) (nm:NmOk fi.fd fi.nm) (p:At X d F σ nx) (e:gt fi.nm (cd x) = some false) (e2:nsIn K mainGlobals x = some none) (e3:bootBuiltins x = some v) {ps:Pos} {P:Value → Shared → Prop} (h:P v p.s):wpAny p.M p.A (eval (.Name x ps) (p.env fi.fd)) P no p.s:=by
  obtain ⟨_,hdb,hnn⟩:=nm.ok _ _ e
  obtain ⟨mg,hg⟩:=ok.glb
  obtain ⟨mb,hb,hbb⟩:=ok.blt
  have hg':=hg.keeps p.R.keep
  exact Name_function_global (env:=p.env fi.fd) nm.kind (nm.glb _ e) (loadGlobal_builtin (mg:=mg) (mb:=mb) (show p.s.heap.Ns fi.fd.globals mg from nm.gl ▸ hg') (mg_none_of (p.R.KX ok) hg' e2) (show p.s.heap.Ns fi.fd.builtins mb from nm.bl ▸ hb.keeps p.R.keep) ((hbb x hnn).trans e3) h) hdb
/-- a def of the module called -/
theorem callF_ok (ok:X.Ok T.K) (to:TabOk T) (nm:NmOk fi.fd fi.nm) (hr:EvOk X d fi.fd F (r.ev fi F)) (hc:ClR X d r) {ps pos:Pos} {args:List PySem.Expr} {kws:List Keyword} {f:Nat} (e:gt fi.nm (cd x) = some false) (e2:gt T.glob (cd x) = some (.fn f))
    (h:argP (r.ev fi F) args kws w fun vs kv w=>r.cl f vs kv w k):Ev X (d + 1) fi.fd F (fun env=>eval (.Call (.Name x ps) args kws pos) env) w.σ w.nx (qE k):=fun p=>
  wpAny_Call_Name_kw (glob_ok ok nm p e (to.gfn _ _ e2).1 (cw_ok (Q:=qE k) (fa:=[]) ok (to.gfn _ _ e2).2 hr h p.less .nil fun as kv w' hk=>hc _ _ _ _ _ hk))
/-- a class of the module called -/
theorem callC_ok (ok:X.Ok T.K) (to:TabOk T) (nm:NmOk fi.fd fi.nm) (hr:EvOk X d fi.fd F (r.ev fi F)) (hc:ClR X d r) {ps pos:Pos} {args:List PySem.Expr} {kws:List Keyword} {C:Nat} (e:gt fi.nm (cd x) = some false) (e2:gt T.glob (cd x) = some (.cls C))
    (h:argP (r.ev fi F) args kws w fun vs kv w=>make T r C vs kv w k):Ev X (d + 1) fi.fd F (fun env=>eval (.Call (.Name x ps) args kws pos) env) w.σ w.nx (qE k):=fun p=>
  wpAny_Call_Name_kw (glob_ok ok nm p e (to.gcl _ _ e2).1 (cw_ok (d:=d + 1) (Q:=qE k) (fa:=[]) ok (to.gcl _ _ e2).2 (fun e w k h p=>hr e w k h p.less) h p .nil fun as kv w' hk=>onS_e hk fun ci hci hk=>onS_e hk fun f hi hk=>
    make_ok ok (to.cls _ _ hci) hi (Cl.mono (hc _ _ _ _ _ hk) fun a' σ' n' ⟨o',z⟩=>onT_e z fun ea z=>⟨ea,o',z⟩)))
end
end Mine
namespace Mine
section
variable {prog:Program} {w:World} {A:Around} {E:Value → Shared → Prop} {s:Shared}
open AutoSeq1 (wpAny_loadPart')
theorem lt_two {l b:Addr} {i j m n:Int} {t1 t2 t3 t4:Tok} {Q:Value → Shared → Prop} (hl:s.heap.IsTuple l #[.int i t1,.int j t2]) (hb:s.heap.IsTuple b #[.int m t3,.int n t4]) (hu:A.units < cLine)
    (h:Q (.bool (decide (i < m ∨ (i = m∧j < n)))) s):wpAny (model prog w) A (richCompare .Lt (.ref l) (.ref b)) Q E s:=by
  obtain ⟨⟨cls,dd,data,sl⟩,ho,hc,k1,hd⟩:=id hl
  obtain ⟨⟨cls2,dd2,data2,sl2⟩,ho2,hc2,k2,hd2⟩:=id hb
  simp only at hc hd hc2 hd2
  subst hc hd hc2 hd2
  refine wpAny_richCompare_same_room (op:=.Lt) ⟨_,ho,rfl⟩ ⟨_,ho2,rfl⟩ PySem.F.slot_tuple_lt (wpAny_call_entry PySem.F.slot_tuple_lt ⟨_,ho,rfl⟩ PySem.F.entry_tuple_lt ?_ (PySem.F.args_tuple_lt_2 _ _)) hu
  obtain ⟨hp,g,d,tk,os⟩:=s
  have f2:=AutoSeq1.sub_tuple_tuple
  have fin:∀ c:Bool,c = decide (i < m ∨ (i = m∧j < n)) → ∃ v,Fin.done (.ret (.bool c)) = .done (.ret v)∧v ≠ .notImplemented∧Q v ⟨hp,g,d,tk,os⟩:=fun c e=>⟨_,rfl,(fun x=>nomatch x),by rw [e]; exact h⟩
  have e1:EqAt A.in1 ⟨hp,g,d,tk,os⟩ (.int i t1) (.int m t3) (i == m):=EqAt.int_int _ _ _ _
  have e2:EqAt A.in1 ⟨hp,g,d,tk,os⟩ (.int j t2) (.int n t4) (j == n):=EqAt.int_int _ _ _ _
  have lt:∀ (x y:Int) (t u:Tok) {E:Value → Shared → Prop} {Q:Value → Shared → Prop},Q (.bool (decide (x < y))) ⟨hp,g,d,tk,os⟩ → wpAny (model prog w) A.in1 (richCompare .Lt (.int x t) (.int y u)) Q E ⟨hp,g,d,tk,os⟩:=fun x y t u E Q h=>lt_int h
  wp_walk using wpAny_loadPart' ho,wpAny_loadPart' ho2,wpAny_forIn_list _ (fun rest b s'=>b.1 = none∧s' = ⟨hp,g,d,tk,os⟩ ∧
    (rest = [(.int i t1,.int m t3),(.int j t2,.int n t4)] ∨ (rest = [(.int j t2,.int n t4)]∧i = m) ∨ (rest = []∧i = m∧j = n))) _
  case turn=>
    rintro ⟨y,x⟩ rest b s' ⟨hb',rfl,hz⟩
    rcases hz with hz | ⟨hz,rfl⟩ | ⟨hz,_⟩
    · simp only [List.cons.injEq,Prod.mk.injEq] at hz
      obtain ⟨⟨rfl,rfl⟩,hz⟩:=hz
      refine wpAny_bind (e1 prog w _ _ ?_)
      by_cases q:i = m
      · subst q
        simp only [beq_self_eq_true]
        wp_walk
        exact ⟨rfl,rfl,.inr (.inl ⟨hz,by simp⟩)⟩
      · rw [show (i == m) = false from by simpa using q]
        refine wpAny_ite_split (fun _=>?_) (fun z=>absurd rfl z)
        refine wpAny_bind (wpAny_rule ?_)
        refine wpAny_bind (lt _ _ _ _ ?_)
        wp_walk
        exact fin _ (by simp [q])
    · simp only [List.cons.injEq,Prod.mk.injEq] at hz
      obtain ⟨⟨rfl,rfl⟩,hz⟩:=hz
      refine wpAny_bind (e2 prog w _ _ ?_)
      by_cases q:j = n
      · subst q
        simp only [beq_self_eq_true]
        wp_walk
        exact ⟨rfl,rfl,.inr (.inr ⟨hz,by simp⟩)⟩
      · rw [show (j == n) = false from by simpa using q]
        refine wpAny_ite_split (fun _=>?_) (fun z=>absurd rfl z)
        refine wpAny_bind (wpAny_rule ?_)
        refine wpAny_bind (lt _ _ _ _ ?_)
        wp_walk
        exact fin _ (by simp)
    · cases hz
  case fin=>
    rintro ⟨b1,b2⟩ s' ⟨hb',rfl,hz⟩
    simp only at hb'
    subst hb'
    rcases hz with hz | ⟨hz,_⟩ | ⟨hz,rfl,rfl⟩
    · cases hz
    · cases hz
    · wp_walk
      exact fin _ (by simp)
  case h=>exact ⟨rfl,rfl,.inl rfl⟩
end
section
variable {X:Cx} {T:Tab} {K:Frag} {d:Nat} {F:Frame} {σ:Store} {nx:Nat} {a b c:AV} {v u t:Value} {w:W} {k:KE} {fi:Fi} {r:Rec} {n:Nat} {x:Str} {J:Frozen} {ρ:Nat → Addr}
theorem in_dict (ok:X.Ok K) {kv:List (Str × AV)} {tk:Tok} (p:At X d F w.σ w.nx) (e:oDict (gt w.σ n) = some kv) (hx:Nat.beq (cd x) 0 = false) (q:lkS kv (cd x) = some a) (h:k (.bool true) w) :
    wpAny p.M p.A (compareOp .In (.str x tk) (.ref (p.ρ n))) (p.Ans (qE k)) no p.s:=by
  obtain ⟨e,vs,h1,h2⟩:=(onO_of (p.R.ow n).d e :)
  obtain ⟨v,h3,h4⟩:=lkS_some (nz hx) h2 q
  refine wpAny_in_of (is_str x tk) (not_sys ok p e) h1.mapOf ?_
  rw [h3]
  exact p.qT .bool h
/-- an item equal to the value sought -/
noncomputable def eqV:Value → Value → Bool
  | .int i _,.int j _=>j == i
  | .str i _,.str j _=>j == i
  | _,_=>false
structure EqQ (v u:Value) (y:Bool):Prop where
  e:∀ {A:Around} {s:Shared},EqAt A s u v (eqV v u)
  v:eqV v u = y
theorem eqAt_e {kk:Bool → Bool → Prop} {G:Prop} (h:Mine.eqAt a b kk) (hv:VR J nx ρ a v) (hu:VR J nx ρ b u) (g:∀ t y,EqQ v u y → kk t y → G):G:=by
  refine onO_e h (fun p ea h=>onS_e h fun q eb h=>?_) fun _ h=>onS_e h fun p ea h=>onO_e h (fun q eb h=>?_) fun _ h=>onT_e h fun eb h=>?_
  · obtain ⟨_,rfl⟩:=asI_vr ea hv
    obtain ⟨_,rfl⟩:=asI_vr eb hu
    exact g _ _ ⟨EqAt.int_int _ _ _ _,bd _ _⟩ h
  · obtain ⟨_,rfl⟩:=asS_vr ea hv
    obtain ⟨_,rfl⟩:=asS_vr eb hu
    exact g _ _ ⟨EqAt.str_str _ _ _ _,bd _ _⟩ h
  · obtain ⟨_,rfl⟩:=asS_vr ea hv
    obtain rfl:=asN_vr eb hu
    exact g _ _ ⟨EqAt.none_str _ _,rfl⟩ h
theorem anyAt_e {G:Prop} (hv:VR J nx ρ a v):∀ (l:List AV) {vs:List Value} {kk:Bool → Bool → Prop},anyAt a l kk → VRs J nx ρ l vs → (∀ t y,(∀ {A:Around} {s:Shared},∀ u,u ∈ vs → EqAt A s u v (eqV v u)) → vs.any (eqV v) = y → kk t y → G) → G
  | [],vs,kk,h,hs,g=>g _ _ (fun u hu=>by rw [hs.none] at hu; cases hu) (by rw [hs.none]; rfl) h
  | b :: l,vs,kk,h,hs,g=>by
    cases hs with
    | cons h1 hs=>exact eqAt_e h hv h1 fun t x q h=>anyAt_e hv l h hs fun t' y q1 q2 h=>g _ _ (fun u hu=>by
        rcases List.mem_cons.mp hu with rfl | hu
        · exact q.e
        · exact q1 u hu) (by rw [List.any_cons,q.v,q2]; cases x <;> rfl) h
theorem in_tup {l:List AV} {ad:Addr} (p:At X d F w.σ w.nx) (hv:p.VR a v) (hu:TpAt p.J w.nx p.ρ ad l) (h:anyAt a l fun t c=>k (mkB t c) w):wpAny p.M p.A (compareOp .In v (.ref ad)) (p.Ans (qE k)) no p.s:=by
  obtain ⟨vs,i1,r1⟩:=hu.is p.R
  refine anyAt_e hv l h r1 fun t y q1 q2 h=>?_
  refine in_tupleAt (eqV v) i1 (fun y hy=>q1 y (Array.mem_toList_iff.mpr hy)) ?_
  rw [← Array.any_toList,q2]
  exact p.q mkB_vr h
theorem inA_ok (ok:X.Ok K) (h:inA a b w k):Op2 X d (fun v w=>compareOp .In v w) a b w.σ w.nx (qE k):=fun F p v u hv hu=>by
  refine onO_e h (fun l eb h=>?_) fun _ h=>onS_e h fun n en h=>onS_e h fun kv ek h=>onS_e h fun q ea h=>onB_e h (fun _ h=>Stop.no h) fun hx h=>onS_e h fun c ec h=>?_
  · obtain ⟨_,rfl,g⟩:=asT_vr eb hu
    exact in_tup p hv g h
  · obtain ⟨_,rfl⟩:=asS_vr ea hv
    exact loc_vr en hu ▸ in_dict ok p ek hx ec h
theorem VRs.two {a b:AV} {vs:Array Value} (h:VRs J nx ρ [a,b] vs.toList):∃ v w,vs = #[v,w]∧VR J nx ρ a v∧VR J nx ρ b w:=by
  obtain ⟨l⟩:=vs
  obtain ⟨v,u,e,x,y⟩:=h.pr
  exact ⟨v,u,congrArg Array.mk e,x,y⟩
theorem two_vr {q:AV × AV} (p:At X d F w.σ w.nx) (e:a = .tup [q.1,q.2]) (hv:p.VR a v):∃ ad x y,v = .ref ad∧p.s.heap.IsTuple ad #[x,y]∧p.VR q.1 x∧p.VR q.2 y:=by
  obtain ⟨ad,rfl,g⟩:=asT_vr rfl (e ▸ hv)
  obtain ⟨vs,i,r⟩:=g.is p.R
  obtain ⟨x,y,rfl,hx,hy⟩:=r.two
  exact ⟨ad,x,y,rfl,i,hx,hy⟩
theorem lex_ok {op:CmpOp} (h:lex2 op a b fun r=>k r w) (p:At X d F w.σ w.nx) (hv:p.VR a v) (hu:p.VR b u):wpAny p.M p.A (compareOp op v u) (p.Ans (qE k)) no p.s:=by
  refine onS_e h fun eo _ h=>onS_e h fun q1 _ h=>onS_e h fun q2 _ h=>onS_e h fun i e1 h=>onS_e h fun j e2 h=>onS_e h fun m e3 h=>onS_e h fun n e4 hk=>?_
  obtain ⟨_,_,_,rfl,i1,x1,y1⟩:=two_vr p q1.2 hv
  obtain ⟨_,_,_,rfl,i2,x2,y2⟩:=two_vr p q2.2 hu
  obtain ⟨_,rfl⟩:=asI_vr e1 x1
  obtain ⟨_,rfl⟩:=asI_vr e2 y1
  obtain ⟨_,rfl⟩:=asI_vr e3 x2
  obtain ⟨_,rfl⟩:=asI_vr e4 y2
  obtain rfl:=eo.down
  exact lt_two i1 i2 (Nat.lt_of_le_of_lt (Nat.le_trans (Nat.le_add_right _ _) p.hu) (show 9000 < 9900 by decide)) (p.q .sb hk)
theorem cmpR_ok {op:CmpOp} (h:onO (asI a) (fun p=>onS 17 (asI b) fun q=>onS 17 (cmpI op p.2 q.2) fun r=>k (mkB (or_ p.1 q.1) r) w) (lex2 op a b fun r=>k r w)):Op2 X d (fun v w=>compareOp op v w) a b w.σ w.nx (qE k):=fun F p v u hv hu=>by
  refine onO_e h (fun P ea h=>onS_e h fun Q eb h=>onS_e h fun r e h=>?_) fun _ h=>lex_ok h p hv hu
  obtain ⟨_,rfl⟩:=asI_vr ea hv
  obtain ⟨_,rfl⟩:=asI_vr eb hu
  exact cmpI_ok e h p
theorem cmp_ok (ok:X.Ok K) {op:CmpOp} (h:cmp op a b w k):Op2 X d (fun v w=>compareOp op v w) a b w.σ w.nx (qE k):=by
  cases op with
  | Is=>exact is_ok h
  | IsNot=>exact isnot_ok h
  | In=>exact inA_ok ok h
  | Eq=>exact eq_ok h
  | NotEq=>exact ne_ok ok h
  | _=>exact cmpR_ok h
end
end Mine
namespace Mine
noncomputable abbrev TrOk (X:Cx) (d:Nat) (fd:FuncData) (F:Frame) (r:PySem.Expr → W → KB → Prop):Prop:=∀ e w k,r e w k → Tr X d fd F (fun env=>isTrue e env (eval e env)) w.σ w.nx (qB k)
section
variable {X:Cx} {T:Tab} {K:Frag} {d:Nat} {F:Frame} {σ:Store} {nx:Nat} {a b c:AV} {v u t:Value} {w:W} {k:KE} {fi:Fi} {r:Rec} {n:Nat} {x:Str} {J:Frozen} {ρ:Nat → Addr}
theorem bin_arm (hr:EvOk X d fi.fd F (r.ev fi F)) {l m:PySem.Expr} {op:Operator} {ps:Pos} (h:r.ev fi F l w fun a w=>r.ev fi F m w fun b w=>bop op a b w k):Ev X (d + 1) fi.fd F (fun env=>eval (.BinOp l op m ps) env) w.σ w.nx (qE k):=fun p=>
  wpAny_BinOp (an (hr _ _ _ h p.less) fun v a J1 ρ1 σ1 n1 s1 R1 E1 x1 ⟨o1,h1⟩=>an (hr _ _ _ h1 (p.to R1).less) fun u b J2 ρ2 σ2 n2 s2 R2 E2 x2 ⟨o2,h2⟩=>wpAny_mono (bop_ok h2 F (p.to R2) v u (x1.mono E2.grow) x2) (fun _ _ z=>Ans.ext (E1.trans E2) z) fun _ _ z=>z)
theorem neg_arm (hr:EvOk X d fi.fd F (r.ev fi F)) {m:PySem.Expr} {ps:Pos} {z:Nat} (h:r.ev fi F m w fun a w=>onS z (asI a) fun p=>k (mkI p.1 (-p.2)) w):Ev X (d + 1) fi.fd F (fun env=>eval (.UnaryOp .USub m ps) env) w.σ w.nx (qE k):=fun p=>
  wpAny_UnaryOp (an (hr _ _ _ h p.less) fun v a J1 ρ1 σ1 n1 s1 R1 E1 x1 ⟨o1,h1⟩=>onS_e h1 fun q e h1=>by
    obtain ⟨_,rfl⟩:=asI_vr e x1
    exact neg_int (Ans.ext E1 ((p.to R1).qT mkI_vr h1)))
theorem if_arm (hr:EvOk X d fi.fd F (r.ev fi F)) (ht:TrOk X d fi.fd F (r.tr fi F)) {t b o:PySem.Expr} {ps:Pos} (h:r.tr fi F t w fun c w=>onB c (r.ev fi F b w k) (r.ev fi F o w k)):Ev X (d + 1) fi.fd F (fun env=>eval (.IfExp t b o ps) env) w.σ w.nx (qE k):=fun p=>by
  refine wpAny_IfExp (anB (ht _ _ _ h p.less) fun c J1 ρ1 σ1 n1 s1 R1 E1 ⟨o1,h1⟩=>?_)
  cases c <;> exact wpAny_mono (hr _ _ _ h1 (p.to R1).less) (fun _ _ z=>Ans.ext E1 z) fun _ _ z=>z
theorem attr_arm (ok:X.Ok T.K) (to:TabOk T) (hr:EvOk X d fi.fd F (r.ev fi F)) (hc:ClR X d r) {o:PySem.Expr} {ps:Pos} (hb:baseOk o = true) (h:r.ev fi F o w fun a w=>attr T r x a w k):Ev X (d + 1) fi.fd F (fun env=>eval (.Attribute o x ps) env) w.σ w.nx (qE k):=fun p=>
  attrE hb (an (hr _ _ _ h p.less) fun v a J1 ρ1 σ1 n1 s1 R1 E1 x1 ⟨o1,h1⟩=>wpAny_mono (attr_ok ok to hc h1 F (p.to R1) v x1) (fun _ _ z=>Ans.ext E1 z) fun _ _ z=>z)
theorem opt_ok (hr:EvOk X d fi.fd F (r.ev fi F)) {e:Option PySem.Expr} (h:optE r fi F e w k) (p:At X (d + 1) F w.σ w.nx):wpAny p.M p.A (evalPart e (p.env fi.fd)) (p.Ans (qE k)) no p.s:=by
  cases e with
  | none=>exact wpAny_pure (p.q .none h)
  | some e=>exact hr _ _ _ h p.less
theorem part_vr {q:Bool × Option Int} (e:part a = some q) (x:VR J nx ρ a v):IsPart v q.2:=by
  unfold part at e
  cases h:asI a with
  | some p=>
    rw [h] at e; cases e
    obtain ⟨_,rfl⟩:=asI_vr h x
    exact .int _ _
  | none=>
    rw [h] at e
    cases h2:asN a with
    | true=>rw [h2] at e; cases e; rw [asN_vr h2 x]; exact .none
    | false=>rw [h2] at e; cases e
theorem slice_ok {l u:Option PySem.Expr} {ps:Pos} {o:PySem.Expr} {v vl vu:Value} {s₀:Addr} (h:slice a b c w k) (p:At X d F w.σ w.nx) (hv:p.VR a v) (hl:p.VR b vl) (hu:p.VR c vu) (hs:p.s.heap.IsSliceOf s₀ vl vu .none):wpAny p.M p.A (subscriptTail o (.Slice l u none ps) v (.ref s₀)) (p.Ans (qE k)) no p.s:=
  onS_e h fun q e1 h=>onS_e h fun i e2 h=>onS_e h fun j e3 h=>by
    obtain ⟨h3,h⟩:=szP_ok (fun z=>Nat.le_trans z size_big) h
    obtain ⟨_,rfl,g⟩:=asL_vr p.R e1 hv
    exact onO_e h (fun q _ h=>slice_new (w:=⟨q.2,w.σ,w.nx⟩) (z:=false) p g (part_vr e2 hl) (part_vr e3 hu) hs h3 (h.1 ▸ h.2)) fun _ h=>slice_new p g (part_vr e2 hl) (part_vr e3 hu) hs h3 h
theorem slice_arm {o i:PySem.Expr} {l u:Option PySem.Expr} {v:Value} (hr:EvOk X d fi.fd F (r.ev fi F)) (ei:∃ ps,i = .Slice l u none ps) (p:At X (d + 1) F w.σ w.nx) (x:p.VR a v) (h:optE r fi F l w fun b w=>optE r fi F u w fun c w=>slice a b c w k):wpAny p.M p.A (eval i (p.env fi.fd)) (fun iv s=>wpAny p.M p.A (subscriptTail o i v iv) (p.Ans (qE k)) no s) no p.s:=by
  obtain ⟨ps,rfl⟩:=ei
  refine wpAny_Slice (an (opt_ok hr h p) fun vl al J2 ρ2 σ2 n2 s2 R2 E2 x2 ⟨o2,h2⟩=>an (opt_ok hr h2 (p.to R2)) fun vu au J3 ρ3 σ3 n3 s3 R3 E3 x3 ⟨o3,h3⟩=>?_)
  rw [evalPart_none]
  exact wpAny_pure (wpAny_mono (slice_ok h3 (p.to (R3.push { cls:=.type "slice",data:=.fields #[vl,vu,.none] } s3.toks)) ((x.mono E2.grow).mono E3.grow) (x2.mono E3.grow) x3 (Heap.IsSliceOf.new ..)) (fun _ _ z=>Ans.ext (E2.trans E3) z) fun _ _ z=>z)
theorem sub_arm (ok:X.Ok T.K) (to:TabOk T) (hr:EvOk X d fi.fd F (r.ev fi F)) (hc:ClR X d r) {o i:PySem.Expr} {ps:Pos} (h:evF T r fi F (.Subscript o i ps) w k):Ev X (d + 1) fi.fd F (fun env=>eval (.Subscript o i ps) env) w.σ w.nx (qE k):=fun p=>
  Subscript_ (an (hr _ _ _ h p.less) fun v a J1 ρ1 σ1 n1 s1 R1 E1 x1 ⟨o1,h1⟩=>onO_e h1 (fun q _ h1=>wpAny_mono (slice_arm hr q.2 (p.to R1) x1 h1) (fun _ _ z=>wpAny_mono z (fun _ _ z=>Ans.ext E1 z) fun _ _ z=>z) fun _ _ z=>z) fun _ h1=>onT_e h1 fun hs h1=>
    an (hr _ _ _ h1 (p.to R1).less) fun u b J2 ρ2 σ2 n2 s2 R2 E2 x2 ⟨o2,h2⟩=>wpAny_mono (getit_ok ok to hc hs h2 F (p.to R2) v u (x1.mono E2.grow) x2) (fun _ _ z=>Ans.ext (E1.trans E2) z) fun _ _ z=>z)
theorem not_arm (ht:TrOk X d fi.fd F (r.tr fi F)) {m:PySem.Expr} {ps:Pos} {k:KB} (h:r.tr fi F m w fun b w=>k (!b) w):Tr X (d + 1) fi.fd F (fun env=>isTrue (.UnaryOp .Not m ps) env (eval (.UnaryOp .Not m ps) env)) w.σ w.nx (qB k):=fun p=>
  wpAny_isTrue_Not (anB (ht _ _ _ h p.less) fun c J1 ρ1 σ1 n1 s1 R1 E1 ⟨o1,h1⟩=>⟨J1,ρ1,σ1,n1,E1,R1,o1,h1⟩)
theorem plain_arm (hr:EvOk X d fi.fd F (r.ev fi F)) {e:PySem.Expr} {k:KB} (he:∀ env:Env,isTrue e env (eval e env) = (do let v ← eval e env; standAt e.pos; holding [v] (truthy v))) (h:r.ev fi F e w fun a w=>tru a w k):Tr X (d + 1) fi.fd F (fun env=>isTrue e env (eval e env)) w.σ w.nx (qB k):=fun p=>
  isTrue_plain (an (hr _ _ _ h p.less) fun v a J1 ρ1 σ1 n1 s1 R1 E1 x1 ⟨o1,h1⟩=>wpAny_mono (tru_ok h1 F (p.to R1) v x1) (fun _ _ z=>AnsB.ext E1 z) fun _ _ z=>z) (he _)
theorem and_arm (ht:TrOk X d fi.fd F (r.tr fi F)) {ps:Pos} {k:KB}:∀ (es:List PySem.Expr) {w:W},trl (r.tr fi F) false es w k → Tr X (d + 1) fi.fd F (fun env=>isTrue (.BoolOp .And es ps) env (eval (.BoolOp .And es ps) env)) w.σ w.nx (qB k)
  | [],w,h=>Stop.no (n:=24) h
  | e :: es,w,h=>fun p=>by
    refine isTrue_and (anB (ht _ _ _ h p.less) fun c J1 ρ1 σ1 n1 s1 R1 E1 ⟨o1,h1⟩=>?_)
    cases c with
    | false=>exact ⟨J1,ρ1,σ1,n1,E1,R1,o1,by cases es <;> exact h1⟩
    | true=>cases es with
      | nil=>exact isTrue_and_nil ⟨J1,ρ1,σ1,n1,E1,R1,o1,h1⟩
      | cons e' es=>exact wpAny_mono (and_arm ht (ps:=ps) (e' :: es) h1 (p.to R1)) (fun _ _ z=>AnsB.ext E1 z) fun _ _ z=>z
theorem or_arm (ht:TrOk X d fi.fd F (r.tr fi F)) {ps:Pos} {k:KB}:∀ (es:List PySem.Expr) {w:W},trl (r.tr fi F) true es w k → Tr X (d + 1) fi.fd F (fun env=>isTrue (.BoolOp .Or es ps) env (eval (.BoolOp .Or es ps) env)) w.σ w.nx (qB k)
  | [],w,h=>Stop.no (n:=24) h
  | e :: es,w,h=>fun p=>by
    refine isTrue_or (anB (ht _ _ _ h p.less) fun c J1 ρ1 σ1 n1 s1 R1 E1 ⟨o1,h1⟩=>?_)
    cases c with
    | true=>exact ⟨J1,ρ1,σ1,n1,E1,R1,o1,by cases es <;> exact h1⟩
    | false=>cases es with
      | nil=>exact isTrue_or_nil ⟨J1,ρ1,σ1,n1,E1,R1,o1,h1⟩
      | cons e' es=>exact wpAny_mono (or_arm ht (ps:=ps) (e' :: es) h1 (p.to R1)) (fun _ _ z=>AnsB.ext E1 z) fun _ _ z=>z
theorem const_arm {c:Const} {i:Nat} {ps:Pos} (h:constA c k w):Ev X d fi.fd F (fun env=>eval (.Constant c i ps) env) w.σ w.nx (qE k):=fun p=>by
  cases c with
  | none=>exact wpAny_Constant_none (p.q .none h)
  | bool=>exact wpAny_Constant_bool (p.q .bool h)
  | int=>exact wpAny_Constant_int (p.qT .int h)
  | str=>exact wpAny_Constant_str (p.qT .str h)
  | _=>exact Stop.no (n:=92) h
theorem cmp_arm1 (ok:X.Ok K) (hr:EvOk X d fi.fd F (r.ev fi F)) {l m:PySem.Expr} {op:CmpOp} {ops:List CmpOp} {cs:List PySem.Expr} {ps:Pos} (eo:ops = [op]) (em:cs = [m]) (hb:behindInMarks op m = false) (h:r.ev fi F l w fun a w=>r.ev fi F m w fun b w=>cmp op a b w k):Ev X (d + 1) fi.fd F (fun env=>eval (.Compare l ops cs ps) env) w.σ w.nx (qE k):=fun p=>by
  subst eo em
  exact wpAny_Compare1 (an (hr _ _ _ h p.less) fun v a J1 ρ1 σ1 n1 s1 R1 E1 x1 ⟨o1,h1⟩=>an (hr _ _ _ h1 (p.to R1).less) fun u b J2 ρ2 σ2 n2 s2 R2 E2 x2 ⟨o2,h2⟩=>wpAny_mono (cmp_ok ok h2 F (p.to R2) v u (x1.mono E2.grow) x2) (fun _ _ z=>Ans.ext (E1.trans E2) z) fun _ _ z=>z) hb
theorem cmpt_arm1 (ok:X.Ok K) (hr:EvOk X d fi.fd F (r.ev fi F)) {l m:PySem.Expr} {op:CmpOp} {ops:List CmpOp} {cs:List PySem.Expr} {ps:Pos} {k:KB} (eo:ops = [op]) (em:cs = [m]) (hb:behindInMarks op m = false) (h:r.ev fi F l w fun a w=>r.ev fi F m w fun b w=>cmp op a b w fun c w=>tru c w k):Tr X (d + 1) fi.fd F (fun env=>isTrue (.Compare l ops cs ps) env (eval (.Compare l ops cs ps) env)) w.σ w.nx (qB k):=fun p=>by
  subst eo em
  exact wpAny_isTrue_Compare1 (an (hr _ _ _ h p.less) fun v a J1 ρ1 σ1 n1 s1 R1 E1 x1 ⟨o1,h1⟩=>an (hr _ _ _ h1 (p.to R1).less) fun u b J2 ρ2 σ2 n2 s2 R2 E2 x2 ⟨o2,h2⟩=>an (cmp_ok ok h2 F (p.to R2) v u (x1.mono E2.grow) x2) fun c ca J3 ρ3 σ3 n3 s3 R3 E3 x3 ⟨o3,h3⟩=>wpAny_mono (tru_ok h3 F (p.to R3) c x3) (fun _ _ z=>AnsB.ext ((E1.trans E2).trans E3) z) fun _ _ z=>z) hb
theorem cmp_arm (ok:X.Ok K) (hr:EvOk X d fi.fd F (r.ev fi F)) {l:PySem.Expr} {ops:List CmpOp} {cs:List PySem.Expr} {ps:Pos} (h:evF T r fi F (.Compare l ops cs ps) w k):Ev X (d + 1) fi.fd F (fun env=>eval (.Compare l ops cs ps) env) w.σ w.nx (qE k):=
  onS_e h fun op _ h=>onS_e h fun m _ h=>onB_e h (fun _ h=>Stop.no h) fun hb h=>cmp_arm1 ok hr op.2 m.2 hb h
theorem cmpt_arm (ok:X.Ok K) (hr:EvOk X d fi.fd F (r.ev fi F)) {l:PySem.Expr} {ops:List CmpOp} {cs:List PySem.Expr} {ps:Pos} {k:KB} (h:trF r fi F (.Compare l ops cs ps) w k):Tr X (d + 1) fi.fd F (fun env=>isTrue (.Compare l ops cs ps) env (eval (.Compare l ops cs ps) env)) w.σ w.nx (qB k):=
  onS_e h fun op _ h=>onS_e h fun m _ h=>onB_e h (fun _ h=>Stop.no h) fun hb h=>cmpt_arm1 ok hr op.2 m.2 hb h
theorem edict_arm {ps:Pos} (h:w.new .edict k):Ev X d fi.fd F (fun env=>eval (.Dict [] [] ps) env) w.σ w.nx (qE k):=fun p=>by
  refine wpAny_Dict_empty ?_
  have g:(p.s.heap.push { cls:=.type "dict",data:=.dict #[] }).get? p.s.heap.objs.size = some { cls:=.type "dict",data:=.dict #[] }:=Heap.get?_push_size _ rfl
  have D:∀ {K:Type} [DecidableEq K] (knd:KeyKind X.prog X.w K),Heap.DictOf knd (p.s.heap.push { cls:=.type "dict",data:=.dict #[] }) p.s.heap.objs.size []:=fun knd=>⟨_,_,_,g,⟨rfl,rfl,rfl⟩,rfl,(fun e he=>by simp at he),.nil,List.nodup_nil⟩
  exact ⟨.loc w.nx,p.J,_,_,_,at_ext,p.R.new (fun b ob e=>Heap.get?_push_of_some _ e) (.edict (D _) (D _)) (feet_new g (fresh_none _)) p.s.toks,.new,w.o,h⟩
end
end Mine
namespace Mine
section
variable {X:Cx} {T:Tab} {K:Frag} {d:Nat} {F:Frame} {σ:Store} {nx:Nat} {a b c:AV} {v u t:Value} {w:W} {k:KE} {fi:Fi} {r:Rec} {n:Nat} {x:Str} {J:Frozen} {ρ:Nat → Addr}
theorem b_sorted_edict (ok:X.Ok K) (p:At X d F w.σ w.nx) (e:isED (gt w.σ n) = true) (h:w.new (.list []) k):wpAny p.M p.A (call (.builtin "sorted") [.ref (p.ρ n)]) (p.Ans (qE k)) no p.s:=by
  obtain ⟨e,h1,h2⟩:=(onB_of (p.R.ow n).e e :)
  obtain ⟨m0,hns,hm⟩:=p.R.fr
  refine kdu_sortedD (knd:=PySem.strKind X.prog X.w) (enc:=PyData.str) (L:=p.L.a) (h₀:=h00) (m:=m0) (news:=allBut p.s.heap [p.L.a]) (D:=[]) (fun k v q=>?_) p.hh.1 (fr_of hns) (news_of (.head _)) ⟨not_sys ok p e,[],h1,.nil⟩ (by simp) (fun B h' tk=>?_)
  · obtain ⟨t,rfl⟩:∃ t,v = .str k t:=by
      cases v <;> first | (rename_i x t; exact ⟨t,by have:Value.isStrOf k (.str x t) = true:=q; simp [Value.isStrOf] at this; rw [this]⟩) | (cases q; done)
    exact .str _ _
  · intro F' N' l1
    have hB:=(N' _ (.head _)).1
    refine wpAny_call_entry (self:=.ref B) (rest:=[]) PyProof.Rows.slot_list_sort ⟨_,hB,rfl⟩ PyProof.Rows.entry_list_sort (list_sort_tree (vs:=[]) (ns:=[]) hB .nil (by simp) (fun out ns' a1 a2 a3=>⟨_,rfl,?_⟩)) (PyProof.Rows.args_list_sort _)
    have e0:ns' = []:=List.Perm.eq_nil a2
    subst e0
    have eo:out = #[]:=by
      obtain ⟨l⟩:=out
      cases a1; rfl
    subst eo
    have hBL:B ≠ p.L.a:=(N' _ (.head _)).2.1
    obtain ⟨ee,hs⟩:=PyProof.Rows.sortedHeap_at (h:=h') (a:=B) (vs:=[]) (n:=0) (out:=#[]) hB
    have old:∀ b ob,b ≠ p.L.a → p.s.heap.get? b = some ob → (sortedHeap h' B [] #[]).get? b = some ob:=fun b ob hb q=>by
      have hm:=mem_allBut.mpr ⟨(by simpa using hb:b ∉ [p.L.a]),q⟩
      have g:=(N' _ (.tail _ hm)).1
      have lt:b < B:=l1 _ hm
      rw [PyProof.Rows.sortedHeap_old (Nat.ne_of_lt lt) (Heap.lt_size g)]
      exact g
    have hL:(sortedHeap h' B [] #[]).Ns p.L.a m0:=Ns_at F'.ns fun ob q=>by rw [PyProof.Rows.sortedHeap_old (Ne.symm hBL) (Heap.lt_size q)]; exact q
    refine p.new hm old hL (.list (l:=[]) (vs:=#[]) (ep:=ee) hs .nil) (fun b hb=>?_) tk ⟨w.o,h⟩
    rw [feet_list hs] at hb
    rw [List.mem_singleton.mp hb]
    cases q:p.s.heap.get? B with
    | none=>rfl
    | some ob=>exact absurd (l1 _ (mem_allBut.mpr ⟨(by simpa using hBL:B ∉ [p.L.a]),q⟩)) (Nat.lt_irrefl _)
theorem b_list {l:List AV} {z:Bool} {ad:Addr} (p:At X d F w.σ w.nx) (g:LsAt p.s.heap p.J w.nx p.ρ ad l) (h:szP z l (l.length ≤ sizeLine) (w.new (mkLO z l) k)) :
    wpAny p.M p.A (call (.type "list") [.ref ad]) (p.Ans (qE k)) no p.s:=by
  obtain ⟨hsz,h⟩:=szP_ok (fun z=>Nat.le_trans z size_big) h
  obtain ⟨vs,ep,g,hr⟩:=g
  exact call_list_seq ad (.inl rfl) g rfl rfl (fun h' c' hk hD=>⟨.loc w.nx,p.J,_,_,_,at_ext,p.R.new hk (mkLO_or (t:=z) hD (hr.mono at_grow)) (feet_new hD (fresh_none _)) p.s.toks,.new,w.o,h⟩) (by rw [len_ofL hr]; exact hsz)
theorem b_len_inst {C:Addr} {ci:ClsI} {as:List (Nat × AV)} {f:Addr} (ok:X.Ok K) (co:ClsOk K C ci) (e:gt σ n = some (.inst C as)) (ef:gt ci.at_ 256 = some (.fn f)) (p:At X (d + 1) F σ nx) {Q:QE}
    (h:Cl X d (.ref f) [.loc n] [] σ nx fun a σ' n'=>∃ q,asI a = some q∧(0 ≤ q.2∧q.2 < 2 ^ 63)∧Q a σ' n'):wpAny p.M p.A (call (.builtin "len") [.ref (p.ρ n)]) (p.Ans Q) no p.s:=by
  obtain ⟨dx,m,o,I⟩:=inst_of p.R e
  obtain ⟨e1,e2⟩:=co.len _ ef
  have KX:=p.R.KX ok
  refine Calls.call_function_entry kind_len plain_len entry_len (args_len1 _) ?_
  unfold Builtin.«len»
  refine wpAny_bind (m:=oneArg "len" _) (wpAny_pure ?_)
  refine wpAny_bind (m:=callSpecial? (.ref (p.ρ n)) (Str.ofString "__len__")) (special_fn KX I.i e1 e2 (wpAny_call (codeAny_mono (h F (p.inn p.R) [.ref (p.ρ n)] [] (.cons (.loc (p.R.st _ _ e).1) .nil) .nil) fun r s' z=>?_)))
  rcases r with e | (v | _ | _ | _) <;> first | exact z.elim | skip
  obtain ⟨a,J',ρ',σ',n',E,R',hv,⟨t,i⟩,ea,hi,hq⟩:=z
  have hi':=asI_vr ea hv
  obtain ⟨_,rfl⟩:=hi'
  refine wpAny_bind (wpAny_holding (wpAny_pure ?_))
  refine wpAny_bind (wpAny_letGo ?_)
  show wpAny _ _ (if i < 0 then _ else _) _ _ _
  rw [if_neg (Int.not_lt.mpr hi.1)]
  show wpAny _ _ (if i ≥ 2 ^ 63 then _ else _) _ _ _
  rw [if_neg (Int.not_le.mpr hi.2)]
  exact wpAny_bind (wpAny_mkInt (wpAny_pure ⟨_,rfl,a,J',ρ',σ',n',E,R'.toks _,asI_re ea hv,hq⟩))
theorem okLen_e {kk G:Prop} (h:okLen a kk) (g:∀ q,asI a = some q → (0 ≤ q.2∧q.2 < 2 ^ 63) → kk → G):G:=
  onS_e h fun q e h=>onB_e h (fun _ h=>g q e h.1 h.2) fun _ h=>onS_e h fun n _ h=>onT_e h fun hn h=>g q e (by
    have:q.2 = Int.ofNat n.1:=AV.int.inj n.2
    rw [this]
    exact ⟨Int.natCast_nonneg _,Int.ofNat_lt.mpr (Nat.lt_of_le_of_lt (Nat.le_of_ble_eq_true hn) (show 1000000 < 2 ^ 63 by decide))⟩) h
theorem lenA_ok (ok:X.Ok T.K) (to:TabOk T) (hc:ClR X d r) (h:lenA T r a w k) (p:At X (d + 1) F w.σ w.nx) (hv:p.VR a v):wpAny p.M p.A (call (.builtin "len") [v]) (p.Ans (qE k)) no p.s:=by
  refine onO_e h (fun l e h=>?_) fun _ h=>onO_e h (fun q e h=>?_) fun _ h=>onS_e h fun n en h=>loc_vr en hv ▸ inst_e to p.R h fun C as ci e hci co h=>onS_e h fun f _ h=>?_
  · obtain ⟨_,rfl,g⟩:=asT_vr e hv
    have h:=szP_ok (fun z=>Nat.lt_of_le_of_lt z (show 100000 < 2 ^ 62 by decide)) h
    exact b_len_tup (z:=false) p g h.1 h.2
  · obtain ⟨_,rfl,g⟩:=asL_vr p.R e hv
    have h:=szP_ok (fun z=>Nat.lt_of_le_of_lt z (show 100000 < 2 ^ 62 by decide)) h
    exact b_len_list p g h.1 h.2
  · exact b_len_inst ok co e f.2 p (Cl.mono (hc _ _ _ _ _ (loc_eq en ▸ h)) fun a' σ' n' ⟨o',z⟩=>okLen_e z fun q e hq z=>⟨q,e,hq,o',z⟩)
noncomputable def isBuiltin:Value → Bool
  | .builtin _=>true
  | .type _=>true
  | _=>false
theorem biV_is {z:Bi}:isBuiltin (biV z) = true:=by cases z <;> rfl
theorem call_b1 {J ρ} {as:List AV} {vs:List Value} {q:{ a // as = [a] }} (hv:VRs J nx ρ as vs):∃ v,vs = [v]∧VR J nx ρ q.1 v:=(q.2 ▸ hv:VRs J nx ρ [q.1] vs).one
theorem call_b2 {J ρ} {as:List AV} {vs:List Value} {q:{ p:AV × AV // as = [p.1,p.2] }} (hv:VRs J nx ρ as vs):∃ v u,vs = [v,u]∧VR J nx ρ q.1.1 v∧VR J nx ρ q.1.2 u:=(q.2 ▸ hv:VRs J nx ρ [q.1.1,q.1.2] vs).pr
theorem bi_ok (ok:X.Ok T.K) (to:TabOk T) (hc:ClR X d r) {z:Bi} {as:List AV} (h:bi T r z as w k) (p:At X (d + 1) F w.σ w.nx) {vs:List Value} (hv:p.VRs as vs):wpAny p.M p.A (call (biV z) vs) (p.Ans (qE k)) no p.s:=by
  cases z with
  | len=>
    exact onS_e h fun q _ h=>by
      obtain ⟨v,rfl,x⟩:=call_b1 (q:=q) hv
      exact lenA_ok ok to hc h p x
  | max=>
    exact onS_e h fun q _ h=>onS_e h fun i e1 h=>onS_e h fun j e2 h=>by
      obtain ⟨v,u,rfl,x,y⟩:=call_b2 (q:=q) hv
      obtain ⟨_,rfl⟩:=asI_vr e1 x
      obtain ⟨_,rfl⟩:=asI_vr e2 y
      exact b_max p h
  | min=>
    exact onS_e h fun q _ h=>onS_e h fun i e1 h=>onS_e h fun j e2 h=>by
      obtain ⟨v,u,rfl,x,y⟩:=call_b2 (q:=q) hv
      obtain ⟨_,rfl⟩:=asI_vr e1 x
      obtain ⟨_,rfl⟩:=asI_vr e2 y
      exact b_min p h
  | int=>
    exact onS_e h fun q _ h=>onS_e h fun i e1 h=>by
      obtain ⟨v,rfl,x⟩:=call_b1 (q:=q) hv
      obtain rfl:=asB_vr e1 x
      exact call_int_bool (p.qT mkI_vr h)
  | list=>
    exact onS_e h fun q _ h=>onS_e h fun i e1 h=>by
      obtain ⟨v,rfl,x⟩:=call_b1 (q:=q) hv
      obtain ⟨_,rfl,g⟩:=asL_vr p.R e1 x
      exact b_list p g h
  | set=>
    exact onT_e h fun e h=>by
      obtain rfl:=(List.isEmpty_iff.mp e ▸ hv:VRs p.J w.nx p.ρ [] vs).none
      exact b_set0 p h
  | sorted=>
    exact onS_e h fun q _ h=>onS_e h fun i e1 h=>onT_e h fun e2 h=>by
      obtain ⟨v,rfl,x⟩:=call_b1 (q:=q) hv
      obtain rfl:=loc_vr e1 x
      exact b_sorted_edict ok p e2 h
  | _=>exact Stop.no (n:=69) h
theorem isi_ok {z:Bi} {kk:Bool → Prop} (p:At X d F w.σ w.nx) (hv:p.VR a v) (h:isi a z kk) (hk:∀ c,kk c → k (.bool c) w):wpAny p.M p.A (call (.builtin "isinstance") [v,biV z]) (p.Ans (qE k)) no p.s:=by
  cases z with
  | tuple=>
    refine onO_e h (fun q e h=>?_) fun _ h=>onS_e h fun l e h=>?_
    · obtain ⟨_,rfl⟩:=asI_vr e hv; exact PySem.IsiPair.int_tuple (p.qT .bool (hk _ h))
    · obtain ⟨_,rfl,vs,ep,g,_⟩:=asT_vr e hv; exact PySem.IsiPair.tuple_tuple (p.R.jx g) rfl (p.q .bool (hk _ h))
  | int=>exact onS_e h fun q e h=>by obtain ⟨_,rfl⟩:=asI_vr e hv; exact PySem.IsiPair.int_int (p.qT .bool (hk _ h))
  | _=>exact Stop.no (n:=86) h
end
end Mine
namespace Mine
noncomputable def prs (pos:Pos) (env:Env):List (Option PySem.Expr) → List PySem.Expr → List (Sem Value × Sem Value)
  | some q :: qs,e :: es=>(eval q env,do let x ← eval e env; standAt pos; pure x) :: prs pos env qs es
  | _,_=>[]
theorem prs_shape {pos:Pos} {env:Env}:∀ {qs:List (Option PySem.Expr)} {es:List PySem.Expr},dOk qs es = true → (evalEachOpt qs env).zip ((evalEach es env).map fun v=>do let x ← v; standAt pos; pure x) = (prs pos env qs es).map fun p=>(some p.1,p.2)
  | [],[],_=>rfl
  | some q :: qs,e :: es,h=>by
    have ih:=prs_shape (pos:=pos) (env:=env) (qs:=qs) (es:=es) h
    show (evalOpt (some q) env,(do let x ← eval e env; standAt pos; pure x)) :: ((evalEachOpt qs env).zip ((evalEach es env).map fun v=>do let x ← v; standAt pos; pure x)) = _
    rw [ih]; rfl
  | [],_ :: _,h=>by cases h
  | none :: _,_,h=>by cases h
  | some _ :: _,[],h=>by cases h
theorem prs_len {pos:Pos} {env:Env}:∀ {qs:List (Option PySem.Expr)} {es:List PySem.Expr},dOk qs es = true → (prs pos env qs es).length = qs.length
  | [],[],_=>rfl
  | some q :: qs,e :: es,h=>by
    have ih:=prs_len (pos:=pos) (env:=env) (qs:=qs) (es:=es) h
    simp only [prs,List.length_cons,ih]
  | [],_ :: _,h=>by cases h
  | none :: _,_,h=>by cases h
  | some _ :: _,[],h=>by cases h
section
variable {X:Cx} {T:Tab} {K:Frag} {d:Nat} {F:Frame} {σ:Store} {nx:Nat} {a b c:AV} {v u t:Value} {w:W} {k:KE} {fd:FuncData} {r:PySem.Expr → W → KE → Prop} {n:Nat} {x:Str}
inductive AnsD (X:Cx) (J:Frozen) (nx:Nat) (ρ:Nat → Addr) (L:Lk) (F:Frame) (k:List (Str × AV) → W → Prop) (vs:List (Value × Value)) (s':Shared):Prop
  | mk (ws:List (Str × Value)) (kv:List (Str × AV)) (J':Frozen) (ρ':Nat → Addr) (σ':Store) (nx':Nat) (o:List Hint) (E:Ext J nx ρ J' nx' ρ') (R:Rel X J' ρ' L F σ' nx' s') (c:Carries (PySem.strKind X.prog X.w) vs ws) (x:KVR J' nx' ρ' kv ws) (z:∀ q ∈ kv,cd q.1 ≠ 0) (q:k kv ⟨o,σ',nx'⟩)
theorem evd_ok (hr:EvOk X d fd F r) {pos:Pos}:∀ (qs:List (Option PySem.Expr)) (es:List PySem.Expr) {w:W} {k:List (Str × AV) → W → Prop},evd r qs es w k → ∀ p:At X d F w.σ w.nx,
    wpAny p.M p.A (evalPairs (prs pos (p.env fd) qs es)) (AnsD X p.J w.nx p.ρ p.L F k) no p.s
  | [],[],w,k,h,p=>evalPairs_nil ⟨[],[],p.J,p.ρ,w.σ,w.nx,w.o,.refl,p.R,trivial,.nil,(fun q hq=>nomatch hq),h⟩
  | some q :: qs,e :: es,w,k,h,p=>
    evalPairs_cons (an (hr _ _ _ h p) fun v a J1 ρ1 σ1 n1 s1 R1 E1 x1 ⟨o1,h1⟩=>onS_e h1 fun q e1 h1=>onB_e h1 (fun _ h1=>Stop.no h1) fun hx h1=>by
      obtain ⟨_,rfl⟩:=asS_vr e1 x1
      refine wpAny_bind (an (hr _ _ _ h1 (p.to R1)) fun u b J2 ρ2 σ2 n2 s2 R2 E2 x2 ⟨o2,h2⟩=>wpAny_bind (wpAny_standAt (wpAny_pure ?_)))
      exact wpAny_mono (evd_ok hr qs es h2 (p.to R2)) (fun vs s3 ⟨ws,kv,J3,ρ3,σ3,n3,o3,E3,R3,c3,x3,z3,h3⟩=>⟨(q.2,u) :: ws,(q.2,b) :: kv,J3,ρ3,σ3,n3,o3,(E1.trans E2).trans E3,R3,⟨is_str _ _,rfl,c3⟩,.cons (x2.mono E3.grow) x3,List.forall_mem_cons.mpr ⟨nz hx,z3⟩,h3⟩) fun _ _ z=>z)
  | [],_ :: _,w,k,h,p=>Stop.no (n:=23) h
  | none :: _,[],w,k,h,p=>Stop.no (n:=23) h
  | none :: _,_ :: _,w,k,h,p=>Stop.no (n:=23) h
  | some _ :: _,[],w,k,h,p=>Stop.no (n:=23) h
theorem stored_nodup {K:Type} [DecidableEq K] {kvs:List (K × Value)} {k:K} {v:Value} (h:(kvs.map (·.1)).Nodup):((stored kvs k v).map (·.1)).Nodup:=by
  unfold stored
  split
  · have:(kvs.map (fun kv=>if kv.1 = k then (kv.1,v) else kv)).map (·.1) = kvs.map (·.1):=by
      rw [List.map_map]
      refine List.map_congr_left fun p _=>?_
      show (if p.1 = k then (p.1,v) else p).1 = p.1
      split <;> rfl
    rw [this]; exact h
  · rename_i hn
    rw [List.map_append,List.nodup_append]
    refine ⟨h,List.nodup_cons.mpr ⟨List.not_mem_nil,List.nodup_nil⟩,fun a ha b hb e=>?_⟩
    obtain rfl:=List.mem_singleton.mp hb
    obtain ⟨p,hp,rfl⟩:=List.mem_map.mp ha
    exact hn (List.any_eq_true.mpr ⟨p,hp,decide_eq_true e⟩)
theorem mrg_vr {J ρ} {kv:List (Str × AV)} {ws:List (Str × Value)} (h:KVR J nx ρ kv ws) (hz:∀ q ∈ kv,cd q.1 ≠ 0) {acc:List (Str × AV)} {av:List (Str × Value)} (ha:KVR J nx ρ acc av) (hn:(av.map (·.1)).Nodup):KVR J nx ρ (mrg acc kv) (merged av ws):=by
  induction h generalizing acc av with
  | nil=>exact ha
  | cons h hs ih=>
    obtain ⟨h1,h2⟩:=List.forall_mem_cons.mp hz
    exact ih h2 (ha.sto h1 h hn) (stored_nodup hn)
/-- an object frozen for a while,changed,thawed -/
theorem Rel.thawed {J ρ L s} {a:Addr} {ob:Obj} {h':Heap} (R:Rel X J ρ L F σ nx s) (e:J a = some ob) (hi:¬ Imm ob) (h0:X.h₀.get? a = none) (hs:Heap.SameBut a s.heap h') (t:Nat) (hc:ob.cls ≠ fcls:=by (intro z; exact absurd (Value.type.inj z) (by decide))):Rel X (del J a) ρ L F σ nx { s with heap:=h',toks:=t }:=by
  have g:=del_grow (nx:=nx) (ρ:=ρ) e hi
  have hL:L.a ≠ a:=fun z=>by rw [← z,R.Lj] at e; cases e
  refine R.same (s':={ s with heap:=h',toks:=t }) g (fun b o hb _ q=>(hs.2 b fun z=>by rw [z,e] at hb; cases hb).trans q) (fun b o q=>?_) (fun b o q=>?_) R.gens R.os (fun b q=>?_) ?_ (.inl rfl) ?_ (R.up_del e hc)
  · unfold del at q
    split at q
    · cases q
    · rename_i z; exact (R.jh b o q).of fun _ w=>(hs.2 b z).trans w
  · unfold del
    split
    · rename_i z; rw [z,h0] at q; cases q
    · exact R.hj b o q
  · unfold del at q
    split at q
    · exact absurd rfl q
    · exact .inl q
  · unfold del
    split
    · rfl
    · exact R.Lj
  · obtain ⟨m,h1,h2⟩:=R.fr
    exact ⟨m,Ns_at h1 fun ob q=>(hs.2 L.a hL).trans q,FrOk.mono g h2⟩
theorem dict_arm (hr:EvOk X d fd F r) {qs:List (Option PySem.Expr)} {es:List PySem.Expr} {pos:Pos} (hl:Nat.ble qs.length 15 = true) (hne:qs ≠ []) (hd:dOk qs es = true) (h:evd r qs es w fun kv w=>w.new (.dict (mrg [] kv)) k):Ev X d fd F (fun env=>eval (.Dict qs es pos) env) w.σ w.nx (qE k):=fun p=>by
  have len:=prs_len (pos:=pos) (env:=p.env fd) hd
  refine wpAny_Dict_pairs (knd:=PySem.strKind X.prog X.w) (prs_shape hd) (fun z=>hne (List.length_eq_zero_iff.mp (by rw [← len,z]; rfl))) (by rw [len]; exact Nat.le_of_ble_eq_true hl) ?_
  have R1:=p.R.freeze (ob:={ cls:=.type "dict",data:=.dict #[] }) rfl p.s.toks
  have E1:Ext p.J w.nx p.ρ (put p.J p.s.heap.objs.size { cls:=.type "dict",data:=.dict #[] }) w.nx p.ρ:=put_ext p.R.J_fresh
  have hi:¬ Imm { cls:=.type "dict",data:=.dict #[] }:=fun ⟨_,_,z⟩=>by cases z
  refine wpAny_mono (evd_ok hr qs es h (p.to R1)) (fun vs s1 z=>?_) fun _ _ z=>z
  obtain ⟨ws,kv,J2,ρ2,σ2,n2,o2,E2,R2,c2,x2,z2,h2⟩:=z
  have hJ:J2 p.s.heap.objs.size = some { cls:=.type "dict",data:=.dict #[] }:=E2.j _ _ put_self
  have h0:X.h₀.get? p.s.heap.objs.size = none:=by
    cases q:X.h₀.get? p.s.heap.objs.size with
    | none=>rfl
    | some o=>have:=p.R.hj _ _ q; rw [p.R.J_fresh] at this; cases this
  have g:=R2.jx hJ
  refine ⟨ws,c2,⟨_,_,_,g,⟨rfl,rfl,rfl⟩,rfl,(fun e he=>by simp at he),.nil,List.nodup_nil⟩,fun h' hD hs=>?_⟩
  have R3:=R2.thawed hJ hi h0 hs (s1.toks + vs.length)
  have E3:Ext p.J w.nx p.ρ (del J2 p.s.heap.objs.size) n2 ρ2:=E2.drop p.R.J_fresh
  have gr:=del_grow (nx:=n2) (ρ:=ρ2) hJ hi
  obtain ⟨ob,_,_,g',hx',_⟩:=id hD
  have ft:feet h' p.s.heap.objs.size = [p.s.heap.objs.size]:=by rw [feet_of g',hx'.2.1]; rfl
  have R4:=R3.add (a:=p.s.heap.objs.size) (o:=.dict (mrg [] kv)) (.dict hD (((mrg_vr x2 z2 .nil List.nodup_nil).mono gr).mono at_grow)) (fun b hb=>?_) (fun n o e b hb hb'=>?_)
  · exact ⟨.loc n2,_,_,_,_,E3.trans at_ext,R4,.new,o2,h2⟩
  · have hb:b ∈ feet h' p.s.heap.objs.size:=hb
    rw [ft] at hb
    rw [List.mem_singleton.mp hb]
    exact ⟨by unfold del; rw [if_pos rfl],fun z=>by rw [z,R2.Lj] at hJ; cases hJ⟩
  · have hb':b ∈ feet h' p.s.heap.objs.size:=hb'
    rw [ft] at hb'
    rw [List.mem_singleton.mp hb'] at hb
    have out:p.s.heap.objs.size ∉ feet s1.heap (ρ2 n):=fun z=>by
      have:=((R2.st n o e).2.2 _ z).1
      rw [hJ] at this; cases this
    have fe:feet h' (ρ2 n) = feet s1.heap (ρ2 n):=(R2.st n o e).2.1.feet_eq fun b hb ob q=>(hs.2 b fun z=>out (z ▸ hb)).trans q
    have hb:p.s.heap.objs.size ∈ feet h' (ρ2 n):=hb
    rw [fe] at hb
    exact out hb
end
end Mine
namespace Mine
section
variable {X:Cx} {T:Tab} {K:Frag} {d:Nat} {F:Frame} {σ:Store} {nx:Nat} {a b c:AV} {v u t:Value} {w:W} {k:KE} {fi:Fi} {n:Nat} {x:Str} {J:Frozen} {ρ:Nat → Addr}
theorem bcwV {z:Value} {r:PySem.Expr → W → KE → Prop} {pos:Pos} {es:List PySem.Expr} {Q:QE} {k:KL} (hz:isBuiltin z = true) (hr:EvOk X d fi.fd F r) (hp:plainAll es = true) (h:evl r es w k) (p:At X d F w.σ w.nx)
    (H:∀ as w',k as w' → ∀ (p':At X d F w'.σ w'.nx) vs,p'.VRs as vs → wpAny p'.M p'.A (call z vs) (p'.Ans Q) no p'.s) :
    wpAny p.M p.A (callWith pos z [] (backTo pos (starEach es (p.env fi.fd))) []) (p.Ans Q) no p.s:=by
  have go:∀ f,wpAny p.M p.A (evalArgs f true (backTo pos (starEach es (p.env fi.fd))) []) (fun a s₁=>wpAny p.M p.A (call z ([] ++ a.pos) a.kw) (p.Ans Q) no s₁) no p.s:=fun f=>
    evl_plain hr h p fun vs as J1 ρ1 σ1 n1 s1 R1 E1 x1 ⟨o1,h1⟩=>wpAny_mono (H as _ h1 (p.to R1) vs x1) (fun _ _ z=>Ans.ext E1 z) fun _ _ z=>z
  cases z with
  | type=>exact PyProof.Rows.callWith_type (plain_any hp) (go _)
  | builtin=>exact Calls.callWith_builtin (plain_any hp) (go _)
  | _=>cases hz
variable {r:Rec}
theorem callB_ok (ok:X.Ok T.K) (to:TabOk T) (bo:BiOk T) (nm:NmOk fi.fd fi.nm) (hr:EvOk X d fi.fd F (r.ev fi F)) (hc:ClR X d r) {ps pos:Pos} {args:List PySem.Expr} {z:Bi} (e:gt fi.nm (cd x) = some false) (e2:gt T.glob (cd x) = some (.bi z)) (hp:plainAll args = true)
    (h:evl (r.ev fi F) args w fun vs w=>bi T r z vs w k):Ev X (d + 1) fi.fd F (fun env=>eval (.Call (.Name x ps) args [] pos) env) w.σ w.nx (qE k):=fun p=>
  let ⟨b1,b2⟩:=bo.bi _ _ e2
  wpAny_Call_Name_kw (bui_ok ok nm p e b1 b2 (bcwV (d:=d + 1) biV_is (fun e w k h p=>hr e w k h p.less) hp h p fun as w' hk p' vs hv=>bi_ok ok to hc hk p' hv))
/-- a walk that knows its continuation less -/
noncomputable def lessR (r:PySem.Expr → W → KE → Prop) (y:Str) (z:Value):PySem.Expr → W → KE → Prop:=fun e w K=>(∃ K0,r e w K0∧∀ a w,K0 a w → K a w) ∨ ∃ py,e = .Name y py∧K (.stat z) w
theorem lessR_ok {z:Value} {r:PySem.Expr → W → KE → Prop} (hr:EvOk X d fi.fd F r) (hn:∀ (p:At X (d + 1) F σ nx) {py:Pos} {P:Value → Shared → Prop},P z p.s → wpAny p.M p.A (eval (.Name x py) (p.env fi.fd)) P no p.s) {e:PySem.Expr} {K:KE} (h:lessR r x z e w K) (e1:w.σ = σ) (e2:w.nx = nx):Ev X (d + 1) fi.fd F (fun env=>eval e env) w.σ w.nx (qE K):=fun p=>by
  subst e1 e2
  rcases h with ⟨K0,h1,h2⟩ | ⟨py,rfl,h1⟩
  · exact an (hr _ _ _ h1 p.less) fun v a J1 ρ1 σ1 n1 s1 R1 E1 x1 ⟨o1,q1⟩=>Ans.ext E1 ((p.to R1).q x1 (h2 _ _ q1))
  · exact hn p (p.q .stat h1)
theorem callI1 (ok:X.Ok T.K) (bo:BiOk T) (nm:NmOk fi.fd fi.nm) (hr:EvOk X d fi.fd F (r.ev fi F)) {ps pos:Pos} {m:PySem.Expr} {y:Str} {b:Bi} {args:List PySem.Expr} (ea:∃ py,args = [m,.Name y py]) (e:gt fi.nm (cd x) = some false) (e2:gt T.glob (cd x) = some (.bi .isi)) (ez:gt fi.nm (cd y) = some false) (eb:gt T.glob (cd y) = some (.bi b)) (hp:plainE m = true) (h:r.ev fi F m w fun a w=>isi a b fun c=>k (.bool c) w) :
    Ev X (d + 1) fi.fd F (fun env=>eval (.Call (.Name x ps) args [] pos) env) w.σ w.nx (qE k):=fun p=>by
  obtain ⟨py,rfl⟩:=ea
  have b1:=bo.bi _ _ e2
  have c1:=bo.bi _ _ eb
  refine wpAny_Call_Name_kw (bui_ok ok nm p e b1.1 b1.2 (bcwV (d:=d + 1) (es:=[m,.Name y py]) (z:=.builtin "isinstance") (r:=lessR (r.ev fi F) y (biV b)) (k:=fun as w=>∃ a,as = [a,.stat (biV b)]∧isi a b fun c=>k (.bool c) w) rfl (fun e w K h=>lessR_ok hr (fun p {py P} q=>bui_ok ok nm p ez c1.1 c1.2 q) h rfl rfl) (show cond (plainE m) true false = true by rw [hp]; rfl) ?_ p fun as w' ⟨a,ea,hk⟩ p' vs hv=>?_))
  · show onT 133 (plainE m) _
    rw [hp]
    exact .inl ⟨_,h,fun a w q=>.inr ⟨py,rfl,a,rfl,q⟩⟩
  · obtain ⟨v,u,rfl,x1,x2⟩:=(ea ▸ hv:VRs p'.J w'.nx p'.ρ [a,.stat (biV b)] vs).pr
    cases x2
    exact isi_ok p' x1 hk fun _ q=>q
theorem callI_ok (ok:X.Ok T.K) (bo:BiOk T) (nm:NmOk fi.fd fi.nm) (hr:EvOk X d fi.fd F (r.ev fi F)) {ps pos:Pos} {args:List PySem.Expr} (e:gt fi.nm (cd x) = some false) (e2:gt T.glob (cd x) = some (.bi .isi)) (h:callI T r fi F args w k):Ev X (d + 1) fi.fd F (fun env=>eval (.Call (.Name x ps) args [] pos) env) w.σ w.nx (qE k):=
  onS_e h fun q _ h=>onS_e h fun z ez h=>onB_e h (fun _ h=>Stop.no h) fun ezf h=>onS_e h fun b eb h=>onT_e h fun hp h=>callI1 ok bo nm hr q.2 e e2 (ezf ▸ ez) b.2 hp h
theorem callN_ok (ok:X.Ok T.K) (to:TabOk T) (bo:BiOk T) (nm:NmOk fi.fd fi.nm) (hr:EvOk X d fi.fd F (r.ev fi F)) (hc:ClR X d r) {ps pos:Pos} {args:List PySem.Expr} {kws:List Keyword} (e:gt fi.nm (cd x) = some false) (h:callN T r fi F x args kws w k (gt T.glob (cd x))) :
    Ev X (d + 1) fi.fd F (fun env=>eval (.Call (.Name x ps) args kws pos) env) w.σ w.nx (qE k):=
  onO_e h (fun f _ h=>callF_ok ok to nm hr hc e f.2 h) fun _ h=>onO_e h (fun C _ h=>callC_ok ok to nm hr hc e C.2 h) fun _ h=>onS_e h fun b _ h=>onT_e h fun hk h=>by
    obtain rfl:=List.isEmpty_iff.mp hk
    exact onO_e h (fun hi _ h=>callI_ok ok bo nm hr e (hi.down ▸ b.2) h) fun _ h=>onT_e h fun hp h=>callB_ok ok to bo nm hr hc e b.2 hp h
theorem callE_ok (ok:X.Ok T.K) (to:TabOk T) (bo:BiOk T) (nm:NmOk fi.fd fi.nm) (hr:EvOk X d fi.fd F (r.ev fi F)) (hc:ClR X d r) {fn:PySem.Expr} {pos:Pos} {args:List PySem.Expr} {kws:List Keyword} (h:callE T r fi F fn args kws pos w k) :
    Ev X (d + 1) fi.fd F (fun env=>eval (.Call fn args kws pos) env) w.σ w.nx (qE k):=by
  cases fn with
  | Attribute o x ap=>
    exact onB_e h (fun hm h=>callM_ok ok to hr hc hm h) fun _ h=>onT_e h fun hk h=>onS_e h fun q _ h=>callS_ok ok to hr hc q.2 (List.isEmpty_iff.mp hk) h
  | Name x ps=>exact onS_e h fun z ez h=>onB_e h (fun _ h=>Stop.no h) fun ezf h=>callN_ok ok to bo nm hr hc (ezf ▸ ez) h
  | _=>exact Stop.no (n:=91) h
theorem dictE_ok (hr:EvOk X d fi.fd F (r.ev fi F)) {ks:List (Option PySem.Expr)} {vs:List PySem.Expr} {ps:Pos} (h:evF T r fi F (.Dict ks vs ps) w k):Ev X (d + 1) fi.fd F (fun env=>eval (.Dict ks vs ps) env) w.σ w.nx (qE k):=
  onB_e h (fun e h=>by
    obtain ⟨e1,e2⟩:=cond_e e
    obtain rfl:=List.isEmpty_iff.mp e1
    obtain rfl:=List.isEmpty_iff.mp e2
    exact edict_arm h) fun ne h=>onT_e h fun hl h=>onT_e h fun hd h p=>dict_arm hr hl (fun z=>by
      subst z
      cases vs with
      | nil=>cases ne
      | cons v vs=>cases hd) hd h p.less
theorem evF_ok (ok:X.Ok T.K) (to:TabOk T) (bo:BiOk T) (nm:NmOk fi.fd fi.nm) (hr:EvOk X d fi.fd F (r.ev fi F)) (ht:TrOk X d fi.fd F (r.tr fi F)) (hc:ClR X d r) {e:PySem.Expr} (h:evF T r fi F e w k):Ev X (d + 1) fi.fd F (fun env=>eval e env) w.σ w.nx (qE k):=by
  cases e with
  | Name x ps=>exact name_ok ok to nm h
  | Constant c i ps=>exact const_arm h
  | Attribute o x ps=>exact onT_e h fun hb h=>attr_arm ok to hr hc hb h
  | Subscript o i ps=>exact sub_arm ok to hr hc h
  | BinOp l op m ps=>exact bin_arm hr h
  | UnaryOp op m ps=>
    cases op with
    | USub=>exact neg_arm hr h
    | _=>exact Stop.no (n:=97) h
  | Compare l ops cs ps=>exact cmp_arm ok hr h
  | IfExp t b o ps=>exact if_arm hr ht h
  | Tuple es i ps=>exact onT_e h fun hb h p=>tuple_ok hr hb h p.less
  | List es ps=>exact onT_e h fun hb h p=>list_ok hr hb h p.less
  | Dict ks vs ps=>exact dictE_ok hr h
  | Call fn args kws ps=>exact callE_ok ok to bo nm hr hc h
  | _=>exact Stop.no (n:=97) h
theorem trF_ok (ok:X.Ok T.K) (hr:EvOk X d fi.fd F (r.ev fi F)) (ht:TrOk X d fi.fd F (r.tr fi F)) {e:PySem.Expr} {k:KB} (h:trF r fi F e w k):Tr X (d + 1) fi.fd F (fun env=>isTrue e env (eval e env)) w.σ w.nx (qB k):=by
  cases e with
  | UnaryOp op m ps=>
    cases op with
    | Not=>exact not_arm ht h
    | _=>exact Stop.no (n:=129) h
  | BoolOp op es ps=>
    cases op with
    | And=>exact and_arm ht es h
    | Or=>exact or_arm ht es h
  | Compare l ops cs ps=>exact cmpt_arm ok hr h
  | Name x ps=>exact plain_arm hr (fun _=>rfl) h
  | Attribute o x ps=>exact plain_arm hr (fun _=>rfl) h
  | Call fn args kws ps=>exact plain_arm hr (fun _=>rfl) h
  | _=>exact Stop.no (n:=129) h
end
end Mine
namespace Mine
/-- an object that an iterator is -/
structure Good (o:Obj):Prop where
  i:¬ Imm o
  c:o.cls ≠ fcls
section
variable {X:Cx} {T:Tab} {K:Frag} {d:Nat} {F:Frame} {σ:Store} {nx:Nat} {a b c:AV} {v u t:Value} {w:W} {fd:FuncData} {n:Nat} {x:Str} {J J':Frozen} {ρ ρ':Nat → Addr} {nx':Nat} {L:Lk} {s:Shared} {h':Heap} {I:Addr} {o o':Obj} {S:Addr → Prop}
theorem swap_grow (hS:∀ a,S a → ∃ o,J a = some o∧¬ Imm o) (hJ:∀ a,¬ S a → J' a = J a):Grow J nx ρ J' nx ρ:=⟨fun b o q i=>by
    by_cases z:S b
    · obtain ⟨o',e,hi⟩:=hS b z
      rw [e] at q; cases q; exact absurd i hi
    · rw [hJ b z]; exact q,Nat.le_refl _,fun _ _=>rfl⟩
/-- objects kept for a while (an iterator's),changed -/
theorem Rel.swap (R:Rel X J ρ L F σ nx s) (hS:∀ a,S a → ∃ o,J a = some o∧Good o) (h0:∀ a,S a → X.h₀.get? a = none) (hJ:∀ a,¬ S a → J' a = J a)
    (hJ':∀ a o,S a → J' a = some o → h'.get? a = some o) (hk:∀ b ob,¬ S b → s.heap.get? b = some ob → h'.get? b = some ob) (t:Nat):Rel X J' ρ L F σ nx { s with heap:=h',toks:=t }:=by
  have g:Grow J nx ρ J' nx ρ:=swap_grow (fun a z=>let ⟨o,e,q⟩:=hS a z; ⟨o,e,q.i⟩) hJ
  have nS:∀ b,J b = none → ¬ S b:=fun b e z=>by obtain ⟨o',e',_⟩:=hS b z; rw [e] at e'; cases e'
  refine R.same (s':={ s with heap:=h',toks:=t }) g (fun b o hb _ q=>hk b o (nS b hb) q) (fun b o q=>?_) (fun b o q=>?_) R.gens R.os (fun b q=>.inl ?_) ((hJ L.a (nS _ R.Lj)).trans R.Lj) (.inl rfl) (let ⟨m,h1,h2⟩:=R.fr; ⟨m,Ns_at h1 fun ob q=>hk L.a ob (nS _ R.Lj) q,FrOk.mono g h2⟩) (fun b hb=>?_)
  · by_cases z:S b
    · exact .inl (hJ' b o z q)
    · rw [hJ b z] at q; exact (R.jh b o q).of fun _=>hk b _ z
  · rw [hJ b fun z=>by rw [h0 b z] at q; cases q]; exact R.hj b o q
  · by_cases z:S b
    · obtain ⟨o,e,_⟩:=hS b z; rw [e]; exact fun y=>by cases y
    · rw [hJ b z] at q; exact q
  · obtain ⟨o,q,m⟩:=R.up b hb
    exact ⟨o,(hJ b fun z=>by obtain ⟨o',e,hg⟩:=hS b z; rw [q] at e; cases e; exact hg.c m.1.1).trans q,m⟩
/-- an iterator's object,kept -/
structure Itr (X:Cx) (J:Frozen) (I:Addr) (o:Obj):Prop where
  j:J I = some o
  g:Good o
  h:X.h₀.get? I = none
theorem put_other {J:Frozen} {a b:Addr} {o:Obj} (z:b ≠ a):put J a o b = J b:=if_neg z
theorem del_other {J:Frozen} {a b:Addr} (z:b ≠ a):del J a b = J b:=if_neg z
theorem del_self {J:Frozen} {a:Addr}:del J a a = none:=if_pos rfl
theorem Itr.swap (h:Itr X J I o) (R:Rel X J ρ L F σ nx s) (g:h'.get? I = some o') (hk:∀ b ob,b ≠ I → s.heap.get? b = some ob → h'.get? b = some ob) (t:Nat):Rel X (put J I o') ρ L F σ nx { s with heap:=h',toks:=t }:=
  R.swap (S:=fun b=>b = I) (fun b z=>⟨o,z ▸ h.j,h.g⟩) (fun b z=>z ▸ h.h) (fun b z=>if_neg z) (fun b q z y=>by
    rw [z,if_pos rfl] at y; cases y; rw [z]; exact g) hk t
theorem Itr.put (h:Itr X J I o) (hg:Good o'):Itr X (put J I o') I o':=⟨put_self,hg,h.h⟩
theorem Itr.grow (h:Itr X J I o):Grow J nx ρ (Mine.put J I o') nx ρ:=swap_grow (S:=fun b=>b = I) (fun b z=>⟨o,z ▸ h.j,h.g.i⟩) fun b z=>if_neg z
theorem Itr.ext (h:Itr X J I o) (E:Ext J nx ρ J' nx' ρ'):Itr X J' I o:=⟨E.j _ _ h.j,h.g,h.h⟩
theorem Itr.drop (h:Itr X J I o) (R:Rel X J ρ L F σ nx s) (hk:∀ b ob,b ≠ I → s.heap.get? b = some ob → h'.get? b = some ob) (t:Nat):Rel X (del J I) ρ L F σ nx { s with heap:=h',toks:=t }:=
  R.swap (S:=fun b=>b = I) (fun b z=>⟨o,z ▸ h.j,h.g⟩) (fun b z=>z ▸ h.h) (fun b z=>if_neg z) (fun b q z y=>by
    rw [z,if_pos rfl] at y; cases y) hk t
theorem Ext.put1 (h:J I = none) (E:Ext J nx ρ J' nx' ρ'):Ext J nx ρ (put J' I o) nx' ρ':=⟨fun b ob q=>(put_other fun z=>by rw [z,h] at q; cases q).trans (E.j b ob q),E.n,E.r⟩
theorem Ext.del1 (h:J I = none) (E:Ext J nx ρ J' nx' ρ'):Ext J nx ρ (del J' I) nx' ρ':=⟨fun b ob q=>(del_other fun z=>by rw [z,h] at q; cases q).trans (E.j b ob q),E.n,E.r⟩
theorem Rel.h0_fresh (R:Rel X J ρ L F σ nx s) (h:J I = none):X.h₀.get? I = none:=by
  cases q:X.h₀.get? I with
  | none=>rfl
  | some o=>have:=R.hj _ _ q; rw [h] at this; cases this
/-! loops -/
noncomputable abbrev StoOk (X:Cx) (d:Nat) (fd:FuncData) (t:PySem.Expr) (a:AV) (F:Frame) (w:W) (H:Frame → W → Prop):Prop:=∀ (p:At X d F w.σ w.nx) v,p.VR a v → wpAny p.M p.A (assign t (p.env fd) v) (p.AnsF (qF H)) no p.s
noncomputable abbrev Turn (X:Cx) (d:Nat) (fd:FuncData) (t:PySem.Expr) (body:List Stmt) (a:AV) (F:Frame) (w:W) (N:Frame → Store → Nat → Prop):Prop:=
  ∃ H:Frame → W → Prop,StoOk X d fd t a F w H∧∀ F' w',H F' w' → Xs X d fd F' (fun env=>execs body env) w'.σ w'.nx fun φ F2 σ2 n2=>φ = .next∧N F2 σ2 n2
theorem FlR.next (x:FlR J nx ρ .next fl):fl = .next:=by cases fl <;> first | rfl | exact x.elim
/-- a turn's store and body -/
theorem turn_ok {t:PySem.Expr} {body:List Stmt} {N:Frame → Store → Nat → Prop} (p:At X d F w.σ w.nx) (T:Turn X d fd t body a F w N) (hv:p.VR a v) {P:Flow → Shared → Prop} {E1 E2:Value → Shared → Prop}
    (k:∀ J' ρ' F' σ' n' s',Ext p.J w.nx p.ρ J' n' ρ' → Rel X J' ρ' p.L F' σ' n' s' → N F' σ' n' → P .next s'):wpAny p.M p.A (assign t (p.env fd) v) (fun _ s2=>wpAny p.M p.A (execs body (p.env fd)) P E1 s2) E2 p.s:=
  let ⟨H,h1,h2⟩:=T
  wpAny_mono (h1 p v hv) (fun _ s3 ⟨F3,J3,ρ3,σ3,n3,E3,R3,o3,h3⟩=>wpAny_mono (h2 _ _ h3 (p.to R3)) (fun fl s4 ⟨φ,F4,J4,ρ4,σ4,n4,E4,R4,x4,e,h4⟩=>by
    subst e
    rw [x4.next]
    exact k J4 ρ4 F4 σ4 n4 s4 (E3.trans E4) R4 h4) fun _ _ z=>z.elim) fun _ _ z=>z.elim
theorem tgt_or {t:PySem.Expr} (h:tgt1 t = true):(∃ x ps,t = .Name x ps) ∨ ∃ es i ps,t = .Tuple es i ps:=by
  unfold tgt1 at h
  cases q:nmE t with
  | some z=>exact .inl ⟨_,_,z.2⟩
  | none=>cases q2:tupE t with
    | some z=>exact .inr ⟨_,z.2⟩
    | none=>rw [q,q2] at h; cases h
noncomputable def iterO (ad:Addr) (j:Nat):Obj → Prop:=fun o=>o.cls = .type "list_iterator"∧o.data = .fields #[.ref ad,.int j 0]
theorem iterO_good {ad:Addr} {j:Nat} {o:Obj} (h:iterO ad j o):Good o:=⟨(fun ⟨_,_,z⟩=>by rw [h.2] at z; cases z),fun z=>by rw [h.1] at z; exact absurd (Value.type.inj z) (by decide)⟩
theorem letGo_list {t:PySem.Expr} (ht:tgt1 t = true) {M:Model} {A:Around} {ad:Addr} {j:Nat} {Q:Unit → Shared → Prop} {E:Value → Shared → Prop} (hit:s.heap.IsListIter I ad j) (hq:Q () s):wpAny (model X.prog X.w) A (letOwnedTupleGo t (.ref I) v) Q E s:=by
  rcases tgt_or ht with ⟨_,_,rfl⟩ | ⟨_,_,_,rfl⟩
  · exact wpAny_of_eq rfl hq
  · cases v with
    | ref T=>exact wpAny_letOwnedTupleGo_listiter hit hq
    | _=>exact wpAny_of_eq rfl hq
noncomputable abbrev loopQ (p:At X d F σ nx) (fd:FuncData) (R:QS):Result → Shared → Prop:=fun r s'=>match r with | .ok f=>p.AnsS R f s' | .error e=>cameBackBy p.M p.A (p.env fd) no e s'
/-- where a loop over a list stands -/
inductive LsI (p:At X d F w.σ w.nx) (I ad:Addr) (a:AV) (G:Nat → Nat → Frame → W → Prop) (m:Nat) (s:Shared):Prop
  | mk (j:Nat) (F':Frame) (w':W) (J:Frozen) (ρ:Nat → Addr) (o:Obj) (g:G m j F' w') (e:Ext p.J w.nx p.ρ J w'.nx ρ) (r:Rel X J ρ p.L F' w'.σ w'.nx s) (v:VR J w'.nx ρ a (.ref ad)) (i:Itr X J I o) (o:iterO ad j o)
/-- a loop over a list: what holds at each turn -/
theorem for_list {t:PySem.Expr} {body:List Stmt} (ht:tgt1 t = true) (G:Nat → Nat → Frame → W → Prop) (R:QS)
    (step:∀ m j F w,G m j F w → ∃ q,asL w.σ a = some q∧onO q.2[j]? (fun v=>∃ m',m = m' + 1∧Turn X d fd t body v F w fun F2 σ2 n2=>∃ o,G m' (j + 1) F2 ⟨o,σ2,n2⟩) (R .next F w.σ w.nx))
    {m₀:Nat} (p:At X d F w.σ w.nx) (hv:p.VR a v) (h:G m₀ 0 F w) :
    wpAny p.M p.A (pyIter v) (fun it s₂=>codeAny p.M p.A (.forLoop t it body [] (p.env fd)) (loopQ p fd R) s₂) no p.s:=by
  obtain ⟨l0,e0,_⟩:=step _ _ _ _ h
  obtain ⟨ad,rfl,g0⟩:=asL_vr p.R e0 hv
  obtain ⟨vs0,L0,_⟩:=g0.is
  refine wpAny_pyIter_list L0 ?_
  have Jn:p.J p.s.heap.objs.size = none:=p.R.J_fresh
  have R1:=p.R.freeze (ob:={ cls:=.type "list_iterator",data:=.fields #[.ref ad,.int 0 0] }) rfl p.s.toks
  generalize p.s.heap.objs.size = I at Jn R1 ⊢
  refine codeAny_forLoop_any (LsI p I ad a G) (fun m s S=>gl fun P k=>?_) m₀ ⟨0,F,w,_,p.ρ,_,h,put_ext Jn,R1,hv.mono (put_grow Jn),⟨put_self,iterO_good (ad:=ad) (j:=0) ⟨rfl,rfl⟩,p.R.h0_fresh Jn⟩,rfl,rfl⟩
  obtain ⟨j,F1,w1,J1,ρ1,o,sg,se,sr,sv,si,so⟩:=S
  obtain ⟨l,el,hl⟩:=step _ _ _ _ sg
  obtain ⟨_,e',g⟩:=asL_vr sr el sv
  obtain rfl:=Value.ref.inj e'
  obtain ⟨vs,L1,hr⟩:=g.is
  have hit:s.heap.IsListIter I ad j:=⟨_,sr.jx si.j si.g.c,so⟩
  refine onO_e hl (fun av ej hl=>?_) fun ej hl=>k (wpAny_pyNext_list_end p.hh.1 hit L1 (by rw [← Array.getElem?_toList]; exact List.getElem?_eq_none (hr.length ▸ List.getElem?_eq_none_iff.mp ej)) fun h' hs'=>wpAny_of_eq rfl ⟨.next,F1,_,ρ1,w1.σ,w1.nx,se.del1 Jn,si.drop sr (fun b ob hb q=>hs' b ob hb q) s.toks,trivial,hl⟩)
  obtain ⟨m',rfl,T⟩:=hl
  obtain ⟨v,hv1,hv2⟩:=hr.get ej
  exact k (wpAny_pyNext_list_item hit L1 (by rw [← Array.getElem?_toList]; exact hv1) fun h' hit' hs'=>letGo_list (M:=p.M) ht (s:={ s with heap:=h' }) hit' (
    let ⟨o',g',hO'⟩:=hit'
    turn_ok ⟨p.A,_,ρ1,p.L,p.f,_,p.hh,p.hd,p.hu,si.swap sr g' (fun b ob hb q=>(hs'.2 b hb).trans q) s.toks⟩ T (hv2.mono si.grow) fun J4 ρ4 F4 σ4 n4 s4 E4 R4 ⟨o4,hG4⟩=>
      ⟨m',Nat.lt_succ_self _,j + 1,F4,⟨o4,σ4,n4⟩,J4,ρ4,o',hG4,(se.put1 Jn).trans E4,R4,(sv.mono si.grow).mono E4.grow,(si.put (iterO_good hO')).ext E4,hO'⟩))
end
end Mine
namespace Mine
section
variable {X:Cx} {T:Tab} {K:Frag} {d:Nat} {F:Frame} {σ:Store} {nx:Nat} {a b c:AV} {v u t:Value} {w:W} {fd:FuncData} {n:Nat} {x:Str} {I:Addr} {s:Shared}
noncomputable def rangeO (x left:Int):Obj:={ cls:=.type "range_iterator",dict:=none,data:=.fields #[rawInt x,rawInt left,rawInt 1],slots:=#[] }
theorem rangeO_good {x left:Int}:Good (rangeO x left):=⟨fun ⟨_,_,z⟩=>(nomatch z),fun z=>absurd (Value.type.inj z) (by decide)⟩
theorem rangeSize_one {b:Int}:Builtin.Range.rangeSize 0 b 1 = (b.toNat:Int):=by
  unfold Builtin.Range.rangeSize
  rw [if_pos (show (1:Int) > 0 by decide)]
  split <;> omega
theorem letGo_range {t:PySem.Expr} (ht:tgt1 t = true) {A:Around} {i:Int} {tk:Tok} {Q:Unit → Shared → Prop} {E:Value → Shared → Prop} (hq:Q () s):wpAny (model X.prog X.w) A (letOwnedTupleGo t (.ref I) (.int i tk)) Q E s:=by
  rcases tgt_or ht with ⟨_,_,rfl⟩ | ⟨_,_,_,rfl⟩
  · exact wpAny_of_eq rfl hq
  · exact wpAny_of_eq rfl hq
/-- where a loop over a range stands -/
inductive RgI (p:At X d F w.σ w.nx) (I:Addr) (hi:Int) (G:Nat → Int → Frame → W → Prop) (m:Nat) (s:Shared):Prop
  | mk (j:Int) (F':Frame) (w':W) (J:Frozen) (ρ:Nat → Addr) (l:Int) (g:G m j F' w') (e:Ext p.J w.nx p.ρ J w'.nx ρ) (r:Rel X J ρ p.L F' w'.σ w'.nx s) (i:Itr X J I (rangeO j l)) (hl:l = ((hi - j).toNat:Int))
/-- a loop over a range,one by one -/
theorem for_range {t:PySem.Expr} {body:List Stmt} (ht:tgt1 t = true) (hi:Int) (h3:-(2 ^ 62) ≤ hi) (h4:hi < 2 ^ 62) (G:Nat → Int → Frame → W → Prop) (R:QS)
    (step:∀ m j F w,G m j F w → onB (decide (j < hi)) (∃ m',m = m' + 1∧Turn X d fd t body (.int j) F w fun F2 σ2 n2=>∃ o,G m' (j + 1) F2 ⟨o,σ2,n2⟩) (R .next F w.σ w.nx))
    {m₀:Nat} (p:At X d F w.σ w.nx) {r:Addr} {t1 t2 t3:Tok} (hr:IsRange p.s.heap r 0 hi 1 t1 t2 t3) (h:G m₀ 0 F w) :
    wpAny p.M p.A (pyIter (.ref r)) (fun it s₂=>codeAny p.M p.A (.forLoop t it body [] (p.env fd)) (loopQ p fd R) s₂) no p.s:=by
  refine wpAny_pyIter_range hr (small_one (by decide) (by decide) h3 h4) ?_
  rw [rangeSize_one]
  have Jn:p.J p.s.heap.objs.size = none:=p.R.J_fresh
  have R1:=p.R.freeze (ob:=rangeO 0 (hi.toNat:Int)) rfl p.s.toks
  generalize p.s.heap.objs.size = I at Jn R1 ⊢
  refine codeAny_forLoop_any (RgI p I hi G) (fun m s S=>gl fun P k=>?_) m₀ ⟨0,F,w,_,p.ρ,_,h,put_ext Jn,R1,⟨put_self,rangeO_good,p.R.h0_fresh Jn⟩,by rw [Int.sub_zero]⟩
  obtain ⟨j,F1,w1,J1,ρ1,l,sg,se,sr,si,hl⟩:=S
  have gI:IsRangeIter s.heap I j l 1:=sr.jx si.j si.g.c
  refine onB_e (step _ _ _ _ sg) (fun hj hs=>?_) fun hj hs=>k (wpAny_pyNext_range_end p.hh.1 gI (by rw [hl,Int.toNat_of_nonpos (Int.sub_nonpos_of_le (Int.not_lt.mp (of_decide_eq_false hj)))]; exact Int.le_refl 0) fun h' hs'=>wpAny_of_eq rfl ⟨.next,F1,_,ρ1,w1.σ,w1.nx,se.del1 Jn,si.drop sr (fun b ob hb q=>hs' b ob hb q) s.toks,trivial,hs⟩)
  have hj:=of_decide_eq_true hj
  obtain ⟨m',rfl,T⟩:=hs
  exact k (wpAny_pyNext_range_item gI (by omega) fun h' hit' hs'=>letGo_range ht (
    turn_ok ⟨p.A,_,ρ1,p.L,p.f,_,p.hh,p.hd,p.hu,si.swap sr hit' (fun b ob hb q=>(hs'.2 b hb).trans q) (s.toks + 1)⟩ T .int fun J4 ρ4 F4 σ4 n4 s4 E4 R4 ⟨o4,hG4⟩=>
      ⟨m',Nat.lt_succ_self _,j + 1,F4,⟨o4,σ4,n4⟩,J4,ρ4,_,hG4,(se.put1 Jn).trans E4,R4,(si.put rangeO_good).ext E4,by omega⟩))
/-- a while whose first turn breaks -/
theorem while_rule {t:PySem.Expr} {body:List Stmt} {pos:Pos} {R:QS} {B:Store → Nat → Prop} (p:At X d F σ nx)
    (ht:Tr X d fd F (fun env=>isTrue t env (eval t env)) σ nx fun c σ1 n1=>c = true∧B σ1 n1)
    (hb:∀ J ρ σ1 n1 s1 (r:Rel X J ρ p.L F σ1 n1 s1),B σ1 n1 → wpAny p.M p.A (execs body (p.env fd)) ((p.to r).AnsS fun φ F2 σ2 n2=>φ = .brk∧R .next F2 σ2 n2) no s1):wpAny p.M p.A (exec (.While t body [] pos) (p.env fd)) (p.AnsS R) no p.s:=by
  refine wpAny_While (codeAny_whileLoop (fun m s=>s = p.s) (fun m s e=>?_) 0 rfl)
  subst e
  refine wpAny_mono (ht p) (fun c s2 ⟨J2,ρ2,σ2,n2,E2,R2,h1,h2⟩=>?_) fun _ _ z=>z.elim
  subst h1
  rw [if_pos rfl]
  refine wpAny_mono (hb J2 ρ2 σ2 n2 s2 R2 h2) (fun fl s3 ⟨φ,F3,J3,ρ3,σ3,n3,E3,R3,x3,h1,h3⟩=>?_) fun _ _ z=>z.elim
  subst h1
  cases fl <;> first | exact x3.elim | exact ⟨.next,F3,J3,ρ3,σ3,n3,E2.trans E3,R3,trivial,h3⟩
end
end Mine
namespace Mine
section
variable {X:Cx} {T:Tab} {d:Nat} {F:Frame} {σ:Store} {nx:Nat} {a b c:AV} {v u t:Value} {w:W} {fi:Fi} {r:Rec} {n:Nat} {x:Str}
theorem isLoc_loc {fi:Fi} (h:isLoc fi x = true):gt fi.nm (cd x) = some true:=by
  unfold isLoc at h
  cases e:gt fi.nm (cd x) with
  | none=>rw [e] at h; cases h
  | some b=>rw [e] at h; cases b <;> first | rfl | cases h
/-- a name of the frame -/
theorem sto_name (nm:NmOk fi.fd fi.nm) (hl:isLoc fi x = true) (p:At X d F w.σ w.nx) (hv:p.VR a v) {P:Unit → Shared → Prop} {E:Value → Shared → Prop} (k:∀ s',Rel X p.J p.ρ p.L (pt F (cd x) a) w.σ w.nx s' → P () s'):wpAny p.M p.A (storeName (p.env fi.fd) x v) P E p.s:=by
  have hl':=isLoc_loc hl
  obtain ⟨m,hns,hm⟩:=p.R.fr
  refine wpAny_storeName_local (env:=p.env fi.fd) (nm.loc _ hl') hns (fun h' hn hs=>k _ (p.R.store (nm.ok _ _ hl').1 hv hns hn hs _)) ?_
  show (fi.fd.scope.kind == .class || (fi.fd.scope.kind == .module && _)) = false
  rw [nm.kind]; rfl
theorem sto1_ok (ok:X.Ok T.K) (to:TabOk T) (nm:NmOk fi.fd fi.nm) (hr:∀ F,EvOk X d fi.fd F (r.ev fi F)) {e:PySem.Expr} {k:KF} (h:sto1 T r fi e a F w k) (p:At X (d + 1) F w.σ w.nx) {v:Value} (hv:p.VR a v) :
    wpAny p.M p.A (assign e (p.env fi.fd) v) (p.AnsF (qF k)) no p.s:=by
  cases e with
  | Name x ps=>exact onT_e h fun hl h=>wpAny_assign_Name (sto_name nm hl p hv fun s' R=>⟨_,p.J,p.ρ,_,_,.refl,R,w.o,h⟩)
  | Attribute o x ps=>
    rw [arm_assign_Attribute]
    exact wpAny_bind (wpAny_holding (an (hr F _ _ _ h p.less) fun ov ao J1 ρ1 σ1 n1 s1 R1 E1 x1 ⟨o1,h1⟩=>wpAny_bind (wpAny_standAt (wpAny_bind (wpAny_holding
      (anU (setattrA_ok ok to h1 F (p.to R1) x1 (hv.mono E1.grow)) fun J2 ρ2 σ2 n2 s2 R2 E2 ⟨o2,h2⟩=>wpAny_release ⟨F,J2,ρ2,σ2,n2,E1.trans E2,R2,o2,h2⟩))))))
  | Subscript o i ps=>
    rw [arm_assign_Subscript]
    exact wpAny_bind (wpAny_holding (an (hr F _ _ _ h p.less) fun ov ao J1 ρ1 σ1 n1 s1 R1 E1 x1 ⟨o1,h1⟩=>onT_e h1 fun _ h1=>wpAny_bind (wpAny_holding (an (hr F _ _ _ h1 (p.to R1).less) fun iv ai J2 ρ2 σ2 n2 s2 R2 E2 x2 ⟨o2,h2⟩=>wpAny_bind (wpAny_standAt (wpAny_bind (wpAny_holding
      (anU (setit_ok h2 F (p.to R2) (x1.mono E2.grow) x2 ((hv.mono E1.grow).mono E2.grow)) fun J3 ρ3 σ3 n3 s3 R3 E3 ⟨o3,h3⟩=>wpAny_release ⟨F,J3,ρ3,σ3,n3,(E1.trans E2).trans E3,R3,o3,h3⟩))))))))
  | _=>exact Stop.no (n:=100) h
/-- stores one after another -/
theorem stol_ok (ok:X.Ok T.K) (to:TabOk T) (nm:NmOk fi.fd fi.nm) (hr:∀ F,EvOk X d fi.fd F (r.ev fi F)) {k:KF}:∀ (ts:List PySem.Expr) (as:List AV) (F:Frame) (w:W),stol T r fi ts as F w k → ∀ (p:At X (d + 1) F w.σ w.nx) vs,p.VRs as vs →
    wpAny p.M p.A (assignInOrder (ts.map fun t=>assign t (p.env fi.fd)) vs) (p.AnsF (qF k)) no p.s
  | [],[],F,w,h,p,vs,hv=>by
    cases hv
    exact wpAny_pure (a:=()) ⟨F,p.J,p.ρ,w.σ,w.nx,.refl,p.R,w.o,h⟩
  | t :: ts,a :: as,F,w,h,p,vs,hv=>by
    cases hv with
    | @cons _ _ v vs h1 hs=>
      show wpAny p.M p.A (do holding vs (assign t (p.env fi.fd) v); assignInOrder (ts.map fun t=>assign t (p.env fi.fd)) vs) _ _ _
      exact wpAny_bind (wpAny_holding (anF (sto1_ok ok to nm hr h p h1) fun F1 J1 ρ1 σ1 n1 s1 R1 E1 ⟨o1,q1⟩=>wpAny_mono (stol_ok ok to nm hr ts as F1 ⟨o1,σ1,n1⟩ q1 (p.to R1) vs (hs.mono E1.grow)) (fun _ _ z=>AnsF.ext E1 z) fun _ _ z=>z))
  | [],_ :: _,F,w,h,p,vs,hv=>Stop.no (n:=101) h
  | _ :: _,[],F,w,h,p,vs,hv=>Stop.no (n:=101) h
theorem stoN_ok (nm:NmOk fi.fd fi.nm) {k:KF}:∀ (xs:List Str) (as:List AV) (F:Frame) (w:W),stoN fi xs as F w k → ∀ (p:At X d F w.σ w.nx) vs,p.VRs as vs →
    wpAny p.M p.A (assignInOrder (xs.map fun x=>bindName (p.env fi.fd) x) vs) (p.AnsF (qF k)) no p.s
  | [],[],F,w,h,p,vs,hv=>by
    cases hv
    exact wpAny_pure (a:=()) ⟨F,p.J,p.ρ,w.σ,w.nx,.refl,p.R,w.o,h⟩
  | x :: xs,a :: as,F,w,h,p,vs,hv=>by
    cases hv with
    | @cons _ _ v vs h1 hs=>
      show wpAny p.M p.A (do holding vs (bindName (p.env fi.fd) x v); assignInOrder (xs.map fun x=>bindName (p.env fi.fd) x) vs) _ _ _
      exact onT_e h fun hl h=>wpAny_bind (wpAny_holding (wpAny_bindName (sto_name nm hl p h1 fun s' R=>wpAny_mono (stoN_ok nm xs as _ w h (p.to R) vs hs) (fun _ _ z=>AnsF.ext .refl z) fun _ _ z=>z)))
  | [],_ :: _,F,w,h,p,vs,hv=>Stop.no (n:=101) h
  | _ :: _,[],F,w,h,p,vs,hv=>Stop.no (n:=101) h
theorem each_cons {t:PySem.Expr} {ts:List PySem.Expr} {env:Env} (h:plainE t = true):assignEach (t :: ts) env = (false,assign t env) :: assignEach ts env:=by cases t <;> first | rfl | (cases h; done)
theorem each_plain {env:Env}:∀ {ts:List PySem.Expr},plainAll ts = true → (assignEach ts env).findIdx? (·.1) = none∧(assignEach ts env).map (·.2) = ts.map (fun t=>assign t env)∧(assignEach ts env).length = ts.length
  | [],_=>⟨rfl,rfl,rfl⟩
  | t :: ts,h=>by
    obtain ⟨ht,h⟩:=cond_e h
    obtain ⟨h1,h2,h3⟩:=each_plain (env:=env) (ts:=ts) h
    rw [each_cons ht]
    exact ⟨by rw [List.findIdx?_cons,h1]; rfl,congrArg (assign t env :: ·) h2,congrArg Nat.succ h3⟩
theorem stoT_ok (ok:X.Ok T.K) (to:TabOk T) (nm:NmOk fi.fd fi.nm) (hr:∀ F,EvOk X d fi.fd F (r.ev fi F)) {e:PySem.Expr} {ts:List PySem.Expr} {k:KF} (ee:∃ i ps,e = .Tuple ts i ps) (h:stoT T r fi ts a F w k) (p:At X (d + 1) F w.σ w.nx) {v:Value} (hv:p.VR a v) :
    wpAny p.M p.A (assign e (p.env fi.fd) v) (p.AnsF (qF k)) no p.s:=by
  obtain ⟨i,ps,rfl⟩:=ee
  refine onS_e h fun as ea h=>onT_e h fun hp h=>onT_e h fun hl h=>?_
  obtain ⟨_,rfl,g⟩:=asT_vr ea hv
  obtain ⟨vs,L,r⟩:=g.is p.R
  obtain ⟨e1,e2,e3⟩:=each_plain (env:=p.env fi.fd) hp
  refine wpAny_assign_Tuple p.hh.1 L (by rw [e3,Nat.eq_of_beq_eq_true hl,len_ofL r]) e1 fun h' hx=>?_
  rw [e2]
  exact stol_ok ok to nm hr ts _ F w h (p.to (p.R.grown (h':=h') (fun b ob q=>hx b ob (fun z=>by rw [z] at q; exact absurd (Heap.lt_size q) (Nat.lt_irrefl _)) q) p.s.toks)) _ r
theorem sto_ok (ok:X.Ok T.K) (to:TabOk T) (nm:NmOk fi.fd fi.nm) (hr:∀ F,EvOk X d fi.fd F (r.ev fi F)) {e:PySem.Expr} {k:KF} (h:sto T r fi e a F w k):StoOk X (d + 1) fi.fd e a F w k:=fun p v hv=>
  onO_e h (fun q _ h=>stoT_ok ok to nm hr q.2 h p hv) fun _ h=>sto1_ok ok to nm hr h p hv
theorem stos_ok (ok:X.Ok T.K) (to:TabOk T) (nm:NmOk fi.fd fi.nm) (hr:∀ F,EvOk X d fi.fd F (r.ev fi F)) {k:KF}:∀ (ts:List PySem.Expr) (F:Frame) (w:W),plainAll ts = true → stos T r fi ts a F w k → ∀ (p:At X (d + 1) F w.σ w.nx) v,p.VR a v →
    wpAny p.M p.A (assignAll v (ts.map fun t=>assign t (p.env fi.fd))) (p.AnsF (qF k)) no p.s
  | [],F,w,_,h,p,v,hv=>wpAny_pure (a:=()) ⟨F,p.J,p.ρ,w.σ,w.nx,.refl,p.R,w.o,h⟩
  | [t],F,w,hp,h,p,v,hv=>sto_ok ok to nm hr h p v hv
  | t :: t2 :: ts,F,w,hp,h,p,v,hv=>by
    show wpAny p.M p.A (do holding [v] (assign t (p.env fi.fd) v); assignAll v ((t2 :: ts).map fun t=>assign t (p.env fi.fd))) _ _ _
    exact wpAny_bind (wpAny_holding (anF (sto_ok ok to nm hr h p v hv) fun F1 J1 ρ1 σ1 n1 s1 R1 E1 ⟨o1,q1⟩=>wpAny_mono (stos_ok ok to nm hr (t2 :: ts) F1 ⟨o1,σ1,n1⟩ (cond_e hp).2 q1 (p.to R1) v (hv.mono E1.grow)) (fun _ _ z=>AnsF.ext E1 z) fun _ _ z=>z))
/-! the order of the stores -/
theorem notComp_swaps {ts:List PySem.Expr} {e:PySem.Expr} {line:Nat} {env:Env} (h:notComp e = true):swapsWithSole ts e line env = pure false:=by
  cases ts with
  | nil=>rfl
  | cons t ts=>cases ts with
    | cons _ _=>rfl
    | nil=>cases e <;> first | rfl | (cases h; done)
theorem VRs.rev {J ρ} {l:List AV} {vs:List Value} (h:VRs J nx ρ l vs):VRs J nx ρ l.reverse vs.reverse:=by
  induction l generalizing vs with
  | nil=>cases h; exact .nil
  | cons a l ih=>cases h with
    | cons h1 hs=>rw [List.reverse_cons,List.reverse_cons]; exact (ih hs).app (.cons h1 .nil)
end
end Mine
namespace Mine
section
variable {X:Cx} {T:Tab} {d:Nat} {F:Frame} {σ:Store} {nx:Nat} {a b c:AV} {v u t:Value} {w:W} {fi:Fi} {r:Rec} {n:Nat} {x:Str} {k:KS}
theorem At.nextF (p:At X d F σ nx) {k:KS} {s:Shared} {o:Unit} (h:p.AnsF (qF fun F w=>k .next F w) o s):p.AnsS (qS k) .next s:=
  let ⟨F1,J1,ρ1,σ1,n1,E1,R1,o1,h1⟩:=h
  ⟨.next,F1,J1,ρ1,σ1,n1,E1,R1,trivial,o1,h1⟩
theorem asg1_ok (nm:NmOk fi.fd fi.nm) {xs:List Str} (h:asg1 fi xs a F w k) (p:At X d F w.σ w.nx) (hv:p.VR a v):wpAny p.M p.A (do
    rule "assign.swapped-stores"
    let items ← unpackItems v xs.length none
    assignInOrder (xs.reverse.map fun n=>bindName (p.env fi.fd) n) items.reverse
    pure Flow.next) (p.AnsS (qS k)) no p.s:=onS_e h fun as ea h=>onT_e h fun hl h=>by
  obtain ⟨_,rfl,g⟩:=asT_vr ea hv
  obtain ⟨vs,L,r⟩:=g.is p.R
  refine wpAny_bind (wpAny_rule ?_)
  rw [show xs.length = vs.size by rw [Nat.eq_of_beq_eq_true hl,len_ofL r]]
  refine wpAny_bind (wpAny_unpackItems_tuple p.hh.1 L fun h' hx=>?_)
  have R2:=p.R.grown (h':=h') (fun b ob q=>hx b ob (fun z=>by rw [z] at q; exact absurd (Heap.lt_size q) (Nat.lt_irrefl _)) q) p.s.toks
  exact wpAny_bind (wpAny_mono (stoN_ok nm _ _ F w h (p.to R2) _ r.rev) (fun _ _ z=>wpAny_pure ((p.to R2).nextF z)) fun _ _ z=>z)
theorem assign_arm (ok:X.Ok T.K) (to:TabOk T) (nm:NmOk fi.fd fi.nm) (hr:∀ F,EvOk X d fi.fd F (r.ev fi F)) {ts:List PySem.Expr} {e:PySem.Expr} {ps:Pos} (h:asg T r fi ts e F w k):Xs X (d + 1) fi.fd F (fun env=>exec (.Assign ts e ps) env) w.σ w.nx (qS k):=fun p=>onT_e h fun h1 h=>by
  show wpAny p.M p.A (exec (.Assign ts e ps) (p.env fi.fd)) _ _ _
  rw [exec_Assign_arm]
  refine wpAny_bind (wpAny_standAt ?_)
  rw [notComp_swaps h1]
  refine wpAny_bind (wpAny_pure ?_)
  rw [if_neg (by decide)]
  refine wpAny_bind (an (hr F _ _ _ h p.less) fun v a J1 ρ1 σ1 n1 s1 R1 E1 x1 ⟨o1,h⟩=>onS_e h fun q _ h=>?_)
  rw [show swappedStores ts e (p.env fi.fd) = pure q.1 from q.2 _ _]
  refine wpAny_bind (wpAny_pure ?_)
  refine onO_e h (fun xs eq h=>?_) fun eq h=>onT_e h fun hp h=>?_
  · rw [eq]
    exact wpAny_mono (asg1_ok nm h (p.to R1) x1) (fun _ _ z=>AnsS.ext E1 z) fun _ _ z=>z
  · rw [eq]
    show wpAny p.M p.A (do assignAll v ((assignEach ts (p.env fi.fd)).map (·.2)); pure Flow.next) _ _ _
    rw [(each_plain hp).2.1]
    exact wpAny_bind (wpAny_mono (stos_ok ok to nm hr ts F ⟨o1,σ1,n1⟩ hp h (p.to R1) v x1) (fun _ _ z=>wpAny_pure (AnsS.ext E1 ((p.to R1).nextF z))) fun _ _ z=>z)
noncomputable abbrev XsR (X:Cx) (d:Nat) (fi:Fi) (r:Rec):Prop:=∀ F ss w k,r.xs fi F ss w k → Xs X d fi.fd F (fun env=>execs ss env) w.σ w.nx (qS k)
theorem aug_ok (ok:X.Ok T.K) (to:TabOk T) (hr:∀ F,EvOk X d fi.fd F (r.ev fi F)) (hc:ClR X d r) {o e:PySem.Expr} {op:Operator} {ps aps:Pos} (h:augS T r fi (.Attribute o x aps) op e F w k):Xs X (d + 1) fi.fd F (fun env=>exec (.AugAssign (.Attribute o x aps) op e ps) env) w.σ w.nx (qS k):=fun p=>by
  refine wpAny_AugAssign_AttributeAny (an (hr F _ _ _ h p.less) fun ov oa J1 ρ1 σ1 n1 s1 R1 E1 x1 ⟨o1,h⟩=>an (attr_ok ok to hc h F (p.to R1) ov x1) fun u b J2 ρ2 σ2 n2 s2 R2 E2 x2 ⟨o2,h⟩=>onS_e h fun i ei h=>an (hr F _ _ _ h (p.to R2).less) fun v c J3 ρ3 σ3 n3 s3 R3 E3 x3 ⟨o3,h⟩=>onS_e h fun j ej h=>onS_e h fun eo _ h=>?_)
  obtain rfl:=eo.down
  obtain ⟨_,rfl⟩:=asI_vr ei (x2.mono E3.grow)
  obtain ⟨_,rfl⟩:=asI_vr ej x3
  exact iadd_int (anU (setattrA_ok ok to h F (p.to (R3.toks (s3.toks + 1))) ((x1.mono E2.grow).mono E3.grow) mkI_vr) fun J5 ρ5 σ5 n5 s5 R5 E5 ⟨o5,q5⟩=>⟨.next,F,J5,ρ5,σ5,n5,((E1.trans E2).trans E3).trans E5,R5,trivial,o5,q5⟩)
theorem if_st (ht:∀ F,TrOk X d fi.fd F (r.tr fi F)) (hx:XsR X d fi r) {t:PySem.Expr} {b o:List Stmt} {ps:Pos} (h:r.tr fi F t w fun c w=>onB c (r.xs fi F b w k) (r.xs fi F o w k)):Xs X (d + 1) fi.fd F (fun env=>exec (.If t b o ps) env) w.σ w.nx (qS k):=fun p=>by
  refine wpAny_If (anB (ht F _ _ _ h p.less) fun c J1 ρ1 σ1 n1 s1 R1 E1 ⟨o1,q1⟩=>?_)
  cases c with
  | true=>exact wpAny_mono (hx _ _ _ _ q1 (p.to R1).less) (fun _ _ z=>AnsS.ext E1 z) fun _ _ z=>z
  | false=>exact wpAny_mono (hx _ _ _ _ q1 (p.to R1).less) (fun _ _ z=>AnsS.ext E1 z) fun _ _ z=>z
theorem assert_st (ht:∀ F,TrOk X d fi.fd F (r.tr fi F)) {t:PySem.Expr} {m:Option PySem.Expr} {ps:Pos} {z:Nat} (h:r.tr fi F t w fun c w=>onT z c (k .next F w)):Xs X (d + 1) fi.fd F (fun env=>exec (.Assert t m ps) env) w.σ w.nx (qS k):=fun p=>
  wpAny_Assert_holds (anB (ht F _ _ _ h p.less) fun c J1 ρ1 σ1 n1 s1 R1 E1 ⟨o1,q1⟩=>onT_e q1 fun e q1=>⟨e,.next,F,J1,ρ1,σ1,n1,E1,R1,trivial,o1,q1⟩)
theorem ret_st (hr:∀ F,EvOk X d fi.fd F (r.ev fi F)) {e:Option PySem.Expr} {ps:Pos} (h:onO e (fun e=>r.ev fi F e w fun a w=>k (.ret a) F w) (k (.ret .none) F w)):Xs X (d + 1) fi.fd F (fun env=>exec (.Return e ps) env) w.σ w.nx (qS k):=fun p=>by
  cases e with
  | none=>exact wpAny_Return_none ⟨.ret .none,F,p.J,p.ρ,w.σ,w.nx,.refl,p.R,.none,w.o,h⟩
  | some e=>exact wpAny_Return_some (an (hr F _ _ _ h p.less) fun v a J1 ρ1 σ1 n1 s1 R1 E1 x1 ⟨o1,q1⟩=>⟨.ret a,F,J1,ρ1,σ1,n1,E1,R1,x1,o1,q1⟩)
theorem expr_st (nm:NmOk fi.fd fi.nm) (hr:∀ F,EvOk X d fi.fd F (r.ev fi F)) {e:PySem.Expr} {ps:Pos} (hn:notComp e = true) (h:r.ev fi F e w fun a w=>k .next F w):Xs X (d + 1) fi.fd F (fun env=>exec (.Expr e ps) env) w.σ w.nx (qS k):=fun p=>by
  refine wpAny_Expr_any (an (hr F _ _ _ h p.less) fun v a J1 ρ1 σ1 n1 s1 R1 E1 x1 ⟨o1,q1⟩=>⟨.next,F,J1,ρ1,σ1,n1,E1,R1,trivial,o1,q1⟩) ?_ ?_
  · show (fi.fd.scope.kind == .module && _) = false
    rw [nm.kind]; rfl
  · cases e <;> first | rfl | (cases hn; done)
end
end Mine
namespace Mine
section
variable {X:Cx} {T:Tab} {d:Nat} {F:Frame} {σ:Store} {nx:Nat} {a b c:AV} {v u t:Value} {w:W} {fi:Fi} {r:Rec} {n:Nat} {x:Str} {k:KS}
theorem nxt_e {fl:Fl} {kk G:Prop} (h:nxt fl kk) (g:fl = .next → kk → G):G:=by cases fl <;> first | exact g rfl h | exact Stop.no (n:=104) h
theorem brks_e {fl:Fl} {kk G:Prop} (h:brks fl kk) (g:fl = .brk → kk → G):G:=by cases fl <;> first | exact g rfl h | exact Stop.no (n:=105) h
theorem sto_turn (ok:X.Ok T.K) (to:TabOk T) (nm:NmOk fi.fd fi.nm) (hr:∀ F,EvOk X d fi.fd F (r.ev fi F)) (hx:XsR X d fi r) {t:PySem.Expr} {body:List Stmt} {G:Frame → W → Prop}
    (h:sto T r fi t a F w fun F w=>r.xs fi F body w fun fl F w=>nxt fl (G F w)):Turn X (d + 1) fi.fd t body a F w fun F2 σ2 n2=>∃ o,G F2 ⟨o,σ2,n2⟩:=
  ⟨_,sto_ok ok to nm hr h,fun F' w' h' p=>wpAny_mono (hx _ _ _ _ h' p.less) (fun fl s ⟨φ,F2,J2,ρ2,σ2,n2,E2,R2,x2,o2,h2⟩=>nxt_e h2 fun e h2=>⟨φ,F2,J2,ρ2,σ2,n2,E2,R2,x2,e,o2,h2⟩) fun _ _ z=>z⟩
theorem loop_ext {d:Nat} (p:At X d F σ nx) {J1:Frozen} {ρ1:Nat → Addr} {σ1:Store} {n1:Nat} {s1:Shared} {R1:Rel X J1 ρ1 p.L F σ1 n1 s1} (E1:Ext p.J nx p.ρ J1 n1 ρ1) {Q:QS} {r:Result} {s:Shared} (z:loopQ (p.to R1) fi.fd Q r s):loopQ p fi.fd Q r s:=by
  cases r with
  | ok f=>exact AnsS.ext E1 z
  | error e=>exact z
theorem forL_st (ok:X.Ok T.K) (to:TabOk T) (nm:NmOk fi.fd fi.nm) (hr:∀ F,EvOk X d fi.fd F (r.ev fi F)) (hx:XsR X d fi r) {t it:PySem.Expr} {body:List Stmt} {ps:Pos} {z1 z2:Nat} (ht:tgt1 t = true) (hs:isSet it = false)
    (h:r.ev fi F it w fun a w=>onS z1 (asL w.σ a) fun p=>onB p.1 (Stop z2) (forL T r fi t body a (p.2.length + 1) 0 F w k)):Xs X (d + 1) fi.fd F (fun env=>exec (.For t it body [] ps) env) w.σ w.nx (qS k):=fun p=>by
  refine wpAny_For (an (hr F _ _ _ h p.less) fun v a J1 ρ1 σ1 n1 s1 R1 E1 x1 ⟨o1,q1⟩=>onS_e q1 fun l el q1=>onB_e q1 (fun _ q1=>Stop.no q1) fun _ q1=>?_) (fun x=>by cases it <;> first | rfl | cases hs)
  refine wpAny_mono (for_list (fd:=fi.fd) (a:=a) (w:=⟨o1,σ1,n1⟩) (F:=F) (body:=body) ht (fun m j F w=>forL T r fi t body a m j F w k) (qS k) (fun m j F w h=>?_) (p.to R1) x1 q1) (fun it s2 h2=>codeAny_mono h2 fun rr s' z=>loop_ext p E1 z) fun _ _ z=>z
  cases m with
  | zero=>exact Stop.no (n:=103) h
  | succ m=>exact onS_e h fun q e h=>onB_e h (fun _ h=>Stop.no h) fun _ h=>⟨q,e,onO_e h (fun v ev h=>ev ▸ ⟨m,rfl,sto_turn ok to nm hr hx h⟩) fun ev h=>ev ▸ ⟨_,h⟩⟩
theorem hard_e {kk:Int → W → Prop} {G:Prop} {w:W} (h:hard a w kk) {J ρ} (hv:VR J nx ρ a v) (g:∀ b o tk,v = .int b tk → kk b ⟨o,w.σ,w.nx⟩ → G):G:=
  onS_e h fun p ep h=>let ⟨tk,e⟩:=asI_vr ep hv; onB_e h (fun _ h=>hAv_e h fun c o h=>onS_e h fun q _ h=>g q.2 o tk (h.1 ▸ e) h.2) fun _ h=>g p.2 w.o tk e h
theorem isRange_of {it e:PySem.Expr} (h:isRange T fi it = some e):∃ x px ps,it = .Call (.Name x px) [e] [] ps∧gt fi.nm (cd x) = some false∧gt T.glob (cd x) = some (.bi .range):=by
  unfold isRange at h
  cases q:callOf it with
  | none=>rw [q] at h; cases h
  | some p=>
    rw [q] at h
    obtain ⟨⟨x,e'⟩,px,ps,rfl⟩:=p
    dsimp only at h
    cases q1:isRng (gt T.glob (cd x)) with
    | false=>rw [q1] at h; cases h
    | true=>cases q2:(gt fi.nm (cd x)).any not with
      | false=>rw [q1,q2] at h; cases h
      | true=>
        rw [q1,q2] at h
        cases h
        refine ⟨x,px,ps,rfl,?_,?_⟩
        · cases q3:gt fi.nm (cd x) with
          | none=>rw [q3] at q2; cases q2
          | some b=>rw [q3] at q2; cases b <;> first | rfl | cases q2
        · unfold isRng at q1
          split at q1
          · assumption
          · cases q1
/-- a walk that knows its continuation less -/
noncomputable def lessK (r:PySem.Expr → W → KE → Prop):PySem.Expr → W → KE → Prop:=fun e w K=>∃ K0,r e w K0∧∀ a w,K0 a w → K a w
theorem lessK_ok {r:PySem.Expr → W → KE → Prop} (hr:EvOk X d fi.fd F r):EvOk X (d + 1) fi.fd F (lessK r):=fun e w K ⟨K0,h1,h2⟩ p=>an (hr _ _ _ h1 p.less) fun v a J1 ρ1 σ1 n1 s1 R1 E1 x1 ⟨o1,q1⟩=>Ans.ext E1 ((p.to R1).q x1 (h2 _ _ q1))
/-- a type of the builtins called with one argument -/
theorem one_arg (ok:X.Ok T.K) (bo:BiOk T) (nm:NmOk fi.fd fi.nm) {rr:PySem.Expr → W → KE → Prop} (hr:EvOk X d fi.fd F rr) {x:Str} {px ps:Pos} {e:PySem.Expr} {b:Bi} {z:String} (h1:gt fi.nm (cd x) = some false) (h2:gt T.glob (cd x) = some (.bi b)) (hb:biV b = .type z) (hp:plainE e = true) {kk:KE}
    (h:rr e w kk) (p:At X (d + 1) F w.σ w.nx) {P:Value → Shared → Prop}
    (H:∀ v a J' ρ' σ' nx' s',Rel X J' ρ' p.L F σ' nx' s' → Ext p.J w.nx p.ρ J' nx' ρ' → VR J' nx' ρ' a v → (∃ o,kk a ⟨o,σ',nx'⟩) → wpAny p.M p.A (call (.type z) [v]) P no s'):wpAny p.M p.A (eval (.Call (.Name x px) [e] [] ps) (p.env fi.fd)) P no p.s:=by
  obtain ⟨b1,b2⟩:=bo.bi _ _ h2
  have hpl:plainAll [e] = true:=show cond (plainE e) true false = true by rw [hp]; rfl
  refine wpAny_Call_Name_kw (bui_ok ok nm p h1 b1 (b2.trans (congrArg some hb)) (PyProof.Rows.callWith_type (plain_any hpl) (evl_plain (d:=d + 1) (k:=fun as w=>∃ a,as = [a]∧kk a w) (lessK_ok hr) (es:=[e]) ?_ p fun vs as J1 ρ1 σ1 n1 s1 R1 E1 x1 ⟨o1,a,ea,q1⟩=>?_)))
  · show onT 133 (plainE e) _
    rw [hp]
    exact ⟨_,h,fun a w q=>⟨a,rfl,q⟩⟩
  · obtain ⟨v,rfl,y⟩:=(ea ▸ x1:VRs J1 n1 ρ1 [a] vs).one
    exact H v a J1 ρ1 σ1 n1 s1 R1 E1 y ⟨o1,q1⟩
theorem forR_st (ok:X.Ok T.K) (to:TabOk T) (bo:BiOk T) (nm:NmOk fi.fd fi.nm) (hr:∀ F,EvOk X d fi.fd F (r.ev fi F)) (hx:XsR X d fi r) {t it e:PySem.Expr} {body:List Stmt} {ps:Pos} {z1:Nat} (ht:tgt1 t = true) (hi:isRange T fi it = some e) (hp:plainE e = true)
    (h:r.ev fi F e w fun a w=>hard a w fun b w=>onT z1 (small b) (forR T r fi t body b (b.toNat + 1) 0 F w k)):Xs X (d + 1) fi.fd F (fun env=>exec (.For t it body [] ps) env) w.σ w.nx (qS k):=fun p=>by
  obtain ⟨x,px,pc,rfl,e1,e2⟩:=isRange_of hi
  refine wpAny_For (one_arg ok bo nm (hr F) e1 e2 rfl hp h p fun v a J1 ρ1 σ1 n1 s1 R1 E1 x1 ⟨o1,q1⟩=>hard_e q1 x1 fun b o2 tk ev q2=>onT_e q2 fun hb q2=>?_) (fun _=>rfl)
  subst ev
  have hb:=Nat.le_of_ble_eq_true hb
  refine call_range_1 (wpAny_mono (for_range (fd:=fi.fd) (w:=⟨o2,σ1,n1⟩) (F:=F) (body:=body) ht b (by omega) (by omega) (fun m j F w=>forR T r fi t body b m j F w k) (qS k) (fun m j F w h=>?_) (p.to (R1.grown (fun b ob q=>Heap.get?_push_of_some _ q) _)) (IsRange.new _ _ _ _ _ _ _) q2) (fun it s2 h2=>codeAny_mono h2 fun rr s' z=>loop_ext (R1:=R1.grown (fun b ob q=>Heap.get?_push_of_some _ q) _) p E1 z) fun _ _ z=>z)
  cases m with
  | zero=>exact Stop.no (n:=105) h
  | succ m=>exact onB_e h (fun e h=>e ▸ ⟨m,rfl,sto_turn ok to nm hr hx h⟩) fun e h=>e ▸ ⟨_,h⟩
theorem while_st (ht:∀ F,TrOk X d fi.fd F (r.tr fi F)) (hx:XsR X d fi r) {t:PySem.Expr} {body:List Stmt} {ps:Pos} (h:whS r fi t body F w k):Xs X (d + 1) fi.fd F (fun env=>exec (.While t body [] ps) env) w.σ w.nx (qS k):=fun p=>
  while_rule (B:=fun σ1 n1=>∃ o,r.xs fi F body ⟨o,σ1,n1⟩ fun fl F w=>brks fl (k .next F w)) p (fun p=>wpAny_mono (ht F _ _ _ h p.less) (fun c s1 ⟨J1,ρ1,σ1,n1,E1,R1,o1,h1⟩=>onT_e h1 fun e h1=>⟨J1,ρ1,σ1,n1,E1,R1,e,o1,h1⟩) fun _ _ z=>z) fun J ρ σ1 n1 s1 R ⟨o1,h1⟩=>
    wpAny_mono (hx _ _ _ _ h1 (p.to R).less) (fun fl s ⟨φ,F2,J2,ρ2,σ2,n2,E2,R2,x2,o2,h2⟩=>brks_e h2 fun e h2=>⟨φ,F2,J2,ρ2,σ2,n2,E2,R2,x2,e,o2,h2⟩) fun _ _ z=>z
theorem for_st (ok:X.Ok T.K) (to:TabOk T) (bo:BiOk T) (nm:NmOk fi.fd fi.nm) (hr:∀ F,EvOk X d fi.fd F (r.ev fi F)) (hx:XsR X d fi r) {t it:PySem.Expr} {body:List Stmt} {ps:Pos} (ht:tgt1 t = true) (h:forS T r fi t body it F w k):Xs X (d + 1) fi.fd F (fun env=>exec (.For t it body [] ps) env) w.σ w.nx (qS k):=
  onO_e h (fun e hi h=>onT_e h fun hp h=>forR_st ok to bo nm hr hx ht hi hp h) fun _ h=>onB_e h (fun _ h=>Stop.no h) fun hs h=>forL_st ok to nm hr hx ht hs h
end
end Mine
namespace Mine
section
variable {X:Cx} {T:Tab} {d:Nat} {F:Frame} {σ:Store} {nx:Nat} {a b c:AV} {v u t:Value} {w:W} {fi:Fi} {r:Rec} {n:Nat} {x:Str} {k:KS}
theorem xG_ok (ok:X.Ok T.K) (to:TabOk T) (bo:BiOk T) (nm:NmOk fi.fd fi.nm) (hr:∀ F,EvOk X d fi.fd F (r.ev fi F)) (ht:∀ F,TrOk X d fi.fd F (r.tr fi F)) (hx:XsR X d fi r) (hc:ClR X d r) {s:Stmt} (h:xG T r fi s F w k):Xs X (d + 1) fi.fd F (fun env=>exec s env) w.σ w.nx (qS k):=by
  cases s with
  | Expr e ps=>exact onT_e h fun hn h=>expr_st nm hr hn h
  | Assign ts e ps=>exact assign_arm ok to nm hr h
  | AugAssign t op e ps=>
    cases t with
    | Attribute=>exact aug_ok ok to hr hc h
    | _=>exact Stop.no (n:=116) h
  | If t b o ps=>exact if_st ht hx h
  | Return e ps=>exact ret_st hr h
  | Assert t m ps=>exact assert_st ht h
  | Pass ps=>exact fun p=>wpAny_Pass ⟨.next,F,p.J,p.ρ,w.σ,w.nx,.refl,p.R,trivial,w.o,h⟩
  | Try b hs o f ps=>
    cases hs with
    | nil=>exact Stop.no (n:=110) h
    | cons=>cases o with
      | cons=>exact Stop.no (n:=110) h
      | nil=>cases f with
        | cons=>exact Stop.no (n:=110) h
        | nil=>exact fun p=>wpAny_Try_except (wpAny_mono (hx _ _ _ _ h p.less) (fun fl s z=>by
            cases fl with
            | next=>exact wpAny_execs_nil z
            | _=>exact z) fun _ _ z=>z.elim)
  | Break ps=>exact fun p=>wpAny_Break ⟨.brk,F,p.J,p.ρ,w.σ,w.nx,.refl,p.R,trivial,w.o,h⟩
  | For t it body o ps=>
    cases o with
    | nil=>exact onT_e h fun ht h=>for_st ok to bo nm hr hx ht h
    | cons=>exact Stop.no (n:=110) h
  | While t body o ps=>
    cases o with
    | nil=>exact while_st ht hx h
    | cons=>exact Stop.no (n:=110) h
  | _=>exact Stop.no (n:=110) h
theorem told_e {line:Nat} {f:Fl → Frame → W → Prop} {y G:Prop} (h:told line w f y) (g:∀ fl F w',f fl F w' → G) (g2:y → G):G:=by
  unfold told at h
  split at h
  · exact onB_e h (fun _ h=>g _ _ _ h) fun _ h=>g2 h
  · exact g2 h
theorem xF_ok (ok:X.Ok T.K) (to:TabOk T) (bo:BiOk T) (nm:NmOk fi.fd fi.nm) (hr:∀ F,EvOk X d fi.fd F (r.ev fi F)) (ht:∀ F,TrOk X d fi.fd F (r.tr fi F)) (hx:XsR X d fi r) (hc:ClR X d r) {s:Stmt} (h:xF X T d r fi s F w k):Xs X (d + 1) fi.fd F (fun env=>exec s env) w.σ w.nx (qS k):=
  told_e h (fun fl F' w' h p=>wpAny_mono (xsGo h.1 p.less) (fun f s ⟨φ,F2,J2,ρ2,σ2,n2,E2,R2,x2,q1,q2,q3,q4⟩=>⟨φ,F2,J2,ρ2,σ2,n2,E2,R2,x2,w'.o,by subst q1 q2 q3 q4; exact h.2⟩) fun _ _ z=>z) fun h=>xG_ok ok to bo nm hr ht hx hc h
theorem FlR.other {J ρ} {fl:Fl} {f:Flow} (x:FlR J nx ρ fl f) (h:fl ≠ .next):f ≠ .next:=fun e=>by
  subst e
  cases fl <;> first | exact h rfl | exact x.elim
theorem xsF_ok (ok:X.Ok T.K) (to:TabOk T) (bo:BiOk T) (nm:NmOk fi.fd fi.nm) (hr:∀ F,EvOk X d fi.fd F (r.ev fi F)) (ht:∀ F,TrOk X d fi.fd F (r.tr fi F)) (hx:XsR X d fi r) (hc:ClR X d r):∀ (ss:List Stmt) {F:Frame} {w:W} {k:KS},xsF X T d r fi ss F w k → Xs X (d + 1) fi.fd F (fun env=>execs ss env) w.σ w.nx (qS k)
  | [],F,w,k,h=>fun p=>wpAny_execs_nil ⟨.next,F,p.J,p.ρ,w.σ,w.nx,.refl,p.R,trivial,w.o,h⟩
  | s :: ss,F,w,k,h=>fun p=>by
    refine wpAny_execs_cons (wpAny_mono (xF_ok ok to bo nm hr ht hx hc h p) (fun fl s1 z=>gl fun G kk=>?_) fun _ _ z=>z)
    obtain ⟨φ,F1,J1,ρ1,σ1,n1,E1,R1,x1,o1,h1⟩:=z
    cases φ with
    | next=>
      obtain rfl:=x1.next
      exact kk (wpAny_mono (xsF_ok ok to bo nm hr ht hx hc ss h1 (p.to R1)) (fun _ _ z=>AnsS.ext E1 z) fun _ _ z=>z)
    | brk=>cases fl <;> first | exact x1.elim | exact kk ⟨.brk,F1,J1,ρ1,σ1,n1,E1,R1,trivial,o1,h1⟩
    | cont=>cases fl <;> first | exact x1.elim | exact kk ⟨.cont,F1,J1,ρ1,σ1,n1,E1,R1,trivial,o1,h1⟩
    | ret v=>cases fl <;> first | exact x1.elim | exact kk ⟨.ret v,F1,J1,ρ1,σ1,n1,E1,R1,x1,o1,h1⟩
theorem Cl.less {f:Value} {as:List AV} {kw:List (Str × AV)} {Q:QE} (h:Cl X d f as kw σ nx Q):Cl X (d + 1) f as kw σ nx Q:=fun F p vs kvs hv hk=>h F p.less vs kvs hv hk
theorem Xs.less {fd:FuncData} {t:Env → Sem Flow} {Q:QS} (h:Xs X d fd F t σ nx Q):Xs X (d + 1) fd F t σ nx Q:=fun p=>h p.less
theorem back_q {fl:Fl} {o:List Hint} {k:KE} (h:back fl ⟨o,σ,nx⟩ k):retQ (qE k) fl F σ nx:=by
  cases fl with
  | next=>exact ⟨o,h⟩
  | ret a=>exact ⟨o,h⟩
  | _=>exact Stop.no (n:=118) h
theorem clG_ok (ok:X.Ok T.K) (to:TabOk T) (hx:∀ fi,NmOk fi.fd fi.nm → XsR X d fi r) {f:Nat} {as:List AV} {kw:List (Str × AV)} {k:KE} (h:clG T r f as kw w k):Cl X (d + 1) (.ref f) as kw w.σ w.nx (qE k):=
  onS_e h fun nm e h=>onS_e h fun dflt hd h=>onS_e h fun body hb h=>onS_e h fun b hbind h=>
    have fo:=to.fns _ _ e
    cl_def ok fo hb hd hbind fun p _=>wpAny_mono (hx ⟨fdAt T.K f,nm⟩ fo.nm _ _ _ _ h p) (fun fl s ⟨φ,F2,J2,ρ2,σ2,n2,E2,R2,x2,o2,h2⟩=>⟨φ,F2,J2,ρ2,σ2,n2,E2,R2,x2,back_q h2⟩) fun _ _ z=>z
theorem clF_ok (ok:X.Ok T.K) (to:TabOk T) (hx:∀ fi,NmOk fi.fd fi.nm → XsR X d fi r) {f:Nat} {as:List AV} {kw:List (Str × AV)} {k:KE} (h:clF X T d r f as kw w k):Cl X (d + 1) (.ref f) as kw w.σ w.nx (qE k):=by
  unfold clF at h
  split at h
  · exact onT_e h fun _ h=>Cl.mono (Cl.less h.1) fun a' σ' n' ⟨e1,e2,e3⟩=>by
      subst e1 e2 e3
      exact ⟨_,h.2⟩
  · exact clG_ok ok to hx h
structure RunOk (X:Cx) (T:Tab) (n:Nat):Prop where
  ev:∀ fi:Fi,NmOk fi.fd fi.nm → ∀ F,EvOk X n fi.fd F ((run X T n).ev fi F)
  tr:∀ fi:Fi,NmOk fi.fd fi.nm → ∀ F,TrOk X n fi.fd F ((run X T n).tr fi F)
  xs:∀ fi:Fi,NmOk fi.fd fi.nm → XsR X n fi (run X T n)
  cl:ClR X n (run X T n)
theorem run_ok (ok:X.Ok T.K) (to:TabOk T) (bo:BiOk T):∀ n,RunOk X T n
  | 0=>⟨(fun _ _ _ e w k h=>Stop.no (n:=122) h),(fun _ _ _ e w k h=>Stop.no (n:=123) h),(fun _ _ F ss w k h=>Stop.no (n:=124) h),(fun f as kw w k h=>Stop.no (n:=125) h)⟩
  | n + 1=>
    have ih:=run_ok ok to bo n
    ⟨fun fi nm F e w k h=>evF_ok ok to bo nm (ih.ev fi nm F) (ih.tr fi nm F) ih.cl h,fun fi nm F e w k h=>trF_ok ok (ih.ev fi nm F) (ih.tr fi nm F) h,
      fun fi nm F ss w k h=>xsF_ok ok to bo nm (ih.ev fi nm) (ih.tr fi nm) (ih.xs fi nm) ih.cl ss h,fun f as kw w k h=>clF_ok ok to ih.xs h⟩
end
end Mine
namespace Mine
/-! places renamed -/
mutual
noncomputable def AV.mp (f:Nat → Nat):AV → AV
  | .loc n=>.loc (f n)
  | .tup l=>.tup (AV.mps f l)
  | .fl l=>.fl (AV.mps f l)
  | .none=>.none
  | .bool b=>.bool b
  | .int i=>.int i
  | .str x=>.str x
  | .stat v=>.stat v
  | .sb b=>.sb b
  | .si i=>.si i
  | .ss x=>.ss x
  | .so o=>.so o
  | .io o=>.io o
  | .sl l=>.sl l
noncomputable def AV.mps (f:Nat → Nat):List AV → List AV
  | []=>[]
  | a :: l=>AV.mp f a :: AV.mps f l
end
mutual
noncomputable def AV.okb (n:Nat):AV → Bool
  | .loc m=>Nat.blt m n
  | .tup l=>AV.okbs n l
  | .fl l=>AV.okbs n l
  | .none=>true
  | .bool _=>true
  | .int _=>true
  | .str _=>true
  | .stat _=>true
  | .sb _=>true
  | .si _=>true
  | .ss _=>true
  | .so _=>true
  | .io _=>true
  | .sl _=>false
noncomputable def AV.okbs (n:Nat):List AV → Bool
  | []=>true
  | a :: l=>cond (AV.okb n a) (AV.okbs n l) false
end
noncomputable def NL (a:AV):Prop:=∀ {J:Frozen} {nx nx':Nat} {ρ ρ':Nat → Addr} {v:Value},VR J nx ρ a v → VR J nx' ρ' a v
section
variable {J:Frozen} {nx nx':Nat} {ρ ρ':Nat → Addr} {f:Nat → Nat}
/-- a value that names no place -/
noncomputable def atom:AV → Bool
  | .loc _=>false
  | .tup _=>false
  | .fl _=>false
  | .sl _=>false
  | _=>true
theorem VR.atom {a:AV} {v:Value} (e:Mine.atom a = true) (x:VR J nx ρ a v) {J':Frozen}:VR J' nx' ρ' a v:=by
  cases x with
  | none=>exact .none
  | bool=>exact .bool
  | int=>exact .int
  | str=>exact .str
  | stat=>exact .stat
  | sb=>exact .sb
  | si=>exact .si
  | ss=>exact .ss
  | son=>exact .son
  | sos=>exact .sos
  | ion=>exact .ion
  | ios=>exact .ios
  | _=>cases e
mutual
theorem mp_vr (hf:∀ n,n < nx' → ρ' n = ρ (f n)):∀ (a:AV) {v:Value},AV.okb nx' a = true → VR J nx ρ (AV.mp f a) v → VR J nx' ρ' a v
  | .loc n,v,hb,h=>by
    have hb:n < nx':=Nat.le_of_ble_eq_true hb
    rw [loc_vr rfl h,← hf n hb]; exact .loc hb
  | .tup l,v,hb,h=>by
    cases h with
    | tup h hs=>exact .tup h (mps_vr hf l hb hs)
  | .fl l,v,hb,h=>by
    cases h with
    | fl h hs=>exact .fl h (mps_vr hf l hb hs)
  | .none,v,_,h=>h.atom rfl
  | .bool _,v,_,h=>h.atom rfl
  | .int _,v,_,h=>h.atom rfl
  | .str _,v,_,h=>h.atom rfl
  | .stat _,v,_,h=>h.atom rfl
  | .sb _,v,_,h=>h.atom rfl
  | .si _,v,_,h=>h.atom rfl
  | .ss _,v,_,h=>h.atom rfl
  | .so _,v,_,h=>h.atom rfl
  | .io _,v,_,h=>h.atom rfl
  | .sl l,v,hb,h=>nomatch hb
theorem mps_vr (hf:∀ n,n < nx' → ρ' n = ρ (f n)):∀ (l:List AV) {vs:List Value},AV.okbs nx' l = true → VRs J nx ρ (AV.mps f l) vs → VRs J nx' ρ' l vs
  | [],vs,_,h=>by cases h; exact .nil
  | a :: l,vs,hb,h=>by
    cases h with
    | cons h hs=>exact .cons (mp_vr hf a (cond_e hb).1 h) (mps_vr hf l (cond_e hb).2 hs)
end
end
noncomputable def mpA (f:Nat → Nat):List (Nat × AV) → List (Nat × AV)
  | []=>[]
  | p :: l=>(p.1,p.2.mp f) :: mpA f l
noncomputable def mpD {κ:Type} (f:Nat → Nat):List (κ × AV) → List (κ × AV)
  | []=>[]
  | p :: l=>(p.1,p.2.mp f) :: mpD f l
noncomputable def okA {κ:Type} (n:Nat):List (κ × AV) → Bool
  | []=>true
  | p :: l=>cond (p.2.okb n) (okA n l) false
noncomputable def AObj.mp (f:Nat → Nat):AObj → AObj
  | .inst C as=>.inst C (mpA f as)
  | .list l=>.list (AV.mps f l)
  | .dict kv=>.dict (mpD f kv)
  | .set l=>.set l
  | .slist l=>.slist l
  | .edict=>.edict
noncomputable def AObj.okb (n:Nat):AObj → Bool
  | .inst _ as=>okA n as
  | .list l=>AV.okbs n l
  | .dict kv=>okA n kv
  | _=>true
theorem gt_mpA {f:Nat → Nat}:∀ {as:List (Nat × AV)} {c:Nat},gt (mpA f as) c = (gt as c).map (AV.mp f)
  | [],c=>rfl
  | p :: l,c=>by
    simp only [mpA,gt]
    cases Nat.beq p.1 c with
    | true=>rfl
    | false=>exact gt_mpA
theorem mpA_len {f:Nat → Nat}:∀ {as:List (Nat × AV)},(mpA f as).length = as.length
  | []=>rfl
  | p :: l=>by simp [mpA,mpA_len (as:=l)]
theorem okA_mem {κ:Type} {n:Nat}:∀ {as:List (κ × AV)},okA n as = true → ∀ p ∈ as,p.2.okb n = true
  | q :: l,h=>List.forall_mem_cons.mpr ⟨(cond_e h).1,okA_mem (cond_e h).2⟩
  | [],_=>fun p hp=>nomatch hp
theorem gt_mem' {α:Type} {l:List (Nat × α)} {c:Nat} {v:α} (h:gt l c = some v):(c,v) ∈ l:=by
  induction l with
  | nil=>cases h
  | cons p r ih=>
    unfold gt at h
    cases q:Nat.beq p.1 c with
    | true=>rw [q] at h; cases h; rw [← Nat.eq_of_beq_eq_true q]; exact .head _
    | false=>rw [q] at h; exact .tail _ (ih h)
section
variable {X:Cx} {h:Heap} {J:Frozen} {nx nx':Nat} {ρ ρ':Nat → Addr} {f:Nat → Nat} {a:Addr}
theorem mpD_vr {κ:Type} (hf:∀ n,n < nx' → ρ' n = ρ (f n)):∀ {kv:List (κ × AV)} {vs:List (κ × Value)},okA nx' kv = true → KVR J nx ρ (mpD f kv) vs → KVR J nx' ρ' kv vs
  | [],_,_,h=>by cases h; exact .nil
  | p :: l,_,hb,h=>by
    cases h with
    | cons h hs=>exact .cons (mp_vr hf _ (cond_e hb).1 h) (mpD_vr hf (cond_e hb).2 hs)
theorem nl_list:∀ {l:List AV} {vs:List Value},(∀ a ∈ l,NL a) → VRs J nx ρ l vs → VRs J nx' ρ' l vs
  | [],_,_,h=>by cases h; exact .nil
  | a :: l,_,hl,h=>by
    cases h with
    | cons h1 h2=>exact .cons (hl _ (.head _) h1) (nl_list (fun b hb=>hl b (.tail _ hb)) h2)
theorem attR_mp (hf:∀ n,n < nx' → ρ' n = ρ (f n)) {o:Option AV} {mv:Option Value} (hb:∀ a,o = some a → a.okb nx' = true) (z:AttR J nx ρ (o.map (AV.mp f)) mv):AttR J nx' ρ' o mv:=by
  cases o with
  | none=>rw [AttR.none z]; trivial
  | some a=>
    obtain ⟨v,rfl,x⟩:=AttR.some z
    exact mp_vr hf a (hb a rfl) x
theorem mpO_or (hf:∀ n,n < nx' → ρ' n = ρ (f n)) {o:AObj} (hb:o.okb nx' = true) (hs:∀ l,o = .slist l → ∀ a ∈ l,NL a) (x:OR X h J nx ρ a (o.mp f)):OR X h J nx' ρ' a o:=by
  cases o with
  | inst C as=>
    cases x with
    | @inst _ _ dx m h1 h2 h3 h4=>exact .inst h1 (mpA_len ▸ h2) h3 fun y hy=>attR_mp hf (fun a e=>okA_mem hb _ (gt_mem' e)) (gt_mpA ▸ h4 y hy)
  | list l=>
    cases x with
    | list h1 h2=>exact .list h1 (mps_vr hf l hb h2)
  | dict kv=>
    cases x with
    | dict h1 h2=>exact .dict h1 (mpD_vr hf hb h2)
  | set l=>
    cases x with
    | set h1=>exact .set h1
  | slist l=>
    cases x with
    | slist h1 h2=>exact .slist h1 (nl_list (hs l rfl) h2)
  | edict=>
    cases x with
    | edict h1 h2=>exact .edict h1 h2
theorem Rel.ren {L:Lk} {F F':Frame} {σ σ':Store} {s:Shared} (R:Rel X J ρ L F σ nx s) (f:Nat → Nat) (nx':Nat) (hF:∀ c av,gt F' c = some av → av.okb nx' = true∧gt F c = some (av.mp f))
    (hσ:∀ m o,gt σ' m = some o → m < nx'∧o.okb nx' = true∧gt σ (f m) = some (o.mp f)) (inj:∀ m m' o o',gt σ' m = some o → gt σ' m' = some o' → m ≠ m' → f m ≠ f m') (hs:∀ m l,gt σ' m = some (.slist l) → ∀ a ∈ l,NL a) :
    Rel X J (fun n=>ρ (f n)) L F' σ' nx' s:=by
  refine ⟨R.jh,R.up,R.hj,R.gens,R.os,R.Lj,?_,fun m o e=>?_,fun m m' o o' e e' d b hb=>?_⟩
  · obtain ⟨mm,h1,h2⟩:=R.fr
    refine ⟨mm,h1,fun c av q=>?_⟩
    obtain ⟨q1,q2⟩:=hF c av q
    obtain ⟨x,v,a1,a2,a3,a4⟩:=h2 c _ q2
    exact ⟨x,v,a1,a2,a3,mp_vr (ρ:=ρ) (f:=f) (fun _ _=>rfl) av q1 a4⟩
  · obtain ⟨h1,h2,h3⟩:=hσ m o e
    obtain ⟨_,x,y⟩:=R.st _ _ h3
    exact ⟨h1,mpO_or (ρ:=ρ) (f:=f) (fun _ _=>rfl) h2 (fun l z=>hs m l (z ▸ e)) x,y⟩
  · obtain ⟨_,_,h3⟩:=hσ m o e
    obtain ⟨_,_,h3'⟩:=hσ m' o' e'
    exact R.dj _ _ _ _ h3 h3' (inj m m' o o' e e' d) b hb
end
/-- the same by lists -/
noncomputable def fOf (l:List Nat) (n:Nat):Nat:=match l[n]? with
  | some m=>m
  | none=>n
noncomputable def okF (n:Nat):Frame → Bool
  | []=>true
  | p :: r=>cond (p.2.okb n) (okF n r) false
noncomputable def okS (n:Nat):Store → Bool
  | []=>true
  | p :: r=>cond (Nat.blt p.1 n) (cond (p.2.okb n) (okS n r) false) false
noncomputable def gts {α:Type} (σ:List (Nat × α)):List Nat → List (Option α)
  | []=>[]
  | c :: r=>gt σ c :: gts σ r
noncomputable def keysOf {α:Type}:List (Nat × α) → List Nat
  | []=>[]
  | p :: r=>p.1 :: keysOf r
noncomputable def mapF (f:Nat → Nat):List Nat → List Nat
  | []=>[]
  | p :: r=>f p :: mapF f r
noncomputable def mpF (f:Nat → Nat):Frame → List (Option AV)
  | []=>[]
  | p :: r=>some (p.2.mp f) :: mpF f r
noncomputable def mpS (f:Nat → Nat):Store → List (Option AObj)
  | []=>[]
  | p :: r=>some (p.2.mp f) :: mpS f r
noncomputable def nodupB:List Nat → Bool
  | []=>true
  | a :: r=>cond (!(r.any (Nat.beq a))) (nodupB r) false
theorem okF_mem {n:Nat}:∀ {F:Frame},okF n F = true → ∀ p ∈ F,p.2.okb n = true
  | q :: l,h=>List.forall_mem_cons.mpr ⟨(cond_e h).1,okF_mem (cond_e h).2⟩
  | [],_=>fun p hp=>nomatch hp
theorem okS_mem {n:Nat}:∀ {F:Store},okS n F = true → ∀ p ∈ F,p.1 < n∧p.2.okb n = true
  | q :: l,h=>List.forall_mem_cons.mpr ⟨⟨Nat.le_of_ble_eq_true (cond_e h).1,(cond_e (cond_e h).2).1⟩,okS_mem (cond_e (cond_e h).2).2⟩
  | [],_=>fun p hp=>nomatch hp
theorem gts_F {F:Frame} {f:Nat → Nat}:∀ {G:Frame},gts F (keysOf G) = mpF f G → ∀ p ∈ G,gt F p.1 = some (p.2.mp f)
  | q :: l,h=>List.forall_mem_cons.mpr ⟨(List.cons.inj h).1,gts_F (List.cons.inj h).2⟩
  | [],_=>fun p hp=>nomatch hp
theorem gts_S {F:Store} {f:Nat → Nat}:∀ {G:Store},gts F (mapF f (keysOf G)) = mpS f G → ∀ p ∈ G,gt F (f p.1) = some (p.2.mp f)
  | q :: l,h=>List.forall_mem_cons.mpr ⟨(List.cons.inj h).1,gts_S (List.cons.inj h).2⟩
  | [],_=>fun p hp=>nomatch hp
theorem nodupB_ok:∀ {l:List Nat},nodupB l = true → l.Nodup
  | [],_=>List.nodup_nil
  | a :: r,h=>List.nodup_cons.mpr ⟨(fun hm=>by
      have q:=(cond_e h).1
      rw [List.any_eq_true.mpr ⟨a,hm,Nat.beq_refl a⟩] at q
      cases q),nodupB_ok (cond_e h).2⟩
theorem mapF_mem {f:Nat → Nat} {x:Nat} {r:List Nat} (h:x ∈ r):f x ∈ mapF f r:=by
  induction h with
  | head=>exact .head _
  | tail _ _ ih=>exact .tail _ ih
theorem mapF_inj {f:Nat → Nat}:∀ {l:List Nat},(mapF f l).Nodup → ∀ a ∈ l,∀ b ∈ l,a ≠ b → f a ≠ f b
  | c :: r,h,a,ha,b,hb,d=>by
    obtain ⟨h1,h2⟩:=List.nodup_cons.mp h
    rcases List.mem_cons.mp ha with ea | ha'
    · rcases List.mem_cons.mp hb with eb | hb'
      · exact absurd (ea.trans eb.symm) d
      · intro e; exact h1 (by rw [← ea,e]; exact mapF_mem hb')
    · rcases List.mem_cons.mp hb with eb | hb'
      · intro e; exact h1 (by rw [← eb,← e]; exact mapF_mem ha')
      · exact mapF_inj h2 a ha' b hb' d
theorem mem_keys {α:Type}:∀ {l:List (Nat × α)} {p:Nat × α},p ∈ l → p.1 ∈ keysOf l
  | q :: r,p,h=>by
    rcases List.mem_cons.mp h with rfl | h
    · exact .head _
    · exact .tail _ (mem_keys h)
theorem Rel.renL {X:Cx} {J:Frozen} {nx nx':Nat} {ρ:Nat → Addr} {L:Lk} {F F':Frame} {σ σ':Store} {s:Shared} (R:Rel X J ρ L F σ nx s) (f:Nat → Nat) (h1:okF nx' F' = true) (h2:okS nx' σ' = true) (h3:nodupB (mapF f (keysOf σ')) = true) (h4:gts F (keysOf F') = mpF f F') (h5:gts σ (mapF f (keysOf σ')) = mpS f σ')
    (hs:∀ p ∈ σ',∀ l,p.2 = .slist l → ∀ a ∈ l,NL a):Rel X J (fun n=>ρ (f n)) L F' σ' nx' s:=
  R.ren f nx' (fun c av e=>⟨okF_mem h1 _ (gt_mem' e),gts_F h4 _ (gt_mem' e)⟩) (fun m o e=>⟨(okS_mem h2 _ (gt_mem' e)).1,(okS_mem h2 _ (gt_mem' e)).2,gts_S h5 _ (gt_mem' e)⟩)
    (fun m m' o o' e e' d=>mapF_inj (nodupB_ok h3) m (mem_keys (gt_mem' e)) m' (mem_keys (gt_mem' e')) d) fun m l e=>hs _ (gt_mem' e) l rfl
section
variable {X:Cx} {J J':Frozen} {nx nx':Nat} {ρ:Nat → Addr} {L:Lk} {F F':Frame} {σ σ':Store} {s:Shared}
/-- an object of nobody is kept -/
theorem Rel.hold {a:Addr} {ob:Obj} (R:Rel X J ρ L F σ nx s) (g:s.heap.get? a = some ob) (hJ:J a = none) (hL:a ≠ L.a) (hf:∀ n o,gt σ n = some o → a ∉ feet s.heap (ρ n)):Rel X (put J a ob) ρ L F σ nx s:=by
  have E:Ext J nx ρ (put J a ob) nx ρ:=put_ext hJ
  refine ⟨fun b o q=>?_,R.up_put hJ,fun b o q=>E.j _ _ (R.hj b o q),R.gens,R.os,?_,?_,fun n o q=>?_,R.dj⟩
  · unfold put at q
    split at q
    · rename_i z; cases q; rw [z]; exact .inl g
    · exact R.jh b o q
  · unfold put
    rw [if_neg (Ne.symm hL)]; exact R.Lj
  · obtain ⟨m,h1,h2⟩:=R.fr
    exact ⟨m,h1,FrOk.mono E.grow h2⟩
  · obtain ⟨q1,q2,q3⟩:=R.st n o q
    refine ⟨q1,q2.at (fun _ _ _ z=>z) E.grow,fun b hb=>⟨?_,(q3 b hb).2⟩⟩
    unfold put
    rw [if_neg (fun z=>hf n o q (by rw [← z]; exact hb))]
    exact (q3 b hb).1
/-- a place is kept for ever -/
theorem Rel.pin {n:Nat} {l:List AV} (R:Rel X J ρ L F σ nx s) (e:gt σ n = some (.slist l)) (hs:∀ m o,gt σ' m = some o → m ≠ n∧gt σ m = some o) :
    ∃ ob,J (ρ n) = none∧Rel X (put J (ρ n) ob) ρ L F σ' nx s∧VR (put J (ρ n) ob) nx ρ (.sl l) (.ref (ρ n)):=by
  obtain ⟨n1,x,n3⟩:=R.st _ _ e
  cases x with
  | @slist _ vs ep h1 h2=>
    have hb:=n3 (ρ n) (by unfold feet; exact .head _)
    exact ⟨⟨.type "list",none,.seq vs ep,#[]⟩,hb.1,(R.less fun m o q=>(hs m o q).2).hold h1 hb.1 hb.2 fun m o q z=>R.dj m n _ _ (hs m o q).2 e (hs m o q).1 _ z (by unfold feet; exact .head _),.sl (vs:=vs) (ep:=ep) put_self (h2.mono (put_ext (nx:=nx) (ρ:=ρ) hb.1).grow)⟩
end
end Mine
namespace Mine
/-! known less -/
noncomputable def AVle (a b:AV):Prop:=∀ {J:Frozen} {nx:Nat} {ρ:Nat → Addr} {v:Value},VR J nx ρ a v → VR J nx ρ b v
noncomputable def OLe (a b:AObj):Prop:=∀ {X:Cx} {h:Heap} {J:Frozen} {nx:Nat} {ρ:Nat → Addr} {ad:Addr},OR X h J nx ρ ad a → OR X h J nx ρ ad b
theorem AVle.refl {a:AV}:AVle a a:=fun h=>h
theorem AVle.soft {a b:AV} (s:Soft a b):AVle a b:=fun h=>s.vr h
theorem AVle.int {i:Int}:AVle (.int i) (.si i):=fun h=>by obtain ⟨_,rfl⟩:=asI_vr rfl h; exact .si
theorem AVle.bool {i:Bool}:AVle (.bool i) (.sb i):=fun h=>by obtain rfl:=asB_vr rfl h; exact .sb
theorem AVle.str {i:Str}:AVle (.str i) (.ss i):=fun h=>by obtain ⟨_,rfl⟩:=asS_vr rfl h; exact .ss
theorem AVle.son:AVle .none (.so none):=fun h=>by obtain rfl:=asN_vr rfl h; exact .son
theorem AVle.sos {x:Str}:AVle (.ss x) (.so (some x)):=fun h=>by obtain ⟨_,rfl⟩:=asS_vr rfl h; exact .sos
theorem AVle.ion:AVle .none (.io none):=fun h=>by obtain rfl:=asN_vr rfl h; exact .ion
theorem AVle.ios {x:Int}:AVle (.si x) (.io (some x)):=fun h=>by obtain ⟨_,rfl⟩:=asI_vr rfl h; exact .ios
theorem AVle.iosI {x:Int}:AVle (.int x) (.io (some x)):=fun h=>by obtain ⟨_,rfl⟩:=asI_vr rfl h; exact .ios
theorem AVle.trans {a b c:AV} (h:AVle a b) (k:AVle b c):AVle a c:=fun x=>k (h x)
inductive Ls:List AV → List AV → Prop
  | nil:Ls [] []
  | cons {a b l m} (h:AVle a b) (hs:Ls l m):Ls (a :: l) (b :: m)
theorem Ls.vr {l m:List AV} (h:Ls l m):∀ {J:Frozen} {nx:Nat} {ρ:Nat → Addr} {vs:List Value},VRs J nx ρ l vs → VRs J nx ρ m vs:=by
  induction h with
  | nil=>intro _ _ _ _ h; cases h; exact .nil
  | cons h hs ih=>intro _ _ _ _ x; cases x with | cons x xs=>exact .cons (h x) (ih xs)
theorem AVle.tup {l m:List AV} (h:Ls l m):AVle (.tup l) (.tup m):=fun x=>by obtain ⟨_,rfl,_,_,g,gs⟩:=asT_vr rfl x; exact .tup g (h.vr gs)
theorem OLe.refl {a:AObj}:OLe a a:=fun h=>h
theorem OLe.slist {l m:List AV} (h:Ls l m):OLe (.list l) (.slist m):=fun x=>by cases x with | list g gs=>exact .slist g (h.vr gs)
theorem OLe.list {l m:List AV} (h:Ls l m):OLe (.list l) (.list m):=fun x=>by cases x with | list g gs=>exact .list g (h.vr gs)
inductive As {κ:Type}:List (κ × AV) → List (κ × AV) → Prop
  | nil:As [] []
  | cons {c a b l m} (h:AVle a b) (hs:As l m):As ((c,a) :: l) ((c,b) :: m)
theorem As.len {κ:Type} {l m:List (κ × AV)} (h:As l m):l.length = m.length:=by induction h with | nil=>rfl | cons _ _ ih=>exact congrArg Nat.succ ih
theorem As.gt {l m:List (Nat × AV)} (h:As l m):∀ c,(Mine.gt l c = none∧Mine.gt m c = none) ∨ ∃ a b,Mine.gt l c = some a∧Mine.gt m c = some b∧AVle a b:=by
  induction h with
  | nil=>exact fun c=>.inl ⟨rfl,rfl⟩
  | cons h hs ih=>
    intro c
    rename_i k a b l m
    simp only [Mine.gt]
    cases Nat.beq k c with
    | true=>exact .inr ⟨a,b,rfl,rfl,h⟩
    | false=>exact ih c
theorem As.kv {κ:Type} {l m:List (κ × AV)} (h:As l m):∀ {J:Frozen} {nx:Nat} {ρ:Nat → Addr} {vs:List (κ × Value)},KVR J nx ρ l vs → KVR J nx ρ m vs:=by
  induction h with
  | nil=>intro _ _ _ _ h; cases h; exact .nil
  | cons h hs ih=>intro _ _ _ _ x; cases x with | cons x xs=>exact .cons (h x) (ih xs)
theorem OLe.inst {C:Addr} {l m:List (Nat × AV)} (h:As l m):OLe (.inst C l) (.inst C m):=fun x=>by
  cases x with
  | @inst _ _ dx mm h1 h2 h3 h4=>
    refine .inst h1 (h.len ▸ h2) h3 fun y hy=>?_
    have z:=h4 y hy
    rcases h.gt (cd y) with ⟨e1,e2⟩ | ⟨a,b,e1,e2,e3⟩
    · rw [e1] at z; rw [e2]
      cases em:mm y with
      | none=>trivial
      | some v=>rw [em] at z; exact z.elim
    · rw [e1] at z; rw [e2]
      cases em:mm y with
      | none=>rw [em] at z; exact z.elim
      | some v=>rw [em] at z; exact e3 z
theorem OLe.dict {l m:List (Str × AV)} (h:As l m):OLe (.dict l) (.dict m):=fun x=>by cases x with | dict g gs=>exact .dict g (h.kv gs)
inductive Ss:Store → Store → Prop
  | nil:Ss [] []
  | cons {n a b l m} (h:OLe a b) (hs:Ss l m):Ss ((n,a) :: l) ((n,b) :: m)
theorem Ss.gt {l m:Store} (h:Ss l m):∀ c b,Mine.gt m c = some b → ∃ a,Mine.gt l c = some a∧OLe a b:=by
  induction h with
  | nil=>exact fun c b e=>by cases e
  | cons h hs ih=>
    intro c b
    rename_i k a b' l m
    simp only [Mine.gt]
    cases Nat.beq k c with
    | true=>exact fun e=>by cases e; exact ⟨a,rfl,h⟩
    | false=>exact ih c b
section
variable {X:Cx} {J J':Frozen} {nx nx':Nat} {ρ:Nat → Addr} {L:Lk} {F F':Frame} {σ σ':Store} {s:Shared}
theorem Rel.soft (R:Rel X J ρ L F σ nx s) (hF:As F F') (hσ:Ss σ σ'):Rel X J ρ L F' σ' nx s:=by
  refine ⟨R.jh,R.up,R.hj,R.gens,R.os,R.Lj,?_,fun n o e=>?_,fun n n' o o' e e'=>?_⟩
  · obtain ⟨m,h1,h2⟩:=R.fr
    refine ⟨m,h1,fun c av q=>?_⟩
    rcases hF.gt c with ⟨e1,e2⟩ | ⟨a,b,e1,e2,e3⟩
    · rw [e2] at q; cases q
    · rw [e2] at q; cases q
      obtain ⟨x,v,a1,a2,a3,a4⟩:=h2 c _ e1
      exact ⟨x,v,a1,a2,a3,e3 a4⟩
  · obtain ⟨a,e1,e2⟩:=hσ.gt _ _ e
    obtain ⟨q1,q2,q3⟩:=R.st _ _ e1
    exact ⟨q1,e2 q2,q3⟩
  · obtain ⟨a,e1,_⟩:=hσ.gt _ _ e
    obtain ⟨a',e1',_⟩:=hσ.gt _ _ e'
    exact R.dj _ _ _ _ e1 e1'
/-- nothing asked any more -/
theorem Rel.bare (R:Rel X J ρ L F σ nx s) {ρ':Nat → Addr}:Rel X J ρ' L [] [] nx' s:=
  ⟨R.jh,R.up,R.hj,R.gens,R.os,R.Lj,let ⟨m,h,_⟩:=R.fr; ⟨m,h,fun c av q=>by cases q⟩,(fun n o e=>by cases e),(fun n n' o o' e=>by cases e)⟩
/-- an object that was not there -/
theorem Rel.holdN {a:Addr} {ob:Obj} {s₀:Shared} {J₀:Frozen} (R₀:Rel X J₀ ρ L F σ nx s₀) (R:Rel X J ρ L F σ nx s) (k:∀ b o,J₀ b = none → s₀.heap.get? b = some o → s.heap.get? b = some o) (n:s₀.heap.get? a = none) (hJ:J a = none) (g:s.heap.get? a = some ob):Rel X (put J a ob) ρ L F σ nx s:=by
  refine R.hold g hJ (fun z=>?_) fun m o e hb=>?_
  · obtain ⟨o,q⟩:=R₀.L_some
    rw [z,q] at n; cases n
  · obtain ⟨_,q2,q3⟩:=R₀.st m o e
    rw [q2.feet_eq fun b hb ob q=>k b ob (q3 b hb).1 q] at hb
    obtain ⟨ob',q⟩:=q2.feet_lt _ hb
    rw [q] at n; cases n
end
end Mine
namespace Mine
section
variable {X:Cx} {d:Nat} {F:Frame} {w:W} {fd:FuncData} {J J':Frozen} {I:Addr} {o o':Obj}
noncomputable def enumO (it:Addr) (i:Int) (old:Value):Obj:={ cls:=.type "enumerate",dict:=none,data:=.fields #[.none,.bool false,.ref it,rawInt i,.none,old],slots:=#[] }
theorem enumO_good {it:Addr} {i:Int} {old:Value}:Good (enumO it i old):=⟨fun ⟨_,_,z⟩=>(nomatch z),fun z=>absurd (Value.type.inj z) (by decide)⟩
/-- behind a turn: the places are named anew -/
noncomputable def Next (X:Cx) (G:Frame → W → Prop) (F:Frame) (σ:Store) (nx:Nat):Prop:=∀ {J:Frozen} {ρ:Nat → Addr} {L:Lk} {s:Shared},Rel X J ρ L F σ nx s → ∃ ρ' F' w',Rel X J ρ' L F' w'.σ w'.nx s∧G F' w'
/-- what is kept stays so -/
noncomputable def Kp (J J':Frozen):Prop:=∀ a o,J a = some o → J' a = some o
theorem Kp.put (k:Kp J J') (h:J I = none):Kp J (put J' I o):=fun b ob q=>(put_other fun z=>by rw [z,h] at q; cases q).trans (k b ob q)
theorem Kp.del (k:Kp J J') (h:J I = none):Kp J (del J' I):=fun b ob q=>(del_other fun z=>by rw [z,h] at q; cases q).trans (k b ob q)
theorem Rel.Jn {ρ:Nat → Addr} {L:Lk} {σ:Store} {nx:Nat} {s:Shared} (R:Rel X J ρ L F σ nx s) (n:s.heap.get? I = none):J I = none:=by
  cases q:J I with
  | none=>rfl
  | some o=>exact (R.jn q n).elim
/-- where a loop over enumerate stands -/
inductive EnI (p:At X d F w.σ w.nx) (I ad:Addr) (l:List AV) (G:Nat → Frame → W → Prop) (m:Nat) (s:Shared):Prop
  | mk (j:Nat) (F':Frame) (w':W) (J:Frozen) (ρ:Nat → Addr) (old:Value) (oi:Obj) (hm:m = l.length + 1 - j) (hj:j ≤ l.length) (g:G j F' w') (k:Kp p.J J) (r:Rel X J ρ p.L F' w'.σ w'.nx s) (e:J (I + 1) = some (enumO I (j:Int) old)) (i:Itr X J I oi) (io:iterO ad j oi)
     (v:∃ vs ep,J ad = some ⟨.type "list",none,.seq vs ep,#[]⟩∧VRs J w'.nx ρ l vs.toList)
/-- the two objects of an iterator,changed -/
theorem swap2 {ρ:Nat → Addr} {L:Lk} {σ:Store} {nx:Nat} {s:Shared} {h':Heap} {E:Addr} {oe oe' oi oi':Obj} (R:Rel X J ρ L F σ nx s) (ne:E ≠ I) (i:Itr X J I oi) (e:Itr X J E oe) (gi:h'.get? I = some oi') (ge:h'.get? E = some oe') (hk:∀ b ob,b ≠ E → b ≠ I → s.heap.get? b = some ob → h'.get? b = some ob) (t:Nat):Rel X (put (put J I oi') E oe') ρ L F σ nx { s with heap:=h',toks:=t }:=
  R.swap (S:=fun b=>b = E ∨ b = I) (fun b hb=>hb.elim (fun z=>⟨oe,z ▸ e.j,e.g⟩) fun z=>⟨oi,z ▸ i.j,i.g⟩) (fun b hb=>hb.elim (fun z=>z ▸ e.h) fun z=>z ▸ i.h) (fun b hb=>(put_other fun z=>hb (.inl z)).trans (put_other fun z=>hb (.inr z))) (fun b o hb q=>by
    rcases hb with rfl | rfl
    · rw [put_self] at q; cases q; exact ge
    · rw [put_other (Ne.symm ne),put_self] at q; cases q; exact gi) (fun b ob hb q=>hk b ob (fun z=>hb (.inl z)) (fun z=>hb (.inr z)) q) t
/-- the law's own loop -/
theorem for_enum {elts:List PySem.Expr} {x1:Nat} {tp:Pos} {body:List Stmt} {l:List AV} (hNL:∀ a ∈ l,NL a) (G:Nat → Frame → W → Prop)
    (step:∀ j F w v,G j F w → l[j]? = some v → Turn X d fd (.Tuple elts x1 tp) body (.tup [.si (j:Int),v]) F w (Next X (G (j + 1))))
    (p:At X d F w.σ w.nx) {ad:Addr} (hv:p.VR (.sl l) (.ref ad)) (h:G 0 F w) {n':Nat} (hn:w.nx ≤ n') :
    wpAny p.M p.A (call (.type "enumerate") [.ref ad]) (fun x s₁=>wpAny p.M p.A (pyIter x) (fun it s₂=>codeAny p.M p.A (.forLoop (.Tuple elts x1 tp) it body [] (p.env fd)) (loopQ p fd fun φ F' σ' nx'=>φ = .next∧F' = []∧σ' = []∧nx' = n') s₂) no s₁) no p.s:=by
  obtain ⟨_,vs,ep,e0,hJl,hvs⟩:=(onO_of hv.vw.l rfl:∃ ad' vs ep,Value.ref ad = .ref ad'∧p.J ad' = some ⟨.type "list",none,.seq vs ep,#[]⟩∧VRs p.J w.nx p.ρ l vs.toList)
  obtain rfl:=Value.ref.inj e0
  refine call_enumerate_list ⟨_,p.R.jx hJl,rfl,_,rfl⟩ fun h₁ he hit hz hk=>wpAny_pyIter_enum (i:=0) (old:=.none) he ?_
  obtain ⟨oi,goi,hoi⟩:=hit
  have nI:p.s.heap.get? p.s.heap.objs.size = none:=fresh_none _
  have nE:p.s.heap.get? (p.s.heap.objs.size + 1) = none:=by
    cases q:p.s.heap.get? (p.s.heap.objs.size + 1) with
    | none=>rfl
    | some o=>exact absurd (Heap.lt_size q) (Nat.not_lt.mpr (Nat.le_succ _))
  generalize p.s.heap.objs.size = I at nI nE he goi ⊢
  have JnI:=p.R.Jn nI
  have JnE:=p.R.Jn nE
  have EI:I + 1 ≠ I:=Nat.succ_ne_self I
  have Jn1:put p.J I oi (I + 1) = none:=(put_other EI).trans JnE
  have R2:Rel X (put (put p.J I oi) (I + 1) (enumO I 0 .none)) p.ρ p.L F w.σ w.nx { p.s with heap:=h₁,toks:=p.s.toks }:=
    p.R.holdN (p.R.holdN (p.R.grown (h':=h₁) hk p.s.toks) (fun b o _=>hk b o) nI JnI goi) (fun b o _=>hk b o) nE Jn1 he
  have JE:=(put_self:put (put p.J I oi) (I + 1) (enumO I 0 .none) (I + 1) = _)
  have JI:put (put p.J I oi) (I + 1) (enumO I 0 .none) I = some oi:=(put_other (Ne.symm EI)).trans put_self
  have h0I:=p.R.h0_fresh JnI
  have h0E:=p.R.h0_fresh JnE
  have gr:=((put_grow JnI).trans (put_grow Jn1):Grow p.J w.nx p.ρ (put (put p.J I oi) (I + 1) (enumO I 0 .none)) w.nx p.ρ)
  refine codeAny_forLoop_any (EnI p I ad l G) (fun m s S=>gl fun P kk=>?_) (l.length + 1)
    ⟨0,F,w,_,p.ρ,.none,oi,rfl,Nat.zero_le _,h,(Kp.put (Kp.put (fun _ _ q=>q) JnI) JnE),R2,JE,⟨JI,iterO_good hoi,h0I⟩,hoi,vs,ep,gr.j _ _ hJl ⟨_,_,rfl⟩,hvs.mono gr⟩
  obtain ⟨j,F1,w1,J1,ρ1,old,oi1,rfl,hj,hG,hp,R,hJE,iI,hO,vs1,ep1,hJ1,hvs1⟩:=S
  have gE:IsEnum s.heap (I + 1) I (j:Int) old:=R.jx hJE enumO_good.c
  have gI:=R.jx iI.j iI.g.c
  have L1:s.heap.IsList ad vs1:=⟨_,R.jx hJ1,rfl,_,rfl⟩
  have aI:ad ≠ I:=fun z=>by
    rw [z,iI.j] at hJ1
    exact iI.g.i ⟨vs1,ep1,congrArg Obj.data (Option.some.inj hJ1)⟩
  have aE:ad ≠ I + 1:=fun z=>by
    rw [z,hJE] at hJ1
    exact enumO_good.i ⟨vs1,ep1,congrArg Obj.data (Option.some.inj hJ1)⟩
  cases ej:l[j]? with
  | none=>exact kk (wpAny_pyNext_enum_end p.hh.1 gE ⟨_,gI,hO⟩ L1 (by rw [← Array.getElem?_toList]; exact List.getElem?_eq_none (hvs1.length ▸ List.getElem?_eq_none_iff.mp ej)) fun h' hx=>wpAny_of_eq rfl
      ⟨.next,[],del J1 I,p.ρ,[],n',⟨hp.del JnI,hn,fun _ _=>rfl⟩,(iI.drop (h':=h') R (fun b ob hb q=>hx b ob hb q) s.toks).bare,trivial,rfl,rfl,rfl,rfl⟩)
  | some av=>
    have hjl:j < l.length:=(List.getElem?_eq_some_iff.mp ej).1
    obtain ⟨v,hv1,hv2⟩:=hvs1.get ej
    refine kk (wpAny_pyNext_enum_item gE ⟨_,gI,hO⟩ L1 (by rw [← Array.getElem?_toList]; exact hv1) EI fun h' hEo hIt hT hsz' hk'=>wpAny_letOwnedTupleGo_enum (i:=(j:Int) + 1) (item:=v) hEo fun h'' hEn hsE=>?_)
    have nT:s.heap.get? s.heap.objs.size = none:=fresh_none _
    generalize s.heap.objs.size = T at nT hEo hT ⊢
    have tE:T ≠ I + 1:=fun z=>by rw [z,gE] at nT; cases nT
    have tI:T ≠ I:=fun z=>by rw [z,gI] at nT; cases nT
    obtain ⟨oi2,goi2,hoi2⟩:=hIt
    have keep:∀ b ob,b ≠ I + 1 → b ≠ I → s.heap.get? b = some ob → h''.get? b = some ob:=fun b ob h1 h2 q=>(hsE.2 b h1).trans (hk' b ob h1 h2 q)
    have iE:Itr X J1 (I + 1) (enumO I (j:Int) old):=⟨hJE,enumO_good,h0E⟩
    have R3:=swap2 (oe':=enumO I ((j:Int) + 1) v) R EI iI iE ((hsE.2 _ (Ne.symm EI)).trans goi2) hEn keep (s.toks + 1)
    have gr:Grow J1 w1.nx ρ1 (put (put J1 I oi2) (I + 1) (enumO I ((j:Int) + 1) v)) w1.nx ρ1:=iI.grow.trans (⟨(put_other EI).trans hJE,enumO_good,h0E⟩:Itr X (put J1 I oi2) (I + 1) _).grow
    have hE':put (put J1 I oi2) (I + 1) (enumO I ((j:Int) + 1) v) (I + 1) = _:=put_self
    have hI':put (put J1 I oi2) (I + 1) (enumO I ((j:Int) + 1) v) I = some oi2:=(put_other (Ne.symm EI)).trans put_self
    have hl':put (put J1 I oi2) (I + 1) (enumO I ((j:Int) + 1) v) ad = some ⟨.type "list",none,.seq vs1 ep1,#[]⟩:=(put_other aE).trans ((put_other aI).trans hJ1)
    have hp':Kp p.J (put (put J1 I oi2) (I + 1) (enumO I ((j:Int) + 1) v)):=(hp.put JnI).put JnE
    have JnT:put (put J1 I oi2) (I + 1) (enumO I ((j:Int) + 1) v) T = none:=(put_other tE).trans ((put_other tI).trans (R.Jn nT))
    generalize put (put J1 I oi2) (I + 1) (enumO I ((j:Int) + 1) v) = J' at R3 gr hE' hI' hl' hp' JnT
    have R4:=R.holdN R3 (fun b o q=>keep b o (fun z=>by rw [z,hJE] at q; cases q) fun z=>by rw [z,iI.j] at q; cases q) nT JnT ((hsE.2 _ tE).trans hT)
    have E5:=(put_ext JnT:Ext J' w1.nx ρ1 (put J' T { cls:=.type "tuple",data:=.seq #[.int (j:Int) s.toks,v] }) w1.nx ρ1)
    refine turn_ok ⟨p.A,_,ρ1,p.L,p.f,_,p.hh,p.hd,p.hu,R4⟩ (step j F1 w1 av hG ej) (.tup (vs:=#[.int (j:Int) s.toks,v]) (ep:=0) put_self (.cons .si (.cons ((hv2.mono gr).mono E5.grow) .nil))) fun J4 ρ4 F4 σ4 n4 s4 E4 R6 hN=>?_
    obtain ⟨ρ5,F5,w5,R7,hG5⟩:=hN R6
    have up:Kp J' J4:=fun a o q=>E4.j _ _ (E5.j _ _ q)
    exact ⟨l.length + 1 - (j + 1),by omega,j + 1,F5,w5,J4,ρ5,v,oi2,rfl,hjl,hG5,fun a o q=>up a o (hp' a o q),R7,up _ _ hE',⟨up _ _ hI',iterO_good hoi2,h0I⟩,hoi2,vs1,ep1,up _ _ hl',VRs.mono (J:=J1) (nx:=w5.nx) (ρ:=ρ5) ⟨fun a o q i=>up a o (gr.j a o q i),Nat.le_refl _,fun _ _=>rfl⟩ (nl_list hNL hvs1)⟩
end
end Mine
namespace Mine
section
variable {X:Cx} {K:Frag} {d:Nat} {F:Frame} {σ:Store} {nx:Nat} {J:Frozen} {ρ:Nat → Addr} {L:Lk} {s:Shared}
/-- what waits as a frame,up to its slots -/
theorem Rel.slots (R:Rel X J ρ L F σ nx s) {h' B:Heap} (hB:B.StaysIn h') (hb:∀ b o,s.heap.get? b = some o → b ∉ L.a :: L.up → B.get? b = some o) (hu:s.heap.UpToSlots h') (t:Nat):Rel X J ρ L F σ nx { s with heap:=h',toks:=t }:=by
  have up:∀ b o,J b = some o → b ∈ L.up → Marked o∧X.h₀.get? b = none:=fun b o q m=>by
    obtain ⟨o',e,w⟩:=R.up b m
    rw [q] at e; cases e; exact w
  have nL:∀ b o,J b = some o → b ≠ L.a:=fun b o q z=>by rw [z,R.Lj] at q; cases q
  have nl:∀ b,J b = none → b ≠ L.a → b ∉ L.a :: L.up:=fun b q z m=>by
    rcases List.mem_cons.mp m with w | w
    · exact z w
    · obtain ⟨o,e,_⟩:=R.up b w
      rw [q] at e; cases e
  refine R.same (s':={ s with heap:=h',toks:=t }) .refl (fun b o hJ hL e=>hB _ _ (hb b o e (nl b hJ hL))) (fun b o q=>?_) R.hj R.gens R.os (fun b e=>.inl e) R.Lj (.inl rfl) ?_ R.up
  · by_cases m:b ∈ L.up
    · obtain ⟨⟨c,es,n,hd⟩,h0⟩:=up b o q m
      obtain ⟨o',e,hd'⟩:=(R.jh b o q).some
      obtain ⟨sl,g⟩:=hu b o' e fun vs z=>by rw [hd',hd] at z; cases z
      exact .inr ⟨⟨c,es,n,hd⟩,h0,_,g,hd'⟩
    · exact (R.jh b o q).of fun ob e=>hB _ _ (hb b ob e fun w=>by
        rcases List.mem_cons.mp w with w | w
        · exact nL b o q w
        · exact m w)
  · obtain ⟨m,h1,h2⟩:=R.fr
    exact ⟨m,hu.ns h1,h2⟩
theorem Rel.frames (R:Rel X J ρ L F σ nx s) {A:Around} (hh:HH A L):∃ l,A.frames = some l∧s.heap.FunFrames (hideAll s.heap (L.a :: L.up)) l:=by
  obtain ⟨_,l,h2,h3⟩:=hh
  refine ⟨l,h2,?_⟩
  clear h2
  induction l with
  | nil=>trivial
  | cons env l ih=>
    obtain ⟨k,a,ha,f⟩:=h3 env (.head _)
    refine ⟨k,?_,ih fun e he=>h3 e (.tail _ he)⟩
    have:∃ o,s.heap.get? a = some o∧∃ es n,o.data = .dict es n:=by
      rcases List.mem_cons.mp ha with rfl | w
      · obtain ⟨m,⟨o,es,ep,e,hd,_⟩,_⟩:=R.fr
        exact ⟨o,e,es,ep,hd⟩
      · obtain ⟨o,q,⟨_,es,n,hd⟩,_⟩:=R.up a w
        obtain ⟨o',e,hd'⟩:=(R.jh a o q).some
        exact ⟨o',e,es,n,hd'.trans hd⟩
    obtain ⟨o,e,es,n,hd⟩:=this
    exact ⟨a,o,f,hideAll_none _ ha,e,fun vs z=>by rw [hd] at z; cases z⟩
theorem glob_name {fd:FuncData} {nm:List (Nat × Bool)} (ok:X.Ok K) (hn:NmOk fd nm) {x:Str} {v:Value} (p:At X d F σ nx) {Q:Value → Shared → Prop} {E:Value → Shared → Prop} {s:Shared} {pos:Pos} {A:Around} (kp:∀ b o,X.h₀.get? b = some o → s.heap.get? b = some o)
    (e:gt nm (cd x) = some false) (e2:nsIn K mainGlobals x = some (some v)) (h:Q v s):wpAny p.M A (eval (.Name x pos) (p.env fd)) Q E s:=by
  obtain ⟨_,hdb,hnn⟩:=hn.ok _ _ e
  obtain ⟨mg,hg⟩:=ok.glb
  have hg':=hg.keeps kp
  have KX:K.In s.heap:=fun a o q=>kp a o (ok.K a o q)
  refine Name_function_global (env:=p.env fd) hn.kind (hn.glb _ e) (loadGlobal_global (mg:=mg) ?_ (mg_of KX hg' e2) h) hdb
  show s.heap.Ns fd.globals mg
  rw [hn.gl]; exact hg'
noncomputable abbrev excBm:List Value:=[.type "Exception",.type "BaseException",.type "object"]
/-- the object of an own class of exceptions -/
inductive ExcO (h:Heap) (C:Addr):Prop
  | mk (tl N nm q bs hdct sn sub ab col dd k0 k1 k2 k3 k5 mN) (g:h.get? C = some (excClassObj nm q C N bs tl hdct sn sub ab col dd k0 k1 k2 k3 k5 "Exception.__new__")) (n:h.Ns N mN) (i:mN "__init__" = none) (t:OwnTail h excBm tl)
theorem exc_own (ok:X.Ok K) {y:Str} {C:Addr} (e2:nsIn K mainGlobals y = some (some (.ref C))) (hC:excIn K C excBm "Exception.__new__" = true) {h:Heap} (kp:∀ b o,X.h₀.get? b = some o → h.get? b = some o):ExcO h C:=by
  obtain ⟨p,loose,mg,mb,T⟩:=ok.top
  obtain ⟨tl,N,nm,q,bs,hdct,sn,sub,ab,col,dd,k0,k1,k2,k3,k5,mN,h1,h2,h3,h4⟩:=(own_of_in ok.K T e2 hC).obj
  exact ⟨tl,N,nm,q,bs,hdct,sn,sub,ab,col,dd,k0,k1,k2,k3,k5,mN,kp _ _ h1,h2.keeps kp,h3,h4.keeps kp⟩
/-- raise of an own class -/
theorem raise_st {fd:FuncData} {nm:List (Nat × Bool)} (ok:X.Ok K) (hn:NmOk fd nm) {y:Str} {C:Addr} {np cp rp:Pos} (hy:gt nm (cd y) = some false) (e2:nsIn K mainGlobals y = some (some (.ref C))) (hC:excIn K C excBm "Exception.__new__" = true)
    (p:At X d F σ nx) {Q:Flow → Shared → Prop} {E:Value → Shared → Prop} (h:∀ h' e,Heap.MadeExcOf p.s.heap h' e (.ref C) [] → E (.ref e) { p.s with heap:=h' }) :
    wpAny p.M p.A (exec (.Raise (some (.Call (.Name y np) [] [] cp)) none rp) (p.env fd)) Q E p.s:=by
  refine gl fun G kk=>?_
  obtain ⟨tl,N,nm,q,bs,hdct,sn,sub,ab,col,dd,k0,k1,k2,k3,k5,mN,h1,h2,h3,h4⟩:=exc_own ok e2 hC p.R.keep
  exact kk (wpAny_Raise_call_subT (C:=C) (nm:=nm) (q:=q) (N:=N) (bs:=bs) (bm:=tl) (hdct:=hdct) (sn:=sn) (sub:=sub) (ab:=ab) (col:=col) (dd:=dd) (k0:=k0) (k1:=k1) (k2:=k2) (k3:=k3) (k5:=k5)
    PySem.F.excBase_Exception (mN:=mN) (h4.hasType PySem.F.excBase_Exception.hasBase) p.hh.1 rfl h3 (glob_name ok hn p p.R.keep hy e2 ⟨rfl,evalArgs_empty ⟨rfl,Nat.zero_le _,h1,h2,h4,h⟩⟩))
end
end Mine
namespace Mine
section
variable {X:Cx} {K:Frag} {T:Tab} {d n:Nat} {F F1:Frame} {σ σ1:Store} {nx n1:Nat}
/-- a callee's exception on its way; what lands keeps the store -/
noncomputable def Flew (p:At X d F σ nx) (C:Addr) (ev:Value) (s':Shared):Prop:=
  ∃ e t B l,ev = .ref e∧p.A.frames = some l∧Heap.FlyingW B l e (.ref C) (.ref t) s'.heap∧X.h₀.StaysIn B∧∀ h' tk,B.StaysIn h' → s'.heap.UpToSlots h' → ∃ J' ρ',Ext p.J nx p.ρ J' nx ρ'∧Rel X J' ρ' p.L F σ nx { s' with heap:=h',toks:=tk }
noncomputable abbrev ClX (X:Cx) (d:Nat) (f:Addr) (as:List AV) (σ:Store) (nx:Nat) (C:Addr):Prop:=∀ (F:Frame) (p:At X d F σ nx) vs,p.VRs as vs → codeAny p.M p.A (.call (.ref f) ⟨vs,[]⟩) (fun r s'=>match r with | .error e=>Flew p C e s' | _=>False) p.s
/-- a def whose first test holds,and that raises then -/
theorem fn_raises {f:Addr} {nm:List (Nat × Bool)} {pos dflt:List AV} {b:List (Str × AV)} {t:PySem.Expr} {y:Str} {C:Addr} {np cp rp ip:Pos} {o rest:List Stmt} (ok:X.Ok K) (fi:FnIs K f nm)
    (hbody:stmtsOf (fdAt K f).body = some (.If t [.Raise (some (.Call (.Name y np) [] [] cp)) none rp] o ip :: rest))
    (hd:dfltIn K (fdAt K f).defaults = some dflt) (hb:bindG (namesOf (fdAt K f).params) pos [] dflt = some b)
    (ht:Tr X d (fdAt K f) (frameOf b) (fun env=>isTrue t env (eval t env)) σ nx fun c σ' n'=>c = true∧σ' = σ∧n' = nx)
    (hy:gt nm (cd y) = some false) (e2:nsIn K mainGlobals y = some (some (.ref C))) (hC:excIn K C excBm "Exception.__new__" = true):ClX X (d + 1) f pos σ nx C:=fun F p vs hp=>by
  refine enter_def ok fi hbody hd hb p hp .nil fun p' oL hL hA hJ hρ hup=>?_
  refine wpAny_execs_cons (wpAny_If (wpAny_mono (ht p') (fun c s1 ⟨J1,ρ1,σ1,n1,E1,R1,hc,hσ,hn⟩=>?_) fun _ _ z=>z.elim))
  subst hc hσ hn
  simp only [if_true]
  refine wpAny_execs_cons (raise_st ok fi.nm hy e2 hC (p'.to R1) fun h' e hx=>?_)
  obtain ⟨l,hl,hF⟩:=R1.frames p'.hh
  obtain ⟨_,l0,hl0,_⟩:=p.hh
  have hfr:p'.A.frames = some (p'.env (fdAt K f) :: l0):=by rw [hA]; exact Around.frames_deeper hl0
  rw [hfr] at hl
  cases hl
  refine wpAny_leaves_madeW (base:=hideAll s1.heap (p'.L.a :: p'.L.up)) (h:=s1.heap) hfr rfl (fun b o q=>of_hideAll _ q) hF hx fun h2 t x1 x2 x3 x4=>?_
  refine ⟨e,t,_,l0,rfl,hl0,x1,fun b o q=>hideAll_get _ (R1.keep _ _ q) fun m=>?_,fun h3 tk k1 k2=>?_⟩
  · rcases List.mem_cons.mp m with w | w
    · have:=R1.L_h0; rw [← w,q] at this; cases this
    · obtain ⟨_,_,_,z⟩:=R1.up b w
      rw [q] at z; cases z
  · have R2:=R1.slots (B:=hideAll s1.heap (p'.L.a :: p'.L.up)) k1 (fun b o q m=>hideAll_get _ q m) ((Heap.UpToSlots.of_keeps hx.keeps).trans (x4.trans k2)) tk
    rw [hJ,hρ] at E1
    obtain ⟨e1,e2,_⟩:=p.R.leave hL E1 R2
    exact ⟨_,_,e1,e2⟩
theorem cwX {f:Addr} {first:List Value} {pos:Pos} {fd:FuncData} {Q:Value → Shared → Prop} {E:Value → Shared → Prop} (ok:X.Ok K) (hkeep:keepIn K (.ref f) = true) (p:At X d F σ nx) (hc':wpAny p.M p.A (call (.ref f) first) Q E p.s) :
    wpAny p.M p.A (callWith pos (.ref f) first (backTo pos (starEach [] (p.env fd))) (backToKw pos (keywordEach [] (p.env fd)))) Q E p.s:=by
  unfold callWith
  refine wpAny_bind (wpAny_holding (evalArgs_empty (wpAny_bind (wpAny_standAt ?_))))
  obtain ⟨kp,hk',L⟩:=keeps_K (M:=p.M) hkeep p.s.heap (p.R.KX ok)
  refine wpAny_bind (L.here ?_)
  have hc:wpAny p.M p.A (call (.ref f) (first ++ []) []) Q E p.s:=by rw [List.append_nil]; exact hc'
  have tail:∀ {t:Sem Value},wpAny p.M p.A t Q E p.s → wpAny p.M p.A (t >>= fun r=>holding [r] point >>= fun _=>pure r) Q E p.s:=
    fun ht=>wpAny_bind (wpAny_mono ht (fun r s₂ hr=>wpAny_bind (wpAny_holding (wpAny_point (wpAny_pure hr)))) fun _ _ x=>x)
  have marked (mk:Value):wpAny p.M p.A (callMarked mk (.ref f) (first ++ []) []) Q E p.s:=by unfold callMarked; exact Calls.wpAny_keep hc
  rcases hk' with rfl | rfl | rfl <;> first | exact tail hc | exact tail (marked _) | exact tail (wpAny_operate' hc)
/-- try: a call that raises an own class; except: break -/
theorem try_st (ok:X.Ok T.K) (to:TabOk T) (ro:RunOk X T n) {fi:Fi} (nm:NmOk fi.fd fi.nm) {tg o:PySem.Expr} {x y:Str} {apos cpos ap np bp hp tp:Pos} {m CI f C:Nat} {as:List (Nat × AV)} {ci:ClsI} {oh:List Hint}
    (hm:mOk o [] [] apos cpos = true) (hsw:(swOf fi.fd [tg] (.Call (.Attribute o x apos) [] [] cpos)).map Subtype.val = some none)
    (hev:(run X T n).ev fi F o ⟨oh,σ,nx⟩ fun a w=>a = .loc m∧w.σ = σ∧w.nx = nx)
    (hg:gt σ m = some (.inst CI as)) (hci:gt T.cls CI = some ci) (er:gt ci.at_ (cd x) = some (.fn f)) (ea:gt as (cd x) = none) (hx:ClX X n f [.loc m] σ nx C)
    (hy:gt fi.nm (cd y) = some false) (e2:nsIn T.K mainGlobals y = some (some (.ref C))) (hC:excIn T.K C excBm "Exception.__new__" = true)
    (p:At X (n + 1) F σ nx) (hfr:∃ l,p.A.frames = some (p.env fi.fd :: l)) :
    wpAny p.M p.A (exec (.Try [.Assign [tg] (.Call (.Attribute o x apos) [] [] cpos) ap] [.ExceptHandler (some (.Name y np)) none [.Break bp] hp] [] [] tp) (p.env fi.fd)) (p.AnsS fun φ F2 σ2 n2=>φ = .brk∧F2 = F∧σ2 = σ∧n2 = nx) no p.s:=by
  have hsw':swappedStores [tg] (.Call (.Attribute o x apos) [] [] cpos) (p.env fi.fd) = pure none:=by
    obtain ⟨q,_,e⟩:=Option.map_eq_some_iff.mp hsw
    exact e ▸ q.2 _ _
  refine wpAny_Try_except (wpAny_execs_cons (wpAny_Assign_stores (wpAny_mono (Q:=fun _ _=>False) ?_ (fun _ _ z=>z.elim) fun _ _ z=>z) (notComp_swaps rfl) hsw'))
  refine mcall hm (wpAny_mono (ro.ev fi nm F _ _ _ hev p.less) (fun v s1 ⟨a,J1,ρ1,σ1,n1,E1,R1,x1,o1,q1,q2,q3⟩ pl=>gl fun G kk=>?_) fun _ _ z=>z.elim)
  dsimp only at q2 q3
  subst q1 q2 q3
  obtain rfl:=loc_vr rfl x1
  refine kk (wpAny_mono (own_method ok (to.cls _ _ hci) hg er ea (p.to R1) (Q:=fun fx s=>fx = (.ref f,[.ref (ρ1 m)])∧s = s1) ⟨rfl,rfl⟩) (fun fx s2 ⟨q1,q2⟩=>?_) fun _ _ z=>z.elim)
  subst q1 q2
  refine cwX ok (to.cfn _ _ _ _ hci er) (p.to R1) (wpAny_call (codeAny_mono (hx F (p.to R1).less [_] (.cons x1 .nil)) fun r s' z=>gl fun G kk=>?_))
  cases r with
  | ok v=>exact z.elim
  | error ev=>
    obtain ⟨e,t,B,l,rfl,hl,hfl,hB0,land⟩:=z
    obtain ⟨l',hfr⟩:=hfr
    have hl:p.A.frames = some l:=hl
    rw [hfr] at hl
    cases hl
    refine kk (wpAny_looks_onW hfr rfl hfl fun h4 hheld4 hsm4=>wpAny_landsW hheld4 fun h5 hheld5 hsm5=>gl fun G kk=>?_)
    have kp5:∀ b o,X.h₀.get? b = some o → h5.get? b = some o:=fun b o q=>hheld5.1 _ _ (hB0 _ _ q)
    obtain ⟨ob,hob,hobc⟩:=hheld5.there
    obtain ⟨tl,N,nm',q,bs,hdct,sn,sub,ab,col,dd,k0,k1,k2,k3,k5,mN,g1,g2,g3,g4⟩:=exc_own ok e2 hC kp5
    exact kk (wpAny_handleBy_cons (codeAny_handlers_test (glob_name ok nm p kp5 hy e2 (wpAny_excMatches_sub_self g1 hob hobc (g4.hasType PySem.F.excBase_Exception.hasBase) (codeAny_handlers_suite (lands_againW hheld5 fun h6 hfl6 hsm6=>
      let ⟨J',ρ',E',R'⟩:=land h6 s'.toks hfl6.1 (hsm4.trans (hsm5.trans hsm6))
      wpAny_execs_cons (wpAny_Break ⟨.brk,F,J',ρ',_,_,E1.trans E',R',trivial,rfl,rfl,rfl,rfl⟩)))))) (by intro q; cases q))
/-- while: the first turn breaks -/
theorem while_brk {fd:FuncData} {t:PySem.Expr} {body:List Stmt} {pos:Pos} (p:At X d F σ nx) (hfr:∃ l,p.A.frames = some (p.env fd :: l))
    (ht:Tr X d fd F (fun env=>isTrue t env (eval t env)) σ nx fun c σ1 n1=>c = true∧σ1 = σ∧n1 = nx)
    (hb:∀ p:At X d F σ nx,(∃ l,p.A.frames = some (p.env fd :: l)) → wpAny p.M p.A (execs body (p.env fd)) (p.AnsS fun φ F2 σ2 n2=>φ = .brk∧F2 = F∧σ2 = σ∧n2 = nx) no p.s) :
    wpAny p.M p.A (exec (.While t body [] pos) (p.env fd)) (p.AnsS fun φ F2 σ2 n2=>φ = .next∧F2 = F∧σ2 = σ∧n2 = nx) no p.s:=
  while_rule (B:=fun σ1 n1=>σ1 = σ∧n1 = nx) p ht fun J ρ σ1 n1 s1 R ⟨e1,e2⟩=>by
    subst e1 e2
    exact wpAny_mono (hb (p.to R) hfr) (fun fl s3 ⟨φ,F3,J3,ρ3,σ3,n3,E3,R3,x3,h1,h2⟩=>⟨φ,F3,J3,ρ3,σ3,n3,E3,R3,x3,h1,rfl,h2⟩) fun _ _ z=>z
end
end Mine
namespace Mine
section
variable {X:Cx} {T:Tab} {d n:Nat} {F F':Frame} {σ:Store} {nx:Nat} {fi:Fi} {r:Rec} {J:Frozen} {ρ:Nat → Addr} {L:Lk} {s:Shared}
/-- for .. in enumerate(e) -/
theorem enum_for (ok:X.Ok T.K) (bo:BiOk T) (nm:NmOk fi.fd fi.nm) (hr:EvOk X d fi.fd F (r.ev fi F)) {x:Str} {px pc ps:Pos} {e t:PySem.Expr} {body:List Stmt} {kk:KE} {o:List Hint}
    (he:gt fi.nm (cd x) = some false) (hb:gt T.glob (cd x) = some (.bi .enum)) (hp:plainE e = true) (h:r.ev fi F e ⟨o,σ,nx⟩ kk) {Q:QS} (p:At X (d + 1) F σ nx)
    (k:∀ a J1 ρ1 σ1 n1 s1 v,Rel X J1 ρ1 p.L F σ1 n1 s1 → Ext p.J nx p.ρ J1 n1 ρ1 → VR J1 n1 ρ1 a v → (∃ o,kk a ⟨o,σ1,n1⟩) →
      wpAny p.M p.A (call (.type "enumerate") [v]) (fun x s₁=>wpAny p.M p.A (pyIter x) (fun it s₂=>codeAny p.M p.A (.forLoop t it body [] (p.env fi.fd)) (loopQ p fi.fd Q) s₂) no s₁) no s1) :
    wpAny p.M p.A (exec (.For t (.Call (.Name x px) [e] [] pc) body [] ps) (p.env fi.fd)) (p.AnsS Q) no p.s:=
  wpAny_For (one_arg (w:=⟨o,σ,nx⟩) ok bo nm hr he hb rfl hp h p fun v a J1 ρ1 σ1 n1 s1 R1 E1 x1 q1=>k a J1 ρ1 σ1 n1 s1 v R1 E1 x1 q1) (fun _=>rfl)
theorem Rel.names (R:Rel X J ρ L F σ nx s) (k:∀ c av,gt F' c = some av → gt F c = some av):Rel X J ρ L F' σ nx s:=
  { jh:=R.jh,up:=R.up,hj:=R.hj,gens:=R.gens,os:=R.os,Lj:=R.Lj,fr:=let ⟨m,h1,h2⟩:=R.fr; ⟨m,h1,fun c av q=>h2 c av (k c av q)⟩,st:=R.st,dj:=R.dj }
theorem Xs.ups {fd:FuncData} {t:Env → Sem Flow} {Q:QS} (h:Xs X d fd F t σ nx Q):∀ m,Xs X (d + m) fd F t σ nx Q
  | 0=>h
  | m + 1=>Xs.less (Xs.ups h m)
end
end Mine
end
section
open PySem PySem.W PySem.Calls PyProof.Rows
set_option maxRecDepth 100000
namespace Mine
noncomputable def tGlob:List (Nat × GV):=[(0x6ddb8bc60,.fn 21),(0x75e7c38f4df8b9d5,.cls 123),(0x13e854851a9e09b2a147,.cls 137),(0x8d56155a9829c6b72a6c2954e354,.cls 151),(0x19f7f089af1d0c9bfd54,.cls 180),(0x1b716fe7db84b,.cls 292),(0x6dc5bf9f6e12fd73e1bb34e,.cls 404),(0x6fcddf548,.cls 479),(0xdbb7b47,.cls 493),(0x7aebc7746,.cls 506),(0x66ed9bb52ebd3147,.cls 540),(0x39e6f7ab6e2d5cf354,.cls 603),(0x11aac2ab530558f0a9e0,.cls 617),(0x46a36aae08b3e14e9d42260,.cls 631),(0xdfc3575e39b2798daf1d0c9bfd54,.cls 652),(0xe79abe8dfc39d8dfc3575e39b2798daf1d0c9bfd54,.cls 672),(0x1af1d0c9bfd54,.cls 1070),(0x6fe7c31e0f18b6e0,.fn 1081),(0x3aead1ab2e0f18b6e0,.fn 1088),(0x66ebc3be0f18b6e0,.fn 1095),(0xe99b573ebbf360f18b6e0,.fn 1102),(0x1e316d,.fn 1109),(0x1bf36d,.bi .len),(0x1e716e,.bi .max),(0x1bf56e,.bi .min),(0x1d77ea,.bi .int),(0x66d1bf173,.bi .range),(0x66eb8b9e6dddb7e6,.bi .enum),(0xebd356d,.bi .list),(0x1d7374,.bi .set),(0x3364df8baf4dfaba6a,.bi .isi),(0x32e6ebcf874,.bi .sorted),(0xeb93565,.bi .dict),(0x66dbc7b75,.bi .tuple)]
noncomputable def tFns:List (Nat × List (Nat × Bool)):=[(21,[(0x6c,true)]),
  (35,[(0xcfb7374,true),(0x1af1d0c9bfd74,true),(0xcd9784fcfb7374,true),(0x3a66cbc27f3cda7af0,true)]),
  (42,[(0xcfb7374,true),(0xcd9786f,true),(0x19b462e9d336e,true)]),
  (49,[(0xcfb7374,true),(0xcd9786f,true)]),
  (56,[(0xcfb7374,true),(0xcd9786f,true),(0x6ddb8bc60,false)]),
  (63,[(0xcfb7374,true),(0xcd9786f,true),(0x6ddb8bc60,false)]),
  (70,[(0xcfb7374,true),(0xcd9786f,true),(0x6ddb8bc60,false)]),
  (77,[(0xcfb7374,true),(0x6ddb8bc60,false)]),
  (84,[(0xcfb7374,true),(0x6ddb8bc60,false)]),
  (92,[(0xcfb7374,true),(0x6ddb8bc60,false)]),
  (99,[(0xcfb7374,true),(0xcd9786f,true)]),
  (106,[(0xcfb7374,true),(0xcd9786f,true)]),
  (113,[(0xcfb7374,true),(0xcd9786f,true),(0x19b462e9d336e,true)]),
  (120,[(0xcfb7374,true),(0x6ddb8bc60,false)]),
  (170,[(0xcfb7374,true),(0x3a68e78bc6c,true)]),
  (177,[(0xcfb7374,true),(0x6a,true),(0x3364df8baf4dfaba6a,false),(0x66dbc7b75,false),(0x1bf36d,false),(0x66d1bf173,false),(0x1d77ea,false)]),
  (198,[(0xcfb7374,true),(0x1977e2ddbb864,true),(0x1e72ea,true),(0xddcf375,true),(0x1cf873e71b2e6ebbf36ecdb78ee95d784f,false)]),
  (205,[(0xcfb7374,true),(0x1cf873e71b2e6ebbf36ecdb78ee95d784f,false)]),
  (212,[(0xcfb7374,true),(0x6ee1ce3fae7d77e6,true),(0x1cf873e71b2e6ebbf36ecdb78ee95d784f,false)]),
  (219,[(0xcfb7374,true),(0x1c2afae7d77e6,true),(0x1cf873e71b2e6ebbf36ecdb78ee95d784f,false)]),
  (226,[(0xcfb7374,true),(0xdd9baea,true),(0x1cf873e71b2e6ebbf36ecdb78ee95d784f,false)]),
  (233,[(0xcfb7374,true),(0x75e9cf567,true),(0xebd316d,true),(0x1cf873e71b2e6ebbf36ecdb78ee95d784f,false)]),
  (240,[(0xcfb7374,true),(0x1cf873e71b2e6ebbf36ecdb78ee95d784f,false)]),
  (247,[(0xcfb7374,true),(0x6ddb8bc60,false)]),
  (254,[(0xcfb7374,true),(0x1e7365df2baeaddbb844eb9f173,true),(0x1cf873e71b2e6ebbf36ecdb78ee95d784f,false)]),
  (261,[(0xcfb7374,true),(0x1cf873e71b2e6ebbf36ecdb78ee95d784f,false)]),
  (268,[(0xcfb7374,true),(0xddcf375,true),(0x32cacd9784fe7c23e5cdd7877,true),(0x1cf873e71b2e6ebbf36ecdb78ee95d784f,false)]),
  (275,[(0xcfb7374,true),(0x1cf873e71b2e6ebbf36ecdb78ee95d784f,false)]),
  (282,[(0xcfb7374,true),(0x1cf873e71b2e6ebbf36ecdb78ee95d784f,false)]),
  (289,[(0xcfb7374,true)]),
  (310,[(0xcfb7374,true)]),
  (317,[(0xcfb7374,true),(0x1977e2ddbb864,true),(0x1e72ea,true),(0xddcf375,true)]),
  (324,[(0xcfb7374,true)]),
  (331,[(0xcfb7374,true),(0x6ee1ce3fae7d77e6,true)]),
  (338,[(0xcfb7374,true),(0x1c2afae7d77e6,true)]),
  (345,[(0xcfb7374,true),(0xdd9baea,true)]),
  (352,[(0xcfb7374,true),(0x75e9cf567,true),(0xebd316d,true)]),
  (359,[(0xcfb7374,true),(0x1bf36d,false)]),
  (366,[(0xcfb7374,true),(0x6ddb8bc60,false)]),
  (373,[(0xcfb7374,true),(0x1e7365df2baeaddbb844eb9f173,true)]),
  (380,[(0xcfb7374,true)]),
  (387,[(0xcfb7374,true),(0xddcf375,true),(0x32cacd9784fe7c23e5cdd7877,true)]),
  (394,[(0xcfb7374,true)]),
  (401,[(0xcfb7374,true)]),
  (420,[(0xcfb7374,true)]),
  (427,[(0xcfb7374,true)]),
  (434,[(0xcfb7374,true),(0x69eb97578,true),(0x1bf36d,false)]),
  (441,[(0xcfb7374,true),(0x22cac9bfb67,true),(0xe9a39e2,true),(0x3a68e78bc6c,true),(0x1bf36d,false)]),
  (448,[(0xcfb7374,true),(0xd993163dbb7164,true),(0x1d3373,true),(0x1cf9e6,true)]),
  (455,[(0xcfb7374,true),(0xebd356d,false)]),
  (462,[(0xcfb7374,true),(0xc5d7165,true),(0xebd356d,false)]),
  (469,[(0xcfb7374,true),(0xc5d7165,true),(0x1bf36d,false),(0x74cdd7d63,false)]),
  (476,[(0xcfb7374,true),(0xc5d7165,true),(0x1d77ea,false)]),
  (523,[(0xcfb7374,true),(0x19bdeaa9e716e,true)]),
  (530,[(0xcfb7374,true),(0x66edb7177,true),(0x1bf36d,false),(0xdbb7b47,false)]),
  (537,[(0xcfb7374,true),(0x1bf36d,false),(0x7aebc7746,false)]),
  (558,[(0xcfb7374,true),(0x6fcddf568,true),(0x66f7aaa69c9d7143dfc3574e9ab774df8b9f5,true)]),
  (565,[(0xcfb7374,true),(0x3375c5d6a66f7ab6e2d5cf374,true),(0x8d56155a9829c6b72a6c2954e354,false)]),
  (572,[(0xcfb7374,true),(0xc5d7165,true),(0x32ea,true)]),
  (579,[(0xcfb7374,true)]),
  (586,[(0xcfb7374,true),(0x22cadfc3574e9ab774df8b9f5,true),(0xdfc3574e9ab774df8b9f5,true),(0xc5d7165,true),(0x1d7a73d51fa6a,true),(0x197375ebab774df8b9f5,true),(0xcdef574,true),(0x3af4c537a6a,true),(0x39f0e7ce36fe1abaf3cdd3a42,false),(0x1bf36d,false)]),
  (593,[(0xcfb7374,true),(0xc5d7165,true),(0x1d7a73d51fa6a,true),(0x3af4c537a6a,true)]),
  (600,[(0xcfb7374,true),(0x32ea,true)]),
  (649,[(0xcfb7374,true),(0x66cbc2273e1cf9e6,true),(0x6fe1abaf1cd93cc6,false)]),
  (669,[(0xcfb7374,true),(0x1cf377,true),(0xdfc3575e39b2798daf1d0c9bfd54,false)]),
  (688,[(0xcfb7374,true),(0xcd9784fcfb7374,true),(0x3a66cbc27f3cda7af0,true),(0xcfbf864,true),(0x75e7c38f4df8b9f5,true),(0x1b716fe7db86b,true),(0x6fcddf568,true),(0x66cbc27f3cda7af0,true),(0x1d7374,false),(0x11aac2ab530558f0a9e0,false),(0x1bf36d,false),(0x46a36aae08b3e14e9d42260,false),(0x1e716e,false),(0x39e6f7ab6e2d5cf354,false),(0x66ed9bb52ebd3147,false)]),
  (695,[(0xcfb7374,true),(0x6ddb8bc60,false)]),
  (703,[(0xcfb7374,true),(0x37f0d5d39e6afe336f,true),(0xd993163dbb7164,true),(0x6ddb8bc60,false)]),
  (711,[(0xcfb7374,true),(0xcd9786f,true),(0xd993163dbb7164,true),(0x6ddb8bc60,false)]),
  (719,[(0xcfb7374,true),(0xcd9786f,true),(0xd993163dbb7164,true),(0x6ddb8bc60,false)]),
  (727,[(0xcfb7374,true),(0xcd9786f,true),(0xd993163dbb7164,true),(0x6ddb8bc60,false)]),
  (735,[(0xcfb7374,true),(0x1977e2ddbb864,true),(0xd993163dbb7164,true),(0x19b8faab977e2ddbb864,true),(0xdbb7b47,false),(0x13e854851a9e09b2a147,false)]),
  (742,[(0xcfb7374,true),(0x66ddaaaf5e78baf4,true),(0x1977e2ddbb864,true),(0xd993163dbb7164,true),(0x19b2f09fd7a66edcb373,true),(0x4595d7a66edcb373,true),(0x1e72ea,true),(0xddcf375,true),(0xebd3376e59a9f3cdd7a76db13368df8b4e4,true),(0x19b462e9d336e,true),(0x7aebc7746,false),(0x3364df8baf4dfaba6a,false),(0x66dbc7b75,false),(0x11aac2ab530558f0a9e0,false),(0x13e854851a9e09b2a147,false)]),
  (750,[(0xcfb7374,true),(0x3aeac563855cdbb575,true)]),
  (758,[(0xcfb7374,true),(0x3aeac563855cdbb575,true),(0xcdbb555d9cf878,true),(0xcd9786f,true),(0x79cb2baeaddbb864,true),(0x79cb2baeaddbb844ebe736f,true),(0x75dfdb864,true),(0x1d336ae7d77e6,true),(0x3773cd57aeaddbb864,true),(0xcdbf56dcb8b365,true),(0x74cdab9f5df1b2efcdc78c2cbbf354cb9b36f,true),(0x11aac2ab530558f0a9e0,false),(0x32e6ebcf874,false),(0x1bf36d,false)]),
  (765,[(0xcfb7374,true),(0x74cdab9f5df1b2efcdc78c2cbbf354cb9b36f,true),(0x75dfdb864,true),(0x1d336ae7d77e6,true),(0x7ae7d77e6,true),(0x4595bb9e6abd77e6e7cfb64,true),(0x1d39e6c7ab9e4e98fb74,true),(0x1d3373,true),(0x11656ee79aae6c7ab9e4e98fb74,true),(0xd993163dbb7164,true),(0x13e854851a9e09b2a147,false),(0xe79abe8dfc39d8dfc3575e39b2798daf1d0c9bfd54,false)]),
  (772,[(0xcfb7374,true),(0xcd9786f,true),(0x6ddb8bc60,false)]),
  (779,[(0xcfb7374,true)]),
  (787,[(0xcfb7374,true)]),
  (795,[(0xcfb7374,true),(0x6ddb8bc60,false)]),
  (803,[(0xcfb7374,true)]),
  (811,[(0xcfb7374,true)]),
  (819,[(0xcfb7374,true)]),
  (827,[(0xcfb7374,true),(0x6ddb8bc60,false)]),
  (835,[(0xcfb7374,true),(0x6ddb8bc60,false)]),
  (842,[(0xcfb7374,true),(0x6ddb8bc60,false)]),
  (849,[(0xcfb7374,true),(0x1977e2ddbb864,true),(0x19b8faab977e2ddbb864,true),(0x1cf377,true),(0x39e6af976f0,true),(0xebd3376e59a9e6d1bf16989cf375e9db6e4,true),(0xe9a39e2,true),(0x3a68e78bc6c,true),(0x22cac9bfb67,true),(0x74d1ce17899e336f,true),(0x46a36aae08b3e14e9d42260,false),(0xe79abe8dfc39d8dfc3575e39b2798daf1d0c9bfd54,false),(0x3364df8baf4dfaba6a,false),(0x66dbc7b75,false),(0x1bf36d,false)]),
  (856,[(0xcfb7374,true),(0xcd9786f,true),(0x19b462e9d336e,true),(0x1bb9e6aba384debd316d,true),(0x3ce595a384debd316d,true),(0x3a66d5cfaef8de336f,true),(0x32e6f7ab6e2d5cf374,true),(0x79cd977caebab76ee1139e6cb8b36d,true),(0x3ce595a384def9b9f1,true),(0x1bb9e6aba384def9b9f1,true),(0x1d336ae7d77c6ef9b9f1,true),(0x7ae7d77e6,true),(0xebd3376e59a9e6d1bf16989cf375e9db6e4,true),(0x1e72cacd9784febe736f,true),(0x4595d7a66edcb373,true),(0x73e1cf9e6,true),(0xd993163dbb7164,true),(0x1e72ea,true),(0xddcf375,true),(0x75cdd3373,true),(0x1d3a66c993b74,true),(0x3ce5959b2f09fd77e6e7cfb64,true),(0x11aac2ab530558f0a9e0,false),(0x1bf36d,false),(0xcb9ba73cddf373,false),(0x1bf56e,false),(0x13e854851a9e09b2a147,false)]),
  (863,[(0xcfb7374,true),(0x1cf9e6,true),(0xd993163dbb7164,true),(0x19b2f09fd7a66edcb373,true),(0x4595d7a66edcb373,true),(0x3364df8baf4dfaba6a,false),(0x66dbc7b75,false)]),
  (871,[(0xcfb7374,true),(0xcd9786f,true),(0x75cdd3373,true),(0x1e72cacd9784febe736f,true),(0x1d3a66c993b74,true)]),
  (878,[(0xcfb7374,true),(0x3af6e19b76aabbf56e,true),(0x3af6e19b76aabe716e,true)]),
  (885,[(0xcfb7374,true),(0xcd9786f,true),(0x6ddb8bc60,false)]),
  (892,[(0xcfb7374,true),(0xcd9786f,true),(0x6ddb8bc60,false)]),
  (899,[(0xcfb7374,true),(0xcd9786f,true)]),
  (906,[(0xcfb7374,true),(0xcd9786f,true),(0x6ddb8bc60,false)]),
  (913,[(0xcfb7374,true)]),
  (920,[(0xcfb7374,true)]),
  (927,[(0xcfb7374,true),(0x79cd977cacd9784febe736f,true),(0x79cd977caef9b9f1,true),(0x1d336ae7d77e6,true)]),
  (935,[(0xcfb7374,true),(0x1e62caddc39e7,true),(0x75dfdb864,true),(0xe99bafa879bdeaa9e716e,true),(0x798b2bd73ebbe375e9cf567,true),(0xcf9f565,true),(0x3aededd3373,true),(0x66f7aaa6dc5d7875,true),(0x6a,true),(0x7ae7d77e6,true),(0x66eb8b9e6dddb7e6,false),(0x1bf36d,false)]),
  (942,[(0xcfb7374,true),(0x11aac2ab530558f0a9e0,false)]),
  (949,[(0xcfb7374,true)]),
  (956,[(0xcfb7374,true),(0x6ddb8bc60,false)]),
  (963,[(0xcfb7374,true),(0x6ddb8bc60,false)]),
  (970,[(0xcfb7374,true),(0x6ddb8bc60,false)]),
  (977,[(0xcfb7374,true),(0x1e62caddc39e7,true),(0x798b2bd73ebbe375e9cf567,true),(0xcf9f565,true)]),
  (984,[(0xcfb7374,true),(0x798b2b875,true),(0x798b2bd73ebbe375e9cf567,true),(0xcf9f565,true)]),
  (991,[(0xcfb7374,true),(0xcd9786f,true),(0x1e72ea,true),(0xddcf375,true),(0x11aac2ab530558f0a9e0,false),(0x32e6ebcf874,false),(0x46a36aae08b3e14e9d42260,false)]),
  (998,[(0xcfb7374,true),(0xddcf375,true),(0x32cacd9784fe7c23e5cdd7877,true)]),
  (1005,[(0xcfb7374,true),(0xcdd7175a9e336f,true),(0xcdd7175a9976f0,true)]),
  (1012,[(0xcfb7374,true),(0x32ea,true),(0x32e6ebcf874,false),(0x13e854851a9e09b2a147,false)]),
  (1019,[(0xcfb7374,true),(0x66ddaaaf5e78baf4,true),(0x3a66ebea1e6f7aaa69c9d7163,true),(0xcd9786f,true),(0x336dd1bf554cbbf374,true),(0x65cdef56dc5ab9e6a9a37eacbbf374,true),(0x79cd977cacd9784febe736f,true),(0x3ce595a384def9b9f1,true),(0x1bb9e6aba384def9b9f1,true),(0x1d336ae7d77e6,true),(0x19b462e9d336e,true),(0xc5d7145dfc3574e9ab774df8b9f5,true),(0x3af4c537a6a,true),(0x62ebb7365,true),(0x32e6ebcf874,false),(0x1bf36d,false),(0xdfc3575e39b2798daf1d0c9bfd54,false)]),
  (1026,[(0xcfb7374,true),(0x1bf36d,false)]),
  (1033,[(0xcfb7374,true),(0x1d7a66edcb373,true)]),
  (1041,[(0xcfb7374,true),(0x1d7a66edcb373,true),(0x19ba73cddf373,true),(0x19b8faabd7a66edcb373,true),(0x65959b2f09fd7a66edcb373,true),(0x19b2f09fd7a66edcb373,true),(0x346fd5972e2,true),(0x19b2f09fe336f,true),(0x19b2f09f976f0,true),(0x1bf36d,false)]),
  (1048,[(0xcfb7374,true),(0x1977e2ddbb864,true),(0x19b8faab977e2ddbb864,true),(0x46a36aae08b3e14e9d42260,false)]),
  (1055,[(0xcfb7374,true),(0xcdbb555e7cfb64,true),(0x3375c5d6a66f7ab6e2d5cf374,true),(0x116566f7ab6e2d5cf374,true),(0x3a66d5cfaef8d9736adbc78c2ebd316d,true),(0xc5d7165,true),(0x1cf375e9db6e4,true),(0x8d56155a9829c6b72a6c2954e354,false),(0x1bf36d,false),(0x32e6ebcf874,false)]),
  (1067,[(0xcfb7374,true),(0xe99b2f09fe336f,true),(0x66efc3766a7c2af4cd9786f,true),(0x32e585c2af4cd9786f,true),(0xcd9786f,true),(0x1d7374,false),(0x32e6ebcf874,false)]),
  (1081,[(0x74cdbb16f,true),(0x1b716fe7db86b,true),(0x1e386f,true),(0x6fcddf568,true),(0x75e7c38f4df8b9f5,true),(0xcd9786f,true),(0xcdbb16f,true),(0x6fcddf548,false),(0x75e7c38f4df8b9d5,false),(0x1af1d0c9bfd54,false),(0x19f7f089af1d0c9bfd54,false)]),
  (1088,[(0x1e7863,true),(0xf5bf16e,true),(0x75d5a3565,true)]),
  (1095,[(0x1bfc70,true),(0x1e7863,true),(0x1c34f8,true),(0xddcf375,true),(0x66c98b6f1,true),(0xebd316d,true),(0x65cdb3a62,true),(0x19b462e9d336e,true),(0x1e716e,false),(0x3aead1ab2e0f18b6e0,false),(0x1bf36d,false)]),
  (1102,[(0x1bfc70,true),(0x1e7863,true),(0x1c34f8,true),(0x75dfdb864,true),(0xddcf375,true),(0x1a386d,true),(0x66c98b6f1,true),(0x65c59b4e2,true),(0x1d336ae7d77e6,true),(0xcbb7875,true),(0x6c,true),(0x3aeaddbb864,true),(0x19b462e9d336e,true),(0x39e6f1d37e2,true),(0x1e716e,false),(0x3aead1ab2e0f18b6e0,false),(0x1bf36d,false),(0x1d77ea,false),(0x66d1bf173,false),(0x1bf56e,false),(0xebd356d,false)]),
  (1109,[(0x3af1d5cf274,true),(0xcb8b369,true),(0x74cdbb16f,true),(0x1b716fe7db86b,true),(0x6fcddf568,true),(0x75e7c38f4df8b9f5,true),(0xcd9786f,true),(0x1bfc70,true),(0x75dfdb864,true),(0x39e6c7bbb6f,true),(0x1e7863,true),(0x19bb65,true),(0xcbbf56c,true),(0x1c34f8,true),(0x19b462e9d336e,true),(0x1977e2ddbb864,true),(0x66c98b6f1,true),(0xddcf375,true),(0x6dc5bf9f6e12fd73e1bb34e,false),(0x6fe7c31e0f18b6e0,false),(0x66eb8b9e6dddb7e6,false),(0xebd356d,false),(0x1bf36d,false),(0x66ebc3be0f18b6e0,false),(0xe99b573ebbf360f18b6e0,false),(0x1bf56e,false),(0x3aead1ab2e0f18b6e0,false),(0x1e716e,false)])]
noncomputable def tCls:List (Nat × ClsI):=[(123,⟨[(0x183070df9b7eadbd7a73d59f060,.val (.int 5)),(0xc183aeadfab060,.fn 35),(0x32e6efab364cd4f368c5d3a669dbf860,.fn 42),(0xcb9bae4cdbf7f0899b2f09fbf860,.fn 49),(0x197375c99b7efe193a6a8b9b2f09fbf860,.fn 56),(0xcb9bae4cdbf7f0899b2f09feb6efe197166a7bf860,.fn 63),(0x197375c99b7efe193a6a8b9b2f09feb6efe197166a7bf860,.fn 70),(0x1eb2e2cd4fae691eb9f5,.fn 77),(0x7acb8b373,.prop 84),(0x7acb8b353ebab178,.fn 92),(0x19b2f09f972e2,.fn 99),(0xcd9784fe3c39e5,.fn 106),(0xcbbf374,.fn 113),(0x1eb873ebd3365,.fn 120),(0xd78e864dfeba60,.no),(0xebbf374,.no)],(some 35)⟩),
  (137,⟨[(0x183070df9b7eadbd7a73d59f060,.val (.int 51)),(0x152a468912b54,.val (.int 0)),(0x26cdad1f046ad1ab52,.val (.int 1)),(0x29c68b0a34dc1227caa95254e,.val (.int 2)),(0x458d169c28952545,.val (.int 3)),(0x29c68b0a34dc15684f,.val (.int 4)),(0x22c6913e14989829c68b0a34d,.val (.int 5)),(0x22c6953e345c156a46ad4a353,.val (.int 6)),(0x11a7508956b50c13ec509f327d6,.val (.int 7))],none⟩),
  (151,⟨[(0x183070df9b7eadbd7a73d59f060,.val (.int 60)),(0x1227cab72a6c2954e354c15684f,.val (.int 0)),(0x1227cab72a6c2954e354,.val (.int 1)),(0x152a468912b54,.val (.int 2)),(0x22c69b2a147,.val (.int 3))],none⟩),
  (180,⟨[(0x183070df9b7eadbd7a73d59f060,.val (.int 65)),(0xc183aeadfab060,.fn 170),(0xcdd7165d5b7177,.fn 177),(0xcbcf878e9d3171,.no),(0xd993555e1d7b62,.no),(0x32f0d5cf351d993555e1d7b62,.no),(0x66f7aaa66ed9bb52e9977e2ddbb864,.no),(0x3af6e19b76aabbf54eeb9f173,.no),(0x3af6e19b76aabe714eeb9f173,.no),(0x19786ae79a8f4cdab9f5df1b2efcdc78e2,.no),(0x75edc336ed5577f0d5d7266dfbf864,.no),(0x19b76aabeb9f5cd4f7f0d5d7266dfbf864,.no),(0x75edc336ed557664c58f6edc51f9e6cb8b36d,.no),(0x69c9d7143cdd2b74cdab9f5df1b2efcdc78e2,.no),(0x1d3375f50f37bd5534e4eb8a1f4cdab9f5df1b2efcdc78e2,.no),(0x1d3a66e7972c2cbbf563,.no),(0x66e3eaaf3cb96165cdcf9e6cf9b9f1,.no),(0x337bd5539e6cf9fb43cbbf374,.no),(0x337bd5539e6cf9fb43ef93373,.no),(0xcdbb555cda726289d37e5,.no),(0xcdbb555cda726289b75628fd37e5,.no),(0x1d336ae7d77c6dfaa76fe1abae4c5c777089a386d,.no),(0xcdbb555dfaa76fe1abae4c5c777089a386d,.no),(0x3aeadbc6a6fe1abae4c5c777089a386d,.no),(0x337bd5534e4eb8a1efe1abae4c5c777089a386d,.no),(0x39e6cb8b34debab158e9977e2ddbb864,.no),(0xcdb7547e3bbb45dbb7b67,.no),(0x19b6ea8fb716fe7db86b,.no),(0x66ddaaafae7d7353cbbf563,.no),(0x3a66d5cfae6a7977ea87e716e,.no),(0x1eb2e2cd4f7f0,.no),(0x32e6d1bf169899bae2eb537f0,.no),(0x19b46fc5a6271d5a7a73cd8f7669d9356ec5bfd65,.no),(0x3371f5579e6dbb7871,.no),(0x1b39f08f9ba76,.no),(0x39e6f7ab6e2d5cf374,.no),(0xe79b664cda6266f7ab6e2d5cf374,.no),(0xe79bdeadb8b573cdd3365,.no),(0xcb9b46fc5a626fe1aba73cd5f365e1137f0,.no),(0x66efab6e2e39b36cc1c7275,.no)],(some 170)⟩),
  (292,⟨[(0x183070df9b7eadbd7a73d59f060,.val (.int 137)),(0x1972e2,.fn 198),(0x73c59b6e4,.fn 205),(0x6ee1ce3f4cdab9f5df1b375cdb7365,.fn 212),(0x1c2af4cdab9f5df1b375cdb7365,.fn 219),(0x18306ecdd7575cda3060,.fn 226),(0x80,.fn 226),(0xebcf171,.fn 233),(0x18306fcdb7060,.fn 240),(0x100,.fn 240),(0xf5c39f5e99b2e0,.fn 247),(0x3ce6cbbe575d5bb77089d73e2a7d7374,.fn 254),(0x3ce6cbbe575d5bb77089d73e2a7d7368,.fn 261),(0x3773cd57aefcdcf9f689d7374,.fn 268),(0x3773cd57aefcdcf9f689d7368,.fn 275),(0x65959b2f09fcf847cb9baf0afd7368,.fn 282),(0xe79b76aab977f0c99aa66df437f0,.fn 289)],none⟩),
  (404,⟨[(0x183070df9b7eadbd7a73d59f060,.val (.int 180)),(0xc183aeadfab060,.fn 310),(0x1972e2,.fn 317),(0x73c59b6e4,.fn 324),(0x6ee1ce3f4cdab9f5df1b375cdb7365,.fn 331),(0x1c2af4cdab9f5df1b375cdb7365,.fn 338),(0x18306ecdd7575cda3060,.fn 345),(0x80,.fn 345),(0xebcf171,.fn 352),(0x18306fcdb7060,.fn 359),(0x100,.fn 359),(0xf5c39f5e99b2e0,.fn 366),(0x3ce6cbbe575d5bb77089d73e2a7d7374,.fn 373),(0x3ce6cbbe575d5bb77089d73e2a7d7368,.fn 380),(0x3773cd57aefcdcf9f689d7374,.fn 387),(0x3773cd57aefcdcf9f689d7368,.fn 394),(0x65959b2f09fcf847cb9baf0afd7368,.fn 401),(0xe79b76aab977f0c99aa66df437f0,.fn 289),(0x1b716fe7db86bc1836e2dfcfb7097eb9f0dd9a760,.no),(0x66f7aaa74cdd7d63c1836e2dfcfb7097eb9f0dd9a760,.no),(0x1e7365df2baeaddbb844ebd316dc1836e2dfcfb7097eb9f0dd9a760,.no),(0x1bb9e6abd77e6e7cfb64c1836e2dfcfb7097eb9f0dd9a760,.no),(0x32cacd9784fe7c23e5cdd7877c1836e2dfcfb7097eb9f0dd9a760,.no)],(some 310)⟩),
  (479,⟨[(0x183070df9b7eadbd7a73d59f060,.val (.int 231)),(0xc183aeadfab060,.fn 420),(0x6cc9c36e4,.fn 427),(0xf18b9e5,.fn 434),(0x7adbc78e2,.fn 441),(0xdbb7375,.fn 448),(0xe3bbb65,.fn 455),(0xcb8b86d,.fn 462),(0x74e3bbb65,.fn 469),(0x74cb8b86d,.fn 476),(0x1e386f,.no),(0x6ff18b9e5,.no),(0x19736adbc78e2,.no),(0xcbb7875,.no),(0x32e6e3bbb65,.no),(0x34f5d1bf36d,.no),(0x1bf86ae9cf357cd97864,.no)],(some 420)⟩),
  (540,⟨[(0x183070df9b7eadbd7a73d59f060,.val (.int 274)),(0xc183aeadfab060,.fn 523),(0x3aeac5e386fc1d7b71,.fn 530),(0x3aeac5e386fc1d7368,.fn 537),(0x66ed9bb72c183376cdda975e98a3e0,.no),(0x19bdeaa9e716ec183376cdda975e98a3e0,.no)],(some 523)⟩),
  (603,⟨[(0x183070df9b7eadbd7a73d59f060,.val (.int 290)),(0xc183aeadfab060,.fn 558),(0xd1bf57bd5b716ae79aa6cc99b4e4,.fn 565),(0x66f7ab6e2d5cf374,.fn 572),(0x19bdeadb8b573cdd3365,.fn 579),(0x18bae28bbf86ae9d356ee9bf173abd7368,.fn 586),(0x18bae28bbf86ae9d356ee9bf173abd7374,.fn 593),(0x1bf86aebd3a6addd37e2e7576e6c9bf164,.fn 600),(0x37e6efab460c1cf37bd5b716ae79aa60,.no),(0x337bd5534e4eb8a1efe1aba74d5bba6fc5cfae0c1cf37bd5b716ae79aa60,.no),(0xcbab8e0c1cf37bd5b716ae79aa60,.no),(0x22caebbf373e7db260c1cf37bd5b716ae79aa60,.no),(0x3a6fe1aba74d5bba6fc5cfae0c1cf37bd5b716ae79aa60,.no),(0x66dbaa3efe1aba74d5bba6fc5ceae8dfab770c9bf560c1cf37bd5b716ae79aa60,.no),(0x18bae28b9737bd5b716ae79aa7ae7c37669dbf560c1cf37bd5b716ae79aa60,.no)],(some 558)⟩),
  (617,⟨[(0x183070df9b7eadbd7a73d59f060,.val (.int 359)),(0xa71ac509b36847,.val (.int 0)),(0x46ab0a2ca8b3e144,.val (.int 1)),(0x29c68b0a34d,.val (.int 2))],none⟩),
  (631,⟨[(0x183070df9b7eadbd7a73d59f060,.val (.int 363)),(0x14e14dad22353,.val (.int 0)),(0x51a18284f,.val (.int 1)),(0x28ca93529c6873a34e,.val (.int 2)),(0x13e84aa94e357,.val (.int 3))],none⟩),
  (1070,⟨[(0x183070df9b7eadbd7a73d59f060,.val (.int 378)),(0xc183aeadfab060,.fn 688),(0x37f0d5d39e6af9b2f089d7368,.fn 695),(0x37f0d5d39e6af9b2f089d7374,.fn 703),(0xe79baf4edb6270ab9b2f09f972e2,.fn 711),(0x73cdd7a76db13770e71f365e13f377e1bb373,.fn 719),(0x38ead3d39e6cb8b34de79b3f4df8b9f5,.fn 727),(0x65df8b76ee113d6de3c7160,.fn 735),(0x7adbc78c2e157a65df8b76ee113664cda7260,.fn 742),(0x3664d557865,.fn 750),(0x1b326aabbf860,.fn 758),(0x74cdab9f5df1b4709beb6f1e38b060d78e864dfeaa60,.fn 765),(0x197375c99b7efe113365e13fa6a,.fn 772),(0xcd9784fcfb7374,.prop 779),(0x3a66cbc27f3cda7af0,.prop 787),(0x74cd9784ff5b77f0cb8b373,.prop 795),(0x19736adbc78c2ebd314deb9f173,.prop 803),(0x1e7365df2baeaddbb844eb9f173,.prop 811),(0x1bb9e6abd77e6e7cfb44eb9f173,.prop 819),(0x6eedcf876a5d3169,.prop 827),(0x74edd7175a9d7368,.fn 835),(0x37f0d5d7262e3bb844d1c26e6c9cf867,.fn 842),(0xcbbf16eddc227adbc78c2e197060d78e864dfeaa60,.fn 849),(0x197377d59b266a79b462e9d334edfc3060d78e864dfeaa60,.fn 856),(0x6cc98b1eddb8a273e71b6edc593060d78e864dfeaa60,.fn 863),(0x79cb2b365e13faf9cd3f2efcdd3060d78e864dfeaa60,.fn 871),(0x75edc336ed557ae7c54f375c5cf36fcda3060d78e864dfeaa60,.fn 878),(0x65cdd7266dfbf844cd9784ff5b77f0cb8b353dfc3060d78e864dfeaa60,.fn 885),(0xcb9bae4cdbf7f0c9d3545cd9784ff5b77f0cb8b353dfc3060d78e864dfeaa60,.fn 892),(0x65cdd7266dfbf844cd9784fdfc3060d78e864dfeaa60,.fn 899),(0xcb9bae4cdbf7f0c9d3545cd9784fdfc3060d78e864dfeaa60,.fn 906),(0xf39b2ef95a384debbf373e7da275cda3060d78e864dfeaa60,.fn 913),(0x1bb9e6aba384debbf373e7da275cda3060d78e864dfeaa60,.fn 920),(0x6ee79aaf9cd977cad1c26f7cdce8f5cda3060d78e864dfeaa60,.fn 927),(0xe99b573ebbe375cda3060d78e864dfeaa60,.fn 935),(0x73cd971669bd3560,.fn 942),(0x39e6cb8b34deb9b460,.fn 949),(0x1eb2e2cd4fa6a,.fn 956),(0xddcf355eb9b460,.fn 963),(0x19bdeaa9a384deb9f153eb9b460,.fn 970),(0x1bb8738fd336ae7d77c6cdd736dcd97060d78e864dfeaa60,.fn 977),(0x70abd336ae7d77c6cdd736dcd97060d78e864dfeaa60,.fn 984),(0xe79b2e2cd3736ee193343dfc3060d78e864dfeaa60,.fn 991),(0xddcf355ebbf373e7da275cdd3060d78e864dfeaa60,.fn 998),(0x3375c5d6a75cdd3060d78e864dfeaa60,.fn 1005),(0x65cda37e2d3139e6cb8b34ddfc3060d78e864dfeaa60,.fn 1012),(0x1d336ae7d77c6cbbf371e30b2efcdd3060d78e864dfeaa60,.fn 1019),(0x19b7f0f5be170ab97375c99b7efe193060d78e864dfeaa60,.fn 1026),(0x1cf375e9db6c4cda37e2d393060d78e864dfeaa60,.fn 1033),(0x73cdd7a76db13368df8b4c4e197060d78e864dfeaa60,.fn 1041),(0x1d7a66edcb353e79baf4edb6266d1bf169899ba73c5c7060d78e864dfeaa60,.fn 1048),(0x37f0d5d7262e3bb844d1c26fae7d7060d78e864dfeaa60,.fn 1055),(0x336dd51f8eeed172e2e1b7060d78e864dfeaa60,.fn 1060),(0xdfc3575c5cfb68d59f7f089cf375e9db6c4cdd7165e3db060d78e864dfeaa60,.fn 1067),(0x33efe193060d78e864dfeaa60,.no),(0x1bf377d5a3060d78e864dfeaa60,.no),(0x3365e13f3edcdd3060d78e864dfeaa60,.no),(0xe99b2f09fcf369ebc3060d78e864dfeaa60,.no),(0x1d3365e13fd6ddfc32e2cdcf060d78e864dfeaa60,.no),(0xe99b2f09f97375c99b7efe193060d78e864dfeaa60,.no),(0x19bae2eb53ae7c5cf060d78e864dfeaa60,.no),(0x6ee79aaf5df9b9f3ed13ae7c5cf060d78e864dfeaa60,.no),(0xcb2b365e13f9f08f97375e1df060d78e864dfeaa60,.no),(0xebbfb7089d3375e1df060d78e864dfeaa60,.no),(0xe79b2e2cd37ae7c5cf060d78e864dfeaa60,.no),(0x336fd5b72e2cd177f0d5d7266db1bae7c5cf060d78e864dfeaa60,.no),(0xe9d3373d1c39d1df2b9e6cfd37e2e7d7060d78e864dfeaa60,.no),(0x68e137ae7c5cf060d78e864dfeaa60,.no),(0x79cd977caebab76ee113ae7c5cf060d78e864dfeaa60,.no),(0x65cdab6f1e30baf4c537ae7c5cf060d78e864dfeaa60,.no),(0x1e7365df2baf9cd3fae7c5cf060d78e864dfeaa60,.no),(0x336ed557374dfc38f4cd4faf4c5b7060d78e864dfeaa60,.no),(0xf39b2ef95a7275c53bae7c5cf060d78e864dfeaa60,.no),(0xcdbb555cb9bdeadb8b573cd53af4c5b7060d78e864dfeaa60,.no),(0x7ae7d77c6cb9bdeadb8b573cd53af4c5b7060d78e864dfeaa60,.no),(0xdfc3575c98b8eee1134709b9b273e19f060d78e864dfeaa60,.no),(0x1e7365df2baeaddbb844e79b2e2cdb7060d78e864dfeaa60,.no),(0x19736ddb8a27acb8b353dfc3060d78e864dfeaa60,.no),(0x3cc595cf375e9db6c4cda37e2d393060d78e864dfeaa60,.no),(0x798b2b8f0e1bf060d78e864dfeaa60,.no),(0xd1bf57ae1cfaf4cd97060d78e864dfeaa60,.no),(0x19b76aabd79e2ebd3060d78e864dfeaa60,.no),(0x1d38eeed172efe193354cdbe86eedbf060d78e864dfeaa60,.no),(0xe79bdeadb8b573cdd3060d78e864dfeaa60,.no),(0x1d79f0e3d37e2e7d7060d78e864dfeaa60,.no),(0xd78e864dfeba60,.no),(0x6fe1aba73cd5f365e1133edcdd3060d78e864dfeaa60,.no),(0x19bb66ed4ba65df8b76ee193060d78e864dfeaa60,.no),(0x1b3266d313d6ddfc32e2cd4faf4c5b7060d78e864dfeaa60,.no),(0x336ed557a66d5cfaef8d977e6e3c6178cdbf060d78e864dfeaa60,.no),(0x1d756eddc2268dfabaeac563a65df8b76ee193060d78e864dfeaa60,.no),(0x39e6ebbfb7089b7164e137a65df8b76ee193060d78e864dfeaa60,.no),(0x3d6de39a9e8dfabaeac563a65df8b76ee193060d78e864dfeaa60,.no),(0xdfc3574e79abe6cbc2265cdb71e2df9b060d78e864dfeaa60,.no)],(some 688)⟩)]
noncomputable def tMe:List (Nat × Me):=[(0x32efcdc78e2,.append),(0x1c7871,.pop),(0x73c59b6e4,.clear),(0x1d7368,.get),(0x3aeded8b3e6cbd7374,.setdefault),(0x1972e2,.add),(0x3375c5978f6,.update),(0xf5c7864,.copy),(0x1979e2c9d3565,.discard),(0x79cd977ea,.index),(0x32efcdd7ce6,.extend)]
noncomputable def T (P:Params):Tab:=⟨K P,tGlob,tFns,tCls,tMe⟩
end Mine
end
section
open PySem PySem.W PySem.Calls PyProof.Rows PySem.SeqAt
set_option maxRecDepth 100000
set_option linter.unusedVariables false
namespace Mine
/-- a name from its number -/
noncomputable def digS:Nat → Nat → List Nat
  | 0,_=>[]
  | n + 1,c=>match Nat.beq c 0 with
    | true=>[]
    | false=>(c % 128 - 1) :: digS n (c / 128)
noncomputable def decS (c:Nat):Str:=⟨⟨digS 80 c⟩⟩
noncomputable def decC (c:Nat):Option Str:=match Nat.beq (cd (decS c)) c with
  | true=>some (decS c)
  | false=>none
/-! the tables checked -/
theorem gt_mem {α:Type}:∀ {l:List (Nat × α)} {c:Nat} {v:α},gt l c = some v → (c,v) ∈ l
  | p :: r,c,v,h=>by
    simp only [gt,beq_dec] at h
    by_cases q:p.1 = c
    · simp only [q,decide_true] at h
      cases h; rw [← q]; exact .head _
    · simp only [q,decide_false] at h
      exact .tail _ (gt_mem h)
theorem decC_cd {c:Nat} {y:Str} (h:decC c = some y):cd y = c:=by
  unfold decC at h
  split at h
  · rename_i e; cases h; exact Nat.eq_of_beq_eq_true e
  · cases h
theorem nm_of {x y:Str} (h:decC (cd x) = some y) (hx:cd x ≠ 0):x = y:=(cd_inj (decC_cd h) ((decC_cd h).symm ▸ hx)).symm
theorem cd_mod {x:Str} (h:cd x ≠ 0):cd x % 128 ≠ 0:=by
  obtain ⟨h1,h2⟩:=cd_ok h
  rw [h2]
  cases e:x.cps.toList with
  | nil=>rw [h2,e] at h; exact absurd rfl h
  | cons c r=>
    rw [e] at h1
    simp only [okL,Bool.and_eq_true,Nat.ble_eq] at h1
    simp only [cdL]
    omega
noncomputable def lkC:List (Str × NameKind) → Nat → Option (Str × NameKind)
  | [],_=>none
  | p :: r,c=>match Nat.beq (cd p.1) c with
    | true=>some p
    | false=>lkC r c
theorem lkC_cd:∀ {l:List (Str × NameKind)} {c:Nat} {p:Str × NameKind},lkC l c = some p → cd p.1 = c
  | q :: r,c,p,h=>by
    simp only [lkC] at h
    split at h
    · rename_i e; cases h; exact Nat.eq_of_beq_eq_true e
    · exact lkC_cd h
noncomputable def isLocal:Option NameKind → Bool
  | some .local=>true
  | _=>false
noncomputable def isGlob:Option NameKind → Bool
  | some .globalImplicit=>true
  | _=>false
noncomputable def cdDbg:Nat:=cd (Str.ofString "__debug__")
noncomputable def cdName:Nat:=cd (Str.ofString "__name__")
noncomputable def nmChk (fd:FuncData) (nm:List (Nat × Bool)):Bool:=(match fd.scope.kind with | .function=>true | _=>false) && Nat.beq fd.globals mainGlobals && Nat.beq fd.builtins builtinsNs && nm.all fun p=>
  match lkC fd.scope.names p.1 with
  | some (y,_)=>!(Nat.beq p.1 0) && !(Nat.beq p.1 cdDbg) && !(Nat.beq p.1 cdName) && (match p.2 with | true=>isLocal (fd.scope.names.lookup y) | false=>isGlob (fd.scope.names.lookup y))
  | none=>false
theorem nmChk_ok {fd:FuncData} {nm:List (Nat × Bool)} (h:nmChk fd nm = true):NmOk fd nm:=by
  simp only [nmChk,Bool.and_eq_true] at h
  obtain ⟨⟨⟨h1,h2⟩,h3⟩,h4⟩:=h
  have key:∀ x b,gt nm (cd x) = some b → cd x ≠ 0∧cd x ≠ cdDbg∧cd x ≠ cdName∧(match b with | true=>isLocal (fd.scope.names.lookup x) | false=>isGlob (fd.scope.names.lookup x)) = true:=fun x b e=>by
    have:=List.all_eq_true.mp h4 _ (gt_mem e)
    dsimp only at this
    split at this
    · rename_i y k hl
      simp only [Bool.and_eq_true,Bool.not_eq_true'] at this
      obtain ⟨⟨⟨q1,q2⟩,q3⟩,q4⟩:=this
      have n1:cd x ≠ 0:=fun z=>by rw [z] at q1; cases q1
      have n2:cd x ≠ cdDbg:=fun z=>by rw [z,Nat.beq_refl] at q2; cases q2
      have n3:cd x ≠ cdName:=fun z=>by rw [z,Nat.beq_refl] at q3; cases q3
      have ey:=lkC_cd hl
      obtain rfl:y = x:=cd_inj ey (ey ▸ n1)
      exact ⟨n1,n2,n3,q4⟩
    · cases this
  refine ⟨?_,Nat.eq_of_beq_eq_true h2,Nat.eq_of_beq_eq_true h3,fun x e=>?_,fun x e=>?_,fun x b e=>?_⟩
  · cases q:fd.scope.kind <;> rw [q] at h1 <;> first | rfl | cases h1
  · have:=(key x true e).2.2.2
    dsimp only at this
    cases q:fd.scope.names.lookup x with
    | none=>rw [q] at this; cases this
    | some k=>rw [q] at this; cases k <;> first | rfl | cases this
  · have:=(key x false e).2.2.2
    dsimp only at this
    cases q:fd.scope.names.lookup x with
    | none=>rw [q] at this; cases this
    | some k=>rw [q] at this; cases k <;> first | rfl | cases this
  · obtain ⟨n1,n2,n3,_⟩:=key x b e
    refine ⟨n1,?_,fun z=>n3 (by rw [z]; rfl)⟩
    cases q:(x == ("__debug__":Str)) with
    | false=>rfl
    | true=>exact absurd (by rw [beq_iff_eq.mp q]; rfl) n2
noncomputable def isFuncAt (K:Frag) (f:Addr):Bool:=match K.lookup f with
  | some ⟨_,_,.func _,_⟩=>true
  | _=>false
noncomputable def fnChk (K:Frag) (f:Addr) (nm:List (Nat × Bool)):Bool:=isFuncAt K f && fnOk K (fdAt K f) && nmChk (fdAt K f) nm && keepIn K (.ref f) && okNs (namesOf (fdAt K f).params) && locOk (fdAt K f).scope (namesOf (fdAt K f).params)
theorem fnChk_ok {K:Frag} {f:Addr} {nm:List (Nat × Bool)} (h:fnChk K f nm = true):FnIs K f nm:=by
  simp only [fnChk,Bool.and_eq_true] at h
  obtain ⟨⟨⟨⟨⟨h1,h2⟩,h3⟩,h4⟩,h5⟩,h6⟩:=h
  refine ⟨?_,h2,nmChk_ok h3,h4,h5,h6⟩
  unfold isFuncAt at h1
  split at h1
  · rename_i oc od fd osl e
    exact ⟨oc,od,osl,by unfold fdAt; rw [e]⟩
  · cases h1
/-- a class -/
noncomputable def sameLit:Option AV → AV → Bool
  | some (.int i),.int j=>decide (i = j)
  | _,_=>false
theorem sameLit_ok {o:Option AV} {a:AV} (h:sameLit o a = true):o = some a:=by
  unfold sameLit at h
  split at h
  · rw [of_decide_eq_true h]
  · cases h
noncomputable def isSN (o:Option (Option Value)):Bool:=match o with
  | some none=>true
  | _=>false
noncomputable def isSV (v:Value) (o:Option (Option Value)):Bool:=match o with
  | some (some u)=>u == v
  | _=>false
noncomputable def isF (o:Option Bool):Bool:=match o with
  | some false=>true
  | _=>false
noncomputable def isT (o:Option Bool):Bool:=match o with
  | some true=>true
  | _=>false
noncomputable def isO (v:Value) (o:Option Value):Bool:=match o with
  | some u=>u == v
  | _=>false
theorem isSN_ok {o:Option (Option Value)} (h:isSN o = true):o = some none:=by unfold isSN at h; split at h <;> first | rfl | cases h
theorem isSV_ok {v:Value} {o:Option (Option Value)} (h:isSV v o = true):o = some (some v):=by
  unfold isSV at h
  split at h
  · rw [beq_iff_eq.mp h]
  · cases h
theorem isF_ok {o:Option Bool} (h:isF o = true):o = some false:=by unfold isF at h; split at h <;> first | rfl | cases h
theorem isT_ok {o:Option Bool} (h:isT o = true):o = some true:=by unfold isT at h; split at h <;> first | rfl | cases h
theorem isO_ok {v:Value} {o:Option Value} (h:isO v o = true):o = some v:=by
  unfold isO at h
  split at h
  · rw [beq_iff_eq.mp h]
  · cases h
noncomputable def caChk (K:Frag) (C:Addr) (y:Str) (r:CA):Bool:=!(Nat.beq (cd y) 0) && !(copiedNames.contains y) && match r with
  | .no=>isSN (findIn K (.ref C) y)
  | .val a=>(match findIn K (.ref C) y with
    | some (some v)=>isSN (specialIn K v "__get__") && isF (takesIn K v) && handedIn v && sameLit (litV v) a
    | _=>false) && (match findCls K (.ref C) (.type "type") y with
    | some (.val v)=>handedIn v && sameLit (litV v) a
    | _=>false)
  | .fn f=>isSV (.ref f) (findIn K (.ref C) y) && isO (.type "function") (typeIn K (.ref f)) && isF (takesIn K (.ref f)) && keepIn K (.ref f)
  | .prop f=>match findIn K (.ref C) y with
    | some (some (.ref p))=>isSV (.builtin "property.__get__") (specialIn K (.ref p) "__get__") && isT (takesIn K (.ref p)) && (match recIn K p "property" with | some (.ref g :: _)=>Nat.beq g f | _=>false)
    | _=>false
noncomputable def clsChk (K:Frag) (C:Addr) (ci:ClsI):Bool:=
  isSV (.builtin "object.__getattribute__") (findIn K (.ref C) "__getattribute__") && isSN (findIn K (.ref C) "__getattr__") && isSV (.builtin "object.__setattr__") (findIn K (.ref C) "__setattr__") && plainOver K C && (clsIn K C).any (·.hasDict) && readsIn K C (.type "type") && makesIn K C &&
  (match gt ci.at_ 128 with | some (.fn f)=>isSV (.ref f) (findIn K (.ref C) "__getitem__") && isO (.type "function") (typeIn K (.ref f)) && fnIn K f | _=>true) &&
  (match gt ci.at_ 256 with | some (.fn f)=>isSV (.ref f) (findIn K (.ref C) "__len__") && isO (.type "function") (typeIn K (.ref f)) | _=>true) &&
  (match ci.init with | some f=>isSV (.ref f) (findIn K (.ref C) "__init__") && isO (.type "function") (typeIn K (.ref f)) | none=>isSV (.builtin "object.__init__") (findIn K (.ref C) "__init__")) &&
  ci.at_.all fun p=>(Nat.beq (p.1 % 128) 0 && !(Nat.beq p.1 0)) || match decC p.1 with | some y=>caChk K C y p.2 | none=>false
theorem clsChk_ok {K:Frag} {C:Addr} {ci:ClsI} (h:clsChk K C ci = true):ClsOk K C ci∧∀ x f,gt ci.at_ (cd x) = some (.fn f) → keepIn K (.ref f) = true:=by
  simp only [clsChk,Bool.and_eq_true] at h
  obtain ⟨⟨⟨⟨⟨⟨⟨⟨⟨⟨h1,h2⟩,h3⟩,h4⟩,h5⟩,h6⟩,h7⟩,h8⟩,h9⟩,h10⟩,h11⟩:=h
  have key:∀ x r,gt ci.at_ (cd x) = some r → cd x ≠ 0∧caChk K C x r = true:=fun x r e=>by
    have:=List.all_eq_true.mp h11 _ (gt_mem e)
    simp only [Bool.or_eq_true,Bool.and_eq_true,Bool.not_eq_true'] at this
    rcases this with ⟨z1,z2⟩ | z
    · have hx:cd x ≠ 0:=fun q=>by rw [q] at z2; cases z2
      exact absurd (Nat.eq_of_beq_eq_true z1) (cd_mod hx)
    · split at z
      · rename_i y hy
        have hy':=decC_cd hy
        have hx:cd x ≠ 0:=by
          simp only [caChk,Bool.and_eq_true,Bool.not_eq_true'] at z
          intro q
          have e0:cd y = 0:=hy'.trans q
          rw [e0] at z
          cases z.1.1
        refine ⟨hx,?_⟩
        rw [nm_of hy hx]; exact z
      · cases z
  have cop:∀ x r,gt ci.at_ (cd x) = some r → copiedNames.contains x = false:=fun x r e=>by
    have:=(key x r e).2
    simp only [caChk,Bool.and_eq_true,Bool.not_eq_true'] at this
    exact this.1.2
  have rest:∀ x r,gt ci.at_ (cd x) = some r → (match r with
      | .no=>isSN (findIn K (.ref C) x)
      | .val a=>(match findIn K (.ref C) x with
        | some (some v)=>isSN (specialIn K v "__get__") && isF (takesIn K v) && handedIn v && sameLit (litV v) a
        | _=>false) && (match findCls K (.ref C) (.type "type") x with
        | some (.val v)=>handedIn v && sameLit (litV v) a
        | _=>false)
      | .fn f=>isSV (.ref f) (findIn K (.ref C) x) && isO (.type "function") (typeIn K (.ref f)) && isF (takesIn K (.ref f)) && keepIn K (.ref f)
      | .prop f=>match findIn K (.ref C) x with
        | some (some (.ref p))=>isSV (.builtin "property.__get__") (specialIn K (.ref p) "__get__") && isT (takesIn K (.ref p)) && (match recIn K p "property" with | some (.ref g :: _)=>Nat.beq g f | _=>false)
        | _=>false) = true:=fun x r e=>by
    have:=(key x r e).2
    simp only [caChk,Bool.and_eq_true] at this
    exact this.2
  refine ⟨{ ga:=isSV_ok h1,gk:=isSN_ok h2,sa:=isSV_ok h3,over:=h4,dict:=h5,ok:=fun x r e=>⟨(key x r e).1,cop x r e⟩,no:=fun x e=>isSN_ok (rest x _ e),val:=fun x a e=>?_,fn:=fun x f e=>?_,prop:=fun x f e=>?_,item:=fun f e=>?_,len:=fun f e=>?_,reads:=h6,cval:=fun x a e=>?_,init:=fun f e=>?_,init0:=fun e=>?_ },fun x f e=>?_⟩
  · have:=rest x _ e
    simp only [Bool.and_eq_true] at this
    obtain ⟨q,_⟩:=this
    split at q
    · rename_i v ev
      simp only [Bool.and_eq_true] at q
      exact ⟨v,ev,isSN_ok q.1.1.1,isF_ok q.1.1.2,q.1.2,sameLit_ok q.2⟩
    · cases q
  · have:=rest x _ e
    simp only [Bool.and_eq_true] at this
    exact ⟨isSV_ok this.1.1.1,isO_ok this.1.1.2,isF_ok this.1.2⟩
  · have:=rest x _ e
    dsimp only at this
    split at this
    · rename_i p ep
      simp only [Bool.and_eq_true] at this
      obtain ⟨⟨q1,q2⟩,q3⟩:=this
      split at q3
      · rename_i g r er
        refine ⟨p,r,ep,isSV_ok q1,isT_ok q2,?_⟩
        rw [er,Nat.eq_of_beq_eq_true q3]
      · cases q3
    · cases this
  · rw [e] at h8
    simp only [Bool.and_eq_true] at h8
    exact ⟨isSV_ok h8.1.1,isO_ok h8.1.2,h8.2⟩
  · rw [e] at h9
    simp only [Bool.and_eq_true] at h9
    exact ⟨isSV_ok h9.1,isO_ok h9.2⟩
  · have:=rest x _ e
    simp only [Bool.and_eq_true] at this
    obtain ⟨_,q⟩:=this
    split at q
    · rename_i v ev
      simp only [Bool.and_eq_true] at q
      exact ⟨v,ev,q.1,sameLit_ok q.2⟩
    · cases q
  · rw [e] at h10
    simp only [Bool.and_eq_true] at h10
    exact ⟨h7,isSV_ok h10.1,isO_ok h10.2⟩
  · rw [e] at h10
    exact ⟨h7,isSV_ok h10⟩
  · have:=rest x _ e
    simp only [Bool.and_eq_true] at this
    exact this.2
noncomputable def gvChk (K:Frag) (y:Str):GV → Bool
  | .fn f=>isSV (.ref f) (nsIn K mainGlobals y) && keepIn K (.ref f)
  | .cls f=>isSV (.ref f) (nsIn K mainGlobals y) && keepIn K (.ref f)
  | .bi b=>isSN (nsIn K mainGlobals y) && isO (biV b) (bootBuiltins y)
  | .val _=>false
noncomputable def tabChk (T:Tab):Bool:=(T.glob.all fun p=>!(Nat.beq p.1 0) && match decC p.1 with | some y=>gvChk T.K y p.2 | none=>false) && (T.me.all fun p=>!(Nat.beq p.1 0) && match decC p.1 with | some y=>y == meNm p.2 | none=>false) &&
  (T.fns.all fun p=>fnChk T.K p.1 p.2) && (T.cls.all fun p=>clsChk T.K p.1 p.2)
theorem tabChk_ok {T:Tab} (h:tabChk T = true):TabOk T∧BiOk T:=by
  simp only [tabChk,Bool.and_eq_true] at h
  obtain ⟨⟨⟨h1,h2⟩,h3⟩,h4⟩:=h
  have g:∀ x v,gt T.glob (cd x) = some v → gvChk T.K x v = true:=fun x v e=>by
    have:=List.all_eq_true.mp h1 _ (gt_mem e)
    simp only [Bool.and_eq_true,Bool.not_eq_true'] at this
    obtain ⟨q1,q2⟩:=this
    have hx:cd x ≠ 0:=fun q=>by rw [q] at q1; cases q1
    split at q2
    · rename_i y hy; rw [nm_of hy hx]; exact q2
    · cases q2
  have c:∀ C ci,gt T.cls C = some ci → ClsOk T.K C ci∧∀ x f,gt ci.at_ (cd x) = some (.fn f) → keepIn T.K (.ref f) = true:=fun C ci e=>by
    have:=List.all_eq_true.mp h4 (C,ci) (gt_mem e)
    exact clsChk_ok (K:=T.K) (C:=C) (ci:=ci) this
  refine ⟨{ gfn:=fun x f e=>?_,gcl:=fun x f e=>?_,gva:=fun x a e=>?_,me:=fun x m e=>?_,fns:=fun f nm e=>fnChk_ok (K:=T.K) (f:=f) (nm:=nm) (List.all_eq_true.mp h3 (f,nm) (gt_mem e)),cls:=fun C ci e=>(c C ci e).1,cfn:=fun C ci x f e e2=>(c C ci e).2 x f e2 },⟨fun x b e=>?_⟩⟩
  · have:=g _ _ e
    simp only [gvChk,Bool.and_eq_true] at this
    exact ⟨isSV_ok this.1,this.2⟩
  · have:=g _ _ e
    simp only [gvChk,Bool.and_eq_true] at this
    exact ⟨isSV_ok this.1,this.2⟩
  · have:=g _ _ e
    cases this
  · have:=List.all_eq_true.mp h2 _ (gt_mem e)
    simp only [Bool.and_eq_true,Bool.not_eq_true'] at this
    obtain ⟨q1,q2⟩:=this
    have hx:cd x ≠ 0:=fun q=>by rw [q] at q1; cases q1
    split at q2
    · rename_i y hy; rw [nm_of hy hx]; exact beq_iff_eq.mp q2
    · cases q2
  · have:=g _ _ e
    simp only [gvChk,Bool.and_eq_true] at this
    exact ⟨isSN_ok this.1,isO_ok this.2⟩
end Mine
end
section
open PySem PySem.W PySem.Calls PyProof.Rows PySem.SeqAt
set_option maxRecDepth 100000
set_option linter.unusedVariables false
set_option maxHeartbeats 0
namespace Mine
theorem tab_q (P:Params):tabChk (T P) = true:=by kernel_rfl
theorem tab_ok (P:Params):TabOk (T P)∧BiOk (T P):=tabChk_ok (tab_q P)
end Mine
end
section
open PySem PySem.W PySem.Calls PyProof.Rows
set_option maxRecDepth 100000
set_option maxHeartbeats 0
namespace Mine
section
variable {X:Cx} {K:Frag} {d:Nat} {F:Frame}
/-- a call from without -/
theorem start {prog:Program} {w:World} {K:Frag} {s:Shared} {A:Around} {d:Nat} {Q:AV → Prop} {f:Addr} {nm:List (Nat × Bool)} {body:List Stmt} {pos dflt:List AV} {posV:List Value} {b:List (Str × AV)}
    (ok:Cx.Ok ⟨prog,w,s.heap,s.os⟩ K) (hg:s.gens = #[]) (hh:A.handled = none∧A.frames = some []) (hd0:A.depth + d + 1 ≤ recursionLimit) (hu0:A.units + 9 * (d + 1) ≤ 9000) (fi:FnIs K f nm) (hbody:stmtsOf (fdAt K f).body = some body)
    (hd:dfltIn K (fdAt K f).defaults = some dflt) (hb:bindG (namesOf (fdAt K f).params) pos [] dflt = some b) (hp:VRs (fun a=>s.heap.get? a) 0 (fun _=>0) pos posV)
    (h:Xs ⟨prog,w,s.heap,s.os⟩ d (fdAt K f) (frameOf b) (fun env=>execs body env) [] 0 fun fl _ _ _=>match fl with | .ret a=>Q a | .next=>Q .none | _=>False) :
    wpAny (model prog w) A (call (.ref f) posV) (fun v s'=>(∃ a J' ρ' nx',Q a∧VR J' nx' ρ' a v)∧(∀ b o,s.heap.get? b = some o → s'.heap.get? b = some o)∧s'.os = s.os∧s'.gens = #[]) (fun _ _=>False) s:=by
  have fo:=fi.ok
  simp only [fnOk,Bool.and_eq_true,List.all_eq_true,Bool.not_eq_true',List.isEmpty_iff] at fo
  obtain ⟨⟨⟨⟨⟨⟨⟨⟨o1,o2⟩,o3⟩,o4⟩,o5⟩,o6⟩,o7⟩,o8⟩,o9⟩:=fo
  have KX:=ok.K
  obtain ⟨oc,od,osl,hf⟩:=fi.at_
  obtain ⟨dv,dA,dR⟩:=dflt_at (J:=fun a=>s.heap.get? a) (nx:=0) (ρ:=fun _=>0) KX hd
  obtain ⟨bV,hbV,hbR⟩:=bindG_rel hp .nil dR hb
  have hn:okNs (b.map (·.1)) = true:=okNs_sub (bindG_sub hb) fi.loc.1
  have hl:locOk (fdAt K f).scope (b.map (·.1)) = true:=List.all_eq_true.mpr fun x hx=>List.all_eq_true.mp fi.loc.2 x ((bindG_sub hb).subset hx)
  refine wpAny_call ?_
  refine codeAny_call_def (by omega) (KX _ _ hf) rfl ok.lim (codeRec_of KX o2) (stmtsOf_eq hbody) (binds_simple o1 dA hbV) (fun x hx=>?_) (fun x hx=>?_) (fun h₁ hns hk₁=>?_) o4 o5 fi.nm.kind
  · have:=o6 x hx
    intro z
    rw [z] at this
    cases this
  · have hm:x.1 ∈ b.map (·.1):=by rw [hbR.keys]; exact List.mem_map_of_mem hx
    have:=List.all_eq_true.mp hl x.1 hm
    revert this
    cases e:(fdAt K f).scope.names.lookup x.1 with
    | none=>intro z; cases z
    | some k=>cases k <;> intro z <;> first | rfl | cases z
  · have R₁:Rel ⟨prog,w,s.heap,s.os⟩ (fun a=>s.heap.get? a) (fun _=>0) ⟨s.heap.objs.size,[]⟩ (frameOf b) [] 0 { s with heap:=h₁,toks:=s.toks + bV.length }:=by
      refine ⟨fun a o e=>.inl (hk₁ _ _ e),(fun a ha=>by cases ha),fun a o e=>e,hg,rfl,fresh_none _,⟨_,hns,fun c av q=>?_⟩,(fun n o e=>by cases e),(fun n n' o o' e=>by cases e)⟩
      obtain ⟨x,v,h1,h2,h3,h4⟩:=frame_binds hbR hn c av q
      exact ⟨x,v,h1,h2,lookup_rev_of_mem (by rw [← hbR.keys]; exact okNs_nodup hn) h3,h4⟩
    refine wpAny_mono (h ⟨A.deeper (callEnv (fdAt K f) s.heap.objs.size f),_,_,_,f,_,⟨hh.1,[callEnv (fdAt K f) s.heap.objs.size f],Around.frames_deeper hh.2,fun env he=>by rw [List.mem_singleton.mp he]; exact ⟨fi.nm.kind ▸ by decide,_,.head _,rfl⟩⟩,by show A.depth + 1 + d ≤ _; omega,by show A.units + 3 + 9 * d ≤ _; omega,R₁⟩) (fun fl s'' hq=>?_) (fun _ _ z=>z.elim)
    obtain ⟨φ,F'',J',ρ',σ',nx',E,R',hv,q⟩:=hq
    have keep:∀ b o,s.heap.get? b = some o → s''.heap.get? b = some o:=R'.keep
    cases φ with
    | next=>cases fl <;> first | (exact hv.elim) | exact ⟨⟨.none,J',ρ',nx',q,.none⟩,keep,R'.os,R'.gens⟩
    | brk=>exact q.elim
    | cont=>exact q.elim
    | ret a=>cases fl <;> first | (exact hv.elim) | exact ⟨⟨a,J',ρ',nx',q,hv⟩,keep,R'.os,R'.gens⟩
end
/-- what is left of the law -/
noncomputable def LawRuns:Prop:=∀ (X:Cx) (P:Params),X.prog = qp → X.w.params = P → X.Ok (K P) → ∀ ns:List Int,ns.length ≤ 63 →
  Xs X 200 (fdAt (K P) 1109) [(cd ⟨⟨[115,99,114,105,112,116]⟩⟩,.sl (ns.map .si))] (fun env=>execs dLaw.body env) [] 0 fun fl _ _ _=>match fl with | .ret a=>a = .bool true | _=>False
theorem law_in (P:Params):nsIn (K P) mainGlobals nLaw = some (some (.ref 1109)):=by kernel_rfl
theorem law_name:dLaw.name = nLaw:=by kernel_rfl
theorem law_parts (P:Params):stmtsOf (fdAt (K P) 1109).body = some dLaw.body∧dfltIn (K P) (fdAt (K P) 1109).defaults = some []∧(namesOf (fdAt (K P) 1109).params).length = 1∧(namesOf (fdAt (K P) 1109).params) = [⟨⟨[115,99,114,105,112,116]⟩⟩]:=⟨by kernel_rfl,by kernel_rfl,by kernel_rfl,by kernel_rfl⟩
theorem law_fn:∃ nm,gt tFns 1109 = some nm:=Option.isSome_iff_exists.mp (by kernel_rfl:(gt tFns 1109).isSome = true)
theorem ints_vr {J:Frozen} {nx:Nat} {ρ:Nat → Addr}:∀ {vs:List Value} {ns:List Int},IntsAre vs ns → VRs J nx ρ (ns.map .si) vs:=by
  intro vs ns h
  induction h with
  | nil=>exact .nil
  | cons=>exact .cons .si (by assumption)
theorem walk_of (H:LawRuns):WalkO qv loose (fun _ _=>True) hK.says ql.row.toRowW dLaw [] fun f vs=>PySem.call f vs:=by
  intro w s₀ s₁ mg mb G Y fa o pm cdv doc dV kV ho hd hcd hD hmg hg args vals as hpre hlay hrd hwl hlo
  have KX:(K w.params).In s₁.heap:=Y
  refine Ground.open G ?_
  intro T B D TE TW
  wrow_args hpre hlay hrd hwl hlo
  rename_i ns _ _ _ _ _ _ _ la vs _ hL _ w1 _ hI _ hlen _
  have e1:fa = 1109:=by
    have:=mg_of KX T.g (law_in w.params)
    rw [law_name,this] at hmg
    cases hmg; rfl
  subst e1
  obtain ⟨nm,hnm⟩:=law_fn
  have fi:FnIs (K w.params) 1109 nm:=(tab_ok w.params).1.fns _ _ hnm
  have ok:Cx.Ok ⟨qp,w,s₁.heap,s₁.os⟩ (K w.params):=⟨KX,T.nolimit,⟨mb,T.b,T.builtins⟩,⟨mg,T.g⟩,⟨k1 w.params,KX _ _ (by kernel_rfl)⟩,_,_,_,_,topRead_of T⟩
  obtain ⟨p1,p2,p3,p4⟩:=law_parts w.params
  obtain ⟨ol,hol,hcl,n,hdl⟩:=hL
  cases w1 with
  | @list _ vs' _ g gs=>
    rw [g] at hol
    cases hol
    have hvs:vs' = vs:=by
      have:vs'.toArray = vs.toArray:=by cases hdl; rfl
      simpa using this
    subst hvs
    have hlist:VR (fun a=>s₁.heap.get? a) 0 (fun _=>0) (.sl (ns.map .si)) (.ref la):=.sl (vs:=vs'.toArray) (ep:=0) g (by simpa using ints_vr hI)
    refine wpAny_mono (start (Q:=fun a=>a = .bool true) (d:=200) (b:=[(⟨⟨[115,99,114,105,112,116]⟩⟩,.sl (ns.map .si))]) (posV:=[.ref la]) (pos:=[.sl (ns.map .si)]) ok hg ⟨rfl,rfl⟩ (by decide +kernel) (by decide +kernel) fi p1 p2 (by rw [p4]; rfl) (.cons hlist .nil) ?_) (fun v s' h=>?_) fun _ _ z=>z.elim
    · exact fun p=>wpAny_mono (H ⟨qp,w,s₁.heap,s₁.os⟩ w.params rfl rfl ok ns (by omega) p) (fun fl s z=>by
        obtain ⟨φ,F',J',ρ',σ',nx',E,R,x,q⟩:=z
        refine ⟨φ,F',J',ρ',σ',nx',E,R,x,?_⟩
        cases φ <;> first | exact q | exact (q:False).elim) fun _ _ z=>z
    · obtain ⟨⟨a,J',ρ',nx',rfl,hv⟩,hk,ho',hg'⟩:=h
      cases hv
      refine GoodW.toG ⟨.inl ⟨.bool true,.bool true,[],rfl,?_,.bool true,?_,?_⟩,hk,ho',hg'⟩
      · intro c; rfl
      · kernel_rfl
      · exact fun _=>⟨List.nodup_nil,fun a h=>by cases h⟩
theorem law_of (H:LawRuns):PySem.Challenge.rw_jd0036_02.Holds:=law_of_row (of_walk said_r (walk_of H))
end Mine
end
section
open PySem PySem.W PySem.Calls PyProof.Rows PySem.SeqAt
set_option maxRecDepth 100000
set_option linter.unusedVariables false
namespace Mine
noncomputable abbrev sS (l:List Nat):Str:=⟨l.toArray⟩
noncomputable abbrev n__FastQueue__maxSize:Nat:=0x19bdeaa9e716ec183376cdda975e98a3e0
noncomputable abbrev n__FastQueue__queue:Nat:=0x66ed9bb72c183376cdda975e98a3e0
noncomputable abbrev n__MemoryJournal__bytesSize:Nat:=0x66f7aaa74cdd7d63c1836e2dfcfb7097eb9f0dd9a760
noncomputable abbrev n__MemoryJournal__currentTerm:Nat:=0x1bb9e6abd77e6e7cfb64c1836e2dfcfb7097eb9f0dd9a760
noncomputable abbrev n__MemoryJournal__journal:Nat:=0x1b716fe7db86bc1836e2dfcfb7097eb9f0dd9a760
noncomputable abbrev n__MemoryJournal__lastCommitIndex:Nat:=0x1e7365df2baeaddbb844ebd316dc1836e2dfcfb7097eb9f0dd9a760
noncomputable abbrev n__MemoryJournal__votedForNodeId:Nat:=0x32cacd9784fe7c23e5cdd7877c1836e2dfcfb7097eb9f0dd9a760
noncomputable abbrev n__Serializer__currentID:Nat:=0x22caebbf373e7db260c1cf37bd5b716ae79aa60
noncomputable abbrev n__Serializer__given:Nat:=0x37e6efab460c1cf37bd5b716ae79aa60
noncomputable abbrev n__Serializer__inMemorySerializedData:Nat:=0x18bae28b9737bd5b716ae79aa7ae7c37669dbf560c1cf37bd5b716ae79aa60
noncomputable abbrev n__Serializer__incomingTransmissionFile:Nat:=0x66dbaa3efe1aba74d5bba6fc5ceae8dfab770c9bf560c1cf37bd5b716ae79aa60
noncomputable abbrev n__Serializer__pid:Nat:=0xcbab8e0c1cf37bd5b716ae79aa60
noncomputable abbrev n__Serializer__transmissionBatchSize:Nat:=0x337bd5534e4eb8a1efe1aba74d5bba6fc5cfae0c1cf37bd5b716ae79aa60
noncomputable abbrev n__Serializer__transmissions:Nat:=0x3a6fe1aba74d5bba6fc5cfae0c1cf37bd5b716ae79aa60
noncomputable abbrev n__SyncObj__changeClusterIDx:Nat:=0x3cc595cf375e9db6c4cda37e2d393060d78e864dfeaa60
noncomputable abbrev n__SyncObj__commandsLocalCounter:Nat:=0x39e6ebbfb7089b7164e137a65df8b76ee193060d78e864dfeaa60
noncomputable abbrev n__SyncObj__commandsQueue:Nat:=0x19bb66ed4ba65df8b76ee193060d78e864dfeaa60
noncomputable abbrev n__SyncObj__commandsWaitingCommit:Nat:=0x1d756eddc2268dfabaeac563a65df8b76ee193060d78e864dfeaa60
noncomputable abbrev n__SyncObj__commandsWaitingReply:Nat:=0x3d6de39a9e8dfabaeac563a65df8b76ee193060d78e864dfeaa60
noncomputable abbrev n__SyncObj__conf:Nat:=0x33efe193060d78e864dfeaa60
noncomputable abbrev n__SyncObj__connectedNodes:Nat:=0xe99b2f09f97375c99b7efe193060d78e864dfeaa60
noncomputable abbrev n__SyncObj__destroying:Nat:=0xd1bf57ae1cfaf4cd97060d78e864dfeaa60
noncomputable abbrev n__SyncObj__enabledCodeVersion:Nat:=0xdfc3574e79abe6cbc2265cdb71e2df9b060d78e864dfeaa60
noncomputable abbrev n__SyncObj__forceLogCompaction:Nat:=0xdfc3575c98b8eee1134709b9b273e19f060d78e864dfeaa60
noncomputable abbrev n__SyncObj__given:Nat:=0x1bf377d5a3060d78e864dfeaa60
noncomputable abbrev n__SyncObj__lastReadonlyCheck:Nat:=0x1b3266d313d6ddfc32e2cd4faf4c5b7060d78e864dfeaa60
noncomputable abbrev n__SyncObj__lastResponseTime:Nat:=0x336ed557374dfc38f4cd4faf4c5b7060d78e864dfeaa60
noncomputable abbrev n__SyncObj__lastSerializedEntry:Nat:=0x7ae7d77c6cb9bdeadb8b573cd53af4c5b7060d78e864dfeaa60
noncomputable abbrev n__SyncObj__lastSerializedTime:Nat:=0xcdbb555cb9bdeadb8b573cd53af4c5b7060d78e864dfeaa60
noncomputable abbrev n__SyncObj__leaderCommitIndex:Nat:=0x1e7365df2baeaddbb844e79b2e2cdb7060d78e864dfeaa60
noncomputable abbrev n__SyncObj__newAppendEntriesTime:Nat:=0x336ed557a66d5cfaef8d977e6e3c6178cdbf060d78e864dfeaa60
noncomputable abbrev n__SyncObj__noopIDx:Nat:=0x798b2b8f0e1bf060d78e864dfeaa60
noncomputable abbrev n__SyncObj__numOneSecondDumps:Nat:=0x1d38eeed172efe193354cdbe86eedbf060d78e864dfeaa60
noncomputable abbrev n__SyncObj__onReadyCalled:Nat:=0x19736ddb8a27acb8b353dfc3060d78e864dfeaa60
noncomputable abbrev n__SyncObj__otherNodes:Nat:=0xe99b2f09fcf369ebc3060d78e864dfeaa60
noncomputable abbrev n__SyncObj__raftCommitIndex:Nat:=0x79cd977caebab76ee113ae7c5cf060d78e864dfeaa60
noncomputable abbrev n__SyncObj__raftCurrentTerm:Nat:=0x6ee79aaf5df9b9f3ed13ae7c5cf060d78e864dfeaa60
noncomputable abbrev n__SyncObj__raftElectionDeadline:Nat:=0x336fd5b72e2cd177f0d5d7266db1bae7c5cf060d78e864dfeaa60
noncomputable abbrev n__SyncObj__raftLastApplied:Nat:=0x65cdab6f1e30baf4c537ae7c5cf060d78e864dfeaa60
noncomputable abbrev n__SyncObj__raftLeader:Nat:=0xe79b2e2cd37ae7c5cf060d78e864dfeaa60
noncomputable abbrev n__SyncObj__raftLog:Nat:=0x68e137ae7c5cf060d78e864dfeaa60
noncomputable abbrev n__SyncObj__raftMatchIndex:Nat:=0xf39b2ef95a7275c53bae7c5cf060d78e864dfeaa60
noncomputable abbrev n__SyncObj__raftNextIndex:Nat:=0x1e7365df2baf9cd3fae7c5cf060d78e864dfeaa60
noncomputable abbrev n__SyncObj__raftState:Nat:=0x19bae2eb53ae7c5cf060d78e864dfeaa60
noncomputable abbrev n__SyncObj__readonlyNodes:Nat:=0x1d3365e13fd6ddfc32e2cdcf060d78e864dfeaa60
noncomputable abbrev n__SyncObj__selfCodeVersion:Nat:=0x6fe1aba73cd5f365e1133edcdd3060d78e864dfeaa60
noncomputable abbrev n__SyncObj__selfNode:Nat:=0x3365e13f3edcdd3060d78e864dfeaa60
noncomputable abbrev n__SyncObj__serializer:Nat:=0xe79bdeadb8b573cdd3060d78e864dfeaa60
noncomputable abbrev n__SyncObj__startTime:Nat:=0x19b76aabd79e2ebd3060d78e864dfeaa60
noncomputable abbrev n__SyncObj__transferInProgress:Nat:=0xe9d3373d1c39d1df2b9e6cfd37e2e7d7060d78e864dfeaa60
noncomputable abbrev n__SyncObj__transport:Nat:=0x1d79f0e3d37e2e7d7060d78e864dfeaa60
noncomputable abbrev n__SyncObj__votedForNodeId:Nat:=0xcb2b365e13f9f08f97375e1df060d78e864dfeaa60
noncomputable abbrev n__SyncObj__votesCount:Nat:=0xebbfb7089d3375e1df060d78e864dfeaa60
noncomputable abbrev n__syncObj:Nat:=0xd78e864dfeba60
noncomputable abbrev n_ahead:Nat:=0x65c59b4e2
noncomputable abbrev n_answer:Nat:=0x39e6f1d37e2
noncomputable abbrev n_appendEntriesBatchSizeBytes:Nat:=0x1d3375f50f37bd5534e4eb8a1f4cdab9f5df1b2efcdc78e2
noncomputable abbrev n_appendEntriesPeriod:Nat:=0x19786ae79a8f4cdab9f5df1b2efcdc78e2
noncomputable abbrev n_appendEntriesUseBatch:Nat:=0x69c9d7143cdd2b74cdab9f5df1b2efcdc78e2
noncomputable abbrev n_applied:Nat:=0x19736adbc78e2
noncomputable abbrev n_args:Nat:=0xe9a39e2
noncomputable abbrev n_autoTick:Nat:=0xd993555e1d7b62
noncomputable abbrev n_autoTickPeriod:Nat:=0x32f0d5cf351d993555e1d7b62
noncomputable abbrev n_bindAddress:Nat:=0x1d3a66e7972c2cbbf563
noncomputable abbrev n_bindRetryTime:Nat:=0x66ddaaafae7d7353cbbf563
noncomputable abbrev n_box:Nat:=0x1e7863
noncomputable abbrev n_callback:Nat:=0xd993163dbb7164
noncomputable abbrev n_clusterChangeRequest:Nat:=0xebd3376e59a9e6d1bf16989cf375e9db6e4
noncomputable abbrev n_codeVersion:Nat:=0x1bf86ae9cf357cd97864
noncomputable abbrev n_command:Nat:=0x1977e2ddbb864
noncomputable abbrev n_commandType:Nat:=0x19b8faab977e2ddbb864
noncomputable abbrev n_commandsQueueSize:Nat:=0x66f7aaa66ed9bb52e9977e2ddbb864
noncomputable abbrev n_commandsWaitLeader:Nat:=0x39e6cb8b34debab158e9977e2ddbb864
noncomputable abbrev n_commit:Nat:=0x3aeaddbb864
noncomputable abbrev n_connectionRetryTime:Nat:=0x19b76aabeb9f5cd4f7f0d5d7266dfbf864
noncomputable abbrev n_connectionTimeout:Nat:=0x75edc336ed5577f0d5d7266dfbf864
noncomputable abbrev n_count:Nat:=0x75dfdb864
noncomputable abbrev n_currTime:Nat:=0xcdbb555e7cfb64
noncomputable abbrev n_currentTermID:Nat:=0x4595bb9e6abd77e6e7cfb64
noncomputable abbrev n_deserializer:Nat:=0xe79bdeadb8b573cdd3365
noncomputable abbrev n_dnsCacheTime:Nat:=0xcdbb555cda726289d37e5
noncomputable abbrev n_dnsFailCacheTime:Nat:=0xcdbb555cda726289b75628fd37e5
noncomputable abbrev n_drawn:Nat:=0x6ff18b9e5
noncomputable abbrev n_due:Nat:=0x19bb65
noncomputable abbrev n_dumped:Nat:=0x32e6e3bbb65
noncomputable abbrev n_dynamicMembershipChange:Nat:=0x19b46fc5a6271d5a7a73cd8f7669d9356ec5bfd65
noncomputable abbrev n_entries:Nat:=0x1d336ae7d77e6
noncomputable abbrev n_entry:Nat:=0x7ae7d77e6
noncomputable abbrev n_fullDumpFile:Nat:=0xcdb7547e3bbb45dbb7b67
noncomputable abbrev n_funcID:Nat:=0x22cac9bfb67
noncomputable abbrev n_given:Nat:=0x6fcddf568
noncomputable abbrev n_head:Nat:=0xcb8b369
noncomputable abbrev n_journal:Nat:=0x1b716fe7db86b
noncomputable abbrev n_journalFile:Nat:=0x19b6ea8fb716fe7db86b
noncomputable abbrev n_k:Nat:=0x6c
noncomputable abbrev n_kind:Nat:=0xcbbf56c
noncomputable abbrev n_kwargs:Nat:=0x3a68e78bc6c
noncomputable abbrev n_lastLogIdx:Nat:=0x3ce595a384debd316d
noncomputable abbrev n_lastLogTerm:Nat:=0x1bb9e6aba384debd316d
noncomputable abbrev n_leaderCommitIndex:Nat:=0x79cd977caebab76ee1139e6cb8b36d
noncomputable abbrev n_leaderFallbackTimeout:Nat:=0x75edc336ed557664c58f6edc51f9e6cb8b36d
noncomputable abbrev n_length:Nat:=0x34f5d1bf36d
noncomputable abbrev n_log:Nat:=0x1a386d
noncomputable abbrev n_logCompactionBatchSize:Nat:=0x337bd5534e4eb8a1efe1abae4c5c777089a386d
noncomputable abbrev n_logCompactionMinEntries:Nat:=0x1d336ae7d77c6dfaa76fe1abae4c5c777089a386d
noncomputable abbrev n_logCompactionMinTime:Nat:=0xcdbb555dfaa76fe1abae4c5c777089a386d
noncomputable abbrev n_logCompactionSplit:Nat:=0x3aeadbc6a6fe1abae4c5c777089a386d
noncomputable abbrev n_maxBindRetries:Nat:=0x3a66d5cfae6a7977ea87e716e
noncomputable abbrev n_message:Nat:=0x19b462e9d336e
noncomputable abbrev n_names:Nat:=0x74cdbb16f
noncomputable abbrev n_needSendAppendEntries:Nat:=0x74cdab9f5df1b2efcdc78c2cbbf354cb9b36f
noncomputable abbrev n_newEntries:Nat:=0x3a66d5cfaef8de336f
noncomputable abbrev n_nextNodeIdx:Nat:=0x1e72cacd9784febe736f
noncomputable abbrev n_node:Nat:=0xcd9786f
noncomputable abbrev n_now:Nat:=0x1e386f
noncomputable abbrev n_number:Nat:=0x39e6c7bbb6f
noncomputable abbrev n_onCodeVersionChanged:Nat:=0xcb9b46fc5a626fe1aba73cd5f365e1137f0
noncomputable abbrev n_onReady:Nat:=0x1eb2e2cd4f7f0
noncomputable abbrev n_onStateChanged:Nat:=0x32e6d1bf169899bae2eb537f0
noncomputable abbrev n_own:Nat:=0x1bfc70
noncomputable abbrev n_password:Nat:=0xcbcf878e9d3171
noncomputable abbrev n_place:Nat:=0x66c98b6f1
noncomputable abbrev n_pollerType:Nat:=0x3371f5579e6dbb7871
noncomputable abbrev n_preferredAddrType:Nat:=0x66e3eaaf3cb96165cdcf9e6cf9b9f1
noncomputable abbrev n_prevEntries:Nat:=0x1d336ae7d77c6ef9b9f1
noncomputable abbrev n_prevLogIdx:Nat:=0x3ce595a384def9b9f1
noncomputable abbrev n_prevLogTerm:Nat:=0x1bb9e6aba384def9b9f1
noncomputable abbrev n_raftMaxTimeout:Nat:=0x3af6e19b76aabe714eeb9f173
noncomputable abbrev n_raftMinTimeout:Nat:=0x3af6e19b76aabbf54eeb9f173
noncomputable abbrev n_recvBufferSize:Nat:=0x337bd5539e6cf9fb43ef93373
noncomputable abbrev n_requestID:Nat:=0x4595d7a66edcb373
noncomputable abbrev n_requestNode:Nat:=0x19b2f09fd7a66edcb373
noncomputable abbrev n_res:Nat:=0x1d3373
noncomputable abbrev n_script:Nat:=0x3af1d5cf274
noncomputable abbrev n_self:Nat:=0xcfb7374
noncomputable abbrev n_sendBufferSize:Nat:=0x337bd5539e6cf9fb43cbbf374
noncomputable abbrev n_sent:Nat:=0xebbf374
noncomputable abbrev n_serializeChecker:Nat:=0xe79b664cda6266f7ab6e2d5cf374
noncomputable abbrev n_serializeID:Nat:=0x116566f7ab6e2d5cf374
noncomputable abbrev n_serializeState:Nat:=0x3375c5d6a66f7ab6e2d5cf374
noncomputable abbrev n_serialized:Nat:=0x32e6f7ab6e2d5cf374
noncomputable abbrev n_serializer:Nat:=0x39e6f7ab6e2d5cf374
noncomputable abbrev n_startTime:Nat:=0x66ddaaaf5e78baf4
noncomputable abbrev n_subscribers:Nat:=0x1d39e6c7ab9e4e98fb74
noncomputable abbrev n_tcp_keepalive:Nat:=0x66efab6e2e39b36cc1c7275
noncomputable abbrev n_term:Nat:=0xddcf375
noncomputable abbrev n_timeToWait:Nat:=0x3aeac563855cdbb575
noncomputable abbrev n_told:Nat:=0xcbb7875
noncomputable abbrev n_transport:Nat:=0x75e7c38f4df8b9f5
noncomputable abbrev n_useFork:Nat:=0x1b39f08f9ba76
noncomputable abbrev n_who:Nat:=0x1c34f8
noncomputable abbrev n_workTime:Nat:=0xcdbb555d9cf878
noncomputable abbrev s_type:Str:=⟨⟨[116,121,112,101]⟩⟩
noncomputable abbrev s_append_entries:Str:=⟨⟨[97,112,112,101,110,100,95,101,110,116,114,105,101,115]⟩⟩
noncomputable abbrev s_commit_index:Str:=⟨⟨[99,111,109,109,105,116,95,105,110,100,101,120]⟩⟩
noncomputable abbrev s_entries:Str:=⟨⟨[101,110,116,114,105,101,115]⟩⟩
noncomputable abbrev s_prevLogIdx:Str:=⟨⟨[112,114,101,118,76,111,103,73,100,120]⟩⟩
noncomputable abbrev s_prevLogTerm:Str:=⟨⟨[112,114,101,118,76,111,103,84,101,114,109]⟩⟩
noncomputable abbrev s_next_node_idx:Str:=⟨⟨[110,101,120,116,95,110,111,100,101,95,105,100,120]⟩⟩
noncomputable abbrev s_success:Str:=⟨⟨[115,117,99,99,101,115,115]⟩⟩
noncomputable abbrev s_request_vote:Str:=⟨⟨[114,101,113,117,101,115,116,95,118,111,116,101]⟩⟩
noncomputable abbrev s_response_vote:Str:=⟨⟨[114,101,115,112,111,110,115,101,95,118,111,116,101]⟩⟩
noncomputable abbrev s_last_log_index:Str:=⟨⟨[108,97,115,116,95,108,111,103,95,105,110,100,101,120]⟩⟩
noncomputable abbrev s_last_log_term:Str:=⟨⟨[108,97,115,116,95,108,111,103,95,116,101,114,109]⟩⟩
noncomputable abbrev s_term:Str:=⟨⟨[116,101,114,109]⟩⟩
noncomputable abbrev s_voted:Str:=⟨⟨[118,111,116,101,100]⟩⟩
noncomputable abbrev s_log:Str:=⟨⟨[108,111,103]⟩⟩
noncomputable abbrev s_commit:Str:=⟨⟨[99,111,109,109,105,116]⟩⟩
noncomputable abbrev s_at:Str:=⟨⟨[97,116]⟩⟩
noncomputable abbrev s_done:Str:=⟨⟨[100,111,110,101]⟩⟩
noncomputable abbrev s_leader:Str:=⟨⟨[108,101,97,100,101,114]⟩⟩
noncomputable abbrev s_now:Str:=⟨⟨[110,111,119]⟩⟩
noncomputable abbrev s_reset:Str:=⟨⟨[114,101,115,101,116]⟩⟩
/-- an entry of the log -/
structure Ent where
  cmd:Option Int
  idx:Int
  term:Int
noncomputable def cmdA:Option Int → AV
  | some v=>.tup [.int 0,.si v]
  | none=>.tup [.int 1]
noncomputable def entA (e:Ent):AV:=.tup [cmdA e.cmd,.si e.idx,.si e.term]
noncomputable def donA (v:Int):AV:=.tup [.si v,.fl []]
structure S where
  nl:List AV
  term:Int
  voted:Option Str
  leader:Option Str
  log:List Ent
  commit:Int
  at1:Int
  now:Int
  reset:Int
  done:List Int
  lc:Option Int
  orc:Bool
  st:Int
  nd:Int
  lst:Int
noncomputable abbrev confO:AObj:=.inst 180 [(n_password,.none),(n_autoTick,(.bool false)),(n_autoTickPeriod,(.int 50)),(n_commandsQueueSize,(.int 100000)),(n_raftMinTimeout,(.int 400)),(n_raftMaxTimeout,(.int 1400)),(n_appendEntriesPeriod,(.int 100)),(n_connectionTimeout,(.int 3500)),(n_connectionRetryTime,(.int 5000)),(n_leaderFallbackTimeout,(.int 30000)),(n_appendEntriesUseBatch,(.bool true)),(n_appendEntriesBatchSizeBytes,(.int 65536)),(n_bindAddress,.none),(n_preferredAddrType,(.str (sS [105,112,118,52]))),(n_sendBufferSize,(.int 65536)),(n_recvBufferSize,(.int 65536)),(n_dnsCacheTime,(.int 600000)),(n_dnsFailCacheTime,(.int 30000)),(n_logCompactionMinEntries,(.int 5000)),(n_logCompactionMinTime,(.int 300000)),(n_logCompactionSplit,(.bool false)),(n_logCompactionBatchSize,(.int 65536)),(n_commandsWaitLeader,(.bool true)),(n_fullDumpFile,.none),(n_journalFile,.none),(n_bindRetryTime,(.int 1000)),(n_maxBindRetries,(.int 0)),(n_onReady,.none),(n_onStateChanged,.none),(n_dynamicMembershipChange,(.bool false)),(n_pollerType,(.str (sS [97,117,116,111]))),(n_useFork,(.bool true)),(n_serializer,.none),(n_serializeChecker,.none),(n_deserializer,.none),(n_onCodeVersionChanged,.none),(n_tcp_keepalive,(.tup [(.int 16),(.int 3),(.int 5)]))]
noncomputable abbrev transO:AObj:=.inst 123 [(n__syncObj,(.loc 7)),(n_sent,(.loc 6))]
noncomputable abbrev serO:AObj:=.inst 603 [(n__Serializer__given,(.loc 2)),(n__Serializer__transmissionBatchSize,(.int 65536)),(n__Serializer__pid,(.int 0)),(n__Serializer__currentID,(.int 0)),(n__Serializer__transmissions,(.loc 26)),(n__Serializer__incomingTransmissionFile,.none),(n__Serializer__inMemorySerializedData,.none)]
noncomputable abbrev queO:AObj:=.inst 540 [(n__FastQueue__queue,(.loc 11)),(n__FastQueue__maxSize,(.int 100000))]
noncomputable abbrev frm:Frame:=[(n_names,.loc 17),(n_journal,.loc 0),(n_given,.loc 2),(n_transport,.loc 5),(n_node,.loc 7),(n_own,.loc 14)]
noncomputable abbrev sgs (s:S):Store:=[(0,.inst 404 [(n__MemoryJournal__journal,(.loc 1)),(n__MemoryJournal__bytesSize,(.int 0)),(n__MemoryJournal__lastCommitIndex,(.int 0)),(n__MemoryJournal__currentTerm,(.si s.term)),(n__MemoryJournal__votedForNodeId,(.so s.voted))]),(1,.slist (s.log.map entA)),(2,.inst 479 [(n_now,(.si s.now)),(n_drawn,(.loc 4)),(n_applied,(.loc 3)),(n_told,(.loc 18)),(n_dumped,(.loc 19)),(n_length,(.int 1)),(n_codeVersion,(.int 0))]),(3,.slist (s.done.map donA)),(4,.list []),(5,transO),(6,.list []),(7,.inst 1070 [(n__SyncObj__conf,(.loc 8)),(n__SyncObj__given,(.loc 2)),(n__SyncObj__selfNode,(.str (sS [97]))),(n__SyncObj__otherNodes,(.loc 20)),(n__SyncObj__readonlyNodes,(.loc 21)),(n__SyncObj__connectedNodes,(.loc 22)),(n__SyncObj__raftState,(.int 0)),(n__SyncObj__raftCurrentTerm,(.si s.term)),(n__SyncObj__votedForNodeId,(.so s.voted)),(n__SyncObj__votesCount,(.int 0)),(n__SyncObj__raftLeader,(.so s.leader)),(n__SyncObj__raftElectionDeadline,(.si (s.reset + 400))),(n__SyncObj__transferInProgress,(.bool false)),(n__SyncObj__raftLog,(.loc 0)),(n__SyncObj__raftCommitIndex,(.si s.commit)),(n__SyncObj__raftLastApplied,(.si s.at1)),(n__SyncObj__raftNextIndex,(.loc 23)),(n__SyncObj__lastResponseTime,(.loc 24)),(n__SyncObj__raftMatchIndex,(.loc 25)),(n__SyncObj__lastSerializedTime,(.si s.lst)),(n__SyncObj__lastSerializedEntry,.none),(n__SyncObj__forceLogCompaction,(.bool false)),(n__SyncObj__leaderCommitIndex,(.io s.lc)),(n__SyncObj__onReadyCalled,(.sb s.orc)),(n__SyncObj__changeClusterIDx,.none),(n__SyncObj__noopIDx,.none),(n__SyncObj__destroying,(.bool false)),(n__SyncObj__startTime,(.si s.st)),(n__SyncObj__numOneSecondDumps,(.si s.nd)),(n__SyncObj__serializer,(.loc 9)),(n__SyncObj__transport,(.loc 5)),(n__SyncObj__selfCodeVersion,(.int 0)),(n__SyncObj__commandsQueue,(.loc 10)),(n__SyncObj__lastReadonlyCheck,(.int 0)),(n__SyncObj__newAppendEntriesTime,(.int 0)),(n__SyncObj__commandsWaitingCommit,(.loc 12)),(n__SyncObj__commandsLocalCounter,(.int 0)),(n__SyncObj__commandsWaitingReply,(.loc 13)),(n__SyncObj__enabledCodeVersion,(.int 0))]),(8,confO),(9,serO),(10,queO),(11,.list []),(12,.edict),(13,.edict),(14,.dict [(s_term,.si s.term),(s_voted,.so s.voted),(s_log,.loc 15),(s_commit,.si s.commit),(s_at,.si s.at1),(s_done,.loc 16),(s_leader,.so s.leader),(s_now,.si s.now),(s_reset,.si s.reset)]),(15,.slist (s.log.map entA)),(16,.slist (s.done.map donA)),(17,.slist s.nl)]
structure QA where
  term:AV
  voted:AV
  jterm:AV
  jvoted:AV
  leader:AV
  dead:AV
  commit:AV
  at1:AV
  lst:AV
  lc:AV
  orc:AV
  st:AV
  nd:AV
  now:AV
  oterm:AV
  ovoted:AV
  oleader:AV
  ocommit:AV
  oat:AV
  onow:AV
  oreset:AV
  log:AObj
  done:AObj
  olog:AObj
  odone:AObj
  nl:AObj
noncomputable abbrev qOf (s:S):QA:={ term:=.si s.term,voted:=.so s.voted,jterm:=.si s.term,jvoted:=.so s.voted,leader:=.so s.leader,dead:=.si (s.reset + 400),commit:=.si s.commit,at1:=.si s.at1,lst:=.si s.lst,lc:=.io s.lc,orc:=.sb s.orc,st:=.si s.st,nd:=.si s.nd,now:=.si s.now,oterm:=.si s.term,ovoted:=.so s.voted,oleader:=.so s.leader,ocommit:=.si s.commit,oat:=.si s.at1,onow:=.si s.now,oreset:=.si s.reset,log:=.slist (s.log.map entA),done:=.slist (s.done.map donA),olog:=.slist (s.log.map entA),odone:=.slist (s.done.map donA),nl:=.slist s.nl }
noncomputable abbrev sigQ (q:QA):Store:=[(0,.inst 404 [(n__MemoryJournal__journal,(.loc 1)),(n__MemoryJournal__bytesSize,(.int 0)),(n__MemoryJournal__lastCommitIndex,(.int 0)),(n__MemoryJournal__currentTerm,(q.jterm)),(n__MemoryJournal__votedForNodeId,(q.jvoted))]),(1,q.log),(2,.inst 479 [(n_now,(q.now)),(n_drawn,(.loc 4)),(n_applied,(.loc 3)),(n_told,(.loc 18)),(n_dumped,(.loc 19)),(n_length,(.int 1)),(n_codeVersion,(.int 0))]),(3,q.done),(4,.list []),(5,transO),(6,.list []),(7,.inst 1070 [(n__SyncObj__conf,(.loc 8)),(n__SyncObj__given,(.loc 2)),(n__SyncObj__selfNode,(.str (sS [97]))),(n__SyncObj__otherNodes,(.loc 20)),(n__SyncObj__readonlyNodes,(.loc 21)),(n__SyncObj__connectedNodes,(.loc 22)),(n__SyncObj__raftState,(.int 0)),(n__SyncObj__raftCurrentTerm,(q.term)),(n__SyncObj__votedForNodeId,(q.voted)),(n__SyncObj__votesCount,(.int 0)),(n__SyncObj__raftLeader,(q.leader)),(n__SyncObj__raftElectionDeadline,(q.dead)),(n__SyncObj__transferInProgress,(.bool false)),(n__SyncObj__raftLog,(.loc 0)),(n__SyncObj__raftCommitIndex,(q.commit)),(n__SyncObj__raftLastApplied,(q.at1)),(n__SyncObj__raftNextIndex,(.loc 23)),(n__SyncObj__lastResponseTime,(.loc 24)),(n__SyncObj__raftMatchIndex,(.loc 25)),(n__SyncObj__lastSerializedTime,(q.lst)),(n__SyncObj__lastSerializedEntry,.none),(n__SyncObj__forceLogCompaction,(.bool false)),(n__SyncObj__leaderCommitIndex,(q.lc)),(n__SyncObj__onReadyCalled,(q.orc)),(n__SyncObj__changeClusterIDx,.none),(n__SyncObj__noopIDx,.none),(n__SyncObj__destroying,(.bool false)),(n__SyncObj__startTime,(q.st)),(n__SyncObj__numOneSecondDumps,(q.nd)),(n__SyncObj__serializer,(.loc 9)),(n__SyncObj__transport,(.loc 5)),(n__SyncObj__selfCodeVersion,(.int 0)),(n__SyncObj__commandsQueue,(.loc 10)),(n__SyncObj__lastReadonlyCheck,(.int 0)),(n__SyncObj__newAppendEntriesTime,(.int 0)),(n__SyncObj__commandsWaitingCommit,(.loc 12)),(n__SyncObj__commandsLocalCounter,(.int 0)),(n__SyncObj__commandsWaitingReply,(.loc 13)),(n__SyncObj__enabledCodeVersion,(.int 0))]),(8,confO),(9,serO),(10,queO),(11,.list []),(12,.edict),(13,.edict),(14,.dict [(s_term,q.oterm),(s_voted,q.ovoted),(s_log,.loc 15),(s_commit,q.ocommit),(s_at,q.oat),(s_done,.loc 16),(s_leader,q.oleader),(s_now,q.onow),(s_reset,q.oreset)]),(15,q.olog),(16,q.odone),(17,q.nl)]
theorem sgs_q (s:S):sigQ (qOf s) = sgs s:=rfl
theorem Ls_refl:∀ l:List AV,Ls l l
  | []=>.nil
  | a :: l=>.cons AVle.refl (Ls_refl l)
noncomputable def FitL (o:AObj) (l:List AV):Prop:=o = .slist l ∨ o = .list l
theorem FitL.le {o:AObj} {l:List AV} (h:FitL o l):OLe o (.slist l):=by
  rcases h with rfl | rfl
  · exact OLe.refl
  · exact OLe.slist (Ls_refl _)
structure Fit (q:QA) (s:S):Prop where
  term:AVle q.term (.si s.term):=by exact AVle.refl
  voted:AVle q.voted (.so s.voted):=by exact AVle.refl
  jterm:AVle q.jterm (.si s.term):=by exact AVle.refl
  jvoted:AVle q.jvoted (.so s.voted):=by exact AVle.refl
  leader:AVle q.leader (.so s.leader):=by exact AVle.refl
  dead:AVle q.dead (.si (s.reset + 400)):=by exact AVle.refl
  commit:AVle q.commit (.si s.commit):=by exact AVle.refl
  at1:AVle q.at1 (.si s.at1):=by exact AVle.refl
  lst:AVle q.lst (.si s.lst):=by exact AVle.refl
  lc:AVle q.lc (.io s.lc):=by exact AVle.refl
  orc:AVle q.orc (.sb s.orc):=by exact AVle.refl
  st:AVle q.st (.si s.st):=by exact AVle.refl
  nd:AVle q.nd (.si s.nd):=by exact AVle.refl
  now:AVle q.now (.si s.now):=by exact AVle.refl
  oterm:AVle q.oterm (.si s.term):=by exact AVle.refl
  ovoted:AVle q.ovoted (.so s.voted):=by exact AVle.refl
  oleader:AVle q.oleader (.so s.leader):=by exact AVle.refl
  ocommit:AVle q.ocommit (.si s.commit):=by exact AVle.refl
  oat:AVle q.oat (.si s.at1):=by exact AVle.refl
  onow:AVle q.onow (.si s.now):=by exact AVle.refl
  oreset:AVle q.oreset (.si s.reset):=by exact AVle.refl
  log:FitL q.log (s.log.map entA):=by exact Or.inl rfl
  done:FitL q.done (s.done.map donA):=by exact Or.inl rfl
  olog:FitL q.olog (s.log.map entA):=by exact Or.inl rfl
  odone:FitL q.odone (s.done.map donA):=by exact Or.inl rfl
  nl:FitL q.nl s.nl:=by exact Or.inl rfl
noncomputable abbrev jourA (jl term voted:AV):AObj:=.inst 404 [(n__MemoryJournal__journal,jl),(n__MemoryJournal__bytesSize,(.int 0)),(n__MemoryJournal__lastCommitIndex,(.int 0)),(n__MemoryJournal__currentTerm,(term)),(n__MemoryJournal__votedForNodeId,(voted))]
noncomputable abbrev givA (ap now:AV):AObj:=.inst 479 [(n_now,(now)),(n_drawn,(.loc 4)),(n_applied,ap),(n_told,(.loc 18)),(n_dumped,(.loc 19)),(n_length,(.int 1)),(n_codeVersion,(.int 0))]
noncomputable abbrev nodeA (wr term voted leader dead commit at1 lst lc orc st nd:AV):AObj:=.inst 1070 [(n__SyncObj__conf,(.loc 8)),(n__SyncObj__given,(.loc 2)),(n__SyncObj__selfNode,(.str (sS [97]))),(n__SyncObj__otherNodes,(.loc 20)),(n__SyncObj__readonlyNodes,(.loc 21)),(n__SyncObj__connectedNodes,(.loc 22)),(n__SyncObj__raftState,(.int 0)),(n__SyncObj__raftCurrentTerm,(term)),(n__SyncObj__votedForNodeId,(voted)),(n__SyncObj__votesCount,(.int 0)),(n__SyncObj__raftLeader,(leader)),(n__SyncObj__raftElectionDeadline,(dead)),(n__SyncObj__transferInProgress,(.bool false)),(n__SyncObj__raftLog,(.loc 0)),(n__SyncObj__raftCommitIndex,(commit)),(n__SyncObj__raftLastApplied,(at1)),(n__SyncObj__raftNextIndex,(.loc 23)),(n__SyncObj__lastResponseTime,(.loc 24)),(n__SyncObj__raftMatchIndex,(.loc 25)),(n__SyncObj__lastSerializedTime,(lst)),(n__SyncObj__lastSerializedEntry,.none),(n__SyncObj__forceLogCompaction,(.bool false)),(n__SyncObj__leaderCommitIndex,(lc)),(n__SyncObj__onReadyCalled,(orc)),(n__SyncObj__changeClusterIDx,.none),(n__SyncObj__noopIDx,.none),(n__SyncObj__destroying,(.bool false)),(n__SyncObj__startTime,(st)),(n__SyncObj__numOneSecondDumps,(nd)),(n__SyncObj__serializer,(.loc 9)),(n__SyncObj__transport,(.loc 5)),(n__SyncObj__selfCodeVersion,(.int 0)),(n__SyncObj__commandsQueue,(.loc 10)),(n__SyncObj__lastReadonlyCheck,(.int 0)),(n__SyncObj__newAppendEntriesTime,(.int 0)),(n__SyncObj__commandsWaitingCommit,(.loc 12)),(n__SyncObj__commandsLocalCounter,(.int 0)),(n__SyncObj__commandsWaitingReply,wr),(n__SyncObj__enabledCodeVersion,(.int 0))]
noncomputable abbrev ownA (od ol oterm ovoted ocommit oat oleader onow oreset:AV):AObj:=.dict [(s_term,oterm),(s_voted,ovoted),(s_log,ol),(s_commit,ocommit),(s_at,oat),(s_done,od),(s_leader,oleader),(s_now,onow),(s_reset,oreset)]
theorem Fit.ss {q:QA} {s:S} (h:Fit q s):Ss (sigQ q) (sgs s):=(Ss.cons (OLe.inst (As.cons AVle.refl (As.cons AVle.refl (As.cons AVle.refl (As.cons h.jterm (As.cons h.jvoted As.nil)))))) (Ss.cons h.log.le (Ss.cons (OLe.inst (As.cons h.now (As.cons AVle.refl (As.cons AVle.refl (As.cons AVle.refl (As.cons AVle.refl (As.cons AVle.refl (As.cons AVle.refl As.nil)))))))) (Ss.cons h.done.le (Ss.cons OLe.refl (Ss.cons OLe.refl (Ss.cons OLe.refl (Ss.cons (OLe.inst (As.cons AVle.refl (As.cons AVle.refl (As.cons AVle.refl (As.cons AVle.refl (As.cons AVle.refl (As.cons AVle.refl (As.cons AVle.refl (As.cons h.term (As.cons h.voted (As.cons AVle.refl (As.cons h.leader (As.cons h.dead (As.cons AVle.refl (As.cons AVle.refl (As.cons h.commit (As.cons h.at1 (As.cons AVle.refl (As.cons AVle.refl (As.cons AVle.refl (As.cons h.lst (As.cons AVle.refl (As.cons AVle.refl (As.cons h.lc (As.cons h.orc (As.cons AVle.refl (As.cons AVle.refl (As.cons AVle.refl (As.cons h.st (As.cons h.nd (As.cons AVle.refl (As.cons AVle.refl (As.cons AVle.refl (As.cons AVle.refl (As.cons AVle.refl (As.cons AVle.refl (As.cons AVle.refl (As.cons AVle.refl (As.cons AVle.refl (As.cons AVle.refl As.nil)))))))))))))))))))))))))))))))))))))))) (Ss.cons OLe.refl (Ss.cons OLe.refl (Ss.cons OLe.refl (Ss.cons OLe.refl (Ss.cons OLe.refl (Ss.cons OLe.refl (Ss.cons (OLe.dict (As.cons h.oterm (As.cons h.ovoted (As.cons AVle.refl (As.cons h.ocommit (As.cons h.oat (As.cons AVle.refl (As.cons h.oleader (As.cons h.onow (As.cons h.oreset As.nil)))))))))) (Ss.cons h.olog.le (Ss.cons h.odone.le (Ss.cons h.nl.le Ss.nil))))))))))))))))))
noncomputable def leafQ (f:List Nat) (q:QA) (fl:Fl) (F:Frame) (w:W):Prop:=fl = .next∧gts F (keysOf frm) = mpF (fOf f) frm∧gts w.σ (mapF (fOf f) (keysOf (sigQ q))) = mpS (fOf f) (sigQ q)
noncomputable abbrev fin (f:List Nat) (q:QA):Prop:=Fl.next = Fl.next∧mpF (fOf f) frm = mpF (fOf f) frm∧mpS (fOf f) (sigQ q) = mpS (fOf f) (sigQ q)
theorem fin_ok (f:List Nat) (q:QA):fin f q:=⟨rfl,rfl,rfl⟩
theorem kmp {p q:Prop} (h:p = q) (a:p):q:=h ▸ a
noncomputable abbrev ent (e:Ent):AV:=.tup [cmdA e.cmd,.si e.idx,.si e.term]
theorem NL.si {i:Int}:NL (.si i):=fun h=>by cases h; exact .si
theorem NL.int {i:Int}:NL (.int i):=fun h=>by cases h; exact .int
theorem NL.str {i:Str}:NL (.str i):=fun h=>by cases h; exact .str
theorem NLs_tup {l:List AV} (hs:∀ a ∈ l,NL a):∀ {J:Frozen} {nx nx':Nat} {ρ ρ':Nat → Addr} {vs:List Value},VRs J nx ρ l vs → VRs J nx' ρ' l vs:=by
  induction l with
  | nil=>intro _ _ _ _ _ _ h; cases h; exact .nil
  | cons a l ih=>intro _ _ _ _ _ _ h; cases h with | cons h1 h2=>exact .cons (hs a (.head _) h1) (ih (fun x hx=>hs x (.tail _ hx)) h2)
theorem NL.tup {l:List AV} (hs:∀ a ∈ l,NL a):NL (.tup l):=fun h=>by cases h with | tup g gs=>exact .tup g (NLs_tup hs gs)
theorem NL.fl {l:List AV} (hs:∀ a ∈ l,NL a):NL (.fl l):=fun h=>by cases h with | fl g gs=>exact .fl g (NLs_tup hs gs)
theorem NL_cmd:∀ (c:Option Int),NL (cmdA c)
  | some v=>NL.tup fun a h=>by simp at h; rcases h with rfl | rfl; exact NL.int; exact NL.si
  | none=>NL.tup fun a h=>by simp at h; rcases h with rfl; exact NL.int
theorem NL_ent (e:Ent):NL (entA e):=NL.tup fun a h=>by
  simp at h; rcases h with rfl | rfl | rfl
  · exact NL_cmd _
  · exact NL.si
  · exact NL.si
theorem NL_don (v:Int):NL (donA v):=NL.tup fun a h=>by
  simp at h; rcases h with rfl | rfl
  · exact NL.si
  · exact NL.fl fun a h=>by cases h
theorem FitL.nl {o:AObj} {l:List AV} (h:FitL o l) (hl:∀ a ∈ l,NL a):∀ m,o = .slist m → ∀ a ∈ m,NL a:=by
  rcases h with rfl | rfl
  · intro m e; cases e; exact hl
  · intro m e; cases e
theorem NL_logs (l:List Ent):∀ a ∈ l.map entA,NL a:=fun a h=>by obtain ⟨e,_,rfl⟩:=List.mem_map.mp h; exact NL_ent e
theorem NL_dons (l:List Int):∀ a ∈ l.map donA,NL a:=fun a h=>by obtain ⟨e,_,rfl⟩:=List.mem_map.mp h; exact NL_don e
noncomputable def NLn (s:S):Prop:=∀ a ∈ s.nl,∃ x:Str,a = .str x
theorem NLn.nl {s:S} (h:NLn s):∀ a ∈ s.nl,NL a:=fun a m=>by obtain ⟨x,rfl⟩:=h a m; exact NL.str
theorem Fit.nls {q:QA} {s:S} (h:Fit q s) (hn:NLn s):∀ p ∈ sigQ q,∀ l,p.2 = .slist l → ∀ a ∈ l,NL a:=by
  intro p hp l e
  simp only [sigQ,List.mem_cons,List.not_mem_nil,or_false] at hp
  rcases hp with rfl | rfl | rfl | rfl | rfl | rfl | rfl | rfl | rfl | rfl | rfl | rfl | rfl | rfl | rfl | rfl | rfl | rfl <;> first | exact h.log.nl (NL_logs _) _ e | exact h.done.nl (NL_dons _) _ e | exact h.olog.nl (NL_logs _) _ e | exact h.odone.nl (NL_dons _) _ e | exact h.nl.nl hn.nl _ e | cases e
noncomputable def lawB (P:Params):List Stmt:=match stmtsOf (fdAt (K P) 1109).body with | some b=>b | none=>[]
noncomputable def lawFi (P:Params):Fi:=⟨fdAt (K P) 1109,match gt tFns 1109 with | some n=>n | none=>[]⟩
noncomputable def turnB (P:Params):List Stmt:=match lawB P with | _ :: _ :: _ :: _ :: _ :: .For _ _ b _ _ :: _=>b | _=>[]
noncomputable abbrev frmN (j num:Int):Frame:=(n_count,.si j) :: (n_number,.si num) :: frm
theorem frm_as:∀ F:Frame,As F F
  | []=>.nil
  | p :: F=>.cons AVle.refl (frm_as F)
theorem law_nm (P:Params):NmOk (fdAt (K P) 1109) (lawFi P).nm:=by
  obtain ⟨nm,hnm⟩:=law_fn
  have e:(lawFi P).nm = nm:=by unfold lawFi; simp only [hnm]
  exact e ▸ ((tab_ok P).1.fns _ _ hnm).nm
theorem Xs_mono {X:Cx} {d:Nat} {fd:FuncData} {F:Frame} {t:Env → Sem Flow} {σ:Store} {nx:Nat} {Q R:QS} (h:Xs X d fd F t σ nx Q) (k:∀ φ F2 σ2 n2,Q φ F2 σ2 n2 → R φ F2 σ2 n2):Xs X d fd F t σ nx R:=
  fun p=>wpAny_mono (h p) (fun fl s ⟨φ,F',J',ρ',σ',nx',E,r,x,q⟩=>⟨φ,F',J',ρ',σ',nx',E,r,x,k _ _ _ _ q⟩) fun _ _ z=>z
/-- what a path gives: the next turn's state -/
theorem next_of {X:Cx} {T:Tab} {n:Nat} (ro:RunOk X T n) {fi:Fi} (nm:NmOk fi.fd fi.nm) {B:List Stmt} {F₀:Frame} {σ₀:Store} {n₀:Nat} {s':S} {o:List Hint} {f:List Nat} {q:QA} (hp:(run X T n).xs fi F₀ B ⟨o,σ₀,n₀⟩ (leafQ f q))
    (fit:Fit q s') (hn:NLn s') (h1:okS 27 (sigQ q) = true) (h2:nodupB (mapF (fOf f) (keysOf (sigQ q))) = true) :
    Xs X n fi.fd F₀ (fun env=>execs B env) σ₀ n₀ fun φ F2 σ2 n2=>φ = .next∧Next X (fun F w=>F = frm∧w.σ = sgs s'∧w.nx = 27) F2 σ2 n2:=by
  refine Xs_mono (ro.xs fi nm _ _ _ _ hp) fun φ F2 σ2 n2 ⟨w,h,e1,e2⟩=>?_
  refine ⟨h,fun {J ρ L s} R=>?_⟩
  have R1:=R.renL (fOf f) (F':=frm) (nx':=27) (σ':=sigQ q) (by rfl) h1 h2 e1 e2 (fit.nls hn)
  exact ⟨_,frm,⟨[],sgs s',27⟩,R1.soft (frm_as frm) fit.ss,rfl,rfl,rfl⟩
/-- a path: the run of a body,from a state to a leaf -/
@[irreducible] noncomputable def PR (X:Cx) (T:Tab) (n:Nat) (fi:Fi) (F:Frame) (B:List Stmt) (w:W) (k:KS):Prop:=(run X T n).xs fi F B w k
theorem next_p {X:Cx} {T:Tab} {n:Nat} (ro:RunOk X T n) {fi:Fi} (nm:NmOk fi.fd fi.nm) {B:List Stmt} {F₀:Frame} {σ₀:Store} {n₀:Nat} {s':S} {o:List Hint} {f:List Nat} {q:QA} (hp:PR X T n fi F₀ B ⟨o,σ₀,n₀⟩ (leafQ f q))
    (fit:Fit q s') (hn:NLn s') (h1:okS 27 (sigQ q) = true) (h2:nodupB (mapF (fOf f) (keysOf (sigQ q))) = true) :
    Xs X n fi.fd F₀ (fun env=>execs B env) σ₀ n₀ fun φ F2 σ2 n2=>φ = .next∧Next X (fun F w=>F = frm∧w.σ = sgs s'∧w.nx = 27) F2 σ2 n2:=by
  unfold PR at hp
  exact next_of ro nm hp fit hn h1 h2
end Mine
namespace Mine
/-! what the law's digits give -/
noncomputable abbrev vT (s:S) (num:Int):Int:=if 0 < s.term + (num.fdiv (6 * len s.nl)).fmod 4 - 1 then s.term + (num.fdiv (6 * len s.nl)).fmod 4 - 1 else 0
noncomputable abbrev vB (s:S) (num:Int):Int:=len (List.map entA s.log) + (((num.fdiv (6 * len s.nl)).fdiv 4).fdiv 3).fmod 3 - 1
noncomputable abbrev vA (s:S) (num:Int) (e:Ent):Int:=e.term + ((num.fdiv (6 * len s.nl)).fdiv 4).fmod 3 - 1
structure Com (s:S) (num:Int) (who:Str) (e:Ent):Prop where
  a1:s.nl.length < 2 ^ 62
  a2:6 * len s.nl ≠ 0∧(6 * len s.nl).natAbs < 1073741824
  a3:len s.nl ≠ 0
  a4:s.nl.length < 2 ^ 62∧SoftO (ix s.nl ((num.fdiv 6).fmod (len s.nl))) (AV.ss who)
  l1:(List.map entA s.log).length < 2 ^ 62
  l2:(List.map entA s.log).length ≤ sizeLine
  l3:(List.map entA s.log).length < 2 ^ 62∧SoftO (ix (List.map entA s.log) (-1)) (ent e)
  l4:cut (List.map entA s.log) (some 0) none = List.map entA s.log∧∀ (x:AV),x ∈ cut (List.map entA s.log) (some 0) none → FlatOk x
  d1:List.map donA s.done = List.map donA s.done∧∀ (x:AV),x ∈ List.map donA s.done → FlatOk x
theorem leq (o:Option Str):(!decide (o = o)) = false:=by simp
theorem vLow {X:Cx} {P:Params} {s:S} {j num:Int} {who:Str} {e:Ent} (c:Com s num who e)  (h1:num.fmod 6 = 0)
    (h2:¬ (s.term < vT s num))
    (h3:(vT s num) < s.term)
    (h4:¬ (s.term ≤ vT s num)) :
    PR X (T P) 190 (lawFi P) (frmN j num) (turnB P) ⟨[.av (.ss who),.bit true,.av (ent e),.bit false,.bit true,.bit false,.bit false,.av (.bool true),.av (.bool true),.av (.bool true),.av (.bool true),.av (.bool true),.bit false],sgs s,27⟩ (leafQ [] (qOf s)):=
  kmp (by kernel_rfl) (And.intro c.a1 (And.intro c.a2 (And.intro c.a1 (And.intro c.a3 (And.intro c.a4 (And.intro (decide_eq_true h1) (And.intro c.l1 (And.intro c.l3 (And.intro (decide_eq_false h2) (And.intro (decide_eq_true h3) (And.intro (decide_eq_false h2) (And.intro (decide_eq_false h4) (And.intro c.l2 (And.intro c.l4 (And.intro c.d1 (And.intro (rfl:s.term = s.term) (And.intro (rfl:s.term = s.term) (And.intro (rfl:s.voted = s.voted) (And.intro (rfl:s.commit = s.commit) (And.intro (rfl:s.at1 = s.at1) (And.intro (leq s.leader) (fin_ok [] (qOf s)))))))))))))))))))))))
theorem vUpLt {X:Cx} {P:Params} {s:S} {j num:Int} {who:Str} {e:Ent} (c:Com s num who e)  (h1:num.fmod 6 = 0)
    (h2:s.term < vT s num)
    (h3:¬ ((vT s num) < vT s num))
    (h4:vA s num e < e.term ∨ vA s num e = e.term∧vB s num < len (List.map entA s.log))
    (h5:(vT s num) ≤ vT s num)
    (h6:vA s num e < e.term)
    (h7:(vT s num) = vT s num) :
    PR X (T P) 190 (lawFi P) (frmN j num) (turnB P) ⟨[.av (.ss who),.bit true,.av (ent e),.bit true,.bit false,.bit true,.bit true,.bit true,.av (ent e),.bit true,.av (.bool true),.av (.bool true),.av (.bool true),.av (.bool true),.av (.bool true),.bit true],sgs s,27⟩ (leafQ [] ({ qOf s with term:=.si (vT s num),jterm:=.si (vT s num),oterm:=.si (vT s num),leader:=.none,oleader:=.none,voted:=.none,jvoted:=.none,ovoted:=.none })):=
  kmp (by kernel_rfl) (And.intro c.a1 (And.intro c.a2 (And.intro c.a1 (And.intro c.a3 (And.intro c.a4 (And.intro (decide_eq_true h1) (And.intro c.l1 (And.intro c.l3 (And.intro (decide_eq_true h2) (And.intro (decide_eq_false h3) (And.intro (decide_eq_true h4) (And.intro (decide_eq_true h2) (And.intro (decide_eq_true h5) (And.intro c.l3 (And.intro (decide_eq_true h6) (And.intro c.l2 (And.intro c.l4 (And.intro c.d1 (And.intro h7 (And.intro h7 (And.intro (rfl:s.commit = s.commit) (And.intro (rfl:s.at1 = s.at1) (fin_ok [] ({ qOf s with term:=.si (vT s num),jterm:=.si (vT s num),oterm:=.si (vT s num),leader:=.none,oleader:=.none,voted:=.none,jvoted:=.none,ovoted:=.none }))))))))))))))))))))))))
theorem vUpEqLt {X:Cx} {P:Params} {s:S} {j num:Int} {who:Str} {e:Ent} (c:Com s num who e)  (h1:num.fmod 6 = 0)
    (h2:s.term < vT s num)
    (h3:¬ ((vT s num) < vT s num))
    (h4:vA s num e < e.term ∨ vA s num e = e.term∧vB s num < len (List.map entA s.log))
    (h5:(vT s num) ≤ vT s num)
    (h6:¬ (vA s num e < e.term))
    (h7:vA s num e = e.term)
    (h8:vB s num < e.idx)
    (h9:(vT s num) = vT s num) :
    PR X (T P) 190 (lawFi P) (frmN j num) (turnB P) ⟨[.av (.ss who),.bit true,.av (ent e),.bit true,.bit false,.bit true,.bit true,.bit true,.av (ent e),.bit false,.av (ent e),.bit true,.av (ent e),.bit true,.av (.bool true),.av (.bool true),.av (.bool true),.av (.bool true),.av (.bool true),.bit true],sgs s,27⟩ (leafQ [] ({ qOf s with term:=.si (vT s num),jterm:=.si (vT s num),oterm:=.si (vT s num),leader:=.none,oleader:=.none,voted:=.none,jvoted:=.none,ovoted:=.none })):=
  kmp (by kernel_rfl) (And.intro c.a1 (And.intro c.a2 (And.intro c.a1 (And.intro c.a3 (And.intro c.a4 (And.intro (decide_eq_true h1) (And.intro c.l1 (And.intro c.l3 (And.intro (decide_eq_true h2) (And.intro (decide_eq_false h3) (And.intro (decide_eq_true h4) (And.intro (decide_eq_true h2) (And.intro (decide_eq_true h5) (And.intro c.l3 (And.intro (decide_eq_false h6) (And.intro c.l3 (And.intro (decide_eq_true h7) (And.intro c.l3 (And.intro (decide_eq_true h8) (And.intro c.l2 (And.intro c.l4 (And.intro c.d1 (And.intro h9 (And.intro h9 (And.intro (rfl:s.commit = s.commit) (And.intro (rfl:s.at1 = s.at1) (fin_ok [] ({ qOf s with term:=.si (vT s num),jterm:=.si (vT s num),oterm:=.si (vT s num),leader:=.none,oleader:=.none,voted:=.none,jvoted:=.none,ovoted:=.none }))))))))))))))))))))))))))))
theorem vUpEqGe {X:Cx} {P:Params} {s:S} {j num:Int} {who:Str} {e:Ent} (c:Com s num who e)  (h1:num.fmod 6 = 0)
    (h2:s.term < vT s num)
    (h3:¬ ((vT s num) < vT s num))
    (h4:¬ (vA s num e < e.term ∨ vA s num e = e.term∧vB s num < len (List.map entA s.log)))
    (h5:(vT s num) ≤ vT s num)
    (h6:¬ (vA s num e < e.term))
    (h7:vA s num e = e.term)
    (h8:¬ (vB s num < e.idx))
    (h9:(vT s num) = vT s num) :
    PR X (T P) 190 (lawFi P) (frmN j num) (turnB P) ⟨[.av (.ss who),.bit true,.av (ent e),.bit true,.bit false,.bit false,.bit true,.bit true,.av (ent e),.bit false,.av (ent e),.bit true,.av (ent e),.bit false,.av (.bool true),.av (.bool true),.av (.bool true),.av (.bool true),.av (.bool true),.bit true],sgs s,27⟩ (leafQ [] ({ qOf s with term:=.si (vT s num),jterm:=.si (vT s num),oterm:=.si (vT s num),leader:=.none,oleader:=.none,voted:=.ss who,jvoted:=.ss who,ovoted:=.ss who,dead:=.si (s.now + 400),oreset:=.si s.now })):=
  kmp (by kernel_rfl) (And.intro c.a1 (And.intro c.a2 (And.intro c.a1 (And.intro c.a3 (And.intro c.a4 (And.intro (decide_eq_true h1) (And.intro c.l1 (And.intro c.l3 (And.intro (decide_eq_true h2) (And.intro (decide_eq_false h3) (And.intro (decide_eq_false h4) (And.intro (decide_eq_true h2) (And.intro (decide_eq_true h5) (And.intro c.l3 (And.intro (decide_eq_false h6) (And.intro c.l3 (And.intro (decide_eq_true h7) (And.intro c.l3 (And.intro (decide_eq_false h8) (And.intro (rfl:who = who) (And.intro h9 (And.intro c.l2 (And.intro c.l4 (And.intro c.d1 (And.intro h9 (And.intro h9 (And.intro (rfl:who = who) (And.intro (rfl:s.commit = s.commit) (And.intro (rfl:s.at1 = s.at1) (fin_ok [] ({ qOf s with term:=.si (vT s num),jterm:=.si (vT s num),oterm:=.si (vT s num),leader:=.none,oleader:=.none,voted:=.ss who,jvoted:=.ss who,ovoted:=.ss who,dead:=.si (s.now + 400),oreset:=.si s.now })))))))))))))))))))))))))))))))
theorem vUpGt {X:Cx} {P:Params} {s:S} {j num:Int} {who:Str} {e:Ent} (c:Com s num who e)  (h1:num.fmod 6 = 0)
    (h2:s.term < vT s num)
    (h3:¬ ((vT s num) < vT s num))
    (h4:¬ (vA s num e < e.term ∨ vA s num e = e.term∧vB s num < len (List.map entA s.log)))
    (h5:(vT s num) ≤ vT s num)
    (h6:¬ (vA s num e < e.term))
    (h7:¬ (vA s num e = e.term))
    (h8:(vT s num) = vT s num) :
    PR X (T P) 190 (lawFi P) (frmN j num) (turnB P) ⟨[.av (.ss who),.bit true,.av (ent e),.bit true,.bit false,.bit false,.bit true,.bit true,.av (ent e),.bit false,.av (ent e),.bit false,.av (.bool true),.av (.bool true),.av (.bool true),.av (.bool true),.av (.bool true),.bit true],sgs s,27⟩ (leafQ [] ({ qOf s with term:=.si (vT s num),jterm:=.si (vT s num),oterm:=.si (vT s num),leader:=.none,oleader:=.none,voted:=.ss who,jvoted:=.ss who,ovoted:=.ss who,dead:=.si (s.now + 400),oreset:=.si s.now })):=
  kmp (by kernel_rfl) (And.intro c.a1 (And.intro c.a2 (And.intro c.a1 (And.intro c.a3 (And.intro c.a4 (And.intro (decide_eq_true h1) (And.intro c.l1 (And.intro c.l3 (And.intro (decide_eq_true h2) (And.intro (decide_eq_false h3) (And.intro (decide_eq_false h4) (And.intro (decide_eq_true h2) (And.intro (decide_eq_true h5) (And.intro c.l3 (And.intro (decide_eq_false h6) (And.intro c.l3 (And.intro (decide_eq_false h7) (And.intro (rfl:who = who) (And.intro h8 (And.intro c.l2 (And.intro c.l4 (And.intro c.d1 (And.intro h8 (And.intro h8 (And.intro (rfl:who = who) (And.intro (rfl:s.commit = s.commit) (And.intro (rfl:s.at1 = s.at1) (fin_ok [] ({ qOf s with term:=.si (vT s num),jterm:=.si (vT s num),oterm:=.si (vT s num),leader:=.none,oleader:=.none,voted:=.ss who,jvoted:=.ss who,ovoted:=.ss who,dead:=.si (s.now + 400),oreset:=.si s.now })))))))))))))))))))))))))))))
theorem vEqNLt {X:Cx} {P:Params} {s:S} {j num:Int} {who:Str} {e:Ent} (c:Com s num who e)  (h1:num.fmod 6 = 0)
    (h2:¬ (s.term < vT s num))
    (h3:¬ ((vT s num) < s.term))
    (h4:(!s.voted.isNone) = false)
    (h5:vA s num e < e.term ∨ vA s num e = e.term∧vB s num < len (List.map entA s.log))
    (h6:s.term ≤ vT s num)
    (h7:vA s num e < e.term) :
    PR X (T P) 190 (lawFi P) (frmN j num) (turnB P) ⟨[.av (.ss who),.bit true,.av (ent e),.bit false,.bit false,.bit false,.bit true,.bit false,.bit true,.av (ent e),.bit true,.av (.bool true),.av (.bool true),.av (.bool true),.av (.bool true),.av (.bool true),.bit false],sgs s,27⟩ (leafQ [] (qOf s)):=
  kmp (by kernel_rfl) (And.intro c.a1 (And.intro c.a2 (And.intro c.a1 (And.intro c.a3 (And.intro c.a4 (And.intro (decide_eq_true h1) (And.intro c.l1 (And.intro c.l3 (And.intro (decide_eq_false h2) (And.intro (decide_eq_false h3) (And.intro h4 (And.intro (decide_eq_true h5) (And.intro (decide_eq_false h2) (And.intro (decide_eq_true h6) (And.intro c.l3 (And.intro (decide_eq_true h7) (And.intro c.l2 (And.intro c.l4 (And.intro c.d1 (And.intro (rfl:s.term = s.term) (And.intro (rfl:s.term = s.term) (And.intro (rfl:s.voted = s.voted) (And.intro (rfl:s.commit = s.commit) (And.intro (rfl:s.at1 = s.at1) (And.intro (leq s.leader) (fin_ok [] (qOf s)))))))))))))))))))))))))))
theorem vEqNEqLt {X:Cx} {P:Params} {s:S} {j num:Int} {who:Str} {e:Ent} (c:Com s num who e)  (h1:num.fmod 6 = 0)
    (h2:¬ (s.term < vT s num))
    (h3:¬ ((vT s num) < s.term))
    (h4:(!s.voted.isNone) = false)
    (h5:vA s num e < e.term ∨ vA s num e = e.term∧vB s num < len (List.map entA s.log))
    (h6:s.term ≤ vT s num)
    (h7:¬ (vA s num e < e.term))
    (h8:vA s num e = e.term)
    (h9:vB s num < e.idx) :
    PR X (T P) 190 (lawFi P) (frmN j num) (turnB P) ⟨[.av (.ss who),.bit true,.av (ent e),.bit false,.bit false,.bit false,.bit true,.bit false,.bit true,.av (ent e),.bit false,.av (ent e),.bit true,.av (ent e),.bit true,.av (.bool true),.av (.bool true),.av (.bool true),.av (.bool true),.av (.bool true),.bit false],sgs s,27⟩ (leafQ [] (qOf s)):=
  kmp (by kernel_rfl) (And.intro c.a1 (And.intro c.a2 (And.intro c.a1 (And.intro c.a3 (And.intro c.a4 (And.intro (decide_eq_true h1) (And.intro c.l1 (And.intro c.l3 (And.intro (decide_eq_false h2) (And.intro (decide_eq_false h3) (And.intro h4 (And.intro (decide_eq_true h5) (And.intro (decide_eq_false h2) (And.intro (decide_eq_true h6) (And.intro c.l3 (And.intro (decide_eq_false h7) (And.intro c.l3 (And.intro (decide_eq_true h8) (And.intro c.l3 (And.intro (decide_eq_true h9) (And.intro c.l2 (And.intro c.l4 (And.intro c.d1 (And.intro (rfl:s.term = s.term) (And.intro (rfl:s.term = s.term) (And.intro (rfl:s.voted = s.voted) (And.intro (rfl:s.commit = s.commit) (And.intro (rfl:s.at1 = s.at1) (And.intro (leq s.leader) (fin_ok [] (qOf s)))))))))))))))))))))))))))))))
theorem vEqNEqGe {X:Cx} {P:Params} {s:S} {j num:Int} {who:Str} {e:Ent} (c:Com s num who e)  (h1:num.fmod 6 = 0)
    (h2:¬ (s.term < vT s num))
    (h3:¬ ((vT s num) < s.term))
    (h4:(!s.voted.isNone) = false)
    (h5:¬ (vA s num e < e.term ∨ vA s num e = e.term∧vB s num < len (List.map entA s.log)))
    (h6:s.term ≤ vT s num)
    (h7:¬ (vA s num e < e.term))
    (h8:vA s num e = e.term)
    (h9:¬ (vB s num < e.idx))
    (h10:(vT s num) = vT s num) :
    PR X (T P) 190 (lawFi P) (frmN j num) (turnB P) ⟨[.av (.ss who),.bit true,.av (ent e),.bit false,.bit false,.bit false,.bit false,.bit false,.bit true,.av (ent e),.bit false,.av (ent e),.bit true,.av (ent e),.bit false,.bit false,.av (.bool true),.av (.bool true),.av (.bool true),.av (.bool true),.av (.bool true),.bit false],sgs s,27⟩ (leafQ [] ({ qOf s with voted:=.ss who,jvoted:=.ss who,ovoted:=.ss who,dead:=.si (s.now + 400),oreset:=.si s.now })):=
  kmp (by kernel_rfl) (And.intro c.a1 (And.intro c.a2 (And.intro c.a1 (And.intro c.a3 (And.intro c.a4 (And.intro (decide_eq_true h1) (And.intro c.l1 (And.intro c.l3 (And.intro (decide_eq_false h2) (And.intro (decide_eq_false h3) (And.intro h4 (And.intro (decide_eq_false h5) (And.intro (decide_eq_false h2) (And.intro (decide_eq_true h6) (And.intro c.l3 (And.intro (decide_eq_false h7) (And.intro c.l3 (And.intro (decide_eq_true h8) (And.intro c.l3 (And.intro (decide_eq_false h9) (And.intro h4 (And.intro (rfl:who = who) (And.intro h10 (And.intro c.l2 (And.intro c.l4 (And.intro c.d1 (And.intro (rfl:s.term = s.term) (And.intro (rfl:s.term = s.term) (And.intro (rfl:who = who) (And.intro (rfl:s.commit = s.commit) (And.intro (rfl:s.at1 = s.at1) (And.intro (leq s.leader) (fin_ok [] ({ qOf s with voted:=.ss who,jvoted:=.ss who,ovoted:=.ss who,dead:=.si (s.now + 400),oreset:=.si s.now }))))))))))))))))))))))))))))))))))
theorem vEqNGt {X:Cx} {P:Params} {s:S} {j num:Int} {who:Str} {e:Ent} (c:Com s num who e)  (h1:num.fmod 6 = 0)
    (h2:¬ (s.term < vT s num))
    (h3:¬ ((vT s num) < s.term))
    (h4:(!s.voted.isNone) = false)
    (h5:¬ (vA s num e < e.term ∨ vA s num e = e.term∧vB s num < len (List.map entA s.log)))
    (h6:s.term ≤ vT s num)
    (h7:¬ (vA s num e < e.term))
    (h8:¬ (vA s num e = e.term))
    (h9:(vT s num) = vT s num) :
    PR X (T P) 190 (lawFi P) (frmN j num) (turnB P) ⟨[.av (.ss who),.bit true,.av (ent e),.bit false,.bit false,.bit false,.bit false,.bit false,.bit true,.av (ent e),.bit false,.av (ent e),.bit false,.bit false,.av (.bool true),.av (.bool true),.av (.bool true),.av (.bool true),.av (.bool true),.bit false],sgs s,27⟩ (leafQ [] ({ qOf s with voted:=.ss who,jvoted:=.ss who,ovoted:=.ss who,dead:=.si (s.now + 400),oreset:=.si s.now })):=
  kmp (by kernel_rfl) (And.intro c.a1 (And.intro c.a2 (And.intro c.a1 (And.intro c.a3 (And.intro c.a4 (And.intro (decide_eq_true h1) (And.intro c.l1 (And.intro c.l3 (And.intro (decide_eq_false h2) (And.intro (decide_eq_false h3) (And.intro h4 (And.intro (decide_eq_false h5) (And.intro (decide_eq_false h2) (And.intro (decide_eq_true h6) (And.intro c.l3 (And.intro (decide_eq_false h7) (And.intro c.l3 (And.intro (decide_eq_false h8) (And.intro h4 (And.intro (rfl:who = who) (And.intro h9 (And.intro c.l2 (And.intro c.l4 (And.intro c.d1 (And.intro (rfl:s.term = s.term) (And.intro (rfl:s.term = s.term) (And.intro (rfl:who = who) (And.intro (rfl:s.commit = s.commit) (And.intro (rfl:s.at1 = s.at1) (And.intro (leq s.leader) (fin_ok [] ({ qOf s with voted:=.ss who,jvoted:=.ss who,ovoted:=.ss who,dead:=.si (s.now + 400),oreset:=.si s.now }))))))))))))))))))))))))))))))))
theorem vEqVLt {X:Cx} {P:Params} {s:S} {j num:Int} {who:Str} {e:Ent} (c:Com s num who e)  (h1:num.fmod 6 = 0)
    (h2:¬ (s.term < vT s num))
    (h3:¬ ((vT s num) < s.term))
    (h4:(!s.voted.isNone) = true)
    (h5:s.term ≤ vT s num)
    (h6:vA s num e < e.term) :
    PR X (T P) 190 (lawFi P) (frmN j num) (turnB P) ⟨[.av (.ss who),.bit true,.av (ent e),.bit false,.bit false,.bit true,.bit false,.bit true,.av (ent e),.bit true,.av (.bool true),.av (.bool true),.av (.bool true),.av (.bool true),.av (.bool true),.bit false],sgs s,27⟩ (leafQ [] (qOf s)):=
  kmp (by kernel_rfl) (And.intro c.a1 (And.intro c.a2 (And.intro c.a1 (And.intro c.a3 (And.intro c.a4 (And.intro (decide_eq_true h1) (And.intro c.l1 (And.intro c.l3 (And.intro (decide_eq_false h2) (And.intro (decide_eq_false h3) (And.intro h4 (And.intro (decide_eq_false h2) (And.intro (decide_eq_true h5) (And.intro c.l3 (And.intro (decide_eq_true h6) (And.intro c.l2 (And.intro c.l4 (And.intro c.d1 (And.intro (rfl:s.term = s.term) (And.intro (rfl:s.term = s.term) (And.intro (rfl:s.voted = s.voted) (And.intro (rfl:s.commit = s.commit) (And.intro (rfl:s.at1 = s.at1) (And.intro (leq s.leader) (fin_ok [] (qOf s))))))))))))))))))))))))))
theorem vEqVEqLt {X:Cx} {P:Params} {s:S} {j num:Int} {who:Str} {e:Ent} (c:Com s num who e)  (h1:num.fmod 6 = 0)
    (h2:¬ (s.term < vT s num))
    (h3:¬ ((vT s num) < s.term))
    (h4:(!s.voted.isNone) = true)
    (h5:s.term ≤ vT s num)
    (h6:¬ (vA s num e < e.term))
    (h7:vA s num e = e.term)
    (h8:vB s num < e.idx) :
    PR X (T P) 190 (lawFi P) (frmN j num) (turnB P) ⟨[.av (.ss who),.bit true,.av (ent e),.bit false,.bit false,.bit true,.bit false,.bit true,.av (ent e),.bit false,.av (ent e),.bit true,.av (ent e),.bit true,.av (.bool true),.av (.bool true),.av (.bool true),.av (.bool true),.av (.bool true),.bit false],sgs s,27⟩ (leafQ [] (qOf s)):=
  kmp (by kernel_rfl) (And.intro c.a1 (And.intro c.a2 (And.intro c.a1 (And.intro c.a3 (And.intro c.a4 (And.intro (decide_eq_true h1) (And.intro c.l1 (And.intro c.l3 (And.intro (decide_eq_false h2) (And.intro (decide_eq_false h3) (And.intro h4 (And.intro (decide_eq_false h2) (And.intro (decide_eq_true h5) (And.intro c.l3 (And.intro (decide_eq_false h6) (And.intro c.l3 (And.intro (decide_eq_true h7) (And.intro c.l3 (And.intro (decide_eq_true h8) (And.intro c.l2 (And.intro c.l4 (And.intro c.d1 (And.intro (rfl:s.term = s.term) (And.intro (rfl:s.term = s.term) (And.intro (rfl:s.voted = s.voted) (And.intro (rfl:s.commit = s.commit) (And.intro (rfl:s.at1 = s.at1) (And.intro (leq s.leader) (fin_ok [] (qOf s))))))))))))))))))))))))))))))
theorem vEqVEqGe {X:Cx} {P:Params} {s:S} {j num:Int} {who:Str} {e:Ent} (c:Com s num who e)  (h1:num.fmod 6 = 0)
    (h2:¬ (s.term < vT s num))
    (h3:¬ ((vT s num) < s.term))
    (h4:(!s.voted.isNone) = true)
    (h5:s.term ≤ vT s num)
    (h6:¬ (vA s num e < e.term))
    (h7:vA s num e = e.term)
    (h8:¬ (vB s num < e.idx)) :
    PR X (T P) 190 (lawFi P) (frmN j num) (turnB P) ⟨[.av (.ss who),.bit true,.av (ent e),.bit false,.bit false,.bit true,.bit false,.bit true,.av (ent e),.bit false,.av (ent e),.bit true,.av (ent e),.bit false,.bit true,.av (.bool true),.av (.bool true),.av (.bool true),.av (.bool true),.av (.bool true),.bit false],sgs s,27⟩ (leafQ [] (qOf s)):=
  kmp (by kernel_rfl) (And.intro c.a1 (And.intro c.a2 (And.intro c.a1 (And.intro c.a3 (And.intro c.a4 (And.intro (decide_eq_true h1) (And.intro c.l1 (And.intro c.l3 (And.intro (decide_eq_false h2) (And.intro (decide_eq_false h3) (And.intro h4 (And.intro (decide_eq_false h2) (And.intro (decide_eq_true h5) (And.intro c.l3 (And.intro (decide_eq_false h6) (And.intro c.l3 (And.intro (decide_eq_true h7) (And.intro c.l3 (And.intro (decide_eq_false h8) (And.intro h4 (And.intro c.l2 (And.intro c.l4 (And.intro c.d1 (And.intro (rfl:s.term = s.term) (And.intro (rfl:s.term = s.term) (And.intro (rfl:s.voted = s.voted) (And.intro (rfl:s.commit = s.commit) (And.intro (rfl:s.at1 = s.at1) (And.intro (leq s.leader) (fin_ok [] (qOf s)))))))))))))))))))))))))))))))
theorem vEqVGt {X:Cx} {P:Params} {s:S} {j num:Int} {who:Str} {e:Ent} (c:Com s num who e)  (h1:num.fmod 6 = 0)
    (h2:¬ (s.term < vT s num))
    (h3:¬ ((vT s num) < s.term))
    (h4:(!s.voted.isNone) = true)
    (h5:s.term ≤ vT s num)
    (h6:¬ (vA s num e < e.term))
    (h7:¬ (vA s num e = e.term)) :
    PR X (T P) 190 (lawFi P) (frmN j num) (turnB P) ⟨[.av (.ss who),.bit true,.av (ent e),.bit false,.bit false,.bit true,.bit false,.bit true,.av (ent e),.bit false,.av (ent e),.bit false,.bit true,.av (.bool true),.av (.bool true),.av (.bool true),.av (.bool true),.av (.bool true),.bit false],sgs s,27⟩ (leafQ [] (qOf s)):=
  kmp (by kernel_rfl) (And.intro c.a1 (And.intro c.a2 (And.intro c.a1 (And.intro c.a3 (And.intro c.a4 (And.intro (decide_eq_true h1) (And.intro c.l1 (And.intro c.l3 (And.intro (decide_eq_false h2) (And.intro (decide_eq_false h3) (And.intro h4 (And.intro (decide_eq_false h2) (And.intro (decide_eq_true h5) (And.intro c.l3 (And.intro (decide_eq_false h6) (And.intro c.l3 (And.intro (decide_eq_false h7) (And.intro h4 (And.intro c.l2 (And.intro c.l4 (And.intro c.d1 (And.intro (rfl:s.term = s.term) (And.intro (rfl:s.term = s.term) (And.intro (rfl:s.voted = s.voted) (And.intro (rfl:s.commit = s.commit) (And.intro (rfl:s.at1 = s.at1) (And.intro (leq s.leader) (fin_ok [] (qOf s)))))))))))))))))))))))))))))
end Mine
namespace Mine
/-! contracts of statements -/
noncomputable def fndS:Nat → Nat → List Stmt → Option Stmt
  | 0,_,_=>none
  | _ + 1,_,[]=>none
  | n + 1,l,s :: r=>match Nat.beq s.pos.line l with
    | true=>some s
    | false=>match (match s with
      | .If _ b o _=>match fndS n l b with
        | some x=>some x
        | none=>fndS n l o
      | .For _ _ b _ _=>fndS n l b
      | .While _ b _ _=>fndS n l b
      | .Try b _ _ _ _=>fndS n l b
      | _=>none) with
      | some x=>some x
      | none=>fndS n l r
noncomputable def stA (P:Params) (f l:Nat):Stmt:=match stmtsOf (fdAt (K P) f).body with
  | some b=>match fndS 200 l b with
    | some s=>s
    | none=>.Pass default
  | none=>.Pass default
noncomputable def fiA (P:Params) (f:Nat):Fi:=⟨fdAt (K P) f,match gt tFns f with | some n=>n | none=>[]⟩
theorem nmA (P:Params) {f:Nat} (h:(gt tFns f).isSome = true):NmOk (fdAt (K P) f) (fiA P f).nm:=by
  obtain ⟨nm,hnm⟩:=Option.isSome_iff_exists.mp h
  have e:(fiA P f).nm = nm:=by unfold fiA; simp only [hnm]
  exact e ▸ ((tab_ok P).1.fns _ _ hnm).nm
theorem ro {X:Cx} {P:Params} (ok:X.Ok (K P)) (n:Nat):RunOk X (T P) n:=run_ok ok (tab_ok P).1 (tab_ok P).2 n
noncomputable def landK (f:List Nat) (F':Frame) (σ':Store) (fl:Fl) (F:Frame) (w:W):Prop:=fl = .next∧gts F (keysOf F') = mpF (fOf f) F'∧gts w.σ (mapF (fOf f) (keysOf σ')) = mpS (fOf f) σ'
noncomputable abbrev lnd (f:List Nat) (F':Frame) (σ':Store):Prop:=Fl.next = Fl.next∧mpF (fOf f) F' = mpF (fOf f) F'∧mpS (fOf f) σ' = mpS (fOf f) σ'
theorem lnd_ok (f:List Nat) (F':Frame) (σ':Store):lnd f F' σ':=⟨rfl,rfl,rfl⟩
noncomputable def idB:Nat → (Nat → Nat) → Bool
  | 0,_=>true
  | n + 1,f=>match Nat.beq (f n) n with
    | true=>idB n f
    | false=>false
theorem idB_ok {f:Nat → Nat}:∀ {n:Nat},idB n f = true → ∀ m,m < n → f m = m
  | n + 1,h,m,hm=>by
    simp only [idB] at h
    split at h
    · rename_i q
      rcases Nat.lt_succ_iff_lt_or_eq.mp hm with z | rfl
      · exact idB_ok h m z
      · exact Nat.eq_of_beq_eq_true q
    · cases h
noncomputable def NLS (σ:Store):Prop:=∀ p ∈ σ,∀ l,p.2 = .slist l → ∀ a ∈ l,NL a
@[irreducible] noncomputable def XF (X:Cx) (P:Params) (n f:Nat) (s:Stmt) (F:Frame) (o:List Hint) (σ:Store) (nx:Nat) (k:KS):Prop:=xF X (T P) n (run X (T P) n) (fiA P f) s F ⟨o,σ,nx⟩ k
/-! parts of a store,of a frame -/
noncomputable abbrev sA (s:S) (r:Store):Store:=(2,givA (.loc 3) (.si s.now)) :: (3,.slist (s.done.map donA)) :: (4,.list []) :: (5,transO) :: (6,.list []) :: r
noncomputable abbrev sB (r:Store):Store:=(8,confO) :: (9,serO) :: (10,queO) :: (11,.list []) :: (12,.edict) :: r
noncomputable abbrev sC (s:S):Store:=[(16,.slist (s.done.map donA)),(17,.slist s.nl)]
noncomputable abbrev nodeB (s:S) (l a b c d e:AV):AObj:=nodeA l a b c (.si (s.now + 400)) d (.si s.at1) (.si s.lst) e (.sb s.orc) (.si s.st) (.si s.nd)
noncomputable abbrev ownB (s:S) (l:Nat) (t cm:Int) (v:Option Str) (who:Str):AObj:=ownA (.loc 16) (.loc l) (.si t) (.so v) (.si cm) (.si s.at1) (.so (some who)) (.si s.now) (.si s.now)
noncomputable abbrev fr3 (who:Str):Frame:=[(n_self,.loc 7),(n_node,.ss who),(n_message,.loc 29)]
noncomputable abbrev frE (c p a:Int) (who:Str) (r:Frame):Frame:=(n_self,.loc 7) :: (n_node,.ss who) :: (n_message,.loc 29) :: (n_newEntries,.loc 30) :: (n_serialized,.none) :: (n_leaderCommitIndex,.si c) :: (n_prevLogIdx,.si p) :: (n_prevLogTerm,.si a) :: (n_prevEntries,.loc 36) :: r
theorem kXF {X:Cx} {P:Params} {n f:Nat} {s:Stmt} {F F₁:Frame} {o:List Hint} {σ σ₁:Store} {nx:Nat} {g:List Nat} (C:Prop → Prop) (e:C (lnd g F₁ σ₁) = XF X P n f s F o σ nx (landK g F₁ σ₁)) (h:∀ k,k → C k):XF X P n f s F o σ nx (landK g F₁ σ₁):=e ▸ h _ (lnd_ok g F₁ σ₁)
/-- a statement,run: what it ends with,renamed and softened -/
theorem ctr {X:Cx} {P:Params} (ok:X.Ok (K P)) {n f:Nat} (hf:(gt tFns f).isSome = true) {s:Stmt} {F F₁ F':Frame} {σ σ₁ σ':Store} {nx nx':Nat} {o:List Hint} (g:List Nat)
    (h:XF X P n f s F o σ nx (landK g F₁ σ₁)) (hn:nx ≤ nx') (hi:idB nx (fOf g) = true) (h1:okF nx' F₁ = true) (h2:okS nx' σ₁ = true) (h3:nodupB (mapF (fOf g) (keysOf σ₁)) = true) (hs:NLS σ₁) (hF:As F₁ F') (hS:Ss σ₁ σ') :
    XsOk X (n + 1) (fdAt (K P) f) F s σ nx .next F' σ' nx':=by
  unfold XF at h
  refine xsMk fun p=>wpAny_mono (xF_ok ok (tab_ok P).1 (tab_ok P).2 (nmA P hf) ((ro ok n).ev _ (nmA P hf)) ((ro ok n).tr _ (nmA P hf)) ((ro ok n).xs _ (nmA P hf)) (ro ok n).cl h p) (fun fl s1 z=>?_) fun _ _ z=>z
  obtain ⟨φ,F2,J2,ρ2,σ2,n2,E2,R2,x2,o2,e0,e1,e2⟩:=z
  have R3:=(R2.renL (fOf g) (F':=F₁) (nx':=nx') (σ':=σ₁) h1 h2 h3 e1 e2 hs).soft hF hS
  subst e0
  cases fl <;> first | exact x2.elim | skip
  exact ⟨.next,F',J2,_,σ',nx',⟨E2.j,hn,fun m hm=>by rw [idB_ok hi m hm]; exact E2.r m hm⟩,R3,trivial,rfl,rfl,rfl,rfl⟩
theorem As.rfl':∀ F:Frame,As F F
  | []=>.nil
  | p :: F=>.cons AVle.refl (As.rfl' F)
theorem Ss.rfl':∀ σ:Store,Ss σ σ
  | []=>.nil
  | p :: σ=>.cons OLe.refl (Ss.rfl' σ)
end Mine
namespace Mine
theorem OLe.hard {l:List AV}:OLe (.slist l) (.list l):=fun x=>by cases x with | slist g gs=>exact .list g gs
theorem OLe.eq {a b:AObj} (h:a = b):OLe a b:=h ▸ OLe.refl
section
variable {X:Cx} {P:Params} {d d' n f:Nat} {fd:FuncData} {F F0 F1 F' F'':Frame} {s:Stmt} {σ σ0 σ1 σ' σ'':Store} {nx nx' n1:Nat} {fl:Fl}
theorem XsOk.pre (hF:As F F0) (hS:Ss σ σ0) (h:XsOk X d fd F0 s σ0 nx fl F' σ' nx'):XsOk X d fd F s σ nx fl F' σ' nx':=xsMk fun p=>xsGo h ⟨p.A,p.J,p.ρ,p.L,p.f,p.s,p.hh,p.hd,p.hu,p.R.soft hF hS⟩
theorem XsOk.up (h:XsOk X d fd F s σ nx fl F' σ' nx'):∀ k,XsOk X (d + k) fd F s σ nx fl F' σ' nx'
  | 0=>h
  | k + 1=>xsMk (Xs.less (xsGo (XsOk.up h k)))
theorem XsOk.land {g:List Nat} (h:XsOk X d fd F s σ nx .next F1 σ1 n1) (hn:nx ≤ nx') (hi:idB nx (fOf g) = true) (h1:okF nx' F0 = true) (h2:okS nx' σ0 = true) (h3:nodupB (mapF (fOf g) (keysOf σ0)) = true) (hs:NLS σ0)
    (e1:gts F1 (keysOf F0) = mpF (fOf g) F0) (e2:gts σ1 (mapF (fOf g) (keysOf σ0)) = mpS (fOf g) σ0) (hF:As F0 F') (hS:Ss σ0 σ'):XsOk X d fd F s σ nx .next F' σ' nx':=by
  refine xsMk fun p=>wpAny_mono (xsGo h p) (fun fl s1 z=>?_) fun _ _ z=>z
  obtain ⟨φ,F2,J2,ρ2,σ2,n2,E2,R2,x2,q1,q2,q3,q4⟩:=z
  subst q1 q2 q3 q4
  have R3:=(R2.renL (fOf g) (F':=F0) (nx':=nx') (σ':=σ0) h1 h2 h3 e1 e2 hs).soft hF hS
  cases fl <;> first | exact x2.elim | skip
  exact ⟨.next,F',J2,_,σ',nx',⟨E2.j,hn,fun m hm=>by rw [idB_ok hi m hm]; exact E2.r m hm⟩,R3,trivial,rfl,rfl,rfl,rfl⟩
/-! a loop over a list of any length -/
@[irreducible] noncomputable def XT (X:Cx) (P:Params) (n f:Nat) (t:PySem.Expr) (body:List Stmt) (v:AV) (F:Frame) (o:List Hint) (σ:Store) (nx:Nat) (k:KS):Prop:=sto (T P) (run X (T P) n) (fiA P f) t v F ⟨o,σ,nx⟩ fun F w=>onT 199 (Nat.ble w.nx nx) ((run X (T P) n).xs (fiA P f) F body w k)
@[irreducible] noncomputable def XE (X:Cx) (P:Params) (n f:Nat) (e:PySem.Expr) (F:Frame) (o:List Hint) (σ:Store) (nx:Nat) (k:KE):Prop:=(run X (T P) n).ev (fiA P f) F e ⟨o,σ,nx⟩ k
theorem kXT {t:PySem.Expr} {body:List Stmt} {v:AV} {o:List Hint} {g:List Nat} (C:Prop → Prop) (e:C (lnd g F1 σ1) = XT X P n f t body v F o σ nx (landK g F1 σ1)) (h:∀ k,k → C k):XT X P n f t body v F o σ nx (landK g F1 σ1):=e ▸ h _ (lnd_ok g F1 σ1)
noncomputable abbrev atP (F':Frame) (σ':Store) (nx:Nat):Frame → Store → Nat → Prop:=fun F σ n=>F = F'∧σ = σ'∧n = nx
theorem turnOf (ok:X.Ok (K P)) (hf:(gt tFns f).isSome = true) {t:PySem.Expr} {body:List Stmt} {v:AV} {o:List Hint} (g:List Nat)
    (h:XT X P n f t body v F o σ nx (landK g F1 σ1)) (hi:idB nx (fOf g) = true) (h1:okF nx F1 = true) (h2:okS nx σ1 = true) (h3:nodupB (mapF (fOf g) (keysOf σ1)) = true) (hs:NLS σ1) (hF:As F1 F') (hS:Ss σ1 σ') :
    ∀ o',Turn X (n + 1) (fdAt (K P) f) t body v F ⟨o',σ,nx⟩ (atP F' σ' nx):=by
  intro o'
  unfold XT at h
  have nm:=nmA P hf
  refine ⟨_,sto_ok (w:=⟨o,σ,nx⟩) ok (tab_ok P).1 nm ((ro ok n).ev _ nm) h,fun F2 w2 h2' p=>onT_e h2' fun hb h2'=>wpAny_mono ((ro ok n).xs _ nm _ _ _ _ h2' p.less) (fun fl s1 ⟨φ,F3,J2,ρ2,σ2,n2,E2,R2,x2,o2,e0,e1,e2⟩=>?_) fun _ _ z=>z⟩
  have R3:=(R2.renL (fOf g) (F':=F1) (nx':=nx) (σ':=σ1) h1 h2 h3 e1 e2 hs).soft hF hS
  subst e0
  have hb:=Nat.le_of_ble_eq_true hb
  rw [x2.next]
  exact ⟨.next,F',J2,_,σ',nx,⟨E2.j,hb,fun m hm=>by rw [idB_ok hi m (Nat.lt_of_lt_of_le hm hb)]; exact E2.r m hm⟩,R3,trivial,rfl,rfl,rfl,rfl⟩
theorem for_sym (ok:X.Ok (K P)) (hf:(gt tFns f).isSome = true) {t it:PySem.Expr} {body:List Stmt} {ps:Pos} {a:AV} {l:List AV} {o:List Hint} (Fr:Nat → Frame) (σs:Nat → Store)
    (hst:s = .For t it body [] ps) (ht:tgt1 t = true) (hs:∀ env x,foldedSetIterable it env x = pure x)
    (hev:XE X P n f it F o σ nx (fun b w=>b = a∧w.σ = σs 0∧w.nx = n1)) (hF:Fr 0 = F)
    (hl:∀ j,j ≤ l.length → ∃ z,asL (σs j) a = some (z,l))
    (turn:∀ j v,l[j]? = some v → ∀ o,Turn X (n + 1) (fdAt (K P) f) t body v (Fr j) ⟨o,σs j,n1⟩ (atP (Fr (j + 1)) (σs (j + 1)) n1)) :
    XsOk X (n + 1) (fdAt (K P) f) F s σ nx .next (Fr l.length) (σs l.length) n1:=by
  subst hst
  unfold XE at hev
  have nm:=nmA P hf
  refine xsMk fun p=>?_
  refine wpAny_For (an ((ro ok n).ev _ nm F _ _ _ hev p.less) fun v b J1 ρ1 σ1 n2 s1 R1 E1 x1 ⟨o1,e0,e1,e2⟩=>?_) (hs _)
  dsimp only at e1 e2
  subst e0 e1 e2
  refine wpAny_mono (for_list (fd:=fdAt (K P) f) (a:=b) (w:=⟨o1,σs 0,n2⟩) (F:=F) (body:=body) ht (fun m j F w=>m = l.length - j∧j ≤ l.length∧F = Fr j∧w.σ = σs j∧w.nx = n2) (fun φ F2 σ2 n3=>φ = .next∧F2 = Fr l.length∧σ2 = σs l.length∧n3 = n2) (fun m j F w ⟨em,hj,eF,e1,e2⟩=>?_) (p.to R1) x1 ⟨rfl,Nat.zero_le _,hF.symm,rfl,rfl⟩) (fun it s2 h2=>codeAny_mono h2 fun rr s' z=>loop_ext (fi:=fiA P f) (R1:=R1) p E1 z) fun _ _ z=>z
  obtain ⟨z,hz⟩:=hl j hj
  refine ⟨(z,l),e1 ▸ hz,?_⟩
  show onO l[j]? _ _
  cases ej:l[j]? with
  | none=>
    obtain rfl:j = l.length:=Nat.le_antisymm hj (List.getElem?_eq_none_iff.mp ej)
    exact ⟨rfl,eF,e1,e2⟩
  | some v=>
    have hlt:=(List.getElem?_eq_some_iff.mp ej).1
    obtain ⟨o2,σ2,n3⟩:=w
    dsimp only at e1 e2
    subst em eF e1 e2
    obtain ⟨H,h1,h2⟩:=turn j v ej o2
    exact ⟨l.length - (j + 1),by omega,H,h1,fun F' w' q p=>wpAny_mono (h2 F' w' q p) (fun fl s4 ⟨φ,F4,J4,ρ4,σ4,n4,E4,R4,x4,e,h4⟩=>⟨φ,F4,J4,ρ4,σ4,n4,E4,R4,x4,e,o2,rfl,hlt,h4⟩) fun _ _ z=>z⟩
end
end Mine
namespace Mine
noncomputable abbrev mn (x y:Int):Int:=if y < x then y else x
noncomputable abbrev mx (x y:Int):Int:=if x < y then y else x
noncomputable abbrev k1F0 (j t p a:Int) (who:Str):Frame:=[(n_own,.loc 14),(n_box,.loc 27),(n_who,.ss who),(n_count,.si j),(n_log,.loc 15),(n_term,.si t),(n_place,.si p),(n_ahead,.si a),(n_told,.si a),(n_entries,.loc 29)]
noncomputable abbrev k1F1 (j t p a:Int) (who:Str):Frame:=[(n_own,.loc 14),(n_box,.loc 27),(n_who,.ss who),(n_count,.si j),(n_log,.loc 15),(n_term,.si t),(n_place,.si p),(n_ahead,.si a),(n_entries,.loc 29)]
noncomputable abbrev k1S (s:S) (l:AObj) (b:Int):Store:=((29,l) :: (28,.list []) :: (27,.list [.si b]) :: (0,jourA (.loc 1) (.si s.term) (.so s.voted)) :: (1,.slist (s.log.map entA)) :: sA s ((7,nodeA (.loc 13) (.si s.term) (.so s.voted) (.so s.leader) (.si (s.reset + 400)) (.si s.commit) (.si s.at1) (.si s.lst) (.io s.lc) (.sb s.orc) (.si s.st) (.si s.nd)) :: sB ((13,.edict) :: (14,ownA (.loc 16) (.loc 15) (.si s.term) (.so s.voted) (.si s.commit) (.si s.at1) (.so s.leader) (.si s.now) (.si s.reset)) :: (15,.slist (s.log.map entA)) :: sC s)))
theorem okb_ent (n:Nat) (e:Ent):AV.okb n (entA e) = true:=by
  unfold entA
  cases e.cmd <;> rfl
theorem okbs_ent (n:Nat):∀ l:List Ent,AV.okbs n (l.map entA) = true
  | []=>rfl
  | e :: l=>by
    show cond (AV.okb n (entA e)) (AV.okbs n (l.map entA)) false = true
    rw [okb_ent,okbs_ent n l]; rfl
theorem Ls.rfl':∀ l:List AV,Ls l l
  | []=>.nil
  | a :: l=>.cons AVle.refl (Ls.rfl' l)
theorem NLS.nil:NLS []:=fun p h=>by cases h
theorem NLS.cons {n:Nat} {o:AObj} {σ:Store} (h:∀ l,o = .slist l → ∀ a ∈ l,NL a) (hs:NLS σ):NLS ((n,o) :: σ):=fun p hp=>by
  rcases List.mem_cons.mp hp with rfl | hp
  · exact h
  · exact hs p hp
theorem NLS.no {n:Nat} {o:AObj} {σ:Store} (h:∀ l,o ≠ .slist l) (hs:NLS σ):NLS ((n,o) :: σ):=.cons (fun l e=>absurd e (h l)) hs
theorem NLS.log {n:Nat} {l:List Ent} {σ:Store} (hs:NLS σ):NLS ((n,.slist (l.map entA)) :: σ):=.cons (fun m e=>by cases e; exact NL_logs l) hs
theorem NLS.don {n:Nat} {l:List Int} {σ:Store} (hs:NLS σ):NLS ((n,.slist (l.map donA)) :: σ):=.cons (fun m e=>by cases e; exact NL_dons l) hs
theorem NLS.nm {n:Nat} {s:S} {σ:Store} (h:NLn s) (hs:NLS σ):NLS ((n,.slist s.nl) :: σ):=.cons (fun m e=>by cases e; exact h.nl) hs
theorem nls_k1 {s:S} (hn:NLn s) {l:List AV} {b:Int}:NLS (k1S s (.list l) b):=by repeat (first | exact NLS.nil | refine NLS.log ?_ | refine NLS.don ?_ | refine NLS.nm hn ?_ | refine NLS.no (fun l e=>by cases e) ?_)
theorem k1_0 {X:Cx} {P:Params} {s:S} {j t p a b:Int} {who:Str} (h0:b.fmod 4 = 0) :
    XF X P 182 1102 (stA P 1102 1064) (k1F0 j t p a who) [.av (.int 0)] (k1S s (.list []) b) 30 (landK [] (k1F1 j t p a who) (k1S s (.list []) (b.fdiv 4))):=
  kXF (fun k=>b.fmod 4 = 0∧k) (by kernel_rfl) fun _ z=>(And.intro h0 z)
theorem k1_11 {X:Cx} {P:Params} {s:S} {j t p a b:Int} {who:Str} (h0:b.fmod 4 = 1) (h1:0 < ((b.fdiv 4).fdiv 2).fmod 3) :
    XF X P 182 1102 (stA P 1102 1064) (k1F0 j t p a who) [.av (.int 1),.bit true] (k1S s (.list []) b) 30 (landK [] (k1F1 j t p a who) (k1S s (.list [entA ⟨some (100 * j + 0),p + 1 + 0,(mn (a + (b.fdiv 4).fmod 2) (mx t a))⟩]) (((b.fdiv 4).fdiv 2).fdiv 3))):=
  kXF (fun k=>b.fmod 4 = 1∧decide (0 < ((b.fdiv 4).fdiv 2).fmod 3) = true∧k) (by kernel_rfl) fun _ z=>(And.intro h0 (And.intro (decide_eq_true h1) z))
theorem k1_10 {X:Cx} {P:Params} {s:S} {j t p a b:Int} {who:Str} (h0:b.fmod 4 = 1) (h1:¬ (0 < ((b.fdiv 4).fdiv 2).fmod 3)) :
    XF X P 182 1102 (stA P 1102 1064) (k1F0 j t p a who) [.av (.int 1),.bit false] (k1S s (.list []) b) 30 (landK [] (k1F1 j t p a who) (k1S s (.list [entA ⟨none,p + 1 + 0,(mn (a + (b.fdiv 4).fmod 2) (mx t a))⟩]) (((b.fdiv 4).fdiv 2).fdiv 3))):=
  kXF (fun k=>b.fmod 4 = 1∧decide (0 < ((b.fdiv 4).fdiv 2).fmod 3) = false∧k) (by kernel_rfl) fun _ z=>(And.intro h0 (And.intro (decide_eq_false h1) z))
theorem k1_211 {X:Cx} {P:Params} {s:S} {j t p a b:Int} {who:Str} (h0:b.fmod 4 = 2) (h1:0 < ((b.fdiv 4).fdiv 2).fmod 3) (h2:0 < ((((b.fdiv 4).fdiv 2).fdiv 3).fdiv 2).fmod 3) :
    XF X P 182 1102 (stA P 1102 1064) (k1F0 j t p a who) [.av (.int 2),.bit true,.bit true] (k1S s (.list []) b) 30 (landK [] (k1F1 j t p a who) (k1S s (.list [entA ⟨some (100 * j + 0),p + 1 + 0,(mn (a + (b.fdiv 4).fmod 2) (mx t a))⟩,entA ⟨some (100 * j + 1),p + 1 + 1,(mn ((mn (a + (b.fdiv 4).fmod 2) (mx t a)) + (((b.fdiv 4).fdiv 2).fdiv 3).fmod 2) (mx t a))⟩]) (((((b.fdiv 4).fdiv 2).fdiv 3).fdiv 2).fdiv 3))):=
  kXF (fun k=>b.fmod 4 = 2∧decide (0 < ((b.fdiv 4).fdiv 2).fmod 3) = true∧decide (0 < ((((b.fdiv 4).fdiv 2).fdiv 3).fdiv 2).fmod 3) = true∧k) (by kernel_rfl) fun _ z=>(And.intro h0 (And.intro (decide_eq_true h1) (And.intro (decide_eq_true h2) z)))
theorem k1_210 {X:Cx} {P:Params} {s:S} {j t p a b:Int} {who:Str} (h0:b.fmod 4 = 2) (h1:0 < ((b.fdiv 4).fdiv 2).fmod 3) (h2:¬ (0 < ((((b.fdiv 4).fdiv 2).fdiv 3).fdiv 2).fmod 3)) :
    XF X P 182 1102 (stA P 1102 1064) (k1F0 j t p a who) [.av (.int 2),.bit true,.bit false] (k1S s (.list []) b) 30 (landK [] (k1F1 j t p a who) (k1S s (.list [entA ⟨some (100 * j + 0),p + 1 + 0,(mn (a + (b.fdiv 4).fmod 2) (mx t a))⟩,entA ⟨none,p + 1 + 1,(mn ((mn (a + (b.fdiv 4).fmod 2) (mx t a)) + (((b.fdiv 4).fdiv 2).fdiv 3).fmod 2) (mx t a))⟩]) (((((b.fdiv 4).fdiv 2).fdiv 3).fdiv 2).fdiv 3))):=
  kXF (fun k=>b.fmod 4 = 2∧decide (0 < ((b.fdiv 4).fdiv 2).fmod 3) = true∧decide (0 < ((((b.fdiv 4).fdiv 2).fdiv 3).fdiv 2).fmod 3) = false∧k) (by kernel_rfl) fun _ z=>(And.intro h0 (And.intro (decide_eq_true h1) (And.intro (decide_eq_false h2) z)))
theorem k1_201 {X:Cx} {P:Params} {s:S} {j t p a b:Int} {who:Str} (h0:b.fmod 4 = 2) (h1:¬ (0 < ((b.fdiv 4).fdiv 2).fmod 3)) (h2:0 < ((((b.fdiv 4).fdiv 2).fdiv 3).fdiv 2).fmod 3) :
    XF X P 182 1102 (stA P 1102 1064) (k1F0 j t p a who) [.av (.int 2),.bit false,.bit true] (k1S s (.list []) b) 30 (landK [] (k1F1 j t p a who) (k1S s (.list [entA ⟨none,p + 1 + 0,(mn (a + (b.fdiv 4).fmod 2) (mx t a))⟩,entA ⟨some (100 * j + 1),p + 1 + 1,(mn ((mn (a + (b.fdiv 4).fmod 2) (mx t a)) + (((b.fdiv 4).fdiv 2).fdiv 3).fmod 2) (mx t a))⟩]) (((((b.fdiv 4).fdiv 2).fdiv 3).fdiv 2).fdiv 3))):=
  kXF (fun k=>b.fmod 4 = 2∧decide (0 < ((b.fdiv 4).fdiv 2).fmod 3) = false∧decide (0 < ((((b.fdiv 4).fdiv 2).fdiv 3).fdiv 2).fmod 3) = true∧k) (by kernel_rfl) fun _ z=>(And.intro h0 (And.intro (decide_eq_false h1) (And.intro (decide_eq_true h2) z)))
theorem k1_200 {X:Cx} {P:Params} {s:S} {j t p a b:Int} {who:Str} (h0:b.fmod 4 = 2) (h1:¬ (0 < ((b.fdiv 4).fdiv 2).fmod 3)) (h2:¬ (0 < ((((b.fdiv 4).fdiv 2).fdiv 3).fdiv 2).fmod 3)) :
    XF X P 182 1102 (stA P 1102 1064) (k1F0 j t p a who) [.av (.int 2),.bit false,.bit false] (k1S s (.list []) b) 30 (landK [] (k1F1 j t p a who) (k1S s (.list [entA ⟨none,p + 1 + 0,(mn (a + (b.fdiv 4).fmod 2) (mx t a))⟩,entA ⟨none,p + 1 + 1,(mn ((mn (a + (b.fdiv 4).fmod 2) (mx t a)) + (((b.fdiv 4).fdiv 2).fdiv 3).fmod 2) (mx t a))⟩]) (((((b.fdiv 4).fdiv 2).fdiv 3).fdiv 2).fdiv 3))):=
  kXF (fun k=>b.fmod 4 = 2∧decide (0 < ((b.fdiv 4).fdiv 2).fmod 3) = false∧decide (0 < ((((b.fdiv 4).fdiv 2).fdiv 3).fdiv 2).fmod 3) = false∧k) (by kernel_rfl) fun _ z=>(And.intro h0 (And.intro (decide_eq_false h1) (And.intro (decide_eq_false h2) z)))
theorem k1_3111 {X:Cx} {P:Params} {s:S} {j t p a b:Int} {who:Str} (h0:b.fmod 4 = 3) (h1:0 < ((b.fdiv 4).fdiv 2).fmod 3) (h2:0 < ((((b.fdiv 4).fdiv 2).fdiv 3).fdiv 2).fmod 3) (h3:0 < ((((((b.fdiv 4).fdiv 2).fdiv 3).fdiv 2).fdiv 3).fdiv 2).fmod 3) :
    XF X P 182 1102 (stA P 1102 1064) (k1F0 j t p a who) [.av (.int 3),.bit true,.bit true,.bit true] (k1S s (.list []) b) 30 (landK [] (k1F1 j t p a who) (k1S s (.list [entA ⟨some (100 * j + 0),p + 1 + 0,(mn (a + (b.fdiv 4).fmod 2) (mx t a))⟩,entA ⟨some (100 * j + 1),p + 1 + 1,(mn ((mn (a + (b.fdiv 4).fmod 2) (mx t a)) + (((b.fdiv 4).fdiv 2).fdiv 3).fmod 2) (mx t a))⟩,entA ⟨some (100 * j + 2),p + 1 + 2,(mn ((mn ((mn (a + (b.fdiv 4).fmod 2) (mx t a)) + (((b.fdiv 4).fdiv 2).fdiv 3).fmod 2) (mx t a)) + (((((b.fdiv 4).fdiv 2).fdiv 3).fdiv 2).fdiv 3).fmod 2) (mx t a))⟩]) (((((((b.fdiv 4).fdiv 2).fdiv 3).fdiv 2).fdiv 3).fdiv 2).fdiv 3))):=
  kXF (fun k=>b.fmod 4 = 3∧decide (0 < ((b.fdiv 4).fdiv 2).fmod 3) = true∧decide (0 < ((((b.fdiv 4).fdiv 2).fdiv 3).fdiv 2).fmod 3) = true∧decide (0 < ((((((b.fdiv 4).fdiv 2).fdiv 3).fdiv 2).fdiv 3).fdiv 2).fmod 3) = true∧k) (by kernel_rfl) fun _ z=>(And.intro h0 (And.intro (decide_eq_true h1) (And.intro (decide_eq_true h2) (And.intro (decide_eq_true h3) z))))
theorem k1_3110 {X:Cx} {P:Params} {s:S} {j t p a b:Int} {who:Str} (h0:b.fmod 4 = 3) (h1:0 < ((b.fdiv 4).fdiv 2).fmod 3) (h2:0 < ((((b.fdiv 4).fdiv 2).fdiv 3).fdiv 2).fmod 3) (h3:¬ (0 < ((((((b.fdiv 4).fdiv 2).fdiv 3).fdiv 2).fdiv 3).fdiv 2).fmod 3)) :
    XF X P 182 1102 (stA P 1102 1064) (k1F0 j t p a who) [.av (.int 3),.bit true,.bit true,.bit false] (k1S s (.list []) b) 30 (landK [] (k1F1 j t p a who) (k1S s (.list [entA ⟨some (100 * j + 0),p + 1 + 0,(mn (a + (b.fdiv 4).fmod 2) (mx t a))⟩,entA ⟨some (100 * j + 1),p + 1 + 1,(mn ((mn (a + (b.fdiv 4).fmod 2) (mx t a)) + (((b.fdiv 4).fdiv 2).fdiv 3).fmod 2) (mx t a))⟩,entA ⟨none,p + 1 + 2,(mn ((mn ((mn (a + (b.fdiv 4).fmod 2) (mx t a)) + (((b.fdiv 4).fdiv 2).fdiv 3).fmod 2) (mx t a)) + (((((b.fdiv 4).fdiv 2).fdiv 3).fdiv 2).fdiv 3).fmod 2) (mx t a))⟩]) (((((((b.fdiv 4).fdiv 2).fdiv 3).fdiv 2).fdiv 3).fdiv 2).fdiv 3))):=
  kXF (fun k=>b.fmod 4 = 3∧decide (0 < ((b.fdiv 4).fdiv 2).fmod 3) = true∧decide (0 < ((((b.fdiv 4).fdiv 2).fdiv 3).fdiv 2).fmod 3) = true∧decide (0 < ((((((b.fdiv 4).fdiv 2).fdiv 3).fdiv 2).fdiv 3).fdiv 2).fmod 3) = false∧k) (by kernel_rfl) fun _ z=>(And.intro h0 (And.intro (decide_eq_true h1) (And.intro (decide_eq_true h2) (And.intro (decide_eq_false h3) z))))
theorem k1_3101 {X:Cx} {P:Params} {s:S} {j t p a b:Int} {who:Str} (h0:b.fmod 4 = 3) (h1:0 < ((b.fdiv 4).fdiv 2).fmod 3) (h2:¬ (0 < ((((b.fdiv 4).fdiv 2).fdiv 3).fdiv 2).fmod 3)) (h3:0 < ((((((b.fdiv 4).fdiv 2).fdiv 3).fdiv 2).fdiv 3).fdiv 2).fmod 3) :
    XF X P 182 1102 (stA P 1102 1064) (k1F0 j t p a who) [.av (.int 3),.bit true,.bit false,.bit true] (k1S s (.list []) b) 30 (landK [] (k1F1 j t p a who) (k1S s (.list [entA ⟨some (100 * j + 0),p + 1 + 0,(mn (a + (b.fdiv 4).fmod 2) (mx t a))⟩,entA ⟨none,p + 1 + 1,(mn ((mn (a + (b.fdiv 4).fmod 2) (mx t a)) + (((b.fdiv 4).fdiv 2).fdiv 3).fmod 2) (mx t a))⟩,entA ⟨some (100 * j + 2),p + 1 + 2,(mn ((mn ((mn (a + (b.fdiv 4).fmod 2) (mx t a)) + (((b.fdiv 4).fdiv 2).fdiv 3).fmod 2) (mx t a)) + (((((b.fdiv 4).fdiv 2).fdiv 3).fdiv 2).fdiv 3).fmod 2) (mx t a))⟩]) (((((((b.fdiv 4).fdiv 2).fdiv 3).fdiv 2).fdiv 3).fdiv 2).fdiv 3))):=
  kXF (fun k=>b.fmod 4 = 3∧decide (0 < ((b.fdiv 4).fdiv 2).fmod 3) = true∧decide (0 < ((((b.fdiv 4).fdiv 2).fdiv 3).fdiv 2).fmod 3) = false∧decide (0 < ((((((b.fdiv 4).fdiv 2).fdiv 3).fdiv 2).fdiv 3).fdiv 2).fmod 3) = true∧k) (by kernel_rfl) fun _ z=>(And.intro h0 (And.intro (decide_eq_true h1) (And.intro (decide_eq_false h2) (And.intro (decide_eq_true h3) z))))
theorem k1_3100 {X:Cx} {P:Params} {s:S} {j t p a b:Int} {who:Str} (h0:b.fmod 4 = 3) (h1:0 < ((b.fdiv 4).fdiv 2).fmod 3) (h2:¬ (0 < ((((b.fdiv 4).fdiv 2).fdiv 3).fdiv 2).fmod 3)) (h3:¬ (0 < ((((((b.fdiv 4).fdiv 2).fdiv 3).fdiv 2).fdiv 3).fdiv 2).fmod 3)) :
    XF X P 182 1102 (stA P 1102 1064) (k1F0 j t p a who) [.av (.int 3),.bit true,.bit false,.bit false] (k1S s (.list []) b) 30 (landK [] (k1F1 j t p a who) (k1S s (.list [entA ⟨some (100 * j + 0),p + 1 + 0,(mn (a + (b.fdiv 4).fmod 2) (mx t a))⟩,entA ⟨none,p + 1 + 1,(mn ((mn (a + (b.fdiv 4).fmod 2) (mx t a)) + (((b.fdiv 4).fdiv 2).fdiv 3).fmod 2) (mx t a))⟩,entA ⟨none,p + 1 + 2,(mn ((mn ((mn (a + (b.fdiv 4).fmod 2) (mx t a)) + (((b.fdiv 4).fdiv 2).fdiv 3).fmod 2) (mx t a)) + (((((b.fdiv 4).fdiv 2).fdiv 3).fdiv 2).fdiv 3).fmod 2) (mx t a))⟩]) (((((((b.fdiv 4).fdiv 2).fdiv 3).fdiv 2).fdiv 3).fdiv 2).fdiv 3))):=
  kXF (fun k=>b.fmod 4 = 3∧decide (0 < ((b.fdiv 4).fdiv 2).fmod 3) = true∧decide (0 < ((((b.fdiv 4).fdiv 2).fdiv 3).fdiv 2).fmod 3) = false∧decide (0 < ((((((b.fdiv 4).fdiv 2).fdiv 3).fdiv 2).fdiv 3).fdiv 2).fmod 3) = false∧k) (by kernel_rfl) fun _ z=>(And.intro h0 (And.intro (decide_eq_true h1) (And.intro (decide_eq_false h2) (And.intro (decide_eq_false h3) z))))
theorem k1_3011 {X:Cx} {P:Params} {s:S} {j t p a b:Int} {who:Str} (h0:b.fmod 4 = 3) (h1:¬ (0 < ((b.fdiv 4).fdiv 2).fmod 3)) (h2:0 < ((((b.fdiv 4).fdiv 2).fdiv 3).fdiv 2).fmod 3) (h3:0 < ((((((b.fdiv 4).fdiv 2).fdiv 3).fdiv 2).fdiv 3).fdiv 2).fmod 3) :
    XF X P 182 1102 (stA P 1102 1064) (k1F0 j t p a who) [.av (.int 3),.bit false,.bit true,.bit true] (k1S s (.list []) b) 30 (landK [] (k1F1 j t p a who) (k1S s (.list [entA ⟨none,p + 1 + 0,(mn (a + (b.fdiv 4).fmod 2) (mx t a))⟩,entA ⟨some (100 * j + 1),p + 1 + 1,(mn ((mn (a + (b.fdiv 4).fmod 2) (mx t a)) + (((b.fdiv 4).fdiv 2).fdiv 3).fmod 2) (mx t a))⟩,entA ⟨some (100 * j + 2),p + 1 + 2,(mn ((mn ((mn (a + (b.fdiv 4).fmod 2) (mx t a)) + (((b.fdiv 4).fdiv 2).fdiv 3).fmod 2) (mx t a)) + (((((b.fdiv 4).fdiv 2).fdiv 3).fdiv 2).fdiv 3).fmod 2) (mx t a))⟩]) (((((((b.fdiv 4).fdiv 2).fdiv 3).fdiv 2).fdiv 3).fdiv 2).fdiv 3))):=
  kXF (fun k=>b.fmod 4 = 3∧decide (0 < ((b.fdiv 4).fdiv 2).fmod 3) = false∧decide (0 < ((((b.fdiv 4).fdiv 2).fdiv 3).fdiv 2).fmod 3) = true∧decide (0 < ((((((b.fdiv 4).fdiv 2).fdiv 3).fdiv 2).fdiv 3).fdiv 2).fmod 3) = true∧k) (by kernel_rfl) fun _ z=>(And.intro h0 (And.intro (decide_eq_false h1) (And.intro (decide_eq_true h2) (And.intro (decide_eq_true h3) z))))
theorem k1_3010 {X:Cx} {P:Params} {s:S} {j t p a b:Int} {who:Str} (h0:b.fmod 4 = 3) (h1:¬ (0 < ((b.fdiv 4).fdiv 2).fmod 3)) (h2:0 < ((((b.fdiv 4).fdiv 2).fdiv 3).fdiv 2).fmod 3) (h3:¬ (0 < ((((((b.fdiv 4).fdiv 2).fdiv 3).fdiv 2).fdiv 3).fdiv 2).fmod 3)) :
    XF X P 182 1102 (stA P 1102 1064) (k1F0 j t p a who) [.av (.int 3),.bit false,.bit true,.bit false] (k1S s (.list []) b) 30 (landK [] (k1F1 j t p a who) (k1S s (.list [entA ⟨none,p + 1 + 0,(mn (a + (b.fdiv 4).fmod 2) (mx t a))⟩,entA ⟨some (100 * j + 1),p + 1 + 1,(mn ((mn (a + (b.fdiv 4).fmod 2) (mx t a)) + (((b.fdiv 4).fdiv 2).fdiv 3).fmod 2) (mx t a))⟩,entA ⟨none,p + 1 + 2,(mn ((mn ((mn (a + (b.fdiv 4).fmod 2) (mx t a)) + (((b.fdiv 4).fdiv 2).fdiv 3).fmod 2) (mx t a)) + (((((b.fdiv 4).fdiv 2).fdiv 3).fdiv 2).fdiv 3).fmod 2) (mx t a))⟩]) (((((((b.fdiv 4).fdiv 2).fdiv 3).fdiv 2).fdiv 3).fdiv 2).fdiv 3))):=
  kXF (fun k=>b.fmod 4 = 3∧decide (0 < ((b.fdiv 4).fdiv 2).fmod 3) = false∧decide (0 < ((((b.fdiv 4).fdiv 2).fdiv 3).fdiv 2).fmod 3) = true∧decide (0 < ((((((b.fdiv 4).fdiv 2).fdiv 3).fdiv 2).fdiv 3).fdiv 2).fmod 3) = false∧k) (by kernel_rfl) fun _ z=>(And.intro h0 (And.intro (decide_eq_false h1) (And.intro (decide_eq_true h2) (And.intro (decide_eq_false h3) z))))
theorem k1_3001 {X:Cx} {P:Params} {s:S} {j t p a b:Int} {who:Str} (h0:b.fmod 4 = 3) (h1:¬ (0 < ((b.fdiv 4).fdiv 2).fmod 3)) (h2:¬ (0 < ((((b.fdiv 4).fdiv 2).fdiv 3).fdiv 2).fmod 3)) (h3:0 < ((((((b.fdiv 4).fdiv 2).fdiv 3).fdiv 2).fdiv 3).fdiv 2).fmod 3) :
    XF X P 182 1102 (stA P 1102 1064) (k1F0 j t p a who) [.av (.int 3),.bit false,.bit false,.bit true] (k1S s (.list []) b) 30 (landK [] (k1F1 j t p a who) (k1S s (.list [entA ⟨none,p + 1 + 0,(mn (a + (b.fdiv 4).fmod 2) (mx t a))⟩,entA ⟨none,p + 1 + 1,(mn ((mn (a + (b.fdiv 4).fmod 2) (mx t a)) + (((b.fdiv 4).fdiv 2).fdiv 3).fmod 2) (mx t a))⟩,entA ⟨some (100 * j + 2),p + 1 + 2,(mn ((mn ((mn (a + (b.fdiv 4).fmod 2) (mx t a)) + (((b.fdiv 4).fdiv 2).fdiv 3).fmod 2) (mx t a)) + (((((b.fdiv 4).fdiv 2).fdiv 3).fdiv 2).fdiv 3).fmod 2) (mx t a))⟩]) (((((((b.fdiv 4).fdiv 2).fdiv 3).fdiv 2).fdiv 3).fdiv 2).fdiv 3))):=
  kXF (fun k=>b.fmod 4 = 3∧decide (0 < ((b.fdiv 4).fdiv 2).fmod 3) = false∧decide (0 < ((((b.fdiv 4).fdiv 2).fdiv 3).fdiv 2).fmod 3) = false∧decide (0 < ((((((b.fdiv 4).fdiv 2).fdiv 3).fdiv 2).fdiv 3).fdiv 2).fmod 3) = true∧k) (by kernel_rfl) fun _ z=>(And.intro h0 (And.intro (decide_eq_false h1) (And.intro (decide_eq_false h2) (And.intro (decide_eq_true h3) z))))
theorem k1_3000 {X:Cx} {P:Params} {s:S} {j t p a b:Int} {who:Str} (h0:b.fmod 4 = 3) (h1:¬ (0 < ((b.fdiv 4).fdiv 2).fmod 3)) (h2:¬ (0 < ((((b.fdiv 4).fdiv 2).fdiv 3).fdiv 2).fmod 3)) (h3:¬ (0 < ((((((b.fdiv 4).fdiv 2).fdiv 3).fdiv 2).fdiv 3).fdiv 2).fmod 3)) :
    XF X P 182 1102 (stA P 1102 1064) (k1F0 j t p a who) [.av (.int 3),.bit false,.bit false,.bit false] (k1S s (.list []) b) 30 (landK [] (k1F1 j t p a who) (k1S s (.list [entA ⟨none,p + 1 + 0,(mn (a + (b.fdiv 4).fmod 2) (mx t a))⟩,entA ⟨none,p + 1 + 1,(mn ((mn (a + (b.fdiv 4).fmod 2) (mx t a)) + (((b.fdiv 4).fdiv 2).fdiv 3).fmod 2) (mx t a))⟩,entA ⟨none,p + 1 + 2,(mn ((mn ((mn (a + (b.fdiv 4).fmod 2) (mx t a)) + (((b.fdiv 4).fdiv 2).fdiv 3).fmod 2) (mx t a)) + (((((b.fdiv 4).fdiv 2).fdiv 3).fdiv 2).fdiv 3).fmod 2) (mx t a))⟩]) (((((((b.fdiv 4).fdiv 2).fdiv 3).fdiv 2).fdiv 3).fdiv 2).fdiv 3))):=
  kXF (fun k=>b.fmod 4 = 3∧decide (0 < ((b.fdiv 4).fdiv 2).fmod 3) = false∧decide (0 < ((((b.fdiv 4).fdiv 2).fdiv 3).fdiv 2).fmod 3) = false∧decide (0 < ((((((b.fdiv 4).fdiv 2).fdiv 3).fdiv 2).fdiv 3).fdiv 2).fmod 3) = false∧k) (by kernel_rfl) fun _ z=>(And.intro h0 (And.intro (decide_eq_false h1) (And.intro (decide_eq_false h2) (And.intro (decide_eq_false h3) z))))
theorem mn_le (x y:Int):mn x y ≤ y:=by show (if y < x then y else x) ≤ y; split <;> omega
theorem k1_of {X:Cx} {P:Params} (ok:X.Ok (K P)) {s:S} (hn:NLn s) {j t p a b b':Int} {who:Str} {o:List Hint} {es:List Ent} (hl:es.length ≤ 3) (hi:∀ (k:Nat) (e:Ent),es[k]? = some e → e.idx = p + 1 + k) (hm:∀ e ∈ es,e.term ≤ mx t a)
    (h:XF X P 182 1102 (stA P 1102 1064) (k1F0 j t p a who) o (k1S s (.list []) b) 30 (landK [] (k1F1 j t p a who) (k1S s (.list (es.map entA)) b'))) :
    ∃ (es:List Ent) (b':Int),es.length ≤ 3∧(∀ (k:Nat) (e:Ent),es[k]? = some e → e.idx = p + 1 + k)∧(∀ e ∈ es,e.term ≤ mx t a)∧XsOk X 183 (fdAt (K P) 1102) (k1F0 j t p a who) (stA P 1102 1064) (k1S s (.list []) b) 30 .next (k1F1 j t p a who) (k1S s (.slist (es.map entA)) b') 30:=by
  refine ⟨es,b',hl,hi,hm,ctr ok (by kernel_rfl) [] h (Nat.le_refl _) (by kernel_rfl) (by kernel_rfl) ?_ (by kernel_rfl) ?_ (As.rfl' _) (.cons (OLe.slist ?_) (Ss.rfl' _))⟩
  · unfold k1S
    have e:AV.okbs 30 (es.map entA) = true:=okbs_ent _ _
    simp only [okS,AObj.okb,e]
    kernel_rfl
  · exact nls_k1 hn
  · exact Ls.rfl' _
theorem K1 {X:Cx} {P:Params} (ok:X.Ok (K P)) {s:S} (hn:NLn s) (j t p a b:Int) (who:Str) :
    ∃ (es:List Ent) (b':Int),es.length ≤ 3∧(∀ (k:Nat) (e:Ent),es[k]? = some e → e.idx = p + 1 + k)∧(∀ e ∈ es,e.term ≤ mx t a)∧XsOk X 183 (fdAt (K P) 1102) (k1F0 j t p a who) (stA P 1102 1064) (k1S s (.list []) b) 30 .next (k1F1 j t p a who) (k1S s (.slist (es.map entA)) b') 30:=by
  have z1:=Int.fmod_nonneg_of_pos b (b:=4) (by decide)
  have z2:=Int.fmod_lt_of_pos b (b:=4) (by decide)
  have z:b.fmod 4 = 0 ∨ b.fmod 4 = 1 ∨ b.fmod 4 = 2 ∨ b.fmod 4 = 3:=by omega
  rcases z with h0 | h0 | h0 | h0
  · exact k1_of ok hn (es:=[]) (by simp) (by intro k e he; match k with
      | k + 0=>simp at he) (by intro e he; cases he) (k1_0 h0)
  · by_cases h1:0 < ((b.fdiv 4).fdiv 2).fmod 3
    · exact k1_of ok hn (es:=[⟨some (100 * j + 0),p + 1 + 0,(mn (a + (b.fdiv 4).fmod 2) (mx t a))⟩]) (by simp) (by intro k e he; match k with
        | 0=>cases he; simp
        | k + 1=>simp at he) (by intro e he; simp only [List.mem_cons,List.not_mem_nil,or_false] at he; rcases he with rfl; exact mn_le _ _) (k1_11 h0 h1)
    · exact k1_of ok hn (es:=[⟨none,p + 1 + 0,(mn (a + (b.fdiv 4).fmod 2) (mx t a))⟩]) (by simp) (by intro k e he; match k with
        | 0=>cases he; simp
        | k + 1=>simp at he) (by intro e he; simp only [List.mem_cons,List.not_mem_nil,or_false] at he; rcases he with rfl; exact mn_le _ _) (k1_10 h0 h1)
  · by_cases h1:0 < ((b.fdiv 4).fdiv 2).fmod 3
    · by_cases h2:0 < ((((b.fdiv 4).fdiv 2).fdiv 3).fdiv 2).fmod 3
      · exact k1_of ok hn (es:=[⟨some (100 * j + 0),p + 1 + 0,(mn (a + (b.fdiv 4).fmod 2) (mx t a))⟩,⟨some (100 * j + 1),p + 1 + 1,(mn ((mn (a + (b.fdiv 4).fmod 2) (mx t a)) + (((b.fdiv 4).fdiv 2).fdiv 3).fmod 2) (mx t a))⟩]) (by simp) (by intro k e he; match k with
          | 0=>cases he; simp
          | 1=>cases he; simp
          | k + 2=>simp at he) (by intro e he; simp only [List.mem_cons,List.not_mem_nil,or_false] at he; rcases he with rfl | rfl <;> exact mn_le _ _) (k1_211 h0 h1 h2)
      · exact k1_of ok hn (es:=[⟨some (100 * j + 0),p + 1 + 0,(mn (a + (b.fdiv 4).fmod 2) (mx t a))⟩,⟨none,p + 1 + 1,(mn ((mn (a + (b.fdiv 4).fmod 2) (mx t a)) + (((b.fdiv 4).fdiv 2).fdiv 3).fmod 2) (mx t a))⟩]) (by simp) (by intro k e he; match k with
          | 0=>cases he; simp
          | 1=>cases he; simp
          | k + 2=>simp at he) (by intro e he; simp only [List.mem_cons,List.not_mem_nil,or_false] at he; rcases he with rfl | rfl <;> exact mn_le _ _) (k1_210 h0 h1 h2)
    · by_cases h2:0 < ((((b.fdiv 4).fdiv 2).fdiv 3).fdiv 2).fmod 3
      · exact k1_of ok hn (es:=[⟨none,p + 1 + 0,(mn (a + (b.fdiv 4).fmod 2) (mx t a))⟩,⟨some (100 * j + 1),p + 1 + 1,(mn ((mn (a + (b.fdiv 4).fmod 2) (mx t a)) + (((b.fdiv 4).fdiv 2).fdiv 3).fmod 2) (mx t a))⟩]) (by simp) (by intro k e he; match k with
          | 0=>cases he; simp
          | 1=>cases he; simp
          | k + 2=>simp at he) (by intro e he; simp only [List.mem_cons,List.not_mem_nil,or_false] at he; rcases he with rfl | rfl <;> exact mn_le _ _) (k1_201 h0 h1 h2)
      · exact k1_of ok hn (es:=[⟨none,p + 1 + 0,(mn (a + (b.fdiv 4).fmod 2) (mx t a))⟩,⟨none,p + 1 + 1,(mn ((mn (a + (b.fdiv 4).fmod 2) (mx t a)) + (((b.fdiv 4).fdiv 2).fdiv 3).fmod 2) (mx t a))⟩]) (by simp) (by intro k e he; match k with
          | 0=>cases he; simp
          | 1=>cases he; simp
          | k + 2=>simp at he) (by intro e he; simp only [List.mem_cons,List.not_mem_nil,or_false] at he; rcases he with rfl | rfl <;> exact mn_le _ _) (k1_200 h0 h1 h2)
  · by_cases h1:0 < ((b.fdiv 4).fdiv 2).fmod 3
    · by_cases h2:0 < ((((b.fdiv 4).fdiv 2).fdiv 3).fdiv 2).fmod 3
      · by_cases h3:0 < ((((((b.fdiv 4).fdiv 2).fdiv 3).fdiv 2).fdiv 3).fdiv 2).fmod 3
        · exact k1_of ok hn (es:=[⟨some (100 * j + 0),p + 1 + 0,(mn (a + (b.fdiv 4).fmod 2) (mx t a))⟩,⟨some (100 * j + 1),p + 1 + 1,(mn ((mn (a + (b.fdiv 4).fmod 2) (mx t a)) + (((b.fdiv 4).fdiv 2).fdiv 3).fmod 2) (mx t a))⟩,⟨some (100 * j + 2),p + 1 + 2,(mn ((mn ((mn (a + (b.fdiv 4).fmod 2) (mx t a)) + (((b.fdiv 4).fdiv 2).fdiv 3).fmod 2) (mx t a)) + (((((b.fdiv 4).fdiv 2).fdiv 3).fdiv 2).fdiv 3).fmod 2) (mx t a))⟩]) (by simp) (by intro k e he; match k with
            | 0=>cases he; simp
            | 1=>cases he; simp
            | 2=>cases he; simp
            | k + 3=>simp at he) (by intro e he; simp only [List.mem_cons,List.not_mem_nil,or_false] at he; rcases he with rfl | rfl | rfl <;> exact mn_le _ _) (k1_3111 h0 h1 h2 h3)
        · exact k1_of ok hn (es:=[⟨some (100 * j + 0),p + 1 + 0,(mn (a + (b.fdiv 4).fmod 2) (mx t a))⟩,⟨some (100 * j + 1),p + 1 + 1,(mn ((mn (a + (b.fdiv 4).fmod 2) (mx t a)) + (((b.fdiv 4).fdiv 2).fdiv 3).fmod 2) (mx t a))⟩,⟨none,p + 1 + 2,(mn ((mn ((mn (a + (b.fdiv 4).fmod 2) (mx t a)) + (((b.fdiv 4).fdiv 2).fdiv 3).fmod 2) (mx t a)) + (((((b.fdiv 4).fdiv 2).fdiv 3).fdiv 2).fdiv 3).fmod 2) (mx t a))⟩]) (by simp) (by intro k e he; match k with
            | 0=>cases he; simp
            | 1=>cases he; simp
            | 2=>cases he; simp
            | k + 3=>simp at he) (by intro e he; simp only [List.mem_cons,List.not_mem_nil,or_false] at he; rcases he with rfl | rfl | rfl <;> exact mn_le _ _) (k1_3110 h0 h1 h2 h3)
      · by_cases h3:0 < ((((((b.fdiv 4).fdiv 2).fdiv 3).fdiv 2).fdiv 3).fdiv 2).fmod 3
        · exact k1_of ok hn (es:=[⟨some (100 * j + 0),p + 1 + 0,(mn (a + (b.fdiv 4).fmod 2) (mx t a))⟩,⟨none,p + 1 + 1,(mn ((mn (a + (b.fdiv 4).fmod 2) (mx t a)) + (((b.fdiv 4).fdiv 2).fdiv 3).fmod 2) (mx t a))⟩,⟨some (100 * j + 2),p + 1 + 2,(mn ((mn ((mn (a + (b.fdiv 4).fmod 2) (mx t a)) + (((b.fdiv 4).fdiv 2).fdiv 3).fmod 2) (mx t a)) + (((((b.fdiv 4).fdiv 2).fdiv 3).fdiv 2).fdiv 3).fmod 2) (mx t a))⟩]) (by simp) (by intro k e he; match k with
            | 0=>cases he; simp
            | 1=>cases he; simp
            | 2=>cases he; simp
            | k + 3=>simp at he) (by intro e he; simp only [List.mem_cons,List.not_mem_nil,or_false] at he; rcases he with rfl | rfl | rfl <;> exact mn_le _ _) (k1_3101 h0 h1 h2 h3)
        · exact k1_of ok hn (es:=[⟨some (100 * j + 0),p + 1 + 0,(mn (a + (b.fdiv 4).fmod 2) (mx t a))⟩,⟨none,p + 1 + 1,(mn ((mn (a + (b.fdiv 4).fmod 2) (mx t a)) + (((b.fdiv 4).fdiv 2).fdiv 3).fmod 2) (mx t a))⟩,⟨none,p + 1 + 2,(mn ((mn ((mn (a + (b.fdiv 4).fmod 2) (mx t a)) + (((b.fdiv 4).fdiv 2).fdiv 3).fmod 2) (mx t a)) + (((((b.fdiv 4).fdiv 2).fdiv 3).fdiv 2).fdiv 3).fmod 2) (mx t a))⟩]) (by simp) (by intro k e he; match k with
            | 0=>cases he; simp
            | 1=>cases he; simp
            | 2=>cases he; simp
            | k + 3=>simp at he) (by intro e he; simp only [List.mem_cons,List.not_mem_nil,or_false] at he; rcases he with rfl | rfl | rfl <;> exact mn_le _ _) (k1_3100 h0 h1 h2 h3)
    · by_cases h2:0 < ((((b.fdiv 4).fdiv 2).fdiv 3).fdiv 2).fmod 3
      · by_cases h3:0 < ((((((b.fdiv 4).fdiv 2).fdiv 3).fdiv 2).fdiv 3).fdiv 2).fmod 3
        · exact k1_of ok hn (es:=[⟨none,p + 1 + 0,(mn (a + (b.fdiv 4).fmod 2) (mx t a))⟩,⟨some (100 * j + 1),p + 1 + 1,(mn ((mn (a + (b.fdiv 4).fmod 2) (mx t a)) + (((b.fdiv 4).fdiv 2).fdiv 3).fmod 2) (mx t a))⟩,⟨some (100 * j + 2),p + 1 + 2,(mn ((mn ((mn (a + (b.fdiv 4).fmod 2) (mx t a)) + (((b.fdiv 4).fdiv 2).fdiv 3).fmod 2) (mx t a)) + (((((b.fdiv 4).fdiv 2).fdiv 3).fdiv 2).fdiv 3).fmod 2) (mx t a))⟩]) (by simp) (by intro k e he; match k with
            | 0=>cases he; simp
            | 1=>cases he; simp
            | 2=>cases he; simp
            | k + 3=>simp at he) (by intro e he; simp only [List.mem_cons,List.not_mem_nil,or_false] at he; rcases he with rfl | rfl | rfl <;> exact mn_le _ _) (k1_3011 h0 h1 h2 h3)
        · exact k1_of ok hn (es:=[⟨none,p + 1 + 0,(mn (a + (b.fdiv 4).fmod 2) (mx t a))⟩,⟨some (100 * j + 1),p + 1 + 1,(mn ((mn (a + (b.fdiv 4).fmod 2) (mx t a)) + (((b.fdiv 4).fdiv 2).fdiv 3).fmod 2) (mx t a))⟩,⟨none,p + 1 + 2,(mn ((mn ((mn (a + (b.fdiv 4).fmod 2) (mx t a)) + (((b.fdiv 4).fdiv 2).fdiv 3).fmod 2) (mx t a)) + (((((b.fdiv 4).fdiv 2).fdiv 3).fdiv 2).fdiv 3).fmod 2) (mx t a))⟩]) (by simp) (by intro k e he; match k with
            | 0=>cases he; simp
            | 1=>cases he; simp
            | 2=>cases he; simp
            | k + 3=>simp at he) (by intro e he; simp only [List.mem_cons,List.not_mem_nil,or_false] at he; rcases he with rfl | rfl | rfl <;> exact mn_le _ _) (k1_3010 h0 h1 h2 h3)
      · by_cases h3:0 < ((((((b.fdiv 4).fdiv 2).fdiv 3).fdiv 2).fdiv 3).fdiv 2).fmod 3
        · exact k1_of ok hn (es:=[⟨none,p + 1 + 0,(mn (a + (b.fdiv 4).fmod 2) (mx t a))⟩,⟨none,p + 1 + 1,(mn ((mn (a + (b.fdiv 4).fmod 2) (mx t a)) + (((b.fdiv 4).fdiv 2).fdiv 3).fmod 2) (mx t a))⟩,⟨some (100 * j + 2),p + 1 + 2,(mn ((mn ((mn (a + (b.fdiv 4).fmod 2) (mx t a)) + (((b.fdiv 4).fdiv 2).fdiv 3).fmod 2) (mx t a)) + (((((b.fdiv 4).fdiv 2).fdiv 3).fdiv 2).fdiv 3).fmod 2) (mx t a))⟩]) (by simp) (by intro k e he; match k with
            | 0=>cases he; simp
            | 1=>cases he; simp
            | 2=>cases he; simp
            | k + 3=>simp at he) (by intro e he; simp only [List.mem_cons,List.not_mem_nil,or_false] at he; rcases he with rfl | rfl | rfl <;> exact mn_le _ _) (k1_3001 h0 h1 h2 h3)
        · exact k1_of ok hn (es:=[⟨none,p + 1 + 0,(mn (a + (b.fdiv 4).fmod 2) (mx t a))⟩,⟨none,p + 1 + 1,(mn ((mn (a + (b.fdiv 4).fmod 2) (mx t a)) + (((b.fdiv 4).fdiv 2).fdiv 3).fmod 2) (mx t a))⟩,⟨none,p + 1 + 2,(mn ((mn ((mn (a + (b.fdiv 4).fmod 2) (mx t a)) + (((b.fdiv 4).fdiv 2).fdiv 3).fmod 2) (mx t a)) + (((((b.fdiv 4).fdiv 2).fdiv 3).fdiv 2).fdiv 3).fmod 2) (mx t a))⟩]) (by simp) (by intro k e he; match k with
            | 0=>cases he; simp
            | 1=>cases he; simp
            | 2=>cases he; simp
            | k + 3=>simp at he) (by intro e he; simp only [List.mem_cons,List.not_mem_nil,or_false] at he; rcases he with rfl | rfl | rfl <;> exact mn_le _ _) (k1_3000 h0 h1 h2 h3)
end Mine
namespace Mine
structure Lg (s:S):Prop where
  l1:(List.map entA s.log).length < 2 ^ 62
  l2:(List.map entA s.log).length ≤ sizeLine
noncomputable abbrev eC (s:S) (b:Int):Int:=b.fmod (len (s.log.map entA) + 4)
noncomputable abbrev eD (s:S) (b:Int):Int:=b.fdiv (len (s.log.map entA) + 4)
noncomputable abbrev msgA (s:S) (t p a b:Int):AObj:=.dict [(s_type,.str s_append_entries),(s_term,.si t),(s_commit_index,.si (eC s b)),(s_entries,.loc 30),(s_prevLogIdx,.si p),(s_prevLogTerm,.si a)]
noncomputable abbrev ansA (x r u:AV):AObj:=.dict [(s_type,.str s_next_node_idx),(s_next_node_idx,x),(s_reset,r),(s_success,u)]
noncomputable abbrev xT (s:S) (bx:Int):Int:=if 0 < s.term + bx.fmod 3 - 1 then s.term + bx.fmod 3 - 1 else 0
noncomputable abbrev xP (s:S) (bx:Int):Int:=1 + (bx.fdiv 3).fmod (len (s.log.map entA) + 2)
noncomputable abbrev xB2 (s:S) (bx:Int):Int:=(bx.fdiv 3).fdiv (len (s.log.map entA) + 2)
noncomputable abbrev xA (s:S) (bx z:Int):Int:=z + (if decide ((xB2 s bx).fmod 4 = 3) = true then 1 else 0)
noncomputable abbrev xCut (s:S) (p:Int) (es:List Ent):List AV:=cut (s.log.map entA) none (some p) ++ es.map entA
noncomputable abbrev xCm (s:S) (b:Int) (l:List AV):Int:=if (if len l < s.commit then len l else s.commit) < (if len l < eC s b then len l else eC s b) then (if len l < eC s b then len l else eC s b) else (if len l < s.commit then len l else s.commit)
noncomputable abbrev kaF0 (j num kd:Int) (who:Str):Frame:=(n_count,.si j) :: (n_number,.si num) :: (frm ++ [(n_due,.loc 28),(n_box,.loc 27),(n_who,.ss who),(n_kind,.si kd)])
noncomputable abbrev kaF1 (j num kd:Int) (who:Str):Frame:=(n_count,.si j) :: (n_number,.si num) :: (frm ++ [(n_due,.loc 31),(n_who,.ss who),(n_kind,.si kd),(n_message,.loc 29)])
noncomputable abbrev kaS0 (s:S) (bx:Int):Store:=((28,.list []) :: (27,.list [.si bx]) :: (0,jourA (.loc 1) (.si s.term) (.so s.voted)) :: (1,.slist (s.log.map entA)) :: sA s ((7,nodeA (.loc 13) (.si s.term) (.so s.voted) (.so s.leader) (.si (s.reset + 400)) (.si s.commit) (.si s.at1) (.si s.lst) (.io s.lc) (.sb s.orc) (.si s.st) (.si s.nd)) :: sB ((13,.edict) :: (14,ownA (.loc 16) (.loc 15) (.si s.term) (.so s.voted) (.si s.commit) (.si s.at1) (.so s.leader) (.si s.now) (.si s.reset)) :: (15,.slist (s.log.map entA)) :: sC s)))
noncomputable abbrev kaS1 (s:S) (t p a b:Int) (es:List Ent) (who:Str) (oc ov ol:AV) (lg:List AV) (x r u:AV):Store:=((33,.slist lg) :: (32,ansA x r u) :: (31,.list [.tup [.ss who,.loc 32]]) :: (30,.slist (es.map entA)) :: (29,msgA s t p a b) :: (0,jourA (.loc 1) (.si s.term) (.so s.voted)) :: (1,.slist (s.log.map entA)) :: sA s ((7,nodeA (.loc 13) (.si s.term) (.so s.voted) (.so s.leader) (.si (s.reset + 400)) (.si s.commit) (.si s.at1) (.si s.lst) (.io s.lc) (.sb s.orc) (.si s.st) (.si s.nd)) :: sB ((13,.edict) :: (14,ownA (.loc 16) (.loc 33) (.si t) ov oc (.si s.at1) ol (.si s.now) (.si s.now)) :: sC s)))
theorem k2a {X:Cx} {P:Params} {s:S} {j t p a b:Int} {who:Str} {es:List Ent}  (h1:s.term < t) :
    XF X P 182 1102 (stA P 1102 1071) [(n_own,.loc 14),(n_box,.loc 27),(n_who,.ss who),(n_count,.si j),(n_log,.loc 15),(n_term,.si t),(n_place,.si p),(n_ahead,.si a),(n_entries,.loc 29),(n_commit,.si (eC s b)),(n_message,.loc 31)] [.bit true] ((31,msgA s t p a b) :: (30,.slist (es.map entA)) :: (29,.slist (es.map entA)) :: (28,.list []) :: (27,.list [.si (eD s b)]) :: (0,jourA (.loc 1) (.si s.term) (.so s.voted)) :: (1,.slist (s.log.map entA)) :: sA s ((7,nodeA (.loc 13) (.si s.term) (.so s.voted) (.so s.leader) (.si (s.reset + 400)) (.si s.commit) (.si s.at1) (.si s.lst) (.io s.lc) (.sb s.orc) (.si s.st) (.si s.nd)) :: sB ((13,.edict) :: (14,ownA (.loc 16) (.loc 15) (.si s.term) (.so s.voted) (.si s.commit) (.si s.at1) (.so s.leader) (.si s.now) (.si s.reset)) :: (15,.slist (s.log.map entA)) :: sC s))) 32 (landK [] [(n_own,.loc 14),(n_box,.loc 27),(n_who,.ss who),(n_count,.si j),(n_log,.loc 15),(n_term,.si t),(n_place,.si p),(n_ahead,.si a),(n_entries,.loc 29),(n_commit,.si (eC s b)),(n_message,.loc 31)] ((31,msgA s t p a b) :: (30,.slist (es.map entA)) :: (29,.slist (es.map entA)) :: (28,.list []) :: (27,.list [.si (eD s b)]) :: (0,jourA (.loc 1) (.si s.term) (.so s.voted)) :: (1,.slist (s.log.map entA)) :: sA s ((7,nodeA (.loc 13) (.si s.term) (.so s.voted) (.so s.leader) (.si (s.reset + 400)) (.si s.commit) (.si s.at1) (.si s.lst) (.io s.lc) (.sb s.orc) (.si s.st) (.si s.nd)) :: sB ((13,.edict) :: (14,ownA (.loc 16) (.loc 15) (.si t) (.none) (.si s.commit) (.si s.at1) (.so s.leader) (.si s.now) (.si s.reset)) :: (15,.slist (s.log.map entA)) :: sC s)))):=
  kXF (fun k=>(decide (s.term < t) = true)∧k) (by kernel_rfl) fun _ z=>(And.intro (decide_eq_true h1) z)
theorem k2b {X:Cx} {P:Params} {s:S} {j t p a b:Int} {who:Str} {es:List Ent}  (h1:¬ (s.term < t)) :
    XF X P 182 1102 (stA P 1102 1071) [(n_own,.loc 14),(n_box,.loc 27),(n_who,.ss who),(n_count,.si j),(n_log,.loc 15),(n_term,.si t),(n_place,.si p),(n_ahead,.si a),(n_entries,.loc 29),(n_commit,.si (eC s b)),(n_message,.loc 31)] [.bit false] ((31,msgA s t p a b) :: (30,.slist (es.map entA)) :: (29,.slist (es.map entA)) :: (28,.list []) :: (27,.list [.si (eD s b)]) :: (0,jourA (.loc 1) (.si s.term) (.so s.voted)) :: (1,.slist (s.log.map entA)) :: sA s ((7,nodeA (.loc 13) (.si s.term) (.so s.voted) (.so s.leader) (.si (s.reset + 400)) (.si s.commit) (.si s.at1) (.si s.lst) (.io s.lc) (.sb s.orc) (.si s.st) (.si s.nd)) :: sB ((13,.edict) :: (14,ownA (.loc 16) (.loc 15) (.si s.term) (.so s.voted) (.si s.commit) (.si s.at1) (.so s.leader) (.si s.now) (.si s.reset)) :: (15,.slist (s.log.map entA)) :: sC s))) 32 (landK [] [(n_own,.loc 14),(n_box,.loc 27),(n_who,.ss who),(n_count,.si j),(n_log,.loc 15),(n_term,.si t),(n_place,.si p),(n_ahead,.si a),(n_entries,.loc 29),(n_commit,.si (eC s b)),(n_message,.loc 31)] ((31,msgA s t p a b) :: (30,.slist (es.map entA)) :: (29,.slist (es.map entA)) :: (28,.list []) :: (27,.list [.si (eD s b)]) :: (0,jourA (.loc 1) (.si s.term) (.so s.voted)) :: (1,.slist (s.log.map entA)) :: sA s ((7,nodeA (.loc 13) (.si s.term) (.so s.voted) (.so s.leader) (.si (s.reset + 400)) (.si s.commit) (.si s.at1) (.si s.lst) (.io s.lc) (.sb s.orc) (.si s.st) (.si s.nd)) :: sB ((13,.edict) :: (14,ownA (.loc 16) (.loc 15) (.si s.term) (.so s.voted) (.si s.commit) (.si s.at1) (.so s.leader) (.si s.now) (.si s.reset)) :: (15,.slist (s.log.map entA)) :: sC s)))):=
  kXF (fun k=>(decide (s.term < t) = false)∧k) (by kernel_rfl) fun _ z=>(And.intro (decide_eq_false h1) z)
theorem kaAgr {X:Cx} {P:Params} {s:S} {j num kd bx t p a b:Int} {who:Str} {e:Ent} {v:Option Str} {es:List Ent} (c:Lg s) (h1:len (List.map entA s.log) + 2 ≠ 0)
    (h2:len (List.map entA s.log) + 2 ≠ 0∧(len (List.map entA s.log) + 2).natAbs < 1073741824)
    (h3:1 + (bx.fdiv 3).fmod (len (List.map entA s.log) + 2) ≤ len (List.map entA s.log))
    (h4:(List.map entA s.log).length < 2 ^ 62∧SoftO (ix (List.map entA s.log) (1 + (bx.fdiv 3).fmod (len (List.map entA s.log) + 2) - 1)) (ent e))
    (k1:XsOk X 183 (fdAt (K P) 1102) (k1F0 j (xT s bx) (xP s bx) (xA s bx e.term) who) (stA P 1102 1064) (k1S s (.list []) ((xB2 s bx).fdiv 4)) 30 .next (k1F1 j t p a who) (k1S s (.slist (es.map entA)) b) 30)
    (h5:len (List.map entA s.log) + 4 ≠ 0)
    (h6:len (List.map entA s.log) + 4 ≠ 0∧(len (List.map entA s.log) + 4).natAbs < 1073741824)
    (h7:(List.map entA es).length ≤ sizeLine)
    (h8:¬ (t < s.term))
    (k2:XsOk X 183 (fdAt (K P) 1102) [(n_own,.loc 14),(n_box,.loc 27),(n_who,.ss who),(n_count,.si j),(n_log,.loc 15),(n_term,.si t),(n_place,.si p),(n_ahead,.si a),(n_entries,.loc 29),(n_commit,.si (eC s b)),(n_message,.loc 31)] (stA P 1102 1071) ((31,msgA s t p a b) :: (30,.slist (es.map entA)) :: (29,.slist (es.map entA)) :: (28,.list []) :: (27,.list [.si (eD s b)]) :: (0,jourA (.loc 1) (.si s.term) (.so s.voted)) :: (1,.slist (s.log.map entA)) :: sA s ((7,nodeA (.loc 13) (.si s.term) (.so s.voted) (.so s.leader) (.si (s.reset + 400)) (.si s.commit) (.si s.at1) (.si s.lst) (.io s.lc) (.sb s.orc) (.si s.st) (.si s.nd)) :: sB ((13,.edict) :: (14,ownA (.loc 16) (.loc 15) (.si s.term) (.so s.voted) (.si s.commit) (.si s.at1) (.so s.leader) (.si s.now) (.si s.reset)) :: (15,.slist (s.log.map entA)) :: sC s))) 32 .next [(n_own,.loc 14),(n_box,.loc 27),(n_who,.ss who),(n_count,.si j),(n_log,.loc 15),(n_term,.si t),(n_place,.si p),(n_ahead,.si a),(n_entries,.loc 29),(n_commit,.si (eC s b)),(n_message,.loc 31)] ((31,msgA s t p a b) :: (30,.slist (es.map entA)) :: (29,.slist (es.map entA)) :: (28,.list []) :: (27,.list [.si (eD s b)]) :: (0,jourA (.loc 1) (.si s.term) (.so s.voted)) :: (1,.slist (s.log.map entA)) :: sA s ((7,nodeA (.loc 13) (.si s.term) (.so s.voted) (.so s.leader) (.si (s.reset + 400)) (.si s.commit) (.si s.at1) (.si s.lst) (.io s.lc) (.sb s.orc) (.si s.st) (.si s.nd)) :: sB ((13,.edict) :: (14,ownA (.loc 16) (.loc 15) (.si t) (.so v) (.si s.commit) (.si s.at1) (.so s.leader) (.si s.now) (.si s.reset)) :: (15,.slist (s.log.map entA)) :: sC s))) 32)
    (h9:¬ (len (List.map entA s.log) < p))
    (h10:(List.map entA s.log).length < 2 ^ 62∧SoftO (ix (List.map entA s.log) (p - 1)) (ent e))
    (h11:(!decide (e.term = a)) = false)
    (h12:(cut (List.map entA s.log) none (some p)).length + (List.map entA es).length ≤ sizeLine)
    (h13:(cut (List.map entA s.log) none (some p) ++ List.map entA es).length < 2 ^ 62)
    (h14:(List.map entA es).length < 2 ^ 62) :
    XF X P 186 1109 (stA P 1109 1097) (kaF0 j num kd who) [.bit true,.av (ent e),.stmt 1064 .next (k1F1 j t p a who) (k1S s (.slist (es.map entA)) b) 30,.bit false,.stmt 1071 .next [(n_own,.loc 14),(n_box,.loc 27),(n_who,.ss who),(n_count,.si j),(n_log,.loc 15),(n_term,.si t),(n_place,.si p),(n_ahead,.si a),(n_entries,.loc 29),(n_commit,.si (eC s b)),(n_message,.loc 31)] ((31,msgA s t p a b) :: (30,.slist (es.map entA)) :: (29,.slist (es.map entA)) :: (28,.list []) :: (27,.list [.si (eD s b)]) :: (0,jourA (.loc 1) (.si s.term) (.so s.voted)) :: (1,.slist (s.log.map entA)) :: sA s ((7,nodeA (.loc 13) (.si s.term) (.so s.voted) (.so s.leader) (.si (s.reset + 400)) (.si s.commit) (.si s.at1) (.si s.lst) (.io s.lc) (.sb s.orc) (.si s.st) (.si s.nd)) :: sB ((13,.edict) :: (14,ownA (.loc 16) (.loc 15) (.si t) (.so v) (.si s.commit) (.si s.at1) (.so s.leader) (.si s.now) (.si s.reset)) :: (15,.slist (s.log.map entA)) :: sC s))) 32,.bit false,.av (ent e),.bit false] (kaS0 s bx) 29 (landK [0,1,2,3,4,5,6,7,8,9,10,11,12,13,14,15,16,17,18,19,20,21,22,23,24,25,26,27,28,31,30,35,32,34] (kaF1 j num kd who) (kaS1 s t p a b es who (.si (xCm s b (xCut s p es))) (.so v) (.ss who) (xCut s p es) (.si (p + 1 + len (es.map entA))) (.bool false) (.bool true))):=
  kXF (fun k=>((List.map entA s.log).length < 2 ^ 62)∧(len (List.map entA s.log) + 2 ≠ 0)∧(len (List.map entA s.log) + 2 ≠ 0∧(len (List.map entA s.log) + 2).natAbs < 1073741824)∧((List.map entA s.log).length < 2 ^ 62)∧(decide (1 + (bx.fdiv 3).fmod (len (List.map entA s.log) + 2) ≤ len (List.map entA s.log)) = true)∧((List.map entA s.log).length < 2 ^ 62∧SoftO (ix (List.map entA s.log) (1 + (bx.fdiv 3).fmod (len (List.map entA s.log) + 2) - 1)) (ent e))∧(XsOk X 183 (fdAt (K P) 1102) (k1F0 j (xT s bx) (xP s bx) (xA s bx e.term) who) (stA P 1102 1064) (k1S s (.list []) ((xB2 s bx).fdiv 4)) 30 .next (k1F1 j t p a who) (k1S s (.slist (es.map entA)) b) 30)∧((List.map entA s.log).length < 2 ^ 62)∧(len (List.map entA s.log) + 4 ≠ 0)∧(len (List.map entA s.log) + 4 ≠ 0∧(len (List.map entA s.log) + 4).natAbs < 1073741824)∧((List.map entA es).length ≤ sizeLine)∧(decide (t < s.term) = false)∧(XsOk X 183 (fdAt (K P) 1102) [(n_own,.loc 14),(n_box,.loc 27),(n_who,.ss who),(n_count,.si j),(n_log,.loc 15),(n_term,.si t),(n_place,.si p),(n_ahead,.si a),(n_entries,.loc 29),(n_commit,.si (eC s b)),(n_message,.loc 31)] (stA P 1102 1071) ((31,msgA s t p a b) :: (30,.slist (es.map entA)) :: (29,.slist (es.map entA)) :: (28,.list []) :: (27,.list [.si (eD s b)]) :: (0,jourA (.loc 1) (.si s.term) (.so s.voted)) :: (1,.slist (s.log.map entA)) :: sA s ((7,nodeA (.loc 13) (.si s.term) (.so s.voted) (.so s.leader) (.si (s.reset + 400)) (.si s.commit) (.si s.at1) (.si s.lst) (.io s.lc) (.sb s.orc) (.si s.st) (.si s.nd)) :: sB ((13,.edict) :: (14,ownA (.loc 16) (.loc 15) (.si s.term) (.so s.voted) (.si s.commit) (.si s.at1) (.so s.leader) (.si s.now) (.si s.reset)) :: (15,.slist (s.log.map entA)) :: sC s))) 32 .next [(n_own,.loc 14),(n_box,.loc 27),(n_who,.ss who),(n_count,.si j),(n_log,.loc 15),(n_term,.si t),(n_place,.si p),(n_ahead,.si a),(n_entries,.loc 29),(n_commit,.si (eC s b)),(n_message,.loc 31)] ((31,msgA s t p a b) :: (30,.slist (es.map entA)) :: (29,.slist (es.map entA)) :: (28,.list []) :: (27,.list [.si (eD s b)]) :: (0,jourA (.loc 1) (.si s.term) (.so s.voted)) :: (1,.slist (s.log.map entA)) :: sA s ((7,nodeA (.loc 13) (.si s.term) (.so s.voted) (.so s.leader) (.si (s.reset + 400)) (.si s.commit) (.si s.at1) (.si s.lst) (.io s.lc) (.sb s.orc) (.si s.st) (.si s.nd)) :: sB ((13,.edict) :: (14,ownA (.loc 16) (.loc 15) (.si t) (.so v) (.si s.commit) (.si s.at1) (.so s.leader) (.si s.now) (.si s.reset)) :: (15,.slist (s.log.map entA)) :: sC s))) 32)∧((List.map entA s.log).length < 2 ^ 62)∧((List.map entA s.log).length < 2 ^ 62)∧(decide (len (List.map entA s.log) < p) = false)∧((List.map entA s.log).length < 2 ^ 62∧SoftO (ix (List.map entA s.log) (p - 1)) (ent e))∧((!decide (e.term = a)) = false)∧((List.map entA s.log).length ≤ sizeLine)∧((cut (List.map entA s.log) none (some p)).length + (List.map entA es).length ≤ sizeLine)∧((cut (List.map entA s.log) none (some p) ++ List.map entA es).length < 2 ^ 62)∧((cut (List.map entA s.log) none (some p) ++ List.map entA es).length < 2 ^ 62)∧((List.map entA es).length < 2 ^ 62)∧k) (by kernel_rfl) fun _ z=>(And.intro c.l1 (And.intro h1 (And.intro h2 (And.intro c.l1 (And.intro (decide_eq_true h3) (And.intro h4 (And.intro k1 (And.intro c.l1 (And.intro h5 (And.intro h6 (And.intro h7 (And.intro (decide_eq_false h8) (And.intro k2 (And.intro c.l1 (And.intro c.l1 (And.intro (decide_eq_false h9) (And.intro h10 (And.intro h11 (And.intro c.l2 (And.intro h12 (And.intro h13 (And.intro h13 (And.intro h14 z)))))))))))))))))))))))
theorem kaMis {X:Cx} {P:Params} {s:S} {j num kd bx t p a b:Int} {who:Str} {e:Ent} {v:Option Str} {es:List Ent} (c:Lg s) (h1:len (List.map entA s.log) + 2 ≠ 0)
    (h2:len (List.map entA s.log) + 2 ≠ 0∧(len (List.map entA s.log) + 2).natAbs < 1073741824)
    (h3:1 + (bx.fdiv 3).fmod (len (List.map entA s.log) + 2) ≤ len (List.map entA s.log))
    (h4:(List.map entA s.log).length < 2 ^ 62∧SoftO (ix (List.map entA s.log) (1 + (bx.fdiv 3).fmod (len (List.map entA s.log) + 2) - 1)) (ent e))
    (k1:XsOk X 183 (fdAt (K P) 1102) (k1F0 j (xT s bx) (xP s bx) (xA s bx e.term) who) (stA P 1102 1064) (k1S s (.list []) ((xB2 s bx).fdiv 4)) 30 .next (k1F1 j t p a who) (k1S s (.slist (es.map entA)) b) 30)
    (h5:len (List.map entA s.log) + 4 ≠ 0)
    (h6:len (List.map entA s.log) + 4 ≠ 0∧(len (List.map entA s.log) + 4).natAbs < 1073741824)
    (h7:(List.map entA es).length ≤ sizeLine)
    (h8:¬ (t < s.term))
    (k2:XsOk X 183 (fdAt (K P) 1102) [(n_own,.loc 14),(n_box,.loc 27),(n_who,.ss who),(n_count,.si j),(n_log,.loc 15),(n_term,.si t),(n_place,.si p),(n_ahead,.si a),(n_entries,.loc 29),(n_commit,.si (eC s b)),(n_message,.loc 31)] (stA P 1102 1071) ((31,msgA s t p a b) :: (30,.slist (es.map entA)) :: (29,.slist (es.map entA)) :: (28,.list []) :: (27,.list [.si (eD s b)]) :: (0,jourA (.loc 1) (.si s.term) (.so s.voted)) :: (1,.slist (s.log.map entA)) :: sA s ((7,nodeA (.loc 13) (.si s.term) (.so s.voted) (.so s.leader) (.si (s.reset + 400)) (.si s.commit) (.si s.at1) (.si s.lst) (.io s.lc) (.sb s.orc) (.si s.st) (.si s.nd)) :: sB ((13,.edict) :: (14,ownA (.loc 16) (.loc 15) (.si s.term) (.so s.voted) (.si s.commit) (.si s.at1) (.so s.leader) (.si s.now) (.si s.reset)) :: (15,.slist (s.log.map entA)) :: sC s))) 32 .next [(n_own,.loc 14),(n_box,.loc 27),(n_who,.ss who),(n_count,.si j),(n_log,.loc 15),(n_term,.si t),(n_place,.si p),(n_ahead,.si a),(n_entries,.loc 29),(n_commit,.si (eC s b)),(n_message,.loc 31)] ((31,msgA s t p a b) :: (30,.slist (es.map entA)) :: (29,.slist (es.map entA)) :: (28,.list []) :: (27,.list [.si (eD s b)]) :: (0,jourA (.loc 1) (.si s.term) (.so s.voted)) :: (1,.slist (s.log.map entA)) :: sA s ((7,nodeA (.loc 13) (.si s.term) (.so s.voted) (.so s.leader) (.si (s.reset + 400)) (.si s.commit) (.si s.at1) (.si s.lst) (.io s.lc) (.sb s.orc) (.si s.st) (.si s.nd)) :: sB ((13,.edict) :: (14,ownA (.loc 16) (.loc 15) (.si t) (.so v) (.si s.commit) (.si s.at1) (.so s.leader) (.si s.now) (.si s.reset)) :: (15,.slist (s.log.map entA)) :: sC s))) 32)
    (h9:¬ (len (List.map entA s.log) < p))
    (h10:(List.map entA s.log).length < 2 ^ 62∧SoftO (ix (List.map entA s.log) (p - 1)) (ent e))
    (h11:(!decide (e.term = a)) = true) :
    XF X P 186 1109 (stA P 1109 1097) (kaF0 j num kd who) [.bit true,.av (ent e),.stmt 1064 .next (k1F1 j t p a who) (k1S s (.slist (es.map entA)) b) 30,.bit false,.stmt 1071 .next [(n_own,.loc 14),(n_box,.loc 27),(n_who,.ss who),(n_count,.si j),(n_log,.loc 15),(n_term,.si t),(n_place,.si p),(n_ahead,.si a),(n_entries,.loc 29),(n_commit,.si (eC s b)),(n_message,.loc 31)] ((31,msgA s t p a b) :: (30,.slist (es.map entA)) :: (29,.slist (es.map entA)) :: (28,.list []) :: (27,.list [.si (eD s b)]) :: (0,jourA (.loc 1) (.si s.term) (.so s.voted)) :: (1,.slist (s.log.map entA)) :: sA s ((7,nodeA (.loc 13) (.si s.term) (.so s.voted) (.so s.leader) (.si (s.reset + 400)) (.si s.commit) (.si s.at1) (.si s.lst) (.io s.lc) (.sb s.orc) (.si s.st) (.si s.nd)) :: sB ((13,.edict) :: (14,ownA (.loc 16) (.loc 15) (.si t) (.so v) (.si s.commit) (.si s.at1) (.so s.leader) (.si s.now) (.si s.reset)) :: (15,.slist (s.log.map entA)) :: sC s))) 32,.bit false,.av (ent e),.bit true] (kaS0 s bx) 29 (landK [0,1,2,3,4,5,6,7,8,9,10,11,12,13,14,15,16,17,18,19,20,21,22,23,24,25,26,27,28,31,30,33,32,15] (kaF1 j num kd who) (kaS1 s t p a b es who (.si s.commit) (.so v) (.ss who) (s.log.map entA) (.si p) (.bool true) (.bool false))):=
  kXF (fun k=>((List.map entA s.log).length < 2 ^ 62)∧(len (List.map entA s.log) + 2 ≠ 0)∧(len (List.map entA s.log) + 2 ≠ 0∧(len (List.map entA s.log) + 2).natAbs < 1073741824)∧((List.map entA s.log).length < 2 ^ 62)∧(decide (1 + (bx.fdiv 3).fmod (len (List.map entA s.log) + 2) ≤ len (List.map entA s.log)) = true)∧((List.map entA s.log).length < 2 ^ 62∧SoftO (ix (List.map entA s.log) (1 + (bx.fdiv 3).fmod (len (List.map entA s.log) + 2) - 1)) (ent e))∧(XsOk X 183 (fdAt (K P) 1102) (k1F0 j (xT s bx) (xP s bx) (xA s bx e.term) who) (stA P 1102 1064) (k1S s (.list []) ((xB2 s bx).fdiv 4)) 30 .next (k1F1 j t p a who) (k1S s (.slist (es.map entA)) b) 30)∧((List.map entA s.log).length < 2 ^ 62)∧(len (List.map entA s.log) + 4 ≠ 0)∧(len (List.map entA s.log) + 4 ≠ 0∧(len (List.map entA s.log) + 4).natAbs < 1073741824)∧((List.map entA es).length ≤ sizeLine)∧(decide (t < s.term) = false)∧(XsOk X 183 (fdAt (K P) 1102) [(n_own,.loc 14),(n_box,.loc 27),(n_who,.ss who),(n_count,.si j),(n_log,.loc 15),(n_term,.si t),(n_place,.si p),(n_ahead,.si a),(n_entries,.loc 29),(n_commit,.si (eC s b)),(n_message,.loc 31)] (stA P 1102 1071) ((31,msgA s t p a b) :: (30,.slist (es.map entA)) :: (29,.slist (es.map entA)) :: (28,.list []) :: (27,.list [.si (eD s b)]) :: (0,jourA (.loc 1) (.si s.term) (.so s.voted)) :: (1,.slist (s.log.map entA)) :: sA s ((7,nodeA (.loc 13) (.si s.term) (.so s.voted) (.so s.leader) (.si (s.reset + 400)) (.si s.commit) (.si s.at1) (.si s.lst) (.io s.lc) (.sb s.orc) (.si s.st) (.si s.nd)) :: sB ((13,.edict) :: (14,ownA (.loc 16) (.loc 15) (.si s.term) (.so s.voted) (.si s.commit) (.si s.at1) (.so s.leader) (.si s.now) (.si s.reset)) :: (15,.slist (s.log.map entA)) :: sC s))) 32 .next [(n_own,.loc 14),(n_box,.loc 27),(n_who,.ss who),(n_count,.si j),(n_log,.loc 15),(n_term,.si t),(n_place,.si p),(n_ahead,.si a),(n_entries,.loc 29),(n_commit,.si (eC s b)),(n_message,.loc 31)] ((31,msgA s t p a b) :: (30,.slist (es.map entA)) :: (29,.slist (es.map entA)) :: (28,.list []) :: (27,.list [.si (eD s b)]) :: (0,jourA (.loc 1) (.si s.term) (.so s.voted)) :: (1,.slist (s.log.map entA)) :: sA s ((7,nodeA (.loc 13) (.si s.term) (.so s.voted) (.so s.leader) (.si (s.reset + 400)) (.si s.commit) (.si s.at1) (.si s.lst) (.io s.lc) (.sb s.orc) (.si s.st) (.si s.nd)) :: sB ((13,.edict) :: (14,ownA (.loc 16) (.loc 15) (.si t) (.so v) (.si s.commit) (.si s.at1) (.so s.leader) (.si s.now) (.si s.reset)) :: (15,.slist (s.log.map entA)) :: sC s))) 32)∧((List.map entA s.log).length < 2 ^ 62)∧((List.map entA s.log).length < 2 ^ 62)∧(decide (len (List.map entA s.log) < p) = false)∧((List.map entA s.log).length < 2 ^ 62∧SoftO (ix (List.map entA s.log) (p - 1)) (ent e))∧((!decide (e.term = a)) = true)∧k) (by kernel_rfl) fun _ z=>(And.intro c.l1 (And.intro h1 (And.intro h2 (And.intro c.l1 (And.intro (decide_eq_true h3) (And.intro h4 (And.intro k1 (And.intro c.l1 (And.intro h5 (And.intro h6 (And.intro h7 (And.intro (decide_eq_false h8) (And.intro k2 (And.intro c.l1 (And.intro c.l1 (And.intro (decide_eq_false h9) (And.intro h10 (And.intro h11 z))))))))))))))))))
theorem kaLong {X:Cx} {P:Params} {s:S} {j num kd bx t p a b:Int} {who:Str} {v:Option Str} {es:List Ent} (c:Lg s) (h1:len (List.map entA s.log) + 2 ≠ 0)
    (h2:len (List.map entA s.log) + 2 ≠ 0∧(len (List.map entA s.log) + 2).natAbs < 1073741824)
    (h3:¬ (1 + (bx.fdiv 3).fmod (len (List.map entA s.log) + 2) ≤ len (List.map entA s.log)))
    (k1:XsOk X 183 (fdAt (K P) 1102) (k1F0 j (xT s bx) (xP s bx) (xA s bx s.term) who) (stA P 1102 1064) (k1S s (.list []) ((xB2 s bx).fdiv 4)) 30 .next (k1F1 j t p a who) (k1S s (.slist (es.map entA)) b) 30)
    (h4:len (List.map entA s.log) + 4 ≠ 0)
    (h5:len (List.map entA s.log) + 4 ≠ 0∧(len (List.map entA s.log) + 4).natAbs < 1073741824)
    (h6:(List.map entA es).length ≤ sizeLine)
    (h7:¬ (t < s.term))
    (k2:XsOk X 183 (fdAt (K P) 1102) [(n_own,.loc 14),(n_box,.loc 27),(n_who,.ss who),(n_count,.si j),(n_log,.loc 15),(n_term,.si t),(n_place,.si p),(n_ahead,.si a),(n_entries,.loc 29),(n_commit,.si (eC s b)),(n_message,.loc 31)] (stA P 1102 1071) ((31,msgA s t p a b) :: (30,.slist (es.map entA)) :: (29,.slist (es.map entA)) :: (28,.list []) :: (27,.list [.si (eD s b)]) :: (0,jourA (.loc 1) (.si s.term) (.so s.voted)) :: (1,.slist (s.log.map entA)) :: sA s ((7,nodeA (.loc 13) (.si s.term) (.so s.voted) (.so s.leader) (.si (s.reset + 400)) (.si s.commit) (.si s.at1) (.si s.lst) (.io s.lc) (.sb s.orc) (.si s.st) (.si s.nd)) :: sB ((13,.edict) :: (14,ownA (.loc 16) (.loc 15) (.si s.term) (.so s.voted) (.si s.commit) (.si s.at1) (.so s.leader) (.si s.now) (.si s.reset)) :: (15,.slist (s.log.map entA)) :: sC s))) 32 .next [(n_own,.loc 14),(n_box,.loc 27),(n_who,.ss who),(n_count,.si j),(n_log,.loc 15),(n_term,.si t),(n_place,.si p),(n_ahead,.si a),(n_entries,.loc 29),(n_commit,.si (eC s b)),(n_message,.loc 31)] ((31,msgA s t p a b) :: (30,.slist (es.map entA)) :: (29,.slist (es.map entA)) :: (28,.list []) :: (27,.list [.si (eD s b)]) :: (0,jourA (.loc 1) (.si s.term) (.so s.voted)) :: (1,.slist (s.log.map entA)) :: sA s ((7,nodeA (.loc 13) (.si s.term) (.so s.voted) (.so s.leader) (.si (s.reset + 400)) (.si s.commit) (.si s.at1) (.si s.lst) (.io s.lc) (.sb s.orc) (.si s.st) (.si s.nd)) :: sB ((13,.edict) :: (14,ownA (.loc 16) (.loc 15) (.si t) (.so v) (.si s.commit) (.si s.at1) (.so s.leader) (.si s.now) (.si s.reset)) :: (15,.slist (s.log.map entA)) :: sC s))) 32)
    (h8:len (List.map entA s.log) < p) :
    XF X P 186 1109 (stA P 1109 1097) (kaF0 j num kd who) [.bit false,.stmt 1064 .next (k1F1 j t p a who) (k1S s (.slist (es.map entA)) b) 30,.bit false,.stmt 1071 .next [(n_own,.loc 14),(n_box,.loc 27),(n_who,.ss who),(n_count,.si j),(n_log,.loc 15),(n_term,.si t),(n_place,.si p),(n_ahead,.si a),(n_entries,.loc 29),(n_commit,.si (eC s b)),(n_message,.loc 31)] ((31,msgA s t p a b) :: (30,.slist (es.map entA)) :: (29,.slist (es.map entA)) :: (28,.list []) :: (27,.list [.si (eD s b)]) :: (0,jourA (.loc 1) (.si s.term) (.so s.voted)) :: (1,.slist (s.log.map entA)) :: sA s ((7,nodeA (.loc 13) (.si s.term) (.so s.voted) (.so s.leader) (.si (s.reset + 400)) (.si s.commit) (.si s.at1) (.si s.lst) (.io s.lc) (.sb s.orc) (.si s.st) (.si s.nd)) :: sB ((13,.edict) :: (14,ownA (.loc 16) (.loc 15) (.si t) (.so v) (.si s.commit) (.si s.at1) (.so s.leader) (.si s.now) (.si s.reset)) :: (15,.slist (s.log.map entA)) :: sC s))) 32,.bit true] (kaS0 s bx) 29 (landK [0,1,2,3,4,5,6,7,8,9,10,11,12,13,14,15,16,17,18,19,20,21,22,23,24,25,26,27,28,31,30,33,32,15] (kaF1 j num kd who) (kaS1 s t p a b es who (.si s.commit) (.so v) (.ss who) (s.log.map entA) (.si (len (s.log.map entA) + 1)) (.bool true) (.bool false))):=
  kXF (fun k=>((List.map entA s.log).length < 2 ^ 62)∧(len (List.map entA s.log) + 2 ≠ 0)∧(len (List.map entA s.log) + 2 ≠ 0∧(len (List.map entA s.log) + 2).natAbs < 1073741824)∧((List.map entA s.log).length < 2 ^ 62)∧(decide (1 + (bx.fdiv 3).fmod (len (List.map entA s.log) + 2) ≤ len (List.map entA s.log)) = false)∧(XsOk X 183 (fdAt (K P) 1102) (k1F0 j (xT s bx) (xP s bx) (xA s bx s.term) who) (stA P 1102 1064) (k1S s (.list []) ((xB2 s bx).fdiv 4)) 30 .next (k1F1 j t p a who) (k1S s (.slist (es.map entA)) b) 30)∧((List.map entA s.log).length < 2 ^ 62)∧(len (List.map entA s.log) + 4 ≠ 0)∧(len (List.map entA s.log) + 4 ≠ 0∧(len (List.map entA s.log) + 4).natAbs < 1073741824)∧((List.map entA es).length ≤ sizeLine)∧(decide (t < s.term) = false)∧(XsOk X 183 (fdAt (K P) 1102) [(n_own,.loc 14),(n_box,.loc 27),(n_who,.ss who),(n_count,.si j),(n_log,.loc 15),(n_term,.si t),(n_place,.si p),(n_ahead,.si a),(n_entries,.loc 29),(n_commit,.si (eC s b)),(n_message,.loc 31)] (stA P 1102 1071) ((31,msgA s t p a b) :: (30,.slist (es.map entA)) :: (29,.slist (es.map entA)) :: (28,.list []) :: (27,.list [.si (eD s b)]) :: (0,jourA (.loc 1) (.si s.term) (.so s.voted)) :: (1,.slist (s.log.map entA)) :: sA s ((7,nodeA (.loc 13) (.si s.term) (.so s.voted) (.so s.leader) (.si (s.reset + 400)) (.si s.commit) (.si s.at1) (.si s.lst) (.io s.lc) (.sb s.orc) (.si s.st) (.si s.nd)) :: sB ((13,.edict) :: (14,ownA (.loc 16) (.loc 15) (.si s.term) (.so s.voted) (.si s.commit) (.si s.at1) (.so s.leader) (.si s.now) (.si s.reset)) :: (15,.slist (s.log.map entA)) :: sC s))) 32 .next [(n_own,.loc 14),(n_box,.loc 27),(n_who,.ss who),(n_count,.si j),(n_log,.loc 15),(n_term,.si t),(n_place,.si p),(n_ahead,.si a),(n_entries,.loc 29),(n_commit,.si (eC s b)),(n_message,.loc 31)] ((31,msgA s t p a b) :: (30,.slist (es.map entA)) :: (29,.slist (es.map entA)) :: (28,.list []) :: (27,.list [.si (eD s b)]) :: (0,jourA (.loc 1) (.si s.term) (.so s.voted)) :: (1,.slist (s.log.map entA)) :: sA s ((7,nodeA (.loc 13) (.si s.term) (.so s.voted) (.so s.leader) (.si (s.reset + 400)) (.si s.commit) (.si s.at1) (.si s.lst) (.io s.lc) (.sb s.orc) (.si s.st) (.si s.nd)) :: sB ((13,.edict) :: (14,ownA (.loc 16) (.loc 15) (.si t) (.so v) (.si s.commit) (.si s.at1) (.so s.leader) (.si s.now) (.si s.reset)) :: (15,.slist (s.log.map entA)) :: sC s))) 32)∧((List.map entA s.log).length < 2 ^ 62)∧((List.map entA s.log).length < 2 ^ 62)∧(decide (len (List.map entA s.log) < p) = true)∧k) (by kernel_rfl) fun _ z=>(And.intro c.l1 (And.intro h1 (And.intro h2 (And.intro c.l1 (And.intro (decide_eq_false h3) (And.intro k1 (And.intro c.l1 (And.intro h4 (And.intro h5 (And.intro h6 (And.intro (decide_eq_false h7) (And.intro k2 (And.intro c.l1 (And.intro c.l1 (And.intro (decide_eq_true h8) z)))))))))))))))
end Mine
namespace Mine
theorem n1a {X:Cx} {P:Params} {s:S} {t p a b cm x:Int} {who:Str} {v:Option Str} {es ol:List Ent} {r u:Bool}  (h1:s.term < t) :
    XF X P 178 856 (stA P 856 672) (fr3 who) [.bit true] (kaS1 s t p a b es who (.si cm) (.so v) (.so (some who)) (ol.map entA) (.si x) (.sb r) (.sb u)) 34 (landK [] (fr3 who) (kaS1 s t p a b es who (.si cm) (.so v) (.so (some who)) (ol.map entA) (.si x) (.sb r) (.sb u))):=
  kXF (fun k=>(decide (s.term < t) = true)∧k) (by kernel_rfl) fun _ z=>(And.intro (decide_eq_true h1) z)
theorem n1b {X:Cx} {P:Params} {s:S} {t p a b cm x:Int} {who:Str} {v:Option Str} {es ol:List Ent} {r u:Bool}  (h1:¬ (s.term < t)) :
    XF X P 178 856 (stA P 856 672) (fr3 who) [.bit false] (kaS1 s t p a b es who (.si cm) (.so v) (.so (some who)) (ol.map entA) (.si x) (.sb r) (.sb u)) 34 (landK [] (fr3 who) (kaS1 s t p a b es who (.si cm) (.so v) (.so (some who)) (ol.map entA) (.si x) (.sb r) (.sb u))):=
  kXF (fun k=>(decide (s.term < t) = false)∧k) (by kernel_rfl) fun _ z=>(And.intro (decide_eq_false h1) z)
theorem n2a {X:Cx} {P:Params} {s:S} {t p a b cm x:Int} {who:Str} {v:Option Str} {es ol:List Ent} {r u:Bool}  (h1:(!decide (s.leader = some who)) = true) :
    XF X P 178 856 (stA P 856 676) (fr3 who) [.bit true] ((33,.slist (ol.map entA)) :: (32,ansA (.si x) (.sb r) (.sb u)) :: (31,.list [.tup [.ss who,.loc 32]]) :: (30,.slist (es.map entA)) :: (29,msgA s t p a b) :: (0,jourA (.loc 1) (.si s.term) (.so s.voted)) :: (1,.slist (s.log.map entA)) :: sA s ((7,nodeB s (.loc 13) (.si s.term) (.so s.voted) (.so s.leader) (.si s.commit) (.io s.lc)) :: sB ((13,.edict) :: (14,ownB s 33 t cm v who) :: sC s))) 34 (landK [0,1,2,3,4,5,6,7,8,9,10,11,12,13,14,15,16,17,18,19,20,21,22,23,24,25,26,27,28,29,30,31,32,33,35] (fr3 who) ((34,.edict) :: (33,.slist (ol.map entA)) :: (32,ansA (.si x) (.sb r) (.sb u)) :: (31,.list [.tup [.ss who,.loc 32]]) :: (30,.slist (es.map entA)) :: (29,msgA s t p a b) :: (0,jourA (.loc 1) (.si s.term) (.so s.voted)) :: (1,.slist (s.log.map entA)) :: sA s ((7,nodeB s (.loc 34) (.si s.term) (.so s.voted) (.so s.leader) (.si s.commit) (.io s.lc)) :: sB ((14,ownB s 33 t cm v who) :: sC s)))):=
  kXF (fun k=>((!decide (s.leader = some who)) = true)∧k) (by kernel_rfl) fun _ z=>(And.intro h1 z)
theorem n2b {X:Cx} {P:Params} {s:S} {t p a b cm x:Int} {who:Str} {v:Option Str} {es ol:List Ent} {r u:Bool}  (h1:(!decide (s.leader = some who)) = false) :
    XF X P 178 856 (stA P 856 676) (fr3 who) [.bit false] ((33,.slist (ol.map entA)) :: (32,ansA (.si x) (.sb r) (.sb u)) :: (31,.list [.tup [.ss who,.loc 32]]) :: (30,.slist (es.map entA)) :: (29,msgA s t p a b) :: (0,jourA (.loc 1) (.si s.term) (.so s.voted)) :: (1,.slist (s.log.map entA)) :: sA s ((7,nodeB s (.loc 13) (.si s.term) (.so s.voted) (.so s.leader) (.si s.commit) (.io s.lc)) :: sB ((13,.edict) :: (14,ownB s 33 t cm v who) :: sC s))) 34 (landK [0,1,2,3,4,5,6,7,8,9,10,11,12,13,14,15,16,17,18,19,20,21,22,23,24,25,26,27,28,29,30,31,32,33,13] (fr3 who) ((34,.edict) :: (33,.slist (ol.map entA)) :: (32,ansA (.si x) (.sb r) (.sb u)) :: (31,.list [.tup [.ss who,.loc 32]]) :: (30,.slist (es.map entA)) :: (29,msgA s t p a b) :: (0,jourA (.loc 1) (.si s.term) (.so s.voted)) :: (1,.slist (s.log.map entA)) :: sA s ((7,nodeB s (.loc 34) (.si s.term) (.so s.voted) (.so s.leader) (.si s.commit) (.io s.lc)) :: sB ((14,ownB s 33 t cm v who) :: sC s)))):=
  kXF (fun k=>((!decide (s.leader = some who)) = false)∧k) (by kernel_rfl) fun _ z=>(And.intro h1 z)
theorem n3a {X:Cx} {P:Params} {s:S} {t p a b cm x:Int} {who:Str} {v:Option Str} {es ol:List Ent} {r u:Bool}  (h1:s.term < t) :
    XF X P 178 856 (stA P 856 679) (fr3 who) [.bit true] ((34,.edict) :: (33,.slist (ol.map entA)) :: (32,ansA (.si x) (.sb r) (.sb u)) :: (31,.list [.tup [.ss who,.loc 32]]) :: (30,.slist (es.map entA)) :: (29,msgA s t p a b) :: (0,jourA (.loc 1) (.si s.term) (.so s.voted)) :: (1,.slist (s.log.map entA)) :: sA s ((7,nodeB s (.loc 34) (.si s.term) (.so s.voted) (.ss who) (.si s.commit) (.io s.lc)) :: sB ((14,ownB s 33 t cm v who) :: sC s))) 35 (landK [] (fr3 who) ((34,.edict) :: (33,.slist (ol.map entA)) :: (32,ansA (.si x) (.sb r) (.sb u)) :: (31,.list [.tup [.ss who,.loc 32]]) :: (30,.slist (es.map entA)) :: (29,msgA s t p a b) :: (0,jourA (.loc 1) (.si t) (.none)) :: (1,.slist (s.log.map entA)) :: sA s ((7,nodeB s (.loc 34) (.si t) (.none) (.ss who) (.si s.commit) (.io s.lc)) :: sB ((14,ownB s 33 t cm v who) :: sC s)))):=
  kXF (fun k=>(decide (s.term < t) = true)∧k) (by kernel_rfl) fun _ z=>(And.intro (decide_eq_true h1) z)
theorem n3b {X:Cx} {P:Params} {s:S} {t p a b cm x:Int} {who:Str} {v:Option Str} {es ol:List Ent} {r u:Bool}  (h1:¬ (s.term < t)) :
    XF X P 178 856 (stA P 856 679) (fr3 who) [.bit false] ((34,.edict) :: (33,.slist (ol.map entA)) :: (32,ansA (.si x) (.sb r) (.sb u)) :: (31,.list [.tup [.ss who,.loc 32]]) :: (30,.slist (es.map entA)) :: (29,msgA s t p a b) :: (0,jourA (.loc 1) (.si s.term) (.so s.voted)) :: (1,.slist (s.log.map entA)) :: sA s ((7,nodeB s (.loc 34) (.si s.term) (.so s.voted) (.ss who) (.si s.commit) (.io s.lc)) :: sB ((14,ownB s 33 t cm v who) :: sC s))) 35 (landK [] (fr3 who) ((34,.edict) :: (33,.slist (ol.map entA)) :: (32,ansA (.si x) (.sb r) (.sb u)) :: (31,.list [.tup [.ss who,.loc 32]]) :: (30,.slist (es.map entA)) :: (29,msgA s t p a b) :: (0,jourA (.loc 1) (.si s.term) (.so s.voted)) :: (1,.slist (s.log.map entA)) :: sA s ((7,nodeB s (.loc 34) (.si s.term) (.so s.voted) (.ss who) (.si s.commit) (.io s.lc)) :: sB ((14,ownB s 33 t cm v who) :: sC s)))):=
  kXF (fun k=>(decide (s.term < t) = false)∧k) (by kernel_rfl) fun _ z=>(And.intro (decide_eq_false h1) z)
theorem n5a {X:Cx} {P:Params} {s:S} {t p a b cm x:Int} {who:Str} {e0:Ent} {v:Option Str} {es ol:List Ent} {r u:Bool}  (h1:(cut (List.map entA s.log) (some (p - e0.idx)) none).length < 2 ^ 62)
    (h2:1 < len (cut (List.map entA s.log) (some (p - e0.idx)) none))
    (h3:(List.map entA s.log).length < 2 ^ 62∧SoftO (ix (List.map entA s.log) 0) (ent e0))
    (h4:¬ (p + 1 - e0.idx < 0))
    (h5:(List.map entA s.log).length ≤ sizeLine) :
    XF X P 177 856 (stA P 856 695) (frE (eC s b) p a who []) [.bit true,.av (ent e0),.bit false] ((36,.slist (cut (s.log.map entA) (some (p - e0.idx)) none)) :: (35,.list []) :: (34,.edict) :: (33,.slist (ol.map entA)) :: (32,ansA (.si x) (.sb r) (.sb u)) :: (31,.list [.tup [.ss who,.loc 32]]) :: (30,.slist (es.map entA)) :: (29,msgA s t p a b) :: (0,jourA (.loc 1) (.si t) (.so v)) :: (1,.slist (s.log.map entA)) :: sA s ((7,nodeB s (.loc 34) (.si t) (.so v) (.ss who) (.si s.commit) (.si (eC s b))) :: sB ((14,ownB s 33 t cm v who) :: sC s))) 37 (landK [0,1,2,3,4,5,6,7,8,9,10,11,12,13,14,15,16,17,18,19,20,21,22,23,24,25,26,27,28,29,30,31,32,33,34,35,36,37] (frE (eC s b) p a who []) ((37,.slist (cut (s.log.map entA) none (some (p + 1 - e0.idx)))) :: (34,.edict) :: (33,.slist (ol.map entA)) :: (32,ansA (.si x) (.sb r) (.sb u)) :: (31,.list [.tup [.ss who,.loc 32]]) :: (30,.slist (es.map entA)) :: (29,msgA s t p a b) :: (0,jourA (.loc 37) (.si t) (.so v)) :: sA s ((7,nodeB s (.loc 34) (.si t) (.so v) (.ss who) (.si s.commit) (.si (eC s b))) :: sB ((14,ownB s 33 t cm v who) :: sC s)))):=
  kXF (fun k=>((cut (List.map entA s.log) (some (p - e0.idx)) none).length < 2 ^ 62)∧(decide (1 < len (cut (List.map entA s.log) (some (p - e0.idx)) none)) = true)∧((List.map entA s.log).length < 2 ^ 62∧SoftO (ix (List.map entA s.log) 0) (ent e0))∧(decide (p + 1 - e0.idx < 0) = false)∧((List.map entA s.log).length ≤ sizeLine)∧k) (by kernel_rfl) fun _ z=>(And.intro h1 (And.intro (decide_eq_true h2) (And.intro h3 (And.intro (decide_eq_false h4) (And.intro h5 z)))))
theorem n5b {X:Cx} {P:Params} {s:S} {t p a b cm x:Int} {who:Str} {e0:Ent} {v:Option Str} {es ol:List Ent} {r u:Bool}  (h1:(cut (List.map entA s.log) (some (p - e0.idx)) none).length < 2 ^ 62)
    (h2:¬ (1 < len (cut (List.map entA s.log) (some (p - e0.idx)) none))) :
    XF X P 177 856 (stA P 856 695) (frE (eC s b) p a who []) [.bit false] ((36,.slist (cut (s.log.map entA) (some (p - e0.idx)) none)) :: (35,.list []) :: (34,.edict) :: (33,.slist (ol.map entA)) :: (32,ansA (.si x) (.sb r) (.sb u)) :: (31,.list [.tup [.ss who,.loc 32]]) :: (30,.slist (es.map entA)) :: (29,msgA s t p a b) :: (0,jourA (.loc 1) (.si t) (.so v)) :: (1,.slist (s.log.map entA)) :: sA s ((7,nodeB s (.loc 34) (.si t) (.so v) (.ss who) (.si s.commit) (.si (eC s b))) :: sB ((14,ownB s 33 t cm v who) :: sC s))) 37 (landK [0,1,2,3,4,5,6,7,8,9,10,11,12,13,14,15,16,17,18,19,20,21,22,23,24,25,26,27,28,29,30,31,32,33,34,35,36,1] (frE (eC s b) p a who []) ((37,.slist (s.log.map entA)) :: (34,.edict) :: (33,.slist (ol.map entA)) :: (32,ansA (.si x) (.sb r) (.sb u)) :: (31,.list [.tup [.ss who,.loc 32]]) :: (30,.slist (es.map entA)) :: (29,msgA s t p a b) :: (0,jourA (.loc 37) (.si t) (.so v)) :: sA s ((7,nodeB s (.loc 34) (.si t) (.so v) (.ss who) (.si s.commit) (.si (eC s b))) :: sB ((14,ownB s 33 t cm v who) :: sC s)))):=
  kXF (fun k=>((cut (List.map entA s.log) (some (p - e0.idx)) none).length < 2 ^ 62)∧(decide (1 < len (cut (List.map entA s.log) (some (p - e0.idx)) none)) = false)∧k) (by kernel_rfl) fun _ z=>(And.intro h1 (And.intro (decide_eq_false h2) z))
theorem n7a {X:Cx} {P:Params} {s:S} {t p a b cm x:Int} {who:Str} {e2:Ent} {v:Option Str} {es ol lp:List Ent} {r u:Bool}  (h1:(List.map entA es).length < 2 ^ 62)
    (h2:(!(List.map entA es).isEmpty) = true)
    (h3:(List.map entA es).length < 2 ^ 62∧SoftO (ix (List.map entA es) (-1)) (ent e2)) :
    XF X P 177 856 (stA P 856 710) (frE (eC s b) p a who [(n_nextNodeIdx,.si (p + 1))]) [.bit true,.av (ent e2)] ((37,.slist ((lp ++ es).map entA)) :: (34,.edict) :: (33,.slist (ol.map entA)) :: (32,ansA (.si x) (.sb r) (.sb u)) :: (31,.list [.tup [.ss who,.loc 32]]) :: (30,.slist (es.map entA)) :: (29,msgA s t p a b) :: (0,jourA (.loc 37) (.si t) (.so v)) :: sA s ((7,nodeB s (.loc 34) (.si t) (.so v) (.ss who) (.si s.commit) (.si (eC s b))) :: sB ((14,ownB s 33 t cm v who) :: sC s))) 38 (landK [] (frE (eC s b) p a who [(n_nextNodeIdx,.si (e2.idx + 1))]) ((37,.slist ((lp ++ es).map entA)) :: (34,.edict) :: (33,.slist (ol.map entA)) :: (32,ansA (.si x) (.sb r) (.sb u)) :: (31,.list [.tup [.ss who,.loc 32]]) :: (30,.slist (es.map entA)) :: (29,msgA s t p a b) :: (0,jourA (.loc 37) (.si t) (.so v)) :: sA s ((7,nodeB s (.loc 34) (.si t) (.so v) (.ss who) (.si s.commit) (.si (eC s b))) :: sB ((14,ownB s 33 t cm v who) :: sC s)))):=
  kXF (fun k=>((List.map entA es).length < 2 ^ 62)∧((!(List.map entA es).isEmpty) = true)∧((List.map entA es).length < 2 ^ 62∧SoftO (ix (List.map entA es) (-1)) (ent e2))∧k) (by kernel_rfl) fun _ z=>(And.intro h1 (And.intro h2 (And.intro h3 z)))
theorem n7b {X:Cx} {P:Params} {s:S} {t p a b cm x:Int} {who:Str} {v:Option Str} {es ol lp:List Ent} {r u:Bool}  (h1:(List.map entA es).length < 2 ^ 62)
    (h2:(!(List.map entA es).isEmpty) = false) :
    XF X P 177 856 (stA P 856 710) (frE (eC s b) p a who [(n_nextNodeIdx,.si (p + 1))]) [.bit false] ((37,.slist ((lp ++ es).map entA)) :: (34,.edict) :: (33,.slist (ol.map entA)) :: (32,ansA (.si x) (.sb r) (.sb u)) :: (31,.list [.tup [.ss who,.loc 32]]) :: (30,.slist (es.map entA)) :: (29,msgA s t p a b) :: (0,jourA (.loc 37) (.si t) (.so v)) :: sA s ((7,nodeB s (.loc 34) (.si t) (.so v) (.ss who) (.si s.commit) (.si (eC s b))) :: sB ((14,ownB s 33 t cm v who) :: sC s))) 38 (landK [] (frE (eC s b) p a who [(n_nextNodeIdx,.si (p + 1))]) ((37,.slist ((lp ++ es).map entA)) :: (34,.edict) :: (33,.slist (ol.map entA)) :: (32,ansA (.si x) (.sb r) (.sb u)) :: (31,.list [.tup [.ss who,.loc 32]]) :: (30,.slist (es.map entA)) :: (29,msgA s t p a b) :: (0,jourA (.loc 37) (.si t) (.so v)) :: sA s ((7,nodeB s (.loc 34) (.si t) (.so v) (.ss who) (.si s.commit) (.si (eC s b))) :: sB ((14,ownB s 33 t cm v who) :: sC s)))):=
  kXF (fun k=>((List.map entA es).length < 2 ^ 62)∧((!(List.map entA es).isEmpty) = false)∧k) (by kernel_rfl) fun _ z=>(And.intro h1 (And.intro h2 z))
theorem n8a {X:Cx} {P:Params} {s:S} {t p a b cm x y:Int} {who:Str} {e2:Ent} {v:Option Str} {es ol lp:List Ent} {r u:Bool}  (h1:(List.map entA (lp ++ es)).length < 2 ^ 62∧SoftO (ix (List.map entA (lp ++ es)) (-1)) (ent e2))
    (h2:e2.idx < s.commit) :
    XF X P 178 856 (stA P 856 717) (frE (eC s b) p a who [(n_nextNodeIdx,.si y)]) [.av (ent e2),.bit true,.av (ent e2)] ((38,ansA (.si y) (.bool false) (.bool true)) :: (37,.slist ((lp ++ es).map entA)) :: (34,.edict) :: (33,.slist (ol.map entA)) :: (32,ansA (.si x) (.sb r) (.sb u)) :: (31,.list [.tup [.ss who,.loc 32]]) :: (30,.slist (es.map entA)) :: (29,msgA s t p a b) :: (0,jourA (.loc 37) (.si t) (.so v)) :: (2,givA (.loc 3) (.si s.now)) :: (3,.slist (s.done.map donA)) :: (4,.list []) :: (5,transO) :: (6,.list [.tup [.ss who,.loc 38]]) :: (7,nodeB s (.loc 34) (.si t) (.so v) (.ss who) (.si s.commit) (.si (eC s b))) :: sB ((14,ownB s 33 t cm v who) :: sC s)) 39 (landK [] (frE (eC s b) p a who [(n_nextNodeIdx,.si y)]) ((38,ansA (.si y) (.bool false) (.bool true)) :: (37,.slist ((lp ++ es).map entA)) :: (34,.edict) :: (33,.slist (ol.map entA)) :: (32,ansA (.si x) (.sb r) (.sb u)) :: (31,.list [.tup [.ss who,.loc 32]]) :: (30,.slist (es.map entA)) :: (29,msgA s t p a b) :: (0,jourA (.loc 37) (.si t) (.so v)) :: (2,givA (.loc 3) (.si s.now)) :: (3,.slist (s.done.map donA)) :: (4,.list []) :: (5,transO) :: (6,.list [.tup [.ss who,.loc 38]]) :: (7,nodeB s (.loc 34) (.si t) (.so v) (.ss who) (.si e2.idx) (.si (eC s b))) :: sB ((14,ownB s 33 t cm v who) :: sC s))):=
  kXF (fun k=>((List.map entA (lp ++ es)).length < 2 ^ 62∧SoftO (ix (List.map entA (lp ++ es)) (-1)) (ent e2))∧(decide (e2.idx < s.commit) = true)∧((List.map entA (lp ++ es)).length < 2 ^ 62∧SoftO (ix (List.map entA (lp ++ es)) (-1)) (ent e2))∧k) (by kernel_rfl) fun _ z=>(And.intro h1 (And.intro (decide_eq_true h2) (And.intro h1 z)))
theorem n8b {X:Cx} {P:Params} {s:S} {t p a b cm x y:Int} {who:Str} {e2:Ent} {v:Option Str} {es ol lp:List Ent} {r u:Bool}  (h1:(List.map entA (lp ++ es)).length < 2 ^ 62∧SoftO (ix (List.map entA (lp ++ es)) (-1)) (ent e2))
    (h2:¬ (e2.idx < s.commit)) :
    XF X P 178 856 (stA P 856 717) (frE (eC s b) p a who [(n_nextNodeIdx,.si y)]) [.av (ent e2),.bit false] ((38,ansA (.si y) (.bool false) (.bool true)) :: (37,.slist ((lp ++ es).map entA)) :: (34,.edict) :: (33,.slist (ol.map entA)) :: (32,ansA (.si x) (.sb r) (.sb u)) :: (31,.list [.tup [.ss who,.loc 32]]) :: (30,.slist (es.map entA)) :: (29,msgA s t p a b) :: (0,jourA (.loc 37) (.si t) (.so v)) :: (2,givA (.loc 3) (.si s.now)) :: (3,.slist (s.done.map donA)) :: (4,.list []) :: (5,transO) :: (6,.list [.tup [.ss who,.loc 38]]) :: (7,nodeB s (.loc 34) (.si t) (.so v) (.ss who) (.si s.commit) (.si (eC s b))) :: sB ((14,ownB s 33 t cm v who) :: sC s)) 39 (landK [] (frE (eC s b) p a who [(n_nextNodeIdx,.si y)]) ((38,ansA (.si y) (.bool false) (.bool true)) :: (37,.slist ((lp ++ es).map entA)) :: (34,.edict) :: (33,.slist (ol.map entA)) :: (32,ansA (.si x) (.sb r) (.sb u)) :: (31,.list [.tup [.ss who,.loc 32]]) :: (30,.slist (es.map entA)) :: (29,msgA s t p a b) :: (0,jourA (.loc 37) (.si t) (.so v)) :: (2,givA (.loc 3) (.si s.now)) :: (3,.slist (s.done.map donA)) :: (4,.list []) :: (5,transO) :: (6,.list [.tup [.ss who,.loc 38]]) :: (7,nodeB s (.loc 34) (.si t) (.so v) (.ss who) (.si s.commit) (.si (eC s b))) :: sB ((14,ownB s 33 t cm v who) :: sC s))):=
  kXF (fun k=>((List.map entA (lp ++ es)).length < 2 ^ 62∧SoftO (ix (List.map entA (lp ++ es)) (-1)) (ent e2))∧(decide (e2.idx < s.commit) = false)∧k) (by kernel_rfl) fun _ z=>(And.intro h1 (And.intro (decide_eq_false h2) z))
theorem n9a {X:Cx} {P:Params} {s:S} {t p a b cm x y c1:Int} {who:Str} {e2:Ent} {v:Option Str} {es ol lp:List Ent} {r u:Bool}  (h1:c1 < eC s b)
    (h2:(List.map entA (lp ++ es)).length < 2 ^ 62∧SoftO (ix (List.map entA (lp ++ es)) (-1)) (ent e2)) :
    XF X P 178 856 (stA P 856 719) (frE (eC s b) p a who [(n_nextNodeIdx,.si y)]) [.bit true,.av (ent e2)] ((38,ansA (.si y) (.bool false) (.bool true)) :: (37,.slist ((lp ++ es).map entA)) :: (34,.edict) :: (33,.slist (ol.map entA)) :: (32,ansA (.si x) (.sb r) (.sb u)) :: (31,.list [.tup [.ss who,.loc 32]]) :: (30,.slist (es.map entA)) :: (29,msgA s t p a b) :: (0,jourA (.loc 37) (.si t) (.so v)) :: (2,givA (.loc 3) (.si s.now)) :: (3,.slist (s.done.map donA)) :: (4,.list []) :: (5,transO) :: (6,.list [.tup [.ss who,.loc 38]]) :: (7,nodeB s (.loc 34) (.si t) (.so v) (.ss who) (.si c1) (.si (eC s b))) :: sB ((14,ownB s 33 t cm v who) :: sC s)) 39 (landK [] (frE (eC s b) p a who [(n_nextNodeIdx,.si y)]) ((38,ansA (.si y) (.bool false) (.bool true)) :: (37,.slist ((lp ++ es).map entA)) :: (34,.edict) :: (33,.slist (ol.map entA)) :: (32,ansA (.si x) (.sb r) (.sb u)) :: (31,.list [.tup [.ss who,.loc 32]]) :: (30,.slist (es.map entA)) :: (29,msgA s t p a b) :: (0,jourA (.loc 37) (.si t) (.so v)) :: (2,givA (.loc 3) (.si s.now)) :: (3,.slist (s.done.map donA)) :: (4,.list []) :: (5,transO) :: (6,.list [.tup [.ss who,.loc 38]]) :: (7,nodeB s (.loc 34) (.si t) (.so v) (.ss who) (.si (if e2.idx < eC s b then e2.idx else eC s b)) (.si (eC s b))) :: sB ((14,ownB s 33 t cm v who) :: sC s))):=
  kXF (fun k=>(decide (c1 < eC s b) = true)∧((List.map entA (lp ++ es)).length < 2 ^ 62∧SoftO (ix (List.map entA (lp ++ es)) (-1)) (ent e2))∧k) (by kernel_rfl) fun _ z=>(And.intro (decide_eq_true h1) (And.intro h2 z))
theorem n9b {X:Cx} {P:Params} {s:S} {t p a b cm x y c1:Int} {who:Str} {v:Option Str} {es ol lp:List Ent} {r u:Bool}  (h1:¬ (c1 < eC s b)) :
    XF X P 178 856 (stA P 856 719) (frE (eC s b) p a who [(n_nextNodeIdx,.si y)]) [.bit false] ((38,ansA (.si y) (.bool false) (.bool true)) :: (37,.slist ((lp ++ es).map entA)) :: (34,.edict) :: (33,.slist (ol.map entA)) :: (32,ansA (.si x) (.sb r) (.sb u)) :: (31,.list [.tup [.ss who,.loc 32]]) :: (30,.slist (es.map entA)) :: (29,msgA s t p a b) :: (0,jourA (.loc 37) (.si t) (.so v)) :: (2,givA (.loc 3) (.si s.now)) :: (3,.slist (s.done.map donA)) :: (4,.list []) :: (5,transO) :: (6,.list [.tup [.ss who,.loc 38]]) :: (7,nodeB s (.loc 34) (.si t) (.so v) (.ss who) (.si c1) (.si (eC s b))) :: sB ((14,ownB s 33 t cm v who) :: sC s)) 39 (landK [] (frE (eC s b) p a who [(n_nextNodeIdx,.si y)]) ((38,ansA (.si y) (.bool false) (.bool true)) :: (37,.slist ((lp ++ es).map entA)) :: (34,.edict) :: (33,.slist (ol.map entA)) :: (32,ansA (.si x) (.sb r) (.sb u)) :: (31,.list [.tup [.ss who,.loc 32]]) :: (30,.slist (es.map entA)) :: (29,msgA s t p a b) :: (0,jourA (.loc 37) (.si t) (.so v)) :: (2,givA (.loc 3) (.si s.now)) :: (3,.slist (s.done.map donA)) :: (4,.list []) :: (5,transO) :: (6,.list [.tup [.ss who,.loc 38]]) :: (7,nodeB s (.loc 34) (.si t) (.so v) (.ss who) (.si c1) (.si (eC s b))) :: sB ((14,ownB s 33 t cm v who) :: sC s))):=
  kXF (fun k=>(decide (c1 < eC s b) = false)∧k) (by kernel_rfl) fun _ z=>(And.intro (decide_eq_false h1) z)
theorem eLong {X:Cx} {P:Params} {s:S} {j num t p a b cm x:Int} {who:Str} {e e0:Ent} {v:Option Str} {es ol:List Ent} {r u:Bool} (c:Com s num who e) (h1:¬ (num.fmod 6 = 0))
    (h2:num.fmod 6 < 3)
    (ka:XsOk X 187 (fdAt (K P) 1109) (kaF0 j num (num.fmod 6) who) (stA P 1109 1097) (kaS0 s (num.fdiv (6 * len s.nl))) 29 .next (kaF1 j num (num.fmod 6) who) (kaS1 s t p a b es who (.si cm) (.so v) (.so (some who)) (ol.map entA) (.si x) (.sb r) (.sb u)) 34)
    (h3:s.term ≤ t)
    (n1:XsOk X 179 (fdAt (K P) 856) (fr3 who) (stA P 856 672) (kaS1 s t p a b es who (.si cm) (.so v) (.so (some who)) (ol.map entA) (.si x) (.sb r) (.sb u)) 34 .next (fr3 who) (kaS1 s t p a b es who (.si cm) (.so v) (.so (some who)) (ol.map entA) (.si x) (.sb r) (.sb u)) 34)
    (n2:XsOk X 179 (fdAt (K P) 856) (fr3 who) (stA P 856 676) ((33,.slist (ol.map entA)) :: (32,ansA (.si x) (.sb r) (.sb u)) :: (31,.list [.tup [.ss who,.loc 32]]) :: (30,.slist (es.map entA)) :: (29,msgA s t p a b) :: (0,jourA (.loc 1) (.si s.term) (.so s.voted)) :: (1,.slist (s.log.map entA)) :: sA s ((7,nodeB s (.loc 13) (.si s.term) (.so s.voted) (.so s.leader) (.si s.commit) (.io s.lc)) :: sB ((13,.edict) :: (14,ownB s 33 t cm v who) :: sC s))) 34 .next (fr3 who) ((34,.edict) :: (33,.slist (ol.map entA)) :: (32,ansA (.si x) (.sb r) (.sb u)) :: (31,.list [.tup [.ss who,.loc 32]]) :: (30,.slist (es.map entA)) :: (29,msgA s t p a b) :: (0,jourA (.loc 1) (.si s.term) (.so s.voted)) :: (1,.slist (s.log.map entA)) :: sA s ((7,nodeB s (.loc 34) (.si s.term) (.so s.voted) (.so s.leader) (.si s.commit) (.io s.lc)) :: sB ((14,ownB s 33 t cm v who) :: sC s))) 35)
    (n3:XsOk X 179 (fdAt (K P) 856) (fr3 who) (stA P 856 679) ((34,.edict) :: (33,.slist (ol.map entA)) :: (32,ansA (.si x) (.sb r) (.sb u)) :: (31,.list [.tup [.ss who,.loc 32]]) :: (30,.slist (es.map entA)) :: (29,msgA s t p a b) :: (0,jourA (.loc 1) (.si s.term) (.so s.voted)) :: (1,.slist (s.log.map entA)) :: sA s ((7,nodeB s (.loc 34) (.si s.term) (.so s.voted) (.ss who) (.si s.commit) (.io s.lc)) :: sB ((14,ownB s 33 t cm v who) :: sC s))) 35 .next (fr3 who) ((34,.edict) :: (33,.slist (ol.map entA)) :: (32,ansA (.si x) (.sb r) (.sb u)) :: (31,.list [.tup [.ss who,.loc 32]]) :: (30,.slist (es.map entA)) :: (29,msgA s t p a b) :: (0,jourA (.loc 1) (.si t) (.so v)) :: (1,.slist (s.log.map entA)) :: sA s ((7,nodeB s (.loc 34) (.si t) (.so v) (.ss who) (.si s.commit) (.io s.lc)) :: sB ((14,ownB s 33 t cm v who) :: sC s))) 35)
    (h4:(List.map entA s.log).length < 2 ^ 62∧SoftO (ix (List.map entA s.log) 0) (ent e0))
    (h5:¬ (p < e0.idx))
    (h6:(cut (List.map entA s.log) (some (p - e0.idx)) none).length < 2 ^ 62)
    (h7:(!(cut (List.map entA s.log) (some (p - e0.idx)) none).isEmpty) = false)
    (h8:e.idx + 1 = x)
    (h9:true = r)
    (h10:false = u)
    (h11:cut (List.map entA s.log) (some 0) none = List.map entA ol∧∀ (x:AV),x ∈ cut (List.map entA s.log) (some 0) none → FlatOk x)
    (h12:s.commit = cm) :
    PR X (T P) 190 (lawFi P) (frmN j num) (turnB P) ⟨[.av (.ss who),.bit false,.bit true,.stmt 1097 .next (kaF1 j num (num.fmod 6) who) (kaS1 s t p a b es who (.si cm) (.so v) (.so (some who)) (ol.map entA) (.si x) (.sb r) (.sb u)) 34,.bit true,.stmt 672 .next (fr3 who) (kaS1 s t p a b es who (.si cm) (.so v) (.so (some who)) (ol.map entA) (.si x) (.sb r) (.sb u)) 34,.stmt 676 .next (fr3 who) ((34,.edict) :: (33,.slist (ol.map entA)) :: (32,ansA (.si x) (.sb r) (.sb u)) :: (31,.list [.tup [.ss who,.loc 32]]) :: (30,.slist (es.map entA)) :: (29,msgA s t p a b) :: (0,jourA (.loc 1) (.si s.term) (.so s.voted)) :: (1,.slist (s.log.map entA)) :: sA s ((7,nodeB s (.loc 34) (.si s.term) (.so s.voted) (.so s.leader) (.si s.commit) (.io s.lc)) :: sB ((14,ownB s 33 t cm v who) :: sC s))) 35,.stmt 679 .next (fr3 who) ((34,.edict) :: (33,.slist (ol.map entA)) :: (32,ansA (.si x) (.sb r) (.sb u)) :: (31,.list [.tup [.ss who,.loc 32]]) :: (30,.slist (es.map entA)) :: (29,msgA s t p a b) :: (0,jourA (.loc 1) (.si t) (.so v)) :: (1,.slist (s.log.map entA)) :: sA s ((7,nodeB s (.loc 34) (.si t) (.so v) (.ss who) (.si s.commit) (.io s.lc)) :: sB ((14,ownB s 33 t cm v who) :: sC s))) 35,.av (ent e0),.bit false,.bit false,.av (ent e),.av (.bool true),.av (.bool true),.av (.bool true),.av (.bool true),.av (.bool true),.bit false],sgs s,27⟩ (leafQ [0,1,2,3,4,5,6,7,8,9,10,11,12,34,14,33,16,17,18,19,20,21,22,23,24,25,26] ({ qOf s with term:=.si t,jterm:=.si t,oterm:=.si t,voted:=.so v,jvoted:=.so v,ovoted:=.so v,leader:=.ss who,oleader:=.so (some who),dead:=.si (s.now + 400),oreset:=.si s.now,lc:=.si (eC s b),ocommit:=.si cm,olog:=.slist (ol.map entA) })):=
  kmp (p:=(s.nl.length < 2 ^ 62)∧(6 * len s.nl ≠ 0∧(6 * len s.nl).natAbs < 1073741824)∧(s.nl.length < 2 ^ 62)∧(len s.nl ≠ 0)∧(s.nl.length < 2 ^ 62∧SoftO (ix s.nl ((num.fdiv 6).fmod (len s.nl))) (AV.ss who))∧(decide (num.fmod 6 = 0) = false)∧(decide (num.fmod 6 < 3) = true)∧(XsOk X 187 (fdAt (K P) 1109) (kaF0 j num (num.fmod 6) who) (stA P 1109 1097) (kaS0 s (num.fdiv (6 * len s.nl))) 29 .next (kaF1 j num (num.fmod 6) who) (kaS1 s t p a b es who (.si cm) (.so v) (.so (some who)) (ol.map entA) (.si x) (.sb r) (.sb u)) 34)∧(decide (s.term ≤ t) = true)∧(XsOk X 179 (fdAt (K P) 856) (fr3 who) (stA P 856 672) (kaS1 s t p a b es who (.si cm) (.so v) (.so (some who)) (ol.map entA) (.si x) (.sb r) (.sb u)) 34 .next (fr3 who) (kaS1 s t p a b es who (.si cm) (.so v) (.so (some who)) (ol.map entA) (.si x) (.sb r) (.sb u)) 34)∧(XsOk X 179 (fdAt (K P) 856) (fr3 who) (stA P 856 676) ((33,.slist (ol.map entA)) :: (32,ansA (.si x) (.sb r) (.sb u)) :: (31,.list [.tup [.ss who,.loc 32]]) :: (30,.slist (es.map entA)) :: (29,msgA s t p a b) :: (0,jourA (.loc 1) (.si s.term) (.so s.voted)) :: (1,.slist (s.log.map entA)) :: sA s ((7,nodeB s (.loc 13) (.si s.term) (.so s.voted) (.so s.leader) (.si s.commit) (.io s.lc)) :: sB ((13,.edict) :: (14,ownB s 33 t cm v who) :: sC s))) 34 .next (fr3 who) ((34,.edict) :: (33,.slist (ol.map entA)) :: (32,ansA (.si x) (.sb r) (.sb u)) :: (31,.list [.tup [.ss who,.loc 32]]) :: (30,.slist (es.map entA)) :: (29,msgA s t p a b) :: (0,jourA (.loc 1) (.si s.term) (.so s.voted)) :: (1,.slist (s.log.map entA)) :: sA s ((7,nodeB s (.loc 34) (.si s.term) (.so s.voted) (.so s.leader) (.si s.commit) (.io s.lc)) :: sB ((14,ownB s 33 t cm v who) :: sC s))) 35)∧(XsOk X 179 (fdAt (K P) 856) (fr3 who) (stA P 856 679) ((34,.edict) :: (33,.slist (ol.map entA)) :: (32,ansA (.si x) (.sb r) (.sb u)) :: (31,.list [.tup [.ss who,.loc 32]]) :: (30,.slist (es.map entA)) :: (29,msgA s t p a b) :: (0,jourA (.loc 1) (.si s.term) (.so s.voted)) :: (1,.slist (s.log.map entA)) :: sA s ((7,nodeB s (.loc 34) (.si s.term) (.so s.voted) (.ss who) (.si s.commit) (.io s.lc)) :: sB ((14,ownB s 33 t cm v who) :: sC s))) 35 .next (fr3 who) ((34,.edict) :: (33,.slist (ol.map entA)) :: (32,ansA (.si x) (.sb r) (.sb u)) :: (31,.list [.tup [.ss who,.loc 32]]) :: (30,.slist (es.map entA)) :: (29,msgA s t p a b) :: (0,jourA (.loc 1) (.si t) (.so v)) :: (1,.slist (s.log.map entA)) :: sA s ((7,nodeB s (.loc 34) (.si t) (.so v) (.ss who) (.si s.commit) (.io s.lc)) :: sB ((14,ownB s 33 t cm v who) :: sC s))) 35)∧((List.map entA s.log).length < 2 ^ 62∧SoftO (ix (List.map entA s.log) 0) (ent e0))∧(decide (p < e0.idx) = false)∧((List.map entA s.log).length ≤ sizeLine)∧((cut (List.map entA s.log) (some (p - e0.idx)) none).length < 2 ^ 62)∧((!(cut (List.map entA s.log) (some (p - e0.idx)) none).isEmpty) = false)∧((List.map entA s.log).length < 2 ^ 62∧SoftO (ix (List.map entA s.log) (-1)) (ent e))∧(who = who)∧(e.idx + 1 = x)∧(true = r)∧(false = u)∧((List.map entA s.log).length ≤ sizeLine)∧(cut (List.map entA s.log) (some 0) none = List.map entA ol∧∀ (x:AV),x ∈ cut (List.map entA s.log) (some 0) none → FlatOk x)∧(List.map donA s.done = List.map donA s.done∧∀ (x:AV),x ∈ List.map donA s.done → FlatOk x)∧(t = t)∧(t = t)∧(v = v)∧(s.commit = cm)∧(s.at1 = s.at1)∧((!decide (some who = some who)) = false)∧fin [0,1,2,3,4,5,6,7,8,9,10,11,12,34,14,33,16,17,18,19,20,21,22,23,24,25,26] ({ qOf s with term:=.si t,jterm:=.si t,oterm:=.si t,voted:=.so v,jvoted:=.so v,ovoted:=.so v,leader:=.ss who,oleader:=.so (some who),dead:=.si (s.now + 400),oreset:=.si s.now,lc:=.si (eC s b),ocommit:=.si cm,olog:=.slist (ol.map entA) })) (by kernel_rfl) (And.intro c.a1 (And.intro c.a2 (And.intro c.a1 (And.intro c.a3 (And.intro c.a4 (And.intro (decide_eq_false h1) (And.intro (decide_eq_true h2) (And.intro ka (And.intro (decide_eq_true h3) (And.intro n1 (And.intro n2 (And.intro n3 (And.intro h4 (And.intro (decide_eq_false h5) (And.intro c.l2 (And.intro h6 (And.intro h7 (And.intro c.l3 (And.intro rfl (And.intro h8 (And.intro h9 (And.intro h10 (And.intro c.l2 (And.intro h11 (And.intro c.d1 (And.intro rfl (And.intro rfl (And.intro rfl (And.intro h12 (And.intro rfl (And.intro (leq (some who)) (fin_ok [0,1,2,3,4,5,6,7,8,9,10,11,12,34,14,33,16,17,18,19,20,21,22,23,24,25,26] ({ qOf s with term:=.si t,jterm:=.si t,oterm:=.si t,voted:=.so v,jvoted:=.so v,ovoted:=.so v,leader:=.ss who,oleader:=.so (some who),dead:=.si (s.now + 400),oreset:=.si s.now,lc:=.si (eC s b),ocommit:=.si cm,olog:=.slist (ol.map entA) })))))))))))))))))))))))))))))))))
theorem eMis {X:Cx} {P:Params} {s:S} {j num t p a b cm x:Int} {who:Str} {e e0 e1:Ent} {v:Option Str} {es ol:List Ent} {r u:Bool} (c:Com s num who e) (h1:¬ (num.fmod 6 = 0))
    (h2:num.fmod 6 < 3)
    (ka:XsOk X 187 (fdAt (K P) 1109) (kaF0 j num (num.fmod 6) who) (stA P 1109 1097) (kaS0 s (num.fdiv (6 * len s.nl))) 29 .next (kaF1 j num (num.fmod 6) who) (kaS1 s t p a b es who (.si cm) (.so v) (.so (some who)) (ol.map entA) (.si x) (.sb r) (.sb u)) 34)
    (h3:s.term ≤ t)
    (n1:XsOk X 179 (fdAt (K P) 856) (fr3 who) (stA P 856 672) (kaS1 s t p a b es who (.si cm) (.so v) (.so (some who)) (ol.map entA) (.si x) (.sb r) (.sb u)) 34 .next (fr3 who) (kaS1 s t p a b es who (.si cm) (.so v) (.so (some who)) (ol.map entA) (.si x) (.sb r) (.sb u)) 34)
    (n2:XsOk X 179 (fdAt (K P) 856) (fr3 who) (stA P 856 676) ((33,.slist (ol.map entA)) :: (32,ansA (.si x) (.sb r) (.sb u)) :: (31,.list [.tup [.ss who,.loc 32]]) :: (30,.slist (es.map entA)) :: (29,msgA s t p a b) :: (0,jourA (.loc 1) (.si s.term) (.so s.voted)) :: (1,.slist (s.log.map entA)) :: sA s ((7,nodeB s (.loc 13) (.si s.term) (.so s.voted) (.so s.leader) (.si s.commit) (.io s.lc)) :: sB ((13,.edict) :: (14,ownB s 33 t cm v who) :: sC s))) 34 .next (fr3 who) ((34,.edict) :: (33,.slist (ol.map entA)) :: (32,ansA (.si x) (.sb r) (.sb u)) :: (31,.list [.tup [.ss who,.loc 32]]) :: (30,.slist (es.map entA)) :: (29,msgA s t p a b) :: (0,jourA (.loc 1) (.si s.term) (.so s.voted)) :: (1,.slist (s.log.map entA)) :: sA s ((7,nodeB s (.loc 34) (.si s.term) (.so s.voted) (.so s.leader) (.si s.commit) (.io s.lc)) :: sB ((14,ownB s 33 t cm v who) :: sC s))) 35)
    (n3:XsOk X 179 (fdAt (K P) 856) (fr3 who) (stA P 856 679) ((34,.edict) :: (33,.slist (ol.map entA)) :: (32,ansA (.si x) (.sb r) (.sb u)) :: (31,.list [.tup [.ss who,.loc 32]]) :: (30,.slist (es.map entA)) :: (29,msgA s t p a b) :: (0,jourA (.loc 1) (.si s.term) (.so s.voted)) :: (1,.slist (s.log.map entA)) :: sA s ((7,nodeB s (.loc 34) (.si s.term) (.so s.voted) (.ss who) (.si s.commit) (.io s.lc)) :: sB ((14,ownB s 33 t cm v who) :: sC s))) 35 .next (fr3 who) ((34,.edict) :: (33,.slist (ol.map entA)) :: (32,ansA (.si x) (.sb r) (.sb u)) :: (31,.list [.tup [.ss who,.loc 32]]) :: (30,.slist (es.map entA)) :: (29,msgA s t p a b) :: (0,jourA (.loc 1) (.si t) (.so v)) :: (1,.slist (s.log.map entA)) :: sA s ((7,nodeB s (.loc 34) (.si t) (.so v) (.ss who) (.si s.commit) (.io s.lc)) :: sB ((14,ownB s 33 t cm v who) :: sC s))) 35)
    (h4:(List.map entA s.log).length < 2 ^ 62∧SoftO (ix (List.map entA s.log) 0) (ent e0))
    (h5:¬ (p < e0.idx))
    (h6:(cut (List.map entA s.log) (some (p - e0.idx)) none).length < 2 ^ 62)
    (h7:(!(cut (List.map entA s.log) (some (p - e0.idx)) none).isEmpty) = true)
    (h8:(cut (List.map entA s.log) (some (p - e0.idx)) none).length < 2 ^ 62∧SoftO (ix (cut (List.map entA s.log) (some (p - e0.idx)) none) 0) (ent e1))
    (h9:(!decide (e1.term = a)) = true)
    (h10:p = x)
    (h11:true = r)
    (h12:false = u)
    (h13:cut (List.map entA s.log) (some 0) none = List.map entA ol∧∀ (x:AV),x ∈ cut (List.map entA s.log) (some 0) none → FlatOk x)
    (h14:s.commit = cm) :
    PR X (T P) 190 (lawFi P) (frmN j num) (turnB P) ⟨[.av (.ss who),.bit false,.bit true,.stmt 1097 .next (kaF1 j num (num.fmod 6) who) (kaS1 s t p a b es who (.si cm) (.so v) (.so (some who)) (ol.map entA) (.si x) (.sb r) (.sb u)) 34,.bit true,.stmt 672 .next (fr3 who) (kaS1 s t p a b es who (.si cm) (.so v) (.so (some who)) (ol.map entA) (.si x) (.sb r) (.sb u)) 34,.stmt 676 .next (fr3 who) ((34,.edict) :: (33,.slist (ol.map entA)) :: (32,ansA (.si x) (.sb r) (.sb u)) :: (31,.list [.tup [.ss who,.loc 32]]) :: (30,.slist (es.map entA)) :: (29,msgA s t p a b) :: (0,jourA (.loc 1) (.si s.term) (.so s.voted)) :: (1,.slist (s.log.map entA)) :: sA s ((7,nodeB s (.loc 34) (.si s.term) (.so s.voted) (.so s.leader) (.si s.commit) (.io s.lc)) :: sB ((14,ownB s 33 t cm v who) :: sC s))) 35,.stmt 679 .next (fr3 who) ((34,.edict) :: (33,.slist (ol.map entA)) :: (32,ansA (.si x) (.sb r) (.sb u)) :: (31,.list [.tup [.ss who,.loc 32]]) :: (30,.slist (es.map entA)) :: (29,msgA s t p a b) :: (0,jourA (.loc 1) (.si t) (.so v)) :: (1,.slist (s.log.map entA)) :: sA s ((7,nodeB s (.loc 34) (.si t) (.so v) (.ss who) (.si s.commit) (.io s.lc)) :: sB ((14,ownB s 33 t cm v who) :: sC s))) 35,.av (ent e0),.bit false,.bit true,.av (ent e1),.bit true,.av (.bool true),.av (.bool true),.av (.bool true),.av (.bool true),.av (.bool true),.bit false],sgs s,27⟩ (leafQ [0,1,2,3,4,5,6,7,8,9,10,11,12,34,14,33,16,17,18,19,20,21,22,23,24,25,26] ({ qOf s with term:=.si t,jterm:=.si t,oterm:=.si t,voted:=.so v,jvoted:=.so v,ovoted:=.so v,leader:=.ss who,oleader:=.so (some who),dead:=.si (s.now + 400),oreset:=.si s.now,lc:=.si (eC s b),ocommit:=.si cm,olog:=.slist (ol.map entA) })):=
  kmp (p:=(s.nl.length < 2 ^ 62)∧(6 * len s.nl ≠ 0∧(6 * len s.nl).natAbs < 1073741824)∧(s.nl.length < 2 ^ 62)∧(len s.nl ≠ 0)∧(s.nl.length < 2 ^ 62∧SoftO (ix s.nl ((num.fdiv 6).fmod (len s.nl))) (AV.ss who))∧(decide (num.fmod 6 = 0) = false)∧(decide (num.fmod 6 < 3) = true)∧(XsOk X 187 (fdAt (K P) 1109) (kaF0 j num (num.fmod 6) who) (stA P 1109 1097) (kaS0 s (num.fdiv (6 * len s.nl))) 29 .next (kaF1 j num (num.fmod 6) who) (kaS1 s t p a b es who (.si cm) (.so v) (.so (some who)) (ol.map entA) (.si x) (.sb r) (.sb u)) 34)∧(decide (s.term ≤ t) = true)∧(XsOk X 179 (fdAt (K P) 856) (fr3 who) (stA P 856 672) (kaS1 s t p a b es who (.si cm) (.so v) (.so (some who)) (ol.map entA) (.si x) (.sb r) (.sb u)) 34 .next (fr3 who) (kaS1 s t p a b es who (.si cm) (.so v) (.so (some who)) (ol.map entA) (.si x) (.sb r) (.sb u)) 34)∧(XsOk X 179 (fdAt (K P) 856) (fr3 who) (stA P 856 676) ((33,.slist (ol.map entA)) :: (32,ansA (.si x) (.sb r) (.sb u)) :: (31,.list [.tup [.ss who,.loc 32]]) :: (30,.slist (es.map entA)) :: (29,msgA s t p a b) :: (0,jourA (.loc 1) (.si s.term) (.so s.voted)) :: (1,.slist (s.log.map entA)) :: sA s ((7,nodeB s (.loc 13) (.si s.term) (.so s.voted) (.so s.leader) (.si s.commit) (.io s.lc)) :: sB ((13,.edict) :: (14,ownB s 33 t cm v who) :: sC s))) 34 .next (fr3 who) ((34,.edict) :: (33,.slist (ol.map entA)) :: (32,ansA (.si x) (.sb r) (.sb u)) :: (31,.list [.tup [.ss who,.loc 32]]) :: (30,.slist (es.map entA)) :: (29,msgA s t p a b) :: (0,jourA (.loc 1) (.si s.term) (.so s.voted)) :: (1,.slist (s.log.map entA)) :: sA s ((7,nodeB s (.loc 34) (.si s.term) (.so s.voted) (.so s.leader) (.si s.commit) (.io s.lc)) :: sB ((14,ownB s 33 t cm v who) :: sC s))) 35)∧(XsOk X 179 (fdAt (K P) 856) (fr3 who) (stA P 856 679) ((34,.edict) :: (33,.slist (ol.map entA)) :: (32,ansA (.si x) (.sb r) (.sb u)) :: (31,.list [.tup [.ss who,.loc 32]]) :: (30,.slist (es.map entA)) :: (29,msgA s t p a b) :: (0,jourA (.loc 1) (.si s.term) (.so s.voted)) :: (1,.slist (s.log.map entA)) :: sA s ((7,nodeB s (.loc 34) (.si s.term) (.so s.voted) (.ss who) (.si s.commit) (.io s.lc)) :: sB ((14,ownB s 33 t cm v who) :: sC s))) 35 .next (fr3 who) ((34,.edict) :: (33,.slist (ol.map entA)) :: (32,ansA (.si x) (.sb r) (.sb u)) :: (31,.list [.tup [.ss who,.loc 32]]) :: (30,.slist (es.map entA)) :: (29,msgA s t p a b) :: (0,jourA (.loc 1) (.si t) (.so v)) :: (1,.slist (s.log.map entA)) :: sA s ((7,nodeB s (.loc 34) (.si t) (.so v) (.ss who) (.si s.commit) (.io s.lc)) :: sB ((14,ownB s 33 t cm v who) :: sC s))) 35)∧((List.map entA s.log).length < 2 ^ 62∧SoftO (ix (List.map entA s.log) 0) (ent e0))∧(decide (p < e0.idx) = false)∧((List.map entA s.log).length ≤ sizeLine)∧((cut (List.map entA s.log) (some (p - e0.idx)) none).length < 2 ^ 62)∧((!(cut (List.map entA s.log) (some (p - e0.idx)) none).isEmpty) = true)∧((cut (List.map entA s.log) (some (p - e0.idx)) none).length < 2 ^ 62∧SoftO (ix (cut (List.map entA s.log) (some (p - e0.idx)) none) 0) (ent e1))∧((!decide (e1.term = a)) = true)∧(who = who)∧(p = x)∧(true = r)∧(false = u)∧((List.map entA s.log).length ≤ sizeLine)∧(cut (List.map entA s.log) (some 0) none = List.map entA ol∧∀ (x:AV),x ∈ cut (List.map entA s.log) (some 0) none → FlatOk x)∧(List.map donA s.done = List.map donA s.done∧∀ (x:AV),x ∈ List.map donA s.done → FlatOk x)∧(t = t)∧(t = t)∧(v = v)∧(s.commit = cm)∧(s.at1 = s.at1)∧((!decide (some who = some who)) = false)∧fin [0,1,2,3,4,5,6,7,8,9,10,11,12,34,14,33,16,17,18,19,20,21,22,23,24,25,26] ({ qOf s with term:=.si t,jterm:=.si t,oterm:=.si t,voted:=.so v,jvoted:=.so v,ovoted:=.so v,leader:=.ss who,oleader:=.so (some who),dead:=.si (s.now + 400),oreset:=.si s.now,lc:=.si (eC s b),ocommit:=.si cm,olog:=.slist (ol.map entA) })) (by kernel_rfl) (And.intro c.a1 (And.intro c.a2 (And.intro c.a1 (And.intro c.a3 (And.intro c.a4 (And.intro (decide_eq_false h1) (And.intro (decide_eq_true h2) (And.intro ka (And.intro (decide_eq_true h3) (And.intro n1 (And.intro n2 (And.intro n3 (And.intro h4 (And.intro (decide_eq_false h5) (And.intro c.l2 (And.intro h6 (And.intro h7 (And.intro h8 (And.intro h9 (And.intro rfl (And.intro h10 (And.intro h11 (And.intro h12 (And.intro c.l2 (And.intro h13 (And.intro c.d1 (And.intro rfl (And.intro rfl (And.intro rfl (And.intro h14 (And.intro rfl (And.intro (leq (some who)) (fin_ok [0,1,2,3,4,5,6,7,8,9,10,11,12,34,14,33,16,17,18,19,20,21,22,23,24,25,26] ({ qOf s with term:=.si t,jterm:=.si t,oterm:=.si t,voted:=.so v,jvoted:=.so v,ovoted:=.so v,leader:=.ss who,oleader:=.so (some who),dead:=.si (s.now + 400),oreset:=.si s.now,lc:=.si (eC s b),ocommit:=.si cm,olog:=.slist (ol.map entA) }))))))))))))))))))))))))))))))))))
theorem eAgr {X:Cx} {P:Params} {s:S} {j num t p a b cm x y c1 c2:Int} {who:Str} {e e0 e1:Ent} {v:Option Str} {es ol lp:List Ent} {r u:Bool} (c:Com s num who e) (h1:¬ (num.fmod 6 = 0))
    (h2:num.fmod 6 < 3)
    (ka:XsOk X 187 (fdAt (K P) 1109) (kaF0 j num (num.fmod 6) who) (stA P 1109 1097) (kaS0 s (num.fdiv (6 * len s.nl))) 29 .next (kaF1 j num (num.fmod 6) who) (kaS1 s t p a b es who (.si cm) (.so v) (.so (some who)) (ol.map entA) (.si x) (.sb r) (.sb u)) 34)
    (h3:s.term ≤ t)
    (n1:XsOk X 179 (fdAt (K P) 856) (fr3 who) (stA P 856 672) (kaS1 s t p a b es who (.si cm) (.so v) (.so (some who)) (ol.map entA) (.si x) (.sb r) (.sb u)) 34 .next (fr3 who) (kaS1 s t p a b es who (.si cm) (.so v) (.so (some who)) (ol.map entA) (.si x) (.sb r) (.sb u)) 34)
    (n2:XsOk X 179 (fdAt (K P) 856) (fr3 who) (stA P 856 676) ((33,.slist (ol.map entA)) :: (32,ansA (.si x) (.sb r) (.sb u)) :: (31,.list [.tup [.ss who,.loc 32]]) :: (30,.slist (es.map entA)) :: (29,msgA s t p a b) :: (0,jourA (.loc 1) (.si s.term) (.so s.voted)) :: (1,.slist (s.log.map entA)) :: sA s ((7,nodeB s (.loc 13) (.si s.term) (.so s.voted) (.so s.leader) (.si s.commit) (.io s.lc)) :: sB ((13,.edict) :: (14,ownB s 33 t cm v who) :: sC s))) 34 .next (fr3 who) ((34,.edict) :: (33,.slist (ol.map entA)) :: (32,ansA (.si x) (.sb r) (.sb u)) :: (31,.list [.tup [.ss who,.loc 32]]) :: (30,.slist (es.map entA)) :: (29,msgA s t p a b) :: (0,jourA (.loc 1) (.si s.term) (.so s.voted)) :: (1,.slist (s.log.map entA)) :: sA s ((7,nodeB s (.loc 34) (.si s.term) (.so s.voted) (.so s.leader) (.si s.commit) (.io s.lc)) :: sB ((14,ownB s 33 t cm v who) :: sC s))) 35)
    (n3:XsOk X 179 (fdAt (K P) 856) (fr3 who) (stA P 856 679) ((34,.edict) :: (33,.slist (ol.map entA)) :: (32,ansA (.si x) (.sb r) (.sb u)) :: (31,.list [.tup [.ss who,.loc 32]]) :: (30,.slist (es.map entA)) :: (29,msgA s t p a b) :: (0,jourA (.loc 1) (.si s.term) (.so s.voted)) :: (1,.slist (s.log.map entA)) :: sA s ((7,nodeB s (.loc 34) (.si s.term) (.so s.voted) (.ss who) (.si s.commit) (.io s.lc)) :: sB ((14,ownB s 33 t cm v who) :: sC s))) 35 .next (fr3 who) ((34,.edict) :: (33,.slist (ol.map entA)) :: (32,ansA (.si x) (.sb r) (.sb u)) :: (31,.list [.tup [.ss who,.loc 32]]) :: (30,.slist (es.map entA)) :: (29,msgA s t p a b) :: (0,jourA (.loc 1) (.si t) (.so v)) :: (1,.slist (s.log.map entA)) :: sA s ((7,nodeB s (.loc 34) (.si t) (.so v) (.ss who) (.si s.commit) (.io s.lc)) :: sB ((14,ownB s 33 t cm v who) :: sC s))) 35)
    (h4:(List.map entA s.log).length < 2 ^ 62∧SoftO (ix (List.map entA s.log) 0) (ent e0))
    (h5:¬ (p < e0.idx))
    (h6:(cut (List.map entA s.log) (some (p - e0.idx)) none).length < 2 ^ 62)
    (h7:(!(cut (List.map entA s.log) (some (p - e0.idx)) none).isEmpty) = true)
    (h8:(cut (List.map entA s.log) (some (p - e0.idx)) none).length < 2 ^ 62∧SoftO (ix (cut (List.map entA s.log) (some (p - e0.idx)) none) 0) (ent e1))
    (h9:(!decide (e1.term = a)) = false)
    (n5:XsOk X 178 (fdAt (K P) 856) (frE (eC s b) p a who []) (stA P 856 695) ((36,.slist (cut (s.log.map entA) (some (p - e0.idx)) none)) :: (35,.list []) :: (34,.edict) :: (33,.slist (ol.map entA)) :: (32,ansA (.si x) (.sb r) (.sb u)) :: (31,.list [.tup [.ss who,.loc 32]]) :: (30,.slist (es.map entA)) :: (29,msgA s t p a b) :: (0,jourA (.loc 1) (.si t) (.so v)) :: (1,.slist (s.log.map entA)) :: sA s ((7,nodeB s (.loc 34) (.si t) (.so v) (.ss who) (.si s.commit) (.si (eC s b))) :: sB ((14,ownB s 33 t cm v who) :: sC s))) 37 .next (frE (eC s b) p a who []) ((37,.slist (lp.map entA)) :: (34,.edict) :: (33,.slist (ol.map entA)) :: (32,ansA (.si x) (.sb r) (.sb u)) :: (31,.list [.tup [.ss who,.loc 32]]) :: (30,.slist (es.map entA)) :: (29,msgA s t p a b) :: (0,jourA (.loc 37) (.si t) (.so v)) :: sA s ((7,nodeB s (.loc 34) (.si t) (.so v) (.ss who) (.si s.commit) (.si (eC s b))) :: sB ((14,ownB s 33 t cm v who) :: sC s))) 38)
    (n6:XsOk X 178 (fdAt (K P) 856) (frE (eC s b) p a who []) (stA P 856 702) ((37,.slist (lp.map entA)) :: (34,.edict) :: (33,.slist (ol.map entA)) :: (32,ansA (.si x) (.sb r) (.sb u)) :: (31,.list [.tup [.ss who,.loc 32]]) :: (30,.slist (es.map entA)) :: (29,msgA s t p a b) :: (0,jourA (.loc 37) (.si t) (.so v)) :: sA s ((7,nodeB s (.loc 34) (.si t) (.so v) (.ss who) (.si s.commit) (.si (eC s b))) :: sB ((14,ownB s 33 t cm v who) :: sC s))) 38 .next (frE (eC s b) p a who []) ((37,.slist ((lp ++ es).map entA)) :: (34,.edict) :: (33,.slist (ol.map entA)) :: (32,ansA (.si x) (.sb r) (.sb u)) :: (31,.list [.tup [.ss who,.loc 32]]) :: (30,.slist (es.map entA)) :: (29,msgA s t p a b) :: (0,jourA (.loc 37) (.si t) (.so v)) :: sA s ((7,nodeB s (.loc 34) (.si t) (.so v) (.ss who) (.si s.commit) (.si (eC s b))) :: sB ((14,ownB s 33 t cm v who) :: sC s))) 38)
    (n7:XsOk X 178 (fdAt (K P) 856) (frE (eC s b) p a who [(n_nextNodeIdx,.si (p + 1))]) (stA P 856 710) ((37,.slist ((lp ++ es).map entA)) :: (34,.edict) :: (33,.slist (ol.map entA)) :: (32,ansA (.si x) (.sb r) (.sb u)) :: (31,.list [.tup [.ss who,.loc 32]]) :: (30,.slist (es.map entA)) :: (29,msgA s t p a b) :: (0,jourA (.loc 37) (.si t) (.so v)) :: sA s ((7,nodeB s (.loc 34) (.si t) (.so v) (.ss who) (.si s.commit) (.si (eC s b))) :: sB ((14,ownB s 33 t cm v who) :: sC s))) 38 .next (frE (eC s b) p a who [(n_nextNodeIdx,.si y)]) ((37,.slist ((lp ++ es).map entA)) :: (34,.edict) :: (33,.slist (ol.map entA)) :: (32,ansA (.si x) (.sb r) (.sb u)) :: (31,.list [.tup [.ss who,.loc 32]]) :: (30,.slist (es.map entA)) :: (29,msgA s t p a b) :: (0,jourA (.loc 37) (.si t) (.so v)) :: sA s ((7,nodeB s (.loc 34) (.si t) (.so v) (.ss who) (.si s.commit) (.si (eC s b))) :: sB ((14,ownB s 33 t cm v who) :: sC s))) 38)
    (n8:XsOk X 179 (fdAt (K P) 856) (frE (eC s b) p a who [(n_nextNodeIdx,.si y)]) (stA P 856 717) ((38,ansA (.si y) (.bool false) (.bool true)) :: (37,.slist ((lp ++ es).map entA)) :: (34,.edict) :: (33,.slist (ol.map entA)) :: (32,ansA (.si x) (.sb r) (.sb u)) :: (31,.list [.tup [.ss who,.loc 32]]) :: (30,.slist (es.map entA)) :: (29,msgA s t p a b) :: (0,jourA (.loc 37) (.si t) (.so v)) :: (2,givA (.loc 3) (.si s.now)) :: (3,.slist (s.done.map donA)) :: (4,.list []) :: (5,transO) :: (6,.list [.tup [.ss who,.loc 38]]) :: (7,nodeB s (.loc 34) (.si t) (.so v) (.ss who) (.si s.commit) (.si (eC s b))) :: sB ((14,ownB s 33 t cm v who) :: sC s)) 39 .next (frE (eC s b) p a who [(n_nextNodeIdx,.si y)]) ((38,ansA (.si y) (.bool false) (.bool true)) :: (37,.slist ((lp ++ es).map entA)) :: (34,.edict) :: (33,.slist (ol.map entA)) :: (32,ansA (.si x) (.sb r) (.sb u)) :: (31,.list [.tup [.ss who,.loc 32]]) :: (30,.slist (es.map entA)) :: (29,msgA s t p a b) :: (0,jourA (.loc 37) (.si t) (.so v)) :: (2,givA (.loc 3) (.si s.now)) :: (3,.slist (s.done.map donA)) :: (4,.list []) :: (5,transO) :: (6,.list [.tup [.ss who,.loc 38]]) :: (7,nodeB s (.loc 34) (.si t) (.so v) (.ss who) (.si c1) (.si (eC s b))) :: sB ((14,ownB s 33 t cm v who) :: sC s)) 39)
    (n9:XsOk X 179 (fdAt (K P) 856) (frE (eC s b) p a who [(n_nextNodeIdx,.si y)]) (stA P 856 719) ((38,ansA (.si y) (.bool false) (.bool true)) :: (37,.slist ((lp ++ es).map entA)) :: (34,.edict) :: (33,.slist (ol.map entA)) :: (32,ansA (.si x) (.sb r) (.sb u)) :: (31,.list [.tup [.ss who,.loc 32]]) :: (30,.slist (es.map entA)) :: (29,msgA s t p a b) :: (0,jourA (.loc 37) (.si t) (.so v)) :: (2,givA (.loc 3) (.si s.now)) :: (3,.slist (s.done.map donA)) :: (4,.list []) :: (5,transO) :: (6,.list [.tup [.ss who,.loc 38]]) :: (7,nodeB s (.loc 34) (.si t) (.so v) (.ss who) (.si c1) (.si (eC s b))) :: sB ((14,ownB s 33 t cm v who) :: sC s)) 39 .next (frE (eC s b) p a who [(n_nextNodeIdx,.si y)]) ((38,ansA (.si y) (.bool false) (.bool true)) :: (37,.slist ((lp ++ es).map entA)) :: (34,.edict) :: (33,.slist (ol.map entA)) :: (32,ansA (.si x) (.sb r) (.sb u)) :: (31,.list [.tup [.ss who,.loc 32]]) :: (30,.slist (es.map entA)) :: (29,msgA s t p a b) :: (0,jourA (.loc 37) (.si t) (.so v)) :: (2,givA (.loc 3) (.si s.now)) :: (3,.slist (s.done.map donA)) :: (4,.list []) :: (5,transO) :: (6,.list [.tup [.ss who,.loc 38]]) :: (7,nodeB s (.loc 34) (.si t) (.so v) (.ss who) (.si c2) (.si (eC s b))) :: sB ((14,ownB s 33 t cm v who) :: sC s)) 39)
    (h10:y = x)
    (h11:false = r)
    (h12:true = u)
    (h13:(List.map entA (lp ++ es)).length ≤ sizeLine)
    (h14:cut (List.map entA (lp ++ es)) (some 0) none = List.map entA ol∧∀ (x:AV),x ∈ cut (List.map entA (lp ++ es)) (some 0) none → FlatOk x)
    (h15:c2 = cm) :
    PR X (T P) 190 (lawFi P) (frmN j num) (turnB P) ⟨[.av (.ss who),.bit false,.bit true,.stmt 1097 .next (kaF1 j num (num.fmod 6) who) (kaS1 s t p a b es who (.si cm) (.so v) (.so (some who)) (ol.map entA) (.si x) (.sb r) (.sb u)) 34,.bit true,.stmt 672 .next (fr3 who) (kaS1 s t p a b es who (.si cm) (.so v) (.so (some who)) (ol.map entA) (.si x) (.sb r) (.sb u)) 34,.stmt 676 .next (fr3 who) ((34,.edict) :: (33,.slist (ol.map entA)) :: (32,ansA (.si x) (.sb r) (.sb u)) :: (31,.list [.tup [.ss who,.loc 32]]) :: (30,.slist (es.map entA)) :: (29,msgA s t p a b) :: (0,jourA (.loc 1) (.si s.term) (.so s.voted)) :: (1,.slist (s.log.map entA)) :: sA s ((7,nodeB s (.loc 34) (.si s.term) (.so s.voted) (.so s.leader) (.si s.commit) (.io s.lc)) :: sB ((14,ownB s 33 t cm v who) :: sC s))) 35,.stmt 679 .next (fr3 who) ((34,.edict) :: (33,.slist (ol.map entA)) :: (32,ansA (.si x) (.sb r) (.sb u)) :: (31,.list [.tup [.ss who,.loc 32]]) :: (30,.slist (es.map entA)) :: (29,msgA s t p a b) :: (0,jourA (.loc 1) (.si t) (.so v)) :: (1,.slist (s.log.map entA)) :: sA s ((7,nodeB s (.loc 34) (.si t) (.so v) (.ss who) (.si s.commit) (.io s.lc)) :: sB ((14,ownB s 33 t cm v who) :: sC s))) 35,.av (ent e0),.bit false,.bit true,.av (ent e1),.bit false,.stmt 695 .next (frE (eC s b) p a who []) ((37,.slist (lp.map entA)) :: (34,.edict) :: (33,.slist (ol.map entA)) :: (32,ansA (.si x) (.sb r) (.sb u)) :: (31,.list [.tup [.ss who,.loc 32]]) :: (30,.slist (es.map entA)) :: (29,msgA s t p a b) :: (0,jourA (.loc 37) (.si t) (.so v)) :: sA s ((7,nodeB s (.loc 34) (.si t) (.so v) (.ss who) (.si s.commit) (.si (eC s b))) :: sB ((14,ownB s 33 t cm v who) :: sC s))) 38,.stmt 702 .next (frE (eC s b) p a who []) ((37,.slist ((lp ++ es).map entA)) :: (34,.edict) :: (33,.slist (ol.map entA)) :: (32,ansA (.si x) (.sb r) (.sb u)) :: (31,.list [.tup [.ss who,.loc 32]]) :: (30,.slist (es.map entA)) :: (29,msgA s t p a b) :: (0,jourA (.loc 37) (.si t) (.so v)) :: sA s ((7,nodeB s (.loc 34) (.si t) (.so v) (.ss who) (.si s.commit) (.si (eC s b))) :: sB ((14,ownB s 33 t cm v who) :: sC s))) 38,.stmt 710 .next (frE (eC s b) p a who [(n_nextNodeIdx,.si y)]) ((37,.slist ((lp ++ es).map entA)) :: (34,.edict) :: (33,.slist (ol.map entA)) :: (32,ansA (.si x) (.sb r) (.sb u)) :: (31,.list [.tup [.ss who,.loc 32]]) :: (30,.slist (es.map entA)) :: (29,msgA s t p a b) :: (0,jourA (.loc 37) (.si t) (.so v)) :: sA s ((7,nodeB s (.loc 34) (.si t) (.so v) (.ss who) (.si s.commit) (.si (eC s b))) :: sB ((14,ownB s 33 t cm v who) :: sC s))) 38,.stmt 717 .next (frE (eC s b) p a who [(n_nextNodeIdx,.si y)]) ((38,ansA (.si y) (.bool false) (.bool true)) :: (37,.slist ((lp ++ es).map entA)) :: (34,.edict) :: (33,.slist (ol.map entA)) :: (32,ansA (.si x) (.sb r) (.sb u)) :: (31,.list [.tup [.ss who,.loc 32]]) :: (30,.slist (es.map entA)) :: (29,msgA s t p a b) :: (0,jourA (.loc 37) (.si t) (.so v)) :: (2,givA (.loc 3) (.si s.now)) :: (3,.slist (s.done.map donA)) :: (4,.list []) :: (5,transO) :: (6,.list [.tup [.ss who,.loc 38]]) :: (7,nodeB s (.loc 34) (.si t) (.so v) (.ss who) (.si c1) (.si (eC s b))) :: sB ((14,ownB s 33 t cm v who) :: sC s)) 39,.stmt 719 .next (frE (eC s b) p a who [(n_nextNodeIdx,.si y)]) ((38,ansA (.si y) (.bool false) (.bool true)) :: (37,.slist ((lp ++ es).map entA)) :: (34,.edict) :: (33,.slist (ol.map entA)) :: (32,ansA (.si x) (.sb r) (.sb u)) :: (31,.list [.tup [.ss who,.loc 32]]) :: (30,.slist (es.map entA)) :: (29,msgA s t p a b) :: (0,jourA (.loc 37) (.si t) (.so v)) :: (2,givA (.loc 3) (.si s.now)) :: (3,.slist (s.done.map donA)) :: (4,.list []) :: (5,transO) :: (6,.list [.tup [.ss who,.loc 38]]) :: (7,nodeB s (.loc 34) (.si t) (.so v) (.ss who) (.si c2) (.si (eC s b))) :: sB ((14,ownB s 33 t cm v who) :: sC s)) 39,.av (.bool true),.av (.bool true),.av (.bool true),.av (.bool true),.av (.bool true),.bit false],sgs s,27⟩ (leafQ [0,37,2,3,4,5,6,7,8,9,10,11,12,34,14,33,16,17,18,19,20,21,22,23,24,25,26] ({ qOf s with term:=.si t,jterm:=.si t,oterm:=.si t,voted:=.so v,jvoted:=.so v,ovoted:=.so v,leader:=.ss who,oleader:=.so (some who),dead:=.si (s.now + 400),oreset:=.si s.now,lc:=.si (eC s b),ocommit:=.si cm,olog:=.slist (ol.map entA),commit:=.si c2,log:=.slist ((lp ++ es).map entA) })):=
  kmp (p:=(s.nl.length < 2 ^ 62)∧(6 * len s.nl ≠ 0∧(6 * len s.nl).natAbs < 1073741824)∧(s.nl.length < 2 ^ 62)∧(len s.nl ≠ 0)∧(s.nl.length < 2 ^ 62∧SoftO (ix s.nl ((num.fdiv 6).fmod (len s.nl))) (AV.ss who))∧(decide (num.fmod 6 = 0) = false)∧(decide (num.fmod 6 < 3) = true)∧(XsOk X 187 (fdAt (K P) 1109) (kaF0 j num (num.fmod 6) who) (stA P 1109 1097) (kaS0 s (num.fdiv (6 * len s.nl))) 29 .next (kaF1 j num (num.fmod 6) who) (kaS1 s t p a b es who (.si cm) (.so v) (.so (some who)) (ol.map entA) (.si x) (.sb r) (.sb u)) 34)∧(decide (s.term ≤ t) = true)∧(XsOk X 179 (fdAt (K P) 856) (fr3 who) (stA P 856 672) (kaS1 s t p a b es who (.si cm) (.so v) (.so (some who)) (ol.map entA) (.si x) (.sb r) (.sb u)) 34 .next (fr3 who) (kaS1 s t p a b es who (.si cm) (.so v) (.so (some who)) (ol.map entA) (.si x) (.sb r) (.sb u)) 34)∧(XsOk X 179 (fdAt (K P) 856) (fr3 who) (stA P 856 676) ((33,.slist (ol.map entA)) :: (32,ansA (.si x) (.sb r) (.sb u)) :: (31,.list [.tup [.ss who,.loc 32]]) :: (30,.slist (es.map entA)) :: (29,msgA s t p a b) :: (0,jourA (.loc 1) (.si s.term) (.so s.voted)) :: (1,.slist (s.log.map entA)) :: sA s ((7,nodeB s (.loc 13) (.si s.term) (.so s.voted) (.so s.leader) (.si s.commit) (.io s.lc)) :: sB ((13,.edict) :: (14,ownB s 33 t cm v who) :: sC s))) 34 .next (fr3 who) ((34,.edict) :: (33,.slist (ol.map entA)) :: (32,ansA (.si x) (.sb r) (.sb u)) :: (31,.list [.tup [.ss who,.loc 32]]) :: (30,.slist (es.map entA)) :: (29,msgA s t p a b) :: (0,jourA (.loc 1) (.si s.term) (.so s.voted)) :: (1,.slist (s.log.map entA)) :: sA s ((7,nodeB s (.loc 34) (.si s.term) (.so s.voted) (.so s.leader) (.si s.commit) (.io s.lc)) :: sB ((14,ownB s 33 t cm v who) :: sC s))) 35)∧(XsOk X 179 (fdAt (K P) 856) (fr3 who) (stA P 856 679) ((34,.edict) :: (33,.slist (ol.map entA)) :: (32,ansA (.si x) (.sb r) (.sb u)) :: (31,.list [.tup [.ss who,.loc 32]]) :: (30,.slist (es.map entA)) :: (29,msgA s t p a b) :: (0,jourA (.loc 1) (.si s.term) (.so s.voted)) :: (1,.slist (s.log.map entA)) :: sA s ((7,nodeB s (.loc 34) (.si s.term) (.so s.voted) (.ss who) (.si s.commit) (.io s.lc)) :: sB ((14,ownB s 33 t cm v who) :: sC s))) 35 .next (fr3 who) ((34,.edict) :: (33,.slist (ol.map entA)) :: (32,ansA (.si x) (.sb r) (.sb u)) :: (31,.list [.tup [.ss who,.loc 32]]) :: (30,.slist (es.map entA)) :: (29,msgA s t p a b) :: (0,jourA (.loc 1) (.si t) (.so v)) :: (1,.slist (s.log.map entA)) :: sA s ((7,nodeB s (.loc 34) (.si t) (.so v) (.ss who) (.si s.commit) (.io s.lc)) :: sB ((14,ownB s 33 t cm v who) :: sC s))) 35)∧((List.map entA s.log).length < 2 ^ 62∧SoftO (ix (List.map entA s.log) 0) (ent e0))∧(decide (p < e0.idx) = false)∧((List.map entA s.log).length ≤ sizeLine)∧((cut (List.map entA s.log) (some (p - e0.idx)) none).length < 2 ^ 62)∧((!(cut (List.map entA s.log) (some (p - e0.idx)) none).isEmpty) = true)∧((cut (List.map entA s.log) (some (p - e0.idx)) none).length < 2 ^ 62∧SoftO (ix (cut (List.map entA s.log) (some (p - e0.idx)) none) 0) (ent e1))∧((!decide (e1.term = a)) = false)∧(XsOk X 178 (fdAt (K P) 856) (frE (eC s b) p a who []) (stA P 856 695) ((36,.slist (cut (s.log.map entA) (some (p - e0.idx)) none)) :: (35,.list []) :: (34,.edict) :: (33,.slist (ol.map entA)) :: (32,ansA (.si x) (.sb r) (.sb u)) :: (31,.list [.tup [.ss who,.loc 32]]) :: (30,.slist (es.map entA)) :: (29,msgA s t p a b) :: (0,jourA (.loc 1) (.si t) (.so v)) :: (1,.slist (s.log.map entA)) :: sA s ((7,nodeB s (.loc 34) (.si t) (.so v) (.ss who) (.si s.commit) (.si (eC s b))) :: sB ((14,ownB s 33 t cm v who) :: sC s))) 37 .next (frE (eC s b) p a who []) ((37,.slist (lp.map entA)) :: (34,.edict) :: (33,.slist (ol.map entA)) :: (32,ansA (.si x) (.sb r) (.sb u)) :: (31,.list [.tup [.ss who,.loc 32]]) :: (30,.slist (es.map entA)) :: (29,msgA s t p a b) :: (0,jourA (.loc 37) (.si t) (.so v)) :: sA s ((7,nodeB s (.loc 34) (.si t) (.so v) (.ss who) (.si s.commit) (.si (eC s b))) :: sB ((14,ownB s 33 t cm v who) :: sC s))) 38)∧(XsOk X 178 (fdAt (K P) 856) (frE (eC s b) p a who []) (stA P 856 702) ((37,.slist (lp.map entA)) :: (34,.edict) :: (33,.slist (ol.map entA)) :: (32,ansA (.si x) (.sb r) (.sb u)) :: (31,.list [.tup [.ss who,.loc 32]]) :: (30,.slist (es.map entA)) :: (29,msgA s t p a b) :: (0,jourA (.loc 37) (.si t) (.so v)) :: sA s ((7,nodeB s (.loc 34) (.si t) (.so v) (.ss who) (.si s.commit) (.si (eC s b))) :: sB ((14,ownB s 33 t cm v who) :: sC s))) 38 .next (frE (eC s b) p a who []) ((37,.slist ((lp ++ es).map entA)) :: (34,.edict) :: (33,.slist (ol.map entA)) :: (32,ansA (.si x) (.sb r) (.sb u)) :: (31,.list [.tup [.ss who,.loc 32]]) :: (30,.slist (es.map entA)) :: (29,msgA s t p a b) :: (0,jourA (.loc 37) (.si t) (.so v)) :: sA s ((7,nodeB s (.loc 34) (.si t) (.so v) (.ss who) (.si s.commit) (.si (eC s b))) :: sB ((14,ownB s 33 t cm v who) :: sC s))) 38)∧(XsOk X 178 (fdAt (K P) 856) (frE (eC s b) p a who [(n_nextNodeIdx,.si (p + 1))]) (stA P 856 710) ((37,.slist ((lp ++ es).map entA)) :: (34,.edict) :: (33,.slist (ol.map entA)) :: (32,ansA (.si x) (.sb r) (.sb u)) :: (31,.list [.tup [.ss who,.loc 32]]) :: (30,.slist (es.map entA)) :: (29,msgA s t p a b) :: (0,jourA (.loc 37) (.si t) (.so v)) :: sA s ((7,nodeB s (.loc 34) (.si t) (.so v) (.ss who) (.si s.commit) (.si (eC s b))) :: sB ((14,ownB s 33 t cm v who) :: sC s))) 38 .next (frE (eC s b) p a who [(n_nextNodeIdx,.si y)]) ((37,.slist ((lp ++ es).map entA)) :: (34,.edict) :: (33,.slist (ol.map entA)) :: (32,ansA (.si x) (.sb r) (.sb u)) :: (31,.list [.tup [.ss who,.loc 32]]) :: (30,.slist (es.map entA)) :: (29,msgA s t p a b) :: (0,jourA (.loc 37) (.si t) (.so v)) :: sA s ((7,nodeB s (.loc 34) (.si t) (.so v) (.ss who) (.si s.commit) (.si (eC s b))) :: sB ((14,ownB s 33 t cm v who) :: sC s))) 38)∧(XsOk X 179 (fdAt (K P) 856) (frE (eC s b) p a who [(n_nextNodeIdx,.si y)]) (stA P 856 717) ((38,ansA (.si y) (.bool false) (.bool true)) :: (37,.slist ((lp ++ es).map entA)) :: (34,.edict) :: (33,.slist (ol.map entA)) :: (32,ansA (.si x) (.sb r) (.sb u)) :: (31,.list [.tup [.ss who,.loc 32]]) :: (30,.slist (es.map entA)) :: (29,msgA s t p a b) :: (0,jourA (.loc 37) (.si t) (.so v)) :: (2,givA (.loc 3) (.si s.now)) :: (3,.slist (s.done.map donA)) :: (4,.list []) :: (5,transO) :: (6,.list [.tup [.ss who,.loc 38]]) :: (7,nodeB s (.loc 34) (.si t) (.so v) (.ss who) (.si s.commit) (.si (eC s b))) :: sB ((14,ownB s 33 t cm v who) :: sC s)) 39 .next (frE (eC s b) p a who [(n_nextNodeIdx,.si y)]) ((38,ansA (.si y) (.bool false) (.bool true)) :: (37,.slist ((lp ++ es).map entA)) :: (34,.edict) :: (33,.slist (ol.map entA)) :: (32,ansA (.si x) (.sb r) (.sb u)) :: (31,.list [.tup [.ss who,.loc 32]]) :: (30,.slist (es.map entA)) :: (29,msgA s t p a b) :: (0,jourA (.loc 37) (.si t) (.so v)) :: (2,givA (.loc 3) (.si s.now)) :: (3,.slist (s.done.map donA)) :: (4,.list []) :: (5,transO) :: (6,.list [.tup [.ss who,.loc 38]]) :: (7,nodeB s (.loc 34) (.si t) (.so v) (.ss who) (.si c1) (.si (eC s b))) :: sB ((14,ownB s 33 t cm v who) :: sC s)) 39)∧(XsOk X 179 (fdAt (K P) 856) (frE (eC s b) p a who [(n_nextNodeIdx,.si y)]) (stA P 856 719) ((38,ansA (.si y) (.bool false) (.bool true)) :: (37,.slist ((lp ++ es).map entA)) :: (34,.edict) :: (33,.slist (ol.map entA)) :: (32,ansA (.si x) (.sb r) (.sb u)) :: (31,.list [.tup [.ss who,.loc 32]]) :: (30,.slist (es.map entA)) :: (29,msgA s t p a b) :: (0,jourA (.loc 37) (.si t) (.so v)) :: (2,givA (.loc 3) (.si s.now)) :: (3,.slist (s.done.map donA)) :: (4,.list []) :: (5,transO) :: (6,.list [.tup [.ss who,.loc 38]]) :: (7,nodeB s (.loc 34) (.si t) (.so v) (.ss who) (.si c1) (.si (eC s b))) :: sB ((14,ownB s 33 t cm v who) :: sC s)) 39 .next (frE (eC s b) p a who [(n_nextNodeIdx,.si y)]) ((38,ansA (.si y) (.bool false) (.bool true)) :: (37,.slist ((lp ++ es).map entA)) :: (34,.edict) :: (33,.slist (ol.map entA)) :: (32,ansA (.si x) (.sb r) (.sb u)) :: (31,.list [.tup [.ss who,.loc 32]]) :: (30,.slist (es.map entA)) :: (29,msgA s t p a b) :: (0,jourA (.loc 37) (.si t) (.so v)) :: (2,givA (.loc 3) (.si s.now)) :: (3,.slist (s.done.map donA)) :: (4,.list []) :: (5,transO) :: (6,.list [.tup [.ss who,.loc 38]]) :: (7,nodeB s (.loc 34) (.si t) (.so v) (.ss who) (.si c2) (.si (eC s b))) :: sB ((14,ownB s 33 t cm v who) :: sC s)) 39)∧(who = who)∧(y = x)∧(false = r)∧(true = u)∧((List.map entA (lp ++ es)).length ≤ sizeLine)∧(cut (List.map entA (lp ++ es)) (some 0) none = List.map entA ol∧∀ (x:AV),x ∈ cut (List.map entA (lp ++ es)) (some 0) none → FlatOk x)∧(List.map donA s.done = List.map donA s.done∧∀ (x:AV),x ∈ List.map donA s.done → FlatOk x)∧(t = t)∧(t = t)∧(v = v)∧(c2 = cm)∧(s.at1 = s.at1)∧((!decide (some who = some who)) = false)∧fin [0,37,2,3,4,5,6,7,8,9,10,11,12,34,14,33,16,17,18,19,20,21,22,23,24,25,26] ({ qOf s with term:=.si t,jterm:=.si t,oterm:=.si t,voted:=.so v,jvoted:=.so v,ovoted:=.so v,leader:=.ss who,oleader:=.so (some who),dead:=.si (s.now + 400),oreset:=.si s.now,lc:=.si (eC s b),ocommit:=.si cm,olog:=.slist (ol.map entA),commit:=.si c2,log:=.slist ((lp ++ es).map entA) })) (by kernel_rfl) (And.intro c.a1 (And.intro c.a2 (And.intro c.a1 (And.intro c.a3 (And.intro c.a4 (And.intro (decide_eq_false h1) (And.intro (decide_eq_true h2) (And.intro ka (And.intro (decide_eq_true h3) (And.intro n1 (And.intro n2 (And.intro n3 (And.intro h4 (And.intro (decide_eq_false h5) (And.intro c.l2 (And.intro h6 (And.intro h7 (And.intro h8 (And.intro h9 (And.intro n5 (And.intro n6 (And.intro n7 (And.intro n8 (And.intro n9 (And.intro rfl (And.intro h10 (And.intro h11 (And.intro h12 (And.intro h13 (And.intro h14 (And.intro c.d1 (And.intro rfl (And.intro rfl (And.intro rfl (And.intro h15 (And.intro rfl (And.intro (leq (some who)) (fin_ok [0,37,2,3,4,5,6,7,8,9,10,11,12,34,14,33,16,17,18,19,20,21,22,23,24,25,26] ({ qOf s with term:=.si t,jterm:=.si t,oterm:=.si t,voted:=.so v,jvoted:=.so v,ovoted:=.so v,leader:=.ss who,oleader:=.so (some who),dead:=.si (s.now + 400),oreset:=.si s.now,lc:=.si (eC s b),ocommit:=.si cm,olog:=.slist (ol.map entA),commit:=.si c2,log:=.slist ((lp ++ es).map entA) })))))))))))))))))))))))))))))))))))))))
theorem eLow1 {X:Cx} {P:Params} {s:S} {j num t p a b x:Int} {who:Str} {e e1:Ent} {es:List Ent} (c:Com s num who e) (h1:¬ (num.fmod 6 = 0))
    (h2:num.fmod 6 < 3)
    (h3:len (List.map entA s.log) + 2 ≠ 0)
    (h4:len (List.map entA s.log) + 2 ≠ 0∧(len (List.map entA s.log) + 2).natAbs < 1073741824)
    (h5:1 + ((num.fdiv (6 * len s.nl)).fdiv 3).fmod (len (List.map entA s.log) + 2) ≤ len (List.map entA s.log))
    (h6:(List.map entA s.log).length < 2 ^ 62∧SoftO (ix (List.map entA s.log) (1 + ((num.fdiv (6 * len s.nl)).fdiv 3).fmod (len (List.map entA s.log) + 2) - 1)) (ent e1))
    (k1:XsOk X 184 (fdAt (K P) 1102) (k1F0 j (xT s (num.fdiv (6 * len s.nl))) (xP s (num.fdiv (6 * len s.nl))) (xA s (num.fdiv (6 * len s.nl)) e1.term) who) (stA P 1102 1064) (k1S s (.list []) ((xB2 s (num.fdiv (6 * len s.nl))).fdiv 4)) 30 .next (k1F1 j t p a who) (k1S s (.slist (es.map entA)) b) 30)
    (h7:len (List.map entA s.log) + 4 ≠ 0)
    (h8:len (List.map entA s.log) + 4 ≠ 0∧(len (List.map entA s.log) + 4).natAbs < 1073741824)
    (h9:(List.map entA es).length ≤ sizeLine)
    (h10:t < s.term)
    (h11:¬ (s.term ≤ t)) :
    PR X (T P) 190 (lawFi P) (frmN j num) (turnB P) ⟨[.av (.ss who),.bit false,.bit true,.bit true,.av (ent e1),.stmt 1064 .next (k1F1 j t p a who) (k1S s (.slist (es.map entA)) b) 30,.bit true,.bit false,.av (.bool true),.av (.bool true),.av (.bool true),.av (.bool true),.av (.bool true),.bit false],sgs s,27⟩ (leafQ [] (qOf s)):=
  kmp (p:=(s.nl.length < 2 ^ 62)∧(6 * len s.nl ≠ 0∧(6 * len s.nl).natAbs < 1073741824)∧(s.nl.length < 2 ^ 62)∧(len s.nl ≠ 0)∧(s.nl.length < 2 ^ 62∧SoftO (ix s.nl ((num.fdiv 6).fmod (len s.nl))) (AV.ss who))∧(decide (num.fmod 6 = 0) = false)∧(decide (num.fmod 6 < 3) = true)∧((List.map entA s.log).length < 2 ^ 62)∧(len (List.map entA s.log) + 2 ≠ 0)∧(len (List.map entA s.log) + 2 ≠ 0∧(len (List.map entA s.log) + 2).natAbs < 1073741824)∧((List.map entA s.log).length < 2 ^ 62)∧(decide (1 + ((num.fdiv (6 * len s.nl)).fdiv 3).fmod (len (List.map entA s.log) + 2) ≤ len (List.map entA s.log)) = true)∧((List.map entA s.log).length < 2 ^ 62∧SoftO (ix (List.map entA s.log) (1 + ((num.fdiv (6 * len s.nl)).fdiv 3).fmod (len (List.map entA s.log) + 2) - 1)) (ent e1))∧(XsOk X 184 (fdAt (K P) 1102) (k1F0 j (xT s (num.fdiv (6 * len s.nl))) (xP s (num.fdiv (6 * len s.nl))) (xA s (num.fdiv (6 * len s.nl)) e1.term) who) (stA P 1102 1064) (k1S s (.list []) ((xB2 s (num.fdiv (6 * len s.nl))).fdiv 4)) 30 .next (k1F1 j t p a who) (k1S s (.slist (es.map entA)) b) 30)∧((List.map entA s.log).length < 2 ^ 62)∧(len (List.map entA s.log) + 4 ≠ 0)∧(len (List.map entA s.log) + 4 ≠ 0∧(len (List.map entA s.log) + 4).natAbs < 1073741824)∧((List.map entA es).length ≤ sizeLine)∧(decide (t < s.term) = true)∧(decide (s.term ≤ t) = false)∧((List.map entA s.log).length ≤ sizeLine)∧(cut (List.map entA s.log) (some 0) none = List.map entA s.log∧∀ (x:AV),x ∈ cut (List.map entA s.log) (some 0) none → FlatOk x)∧(List.map donA s.done = List.map donA s.done∧∀ (x:AV),x ∈ List.map donA s.done → FlatOk x)∧(s.term = s.term)∧(s.term = s.term)∧(s.voted = s.voted)∧(s.commit = s.commit)∧(s.at1 = s.at1)∧((!decide (s.leader = s.leader)) = false)∧fin [] (qOf s)) (by kernel_rfl) (And.intro c.a1 (And.intro c.a2 (And.intro c.a1 (And.intro c.a3 (And.intro c.a4 (And.intro (decide_eq_false h1) (And.intro (decide_eq_true h2) (And.intro c.l1 (And.intro h3 (And.intro h4 (And.intro c.l1 (And.intro (decide_eq_true h5) (And.intro h6 (And.intro k1 (And.intro c.l1 (And.intro h7 (And.intro h8 (And.intro h9 (And.intro (decide_eq_true h10) (And.intro (decide_eq_false h11) (And.intro c.l2 (And.intro c.l4 (And.intro c.d1 (And.intro rfl (And.intro rfl (And.intro rfl (And.intro rfl (And.intro rfl (And.intro (leq s.leader) (fin_ok [] (qOf s)))))))))))))))))))))))))))))))
theorem eLow2 {X:Cx} {P:Params} {s:S} {j num t p a b x:Int} {who:Str} {e:Ent} {es:List Ent} (c:Com s num who e) (h1:¬ (num.fmod 6 = 0))
    (h2:num.fmod 6 < 3)
    (h3:len (List.map entA s.log) + 2 ≠ 0)
    (h4:len (List.map entA s.log) + 2 ≠ 0∧(len (List.map entA s.log) + 2).natAbs < 1073741824)
    (h5:¬ (1 + ((num.fdiv (6 * len s.nl)).fdiv 3).fmod (len (List.map entA s.log) + 2) ≤ len (List.map entA s.log)))
    (k1:XsOk X 184 (fdAt (K P) 1102) (k1F0 j (xT s (num.fdiv (6 * len s.nl))) (xP s (num.fdiv (6 * len s.nl))) (xA s (num.fdiv (6 * len s.nl)) s.term) who) (stA P 1102 1064) (k1S s (.list []) ((xB2 s (num.fdiv (6 * len s.nl))).fdiv 4)) 30 .next (k1F1 j t p a who) (k1S s (.slist (es.map entA)) b) 30)
    (h6:len (List.map entA s.log) + 4 ≠ 0)
    (h7:len (List.map entA s.log) + 4 ≠ 0∧(len (List.map entA s.log) + 4).natAbs < 1073741824)
    (h8:(List.map entA es).length ≤ sizeLine)
    (h9:t < s.term)
    (h10:¬ (s.term ≤ t)) :
    PR X (T P) 190 (lawFi P) (frmN j num) (turnB P) ⟨[.av (.ss who),.bit false,.bit true,.bit false,.stmt 1064 .next (k1F1 j t p a who) (k1S s (.slist (es.map entA)) b) 30,.bit true,.bit false,.av (.bool true),.av (.bool true),.av (.bool true),.av (.bool true),.av (.bool true),.bit false],sgs s,27⟩ (leafQ [] (qOf s)):=
  kmp (p:=(s.nl.length < 2 ^ 62)∧(6 * len s.nl ≠ 0∧(6 * len s.nl).natAbs < 1073741824)∧(s.nl.length < 2 ^ 62)∧(len s.nl ≠ 0)∧(s.nl.length < 2 ^ 62∧SoftO (ix s.nl ((num.fdiv 6).fmod (len s.nl))) (AV.ss who))∧(decide (num.fmod 6 = 0) = false)∧(decide (num.fmod 6 < 3) = true)∧((List.map entA s.log).length < 2 ^ 62)∧(len (List.map entA s.log) + 2 ≠ 0)∧(len (List.map entA s.log) + 2 ≠ 0∧(len (List.map entA s.log) + 2).natAbs < 1073741824)∧((List.map entA s.log).length < 2 ^ 62)∧(decide (1 + ((num.fdiv (6 * len s.nl)).fdiv 3).fmod (len (List.map entA s.log) + 2) ≤ len (List.map entA s.log)) = false)∧(XsOk X 184 (fdAt (K P) 1102) (k1F0 j (xT s (num.fdiv (6 * len s.nl))) (xP s (num.fdiv (6 * len s.nl))) (xA s (num.fdiv (6 * len s.nl)) s.term) who) (stA P 1102 1064) (k1S s (.list []) ((xB2 s (num.fdiv (6 * len s.nl))).fdiv 4)) 30 .next (k1F1 j t p a who) (k1S s (.slist (es.map entA)) b) 30)∧((List.map entA s.log).length < 2 ^ 62)∧(len (List.map entA s.log) + 4 ≠ 0)∧(len (List.map entA s.log) + 4 ≠ 0∧(len (List.map entA s.log) + 4).natAbs < 1073741824)∧((List.map entA es).length ≤ sizeLine)∧(decide (t < s.term) = true)∧(decide (s.term ≤ t) = false)∧((List.map entA s.log).length ≤ sizeLine)∧(cut (List.map entA s.log) (some 0) none = List.map entA s.log∧∀ (x:AV),x ∈ cut (List.map entA s.log) (some 0) none → FlatOk x)∧(List.map donA s.done = List.map donA s.done∧∀ (x:AV),x ∈ List.map donA s.done → FlatOk x)∧(s.term = s.term)∧(s.term = s.term)∧(s.voted = s.voted)∧(s.commit = s.commit)∧(s.at1 = s.at1)∧((!decide (s.leader = s.leader)) = false)∧fin [] (qOf s)) (by kernel_rfl) (And.intro c.a1 (And.intro c.a2 (And.intro c.a1 (And.intro c.a3 (And.intro c.a4 (And.intro (decide_eq_false h1) (And.intro (decide_eq_true h2) (And.intro c.l1 (And.intro h3 (And.intro h4 (And.intro c.l1 (And.intro (decide_eq_false h5) (And.intro k1 (And.intro c.l1 (And.intro h6 (And.intro h7 (And.intro h8 (And.intro (decide_eq_true h9) (And.intro (decide_eq_false h10) (And.intro c.l2 (And.intro c.l4 (And.intro c.d1 (And.intro rfl (And.intro rfl (And.intro rfl (And.intro rfl (And.intro rfl (And.intro (leq s.leader) (fin_ok [] (qOf s))))))))))))))))))))))))))))))
end Mine
namespace Mine
noncomputable abbrev tN (s:S) (num:Int):Int:=if s.reset + 399 < s.now + 20 * (num.fdiv (6 * len s.nl)).fmod 9 then s.reset + 399 else s.now + 20 * (num.fdiv (6 * len s.nl)).fmod 9
noncomputable abbrev tB (s:S) (num:Int):Int:=(num.fdiv (6 * len s.nl)).fdiv 9
noncomputable abbrev tkS (s:S) (num:Int) (nd orc at1 oat:AV) (ap od:AObj):Store:=[(28,.list []),(27,.list [.si (tB s num)]),(0,jourA (.loc 1) (.si s.term) (.so s.voted)),(1,.slist (s.log.map entA)),(2,givA (.loc 3) (.si (tN s num))),(3,ap),(4,.list []),(5,transO),(6,.list []),(7,nodeA (.loc 13) (.si s.term) (.so s.voted) (.so s.leader) (.si (s.reset + 400)) (.si s.commit) at1 (.si s.lst) (.io s.lc) orc (.si s.st) nd),(8,confO),(9,serO),(10,queO),(11,.list []),(12,.edict),(13,.edict),(14,ownA (.loc 16) (.loc 15) (.si s.term) (.so s.voted) (.si s.commit) oat (.so s.leader) (.si (tN s num)) (.si s.reset)),(15,.slist (s.log.map entA)),(16,od),(17,.slist s.nl)]
noncomputable abbrev tkL (s:S) (num:Int) (nd orc at1 oat:AV) (ap od l:AObj):Store:=(29,l) :: tkS s num nd orc at1 oat ap od
theorem tick {X:Cx} {P:Params} {s:S} {j num nd1 a2:Int} {who:Str} {e:Ent} {o1:Bool} {dn:List Int} (c:Com s num who e) (h1:Int.ofNat 6 * len s.nl ≠ 0∧(Int.ofNat 6 * len s.nl).natAbs < 1073741824)
    (h2:s.nl.length < 2 ^ 62∧SoftO (ix s.nl ((num.fdiv (Int.ofNat 6)).fmod (len s.nl))) (AV.ss who))
    (h3:¬ (num.fmod (Int.ofNat 6) = Int.ofNat 0))
    (h4:¬ (num.fmod (Int.ofNat 6) < Int.ofNat 3))
    (h5:num.fmod (Int.ofNat 6) = Int.ofNat 3)
    (t0:XsOk X 180 (fdAt (K P) 758) [(n_self,.loc 7),(n_timeToWait,.int 0),(n_workTime,.si (tN s num - s.st))] (stA P 758 506) (tkS s num (.si s.nd) (.sb s.orc) (.si s.at1) (.si s.at1) (.slist ((s.done).map donA)) (.slist ((s.done).map donA))) 29 .next [(n_self,.loc 7),(n_timeToWait,.int 0),(n_workTime,.si (tN s num - s.st))] (tkS s num (.si nd1) (.sb s.orc) (.si s.at1) (.si s.at1) (.slist ((s.done).map donA)) (.slist ((s.done).map donA))) 29)
    (h6:¬ (s.reset + 400 < tN s num))
    (t1:XsOk X 177 (fdAt (K P) 765) [(n_self,.loc 7),(n_needSendAppendEntries,.bool false)] (stA P 765 563) (tkS s num (.si nd1) (.sb s.orc) (.si s.at1) (.si s.at1) (.slist ((s.done).map donA)) (.slist ((s.done).map donA))) 29 .next [(n_self,.loc 7),(n_needSendAppendEntries,.bool false)] (tkS s num (.si nd1) (.sb s.orc) (.si a2) (.si s.at1) (.slist ((s.done ++ dn).map donA)) (.slist ((s.done).map donA))) 29)
    (t2:XsOk X 180 (fdAt (K P) 758) [(n_self,.loc 7),(n_timeToWait,.int 0),(n_workTime,.si (tN s num - s.st)),(n_needSendAppendEntries,.bool false)] (stA P 758 556) (tkS s num (.si nd1) (.sb s.orc) (.si a2) (.si s.at1) (.slist ((s.done ++ dn).map donA)) (.slist ((s.done).map donA))) 29 .next [(n_self,.loc 7),(n_timeToWait,.int 0),(n_workTime,.si (tN s num - s.st)),(n_needSendAppendEntries,.bool false)] (tkS s num (.si nd1) (.sb o1) (.si a2) (.si s.at1) (.slist ((s.done ++ dn).map donA)) (.slist ((s.done).map donA))) 29)
    (t3:ClOk X 178 742 [.loc 7] [] (tkS s num (.si nd1) (.sb o1) (.si a2) (.si s.at1) (.slist ((s.done ++ dn).map donA)) (.slist ((s.done).map donA))) 29 .none (tkS s num (.si nd1) (.sb o1) (.si a2) (.si s.at1) (.slist ((s.done ++ dn).map donA)) (.slist ((s.done).map donA))) 29)
    (h7:0 ≤ len (List.map entA s.log)∧len (List.map entA s.log) < 2 ^ 63)
    (h8:len (List.map entA s.log) ≤ 5000)
    (h9:tN s num - s.lst ≤ 300000)
    (t5:XsOk X 186 (fdAt (K P) 1109) (kaF0 j num (num.fmod 6) who) (stA P 1109 1103) (tkS s num (.si nd1) (.sb o1) (.si a2) (.si s.at1) (.slist ((s.done ++ dn).map donA)) (.slist ((s.done).map donA))) 29 .next (kaF0 j num (num.fmod 6) who) (tkS s num (.si nd1) (.sb o1) (.si a2) (.si a2) (.slist ((s.done ++ dn).map donA)) (.slist ((s.done ++ dn).map donA))) 29)
    (h10:cut (List.map entA s.log) (some (Int.ofNat 0)) none = List.map entA s.log∧∀ (x:AV),x ∈ cut (List.map entA s.log) (some (Int.ofNat 0)) none → FlatOk x)
    (h11:List.map donA (s.done ++ dn) = List.map donA (s.done ++ dn)∧∀ (x:AV),x ∈ List.map donA (s.done ++ dn) → FlatOk x) :
    PR X (T P) 190 (lawFi P) (frmN j num) (turnB P) ⟨[.av (.ss who),.bit false,.bit false,.bit true,.stmt 506 .next [(n_self,.loc 7),(n_timeToWait,.int 0),(n_workTime,.si (tN s num - s.st))] (tkS s num (.si nd1) (.sb s.orc) (.si s.at1) (.si s.at1) (.slist ((s.done).map donA)) (.slist ((s.done).map donA))) 29,.bit false,.stmt 563 .next [(n_self,.loc 7),(n_needSendAppendEntries,.bool false)] (tkS s num (.si nd1) (.sb s.orc) (.si a2) (.si s.at1) (.slist ((s.done ++ dn).map donA)) (.slist ((s.done).map donA))) 29,.stmt 556 .next [(n_self,.loc 7),(n_timeToWait,.int 0),(n_workTime,.si (tN s num - s.st)),(n_needSendAppendEntries,.bool false)] (tkS s num (.si nd1) (.sb o1) (.si a2) (.si s.at1) (.slist ((s.done ++ dn).map donA)) (.slist ((s.done).map donA))) 29,.call 742 .none (tkS s num (.si nd1) (.sb o1) (.si a2) (.si s.at1) (.slist ((s.done ++ dn).map donA)) (.slist ((s.done).map donA))) 29,.bit true,.bit true,.stmt 1103 .next (kaF0 j num (num.fmod 6) who) (tkS s num (.si nd1) (.sb o1) (.si a2) (.si a2) (.slist ((s.done ++ dn).map donA)) (.slist ((s.done ++ dn).map donA))) 29,.av (.bool true),.av (.bool true),.av (.bool true),.av (.bool true),.av (.bool true),.bit false],sgs s,27⟩ (leafQ [] ({ qOf s with now:=.si (tN s num),onow:=.si (tN s num),nd:=.si nd1,at1:=.si a2,oat:=.si a2,done:=.slist ((s.done ++ dn).map donA),odone:=.slist ((s.done ++ dn).map donA),orc:=.sb o1 })):=
  kmp (p:=(s.nl.length < 2 ^ 62)∧(Int.ofNat 6 * len s.nl ≠ 0∧(Int.ofNat 6 * len s.nl).natAbs < 1073741824)∧(s.nl.length < 2 ^ 62)∧(len s.nl ≠ 0)∧(s.nl.length < 2 ^ 62∧SoftO (ix s.nl ((num.fdiv (Int.ofNat 6)).fmod (len s.nl))) (AV.ss who))∧(decide (num.fmod (Int.ofNat 6) = Int.ofNat 0) = false)∧(decide (num.fmod (Int.ofNat 6) < Int.ofNat 3) = false)∧(decide (num.fmod (Int.ofNat 6) = Int.ofNat 3) = true)∧(XsOk X 180 (fdAt (K P) 758) [(n_self,.loc 7),(n_timeToWait,.int 0),(n_workTime,.si (tN s num - s.st))] (stA P 758 506) (tkS s num (.si s.nd) (.sb s.orc) (.si s.at1) (.si s.at1) (.slist ((s.done).map donA)) (.slist ((s.done).map donA))) 29 .next [(n_self,.loc 7),(n_timeToWait,.int 0),(n_workTime,.si (tN s num - s.st))] (tkS s num (.si nd1) (.sb s.orc) (.si s.at1) (.si s.at1) (.slist ((s.done).map donA)) (.slist ((s.done).map donA))) 29)∧(decide (s.reset + 400 < tN s num) = false)∧(XsOk X 177 (fdAt (K P) 765) [(n_self,.loc 7),(n_needSendAppendEntries,.bool false)] (stA P 765 563) (tkS s num (.si nd1) (.sb s.orc) (.si s.at1) (.si s.at1) (.slist ((s.done).map donA)) (.slist ((s.done).map donA))) 29 .next [(n_self,.loc 7),(n_needSendAppendEntries,.bool false)] (tkS s num (.si nd1) (.sb s.orc) (.si a2) (.si s.at1) (.slist ((s.done ++ dn).map donA)) (.slist ((s.done).map donA))) 29)∧(XsOk X 180 (fdAt (K P) 758) [(n_self,.loc 7),(n_timeToWait,.int 0),(n_workTime,.si (tN s num - s.st)),(n_needSendAppendEntries,.bool false)] (stA P 758 556) (tkS s num (.si nd1) (.sb s.orc) (.si a2) (.si s.at1) (.slist ((s.done ++ dn).map donA)) (.slist ((s.done).map donA))) 29 .next [(n_self,.loc 7),(n_timeToWait,.int 0),(n_workTime,.si (tN s num - s.st)),(n_needSendAppendEntries,.bool false)] (tkS s num (.si nd1) (.sb o1) (.si a2) (.si s.at1) (.slist ((s.done ++ dn).map donA)) (.slist ((s.done).map donA))) 29)∧(ClOk X 178 742 [.loc 7] [] (tkS s num (.si nd1) (.sb o1) (.si a2) (.si s.at1) (.slist ((s.done ++ dn).map donA)) (.slist ((s.done).map donA))) 29 .none (tkS s num (.si nd1) (.sb o1) (.si a2) (.si s.at1) (.slist ((s.done ++ dn).map donA)) (.slist ((s.done).map donA))) 29)∧((List.map entA s.log).length < 2 ^ 62)∧(0 ≤ len (List.map entA s.log)∧len (List.map entA s.log) < 2 ^ 63)∧(decide (len (List.map entA s.log) ≤ 5000) = true)∧(decide (tN s num - s.lst ≤ 300000) = true)∧(XsOk X 186 (fdAt (K P) 1109) (kaF0 j num (num.fmod 6) who) (stA P 1109 1103) (tkS s num (.si nd1) (.sb o1) (.si a2) (.si s.at1) (.slist ((s.done ++ dn).map donA)) (.slist ((s.done).map donA))) 29 .next (kaF0 j num (num.fmod 6) who) (tkS s num (.si nd1) (.sb o1) (.si a2) (.si a2) (.slist ((s.done ++ dn).map donA)) (.slist ((s.done ++ dn).map donA))) 29)∧((List.map entA s.log).length ≤ sizeLine)∧(cut (List.map entA s.log) (some (Int.ofNat 0)) none = List.map entA s.log∧∀ (x:AV),x ∈ cut (List.map entA s.log) (some (Int.ofNat 0)) none → FlatOk x)∧(List.map donA (s.done ++ dn) = List.map donA (s.done ++ dn)∧∀ (x:AV),x ∈ List.map donA (s.done ++ dn) → FlatOk x)∧(s.term = s.term)∧(s.term = s.term)∧(s.voted = s.voted)∧(s.commit = s.commit)∧(a2 = a2)∧((!decide (s.leader = s.leader)) = false)∧fin [] ({ qOf s with now:=.si (tN s num),onow:=.si (tN s num),nd:=.si nd1,at1:=.si a2,oat:=.si a2,done:=.slist ((s.done ++ dn).map donA),odone:=.slist ((s.done ++ dn).map donA),orc:=.sb o1 })) (by kernel_rfl) (And.intro c.a1 (And.intro h1 (And.intro c.a1 (And.intro c.a3 (And.intro h2 (And.intro (decide_eq_false h3) (And.intro (decide_eq_false h4) (And.intro (decide_eq_true h5) (And.intro t0 (And.intro (decide_eq_false h6) (And.intro t1 (And.intro t2 (And.intro t3 (And.intro c.l1 (And.intro h7 (And.intro (decide_eq_true h8) (And.intro (decide_eq_true h9) (And.intro t5 (And.intro c.l2 (And.intro h10 (And.intro h11 (And.intro rfl (And.intro rfl (And.intro rfl (And.intro rfl (And.intro rfl (And.intro (leq s.leader) (fin_ok [] ({ qOf s with now:=.si (tN s num),onow:=.si (tN s num),nd:=.si nd1,at1:=.si a2,oat:=.si a2,done:=.slist ((s.done ++ dn).map donA),odone:=.slist ((s.done ++ dn).map donA),orc:=.sb o1 })))))))))))))))))))))))))))))
theorem t0a {X:Cx} {P:Params} {s:S} {num:Int}  (h1:s.nd < tN s num - s.st) :
    XF X P 179 758 (stA P 758 506) [(n_self,.loc 7),(n_timeToWait,.int 0),(n_workTime,.si (tN s num - s.st))] [.bit true] (tkS s num (.si s.nd) (.sb s.orc) (.si s.at1) (.si s.at1) (.slist ((s.done).map donA)) (.slist ((s.done).map donA))) 29 (landK [] [(n_self,.loc 7),(n_timeToWait,.int 0),(n_workTime,.si (tN s num - s.st))] (tkS s num (.si (s.nd + 1)) (.sb s.orc) (.si s.at1) (.si s.at1) (.slist ((s.done).map donA)) (.slist ((s.done).map donA)))):=
  kXF (fun k=>(decide (s.nd < tN s num - s.st) = true)∧k) (by kernel_rfl) fun _ z=>(And.intro (decide_eq_true h1) z)
theorem t0b {X:Cx} {P:Params} {s:S} {num:Int}  (h1:¬ (s.nd < tN s num - s.st)) :
    XF X P 179 758 (stA P 758 506) [(n_self,.loc 7),(n_timeToWait,.int 0),(n_workTime,.si (tN s num - s.st))] [.bit false] (tkS s num (.si s.nd) (.sb s.orc) (.si s.at1) (.si s.at1) (.slist ((s.done).map donA)) (.slist ((s.done).map donA))) 29 (landK [] [(n_self,.loc 7),(n_timeToWait,.int 0),(n_workTime,.si (tN s num - s.st))] (tkS s num (.si s.nd) (.sb s.orc) (.si s.at1) (.si s.at1) (.slist ((s.done).map donA)) (.slist ((s.done).map donA)))):=
  kXF (fun k=>(decide (s.nd < tN s num - s.st) = false)∧k) (by kernel_rfl) fun _ z=>(And.intro (decide_eq_false h1) z)
theorem t2a {X:Cx} {P:Params} {s:S} {num nd1 a2:Int} {dn:List Int}  (h1:s.orc = false)
    (h2:s.lc = some a2) :
    XF X P 179 758 (stA P 758 556) [(n_self,.loc 7),(n_timeToWait,.int 0),(n_workTime,.si (tN s num - s.st)),(n_needSendAppendEntries,.bool false)] [.bit false,.bit true] (tkS s num (.si nd1) (.sb s.orc) (.si a2) (.si s.at1) (.slist ((s.done ++ dn).map donA)) (.slist ((s.done).map donA))) 29 (landK [] [(n_self,.loc 7),(n_timeToWait,.int 0),(n_workTime,.si (tN s num - s.st)),(n_needSendAppendEntries,.bool false)] (tkS s num (.si nd1) (.bool true) (.si a2) (.si s.at1) (.slist ((s.done ++ dn).map donA)) (.slist ((s.done).map donA)))):=
  kXF (fun k=>(s.orc = false)∧(decide (s.lc = some a2) = true)∧k) (by kernel_rfl) fun _ z=>(And.intro h1 (And.intro (decide_eq_true h2) z))
theorem t2b {X:Cx} {P:Params} {s:S} {num nd1 a2:Int} {dn:List Int}  (h1:s.orc = false)
    (h2:¬ (s.lc = some a2)) :
    XF X P 179 758 (stA P 758 556) [(n_self,.loc 7),(n_timeToWait,.int 0),(n_workTime,.si (tN s num - s.st)),(n_needSendAppendEntries,.bool false)] [.bit false,.bit false] (tkS s num (.si nd1) (.sb s.orc) (.si a2) (.si s.at1) (.slist ((s.done ++ dn).map donA)) (.slist ((s.done).map donA))) 29 (landK [] [(n_self,.loc 7),(n_timeToWait,.int 0),(n_workTime,.si (tN s num - s.st)),(n_needSendAppendEntries,.bool false)] (tkS s num (.si nd1) (.sb s.orc) (.si a2) (.si s.at1) (.slist ((s.done ++ dn).map donA)) (.slist ((s.done).map donA)))):=
  kXF (fun k=>(s.orc = false)∧(decide (s.lc = some a2) = false)∧k) (by kernel_rfl) fun _ z=>(And.intro h1 (And.intro (decide_eq_false h2) z))
theorem t2c {X:Cx} {P:Params} {s:S} {num nd1 a2:Int} {dn:List Int}  (h1:s.orc = true) :
    XF X P 179 758 (stA P 758 556) [(n_self,.loc 7),(n_timeToWait,.int 0),(n_workTime,.si (tN s num - s.st)),(n_needSendAppendEntries,.bool false)] [.bit true] (tkS s num (.si nd1) (.sb s.orc) (.si a2) (.si s.at1) (.slist ((s.done ++ dn).map donA)) (.slist ((s.done).map donA))) 29 (landK [] [(n_self,.loc 7),(n_timeToWait,.int 0),(n_workTime,.si (tN s num - s.st)),(n_needSendAppendEntries,.bool false)] (tkS s num (.si nd1) (.sb s.orc) (.si a2) (.si s.at1) (.slist ((s.done ++ dn).map donA)) (.slist ((s.done).map donA)))):=
  kXF (fun k=>(s.orc = true)∧k) (by kernel_rfl) fun _ z=>(And.intro h1 z)
theorem t1a {X:Cx} {P:Params} {s:S} {num nd1 a2:Int} {who:Str} {e e0:Ent} {dn:List Int} (c:Com s num who e) (h1:s.at1 < s.commit)
    (h2:(List.map entA s.log).length < 2 ^ 62∧SoftO (ix (List.map entA s.log) (Int.ofNat 0)) (ent e0))
    (h3:¬ (s.at1 + Int.ofNat 1 < e0.idx))
    (t1l:XsOk X 175 (fdAt (K P) 765) [(n_self,.loc 7),(n_needSendAppendEntries,.bool false),(n_count,.si (s.commit - s.at1)),(n_entries,.loc 29)] (stA P 765 566) (tkL s num (.si nd1) (.sb s.orc) (.si s.at1) (.si s.at1) (.slist ((s.done).map donA)) (.slist ((s.done).map donA)) (.slist (cut (s.log.map entA) (some (s.at1 + 1 - e0.idx)) (some (s.at1 + 1 - e0.idx + (s.commit - s.at1)))))) 30 .next [(n_self,.loc 7),(n_needSendAppendEntries,.bool false),(n_count,.si (s.commit - s.at1)),(n_entries,.loc 29)] (tkL s num (.si nd1) (.sb s.orc) (.si a2) (.si s.at1) (.slist ((s.done ++ dn).map donA)) (.slist ((s.done).map donA)) (.slist (cut (s.log.map entA) (some (s.at1 + 1 - e0.idx)) (some (s.at1 + 1 - e0.idx + (s.commit - s.at1)))))) 30) :
    XF X P 176 765 (stA P 765 563) [(n_self,.loc 7),(n_needSendAppendEntries,.bool false)] [.bit true,.av (ent e0),.bit false,.stmt 566 .next [(n_self,.loc 7),(n_needSendAppendEntries,.bool false),(n_count,.si (s.commit - s.at1)),(n_entries,.loc 29)] (tkL s num (.si nd1) (.sb s.orc) (.si a2) (.si s.at1) (.slist ((s.done ++ dn).map donA)) (.slist ((s.done).map donA)) (.slist (cut (s.log.map entA) (some (s.at1 + 1 - e0.idx)) (some (s.at1 + 1 - e0.idx + (s.commit - s.at1)))))) 30] (tkS s num (.si nd1) (.sb s.orc) (.si s.at1) (.si s.at1) (.slist ((s.done).map donA)) (.slist ((s.done).map donA))) 29 (landK [] [(n_self,.loc 7),(n_needSendAppendEntries,.bool false)] (tkS s num (.si nd1) (.sb s.orc) (.si a2) (.si s.at1) (.slist ((s.done ++ dn).map donA)) (.slist ((s.done).map donA)))):=
  kXF (fun k=>(decide (s.at1 < s.commit) = true)∧((List.map entA s.log).length < 2 ^ 62∧SoftO (ix (List.map entA s.log) (Int.ofNat 0)) (ent e0))∧(decide (s.at1 + Int.ofNat 1 < e0.idx) = false)∧((List.map entA s.log).length ≤ sizeLine)∧(XsOk X 175 (fdAt (K P) 765) [(n_self,.loc 7),(n_needSendAppendEntries,.bool false),(n_count,.si (s.commit - s.at1)),(n_entries,.loc 29)] (stA P 765 566) (tkL s num (.si nd1) (.sb s.orc) (.si s.at1) (.si s.at1) (.slist ((s.done).map donA)) (.slist ((s.done).map donA)) (.slist (cut (s.log.map entA) (some (s.at1 + 1 - e0.idx)) (some (s.at1 + 1 - e0.idx + (s.commit - s.at1)))))) 30 .next [(n_self,.loc 7),(n_needSendAppendEntries,.bool false),(n_count,.si (s.commit - s.at1)),(n_entries,.loc 29)] (tkL s num (.si nd1) (.sb s.orc) (.si a2) (.si s.at1) (.slist ((s.done ++ dn).map donA)) (.slist ((s.done).map donA)) (.slist (cut (s.log.map entA) (some (s.at1 + 1 - e0.idx)) (some (s.at1 + 1 - e0.idx + (s.commit - s.at1)))))) 30)∧k) (by kernel_rfl) fun _ z=>(And.intro (decide_eq_true h1) (And.intro h2 (And.intro (decide_eq_false h3) (And.intro c.l2 (And.intro t1l z)))))
theorem t1b {X:Cx} {P:Params} {s:S} {num nd1:Int}  (h1:¬ (s.at1 < s.commit)) :
    XF X P 176 765 (stA P 765 563) [(n_self,.loc 7),(n_needSendAppendEntries,.bool false)] [.bit false] (tkS s num (.si nd1) (.sb s.orc) (.si s.at1) (.si s.at1) (.slist ((s.done).map donA)) (.slist ((s.done).map donA))) 29 (landK [] [(n_self,.loc 7),(n_needSendAppendEntries,.bool false)] (tkS s num (.si nd1) (.sb s.orc) (.si s.at1) (.si s.at1) (.slist ((s.done).map donA)) (.slist ((s.done).map donA)))):=
  kXF (fun k=>(decide (s.at1 < s.commit) = false)∧k) (by kernel_rfl) fun _ z=>(And.intro (decide_eq_false h1) z)
end Mine
namespace Mine
noncomputable abbrev ckF0 (j num:Int):Frame:=((n_count,.si j) :: (n_number,.si num) :: (frm ++ [(n_due,.loc 28),(n_box,.loc 27)]))
noncomputable abbrev ckF1 (j num:Int) (who:Str):Frame:=((n_count,.si j) :: (n_number,.si num) :: (frm ++ [(n_due,.loc 28),(n_box,.loc 27),(n_who,.ss who),(n_kind,.si (num.fmod 6))]))
noncomputable abbrev ckS (s:S) (num:Int) (l:AObj):Store:=[(28,.list []),(27,.list [.si (num.fdiv (6 * len s.nl))]),(0,jourA (.loc 1) (.si s.term) (.so s.voted)),(1,.slist (s.log.map entA)),(2,givA (.loc 3) (.si s.now)),(3,.slist (s.done.map donA)),(4,.list []),(5,transO),(6,.list []),(7,nodeA (.loc 13) (.si s.term) (.so s.voted) (.so s.leader) (.si (s.reset + 400)) (.si s.commit) (.si s.at1) (.si s.lst) (.io s.lc) (.sb s.orc) (.si s.st) (.si s.nd)),(8,confO),(9,serO),(10,queO),(11,.list []),(12,.edict),(13,.edict),(14,ownA (.loc 16) (.loc 15) (.si s.term) (.so s.voted) (.si s.commit) (.si s.at1) (.so s.leader) (.si s.now) (.si s.reset)),(15,.slist (s.log.map entA)),(16,.slist (s.done.map donA)),(17,l)]
theorem late {X:Cx} {P:Params} {s:S} {j num:Int} {who:Str} {e:Ent} (c:Com s num who e) (h1:¬ (num.fmod 6 = 0))
    (h2:¬ (num.fmod 6 < 3))
    (h3:¬ (num.fmod 6 = 3))
    (h4:¬ (num.fmod 6 = 4)) :
    PR X (T P) 190 (lawFi P) (frmN j num) (turnB P) ⟨[.av (.ss who),.bit false,.bit false,.bit false,.bit false,.av (.bool true),.av (.bool true),.av (.bool true),.av (.bool true),.av (.bool true),.bit false],sgs s,27⟩ (leafQ [] (qOf s)):=
  kmp (p:=(s.nl.length < 2 ^ 62)∧(6 * len s.nl ≠ 0∧(6 * len s.nl).natAbs < 1073741824)∧(s.nl.length < 2 ^ 62)∧(len s.nl ≠ 0)∧(s.nl.length < 2 ^ 62∧SoftO (ix s.nl ((num.fdiv 6).fmod (len s.nl))) (AV.ss who))∧(decide (num.fmod 6 = 0) = false)∧(decide (num.fmod 6 < 3) = false)∧(decide (num.fmod 6 = 3) = false)∧(decide (num.fmod 6 = 4) = false)∧((List.map entA s.log).length ≤ sizeLine)∧(cut (List.map entA s.log) (some 0) none = List.map entA s.log∧∀ (x:AV),x ∈ cut (List.map entA s.log) (some 0) none → FlatOk x)∧(List.map donA s.done = List.map donA s.done∧∀ (x:AV),x ∈ List.map donA s.done → FlatOk x)∧(s.term = s.term)∧(s.term = s.term)∧(s.voted = s.voted)∧(s.commit = s.commit)∧(s.at1 = s.at1)∧((!decide (s.leader = s.leader)) = false)∧fin [] (qOf s)) (by kernel_rfl) (And.intro c.a1 (And.intro c.a2 (And.intro c.a1 (And.intro c.a3 (And.intro c.a4 (And.intro (decide_eq_false h1) (And.intro (decide_eq_false h2) (And.intro (decide_eq_false h3) (And.intro (decide_eq_false h4) (And.intro c.l2 (And.intro c.l4 (And.intro c.d1 (And.intro rfl (And.intro rfl (And.intro rfl (And.intro rfl (And.intro rfl (And.intro (leq s.leader) (fin_ok [] (qOf s))))))))))))))))))))
theorem c0_0 {X:Cx} {P:Params} {s:S} {j num:Int} {who:Str} {e:Ent} (c:Com s num who e)  :
    XF X P 188 1109 (stA P 1109 1092) (ckF0 j num) [.av (.ss who)] (ckS s num (.slist s.nl)) 29 (landK [] (ckF1 j num who) (ckS s num (.slist s.nl))):=
  kXF (fun k=>(s.nl.length < 2 ^ 62)∧(len s.nl ≠ 0)∧(s.nl.length < 2 ^ 62∧SoftO (ix s.nl ((num.fdiv 6).fmod (len s.nl))) (AV.ss who))∧k) (by kernel_rfl) fun _ z=>(And.intro c.a1 (And.intro c.a3 (And.intro c.a4 z)))
theorem crash0 {X:Cx} {P:Params} {s:S} {j num:Int} {who:Str} {e:Ent} (c:Com s num who e) (c0:XsOk X 189 (fdAt (K P) 1109) (ckF0 j num) (stA P 1109 1092) (ckS s num (.slist s.nl)) 29 .next (ckF1 j num who) (ckS s num (.list [.str ⟨⟨[98]⟩⟩,.str ⟨⟨[99]⟩⟩])) 29)
    (h1:¬ (num.fmod 6 = 0))
    (h2:¬ (num.fmod 6 < 3))
    (h3:¬ (num.fmod 6 = 3))
    (h4:num.fmod 6 = 4)
    (h5:0 ≤ len (List.map entA s.log)∧len (List.map entA s.log) < 2 ^ 63)
    (h6:¬ (len (List.map entA s.log) = 0))
    (h7:(if s.term < e.term then e.term else s.term) = if s.term < e.term then e.term else s.term)
    (h8:s.term = if s.term < e.term then e.term else s.term) :
    PR X (T P) 190 (lawFi P) (frmN j num) (turnB P) ⟨[.stmt 1092 .next (ckF1 j num who) (ckS s num (.list [.str ⟨⟨[98]⟩⟩,.str ⟨⟨[99]⟩⟩])) 29,.bit false,.bit false,.bit false,.bit true,.bit false,.av (ent e),.av (ent e),.av (.bool true),.av (.bool true),.av (.bool true),.av (.bool true),.av (.bool true),.bit false],sgs s,27⟩ (leafQ [0,1,29,31,30,34,35,38,37,45,47,48,49,50,14,15,51,17,32,33,39,40,41,42,43,44,46] ({ qOf s with term:=.si (if s.term < e.term then e.term else s.term),oterm:=.si (if s.term < e.term then e.term else s.term),leader:=.none,oleader:=.none,dead:=.si (s.now + 400),commit:=.int 1,at1:=.int 1,ocommit:=.int 1,oat:=.int 1,lst:=.si s.now,lc:=.none,orc:=.bool false,st:=.si s.now,nd:=.int 0,oreset:=.si s.now,done:=.list [],odone:=.list [],nl:=.list [.str ⟨⟨[98]⟩⟩,.str ⟨⟨[99]⟩⟩] })):=
  kmp (p:=(s.nl.length < 2 ^ 62)∧(6 * len s.nl ≠ 0∧(6 * len s.nl).natAbs < 1073741824)∧(XsOk X 189 (fdAt (K P) 1109) (ckF0 j num) (stA P 1109 1092) (ckS s num (.slist s.nl)) 29 .next (ckF1 j num who) (ckS s num (.list [.str ⟨⟨[98]⟩⟩,.str ⟨⟨[99]⟩⟩])) 29)∧(decide (num.fmod 6 = 0) = false)∧(decide (num.fmod 6 < 3) = false)∧(decide (num.fmod 6 = 3) = false)∧(decide (num.fmod 6 = 4) = true)∧((List.map entA s.log).length < 2 ^ 62)∧(0 ≤ len (List.map entA s.log)∧len (List.map entA s.log) < 2 ^ 63)∧(decide (len (List.map entA s.log) = 0) = false)∧((List.map entA s.log).length < 2 ^ 62∧SoftO (ix (List.map entA s.log) (-1)) (ent e))∧((List.map entA s.log).length < 2 ^ 62∧SoftO (ix (List.map entA s.log) (-1)) (ent e))∧((List.map entA s.log).length ≤ sizeLine)∧(cut (List.map entA s.log) (some 0) none = List.map entA s.log∧∀ (x:AV),x ∈ cut (List.map entA s.log) (some 0) none → FlatOk x)∧((if s.term < e.term then e.term else s.term) = if s.term < e.term then e.term else s.term)∧(s.term = if s.term < e.term then e.term else s.term)∧(s.voted = s.voted)∧fin [0,1,29,31,30,34,35,38,37,45,47,48,49,50,14,15,51,17,32,33,39,40,41,42,43,44,46] ({ qOf s with term:=.si (if s.term < e.term then e.term else s.term),oterm:=.si (if s.term < e.term then e.term else s.term),leader:=.none,oleader:=.none,dead:=.si (s.now + 400),commit:=.int 1,at1:=.int 1,ocommit:=.int 1,oat:=.int 1,lst:=.si s.now,lc:=.none,orc:=.bool false,st:=.si s.now,nd:=.int 0,oreset:=.si s.now,done:=.list [],odone:=.list [],nl:=.list [.str ⟨⟨[98]⟩⟩,.str ⟨⟨[99]⟩⟩] })) (by kernel_rfl) (And.intro c.a1 (And.intro c.a2 (And.intro c0 (And.intro (decide_eq_false h1) (And.intro (decide_eq_false h2) (And.intro (decide_eq_false h3) (And.intro (decide_eq_true h4) (And.intro c.l1 (And.intro h5 (And.intro (decide_eq_false h6) (And.intro c.l3 (And.intro c.l3 (And.intro c.l2 (And.intro c.l4 (And.intro h7 (And.intro h8 (And.intro rfl (fin_ok [0,1,29,31,30,34,35,38,37,45,47,48,49,50,14,15,51,17,32,33,39,40,41,42,43,44,46] ({ qOf s with term:=.si (if s.term < e.term then e.term else s.term),oterm:=.si (if s.term < e.term then e.term else s.term),leader:=.none,oleader:=.none,dead:=.si (s.now + 400),commit:=.int 1,at1:=.int 1,ocommit:=.int 1,oat:=.int 1,lst:=.si s.now,lc:=.none,orc:=.bool false,st:=.si s.now,nd:=.int 0,oreset:=.si s.now,done:=.list [],odone:=.list [],nl:=.list [.str ⟨⟨[98]⟩⟩,.str ⟨⟨[99]⟩⟩] })))))))))))))))))))
theorem c0_1 {X:Cx} {P:Params} {s:S} {j num:Int} {who:Str} {e:Ent} (c:Com s num who e)  :
    XF X P 188 1109 (stA P 1109 1092) (ckF0 j num) [.av (.ss who)] (ckS s num (.slist s.nl)) 29 (landK [] (ckF1 j num who) (ckS s num (.slist s.nl))):=
  kXF (fun k=>(s.nl.length < 2 ^ 62)∧(len s.nl ≠ 0)∧(s.nl.length < 2 ^ 62∧SoftO (ix s.nl ((num.fdiv 6).fmod (len s.nl))) (AV.ss who))∧k) (by kernel_rfl) fun _ z=>(And.intro c.a1 (And.intro c.a3 (And.intro c.a4 z)))
theorem crash1 {X:Cx} {P:Params} {s:S} {j num:Int} {who:Str} {e:Ent} (c:Com s num who e) (c0:XsOk X 189 (fdAt (K P) 1109) (ckF0 j num) (stA P 1109 1092) (ckS s num (.slist s.nl)) 29 .next (ckF1 j num who) (ckS s num (.list [.str ⟨⟨[98]⟩⟩,.str ⟨⟨[99]⟩⟩,.str ⟨⟨[100]⟩⟩])) 29)
    (h1:¬ (num.fmod 6 = 0))
    (h2:¬ (num.fmod 6 < 3))
    (h3:¬ (num.fmod 6 = 3))
    (h4:num.fmod 6 = 4)
    (h5:0 ≤ len (List.map entA s.log)∧len (List.map entA s.log) < 2 ^ 63)
    (h6:¬ (len (List.map entA s.log) = 0))
    (h7:(if s.term < e.term then e.term else s.term) = if s.term < e.term then e.term else s.term)
    (h8:s.term = if s.term < e.term then e.term else s.term) :
    PR X (T P) 190 (lawFi P) (frmN j num) (turnB P) ⟨[.stmt 1092 .next (ckF1 j num who) (ckS s num (.list [.str ⟨⟨[98]⟩⟩,.str ⟨⟨[99]⟩⟩,.str ⟨⟨[100]⟩⟩])) 29,.bit false,.bit false,.bit false,.bit true,.bit false,.av (ent e),.av (ent e),.av (.bool true),.av (.bool true),.av (.bool true),.av (.bool true),.av (.bool true),.bit false],sgs s,27⟩ (leafQ [0,1,29,31,30,34,35,38,37,45,47,48,49,50,14,15,51,17,32,33,39,40,41,42,43,44,46] ({ qOf s with term:=.si (if s.term < e.term then e.term else s.term),oterm:=.si (if s.term < e.term then e.term else s.term),leader:=.none,oleader:=.none,dead:=.si (s.now + 400),commit:=.int 1,at1:=.int 1,ocommit:=.int 1,oat:=.int 1,lst:=.si s.now,lc:=.none,orc:=.bool false,st:=.si s.now,nd:=.int 0,oreset:=.si s.now,done:=.list [],odone:=.list [],nl:=.list [.str ⟨⟨[98]⟩⟩,.str ⟨⟨[99]⟩⟩,.str ⟨⟨[100]⟩⟩] })):=
  kmp (p:=(s.nl.length < 2 ^ 62)∧(6 * len s.nl ≠ 0∧(6 * len s.nl).natAbs < 1073741824)∧(XsOk X 189 (fdAt (K P) 1109) (ckF0 j num) (stA P 1109 1092) (ckS s num (.slist s.nl)) 29 .next (ckF1 j num who) (ckS s num (.list [.str ⟨⟨[98]⟩⟩,.str ⟨⟨[99]⟩⟩,.str ⟨⟨[100]⟩⟩])) 29)∧(decide (num.fmod 6 = 0) = false)∧(decide (num.fmod 6 < 3) = false)∧(decide (num.fmod 6 = 3) = false)∧(decide (num.fmod 6 = 4) = true)∧((List.map entA s.log).length < 2 ^ 62)∧(0 ≤ len (List.map entA s.log)∧len (List.map entA s.log) < 2 ^ 63)∧(decide (len (List.map entA s.log) = 0) = false)∧((List.map entA s.log).length < 2 ^ 62∧SoftO (ix (List.map entA s.log) (-1)) (ent e))∧((List.map entA s.log).length < 2 ^ 62∧SoftO (ix (List.map entA s.log) (-1)) (ent e))∧((List.map entA s.log).length ≤ sizeLine)∧(cut (List.map entA s.log) (some 0) none = List.map entA s.log∧∀ (x:AV),x ∈ cut (List.map entA s.log) (some 0) none → FlatOk x)∧((if s.term < e.term then e.term else s.term) = if s.term < e.term then e.term else s.term)∧(s.term = if s.term < e.term then e.term else s.term)∧(s.voted = s.voted)∧fin [0,1,29,31,30,34,35,38,37,45,47,48,49,50,14,15,51,17,32,33,39,40,41,42,43,44,46] ({ qOf s with term:=.si (if s.term < e.term then e.term else s.term),oterm:=.si (if s.term < e.term then e.term else s.term),leader:=.none,oleader:=.none,dead:=.si (s.now + 400),commit:=.int 1,at1:=.int 1,ocommit:=.int 1,oat:=.int 1,lst:=.si s.now,lc:=.none,orc:=.bool false,st:=.si s.now,nd:=.int 0,oreset:=.si s.now,done:=.list [],odone:=.list [],nl:=.list [.str ⟨⟨[98]⟩⟩,.str ⟨⟨[99]⟩⟩,.str ⟨⟨[100]⟩⟩] })) (by kernel_rfl) (And.intro c.a1 (And.intro c.a2 (And.intro c0 (And.intro (decide_eq_false h1) (And.intro (decide_eq_false h2) (And.intro (decide_eq_false h3) (And.intro (decide_eq_true h4) (And.intro c.l1 (And.intro h5 (And.intro (decide_eq_false h6) (And.intro c.l3 (And.intro c.l3 (And.intro c.l2 (And.intro c.l4 (And.intro h7 (And.intro h8 (And.intro rfl (fin_ok [0,1,29,31,30,34,35,38,37,45,47,48,49,50,14,15,51,17,32,33,39,40,41,42,43,44,46] ({ qOf s with term:=.si (if s.term < e.term then e.term else s.term),oterm:=.si (if s.term < e.term then e.term else s.term),leader:=.none,oleader:=.none,dead:=.si (s.now + 400),commit:=.int 1,at1:=.int 1,ocommit:=.int 1,oat:=.int 1,lst:=.si s.now,lc:=.none,orc:=.bool false,st:=.si s.now,nd:=.int 0,oreset:=.si s.now,done:=.list [],odone:=.list [],nl:=.list [.str ⟨⟨[98]⟩⟩,.str ⟨⟨[99]⟩⟩,.str ⟨⟨[100]⟩⟩] })))))))))))))))))))
theorem c0_2 {X:Cx} {P:Params} {s:S} {j num:Int} {who:Str} {e:Ent} (c:Com s num who e)  :
    XF X P 188 1109 (stA P 1109 1092) (ckF0 j num) [.av (.ss who)] (ckS s num (.slist s.nl)) 29 (landK [] (ckF1 j num who) (ckS s num (.slist s.nl))):=
  kXF (fun k=>(s.nl.length < 2 ^ 62)∧(len s.nl ≠ 0)∧(s.nl.length < 2 ^ 62∧SoftO (ix s.nl ((num.fdiv 6).fmod (len s.nl))) (AV.ss who))∧k) (by kernel_rfl) fun _ z=>(And.intro c.a1 (And.intro c.a3 (And.intro c.a4 z)))
theorem crash2 {X:Cx} {P:Params} {s:S} {j num:Int} {who:Str} {e:Ent} (c:Com s num who e) (c0:XsOk X 189 (fdAt (K P) 1109) (ckF0 j num) (stA P 1109 1092) (ckS s num (.slist s.nl)) 29 .next (ckF1 j num who) (ckS s num (.list [.str ⟨⟨[98]⟩⟩,.str ⟨⟨[99]⟩⟩,.str ⟨⟨[100]⟩⟩,.str ⟨⟨[101]⟩⟩])) 29)
    (h1:¬ (num.fmod 6 = 0))
    (h2:¬ (num.fmod 6 < 3))
    (h3:¬ (num.fmod 6 = 3))
    (h4:num.fmod 6 = 4)
    (h5:0 ≤ len (List.map entA s.log)∧len (List.map entA s.log) < 2 ^ 63)
    (h6:¬ (len (List.map entA s.log) = 0))
    (h7:(if s.term < e.term then e.term else s.term) = if s.term < e.term then e.term else s.term)
    (h8:s.term = if s.term < e.term then e.term else s.term) :
    PR X (T P) 190 (lawFi P) (frmN j num) (turnB P) ⟨[.stmt 1092 .next (ckF1 j num who) (ckS s num (.list [.str ⟨⟨[98]⟩⟩,.str ⟨⟨[99]⟩⟩,.str ⟨⟨[100]⟩⟩,.str ⟨⟨[101]⟩⟩])) 29,.bit false,.bit false,.bit false,.bit true,.bit false,.av (ent e),.av (ent e),.av (.bool true),.av (.bool true),.av (.bool true),.av (.bool true),.av (.bool true),.bit false],sgs s,27⟩ (leafQ [0,1,29,31,30,34,35,38,37,45,47,48,49,50,14,15,51,17,32,33,39,40,41,42,43,44,46] ({ qOf s with term:=.si (if s.term < e.term then e.term else s.term),oterm:=.si (if s.term < e.term then e.term else s.term),leader:=.none,oleader:=.none,dead:=.si (s.now + 400),commit:=.int 1,at1:=.int 1,ocommit:=.int 1,oat:=.int 1,lst:=.si s.now,lc:=.none,orc:=.bool false,st:=.si s.now,nd:=.int 0,oreset:=.si s.now,done:=.list [],odone:=.list [],nl:=.list [.str ⟨⟨[98]⟩⟩,.str ⟨⟨[99]⟩⟩,.str ⟨⟨[100]⟩⟩,.str ⟨⟨[101]⟩⟩] })):=
  kmp (p:=(s.nl.length < 2 ^ 62)∧(6 * len s.nl ≠ 0∧(6 * len s.nl).natAbs < 1073741824)∧(XsOk X 189 (fdAt (K P) 1109) (ckF0 j num) (stA P 1109 1092) (ckS s num (.slist s.nl)) 29 .next (ckF1 j num who) (ckS s num (.list [.str ⟨⟨[98]⟩⟩,.str ⟨⟨[99]⟩⟩,.str ⟨⟨[100]⟩⟩,.str ⟨⟨[101]⟩⟩])) 29)∧(decide (num.fmod 6 = 0) = false)∧(decide (num.fmod 6 < 3) = false)∧(decide (num.fmod 6 = 3) = false)∧(decide (num.fmod 6 = 4) = true)∧((List.map entA s.log).length < 2 ^ 62)∧(0 ≤ len (List.map entA s.log)∧len (List.map entA s.log) < 2 ^ 63)∧(decide (len (List.map entA s.log) = 0) = false)∧((List.map entA s.log).length < 2 ^ 62∧SoftO (ix (List.map entA s.log) (-1)) (ent e))∧((List.map entA s.log).length < 2 ^ 62∧SoftO (ix (List.map entA s.log) (-1)) (ent e))∧((List.map entA s.log).length ≤ sizeLine)∧(cut (List.map entA s.log) (some 0) none = List.map entA s.log∧∀ (x:AV),x ∈ cut (List.map entA s.log) (some 0) none → FlatOk x)∧((if s.term < e.term then e.term else s.term) = if s.term < e.term then e.term else s.term)∧(s.term = if s.term < e.term then e.term else s.term)∧(s.voted = s.voted)∧fin [0,1,29,31,30,34,35,38,37,45,47,48,49,50,14,15,51,17,32,33,39,40,41,42,43,44,46] ({ qOf s with term:=.si (if s.term < e.term then e.term else s.term),oterm:=.si (if s.term < e.term then e.term else s.term),leader:=.none,oleader:=.none,dead:=.si (s.now + 400),commit:=.int 1,at1:=.int 1,ocommit:=.int 1,oat:=.int 1,lst:=.si s.now,lc:=.none,orc:=.bool false,st:=.si s.now,nd:=.int 0,oreset:=.si s.now,done:=.list [],odone:=.list [],nl:=.list [.str ⟨⟨[98]⟩⟩,.str ⟨⟨[99]⟩⟩,.str ⟨⟨[100]⟩⟩,.str ⟨⟨[101]⟩⟩] })) (by kernel_rfl) (And.intro c.a1 (And.intro c.a2 (And.intro c0 (And.intro (decide_eq_false h1) (And.intro (decide_eq_false h2) (And.intro (decide_eq_false h3) (And.intro (decide_eq_true h4) (And.intro c.l1 (And.intro h5 (And.intro (decide_eq_false h6) (And.intro c.l3 (And.intro c.l3 (And.intro c.l2 (And.intro c.l4 (And.intro h7 (And.intro h8 (And.intro rfl (fin_ok [0,1,29,31,30,34,35,38,37,45,47,48,49,50,14,15,51,17,32,33,39,40,41,42,43,44,46] ({ qOf s with term:=.si (if s.term < e.term then e.term else s.term),oterm:=.si (if s.term < e.term then e.term else s.term),leader:=.none,oleader:=.none,dead:=.si (s.now + 400),commit:=.int 1,at1:=.int 1,ocommit:=.int 1,oat:=.int 1,lst:=.si s.now,lc:=.none,orc:=.bool false,st:=.si s.now,nd:=.int 0,oreset:=.si s.now,done:=.list [],odone:=.list [],nl:=.list [.str ⟨⟨[98]⟩⟩,.str ⟨⟨[99]⟩⟩,.str ⟨⟨[100]⟩⟩,.str ⟨⟨[101]⟩⟩] })))))))))))))))))))
end Mine
namespace Mine
theorem cons_eq {α:Type} {a b:α} {l m:List α} (h:a = b) (k:l = m):a :: l = b :: m:=by rw [h,k]
mutual
theorem mp_id:∀ a:AV,AV.mp (fOf []) a = a
  | .loc n=>rfl
  | .tup l=>congrArg AV.tup (mps_id l)
  | .fl l=>congrArg AV.fl (mps_id l)
  | .none=>rfl
  | .bool b=>rfl
  | .int i=>rfl
  | .str x=>rfl
  | .stat v=>rfl
  | .sb b=>rfl
  | .si i=>rfl
  | .ss x=>rfl
  | .so o=>rfl
  | .io o=>rfl
  | .sl l=>rfl
theorem mps_id:∀ l:List AV,AV.mps (fOf []) l = l
  | []=>rfl
  | a :: l=>cons_eq (mp_id a) (mps_id l)
end
theorem mpA_id:∀ l,mpA (fOf []) l = l
  | []=>rfl
  | p :: l=>cons_eq (congrArg (Prod.mk p.1) (mp_id p.2)) (mpA_id l)
theorem mpD_id {κ:Type}:∀ l:List (κ × AV),mpD (fOf []) l = l
  | []=>rfl
  | p :: l=>cons_eq (congrArg (Prod.mk p.1) (mp_id p.2)) (mpD_id l)
theorem mpo_id:∀ o,AObj.mp (fOf []) o = o
  | .inst C l=>congrArg (AObj.inst C) (mpA_id l)
  | .list l=>congrArg AObj.list (mps_id l)
  | .dict l=>congrArg AObj.dict (mpD_id l)
  | .set l=>rfl
  | .slist l=>rfl
  | .edict=>rfl
noncomputable def vals {α:Type}:List (Nat × α) → List (Option α)
  | []=>[]
  | p :: l=>some p.2 :: vals l
theorem mpF_id:∀ l,mpF (fOf []) l = vals l
  | []=>rfl
  | p :: l=>cons_eq (congrArg some (mp_id p.2)) (mpF_id l)
theorem mpS_id:∀ l,mpS (fOf []) l = vals l
  | []=>rfl
  | p :: l=>cons_eq (congrArg some (mpo_id p.2)) (mpS_id l)
theorem mapF_id:∀ l,mapF (fOf []) l = l
  | []=>rfl
  | p :: l=>congrArg (List.cons p) (mapF_id l)
/-- as it stands,no place renamed -/
noncomputable def landI (F':Frame) (σ':Store) (fl:Fl) (F:Frame) (w:W):Prop:=fl = .next∧gts F (keysOf F') = vals F'∧gts w.σ (keysOf σ') = vals σ'
theorem landI_K (F':Frame) (σ':Store):landI F' σ' = landK [] F' σ':=by
  funext fl F w
  unfold landI landK
  rw [mpF_id,mpS_id,mapF_id]
noncomputable abbrev lndI (F':Frame) (σ':Store):Prop:=Fl.next = Fl.next∧vals F' = vals F'∧vals σ' = vals σ'
theorem lndI_ok (F':Frame) (σ':Store):lndI F' σ':=⟨rfl,rfl,rfl⟩
theorem n6_0 {X:Cx} {P:Params} {s:S} {t p a b cm x:Int} {who:Str} {v:Option Str} {ol lp:List Ent} {r u:Bool}   :
    XF X P 177 856 (stA P 856 702) [(n_self,.loc 7),(n_node,.ss who),(n_message,.loc 29),(n_newEntries,.loc 30),(n_serialized,.none),(n_leaderCommitIndex,.si (eC s b)),(n_prevLogIdx,.si p),(n_prevLogTerm,.si a),(n_prevEntries,.loc 36)] [] [(37,.slist (lp.map entA)),(34,.edict),(33,.slist (ol.map entA)),(32,ansA (.si x) (.sb r) (.sb u)),(31,.list [.tup [.ss who,.loc 32]]),(30,.list []),(29,msgA s t p a b),(0,jourA (.loc 37) (.si t) (.so v)),(2,givA (.loc 3) (.si s.now)),(3,.slist (s.done.map donA)),(4,.list []),(5,transO),(6,.list []),(7,nodeA (.loc 34) (.si t) (.so v) (.ss who) (.si (s.now + 400)) (.si s.commit) (.si s.at1) (.si s.lst) (.si (eC s b)) (.sb s.orc) (.si s.st) (.si s.nd)),(8,confO),(9,serO),(10,queO),(11,.list []),(12,.edict),(14,ownA (.loc 16) (.loc 33) (.si t) (.so v) (.si cm) (.si s.at1) (.so (some who)) (.si s.now) (.si s.now)),(16,.slist (s.done.map donA)),(17,.slist s.nl)] 38 (landI [(n_self,.loc 7),(n_node,.ss who),(n_message,.loc 29),(n_newEntries,.loc 30),(n_serialized,.none),(n_leaderCommitIndex,.si (eC s b)),(n_prevLogIdx,.si p),(n_prevLogTerm,.si a),(n_prevEntries,.loc 36)] [(37,.slist (lp.map entA)),(34,.edict),(33,.slist (ol.map entA)),(32,ansA (.si x) (.sb r) (.sb u)),(31,.list [.tup [.ss who,.loc 32]]),(30,.list []),(29,msgA s t p a b),(0,jourA (.loc 37) (.si t) (.so v)),(2,givA (.loc 3) (.si s.now)),(3,.slist (s.done.map donA)),(4,.list []),(5,transO),(6,.list []),(7,nodeA (.loc 34) (.si t) (.so v) (.ss who) (.si (s.now + 400)) (.si s.commit) (.si s.at1) (.si s.lst) (.si (eC s b)) (.sb s.orc) (.si s.st) (.si s.nd)),(8,confO),(9,serO),(10,queO),(11,.list []),(12,.edict),(14,ownA (.loc 16) (.loc 33) (.si t) (.so v) (.si cm) (.si s.at1) (.so (some who)) (.si s.now) (.si s.now)),(16,.slist (s.done.map donA)),(17,.slist s.nl)]):=
  kmp (p:=lndI [(n_self,.loc 7),(n_node,.ss who),(n_message,.loc 29),(n_newEntries,.loc 30),(n_serialized,.none),(n_leaderCommitIndex,.si (eC s b)),(n_prevLogIdx,.si p),(n_prevLogTerm,.si a),(n_prevEntries,.loc 36)] [(37,.slist (lp.map entA)),(34,.edict),(33,.slist (ol.map entA)),(32,ansA (.si x) (.sb r) (.sb u)),(31,.list [.tup [.ss who,.loc 32]]),(30,.list []),(29,msgA s t p a b),(0,jourA (.loc 37) (.si t) (.so v)),(2,givA (.loc 3) (.si s.now)),(3,.slist (s.done.map donA)),(4,.list []),(5,transO),(6,.list []),(7,nodeA (.loc 34) (.si t) (.so v) (.ss who) (.si (s.now + 400)) (.si s.commit) (.si s.at1) (.si s.lst) (.si (eC s b)) (.sb s.orc) (.si s.st) (.si s.nd)),(8,confO),(9,serO),(10,queO),(11,.list []),(12,.edict),(14,ownA (.loc 16) (.loc 33) (.si t) (.so v) (.si cm) (.si s.at1) (.so (some who)) (.si s.now) (.si s.now)),(16,.slist (s.done.map donA)),(17,.slist s.nl)]) (by kernel_rfl) (lndI_ok [(n_self,.loc 7),(n_node,.ss who),(n_message,.loc 29),(n_newEntries,.loc 30),(n_serialized,.none),(n_leaderCommitIndex,.si (eC s b)),(n_prevLogIdx,.si p),(n_prevLogTerm,.si a),(n_prevEntries,.loc 36)] [(37,.slist (lp.map entA)),(34,.edict),(33,.slist (ol.map entA)),(32,ansA (.si x) (.sb r) (.sb u)),(31,.list [.tup [.ss who,.loc 32]]),(30,.list []),(29,msgA s t p a b),(0,jourA (.loc 37) (.si t) (.so v)),(2,givA (.loc 3) (.si s.now)),(3,.slist (s.done.map donA)),(4,.list []),(5,transO),(6,.list []),(7,nodeA (.loc 34) (.si t) (.so v) (.ss who) (.si (s.now + 400)) (.si s.commit) (.si s.at1) (.si s.lst) (.si (eC s b)) (.sb s.orc) (.si s.st) (.si s.nd)),(8,confO),(9,serO),(10,queO),(11,.list []),(12,.edict),(14,ownA (.loc 16) (.loc 33) (.si t) (.so v) (.si cm) (.si s.at1) (.so (some who)) (.si s.now) (.si s.now)),(16,.slist (s.done.map donA)),(17,.slist s.nl)])
theorem n6_1 {X:Cx} {P:Params} {s:S} {t p a b cm x:Int} {who:Str} {e1:Ent} {v:Option Str} {ol lp:List Ent} {r u:Bool}  (h1:(List.map entA lp).length ≤ sizeLine) :
    XF X P 177 856 (stA P 856 702) [(n_self,.loc 7),(n_node,.ss who),(n_message,.loc 29),(n_newEntries,.loc 30),(n_serialized,.none),(n_leaderCommitIndex,.si (eC s b)),(n_prevLogIdx,.si p),(n_prevLogTerm,.si a),(n_prevEntries,.loc 36)] [] [(37,.slist (lp.map entA)),(34,.edict),(33,.slist (ol.map entA)),(32,ansA (.si x) (.sb r) (.sb u)),(31,.list [.tup [.ss who,.loc 32]]),(30,.list [entA e1]),(29,msgA s t p a b),(0,jourA (.loc 37) (.si t) (.so v)),(2,givA (.loc 3) (.si s.now)),(3,.slist (s.done.map donA)),(4,.list []),(5,transO),(6,.list []),(7,nodeA (.loc 34) (.si t) (.so v) (.ss who) (.si (s.now + 400)) (.si s.commit) (.si s.at1) (.si s.lst) (.si (eC s b)) (.sb s.orc) (.si s.st) (.si s.nd)),(8,confO),(9,serO),(10,queO),(11,.list []),(12,.edict),(14,ownA (.loc 16) (.loc 33) (.si t) (.so v) (.si cm) (.si s.at1) (.so (some who)) (.si s.now) (.si s.now)),(16,.slist (s.done.map donA)),(17,.slist s.nl)] 38 (landI [(n_self,.loc 7),(n_node,.ss who),(n_message,.loc 29),(n_newEntries,.loc 30),(n_serialized,.none),(n_leaderCommitIndex,.si (eC s b)),(n_prevLogIdx,.si p),(n_prevLogTerm,.si a),(n_prevEntries,.loc 36)] [(37,.slist ((lp.map entA ++ [entA e1]))),(34,.edict),(33,.slist (ol.map entA)),(32,ansA (.si x) (.sb r) (.sb u)),(31,.list [.tup [.ss who,.loc 32]]),(30,.list [entA e1]),(29,msgA s t p a b),(0,jourA (.loc 37) (.si t) (.so v)),(2,givA (.loc 3) (.si s.now)),(3,.slist (s.done.map donA)),(4,.list []),(5,transO),(6,.list []),(7,nodeA (.loc 34) (.si t) (.so v) (.ss who) (.si (s.now + 400)) (.si s.commit) (.si s.at1) (.si s.lst) (.si (eC s b)) (.sb s.orc) (.si s.st) (.si s.nd)),(8,confO),(9,serO),(10,queO),(11,.list []),(12,.edict),(14,ownA (.loc 16) (.loc 33) (.si t) (.so v) (.si cm) (.si s.at1) (.so (some who)) (.si s.now) (.si s.now)),(16,.slist (s.done.map donA)),(17,.slist s.nl)]):=
  kmp (p:=((List.map entA lp).length ≤ sizeLine)∧lndI [(n_self,.loc 7),(n_node,.ss who),(n_message,.loc 29),(n_newEntries,.loc 30),(n_serialized,.none),(n_leaderCommitIndex,.si (eC s b)),(n_prevLogIdx,.si p),(n_prevLogTerm,.si a),(n_prevEntries,.loc 36)] [(37,.slist ((lp.map entA ++ [entA e1]))),(34,.edict),(33,.slist (ol.map entA)),(32,ansA (.si x) (.sb r) (.sb u)),(31,.list [.tup [.ss who,.loc 32]]),(30,.list [entA e1]),(29,msgA s t p a b),(0,jourA (.loc 37) (.si t) (.so v)),(2,givA (.loc 3) (.si s.now)),(3,.slist (s.done.map donA)),(4,.list []),(5,transO),(6,.list []),(7,nodeA (.loc 34) (.si t) (.so v) (.ss who) (.si (s.now + 400)) (.si s.commit) (.si s.at1) (.si s.lst) (.si (eC s b)) (.sb s.orc) (.si s.st) (.si s.nd)),(8,confO),(9,serO),(10,queO),(11,.list []),(12,.edict),(14,ownA (.loc 16) (.loc 33) (.si t) (.so v) (.si cm) (.si s.at1) (.so (some who)) (.si s.now) (.si s.now)),(16,.slist (s.done.map donA)),(17,.slist s.nl)]) (by kernel_rfl) (And.intro h1 (lndI_ok [(n_self,.loc 7),(n_node,.ss who),(n_message,.loc 29),(n_newEntries,.loc 30),(n_serialized,.none),(n_leaderCommitIndex,.si (eC s b)),(n_prevLogIdx,.si p),(n_prevLogTerm,.si a),(n_prevEntries,.loc 36)] [(37,.slist ((lp.map entA ++ [entA e1]))),(34,.edict),(33,.slist (ol.map entA)),(32,ansA (.si x) (.sb r) (.sb u)),(31,.list [.tup [.ss who,.loc 32]]),(30,.list [entA e1]),(29,msgA s t p a b),(0,jourA (.loc 37) (.si t) (.so v)),(2,givA (.loc 3) (.si s.now)),(3,.slist (s.done.map donA)),(4,.list []),(5,transO),(6,.list []),(7,nodeA (.loc 34) (.si t) (.so v) (.ss who) (.si (s.now + 400)) (.si s.commit) (.si s.at1) (.si s.lst) (.si (eC s b)) (.sb s.orc) (.si s.st) (.si s.nd)),(8,confO),(9,serO),(10,queO),(11,.list []),(12,.edict),(14,ownA (.loc 16) (.loc 33) (.si t) (.so v) (.si cm) (.si s.at1) (.so (some who)) (.si s.now) (.si s.now)),(16,.slist (s.done.map donA)),(17,.slist s.nl)]))
theorem n6_2 {X:Cx} {P:Params} {s:S} {t p a b cm x:Int} {who:Str} {e1 e2:Ent} {v:Option Str} {ol lp:List Ent} {r u:Bool}  (h1:(List.map entA lp).length ≤ sizeLine)
    (h2:(List.map entA lp ++ [entA e1]).length ≤ sizeLine) :
    XF X P 177 856 (stA P 856 702) [(n_self,.loc 7),(n_node,.ss who),(n_message,.loc 29),(n_newEntries,.loc 30),(n_serialized,.none),(n_leaderCommitIndex,.si (eC s b)),(n_prevLogIdx,.si p),(n_prevLogTerm,.si a),(n_prevEntries,.loc 36)] [] [(37,.slist (lp.map entA)),(34,.edict),(33,.slist (ol.map entA)),(32,ansA (.si x) (.sb r) (.sb u)),(31,.list [.tup [.ss who,.loc 32]]),(30,.list [entA e1,entA e2]),(29,msgA s t p a b),(0,jourA (.loc 37) (.si t) (.so v)),(2,givA (.loc 3) (.si s.now)),(3,.slist (s.done.map donA)),(4,.list []),(5,transO),(6,.list []),(7,nodeA (.loc 34) (.si t) (.so v) (.ss who) (.si (s.now + 400)) (.si s.commit) (.si s.at1) (.si s.lst) (.si (eC s b)) (.sb s.orc) (.si s.st) (.si s.nd)),(8,confO),(9,serO),(10,queO),(11,.list []),(12,.edict),(14,ownA (.loc 16) (.loc 33) (.si t) (.so v) (.si cm) (.si s.at1) (.so (some who)) (.si s.now) (.si s.now)),(16,.slist (s.done.map donA)),(17,.slist s.nl)] 38 (landI [(n_self,.loc 7),(n_node,.ss who),(n_message,.loc 29),(n_newEntries,.loc 30),(n_serialized,.none),(n_leaderCommitIndex,.si (eC s b)),(n_prevLogIdx,.si p),(n_prevLogTerm,.si a),(n_prevEntries,.loc 36)] [(37,.slist (((lp.map entA ++ [entA e1]) ++ [entA e2]))),(34,.edict),(33,.slist (ol.map entA)),(32,ansA (.si x) (.sb r) (.sb u)),(31,.list [.tup [.ss who,.loc 32]]),(30,.list [entA e1,entA e2]),(29,msgA s t p a b),(0,jourA (.loc 37) (.si t) (.so v)),(2,givA (.loc 3) (.si s.now)),(3,.slist (s.done.map donA)),(4,.list []),(5,transO),(6,.list []),(7,nodeA (.loc 34) (.si t) (.so v) (.ss who) (.si (s.now + 400)) (.si s.commit) (.si s.at1) (.si s.lst) (.si (eC s b)) (.sb s.orc) (.si s.st) (.si s.nd)),(8,confO),(9,serO),(10,queO),(11,.list []),(12,.edict),(14,ownA (.loc 16) (.loc 33) (.si t) (.so v) (.si cm) (.si s.at1) (.so (some who)) (.si s.now) (.si s.now)),(16,.slist (s.done.map donA)),(17,.slist s.nl)]):=
  kmp (p:=((List.map entA lp).length ≤ sizeLine)∧((List.map entA lp ++ [entA e1]).length ≤ sizeLine)∧lndI [(n_self,.loc 7),(n_node,.ss who),(n_message,.loc 29),(n_newEntries,.loc 30),(n_serialized,.none),(n_leaderCommitIndex,.si (eC s b)),(n_prevLogIdx,.si p),(n_prevLogTerm,.si a),(n_prevEntries,.loc 36)] [(37,.slist (((lp.map entA ++ [entA e1]) ++ [entA e2]))),(34,.edict),(33,.slist (ol.map entA)),(32,ansA (.si x) (.sb r) (.sb u)),(31,.list [.tup [.ss who,.loc 32]]),(30,.list [entA e1,entA e2]),(29,msgA s t p a b),(0,jourA (.loc 37) (.si t) (.so v)),(2,givA (.loc 3) (.si s.now)),(3,.slist (s.done.map donA)),(4,.list []),(5,transO),(6,.list []),(7,nodeA (.loc 34) (.si t) (.so v) (.ss who) (.si (s.now + 400)) (.si s.commit) (.si s.at1) (.si s.lst) (.si (eC s b)) (.sb s.orc) (.si s.st) (.si s.nd)),(8,confO),(9,serO),(10,queO),(11,.list []),(12,.edict),(14,ownA (.loc 16) (.loc 33) (.si t) (.so v) (.si cm) (.si s.at1) (.so (some who)) (.si s.now) (.si s.now)),(16,.slist (s.done.map donA)),(17,.slist s.nl)]) (by kernel_rfl) (And.intro h1 (And.intro h2 (lndI_ok [(n_self,.loc 7),(n_node,.ss who),(n_message,.loc 29),(n_newEntries,.loc 30),(n_serialized,.none),(n_leaderCommitIndex,.si (eC s b)),(n_prevLogIdx,.si p),(n_prevLogTerm,.si a),(n_prevEntries,.loc 36)] [(37,.slist (((lp.map entA ++ [entA e1]) ++ [entA e2]))),(34,.edict),(33,.slist (ol.map entA)),(32,ansA (.si x) (.sb r) (.sb u)),(31,.list [.tup [.ss who,.loc 32]]),(30,.list [entA e1,entA e2]),(29,msgA s t p a b),(0,jourA (.loc 37) (.si t) (.so v)),(2,givA (.loc 3) (.si s.now)),(3,.slist (s.done.map donA)),(4,.list []),(5,transO),(6,.list []),(7,nodeA (.loc 34) (.si t) (.so v) (.ss who) (.si (s.now + 400)) (.si s.commit) (.si s.at1) (.si s.lst) (.si (eC s b)) (.sb s.orc) (.si s.st) (.si s.nd)),(8,confO),(9,serO),(10,queO),(11,.list []),(12,.edict),(14,ownA (.loc 16) (.loc 33) (.si t) (.so v) (.si cm) (.si s.at1) (.so (some who)) (.si s.now) (.si s.now)),(16,.slist (s.done.map donA)),(17,.slist s.nl)])))
theorem n6_3 {X:Cx} {P:Params} {s:S} {t p a b cm x:Int} {who:Str} {e1 e2 e3:Ent} {v:Option Str} {ol lp:List Ent} {r u:Bool}  (h1:(List.map entA lp).length ≤ sizeLine)
    (h2:(List.map entA lp ++ [entA e1]).length ≤ sizeLine)
    (h3:((List.map entA lp ++ [entA e1]) ++ [entA e2]).length ≤ sizeLine) :
    XF X P 177 856 (stA P 856 702) [(n_self,.loc 7),(n_node,.ss who),(n_message,.loc 29),(n_newEntries,.loc 30),(n_serialized,.none),(n_leaderCommitIndex,.si (eC s b)),(n_prevLogIdx,.si p),(n_prevLogTerm,.si a),(n_prevEntries,.loc 36)] [] [(37,.slist (lp.map entA)),(34,.edict),(33,.slist (ol.map entA)),(32,ansA (.si x) (.sb r) (.sb u)),(31,.list [.tup [.ss who,.loc 32]]),(30,.list [entA e1,entA e2,entA e3]),(29,msgA s t p a b),(0,jourA (.loc 37) (.si t) (.so v)),(2,givA (.loc 3) (.si s.now)),(3,.slist (s.done.map donA)),(4,.list []),(5,transO),(6,.list []),(7,nodeA (.loc 34) (.si t) (.so v) (.ss who) (.si (s.now + 400)) (.si s.commit) (.si s.at1) (.si s.lst) (.si (eC s b)) (.sb s.orc) (.si s.st) (.si s.nd)),(8,confO),(9,serO),(10,queO),(11,.list []),(12,.edict),(14,ownA (.loc 16) (.loc 33) (.si t) (.so v) (.si cm) (.si s.at1) (.so (some who)) (.si s.now) (.si s.now)),(16,.slist (s.done.map donA)),(17,.slist s.nl)] 38 (landI [(n_self,.loc 7),(n_node,.ss who),(n_message,.loc 29),(n_newEntries,.loc 30),(n_serialized,.none),(n_leaderCommitIndex,.si (eC s b)),(n_prevLogIdx,.si p),(n_prevLogTerm,.si a),(n_prevEntries,.loc 36)] [(37,.slist ((((lp.map entA ++ [entA e1]) ++ [entA e2]) ++ [entA e3]))),(34,.edict),(33,.slist (ol.map entA)),(32,ansA (.si x) (.sb r) (.sb u)),(31,.list [.tup [.ss who,.loc 32]]),(30,.list [entA e1,entA e2,entA e3]),(29,msgA s t p a b),(0,jourA (.loc 37) (.si t) (.so v)),(2,givA (.loc 3) (.si s.now)),(3,.slist (s.done.map donA)),(4,.list []),(5,transO),(6,.list []),(7,nodeA (.loc 34) (.si t) (.so v) (.ss who) (.si (s.now + 400)) (.si s.commit) (.si s.at1) (.si s.lst) (.si (eC s b)) (.sb s.orc) (.si s.st) (.si s.nd)),(8,confO),(9,serO),(10,queO),(11,.list []),(12,.edict),(14,ownA (.loc 16) (.loc 33) (.si t) (.so v) (.si cm) (.si s.at1) (.so (some who)) (.si s.now) (.si s.now)),(16,.slist (s.done.map donA)),(17,.slist s.nl)]):=
  kmp (p:=((List.map entA lp).length ≤ sizeLine)∧((List.map entA lp ++ [entA e1]).length ≤ sizeLine)∧(((List.map entA lp ++ [entA e1]) ++ [entA e2]).length ≤ sizeLine)∧lndI [(n_self,.loc 7),(n_node,.ss who),(n_message,.loc 29),(n_newEntries,.loc 30),(n_serialized,.none),(n_leaderCommitIndex,.si (eC s b)),(n_prevLogIdx,.si p),(n_prevLogTerm,.si a),(n_prevEntries,.loc 36)] [(37,.slist ((((lp.map entA ++ [entA e1]) ++ [entA e2]) ++ [entA e3]))),(34,.edict),(33,.slist (ol.map entA)),(32,ansA (.si x) (.sb r) (.sb u)),(31,.list [.tup [.ss who,.loc 32]]),(30,.list [entA e1,entA e2,entA e3]),(29,msgA s t p a b),(0,jourA (.loc 37) (.si t) (.so v)),(2,givA (.loc 3) (.si s.now)),(3,.slist (s.done.map donA)),(4,.list []),(5,transO),(6,.list []),(7,nodeA (.loc 34) (.si t) (.so v) (.ss who) (.si (s.now + 400)) (.si s.commit) (.si s.at1) (.si s.lst) (.si (eC s b)) (.sb s.orc) (.si s.st) (.si s.nd)),(8,confO),(9,serO),(10,queO),(11,.list []),(12,.edict),(14,ownA (.loc 16) (.loc 33) (.si t) (.so v) (.si cm) (.si s.at1) (.so (some who)) (.si s.now) (.si s.now)),(16,.slist (s.done.map donA)),(17,.slist s.nl)]) (by kernel_rfl) (And.intro h1 (And.intro h2 (And.intro h3 (lndI_ok [(n_self,.loc 7),(n_node,.ss who),(n_message,.loc 29),(n_newEntries,.loc 30),(n_serialized,.none),(n_leaderCommitIndex,.si (eC s b)),(n_prevLogIdx,.si p),(n_prevLogTerm,.si a),(n_prevEntries,.loc 36)] [(37,.slist ((((lp.map entA ++ [entA e1]) ++ [entA e2]) ++ [entA e3]))),(34,.edict),(33,.slist (ol.map entA)),(32,ansA (.si x) (.sb r) (.sb u)),(31,.list [.tup [.ss who,.loc 32]]),(30,.list [entA e1,entA e2,entA e3]),(29,msgA s t p a b),(0,jourA (.loc 37) (.si t) (.so v)),(2,givA (.loc 3) (.si s.now)),(3,.slist (s.done.map donA)),(4,.list []),(5,transO),(6,.list []),(7,nodeA (.loc 34) (.si t) (.so v) (.ss who) (.si (s.now + 400)) (.si s.commit) (.si s.at1) (.si s.lst) (.si (eC s b)) (.sb s.orc) (.si s.st) (.si s.nd)),(8,confO),(9,serO),(10,queO),(11,.list []),(12,.edict),(14,ownA (.loc 16) (.loc 33) (.si t) (.so v) (.si cm) (.si s.at1) (.so (some who)) (.si s.now) (.si s.now)),(16,.slist (s.done.map donA)),(17,.slist s.nl)]))))
end Mine
namespace Mine
noncomputable def forT:Stmt → PySem.Expr | .For t _ _ _ _=>t | _=>default
noncomputable def forI:Stmt → PySem.Expr | .For _ t _ _ _=>t | _=>default
noncomputable def forB:Stmt → List Stmt | .For _ _ b _ _=>b | _=>default
noncomputable def forP:Stmt → Pos | .For _ _ _ _ p=>p | _=>default
noncomputable def cmds (l:List Ent):List Int:=l.filterMap (·.cmd)
/-- the entries from a place to a place -/
noncomputable def part2 (l:List Ent) (a b:Int):List Ent:=(l.take b.toNat).drop a.toNat
theorem clamp_nn {n:Nat} {a:Int} (h:0 ≤ a):clampI n a = min a.toNat n:=by
  obtain ⟨k,rfl⟩:=Int.eq_ofNat_of_zero_le h
  show clampI n (.ofNat k) = _
  simp only [clampI,Int.toNat_natCast]
  split <;> omega
theorem cut_part {l:List Ent} {a b:Int} (ha:0 ≤ a) (hb:0 ≤ b):cut (l.map entA) (some a) (some b) = (part2 l a b).map entA:=by
  simp only [cut,clamp_nn ha,clamp_nn hb,part2,List.length_map,List.map_drop,List.map_take]
  have e1:(List.map entA l).take (min b.toNat l.length) = (List.map entA l).take b.toNat:=by
    by_cases h:b.toNat ≤ l.length
    · rw [Nat.min_eq_left h]
    · rw [Nat.min_eq_right (by omega),List.take_of_length_le (by simp),List.take_of_length_le (by simp; omega)]
  rw [e1]
  by_cases h:a.toNat ≤ l.length
  · rw [Nat.min_eq_left h]
  · rw [Nat.min_eq_right (by omega),List.drop_eq_nil_of_le (by simp; omega),List.drop_eq_nil_of_le (by simp; omega)]
theorem cut_to {l:List Ent} {b:Int} (hb:0 ≤ b):cut (l.map entA) none (some b) = (l.take b.toNat).map entA:=by
  have:=cut_part (l:=l) (a:=0) (b:=b) (by omega) hb
  simp only [part2,Int.toNat_zero,List.drop_zero] at this
  rw [← this]
  simp only [cut,clamp_nn hb,clamp_nn (Int.le_refl 0)]
  simp
theorem cut_from {l:List Ent} {a:Int} (ha:0 ≤ a):cut (l.map entA) (some a) none = (l.drop a.toNat).map entA:=by
  simp only [cut,clamp_nn ha,List.length_map,List.map_drop]
  rw [List.take_of_length_le (by simp)]
  by_cases h:a.toNat ≤ l.length
  · rw [Nat.min_eq_left h]
  · rw [Nat.min_eq_right (by omega),List.drop_eq_nil_of_le (by simp),List.drop_eq_nil_of_le (by simp; omega)]
noncomputable abbrev tFA2 (s:S):Frame:=[(n_self,.loc 7),(n_needSendAppendEntries,.bool false),(n_count,.si (s.commit - s.at1)),(n_entries,.loc 29)]
section
variable {X:Cx} {P:Params} {s:S} {num j i i2 nd1 ix tm cv:Int} {o1:Bool} {who:Str} {dn d2:List Int} {l:List AV}
theorem q1:XT X P 174 765 (forT (stA P 765 566)) (forB (stA P 765 566)) (entA ⟨none,ix,tm⟩) (tFA2 s) [] (tkL s num (.si nd1) (.sb o1) (.si i) (.si i2) (.slist (dn.map donA)) (.slist (d2.map donA)) (.slist l)) 30 (landK [] (tFA2 s) (tkL s num (.si nd1) (.sb o1) (.si (i + 1)) (.si i2) (.slist (dn.map donA)) (.slist (d2.map donA)) (.slist l))):=
  kXT (fun k=>k) (by kernel_rfl) fun _ z=>z
theorem q2 (h1:(List.map donA dn).length ≤ sizeLine) (h2:(List.map donA dn ++ [donA cv]).length < 2 ^ 62):XT X P 174 765 (forT (stA P 765 566)) (forB (stA P 765 566)) (entA ⟨some cv,ix,tm⟩) (tFA2 s) [.fz 637] (tkL s num (.si nd1) (.sb o1) (.si i) (.si i2) (.slist (dn.map donA)) (.slist (d2.map donA)) (.slist l)) 30 (landK [] (tFA2 s) (tkL s num (.si nd1) (.sb o1) (.si (i + 1)) (.si i2) (.slist (dn.map donA ++ [donA cv])) (.slist (d2.map donA)) (.slist l))):=
  kXT (fun k=>(List.map donA dn).length ≤ sizeLine∧(List.map donA dn ++ [donA cv]).length < 2 ^ 62∧k) (by kernel_rfl) fun _ z=>(And.intro h1 (And.intro h2 z))
theorem q3:XT X P 184 1109 (forT (stA P 1109 1103)) (forB (stA P 1109 1103)) (entA ⟨none,ix,tm⟩) (kaF0 j num (num.fmod 6) who) [] (tkL s num (.si nd1) (.sb o1) (.si i2) (.si i) (.slist (d2.map donA)) (.slist (dn.map donA)) (.slist l)) 30 (landK [] (kaF0 j num (num.fmod 6) who) (tkL s num (.si nd1) (.sb o1) (.si i2) (.si (i + 1)) (.slist (d2.map donA)) (.slist (dn.map donA)) (.slist l))):=
  kXT (fun k=>k) (by kernel_rfl) fun _ z=>z
theorem q4 (h1:(List.map donA dn).length ≤ sizeLine):XT X P 184 1109 (forT (stA P 1109 1103)) (forB (stA P 1109 1103)) (entA ⟨some cv,ix,tm⟩) (kaF0 j num (num.fmod 6) who) [.fz 1106] (tkL s num (.si nd1) (.sb o1) (.si i2) (.si i) (.slist (d2.map donA)) (.slist (dn.map donA)) (.slist l)) 30 (landK [] (kaF0 j num (num.fmod 6) who) (tkL s num (.si nd1) (.sb o1) (.si i2) (.si (i + 1)) (.slist (d2.map donA)) (.slist (dn.map donA ++ [donA cv])) (.slist l))):=
  kXT (fun k=>(List.map donA dn).length ≤ sizeLine∧k) (by kernel_rfl) fun _ z=>(And.intro h1 z)
theorem q0:XE X P 174 765 (forI (stA P 765 566)) (tFA2 s) [] (tkL s num (.si nd1) (.sb o1) (.si i) (.si i2) (.slist (dn.map donA)) (.slist (d2.map donA)) (.slist l)) 30 (fun b w=>b = .loc 29∧w.σ = tkL s num (.si nd1) (.sb o1) (.si i) (.si i2) (.slist (dn.map donA)) (.slist (d2.map donA)) (.slist l)∧w.nx = 30):=
  kmp (p:=AV.loc 29 = .loc 29∧tkL s num (.si nd1) (.sb o1) (.si i) (.si i2) (.slist (dn.map donA)) (.slist (d2.map donA)) (.slist l) = tkL s num (.si nd1) (.sb o1) (.si i) (.si i2) (.slist (dn.map donA)) (.slist (d2.map donA)) (.slist l)∧30 = 30) (by kernel_rfl) ⟨rfl,rfl,rfl⟩
theorem q5 (h1:(List.map entA s.log).length ≤ sizeLine):XE X P 184 1109 (forI (stA P 1109 1103)) (kaF0 j num (num.fmod 6) who) [] (tkS s num (.si nd1) (.sb o1) (.si i2) (.si i) (.slist (d2.map donA)) (.slist (dn.map donA))) 29 (fun b w=>b = .loc 29∧w.σ = tkL s num (.si nd1) (.sb o1) (.si i2) (.si i) (.slist (d2.map donA)) (.slist (dn.map donA)) (.slist (cut (s.log.map entA) (some i) (some s.commit)))∧w.nx = 30):=
  kmp (p:=(List.map entA s.log).length ≤ sizeLine∧AV.loc 29 = .loc 29∧tkL s num (.si nd1) (.sb o1) (.si i2) (.si i) (.slist (d2.map donA)) (.slist (dn.map donA)) (.slist (cut (s.log.map entA) (some i) (some s.commit))) = tkL s num (.si nd1) (.sb o1) (.si i2) (.si i) (.slist (d2.map donA)) (.slist (dn.map donA)) (.slist (cut (s.log.map entA) (some i) (some s.commit)))∧30 = 30) (by kernel_rfl) ⟨h1,rfl,rfl,rfl⟩
end
end Mine
namespace Mine
theorem cmds_take {L:List Ent} {j:Nat} {e:Ent} (h:L[j]? = some e):cmds (L.take (j + 1)) = cmds (L.take j) ++ e.cmd.toList:=by
  have:L.take (j + 1) = L.take j ++ [e]:=by rw [List.take_succ,h]; rfl
  rw [this]
  unfold cmds
  rw [List.filterMap_append]
  cases h2:e.cmd <;> simp [h2]
theorem cmds_len (L:List Ent):(cmds L).length ≤ L.length:=List.length_filterMap_le _ _
theorem map_snoc (dn:List Int) (cv:Int):dn.map donA ++ [donA cv] = (dn ++ [cv]).map donA:=by simp
section
variable {X:Cx} {P:Params} {s:S} {num j0 i2 nd1:Int} {o1:Bool} {who:Str} {d2:List Int}
noncomputable abbrev tkN (s:S) (num nd1:Int) (o1:Bool) (at1 oat:Int) (ap od:List Int):Store:=tkS s num (.si nd1) (.sb o1) (.si at1) (.si oat) (.slist (ap.map donA)) (.slist (od.map donA))
noncomputable abbrev tkM (s:S) (num nd1:Int) (o1:Bool) (at1 oat:Int) (ap od:List Int) (l:List AV):Store:=tkL s num (.si nd1) (.sb o1) (.si at1) (.si oat) (.slist (ap.map donA)) (.slist (od.map donA)) (.slist l)
theorem nls_tkN (hn:NLn s) {i:Int} {a b:List Int}:NLS (tkN s num nd1 o1 i i2 a b):=by
  repeat (first | exact NLS.nil | refine NLS.log ?_ | refine NLS.don ?_ | refine NLS.nm hn ?_ | refine NLS.no (fun l e=>by cases e) ?_)
theorem nls_tkM (hn:NLn s) {i:Int} {a b:List Int} {L:List Ent}:NLS (tkM s num nd1 o1 i i2 a b (L.map entA)):=NLS.log (nls_tkN hn)
/-- the node's loop over what is applied -/
theorem T1L (ok:X.Ok (K P)) (hn:NLn s) {L:List Ent} (hL:L.length ≤ 10000) (hd:s.done.length ≤ 10000) :
    XsOk X 175 (fdAt (K P) 765) (tFA2 s) (stA P 765 566) (tkM s num nd1 o1 s.at1 i2 s.done d2 (L.map entA)) 30 .next (tFA2 s) (tkM s num nd1 o1 (s.at1 + (L.length:Int)) i2 (s.done ++ cmds L) d2 (L.map entA)) 30:=by
  have hb:=size_big
  have:=for_sym (n:=174) (s:=stA P 765 566) (F:=tFA2 s) (σ:=tkM s num nd1 o1 (s.at1 + ((0:Nat):Int)) i2 (s.done ++ cmds (L.take 0)) d2 (L.map entA)) (nx:=30) (n1:=30) ok (f:=765) (by kernel_rfl) (t:=forT (stA P 765 566)) (it:=forI (stA P 765 566)) (body:=forB (stA P 765 566)) (ps:=forP (stA P 765 566)) (a:=.loc 29) (l:=L.map entA) (o:=[])
    (fun _=>tFA2 s) (fun j=>tkM s num nd1 o1 (s.at1 + (j:Int)) i2 (s.done ++ cmds (L.take j)) d2 (L.map entA)) (by kernel_rfl) (by kernel_rfl) (fun env x=>by kernel_rfl) q0 rfl (fun j hj=>⟨true,rfl⟩) (fun j v hv=>?_)
  · simp only [List.length_map,Int.natCast_zero,Int.add_zero,List.take_zero,List.take_length] at this
    have e:cmds [] = []:=rfl
    rw [e,List.append_nil] at this
    exact this
  · obtain ⟨e,he,rfl⟩:∃ e,L[j]? = some e∧entA e = v:=by
      rw [List.getElem?_map] at hv
      cases h:L[j]? with
      | none=>rw [h] at hv; cases hv
      | some e=>rw [h] at hv; cases hv; exact ⟨e,rfl,rfl⟩
    have hc:=cmds_take he
    have hlen:(cmds (L.take j)).length ≤ 10000:=Nat.le_trans (cmds_len _) (by rw [List.length_take]; omega)
    obtain ⟨c,ix,tm⟩:=e
    have e1:s.at1 + (j:Int) + 1 = s.at1 + ((j + 1:Nat):Int):=by omega
    cases c with
    | none=>
      have run:=q1 (X:=X) (P:=P) (s:=s) (num:=num) (i:=s.at1 + (j:Int)) (i2:=i2) (nd1:=nd1) (ix:=ix) (tm:=tm) (o1:=o1) (dn:=s.done ++ cmds (L.take j)) (d2:=d2) (l:=L.map entA)
      rw [e1] at run
      simp only [Option.toList_none,List.append_nil] at hc
      rw [← hc] at run
      rw [hc] at run
      refine turnOf ok (by kernel_rfl) [] run (by kernel_rfl) (by kernel_rfl) (by kernel_rfl) (by kernel_rfl) ?_ (As.rfl' _) ?_
      · exact nls_tkM hn
      · show Ss _ (tkM s num nd1 o1 (s.at1 + ((j + 1:Nat):Int)) i2 (s.done ++ cmds (L.take (j + 1))) d2 (L.map entA))
        rw [hc]; exact Ss.rfl' _
    | some cv=>
      have run:=q2 (X:=X) (P:=P) (s:=s) (num:=num) (i:=s.at1 + (j:Int)) (i2:=i2) (nd1:=nd1) (ix:=ix) (tm:=tm) (cv:=cv) (o1:=o1) (dn:=s.done ++ cmds (L.take j)) (d2:=d2) (l:=L.map entA) (by simp; omega) (by simp; omega)
      rw [e1,map_snoc] at run
      simp only [Option.toList_some] at hc
      refine turnOf ok (by kernel_rfl) [] run (by kernel_rfl) (by kernel_rfl) (by kernel_rfl) (by kernel_rfl) ?_ (As.rfl' _) ?_
      · exact nls_tkM hn
      · show Ss _ (tkM s num nd1 o1 (s.at1 + ((j + 1:Nat):Int)) i2 (s.done ++ cmds (L.take (j + 1))) d2 (L.map entA))
        rw [hc,← List.append_assoc]; exact Ss.rfl' _
/-- the law's own loop -/
theorem T5L (ok:X.Ok (K P)) (hn:NLn s) {L:List Ent} {ap:List Int} {a2:Int} (hcut:cut (s.log.map entA) (some s.at1) (some s.commit) = L.map entA) (hl:(List.map entA s.log).length ≤ sizeLine) (hL:L.length ≤ 10000) (hd:s.done.length ≤ 10000) :
    XsOk X 186 (fdAt (K P) 1109) (kaF0 j0 num (num.fmod 6) who) (stA P 1109 1103) (tkN s num nd1 o1 a2 s.at1 ap s.done) 29 .next (kaF0 j0 num (num.fmod 6) who) (tkN s num nd1 o1 a2 (s.at1 + (L.length:Int)) ap (s.done ++ cmds L)) 29:=by
  have hb:=size_big
  have h0:=q5 (X:=X) (P:=P) (s:=s) (num:=num) (j:=j0) (i:=s.at1) (i2:=a2) (nd1:=nd1) (o1:=o1) (who:=who) (dn:=s.done) (d2:=ap) hl
  rw [hcut] at h0
  have e0:tkM s num nd1 o1 a2 s.at1 ap s.done (L.map entA) = tkM s num nd1 o1 a2 (s.at1 + ((0:Nat):Int)) ap (s.done ++ cmds (L.take 0)) (L.map entA):=by
    simp [cmds]
  have h0':XE X P 184 1109 (forI (stA P 1109 1103)) (kaF0 j0 num (num.fmod 6) who) [] (tkN s num nd1 o1 a2 s.at1 ap s.done) 29 (fun b w=>b = .loc 29∧w.σ = tkM s num nd1 o1 a2 (s.at1 + ((0:Nat):Int)) ap (s.done ++ cmds (L.take 0)) (L.map entA)∧w.nx = 30):=by
    rw [← e0]; exact h0
  have:=for_sym (n:=184) (s:=stA P 1109 1103) (F:=kaF0 j0 num (num.fmod 6) who) (σ:=tkN s num nd1 o1 a2 s.at1 ap s.done) (nx:=29) (n1:=30) ok (f:=1109) (by kernel_rfl) (t:=forT (stA P 1109 1103)) (it:=forI (stA P 1109 1103)) (body:=forB (stA P 1109 1103)) (ps:=forP (stA P 1109 1103)) (a:=.loc 29) (l:=L.map entA) (o:=[])
    (fun _=>kaF0 j0 num (num.fmod 6) who) (fun j=>tkM s num nd1 o1 a2 (s.at1 + (j:Int)) ap (s.done ++ cmds (L.take j)) (L.map entA)) (by kernel_rfl) (by kernel_rfl) (fun env x=>by kernel_rfl) h0' rfl (fun j hj=>⟨true,rfl⟩) (fun j v hv=>?_)
  · simp only [List.length_map,List.take_length] at this
    exact (this.up 1).land (g:=[]) (F0:=kaF0 j0 num (num.fmod 6) who) (σ0:=tkN s num nd1 o1 a2 (s.at1 + (L.length:Int)) ap (s.done ++ cmds L)) (Nat.le_refl _) (by kernel_rfl) (by kernel_rfl) (by kernel_rfl) (by kernel_rfl) (nls_tkN hn) (by kernel_rfl) (by kernel_rfl) (As.rfl' _) (Ss.rfl' _)
  · obtain ⟨e,he,rfl⟩:∃ e,L[j]? = some e∧entA e = v:=by
      rw [List.getElem?_map] at hv
      cases h:L[j]? with
      | none=>rw [h] at hv; cases hv
      | some e=>rw [h] at hv; cases hv; exact ⟨e,rfl,rfl⟩
    have hc:=cmds_take he
    have hlen:(cmds (L.take j)).length ≤ 10000:=Nat.le_trans (cmds_len _) (by rw [List.length_take]; omega)
    obtain ⟨c,ix,tm⟩:=e
    have e1:s.at1 + (j:Int) + 1 = s.at1 + ((j + 1:Nat):Int):=by omega
    cases c with
    | none=>
      have run:=q3 (X:=X) (P:=P) (s:=s) (num:=num) (j:=j0) (i:=s.at1 + (j:Int)) (i2:=a2) (nd1:=nd1) (ix:=ix) (tm:=tm) (o1:=o1) (who:=who) (dn:=s.done ++ cmds (L.take j)) (d2:=ap) (l:=L.map entA)
      rw [e1] at run
      simp only [Option.toList_none,List.append_nil] at hc
      refine turnOf ok (by kernel_rfl) [] run (by kernel_rfl) (by kernel_rfl) (by kernel_rfl) (by kernel_rfl) ?_ (As.rfl' _) ?_
      · exact nls_tkM hn
      · show Ss _ (tkM s num nd1 o1 a2 (s.at1 + ((j + 1:Nat):Int)) ap (s.done ++ cmds (L.take (j + 1))) (L.map entA))
        rw [hc]; exact Ss.rfl' _
    | some cv=>
      have run:=q4 (X:=X) (P:=P) (s:=s) (num:=num) (j:=j0) (i:=s.at1 + (j:Int)) (i2:=a2) (nd1:=nd1) (ix:=ix) (tm:=tm) (cv:=cv) (o1:=o1) (who:=who) (dn:=s.done ++ cmds (L.take j)) (d2:=ap) (l:=L.map entA) (by simp; omega)
      rw [e1,map_snoc] at run
      simp only [Option.toList_some] at hc
      refine turnOf ok (by kernel_rfl) [] run (by kernel_rfl) (by kernel_rfl) (by kernel_rfl) (by kernel_rfl) ?_ (As.rfl' _) ?_
      · exact nls_tkM hn
      · show Ss _ (tkM s num nd1 o1 a2 (s.at1 + ((j + 1:Nat):Int)) ap (s.done ++ cmds (L.take (j + 1))) (L.map entA))
        rw [hc,← List.append_assoc]; exact Ss.rfl' _
end
end Mine
namespace Mine
/-! parts of statements -/
noncomputable def whT:Stmt → PySem.Expr | .While t _ _ _=>t | _=>default
noncomputable def whB:Stmt → List Stmt | .While _ b _ _=>b | _=>[]
noncomputable def whP:Stmt → Pos | .While _ _ _ p=>p | _=>default
noncomputable def tA:Stmt → Stmt | .Try (a :: _) _ _ _ _=>a | _=>.Pass default
noncomputable def tH:Stmt → ExceptHandler | .Try _ (h :: _) _ _ _=>h | _=>.ExceptHandler none none [] default
noncomputable def tP:Stmt → Pos | .Try _ _ _ _ p=>p | _=>default
noncomputable def aT:Stmt → PySem.Expr | .Assign (t :: _) _ _=>t | _=>default
noncomputable def aV:Stmt → PySem.Expr | .Assign _ v _=>v | _=>default
noncomputable def aP:Stmt → Pos | .Assign _ _ p=>p | _=>default
noncomputable def cF:PySem.Expr → PySem.Expr | .Call f _ _ _=>f | _=>default
noncomputable def cP:PySem.Expr → Pos | .Call _ _ _ p=>p | _=>default
noncomputable def atO:PySem.Expr → PySem.Expr | .Attribute o _ _=>o | _=>default
noncomputable def atX:PySem.Expr → Str | .Attribute _ x _=>x | _=>default
noncomputable def atQ:PySem.Expr → Pos | .Attribute _ _ p=>p | _=>default
noncomputable def nmX:PySem.Expr → Str | .Name x _=>x | _=>default
noncomputable def nmP:PySem.Expr → Pos | .Name _ p=>p | _=>default
noncomputable def hE:ExceptHandler → PySem.Expr | .ExceptHandler (some e) _ _ _=>e | _=>default
noncomputable def hBP:ExceptHandler → Pos | .ExceptHandler _ _ (.Break p :: _) _=>p | _=>default
noncomputable def hP:ExceptHandler → Pos | .ExceptHandler _ _ _ p=>p
noncomputable def bdA (P:Params) (f:Nat):List Stmt:=match stmtsOf (fdAt (K P) f).body with | some b=>b | none=>[]
noncomputable def hd1:List Stmt → Stmt | a :: _=>a | []=>.Pass default
noncomputable def tl1:List Stmt → List Stmt | _ :: l=>l | []=>[]
noncomputable def iT:Stmt → PySem.Expr | .If t _ _ _=>t | _=>default
noncomputable def iB:Stmt → List Stmt | .If _ b _ _=>b | _=>[]
noncomputable def iO:Stmt → List Stmt | .If _ _ b _=>b | _=>[]
noncomputable def iP:Stmt → Pos | .If _ _ _ p=>p | _=>default
noncomputable def rE:Stmt → PySem.Expr | .Raise (some e) _ _=>e | _=>default
noncomputable def rP:Stmt → Pos | .Raise _ _ p=>p | _=>default
noncomputable def nmAt (f:Nat):List (Nat × Bool):=match gt tFns f with | some n=>n | none=>[]
theorem fnAt (P:Params) {f:Nat} (h:(gt tFns f).isSome = true):FnIs (K P) f (nmAt f):=by
  obtain ⟨nm,hnm⟩:=Option.isSome_iff_exists.mp h
  have e:nmAt f = nm:=by unfold nmAt; simp only [hnm]
  exact e ▸ (tab_ok P).1.fns _ _ hnm
noncomputable def clAt (C:Nat):ClsI:=match gt tCls C with | some c=>c | none=>⟨[],none⟩
theorem XsX {X:Cx} {d:Nat} {fd:FuncData} {F F':Frame} {s:Stmt} {σ σ':Store} {nx nx':Nat} (h:XsOk X d fd F s σ nx .next F' σ' nx') {rest:List Stmt} {Q:QS} (p:At X d F σ nx)
    (k:∀ p':At X d F' σ' nx',p'.A = p.A → p'.L = p.L → p'.f = p.f → wpAny p.M p'.A (execs rest (p'.env fd)) (p'.AnsS Q) no p'.s):wpAny p.M p.A (execs (s :: rest) (p.env fd)) (p.AnsS Q) no p.s:=by
  refine wpAny_execs_cons (wpAny_mono (xsGo h p) (fun fl s1 z=>?_) fun _ _ z=>z)
  obtain ⟨φ,F1,J1,ρ1,σ1,n1,E1,R1,x1,q1,q2,q3,q4⟩:=z
  subst q1 q2 q3 q4
  cases fl <;> first | exact x1.elim | skip
  exact wpAny_mono (k ⟨p.A,J1,ρ1,p.L,p.f,s1,p.hh,p.hd,p.hu,R1⟩ rfl rfl rfl) (fun _ _ z=>AnsS.ext E1 z) fun _ _ z=>z
section
variable {X:Cx} {P:Params} {s:S} {num nd1 at1 oat:Int} {o1:Bool} {ap od:List Int}
noncomputable abbrev fC0:Frame:=[(n_self,.loc 7)]
noncomputable abbrev fC (s:S) (num:Int):Frame:=[(n_self,.loc 7),(n_startTime,.si (tN s num))]
theorem w456 {X:Cx} {P:Params} {s:S} {num nd1 at1 oat:Int} {o1:Bool} {ap od:List Int}   :
    XF X P 176 742 (stA P 742 456) fC0 [] (tkN s num nd1 o1 at1 oat ap od) 29 (landK [] (fC s num) (tkN s num nd1 o1 at1 oat ap od)):=
  kXF (fun k=>k) (by kernel_rfl) fun _ z=>z
theorem w457n {X:Cx} {P:Params} {s:S} {num nd1 at1 oat:Int} {o1:Bool} {ap od:List Int}  (h1:tN s num - tN s num < 100)
    (h2:s.leader.isNone = true) :
    XF X P 176 742 (stA P 742 457) (fC s num) [.bit true,.bit true] (tkN s num nd1 o1 at1 oat ap od) 29 (landK [] (fC s num) (tkN s num nd1 o1 at1 oat ap od)):=
  kXF (fun k=>(decide (tN s num - tN s num < 100) = true)∧(s.leader.isNone = true)∧k) (by kernel_rfl) fun _ z=>(And.intro (decide_eq_true h1) (And.intro h2 z))
theorem w458 {X:Cx} {P:Params} {s:S} {num nd1 at1 oat:Int} {o1:Bool} {ap od:List Int}  (h1:s.leader.isNone = false) :
    XF X P 176 742 (stA P 742 458) (fC s num) [.bit false] (tkN s num nd1 o1 at1 oat ap od) 29 (landK [] (fC s num) (tkN s num nd1 o1 at1 oat ap od)):=
  kXF (fun k=>(s.leader.isNone = false)∧k) (by kernel_rfl) fun _ z=>(And.intro h1 z)
@[irreducible] noncomputable def XR (X:Cx) (P:Params) (n f:Nat) (e:PySem.Expr) (F:Frame) (o:List Hint) (σ:Store) (nx:Nat) (k:KB):Prop:=(run X (T P) n).tr (fiA P f) F e ⟨o,σ,nx⟩ k
theorem trOf {n f:Nat} {e:PySem.Expr} {F:Frame} {o:List Hint} {σ:Store} {nx:Nat} {c:Bool} (ok:X.Ok (K P)) (hf:(gt tFns f).isSome = true) (h:XR X P n f e F o σ nx fun b w=>b = c∧w.σ = σ∧w.nx = nx) :
    Tr X n (fdAt (K P) f) F (fun env=>isTrue e env (eval e env)) σ nx fun b σ1 n1=>b = c∧σ1 = σ∧n1 = nx:=fun p=>by
  unfold XR at h
  refine wpAny_mono ((ro ok n).tr _ (nmA P hf) F _ _ _ h p) (fun b s z=>?_) fun _ _ z=>z
  obtain ⟨J,ρ,σ',n',E,R,o',q⟩:=z
  exact ⟨J,ρ,σ',n',E,R,q⟩
theorem r537:XR X P 175 537 (iT (hd1 (bdA P 537))) (frameOf [(⟨⟨[115,101,108,102]⟩⟩,.loc 10)]) [] (tkN s num nd1 o1 at1 oat ap od) 29 (fun b w=>b = true∧w.σ = tkN s num nd1 o1 at1 oat ap od∧w.nx = 29):=
  kmp (p:=true = true∧tkN s num nd1 o1 at1 oat ap od = tkN s num nd1 o1 at1 oat ap od∧29 = 29) (by kernel_rfl) ⟨rfl,rfl,rfl⟩
theorem r457 (h:tN s num - tN s num < 100):XR X P 177 742 (whT (stA P 742 457)) (fC s num) [.bit true] (tkN s num nd1 o1 at1 oat ap od) 29 (fun b w=>b = true∧w.σ = tkN s num nd1 o1 at1 oat ap od∧w.nx = 29):=
  kmp (p:=decide (tN s num - tN s num < 100) = true∧true = true∧tkN s num nd1 o1 at1 oat ap od = tkN s num nd1 o1 at1 oat ap od∧29 = 29) (by kernel_rfl) ⟨decide_eq_true h,rfl,rfl,rfl⟩
theorem x537 (ok:X.Ok (K P)):ClX X 176 537 [.loc 10] (tkN s num nd1 o1 at1 oat ap od) 29 506:=
  fn_raises (b:=[(⟨⟨[115,101,108,102]⟩⟩,.loc 10)]) (t:=iT (hd1 (bdA P 537))) (y:=nmX (cF (rE (hd1 (iB (hd1 (bdA P 537))))))) (np:=nmP (cF (rE (hd1 (iB (hd1 (bdA P 537))))))) (cp:=cP (rE (hd1 (iB (hd1 (bdA P 537)))))) (rp:=rP (hd1 (iB (hd1 (bdA P 537))))) (ip:=iP (hd1 (bdA P 537))) (o:=iO (hd1 (bdA P 537))) (rest:=tl1 (bdA P 537)) (dflt:=[])
    ok (fnAt P (by kernel_rfl)) (by kernel_rfl) (by kernel_rfl) (by kernel_rfl) (trOf ok (by kernel_rfl) r537) (by kernel_rfl) (by kernel_rfl) (by kernel_rfl)
theorem e460:XE X P 176 742 (atO (cF (aV (tA (stA P 742 460))))) (fC s num) [] (tkN s num nd1 o1 at1 oat ap od) 29 (fun a w=>a = .loc 10∧w.σ = tkN s num nd1 o1 at1 oat ap od∧w.nx = 29):=
  kmp (p:=AV.loc 10 = .loc 10∧tkN s num nd1 o1 at1 oat ap od = tkN s num nd1 o1 at1 oat ap od∧29 = 29) (by kernel_rfl) ⟨rfl,rfl,rfl⟩
@[irreducible] noncomputable def FxOk (X:Cx) (d:Nat) (fd:FuncData) (F:Frame) (b:Stmt) (σ:Store) (nx:Nat) (f:Fl):Prop:=∀ p:At X d F σ nx,(∃ l,p.A.frames = some (p.env fd :: l)) → wpAny p.M p.A (exec b (p.env fd)) (p.AnsS fun φ F2 σ2 n2=>φ = f∧F2 = F∧σ2 = σ∧n2 = nx) no p.s
theorem tryA {n fn:Nat} {F:Frame} {σ:Store} {nx:Nat} (ok:X.Ok (K P)) (hfn:(gt tFns fn).isSome = true) {tg o:PySem.Expr} {x y:Str} {apos cpos ap np bp hp tp:Pos} {m CI f C:Nat} {as:List (Nat × AV)} {ci:ClsI} {oh:List Hint}
    (hm:mOk o [] [] apos cpos = true) (hsw:(swOf (fiA P fn).fd [tg] (.Call (.Attribute o x apos) [] [] cpos)).map Subtype.val = some none)
    (hev:XE X P n fn o F oh σ nx fun a w=>a = .loc m∧w.σ = σ∧w.nx = nx)
    (hg:gt σ m = some (.inst CI as)) (hci:gt tCls CI = some ci) (er:gt ci.at_ (cd x) = some (.fn f)) (ea:gt as (cd x) = none) (hx:ClX X n f [.loc m] σ nx C)
    (hy:gt (fiA P fn).nm (cd y) = some false) (e2:nsIn (K P) mainGlobals y = some (some (.ref C))) (hC:excIn (K P) C excBm "Exception.__new__" = true) :
    FxOk X (n + 1) (fdAt (K P) fn) F (.Try [.Assign [tg] (.Call (.Attribute o x apos) [] [] cpos) ap] [.ExceptHandler (some (.Name y np)) none [.Break bp] hp] [] [] tp) σ nx .brk:=by
  unfold FxOk
  intro p hfr
  unfold XE at hev
  exact try_st (T:=T P) (fi:=fiA P fn) ok (tab_ok P).1 (ro ok n) (nmA P hfn) hm hsw hev hg hci er ea hx hy e2 hC p hfr
set_option maxHeartbeats 0 in
theorem try460 (ok:X.Ok (K P)):FxOk X 177 (fdAt (K P) 742) (fC s num) (stA P 742 460) (tkN s num nd1 o1 at1 oat ap od) 29 .brk:=by
  have e':stA P 742 460 = .Try [.Assign [aT (tA (stA P 742 460))] (.Call (.Attribute (atO (cF (aV (tA (stA P 742 460))))) (atX (cF (aV (tA (stA P 742 460))))) (atQ (cF (aV (tA (stA P 742 460)))))) [] [] (cP (aV (tA (stA P 742 460))))) (aP (tA (stA P 742 460)))]
      [.ExceptHandler (some (.Name (nmX (hE (tH (stA P 742 460)))) (nmP (hE (tH (stA P 742 460)))))) none [.Break (hBP (tH (stA P 742 460)))] (hP (tH (stA P 742 460)))] [] [] (tP (stA P 742 460)):=by kernel_rfl
  have h1:=e460 (X:=X) (P:=P) (s:=s) (num:=num) (nd1:=nd1) (at1:=at1) (oat:=oat) (o1:=o1) (ap:=ap) (od:=od)
  have h2:=x537 (s:=s) (num:=num) (nd1:=nd1) (at1:=at1) (oat:=oat) (o1:=o1) (ap:=ap) (od:=od) ok
  have g1:mOk (atO (cF (aV (tA (stA P 742 460))))) [] [] (atQ (cF (aV (tA (stA P 742 460))))) (cP (aV (tA (stA P 742 460)))) = true:=by kernel_rfl
  have g2:(swOf (fiA P 742).fd [aT (tA (stA P 742 460))] (.Call (.Attribute (atO (cF (aV (tA (stA P 742 460))))) (atX (cF (aV (tA (stA P 742 460))))) (atQ (cF (aV (tA (stA P 742 460)))))) [] [] (cP (aV (tA (stA P 742 460)))))).map Subtype.val = some none:=by kernel_rfl
  have g3:gt tCls 540 = some (clAt 540):=by kernel_rfl
  have g4:gt (clAt 540).at_ (cd (atX (cF (aV (tA (stA P 742 460)))))) = some (.fn 537):=by kernel_rfl
  have g5:gt [(n__FastQueue__queue,AV.loc 11),(n__FastQueue__maxSize,AV.int 100000)] (cd (atX (cF (aV (tA (stA P 742 460)))))) = none:=by kernel_rfl
  have g6:gt (fiA P 742).nm (cd (nmX (hE (tH (stA P 742 460))))) = some false:=by kernel_rfl
  have g7:nsIn (K P) mainGlobals (nmX (hE (tH (stA P 742 460)))) = some (some (.ref 506)):=by kernel_rfl
  have g8:excIn (K P) 506 excBm "Exception.__new__" = true:=by kernel_rfl
  have g9:gt (tkN s num nd1 o1 at1 oat ap od) 10 = some queO:=by kernel_rfl
  have g0:(gt tFns 742).isSome = true:=by kernel_rfl
  rw [e']
  exact tryA (n:=176) (fn:=742) ok g0 g1 g2 h1 g9 g3 g4 g5 h2 g6 g7 g8
theorem frU {X:Cx} {d d':Nat} {F F' F0:Frame} {σ σ':Store} {nx nx':Nat} {fd:FuncData} {p:At X d F σ nx} {p1:At X d' F' σ' nx'} (hA:p1.A = p.A) (hL:p1.L = p.L) (hf:p1.f = p.f)
    (h:∃ l,p.A.frames = some (p.env fd :: l)):∃ l,p1.A.frames = some (p1.env fd :: l):=by
  obtain ⟨l,hl⟩:=h
  exact ⟨l,by rw [hA]; unfold At.env; rw [hL,hf]; exact hl⟩
@[irreducible] noncomputable def XbOk (X:Cx) (d:Nat) (fd:FuncData) (F:Frame) (b:List Stmt) (σ:Store) (nx:Nat):Prop:=∀ p:At X d F σ nx,(∃ l,p.A.frames = some (p.env fd :: l)) → wpAny p.M p.A (execs b (p.env fd)) (p.AnsS (retQ fun v σ2 n2=>v = .none∧σ2 = σ∧n2 = nx)) no p.s
theorem c742w {X:Cx} {d:Nat} {fd:FuncData} {F:Frame} {σ:Store} {nx:Nat} {t:PySem.Expr} {a b:Stmt} {tl:List Stmt} {pos:Pos}
    (ht:Tr X d fd F (fun env=>isTrue t env (eval t env)) σ nx fun c σ1 n1=>c = true∧σ1 = σ∧n1 = nx) (xa:XsOk X d fd F a σ nx .next F σ nx)
    (xb:FxOk X d fd F b σ nx .brk):FxOk X d fd F (.While t (a :: b :: tl) [] pos) σ nx .next:=by
  unfold FxOk at *
  intro p h
  refine while_brk p h ht fun p2 h2=>?_
  refine XsX xa p2 fun p3 hA hL hf=>?_
  refine wpAny_execs_cons (wpAny_mono (xb p3 (frU (F0:=F) hA hL hf h2)) (fun fl s1 z=>?_) fun _ _ z=>z)
  obtain ⟨φ,F1,J1,ρ1,σ1,n1,E1,R1,x1,q1,q2,q3,q4⟩:=z
  subst q1 q2 q3 q4
  cases fl <;> first | exact x1.elim | skip
  exact ⟨.brk,_,J1,ρ1,_,_,E1,R1,trivial,rfl,rfl,rfl,rfl⟩
theorem c742g {X:Cx} {d:Nat} {fd:FuncData} {F F0:Frame} {σ:Store} {nx:Nat} {a b:Stmt} (xa:XsOk X d fd F0 a σ nx .next F σ nx)
    (xb:FxOk X d fd F b σ nx .next):XbOk X d fd F0 [a,b] σ nx:=by
  unfold FxOk at xb; unfold XbOk
  intro p h
  refine XsX xa p fun p1 hA hL hf=>?_
  refine wpAny_execs_cons (wpAny_mono (xb p1 (frU (F0:=F) hA hL hf h)) (fun fl s1 z=>?_) fun _ _ z=>z)
  obtain ⟨φ,F1,J1,ρ1,σ1,n1,E1,R1,x1,q1,q2,q3,q4⟩:=z
  subst q1 q2 q3 q4
  cases fl <;> first | exact x1.elim | skip
  exact wpAny_execs_nil ⟨.next,_,J1,ρ1,_,_,E1,R1,trivial,rfl,rfl,rfl⟩
theorem c742n {X:Cx} {d:Nat} {fd:FuncData} {F:Frame} {σ:Store} {nx:Nat} {b:Stmt} (x:XsOk X d fd F b σ nx .next F σ nx):FxOk X d fd F b σ nx .next:=by
  unfold FxOk; exact fun p _=>xsGo x p
theorem c742d {X:Cx} {d f:Nat} {P:Params} {nm:List (Nat × Bool)} {a:Str} {b:AV} {body:List Stmt} {σ:Store} {nx:Nat} (ok:X.Ok (K P)) (fi:FnIs (K P) f nm) (hb:stmtsOf (fdAt (K P) f).body = some body) (hd:dfltIn (K P) (fdAt (K P) f).defaults = some [])
    (h1:bindG (namesOf (fdAt (K P) f).params) [b] [] [] = some [(a,b)]) (h:XbOk X d (fdAt (K P) f) (frameOf [(a,b)]) body σ nx):ClOk X (d + 1) f [b] [] σ nx .none σ nx:=by
  unfold XbOk at h; exact cl_def ok fi hb hd h1 h
set_option maxHeartbeats 0 in
/-- commands to apply: none is there -/
theorem C742 (ok:X.Ok (K P)) (hn:NLn s):ClOk X 178 742 [.loc 7] [] (tkN s num nd1 o1 at1 oat ap od) 29 .none (tkN s num nd1 o1 at1 oat ap od) 29:=by
  have x456:XsOk X 177 (fdAt (K P) 742) fC0 (stA P 742 456) (tkN s num nd1 o1 at1 oat ap od) 29 .next (fC s num) (tkN s num nd1 o1 at1 oat ap od) 29:=ctr ok (f:=742) (by kernel_rfl) [] (w456 (X:=X) (P:=P) (s:=s) (num:=num) (nd1:=nd1) (at1:=at1) (oat:=oat) (o1:=o1) (ap:=ap) (od:=od)) (Nat.le_refl _) (by kernel_rfl) (by kernel_rfl) (by kernel_rfl) (by kernel_rfl) (nls_tkN hn) (As.rfl' _) (Ss.rfl' _)
  have h100:tN s num - tN s num < 100:=by omega
  have last:FxOk X 177 (fdAt (K P) 742) (fC s num) (stA P 742 457) (tkN s num nd1 o1 at1 oat ap od) 29 .next:=by
    cases hl:s.leader with
    | none=>
      have x457:XsOk X 177 (fdAt (K P) 742) (fC s num) (stA P 742 457) (tkN s num nd1 o1 at1 oat ap od) 29 .next (fC s num) (tkN s num nd1 o1 at1 oat ap od) 29:=ctr ok (f:=742) (by kernel_rfl) [] (w457n (X:=X) (P:=P) (s:=s) (num:=num) (nd1:=nd1) (at1:=at1) (oat:=oat) (o1:=o1) (ap:=ap) (od:=od) h100 (by rw [hl]; rfl)) (Nat.le_refl _) (by kernel_rfl) (by kernel_rfl) (by kernel_rfl) (by kernel_rfl) (nls_tkN hn) (As.rfl' _) (Ss.rfl' _)
      exact c742n x457
    | some w=>
      have x458:XsOk X 177 (fdAt (K P) 742) (fC s num) (stA P 742 458) (tkN s num nd1 o1 at1 oat ap od) 29 .next (fC s num) (tkN s num nd1 o1 at1 oat ap od) 29:=ctr ok (f:=742) (by kernel_rfl) [] (w458 (X:=X) (P:=P) (s:=s) (num:=num) (nd1:=nd1) (at1:=at1) (oat:=oat) (o1:=o1) (ap:=ap) (od:=od) (by rw [hl]; rfl)) (Nat.le_refl _) (by kernel_rfl) (by kernel_rfl) (by kernel_rfl) (by kernel_rfl) (nls_tkN hn) (As.rfl' _) (Ss.rfl' _)
      have e:stA P 742 457 = .While (whT (stA P 742 457)) (stA P 742 458 :: stA P 742 460 :: tl1 (tl1 (whB (stA P 742 457)))) [] (whP (stA P 742 457)):=by kernel_rfl
      have ht:=trOf (c:=true) (o:=[.bit true]) ok (by kernel_rfl) (r457 (X:=X) (P:=P) (s:=s) (num:=num) (nd1:=nd1) (at1:=at1) (oat:=oat) (o1:=o1) (ap:=ap) (od:=od) h100)
      rw [e]
      exact c742w ht x458 (try460 ok)
  exact c742d (a:=⟨⟨[115,101,108,102]⟩⟩) ok (fnAt P (by kernel_rfl)) (by kernel_rfl) (by kernel_rfl) (by kernel_rfl) (c742g x456 last)
end
end Mine
namespace Mine
noncomputable def nmS (c:Nat):AV:=.str ⟨⟨[c]⟩⟩
noncomputable def nlA:Nat → List AV
  | 0=>[nmS 98,nmS 99]
  | 1=>[nmS 98,nmS 99,nmS 100]
  | _=>[nmS 98,nmS 99,nmS 100,nmS 101]
/-- what holds between turns -/
structure Inv (j:Nat) (s:S):Prop where
  nl:∃ k,k < 3∧s.nl = nlA k
  log:∀ (k:Nat) (e:Ent),s.log[k]? = some e → e.idx = (k:Int) + 1∧e.term ≤ s.term
  ne:1 ≤ s.log.length
  ln:s.log.length ≤ 1 + 3 * j
  now0:0 ≤ s.now
  now1:s.now ≤ 160 * (j:Int)
  res0:s.reset ≤ s.now
  res1:s.now ≤ s.reset + 399
  lst0:0 ≤ s.lst
  lst1:s.lst ≤ s.now
  at1:1 ≤ s.at1
  cm0:1 ≤ s.commit
  cm1:s.commit ≤ (s.log.length:Int)
  dn:s.done.length ≤ 200 * j
theorem ix_nn {l:List AV} {i:Int} (h:0 ≤ i):ix l i = l[i.toNat]?:=by
  obtain ⟨k,rfl⟩:=Int.eq_ofNat_of_zero_le h
  rfl
theorem ix_last {l:List AV} (h:1 ≤ l.length):ix l (-1) = l[l.length - 1]?:=by
  show (if 0 < l.length then l[l.length - (0 + 1)]? else none) = _
  rw [if_pos (by omega)]
theorem nil_all {P:AV → Prop}:∀ x,x ∈ ([]:List AV) → P x:=fun x hx=>nomatch hx
theorem self_cmd (c:Option Int):SelfN 7 (cmdA c):=by
  cases c with
  | none=>exact self_tup (n:=6) (List.forall_mem_cons.mpr ⟨self_i rfl,nil_all⟩)
  | some v=>exact self_tup (n:=6) (List.forall_mem_cons.mpr ⟨self_i rfl,List.forall_mem_cons.mpr ⟨self_i rfl,nil_all⟩⟩)
theorem flat_ent (e:Ent):FlatOk (entA e):=self_tup (n:=7) (List.forall_mem_cons.mpr ⟨self_cmd _,List.forall_mem_cons.mpr ⟨self_i rfl,List.forall_mem_cons.mpr ⟨self_i rfl,nil_all⟩⟩⟩)
theorem flat_don (v:Int):FlatOk (donA v):=self_tup (n:=7) (List.forall_mem_cons.mpr ⟨self_i rfl,List.forall_mem_cons.mpr ⟨self_fl (n:=6) nil_all,nil_all⟩⟩)
theorem flat_logs (l:List Ent):∀ x,x ∈ l.map entA → FlatOk x:=fun x h=>by
  obtain ⟨e,_,rfl⟩:=List.mem_map.mp h; exact flat_ent e
theorem flat_dons (l:List Int):∀ x,x ∈ l.map donA → FlatOk x:=fun x h=>by
  obtain ⟨e,_,rfl⟩:=List.mem_map.mp h; exact flat_don e
theorem cut_all (l:List Ent):cut (l.map entA) (some 0) none = l.map entA:=by
  rw [cut_from (Int.le_refl 0)]; rfl
theorem cut_allF (l:List Ent):cut (l.map entA) (some 0) none = l.map entA∧∀ x,x ∈ cut (l.map entA) (some 0) none → FlatOk x:=by
  rw [cut_all]; exact ⟨rfl,flat_logs l⟩
section
variable {j:Nat} {s:S} {num:Int}
theorem Inv.nln (I:Inv j s):NLn s:=fun a h=>by
  obtain ⟨k,hk,e⟩:=I.nl
  rw [e] at h
  unfold nlA nmS at h
  split at h <;> simp only [List.mem_cons,List.not_mem_nil,or_false] at h
  · rcases h with rfl | rfl <;> exact ⟨_,rfl⟩
  · rcases h with rfl | rfl | rfl <;> exact ⟨_,rfl⟩
  · rcases h with rfl | rfl | rfl | rfl <;> exact ⟨_,rfl⟩
theorem Inv.who (I:Inv j s) (num:Int):(2 ≤ s.nl.length∧s.nl.length ≤ 4)∧∃ who,SoftO (ix s.nl ((num.fdiv 6).fmod (len s.nl))) (.ss who):=by
  have hl:2 ≤ s.nl.length∧s.nl.length ≤ 4:=by
    obtain ⟨k,hk,e⟩:=I.nl
    rw [e]
    unfold nlA
    split <;> simp
  refine ⟨hl,?_⟩
  have hp:(0:Int) < len s.nl:=by show (0:Int) < (s.nl.length:Int); omega
  have h1:=Int.fmod_nonneg_of_pos (num.fdiv 6) hp
  have h2:=Int.fmod_lt_of_pos (num.fdiv 6) hp
  have h2':(num.fdiv 6).fmod (len s.nl) < (s.nl.length:Int):=h2
  rw [ix_nn h1]
  have hlt:((num.fdiv 6).fmod (len s.nl)).toNat < s.nl.length:=by omega
  obtain ⟨x,hx⟩:=I.nln _ (List.getElem_mem hlt)
  exact ⟨x,.str x,by rw [List.getElem?_eq_getElem hlt,hx],.str x⟩
theorem Inv.last (I:Inv j s):∃ e,s.log[s.log.length - 1]? = some e∧e.idx = (s.log.length:Int)∧e.term ≤ s.term∧ix (s.log.map entA) (-1) = some (entA e):=by
  have h:=I.ne
  have hlt:s.log.length - 1 < s.log.length:=by omega
  refine ⟨s.log[s.log.length - 1],List.getElem?_eq_getElem hlt,?_,?_,?_⟩
  · have:=(I.log _ _ (List.getElem?_eq_getElem hlt)).1
    rw [this]; omega
  · exact (I.log _ _ (List.getElem?_eq_getElem hlt)).2
  · rw [ix_last (by simpa using h)]
    simp [List.getElem?_map,List.getElem?_eq_getElem hlt]
theorem Inv.at_ (I:Inv j s) {k:Nat} (h:k < s.log.length):∃ e,s.log[k]? = some e∧e.idx = (k:Int) + 1∧e.term ≤ s.term:=⟨_,List.getElem?_eq_getElem h,I.log _ _ (List.getElem?_eq_getElem h)⟩
theorem size_ok {n:Nat} (h:n ≤ 100000):n ≤ sizeLine:=Nat.le_trans h size_big
theorem Inv.com (I:Inv j s) (hj:j ≤ 60) {who:Str} (hw:SoftO (ix s.nl ((num.fdiv 6).fmod (len s.nl))) (.ss who)) {e:Ent} (he:ix (s.log.map entA) (-1) = some (entA e)):Com s num who e:=by
  obtain ⟨h1,_⟩:=I.who num
  have hl:=I.ln
  have el:len s.nl = (s.nl.length:Int):=rfl
  exact {
    a1:=by omega
    a2:=by rw [el]; omega
    a3:=by rw [el]; omega
    a4:=⟨by omega,hw⟩
    l1:=by rw [List.length_map]; omega
    l2:=size_ok (by rw [List.length_map]; omega)
    l3:=⟨by rw [List.length_map]; omega,_,he,.refl _⟩
    l4:=cut_allF _
    d1:=⟨rfl,flat_dons _⟩ }
end
end Mine
namespace Mine
/-- a turn of the law's loop: it goes on,and what holds,holds again -/
noncomputable def TurnG (X:Cx) (T:Tab) (n:Nat) (fi:Fi) (B:List Stmt) (j:Nat) (num:Int) (s:S):Prop:=∃ s',Inv (j + 1) s'∧Xs X n fi.fd (frmN (j:Int) num) (fun env=>execs B env) (sgs s) 27 fun φ F2 σ2 n2=>φ = .next∧Next X (fun F w=>F = frm∧w.σ = sgs s'∧w.nx = 27) F2 σ2 n2
theorem TurnG.of {X:Cx} {T:Tab} {n:Nat} {fi:Fi} {B:List Stmt} {j:Nat} {num:Int} {s s':S} {o:List Hint} {f:List Nat} {q:QA} (ro:RunOk X T n) (nm:NmOk fi.fd fi.nm) (hp:PR X T n fi (frmN (j:Int) num) B ⟨o,sgs s,27⟩ (leafQ f q)) (I:Inv (j + 1) s') (fit:Fit q s')
    (h1:okS 27 (sigQ q) = true) (h2:nodupB (mapF (fOf f) (keysOf (sigQ q))) = true):TurnG X T n fi B j num s:=⟨s',I,next_p ro nm hp fit I.nln h1 h2⟩
noncomputable abbrev TurnR (X:Cx) (P:Params) (j:Nat) (num:Int) (s:S):Prop:=TurnG X (T P) 190 (lawFi P) (turnB P) j num s
theorem lawNm (P:Params):NmOk (lawFi P).fd (lawFi P).nm:=law_nm P
theorem orc_le {wr t v l d c a lst lc st nd:AV}:OLe (nodeA wr t v l d c a lst lc (.bool true) st nd) (nodeA wr t v l d c a lst lc (.sb true) st nd):=by
  exact OLe.inst (As.cons AVle.refl (As.cons AVle.refl (As.cons AVle.refl (As.cons AVle.refl (As.cons AVle.refl (As.cons AVle.refl (As.cons AVle.refl (As.cons AVle.refl (As.cons AVle.refl (As.cons AVle.refl (As.cons AVle.refl (As.cons AVle.refl (As.cons AVle.refl (As.cons AVle.refl (As.cons AVle.refl (As.cons AVle.refl (As.cons AVle.refl (As.cons AVle.refl (As.cons AVle.refl (As.cons AVle.refl (As.cons AVle.refl (As.cons AVle.refl (As.cons AVle.refl (As.cons AVle.bool (As.cons AVle.refl (As.cons AVle.refl (As.cons AVle.refl (As.cons AVle.refl (As.cons AVle.refl (As.cons AVle.refl (As.cons AVle.refl (As.cons AVle.refl (As.cons AVle.refl (As.cons AVle.refl (As.cons AVle.refl (As.cons AVle.refl (As.cons AVle.refl (As.cons AVle.refl (As.cons AVle.refl As.nil)))))))))))))))))))))))))))))))))))))))
section
variable {X:Cx} {P:Params} {s:S} {num:Int} {j:Nat}
theorem tkS_le {nd at1 oat:AV} {ap od:AObj}:Ss (tkS s num nd (.bool true) at1 oat ap od) (tkS s num nd (.sb true) at1 oat ap od):=
  .cons OLe.refl (.cons OLe.refl (.cons OLe.refl (.cons OLe.refl (.cons OLe.refl (.cons OLe.refl (.cons OLe.refl (.cons OLe.refl (.cons OLe.refl (.cons orc_le (Ss.rfl' _))))))))))
noncomputable abbrev fW (s:S) (num:Int):Frame:=[(n_self,.loc 7),(n_timeToWait,.int 0),(n_workTime,.si (tN s num - s.st))]
noncomputable abbrev fW2 (s:S) (num:Int):Frame:=[(n_self,.loc 7),(n_timeToWait,.int 0),(n_workTime,.si (tN s num - s.st)),(n_needSendAppendEntries,.bool false)]
noncomputable abbrev fA:Frame:=[(n_self,.loc 7),(n_needSendAppendEntries,.bool false)]
theorem T0 (ok:X.Ok (K P)) (hn:NLn s):∃ nd1,XsOk X 180 (fdAt (K P) 758) (fW s num) (stA P 758 506) (tkN s num s.nd s.orc s.at1 s.at1 s.done s.done) 29 .next (fW s num) (tkN s num nd1 s.orc s.at1 s.at1 s.done s.done) 29:=by
  by_cases h:s.nd < tN s num - s.st
  · exact ⟨s.nd + 1,ctr ok (by kernel_rfl) [] (t0a h) (Nat.le_refl _) (by kernel_rfl) (by kernel_rfl) (by kernel_rfl) (by kernel_rfl) (nls_tkN hn) (As.rfl' _) (Ss.rfl' _)⟩
  · exact ⟨s.nd,ctr ok (by kernel_rfl) [] (t0b h) (Nat.le_refl _) (by kernel_rfl) (by kernel_rfl) (by kernel_rfl) (by kernel_rfl) (nls_tkN hn) (As.rfl' _) (Ss.rfl' _)⟩
set_option maxHeartbeats 0 in
theorem T2 (ok:X.Ok (K P)) (hn:NLn s) {nd1 a2:Int} {dn:List Int}:∃ o1,XsOk X 180 (fdAt (K P) 758) (fW2 s num) (stA P 758 556) (tkN s num nd1 s.orc a2 s.at1 (s.done ++ dn) s.done) 29 .next (fW2 s num) (tkN s num nd1 o1 a2 s.at1 (s.done ++ dn) s.done) 29:=by
  cases ho:s.orc with
  | true=>
    have:=ctr ok (by kernel_rfl) [] (t2c (X:=X) (P:=P) (s:=s) (num:=num) (nd1:=nd1) (a2:=a2) (dn:=dn) ho) (Nat.le_refl _) (by kernel_rfl) (by kernel_rfl) (by kernel_rfl) (by kernel_rfl) (nls_tkN hn) (As.rfl' _) (Ss.rfl' _)
    rw [ho] at this
    exact ⟨true,this⟩
  | false=>
    by_cases h:s.lc = some a2
    · have:=ctr ok (by kernel_rfl) [] (t2a (X:=X) (P:=P) (s:=s) (num:=num) (nd1:=nd1) (a2:=a2) (dn:=dn) ho h) (nx':=29) (σ':=tkN s num nd1 true a2 s.at1 (s.done ++ dn) s.done) (Nat.le_refl _) (by kernel_rfl) (by kernel_rfl) (by kernel_rfl) (by kernel_rfl) ?_ (As.rfl' _) tkS_le
      · rw [ho] at this
        exact ⟨true,this⟩
      · repeat (first | exact NLS.nil | refine NLS.log ?_ | refine NLS.don ?_ | refine NLS.nm hn ?_ | refine NLS.no (fun l e=>by cases e) ?_)
    · have:=ctr ok (by kernel_rfl) [] (t2b (X:=X) (P:=P) (s:=s) (num:=num) (nd1:=nd1) (a2:=a2) (dn:=dn) ho h) (Nat.le_refl _) (by kernel_rfl) (by kernel_rfl) (by kernel_rfl) (by kernel_rfl) (nls_tkN hn) (As.rfl' _) (Ss.rfl' _)
      rw [ho] at this
      exact ⟨false,this⟩
theorem part2_len {l:List Ent} {a b:Int} (ha:0 ≤ a) (hb:b ≤ (l.length:Int)) (h:a ≤ b):((part2 l a b).length:Int) = b - a:=by
  simp only [part2,List.length_drop,List.length_take]
  omega
theorem part2_nil {l:List Ent} {a b:Int} (hb:0 ≤ b) (h:b ≤ a):part2 l a b = []:=by
  simp only [part2]
  apply List.drop_eq_nil_of_le
  simp only [List.length_take]
  omega
set_option maxHeartbeats 0 in
theorem T1 (ok:X.Ok (K P)) (I:Inv j s) (hj:j ≤ 40) {who:Str} {e:Ent} (c:Com s num who e) {nd1:Int} :
    XsOk X 177 (fdAt (K P) 765) fA (stA P 765 563) (tkN s num nd1 s.orc s.at1 s.at1 s.done s.done) 29 .next fA (tkN s num nd1 s.orc (s.at1 + ((part2 s.log s.at1 s.commit).length:Int)) s.at1 (s.done ++ cmds (part2 s.log s.at1 s.commit)) s.done) 29:=by
  have hn:=I.nln
  have ha:=I.at1
  have hc0:=I.cm0
  have hc1:=I.cm1
  have hl:=I.ln
  have hd:=I.dn
  have hne:=I.ne
  by_cases h:s.at1 < s.commit
  · obtain ⟨e0,g1,g2,g3⟩:=I.at_ (k:=0) (by omega)
    have g2:e0.idx = 1:=by omega
    have x1:s.at1 + 1 - e0.idx = s.at1:=by omega
    have x2:s.at1 + 1 - e0.idx + (s.commit - s.at1) = s.commit:=by omega
    have hlp:(part2 s.log s.at1 s.commit).length ≤ 10000:=by simp only [part2,List.length_drop,List.length_take]; omega
    have t1l:=T1L (num:=num) (nd1:=nd1) (o1:=s.orc) (i2:=s.at1) (d2:=s.done) ok hn hlp (by omega)
    have cc:cut (s.log.map entA) (some (s.at1 + 1 - e0.idx)) (some (s.at1 + 1 - e0.idx + (s.commit - s.at1))) = (part2 s.log s.at1 s.commit).map entA:=by
      rw [x2,x1]; exact cut_part (by omega) (by omega)
    rw [← cc] at t1l
    exact ctr ok (by kernel_rfl) [] (t1a c h ⟨c.l1,_,(by show ix _ 0 = _; rw [ix_nn (by omega)]; simp [List.getElem?_map,g1]; rfl),.refl _⟩ (by show ¬ (s.at1 + 1 < e0.idx); omega) t1l) (Nat.le_refl _) (by kernel_rfl) (by kernel_rfl) (by kernel_rfl) (by kernel_rfl) (nls_tkN hn) (As.rfl' _) (Ss.rfl' _)
  · rw [part2_nil (by omega) (by omega)]
    have e1:cmds [] = []:=rfl
    simp only [List.length_nil,Int.natCast_zero,Int.add_zero,e1,List.append_nil]
    exact ctr ok (by kernel_rfl) [] (t1b h) (Nat.le_refl _) (by kernel_rfl) (by kernel_rfl) (by kernel_rfl) (by kernel_rfl) (nls_tkN hn) (As.rfl' _) (Ss.rfl' _)
theorem tN_le (h0:0 ≤ s.now) (h1:s.now ≤ s.reset + 399):s.now ≤ tN s num∧tN s num ≤ s.now + 160∧tN s num ≤ s.reset + 399:=by
  have a:=Int.fmod_nonneg_of_pos (num.fdiv (6 * len s.nl)) (b:=9) (by decide)
  have b:=Int.fmod_lt_of_pos (num.fdiv (6 * len s.nl)) (b:=9) (by decide)
  have e:tN s num = if s.reset + 399 < s.now + 20 * (num.fdiv (6 * len s.nl)).fmod 9 then s.reset + 399 else s.now + 20 * (num.fdiv (6 * len s.nl)).fmod 9:=rfl
  rw [e]
  split <;> omega
set_option maxHeartbeats 0 in
theorem tick_turn (ok:X.Ok (K P)) (I:Inv j s) (hj:j ≤ 40) (hk:num.fmod 6 = 3):TurnR X P j num s:=by
  obtain ⟨⟨n1,n2⟩,who,hw⟩:=I.who num
  obtain ⟨e,he1,he2,he3,he4⟩:=I.last
  have c:=I.com (by omega) hw he4
  have hn:=I.nln
  obtain ⟨nd1,t0⟩:=T0 (num:=num) ok hn
  have t1:=T1 (nd1:=nd1) ok I (by omega) c
  obtain ⟨o1,t2⟩:=T2 (num:=num) (nd1:=nd1) (a2:=s.at1 + ((part2 s.log s.at1 s.commit).length:Int)) (dn:=cmds (part2 s.log s.at1 s.commit)) ok hn
  have t3:=C742 (num:=num) (nd1:=nd1) (o1:=o1) (at1:=s.at1 + ((part2 s.log s.at1 s.commit).length:Int)) (oat:=s.at1) (ap:=s.done ++ cmds (part2 s.log s.at1 s.commit)) (od:=s.done) ok hn
  have ha:=I.at1
  have hc0:=I.cm0
  have hc1:=I.cm1
  have hl:=I.ln
  have hd:=I.dn
  have hlp:(part2 s.log s.at1 s.commit).length ≤ s.log.length:=by simp only [part2,List.length_drop,List.length_take]; omega
  have t5:=T5L (who:=who) (j0:=(j:Int)) (num:=num) (nd1:=nd1) (o1:=o1) (ap:=s.done ++ cmds (part2 s.log s.at1 s.commit)) (a2:=s.at1 + ((part2 s.log s.at1 s.commit).length:Int)) ok hn (cut_part (by omega) (by omega)) c.l2 (by omega) (by omega)
  obtain ⟨y1,y2,y3⟩:=tN_le (num:=num) I.now0 I.res1
  have r0:=I.res0
  have l1:=I.lst1
  have l0:=I.lst0
  have w0:=I.now0
  have w1:=I.now1
  have el:len (s.log.map entA) = (s.log.length:Int):=by show ((s.log.map entA).length:Int) = _; rw [List.length_map]
  have run:=tick (j:=(j:Int)) c c.a2 c.a4 (by show ¬ (num.fmod 6 = 0); omega) (by show ¬ (num.fmod 6 < 3); omega) hk t0 (by omega) t1 t2 t3 (by rw [el]; omega) (by rw [el]; omega) (by omega) t5 (cut_allF _) ⟨rfl,flat_dons _⟩
  refine TurnG.of (s':={ s with now:=tN s num,nd:=nd1,at1:=s.at1 + ((part2 s.log s.at1 s.commit).length:Int),done:=s.done ++ cmds (part2 s.log s.at1 s.commit),orc:=o1 }) (ro ok 190) (lawNm P) run ?_ {} (by kernel_rfl) (by kernel_rfl)
  have hcm:=cmds_len (part2 s.log s.at1 s.commit)
  exact { nl:=I.nl,log:=I.log,ne:=I.ne,ln:=by show s.log.length ≤ _; omega,now0:=by show 0 ≤ tN s num; omega,now1:=by show tN s num ≤ _; omega,res0:=by show s.reset ≤ tN s num; omega,res1:=y3,lst0:=l0,lst1:=by show s.lst ≤ tN s num; omega,at1:=by show 1 ≤ s.at1 + _; omega,cm0:=hc0,cm1:=hc1,dn:=by show (s.done ++ _).length ≤ _; rw [List.length_append]; omega }
end
end Mine
namespace Mine
section
variable {X:Cx} {P:Params} {s:S} {num:Int} {j:Nat}
theorem Inv.next (I:Inv j s) {t:Int} {v l:Option Str} {r:Int} (ht:s.term ≤ t) (h0:r ≤ s.now) (h1:s.now ≤ r + 399):Inv (j + 1) { s with term:=t,voted:=v,leader:=l,reset:=r }:=
  { nl:=I.nl,log:=fun k e h=>⟨(I.log k e h).1,Int.le_trans (I.log k e h).2 ht⟩,ne:=I.ne,ln:=by have:=I.ln; show s.log.length ≤ _; omega,now0:=I.now0,now1:=by have:=I.now1; show s.now ≤ _; omega,res0:=h0,res1:=h1,lst0:=I.lst0,lst1:=I.lst1,at1:=I.at1,cm0:=I.cm0,cm1:=I.cm1,dn:=by have:=I.dn; show s.done.length ≤ _; omega }
theorem Inv.same (I:Inv j s):Inv (j + 1) s:=I.next (Int.le_refl _) I.res0 I.res1
theorem fit_up {t:Int}:Fit ({ qOf s with term:=.si t,jterm:=.si t,oterm:=.si t,leader:=.none,oleader:=.none,voted:=.none,jvoted:=.none,ovoted:=.none }) { s with term:=t,voted:=none,leader:=none }:=
  { voted:=AVle.son,jvoted:=AVle.son,ovoted:=AVle.son,leader:=AVle.son,oleader:=AVle.son }
theorem fit_upv {t:Int} {who:Str}:Fit ({ qOf s with term:=.si t,jterm:=.si t,oterm:=.si t,leader:=.none,oleader:=.none,voted:=.ss who,jvoted:=.ss who,ovoted:=.ss who,dead:=.si (s.now + 400),oreset:=.si s.now }) { s with term:=t,voted:=some who,leader:=none,reset:=s.now }:=
  { voted:=AVle.sos,jvoted:=AVle.sos,ovoted:=AVle.sos,leader:=AVle.son,oleader:=AVle.son }
theorem fit_v {who:Str}:Fit ({ qOf s with voted:=.ss who,jvoted:=.ss who,ovoted:=.ss who,dead:=.si (s.now + 400),oreset:=.si s.now }) { s with voted:=some who,reset:=s.now }:=
  { voted:=AVle.sos,jvoted:=AVle.sos,ovoted:=AVle.sos }
theorem fit_same:Fit (qOf s) s:={}
theorem vote_turn (ok:X.Ok (K P)) (I:Inv j s) (hj:j ≤ 40) (h1:num.fmod 6 = 0):TurnR X P j num s:=by
  obtain ⟨⟨n1,n2⟩,who,hw⟩:=I.who num
  obtain ⟨e,he1,he2,he3,he4⟩:=I.last
  have c:=I.com (by omega) hw he4
  have el:len (s.log.map entA) = (s.log.length:Int):=by show ((s.log.map entA).length:Int) = _; rw [List.length_map]
  have r0:=I.res0
  have r1:=I.res1
  have up:∀ {o:List Hint} {q:QA} {s':S},PR X (T P) 190 (lawFi P) (frmN (j:Int) num) (turnB P) ⟨o,sgs s,27⟩ (leafQ [] q) → Inv (j + 1) s' → Fit q s' → okS 27 (sigQ q) = true → nodupB (mapF (fOf []) (keysOf (sigQ q))) = true → TurnR X P j num s:=
    fun hp I' f a b=>TurnG.of (ro ok 190) (lawNm P) hp I' f a b
  by_cases hU:s.term < vT s num
  · have hle:s.term ≤ vT s num:=by omega
    by_cases a1:vA s num e < e.term
    · exact up (vUpLt c h1 hU (by omega) (.inl a1) (by omega) a1 rfl) (I.next hle r0 r1) fit_up (by kernel_rfl) (by kernel_rfl)
    · by_cases a2:vA s num e = e.term
      · by_cases a3:vB s num < e.idx
        · exact up (vUpEqLt c h1 hU (by omega) (.inr ⟨a2,by rw [el]; omega⟩) (by omega) a1 a2 a3 rfl) (I.next hle r0 r1) fit_up (by kernel_rfl) (by kernel_rfl)
        · exact up (vUpEqGe c h1 hU (by omega) (by rw [el]; omega) (by omega) a1 a2 a3 rfl) (I.next hle (Int.le_refl _) (by omega)) fit_upv (by kernel_rfl) (by kernel_rfl)
      · exact up (vUpGt c h1 hU (by omega) (by omega) (by omega) a1 a2 rfl) (I.next hle (Int.le_refl _) (by omega)) fit_upv (by kernel_rfl) (by kernel_rfl)
  · by_cases hL:vT s num < s.term
    · exact up (vLow c h1 hU hL (by omega)) I.same fit_same (by kernel_rfl) (by kernel_rfl)
    · have hge:s.term ≤ vT s num:=by omega
      cases hv:s.voted with
      | none=>
        have v0:(!s.voted.isNone) = false:=by rw [hv]; rfl
        by_cases a1:vA s num e < e.term
        · exact up (vEqNLt c h1 hU hL v0 (.inl a1) hge a1) I.same fit_same (by kernel_rfl) (by kernel_rfl)
        · by_cases a2:vA s num e = e.term
          · by_cases a3:vB s num < e.idx
            · exact up (vEqNEqLt c h1 hU hL v0 (.inr ⟨a2,by rw [el]; omega⟩) hge a1 a2 a3) I.same fit_same (by kernel_rfl) (by kernel_rfl)
            · exact up (vEqNEqGe c h1 hU hL v0 (by rw [el]; omega) hge a1 a2 a3 rfl) (I.next (Int.le_refl _) (Int.le_refl _) (by omega)) fit_v (by kernel_rfl) (by kernel_rfl)
          · exact up (vEqNGt c h1 hU hL v0 (by omega) hge a1 a2 rfl) (I.next (Int.le_refl _) (Int.le_refl _) (by omega)) fit_v (by kernel_rfl) (by kernel_rfl)
      | some w=>
        have v1:(!s.voted.isNone) = true:=by rw [hv]; rfl
        by_cases a1:vA s num e < e.term
        · exact up (vEqVLt c h1 hU hL v1 hge a1) I.same fit_same (by kernel_rfl) (by kernel_rfl)
        · by_cases a2:vA s num e = e.term
          · by_cases a3:vB s num < e.idx
            · exact up (vEqVEqLt c h1 hU hL v1 hge a1 a2 a3) I.same fit_same (by kernel_rfl) (by kernel_rfl)
            · exact up (vEqVEqGe c h1 hU hL v1 hge a1 a2 a3) I.same fit_same (by kernel_rfl) (by kernel_rfl)
          · exact up (vEqVGt c h1 hU hL v1 hge a1 a2) I.same fit_same (by kernel_rfl) (by kernel_rfl)
theorem late_turn (ok:X.Ok (K P)) (I:Inv j s) (hj:j ≤ 40) (h1:num.fmod 6 = 5):TurnR X P j num s:=by
  obtain ⟨⟨n1,n2⟩,who,hw⟩:=I.who num
  obtain ⟨e,he1,he2,he3,he4⟩:=I.last
  have c:=I.com (by omega) hw he4
  exact TurnG.of (ro ok 190) (lawNm P) (late (j:=(j:Int)) c (by omega) (by omega) (by omega) (by omega)) I.same fit_same (by kernel_rfl) (by kernel_rfl)
end
end Mine
namespace Mine
section
variable {X:Cx} {P:Params} {s:S} {num:Int} {j:Nat}
theorem ck_le {a b:AObj} (h:OLe a b):Ss (ckS s num a) (ckS s num b):=
  .cons OLe.refl (.cons OLe.refl (.cons OLe.refl (.cons OLe.refl (.cons OLe.refl (.cons OLe.refl (.cons OLe.refl (.cons OLe.refl (.cons OLe.refl (.cons OLe.refl (.cons OLe.refl (.cons OLe.refl (.cons OLe.refl (.cons OLe.refl (.cons OLe.refl (.cons OLe.refl (.cons OLe.refl (.cons OLe.refl (.cons OLe.refl (.cons h .nil)))))))))))))))))))
theorem C0 (ok:X.Ok (K P)) (I:Inv j s) {jj:Int} {who:Str} {e:Ent} (c:Com s num who e) {l:List AV} (hl:s.nl = l) :
    XsOk X 189 (fdAt (K P) 1109) (ckF0 jj num) (stA P 1109 1092) (ckS s num (.slist s.nl)) 29 .next (ckF1 jj num who) (ckS s num (.list l)) 29:=by
  have hs:NLS (ckS s num (.slist s.nl)):=by
    have hn:=I.nln
    repeat (first | exact NLS.nil | refine NLS.log ?_ | refine NLS.don ?_ | refine NLS.nm hn ?_ | refine NLS.no (fun l e=>by cases e) ?_)
  exact ctr ok (by kernel_rfl) [] (c0_0 (j:=jj) c) (Nat.le_refl _) (by kernel_rfl) (by kernel_rfl) (by kernel_rfl) (by kernel_rfl) hs (As.rfl' _) (ck_le (hl ▸ OLe.hard))
theorem fit_crash {l:List AV}:Fit ({ qOf s with term:=.si s.term,oterm:=.si s.term,leader:=.none,oleader:=.none,dead:=.si (s.now + 400),commit:=.int 1,at1:=.int 1,ocommit:=.int 1,oat:=.int 1,lst:=.si s.now,lc:=.none,orc:=.bool false,st:=.si s.now,nd:=.int 0,oreset:=.si s.now,done:=.list [],odone:=.list [],nl:=.list l })
    { s with leader:=none,commit:=1,at1:=1,done:=[],lst:=s.now,lc:=none,orc:=false,st:=s.now,nd:=0,reset:=s.now,nl:=l }:=
  { leader:=AVle.son,oleader:=AVle.son,commit:=AVle.int,at1:=AVle.int,ocommit:=AVle.int,oat:=AVle.int,lc:=AVle.ion,orc:=AVle.bool,nd:=AVle.int,done:=.inr rfl,odone:=.inr rfl,nl:=.inr rfl }
theorem Inv.crash (I:Inv j s) {l:List AV} (hl:s.nl = l):Inv (j + 1) { s with leader:=none,commit:=1,at1:=1,done:=[],lst:=s.now,lc:=none,orc:=false,st:=s.now,nd:=0,reset:=s.now,nl:=l }:=
  { nl:=hl ▸ I.nl,log:=I.log,ne:=I.ne,ln:=by have:=I.ln; show s.log.length ≤ _; omega,now0:=I.now0,now1:=by have:=I.now1; show s.now ≤ _; omega,res0:=Int.le_refl _,res1:=by show s.now ≤ s.now + 399; omega,lst0:=I.now0,lst1:=Int.le_refl _,at1:=Int.le_refl _,cm0:=Int.le_refl _,cm1:=by have:=I.ne; show (1:Int) ≤ (s.log.length:Int); omega,dn:=Nat.zero_le _ }
set_option maxHeartbeats 1000000 in
theorem crash_turn (ok:X.Ok (K P)) (I:Inv j s) (hj:j ≤ 40) (h1:num.fmod 6 = 4):TurnR X P j num s:=by
  obtain ⟨⟨n1,n2⟩,who,hw⟩:=I.who num
  obtain ⟨e,he1,he2,he3,he4⟩:=I.last
  have c:=I.com (by omega) hw he4
  have el:len (s.log.map entA) = (s.log.length:Int):=by show ((s.log.map entA).length:Int) = _; rw [List.length_map]
  have hl:=I.ln
  have hne:=I.ne
  have hM:(if s.term < e.term then e.term else s.term) = s.term:=if_neg (by omega)
  obtain ⟨k,hk,hnl⟩:=I.nl
  have x1:0 ≤ len (s.log.map entA)∧len (s.log.map entA) < 2 ^ 63:=by rw [el]; omega
  have x2:¬ (len (s.log.map entA) = 0):=by rw [el]; omega
  match k,hk with
  | 0,_=>
    have hnl:s.nl = [.str ⟨⟨[98]⟩⟩,.str ⟨⟨[99]⟩⟩]:=hnl
    have c0:=C0 (jj:=(j:Int)) ok I c hnl
    have run:=crash0 (j:=(j:Int)) c c0 (by omega) (by omega) (by omega) h1 x1 x2 rfl hM.symm
    rw [hM] at run
    have I':=I.crash hnl
    have f:=fit_crash (s:=s) (l:=s.nl)
    rw [hnl] at f
    have t:=TurnG.of (ro ok 190) (lawNm P) run I'
    exact t f (by kernel_rfl) (by kernel_rfl)
  | 1,_=>
    have hnl:s.nl = [.str ⟨⟨[98]⟩⟩,.str ⟨⟨[99]⟩⟩,.str ⟨⟨[100]⟩⟩]:=hnl
    have c0:=C0 (jj:=(j:Int)) ok I c hnl
    have run:=crash1 (j:=(j:Int)) c c0 (by omega) (by omega) (by omega) h1 x1 x2 rfl hM.symm
    rw [hM] at run
    have I':=I.crash hnl
    have f:=fit_crash (s:=s) (l:=s.nl)
    rw [hnl] at f
    have t:=TurnG.of (ro ok 190) (lawNm P) run I'
    exact t f (by kernel_rfl) (by kernel_rfl)
  | 2,_=>
    have hnl:s.nl = [.str ⟨⟨[98]⟩⟩,.str ⟨⟨[99]⟩⟩,.str ⟨⟨[100]⟩⟩,.str ⟨⟨[101]⟩⟩]:=hnl
    have c0:=C0 (jj:=(j:Int)) ok I c hnl
    have run:=crash2 (j:=(j:Int)) c c0 (by omega) (by omega) (by omega) h1 x1 x2 rfl hM.symm
    rw [hM] at run
    have I':=I.crash hnl
    have f:=fit_crash (s:=s) (l:=s.nl)
    rw [hnl] at f
    have t:=TurnG.of (ro ok 190) (lawNm P) run I'
    exact t f (by kernel_rfl) (by kernel_rfl)
end
end Mine
namespace Mine
/-- the vote behind entries of a term -/
noncomputable def tv (s:S) (t:Int):Option Str:=if s.term < t then none else s.voted
theorem tv_up {s:S} {t:Int} (h:s.term < t):tv s t = none:=if_pos h
theorem tv_eq {s:S} {t:Int} (h:¬ s.term < t):tv s t = s.voted:=if_neg h
theorem As.rfl'' {κ:Type}:∀ l:List (κ × AV),As l l
  | []=>.nil
  | _ :: l=>.cons AVle.refl (As.rfl'' l)
theorem XsOk.post {X:Cx} {d:Nat} {fd:FuncData} {F F':Frame} {s:Stmt} {σ σ' σ'':Store} {nx nx':Nat} (h:XsOk X d fd F s σ nx .next F' σ' nx') (hS:Ss σ' σ''):XsOk X d fd F s σ nx .next F' σ'' nx':=by
  refine xsMk fun p=>wpAny_mono (xsGo h p) (fun fl s1 z=>?_) fun _ _ z=>z
  obtain ⟨φ,F2,J2,ρ2,σ2,n2,E2,R2,x2,q1,q2,q3,q4⟩:=z
  subst q1 q2 q3 q4
  cases fl <;> first | exact x2.elim | skip
  exact ⟨.next,F2,J2,ρ2,σ'',n2,E2,R2.soft (As.rfl' _) hS,trivial,rfl,rfl,rfl,rfl⟩
theorem jour_le {jl t:AV}:OLe (jourA jl t .none) (jourA jl t (.so none)):=OLe.inst (As.cons AVle.refl (As.cons AVle.refl (As.cons AVle.refl (As.cons AVle.refl (As.cons AVle.son As.nil)))))
theorem nodv_le {wr t l d c a lst lc orc st nd:AV}:OLe (nodeA wr t .none l d c a lst lc orc st nd) (nodeA wr t (.so none) l d c a lst lc orc st nd):=OLe.inst (As.cons AVle.refl (As.cons AVle.refl (As.cons AVle.refl (As.cons AVle.refl (As.cons AVle.refl (As.cons AVle.refl (As.cons AVle.refl (As.cons AVle.refl (As.cons AVle.son (As.cons AVle.refl (As.cons AVle.refl (As.cons AVle.refl (As.cons AVle.refl (As.cons AVle.refl (As.cons AVle.refl (As.cons AVle.refl (As.cons AVle.refl (As.cons AVle.refl (As.cons AVle.refl (As.cons AVle.refl (As.cons AVle.refl (As.cons AVle.refl (As.cons AVle.refl (As.cons AVle.refl (As.cons AVle.refl (As.cons AVle.refl (As.cons AVle.refl (As.cons AVle.refl (As.cons AVle.refl (As.cons AVle.refl (As.cons AVle.refl (As.cons AVle.refl (As.cons AVle.refl (As.cons AVle.refl (As.cons AVle.refl (As.cons AVle.refl (As.cons AVle.refl (As.cons AVle.refl (As.cons AVle.refl As.nil)))))))))))))))))))))))))))))))))))))))
theorem ownv_le {od ol t c a l n r:AV}:OLe (ownA od ol t .none c a l n r) (ownA od ol t (.so none) c a l n r):=OLe.dict (As.cons AVle.refl (As.cons AVle.son (As.rfl'' _)))
theorem ownl_le {od ol t v c a n r:AV} {who:Str}:OLe (ownA od ol t v c a (.ss who) n r) (ownA od ol t v c a (.so (some who)) n r):=OLe.dict (As.cons AVle.refl (As.cons AVle.refl (As.cons AVle.refl (As.cons AVle.refl (As.cons AVle.refl (As.cons AVle.refl (As.cons AVle.sos (As.rfl'' _))))))))
theorem ans_le {x:AV} {r u:Bool}:OLe (ansA x (.bool r) (.bool u)) (ansA x (.sb r) (.sb u)):=OLe.dict (As.cons AVle.refl (As.cons AVle.refl (As.cons AVle.bool (As.cons AVle.bool (As.rfl'' _)))))
set_option maxHeartbeats 0 in
theorem K2 {X:Cx} {P:Params} {s:S} {j t p a b:Int} {who:Str} {es:List Ent} (ok:X.Ok (K P)) (hn:NLn s) (h:¬ t < s.term) :
    XsOk X 183 (fdAt (K P) 1102) [(n_own,.loc 14),(n_box,.loc 27),(n_who,.ss who),(n_count,.si j),(n_log,.loc 15),(n_term,.si t),(n_place,.si p),(n_ahead,.si a),(n_entries,.loc 29),(n_commit,.si (eC s b)),(n_message,.loc 31)] (stA P 1102 1071) ((31,msgA s t p a b) :: (30,.slist (es.map entA)) :: (29,.slist (es.map entA)) :: (28,.list []) :: (27,.list [.si (eD s b)]) :: (0,jourA (.loc 1) (.si s.term) (.so s.voted)) :: (1,.slist (s.log.map entA)) :: sA s ((7,nodeA (.loc 13) (.si s.term) (.so s.voted) (.so s.leader) (.si (s.reset + 400)) (.si s.commit) (.si s.at1) (.si s.lst) (.io s.lc) (.sb s.orc) (.si s.st) (.si s.nd)) :: sB ((13,.edict) :: (14,ownA (.loc 16) (.loc 15) (.si s.term) (.so s.voted) (.si s.commit) (.si s.at1) (.so s.leader) (.si s.now) (.si s.reset)) :: (15,.slist (s.log.map entA)) :: sC s))) 32 .next [(n_own,.loc 14),(n_box,.loc 27),(n_who,.ss who),(n_count,.si j),(n_log,.loc 15),(n_term,.si t),(n_place,.si p),(n_ahead,.si a),(n_entries,.loc 29),(n_commit,.si (eC s b)),(n_message,.loc 31)] ((31,msgA s t p a b) :: (30,.slist (es.map entA)) :: (29,.slist (es.map entA)) :: (28,.list []) :: (27,.list [.si (eD s b)]) :: (0,jourA (.loc 1) (.si s.term) (.so s.voted)) :: (1,.slist (s.log.map entA)) :: sA s ((7,nodeA (.loc 13) (.si s.term) (.so s.voted) (.so s.leader) (.si (s.reset + 400)) (.si s.commit) (.si s.at1) (.si s.lst) (.io s.lc) (.sb s.orc) (.si s.st) (.si s.nd)) :: sB ((13,.edict) :: (14,ownA (.loc 16) (.loc 15) (.si t) (.so (tv s t)) (.si s.commit) (.si s.at1) (.so s.leader) (.si s.now) (.si s.reset)) :: (15,.slist (s.log.map entA)) :: sC s))) 32:=by
  have hs:NLS ((31,msgA s t p a b) :: (30,.slist (es.map entA)) :: (29,.slist (es.map entA)) :: (28,.list []) :: (27,.list [.si (eD s b)]) :: (0,jourA (.loc 1) (.si s.term) (.so s.voted)) :: (1,.slist (s.log.map entA)) :: sA s ((7,nodeA (.loc 13) (.si s.term) (.so s.voted) (.so s.leader) (.si (s.reset + 400)) (.si s.commit) (.si s.at1) (.si s.lst) (.io s.lc) (.sb s.orc) (.si s.st) (.si s.nd)) :: sB ((13,.edict) :: (14,ownA (.loc 16) (.loc 15) (.si t) (.none) (.si s.commit) (.si s.at1) (.so s.leader) (.si s.now) (.si s.reset)) :: (15,.slist (s.log.map entA)) :: sC s))):=(by repeat (first | exact NLS.nil | refine NLS.log ?_ | refine NLS.don ?_ | refine NLS.nm hn ?_ | refine NLS.no (fun l e=>by cases e) ?_))
  have hs':NLS ((31,msgA s t p a b) :: (30,.slist (es.map entA)) :: (29,.slist (es.map entA)) :: (28,.list []) :: (27,.list [.si (eD s b)]) :: (0,jourA (.loc 1) (.si s.term) (.so s.voted)) :: (1,.slist (s.log.map entA)) :: sA s ((7,nodeA (.loc 13) (.si s.term) (.so s.voted) (.so s.leader) (.si (s.reset + 400)) (.si s.commit) (.si s.at1) (.si s.lst) (.io s.lc) (.sb s.orc) (.si s.st) (.si s.nd)) :: sB ((13,.edict) :: (14,ownA (.loc 16) (.loc 15) (.si s.term) (.so s.voted) (.si s.commit) (.si s.at1) (.so s.leader) (.si s.now) (.si s.reset)) :: (15,.slist (s.log.map entA)) :: sC s))):=(by repeat (first | exact NLS.nil | refine NLS.log ?_ | refine NLS.don ?_ | refine NLS.nm hn ?_ | refine NLS.no (fun l e=>by cases e) ?_))
  by_cases hl:s.term < t
  · rw [tv_up hl]
    exact ctr ok (by kernel_rfl) [] (k2a hl) (Nat.le_refl _) (by kernel_rfl) (by kernel_rfl) (by kernel_rfl) (by kernel_rfl) hs (As.rfl' _) (Ss.cons OLe.refl (Ss.cons OLe.refl (Ss.cons OLe.refl (Ss.cons OLe.refl (Ss.cons OLe.refl (Ss.cons OLe.refl (Ss.cons OLe.refl (Ss.cons OLe.refl (Ss.cons OLe.refl (Ss.cons OLe.refl (Ss.cons OLe.refl (Ss.cons OLe.refl (Ss.cons OLe.refl (Ss.cons OLe.refl (Ss.cons OLe.refl (Ss.cons OLe.refl (Ss.cons OLe.refl (Ss.cons OLe.refl (Ss.cons OLe.refl (Ss.cons ownv_le (Ss.rfl' _)))))))))))))))))))))
  · obtain rfl:t = s.term:=by omega
    rw [tv_eq hl]
    exact ctr ok (by kernel_rfl) [] (k2b hl) (Nat.le_refl _) (by kernel_rfl) (by kernel_rfl) (by kernel_rfl) (by kernel_rfl) hs' (As.rfl' _) (Ss.rfl' _)
set_option maxHeartbeats 0 in
theorem N1 {X:Cx} {P:Params} {s:S} {t p a b cm x:Int} {who:Str} {es ol:List Ent} {r u:Bool} (ok:X.Ok (K P)) (hn:NLn s)  :
    XsOk X 179 (fdAt (K P) 856) (fr3 who) (stA P 856 672) (kaS1 s t p a b es who (.si cm) (.so (tv s t)) (.so (some who)) (ol.map entA) (.si x) (.sb r) (.sb u)) 34 .next (fr3 who) (kaS1 s t p a b es who (.si cm) (.so (tv s t)) (.so (some who)) (ol.map entA) (.si x) (.sb r) (.sb u)) 34:=by
  have hs:NLS (kaS1 s t p a b es who (.si cm) (.so (tv s t)) (.so (some who)) (ol.map entA) (.si x) (.sb r) (.sb u)):=(by repeat (first | exact NLS.nil | refine NLS.log ?_ | refine NLS.don ?_ | refine NLS.nm hn ?_ | refine NLS.no (fun l e=>by cases e) ?_))
  by_cases hl:s.term < t
  · exact ctr ok (by kernel_rfl) [] (n1a hl) (Nat.le_refl _) (by kernel_rfl) (by kernel_rfl) (by kernel_rfl) (by kernel_rfl) hs (As.rfl' _) (Ss.rfl' _)
  · exact ctr ok (by kernel_rfl) [] (n1b hl) (Nat.le_refl _) (by kernel_rfl) (by kernel_rfl) (by kernel_rfl) (by kernel_rfl) hs (As.rfl' _) (Ss.rfl' _)
set_option maxHeartbeats 0 in
theorem N2 {X:Cx} {P:Params} {s:S} {t p a b cm x:Int} {who:Str} {es ol:List Ent} {r u:Bool} (ok:X.Ok (K P)) (hn:NLn s)  :
    XsOk X 179 (fdAt (K P) 856) (fr3 who) (stA P 856 676) ((33,.slist (ol.map entA)) :: (32,ansA (.si x) (.sb r) (.sb u)) :: (31,.list [.tup [.ss who,.loc 32]]) :: (30,.slist (es.map entA)) :: (29,msgA s t p a b) :: (0,jourA (.loc 1) (.si s.term) (.so s.voted)) :: (1,.slist (s.log.map entA)) :: sA s ((7,nodeB s (.loc 13) (.si s.term) (.so s.voted) (.so s.leader) (.si s.commit) (.io s.lc)) :: sB ((13,.edict) :: (14,ownA (.loc 16) (.loc 33) (.si t) (.so (tv s t)) (.si cm) (.si s.at1) (.so (some who)) (.si s.now) (.si s.now)) :: sC s))) 34 .next (fr3 who) ((34,.edict) :: (33,.slist (ol.map entA)) :: (32,ansA (.si x) (.sb r) (.sb u)) :: (31,.list [.tup [.ss who,.loc 32]]) :: (30,.slist (es.map entA)) :: (29,msgA s t p a b) :: (0,jourA (.loc 1) (.si s.term) (.so s.voted)) :: (1,.slist (s.log.map entA)) :: sA s ((7,nodeB s (.loc 34) (.si s.term) (.so s.voted) (.so s.leader) (.si s.commit) (.io s.lc)) :: sB ((14,ownA (.loc 16) (.loc 33) (.si t) (.so (tv s t)) (.si cm) (.si s.at1) (.so (some who)) (.si s.now) (.si s.now)) :: sC s))) 35:=by
  have hs:NLS ((34,.edict) :: (33,.slist (ol.map entA)) :: (32,ansA (.si x) (.sb r) (.sb u)) :: (31,.list [.tup [.ss who,.loc 32]]) :: (30,.slist (es.map entA)) :: (29,msgA s t p a b) :: (0,jourA (.loc 1) (.si s.term) (.so s.voted)) :: (1,.slist (s.log.map entA)) :: sA s ((7,nodeB s (.loc 34) (.si s.term) (.so s.voted) (.so s.leader) (.si s.commit) (.io s.lc)) :: sB ((14,ownA (.loc 16) (.loc 33) (.si t) (.so (tv s t)) (.si cm) (.si s.at1) (.so (some who)) (.si s.now) (.si s.now)) :: sC s))):=(by repeat (first | exact NLS.nil | refine NLS.log ?_ | refine NLS.don ?_ | refine NLS.nm hn ?_ | refine NLS.no (fun l e=>by cases e) ?_))
  cases hb:(!decide (s.leader = some who)) with
  | true=>exact ctr ok (by kernel_rfl) [0,1,2,3,4,5,6,7,8,9,10,11,12,13,14,15,16,17,18,19,20,21,22,23,24,25,26,27,28,29,30,31,32,33,35] (n2a hb) (by omega) (by kernel_rfl) (by kernel_rfl) (by kernel_rfl) (by kernel_rfl) hs (As.rfl' _) (Ss.rfl' _)
  | false=>exact ctr ok (by kernel_rfl) [0,1,2,3,4,5,6,7,8,9,10,11,12,13,14,15,16,17,18,19,20,21,22,23,24,25,26,27,28,29,30,31,32,33,13] (n2b hb) (by omega) (by kernel_rfl) (by kernel_rfl) (by kernel_rfl) (by kernel_rfl) hs (As.rfl' _) (Ss.rfl' _)
set_option maxHeartbeats 0 in
theorem N3 {X:Cx} {P:Params} {s:S} {t p a b cm x:Int} {who:Str} {es ol:List Ent} {r u:Bool} (ok:X.Ok (K P)) (hn:NLn s) (h:¬ t < s.term) :
    XsOk X 179 (fdAt (K P) 856) (fr3 who) (stA P 856 679) ((34,.edict) :: (33,.slist (ol.map entA)) :: (32,ansA (.si x) (.sb r) (.sb u)) :: (31,.list [.tup [.ss who,.loc 32]]) :: (30,.slist (es.map entA)) :: (29,msgA s t p a b) :: (0,jourA (.loc 1) (.si s.term) (.so s.voted)) :: (1,.slist (s.log.map entA)) :: sA s ((7,nodeB s (.loc 34) (.si s.term) (.so s.voted) (.ss who) (.si s.commit) (.io s.lc)) :: sB ((14,ownA (.loc 16) (.loc 33) (.si t) (.so (tv s t)) (.si cm) (.si s.at1) (.so (some who)) (.si s.now) (.si s.now)) :: sC s))) 35 .next (fr3 who) ((34,.edict) :: (33,.slist (ol.map entA)) :: (32,ansA (.si x) (.sb r) (.sb u)) :: (31,.list [.tup [.ss who,.loc 32]]) :: (30,.slist (es.map entA)) :: (29,msgA s t p a b) :: (0,jourA (.loc 1) (.si t) (.so (tv s t))) :: (1,.slist (s.log.map entA)) :: sA s ((7,nodeA (.loc 34) (.si t) (.so (tv s t)) (.ss who) (.si (s.now + 400)) (.si s.commit) (.si s.at1) (.si s.lst) (.io s.lc) (.sb s.orc) (.si s.st) (.si s.nd)) :: sB ((14,ownA (.loc 16) (.loc 33) (.si t) (.so (tv s t)) (.si cm) (.si s.at1) (.so (some who)) (.si s.now) (.si s.now)) :: sC s))) 35:=by
  have hs:NLS ((34,.edict) :: (33,.slist (ol.map entA)) :: (32,ansA (.si x) (.sb r) (.sb u)) :: (31,.list [.tup [.ss who,.loc 32]]) :: (30,.slist (es.map entA)) :: (29,msgA s t p a b) :: (0,jourA (.loc 1) (.si t) (.none)) :: (1,.slist (s.log.map entA)) :: sA s ((7,nodeB s (.loc 34) (.si t) (.none) (.ss who) (.si s.commit) (.io s.lc)) :: sB ((14,ownA (.loc 16) (.loc 33) (.si t) (.so (tv s t)) (.si cm) (.si s.at1) (.so (some who)) (.si s.now) (.si s.now)) :: sC s))):=(by repeat (first | exact NLS.nil | refine NLS.log ?_ | refine NLS.don ?_ | refine NLS.nm hn ?_ | refine NLS.no (fun l e=>by cases e) ?_))
  have hs':NLS ((34,.edict) :: (33,.slist (ol.map entA)) :: (32,ansA (.si x) (.sb r) (.sb u)) :: (31,.list [.tup [.ss who,.loc 32]]) :: (30,.slist (es.map entA)) :: (29,msgA s t p a b) :: (0,jourA (.loc 1) (.si s.term) (.so s.voted)) :: (1,.slist (s.log.map entA)) :: sA s ((7,nodeB s (.loc 34) (.si s.term) (.so s.voted) (.ss who) (.si s.commit) (.io s.lc)) :: sB ((14,ownA (.loc 16) (.loc 33) (.si t) (.so (tv s t)) (.si cm) (.si s.at1) (.so (some who)) (.si s.now) (.si s.now)) :: sC s))):=(by repeat (first | exact NLS.nil | refine NLS.log ?_ | refine NLS.don ?_ | refine NLS.nm hn ?_ | refine NLS.no (fun l e=>by cases e) ?_))
  by_cases hl:s.term < t
  · have run:=n3a (X:=X) (P:=P) (s:=s) (t:=t) (p:=p) (a:=a) (b:=b) (cm:=cm) (x:=x) (who:=who) (v:=tv s t) (es:=es) (ol:=ol) (r:=r) (u:=u) hl
    have z:=ctr ok (by kernel_rfl) [] (run) (Nat.le_refl _) (by kernel_rfl) (by kernel_rfl) (by kernel_rfl) (by kernel_rfl) hs (As.rfl' _) (Ss.rfl' _)
    rw [tv_up hl] at z ⊢
    exact z.post (Ss.cons OLe.refl (Ss.cons OLe.refl (Ss.cons OLe.refl (Ss.cons OLe.refl (Ss.cons OLe.refl (Ss.cons OLe.refl (Ss.cons jour_le (Ss.cons OLe.refl (Ss.cons OLe.refl (Ss.cons OLe.refl (Ss.cons OLe.refl (Ss.cons OLe.refl (Ss.cons OLe.refl (Ss.cons nodv_le (Ss.rfl' _)))))))))))))))
  · obtain rfl:t = s.term:=by omega
    have run:=n3b (X:=X) (P:=P) (s:=s) (t:=s.term) (p:=p) (a:=a) (b:=b) (cm:=cm) (x:=x) (who:=who) (v:=tv s s.term) (es:=es) (ol:=ol) (r:=r) (u:=u) hl
    have z:=ctr ok (by kernel_rfl) [] (run) (Nat.le_refl _) (by kernel_rfl) (by kernel_rfl) (by kernel_rfl) (by kernel_rfl) hs' (As.rfl' _) (Ss.rfl' _)
    rw [tv_eq hl] at z ⊢
    exact z
set_option maxHeartbeats 0 in
theorem N5 {X:Cx} {P:Params} {s:S} {t p a b cm x:Int} {who:Str} {e0:Ent} {es ol:List Ent} {r u:Bool} (ok:X.Ok (K P)) (hn:NLn s) (h0:e0.idx = 1) (hix:ix (s.log.map entA) 0 = some (entA e0)) (hp:1 ≤ p) (hpl:p ≤ (s.log.length:Int)) (hsz:s.log.length ≤ 100000) :
    XsOk X 178 (fdAt (K P) 856) (frE (eC s b) p a who []) (stA P 856 695) ((36,.slist (cut (s.log.map entA) (some (p - e0.idx)) none)) :: (35,.list []) :: (34,.edict) :: (33,.slist (ol.map entA)) :: (32,ansA (.si x) (.sb r) (.sb u)) :: (31,.list [.tup [.ss who,.loc 32]]) :: (30,.slist (es.map entA)) :: (29,msgA s t p a b) :: (0,jourA (.loc 1) (.si t) (.so (tv s t))) :: (1,.slist (s.log.map entA)) :: sA s ((7,nodeA (.loc 34) (.si t) (.so (tv s t)) (.ss who) (.si (s.now + 400)) (.si s.commit) (.si s.at1) (.si s.lst) (.si (eC s b)) (.sb s.orc) (.si s.st) (.si s.nd)) :: sB ((14,ownA (.loc 16) (.loc 33) (.si t) (.so (tv s t)) (.si cm) (.si s.at1) (.so (some who)) (.si s.now) (.si s.now)) :: sC s))) 37 .next (frE (eC s b) p a who []) ((37,.slist ((s.log.take p.toNat).map entA)) :: (34,.edict) :: (33,.slist (ol.map entA)) :: (32,ansA (.si x) (.sb r) (.sb u)) :: (31,.list [.tup [.ss who,.loc 32]]) :: (30,.slist (es.map entA)) :: (29,msgA s t p a b) :: (0,jourA (.loc 37) (.si t) (.so (tv s t))) :: sA s ((7,nodeA (.loc 34) (.si t) (.so (tv s t)) (.ss who) (.si (s.now + 400)) (.si s.commit) (.si s.at1) (.si s.lst) (.si (eC s b)) (.sb s.orc) (.si s.st) (.si s.nd)) :: sB ((14,ownA (.loc 16) (.loc 33) (.si t) (.so (tv s t)) (.si cm) (.si s.at1) (.so (some who)) (.si s.now) (.si s.now)) :: sC s))) 38:=by
  have hs:NLS ((37,.slist ((s.log.take p.toNat).map entA)) :: (34,.edict) :: (33,.slist (ol.map entA)) :: (32,ansA (.si x) (.sb r) (.sb u)) :: (31,.list [.tup [.ss who,.loc 32]]) :: (30,.slist (es.map entA)) :: (29,msgA s t p a b) :: (0,jourA (.loc 37) (.si t) (.so (tv s t))) :: sA s ((7,nodeA (.loc 34) (.si t) (.so (tv s t)) (.ss who) (.si (s.now + 400)) (.si s.commit) (.si s.at1) (.si s.lst) (.si (eC s b)) (.sb s.orc) (.si s.st) (.si s.nd)) :: sB ((14,ownA (.loc 16) (.loc 33) (.si t) (.so (tv s t)) (.si cm) (.si s.at1) (.so (some who)) (.si s.now) (.si s.now)) :: sC s))):=(by repeat (first | exact NLS.nil | refine NLS.log ?_ | refine NLS.don ?_ | refine NLS.nm hn ?_ | refine NLS.no (fun l e=>by cases e) ?_))
  have el:len (cut (List.map entA s.log) (some (p - e0.idx)) none) = (s.log.length:Int) - (p - 1):=by
    show ((cut (List.map entA s.log) (some (p - e0.idx)) none).length:Int) = _
    rw [cut_from (by omega),List.length_map,List.length_drop]
    omega
  have hc:(cut (List.map entA s.log) (some (p - e0.idx)) none).length < 2 ^ 62:=by
    have:((cut (List.map entA s.log) (some (p - e0.idx)) none).length:Int) = (s.log.length:Int) - (p - 1):=el
    omega
  by_cases h1:1 < len (cut (List.map entA s.log) (some (p - e0.idx)) none)
  · have run:=n5a (e0:=e0) (X:=X) (P:=P) (s:=s) (t:=t) (p:=p) (a:=a) (b:=b) (cm:=cm) (x:=x) (who:=who) (v:=tv s t) (es:=es) (ol:=ol) (r:=r) (u:=u) hc h1 ⟨by rw [List.length_map]; omega,_,hix,.refl _⟩ (by omega) (size_ok (by rw [List.length_map]; omega))
    rw [cut_to (by omega),show p + 1 - e0.idx = p by omega] at run
    exact ctr ok (by kernel_rfl) [0,1,2,3,4,5,6,7,8,9,10,11,12,13,14,15,16,17,18,19,20,21,22,23,24,25,26,27,28,29,30,31,32,33,34,35,36,37] (run) (by omega) (by kernel_rfl) (by kernel_rfl) (by kernel_rfl) (by kernel_rfl) hs (As.rfl' _) (Ss.rfl' _)
  · have run:=n5b (e0:=e0) (X:=X) (P:=P) (s:=s) (t:=t) (p:=p) (a:=a) (b:=b) (cm:=cm) (x:=x) (who:=who) (v:=tv s t) (es:=es) (ol:=ol) (r:=r) (u:=u) hc h1
    have e2:(s.log.take p.toNat) = s.log:=List.take_of_length_le (by omega)
    rw [e2] at hs ⊢
    exact ctr ok (by kernel_rfl) [0,1,2,3,4,5,6,7,8,9,10,11,12,13,14,15,16,17,18,19,20,21,22,23,24,25,26,27,28,29,30,31,32,33,34,35,36,1] (run) (by omega) (by kernel_rfl) (by kernel_rfl) (by kernel_rfl) (by kernel_rfl) hs (As.rfl' _) (Ss.rfl' _)
set_option maxHeartbeats 0 in
theorem N6 {X:Cx} {P:Params} {s:S} {t p a b cm x:Int} {who:Str} {es ol lp:List Ent} {r u:Bool} (ok:X.Ok (K P)) (hn:NLn s) (hl:es.length ≤ 3) (hsz:lp.length ≤ 10000) :
    XsOk X 178 (fdAt (K P) 856) (frE (eC s b) p a who []) (stA P 856 702) ((37,.slist (lp.map entA)) :: (34,.edict) :: (33,.slist (ol.map entA)) :: (32,ansA (.si x) (.sb r) (.sb u)) :: (31,.list [.tup [.ss who,.loc 32]]) :: (30,.slist (es.map entA)) :: (29,msgA s t p a b) :: (0,jourA (.loc 37) (.si t) (.so (tv s t))) :: sA s ((7,nodeA (.loc 34) (.si t) (.so (tv s t)) (.ss who) (.si (s.now + 400)) (.si s.commit) (.si s.at1) (.si s.lst) (.si (eC s b)) (.sb s.orc) (.si s.st) (.si s.nd)) :: sB ((14,ownA (.loc 16) (.loc 33) (.si t) (.so (tv s t)) (.si cm) (.si s.at1) (.so (some who)) (.si s.now) (.si s.now)) :: sC s))) 38 .next (frE (eC s b) p a who []) ((37,.slist ((lp ++ es).map entA)) :: (34,.edict) :: (33,.slist (ol.map entA)) :: (32,ansA (.si x) (.sb r) (.sb u)) :: (31,.list [.tup [.ss who,.loc 32]]) :: (30,.slist (es.map entA)) :: (29,msgA s t p a b) :: (0,jourA (.loc 37) (.si t) (.so (tv s t))) :: sA s ((7,nodeA (.loc 34) (.si t) (.so (tv s t)) (.ss who) (.si (s.now + 400)) (.si s.commit) (.si s.at1) (.si s.lst) (.si (eC s b)) (.sb s.orc) (.si s.st) (.si s.nd)) :: sB ((14,ownA (.loc 16) (.loc 33) (.si t) (.so (tv s t)) (.si cm) (.si s.at1) (.so (some who)) (.si s.now) (.si s.now)) :: sC s))) 38:=by
  match es,hl with
  | [],_=>
    have hs:NLS ((37,.slist (lp.map entA)) :: (34,.edict) :: (33,.slist (ol.map entA)) :: (32,ansA (.si x) (.sb r) (.sb u)) :: (31,.list [.tup [.ss who,.loc 32]]) :: (30,.list []) :: (29,msgA s t p a b) :: (0,jourA (.loc 37) (.si t) (.so (tv s t))) :: sA s ((7,nodeA (.loc 34) (.si t) (.so (tv s t)) (.ss who) (.si (s.now + 400)) (.si s.commit) (.si s.at1) (.si s.lst) (.si (eC s b)) (.sb s.orc) (.si s.st) (.si s.nd)) :: sB ((14,ownA (.loc 16) (.loc 33) (.si t) (.so (tv s t)) (.si cm) (.si s.at1) (.so (some who)) (.si s.now) (.si s.now)) :: sC s))):=by
      rw [show lp.map entA = (lp ++ []).map entA by simp]
      exact (by repeat (first | exact NLS.nil | refine NLS.log ?_ | refine NLS.don ?_ | refine NLS.nm hn ?_ | refine NLS.no (fun l e=>by cases e) ?_))
    have run:=n6_0 (X:=X) (P:=P) (s:=s) (t:=t) (p:=p) (a:=a) (b:=b) (cm:=cm) (x:=x) (who:=who) (v:=tv s t) (ol:=ol) (r:=r) (u:=u) (lp:=lp)
    rw [landI_K] at run
    have hk:okS 38 ((37,.slist (lp.map entA)) :: (34,.edict) :: (33,.slist (ol.map entA)) :: (32,ansA (.si x) (.sb r) (.sb u)) :: (31,.list [.tup [.ss who,.loc 32]]) :: (30,.list []) :: (29,msgA s t p a b) :: (0,jourA (.loc 37) (.si t) (.so (tv s t))) :: sA s ((7,nodeA (.loc 34) (.si t) (.so (tv s t)) (.ss who) (.si (s.now + 400)) (.si s.commit) (.si s.at1) (.si s.lst) (.si (eC s b)) (.sb s.orc) (.si s.st) (.si s.nd)) :: sB ((14,ownA (.loc 16) (.loc 33) (.si t) (.so (tv s t)) (.si cm) (.si s.at1) (.so (some who)) (.si s.now) (.si s.now)) :: sC s))) = true:=by
      have e:=okbs_ent 38 []
      simp only [List.map_cons,List.map_nil] at e
      simp only [okS,AObj.okb,e]
      kernel_rfl
    have z:=ctr ok (by kernel_rfl) [] (run) (Nat.le_refl _) (by kernel_rfl) (by kernel_rfl) hk (by kernel_rfl) hs (As.rfl' _) (Ss.rfl' _)
    exact (z.pre (As.rfl' _) (Ss.cons OLe.refl (Ss.cons OLe.refl (Ss.cons OLe.refl (Ss.cons OLe.refl (Ss.cons OLe.refl (Ss.cons OLe.hard (Ss.rfl' _)))))))).post (Ss.cons (OLe.eq (by simp)) (Ss.cons OLe.refl (Ss.cons OLe.refl (Ss.cons OLe.refl (Ss.cons OLe.refl (Ss.cons (OLe.slist (Ls.rfl' _)) (Ss.rfl' _)))))))
  | [e1],_=>
    have hs:NLS ((37,.slist ((lp.map entA ++ [entA e1]))) :: (34,.edict) :: (33,.slist (ol.map entA)) :: (32,ansA (.si x) (.sb r) (.sb u)) :: (31,.list [.tup [.ss who,.loc 32]]) :: (30,.list [entA e1]) :: (29,msgA s t p a b) :: (0,jourA (.loc 37) (.si t) (.so (tv s t))) :: sA s ((7,nodeA (.loc 34) (.si t) (.so (tv s t)) (.ss who) (.si (s.now + 400)) (.si s.commit) (.si s.at1) (.si s.lst) (.si (eC s b)) (.sb s.orc) (.si s.st) (.si s.nd)) :: sB ((14,ownA (.loc 16) (.loc 33) (.si t) (.so (tv s t)) (.si cm) (.si s.at1) (.so (some who)) (.si s.now) (.si s.now)) :: sC s))):=by
      rw [show (lp.map entA ++ [entA e1]) = (lp ++ [e1]).map entA by simp]
      exact (by repeat (first | exact NLS.nil | refine NLS.log ?_ | refine NLS.don ?_ | refine NLS.nm hn ?_ | refine NLS.no (fun l e=>by cases e) ?_))
    have run:=n6_1 (X:=X) (P:=P) (s:=s) (t:=t) (p:=p) (a:=a) (b:=b) (cm:=cm) (x:=x) (who:=who) (v:=tv s t) (ol:=ol) (r:=r) (u:=u) (lp:=lp) (e1:=e1) (size_ok (by simp; omega))
    rw [landI_K] at run
    have hk:okS 38 ((37,.slist ((lp.map entA ++ [entA e1]))) :: (34,.edict) :: (33,.slist (ol.map entA)) :: (32,ansA (.si x) (.sb r) (.sb u)) :: (31,.list [.tup [.ss who,.loc 32]]) :: (30,.list [entA e1]) :: (29,msgA s t p a b) :: (0,jourA (.loc 37) (.si t) (.so (tv s t))) :: sA s ((7,nodeA (.loc 34) (.si t) (.so (tv s t)) (.ss who) (.si (s.now + 400)) (.si s.commit) (.si s.at1) (.si s.lst) (.si (eC s b)) (.sb s.orc) (.si s.st) (.si s.nd)) :: sB ((14,ownA (.loc 16) (.loc 33) (.si t) (.so (tv s t)) (.si cm) (.si s.at1) (.so (some who)) (.si s.now) (.si s.now)) :: sC s))) = true:=by
      have e:=okbs_ent 38 [e1]
      simp only [List.map_cons,List.map_nil] at e
      simp only [okS,AObj.okb,e]
      kernel_rfl
    have z:=ctr ok (by kernel_rfl) [] (run) (Nat.le_refl _) (by kernel_rfl) (by kernel_rfl) hk (by kernel_rfl) hs (As.rfl' _) (Ss.rfl' _)
    exact (z.pre (As.rfl' _) (Ss.cons OLe.refl (Ss.cons OLe.refl (Ss.cons OLe.refl (Ss.cons OLe.refl (Ss.cons OLe.refl (Ss.cons OLe.hard (Ss.rfl' _)))))))).post (Ss.cons (OLe.eq (by simp)) (Ss.cons OLe.refl (Ss.cons OLe.refl (Ss.cons OLe.refl (Ss.cons OLe.refl (Ss.cons (OLe.slist (Ls.rfl' _)) (Ss.rfl' _)))))))
  | [e1,e2],_=>
    have hs:NLS ((37,.slist (((lp.map entA ++ [entA e1]) ++ [entA e2]))) :: (34,.edict) :: (33,.slist (ol.map entA)) :: (32,ansA (.si x) (.sb r) (.sb u)) :: (31,.list [.tup [.ss who,.loc 32]]) :: (30,.list [entA e1,entA e2]) :: (29,msgA s t p a b) :: (0,jourA (.loc 37) (.si t) (.so (tv s t))) :: sA s ((7,nodeA (.loc 34) (.si t) (.so (tv s t)) (.ss who) (.si (s.now + 400)) (.si s.commit) (.si s.at1) (.si s.lst) (.si (eC s b)) (.sb s.orc) (.si s.st) (.si s.nd)) :: sB ((14,ownA (.loc 16) (.loc 33) (.si t) (.so (tv s t)) (.si cm) (.si s.at1) (.so (some who)) (.si s.now) (.si s.now)) :: sC s))):=by
      rw [show ((lp.map entA ++ [entA e1]) ++ [entA e2]) = (lp ++ [e1,e2]).map entA by simp]
      exact (by repeat (first | exact NLS.nil | refine NLS.log ?_ | refine NLS.don ?_ | refine NLS.nm hn ?_ | refine NLS.no (fun l e=>by cases e) ?_))
    have run:=n6_2 (X:=X) (P:=P) (s:=s) (t:=t) (p:=p) (a:=a) (b:=b) (cm:=cm) (x:=x) (who:=who) (v:=tv s t) (ol:=ol) (r:=r) (u:=u) (lp:=lp) (e1:=e1) (e2:=e2) (size_ok (by simp; omega)) (size_ok (by simp; omega))
    rw [landI_K] at run
    have hk:okS 38 ((37,.slist (((lp.map entA ++ [entA e1]) ++ [entA e2]))) :: (34,.edict) :: (33,.slist (ol.map entA)) :: (32,ansA (.si x) (.sb r) (.sb u)) :: (31,.list [.tup [.ss who,.loc 32]]) :: (30,.list [entA e1,entA e2]) :: (29,msgA s t p a b) :: (0,jourA (.loc 37) (.si t) (.so (tv s t))) :: sA s ((7,nodeA (.loc 34) (.si t) (.so (tv s t)) (.ss who) (.si (s.now + 400)) (.si s.commit) (.si s.at1) (.si s.lst) (.si (eC s b)) (.sb s.orc) (.si s.st) (.si s.nd)) :: sB ((14,ownA (.loc 16) (.loc 33) (.si t) (.so (tv s t)) (.si cm) (.si s.at1) (.so (some who)) (.si s.now) (.si s.now)) :: sC s))) = true:=by
      have e:=okbs_ent 38 [e1,e2]
      simp only [List.map_cons,List.map_nil] at e
      simp only [okS,AObj.okb,e]
      kernel_rfl
    have z:=ctr ok (by kernel_rfl) [] (run) (Nat.le_refl _) (by kernel_rfl) (by kernel_rfl) hk (by kernel_rfl) hs (As.rfl' _) (Ss.rfl' _)
    exact (z.pre (As.rfl' _) (Ss.cons OLe.refl (Ss.cons OLe.refl (Ss.cons OLe.refl (Ss.cons OLe.refl (Ss.cons OLe.refl (Ss.cons OLe.hard (Ss.rfl' _)))))))).post (Ss.cons (OLe.eq (by simp)) (Ss.cons OLe.refl (Ss.cons OLe.refl (Ss.cons OLe.refl (Ss.cons OLe.refl (Ss.cons (OLe.slist (Ls.rfl' _)) (Ss.rfl' _)))))))
  | [e1,e2,e3],_=>
    have hs:NLS ((37,.slist ((((lp.map entA ++ [entA e1]) ++ [entA e2]) ++ [entA e3]))) :: (34,.edict) :: (33,.slist (ol.map entA)) :: (32,ansA (.si x) (.sb r) (.sb u)) :: (31,.list [.tup [.ss who,.loc 32]]) :: (30,.list [entA e1,entA e2,entA e3]) :: (29,msgA s t p a b) :: (0,jourA (.loc 37) (.si t) (.so (tv s t))) :: sA s ((7,nodeA (.loc 34) (.si t) (.so (tv s t)) (.ss who) (.si (s.now + 400)) (.si s.commit) (.si s.at1) (.si s.lst) (.si (eC s b)) (.sb s.orc) (.si s.st) (.si s.nd)) :: sB ((14,ownA (.loc 16) (.loc 33) (.si t) (.so (tv s t)) (.si cm) (.si s.at1) (.so (some who)) (.si s.now) (.si s.now)) :: sC s))):=by
      rw [show (((lp.map entA ++ [entA e1]) ++ [entA e2]) ++ [entA e3]) = (lp ++ [e1,e2,e3]).map entA by simp]
      exact (by repeat (first | exact NLS.nil | refine NLS.log ?_ | refine NLS.don ?_ | refine NLS.nm hn ?_ | refine NLS.no (fun l e=>by cases e) ?_))
    have run:=n6_3 (X:=X) (P:=P) (s:=s) (t:=t) (p:=p) (a:=a) (b:=b) (cm:=cm) (x:=x) (who:=who) (v:=tv s t) (ol:=ol) (r:=r) (u:=u) (lp:=lp) (e1:=e1) (e2:=e2) (e3:=e3) (size_ok (by simp; omega)) (size_ok (by simp; omega)) (size_ok (by simp; omega))
    rw [landI_K] at run
    have hk:okS 38 ((37,.slist ((((lp.map entA ++ [entA e1]) ++ [entA e2]) ++ [entA e3]))) :: (34,.edict) :: (33,.slist (ol.map entA)) :: (32,ansA (.si x) (.sb r) (.sb u)) :: (31,.list [.tup [.ss who,.loc 32]]) :: (30,.list [entA e1,entA e2,entA e3]) :: (29,msgA s t p a b) :: (0,jourA (.loc 37) (.si t) (.so (tv s t))) :: sA s ((7,nodeA (.loc 34) (.si t) (.so (tv s t)) (.ss who) (.si (s.now + 400)) (.si s.commit) (.si s.at1) (.si s.lst) (.si (eC s b)) (.sb s.orc) (.si s.st) (.si s.nd)) :: sB ((14,ownA (.loc 16) (.loc 33) (.si t) (.so (tv s t)) (.si cm) (.si s.at1) (.so (some who)) (.si s.now) (.si s.now)) :: sC s))) = true:=by
      have e:=okbs_ent 38 [e1,e2,e3]
      simp only [List.map_cons,List.map_nil] at e
      simp only [okS,AObj.okb,e]
      kernel_rfl
    have z:=ctr ok (by kernel_rfl) [] (run) (Nat.le_refl _) (by kernel_rfl) (by kernel_rfl) hk (by kernel_rfl) hs (As.rfl' _) (Ss.rfl' _)
    exact (z.pre (As.rfl' _) (Ss.cons OLe.refl (Ss.cons OLe.refl (Ss.cons OLe.refl (Ss.cons OLe.refl (Ss.cons OLe.refl (Ss.cons OLe.hard (Ss.rfl' _)))))))).post (Ss.cons (OLe.eq (by simp)) (Ss.cons OLe.refl (Ss.cons OLe.refl (Ss.cons OLe.refl (Ss.cons OLe.refl (Ss.cons (OLe.slist (Ls.rfl' _)) (Ss.rfl' _)))))))
  | _ :: _ :: _ :: _ :: _,h=>exact absurd h (by simp)
set_option maxHeartbeats 0 in
theorem N7 {X:Cx} {P:Params} {s:S} {t p a b cm x y:Int} {who:Str} {es ol lp:List Ent} {r u:Bool} (ok:X.Ok (K P)) (hn:NLn s) (hy:y = p + 1 + (es.length:Int)) (hi:∀ (k:Nat) (e:Ent),es[k]? = some e → e.idx = p + 1 + k) (hl:es.length ≤ 3) :
    XsOk X 178 (fdAt (K P) 856) (frE (eC s b) p a who [(n_nextNodeIdx,.si (p + 1))]) (stA P 856 710) ((37,.slist ((lp ++ es).map entA)) :: (34,.edict) :: (33,.slist (ol.map entA)) :: (32,ansA (.si x) (.sb r) (.sb u)) :: (31,.list [.tup [.ss who,.loc 32]]) :: (30,.slist (es.map entA)) :: (29,msgA s t p a b) :: (0,jourA (.loc 37) (.si t) (.so (tv s t))) :: sA s ((7,nodeA (.loc 34) (.si t) (.so (tv s t)) (.ss who) (.si (s.now + 400)) (.si s.commit) (.si s.at1) (.si s.lst) (.si (eC s b)) (.sb s.orc) (.si s.st) (.si s.nd)) :: sB ((14,ownA (.loc 16) (.loc 33) (.si t) (.so (tv s t)) (.si cm) (.si s.at1) (.so (some who)) (.si s.now) (.si s.now)) :: sC s))) 38 .next (frE (eC s b) p a who [(n_nextNodeIdx,.si y)]) ((37,.slist ((lp ++ es).map entA)) :: (34,.edict) :: (33,.slist (ol.map entA)) :: (32,ansA (.si x) (.sb r) (.sb u)) :: (31,.list [.tup [.ss who,.loc 32]]) :: (30,.slist (es.map entA)) :: (29,msgA s t p a b) :: (0,jourA (.loc 37) (.si t) (.so (tv s t))) :: sA s ((7,nodeA (.loc 34) (.si t) (.so (tv s t)) (.ss who) (.si (s.now + 400)) (.si s.commit) (.si s.at1) (.si s.lst) (.si (eC s b)) (.sb s.orc) (.si s.st) (.si s.nd)) :: sB ((14,ownA (.loc 16) (.loc 33) (.si t) (.so (tv s t)) (.si cm) (.si s.at1) (.so (some who)) (.si s.now) (.si s.now)) :: sC s))) 38:=by
  have hs:NLS ((37,.slist ((lp ++ es).map entA)) :: (34,.edict) :: (33,.slist (ol.map entA)) :: (32,ansA (.si x) (.sb r) (.sb u)) :: (31,.list [.tup [.ss who,.loc 32]]) :: (30,.slist (es.map entA)) :: (29,msgA s t p a b) :: (0,jourA (.loc 37) (.si t) (.so (tv s t))) :: sA s ((7,nodeA (.loc 34) (.si t) (.so (tv s t)) (.ss who) (.si (s.now + 400)) (.si s.commit) (.si s.at1) (.si s.lst) (.si (eC s b)) (.sb s.orc) (.si s.st) (.si s.nd)) :: sB ((14,ownA (.loc 16) (.loc 33) (.si t) (.so (tv s t)) (.si cm) (.si s.at1) (.so (some who)) (.si s.now) (.si s.now)) :: sC s))):=(by repeat (first | exact NLS.nil | refine NLS.log ?_ | refine NLS.don ?_ | refine NLS.nm hn ?_ | refine NLS.no (fun l e=>by cases e) ?_))
  by_cases h:es = []
  · have h2:(!(List.map entA es).isEmpty) = false:=by rw [h]; rfl
    obtain rfl:y = p + 1:=by rw [hy,h]; simp
    exact ctr ok (by kernel_rfl) [] (n7b (by rw [List.length_map]; omega) h2) (Nat.le_refl _) (by kernel_rfl) (by kernel_rfl) (by kernel_rfl) (by kernel_rfl) hs (As.rfl' _) (Ss.rfl' _)
  · have hlt:es.length - 1 < es.length:=by have:=List.length_pos_iff.mpr h; omega
    have h2:(!(List.map entA es).isEmpty) = true:=by cases es with | nil=>exact absurd rfl h | cons a l=>rfl
    have g:=hi _ _ (List.getElem?_eq_getElem hlt)
    have run:=n7a (e2:=es[es.length - 1]) (X:=X) (P:=P) (s:=s) (t:=t) (p:=p) (a:=a) (b:=b) (cm:=cm) (x:=x) (who:=who) (v:=tv s t) (es:=es) (ol:=ol) (r:=r) (u:=u) (lp:=lp) (by rw [List.length_map]; omega) h2 ⟨by rw [List.length_map]; omega,_,by rw [ix_last (by rw [List.length_map]; omega)]; simp [List.getElem?_map,List.getElem?_eq_getElem hlt]; rfl,.refl _⟩
    rw [show es[es.length - 1].idx + 1 = y by omega] at run
    exact ctr ok (by kernel_rfl) [] (run) (Nat.le_refl _) (by kernel_rfl) (by kernel_rfl) (by kernel_rfl) (by kernel_rfl) hs (As.rfl' _) (Ss.rfl' _)
set_option maxHeartbeats 0 in
theorem N8 {X:Cx} {P:Params} {s:S} {t p a b cm x y:Int} {who:Str} {es ol lp:List Ent} {r u:Bool} (ok:X.Ok (K P)) (hn:NLn s) (hne:1 ≤ (lp ++ es).length) (hsz:(lp ++ es).length ≤ 100000) (hi:∀ (k:Nat) (e:Ent),(lp ++ es)[k]? = some e → e.idx = (k:Int) + 1) :
    XsOk X 179 (fdAt (K P) 856) (frE (eC s b) p a who [(n_nextNodeIdx,.si y)]) (stA P 856 717) ((38,ansA (.si y) (.bool false) (.bool true)) :: (37,.slist ((lp ++ es).map entA)) :: (34,.edict) :: (33,.slist (ol.map entA)) :: (32,ansA (.si x) (.sb r) (.sb u)) :: (31,.list [.tup [.ss who,.loc 32]]) :: (30,.slist (es.map entA)) :: (29,msgA s t p a b) :: (0,jourA (.loc 37) (.si t) (.so (tv s t))) :: (2,givA (.loc 3) (.si s.now)) :: (3,.slist (s.done.map donA)) :: (4,.list []) :: (5,transO) :: (6,.list [.tup [.ss who,.loc 38]]) :: (7,nodeA (.loc 34) (.si t) (.so (tv s t)) (.ss who) (.si (s.now + 400)) (.si s.commit) (.si s.at1) (.si s.lst) (.si (eC s b)) (.sb s.orc) (.si s.st) (.si s.nd)) :: sB ((14,ownA (.loc 16) (.loc 33) (.si t) (.so (tv s t)) (.si cm) (.si s.at1) (.so (some who)) (.si s.now) (.si s.now)) :: sC s)) 39 .next (frE (eC s b) p a who [(n_nextNodeIdx,.si y)]) ((38,ansA (.si y) (.bool false) (.bool true)) :: (37,.slist ((lp ++ es).map entA)) :: (34,.edict) :: (33,.slist (ol.map entA)) :: (32,ansA (.si x) (.sb r) (.sb u)) :: (31,.list [.tup [.ss who,.loc 32]]) :: (30,.slist (es.map entA)) :: (29,msgA s t p a b) :: (0,jourA (.loc 37) (.si t) (.so (tv s t))) :: (2,givA (.loc 3) (.si s.now)) :: (3,.slist (s.done.map donA)) :: (4,.list []) :: (5,transO) :: (6,.list [.tup [.ss who,.loc 38]]) :: (7,nodeA (.loc 34) (.si t) (.so (tv s t)) (.ss who) (.si (s.now + 400)) (.si (if ((lp ++ es).length:Int) < s.commit then ((lp ++ es).length:Int) else s.commit)) (.si s.at1) (.si s.lst) (.si (eC s b)) (.sb s.orc) (.si s.st) (.si s.nd)) :: sB ((14,ownA (.loc 16) (.loc 33) (.si t) (.so (tv s t)) (.si cm) (.si s.at1) (.so (some who)) (.si s.now) (.si s.now)) :: sC s)) 39:=by
  have hlt:(lp ++ es).length - 1 < (lp ++ es).length:=by omega
  have g:=hi _ _ (List.getElem?_eq_getElem hlt)
  have g':(lp ++ es)[(lp ++ es).length - 1].idx = ((lp ++ es).length:Int):=by omega
  have so:(List.map entA (lp ++ es)).length < 2 ^ 62∧SoftO (ix (List.map entA (lp ++ es)) (-1)) (ent (lp ++ es)[(lp ++ es).length - 1]):=
    ⟨by rw [List.length_map]; omega,_,by rw [ix_last (by rw [List.length_map]; omega),List.getElem?_map,List.length_map,List.getElem?_eq_getElem hlt]; rfl,.refl _⟩
  by_cases h:((lp ++ es).length:Int) < s.commit
  · rw [if_pos h]
    have run:=n8a (X:=X) (P:=P) (s:=s) (t:=t) (p:=p) (a:=a) (b:=b) (cm:=cm) (x:=x) (who:=who) (v:=tv s t) (es:=es) (ol:=ol) (r:=r) (u:=u) (lp:=lp) (y:=y) so (by omega)
    rw [g'] at run
    have hs:NLS ((38,ansA (.si y) (.bool false) (.bool true)) :: (37,.slist ((lp ++ es).map entA)) :: (34,.edict) :: (33,.slist (ol.map entA)) :: (32,ansA (.si x) (.sb r) (.sb u)) :: (31,.list [.tup [.ss who,.loc 32]]) :: (30,.slist (es.map entA)) :: (29,msgA s t p a b) :: (0,jourA (.loc 37) (.si t) (.so (tv s t))) :: (2,givA (.loc 3) (.si s.now)) :: (3,.slist (s.done.map donA)) :: (4,.list []) :: (5,transO) :: (6,.list [.tup [.ss who,.loc 38]]) :: (7,nodeA (.loc 34) (.si t) (.so (tv s t)) (.ss who) (.si (s.now + 400)) (.si (((lp ++ es).length:Int))) (.si s.at1) (.si s.lst) (.si (eC s b)) (.sb s.orc) (.si s.st) (.si s.nd)) :: sB ((14,ownA (.loc 16) (.loc 33) (.si t) (.so (tv s t)) (.si cm) (.si s.at1) (.so (some who)) (.si s.now) (.si s.now)) :: sC s)):=(by repeat (first | exact NLS.nil | refine NLS.log ?_ | refine NLS.don ?_ | refine NLS.nm hn ?_ | refine NLS.no (fun l e=>by cases e) ?_))
    exact ctr ok (by kernel_rfl) [] (run) (Nat.le_refl _) (by kernel_rfl) (by kernel_rfl) (by kernel_rfl) (by kernel_rfl) hs (As.rfl' _) (Ss.rfl' _)
  · rw [if_neg h]
    have hs:NLS ((38,ansA (.si y) (.bool false) (.bool true)) :: (37,.slist ((lp ++ es).map entA)) :: (34,.edict) :: (33,.slist (ol.map entA)) :: (32,ansA (.si x) (.sb r) (.sb u)) :: (31,.list [.tup [.ss who,.loc 32]]) :: (30,.slist (es.map entA)) :: (29,msgA s t p a b) :: (0,jourA (.loc 37) (.si t) (.so (tv s t))) :: (2,givA (.loc 3) (.si s.now)) :: (3,.slist (s.done.map donA)) :: (4,.list []) :: (5,transO) :: (6,.list [.tup [.ss who,.loc 38]]) :: (7,nodeA (.loc 34) (.si t) (.so (tv s t)) (.ss who) (.si (s.now + 400)) (.si s.commit) (.si s.at1) (.si s.lst) (.si (eC s b)) (.sb s.orc) (.si s.st) (.si s.nd)) :: sB ((14,ownA (.loc 16) (.loc 33) (.si t) (.so (tv s t)) (.si cm) (.si s.at1) (.so (some who)) (.si s.now) (.si s.now)) :: sC s)):=(by repeat (first | exact NLS.nil | refine NLS.log ?_ | refine NLS.don ?_ | refine NLS.nm hn ?_ | refine NLS.no (fun l e=>by cases e) ?_))
    exact ctr ok (by kernel_rfl) [] (n8b so (by omega)) (Nat.le_refl _) (by kernel_rfl) (by kernel_rfl) (by kernel_rfl) (by kernel_rfl) hs (As.rfl' _) (Ss.rfl' _)
set_option maxHeartbeats 0 in
theorem N9 {X:Cx} {P:Params} {s:S} {t p a b cm x y c1:Int} {who:Str} {es ol lp:List Ent} {r u:Bool} (ok:X.Ok (K P)) (hn:NLn s) (hne:1 ≤ (lp ++ es).length) (hsz:(lp ++ es).length ≤ 100000) (hi:∀ (k:Nat) (e:Ent),(lp ++ es)[k]? = some e → e.idx = (k:Int) + 1) :
    XsOk X 179 (fdAt (K P) 856) (frE (eC s b) p a who [(n_nextNodeIdx,.si y)]) (stA P 856 719) ((38,ansA (.si y) (.bool false) (.bool true)) :: (37,.slist ((lp ++ es).map entA)) :: (34,.edict) :: (33,.slist (ol.map entA)) :: (32,ansA (.si x) (.sb r) (.sb u)) :: (31,.list [.tup [.ss who,.loc 32]]) :: (30,.slist (es.map entA)) :: (29,msgA s t p a b) :: (0,jourA (.loc 37) (.si t) (.so (tv s t))) :: (2,givA (.loc 3) (.si s.now)) :: (3,.slist (s.done.map donA)) :: (4,.list []) :: (5,transO) :: (6,.list [.tup [.ss who,.loc 38]]) :: (7,nodeA (.loc 34) (.si t) (.so (tv s t)) (.ss who) (.si (s.now + 400)) (.si c1) (.si s.at1) (.si s.lst) (.si (eC s b)) (.sb s.orc) (.si s.st) (.si s.nd)) :: sB ((14,ownA (.loc 16) (.loc 33) (.si t) (.so (tv s t)) (.si cm) (.si s.at1) (.so (some who)) (.si s.now) (.si s.now)) :: sC s)) 39 .next (frE (eC s b) p a who [(n_nextNodeIdx,.si y)]) ((38,ansA (.si y) (.bool false) (.bool true)) :: (37,.slist ((lp ++ es).map entA)) :: (34,.edict) :: (33,.slist (ol.map entA)) :: (32,ansA (.si x) (.sb r) (.sb u)) :: (31,.list [.tup [.ss who,.loc 32]]) :: (30,.slist (es.map entA)) :: (29,msgA s t p a b) :: (0,jourA (.loc 37) (.si t) (.so (tv s t))) :: (2,givA (.loc 3) (.si s.now)) :: (3,.slist (s.done.map donA)) :: (4,.list []) :: (5,transO) :: (6,.list [.tup [.ss who,.loc 38]]) :: (7,nodeA (.loc 34) (.si t) (.so (tv s t)) (.ss who) (.si (s.now + 400)) (.si (if c1 < eC s b then (if ((lp ++ es).length:Int) < eC s b then ((lp ++ es).length:Int) else eC s b) else c1)) (.si s.at1) (.si s.lst) (.si (eC s b)) (.sb s.orc) (.si s.st) (.si s.nd)) :: sB ((14,ownA (.loc 16) (.loc 33) (.si t) (.so (tv s t)) (.si cm) (.si s.at1) (.so (some who)) (.si s.now) (.si s.now)) :: sC s)) 39:=by
  have hlt:(lp ++ es).length - 1 < (lp ++ es).length:=by omega
  have g:=hi _ _ (List.getElem?_eq_getElem hlt)
  have g':(lp ++ es)[(lp ++ es).length - 1].idx = ((lp ++ es).length:Int):=by omega
  have so:(List.map entA (lp ++ es)).length < 2 ^ 62∧SoftO (ix (List.map entA (lp ++ es)) (-1)) (ent (lp ++ es)[(lp ++ es).length - 1]):=
    ⟨by rw [List.length_map]; omega,_,by rw [ix_last (by rw [List.length_map]; omega),List.getElem?_map,List.length_map,List.getElem?_eq_getElem hlt]; rfl,.refl _⟩
  by_cases h:c1 < eC s b
  · rw [if_pos h]
    have run:=n9a (X:=X) (P:=P) (s:=s) (t:=t) (p:=p) (a:=a) (b:=b) (cm:=cm) (x:=x) (who:=who) (v:=tv s t) (es:=es) (ol:=ol) (r:=r) (u:=u) (lp:=lp) (y:=y) (c1:=c1) h so
    rw [g'] at run
    have hs:NLS ((38,ansA (.si y) (.bool false) (.bool true)) :: (37,.slist ((lp ++ es).map entA)) :: (34,.edict) :: (33,.slist (ol.map entA)) :: (32,ansA (.si x) (.sb r) (.sb u)) :: (31,.list [.tup [.ss who,.loc 32]]) :: (30,.slist (es.map entA)) :: (29,msgA s t p a b) :: (0,jourA (.loc 37) (.si t) (.so (tv s t))) :: (2,givA (.loc 3) (.si s.now)) :: (3,.slist (s.done.map donA)) :: (4,.list []) :: (5,transO) :: (6,.list [.tup [.ss who,.loc 38]]) :: (7,nodeA (.loc 34) (.si t) (.so (tv s t)) (.ss who) (.si (s.now + 400)) (.si (if ((lp ++ es).length:Int) < eC s b then ((lp ++ es).length:Int) else eC s b)) (.si s.at1) (.si s.lst) (.si (eC s b)) (.sb s.orc) (.si s.st) (.si s.nd)) :: sB ((14,ownA (.loc 16) (.loc 33) (.si t) (.so (tv s t)) (.si cm) (.si s.at1) (.so (some who)) (.si s.now) (.si s.now)) :: sC s)):=(by repeat (first | exact NLS.nil | refine NLS.log ?_ | refine NLS.don ?_ | refine NLS.nm hn ?_ | refine NLS.no (fun l e=>by cases e) ?_))
    exact ctr ok (by kernel_rfl) [] (run) (Nat.le_refl _) (by kernel_rfl) (by kernel_rfl) (by kernel_rfl) (by kernel_rfl) hs (As.rfl' _) (Ss.rfl' _)
  · rw [if_neg h]
    have hs:NLS ((38,ansA (.si y) (.bool false) (.bool true)) :: (37,.slist ((lp ++ es).map entA)) :: (34,.edict) :: (33,.slist (ol.map entA)) :: (32,ansA (.si x) (.sb r) (.sb u)) :: (31,.list [.tup [.ss who,.loc 32]]) :: (30,.slist (es.map entA)) :: (29,msgA s t p a b) :: (0,jourA (.loc 37) (.si t) (.so (tv s t))) :: (2,givA (.loc 3) (.si s.now)) :: (3,.slist (s.done.map donA)) :: (4,.list []) :: (5,transO) :: (6,.list [.tup [.ss who,.loc 38]]) :: (7,nodeA (.loc 34) (.si t) (.so (tv s t)) (.ss who) (.si (s.now + 400)) (.si c1) (.si s.at1) (.si s.lst) (.si (eC s b)) (.sb s.orc) (.si s.st) (.si s.nd)) :: sB ((14,ownA (.loc 16) (.loc 33) (.si t) (.so (tv s t)) (.si cm) (.si s.at1) (.so (some who)) (.si s.now) (.si s.now)) :: sC s)):=(by repeat (first | exact NLS.nil | refine NLS.log ?_ | refine NLS.don ?_ | refine NLS.nm hn ?_ | refine NLS.no (fun l e=>by cases e) ?_))
    exact ctr ok (by kernel_rfl) [] (n9b h) (Nat.le_refl _) (by kernel_rfl) (by kernel_rfl) (by kernel_rfl) (by kernel_rfl) hs (As.rfl' _) (Ss.rfl' _)
end Mine
namespace Mine
set_option maxHeartbeats 0 in
theorem KAgr {X:Cx} {P:Params} {s:S} {j num kd bx t p a b:Int} {who:Str} {e:Ent} {es:List Ent} (ok:X.Ok (K P)) (hn:NLn s) (c:Lg s) (hlen:s.log.length ≤ 1000) (hes:es.length ≤ 3) (ht:t = xT s bx) (hp:p = xP s bx) (h:¬ t < s.term) (ha:a = xA s bx e.term) (k1:XsOk X 183 (fdAt (K P) 1102) (k1F0 j t p a who) (stA P 1102 1064) (k1S s (.list []) ((xB2 s bx).fdiv 4)) 30 .next (k1F1 j t p a who) (k1S s (.slist (es.map entA)) b) 30) (hpl:p ≤ (s.log.length:Int)) (hp1:1 ≤ p) (he:ix (s.log.map entA) (p - 1) = some (entA e)) (hag:e.term = a) :
    XsOk X 187 (fdAt (K P) 1109) (kaF0 j num kd who) (stA P 1109 1097) (kaS0 s bx) 29 .next (kaF1 j num kd who) (kaS1 s t p a b es who (.si (xCm s b (((s.log.take p.toNat) ++ es).map entA))) (.so (tv s t)) (.so (some who)) (((s.log.take p.toNat) ++ es).map entA) (.si (p + 1 + (es.length:Int))) (.sb false) (.sb true)) 34:=by
  have el:len (s.log.map entA) = (s.log.length:Int):=by show ((s.log.map entA).length:Int) = _; rw [List.length_map]
  have ee:len (es.map entA) = (es.length:Int):=by show ((es.map entA).length:Int) = _; rw [List.length_map]
  have hcut:xCut s p es = ((s.log.take p.toNat) ++ es).map entA:=by
    show cut (s.log.map entA) none (some p) ++ es.map entA = _
    rw [cut_to (by omega),List.map_append]
  have hlc:(cut (s.log.map entA) none (some p)).length ≤ s.log.length:=by
    rw [cut_to (by omega),List.length_map,List.length_take]; omega
  have k2:=K2 (X:=X) (P:=P) (s:=s) (j:=j) (t:=t) (p:=p) (a:=a) (b:=b) (who:=who) (es:=es) ok hn h
  have run:=kaAgr (X:=X) (P:=P) (s:=s) (j:=j) (num:=num) (kd:=kd) (bx:=bx) (t:=t) (p:=p) (a:=a) (b:=b) (who:=who) (v:=tv s t) (es:=es) (e:=e) c (by rw [el]; omega) (by rw [el]; omega) (by rw [← show p = 1 + (bx.fdiv 3).fmod (len (s.log.map entA) + 2) from hp,el]; omega) ⟨c.l1,_,(by rw [← show p = 1 + (bx.fdiv 3).fmod (len (s.log.map entA) + 2) from hp]; exact he),.refl _⟩ (by rw [← ht,← hp,← ha]; exact k1) (by rw [el]; omega) (by rw [el]; omega) (size_ok (by rw [List.length_map]; omega)) h k2 (by rw [el]; omega) ⟨c.l1,_,he,.refl _⟩ (by simp [hag]) (size_ok (by rw [List.length_map]; omega)) (by rw [List.length_append,List.length_map]; omega) (by rw [List.length_map]; omega)
  rw [hcut,ee] at run
  have hs:NLS (kaS1 s t p a b es who (.si (xCm s b (((s.log.take p.toNat) ++ es).map entA))) (.so (tv s t)) (.ss who) (((s.log.take p.toNat) ++ es).map entA) (.si (p + 1 + (es.length:Int))) (.bool false) (.bool true)):=(by repeat (first | exact NLS.nil | refine NLS.log ?_ | refine NLS.don ?_ | refine NLS.nm hn ?_ | refine NLS.no (fun l e=>by cases e) ?_))
  exact ctr ok (by kernel_rfl) [0,1,2,3,4,5,6,7,8,9,10,11,12,13,14,15,16,17,18,19,20,21,22,23,24,25,26,27,28,31,30,35,32,34] (run) (by omega) (by kernel_rfl) (by kernel_rfl) (by kernel_rfl) (by kernel_rfl) hs (As.rfl' _) (Ss.cons OLe.refl (Ss.cons ans_le (Ss.cons OLe.refl (Ss.cons OLe.refl (Ss.cons OLe.refl (Ss.cons OLe.refl (Ss.cons OLe.refl (Ss.cons OLe.refl (Ss.cons OLe.refl (Ss.cons OLe.refl (Ss.cons OLe.refl (Ss.cons OLe.refl (Ss.cons OLe.refl (Ss.cons OLe.refl (Ss.cons OLe.refl (Ss.cons OLe.refl (Ss.cons OLe.refl (Ss.cons OLe.refl (Ss.cons OLe.refl (Ss.cons ownl_le (Ss.rfl' _)))))))))))))))))))))
set_option maxHeartbeats 0 in
theorem KMis {X:Cx} {P:Params} {s:S} {j num kd bx t p a b:Int} {who:Str} {e:Ent} {es:List Ent} (ok:X.Ok (K P)) (hn:NLn s) (c:Lg s) (hlen:s.log.length ≤ 1000) (hes:es.length ≤ 3) (ht:t = xT s bx) (hp:p = xP s bx) (h:¬ t < s.term) (ha:a = xA s bx e.term) (k1:XsOk X 183 (fdAt (K P) 1102) (k1F0 j t p a who) (stA P 1102 1064) (k1S s (.list []) ((xB2 s bx).fdiv 4)) 30 .next (k1F1 j t p a who) (k1S s (.slist (es.map entA)) b) 30) (hpl:p ≤ (s.log.length:Int)) (hp1:1 ≤ p) (he:ix (s.log.map entA) (p - 1) = some (entA e)) (hag:¬ e.term = a) :
    XsOk X 187 (fdAt (K P) 1109) (kaF0 j num kd who) (stA P 1109 1097) (kaS0 s bx) 29 .next (kaF1 j num kd who) (kaS1 s t p a b es who (.si (s.commit)) (.so (tv s t)) (.so (some who)) ((s.log).map entA) (.si (p)) (.sb true) (.sb false)) 34:=by
  have el:len (s.log.map entA) = (s.log.length:Int):=by show ((s.log.map entA).length:Int) = _; rw [List.length_map]
  have ee:len (es.map entA) = (es.length:Int):=by show ((es.map entA).length:Int) = _; rw [List.length_map]
  have k2:=K2 (X:=X) (P:=P) (s:=s) (j:=j) (t:=t) (p:=p) (a:=a) (b:=b) (who:=who) (es:=es) ok hn h
  have run:=kaMis (X:=X) (P:=P) (s:=s) (j:=j) (num:=num) (kd:=kd) (bx:=bx) (t:=t) (p:=p) (a:=a) (b:=b) (who:=who) (v:=tv s t) (es:=es) (e:=e) c (by rw [el]; omega) (by rw [el]; omega) (by rw [← show p = 1 + (bx.fdiv 3).fmod (len (s.log.map entA) + 2) from hp,el]; omega) ⟨c.l1,_,(by rw [← show p = 1 + (bx.fdiv 3).fmod (len (s.log.map entA) + 2) from hp]; exact he),.refl _⟩ (by rw [← ht,← hp,← ha]; exact k1) (by rw [el]; omega) (by rw [el]; omega) (size_ok (by rw [List.length_map]; omega)) h k2 (by rw [el]; omega) ⟨c.l1,_,he,.refl _⟩ (by simp [hag])
  have hs:NLS (kaS1 s t p a b es who (.si (s.commit)) (.so (tv s t)) (.ss who) (s.log.map entA) (.si (p)) (.bool true) (.bool false)):=(by repeat (first | exact NLS.nil | refine NLS.log ?_ | refine NLS.don ?_ | refine NLS.nm hn ?_ | refine NLS.no (fun l e=>by cases e) ?_))
  exact ctr ok (by kernel_rfl) [0,1,2,3,4,5,6,7,8,9,10,11,12,13,14,15,16,17,18,19,20,21,22,23,24,25,26,27,28,31,30,33,32,15] (run) (by omega) (by kernel_rfl) (by kernel_rfl) (by kernel_rfl) (by kernel_rfl) hs (As.rfl' _) (Ss.cons OLe.refl (Ss.cons ans_le (Ss.cons OLe.refl (Ss.cons OLe.refl (Ss.cons OLe.refl (Ss.cons OLe.refl (Ss.cons OLe.refl (Ss.cons OLe.refl (Ss.cons OLe.refl (Ss.cons OLe.refl (Ss.cons OLe.refl (Ss.cons OLe.refl (Ss.cons OLe.refl (Ss.cons OLe.refl (Ss.cons OLe.refl (Ss.cons OLe.refl (Ss.cons OLe.refl (Ss.cons OLe.refl (Ss.cons OLe.refl (Ss.cons ownl_le (Ss.rfl' _)))))))))))))))))))))
set_option maxHeartbeats 0 in
theorem KLong {X:Cx} {P:Params} {s:S} {j num kd bx t p a b:Int} {who:Str} {es:List Ent} (ok:X.Ok (K P)) (hn:NLn s) (c:Lg s) (hlen:s.log.length ≤ 1000) (hes:es.length ≤ 3) (ht:t = xT s bx) (hp:p = xP s bx) (h:¬ t < s.term) (ha:a = xA s bx s.term) (k1:XsOk X 183 (fdAt (K P) 1102) (k1F0 j t p a who) (stA P 1102 1064) (k1S s (.list []) ((xB2 s bx).fdiv 4)) 30 .next (k1F1 j t p a who) (k1S s (.slist (es.map entA)) b) 30) (hpl:¬ p ≤ (s.log.length:Int)) :
    XsOk X 187 (fdAt (K P) 1109) (kaF0 j num kd who) (stA P 1109 1097) (kaS0 s bx) 29 .next (kaF1 j num kd who) (kaS1 s t p a b es who (.si (s.commit)) (.so (tv s t)) (.so (some who)) ((s.log).map entA) (.si ((s.log.length:Int) + 1)) (.sb true) (.sb false)) 34:=by
  have el:len (s.log.map entA) = (s.log.length:Int):=by show ((s.log.map entA).length:Int) = _; rw [List.length_map]
  have ee:len (es.map entA) = (es.length:Int):=by show ((es.map entA).length:Int) = _; rw [List.length_map]
  have k2:=K2 (X:=X) (P:=P) (s:=s) (j:=j) (t:=t) (p:=p) (a:=a) (b:=b) (who:=who) (es:=es) ok hn h
  have run:=kaLong (X:=X) (P:=P) (s:=s) (j:=j) (num:=num) (kd:=kd) (bx:=bx) (t:=t) (p:=p) (a:=a) (b:=b) (who:=who) (v:=tv s t) (es:=es) c (by rw [el]; omega) (by rw [el]; omega) (by rw [← show p = 1 + (bx.fdiv 3).fmod (len (s.log.map entA) + 2) from hp,el]; omega) (by rw [← ht,← hp,← ha]; exact k1) (by rw [el]; omega) (by rw [el]; omega) (size_ok (by rw [List.length_map]; omega)) h k2 (by rw [el]; omega)
  rw [el] at run
  have hs:NLS (kaS1 s t p a b es who (.si (s.commit)) (.so (tv s t)) (.ss who) (s.log.map entA) (.si ((s.log.length:Int) + 1)) (.bool true) (.bool false)):=(by repeat (first | exact NLS.nil | refine NLS.log ?_ | refine NLS.don ?_ | refine NLS.nm hn ?_ | refine NLS.no (fun l e=>by cases e) ?_))
  exact ctr ok (by kernel_rfl) [0,1,2,3,4,5,6,7,8,9,10,11,12,13,14,15,16,17,18,19,20,21,22,23,24,25,26,27,28,31,30,33,32,15] (run) (by omega) (by kernel_rfl) (by kernel_rfl) (by kernel_rfl) (by kernel_rfl) hs (As.rfl' _) (Ss.cons OLe.refl (Ss.cons ans_le (Ss.cons OLe.refl (Ss.cons OLe.refl (Ss.cons OLe.refl (Ss.cons OLe.refl (Ss.cons OLe.refl (Ss.cons OLe.refl (Ss.cons OLe.refl (Ss.cons OLe.refl (Ss.cons OLe.refl (Ss.cons OLe.refl (Ss.cons OLe.refl (Ss.cons OLe.refl (Ss.cons OLe.refl (Ss.cons OLe.refl (Ss.cons OLe.refl (Ss.cons OLe.refl (Ss.cons OLe.refl (Ss.cons ownl_le (Ss.rfl' _)))))))))))))))))))))
end Mine
namespace Mine
section
variable {X:Cx} {P:Params} {s:S} {num:Int} {j:Nat}
theorem fit_m {t b:Int} {who:Str} {v:Option Str}:Fit ({ qOf s with term:=.si t,jterm:=.si t,oterm:=.si t,voted:=.so v,jvoted:=.so v,ovoted:=.so v,leader:=.ss who,oleader:=.so (some who),dead:=.si (s.now + 400),oreset:=.si s.now,lc:=.si (eC s b),ocommit:=.si s.commit,olog:=.slist (s.log.map entA) })
    { s with term:=t,voted:=v,leader:=some who,reset:=s.now,lc:=some (eC s b) }:=
  { leader:=AVle.sos,lc:=AVle.ios }
theorem fit_a {t b cm:Int} {who:Str} {v:Option Str} {L:List Ent}:Fit ({ qOf s with term:=.si t,jterm:=.si t,oterm:=.si t,voted:=.so v,jvoted:=.so v,ovoted:=.so v,leader:=.ss who,oleader:=.so (some who),dead:=.si (s.now + 400),oreset:=.si s.now,lc:=.si (eC s b),ocommit:=.si cm,olog:=.slist (L.map entA),commit:=.si cm,log:=.slist (L.map entA) })
    { s with term:=t,voted:=v,leader:=some who,reset:=s.now,lc:=some (eC s b),commit:=cm,log:=L }:=
  { leader:=AVle.sos,lc:=AVle.ios }
theorem Inv.nextL (I:Inv j s) {t:Int} {v l:Option Str} {lc:Option Int} (ht:s.term ≤ t):Inv (j + 1) { s with term:=t,voted:=v,leader:=l,reset:=s.now,lc:=lc }:=
  let I':=I.next (v:=v) (l:=l) ht (Int.le_refl s.now) (by omega)
  { nl:=I'.nl,log:=I'.log,ne:=I'.ne,ln:=I'.ln,now0:=I'.now0,now1:=I'.now1,res0:=I'.res0,res1:=I'.res1,lst0:=I'.lst0,lst1:=I'.lst1,at1:=I'.at1,cm0:=I'.cm0,cm1:=I'.cm1,dn:=I'.dn }
theorem Inv.nextA (I:Inv j s) {t cm:Int} {v l:Option Str} {lc:Option Int} {L:List Ent} (ht:s.term ≤ t) (hL:∀ (k:Nat) (e:Ent),L[k]? = some e → e.idx = (k:Int) + 1∧e.term ≤ t) (h1:1 ≤ L.length) (h2:L.length ≤ s.log.length + 3) (h3:1 ≤ cm) (h4:cm ≤ (L.length:Int)) :
    Inv (j + 1) { s with term:=t,voted:=v,leader:=l,reset:=s.now,lc:=lc,commit:=cm,log:=L }:=
  let I':=I.nextL (v:=v) (l:=l) (lc:=lc) ht
  { nl:=I'.nl,log:=hL,ne:=h1,ln:=by have:=I.ln; show L.length ≤ _; omega,now0:=I'.now0,now1:=I'.now1,res0:=I'.res0,res1:=I'.res1,lst0:=I'.lst0,lst1:=I'.lst1,at1:=I'.at1,cm0:=h3,cm1:=h4,dn:=I'.dn }
theorem cm_eq {n:Nat} {c m:Int} {l:List AV} (hl:l.length = n) (b:Int) (s:S) (hc:s.commit = c) (hm:eC s b = m) :
    (if (if (n:Int) < c then (n:Int) else c) < m then (if (n:Int) < m then (n:Int) else m) else (if (n:Int) < c then (n:Int) else c)) = xCm s b l:=by
  have e:len l = (n:Int):=by show (l.length:Int) = _; rw [hl]
  subst hc hm
  show _ = (if (if len l < s.commit then len l else s.commit) < (if len l < eC s b then len l else eC s b) then (if len l < eC s b then len l else eC s b) else (if len l < s.commit then len l else s.commit))
  rw [e]
  by_cases h1:(n:Int) < s.commit <;> by_cases h2:(n:Int) < eC s b <;> simp only [h1,h2,if_true,if_false] <;> (repeat' split) <;> omega
theorem xCm_bd {n:Nat} {l:List AV} (hl:l.length = n) (b:Int) (h1:1 ≤ s.commit) (h2:1 ≤ n):1 ≤ xCm s b l∧xCm s b l ≤ (n:Int):=by
  have e:len l = (n:Int):=by show (l.length:Int) = _; rw [hl]
  show 1 ≤ (if (if len l < s.commit then len l else s.commit) < (if len l < eC s b then len l else eC s b) then (if len l < eC s b then len l else eC s b) else (if len l < s.commit then len l else s.commit))∧(if (if len l < s.commit then len l else s.commit) < (if len l < eC s b then len l else eC s b) then (if len l < eC s b then len l else eC s b) else (if len l < s.commit then len l else s.commit)) ≤ (n:Int)
  rw [e]
  generalize eC s b = m
  by_cases q1:(n:Int) < s.commit <;> by_cases q2:(n:Int) < m <;> simp only [q1,q2,if_true,if_false] <;> constructor <;> (repeat' split) <;> omega
set_option maxHeartbeats 0 in
theorem entries_turn (ok:X.Ok (K P)) (I:Inv j s) (hj:j ≤ 40) (h0:¬ num.fmod 6 = 0) (h3:num.fmod 6 < 3):TurnR X P j num s:=by
  obtain ⟨⟨n1,n2⟩,who,hw⟩:=I.who num
  obtain ⟨e,he1,he2,he3,he4⟩:=I.last
  have c:=I.com (by omega) hw he4
  have lg:Lg s:=⟨c.l1,c.l2⟩
  have hn:=I.nln
  have hl:=I.ln
  have hne:=I.ne
  have hc0:=I.cm0
  have el:len (s.log.map entA) = (s.log.length:Int):=by show ((s.log.map entA).length:Int) = _; rw [List.length_map]
  obtain ⟨bx,hbx⟩:∃ bx,bx = num.fdiv (6 * len s.nl):=⟨_,rfl⟩
  obtain ⟨t,ht⟩:∃ t,t = xT s bx:=⟨_,rfl⟩
  obtain ⟨p,hp⟩:∃ p,p = xP s bx:=⟨_,rfl⟩
  have hp':p = 1 + (bx.fdiv 3).fmod (len (s.log.map entA) + 2):=hp
  have pos:0 < len (s.log.map entA) + 2:=by rw [el]; omega
  have b1:=Int.fmod_nonneg_of_pos (bx.fdiv 3) pos
  have b2:=Int.fmod_lt_of_pos (bx.fdiv 3) pos
  rw [el] at hp' b1 b2
  have hp1:1 ≤ p:=by omega
  have x1:len (s.log.map entA) + 2 ≠ 0:=by rw [el]; omega
  have x2:len (s.log.map entA) + 2 ≠ 0∧(len (s.log.map entA) + 2).natAbs < 1073741824:=by rw [el]; omega
  have x3:len (s.log.map entA) + 4 ≠ 0:=by rw [el]; omega
  have x4:len (s.log.map entA) + 4 ≠ 0∧(len (s.log.map entA) + 4).natAbs < 1073741824:=by rw [el]; omega
  obtain ⟨e0,f1,f2,f3⟩:=I.at_ (k:=0) (by omega)
  have hix0:ix (s.log.map entA) 0 = some (entA e0):=by rw [ix_nn (by omega)]; simp [List.getElem?_map,f1]
  have f2:e0.idx = 1:=by omega
  have hc':(cut (s.log.map entA) (some (p - e0.idx)) none) = (s.log.drop (p - 1).toNat).map entA:=by rw [f2]; exact cut_from (by omega)
  have hcl:(cut (s.log.map entA) (some (p - e0.idx)) none).length < 2 ^ 62:=by rw [hc',List.length_map,List.length_drop]; omega
  have I0:=I.same
  by_cases hpl:p ≤ (s.log.length:Int)
  · obtain ⟨e1,g1,g2,g3⟩:=I.at_ (k:=(p - 1).toNat) (by omega)
    have hix1:ix (s.log.map entA) (p - 1) = some (entA e1):=by rw [ix_nn (by omega),List.getElem?_map,g1]; rfl
    obtain ⟨a,ha⟩:∃ a,a = xA s bx e1.term:=⟨_,rfl⟩
    obtain ⟨es,b,k1,k2,k3,k4⟩:=K1 (P:=P) ok hn (j:Int) t p a ((xB2 s bx).fdiv 4) who
    have les:(es.map entA).length ≤ sizeLine:=size_ok (by rw [List.length_map]; omega)
    by_cases hlow:t < s.term
    · subst hbx
      subst ha ht hp
      exact TurnG.of (ro ok 190) (lawNm P) (eLow1 (x:=0) (j:=(j:Int)) c h0 h3 x1 x2 (by show xP s _ ≤ _; rw [el]; exact hpl) ⟨c.l1,_,hix1,.refl _⟩ (k4.up 1) x3 x4 les hlow (by omega)) I0 fit_same (by kernel_rfl) (by kernel_rfl)
    · have hcut1:(!(cut (s.log.map entA) (some (p - e0.idx)) none).isEmpty) = true:=by
        rw [hc']
        have:(s.log.drop (p - 1).toNat) ≠ []:=by
          intro z
          have:=congrArg List.length z
          rw [List.length_drop] at this
          simp at this; omega
        cases q:s.log.drop (p - 1).toNat with
        | nil=>exact absurd q this
        | cons _ _=>rfl
      have hcut0:(cut (s.log.map entA) (some (p - e0.idx)) none).length < 2 ^ 62∧SoftO (ix (cut (s.log.map entA) (some (p - e0.idx)) none) 0) (ent e1):=by
        refine ⟨hcl,entA e1,?_,.refl _⟩
        rw [hc',ix_nn (by omega),List.getElem?_map,List.getElem?_drop]
        show (s.log[(p - 1).toNat + 0]?).map entA = _
        rw [Nat.add_zero,g1]; rfl
      by_cases hag:e1.term = a
      · have ka:=KAgr (j:=(j:Int)) (num:=num) (kd:=num.fmod 6) ok hn lg (by omega) k1 ht hp hlow ha k4 hpl hp1 hix1 hag
        obtain ⟨lp,hlp⟩:∃ lp,lp = s.log.take p.toNat:=⟨_,rfl⟩
        have llp:lp.length = p.toNat:=by rw [hlp,List.length_take]; omega
        rw [← hlp] at ka
        have lall:(lp ++ es).length = p.toNat + es.length:=by rw [List.length_append,llp]
        have hall:∀ (k:Nat) (e:Ent),(lp ++ es)[k]? = some e → e.idx = (k:Int) + 1∧e.term ≤ t:=by
          intro k e he
          by_cases hk:k < lp.length
          · rw [List.getElem?_append_left hk,hlp] at he
            rw [List.getElem?_take_of_lt (by omega)] at he
            have:=I.log k e he
            exact ⟨this.1,by omega⟩
          · rw [List.getElem?_append_right (by omega)] at he
            have q1:=k2 _ _ he
            have q2:=k3 e (List.mem_of_getElem? he)
            refine ⟨by omega,Int.le_trans q2 ?_⟩
            show (if t < a then a else t) ≤ t
            rw [if_neg (by omega)]
            exact Int.le_refl _
        have n1:=N1 (t:=t) (p:=p) (a:=a) (b:=b) (cm:=xCm s b ((lp ++ es).map entA)) (x:=p + 1 + (es.length:Int)) (who:=who) (es:=es) (ol:=lp ++ es) (r:=false) (u:=true) (P:=P) ok hn
        have n2:=N2 (t:=t) (p:=p) (a:=a) (b:=b) (cm:=xCm s b ((lp ++ es).map entA)) (x:=p + 1 + (es.length:Int)) (who:=who) (es:=es) (ol:=lp ++ es) (r:=false) (u:=true) (P:=P) ok hn
        have n3:=N3 (t:=t) (p:=p) (a:=a) (b:=b) (cm:=xCm s b ((lp ++ es).map entA)) (x:=p + 1 + (es.length:Int)) (who:=who) (es:=es) (ol:=lp ++ es) (r:=false) (u:=true) (P:=P) ok hn hlow
        have n5:=N5 (t:=t) (a:=a) (b:=b) (cm:=xCm s b ((lp ++ es).map entA)) (x:=p + 1 + (es.length:Int)) (who:=who) (es:=es) (ol:=lp ++ es) (r:=false) (u:=true) (P:=P) ok hn f2 hix0 hp1 hpl (by omega)
        rw [← hlp] at n5
        have n6:=N6 (t:=t) (p:=p) (a:=a) (b:=b) (cm:=xCm s b ((lp ++ es).map entA)) (x:=p + 1 + (es.length:Int)) (who:=who) (es:=es) (ol:=lp ++ es) (lp:=lp) (r:=false) (u:=true) (P:=P) ok hn k1 (by omega)
        have n7:=N7 (t:=t) (p:=p) (a:=a) (b:=b) (cm:=xCm s b ((lp ++ es).map entA)) (x:=p + 1 + (es.length:Int)) (y:=p + 1 + (es.length:Int)) (who:=who) (es:=es) (ol:=lp ++ es) (lp:=lp) (r:=false) (u:=true) (P:=P) ok hn rfl k2 k1
        have n8:=N8 (t:=t) (p:=p) (a:=a) (b:=b) (cm:=xCm s b ((lp ++ es).map entA)) (x:=p + 1 + (es.length:Int)) (y:=p + 1 + (es.length:Int)) (who:=who) (es:=es) (ol:=lp ++ es) (lp:=lp) (r:=false) (u:=true) (P:=P) ok hn (by omega) (by omega) (fun k e he=>(hall k e he).1)
        have n9:=N9 (t:=t) (p:=p) (a:=a) (b:=b) (cm:=xCm s b ((lp ++ es).map entA)) (x:=p + 1 + (es.length:Int)) (y:=p + 1 + (es.length:Int)) (c1:=if ((lp ++ es).length:Int) < s.commit then ((lp ++ es).length:Int) else s.commit) (who:=who) (es:=es) (ol:=lp ++ es) (lp:=lp) (r:=false) (u:=true) (P:=P) ok hn (by omega) (by omega) (fun k e he=>(hall k e he).1)
        rw [cm_eq (n:=(lp ++ es).length) (l:=(lp ++ es).map entA) (by rw [List.length_map]) b s rfl rfl] at n9
        have bd:=xCm_bd (s:=s) (n:=(lp ++ es).length) (l:=(lp ++ es).map entA) (by rw [List.length_map]) b hc0 (by omega)
        subst hbx
        exact TurnG.of (ro ok 190) (lawNm P) (eAgr (j:=(j:Int)) c h0 h3 ka (by omega) n1 n2 n3 ⟨c.l1,_,hix0,.refl _⟩ (by omega) hcl hcut1 hcut0 (by simp [hag]) n5 n6 n7 n8 n9 rfl rfl rfl (size_ok (by rw [List.length_map]; omega)) (cut_allF _) rfl)
          (I.nextA (by omega) hall (by omega) (by omega) bd.1 bd.2) fit_a (by kernel_rfl) (by kernel_rfl)
      · have ka:=KMis (j:=(j:Int)) (num:=num) (kd:=num.fmod 6) ok hn lg (by omega) k1 ht hp hlow ha k4 hpl hp1 hix1 hag
        have n1:=N1 (t:=t) (p:=p) (a:=a) (b:=b) (cm:=s.commit) (x:=p) (who:=who) (es:=es) (ol:=s.log) (r:=true) (u:=false) (P:=P) ok hn
        have n2:=N2 (t:=t) (p:=p) (a:=a) (b:=b) (cm:=s.commit) (x:=p) (who:=who) (es:=es) (ol:=s.log) (r:=true) (u:=false) (P:=P) ok hn
        have n3:=N3 (t:=t) (p:=p) (a:=a) (b:=b) (cm:=s.commit) (x:=p) (who:=who) (es:=es) (ol:=s.log) (r:=true) (u:=false) (P:=P) ok hn hlow
        subst hbx
        exact TurnG.of (ro ok 190) (lawNm P) (eMis (j:=(j:Int)) c h0 h3 ka (by omega) n1 n2 n3 ⟨c.l1,_,hix0,.refl _⟩ (by omega) hcl hcut1 hcut0 (by simp [hag]) rfl rfl rfl (cut_allF _) rfl)
          (I.nextL (by omega)) fit_m (by kernel_rfl) (by kernel_rfl)
  · obtain ⟨a,ha⟩:∃ a,a = xA s bx s.term:=⟨_,rfl⟩
    obtain ⟨es,b,k1,k2,k3,k4⟩:=K1 (P:=P) ok hn (j:Int) t p a ((xB2 s bx).fdiv 4) who
    have les:(es.map entA).length ≤ sizeLine:=size_ok (by rw [List.length_map]; omega)
    by_cases hlow:t < s.term
    · subst hbx
      subst ha ht hp
      exact TurnG.of (ro ok 190) (lawNm P) (eLow2 (x:=0) (j:=(j:Int)) c h0 h3 x1 x2 (by show ¬ xP s _ ≤ _; rw [el]; exact hpl) (k4.up 1) x3 x4 les hlow (by omega)) I0 fit_same (by kernel_rfl) (by kernel_rfl)
    · have ka:=KLong (j:=(j:Int)) (num:=num) (kd:=num.fmod 6) ok hn lg (by omega) k1 ht hp hlow ha k4 hpl
      have n1:=N1 (t:=t) (p:=p) (a:=a) (b:=b) (cm:=s.commit) (x:=(s.log.length:Int) + 1) (who:=who) (es:=es) (ol:=s.log) (r:=true) (u:=false) (P:=P) ok hn
      have n2:=N2 (t:=t) (p:=p) (a:=a) (b:=b) (cm:=s.commit) (x:=(s.log.length:Int) + 1) (who:=who) (es:=es) (ol:=s.log) (r:=true) (u:=false) (P:=P) ok hn
      have n3:=N3 (t:=t) (p:=p) (a:=a) (b:=b) (cm:=s.commit) (x:=(s.log.length:Int) + 1) (who:=who) (es:=es) (ol:=s.log) (r:=true) (u:=false) (P:=P) ok hn hlow
      have hcut1:(!(cut (s.log.map entA) (some (p - e0.idx)) none).isEmpty) = false:=by
        rw [hc',List.drop_eq_nil_of_le (by omega)]; rfl
      subst hbx
      exact TurnG.of (ro ok 190) (lawNm P) (eLong (j:=(j:Int)) c h0 h3 ka (by omega) n1 n2 n3 ⟨c.l1,_,hix0,.refl _⟩ (by omega) hcl hcut1 (by omega) rfl rfl (cut_allF _) rfl)
        (I.nextL (by omega)) fit_m (by kernel_rfl) (by kernel_rfl)
end
end Mine
namespace Mine
noncomputable abbrev preF (ns:List Int) (h:AV):Frame:=[(n_script,.sl (ns.map .si)),(n_head,h),(n_names,.loc 1),(n_journal,.loc 2),(n_given,.loc 4),(n_transport,.loc 9),(n_node,.loc 13),(n_own,.loc 28)]
noncomputable abbrev preS (l:List Str):Store:=[(28,.dict [((sS [116,101,114,109]),(.int 0)),((sS [118,111,116,101,100]),.none),((sS [108,111,103]),(.loc 26)),((sS [99,111,109,109,105,116]),(.int 1)),((sS [97,116]),(.int 1)),((sS [100,111,110,101]),(.loc 27)),((sS [108,101,97,100,101,114]),.none),((sS [110,111,119]),(.int 0)),((sS [114,101,115,101,116]),(.int 0))]),(27,.list []),(26,.list [(.tup [(.tup [(.int 1)]),(.int 1),(.int 0)])]),(25,.edict),(24,.edict),(23,.list []),(22,.inst 540 [(n__FastQueue__queue,(.loc 23)),(n__FastQueue__maxSize,(.int 100000))]),(21,.edict),(20,.inst 603 [(n__Serializer__given,(.loc 4)),(n__Serializer__transmissionBatchSize,(.int 65536)),(n__Serializer__pid,(.int 0)),(n__Serializer__currentID,(.int 0)),(n__Serializer__transmissions,(.loc 21)),(n__Serializer__incomingTransmissionFile,.none),(n__Serializer__inMemorySerializedData,.none)]),(19,.edict),(18,.edict),(17,.edict),(16,.set l),(15,.set []),(14,.set l),(13,.inst 1070 [(n__SyncObj__conf,(.loc 12)),(n__SyncObj__given,(.loc 4)),(n__SyncObj__selfNode,(.str (sS [97]))),(n__SyncObj__otherNodes,(.loc 14)),(n__SyncObj__readonlyNodes,(.loc 15)),(n__SyncObj__connectedNodes,(.loc 16)),(n__SyncObj__raftState,(.int 0)),(n__SyncObj__raftCurrentTerm,(.int 0)),(n__SyncObj__votedForNodeId,.none),(n__SyncObj__votesCount,(.int 0)),(n__SyncObj__raftLeader,.none),(n__SyncObj__raftElectionDeadline,(.int 400)),(n__SyncObj__transferInProgress,(.bool false)),(n__SyncObj__raftLog,(.loc 2)),(n__SyncObj__raftCommitIndex,(.int 1)),(n__SyncObj__raftLastApplied,(.int 1)),(n__SyncObj__raftNextIndex,(.loc 17)),(n__SyncObj__lastResponseTime,(.loc 18)),(n__SyncObj__raftMatchIndex,(.loc 19)),(n__SyncObj__lastSerializedTime,(.int 0)),(n__SyncObj__lastSerializedEntry,.none),(n__SyncObj__forceLogCompaction,(.bool false)),(n__SyncObj__leaderCommitIndex,.none),(n__SyncObj__onReadyCalled,(.bool false)),(n__SyncObj__changeClusterIDx,.none),(n__SyncObj__noopIDx,.none),(n__SyncObj__destroying,(.bool false)),(n__SyncObj__startTime,(.int 0)),(n__SyncObj__numOneSecondDumps,(.int 0)),(n__SyncObj__serializer,(.loc 20)),(n__SyncObj__transport,(.loc 9)),(n__SyncObj__selfCodeVersion,(.int 0)),(n__SyncObj__commandsQueue,(.loc 22)),(n__SyncObj__lastReadonlyCheck,(.int 0)),(n__SyncObj__newAppendEntriesTime,(.int 0)),(n__SyncObj__commandsWaitingCommit,(.loc 24)),(n__SyncObj__commandsLocalCounter,(.int 0)),(n__SyncObj__commandsWaitingReply,(.loc 25)),(n__SyncObj__enabledCodeVersion,(.int 0))]),(12,.inst 180 [(n_password,.none),(n_autoTick,(.bool false)),(n_autoTickPeriod,(.int 50)),(n_commandsQueueSize,(.int 100000)),(n_raftMinTimeout,(.int 400)),(n_raftMaxTimeout,(.int 1400)),(n_appendEntriesPeriod,(.int 100)),(n_connectionTimeout,(.int 3500)),(n_connectionRetryTime,(.int 5000)),(n_leaderFallbackTimeout,(.int 30000)),(n_appendEntriesUseBatch,(.bool true)),(n_appendEntriesBatchSizeBytes,(.int 65536)),(n_bindAddress,.none),(n_preferredAddrType,(.str (sS [105,112,118,52]))),(n_sendBufferSize,(.int 65536)),(n_recvBufferSize,(.int 65536)),(n_dnsCacheTime,(.int 600000)),(n_dnsFailCacheTime,(.int 30000)),(n_logCompactionMinEntries,(.int 5000)),(n_logCompactionMinTime,(.int 300000)),(n_logCompactionSplit,(.bool false)),(n_logCompactionBatchSize,(.int 65536)),(n_commandsWaitLeader,(.bool true)),(n_fullDumpFile,.none),(n_journalFile,.none),(n_bindRetryTime,(.int 1000)),(n_maxBindRetries,(.int 0)),(n_onReady,.none),(n_onStateChanged,.none),(n_dynamicMembershipChange,(.bool false)),(n_pollerType,(.str (sS [97,117,116,111]))),(n_useFork,(.bool true)),(n_serializer,.none),(n_serializeChecker,.none),(n_deserializer,.none),(n_onCodeVersionChanged,.none),(n_tcp_keepalive,(.tup [(.int 16),(.int 3),(.int 5)]))]),(11,.dict [((sS [97,117,116,111,84,105,99,107]),(.bool false))]),(10,.list []),(9,.inst 123 [(n__syncObj,(.loc 13)),(n_sent,(.loc 10))]),(8,.list []),(7,.list []),(6,.list []),(5,.list []),(4,.inst 479 [(n_now,(.int 0)),(n_drawn,(.loc 5)),(n_applied,(.loc 6)),(n_told,(.loc 7)),(n_dumped,(.loc 8)),(n_length,(.int 1)),(n_codeVersion,(.int 0))]),(3,.list [(.tup [(.tup [(.int 1)]),(.int 1),(.int 0)])]),(2,.inst 404 [(n__MemoryJournal__journal,(.loc 3)),(n__MemoryJournal__bytesSize,(.int 0)),(n__MemoryJournal__lastCommitIndex,(.int 0)),(n__MemoryJournal__currentTerm,(.int 0)),(n__MemoryJournal__votedForNodeId,.none)]),(1,.list (l.map .str)),(0,.list [(.str (sS [98])),(.str (sS [99])),(.str (sS [100])),(.str (sS [101]))])]
noncomputable abbrev f1:List Nat:=[2,3,4,6,5,9,10,13,12,20,22,23,24,25,28,26,27,1,7,8,14,15,16,17,18,19,21,32]
noncomputable abbrev allN (ns:List Int):List AV:=cut (ns.map .si) (some 1) (some 25) ++ [.int 72,.int 14,.int (13 + 24 * 30),.int 3,.int 97,.int 4,.int 1009,.int 3,.int 50021,.int 9,.int 3]
noncomputable def strK:Nat → List Str
  | 0=>[⟨⟨[98]⟩⟩,⟨⟨[99]⟩⟩]
  | 1=>[⟨⟨[98]⟩⟩,⟨⟨[99]⟩⟩,⟨⟨[100]⟩⟩]
  | _=>[⟨⟨[98]⟩⟩,⟨⟨[99]⟩⟩,⟨⟨[100]⟩⟩,⟨⟨[101]⟩⟩]
noncomputable abbrev qI (l:List Str):QA:={ term:=.int 0,voted:=.none,jterm:=.int 0,jvoted:=.none,leader:=.none,dead:=.int 400,commit:=.int 1,at1:=.int 1,lst:=.int 0,lc:=.none,orc:=.bool false,st:=.int 0,nd:=.int 0,now:=.int 0,oterm:=.int 0,ovoted:=.none,oleader:=.none,ocommit:=.int 1,oat:=.int 1,onow:=.int 0,oreset:=.int 0,log:=.list [.tup [.tup [.int 1],.int 1,.int 0]],done:=.list [],olog:=.list [.tup [.tup [.int 1],.int 1,.int 0]],odone:=.list [],nl:=.list (l.map .str) }
noncomputable abbrev sE:Ent:=⟨none,1,0⟩
noncomputable abbrev s0 (l:List Str):S:={ nl:=l.map .str,term:=0,voted:=none,leader:=none,log:=[sE],commit:=1,at1:=1,now:=0,reset:=0,done:=[],lc:=none,orc:=false,st:=0,nd:=0,lst:=0 }
noncomputable abbrev sig0 (ns:List Int) (l:List Str):Store:=(27,.slist (allN ns)) :: sigQ (qI l)
noncomputable def fN:Stmt → PySem.Expr | .For _ i _ _ _=>i | _=>default
noncomputable def fEl:Stmt → List PySem.Expr | .For (.Tuple l _ _) _ _ _ _=>l | _=>[]
noncomputable def fEx:Stmt → Nat | .For (.Tuple _ x _) _ _ _ _=>x | _=>0
noncomputable def fEp:Stmt → Pos | .For (.Tuple _ _ p) _ _ _ _=>p | _=>default
noncomputable def fPs:Stmt → Pos | .For _ _ _ _ p=>p | _=>default
noncomputable def cX:PySem.Expr → Str | .Call (.Name x _) _ _ _=>x | _=>default
noncomputable def cXp:PySem.Expr → Pos | .Call (.Name _ p) _ _ _=>p | _=>default
noncomputable def cA:PySem.Expr → PySem.Expr | .Call _ (a :: _) _ _=>a | _=>default
noncomputable def cPc:PySem.Expr → Pos | .Call _ _ _ p=>p | _=>default
noncomputable abbrev loopS (P:Params):Stmt:=stA P 1109 1090
@[irreducible] noncomputable def elP (P:Params):List PySem.Expr:=fEl (loopS P)
@[irreducible] noncomputable def exP (P:Params):Nat:=fEx (loopS P)
@[irreducible] noncomputable def epP (P:Params):Pos:=fEp (loopS P)
noncomputable abbrev enE (P:Params):PySem.Expr:=cA (fN (loopS P))
section
variable {X:Cx} {P:Params} {ns:List Int} {h:AV}
theorem loopS_eq (P:Params):loopS P = .For (.Tuple (elP P) (exP P) (epP P)) (.Call (.Name (cX (fN (loopS P))) (cXp (fN (loopS P)))) [enE P] [] (cPc (fN (loopS P)))) (turnB P) [] (fPs (loopS P)):=by kernel_rfl
noncomputable def enK (ns:List Int) (h:AV) (l:List Str) (a:AV) (w:W):Prop:=a = .loc 32∧w.nx = 33∧gts (preF ns h) (keysOf frm) = mpF (fOf f1) frm∧gts w.σ (mapF (fOf f1) (keysOf (sig0 ns l))) = mpS (fOf f1) (sig0 ns l)
noncomputable abbrev enKt (ns:List Int) (l:List Str):Prop:=AV.loc 32 = .loc 32∧33 = 33∧mpF (fOf f1) frm = mpF (fOf f1) frm∧mpS (fOf f1) (sig0 ns l) = mpS (fOf f1) (sig0 ns l)
theorem enKt_ok (ns:List Int) (l:List Str):enKt ns l:=⟨rfl,rfl,rfl,rfl⟩
noncomputable abbrev lits:List AV:=[.int 72,.int 14,.int (13 + 24 * 30),.int 3,.int 97,.int 4,.int 1009,.int 3,.int 50021,.int 9,.int 3]
theorem en_run (h1:(ns.map AV.si).length ≤ sizeLine) (h2:(cut (ns.map .si) (some 1) (some 25)).length ≤ sizeLine) (h3:(cut (ns.map .si) (some 1) (some 25)).length + lits.length ≤ sizeLine) :
    ∀ k,k < 3 → XE X P 198 1109 (enE P) (preF ns h) [] (preS (strK k)) 29 (enK ns h (strK k))
  | 0,_=>kmp (p:=((ns.map AV.si).length ≤ sizeLine)∧((cut (ns.map .si) (some 1) (some 25)).length ≤ sizeLine)∧((cut (ns.map .si) (some 1) (some 25)).length + lits.length ≤ sizeLine)∧enKt ns (strK 0)) (by kernel_rfl) ⟨h1,h2,h3,enKt_ok _ _⟩
  | 1,_=>kmp (p:=((ns.map AV.si).length ≤ sizeLine)∧((cut (ns.map .si) (some 1) (some 25)).length ≤ sizeLine)∧((cut (ns.map .si) (some 1) (some 25)).length + lits.length ≤ sizeLine)∧enKt ns (strK 1)) (by kernel_rfl) ⟨h1,h2,h3,enKt_ok _ _⟩
  | 2,_=>kmp (p:=((ns.map AV.si).length ≤ sizeLine)∧((cut (ns.map .si) (some 1) (some 25)).length ≤ sizeLine)∧((cut (ns.map .si) (some 1) (some 25)).length + lits.length ≤ sizeLine)∧enKt ns (strK 2)) (by kernel_rfl) ⟨h1,h2,h3,enKt_ok _ _⟩
  | k + 3,hk=>absurd hk (by omega)
/-- the target of the loop -/
@[irreducible] noncomputable def XS (X:Cx) (P:Params) (n:Nat) (t:PySem.Expr) (a:AV) (F:Frame) (w:W) (k:KF):Prop:=sto (T P) (run X (T P) n) (fiA P 1109) t a F w k
noncomputable def tgK (σ:Store) (j num:Int) (F:Frame) (w:W):Prop:=w.σ = σ∧w.nx = 27∧gts F (keysOf (frmN j num)) = mpF (fOf []) (frmN j num)
theorem tg_run {j num:Int} {σ:Store}:XS X P 198 (.Tuple (elP P) (exP P) (epP P)) (.tup [.si j,.si num]) frm ⟨[],σ,27⟩ (tgK σ j num):=
  kmp (p:=σ = σ∧27 = 27∧mpF (fOf []) (frmN j num) = mpF (fOf []) (frmN j num)) (by kernel_rfl) ⟨rfl,rfl,rfl⟩
theorem frmN_up {F:Frame} {j num:Int} (h:gts F (keysOf (frmN j num)) = mpF (fOf []) (frmN j num)):∀ c av,gt (frmN j num) c = some av → gt F c = some av:=fun c av e=>by
  have:=gts_F h _ (gt_mem' e)
  rwa [mp_id] at this
theorem cut25 (l:List AV):cut l (some 1) (some 25) = (l.take 25).drop 1:=by
  simp only [cut,clamp_nn (show (0:Int) ≤ 1 by decide),clamp_nn (show (0:Int) ≤ 25 by decide)]
  show (l.take (min 25 l.length)).drop (min 1 l.length) = _
  have e1:l.take (min 25 l.length) = l.take 25:=by
    by_cases h:25 ≤ l.length
    · rw [Nat.min_eq_left h]
    · rw [Nat.min_eq_right (by omega),List.take_of_length_le (Nat.le_refl _),List.take_of_length_le (by omega)]
  rw [e1]
  cases l with
  | nil=>rfl
  | cons a l=>rw [Nat.min_eq_left (by simp)]
theorem Ls.app {a b c d:List AV} (h:Ls a c) (k:Ls b d):Ls (a ++ b) (c ++ d):=by
  induction h with
  | nil=>exact k
  | cons x _ ih=>exact .cons x ih
noncomputable def numsN (ns:List Int):List Int:=((ns.take 25).drop 1) ++ [72,14,733,3,97,4,1009,3,50021,9,3]
theorem all_ls (ns:List Int):Ls (allN ns) ((numsN ns).map .si):=by
  unfold numsN
  rw [List.map_append]
  refine Ls.app ?_ (.cons AVle.int (.cons AVle.int (.cons AVle.int (.cons AVle.int (.cons AVle.int (.cons AVle.int (.cons AVle.int (.cons AVle.int (.cons AVle.int (.cons AVle.int (.cons AVle.int .nil)))))))))))
  rw [cut25,List.map_drop,List.map_take]
  exact Ls_refl _
theorem nums_len (ns:List Int):(numsN ns).length ≤ 35:=by
  unfold numsN
  simp only [List.length_append,List.length_drop,List.length_take,List.length_cons,List.length_nil]
  omega
theorem NL_all (ns:List Int):∀ a ∈ allN ns,NL a:=fun a h=>by
  rcases List.mem_append.mp h with h | h
  · rw [cut25] at h
    obtain ⟨i,_,rfl⟩:=List.mem_map.mp (List.mem_of_mem_take (List.mem_of_mem_drop h))
    exact NL.si
  · simp only [List.mem_cons,List.not_mem_nil,or_false] at h
    rcases h with rfl | rfl | rfl | rfl | rfl | rfl | rfl | rfl | rfl | rfl | rfl <;> exact NL.int
theorem s0_inv {k:Nat} (hk:k < 3):Inv 0 (s0 (strK k)) where
  nl:=⟨k,hk,by match k,hk with | 0,_=>rfl | 1,_=>rfl | 2,_=>rfl⟩
  log:=fun i e he=>by
    cases i with
    | zero=>cases he; exact ⟨rfl,Int.le_refl _⟩
    | succ i=>cases he
  ne:=Nat.le_refl _
  ln:=Nat.le_refl _
  now0:=Int.le_refl _
  now1:=Int.le_refl _
  res0:=Int.le_refl _
  res1:=by show (0:Int) ≤ 0 + 399; decide
  lst0:=Int.le_refl _
  lst1:=Int.le_refl _
  at1:=Int.le_refl _
  cm0:=Int.le_refl _
  cm1:=Int.le_refl _
  dn:=Nat.le_refl _
noncomputable abbrev qJ (l:List Str):QA:={ qI l with log:=.slist [entA sE],olog:=.slist [entA sE] }
theorem log_le:OLe (.list [.tup [.tup [.int 1],.int 1,.int 0]]) (.slist [entA sE]):=OLe.slist (.cons (AVle.tup (.cons AVle.refl (.cons AVle.int (.cons AVle.int .nil)))) .nil)
theorem q_le (l:List Str):Ss (sigQ (qI l)) (sigQ (qJ l)):=
  .cons OLe.refl (.cons log_le (.cons OLe.refl (.cons OLe.refl (.cons OLe.refl (.cons OLe.refl (.cons OLe.refl (.cons OLe.refl (.cons OLe.refl (.cons OLe.refl (.cons OLe.refl (.cons OLe.refl (.cons OLe.refl (.cons OLe.refl (.cons OLe.refl (.cons log_le (Ss.rfl' _))))))))))))))))
theorem fit0 (l:List Str):Fit (qJ l) (s0 l):=
  { term:=AVle.int,voted:=AVle.son,jterm:=AVle.int,jvoted:=AVle.son,leader:=AVle.son,dead:=AVle.int,commit:=AVle.int,at1:=AVle.int,lst:=AVle.int,lc:=AVle.ion,orc:=AVle.bool,st:=AVle.int,nd:=AVle.int,now:=AVle.int,oterm:=AVle.int,ovoted:=AVle.son,oleader:=AVle.son,ocommit:=AVle.int,oat:=AVle.int,onow:=AVle.int,oreset:=AVle.int,done:=Or.inr rfl,odone:=Or.inr rfl,nl:=Or.inr rfl }
/-- a turn,whatever it is -/
theorem turn_any (ok:X.Ok (K P)) {j:Nat} {s:S} {num:Int} (I:Inv j s) (hj:j ≤ 40):TurnR X P j num s:=by
  have a:=Int.fmod_nonneg_of_pos num (b:=6) (by decide)
  have b:=Int.fmod_lt_of_pos num (b:=6) (by decide)
  by_cases h0:num.fmod 6 = 0
  · exact vote_turn ok I hj h0
  · by_cases h3:num.fmod 6 < 3
    · exact entries_turn ok I hj h0 h3
    · by_cases h4:num.fmod 6 = 3
      · exact tick_turn ok I hj h4
      · by_cases h5:num.fmod 6 = 4
        · exact crash_turn ok I hj h5
        · exact late_turn ok I hj (by omega)
noncomputable abbrev Gt (j:Nat) (F:Frame) (w:W):Prop:=∃ s,F = frm∧w.σ = sgs s∧w.nx = 27∧Inv j s
theorem sto_run (ok:X.Ok (K P)) {n:Nat} {t:PySem.Expr} {a:AV} {F:Frame} {w:W} {k:KF} (nm:NmOk (fdAt (K P) 1109) (fiA P 1109).nm) (h:XS X P n t a F w k):StoOk X (n + 1) (fdAt (K P) 1109) t a F w k:=by
  unfold XS at h
  exact sto_ok ok (tab_ok P).1 nm ((ro ok n).ev _ nm) h
theorem enum_xe (ok:X.Ok (K P)) {n f nx:Nat} {F:Frame} {σ:Store} {o:List Hint} {x:Str} {px pc ps:Pos} {e t:PySem.Expr} {body:List Stmt} {kk:KE} (nm:NmOk (fdAt (K P) f) (fiA P f).nm)
    (he:gt (fiA P f).nm (cd x) = some false) (hb:gt (T P).glob (cd x) = some (.bi .enum)) (hp:plainE e = true) (h:XE X P n f e F o σ nx kk) {Q:QS} (p:At X (n + 1) F σ nx)
    (k:∀ a J1 ρ1 σ1 n1 s1 v,Rel X J1 ρ1 p.L F σ1 n1 s1 → Ext p.J nx p.ρ J1 n1 ρ1 → VR J1 n1 ρ1 a v → (∃ o,kk a ⟨o,σ1,n1⟩) →
      wpAny p.M p.A (call (.type "enumerate") [v]) (fun x s₁=>wpAny p.M p.A (pyIter x) (fun it s₂=>codeAny p.M p.A (.forLoop t it body [] (p.env (fdAt (K P) f))) (fun r s'=>match r with | .ok f=>p.AnsS Q f s' | .error e=>cameBackBy p.M p.A (p.env (fdAt (K P) f)) no e s') s₂) no s₁) no s1) :
    wpAny p.M p.A (exec (.For t (.Call (.Name x px) [e] [] pc) body [] ps) (p.env (fdAt (K P) f))) (p.AnsS Q) no p.s:=by
  unfold XE at h
  exact enum_for (fi:=fiA P f) ok (tab_ok P).2 nm ((ro ok n).ev _ nm F) he hb hp h p k
noncomputable def TurnX (X:Cx) (P:Params) (B:List Stmt):Prop:=∀ (j:Nat) (s:S) (num:Int),Inv j s → j ≤ 40 → ∃ s',Inv (j + 1) s'∧Xs X 190 (fdAt (K P) 1109) (frmN (j:Int) num) (fun env=>execs B env) (sgs s) 27 fun φ F2 σ2 n2=>φ = .next∧Next X (fun F w=>F = frm∧w.σ = sgs s'∧w.nx = 27) F2 σ2 n2
theorem step_ok (ok:X.Ok (K P)) (nm:NmOk (fdAt (K P) 1109) (fiA P 1109).nm) {t:PySem.Expr} {B:List Stmt} (tg:∀ (j num:Int) (σ:Store),XS X P 198 t (.tup [.si j,.si num]) frm ⟨[],σ,27⟩ (tgK σ j num)) (tu:TurnX X P B) {nums:List Int} (hl:nums.length ≤ 35) (j:Nat) (F:Frame) (w:W) (v:AV) (g:Gt j F w) (hv:(nums.map AV.si)[j]? = some v) :
    ∃ H:Frame → W → Prop,StoOk X 199 (fdAt (K P) 1109) t (.tup [.si (j:Int),v]) F w H∧∀ F' w',H F' w' → Xs X 199 (fdAt (K P) 1109) F' (fun env=>execs B env) w'.σ w'.nx fun φ F2 σ2 n2=>φ = .next∧Next X (Gt (j + 1)) F2 σ2 n2:=by
  obtain ⟨o,σ,nx⟩:=w
  obtain ⟨s,rfl,e1,e2,I⟩:=g
  dsimp only at e1 e2
  subst e1 e2
  obtain ⟨num,hn,rfl⟩:∃ num,nums[j]? = some num∧AV.si num = v:=by
    rw [List.getElem?_map] at hv
    cases q:nums[j]? with
    | none=>rw [q] at hv; cases hv
    | some e=>rw [q] at hv; cases hv; exact ⟨e,rfl,rfl⟩
  have hjl:=(List.getElem?_eq_some_iff.mp hn).1
  refine ⟨tgK (sgs s) (j:Int) num,(sto_run ok nm (tg (j:Int) num (sgs s)):StoOk X 199 _ t _ frm ⟨[],sgs s,27⟩ _),fun F' w' hH=>?_⟩
  obtain ⟨c1,c2,c3⟩:=hH
  obtain ⟨s',I',hX⟩:=tu j s num I (by omega)
  rw [c1,c2]
  have hY:=Xs.ups hX 9
  refine Xs_mono (fun p=>hY ⟨p.A,p.J,p.ρ,p.L,p.f,p.s,p.hh,p.hd,p.hu,p.R.names (frmN_up c3)⟩) fun φ F2 σ2 n2 z=>⟨z.1,fun {J ρ L s} R=>?_⟩
  obtain ⟨ρ',F',w',R',z1,z2,z3⟩:=z.2 R
  exact ⟨ρ',F',w',R',s',z1,z2,z3,I'⟩
theorem sig_pin {ns:List Int} {k:Nat} (m:Nat) (o:AObj) (e:gt (sigQ (qI (strK k))) m = some o):m ≠ 27∧gt (sig0 ns (strK k)) m = some o:=by
  have h:okS 27 (sigQ (qI (strK k))) = true ∨ True:=.inr trivial
  by_cases hm:m = 27
  · subst hm; cases e
  · refine ⟨hm,?_⟩
    show (match Nat.beq 27 m with | true=>some _ | false=>gt (sigQ (qI (strK k))) m) = some o
    rw [show Nat.beq 27 m = false from by cases q:Nat.beq 27 m with | false=>rfl | true=>exact absurd (Nat.eq_of_beq_eq_true q).symm hm]
    exact e
theorem sig_nl {ns:List Int} {l:List Str}:∀ p ∈ sig0 ns l,∀ m,p.2 = .slist m → ∀ a ∈ m,NL a:=by
  intro q hq l e
  rcases List.mem_cons.mp hq with rfl | hq
  · cases e; exact NL_all ns
  · simp only [sigQ,List.mem_cons,List.not_mem_nil,or_false] at hq
    rcases hq with rfl | rfl | rfl | rfl | rfl | rfl | rfl | rfl | rfl | rfl | rfl | rfl | rfl | rfl | rfl | rfl | rfl | rfl <;> cases e
theorem sg_a (ns:List Int):∀ k,k < 3 → okS 28 (sig0 ns (strK k)) = true
  | 0,_=>by kernel_rfl
  | 1,_=>by kernel_rfl
  | 2,_=>by kernel_rfl
  | k + 3,hk=>absurd hk (by omega)
theorem sg_b (ns:List Int):∀ k,k < 3 → nodupB (mapF (fOf f1) (keysOf (sig0 ns (strK k)))) = true:=fun k _=>by kernel_rfl
theorem sg_c:∀ k,k < 3 → okS 27 (sigQ (qI (strK k))) = true
  | 0,_=>by kernel_rfl
  | 1,_=>by kernel_rfl
  | 2,_=>by kernel_rfl
  | k + 3,hk=>absurd hk (by omega)
theorem sg_d (k:Nat):nodupB (mapF (fOf []) (keysOf (sigQ (qI (strK k))))) = true:=by kernel_rfl
theorem sg_e:gts frm (keysOf frm) = mpF (fOf []) frm:=by kernel_rfl
theorem sg_f:∀ k,k < 3 → gts (sigQ (qI (strK k))) (mapF (fOf []) (keysOf (sigQ (qI (strK k))))) = mpS (fOf []) (sigQ (qI (strK k)))
  | 0,_=>by kernel_rfl
  | 1,_=>by kernel_rfl
  | 2,_=>by kernel_rfl
  | k + 3,hk=>absurd hk (by omega)
theorem frm_ok:okF 28 frm = true:=by kernel_rfl
theorem frm_ok':okF 27 frm = true:=by kernel_rfl
/-- what the loop finds -/
theorem find_ok {k:Nat} (hk:k < 3) {J1:Frozen} {ρ1:Nat → Addr} {L:Lk} {σ1:Store} {s1:Shared} (R1:Rel X J1 ρ1 L (preF ns h) σ1 33 s1) (e2:gts (preF ns h) (keysOf frm) = mpF (fOf f1) frm) (e3:gts σ1 (mapF (fOf f1) (keysOf (sig0 ns (strK k)))) = mpS (fOf f1) (sig0 ns (strK k))) :
    ∃ ob J2 ρ2,J1 (ρ1 32) = none∧J2 = put J1 (ρ1 32) ob∧Rel X J2 ρ2 L frm (sgs (s0 (strK k))) 27 s1∧VR J2 27 ρ2 (.sl ((numsN ns).map .si)) (.ref (ρ1 32)):=by
  have R2:=R1.renL (fOf f1) (F':=frm) (nx':=28) (σ':=sig0 ns (strK k)) frm_ok (sg_a ns k hk) (sg_b ns k hk) e2 e3 sig_nl
  obtain ⟨ob,n1,R3,V3⟩:=R2.pin (σ':=sigQ (qI (strK k))) (n:=27) (l:=allN ns) rfl sig_pin
  have R4:=R3.renL (fOf []) (F':=frm) (nx':=27) (σ':=sigQ (qI (strK k))) frm_ok' (sg_c k hk) (sg_d k) sg_e (sg_f k hk) (fun q hq=>sig_nl (ns:=ns) q (List.mem_cons_of_mem _ hq))
  have R5:=(R4.soft (frm_as frm) (q_le _)).soft (frm_as frm) (fit0 _).ss
  refine ⟨ob,_,_,n1,rfl,R5,?_⟩
  cases V3 with
  | @sl _ _ vs ep g gs=>exact .sl g ((all_ls ns).vr (NLs_tup (NL_all ns) gs))
/-- the law's loop -/
theorem loop_gen (ok:X.Ok (K P)) (nm:NmOk (fdAt (K P) 1109) (fiA P 1109).nm) {s:Stmt} {x:Str} {px pc ps tp:Pos} {x1:Nat} {e:PySem.Expr} {elts:List PySem.Expr} {B:List Stmt} (hst:s = .For (.Tuple elts x1 tp) (.Call (.Name x px) [e] [] pc) B [] ps)
    (he:gt (fiA P 1109).nm (cd x) = some false) (hb:gt (T P).glob (cd x) = some (.bi .enum)) (hp:plainE e = true) {k:Nat} (hk:k < 3) (run:XE X P 198 1109 e (preF ns h) [] (preS (strK k)) 29 (enK ns h (strK k)))
    (tg:∀ (j num:Int) (σ:Store),XS X P 198 (.Tuple elts x1 tp) (.tup [.si j,.si num]) frm ⟨[],σ,27⟩ (tgK σ j num)) (tu:TurnX X P B):XsOk X 199 (fdAt (K P) 1109) (preF ns h) s (preS (strK k)) 29 .next [] [] 33:=by
  subst hst
  refine xsMk fun p=>?_
  refine enum_xe ok nm he hb hp run p (fun a J1 ρ1 σ1 n1 s1 v R1 E1 x1 z1=>?_)
  obtain ⟨o1,rfl,e1,e2,e3⟩:=z1
  dsimp only at e1 e3
  subst e1
  have hl:=R1.loc_at x1
  subst hl
  obtain ⟨ob,J2,ρ2,n1,hJ2,R5,V5⟩:=find_ok hk R1 e2 e3
  have:=for_enum (fd:=fdAt (K P) 1109) (body:=B) (d:=199) (w:=⟨[],sgs (s0 (strK k)),27⟩) (l:=(numsN ns).map .si) (fun a m=>by obtain ⟨i,_,rfl⟩:=List.mem_map.mp m; exact NL.si) Gt (step_ok ok nm tg tu (nums_len ns)) (p.to R5) V5 ⟨_,rfl,rfl,rfl,s0_inv hk⟩ (n':=33) (show 27 ≤ 33 by decide)
  refine wpAny_mono this (fun x s2 h2=>wpAny_mono h2 (fun it s3 h3=>codeAny_mono h3 fun rr s4 z=>?_) fun _ _ z=>z) fun _ _ z=>z
  cases rr with
  | ok f=>
    obtain ⟨φ,F',J',ρ',σ',nx',E',R',xx,q1,q2,q3,q4⟩:=z
    subst q1 q2 q3 q4 hJ2
    cases f <;> first | exact xx.elim | skip
    exact ⟨.next,[],J',p.ρ,[],33,⟨fun b o q=>E'.j _ _ ((put_ext (nx:=33) (ρ:=ρ1) n1).j _ _ (E1.j _ _ q)),E1.n,fun _ _=>rfl⟩,R'.bare,trivial,rfl,rfl,rfl,rfl⟩
  | error e=>exact z
theorem turnX (ok:X.Ok (K P)):TurnX X P (turnB P):=fun j s num I hj=>turn_any ok I hj
theorem loop_ok (ok:X.Ok (K P)) (hns:ns.length ≤ 63) {k:Nat} (hk:k < 3):XsOk X 199 (fdAt (K P) 1109) (preF ns h) (loopS P) (preS (strK k)) 29 .next [] [] 33:=by
  have hc:(cut (ns.map AV.si) (some 1) (some 25)).length ≤ 25:=by
    rw [cut25]; simp only [List.length_drop,List.length_take]; omega
  exact loop_gen ok (nmA P (f:=1109) (by kernel_rfl)) (loopS_eq P) (by kernel_rfl) (by kernel_rfl) (by kernel_rfl) hk (en_run (X:=X) (P:=P) (h:=h) (ns:=ns) (size_ok (by rw [List.length_map]; omega)) (size_ok (by omega)) (size_ok (by show _ + 11 ≤ _; omega)) k hk) (fun j num σ=>tg_run) (turnX ok)
end
end Mine
namespace Mine
section
variable {X:Cx} {P:Params} {ns:List Int}
noncomputable def preQ (fl:Fl) (F:Frame) (w:W):Prop:=fl = .ret (.bool true)
theorem pr_xs {X:Cx} {T:Tab} {n:Nat} (ro:RunOk X T n) {fi:Fi} (nm:NmOk fi.fd fi.nm) {B:List Stmt} {F:Frame} {w:W} {k:KS} (hp:PR X T n fi F B w k):Xs X n fi.fd F (fun env=>execs B env) w.σ w.nx (qS k):=by
  unfold PR at hp
  exact ro.xs fi nm _ _ _ _ hp
noncomputable abbrev four:List AV:=[.str ⟨⟨[98]⟩⟩,.str ⟨⟨[99]⟩⟩,.str ⟨⟨[100]⟩⟩,.str ⟨⟨[101]⟩⟩]
theorem pre_run {hd:Int} (h1:(ns.map AV.si).length < 2 ^ 62) (h2:(!(ns.map AV.si).isEmpty) = true) (h3:(ns.map AV.si).length < 2 ^ 62∧SoftO (ix (ns.map AV.si) 0) (.si hd)) :
    ∀ k,k < 3 → cut four none (some (2 + hd.fmod 3)) = (strK k).map .str → XsOk X 199 (fdAt (K P) 1109) (preF ns (.si hd)) (loopS P) (preS (strK k)) 29 .next [] [] 33 →
    PR X (T P) 200 (lawFi P) [(n_script,.sl (ns.map .si))] (lawB P) ⟨[.bit true,.av (.si hd),.av (.fl ((strK k).map .str)),.stmt 1090 .next [] [] 33],[],0⟩ preQ
  | 0,_=>fun h4 h5=>kmp (p:=((ns.map AV.si).length < 2 ^ 62)∧((!(ns.map AV.si).isEmpty) = true)∧((ns.map AV.si).length < 2 ^ 62∧SoftO (ix (ns.map AV.si) 0) (.si hd))∧(cut four none (some (2 + hd.fmod 3)) = (strK 0).map .str)∧(XsOk X 199 (fdAt (K P) 1109) (preF ns (.si hd)) (loopS P) (preS (strK 0)) 29 .next [] [] 33)∧Fl.ret (.bool true) = .ret (.bool true)) (by kernel_rfl) ⟨h1,h2,h3,h4,h5,rfl⟩
  | 1,_=>fun h4 h5=>kmp (p:=((ns.map AV.si).length < 2 ^ 62)∧((!(ns.map AV.si).isEmpty) = true)∧((ns.map AV.si).length < 2 ^ 62∧SoftO (ix (ns.map AV.si) 0) (.si hd))∧(cut four none (some (2 + hd.fmod 3)) = (strK 1).map .str)∧(XsOk X 199 (fdAt (K P) 1109) (preF ns (.si hd)) (loopS P) (preS (strK 1)) 29 .next [] [] 33)∧Fl.ret (.bool true) = .ret (.bool true)) (by kernel_rfl) ⟨h1,h2,h3,h4,h5,rfl⟩
  | 2,_=>fun h4 h5=>kmp (p:=((ns.map AV.si).length < 2 ^ 62)∧((!(ns.map AV.si).isEmpty) = true)∧((ns.map AV.si).length < 2 ^ 62∧SoftO (ix (ns.map AV.si) 0) (.si hd))∧(cut four none (some (2 + hd.fmod 3)) = (strK 2).map .str)∧(XsOk X 199 (fdAt (K P) 1109) (preF ns (.si hd)) (loopS P) (preS (strK 2)) 29 .next [] [] 33)∧Fl.ret (.bool true) = .ret (.bool true)) (by kernel_rfl) ⟨h1,h2,h3,h4,h5,rfl⟩
  | k + 3,hk=>absurd hk (by omega)
theorem pre_nil (h1:(ns.map AV.si).length < 2 ^ 62) (h2:(!(ns.map AV.si).isEmpty) = false) (h5:XsOk X 199 (fdAt (K P) 1109) (preF ns (.int 0)) (loopS P) (preS (strK 0)) 29 .next [] [] 33) :
    PR X (T P) 200 (lawFi P) [(n_script,.sl (ns.map .si))] (lawB P) ⟨[.bit false,.stmt 1090 .next [] [] 33],[],0⟩ preQ:=
  kmp (p:=((ns.map AV.si).length < 2 ^ 62)∧((!(ns.map AV.si).isEmpty) = false)∧(XsOk X 199 (fdAt (K P) 1109) (preF ns (.int 0)) (loopS P) (preS (strK 0)) 29 .next [] [] 33)∧Fl.ret (.bool true) = .ret (.bool true)) (by kernel_rfl) ⟨h1,h2,h5,rfl⟩
theorem c4a {hd:Int} (h:hd.fmod 3 = 0):cut four none (some (2 + hd.fmod 3)) = (strK 0).map .str:=by
  rw [h]
  kernel_rfl
theorem c4b {hd:Int} (h:hd.fmod 3 = 1):cut four none (some (2 + hd.fmod 3)) = (strK 1).map .str:=by
  rw [h]
  kernel_rfl
theorem c4c {hd:Int} (h:hd.fmod 3 = 2):cut four none (some (2 + hd.fmod 3)) = (strK 2).map .str:=by
  rw [h]
  kernel_rfl
theorem lawB_eq (P:Params):lawB P = dLaw.body:=by
  unfold lawB
  rw [(law_parts P).1]
noncomputable def lawK:QS:=fun fl _ _ _=>fl = .ret (.bool true)
@[irreducible] noncomputable def LX (X:Cx) (P:Params) (b:List Stmt) (F:Frame) (σ:Store):Prop:=Xs X 200 (fdAt (K P) 1109) F (fun env=>execs b env) σ 0 lawK
theorem lx_of (ok:X.Ok (K P)) {o:List Hint} {σ:Store} {F:Frame} {b:List Stmt} (h:PR X (T P) 200 (lawFi P) F b ⟨o,σ,0⟩ preQ):LX X P b F σ:=by
  unfold LX
  exact Xs_mono (pr_xs (ro ok 200) (lawNm P) h) fun φ F2 σ2 n2 ⟨o,q⟩=>q
theorem lx_out {σ:Store} {F:Frame} {b:List Stmt} (h:LX X P b F σ):Xs X 200 (fdAt (K P) 1109) F (fun env=>execs b env) σ 0 fun fl _ _ _=>match fl with | .ret a=>a = .bool true | _=>False:=by
  unfold LX at h
  exact Xs_mono h fun φ F2 σ2 n2 q=>by cases q; rfl
theorem law_end (ok:X.Ok (K P)) {o:List Hint} {σ:Store} {F:Frame} (h:PR X (T P) 200 (lawFi P) F (lawB P) ⟨o,σ,0⟩ preQ):LX X P dLaw.body F σ:=by
  rw [← lawB_eq P]
  exact lx_of ok h
theorem law_cons (ok:X.Ok (K P)) {hd:Int} (hns:ns.length ≤ 63) (k:Nat) (hk:k < 3) (hl:(ns.map AV.si).length < 2 ^ 62) (h2:(!(ns.map AV.si).isEmpty) = true) (hx:SoftO (ix (ns.map AV.si) 0) (.si hd)) (h4:cut four none (some (2 + hd.fmod 3)) = (strK k).map .str) :
    LX X P dLaw.body [(n_script,.sl (ns.map .si))] []:=
  law_end ok (pre_run hl h2 ⟨hl,hx⟩ k hk h4 (loop_ok (k:=k) (h:=.si hd) ok hns hk))
theorem law_nil (ok:X.Ok (K P)) (hns:ns.length ≤ 63) (hl:(ns.map AV.si).length < 2 ^ 62) (h2:(!(ns.map AV.si).isEmpty) = false) :
    LX X P dLaw.body [(n_script,.sl (ns.map .si))] []:=
  law_end ok (pre_nil hl h2 (loop_ok (k:=0) (h:=.int 0) ok hns (by decide)))
theorem script_cd:cd ⟨⟨[115,99,114,105,112,116]⟩⟩ = n_script:=by kernel_rfl
theorem law_all (ok:X.Ok (K P)) (hns:ns.length ≤ 63):LX X P dLaw.body [(n_script,.sl (ns.map .si))] []:=by
  have hl:(ns.map AV.si).length < 2 ^ 62:=by
    rw [List.length_map]; exact Nat.lt_of_le_of_lt hns (by decide)
  cases ns with
  | nil=>exact law_nil ok hns hl rfl
  | cons hd ns=>
    have a:=Int.fmod_nonneg_of_pos hd (b:=3) (by decide)
    have b:=Int.fmod_lt_of_pos hd (b:=3) (by decide)
    have hx:SoftO (ix ((hd :: ns).map AV.si) 0) (.si hd):=⟨_,rfl,.refl _⟩
    rcases (by omega:hd.fmod 3 = 0 ∨ hd.fmod 3 = 1 ∨ hd.fmod 3 = 2) with h | h | h
    · exact law_cons ok hns 0 (by decide) hl rfl hx (c4a h)
    · exact law_cons ok hns 1 (by decide) hl rfl hx (c4b h)
    · exact law_cons ok hns 2 (by decide) hl rfl hx (c4c h)
set_option maxHeartbeats 0 in
theorem law_runs:LawRuns:=fun X P _ _ ok ns hns=>by
  rw [script_cd]
  exact lx_out (law_all ok hns)
theorem law_holds:PySem.Challenge.rw_jd0036_02.Holds:=law_of law_runs
end
end Mine
end
theorem PySem.Challenge.cw_jd0036_02_holds : PySem.Challenge.rw_jd0036_02.Holds :=
  Mine.law_holds
