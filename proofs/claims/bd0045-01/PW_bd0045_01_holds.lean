import PyProof.Rows.All
import Wide.All
import OpenK.AllK
import Wide.FinOn
import Lean
import PySem.Challenge.RW_bd0045_01
set_option Elab.async false
set_option maxRecDepth 100000
set_option linter.all false

section
open PySem PySem.W PySem.W.X PySem.Calls PyProof.Rows
set_option maxHeartbeats 0
namespace Mine
theorem kstep (h : PySem.Challenge.rw_bd0045_01.row.wellSaid = true → PySem.Challenge.rw_bd0045_01.row.Holds) : PySem.Challenge.rw_bd0045_01.Holds := by
  w_on; o_law
  exact h (by assumption)
noncomputable abbrev kprog : Program := PySem.W.Fast.tw16396191551084595176
theorem kprog_eq : PySem.Challenge.pw_bd0045_01 = kprog := PySem.W.Fast.te16396191551084595176
noncomputable def kst (i : Nat) : Stmt := kprog.main.body.getD i (.Return none ⟨0, 0, 0, 0⟩)
noncomputable def kin (i j : Nat) : Stmt := match kst i with
  | .ClassDef _ _ _ b _ _ _ _ _ _ _ => b.getD j (.Return none ⟨0, 0, 0, 0⟩)
  | _ => .Return none ⟨0, 0, 0, 0⟩
noncomputable def fdP (s : Stmt) : Arguments := match s with
  | .FunctionDef _ a _ _ _ _ _ _ _ _ => a
  | _ => default
noncomputable def fdB (s : Stmt) : List Stmt := match s with
  | .FunctionDef _ _ b _ _ _ _ _ _ _ => b
  | _ => []
noncomputable def fdS (s : Stmt) : Scope := match s with
  | .FunctionDef _ _ _ _ _ _ sc _ _ _ => sc
  | _ => default
noncomputable def fdD (s : Stmt) : Str := (docOf (fdB s)).getD ⟨⟨[]⟩⟩
noncomputable def k0 (P : Params) : Obj := PySem.W.boot_o_0 P
noncomputable def k2 (_ : Params) : Obj := (PySem.Obj.mk .none none (.dict ⟨[]⟩ 0) ⟨[]⟩)
noncomputable def k3 (P : Params) : Obj := (PySem.Obj.mk (.type PySem.W.SZ.s14018661285674007319x4) none (.dict ⟨[⟨(PySem.PyData.keyHash P ⟨⟨[95, 95, 110, 97, 109, 101, 95, 95]⟩⟩), (.str ⟨⟨[95, 95, 110, 97, 109, 101, 95, 95]⟩⟩ 165), (.str ⟨⟨[108, 97, 119, 95, 98, 100, 48, 48, 52, 53, 95, 48, 49]⟩⟩ 525)⟩, ⟨(PySem.PyData.keyHash P ⟨⟨[95, 95, 100, 111, 99, 95, 95]⟩⟩), (.str ⟨⟨[95, 95, 100, 111, 99, 95, 95]⟩⟩ 166), .none⟩, ⟨(PySem.PyData.keyHash P ⟨⟨[95, 95, 112, 97, 99, 107, 97, 103, 101, 95, 95]⟩⟩), (.str ⟨⟨[95, 95, 112, 97, 99, 107, 97, 103, 101, 95, 95]⟩⟩ 167), .none⟩, ⟨(PySem.PyData.keyHash P ⟨⟨[95, 95, 108, 111, 97, 100, 101, 114, 95, 95]⟩⟩), (.str ⟨⟨[95, 95, 108, 111, 97, 100, 101, 114, 95, 95]⟩⟩ 168), (.builtin PySem.W.SZ.s7097527257260152453x26)⟩, ⟨(PySem.PyData.keyHash P ⟨⟨[95, 95, 115, 112, 101, 99, 95, 95]⟩⟩), (.str ⟨⟨[95, 95, 115, 112, 101, 99, 95, 95]⟩⟩ 169), .none⟩, ⟨(PySem.PyData.keyHash P ⟨⟨[95, 95, 97, 110, 110, 111, 116, 97, 116, 105, 111, 110, 115, 95, 95]⟩⟩), (.str ⟨⟨[95, 95, 97, 110, 110, 111, 116, 97, 116, 105, 111, 110, 115, 95, 95]⟩⟩ 170), (.ref 6)⟩, ⟨(PySem.PyData.keyHash P ⟨⟨[95, 95, 98, 117, 105, 108, 116, 105, 110, 115, 95, 95]⟩⟩), (.str ⟨⟨[95, 95, 98, 117, 105, 108, 116, 105, 110, 115, 95, 95]⟩⟩ 171), (.ref 4)⟩, ⟨(PySem.PyData.keyHash P ⟨⟨[95, 95, 102, 105, 108, 101, 95, 95]⟩⟩), (.str ⟨⟨[95, 95, 102, 105, 108, 101, 95, 95]⟩⟩ 173), (.str ⟨⟨[47, 99, 108, 97, 105, 109, 47, 99, 117, 116, 46, 112, 121]⟩⟩ 172)⟩, ⟨(PySem.PyData.keyHash P ⟨⟨[95, 95, 99, 97, 99, 104, 101, 100, 95, 95]⟩⟩), (.str ⟨⟨[95, 95, 99, 97, 99, 104, 101, 100, 95, 95]⟩⟩ 174), .none⟩, ⟨(PySem.PyData.keyHash P ⟨⟨[95, 119, 97, 108, 108]⟩⟩), (.str ⟨⟨[95, 119, 97, 108, 108]⟩⟩ 193), (.ref 21)⟩, ⟨(PySem.PyData.keyHash P ⟨⟨[95, 116, 117, 112, 108, 101, 103, 101, 116, 116, 101, 114]⟩⟩), (.str ⟨⟨[95, 116, 117, 112, 108, 101, 103, 101, 116, 116, 101, 114]⟩⟩ 252), (.ref 60)⟩, ⟨(PySem.PyData.keyHash P ⟨⟨[116, 111, 107, 101, 110, 105, 122, 101]⟩⟩), (.str ⟨⟨[116, 111, 107, 101, 110, 105, 122, 101]⟩⟩ 294), (.ref 74)⟩, ⟨(PySem.PyData.keyHash P ⟨⟨[84, 111, 107, 101, 110]⟩⟩), (.str ⟨⟨[84, 111, 107, 101, 110]⟩⟩ 448), (.ref 155)⟩, ⟨(PySem.PyData.keyHash P ⟨⟨[95, 83, 89, 77, 66, 79, 76, 73, 67, 95, 79, 80, 83]⟩⟩), (.str ⟨⟨[95, 83, 89, 77, 66, 79, 76, 73, 67, 95, 79, 80, 83]⟩⟩ 464), (.ref 159)⟩, ⟨(PySem.PyData.keyHash P ⟨⟨[95, 105, 115, 95, 98, 105, 110, 97, 114, 121, 95, 111, 112, 101, 114, 97, 116, 111, 114]⟩⟩), (.str ⟨⟨[95, 105, 115, 95, 98, 105, 110, 97, 114, 121, 95, 111, 112, 101, 114, 97, 116, 111, 114]⟩⟩ 472), (.ref 166)⟩, ⟨(PySem.PyData.keyHash P ⟨⟨[95, 98, 114, 101, 97, 107, 95, 97, 114, 111, 117, 110, 100, 95, 98, 105, 110, 97, 114, 121, 95, 111, 112, 101, 114, 97, 116, 111, 114, 115]⟩⟩), (.str ⟨⟨[95, 98, 114, 101, 97, 107, 95, 97, 114, 111, 117, 110, 100, 95, 98, 105, 110, 97, 114, 121, 95, 111, 112, 101, 114, 97, 116, 111, 114, 115]⟩⟩ 489), (.ref 173)⟩, ⟨(PySem.PyData.keyHash P ⟨⟨[98, 114, 101, 97, 107, 95, 98, 101, 102, 111, 114, 101, 95, 98, 105, 110, 97, 114, 121, 95, 111, 112, 101, 114, 97, 116, 111, 114]⟩⟩), (.str ⟨⟨[98, 114, 101, 97, 107, 95, 98, 101, 102, 111, 114, 101, 95, 98, 105, 110, 97, 114, 121, 95, 111, 112, 101, 114, 97, 116, 111, 114]⟩⟩ 506), (.ref 180)⟩, ⟨(PySem.PyData.keyHash P ⟨⟨[98, 114, 101, 97, 107, 95, 97, 102, 116, 101, 114, 95, 98, 105, 110, 97, 114, 121, 95, 111, 112, 101, 114, 97, 116, 111, 114]⟩⟩), (.str ⟨⟨[98, 114, 101, 97, 107, 95, 97, 102, 116, 101, 114, 95, 98, 105, 110, 97, 114, 121, 95, 111, 112, 101, 114, 97, 116, 111, 114]⟩⟩ 524), (.ref 187)⟩, ⟨(PySem.PyData.keyHash P ⟨⟨[95, 108, 97, 119, 95, 119, 111, 114, 100, 115]⟩⟩), (.str ⟨⟨[95, 108, 97, 119, 95, 119, 111, 114, 100, 115]⟩⟩ 532), (.ref 194)⟩, ⟨(PySem.PyData.keyHash P ⟨⟨[95, 108, 97, 119, 95, 111, 112, 101, 110, 105, 110, 103]⟩⟩), (.str ⟨⟨[95, 108, 97, 119, 95, 111, 112, 101, 110, 105, 110, 103]⟩⟩ 538), (.ref 201)⟩, ⟨(PySem.PyData.keyHash P ⟨⟨[95, 108, 97, 119, 95, 108, 101, 97, 100, 105, 110, 103]⟩⟩), (.str ⟨⟨[95, 108, 97, 119, 95, 108, 101, 97, 100, 105, 110, 103]⟩⟩ 544), (.ref 208)⟩, ⟨(PySem.PyData.keyHash P ⟨⟨[95, 108, 97, 119, 95, 111, 112, 101, 114, 97, 116, 111, 114, 115]⟩⟩), (.str ⟨⟨[95, 108, 97, 119, 95, 111, 112, 101, 114, 97, 116, 111, 114, 115]⟩⟩ 550), (.ref 215)⟩, ⟨(PySem.PyData.keyHash P ⟨⟨[95, 108, 97, 119, 95, 99, 101, 108, 108]⟩⟩), (.str ⟨⟨[95, 108, 97, 119, 95, 99, 101, 108, 108]⟩⟩ 558), (.ref 222)⟩, ⟨(PySem.PyData.keyHash P ⟨⟨[95, 108, 97, 119, 95, 107, 105, 110, 100]⟩⟩), (.str ⟨⟨[95, 108, 97, 119, 95, 107, 105, 110, 100]⟩⟩ 565), (.ref 229)⟩, ⟨(PySem.PyData.keyHash P ⟨⟨[95, 108, 97, 119, 95, 116, 111, 107, 101, 110, 115]⟩⟩), (.str ⟨⟨[95, 108, 97, 119, 95, 116, 111, 107, 101, 110, 115]⟩⟩ 580), (.ref 236)⟩, ⟨(PySem.PyData.keyHash P ⟨⟨[95, 108, 97, 119, 95, 114, 111, 119, 115]⟩⟩), (.str ⟨⟨[95, 108, 97, 119, 95, 114, 111, 119, 115]⟩⟩ 586), (.ref 241)⟩, ⟨(PySem.PyData.keyHash P ⟨⟨[95, 108, 97, 119, 95, 108, 105, 110, 101]⟩⟩), (.str ⟨⟨[95, 108, 97, 119, 95, 108, 105, 110, 101]⟩⟩ 597), (.ref 248)⟩, ⟨(PySem.PyData.keyHash P ⟨⟨[108, 97, 119]⟩⟩), (.str ⟨⟨[108, 97, 119]⟩⟩ 616), (.ref 255)⟩]⟩ 28) ⟨[]⟩)
noncomputable def k73 (P : Params) : Obj := (PySem.Obj.mk (.type PySem.W.SZ.s14018661285674007319x4) none (.dict ⟨[⟨(PySem.PyData.keyHash P ⟨⟨[95, 95, 109, 111, 100, 117, 108, 101, 95, 95]⟩⟩), (.str ⟨⟨[95, 95, 109, 111, 100, 117, 108, 101, 95, 95]⟩⟩ 260), (.str ⟨⟨[112, 121, 99, 111, 100, 101, 115, 116, 121, 108, 101]⟩⟩ 194)⟩, ⟨(PySem.PyData.keyHash P ⟨⟨[95, 95, 102, 105, 114, 115, 116, 108, 105, 110, 101, 110, 111, 95, 95]⟩⟩), (.str ⟨⟨[95, 95, 102, 105, 114, 115, 116, 108, 105, 110, 101, 110, 111, 95, 95]⟩⟩ 264), (.int 23 263)⟩, ⟨(PySem.PyData.keyHash P ⟨⟨[69, 78, 68, 77, 65, 82, 75, 69, 82]⟩⟩), (.str ⟨⟨[69, 78, 68, 77, 65, 82, 75, 69, 82]⟩⟩ 266), (.int 0 265)⟩, ⟨(PySem.PyData.keyHash P ⟨⟨[78, 65, 77, 69]⟩⟩), (.str ⟨⟨[78, 65, 77, 69]⟩⟩ 268), (.int 1 267)⟩, ⟨(PySem.PyData.keyHash P ⟨⟨[78, 85, 77, 66, 69, 82]⟩⟩), (.str ⟨⟨[78, 85, 77, 66, 69, 82]⟩⟩ 270), (.int 2 269)⟩, ⟨(PySem.PyData.keyHash P ⟨⟨[83, 84, 82, 73, 78, 71]⟩⟩), (.str ⟨⟨[83, 84, 82, 73, 78, 71]⟩⟩ 272), (.int 3 271)⟩, ⟨(PySem.PyData.keyHash P ⟨⟨[78, 69, 87, 76, 73, 78, 69]⟩⟩), (.str ⟨⟨[78, 69, 87, 76, 73, 78, 69]⟩⟩ 274), (.int 4 273)⟩, ⟨(PySem.PyData.keyHash P ⟨⟨[73, 78, 68, 69, 78, 84]⟩⟩), (.str ⟨⟨[73, 78, 68, 69, 78, 84]⟩⟩ 276), (.int 5 275)⟩, ⟨(PySem.PyData.keyHash P ⟨⟨[68, 69, 68, 69, 78, 84]⟩⟩), (.str ⟨⟨[68, 69, 68, 69, 78, 84]⟩⟩ 278), (.int 6 277)⟩, ⟨(PySem.PyData.keyHash P ⟨⟨[79, 80]⟩⟩), (.str ⟨⟨[79, 80]⟩⟩ 280), (.int 54 279)⟩, ⟨(PySem.PyData.keyHash P ⟨⟨[69, 82, 82, 79, 82, 84, 79, 75, 69, 78]⟩⟩), (.str ⟨⟨[69, 82, 82, 79, 82, 84, 79, 75, 69, 78]⟩⟩ 282), (.int 60 281)⟩, ⟨(PySem.PyData.keyHash P ⟨⟨[67, 79, 77, 77, 69, 78, 84]⟩⟩), (.str ⟨⟨[67, 79, 77, 77, 69, 78, 84]⟩⟩ 284), (.int 61 283)⟩, ⟨(PySem.PyData.keyHash P ⟨⟨[78, 76]⟩⟩), (.str ⟨⟨[78, 76]⟩⟩ 286), (.int 62 285)⟩, ⟨(PySem.PyData.keyHash P ⟨⟨[95, 95, 115, 116, 97, 116, 105, 99, 95, 97, 116, 116, 114, 105, 98, 117, 116, 101, 115, 95, 95]⟩⟩), (.str ⟨⟨[95, 95, 115, 116, 97, 116, 105, 99, 95, 97, 116, 116, 114, 105, 98, 117, 116, 101, 115, 95, 95]⟩⟩ 287), (.ref 72)⟩, ⟨(PySem.PyData.keyHash P ⟨⟨[95, 95, 100, 105, 99, 116, 95, 95]⟩⟩), (.str ⟨⟨[95, 95, 100, 105, 99, 116, 95, 95]⟩⟩ 289), (.ref 75)⟩, ⟨(PySem.PyData.keyHash P ⟨⟨[95, 95, 119, 101, 97, 107, 114, 101, 102, 95, 95]⟩⟩), (.str ⟨⟨[95, 95, 119, 101, 97, 107, 114, 101, 102, 95, 95]⟩⟩ 291), (.ref 76)⟩, ⟨(PySem.PyData.keyHash P ⟨⟨[95, 95, 100, 111, 99, 95, 95]⟩⟩), (.str ⟨⟨[95, 95, 100, 111, 99, 95, 95]⟩⟩ 292), .none⟩]⟩ 4) ⟨[]⟩)
noncomputable def k74 (_ : Params) : Obj := (PySem.Obj.mk (.type PySem.W.SZ.s17162191345867700912x4) none (.cls ⟨⟨⟨[116, 111, 107, 101, 110, 105, 122, 101]⟩⟩, [(.type PySem.W.SZ.s2742458400755230247x6)], [(.ref 74), (.type PySem.W.SZ.s2742458400755230247x6)], 73, ⟨⟨[116, 111, 107, 101, 110, 105, 122, 101]⟩⟩, true, [], [], false, none, false⟩) ⟨[none, none, (some (.str ⟨⟨[116, 111, 107, 101, 110, 105, 122, 101]⟩⟩ 253)), (some (.str ⟨⟨[116, 111, 107, 101, 110, 105, 122, 101]⟩⟩ 261)), (some (.builtin PySem.W.SZ.s11443829558043349243x14)), (some (.bool true))]⟩)
noncomputable def k95 (_ : Params) : Obj := (PySem.Obj.mk (.type PySem.W.SZ.s5856160107412720595x4) none (.fields ⟨[(.str ⟨⟨[95, 95, 110, 101, 119, 95, 95]⟩⟩ 318), (.str ⟨⟨[84, 111, 107, 101, 110, 46, 95, 95, 110, 101, 119, 95, 95]⟩⟩ 319), (.str ⟨⟨[47, 99, 108, 97, 105, 109, 47, 99, 117, 116, 46, 112, 121]⟩⟩ 320), (.int 41 0), (.int 6 0), (.int 0 0), (.int 0 0), (.int 3 0), (.ref 90), (.bool true), (.int 181 0), (.ref 91), .none, (.ref 92), (.ref 93), (.ref 94), (.int 327 0), (.int 41 0), (.str ⟨⟨[47, 99, 108, 97, 105, 109, 47, 99, 117, 116, 46, 112, 121]⟩⟩ 328)]⟩) ⟨[]⟩)
noncomputable def k96 (_ : Params) : Obj := (PySem.Obj.mk (.type PySem.W.SZ.s7174869446012820540x8) none (.func ⟨⟨⟨[95, 95, 110, 101, 119, 95, 95]⟩⟩, ⟨⟨[84, 111, 107, 101, 110, 46, 95, 95, 110, 101, 119, 95, 95]⟩⟩, (fdP (kin 4 4)), (.stmts (fdB (kin 4 4))), (fdS (kin 4 4)), 3, [], .none, .none, (.str (fdD (kin 4 4)) 329), (.str ⟨⟨[112, 121, 99, 111, 100, 101, 115, 116, 121, 108, 101]⟩⟩ 194), none, (.ref 95), .none, 0⟩) ⟨[]⟩)
noncomputable def k154 (P : Params) : Obj := (PySem.Obj.mk (.type PySem.W.SZ.s14018661285674007319x4) none (.dict ⟨[⟨(PySem.PyData.keyHash P ⟨⟨[95, 95, 109, 111, 100, 117, 108, 101, 95, 95]⟩⟩), (.str ⟨⟨[95, 95, 109, 111, 100, 117, 108, 101, 95, 95]⟩⟩ 302), (.str ⟨⟨[112, 121, 99, 111, 100, 101, 115, 116, 121, 108, 101]⟩⟩ 194)⟩, ⟨(PySem.PyData.keyHash P ⟨⟨[95, 95, 102, 105, 114, 115, 116, 108, 105, 110, 101, 110, 111, 95, 95]⟩⟩), (.str ⟨⟨[95, 95, 102, 105, 114, 115, 116, 108, 105, 110, 101, 110, 111, 95, 95]⟩⟩ 306), (.int 35 305)⟩, ⟨(PySem.PyData.keyHash P ⟨⟨[95, 95, 100, 111, 99, 95, 95]⟩⟩), (.str ⟨⟨[95, 95, 100, 111, 99, 95, 95]⟩⟩ 308), (.str ⟨⟨[84, 111, 107, 101, 110, 40, 107, 105, 110, 100, 44, 32, 115, 116, 114, 105, 110, 103, 44, 32, 115, 116, 97, 114, 116, 44, 32, 101, 110, 100, 44, 32, 108, 105, 110, 101, 41]⟩⟩ 307)⟩, ⟨(PySem.PyData.keyHash P ⟨⟨[95, 95, 115, 108, 111, 116, 115, 95, 95]⟩⟩), (.str ⟨⟨[95, 95, 115, 108, 111, 116, 115, 95, 95]⟩⟩ 310), (.ref 87)⟩, ⟨(PySem.PyData.keyHash P ⟨⟨[95, 102, 105, 101, 108, 100, 115]⟩⟩), (.str ⟨⟨[95, 102, 105, 101, 108, 100, 115]⟩⟩ 316), (.ref 88)⟩, ⟨(PySem.PyData.keyHash P ⟨⟨[95, 102, 105, 101, 108, 100, 95, 100, 101, 102, 97, 117, 108, 116, 115]⟩⟩), (.str ⟨⟨[95, 102, 105, 101, 108, 100, 95, 100, 101, 102, 97, 117, 108, 116, 115]⟩⟩ 317), (.ref 89)⟩, ⟨(PySem.PyData.keyHash P ⟨⟨[95, 95, 110, 101, 119, 95, 95]⟩⟩), (.str ⟨⟨[95, 95, 110, 101, 119, 95, 95]⟩⟩ 330), (.ref 156)⟩, ⟨(PySem.PyData.keyHash P ⟨⟨[95, 109, 97, 107, 101]⟩⟩), (.str ⟨⟨[95, 109, 97, 107, 101]⟩⟩ 352), (.ref 105)⟩, ⟨(PySem.PyData.keyHash P ⟨⟨[95, 114, 101, 112, 108, 97, 99, 101]⟩⟩), (.str ⟨⟨[95, 114, 101, 112, 108, 97, 99, 101]⟩⟩ 363), (.ref 114)⟩, ⟨(PySem.PyData.keyHash P ⟨⟨[95, 95, 114, 101, 112, 108, 97, 99, 101, 95, 95]⟩⟩), (.str ⟨⟨[95, 95, 114, 101, 112, 108, 97, 99, 101, 95, 95]⟩⟩ 364), (.ref 114)⟩, ⟨(PySem.PyData.keyHash P ⟨⟨[95, 95, 114, 101, 112, 114, 95, 95]⟩⟩), (.str ⟨⟨[95, 95, 114, 101, 112, 114, 95, 95]⟩⟩ 372), (.ref 121)⟩, ⟨(PySem.PyData.keyHash P ⟨⟨[95, 97, 115, 100, 105, 99, 116]⟩⟩), (.str ⟨⟨[95, 97, 115, 100, 105, 99, 116]⟩⟩ 379), (.ref 128)⟩, ⟨(PySem.PyData.keyHash P ⟨⟨[95, 95, 103, 101, 116, 110, 101, 119, 97, 114, 103, 115, 95, 95]⟩⟩), (.str ⟨⟨[95, 95, 103, 101, 116, 110, 101, 119, 97, 114, 103, 115, 95, 95]⟩⟩ 387), (.ref 135)⟩, ⟨(PySem.PyData.keyHash P ⟨⟨[95, 95, 109, 97, 116, 99, 104, 95, 97, 114, 103, 115, 95, 95]⟩⟩), (.str ⟨⟨[95, 95, 109, 97, 116, 99, 104, 95, 97, 114, 103, 115, 95, 95]⟩⟩ 393), (.ref 136)⟩, ⟨(PySem.PyData.keyHash P ⟨⟨[107, 105, 110, 100]⟩⟩), (.str ⟨⟨[107, 105, 110, 100]⟩⟩ 403), (.ref 138)⟩, ⟨(PySem.PyData.keyHash P ⟨⟨[115, 116, 114, 105, 110, 103]⟩⟩), (.str ⟨⟨[115, 116, 114, 105, 110, 103]⟩⟩ 413), (.ref 141)⟩, ⟨(PySem.PyData.keyHash P ⟨⟨[115, 116, 97, 114, 116]⟩⟩), (.str ⟨⟨[115, 116, 97, 114, 116]⟩⟩ 423), (.ref 144)⟩, ⟨(PySem.PyData.keyHash P ⟨⟨[101, 110, 100]⟩⟩), (.str ⟨⟨[101, 110, 100]⟩⟩ 433), (.ref 147)⟩, ⟨(PySem.PyData.keyHash P ⟨⟨[108, 105, 110, 101]⟩⟩), (.str ⟨⟨[108, 105, 110, 101]⟩⟩ 443), (.ref 150)⟩, ⟨(PySem.PyData.keyHash P ⟨⟨[95, 95, 115, 116, 97, 116, 105, 99, 95, 97, 116, 116, 114, 105, 98, 117, 116, 101, 115, 95, 95]⟩⟩), (.str ⟨⟨[95, 95, 115, 116, 97, 116, 105, 99, 95, 97, 116, 116, 114, 105, 98, 117, 116, 101, 115, 95, 95]⟩⟩ 444), (.ref 152)⟩]⟩ 2) ⟨[]⟩)
noncomputable def k155 (_ : Params) : Obj := (PySem.Obj.mk (.type PySem.W.SZ.s17162191345867700912x4) none (.cls ⟨⟨⟨[84, 111, 107, 101, 110]⟩⟩, [(.type PySem.W.SZ.s2766695959194262286x5)], [(.ref 155), (.type PySem.W.SZ.s2766695959194262286x5), (.type PySem.W.SZ.s2742458400755230247x6)], 154, ⟨⟨[84, 111, 107, 101, 110]⟩⟩, false, [], [], false, none, false⟩) ⟨[(some (.ref 79)), none, (some (.str ⟨⟨[84, 111, 107, 101, 110]⟩⟩ 295)), (some (.str ⟨⟨[84, 111, 107, 101, 110]⟩⟩ 303)), (some .none), (some (.bool false))]⟩)
noncomputable def k156 (_ : Params) : Obj := (PySem.Obj.mk (.type PySem.W.SZ.s16656946322747308186x12) none (.fields ⟨[(.ref 96)]⟩) ⟨[]⟩)
noncomputable def k159 (_ : Params) : Obj := (PySem.Obj.mk (.type PySem.W.SZ.s2766695959194262286x5) none (.seq ⟨[(.str ⟨⟨[40]⟩⟩ 449), (.str ⟨⟨[41]⟩⟩ 450), (.str ⟨⟨[91]⟩⟩ 451), (.str ⟨⟨[93]⟩⟩ 452), (.str ⟨⟨[123]⟩⟩ 453), (.str ⟨⟨[125]⟩⟩ 454), (.str ⟨⟨[44]⟩⟩ 455), (.str ⟨⟨[58]⟩⟩ 456), (.str ⟨⟨[46]⟩⟩ 457), (.str ⟨⟨[59]⟩⟩ 458), (.str ⟨⟨[64]⟩⟩ 459), (.str ⟨⟨[61]⟩⟩ 460), (.str ⟨⟨[37]⟩⟩ 461), (.str ⟨⟨[126]⟩⟩ 462), (.str ⟨⟨[46, 46, 46]⟩⟩ 463)]⟩ 0) ⟨[]⟩)
noncomputable def k165 (_ : Params) : Obj := (PySem.Obj.mk (.type PySem.W.SZ.s5856160107412720595x4) none (.fields ⟨[(.str ⟨⟨[95, 105, 115, 95, 98, 105, 110, 97, 114, 121, 95, 111, 112, 101, 114, 97, 116, 111, 114]⟩⟩ 465), (.str ⟨⟨[95, 105, 115, 95, 98, 105, 110, 97, 114, 121, 95, 111, 112, 101, 114, 97, 116, 111, 114]⟩⟩ 466), (.str ⟨⟨[47, 99, 108, 97, 105, 109, 47, 99, 117, 116, 46, 112, 121]⟩⟩ 467), (.int 81 0), (.int 2 0), (.int 0 0), (.int 0 0), (.int 3 0), (.ref 160), (.bool true), (.int 181 0), (.ref 161), .none, (.ref 162), (.ref 163), (.ref 164), (.int 470 0), (.int 81 0), (.str ⟨⟨[47, 99, 108, 97, 105, 109, 47, 99, 117, 116, 46, 112, 121]⟩⟩ 471)]⟩) ⟨[]⟩)
noncomputable def k166 (_ : Params) : Obj := (PySem.Obj.mk (.type PySem.W.SZ.s7174869446012820540x8) none (.func ⟨⟨⟨[95, 105, 115, 95, 98, 105, 110, 97, 114, 121, 95, 111, 112, 101, 114, 97, 116, 111, 114]⟩⟩, ⟨⟨[95, 105, 115, 95, 98, 105, 110, 97, 114, 121, 95, 111, 112, 101, 114, 97, 116, 111, 114]⟩⟩, (fdP (kst 6)), (.stmts (fdB (kst 6))), (fdS (kst 6)), 3, [], .none, .none, .none, (.str ⟨⟨[112, 121, 99, 111, 100, 101, 115, 116, 121, 108, 101]⟩⟩ 194), none, (.ref 165), .none, 0⟩) ⟨[]⟩)
noncomputable def k172 (_ : Params) : Obj := (PySem.Obj.mk (.type PySem.W.SZ.s5856160107412720595x4) none (.fields ⟨[(.str ⟨⟨[95, 98, 114, 101, 97, 107, 95, 97, 114, 111, 117, 110, 100, 95, 98, 105, 110, 97, 114, 121, 95, 111, 112, 101, 114, 97, 116, 111, 114, 115]⟩⟩ 473), (.str ⟨⟨[95, 98, 114, 101, 97, 107, 95, 97, 114, 111, 117, 110, 100, 95, 98, 105, 110, 97, 114, 121, 95, 111, 112, 101, 114, 97, 116, 111, 114, 115]⟩⟩ 474), (.str ⟨⟨[47, 99, 108, 97, 105, 109, 47, 99, 117, 116, 46, 112, 121]⟩⟩ 475), (.int 83 0), (.int 1 0), (.int 0 0), (.int 0 0), (.int 35 0), (.ref 167), (.bool true), (.int 181 0), (.ref 168), .none, (.ref 169), (.ref 170), (.ref 171), (.int 486 0), (.int 83 0), (.str ⟨⟨[47, 99, 108, 97, 105, 109, 47, 99, 117, 116, 46, 112, 121]⟩⟩ 487)]⟩) ⟨[]⟩)
noncomputable def k173 (_ : Params) : Obj := (PySem.Obj.mk (.type PySem.W.SZ.s7174869446012820540x8) none (.func ⟨⟨⟨[95, 98, 114, 101, 97, 107, 95, 97, 114, 111, 117, 110, 100, 95, 98, 105, 110, 97, 114, 121, 95, 111, 112, 101, 114, 97, 116, 111, 114, 115]⟩⟩, ⟨⟨[95, 98, 114, 101, 97, 107, 95, 97, 114, 111, 117, 110, 100, 95, 98, 105, 110, 97, 114, 121, 95, 111, 112, 101, 114, 97, 116, 111, 114, 115]⟩⟩, (fdP (kst 7)), (.stmts (fdB (kst 7))), (fdS (kst 7)), 3, [], .none, .none, (.str (fdD (kst 7)) 488), (.str ⟨⟨[112, 121, 99, 111, 100, 101, 115, 116, 121, 108, 101]⟩⟩ 194), none, (.ref 172), .none, 0⟩) ⟨[]⟩)
noncomputable def k179 (_ : Params) : Obj := (PySem.Obj.mk (.type PySem.W.SZ.s5856160107412720595x4) none (.fields ⟨[(.str ⟨⟨[98, 114, 101, 97, 107, 95, 98, 101, 102, 111, 114, 101, 95, 98, 105, 110, 97, 114, 121, 95, 111, 112, 101, 114, 97, 116, 111, 114]⟩⟩ 490), (.str ⟨⟨[98, 114, 101, 97, 107, 95, 98, 101, 102, 111, 114, 101, 95, 98, 105, 110, 97, 114, 121, 95, 111, 112, 101, 114, 97, 116, 111, 114]⟩⟩ 491), (.str ⟨⟨[47, 99, 108, 97, 105, 109, 47, 99, 117, 116, 46, 112, 121]⟩⟩ 492), (.int 105 0), (.int 2 0), (.int 0 0), (.int 0 0), (.int 35 0), (.ref 174), (.bool true), (.int 181 0), (.ref 175), .none, (.ref 176), (.ref 177), (.ref 178), (.int 503 0), (.int 105 0), (.str ⟨⟨[47, 99, 108, 97, 105, 109, 47, 99, 117, 116, 46, 112, 121]⟩⟩ 504)]⟩) ⟨[]⟩)
noncomputable def k180 (_ : Params) : Obj := (PySem.Obj.mk (.type PySem.W.SZ.s7174869446012820540x8) none (.func ⟨⟨⟨[98, 114, 101, 97, 107, 95, 98, 101, 102, 111, 114, 101, 95, 98, 105, 110, 97, 114, 121, 95, 111, 112, 101, 114, 97, 116, 111, 114]⟩⟩, ⟨⟨[98, 114, 101, 97, 107, 95, 98, 101, 102, 111, 114, 101, 95, 98, 105, 110, 97, 114, 121, 95, 111, 112, 101, 114, 97, 116, 111, 114]⟩⟩, (fdP (kst 8)), (.stmts (fdB (kst 8))), (fdS (kst 8)), 3, [], .none, .none, (.str (fdD (kst 8)) 505), (.str ⟨⟨[112, 121, 99, 111, 100, 101, 115, 116, 121, 108, 101]⟩⟩ 194), none, (.ref 179), .none, 0⟩) ⟨[]⟩)
noncomputable def k186 (_ : Params) : Obj := (PySem.Obj.mk (.type PySem.W.SZ.s5856160107412720595x4) none (.fields ⟨[(.str ⟨⟨[98, 114, 101, 97, 107, 95, 97, 102, 116, 101, 114, 95, 98, 105, 110, 97, 114, 121, 95, 111, 112, 101, 114, 97, 116, 111, 114]⟩⟩ 507), (.str ⟨⟨[98, 114, 101, 97, 107, 95, 97, 102, 116, 101, 114, 95, 98, 105, 110, 97, 114, 121, 95, 111, 112, 101, 114, 97, 116, 111, 114]⟩⟩ 508), (.str ⟨⟨[47, 99, 108, 97, 105, 109, 47, 99, 117, 116, 46, 112, 121]⟩⟩ 509), (.int 128 0), (.int 2 0), (.int 0 0), (.int 0 0), (.int 35 0), (.ref 181), (.bool true), (.int 181 0), (.ref 182), .none, (.ref 183), (.ref 184), (.ref 185), (.int 521 0), (.int 128 0), (.str ⟨⟨[47, 99, 108, 97, 105, 109, 47, 99, 117, 116, 46, 112, 121]⟩⟩ 522)]⟩) ⟨[]⟩)
noncomputable def k187 (_ : Params) : Obj := (PySem.Obj.mk (.type PySem.W.SZ.s7174869446012820540x8) none (.func ⟨⟨⟨[98, 114, 101, 97, 107, 95, 97, 102, 116, 101, 114, 95, 98, 105, 110, 97, 114, 121, 95, 111, 112, 101, 114, 97, 116, 111, 114]⟩⟩, ⟨⟨[98, 114, 101, 97, 107, 95, 97, 102, 116, 101, 114, 95, 98, 105, 110, 97, 114, 121, 95, 111, 112, 101, 114, 97, 116, 111, 114]⟩⟩, (fdP (kst 9)), (.stmts (fdB (kst 9))), (fdS (kst 9)), 3, [], .none, .none, (.str (fdD (kst 9)) 523), (.str ⟨⟨[112, 121, 99, 111, 100, 101, 115, 116, 121, 108, 101]⟩⟩ 194), none, (.ref 186), .none, 0⟩) ⟨[]⟩)
noncomputable def k193 (_ : Params) : Obj := (PySem.Obj.mk (.type PySem.W.SZ.s5856160107412720595x4) none (.fields ⟨[(.str ⟨⟨[95, 108, 97, 119, 95, 119, 111, 114, 100, 115]⟩⟩ 527), (.str ⟨⟨[95, 108, 97, 119, 95, 119, 111, 114, 100, 115]⟩⟩ 528), (.str ⟨⟨[47, 99, 108, 97, 105, 109, 47, 99, 117, 116, 46, 112, 121]⟩⟩ 529), (.int 157 0), (.int 0 0), (.int 0 0), (.int 0 0), (.int 3 0), (.ref 188), (.bool true), (.int 181 0), (.ref 189), .none, (.ref 190), (.ref 191), (.ref 192), (.int 530 0), (.int 157 0), (.str ⟨⟨[47, 99, 108, 97, 105, 109, 47, 99, 117, 116, 46, 112, 121]⟩⟩ 531)]⟩) ⟨[]⟩)
noncomputable def k194 (_ : Params) : Obj := (PySem.Obj.mk (.type PySem.W.SZ.s7174869446012820540x8) none (.func ⟨⟨⟨[95, 108, 97, 119, 95, 119, 111, 114, 100, 115]⟩⟩, ⟨⟨[95, 108, 97, 119, 95, 119, 111, 114, 100, 115]⟩⟩, (fdP (kst 11)), (.stmts (fdB (kst 11))), (fdS (kst 11)), 3, [], .none, .none, .none, (.str ⟨⟨[108, 97, 119, 95, 98, 100, 48, 48, 52, 53, 95, 48, 49]⟩⟩ 525), none, (.ref 193), .none, 0⟩) ⟨[]⟩)
noncomputable def k200 (_ : Params) : Obj := (PySem.Obj.mk (.type PySem.W.SZ.s5856160107412720595x4) none (.fields ⟨[(.str ⟨⟨[95, 108, 97, 119, 95, 111, 112, 101, 110, 105, 110, 103]⟩⟩ 533), (.str ⟨⟨[95, 108, 97, 119, 95, 111, 112, 101, 110, 105, 110, 103]⟩⟩ 534), (.str ⟨⟨[47, 99, 108, 97, 105, 109, 47, 99, 117, 116, 46, 112, 121]⟩⟩ 535), (.int 159 0), (.int 0 0), (.int 0 0), (.int 0 0), (.int 3 0), (.ref 195), (.bool true), (.int 181 0), (.ref 196), .none, (.ref 197), (.ref 198), (.ref 199), (.int 536 0), (.int 159 0), (.str ⟨⟨[47, 99, 108, 97, 105, 109, 47, 99, 117, 116, 46, 112, 121]⟩⟩ 537)]⟩) ⟨[]⟩)
noncomputable def k201 (_ : Params) : Obj := (PySem.Obj.mk (.type PySem.W.SZ.s7174869446012820540x8) none (.func ⟨⟨⟨[95, 108, 97, 119, 95, 111, 112, 101, 110, 105, 110, 103]⟩⟩, ⟨⟨[95, 108, 97, 119, 95, 111, 112, 101, 110, 105, 110, 103]⟩⟩, (fdP (kst 12)), (.stmts (fdB (kst 12))), (fdS (kst 12)), 3, [], .none, .none, .none, (.str ⟨⟨[108, 97, 119, 95, 98, 100, 48, 48, 52, 53, 95, 48, 49]⟩⟩ 525), none, (.ref 200), .none, 0⟩) ⟨[]⟩)
noncomputable def k207 (_ : Params) : Obj := (PySem.Obj.mk (.type PySem.W.SZ.s5856160107412720595x4) none (.fields ⟨[(.str ⟨⟨[95, 108, 97, 119, 95, 108, 101, 97, 100, 105, 110, 103]⟩⟩ 539), (.str ⟨⟨[95, 108, 97, 119, 95, 108, 101, 97, 100, 105, 110, 103]⟩⟩ 540), (.str ⟨⟨[47, 99, 108, 97, 105, 109, 47, 99, 117, 116, 46, 112, 121]⟩⟩ 541), (.int 161 0), (.int 0 0), (.int 0 0), (.int 0 0), (.int 3 0), (.ref 202), (.bool true), (.int 181 0), (.ref 203), .none, (.ref 204), (.ref 205), (.ref 206), (.int 542 0), (.int 161 0), (.str ⟨⟨[47, 99, 108, 97, 105, 109, 47, 99, 117, 116, 46, 112, 121]⟩⟩ 543)]⟩) ⟨[]⟩)
noncomputable def k208 (_ : Params) : Obj := (PySem.Obj.mk (.type PySem.W.SZ.s7174869446012820540x8) none (.func ⟨⟨⟨[95, 108, 97, 119, 95, 108, 101, 97, 100, 105, 110, 103]⟩⟩, ⟨⟨[95, 108, 97, 119, 95, 108, 101, 97, 100, 105, 110, 103]⟩⟩, (fdP (kst 13)), (.stmts (fdB (kst 13))), (fdS (kst 13)), 3, [], .none, .none, .none, (.str ⟨⟨[108, 97, 119, 95, 98, 100, 48, 48, 52, 53, 95, 48, 49]⟩⟩ 525), none, (.ref 207), .none, 0⟩) ⟨[]⟩)
noncomputable def k214 (_ : Params) : Obj := (PySem.Obj.mk (.type PySem.W.SZ.s5856160107412720595x4) none (.fields ⟨[(.str ⟨⟨[95, 108, 97, 119, 95, 111, 112, 101, 114, 97, 116, 111, 114, 115]⟩⟩ 545), (.str ⟨⟨[95, 108, 97, 119, 95, 111, 112, 101, 114, 97, 116, 111, 114, 115]⟩⟩ 546), (.str ⟨⟨[47, 99, 108, 97, 105, 109, 47, 99, 117, 116, 46, 112, 121]⟩⟩ 547), (.int 163 0), (.int 0 0), (.int 0 0), (.int 0 0), (.int 3 0), (.ref 209), (.bool true), (.int 181 0), (.ref 210), .none, (.ref 211), (.ref 212), (.ref 213), (.int 548 0), (.int 163 0), (.str ⟨⟨[47, 99, 108, 97, 105, 109, 47, 99, 117, 116, 46, 112, 121]⟩⟩ 549)]⟩) ⟨[]⟩)
noncomputable def k215 (_ : Params) : Obj := (PySem.Obj.mk (.type PySem.W.SZ.s7174869446012820540x8) none (.func ⟨⟨⟨[95, 108, 97, 119, 95, 111, 112, 101, 114, 97, 116, 111, 114, 115]⟩⟩, ⟨⟨[95, 108, 97, 119, 95, 111, 112, 101, 114, 97, 116, 111, 114, 115]⟩⟩, (fdP (kst 14)), (.stmts (fdB (kst 14))), (fdS (kst 14)), 3, [], .none, .none, .none, (.str ⟨⟨[108, 97, 119, 95, 98, 100, 48, 48, 52, 53, 95, 48, 49]⟩⟩ 525), none, (.ref 214), .none, 0⟩) ⟨[]⟩)
noncomputable def k221 (_ : Params) : Obj := (PySem.Obj.mk (.type PySem.W.SZ.s5856160107412720595x4) none (.fields ⟨[(.str ⟨⟨[95, 108, 97, 119, 95, 99, 101, 108, 108]⟩⟩ 551), (.str ⟨⟨[95, 108, 97, 119, 95, 99, 101, 108, 108]⟩⟩ 552), (.str ⟨⟨[47, 99, 108, 97, 105, 109, 47, 99, 117, 116, 46, 112, 121]⟩⟩ 553), (.int 165 0), (.int 2 0), (.int 0 0), (.int 0 0), (.int 3 0), (.ref 216), (.bool true), (.int 181 0), (.ref 217), .none, (.ref 218), (.ref 219), (.ref 220), (.int 556 0), (.int 165 0), (.str ⟨⟨[47, 99, 108, 97, 105, 109, 47, 99, 117, 116, 46, 112, 121]⟩⟩ 557)]⟩) ⟨[]⟩)
noncomputable def k222 (_ : Params) : Obj := (PySem.Obj.mk (.type PySem.W.SZ.s7174869446012820540x8) none (.func ⟨⟨⟨[95, 108, 97, 119, 95, 99, 101, 108, 108]⟩⟩, ⟨⟨[95, 108, 97, 119, 95, 99, 101, 108, 108]⟩⟩, (fdP (kst 15)), (.stmts (fdB (kst 15))), (fdS (kst 15)), 3, [], .none, .none, .none, (.str ⟨⟨[108, 97, 119, 95, 98, 100, 48, 48, 52, 53, 95, 48, 49]⟩⟩ 525), none, (.ref 221), .none, 0⟩) ⟨[]⟩)
noncomputable def k228 (_ : Params) : Obj := (PySem.Obj.mk (.type PySem.W.SZ.s5856160107412720595x4) none (.fields ⟨[(.str ⟨⟨[95, 108, 97, 119, 95, 107, 105, 110, 100]⟩⟩ 559), (.str ⟨⟨[95, 108, 97, 119, 95, 107, 105, 110, 100]⟩⟩ 560), (.str ⟨⟨[47, 99, 108, 97, 105, 109, 47, 99, 117, 116, 46, 112, 121]⟩⟩ 561), (.int 167 0), (.int 1 0), (.int 0 0), (.int 0 0), (.int 3 0), (.ref 223), (.bool true), (.int 181 0), (.ref 224), .none, (.ref 225), (.ref 226), (.ref 227), (.int 563 0), (.int 167 0), (.str ⟨⟨[47, 99, 108, 97, 105, 109, 47, 99, 117, 116, 46, 112, 121]⟩⟩ 564)]⟩) ⟨[]⟩)
noncomputable def k229 (_ : Params) : Obj := (PySem.Obj.mk (.type PySem.W.SZ.s7174869446012820540x8) none (.func ⟨⟨⟨[95, 108, 97, 119, 95, 107, 105, 110, 100]⟩⟩, ⟨⟨[95, 108, 97, 119, 95, 107, 105, 110, 100]⟩⟩, (fdP (kst 16)), (.stmts (fdB (kst 16))), (fdS (kst 16)), 3, [], .none, .none, .none, (.str ⟨⟨[108, 97, 119, 95, 98, 100, 48, 48, 52, 53, 95, 48, 49]⟩⟩ 525), none, (.ref 228), .none, 0⟩) ⟨[]⟩)
noncomputable def k235 (_ : Params) : Obj := (PySem.Obj.mk (.type PySem.W.SZ.s5856160107412720595x4) none (.fields ⟨[(.str ⟨⟨[95, 108, 97, 119, 95, 116, 111, 107, 101, 110, 115]⟩⟩ 566), (.str ⟨⟨[95, 108, 97, 119, 95, 116, 111, 107, 101, 110, 115]⟩⟩ 567), (.str ⟨⟨[47, 99, 108, 97, 105, 109, 47, 99, 117, 116, 46, 112, 121]⟩⟩ 568), (.int 173 0), (.int 3 0), (.int 0 0), (.int 0 0), (.int 3 0), (.ref 230), (.bool true), (.int 181 0), (.ref 231), .none, (.ref 232), (.ref 233), (.ref 234), (.int 578 0), (.int 173 0), (.str ⟨⟨[47, 99, 108, 97, 105, 109, 47, 99, 117, 116, 46, 112, 121]⟩⟩ 579)]⟩) ⟨[]⟩)
noncomputable def k236 (_ : Params) : Obj := (PySem.Obj.mk (.type PySem.W.SZ.s7174869446012820540x8) none (.func ⟨⟨⟨[95, 108, 97, 119, 95, 116, 111, 107, 101, 110, 115]⟩⟩, ⟨⟨[95, 108, 97, 119, 95, 116, 111, 107, 101, 110, 115]⟩⟩, (fdP (kst 17)), (.stmts (fdB (kst 17))), (fdS (kst 17)), 3, [], .none, .none, .none, (.str ⟨⟨[108, 97, 119, 95, 98, 100, 48, 48, 52, 53, 95, 48, 49]⟩⟩ 525), none, (.ref 235), .none, 0⟩) ⟨[]⟩)
noncomputable def k240 (_ : Params) : Obj := (PySem.Obj.mk (.type PySem.W.SZ.s5856160107412720595x4) none (.fields ⟨[(.str ⟨⟨[95, 108, 97, 119, 95, 114, 111, 119, 115]⟩⟩ 581), (.str ⟨⟨[95, 108, 97, 119, 95, 114, 111, 119, 115]⟩⟩ 582), (.str ⟨⟨[47, 99, 108, 97, 105, 109, 47, 99, 117, 116, 46, 112, 121]⟩⟩ 583), (.int 183 0), (.int 1 0), (.int 0 0), (.int 0 0), (.int 3 0), (.ref 237), (.bool true), (.int 181 0), (.ref 238), .none, .none, .none, (.ref 239), (.int 584 0), (.int 183 0), (.str ⟨⟨[47, 99, 108, 97, 105, 109, 47, 99, 117, 116, 46, 112, 121]⟩⟩ 585)]⟩) ⟨[]⟩)
noncomputable def k241 (_ : Params) : Obj := (PySem.Obj.mk (.type PySem.W.SZ.s7174869446012820540x8) none (.func ⟨⟨⟨[95, 108, 97, 119, 95, 114, 111, 119, 115]⟩⟩, ⟨⟨[95, 108, 97, 119, 95, 114, 111, 119, 115]⟩⟩, (fdP (kst 18)), (.stmts (fdB (kst 18))), (fdS (kst 18)), 3, [], .none, .none, .none, (.str ⟨⟨[108, 97, 119, 95, 98, 100, 48, 48, 52, 53, 95, 48, 49]⟩⟩ 525), none, (.ref 240), .none, 0⟩) ⟨[]⟩)
noncomputable def k247 (_ : Params) : Obj := (PySem.Obj.mk (.type PySem.W.SZ.s5856160107412720595x4) none (.fields ⟨[(.str ⟨⟨[95, 108, 97, 119, 95, 108, 105, 110, 101]⟩⟩ 587), (.str ⟨⟨[95, 108, 97, 119, 95, 108, 105, 110, 101]⟩⟩ 588), (.str ⟨⟨[47, 99, 108, 97, 105, 109, 47, 99, 117, 116, 46, 112, 121]⟩⟩ 589), (.int 195 0), (.int 3 0), (.int 0 0), (.int 0 0), (.int 3 0), (.ref 242), (.bool true), (.int 181 0), (.ref 243), .none, (.ref 244), (.ref 245), (.ref 246), (.int 595 0), (.int 195 0), (.str ⟨⟨[47, 99, 108, 97, 105, 109, 47, 99, 117, 116, 46, 112, 121]⟩⟩ 596)]⟩) ⟨[]⟩)
noncomputable def k248 (_ : Params) : Obj := (PySem.Obj.mk (.type PySem.W.SZ.s7174869446012820540x8) none (.func ⟨⟨⟨[95, 108, 97, 119, 95, 108, 105, 110, 101]⟩⟩, ⟨⟨[95, 108, 97, 119, 95, 108, 105, 110, 101]⟩⟩, (fdP (kst 19)), (.stmts (fdB (kst 19))), (fdS (kst 19)), 3, [], .none, .none, .none, (.str ⟨⟨[108, 97, 119, 95, 98, 100, 48, 48, 52, 53, 95, 48, 49]⟩⟩ 525), none, (.ref 247), .none, 0⟩) ⟨[]⟩)
noncomputable def k254 (_ : Params) : Obj := (PySem.Obj.mk (.type PySem.W.SZ.s5856160107412720595x4) none (.fields ⟨[(.str ⟨⟨[108, 97, 119]⟩⟩ 598), (.str ⟨⟨[108, 97, 119]⟩⟩ 599), (.str ⟨⟨[47, 99, 108, 97, 105, 109, 47, 99, 117, 116, 46, 112, 121]⟩⟩ 600), (.int 199 0), (.int 1 0), (.int 0 0), (.int 0 0), (.int 3 0), (.ref 249), (.bool true), (.int 181 0), (.ref 250), .none, (.ref 251), (.ref 252), (.ref 253), (.int 614 0), (.int 199 0), (.str ⟨⟨[47, 99, 108, 97, 105, 109, 47, 99, 117, 116, 46, 112, 121]⟩⟩ 615)]⟩) ⟨[]⟩)
noncomputable def k255 (_ : Params) : Obj := (PySem.Obj.mk (.type PySem.W.SZ.s7174869446012820540x8) none (.func ⟨⟨⟨[108, 97, 119]⟩⟩, ⟨⟨[108, 97, 119]⟩⟩, (fdP (kst 20)), (.stmts (fdB (kst 20))), (fdS (kst 20)), 3, [], .none, .none, .none, (.str ⟨⟨[108, 97, 119, 95, 98, 100, 48, 48, 52, 53, 95, 48, 49]⟩⟩ 525), none, (.ref 254), .none, 0⟩) ⟨[]⟩)
noncomputable def kfrag (P : Params) : Frag := [(0, k0 P), (2, k2 P), (3, k3 P), (73, k73 P), (74, k74 P), (95, k95 P), (96, k96 P), (154, k154 P), (155, k155 P), (156, k156 P), (159, k159 P), (165, k165 P), (166, k166 P), (172, k172 P), (173, k173 P), (179, k179 P), (180, k180 P), (186, k186 P), (187, k187 P), (193, k193 P), (194, k194 P), (200, k200 P), (201, k201 P), (207, k207 P), (208, k208 P), (214, k214 P), (215, k215 P), (221, k221 P), (222, k222 P), (228, k228 P), (229, k229 P), (235, k235 P), (236, k236 P), (240, k240 P), (241, k241 P), (247, k247 P), (248, k248 P), (254, k254 P), (255, k255 P)]
noncomputable def ktop (P : Params) : KT := (.node (some (k0 P)) (.node none (.node (some (k3 P)) (.node none (.node none (.node none (.node none (.node none (.node (some (k255 P)) .nil .nil) .nil) .nil) (.node (some (k95 P)) (.node (some (k159 P)) .nil .nil) .nil)) (.node none (.node none .nil (.node (some (k207 P)) .nil .nil)) .nil)) (.node none .nil (.node none (.node none .nil (.node (some (k215 P)) .nil .nil)) (.node none .nil (.node (some (k247 P)) .nil .nil))))) (.node none (.node none .nil (.node none .nil (.node none (.node (some (k179 P)) .nil .nil) .nil))) (.node none (.node none .nil (.node none .nil (.node (some (k235 P)) .nil .nil))) (.node none (.node none (.node (some (k155 P)) .nil .nil) .nil) (.node none (.node (some (k187 P)) .nil .nil) .nil))))) (.node none (.node none (.node none (.node none (.node none .nil (.node (some (k193 P)) .nil .nil)) .nil) (.node none .nil (.node none .nil (.node (some (k241 P)) .nil .nil)))) (.node none (.node none (.node (some (k73 P)) .nil (.node (some (k201 P)) .nil .nil)) .nil) .nil)) (.node none (.node none (.node none .nil (.node none (.node (some (k165 P)) .nil .nil) (.node (some (k229 P)) .nil .nil))) .nil) (.node none (.node none .nil (.node none (.node (some (k173 P)) .nil .nil) .nil)) (.node none (.node none .nil (.node (some (k221 P)) .nil .nil)) .nil))))) (.node (some (k2 P)) (.node none (.node none (.node none (.node none .nil (.node (some (k96 P)) .nil .nil)) (.node none (.node none .nil (.node (some (k208 P)) .nil .nil)) (.node none .nil (.node (some (k240 P)) .nil .nil)))) (.node none (.node none (.node none .nil (.node (some (k200 P)) .nil .nil)) .nil) (.node none .nil (.node none .nil (.node (some (k248 P)) .nil .nil))))) (.node none (.node none (.node none .nil (.node none .nil (.node (some (k228 P)) .nil .nil))) (.node none .nil (.node none (.node (some (k180 P)) .nil .nil) .nil))) (.node none (.node none .nil (.node none (.node (some (k172 P)) .nil .nil) (.node (some (k236 P)) .nil .nil))) (.node none (.node none (.node (some (k156 P)) .nil .nil) .nil) .nil)))) (.node none (.node none (.node none (.node none (.node none .nil (.node (some (k194 P)) .nil .nil)) .nil) .nil) (.node none (.node none (.node (some (k74 P)) .nil .nil) .nil) (.node none (.node none (.node (some (k154 P)) .nil .nil) .nil) (.node none (.node (some (k186 P)) .nil .nil) .nil)))) (.node none (.node none (.node none .nil (.node none (.node (some (k166 P)) .nil .nil) .nil)) (.node none (.node none .nil (.node (some (k214 P)) .nil .nil)) .nil)) (.node none .nil (.node none (.node none .nil (.node (some (k222 P)) .nil .nil)) (.node none .nil (.node (some (k254 P)) .nil .nil))))))))

noncomputable def kAddrs : List Addr := [0, 2, 3, 73, 74, 95, 96, 154, 155, 156, 159, 165, 166, 172, 173, 179, 180, 186, 187, 193, 194, 200, 201, 207, 208, 214, 215, 221, 222, 228, 229, 235, 236, 240, 241, 247, 248, 254, 255]
theorem kfrag_keys (P : Params) : kAddrs = (kfrag P).map (·.1) := by kernel_rfl
theorem kfrag_tree (P : Params) : KT.of (kfrag P) = ktop P := by kernel_rfl
noncomputable def kview : Program := { kprog with main := { kprog.main with body := (kprog.main.body.eraseIdx 10).eraseIdx 1 } }
noncomputable def kloose : List Str := [Str.ofString "_tuplegetter", Str.ofString "tokenize", Str.ofString "Token"]
theorem kdef_some : (defOf kview (Str.ofString "law")).isSome = true := by kernel_rfl
noncomputable def kdef : DefRec × List (Str × PySem.Expr) := (defOf kview (Str.ofString "law")).get kdef_some
abbrev krow : RowW := OpenRow.toRowW PySem.Challenge.rw_bd0045_01.row
theorem kdef_eq : defOf kview PySem.Challenge.rw_bd0045_01.row.name = some (kdef.1, kdef.2) := by kernel_rfl
theorem kdef_the : PySem.Challenge.rw_bd0045_01.row.prog.theDef PySem.Challenge.rw_bd0045_01.row.name = some (kdef.1.params, kdef.1.body, kdef.1.scope) := by kernel_rfl
theorem kdef_kw : kwWritten? kdef.1.params.kwonlyargs kdef.1.params.kw_defaults = some kdef.2 := by kernel_rfl
theorem kdef_name : kdef.1.name = Str.ofString "law" := by kernel_rfl
noncomputable abbrev kXt : Shared → Bool := fun s => xlAt kview [] s && recOk (RowW.records krow) s
theorem kends (w : World) : openEnds PySem.treeTable PySem.Challenge.pw_bd0045_01 w 5106 = openEnds PySem.W.Fast.tw14364793385576792824 kprog w 5106 := by rw [PySem.W.Fast.te14364793385576792824, kprog_eq]
noncomputable def qEnds (w : World) : Option Shared :=
  ((PySem.W.Fast.tw10274390034422433532 PySem.W.Fast.tw14364793385576792824 (opening kprog) w 5106 (PySem.W.Fast.tw1435165496053646825 (opening kprog)).1 (PySem.W.Fast.tw1435165496053646825 (opening kprog)).2).bind (PySem.W.Fast.tw14289696077712309145 kprog)).bind fun s₀ => match s₀.heap.isNs mainGlobals && s₀.gens.size == 0 with
  | true => (PySem.W.Fast.tw14082659384304107361 PySem.W.Fast.tw14364793385576792824 kprog w s₀.heap.objs.size (s₀.heap.nsMap mainGlobals "__annotations__") 5106 s₀ (topStub kprog)).bind fun s₁ => (match staticsOk (importedModules kprog.main.body) s₀.heap s₁.heap && namesBound kprog s₁.heap && gensDone s₁ && laidKept s₀.heap s₁.heap with
        | true => some s₁
        | false => none)
  | false => none
theorem kq (w : World) : openEnds PySem.W.Fast.tw14364793385576792824 kprog w 5106 = qEnds w := by
  unfold openEnds fencedOpening topFrom qEnds
  rw [PySem.W.Fast.te10274390034422433532, PySem.W.Fast.te1435165496053646825, PySem.W.Fast.te14289696077712309145, PySem.W.Fast.te14082659384304107361]
  kernel_rfl
theorem kleft : LeftO PySem.Challenge.rw_bd0045_01.row.prog kview kloose kXt (obsZ kAddrs) (valZ kfrag 256 617) 5106 := fun w => by
  show (openEnds PySem.treeTable PySem.Challenge.pw_bd0045_01 w 5106).map _ = _
  rw [kends, kq, PySem.W.Fast.te4187177175401517315]
  kernel_rfl
theorem khead (hc : WalkX kview kloose (XL kview []) (obsZ kAddrs) (valZ kfrag 256 617) krow kdef.1 kdef.2 fun f vs => PySem.call f vs) : PySem.Challenge.rw_bd0045_01.Holds := by
  refine kstep fun said => ?_
  refine holds_openX (q := kview) (loose := kloose) (Xt := kXt) (XP := XL kview []) (Yf := obsZ kAddrs) (Ya := valZ kfrag 256 617) (N := 5106) kleft (fun s e => xl_of s (Bool.and_eq_true_iff.mp e).1) XL.keeps kdef_eq kdef_the kdef_kw (fun s e => recFacts_of (Bool.and_eq_true_iff.mp e).2) (by rfl) said (by decide +kernel) ⟨rfl, rfl, rfl, rfl, rfl, by decide +kernel⟩ ?hw hc
  w_witness2
end Mine
end

section
open PySem PySem.W PySem.W.X PySem.Calls PyProof.Rows
namespace Mine


abbrev Store := List (Addr × Obj)
noncomputable def nth : Store → Nat → Option (Addr × Obj)
  | [], _ => none
  | p :: l, n => match n with
    | 0 => some p
    | m + 1 => nth l m
noncomputable def put : Store → Nat → Obj → Store
  | [], _, _ => []
  | p :: l, n, o => match n with
    | 0 => (p.1, o) :: l
    | m + 1 => p :: put l m o

abbrev Strm := Nat → Nat
inductive OV where
  | a (x : Addr)
  | v (x : Value)
  | o (x : Option (Addr × Obj))
  | i (x : Int)
  | s (x : Str)
  | ss (x : List Str)
  | l (x : List Value)
noncomputable def nameOf : Value → String
  | .builtin s => s
  | _ => ""
structure OrcR where
  look : List (OV × OV)
  res : Nat → Nat → Result
  upd : Nat → Nat → Store → Store
structure Orc where
  id : Value
  raw : Bool
  f : List Value → Store → Option OrcR

noncomputable def Orc.code (o : Orc) (args : List Value) : Code := match o.raw with
  | true => .builtin (nameOf o.id) ⟨args, []⟩
  | false => .call o.id ⟨args, []⟩
noncomputable def parts : Code → Option (Value × Bool × Args)
  | .call f args => some (f, false, args)
  | .builtin id args => some (.builtin id, true, args)
  | _ => none

inductive Kt (α : Type) where
  | top (k : Result → Sem α)
  | sg (c : Code) (fs : List Frame) (k : Result → Sem Fin)
  | ret (c : Code) (k : Result → Sem Fin) (κ : Kt α)

inductive Md (α : Type) where
  | out (t : Sem α)
  | inn (c : Code) (κ : Kt α) (t : Sem Fin)
  | seg (c : Code) (fs : List Frame) (t : Sem Fin)
  | bad (n : Nat) (a : Addr) (w : String)

structure Par where
  prog : Program
  params : Params
  kt : KT
  ro : Store

structure St where
  hs : List Nat
  st : Store
  obs : List (OV × OV)
  gs : List Nat
  os : List Orc

noncomputable def notCaller (c : Code) : Bool := match c with
  | .builtin id _ => !(decide (id = "claim.caller"))
  | _ => true
noncomputable def Kt.ok {α : Type} : Kt α → Nat → Bool
  | .top _, _ => true
  | .sg .., _ => true
  | .ret c _ κ, n => match n with
    | 0 => false
    | m + 1 => match notCaller c with
      | true => κ.ok m
      | false => false

noncomputable def enterFn (self : Addr) (fd : FuncData) (args : Args) : Sem Fin := do
  let compiled ← match fd.code with
    | .none => pure fd.qualname
    | c => do match ← field c 1 with
      | .str q _ => pure q
      | _ => pure fd.qualname
  let env ← newFunctionEnv fd.scope fd.globals fd.closure (← bindArgs fd args) (compiled ++ ".<locals>.") (some self) fd.code none fd.builtins
  let lim ← nsGet cStatics "sys.recursionlimit"
  match lim with
  | some _ => unsupported "mine"
  | none =>
    match fd.body, fd.scope.isGenerator, fd.scope.isCoroutine with
    | .stmts b, false, false => again (.func b env)
    | _, _, _ => unsupported "mine"

noncomputable def dn (c : Code) : Sem Fin := match c with
  | .call f args => match f with
    | .ref a => .load a none fun o => match o.data with
        | .func fd => enterFn a fd args
        | _ => denote table c
    | _ => denote table c
  | _ => denote table c

noncomputable def looks : List (OV × OV) → List (OV × OV) → List (OV × OV)
  | [], obs => obs
  | p :: l, obs => looks l (p :: obs)

section
variable (P : Par) {α : Type}
abbrev Rest (α : Type) := Strm → List Nat → Store → List (OV × OV) → List Nat → List Orc → Md α × St
noncomputable def halt (md : Md α) : Rest α := fun _ hs st obs gs os => (md, ⟨hs, st, obs, gs, os⟩)

noncomputable def callTo (κ : Kt α) (c : Code) : Md α := match c with
  | .call f args => match κ.ok 8 with
    | true => .inn (.call f args) κ (dn (.call f args))
    | false => .inn (.call f args) κ (denote table (.call f args))
  | c => .inn c κ (denote table c)

noncomputable def loadAt {β : Type} (ih : Md α → Rest α) (wrap : Sem β → Md α) (a : Addr) (k : Obj → Sem β) : Rest α := fun ad hs st obs gs os => match hs with
    | [] => halt (.bad 1 a "") ad hs st obs gs os
    | h :: hs => match h with
      | 0 => match P.kt.get a with
        | some o => ih (wrap (k o)) ad hs st obs gs os
        | none => halt (.bad 2 a "") ad hs st obs gs os
      | m + 1 => match Nat.beq (m % 2) 0 with
        | true => match nth st (m / 2) with
          | some p => ih (wrap (k p.2)) ad hs st ((.a p.1, .a a) :: obs) gs os
          | none => halt (.bad 3 a "") ad hs st obs gs os
        | false => match nth P.ro (m / 2) with
          | some p => ih (wrap (k p.2)) ad hs st ((.a p.1, .a a) :: obs) gs os
          | none => halt (.bad 4 a "") ad hs st obs gs os

noncomputable def node {β : Type} (ih : Md α → Rest α) (wrap : Sem β → Md α) (kap : (Result → Sem β) → Kt α) (leaf : Sem β → Rest α) (t : Sem β) : Rest α := match t with
  | .pure b => leaf (.pure b)
  | .raise e => leaf (.raise e)
  | .rule _ k => ih (wrap (k ()))
  | .at _ k => ih (wrap (k ()))
  | .point _ k => ih (wrap (k ()))
  | .ask k => ih (wrap (k ⟨P.prog, P.params⟩))
  | .load a _ k => loadAt P ih wrap a k
  | .loadIfAlive a k => loadAt P ih wrap a (fun o => k (some o))
  | .update a _ f k => fun ad hs st obs gs os => match hs with
    | [] => halt (.bad 1 a "") ad hs st obs gs os
    | h :: hs => match nth st h with
      | some p => match (f p.2).isFreed with
        | true => halt (.bad 5 a "") ad hs st obs gs os
        | false => ih (wrap (k ())) ad hs (put st h (f p.2)) ((.a p.1, .a a) :: obs) gs os
      | none => halt (.bad 3 a "") ad hs st obs gs os
  | .alloc o k => match o.isFreed with
    | true => halt (.bad 5 0 "")
    | false => fun ad hs st obs gs os => ih (wrap (k (ad 0))) (fun n => ad (n + 1)) hs ((ad 0, o) :: st) obs gs os
  | .fresh k => fun ad hs st obs gs os => ih (wrap (k (ad 0))) (fun n => ad (n + 1)) hs st obs gs os
  | .handled own k => match own with
    | false => ih (wrap (k none))
    | true => halt (.bad 6 0 "")
  | .call c hd _ _ k => match hd with
    | none => fun ad hs st obs gs os => match gs with
      | [] => ih (callTo (kap k) c) ad hs st obs [] os
      | m :: gs => match m with
        | m + 1 => ih (callTo (kap k) c) ad hs st obs (m :: gs) os
        | 0 => match os with
          | [] => halt (.bad 13 0 "") ad hs st obs gs os
          | o :: os => match parts c with
            | some q => match q.2.2.kw with
              | [] => match o.f q.2.2.pos st with
                | some r => match (kap k).ok 8 with
                  | true => ih (wrap (k (r.res (ad 0) (ad 1)))) (fun n => ad (n + 2)) hs (r.upd (ad 0) (ad 1) st) (looks r.look ((.v (.bool q.2.1), .v (.bool o.raw)) :: (.v q.1, .v o.id) :: obs)) gs os
                  | false => halt (.bad 14 0 "") ad hs st obs gs os
                | none => halt (.bad 15 0 "") ad hs st obs gs os
              | _ :: _ => halt (.bad 16 0 "") ad hs st obs gs os
            | none => halt (.bad 17 0 "") ad hs st obs gs os
    | some _ => halt (.bad 7 0 "")
  | .yield v g l k => leaf (.yield v g l k)
  | .unsupported w => halt (.bad 8 0 w)
  | .stack _ => halt (.bad 9 0 "stack")
  | _ => halt (.bad 10 0 "")

noncomputable def back : Kt α → Result → Md α
  | .top k, r => .out (k r)
  | .sg c fs k, r => .seg c fs (k r)
  | .ret c k κ, r => .inn c κ (k r)

noncomputable def goMd (ih : Md α → Rest α) (md : Md α) : Rest α := match md with
  | .out t => node P ih .out .top (fun t => halt (.out t)) t
  | .inn c κ t => node P ih (.inn c κ) (fun k => .ret c k κ) (fun t => match t with
    | .pure fin => match fin with
      | .done f => ih (back κ (.ok f))
      | .again c' => match c'.quiet with
        | true => ih (.inn c' κ (denote table c'))
        | false => halt (.bad 11 0 "")
    | .raise e => ih (back κ (.error e))
    | t => halt (.inn c κ t)) t
  | .seg c fs t => node P ih (.seg c fs) (fun k => .sg c fs k) (fun t => match t with
    | .pure fin => match fin with
      | .done f => match fs with
        | [] => halt (.seg c fs (.pure (.done f)))
        | fr :: fs' => match fr with
          | .ret k _ _ _ c₁ _ _ => ih (.seg c₁ fs' (k (.ok f)))
          | .gen .. => halt (.bad 12 0 "")
      | .again c' => halt (.seg c fs (.pure (.again c')))
    | t => halt (.seg c fs t)) t
  | .bad n a w => halt (.bad n a w)

noncomputable def run : Nat → Md α → Rest α
  | 0 => halt
  | n + 1 => goMd P (run n)
end
end Mine
end

section
open PySem PySem.W PySem.W.X PySem.Calls PyProof.Rows
namespace Mine

theorem frames_le (c : Code) : c.frames ≤ 3 := by
  unfold Code.frames
  split <;> first | decide | (split <;> decide)
theorem weight_le {c : Code} (h : notCaller c = true) : c.weight ≤ 5 := by
  have hf := frames_le c
  have hk : c.isCaller = false := by
    unfold Code.isCaller
    split
    · simp [notCaller] at h
    · rfl
  unfold Code.weight
  rw [hk]
  split <;> split <;> simp <;> omega

section
variable {prog : Program} {w : World} {A : Around}

theorem limit_skip {Γ : Ctx} {p : Pos} {s : Shared} {t : Sem Fin} {Q : Fin → Pos → Shared → Prop} {E : Value → Pos → Shared → Prop} (hΓ : Γ.In A) (hd : A.depth < recursionLimit)
    (h : Sem.wp (model prog w) Γ (nsGet cStatics "sys.recursionlimit" >>= fun lim => match lim with | some _ => unsupported "mine" | none => t) Q E p s) :
    Sem.wp (model prog w) Γ (enterFrame >>= fun _ => t) Q E p s := by
  rw [Sem.wp_bind'] at h ⊢
  have hz : Sem.wp (model prog w) Γ (nsGet cStatics "sys.recursionlimit") (fun r p' s' => r = none ∧ Sem.wp (model prog w) Γ t Q E p' s') E p s := by
    refine Sem.wp_mono _ _ _ (fun r p' s' q => ?_) (fun _ _ _ q => q) p s h
    cases r with
    | some v => exact q.elim
    | none => exact ⟨rfl, q⟩
  have key : Sem.wp (model prog w) Γ enterFrame (fun _ p' s' => Sem.wp (model prog w) Γ t Q E p' s') E p s := by
    have hsum : ((((Γ.code, p) :: Γ.below).map (·.1)).map (·.frames)).sum + ((((Γ.code, p) :: Γ.below).map (·.1)).filter Code.isCreation).length < recursionLimit := by
      have hge := frameCount_ge ((Γ.code, p) :: Γ.below)
      rw [frameCount_cons] at hge
      have := hΓ.2.1
      omega
    have hlt : ¬ ((((Γ.code, p) :: Γ.below).map (·.1)).map (·.frames)).sum ≥ recursionLimit := by omega
    have hlt' : ¬ ((((Γ.code, p) :: Γ.below).map (·.1)).map (·.frames)).sum + ((((Γ.code, p) :: Γ.below).map (·.1)).filter Code.isCreation).length ≥ recursionLimit := by omega
    show Sem.wp (model prog w) Γ ((nsGet cStatics "sys.recursionlimit" >>= fun r => (match r with | some (.int n _) => pure n.toNat | _ => pure recursionLimit : Sem Nat)) >>= fun limit => _) _ E p s
    rw [Sem.wp_bind', Sem.wp_bind']
    refine Sem.wp_mono _ _ _ (fun r p' s' q => ?_) (fun _ _ _ q => q) p s hz
    obtain ⟨rfl, q⟩ := q
    show Sem.wp (model prog w) Γ (if nearTheLimitUnderAClaim (((Γ.code, p) :: Γ.below).map (·.1)) (((((Γ.code, p) :: Γ.below).map (·.1)).map (·.frames)).sum + ((((Γ.code, p) :: Γ.below).map (·.1)).filter Code.isCreation).length) recursionLimit = true then _ else _) _ _ p' s'
    rw [if_neg (by rw [not_nearTheLimit hΓ hd]; exact Bool.false_ne_true)]
    show Sem.wp (model prog w) Γ (if ((((Γ.code, p) :: Γ.below).map (·.1)).map (·.frames)).sum ≥ recursionLimit then _ else _) _ _ p' s'
    rw [if_neg hlt]
    show Sem.wp (model prog w) Γ (if ((((Γ.code, p) :: Γ.below).map (·.1)).map (·.frames)).sum + ((((Γ.code, p) :: Γ.below).map (·.1)).filter Code.isCreation).length ≥ recursionLimit then _ else _) _ _ p' s'
    rw [if_neg hlt']
    exact q
  exact key

theorem enter_tail {Γ : Ctx} {p : Pos} {s : Shared} {a : Addr} {fd : FuncData} {args : Args} {compiled : Str} {Q : Fin → Pos → Shared → Prop} {E : Value → Pos → Shared → Prop} (hΓ : Γ.In A) (hd : A.depth < recursionLimit)
    (h : Sem.wp (model prog w) Γ (do
      let env ← newFunctionEnv fd.scope fd.globals fd.closure (← bindArgs fd args) (compiled ++ ".<locals>.") (some a) fd.code none fd.builtins
      let lim ← nsGet cStatics "sys.recursionlimit"
      match lim with
      | some _ => unsupported "mine"
      | none =>
        match fd.body, fd.scope.isGenerator, fd.scope.isCoroutine with
        | .stmts b, false, false => again (.func b env)
        | _, _, _ => unsupported "mine") Q E p s) :
    Sem.wp (model prog w) Γ (do
      let env ← newFunctionEnv fd.scope fd.globals fd.closure (← bindArgs fd args) (compiled ++ ".<locals>.") (some a) fd.code none fd.builtins
      enterFrame
      let code : Code := match fd.body with
        | .stmts b => .func b env
        | .expr e => .expr e env
      match fd.scope.isGenerator, fd.scope.isCoroutine with
      | false, false => again code
      | true, false => ret (← newGenerator code fd.name fd.qualname)
      | false, true => ret (← newCoroutine code fd.name fd.qualname)
      | true, true => ret (← newAsyncGenerator code fd.name fd.qualname)) Q E p s := by
  rw [Sem.wp_bind'] at h ⊢
  refine Sem.wp_mono _ _ _ (fun bs p2 s2 h2 => ?_) (fun _ _ _ x => x) p s h
  rw [Sem.wp_bind'] at h2 ⊢
  refine Sem.wp_mono _ _ _ (fun env p3 s3 h3 => ?_) (fun _ _ _ x => x) p2 s2 h2
  refine limit_skip hΓ hd ?_
  rw [Sem.wp_bind'] at h3 ⊢
  refine Sem.wp_mono _ _ _ (fun lim p4 s4 h4 => ?_) (fun _ _ _ x => x) p3 s3 h3
  cases lim with
  | some v => exact h4.elim
  | none =>
    revert h4
    dsimp only
    cases fd.body with
    | expr e => exact fun q => q.elim
    | stmts b =>
      cases fd.scope.isGenerator <;> cases fd.scope.isCoroutine <;> intro h4
      · exact h4
      · exact h4.elim
      · exact h4.elim
      · exact h4.elim

theorem enter_wp {Γ : Ctx} {p : Pos} {s : Shared} {a : Addr} {fd : FuncData} {args : Args} {Q : Fin → Pos → Shared → Prop} {E : Value → Pos → Shared → Prop} (hΓ : Γ.In A) (hd : A.depth < recursionLimit)
    (h : Sem.wp (model prog w) Γ (enterFn a fd args) Q E p s) : Sem.wp (model prog w) Γ (callFunction a fd args) Q E p s := by
  unfold enterFn at h
  unfold callFunction
  dsimp only at h ⊢
  cases hc : fd.code with
  | none =>
    rw [hc] at h
    have h' := enter_tail (compiled := fd.qualname) (a := a) (fd := fd) (args := args) hΓ hd (by rw [hc]; exact h)
    rw [hc] at h'
    exact h'
  | _ =>
    rw [hc] at h
    dsimp only at h ⊢
    rw [Sem.wp_bind'] at h ⊢
    refine Sem.wp_mono _ _ _ (fun v p1 s1 h1 => ?_) (fun _ _ _ x => x) p s h
    cases v
    all_goals
      (dsimp only at h1 ⊢
       have h' := enter_tail (a := a) (fd := fd) (args := args) hΓ hd (by rw [hc]; exact h1)
       rw [hc] at h'
       exact h')

theorem dn_ok {c : Code} {Q : Fin → Shared → Prop} {E : Value → Shared → Prop} {s : Shared} (hd : A.depth < recursionLimit) (h : wpOwn (model prog w) A c (dn c) Q E s) : wpOwn (model prog w) A c (denote table c) Q E s := by
  cases c with
  | call f args =>
    cases f with
    | ref a =>
      intro Γ p hc hΓ
      have z := h Γ p hc hΓ
      have hin : Γ.In A.in1 := by
        have y := hΓ.in
        rw [hc] at y
        have e : A.under (.call (.ref a) args) = A.in1 := Around.under_plain rfl rfl
        rw [e] at y
        exact y
      obtain ⟨o, ho, z⟩ := z
      show Sem.wp (model prog w) Γ (callAny (.ref a) args) _ _ p s
      by_cases hfd : ∃ fd, o.data = .func fd
      · obtain ⟨fd, hfd⟩ := hfd
        simp only [hfd] at z
        simp only [callAny]
        rw [Sem.wp_bind']
        refine (Sem.wp_load_of _ _ _ _ _ ho _).mpr ?_
        simp only [hfd]
        exact enter_wp hin hd z
      · revert z
        dsimp only
        split
        · rename_i fd hfd'; exact absurd ⟨fd, hfd'⟩ hfd
        · exact fun z => z
    | _ => exact h
  | _ => exact h
end
end Mine
end

section
open PySem PySem.W PySem.W.X PySem.Calls PyProof.Rows
namespace Mine

structure Rep (h₀ h : Heap) (st : Store) : Prop where
  keep : ∀ b o, h₀.get? b = some o → h.get? b = some o
  own : ∀ p ∈ st, h.get? p.1 = some p.2 ∧ h₀.get? p.1 = none
  nd : (st.map Prod.fst).Nodup
structure Kn (P : Par) (h₀ : Heap) : Prop where
  kt : KT.Holds h₀ 1 0 P.kt
  ro : ∀ p ∈ P.ro, h₀.get? p.1 = some p.2

theorem nth_mem {st : Store} {p : Addr × Obj} : ∀ {n : Nat}, nth st n = some p → p ∈ st := by
  induction st with
  | nil => intro n h; simp [nth] at h
  | cons q l ih =>
    intro n h
    cases n with
    | zero => simp only [nth, Option.some.injEq] at h; subst h; exact .head _
    | succ n => simp only [nth] at h; exact .tail _ (ih h)
theorem put_fst (st : Store) (o : Obj) : ∀ (n : Nat), (put st n o).map Prod.fst = st.map Prod.fst := by
  induction st with
  | nil => intro n; rfl
  | cons q l ih =>
    intro n
    cases n with
    | zero => simp only [put, List.map_cons]
    | succ n => simp only [put, List.map_cons, ih n]
theorem put_mem {st : Store} {o : Obj} {p q : Addr × Obj} : ∀ {n : Nat}, nth st n = some p → (st.map Prod.fst).Nodup → q ∈ put st n o → q = (p.1, o) ∨ (q ∈ st ∧ q.1 ≠ p.1) := by
  induction st with
  | nil => intro n h; simp [nth] at h
  | cons r l ih =>
    intro n h nd hq
    rw [List.map_cons, List.nodup_cons] at nd
    cases n with
    | zero =>
      simp only [nth, Option.some.injEq] at h
      subst h
      simp only [put] at hq
      rcases List.mem_cons.mp hq with hq | hq
      · exact .inl hq
      · exact .inr ⟨.tail _ hq, fun e => nd.1 (e ▸ List.mem_map_of_mem hq)⟩
    | succ n =>
      simp only [nth] at h
      simp only [put] at hq
      have hp : p ∈ l := nth_mem h
      rcases List.mem_cons.mp hq with hq | hq
      · subst hq
        exact .inr ⟨.head _, fun e => nd.1 (e ▸ List.mem_map_of_mem hp)⟩
      · rcases ih h nd.2 hq with e | ⟨e, ne⟩
        · exact .inl e
        · exact .inr ⟨.tail _ e, ne⟩

section
variable {h₀ h : Heap} {st : Store}
theorem Rep.alloc (R : Rep h₀ h st) {o : Obj} (hf : o.isFreed = false) : Rep h₀ (h.push o) ((h.objs.size, o) :: st) := by
  refine ⟨fun b o' e => Heap.get?_push_of_some _ (R.keep b o' e), fun p hp => ?_, ?_⟩
  · cases hp with
    | head =>
      refine ⟨Heap.get?_push_size _ hf, ?_⟩
      cases q : h₀.get? h.objs.size with
      | none => rfl
      | some o' => exact absurd (Heap.lt_size (R.keep _ _ q)) (Nat.lt_irrefl _)
    | tail _ hp => exact ⟨Heap.get?_push_of_some _ (R.own p hp).1, (R.own p hp).2⟩
  · rw [List.map_cons, List.nodup_cons]
    refine ⟨fun hm => ?_, R.nd⟩
    obtain ⟨p, hp, e⟩ := List.mem_map.mp hm
    have := Heap.lt_size (R.own p hp).1
    rw [e] at this
    exact Nat.lt_irrefl _ this
theorem Rep.update (R : Rep h₀ h st) {n : Nat} {p : Addr × Obj} {f : Obj → Obj} (hn : nth st n = some p) (hf : (f p.2).isFreed = false) : Rep h₀ (h.update p.1 f) (put st n (f p.2)) := by
  have hp := R.own p (nth_mem hn)
  have hs : Heap.SameBut p.1 h (h.update p.1 f) := Heap.SameBut.update ..
  refine ⟨fun b o e => (hs.2 b fun z => ?_).trans (R.keep b o e), fun q hq => ?_, by rw [put_fst]; exact R.nd⟩
  · rw [z, hp.2] at e; cases e
  · rcases put_mem hn R.nd hq with e | ⟨e, ne⟩
    · subst e
      exact ⟨by first | exact Heap.get?_update_self f hp.1 hf | exact Heap.get?_update_self _ hp.1 hf, hp.2⟩
    · exact ⟨(hs.2 q.1 ne).trans (R.own q e).1, (R.own q e).2⟩
end

section
variable {α : Type} (prog : Program) (w : World) (A : Around) (Q : α → Shared → Prop) (E : Value → Shared → Prop) (Pe : End → Shared → Prop)
noncomputable def AK : Kt α → Around
  | .top _ => A.mark none
  | .sg c fs _ => (A.over c fs).mark none
  | .ret c _ κ => ((AK κ).under c).mark none
noncomputable def RK : Kt α → Result → Shared → Prop
  | .top k => fun r s' => wpAny (model prog w) A (k r) Q E s'
  | .sg c fs k => fun r s' => SegX (model prog w) A c (k r) fs s' Pe
  | .ret c k κ => fun r s' => wpOwn (model prog w) (AK A κ) c (k r) (postC prog w (AK A κ) (RK κ)) (postE (RK κ)) s'
noncomputable def Ms : Md α → Shared → Prop
  | .out t => wpAny (model prog w) A t Q E
  | .inn c κ t => wpOwn (model prog w) (AK A κ) c t (postC prog w (AK A κ) (RK prog w A Q E Pe κ)) (postE (RK prog w A Q E Pe κ))
  | .seg c fs t => fun s => SegX (model prog w) A c t fs s Pe
  | .bad .. => fun _ => False
end

noncomputable def FsOk : List Frame → Prop
  | [] => True
  | .ret _ h _ _ _ _ _ :: fs => h = none ∧ FsOk fs
  | .gen .. :: _ => False
structure Lev (L : Nat) (A : Around) : Prop where
  handled : A.handled = none
  depth : A.depth ≤ 400 + 40 * L
  units : A.units ≤ 400 + 80 * L
variable (L : Nat)
noncomputable def SegOk (A : Around) (c : Code) (fs : List Frame) : Prop := FsOk fs ∧ (A.over c fs).depth ≤ 400 + 40 * L ∧ (A.over c fs).units ≤ 400 + 80 * L
noncomputable def KtOk (A : Around) {α : Type} : Kt α → Prop
  | .top _ => True
  | .sg c fs _ => SegOk L A c fs
  | .ret _ _ κ => KtOk A κ
noncomputable def MdOk (A : Around) {α : Type} : Md α → Prop
  | .out _ => True
  | .inn _ κ _ => KtOk L A κ
  | .seg c fs _ => SegOk L A c fs
  | .bad .. => True
variable {L}

theorem marks_ok : ∀ {fs : List Frame} {x : Option Value × Option Value}, FsOk fs → marksOver fs x = x
  | [], _, _ => rfl
  | .ret k h g l c p kp :: fs, x, H => by
    obtain ⟨rfl, H⟩ := H
    have e : marksOver (.ret k none g l c p kp :: fs) x = Frame.marks (.ret k none g l c p kp) (marksOver fs x) := by
      unfold marksOver
      rw [List.foldr_cons]
    rw [e, marks_ok H]
    rfl
  | .gen .. :: _, _, H => H.elim
theorem over_handled {A : Around} {c : Code} {fs : List Frame} (H : FsOk fs) : (A.over c fs).handled = A.handled := by
  show (marksOver fs (A.handled, A.handled)).1 = _
  rw [marks_ok H]
theorem mark_none {A : Around} (h : Option Value) : (A.mark none).handled = A.handled := by
  show Option.or none A.handled = _
  rfl
theorem ak_handled {α : Type} {A : Around} (hA : A.handled = none) : ∀ {κ : Kt α}, KtOk L A κ → (AK A κ).handled = none
  | .top _, _ => by show Option.or none A.handled = none; rw [hA]; rfl
  | .sg c fs _, H => by show Option.or none (A.over c fs).handled = none; rw [over_handled H.1, hA]; rfl
  | .ret c _ κ, H => by show Option.or none (AK A κ).handled = none; rw [ak_handled hA (κ := κ) H]; rfl
theorem units_le (c : Code) : c.cUnits ≤ 10 := by
  have := frames_le c
  unfold Code.cUnits
  split <;> omega
theorem ok_depth {α : Type} {A : Around} (hd : A.depth ≤ 400 + 40 * L) : ∀ {κ : Kt α} {n : Nat}, KtOk L A κ → κ.ok n = true → (AK A κ).depth ≤ 400 + 40 * L + 5 * n
  | .top _, _, _, _ => Nat.le_trans hd (Nat.le_add_right ..)
  | .sg c fs _, _, H, _ => Nat.le_trans H.2.1 (Nat.le_add_right ..)
  | .ret c _ κ, 0, _, h => by simp [Kt.ok] at h
  | .ret c _ κ, n + 1, H, h => by
    unfold Kt.ok at h
    cases hc : notCaller c with
    | false => simp [hc] at h
    | true =>
      simp only [hc] at h
      have z := ok_depth (A := A) hd (κ := κ) H h
      have y := weight_le hc
      show (AK A κ).depth + c.weight ≤ _
      omega
theorem ok_units {α : Type} {A : Around} (hu : A.units ≤ 400 + 80 * L) : ∀ {κ : Kt α} {n : Nat}, KtOk L A κ → κ.ok n = true → (AK A κ).units ≤ 400 + 80 * L + 10 * n
  | .top _, _, _, _ => Nat.le_trans hu (Nat.le_add_right ..)
  | .sg c fs _, _, H, _ => Nat.le_trans H.2.2 (Nat.le_add_right ..)
  | .ret c _ κ, 0, _, h => by simp [Kt.ok] at h
  | .ret c _ κ, n + 1, H, h => by
    unfold Kt.ok at h
    cases hc : notCaller c with
    | false => simp [hc] at h
    | true =>
      simp only [hc] at h
      have z := ok_units (A := A) hu (κ := κ) H h
      have y := units_le c
      show (AK A κ).units + c.cUnits ≤ _
      omega
theorem seg_pop {A : Around} {c c₁ : Code} {k h g l p₁ kp} {fs : List Frame} (H : SegOk L A c (.ret k h g l c₁ p₁ kp :: fs)) : SegOk L A c₁ fs := by
  obtain ⟨h1, h2, h3⟩ := H
  refine ⟨h1.2, ?_, ?_⟩
  · have e : (A.over c (.ret k h g l c₁ p₁ kp :: fs)).depth = A.depth + (c₁.weight + frameCount (fs.map Frame.where_)) + c.weight := by
      show A.depth + frameCount (List.map Frame.where_ (.ret k h g l c₁ p₁ kp :: fs)) + c.weight = _
      rw [List.map_cons]
      show A.depth + frameCount ((c₁, p₁) :: _) + c.weight = _
      rw [frameCount_cons]
    rw [e] at h2
    show A.depth + frameCount (fs.map Frame.where_) + c₁.weight ≤ 400 + 40 * L
    omega
  · have e : (A.over c (.ret k h g l c₁ p₁ kp :: fs)).units = A.units + (c₁.cUnits + unitsOf (fs.map Frame.where_)) + c.cUnits := by
      show A.units + unitsOf (List.map Frame.where_ (.ret k h g l c₁ p₁ kp :: fs)) + c.cUnits = _
      rw [List.map_cons]
      show A.units + unitsOf ((c₁, p₁) :: _) + c.cUnits = _
      rw [unitsOf_cons]
    rw [e] at h3
    show A.units + unitsOf (fs.map Frame.where_) + c₁.cUnits ≤ 400 + 80 * L
    omega

section
variable (P : Par) {α : Type}
theorem looks_mono (x : OV × OV) (l : List (OV × OV)) : ∀ (obs : List (OV × OV)), x ∈ obs → x ∈ looks l obs := by
  induction l with
  | nil => intro obs h; exact h
  | cons p l ih =>
    intro obs h
    unfold looks
    exact ih _ (.tail _ h)
theorem looks_in (p : OV × OV) (l : List (OV × OV)) : ∀ (obs : List (OV × OV)), p ∈ l → p ∈ looks l obs := by
  induction l with
  | nil => intro obs h; exact nomatch h
  | cons q l ih =>
    intro obs h
    unfold looks
    rcases List.mem_cons.mp h with h | h
    · subst h
      exact looks_mono _ l _ (.head _)
    · exact ih _ h
abbrev Mono (ih : Md α → Rest α) : Prop := ∀ md ad hs st obs gs os, ∀ x ∈ obs, x ∈ (ih md ad hs st obs gs os).2.obs
theorem load_mono {β : Type} {ih : Md α → Rest α} (IH : Mono ih) {wrap : Sem β → Md α} {a : Addr} {k : Obj → Sem β} : ∀ ad hs st obs gs os, ∀ x ∈ obs, x ∈ (loadAt P ih wrap a k ad hs st obs gs os).2.obs := by
  intro ad hs st obs gs os x hx
  unfold loadAt
  (repeat' split) <;> first | exact IH _ _ _ _ _ _ _ x hx | exact IH _ _ _ _ _ _ _ x (.tail _ hx) | exact hx
theorem node_mono {β : Type} {ih : Md α → Rest α} (IH : Mono ih) {wrap : Sem β → Md α} {kap : (Result → Sem β) → Kt α} {leaf : Sem β → Rest α}
    (hl : ∀ t ad hs st obs gs os, ∀ x ∈ obs, x ∈ (leaf t ad hs st obs gs os).2.obs) (t : Sem β) : ∀ ad hs st obs gs os, ∀ x ∈ obs, x ∈ (node P ih wrap kap leaf t ad hs st obs gs os).2.obs := by
  intro ad hs st obs gs os x hx
  cases t with
  | alloc o k =>
    unfold node
    dsimp only
    cases o.isFreed
    · exact IH _ _ _ _ _ _ _ x hx
    · exact hx
  | handled own k =>
    unfold node
    dsimp only
    cases own
    · exact IH _ _ _ _ _ _ _ x hx
    · exact hx
  | load a q k => exact load_mono P IH _ _ _ _ _ _ x hx
  | loadIfAlive a k => exact load_mono P IH _ _ _ _ _ _ x hx
  | call c hd g l k =>
    unfold node
    dsimp only
    cases hd
    · dsimp only
      (repeat' split) <;> first | exact IH _ _ _ _ _ _ _ x hx | exact IH _ _ _ _ _ _ _ x (looks_mono _ _ _ (.tail _ (.tail _ hx))) | exact hx
    · exact hx
  | _ =>
    unfold node
    dsimp only
    (repeat' split) <;> first | exact hl _ _ _ _ _ _ _ x hx | exact IH _ _ _ _ _ _ _ x hx | exact IH _ _ _ _ _ _ _ x (.tail _ hx) | exact hx
theorem run_mono : ∀ n, Mono (α := α) (run P n)
  | 0, _, _, _, _, _, _, _, _, hx => hx
  | n + 1, md, ad, hs, st, obs, gs, os, x, hx => by
    have IH : Mono (α := α) (run P n) := run_mono n
    show x ∈ (goMd P (run P n) md ad hs st obs gs os).2.obs
    cases md with
    | bad => exact hx
    | out t => exact node_mono P IH (fun _ _ _ _ _ _ _ _ hx => hx) t ad hs st obs gs os x hx
    | inn c κ t =>
      refine node_mono P IH (fun t ad hs st obs gs os x hx => ?_) t ad hs st obs gs os x hx
      cases t with
      | pure fin =>
        cases fin with
        | done f => exact IH _ _ _ _ _ _ _ x hx
        | again c' =>
          dsimp only
          cases c'.quiet
          · exact hx
          · exact IH _ _ _ _ _ _ _ x hx
      | raise e => exact IH _ _ _ _ _ _ _ x hx
      | _ => exact hx
    | seg c fs t =>
      refine node_mono P IH (fun t ad hs st obs gs os x hx => ?_) t ad hs st obs gs os x hx
      cases t with
      | pure fin =>
        cases fin with
        | done f =>
          cases fs with
          | nil => exact hx
          | cons fr fs' =>
            cases fr with
            | ret => exact IH _ _ _ _ _ _ _ x hx
            | gen => exact hx
        | again c' => exact hx
      | _ => exact hx
end
end Mine
end

section
open PySem PySem.W PySem.W.X PySem.Calls PyProof.Rows
namespace Mine

structure Tame (prog : Program) (w : World) {β : Type} (W : Sem β → Shared → Prop) : Prop where
  rule : ∀ {t k s}, W (k ()) s → W (.rule t k) s
  at_ : ∀ {q k s}, W (k ()) s → W (.at q k) s
  point : ∀ {l k s}, W (k ()) s → W (.point l k) s
  ask : ∀ {k s}, W (k ⟨prog, w.params⟩) s → W (.ask k) s
  load : ∀ {a q k o} {s : Shared}, s.heap.get? a = some o → W (k o) s → W (.load a q k) s
  alive : ∀ {a k o} {s : Shared}, s.heap.get? a = some o → W (k (some o)) s → W (.loadIfAlive a k) s
  update : ∀ {a q f k o} {s : Shared}, s.heap.get? a = some o → W (k ()) { s with heap := s.heap.update a f } → W (.update a q f k) s
  alloc : ∀ {o k} {s : Shared}, W (k s.heap.objs.size) { s with heap := s.heap.push o } → W (.alloc o k) s
  fresh : ∀ {k} {s : Shared}, W (k s.toks) { s with toks := s.toks + 1 } → W (.fresh k) s
  handled : ∀ {k s}, W (k none) s → W (.handled false k) s

section
variable {prog : Program} {w : World} {A : Around}
theorem tame_any {α : Type} {Q : α → Shared → Prop} {E : Value → Shared → Prop} (hA : A.handled = none) : Tame prog w (fun t s => wpAny (model prog w) A t Q E s) where
  rule h := x_rule h
  at_ h := x_at h
  point h := x_point h
  ask h := x_ask h
  load ho h := x_load ho h
  alive {a k o s} ho h := fun Γ p hΓ => by
    show Sem.wp _ _ (k (s.heap.get? a)) _ _ _ _
    rw [ho]; exact h Γ p hΓ
  update {a q f k o s} ho h := wpAny_bind (m := updatePart a q f) (f := k) (wpAny_updatePart ho h)
  alloc {o k s} h := wpAny_bind (m := alloc o) (f := k) (wpAny_alloc h)
  fresh h := x_fresh h
  handled h := x_handled (by rw [hA]; exact h)
theorem tame_own {α : Type} {c : Code} {Q : α → Shared → Prop} {E : Value → Shared → Prop} (hA : A.handled = none) : Tame prog w (fun t s => wpOwn (model prog w) A c t Q E s) where
  rule {t k s} h := y_skim _ _ _ _ _ _ _ _ (.rule t k) 1 h
  at_ {q k s} h := y_skim _ _ _ _ _ _ _ _ (.at q k) 1 h
  point {l k s} h := y_skim _ _ _ _ _ _ _ _ (.point l k) 1 h
  ask {k s} h := y_skim _ _ _ _ _ _ _ _ (.ask k) 1 h
  load {a q k o s} ho h := y_load _ _ _ _ _ _ _ _ _ _ _ _ _ _ _ _ ho h
  alive {a k o s} ho h := y_alive _ _ _ _ _ _ _ _ _ _ _ _ _ _ _ ho h
  update {a q f k o s} ho h := wpOwn_bind (m := updatePart a q f) (f := k) (wpOwn_of_wpAny (wpAny_updatePart ho h))
  alloc {o k s} h := wpOwn_bind (m := alloc o) (f := k) (wpOwn_of_wpAny (wpAny_alloc h))
  fresh h := y_fresh _ _ _ _ _ _ _ _ _ _ _ _ _ h
  handled h := y_handled _ _ _ _ _ _ _ _ _ (by rw [hA]; exact h)
theorem tame_seg {c : Code} {fs : List Frame} {Pe : End → Shared → Prop} (hA : A.handled = none) (hf : FsOk fs) : Tame prog w (fun t s => SegX (model prog w) A c t fs s Pe) where
  rule {t k s} h := s_skim _ _ _ _ _ _ _ (.rule t k) 1 h
  at_ {q k s} h := s_skim _ _ _ _ _ _ _ (.at q k) 1 h
  point {l k s} h := s_skim _ _ _ _ _ _ _ (.point l k) 1 h
  ask {k s} h := s_skim _ _ _ _ _ _ _ (.ask k) 1 h
  load {a q k o s} ho h := s_load _ _ _ _ _ _ _ _ _ _ _ _ _ _ _ ho h
  alive {a k o s} ho h := s_alive _ _ _ _ _ _ _ _ _ _ _ _ _ _ ho h
  update {a q f k o s} ho h := s_cmd prog w A c fs Pe (m := updatePart a q f) (k := k) (wpAny_updatePart ho h)
  alloc {o k s} h := s_cmd prog w A c fs Pe (m := alloc o) (k := k) (wpAny_alloc h)
  fresh h := s_fresh _ _ _ _ _ _ _ _ _ _ _ _ h
  handled h := s_handled _ _ _ _ _ _ _ _ (by rw [over_handled hf, hA]; exact h)
end

section
variable {prog : Program} {w : World} {A : Around} {α : Type} {Q : α → Shared → Prop} {E : Value → Shared → Prop} {Pe : End → Shared → Prop}
variable {L : Nat} {P : Par} {h₀ : Heap} {g : Array GenState} {d : Drawn} {os : OsState}

noncomputable def Ends (prog : Program) (w : World) (A : Around) (Q : α → Shared → Prop) (E : Value → Shared → Prop) (Pe : End → Shared → Prop) (h₀ : Heap) (g : Array GenState) (d : Drawn) (os : OsState) (r : Md α × St) : Prop :=
  (∀ p ∈ r.2.obs, p.1 = p.2) ∧ ∀ h' tk, Rep h₀ h' r.2.st → Ms prog w A Q E Pe r.1 ⟨h', g, d, tk, os⟩
noncomputable def OrcOk (L : Nat) (prog : Program) (w : World) (h₀ : Heap) (g : Array GenState) (d : Drawn) (os : OsState) (o : Orc) : Prop :=
  ∀ (A' : Around) (args : List Value) (r : OrcR) (st : Store) (h : Heap) (tk : Nat), Lev (L + 1) A' → Rep h₀ h st → o.f args st = some r → (∀ p ∈ r.look, p.1 = p.2) →
    wpAny (model prog w) A' (.call (o.code args) none false [] Sem.pure) (fun q s' => ∃ x y h' tk', q = r.res x y ∧ s' = ⟨h', g, d, tk', os⟩ ∧ Rep h₀ h' (r.upd x y st)) (fun _ _ => False) ⟨h, g, d, tk, os⟩
abbrev OTOk (L : Nat) (prog : Program) (w : World) (h₀ : Heap) (g : Array GenState) (d : Drawn) (os : OsState) (l : List Orc) : Prop := ∀ o ∈ l, OrcOk L prog w h₀ g d os o
noncomputable def Sound (L : Nat) (prog : Program) (w : World) (A : Around) (Q : α → Shared → Prop) (E : Value → Shared → Prop) (Pe : End → Shared → Prop) (h₀ : Heap) (g : Array GenState) (d : Drawn) (os : OsState) (ih : Md α → Rest α) : Prop :=
  ∀ md hs st obs gs ot h tk, MdOk L A md → Rep h₀ h st → OTOk L prog w h₀ g d os ot → (∀ ad, Ends prog w A Q E Pe h₀ g d os (ih md ad hs st obs gs ot)) → Ms prog w A Q E Pe md ⟨h, g, d, tk, os⟩

theorem kt_look (K : Kn P h₀) {h : Heap} {st : Store} (R : Rep h₀ h st) {a : Addr} {o : Obj} (e : P.kt.get a = some o) : h.get? a = some o := by
  have z := KT.Holds.get K.kt e
  rw [Nat.one_mul, Nat.add_zero] at z
  exact R.keep _ _ z
theorem ends_no {r : Md α × St} {n a w'} (e : r.1 = .bad n a w') (z : Ends prog w A Q E Pe h₀ g d os r) {h : Heap} (R : Rep h₀ h r.2.st) : False := by
  have y := z.2 h 0 R
  rw [e] at y
  exact y

theorem load_sound (K : Kn P h₀) {β : Type} {ih : Md α → Rest α} (IH : Sound L prog w A Q E Pe h₀ g d os ih) (IM : Mono ih) {wrap : Sem β → Md α} (hok : ∀ t, MdOk L A (wrap t)) {a : Addr} {k : Obj → Sem β} {G : Shared → Prop}
    (hG : ∀ {o} {s : Shared}, s.heap.get? a = some o → Ms prog w A Q E Pe (wrap (k o)) s → G s)
    (hs : List Nat) (st : Store) (obs : List (OV × OV)) (gs : List Nat) (ot : List Orc) (h : Heap) (tk : Nat) (R : Rep h₀ h st) (O : OTOk L prog w h₀ g d os ot) (H : ∀ ad, Ends prog w A Q E Pe h₀ g d os (loadAt P ih wrap a k ad hs st obs gs ot)) : G ⟨h, g, d, tk, os⟩ := by
  let ad₀ : Strm := fun _ => 0
  unfold loadAt at H
  cases hs with
  | nil => exact (ends_no rfl (H ad₀) R).elim
  | cons x hs =>
    dsimp only at H
    cases x with
    | zero =>
      dsimp only at H
      cases e : P.kt.get a with
      | none => rw [e] at H; exact (ends_no rfl (H ad₀) R).elim
      | some o =>
        rw [e] at H
        exact hG (kt_look K R e) (IH _ _ _ _ _ _ _ _ (hok _) R O H)
    | succ m =>
      dsimp only at H
      cases e : Nat.beq (m % 2) 0 with
      | true =>
        simp only [e] at H
        cases f : nth st (m / 2) with
        | none => rw [f] at H; exact (ends_no rfl (H ad₀) R).elim
        | some p =>
          rw [f] at H
          have ea : p.1 = a := OV.a.inj ((H ad₀).1 _ (IM _ _ _ _ _ _ _ _ (.head _)))
          exact hG (ea ▸ (R.own p (nth_mem f)).1) (IH _ _ _ _ _ _ _ _ (hok _) R O H)
      | false =>
        simp only [e] at H
        cases f : nth P.ro (m / 2) with
        | none => rw [f] at H; exact (ends_no rfl (H ad₀) R).elim
        | some p =>
          rw [f] at H
          have ea : p.1 = a := OV.a.inj ((H ad₀).1 _ (IM _ _ _ _ _ _ _ _ (.head _)))
          exact hG (ea ▸ R.keep _ _ (K.ro p (nth_mem f))) (IH _ _ _ _ _ _ _ _ (hok _) R O H)

theorem node_sound (hP : P.prog = prog ∧ P.params = w.params) (K : Kn P h₀) {β : Type} {ih : Md α → Rest α} (IH : Sound L prog w A Q E Pe h₀ g d os ih) (IM : Mono ih)
    {wrap : Sem β → Md α} {kap : (Result → Sem β) → Kt α} {leaf : Sem β → Rest α}
    (T : Tame prog w fun t s => Ms prog w A Q E Pe (wrap t) s) (hok : ∀ t, MdOk L A (wrap t)) (hcok : ∀ c k, MdOk L A (callTo (kap k) c))
    (hcall : ∀ c g' l k s, Ms prog w A Q E Pe (callTo (kap k) c) s → Ms prog w A Q E Pe (wrap (.call c none g' l k)) s)
    (horc : ∀ c g' l k s, (kap k).ok 8 = true → (∀ A' : Around, Lev (L + 1) A' → wpAny (model prog w) A' (.call c none false [] Sem.pure) (fun r s' => Ms prog w A Q E Pe (wrap (k r)) s') (fun _ _ => False) s) → Ms prog w A Q E Pe (wrap (.call c none g' l k)) s)
    (hleaf : ∀ t hs st obs gs ot h tk, ((∃ a, t = .pure a) ∨ (∃ e, t = .raise e) ∨ (∃ v g l k, t = .yield v g l k)) → Rep h₀ h st → OTOk L prog w h₀ g d os ot → (∀ ad, Ends prog w A Q E Pe h₀ g d os (leaf t ad hs st obs gs ot)) → Ms prog w A Q E Pe (wrap t) ⟨h, g, d, tk, os⟩)
    (t : Sem β) (hs : List Nat) (st : Store) (obs : List (OV × OV)) (gs : List Nat) (ot : List Orc) (h : Heap) (tk : Nat) (R : Rep h₀ h st) (O : OTOk L prog w h₀ g d os ot) (H : ∀ ad, Ends prog w A Q E Pe h₀ g d os (node P ih wrap kap leaf t ad hs st obs gs ot)) :
    Ms prog w A Q E Pe (wrap t) ⟨h, g, d, tk, os⟩ := by
  let ad₀ : Strm := fun _ => 0
  cases t with
  | pure b => exact hleaf _ hs st obs gs ot h tk (.inl ⟨_, rfl⟩) R O H
  | raise e => exact hleaf _ hs st obs gs ot h tk (.inr (.inl ⟨_, rfl⟩)) R O H
  | yield v g l k => exact hleaf _ hs st obs gs ot h tk (.inr (.inr ⟨_, _, _, _, rfl⟩)) R O H
  | rule t k => exact T.rule (IH _ _ _ _ _ _ _ _ (hok _) R O H)
  | «at» q k => exact T.at_ (IH _ _ _ _ _ _ _ _ (hok _) R O H)
  | point l k => exact T.point (IH _ _ _ _ _ _ _ _ (hok _) R O H)
  | ask k =>
    refine T.ask (IH _ hs st obs gs ot _ _ (hok _) R O fun ad => ?_)
    have z := H ad
    unfold node at z
    dsimp only at z
    rw [hP.1, hP.2] at z
    exact z
  | load a q k => exact load_sound K IH IM hok (G := fun s => Ms prog w A Q E Pe (wrap (.load a q k)) s) (fun ho z => T.load ho z) hs st obs gs ot h tk R O H
  | loadIfAlive a k => exact load_sound K IH IM hok (k := fun o => k (some o)) (G := fun s => Ms prog w A Q E Pe (wrap (.loadIfAlive a k)) s) (fun ho z => T.alive ho z) hs st obs gs ot h tk R O H
  | update a q f k =>
    unfold node at H
    dsimp only at H
    cases hs with
    | nil => exact (ends_no rfl (H ad₀) R).elim
    | cons x hs =>
      dsimp only at H
      cases e : nth st x with
      | none => rw [e] at H; exact (ends_no rfl (H ad₀) R).elim
      | some p =>
        rw [e] at H
        dsimp only at H
        cases hf : (f p.2).isFreed with
        | true => rw [hf] at H; exact (ends_no rfl (H ad₀) R).elim
        | false =>
          rw [hf] at H
          have ea : p.1 = a := OV.a.inj ((H ad₀).1 _ (IM _ _ _ _ _ _ _ _ (.head _)))
          subst ea
          exact T.update (R.own p (nth_mem e)).1 (IH _ _ _ _ _ _ _ _ (hok _) (R.update e hf) O H)
  | alloc o k =>
    unfold node at H
    dsimp only at H
    cases hf : o.isFreed with
    | true => rw [hf] at H; exact (ends_no rfl (H ad₀) R).elim
    | false =>
      rw [hf] at H
      refine T.alloc (IH _ hs ((h.objs.size, o) :: st) obs gs ot _ _ (hok _) (R.alloc hf) O fun ad => ?_)
      exact H (fun n => match n with | 0 => h.objs.size | m + 1 => ad m)
  | fresh k =>
    refine T.fresh (IH _ hs st obs gs ot _ _ (hok _) R O fun ad => ?_)
    exact H (fun n => match n with | 0 => tk | m + 1 => ad m)
  | handled own k =>
    unfold node at H
    dsimp only at H
    cases own with
    | false => exact T.handled (IH _ _ _ _ _ _ _ _ (hok _) R O H)
    | true => exact (ends_no rfl (H ad₀) R).elim
  | call c hd g' l k =>
    unfold node at H
    dsimp only at H
    cases hd with
    | some _ => exact (ends_no rfl (H ad₀) R).elim
    | none =>
      dsimp only at H
      cases gs with
      | nil => exact hcall _ _ _ _ _ (IH _ _ _ _ _ _ _ _ (hcok _ _) R O H)
      | cons m gs =>
        cases m with
        | succ m => exact hcall _ _ _ _ _ (IH _ _ _ _ _ _ _ _ (hcok _ _) R O H)
        | zero =>
          dsimp only at H
          cases ot with
          | nil => exact (ends_no rfl (H ad₀) R).elim
          | cons o ot =>
            dsimp only at H
            cases hc : parts c with
            | none => rw [hc] at H; exact (ends_no rfl (H ad₀) R).elim
            | some q =>
              rw [hc] at H
              obtain ⟨fv, raw, pos, kw⟩ := q
              dsimp only at H
              cases kw with
              | cons => exact (ends_no rfl (H ad₀) R).elim
              | nil =>
                dsimp only at H
                cases hr : o.f pos st with
                | none => rw [hr] at H; exact (ends_no rfl (H ad₀) R).elim
                | some r =>
                  rw [hr] at H
                  dsimp only at H
                  cases hk : (kap k).ok 8 with
                  | false => rw [hk] at H; exact (ends_no rfl (H ad₀) R).elim
                  | true =>
                    rw [hk] at H
                    have h0 := (H ad₀).1
                    have er : raw = o.raw := Value.bool.inj (OV.v.inj (h0 _ (IM _ _ _ _ _ _ _ _ (looks_mono _ _ _ (.head _)))))
                    have ec : fv = o.id := OV.v.inj (h0 _ (IM _ _ _ _ _ _ _ _ (looks_mono _ _ _ (.tail _ (.head _)))))
                    have el : ∀ p ∈ r.look, p.1 = p.2 := fun p hp => h0 _ (IM _ _ _ _ _ _ _ _ (looks_in _ _ _ hp))
                    have ecode : c = o.code pos := by
                      unfold Orc.code
                      rw [← er, ← ec]
                      cases c <;> simp only [parts, Option.some.injEq, Prod.mk.injEq, reduceCtorEq] at hc
                      · obtain ⟨rfl, rfl, rfl⟩ := hc; rfl
                      · obtain ⟨rfl, rfl, rfl⟩ := hc; rfl
                    subst ecode
                    refine horc _ g' l k _ hk fun A' h1 => ?_
                    have z := O o (.head _) A' pos r st h tk h1 R hr el
                    refine wpAny_mono z (fun q s' hq => ?_) (fun _ _ q => q)
                    obtain ⟨x, y, h', tk', rfl, rfl, R'⟩ := hq
                    exact IH _ _ _ _ _ _ _ _ (hok _) R' (fun o ho => O o (.tail _ ho)) fun ad => H (fun n => match n with | 0 => x | 1 => y | m + 2 => ad m)
  | _ => exact (ends_no rfl (H ad₀) R).elim
end
end Mine
end

section
open PySem PySem.W PySem.W.X PySem.Calls PyProof.Rows
namespace Mine
section
variable {prog : Program} {w : World} {A : Around} {α : Type} {Q : α → Shared → Prop} {E : Value → Shared → Prop} {Pe : End → Shared → Prop}
variable {L : Nat} {P : Par} {h₀ : Heap} {g : Array GenState} {d : Drawn} {os : OsState}

theorem code_of_dn {A' : Around} {c : Code} {R : Result → Shared → Prop} {s : Shared} (h : wpOwn (model prog w) A' c (denote table c) (postC prog w A' R) (postE R) s) : codeAny (model prog w) A' c R s := y_code prog w A' R s c h

theorem callTo_code (hL : L ≤ 10) (hA : Lev L A) {κ : Kt α} (hκ : KtOk L A κ) {c : Code} {s : Shared} (h : Ms prog w A Q E Pe (callTo κ c) s) : codeAny (model prog w) (AK A κ) c (RK prog w A Q E Pe κ) s := by
  refine code_of_dn ?_
  unfold callTo at h
  split at h
  · rename_i f args
    split at h
    · rename_i hk
      have hd' : (AK A κ).depth < recursionLimit := by
        have := ok_depth hA.depth hκ hk
        show (AK A κ).depth < 1000
        omega
      exact dn_ok hd' h
    · exact h
  · exact h
theorem callTo_ok {κ : Kt α} (hκ : KtOk L A κ) (c : Code) : MdOk L A (callTo κ c) := by
  unfold callTo
  split
  · split <;> exact hκ
  · exact hκ
theorem back_ok {κ : Kt α} (hκ : KtOk L A κ) (hs : ∀ c fs k, κ = .sg c fs k → True) (r : Result) : MdOk L A (back κ r) := by
  cases κ with
  | top => trivial
  | sg c fs k => exact hκ
  | ret c k κ => exact hκ
theorem back_ms {κ : Kt α} {r : Result} {s : Shared} (h : Ms prog w A Q E Pe (back κ r) s) : RK prog w A Q E Pe κ r s := by
  cases κ with
  | top => exact h
  | sg c fs k => exact h
  | ret c k κ => exact h

theorem run_sound (hP : P.prog = prog ∧ P.params = w.params) (K : Kn P h₀) (hL : L ≤ 10) (hA : Lev L A) : ∀ n, Sound (α := α) L prog w A Q E Pe h₀ g d os (run P n)
  | 0 => fun md hs st obs gs ot h tk hm R O H => (H fun _ => 0).2 h tk R
  | n + 1 => fun md hs st obs gs ot h tk hm R O H => by
    have IH := run_sound hP K hL hA n
    have IM : Mono (α := α) (run P n) := run_mono P n
    have H : ∀ ad, Ends prog w A Q E Pe h₀ g d os (goMd P (run P n) md ad hs st obs gs ot) := H
    have orc : ∀ {κ : Kt α} (_ : KtOk L A κ) (_ : κ.ok 8 = true) {c : Code} {R : Result → Shared → Prop} {s : Shared}, (∀ A' : Around, Lev (L + 1) A' → wpAny (model prog w) A' (.call c none false [] Sem.pure) R (fun _ _ => False) s) → wpAny (model prog w) (AK A κ) (.call c none false [] Sem.pure) R (fun _ _ => False) s :=
      fun {κ} hk hok {c} {R} {s} z => z _ ⟨ak_handled hA.handled hk, by have := ok_depth hA.depth hk hok; omega, by have := ok_units hA.units hk hok; omega⟩
    cases md with
    | bad m a w' => exact ((H fun _ => 0).2 h tk R).elim
    | out t =>
      refine node_sound hP K IH IM (wrap := .out) (kap := .top) (tame_any hA.handled) (fun _ => trivial) (fun c k => callTo_ok (κ := .top k) trivial c) (fun c g' l k s z => ?_) (fun c g' l k s hok z => ?_) (fun t hs st obs gs ot h tk ht R O H => (H fun _ => 0).2 h tk R) t hs st obs gs ot h tk R O H
      · exact y_start _ _ _ _ _ _ _ _ _ _ _ _ (by intro e; cases e) (callTo_code (κ := .top k) hL hA trivial z)
      · have q := orc (κ := .top k) trivial hok z
        exact fun Γ p hΓ => wpCode_mono (fun r s' y => y Γ p hΓ) (q Γ p hΓ)
    | inn c κ t =>
      have hm : KtOk L A κ := hm
      refine node_sound hP K IH IM (wrap := .inn c κ) (kap := fun k => .ret c k κ) (tame_own (ak_handled hA.handled hm)) (fun _ => hm) (fun c' k => callTo_ok (κ := .ret c k κ) hm c') (fun c' g' l k s z => ?_) (fun c' g' l k s hok z => ?_) (fun t hs st obs gs ot h tk ht R O H => ?_) t hs st obs gs ot h tk R O H
      · exact y_call _ _ _ _ _ _ _ _ _ _ _ _ _ (by intro e; cases e) (callTo_code (κ := .ret c k κ) hL hA hm z)
      · have q := orc (κ := .ret c k κ) hm hok z
        exact fun Γ p hc hΓ => wpCode_mono (fun r s' y => y Γ p hc hΓ) (q Γ p (hc ▸ hΓ.in))
      · rcases ht with ⟨fin, rfl⟩ | ⟨e, rfl⟩ | ⟨v, g', l, k, rfl⟩
        · cases fin with
          | done f => exact y_pure _ _ _ _ _ _ _ _ _ (back_ms (r := .ok f) (IH _ _ _ _ _ _ _ _ (back_ok hm (fun _ _ _ _ => trivial) _) R O H))
          | again c' =>
            dsimp only at H
            cases hq : c'.quiet with
            | false => rw [hq] at H; exact ((H fun _ => 0).2 h tk R).elim
            | true =>
              rw [hq] at H
              exact y_pure _ _ _ _ _ _ _ _ _ (y_again _ _ _ _ _ _ hq (code_of_dn (IH (.inn c' κ (denote table c')) _ _ _ _ _ _ _ hm R O H)))
        · exact y_raise _ _ _ _ _ _ _ _ _ (y_err _ _ _ (back_ms (r := .error e) (IH _ _ _ _ _ _ _ _ (back_ok hm (fun _ _ _ _ => trivial) _) R O H)))
        · exact (H fun _ => 0).2 h tk R
    | seg c fs t =>
      have hm : SegOk L A c fs := hm
      have key : ∀ {c' : Code} {g' l} {k : Result → Sem Fin} {s : Shared}, codeAny (model prog w) (AK A (.sg (α := α) c fs k)) c' (fun r s' => SegX (model prog w) A c (k r) fs s' Pe) s → SegX (model prog w) A c (.call c' none g' l k) fs s Pe := fun {c'} {g'} {l} {k} {s} z => by
        have y : wpAny (model prog w) (A.over c fs) (.call c' none g' l Sem.pure) (fun a s' => SegX (model prog w) A c (k a) fs s' Pe) (fun x s' => SegX (model prog w) A c (.raise x) fs s' Pe) s :=
          x_call (k := Sem.pure) (codeAny_mono z fun r s' q => wpAny_pure q) (by intro e; cases e)
        have q := s_cmd prog w A c fs Pe (m := .call c' none g' l Sem.pure) (k := k) y
        exact q
      refine node_sound hP K IH IM (wrap := .seg c fs) (kap := fun k => .sg c fs k) (tame_seg hA.handled hm.1) (fun _ => hm) (fun c' k => callTo_ok (κ := .sg c fs k) hm c') (fun c' g' l k s z => ?_) (fun c' g' l k s hok z => ?_) (fun t hs st obs gs ot h tk ht R O H => ?_) t hs st obs gs ot h tk R O H
      · exact key (callTo_code (κ := .sg c fs k) hL hA hm z)
      · have q := orc (κ := .sg c fs k) hm hok z
        have y : wpAny (model prog w) (A.over c fs) (.call c' none g' l Sem.pure) (fun a s' => SegX (model prog w) A c (k a) fs s' Pe) (fun x s' => SegX (model prog w) A c (.raise x) fs s' Pe) s := fun Γ p hΓ => wpCode_mono (fun r s' y => y) (q Γ p hΓ)
        exact s_cmd prog w A c fs Pe (m := .call c' none g' l Sem.pure) (k := k) y
      · rcases ht with ⟨fin, rfl⟩ | ⟨e, rfl⟩ | ⟨v, g', l, k, rfl⟩
        · cases fin with
          | done f =>
            cases fs with
            | nil => exact (H fun _ => 0).2 h tk R
            | cons fr fs' =>
              cases fr with
              | ret k hd' g' l c₁ p₁ kp => exact s_pop _ _ _ _ _ _ _ (.ok f) _ rfl _ _ _ _ _ _ _ (IH (.seg c₁ fs' (k (.ok f))) _ _ _ _ _ _ _ (seg_pop hm) R O H)
              | gen => exact hm.1.elim
          | again c' => exact (H fun _ => 0).2 h tk R
        · exact (H fun _ => 0).2 h tk R
        · exact (H fun _ => 0).2 h tk R
end
end Mine
end

section
open PySem PySem.W PySem.W.X PySem.Calls PyProof.Rows
namespace Mine
noncomputable def listObj (xs : List Value) (n : Nat) : Obj := { cls := .type "list", data := .seq ⟨xs⟩ n }
noncomputable def tupObj (xs : List Value) (n : Nat) : Obj := { cls := .type "tuple", data := .seq ⟨xs⟩ n }
noncomputable def itObj (l : Addr) (i : Nat) : Obj := { cls := .type "list_iterator", data := .fields #[.ref l, .int i 0] }
noncomputable def itEnd (i : Nat) : Obj := { cls := .type "list_iterator", data := .fields #[.none, .int i 0] }
noncomputable def ritObj (v left step : Int) (more : List Value) : Obj := { cls := .type "range_iterator", data := .fields ⟨.int v 0 :: .int left 0 :: .int step 0 :: more⟩ }
noncomputable def stopObj (t : Addr) : Obj := { cls := .type "StopIteration", data := .fields #[.ref t, .none, .none, .none, .bool false, .none] }
inductive Src where
  | st (j : Nat)
  | base (l : Addr)
noncomputable def Src.look (x : Src) (a : Addr) (o : Obj) (st : Store) : OV × OV := match x with
  | .st j => (.o (nth st j), .o (some (a, o)))
  | .base l => (.a l, .a a)
noncomputable def strsOf : List Value → List Str
  | [] => []
  | v :: l => match v with
    | .str s _ => s :: strsOf l
    | _ => []
abbrev ret (v : Value) : Result := .ok (.ret v)
noncomputable def oLen (x : Src) (xs : List Value) (n : Nat) : Orc := ⟨.builtin "len", false, fun args st => match args with
  | [.ref a] => some { look := [x.look a (listObj xs n) st], res := fun t _ => .ok (.ret (.int xs.length t)), upd := fun _ _ st => st }
  | _ => none⟩
noncomputable def oGet (x : Src) (xs : List Value) (n : Nat) (k : Int) (v : Value) : Orc := ⟨.builtin "list.__getitem__", false, fun args st => match args with
  | [.ref a, .int i _] => some { look := [x.look a (listObj xs n) st, (.i i, .i k)], res := fun _ _ => .ok (.ret v), upd := fun _ _ st => st }
  | _ => none⟩
noncomputable def oWord (j : Nat) (ss : List Str) (k : Int) (s : Str) : Orc := ⟨.builtin "list.__getitem__", false, fun args st => match args with
  | [.ref a, .int i _] => match nth st j with
    | some p => match p.2.data with
      | .seq xs n => some { look := [(.o (some p), .o (some (a, listObj xs.toList n))), (.ss (strsOf xs.toList), .ss ss), (.i xs.toList.length, .i ss.length), (.i i, .i k)], res := fun t _ => .ok (.ret (.str s t)), upd := fun _ _ st => st }
      | _ => none
    | none => none
  | _ => none⟩
noncomputable def oIn (j : Nat) (ss : List Str) (s : Str) (b : Bool) : Orc := ⟨.builtin "list.__contains__", false, fun args st => match args with
  | [.ref a, .str s' _] => match nth st j with
    | some p => match p.2.data with
      | .seq xs n => some { look := [(.o (some p), .o (some (a, listObj xs.toList n))), (.ss (strsOf xs.toList), .ss ss), (.i xs.toList.length, .i ss.length), (.s s', .s s)], res := fun _ _ => .ok (.ret (.bool b)), upd := fun _ _ st => st }
      | _ => none
    | none => none
  | _ => none⟩
noncomputable def intsOf : List Value → List Int
  | [] => []
  | v :: l => match v with
    | .int i _ => i :: intsOf l
    | _ => []
noncomputable def oInT (j : Nat) (ns : List Int) (r : Int) (b : Bool) : Orc := ⟨.builtin "tuple.__contains__", false, fun args st => match args with
  | [.ref a, .int r' _] => match nth st j with
    | some p => match p.2.data with
      | .seq xs n => some { look := [(.o (some p), .o (some (a, tupObj xs.toList n))), (.l ((intsOf xs.toList).map fun i => .int i 0), .l (ns.map fun i => .int i 0)), (.i xs.toList.length, .i ns.length), (.i r', .i r)], res := fun _ _ => .ok (.ret (.bool b)), upd := fun _ _ st => st }
      | _ => none
    | none => none
  | _ => none⟩
noncomputable def oApp (j : Nat) (xs : List Value) (n : Nat) : Orc := ⟨.builtin "list.append", false, fun args st => match args with
  | [.ref a, v] => some { look := [(.o (nth st j), .o (some (a, listObj xs n)))], res := fun _ _ => .ok (.ret .none), upd := fun _ _ st => put st j (listObj (xs ++ [v]) (n + 1)) }
  | _ => none⟩
noncomputable def oNext (j : Nat) (x : Src) (l : Addr) (xs : List Value) (n : Nat) (i : Nat) (v : Value) : Orc := ⟨.builtin "list_iterator.__next__", false, fun args st => match args with
  | [.ref a] => some { look := [(.o (nth st j), .o (some (a, itObj l i))), x.look l (listObj xs n) st], res := fun _ _ => .ok (.ret v), upd := fun _ _ st => put st j (itObj l (i + 1)) }
  | _ => none⟩
noncomputable def oEnd (j : Nat) (x : Src) (l : Addr) (xs : List Value) (n : Nat) (i : Nat) : Orc := ⟨.builtin "list_iterator.__next__", false, fun args st => match args with
  | [.ref a] => some { look := [(.o (nth st j), .o (some (a, itObj l i))), x.look l (listObj xs n) st], res := fun _ y => .error (.ref y), upd := fun t y st => (y, stopObj t) :: (t, tupObj [] 0) :: put st j (itEnd i) }
  | _ => none⟩
noncomputable def oRng (j : Nat) (v left step : Int) (more : List Value) : Orc := ⟨.builtin "range_iterator.__next__", false, fun args st => match args with
  | [.ref a] => some { look := [(.o (nth st j), .o (some (a, ritObj v left step more)))], res := fun t _ => .ok (.ret (.int v t)), upd := fun _ _ st => put st j (ritObj (v + step) (left - 1) step more) }
  | _ => none⟩
noncomputable def oRngE (j : Nat) (v left step : Int) (more : List Value) : Orc := ⟨.builtin "range_iterator.__next__", false, fun args st => match args with
  | [.ref a] => some { look := [(.o (nth st j), .o (some (a, ritObj v left step more)))], res := fun _ y => .error (.ref y), upd := fun t y st => (y, stopObj t) :: (t, tupObj [] 0) :: st }
  | _ => none⟩
noncomputable def oCat (x : Src) (xs : List Value) (n : Nat) (y : Src) (ys : List Value) (m : Nat) : Orc := ⟨.builtin "list.__add__", false, fun args st => match args with
  | [.ref a, .ref b] => some { look := [x.look a (listObj xs n) st, y.look b (listObj ys m) st], res := fun t _ => .ok (.ret (.ref t)), upd := fun t _ st => (t, listObj (xs ++ ys) 0) :: st }
  | _ => none⟩
noncomputable def oColl (j : Nat) : Orc := ⟨.builtin "proto.collect", true, fun args st => match args with
  | [.ref a] => match nth st j with
    | some p => match p.2.data with
      | .seq xs n => match xs.toList with
        | [] => none
        | x :: l => some { look := [(.o (some p), .o (some (a, tupObj xs.toList n))), (.i (l.length), .i (4 : Int))], res := fun t _ => .ok (.ret (.ref t)), upd := fun t _ st => (t, listObj (x :: l) 1) :: st }
      | _ => none
    | none => none
  | _ => none⟩
noncomputable def oVal (id : String) (f : List Value → Option (List (OV × OV) × (Nat → Value))) : Orc := ⟨.builtin id, false, fun args _ => match f args with
  | some p => some { look := p.1, res := fun t _ => .ok (.ret (p.2 t)), upd := fun _ _ st => st }
  | none => none⟩
noncomputable def oLt (a b : Int) (r : Bool) : Orc := oVal "int.__lt__" fun args => match args with
  | [.int a' _, .int b' _] => some ([(.i a', .i a), (.i b', .i b)], fun _ => .bool r)
  | _ => none
noncomputable def oMul (a b : Int) : Orc := oVal "int.__mul__" fun args => match args with
  | [.int a' _, .int b' _] => some ([(.i a', .i a), (.i b', .i b)], fun t => .int (a * b) t)
  | _ => none
noncomputable def oMod (a m r : Int) : Orc := oVal "int.__mod__" fun args => match args with
  | [.int a' _, .int b' _] => some ([(.i a', .i a), (.i b', .i m)], fun t => .int r t)
  | _ => none
noncomputable def oEqI (a b : Int) (r : Bool) : Orc := oVal "int.__eq__" fun args => match args with
  | [.int a' _, .int b' _] => some ([(.i a', .i a), (.i b', .i b)], fun _ => .bool r)
  | _ => none
noncomputable def oAbs (a : Int) : Orc := oVal "int.__abs__" fun args => match args with
  | [.int a' _] => some ([(.i a', .i a)], fun t => .int a.natAbs t)
  | _ => none
noncomputable def oCell (l : Addr) (k v : Int) : Orc := ⟨.ref 222, false, fun args _ => match args with
  | [.ref a, .int i _] => some { look := [(.a a, .a l), (.i i, .i k)], res := fun t _ => .ok (.ret (.int v t)), upd := fun _ _ st => st }
  | _ => none⟩
noncomputable def oKind (s : Str) (k : Int) (t : Tok) : Orc := ⟨.ref 229, false, fun args _ => match args with
  | [.str s' _] => some { look := [(.s s', .s s)], res := fun _ _ => .ok (.ret (.int k t)), upd := fun _ _ st => st }
  | _ => none⟩
noncomputable def oBin (f : Addr) (v : Value) (x : Value) (r : Bool) : Orc := ⟨.ref f, false, fun args _ => match args with
  | [a, b] => some { look := [(.v a, .v v), (.v b, .v x)], res := fun _ _ => .ok (.ret (.bool r)), upd := fun _ _ st => st }
  | _ => none⟩
noncomputable def oLenS (x : Str) : Orc := oVal "len" fun args => match args with
  | [.str x' _] => some ([(.s x', .s x)], fun t => .int x.length t)
  | _ => none
noncomputable def oCatS (x y : Str) : Orc := oVal "str.__add__" fun args => match args with
  | [.str x' _, .str y' _] => some ([(.s x', .s x), (.s y', .s y)], fun t => .str (x ++ y) t)
  | _ => none
end Mine
end

section
open PySem PySem.W PySem.W.X PySem.Calls PyProof.Rows
open AutoSeq1 (wpAny_loadPart')
namespace Mine
section
variable {prog : Program} {w : World} {A : Around} {L : Nat} {h₀ : Heap} {g : Array GenState} {d : Drawn} {os : OsState}
theorem orc_call {f : Value} {args : List Value} {R : Result → Shared → Prop} {F : Value → Shared → Prop} {s : Shared}
    (h : wpAny (model prog w) A (call f args) (fun v s' => R (.ok (.ret v)) s') (fun e s' => R (.error e) s') s) : wpAny (model prog w) A (.call (.call f ⟨args, []⟩) none false [] Sem.pure) R F s := by
  refine fun Γ p hΓ => wpCode_mono (fun r s' y => ?_) (h Γ p hΓ)
  cases r with
  | error e => exact y
  | ok f =>
    cases f with
    | ret v => exact y
    | _ => exact y.elim

noncomputable def Src.ok (h₀ : Heap) (x : Src) (o : Obj) : Prop := match x with
  | .st _ => True
  | .base l => h₀.get? l = some o
theorem Src.get {x : Src} {o : Obj} {a : Addr} {st : Store} {h : Heap} (R : Rep h₀ h st) (k : x.ok h₀ o) (e : (x.look a o st).1 = (x.look a o st).2) : h.get? a = some o := by
  cases x with
  | st j =>
    have e' : nth st j = some (a, o) := OV.o.inj e
    exact (R.own _ (nth_mem e')).1
  | base l =>
    have e' : l = a := OV.a.inj e
    subst e'
    exact R.keep _ _ k
theorem nth_own {j : Nat} {o : Obj} {a : Addr} {st : Store} {h : Heap} (R : Rep h₀ h st) (e : nth st j = some (a, o)) : h.get? a = some o := (R.own _ (nth_mem e)).1

theorem oLen_ok {x : Src} {xs : List Value} {n : Nat} (k : x.ok h₀ (listObj xs n)) (hn : (xs.length : Int) < 2 ^ 63) : OrcOk L prog w h₀ g d os (oLen x xs n) := by
  intro A' args r st h tk hA R hr hl
  unfold oLen at hr
  dsimp only at hr
  split at hr
  · rename_i a
    cases hr
    have hg := Src.get R k (hl _ (.head _))
    refine orc_call (call_len_list (s := ⟨h, g, d, tk, os⟩) (l := a) (items := ⟨xs⟩) ⟨_, hg, rfl, n, rfl⟩ hn ?_)
    exact ⟨tk + 1, 0, h, tk + 1 + 1, rfl, rfl, R⟩
  · cases hr

theorem oApp_ok {j : Nat} {xs : List Value} {n : Nat} (hn : xs.length ≤ sizeLine) : OrcOk L prog w h₀ g d os (oApp j xs n) := by
  intro A' args r st h tk hA R hr hl
  unfold oApp at hr
  dsimp only at hr
  split at hr
  · rename_i a v
    cases hr
    have e : nth st j = some (a, listObj xs n) := OV.o.inj (hl _ (.head _))
    have hg := nth_own R e
    refine orc_call (call_meets (s := ⟨h, g, d, tk, os⟩) slot_list_append ⟨_, hg, rfl⟩ entry_list_append (args_list_append _ _) (AutoListH.list_append_list_val_0 a ⟨xs⟩ n v hn) ⟨hg, ?_⟩)
    refine ⟨0, 0, _, tk, rfl, rfl, ?_⟩
    have := R.update (f := Obj.mapSeq fun x_1 => x_1.push v) e rfl
    have e2 : Obj.mapSeq (fun x_1 => x_1.push v) (listObj xs n) = listObj (xs ++ [v]) (n + 1) := by
      unfold listObj Obj.mapSeq
      simp
    rw [e2] at this
    exact this
  · cases hr

theorem list_item {a : Addr} {xs : List Value} {n : Nat} {i : Int} {u : Tok} {k : Nat} {v : Value} (hlo : -2 ^ 63 ≤ i) (hhi : i < 2 ^ 63) (hk : seqIndex? i xs.length = some k) (hv : xs[k]? = some v) :
    Meets (Builtin.«list.__getitem__» ⟨[.ref a, .int i u], []⟩) (fun _ R s => s.heap.get? a = some (listObj xs n) ∧ R (.ok (.ret v)) s) :=
  .of_wp fun prog w A R s h => by
    obtain ⟨hp, g, d, tk, os⟩ := s; obtain ⟨hl, h⟩ := h
    have f1 := AutoSeq1.idx_int
    have hy : (⟨xs⟩ : Array Value)[k]? = some v := by simpa using hv
    have hk' : seqIndex? i (⟨xs⟩ : Array Value).size = some k := hk
    have hf : Builtin.List.listFitsIndex i = true := by unfold Builtin.List.listFitsIndex; simp; omega
    have hf' : ¬ (!Builtin.List.listFitsIndex i) = true := by simp [hf]
    wp_walk using wpAny_loadPart' hl
    cases i with
    | ofNat m =>
      have hm : (⟨xs⟩ : Array Value)[m]? = some v := by
        have : k = m := by
          unfold seqIndex? at hk
          have h0 : ¬ (Int.ofNat m < 0) := by simp
          simp only [h0, if_false] at hk
          split at hk
          · simp only [Option.some.injEq] at hk; rw [← hk]; rfl
          · cases hk
        rw [← this]; exact hy
      dsimp only
      refine wpAny_bind (wpAny_seqItemAt hl rfl ?_)
      rw [hm]
      refine wpAny_pure ?_
      exact wpAny_pure ⟨_, rfl, h⟩
    | negSucc m =>
      dsimp only
      refine wpAny_bind (m := Builtin.List.listItems (.ref a)) ?_
      show wpAny _ _ (seqItems? (.ref a) >>= _) _ _ _
      refine wpAny_bind (wpAny_seqItems hl rfl ?_)
      refine wpAny_pure (wpAny_pure ?_)
      simp only [hk', hy, Option.bind_some, Option.map_some]
      exact wpAny_pure ⟨_, rfl, h⟩

theorem oGet_ok {x : Src} {xs : List Value} {n : Nat} {i : Int} {k : Nat} {v : Value} (hx : x.ok h₀ (listObj xs n)) (hlo : -2 ^ 63 ≤ i) (hhi : i < 2 ^ 63) (hk : seqIndex? i xs.length = some k) (hv : xs[k]? = some v) :
    OrcOk L prog w h₀ g d os (oGet x xs n i v) := by
  intro A' args r st h tk hA R hr hl
  unfold oGet at hr
  dsimp only at hr
  split at hr
  · rename_i a i' u
    cases hr
    have hg := Src.get R hx (hl _ (.head _))
    have ei : i' = i := OV.i.inj (hl _ (.tail _ (.head _)))
    subst ei
    refine orc_call (call_meets (s := ⟨h, g, d, tk, os⟩) slot_list_getitem ⟨_, hg, rfl⟩ entry_list_getitem (args_list_getitem _ _) (list_item (a := a) (n := n) hlo hhi hk hv) ⟨hg, ?_⟩)
    exact ⟨0, 0, _, tk, rfl, rfl, R⟩
  · cases hr
theorem strsOf_all : ∀ {xs : List Value} {ss : List Str}, strsOf xs = ss → xs.length = ss.length → ∀ k : Nat, xs[k]? = (ss[k]?).bind fun s => (match xs[k]? with | some (.str _ t) => some (Value.str s t) | _ => none)
  | [], ss, e, hl, k => by cases ss <;> simp_all
  | v :: xs, ss, e, hl, k => by
    cases v with
    | str s t =>
      unfold strsOf at e
      dsimp only at e
      subst e
      cases k with
      | zero => simp
      | succ k =>
        have := strsOf_all (xs := xs) rfl (by simpa using hl) k
        simpa using this
    | _ => unfold strsOf at e; subst e; simp at hl
theorem strsOf_get {xs : List Value} {ss : List Str} {k : Nat} {s : Str} (e : strsOf xs = ss) (hl : xs.length = ss.length) (hs : ss[k]? = some s) : ∃ t, xs[k]? = some (.str s t) := by
  have z := strsOf_all e hl k
  rw [hs, Option.bind_some] at z
  cases hx : xs[k]? with
  | none =>
    have h1 := List.getElem?_eq_none_iff.mp hx
    have h2 := (List.getElem?_eq_some_iff.mp hs).1
    omega
  | some v =>
    rw [hx] at z
    cases v with
    | str s' t => exact ⟨t, z⟩
    | _ => cases z
theorem strsOf_mem {xs : List Value} {ss : List Str} (e : strsOf xs = ss) (hl : xs.length = ss.length) {v : Value} (hv : v ∈ xs) : ∃ s t, v = .str s t := by
  obtain ⟨k, hk⟩ := List.mem_iff_getElem?.mp hv
  have h1 := (List.getElem?_eq_some_iff.mp hk).1
  obtain ⟨s, hs⟩ : ∃ s, ss[k]? = some s := ⟨ss[k]'(by omega), by rw [List.getElem?_eq_getElem]⟩
  obtain ⟨t, ht⟩ := strsOf_get e hl hs
  rw [hk] at ht
  exact ⟨s, t, Option.some.inj ht⟩
theorem listObj_toList (xs : Array Value) (n : Nat) : listObj xs.toList n = { cls := .type "list", data := .seq xs n } := rfl

theorem oWord_ok {j : Nat} {ss : List Str} {i : Int} {k : Nat} {s : Str} (hlo : -2 ^ 63 ≤ i) (hhi : i < 2 ^ 63) (hk : seqIndex? i ss.length = some k) (hs : ss[k]? = some s) :
    OrcOk L prog w h₀ g d os (oWord j ss i s) := by
  intro A' args r st h tk hA R hr hl
  unfold oWord at hr
  dsimp only at hr
  split at hr
  · rename_i a i' u
    split at hr
    · rename_i p hp
      split at hr
      · rename_i xs n hd
        cases hr
        have e1 : some p = some (a, listObj xs.toList n) := OV.o.inj (hl _ (.head _))
        have e2 : strsOf xs.toList = ss := OV.ss.inj (hl _ (.tail _ (.head _)))
        have e3 : (xs.toList.length : Int) = ss.length := OV.i.inj (hl _ (.tail _ (.tail _ (.head _))))
        have e4 : i' = i := OV.i.inj (hl _ (.tail _ (.tail _ (.tail _ (.head _)))))
        subst e4
        have e3' : xs.toList.length = ss.length := by omega
        obtain ⟨t, ht⟩ := strsOf_get e2 e3' hs
        have hg := nth_own R (hp.trans e1)
        refine orc_call (call_meets (s := ⟨h, g, d, tk, os⟩) slot_list_getitem ⟨_, hg, rfl⟩ entry_list_getitem (args_list_getitem _ _) (list_item (a := a) (n := n) hlo hhi (by rw [e3']; exact hk) ht) ⟨hg, ?_⟩)
        exact ⟨t, 0, _, tk, rfl, rfl, R⟩
      · cases hr
    · cases hr
  · cases hr
noncomputable def anyStr (ss : List Str) (s : Str) : Bool := ss.any fun x => x.cps.toList == s.cps.toList
theorem any_strs : ∀ {xs : List Value} {ss : List Str} (s : Str), strsOf xs = ss → xs.length = ss.length → (xs.any fun v => match v with | .str x _ => x.cps.toList == s.cps.toList | _ => false) = anyStr ss s
  | [], ss, s, e, hl => by cases ss <;> simp_all [anyStr]
  | v :: xs, ss, s, e, hl => by
    cases v with
    | str x t =>
      unfold strsOf at e
      dsimp only at e
      subst e
      have := any_strs (xs := xs) s rfl (by simpa using hl)
      simp only [List.any_cons, anyStr] at this ⊢
      rw [this]
    | _ => unfold strsOf at e; subst e; simp at hl
theorem oIn_ok {j : Nat} {ss : List Str} {s : Str} {b : Bool} (hb : anyStr ss s = b) : OrcOk L prog w h₀ g d os (oIn j ss s b) := by
  intro A' args r st h tk hA R hr hl
  unfold oIn at hr
  dsimp only at hr
  split at hr
  · rename_i a s' u
    split at hr
    · rename_i p hp
      split at hr
      · rename_i xs n hd
        cases hr
        have e1 : some p = some (a, listObj xs.toList n) := OV.o.inj (hl _ (.head _))
        have e2 : strsOf xs.toList = ss := OV.ss.inj (hl _ (.tail _ (.head _)))
        have e3 : (xs.toList.length : Int) = ss.length := OV.i.inj (hl _ (.tail _ (.tail _ (.head _))))
        have e4 : s' = s := OV.s.inj (hl _ (.tail _ (.tail _ (.tail _ (.head _)))))
        subst e4
        have e3' : xs.toList.length = ss.length := by omega
        have hg := nth_own R (hp.trans e1)
        refine orc_call (call_meets (s := ⟨h, g, d, tk, os⟩) slot_list_contains ⟨_, hg, rfl⟩ entry_list_contains (args_list_contains _ _)
          (MeetsSeq.list_contains a xs n (.str s' u) (fun v => match v with | .str x _ => x.cps.toList == s'.cps.toList | _ => false) fun y hy => ?_) ⟨hg, ?_⟩)
        · obtain ⟨x, t, rfl⟩ := strsOf_mem e2 e3' (Array.mem_toList_iff.mpr hy)
          exact SeqRoads2.EqGives.str x s' t u
        · refine ⟨0, 0, _, tk, ?_, rfl, R⟩
          rw [← hb, ← any_strs s' e2 e3', Array.any_toList]
      · cases hr
    · cases hr
  · cases hr
theorem ints_any : ∀ {xs : List Value} {ns : List Int} (r : Int), intsOf xs = ns → xs.length = ns.length → (xs.any fun v => match v with | .int x _ => x == r | _ => false) = ns.any (· == r)
  | [], ns, s, e, hl => by cases ns <;> simp_all
  | v :: xs, ns, s, e, hl => by
    cases v with
    | int x t =>
      unfold intsOf at e
      dsimp only at e
      subst e
      have := ints_any (xs := xs) s rfl (by simpa using hl)
      simp only [List.any_cons] at this ⊢
      rw [this]
    | _ => unfold intsOf at e; subst e; simp at hl
theorem ints_mem : ∀ {xs : List Value} {ns : List Int}, intsOf xs = ns → xs.length = ns.length → ∀ v ∈ xs, ∃ x t, v = .int x t
  | [], _, _, _ => fun v hv => nomatch hv
  | v :: xs, ns, e, hl => by
    cases v with
    | int x t =>
      unfold intsOf at e
      dsimp only at e
      subst e
      intro u hu
      rcases List.mem_cons.mp hu with hu | hu
      · exact ⟨x, t, hu⟩
      · exact ints_mem (xs := xs) rfl (by simpa using hl) u hu
    | _ => unfold intsOf at e; subst e; simp at hl
theorem ints_map : ∀ {xs ys : List Int}, xs.map (fun i => Value.int i 0) = ys.map (fun i => Value.int i 0) → xs = ys
  | [], [], _ => rfl
  | x :: xs, y :: ys, e => by
    simp only [List.map_cons, List.cons.injEq, Value.int.injEq] at e
    rw [e.1.1, ints_map e.2]
  | [], y :: ys, e => by simp at e
  | x :: xs, [], e => by simp at e
theorem oInT_ok {j : Nat} {ns : List Int} {r : Int} {b : Bool} (hb : ns.any (· == r) = b) : OrcOk L prog w h₀ g d os (oInT j ns r b) := by
  intro A' args r st h tk hA R hr hl
  unfold oInT at hr
  dsimp only at hr
  split at hr
  · rename_i a s' u
    split at hr
    · rename_i p hp
      split at hr
      · rename_i xs n hd
        cases hr
        have e1 : some p = some (a, tupObj xs.toList n) := OV.o.inj (hl _ (.head _))
        have e2 : intsOf xs.toList = ns := ints_map (OV.l.inj (hl _ (.tail _ (.head _))))
        have e3 : (xs.toList.length : Int) = ns.length := OV.i.inj (hl _ (.tail _ (.tail _ (.head _))))
        have e4 := OV.i.inj (hl _ (.tail _ (.tail _ (.tail _ (.head _)))))
        subst e4
        have e3' : xs.toList.length = ns.length := by omega
        have hg := nth_own R (hp.trans e1)
        refine orc_call (call_meets (s := ⟨h, g, d, tk, os⟩) F.slot_tuple_contains ⟨_, hg, rfl⟩ F.entry_tuple_contains (F.args_tuple_contains_2 _ _)
          (MeetsSeq2.tuple_contains a xs n (.int s' u) (fun v => match v with | .int x _ => x == s' | _ => false) fun y hy => ?_) ⟨hg, ?_⟩)
        · obtain ⟨x, t, rfl⟩ := ints_mem e2 e3' _ (Array.mem_toList_iff.mpr hy)
          exact MeetsSeq.EqGives.int x s' t u
        · refine ⟨0, 0, _, tk, ?_, rfl, R⟩
          rw [← hb, ← ints_any s' e2 e3', Array.any_toList]
      · cases hr
    · cases hr
  · cases hr
end
end Mine
end

section
open PySem PySem.W PySem.W.X PySem.Calls PyProof.Rows
open AutoSeq1 (wpAny_loadPart')
namespace Mine
section
variable {prog : Program} {w : World} {A : Around} {L : Nat} {h₀ : Heap} {g : Array GenState} {d : Drawn} {os : OsState}
theorem raise_new {α : Type} {e : Value} {Q : α → Shared → Prop} {E : Value → Shared → Prop} {s : Shared} (hh : A.handled = none) (h : E e s) : wpAny (model prog w) A.in1 (raiseNew e) Q E s := by
  simp only [raiseNew]
  refine wpAny_bind (wpAny_handled ?_)
  rw [show A.in1.handled = none from hh]
  cases e <;> exact wpAny_bind (wpAny_pure (wpAny_throw h))
theorem oVal_ok {id : String} {f : List Value → Option (List (OV × OV) × (Nat → Value))}
    (H : ∀ (A' : Around) (args : List Value) (p : List (OV × OV) × (Nat → Value)) (h : Heap) (tk : Nat), Lev (L + 1) A' → f args = some p → (∀ q ∈ p.1, q.1 = q.2) →
      wpAny (model prog w) A' (call (.builtin id) args) (fun v s' => ∃ t tk', v = p.2 t ∧ s' = ⟨h, g, d, tk', os⟩) (fun _ _ => False) ⟨h, g, d, tk, os⟩) : OrcOk L prog w h₀ g d os (oVal id f) := by
  intro A' args r st h tk hA R hr hl
  unfold oVal at hr
  dsimp only at hr
  split at hr
  · rename_i p hp
    cases hr
    refine orc_call (wpAny_mono (H A' args p h tk hA hp hl) (fun v s' q => ?_) fun _ _ x => x.elim)
    obtain ⟨t, tk', rfl, rfl⟩ := q
    exact ⟨t, 0, h, tk', rfl, rfl, R⟩
  · cases hr
theorem oLt_ok {a b : Int} {r : Bool} (e : decide (a < b) = r) : OrcOk L prog w h₀ g d os (oLt a b r) := oVal_ok fun A' args p h tk hA hp hl => by
  split at hp
  · cases hp
    rename_i a' t b' u
    have e1 : a' = a := OV.i.inj (hl _ (.head _))
    have e2 : b' = b := OV.i.inj (hl _ (.tail _ (.head _)))
    subst e1 e2 e
    exact call_gives slot_int_lt (typeIs_int _ _ _) entry_int_lt (args_int_lt _ _) (gives_int_lt _ _ _ _) ⟨0, tk, rfl, rfl⟩
  · cases hp
theorem oEqI_ok {a b : Int} {r : Bool} (e : (a == b) = r) : OrcOk L prog w h₀ g d os (oEqI a b r) := oVal_ok fun A' args p h tk hA hp hl => by
  split at hp
  · cases hp
    rename_i a' t b' u
    have e1 : a' = a := OV.i.inj (hl _ (.head _))
    have e2 : b' = b := OV.i.inj (hl _ (.tail _ (.head _)))
    subst e1 e2 e
    exact call_gives F.slot_int_eq (typeIs_int _ _ _) F.entry_int_eq (F.args_int_eq_2 _ _) (gives_int_eq _ _ _ _) ⟨0, tk, rfl, rfl⟩
  · cases hp
theorem oMul_ok {a b : Int} (e : IntMulOk a b) : OrcOk L prog w h₀ g d os (oMul a b) := oVal_ok fun A' args p h tk hA hp hl => by
  split at hp
  · cases hp
    rename_i a' t b' u
    have e1 : a' = a := OV.i.inj (hl _ (.head _))
    have e2 : b' = b := OV.i.inj (hl _ (.tail _ (.head _)))
    subst e1 e2
    exact call_gives F.slot_int_mul (typeIs_int _ _ _) F.entry_int_mul (F.args_int_mul_2 _ _) (gives_int_mul _ _ _ _ e) ⟨tk, tk + 1, rfl, rfl⟩
  · cases hp
theorem oMod_ok {a b r : Int} (e : b ≠ 0) (hr : a.fmod b = r) : OrcOk L prog w h₀ g d os (oMod a b r) := oVal_ok fun A' args p h tk hA hp hl => by
  split at hp
  · cases hp
    rename_i a' t b' u
    have e1 : a' = a := OV.i.inj (hl _ (.head _))
    have e2 : b' = b := OV.i.inj (hl _ (.tail _ (.head _)))
    subst e1 e2 hr
    exact call_gives F.slot_int_mod (typeIs_int _ _ _) F.entry_int_mod (F.args_int_mod_2 _ _) (AutoIntG6.int___mod___int_int_1 _ _ _ _ (by simpa using e)) ⟨tk, tk + 1, rfl, rfl⟩
  · cases hp
theorem oAbs_ok {a : Int} : OrcOk L prog w h₀ g d os (oAbs a) := oVal_ok fun A' args p h tk hA hp hl => by
  split at hp
  · cases hp
    rename_i a' t
    have e1 : a' = a := OV.i.inj (hl _ (.head _))
    subst e1
    by_cases h0 : a' < 0
    · refine call_gives F.slot_int_abs (typeIs_int _ _ _) F.entry_int_abs (F.args_int_abs_1 _) (AutoIntG0.int___abs___int_0 _ _ h0) ⟨tk, tk + 1, ?_, rfl⟩
      show Value.int (-a') tk = Value.int a'.natAbs tk
      congr 1; omega
    · refine call_gives F.slot_int_abs (typeIs_int _ _ _) F.entry_int_abs (F.args_int_abs_1 _) (AutoIntG1.int___abs___int_1 _ _ h0) ⟨t, tk, ?_, rfl⟩
      show Value.int a' t = Value.int a'.natAbs t
      congr 1; omega
  · cases hp
theorem oLenS_ok {x : Str} (e : (x.length : Int) < 2 ^ 63) : OrcOk L prog w h₀ g d os (oLenS x) := oVal_ok fun A' args p h tk hA hp hl => by
  split at hp
  · cases hp
    rename_i x' t
    have e1 : x' = x := OV.s.inj (hl _ (.head _))
    subst e1
    exact call_len_gives (typeIs_str _ _ _) F.slot_str_len F.entry_str_len (F.args_str_len_1 _) (gives_str_len _ _) (by omega) (by omega) ⟨tk + 1, tk + 1 + 1, rfl, rfl⟩
  · cases hp
theorem str_nil_app {x y : Str} (h : x.length = 0) : x ++ y = y := by
  obtain ⟨xs⟩ := x
  obtain ⟨ys⟩ := y
  have : xs = #[] := by
    have : xs.size = 0 := h
    exact Array.size_eq_zero_iff.mp this
  subst this
  show Str.mk (#[] ++ ys) = _
  simp
theorem str_app_nil {x y : Str} (h : y.length = 0) : x ++ y = x := by
  obtain ⟨xs⟩ := x
  obtain ⟨ys⟩ := y
  have : ys = #[] := by
    have : ys.size = 0 := h
    exact Array.size_eq_zero_iff.mp this
  subst this
  show Str.mk (xs ++ #[]) = _
  simp
theorem oCatS_ok {x y : Str} (e : x.length + y.length ≤ sizeLine) : OrcOk L prog w h₀ g d os (oCatS x y) := oVal_ok fun A' args p h tk hA hp hl => by
  split at hp
  · cases hp
    rename_i x' t y' u
    have e1 : x' = x := OV.s.inj (hl _ (.head _))
    have e2 : y' = y := OV.s.inj (hl _ (.tail _ (.head _)))
    subst e1 e2
    refine call_gives F.slot_str_add (typeIs_str _ _ _) F.entry_str_add (F.args_str_add_2 _ _) (gives_str_add _ _ _ _) ?_
    by_cases h1 : x'.length = 0
    · rw [if_pos (by simpa using h1)]
      refine ⟨u, tk, ?_, rfl⟩
      show Value.str y' u = Value.str (x' ++ y') u
      rw [str_nil_app h1]
    · rw [if_neg (by simpa using h1)]
      by_cases h2 : y'.length = 0
      · rw [if_pos (by simpa using h2)]
        refine ⟨t, tk, ?_, rfl⟩
        show Value.str x' t = Value.str (x' ++ y') t
        rw [str_app_nil h2]
      · rw [if_neg (by simpa using h2)]
        exact ⟨by rw [strLen_append]; exact e, tk, tk + 1, rfl, rfl⟩
  · cases hp
theorem oCat_ok {x y : Src} {xs ys : List Value} {n m : Nat} (hx : x.ok h₀ (listObj xs n)) (hy : y.ok h₀ (listObj ys m)) (e : xs.length + ys.length ≤ sizeLine) : OrcOk L prog w h₀ g d os (oCat x xs n y ys m) := by
  intro A' args r st h tk hA R hr hl
  unfold oCat at hr
  dsimp only at hr
  split at hr
  · rename_i a b
    cases hr
    have hg := Src.get R hx (hl _ (.head _))
    have hg' := Src.get R hy (hl _ (.tail _ (.head _)))
    refine orc_call (call_meets (s := ⟨h, g, d, tk, os⟩) F.slot_list_add ⟨_, hg, rfl⟩ F.entry_list_add (F.args_list_add_2 _ _) (AutoSeq1.list___add___list_list_0 a ⟨xs⟩ n b ⟨ys⟩ m e) ⟨hg, hg', ?_⟩)
    refine ⟨h.objs.size, 0, _, tk, rfl, rfl, ?_⟩
    have := R.alloc (o := listObj (xs ++ ys) 0) rfl
    have e2 : listObj (xs ++ ys) 0 = { cls := .type "list", data := .seq ((⟨xs⟩ : Array Value) ++ ⟨ys⟩) } := by
      unfold listObj; simp
    rw [e2] at this ⊢
    exact this
  · cases hr
theorem nth_put {st : Store} {p : Addr × Obj} {o : Obj} : ∀ {n : Nat}, nth st n = some p → nth (put st n o) n = some (p.1, o) := by
  induction st with
  | nil => intro n h; simp [nth] at h
  | cons q l ih =>
    intro n h
    cases n with
    | zero => simp only [nth, Option.some.injEq] at h; subst h; rfl
    | succ n => simp only [nth] at h; exact ih h
theorem put_put {o o' : Obj} : ∀ (st : Store) (n : Nat), put (put st n o) n o' = put st n o'
  | [], _ => rfl
  | p :: l, 0 => rfl
  | p :: l, n + 1 => by simp only [put]; rw [put_put l n]
theorem oNext_ok {j : Nat} {x : Src} {l : Addr} {xs : List Value} {n i : Nat} {v : Value} (hx : x.ok h₀ (listObj xs n)) (hv : xs[i]? = some v) : OrcOk L prog w h₀ g d os (oNext j x l xs n i v) := by
  intro A' args r st h tk hA R hr hl
  unfold oNext at hr
  dsimp only at hr
  split at hr
  · rename_i a
    cases hr
    have e : nth st j = some (a, itObj l i) := OV.o.inj (hl _ (.head _))
    have hi := nth_own R e
    have hg := Src.get R hx (hl _ (.tail _ (.head _)))
    have hv' : (⟨xs⟩ : Array Value)[((i : Nat) : Int).toNat]? = some v := by simpa using hv
    refine orc_call (wpAny_call_entry (s := ⟨h, g, d, tk, os⟩) slot_listiter_next ⟨_, hi, rfl⟩ entry_listiter_next ?_ (args_listiter_next _))
    wp_walk using wpAny_loadPart' hi, wpAny_loadPart' hg
    simp only [hv']
    wp_walk using wpAny_loadPart' hi, wpAny_loadPart' hg
    refine ⟨_, rfl, 0, 0, _, _, rfl, rfl, ?_⟩
    exact R.update e rfl
  · cases hr
theorem stop_eq (t : Addr) : ({ cls := Value.type "StopIteration", data := Data.fields (#[Value.ref t, Value.none, Value.none, Value.none, Value.bool false, if ((Manifest.find? "StopIteration").elim false fun t => t.mro.contains "StopIteration" || t.mro.contains "SystemExit") = true then [].headD Value.none else Value.none] ++ ownMembersOf (Value.type "StopIteration") []) } : Obj) = stopObj t := by kernel_rfl
theorem oEnd_ok {j : Nat} {x : Src} {l : Addr} {xs : List Value} {n i : Nat} (hx : x.ok h₀ (listObj xs n)) (hv : xs[i]? = none) : OrcOk L prog w h₀ g d os (oEnd j x l xs n i) := by
  intro A' args r st h tk hA R hr hl
  unfold oEnd at hr
  dsimp only at hr
  split at hr
  · rename_i a
    cases hr
    have e : nth st j = some (a, itObj l i) := OV.o.inj (hl _ (.head _))
    have hi := nth_own R e
    have hg := Src.get R hx (hl _ (.tail _ (.head _)))
    have hv' : (⟨xs⟩ : Array Value)[((i : Nat) : Int).toNat]? = none := by simpa using hv
    refine orc_call (wpAny_call_entry (s := ⟨h, g, d, tk, os⟩) slot_listiter_next ⟨_, hi, rfl⟩ entry_listiter_next ?_ (args_listiter_next _))
    wp_walk using wpAny_loadPart' hi, wpAny_loadPart' hg
    simp only [hv']
    wp_walk using wpAny_loadPart' hi, wpAny_loadPart' hg
    refine raise_new hA.handled ?_
    refine ⟨(h.update a (Obj.mapFields fun x => x.setIfInBounds 0 Value.none)).objs.size, _, _, _, rfl, rfl, ?_⟩
    rw [stop_eq]
    exact ((R.update (f := Obj.mapFields fun x => x.setIfInBounds 0 Value.none) e rfl).alloc (o := tupObj [] 0) rfl).alloc rfl
  · cases hr
theorem oRng_ok {j : Nat} {v left step : Int} {more : List Value} (hl0 : 0 < left) : OrcOk L prog w h₀ g d os (oRng j v left step more) := by
  intro A' args r st h tk hA R hr hl
  unfold oRng at hr
  dsimp only at hr
  split at hr
  · rename_i a
    cases hr
    have e : nth st j = some (a, ritObj v left step more) := OV.o.inj (hl _ (.head _))
    have hi := nth_own R e
    have hn : ¬ left ≤ 0 := by omega
    refine orc_call (wpAny_call_entry (s := ⟨h, g, d, tk, os⟩) F.slot_range_iterator_next ⟨_, hi, rfl⟩ F.entry_range_iterator_next ?_ (F.args_range_iterator_next_1 _))
    wp_walk using wpAny_loadPart' hi
    refine ⟨_, rfl, _, 0, _, _, rfl, rfl, ?_⟩
    have r1 := R.update (f := Obj.mapFields fun x => x.setIfInBounds 0 (rawInt (v + step))) e rfl
    have r2 := r1.update (f := Obj.mapFields fun x => x.setIfInBounds 1 (rawInt (left - 1))) (nth_put e) rfl
    rw [put_put] at r2
    exact r2
  · cases hr
theorem oRngE_ok {j : Nat} {v left step : Int} {more : List Value} (hl0 : left ≤ 0) : OrcOk L prog w h₀ g d os (oRngE j v left step more) := by
  intro A' args r st h tk hA R hr hl
  unfold oRngE at hr
  dsimp only at hr
  split at hr
  · rename_i a
    cases hr
    have e : nth st j = some (a, ritObj v left step more) := OV.o.inj (hl _ (.head _))
    have hi := nth_own R e
    refine orc_call (wpAny_call_entry (s := ⟨h, g, d, tk, os⟩) F.slot_range_iterator_next ⟨_, hi, rfl⟩ F.entry_range_iterator_next ?_ (F.args_range_iterator_next_1 _))
    wp_walk using wpAny_loadPart' hi
    refine raise_new hA.handled ?_
    refine ⟨h.objs.size, _, _, _, rfl, rfl, ?_⟩
    rw [stop_eq]
    exact (R.alloc (o := tupObj [] 0) rfl).alloc rfl
  · cases hr
end
end Mine
end

section
open PySem PySem.W PySem.W.X PySem.Calls PyProof.Rows
set_option maxHeartbeats 0
namespace Mine
noncomputable def ftOf (f : String → Bool) (b c : Bool) : String → Bool := fun r => match decide (r = "special-get-raises") with
  | true => b
  | false => match decide (r = "comprehension-iter-twice") with
    | true => c
    | false => f r
theorem ftOf_eq {f : String → Bool} {b c : Bool} (hb : f "special-get-raises" = b) (hc : f "comprehension-iter-twice" = c) : ftOf f b c = f := by
  funext r
  unfold ftOf
  by_cases h : r = "special-get-raises"
  · rw [decide_eq_true h]; subst h; exact hb.symm
  · rw [decide_eq_false h]
    by_cases q : r = "comprehension-iter-twice"
    · rw [decide_eq_true q]; subst q; exact hc.symm
    · rw [decide_eq_false q]
theorem run_self : @run = @run := rfl
theorem ft_self : @ftOf = @ftOf := rfl
end Mine
lay_z Mine.run Mine.ftOf
name_z mineRun for Mine.run by Mine.run_self
name_z mineFt for Mine.ftOf by Mine.ft_self
end

section
open PySem PySem.W PySem.W.X PySem.Calls PyProof.Rows
open AutoSeq1 (wpAny_loadPart')
namespace Mine
section
variable {prog : Program} {w : World} {A : Around} {L : Nat} {h₀ : Heap} {g : Array GenState} {d : Drawn} {os : OsState}
theorem orc_run {c : Code} {R : Result → Shared → Prop} {F : Value → Shared → Prop} {s : Shared}
    (h : wpAny (model prog w) A (runValue c) (fun v s' => R (.ok (.ret v)) s') (fun e s' => R (.error e) s') s) : wpAny (model prog w) A (.call c none false [] Sem.pure) R F s := by
  refine fun Γ p hΓ => wpCode_mono (fun r s' y => ?_) (h Γ p hΓ)
  cases r with
  | error e => exact y
  | ok f =>
    cases f with
    | ret v => exact y
    | _ => exact y.elim
theorem oColl_ok {j : Nat} : OrcOk L prog w h₀ g d os (oColl j) := by
  intro A' args r st h tk hA R hr hl
  unfold oColl at hr
  dsimp only at hr
  split at hr
  · rename_i a
    split at hr
    · rename_i p hp
      split at hr
      · rename_i xs n hd
        split at hr
        · cases hr
        · rename_i x l hx
          cases hr
          have e1 : some p = some (a, tupObj xs.toList n) := OV.o.inj (hl _ (.head _))
          have e2 : (l.length : Int) = 4 := OV.i.inj (hl _ (.tail _ (.head _)))
          have hg := nth_own R (hp.trans e1)
          have hz := sizeLine_eq
          have hsz : xs.size ≤ sizeLine := by
            have : xs.toList.length = l.length + 1 := by rw [hx]; rfl
            have q : xs.size = xs.toList.length := rfl
            omega
          show wpAny _ _ (.call (.builtin "proto.collect" ⟨[.ref a], []⟩) none false [] Sem.pure) _ _ _
          refine orc_run (wpAny_runValue (codeAny_builtin F.entry_proto_collect ?_))
          rw [Around.under_plainId F.plain_proto_collect _]
          show wpAny _ A'.in1 (newList [] >>= fun l => again (.builtin "list.__iadd__" ⟨[l, .ref a], []⟩)) _ _ _
          refine wpAny_bind (wpAny_newObj_type ?_)
          refine wpAny_pure ⟨plainId_quiet F.plain_list_iadd _, codeAny_builtin F.entry_list_iadd ?_⟩
          rw [Around.under_plainId F.plain_list_iadd _]
          have r1 := R.alloc (o := listObj [] 0) rfl
          have hS := (r1.own _ (.head _)).1
          have r2 := r1.update (n := 0) (f := Obj.mapSeq (· ++ xs)) rfl rfl
          have e9 : Obj.mapSeq (· ++ xs) (listObj [] 0) = listObj (x :: l) 1 := by
            unfold listObj Obj.mapSeq
            have : ((⟨[]⟩ : Array Value) ++ xs) = ⟨x :: l⟩ := by
              rw [← hx]; simp
            simp only [this]
            rfl
          dsimp only at r2
          rw [e9] at r2
          refine wpAny_mono (wpAny_extend_seq (hsz := hsz) (A := A') (R := fun r s' => r = .ok (.ret (.ref h.objs.size)) ∧ s' = ⟨(h.push (listObj [] 0)).update h.objs.size (Obj.mapSeq (· ++ xs)), g, d, tk, os⟩) (s := ⟨h.push (listObj [] 0), g, d, tk, os⟩)
            h.objs.size a (.ref h.objs.size) 0 (.inr rfl) hS (Heap.get?_push_of_some _ hg) rfl rfl ⟨rfl, rfl⟩) (fun fin s' q => ?_) (fun e s' q => ?_)
          · cases fin with
            | done f =>
              obtain ⟨e, rfl⟩ := q
              cases e
              exact ⟨h.objs.size, 0, _, tk, rfl, rfl, r2⟩
            | again c' => exact ⟨q.1, codeAny_mono q.2 fun r s'' hr => by obtain ⟨rfl, rfl⟩ := hr; exact ⟨h.objs.size, 0, _, tk, rfl, rfl, r2⟩⟩
          · exact absurd q.1 (by simp)
      · cases hr
    · cases hr
  · cases hr
end
end Mine
end

section
open PySem PySem.W PySem.W.X PySem.Calls PyProof.Rows
namespace Mine
abbrev prg := PySem.Challenge.rw_bd0045_01.row.prog
noncomputable def par (w : World) (b c : Bool) (ro : Store) : Par := { prog := prg, params := { w.params with followText := PySem.W.ZFast.mineFt w.params.followText b c }, kt := ktop w.params, ro := ro }
abbrev S (s : String) : Str := Str.ofString s
noncomputable abbrev zrun := @PySem.W.ZFast.mineRun
structure Wd (w : World) (b c : Bool) : Prop where
  hb : w.params.followText "special-get-raises" = b
  hc : w.params.followText "comprehension-iter-twice" = c
theorem obs_all : ∀ {l : List (OV × OV)}, l.map Prod.fst = l.map Prod.snd → ∀ p ∈ l, p.1 = p.2
  | [], _, p, hp => nomatch hp
  | q :: l, e, p, hp => by
    simp only [List.map_cons, List.cons.injEq] at e
    rcases List.mem_cons.mp hp with h | h
    · subst h; exact e.1
    · exact obs_all e.2 p h
theorem par_params {w : World} {b c : Bool} {ro : Store} (W : Wd w b c) : (par w b c ro).params = w.params := by
  show { w.params with followText := PySem.W.ZFast.mineFt w.params.followText b c } = w.params
  rw [← PySem.W.ZFast.mineFt_eq, ftOf_eq W.hb W.hc]
noncomputable def goCall (c : Code) : Md Result := .out (.call c none false [] Sem.pure)
section
variable {w : World} {A : Around} {α : Type} {Q : α → Shared → Prop} {E : Value → Shared → Prop} {Pe : End → Shared → Prop}
variable {L : Nat} {h₀ : Heap} {g : Array GenState} {d : Drawn} {os : OsState}
theorem by_run {b c : Bool} (W : Wd w b c) {ro : Store} (K : Kn (par w b c ro) h₀) (hL : L ≤ 10) (hA : Lev L A) {md : Md α} (hm : MdOk L A md) (n : Nat) (hs : List Nat) {st : Store} (gs : List Nat) {ot : List Orc} {h : Heap} {tk : Nat}
    (R : Rep h₀ h st) (O : OTOk L prg w h₀ g d os ot)
    (H : ∀ ad, (zrun (par w b c ro) n md ad hs st [] gs ot).2.obs.map Prod.fst = (zrun (par w b c ro) n md ad hs st [] gs ot).2.obs.map Prod.snd ∧
      ∀ h' tk', Rep h₀ h' (zrun (par w b c ro) n md ad hs st [] gs ot).2.st → Ms prg w A Q E Pe (zrun (par w b c ro) n md ad hs st [] gs ot).1 ⟨h', g, d, tk', os⟩) :
    Ms prg w A Q E Pe md ⟨h, g, d, tk, os⟩ := by
  refine run_sound (P := par w b c ro) ⟨rfl, par_params W⟩ K hL hA n md hs st [] gs ot h tk hm R O fun ad => ?_
  rw [PySem.W.ZFast.mineRun_eq]
  exact ⟨obs_all (H ad).1, (H ad).2⟩
theorem Rep.drop {h : Heap} {st : Store} (R : Rep h₀ h st) (n : Nat) : Rep h₀ h (st.drop n) :=
  ⟨R.keep, fun p hp => R.own p (List.mem_of_mem_drop hp), by rw [List.map_drop]; exact R.nd.sublist (List.drop_sublist n _)⟩
noncomputable def pickD (ks : List Nat) (k : Nat) (st : Store) : Store := ks.filterMap (nth st) ++ st.drop k
theorem nth_get : ∀ (st : Store) (k : Nat), nth st k = st[k]?
  | [], _ => by simp [nth]
  | p :: l, 0 => by simp [nth]
  | p :: l, k + 1 => by simp [nth, nth_get l k]
noncomputable def ksOk (ks : List Nat) (k : Nat) : Bool := match ks with
  | [] => true
  | x :: l => Nat.blt x k && !(l.any (Nat.beq x)) && ksOk l k
theorem pick_nd {st : Store} (nd : (st.map Prod.fst).Nodup) (k : Nat) : ∀ {ks : List Nat}, ksOk ks k = true → ((pickD ks k st).map Prod.fst).Nodup
  | [], _ => by
    show ((st.drop k).map Prod.fst).Nodup
    rw [List.map_drop]
    exact nd.sublist (List.drop_sublist k _)
  | x :: l, e => by
    unfold ksOk at e
    rw [Bool.and_eq_true, Bool.and_eq_true] at e
    obtain ⟨⟨e1, e2⟩, e3⟩ := e
    have e1 : x < k := by simpa [Nat.blt_eq] using e1
    have e2 : x ∉ l := by
      intro hm
      rw [Bool.not_eq_true'] at e2
      have := List.any_eq_false.mp e2 x hm
      simp at this
    have ih := pick_nd nd k e3
    unfold pickD at ih ⊢
    rw [List.filterMap_cons]
    cases hx : nth st x with
    | none => exact ih
    | some p =>
      dsimp only
      rw [List.cons_append, List.map_cons, List.nodup_cons]
      refine ⟨fun hm => ?_, ih⟩
      rw [nth_get] at hx
      have uniq : ∀ (y : Nat) (q : Addr × Obj), st[y]? = some q → q.1 = p.1 → y = x := by
        intro y q hy e
        have a1 : (st.map Prod.fst)[y]? = some p.1 := by rw [List.getElem?_map, hy]; simp [e]
        have a2 : (st.map Prod.fst)[x]? = some p.1 := by rw [List.getElem?_map, hx]; rfl
        obtain ⟨b1, b2⟩ := List.getElem?_eq_some_iff.mp a1
        obtain ⟨c1, c2⟩ := List.getElem?_eq_some_iff.mp a2
        have pw := List.pairwise_iff_getElem.mp nd
        rcases Nat.lt_trichotomy y x with q | q | q
        · exact absurd (b2.trans c2.symm) (pw y x b1 c1 q)
        · exact q
        · exact absurd (c2.trans b2.symm) (pw x y c1 b1 q)
      obtain ⟨q, hq, e⟩ := List.mem_map.mp hm
      rcases List.mem_append.mp hq with hq | hq
      · obtain ⟨y, hy, hq⟩ := List.mem_filterMap.mp hq
        rw [nth_get] at hq
        exact e2 (uniq y q hq e ▸ hy)
      · obtain ⟨y, hy⟩ := List.mem_iff_getElem?.mp hq
        rw [List.getElem?_drop] at hy
        have := uniq _ q hy e
        omega
theorem Rep.pick {h : Heap} {st : Store} (R : Rep h₀ h st) {ks : List Nat} {k : Nat} (e : ksOk ks k = true) : Rep h₀ h (pickD ks k st) := by
  refine ⟨R.keep, fun p hp => ?_, pick_nd R.nd k e⟩
  rcases List.mem_append.mp hp with hp | hp
  · obtain ⟨y, _, hq⟩ := List.mem_filterMap.mp hp
    exact R.own p (nth_mem hq)
  · exact R.own p (List.mem_of_mem_drop hp)
theorem kn_of {b c : Bool} {ro : Store} (hk : KT.Holds h₀ 1 0 (ktop w.params)) (hr : ∀ p ∈ ro, h₀.get? p.1 = some p.2) : Kn (par w b c ro) h₀ := ⟨hk, hr⟩
theorem by_runs {b c : Bool} (W : Wd w b c) {ro : Store} (K : Kn (par w b c ro) h₀) (hL : L ≤ 10) (hA : Lev L A) {md : Md α} {n : Nat} {hs : List Nat} {st : Store} {gs : List Nat} {ot : List Orc} {h : Heap} {tk : Nat}
    {md' : Strm → Md α} {st' : Strm → Store} {ks : List Nat} {k : Nat}
    (z : ∀ ad, let r := zrun (par w b c ro) n md ad hs st [] gs ot; (r.1, r.2.obs.map Prod.fst, pickD ks k r.2.st) = (md' ad, r.2.obs.map Prod.snd, st' ad))
    (hm : MdOk L A md) (hks : ksOk ks k = true) (R : Rep h₀ h st) (O : OTOk L prg w h₀ g d os ot)
    (H : ∀ ad h' tk', Rep h₀ h' (st' ad) → Ms prg w A Q E Pe (md' ad) ⟨h', g, d, tk', os⟩) :
    Ms prg w A Q E Pe md ⟨h, g, d, tk, os⟩ := by
  refine by_run W K hL hA hm n hs gs R O fun ad => ?_
  have y := z ad
  simp only [Prod.mk.injEq] at y
  obtain ⟨y1, y2, y3⟩ := y
  refine ⟨y2, fun h' tk' R' => ?_⟩
  rw [y1]
  refine H ad h' tk' ?_
  rw [← y3]
  exact R'.pick hks
theorem ot_nil : OTOk L prg w h₀ g d os [] := fun _ h => nomatch h
theorem ot_cons {o : Orc} {l : List Orc} (h : OrcOk L prg w h₀ g d os o) (t : OTOk L prg w h₀ g d os l) : OTOk L prg w h₀ g d os (o :: l) := fun x hx => by
  rcases List.mem_cons.mp hx with e | e
  · exact e ▸ h
  · exact t x e
end
end Mine
end

section
open PySem PySem.W PySem.W.X PySem.Calls PyProof.Rows
set_option maxHeartbeats 0
namespace Mine
noncomputable def cellIn_hs : List Nat := [0, 0, 1, 0, 1, 0, 0, 1, 0, 0, 1, 0, 0, 0, 0, 1, 1, 2, 2, 2]
noncomputable def cellOut_hs : List Nat := [0, 0, 1, 0, 1, 0, 0, 1, 0, 0, 1, 1]
theorem cellIn_run (w : World) (b c : Bool) (ad : Strm) (l : Addr) (xs : List Value) (n : Nat) (i x : Int) (u t : Tok) (st : Store) :
    let r := zrun (par w b c [(l, listObj xs n)]) 63 (goCall (.call (.ref 222) ⟨[.ref l, .int i u], []⟩)) ad cellIn_hs st [] [1, 0, 0, 4]
      [oLen (.base l) xs n, oLt i xs.length true, oGet (.base l) xs n i (.int x t), oAbs x]
    (r.1, r.2.obs.map Prod.fst, pickD [] 1 r.2.st) = (.out (.pure (.ok (.ret (.int x.natAbs (ad 9))))), r.2.obs.map Prod.snd, st) := by
  cases b <;> cases c <;> kernel_rfl
theorem cellOut_run (w : World) (b c : Bool) (ad : Strm) (l : Addr) (xs : List Value) (n : Nat) (i : Int) (u : Tok) (st : Store) :
    let r := zrun (par w b c [(l, listObj xs n)]) 41 (goCall (.call (.ref 222) ⟨[.ref l, .int i u], []⟩)) ad cellOut_hs st [] [1, 0, 0]
      [oLen (.base l) xs n, oLt i xs.length false, oMul 7 i]
    (r.1, r.2.obs.map Prod.fst, pickD [] 1 r.2.st) = (.out (.pure (.ok (.ret (.int (7 * i + 3) (ad 11))))), r.2.obs.map Prod.snd, st) := by
  cases b <;> cases c <;> kernel_rfl

noncomputable def cellV (xs : List Value) (i : Int) : Int := match xs[i.toNat]? with
  | some (.int x _) => x.natAbs
  | _ => 7 * i + 3
section
variable {w : World} {L : Nat} {h₀ : Heap} {g : Array GenState} {d : Drawn} {os : OsState} {b c : Bool}
theorem cellV_nonneg (xs : List Value) {i : Int} (hi : 0 ≤ i) : 0 ≤ cellV xs i := by
  unfold cellV
  split <;> omega
structure Scr (h₀ : Heap) (l : Addr) (xs : List Value) (n : Nat) : Prop where
  at_ : h₀.get? l = some (listObj xs n)
  allInt : ∀ v ∈ xs, ∃ x t, v = Value.int x t
  few : xs.length ≤ 63
theorem goCall_ms {A : Around} {Q : Result → Shared → Prop} {E : Value → Shared → Prop} {Pe : End → Shared → Prop} {c : Code} {s : Shared} (h : Ms prg w A Q E Pe (goCall c) s) : wpAny (model prg w) A (.call c none false [] Sem.pure) Q E s := h
theorem oCell_ok (W : Wd w b c) (hk : KT.Holds h₀ 1 0 (ktop w.params)) {l : Addr} {xs : List Value} {n : Nat} (X : Scr h₀ l xs n) (hL : L ≤ 9) {i : Int} (h0 : 0 ≤ i) (h1 : i < 2 ^ 30) :
    OrcOk L prg w h₀ g d os (oCell l i (cellV xs i)) := by
  intro A' args r st h tk hA R hr hl
  unfold oCell at hr
  dsimp only at hr
  split at hr
  · rename_i a i' u
    cases hr
    have e1 : a = l := OV.a.inj (hl _ (.head _))
    have e2 : i' = i := OV.i.inj (hl _ (.tail _ (.head _)))
    subst e1 e2
    have K : Kn (par w b c [(a, listObj xs n)]) h₀ := kn_of hk (by intro p hp; rw [List.mem_singleton] at hp; subst hp; exact X.at_)
    have hfew := X.few
    refine goCall_ms (Pe := fun _ _ => False) ?_
    by_cases hi : i'.toNat < xs.length
    · obtain ⟨x, t, hx⟩ := X.allInt _ (List.getElem_mem hi)
      have hx' : xs[i'.toNat]? = some (.int x t) := by rw [List.getElem?_eq_getElem hi, hx]
      refine by_runs W K (by omega) hA (fun ad => cellIn_run w b c ad a xs n i' x u t st) trivial rfl R (ot_cons (oLen_ok X.at_ (by omega)) (ot_cons (oLt_ok (decide_eq_true (by omega))) (ot_cons
        (oGet_ok (k := i'.toNat) X.at_ (by omega) (by omega) (seqIndex_of h0 (by omega)) hx') (ot_cons oAbs_ok ot_nil)))) fun ad h' tk' R' => ?_
      refine wpAny_pure ⟨ad 9, 0, h', tk', ?_, rfl, R'⟩
      show _ = Except.ok (Flow.ret (Value.int (cellV xs i') (ad 9)))
      unfold cellV
      rw [hx']
    · have hx' : xs[i'.toNat]? = none := List.getElem?_eq_none_iff.mpr (by omega)
      refine by_runs W K (by omega) hA (fun ad => cellOut_run w b c ad a xs n i' u st) trivial rfl R (ot_cons (oLen_ok X.at_ (by omega)) (ot_cons (oLt_ok (decide_eq_false (by omega))) (ot_cons
        (oMul_ok (.of_left (intBits_le_64 (by omega) (by omega)))) ot_nil))) fun ad h' tk' R' => ?_
      refine wpAny_pure ⟨ad 11, 0, h', tk', ?_, rfl, R'⟩
      show _ = Except.ok (Flow.ret (Value.int (cellV xs i') (ad 11)))
      unfold cellV
      rw [hx']
  · cases hr
end
end Mine
end

section
open PySem PySem.W PySem.W.X PySem.Calls PyProof.Rows
namespace Mine
noncomputable def noCode : Code := .builtin "" ⟨[], []⟩
noncomputable def codeOf {α : Type} : Md α → Code
  | .out t => match t with
    | .call c _ _ _ _ => c
    | _ => noCode
  | .inn _ _ t => match t with
    | .call c _ _ _ _ => c
    | _ => noCode
  | .seg _ _ t => match t with
    | .call c _ _ _ _ => c
    | _ => noCode
  | _ => noCode
noncomputable def contOf {α : Type} (r : Result) : Md α → Md α
  | .out t => match t with
    | .call _ _ _ _ k => .out (k r)
    | _ => .bad 20 0 ""
  | .inn c κ t => match t with
    | .call _ _ _ _ k => .inn c κ (k r)
    | _ => .bad 20 0 ""
  | .seg c fs t => match t with
    | .call _ _ _ _ k => .seg c fs (k r)
    | _ => .bad 20 0 ""
  | _ => .bad 20 0 ""
noncomputable def isCall {α : Type} : Md α → Bool
  | .out t => match t with
    | .call _ hd _ _ _ => hd.isNone
    | _ => false
  | .inn c κ t => match t with
    | .call _ hd _ _ k => hd.isNone && (Kt.ret c k κ).ok 8
    | _ => false
  | .seg _ _ t => match t with
    | .call _ hd _ _ _ => hd.isNone
    | _ => false
  | _ => false
noncomputable def Kt.flat {α : Type} : Kt α → Bool
  | .top _ => true
  | .sg .. => false
  | .ret _ _ κ => κ.flat
noncomputable def okMd {α : Type} : Md α → Bool
  | .inn _ κ _ => κ.flat
  | .seg .. => false
  | _ => true
theorem flat_ok {α : Type} {L : Nat} {A : Around} : ∀ {κ : Kt α}, κ.flat = true → KtOk L A κ
  | .top _, _ => trivial
  | .sg .., h => by cases h
  | .ret _ _ κ, h => flat_ok (κ := κ) h
theorem md_ok {α : Type} {L : Nat} {A : Around} {md : Md α} (h : okMd md = true) : MdOk L A md := by
  cases md with
  | out t => trivial
  | inn c κ t => exact flat_ok h
  | seg c fs t => cases h
  | bad => trivial
theorem cont_ok {α : Type} {L : Nat} {A : Around} {md : Md α} {r : Result} (h : MdOk L A md) : MdOk L A (contOf r md) := by
  cases md with
  | out t => cases t <;> trivial
  | inn c κ t => cases t <;> first | exact h | trivial
  | seg c fs t => cases t <;> first | exact h | trivial
  | bad => trivial
section
variable {w : World} {A : Around} {α : Type} {Q : α → Shared → Prop} {E : Value → Shared → Prop} {Pe : End → Shared → Prop} {L : Nat}
theorem ms_call (hL : L ≤ 10) (hA : Lev L A) {md : Md α} (hm : MdOk L A md) (e : isCall md = true) {s : Shared}
    (z : ∀ A' : Around, Lev (L + 1) A' → wpAny (model prg w) A' (.call (codeOf md) none false [] Sem.pure) (fun r s' => Ms prg w A Q E Pe (contOf r md) s') (fun _ _ => False) s) : Ms prg w A Q E Pe md s := by
  have orc : ∀ {κ : Kt α} (_ : KtOk L A κ) (_ : κ.ok 8 = true), Lev (L + 1) (AK A κ) := fun {κ} hk hok =>
    ⟨ak_handled hA.handled hk, by have := ok_depth hA.depth hk hok; omega, by have := ok_units hA.units hk hok; omega⟩
  cases md with
  | bad => cases e
  | out t =>
    cases t with
    | call c hd g l k =>
      have e : hd.isNone = true := e
      cases hd with
      | some => cases e
      | none =>
        have q := z _ (orc (κ := .top k) trivial rfl)
        exact fun Γ p hΓ => wpCode_mono (fun r s' y => y Γ p hΓ) (q Γ p hΓ)
    | _ => cases e
  | inn c κ t =>
    cases t with
    | call c' hd g l k =>
      have e : (hd.isNone && (Kt.ret c k κ).ok 8) = true := e
      rw [Bool.and_eq_true] at e
      cases hd with
      | some => cases e.1
      | none =>
        have q := z _ (orc (κ := .ret c k κ) hm e.2)
        exact fun Γ p hc hΓ => wpCode_mono (fun r s' y => y Γ p hc hΓ) (q Γ p (hc ▸ hΓ.in))
    | _ => cases e
  | seg c fs t =>
    cases t with
    | call c' hd g l k =>
      have e : hd.isNone = true := e
      cases hd with
      | some => cases e
      | none =>
        have q := z _ (orc (κ := .sg c fs k) hm rfl)
        have y : wpAny (model prg w) (A.over c fs) (.call c' none g l Sem.pure) (fun a s' => SegX (model prg w) A c (k a) fs s' Pe) (fun x s' => SegX (model prg w) A c (.raise x) fs s' Pe) s := fun Γ p hΓ => wpCode_mono (fun r s' y => y) (q Γ p hΓ)
        exact s_cmd prg w A c fs Pe (m := .call c' none g l Sem.pure) (k := k) y
    | _ => cases e
end
end Mine
end

section
open PySem PySem.W PySem.W.X PySem.Calls PyProof.Rows
set_option maxHeartbeats 0
namespace Mine
noncomputable def hsh (w : World) (s : String) : Int := PySem.W.ZFast.zw12210062019545310541 (w.params.strHash (Str.ofString s).cps)
noncomputable def ent (w : World) (s : String) (t : Tok) (v : Value) : DictEntry := ⟨hsh w s, .str (Str.ofString s) t, v⟩
noncomputable def frm (es : List DictEntry) (n : Nat) : Obj := { cls := .type "frame", data := .dict ⟨es⟩ n }
noncomputable def rowsA_hs : List Nat := [0, 0, 1, 0, 0, 7, 3, 7, 3, 0, 0, 0, 7, 0, 1, 1, 1, 1, 1, 1, 1, 1, 1, 1, 1]
noncomputable def rowsA (w : World) (b c : Bool) (ad : Strm) (l : Addr) (xs : List Value) (k : Nat) (v m : Int) : Md Result × St :=
  zrun (par w b c [(l, listObj xs k)]) 88 (goCall (.call (.ref 241) ⟨[.ref l], []⟩)) ad rowsA_hs [] [] [1, 0] [oCell l 0 v, oMod v 11 m]
noncomputable def ad2 (a : Addr) (i : Nat) (x : Addr) : Strm := fun n => bif Nat.beq n i then x else a
noncomputable def rowsAMd (w : World) (fa it : Addr) : Md Result := (rowsA w true true (ad2 fa 19 it) 0 [] 0 0 0).1
noncomputable def rowsLoop (w : World) (fa it : Addr) : Code := codeOf (rowsAMd w fa it)
theorem rowsA_run (w : World) (b c : Bool) (ad : Strm) (l : Addr) (xs : List Value) (k : Nat) (v : Int) (m : Nat) (hm : m < 11) :
    let r := rowsA w b c ad l xs k v m
    (r.1, r.2.obs.map Prod.fst, pickD [0, 2, 3, 4, 5] 6 r.2.st) = (rowsAMd w (ad 0) (ad 19), r.2.obs.map Prod.snd,
      [(ad 19, ritObj 0 (2 + m) 1 []), (ad 4, listObj [.ref (ad 3)] 0), (ad 3, listObj [.ref (ad 2), .bool false] 0), (ad 2, listObj [] 0),
       (ad 0, frm [ent w "script" (ad 1) (.ref l), ent w "rows" (ad 5) (.ref (ad 4)), ent w "ahead" (ad 7) (.str (S "") (ad 6))] 3)]) := by
  match m, hm with
  | 0, _ => cases b <;> kernel_rfl
  | 1, _ => cases b <;> kernel_rfl
  | 2, _ => cases b <;> kernel_rfl
  | 3, _ => cases b <;> kernel_rfl
  | 4, _ => cases b <;> kernel_rfl
  | 5, _ => cases b <;> kernel_rfl
  | 6, _ => cases b <;> kernel_rfl
  | 7, _ => cases b <;> kernel_rfl
  | 8, _ => cases b <;> kernel_rfl
  | 9, _ => cases b <;> kernel_rfl
  | 10, _ => cases b <;> kernel_rfl
  | m + 11, h => exact absurd h (by omega)
end Mine
end

section
open PySem PySem.W PySem.W.X PySem.Calls PyProof.Rows
set_option maxHeartbeats 0
namespace Mine
noncomputable def wordsL : List Str := [⟨#[97]⟩, ⟨#[120, 49]⟩, ⟨#[49, 50]⟩, ⟨#[43]⟩, ⟨#[97, 110, 100]⟩, ⟨#[111, 114]⟩, ⟨#[42]⟩, ⟨#[40]⟩, ⟨#[41]⟩, ⟨#[44]⟩, ⟨#[61, 61]⟩, ⟨#[61]⟩, ⟨#[46]⟩, ⟨#[110, 111, 116]⟩, ⟨#[45]⟩, ⟨#[37]⟩, ⟨#[91]⟩, ⟨#[123]⟩, ⟨#[59]⟩, ⟨#[105, 110]⟩]
noncomputable def leadL : List Str := [⟨#[61]⟩, ⟨#[46]⟩, ⟨#[110, 111, 116]⟩, ⟨#[37]⟩, ⟨#[105, 110]⟩]
noncomputable def opsL : List Str := [⟨#[43]⟩, ⟨#[97, 110, 100]⟩, ⟨#[111, 114]⟩, ⟨#[42]⟩, ⟨#[61, 61]⟩, ⟨#[45]⟩]
noncomputable abbrev zden := PySem.W.ZFast.zw11892475500146522536 PySem.W.ZFast.tableZ
structure More where
  t4 : Tok
  x4 : Int
  u4 : Tok
  t5 : Tok
  x5 : Str
  u5 : Tok
  t6 : Tok
  x6 : Int
  u6 : Tok
noncomputable def rowsFrm (w : World) (l la : Addr) (t1 t2 t3 : Tok) (a : Str) (ta : Tok) (mo : Option More) : Obj := match mo with
  | none => frm [ent w "script" t1 (.ref l), ent w "rows" t2 (.ref la), ent w "ahead" t3 (.str a ta)] 3
  | some q => frm [ent w "script" t1 (.ref l), ent w "rows" t2 (.ref la), ent w "ahead" t3 (.str a ta), ent w "at" q.t4 (.int q.x4 q.u4), ent w "word" q.t5 (.str q.x5 q.u5), ent w "number" q.t6 (.int q.x6 q.u6)] 6
noncomputable def rowsSt (w : World) (l fa it la ra wa : Addr) (t1 t2 t3 : Tok) (a : Str) (ta : Tok) (mo : Option More) (at_ left : Int) (rs : List Value) (nl : Nat) (f : Bool) (nr : Nat) (vs : List Value) (nw : Nat) (T : Store) : Store :=
  (it, ritObj at_ left 1 []) :: (la, listObj (rs ++ [.ref ra]) nl) :: (ra, listObj [.ref wa, .bool f] nr) :: (wa, listObj vs nw) :: (fa, rowsFrm w l la t1 t2 t3 a ta mo) :: T
noncomputable def rowsMd (w : World) (fa it : Addr) : Md Result := .inn (rowsLoop w fa it) (.top Sem.pure) (zden (rowsLoop w fa it))

noncomputable def rowsT_hs0 : List Nat := [1, 9, 4, 0, 0, 0, 0, 0, 0, 13, 13, 0, 1, 1, 1, 13, 6, 13, 0, 0, 0, 0, 0, 1, 1, 17, 17, 8, 17, 11, 11, 11, 13, 13, 13, 13, 13, 15, 15, 15, 15, 17, 0, 17, 17, 0, 17, 8, 17, 1, 1]
theorem rtAFF0_run (w : World) (b c : Bool) (ad : Strm) (l : Addr) (xs : List Value) (k : Nat) (T : Store) (fa it la ra wa : Addr) (t1 t2 t3 : Tok) (a : Str) (ta : Tok) (at_ left : Int) (rs : List Value) (nl : Nat) (f : Bool) (nr : Nat) (vs : List Value) (nw : Nat) (v1 v2 kk : Int) (s : Str) (rr : Int) :
    let r := zrun (par w b c [(l, listObj xs k)]) 199 (rowsMd w fa it) ad rowsT_hs0 (rowsSt w l fa it la ra wa t1 t2 t3 a ta none at_ left rs nl f nr vs nw T) [] [0, 1, 1, 0, 0, 2, 1, 2, 0, 1, 0, 0]
      [oRng 0 at_ left 1 [], oMul 2 at_, oCell l (1 + 2 * at_) v1, oMod v1 20 kk, oWord 0 wordsL kk s, oIn 0 leadL a false, oGet (.st 5) (rs ++ [.ref ra]) nl (-1) (.ref ra), oApp 7 vs nw, oMul 2 at_, oCell l (2 + 2 * at_) v2, oMod v2 6 rr, oInT 0 [1, 2] rr false]
    (r.1, r.2.obs.map Prod.fst, pickD [5, 6, 7, 8, 9] 10 r.2.st) = (rowsMd w fa it, r.2.obs.map Prod.snd, rowsSt w l fa it la ra wa t1 t2 t3 s (ad 35) (some ⟨(ad 2), at_, (ad 0), (ad 37), s, (ad 35), (ad 65), rr, (ad 63)⟩) (at_ + 1) (left - 1) rs nl f nr (vs ++ [.str s (ad 35)]) (nw + 1) T) := by
  kernel_rfl
noncomputable def rowsT_hs1 : List Nat := [1, 9, 4, 0, 0, 0, 0, 0, 0, 13, 13, 0, 1, 1, 1, 13, 6, 13, 0, 0, 0, 0, 0, 1, 1, 17, 17, 8, 17, 11, 11, 11, 13, 13, 13, 13, 13, 15, 15, 15, 15, 17, 0, 17, 17, 0, 17, 8, 17, 1, 1, 19, 19, 13, 13, 13, 15, 15, 15, 15, 15, 7, 19, 13, 13, 13, 13]
theorem rtAFF1_run (w : World) (b c : Bool) (ad : Strm) (l : Addr) (xs : List Value) (k : Nat) (T : Store) (fa it la ra wa : Addr) (t1 t2 t3 : Tok) (a : Str) (ta : Tok) (at_ left : Int) (rs : List Value) (nl : Nat) (f : Bool) (nr : Nat) (vs : List Value) (nw : Nat) (v1 v2 kk : Int) (s : Str) :
    let r := zrun (par w b c [(l, listObj xs k)]) 248 (rowsMd w fa it) ad rowsT_hs1 (rowsSt w l fa it la ra wa t1 t2 t3 a ta none at_ left rs nl f nr vs nw T) [] [0, 1, 1, 0, 0, 2, 1, 2, 0, 1, 0, 0, 2, 1]
      [oRng 0 at_ left 1 [], oMul 2 at_, oCell l (1 + 2 * at_) v1, oMod v1 20 kk, oWord 0 wordsL kk s, oIn 0 leadL a false, oGet (.st 5) (rs ++ [.ref ra]) nl (-1) (.ref ra), oApp 7 vs nw, oMul 2 at_, oCell l (2 + 2 * at_) v2, oMod v2 6 1, oInT 0 [1, 2] 1 true, oGet (.st 6) (rs ++ [.ref ra]) nl (-1) (.ref ra), oApp 8 (rs ++ [.ref ra]) nl]
    (r.1, r.2.obs.map Prod.fst, pickD [7, 8, 0, 1, 11, 9, 10] 12 r.2.st) = (rowsMd w fa it, r.2.obs.map Prod.snd, rowsSt w l fa it la (ad 78) (ad 77) t1 t2 t3 s (ad 35) (some ⟨(ad 2), at_, (ad 0), (ad 37), s, (ad 35), (ad 65), 1, (ad 63)⟩) (at_ + 1) (left - 1) (rs ++ [.ref ra]) (nl + 1) false 0 [] 0 ((ra, listObj [.ref wa, .bool false] nr) :: (wa, listObj (vs ++ [.str s (ad 35)]) (nw + 1)) :: T)) := by
  cases b <;> kernel_rfl
theorem rtAFF2_run (w : World) (b c : Bool) (ad : Strm) (l : Addr) (xs : List Value) (k : Nat) (T : Store) (fa it la ra wa : Addr) (t1 t2 t3 : Tok) (a : Str) (ta : Tok) (at_ left : Int) (rs : List Value) (nl : Nat) (f : Bool) (nr : Nat) (vs : List Value) (nw : Nat) (v1 v2 kk : Int) (s : Str) :
    let r := zrun (par w b c [(l, listObj xs k)]) 248 (rowsMd w fa it) ad rowsT_hs1 (rowsSt w l fa it la ra wa t1 t2 t3 a ta none at_ left rs nl f nr vs nw T) [] [0, 1, 1, 0, 0, 2, 1, 2, 0, 1, 0, 0, 2, 1]
      [oRng 0 at_ left 1 [], oMul 2 at_, oCell l (1 + 2 * at_) v1, oMod v1 20 kk, oWord 0 wordsL kk s, oIn 0 leadL a false, oGet (.st 5) (rs ++ [.ref ra]) nl (-1) (.ref ra), oApp 7 vs nw, oMul 2 at_, oCell l (2 + 2 * at_) v2, oMod v2 6 2, oInT 0 [1, 2] 2 true, oGet (.st 6) (rs ++ [.ref ra]) nl (-1) (.ref ra), oApp 8 (rs ++ [.ref ra]) nl]
    (r.1, r.2.obs.map Prod.fst, pickD [7, 8, 0, 1, 11, 9, 10] 12 r.2.st) = (rowsMd w fa it, r.2.obs.map Prod.snd, rowsSt w l fa it la (ad 78) (ad 77) t1 t2 t3 s (ad 35) (some ⟨(ad 2), at_, (ad 0), (ad 37), s, (ad 35), (ad 65), 2, (ad 63)⟩) (at_ + 1) (left - 1) (rs ++ [.ref ra]) (nl + 1) false 0 [] 0 ((ra, listObj [.ref wa, .bool true] nr) :: (wa, listObj (vs ++ [.str s (ad 35)]) (nw + 1)) :: T)) := by
  cases b <;> kernel_rfl
noncomputable def rowsT_hs2 : List Nat := [1, 9, 4, 0, 0, 0, 0, 0, 0, 13, 13, 0, 1, 1, 1, 13, 6, 13, 0, 0, 0, 0, 0, 1, 1, 17, 0, 0, 0, 0, 0, 1, 1, 21, 21, 10, 21, 15, 15, 15, 17, 17, 17, 17, 17, 19, 19, 19, 19, 21, 0, 21, 21, 0, 21, 10, 21, 1, 1]
theorem rtATF0_run (w : World) (b c : Bool) (ad : Strm) (l : Addr) (xs : List Value) (k : Nat) (T : Store) (fa it la ra wa : Addr) (t1 t2 t3 : Tok) (a : Str) (ta : Tok) (at_ left : Int) (rs : List Value) (nl : Nat) (f : Bool) (nr : Nat) (vs : List Value) (nw : Nat) (v1 v2 kk : Int) (s : Str) (rr : Int) :
    let r := zrun (par w b c [(l, listObj xs k)]) 227 (rowsMd w fa it) ad rowsT_hs2 (rowsSt w l fa it la ra wa t1 t2 t3 a ta none at_ left rs nl f nr vs nw T) [] [0, 1, 1, 0, 0, 2, 1, 1, 2, 0, 1, 0, 0]
      [oRng 0 at_ left 1 [], oMul 2 at_, oCell l (1 + 2 * at_) v1, oMod v1 20 kk, oWord 0 wordsL kk s, oIn 0 leadL a true, oIn 0 opsL s false, oGet (.st 7) (rs ++ [.ref ra]) nl (-1) (.ref ra), oApp 9 vs nw, oMul 2 at_, oCell l (2 + 2 * at_) v2, oMod v2 6 rr, oInT 0 [1, 2] rr false]
    (r.1, r.2.obs.map Prod.fst, pickD [7, 8, 9, 10, 11] 12 r.2.st) = (rowsMd w fa it, r.2.obs.map Prod.snd, rowsSt w l fa it la ra wa t1 t2 t3 s (ad 35) (some ⟨(ad 2), at_, (ad 0), (ad 37), s, (ad 35), (ad 75), rr, (ad 73)⟩) (at_ + 1) (left - 1) rs nl f nr (vs ++ [.str s (ad 35)]) (nw + 1) T) := by
  kernel_rfl
noncomputable def rowsT_hs3 : List Nat := [1, 9, 4, 0, 0, 0, 0, 0, 0, 13, 13, 0, 1, 1, 1, 13, 6, 13, 0, 0, 0, 0, 0, 1, 1, 17, 0, 0, 0, 0, 0, 1, 1, 21, 21, 10, 21, 15, 15, 15, 17, 17, 17, 17, 17, 19, 19, 19, 19, 21, 0, 21, 21, 0, 21, 10, 21, 1, 1, 23, 23, 17, 17, 17, 19, 19, 19, 19, 19, 9, 23, 17, 17, 17, 17]
theorem rtATF1_run (w : World) (b c : Bool) (ad : Strm) (l : Addr) (xs : List Value) (k : Nat) (T : Store) (fa it la ra wa : Addr) (t1 t2 t3 : Tok) (a : Str) (ta : Tok) (at_ left : Int) (rs : List Value) (nl : Nat) (f : Bool) (nr : Nat) (vs : List Value) (nw : Nat) (v1 v2 kk : Int) (s : Str) :
    let r := zrun (par w b c [(l, listObj xs k)]) 276 (rowsMd w fa it) ad rowsT_hs3 (rowsSt w l fa it la ra wa t1 t2 t3 a ta none at_ left rs nl f nr vs nw T) [] [0, 1, 1, 0, 0, 2, 1, 1, 2, 0, 1, 0, 0, 2, 1]
      [oRng 0 at_ left 1 [], oMul 2 at_, oCell l (1 + 2 * at_) v1, oMod v1 20 kk, oWord 0 wordsL kk s, oIn 0 leadL a true, oIn 0 opsL s false, oGet (.st 7) (rs ++ [.ref ra]) nl (-1) (.ref ra), oApp 9 vs nw, oMul 2 at_, oCell l (2 + 2 * at_) v2, oMod v2 6 1, oInT 0 [1, 2] 1 true, oGet (.st 8) (rs ++ [.ref ra]) nl (-1) (.ref ra), oApp 10 (rs ++ [.ref ra]) nl]
    (r.1, r.2.obs.map Prod.fst, pickD [9, 10, 0, 1, 13, 11, 12] 14 r.2.st) = (rowsMd w fa it, r.2.obs.map Prod.snd, rowsSt w l fa it la (ad 88) (ad 87) t1 t2 t3 s (ad 35) (some ⟨(ad 2), at_, (ad 0), (ad 37), s, (ad 35), (ad 75), 1, (ad 73)⟩) (at_ + 1) (left - 1) (rs ++ [.ref ra]) (nl + 1) false 0 [] 0 ((ra, listObj [.ref wa, .bool false] nr) :: (wa, listObj (vs ++ [.str s (ad 35)]) (nw + 1)) :: T)) := by
  cases b <;> kernel_rfl
theorem rtATF2_run (w : World) (b c : Bool) (ad : Strm) (l : Addr) (xs : List Value) (k : Nat) (T : Store) (fa it la ra wa : Addr) (t1 t2 t3 : Tok) (a : Str) (ta : Tok) (at_ left : Int) (rs : List Value) (nl : Nat) (f : Bool) (nr : Nat) (vs : List Value) (nw : Nat) (v1 v2 kk : Int) (s : Str) :
    let r := zrun (par w b c [(l, listObj xs k)]) 276 (rowsMd w fa it) ad rowsT_hs3 (rowsSt w l fa it la ra wa t1 t2 t3 a ta none at_ left rs nl f nr vs nw T) [] [0, 1, 1, 0, 0, 2, 1, 1, 2, 0, 1, 0, 0, 2, 1]
      [oRng 0 at_ left 1 [], oMul 2 at_, oCell l (1 + 2 * at_) v1, oMod v1 20 kk, oWord 0 wordsL kk s, oIn 0 leadL a true, oIn 0 opsL s false, oGet (.st 7) (rs ++ [.ref ra]) nl (-1) (.ref ra), oApp 9 vs nw, oMul 2 at_, oCell l (2 + 2 * at_) v2, oMod v2 6 2, oInT 0 [1, 2] 2 true, oGet (.st 8) (rs ++ [.ref ra]) nl (-1) (.ref ra), oApp 10 (rs ++ [.ref ra]) nl]
    (r.1, r.2.obs.map Prod.fst, pickD [9, 10, 0, 1, 13, 11, 12] 14 r.2.st) = (rowsMd w fa it, r.2.obs.map Prod.snd, rowsSt w l fa it la (ad 88) (ad 87) t1 t2 t3 s (ad 35) (some ⟨(ad 2), at_, (ad 0), (ad 37), s, (ad 35), (ad 75), 2, (ad 73)⟩) (at_ + 1) (left - 1) (rs ++ [.ref ra]) (nl + 1) false 0 [] 0 ((ra, listObj [.ref wa, .bool true] nr) :: (wa, listObj (vs ++ [.str s (ad 35)]) (nw + 1)) :: T)) := by
  cases b <;> kernel_rfl
noncomputable def rowsT_hs4 : List Nat := [1, 9, 4, 0, 0, 0, 0, 0, 0, 13, 13, 0, 1, 1, 1, 13, 6, 13, 0, 0, 0, 0, 0, 1, 1, 17, 0, 0, 0, 0, 0, 1, 1, 21, 10, 21, 15, 15, 15, 17, 17, 17, 17, 17, 19, 19, 19, 19, 21, 0, 21, 21, 0, 21, 10, 21, 1, 1]
theorem rtATT0_run (w : World) (b c : Bool) (ad : Strm) (l : Addr) (xs : List Value) (k : Nat) (T : Store) (fa it la ra wa : Addr) (t1 t2 t3 : Tok) (a : Str) (ta : Tok) (at_ left : Int) (rs : List Value) (nl : Nat) (f : Bool) (nr : Nat) (vs : List Value) (nw : Nat) (v1 v2 kk : Int) (s : Str) (rr : Int) :
    let r := zrun (par w b c [(l, listObj xs k)]) 226 (rowsMd w fa it) ad rowsT_hs4 (rowsSt w l fa it la ra wa t1 t2 t3 a ta none at_ left rs nl f nr vs nw T) [] [0, 1, 1, 0, 0, 2, 1, 1, 2, 0, 1, 0, 0]
      [oRng 0 at_ left 1 [], oMul 2 at_, oCell l (1 + 2 * at_) v1, oMod v1 20 kk, oWord 0 wordsL kk s, oIn 0 leadL a true, oIn 0 opsL s true, oGet (.st 7) (rs ++ [.ref ra]) nl (-1) (.ref ra), oApp 9 vs nw, oMul 2 at_, oCell l (2 + 2 * at_) v2, oMod v2 6 rr, oInT 0 [1, 2] rr false]
    (r.1, r.2.obs.map Prod.fst, pickD [7, 8, 9, 10, 11] 12 r.2.st) = (rowsMd w fa it, r.2.obs.map Prod.snd, rowsSt w l fa it la ra wa t1 t2 t3 ⟨#[97]⟩ (ad 57) (some ⟨(ad 2), at_, (ad 0), (ad 37), s, (ad 35), (ad 76), rr, (ad 74)⟩) (at_ + 1) (left - 1) rs nl f nr (vs ++ [.str ⟨#[97]⟩ (ad 57)]) (nw + 1) T) := by
  kernel_rfl
noncomputable def rowsT_hs5 : List Nat := [1, 9, 4, 0, 0, 0, 0, 0, 0, 13, 13, 0, 1, 1, 1, 13, 6, 13, 0, 0, 0, 0, 0, 1, 1, 17, 0, 0, 0, 0, 0, 1, 1, 21, 10, 21, 15, 15, 15, 17, 17, 17, 17, 17, 19, 19, 19, 19, 21, 0, 21, 21, 0, 21, 10, 21, 1, 1, 23, 23, 17, 17, 17, 19, 19, 19, 19, 19, 9, 23, 17, 17, 17, 17]
theorem rtATT1_run (w : World) (b c : Bool) (ad : Strm) (l : Addr) (xs : List Value) (k : Nat) (T : Store) (fa it la ra wa : Addr) (t1 t2 t3 : Tok) (a : Str) (ta : Tok) (at_ left : Int) (rs : List Value) (nl : Nat) (f : Bool) (nr : Nat) (vs : List Value) (nw : Nat) (v1 v2 kk : Int) (s : Str) :
    let r := zrun (par w b c [(l, listObj xs k)]) 275 (rowsMd w fa it) ad rowsT_hs5 (rowsSt w l fa it la ra wa t1 t2 t3 a ta none at_ left rs nl f nr vs nw T) [] [0, 1, 1, 0, 0, 2, 1, 1, 2, 0, 1, 0, 0, 2, 1]
      [oRng 0 at_ left 1 [], oMul 2 at_, oCell l (1 + 2 * at_) v1, oMod v1 20 kk, oWord 0 wordsL kk s, oIn 0 leadL a true, oIn 0 opsL s true, oGet (.st 7) (rs ++ [.ref ra]) nl (-1) (.ref ra), oApp 9 vs nw, oMul 2 at_, oCell l (2 + 2 * at_) v2, oMod v2 6 1, oInT 0 [1, 2] 1 true, oGet (.st 8) (rs ++ [.ref ra]) nl (-1) (.ref ra), oApp 10 (rs ++ [.ref ra]) nl]
    (r.1, r.2.obs.map Prod.fst, pickD [9, 10, 0, 1, 13, 11, 12] 14 r.2.st) = (rowsMd w fa it, r.2.obs.map Prod.snd, rowsSt w l fa it la (ad 89) (ad 88) t1 t2 t3 ⟨#[97]⟩ (ad 57) (some ⟨(ad 2), at_, (ad 0), (ad 37), s, (ad 35), (ad 76), 1, (ad 74)⟩) (at_ + 1) (left - 1) (rs ++ [.ref ra]) (nl + 1) false 0 [] 0 ((ra, listObj [.ref wa, .bool false] nr) :: (wa, listObj (vs ++ [.str ⟨#[97]⟩ (ad 57)]) (nw + 1)) :: T)) := by
  cases b <;> kernel_rfl
theorem rtATT2_run (w : World) (b c : Bool) (ad : Strm) (l : Addr) (xs : List Value) (k : Nat) (T : Store) (fa it la ra wa : Addr) (t1 t2 t3 : Tok) (a : Str) (ta : Tok) (at_ left : Int) (rs : List Value) (nl : Nat) (f : Bool) (nr : Nat) (vs : List Value) (nw : Nat) (v1 v2 kk : Int) (s : Str) :
    let r := zrun (par w b c [(l, listObj xs k)]) 275 (rowsMd w fa it) ad rowsT_hs5 (rowsSt w l fa it la ra wa t1 t2 t3 a ta none at_ left rs nl f nr vs nw T) [] [0, 1, 1, 0, 0, 2, 1, 1, 2, 0, 1, 0, 0, 2, 1]
      [oRng 0 at_ left 1 [], oMul 2 at_, oCell l (1 + 2 * at_) v1, oMod v1 20 kk, oWord 0 wordsL kk s, oIn 0 leadL a true, oIn 0 opsL s true, oGet (.st 7) (rs ++ [.ref ra]) nl (-1) (.ref ra), oApp 9 vs nw, oMul 2 at_, oCell l (2 + 2 * at_) v2, oMod v2 6 2, oInT 0 [1, 2] 2 true, oGet (.st 8) (rs ++ [.ref ra]) nl (-1) (.ref ra), oApp 10 (rs ++ [.ref ra]) nl]
    (r.1, r.2.obs.map Prod.fst, pickD [9, 10, 0, 1, 13, 11, 12] 14 r.2.st) = (rowsMd w fa it, r.2.obs.map Prod.snd, rowsSt w l fa it la (ad 89) (ad 88) t1 t2 t3 ⟨#[97]⟩ (ad 57) (some ⟨(ad 2), at_, (ad 0), (ad 37), s, (ad 35), (ad 76), 2, (ad 74)⟩) (at_ + 1) (left - 1) (rs ++ [.ref ra]) (nl + 1) false 0 [] 0 ((ra, listObj [.ref wa, .bool true] nr) :: (wa, listObj (vs ++ [.str ⟨#[97]⟩ (ad 57)]) (nw + 1)) :: T)) := by
  cases b <;> kernel_rfl
theorem rtBFF0_run (w : World) (b c : Bool) (ad : Strm) (l : Addr) (xs : List Value) (k : Nat) (T : Store) (fa it la ra wa : Addr) (t1 t2 t3 : Tok) (a : Str) (ta : Tok) (q : More) (at_ left : Int) (rs : List Value) (nl : Nat) (f : Bool) (nr : Nat) (vs : List Value) (nw : Nat) (v1 v2 kk : Int) (s : Str) (rr : Int) :
    let r := zrun (par w b c [(l, listObj xs k)]) 199 (rowsMd w fa it) ad rowsT_hs0 (rowsSt w l fa it la ra wa t1 t2 t3 a ta (some q) at_ left rs nl f nr vs nw T) [] [0, 1, 1, 0, 0, 2, 1, 2, 0, 1, 0, 0]
      [oRng 0 at_ left 1 [], oMul 2 at_, oCell l (1 + 2 * at_) v1, oMod v1 20 kk, oWord 0 wordsL kk s, oIn 0 leadL a false, oGet (.st 5) (rs ++ [.ref ra]) nl (-1) (.ref ra), oApp 7 vs nw, oMul 2 at_, oCell l (2 + 2 * at_) v2, oMod v2 6 rr, oInT 0 [1, 2] rr false]
    (r.1, r.2.obs.map Prod.fst, pickD [5, 6, 7, 8, 9] 10 r.2.st) = (rowsMd w fa it, r.2.obs.map Prod.snd, rowsSt w l fa it la ra wa t1 t2 t3 s (ad 35) (some ⟨q.t4, at_, (ad 0), q.t5, s, (ad 35), q.t6, rr, (ad 63)⟩) (at_ + 1) (left - 1) rs nl f nr (vs ++ [.str s (ad 35)]) (nw + 1) T) := by
  kernel_rfl
theorem rtBFF1_run (w : World) (b c : Bool) (ad : Strm) (l : Addr) (xs : List Value) (k : Nat) (T : Store) (fa it la ra wa : Addr) (t1 t2 t3 : Tok) (a : Str) (ta : Tok) (q : More) (at_ left : Int) (rs : List Value) (nl : Nat) (f : Bool) (nr : Nat) (vs : List Value) (nw : Nat) (v1 v2 kk : Int) (s : Str) :
    let r := zrun (par w b c [(l, listObj xs k)]) 248 (rowsMd w fa it) ad rowsT_hs1 (rowsSt w l fa it la ra wa t1 t2 t3 a ta (some q) at_ left rs nl f nr vs nw T) [] [0, 1, 1, 0, 0, 2, 1, 2, 0, 1, 0, 0, 2, 1]
      [oRng 0 at_ left 1 [], oMul 2 at_, oCell l (1 + 2 * at_) v1, oMod v1 20 kk, oWord 0 wordsL kk s, oIn 0 leadL a false, oGet (.st 5) (rs ++ [.ref ra]) nl (-1) (.ref ra), oApp 7 vs nw, oMul 2 at_, oCell l (2 + 2 * at_) v2, oMod v2 6 1, oInT 0 [1, 2] 1 true, oGet (.st 6) (rs ++ [.ref ra]) nl (-1) (.ref ra), oApp 8 (rs ++ [.ref ra]) nl]
    (r.1, r.2.obs.map Prod.fst, pickD [7, 8, 0, 1, 11, 9, 10] 12 r.2.st) = (rowsMd w fa it, r.2.obs.map Prod.snd, rowsSt w l fa it la (ad 78) (ad 77) t1 t2 t3 s (ad 35) (some ⟨q.t4, at_, (ad 0), q.t5, s, (ad 35), q.t6, 1, (ad 63)⟩) (at_ + 1) (left - 1) (rs ++ [.ref ra]) (nl + 1) false 0 [] 0 ((ra, listObj [.ref wa, .bool false] nr) :: (wa, listObj (vs ++ [.str s (ad 35)]) (nw + 1)) :: T)) := by
  cases b <;> kernel_rfl
theorem rtBFF2_run (w : World) (b c : Bool) (ad : Strm) (l : Addr) (xs : List Value) (k : Nat) (T : Store) (fa it la ra wa : Addr) (t1 t2 t3 : Tok) (a : Str) (ta : Tok) (q : More) (at_ left : Int) (rs : List Value) (nl : Nat) (f : Bool) (nr : Nat) (vs : List Value) (nw : Nat) (v1 v2 kk : Int) (s : Str) :
    let r := zrun (par w b c [(l, listObj xs k)]) 248 (rowsMd w fa it) ad rowsT_hs1 (rowsSt w l fa it la ra wa t1 t2 t3 a ta (some q) at_ left rs nl f nr vs nw T) [] [0, 1, 1, 0, 0, 2, 1, 2, 0, 1, 0, 0, 2, 1]
      [oRng 0 at_ left 1 [], oMul 2 at_, oCell l (1 + 2 * at_) v1, oMod v1 20 kk, oWord 0 wordsL kk s, oIn 0 leadL a false, oGet (.st 5) (rs ++ [.ref ra]) nl (-1) (.ref ra), oApp 7 vs nw, oMul 2 at_, oCell l (2 + 2 * at_) v2, oMod v2 6 2, oInT 0 [1, 2] 2 true, oGet (.st 6) (rs ++ [.ref ra]) nl (-1) (.ref ra), oApp 8 (rs ++ [.ref ra]) nl]
    (r.1, r.2.obs.map Prod.fst, pickD [7, 8, 0, 1, 11, 9, 10] 12 r.2.st) = (rowsMd w fa it, r.2.obs.map Prod.snd, rowsSt w l fa it la (ad 78) (ad 77) t1 t2 t3 s (ad 35) (some ⟨q.t4, at_, (ad 0), q.t5, s, (ad 35), q.t6, 2, (ad 63)⟩) (at_ + 1) (left - 1) (rs ++ [.ref ra]) (nl + 1) false 0 [] 0 ((ra, listObj [.ref wa, .bool true] nr) :: (wa, listObj (vs ++ [.str s (ad 35)]) (nw + 1)) :: T)) := by
  cases b <;> kernel_rfl
theorem rtBTF0_run (w : World) (b c : Bool) (ad : Strm) (l : Addr) (xs : List Value) (k : Nat) (T : Store) (fa it la ra wa : Addr) (t1 t2 t3 : Tok) (a : Str) (ta : Tok) (q : More) (at_ left : Int) (rs : List Value) (nl : Nat) (f : Bool) (nr : Nat) (vs : List Value) (nw : Nat) (v1 v2 kk : Int) (s : Str) (rr : Int) :
    let r := zrun (par w b c [(l, listObj xs k)]) 227 (rowsMd w fa it) ad rowsT_hs2 (rowsSt w l fa it la ra wa t1 t2 t3 a ta (some q) at_ left rs nl f nr vs nw T) [] [0, 1, 1, 0, 0, 2, 1, 1, 2, 0, 1, 0, 0]
      [oRng 0 at_ left 1 [], oMul 2 at_, oCell l (1 + 2 * at_) v1, oMod v1 20 kk, oWord 0 wordsL kk s, oIn 0 leadL a true, oIn 0 opsL s false, oGet (.st 7) (rs ++ [.ref ra]) nl (-1) (.ref ra), oApp 9 vs nw, oMul 2 at_, oCell l (2 + 2 * at_) v2, oMod v2 6 rr, oInT 0 [1, 2] rr false]
    (r.1, r.2.obs.map Prod.fst, pickD [7, 8, 9, 10, 11] 12 r.2.st) = (rowsMd w fa it, r.2.obs.map Prod.snd, rowsSt w l fa it la ra wa t1 t2 t3 s (ad 35) (some ⟨q.t4, at_, (ad 0), q.t5, s, (ad 35), q.t6, rr, (ad 73)⟩) (at_ + 1) (left - 1) rs nl f nr (vs ++ [.str s (ad 35)]) (nw + 1) T) := by
  kernel_rfl
theorem rtBTF1_run (w : World) (b c : Bool) (ad : Strm) (l : Addr) (xs : List Value) (k : Nat) (T : Store) (fa it la ra wa : Addr) (t1 t2 t3 : Tok) (a : Str) (ta : Tok) (q : More) (at_ left : Int) (rs : List Value) (nl : Nat) (f : Bool) (nr : Nat) (vs : List Value) (nw : Nat) (v1 v2 kk : Int) (s : Str) :
    let r := zrun (par w b c [(l, listObj xs k)]) 276 (rowsMd w fa it) ad rowsT_hs3 (rowsSt w l fa it la ra wa t1 t2 t3 a ta (some q) at_ left rs nl f nr vs nw T) [] [0, 1, 1, 0, 0, 2, 1, 1, 2, 0, 1, 0, 0, 2, 1]
      [oRng 0 at_ left 1 [], oMul 2 at_, oCell l (1 + 2 * at_) v1, oMod v1 20 kk, oWord 0 wordsL kk s, oIn 0 leadL a true, oIn 0 opsL s false, oGet (.st 7) (rs ++ [.ref ra]) nl (-1) (.ref ra), oApp 9 vs nw, oMul 2 at_, oCell l (2 + 2 * at_) v2, oMod v2 6 1, oInT 0 [1, 2] 1 true, oGet (.st 8) (rs ++ [.ref ra]) nl (-1) (.ref ra), oApp 10 (rs ++ [.ref ra]) nl]
    (r.1, r.2.obs.map Prod.fst, pickD [9, 10, 0, 1, 13, 11, 12] 14 r.2.st) = (rowsMd w fa it, r.2.obs.map Prod.snd, rowsSt w l fa it la (ad 88) (ad 87) t1 t2 t3 s (ad 35) (some ⟨q.t4, at_, (ad 0), q.t5, s, (ad 35), q.t6, 1, (ad 73)⟩) (at_ + 1) (left - 1) (rs ++ [.ref ra]) (nl + 1) false 0 [] 0 ((ra, listObj [.ref wa, .bool false] nr) :: (wa, listObj (vs ++ [.str s (ad 35)]) (nw + 1)) :: T)) := by
  cases b <;> kernel_rfl
theorem rtBTF2_run (w : World) (b c : Bool) (ad : Strm) (l : Addr) (xs : List Value) (k : Nat) (T : Store) (fa it la ra wa : Addr) (t1 t2 t3 : Tok) (a : Str) (ta : Tok) (q : More) (at_ left : Int) (rs : List Value) (nl : Nat) (f : Bool) (nr : Nat) (vs : List Value) (nw : Nat) (v1 v2 kk : Int) (s : Str) :
    let r := zrun (par w b c [(l, listObj xs k)]) 276 (rowsMd w fa it) ad rowsT_hs3 (rowsSt w l fa it la ra wa t1 t2 t3 a ta (some q) at_ left rs nl f nr vs nw T) [] [0, 1, 1, 0, 0, 2, 1, 1, 2, 0, 1, 0, 0, 2, 1]
      [oRng 0 at_ left 1 [], oMul 2 at_, oCell l (1 + 2 * at_) v1, oMod v1 20 kk, oWord 0 wordsL kk s, oIn 0 leadL a true, oIn 0 opsL s false, oGet (.st 7) (rs ++ [.ref ra]) nl (-1) (.ref ra), oApp 9 vs nw, oMul 2 at_, oCell l (2 + 2 * at_) v2, oMod v2 6 2, oInT 0 [1, 2] 2 true, oGet (.st 8) (rs ++ [.ref ra]) nl (-1) (.ref ra), oApp 10 (rs ++ [.ref ra]) nl]
    (r.1, r.2.obs.map Prod.fst, pickD [9, 10, 0, 1, 13, 11, 12] 14 r.2.st) = (rowsMd w fa it, r.2.obs.map Prod.snd, rowsSt w l fa it la (ad 88) (ad 87) t1 t2 t3 s (ad 35) (some ⟨q.t4, at_, (ad 0), q.t5, s, (ad 35), q.t6, 2, (ad 73)⟩) (at_ + 1) (left - 1) (rs ++ [.ref ra]) (nl + 1) false 0 [] 0 ((ra, listObj [.ref wa, .bool true] nr) :: (wa, listObj (vs ++ [.str s (ad 35)]) (nw + 1)) :: T)) := by
  cases b <;> kernel_rfl
theorem rtBTT0_run (w : World) (b c : Bool) (ad : Strm) (l : Addr) (xs : List Value) (k : Nat) (T : Store) (fa it la ra wa : Addr) (t1 t2 t3 : Tok) (a : Str) (ta : Tok) (q : More) (at_ left : Int) (rs : List Value) (nl : Nat) (f : Bool) (nr : Nat) (vs : List Value) (nw : Nat) (v1 v2 kk : Int) (s : Str) (rr : Int) :
    let r := zrun (par w b c [(l, listObj xs k)]) 226 (rowsMd w fa it) ad rowsT_hs4 (rowsSt w l fa it la ra wa t1 t2 t3 a ta (some q) at_ left rs nl f nr vs nw T) [] [0, 1, 1, 0, 0, 2, 1, 1, 2, 0, 1, 0, 0]
      [oRng 0 at_ left 1 [], oMul 2 at_, oCell l (1 + 2 * at_) v1, oMod v1 20 kk, oWord 0 wordsL kk s, oIn 0 leadL a true, oIn 0 opsL s true, oGet (.st 7) (rs ++ [.ref ra]) nl (-1) (.ref ra), oApp 9 vs nw, oMul 2 at_, oCell l (2 + 2 * at_) v2, oMod v2 6 rr, oInT 0 [1, 2] rr false]
    (r.1, r.2.obs.map Prod.fst, pickD [7, 8, 9, 10, 11] 12 r.2.st) = (rowsMd w fa it, r.2.obs.map Prod.snd, rowsSt w l fa it la ra wa t1 t2 t3 ⟨#[97]⟩ (ad 57) (some ⟨q.t4, at_, (ad 0), q.t5, s, (ad 35), q.t6, rr, (ad 74)⟩) (at_ + 1) (left - 1) rs nl f nr (vs ++ [.str ⟨#[97]⟩ (ad 57)]) (nw + 1) T) := by
  kernel_rfl
theorem rtBTT1_run (w : World) (b c : Bool) (ad : Strm) (l : Addr) (xs : List Value) (k : Nat) (T : Store) (fa it la ra wa : Addr) (t1 t2 t3 : Tok) (a : Str) (ta : Tok) (q : More) (at_ left : Int) (rs : List Value) (nl : Nat) (f : Bool) (nr : Nat) (vs : List Value) (nw : Nat) (v1 v2 kk : Int) (s : Str) :
    let r := zrun (par w b c [(l, listObj xs k)]) 275 (rowsMd w fa it) ad rowsT_hs5 (rowsSt w l fa it la ra wa t1 t2 t3 a ta (some q) at_ left rs nl f nr vs nw T) [] [0, 1, 1, 0, 0, 2, 1, 1, 2, 0, 1, 0, 0, 2, 1]
      [oRng 0 at_ left 1 [], oMul 2 at_, oCell l (1 + 2 * at_) v1, oMod v1 20 kk, oWord 0 wordsL kk s, oIn 0 leadL a true, oIn 0 opsL s true, oGet (.st 7) (rs ++ [.ref ra]) nl (-1) (.ref ra), oApp 9 vs nw, oMul 2 at_, oCell l (2 + 2 * at_) v2, oMod v2 6 1, oInT 0 [1, 2] 1 true, oGet (.st 8) (rs ++ [.ref ra]) nl (-1) (.ref ra), oApp 10 (rs ++ [.ref ra]) nl]
    (r.1, r.2.obs.map Prod.fst, pickD [9, 10, 0, 1, 13, 11, 12] 14 r.2.st) = (rowsMd w fa it, r.2.obs.map Prod.snd, rowsSt w l fa it la (ad 89) (ad 88) t1 t2 t3 ⟨#[97]⟩ (ad 57) (some ⟨q.t4, at_, (ad 0), q.t5, s, (ad 35), q.t6, 1, (ad 74)⟩) (at_ + 1) (left - 1) (rs ++ [.ref ra]) (nl + 1) false 0 [] 0 ((ra, listObj [.ref wa, .bool false] nr) :: (wa, listObj (vs ++ [.str ⟨#[97]⟩ (ad 57)]) (nw + 1)) :: T)) := by
  cases b <;> kernel_rfl
theorem rtBTT2_run (w : World) (b c : Bool) (ad : Strm) (l : Addr) (xs : List Value) (k : Nat) (T : Store) (fa it la ra wa : Addr) (t1 t2 t3 : Tok) (a : Str) (ta : Tok) (q : More) (at_ left : Int) (rs : List Value) (nl : Nat) (f : Bool) (nr : Nat) (vs : List Value) (nw : Nat) (v1 v2 kk : Int) (s : Str) :
    let r := zrun (par w b c [(l, listObj xs k)]) 275 (rowsMd w fa it) ad rowsT_hs5 (rowsSt w l fa it la ra wa t1 t2 t3 a ta (some q) at_ left rs nl f nr vs nw T) [] [0, 1, 1, 0, 0, 2, 1, 1, 2, 0, 1, 0, 0, 2, 1]
      [oRng 0 at_ left 1 [], oMul 2 at_, oCell l (1 + 2 * at_) v1, oMod v1 20 kk, oWord 0 wordsL kk s, oIn 0 leadL a true, oIn 0 opsL s true, oGet (.st 7) (rs ++ [.ref ra]) nl (-1) (.ref ra), oApp 9 vs nw, oMul 2 at_, oCell l (2 + 2 * at_) v2, oMod v2 6 2, oInT 0 [1, 2] 2 true, oGet (.st 8) (rs ++ [.ref ra]) nl (-1) (.ref ra), oApp 10 (rs ++ [.ref ra]) nl]
    (r.1, r.2.obs.map Prod.fst, pickD [9, 10, 0, 1, 13, 11, 12] 14 r.2.st) = (rowsMd w fa it, r.2.obs.map Prod.snd, rowsSt w l fa it la (ad 89) (ad 88) t1 t2 t3 ⟨#[97]⟩ (ad 57) (some ⟨q.t4, at_, (ad 0), q.t5, s, (ad 35), q.t6, 2, (ad 74)⟩) (at_ + 1) (left - 1) (rs ++ [.ref ra]) (nl + 1) false 0 [] 0 ((ra, listObj [.ref wa, .bool true] nr) :: (wa, listObj (vs ++ [.str ⟨#[97]⟩ (ad 57)]) (nw + 1)) :: T)) := by
  cases b <;> kernel_rfl
end Mine
end

section
open PySem PySem.W PySem.W.X PySem.Calls PyProof.Rows
set_option maxHeartbeats 0
namespace Mine
noncomputable def RowIn (T : Store) (v : Value) (p : List Str × Bool) : Prop :=
  ∃ ra wa nr nw vs, v = .ref ra ∧ (ra, listObj [.ref wa, .bool p.2] nr) ∈ T ∧ (wa, listObj vs nw) ∈ T ∧ strsOf vs = p.1 ∧ vs.length = p.1.length
theorem RowIn.more {T T' : Store} {v : Value} {p : List Str × Bool} (h : RowIn T v p) (s : ∀ x ∈ T, x ∈ T') : RowIn T' v p := by
  obtain ⟨ra, wa, nr, nw, vs, e, h1, h2, h3, h4⟩ := h
  exact ⟨ra, wa, nr, nw, vs, e, s _ h1, s _ h2, h3, h4⟩
inductive All2 {α β : Type} (F : α → β → Prop) : List α → List β → Prop
  | nil : All2 F [] []
  | cons {a b l₁ l₂} : F a b → All2 F l₁ l₂ → All2 F (a :: l₁) (b :: l₂)
theorem All2.imp {α β : Type} {F G : α → β → Prop} (h : ∀ a b, F a b → G a b) : ∀ {l₁ : List α} {l₂ : List β}, All2 F l₁ l₂ → All2 G l₁ l₂
  | _, _, .nil => .nil
  | _, _, .cons a t => .cons (h _ _ a) (t.imp h)
theorem All2.snoc {α β : Type} {F : α → β → Prop} {a : α} {b : β} : ∀ {l₁ : List α} {l₂ : List β}, All2 F l₁ l₂ → F a b → All2 F (l₁ ++ [a]) (l₂ ++ [b])
  | _, _, .nil, h => .cons h .nil
  | _, _, .cons h₁ t, h => .cons h₁ (t.snoc h)
theorem All2.len {α β : Type} {F : α → β → Prop} : ∀ {l₁ : List α} {l₂ : List β}, All2 F l₁ l₂ → l₁.length = l₂.length
  | _, _, .nil => rfl
  | _, _, .cons _ t => by simp [t.len]
theorem strsOf_app : ∀ {vs : List Value} {ss : List Str} {s : Str} {t : Tok}, strsOf vs = ss → vs.length = ss.length → strsOf (vs ++ [.str s t]) = ss ++ [s]
  | [], ss, s, t, e, hl => by cases ss <;> simp_all [strsOf]
  | v :: vs, ss, s, t, e, hl => by
    cases v with
    | str x u =>
      unfold strsOf at e
      dsimp only at e
      subst e
      show x :: strsOf (vs ++ [.str s t]) = x :: (strsOf vs ++ [s])
      rw [strsOf_app (vs := vs) rfl (by simpa using hl)]
    | _ => unfold strsOf at e; subst e; simp at hl
structure RInv (T : Store) (rs vs : List Value) (n : Nat) (done : List (List Str × Bool)) (cur : List Str) : Prop where
  rows : All2 (RowIn T) rs done
  now : strsOf vs = cur ∧ vs.length = cur.length
  words : ∀ p ∈ done, p.1 ≠ [] ∧ ∀ s ∈ p.1, s ∈ wordsL
  nowW : ∀ s ∈ cur, s ∈ wordsL
  sum : (done.map fun p => p.1.length).sum + cur.length = n
  few : done.length ≤ n
theorem RInv.same {T : Store} {rs vs : List Value} {n : Nat} {done : List (List Str × Bool)} {cur : List Str} (I : RInv T rs vs n done cur) {s : Str} {t : Tok} (hs : s ∈ wordsL) : RInv T rs (vs ++ [.str s t]) (n + 1) done (cur ++ [s]) :=
  ⟨I.rows, ⟨strsOf_app I.now.1 I.now.2, by simp [I.now.2]⟩, I.words, fun x hx => by
    rcases List.mem_append.mp hx with h | h
    · exact I.nowW x h
    · rw [List.mem_singleton] at h; exact h ▸ hs, by have := I.sum; simp only [List.length_append, List.length_cons, List.length_nil]; omega, by have := I.few; omega⟩
theorem RInv.fresh {T : Store} {rs vs : List Value} {n : Nat} {done : List (List Str × Bool)} {cur : List Str} (I : RInv T rs vs n done cur) {s : Str} {t : Tok} (hs : s ∈ wordsL) {ra wa nr nw : Nat} {f : Bool} :
    RInv ((ra, listObj [.ref wa, .bool f] nr) :: (wa, listObj (vs ++ [.str s t]) nw) :: T) (rs ++ [.ref ra]) [] (n + 1) (done ++ [(cur ++ [s], f)]) [] := by
  have J := I.same (t := t) hs
  refine ⟨(I.rows.imp fun a b h => h.more fun x hx => .tail _ (.tail _ hx)).snoc ⟨ra, wa, nr, nw, _, rfl, .head _, .tail _ (.head _), J.now.1, J.now.2⟩, ⟨rfl, rfl⟩, fun p hp => ?_, fun _ h => (nomatch h), ?_, ?_⟩
  · rcases List.mem_append.mp hp with h | h
    · exact I.words p h
    · rw [List.mem_singleton] at h
      subst h
      exact ⟨by simp, J.nowW⟩
  · have := J.sum
    simp only [List.map_append, List.map_cons, List.map_nil, List.sum_append, List.sum_cons, List.sum_nil, List.length_nil] at this ⊢
    omega
  · have := I.few
    simp only [List.length_append, List.length_cons, List.length_nil]
    omega
theorem a_mem : (⟨#[97]⟩ : Str) ∈ wordsL := .head _
theorem not_in {rr : Int} (h1 : ¬ rr = 1) (h2 : ¬ rr = 2) : ([1, 2] : List Int).any (· == rr) = false := by
  simp only [List.any_cons, List.any_nil, Bool.or_false, Bool.or_eq_false_iff, beq_eq_false_iff_ne, ne_eq]
  exact ⟨fun e => h1 e.symm, fun e => h2 e.symm⟩
noncomputable def rowsE_hs : List Nat := [1, 1]
theorem rowsE_run (w : World) (b c : Bool) (ad : Strm) (l : Addr) (xs : List Value) (k : Nat) (T : Store) (fa it la ra wa : Addr) (fr : Obj) (at_ : Int) (rs vs : List Value) (nl : Nat) (f : Bool) (nr nw : Nat) :
    let r := zrun (par w b c [(l, listObj xs k)]) 6 (rowsMd w fa it) ad rowsE_hs ((it, ritObj at_ 0 1 []) :: (la, listObj (rs ++ [.ref ra]) nl) :: (ra, listObj [.ref wa, .bool f] nr) :: (wa, listObj vs nw) :: (fa, fr) :: T) [] [0] [oRngE 0 at_ 0 1 []]
    (r.1, r.2.obs.map Prod.fst, pickD [] 2 r.2.st) = (.out (.pure (.ok .next)), r.2.obs.map Prod.snd, (it, ritObj at_ 0 1 []) :: (la, listObj (rs ++ [.ref ra]) nl) :: (ra, listObj [.ref wa, .bool f] nr) :: (wa, listObj vs nw) :: (fa, fr) :: T) := by
  kernel_rfl
section
variable {w : World} {A : Around} {Q : Result → Shared → Prop} {E : Value → Shared → Prop} {Pe : End → Shared → Prop}
variable {L : Nat} {h₀ : Heap} {g : Array GenState} {d : Drawn} {os : OsState} {b c : Bool}
theorem rows_loop (W : Wd w b c) (hk : KT.Holds h₀ 1 0 (ktop w.params)) {l : Addr} {xs : List Value} {k : Nat} (X : Scr h₀ l xs k) (hL : L ≤ 9) (hA : Lev L A) {fa it la : Addr} {t1 t2 t3 : Tok} {N : Nat} (hN : N ≤ 12)
    (fin : ∀ h' tk' T a ta mo (n : Nat) rs ra wa nl nr vs nw done cur, Rep h₀ h' (rowsSt w l fa it la ra wa t1 t2 t3 a ta mo n 0 rs nl false nr vs nw T) → RInv T rs vs n done cur → n = N → Q (.ok .next) ⟨h', g, d, tk', os⟩) :
    ∀ (left n : Nat) (h : Heap) (tk : Nat) (T : Store) (a : Str) (ta : Tok) (mo : Option More) (rs : List Value) (ra wa : Addr) (nl nr : Nat) (vs : List Value) (nw : Nat) (done : List (List Str × Bool)) (cur : List Str),
      Rep h₀ h (rowsSt w l fa it la ra wa t1 t2 t3 a ta mo n left rs nl false nr vs nw T) → RInv T rs vs n done cur → n + left = N → Ms prg w A Q E Pe (rowsMd w fa it) ⟨h, g, d, tk, os⟩ := by
  intro left
  induction left with
  | zero =>
    intro n h tk T a ta mo rs ra wa nl nr vs nw done cur R I hn
    have K : Kn (par w b c [(l, listObj xs k)]) h₀ := kn_of hk (by intro p hp; rw [List.mem_singleton] at hp; subst hp; exact X.at_)
    refine by_runs W K (by omega) hA (fun ad => rowsE_run w b c ad l xs k T fa it la ra wa _ n rs vs nl false nr nw) trivial rfl R (ot_cons (oRngE_ok (Int.le_refl _)) ot_nil) fun ad h' tk' R' => ?_
    exact wpAny_pure (fin h' tk' T a ta mo n rs ra wa nl nr vs nw done cur R' I (by omega))
  | succ left ih =>
    intro n h tk T a ta mo rs ra wa nl nr vs nw done cur R I hn
    have K : Kn (par w b c [(l, listObj xs k)]) h₀ := kn_of hk (by intro p hp; rw [List.mem_singleton] at hp; subst hp; exact X.at_)
    have hL : L ≤ 10 := by omega
    have hlen := I.rows.len
    have hfew := I.few
    have hsum := I.sum
    have hvs := I.now.2
    have z1 : (16777216 : Nat) = sizeLine := sizeLine_eq.symm
    obtain ⟨v1, hv1⟩ : ∃ v, v = cellV xs (1 + 2 * n) := ⟨_, rfl⟩
    obtain ⟨v2, hv2⟩ : ∃ v, v = cellV xs (2 + 2 * n) := ⟨_, rfl⟩
    obtain ⟨kk, hkk⟩ : ∃ v, v1.fmod 20 = v := ⟨_, rfl⟩
    obtain ⟨rr, hrr⟩ : ∃ v, v2.fmod 6 = v := ⟨_, rfl⟩
    have p1 : 0 ≤ v1 := hv1 ▸ cellV_nonneg xs (by omega)
    have q1 : 0 ≤ kk := hkk ▸ Int.fmod_nonneg_of_pos _ (by decide)
    have q2 : kk < 20 := hkk ▸ Int.fmod_lt_of_pos _ (by decide)
    have hq : kk.toNat < wordsL.length := by show kk.toNat < 20; omega
    obtain ⟨s, hs'⟩ : ∃ s, wordsL[kk.toNat]? = some s := ⟨_, List.getElem?_eq_getElem hq⟩
    have hs : s ∈ wordsL := List.mem_of_getElem? hs'
    have c1 : OrcOk L prg w h₀ g d os (oRng 0 n (left + 1 : Nat) 1 []) := oRng_ok (by omega)
    have c2 : OrcOk L prg w h₀ g d os (oMul 2 n) := oMul_ok (.of_left (intBits_le_64 (by decide) (by decide)))
    have c3 : OrcOk L prg w h₀ g d os (oCell l (1 + 2 * n) v1) := hv1 ▸ oCell_ok W hk X (by omega) (by omega) (by omega)
    have c4 : OrcOk L prg w h₀ g d os (oMod v1 20 kk) := oMod_ok (by decide) hkk
    have c5 : ∀ j, OrcOk L prg w h₀ g d os (oWord j wordsL kk s) := fun j => oWord_ok (k := kk.toNat) (by omega) (by omega) (seqIndex_of q1 (by show kk < (20 : Nat); omega)) hs'
    have c6 : ∀ j, OrcOk L prg w h₀ g d os (oGet (.st j) (rs ++ [.ref ra]) nl (-1) (.ref ra)) := fun j => oGet_ok (k := rs.length) trivial (by decide) (by decide)
      (by rw [MeetsSeq.seqIndex_neg (by decide) (by simp only [List.length_append, List.length_cons, List.length_nil]; omega)]; simp only [List.length_append, List.length_cons, List.length_nil]; congr 1; omega) (by simp)
    have c7 : ∀ j, OrcOk L prg w h₀ g d os (oApp j vs nw) := fun j => oApp_ok (by omega)
    have c8 : OrcOk L prg w h₀ g d os (oCell l (2 + 2 * n) v2) := hv2 ▸ oCell_ok W hk X (by omega) (by omega) (by omega)
    have c9 : ∀ j, OrcOk L prg w h₀ g d os (oApp j (rs ++ [.ref ra]) nl) := fun j => oApp_ok (by simp only [List.length_append, List.length_cons, List.length_nil]; omega)
    have e1 : ((left + 1 : Nat) : Int) - 1 = left := by omega
    have e2 : ((n : Nat) : Int) + 1 = ((n + 1 : Nat) : Int) := by omega
    have same : ∀ (ad : Strm) (h' : Heap) (tk' : Nat) (ta' : Tok) (tv : Tok) (mo' : Option More) (s' : Str), Rep h₀ h' (rowsSt w l fa it la ra wa t1 t2 t3 s' ta' mo' (n + 1) (((left + 1 : Nat) : Int) - 1) rs nl false nr (vs ++ [.str s' tv]) (nw + 1) T) → s' ∈ wordsL → Ms prg w A Q E Pe (rowsMd w fa it) ⟨h', g, d, tk', os⟩ := by
      intro ad h' tk' ta' tv mo' s' R' hs'
      rw [e1, e2] at R'
      exact ih (n + 1) h' tk' T s' ta' mo' rs ra wa nl nr _ (nw + 1) done (cur ++ [s']) R' (I.same hs') (by omega)
    have fresh : ∀ (ad : Strm) (h' : Heap) (tk' : Nat) (ra' wa' : Addr) (ta' : Tok) (mo' : Option More) (f' : Bool) (s' : Str), Rep h₀ h' (rowsSt w l fa it la ra' wa' t1 t2 t3 s' ta' mo' (n + 1) (((left + 1 : Nat) : Int) - 1) (rs ++ [.ref ra]) (nl + 1) false 0 [] 0 ((ra, listObj [.ref wa, .bool f'] nr) :: (wa, listObj (vs ++ [.str s' ta']) (nw + 1)) :: T)) → s' ∈ wordsL → Ms prg w A Q E Pe (rowsMd w fa it) ⟨h', g, d, tk', os⟩ := by
      intro ad h' tk' ra' wa' ta' mo' f' s' R' hs'
      rw [e1, e2] at R'
      exact ih (n + 1) h' tk' _ s' ta' mo' _ ra' wa' (nl + 1) 0 [] 0 _ [] R' (I.fresh hs') (by omega)
    cases mo with
    | none =>
      cases hb1 : anyStr leadL a with
      | false =>
        have i1 : ∀ j, OrcOk L prg w h₀ g d os (oIn j leadL a false) := fun j => oIn_ok hb1
        have i2 := i1
        have hah : s ∈ wordsL := hs
        by_cases h1 : rr = 1
        · have m2 : OrcOk L prg w h₀ g d os (oMod v2 6 1) := oMod_ok (by decide) (hrr.trans h1)
          have t1' : ∀ j, OrcOk L prg w h₀ g d os (oInT j [1, 2] 1 true) := fun j => oInT_ok rfl
          refine by_runs W K hL hA (fun ad => rtAFF1_run w b c ad l xs k T fa it la ra wa t1 t2 t3 a ta n (left + 1 : Nat) rs nl false nr vs nw v1 v2 kk s) trivial rfl R (by (repeat' (first | exact ot_nil | refine ot_cons ?_ ?_)) <;> first | exact c1 | exact c2 | exact c3 | exact c4 | exact c5 _ | exact i1 _ | exact i2 _ | exact c6 _ | exact c7 _ | exact c8 | exact m2 | exact t1' _ | exact c9 _) fun ad h' tk' R' => ?_
          exact fresh ad h' tk' _ _ _ _ _ s R' hah
        · by_cases h2 : rr = 2
          · have m2 : OrcOk L prg w h₀ g d os (oMod v2 6 2) := oMod_ok (by decide) (hrr.trans h2)
            have t1' : ∀ j, OrcOk L prg w h₀ g d os (oInT j [1, 2] 2 true) := fun j => oInT_ok rfl
            refine by_runs W K hL hA (fun ad => rtAFF2_run w b c ad l xs k T fa it la ra wa t1 t2 t3 a ta n (left + 1 : Nat) rs nl false nr vs nw v1 v2 kk s) trivial rfl R (by (repeat' (first | exact ot_nil | refine ot_cons ?_ ?_)) <;> first | exact c1 | exact c2 | exact c3 | exact c4 | exact c5 _ | exact i1 _ | exact i2 _ | exact c6 _ | exact c7 _ | exact c8 | exact m2 | exact t1' _ | exact c9 _) fun ad h' tk' R' => ?_
            exact fresh ad h' tk' _ _ _ _ _ s R' hah
          · have m2 : OrcOk L prg w h₀ g d os (oMod v2 6 rr) := oMod_ok (by decide) hrr
            have t1' : ∀ j, OrcOk L prg w h₀ g d os (oInT j [1, 2] rr false) := fun j => oInT_ok (not_in h1 h2)
            refine by_runs W K hL hA (fun ad => rtAFF0_run w b c ad l xs k T fa it la ra wa t1 t2 t3 a ta n (left + 1 : Nat) rs nl false nr vs nw v1 v2 kk s rr) trivial rfl R (by (repeat' (first | exact ot_nil | refine ot_cons ?_ ?_)) <;> first | exact c1 | exact c2 | exact c3 | exact c4 | exact c5 _ | exact i1 _ | exact i2 _ | exact c6 _ | exact c7 _ | exact c8 | exact m2 | exact t1' _ | exact c9 _) fun ad h' tk' R' => ?_
            exact same ad h' tk' _ _ _ s R' hah
      | true =>
        cases hb2 : anyStr opsL s with
        | false =>
          have i1 : ∀ j, OrcOk L prg w h₀ g d os (oIn j leadL a true) := fun j => oIn_ok hb1
          have i2 : ∀ j, OrcOk L prg w h₀ g d os (oIn j opsL s false) := fun j => oIn_ok hb2
          have hah : s ∈ wordsL := hs
          by_cases h1 : rr = 1
          · have m2 : OrcOk L prg w h₀ g d os (oMod v2 6 1) := oMod_ok (by decide) (hrr.trans h1)
            have t1' : ∀ j, OrcOk L prg w h₀ g d os (oInT j [1, 2] 1 true) := fun j => oInT_ok rfl
            refine by_runs W K hL hA (fun ad => rtATF1_run w b c ad l xs k T fa it la ra wa t1 t2 t3 a ta n (left + 1 : Nat) rs nl false nr vs nw v1 v2 kk s) trivial rfl R (by (repeat' (first | exact ot_nil | refine ot_cons ?_ ?_)) <;> first | exact c1 | exact c2 | exact c3 | exact c4 | exact c5 _ | exact i1 _ | exact i2 _ | exact c6 _ | exact c7 _ | exact c8 | exact m2 | exact t1' _ | exact c9 _) fun ad h' tk' R' => ?_
            exact fresh ad h' tk' _ _ _ _ _ s R' hah
          · by_cases h2 : rr = 2
            · have m2 : OrcOk L prg w h₀ g d os (oMod v2 6 2) := oMod_ok (by decide) (hrr.trans h2)
              have t1' : ∀ j, OrcOk L prg w h₀ g d os (oInT j [1, 2] 2 true) := fun j => oInT_ok rfl
              refine by_runs W K hL hA (fun ad => rtATF2_run w b c ad l xs k T fa it la ra wa t1 t2 t3 a ta n (left + 1 : Nat) rs nl false nr vs nw v1 v2 kk s) trivial rfl R (by (repeat' (first | exact ot_nil | refine ot_cons ?_ ?_)) <;> first | exact c1 | exact c2 | exact c3 | exact c4 | exact c5 _ | exact i1 _ | exact i2 _ | exact c6 _ | exact c7 _ | exact c8 | exact m2 | exact t1' _ | exact c9 _) fun ad h' tk' R' => ?_
              exact fresh ad h' tk' _ _ _ _ _ s R' hah
            · have m2 : OrcOk L prg w h₀ g d os (oMod v2 6 rr) := oMod_ok (by decide) hrr
              have t1' : ∀ j, OrcOk L prg w h₀ g d os (oInT j [1, 2] rr false) := fun j => oInT_ok (not_in h1 h2)
              refine by_runs W K hL hA (fun ad => rtATF0_run w b c ad l xs k T fa it la ra wa t1 t2 t3 a ta n (left + 1 : Nat) rs nl false nr vs nw v1 v2 kk s rr) trivial rfl R (by (repeat' (first | exact ot_nil | refine ot_cons ?_ ?_)) <;> first | exact c1 | exact c2 | exact c3 | exact c4 | exact c5 _ | exact i1 _ | exact i2 _ | exact c6 _ | exact c7 _ | exact c8 | exact m2 | exact t1' _ | exact c9 _) fun ad h' tk' R' => ?_
              exact same ad h' tk' _ _ _ s R' hah
        | true =>
          have i1 : ∀ j, OrcOk L prg w h₀ g d os (oIn j leadL a true) := fun j => oIn_ok hb1
          have i2 : ∀ j, OrcOk L prg w h₀ g d os (oIn j opsL s true) := fun j => oIn_ok hb2
          have hah : (⟨#[97]⟩ : Str) ∈ wordsL := a_mem
          by_cases h1 : rr = 1
          · have m2 : OrcOk L prg w h₀ g d os (oMod v2 6 1) := oMod_ok (by decide) (hrr.trans h1)
            have t1' : ∀ j, OrcOk L prg w h₀ g d os (oInT j [1, 2] 1 true) := fun j => oInT_ok rfl
            refine by_runs W K hL hA (fun ad => rtATT1_run w b c ad l xs k T fa it la ra wa t1 t2 t3 a ta n (left + 1 : Nat) rs nl false nr vs nw v1 v2 kk s) trivial rfl R (by (repeat' (first | exact ot_nil | refine ot_cons ?_ ?_)) <;> first | exact c1 | exact c2 | exact c3 | exact c4 | exact c5 _ | exact i1 _ | exact i2 _ | exact c6 _ | exact c7 _ | exact c8 | exact m2 | exact t1' _ | exact c9 _) fun ad h' tk' R' => ?_
            exact fresh ad h' tk' _ _ _ _ _ ⟨#[97]⟩ R' hah
          · by_cases h2 : rr = 2
            · have m2 : OrcOk L prg w h₀ g d os (oMod v2 6 2) := oMod_ok (by decide) (hrr.trans h2)
              have t1' : ∀ j, OrcOk L prg w h₀ g d os (oInT j [1, 2] 2 true) := fun j => oInT_ok rfl
              refine by_runs W K hL hA (fun ad => rtATT2_run w b c ad l xs k T fa it la ra wa t1 t2 t3 a ta n (left + 1 : Nat) rs nl false nr vs nw v1 v2 kk s) trivial rfl R (by (repeat' (first | exact ot_nil | refine ot_cons ?_ ?_)) <;> first | exact c1 | exact c2 | exact c3 | exact c4 | exact c5 _ | exact i1 _ | exact i2 _ | exact c6 _ | exact c7 _ | exact c8 | exact m2 | exact t1' _ | exact c9 _) fun ad h' tk' R' => ?_
              exact fresh ad h' tk' _ _ _ _ _ ⟨#[97]⟩ R' hah
            · have m2 : OrcOk L prg w h₀ g d os (oMod v2 6 rr) := oMod_ok (by decide) hrr
              have t1' : ∀ j, OrcOk L prg w h₀ g d os (oInT j [1, 2] rr false) := fun j => oInT_ok (not_in h1 h2)
              refine by_runs W K hL hA (fun ad => rtATT0_run w b c ad l xs k T fa it la ra wa t1 t2 t3 a ta n (left + 1 : Nat) rs nl false nr vs nw v1 v2 kk s rr) trivial rfl R (by (repeat' (first | exact ot_nil | refine ot_cons ?_ ?_)) <;> first | exact c1 | exact c2 | exact c3 | exact c4 | exact c5 _ | exact i1 _ | exact i2 _ | exact c6 _ | exact c7 _ | exact c8 | exact m2 | exact t1' _ | exact c9 _) fun ad h' tk' R' => ?_
              exact same ad h' tk' _ _ _ ⟨#[97]⟩ R' hah
    | some q =>
      cases hb1 : anyStr leadL a with
      | false =>
        have i1 : ∀ j, OrcOk L prg w h₀ g d os (oIn j leadL a false) := fun j => oIn_ok hb1
        have i2 := i1
        have hah : s ∈ wordsL := hs
        by_cases h1 : rr = 1
        · have m2 : OrcOk L prg w h₀ g d os (oMod v2 6 1) := oMod_ok (by decide) (hrr.trans h1)
          have t1' : ∀ j, OrcOk L prg w h₀ g d os (oInT j [1, 2] 1 true) := fun j => oInT_ok rfl
          refine by_runs W K hL hA (fun ad => rtBFF1_run w b c ad l xs k T fa it la ra wa t1 t2 t3 a ta q n (left + 1 : Nat) rs nl false nr vs nw v1 v2 kk s) trivial rfl R (by (repeat' (first | exact ot_nil | refine ot_cons ?_ ?_)) <;> first | exact c1 | exact c2 | exact c3 | exact c4 | exact c5 _ | exact i1 _ | exact i2 _ | exact c6 _ | exact c7 _ | exact c8 | exact m2 | exact t1' _ | exact c9 _) fun ad h' tk' R' => ?_
          exact fresh ad h' tk' _ _ _ _ _ s R' hah
        · by_cases h2 : rr = 2
          · have m2 : OrcOk L prg w h₀ g d os (oMod v2 6 2) := oMod_ok (by decide) (hrr.trans h2)
            have t1' : ∀ j, OrcOk L prg w h₀ g d os (oInT j [1, 2] 2 true) := fun j => oInT_ok rfl
            refine by_runs W K hL hA (fun ad => rtBFF2_run w b c ad l xs k T fa it la ra wa t1 t2 t3 a ta q n (left + 1 : Nat) rs nl false nr vs nw v1 v2 kk s) trivial rfl R (by (repeat' (first | exact ot_nil | refine ot_cons ?_ ?_)) <;> first | exact c1 | exact c2 | exact c3 | exact c4 | exact c5 _ | exact i1 _ | exact i2 _ | exact c6 _ | exact c7 _ | exact c8 | exact m2 | exact t1' _ | exact c9 _) fun ad h' tk' R' => ?_
            exact fresh ad h' tk' _ _ _ _ _ s R' hah
          · have m2 : OrcOk L prg w h₀ g d os (oMod v2 6 rr) := oMod_ok (by decide) hrr
            have t1' : ∀ j, OrcOk L prg w h₀ g d os (oInT j [1, 2] rr false) := fun j => oInT_ok (not_in h1 h2)
            refine by_runs W K hL hA (fun ad => rtBFF0_run w b c ad l xs k T fa it la ra wa t1 t2 t3 a ta q n (left + 1 : Nat) rs nl false nr vs nw v1 v2 kk s rr) trivial rfl R (by (repeat' (first | exact ot_nil | refine ot_cons ?_ ?_)) <;> first | exact c1 | exact c2 | exact c3 | exact c4 | exact c5 _ | exact i1 _ | exact i2 _ | exact c6 _ | exact c7 _ | exact c8 | exact m2 | exact t1' _ | exact c9 _) fun ad h' tk' R' => ?_
            exact same ad h' tk' _ _ _ s R' hah
      | true =>
        cases hb2 : anyStr opsL s with
        | false =>
          have i1 : ∀ j, OrcOk L prg w h₀ g d os (oIn j leadL a true) := fun j => oIn_ok hb1
          have i2 : ∀ j, OrcOk L prg w h₀ g d os (oIn j opsL s false) := fun j => oIn_ok hb2
          have hah : s ∈ wordsL := hs
          by_cases h1 : rr = 1
          · have m2 : OrcOk L prg w h₀ g d os (oMod v2 6 1) := oMod_ok (by decide) (hrr.trans h1)
            have t1' : ∀ j, OrcOk L prg w h₀ g d os (oInT j [1, 2] 1 true) := fun j => oInT_ok rfl
            refine by_runs W K hL hA (fun ad => rtBTF1_run w b c ad l xs k T fa it la ra wa t1 t2 t3 a ta q n (left + 1 : Nat) rs nl false nr vs nw v1 v2 kk s) trivial rfl R (by (repeat' (first | exact ot_nil | refine ot_cons ?_ ?_)) <;> first | exact c1 | exact c2 | exact c3 | exact c4 | exact c5 _ | exact i1 _ | exact i2 _ | exact c6 _ | exact c7 _ | exact c8 | exact m2 | exact t1' _ | exact c9 _) fun ad h' tk' R' => ?_
            exact fresh ad h' tk' _ _ _ _ _ s R' hah
          · by_cases h2 : rr = 2
            · have m2 : OrcOk L prg w h₀ g d os (oMod v2 6 2) := oMod_ok (by decide) (hrr.trans h2)
              have t1' : ∀ j, OrcOk L prg w h₀ g d os (oInT j [1, 2] 2 true) := fun j => oInT_ok rfl
              refine by_runs W K hL hA (fun ad => rtBTF2_run w b c ad l xs k T fa it la ra wa t1 t2 t3 a ta q n (left + 1 : Nat) rs nl false nr vs nw v1 v2 kk s) trivial rfl R (by (repeat' (first | exact ot_nil | refine ot_cons ?_ ?_)) <;> first | exact c1 | exact c2 | exact c3 | exact c4 | exact c5 _ | exact i1 _ | exact i2 _ | exact c6 _ | exact c7 _ | exact c8 | exact m2 | exact t1' _ | exact c9 _) fun ad h' tk' R' => ?_
              exact fresh ad h' tk' _ _ _ _ _ s R' hah
            · have m2 : OrcOk L prg w h₀ g d os (oMod v2 6 rr) := oMod_ok (by decide) hrr
              have t1' : ∀ j, OrcOk L prg w h₀ g d os (oInT j [1, 2] rr false) := fun j => oInT_ok (not_in h1 h2)
              refine by_runs W K hL hA (fun ad => rtBTF0_run w b c ad l xs k T fa it la ra wa t1 t2 t3 a ta q n (left + 1 : Nat) rs nl false nr vs nw v1 v2 kk s rr) trivial rfl R (by (repeat' (first | exact ot_nil | refine ot_cons ?_ ?_)) <;> first | exact c1 | exact c2 | exact c3 | exact c4 | exact c5 _ | exact i1 _ | exact i2 _ | exact c6 _ | exact c7 _ | exact c8 | exact m2 | exact t1' _ | exact c9 _) fun ad h' tk' R' => ?_
              exact same ad h' tk' _ _ _ s R' hah
        | true =>
          have i1 : ∀ j, OrcOk L prg w h₀ g d os (oIn j leadL a true) := fun j => oIn_ok hb1
          have i2 : ∀ j, OrcOk L prg w h₀ g d os (oIn j opsL s true) := fun j => oIn_ok hb2
          have hah : (⟨#[97]⟩ : Str) ∈ wordsL := a_mem
          by_cases h1 : rr = 1
          · have m2 : OrcOk L prg w h₀ g d os (oMod v2 6 1) := oMod_ok (by decide) (hrr.trans h1)
            have t1' : ∀ j, OrcOk L prg w h₀ g d os (oInT j [1, 2] 1 true) := fun j => oInT_ok rfl
            refine by_runs W K hL hA (fun ad => rtBTT1_run w b c ad l xs k T fa it la ra wa t1 t2 t3 a ta q n (left + 1 : Nat) rs nl false nr vs nw v1 v2 kk s) trivial rfl R (by (repeat' (first | exact ot_nil | refine ot_cons ?_ ?_)) <;> first | exact c1 | exact c2 | exact c3 | exact c4 | exact c5 _ | exact i1 _ | exact i2 _ | exact c6 _ | exact c7 _ | exact c8 | exact m2 | exact t1' _ | exact c9 _) fun ad h' tk' R' => ?_
            exact fresh ad h' tk' _ _ _ _ _ ⟨#[97]⟩ R' hah
          · by_cases h2 : rr = 2
            · have m2 : OrcOk L prg w h₀ g d os (oMod v2 6 2) := oMod_ok (by decide) (hrr.trans h2)
              have t1' : ∀ j, OrcOk L prg w h₀ g d os (oInT j [1, 2] 2 true) := fun j => oInT_ok rfl
              refine by_runs W K hL hA (fun ad => rtBTT2_run w b c ad l xs k T fa it la ra wa t1 t2 t3 a ta q n (left + 1 : Nat) rs nl false nr vs nw v1 v2 kk s) trivial rfl R (by (repeat' (first | exact ot_nil | refine ot_cons ?_ ?_)) <;> first | exact c1 | exact c2 | exact c3 | exact c4 | exact c5 _ | exact i1 _ | exact i2 _ | exact c6 _ | exact c7 _ | exact c8 | exact m2 | exact t1' _ | exact c9 _) fun ad h' tk' R' => ?_
              exact fresh ad h' tk' _ _ _ _ _ ⟨#[97]⟩ R' hah
            · have m2 : OrcOk L prg w h₀ g d os (oMod v2 6 rr) := oMod_ok (by decide) hrr
              have t1' : ∀ j, OrcOk L prg w h₀ g d os (oInT j [1, 2] rr false) := fun j => oInT_ok (not_in h1 h2)
              refine by_runs W K hL hA (fun ad => rtBTT0_run w b c ad l xs k T fa it la ra wa t1 t2 t3 a ta q n (left + 1 : Nat) rs nl false nr vs nw v1 v2 kk s rr) trivial rfl R (by (repeat' (first | exact ot_nil | refine ot_cons ?_ ?_)) <;> first | exact c1 | exact c2 | exact c3 | exact c4 | exact c5 _ | exact i1 _ | exact i2 _ | exact c6 _ | exact c7 _ | exact c8 | exact m2 | exact t1' _ | exact c9 _) fun ad h' tk' R' => ?_
              exact same ad h' tk' _ _ _ ⟨#[97]⟩ R' hah
end
end Mine
end

section
open PySem PySem.W PySem.W.X PySem.Calls PyProof.Rows
set_option maxHeartbeats 0
namespace Mine
noncomputable abbrev zassign := PySem.W.ZFast.zw17772580674575903948
noncomputable abbrev zeval := PySem.W.ZFast.zw14044960220447912780
noncomputable abbrev zpyNext := PySem.W.ZFast.zw9404975358583537561
theorem zassign_eq : PySem.assign = zassign := PySem.W.ZFast.ze17772580674575903948
theorem zeval_eq : PySem.eval = zeval := PySem.W.ZFast.ze14044960220447912780
theorem zpyNext_eq : PySem.pyNext = zpyNext := PySem.W.ZFast.ze9404975358583537561
noncomputable def dictO (es : List DictEntry) (n : Nat) : Obj := { cls := .type "dict", data := .dict ⟨es⟩ n }
noncomputable def ad3 (x y z : Nat) : Strm := fun n => match n with
  | 0 => x
  | n + 1 => match n with
    | 0 => y
    | _ => z
noncomputable def rowsC (w : World) (b c : Bool) (ad : Strm) (l fa it la : Addr) (t1 t2 t3 : Tok) (a : Str) (ta : Tok) (mo : Option More) (rs : List Value) (nl : Nat) : Md Result × St :=
  zrun (par w b c [(fa, rowsFrm w l la t1 t2 t3 a ta mo), (la, listObj rs nl)]) 15 (contOf (.ok .next) (rowsAMd w fa it)) ad [2, 4, 4, 4, 1] [] [] [] []
noncomputable def rowsCMd (w : World) (fa it la i2 acc D : Addr) : Md Result := (rowsC w true true (ad3 i2 acc D) 0 fa it la 0 0 0 ⟨#[]⟩ 0 none [] 0).1
theorem rowsC_run (w : World) (b c : Bool) (ad : Strm) (l fa it la : Addr) (t1 t2 t3 : Tok) (a : Str) (ta : Tok) (mo : Option More) (rs : List Value) (nl : Nat) :
    let r := rowsC w b c ad l fa it la t1 t2 t3 a ta mo rs nl
    (r.1, r.2.obs.map Prod.fst, pickD [] 0 r.2.st) = (rowsCMd w fa it la (ad 0) (ad 1) (ad 2), r.2.obs.map Prod.snd, [(ad 2, dictO [] 0), (ad 1, listObj [] 0), (ad 0, itObj la 0)]) := by
  cases mo <;> cases b <;> kernel_rfl
noncomputable def nameX : Expr := .Name ⟨#[]⟩ ⟨0, 0, 0, 0⟩
noncomputable def cEnv (w : World) (fa D : Addr) : Env := match codeOf (rowsCMd w fa 0 0 0 0 D) with
  | .compStart _ _ _ _ env => env
  | _ => default
noncomputable def cExpr (w : World) : Expr := match codeOf (rowsCMd w 0 0 0 0 0 0) with
  | .compStart e _ _ _ _ => e
  | _ => nameX
noncomputable def genOf : Expr → Comprehension := fun e => match e with
  | .ListComp _ gs _ _ => match gs with
    | [g] => g
    | _ => ⟨nameX, nameX, [], 0⟩
  | _ => ⟨nameX, nameX, [], 0⟩
noncomputable def eltOf : Expr → Expr := fun e => match e with
  | .ListComp x _ _ _ => x
  | _ => nameX
noncomputable def posOfX : Expr → Pos := fun e => match e with
  | .ListComp _ _ _ p => p
  | .Compare _ _ _ p => p
  | _ => ⟨0, 0, 0, 0⟩
noncomputable def scopeOfX : Expr → Scope := fun e => match e with
  | .ListComp _ _ s _ => s
  | _ => default
noncomputable def testOf : Expr → Expr := fun e => match (genOf e).ifs with
  | [x] => x
  | _ => nameX
noncomputable def leftOf : Expr → Expr := fun e => match e with
  | .Compare x _ _ _ => x
  | _ => nameX
noncomputable def rightOf : Expr → Expr := fun e => match e with
  | .Compare _ _ xs _ => match xs with
    | [x] => x
    | _ => nameX
  | _ => nameX
noncomputable def cElt (w : World) := eltOf (cExpr w)
noncomputable def cTgt (w : World) := (genOf (cExpr w)).target
noncomputable def cIter (w : World) := (genOf (cExpr w)).iter
noncomputable def cL (w : World) := leftOf (testOf (cExpr w))
noncomputable def cR (w : World) := rightOf (testOf (cExpr w))
noncomputable def cP (w : World) := posOfX (testOf (cExpr w))
noncomputable def cSc (w : World) := scopeOfX (cExpr w)
noncomputable def cPos (w : World) := posOfX (cExpr w)
theorem rowsC_code (w : World) (fa it la i2 acc D : Addr) : (isCall (rowsCMd w fa it la i2 acc D) && okMd (rowsCMd w fa it la i2 acc D), codeOf (rowsCMd w fa it la i2 acc D)) =
    (true, .compStart (.ListComp (cElt w) [⟨cTgt w, cIter w, [.Compare (cL w) [.NotEq] [cR w] (cP w)], 0⟩] (cSc w) (cPos w)) 0 (.ref i2) (.ref acc) (cEnv w fa D)) := by kernel_rfl
theorem rowsA_call (w : World) (fa it : Addr) : (isCall (rowsAMd w fa it) && okMd (rowsAMd w fa it)) = true := by kernel_rfl
theorem c_tgt (w : World) (i2 : Value) (v : Value) : letOwnedTupleGo (cTgt w) i2 v = pure () := by kernel_rfl
theorem c_in (w : World) : behindInMarks .NotEq (cR w) = false := by kernel_rfl
theorem cAssign0_run (w : World) (b c : Bool) (ad : Strm) (fa D : Addr) (st : Store) (ra : Addr) :
    let r := zrun (par w b c []) 7 (.out (zassign (cTgt w) (cEnv w fa D) (.ref ra))) ad [1, 0] ((D, dictO [] 0) :: st) [] [] []
    (r.1, r.2.obs.map Prod.fst, pickD [] 0 r.2.st) = (.out (.pure ()), r.2.obs.map Prod.snd, (D, dictO [ent w "row" (ad 0) (.ref ra)] 1) :: st) := by kernel_rfl
theorem cAssign1_run (w : World) (b c : Bool) (ad : Strm) (fa D : Addr) (st : Store) (ra : Addr) (t : Tok) (x : Addr) :
    let r := zrun (par w b c []) 7 (.out (zassign (cTgt w) (cEnv w fa D) (.ref ra))) ad [1, 0] ((D, dictO [ent w "row" t (.ref x)] 1) :: st) [] [] []
    (r.1, r.2.obs.map Prod.fst, pickD [] 0 r.2.st) = (.out (.pure ()), r.2.obs.map Prod.snd, (D, dictO [ent w "row" t (.ref ra)] 1) :: st) := by kernel_rfl
theorem cLeft_run (w : World) (b c : Bool) (ad : Strm) (fa D : Addr) (st : Store) (ra wa : Addr) (t : Tok) (f : Bool) (nr : Nat) :
    let r := zrun (par w b c [(ra, listObj [.ref wa, .bool f] nr)]) 12 (.out (zeval (cL w) (cEnv w fa D))) ad [1, 2, 2, 2, 2, 2] ((D, dictO [ent w "row" t (.ref ra)] 1) :: st) [] [] []
    (r.1, r.2.obs.map Prod.fst, pickD [] 0 r.2.st) = (.out (.pure (.ref wa)), r.2.obs.map Prod.snd, (D, dictO [ent w "row" t (.ref ra)] 1) :: st) := by kernel_rfl
theorem cRight_run (w : World) (b c : Bool) (ad : Strm) (fa D : Addr) (st : Store) :
    let r := zrun (par w b c []) 2 (.out (zeval (cR w) (cEnv w fa D))) ad [] st [] [] []
    (r.1, r.2.obs.map Prod.fst, pickD [] 0 r.2.st) = (.out (.pure (.ref (ad 0))), r.2.obs.map Prod.snd, (ad 0, listObj [] 0) :: st) := by kernel_rfl
theorem cElt_run (w : World) (b c : Bool) (ad : Strm) (fa D : Addr) (st : Store) (ra : Addr) (t : Tok) :
    let r := zrun (par w b c []) 2 (.out (zeval (cElt w) (cEnv w fa D))) ad [1] ((D, dictO [ent w "row" t (.ref ra)] 1) :: st) [] [] []
    (r.1, r.2.obs.map Prod.fst, pickD [] 0 r.2.st) = (.out (.pure (.ref ra)), r.2.obs.map Prod.snd, (D, dictO [ent w "row" t (.ref ra)] 1) :: st) := by kernel_rfl
theorem next_run (w : World) (b c : Bool) (ad : Strm) (it l : Addr) (xs : List Value) (n i : Nat) (v : Value) (st : Store) :
    let r := zrun (par w b c []) 2 (.out (zpyNext (.ref it))) ad [1] ((it, itObj l i) :: st) [] [0] [oNext 0 (.base l) l xs n i v]
    (r.1, r.2.obs.map Prod.fst, pickD [] 0 r.2.st) = (.out (.pure (some v)), r.2.obs.map Prod.snd, (it, itObj l (i + 1)) :: st) := by kernel_rfl
theorem nextE_run (w : World) (b c : Bool) (ad : Strm) (it l : Addr) (xs : List Value) (n i : Nat) (st : Store) :
    let r := zrun (par w b c []) 3 (.out (zpyNext (.ref it))) ad [1, 1] ((it, itObj l i) :: st) [] [0] [oEnd 0 (.base l) l xs n i]
    (r.1, r.2.obs.map Prod.fst, pickD [] 2 r.2.st) = (.out (.pure none), r.2.obs.map Prod.snd, (it, itEnd i) :: st) := by kernel_rfl
noncomputable def cD (w : World) (x : Option (Tok × Addr)) : Obj := match x with
  | none => dictO [] 0
  | some p => dictO [ent w "row" p.1 (.ref p.2)] 1
theorem rowsF0_run (w : World) (b c : Bool) (ad : Strm) (fa it la i2 acc D : Addr) (o : Obj) (st : Store) :
    let r := zrun (par w b c []) 2 (contOf (.ok .next) (rowsCMd w fa it la i2 acc D)) ad [1] ((D, cD w none) :: (acc, o) :: st) [] [] []
    (r.1, r.2.obs.map Prod.fst, pickD [1] 2 r.2.st) = (.out (.pure (.ok (.ret (.ref acc)))), r.2.obs.map Prod.snd, (acc, o) :: st) := by kernel_rfl
theorem rowsF1_run (w : World) (b c : Bool) (ad : Strm) (fa it la i2 acc D : Addr) (o : Obj) (x : Tok × Addr) (st : Store) :
    let r := zrun (par w b c []) 6 (contOf (.ok .next) (rowsCMd w fa it la i2 acc D)) ad [1, 1, 0] ((D, cD w (some x)) :: (acc, o) :: st) [] [] []
    (r.1, r.2.obs.map Prod.fst, pickD [1] 2 r.2.st) = (.out (.pure (.ok (.ret (.ref acc)))), r.2.obs.map Prod.snd, (acc, o) :: st) := by kernel_rfl
end Mine
end

section
open PySem PySem.W PySem.W.X PySem.Calls PyProof.Rows
set_option maxHeartbeats 0
namespace Mine
theorem Rep.self (h : Heap) : Rep h h [] := ⟨fun _ _ e => e, fun _ hp => (nomatch hp), List.nodup_nil⟩
theorem Rep.trans {h₀ h h' : Heap} {st st' : Store} (R : Rep h₀ h st) (R' : Rep h h' st') : Rep h₀ h' (st' ++ st) := by
  refine ⟨fun b o e => R'.keep _ _ (R.keep _ _ e), fun p hp => ?_, ?_⟩
  · rcases List.mem_append.mp hp with hp | hp
    · refine ⟨(R'.own p hp).1, ?_⟩
      cases q : h₀.get? p.1 with
      | none => rfl
      | some o => have := R.keep _ _ q; rw [(R'.own p hp).2] at this; cases this
    · exact ⟨R'.keep _ _ (R.own p hp).1, (R.own p hp).2⟩
  · rw [List.map_append]
    refine List.nodup_append.mpr ⟨R'.nd, R.nd, fun a ha b hb e => ?_⟩
    obtain ⟨p, hp, rfl⟩ := List.mem_map.mp ha
    obtain ⟨q, hq, rfl⟩ := List.mem_map.mp hb
    have h1 := (R'.own p hp).2
    rw [e, (R.own q hq).1] at h1
    cases h1
theorem Lev.mark {L : Nat} {A : Around} (hA : Lev L A) : Lev L (A.mark none) := ⟨by show Option.or none A.handled = none; rw [hA.handled]; rfl, hA.depth, hA.units⟩
section
variable {w : World} {A : Around} {L : Nat} {h₁ : Heap} {g : Array GenState} {d : Drawn} {os : OsState} {b c : Bool}
theorem out_ms {α : Type} {Q : α → Shared → Prop} {E : Value → Shared → Prop} {t : Sem α} {s : Shared} (h : Ms prg w A Q E (fun _ _ => False) (.out t) s) : wpAny (model prg w) A t Q E s := h
theorem kn_none {h : Heap} (hk : KT.Holds h 1 0 (ktop w.params)) : Kn (par w b c []) h := kn_of hk (fun _ hp => (nomatch hp))
theorem ne_nil {Q : Value → Shared → Prop} {E : Value → Shared → Prop} {s : Shared} (hA : Lev L A) (hL : L ≤ 10) {wa x : Addr} {vs : List Value} {n m : Nat} (h1 : s.heap.get? wa = some (listObj vs n)) (h2 : s.heap.get? x = some (listObj [] m))
    (h : Q (.bool !vs.isEmpty) s) : wpAny (model prg w) A (compareOp .NotEq (.ref wa) (.ref x)) Q E s := by
  have hu : A.units < cLine := by have := hA.units; show A.units < 9900; omega
  refine cmp_ofNotEq ?_
  cases vs with
  | nil =>
    refine richCompare_meets_room (T := "list") ⟨_, h1, rfl⟩ ⟨_, h2, rfl⟩ F.slot_list_ne F.entry_list_ne (F.args_list_ne_2 _ _) (SeqAt.list_neAt wa x #[] #[] n m none none #[] #[] rfl (fun _ => true)) ⟨h1, h2, fun j hj => (nomatch hj), ?_⟩ hu
    exact ⟨(by intro e; cases e), h⟩
  | cons v vs =>
    refine richCompare_meets_room (T := "list") ⟨_, h1, rfl⟩ ⟨_, h2, rfl⟩ F.slot_list_ne F.entry_list_ne (F.args_list_ne_2 _ _) (SeqAt.list_ne_lengthsAt wa x ⟨v :: vs⟩ #[] n m none none #[] #[] (by simp)) ⟨h1, h2, ?_⟩ hu
    exact ⟨(by intro e; cases e), h⟩
theorem All2.get {α β : Type} {F : α → β → Prop} : ∀ {l₁ : List α} {l₂ : List β}, All2 F l₁ l₂ → ∀ {i : Nat} {a : α}, l₁[i]? = some a → ∃ x, l₂[i]? = some x ∧ F a x
  | _, _, .nil, i, a, e => by simp at e
  | _, _, .cons (b := x) h t, 0, a, e => by simp at e; subst e; exact ⟨x, rfl, h⟩
  | _, _, .cons h t, i + 1, a, e => by simp at e; obtain ⟨y, hy, f⟩ := t.get e; exact ⟨y, by simpa using hy, f⟩
abbrev full (p : List Str × Bool) : Bool := !p.1.isEmpty
theorem take_filter {β : Type} {f : β → Bool} {l : List β} {i : Nat} {x : β} (e : l[i]? = some x) : (l.take (i + 1)).filter f = (l.take i).filter f ++ (if f x = true then [x] else []) := by
  rw [List.take_add_one, e, List.filter_append]
  cases h : f x <;> simp [h]
theorem comp_loop (W : Wd w b c) (hk : KT.Holds h₁ 1 0 (ktop w.params)) (hL : L ≤ 9) (hA : Lev L A) {R : Result → Shared → Prop} {fa la i2 acc D : Addr} {T : Store} {h₀ : Heap} (RT : Rep h₀ h₁ T) {rs : List Value} {nl : Nat} {rows : List (List Str × Bool)}
    (hla : h₁.get? la = some (listObj rs nl)) (hr : All2 (RowIn T) rs rows) (hlen : rs.length ≤ 13) {h : Heap} {tk : Nat} {i : Nat} {x : Option (Tok × Addr)} {kept : List Value} {m : Nat}
    (RR : Rep h₁ h [(D, cD w x), (acc, listObj kept m), (i2, itObj la i)]) (hi : i ≤ rs.length) (hkept : All2 (RowIn T) kept ((rows.take i).filter full)) (hkl : kept.length ≤ i)
    (fin : ∀ h' tk' x kept m, Rep h₁ h' [(D, cD w x), (acc, listObj kept m)] → All2 (RowIn T) kept (rows.filter full) → kept.length ≤ 13 → R (.ok .next) ⟨h', g, d, tk', os⟩) :
    codeAny (model prg w) A (.compLoop (.ListComp (cElt w) [⟨cTgt w, cIter w, [.Compare (cL w) [.NotEq] [cR w] (cP w)], 0⟩] (cSc w) (cPos w)) 0 (.ref i2) (.ref acc) (cEnv w fa D)) R ⟨h, g, d, tk, os⟩ := by
  have K0 := kn_none (b := b) (c := c) hk
  have hrl := hr.len
  refine codeAny_compLoop_tests (fun n s => ∃ i h tk x kept m, s = ⟨h, g, d, tk, os⟩ ∧ n = rs.length - i ∧ i ≤ rs.length ∧ Rep h₁ h [(D, cD w x), (acc, listObj kept m), (i2, itObj la i)] ∧ All2 (RowIn T) kept ((rows.take i).filter full) ∧ kept.length ≤ i)
    (fun n s hI => ?_) (rs.length - i) ⟨i, h, tk, x, kept, m, rfl, rfl, hi, RR, hkept, hkl⟩ (c_tgt w _)
  clear RR hkept hkl hi
  obtain ⟨i, h, tk, x, kept, m, rfl, rfl, hi, RR, hkept, hkl⟩ := hI
  have RR' : Rep h₁ h [(i2, itObj la i), (D, cD w x), (acc, listObj kept m)] := by
    have := RR.pick (ks := [2, 0, 1]) (k := 3) rfl
    exact this
  rw [zpyNext_eq]
  cases hv : rs[i]? with
  | none =>
    have hil : i = rs.length := by have := List.getElem?_eq_none_iff.mp hv; omega
    refine out_ms (by_runs W K0 (by omega) hA (fun ad => nextE_run w b c ad i2 la rs nl i _) trivial rfl RR' (ot_cons (oEnd_ok hla hv) ot_nil) fun ad h' tk' R' => wpAny_pure ?_)
    have hall : rows.take i = rows := by rw [hil, hrl]; exact List.take_length
    rw [hall] at hkept
    exact fin h' tk' x kept m (R'.pick (ks := [1, 2]) (k := 3) rfl) hkept (by omega)
  | some v =>
    have hlt : i < rs.length := (List.getElem?_eq_some_iff.mp hv).1
    obtain ⟨p, hp, F⟩ := hr.get hv
    have F' := F
    obtain ⟨ra, wa, nr, nw, vs, rfl, m1, m2, e1, e2⟩ := F'
    have g1 := (RT.own _ m1).1
    have g2 := (RT.own _ m2).1
    refine out_ms (by_runs W K0 (by omega) hA (fun ad => next_run w b c ad i2 la rs nl i (.ref ra) _) trivial rfl RR' (ot_cons (oNext_ok hla hv) ot_nil) fun ad h2 tk2 R2 => wpAny_pure ?_)
    have R3 : Rep h₁ h2 [(D, cD w x), (acc, listObj kept m), (i2, itObj la (i + 1))] := R2.pick (ks := [1, 2, 0]) (k := 3) rfl
    rw [zassign_eq]
    have assigned : ∀ {h3 tk3 t}, Rep h₁ h3 [(D, cD w (some (t, ra))), (acc, listObj kept m), (i2, itObj la (i + 1))] → wpAny (model prg w) A (forIn [Expr.Compare (cL w) [.NotEq] [cR w] (cP w)] true fun c r => if r = true then do let ok ← isTrue c (cEnv w fa D) (eval c (cEnv w fa D)); pure (ForInStep.yield ok) else pure (ForInStep.yield r)) (fun ok s₃ =>
            if ok = true then wpAny (model prg w) A (eval (cElt w) (cEnv w fa D)) (fun x s₄ =>
              wpAny (model prg w) A (call (.builtin "list.append") [.ref acc, x]) (fun _ s₅ => ∃ m, m < rs.length - i ∧ ∃ i h tk x kept m_1, s₅ = ⟨h, g, d, tk, os⟩ ∧ m = rs.length - i ∧ i ≤ rs.length ∧ Rep h₁ h [(D, cD w x), (acc, listObj kept m_1), (i2, itObj la i)] ∧ All2 (RowIn T) kept ((rows.take i).filter full) ∧ kept.length ≤ i) (notedBy (model prg w) A (cEnv w fa D) fun e s' => R (.error e) s') s₄) (notedBy (model prg w) A (cEnv w fa D) fun e s' => R (.error e) s') s₃
            else ∃ m, m < rs.length - i ∧ ∃ i h tk x kept m_1, s₃ = ⟨h, g, d, tk, os⟩ ∧ m = rs.length - i ∧ i ≤ rs.length ∧ Rep h₁ h [(D, cD w x), (acc, listObj kept m_1), (i2, itObj la i)] ∧ All2 (RowIn T) kept ((rows.take i).filter full) ∧ kept.length ≤ i) (notedBy (model prg w) A (cEnv w fa D) fun e s' => R (.error e) s') ⟨h3, g, d, tk3, os⟩ := by
      intro h3 tk3 t R4
      refine wpAny_tests_one (wpAny_isTrue_Compare1 ?_ (c_in w))
      rw [zeval_eq]
      have K1 : Kn (par w b c [(ra, listObj [.ref wa, .bool p.2] nr)]) h₁ := kn_of hk (by intro q hq; rw [List.mem_singleton] at hq; subst hq; exact g1)
      refine out_ms (by_runs W K1 (by omega) hA (fun ad => cLeft_run w b c ad fa D _ ra wa t p.2 nr) trivial rfl R4 ot_nil fun ad h5 tk5 R5 => wpAny_pure ?_)
      refine out_ms (by_runs W K0 (by omega) hA (fun ad => cRight_run w b c ad fa D _) trivial rfl R5 ot_nil fun ad h6 tk6 R6 => wpAny_pure ?_)
      have a1 : h6.get? wa = some (listObj vs nw) := R6.keep _ _ g2
      have a2 := (R6.own _ (.head _)).1
      refine ne_nil hA (by omega) a1 a2 (wpAny_truthy_bool ?_)
      have R7 : Rep h₁ h6 [(D, cD w (some (t, ra))), (acc, listObj kept m), (i2, itObj la (i + 1))] := R6.drop 1
      have tf := take_filter (f := full) hp
      have ev : vs.isEmpty = p.1.isEmpty := by
        cases vs <;> cases hq : p.1 <;> simp_all
      cases hf : vs.isEmpty with
      | true =>
        have hff : full p = false := by show (!p.1.isEmpty) = false; rw [← ev, hf]; rfl
        rw [hff] at tf
        refine ⟨rs.length - (i + 1), by omega, i + 1, h6, tk6, some (t, ra), kept, m, rfl, rfl, by omega, R7, ?_, by omega⟩
        rw [tf]
        simpa using hkept
      | false =>
        have hff : full p = true := by show (!p.1.isEmpty) = true; rw [← ev, hf]; rfl
        rw [hff] at tf
        refine out_ms (by_runs W K0 (by omega) hA (fun ad => cElt_run w b c ad fa D _ ra t) trivial rfl R7 ot_nil fun ad h8 tk8 R8 => wpAny_pure ?_)
        have a3 := (R8.own _ (.tail _ (.head _))).1
        refine call_meets slot_list_append ⟨_, a3, rfl⟩ entry_list_append (args_list_append _ _) (AutoListH.list_append_list_val_0 acc ⟨kept⟩ m (.ref ra) (by have := sizeLine_eq; show kept.length ≤ _; omega)) ⟨a3, ?_⟩
        have R9 := R8.update (n := 1) (f := Obj.mapSeq fun x_1 => x_1.push (.ref ra)) rfl rfl
        have e9 : Obj.mapSeq (fun x_1 => x_1.push (.ref ra)) (listObj kept m) = listObj (kept ++ [.ref ra]) (m + 1) := by
          unfold listObj Obj.mapSeq
          simp
        dsimp only at R9
        rw [e9] at R9
        refine ⟨rs.length - (i + 1), by omega, i + 1, _, _, some (t, ra), kept ++ [Value.ref ra], m + 1, rfl, rfl, by omega, (R9 : Rep h₁ _ [(D, cD w (some (t, ra))), (acc, listObj (kept ++ [Value.ref ra]) (m + 1)), (i2, itObj la (i + 1))]), ?_, by simp; omega⟩
        rw [tf]
        simp only [if_true]
        exact hkept.snoc F
    cases x with
    | none => exact out_ms (by_runs W K0 (by omega) hA (fun ad => cAssign0_run w b c ad fa D _ ra) trivial rfl R3 ot_nil fun ad h' tk' R' => wpAny_pure (assigned R'))
    | some q => exact out_ms (by_runs W K0 (by omega) hA (fun ad => cAssign1_run w b c ad fa D _ ra q.1 q.2) trivial rfl R3 ot_nil fun ad h' tk' R' => wpAny_pure (assigned R'))
end
end Mine
end

section
open PySem PySem.W PySem.W.X PySem.Calls PyProof.Rows
set_option maxHeartbeats 0
namespace Mine
theorem go_loop (w : World) (b c : Bool) (ad : Strm) (fa it : Addr) (st : Store) :
    let r := zrun (par w b c []) 1 (goCall (rowsLoop w fa it)) ad [] st [] [] []
    (r.1, r.2.obs.map Prod.fst, pickD [] 0 r.2.st) = (rowsMd w fa it, r.2.obs.map Prod.snd, st) := by kernel_rfl
structure RowsOk (rows : List (List Str × Bool)) : Prop where
  words : ∀ p ∈ rows, p.1 ≠ [] ∧ ∀ s ∈ p.1, s ∈ wordsL
  few : (rows.map fun p => p.1.length).sum ≤ 12
  ne : rows ≠ []
theorem sum_filter (f : List Str × Bool → Bool) : ∀ (rows : List (List Str × Bool)), ((rows.filter f).map fun p => p.1.length).sum ≤ (rows.map fun p => p.1.length).sum
  | [] => Nat.le_refl _
  | p :: l => by
    have := sum_filter f l
    rw [List.filter_cons]
    split
    · simp only [List.map_cons, List.sum_cons]; omega
    · simp only [List.map_cons, List.sum_cons]; omega
section
variable {w : World} {A : Around} {Q : Result → Shared → Prop} {E : Value → Shared → Prop} {Pe : End → Shared → Prop}
variable {L : Nat} {h₀ : Heap} {g : Array GenState} {d : Drawn} {os : OsState} {b c : Bool}
theorem rows_fn (W : Wd w b c) (hk : KT.Holds h₀ 1 0 (ktop w.params)) {l : Addr} {xs : List Value} {k : Nat} (X : Scr h₀ l xs k) (hL : L ≤ 8) (hA : Lev L A) {tk : Nat}
    (fin : ∀ h' tk' T acc kept m rows, Rep h₀ h' T → (acc, listObj kept m) ∈ T → All2 (RowIn T) kept rows → RowsOk rows → kept.length ≤ 13 → Q (.ok (.ret (.ref acc))) ⟨h', g, d, tk', os⟩) :
    Ms prg w A Q E Pe (goCall (.call (.ref 241) ⟨[.ref l], []⟩)) ⟨h₀, g, d, tk, os⟩ := by
  have K : Kn (par w b c [(l, listObj xs k)]) h₀ := kn_of hk (by intro p hp; rw [List.mem_singleton] at hp; subst hp; exact X.at_)
  have q1 : 0 ≤ (cellV xs 0).fmod 11 := Int.fmod_nonneg_of_pos _ (by decide)
  have q2 : (cellV xs 0).fmod 11 < 11 := Int.fmod_lt_of_pos _ (by decide)
  obtain ⟨m, hm⟩ : ∃ m : Nat, (cellV xs 0).fmod 11 = m := ⟨((cellV xs 0).fmod 11).toNat, by omega⟩
  refine by_runs W K (by omega) hA (fun ad => rowsA_run w b c ad l xs k (cellV xs 0) m (by omega)) trivial rfl (Rep.self h₀) (ot_cons (oCell_ok W hk X (by omega) (by decide) (by decide)) (ot_cons (oMod_ok (by decide) hm) ot_nil)) fun ad h1 tk1 R1 => ?_
  have ca := Bool.and_eq_true_iff.mp (rowsA_call w (ad 0) (ad 19))
  refine ms_call (by omega) hA (md := rowsAMd w _ _) (md_ok ca.2) ca.1 fun A1 hA1 => out_ms ?_
  refine by_runs (ro := []) W (kn_none hk) (by omega) hA1 (fun ad' => go_loop w b c ad' (ad 0) (ad 19) _) trivial rfl R1 ot_nil fun _ h2 tk2 R2 => ?_
  have e0 : ((2 + m : Nat) : Int) = 2 + (m : Int) := by omega
  refine rows_loop W hk X (by omega) hA1 (la := ad 4) (t1 := ad 1) (t2 := ad 5) (t3 := ad 7) (N := 2 + m) (by omega) (fun h3 tk3 T a ta mo n rs ra wa nl nr vs nw done cur R3 I hn => ?_) (2 + m) 0 h2 tk2 [] _ _ none [] (ad 3) (ad 2) 0 0 [] 0 [] [] (by rw [e0]; exact R2)
    ⟨.nil, ⟨rfl, rfl⟩, fun _ h => (nomatch h), fun _ h => (nomatch h), rfl, Nat.le_refl _⟩ (by omega)
  have hk3 := hk.keeps R3.keep
  have g1 := (R3.own _ (.tail _ (.tail _ (.tail _ (.tail _ (.head _)))))).1
  have g2 := (R3.own _ (.tail _ (.head _))).1
  have K3 : Kn (par w b c [(ad 0, rowsFrm w l (ad 4) (ad 1) (ad 5) (ad 7) a ta mo), (ad 4, listObj (rs ++ [.ref ra]) nl)]) h3 := kn_of hk3 (by
    intro p hp
    rcases List.mem_cons.mp hp with e | hp
    · subst e; exact g1
    · rw [List.mem_singleton] at hp; subst hp; exact g2)
  refine by_runs W K3 (by omega) hA (fun ad' => rowsC_run w b c ad' l (ad 0) (ad 19) (ad 4) (ad 1) (ad 5) (ad 7) a ta mo (rs ++ [Value.ref ra]) nl) (cont_ok (md_ok ca.2)) rfl (Rep.self h3) ot_nil fun ad' h4 tk4 R4 => ?_
  have hc := rowsC_code w (ad 0) (ad 19) (ad 4) (ad' 0) (ad' 1) (ad' 2)
  simp only [Prod.mk.injEq] at hc
  have cc := Bool.and_eq_true_iff.mp hc.1
  refine ms_call (by omega) hA (md := rowsCMd w _ _ _ _ _ _) (md_ok cc.2) cc.1 fun A2 hA2 => ?_
  rw [hc.2]
  have hrows : All2 (RowIn (rowsSt w l (ad 0) (ad 19) (ad 4) ra wa (ad 1) (ad 5) (ad 7) a ta mo n 0 rs nl false nr vs nw T)) (rs ++ [.ref ra]) (done ++ [(cur, false)]) := by
    refine (I.rows.imp fun v p h => h.more fun x hx => .tail _ (.tail _ (.tail _ (.tail _ (.tail _ hx))))).snoc ?_
    exact ⟨ra, wa, nr, nw, vs, rfl, .tail _ (.tail _ (.head _)), .tail _ (.tail _ (.tail _ (.head _))), I.now.1, I.now.2⟩
  have hfew := I.few
  have hsum := I.sum
  have hrl := I.rows.len
  have hlen : (rs ++ [Value.ref ra]).length ≤ 13 := by simp only [List.length_append, List.length_cons, List.length_nil]; omega
  have final : ∀ h' tk' x kept m, Rep h3 h' [(ad' 2, cD w x), (ad' 1, listObj kept m)] → All2 (RowIn (rowsSt w l (ad 0) (ad 19) (ad 4) ra wa (ad 1) (ad 5) (ad 7) a ta mo n 0 rs nl false nr vs nw T)) kept ((done ++ [(cur, false)]).filter full) → kept.length ≤ 13 →
      wpAny (model prg w) (A2) (Sem.pure (.ok .next) : Sem Result) (fun r s' => Ms prg w A Q E Pe (contOf r (rowsCMd w (ad 0) (ad 19) (ad 4) (ad' 0) (ad' 1) (ad' 2))) s') (fun _ _ => False) ⟨h', g, d, tk', os⟩ := by
    intro h5 tk5 x kept m R5 hkept hkl
    refine wpAny_pure ?_
    have hk5 := hk3.keeps R5.keep
    have R5' : Rep h₀ h5 ((ad' 1, listObj kept m) :: rowsSt w l (ad 0) (ad 19) (ad 4) ra wa (ad 1) (ad 5) (ad 7) a ta mo n 0 rs nl false nr vs nw T) := (R3.trans R5).drop 1
    have ok : RowsOk ((done ++ [(cur, false)]).filter full) := by
      refine ⟨fun p hp => ?_, Nat.le_trans (sum_filter _ _) ?_, ?_⟩
      · obtain ⟨hp, hf⟩ := List.mem_filter.mp hp
        refine ⟨fun e => by simp [full, e] at hf, ?_⟩
        rcases List.mem_append.mp hp with hp | hp
        · exact (I.words p hp).2
        · rw [List.mem_singleton] at hp
          subst hp
          exact I.nowW
      · simp only [List.map_append, List.map_cons, List.map_nil, List.sum_append, List.sum_cons, List.sum_nil]
        omega
      · intro e
        cases hd : done with
        | nil =>
          rw [hd] at e hsum
          simp only [List.map_nil, List.sum_nil, Nat.zero_add] at hsum
          have hc : full (cur, false) = true := by
            cases hq : cur with
            | nil => rw [hq] at hsum; simp at hsum; omega
            | cons => rfl
          simp [hc] at e
        | cons p l =>
          have hf : full p = true := by
            have := (I.words p (by rw [hd]; exact .head _)).1
            cases hq : p.1 with
            | nil => exact absurd hq this
            | cons => simp [full, hq]
          rw [hd] at e
          simp [hf] at e
    have done' : ∀ (ad'' : Strm) h6 tk6, Rep h5 h6 [] → Q (.ok (.ret (.ref (ad' 1)))) ⟨h6, g, d, tk6, os⟩ := fun ad'' h6 tk6 R6 =>
      fin h6 tk6 _ (ad' 1) kept m _ (R5'.trans R6) (.head _) (hkept.imp fun v p h => h.more fun x hx => .tail _ hx) ok hkl
    cases x with
    | none =>
      refine by_runs (ro := []) W (kn_none hk3) (by omega) hA (fun ad'' => rowsF0_run w b c ad'' (ad 0) (ad 19) (ad 4) (ad' 0) (ad' 1) (ad' 2) _ _) (cont_ok (md_ok cc.2)) rfl R5 ot_nil fun ad'' h6 tk6 R6 => wpAny_pure ?_
      have R7 : Rep h₀ h6 ((ad' 1, listObj kept m) :: rowsSt w l (ad 0) (ad 19) (ad 4) ra wa (ad 1) (ad 5) (ad 7) a ta mo n 0 rs nl false nr vs nw T) := R3.trans R6
      exact fin h6 tk6 _ (ad' 1) kept m _ R7 (.head _) (hkept.imp fun v p h => h.more fun x hx => .tail _ hx) ok hkl
    | some q =>
      refine by_runs (ro := []) W (kn_none hk3) (by omega) hA (fun ad'' => rowsF1_run w b c ad'' (ad 0) (ad 19) (ad 4) (ad' 0) (ad' 1) (ad' 2) _ q _) (cont_ok (md_ok cc.2)) rfl R5 ot_nil fun ad'' h6 tk6 R6 => wpAny_pure ?_
      have R7 : Rep h₀ h6 ((ad' 1, listObj kept m) :: rowsSt w l (ad 0) (ad 19) (ad 4) ra wa (ad 1) (ad 5) (ad 7) a ta mo n 0 rs nl false nr vs nw T) := R3.trans R6
      exact fin h6 tk6 _ (ad' 1) kept m _ R7 (.head _) (hkept.imp fun v p h => h.more fun x hx => .tail _ hx) ok hkl
  have loop : ∀ {h6 tk6}, Rep h3 h6 [(ad' 2, cD w none), (ad' 1, listObj [] 0), (ad' 0, itObj (ad 4) 0)] → codeAny (model prg w) (A2.mark none) (.compLoop (.ListComp (cElt w) [⟨cTgt w, cIter w, [.Compare (cL w) [.NotEq] [cR w] (cP w)], 0⟩] (cSc w) (cPos w)) 0 (.ref (ad' 0)) (.ref (ad' 1)) (cEnv w (ad 0) (ad' 2)))
      (fun r s' => wpAny (model prg w) A2 (Sem.pure r) (fun r s' => Ms prg w A Q E Pe (contOf r (rowsCMd w (ad 0) (ad 19) (ad 4) (ad' 0) (ad' 1) (ad' 2))) s') (fun _ _ => False) s') ⟨h6, g, d, tk6, os⟩ := fun R6 =>
    comp_loop W hk3 (L := L + 1) (by omega) hA2.mark R3 g2 hrows hlen R6 (Nat.zero_le _) .nil (Nat.zero_le _) fun h' tk' x kept m R' h1 h2 => final h' tk' x kept m R' h1 h2
  refine x_call (codeAny_compStart_list (loop R4) (wpAny_pyIter_listiter (l := ad 4) (i := 0) ⟨_, (R4.own _ (.tail _ (.tail _ (.head _)))).1, rfl, rfl⟩ (loop R4))) (by intro e; cases e)
end
end Mine
end

section
open PySem PySem.W PySem.W.X PySem.Calls PyProof.Rows
set_option maxHeartbeats 0
namespace Mine
noncomputable def remark : Str := ⟨#[35, 32, 99]⟩
noncomputable def namesL : List Str := [⟨#[97]⟩, ⟨#[120, 49]⟩, ⟨#[97, 110, 100]⟩, ⟨#[111, 114]⟩, ⟨#[110, 111, 116]⟩, ⟨#[105, 110]⟩]
noncomputable def signsL : List Str := [⟨#[43]⟩, ⟨#[42]⟩, ⟨#[40]⟩, ⟨#[41]⟩, ⟨#[44]⟩, ⟨#[61, 61]⟩, ⟨#[61]⟩, ⟨#[46]⟩, ⟨#[45]⟩, ⟨#[37]⟩, ⟨#[91]⟩, ⟨#[123]⟩, ⟨#[59]⟩]
noncomputable def twelve : Str := ⟨#[49, 50]⟩
noncomputable def kindN_hs : List Nat := [0, 0, 1, 0, 0, 1, 1, 0, 0, 0, 0, 0, 0, 0, 0]
noncomputable def kindO_hs : List Nat := [0, 0, 1, 0, 0, 1, 1, 1, 1, 0, 0, 0, 0, 0, 0, 0, 0]
noncomputable def kindC_hs : List Nat := [0, 0, 1, 0, 0, 1, 0, 0, 0, 0, 0, 0, 0, 0]
theorem kindN_run (w : World) (b c : Bool) (ad : Strm) (u : Tok) (st : Store) : ∀ s ∈ namesL,
    let r := zrun (par w b c []) 59 (goCall (.call (.ref 229) ⟨[.str s u], []⟩)) ad kindN_hs st [] [] []
    (r.1, r.2.obs.map Prod.fst, pickD [] 1 r.2.st) = (.out (.pure (.ok (.ret (.int 1 267)))), r.2.obs.map Prod.snd, st) := by
  intro s hs
  simp only [namesL, List.mem_cons, List.not_mem_nil, or_false] at hs
  rcases hs with rfl | rfl | rfl | rfl | rfl | rfl <;> cases b <;> kernel_rfl
theorem kindO_run (w : World) (b c : Bool) (ad : Strm) (u : Tok) (st : Store) : ∀ s ∈ signsL,
    let r := zrun (par w b c []) 89 (goCall (.call (.ref 229) ⟨[.str s u], []⟩)) ad kindO_hs st [] [] []
    (r.1, r.2.obs.map Prod.fst, pickD [] 1 r.2.st) = (.out (.pure (.ok (.ret (.int 54 279)))), r.2.obs.map Prod.snd, st) := by
  intro s hs
  simp only [signsL, List.mem_cons, List.not_mem_nil, or_false] at hs
  rcases hs with rfl | rfl | rfl | rfl | rfl | rfl | rfl | rfl | rfl | rfl | rfl | rfl | rfl <;> cases b <;> kernel_rfl
theorem kindD_run (w : World) (b c : Bool) (ad : Strm) (u : Tok) (st : Store) :
    let r := zrun (par w b c []) 89 (goCall (.call (.ref 229) ⟨[.str twelve u], []⟩)) ad kindO_hs st [] [] []
    (r.1, r.2.obs.map Prod.fst, pickD [] 1 r.2.st) = (.out (.pure (.ok (.ret (.int 2 269)))), r.2.obs.map Prod.snd, st) := by cases b <;> kernel_rfl
theorem kindC_run (w : World) (b c : Bool) (ad : Strm) (u : Tok) (st : Store) :
    let r := zrun (par w b c []) 42 (goCall (.call (.ref 229) ⟨[.str remark u], []⟩)) ad kindC_hs st [] [] []
    (r.1, r.2.obs.map Prod.fst, pickD [] 1 r.2.st) = (.out (.pure (.ok (.ret (.int 61 283)))), r.2.obs.map Prod.snd, st) := by cases b <;> kernel_rfl
noncomputable def strB (a b : Str) : Bool := a.cps.toList == b.cps.toList
noncomputable def kindV (s : Str) : Int × Tok := bif strB s remark then (61, 283) else bif namesL.any (strB s) then (1, 267) else bif strB s twelve then (2, 269) else (54, 279)
noncomputable def allL : List Str := remark :: wordsL
section
variable {w : World} {L : Nat} {h₀ : Heap} {g : Array GenState} {d : Drawn} {os : OsState} {b c : Bool}
theorem kind_cases : ∀ s ∈ allL, (s = remark ∧ kindV s = (61, 283)) ∨ (s ∈ namesL ∧ kindV s = (1, 267)) ∨ (s = twelve ∧ kindV s = (2, 269)) ∨ (s ∈ signsL ∧ kindV s = (54, 279)) := by
  intro s hs
  simp only [allL, wordsL, List.mem_cons, List.not_mem_nil, or_false] at hs
  rcases hs with rfl | rfl | rfl | rfl | rfl | rfl | rfl | rfl | rfl | rfl | rfl | rfl | rfl | rfl | rfl | rfl | rfl | rfl | rfl | rfl | rfl
  all_goals first
    | exact .inl ⟨rfl, by decide +kernel⟩
    | exact .inr (.inl ⟨by simp [namesL], by decide +kernel⟩)
    | exact .inr (.inr (.inl ⟨rfl, by decide +kernel⟩))
    | exact .inr (.inr (.inr ⟨by simp [signsL], by decide +kernel⟩))
theorem oKind_ok (W : Wd w b c) (hk : KT.Holds h₀ 1 0 (ktop w.params)) (hL : L ≤ 9) {s : Str} (hs : s ∈ allL) : OrcOk L prg w h₀ g d os (oKind s (kindV s).1 (kindV s).2) := by
  intro A' args r st h tk hA R hr hl
  unfold oKind at hr
  dsimp only at hr
  split at hr
  · rename_i s' u
    cases hr
    have e1 : s' = s := OV.s.inj (hl _ (.head _))
    subst e1
    refine goCall_ms (Pe := fun _ _ => False) ?_
    rcases kind_cases s' hs with ⟨h1, h2⟩ | ⟨h1, h2⟩ | ⟨h1, h2⟩ | ⟨h1, h2⟩
    · subst h1
      rw [h2]
      exact by_runs W (kn_none hk) (by omega) hA (fun ad => kindC_run w b c ad u st) trivial rfl R ot_nil fun ad h' tk' R' => wpAny_pure ⟨0, 0, h', tk', rfl, rfl, R'⟩
    · rw [h2]
      exact by_runs W (kn_none hk) (by omega) hA (fun ad => kindN_run w b c ad u st s' h1) trivial rfl R ot_nil fun ad h' tk' R' => wpAny_pure ⟨0, 0, h', tk', rfl, rfl, R'⟩
    · subst h1
      rw [h2]
      exact by_runs W (kn_none hk) (by omega) hA (fun ad => kindD_run w b c ad u st) trivial rfl R ot_nil fun ad h' tk' R' => wpAny_pure ⟨0, 0, h', tk', rfl, rfl, R'⟩
    · rw [h2]
      exact by_runs W (kn_none hk) (by omega) hA (fun ad => kindO_run w b c ad u st s' h1) trivial rfl R ot_nil fun ad h' tk' R' => wpAny_pure ⟨0, 0, h', tk', rfl, rfl, R'⟩
  · cases hr
end
end Mine
end

section
open PySem PySem.W PySem.W.X PySem.Calls PyProof.Rows
set_option maxHeartbeats 0
namespace Mine
noncomputable def fldO (c : String) (vs : List Value) : Obj := { cls := .type c, data := .fields ⟨vs⟩ }
structure MoreT where
  k1 : Tok
  s : Str
  u : Tok
  k2 : Tok
  g : Tok
noncomputable def toksFrm (w : World) (wl gl sp : Addr) (t1 t2 t3 t4 t5 : Tok) (row : Int) (rt : Tok) (ln : Str) (tl : Tok) (mo : Option MoreT) : Obj := match mo with
  | none => frm [ent w "words" t1 (.ref wl), ent w "gaps" t2 (.ref gl), ent w "row" t3 (.int row rt), ent w "spots" t4 (.ref sp), ent w "line" t5 (.str ln tl)] 5
  | some q => frm [ent w "words" t1 (.ref wl), ent w "gaps" t2 (.ref gl), ent w "row" t3 (.int row rt), ent w "spots" t4 (.ref sp), ent w "line" t5 (.str ln tl), ent w "word" q.k1 (.str q.s q.u), ent w "gap" q.k2 (.int 1 q.g)] 7
noncomputable def owO (mo : Option MoreT) : Obj := match mo with
  | none => tupObj [.none, .none] 0
  | some q => tupObj [.str q.s q.u, .int 1 q.g] 0
noncomputable def zipO (its ow : Addr) : Obj := fldO "zip" [.none, .bool false, .bool false, .ref its, .ref ow]
noncomputable def toksSt (w : World) (wl gl fa it ow its gi wi sp : Addr) (t1 t2 t3 t4 t5 : Tok) (row : Int) (rt : Tok) (ln : Str) (tl : Tok) (mo : Option MoreT) (i : Nat) (sps : List Value) (n : Nat) (T : Store) : Store :=
  (it, zipO its ow) :: (ow, owO mo) :: (its, tupObj [.ref wi, .ref gi] 0) :: (gi, itObj gl i) :: (wi, itObj wl i) :: (sp, listObj sps n) :: (fa, toksFrm w wl gl sp t1 t2 t3 t4 t5 row rt ln tl mo) :: T
noncomputable def toksA_hs : List Nat := [0, 0, 1, 0, 1, 0, 1, 0, 0, 1, 1, 1, 1, 1, 1, 1, 1, 1, 3, 1, 0, 1, 1, 1, 1, 3, 1, 0, 1, 1, 1, 1, 3, 1, 0, 1, 11, 5, 11, 5, 0, 0, 11, 11, 2, 2, 2, 1, 4, 4, 4, 1, 1, 1, 1, 1, 1, 1, 1, 1]
noncomputable def toksA (w : World) (b c : Bool) (ad : Strm) (wl gl : Addr) (vs gs : List Value) (n1 n2 : Nat) (row : Int) (rt : Tok) : Md Result × St :=
  zrun (par w b c [(wl, listObj vs n1), (gl, listObj gs n2)]) 136 (goCall (.call (.ref 236) ⟨[.ref wl, .ref gl, .int row rt], []⟩)) ad toksA_hs [] [] [] []
noncomputable def toksAMd (w : World) (fa it : Addr) : Md Result := (toksA w true true (ad2 fa 16 it) 0 0 [] [] 0 0 0 0).1
noncomputable def toksLoop (w : World) (fa it : Addr) : Code := codeOf (toksAMd w fa it)
theorem toksA_run (w : World) (b c : Bool) (ad : Strm) (wl gl : Addr) (vs gs : List Value) (n1 n2 : Nat) (row : Int) (rt : Tok) :
    let r := toksA w b c ad wl gl vs gs n1 n2 row rt
    (r.1, r.2.obs.map Prod.fst, pickD [0, 1, 2, 3, 4, 9, 10] 11 r.2.st) = (toksAMd w (ad 0) (ad 16), r.2.obs.map Prod.snd,
      toksSt w wl gl (ad 0) (ad 16) (ad 15) (ad 14) (ad 13) (ad 12) (ad 5) (ad 1) (ad 2) (ad 3) (ad 10) (ad 11) row rt ⟨#[]⟩ (ad 4) none 0 [] 0 []) := by
  cases b <;> kernel_rfl
theorem toksA_call (w : World) (fa it : Addr) : (isCall (toksAMd w fa it) && okMd (toksAMd w fa it)) = true := by kernel_rfl
noncomputable def tgtOf (c : Code) : Expr := match c with
  | .forLoop t _ _ _ _ => t
  | _ => nameX
noncomputable def bodyOf (c : Code) : List Stmt := match c with
  | .forLoop _ _ b _ _ => b
  | _ => []
noncomputable def envOf (c : Code) : Env := match c with
  | .forLoop _ _ _ _ e => e
  | .compStart _ _ _ _ e => e
  | _ => default
noncomputable def eltsOf (e : Expr) : List Expr := match e with
  | .Tuple xs _ _ => xs
  | _ => []
noncomputable def ctxOf (e : Expr) : Nat := match e with
  | .Tuple _ c _ => c
  | _ => 0
noncomputable def posOf' (e : Expr) : Pos := match e with
  | .Tuple _ _ p => p
  | _ => ⟨0, 0, 0, 0⟩
noncomputable def kTgt (w : World) : Expr := tgtOf (toksLoop w 0 0)
noncomputable def kBody (w : World) : List Stmt := bodyOf (toksLoop w 0 0)
noncomputable def kEnv (w : World) (fa : Addr) : Env := envOf (toksLoop w fa 0)
theorem toks_code (w : World) (fa it : Addr) : toksLoop w fa it = .forLoop (.Tuple (eltsOf (kTgt w)) (ctxOf (kTgt w)) (posOf' (kTgt w))) (.ref it) (kBody w) [] (kEnv w fa) := by kernel_rfl
noncomputable def kT (w : World) : Expr := .Tuple (eltsOf (kTgt w)) (ctxOf (kTgt w)) (posOf' (kTgt w))
noncomputable abbrev zexecs := PySem.W.ZFast.zw12563942051412417395
theorem zexecs_eq : PySem.execs = zexecs := PySem.W.ZFast.ze12563942051412417395
noncomputable def space : Str := ⟨#[32]⟩
noncomputable def kNext_hs : List Nat := [1, 1, 1, 1, 5, 1, 1, 1, 0, 9, 3, 3, 1, 3, 7, 3, 3, 1, 3, 3, 3, 1, 3, 1]
theorem kNext_run (w : World) (b c : Bool) (ad : Strm) (wl gl fa it ow its gi wi sp : Addr) (vs gs : List Value) (n1 n2 : Nat) (mo : Option MoreT) (i : Nat) (so fo : Obj) (T : Store) (s : Str) (u gt : Tok) :
    let r := zrun (par w b c []) 33 (.out (zpyNext (.ref it))) ad kNext_hs ((it, zipO its ow) :: (ow, owO mo) :: (its, tupObj [.ref wi, .ref gi] 0) :: (gi, itObj gl i) :: (wi, itObj wl i) :: (sp, so) :: (fa, fo) :: T) [] [1, 0]
      [oNext 4 (.base wl) wl vs n1 i (.str s u), oNext 3 (.base gl) gl gs n2 i (.int 1 gt)]
    (r.1, r.2.obs.map Prod.fst, pickD [1, 2, 3, 4, 5, 6, 7, 0] 8 r.2.st) = (.out (.pure (some (.ref (ad 4)))), r.2.obs.map Prod.snd,
      (it, fldO "zip" [rawInt (ad 4), .bool false, .bool false, .ref its, .ref ow]) :: (ow, tupObj [.str s u, .int 1 gt] 0) :: (its, tupObj [.ref wi, .ref gi] 0) :: (gi, itObj gl (i + 1)) :: (wi, itObj wl (i + 1)) :: (sp, so) :: (fa, fo) :: (ad 4, tupObj [.str s u, .int 1 gt] 0) :: T) := by
  cases mo <;> kernel_rfl
noncomputable def kEnd_hs : List Nat := [1, 1, 1, 1, 5, 1, 1, 1, 0, 9, 5, 2, 1]
theorem kEnd_run (w : World) (b c : Bool) (ad : Strm) (wl it ow its gi wi sp : Addr) (vs : List Value) (n1 : Nat) (i : Nat) (o o1 so : Obj) (T : Store) :
    let r := zrun (par w b c []) 18 (.out (zpyNext (.ref it))) ad kEnd_hs ((it, zipO its ow) :: (ow, o) :: (its, tupObj [.ref wi, .ref gi] 0) :: (gi, o1) :: (wi, itObj wl i) :: (sp, so) :: T) [] [1] [oEnd 4 (.base wl) wl vs n1 i]
    (r.1, r.2.obs.map Prod.fst, pickD [7] 8 r.2.st) = (.out (.pure none), r.2.obs.map Prod.snd, (sp, so) :: T) := by
  kernel_rfl
noncomputable def mk1 (mo : Option MoreT) (x : Tok) : Tok := match mo with
  | none => x
  | some q => q.k1
noncomputable def mk2 (mo : Option MoreT) (x : Tok) : Tok := match mo with
  | none => x
  | some q => q.k2
noncomputable def kAssign_hs : List Nat := [15, 15, 15, 15, 1, 1, 1, 1, 1, 17, 1, 0, 1, 1, 1, 1, 17, 1, 0, 1, 1, 1, 1, 17, 1, 0, 1, 19, 9, 19, 9]
theorem kAssign_run (w : World) (b c : Bool) (ad : Strm) (wl gl fa sp tp : Addr) (t1 t2 t3 t4 t5 : Tok) (row : Int) (rt : Tok) (ln : Str) (tl : Tok) (mo : Option MoreT) (s : Str) (u gt : Tok) (p0 p1 p2 p3 p4 p5 : Addr × Obj) (T : Store) :
    let r := zrun (par w b c []) 60 (.out (zassign (kT w) (kEnv w fa) (.ref tp))) ad kAssign_hs (p0 :: p1 :: p2 :: p3 :: p4 :: p5 :: (fa, toksFrm w wl gl sp t1 t2 t3 t4 t5 row rt ln tl mo) :: (tp, tupObj [.str s u, .int 1 gt] 0) :: T) [] [] []
    (r.1, r.2.obs.map Prod.fst, pickD [] 3 r.2.st) = (.out (.pure ()), r.2.obs.map Prod.snd,
      p0 :: p1 :: p2 :: p3 :: p4 :: p5 :: (fa, toksFrm w wl gl sp t1 t2 t3 t4 t5 row rt ln tl (some ⟨mk1 mo (ad 3), s, u, mk2 mo (ad 4), gt⟩)) :: (tp, tupObj [.str s u, .int 1 gt] 0) :: T) := by
  cases mo <;> cases b <;> kernel_rfl
noncomputable def kBody_hs : List Nat := [13, 13, 13, 6, 13, 11, 11, 11, 11, 13, 0, 0, 13, 15, 15, 15, 7]
theorem kBody_run (w : World) (b c : Bool) (ad : Strm) (wl gl fa sp : Addr) (t1 t2 t3 t4 t5 : Tok) (row : Int) (rt : Tok) (ln : Str) (tl : Tok) (q : MoreT) (sps : List Value) (n : Nat) (p0 p1 p2 p3 p4 p7 : Addr × Obj) (T : Store) :
    let r := zrun (par w b c []) 65 (.out (zexecs (kBody w) (kEnv w fa))) ad kBody_hs (p0 :: p1 :: p2 :: p3 :: p4 :: (sp, listObj sps n) :: (fa, toksFrm w wl gl sp t1 t2 t3 t4 t5 row rt ln tl (some q)) :: p7 :: T) [] [2, 0, 0, 0]
      [oCatS ln space, oLenS (ln ++ space), oApp 6 sps n, oCatS (ln ++ space) q.s]
    (r.1, r.2.obs.map Prod.fst, pickD [1, 2, 3, 4, 5, 6, 7, 0] 9 r.2.st) = (.out (.pure .next), r.2.obs.map Prod.snd,
      p0 :: p1 :: p2 :: p3 :: p4 :: (sp, listObj (sps ++ [.ref (ad 6)]) (n + 1)) :: (fa, toksFrm w wl gl sp t1 t2 t3 t4 t5 row rt (ln ++ space ++ q.s) (ad 9) (some q)) :: (ad 6, tupObj [.str q.s q.u, .int (ln ++ space).length (ad 4)] 0) :: T) := by
  cases b <;> kernel_rfl
end Mine
end

section
open PySem PySem.W PySem.W.X PySem.Calls PyProof.Rows
set_option maxHeartbeats 0
namespace Mine
section
variable {w : World} {A : Around} {L : Nat} {h₀ : Heap} {g : Array GenState} {d : Drawn} {os : OsState} {b c : Bool}
theorem let_owned {Q : Unit → Shared → Prop} {E : Value → Shared → Prop} {cls : String} (hc : cls = "zip" ∨ cls = "enumerate") {elts : List Expr} {x1 : Nat} {pos : Pos} {z a : Addr} {rest : List Value} {h : Heap} {st : Store} {tk j : Nat}
    (R : Rep h₀ h st) (e : nth st j = some (z, fldO cls (rawInt a :: rest))) (H : ∀ h', Rep h₀ h' (put st j (fldO cls (.none :: rest))) → Q () ⟨h', g, d, tk, os⟩) :
    wpAny (model prg w) A (letOwnedTupleGo (.Tuple elts x1 pos) (.ref z) (.ref a)) Q E ⟨h, g, d, tk, os⟩ := by
  have hz := nth_own R e
  unfold letOwnedTupleGo
  refine wpAny_bind (wpAny_load hz ?_)
  show wpAny _ _ (if (["enumerate", "zip", "dict_itemiterator", "dict_reverseitemiterator", "odict_iterator", "itertools.zip_longest", "itertools.pairwise"].contains cls &&
      (⟨rawInt a :: rest⟩ : Array Value)[0]? == some (rawInt a)) = true then _ else _) Q E _
  rw [if_pos (by rcases hc with rfl | rfl <;> simp)]
  refine wpAny_bind (wpAny_rule ?_)
  show wpAny _ _ (setField (.ref z) 0 .none) Q E _
  refine wpAny_setField hz rfl (by simp) (H _ ?_)
  exact R.update (f := Obj.mapFields fun x => x.setIfInBounds 0 .none) e rfl
noncomputable def SpotIn (T : Store) (v : Value) (s : Str) : Prop := ∃ a u p t, v = Value.ref a ∧ (a, tupObj [.str s u, .int p t] 0) ∈ T
theorem SpotIn.more {T T' : Store} {v : Value} {s : Str} (h : SpotIn T v s) (m : ∀ x ∈ T, x ∈ T') : SpotIn T' v s := by
  obtain ⟨a, u, p, t, e, h⟩ := h
  exact ⟨a, u, p, t, e, m _ h⟩
theorem all_short : ∀ s ∈ allL, s.length ≤ 3 := by
  intro s hs
  simp only [allL, wordsL, List.mem_cons, List.not_mem_nil, or_false] at hs
  rcases hs with rfl | rfl | rfl | rfl | rfl | rfl | rfl | rfl | rfl | rfl | rfl | rfl | rfl | rfl | rfl | rfl | rfl | rfl | rfl | rfl | rfl <;> decide
theorem toks_loop (W : Wd w b c) (hk : KT.Holds h₀ 1 0 (ktop w.params)) (hL : L ≤ 10) (hA : Lev L A) {R : Result → Shared → Prop} {wl gl fa it ow its gi wi sp : Addr} {t1 t2 t3 t4 t5 : Tok} {row : Int} {rt : Tok} {vs gs : List Value} {n1 n2 : Nat} {ws : List Str}
    (hwl : h₀.get? wl = some (listObj vs n1)) (hgl : h₀.get? gl = some (listObj gs n2)) (hvs : strsOf vs = ws) (hvl : vs.length = ws.length) (hws : ∀ s ∈ ws, s ∈ allL) (hlen : ws.length ≤ 13) (hgs : ∀ i < ws.length, ∃ t, gs[i]? = some (.int 1 t))
    (fin : ∀ h' tk' ln tl mo sps n T, Rep h₀ h' ((sp, listObj sps n) :: (fa, toksFrm w wl gl sp t1 t2 t3 t4 t5 row rt ln tl mo) :: T) → All2 (SpotIn T) sps ws → ln.length ≤ 4 * ws.length → (mo = none → ws.length = 0) → R (.ok .next) ⟨h', g, d, tk', os⟩)
    {h : Heap} {tk : Nat} {tl : Tok} (RR : Rep h₀ h (toksSt w wl gl fa it ow its gi wi sp t1 t2 t3 t4 t5 row rt ⟨#[]⟩ tl none 0 [] 0 [])) :
    codeAny (model prg w) A (toksLoop w fa it) R ⟨h, g, d, tk, os⟩ := by
  have K0 := kn_none (b := b) (c := c) hk
  have hz := sizeLine_eq
  rw [toks_code]
  refine codeAny_forLoop_any (fun n s => ∃ i h tk ln tl mo sps m T, s = ⟨h, g, d, tk, os⟩ ∧ n = ws.length - i ∧ i ≤ ws.length ∧ Rep h₀ h (toksSt w wl gl fa it ow its gi wi sp t1 t2 t3 t4 t5 row rt ln tl mo i sps m T) ∧ All2 (SpotIn T) sps (ws.take i) ∧ ln.length ≤ 4 * i ∧ (mo = none → i = 0))
    (fun n s hI => ?_) ws.length ⟨0, h, tk, ⟨#[]⟩, tl, none, [], 0, [], rfl, rfl, Nat.zero_le _, RR, .nil, Nat.zero_le _, fun _ => rfl⟩
  clear RR
  obtain ⟨i, h, tk, ln, tl, mo, sps, m, T, rfl, rfl, hi, RR, hsp, hln, hmo⟩ := hI
  rw [zpyNext_eq]
  cases hv : ws[i]? with
  | none =>
    have hil : i = ws.length := by have := List.getElem?_eq_none_iff.mp hv; omega
    have hv' : vs[i]? = none := List.getElem?_eq_none_iff.mpr (by omega)
    refine out_ms (by_runs W K0 hL hA (fun ad => kEnd_run w b c ad wl it ow its gi wi sp vs n1 i _ _ _ _) trivial rfl RR (ot_cons (oEnd_ok hwl hv') ot_nil) fun ad h' tk' R' => wpAny_pure ?_)
    have hall : ws.take i = ws := by rw [hil]; exact List.take_length
    rw [hall] at hsp
    exact wpAny_pure (fin h' tk' ln tl mo sps m T R' hsp (by omega) fun e => by have := hmo e; omega)
  | some s =>
    have hlt : i < ws.length := (List.getElem?_eq_some_iff.mp hv).1
    obtain ⟨u, hu⟩ := strsOf_get hvs hvl hv
    obtain ⟨gt, hgt⟩ := hgs i hlt
    have hsh := all_short s (hws s (List.mem_of_getElem? hv))
    have hspl : sps.length = i := by rw [hsp.len, List.length_take]; omega
    refine out_ms (by_runs W K0 hL hA (fun ad => kNext_run w b c ad wl gl fa it ow its gi wi sp vs gs n1 n2 mo i _ _ T s u gt) trivial rfl RR (ot_cons (oNext_ok hwl hu) (ot_cons (oNext_ok hgl hgt) ot_nil)) fun ad h1 tk1 R1 => wpAny_pure ?_)
    refine let_owned (j := 0) (.inl rfl) R1 rfl fun h2 R2 => ?_
    rw [zassign_eq]
    refine out_ms (by_runs W K0 hL hA (fun ad' => kAssign_run w b c ad' wl gl fa sp (ad 4) t1 t2 t3 t4 t5 row rt ln tl mo s u gt _ _ _ _ _ _ T) trivial rfl R2 ot_nil fun ad' h3 tk3 R3 => wpAny_pure ?_)
    rw [zexecs_eq]
    have hsp1 : (ln ++ space).length = ln.length + 1 := by rw [strLen_append]; rfl
    have hsp2 : (ln ++ space ++ s).length ≤ 4 * (i + 1) := by rw [strLen_append, hsp1]; omega
    have q1 : space.length = 1 := rfl
    refine out_ms (by_runs W K0 hL hA (fun ad'' => kBody_run w b c ad'' wl gl fa sp t1 t2 t3 t4 t5 row rt ln tl _ sps m _ _ _ _ _ _ T) trivial rfl R3
      (ot_cons (oCatS_ok (by omega)) (ot_cons (oLenS_ok (by omega)) (ot_cons (oApp_ok (by omega)) (ot_cons (oCatS_ok (by show (ln ++ space).length + s.length ≤ _; omega)) ot_nil)))) fun ad'' h4 tk4 R4 => wpAny_pure ?_)
    refine ⟨ws.length - (i + 1), by omega, i + 1, h4, tk4, ln ++ space ++ s, ad'' 9, some ⟨mk1 mo (ad' 3), s, u, mk2 mo (ad' 4), gt⟩, sps ++ [Value.ref (ad'' 6)], m + 1, (ad'' 6, tupObj [.str s u, .int (ln ++ space).length (ad'' 4)] 0) :: T, rfl, rfl, by omega, R4, ?_, hsp2, fun e => by cases e⟩
    rw [List.take_add_one, hv]
    exact (hsp.imp fun a b h => h.more fun x hx => .tail _ hx).snoc ⟨_, _, _, _, rfl, .head _⟩
end
end Mine
end

section
open PySem PySem.W PySem.W.X PySem.Calls PyProof.Rows
namespace Mine
noncomputable def eraseA (h : Heap) (a : Addr) : Heap := h.update a fun _ => { cls := .none, data := .freed }
theorem eraseA_self (h : Heap) (a : Addr) : (eraseA h a).get? a = none := by
  unfold eraseA Heap.update Heap.get?
  simp only [Array.getElem?_modify]
  cases h.objs[a]? <;> simp
theorem eraseA_other (h : Heap) {a b : Addr} (e : b ≠ a) : (eraseA h a).get? b = h.get? b := ((Heap.SameBut.update h a fun _ => { cls := .none, data := .freed }) : Heap.SameBut a h _).2 b e
noncomputable def eraseL (h : Heap) : Store → Heap
  | [] => h
  | p :: l => eraseA (eraseL h l) p.1
theorem eraseL_cons (h : Heap) (q : Addr × Obj) (l : Store) : eraseL h (q :: l) = eraseA (eraseL h l) q.1 := rfl
theorem eraseL_in (h : Heap) (st : Store) : ∀ {p : Addr × Obj}, p ∈ st → (eraseL h st).get? p.1 = none := by
  induction st with
  | nil => intro p hp; cases hp
  | cons q l ih =>
    intro p hp
    rw [eraseL_cons]
    by_cases e : p.1 = q.1
    · rw [e]; exact eraseA_self _ _
    · rw [eraseA_other _ e]
      rcases List.mem_cons.mp hp with hp | hp
      · exact absurd (congrArg Prod.fst hp) e
      · exact ih hp
theorem eraseL_out (h : Heap) {st : Store} : ∀ {b : Addr}, (∀ p ∈ st, p.1 ≠ b) → (eraseL h st).get? b = h.get? b := by
  induction st with
  | nil => intro b _; rfl
  | cons q l ih =>
    intro b hb
    rw [eraseL_cons, eraseA_other _ (fun e => hb q (.head _) e.symm)]
    exact ih fun p hp => hb p (.tail _ hp)
theorem eraseL_some {h : Heap} {st : Store} {b : Addr} {o : Obj} (e : (eraseL h st).get? b = some o) : h.get? b = some o ∧ ∀ p ∈ st, p.1 ≠ b := by
  have hn : ∀ p ∈ st, p.1 ≠ b := fun p hp q => by
    have := eraseL_in h st hp
    rw [q, e] at this
    cases this
  exact ⟨by rw [← eraseL_out h hn]; exact e, hn⟩
theorem Rep.rebase {h₀ h : Heap} {st T : Store} (R : Rep h₀ h (st ++ T)) : ∃ h₁, Rep h₁ h st ∧ (∀ b o, h₀.get? b = some o → h₁.get? b = some o) ∧ ∀ p ∈ T, h₁.get? p.1 = some p.2 := by
  have nd := R.nd
  rw [List.map_append, List.nodup_append] at nd
  refine ⟨eraseL h st, ⟨fun b o e => (eraseL_some e).1, fun p hp => ⟨(R.own p (List.mem_append_left _ hp)).1, eraseL_in h st hp⟩, nd.1⟩, fun b o e => ?_, fun p hp => ?_⟩
  · rw [eraseL_out h (fun p hp q => ?_)]
    · exact R.keep _ _ e
    · have := (R.own p (List.mem_append_left _ hp)).2
      rw [q, e] at this
      cases this
  · rw [eraseL_out h (fun q hq e => ?_)]
    · exact (R.own p (List.mem_append_right _ hp)).1
    · exact nd.2.2 _ (List.mem_map_of_mem hq) _ (List.mem_map_of_mem hp) e
end Mine
end

section
open PySem PySem.W PySem.W.X PySem.Calls PyProof.Rows
set_option maxHeartbeats 0
namespace Mine
noncomputable def tokO (dd : Addr) (xs : List Value) : Obj := { cls := .ref 155, dict := some dd, data := .seq ⟨xs⟩ 0 }
noncomputable def newline : Str := ⟨#[10]⟩
structure Spot where
  k : Tok
  p : Int
  t : Tok
noncomputable def toksFrm2 (w : World) (wl gl sp fd : Addr) (t1 t2 t3 t4 t5 t6 : Tok) (row : Int) (rt : Tok) (ln : Str) (tl : Tok) (q : MoreT) (x : Option Spot) : Obj := match x with
  | none => frm [ent w "words" t1 (.ref wl), ent w "gaps" t2 (.ref gl), ent w "row" t3 (.int row rt), ent w "spots" t4 (.ref sp), ent w "line" t5 (.str ln tl), ent w "word" q.k1 (.str q.s q.u), ent w "gap" q.k2 (.int 1 q.g), ent w "found" t6 (.ref fd)] 8
  | some y => frm [ent w "words" t1 (.ref wl), ent w "gaps" t2 (.ref gl), ent w "row" t3 (.int row rt), ent w "spots" t4 (.ref sp), ent w "line" t5 (.str ln tl), ent w "word" q.k1 (.str q.s q.u), ent w "gap" q.k2 (.int 1 q.g), ent w "found" t6 (.ref fd), ent w "spot" y.k (.int y.p y.t)] 9
noncomputable def toksB (w : World) (b c : Bool) (ad : Strm) (wl gl fa it sp : Addr) (t1 t2 t3 t4 t5 : Tok) (row : Int) (rt : Tok) (ln : Str) (tl : Tok) (q : MoreT) (sps : List Value) (n : Nat) : Md Result × St :=
  zrun (par w b c [(sp, listObj sps n)]) 23 (contOf (.ok .next) (toksAMd w fa it)) ad [3, 1, 3, 2, 2, 2, 1] [(fa, toksFrm w wl gl sp t1 t2 t3 t4 t5 row rt ln tl (some q))] [] [] []
noncomputable def toksBMd (w : World) (fa it i2 fd : Addr) : Md Result := (toksB w true true (ad3 fd 0 i2) 0 0 fa it 0 0 0 0 0 0 0 0 ⟨#[]⟩ 0 ⟨0, ⟨#[]⟩, 0, 0, 0⟩ [] 0).1
theorem toksB_run (w : World) (b c : Bool) (ad : Strm) (wl gl fa it sp : Addr) (t1 t2 t3 t4 t5 : Tok) (row : Int) (rt : Tok) (ln : Str) (tl : Tok) (q : MoreT) (sps : List Value) (n : Nat) :
    let r := toksB w b c ad wl gl fa it sp t1 t2 t3 t4 t5 row rt ln tl q sps n
    (r.1, r.2.obs.map Prod.fst, pickD [] 0 r.2.st) = (toksBMd w fa it (ad 2) (ad 0), r.2.obs.map Prod.snd,
      [(ad 2, itObj sp 0), (ad 0, listObj [] 0), (fa, toksFrm2 w wl gl sp (ad 0) t1 t2 t3 t4 t5 (ad 1) row rt ln tl q none)]) := by
  cases b <;> kernel_rfl
theorem toksB_call (w : World) (fa it i2 fd : Addr) : (isCall (toksBMd w fa it i2 fd) && okMd (toksBMd w fa it i2 fd)) = true := by kernel_rfl
noncomputable def toksLoop2 (w : World) (fa it i2 : Addr) : Code := codeOf (toksBMd w fa it i2 0)
theorem toksB_code (w : World) (fa it i2 fd : Addr) : codeOf (toksBMd w fa it i2 fd) = toksLoop2 w fa it i2 := by kernel_rfl
noncomputable def toksMd2 (w : World) (fa it i2 : Addr) : Md Result := .inn (toksLoop2 w fa it i2) (.top Sem.pure) (zden (toksLoop2 w fa it i2))
theorem go_toks2 (w : World) (b c : Bool) (ad : Strm) (fa it i2 : Addr) (st : Store) :
    let r := zrun (par w b c []) 1 (goCall (toksLoop2 w fa it i2)) ad [] st [] [] []
    (r.1, r.2.obs.map Prod.fst, pickD [] 0 r.2.st) = (toksMd2 w fa it i2, r.2.obs.map Prod.snd, st) := by kernel_rfl
noncomputable def toksU_hs : List Nat := [1, 1, 4, 4, 4, 4, 1, 1, 1, 1, 1, 4, 1, 0, 1, 1, 1, 1, 4, 1, 0, 1, 1, 1, 1, 4, 1, 0, 1, 11, 5, 11, 5, 11, 9, 9, 9, 9, 0, 0, 11, 0, 11, 11, 11, 13, 13, 0, 0, 13, 15, 0, 0, 0, 0, 0, 0, 0, 0, 0, 0, 0, 0, 0, 0, 0, 0, 0, 0, 0, 0, 0, 0, 1, 0, 1, 0, 1, 0, 1, 0, 1, 0, 1, 0, 0, 0, 0, 1, 1, 1, 1, 1, 1, 0, 0, 0, 0, 0, 0, 0, 0, 0, 0, 0, 0, 0, 0, 0, 1, 0, 1, 0, 1, 0, 0, 0, 1, 0, 1, 0, 0, 0, 0, 0]
noncomputable def spotK (x : Option Spot) (k : Tok) : Tok := match x with
  | none => k
  | some y => y.k
theorem toksU_run (w : World) (b c : Bool) (ad : Strm) (wl gl fa it sp i2 fd ta : Addr) (t1 t2 t3 t4 t5 t6 : Tok) (row : Int) (rt : Tok) (ln : Str) (tl : Tok) (q : MoreT) (x : Option Spot) (sps fs : List Value) (n m i : Nat) (s : Str) (u pt : Tok) (p k : Int) (kt : Tok) (T : Store) :
    let r := zrun (par w b c [(sp, listObj sps n), (ta, tupObj [.str s u, .int p pt] 0)]) 252 (toksMd2 w fa it i2) ad toksU_hs ((i2, itObj sp i) :: (fd, listObj fs m) :: (fa, toksFrm2 w wl gl sp fd t1 t2 t3 t4 t5 t6 row rt ln tl q x) :: T) [] [0, 4, 0, 1, 6, 1]
      [oNext 0 (.base sp) sp sps n i (.ref ta), oKind s k kt, oLenS s, oCatS ln newline, oColl 0, oApp 11 fs m]
    (r.1, r.2.obs.map Prod.fst, pickD [10, 11, 12, 0, 5, 6] 13 r.2.st) = (toksMd2 w fa it i2, r.2.obs.map Prod.snd,
      (i2, itObj sp (i + 1)) :: (fd, listObj (fs ++ [.ref (ad 31)]) (m + 1)) :: (fa, toksFrm2 w wl gl sp fd t1 t2 t3 t4 t5 t6 row rt ln tl ⟨q.k1, s, u, q.k2, q.g⟩ (some ⟨spotK x (ad 6), p, pt⟩)) ::
        (ad 31, tokO (ad 30) [.int k kt, .str s u, .ref (ad 9), .ref (ad 13), .str (ln ++ newline) (ad 15)]) :: (ad 13, tupObj [.int row rt, .int (p + s.length) (ad 12)] 0) :: (ad 9, tupObj [.int row rt, .int p pt] 0) :: T) := by
  cases x <;> cases b <;> kernel_rfl
theorem toksU_end (w : World) (b c : Bool) (ad : Strm) (fa it sp i2 : Addr) (sps : List Value) (n i : Nat) (T : Store) :
    let r := zrun (par w b c []) 6 (toksMd2 w fa it i2) ad [1, 1] ((i2, itObj sp i) :: T) [] [0] [oEnd 0 (.base sp) sp sps n i]
    (r.1, r.2.obs.map Prod.fst, pickD [] 3 r.2.st) = (.out (.pure (.ok .next)), r.2.obs.map Prod.snd, T) := by
  kernel_rfl
theorem toksR_run (w : World) (b c : Bool) (ad : Strm) (wl gl fa it sp i2 fd : Addr) (t1 t2 t3 t4 t5 t6 : Tok) (row : Int) (rt : Tok) (ln : Str) (tl : Tok) (q : MoreT) (x : Option Spot) (fo : Obj) (T : Store) :
    let r := zrun (par w b c []) 4 (contOf (.ok .next) (toksBMd w fa it i2 fd)) ad [3] ((fd, fo) :: (fa, toksFrm2 w wl gl sp fd t1 t2 t3 t4 t5 t6 row rt ln tl q x) :: T) [] [] []
    (r.1, r.2.obs.map Prod.fst, pickD [0] 2 r.2.st) = (.out (.pure (.ok (.ret (.ref fd)))), r.2.obs.map Prod.snd, (fd, fo) :: T) := by
  cases x <;> kernel_rfl
end Mine
end

section
open PySem PySem.W PySem.W.X PySem.Calls PyProof.Rows
set_option maxHeartbeats 0
namespace Mine
theorem Rep.base {h₀ h₁ h : Heap} {st : Store} (k : ∀ b o, h₀.get? b = some o → h₁.get? b = some o) (R : Rep h₁ h st) : Rep h₀ h st := by
  refine ⟨fun b o e => R.keep _ _ (k _ _ e), fun p hp => ⟨(R.own p hp).1, ?_⟩, R.nd⟩
  cases q : h₀.get? p.1 with
  | none => rfl
  | some o => have := k _ _ q; rw [(R.own p hp).2] at this; cases this
noncomputable def TokIn (T : Store) (row : Int) (v : Value) (s : Str) : Prop :=
  ∃ a dd u sa ea lt lk q qt rt, v = Value.ref a ∧ (a, tokO dd [.int (kindV s).1 (kindV s).2, .str s u, .ref sa, .ref ea, .str lt lk]) ∈ T ∧ (ea, tupObj [.int row rt, .int q qt] 0) ∈ T
theorem TokIn.more {T T' : Store} {row : Int} {v : Value} {s : Str} (h : TokIn T row v s) (m : ∀ x ∈ T, x ∈ T') : TokIn T' row v s := by
  obtain ⟨a, dd, u, sa, ea, lt, lk, q, qt, rt, e, h1, h2⟩ := h
  exact ⟨a, dd, u, sa, ea, lt, lk, q, qt, rt, e, m _ h1, m _ h2⟩
section
variable {w : World} {A : Around} {Q : Result → Shared → Prop} {E : Value → Shared → Prop} {Pe : End → Shared → Prop}
variable {L : Nat} {h₁ : Heap} {g : Array GenState} {d : Drawn} {os : OsState} {b c : Bool}
theorem toks2_loop (W : Wd w b c) (hk : KT.Holds h₁ 1 0 (ktop w.params)) (hL : L ≤ 9) (hA : Lev L A) {wl gl fa it sp i2 fd : Addr} {t1 t2 t3 t4 t5 t6 : Tok} {row : Int} {rt : Tok} {ln : Str} {tl : Tok} {sps : List Value} {n : Nat} {ws : List Str} {T : Store}
    (hsp : h₁.get? sp = some (listObj sps n)) (hT : ∀ p ∈ T, h₁.get? p.1 = some p.2) (hs : All2 (SpotIn T) sps ws) (hws : ∀ s ∈ ws, s ∈ allL) (hlen : ws.length ≤ 13) (hln : ln.length ≤ 52)
    (fin : ∀ h' tk' q x fs m T2, Rep h₁ h' ((fd, listObj fs m) :: (fa, toksFrm2 w wl gl sp fd t1 t2 t3 t4 t5 t6 row rt ln tl q x) :: T2) → All2 (TokIn T2 row) fs ws → Q (.ok .next) ⟨h', g, d, tk', os⟩) :
    ∀ (left i : Nat) (h : Heap) (tk : Nat) (q : MoreT) (x : Option Spot) (fs : List Value) (m : Nat) (T2 : Store), left + i = ws.length →
      Rep h₁ h ((i2, itObj sp i) :: (fd, listObj fs m) :: (fa, toksFrm2 w wl gl sp fd t1 t2 t3 t4 t5 t6 row rt ln tl q x) :: T2) → All2 (TokIn T2 row) fs (ws.take i) → Ms prg w A Q E Pe (toksMd2 w fa it i2) ⟨h, g, d, tk, os⟩ := by
  intro left
  have hz := sizeLine_eq
  have hsl := hs.len
  induction left with
  | zero =>
    intro i h tk q x fs m T2 hi R hf
    have hv : sps[i]? = none := List.getElem?_eq_none_iff.mpr (by omega)
    refine by_runs W (kn_none hk) (by omega) hA (fun ad => toksU_end w b c ad fa it sp i2 sps n i _) trivial rfl R (ot_cons (oEnd_ok hsp hv) ot_nil) fun ad h' tk' R' => wpAny_pure ?_
    have hall : ws.take i = ws := by rw [show i = ws.length by omega]; exact List.take_length
    rw [hall] at hf
    exact fin h' tk' q x fs m T2 R' hf
  | succ left ih =>
    intro i h tk q x fs m T2 hi R hf
    have hlt : i < sps.length := by omega
    have hv : sps[i]? = some sps[i] := List.getElem?_eq_getElem hlt
    obtain ⟨s, hs', F⟩ := hs.get hv
    obtain ⟨ta, u, p, pt, e, hm⟩ := F
    rw [e] at hv
    have g1 := hT _ hm
    have hsa := hws s (List.mem_of_getElem? hs')
    have hsh := all_short s hsa
    have hfl : fs.length = i := by rw [hf.len, List.length_take]; omega
    have K : Kn (par w b c [(sp, listObj sps n), (ta, tupObj [.str s u, .int p pt] 0)]) h₁ := kn_of hk (by
      intro r hr
      rcases List.mem_cons.mp hr with e | hr
      · subst e; exact hsp
      · rw [List.mem_singleton] at hr; subst hr; exact g1)
    have q1 : newline.length = 1 := rfl
    refine by_runs W K (by omega) hA (fun ad => toksU_run w b c ad wl gl fa it sp i2 fd ta t1 t2 t3 t4 t5 t6 row rt ln tl q x sps fs n m i s u pt p (kindV s).1 (kindV s).2 T2) trivial rfl R
      (ot_cons (oNext_ok hsp hv) (ot_cons (oKind_ok W hk hL hsa) (ot_cons (oLenS_ok (by omega)) (ot_cons (oCatS_ok (by omega)) (ot_cons oColl_ok (ot_cons (oApp_ok (by omega)) ot_nil)))))) fun ad h' tk' R' => ?_
    refine ih (i + 1) h' tk' _ _ (fs ++ [Value.ref (ad 31)]) (m + 1) _ (by omega) R' ?_
    rw [List.take_add_one, hs']
    exact (hf.imp fun a b h => h.more fun x hx => .tail _ (.tail _ (.tail _ hx))).snoc ⟨_, _, _, _, _, _, _, _, _, _, rfl, .head _, .tail _ (.head _)⟩
theorem toks_fn {h₀ : Heap} (W : Wd w b c) (hk : KT.Holds h₀ 1 0 (ktop w.params)) (hL : L ≤ 8) (hA : Lev L A) {wl gl : Addr} {row : Int} {rt : Tok} {vs gs : List Value} {n1 n2 : Nat} {ws : List Str} {tk : Nat}
    (hwl : h₀.get? wl = some (listObj vs n1)) (hgl : h₀.get? gl = some (listObj gs n2)) (hvs : strsOf vs = ws) (hvl : vs.length = ws.length) (hws : ∀ s ∈ ws, s ∈ allL) (hlen : ws.length ≤ 13) (hpos : 0 < ws.length) (hgs : ∀ i < ws.length, ∃ t, gs[i]? = some (.int 1 t))
    (fin : ∀ h' tk' T fd fs m, Rep h₀ h' ((fd, listObj fs m) :: T) → All2 (TokIn T row) fs ws → Q (.ok (.ret (.ref fd))) ⟨h', g, d, tk', os⟩) :
    Ms prg w A Q E Pe (goCall (.call (.ref 236) ⟨[.ref wl, .ref gl, .int row rt], []⟩)) ⟨h₀, g, d, tk, os⟩ := by
  have K : Kn (par w b c [(wl, listObj vs n1), (gl, listObj gs n2)]) h₀ := kn_of hk (by
    intro r hr
    rcases List.mem_cons.mp hr with e | hr
    · subst e; exact hwl
    · rw [List.mem_singleton] at hr; subst hr; exact hgl)
  refine by_runs W K (by omega) hA (fun ad => toksA_run w b c ad wl gl vs gs n1 n2 row rt) trivial rfl (Rep.self h₀) ot_nil fun ad h1 tk1 R1 => ?_
  have ca := Bool.and_eq_true_iff.mp (toksA_call w (ad 0) (ad 16))
  refine ms_call (by omega) hA (md := toksAMd w _ _) (md_ok ca.2) ca.1 fun A1 hA1 => ?_
  refine x_call (toks_loop W hk (by omega) hA1.mark hwl hgl hvs hvl hws hlen hgs (fun h2 tk2 ln tl mo sps n T R2 hs hln hmo => wpAny_pure ?_) R1) (by intro e; cases e)
  cases mo with
  | none => have := hmo rfl; omega
  | some q =>
    have R2' : Rep h₀ h2 ([(ad 0, toksFrm w wl gl (ad 5) (ad 1) (ad 2) (ad 3) (ad 10) (ad 11) row rt ln tl (some q))] ++ ((ad 5, listObj sps n) :: T)) := R2.pick (ks := [1, 0]) (k := 2) rfl
    obtain ⟨h₁, R3, k3, f3⟩ := R2'.rebase
    have hk3 := hk.keeps k3
    have hsp := f3 _ (.head _)
    have K3 : Kn (par w b c [(ad 5, listObj sps n)]) h₁ := kn_of hk3 (by intro r hr; rw [List.mem_singleton] at hr; subst hr; exact hsp)
    refine by_runs W K3 (by omega) hA (fun ad' => toksB_run w b c ad' wl gl (ad 0) (ad 16) (ad 5) (ad 1) (ad 2) (ad 3) (ad 10) (ad 11) row rt ln tl q sps n) (cont_ok (md_ok ca.2)) rfl R3 ot_nil fun ad' h4 tk4 R4 => ?_
    have cb := Bool.and_eq_true_iff.mp (toksB_call w (ad 0) (ad 16) (ad' 2) (ad' 0))
    refine ms_call (by omega) hA (md := toksBMd w _ _ _ _) (md_ok cb.2) cb.1 fun A2 hA2 => out_ms ?_
    rw [toksB_code]
    refine by_runs (ro := []) W (kn_none hk3) (by omega) hA2 (fun ad'' => go_toks2 w b c ad'' (ad 0) (ad 16) (ad' 2) _) trivial rfl R4 ot_nil fun _ h5 tk5 R5 => ?_
    refine toks2_loop W hk3 (by omega) hA2 hsp (fun p hp => f3 p (.tail _ hp)) hs hws hlen (by omega) (fun h6 tk6 q' x' fs m T2 R6 hf => ?_) ws.length 0 h5 tk5 q none [] 0 [] (by omega) R5 .nil
    refine by_runs (ro := []) W (kn_none hk3) (by omega) hA (fun ad'' => toksR_run w b c ad'' wl gl (ad 0) (ad 16) (ad 5) (ad' 2) (ad' 0) (ad 1) (ad 2) (ad 3) (ad 10) (ad 11) (ad' 1) row rt ln tl q' x' _ T2) (cont_ok (md_ok cb.2)) rfl R6 ot_nil fun ad'' h7 tk7 R7 => wpAny_pure ?_
    exact fin h7 tk7 T2 (ad' 0) fs m (R7.base k3) hf
end
end Mine
end

section
open PySem PySem.W PySem.W.X PySem.Calls PyProof.Rows
namespace Mine
noncomputable def oRep (j : Nat) (x : Int) : Orc := ⟨.builtin "list.__mul__", false, fun args st => match args with
  | [.ref a, .int y _] => match nth st j with
    | some p => match p.2.data with
      | .seq xs n => match xs.toList with
        | [v] => some { look := [(.o (some p), .o (some (a, listObj xs.toList n))), (.i y, .i x)], res := fun t _ => .ok (.ret (.ref t)), upd := fun t _ st => (t, listObj (List.replicate x.toNat v) 0) :: st }
        | _ => none
      | _ => none
    | none => none
  | _ => none⟩
noncomputable def oCat2 (x : Src) (xs : List Value) (n : Nat) (j : Nat) : Orc := ⟨.builtin "list.__add__", false, fun args st => match args with
  | [.ref a, .ref b] => match nth st j with
    | some p => match p.2.data with
      | .seq ys m => some { look := [x.look a (listObj xs n) st, (.o (some p), .o (some (b, listObj ys.toList m))), (.v (.bool (Nat.ble ys.toList.length 5)), .v (.bool true))], res := fun t _ => .ok (.ret (.ref t)), upd := fun t _ st => (t, listObj (xs ++ ys.toList) 0) :: st }
      | _ => none
    | none => none
  | _ => none⟩
theorem fold_rep (v : Value) : ∀ (k : Nat) (acc : Array Value), List.foldl (fun x1 x2 => x1 ++ x2) acc (List.replicate k #[v]) = acc ++ (⟨List.replicate k v⟩ : Array Value)
  | 0, acc => by simp
  | k + 1, acc => by
    rw [List.replicate_succ, List.foldl_cons, fold_rep v k]
    apply Array.ext'
    rw [Array.toList_append, Array.toList_append, Array.toList_append]
    show acc.toList ++ [v] ++ List.replicate k v = acc.toList ++ List.replicate (k + 1) v
    rw [List.replicate_succ, List.append_assoc]
    rfl
section
variable {prog : Program} {w : World} {A : Around} {L : Nat} {h₀ : Heap} {g : Array GenState} {d : Drawn} {os : OsState}
theorem oCat2_ok {x : Src} {xs : List Value} {n j : Nat} (hx : x.ok h₀ (listObj xs n)) (e : xs.length + 5 ≤ sizeLine) : OrcOk L prog w h₀ g d os (oCat2 x xs n j) := by
  intro A' args r st h tk hA R hr hl
  unfold oCat2 at hr
  dsimp only at hr
  split at hr
  · rename_i a b
    split at hr
    · rename_i p hp
      split at hr
      · rename_i ys m hd
        cases hr
        have hg := Src.get R hx (hl _ (.head _))
        have e1 : some p = some (b, listObj ys.toList m) := OV.o.inj (hl _ (.tail _ (.head _)))
        have e2 : Nat.ble ys.toList.length 5 = true := Value.bool.inj (OV.v.inj (hl _ (.tail _ (.tail _ (.head _)))))
        have e3 : ys.size ≤ 5 := Nat.le_of_ble_eq_true e2
        have hg' := nth_own R (hp.trans e1)
        refine orc_call (call_meets (s := ⟨h, g, d, tk, os⟩) F.slot_list_add ⟨_, hg, rfl⟩ F.entry_list_add (F.args_list_add_2 _ _) (AutoSeq1.list___add___list_list_0 a ⟨xs⟩ n b ys m (by show xs.length + ys.size ≤ _; omega)) ⟨hg, hg', ?_⟩)
        refine ⟨h.objs.size, 0, _, tk, rfl, rfl, ?_⟩
        have := R.alloc (o := listObj (xs ++ ys.toList) 0) rfl
        have e2 : listObj (xs ++ ys.toList) 0 = { cls := .type "list", data := .seq ((⟨xs⟩ : Array Value) ++ ys) } := by
          unfold listObj
          congr 2
          apply Array.ext'
          rw [Array.toList_append]
        rw [e2] at this
        dsimp only
        rw [e2]
        exact this
      · cases hr
    · cases hr
  · cases hr
theorem oRep_ok {j : Nat} {x : Int} (h0 : 0 ≤ x) (h1 : x ≤ 1000) : OrcOk L prog w h₀ g d os (oRep j x) := by
  intro A' args r st h tk hA R hr hl
  unfold oRep at hr
  dsimp only at hr
  split at hr
  · rename_i a y u
    split at hr
    · rename_i p hp
      split at hr
      · rename_i xs n hd
        split at hr
        · rename_i v hx
          cases hr
          have e1 : some p = some (a, listObj xs.toList n) := OV.o.inj (hl _ (.head _))
          have e2 : y = x := OV.i.inj (hl _ (.tail _ (.head _)))
          subst e2
          have hg := nth_own R (hp.trans e1)
          have hz := sizeLine_eq
          have hxs : xs = #[v] := by
            obtain ⟨l⟩ := xs
            have : l = [v] := hx
            rw [this]
          subst hxs
          refine orc_call (call_meets (s := ⟨h, g, d, tk, os⟩) F.slot_list_mul ⟨_, hg, rfl⟩ F.entry_list_mul (F.args_list_mul_2 _ _) (AutoListH.list___mul___list_int_3 a #[v] n y u ?_ ?_ ?_) ⟨hg, ?_⟩)
          · unfold Builtin.List.listFitsIndex; simp; omega
          · simp; omega
          · unfold Builtin.List.listTooLong; simp; omega
          · have r1 := R.alloc (o := listObj (List.replicate y.toNat v) 0) rfl
            have e9 : listObj (List.replicate y.toNat v) 0 = { cls := Value.type "list", data := Data.seq (List.foldl (fun x1 x2 => x1 ++ x2) #[] (List.replicate (if (#[v] : Array Value).isEmpty = true then 0 else y.toNat) #[v])) } := by
              rw [if_neg (by simp), fold_rep]
              unfold listObj
              simp
            rw [e9] at r1
            refine ⟨h.objs.size, 0, _, tk, rfl, rfl, ?_⟩
            dsimp only
            rw [e9]
            exact r1
        · cases hr
      · cases hr
    · cases hr
  · cases hr
end
end Mine
end

section
open PySem PySem.W PySem.W.X PySem.Calls PyProof.Rows
set_option maxHeartbeats 0
namespace Mine
noncomputable def remL (hr : Bool) (t : Tok) : List Value := match hr with
  | true => [.str remark t]
  | false => []
noncomputable def lineFrm (w : World) (wl : Addr) (t1 t2 t3 : Tok) (row : Int) (rt : Tok) (hr : Bool) : Obj := frm [ent w "words" t1 (.ref wl), ent w "row" t2 (.int row rt), ent w "has_remark" t3 (.bool hr)] 3
noncomputable def lineA_hs : List Nat := [0, 0, 1, 0, 1, 0, 1, 0, 0, 0, 1, 1, 2, 1, 2, 0, 0, 7, 1, 1, 1, 9, 0]
noncomputable def sh (hr : Bool) (n : Nat) : Nat := match hr with
  | true => n + 1
  | false => n
noncomputable def lineA (w : World) (b c : Bool) (ad : Strm) (wl : Addr) (vs : List Value) (n : Nat) (row : Int) (rt : Tok) (hr : Bool) (k : Int) : Md Result × St :=
  zrun (par w b c [(wl, listObj vs n)]) (sh hr 67) (goCall (.call (.ref 248) ⟨[.ref wl, .int row rt, .bool hr], []⟩)) ad lineA_hs [] [] [1, 0, 2] [oCat2 (.base wl) vs n 0, oLen (.base wl) vs n, oRep 0 k]
noncomputable def ad5 (fa : Addr) (i : Nat) (x : Addr) (j : Nat) (y : Addr) : Strm := fun n => bif Nat.beq n i then x else bif Nat.beq n j then y else fa
noncomputable def lineAMd (w : World) (fa x y : Addr) (row : Int) (rt : Tok) (hr : Bool) : Md Result := (lineA w true true (ad5 fa (sh hr 5) x (sh hr 13) y) 0 [] 0 row rt hr 1).1
theorem lineA_run (w : World) (b c : Bool) (ad : Strm) (wl : Addr) (vs : List Value) (n : Nat) (row : Int) (rt : Tok) (hr : Bool) :
    let r := lineA w b c ad wl vs n row rt hr (vs.length + 1)
    (r.1, r.2.obs.map Prod.fst, pickD [4, 0, 2] 5 r.2.st) = (lineAMd w (ad 0) (ad (sh hr 5)) (ad (sh hr 13)) row rt hr, r.2.obs.map Prod.snd,
      [(ad 0, lineFrm w wl (ad 1) (ad 2) (ad 3) row rt hr), (ad (sh hr 13), listObj (List.replicate ((vs.length : Int) + 1).toNat (.int 1 (ad (sh hr 7)))) 0), (ad (sh hr 5), listObj (vs ++ remL hr (ad 4)) 0)]) := by
  cases hr <;> kernel_rfl
theorem lineA_call (w : World) (fa x y : Addr) (row : Int) (rt : Tok) (hr : Bool) : (isCall (lineAMd w fa x y row rt hr) && okMd (lineAMd w fa x y row rt hr), codeOf (lineAMd w fa x y row rt hr)) = (true, .call (.ref 236) ⟨[.ref x, .ref y, .int row rt], []⟩) := by
  cases hr <;> kernel_rfl
noncomputable def lineB_hs : List Nat := [1, 0, 1, 2, 2, 2, 4, 0, 0, 0, 4, 0, 4, 0, 0, 0, 4, 0, 4, 1, 0, 1, 0, 0, 0, 0, 0, 0, 0, 0, 0, 1, 1, 1, 6, 6, 6, 6, 6, 3, 2, 2, 2, 4, 0, 0, 0, 4, 0, 4, 0, 0, 0, 4, 0, 4, 0, 0, 0, 0, 0, 0, 0, 0, 0, 0, 0, 0, 0, 0, 0, 0, 0, 0, 0, 0, 0, 0, 1, 0, 1, 0, 1, 0, 1, 0, 1, 0, 1, 0, 0, 0, 0, 1, 1, 1, 1, 1, 1, 0, 0, 0, 0, 0, 0, 0, 0, 0, 0, 0, 0, 0, 0, 0, 1, 0, 1, 0, 1, 0, 0, 0, 1, 0, 1, 0, 0, 0, 0, 0, 2, 1, 2]
theorem lineB_run (w : World) (b c : Bool) (ad : Strm) (wl fa x y fd ta dd sa ea : Addr) (t1 t2 t3 : Tok) (row : Int) (rt rt' : Tok) (hr : Bool) (fs : List Value) (m : Nat) (k : Int) (kt : Tok) (s : Str) (u : Tok) (lt : Str) (lk : Tok) (q : Int) (qt : Tok) (T : Store) :
    let r := zrun (par w b c [(fd, listObj fs m), (ta, tokO dd [.int k kt, .str s u, .ref sa, .ref ea, .str lt lk]), (ea, tupObj [.int row rt', .int q qt] 0)]) 268 (contOf (.ok (.ret (.ref fd))) (lineAMd w fa x y row rt hr)) ad lineB_hs ((fa, lineFrm w wl t1 t2 t3 row rt hr) :: T) [] [1, 6, 8, 1]
      [oGet (.base fd) fs m (-1) (.ref ta), oGet (.base fd) fs m (-1) (.ref ta), oColl 0, oCat2 (.base fd) fs m 0]
    (r.1, r.2.obs.map Prod.fst, pickD [0, 2] 9 r.2.st) = (.out (.pure (.ok (.ret (.ref (ad 34))))), r.2.obs.map Prod.snd,
      (ad 34, listObj (fs ++ [.ref (ad 32)]) 0) :: (ad 32, tokO (ad 31) [.int 62 285, .str newline (ad 8), .ref ea, .ref (ad 12), .str lt lk]) :: T) := by
  cases hr <;> cases b <;> kernel_rfl
end Mine
end

section
open PySem PySem.W PySem.W.X PySem.Calls PyProof.Rows
set_option maxHeartbeats 0
namespace Mine
theorem Rep.swap {h₀ h : Heap} {S T : Store} (R : Rep h₀ h (S ++ T)) : Rep h₀ h (T ++ S) := by
  refine ⟨R.keep, fun p hp => R.own p ?_, ?_⟩
  · rcases List.mem_append.mp hp with q | q
    · exact List.mem_append_right _ q
    · exact List.mem_append_left _ q
  · have nd := R.nd
    rw [List.map_append, List.nodup_append] at nd ⊢
    exact ⟨nd.2.1, nd.1, fun a ha b hb e => nd.2.2 b hb a ha e.symm⟩
theorem Rep.join {h₀ h₁ h h' : Heap} {st T st' : Store} (R : Rep h₀ h (st ++ T)) (k : ∀ b o, h₀.get? b = some o → h₁.get? b = some o) (f : ∀ p ∈ T, h₁.get? p.1 = some p.2) (R' : Rep h₁ h' st') : Rep h₀ h' (st' ++ T) := by
  have RB := R'.base k
  have nd := R.nd
  rw [List.map_append, List.nodup_append] at nd
  refine ⟨RB.keep, fun p hp => ?_, ?_⟩
  · rcases List.mem_append.mp hp with q | q
    · exact RB.own p q
    · exact ⟨R'.keep _ _ (f p q), (R.own p (List.mem_append_right _ q)).2⟩
  · rw [List.map_append, List.nodup_append]
    refine ⟨R'.nd, nd.2.1, fun a ha b hb e => ?_⟩
    obtain ⟨p, hp, rfl⟩ := List.mem_map.mp ha
    obtain ⟨q, hq, rfl⟩ := List.mem_map.mp hb
    have := (R'.own p hp).2
    rw [e, f q hq] at this
    cases this
noncomputable def NlIn (T : Store) (v : Value) : Prop := ∃ a dd u sa ea lt lk, v = Value.ref a ∧ (a, tokO dd [.int 62 285, .str newline u, .ref sa, .ref ea, .str lt lk]) ∈ T
theorem NlIn.more {T T' : Store} {v : Value} (h : NlIn T v) (m : ∀ x ∈ T, x ∈ T') : NlIn T' v := by
  obtain ⟨a, dd, u, sa, ea, lt, lk, e, h⟩ := h
  exact ⟨a, dd, u, sa, ea, lt, lk, e, m _ h⟩
noncomputable def lineWords (ws : List Str) (hr : Bool) : List Str := ws ++ (match hr with
  | true => [remark]
  | false => [])
section
variable {w : World} {A : Around} {Q : Result → Shared → Prop} {E : Value → Shared → Prop} {Pe : End → Shared → Prop}
variable {L : Nat} {h₀ : Heap} {g : Array GenState} {d : Drawn} {os : OsState} {b c : Bool}
theorem strsOf_rem {vs : List Value} {ws : List Str} (hvs : strsOf vs = ws) (hvl : vs.length = ws.length) (hr : Bool) (t : Tok) : strsOf (vs ++ remL hr t) = lineWords ws hr ∧ (vs ++ remL hr t).length = (lineWords ws hr).length := by
  cases hr with
  | true => exact ⟨strsOf_app hvs hvl, by simp [remL, lineWords, hvl]⟩
  | false => simp [remL, lineWords, hvs, hvl]
theorem line_fn (W : Wd w b c) (hk : KT.Holds h₀ 1 0 (ktop w.params)) (hL : L ≤ 7) (hA : Lev L A) {wl : Addr} {row : Int} {rt : Tok} {hr : Bool} {vs : List Value} {n : Nat} {ws : List Str} {tk : Nat}
    (hwl : h₀.get? wl = some (listObj vs n)) (hvs : strsOf vs = ws) (hvl : vs.length = ws.length) (hws : ∀ s ∈ ws, s ∈ wordsL) (hlen : ws.length ≤ 12) (hpos : 0 < ws.length)
    (fin : ∀ h' tk' T la fs nl m, Rep h₀ h' ((la, listObj (fs ++ [nl]) m) :: T) → All2 (TokIn T row) fs (lineWords ws hr) → NlIn T nl → Q (.ok (.ret (.ref la))) ⟨h', g, d, tk', os⟩) :
    Ms prg w A Q E Pe (goCall (.call (.ref 248) ⟨[.ref wl, .int row rt, .bool hr], []⟩)) ⟨h₀, g, d, tk, os⟩ := by
  have hz := sizeLine_eq
  have K : Kn (par w b c [(wl, listObj vs n)]) h₀ := kn_of hk (by intro p hp; rw [List.mem_singleton] at hp; subst hp; exact hwl)
  have hrl : ∀ t, (remL hr t).length ≤ 1 := fun t => by cases hr <;> simp [remL]
  refine by_runs W K (by omega) hA (fun ad => lineA_run w b c ad wl vs n row rt hr) trivial rfl (Rep.self h₀)
    (ot_cons (oCat2_ok hwl (by omega)) (ot_cons (oLen_ok hwl (by omega)) (ot_cons (oRep_ok (by omega) (by omega)) ot_nil))) fun ad h1 tk1 R1 => ?_
  have hk1 := hk.keeps R1.keep
  have hcall := lineA_call w (ad 0) (ad (sh hr 5)) (ad (sh hr 13)) row rt hr
  simp only [Prod.mk.injEq] at hcall
  have ca := Bool.and_eq_true_iff.mp hcall.1
  refine ms_call (by omega) hA (md := lineAMd w _ _ _ _ _ _) (md_ok ca.2) ca.1 fun A1 hA1 => ?_
  rw [hcall.2]
  have hgl := (R1.own _ (.tail _ (.head _))).1
  have hwl' := (R1.own _ (.tail _ (.tail _ (.head _)))).1
  have hrem := strsOf_rem hvs hvl hr (ad 4)
  have hlw : (lineWords ws hr).length ≤ ws.length + 1 := by cases hr <;> simp [lineWords]
  have hlw0 : ws.length ≤ (lineWords ws hr).length := by cases hr <;> simp [lineWords]
  have hwa : ∀ s ∈ lineWords ws hr, s ∈ allL := by
    intro s hs
    rcases List.mem_append.mp hs with h | h
    · exact .tail _ (hws s h)
    · cases hr with
      | true => rw [List.mem_singleton] at h; subst h; exact .head _
      | false => cases h
  refine out_ms (toks_fn W hk1 (by omega) hA1 hwl' hgl hrem.1 hrem.2 hwa (by omega) (by omega) (fun i hi => ⟨ad (sh hr 7), ?_⟩) fun h2 tk2 T fd fs m R2 hf => ?_)
  · rw [List.getElem?_replicate, if_pos (by omega)]
  · have hfl := hf.len
    have hlast : fs.length - 1 < fs.length := by omega
    have hv : fs[fs.length - 1]? = some fs[fs.length - 1] := List.getElem?_eq_getElem hlast
    obtain ⟨s, hs', F⟩ := hf.get hv
    obtain ⟨ta, dd, u, sa, ea, lt, lk, q, qt, rt', e, m1, m2⟩ := F
    rw [e] at hv
    have R3 : Rep h₀ h2 ([(ad 0, lineFrm w wl (ad 1) (ad 2) (ad 3) row rt hr)] ++ ([(ad (sh hr 13), listObj (List.replicate ((vs.length : Int) + 1).toNat (.int 1 (ad (sh hr 7)))) 0), (ad (sh hr 5), listObj (vs ++ remL hr (ad 4)) 0)] ++ ((fd, listObj fs m) :: T))) := (R1.trans R2).swap
    obtain ⟨h₁, R4, k4, f4⟩ := R3.rebase
    have hk4 := hk.keeps k4
    have g1 := f4 (fd, listObj fs m) (.tail _ (.tail _ (.head _)))
    have g2 := f4 _ (.tail _ (.tail _ (.tail _ m1)))
    have g3 := f4 _ (.tail _ (.tail _ (.tail _ m2)))
    have K4 : Kn (par w b c [(fd, listObj fs m), (ta, tokO dd [.int (kindV s).1 (kindV s).2, .str s u, .ref sa, .ref ea, .str lt lk]), (ea, tupObj [.int row rt', .int q qt] 0)]) h₁ := kn_of hk4 (by
      intro p hp
      simp only [List.mem_cons, List.not_mem_nil, or_false] at hp
      rcases hp with rfl | rfl | rfl
      · exact g1
      · exact g2
      · exact g3)
    have hget : OrcOk L prg w h₁ g d os (oGet (.base fd) fs m (-1) (.ref ta)) := oGet_ok (k := fs.length - 1) g1 (by decide) (by decide)
      (by rw [MeetsSeq.seqIndex_neg (by decide) (by omega)]; congr 1; omega) hv
    refine by_runs W K4 (by omega) hA (fun ad' => lineB_run w b c ad' wl (ad 0) (ad (sh hr 5)) (ad (sh hr 13)) fd ta dd sa ea (ad 1) (ad 2) (ad 3) row rt rt' hr fs m _ _ s u lt lk q qt []) (cont_ok (md_ok ca.2)) rfl R4
      (ot_cons hget (ot_cons hget (ot_cons oColl_ok (ot_cons (oCat2_ok g1 (by omega)) ot_nil)))) fun ad' h5 tk5 R5 => wpAny_pure ?_
    have R6 := R3.join k4 f4 R5
    exact fin h5 tk5 _ (ad' 34) fs _ 0 R6 (hf.imp fun a b h => h.more fun x hx => .tail _ (.tail _ (.tail _ (.tail _ hx)))) ⟨_, _, _, _, _, _, _, rfl, .head _⟩
end
end Mine
end

section
open PySem PySem.W PySem.W.X PySem.Calls PyProof.Rows
namespace Mine
noncomputable def enumO (it : Addr) (i : Int) (f0 old : Value) : Obj := fldO "enumerate" [f0, .bool false, .ref it, .int i 0, .none, old]
noncomputable def oEnum : Orc := ⟨.type "enumerate", false, fun args st => match args with
  | [.ref l] => match st with
    | _ => some { look := [], res := fun _ y => .ok (.ret (.ref y)), upd := fun x y st => (y, enumO x 0 .none .none) :: (x, itObj l 0) :: st }
  | _ => none⟩
noncomputable def oEnumB (l : Addr) : Orc := ⟨.type "enumerate", false, fun args _ => match args with
  | [.ref a] => some { look := [(.a a, .a l)], res := fun _ y => .ok (.ret (.ref y)), upd := fun x y st => (y, enumO x 0 .none .none) :: (x, itObj l 0) :: st }
  | _ => none⟩
noncomputable def oGt (a b : Int) (r : Bool) : Orc := oVal "int.__gt__" fun args => match args with
  | [.int a' _, .int b' _] => some ([(.i a', .i a), (.i b', .i b)], fun _ => .bool r)
  | _ => none
section
variable {prog : Program} {w : World} {A : Around} {L : Nat} {h₀ : Heap} {g : Array GenState} {d : Drawn} {os : OsState}
theorem oGt_ok {a b : Int} {r : Bool} (e : decide (a > b) = r) : OrcOk L prog w h₀ g d os (oGt a b r) := oVal_ok fun A' args p h tk hA hp hl => by
  split at hp
  · cases hp
    rename_i a' t b' u
    have e1 : a' = a := OV.i.inj (hl _ (.head _))
    have e2 : b' = b := OV.i.inj (hl _ (.tail _ (.head _)))
    subst e1 e2 e
    exact call_gives F.slot_int_gt (typeIs_int _ _ _) F.entry_int_gt (F.args_int_gt_2 _ _) (gives_int_gt _ _ _ _) ⟨0, tk, rfl, rfl⟩
  · cases hp
theorem oEnumB_ok {l : Addr} {xs : List Value} {n : Nat} (hx : h₀.get? l = some (listObj xs n)) : OrcOk L prog w h₀ g d os (oEnumB l) := by
  intro A' args r st h tk hA R hr hl
  unfold oEnumB at hr
  dsimp only at hr
  split at hr
  · rename_i a
    cases hr
    have e1 : a = l := OV.a.inj (hl _ (.head _))
    subst e1
    have hg := R.keep _ _ hx
    refine orc_call (s := ⟨h, g, d, tk, os⟩) (callType_new F.called_enumerate (by decide) (F.typeCall_enumerate_1 _) (F.newCall_enumerate_1 _) (fun obj => F.args_object_init_2 obj _) F.entry_enumerate_new
      (meets_enumerate_new a ⟨xs⟩ n) ⟨hg, ?_⟩)
    have r1 := R.alloc (o := itObj a 0) rfl
    have r2 := r1.alloc (o := enumO h.objs.size 0 .none .none) rfl
    exact ⟨⟨_, (r2.own _ (.head _)).1, rfl⟩, h.objs.size, _, _, tk, rfl, rfl, r2⟩
  · cases hr
end
end Mine
end

section
open PySem PySem.W PySem.W.X PySem.Calls PyProof.Rows
set_option maxHeartbeats 0
namespace Mine
noncomputable abbrev zdenote := PySem.W.ZFast.zw11892475500146522536 PySem.W.ZFast.tableZ
theorem zdenote_eq : PySem.denote table = zdenote := by rw [PySem.W.ZFast.ze11892475500146522536, PySem.W.ZFast.tableZ_eq]
noncomputable abbrev znewEnv := @PySem.W.ZFast.zw11113344188204177931
theorem znewEnv_eq : @PySem.newFunctionEnv = @PySem.W.ZFast.zw11113344188204177931 := PySem.W.ZFast.ze11113344188204177931
noncomputable abbrev zbind := PySem.W.ZFast.zw9782568553167038054
theorem zbind_eq : PySem.bindArgs = zbind := PySem.W.ZFast.ze9782568553167038054
noncomputable def fdOf (o : Option Obj) : FuncData := match o with
  | some o => match o.data with
    | .func fd => fd
    | _ => default
  | none => default
noncomputable def gFd (w : World) (a : Addr) : FuncData := fdOf ((ktop w.params).get a)
noncomputable def stmtsOf (fd : FuncData) : List Stmt := match fd.body with
  | .stmts b => b
  | _ => []
noncomputable def newEnv (w : World) (a : Addr) (bs : List (Str × Value)) : Sem Env := znewEnv (gFd w a).scope (gFd w a).globals (gFd w a).closure bs ((gFd w a).qualname ++ ".<locals>.") (some a) (gFd w a).code none (gFd w a).builtins
noncomputable def gEnv (w : World) (a fi : Addr) : Env := match (zrun (par w true true []) 9 (.out (newEnv w a [])) (fun _ => fi) [] [] [] [] []).1 with
  | .out (.pure e) => e
  | _ => default
noncomputable def gCode (w : World) (a fi : Addr) : Code := .func (stmtsOf (gFd w a)) (gEnv w a fi)
noncomputable def frOf {α : Type} (md : Md α) (p : Pos) : List Frame := match md with
  | .seg c fs (.call _ hd g l k) => .ret k hd g l c p [] :: fs
  | _ => []
noncomputable def mdCode {α : Type} : Md α → Code
  | .seg c _ _ => c
  | _ => noCode
noncomputable def mdFs {α : Type} : Md α → List Frame
  | .seg _ fs _ => fs
  | _ => []
noncomputable def mdTree {α : Type} : Md α → Sem Fin
  | .seg _ _ t => t
  | _ => .unsupported ""
noncomputable def ykOf {α : Type} : Md α → Resume → Sem Fin
  | .seg _ _ (.yield _ _ _ k) => k
  | _ => fun _ => .unsupported ""
noncomputable def ylOf {α : Type} : Md α → List Value
  | .seg _ _ (.yield _ _ l _) => l
  | _ => []
noncomputable def yvOf {α : Type} : Md α → Value
  | .seg _ _ (.yield v _ _ _) => v
  | _ => .none
noncomputable def againOf {α : Type} : Md α → Code
  | .seg _ _ (.pure (.again c)) => c
  | _ => noCode
theorem execs_split {prog : Program} {w : World} {A : Around} {s : Stmt} {rest : List Stmt} {env : Env} {Q : Flow → Shared → Prop} {E : Value → Shared → Prop} {st : Shared}
    (h : wpAny (model prog w) A (execs [s] env) (fun f s' => match f with | .next => wpAny (model prog w) A (execs rest env) Q E s' | f => Q f s') E st) : wpAny (model prog w) A (execs (s :: rest) env) Q E st := by
  refine wpAny_execs_cons ?_
  intro Γ p hΓ
  have z := h Γ p hΓ
  rw [execs_cons, Sem.wp_bind'] at z
  refine Sem.wp_mono _ Γ _ (fun f p' s' q => ?_) (fun _ _ _ q => q) p st z
  cases f <;> exact q
end Mine
end

section
open PySem PySem.W PySem.W.X PySem.Calls PyProof.Rows
set_option maxHeartbeats 0
namespace Mine
structure LA where
  k : Tok
  at_ : Int
  t : Tok
  kw : Tok
  wa : Addr
  kr : Tok
  hr : Bool
structure LB where
  k : Tok
  ln : Addr
structure LC where
  k : Tok
  i : Int
  t : Tok
  kw : Tok
  s : Str
  u : Tok
noncomputable def laE (w : World) (x : LA) : List DictEntry := [ent w "at" x.k (.int x.at_ x.t), ent w "words" x.kw (.ref x.wa), ent w "has_remark" x.kr (.bool x.hr)]
noncomputable def lbE (w : World) (y : LB) : List DictEntry := [ent w "line" y.k (.ref y.ln)]
noncomputable def lcE (w : World) (z : Option LC) : List DictEntry := match z with
  | none => []
  | some z => [ent w "spot" z.k (.int z.i z.t), ent w "word" z.kw (.str z.s z.u)]
noncomputable def lcN (z : Option LC) : Nat := match z with
  | none => 7
  | some _ => 9
noncomputable def law0E (w : World) (l pl tk : Addr) (t1 t2 t3 : Tok) : List DictEntry := [ent w "script" t1 (.ref l), ent w "places" t2 (.ref pl), ent w "tokens" t3 (.ref tk)]
noncomputable def lawF0 (w : World) (l pl tk : Addr) (t1 t2 t3 : Tok) : Obj := frm (law0E w l pl tk t1 t2 t3) 3
noncomputable def lawF1 (w : World) (l pl tk : Addr) (t1 t2 t3 : Tok) (x : LA) : Obj := frm (law0E w l pl tk t1 t2 t3 ++ laE w x) 6
noncomputable def lawF2 (w : World) (l pl tk : Addr) (t1 t2 t3 : Tok) (x : LA) (y : LB) (z : Option LC) : Obj := frm (law0E w l pl tk t1 t2 t3 ++ laE w x ++ lbE w y ++ lcE w z) (lcN z)
noncomputable def lawFO (w : World) (l pl tk : Addr) (t1 t2 t3 : Tok) (o : Option (LA × LB × LC)) : Obj := match o with
  | none => lawF0 w l pl tk t1 t2 t3
  | some p => lawF2 w l pl tk t1 t2 t3 p.1 p.2.1 (some p.2.2)
noncomputable def lStmt (w : World) (i : Nat) : Stmt := (stmtsOf (gFd w 255)).getD i (.Return none ⟨0, 0, 0, 0⟩)
noncomputable abbrev zexecs' := PySem.W.ZFast.zw12563942051412417395
noncomputable def lAssign_hs' : List Nat := [1, 1, 1, 1, 1, 1, 1, 1, 1, 3, 1, 0, 1, 1, 1, 1, 3, 1, 0, 1, 1, 1, 1, 3, 1, 0, 1, 13, 6, 13, 6]
theorem ls1_run (w : World) (b c : Bool) (ad : Strm) (fa l : Addr) (t1 : Tok) :
    let r := zrun (par w b c []) 65 (.out (zexecs' [lStmt w 0] (gEnv w 255 fa))) ad lAssign_hs' [(fa, frm [ent w "script" t1 (.ref l)] 1)] [] [] []
    (r.1, r.2.obs.map Prod.fst, pickD [6, 4, 5] 7 r.2.st) = (.out (.pure .next), r.2.obs.map Prod.snd, [(fa, lawF0 w l (ad 1) (ad 0) t1 (ad 6) (ad 7)), (ad 1, listObj [] 0), (ad 0, listObj [] 0)]) := by
  cases b <;> kernel_rfl
noncomputable def law0 (w : World) (b c : Bool) (ad : Strm) (fa l pl tk : Addr) (t1 t2 t3 : Tok) (T : Store) : Md Flow × St := zrun (par w b c []) 10 (.out (zexecs' [lStmt w 1] (gEnv w 255 fa))) ad [0, 0, 0, 1, 0] ((fa, lawF0 w l pl tk t1 t2 t3) :: T) [] [] []
noncomputable def law0Md (w : World) (fa l : Addr) : Md Flow := (law0 w true true (fun _ => 0) fa l 0 0 0 0 0 []).1
theorem law0_run (w : World) (b c : Bool) (ad : Strm) (fa l pl tk : Addr) (t1 t2 t3 : Tok) (T : Store) :
    let r := law0 w b c ad fa l pl tk t1 t2 t3 T
    (r.1, r.2.obs.map Prod.fst, pickD [] 0 r.2.st) = (law0Md w fa l, r.2.obs.map Prod.snd, (fa, lawF0 w l pl tk t1 t2 t3) :: T) := by
  cases b <;> kernel_rfl
theorem law0_call (w : World) (fa l : Addr) : (isCall (law0Md w fa l) && okMd (law0Md w fa l), codeOf (law0Md w fa l)) = (true, .call (.ref 241) ⟨[.ref l], []⟩) := by kernel_rfl
noncomputable def law1 (w : World) (b c : Bool) (ad : Strm) (fa l la : Addr) (T : Store) : Md Flow × St := zrun (par w b c []) 13 (contOf (.ok (.ret (.ref la))) (law0Md w fa l)) ad [1, 1, 1, 1] T [] [0] [oEnumB la]
noncomputable def law1Md (w : World) (fa l en : Addr) : Md Flow := (law1 w true true (fun _ => en) fa l 0 []).1
theorem law1_run (w : World) (b c : Bool) (ad : Strm) (fa l la : Addr) (T : Store) :
    let r := law1 w b c ad fa l la T
    (r.1, r.2.obs.map Prod.fst, pickD [] 0 r.2.st) = (law1Md w fa l (ad 1), r.2.obs.map Prod.snd, (ad 1, enumO (ad 0) 0 .none .none) :: (ad 0, itObj la 0) :: T) := by
  cases b <;> kernel_rfl
theorem law1_next (w : World) (fa l en : Addr) : contOf (.ok .next) (law1Md w fa l en) = .out (.pure .next) := by kernel_rfl
noncomputable def lawLoop (w : World) (fa en : Addr) : Code := codeOf (law1Md w fa 0 en)
noncomputable def lTgt (w : World) : Expr := tgtOf (lawLoop w 0 0)
noncomputable def lBody (w : World) : List Stmt := bodyOf (lawLoop w 0 0)
noncomputable def lEnv (w : World) (fa : Addr) : Env := envOf (lawLoop w fa 0)
noncomputable def lT (w : World) : Expr := .Tuple (eltsOf (lTgt w)) (ctxOf (lTgt w)) (posOf' (lTgt w))
theorem law1_call (w : World) (fa l en : Addr) : (isCall (law1Md w fa l en) && okMd (law1Md w fa l en), codeOf (law1Md w fa l en)) = (true, .forLoop (lT w) (.ref en) (lBody w) [] (lEnv w fa)) := by kernel_rfl
noncomputable def enNext_hs : List Nat := [1, 1, 1, 3, 1, 1, 1, 0, 1, 0, 3, 3, 3, 1, 3, 1, 3, 1]
theorem enNext_run (w : World) (b c : Bool) (ad : Strm) (en it l : Addr) (xs : List Value) (n i : Nat) (k : Int) (v : Value) (old : Value) (T : Store) :
    let r := zrun (par w b c []) 26 (.out (zpyNext (.ref en))) ad enNext_hs ((en, enumO it k .none old) :: (it, itObj l i) :: T) [] [1] [oNext 1 (.base l) l xs n i v]
    (r.1, r.2.obs.map Prod.fst, pickD [1, 2, 0] 3 r.2.st) = (.out (.pure (some (.ref (ad 3)))), r.2.obs.map Prod.snd,
      (en, enumO it (k + 1) (rawInt (ad 3)) v) :: (it, itObj l (i + 1)) :: (ad 3, tupObj [.int k (ad 2), v] 0) :: T) := by kernel_rfl
theorem enEnd_run (w : World) (b c : Bool) (ad : Strm) (en it l : Addr) (xs : List Value) (n i : Nat) (k : Int) (old : Value) (T : Store) :
    let r := zrun (par w b c []) 9 (.out (zpyNext (.ref en))) ad [1, 1, 1, 3, 1] ((en, enumO it k .none old) :: (it, itObj l i) :: T) [] [1] [oEnd 1 (.base l) l xs n i]
    (r.1, r.2.obs.map Prod.fst, pickD [] 4 r.2.st) = (.out (.pure none), r.2.obs.map Prod.snd, T) := by kernel_rfl
end Mine
end

section
open PySem PySem.W PySem.W.X PySem.Calls PyProof.Rows
set_option maxHeartbeats 0
namespace Mine
abbrev LO := Option (LA × LB × LC)
noncomputable def mkA (o : LO) (ad : Strm) (k : Int) (tt : Tok) (wa : Addr) (hr : Bool) : LA := match o with
  | none => ⟨ad 3, k, tt, ad 7, wa, ad 8, hr⟩
  | some p => ⟨p.1.k, k, tt, p.1.kw, wa, p.1.kr, hr⟩
noncomputable def lawFA (w : World) (l pl tk : Addr) (t1 t2 t3 : Tok) (x : LA) (o : LO) : Obj := match o with
  | none => lawF1 w l pl tk t1 t2 t3 x
  | some p => lawF2 w l pl tk t1 t2 t3 x p.2.1 (some p.2.2)
noncomputable def lAssign_hs : List Nat := [5, 5, 5, 5, 1, 1, 1, 1, 1, 7, 1, 0, 1, 1, 1, 1, 7, 1, 0, 1, 1, 1, 1, 7, 1, 0, 1, 13, 6, 2, 2, 2, 2, 1, 1, 1, 1, 1, 2, 1, 0, 1, 1, 1, 1, 2, 1, 0, 1, 1, 1, 1, 2, 1, 0, 1, 19, 9, 19, 9]
theorem lAssign_run (w : World) (b c : Bool) (ad : Strm) (l pl tk fa tp ra wa : Addr) (hr : Bool) (n : Nat) (t1 t2 t3 : Tok) (k : Int) (tt : Tok) (o : LO) (p0 p1 : Addr × Obj) (T : Store) :
    let r := zrun (par w b c [(ra, listObj [.ref wa, .bool hr] n)]) 113 (.out (zassign (lT w) (lEnv w fa) (.ref tp))) ad lAssign_hs (p0 :: p1 :: (tp, tupObj [.int k tt, .ref ra] 0) :: (fa, lawFO w l pl tk t1 t2 t3 o) :: T) [] [] []
    (r.1, r.2.obs.map Prod.fst, pickD [6, 7, 9] 10 r.2.st) = (.out (.pure ()), r.2.obs.map Prod.snd, p0 :: p1 :: (fa, lawFA w l pl tk t1 t2 t3 (mkA o ad k tt wa hr) o) :: T) := by
  cases o <;> cases b <;> kernel_rfl
noncomputable def lawB1 (w : World) (b c : Bool) (ad : Strm) (l pl tk fa : Addr) (t1 t2 t3 : Tok) (x : LA) (o : LO) (p0 p1 : Addr × Obj) (T : Store) : Md Flow × St :=
  zrun (par w b c []) 17 (.out (zexecs (lBody w) (lEnv w fa))) ad [0, 5, 5, 5, 0] (p0 :: p1 :: (fa, lawFA w l pl tk t1 t2 t3 x o) :: T) [] [] []
noncomputable def lawB1Md (w : World) (fa wa : Addr) (k : Int) (t : Tok) (hr : Bool) : Md Flow := (lawB1 w true true (fun _ => t) 0 0 0 fa 0 0 0 ⟨0, k, 0, 0, wa, 0, hr⟩ none (0, listObj [] 0) (0, listObj [] 0) []).1
theorem lawB1_run (w : World) (b c : Bool) (ad : Strm) (l pl tk fa : Addr) (t1 t2 t3 : Tok) (x : LA) (o : LO) (p0 p1 : Addr × Obj) (T : Store) :
    let r := lawB1 w b c ad l pl tk fa t1 t2 t3 x o p0 p1 T
    (r.1, r.2.obs.map Prod.fst, pickD [] 0 r.2.st) = (lawB1Md w fa x.wa x.at_ (ad 1) x.hr, r.2.obs.map Prod.snd, p0 :: p1 :: (fa, lawFA w l pl tk t1 t2 t3 x o) :: T) := by
  cases o <;> kernel_rfl
theorem lawB1_call (w : World) (fa wa : Addr) (k : Int) (t : Tok) (hr : Bool) : (isCall (lawB1Md w fa wa k t hr) && okMd (lawB1Md w fa wa k t hr), codeOf (lawB1Md w fa wa k t hr)) = (true, .call (.ref 248) ⟨[.ref wa, .int (k + 1) t, .bool hr], []⟩) := by kernel_rfl
noncomputable def mkB (o : LO) (k : Tok) (ln : Addr) : LB := match o with
  | none => ⟨k, ln⟩
  | some p => ⟨p.2.1.k, ln⟩
noncomputable def zOf (o : LO) : Option LC := o.map fun p => p.2.2
noncomputable def lawB2 (w : World) (b c : Bool) (ad : Strm) (l pl tk fa wa ln : Addr) (k : Int) (t : Tok) (hr : Bool) (t1 t2 t3 : Tok) (x : LA) (o : LO) (p0 p1 p3 p4 : Addr × Obj) (T : Store) : Md Flow × St :=
  zrun (par w b c []) 26 (contOf (.ok (.ret (.ref ln))) (lawB1Md w fa wa k t hr)) ad [5, 2, 0, 0, 5, 1, 1, 1, 1] (p0 :: p1 :: (fa, lawFA w l pl tk t1 t2 t3 x o) :: p3 :: p4 :: T) [] [0] [oEnumB x.wa]
noncomputable def lawB2Md (w : World) (fa it en : Addr) : Md Flow := (lawB2 w true true (ad3 0 it en) 0 0 0 fa 0 0 0 0 false 0 0 0 ⟨0, 0, 0, 0, 0, 0, false⟩ none (0, listObj [] 0) (0, listObj [] 0) (0, listObj [] 0) (0, listObj [] 0) []).1
theorem lawB2_run (w : World) (b c : Bool) (ad : Strm) (l pl tk fa wa ln : Addr) (k : Int) (t : Tok) (hr : Bool) (t1 t2 t3 : Tok) (x : LA) (o : LO) (p0 p1 p3 p4 : Addr × Obj) (T : Store) :
    let r := lawB2 w b c ad l pl tk fa wa ln k t hr t1 t2 t3 x o p0 p1 p3 p4 T
    (r.1, r.2.obs.map Prod.fst, pickD [0, 1, 4, 5, 2, 3, 6] 7 r.2.st) = (lawB2Md w fa (ad 1) (ad 2), r.2.obs.map Prod.snd,
      (ad 2, enumO (ad 1) 0 .none .none) :: (ad 1, itObj x.wa 0) :: (fa, lawF2 w l pl tk t1 t2 t3 x (mkB o (ad 0) ln) (zOf o)) :: p3 :: p0 :: p1 :: p4 :: T) := by
  cases o <;> cases b <;> kernel_rfl
noncomputable def lawLoop2 (w : World) (fa en : Addr) : Code := codeOf (lawB2Md w fa 0 en)
noncomputable def mTgt (w : World) : Expr := tgtOf (lawLoop2 w 0 0)
noncomputable def mBody (w : World) : List Stmt := bodyOf (lawLoop2 w 0 0)
noncomputable def mEnv (w : World) (fa : Addr) : Env := envOf (lawLoop2 w fa 0)
noncomputable def mT (w : World) : Expr := .Tuple (eltsOf (mTgt w)) (ctxOf (mTgt w)) (posOf' (mTgt w))
theorem lawB2_call (w : World) (fa it en : Addr) : (isCall (lawB2Md w fa it en) && okMd (lawB2Md w fa it en), codeOf (lawB2Md w fa it en)) = (true, .forLoop (mT w) (.ref en) (mBody w) [] (mEnv w fa)) := by kernel_rfl
noncomputable def mAssign_hs : List Nat := [5, 5, 5, 5, 1, 1, 1, 1, 1, 7, 1, 0, 1, 1, 1, 1, 7, 1, 0, 1, 1, 1, 1, 7, 1, 0, 1, 13, 6, 13, 6]
noncomputable def mkC (z : Option LC) (ad : Strm) (i : Int) (t : Tok) (s : Str) (u : Tok) : LC := match z with
  | none => ⟨ad 3, i, t, ad 4, s, u⟩
  | some y => ⟨y.k, i, t, y.kw, s, u⟩
theorem mAssign_run (w : World) (b c : Bool) (ad : Strm) (l pl tk fa tp : Addr) (t1 t2 t3 : Tok) (x : LA) (y : LB) (z : Option LC) (i : Int) (t : Tok) (s : Str) (u : Tok) (p0 p1 : Addr × Obj) (T : Store) :
    let r := zrun (par w b c []) 60 (.out (zassign (mT w) (mEnv w fa) (.ref tp))) ad mAssign_hs (p0 :: p1 :: (tp, tupObj [.int i t, .str s u] 0) :: (fa, lawF2 w l pl tk t1 t2 t3 x y z) :: T) [] [] []
    (r.1, r.2.obs.map Prod.fst, pickD [3, 4, 6] 7 r.2.st) = (.out (.pure ()), r.2.obs.map Prod.snd, p0 :: p1 :: (fa, lawF2 w l pl tk t1 t2 t3 x y (some (mkC z ad i t s u))) :: T) := by
  cases z <;> cases b <;> kernel_rfl
noncomputable def mBodyF_hs : List Nat := [5, 7, 7, 7, 7, 5, 5, 5, 2, 2, 2, 4, 0, 0, 0, 4, 0, 4, 0, 0, 0, 4, 0, 4, 5]
noncomputable def mBodyT_hs : List Nat := [5, 7, 7, 7, 7, 5, 5, 5, 2, 2, 2, 4, 0, 0, 0, 4, 0, 4, 0, 0, 0, 4, 0, 4, 5, 5]
theorem mBodyF_run (w : World) (b c : Bool) (ad : Strm) (l pl tk fa tok dd sa ea : Addr) (t1 t2 t3 : Tok) (x : LA) (y : LB) (z : LC) (xs : List Value) (m : Nat) (k : Int) (kt : Tok) (s : Str) (u : Tok) (lt : Str) (lk : Tok) (pls : List Value) (n : Nat) (p0 p1 : Addr × Obj) (T : Store) :
    let r := zrun (par w b c [(y.ln, listObj xs m), (tok, tokO dd [.int k kt, .str s u, .ref sa, .ref ea, .str lt lk])]) 52 (.out (zexecs (mBody w) (mEnv w fa))) ad mBodyF_hs (p0 :: p1 :: (fa, lawF2 w l pl tk t1 t2 t3 x y (some z)) :: (pl, listObj pls n) :: T) [] [0, 2, 0]
      [oGet (.base y.ln) xs m z.i (.ref tok), oEqI z.i 0 false, oApp 4 pls n]
    (r.1, r.2.obs.map Prod.fst, pickD [1, 2, 3, 4, 0] 5 r.2.st) = (.out (.pure .next), r.2.obs.map Prod.snd,
      p0 :: p1 :: (fa, lawF2 w l pl tk t1 t2 t3 x y (some z)) :: (pl, listObj (pls ++ [.ref (ad 6)]) (n + 1)) :: (ad 6, tupObj [.str z.s z.u, .ref sa, .bool false] 0) :: T) := by
  cases b <;> kernel_rfl
theorem mBodyT_run (w : World) (b c : Bool) (ad : Strm) (l pl tk fa tok dd sa ea : Addr) (t1 t2 t3 : Tok) (x : LA) (y : LB) (z : LC) (xs : List Value) (m : Nat) (k : Int) (kt : Tok) (s : Str) (u : Tok) (lt : Str) (lk : Tok) (pls : List Value) (n : Nat) (f : Bool) (p0 p1 : Addr × Obj) (T : Store) :
    let r := zrun (par w b c [(y.ln, listObj xs m), (tok, tokO dd [.int k kt, .str s u, .ref sa, .ref ea, .str lt lk])]) 58 (.out (zexecs (mBody w) (mEnv w fa))) ad mBodyT_hs (p0 :: p1 :: (fa, lawF2 w l pl tk t1 t2 t3 x y (some z)) :: (pl, listObj pls n) :: T) [] [0, 2, 0, 0]
      [oGet (.base y.ln) xs m z.i (.ref tok), oEqI z.i 0 true, oGt x.at_ 0 f, oApp 4 pls n]
    (r.1, r.2.obs.map Prod.fst, pickD [1, 2, 3, 4, 0] 5 r.2.st) = (.out (.pure .next), r.2.obs.map Prod.snd,
      p0 :: p1 :: (fa, lawF2 w l pl tk t1 t2 t3 x y (some z)) :: (pl, listObj (pls ++ [.ref (ad 9)]) (n + 1)) :: (ad 9, tupObj [.str z.s z.u, .ref sa, .bool f] 0) :: T) := by
  cases f <;> cases b <;> kernel_rfl
theorem lawB3_run (w : World) (b c : Bool) (ad : Strm) (l pl tk fa it en : Addr) (t1 t2 t3 : Tok) (x : LA) (y : LB) (z : LC) (toks xs : List Value) (n m : Nat) (p1 : Addr × Obj) (p3 p4 : Addr × Obj) (T : Store) :
    let r := zrun (par w b c [(y.ln, listObj xs m)]) 19 (contOf (.ok .next) (lawB2Md w fa it en)) ad [1, 1, 5, 2, 5, 3, 1] ((fa, lawF2 w l pl tk t1 t2 t3 x y (some z)) :: p1 :: (tk, listObj toks n) :: p3 :: p4 :: T) [] [0] [oCat (.st 2) toks n (.base y.ln) xs m]
    (r.1, r.2.obs.map Prod.fst, pickD [4, 5, 1, 2, 0] 6 r.2.st) = (.out (.pure .next), r.2.obs.map Prod.snd, p3 :: p4 :: (fa, lawF2 w l pl (ad 0) t1 t2 t3 x y (some z)) :: p1 :: (ad 0, listObj (toks ++ xs) 0) :: T) := by
  cases b <;> kernel_rfl
end Mine
end

section
open PySem PySem.W PySem.W.X PySem.Calls PyProof.Rows
set_option maxHeartbeats 0
namespace Mine
structure Tk where
  s : Str
  sa : Addr
structure Pl where
  s : Str
  sa : Addr
  f : Bool
noncomputable def kindA (s : Str) : Int × Tok := bif strB s newline then (62, 285) else kindV s
noncomputable def TkIn (T : Store) (v : Value) (t : Tk) : Prop := ∃ a dd u ea lt lk, v = Value.ref a ∧ (a, tokO dd [.int (kindA t.s).1 (kindA t.s).2, .str t.s u, .ref t.sa, .ref ea, .str lt lk]) ∈ T
theorem TkIn.more {T T' : Store} {v : Value} {t : Tk} (h : TkIn T v t) (m : ∀ x ∈ T, x ∈ T') : TkIn T' v t := by
  obtain ⟨a, dd, u, ea, lt, lk, e, h⟩ := h
  exact ⟨a, dd, u, ea, lt, lk, e, m _ h⟩
noncomputable def PlIn (T : Store) (v : Value) (p : Pl) : Prop := ∃ a u, v = Value.ref a ∧ (a, tupObj [.str p.s u, .ref p.sa, .bool p.f] 0) ∈ T
theorem PlIn.more {T T' : Store} {v : Value} {p : Pl} (h : PlIn T v p) (m : ∀ x ∈ T, x ∈ T') : PlIn T' v p := by
  obtain ⟨a, u, e, h⟩ := h
  exact ⟨a, u, e, m _ h⟩
theorem kindA_all : ∀ s ∈ allL, kindA s = kindV s := by
  intro s hs
  simp only [allL, wordsL, List.mem_cons, List.not_mem_nil, or_false] at hs
  rcases hs with rfl | rfl | rfl | rfl | rfl | rfl | rfl | rfl | rfl | rfl | rfl | rfl | rfl | rfl | rfl | rfl | rfl | rfl | rfl | rfl | rfl <;> decide +kernel
theorem kindA_nl : kindA newline = (62, 285) := by decide +kernel
theorem tks_of {T : Store} {row : Int} : ∀ {fs : List Value} {ws : List Str}, All2 (TokIn T row) fs ws → (∀ s ∈ ws, s ∈ allL) → ∃ tks : List Tk, tks.map Tk.s = ws ∧ All2 (TkIn T) fs tks
  | _, _, .nil, _ => ⟨[], rfl, .nil⟩
  | _, _, .cons (b := s) h t, hw => by
    obtain ⟨tks, e, ht⟩ := tks_of t fun x hx => hw x (.tail _ hx)
    obtain ⟨a, dd, u, sa, ea, lt, lk, q, qt, rt, e1, h1, h2⟩ := h
    exact ⟨⟨s, sa⟩ :: tks, by simp [e], .cons ⟨a, dd, u, ea, lt, lk, e1, by rw [kindA_all s (hw s (.head _))]; exact h1⟩ ht⟩
theorem nl_tk {T : Store} {v : Value} (h : NlIn T v) : ∃ sa, TkIn T v ⟨newline, sa⟩ := by
  obtain ⟨a, dd, u, sa, ea, lt, lk, e, h⟩ := h
  exact ⟨sa, a, dd, u, ea, lt, lk, e, by rw [kindA_nl]; exact h⟩
noncomputable def rowPl (f : Bool) : List Tk → List Pl
  | [] => []
  | t :: l => ⟨t.s, t.sa, f⟩ :: l.map fun t => ⟨t.s, t.sa, false⟩
theorem rowPl_len (f : Bool) (l : List Tk) : (rowPl f l).length = l.length := by cases l <;> simp [rowPl]
theorem rowPl_get {f : Bool} {l : List Tk} {i : Nat} {t : Tk} (e : l[i]? = some t) : (rowPl f l)[i]? = some ⟨t.s, t.sa, Nat.beq i 0 && f⟩ := by
  cases l with
  | nil => simp at e
  | cons x l =>
    cases i with
    | zero => simp at e; subst e; simp [rowPl]
    | succ i => simp at e; simp [rowPl, e]
section
variable {w : World} {A : Around} {L : Nat} {h₁ : Heap} {g : Array GenState} {d : Drawn} {os : OsState} {b c : Bool}
theorem words_loop (W : Wd w b c) (hk : KT.Holds h₁ 1 0 (ktop w.params)) (hL : L ≤ 10) (hA : Lev L A) {R : Result → Shared → Prop} {l pl tk fa en2 it2 : Addr} {t1 t2 t3 : Tok} {x : LA} {y : LB} {vs items : List Value} {n1 m : Nat} {ws : List Str} {tks : List Tk} {T1 T0 : Store} {P0 : List Pl}
    (hwa : h₁.get? x.wa = some (listObj vs n1)) (hln : h₁.get? y.ln = some (listObj items m)) (hT1 : ∀ p ∈ T1, h₁.get? p.1 = some p.2) (hvs : strsOf vs = ws) (hvl : vs.length = ws.length) (hlen : ws.length ≤ 12) (hP0 : P0.length ≤ 200)
    (hit : ∀ i : Nat, ∀ s, ws[i]? = some s → ∃ v t, items[i]? = some v ∧ tks[i]? = some t ∧ t.s = s ∧ TkIn T1 v t)
    (fin : ∀ h' tk' z pls n S, Rep h₁ h' ((fa, lawF2 w l pl tk t1 t2 t3 x y z) :: (pl, listObj pls n) :: (S ++ T0)) → All2 (PlIn (S ++ T0)) pls (P0 ++ rowPl (decide (x.at_ > 0)) (tks.take ws.length)) → (ws ≠ [] → z ≠ none) → R (.ok .next) ⟨h', g, d, tk', os⟩)
    {h : Heap} {tkn : Nat} {z : Option LC} {pls : List Value} {n : Nat} (RR : Rep h₁ h ((en2, enumO it2 0 .none .none) :: (it2, itObj x.wa 0) :: (fa, lawF2 w l pl tk t1 t2 t3 x y z) :: (pl, listObj pls n) :: T0)) (hp : All2 (PlIn T0) pls P0) :
    codeAny (model prg w) A (.forLoop (mT w) (.ref en2) (mBody w) [] (mEnv w fa)) R ⟨h, g, d, tkn, os⟩ := by
  have K0 := kn_none (b := b) (c := c) hk
  have hz := sizeLine_eq
  refine codeAny_forLoop_any (fun k s => ∃ i h tkn old z pls n S, s = ⟨h, g, d, tkn, os⟩ ∧ k = ws.length - i ∧ i ≤ ws.length ∧ Rep h₁ h ((en2, enumO it2 (i : Nat) .none old) :: (it2, itObj x.wa i) :: (fa, lawF2 w l pl tk t1 t2 t3 x y z) :: (pl, listObj pls n) :: (S ++ T0)) ∧ All2 (PlIn (S ++ T0)) pls (P0 ++ (rowPl (decide (x.at_ > 0)) (tks.take ws.length)).take i) ∧ (i ≠ 0 → z ≠ none))
    (fun k s hI => ?_) ws.length ⟨0, h, tkn, .none, z, pls, n, [], rfl, rfl, Nat.zero_le _, RR, by simpa using hp, fun e => absurd rfl e⟩
  clear RR hp
  obtain ⟨i, h, tkn, old, z, pls, n, S, rfl, rfl, hi, RR, hp, hzn⟩ := hI
  have htl : ws.length ≤ tks.length := by
    rcases Nat.eq_zero_or_pos ws.length with e | e
    · omega
    · obtain ⟨s, hs⟩ : ∃ s, ws[ws.length - 1]? = some s := ⟨_, List.getElem?_eq_getElem (by omega)⟩
      obtain ⟨v, t, _, ht, _⟩ := hit _ s hs
      have := (List.getElem?_eq_some_iff.mp ht).1
      omega
  rw [zpyNext_eq]
  cases hv : ws[i]? with
  | none =>
    have hil : i = ws.length := by have := List.getElem?_eq_none_iff.mp hv; omega
    have hv' : vs[i]? = none := List.getElem?_eq_none_iff.mpr (by omega)
    refine out_ms (by_runs W K0 hL hA (fun ad => enEnd_run w b c ad en2 it2 x.wa vs n1 i _ old _) trivial rfl RR (ot_cons (oEnd_ok hwa hv') ot_nil) fun ad h' tk' R' => wpAny_pure ?_)
    have hall : (rowPl (decide (x.at_ > 0)) (tks.take ws.length)).take i = rowPl (decide (x.at_ > 0)) (tks.take ws.length) := by
      apply List.take_of_length_le
      rw [rowPl_len, List.length_take]
      omega
    rw [hall] at hp
    refine wpAny_pure (fin h' tk' z pls n S R' hp fun hne => hzn ?_)
    intro e
    exact hne (List.eq_nil_of_length_eq_zero (by omega))
  | some s =>
    have hlt : i < ws.length := (List.getElem?_eq_some_iff.mp hv).1
    obtain ⟨u, hu⟩ := strsOf_get hvs hvl hv
    obtain ⟨v, t, hiv, htk, hts, F⟩ := hit i s hv
    obtain ⟨tok, dd, u', ea, lt, lk, rfl, hm⟩ := F
    have g1 := hT1 _ hm
    have hpl : pls.length ≤ 212 := by
      rw [hp.len, List.length_append, List.length_take, rowPl_len, List.length_take]
      omega
    refine out_ms (by_runs W K0 hL hA (fun ad => enNext_run w b c ad en2 it2 x.wa vs n1 i i (.str s u) old _) trivial rfl RR (ot_cons (oNext_ok hwa hu) ot_nil) fun ad h1 tk1 R1 => wpAny_pure ?_)
    refine let_owned (j := 0) (.inr rfl) R1 rfl fun h2 R2 => ?_
    rw [zassign_eq]
    refine out_ms (by_runs W K0 hL hA (fun ad' => mAssign_run w b c ad' l pl tk fa (ad 3) t1 t2 t3 x y z i (ad 2) s u _ _ _) trivial rfl R2 ot_nil fun ad' h3 tk3 R3 => wpAny_pure ?_)
    rw [zexecs_eq]
    have K1 : Kn (par w b c [(y.ln, listObj items m), (tok, tokO dd [.int (kindA t.s).1 (kindA t.s).2, .str t.s u', .ref t.sa, .ref ea, .str lt lk])]) h₁ := kn_of hk (by
      intro p hp
      simp only [List.mem_cons, List.not_mem_nil, or_false] at hp
      rcases hp with rfl | rfl
      · exact hln
      · exact g1)
    have hzi : (mkC z ad' i (ad 2) s u).i = i := by cases z <;> rfl
    have hzs : (mkC z ad' i (ad 2) s u).s = s := by cases z <;> rfl
    have hget : OrcOk L prg w h₁ g d os (oGet (.base y.ln) items m (mkC z ad' i (ad 2) s u).i (.ref tok)) := by
      rw [hzi]
      have : i < items.length := (List.getElem?_eq_some_iff.mp hiv).1
      exact oGet_ok (k := i) hln (by omega) (by omega) (by rw [seqIndex_of (by omega) (by omega)]; rfl) hiv
    have happ : ∀ j, OrcOk L prg w h₁ g d os (oApp j pls n) := fun j => oApp_ok (by omega)
    have htake : (tks.take ws.length)[i]? = some t := by rw [List.getElem?_take, if_pos hlt]; exact htk
    have hrow := rowPl_get (f := decide (x.at_ > 0)) htake
    by_cases h0 : i = 0
    · subst h0
      have heq : OrcOk L prg w h₁ g d os (oEqI (mkC z ad' (0 : Nat) (ad 2) s u).i 0 true) := oEqI_ok (by rw [hzi]; rfl)
      refine out_ms (by_runs W K1 hL hA (fun ad'' => mBodyT_run w b c ad'' l pl tk fa tok dd t.sa ea t1 t2 t3 x y _ items m _ _ t.s u' lt lk pls n (decide (x.at_ > 0)) _ _ _) trivial rfl R3
        (ot_cons hget (ot_cons heq (ot_cons (oGt_ok rfl) (ot_cons (happ 4) ot_nil)))) fun ad'' h4 tk4 R4 => wpAny_pure ?_)
      refine ⟨ws.length - 1, by omega, 1, h4, tk4, .str s u, some (mkC z ad' ((0 : Nat) : Int) (ad 2) s u), pls ++ [Value.ref (ad'' 9)], n + 1, (ad'' 9, tupObj [.str (mkC z ad' ((0 : Nat) : Int) (ad 2) s u).s (mkC z ad' ((0 : Nat) : Int) (ad 2) s u).u, .ref t.sa, .bool (decide (x.at_ > 0))] 0) :: S, rfl, rfl, by omega, R4, ?_, fun _ e => by cases e⟩
      have hz1 := hp
      rw [List.take_add_one, hrow]
      rw [← List.append_assoc]
      refine (hp.imp fun a b h => h.more fun x hx => .tail _ hx).snoc ⟨ad'' 9, (mkC z ad' ((0 : Nat) : Int) (ad 2) s u).u, rfl, ?_⟩
      rw [hzs, hts]
      exact .head _
    · have heq : OrcOk L prg w h₁ g d os (oEqI (mkC z ad' i (ad 2) s u).i 0 false) := oEqI_ok (by rw [hzi]; exact beq_false_of_ne (by omega))
      refine out_ms (by_runs W K1 hL hA (fun ad'' => mBodyF_run w b c ad'' l pl tk fa tok dd t.sa ea t1 t2 t3 x y _ items m _ _ t.s u' lt lk pls n _ _ _) trivial rfl R3
        (ot_cons hget (ot_cons heq (ot_cons (happ 4) ot_nil))) fun ad'' h4 tk4 R4 => wpAny_pure ?_)
      refine ⟨ws.length - (i + 1), by omega, i + 1, h4, tk4, .str s u, some (mkC z ad' (i : Int) (ad 2) s u), pls ++ [Value.ref (ad'' 6)], n + 1, (ad'' 6, tupObj [.str (mkC z ad' (i : Int) (ad 2) s u).s (mkC z ad' (i : Int) (ad 2) s u).u, .ref t.sa, .bool false] 0) :: S, rfl, rfl, by omega, R4, ?_, fun _ e => by cases e⟩
      rw [List.take_add_one, hrow, ← List.append_assoc]
      refine (hp.imp fun a b h => h.more fun x hx => .tail _ hx).snoc ⟨ad'' 6, (mkC z ad' (i : Int) (ad 2) s u).u, rfl, ?_⟩
      have hb : (Nat.beq i 0 && decide (x.at_ > 0)) = false := by
        cases i with
        | zero => exact absurd rfl h0
        | succ i => rfl
      rw [hb, hzs, hts]
      exact .head _
end
end Mine
end

section
open PySem PySem.W PySem.W.X PySem.Calls PyProof.Rows
set_option maxHeartbeats 0
namespace Mine
theorem Rep.perm {h₀ h : Heap} {st st' : Store} (R : Rep h₀ h st) (p : st.Perm st') : Rep h₀ h st' :=
  ⟨R.keep, fun q hq => R.own q (p.mem_iff.mpr hq), (p.map Prod.fst).nodup_iff.mp R.nd⟩
theorem perm3 {α : Type} (S T : List α) (a b c : α) : (S ++ (a :: b :: c :: T)).Perm (c :: a :: b :: (S ++ T)) :=
  (List.perm_append_comm_assoc S [a, b, c] T).trans (List.perm_middle (l₁ := [a, b]))
theorem PlIn.less {S T : Store} {v : Value} {p : Pl} {en it tk : Addr} {i2 : Addr} {k : Int} {f0 old : Value} {la : Addr} {j : Nat} {xs : List Value} {m : Nat}
    (h : PlIn (S ++ ((en, enumO i2 k f0 old) :: (it, itObj la j) :: (tk, listObj xs m) :: T)) v p) : PlIn (S ++ T) v p := by
  obtain ⟨a, u, e, h⟩ := h
  refine ⟨a, u, e, ?_⟩
  rcases List.mem_append.mp h with q | q
  · exact List.mem_append_left _ q
  · rcases List.mem_cons.mp q with q | q
    · have := congrArg (fun x : Addr × Obj => x.2.cls) q
      simp [tupObj, enumO, fldO] at this
    · rcases List.mem_cons.mp q with q | q
      · have := congrArg (fun x : Addr × Obj => x.2.cls) q
        simp [tupObj, itObj] at this
      · rcases List.mem_cons.mp q with q | q
        · have := congrArg (fun x : Addr × Obj => x.2.cls) q
          simp [tupObj, listObj] at this
        · exact List.mem_append_right _ q
inductive Built : List (List Str × Bool) → List Tk → List Pl → Prop
  | nil : Built [] [] []
  | snoc {rows td P} (p : List Str × Bool) (tw tr : List Tk) (nl : Tk) : Built rows td P → tw.map Tk.s = p.1 → tr.map Tk.s = (bif p.2 then [remark] else []) → nl.s = newline →
      Built (rows ++ [p]) (td ++ (tw ++ tr ++ [nl])) (P ++ rowPl (decide (0 < rows.length)) tw)
theorem Built.lens {rows td P} (h : Built rows td P) : P.length = (rows.map fun p => p.1.length).sum ∧ td.length ≤ (rows.map fun p => p.1.length).sum + 2 * rows.length := by
  induction h with
  | nil => exact ⟨rfl, Nat.le_refl _⟩
  | snoc p tw tr nl _ e1 e2 _ ih =>
    have l1 : tw.length = p.1.length := by rw [← e1, List.length_map]
    have l2 : tr.length ≤ 1 := by
      have : (tr.map Tk.s).length ≤ 1 := by rw [e2]; cases p.2 <;> simp
      simpa using this
    constructor
    · simp only [List.length_append, rowPl_len, List.map_append, List.map_cons, List.map_nil, List.sum_append, List.sum_cons, List.sum_nil]
      omega
    · simp only [List.length_append, List.map_append, List.map_cons, List.map_nil, List.sum_append, List.sum_cons, List.sum_nil, List.length_cons, List.length_nil]
      omega
theorem sum_take (rows : List (List Str × Bool)) (i : Nat) : ((rows.take i).map fun p => p.1.length).sum ≤ (rows.map fun p => p.1.length).sum := by
  have : rows.map (fun p => p.1.length) = (rows.take i).map (fun p => p.1.length) ++ (rows.drop i).map (fun p => p.1.length) := by rw [← List.map_append, List.take_append_drop]
  rw [this, List.sum_append]
  omega
theorem All2.app {α β : Type} {F : α → β → Prop} : ∀ {l₁ : List α} {l₂ : List β} {m₁ : List α} {m₂ : List β}, All2 F l₁ l₂ → All2 F m₁ m₂ → All2 F (l₁ ++ m₁) (l₂ ++ m₂)
  | _, _, _, _, .nil, h => h
  | _, _, _, _, .cons a t, h => .cons a (t.app h)
section
variable {w : World} {A : Around} {L : Nat} {h₀ : Heap} {g : Array GenState} {d : Drawn} {os : OsState} {b c : Bool}
theorem rows_law (W : Wd w b c) (hk : KT.Holds h₀ 1 0 (ktop w.params)) (hL : L ≤ 6) (hA : Lev L A) {R : Result → Shared → Prop} {l pl fa en it la : Addr} {t1 t2 t3 : Tok} {rs : List Value} {nr : Nat} {rows : List (List Str × Bool)} {T0 : Store}
    (hla : h₀.get? la = some (listObj rs nr)) (hT0 : ∀ p ∈ T0, h₀.get? p.1 = some p.2) (hr : All2 (RowIn T0) rs rows) (ok : RowsOk rows) (hrl : rs.length ≤ 13)
    (fin : ∀ h' tk' o tk pls n toks m T td P, Rep h₀ h' ((fa, lawFO w l pl tk t1 t2 t3 o) :: (pl, listObj pls n) :: (tk, listObj toks m) :: T) → All2 (TkIn T) toks td → All2 (PlIn T) pls P → Built rows td P → o ≠ none → R (.ok .next) ⟨h', g, d, tk', os⟩)
    {h : Heap} {tkn : Nat} {tk : Addr} (RR : Rep h₀ h ((en, enumO it 0 .none .none) :: (it, itObj la 0) :: (fa, lawFO w l pl tk t1 t2 t3 none) :: (pl, listObj [] 0) :: (tk, listObj [] 0) :: [])) :
    codeAny (model prg w) A (.forLoop (lT w) (.ref en) (lBody w) [] (lEnv w fa)) R ⟨h, g, d, tkn, os⟩ := by
  have K0 := kn_none (b := b) (c := c) hk
  have hz := sizeLine_eq
  have hrows := hr.len
  refine codeAny_forLoop_any (fun k s => ∃ i h tkn old o tk pls n toks m T td P, s = ⟨h, g, d, tkn, os⟩ ∧ k = rs.length - i ∧ i ≤ rs.length ∧ Rep h₀ h ((en, enumO it (i : Nat) .none old) :: (it, itObj la i) :: (fa, lawFO w l pl tk t1 t2 t3 o) :: (pl, listObj pls n) :: (tk, listObj toks m) :: T) ∧ All2 (TkIn T) toks td ∧ All2 (PlIn T) pls P ∧ Built (rows.take i) td P ∧ (i ≠ 0 → o ≠ none))
    (fun k s hI => ?_) rs.length ⟨0, h, tkn, .none, none, tk, [], 0, [], 0, [], [], [], rfl, rfl, Nat.zero_le _, RR, .nil, .nil, by rw [List.take_zero]; exact .nil, fun e => absurd rfl e⟩
  clear RR
  obtain ⟨i, h, tkn, old, o, tk, pls, n, toks, m, T, td, P, rfl, rfl, hi, RR, htd, hP, hB, hon⟩ := hI
  rw [zpyNext_eq]
  cases hv : rs[i]? with
  | none =>
    have hil : i = rs.length := by have := List.getElem?_eq_none_iff.mp hv; omega
    refine out_ms (by_runs W K0 (by omega) hA (fun ad => enEnd_run w b c ad en it la rs nr i _ old _) trivial rfl RR (ot_cons (oEnd_ok hla hv) ot_nil) fun ad h' tk' R' => wpAny_pure ?_)
    have hall : rows.take i = rows := by rw [hil, hrows]; exact List.take_length
    rw [hall] at hB
    exact wpAny_pure (fin h' tk' o tk pls n toks m T td P R' htd hP hB (hon (by
      have := ok.ne
      intro e
      exact this (List.eq_nil_of_length_eq_zero (by omega)))))
  | some v =>
    have hlt : i < rs.length := (List.getElem?_eq_some_iff.mp hv).1
    obtain ⟨p, hp, F⟩ := hr.get hv
    obtain ⟨ra, wa, n2, n3, vs, rfl, m1, m2, hvs, hvl⟩ := F
    have g1 := hT0 _ m1
    have g2 := hT0 _ m2
    have hpm := ok.words p (List.mem_of_getElem? hp)
    have hsum := ok.few
    have hlens := hB.lens
    have hst := sum_take rows i
    have hst1 := sum_take rows (i + 1)
    have htake : rows.take (i + 1) = rows.take i ++ [p] := by rw [List.take_add_one, hp]; rfl
    have hpl : p.1.length ≤ 12 := by
      rw [htake] at hst1
      simp only [List.map_append, List.map_cons, List.map_nil, List.sum_append, List.sum_cons, List.sum_nil] at hst1
      omega
    have hppos : 0 < p.1.length := by
      cases hq : p.1 with
      | nil => exact absurd hq hpm.1
      | cons => simp
    refine out_ms (by_runs W K0 (by omega) hA (fun ad => enNext_run w b c ad en it la rs nr i i (.ref ra) old _) trivial rfl RR (ot_cons (oNext_ok hla hv) ot_nil) fun ad h1 tk1 R1 => wpAny_pure ?_)
    refine let_owned (j := 0) (.inr rfl) R1 rfl fun h2 R2 => ?_
    rw [zassign_eq]
    have K1 : Kn (par w b c [(ra, listObj [.ref wa, .bool p.2] n2)]) h₀ := kn_of hk (by intro q hq; rw [List.mem_singleton] at hq; subst hq; exact g1)
    refine out_ms (by_runs W K1 (by omega) hA (fun ad' => lAssign_run w b c ad' l pl tk fa (ad 3) ra wa p.2 n2 t1 t2 t3 i (ad 2) o _ _ _) trivial rfl R2 ot_nil fun ad' h3 tk3 R3 => wpAny_pure ?_)
    rw [zexecs_eq]
    obtain ⟨x, hx⟩ : ∃ x, x = mkA o ad' i (ad 2) wa p.2 := ⟨_, rfl⟩
    have hxw : x.wa = wa := by rw [hx]; cases o <;> rfl
    have hxa : x.at_ = i := by rw [hx]; cases o <;> rfl
    have hxr : x.hr = p.2 := by rw [hx]; cases o <;> rfl
    rw [← hx] at R3
    refine out_ms (by_runs W K0 (by omega) hA (fun ad'' => lawB1_run w b c ad'' l pl tk fa t1 t2 t3 x o _ _ _) trivial rfl R3 ot_nil fun ad'' h4 tk4 R4 => ?_)
    rw [hxw, hxa, hxr]
    have hcall := lawB1_call w fa wa i (ad'' 1) p.2
    simp only [Prod.mk.injEq] at hcall
    have ca := Bool.and_eq_true_iff.mp hcall.1
    refine ms_call (by omega) hA (md := lawB1Md w _ _ _ _ _) (md_ok ca.2) ca.1 fun A1 hA1 => ?_
    rw [hcall.2]
    have hk4 := hk.keeps R4.keep
    refine out_ms (line_fn W hk4 (by omega) hA1 (R4.keep _ _ g2) hvs hvl hpm.2 hpl hppos fun h5 tk5 T' ln fs nl m5 R5 hf hnl => ?_)
    have R6 := (R4.trans R5).swap
    obtain ⟨h₁, R7, k7, f7⟩ := R6.rebase
    have hk7 := hk.keeps k7
    have hwa7 : h₁.get? x.wa = some (listObj vs n3) := by rw [hxw]; exact k7 _ _ g2
    refine by_runs (ro := []) W (kn_none hk7) (by omega) hA (fun ad3 => lawB2_run w b c ad3 l pl tk fa wa ln i (ad'' 1) p.2 t1 t2 t3 x o _ _ _ _ _) (cont_ok (md_ok ca.2)) rfl R7 (ot_cons (oEnumB_ok hwa7) ot_nil) fun ad3 h8 tk8 R8 => ?_
    have hcall2 := lawB2_call w fa (ad3 1) (ad3 2)
    simp only [Prod.mk.injEq] at hcall2
    have cb := Bool.and_eq_true_iff.mp hcall2.1
    refine ms_call (by omega) hA (md := lawB2Md w _ _ _) (md_ok cb.2) cb.1 fun A2 hA2 => ?_
    rw [hcall2.2]
    have hyl : (mkB o (ad3 0) ln).ln = ln := by cases o <;> rfl
    have hlw : lineWords p.1 p.2 = p.1 ++ (bif p.2 then [remark] else []) := by unfold lineWords; cases p.2 <;> rfl
    have hlwa : ∀ s ∈ lineWords p.1 p.2, s ∈ allL := by
      intro s hs
      rw [hlw] at hs
      rcases List.mem_append.mp hs with q | q
      · exact .tail _ (hpm.2 s q)
      · cases hb : p.2 with
        | true => rw [hb] at q; simp at q; subst q; exact .head _
        | false => rw [hb] at q; simp at q
    obtain ⟨tks0, etk, htk⟩ := tks_of hf hlwa
    obtain ⟨sn, hnl'⟩ := nl_tk hnl
    have hfl := htk.len
    have htl : tks0.length = (lineWords p.1 p.2).length := by rw [← etk, List.length_map]
    have hll : (lineWords p.1 p.2).length ≤ p.1.length + 1 := by rw [hlw]; cases p.2 <;> simp
    have hll0 : p.1.length ≤ (lineWords p.1 p.2).length := by rw [hlw]; simp
    have hln7 : h₁.get? (mkB o (ad3 0) ln).ln = some (listObj (fs ++ [nl]) m5) := by rw [hyl]; exact f7 _ (.head _)
    have hitx : ∀ j : Nat, ∀ s, p.1[j]? = some s → ∃ v t, (fs ++ [nl])[j]? = some v ∧ (tks0 ++ [⟨newline, sn⟩])[j]? = some t ∧ t.s = s ∧ TkIn T' v t := by
      intro j s hs
      have hj : j < p.1.length := (List.getElem?_eq_some_iff.mp hs).1
      have hjf : j < fs.length := by omega
      obtain ⟨t, ht, F⟩ := htk.get (List.getElem?_eq_getElem hjf)
      refine ⟨fs[j], t, by rw [List.getElem?_append_left hjf]; exact List.getElem?_eq_getElem hjf, by rw [List.getElem?_append_left (by omega)]; exact ht, ?_, F⟩
      have e1 : (tks0.map Tk.s)[j]? = some t.s := by rw [List.getElem?_map, ht]; rfl
      rw [etk, hlw, List.getElem?_append_left hj, hs] at e1
      exact (Option.some.inj e1).symm
    refine x_call (words_loop W hk7 (by omega) hA2.mark (T1 := T') hwa7 hln7 (fun q hq => f7 q (.tail _ hq)) hvs hvl hpl (by omega) hitx (fun h9 tk9 z pls' n' S R9 hP9 hzn => wpAny_pure ?_) R8 (hP.imp fun a b q => q.more fun x hx => .tail _ (.tail _ (.tail _ hx)))) (by intro e; cases e)
    cases z with
    | none => exact absurd rfl (hzn hpm.1)
    | some zz =>
      have R9' := R9.perm (.cons _ (.cons _ (perm3 S T _ _ _)))
      have K9 : Kn (par w b c [((mkB o (ad3 0) ln).ln, listObj (fs ++ [nl]) m5)]) h₁ := kn_of hk7 (by intro q hq; rw [List.mem_singleton] at hq; subst hq; exact hln7)
      have htdl := htd.len
      have hrli : (rows.take i).length = i := by rw [List.length_take]; omega
      refine by_runs W K9 (by omega) hA (fun ad4 => lawB3_run w b c ad4 l pl tk fa (ad3 1) (ad3 2) t1 t2 t3 x (mkB o (ad3 0) ln) zz toks (fs ++ [nl]) m m5 _ _ _ _) (cont_ok (md_ok cb.2)) rfl R9' (ot_cons (oCat_ok trivial hln7 (by simp only [List.length_append, List.length_cons, List.length_nil]; omega)) ot_nil) fun ad4 h10 tk10 R10 => wpAny_pure ?_
      have R11 := R6.join k7 f7 R10
      refine ⟨rs.length - (i + 1), by omega, i + 1, h10, tk10, .ref ra, some (x, mkB o (ad3 0) ln, zz), ad4 0, pls', n', toks ++ (fs ++ [nl]), 0, (S ++ T) ++ ((ln, listObj (fs ++ [nl]) m5) :: T'), td ++ (tks0.take p.1.length ++ tks0.drop p.1.length ++ [⟨newline, sn⟩]), P ++ rowPl (decide (0 < (rows.take i).length)) (tks0.take p.1.length), rfl, rfl, by omega, R11, ?_, ?_, ?_, fun _ e => by cases e⟩
      · rw [List.take_append_drop]
        refine (htd.imp fun a b q => q.more fun x hx => List.mem_append_left _ (List.mem_append_right _ hx)).app (All2.snoc (htk.imp fun a b q => q.more fun x hx => List.mem_append_right _ (.tail _ hx)) (hnl'.more fun x hx => List.mem_append_right _ (.tail _ hx)))
      · have e1 : (tks0 ++ [(⟨newline, sn⟩ : Tk)]).take p.1.length = tks0.take p.1.length := by rw [List.take_append_of_le_length (by omega)]
        have e2 : decide (x.at_ > 0) = decide (0 < (rows.take i).length) := by rw [hxa, hrli]; exact decide_eq_decide.mpr (by omega)
        rw [e1, e2] at hP9
        exact hP9.imp fun a b q => q.less.more fun x hx => List.mem_append_left _ hx
      · rw [htake]
        refine .snoc p _ _ _ hB ?_ ?_ rfl
        · rw [List.map_take, etk, hlw]; simp
        · rw [List.map_drop, etk, hlw]; simp
end
end Mine
end

section
open PySem PySem.W PySem.W.X PySem.Calls PyProof.Rows
namespace Mine
noncomputable def oDrop (x : Src) (xs : List Value) (n : Nat) (j : Nat) : Orc := ⟨.builtin "list.__getitem__", false, fun args st => match args with
  | [.ref a, .ref b] => match nth st j with
    | some p => match p.2.data with
      | .fields vs => match vs.toList with
        | [u, v, w] => match u with
          | .int i t => some { look := [x.look a (listObj xs n) st, (.o (some p), .o (some (b, fldO "slice" [.int i t, v, w]))), (.i i, .i 1), (.l [v, w], .l [.none, .none])], res := fun t _ => .ok (.ret (.ref t)), upd := fun t _ st => (t, listObj (xs.drop 1) 0) :: st }
          | _ => none
        | _ => none
      | _ => none
    | none => none
  | _ => none⟩
section
variable {prog : Program} {w : World} {A : Around} {L : Nat} {h₀ : Heap} {g : Array GenState} {d : Drawn} {os : OsState}
theorem pick1 (xs : List Value) : slicePick ⟨xs⟩ (some 1) none none = (xs.drop 1).toArray := by
  exact slicePick_from' ⟨xs⟩ 1
theorem oDrop_ok {x : Src} {xs : List Value} {n j : Nat} (hx : x.ok h₀ (listObj xs n)) (e : xs.length ≤ sizeLine) : OrcOk L prog w h₀ g d os (oDrop x xs n j) := by
  intro A' args r st h tk hA R hr hl
  unfold oDrop at hr
  dsimp only at hr
  split at hr
  · rename_i a b
    split at hr
    · rename_i p hp
      split at hr
      · rename_i vs hd
        split at hr
        · rename_i u v w' hv
          split at hr
          · rename_i i t'
            cases hr
            have hg := Src.get R hx (hl _ (.head _))
            have e1 : some p = some (b, fldO "slice" [.int i t', v, w']) := OV.o.inj (hl _ (.tail _ (.head _)))
            have e2 : i = 1 := OV.i.inj (hl _ (.tail _ (.tail _ (.head _))))
            have e3 := OV.l.inj (hl _ (.tail _ (.tail _ (.tail _ (.head _)))))
            simp only [List.cons.injEq, and_true] at e3
            obtain ⟨e4, e5⟩ := e3
            subst e2 e4 e5
            have hs := nth_own R (hp.trans e1)
            have hTs : (Shared.mk h g d tk os).TypeIs (.ref b) "slice" := ⟨_, hs, rfl⟩
            refine orc_call (wpAny_call_entry (s := ⟨h, g, d, tk, os⟩) slot_list_getitem ⟨_, hg, rfl⟩ entry_list_getitem ?_ (args_list_getitem _ _))
            show wpAny _ _ (Builtin.List.listSubscript? (.ref b) >>= _) _ _ _
            refine wpAny_bind ?_
            unfold Builtin.List.listSubscript?
            refine wpAny_bind (wpAny_specialOf hTs slice_no_index ?_)
            simp only [Option.isNone_none, if_true]
            refine wpAny_pure ?_
            show wpAny _ _ (typeOf (.ref b) >>= _) _ _ _
            refine wpAny_bind (wpAny_typeOf hTs ?_)
            rw [if_neg (by decide)]
            rw [listSliceParts_eq]
            refine wpAny_bind (wpAny_bind (wpAny_field hs rfl (x := .none) rfl (wpAny_bind (wpAny_listPart .none ?_))))
            rw [if_neg (by decide)]
            refine wpAny_bind (wpAny_field hs rfl (x := .int 1 t') rfl (wpAny_bind (wpAny_listPart (.int 1 t') ?_)))
            refine wpAny_bind (wpAny_field hs rfl (x := .none) rfl (wpAny_bind (wpAny_listPart .none (wpAny_pure ?_))))
            refine wpAny_bind (m := Builtin.List.listItems (.ref a)) ?_
            unfold Builtin.List.listItems
            refine wpAny_bind (wpAny_seqItems hg rfl (wpAny_pure ?_))
            refine wpAny_bind (wpAny_of_eq (sliceIndices_raw (some 1) none none xs.length (by simp)) ?_)
            refine wpAny_bind (wpAny_newObj_type (wpAny_pure ⟨_, rfl, ?_⟩) (Nat.le_trans (slicePick_size_le ⟨xs⟩ (some 1) none none) e))
            refine ⟨h.objs.size, 0, _, tk, rfl, rfl, ?_⟩
            have r1 := R.alloc (o := listObj (xs.drop 1) 0) rfl
            have e9 : listObj (xs.drop 1) 0 = { cls := Value.type "list", data := Data.seq (slicePick ⟨xs⟩ (some 1) none none) } := by
              rw [pick1]; rfl
            dsimp only
            rw [e9] at r1 ⊢
            exact r1
          · cases hr
        · cases hr
      · cases hr
    · cases hr
  · cases hr
end
end Mine
end

section
open PySem PySem.W PySem.W.X PySem.Calls PyProof.Rows
set_option maxHeartbeats 0
namespace Mine
structure LD where
  p : LA × LB × LC
  ka : Tok
  af : Addr
  kb : Tok
  bf : Addr
noncomputable def ldE (w : World) (q : LD) : List DictEntry := [ent w "after" q.ka (.ref q.af), ent w "before" q.kb (.ref q.bf)]
noncomputable def lawF3 (w : World) (l pl tk : Addr) (t1 t2 t3 : Tok) (q : LD) : Obj := frm (law0E w l pl tk t1 t2 t3 ++ laE w q.p.1 ++ lbE w q.p.2.1 ++ lcE w (some q.p.2.2) ++ ldE w q) 11
theorem ls3_run (w : World) (b c : Bool) (ad : Strm) (fa l pl tk : Addr) (t1 t2 t3 : Tok) (p : LA × LB × LC) :
    let r := zrun (par w b c []) 65 (.out (zexecs' [lStmt w 2] (gEnv w 255 fa))) ad lAssign_hs' [(fa, lawFO w l pl tk t1 t2 t3 (some p))] [] [] []
    (r.1, r.2.obs.map Prod.fst, pickD [6, 4, 5] 7 r.2.st) = (.out (.pure .next), r.2.obs.map Prod.snd, [(fa, lawF3 w l pl tk t1 t2 t3 ⟨p, ad 6, ad 1, ad 7, ad 0⟩), (ad 1, listObj [] 0), (ad 0, listObj [] 0)]) := by
  cases b <;> kernel_rfl
noncomputable def law2_hs : List Nat := [0, 0, 1, 1, 2, 2, 2, 2, 2, 2, 1, 3, 3, 3, 1, 1, 1, 1, 1, 1, 1, 1, 1]
noncomputable def law2 (w : World) (b c : Bool) (ad : Strm) (l pl tk fa : Addr) (t1 t2 t3 : Tok) (q : LD) (pls : List Value) (n : Nat) (T : Store) : Md Flow × St :=
  zrun (par w b c [(pl, listObj pls n)]) 61 (.out (zexecs' [lStmt w 3] (gEnv w 255 fa))) ad law2_hs ((fa, lawF3 w l pl tk t1 t2 t3 q) :: T) [] [0] [oDrop (.base pl) pls n 0]
noncomputable def q0LD : LD := ⟨(⟨0, 0, 0, 0, 0, 0, false⟩, ⟨0, 0⟩, ⟨0, 0, 0, 0, ⟨#[]⟩, 0⟩), 0, 0, 0, 0⟩
noncomputable def law2Md (w : World) (fa zp : Addr) : Md Flow := (law2 w true true (fun _ => zp) 0 0 0 fa 0 0 0 q0LD [] 0 []).1
theorem law2_run (w : World) (b c : Bool) (ad : Strm) (l pl tk fa : Addr) (t1 t2 t3 : Tok) (q : LD) (pls : List Value) (n : Nat) (T : Store) :
    let r := law2 w b c ad l pl tk fa t1 t2 t3 q pls n T
    (r.1, r.2.obs.map Prod.fst, pickD [0, 1, 2, 3, 4, 5] 7 r.2.st) = (law2Md w fa (ad 8), r.2.obs.map Prod.snd,
      (ad 8, zipO (ad 6) (ad 7)) :: (ad 7, tupObj [.none, .none] 0) :: (ad 6, tupObj [.ref (ad 4), .ref (ad 5)] 0) :: (ad 5, itObj (ad 2) 0) :: (ad 4, itObj pl 0) :: (ad 2, listObj (pls.drop 1) 0) ::
       (fa, lawF3 w l pl tk t1 t2 t3 q) :: T) := by
  cases b <;> kernel_rfl
theorem law2_next (w : World) (fa zp : Addr) : contOf (.ok .next) (law2Md w fa zp) = .out (.pure .next) := by kernel_rfl
noncomputable def zLoop (w : World) (fa zp : Addr) : Code := codeOf (law2Md w fa zp)
noncomputable def zTgt (w : World) : Expr := tgtOf (zLoop w 0 0)
noncomputable def zBody (w : World) : List Stmt := bodyOf (zLoop w 0 0)
noncomputable def zEnv (w : World) (fa : Addr) : Env := envOf (zLoop w fa 0)
noncomputable def zT (w : World) : Expr := .Tuple (eltsOf (zTgt w)) (ctxOf (zTgt w)) (posOf' (zTgt w))
theorem law2_call (w : World) (fa zp : Addr) : (isCall (law2Md w fa zp) && okMd (law2Md w fa zp), codeOf (law2Md w fa zp)) = (true, .forLoop (zT w) (.ref zp) (zBody w) [] (zEnv w fa)) := by kernel_rfl
end Mine
end

section
open PySem PySem.W PySem.W.X PySem.Calls PyProof.Rows
set_option maxHeartbeats 0
namespace Mine
noncomputable def openL : List Str := [⟨#[40]⟩, ⟨#[44]⟩, ⟨#[91]⟩, ⟨#[123]⟩, ⟨#[59]⟩]
noncomputable def msg3 : Str := ⟨#[87, 53, 48, 51, 32, 108, 105, 110, 101, 32, 98, 114, 101, 97, 107, 32, 98, 101, 102, 111, 114, 101, 32, 98, 105, 110, 97, 114, 121, 32, 111, 112, 101, 114, 97, 116, 111, 114]⟩
noncomputable def msg4 : Str := ⟨#[87, 53, 48, 52, 32, 108, 105, 110, 101, 32, 98, 114, 101, 97, 107, 32, 97, 102, 116, 101, 114, 32, 98, 105, 110, 97, 114, 121, 32, 111, 112, 101, 114, 97, 116, 111, 114]⟩
structure LE where
  k1 : Tok
  pa : Addr
  k2 : Tok
  pb : Addr
noncomputable def lawF4 (w : World) (l pl tk : Addr) (t1 t2 t3 : Tok) (q : LD) (e : Option LE) : Obj := match e with
  | none => lawF3 w l pl tk t1 t2 t3 q
  | some e => frm (law0E w l pl tk t1 t2 t3 ++ laE w q.p.1 ++ lbE w q.p.2.1 ++ lcE w (some q.p.2.2) ++ ldE w q ++ [ent w "ahead" e.k1 (.ref e.pa), ent w "here" e.k2 (.ref e.pb)]) 13
noncomputable def owP (e : Option LE) : Obj := match e with
  | none => tupObj [.none, .none] 0
  | some e => tupObj [.ref e.pa, .ref e.pb] 0
noncomputable def zNext_hs : List Nat := [1, 1, 1, 1, 5, 1, 1, 1, 0, 9, 3, 3, 1, 3, 7, 3, 3, 1, 3, 3, 3, 1, 3, 1]
theorem zNext_run (w : World) (b c : Bool) (ad : Strm) (zp ow its i2 i1 pl p2 pa pb : Addr) (xs ys : List Value) (n m i : Nat) (e : Option LE) (T : Store) :
    let r := zrun (par w b c []) 33 (.out (zpyNext (.ref zp))) ad zNext_hs ((zp, zipO its ow) :: (ow, owP e) :: (its, tupObj [.ref i1, .ref i2] 0) :: (i2, itObj p2 i) :: (i1, itObj pl i) :: T) [] [1, 0]
      [oNext 4 (.base pl) pl xs n i (.ref pa), oNext 3 (.base p2) p2 ys m i (.ref pb)]
    (r.1, r.2.obs.map Prod.fst, pickD [1, 2, 3, 4, 5, 0] 6 r.2.st) = (.out (.pure (some (.ref (ad 4)))), r.2.obs.map Prod.snd,
      (zp, fldO "zip" [rawInt (ad 4), .bool false, .bool false, .ref its, .ref ow]) :: (ow, tupObj [.ref pa, .ref pb] 0) :: (its, tupObj [.ref i1, .ref i2] 0) :: (i2, itObj p2 (i + 1)) :: (i1, itObj pl (i + 1)) :: (ad 4, tupObj [.ref pa, .ref pb] 0) :: T) := by
  cases e <;> kernel_rfl
noncomputable def lk1 (e : Option LE) (x : Tok) : Tok := match e with
  | none => x
  | some e => e.k1
noncomputable def lk2 (e : Option LE) (x : Tok) : Tok := match e with
  | none => x
  | some e => e.k2
noncomputable def zAssign_hs : List Nat := [11, 11, 11, 11, 1, 1, 1, 1, 1, 13, 1, 0, 1, 1, 1, 1, 13, 1, 0, 1, 1, 1, 1, 13, 1, 0, 1, 19, 9, 19, 9]
theorem zAssign_run (w : World) (b c : Bool) (ad : Strm) (l pl tk fa tp pa pb : Addr) (t1 t2 t3 : Tok) (q : LD) (e : Option LE) (p0 p1 p2 p3 p4 : Addr × Obj) (T : Store) :
    let r := zrun (par w b c []) 60 (.out (zassign (zT w) (zEnv w fa) (.ref tp))) ad zAssign_hs (p0 :: p1 :: p2 :: p3 :: p4 :: (tp, tupObj [.ref pa, .ref pb] 0) :: (fa, lawF4 w l pl tk t1 t2 t3 q e) :: T) [] [] []
    (r.1, r.2.obs.map Prod.fst, pickD [3, 4, 5, 6, 7, 9] 10 r.2.st) = (.out (.pure ()), r.2.obs.map Prod.snd, p0 :: p1 :: p2 :: p3 :: p4 :: (fa, lawF4 w l pl tk t1 t2 t3 q (some ⟨lk1 e (ad 3), pa, lk2 e (ad 4), pb⟩)) :: T) := by
  cases e <;> cases b <;> kernel_rfl

noncomputable def zBodyA_hs : List Nat := [11, 4, 4, 4, 4, 4]
theorem zBodyA_run (w : World) (b c : Bool) (ad : Strm) (l pl tk fa a1 a2 : Addr) (t1 t2 t3 : Tok) (q : LD) (e : LE) (s1 s2 : Str) (u1 u2 : Tok) (f1 : Bool) (bs as : List Value) (n m : Nat) (p0 p1 p2 p3 p4 : Addr × Obj) (T : Store) :
    let r := zrun (par w b c [(e.pa, tupObj [.str s1 u1, .ref a1, .bool f1] 0), (e.pb, tupObj [.str s2 u2, .ref a2, .bool false] 0)]) 14 (.out (zexecs (zBody w) (zEnv w fa))) ad zBodyA_hs (p0 :: p1 :: p2 :: p3 :: p4 :: (fa, lawF4 w l pl tk t1 t2 t3 q (some e)) :: (q.bf, listObj bs n) :: (q.af, listObj as m) :: T) [] []
      []
    (r.1, r.2.obs.map Prod.fst, pickD [0, 1, 2, 3, 4, 5, 6, 7] 8 r.2.st) = (.out (.pure .next), r.2.obs.map Prod.snd, p0 :: p1 :: p2 :: p3 :: p4 :: (fa, lawF4 w l pl tk t1 t2 t3 q (some e)) :: (q.bf, listObj bs n) :: (q.af, listObj as m) :: T) := by
  cases b <;> kernel_rfl
noncomputable def zBodyB_hs : List Nat := [11, 4, 4, 4, 4, 4, 11, 2, 2, 2, 2, 2, 0, 0, 0, 0, 0, 1, 1]
theorem zBodyB_run (w : World) (b c : Bool) (ad : Strm) (l pl tk fa a1 a2 : Addr) (t1 t2 t3 : Tok) (q : LD) (e : LE) (s1 s2 : Str) (u1 u2 : Tok) (f1 : Bool) (bs as : List Value) (n m : Nat) (p0 p1 p2 p3 p4 : Addr × Obj) (T : Store) :
    let r := zrun (par w b c [(e.pa, tupObj [.str s1 u1, .ref a1, .bool f1] 0), (e.pb, tupObj [.str s2 u2, .ref a2, .bool true] 0)]) 51 (.out (zexecs (zBody w) (zEnv w fa))) ad zBodyB_hs (p0 :: p1 :: p2 :: p3 :: p4 :: (fa, lawF4 w l pl tk t1 t2 t3 q (some e)) :: (q.bf, listObj bs n) :: (q.af, listObj as m) :: T) [] [3]
      [oIn 0 openL s1 true]
    (r.1, r.2.obs.map Prod.fst, pickD [2, 3, 4, 5, 6, 7, 8, 9] 10 r.2.st) = (.out (.pure .next), r.2.obs.map Prod.snd, p0 :: p1 :: p2 :: p3 :: p4 :: (fa, lawF4 w l pl tk t1 t2 t3 q (some e)) :: (q.bf, listObj bs n) :: (q.af, listObj as m) :: T) := by
  cases b <;> kernel_rfl
noncomputable def zBodyC_hs : List Nat := [11, 4, 4, 4, 4, 4, 11, 2, 2, 2, 2, 2, 0, 0, 0, 0, 0, 1, 1, 15, 4, 4, 4, 4, 4, 0, 0, 0, 0, 0, 1, 1, 19, 2, 2, 2, 2, 2, 0, 0, 0, 0, 0, 1, 1]
theorem zBodyC_run (w : World) (b c : Bool) (ad : Strm) (l pl tk fa a1 a2 : Addr) (t1 t2 t3 : Tok) (q : LD) (e : LE) (s1 s2 : Str) (u1 u2 : Tok) (f1 : Bool) (bs as : List Value) (n m : Nat) (p0 p1 p2 p3 p4 : Addr × Obj) (T : Store) :
    let r := zrun (par w b c [(e.pa, tupObj [.str s1 u1, .ref a1, .bool f1] 0), (e.pb, tupObj [.str s2 u2, .ref a2, .bool true] 0)]) 129 (.out (zexecs (zBody w) (zEnv w fa))) ad zBodyC_hs (p0 :: p1 :: p2 :: p3 :: p4 :: (fa, lawF4 w l pl tk t1 t2 t3 q (some e)) :: (q.bf, listObj bs n) :: (q.af, listObj as m) :: T) [] [3, 2, 2]
      [oIn 0 openL s1 false, oIn 0 opsL s2 false, oIn 0 opsL s1 false]
    (r.1, r.2.obs.map Prod.fst, pickD [6, 7, 8, 9, 10, 11, 12, 13] 14 r.2.st) = (.out (.pure .next), r.2.obs.map Prod.snd, p0 :: p1 :: p2 :: p3 :: p4 :: (fa, lawF4 w l pl tk t1 t2 t3 q (some e)) :: (q.bf, listObj bs n) :: (q.af, listObj as m) :: T) := by
  cases b <;> kernel_rfl
noncomputable def zBodyD_hs : List Nat := [11, 4, 4, 4, 4, 4, 11, 2, 2, 2, 2, 2, 0, 0, 0, 0, 0, 1, 1, 15, 4, 4, 4, 4, 4, 0, 0, 0, 0, 0, 1, 1, 19, 2, 2, 2, 2, 2, 0, 0, 0, 0, 0, 1, 1, 23, 4, 4, 4, 4, 4, 0, 0, 0, 0, 0, 1, 1, 27, 31, 31, 31, 31, 27, 2, 2, 2, 2, 2]
theorem zBodyD_run (w : World) (b c : Bool) (ad : Strm) (l pl tk fa a1 a2 : Addr) (t1 t2 t3 : Tok) (q : LD) (e : LE) (s1 s2 : Str) (u1 u2 : Tok) (f1 : Bool) (bs as : List Value) (n m : Nat) (p0 p1 p2 p3 p4 : Addr × Obj) (T : Store) :
    let r := zrun (par w b c [(e.pa, tupObj [.str s1 u1, .ref a1, .bool f1] 0), (e.pb, tupObj [.str s2 u2, .ref a2, .bool true] 0)]) 194 (.out (zexecs (zBody w) (zEnv w fa))) ad zBodyD_hs (p0 :: p1 :: p2 :: p3 :: p4 :: (fa, lawF4 w l pl tk t1 t2 t3 q (some e)) :: (q.bf, listObj bs n) :: (q.af, listObj as m) :: T) [] [3, 2, 2, 2, 1]
      [oIn 0 openL s1 false, oIn 0 opsL s2 false, oIn 0 opsL s1 true, oIn 0 opsL s2 false, oApp 16 as m]
    (r.1, r.2.obs.map Prod.fst, pickD [9, 10, 11, 12, 13, 14, 15, 16, 0] 17 r.2.st) = (.out (.pure .next), r.2.obs.map Prod.snd, p0 :: p1 :: p2 :: p3 :: p4 :: (fa, lawF4 w l pl tk t1 t2 t3 q (some e)) :: (q.bf, listObj bs n) :: (q.af, listObj (as ++ [.ref (ad 46)]) (m + 1)) :: (ad 46, tupObj [.ref a1, .str msg4 (ad 45)] 0) :: T) := by
  cases b <;> kernel_rfl
noncomputable def zBodyE_hs : List Nat := [11, 4, 4, 4, 4, 4, 11, 2, 2, 2, 2, 2, 0, 0, 0, 0, 0, 1, 1, 15, 4, 4, 4, 4, 4, 0, 0, 0, 0, 0, 1, 1, 19, 2, 2, 2, 2, 2, 0, 0, 0, 0, 0, 1, 1, 23, 25, 25, 25, 25, 23, 4, 4, 4, 4, 4, 25, 2, 2, 2, 2, 2, 0, 0, 0, 0, 0, 1, 1]
theorem zBodyE_run (w : World) (b c : Bool) (ad : Strm) (l pl tk fa a1 a2 : Addr) (t1 t2 t3 : Tok) (q : LD) (e : LE) (s1 s2 : Str) (u1 u2 : Tok) (f1 : Bool) (bs as : List Value) (n m : Nat) (p0 p1 p2 p3 p4 : Addr × Obj) (T : Store) :
    let r := zrun (par w b c [(e.pa, tupObj [.str s1 u1, .ref a1, .bool f1] 0), (e.pb, tupObj [.str s2 u2, .ref a2, .bool true] 0)]) 194 (.out (zexecs (zBody w) (zEnv w fa))) ad zBodyE_hs (p0 :: p1 :: p2 :: p3 :: p4 :: (fa, lawF4 w l pl tk t1 t2 t3 q (some e)) :: (q.bf, listObj bs n) :: (q.af, listObj as m) :: T) [] [3, 2, 2, 1, 2]
      [oIn 0 openL s1 false, oIn 0 opsL s2 true, oIn 0 opsL s1 false, oApp 13 bs n, oIn 0 opsL s1 false]
    (r.1, r.2.obs.map Prod.fst, pickD [9, 10, 11, 12, 13, 14, 15, 16, 2] 17 r.2.st) = (.out (.pure .next), r.2.obs.map Prod.snd, p0 :: p1 :: p2 :: p3 :: p4 :: (fa, lawF4 w l pl tk t1 t2 t3 q (some e)) :: (q.bf, listObj (bs ++ [.ref (ad 35)]) (n + 1)) :: (q.af, listObj as m) :: (ad 35, tupObj [.ref a2, .str msg3 (ad 34)] 0) :: T) := by
  cases b <;> kernel_rfl
noncomputable def zBodyF_hs : List Nat := [11, 4, 4, 4, 4, 4, 11, 2, 2, 2, 2, 2, 0, 0, 0, 0, 0, 1, 1, 15, 4, 4, 4, 4, 4, 0, 0, 0, 0, 0, 1, 1, 19, 2, 2, 2, 2, 2, 0, 0, 0, 0, 0, 1, 1, 23, 2, 2, 2, 2, 2, 0, 0, 0, 0, 0, 1, 1, 27, 4, 4, 4, 4, 4, 0, 0, 0, 0, 0, 1, 1]
theorem zBodyF_run (w : World) (b c : Bool) (ad : Strm) (l pl tk fa a1 a2 : Addr) (t1 t2 t3 : Tok) (q : LD) (e : LE) (s1 s2 : Str) (u1 u2 : Tok) (f1 : Bool) (bs as : List Value) (n m : Nat) (p0 p1 p2 p3 p4 : Addr × Obj) (T : Store) :
    let r := zrun (par w b c [(e.pa, tupObj [.str s1 u1, .ref a1, .bool f1] 0), (e.pb, tupObj [.str s2 u2, .ref a2, .bool true] 0)]) 205 (.out (zexecs (zBody w) (zEnv w fa))) ad zBodyF_hs (p0 :: p1 :: p2 :: p3 :: p4 :: (fa, lawF4 w l pl tk t1 t2 t3 q (some e)) :: (q.bf, listObj bs n) :: (q.af, listObj as m) :: T) [] [3, 2, 2, 2, 2]
      [oIn 0 openL s1 false, oIn 0 opsL s2 true, oIn 0 opsL s1 true, oIn 0 opsL s1 true, oIn 0 opsL s2 true]
    (r.1, r.2.obs.map Prod.fst, pickD [10, 11, 12, 13, 14, 15, 16, 17] 18 r.2.st) = (.out (.pure .next), r.2.obs.map Prod.snd, p0 :: p1 :: p2 :: p3 :: p4 :: (fa, lawF4 w l pl tk t1 t2 t3 q (some e)) :: (q.bf, listObj bs n) :: (q.af, listObj as m) :: T) := by
  cases b <;> kernel_rfl
end Mine
end

section
open PySem PySem.W PySem.W.X PySem.Calls PyProof.Rows
set_option maxHeartbeats 0
namespace Mine
noncomputable def pairB (a h : Pl) : List Addr := bif h.f && (!anyStr openL a.s && (anyStr opsL h.s && !anyStr opsL a.s)) then [h.sa] else []
noncomputable def pairA (a h : Pl) : List Addr := bif h.f && (!anyStr openL a.s && (anyStr opsL a.s && !anyStr opsL h.s)) then [a.sa] else []
noncomputable def pairs (P : List Pl) : List (Pl × Pl) := P.zip (P.drop 1)
noncomputable def befores (P : List Pl) : List Addr := (pairs P).flatMap fun q => pairB q.1 q.2
noncomputable def afters (P : List Pl) : List Addr := (pairs P).flatMap fun q => pairA q.1 q.2
noncomputable def MsgIn (msg : Str) (T : Store) (v : Value) (sa : Addr) : Prop := ∃ x t, v = Value.ref x ∧ (x, tupObj [.ref sa, .str msg t] 0) ∈ T
theorem MsgIn.more {msg : Str} {T T' : Store} {v : Value} {sa : Addr} (h : MsgIn msg T v sa) (m : ∀ x ∈ T, x ∈ T') : MsgIn msg T' v sa := by
  obtain ⟨x, t, e, h⟩ := h
  exact ⟨x, t, e, m _ h⟩
theorem pairs_get {P : List Pl} {i : Nat} {q : Pl × Pl} (e : (pairs P)[i]? = some q) : P[i]? = some q.1 ∧ P[i + 1]? = some q.2 := by
  unfold pairs at e
  rw [List.getElem?_zip_eq_some] at e
  exact ⟨e.1, by have := e.2; rw [List.getElem?_drop] at this; rw [Nat.add_comm i 1]; exact this⟩
theorem pairs_len (P : List Pl) : (pairs P).length = P.length - 1 := by
  unfold pairs
  rw [List.length_zip, List.length_drop]
  omega
theorem flat_take {α β : Type} {f : α → List β} {l : List α} {i : Nat} {x : α} (e : l[i]? = some x) : (l.take (i + 1)).flatMap f = (l.take i).flatMap f ++ f x := by
  rw [List.take_add_one, e, List.flatMap_append]
  simp
noncomputable def zEnd_hs : List Nat := [1, 1, 1, 1, 5, 1, 1, 1, 0, 9, 3, 3, 1, 3, 7, 5, 2, 1]
theorem zEnd_run (w : World) (b c : Bool) (ad : Strm) (zp ow its i2 i1 pl p2 : Addr) (xs ys : List Value) (n m i : Nat) (v : Value) (e : Option LE) (T : Store) :
    let r := zrun (par w b c []) 25 (.out (zpyNext (.ref zp))) ad zEnd_hs ((zp, zipO its ow) :: (ow, owP e) :: (its, tupObj [.ref i1, .ref i2] 0) :: (i2, itObj p2 i) :: (i1, itObj pl i) :: T) [] [1, 0]
      [oNext 4 (.base pl) pl xs n i v, oEnd 3 (.base p2) p2 ys m i]
    (r.1, r.2.obs.map Prod.fst, pickD [] 7 r.2.st) = (.out (.pure none), r.2.obs.map Prod.snd, T) := by
  cases e <;> kernel_rfl
section
variable {w : World} {A : Around} {L : Nat} {h₁ : Heap} {g : Array GenState} {d : Drawn} {os : OsState} {b c : Bool}
theorem pairs_loop (W : Wd w b c) (hk : KT.Holds h₁ 1 0 (ktop w.params)) (hL : L ≤ 10) (hA : Lev L A) {R : Result → Shared → Prop} {l pl tk fa zp ow its i2 i1 p2 : Addr} {t1 t2 t3 : Tok} {q : LD} {pls : List Value} {n m2 : Nat} {P : List Pl} {T1 : Store}
    (hpl : h₁.get? pl = some (listObj pls n)) (hp2 : h₁.get? p2 = some (listObj (pls.drop 1) m2)) (hT1 : ∀ p ∈ T1, h₁.get? p.1 = some p.2) (hP : All2 (PlIn T1) pls P) (hlen : P.length ≤ 200) (hpos : 0 < P.length)
    (fin : ∀ h' tk' e bs n as m T, Rep h₁ h' ((fa, lawF4 w l pl tk t1 t2 t3 q e) :: (q.bf, listObj bs n) :: (q.af, listObj as m) :: T) → All2 (MsgIn msg3 T) bs (befores P) → All2 (MsgIn msg4 T) as (afters P) → R (.ok .next) ⟨h', g, d, tk', os⟩)
    {h : Heap} {tkn : Nat} (RR : Rep h₁ h ((zp, zipO its ow) :: (ow, tupObj [.none, .none] 0) :: (its, tupObj [.ref i1, .ref i2] 0) :: (i2, itObj p2 0) :: (i1, itObj pl 0) :: (fa, lawF3 w l pl tk t1 t2 t3 q) :: (q.bf, listObj [] 0) :: (q.af, listObj [] 0) :: [])) :
    codeAny (model prg w) A (.forLoop (zT w) (.ref zp) (zBody w) [] (zEnv w fa)) R ⟨h, g, d, tkn, os⟩ := by
  have K0 := kn_none (b := b) (c := c) hk
  have hz := sizeLine_eq
  have hpll := hP.len
  have hprl := pairs_len P
  refine codeAny_forLoop_any (fun k s => ∃ i h tkn e bs n as m T, s = ⟨h, g, d, tkn, os⟩ ∧ k = (pairs P).length - i ∧ i ≤ (pairs P).length ∧ Rep h₁ h ((zp, zipO its ow) :: (ow, owP e) :: (its, tupObj [.ref i1, .ref i2] 0) :: (i2, itObj p2 i) :: (i1, itObj pl i) :: (fa, lawF4 w l pl tk t1 t2 t3 q e) :: (q.bf, listObj bs n) :: (q.af, listObj as m) :: T) ∧
      All2 (MsgIn msg3 T) bs (((pairs P).take i).flatMap fun q => pairB q.1 q.2) ∧ All2 (MsgIn msg4 T) as (((pairs P).take i).flatMap fun q => pairA q.1 q.2) ∧ bs.length ≤ i ∧ as.length ≤ i)
    (fun k s hI => ?_) (pairs P).length ⟨0, h, tkn, none, [], 0, [], 0, [], rfl, rfl, Nat.zero_le _, RR, .nil, .nil, Nat.zero_le _, Nat.zero_le _⟩
  clear RR
  obtain ⟨i, h, tkn, e, bs, n3, as, m3, T, rfl, rfl, hi, RR, hb, ha, hbl, hal⟩ := hI
  rw [zpyNext_eq]
  cases hv : (pairs P)[i]? with
  | none =>
    have hil : i = (pairs P).length := by have := List.getElem?_eq_none_iff.mp hv; omega
    have hva : pls[i]? = some pls[i] := List.getElem?_eq_getElem (by omega)
    have hvh : (pls.drop 1)[i]? = none := List.getElem?_eq_none_iff.mpr (by rw [List.length_drop]; omega)
    refine out_ms (by_runs W K0 hL hA (fun ad => zEnd_run w b c ad zp ow its i2 i1 pl p2 pls (pls.drop 1) n m2 i _ e _) trivial rfl RR (ot_cons (oNext_ok hpl hva) (ot_cons (oEnd_ok hp2 hvh) ot_nil)) fun ad h' tk' R' => wpAny_pure ?_)
    have hall : (pairs P).take i = pairs P := by rw [hil]; exact List.take_length
    rw [hall] at hb ha
    exact wpAny_pure (fin h' tk' e bs n3 as m3 T R' hb ha)
  | some pq =>
    obtain ⟨ea, eh⟩ := pairs_get hv
    have hlt : i < (pairs P).length := (List.getElem?_eq_some_iff.mp hv).1
    have hva : pls[i]? = some pls[i] := List.getElem?_eq_getElem (by omega)
    have hvh : pls[i + 1]? = some pls[i + 1] := List.getElem?_eq_getElem (by omega)
    obtain ⟨y1, ey1, F1⟩ := hP.get hva
    obtain ⟨y2, ey2, F2⟩ := hP.get hvh
    rw [ea] at ey1; rw [eh] at ey2
    obtain rfl := Option.some.inj ey1
    obtain rfl := Option.some.inj ey2
    obtain ⟨pa, u1, e1, m1⟩ := F1
    obtain ⟨pb, u2, e2, m2'⟩ := F2
    rw [e1] at hva; rw [e2] at hvh
    have g1 := hT1 _ m1
    have g2 := hT1 _ m2'
    have hvh' : (pls.drop 1)[i]? = some (.ref pb) := by rw [List.getElem?_drop, Nat.add_comm 1 i]; exact hvh
    refine out_ms (by_runs W K0 hL hA (fun ad => zNext_run w b c ad zp ow its i2 i1 pl p2 pa pb pls (pls.drop 1) n m2 i e _) trivial rfl RR (ot_cons (oNext_ok hpl hva) (ot_cons (oNext_ok hp2 hvh') ot_nil)) fun ad h1 tk1 R1 => wpAny_pure ?_)
    refine let_owned (j := 0) (.inl rfl) R1 rfl fun h2 R2 => ?_
    rw [zassign_eq]
    refine out_ms (by_runs W K0 hL hA (fun ad' => zAssign_run w b c ad' l pl tk fa (ad 4) pa pb t1 t2 t3 q e _ _ _ _ _ _) trivial rfl R2 ot_nil fun ad' h3 tk3 R3 => wpAny_pure ?_)
    rw [zexecs_eq]
    have fb := flat_take (f := fun q => pairB q.1 q.2) hv
    have fa' := flat_take (f := fun q => pairA q.1 q.2) hv
    have K1 : Kn (par w b c [(pa, tupObj [.str pq.1.s u1, .ref pq.1.sa, .bool pq.1.f] 0), (pb, tupObj [.str pq.2.s u2, .ref pq.2.sa, .bool pq.2.f] 0)]) h₁ := kn_of hk (by
      intro p hp
      simp only [List.mem_cons, List.not_mem_nil, or_false] at hp
      rcases hp with rfl | rfl
      · exact g1
      · exact g2)
    obtain ⟨e', he'⟩ : ∃ e' : LE, e' = ⟨lk1 e (ad' 3), pa, lk2 e (ad' 4), pb⟩ := ⟨_, rfl⟩
    have hpa : e'.pa = pa := by rw [he']
    have hpb : e'.pb = pb := by rw [he']
    rw [← he'] at R3
    rw [← hpa, ← hpb] at K1
    have hbs : bs.length ≤ 200 := by omega
    have has : as.length ≤ 200 := by omega
    have happB : ∀ j, OrcOk L prg w h₁ g d os (oApp j bs n3) := fun j => oApp_ok (by omega)
    have happA : ∀ j, OrcOk L prg w h₁ g d os (oApp j as m3) := fun j => oApp_ok (by omega)
    have same : pairB pq.1 pq.2 = [] → pairA pq.1 pq.2 = [] → ∀ h4 tk4, Rep h₁ h4 ((zp, fldO "zip" [.none, .bool false, .bool false, .ref its, .ref ow]) :: (ow, tupObj [.ref pa, .ref pb] 0) :: (its, tupObj [.ref i1, .ref i2] 0) :: (i2, itObj p2 (i + 1)) :: (i1, itObj pl (i + 1)) :: (fa, lawF4 w l pl tk t1 t2 t3 q (some e')) :: (q.bf, listObj bs n3) :: (q.af, listObj as m3) :: T) →
        ∃ m, m < (pairs P).length - i ∧ ∃ i h tkn e bs n as m_1 T, (⟨h4, g, d, tk4, os⟩ : Shared) = ⟨h, g, d, tkn, os⟩ ∧ m = (pairs P).length - i ∧ i ≤ (pairs P).length ∧ Rep h₁ h ((zp, zipO its ow) :: (ow, owP e) :: (its, tupObj [.ref i1, .ref i2] 0) :: (i2, itObj p2 i) :: (i1, itObj pl i) :: (fa, lawF4 w l pl tk t1 t2 t3 q e) :: (q.bf, listObj bs n) :: (q.af, listObj as m_1) :: T) ∧
          All2 (MsgIn msg3 T) bs (((pairs P).take i).flatMap fun q => pairB q.1 q.2) ∧ All2 (MsgIn msg4 T) as (((pairs P).take i).flatMap fun q => pairA q.1 q.2) ∧ bs.length ≤ i ∧ as.length ≤ i := by
      intro q1 q2 h4 tk4 R4
      refine ⟨(pairs P).length - (i + 1), by omega, i + 1, h4, tk4, some e', bs, n3, as, m3, T, rfl, rfl, by omega, ?_, ?_, ?_, by omega, by omega⟩
      · rw [he']; rw [he'] at R4; exact R4
      · rw [fb, q1, List.append_nil]; exact hb
      · rw [fa', q2, List.append_nil]; exact ha
    cases hf : pq.2.f with
    | false =>
      rw [hf] at K1
      refine out_ms (by_runs W K1 hL hA (fun ad5 => zBodyA_run w b c ad5 l pl tk fa pq.1.sa pq.2.sa t1 t2 t3 q e' pq.1.s pq.2.s u1 u2 pq.1.f bs as n3 m3 _ _ _ _ _ T) trivial rfl R3 ot_nil fun ad5 h4 tk4 R4 => wpAny_pure ?_)
      exact same (by simp [pairB, hf]) (by simp [pairA, hf]) h4 tk4 R4
    | true =>
      rw [hf] at K1
      cases ho : anyStr openL pq.1.s with
      | true =>
        refine out_ms (by_runs W K1 hL hA (fun ad5 => zBodyB_run w b c ad5 l pl tk fa pq.1.sa pq.2.sa t1 t2 t3 q e' pq.1.s pq.2.s u1 u2 pq.1.f bs as n3 m3 _ _ _ _ _ T) trivial rfl R3 (ot_cons (oIn_ok ho) ot_nil) fun ad5 h4 tk4 R4 => wpAny_pure ?_)
        exact same (by simp [pairB, ho]) (by simp [pairA, ho]) h4 tk4 R4
      | false =>
        cases hh : anyStr opsL pq.2.s with
        | false =>
          cases hx : anyStr opsL pq.1.s with
          | false =>
            refine out_ms (by_runs W K1 hL hA (fun ad5 => zBodyC_run w b c ad5 l pl tk fa pq.1.sa pq.2.sa t1 t2 t3 q e' pq.1.s pq.2.s u1 u2 pq.1.f bs as n3 m3 _ _ _ _ _ T) trivial rfl R3 (ot_cons (oIn_ok ho) (ot_cons (oIn_ok hh) (ot_cons (oIn_ok hx) ot_nil))) fun ad5 h4 tk4 R4 => wpAny_pure ?_)
            exact same (by simp [pairB, hh]) (by simp [pairA, hx]) h4 tk4 R4
          | true =>
            refine out_ms (by_runs W K1 hL hA (fun ad5 => zBodyD_run w b c ad5 l pl tk fa pq.1.sa pq.2.sa t1 t2 t3 q e' pq.1.s pq.2.s u1 u2 pq.1.f bs as n3 m3 _ _ _ _ _ T) trivial rfl R3 (ot_cons (oIn_ok ho) (ot_cons (oIn_ok hh) (ot_cons (oIn_ok hx) (ot_cons (oIn_ok hh) (ot_cons (happA 16) ot_nil))))) fun ad5 h4 tk4 R4 => wpAny_pure ?_)
            have q1 : pairB pq.1 pq.2 = [] := by simp [pairB, hh]
            have q2 : pairA pq.1 pq.2 = [pq.1.sa] := by simp [pairA, hf, ho, hx, hh]
            refine ⟨(pairs P).length - (i + 1), by omega, i + 1, h4, tk4, some e', bs, n3, as ++ [Value.ref (ad5 46)], m3 + 1, (ad5 46, tupObj [.ref pq.1.sa, .str msg4 (ad5 45)] 0) :: T, rfl, rfl, by omega, ?_, ?_, ?_, by omega, by simp; omega⟩
            · rw [he']; rw [he'] at R4; exact R4
            · rw [fb, q1, List.append_nil]; exact hb.imp fun a b h => h.more fun x hx => .tail _ hx
            · rw [fa', q2]; exact (ha.imp fun a b h => h.more fun x hx => .tail _ hx).snoc ⟨_, _, rfl, .head _⟩
        | true =>
          cases hx : anyStr opsL pq.1.s with
          | false =>
            refine out_ms (by_runs W K1 hL hA (fun ad5 => zBodyE_run w b c ad5 l pl tk fa pq.1.sa pq.2.sa t1 t2 t3 q e' pq.1.s pq.2.s u1 u2 pq.1.f bs as n3 m3 _ _ _ _ _ T) trivial rfl R3 (ot_cons (oIn_ok ho) (ot_cons (oIn_ok hh) (ot_cons (oIn_ok hx) (ot_cons (happB 13) (ot_cons (oIn_ok hx) ot_nil))))) fun ad5 h4 tk4 R4 => wpAny_pure ?_)
            have q1 : pairB pq.1 pq.2 = [pq.2.sa] := by simp [pairB, hf, ho, hx, hh]
            have q2 : pairA pq.1 pq.2 = [] := by simp [pairA, hx]
            refine ⟨(pairs P).length - (i + 1), by omega, i + 1, h4, tk4, some e', bs ++ [Value.ref (ad5 35)], n3 + 1, as, m3, (ad5 35, tupObj [.ref pq.2.sa, .str msg3 (ad5 34)] 0) :: T, rfl, rfl, by omega, ?_, ?_, ?_, by simp; omega, by omega⟩
            · rw [he']; rw [he'] at R4; exact R4
            · rw [fb, q1]; exact (hb.imp fun a b h => h.more fun x hx => .tail _ hx).snoc ⟨_, _, rfl, .head _⟩
            · rw [fa', q2, List.append_nil]; exact ha.imp fun a b h => h.more fun x hx => .tail _ hx
          | true =>
            refine out_ms (by_runs W K1 hL hA (fun ad5 => zBodyF_run w b c ad5 l pl tk fa pq.1.sa pq.2.sa t1 t2 t3 q e' pq.1.s pq.2.s u1 u2 pq.1.f bs as n3 m3 _ _ _ _ _ T) trivial rfl R3 (ot_cons (oIn_ok ho) (ot_cons (oIn_ok hh) (ot_cons (oIn_ok hx) (ot_cons (oIn_ok hx) (ot_cons (oIn_ok hh) ot_nil))))) fun ad5 h4 tk4 R4 => wpAny_pure ?_)
            exact same (by simp [pairB, hx]) (by simp [pairA, hh]) h4 tk4 R4
end
end Mine
end

section
open PySem PySem.W PySem.W.X PySem.Calls PyProof.Rows
namespace Mine
noncomputable def oInS (x y : Str) (b : Bool) : Orc := oVal "str.__contains__" fun args => match args with
  | [.str x' _, .str y' _] => some ([(.s x', .s x), (.s y', .s y)], fun _ => .bool b)
  | _ => none
noncomputable def oNeI (a b : Int) (r : Bool) : Orc := oVal "int.__ne__" fun args => match args with
  | [.int a' _, .int b' _] => some ([(.i a', .i a), (.i b', .i b)], fun _ => .bool r)
  | _ => none
noncomputable def partS (x y : Str) : Bool := !(Builtin.Str.occurrences x y 0 x.length 1).isEmpty
section
variable {w : World} {L : Nat} {h₀ : Heap} {g : Array GenState} {d : Drawn} {os : OsState}
theorem oInS_ok {x y : Str} {r : Bool} (e : partS x y = r) : OrcOk L prg w h₀ g d os (oInS x y r) := oVal_ok fun A' args p h tk hA hp hl => by
  split at hp
  · cases hp
    rename_i a' t b' u
    have e1 : a' = x := OV.s.inj (hl _ (.head _))
    have e2 : b' = y := OV.s.inj (hl _ (.tail _ (.head _)))
    subst e1 e2 e
    exact call_gives F.slot_str_contains (typeIs_str _ _ _) F.entry_str_contains (F.args_str_contains_2 _ _) (gives_str_contains _ _ _ _) ⟨0, tk, rfl, rfl⟩
  · cases hp
theorem oNeI_ok {a b : Int} {r : Bool} (e : (a != b) = r) : OrcOk L prg w h₀ g d os (oNeI a b r) := oVal_ok fun A' args p h tk hA hp hl => by
  split at hp
  · cases hp
    rename_i a' t b' u
    have e1 : a' = a := OV.i.inj (hl _ (.head _))
    have e2 : b' = b := OV.i.inj (hl _ (.tail _ (.head _)))
    subst e1 e2 e
    exact call_gives F.slot_int_ne (typeIs_int _ _ _) F.entry_int_ne (F.args_int_ne_2 _ _) (gives_int_ne _ _ _ _) ⟨0, tk, rfl, rfl⟩
  · cases hp
end
end Mine
end

section
open PySem PySem.W PySem.W.X PySem.Calls PyProof.Rows
set_option maxHeartbeats 0
namespace Mine
abbrev IM := Strm × Value × Value × Value × Value × Value
noncomputable def iF (w : World) (tk : Addr) (t : Strm) (lb uc : Bool) (pk px : Value) (o : Option IM) : Obj := match o with
  | none => frm [ent w "tokens" (t 0) (.ref tk), ent w "line_break" (t 1) (.bool lb), ent w "unary_context" (t 2) (.bool uc), ent w "previous_token_type" (t 3) pk, ent w "previous_text" (t 4) px] 5
  | some x => frm [ent w "tokens" (t 0) (.ref tk), ent w "line_break" (t 1) (.bool lb), ent w "unary_context" (t 2) (.bool uc), ent w "previous_token_type" (t 3) pk, ent w "previous_text" (t 4) px,
      ent w "token_type" (x.1 0) x.2.1, ent w "text" (x.1 1) x.2.2.1, ent w "start" (x.1 2) x.2.2.2.1, ent w "end" (x.1 3) x.2.2.2.2.1, ent w "line" (x.1 4) x.2.2.2.2.2] 10
abbrev PV := Option (Int × Tok × Str × Tok)
noncomputable def pkV : PV → Value
  | none => .none
  | some q => .int q.1 q.2.1
noncomputable def pxV : PV → Value
  | none => .none
  | some q => .str q.2.2.1 q.2.2.2
noncomputable def kI (o : Option IM) (ad : Strm) : Strm := match o with
  | none => fun n => ad (n + 5)
  | some x => x.1
noncomputable def s5 (t0 : Tok) (ad : Strm) : Strm := fun n => match n with
  | 0 => t0
  | n + 1 => ad n
theorem iEnv_run (w : World) (b c : Bool) (ad : Strm) (tk : Addr) (T : Store) :
    let r := zrun (par w b c []) 5 (.out (newEnv w 173 [(S "tokens", .ref tk)])) ad [1, 0] T [] [] []
    (r.1, r.2.obs.map Prod.fst, pickD [] 0 r.2.st) = (.out (.pure (gEnv w 173 (ad 0))), r.2.obs.map Prod.snd, (ad 0, frm [ent w "tokens" (ad 1) (.ref tk)] 1) :: T) := by kernel_rfl
theorem iBind_run (w : World) (tk : Addr) : zbind (gFd w 173) ⟨[.ref tk], []⟩ = .pure [(S "tokens", .ref tk)] := by kernel_rfl
noncomputable def iFunc (w : World) (b c : Bool) (ad : Strm) (fi tk : Addr) (t0 : Tok) (xs : List Value) (n : Nat) (T : Store) : Md Result × St :=
  zrun (par w b c [(tk, listObj xs n)]) 48 (.seg (gCode w 173 fi) [] (zdenote (gCode w 173 fi))) ad [1, 0, 1, 0, 1, 0, 1, 0, 1, 2, 2, 2, 1] ((fi, frm [ent w "tokens" t0 (.ref tk)] 1) :: T) [] [] []
noncomputable def iFuncMd (w : World) (fi it : Addr) : Md Result := (iFunc w true true (fun _ => it) fi 0 0 [] 0 []).1
theorem iFunc_run (w : World) (b c : Bool) (ad : Strm) (fi tk : Addr) (t0 : Tok) (xs : List Value) (n : Nat) (T : Store) :
    let r := iFunc w b c ad fi tk t0 xs n T
    (r.1, r.2.obs.map Prod.fst, pickD [] 0 r.2.st) = (iFuncMd w fi (ad 5), r.2.obs.map Prod.snd, (ad 5, itObj tk 0) :: (fi, iF w tk (s5 t0 (fun n => ad (n + 1))) false true .none .none none) :: T) := by
  cases b <;> kernel_rfl
noncomputable def iLoop (w : World) (fi it : Addr) : Code := codeOf (iFuncMd w fi it)
noncomputable def iFs (w : World) (fi it : Addr) (p : Pos) : List Frame := frOf (iFuncMd w fi it) p
noncomputable def iHead (w : World) (fi it : Addr) (p : Pos) : Md Result := .seg (iLoop w fi it) (iFs w fi it p) (zdenote (iLoop w fi it))
noncomputable def iAgain (w : World) (fi it : Addr) (p : Pos) : Md Result := .seg (iLoop w fi it) (iFs w fi it p) (.pure (.again (iLoop w fi it)))
noncomputable def iSkip_hs : List Nat := [1, 1, 2, 0, 0, 0, 2, 0, 0, 0, 2, 0, 0, 0, 2, 0, 1, 1, 1, 1, 1, 2, 1, 0, 1, 1, 1, 1, 2, 1, 0, 1, 1, 1, 1, 2, 1, 0, 1, 1, 1, 1, 2, 1, 0, 1, 1, 1, 1, 2, 1, 0, 1, 1, 1, 1, 2, 1, 0, 1, 9, 4, 9, 4, 9, 4, 9, 4, 9, 4, 9, 0, 0, 0, 0, 0, 0, 0, 0]
theorem iSkip_run (w : World) (b c : Bool) (ad : Strm) (fi it : Addr) (p : Pos) (tk ta dd sa ea : Addr) (k : Int) (kt : Tok) (s : Str) (u : Tok) (lt : Str) (lk : Tok) (xs : List Value) (n i : Nat) (t : Strm) (lb uc : Bool) (pk px : Value) (o : Option IM) (T : Store) :
    let r := zrun (par w b c [(ta, tokO dd [.int k kt, .str s u, .ref sa, .ref ea, .str lt lk])]) 146 (iHead w fi it p) ad iSkip_hs ((it, itObj tk i) :: (fi, iF w tk t lb uc pk px o) :: T) [] [0, 8]
      [oNext 0 (.base tk) tk xs n i (.ref ta), oEqI k 61 true]
    (r.1, r.2.obs.map Prod.fst, pickD [3, 4] 5 r.2.st) = (iAgain w fi it p, r.2.obs.map Prod.snd, (it, itObj tk (i + 1)) :: (fi, iF w tk t lb uc pk px (some (kI o ad, .int k kt, .str s u, .ref sa, .ref ea, .str lt lk))) :: T) := by
  cases o <;> cases b <;> kernel_rfl
noncomputable def iNl_hs : List Nat := iSkip_hs ++ [9, 9, 0, 0, 0, 0, 0, 0, 0, 0, 9, 4]
theorem iNl_run (w : World) (b c : Bool) (ad : Strm) (fi it : Addr) (p : Pos) (tk ta dd sa ea : Addr) (k : Int) (kt : Tok) (s : Str) (u : Tok) (lt : Str) (lk : Tok) (xs : List Value) (n i : Nat) (t : Strm) (lb uc : Bool) (pk px : Value) (o : Option IM) (T : Store) :
    let r := zrun (par w b c [(ta, tokO dd [.int k kt, .str s u, .ref sa, .ref ea, .str lt lk])]) 178 (iHead w fi it p) ad iNl_hs ((it, itObj tk i) :: (fi, iF w tk t lb uc pk px o) :: T) [] [0, 8, 0, 1]
      [oNext 0 (.base tk) tk xs n i (.ref ta), oEqI k 61 false, oInS s ⟨#[10]⟩ true, oNeI k 3 true]
    (r.1, r.2.obs.map Prod.fst, pickD [3, 4] 5 r.2.st) = (iAgain w fi it p, r.2.obs.map Prod.snd, (it, itObj tk (i + 1)) :: (fi, iF w tk t true uc pk px (some (kI o ad, .int k kt, .str s u, .ref sa, .ref ea, .str lt lk))) :: T) := by
  cases o <;> cases b <;> kernel_rfl
noncomputable def iVis_hs : List Nat := iSkip_hs ++ [9, 9, 9, 9, 9, 9, 9, 9, 9]
noncomputable def iVis (w : World) (b c : Bool) (ad : Strm) (fi it : Addr) (p : Pos) (tk ta dd sa ea : Addr) (k : Int) (kt : Tok) (s : Str) (u : Tok) (lt : Str) (lk : Tok) (xs : List Value) (n i : Nat) (t : Strm) (lb uc : Bool) (pk px : Value) (o : Option IM) (T : Store) : Md Result × St :=
  zrun (par w b c [(ta, tokO dd [.int k kt, .str s u, .ref sa, .ref ea, .str lt lk])]) 174 (iHead w fi it p) ad iVis_hs ((it, itObj tk i) :: (fi, iF w tk t lb uc pk px o) :: T) [] [0, 8, 0, 0]
      [oNext 0 (.base tk) tk xs n i (.ref ta), oEqI k 61 false, oInS s ⟨#[10]⟩ false, oInS s ⟨#[13]⟩ false]
noncomputable def iYield (w : World) (fi it : Addr) (p : Pos) (x : Addr) : Md Result := (iVis w true true (fun _ => x) fi it p 0 0 0 0 0 0 0 ⟨#[]⟩ 0 ⟨#[]⟩ 0 [] 0 0 (fun _ => 0) false false .none .none none []).1
noncomputable def ctxO (k : Int) (kt : Tok) (s : Str) (u : Tok) (pk px : Value) (lb uc : Bool) (sa : Addr) : Obj := tupObj [.int k kt, .str s u, pk, px, .bool lb, .bool uc, .ref sa] 0
theorem iVis_run (w : World) (b c : Bool) (ad : Strm) (fi it : Addr) (p : Pos) (tk ta dd sa ea : Addr) (k : Int) (kt : Tok) (s : Str) (u : Tok) (lt : Str) (lk : Tok) (xs : List Value) (n i : Nat) (t : Strm) (lb uc : Bool) (pv : PV) (o : Option IM) (T : Store) :
    let r := iVis w b c ad fi it p tk ta dd sa ea k kt s u lt lk xs n i t lb uc (pkV pv) (pxV pv) o T
    (r.1, r.2.obs.map Prod.fst, pickD [0, 4, 5] 6 r.2.st) = (iYield w fi it p (ad 19), r.2.obs.map Prod.snd, (ad 19, ctxO k kt s u (pkV pv) (pxV pv) lb uc sa) :: (it, itObj tk (i + 1)) :: (fi, iF w tk t lb uc (pkV pv) (pxV pv) (some (kI o ad, .int k kt, .str s u, .ref sa, .ref ea, .str lt lk))) :: T) := by
  cases pv <;> cases o <;> cases b <;> kernel_rfl
noncomputable def openS : Str := ⟨#[40, 91, 123, 44, 59]⟩
noncomputable def iWoken (w : World) (fi it : Addr) (p : Pos) (x : Addr) : Md Result := .seg (mdCode (iYield w fi it p x)) (mdFs (iYield w fi it p x)) (ykOf (iYield w fi it p x) (.send .none))
theorem iRes_run (w : World) (b c : Bool) (ad : Strm) (fi it x : Addr) (p : Pos) (tk : Addr) (k : Int) (kt : Tok) (s : Str) (u : Tok) (v3 v4 v5 : Value) (q : Addr × Obj) (t kk : Strm) (lb uc r1 : Bool) (pk px : Value) (T : Store) :
    let r := zrun (par w b c []) 41 (iWoken w fi it p x) ad [3, 3, 1, 3, 1, 3, 3, 1, 3, 3, 1] (q :: (fi, iF w tk t lb uc pk px (some (kk, .int k kt, .str s u, v3, v4, v5))) :: T) [] [0] [oInS openS s r1]
    (r.1, r.2.obs.map Prod.fst, pickD [] 0 r.2.st) = (iAgain w fi it p, r.2.obs.map Prod.snd, q :: (fi, iF w tk t false r1 (.int k kt) (.str s u) (some (kk, .int k kt, .str s u, v3, v4, v5))) :: T) := by
  cases b <;> kernel_rfl
noncomputable def iEnd (w : World) (b c : Bool) (ad : Strm) (fi it : Addr) (p : Pos) (tk : Addr) (xs : List Value) (n i : Nat) (T : Store) : Md Result × St :=
  zrun (par w b c []) 4 (iHead w fi it p) ad [1, 1] ((it, itObj tk i) :: T) [] [0] [oEnd 0 (.base tk) tk xs n i]
noncomputable def iEndMd (w : World) (fi it : Addr) (p : Pos) : Md Result := (iEnd w true true (fun _ => 0) fi it p 0 [] 0 0 []).1
theorem iEnd_run (w : World) (b c : Bool) (ad : Strm) (fi it : Addr) (p : Pos) (tk : Addr) (xs : List Value) (n i : Nat) (T : Store) :
    let r := iEnd w b c ad fi it p tk xs n i T
    (r.1, r.2.obs.map Prod.fst, pickD [] 3 r.2.st) = (iEndMd w fi it p, r.2.obs.map Prod.snd, T) := Prod.ext (by kernel_rfl) (Prod.ext (by kernel_rfl) (by kernel_rfl))
end Mine
end

section
open PySem PySem.W PySem.W.X PySem.Calls PyProof.Rows
open AutoSeq1 (wpAny_loadPart')
set_option maxHeartbeats 0
namespace Mine
noncomputable def isNS : Option Str → Value → Bool
  | some x, v => Value.isStrOf x v
  | none, .none => true
  | none, _ => false
theorem isNS_none {v : Value} (h : isNS none v = true) : v = .none := by cases v <;> simp_all [isNS]
noncomputable def hashNS (w : World) : Option Str → Int
  | some x => hashStr w x
  | none => 0xFCA86420
section
variable {prog : Program} {w : World} {A : Around} {E : Value → Shared → Prop} {s : Shared}
theorem hash_none {Q : Int → Shared → Prop} (h : Q 0xFCA86420 { s with toks := s.toks + 1 }) : wpAny (model prog w) A (pyHash .none) Q E s := by
  have hT : s.TypeIs .none "NoneType" := rfl
  unfold pyHash
  have hv : [Value.none].any Value.onHeap = false := rfl
  refine wpAny_bind ?_
  rw [cRoomFor, if_neg (by rw [hv]; exact Bool.false_ne_true)]; refine wpAny_pure ?_
  refine wpAny_bind (wpAny_specialOf hT F.slot_NoneType_hash.lookup ?_)
  show wpAny _ _ (if (some (Value.builtin "NoneType.__hash__") == some Value.none) = true then _ else _) Q E s
  rw [if_neg (by rw [beq_builtin_none]; exact Bool.false_ne_true)]
  refine wpAny_bind (wpAny_specialOf hT F.slot_NoneType_hash.lookup ?_)
  show wpAny _ _ (callSpecialIfBoundUnlessNone? .none "__hash__" _ >>= _) Q E s
  refine wpAny_bind (wpAny_callSpecialIfBoundUnlessNone?_slot hT F.slot_NoneType_hash
    (wpAny_call_entry F.slot_NoneType_hash hT F.entry_NoneType_hash
      (show wpAny _ _ (do PySem.ret (← mkInt 0xFCA86420)) _ _ s from wpAny_ret_mkInt ?_) (F.args_NoneType_hash_1 _)))
  show wpAny _ _ (if (decide (-(2 : Int) ^ 63 ≤ 0xFCA86420) && decide ((0xFCA86420 : Int) < 2 ^ 63)) = true then _ else _) Q E _
  rw [if_pos (by decide)]
  exact wpAny_pure h
theorem eqB_none_none {Q : Bool → Shared → Prop} (h : Q true s) : wpAny (model prog w) A (eqBool .none .none) Q E s := by
  unfold eqBool
  exact wpAny_holding (wpAny_bind (wpAny_rule (wpAny_pure h)))
theorem eqB_none_str {a : Str} {t : Tok} {Q : Bool → Shared → Prop} (h : Q false s) : wpAny (model prog w) A (eqBool .none (.str a t)) Q E s := by
  unfold eqBool
  refine wpAny_holding ?_
  show wpAny _ _ (richCompare .Eq .none (.str a t) >>= fun r => truthOfDropped r) _ _ _
  refine wpAny_bind (EqNone.eq_none_str (a := a) (t := t) (Q := fun r s' => wpAny _ _ (truthOfDropped r) Q E s') ?_)
  exact wpAny_truthy_bool h
theorem eqB_str_none {a : Str} {t : Tok} {Q : Bool → Shared → Prop} (h : Q false s) : wpAny (model prog w) A (eqBool (.str a t) .none) Q E s := by
  unfold eqBool
  refine wpAny_holding ?_
  show wpAny _ _ (richCompare .Eq (.str a t) .none >>= fun r => truthOfDropped r) _ _ _
  refine wpAny_bind (EqNone.eq_str_none (a := a) (t := t) (Q := fun r s' => wpAny _ _ (truthOfDropped r) Q E s') ?_)
  exact wpAny_truthy_bool h
end
noncomputable def nsKind (prog : Program) (w : World) : KeyKind prog w (Option Str) where
  is := isNS
  hash := hashNS w
  inj := fun v a b ha hb => by
    cases a with
    | none => cases b with
      | none => rfl
      | some y => rw [isNS_none ha] at hb; cases hb
    | some x => cases b with
      | none => rw [isNS_none hb] at ha; cases ha
      | some y => exact congrArg some (Value.isStrOf_inj v x y ha hb)
  byValue := fun k v h => by
    cases k with
    | none => rw [isNS_none h]; rfl
    | some x => obtain ⟨t, rfl⟩ := Value.isStrOf_shape h; rfl
  pyHash := fun {A E s k v Q} hv h => by
    cases k with
    | none => rw [isNS_none hv]; exact hash_none h
    | some x => obtain ⟨t, rfl⟩ := Value.isStrOf_shape hv; exact wpAny_pyHash_str h
  eqBool := fun {A E s a b u v Q} hu hv h => by
    cases a with
    | none =>
      rw [isNS_none hu]
      cases b with
      | none => rw [isNS_none hv]; exact eqB_none_none (by simpa using h)
      | some y => obtain ⟨t, rfl⟩ := Value.isStrOf_shape hv; exact eqB_none_str (by simpa using h)
    | some x =>
      obtain ⟨t, rfl⟩ := Value.isStrOf_shape hu
      cases b with
      | none => rw [isNS_none hv]; exact eqB_str_none (by simpa using h)
      | some y => obtain ⟨t', rfl⟩ := Value.isStrOf_shape hv; exact wpAny_eqBool_str (by simpa using h)
  «strs» := fun k x t v h => by
    cases k with
    | none => cases h
    | some y =>
      obtain ⟨u, hu⟩ := Value.isStrOf_shape (show Value.isStrOf y (.str x t) = true from h)
      injection hu with hx
      subst hx
      cases v <;> rfl
end Mine
end

section
open PySem PySem.W PySem.W.X PySem.Calls PyProof.Rows
set_option maxHeartbeats 0
namespace Mine
noncomputable abbrev zmain := PySem.W.ZFast.zw6346910123636218555
theorem zmain_eq : PySem.inMainModule = zmain := PySem.W.ZFast.ze6346910123636218555
noncomputable def oInTS (l : Addr) (s : Str) (b : Bool) : Orc := ⟨.builtin "tuple.__contains__", false, fun args _ => match args with
  | [.ref a, .str s' _] => some { look := [(.a a, .a l), (.s s', .s s)], res := fun _ _ => .ok (.ret (.bool b)), upd := fun _ _ st => st }
  | _ => none⟩
section
variable {w : World} {L : Nat} {h₀ : Heap} {g : Array GenState} {d : Drawn} {os : OsState}
theorem oInTS_ok {l : Addr} {xs : List Value} {n : Nat} {ss : List Str} {s : Str} {b : Bool} (hx : h₀.get? l = some (tupObj xs n)) (e2 : strsOf xs = ss) (e3 : xs.length = ss.length) (hb : anyStr ss s = b) : OrcOk L prg w h₀ g d os (oInTS l s b) := by
  intro A' args r st h tk hA R hr hl
  unfold oInTS at hr
  dsimp only at hr
  split at hr
  · rename_i a s' u
    cases hr
    have e1 : a = l := OV.a.inj (hl _ (.head _))
    have e4 : s' = s := OV.s.inj (hl _ (.tail _ (.head _)))
    subst e1 e4
    have hg := R.keep _ _ hx
    refine orc_call (call_meets (s := ⟨h, g, d, tk, os⟩) F.slot_tuple_contains ⟨_, hg, rfl⟩ F.entry_tuple_contains (F.args_tuple_contains_2 _ _)
      (MeetsSeq2.tuple_contains a ⟨xs⟩ n (.str s' u) (fun v => match v with | .str x _ => x.cps.toList == s'.cps.toList | _ => false) fun y hy => ?_) ⟨hg, ?_⟩)
    · obtain ⟨x, t, rfl⟩ := strsOf_mem e2 e3 (Array.mem_toList_iff.mpr hy)
      exact SeqRoads2.EqGives.str x s' t u
    · refine ⟨0, 0, _, tk, ?_, rfl, R⟩
      rw [← hb, ← any_strs s' e2 e3, ← Array.any_toList]
      try rfl
  · cases hr
end
noncomputable def retE (l : List Stmt) : PySem.Expr := match l with
  | s :: _ => match s with
    | .Return e _ => match e with
      | some e => e
      | none => nameX
    | _ => nameX
  | [] => nameX
noncomputable def retP (l : List Stmt) : Pos := match l with
  | s :: _ => match s with
    | .Return _ p => p
    | _ => ⟨0, 0, 0, 0⟩
  | [] => ⟨0, 0, 0, 0⟩
noncomputable def argsE : PySem.Expr → List PySem.Expr
  | .BoolOp _ l _ => l
  | .Set l _ _ => l
  | _ => []
noncomputable def posE : PySem.Expr → Pos
  | .BoolOp _ _ p => p
  | .Set _ _ p => p
  | .Compare _ _ _ p => p
  | _ => ⟨0, 0, 0, 0⟩
noncomputable def bE (w : World) := retE (stmtsOf (gFd w 166))
noncomputable def bOr (w : World) := (argsE (bE w)).getD 0 nameX
noncomputable def bC1 (w : World) := (argsE (bOr w)).getD 0 nameX
noncomputable def bC2 (w : World) := (argsE (bOr w)).getD 1 nameX
noncomputable def bC3 (w : World) := (argsE (bE w)).getD 1 nameX
noncomputable def bL (w : World) := leftOf (bC2 w)
noncomputable def bSet (w : World) := rightOf (bC2 w)
noncomputable def bE1 (w : World) := (argsE (bSet w)).getD 0 nameX
noncomputable def bE2 (w : World) := (argsE (bSet w)).getD 1 nameX
theorem b_shape (w : World) : stmtsOf (gFd w 166) = [.Return (some (.BoolOp .And [.BoolOp .Or [bC1 w, .Compare (bL w) [.In] [.Set [bE1 w, bE2 w] 0 (posE (bSet w))] (posE (bC2 w))] (posE (bOr w)), bC3 w] (posE (bE w)))) (retP (stmtsOf (gFd w 166)))] := by kernel_rfl
noncomputable def gObj (w : World) (a : Addr) : Obj := match (ktop w.params).get a with
  | some o => o
  | none => tupObj [] 0
noncomputable def fieldsOf' (o : Obj) : Array Value := match o.data with
  | .fields vs => vs
  | _ => #[]
noncomputable def tokOf (v : Option Value) : Tok := match v with
  | some v => match v with
    | .str _ t => t
    | _ => 0
  | none => 0
noncomputable def fnLook (w : World) (a c : Addr) := ((ktop w.params).get a, (gObj w a).data, (gFd w a).body, (gFd w a).code, (ktop w.params).get c, (gObj w c).data, (fieldsOf' (gObj w c))[1]?, (gFd w a).scope.isCoroutine)
noncomputable def fnLook' (w : World) (a c : Addr) := (some (gObj w a), Data.func (gFd w a), FuncBody.stmts (stmtsOf (gFd w a)), Value.ref c, some (gObj w c), Data.fields (fieldsOf' (gObj w c)), some (Value.str (gFd w a).qualname (tokOf (fieldsOf' (gObj w c))[1]?)), false)
theorem b_look (w : World) : fnLook w 166 165 = fnLook' w 166 165 := by kernel_rfl
theorem b_gen (w : World) : (gFd w 166).scope.isGenerator = false := by kernel_rfl
theorem b_mark (w : World) : behindInMarks .In (.Set [bE1 w, bE2 w] 0 (posE (bSet w))) = true := by kernel_rfl
theorem b_plain (w : World) : [bE1 w, bE2 w].all kdsPlain = true := by kernel_rfl
theorem bBind_run (w : World) (v x : Value) : zbind (gFd w 166) ⟨[v, x], []⟩ = .pure [(S "token_type", v), (S "text", x)] := by kernel_rfl
noncomputable def bF (w : World) (t1 t2 : Tok) (pv : PV) : Obj := frm [ent w "token_type" t1 (pkV pv), ent w "text" t2 (pxV pv)] 2
theorem bEnv_run (w : World) (b c : Bool) (ad : Strm) (pv : PV) (T : Store) :
    let r := zrun (par w b c []) 9 (.out (newEnv w 166 [(S "token_type", pkV pv), (S "text", pxV pv)])) ad [1, 0, 1, 0] T [] [] []
    (r.1, r.2.obs.map Prod.fst, pickD [] 0 r.2.st) = (.out (.pure (gEnv w 166 (ad 0))), r.2.obs.map Prod.snd, (ad 0, bF w (ad 1) (ad 2) pv) :: T) := by cases pv <;> kernel_rfl
theorem bC1_run (w : World) (b c : Bool) (ad : Strm) (fr : Addr) (t1 t2 : Tok) (q : Int × Tok × Str × Tok) (r1 : Bool) (T : Store) :
    let r := zrun (par w b c []) 19 (.out (zeval (bC1 w) (gEnv w 166 fr))) ad [1, 0, 0, 0, 0, 0, 0, 0, 0] ((fr, bF w t1 t2 (some q)) :: T) [] [1] [oEqI q.1 54 r1]
    (r.1, r.2.obs.map Prod.fst, pickD [] 0 r.2.st) = (.out (.pure (.bool r1)), r.2.obs.map Prod.snd, (fr, bF w t1 t2 (some q)) :: T) := by cases r1 <;> cases b <;> kernel_rfl
theorem bC1n_run (w : World) (b c : Bool) (ad : Strm) (fr : Addr) (t1 t2 : Tok) (T : Store) :
    let r := zrun (par w b c []) 27 (.out (zeval (bC1 w) (gEnv w 166 fr))) ad [1, 0, 0, 0, 0, 0, 0, 0, 0] ((fr, bF w t1 t2 none) :: T) [] [] []
    (r.1, r.2.obs.map Prod.fst, pickD [] 0 r.2.st) = (.out (.pure (.bool false)), r.2.obs.map Prod.snd, (fr, bF w t1 t2 none) :: T) := by cases b <;> kernel_rfl
theorem bL_run (w : World) (b c : Bool) (ad : Strm) (fr : Addr) (t1 t2 : Tok) (pv : PV) (T : Store) :
    let r := zrun (par w b c []) 2 (.out (zeval (bL w) (gEnv w 166 fr))) ad [1] ((fr, bF w t1 t2 pv) :: T) [] [] []
    (r.1, r.2.obs.map Prod.fst, pickD [] 0 r.2.st) = (.out (.pure (pxV pv)), r.2.obs.map Prod.snd, (fr, bF w t1 t2 pv) :: T) := by cases pv <;> kernel_rfl
noncomputable def andS : Str := ⟨#[97, 110, 100]⟩
noncomputable def orS : Str := ⟨#[111, 114]⟩
theorem bE1_run (w : World) (b c : Bool) (ad : Strm) (fr : Addr) (T : Store) :
    let r := zrun (par w b c []) 1 (.out (zeval (bE1 w) (gEnv w 166 fr))) ad [] T [] [] []
    (r.1, r.2.obs.map Prod.fst, pickD [] 0 r.2.st) = (.out (.pure (.str andS (ad 0))), r.2.obs.map Prod.snd, T) := by kernel_rfl
theorem bE2_run (w : World) (b c : Bool) (ad : Strm) (fr : Addr) (T : Store) :
    let r := zrun (par w b c []) 1 (.out (zeval (bE2 w) (gEnv w 166 fr))) ad [] T [] [] []
    (r.1, r.2.obs.map Prod.fst, pickD [] 0 r.2.st) = (.out (.pure (.str orS (ad 0))), r.2.obs.map Prod.snd, T) := by kernel_rfl
theorem bMain_run (w : World) (b c : Bool) (ad : Strm) (fr : Addr) (T : Store) :
    let r := zrun (par w b c []) 2 (.out (zmain (gEnv w 166 fr))) ad [0] T [] [] []
    (r.1, r.2.obs.map Prod.fst, pickD [] 0 r.2.st) = (.out (.pure true), r.2.obs.map Prod.snd, T) := by kernel_rfl
theorem bC3_run (w : World) (b c : Bool) (ad : Strm) (fr : Addr) (t1 t2 : Tok) (q : Int × Tok × Str × Tok) (r1 : Bool) (T : Store) :
    let r := zrun (par w b c []) 8 (.out (zeval (bC3 w) (gEnv w 166 fr))) ad [1, 0, 0, 0] ((fr, bF w t1 t2 (some q)) :: T) [] [0] [oInTS 159 q.2.2.1 r1]
    (r.1, r.2.obs.map Prod.fst, pickD [] 0 r.2.st) = (.out (.pure (.bool !r1)), r.2.obs.map Prod.snd, (fr, bF w t1 t2 (some q)) :: T) := by cases r1 <;> cases b <;> kernel_rfl
noncomputable def seqOf (o : Obj) : List Value := match o.data with
  | .seq xs _ => xs.toList
  | _ => []
noncomputable def symV (w : World) : List Value := seqOf (gObj w 159)
noncomputable def symL : List Str := [⟨#[40]⟩, ⟨#[41]⟩, ⟨#[91]⟩, ⟨#[93]⟩, ⟨#[123]⟩, ⟨#[125]⟩, ⟨#[44]⟩, ⟨#[58]⟩, ⟨#[46]⟩, ⟨#[59]⟩, ⟨#[64]⟩, ⟨#[61]⟩, ⟨#[37]⟩, ⟨#[126]⟩, ⟨#[46, 46, 46]⟩]
theorem sym_look (w : World) : ((ktop w.params).get 159, strsOf (symV w), (symV w).length) = (some (tupObj (symV w) 0), symL, symL.length) := by kernel_rfl
noncomputable def aoS (k : Option Str) : Bool := (false || decide (k = some andS)) || decide (k = some orS)
noncomputable def isB : PV → Bool
  | none => false
  | some q => (q.1 == 54 || aoS (some q.2.2.1)) && !anyStr symL q.2.2.1
end Mine
end

section
open PySem PySem.W PySem.W.X PySem.Calls PyProof.Rows
set_option maxHeartbeats 0
namespace Mine
theorem Rep.same {h₀ h h' : Heap} {st : Store} {D : Addr} {o : Obj} (R : Rep h₀ h ((D, o) :: st)) (hs : Heap.SameBut D h h') : Rep h₀ h' st := by
  have own := R.own (D, o) (.head _)
  have nd := R.nd
  rw [List.map_cons, List.nodup_cons] at nd
  refine ⟨fun b o' e => (hs.2 b fun q => ?_).trans (R.keep b o' e), fun p hp => ⟨(hs.2 p.1 fun q => ?_).trans (R.own p (.tail _ hp)).1, (R.own p (.tail _ hp)).2⟩, nd.2⟩
  · rw [q, own.2] at e; cases e
  · have z : D ∈ st.map Prod.fst := by rw [← q]; exact List.mem_map_of_mem hp
    exact nd.1 z
theorem Lev.deeper {L : Nat} {A : Around} (hA : Lev L A) (env : Env) : Lev (L + 1) (A.deeper env) := ⟨hA.handled, by show A.depth + 1 ≤ _; have := hA.depth; omega, by show A.units + 3 ≤ _; have := hA.units; omega⟩
theorem Lev.up {L : Nat} {A : Around} (hA : Lev L A) : Lev (L + 1) A := ⟨hA.handled, by have := hA.depth; omega, by have := hA.units; omega⟩
section
variable {w : World} {A : Around} {L : Nat} {h₀ : Heap} {g : Array GenState} {d : Drawn} {os : OsState} {b c : Bool}
theorem bool_or {x1 x2 : Sem Value} {p : Pos} {Q : Value → Shared → Prop} {E : Value → Shared → Prop} {s : Shared} (h : wpAny (model prg w) A x1 (fun v s1 => ∃ r, v = .bool r ∧ (r = true → Q (.bool true) s1) ∧ (r = false → wpAny (model prg w) A x2 Q E s1)) E s) :
    wpAny (model prg w) A (boolOp p .Or [x1, x2]) Q E s := by
  unfold boolOp
  refine wpAny_bind (wpAny_mono h (fun v s1 q => ?_) fun _ _ q => q)
  obtain ⟨r, rfl, q1, q2⟩ := q
  refine wpAny_bind (wpAny_standAt (wpAny_bind (wpAny_holding (wpAny_truthy_bool ?_))))
  cases r with
  | true => exact wpAny_pure (q1 rfl)
  | false => exact q2 rfl
theorem bool_and {x1 x2 : Sem Value} {p : Pos} {Q : Value → Shared → Prop} {E : Value → Shared → Prop} {s : Shared} (h : wpAny (model prg w) A x1 (fun v s1 => ∃ r, v = .bool r ∧ (r = false → Q (.bool false) s1) ∧ (r = true → wpAny (model prg w) A x2 Q E s1)) E s) :
    wpAny (model prg w) A (boolOp p .And [x1, x2]) Q E s := by
  unfold boolOp
  refine wpAny_bind (wpAny_mono h (fun v s1 q => ?_) fun _ _ q => q)
  obtain ⟨r, rfl, q1, q2⟩ := q
  refine wpAny_bind (wpAny_standAt (wpAny_bind (wpAny_holding (wpAny_truthy_bool ?_))))
  cases r with
  | false => exact wpAny_pure (q1 rfl)
  | true => exact q2 rfl
noncomputable def keyOf (pv : PV) : Option Str := pv.map fun q => q.2.2.1
theorem key_is (pv : PV) : (nsKind prg w).is (keyOf pv) (pxV pv) = true := by
  cases pv with
  | none => rfl
  | some q => show (q.2.2.1 == q.2.2.1) = true; exact beq_self_eq_true _
theorem key_scan (pv : PV) : (pxV pv).scannable = true := by cases pv <;> rfl
theorem set_add {D : Addr} {S : Option Str → Bool} {n : Nat} {s : Str} {t : Tok} {Q : Bool → Shared → Prop} {E : Value → Shared → Prop} {h : Heap} {tk : Nat} (hS : h.SetOf (nsKind prg w) D S n) (hn : n ≤ 2)
    (hq : ∀ h' r, Heap.SameBut D h h' → h'.SetOf (nsKind prg w) D (fun k' => S k' || decide (k' = some s)) (if S (some s) then n else n + 1) → Q r ⟨h', g, d, tk + 1, os⟩) :
    wpAny (model prg w) A (setAdd D (.str s t)) Q E ⟨h, g, d, tk, os⟩ := by
  unfold setAdd
  have hk : (nsKind prg w).is (some s) (.str s t) = true := by show (s == s) = true; exact beq_self_eq_true _
  refine wpAny_holding (wpAny_bind ((nsKind prg w).pyHash (k := some s) hk ?_))
  exact wpAny_setAddHashed_of (k := some s) hk rfl hS (by show n + 1 < 4096; omega) fun h' hs hS' => hq h' _ hs hS'
theorem set_unled {D : Addr} {S : Option Str → Bool} {n : Nat} {Q : Unit → Shared → Prop} {E : Value → Shared → Prop} {h : Heap} {tk : Nat} (hS : h.SetOf (nsKind prg w) D S n)
    (hq : ∀ h', Heap.SameBut D h h' → h'.SetOf (nsKind prg w) D S n → Q () ⟨h', g, d, tk, os⟩) : wpAny (model prg w) A (setUnled D) Q E ⟨h, g, d, tk, os⟩ := by
  obtain ⟨o, es, ep, t, ho, hex, hd, hel, hmem, hb, hf, hn⟩ := hS
  unfold setUnled
  refine wpAny_bind (wpAny_setState_of (s := ⟨h, g, d, tk, os⟩) ho hd hf ?_)
  refine wpAny_storeSet_of (s := ⟨h, g, d, tk, os⟩) ho hd ?_ (fits_of_scanBound hb)
  have hf' : ({ t with led := false } : SetTable).fits es.size = true := by cases t; exact hf
  refine hq _ (Heap.SameBut.update ..) ?_
  have z := (SetOf_store (knd := nsKind prg w) (t' := { t with led := false }) ho hex hd hel hmem hb hf').2
  rw [hn] at z
  exact z
theorem b_in (W : Wd w b c) (hk : KT.Holds h₀ 1 0 (ktop w.params)) (hL : L ≤ 10) (hA : Lev L A) {fr : Addr} {t1 t2 : Tok} {pv : PV} {T : Store} {h : Heap} {tk : Nat} {Q : Value → Shared → Prop} {E : Value → Shared → Prop}
    (R : Rep h₀ h ((fr, bF w t1 t2 pv) :: T)) (hq : ∀ h' tk', Rep h₀ h' ((fr, bF w t1 t2 pv) :: T) → Q (.bool (aoS (keyOf pv))) ⟨h', g, d, tk', os⟩) :
    wpAny (model prg w) A (eval (.Compare (bL w) [.In] [.Set [bE1 w, bE2 w] 0 (posE (bSet w))] (posE (bC2 w))) (gEnv w 166 fr)) Q E ⟨h, g, d, tk, os⟩ := by
  have K0 := kn_none (b := b) (c := c) hk
  refine kdi_eval (b_mark w) ?_
  have e1 : PySem.eval (bL w) (gEnv w 166 fr) = zeval (bL w) (gEnv w 166 fr) := by rw [zeval_eq]
  rw [e1]
  refine out_ms (by_runs W K0 hL hA (fun ad => bL_run w b c ad fr t1 t2 pv T) trivial rfl R ot_nil fun ad h1 tk1 R1 => wpAny_pure ?_)
  rw [arm_eval_Set]
  refine wpAny_bind (wpAny_standAt (wpAny_bind ?_))
  rw [zmain_eq]
  refine out_ms (by_runs W K0 hL hA (fun ad => bMain_run w b c ad fr _) trivial rfl R1 ot_nil fun ad h2 tk2 R2 => wpAny_pure ?_)
  rw [kds_star _ (b_plain w)]
  refine kds_core (ts := (evalEach [bE1 w, bE2 w] (gEnv w 166 fr)).map fun t => do let v ← t; standAt (posE (bSet w)); pure v) rfl rfl (by show 2 ≤ 30; decide) (by rw [List.map_map, List.map_map]; rfl) fun led => ?_
  refine kds_all _ _ _ _ ?_
  have R3 := R2.alloc (o := { cls := .type "set", dict := none, data := .set #[] 0 (.fresh 0 0 led) }) rfl
  show wpAny _ _ (PySem.eval (bE1 w) (gEnv w 166 fr)) _ _ _
  have e2 : PySem.eval (bE1 w) (gEnv w 166 fr) = zeval (bE1 w) (gEnv w 166 fr) := by rw [zeval_eq]
  rw [e2]
  refine out_ms (by_runs W K0 hL hA (fun ad => bE1_run w b c ad fr _) trivial rfl R3 ot_nil fun ad4 h4 tk4 R4 => wpAny_pure ?_)
  show wpAny _ _ (PySem.eval (bE2 w) (gEnv w 166 fr)) _ _ _
  have e3 : PySem.eval (bE2 w) (gEnv w 166 fr) = zeval (bE2 w) (gEnv w 166 fr) := by rw [zeval_eq]
  rw [e3]
  refine out_ms (by_runs W K0 hL hA (fun ad => bE2_run w b c ad fr _) trivial rfl R4 ot_nil fun ad5 h5 tk5 R5 => wpAny_pure ?_)
  have S0 : h5.SetOf (nsKind prg w) h2.objs.size (fun _ => false) 0 := ⟨_, #[], 0, _, (R5.own _ (.head _)).1, ⟨rfl, rfl, rfl⟩, rfl, fun e he => by simp at he, fun k => by simp, by decide, rfl, rfl⟩
  refine kds_fill_cons (set_add S0 (by omega) fun h6 r6 sb6 S6 => ?_)
  have n6 : (if (fun _ : Option Str => false) (some andS) = true then 0 else 0 + 1) = 1 := rfl
  rw [n6] at S6
  refine kds_fill_cons (set_add S6 (by omega) fun h7 r7 sb7 S7 => ?_)
  refine kds_fill_nil rfl (kdi_mark (set_unled S7 fun h8 sb8 S8 => ?_))
  refine wpAny_inSet_of (knd := nsKind prg w) (key_is pv) (key_scan pv) S8 ?_
  exact hq _ _ (R5.same ((sb6.trans sb7).trans sb8))
end
end Mine
end

section
open PySem PySem.W PySem.W.X PySem.Calls PyProof.Rows
set_option maxHeartbeats 0
namespace Mine
theorem Lev.in1 {L : Nat} {A : Around} (hA : Lev L A) : Lev (L + 1) A.in1 := ⟨hA.handled, Nat.le_trans hA.depth (by omega), by show A.units + 1 ≤ _; have := hA.units; omega⟩
theorem no_limit {w : World} {h : Heap} (hk : KT.Holds h 1 0 (ktop w.params)) : h.NoLimit := by
  have e : (ktop w.params).get cStatics = some { cls := .none, data := .dict #[] 0 } := by kernel_rfl
  have z := KT.Holds.get hk e
  rw [Nat.one_mul, Nat.add_zero] at z
  exact ⟨fun _ => none, ⟨_, #[], 0, z, rfl, fun e he => by simp at he, fun name => rfl⟩, rfl⟩
noncomputable def genO (g : Nat) (nm qn : Value) : Obj := { cls := .type "generator", data := .fields #[.int g 0, nm, qn] }
noncomputable def isSegCall {α : Type} : Md α → Bool
  | .seg _ _ (.call ..) => true
  | _ => false
noncomputable def isSegYield {α : Type} : Md α → Bool
  | .seg _ fs (.yield _ g _ _) => !g && (splitAtGen fs).isNone && !fs.any Frame.guarded
  | _ => false
section
variable {w : World} {A : Around} {α : Type} {Q : α → Shared → Prop} {E : Value → Shared → Prop} {Pe : End → Shared → Prop} {L : Nat}
theorem seg_enter {md : Md α} (e : isSegCall md = true) {s : Shared} (x : ∀ p, SegX (model prg w) A (codeOf md) (zdenote (codeOf md)) (frOf md p) s Pe) : Ms prg w A Q E Pe md s := by
  rw [← zdenote_eq] at x
  cases md with
  | seg c fs t =>
    cases t with
    | call c' hd g l k => exact s_call _ _ _ _ _ _ _ _ _ _ _ _ x
    | _ => cases e
  | _ => cases e
theorem seg_yield {md : Md α} (e : isSegYield md = true) {s : Shared} (x : ∀ p, Pe (.susp (yvOf md) false (ylOf md) (ykOf md) (mdCode md) p (mdFs md)) s) : Ms prg w A Q E Pe md s := by
  cases md with
  | seg c fs t =>
    cases t with
    | yield v g l k =>
      have e : (!g && (splitAtGen fs).isNone && !fs.any Frame.guarded) = true := e
      rw [Bool.and_eq_true, Bool.and_eq_true] at e
      obtain ⟨⟨e1, e2⟩, e3⟩ := e
      have eg : g = false := by simpa using e1
      subst eg
      exact s_yield _ _ _ _ _ _ _ _ _ _ (Option.isNone_iff_eq_none.mp e2) (by simpa using e3) x
    | _ => cases e
  | _ => cases e
theorem seg_again {md : Md α} {c₁ c : Code} {fs : List Frame} (hm : md = .seg c₁ fs (.pure (.again c))) (hq : c.quiet = true) {s : Shared} (x : Ms prg w A Q E Pe (.seg c fs (zdenote c) : Md α) s) : Ms prg w A Q E Pe md s := by
  subst hm
  rw [← zdenote_eq] at x
  exact s_again _ _ _ _ _ _ _ _ hq x
theorem stop_new (t : Addr) : ({ cls := .type "StopIteration", data := .fields (#[.ref t, .none, .none, .none, .bool false, .none] ++ ownMembersOf (Value.type "StopIteration") []) } : Obj) = stopObj t := by kernel_rfl
theorem gen_next {s : Shared} {R : Result → Shared → Prop} (hlim : s.heap.NoLimit) (hL : L ≤ 10) (hA : Lev L A) {a : Addr} {g : Nat} {gs : GenState} {c₀ : Code} {t₀ : Sem Fin} {fs₀ : List Frame} (hg : s.heap.IsGen a g) (hgs : s.gens[g]? = some gs)
    (hgo : (gs = .fresh c₀ ∧ t₀ = denote table c₀ ∧ fs₀ = []) ∨ (∃ k l p cl, gs = .suspended k l c₀ p fs₀ cl ∧ t₀ = k (.send .none)))
    (x : SegX (model prg w) A.in1 c₀ t₀ fs₀ (s.setGen g .running) (fun e s₁ => match e with
      | .susp v _ _ _ _ _ _ => R (.ok (.ret v)) (s₁.setGen g e.genState)
      | .ret r => r = .ok (.ret .none) ∧ R (.error (.ref (s₁.heap.objs.size + 1))) { s₁.setGen g .finished with heap := (s₁.heap.push (tupObj [] 0)).push (stopObj s₁.heap.objs.size) })) :
    wpAny (model prg w) A (.call (.call (.builtin "generator.__next__") ⟨[.ref a], []⟩) none false [] Sem.pure) R (fun _ _ => False) s := by
  have hroom : A.depth < recursionLimit := by have := hA.depth; show A.depth < 1000; omega
  refine orc_call (wpAny_call_entry slot_gen_next hg.typeIs entry_gen_next ?_ (args_gen_next _))
  show wpAny _ A.in1 (Builtin.Generator.genWake (.ref a) (.send .none)) _ _ s
  unfold Builtin.Generator.genWake
  refine wpAny_bind (wpAny_holding (wpAny_genNumber hg (wpAny_bind (wpAny_genState hgs ?_))))
  have key : ∀ (k : GenResult → Sem Fin), (∀ v s', R (.ok (.ret v)) s' → wpAny (model prg w) A.in1 (k (.yielded v)) (fun fin s' => ∃ v, fin = .done (.ret v) ∧ R (.ok (.ret v)) s') (fun e s' => R (.error e) s') s') →
      (∀ s₁ : Shared, R (.error (.ref (s₁.heap.objs.size + 1))) { s₁ with heap := (s₁.heap.push (tupObj [] 0)).push (stopObj s₁.heap.objs.size) } → wpAny (model prg w) A.in1 (k (.returned .none)) (fun fin s' => ∃ v, fin = .done (.ret v) ∧ R (.ok (.ret v)) s') (fun e s' => R (.error e) s') s₁) →
      wpAny (model prg w) A.in1 (.resume g (.send .none) [] k) (fun fin s' => ∃ v, fin = .done (.ret v) ∧ R (.ok (.ret v)) s') (fun e s' => R (.error e) s') s := by
    intro k hy hr
    refine fun Γ p hΓ => wake_any Fin prg w (l := []) hgs ?_ (fun Γ => Γ.In A.in1) (fun _ h => h) (x.mono fun e s₁ he => ?_) Γ p hΓ
    · rcases hgo with ⟨rfl, rfl, rfl⟩ | ⟨k, l, p, cl, rfl, rfl⟩
      · exact .inl ⟨rfl, rfl, rfl, rfl⟩
      · exact .inr ⟨k, l, p, cl, rfl, rfl⟩
    · cases e with
      | susp v gd l k' c p fs => exact fun Γ p hΓ => hy v _ he Γ p hΓ
      | ret r =>
        obtain ⟨rfl, he⟩ := he
        exact fun Γ p hΓ => hr _ he Γ p hΓ
  have rest : ∀ (s₁ : Shared) (m : PUnit → Sem Fin), R (.error (.ref (s₁.heap.objs.size + 1))) { s₁ with heap := (s₁.heap.push (tupObj [] 0)).push (stopObj s₁.heap.objs.size) } →
      wpAny (model prg w) A.in1 (newExc (.type "StopIteration") [] >>= fun e => (raiseNew e : Sem PUnit) >>= m) (fun fin s' => ∃ v, fin = .done (.ret v) ∧ R (.ok (.ret v)) s') (fun e s' => R (.error e) s') s₁ := by
    intro s₁ m he
    refine wpAny_bind ?_
    simp only [newExc, newTuple]
    refine wpAny_bind (wpAny_newObj_type ?_ (by size_fits))
    refine wpAny_bind (m := firstArgMember _ _) (wpAny_of_eq (a := Value.none) (by first | rfl | (simp only [firstArgMember]; rfl)) ?_)
    refine wpAny_newObj_type ?_ (by size_fits)
    refine wpAny_bind (raise_new (A := A) hA.handled ?_)
    have e9 : (s₁.heap.push (tupObj [] 0)).objs.size = s₁.heap.objs.size + 1 := Heap.size_push ..
    rw [stop_new]
    rw [← e9] at he
    exact he
  cases gs with
  | running => rcases hgo with ⟨e, _⟩ | ⟨k, l, p, cl, e, _⟩ <;> cases e
  | finished => rcases hgo with ⟨e, _⟩ | ⟨k, l, p, cl, e, _⟩ <;> cases e
  | fresh c => exact wpAny_bind (wpAny_roomToWake hlim hroom (key _ (fun v s' q => wpAny_pure ⟨v, rfl, q⟩) fun s₁ q => rest _ _ q))
  | suspended k l c p fs cl => exact wpAny_bind (wpAny_roomToWake hlim hroom (key _ (fun v s' q => wpAny_pure ⟨v, rfl, q⟩) fun s₁ q => rest _ _ q))
end
end Mine
end

section
open PySem PySem.W PySem.W.X PySem.Calls PyProof.Rows
set_option maxHeartbeats 0
namespace Mine
section
variable {w : World} {A : Around} {L : Nat} {h₀ : Heap} {g : Array GenState} {d : Drawn} {os : OsState} {b c : Bool}
theorem code_rec {h : Heap} (hk : KT.Holds h 1 0 (ktop w.params)) {a cc : Addr} (e : fnLook w a cc = fnLook' w a cc) : h.CodeRec (gFd w a).code (gFd w a).qualname := by
  simp only [fnLook, fnLook', Prod.mk.injEq] at e
  obtain ⟨_, _, _, e4, e5, e6, e7, _⟩ := e
  exact ⟨cc, _, _, _, e4, kt_at hk e5, e6, e7⟩
theorem bin_body (W : Wd w b c) (hk : KT.Holds h₀ 1 0 (ktop w.params)) (hL : L ≤ 10) (hA : Lev L A) {fr : Addr} {t1 t2 : Tok} {pv : PV} {T : Store} {h : Heap} {tk : Nat} {Q : Value → Shared → Prop} {E : Value → Shared → Prop}
    (R : Rep h₀ h ((fr, bF w t1 t2 pv) :: T)) (hq : ∀ h' tk', Rep h₀ h' ((fr, bF w t1 t2 pv) :: T) → Q (.bool (isB pv)) ⟨h', g, d, tk', os⟩) :
    wpAny (model prg w) A (eval (.BoolOp .And [.BoolOp .Or [bC1 w, .Compare (bL w) [.In] [.Set [bE1 w, bE2 w] 0 (posE (bSet w))] (posE (bC2 w))] (posE (bOr w)), bC3 w] (posE (bE w))) (gEnv w 166 fr)) Q E ⟨h, g, d, tk, os⟩ := by
  have K0 := kn_none (b := b) (c := c) hk
  rw [arm_eval_BoolOp]
  show wpAny _ _ (boolOp _ .And [PySem.eval (.BoolOp .Or [bC1 w, .Compare (bL w) [.In] [.Set [bE1 w, bE2 w] 0 (posE (bSet w))] (posE (bC2 w))] (posE (bOr w))) (gEnv w 166 fr), PySem.eval (bC3 w) (gEnv w 166 fr)]) _ _ _
  refine bool_and ?_
  rw [arm_eval_BoolOp]
  show wpAny _ _ (boolOp _ .Or [PySem.eval (bC1 w) (gEnv w 166 fr), PySem.eval (.Compare (bL w) [.In] [.Set [bE1 w, bE2 w] 0 (posE (bSet w))] (posE (bC2 w))) (gEnv w 166 fr)]) _ _ _
  refine bool_or ?_
  have e1 : PySem.eval (bC1 w) (gEnv w 166 fr) = zeval (bC1 w) (gEnv w 166 fr) := by rw [zeval_eq]
  rw [e1]
  cases pv with
  | none =>
    refine out_ms (by_runs W K0 hL hA (fun ad => bC1n_run w b c ad fr t1 t2 T) trivial rfl R ot_nil fun ad h1 tk1 R1 => wpAny_pure ⟨false, rfl, (fun q => by cases q), fun _ => ?_⟩)
    refine b_in W hk hL hA R1 fun h2 tk2 R2 => ⟨false, rfl, fun _ => hq h2 tk2 R2, fun q => by cases q⟩
  | some q =>
    have third : ∀ h' tk', Rep h₀ h' ((fr, bF w t1 t2 (some q)) :: T) → (q.1 == 54 || aoS (some q.2.2.1)) = true → wpAny (model prg w) A (PySem.eval (bC3 w) (gEnv w 166 fr)) Q E ⟨h', g, d, tk', os⟩ := by
      intro h' tk' R' hb
      have e3 : PySem.eval (bC3 w) (gEnv w 166 fr) = zeval (bC3 w) (gEnv w 166 fr) := by rw [zeval_eq]
      rw [e3]
      have sl := sym_look w
      simp only [Prod.mk.injEq] at sl
      refine out_ms (by_runs W K0 hL hA (fun ad => bC3_run w b c ad fr t1 t2 q (anyStr symL q.2.2.1) T) trivial rfl R' (ot_cons (oInTS_ok (kt_at hk sl.1) sl.2.1 sl.2.2 rfl) ot_nil) fun ad h2 tk2 R2 => wpAny_pure ?_)
      have eb : isB (some q) = !anyStr symL q.2.2.1 := by show ((q.1 == 54 || aoS (some q.2.2.1)) && !anyStr symL q.2.2.1) = _; rw [hb, Bool.true_and]
      rw [← eb]
      exact hq h2 tk2 R2
    refine out_ms (by_runs W K0 hL hA (fun ad => bC1_run w b c ad fr t1 t2 q (q.1 == 54) T) trivial rfl R (ot_cons (oEqI_ok rfl) ot_nil) fun ad h1 tk1 R1 => wpAny_pure ⟨_, rfl, fun hb => ⟨true, rfl, (fun q => by cases q), fun _ => third h1 tk1 R1 (by rw [hb]; rfl)⟩, fun hb => ?_⟩)
    refine b_in W hk hL hA R1 fun h2 tk2 R2 => ⟨_, rfl, fun ha => ?_, fun ha => third h2 tk2 R2 (by rw [hb, Bool.false_or]; exact ha)⟩
    have eb : isB (some q) = false := by
      show ((q.1 == 54 || aoS (some q.2.2.1)) && !anyStr symL q.2.2.1) = _
      have ha' : aoS (some q.2.2.1) = false := ha
      rw [hb, ha']; rfl
    have z := hq h2 tk2 R2
    rw [eb] at z
    exact z
theorem isbin_ok (W : Wd w b c) (hk : KT.Holds h₀ 1 0 (ktop w.params)) (hL : L ≤ 8) (pv : PV) : OrcOk L prg w h₀ g d os (oBin 166 (pkV pv) (pxV pv) (isB pv)) := by
  intro A' args r st h tk hA R hr hl
  unfold oBin at hr
  dsimp only at hr
  split at hr
  · rename_i v x
    cases hr
    have e1 : v = pkV pv := OV.v.inj (hl _ (.head _))
    have e2 : x = pxV pv := OV.v.inj (hl _ (.tail _ (.head _)))
    subst e1 e2
    have hk' := hk.keeps R.keep
    have lk := b_look w
    have lk' := lk
    simp only [fnLook, fnLook', Prod.mk.injEq] at lk'
    obtain ⟨l1, l2, l3, _, _, _, _, l8⟩ := lk'
    have hA1 := hA.mark
    have hroom : (A'.mark none).depth < recursionLimit := by have := hA1.depth; show (A'.mark none).depth < 1000; omega
    refine x_call (codeAny_call_function hroom (kt_at hk' l1) l2 l8 (b_gen w) l3 (code_rec hk' lk) ?_) (by intro e; cases e)
    rw [zbind_eq, bBind_run]
    refine wpAny_pure ?_
    have K0 := kn_none (b := b) (c := c) hk
    have e3 : newFunctionEnv (gFd w 166).scope (gFd w 166).globals (gFd w 166).closure [(S "token_type", pkV pv), (S "text", pxV pv)] ((gFd w 166).qualname ++ ".<locals>.") (some 166) (gFd w 166).code none (gFd w 166).builtins = newEnv w 166 [(S "token_type", pkV pv), (S "text", pxV pv)] := by
      unfold newEnv; rw [znewEnv_eq]
    rw [e3]
    refine out_ms (by_runs W K0 (by omega) hA1.in1 (fun ad => bEnv_run w b c ad pv st) trivial rfl R ot_nil fun ad h1 tk1 R1 => wpAny_pure ⟨no_limit (hk.keeps R1.keep), ?_⟩)
    refine codeAny_func ?_
    rw [b_shape]
    refine wpAny_execs_cons (wpAny_Return_some ?_)
    refine bin_body W hk (by omega) (hA1.deeper _) R1 fun h2 tk2 R2 => ?_
    exact wpAny_pure ⟨0, 0, h2, tk2, rfl, rfl, R2.drop 1⟩
  · cases hr
end
end Mine
end

section
open PySem PySem.W PySem.W.X PySem.Calls PyProof.Rows
set_option maxHeartbeats 0
namespace Mine
noncomputable def fsFit : Nat → List Frame → Bool
  | _, [] => true
  | 0, _ :: _ => false
  | n + 1, .ret _ h _ _ c _ _ :: fs => h.isNone && notCaller c && fsFit n fs
  | _, .gen .. :: _ => false
theorem fsFit_ok : ∀ {n : Nat} {fs : List Frame}, fsFit n fs = true → FsOk fs ∧ frameCount (fs.map Frame.where_) ≤ 5 * n ∧ unitsOf (fs.map Frame.where_) ≤ 10 * n
  | n, [], _ => ⟨trivial, by show 0 ≤ _; omega, by show 0 ≤ _; omega⟩
  | 0, _ :: _, e => by simp [fsFit] at e
  | n + 1, .ret k h g l c p kp :: fs, e => by
    simp only [fsFit, Bool.and_eq_true] at e
    obtain ⟨⟨e1, e2⟩, e3⟩ := e
    obtain ⟨i1, i2, i3⟩ := fsFit_ok e3
    have hw := weight_le e2
    have hu := units_le c
    refine ⟨⟨Option.isNone_iff_eq_none.mp e1, i1⟩, ?_, ?_⟩
    · rw [List.map_cons]
      show frameCount ((c, p) :: _) ≤ _
      rw [frameCount_cons]
      omega
    · rw [List.map_cons]
      show unitsOf ((c, p) :: _) ≤ _
      rw [unitsOf_cons]
      omega
  | n + 1, .gen .. :: _, e => by simp [fsFit] at e
theorem seg_fit {L : Nat} {A : Around} (hA : Lev L A) {c : Code} {fs : List Frame} (hc : notCaller c = true) (hf : fsFit 3 fs = true) : SegOk (L + 1) A.in1 c fs := by
  obtain ⟨i1, i2, i3⟩ := fsFit_ok hf
  have hw := weight_le hc
  have hu := units_le c
  have h1 := hA.depth
  have h2 := hA.units
  refine ⟨i1, ?_, ?_⟩
  · show A.depth + frameCount (fs.map Frame.where_) + c.weight ≤ _
    omega
  · show A.units + 1 + unitsOf (fs.map Frame.where_) + c.cUnits ≤ _
    omega
structure Cx where
  t : Tk
  prev : Option Str
  lb : Bool
  uc : Bool
noncomputable def goC (lb uc : Bool) (prev : Option Str) : List Tk → List Cx
  | [] => []
  | t :: l => bif (kindA t.s).1 == 61 then goC lb uc prev l else bif partS t.s newline then goC true uc prev l else ⟨t, prev, lb, uc⟩ :: goC false (partS openS t.s) (some t.s) l
structure TokOk (t : Tk) : Prop where
  ne3 : ((kindA t.s).1 != 3) = true
  cr : partS t.s ⟨#[13]⟩ = false
noncomputable def PvOk (pv : PV) (prev : Option Str) : Prop := (pv.map fun q => (q.1, q.2.2.1)) = prev.map fun s => ((kindA s).1, s)
noncomputable def cxO (cx : Cx) (u : Tok) (pv : PV) : Obj := ctxO (kindA cx.t.s).1 (kindA cx.t.s).2 cx.t.s u (pkV pv) (pxV pv) cx.lb cx.uc cx.t.sa
noncomputable def iGs (w : World) (fi it : Addr) (p : Pos) (x : Addr) (p' : Pos) : GenState := .suspended (ykOf (iYield w fi it p x)) (ylOf (iYield w fi it p x)) (mdCode (iYield w fi it p x)) p' (mdFs (iYield w fi it p x)) false
noncomputable def ISusp (w : World) (tk : Addr) (td : List Tk) (rest : List Cx) (gs : GenState) (q1 q2 : Addr × Obj) : Prop :=
  ∃ fi it p x p' i t kk lb uc pk px s kt u v3 v4 v5, gs = iGs w fi it p x p' ∧ q1 = (it, itObj tk i) ∧ q2 = (fi, iF w tk t lb uc pk px (some (kk, .int (kindA s).1 kt, .str s u, v3, v4, v5))) ∧
    rest = goC false (partS openS s) (some s) (td.drop i)
theorem iMd1_ok (w : World) (fi it : Addr) : (isSegCall (iFuncMd w fi it) && (notCaller (iLoop w fi it) && (iLoop w fi it).quiet)) = true := by kernel_rfl
theorem iFs_ok (w : World) (fi it : Addr) (p : Pos) : fsFit 3 (iFs w fi it p) = true := by kernel_rfl
theorem iYield_ok (w : World) (fi it : Addr) (p : Pos) (x : Addr) : (isSegYield (iYield w fi it p x), yvOf (iYield w fi it p x)) = (true, .ref x) := by kernel_rfl
theorem iYield_code (w : World) (fi it : Addr) (p : Pos) (x : Addr) : (mdCode (iYield w fi it p x), mdFs (iYield w fi it p x)) = (iLoop w fi it, iFs w fi it p) := by kernel_rfl
noncomputable def iBlock (w : World) (fi it : Addr) (p : Pos) : Code := againOf (iEndMd w fi it p)
theorem iEndMd_eq (w : World) (fi it : Addr) (p : Pos) : iEndMd w fi it p = .seg (iLoop w fi it) (iFs w fi it p) (.pure (.again (iBlock w fi it p))) := by kernel_rfl
theorem iBlock_ok (w : World) (fi it : Addr) (p : Pos) : (notCaller (iBlock w fi it p) && (iBlock w fi it p).quiet) = true := by kernel_rfl
theorem iLast_run (w : World) (b c : Bool) (ad : Strm) (fi it : Addr) (p : Pos) (T : Store) :
    let r := zrun (par w b c []) 9 (.seg (iBlock w fi it p) (iFs w fi it p) (zdenote (iBlock w fi it p)) : Md Result) ad [] T [] [] []
    (r.1, r.2.obs.map Prod.fst, pickD [] 0 r.2.st) = (.seg (gCode w 173 fi) [] (.pure (.done (.ret .none))), r.2.obs.map Prod.snd, T) := by kernel_rfl
section
variable {w : World} {A : Around} {L : Nat} {h₁ : Heap} {g : Array GenState} {d : Drawn} {os : OsState} {b c : Bool}
theorem PvOk.some {pv : PV} {s : Str} {kt u : Tok} (e : pv = some ((kindA s).1, kt, s, u)) : PvOk pv (some s) := by subst e; rfl
theorem inner_seg (W : Wd w b c) (hk : KT.Holds h₁ 1 0 (ktop w.params)) (hL : L ≤ 9) (hA : Lev L A) {Q : Result → Shared → Prop} {E : Value → Shared → Prop} {Pe : End → Shared → Prop} {fi it tk : Addr} {p : Pos} {items : List Value} {n : Nat} {td : List Tk} {T1 : Store}
    (htk : h₁.get? tk = some (listObj items n)) (hT1 : ∀ p ∈ T1, h₁.get? p.1 = some p.2) (htd : All2 (TkIn T1) items td) (hok : ∀ t ∈ td, TokOk t) {T : Store} {rest : List Cx}
    (finY : ∀ cx rest', rest = cx :: rest' → ∀ h' tk' x u pv q1 q2 p', Rep h₁ h' ((x, cxO cx u pv) :: q1 :: q2 :: T) → PvOk pv cx.prev → ISusp w tk td rest' (iGs w fi it p x p') q1 q2 →
      Pe (.susp (.ref x) false (ylOf (iYield w fi it p x)) (ykOf (iYield w fi it p x)) (mdCode (iYield w fi it p x)) p' (mdFs (iYield w fi it p x))) ⟨h', g, d, tk', os⟩)
    (finE : rest = [] → ∀ h' tk', Rep h₁ h' T → Pe (.ret (.ok (.ret .none))) ⟨h', g, d, tk', os⟩) :
    ∀ (m : Nat) {i : Nat} {h : Heap} {tkn : Nat} {lb uc : Bool} {pv : PV} {prev : Option Str} {o : Option IM} {t : Strm}, m = items.length - i → Rep h₁ h ((it, itObj tk i) :: (fi, iF w tk t lb uc (pkV pv) (pxV pv) o) :: T) → PvOk pv prev → goC lb uc prev (td.drop i) = rest →
      Ms prg w A.in1 Q E Pe (iHead w fi it p) ⟨h, g, d, tkn, os⟩ := by
  have hlen := htd.len
  have hA1 := hA.in1
  have m1 := iMd1_ok w fi it
  simp only [Bool.and_eq_true] at m1
  have hseg : MdOk (L + 1) A.in1 (iHead w fi it p) := seg_fit hA m1.2.1 (iFs_ok w fi it p)
  intro m
  induction m with
  | zero =>
    intro i h tkn lb uc pv prev o t hm RR hpv hr
    have hv : items[i]? = none := List.getElem?_eq_none_iff.mpr (by omega)
    have hd0 : td.drop i = [] := List.drop_eq_nil_of_le (by omega)
    rw [hd0] at hr
    have K0 := kn_none (b := b) (c := c) hk
    refine by_runs W K0 (by omega) hA1 (fun ad => iEnd_run w b c ad fi it p tk items n i _) hseg rfl RR (ot_cons (oEnd_ok htk hv) ot_nil) fun ad h1 tk1 R1 => ?_
    have bk := iBlock_ok w fi it p
    rw [Bool.and_eq_true] at bk
    refine seg_again (iEndMd_eq w fi it p) bk.2 ?_
    refine by_runs W K0 (by omega) hA1 (fun ad => iLast_run w b c ad fi it p _) (seg_fit hA bk.1 (iFs_ok w fi it p)) rfl R1 ot_nil fun ad h2 tk2 R2 => ?_
    exact s_end _ _ _ _ _ _ (.ok (.ret .none)) _ rfl (finE hr.symm _ _ (R2.drop 1))
  | succ m ih =>
    intro i h tkn lb uc pv prev o t hm RR hpv hr
    have hi : i < items.length := by omega
    have hv : items[i]? = some items[i] := List.getElem?_eq_getElem hi
    obtain ⟨tk0, ht, F⟩ := htd.get hv
    have ht' := ht
    obtain ⟨ta, dd, u, ea, lt, lk, e, hmem⟩ := F
    rw [e] at hv
    have g1 := hT1 _ hmem
    have ok := hok _ (List.mem_of_getElem? ht)
    have K1 : Kn (par w b c [(ta, tokO dd [.int (kindA tk0.s).1 (kindA tk0.s).2, .str tk0.s u, .ref tk0.sa, .ref ea, .str lt lk])]) h₁ := kn_of hk (by intro q hq; rw [List.mem_singleton] at hq; subst hq; exact g1)
    have hdr : td.drop i = tk0 :: td.drop (i + 1) := by
      obtain ⟨hlt, ge⟩ := List.getElem?_eq_some_iff.mp ht
      rw [List.drop_eq_getElem_cons hlt, ge]
    rw [hdr] at hr
    unfold goC at hr
    have nx : ∀ j, OrcOk (L + 1) prg w h₁ g d os (oNext j (.base tk) tk items n i (.ref ta)) := fun j => oNext_ok htk hv
    cases hc1 : (kindA tk0.s).1 == 61 with
    | true =>
      rw [hc1, cond_true] at hr
      refine by_runs W K1 (by omega) hA1 (fun ad => iSkip_run w b c ad fi it p tk ta dd tk0.sa ea _ _ tk0.s u lt lk items n i t lb uc (pkV pv) (pxV pv) o _) hseg rfl RR (ot_cons (nx 0) (ot_cons (oEqI_ok hc1) ot_nil)) fun ad h1 tk1 R1 => ?_
      exact seg_again rfl m1.2.2 (ih (by omega) R1 hpv hr)
    | false =>
      rw [hc1, cond_false] at hr
      cases hc2 : partS tk0.s newline with
      | true =>
        rw [hc2, cond_true] at hr
        refine by_runs W K1 (by omega) hA1 (fun ad => iNl_run w b c ad fi it p tk ta dd tk0.sa ea _ _ tk0.s u lt lk items n i t lb uc (pkV pv) (pxV pv) o _) hseg rfl RR (ot_cons (nx 0) (ot_cons (oEqI_ok hc1) (ot_cons (oInS_ok hc2) (ot_cons (oNeI_ok ok.ne3) ot_nil)))) fun ad h1 tk1 R1 => ?_
        exact seg_again rfl m1.2.2 (ih (by omega) R1 hpv hr)
      | false =>
        rw [hc2, cond_false] at hr
        refine by_runs W K1 (by omega) hA1 (fun ad => iVis_run w b c ad fi it p tk ta dd tk0.sa ea _ _ tk0.s u lt lk items n i t lb uc pv o _) hseg rfl RR (ot_cons (nx 0) (ot_cons (oEqI_ok hc1) (ot_cons (oInS_ok hc2) (ot_cons (oInS_ok ok.cr) ot_nil)))) fun ad h1 tk1 R1 => ?_
        have ye := iYield_ok w fi it p (ad 19)
        simp only [Prod.mk.injEq] at ye
        refine seg_yield ye.1 fun p' => ?_
        rw [ye.2]
        exact finY _ _ hr.symm h1 tk1 (ad 19) u pv _ _ p' R1 hpv ⟨fi, it, p, ad 19, p', i + 1, t, kI o ad, lb, uc, pkV pv, pxV pv, tk0.s, (kindA tk0.s).2, u, .ref tk0.sa, .ref ea, .str lt lk, rfl, rfl, rfl, rfl⟩
end
end Mine
end

section
open PySem PySem.W PySem.W.X PySem.Calls PyProof.Rows
set_option maxHeartbeats 0
namespace Mine
noncomputable def ISt (w : World) (tk : Addr) (td : List Tk) (rest : List Cx) (gs : GenState) (S : Store) : Prop :=
  (∃ fi t0, gs = .fresh (gCode w 173 fi) ∧ S = [(fi, frm [ent w "tokens" t0 (.ref tk)] 1)] ∧ rest = goC false true none td) ∨ (∃ q1 q2, S = [q1, q2] ∧ ISusp w tk td rest gs q1 q2)
theorem set_set (g : Array GenState) (n : Nat) (a b : GenState) : (g.setIfInBounds n a).setIfInBounds n b = g.setIfInBounds n b := by simp
theorem iGs_eq (w : World) (fi it : Addr) (p : Pos) (x : Addr) (p' : Pos) : (End.susp (.ref x) false (ylOf (iYield w fi it p x)) (ykOf (iYield w fi it p x)) (mdCode (iYield w fi it p x)) p' (mdFs (iYield w fi it p x))).genState = iGs w fi it p x p' := by kernel_rfl
theorem gCode_ok (w : World) (fi : Addr) : notCaller (gCode w 173 fi) = true := rfl
section
variable {w : World} {A : Around} {L : Nat} {h₁ : Heap} {g : Array GenState} {d : Drawn} {os : OsState} {b c : Bool}
theorem inner_next (W : Wd w b c) (hk : KT.Holds h₁ 1 0 (ktop w.params)) (hL : L ≤ 9) (hA : Lev L A) {R : Result → Shared → Prop} {tk : Addr} {items : List Value} {n : Nat} {td : List Tk} {T1 : Store}
    (htk : h₁.get? tk = some (listObj items n)) (hT1 : ∀ p ∈ T1, h₁.get? p.1 = some p.2) (htd : All2 (TkIn T1) items td) (hok : ∀ t ∈ td, TokOk t) {S T : Store} {rest : List Cx} {h : Heap} {tkn : Nat} {gs : GenState} {ga : Addr} {ni : Nat}
    (RR : Rep h₁ h (S ++ T)) (hS : ISt w tk td rest gs S) (hg : h.IsGen ga ni) (hgs : g[ni]? = some gs)
    (finY : ∀ cx rest', rest = cx :: rest' → ∀ h' tk' x u pv q1 q2 gs', Rep h₁ h' ((x, cxO cx u pv) :: q1 :: q2 :: T) → PvOk pv cx.prev → ISusp w tk td rest' gs' q1 q2 → R (.ok (.ret (.ref x))) ⟨h', g.setIfInBounds ni gs', d, tk', os⟩)
    (finE : rest = [] → ∀ h' tk' e t, Rep h₁ h' ((e, stopObj t) :: (t, tupObj [] 0) :: T) → R (.error (.ref e)) ⟨h', g.setIfInBounds ni .finished, d, tk', os⟩) :
    wpAny (model prg w) A (.call (.call (.builtin "generator.__next__") ⟨[.ref ga], []⟩) none false [] Sem.pure) R (fun _ _ => False) ⟨h, g, d, tkn, os⟩ := by
  have hlim := no_limit (hk.keeps RR.keep)
  have hA1 := hA.in1
  have m1 := fun fi it => iMd1_ok w fi it
  simp only [Bool.and_eq_true] at m1
  have fE : rest = [] → ∀ h' tk', Rep h₁ h' T → (Except.ok (Flow.ret Value.none) : Result) = .ok (.ret .none) ∧ R (.error (.ref (h'.objs.size + 1))) ⟨(h'.push (tupObj [] 0)).push (stopObj h'.objs.size), (g.setIfInBounds ni .running).setIfInBounds ni .finished, d, tk', os⟩ := by
    intro e h' tk' R'
    refine ⟨rfl, ?_⟩
    rw [set_set]
    have r2 := (R'.alloc (o := tupObj [] 0) rfl).alloc (o := stopObj h'.objs.size) rfl
    have e9 : (h'.push (tupObj [] 0)).objs.size = h'.objs.size + 1 := Heap.size_push ..
    rw [e9] at r2
    exact finE e _ _ _ _ r2
  rcases hS with ⟨fi, t0, rfl, rfl, hr⟩ | ⟨q1, q2, rfl, fi, it, p, x, p', i, t, kk, lb, uc, pk, px, s, kt, u, v3, v4, v5, rfl, rfl, rfl, hr⟩
  · refine gen_next hlim (by omega) hA hg hgs (c₀ := gCode w 173 fi) (t₀ := zdenote (gCode w 173 fi)) (.inl ⟨rfl, by rw [zdenote_eq], rfl⟩) ?_
    have K1 : Kn (par w b c [(tk, listObj items n)]) h₁ := kn_of hk (by intro q hq; rw [List.mem_singleton] at hq; subst hq; exact htk)
    have hm : MdOk (L + 1) A.in1 (.seg (gCode w 173 fi) [] (zdenote (gCode w 173 fi)) : Md Result) := seg_fit hA (gCode_ok w fi) rfl
    have z := by_runs (g := g.setIfInBounds ni .running) (d := d) (os := os) (Q := fun _ _ => False) (E := fun _ _ => False) (Pe := fun e s₁ => match e with
        | .susp v _ _ _ _ _ _ => R (.ok (.ret v)) (s₁.setGen ni e.genState)
        | .ret r => r = .ok (.ret .none) ∧ R (.error (.ref (s₁.heap.objs.size + 1))) { s₁.setGen ni .finished with heap := (s₁.heap.push (tupObj [] 0)).push (stopObj s₁.heap.objs.size) })
      (tk := tkn) W K1 (by omega) hA1 (fun ad => iFunc_run w b c ad fi tk t0 items n T) hm rfl RR ot_nil fun ad h1 tk1 R1 => seg_enter (m1 fi (ad 5)).1 fun p => inner_seg (Q := fun _ _ => False) (E := fun _ _ => False) (pv := none) (prev := none) W hk hL hA htk hT1 htd hok ?_ ?_ _ rfl R1 rfl hr.symm
    · exact z
    · intro cx rest' e h' tk' x u pv q1 q2 p' R' hpv hsu
      show R _ ⟨h', (g.setIfInBounds ni .running).setIfInBounds ni _, d, tk', os⟩
      rw [set_set, iGs_eq]
      exact finY cx rest' e h' tk' x u pv q1 q2 _ R' hpv hsu
    · intro e h' tk' R'
      exact fE e h' tk' R'
  · have yc := iYield_code w fi it p x
    simp only [Prod.mk.injEq] at yc
    refine gen_next hlim (by omega) hA hg hgs (c₀ := mdCode (iYield w fi it p x)) (t₀ := ykOf (iYield w fi it p x) (.send .none)) (fs₀ := mdFs (iYield w fi it p x)) (.inr ⟨_, _, _, _, rfl, rfl⟩) ?_
    have hm : MdOk (L + 1) A.in1 (iWoken w fi it p x) := by
      show SegOk (L + 1) A.in1 (mdCode (iYield w fi it p x)) (mdFs (iYield w fi it p x))
      rw [yc.1, yc.2]
      exact seg_fit hA (m1 fi it).2.1 (iFs_ok w fi it p)
    have z := by_runs (g := g.setIfInBounds ni .running) (d := d) (os := os) (Q := fun _ _ => False) (E := fun _ _ => False) (Pe := fun e s₁ => match e with
        | .susp v _ _ _ _ _ _ => R (.ok (.ret v)) (s₁.setGen ni e.genState)
        | .ret r => r = .ok (.ret .none) ∧ R (.error (.ref (s₁.heap.objs.size + 1))) { s₁.setGen ni .finished with heap := (s₁.heap.push (tupObj [] 0)).push (stopObj s₁.heap.objs.size) })
      (tk := tkn) W (kn_none (b := b) (c := c) hk) (by omega) hA1 (fun ad => iRes_run w b c ad fi it x p tk _ kt s u v3 v4 v5 (it, itObj tk i) t kk lb uc (partS openS s) pk px T) hm rfl RR (ot_cons (oInS_ok rfl) ot_nil) fun ad h1 tk1 R1 => seg_again rfl (m1 fi it).2.2 (inner_seg (Q := fun _ _ => False) (E := fun _ _ => False) (pv := some ((kindA s).1, kt, s, u)) (prev := some s) W hk hL hA htk hT1 htd hok ?_ ?_ _ rfl R1 rfl hr.symm)
    · exact z
    · intro cx rest' e h' tk' x u pv q1 q2 p' R' hpv hsu
      show R _ ⟨h', (g.setIfInBounds ni .running).setIfInBounds ni _, d, tk', os⟩
      rw [set_set, iGs_eq]
      exact finY cx rest' e h' tk' x u pv q1 q2 _ R' hpv hsu
    · intro e h' tk' R'
      exact fE e h' tk' R'
end
end Mine
end

section
open PySem PySem.W PySem.W.X PySem.Calls PyProof.Rows
set_option maxHeartbeats 0
namespace Mine
abbrev OM := Strm × (Nat → Value)
noncomputable def omE (w : World) (x : OM) : List DictEntry := [ent w "context" (x.1 0) (x.2 0), ent w "token_type" (x.1 1) (x.2 1), ent w "text" (x.1 2) (x.2 2), ent w "previous_token_type" (x.1 3) (x.2 3), ent w "previous_text" (x.1 4) (x.2 4), ent w "line_break" (x.1 5) (x.2 5), ent w "unary_context" (x.1 6) (x.2 6), ent w "start" (x.1 7) (x.2 7)]
noncomputable def bfF (w : World) (tk : Addr) (t : Strm) (o : Option OM) : Obj := match o with
  | none => frm [ent w "logical_line" (t 0) (.str ⟨#[]⟩ (t 1)), ent w "tokens" (t 2) (.ref tk)] 2
  | some x => frm ([ent w "logical_line" (t 0) (.str ⟨#[]⟩ (t 1)), ent w "tokens" (t 2) (.ref tk)] ++ omE w x) 10
noncomputable def psV : Option Addr → Value
  | none => .none
  | some a => .ref a
noncomputable def afF (w : World) (tk : Addr) (t : Strm) (ps : Option Addr) (o : Option OM) : Obj := match o with
  | none => frm [ent w "logical_line" (t 0) (.str ⟨#[]⟩ (t 1)), ent w "tokens" (t 2) (.ref tk), ent w "prev_start" (t 3) (psV ps)] 3
  | some x => frm ([ent w "logical_line" (t 0) (.str ⟨#[]⟩ (t 1)), ent w "tokens" (t 2) (.ref tk), ent w "prev_start" (t 3) (psV ps)] ++ omE w x) 11
noncomputable def kO (o : Option OM) (ad : Strm) : Strm := match o with
  | none => fun n => match n with
    | 0 => ad 0
    | n + 1 => ad (n + 4)
  | some x => x.1
noncomputable def vO (x : Addr) (k : Int) (kt : Tok) (s : Str) (u : Tok) (pv : PV) (lb uc : Bool) (sa : Addr) : Nat → Value := fun n => match n with
  | 0 => .ref x
  | n + 1 => match n with
    | 0 => .int k kt
    | n + 1 => match n with
      | 0 => .str s u
      | n + 1 => match n with
        | 0 => pkV pv
        | n + 1 => match n with
          | 0 => pxV pv
          | n + 1 => match n with
            | 0 => .bool lb
            | n + 1 => match n with
              | 0 => .bool uc
              | _ => .ref sa
noncomputable def s4 (t0 t1 t2 t3 : Tok) : Strm := fun n => match n with
  | 0 => t0
  | n + 1 => match n with
    | 0 => t1
    | n + 1 => match n with
      | 0 => t2
      | _ => t3
theorem oBind_run (w : World) (tk : Addr) (u : Tok) : (zbind (gFd w 180) ⟨[.str ⟨#[]⟩ u, .ref tk], []⟩, zbind (gFd w 187) ⟨[.str ⟨#[]⟩ u, .ref tk], []⟩) = (.pure [(S "logical_line", .str ⟨#[]⟩ u), (S "tokens", .ref tk)], .pure [(S "logical_line", .str ⟨#[]⟩ u), (S "tokens", .ref tk)]) := by kernel_rfl
theorem bfLook (w : World) : fnLook w 180 179 = fnLook' w 180 179 := by kernel_rfl
theorem bfGen (w : World) : (gFd w 180).scope.isGenerator = true := by kernel_rfl
theorem bfEnv_run (w : World) (b c : Bool) (ad : Strm) (tk : Addr) (u : Tok) (T : Store) :
    let r := zrun (par w b c []) 9 (.out (newEnv w 180 [(S "logical_line", .str ⟨#[]⟩ u), (S "tokens", .ref tk)])) ad [1, 0, 1, 0] T [] [] []
    (r.1, r.2.obs.map Prod.fst, pickD [] 0 r.2.st) = (.out (.pure (gEnv w 180 (ad 0))), r.2.obs.map Prod.snd, (ad 0, bfF w tk (s4 (ad 1) u (ad 2) 0) none) :: T) := by kernel_rfl
noncomputable def bfFunc (w : World) (b c : Bool) (ad : Strm) (fo tk : Addr) (t0 u t1 t3 : Tok) (T : Store) : Md Result × St :=
  zrun (par w b c []) 10 (.seg (gCode w 180 fo) [] (zdenote (gCode w 180 fo))) ad [0, 1, 0] ((fo, bfF w tk (s4 t0 u t1 t3) none) :: T) [] [] []
noncomputable def bfFuncMd (w : World) (fo tk : Addr) : Md Result := (bfFunc w true true (fun _ => 0) fo tk 0 0 0 0 []).1
theorem bfFunc_run (w : World) (b c : Bool) (ad : Strm) (fo tk : Addr) (t0 u t1 t3 : Tok) (T : Store) :
    let r := bfFunc w b c ad fo tk t0 u t1 t3 T
    (r.1, r.2.obs.map Prod.fst, pickD [] 0 r.2.st) = (bfFuncMd w fo tk, r.2.obs.map Prod.snd, (fo, bfF w tk (s4 t0 u t1 t3) none) :: T) := by
  cases b <;> kernel_rfl
theorem bfFunc_ok (w : World) (fo tk : Addr) : (isCall (bfFuncMd w fo tk), codeOf (bfFuncMd w fo tk), mdCode (bfFuncMd w fo tk), mdFs (bfFuncMd w fo tk)) = (true, .call (.ref 173) ⟨[.ref tk], []⟩, gCode w 180 fo, []) := by kernel_rfl
noncomputable def bfIter (w : World) (b c : Bool) (ad : Strm) (fo tk ga : Addr) (ni : Nat) (x y : Value) (T : Store) : Md Result × St :=
  zrun (par w b c []) 10 (contOf (.ok (.ret (.ref ga))) (bfFuncMd w fo tk)) ad [1, 1, 1, 1] ((ga, genO ni x y) :: T) [] [] []
noncomputable def bfIterMd (w : World) (fo ga : Addr) : Md Result := (bfIter w true true (fun _ => 0) fo 0 ga 0 .none .none []).1
theorem bfIter_run (w : World) (b c : Bool) (ad : Strm) (fo tk ga : Addr) (ni : Nat) (x y : Value) (T : Store) :
    let r := bfIter w b c ad fo tk ga ni x y T
    (r.1, r.2.obs.map Prod.fst, pickD [] 0 r.2.st) = (bfIterMd w fo ga, r.2.obs.map Prod.snd, (ga, genO ni x y) :: T) := by
  cases b <;> kernel_rfl
noncomputable def bfLoop (w : World) (fo ga : Addr) : Code := codeOf (bfIterMd w fo ga)
noncomputable def bfFs (w : World) (fo ga : Addr) (p : Pos) : List Frame := frOf (bfIterMd w fo ga) p
noncomputable def bfHead (w : World) (fo ga : Addr) (p : Pos) : Md Result := .seg (bfLoop w fo ga) (bfFs w fo ga p) (zdenote (bfLoop w fo ga))
noncomputable def bfAgain (w : World) (fo ga : Addr) (p : Pos) : Md Result := .seg (bfLoop w fo ga) (bfFs w fo ga p) (.pure (.again (bfLoop w fo ga)))
noncomputable def bfNx (w : World) (b c : Bool) (ad : Strm) (fo ga : Addr) (p : Pos) (ni : Nat) (x y : Value) (T : Store) : Md Result × St :=
  zrun (par w b c []) 2 (bfHead w fo ga p) ad [1] ((ga, genO ni x y) :: T) [] [] []
noncomputable def bfNxMd (w : World) (fo ga : Addr) (p : Pos) : Md Result := (bfNx w true true (fun _ => 0) fo ga p 0 .none .none []).1
theorem bfNx_run (w : World) (b c : Bool) (ad : Strm) (fo ga : Addr) (p : Pos) (ni : Nat) (x y : Value) (T : Store) :
    let r := bfNx w b c ad fo ga p ni x y T
    (r.1, r.2.obs.map Prod.fst, pickD [] 0 r.2.st) = (bfNxMd w fo ga p, r.2.obs.map Prod.snd, (ga, genO ni x y) :: T) := by kernel_rfl
theorem bfNx_ok (w : World) (fo ga : Addr) (p : Pos) : (isCall (bfNxMd w fo ga p), codeOf (bfNxMd w fo ga p), mdCode (bfNxMd w fo ga p), mdFs (bfNxMd w fo ga p)) = (true, .call (.builtin "generator.__next__") ⟨[.ref ga], []⟩, bfLoop w fo ga, bfFs w fo ga p) := by kernel_rfl
noncomputable def bfEnd (w : World) (b c : Bool) (ad : Strm) (fo ga : Addr) (p : Pos) (e t : Addr) (T : Store) : Md Result × St :=
  zrun (par w b c []) 1 (contOf (.error (.ref e)) (bfNxMd w fo ga p)) ad [1] ((e, stopObj t) :: (t, tupObj [] 0) :: T) [] [] []
noncomputable def bfEndMd (w : World) (fo ga : Addr) (p : Pos) : Md Result := (bfEnd w true true (fun _ => 0) fo ga p 0 0 []).1
theorem bfEnd_run (w : World) (b c : Bool) (ad : Strm) (fo ga : Addr) (p : Pos) (e t : Addr) (T : Store) :
    let r := bfEnd w b c ad fo ga p e t T
    (r.1, r.2.obs.map Prod.fst, pickD [] 2 r.2.st) = (bfEndMd w fo ga p, r.2.obs.map Prod.snd, T) := Prod.ext (by kernel_rfl) (Prod.ext (by kernel_rfl) (by kernel_rfl))
noncomputable def bfBlock (w : World) (fo ga : Addr) (p : Pos) : Code := againOf (bfEndMd w fo ga p)
theorem bfEndMd_eq (w : World) (fo ga : Addr) (p : Pos) : bfEndMd w fo ga p = .seg (bfLoop w fo ga) (bfFs w fo ga p) (.pure (.again (bfBlock w fo ga p))) := by kernel_rfl
theorem bfBlock_ok (w : World) (fo ga : Addr) (p : Pos) : (notCaller (bfBlock w fo ga p) && (bfBlock w fo ga p).quiet) = true := by kernel_rfl
theorem bfLast_run (w : World) (b c : Bool) (ad : Strm) (fo ga : Addr) (p : Pos) (T : Store) :
    let r := zrun (par w b c []) 9 (.seg (bfBlock w fo ga p) (bfFs w fo ga p) (zdenote (bfBlock w fo ga p)) : Md Result) ad [] T [] [] []
    (r.1, r.2.obs.map Prod.fst, pickD [] 0 r.2.st) = (.seg (gCode w 180 fo) [] (.pure (.done (.ret .none))), r.2.obs.map Prod.snd, T) := by kernel_rfl
theorem bfMd_ok (w : World) (fo ga : Addr) : (isSegCall (bfIterMd w fo ga) && (notCaller (bfLoop w fo ga) && (bfLoop w fo ga).quiet)) = true := by kernel_rfl
theorem bfFs_ok (w : World) (fo ga : Addr) (p : Pos) : fsFit 3 (bfFs w fo ga p) = true := by kernel_rfl
noncomputable def bf_hs : List Nat := [9, 4, 9, 1, 1, 1, 1, 1, 1, 1, 1, 1, 3, 1, 0, 1, 1, 1, 1, 3, 1, 0, 1, 1, 1, 1, 3, 1, 0, 1, 1, 1, 1, 3, 1, 0, 1, 1, 1, 1, 3, 1, 0, 1, 1, 1, 1, 3, 1, 0, 1, 1, 1, 1, 3, 1, 0, 1, 1, 1, 1, 3, 1, 0, 1, 15, 7, 15, 7, 15, 7, 15, 7, 15, 7, 15, 7, 15, 7, 0, 15, 15, 0]
theorem bfA_run (w : World) (b c : Bool) (ad : Strm) (fo ga tk : Addr) (p : Pos) (x : Addr) (k : Int) (kt : Tok) (s : Str) (u : Tok) (pv : PV) (lb uc : Bool) (sa : Addr) (t : Strm) (o : Option OM) (q1 q2 q3 : Addr × Obj) (T : Store) :
    let r := zrun (par w b c []) 167 (contOf (.ok (.ret (.ref x))) (bfNxMd w fo ga p)) ad (bf_hs ++ []) ((x, ctxO k kt s u (pkV pv) (pxV pv) lb uc sa) :: q1 :: q2 :: q3 :: (fo, bfF w tk t o) :: T) [] [9]
      [oBin 166 (.int k kt) (.str s u) false]
    (r.1, r.2.obs.map Prod.fst, pickD [4, 5, 6, 7] 8 r.2.st) = (bfAgain w fo ga p, r.2.obs.map Prod.snd, q1 :: q2 :: q3 :: (fo, bfF w tk t (some (kO o ad, vO x k kt s u pv lb uc sa))) :: T) := by
  cases pv <;> cases o <;> cases b <;> kernel_rfl
theorem bfB_run (w : World) (b c : Bool) (ad : Strm) (fo ga tk : Addr) (p : Pos) (x : Addr) (k : Int) (kt : Tok) (s : Str) (u : Tok) (pv : PV) (uc : Bool) (sa : Addr) (t : Strm) (o : Option OM) (q1 q2 q3 : Addr × Obj) (T : Store) :
    let r := zrun (par w b c []) 170 (contOf (.ok (.ret (.ref x))) (bfNxMd w fo ga p)) ad (bf_hs ++ [15]) ((x, ctxO k kt s u (pkV pv) (pxV pv) false uc sa) :: q1 :: q2 :: q3 :: (fo, bfF w tk t o) :: T) [] [9]
      [oBin 166 (.int k kt) (.str s u) true]
    (r.1, r.2.obs.map Prod.fst, pickD [4, 5, 6, 7] 8 r.2.st) = (bfAgain w fo ga p, r.2.obs.map Prod.snd, q1 :: q2 :: q3 :: (fo, bfF w tk t (some (kO o ad, vO x k kt s u pv false uc sa))) :: T) := by
  cases pv <;> cases o <;> cases b <;> kernel_rfl
theorem bfC_run (w : World) (b c : Bool) (ad : Strm) (fo ga tk : Addr) (p : Pos) (x : Addr) (k : Int) (kt : Tok) (s : Str) (u : Tok) (pv : PV)  (sa : Addr) (t : Strm) (o : Option OM) (q1 q2 q3 : Addr × Obj) (T : Store) :
    let r := zrun (par w b c []) 173 (contOf (.ok (.ret (.ref x))) (bfNxMd w fo ga p)) ad (bf_hs ++ [15, 15]) ((x, ctxO k kt s u (pkV pv) (pxV pv) true true sa) :: q1 :: q2 :: q3 :: (fo, bfF w tk t o) :: T) [] [9]
      [oBin 166 (.int k kt) (.str s u) true]
    (r.1, r.2.obs.map Prod.fst, pickD [4, 5, 6, 7] 8 r.2.st) = (bfAgain w fo ga p, r.2.obs.map Prod.snd, q1 :: q2 :: q3 :: (fo, bfF w tk t (some (kO o ad, vO x k kt s u pv true true sa))) :: T) := by
  cases pv <;> cases o <;> cases b <;> kernel_rfl
theorem bfD_run (w : World) (b c : Bool) (ad : Strm) (fo ga tk : Addr) (p : Pos) (x : Addr) (k : Int) (kt : Tok) (s : Str) (u : Tok) (pv : PV)  (sa : Addr) (t : Strm) (o : Option OM) (q1 q2 q3 : Addr × Obj) (T : Store) :
    let r := zrun (par w b c []) 184 (contOf (.ok (.ret (.ref x))) (bfNxMd w fo ga p)) ad (bf_hs ++ [15, 15, 0, 15, 15, 0]) ((x, ctxO k kt s u (pkV pv) (pxV pv) true false sa) :: q1 :: q2 :: q3 :: (fo, bfF w tk t o) :: T) [] [9, 0]
      [oBin 166 (.int k kt) (.str s u) true, oBin 166 (pkV pv) (pxV pv) true]
    (r.1, r.2.obs.map Prod.fst, pickD [4, 5, 6, 7] 8 r.2.st) = (bfAgain w fo ga p, r.2.obs.map Prod.snd, q1 :: q2 :: q3 :: (fo, bfF w tk t (some (kO o ad, vO x k kt s u pv true false sa))) :: T) := by
  cases pv <;> cases o <;> cases b <;> kernel_rfl
noncomputable def bfE (w : World) (b c : Bool) (ad : Strm) (fo ga tk : Addr) (p : Pos) (x : Addr) (k : Int) (kt : Tok) (s : Str) (u : Tok) (pv : PV)  (sa : Addr) (t : Strm) (o : Option OM) (q1 q2 q3 : Addr × Obj) (T : Store) : Md Result × St :=
  zrun (par w b c []) 191 (contOf (.ok (.ret (.ref x))) (bfNxMd w fo ga p)) ad (bf_hs ++ [15, 15, 0, 15, 15, 0, 15]) ((x, ctxO k kt s u (pkV pv) (pxV pv) true false sa) :: q1 :: q2 :: q3 :: (fo, bfF w tk t o) :: T) [] [9, 0]
      [oBin 166 (.int k kt) (.str s u) true, oBin 166 (pkV pv) (pxV pv) false]
noncomputable def bfYield (w : World) (fo ga : Addr) (p : Pos) (y : Addr) : Md Result := (bfE w true true (fun _ => y) fo ga 0 p 0 0 0 ⟨#[]⟩ 0 none 0 (fun _ => 0) none (0, tupObj [] 0) (0, tupObj [] 0) (0, tupObj [] 0) []).1
theorem bfE_run (w : World) (b c : Bool) (ad : Strm) (fo ga tk : Addr) (p : Pos) (x : Addr) (k : Int) (kt : Tok) (s : Str) (u : Tok) (pv : PV)  (sa : Addr) (t : Strm) (o : Option OM) (q1 q2 q3 : Addr × Obj) (T : Store) :
    let r := bfE w b c ad fo ga tk p x k kt s u pv sa t o q1 q2 q3 T
    (r.1, r.2.obs.map Prod.fst, pickD [0, 5, 6, 7, 8] 9 r.2.st) = (bfYield w fo ga p (ad 16), r.2.obs.map Prod.snd, (ad 16, tupObj [.ref sa, .str msg3 (ad 15)] 0) :: q1 :: q2 :: q3 :: (fo, bfF w tk t (some (kO o ad, vO x k kt s u pv true false sa))) :: T) := by
  cases pv <;> cases o <;> cases b <;> kernel_rfl
theorem bfYield_ok (w : World) (fo ga : Addr) (p : Pos) (y : Addr) : (isSegYield (bfYield w fo ga p y), yvOf (bfYield w fo ga p y), mdCode (bfYield w fo ga p y), mdFs (bfYield w fo ga p y)) = (true, .ref y, bfLoop w fo ga, bfFs w fo ga p) := by kernel_rfl
noncomputable def bfWoken (w : World) (fo ga : Addr) (p : Pos) (y : Addr) : Md Result := .seg (mdCode (bfYield w fo ga p y)) (mdFs (bfYield w fo ga p y)) (ykOf (bfYield w fo ga p y) (.send .none))
theorem bfRes_run (w : World) (b c : Bool) (ad : Strm) (fo ga tk : Addr) (p : Pos) (y : Addr) (t : Strm) (kk : Strm) (x : Addr) (k : Int) (kt : Tok) (s : Str) (u : Tok) (pv : PV) (lb uc : Bool) (sa : Addr) (q1 q2 q3 : Addr × Obj) (T : Store) :
    let r := zrun (par w b c []) 0 (bfWoken w fo ga p y) ad [] (q1 :: q2 :: q3 :: (fo, bfF w tk t (some (kk, vO x k kt s u pv lb uc sa))) :: T) [] [] []
    (r.1, r.2.obs.map Prod.fst, pickD [] 0 r.2.st) = (bfAgain w fo ga p, r.2.obs.map Prod.snd, q1 :: q2 :: q3 :: (fo, bfF w tk t (some (kk, vO x k kt s u pv lb uc sa))) :: T) := by
  kernel_rfl
theorem bfGs_eq (w : World) (fo ga : Addr) (p : Pos) (y : Addr) (p' : Pos) : (End.susp (.ref y) false (ylOf (bfYield w fo ga p y)) (ykOf (bfYield w fo ga p y)) (mdCode (bfYield w fo ga p y)) p' (mdFs (bfYield w fo ga p y))).genState = .suspended (ykOf (bfYield w fo ga p y)) (ylOf (bfYield w fo ga p y)) (mdCode (bfYield w fo ga p y)) p' (mdFs (bfYield w fo ga p y)) false := by kernel_rfl
theorem afLook (w : World) : fnLook w 187 186 = fnLook' w 187 186 := by kernel_rfl
theorem afGen (w : World) : (gFd w 187).scope.isGenerator = true := by kernel_rfl
theorem afEnv_run (w : World) (b c : Bool) (ad : Strm) (tk : Addr) (u : Tok) (T : Store) :
    let r := zrun (par w b c []) 9 (.out (newEnv w 187 [(S "logical_line", .str ⟨#[]⟩ u), (S "tokens", .ref tk)])) ad [1, 0, 1, 0] T [] [] []
    (r.1, r.2.obs.map Prod.fst, pickD [] 0 r.2.st) = (.out (.pure (gEnv w 187 (ad 0))), r.2.obs.map Prod.snd, (ad 0, bfF w tk (s4 (ad 1) u (ad 2) 0) none) :: T) := by kernel_rfl
noncomputable def afFunc (w : World) (b c : Bool) (ad : Strm) (fo tk : Addr) (t0 u t1 t3 : Tok) (T : Store) : Md Result × St :=
  zrun (par w b c []) 18 (.seg (gCode w 187 fo) [] (zdenote (gCode w 187 fo))) ad [1, 0, 0, 1, 0] ((fo, bfF w tk (s4 t0 u t1 t3) none) :: T) [] [] []
noncomputable def afFuncMd (w : World) (fo tk : Addr) : Md Result := (afFunc w true true (fun _ => 0) fo tk 0 0 0 0 []).1
theorem afFunc_run (w : World) (b c : Bool) (ad : Strm) (fo tk : Addr) (t0 u t1 t3 : Tok) (T : Store) :
    let r := afFunc w b c ad fo tk t0 u t1 t3 T
    (r.1, r.2.obs.map Prod.fst, pickD [] 0 r.2.st) = (afFuncMd w fo tk, r.2.obs.map Prod.snd, (fo, afF w tk (s4 t0 u t1 (ad 1)) none none) :: T) := by
  cases b <;> kernel_rfl
theorem afFunc_ok (w : World) (fo tk : Addr) : (isCall (afFuncMd w fo tk), codeOf (afFuncMd w fo tk), mdCode (afFuncMd w fo tk), mdFs (afFuncMd w fo tk)) = (true, .call (.ref 173) ⟨[.ref tk], []⟩, gCode w 187 fo, []) := by kernel_rfl
noncomputable def afIter (w : World) (b c : Bool) (ad : Strm) (fo tk ga : Addr) (ni : Nat) (x y : Value) (T : Store) : Md Result × St :=
  zrun (par w b c []) 10 (contOf (.ok (.ret (.ref ga))) (afFuncMd w fo tk)) ad [1, 1, 1, 1] ((ga, genO ni x y) :: T) [] [] []
noncomputable def afIterMd (w : World) (fo ga : Addr) : Md Result := (afIter w true true (fun _ => 0) fo 0 ga 0 .none .none []).1
theorem afIter_run (w : World) (b c : Bool) (ad : Strm) (fo tk ga : Addr) (ni : Nat) (x y : Value) (T : Store) :
    let r := afIter w b c ad fo tk ga ni x y T
    (r.1, r.2.obs.map Prod.fst, pickD [] 0 r.2.st) = (afIterMd w fo ga, r.2.obs.map Prod.snd, (ga, genO ni x y) :: T) := by
  cases b <;> kernel_rfl
noncomputable def afLoop (w : World) (fo ga : Addr) : Code := codeOf (afIterMd w fo ga)
noncomputable def afFs (w : World) (fo ga : Addr) (p : Pos) : List Frame := frOf (afIterMd w fo ga) p
noncomputable def afHead (w : World) (fo ga : Addr) (p : Pos) : Md Result := .seg (afLoop w fo ga) (afFs w fo ga p) (zdenote (afLoop w fo ga))
noncomputable def afAgain (w : World) (fo ga : Addr) (p : Pos) : Md Result := .seg (afLoop w fo ga) (afFs w fo ga p) (.pure (.again (afLoop w fo ga)))
noncomputable def afNx (w : World) (b c : Bool) (ad : Strm) (fo ga : Addr) (p : Pos) (ni : Nat) (x y : Value) (T : Store) : Md Result × St :=
  zrun (par w b c []) 2 (afHead w fo ga p) ad [1] ((ga, genO ni x y) :: T) [] [] []
noncomputable def afNxMd (w : World) (fo ga : Addr) (p : Pos) : Md Result := (afNx w true true (fun _ => 0) fo ga p 0 .none .none []).1
theorem afNx_run (w : World) (b c : Bool) (ad : Strm) (fo ga : Addr) (p : Pos) (ni : Nat) (x y : Value) (T : Store) :
    let r := afNx w b c ad fo ga p ni x y T
    (r.1, r.2.obs.map Prod.fst, pickD [] 0 r.2.st) = (afNxMd w fo ga p, r.2.obs.map Prod.snd, (ga, genO ni x y) :: T) := by kernel_rfl
theorem afNx_ok (w : World) (fo ga : Addr) (p : Pos) : (isCall (afNxMd w fo ga p), codeOf (afNxMd w fo ga p), mdCode (afNxMd w fo ga p), mdFs (afNxMd w fo ga p)) = (true, .call (.builtin "generator.__next__") ⟨[.ref ga], []⟩, afLoop w fo ga, afFs w fo ga p) := by kernel_rfl
noncomputable def afEnd (w : World) (b c : Bool) (ad : Strm) (fo ga : Addr) (p : Pos) (e t : Addr) (T : Store) : Md Result × St :=
  zrun (par w b c []) 1 (contOf (.error (.ref e)) (afNxMd w fo ga p)) ad [1] ((e, stopObj t) :: (t, tupObj [] 0) :: T) [] [] []
noncomputable def afEndMd (w : World) (fo ga : Addr) (p : Pos) : Md Result := (afEnd w true true (fun _ => 0) fo ga p 0 0 []).1
theorem afEnd_run (w : World) (b c : Bool) (ad : Strm) (fo ga : Addr) (p : Pos) (e t : Addr) (T : Store) :
    let r := afEnd w b c ad fo ga p e t T
    (r.1, r.2.obs.map Prod.fst, pickD [] 2 r.2.st) = (afEndMd w fo ga p, r.2.obs.map Prod.snd, T) := Prod.ext (by kernel_rfl) (Prod.ext (by kernel_rfl) (by kernel_rfl))
noncomputable def afBlock (w : World) (fo ga : Addr) (p : Pos) : Code := againOf (afEndMd w fo ga p)
theorem afEndMd_eq (w : World) (fo ga : Addr) (p : Pos) : afEndMd w fo ga p = .seg (afLoop w fo ga) (afFs w fo ga p) (.pure (.again (afBlock w fo ga p))) := by kernel_rfl
theorem afBlock_ok (w : World) (fo ga : Addr) (p : Pos) : (notCaller (afBlock w fo ga p) && (afBlock w fo ga p).quiet) = true := by kernel_rfl
theorem afLast_run (w : World) (b c : Bool) (ad : Strm) (fo ga : Addr) (p : Pos) (T : Store) :
    let r := zrun (par w b c []) 9 (.seg (afBlock w fo ga p) (afFs w fo ga p) (zdenote (afBlock w fo ga p)) : Md Result) ad [] T [] [] []
    (r.1, r.2.obs.map Prod.fst, pickD [] 0 r.2.st) = (.seg (gCode w 187 fo) [] (.pure (.done (.ret .none))), r.2.obs.map Prod.snd, T) := by kernel_rfl
theorem afMd_ok (w : World) (fo ga : Addr) : (isSegCall (afIterMd w fo ga) && (notCaller (afLoop w fo ga) && (afLoop w fo ga).quiet)) = true := by kernel_rfl
theorem afFs_ok (w : World) (fo ga : Addr) (p : Pos) : fsFit 3 (afFs w fo ga p) = true := by kernel_rfl
noncomputable def af_hs : List Nat := [9, 4, 9, 1, 1, 1, 1, 1, 1, 1, 1, 1, 3, 1, 0, 1, 1, 1, 1, 3, 1, 0, 1, 1, 1, 1, 3, 1, 0, 1, 1, 1, 1, 3, 1, 0, 1, 1, 1, 1, 3, 1, 0, 1, 1, 1, 1, 3, 1, 0, 1, 1, 1, 1, 3, 1, 0, 1, 1, 1, 1, 3, 1, 0, 1, 15, 7, 15, 7, 15, 7, 15, 7, 15, 7, 15, 7, 15, 7, 0, 15, 15, 0]
theorem afA_run (w : World) (b c : Bool) (ad : Strm) (fo ga tk : Addr) (p : Pos) (x : Addr) (k : Int) (kt : Tok) (s : Str) (u : Tok) (pv : PV) (lb uc : Bool) (sa : Addr) (t : Strm) (ps : Option Addr) (o : Option OM) (q1 q2 q3 : Addr × Obj) (T : Store) :
    let r := zrun (par w b c []) 177 (contOf (.ok (.ret (.ref x))) (afNxMd w fo ga p)) ad (af_hs ++ [15, 15, 7]) ((x, ctxO k kt s u (pkV pv) (pxV pv) lb uc sa) :: q1 :: q2 :: q3 :: (fo, afF w tk t ps o) :: T) [] [9]
      [oBin 166 (pkV pv) (pxV pv) false]
    (r.1, r.2.obs.map Prod.fst, pickD [4, 5, 6, 7] 8 r.2.st) = (afAgain w fo ga p, r.2.obs.map Prod.snd, q1 :: q2 :: q3 :: (fo, afF w tk t (some sa) (some (kO o ad, vO x k kt s u pv lb uc sa))) :: T) := by
  cases pv <;> cases o <;> cases b <;> kernel_rfl
theorem afB_run (w : World) (b c : Bool) (ad : Strm) (fo ga tk : Addr) (p : Pos) (x : Addr) (k : Int) (kt : Tok) (s : Str) (u : Tok) (pv : PV) (uc : Bool) (sa : Addr) (t : Strm) (ps : Option Addr) (o : Option OM) (q1 q2 q3 : Addr × Obj) (T : Store) :
    let r := zrun (par w b c []) 180 (contOf (.ok (.ret (.ref x))) (afNxMd w fo ga p)) ad (af_hs ++ [15, 15, 15, 7]) ((x, ctxO k kt s u (pkV pv) (pxV pv) false uc sa) :: q1 :: q2 :: q3 :: (fo, afF w tk t ps o) :: T) [] [9]
      [oBin 166 (pkV pv) (pxV pv) true]
    (r.1, r.2.obs.map Prod.fst, pickD [4, 5, 6, 7] 8 r.2.st) = (afAgain w fo ga p, r.2.obs.map Prod.snd, q1 :: q2 :: q3 :: (fo, afF w tk t (some sa) (some (kO o ad, vO x k kt s u pv false uc sa))) :: T) := by
  cases pv <;> cases o <;> cases b <;> kernel_rfl
theorem afC_run (w : World) (b c : Bool) (ad : Strm) (fo ga tk : Addr) (p : Pos) (x : Addr) (k : Int) (kt : Tok) (s : Str) (u : Tok) (pv : PV)  (sa : Addr) (t : Strm) (ps : Option Addr) (o : Option OM) (q1 q2 q3 : Addr × Obj) (T : Store) :
    let r := zrun (par w b c []) 183 (contOf (.ok (.ret (.ref x))) (afNxMd w fo ga p)) ad (af_hs ++ [15, 15, 15, 15, 7]) ((x, ctxO k kt s u (pkV pv) (pxV pv) true true sa) :: q1 :: q2 :: q3 :: (fo, afF w tk t ps o) :: T) [] [9]
      [oBin 166 (pkV pv) (pxV pv) true]
    (r.1, r.2.obs.map Prod.fst, pickD [4, 5, 6, 7] 8 r.2.st) = (afAgain w fo ga p, r.2.obs.map Prod.snd, q1 :: q2 :: q3 :: (fo, afF w tk t (some sa) (some (kO o ad, vO x k kt s u pv true true sa))) :: T) := by
  cases pv <;> cases o <;> cases b <;> kernel_rfl
theorem afD_run (w : World) (b c : Bool) (ad : Strm) (fo ga tk : Addr) (p : Pos) (x : Addr) (k : Int) (kt : Tok) (s : Str) (u : Tok) (pv : PV)  (sa : Addr) (t : Strm) (ps : Option Addr) (o : Option OM) (q1 q2 q3 : Addr × Obj) (T : Store) :
    let r := zrun (par w b c []) 194 (contOf (.ok (.ret (.ref x))) (afNxMd w fo ga p)) ad (af_hs ++ [15, 15, 0, 15, 15, 0, 15, 15, 7]) ((x, ctxO k kt s u (pkV pv) (pxV pv) true false sa) :: q1 :: q2 :: q3 :: (fo, afF w tk t ps o) :: T) [] [9, 0]
      [oBin 166 (pkV pv) (pxV pv) true, oBin 166 (.int k kt) (.str s u) true]
    (r.1, r.2.obs.map Prod.fst, pickD [4, 5, 6, 7] 8 r.2.st) = (afAgain w fo ga p, r.2.obs.map Prod.snd, q1 :: q2 :: q3 :: (fo, afF w tk t (some sa) (some (kO o ad, vO x k kt s u pv true false sa))) :: T) := by
  cases pv <;> cases o <;> cases b <;> kernel_rfl
noncomputable def afE (w : World) (b c : Bool) (ad : Strm) (fo ga tk : Addr) (p : Pos) (x : Addr) (k : Int) (kt : Tok) (s : Str) (u : Tok) (pv : PV)  (sa : Addr) (t : Strm) (ps : Option Addr) (o : Option OM) (q1 q2 q3 : Addr × Obj) (T : Store) : Md Result × St :=
  zrun (par w b c []) 191 (contOf (.ok (.ret (.ref x))) (afNxMd w fo ga p)) ad (af_hs ++ [15, 15, 0, 15, 15, 0, 15]) ((x, ctxO k kt s u (pkV pv) (pxV pv) true false sa) :: q1 :: q2 :: q3 :: (fo, afF w tk t ps o) :: T) [] [9, 0]
      [oBin 166 (pkV pv) (pxV pv) true, oBin 166 (.int k kt) (.str s u) false]
noncomputable def afYield (w : World) (fo ga : Addr) (p : Pos) (y : Addr) : Md Result := (afE w true true (fun _ => y) fo ga 0 p 0 0 0 ⟨#[]⟩ 0 none 0 (fun _ => 0) none none (0, tupObj [] 0) (0, tupObj [] 0) (0, tupObj [] 0) []).1
theorem afE_run (w : World) (b c : Bool) (ad : Strm) (fo ga tk : Addr) (p : Pos) (x : Addr) (k : Int) (kt : Tok) (s : Str) (u : Tok) (pv : PV)  (sa : Addr) (t : Strm) (ps : Option Addr) (o : Option OM) (q1 q2 q3 : Addr × Obj) (T : Store) :
    let r := afE w b c ad fo ga tk p x k kt s u pv sa t ps o q1 q2 q3 T
    (r.1, r.2.obs.map Prod.fst, pickD [0, 5, 6, 7, 8] 9 r.2.st) = (afYield w fo ga p (ad 16), r.2.obs.map Prod.snd, (ad 16, tupObj [psV ps, .str msg4 (ad 15)] 0) :: q1 :: q2 :: q3 :: (fo, afF w tk t ps (some (kO o ad, vO x k kt s u pv true false sa))) :: T) := by
  cases ps <;> cases pv <;> cases o <;> cases b <;> kernel_rfl
theorem afYield_ok (w : World) (fo ga : Addr) (p : Pos) (y : Addr) : (isSegYield (afYield w fo ga p y), yvOf (afYield w fo ga p y), mdCode (afYield w fo ga p y), mdFs (afYield w fo ga p y)) = (true, .ref y, afLoop w fo ga, afFs w fo ga p) := by kernel_rfl
noncomputable def afWoken (w : World) (fo ga : Addr) (p : Pos) (y : Addr) : Md Result := .seg (mdCode (afYield w fo ga p y)) (mdFs (afYield w fo ga p y)) (ykOf (afYield w fo ga p y) (.send .none))
theorem afRes_run (w : World) (b c : Bool) (ad : Strm) (fo ga tk : Addr) (p : Pos) (y : Addr) (t : Strm) (ps : Option Addr) (kk : Strm) (x : Addr) (k : Int) (kt : Tok) (s : Str) (u : Tok) (pv : PV) (lb uc : Bool) (sa : Addr) (q1 q2 q3 : Addr × Obj) (T : Store) :
    let r := zrun (par w b c []) 10 (afWoken w fo ga p y) ad [7, 7, 3] (q1 :: q2 :: q3 :: (fo, afF w tk t ps (some (kk, vO x k kt s u pv lb uc sa))) :: T) [] [] []
    (r.1, r.2.obs.map Prod.fst, pickD [] 0 r.2.st) = (afAgain w fo ga p, r.2.obs.map Prod.snd, q1 :: q2 :: q3 :: (fo, afF w tk t (some sa) (some (kk, vO x k kt s u pv lb uc sa))) :: T) := by
  cases b <;> kernel_rfl
theorem afGs_eq (w : World) (fo ga : Addr) (p : Pos) (y : Addr) (p' : Pos) : (End.susp (.ref y) false (ylOf (afYield w fo ga p y)) (ykOf (afYield w fo ga p y)) (mdCode (afYield w fo ga p y)) p' (mdFs (afYield w fo ga p y))).genState = .suspended (ykOf (afYield w fo ga p y)) (ylOf (afYield w fo ga p y)) (mdCode (afYield w fo ga p y)) p' (mdFs (afYield w fo ga p y)) false := by kernel_rfl
end Mine
end

section
open PySem PySem.W PySem.W.X PySem.Calls PyProof.Rows
set_option maxHeartbeats 0
namespace Mine
noncomputable def isBs : Option Str → Bool
  | none => false
  | some s => ((kindA s).1 == 54 || aoS (some s)) && !anyStr symL s
theorem isB_of {pv : PV} {prev : Option Str} (h : PvOk pv prev) : isB pv = isBs prev := by
  unfold PvOk at h
  cases pv with
  | none => cases prev with
    | none => rfl
    | some s => simp at h
  | some q => cases prev with
    | none => simp at h
    | some s =>
      simp only [Option.map_some, Option.some.injEq, Prod.mk.injEq] at h
      show ((q.1 == 54 || aoS (some q.2.2.1)) && !anyStr symL q.2.2.1) = _
      rw [h.1, h.2]
      rfl
noncomputable def selB (cx : Cx) : Bool := isBs (some cx.t.s) && (cx.lb && (!cx.uc && !isBs cx.prev))
noncomputable def selA (cx : Cx) : Bool := isBs cx.prev && (cx.lb && (!cx.uc && !isBs (some cx.t.s)))
noncomputable def outB : List Cx → List Value
  | [] => []
  | cx :: l => bif selB cx then .ref cx.t.sa :: outB l else outB l
noncomputable def outA : Option Addr → List Cx → List Value
  | _, [] => []
  | ps, cx :: l => bif selA cx then psV ps :: outA (some cx.t.sa) l else outA (some cx.t.sa) l
theorem md_seg_ok {α : Type} {L : Nat} {A : Around} {md : Md α} {c : Code} {fs : List Frame} {t : Sem Fin} (e : md = .seg c fs t) (h : SegOk L A c fs) : MdOk L A md := by subst e; exact h
noncomputable def curV (s : Str) (u : Tok) : PV := some ((kindA s).1, (kindA s).2, s, u)
theorem isB_cur (s : Str) (u : Tok) : isB (curV s u) = isBs (some s) := rfl

noncomputable def bfGs (w : World) (fo ga : Addr) (p : Pos) (y : Addr) (p' : Pos) : GenState := .suspended (ykOf (bfYield w fo ga p y)) (ylOf (bfYield w fo ga p y)) (mdCode (bfYield w fo ga p y)) p' (mdFs (bfYield w fo ga p y)) false
noncomputable def bfSusp (w : World) (tk : Addr) (td : List Tk) (ni : Nat) (vs : List Value) (go gi : GenState) (q1 q2 q3 q4 : Addr × Obj) : Prop :=
  ∃ fo ga p y p' t kk x k kt s u pv lb uc sa rest gn gq, go = bfGs w fo ga p y p' ∧ q3 = (ga, genO ni gn gq) ∧ q4 = (fo, bfF w tk t (some (kk, vO x k kt s u pv lb uc sa))) ∧ ISusp w tk td rest gi q1 q2 ∧ vs = outB rest
theorem bfNxMd_eq (w : World) (fo ga : Addr) (p : Pos) : bfNxMd w fo ga p = .seg (bfLoop w fo ga) (bfFs w fo ga p) (mdTree (bfNxMd w fo ga p)) := by kernel_rfl
section
variable {w : World} {A : Around} {L : Nat} {h₁ : Heap} {g : Array GenState} {d : Drawn} {os : OsState} {b c : Bool}
theorem bf_seg (W : Wd w b c) (hk : KT.Holds h₁ 1 0 (ktop w.params)) (hL : L ≤ 7) (hA : Lev L A) {Q : Result → Shared → Prop} {E : Value → Shared → Prop} {Pe : End → Shared → Prop} {fo ga tk : Addr} {p : Pos} {items : List Value} {n : Nat} {td : List Tk} {T1 : Store}
    (htk : h₁.get? tk = some (listObj items n)) (hT1 : ∀ p ∈ T1, h₁.get? p.1 = some p.2) (htd : All2 (TkIn T1) items td) (hok : ∀ t ∈ td, TokOk t) {ni : Nat} (hni : ni < g.size) {gn gq : Value} {T : Store} :
    ∀ (rest : List Cx) {S : Store} {gs : GenState} {h : Heap} {tkn : Nat} {t : Strm} {o : Option OM}, Rep h₁ h ((ga, genO ni gn gq) :: (S ++ (fo, bfF w tk t o) :: T)) → ISt w tk td rest gs S →
    (∀ v vs', outB rest = v :: vs' → ∀ h' tk' y mt q1 q2 q3 q4 gi p', Rep h₁ h' ((y, tupObj [v, .str msg3 mt] 0) :: q1 :: q2 :: q3 :: q4 :: T) → bfSusp w tk td ni vs' (bfGs w fo ga p y p') gi q1 q2 q3 q4 →
      Pe (.susp (.ref y) false (ylOf (bfYield w fo ga p y)) (ykOf (bfYield w fo ga p y)) (mdCode (bfYield w fo ga p y)) p' (mdFs (bfYield w fo ga p y))) ⟨h', g.setIfInBounds ni gi, d, tk', os⟩) →
    (outB rest = [] → ∀ h' tk', Rep h₁ h' T → Pe (.ret (.ok (.ret .none))) ⟨h', g.setIfInBounds ni .finished, d, tk', os⟩) →
    Ms prg w A.in1 Q E Pe (bfHead w fo ga p) ⟨h, g.setIfInBounds ni gs, d, tkn, os⟩ := by
  have hA1 := hA.in1
  have m1 := bfMd_ok w fo ga
  simp only [Bool.and_eq_true] at m1
  have hso : SegOk (L + 1) A.in1 (bfLoop w fo ga) (bfFs w fo ga p) := seg_fit hA m1.2.1 (bfFs_ok w fo ga p)
  have hseg : MdOk (L + 1) A.in1 (bfHead w fo ga p) := hso
  have hnx : MdOk (L + 1) A.in1 (bfNxMd w fo ga p) := md_seg_ok (bfNxMd_eq w fo ga p) hso
  have nok := bfNx_ok w fo ga p
  simp only [Prod.mk.injEq] at nok
  have K0 := kn_none (b := b) (c := c) hk
  intro rest
  induction rest with
  | nil =>
    intro S gs h tkn t o RR hS finY finE
    refine by_runs W K0 (by omega) hA1 (fun ad => bfNx_run w b c ad fo ga p ni gn gq _) hseg rfl RR ot_nil fun ad h1 tk1 R1 => ?_
    refine ms_call (by omega) hA1 hnx nok.1 fun A2 hA2 => ?_
    rw [nok.2.1]
    refine inner_next W hk (by omega) hA2 htk hT1 htd hok (R1.perm List.perm_middle.symm) hS ⟨_, gn, gq, (R1.own _ (.head _)).1, rfl, rfl, rfl⟩ (by simp [hni]) (fun cx rest' e => by cases e) fun _ h2 tk2 e t' R2 => ?_
    rw [set_set]
    refine by_runs W K0 (by omega) hA1 (fun ad => bfEnd_run w b c ad fo ga p e t' _) (cont_ok hnx) rfl R2 ot_nil fun ad h3 tk3 R3 => ?_
    have bk := bfBlock_ok w fo ga p
    rw [Bool.and_eq_true] at bk
    refine seg_again (bfEndMd_eq w fo ga p) bk.2 ?_
    refine by_runs W K0 (by omega) hA1 (fun ad => bfLast_run w b c ad fo ga p _) (seg_fit hA bk.1 (bfFs_ok w fo ga p)) rfl R3 ot_nil fun ad h4 tk4 R4 => ?_
    exact s_end _ _ _ _ _ _ (.ok (.ret .none)) _ rfl (finE rfl _ _ (R4.drop 2))
  | cons cx rest ih =>
    intro S gs h tkn t o RR hS finY finE
    refine by_runs W K0 (by omega) hA1 (fun ad => bfNx_run w b c ad fo ga p ni gn gq _) hseg rfl RR ot_nil fun ad h1 tk1 R1 => ?_
    refine ms_call (by omega) hA1 hnx nok.1 fun A2 hA2 => ?_
    rw [nok.2.1]
    refine inner_next W hk (by omega) hA2 htk hT1 htd hok (R1.perm List.perm_middle.symm) hS ⟨_, gn, gq, (R1.own _ (.head _)).1, rfl, rfl, rfl⟩ (by simp [hni]) (fun cx' rest' e h3 tk3 x u pv q1 q2 gs' R3 hpv hsu => ?_) (fun e => by cases e)
    rw [set_set]
    obtain ⟨rfl, rfl⟩ := List.cons.inj e
    clear e ad R1 RR hS
    obtain ⟨t0, prev, lb, uc⟩ := cx
    have hcur := isbin_ok (g := g.setIfInBounds ni gs') (d := d) (os := os) W hk (L := L + 1) (by omega) (curV t0.s u)
    have hprv := isbin_ok (g := g.setIfInBounds ni gs') (d := d) (os := os) W hk (L := L + 1) (by omega) pv
    rw [isB_cur] at hcur
    rw [isB_of hpv] at hprv
    have hout : outB (⟨t0, prev, lb, uc⟩ :: rest) = bif (isBs (some t0.s) && (lb && (!uc && !isBs prev))) then .ref t0.sa :: outB rest else outB rest := rfl
    cases hi : isBs (some t0.s) with
    | false =>
      rw [hi] at hcur
      have ho : outB (⟨t0, prev, lb, uc⟩ :: rest) = outB rest := by rw [hout, hi]; rfl
      refine by_runs W K0 (by omega) hA1 (fun ad => bfA_run w b c ad fo ga tk p x (kindA t0.s).1 (kindA t0.s).2 t0.s u pv lb uc t0.sa t o q1 q2 (ga, genO ni gn gq) T) (cont_ok hnx) rfl R3 (ot_cons hcur ot_nil) fun ad h4 tk4 R4 => ?_
      exact seg_again rfl m1.2.2 (ih (S := [q1, q2]) (R4.pick (ks := [2, 0, 1]) (k := 3) rfl) (.inr ⟨q1, q2, rfl, hsu⟩) (fun v vs' e => finY v vs' (by rw [ho]; exact e)) (fun e => finE (by rw [ho]; exact e)))
    | true =>
      rw [hi] at hcur
      cases lb with
      | false =>
        have ho : outB (⟨t0, prev, false, uc⟩ :: rest) = outB rest := by rw [hout, hi]; rfl
        refine by_runs W K0 (by omega) hA1 (fun ad => bfB_run w b c ad fo ga tk p x (kindA t0.s).1 (kindA t0.s).2 t0.s u pv uc t0.sa t o q1 q2 (ga, genO ni gn gq) T) (cont_ok hnx) rfl R3 (ot_cons hcur ot_nil) fun ad h4 tk4 R4 => ?_
        exact seg_again rfl m1.2.2 (ih (S := [q1, q2]) (R4.pick (ks := [2, 0, 1]) (k := 3) rfl) (.inr ⟨q1, q2, rfl, hsu⟩) (fun v vs' e => finY v vs' (by rw [ho]; exact e)) (fun e => finE (by rw [ho]; exact e)))
      | true =>
        cases uc with
        | true =>
          have ho : outB (⟨t0, prev, true, true⟩ :: rest) = outB rest := by rw [hout, hi]; rfl
          refine by_runs W K0 (by omega) hA1 (fun ad => bfC_run w b c ad fo ga tk p x (kindA t0.s).1 (kindA t0.s).2 t0.s u pv t0.sa t o q1 q2 (ga, genO ni gn gq) T) (cont_ok hnx) rfl R3 (ot_cons hcur ot_nil) fun ad h4 tk4 R4 => ?_
          exact seg_again rfl m1.2.2 (ih (S := [q1, q2]) (R4.pick (ks := [2, 0, 1]) (k := 3) rfl) (.inr ⟨q1, q2, rfl, hsu⟩) (fun v vs' e => finY v vs' (by rw [ho]; exact e)) (fun e => finE (by rw [ho]; exact e)))
        | false =>
          cases hj : isBs prev with
          | true =>
            rw [hj] at hprv
            have ho : outB (⟨t0, prev, true, false⟩ :: rest) = outB rest := by rw [hout, hi, hj]; rfl
            refine by_runs W K0 (by omega) hA1 (fun ad => bfD_run w b c ad fo ga tk p x (kindA t0.s).1 (kindA t0.s).2 t0.s u pv t0.sa t o q1 q2 (ga, genO ni gn gq) T) (cont_ok hnx) rfl R3 (ot_cons hcur (ot_cons hprv ot_nil)) fun ad h4 tk4 R4 => ?_
            exact seg_again rfl m1.2.2 (ih (S := [q1, q2]) (R4.pick (ks := [2, 0, 1]) (k := 3) rfl) (.inr ⟨q1, q2, rfl, hsu⟩) (fun v vs' e => finY v vs' (by rw [ho]; exact e)) (fun e => finE (by rw [ho]; exact e)))
          | false =>
            rw [hj] at hprv
            have ho : outB (⟨t0, prev, true, false⟩ :: rest) = .ref t0.sa :: outB rest := by rw [hout, hi, hj]; rfl
            refine by_runs W K0 (by omega) hA1 (fun ad => bfE_run w b c ad fo ga tk p x (kindA t0.s).1 (kindA t0.s).2 t0.s u pv t0.sa t o q1 q2 (ga, genO ni gn gq) T) (cont_ok hnx) rfl R3 (ot_cons hcur (ot_cons hprv ot_nil)) fun ad h4 tk4 R4 => ?_
            have yo := bfYield_ok w fo ga p (ad 16)
            simp only [Prod.mk.injEq] at yo
            refine seg_yield yo.1 fun p' => ?_
            rw [yo.2.1]
            exact finY _ _ ho h4 tk4 (ad 16) (ad 15) q1 q2 (ga, genO ni gn gq) _ gs' p' R4 ⟨fo, ga, p, ad 16, p', t, kO o ad, x, _, _, _, u, pv, true, false, t0.sa, rest, gn, gq, rfl, rfl, rfl, hsu, rfl⟩
end

noncomputable def afGs (w : World) (fo ga : Addr) (p : Pos) (y : Addr) (p' : Pos) : GenState := .suspended (ykOf (afYield w fo ga p y)) (ylOf (afYield w fo ga p y)) (mdCode (afYield w fo ga p y)) p' (mdFs (afYield w fo ga p y)) false
noncomputable def afSusp (w : World) (tk : Addr) (td : List Tk) (ni : Nat) (vs : List Value) (go gi : GenState) (q1 q2 q3 q4 : Addr × Obj) : Prop :=
  ∃ fo ga p y p' t ps kk x k kt s u pv lb uc sa rest gn gq, go = afGs w fo ga p y p' ∧ q3 = (ga, genO ni gn gq) ∧ q4 = (fo, afF w tk t ps (some (kk, vO x k kt s u pv lb uc sa))) ∧ ISusp w tk td rest gi q1 q2 ∧ vs = outA (some sa) rest
theorem afNxMd_eq (w : World) (fo ga : Addr) (p : Pos) : afNxMd w fo ga p = .seg (afLoop w fo ga) (afFs w fo ga p) (mdTree (afNxMd w fo ga p)) := by kernel_rfl
section
variable {w : World} {A : Around} {L : Nat} {h₁ : Heap} {g : Array GenState} {d : Drawn} {os : OsState} {b c : Bool}
theorem af_seg (W : Wd w b c) (hk : KT.Holds h₁ 1 0 (ktop w.params)) (hL : L ≤ 7) (hA : Lev L A) {Q : Result → Shared → Prop} {E : Value → Shared → Prop} {Pe : End → Shared → Prop} {fo ga tk : Addr} {p : Pos} {items : List Value} {n : Nat} {td : List Tk} {T1 : Store}
    (htk : h₁.get? tk = some (listObj items n)) (hT1 : ∀ p ∈ T1, h₁.get? p.1 = some p.2) (htd : All2 (TkIn T1) items td) (hok : ∀ t ∈ td, TokOk t) {ni : Nat} (hni : ni < g.size) {gn gq : Value} {T : Store} :
    ∀ (rest : List Cx) {S : Store} {gs : GenState} {h : Heap} {tkn : Nat} {t : Strm} {ps : Option Addr} {o : Option OM}, Rep h₁ h ((ga, genO ni gn gq) :: (S ++ (fo, afF w tk t ps o) :: T)) → ISt w tk td rest gs S →
    (∀ v vs', outA ps rest = v :: vs' → ∀ h' tk' y mt q1 q2 q3 q4 gi p', Rep h₁ h' ((y, tupObj [v, .str msg4 mt] 0) :: q1 :: q2 :: q3 :: q4 :: T) → afSusp w tk td ni vs' (afGs w fo ga p y p') gi q1 q2 q3 q4 →
      Pe (.susp (.ref y) false (ylOf (afYield w fo ga p y)) (ykOf (afYield w fo ga p y)) (mdCode (afYield w fo ga p y)) p' (mdFs (afYield w fo ga p y))) ⟨h', g.setIfInBounds ni gi, d, tk', os⟩) →
    (outA ps rest = [] → ∀ h' tk', Rep h₁ h' T → Pe (.ret (.ok (.ret .none))) ⟨h', g.setIfInBounds ni .finished, d, tk', os⟩) →
    Ms prg w A.in1 Q E Pe (afHead w fo ga p) ⟨h, g.setIfInBounds ni gs, d, tkn, os⟩ := by
  have hA1 := hA.in1
  have m1 := afMd_ok w fo ga
  simp only [Bool.and_eq_true] at m1
  have hso : SegOk (L + 1) A.in1 (afLoop w fo ga) (afFs w fo ga p) := seg_fit hA m1.2.1 (afFs_ok w fo ga p)
  have hseg : MdOk (L + 1) A.in1 (afHead w fo ga p) := hso
  have hnx : MdOk (L + 1) A.in1 (afNxMd w fo ga p) := md_seg_ok (afNxMd_eq w fo ga p) hso
  have nok := afNx_ok w fo ga p
  simp only [Prod.mk.injEq] at nok
  have K0 := kn_none (b := b) (c := c) hk
  intro rest
  induction rest with
  | nil =>
    intro S gs h tkn t ps o RR hS finY finE
    refine by_runs W K0 (by omega) hA1 (fun ad => afNx_run w b c ad fo ga p ni gn gq _) hseg rfl RR ot_nil fun ad h1 tk1 R1 => ?_
    refine ms_call (by omega) hA1 hnx nok.1 fun A2 hA2 => ?_
    rw [nok.2.1]
    refine inner_next W hk (by omega) hA2 htk hT1 htd hok (R1.perm List.perm_middle.symm) hS ⟨_, gn, gq, (R1.own _ (.head _)).1, rfl, rfl, rfl⟩ (by simp [hni]) (fun cx rest' e => by cases e) fun _ h2 tk2 e t' R2 => ?_
    rw [set_set]
    refine by_runs W K0 (by omega) hA1 (fun ad => afEnd_run w b c ad fo ga p e t' _) (cont_ok hnx) rfl R2 ot_nil fun ad h3 tk3 R3 => ?_
    have bk := afBlock_ok w fo ga p
    rw [Bool.and_eq_true] at bk
    refine seg_again (afEndMd_eq w fo ga p) bk.2 ?_
    refine by_runs W K0 (by omega) hA1 (fun ad => afLast_run w b c ad fo ga p _) (seg_fit hA bk.1 (afFs_ok w fo ga p)) rfl R3 ot_nil fun ad h4 tk4 R4 => ?_
    exact s_end _ _ _ _ _ _ (.ok (.ret .none)) _ rfl (finE rfl _ _ (R4.drop 2))
  | cons cx rest ih =>
    intro S gs h tkn t ps o RR hS finY finE
    refine by_runs W K0 (by omega) hA1 (fun ad => afNx_run w b c ad fo ga p ni gn gq _) hseg rfl RR ot_nil fun ad h1 tk1 R1 => ?_
    refine ms_call (by omega) hA1 hnx nok.1 fun A2 hA2 => ?_
    rw [nok.2.1]
    refine inner_next W hk (by omega) hA2 htk hT1 htd hok (R1.perm List.perm_middle.symm) hS ⟨_, gn, gq, (R1.own _ (.head _)).1, rfl, rfl, rfl⟩ (by simp [hni]) (fun cx' rest' e h3 tk3 x u pv q1 q2 gs' R3 hpv hsu => ?_) (fun e => by cases e)
    rw [set_set]
    obtain ⟨rfl, rfl⟩ := List.cons.inj e
    clear e ad R1 RR hS
    obtain ⟨t0, prev, lb, uc⟩ := cx
    have hcur := isbin_ok (g := g.setIfInBounds ni gs') (d := d) (os := os) W hk (L := L + 1) (by omega) (curV t0.s u)
    have hprv := isbin_ok (g := g.setIfInBounds ni gs') (d := d) (os := os) W hk (L := L + 1) (by omega) pv
    rw [isB_cur] at hcur
    rw [isB_of hpv] at hprv
    have hout : outA ps (⟨t0, prev, lb, uc⟩ :: rest) = bif (isBs prev && (lb && (!uc && !isBs (some t0.s)))) then psV ps :: outA (some t0.sa) rest else outA (some t0.sa) rest := rfl
    cases hi : isBs prev with
    | false =>
      rw [hi] at hprv
      have ho : outA ps (⟨t0, prev, lb, uc⟩ :: rest) = outA (some t0.sa) rest := by rw [hout, hi]; rfl
      refine by_runs W K0 (by omega) hA1 (fun ad => afA_run w b c ad fo ga tk p x (kindA t0.s).1 (kindA t0.s).2 t0.s u pv lb uc t0.sa t ps o q1 q2 (ga, genO ni gn gq) T) (cont_ok hnx) rfl R3 (ot_cons hprv ot_nil) fun ad h4 tk4 R4 => ?_
      exact seg_again rfl m1.2.2 (ih (S := [q1, q2]) (R4.pick (ks := [2, 0, 1]) (k := 3) rfl) (.inr ⟨q1, q2, rfl, hsu⟩) (fun v vs' e => finY v vs' (by rw [ho]; exact e)) (fun e => finE (by rw [ho]; exact e)))
    | true =>
      rw [hi] at hprv
      cases lb with
      | false =>
        have ho : outA ps (⟨t0, prev, false, uc⟩ :: rest) = outA (some t0.sa) rest := by rw [hout, hi]; rfl
        refine by_runs W K0 (by omega) hA1 (fun ad => afB_run w b c ad fo ga tk p x (kindA t0.s).1 (kindA t0.s).2 t0.s u pv uc t0.sa t ps o q1 q2 (ga, genO ni gn gq) T) (cont_ok hnx) rfl R3 (ot_cons hprv ot_nil) fun ad h4 tk4 R4 => ?_
        exact seg_again rfl m1.2.2 (ih (S := [q1, q2]) (R4.pick (ks := [2, 0, 1]) (k := 3) rfl) (.inr ⟨q1, q2, rfl, hsu⟩) (fun v vs' e => finY v vs' (by rw [ho]; exact e)) (fun e => finE (by rw [ho]; exact e)))
      | true =>
        cases uc with
        | true =>
          have ho : outA ps (⟨t0, prev, true, true⟩ :: rest) = outA (some t0.sa) rest := by rw [hout, hi]; rfl
          refine by_runs W K0 (by omega) hA1 (fun ad => afC_run w b c ad fo ga tk p x (kindA t0.s).1 (kindA t0.s).2 t0.s u pv t0.sa t ps o q1 q2 (ga, genO ni gn gq) T) (cont_ok hnx) rfl R3 (ot_cons hprv ot_nil) fun ad h4 tk4 R4 => ?_
          exact seg_again rfl m1.2.2 (ih (S := [q1, q2]) (R4.pick (ks := [2, 0, 1]) (k := 3) rfl) (.inr ⟨q1, q2, rfl, hsu⟩) (fun v vs' e => finY v vs' (by rw [ho]; exact e)) (fun e => finE (by rw [ho]; exact e)))
        | false =>
          cases hj : isBs (some t0.s) with
          | true =>
            rw [hj] at hcur
            have ho : outA ps (⟨t0, prev, true, false⟩ :: rest) = outA (some t0.sa) rest := by rw [hout, hi, hj]; rfl
            refine by_runs W K0 (by omega) hA1 (fun ad => afD_run w b c ad fo ga tk p x (kindA t0.s).1 (kindA t0.s).2 t0.s u pv t0.sa t ps o q1 q2 (ga, genO ni gn gq) T) (cont_ok hnx) rfl R3 (ot_cons hprv (ot_cons hcur ot_nil)) fun ad h4 tk4 R4 => ?_
            exact seg_again rfl m1.2.2 (ih (S := [q1, q2]) (R4.pick (ks := [2, 0, 1]) (k := 3) rfl) (.inr ⟨q1, q2, rfl, hsu⟩) (fun v vs' e => finY v vs' (by rw [ho]; exact e)) (fun e => finE (by rw [ho]; exact e)))
          | false =>
            rw [hj] at hcur
            have ho : outA ps (⟨t0, prev, true, false⟩ :: rest) = psV ps :: outA (some t0.sa) rest := by rw [hout, hi, hj]; rfl
            refine by_runs W K0 (by omega) hA1 (fun ad => afE_run w b c ad fo ga tk p x (kindA t0.s).1 (kindA t0.s).2 t0.s u pv t0.sa t ps o q1 q2 (ga, genO ni gn gq) T) (cont_ok hnx) rfl R3 (ot_cons hprv (ot_cons hcur ot_nil)) fun ad h4 tk4 R4 => ?_
            have yo := afYield_ok w fo ga p (ad 16)
            simp only [Prod.mk.injEq] at yo
            refine seg_yield yo.1 fun p' => ?_
            rw [yo.2.1]
            exact finY _ _ ho h4 tk4 (ad 16) (ad 15) q1 q2 (ga, genO ni gn gq) _ gs' p' R4 ⟨fo, ga, p, ad 16, p', t, ps, kO o ad, x, _, _, _, u, pv, true, false, t0.sa, rest, gn, gq, rfl, rfl, rfl, hsu, rfl⟩
end
end Mine
end

section
open PySem PySem.W PySem.W.X PySem.Calls PyProof.Rows
set_option maxHeartbeats 0
namespace Mine
theorem push_set (g : Array GenState) (x y : GenState) : (g.push x).setIfInBounds g.size y = g.push y := by
  apply Array.ext'
  simp
theorem set_self {g : Array GenState} {n : Nat} {x : GenState} (e : g[n]? = some x) : g.setIfInBounds n x = g := by
  apply Array.ext
  · simp
  · intro i h1 h2
    rw [Array.getElem_setIfInBounds]
    · split
      · rename_i q
        subst q
        rw [Array.getElem?_eq_some_iff] at e
        exact e.2.symm
      · rfl
theorem set_same {g : Array GenState} {n : Nat} {x y : GenState} (e : g[n]? = some y) : (g.setIfInBounds n x)[n]? = some x := by
  have h := (Array.getElem?_eq_some_iff.mp e).1
  simp [h]
theorem set_ne {g : Array GenState} {n m : Nat} {x : GenState} (e : n ≠ m) : (g.setIfInBounds n x)[m]? = g[m]? := by
  rw [Array.getElem?_setIfInBounds]
  simp [e]
theorem bare_set {g : Array GenState} {n : Nat} {x : GenState} (h : AllBare g) (hx : x.bare = true) : AllBare (g.setIfInBounds n x) := fun y hy => by
  rcases Array.mem_or_eq_of_mem_setIfInBounds hy with q | q
  · exact h y q
  · exact q ▸ hx
theorem iLook (w : World) : fnLook w 173 172 = fnLook' w 173 172 := by kernel_rfl
theorem iGen (w : World) : (gFd w 173).scope.isGenerator = true := by kernel_rfl
theorem isusp_bare {w : World} {tk : Addr} {td : List Tk} {rest : List Cx} {gs : GenState} {q1 q2 : Addr × Obj} (h : ISusp w tk td rest gs q1 q2) : gs.bare = true := by
  obtain ⟨_, _, _, _, _, _, _, _, _, _, _, _, _, _, _, _, _, _, rfl, _⟩ := h
  rfl
section
variable {w : World} {A : Around} {L : Nat} {h₁ : Heap} {g : Array GenState} {d : Drawn} {os : OsState} {b c : Bool}
theorem inner_make (W : Wd w b c) (hk : KT.Holds h₁ 1 0 (ktop w.params)) (hL : L ≤ 9) (hA : Lev L A) {R : Result → Shared → Prop} {tk : Addr} {T : Store} {h : Heap} {tkn : Nat} (RR : Rep h₁ h T)
    (fin : ∀ h' tk' ga fi t0 gn gq, Rep h₁ h' ((ga, genO g.size gn gq) :: (fi, frm [ent w "tokens" t0 (.ref tk)] 1) :: T) → R (.ok (.ret (.ref ga))) ⟨h', g.push (.fresh (gCode w 173 fi)), d, tk', os⟩) :
    wpAny (model prg w) A (.call (.call (.ref 173) ⟨[.ref tk], []⟩) none false [] Sem.pure) R (fun _ _ => False) ⟨h, g, d, tkn, os⟩ := by
  have hk' := hk.keeps RR.keep
  have lk := iLook w
  have lk' := lk
  simp only [fnLook, fnLook', Prod.mk.injEq] at lk'
  obtain ⟨l1, l2, l3, _, _, _, _, l8⟩ := lk'
  have hA1 := hA.mark
  have hroom : (A.mark none).depth < recursionLimit := by have := hA1.depth; show (A.mark none).depth < 1000; omega
  refine x_call (codeAny_call_generator hroom (kt_at hk' l1) l2 l8 (iGen w) l3 (code_rec hk' lk) ?_) (by intro e; cases e)
  rw [zbind_eq, iBind_run]
  refine wpAny_pure ?_
  have e3 : newFunctionEnv (gFd w 173).scope (gFd w 173).globals (gFd w 173).closure [(S "tokens", .ref tk)] ((gFd w 173).qualname ++ ".<locals>.") (some 173) (gFd w 173).code none (gFd w 173).builtins = newEnv w 173 [(S "tokens", .ref tk)] := by
    unfold newEnv; rw [znewEnv_eq]
  rw [e3]
  refine out_ms (by_runs W (kn_none (b := b) (c := c) hk) (by omega) hA1.in1 (fun ad => iEnv_run w b c ad tk T) trivial rfl RR ot_nil fun ad h1 tk1 R1 => wpAny_pure ⟨no_limit (hk.keeps R1.keep), wpAny_pure ?_⟩)
  exact fin _ _ _ _ _ _ _ (R1.alloc (o := genO g.size (.str (gFd w 173).name tk1) (.str (gFd w 173).qualname (tk1 + 1))) rfl)
end

noncomputable def OStB (w : World) (tk : Addr) (td : List Tk) (no : Nat) (vs : List Value) (g : Array GenState) (Sx : Store) : Prop :=
  (∃ fo t0 u t1 t3, g[no]? = some (.fresh (gCode w 180 fo)) ∧ Sx = [(fo, bfF w tk (s4 t0 u t1 t3) none)] ∧ vs = outB (goC false true none td)) ∨
  (∃ ni go gi q1 q2 q3 q4, g[no]? = some go ∧ g[ni]? = some gi ∧ no ≠ ni ∧ Sx = [q1, q2, q3, q4] ∧ bfSusp w tk td ni vs go gi q1 q2 q3 q4)
section
variable {w : World} {A : Around} {L : Nat} {h₁ : Heap} {d : Drawn} {os : OsState} {b c : Bool}
theorem bf_make (W : Wd w b c) (hk : KT.Holds h₁ 1 0 (ktop w.params)) (hL : L ≤ 9) (hA : Lev L A) {R : Result → Shared → Prop} {tk : Addr} {u : Tok} {td : List Tk} {g : Array GenState} {T : Store} {h : Heap} {tkn : Nat} (RR : Rep h₁ h T)
    (fin : ∀ h' g' tk' ga gn gq Sx, Rep h₁ h' ((ga, genO g.size gn gq) :: (Sx ++ T)) → OStB w tk td g.size (outB (goC false true none td)) g' Sx → (AllBare g → AllBare g') → R (.ok (.ret (.ref ga))) ⟨h', g', d, tk', os⟩) :
    wpAny (model prg w) A (.call (.call (.ref 180) ⟨[.str ⟨#[]⟩ u, .ref tk], []⟩) none false [] Sem.pure) R (fun _ _ => False) ⟨h, g, d, tkn, os⟩ := by
  have hk' := hk.keeps RR.keep
  have lk := bfLook w
  have lk' := lk
  simp only [fnLook, fnLook', Prod.mk.injEq] at lk'
  obtain ⟨l1, l2, l3, _, _, _, _, l8⟩ := lk'
  have hA1 := hA.mark
  have hroom : (A.mark none).depth < recursionLimit := by have := hA1.depth; show (A.mark none).depth < 1000; omega
  refine x_call (codeAny_call_generator hroom (kt_at hk' l1) l2 l8 (bfGen w) l3 (code_rec hk' lk) ?_) (by intro e; cases e)
  rw [zbind_eq, (Prod.mk.inj (oBind_run w tk u)).1]
  refine wpAny_pure ?_
  have e3 : newFunctionEnv (gFd w 180).scope (gFd w 180).globals (gFd w 180).closure [(S "logical_line", .str ⟨#[]⟩ u), (S "tokens", .ref tk)] ((gFd w 180).qualname ++ ".<locals>.") (some 180) (gFd w 180).code none (gFd w 180).builtins = newEnv w 180 [(S "logical_line", .str ⟨#[]⟩ u), (S "tokens", .ref tk)] := by
    unfold newEnv; rw [znewEnv_eq]
  rw [e3]
  refine out_ms (by_runs W (kn_none (b := b) (c := c) hk) (by omega) hA1.in1 (fun ad => bfEnv_run w b c ad tk u T) trivial rfl RR ot_nil fun ad h1 tk1 R1 => wpAny_pure ⟨no_limit (hk.keeps R1.keep), wpAny_pure ?_⟩)
  exact fin _ _ _ _ _ _ [_] (R1.alloc (o := genO g.size (.str (gFd w 180).name tk1) (.str (gFd w 180).qualname (tk1 + 1))) rfl) (.inl ⟨_, _, _, _, _, by simp [gCode], rfl, rfl⟩) fun h => h.push rfl
theorem bf_next (W : Wd w b c) (hk : KT.Holds h₁ 1 0 (ktop w.params)) (hL : L ≤ 7) (hA : Lev L A) {R : Result → Shared → Prop} {tk : Addr} {items : List Value} {n : Nat} {td : List Tk} {T1 : Store}
    (htk : h₁.get? tk = some (listObj items n)) (hT1 : ∀ p ∈ T1, h₁.get? p.1 = some p.2) (htd : All2 (TkIn T1) items td) (hok : ∀ t ∈ td, TokOk t) {Sx T : Store} {vs : List Value} {h : Heap} {tkn : Nat} {I : Addr} {no : Nat} {g : Array GenState}
    (RR : Rep h₁ h (Sx ++ T)) (hS : OStB w tk td no vs g Sx) (hg : h.IsGen I no) (hb : AllBare g)
    (finY : ∀ v vs', vs = v :: vs' → ∀ h' g' tk' y mt Sx', Rep h₁ h' ((y, tupObj [v, .str msg3 mt] 0) :: (Sx' ++ T)) → OStB w tk td no vs' g' Sx' → AllBare g' → R (.ok (.ret (.ref y))) ⟨h', g', d, tk', os⟩)
    (finE : vs = [] → ∀ h' g' tk' e t, Rep h₁ h' ((e, stopObj t) :: (t, tupObj [] 0) :: T) → AllBare g' → R (.error (.ref e)) ⟨h', g', d, tk', os⟩) :
    wpAny (model prg w) A (.call (.call (.builtin "generator.__next__") ⟨[.ref I], []⟩) none false [] Sem.pure) R (fun _ _ => False) ⟨h, g, d, tkn, os⟩ := by
  have hlim := no_limit (hk.keeps RR.keep)
  have hA1 := hA.in1
  have m1 := fun fo ga => bfMd_ok w fo ga
  simp only [Bool.and_eq_true] at m1
  have K0 := kn_none (b := b) (c := c) hk
  have fY : ∀ (g1 : Array GenState) (ni : Nat), AllBare g1 → no ≠ ni → no < g1.size → ni < g1.size → ∀ fo ga p v vs', vs = v :: vs' → ∀ h' tk' y mt q1 q2 q3 q4 gi p', Rep h₁ h' ((y, tupObj [v, .str msg3 mt] 0) :: q1 :: q2 :: q3 :: q4 :: T) → bfSusp w tk td ni vs' (bfGs w fo ga p y p') gi q1 q2 q3 q4 →
      R (.ok (.ret (.ref y))) ⟨h', (g1.setIfInBounds ni gi).setIfInBounds no (bfGs w fo ga p y p'), d, tk', os⟩ := by
    intro g1 ni hb1 hne hno hni fo ga p v vs' e h' tk' y mt q1 q2 q3 q4 gi p' R' hsu
    have hgi : gi.bare = true := by
      obtain ⟨_, _, _, _, _, _, _, _, _, _, _, _, _, _, _, _, _, _, _, _, _, _, hi, _⟩ := hsu
      exact isusp_bare hi
    refine finY v vs' e h' _ tk' y mt [q1, q2, q3, q4] R' (.inr ⟨ni, _, gi, q1, q2, q3, q4, ?_, ?_, hne, rfl, hsu⟩) (bare_set (bare_set hb1 hgi) rfl)
    · simp [hno]
    · rw [set_ne hne]; simp [hni]
  have fE : ∀ (g1 : Array GenState), AllBare g1 → vs = [] → ∀ h' tk', Rep h₁ h' T → (Except.ok (Flow.ret Value.none) : Result) = .ok (.ret .none) ∧ R (.error (.ref (h'.objs.size + 1))) ⟨(h'.push (tupObj [] 0)).push (stopObj h'.objs.size), g1.setIfInBounds no .finished, d, tk', os⟩ := by
    intro g1 hb1 e h' tk' R'
    refine ⟨rfl, ?_⟩
    have r2 := (R'.alloc (o := tupObj [] 0) rfl).alloc (o := stopObj h'.objs.size) rfl
    have e9 : (h'.push (tupObj [] 0)).objs.size = h'.objs.size + 1 := Heap.size_push ..
    rw [e9] at r2
    exact finE e _ _ _ _ _ r2 (bare_set hb1 rfl)
  rcases hS with ⟨fo, t0, u, t1, t3, hgo, rfl, hvs⟩ | ⟨ni, go, gi, q1, q2, q3, q4, hgo, hgi, hne, rfl, fo, ga, p, y, p', t, kk, x, k, kt, s, u, pv, lb, uc, sa, rest, gn, gq, rfl, rfl, rfl, hsu, hvs⟩
  · have hno := (Array.getElem?_eq_some_iff.mp hgo).1
    refine gen_next hlim (by omega) hA hg hgo (c₀ := gCode w 180 fo) (t₀ := zdenote (gCode w 180 fo)) (.inl ⟨rfl, by rw [zdenote_eq], rfl⟩) ?_
    have hm : MdOk (L + 1) A.in1 (.seg (gCode w 180 fo) [] (zdenote (gCode w 180 fo)) : Md Result) := seg_fit hA rfl rfl
    have fo_ok := bfFunc_ok w fo tk
    simp only [Prod.mk.injEq] at fo_ok
    have hm1 : MdOk (L + 1) A.in1 (bfFuncMd w fo tk) := md_seg_ok (c := gCode w 180 fo) (fs := []) (t := mdTree (bfFuncMd w fo tk)) (by kernel_rfl) (seg_fit hA rfl rfl)
    have z := by_runs (g := g.setIfInBounds no .running) (d := d) (os := os) (Q := fun _ _ => False) (E := fun _ _ => False) (Pe := fun e s₁ => match e with
        | .susp v _ _ _ _ _ _ => R (.ok (.ret v)) (s₁.setGen no e.genState)
        | .ret r => r = .ok (.ret .none) ∧ R (.error (.ref (s₁.heap.objs.size + 1))) { s₁.setGen no .finished with heap := (s₁.heap.push (tupObj [] 0)).push (stopObj s₁.heap.objs.size) })
      (tk := tkn) W K0 (by omega) hA1 (fun ad => bfFunc_run w b c ad fo tk t0 u t1 t3 T) hm rfl RR ot_nil fun ad h1 tk1 R1 => ms_call (by omega) hA1 hm1 fo_ok.1 fun A2 hA2 => by
        rw [fo_ok.2.1]
        refine inner_make W hk (by omega) hA2 R1 fun h2 tk2 ga fi ti gn gq R2 => ?_
        refine by_runs W K0 (by omega) hA1 (fun ad => bfIter_run w b c ad fo tk ga (g.setIfInBounds no .running).size gn gq _) (cont_ok hm1) rfl R2 ot_nil fun ad3 h3 tk3 R3 => ?_
        refine seg_enter (m1 fo ga).1 fun p => ?_
        have hsz : (g.setIfInBounds no .running).size = g.size := by simp
        have hsz2 : ((g.setIfInBounds no .running).push (GenState.fresh (gCode w 173 fi))).size = g.size + 1 := by simp
        have sg := bf_seg (Q := fun _ _ => False) (E := fun _ _ => False) (Pe := fun e s₁ => match e with
        | .susp v _ _ _ _ _ _ => R (.ok (.ret v)) (s₁.setGen no e.genState)
        | .ret r => r = .ok (.ret .none) ∧ R (.error (.ref (s₁.heap.objs.size + 1))) { s₁.setGen no .finished with heap := (s₁.heap.push (tupObj [] 0)).push (stopObj s₁.heap.objs.size) }) (g := (g.setIfInBounds no .running).push (.fresh (gCode w 173 fi))) (d := d) (os := os) (p := p) (fo := fo) (ga := ga) W hk hL hA htk hT1 htd hok (ni := (g.setIfInBounds no .running).size) (by simp) (gn := gn) (gq := gq) (T := T) (goC false true none td) (S := [(fi, frm [ent w "tokens" ti (.ref tk)] 1)]) (gs := .fresh (gCode w 173 fi)) (tkn := tk3) (o := none) R3 (.inl ⟨fi, ti, rfl, rfl, rfl⟩) ?_ ?_
        · rw [push_set] at sg
          exact sg
        · intro v vs' e h' tk' y mt q1 q2 q3 q4 gi p' R' hsu
          show R _ ⟨h', (((g.setIfInBounds no .running).push (GenState.fresh (gCode w 173 fi))).setIfInBounds _ gi).setIfInBounds no _, d, tk', os⟩
          rw [bfGs_eq]
          exact fY _ _ ((bare_set hb rfl).push rfl) (by omega) (by omega) (by omega) fo ga p v vs' (hvs.trans e) h' tk' y mt q1 q2 q3 q4 gi p' R' hsu
        · intro e h' tk' R'
          exact fE _ (bare_set ((bare_set hb rfl).push rfl) rfl) (hvs.trans e) h' tk' R'
    exact z
  · have hno := (Array.getElem?_eq_some_iff.mp hgo).1
    have hni := (Array.getElem?_eq_some_iff.mp hgi).1
    have yo := bfYield_ok w fo ga p y
    simp only [Prod.mk.injEq] at yo
    refine gen_next hlim (by omega) hA hg hgo (c₀ := mdCode (bfYield w fo ga p y)) (t₀ := ykOf (bfYield w fo ga p y) (.send .none)) (fs₀ := mdFs (bfYield w fo ga p y)) (.inr ⟨_, _, _, _, rfl, rfl⟩) ?_
    have hm : MdOk (L + 1) A.in1 (bfWoken w fo ga p y) := by
      show SegOk (L + 1) A.in1 (mdCode (bfYield w fo ga p y)) (mdFs (bfYield w fo ga p y))
      rw [yo.2.2.1, yo.2.2.2]
      exact seg_fit hA (m1 fo ga).2.1 (bfFs_ok w fo ga p)
    have z := by_runs (g := g.setIfInBounds no .running) (d := d) (os := os) (Q := fun _ _ => False) (E := fun _ _ => False) (Pe := fun e s₁ => match e with
        | .susp v _ _ _ _ _ _ => R (.ok (.ret v)) (s₁.setGen no e.genState)
        | .ret r => r = .ok (.ret .none) ∧ R (.error (.ref (s₁.heap.objs.size + 1))) { s₁.setGen no .finished with heap := (s₁.heap.push (tupObj [] 0)).push (stopObj s₁.heap.objs.size) })
      (tk := tkn) W K0 (by omega) hA1 (fun ad => bfRes_run w b c ad fo ga tk p y t kk x k kt s u pv lb uc sa q1 q2 (ga, genO ni gn gq) T) hm rfl RR ot_nil fun ad h1 tk1 R1 => seg_again rfl (m1 fo ga).2.2 (by
        have sg := bf_seg (Q := fun _ _ => False) (E := fun _ _ => False) (Pe := fun e s₁ => match e with
        | .susp v _ _ _ _ _ _ => R (.ok (.ret v)) (s₁.setGen no e.genState)
        | .ret r => r = .ok (.ret .none) ∧ R (.error (.ref (s₁.heap.objs.size + 1))) { s₁.setGen no .finished with heap := (s₁.heap.push (tupObj [] 0)).push (stopObj s₁.heap.objs.size) }) (g := g.setIfInBounds no .running) (d := d) (os := os) (p := p) (fo := fo) (ga := ga) W hk hL hA htk hT1 htd hok (ni := ni) (by simp [hni]) (gn := gn) (gq := gq) (T := T) rest (S := [q1, q2]) (gs := gi) (tkn := tk1) (R1.pick (ks := [2, 0, 1]) (k := 3) rfl) (.inr ⟨q1, q2, rfl, hsu⟩) ?_ ?_
        · have e5 : (g.setIfInBounds no .running).setIfInBounds ni gi = g.setIfInBounds no .running := set_self (by rw [set_ne hne]; exact hgi)
          rw [e5] at sg
          exact sg
        · intro v vs' e h' tk' y mt q1 q2 q3 q4 gi p' R' hsu
          show R _ ⟨h', ((g.setIfInBounds no .running).setIfInBounds ni gi).setIfInBounds no _, d, tk', os⟩
          rw [bfGs_eq]
          exact fY _ _ (bare_set hb rfl) hne (by simp [hno]) (by simp [hni]) fo ga p v vs' (hvs.trans e) h' tk' y mt q1 q2 q3 q4 gi p' R' hsu
        · intro e h' tk' R'
          exact fE _ (bare_set (bare_set hb rfl) rfl) (hvs.trans e) h' tk' R')
    exact z
end

noncomputable def OStA (w : World) (tk : Addr) (td : List Tk) (no : Nat) (vs : List Value) (g : Array GenState) (Sx : Store) : Prop :=
  (∃ fo t0 u t1 t3, g[no]? = some (.fresh (gCode w 187 fo)) ∧ Sx = [(fo, bfF w tk (s4 t0 u t1 t3) none)] ∧ vs = outA none (goC false true none td)) ∨
  (∃ ni go gi q1 q2 q3 q4, g[no]? = some go ∧ g[ni]? = some gi ∧ no ≠ ni ∧ Sx = [q1, q2, q3, q4] ∧ afSusp w tk td ni vs go gi q1 q2 q3 q4)
section
variable {w : World} {A : Around} {L : Nat} {h₁ : Heap} {d : Drawn} {os : OsState} {b c : Bool}
theorem af_make (W : Wd w b c) (hk : KT.Holds h₁ 1 0 (ktop w.params)) (hL : L ≤ 9) (hA : Lev L A) {R : Result → Shared → Prop} {tk : Addr} {u : Tok} {td : List Tk} {g : Array GenState} {T : Store} {h : Heap} {tkn : Nat} (RR : Rep h₁ h T)
    (fin : ∀ h' g' tk' ga gn gq Sx, Rep h₁ h' ((ga, genO g.size gn gq) :: (Sx ++ T)) → OStA w tk td g.size (outA none (goC false true none td)) g' Sx → (AllBare g → AllBare g') → R (.ok (.ret (.ref ga))) ⟨h', g', d, tk', os⟩) :
    wpAny (model prg w) A (.call (.call (.ref 187) ⟨[.str ⟨#[]⟩ u, .ref tk], []⟩) none false [] Sem.pure) R (fun _ _ => False) ⟨h, g, d, tkn, os⟩ := by
  have hk' := hk.keeps RR.keep
  have lk := afLook w
  have lk' := lk
  simp only [fnLook, fnLook', Prod.mk.injEq] at lk'
  obtain ⟨l1, l2, l3, _, _, _, _, l8⟩ := lk'
  have hA1 := hA.mark
  have hroom : (A.mark none).depth < recursionLimit := by have := hA1.depth; show (A.mark none).depth < 1000; omega
  refine x_call (codeAny_call_generator hroom (kt_at hk' l1) l2 l8 (afGen w) l3 (code_rec hk' lk) ?_) (by intro e; cases e)
  rw [zbind_eq, (Prod.mk.inj (oBind_run w tk u)).2]
  refine wpAny_pure ?_
  have e3 : newFunctionEnv (gFd w 187).scope (gFd w 187).globals (gFd w 187).closure [(S "logical_line", .str ⟨#[]⟩ u), (S "tokens", .ref tk)] ((gFd w 187).qualname ++ ".<locals>.") (some 187) (gFd w 187).code none (gFd w 187).builtins = newEnv w 187 [(S "logical_line", .str ⟨#[]⟩ u), (S "tokens", .ref tk)] := by
    unfold newEnv; rw [znewEnv_eq]
  rw [e3]
  refine out_ms (by_runs W (kn_none (b := b) (c := c) hk) (by omega) hA1.in1 (fun ad => afEnv_run w b c ad tk u T) trivial rfl RR ot_nil fun ad h1 tk1 R1 => wpAny_pure ⟨no_limit (hk.keeps R1.keep), wpAny_pure ?_⟩)
  exact fin _ _ _ _ _ _ [_] (R1.alloc (o := genO g.size (.str (gFd w 187).name tk1) (.str (gFd w 187).qualname (tk1 + 1))) rfl) (.inl ⟨_, _, _, _, _, by simp [gCode], rfl, rfl⟩) fun h => h.push rfl
theorem af_next (W : Wd w b c) (hk : KT.Holds h₁ 1 0 (ktop w.params)) (hL : L ≤ 7) (hA : Lev L A) {R : Result → Shared → Prop} {tk : Addr} {items : List Value} {n : Nat} {td : List Tk} {T1 : Store}
    (htk : h₁.get? tk = some (listObj items n)) (hT1 : ∀ p ∈ T1, h₁.get? p.1 = some p.2) (htd : All2 (TkIn T1) items td) (hok : ∀ t ∈ td, TokOk t) {Sx T : Store} {vs : List Value} {h : Heap} {tkn : Nat} {I : Addr} {no : Nat} {g : Array GenState}
    (RR : Rep h₁ h (Sx ++ T)) (hS : OStA w tk td no vs g Sx) (hg : h.IsGen I no) (hb : AllBare g)
    (finY : ∀ v vs', vs = v :: vs' → ∀ h' g' tk' y mt Sx', Rep h₁ h' ((y, tupObj [v, .str msg4 mt] 0) :: (Sx' ++ T)) → OStA w tk td no vs' g' Sx' → AllBare g' → R (.ok (.ret (.ref y))) ⟨h', g', d, tk', os⟩)
    (finE : vs = [] → ∀ h' g' tk' e t, Rep h₁ h' ((e, stopObj t) :: (t, tupObj [] 0) :: T) → AllBare g' → R (.error (.ref e)) ⟨h', g', d, tk', os⟩) :
    wpAny (model prg w) A (.call (.call (.builtin "generator.__next__") ⟨[.ref I], []⟩) none false [] Sem.pure) R (fun _ _ => False) ⟨h, g, d, tkn, os⟩ := by
  have hlim := no_limit (hk.keeps RR.keep)
  have hA1 := hA.in1
  have m1 := fun fo ga => afMd_ok w fo ga
  simp only [Bool.and_eq_true] at m1
  have K0 := kn_none (b := b) (c := c) hk
  have fY : ∀ (g1 : Array GenState) (ni : Nat), AllBare g1 → no ≠ ni → no < g1.size → ni < g1.size → ∀ fo ga p v vs', vs = v :: vs' → ∀ h' tk' y mt q1 q2 q3 q4 gi p', Rep h₁ h' ((y, tupObj [v, .str msg4 mt] 0) :: q1 :: q2 :: q3 :: q4 :: T) → afSusp w tk td ni vs' (afGs w fo ga p y p') gi q1 q2 q3 q4 →
      R (.ok (.ret (.ref y))) ⟨h', (g1.setIfInBounds ni gi).setIfInBounds no (afGs w fo ga p y p'), d, tk', os⟩ := by
    intro g1 ni hb1 hne hno hni fo ga p v vs' e h' tk' y mt q1 q2 q3 q4 gi p' R' hsu
    have hgi : gi.bare = true := by
      obtain ⟨_, _, _, _, _, _, _, _, _, _, _, _, _, _, _, _, _, _, _, _, _, _, _, hi, _⟩ := hsu
      exact isusp_bare hi
    refine finY v vs' e h' _ tk' y mt [q1, q2, q3, q4] R' (.inr ⟨ni, _, gi, q1, q2, q3, q4, ?_, ?_, hne, rfl, hsu⟩) (bare_set (bare_set hb1 hgi) rfl)
    · simp [hno]
    · rw [set_ne hne]; simp [hni]
  have fE : ∀ (g1 : Array GenState), AllBare g1 → vs = [] → ∀ h' tk', Rep h₁ h' T → (Except.ok (Flow.ret Value.none) : Result) = .ok (.ret .none) ∧ R (.error (.ref (h'.objs.size + 1))) ⟨(h'.push (tupObj [] 0)).push (stopObj h'.objs.size), g1.setIfInBounds no .finished, d, tk', os⟩ := by
    intro g1 hb1 e h' tk' R'
    refine ⟨rfl, ?_⟩
    have r2 := (R'.alloc (o := tupObj [] 0) rfl).alloc (o := stopObj h'.objs.size) rfl
    have e9 : (h'.push (tupObj [] 0)).objs.size = h'.objs.size + 1 := Heap.size_push ..
    rw [e9] at r2
    exact finE e _ _ _ _ _ r2 (bare_set hb1 rfl)
  rcases hS with ⟨fo, t0, u, t1, t3, hgo, rfl, hvs⟩ | ⟨ni, go, gi, q1, q2, q3, q4, hgo, hgi, hne, rfl, fo, ga, p, y, p', t, ps, kk, x, k, kt, s, u, pv, lb, uc, sa, rest, gn, gq, rfl, rfl, rfl, hsu, hvs⟩
  · have hno := (Array.getElem?_eq_some_iff.mp hgo).1
    refine gen_next hlim (by omega) hA hg hgo (c₀ := gCode w 187 fo) (t₀ := zdenote (gCode w 187 fo)) (.inl ⟨rfl, by rw [zdenote_eq], rfl⟩) ?_
    have hm : MdOk (L + 1) A.in1 (.seg (gCode w 187 fo) [] (zdenote (gCode w 187 fo)) : Md Result) := seg_fit hA rfl rfl
    have fo_ok := afFunc_ok w fo tk
    simp only [Prod.mk.injEq] at fo_ok
    have hm1 : MdOk (L + 1) A.in1 (afFuncMd w fo tk) := md_seg_ok (c := gCode w 187 fo) (fs := []) (t := mdTree (afFuncMd w fo tk)) (by kernel_rfl) (seg_fit hA rfl rfl)
    have z := by_runs (g := g.setIfInBounds no .running) (d := d) (os := os) (Q := fun _ _ => False) (E := fun _ _ => False) (Pe := fun e s₁ => match e with
        | .susp v _ _ _ _ _ _ => R (.ok (.ret v)) (s₁.setGen no e.genState)
        | .ret r => r = .ok (.ret .none) ∧ R (.error (.ref (s₁.heap.objs.size + 1))) { s₁.setGen no .finished with heap := (s₁.heap.push (tupObj [] 0)).push (stopObj s₁.heap.objs.size) })
      (tk := tkn) W K0 (by omega) hA1 (fun ad => afFunc_run w b c ad fo tk t0 u t1 t3 T) hm rfl RR ot_nil fun ad h1 tk1 R1 => ms_call (by omega) hA1 hm1 fo_ok.1 fun A2 hA2 => by
        rw [fo_ok.2.1]
        refine inner_make W hk (by omega) hA2 R1 fun h2 tk2 ga fi ti gn gq R2 => ?_
        refine by_runs W K0 (by omega) hA1 (fun ad => afIter_run w b c ad fo tk ga (g.setIfInBounds no .running).size gn gq _) (cont_ok hm1) rfl R2 ot_nil fun ad3 h3 tk3 R3 => ?_
        refine seg_enter (m1 fo ga).1 fun p => ?_
        have hsz : (g.setIfInBounds no .running).size = g.size := by simp
        have hsz2 : ((g.setIfInBounds no .running).push (GenState.fresh (gCode w 173 fi))).size = g.size + 1 := by simp
        have sg := af_seg (Q := fun _ _ => False) (E := fun _ _ => False) (Pe := fun e s₁ => match e with
        | .susp v _ _ _ _ _ _ => R (.ok (.ret v)) (s₁.setGen no e.genState)
        | .ret r => r = .ok (.ret .none) ∧ R (.error (.ref (s₁.heap.objs.size + 1))) { s₁.setGen no .finished with heap := (s₁.heap.push (tupObj [] 0)).push (stopObj s₁.heap.objs.size) }) (g := (g.setIfInBounds no .running).push (.fresh (gCode w 173 fi))) (d := d) (os := os) (p := p) (fo := fo) (ga := ga) W hk hL hA htk hT1 htd hok (ni := (g.setIfInBounds no .running).size) (by simp) (gn := gn) (gq := gq) (T := T) (goC false true none td) (S := [(fi, frm [ent w "tokens" ti (.ref tk)] 1)]) (gs := .fresh (gCode w 173 fi)) (tkn := tk3) (ps := none) (o := none) R3 (.inl ⟨fi, ti, rfl, rfl, rfl⟩) ?_ ?_
        · rw [push_set] at sg
          exact sg
        · intro v vs' e h' tk' y mt q1 q2 q3 q4 gi p' R' hsu
          show R _ ⟨h', (((g.setIfInBounds no .running).push (GenState.fresh (gCode w 173 fi))).setIfInBounds _ gi).setIfInBounds no _, d, tk', os⟩
          rw [afGs_eq]
          exact fY _ _ ((bare_set hb rfl).push rfl) (by omega) (by omega) (by omega) fo ga p v vs' (hvs.trans e) h' tk' y mt q1 q2 q3 q4 gi p' R' hsu
        · intro e h' tk' R'
          exact fE _ (bare_set ((bare_set hb rfl).push rfl) rfl) (hvs.trans e) h' tk' R'
    exact z
  · have hno := (Array.getElem?_eq_some_iff.mp hgo).1
    have hni := (Array.getElem?_eq_some_iff.mp hgi).1
    have yo := afYield_ok w fo ga p y
    simp only [Prod.mk.injEq] at yo
    refine gen_next hlim (by omega) hA hg hgo (c₀ := mdCode (afYield w fo ga p y)) (t₀ := ykOf (afYield w fo ga p y) (.send .none)) (fs₀ := mdFs (afYield w fo ga p y)) (.inr ⟨_, _, _, _, rfl, rfl⟩) ?_
    have hm : MdOk (L + 1) A.in1 (afWoken w fo ga p y) := by
      show SegOk (L + 1) A.in1 (mdCode (afYield w fo ga p y)) (mdFs (afYield w fo ga p y))
      rw [yo.2.2.1, yo.2.2.2]
      exact seg_fit hA (m1 fo ga).2.1 (afFs_ok w fo ga p)
    have z := by_runs (g := g.setIfInBounds no .running) (d := d) (os := os) (Q := fun _ _ => False) (E := fun _ _ => False) (Pe := fun e s₁ => match e with
        | .susp v _ _ _ _ _ _ => R (.ok (.ret v)) (s₁.setGen no e.genState)
        | .ret r => r = .ok (.ret .none) ∧ R (.error (.ref (s₁.heap.objs.size + 1))) { s₁.setGen no .finished with heap := (s₁.heap.push (tupObj [] 0)).push (stopObj s₁.heap.objs.size) })
      (tk := tkn) W K0 (by omega) hA1 (fun ad => afRes_run w b c ad fo ga tk p y t ps kk x k kt s u pv lb uc sa q1 q2 (ga, genO ni gn gq) T) hm rfl RR ot_nil fun ad h1 tk1 R1 => seg_again rfl (m1 fo ga).2.2 (by
        have sg := af_seg (Q := fun _ _ => False) (E := fun _ _ => False) (Pe := fun e s₁ => match e with
        | .susp v _ _ _ _ _ _ => R (.ok (.ret v)) (s₁.setGen no e.genState)
        | .ret r => r = .ok (.ret .none) ∧ R (.error (.ref (s₁.heap.objs.size + 1))) { s₁.setGen no .finished with heap := (s₁.heap.push (tupObj [] 0)).push (stopObj s₁.heap.objs.size) }) (g := g.setIfInBounds no .running) (d := d) (os := os) (p := p) (fo := fo) (ga := ga) W hk hL hA htk hT1 htd hok (ni := ni) (by simp [hni]) (gn := gn) (gq := gq) (T := T) rest (S := [q1, q2]) (gs := gi) (tkn := tk1) (ps := some sa) (R1.pick (ks := [2, 0, 1]) (k := 3) rfl) (.inr ⟨q1, q2, rfl, hsu⟩) ?_ ?_
        · have e5 : (g.setIfInBounds no .running).setIfInBounds ni gi = g.setIfInBounds no .running := set_self (by rw [set_ne hne]; exact hgi)
          rw [e5] at sg
          exact sg
        · intro v vs' e h' tk' y mt q1 q2 q3 q4 gi p' R' hsu
          show R _ ⟨h', ((g.setIfInBounds no .running).setIfInBounds ni gi).setIfInBounds no _, d, tk', os⟩
          rw [afGs_eq]
          exact fY _ _ (bare_set hb rfl) hne (by simp [hno]) (by simp [hni]) fo ga p v vs' (hvs.trans e) h' tk' y mt q1 q2 q3 q4 gi p' R' hsu
        · intro e h' tk' R'
          exact fE _ (bare_set (bare_set hb rfl) rfl) (hvs.trans e) h' tk' R')
    exact z
end
end Mine
end

section
open PySem PySem.W PySem.W.X PySem.Calls PyProof.Rows
set_option maxHeartbeats 0
namespace Mine
noncomputable def lNx (w : World) (b c : Bool) (ad : Strm) (I : Addr) (no : Nat) (x y : Value) (T : Store) : Md (Option Value) × St :=
  zrun (par w b c []) 1 (.out (zpyNext (.ref I))) ad [1] ((I, genO no x y) :: T) [] [] []
noncomputable def lNxMd (w : World) (I : Addr) : Md (Option Value) := (lNx w true true (fun _ => 0) I 0 .none .none []).1
theorem lNx_run (w : World) (b c : Bool) (ad : Strm) (I : Addr) (no : Nat) (x y : Value) (T : Store) :
    let r := lNx w b c ad I no x y T
    (r.1, r.2.obs.map Prod.fst, pickD [] 0 r.2.st) = (lNxMd w I, r.2.obs.map Prod.snd, (I, genO no x y) :: T) := by kernel_rfl
theorem lNx_ok (w : World) (I : Addr) : (isCall (lNxMd w I), codeOf (lNxMd w I)) = (true, .call (.builtin "generator.__next__") ⟨[.ref I], []⟩) := by kernel_rfl
theorem lGot (w : World) (I y : Addr) : contOf (.ok (.ret (.ref y))) (lNxMd w I) = .out (.pure (some (.ref y))) := by kernel_rfl
theorem lEnd_run (w : World) (b c : Bool) (ad : Strm) (I e t : Addr) (T : Store) :
    let r := zrun (par w b c []) 1 (contOf (.error (.ref e)) (lNxMd w I)) ad [1] ((e, stopObj t) :: (t, tupObj [] 0) :: T) [] [] []
    (r.1, r.2.obs.map Prod.fst, pickD [] 2 r.2.st) = (.out (.pure none), r.2.obs.map Prod.snd, T) := Prod.ext (by kernel_rfl) (Prod.ext (by kernel_rfl) (by kernel_rfl))
theorem lMd_ok {L : Nat} {A : Around} (w : World) (I : Addr) : MdOk L A (lNxMd w I) := md_ok (by kernel_rfl)
noncomputable def MsgV (msg : Str) (T : Store) (v u : Value) : Prop := ∃ x t, v = Value.ref x ∧ (x, tupObj [u, .str msg t] 0) ∈ T
theorem MsgV.more {msg : Str} {T T' : Store} {v u : Value} (h : MsgV msg T v u) (m : ∀ x ∈ T, x ∈ T') : MsgV msg T' v u := by
  obtain ⟨x, t, e, h⟩ := h
  exact ⟨x, t, e, m _ h⟩
section
variable {w : World} {A : Around} {L : Nat} {h₁ : Heap} {d : Drawn} {os : OsState} {b c : Bool}
theorem bf_fill (W : Wd w b c) (hk : KT.Holds h₁ 1 0 (ktop w.params)) (hL : L ≤ 5) (hA : Lev L A) {R : Result → Shared → Prop} {tk : Addr} {items : List Value} {n : Nat} {td : List Tk} {T1 : Store}
    (htk : h₁.get? tk = some (listObj items n)) (hT1 : ∀ p ∈ T1, h₁.get? p.1 = some p.2) (htd : All2 (TkIn T1) items td) (hok : ∀ t ∈ td, TokOk t) {I SL no : Nat} {gn gq res : Value} {us : List Value}
    (fin : ∀ h' g' tk' acc m T, Rep h₁ h' ((SL, listObj acc m) :: T) → All2 (MsgV msg3 T) acc us → AllBare g' → R (.ok (.ret res)) ⟨h', g', d, tk', os⟩) :
    ∀ (vs : List Value) {h : Heap} {g : Array GenState} {tkn : Nat} {acc done : List Value} {m : Nat} {Sx T : Store}, Rep h₁ h (Sx ++ ((I, genO no gn gq) :: (SL, listObj acc m) :: T)) → OStB w tk td no vs g Sx → AllBare g → All2 (MsgV msg3 T) acc done → done ++ vs = us → acc.length + vs.length ≤ 1000 →
      codeAny (model prg w) A (.builtin "list.extend.loop" ⟨[.ref SL, .ref I, res], []⟩) R ⟨h, g, d, tkn, os⟩ := by
  have hz := sizeLine_eq
  have K0 := kn_none (b := b) (c := c) hk
  have hA1 := hA.in1
  have lok := fun I => lNx_ok w I
  simp only [Prod.mk.injEq] at lok
  intro vs
  induction vs with
  | nil =>
    intro h g tkn acc done m Sx T RR hS hb ha hd hl
    refine codeAny_builtin F.entry_extend_loop ?_
    rw [Around.under_plainId F.plain_extend_loop _]
    show wpAny _ A.in1 (pyNext (.ref I) >>= _) _ _ _
    refine wpAny_bind ?_
    rw [zpyNext_eq]
    refine out_ms (by_runs W K0 (by omega) hA1 (fun ad => lNx_run w b c ad I no gn gq _) trivial rfl (RR.perm List.perm_middle) ot_nil fun ad h1 tk1 R1 => ?_)
    refine ms_call (by omega) hA1 (lMd_ok w I) (lok I).1 fun A2 hA2 => ?_
    rw [(lok I).2]
    refine bf_next W hk (by omega) hA2 htk hT1 htd hok (R1.perm List.perm_middle.symm) hS ⟨_, gn, gq, (R1.own _ (.head _)).1, rfl, rfl, rfl⟩ hb (fun v vs' e => by cases e) fun _ h2 g2 tk2 e t R2 hb2 => ?_
    refine by_runs W K0 (by omega) hA1 (fun ad => lEnd_run w b c ad I e t _) (cont_ok (lMd_ok w I)) rfl R2 ot_nil fun ad h3 tk3 R3 => wpAny_pure (wpAny_pure ?_)
    rw [List.append_nil] at hd
    subst hd
    exact fin _ _ _ acc m T (R3.drop 1) ha hb2
  | cons v vs ih =>
    intro h g tkn acc done m Sx T RR hS hb ha hd hl
    refine codeAny_builtin F.entry_extend_loop ?_
    rw [Around.under_plainId F.plain_extend_loop _]
    show wpAny _ A.in1 (pyNext (.ref I) >>= _) _ _ _
    refine wpAny_bind ?_
    rw [zpyNext_eq]
    refine out_ms (by_runs W K0 (by omega) hA1 (fun ad => lNx_run w b c ad I no gn gq _) trivial rfl (RR.perm List.perm_middle) ot_nil fun ad h1 tk1 R1 => ?_)
    refine ms_call (by omega) hA1 (lMd_ok w I) (lok I).1 fun A2 hA2 => ?_
    rw [(lok I).2]
    refine bf_next W hk (by omega) hA2 htk hT1 htd hok (R1.perm List.perm_middle.symm) hS ⟨_, gn, gq, (R1.own _ (.head _)).1, rfl, rfl, rfl⟩ hb (fun v' vs' e h2 g2 tk2 y mt Sx' R2 hS2 hb2 => ?_) (fun e => by cases e)
    obtain ⟨rfl, rfl⟩ := List.cons.inj e
    rw [lGot]
    refine wpAny_pure ?_
    have R3 := R2.perm (st' := (SL, listObj acc m) :: (Sx' ++ ((I, genO no gn gq) :: (y, tupObj [v, .str msg3 mt] 0) :: T))) (by
      refine List.Perm.trans ?_ (List.perm_middle (l₁ := Sx' ++ [(I, genO no gn gq)]) (a := (SL, listObj acc m)) (l₂ := (y, tupObj [v, .str msg3 mt] 0) :: T) |>.trans (by simp) )
      have z : ((y, tupObj [v, .str msg3 mt] 0) :: (Sx' ++ (I, genO no gn gq) :: (SL, listObj acc m) :: T)).Perm ((Sx' ++ [(I, genO no gn gq), (SL, listObj acc m)]) ++ (y, tupObj [v, .str msg3 mt] 0) :: T) := by
        have := (List.perm_middle (l₁ := Sx' ++ [(I, genO no gn gq), (SL, listObj acc m)]) (a := (y, tupObj [v, .str msg3 mt] 0)) (l₂ := T)).symm
        simpa using this
      simpa using z)
    have hSL := (R3.own _ (.head _)).1
    show wpAny _ A.in1 (updateSeq SL (·.push (.ref y)) >>= _) _ _ _
    refine wpAny_bind (wpAny_updateSeq (hz := by show acc.length ≤ _; simp at hl; omega) hSL rfl (wpAny_pure ⟨plainId_quiet F.plain_extend_loop _, ?_⟩))
    have R4 := R3.update (n := 0) (f := Obj.mapSeq (·.push (.ref y))) rfl rfl
    have e4 : Obj.mapSeq (·.push (.ref y)) (listObj acc m) = listObj (acc ++ [.ref y]) (m + 1) := by
      unfold listObj Obj.mapSeq
      simp
    dsimp only at R4
    rw [e4] at R4
    have R5 : Rep h₁ _ ((SL, listObj (acc ++ [.ref y]) (m + 1)) :: (Sx' ++ ((I, genO no gn gq) :: (y, tupObj [v, .str msg3 mt] 0) :: T))) := R4
    refine ih (acc := acc ++ [.ref y]) (done := done ++ [v]) (m := m + 1) (Sx := Sx') (T := (y, tupObj [v, .str msg3 mt] 0) :: T) (R5.perm ?_) hS2 hb2 ?_ (by rw [← hd]; simp) (by simp at hl ⊢; omega)
    · have z := (List.perm_middle (l₁ := Sx' ++ [(I, genO no gn gq)]) (a := (SL, listObj (acc ++ [.ref y]) (m + 1))) (l₂ := (y, tupObj [v, .str msg3 mt] 0) :: T)).symm
      simpa using z
    · exact (ha.imp fun a b h => h.more fun x hx => .tail _ hx).snoc ⟨y, mt, rfl, .head _⟩
theorem bf_list (W : Wd w b c) (hk : KT.Holds h₁ 1 0 (ktop w.params)) (hL : L ≤ 4) (hA : Lev L A) {R : Result → Shared → Prop} {tk : Addr} {items : List Value} {n : Nat} {td : List Tk} {T1 : Store}
    (htk : h₁.get? tk = some (listObj items n)) (hT1 : ∀ p ∈ T1, h₁.get? p.1 = some p.2) (htd : All2 (TkIn T1) items td) (hok : ∀ t ∈ td, TokOk t) {I no : Nat} {gn gq : Value} {vs : List Value} {h : Heap} {g : Array GenState} {tkn : Nat} {Sx T : Store}
    (RR : Rep h₁ h (Sx ++ ((I, genO no gn gq) :: T))) (hS : OStB w tk td no vs g Sx) (hb : AllBare g) (hl : vs.length ≤ 1000)
    (fin : ∀ h' g' tk' SL acc m T', Rep h₁ h' ((SL, listObj acc m) :: T') → All2 (MsgV msg3 T') acc vs → AllBare g' → R (.ok (.ret (.ref SL))) ⟨h', g', d, tk', os⟩) :
    wpAny (model prg w) A (.call (.call (.type "list") ⟨[.ref I], []⟩) none false [] Sem.pure) R (fun _ _ => False) ⟨h, g, d, tkn, os⟩ := by
  have hz := sizeLine_eq
  have r0 := RR.alloc (o := listObj [] 0) rfl
  refine orc_call (callType_codes (Q₁ := fun obj s₁ => obj = .ref h.objs.size ∧ s₁ = ⟨h.push (listObj [] 0), g, d, tkn, os⟩) F.called_list (F.typeCall_list_1 _) F.entry_list_init (code_list_new _ ⟨rfl, rfl⟩) fun obj s₁ h₁' => ?_)
  obtain ⟨rfl, rfl⟩ := h₁'
  have hS0 := (r0.own _ (.head _)).1
  have hI : (h.push (listObj [] 0)).IsGen I no := ⟨_, gn, gq, (r0.own _ (.tail _ (List.mem_append_right _ (.head _)))).1, rfl, rfl, rfl⟩
  have hSI : h.objs.size ≠ I := by
    have nd := r0.nd
    rw [List.map_cons, List.nodup_cons] at nd
    intro e
    refine nd.1 ?_
    show h.objs.size ∈ _
    rw [e]
    exact List.mem_map_of_mem (List.mem_append_right _ (.head _) : (I, genO no gn gq) ∈ Sx ++ ((I, genO no gn gq) :: T))
  refine ⟨⟨_, hS0, rfl⟩, F.args_list_init_2 _ _, ?_⟩
  show wpAny _ A.in1.in1 (do let old ← Builtin.List.listItems (.ref h.objs.size); Builtin.List.listUpdate (.ref h.objs.size) (fun _ => #[]); letGo old.toList.reverse; Builtin.List.listExtendWith (.ref h.objs.size) (.ref I) .none) _ _ _
  refine wpAny_bind ?_
  unfold Builtin.List.listItems
  refine wpAny_bind (wpAny_seqItems hS0 rfl (wpAny_pure ?_))
  show wpAny _ A.in1.in1 (updateSeq h.objs.size (fun _ => #[]) >>= fun _ => letGo (#[] : Array Value).toList.reverse >>= fun _ => Builtin.List.listExtendWith (.ref h.objs.size) (.ref I) .none) _ _ _
  have r1 := r0.update (n := 0) (f := Obj.mapSeq (fun _ => (#[] : Array Value))) rfl rfl
  have e1 : Obj.mapSeq (fun _ => (#[] : Array Value)) (listObj [] 0) = listObj [] 0 := rfl
  dsimp only at r1
  rw [e1] at r1
  refine wpAny_bind (wpAny_updateSeq hS0 rfl ?_)
  refine wpAny_bind (wpAny_letGo ?_)
  have hI1 : ((h.push (listObj [] 0)).update h.objs.size (Obj.mapSeq fun _ => (#[] : Array Value))).IsGen I no := ⟨_, gn, gq, (r1.own _ (.tail _ (List.mem_append_right _ (.head _)))).1, rfl, rfl, rfl⟩
  unfold Builtin.List.listExtendWith
  refine wpAny_bind (wpAny_typeOf hI1.typeIs ?_)
  have h1 : Builtin.List.listSameRef (.ref h.objs.size) (.ref I) = false := by simp [Builtin.List.listSameRef, hSI]
  have h2 : (Value.type "generator" == Value.type "list") = false := by decide
  have h3 : (Value.type "generator" == Value.type "tuple") = false := by decide
  simp only [h1, h2, h3, Bool.or_false, Bool.false_eq_true, if_false]
  refine wpAny_bind (wpAny_pyIter_gen hI1 ?_)
  refine wpAny_bind (wpAny_holding ?_)
  unfold Builtin.List.listLengthHint
  refine wpAny_bind (wpAny_specialOf hI1.typeIs F.gen_no_len ?_)
  show wpAny _ A.in1.in1 (specialOf (Value.ref I) (Str.ofString "__length_hint__") >>= _) _ _ _
  refine wpAny_bind (wpAny_specialOf hI1.typeIs F.gen_no_hint ?_)
  refine wpAny_pure ?_
  show wpAny _ A.in1.in1 (rule "list.extend.makes-room" >>= fun _ => Builtin.List.listTouch (.ref h.objs.size) >>= fun _ =>
    again (.builtin "list.extend.loop" ⟨[.ref h.objs.size, .ref I, .none], []⟩)) _ _ _
  refine wpAny_bind (wpAny_rule ?_)
  refine wpAny_bind ?_
  show wpAny _ A.in1.in1 (updateSeq h.objs.size (·.push .none) >>= fun _ => updateSeq h.objs.size (·.pop)) _ _ _
  refine wpAny_bind (wpAny_updateSeq (r1.own _ (.head _)).1 rfl ?_)
  have r2 := r1.update (n := 0) (f := Obj.mapSeq (·.push .none)) rfl rfl
  have e2 : Obj.mapSeq (·.push .none) (listObj [] 0) = listObj [.none] 1 := rfl
  dsimp only at r2
  rw [e2] at r2
  refine wpAny_updateSeq (hz := by seq_fits) (r2.own _ (.head _)).1 rfl ?_
  have r3 := r2.update (n := 0) (f := Obj.mapSeq (·.pop)) rfl rfl
  have e3 : Obj.mapSeq (·.pop) (listObj [.none] 1) = listObj [] 2 := rfl
  dsimp only at r3
  rw [e3] at r3
  refine wpAny_pure ⟨plainId_quiet F.plain_extend_loop _, ?_⟩
  have r4 : Rep h₁ _ ((h.objs.size, listObj [] 2) :: (Sx ++ (I, genO no gn gq) :: T)) := r3
  refine bf_fill (L := L + 1) W hk (by omega) hA.in1 htk hT1 htd hok (I := I) (SL := h.objs.size) (no := no) (gn := gn) (gq := gq) (res := .none) (us := vs) (fun h' g' tk' acc m T' R' ha hb' => ⟨rfl, fin h' g' tk' h.objs.size acc m T' R' ha hb'⟩) vs (acc := []) (done := []) (m := 2) (Sx := Sx) (T := T) (r4.perm ?_) hS hb .nil rfl (by simpa using hl)
  have z := (List.perm_middle (l₁ := Sx ++ [(I, genO no gn gq)]) (a := (h.objs.size, listObj [] 2)) (l₂ := T)).symm
  simpa using z
end
section
variable {w : World} {A : Around} {L : Nat} {h₁ : Heap} {d : Drawn} {os : OsState} {b c : Bool}
theorem af_fill (W : Wd w b c) (hk : KT.Holds h₁ 1 0 (ktop w.params)) (hL : L ≤ 5) (hA : Lev L A) {R : Result → Shared → Prop} {tk : Addr} {items : List Value} {n : Nat} {td : List Tk} {T1 : Store}
    (htk : h₁.get? tk = some (listObj items n)) (hT1 : ∀ p ∈ T1, h₁.get? p.1 = some p.2) (htd : All2 (TkIn T1) items td) (hok : ∀ t ∈ td, TokOk t) {I SL no : Nat} {gn gq res : Value} {us : List Value}
    (fin : ∀ h' g' tk' acc m T, Rep h₁ h' ((SL, listObj acc m) :: T) → All2 (MsgV msg4 T) acc us → AllBare g' → R (.ok (.ret res)) ⟨h', g', d, tk', os⟩) :
    ∀ (vs : List Value) {h : Heap} {g : Array GenState} {tkn : Nat} {acc done : List Value} {m : Nat} {Sx T : Store}, Rep h₁ h (Sx ++ ((I, genO no gn gq) :: (SL, listObj acc m) :: T)) → OStA w tk td no vs g Sx → AllBare g → All2 (MsgV msg4 T) acc done → done ++ vs = us → acc.length + vs.length ≤ 1000 →
      codeAny (model prg w) A (.builtin "list.extend.loop" ⟨[.ref SL, .ref I, res], []⟩) R ⟨h, g, d, tkn, os⟩ := by
  have hz := sizeLine_eq
  have K0 := kn_none (b := b) (c := c) hk
  have hA1 := hA.in1
  have lok := fun I => lNx_ok w I
  simp only [Prod.mk.injEq] at lok
  intro vs
  induction vs with
  | nil =>
    intro h g tkn acc done m Sx T RR hS hb ha hd hl
    refine codeAny_builtin F.entry_extend_loop ?_
    rw [Around.under_plainId F.plain_extend_loop _]
    show wpAny _ A.in1 (pyNext (.ref I) >>= _) _ _ _
    refine wpAny_bind ?_
    rw [zpyNext_eq]
    refine out_ms (by_runs W K0 (by omega) hA1 (fun ad => lNx_run w b c ad I no gn gq _) trivial rfl (RR.perm List.perm_middle) ot_nil fun ad h1 tk1 R1 => ?_)
    refine ms_call (by omega) hA1 (lMd_ok w I) (lok I).1 fun A2 hA2 => ?_
    rw [(lok I).2]
    refine af_next W hk (by omega) hA2 htk hT1 htd hok (R1.perm List.perm_middle.symm) hS ⟨_, gn, gq, (R1.own _ (.head _)).1, rfl, rfl, rfl⟩ hb (fun v vs' e => by cases e) fun _ h2 g2 tk2 e t R2 hb2 => ?_
    refine by_runs W K0 (by omega) hA1 (fun ad => lEnd_run w b c ad I e t _) (cont_ok (lMd_ok w I)) rfl R2 ot_nil fun ad h3 tk3 R3 => wpAny_pure (wpAny_pure ?_)
    rw [List.append_nil] at hd
    subst hd
    exact fin _ _ _ acc m T (R3.drop 1) ha hb2
  | cons v vs ih =>
    intro h g tkn acc done m Sx T RR hS hb ha hd hl
    refine codeAny_builtin F.entry_extend_loop ?_
    rw [Around.under_plainId F.plain_extend_loop _]
    show wpAny _ A.in1 (pyNext (.ref I) >>= _) _ _ _
    refine wpAny_bind ?_
    rw [zpyNext_eq]
    refine out_ms (by_runs W K0 (by omega) hA1 (fun ad => lNx_run w b c ad I no gn gq _) trivial rfl (RR.perm List.perm_middle) ot_nil fun ad h1 tk1 R1 => ?_)
    refine ms_call (by omega) hA1 (lMd_ok w I) (lok I).1 fun A2 hA2 => ?_
    rw [(lok I).2]
    refine af_next W hk (by omega) hA2 htk hT1 htd hok (R1.perm List.perm_middle.symm) hS ⟨_, gn, gq, (R1.own _ (.head _)).1, rfl, rfl, rfl⟩ hb (fun v' vs' e h2 g2 tk2 y mt Sx' R2 hS2 hb2 => ?_) (fun e => by cases e)
    obtain ⟨rfl, rfl⟩ := List.cons.inj e
    rw [lGot]
    refine wpAny_pure ?_
    have R3 := R2.perm (st' := (SL, listObj acc m) :: (Sx' ++ ((I, genO no gn gq) :: (y, tupObj [v, .str msg4 mt] 0) :: T))) (by
      refine List.Perm.trans ?_ (List.perm_middle (l₁ := Sx' ++ [(I, genO no gn gq)]) (a := (SL, listObj acc m)) (l₂ := (y, tupObj [v, .str msg4 mt] 0) :: T) |>.trans (by simp) )
      have z : ((y, tupObj [v, .str msg4 mt] 0) :: (Sx' ++ (I, genO no gn gq) :: (SL, listObj acc m) :: T)).Perm ((Sx' ++ [(I, genO no gn gq), (SL, listObj acc m)]) ++ (y, tupObj [v, .str msg4 mt] 0) :: T) := by
        have := (List.perm_middle (l₁ := Sx' ++ [(I, genO no gn gq), (SL, listObj acc m)]) (a := (y, tupObj [v, .str msg4 mt] 0)) (l₂ := T)).symm
        simpa using this
      simpa using z)
    have hSL := (R3.own _ (.head _)).1
    show wpAny _ A.in1 (updateSeq SL (·.push (.ref y)) >>= _) _ _ _
    refine wpAny_bind (wpAny_updateSeq (hz := by show acc.length ≤ _; simp at hl; omega) hSL rfl (wpAny_pure ⟨plainId_quiet F.plain_extend_loop _, ?_⟩))
    have R4 := R3.update (n := 0) (f := Obj.mapSeq (·.push (.ref y))) rfl rfl
    have e4 : Obj.mapSeq (·.push (.ref y)) (listObj acc m) = listObj (acc ++ [.ref y]) (m + 1) := by
      unfold listObj Obj.mapSeq
      simp
    dsimp only at R4
    rw [e4] at R4
    have R5 : Rep h₁ _ ((SL, listObj (acc ++ [.ref y]) (m + 1)) :: (Sx' ++ ((I, genO no gn gq) :: (y, tupObj [v, .str msg4 mt] 0) :: T))) := R4
    refine ih (acc := acc ++ [.ref y]) (done := done ++ [v]) (m := m + 1) (Sx := Sx') (T := (y, tupObj [v, .str msg4 mt] 0) :: T) (R5.perm ?_) hS2 hb2 ?_ (by rw [← hd]; simp) (by simp at hl ⊢; omega)
    · have z := (List.perm_middle (l₁ := Sx' ++ [(I, genO no gn gq)]) (a := (SL, listObj (acc ++ [.ref y]) (m + 1))) (l₂ := (y, tupObj [v, .str msg4 mt] 0) :: T)).symm
      simpa using z
    · exact (ha.imp fun a b h => h.more fun x hx => .tail _ hx).snoc ⟨y, mt, rfl, .head _⟩
theorem af_list (W : Wd w b c) (hk : KT.Holds h₁ 1 0 (ktop w.params)) (hL : L ≤ 4) (hA : Lev L A) {R : Result → Shared → Prop} {tk : Addr} {items : List Value} {n : Nat} {td : List Tk} {T1 : Store}
    (htk : h₁.get? tk = some (listObj items n)) (hT1 : ∀ p ∈ T1, h₁.get? p.1 = some p.2) (htd : All2 (TkIn T1) items td) (hok : ∀ t ∈ td, TokOk t) {I no : Nat} {gn gq : Value} {vs : List Value} {h : Heap} {g : Array GenState} {tkn : Nat} {Sx T : Store}
    (RR : Rep h₁ h (Sx ++ ((I, genO no gn gq) :: T))) (hS : OStA w tk td no vs g Sx) (hb : AllBare g) (hl : vs.length ≤ 1000)
    (fin : ∀ h' g' tk' SL acc m T', Rep h₁ h' ((SL, listObj acc m) :: T') → All2 (MsgV msg4 T') acc vs → AllBare g' → R (.ok (.ret (.ref SL))) ⟨h', g', d, tk', os⟩) :
    wpAny (model prg w) A (.call (.call (.type "list") ⟨[.ref I], []⟩) none false [] Sem.pure) R (fun _ _ => False) ⟨h, g, d, tkn, os⟩ := by
  have hz := sizeLine_eq
  have r0 := RR.alloc (o := listObj [] 0) rfl
  refine orc_call (callType_codes (Q₁ := fun obj s₁ => obj = .ref h.objs.size ∧ s₁ = ⟨h.push (listObj [] 0), g, d, tkn, os⟩) F.called_list (F.typeCall_list_1 _) F.entry_list_init (code_list_new _ ⟨rfl, rfl⟩) fun obj s₁ h₁' => ?_)
  obtain ⟨rfl, rfl⟩ := h₁'
  have hS0 := (r0.own _ (.head _)).1
  have hI : (h.push (listObj [] 0)).IsGen I no := ⟨_, gn, gq, (r0.own _ (.tail _ (List.mem_append_right _ (.head _)))).1, rfl, rfl, rfl⟩
  have hSI : h.objs.size ≠ I := by
    have nd := r0.nd
    rw [List.map_cons, List.nodup_cons] at nd
    intro e
    refine nd.1 ?_
    show h.objs.size ∈ _
    rw [e]
    exact List.mem_map_of_mem (List.mem_append_right _ (.head _) : (I, genO no gn gq) ∈ Sx ++ ((I, genO no gn gq) :: T))
  refine ⟨⟨_, hS0, rfl⟩, F.args_list_init_2 _ _, ?_⟩
  show wpAny _ A.in1.in1 (do let old ← Builtin.List.listItems (.ref h.objs.size); Builtin.List.listUpdate (.ref h.objs.size) (fun _ => #[]); letGo old.toList.reverse; Builtin.List.listExtendWith (.ref h.objs.size) (.ref I) .none) _ _ _
  refine wpAny_bind ?_
  unfold Builtin.List.listItems
  refine wpAny_bind (wpAny_seqItems hS0 rfl (wpAny_pure ?_))
  show wpAny _ A.in1.in1 (updateSeq h.objs.size (fun _ => #[]) >>= fun _ => letGo (#[] : Array Value).toList.reverse >>= fun _ => Builtin.List.listExtendWith (.ref h.objs.size) (.ref I) .none) _ _ _
  have r1 := r0.update (n := 0) (f := Obj.mapSeq (fun _ => (#[] : Array Value))) rfl rfl
  have e1 : Obj.mapSeq (fun _ => (#[] : Array Value)) (listObj [] 0) = listObj [] 0 := rfl
  dsimp only at r1
  rw [e1] at r1
  refine wpAny_bind (wpAny_updateSeq hS0 rfl ?_)
  refine wpAny_bind (wpAny_letGo ?_)
  have hI1 : ((h.push (listObj [] 0)).update h.objs.size (Obj.mapSeq fun _ => (#[] : Array Value))).IsGen I no := ⟨_, gn, gq, (r1.own _ (.tail _ (List.mem_append_right _ (.head _)))).1, rfl, rfl, rfl⟩
  unfold Builtin.List.listExtendWith
  refine wpAny_bind (wpAny_typeOf hI1.typeIs ?_)
  have h1 : Builtin.List.listSameRef (.ref h.objs.size) (.ref I) = false := by simp [Builtin.List.listSameRef, hSI]
  have h2 : (Value.type "generator" == Value.type "list") = false := by decide
  have h3 : (Value.type "generator" == Value.type "tuple") = false := by decide
  simp only [h1, h2, h3, Bool.or_false, Bool.false_eq_true, if_false]
  refine wpAny_bind (wpAny_pyIter_gen hI1 ?_)
  refine wpAny_bind (wpAny_holding ?_)
  unfold Builtin.List.listLengthHint
  refine wpAny_bind (wpAny_specialOf hI1.typeIs F.gen_no_len ?_)
  show wpAny _ A.in1.in1 (specialOf (Value.ref I) (Str.ofString "__length_hint__") >>= _) _ _ _
  refine wpAny_bind (wpAny_specialOf hI1.typeIs F.gen_no_hint ?_)
  refine wpAny_pure ?_
  show wpAny _ A.in1.in1 (rule "list.extend.makes-room" >>= fun _ => Builtin.List.listTouch (.ref h.objs.size) >>= fun _ =>
    again (.builtin "list.extend.loop" ⟨[.ref h.objs.size, .ref I, .none], []⟩)) _ _ _
  refine wpAny_bind (wpAny_rule ?_)
  refine wpAny_bind ?_
  show wpAny _ A.in1.in1 (updateSeq h.objs.size (·.push .none) >>= fun _ => updateSeq h.objs.size (·.pop)) _ _ _
  refine wpAny_bind (wpAny_updateSeq (r1.own _ (.head _)).1 rfl ?_)
  have r2 := r1.update (n := 0) (f := Obj.mapSeq (·.push .none)) rfl rfl
  have e2 : Obj.mapSeq (·.push .none) (listObj [] 0) = listObj [.none] 1 := rfl
  dsimp only at r2
  rw [e2] at r2
  refine wpAny_updateSeq (hz := by seq_fits) (r2.own _ (.head _)).1 rfl ?_
  have r3 := r2.update (n := 0) (f := Obj.mapSeq (·.pop)) rfl rfl
  have e3 : Obj.mapSeq (·.pop) (listObj [.none] 1) = listObj [] 2 := rfl
  dsimp only at r3
  rw [e3] at r3
  refine wpAny_pure ⟨plainId_quiet F.plain_extend_loop _, ?_⟩
  have r4 : Rep h₁ _ ((h.objs.size, listObj [] 2) :: (Sx ++ (I, genO no gn gq) :: T)) := r3
  refine af_fill (L := L + 1) W hk (by omega) hA.in1 htk hT1 htd hok (I := I) (SL := h.objs.size) (no := no) (gn := gn) (gq := gq) (res := .none) (us := vs) (fun h' g' tk' acc m T' R' ha hb' => ⟨rfl, fin h' g' tk' h.objs.size acc m T' R' ha hb'⟩) vs (acc := []) (done := []) (m := 2) (Sx := Sx) (T := T) (r4.perm ?_) hS hb .nil rfl (by simpa using hl)
  have z := (List.perm_middle (l₁ := Sx ++ [(I, genO no gn gq)]) (a := (h.objs.size, listObj [] 2)) (l₂ := T)).symm
  simpa using z
end
end Mine
end

section
open PySem PySem.W PySem.W.X PySem.Calls PyProof.Rows PySem.SeqAt
set_option maxHeartbeats 0
namespace Mine
noncomputable def MsgH (msg : Str) (h : Heap) (v u : Value) : Prop := ∃ x t, v = Value.ref x ∧ h.get? x = some (tupObj [u, .str msg t] 0)
section
variable {w : World} {A : Around} {L : Nat}
theorem msg_at {s : Shared} {msg : Str} {v1 v2 u : Value} (hu : A.units + 1 < cLine) (h1 : MsgH msg s.heap v1 u) (h2 : MsgH msg s.heap v2 u) : EqAt A.in1 s v1 v2 true := by
  obtain ⟨x, t, rfl, g1⟩ := h1
  obtain ⟨y, t', rfl, g2⟩ := h2
  by_cases e : x = y
  · subst e; exact EqAt.same _
  · have z := RcAt.tuples (A := A.in1) (s := s) (l := x) (b := y) (items := #[u, .str msg t]) (items2 := #[u, .str msg t']) (e := fun _ => true) ⟨_, g1, rfl, 0, rfl⟩ ⟨_, g2, rfl, 0, rfl⟩ hu (fun j j1 j2 => ?_)
    · exact EqAt.of_refs e z
    · match j with
      | 0 => exact EqAt.same _
      | 1 =>
        have q := SeqRoads2.EqGives.str msg msg t t'
        rw [beq_self_eq_true] at q
        exact q.at _ _
      | j + 2 => exact absurd j1 (by show ¬ (j + 2 < 2); omega)
theorem msgs_at {s : Shared} {msg : Str} (hu : A.units + 1 < cLine) : ∀ {as bs us : List Value}, All2 (MsgH msg s.heap) as us → All2 (MsgH msg s.heap) bs us →
    ∀ j (h1 : j < (⟨as⟩ : Array Value).size) (h2 : j < (⟨bs⟩ : Array Value).size), EqAt A.in1 s (⟨as⟩ : Array Value)[j] (⟨bs⟩ : Array Value)[j] true := by
  intro as bs us ha hb j h1 h2
  have e1 : as[j]? = some (⟨as⟩ : Array Value)[j] := by simp
  have e2 : bs[j]? = some (⟨bs⟩ : Array Value)[j] := by simp
  obtain ⟨u, q1, f1⟩ := ha.get e1
  obtain ⟨u', q2, f2⟩ := hb.get e2
  rw [q1] at q2
  cases q2
  exact msg_at hu f1 f2
theorem all_true (n : Nat) : (List.range n).all (fun _ => true) = true := by simp
theorem msgs_ne {s : Shared} {Q : Value → Shared → Prop} {E : Value → Shared → Prop} {msg : Str} {l b : Addr} {as bs us : List Value} {m n : Nat} (hA : Lev L A) (hL : L ≤ 10) (hl : s.heap.get? l = some (listObj as m)) (hb : s.heap.get? b = some (listObj bs n))
    (ha : All2 (MsgH msg s.heap) as us) (hbs : All2 (MsgH msg s.heap) bs us) (h : Q (.bool false) s) : wpAny (model prg w) A (compareOp .NotEq (.ref l) (.ref b)) Q E s := by
  have hu : A.units + 1 < cLine := by have := hA.units; show A.units + 1 < 9900; omega
  have hsz : (⟨as⟩ : Array Value).size = (⟨bs⟩ : Array Value).size := by show as.length = bs.length; rw [ha.len, hbs.len]
  refine cmp_ofNotEq (RcNeAt.lists (A := A) (s := s) (e := fun _ => true) ⟨_, hl, rfl, m, rfl⟩ ⟨_, hb, rfl, n, rfl⟩ hsz (by omega) (msgs_at hu ha hbs) prg w E Q ?_)
  rw [all_true]
  exact h
theorem msgs_eq {s : Shared} {Q : Value → Shared → Prop} {E : Value → Shared → Prop} {msg : Str} {l b : Addr} {as bs us : List Value} {m n : Nat} (hA : Lev L A) (hL : L ≤ 10) (hl : s.heap.get? l = some (listObj as m)) (hb : s.heap.get? b = some (listObj bs n))
    (ha : All2 (MsgH msg s.heap) as us) (hbs : All2 (MsgH msg s.heap) bs us) (h : Q (.bool true) s) : wpAny (model prg w) A (compareOp .Eq (.ref l) (.ref b)) Q E s := by
  have hu : A.units + 1 < cLine := by have := hA.units; show A.units + 1 < 9900; omega
  have hsz : (⟨as⟩ : Array Value).size = (⟨bs⟩ : Array Value).size := by show as.length = bs.length; rw [ha.len, hbs.len]
  refine eq_listAt (e := fun _ => true) ⟨_, hl, rfl, m, rfl⟩ ⟨_, hb, rfl, n, rfl⟩ hsz (by omega) (msgs_at hu ha hbs) ?_
  rw [all_true]
  exact h
end
end Mine
end

section
open PySem PySem.W PySem.W.X PySem.Calls PyProof.Rows
set_option maxHeartbeats 0
namespace Mine
noncomputable def wordOk (s : Str) : Bool := !((kindA s).1 == 61) && (!partS s newline && ((kindA s).1 != 3 && (!partS s ⟨#[13]⟩ && ((partS openS s == anyStr openL s) && (isBs (some s) == anyStr opsL s)))))
theorem words_ok : wordsL.all wordOk = true := by decide +kernel
theorem word_ok {s : Str} (h : s ∈ wordsL) : ((kindA s).1 == 61) = false ∧ partS s newline = false ∧ ((kindA s).1 != 3) = true ∧ partS s ⟨#[13]⟩ = false ∧ partS openS s = anyStr openL s ∧ isBs (some s) = anyStr opsL s := by
  have z := List.all_eq_true.mp words_ok s h
  simp only [wordOk, Bool.and_eq_true, Bool.not_eq_true', beq_iff_eq] at z
  obtain ⟨z1, z2, z3, z4, z5, z6⟩ := z
  exact ⟨z1, z2, z3, z4, z5, z6⟩
theorem remark_ok : ((kindA remark).1 == 61, (kindA remark).1 != 3, partS remark ⟨#[13]⟩) = (true, true, false) := by decide +kernel
theorem newline_ok : ((kindA newline).1 == 61, partS newline newline, (kindA newline).1 != 3, partS newline ⟨#[13]⟩) = (false, true, true, false) := by decide +kernel
noncomputable def ctxs (uc : Bool) (prev : Option Str) : List Pl → List Cx
  | [] => []
  | p :: l => ⟨⟨p.s, p.sa⟩, prev, p.f, uc⟩ :: ctxs (partS openS p.s) (some p.s) l
noncomputable def stP (uc : Bool) (prev : Option Str) : List Pl → Bool × Option Str
  | [] => (uc, prev)
  | p :: l => stP (partS openS p.s) (some p.s) l
theorem ctxs_app : ∀ (l m : List Pl) (uc : Bool) (prev : Option Str), ctxs uc prev (l ++ m) = ctxs uc prev l ++ ctxs (stP uc prev l).1 (stP uc prev l).2 m
  | [], _, _, _ => rfl
  | p :: l, m, uc, prev => by
    show _ :: ctxs _ _ (l ++ m) = _
    rw [ctxs_app l m]
    rfl
theorem stP_app : ∀ (l m : List Pl) (uc : Bool) (prev : Option Str), stP uc prev (l ++ m) = stP (stP uc prev l).1 (stP uc prev l).2 m
  | [], _, _, _ => rfl
  | p :: l, m, uc, prev => stP_app l m _ _
theorem goC_cons (lb uc : Bool) (prev : Option Str) (t : Tk) (l : List Tk) : goC lb uc prev (t :: l) = bif (kindA t.s).1 == 61 then goC lb uc prev l else bif partS t.s newline then goC true uc prev l else ⟨t, prev, lb, uc⟩ :: goC false (partS openS t.s) (some t.s) l := rfl
theorem go_words : ∀ (tw : List Tk) (rest : List Tk) (uc : Bool) (prev : Option Str), (∀ t ∈ tw, t.s ∈ wordsL) →
    goC false uc prev (tw ++ rest) = ctxs uc prev (tw.map fun t => ⟨t.s, t.sa, false⟩) ++ goC false (stP uc prev (tw.map fun t => ⟨t.s, t.sa, false⟩)).1 (stP uc prev (tw.map fun t => ⟨t.s, t.sa, false⟩)).2 rest
  | [], _, _, _, _ => rfl
  | t :: tw, rest, uc, prev, h => by
    obtain ⟨h1, h2, _⟩ := word_ok (h t (.head _))
    have ih := go_words tw rest (partS openS t.s) (some t.s) fun x hx => h x (.tail _ hx)
    rw [List.cons_append, goC_cons, h1, h2, cond_false, cond_false, ih]
    rfl
theorem go_row {tw rest : List Tk} {f uc : Bool} {prev : Option Str} (hne : tw ≠ []) (h : ∀ t ∈ tw, t.s ∈ wordsL) :
    goC f uc prev (tw ++ rest) = ctxs uc prev (rowPl f tw) ++ goC false (stP uc prev (rowPl f tw)).1 (stP uc prev (rowPl f tw)).2 rest := by
  cases tw with
  | nil => exact absurd rfl hne
  | cons t tw =>
    obtain ⟨h1, h2, _⟩ := word_ok (h t (.head _))
    have ih := go_words tw rest (partS openS t.s) (some t.s) fun x hx => h x (.tail _ hx)
    rw [List.cons_append, goC_cons, h1, h2, cond_false, cond_false, ih]
    rfl
theorem go_end {tr : List Tk} {nl : Tk} {b : Bool} (hr : tr.map Tk.s = (bif b then [remark] else [])) (hn : nl.s = newline) (rest : List Tk) (f uc : Bool) (prev : Option Str) : goC f uc prev (tr ++ nl :: rest) = goC true uc prev rest := by
  have no := newline_ok
  simp only [Prod.mk.injEq] at no
  have e : goC f uc prev (nl :: rest) = goC true uc prev rest := by
    rw [goC_cons, hn, no.1, no.2.1, cond_false, cond_true]
  cases b with
  | false =>
    have : tr = [] := by simpa using hr
    subst this
    exact e
  | true =>
    match tr, hr with
    | [t], hr =>
      have ht : t.s = remark := by simpa using hr
      have ro := remark_ok
      simp only [Prod.mk.injEq] at ro
      show goC f uc prev (t :: nl :: rest) = _
      rw [goC_cons, ht, ro.1, cond_true]
      exact e
    | [], hr => simp at hr
    | _ :: _ :: _, hr => simp at hr
theorem built_go {rows : List (List Str × Bool)} {td : List Tk} {P : List Pl} (B : Built rows td P) (h : ∀ p ∈ rows, p.1 ≠ [] ∧ ∀ s ∈ p.1, s ∈ wordsL) :
    ∀ rest, goC false true none (td ++ rest) = ctxs true none P ++ goC (decide (0 < rows.length)) (stP true none P).1 (stP true none P).2 rest := by
  induction B with
  | nil => intro rest; rfl
  | @snoc rows td P p tw tr nl B e1 e2 e3 ih =>
    intro rest
    have hp := h p (List.mem_append_right _ (.head _))
    have hw : ∀ t ∈ tw, t.s ∈ wordsL := fun t ht => hp.2 t.s (by rw [← e1]; exact List.mem_map_of_mem ht)
    have hne : tw ≠ [] := fun e => hp.1 (by rw [← e1, e]; rfl)
    have e4 : td ++ (tw ++ tr ++ [nl]) ++ rest = td ++ (tw ++ (tr ++ nl :: rest)) := by simp
    rw [e4, ih (fun q hq => h q (List.mem_append_left _ hq)), go_row hne hw, go_end e2 e3, ctxs_app, stP_app, List.append_assoc]
    have e5 : decide (0 < (rows ++ [p]).length) = true := by simp
    rw [e5]
theorem built_words {rows : List (List Str × Bool)} {td : List Tk} {P : List Pl} (B : Built rows td P) (h : ∀ p ∈ rows, p.1 ≠ [] ∧ ∀ s ∈ p.1, s ∈ wordsL) :
    (∀ p ∈ P, p.s ∈ wordsL) ∧ (∀ t ∈ td, TokOk t) := by
  induction B with
  | nil => exact ⟨fun _ h => (nomatch h), fun _ h => (nomatch h)⟩
  | @snoc rows td P p tw tr nl B e1 e2 e3 ih =>
    obtain ⟨i1, i2⟩ := ih fun q hq => h q (List.mem_append_left _ hq)
    have hp := h p (List.mem_append_right _ (.head _))
    have hw : ∀ t ∈ tw, t.s ∈ wordsL := fun t ht => hp.2 t.s (by rw [← e1]; exact List.mem_map_of_mem ht)
    refine ⟨fun q hq => ?_, fun t ht => ?_⟩
    · rcases List.mem_append.mp hq with q1 | q1
      · exact i1 q q1
      · cases tw with
        | nil => cases q1
        | cons t tw =>
          rcases List.mem_cons.mp q1 with q2 | q2
          · subst q2; exact hw t (.head _)
          · obtain ⟨t', ht', rfl⟩ := List.mem_map.mp q2
            exact hw t' (.tail _ ht')
    · rcases List.mem_append.mp ht with q1 | q1
      · exact i2 t q1
      · rcases List.mem_append.mp q1 with q2 | q2
        · rcases List.mem_append.mp q2 with q3 | q3
          · obtain ⟨_, _, w3, w4, _⟩ := word_ok (hw t q3)
            exact ⟨w3, w4⟩
          · have : t.s ∈ tr.map Tk.s := List.mem_map_of_mem q3
            rw [e2] at this
            have ro := remark_ok
            simp only [Prod.mk.injEq] at ro
            cases hb : p.2 with
            | true =>
              rw [hb] at this
              have e : t.s = remark := by simpa using this
              exact ⟨by rw [e]; exact ro.2.1, by rw [e]; exact ro.2.2⟩
            | false => rw [hb] at this; simp at this
        · rw [List.mem_singleton] at q2
          subst q2
          have no := newline_ok
          simp only [Prod.mk.injEq] at no
          exact ⟨by rw [e3]; exact no.2.2.1, by rw [e3]; exact no.2.2.2⟩
noncomputable def zipP (a : Pl) (l : List Pl) : List (Pl × Pl) := (a :: l).zip l
theorem out_b : ∀ (l : List Pl) (a : Pl), a.s ∈ wordsL → (∀ p ∈ l, p.s ∈ wordsL) → outB (ctxs (partS openS a.s) (some a.s) l) = ((zipP a l).flatMap fun q => pairB q.1 q.2).map Value.ref
  | [], _, _, _ => rfl
  | p :: l, a, ha, h => by
    obtain ⟨_, _, _, _, a5, a6⟩ := word_ok ha
    obtain ⟨_, _, _, _, _, p6⟩ := word_ok (h p (.head _))
    have ih := out_b l p (h p (.head _)) fun x hx => h x (.tail _ hx)
    have ez : zipP a (p :: l) = (a, p) :: zipP p l := rfl
    rw [ez, List.flatMap_cons, List.map_append, ← ih]
    show (bif (isBs (some p.s) && (p.f && (!partS openS a.s && !isBs (some a.s)))) then Value.ref p.sa :: outB _ else outB _) = _
    rw [a5, a6, p6]
    unfold pairB
    cases p.f <;> cases anyStr openL a.s <;> cases anyStr opsL p.s <;> cases anyStr opsL a.s <;> rfl
theorem out_a : ∀ (l : List Pl) (a : Pl), a.s ∈ wordsL → (∀ p ∈ l, p.s ∈ wordsL) → outA (some a.sa) (ctxs (partS openS a.s) (some a.s) l) = ((zipP a l).flatMap fun q => pairA q.1 q.2).map Value.ref
  | [], _, _, _ => rfl
  | p :: l, a, ha, h => by
    obtain ⟨_, _, _, _, a5, a6⟩ := word_ok ha
    obtain ⟨_, _, _, _, _, p6⟩ := word_ok (h p (.head _))
    have ih := out_a l p (h p (.head _)) fun x hx => h x (.tail _ hx)
    have ez : zipP a (p :: l) = (a, p) :: zipP p l := rfl
    rw [ez, List.flatMap_cons, List.map_append, ← ih]
    show (bif (isBs (some a.s) && (p.f && (!partS openS a.s && !isBs (some p.s)))) then Value.ref a.sa :: outA _ _ else outA _ _) = _
    rw [a5, a6, p6]
    unfold pairA
    cases p.f <;> cases anyStr openL a.s <;> cases anyStr opsL p.s <;> cases anyStr opsL a.s <;> rfl
theorem built_out {rows : List (List Str × Bool)} {td : List Tk} {P : List Pl} (B : Built rows td P) (h : ∀ p ∈ rows, p.1 ≠ [] ∧ ∀ s ∈ p.1, s ∈ wordsL) :
    outB (goC false true none td) = (befores P).map Value.ref ∧ outA none (goC false true none td) = (afters P).map Value.ref := by
  have g := built_go B h []
  obtain ⟨w, _⟩ := built_words B h
  have g0 : goC false true none td = ctxs true none P := by
    have e : ∀ f u pv, goC f u pv [] = [] := fun _ _ _ => rfl
    rw [List.append_nil, e, List.append_nil] at g
    exact g
  rw [g0]
  cases P with
  | nil => exact ⟨rfl, rfl⟩
  | cons p l =>
    have e1 : outB (ctxs true none (p :: l)) = outB (ctxs (partS openS p.s) (some p.s) l) := by
      show (bif (isBs (some p.s) && (p.f && (!true && !isBs none))) then _ else _) = _
      cases isBs (some p.s) <;> cases p.f <;> rfl
    have e2 : outA none (ctxs true none (p :: l)) = outA (some p.sa) (ctxs (partS openS p.s) (some p.s) l) := rfl
    rw [e1, e2]
    exact ⟨out_b l p (w p (.head _)) fun x hx => w x (.tail _ hx), out_a l p (w p (.head _)) fun x hx => w x (.tail _ hx)⟩
theorem goC_len : ∀ (td : List Tk) (f u : Bool) (pv : Option Str), (goC f u pv td).length ≤ td.length
  | [], _, _, _ => Nat.le_refl _
  | t :: td, f, u, pv => by
    unfold goC
    cases (kindA t.s).1 == 61 with
    | true => exact Nat.le_succ_of_le (goC_len td _ _ _)
    | false =>
      cases partS t.s newline with
      | true => exact Nat.le_succ_of_le (goC_len td _ _ _)
      | false => exact Nat.succ_le_succ (goC_len td _ _ _)
theorem outB_len : ∀ (l : List Cx), (outB l).length ≤ l.length
  | [] => Nat.le_refl _
  | cx :: l => by
    unfold outB
    cases selB cx with
    | true => exact Nat.succ_le_succ (outB_len l)
    | false => exact Nat.le_succ_of_le (outB_len l)
theorem outA_len : ∀ (l : List Cx) (ps : Option Addr), (outA ps l).length ≤ l.length
  | [], _ => Nat.le_refl _
  | cx :: l, ps => by
    unfold outA
    cases selA cx with
    | true => exact Nat.succ_le_succ (outA_len l _)
    | false => exact Nat.le_succ_of_le (outA_len l _)
end Mine
end

section
open PySem PySem.W PySem.W.X PySem.Calls PyProof.Rows
set_option maxHeartbeats 0
namespace Mine
noncomputable def ifTest (s : Stmt) : PySem.Expr := match s with
  | .If t _ _ _ => t
  | _ => nameX
noncomputable def ifBody (s : Stmt) : List Stmt := match s with
  | .If _ b _ _ => b
  | _ => []
noncomputable def ifPos (s : Stmt) : Pos := match s with
  | .If _ _ _ p => p
  | _ => ⟨0, 0, 0, 0⟩
theorem lawLook (w : World) : fnLook w 255 254 = fnLook' w 255 254 := by kernel_rfl
theorem lawGen (w : World) : (gFd w 255).scope.isGenerator = false := by kernel_rfl
theorem lawBind_run (w : World) (l : Addr) : zbind (gFd w 255) ⟨[.ref l], []⟩ = .pure [(S "script", .ref l)] := by kernel_rfl
theorem lawEnv_run (w : World) (b c : Bool) (ad : Strm) (l : Addr) (T : Store) :
    let r := zrun (par w b c []) 5 (.out (newEnv w 255 [(S "script", .ref l)])) ad [1, 0] T [] [] []
    (r.1, r.2.obs.map Prod.fst, pickD [] 0 r.2.st) = (.out (.pure (gEnv w 255 (ad 0))), r.2.obs.map Prod.snd, (ad 0, frm [ent w "script" (ad 1) (.ref l)] 1) :: T) := by kernel_rfl
theorem law_env (w : World) (fa : Addr) : (gEnv w 255 fa, gEnv w 255 fa) = (lEnv w fa, zEnv w fa) := by kernel_rfl
noncomputable def e5L (w : World) := leftOf (ifTest (lStmt w 4))
noncomputable def e5R (w : World) := rightOf (ifTest (lStmt w 4))
noncomputable def e6L (w : World) := leftOf (retE [lStmt w 5])
noncomputable def e6R (w : World) := rightOf (retE [lStmt w 5])
theorem law_shape (w : World) : stmtsOf (gFd w 255) = [lStmt w 0, lStmt w 1, lStmt w 2, lStmt w 3,
    .If (.Compare (e5L w) [.NotEq] [e5R w] (posOfX (ifTest (lStmt w 4)))) (ifBody (lStmt w 4)) [] (ifPos (lStmt w 4)),
    .Return (some (.Compare (e6L w) [.Eq] [e6R w] (posOfX (retE [lStmt w 5])))) (retP [lStmt w 5])] := by kernel_rfl
theorem law_marks (w : World) : (behindInMarks .NotEq (e5R w), behindInMarks .Eq (e6R w)) = (false, false) := by kernel_rfl
noncomputable def e5a (w : World) (b c : Bool) (ad : Strm) (l pl tk fa : Addr) (t1 t2 t3 : Tok) (q : LD) (e : Option LE) (T : Store) : Md Value × St :=
  zrun (par w b c [(fa, lawF4 w l pl tk t1 t2 t3 q e)]) 10 (.out (zeval (e5L w) (gEnv w 255 fa))) ad [0, 0, 0, 2, 0] T [] [] []
noncomputable def e5aMd (w : World) (fa tk : Addr) (u : Tok) : Md Value := (e5a w true true (fun _ => u) 0 0 tk fa 0 0 0 q0LD none []).1
theorem e5a_run (w : World) (b c : Bool) (ad : Strm) (l pl tk fa : Addr) (t1 t2 t3 : Tok) (q : LD) (e : Option LE) (T : Store) :
    let r := e5a w b c ad l pl tk fa t1 t2 t3 q e T
    (r.1, r.2.obs.map Prod.fst, pickD [] 0 r.2.st) = (e5aMd w fa tk (ad 0), r.2.obs.map Prod.snd, T) := by
  cases e <;> cases b <;> exact Prod.ext (by kernel_rfl) (Prod.ext (by kernel_rfl) (by kernel_rfl))
theorem e5a_call (w : World) (fa tk : Addr) (u : Tok) : (isCall (e5aMd w fa tk u) && okMd (e5aMd w fa tk u), codeOf (e5aMd w fa tk u)) = (true, .call (.ref 180) ⟨[.str ⟨#[]⟩ u, .ref tk], []⟩) := by kernel_rfl
noncomputable def e5b (w : World) (b c : Bool) (ad : Strm) (fa tk ga : Addr) (u : Tok) (T : Store) : Md Value × St := zrun (par w b c []) 2 (contOf (.ok (.ret (.ref ga))) (e5aMd w fa tk u)) ad [] T [] [] []
noncomputable def e5bMd (w : World) (fa ga : Addr) : Md Value := (e5b w true true (fun _ => 0) fa 0 ga 0 []).1
theorem e5b_run (w : World) (b c : Bool) (ad : Strm) (fa tk ga : Addr) (u : Tok) (T : Store) :
    let r := e5b w b c ad fa tk ga u T
    (r.1, r.2.obs.map Prod.fst, pickD [] 0 r.2.st) = (e5bMd w fa ga, r.2.obs.map Prod.snd, T) := by
  exact Prod.ext (by kernel_rfl) (Prod.ext (by kernel_rfl) (by kernel_rfl))
theorem e5b_call (w : World) (fa ga : Addr) : (isCall (e5bMd w fa ga) && okMd (e5bMd w fa ga), codeOf (e5bMd w fa ga)) = (true, .call (.type "list") ⟨[.ref ga], []⟩) := by kernel_rfl
theorem e5c_run (w : World) (b c : Bool) (ad : Strm) (fa ga SL : Addr) (T : Store) :
    let r := zrun (par w b c []) 1 (contOf (.ok (.ret (.ref SL))) (e5bMd w fa ga)) ad [] T [] [] []
    (r.1, r.2.obs.map Prod.fst, pickD [] 0 r.2.st) = (.out (.pure (.ref SL)), r.2.obs.map Prod.snd, T) := by
  exact Prod.ext (by kernel_rfl) (Prod.ext (by kernel_rfl) (by kernel_rfl))
theorem e5r_run (w : World) (b c : Bool) (ad : Strm) (l pl tk fa : Addr) (t1 t2 t3 : Tok) (q : LD) (e : Option LE) (T : Store) :
    let r := zrun (par w b c [(fa, lawF4 w l pl tk t1 t2 t3 q e)]) 2 (.out (zeval (e5R w) (gEnv w 255 fa))) ad [2] T [] [] []
    (r.1, r.2.obs.map Prod.fst, pickD [] 0 r.2.st) = (.out (.pure (.ref q.bf)), r.2.obs.map Prod.snd, T) := by
  cases e <;> exact Prod.ext (by kernel_rfl) (Prod.ext (by kernel_rfl) (by kernel_rfl))
noncomputable def e6a (w : World) (b c : Bool) (ad : Strm) (l pl tk fa : Addr) (t1 t2 t3 : Tok) (q : LD) (e : Option LE) (T : Store) : Md Value × St :=
  zrun (par w b c [(fa, lawF4 w l pl tk t1 t2 t3 q e)]) 10 (.out (zeval (e6L w) (gEnv w 255 fa))) ad [0, 0, 0, 2, 0] T [] [] []
noncomputable def e6aMd (w : World) (fa tk : Addr) (u : Tok) : Md Value := (e6a w true true (fun _ => u) 0 0 tk fa 0 0 0 q0LD none []).1
theorem e6a_run (w : World) (b c : Bool) (ad : Strm) (l pl tk fa : Addr) (t1 t2 t3 : Tok) (q : LD) (e : Option LE) (T : Store) :
    let r := e6a w b c ad l pl tk fa t1 t2 t3 q e T
    (r.1, r.2.obs.map Prod.fst, pickD [] 0 r.2.st) = (e6aMd w fa tk (ad 0), r.2.obs.map Prod.snd, T) := by
  cases e <;> cases b <;> exact Prod.ext (by kernel_rfl) (Prod.ext (by kernel_rfl) (by kernel_rfl))
theorem e6a_call (w : World) (fa tk : Addr) (u : Tok) : (isCall (e6aMd w fa tk u) && okMd (e6aMd w fa tk u), codeOf (e6aMd w fa tk u)) = (true, .call (.ref 187) ⟨[.str ⟨#[]⟩ u, .ref tk], []⟩) := by kernel_rfl
noncomputable def e6b (w : World) (b c : Bool) (ad : Strm) (fa tk ga : Addr) (u : Tok) (T : Store) : Md Value × St := zrun (par w b c []) 2 (contOf (.ok (.ret (.ref ga))) (e6aMd w fa tk u)) ad [] T [] [] []
noncomputable def e6bMd (w : World) (fa ga : Addr) : Md Value := (e6b w true true (fun _ => 0) fa 0 ga 0 []).1
theorem e6b_run (w : World) (b c : Bool) (ad : Strm) (fa tk ga : Addr) (u : Tok) (T : Store) :
    let r := e6b w b c ad fa tk ga u T
    (r.1, r.2.obs.map Prod.fst, pickD [] 0 r.2.st) = (e6bMd w fa ga, r.2.obs.map Prod.snd, T) := by
  exact Prod.ext (by kernel_rfl) (Prod.ext (by kernel_rfl) (by kernel_rfl))
theorem e6b_call (w : World) (fa ga : Addr) : (isCall (e6bMd w fa ga) && okMd (e6bMd w fa ga), codeOf (e6bMd w fa ga)) = (true, .call (.type "list") ⟨[.ref ga], []⟩) := by kernel_rfl
theorem e6c_run (w : World) (b c : Bool) (ad : Strm) (fa ga SL : Addr) (T : Store) :
    let r := zrun (par w b c []) 1 (contOf (.ok (.ret (.ref SL))) (e6bMd w fa ga)) ad [] T [] [] []
    (r.1, r.2.obs.map Prod.fst, pickD [] 0 r.2.st) = (.out (.pure (.ref SL)), r.2.obs.map Prod.snd, T) := by
  exact Prod.ext (by kernel_rfl) (Prod.ext (by kernel_rfl) (by kernel_rfl))
theorem e6r_run (w : World) (b c : Bool) (ad : Strm) (l pl tk fa : Addr) (t1 t2 t3 : Tok) (q : LD) (e : Option LE) (T : Store) :
    let r := zrun (par w b c [(fa, lawF4 w l pl tk t1 t2 t3 q e)]) 2 (.out (zeval (e6R w) (gEnv w 255 fa))) ad [2] T [] [] []
    (r.1, r.2.obs.map Prod.fst, pickD [] 0 r.2.st) = (.out (.pure (.ref q.af)), r.2.obs.map Prod.snd, T) := by
  cases e <;> exact Prod.ext (by kernel_rfl) (Prod.ext (by kernel_rfl) (by kernel_rfl))
end Mine
end

section
open PySem PySem.W PySem.W.X PySem.Calls PyProof.Rows
set_option maxHeartbeats 0
namespace Mine
theorem All2.mapr {α β γ : Type} {F : α → β → Prop} {G : α → γ → Prop} {f : β → γ} (h : ∀ a b, F a b → G a (f b)) : ∀ {l₁ : List α} {l₂ : List β}, All2 F l₁ l₂ → All2 G l₁ (l₂.map f)
  | _, _, .nil => .nil
  | _, _, .cons a t => .cons (h _ _ a) (t.mapr h)
section
variable {w : World} {A : Around} {L : Nat} {h₀ : Heap} {d : Drawn} {os : OsState} {b c : Bool}
theorem ms_of {α : Type} {Q : α → Shared → Prop} {E : Value → Shared → Prop} {t : Sem α} {s : Shared} (h : wpAny (model prg w) A t Q E s) : Ms prg w A Q E (fun _ _ => False) (.out t) s := h
theorem exec_one {Q : Flow → Shared → Prop} {E : Value → Shared → Prop} {i : Nat} {rest : List Stmt} {env : Env} {s : Shared} (h : Ms prg w A (fun f s' => match f with | .next => wpAny (model prg w) A (execs rest env) Q E s' | f => Q f s') E (fun _ _ => False) (.out (zexecs' [lStmt w i] env)) s) : wpAny (model prg w) A (execs (lStmt w i :: rest) env) Q E s := by
  refine execs_split ?_
  have e : execs [lStmt w i] env = zexecs' [lStmt w i] env := by rw [zexecs_eq]
  rw [e]
  exact h
theorem eval_z {Q : Value → Shared → Prop} {E : Value → Shared → Prop} {x : PySem.Expr} {env : Env} {s : Shared} (h : Ms prg w A Q E (fun _ _ => False) (.out (zeval x env)) s) : wpAny (model prg w) A (eval x env) Q E s := by
  have e : PySem.eval x env = zeval x env := by rw [zeval_eq]
  rw [e]
  exact h
structure Fin0 (w : World) (hB : Heap) (l pl tk fa : Addr) (t1 t2 t3 : Tok) (q : LD) (e : Option LE) (toks bs as : List Value) (td : List Tk) (T1 : Store) (vb va : List Value) where
  fr : hB.get? fa = some (lawF4 w l pl tk t1 t2 t3 q e)
  hto : ∃ m, hB.get? tk = some (listObj toks m)
  hbs : ∃ m, hB.get? q.bf = some (listObj bs m)
  has : ∃ m, hB.get? q.af = some (listObj as m)
  ft1 : ∀ p ∈ T1, hB.get? p.1 = some p.2
  htd : All2 (TkIn T1) toks td
  ok : ∀ t ∈ td, TokOk t
  mb : All2 (MsgH msg3 hB) bs vb
  ma : All2 (MsgH msg4 hB) as va
  ob : outB (goC false true none td) = vb
  oa : outA none (goC false true none td) = va
  few : td.length ≤ 1000
theorem msgs_keep {msg : Str} {h h' : Heap} (k : ∀ b o, h.get? b = some o → h'.get? b = some o) {vs us : List Value} (a : All2 (MsgH msg h) vs us) : All2 (MsgH msg h') vs us :=
  a.imp fun _ _ ⟨x, t, e, g⟩ => ⟨x, t, e, k _ _ g⟩
theorem msgs_own {msg : Str} {h h' : Heap} {p : Addr × Obj} {T : Store} (R : Rep h h' (p :: T)) {vs us : List Value} (a : All2 (MsgV msg T) vs us) : All2 (MsgH msg h') vs us :=
  a.imp fun _ _ ⟨x, t, e, g⟩ => ⟨x, t, e, (R.own _ (.tail _ g)).1⟩
theorem msg_ref {msg : Str} {h h' : Heap} {p1 p2 p3 : Addr × Obj} {T : Store} (R : Rep h h' (p1 :: p2 :: p3 :: T)) (v : Value) (sa : Addr) (m : MsgIn msg T v sa) : MsgH msg h' v (Value.ref sa) := by
  obtain ⟨x, t, e, g⟩ := m
  exact ⟨x, t, e, (R.own _ (.tail _ (.tail _ (.tail _ g)))).1⟩
theorem law_end (W : Wd w b c) {hB : Heap} (hk : KT.Holds hB 1 0 (ktop w.params)) (hL : L ≤ 2) (hA : Lev L A) {l pl tk fa : Addr} {t1 t2 t3 : Tok} {q : LD} {e : Option LE} {toks bs as : List Value} {td : List Tk} {T1 : Store} {vb va : List Value}
    (F : Fin0 w hB l pl tk fa t1 t2 t3 q e toks bs as td T1 vb va) {g : Array GenState} (hg : AllBare g) {tkn : Nat} {Q : Flow → Shared → Prop} {E : Value → Shared → Prop}
    (fin : ∀ h' g' tk', (∀ b o, hB.get? b = some o → h'.get? b = some o) → AllBare g' → Q (.ret (.bool true)) ⟨h', g', d, tk', os⟩) :
    wpAny (model prg w) A (execs [.If (.Compare (e5L w) [.NotEq] [e5R w] (posOfX (ifTest (lStmt w 4)))) (ifBody (lStmt w 4)) [] (ifPos (lStmt w 4)),
      .Return (some (.Compare (e6L w) [.Eq] [e6R w] (posOfX (retE [lStmt w 5])))) (retP [lStmt w 5])] (gEnv w 255 fa)) Q E ⟨hB, g, d, tkn, os⟩ := by
  have K0 := kn_none (b := b) (c := c) hk
  have KF : Kn (par w b c [(fa, lawF4 w l pl tk t1 t2 t3 q e)]) hB := kn_of hk (by intro p hp; rw [List.mem_singleton] at hp; subst hp; exact F.fr)
  have mk := law_marks w
  simp only [Prod.mk.injEq] at mk
  obtain ⟨m0, htk⟩ := F.hto
  obtain ⟨m1, hbs⟩ := F.hbs
  obtain ⟨m2, has⟩ := F.has
  have hlb : vb.length ≤ 1000 := by rw [← F.ob]; exact Nat.le_trans (Nat.le_trans (outB_len _) (goC_len _ _ _ _)) F.few
  have hla : va.length ≤ 1000 := by rw [← F.oa]; exact Nat.le_trans (Nat.le_trans (outA_len _ _) (goC_len _ _ _ _)) F.few
  refine wpAny_execs_cons (wpAny_If (wpAny_isTrue_Compare1 (eval_z ?_) mk.1))
  refine by_runs W KF (by omega) hA (fun ad => e5a_run w b c ad l pl tk fa t1 t2 t3 q e []) trivial rfl (Rep.self hB) ot_nil fun ad h1 tk1 R1 => ?_
  have ca := e5a_call w fa tk (ad 0)
  simp only [Prod.mk.injEq] at ca
  have cb := Bool.and_eq_true_iff.mp ca.1
  refine ms_call (by omega) hA (md_ok cb.2) cb.1 fun A1 hA1 => ?_
  rw [ca.2]
  refine bf_make (td := td) W hk (by omega) hA1 R1 fun h2 g2 tk2 ga gn gq Sx R2 hS2 hb2 => ?_
  refine by_runs W K0 (by omega) hA (fun ad => e5b_run w b c ad fa tk ga _ _) (cont_ok (md_ok cb.2)) rfl R2 ot_nil fun ad2 h3 tk3 R3 => ?_
  have da := e5b_call w fa ga
  simp only [Prod.mk.injEq] at da
  have db := Bool.and_eq_true_iff.mp da.1
  refine ms_call (by omega) hA (md_ok db.2) db.1 fun A2 hA2 => ?_
  rw [da.2]
  refine bf_list W hk (by omega) hA2 htk F.ft1 F.htd F.ok (R3.perm List.perm_middle.symm) hS2 (hb2 hg) (by rw [F.ob]; exact hlb) fun h4 g4 tk4 SL acc m T4 R4 ha4 hb4 => ?_
  rw [F.ob] at ha4
  refine by_runs W K0 (by omega) hA (fun ad => e5c_run w b c ad fa ga SL _) (cont_ok (md_ok db.2)) rfl R4 ot_nil fun ad5 h5 tk5 R5 => wpAny_pure (eval_z ?_)
  refine by_runs W KF (by omega) hA (fun ad => e5r_run w b c ad l pl tk fa t1 t2 t3 q e _) trivial rfl R5 ot_nil fun ad6 h6 tk6 R6 => wpAny_pure ?_
  refine msgs_ne hA (by omega) (R6.own _ (.head _)).1 (R6.keep _ _ hbs) (msgs_own R6 ha4) (msgs_keep R6.keep F.mb) (wpAny_truthy_bool ?_)
  show wpAny _ _ (execs [] _) _ _ _
  refine wpAny_execs_nil ?_
  show wpAny _ _ (execs _ _) _ _ _
  have R7 : Rep hB h6 [] := R6.pick (ks := []) (k := T4.length + 1) rfl |> fun z => by simpa [pickD] using z
  refine wpAny_execs_cons (wpAny_Return_some (wpAny_Compare1 (eval_z ?_) mk.2))
  refine by_runs W KF (by omega) hA (fun ad => e6a_run w b c ad l pl tk fa t1 t2 t3 q e []) trivial rfl R7 ot_nil fun ad h1 tk1 R1 => ?_
  have ca := e6a_call w fa tk (ad 0)
  simp only [Prod.mk.injEq] at ca
  have cb := Bool.and_eq_true_iff.mp ca.1
  refine ms_call (by omega) hA (md_ok cb.2) cb.1 fun A1 hA1 => ?_
  rw [ca.2]
  refine af_make (td := td) W hk (by omega) hA1 R1 fun h2 g2 tk2 ga gn gq Sx R2 hS2 hb2 => ?_
  refine by_runs W K0 (by omega) hA (fun ad => e6b_run w b c ad fa tk ga _ _) (cont_ok (md_ok cb.2)) rfl R2 ot_nil fun ad2 h3 tk3 R3 => ?_
  have da := e6b_call w fa ga
  simp only [Prod.mk.injEq] at da
  have db := Bool.and_eq_true_iff.mp da.1
  refine ms_call (by omega) hA (md_ok db.2) db.1 fun A2 hA2 => ?_
  rw [da.2]
  refine af_list W hk (by omega) hA2 htk F.ft1 F.htd F.ok (R3.perm List.perm_middle.symm) hS2 (hb2 hb4) (by rw [F.oa]; exact hla) fun h4 g4 tk4 SL acc m T4 R4 ha4 hb4 => ?_
  rw [F.oa] at ha4
  refine by_runs W K0 (by omega) hA (fun ad => e6c_run w b c ad fa ga SL _) (cont_ok (md_ok db.2)) rfl R4 ot_nil fun ad5 h5 tk5 R5 => wpAny_pure (eval_z ?_)
  refine by_runs W KF (by omega) hA (fun ad => e6r_run w b c ad l pl tk fa t1 t2 t3 q e _) trivial rfl R5 ot_nil fun ad6 h6 tk6 R6 => wpAny_pure ?_
  refine msgs_eq hA (by omega) (R6.own _ (.head _)).1 (R6.keep _ _ has) (msgs_own R6 ha4) (msgs_keep R6.keep F.ma) ?_
  exact fin _ _ _ R6.keep hb4
theorem law_fn (W : Wd w b c) (hk : KT.Holds h₀ 1 0 (ktop w.params)) (hL : L ≤ 0) (hA : Lev L A) {l : Addr} {xs : List Value} {k : Nat} (X : Scr h₀ l xs k) {R : Result → Shared → Prop} {g : Array GenState} (hg : AllBare g) {tk0 : Nat}
    (fin : ∀ h' g' tk', (∀ b o, h₀.get? b = some o → h'.get? b = some o) → AllBare g' → R (.ok (.ret (.bool true))) ⟨h', g', d, tk', os⟩) :
    codeAny (model prg w) A (.call (.ref 255) ⟨[.ref l], []⟩) R ⟨h₀, g, d, tk0, os⟩ := by
  have lk := lawLook w
  have lk' := lk
  simp only [fnLook, fnLook', Prod.mk.injEq] at lk'
  obtain ⟨l1, l2, l3, _, _, _, _, l8⟩ := lk'
  have hroom : A.depth < recursionLimit := by have := hA.depth; show A.depth < 1000; omega
  refine codeAny_call_function hroom (kt_at hk l1) l2 l8 (lawGen w) l3 (code_rec hk lk) ?_
  rw [zbind_eq, lawBind_run]
  refine wpAny_pure ?_
  have e3 : newFunctionEnv (gFd w 255).scope (gFd w 255).globals (gFd w 255).closure [(S "script", .ref l)] ((gFd w 255).qualname ++ ".<locals>.") (some 255) (gFd w 255).code none (gFd w 255).builtins = newEnv w 255 [(S "script", .ref l)] := by
    unfold newEnv; rw [znewEnv_eq]
  rw [e3]
  refine out_ms (by_runs W (kn_none (b := b) (c := c) hk) (by omega) hA.in1 (fun ad => lawEnv_run w b c ad l []) trivial rfl (Rep.self h₀) ot_nil fun ad1 h1 tk1 R1 => wpAny_pure ⟨no_limit (hk.keeps R1.keep), ?_⟩)
  refine codeAny_func ?_
  rw [law_shape]
  have hA1 := hA.deeper (gEnv w 255 (ad1 0))
  refine exec_one (by_runs W (kn_none (b := b) (c := c) hk) (by omega) hA1 (fun ad => ls1_run w b c ad (ad1 0) l (ad1 1)) trivial rfl R1 ot_nil fun ad2 h2 tk2 R2 => wpAny_pure ?_)
  refine exec_one (by_runs W (kn_none (b := b) (c := c) hk) (by omega) hA1 (fun ad => law0_run w b c ad (ad1 0) l _ _ _ _ _ _) trivial rfl R2 ot_nil fun ad3 h3 tk3 R3 => ?_)
  have ca := law0_call w (ad1 0) l
  simp only [Prod.mk.injEq] at ca
  have cb := Bool.and_eq_true_iff.mp ca.1
  refine ms_call (by omega) hA1 (md_ok cb.2) cb.1 fun A2 hA2 => ?_
  rw [ca.2]
  have X3 : Scr h3 l xs k := ⟨R3.keep _ _ X.at_, X.allInt, X.few⟩
  refine out_ms (rows_fn W (hk.keeps R3.keep) X3 (by omega) hA2 fun h4 tk4 T4 la kept m rows R4 hin hr ok hlen => ?_)
  have R5 := (R3.trans R4).swap
  obtain ⟨hB, R6, k6, f6⟩ := R5.rebase
  have hk6 := hk.keeps k6
  have hla := f6 _ hin
  refine by_runs (ro := []) W (kn_none hk6) (by omega) hA1 (fun ad => law1_run w b c ad (ad1 0) l la _) (cont_ok (md_ok cb.2)) rfl R6 (ot_cons (oEnumB_ok hla) ot_nil) fun ad7 h7 tk7 R7 => ?_
  have da := law1_call w (ad1 0) l (ad7 1)
  simp only [Prod.mk.injEq] at da
  have db := Bool.and_eq_true_iff.mp da.1
  refine ms_call (by omega) hA1 (md_ok db.2) db.1 fun A3 hA3 => ?_
  rw [da.2]
  refine x_call (rows_law W hk6 (by omega) hA3.mark hla f6 hr ok hlen (fun h8 tk8 o tk pls n toks m8 T8 td P R8 htd hP hB8 ho => wpAny_pure ?_) R7) (by intro e; cases e)
  rw [law1_next]
  refine wpAny_pure ?_
  cases o with
  | none => exact absurd rfl ho
  | some p =>
    obtain ⟨hC, R9, k9, f9⟩ := (show Rep hB h8 ([_] ++ (_ :: _ :: T8)) from R8).rebase
    have hk9 := hk6.keeps k9
    refine exec_one (by_runs W (kn_none (b := b) (c := c) hk9) (by omega) hA1 (fun ad => ls3_run w b c ad (ad1 0) l _ tk _ _ _ p) trivial rfl R9 ot_nil fun ad10 h10 tk10 R10 => wpAny_pure ?_)
    have hpl := f9 _ (.head _)
    have htk := f9 _ (.tail _ (.head _))
    have hT8 : ∀ p ∈ T8, hC.get? p.1 = some p.2 := fun q hq => f9 q (.tail _ (.tail _ hq))
    have KP : Kn (par w b c [(_, listObj pls n)]) hC := kn_of hk9 (by intro q hq; rw [List.mem_singleton] at hq; subst hq; exact hpl)
    have hlens := hB8.lens
    have hPl : P.length ≤ 12 := by rw [hlens.1]; exact ok.few
    have hpll := hP.len
    have hz := sizeLine_eq
    have hPpos : 0 < P.length := by
      rw [hlens.1]
      cases rows with
      | nil => exact absurd rfl ok.ne
      | cons r rs =>
        have := (ok.words r (.head _)).1
        rw [List.map_cons, List.sum_cons]
        have : 0 < r.1.length := List.length_pos_iff.mpr this
        omega
    refine exec_one (by_runs W KP (by omega) hA1 (fun ad => law2_run w b c ad l _ tk (ad1 0) _ _ _ _ pls n _) trivial rfl R10 (ot_cons (oDrop_ok (by exact hpl) (by omega)) ot_nil) fun ad11 h11 tk11 R11 => ?_)
    have ea := law2_call w (ad1 0) (ad11 8)
    simp only [Prod.mk.injEq] at ea
    have eb := Bool.and_eq_true_iff.mp ea.1
    refine ms_call (by omega) hA1 (md_ok eb.2) eb.1 fun A4 hA4 => ?_
    rw [ea.2]
    have R12 := R11.pick (ks := [0, 1, 2, 3, 4, 6, 8, 7, 5]) (k := 9) rfl
    obtain ⟨hD, R13, k13, f13⟩ := (show Rep hC h11 ([_, _, _, _, _, _, _, _] ++ [_]) from R12).rebase
    have hk13 := hk9.keeps k13
    refine x_call (pairs_loop W hk13 (by omega) hA4.mark (k13 _ _ hpl) (f13 _ (.head _)) (fun q hq => k13 _ _ (hT8 q hq)) hP (by omega) hPpos (fun h14 tk14 e bs nb as na T14 R14 hbs has => wpAny_pure ?_) R13) (by intro e; cases e)
    rw [law2_next]
    refine wpAny_pure ?_
    have bo := built_out hB8 ok.words
    have bw := built_words hB8 ok.words
    have keep : ∀ b o, hC.get? b = some o → h14.get? b = some o := fun b o e => R14.keep _ _ (k13 _ _ e)
    have hrl : rows.length ≤ 13 := by have := hr.len; omega
    refine law_end W (hk13.keeps R14.keep) (by omega) hA1 (l := l) (t1 := ad1 1) (q := ⟨p, ad10 6, ad10 1, ad10 7, ad10 0⟩) (e := e) (toks := toks) (bs := bs) (as := as) (td := td) (T1 := T8)
      ⟨(R14.own _ (.head _)).1, ⟨m8, keep _ _ htk⟩, ⟨nb, (R14.own _ (.tail _ (.head _))).1⟩, ⟨na, (R14.own _ (.tail _ (.tail _ (.head _)))).1⟩, fun q hq => keep _ _ (hT8 q hq), htd, bw.2,
        hbs.mapr (msg_ref R14), has.mapr (msg_ref R14), bo.1, bo.2, by have := ok.few; omega⟩ hg fun h15 g15 tk15 k15 hb15 => ?_
    exact fin h15 g15 tk15 (fun b o e => k15 _ _ (keep _ _ (k9 _ _ (k6 _ _ e)))) hb15
end
end Mine
end

section
open PySem PySem.W PySem.W.X PySem.W.ZRun PySem.Calls PyProof.Rows
set_option maxHeartbeats 0
namespace Mine
theorem all_of_y {K : Params → Frag} {T : Params → KT} (e : ∀ P, KT.of (K P) = T P) {as : List Addr} {w : World} {s₀ s₁ : Shared} (keys : ∀ P, as = (K P).map (·.1)) {n t : Nat} (y : obsZ as s₀ = valZ K n t w) (k : ∀ b o, s₀.heap.get? b = some o → s₁.heap.get? b = some o) : KT.Holds s₁.heap 1 0 (T w.params) := by
  have zf := z_facts (K := K) keys y
  have hk0 := holds_of zf.1
  rw [e] at hk0
  exact hk0.keeps k
noncomputable def esOf (o : Obj) : Array DictEntry := match o.data with
  | .dict es _ => es
  | _ => #[]
noncomputable def epOf (o : Obj) : Nat := match o.data with
  | .dict _ n => n
  | _ => 0
theorem glob_look (w : World) : ((ktop w.params).get mainGlobals, (gObj w mainGlobals).data, nsFind (esOf (gObj w mainGlobals)) (Str.ofString "law")) = (some (gObj w mainGlobals), Data.dict (esOf (gObj w mainGlobals)) (epOf (gObj w mainGlobals)), some (.ref 255)) := by kernel_rfl
theorem law_at {w : World} {h : Heap} (hk : KT.Holds h 1 0 (ktop w.params)) {mg : Str → Option Value} (n : h.Ns mainGlobals mg) {fa : Addr} (e : mg (Str.ofString "law") = some (.ref fa)) : fa = 255 := by
  have gl := glob_look w
  simp only [Prod.mk.injEq] at gl
  obtain ⟨o, es, ep, ho, hd', _, hf⟩ := n
  have g := kt_at hk gl.1
  rw [g] at ho
  cases ho
  rw [gl.2.1] at hd'
  cases hd'
  rw [← hf, gl.2.2] at e
  cases e
  rfl
theorem ints_all {vs : List Value} {ns : List Int} (h : IntsAre vs ns) : ∀ v ∈ vs, ∃ x t, v = Value.int x t := by
  intro v hv
  induction h with
  | nil => cases hv
  | cons n t h ih =>
    rcases List.mem_cons.mp hv with e | e
    · exact ⟨n, t, e⟩
    · exact ih e
theorem law_good {c : ClaimW} {cl mean} {args : List WData} {s₁ : Shared} {h' : Heap} {g' : Array GenState} {d : Drawn} {tk' : Nat} {os : OsState} (hr : ∀ cls, c.raises args cls = false) (hp : c.post args (.bool true) args = true) (k : ∀ b o, s₁.heap.get? b = some o → h'.get? b = some o) (hos : os = s₁.os) (hb : AllBare g') :
    GoodWG c cl mean args s₁ (.ok (.ret (.bool true))) ⟨h', g', d, tk', os⟩ :=
  ⟨.inl ⟨_, _, [], rfl, hr, .bool true, hp, fun _ => ⟨List.nodup_nil, fun _ ha => (nomatch ha)⟩⟩, .of_keep k, hos, hb⟩
theorem final : PySem.Challenge.rw_bd0045_01.Holds := by
  refine khead ?_
  intro w s₀ s₁ mg mb G y fa o pm cd doc dV kV ho hd' hcd hD hmg hg args vals as L hpre hlay hrd hwl hlo
  refine Ground.open G ?_
  intro T B D TE TW
  wrow_args hpre hlay hrd hwl hlo
  rename_i ns hs hlay0 hL1 hr1 hl2 as1 as2 a xs as3 hList ra w1 r0 hI hr2 hc1 hc2
  have hk := all_of_y kfrag_tree kfrag_keys y (Laid.keeps L)
  rw [kdef_name] at hmg
  have e := law_at hk T.g hmg
  subst e
  have W : Wd w (w.params.followText "special-get-raises") (w.params.followText "comprehension-iter-twice") := ⟨rfl, rfl⟩
  have X : Scr s₁.heap a xs 0 := ⟨script_obj L hList, ints_all hI, by have := hI.length; omega⟩
  have hA : Lev 0 callerA := ⟨rfl, by decide, by decide⟩
  show wpAny (model prg w) callerA (call (.ref 255) [.ref a]) _ _ _
  refine wpAny_call ?_
  obtain ⟨h1, g1, d1, tk1, os1⟩ := s₁
  refine law_fn W hk (Nat.le_refl _) hA X (.of_eq hg) fun h' g' tk' k hb => ?_
  exact law_good (fun _ => rfl) (by kernel_rfl) k rfl hb
end Mine
end

theorem PySem.Challenge.cw_bd0045_01_holds : PySem.Challenge.rw_bd0045_01.Holds :=
  Mine.final
