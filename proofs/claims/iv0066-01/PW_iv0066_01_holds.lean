import PyProof.Rows.All
import PyProof.StrBlockL
import Wide.All
import OpenK.KLine
import KE.KOpsOwn
import KE.KIsAll
import KE.KIntText
import KE.KPar
import Lean
import PySem.Challenge.RW_iv0066_01
set_option Elab.async false
set_option maxRecDepth 100000
set_option maxHeartbeats 8000000
set_option linter.all false
set_option genSizeOf false
set_option genInjectivity false
set_option bootstrap.genMatcherCode false
set_option backward.match.sparseCases true
set_option exponentiation.threshold 10000
set_option tactic.hygienic true
open PySem PySem.W PyProof.Rows PySem.Calls
set_option autoImplicit false
namespace Mine
noncomputable section
def aA:=@Nat.eq_of_beq_eq_true
def aF:=@Option.bind_some
def aE:=@List.mem_cons_self
def aH:=@decide_eq_true
def aG:=@Int.fdiv_eq_ediv_of_nonneg
def aI:=@List.mem_cons_of_mem
def aK:=@decide_eq_false
def aL:=@Bool.and_eq_true_iff
def aC:=@Option.some.inj
def aJ:=@Int.lt_of_le_of_lt
def aM:=@of_decide_eq_true
def aN:=@List.mem_singleton
def aO:=@Int.le_of_lt
def aQ:=@Int.ne_of_gt
def aW:=@List.all_eq_true
def aS:=@Int.fmod_eq_emod_of_nonneg
def aP:=@Nat.lt_of_le_of_lt
def aT:=@List.length_map
def aV:=@Nat.ble_eq_true_of_le
def aX:=@Nat.le_of_ble_eq_true
def aD:=@wpAny_mono
def bF:=@wpAny_bind
def a9:=@Bool.and_eq_true
def a7:=@List.mem_cons
def bA:=@Nat.lt_trans
def aZ:=@Nat.lt_of_lt_of_le
def bL:=@List.length_cons
def bR:=@List.mem_map
def bO:=@List.map_cons
def aR:=@Nat.le_trans
def bD:=@Nat.le_of_lt
def a6:=@Int.le_trans
def bU:=@List.length_append
def bW:=@List.append_nil
def cA:=@Nat.le_refl
def b7:=@List.mem_append
def b8:=@List.flatMap_cons
def bY:=@Int.mul_nonpos_of_nonneg_of_nonpos
def cU:=@Option.map_some
def cD:=@List.filter_cons_of_pos
def cH:=@Int.mul_le_mul_of_nonneg_right
def cK:=@beq_eq_false_iff_ne
def bG:=@cond_false
def bV:=@cond_true
def eN:=@Int.lt_of_lt_of_le
def jI:=@of_decide_eq_false
def cV:=@List.filter_cons_of_neg
def iT:=@Array.mem_toList_iff
def qD:=@Bool.eq_false_iff
def g4:=@Bool.not_false
def gS:=@Bool.not_true
def cP:=@Bool.or_eq_true_iff
def qS:=@Bool.true_and
def nH:=@Int.add_assoc
def kH:=@Int.add_comm
def jG:=@Int.add_mul
def jY:=@Int.add_mul_emod_self_right
def pM:=@Int.add_nonneg
def dK:=@Int.add_zero
def cS:=@Int.ediv_eq_zero_of_lt
def nX:=@Int.ediv_nonneg
def dB:=@Int.emod_add_mul_ediv
def qE:=@Int.emod_eq_of_lt
def dW:=@Int.emod_lt_of_pos
def eE:=@Int.emod_nonneg
def j8:=@Int.le_add_of_nonneg_right
def lI:=@Int.le_antisymm
def eR:=@Int.le_of_dvd
def dL:=@Int.le_of_eq
def nN:=@Int.le_of_lt_add_one
def fI:=@Int.le_refl
def nO:=@Int.lt_iff_le_and_ne
def qT:=@Int.lt_irrefl
def eL:=@Int.lt_or_le
def cX:=@Int.lt_trans
def qF:=@Int.mul_add
def jO:=@Int.mul_assoc
def d8:=@Int.mul_comm
def j9:=@Int.mul_dvd_mul_left
def n8:=@Int.mul_ediv_cancel
def eH:=@Int.mul_ediv_cancel_left
def kA:=@Int.mul_le_mul
def dN:=@Int.mul_le_mul_of_nonneg_left
def qG:=@Int.mul_left_comm
def gP:=@Int.mul_lt_mul_of_pos_right
def nY:=@Int.mul_ne_zero
def iU:=@Int.mul_neg
def eO:=@Int.mul_nonneg
def dF:=@Int.mul_one
def mH:=@Int.natAbs_add_le
def iE:=@Int.natAbs_ediv_le_natAbs
def eP:=@Int.natAbs_mul
def nP:=@Int.natAbs_of_nonneg
def g5:=@Int.natCast_nonneg
def iV:=@Int.ne_of_lt
def nD:=@Int.not_le
def jJ:=@Int.not_lt
def g6:=@Int.ofNat_dvd_left
def mI:=@Int.ofNat_le
def oT:=@Int.ofNat_lt
def lV:=@Int.one_mul
def n9:=@Int.toNat_of_nonneg
def cY:=@Int.zero_add
def fP:=@Int.zero_fdiv
def mJ:=@Int.zero_mul
def qU:=@List.any_cons
def fJ:=@List.any_eq_true
def dT:=@List.append_assoc
def gQ:=@List.append_eq_nil_iff
def kI:=@List.cons_append
def jK:=@List.filter_append
def kJ:=@List.filter_cons
def jL:=@List.filter_eq_nil_iff
def kZ:=@List.filter_eq_self
def k7:=@List.filter_sublist
def eI:=@List.isEmpty_iff
def dM:=@List.length_filter_le
def oD:=@List.length_pos_iff
def d0:=@List.length_singleton
def f6:=@List.lookup_cons
def dQ:=@List.map_append
def i9:=@List.map_congr_left
def oG:=@List.map_eq_nil_iff
def iW:=@List.map_map
def gG:=@List.mem_append_left
def jU:=@List.mem_append_right
def dC:=@List.mem_filter
def fV:=@List.mem_map_of_mem
def lW:=@List.mem_singleton_self
def jN:=@List.nil_append
def gI:=@List.nodup_append
def gK:=@List.nodup_cons
def fK:=@List.not_mem_nil
def iX:=@List.pairwise_append
def f7:=@List.pairwise_cons
def qH:=@List.pairwise_map
def gJ:=@List.pairwise_singleton
def eJ:=@List.sum_cons
def pN:=@List.zip_cons_cons
def mK:=@Nat.add_le_add
def k8:=@Nat.add_le_add_left
def kB:=@Nat.add_le_add_right
def pO:=@Nat.add_right_comm
def lX:=@Nat.add_sub_cancel_left
def kK:=@Nat.beq_refl
def qV:=@Nat.dvd_trans
def oU:=@Nat.gcd_comm
def lJ:=@Nat.le_add_left
def eT:=@Nat.le_add_right
def gR:=@Nat.le_mul_of_pos_left
def f9:=@Nat.le_of_eq
def qI:=@Nat.le_of_lt_succ
def tG:=@Nat.le_succ
def mL:=@Nat.le_succ_of_le
def i7:=@Nat.lt_irrefl
def lO:=@Nat.lt_of_lt_of_eq
def d7:=@Nat.lt_of_succ_le
def jZ:=@Nat.lt_succ_of_le
def fL:=@Nat.lt_succ_self
def mM:=@Nat.lt_trichotomy
def mN:=@Nat.mul_le_mul
def d5:=@Nat.mul_le_mul_left
def nQ:=@Nat.mul_le_mul_right
def sF:=@Nat.ne_of_gt
def eU:=@Nat.ne_of_lt
def lP:=@Nat.not_lt
def nE:=@Nat.not_lt_of_lt
def pP:=@Nat.one_le_two_pow
def lQ:=@Nat.pos_of_ne_zero
def nR:=@Nat.pow_add
def eQ:=@Nat.pow_le_pow_right
def kC:=@Nat.pow_lt_pow_right
def d3:=@Nat.zero_le
def fZ:=@Option.isNone_iff_eq_none
def fE:=@Option.isSome_iff_exists
noncomputable abbrev sT(l:List Nat):Str:=⟨⟨l⟩⟩
section
noncomputable abbrev OO:=Params->Program->Obj
noncomputable abbrev kh:=PyData.keyHash
noncomputable abbrev y0:=SL.s2766695959194262286x5
noncomputable abbrev y1:=SL.s5856160107412720595x4
noncomputable abbrev y2:=SL.s7174869446012820540x8
noncomputable abbrev y3:=SL.s14018661285674007319x4
noncomputable abbrev y4:=SL.s17162191345867700912x4
noncomputable abbrev y5:=SL.s11030030927630378310x26
noncomputable abbrev y6:=SL.s2742458400755230247x6
noncomputable abbrev y7:=SL.s658472552662922059x5
noncomputable abbrev y8:=SL.s4290257624100764138x5
noncomputable abbrev y9:=SL.s10062305145149207511x16
noncomputable abbrev NN:=SL.s11443829558043349243x14
noncomputable abbrev NO:=SL.s4860613602091757760x24
noncomputable abbrev y12:=SL.s8101838861749082086x8
noncomputable abbrev y13:=SL.s16656946322747308186x12
noncomputable abbrev y14:=SL.s10852414792293593619x7
noncomputable abbrev pw:Program:=PySem.Challenge.pw_iv0066_01
noncomputable def Ry:List Stmt->Nat->Stmt
 |[],_=>.Pass default
 |s::_,0=>s
 |_::r,n+1=>Ry r n
def stP(p:Program)(i:Nat):Stmt:=Ry p.main.body i
def stAt(i:Nat):Stmt:=stP pw i
noncomputable def NU(s:Stmt):List Stmt:=PySem.Stmt.casesOn (motive_2:=λ_=>List Stmt) s
 (λ_ _ _ _ _ _ _ _ _ _=>[])
 (λ_ _ _ _ _ _ _ _ _ _=>[])
 (λ_ _ _ b _ _ _ _ _ _ _=>b)
 (λ_ _=>[])
 (λ_ _=>[])
 (λ_ _ _=>[])
 (λ_ _ _ _ _ _ _=>[])
 (λ_ _ _ _=>[])
 (λ_ _ _ _ _=>[])
 (λ_ _ _ _ _=>[])
 (λ_ _ _ _ _=>[])
 (λ_ _ _ _=>[])
 (λ_ _ _ _=>[])
 (λ_ _ _=>[])
 (λ_ _ _=>[])
 (λ_ _ _=>[])
 (λ_ _ _=>[])
 (λ_ _ _ _ _=>[])
 (λ_ _ _ _ _=>[])
 (λ_ _ _=>[])
 (λ_ _=>[])
 (λ_ _ _ _=>[])
 (λ_ _=>[])
 (λ_ _=>[])
 (λ_ _=>[])
 (λ_=>[])
 (λ_=>[])
 (λ_=>[])
def inP(p:Program)(i j:Nat):Stmt:=Ry (NU (stP p i)) j
def inCls(i j:Nat):Stmt:=inP pw i j
noncomputable def fnD(g:Addr)(st:Stmt)(qual:Str)(dV kV doc pm:Value)(an:Option Addr)(cd ct:Value):Data:=PySem.Stmt.casesOn (motive_2:=λ_=>Data) st
 (λn a b _ _ _ sc _ _ _=>.func {name:=n,qualname:=qual,params:=a,body:=.stmts b,scope:=sc,globals:=g,closure:=[],defaults:=dV,kwdefaults:=kV,doc:=doc,pyModule:=pm,annotations:=an,code:=cd,closureTuple:=ct,builtins:=0})
 (λ_ _ _ _ _ _ _ _ _ _=>.plain)
 (λ_ _ _ _ _ _ _ _ _ _ _=>.plain)
 (λ_ _=>.plain)
 (λ_ _=>.plain)
 (λ_ _ _=>.plain)
 (λ_ _ _ _ _ _ _=>.plain)
 (λ_ _ _ _=>.plain)
 (λ_ _ _ _ _=>.plain)
 (λ_ _ _ _ _=>.plain)
 (λ_ _ _ _ _=>.plain)
 (λ_ _ _ _=>.plain)
 (λ_ _ _ _=>.plain)
 (λ_ _ _=>.plain)
 (λ_ _ _=>.plain)
 (λ_ _ _=>.plain)
 (λ_ _ _=>.plain)
 (λ_ _ _ _ _=>.plain)
 (λ_ _ _ _ _=>.plain)
 (λ_ _ _=>.plain)
 (λ_ _=>.plain)
 (λ_ _ _ _=>.plain)
 (λ_ _=>.plain)
 (λ_ _=>.plain)
 (λ_ _=>.plain)
 (λ_=>.plain)
 (λ_=>.plain)
 (λ_=>.plain)
def s0:Str:=sT [95,95,110,97,109,101,95,95]
def s1:Str:=sT [98,117,105,108,116,105,110,115]
def s2:Str:=sT [95,95,100,111,99,95,95]
def s3:Str:=sT [95,95,112,97,99,107,97,103,101,95,95]
def s4:Str:=sT [95,95,108,111,97,100,101,114,95,95]
def s5:Str:=sT [95,95,115,112,101,99,95,95]
def ZE:Str:=sT [109,97,120]
def ZF:Str:=sT [109,105,110]
def ZG:Str:=sT [115,117,109]
def GG:Str:=sT [118,97,114,115]
def Jj:Str:=sT [95,95,109,97,105,110,95,95]
def Jk:Str:=sT [108,97,119,95,105,118,48,48,54,54,95,48,49]
def NV:Str:=sT [95,95,97,110,110,111,116,97,116,105,111,110,115,95,95]
def ZH:Str:=sT [95,95,98,117,105,108,116,105,110,115,95,95]
def ZI:Str:=sT [95,95,102,105,108,101,95,95]
def NW:Str:=sT [47,99,108,97,105,109,47,99,117,116,46,112,121]
def ZJ:Str:=sT [95,95,99,97,99,104,101,100,95,95]
def Jl:Str:=sT [95,119,97,108,108]
def Jm:Str:=sT [112,97,114,116,105,116,105,111,110]
def Jn:Str:=sT [103,99,100]
def Cq:Str:=sT [78,111,100,101]
def Cr:Str:=sT [86,97,114,105,97,98,108,101]
def Ct:Str:=sT [78,117,109,78,111,100,101]
def Jo:Str:=sT [118,97,114,105,97,98,108,101]
def Jp:Str:=sT [99,114,101,97,116,101,95,110,111,100,101]
def Jq:Str:=sT [99,114,101,97,116,101,95,108,116,95,110,111,100,101]
def Cu:Str:=sT [79,112,78,111,100,101]
def Cv:Str:=sT [76,116,78,111,100,101]
def Cw:Str:=sT [77,117,108,78,111,100,101]
def Cx:Str:=sT [68,105,118,78,111,100,101]
def Cy:Str:=sT [77,111,100,78,111,100,101]
def Cz:Str:=sT [82,101,100,78,111,100,101]
def C0:Str:=sT [83,117,109,78,111,100,101]
def Jr:Str:=sT [115,121,109,95,114,101,110,100,101,114]
def Js:Str:=sT [115,121,109,95,105,110,102,101,114]
def Jt:Str:=sT [95,108,97,119,95,110,97,109,101,115]
def Ju:Str:=sT [95,108,97,119,95,97,116]
def Jv:Str:=sT [95,108,97,119,95,99,117,116]
def Jw:Str:=sT [108,97,119]
def NX:Str:=sT [60,109,111,100,117,108,101,62]
def Rz:Str:=sT [107]
def Jx:Str:=sT [97]
def mP:Str:=sT [98]
def c9:Str:=sT [116,105,110,121,103,114,97,100,46,115,104,97,112,101,46,115,121,109,98,111,108,105,99]
def pQ:Str:=sT [95,95,109,111,100,117,108,101,95,95]
def xI:Str:=sT [95,95,113,117,97,108,110,97,109,101,95,95]
def qW:Str:=sT [95,95,102,105,114,115,116,108,105,110,101,110,111,95,95]
def R0:Str:=sT [95,107,101,121]
def R1:Str:=sT [114,101,110,100,101,114]
def oH:Str:=sT [115,117,98,115,116,105,116,117,116,101]
def NY:Str:=sT [107,101,121]
def R2:Str:=sT [95,95,98,111,111,108,95,95]
def GH:Str:=sT [95,95,101,113,95,95]
def R3:Str:=sT [95,95,110,101,103,95,95]
def R5:Str:=sT [95,95,97,100,100,95,95]
def R6:Str:=sT [95,95,114,97,100,100,95,95]
def R7:Str:=sT [95,95,115,117,98,95,95]
def R8:Str:=sT [95,95,114,115,117,98,95,95]
def R9:Str:=sT [95,95,108,101,95,95]
def RA:Str:=sT [95,95,103,116,95,95]
def RB:Str:=sT [95,95,103,101,95,95]
def RC:Str:=sT [95,95,108,116,95,95]
def xJ:Str:=sT [95,95,109,117,108,95,95]
def RD:Str:=sT [95,95,114,109,117,108,95,95]
def RE:Str:=sT [95,95,108,115,104,105,102,116,95,95]
def RF:Str:=sT [95,95,114,102,108,111,111,114,100,105,118,95,95]
def uD:Str:=sT [95,95,102,108,111,111,114,100,105,118,95,95]
def RG:Str:=sT [95,95,114,109,111,100,95,95]
def xK:Str:=sT [95,95,109,111,100,95,95]
def NZ:Str:=sT [97,110,100,115]
def qX:Str:=sT [95,95,115,116,97,116,105,99,95,97,116,116,114,105,98,117,116,101,115,95,95]
def fQ:Str:=sT [115,101,108,102]
def C7:Str:=sT [99,116,120]
def RH:Str:=sT [78,111,100,101,46,114,101,110,100,101,114]
def RI:Str:=sT [78,111,100,101,46,118,97,114,115]
def DY:Str:=sT [118,97,114,95,118,97,108,115]
def RJ:Str:=sT [78,111,100,101,46,115,117,98,115,116,105,116,117,116,101]
def RK:Str:=sT [78,111,100,101,46,107,101,121]
def RL:Str:=sT [78,111,100,101,46,95,95,98,111,111,108,95,95]
def RM:Str:=sT [78,111,100,101,46,95,95,101,113,95,95]
def RN:Str:=sT [78,111,100,101,46,95,95,110,101,103,95,95]
def RO:Str:=sT [78,111,100,101,46,95,95,97,100,100,95,95]
def RP:Str:=sT [78,111,100,101,46,95,95,114,97,100,100,95,95]
def RQ:Str:=sT [78,111,100,101,46,95,95,115,117,98,95,95]
def RS:Str:=sT [78,111,100,101,46,95,95,114,115,117,98,95,95]
def RT:Str:=sT [78,111,100,101,46,95,95,108,101,95,95]
def RU:Str:=sT [78,111,100,101,46,95,95,103,116,95,95]
def RV:Str:=sT [78,111,100,101,46,95,95,103,101,95,95]
def RW:Str:=sT [78,111,100,101,46,95,95,108,116,95,95]
def RY:Str:=sT [78,111,100,101,46,95,95,109,117,108,95,95]
def RZ:Str:=sT [78,111,100,101,46,95,95,114,109,117,108,95,95]
def Sa:Str:=sT [78,111,100,101,46,95,95,108,115,104,105,102,116,95,95]
def Sb:Str:=sT [78,111,100,101,46,95,95,114,102,108,111,111,114,100,105,118,95,95]
def Oa:Str:=sT [102,97,99,116,111,114,105,110,103,95,97,108,108,111,119,101,100]
def Sc:Str:=sT [78,111,100,101,46,95,95,102,108,111,111,114,100,105,118,95,95]
def Sd:Str:=sT [78,111,100,101,46,95,95,114,109,111,100,95,95]
def Se:Str:=sT [78,111,100,101,46,95,95,109,111,100,95,95]
def Ob:Str:=sT [78,111,100,101,46,115,117,109]
def Sf:Str:=sT [110,111,100,101,115]
def Oc:Str:=sT [78,111,100,101,46,97,110,100,115]
def ZK:Str:=sT [95,95,100,105,99,116,95,95]
def ZL:Str:=sT [95,95,119,101,97,107,114,101,102,95,95]
def ZM:Str:=sT [95,95,104,97,115,104,95,95]
def xL:Str:=sT [95,95,105,110,105,116,95,95]
def GI:Str:=sT [118,97,108]
def GK:Str:=sT [98,105,110,100]
def qJ:Str:=sT [116,101,120,116]
def Sg:Str:=sT [101,120,112,114]
def Sh:Str:=sT [86,97,114,105,97,98,108,101,46,95,95,105,110,105,116,95,95]
def Si:Str:=sT [86,97,114,105,97,98,108,101,46,118,97,108]
def Sj:Str:=sT [86,97,114,105,97,98,108,101,46,98,105,110,100]
def Sk:Str:=sT [86,97,114,105,97,98,108,101,46,118,97,114,115]
def Sl:Str:=sT [86,97,114,105,97,98,108,101,46,115,117,98,115,116,105,116,117,116,101]
def Sm:Str:=sT [86,97,114,105,97,98,108,101,46,116,101,120,116]
def Sn:Str:=sT [78,117,109,78,111,100,101,46,95,95,105,110,105,116,95,95]
def So:Str:=sT [78,117,109,78,111,100,101,46,98,105,110,100]
def Sr:Str:=sT [78,117,109,78,111,100,101,46,95,95,109,117,108,95,95]
def Ss:Str:=sT [78,117,109,78,111,100,101,46,95,95,101,113,95,95]
def Su:Str:=sT [78,117,109,78,111,100,101,46,115,117,98,115,116,105,116,117,116,101]
def Sv:Str:=sT [78,117,109,78,111,100,101,46,116,101,120,116]
def qK:Str:=sT [103,101,116,95,98,111,117,110,100,115]
def Sw:Str:=sT [79,112,78,111,100,101,46,95,95,105,110,105,116,95,95]
def Sx:Str:=sT [79,112,78,111,100,101,46,118,97,114,115]
def Sy:Str:=sT [79,112,78,111,100,101,46,103,101,116,95,98,111,117,110,100,115]
def Sz:Str:=sT [76,116,78,111,100,101,46,103,101,116,95,98,111,117,110,100,115]
def S0:Str:=sT [76,116,78,111,100,101,46,115,117,98,115,116,105,116,117,116,101]
def S7:Str:=sT [76,116,78,111,100,101,46,116,101,120,116]
def S8:Str:=sT [77,117,108,78,111,100,101,46,95,95,109,117,108,95,95]
def S9:Str:=sT [77,117,108,78,111,100,101,46,95,95,102,108,111,111,114,100,105,118,95,95]
def SB:Str:=sT [77,117,108,78,111,100,101,46,95,95,109,111,100,95,95]
def SD:Str:=sT [77,117,108,78,111,100,101,46,103,101,116,95,98,111,117,110,100,115]
def SE:Str:=sT [77,117,108,78,111,100,101,46,115,117,98,115,116,105,116,117,116,101]
def SF:Str:=sT [77,117,108,78,111,100,101,46,116,101,120,116]
def SG:Str:=sT [68,105,118,78,111,100,101,46,95,95,102,108,111,111,114,100,105,118,95,95]
def SH:Str:=sT [68,105,118,78,111,100,101,46,103,101,116,95,98,111,117,110,100,115]
def SI:Str:=sT [68,105,118,78,111,100,101,46,115,117,98,115,116,105,116,117,116,101]
def SJ:Str:=sT [68,105,118,78,111,100,101,46,116,101,120,116]
def SK:Str:=sT [77,111,100,78,111,100,101,46,95,95,109,111,100,95,95]
def SM:Str:=sT [77,111,100,78,111,100,101,46,95,95,102,108,111,111,114,100,105,118,95,95]
def SN:Str:=sT [77,111,100,78,111,100,101,46,103,101,116,95,98,111,117,110,100,115]
def SO:Str:=sT [77,111,100,78,111,100,101,46,115,117,98,115,116,105,116,117,116,101]
def SP:Str:=sT [77,111,100,78,111,100,101,46,116,101,120,116]
def SR:Str:=sT [82,101,100,78,111,100,101,46,95,95,105,110,105,116,95,95]
def SS:Str:=sT [82,101,100,78,111,100,101,46,118,97,114,115]
def SU:Str:=sT [82,101,100,78,111,100,101,46,103,101,116,95,98,111,117,110,100,115]
def Od:Str:=sT [102,108,97,116,95,99,111,109,112,111,110,101,110,116,115]
def SV:Str:=sT [83,117,109,78,111,100,101,46,103,101,116,95,98,111,117,110,100,115]
def SW:Str:=sT [83,117,109,78,111,100,101,46,95,95,109,117,108,95,95]
def SX:Str:=sT [83,117,109,78,111,100,101,46,95,95,102,108,111,111,114,100,105,118,95,95]
def SY:Str:=sT [83,117,109,78,111,100,101,46,95,95,109,111,100,95,95]
def Ta:Str:=sT [83,117,109,78,111,100,101,46,115,117,98,115,116,105,116,117,116,101]
def Tb:Str:=sT [83,117,109,78,111,100,101,46,116,101,120,116]
def Tc:Str:=sT [83,117,109,78,111,100,101,46,102,108,97,116,95,99,111,109,112,111,110,101,110,116,115]
noncomputable def l0:String:="builtins.__doc__:str#opaque"
noncomputable def l1:String:="builtins.__package__:str#opaque"
noncomputable def l2:String:="builtins.__loader__:shared#opaque"
noncomputable def l3:String:="builtins.copyright#opaque"
noncomputable def l4:String:="builtins.credits#opaque"
noncomputable def l5:String:="builtins.license#opaque"
noncomputable def hS(l:List Value):OO:=λ_ _=>⟨(.type y0),none,.seq ⟨l⟩ 0,⟨[]⟩⟩
noncomputable def hL(t:String)(l:List Value):OO:=λ_ _=>⟨(.type t),none,.fields ⟨l⟩,⟨[]⟩⟩
def hC(a b:Str)(k i n r m F Q:Nat)(f:Bool)(x y z:Value):OO:=hL y1 [.str a i,.str b (i+1),.str NW (i+2),.int n 0,.int k 0,.int 0 0,.int 0 0,.int F 0,.ref r,.bool f,.int Q 0,.ref (r+1),.none,x,y,z,.int m 0,.int n 0,.str NW (m+1)]
def hR(m k:Nat)(a b:Str)(i n r:Nat):OO:=hC a b k i n r m 3 181 true (.ref (r+2)) (.ref (r+3)) (.ref (r+4))
def hQ(k:Nat)(a b:Str)(i n r:Nat):OO:=hR (i+k+3) k a b i n r
def hB(a b:Str)(i n r:Nat):OO:=hC a b 0 i n r (i+3) 0 181 false .none .none .none
def hE(k:Nat)(a b:Str)(i n r:Nat):OO:=hC a b k i n r (i+3) 3 181 true .none .none (.ref (r+2))
def hM(g:Program->Stmt)(s:Str):OO:=λ_ p=>⟨.none,none,fnD 0 (g p) s .none .none .none .none none .none .none,⟨[]⟩⟩
def hF(g:Program->Stmt)(s:Str)(dV:Value)(d:Str)(k r:Nat):OO:=λ_ p=>⟨(.type y2),none,fnD 3 (g p) s dV .none .none (.str d k) none (.ref r) .none,⟨[]⟩⟩
def zP(i:Nat)(p:Program):Stmt:=stP p i
def zI(i j:Nat)(p:Program):Stmt:=inP p i j
noncomputable def hT(l:List (Nat×Nat×Nat)):OO:=λ_ _=>⟨.none,none,.fields ⟨List.rec [] (λt _ l=>.int t.1 0::.int t.2.1 0::.ref t.2.2::l) l⟩,⟨[]⟩⟩
noncomputable def h7(r d:Nat)(s:Str)(k:Nat):OO:=λ_ _=>⟨(.type y7),none,.plain,⟨[some (.ref r),some (.ref 3),some (.ref d),none,some (.str s k),none,some (.ref 0)]⟩⟩
noncomputable def kd(P:Params)(s:Str)(i:Nat)(v:Value):DictEntry:=⟨kh P s,.str s i,v⟩
def gA6(P:Params)(l:List DictEntry):List DictEntry:=kd P ⟨⟨[104,101,108,112]⟩⟩ 159 (.builtin SL.s7804999707787243718x20)::l
def gA0(P:Params)(l:List DictEntry):List DictEntry:=kd P s0 1 (.str s1 160)::kd P s2 2 (.builtin l0)::kd P s3 3 (.builtin l1)::kd P s4 4 (.builtin l2)::kd P s5 5 (.builtin SL.s11665532747177232413x24)::kd P ⟨⟨[95,95,98,117,105,108,100,95,99,108,97,115,115,95,95]⟩⟩ 6 (.builtin SL.s15183661809925369436x15)::kd P ⟨⟨[95,95,105,109,112,111,114,116,95,95]⟩⟩ 7 (.builtin SL.s13915890719876406383x10)::kd P ⟨⟨[97,98,115]⟩⟩ 8 (.builtin SL.s13459172003223722735x3)::kd P ⟨⟨[97,108,108]⟩⟩ 9 (.builtin SL.s10557405761357834076x3)::kd P ⟨⟨[97,110,121]⟩⟩ 10 (.builtin SL.s4233737765568776869x3)::kd P ⟨⟨[97,115,99,105,105]⟩⟩ 11 (.builtin SL.s2508922471967985374x5)::kd P ⟨⟨[98,105,110]⟩⟩ 12 (.builtin SL.s15574269061696679450x3)::kd P ⟨⟨[98,114,101,97,107,112,111,105,110,116]⟩⟩ 13 (.builtin SL.s6016482663378992977x10)::kd P ⟨⟨[99,97,108,108,97,98,108,101]⟩⟩ 14 (.builtin SL.s5596568736180474577x8)::kd P ⟨⟨[99,104,114]⟩⟩ 15 (.builtin SL.s2839554839881490554x3)::kd P ⟨⟨[99,111,109,112,105,108,101]⟩⟩ 16 (.builtin SL.s725004073602090463x7)::kd P ⟨⟨[100,101,108,97,116,116,114]⟩⟩ 17 (.builtin SL.s9436932552931045734x7)::kd P ⟨⟨[100,105,114]⟩⟩ 18 (.builtin SL.s2754603736356183583x3)::kd P ⟨⟨[100,105,118,109,111,100]⟩⟩ 19 (.builtin SL.s15185746759980889043x6)::kd P ⟨⟨[101,118,97,108]⟩⟩ 20 (.builtin SL.s8192189862530294059x4)::kd P ⟨⟨[101,120,101,99]⟩⟩ 21 (.builtin SL.s7038307821325472102x4)::kd P ⟨⟨[102,111,114,109,97,116]⟩⟩ 22 (.builtin SL.s5662562618415449548x6)::kd P ⟨⟨[103,101,116,97,116,116,114]⟩⟩ 23 (.builtin SL.s15281542589158584767x7)::kd P ⟨⟨[103,108,111,98,97,108,115]⟩⟩ 24 (.builtin SL.s17651547275483570877x7)::kd P ⟨⟨[104,97,115,97,116,116,114]⟩⟩ 25 (.builtin SL.s4036449017235975746x7)::kd P ⟨⟨[104,97,115,104]⟩⟩ 26 (.builtin SL.s8879979712987360175x4)::kd P ⟨⟨[104,101,120]⟩⟩ 27 (.builtin SL.s1801250619170735830x3)::kd P ⟨⟨[105,100]⟩⟩ 28 (.builtin SL.s17659931425627118568x2)::kd P ⟨⟨[105,110,112,117,116]⟩⟩ 29 (.builtin SL.s6063217899685152688x5)::kd P ⟨⟨[105,115,105,110,115,116,97,110,99,101]⟩⟩ 30 (.builtin SL.s8008927332132565319x10)::kd P ⟨⟨[105,115,115,117,98,99,108,97,115,115]⟩⟩ 31 (.builtin SL.s3544116645089599534x10)::kd P ⟨⟨[105,116,101,114]⟩⟩ 32 (.builtin SL.s13761710972054866084x4)::kd P ⟨⟨[97,105,116,101,114]⟩⟩ 33 (.builtin SL.s12896375587409280029x5)::kd P ⟨⟨[108,101,110]⟩⟩ 34 (.builtin SL.s13014049009108672802x3)::kd P ⟨⟨[108,111,99,97,108,115]⟩⟩ 35 (.builtin SL.s13935586738268321596x6)::kd P ZE 36 (.builtin SL.s8200498257699607233x3)::kd P ZF 37 (.builtin SL.s14114244577727609259x3)::kd P ⟨⟨[110,101,120,116]⟩⟩ 38 (.builtin SL.s1499430450269397089x4)::kd P ⟨⟨[97,110,101,120,116]⟩⟩ 39 (.builtin SL.s8755793994789770505x5)::kd P ⟨⟨[111,99,116]⟩⟩ 40 (.builtin SL.s15725212667919936108x3)::kd P ⟨⟨[111,114,100]⟩⟩ 41 (.builtin SL.s15791221867095933363x3)::kd P ⟨⟨[112,111,119]⟩⟩ 42 (.builtin SL.s81309575031448614x3)::kd P ⟨⟨[112,114,105,110,116]⟩⟩ 43 (.builtin SL.s8069831620301644142x5)::kd P ⟨⟨[114,101,112,114]⟩⟩ 44 (.builtin SL.s10061844253413749634x4)::kd P ⟨⟨[114,111,117,110,100]⟩⟩ 45 (.builtin SL.s9496514870978017513x5)::kd P ⟨⟨[115,101,116,97,116,116,114]⟩⟩ 46 (.builtin SL.s8899691144933366716x7)::kd P ⟨⟨[115,111,114,116,101,100]⟩⟩ 47 (.builtin SL.s15201008993051130160x6)::kd P ZG 48 (.builtin SL.s741896355592496720x3)::kd P GG 49 (.builtin SL.s17925004256654032244x4)::kd P ⟨⟨[78,111,110,101]⟩⟩ 50 .none::kd P ⟨⟨[69,108,108,105,112,115,105,115]⟩⟩ 51 .ellipsis::kd P ⟨⟨[78,111,116,73,109,112,108,101,109,101,110,116,101,100]⟩⟩ 52 .notImplemented::kd P ⟨⟨[70,97,108,115,101]⟩⟩ 53 (.bool false)::kd P ⟨⟨[84,114,117,101]⟩⟩ 54 (.bool true)::kd P ⟨⟨[98,111,111,108]⟩⟩ 55 (.type SL.s11695548795398191787x4)::kd P ⟨⟨[109,101,109,111,114,121,118,105,101,119]⟩⟩ 56 (.type SL.s4156966113859768872x10)::kd P ⟨⟨[98,121,116,101,97,114,114,97,121]⟩⟩ 57 (.type SL.s9501651726347032510x9)::kd P ⟨⟨[98,121,116,101,115]⟩⟩ 58 (.type SL.s15722918466584999320x5)::kd P ⟨⟨[99,108,97,115,115,109,101,116,104,111,100]⟩⟩ 59 (.type SL.s591115383303110208x11)::kd P ⟨⟨[99,111,109,112,108,101,120]⟩⟩ 60 (.type SL.s15721156781594690315x7)::kd P ⟨⟨[100,105,99,116]⟩⟩ 61 (.type y3)::kd P ⟨⟨[101,110,117,109,101,114,97,116,101]⟩⟩ 62 (.type SL.s14340494229221121180x9)::kd P ⟨⟨[102,105,108,116,101,114]⟩⟩ 63 (.type SL.s13429844117177748173x6)::kd P ⟨⟨[102,108,111,97,116]⟩⟩ 64 (.type SL.s16463266125957815391x5)::kd P ⟨⟨[102,114,111,122,101,110,115,101,116]⟩⟩ 65 (.type SL.s4922535414793169389x9)::kd P ⟨⟨[112,114,111,112,101,114,116,121]⟩⟩ 66 (.type y12)::kd P ⟨⟨[105,110,116]⟩⟩ 67 (.type SL.s7066276694103001551x3)::kd P ⟨⟨[108,105,115,116]⟩⟩ 68 (.type SL.s9222952809800978799x4)::kd P ⟨⟨[109,97,112]⟩⟩ 69 (.type SL.s462964344163437139x3)::kd P ⟨⟨[111,98,106,101,99,116]⟩⟩ 70 (.type y6)::kd P ⟨⟨[114,97,110,103,101]⟩⟩ 71 (.type SL.s1438033511350832697x5)::kd P ⟨⟨[114,101,118,101,114,115,101,100]⟩⟩ 72 (.type SL.s14365286008749172514x8)::kd P ⟨⟨[115,101,116]⟩⟩ 73 (.type SL.s3642769012341782148x3)::kd P ⟨⟨[115,108,105,99,101]⟩⟩ 74 (.type SL.s4674234679698826739x5)::kd P ⟨⟨[115,116,97,116,105,99,109,101,116,104,111,100]⟩⟩ 75 (.type y13)::kd P ⟨⟨[115,116,114]⟩⟩ 76 (.type SL.s10796804682411823810x3)::kd P ⟨⟨[115,117,112,101,114]⟩⟩ 77 (.type y8)::kd P ⟨⟨[116,117,112,108,101]⟩⟩ 78 (.type y0)::kd P ⟨⟨[116,121,112,101]⟩⟩ 79 (.type y4)::kd P ⟨⟨[122,105,112]⟩⟩ 80 (.type SL.s14339709457334898076x3)::kd P ⟨⟨[95,95,100,101,98,117,103,95,95]⟩⟩ 81 (.bool true)::kd P ⟨⟨[66,97,115,101,69,120,99,101,112,116,105,111,110]⟩⟩ 82 (.type SL.s4278001404047624695x13)::kd P ⟨⟨[66,97,115,101,69,120,99,101,112,116,105,111,110,71,114,111,117,112]⟩⟩ 83 (.type SL.s6585700554429387442x18)::kd P ⟨⟨[69,120,99,101,112,116,105,111,110]⟩⟩ 84 (.type SL.s5946037652744460706x9)::kd P ⟨⟨[71,101,110,101,114,97,116,111,114,69,120,105,116]⟩⟩ 85 (.type SL.s7410770068591931388x13)::kd P ⟨⟨[75,101,121,98,111,97,114,100,73,110,116,101,114,114,117,112,116]⟩⟩ 86 (.type SL.s11817881795495490833x17)::kd P ⟨⟨[83,121,115,116,101,109,69,120,105,116]⟩⟩ 87 (.type SL.s15679963881808890155x10)::kd P ⟨⟨[65,114,105,116,104,109,101,116,105,99,69,114,114,111,114]⟩⟩ 88 (.type SL.s3871700062485845797x15)::kd P ⟨⟨[65,115,115,101,114,116,105,111,110,69,114,114,111,114]⟩⟩ 89 (.type SL.s7689518266570723881x14)::kd P ⟨⟨[65,116,116,114,105,98,117,116,101,69,114,114,111,114]⟩⟩ 90 (.type SL.s9001593270443806431x14)::kd P ⟨⟨[66,117,102,102,101,114,69,114,114,111,114]⟩⟩ 91 (.type SL.s6882542574934516792x11)::kd P ⟨⟨[69,79,70,69,114,114,111,114]⟩⟩ 92 (.type SL.s14403400214490484960x8)::kd P ⟨⟨[73,109,112,111,114,116,69,114,114,111,114]⟩⟩ 93 (.type SL.s14457978657717015782x11)::kd P ⟨⟨[76,111,111,107,117,112,69,114,114,111,114]⟩⟩ 94 (.type SL.s1753610191782819921x11)::kd P ⟨⟨[77,101,109,111,114,121,69,114,114,111,114]⟩⟩ 95 (.type SL.s14119380538032626715x11)::kd P ⟨⟨[78,97,109,101,69,114,114,111,114]⟩⟩ 96 (.type SL.s11437920000406562045x9)::kd P ⟨⟨[79,83,69,114,114,111,114]⟩⟩ 97 (.type y14)::kd P ⟨⟨[82,101,102,101,114,101,110,99,101,69,114,114,111,114]⟩⟩ 98 (.type SL.s14816307405966870543x14)::kd P ⟨⟨[82,117,110,116,105,109,101,69,114,114,111,114]⟩⟩ 99 (.type SL.s8682627914449686677x12)::kd P ⟨⟨[83,116,111,112,65,115,121,110,99,73,116,101,114,97,116,105,111,110]⟩⟩ 100 (.type SL.s4428170145600203450x18)::kd P ⟨⟨[83,116,111,112,73,116,101,114,97,116,105,111,110]⟩⟩ 101 (.type SL.s5991306692159431302x13)::kd P ⟨⟨[83,121,110,116,97,120,69,114,114,111,114]⟩⟩ 102 (.type SL.s16067994140765818257x11)::kd P ⟨⟨[83,121,115,116,101,109,69,114,114,111,114]⟩⟩ 103 (.type SL.s2327743974964600596x11)::kd P ⟨⟨[84,121,112,101,69,114,114,111,114]⟩⟩ 104 (.type SL.s2804747833354056582x9)::kd P ⟨⟨[86,97,108,117,101,69,114,114,111,114]⟩⟩ 105 (.type SL.s6070975301684473832x10)::kd P ⟨⟨[87,97,114,110,105,110,103]⟩⟩ 106 (.type SL.s14270485950484850486x7)::kd P ⟨⟨[70,108,111,97,116,105,110,103,80,111,105,110,116,69,114,114,111,114]⟩⟩ 107 (.type SL.s12041534306414923332x18)::kd P ⟨⟨[79,118,101,114,102,108,111,119,69,114,114,111,114]⟩⟩ 108 (.type SL.s2531307568338490285x13)::kd P ⟨⟨[90,101,114,111,68,105,118,105,115,105,111,110,69,114,114,111,114]⟩⟩ 109 (.type SL.s631175304937289666x17)::kd P ⟨⟨[66,121,116,101,115,87,97,114,110,105,110,103]⟩⟩ 110 (.type SL.s5144983644357021410x12)::kd P ⟨⟨[68,101,112,114,101,99,97,116,105,111,110,87,97,114,110,105,110,103]⟩⟩ 111 (.type SL.s18039099521571816885x18)::kd P ⟨⟨[69,110,99,111,100,105,110,103,87,97,114,110,105,110,103]⟩⟩ 112 (.type SL.s6011586214260557989x15)::kd P ⟨⟨[70,117,116,117,114,101,87,97,114,110,105,110,103]⟩⟩ 113 (.type SL.s5430567037509283100x13)::kd P ⟨⟨[73,109,112,111,114,116,87,97,114,110,105,110,103]⟩⟩ 114 (.type SL.s8117915138073963741x13)::kd P ⟨⟨[80,101,110,100,105,110,103,68,101,112,114,101,99,97,116,105,111,110,87,97,114,110,105,110,103]⟩⟩ 115 (.type SL.s3423317712779056401x25)::kd P ⟨⟨[82,101,115,111,117,114,99,101,87,97,114,110,105,110,103]⟩⟩ 116 (.type SL.s2007317383269046180x15)::kd P ⟨⟨[82,117,110,116,105,109,101,87,97,114,110,105,110,103]⟩⟩ 117 (.type SL.s17481586968713580700x14)::kd P ⟨⟨[83,121,110,116,97,120,87,97,114,110,105,110,103]⟩⟩ 118 (.type SL.s2450899226349176912x13)::kd P ⟨⟨[85,110,105,99,111,100,101,87,97,114,110,105,110,103]⟩⟩ 119 (.type SL.s16626165730633575011x14)::kd P ⟨⟨[85,115,101,114,87,97,114,110,105,110,103]⟩⟩ 120 (.type SL.s14288496050688921416x11)::kd P ⟨⟨[66,108,111,99,107,105,110,103,73,79,69,114,114,111,114]⟩⟩ 121 (.type SL.s5735081916595925998x15)::kd P ⟨⟨[67,104,105,108,100,80,114,111,99,101,115,115,69,114,114,111,114]⟩⟩ 122 (.type SL.s3865607918536308442x17)::kd P ⟨⟨[67,111,110,110,101,99,116,105,111,110,69,114,114,111,114]⟩⟩ 123 (.type SL.s13337502604062700212x15)::kd P ⟨⟨[70,105,108,101,69,120,105,115,116,115,69,114,114,111,114]⟩⟩ 124 (.type SL.s13114017843053701147x15)::kd P ⟨⟨[70,105,108,101,78,111,116,70,111,117,110,100,69,114,114,111,114]⟩⟩ 125 (.type SL.s17467278006356818441x17)::kd P ⟨⟨[73,110,116,101,114,114,117,112,116,101,100,69,114,114,111,114]⟩⟩ 126 (.type SL.s17722149559621369488x16)::kd P ⟨⟨[73,115,65,68,105,114,101,99,116,111,114,121,69,114,114,111,114]⟩⟩ 127 (.type SL.s7855274175708717672x17)::kd P ⟨⟨[78,111,116,65,68,105,114,101,99,116,111,114,121,69,114,114,111,114]⟩⟩ 128 (.type SL.s13351283678309829046x18)::kd P ⟨⟨[80,101,114,109,105,115,115,105,111,110,69,114,114,111,114]⟩⟩ 129 (.type SL.s6668348653404991179x15)::kd P ⟨⟨[80,114,111,99,101,115,115,76,111,111,107,117,112,69,114,114,111,114]⟩⟩ 130 (.type SL.s12913350958174193794x18)::kd P ⟨⟨[84,105,109,101,111,117,116,69,114,114,111,114]⟩⟩ 131 (.type SL.s16115879512475548326x12)::kd P ⟨⟨[73,110,100,101,110,116,97,116,105,111,110,69,114,114,111,114]⟩⟩ 132 (.type SL.s15920661018069861047x16)::kd P ⟨⟨[95,73,110,99,111,109,112,108,101,116,101,73,110,112,117,116,69,114,114,111,114]⟩⟩ 133 (.type SL.s10779130036587390575x21)::kd P ⟨⟨[73,110,100,101,120,69,114,114,111,114]⟩⟩ 134 (.type SL.s7801419657504700863x10)::kd P ⟨⟨[75,101,121,69,114,114,111,114]⟩⟩ 135 (.type SL.s1688129525768580628x8)::kd P ⟨⟨[77,111,100,117,108,101,78,111,116,70,111,117,110,100,69,114,114,111,114]⟩⟩ 136 (.type SL.s1031832959479892071x19)::kd P ⟨⟨[78,111,116,73,109,112,108,101,109,101,110,116,101,100,69,114,114,111,114]⟩⟩ 137 (.type SL.s8991790508128307865x19)::kd P ⟨⟨[80,121,116,104,111,110,70,105,110,97,108,105,122,97,116,105,111,110,69,114,114,111,114]⟩⟩ 138 (.type SL.s14539662485746970245x23)::kd P ⟨⟨[82,101,99,117,114,115,105,111,110,69,114,114,111,114]⟩⟩ 139 (.type SL.s11643622729373238714x14)::kd P ⟨⟨[85,110,98,111,117,110,100,76,111,99,97,108,69,114,114,111,114]⟩⟩ 140 (.type SL.s3386828779285465597x17)::kd P ⟨⟨[85,110,105,99,111,100,101,69,114,114,111,114]⟩⟩ 141 (.type SL.s13042696260734638735x12)::kd P ⟨⟨[66,114,111,107,101,110,80,105,112,101,69,114,114,111,114]⟩⟩ 142 (.type SL.s18239426817015966623x15)::kd P ⟨⟨[67,111,110,110,101,99,116,105,111,110,65,98,111,114,116,101,100,69,114,114,111,114]⟩⟩ 143 (.type SL.s1270395311379034370x22)::kd P ⟨⟨[67,111,110,110,101,99,116,105,111,110,82,101,102,117,115,101,100,69,114,114,111,114]⟩⟩ 144 (.type SL.s10696252587037064777x22)::kd P ⟨⟨[67,111,110,110,101,99,116,105,111,110,82,101,115,101,116,69,114,114,111,114]⟩⟩ 145 (.type SL.s7852717498200857586x20)::kd P ⟨⟨[84,97,98,69,114,114,111,114]⟩⟩ 146 (.type SL.s6377248116197321094x8)::kd P ⟨⟨[85,110,105,99,111,100,101,68,101,99,111,100,101,69,114,114,111,114]⟩⟩ 147 (.type SL.s3834378056692298002x18)::kd P ⟨⟨[85,110,105,99,111,100,101,69,110,99,111,100,101,69,114,114,111,114]⟩⟩ 148 (.type SL.s17586630440231065808x18)::kd P ⟨⟨[85,110,105,99,111,100,101,84,114,97,110,115,108,97,116,101,69,114,114,111,114]⟩⟩ 149 (.type SL.s15234114252648025395x21)::kd P ⟨⟨[69,120,99,101,112,116,105,111,110,71,114,111,117,112]⟩⟩ 150 (.type SL.s8496462677383758984x14)::kd P ⟨⟨[69,110,118,105,114,111,110,109,101,110,116,69,114,114,111,114]⟩⟩ 151 (.type y14)::kd P ⟨⟨[73,79,69,114,114,111,114]⟩⟩ 152 (.type y14)::kd P ⟨⟨[111,112,101,110]⟩⟩ 153 (.builtin SL.s16789243406116112673x4)::kd P ⟨⟨[113,117,105,116]⟩⟩ 154 (.builtin SL.s14400166428656793546x20)::kd P ⟨⟨[101,120,105,116]⟩⟩ 155 (.builtin SL.s5857708277339239366x20)::l
def o0:OO:=λP p=>⟨(.type y3),none,.dict ⟨(gA0 P (kd P ⟨⟨[99,111,112,121,114,105,103,104,116]⟩⟩ 156 (.builtin l3)::(kd P ⟨⟨[99,114,101,100,105,116,115]⟩⟩ 157 (.builtin l4)::(kd P ⟨⟨[108,105,99,101,110,115,101]⟩⟩ 158 (.builtin l5)::(gA6 P [])))))⟩ 159,⟨[]⟩⟩
def o1:OO:=λP p=>⟨(.type y3),none,.dict ⟨[kd P s1 162 (.ref 4),kd P Jj 163 (.ref 5)]⟩ 2,⟨[]⟩⟩
noncomputable def o2:OO:=λP p=>⟨.none,none,.dict ⟨[]⟩ 0,⟨[]⟩⟩
def o3:OO:=λP p=>⟨(.type y3),none,.dict ⟨[kd P s0 165 (.str Jk 985),kd P s2 166 .none,kd P s3 167 .none,kd P s4 168 (.builtin SL.s7097527257260152453x26),kd P s5 169 .none,kd P NV 170 (.ref 6),kd P ZH 171 (.ref 4),kd P ZI 173 (.str NW 172),kd P ZJ 174 .none,kd P Jl 193 (.ref 21),kd P Jm 206 (.ref 28),kd P Jn 216 (.ref 35),kd P Cq 451 (.ref 220),kd P Cr 520 (.ref 277),kd P Ct 588 (.ref 331),kd P Jo 597 (.ref 340),kd P Jp 604 (.ref 347),kd P Jq 610 (.ref 352),kd P Cu 653 (.ref 383),kd P Cv 692 (.ref 416),kd P Cw 756 (.ref 471),kd P Cx 804 (.ref 512),kd P Cy 860 (.ref 560),kd P Cz 901 (.ref 593),kd P C0 970 (.ref 644),kd P Jr 978 (.ref 654),kd P Js 984 (.ref 659),kd P Jt 992 (.ref 666),kd P Ju 1000 (.ref 673),kd P Jv 1007 (.ref 680),kd P Jw 1035 (.ref 687)]⟩ 31,⟨[]⟩⟩
noncomputable def o4:OO:=λP p=>⟨(.type SL.s6658869562736209489x6),some 0,.plain,⟨[]⟩⟩
noncomputable def o5:OO:=λP p=>⟨(.type SL.s6658869562736209489x6),some 3,.plain,⟨[]⟩⟩
noncomputable def o6:OO:=λP p=>⟨(.type y3),none,.dict ⟨[]⟩ 0,⟨[]⟩⟩
def o7:OO:=hS []
noncomputable def o8:OO:=λP p=>⟨.none,none,.fields ⟨[]⟩,⟨[]⟩⟩
def o9:OO:=hC NX NX 0 176 1 7 179 0 175 false .none .none .none
def o10:OO:=h7 9 3 Jj 164
def o12:OO:=hT [(1,0,20),(5,0,27),(12,0,34),(16,0,41),(154,0,230),(178,0,285),(201,0,339),(206,0,346),(211,0,351),(238,0,358),(249,0,391),(263,0,424),(291,0,479),(305,0,520),(326,0,568),(337,0,601),(408,0,653),(410,0,658),(417,0,665),(419,0,672),(425,0,679),(427,0,686)]
def o13:OO:=hB NX NX 182 1 11
def o14:OO:=h7 13 3 Jj 164
def o17:OO:=hS [(.str Rz 190)]
def o19:OO:=hM (zP 0) Jl
def o20:OO:=hQ 1 Jl Jl 187 1 15
def o21:OO:=hF (zP 0) Jl .none Jj 164 20
def o24:OO:=hS [(.str ⟨⟨[105,116,114]⟩⟩ 199),(.str ⟨⟨[102,120,110]⟩⟩ 200),(.str Jx 201),(.str mP 202),(.str ⟨⟨[115]⟩⟩ 203)]
def o26:OO:=hM (zP 2) Jm
def o27:OO:=hR 204 2 Jm Jm 196 5 22
def o28:OO:=hF (zP 2) Jm .none ⟨⟨[116,105,110,121,103,114,97,100,46,104,101,108,112,101,114,115]⟩⟩ 194 27
def o31:OO:=hS [(.str Jx 212),(.str mP 213)]
def o33:OO:=hM (zP 4) Jn
def o34:OO:=hQ 2 Jn Jn 209 12 29
def o35:OO:=hF (zP 4) Jn .none c9 207 34
def A8:OO:=hL y5 [(.builtin y9),(.type y4)]
def o38:OO:=λP p=>⟨(.type y3),none,.dict ⟨[kd P pQ 224 (.str c9 207),kd P xI 226 (.str Cq 225),kd P qW 228 (.int 16 227),kd P R0 229 .none,kd P R1 237 (.ref 50),kd P GG 244 (.ref 57),kd P oH 252 (.ref 64),kd P NY 260 (.ref 72),kd P R2 267 (.ref 79),kd P GH 275 (.ref 86),kd P R3 282 (.ref 93),kd P R5 290 (.ref 100),kd P R6 298 (.ref 107),kd P R7 306 (.ref 114),kd P R8 314 (.ref 121),kd P R9 322 (.ref 128),kd P RA 330 (.ref 135),kd P RB 338 (.ref 142),kd P RC 346 (.ref 149),kd P xJ 354 (.ref 156),kd P RD 362 (.ref 163),kd P RE 370 (.ref 170),kd P RF 378 (.ref 177),kd P uD 388 (.ref 185),kd P RG 396 (.ref 192),kd P xK 404 (.ref 199),kd P ZG 422 (.ref 206),kd P NZ 441 (.ref 216),kd P qX 443 (.ref 218)]⟩ 29,⟨[]⟩⟩
def o40:OO:=hT [(19,4,49),(23,4,56),(26,4,63),(30,4,70),(35,4,78),(38,4,85),(43,4,92),(46,4,99),(49,4,106),(52,4,113),(55,4,120),(58,4,127),(61,4,134),(64,4,141),(67,4,148),(70,4,155),(77,4,162),(80,4,169),(83,4,176),(86,4,184),(105,4,191),(108,4,198),(128,4,203),(152,4,213)]
def o41:OO:=hB Cq Cq 219 16 39
def o42:OO:=h7 41 38 c9 207
def Z5:OO:=hS [.none]
def o46:OO:=hS [(.str fQ 233),(.str C7 234)]
def o48:OO:=hM (zI 5 1) RH
def o49:OO:=hQ 2 R1 RH 230 19 44
def o50:OO:=hF (zI 5 1) RH (.ref 43) c9 207 49
def o53:OO:=hS [(.str fQ 241)]
def o55:OO:=hM (zI 5 2) RI
def o56:OO:=hQ 1 GG RI 238 23 51
def o57:OO:=hF (zI 5 2) RI .none c9 207 56
def o60:OO:=hS [(.str fQ 248),(.str DY 249)]
def o62:OO:=hM (zI 5 3) RJ
def o63:OO:=hQ 2 oH RJ 245 26 58
def o64:OO:=hF (zI 5 3) RJ .none c9 207 63
def o67:OO:=hS [(.str fQ 256)]
def o69:OO:=hM (zI 5 4) RK
def o70:OO:=hQ 1 NY RK 253 29 65
def o71:OO:=hF (zI 5 4) RK .none c9 207 70
def o72:OO:=hL y12 [(.ref 71),.none,.none,.none,(.str NY 260),(.bool false)]
def o75:OO:=hS [(.str fQ 264)]
def o77:OO:=hM (zI 5 5) RL
def o78:OO:=hQ 1 R2 RL 261 35 73
def o79:OO:=hF (zI 5 5) RL .none c9 207 78
def o82:OO:=hS [(.str fQ 271),(.str ⟨⟨[111,116,104,101,114]⟩⟩ 272)]
def o84:OO:=hM (zI 5 6) RM
def o85:OO:=hQ 2 GH RM 268 38 80
def o86:OO:=hF (zI 5 6) RM .none c9 207 85
def o89:OO:=hS [(.str fQ 279)]
def o91:OO:=hM (zI 5 7) RN
def o92:OO:=hQ 1 R3 RN 276 43 87
def o93:OO:=hF (zI 5 7) RN .none c9 207 92
def o96:OO:=hS [(.str fQ 286),(.str mP 287)]
def o98:OO:=hM (zI 5 8) RO
def o99:OO:=hQ 2 R5 RO 283 46 94
def Td:OO:=hF (zI 5 8) RO .none c9 207 99
def Te:OO:=hS [(.str fQ 294),(.str mP 295)]
def ZN:OO:=hM (zI 5 9) RP
def Tf:OO:=hQ 2 R6 RP 291 49 101
def Tg:OO:=hF (zI 5 9) RP .none c9 207 106
def Th:OO:=hS [(.str fQ 302),(.str mP 303)]
def ZO:OO:=hM (zI 5 10) RQ
def Ti:OO:=hQ 2 R7 RQ 299 52 108
def Tj:OO:=hF (zI 5 10) RQ .none c9 207 113
def Tk:OO:=hS [(.str fQ 310),(.str mP 311)]
def ZP:OO:=hM (zI 5 11) RS
def Tl:OO:=hQ 2 R8 RS 307 55 115
def Tn:OO:=hF (zI 5 11) RS .none c9 207 120
def To:OO:=hS [(.str fQ 318),(.str mP 319)]
def ZQ:OO:=hM (zI 5 12) RT
def Tq:OO:=hQ 2 R9 RT 315 58 122
def Tr:OO:=hF (zI 5 12) RT .none c9 207 127
def Ts:OO:=hS [(.str fQ 326),(.str mP 327)]
def ZR:OO:=hM (zI 5 13) RU
def Tu:OO:=hQ 2 RA RU 323 61 129
def Tv:OO:=hF (zI 5 13) RU .none c9 207 134
def Tw:OO:=hS [(.str fQ 334),(.str mP 335)]
def ZS:OO:=hM (zI 5 14) RV
def Tx:OO:=hQ 2 RB RV 331 64 136
def Ty:OO:=hF (zI 5 14) RV .none c9 207 141
def Tz:OO:=hS [(.str fQ 342),(.str mP 343)]
def ZT:OO:=hM (zI 5 15) RW
def T7:OO:=hQ 2 RC RW 339 67 143
def T8:OO:=hF (zI 5 15) RW .none c9 207 148
def T9:OO:=hS [(.str fQ 350),(.str mP 351)]
def ZU:OO:=hM (zI 5 16) RY
def TA:OO:=hQ 2 xJ RY 347 70 150
def TB:OO:=hF (zI 5 16) RY .none c9 207 155
def TC:OO:=hS [(.str fQ 358),(.str mP 359)]
def ZV:OO:=hM (zI 5 17) RZ
def TD:OO:=hQ 2 RD RZ 355 77 157
def TF:OO:=hF (zI 5 17) RZ .none c9 207 162
def TG:OO:=hS [(.str fQ 366),(.str mP 367)]
def ZW:OO:=hM (zI 5 18) Sa
def TH:OO:=hQ 2 RE Sa 363 80 164
def TI:OO:=hF (zI 5 18) Sa .none c9 207 169
def TJ:OO:=hS [(.str fQ 374),(.str mP 375)]
def ZX:OO:=hM (zI 5 19) Sb
def TK:OO:=hQ 2 RF Sb 371 83 171
def TL:OO:=hF (zI 5 19) Sb .none c9 207 176
def Br:OO:=hS [(.bool true)]
def TM:OO:=hS [(.str fQ 382),(.str mP 383),(.str Oa 384),(.str ⟨⟨[111,102,102,115,101,116]⟩⟩ 385)]
def ZY:OO:=hM (zI 5 20) Sc
def TN:OO:=hR 386 3 uD Sc 379 86 179
def TO:OO:=hF (zI 5 20) Sc (.ref 178) c9 207 184
def TP:OO:=hS [(.str fQ 392),(.str mP 393)]
def ZZ:OO:=hM (zI 5 21) Sd
def TQ:OO:=hQ 2 RG Sd 389 105 186
def TR:OO:=hF (zI 5 21) Sd .none c9 207 191
def TS:OO:=hS [(.str fQ 400),(.str mP 401)]
def à:OO:=hM (zI 5 22) Se
def TU:OO:=hQ 2 xK Se 397 108 193
def TV:OO:=hF (zI 5 22) Se .none c9 207 198
def á:OO:=hM (zI 5 23) Ob
def TX:OO:=hE 1 ZG Ob 405 127 200
def TY:OO:=λP p=>⟨(.type y2),none,fnD 3 (inP p 5 23) Ob .none .none .none (.str c9 207) (some 207) (.ref 203) .none,⟨[]⟩⟩
def TZ:OO:=λP p=>⟨(.type y3),none,.dict ⟨[kd P pQ 411 (.str c9 207),kd P s0 414 (.str ZG 413),kd P xI 417 (.str Ob 416),kd P s2 419 .none,kd P NV 421 (.ref 207)]⟩ 5,⟨[]⟩⟩
noncomputable def Ua:OO:=λP p=>⟨(.type y13),some 205,.fields ⟨[(.ref 204),(.bool false)]⟩,⟨[]⟩⟩
def Ub:OO:=hS [(.str Sf 426)]
def â:OO:=hM (zI 5 24) Oc
def Uc:OO:=hQ 1 NZ Oc 423 151 208
def Ud:OO:=λP p=>⟨(.type y2),none,fnD 3 (inP p 5 24) Oc .none .none .none (.str c9 207) (some 217) (.ref 213) .none,⟨[]⟩⟩
def Ue:OO:=λP p=>⟨(.type y3),none,.dict ⟨[kd P pQ 430 (.str c9 207),kd P s0 433 (.str NZ 432),kd P xI 436 (.str Oc 435),kd P s2 438 .none,kd P NV 440 (.ref 217)]⟩ 5,⟨[]⟩⟩
noncomputable def Uf:OO:=λP p=>⟨(.type y13),some 215,.fields ⟨[(.ref 214),(.bool false)]⟩,⟨[]⟩⟩
def Ug:OO:=hS [(.str R0 442)]
def Uh:OO:=λP p=>⟨(.type y3),none,.dict ⟨[kd P pQ 224 (.str c9 207),kd P qW 228 (.int 16 227),kd P R0 229 .none,kd P R1 237 (.ref 50),kd P GG 244 (.ref 57),kd P oH 252 (.ref 64),kd P NY 260 (.ref 72),kd P R2 267 (.ref 79),kd P GH 275 (.ref 86),kd P R3 282 (.ref 93),kd P R5 290 (.ref 100),kd P R6 298 (.ref 107),kd P R7 306 (.ref 114),kd P R8 314 (.ref 121),kd P R9 322 (.ref 128),kd P RA 330 (.ref 135),kd P RB 338 (.ref 142),kd P RC 346 (.ref 149),kd P xJ 354 (.ref 156),kd P RD 362 (.ref 163),kd P RE 370 (.ref 170),kd P RF 378 (.ref 177),kd P uD 388 (.ref 185),kd P RG 396 (.ref 192),kd P xK 404 (.ref 199),kd P ZG 422 (.ref 206),kd P NZ 441 (.ref 216),kd P qX 443 (.ref 218),kd P ZK 445 (.ref 221),kd P ZL 447 (.ref 222),kd P s2 448 .none,kd P ZM 449 .none]⟩ 5,⟨[]⟩⟩
noncomputable def Ui:OO:=λP p=>⟨(.type y4),none,.cls ⟨Cq,[(.type y6)],[(.ref 220),(.type y6)],219,Cq,true,[],[(.ref 277),(.ref 331),(.ref 383),(.ref 593)],false,none,false⟩,⟨[none,none,(some (.str Cq 217)),(some (.str Cq 225)),(some (.builtin NN)),(some (.bool true))]⟩⟩
def Uj:OO:=hL SL.s14755015743595814543x17 [(.str ZK 444),(.ref 220),(.builtin SL.s6511155373996960695x17),(.builtin SL.s12411053484034534018x21)]
def Uk:OO:=hL SL.s14755015743595814543x17 [(.str ZL 446),(.ref 220),(.builtin SL.s10220274742760427390x26),.none]
def ã:OO:=hL y8 [(.ref 220),(.ref 220),(.ref 220)]
def ä:OO:=hL y5 [(.builtin NO),(.ref 220)]
def xM:OO:=hS [(.ref 220)]
def å:OO:=λP p=>⟨(.type y3),none,.dict ⟨[kd P pQ 459 (.str c9 207),kd P xI 461 (.str Cr 460),kd P qW 463 (.int 154 462),kd P xL 473 (.ref 238),kd P GI 481 (.ref 246),kd P GK 489 (.ref 253),kd P GG 496 (.ref 260),kd P oH 504 (.ref 267),kd P qJ 512 (.ref 274),kd P qX 517 (.ref 275)]⟩ 10,⟨[]⟩⟩
def æ:OO:=hT [(156,4,237),(161,4,244),(165,4,252),(168,4,259),(171,4,266),(174,4,273)]
def ç:OO:=hB Cr Cr 454 154 228
def è:OO:=h7 230 227 c9 207
def Ul:OO:=hS [(.str fQ 467),(.str Sg 468),(.str ⟨⟨[110,109,105,110]⟩⟩ 469),(.str ⟨⟨[110,109,97,120]⟩⟩ 470)]
def é:OO:=hM (zI 6 0) Sh
def Um:OO:=hQ 4 xL Sh 464 156 232
def Un:OO:=hF (zI 6 0) Sh .none c9 207 237
def Uo:OO:=hS [(.str fQ 477)]
def ê:OO:=hM (zI 6 1) Si
def Up:OO:=hQ 1 GI Si 474 160 239
def Uq:OO:=hF (zI 6 1) Si .none c9 207 244
def Ur:OO:=hL y12 [(.ref 245),.none,.none,.none,(.str GI 481),(.bool false)]
def Us:OO:=hS [(.str fQ 485),(.str GI 486)]
def ë:OO:=hM (zI 6 2) Sj
def Ut:OO:=hQ 2 GK Sj 482 165 247
def Uu:OO:=hF (zI 6 2) Sj .none c9 207 252
def Uv:OO:=hS [(.str fQ 493)]
def ì:OO:=hM (zI 6 3) Sk
def Uw:OO:=hQ 1 GG Sk 490 168 254
def Ux:OO:=hF (zI 6 3) Sk .none c9 207 259
def Uy:OO:=hS [(.str fQ 500),(.str DY 501)]
def í:OO:=hM (zI 6 4) Sl
def Uz:OO:=hQ 2 oH Sl 497 171 261
def U0:OO:=hF (zI 6 4) Sl .none c9 207 266
def U1:OO:=hS [(.str fQ 508),(.str C7 509)]
def î:OO:=hM (zI 6 5) Sm
def U2:OO:=hQ 2 qJ Sm 505 174 268
def U3:OO:=hF (zI 6 5) Sm .none c9 207 273
def U4:OO:=hS [(.str ⟨⟨[95,118,97,108]⟩⟩ 513),(.str Sg 514),(.str ZE 515),(.str ZF 516)]
def U5:OO:=λP p=>⟨(.type y3),none,.dict ⟨[kd P pQ 459 (.str c9 207),kd P qW 463 (.int 154 462),kd P xL 473 (.ref 238),kd P GI 481 (.ref 246),kd P GK 489 (.ref 253),kd P GG 496 (.ref 260),kd P oH 504 (.ref 267),kd P qJ 512 (.ref 274),kd P qX 517 (.ref 275),kd P s2 518 .none]⟩ 2,⟨[]⟩⟩
noncomputable def U6:OO:=λP p=>⟨(.type y4),none,.cls ⟨Cr,[(.ref 220)],[(.ref 277),(.ref 220),(.type y6)],276,Cr,true,[],[],false,none,false⟩,⟨[(some (.ref 225)),none,(some (.str Cr 452)),(some (.str Cr 460)),(some (.builtin NN)),(some (.bool true))]⟩⟩
def ï:OO:=hL y8 [(.ref 277),(.ref 277),(.ref 277)]
def ð:OO:=hL y5 [(.builtin NO),(.ref 277)]
def ñ:OO:=λP p=>⟨(.type y3),none,.dict ⟨[kd P pQ 528 (.str c9 207),kd P xI 530 (.str Ct 529),kd P qW 532 (.int 178 531),kd P xL 540 (.ref 293),kd P GK 548 (.ref 300),kd P xJ 556 (.ref 307),kd P GH 564 (.ref 314),kd P oH 572 (.ref 321),kd P qJ 580 (.ref 328),kd P qX 584 (.ref 329)]⟩ 10,⟨[]⟩⟩
def ò:OO:=hT [(180,4,292),(185,4,299),(188,4,306),(191,4,313),(196,4,320),(199,4,327)]
def ó:OO:=hB Ct Ct 523 178 283
def ô:OO:=h7 285 282 c9 207
def U7:OO:=hS [(.str fQ 536),(.str ⟨⟨[110,117,109]⟩⟩ 537)]
def õ:OO:=hM (zI 7 0) Sn
def U8:OO:=hQ 2 xL Sn 533 180 287
def U9:OO:=hF (zI 7 0) Sn .none c9 207 292
def UA:OO:=hS [(.str fQ 544),(.str GI 545)]
def ö:OO:=hM (zI 7 1) So
def UB:OO:=hQ 2 GK So 541 185 294
def UC:OO:=hF (zI 7 1) So .none c9 207 299
def UD:OO:=hS [(.str fQ 552),(.str mP 553)]
def ø:OO:=hM (zI 7 2) Sr
def UE:OO:=hQ 2 xJ Sr 549 188 301
def UF:OO:=hF (zI 7 2) Sr .none c9 207 306
def UG:OO:=hS [(.str fQ 560),(.str ⟨⟨[111,116,104,101,114]⟩⟩ 561)]
def ù:OO:=hM (zI 7 3) Ss
def UH:OO:=hQ 2 GH Ss 557 191 308
def UI:OO:=hF (zI 7 3) Ss .none c9 207 313
def UJ:OO:=hS [(.str fQ 568),(.str DY 569)]
def ú:OO:=hM (zI 7 4) Su
def UK:OO:=hQ 2 oH Su 565 196 315
def UL:OO:=hF (zI 7 4) Su .none c9 207 320
def UM:OO:=hS [(.str fQ 576),(.str C7 577)]
def û:OO:=hM (zI 7 5) Sv
def UN:OO:=hQ 2 qJ Sv 573 199 322
def UO:OO:=hF (zI 7 5) Sv .none c9 207 327
def UP:OO:=hS [(.str mP 581),(.str ZE 582),(.str ZF 583)]
def UQ:OO:=λP p=>⟨(.type y3),none,.dict ⟨[kd P pQ 528 (.str c9 207),kd P qW 532 (.int 178 531),kd P xL 540 (.ref 293),kd P GK 548 (.ref 300),kd P xJ 556 (.ref 307),kd P GH 564 (.ref 314),kd P oH 572 (.ref 321),kd P qJ 580 (.ref 328),kd P qX 584 (.ref 329),kd P s2 585 .none,kd P ZM 586 .none]⟩ 3,⟨[]⟩⟩
noncomputable def UR:OO:=λP p=>⟨(.type y4),none,.cls ⟨Ct,[(.ref 220)],[(.ref 331),(.ref 220),(.type y6)],330,Ct,true,[],[],false,none,false⟩,⟨[(some (.ref 280)),none,(some (.str Ct 521)),(some (.str Ct 529)),(some (.builtin NN)),(some (.bool true))]⟩⟩
def ü:OO:=hL y8 [(.ref 331),(.ref 331),(.ref 331)]
def ý:OO:=hL y5 [(.builtin NO),(.ref 331)]
def US:OO:=hS [(.str Sg 592),(.str ⟨⟨[110,109,105,110]⟩⟩ 593),(.str ⟨⟨[110,109,97,120]⟩⟩ 594)]
def þ:OO:=hM (zP 8) Jo
def UT:OO:=hQ 3 Jo Jo 589 201 334
def UU:OO:=hF (zP 8) Jo .none c9 207 339
def UV:OO:=hS [(.str ⟨⟨[114,101,116]⟩⟩ 601)]
def κ:OO:=hM (zP 9) Jp
def UW:OO:=hQ 1 Jp Jp 598 206 341
def UX:OO:=hF (zP 9) Jp .none c9 207 346
def μ:OO:=hM (zP 10) Jq
def UY:OO:=hE 2 Jq Jq 605 211 348
def UZ:OO:=hF (zP 10) Jq .none c9 207 351
def ξ:OO:=λP p=>⟨(.type y3),none,.dict ⟨[kd P pQ 618 (.str c9 207),kd P xI 620 (.str Cu 619),kd P qW 622 (.int 238 621),kd P xL 631 (.ref 366),kd P GG 638 (.ref 373),kd P qK 645 (.ref 380),kd P qX 650 (.ref 381)]⟩ 7,⟨[]⟩⟩
def π:OO:=hT [(240,4,365),(244,4,372),(247,4,379)]
def σ:OO:=hB Cu Cu 613 238 356
def φ:OO:=h7 358 355 c9 207
def Vc:OO:=hS [(.str fQ 626),(.str Jx 627),(.str mP 628)]
def χ:OO:=hM (zI 11 0) Sw
def Vd:OO:=hQ 3 xL Sw 623 240 360
def Ve:OO:=hF (zI 11 0) Sw .none c9 207 365
def Vf:OO:=hS [(.str fQ 635)]
def ψ:OO:=hM (zI 11 1) Sx
def Vg:OO:=hQ 1 GG Sx 632 244 367
def Vh:OO:=hF (zI 11 1) Sx .none c9 207 372
def Vi:OO:=hS [(.str fQ 642)]
def ω:OO:=hM (zI 11 2) Sy
def Vj:OO:=hQ 1 qK Sy 639 247 374
def Vk:OO:=hF (zI 11 2) Sy .none c9 207 379
def Vl:OO:=hS [(.str Jx 646),(.str mP 647),(.str ZE 648),(.str ZF 649)]
def Vm:OO:=λP p=>⟨(.type y3),none,.dict ⟨[kd P pQ 618 (.str c9 207),kd P qW 622 (.int 238 621),kd P xL 631 (.ref 366),kd P GG 638 (.ref 373),kd P qK 645 (.ref 380),kd P qX 650 (.ref 381),kd P s2 651 .none]⟩ 2,⟨[]⟩⟩
noncomputable def Vn:OO:=λP p=>⟨(.type y4),none,.cls ⟨Cu,[(.ref 220)],[(.ref 383),(.ref 220),(.type y6)],382,Cu,true,[],[(.ref 416),(.ref 471),(.ref 512),(.ref 560)],false,none,false⟩,⟨[(some (.ref 353)),none,(some (.str Cu 611)),(some (.str Cu 619)),(some (.builtin NN)),(some (.bool true))]⟩⟩
def o384:OO:=hL y8 [(.ref 383),(.ref 383),(.ref 383)]
def o385:OO:=hL y5 [(.builtin NO),(.ref 383)]
def xN:OO:=hS [(.ref 383)]
def o388:OO:=λP p=>⟨(.type y3),none,.dict ⟨[kd P pQ 661 (.str c9 207),kd P xI 663 (.str Cv 662),kd P qW 665 (.int 249 664),kd P qK 672 (.ref 399),kd P oH 680 (.ref 406),kd P qJ 688 (.ref 413),kd P qX 689 (.ref 414)]⟩ 7,⟨[]⟩⟩
def o390:OO:=hT [(251,4,398),(258,4,405),(261,4,412)]
def o391:OO:=hB Cv Cv 656 249 389
def o392:OO:=h7 391 388 c9 207
def Vo:OO:=hS [(.str fQ 669)]
def o397:OO:=hM (zI 12 0) Sz
def Vp:OO:=hQ 1 qK Sz 666 251 393
def Vq:OO:=hF (zI 12 0) Sz .none c9 207 398
def Vr:OO:=hS [(.str fQ 676),(.str DY 677)]
def o404:OO:=hM (zI 12 1) S0
def Vs:OO:=hQ 2 oH S0 673 258 400
def Vt:OO:=hF (zI 12 1) S0 .none c9 207 405
def Vu:OO:=hS [(.str fQ 684),(.str C7 685)]
def o411:OO:=hM (zI 12 2) S7
def Vv:OO:=hQ 2 qJ S7 681 261 407
def Vw:OO:=hF (zI 12 2) S7 .none c9 207 412
def Vx:OO:=λP p=>⟨(.type y3),none,.dict ⟨[kd P pQ 661 (.str c9 207),kd P qW 665 (.int 249 664),kd P qK 672 (.ref 399),kd P oH 680 (.ref 406),kd P qJ 688 (.ref 413),kd P qX 689 (.ref 414),kd P s2 690 .none]⟩ 2,⟨[]⟩⟩
noncomputable def Vy:OO:=λP p=>⟨(.type y4),none,.cls ⟨Cv,[(.ref 383)],[(.ref 416),(.ref 383),(.ref 220),(.type y6)],415,Cv,true,[],[],false,none,false⟩,⟨[(some (.ref 386)),none,(some (.str Cv 654)),(some (.str Cv 662)),(some (.builtin NN)),(some (.bool true))]⟩⟩
def o417:OO:=hL y8 [(.ref 416),(.ref 416),(.ref 416)]
def o418:OO:=hL y5 [(.builtin NO),(.ref 416)]
def o421:OO:=λP p=>⟨(.type y3),none,.dict ⟨[kd P pQ 700 (.str c9 207),kd P xI 702 (.str Cw 701),kd P qW 704 (.int 263 703),kd P xJ 712 (.ref 432),kd P uD 721 (.ref 440),kd P xK 729 (.ref 447),kd P qK 736 (.ref 454),kd P oH 744 (.ref 461),kd P qJ 752 (.ref 468),kd P qX 753 (.ref 469)]⟩ 10,⟨[]⟩⟩
def o423:OO:=hT [(265,4,431),(268,4,439),(275,4,446),(278,4,453),(284,4,460),(287,4,467)]
def o424:OO:=hB Cw Cw 695 263 422
def o425:OO:=h7 424 421 c9 207
def Vz:OO:=hS [(.str fQ 708),(.str mP 709)]
def o430:OO:=hM (zI 13 0) S8
def V5:OO:=hQ 2 xJ S8 705 265 426
def V6:OO:=hF (zI 13 0) S8 .none c9 207 431
def GL:OO:=hS [(.bool false)]
def V7:OO:=hS [(.str fQ 716),(.str mP 717),(.str Oa 718)]
def o438:OO:=hM (zI 13 1) S9
def V8:OO:=hQ 3 uD S9 713 268 434
def V9:OO:=hF (zI 13 1) S9 (.ref 433) c9 207 439
def VA:OO:=hS [(.str fQ 725),(.str mP 726)]
def o445:OO:=hM (zI 13 2) SB
def VB:OO:=hQ 2 xK SB 722 275 441
def VC:OO:=hF (zI 13 2) SB .none c9 207 446
def VD:OO:=hS [(.str fQ 733)]
def o452:OO:=hM (zI 13 3) SD
def VE:OO:=hQ 1 qK SD 730 278 448
def VF:OO:=hF (zI 13 3) SD .none c9 207 453
def VG:OO:=hS [(.str fQ 740),(.str DY 741)]
def o459:OO:=hM (zI 13 4) SE
def VH:OO:=hQ 2 oH SE 737 284 455
def VI:OO:=hF (zI 13 4) SE .none c9 207 460
def VJ:OO:=hS [(.str fQ 748),(.str C7 749)]
def o466:OO:=hM (zI 13 5) SF
def VK:OO:=hQ 2 qJ SF 745 287 462
def VL:OO:=hF (zI 13 5) SF .none c9 207 467
def VM:OO:=λP p=>⟨(.type y3),none,.dict ⟨[kd P pQ 700 (.str c9 207),kd P qW 704 (.int 263 703),kd P xJ 712 (.ref 432),kd P uD 721 (.ref 440),kd P xK 729 (.ref 447),kd P qK 736 (.ref 454),kd P oH 744 (.ref 461),kd P qJ 752 (.ref 468),kd P qX 753 (.ref 469),kd P s2 754 .none]⟩ 2,⟨[]⟩⟩
noncomputable def VN:OO:=λP p=>⟨(.type y4),none,.cls ⟨Cw,[(.ref 383)],[(.ref 471),(.ref 383),(.ref 220),(.type y6)],470,Cw,true,[],[],false,none,false⟩,⟨[(some (.ref 419)),none,(some (.str Cw 693)),(some (.str Cw 701)),(some (.builtin NN)),(some (.bool true))]⟩⟩
def o472:OO:=hL y8 [(.ref 471),(.ref 471),(.ref 471)]
def o473:OO:=hL y5 [(.builtin NO),(.ref 471)]
def o476:OO:=λP p=>⟨(.type y3),none,.dict ⟨[kd P pQ 764 (.str c9 207),kd P xI 766 (.str Cx 765),kd P qW 768 (.int 291 767),kd P uD 777 (.ref 488),kd P qK 784 (.ref 495),kd P oH 792 (.ref 502),kd P qJ 800 (.ref 509),kd P qX 801 (.ref 510)]⟩ 8,⟨[]⟩⟩
def o478:OO:=hT [(293,4,487),(296,4,494),(300,4,501),(303,4,508)]
def o479:OO:=hB Cx Cx 759 291 477
def o480:OO:=h7 479 476 c9 207
def VO:OO:=hS [(.str fQ 772),(.str mP 773),(.str ⟨⟨[95]⟩⟩ 774)]
def o486:OO:=hM (zI 14 0) SG
def VP:OO:=hQ 3 uD SG 769 293 482
def VQ:OO:=hF (zI 14 0) SG (.ref 481) c9 207 487
def VS:OO:=hS [(.str fQ 781)]
def o493:OO:=hM (zI 14 1) SH
def VT:OO:=hQ 1 qK SH 778 296 489
def VU:OO:=hF (zI 14 1) SH .none c9 207 494
def VV:OO:=hS [(.str fQ 788),(.str DY 789)]
def o500:OO:=hM (zI 14 2) SI
def VW:OO:=hQ 2 oH SI 785 300 496
def VX:OO:=hF (zI 14 2) SI .none c9 207 501
def VY:OO:=hS [(.str fQ 796),(.str C7 797)]
def o507:OO:=hM (zI 14 3) SJ
def VZ:OO:=hQ 2 qJ SJ 793 303 503
def Wa:OO:=hF (zI 14 3) SJ .none c9 207 508
def Wb:OO:=λP p=>⟨(.type y3),none,.dict ⟨[kd P pQ 764 (.str c9 207),kd P qW 768 (.int 291 767),kd P uD 777 (.ref 488),kd P qK 784 (.ref 495),kd P oH 792 (.ref 502),kd P qJ 800 (.ref 509),kd P qX 801 (.ref 510),kd P s2 802 .none]⟩ 2,⟨[]⟩⟩
noncomputable def Wc:OO:=λP p=>⟨(.type y4),none,.cls ⟨Cx,[(.ref 383)],[(.ref 512),(.ref 383),(.ref 220),(.type y6)],511,Cx,true,[],[],false,none,false⟩,⟨[(some (.ref 474)),none,(some (.str Cx 757)),(some (.str Cx 765)),(some (.builtin NN)),(some (.bool true))]⟩⟩
def o513:OO:=hL y8 [(.ref 512),(.ref 512),(.ref 512)]
def o514:OO:=hL y5 [(.builtin NO),(.ref 512)]
def o517:OO:=λP p=>⟨(.type y3),none,.dict ⟨[kd P pQ 812 (.str c9 207),kd P xI 814 (.str Cy 813),kd P qW 816 (.int 305 815),kd P xK 824 (.ref 528),kd P uD 833 (.ref 536),kd P qK 840 (.ref 543),kd P oH 848 (.ref 550),kd P qJ 856 (.ref 557),kd P qX 857 (.ref 558)]⟩ 9,⟨[]⟩⟩
def o519:OO:=hT [(307,4,527),(312,4,535),(315,4,542),(321,4,549),(324,4,556)]
def o520:OO:=hB Cy Cy 807 305 518
def o521:OO:=h7 520 517 c9 207
def Wd:OO:=hS [(.str fQ 820),(.str mP 821)]
def o526:OO:=hM (zI 15 0) SK
def We:OO:=hQ 2 xK SK 817 307 522
def Wg:OO:=hF (zI 15 0) SK .none c9 207 527
def Wi:OO:=hS [(.str fQ 828),(.str mP 829),(.str Oa 830)]
def o534:OO:=hM (zI 15 1) SM
def Wj:OO:=hQ 3 uD SM 825 312 530
def Wk:OO:=hF (zI 15 1) SM (.ref 529) c9 207 535
def Wl:OO:=hS [(.str fQ 837)]
def o541:OO:=hM (zI 15 2) SN
def Wm:OO:=hQ 1 qK SN 834 315 537
def Wn:OO:=hF (zI 15 2) SN .none c9 207 542
def Wo:OO:=hS [(.str fQ 844),(.str DY 845)]
def o548:OO:=hM (zI 15 3) SO
def Wp:OO:=hQ 2 oH SO 841 321 544
def Wq:OO:=hF (zI 15 3) SO .none c9 207 549
def Wr:OO:=hS [(.str fQ 852),(.str C7 853)]
def o555:OO:=hM (zI 15 4) SP
def Ws:OO:=hQ 2 qJ SP 849 324 551
def Wt:OO:=hF (zI 15 4) SP .none c9 207 556
def Wu:OO:=λP p=>⟨(.type y3),none,.dict ⟨[kd P pQ 812 (.str c9 207),kd P qW 816 (.int 305 815),kd P xK 824 (.ref 528),kd P uD 833 (.ref 536),kd P qK 840 (.ref 543),kd P oH 848 (.ref 550),kd P qJ 856 (.ref 557),kd P qX 857 (.ref 558),kd P s2 858 .none]⟩ 2,⟨[]⟩⟩
noncomputable def Wv:OO:=λP p=>⟨(.type y4),none,.cls ⟨Cy,[(.ref 383)],[(.ref 560),(.ref 383),(.ref 220),(.type y6)],559,Cy,true,[],[],false,none,false⟩,⟨[(some (.ref 515)),none,(some (.str Cy 805)),(some (.str Cy 813)),(some (.builtin NN)),(some (.bool true))]⟩⟩
def o561:OO:=hL y8 [(.ref 560),(.ref 560),(.ref 560)]
def o562:OO:=hL y5 [(.builtin NO),(.ref 560)]
def o565:OO:=λP p=>⟨(.type y3),none,.dict ⟨[kd P pQ 868 (.str c9 207),kd P xI 870 (.str Cz 869),kd P qW 872 (.int 326 871),kd P xL 880 (.ref 576),kd P GG 887 (.ref 583),kd P qK 894 (.ref 590),kd P qX 898 (.ref 591)]⟩ 7,⟨[]⟩⟩
def o567:OO:=hT [(328,4,575),(332,4,582),(335,4,589)]
def o568:OO:=hB Cz Cz 863 326 566
def o569:OO:=h7 568 565 c9 207
def Ww:OO:=hS [(.str fQ 876),(.str Sf 877)]
def o574:OO:=hM (zI 16 0) SR
def Wx:OO:=hQ 2 xL SR 873 328 570
def Wy:OO:=hF (zI 16 0) SR .none c9 207 575
def Wz:OO:=hS [(.str fQ 884)]
def o581:OO:=hM (zI 16 1) SS
def W0:OO:=hQ 1 GG SS 881 332 577
def W2:OO:=hF (zI 16 1) SS .none c9 207 582
def W4:OO:=hS [(.str fQ 891)]
def o588:OO:=hM (zI 16 2) SU
def W5:OO:=hQ 1 qK SU 888 335 584
def W6:OO:=hF (zI 16 2) SU .none c9 207 589
def W7:OO:=hS [(.str ZE 895),(.str ZF 896),(.str Sf 897)]
def W8:OO:=λP p=>⟨(.type y3),none,.dict ⟨[kd P pQ 868 (.str c9 207),kd P qW 872 (.int 326 871),kd P xL 880 (.ref 576),kd P GG 887 (.ref 583),kd P qK 894 (.ref 590),kd P qX 898 (.ref 591),kd P s2 899 .none]⟩ 2,⟨[]⟩⟩
noncomputable def W9:OO:=λP p=>⟨(.type y4),none,.cls ⟨Cz,[(.ref 220)],[(.ref 593),(.ref 220),(.type y6)],592,Cz,true,[],[(.ref 644)],false,none,false⟩,⟨[(some (.ref 563)),none,(some (.str Cz 861)),(some (.str Cz 869)),(some (.builtin NN)),(some (.bool true))]⟩⟩
def o594:OO:=hL y8 [(.ref 593),(.ref 593),(.ref 593)]
def o595:OO:=hL y5 [(.builtin NO),(.ref 593)]
def WA:OO:=hS [(.ref 593)]
def o598:OO:=λP p=>⟨(.type y3),none,.dict ⟨[kd P pQ 909 (.str c9 207),kd P xI 911 (.str C0 910),kd P qW 913 (.int 337 912),kd P qK 919 (.ref 607),kd P xJ 925 (.ref 612),kd P uD 941 (.ref 620),kd P xK 947 (.ref 625),kd P oH 953 (.ref 630),kd P qJ 959 (.ref 635),kd P Od 966 (.ref 641),kd P qX 967 (.ref 642)]⟩ 11,⟨[]⟩⟩
def o600:OO:=hT [(339,4,606),(342,4,611),(345,4,619),(391,4,624),(399,4,629),(402,4,634),(406,4,639)]
def o601:OO:=hB C0 C0 904 337 599
def o602:OO:=h7 601 598 c9 207
def o605:OO:=hM (zI 17 0) SV
def WB:OO:=hE 1 qK SV 914 339 603
def WC:OO:=hF (zI 17 0) SV .none c9 207 606
def o610:OO:=hM (zI 17 1) SW
def WD:OO:=hE 2 xJ SW 920 342 608
def WE:OO:=hF (zI 17 1) SW .none c9 207 611
def WF:OO:=hS [(.str fQ 929),(.str mP 930),(.str Oa 931),(.str ⟨⟨[102,117,108,108,121,95,100,105,118,105,100,101,100]⟩⟩ 932),(.str ⟨⟨[114,101,115,116]⟩⟩ 933),(.str ⟨⟨[120]⟩⟩ 934),(.str ⟨⟨[115,117,109,95,102,117,108,108,121,95,100,105,118,105,100,101,100]⟩⟩ 935),(.str ⟨⟨[95,103,99,100]⟩⟩ 936),(.str ⟨⟨[100,105,118,105,115,111,114]⟩⟩ 937),(.str ⟨⟨[100,105,118]⟩⟩ 938)]
def o618:OO:=hM (zI 17 2) SX
def WG:OO:=hR 939 3 uD SX 926 345 614
def WH:OO:=hF (zI 17 2) SX (.ref 613) c9 207 619
def o623:OO:=hM (zI 17 3) SY
def WJ:OO:=hE 2 xK SY 942 391 621
def WK:OO:=hF (zI 17 3) SY .none c9 207 624
def o628:OO:=hM (zI 17 4) Ta
def WL:OO:=hE 2 oH Ta 948 399 626
def WM:OO:=hF (zI 17 4) Ta .none c9 207 629
def o633:OO:=hM (zI 17 5) Tb
def WO:OO:=hE 2 qJ Tb 954 402 631
def WP:OO:=hF (zI 17 5) Tb .none c9 207 634
def o638:OO:=hM (zI 17 6) Tc
def WQ:OO:=hE 1 Od Tc 960 405 636
def WR:OO:=hF (zI 17 6) Tc .none c9 207 639
def WS:OO:=hL y12 [(.ref 640),.none,.none,.none,(.str Od 966),(.bool false)]
def WT:OO:=λP p=>⟨(.type y3),none,.dict ⟨[kd P pQ 909 (.str c9 207),kd P qW 913 (.int 337 912),kd P qK 919 (.ref 607),kd P xJ 925 (.ref 612),kd P uD 941 (.ref 620),kd P xK 947 (.ref 625),kd P oH 953 (.ref 630),kd P qJ 959 (.ref 635),kd P Od 966 (.ref 641),kd P qX 967 (.ref 642),kd P s2 968 .none]⟩ 2,⟨[]⟩⟩
noncomputable def WU:OO:=λP p=>⟨(.type y4),none,.cls ⟨C0,[(.ref 593)],[(.ref 644),(.ref 593),(.ref 220),(.type y6)],643,C0,true,[],[],false,none,false⟩,⟨[(some (.ref 596)),none,(some (.str C0 902)),(some (.str C0 910)),(some (.builtin NN)),(some (.bool true))]⟩⟩
def o645:OO:=hL y8 [(.ref 644),(.ref 644),(.ref 644)]
def o646:OO:=hL y5 [(.builtin NO),(.ref 644)]
def WV:OO:=hS [(.str Jx 974),(.str C7 975)]
def o652:OO:=hM (zP 18) Jr
def WW:OO:=hQ 2 Jr Jr 971 408 648
def WX:OO:=hF (zP 18) Jr (.ref 647) c9 207 653
def o657:OO:=hM (zP 19) Js
def WY:OO:=hE 2 Js Js 979 410 655
def WZ:OO:=hF (zP 19) Js .none c9 207 658
def o664:OO:=hM (zP 21) Jt
def Xa:OO:=hQ 0 Jt Jt 987 417 660
def Xb:OO:=hF (zP 21) Jt .none Jk 985 665
def Xc:OO:=hS [(.str ⟨⟨[115,99,114,105,112,116]⟩⟩ 996),(.str Rz 997)]
def o671:OO:=hM (zP 22) Ju
def Xd:OO:=hQ 2 Ju Ju 993 419 667
def Xe:OO:=hF (zP 22) Ju .none Jk 985 672
def Xf:OO:=hS [(.str ⟨⟨[110,117,109,98,101,114]⟩⟩ 1004)]
def o678:OO:=hM (zP 23) Jv
def Xg:OO:=hQ 1 Jv Jv 1001 425 674
def Xh:OO:=hF (zP 23) Jv .none Jk 985 679
def Xi:OO:=hS [(.str ⟨⟨[115,99,114,105,112,116]⟩⟩ 1011),(.str ⟨⟨[99,111,117,110,116]⟩⟩ 1012),(.str ⟨⟨[112,97,114,116,115]⟩⟩ 1013),(.str ⟨⟨[112,108,97,105,110]⟩⟩ 1014),(.str ⟨⟨[115,105,100,101,115]⟩⟩ 1015),(.str ⟨⟨[118,97,108,117,101,115]⟩⟩ 1016),(.str Rz 1017),(.str ⟨⟨[108,111,119]⟩⟩ 1018),(.str ⟨⟨[115,112,97,110]⟩⟩ 1019),(.str ⟨⟨[118,97,108,117,101]⟩⟩ 1020),(.str ⟨⟨[110,117,109,98,101,114]⟩⟩ 1021),(.str ⟨⟨[98,121]⟩⟩ 1022),(.str ⟨⟨[109,111,114,101]⟩⟩ 1023),(.str ⟨⟨[112,97,114,116]⟩⟩ 1024),(.str ⟨⟨[119,104,111,108,101]⟩⟩ 1025),(.str ⟨⟨[100,117,101]⟩⟩ 1026),(.str ⟨⟨[108,101,97,115,116]⟩⟩ 1027),(.str ⟨⟨[109,111,115,116]⟩⟩ 1028),(.str ⟨⟨[104,101,97,100,115]⟩⟩ 1029),(.str ⟨⟨[115,116,101,112]⟩⟩ 1030),(.str ⟨⟨[98,97,99,107]⟩⟩ 1031),(.str ⟨⟨[104,101,97,100]⟩⟩ 1032)]
def o685:OO:=hM (zP 24) Jw
def Xj:OO:=hR 1033 1 Jw Jw 1008 427 681
def Xk:OO:=hF (zP 24) Jw .none Jk 985 686
def a3:OO:=λP p=>⟨(.type y3),none,.dict ⟨[kd P s0 165 (.str Jj 164),kd P s2 166 .none,kd P s3 167 .none,kd P s4 168 (.builtin SL.s7097527257260152453x26),kd P s5 169 .none,kd P NV 170 (.ref 6),kd P ZH 171 (.ref 4),kd P ZI 173 (.str NW 172),kd P ZJ 174 .none]⟩ 9,⟨[]⟩⟩
noncomputable def a12:OO:=λP p=>⟨.none,none,.fields ⟨[]⟩,⟨[]⟩⟩
def t6(P:Params)(p:Program):Heap:=⟨⟨[o0 P p,o1 P p,o2 P p,a3 P p,o4 P p,o5 P p,o6 P p,o7 P p,o8 P p,o9 P p,o10 P p]⟩,{}⟩
noncomputable abbrev NT:=Params->Program->BT
noncomputable def n0:NT:=λ_ _=>.nil
noncomputable def n2(o:OO)(a b:NT):NT:=λP p=>.node (o P p) (a P p) (b P p)
def n1(o:OO):NT:=n2 o n0 n0
def n3(o a:OO):NT:=n2 o (n1 a) n0
def n4(o a b:OO):NT:=n2 o (n1 a) (n1 b)
def treeA(P:Params)(p:Program):BT:=(n2 o0 (n2 o1 (n4 a3 o7 o7) (n4 o5 o9 o13)) (n2 o2 (n4 o4 o8 a12) (n4 o6 o10 o14))) P p
def Qv(P:Params)(p:Program):BT:=(n2 o0 (n2 o1 (n2 o3 (n2 o7 (n2 o7 (n2 o31 (n2 o63 (n2 Tq (n3 o8 Wb) (n3 Vn WQ)) (n2 TQ (n3 ú Wx) (n1 VC))) (n2 o8 (n2 TC (n3 o7 Wn) (n3 Vx o671)) (n2 ã (n3 UY WC) (n1 o479)))) (n2 o7 (n2 o79 (n2 o7 (n3 o7 We) (n3 Vq o7)) (n2 o6 (n3 o8 W7) (n1 o8))) (n2 o7 (n2 ZX (n3 UD Wu) (n3 V5 Xk)) (n2 o7 (n3 o7 o623) (n1 VU))))) (n2 o8 (n2 o7 (n2 o71 (n2 Tv (n3 Uy o519) (n3 o391 Z5)) (n2 TV (n3 UN W2) (n1 o7))) (n2 Te (n2 o7 (n3 o8 o7) (n3 o423 Xg)) (n2 è (n3 φ o8) (n1 VP)))) (n2 o55 (n2 o7 (n2 o8 (n3 ð Wj) (n3 o7 o7)) (n2 Ue (n3 UV o7) (n1 VN))) (n2 ZP (n2 ZY (n3 o7 o567) (n1 V8)) (n2 o7 (n3 o8 o7) (n1 o7)))))) (n2 o7 (n2 o19 (n2 o35 (n2 o67 (n2 Ts (n3 Uw xN) (n3 A8 WT)) (n2 TS (n3 o8 Wz) (n1 o7))) (n2 o99 (n2 TF (n3 õ o7) (n3 xN o8)) (n2 å (n3 ξ WD) (n1 o8)))) (n2 o7 (n2 o7 (n2 ZT (n3 U4 o8) (n3 o7 WZ)) (n2 o7 (n3 UT o595) (n1 VK))) (n2 o7 (n2 o7 (n3 UF xM) (n1 o8)) (n2 ê (n3 ψ o8) (n1 o7))))) (n2 o27 (n2 Z5 (n2 o75 (n2 o7 (n3 U0 o8) (n3 Vo o7)) (n2 TX (n3 UR o7) (n1 o459))) (n2 Tg (n2 o7 (n3 UB o555) (n3 o8 Xi)) (n2 o7 (n3 o7 WG) (n1 VS)))) (n2 o8 (n2 o91 (n2 TA (n3 o7 Wl) (n3 o411 o7)) (n2 Uh (n3 UX o7) (n1 A8))) (n2 o8 (n2 o8 (n3 o7 o8) (n1 VA)) (n2 ë (n3 Vj WP) (n1 o507))))))) (n2 o5 (n2 o9 (n2 o17 (n2 o33 (n2 o7 (n2 o7 (n3 o7 o513) (n3 o385 WS)) (n2 o7 (n3 UL o7) (n1 o8))) (n2 o7 (n2 ZV (n3 U7 o8) (n3 o417 Xe)) (n2 xM (n3 xM o8) (n1 GL)))) (n2 o49 (n2 o8 (n2 Tz (n3 U2 Br) (n3 o8 o657)) (n2 o8 (n3 o7 W9) (n1 o7))) (n2 Ti (n2 TL (n3 ø o561) (n1 GL)) (n2 Uo (n3 Vf WK) (n1 o8))))) (n2 o7 (n2 o41 (n2 o7 (n2 o8 (n3 í o521) (n3 o7 o8)) (n2 o8 (n3 UP o8) (n1 VG))) (n2 ZN (n2 TH (n3 o7 Wr) (n3 o425 o7)) (n2 o8 (n3 o8 o7) (n1 o7)))) (n2 o57 (n2 o89 (n2 o7 (n3 A8 o7) (n3 Vu Xa)) (n2 o6 (n3 κ o601) (n1 o473))) (n2 Tn (n2 TO (n3 UH o569) (n1 o7)) (n2 Us (n3 o7 o633) (n1 VY)))))) (n2 o13 (n2 o21 (n2 A8 (n2 o69 (n2 ZR (n3 o7 o517) (n3 o7 o645)) (n2 à (n3 o7 o581) (n1 VE))) (n2 o7 (n2 o8 (n3 U9 Wp) (n3 o421 o7)) (n2 æ (n3 π Br) (n1 o7)))) (n2 o53 (n2 o85 (n2 T8 (n3 U6 o7) (n3 Vs o8)) (n2 Uc (n3 o7 A8) (n1 o7))) (n2 Tk (n2 TM (n3 o8 o565) (n1 o7)) (n2 Uq (n3 Vh WL) (n1 VW))))) (n2 o7 (n2 o8 (n2 o77 (n2 Tx (n3 o8 o7) (n3 o397 WW)) (n2 TZ (n3 ý W5) (n1 VI))) (n2 o8 (n2 TJ (n3 o7 Wt) (n3 o7 o685)) (n2 Um (n3 Vd o7) (n1 o493)))) (n2 o7 (n2 o93 (n2 o7 (n3 ó o541) (n3 Vw Xc)) (n2 Uj (n3 o8 o605) (n1 o7))) (n2 o7 (n2 o7 (n3 UJ o7) (n1 o445)) (n2 Uu (n3 Vl o8) (n1 Wa)))))))) (n2 o2 (n2 o4 (n2 o8 (n2 o8 (n2 o7 (n2 o64 (n2 Tr (n3 Uv Wc) (n3 o384 WR)) (n2 TR (n3 UK Wy) (n1 o7))) (n2 o96 (n2 o7 (n3 o8 o7) (n3 Vy Xd)) (n2 ä (n3 UZ o7) (n1 o480)))) (n2 o48 (n2 o7 (n2 o8 (n3 î Wg) (n3 o7 o8)) (n2 o7 (n3 US W8) (n1 VJ))) (n2 ZO (n2 TK (n3 o7 Wv) (n1 V6)) (n2 o8 (n3 o8 WJ) (n1 o7))))) (n2 o24 (n2 o40 (n2 o72 (n2 o7 (n3 o7 o520) (n3 o392 o7)) (n2 o7 (n3 UO o7) (n1 o8))) (n2 o7 (n2 ZW (n3 UA o8) (n3 o424 Xh)) (n2 o7 (n3 o7 WF) (n1 VQ)))) (n2 o56 (n2 o8 (n2 T9 (n3 xM Wk) (n3 o8 o664)) (n2 Uf (n3 o7 o600) (n1 o472))) (n2 Tl (n2 TN (n3 ù o568) (n1 V9)) (n2 o8 (n3 Vi o8) (n1 o8)))))) (n2 o12 (n2 o20 (n2 o7 (n2 o7 (n2 o7 (n3 Ux A8) (n3 o388 WU)) (n2 o7 (n3 UM o7) (n1 o452))) (n2 Td (n2 o7 (n3 U8 o548) (n3 A8 Xf)) (n2 o7 (n3 o7 WE) (n1 VO)))) (n2 o8 (n2 o84 (n2 T7 (n3 U5 Wi) (n3 o404 o7)) (n2 â (n3 UU WA) (n1 VL))) (n2 o8 (n2 o8 (n3 o7 A8) (n1 V7)) (n2 Up (n3 Vg o628) (n1 o500))))) (n2 o28 (n2 o7 (n2 o7 (n2 ZS (n3 o7 Wd) (n3 o7 o652)) (n2 TY (n3 ü o588) (n1 VH))) (n2 o7 (n2 o8 (n3 UC Ws) (n3 Vz o7)) (n2 é (n3 χ WH) (n1 o7)))) (n2 o60 (n2 o92 (n2 TB (n3 ò o7) (n3 Vv o8)) (n2 Ui (n3 o7 o8) (n1 o476))) (n2 To (n2 TP (n3 o8 Ww) (n1 o7)) (n2 Ut (n3 Vk o7) (n1 VZ))))))) (n2 o6 (n2 o10 (n2 o7 (n2 o34 (n2 o8 (n2 o8 (n3 ì o514) (n3 xN o7)) (n2 o8 (n3 o7 o8) (n1 VD))) (n2 o98 (n2 TD (n3 o7 Wo) (n3 o418 o7)) (n2 A8 (n3 A8 o610) (n1 o7)))) (n2 o50 (n2 o82 (n2 o7 (n3 U3 o7) (n3 Vr WY)) (n2 Ub (n3 þ o594) (n1 o466))) (n2 Tj (n2 Br (n3 UE o562) (n1 o7)) (n2 o7 (n3 o7 o7) (n1 VV))))) (n2 o26 (n2 o42 (n2 o8 (n2 Tw (n3 Uz o7) (n3 o8 WV)) (n2 á (n3 UQ W4) (n1 o7))) (n2 Tf (n2 TI (n3 ö o7) (n3 o7 o8)) (n2 Ul (n3 Vc o618) (n1 o8)))) (n2 o7 (n2 o7 (n2 ZU (n3 ñ o8) (n3 o7 Xb)) (n2 Ug (n3 UW o602) (n1 xN))) (n2 o7 (n2 o7 (n3 UI o7) (n1 o8)) (n2 o7 (n3 ω WO) (n1 o7)))))) (n2 o14 (n2 o7 (n2 o38 (n2 o70 (n2 Tu (n3 o8 o7) (n3 o390 o646)) (n2 TU (n3 û W0) (n1 VF))) (n2 o8 (n2 TG (n3 o7 Wq) (n3 o7 o678)) (n2 ç (n3 σ o7) (n1 o486)))) (n2 o7 (n2 o86 (n2 o7 (n3 ï o534) (n3 Vt o7)) (n2 Ud (n3 o8 o598) (n1 VM))) (n2 o7 (n2 o7 (n3 UG o7) (n1 o438)) (n2 Ur (n3 o7 WM) (n1 VX))))) (n2 o8 (n2 o46 (n2 o78 (n2 Ty (n3 U1 o526) (n3 Vp WX)) (n2 Ua (n3 o7 W6) (n1 o7))) (n2 Th (n2 o7 (n3 o8 o7) (n3 o430 Xj)) (n2 Un (n3 Ve o8) (n1 VT)))) (n2 o62 (n2 o7 (n2 o8 (n3 ô Wm) (n3 o7 o7)) (n2 Uk (n3 μ WB) (n1 o478))) (n2 ZQ (n2 ZZ (n3 o7 o574) (n1 VB)) (n2 o7 (n3 Vm o638) (n1 o7))))))))) P p
def objsZ(P:Params)(p:Program):List Obj:=List.rec (motive:=λ_=>List Obj) [] (λ(o:OO) _ l=>o P p::l) [o0,o1,o2,o3,o4,o5,o6,o7,o8,o9,o10,o7,o12,o13,o14,o7,o8,o17,o7,o19,o20,o21,o7,o8,o24,o7,o26,o27,o28,o7,o8,o31,o7,o33,o34,o35,o7,A8,o38,o7,o40,o41,o42,Z5,o7,o8,o46,o7,o48,o49,o50,o7,o8,o53,o7,o55,o56,o57,o7,o8,o60,o7,o62,o63,o64,o7,o8,o67,o7,o69,o70,o71,o72,o7,o8,o75,o7,o77,o78,o79,o7,o8,o82,o7,o84,o85,o86,o7,o8,o89,o7,o91,o92,o93,o7,o8,o96,o7,o98,o99,Td,o7,o8,Te,o7,ZN,Tf,Tg,o7,o8,Th,o7,ZO,Ti,Tj,o7,o8,Tk,o7,ZP,Tl,Tn,o7,o8,To,o7,ZQ,Tq,Tr,o7,o8,Ts,o7,ZR,Tu,Tv,o7,o8,Tw,o7,ZS,Tx,Ty,o7,o8,Tz,o7,ZT,T7,T8,o7,o8,T9,o7,ZU,TA,TB,o7,o8,TC,o7,ZV,TD,TF,o7,o8,TG,o7,ZW,TH,TI,o7,o8,TJ,o7,ZX,TK,TL,Br,o7,o8,TM,o7,ZY,TN,TO,o7,o8,TP,o7,ZZ,TQ,TR,o7,o8,TS,o7,à,TU,TV,o7,o8,á,TX,TY,TZ,Ua,o6,o7,o8,Ub,o7,â,Uc,Ud,Ue,Uf,o6,Ug,Uh,Ui,Uj,Uk,ã,ä,xM,A8,å,o7,æ,ç,è,o7,o8,Ul,o7,é,Um,Un,o7,o8,Uo,o7,ê,Up,Uq,Ur,o7,o8,Us,o7,ë,Ut,Uu,o7,o8,Uv,o7,ì,Uw,Ux,o7,o8,Uy,o7,í,Uz,U0,o7,o8,U1,o7,î,U2,U3,U4,U5,U6,ï,ð,xM,A8,ñ,o7,ò,ó,ô,o7,o8,U7,o7,õ,U8,U9,o7,o8,UA,o7,ö,UB,UC,o7,o8,UD,o7,ø,UE,UF,o7,o8,UG,o7,ù,UH,UI,o7,o8,UJ,o7,ú,UK,UL,o7,o8,UM,o7,û,UN,UO,UP,UQ,UR,ü,ý,o7,o8,US,o7,þ,UT,UU,o7,o8,UV,o7,κ,UW,UX,o7,o8,μ,UY,UZ,xM,A8,ξ,o7,π,σ,φ,o7,o8,Vc,o7,χ,Vd,Ve,o7,o8,Vf,o7,ψ,Vg,Vh,o7,o8,Vi,o7,ω,Vj,Vk,Vl,Vm,Vn,o384,o385,xN,A8,o388,o7,o390,o391,o392,o7,o8,Vo,o7,o397,Vp,Vq,o7,o8,Vr,o7,o404,Vs,Vt,o7,o8,Vu,o7,o411,Vv,Vw,o7,Vx,Vy,o417,o418,xN,A8,o421,o7,o423,o424,o425,o7,o8,Vz,o7,o430,V5,V6,GL,o7,o8,V7,o7,o438,V8,V9,o7,o8,VA,o7,o445,VB,VC,o7,o8,VD,o7,o452,VE,VF,o7,o8,VG,o7,o459,VH,VI,o7,o8,VJ,o7,o466,VK,VL,o7,VM,VN,o472,o473,xN,A8,o476,o7,o478,o479,o480,GL,o7,o8,VO,o7,o486,VP,VQ,o7,o8,VS,o7,o493,VT,VU,o7,o8,VV,o7,o500,VW,VX,o7,o8,VY,o7,o507,VZ,Wa,o7,Wb,Wc,o513,o514,xN,A8,o517,o7,o519,o520,o521,o7,o8,Wd,o7,o526,We,Wg,Br,o7,o8,Wi,o7,o534,Wj,Wk,o7,o8,Wl,o7,o541,Wm,Wn,o7,o8,Wo,o7,o548,Wp,Wq,o7,o8,Wr,o7,o555,Ws,Wt,o7,Wu,Wv,o561,o562,xM,A8,o565,o7,o567,o568,o569,o7,o8,Ww,o7,o574,Wx,Wy,o7,o8,Wz,o7,o581,W0,W2,o7,o8,W4,o7,o588,W5,W6,W7,W8,W9,o594,o595,WA,A8,o598,o7,o600,o601,o602,o7,o8,o605,WB,WC,o7,o8,o610,WD,WE,Br,o7,o8,WF,o7,o618,WG,WH,o7,o8,o623,WJ,WK,o7,o8,o628,WL,WM,o7,o8,o633,WO,WP,o7,o8,o638,WQ,WR,WS,o7,WT,WU,o645,o646,Z5,o7,o8,WV,o7,o652,WW,WX,o7,o8,o657,WY,WZ,o7,o8,o7,o7,o664,Xa,Xb,o7,o8,Xc,o7,o671,Xd,Xe,o7,o8,Xf,o7,o678,Xg,Xh,o7,o8,Xi,o7,o685,Xj,Xk]
noncomputable def kAs:List Addr:=[2,3,15,17,18,20,21,22,24,25,27,28,29,31,32,34,35,43,44,46,47,49,50,51,53,54,56,57,58,60,61,63,64,65,67,68,70,71,72,73,75,76,78,79,80,82,83,85,86,87,89,90,92,93,94,96,97,99,100,101,103,104,106,107,108,110,111,113,114,115,117,118,120,121,122,124,125,127,128,129,131,132,134,135,136,138,139,141,142,143,145,146,148,149,150,152,153,155,156,157,159,160,162,163,164,166,167,169,170,171,173,174,176,177,178,179,181,182,184,185,186,188,189,191,192,193,195,196,198,199,200,203,204,205,206,207,208,210,211,213,214,215,216,217,218,219,220,221,222,225,232,234,235,237,238,239,241,242,244,245,246,247,249,250,252,253,254,256,257,259,260,261,263,264,266,267,268,270,271,273,274,275,276,277,280,287,289,290,292,293,294,296,297,299,300,301,303,304,306,307,308,310,311,313,314,315,317,318,320,321,322,324,325,327,328,329,330,331,334,336,337,339,340,341,343,344,346,347,348,351,352,353,360,362,363,365,366,367,369,370,372,373,374,376,377,379,380,381,382,383,386,393,395,396,398,399,400,402,403,405,406,407,409,410,412,413,414,415,416,419,426,428,429,431,432,433,434,436,437,439,440,441,443,444,446,447,448,450,451,453,454,455,457,458,460,461,462,464,465,467,468,469,470,471,474,481,482,484,485,487,488,489,491,492,494,495,496,498,499,501,502,503,505,506,508,509,510,511,512,515,522,524,525,527,528,529,530,532,533,535,536,537,539,540,542,543,544,546,547,549,550,551,553,554,556,557,558,559,560,563,570,572,573,575,576,577,579,580,582,583,584,586,587,589,590,591,592,593,596,603,606,607,608,611,612,613,614,616,617,619,620,621,624,625,626,629,630,631,634,635,636,639,640,641,642,643,644,647,648,650,651,653,654,655,658,659,660,662,663,665,666,667,669,670,672,673,674,676,677,679,680,681,683,684,686,687]
def KfP(P:Params)(p:Program):Frag:=List.zipWith (λa (o:OO)=>(a,o P p)) kAs [o2,o3,o7,o17,o7,o20,o21,o7,o24,o7,o27,o28,o7,o31,o7,o34,o35,Z5,o7,o46,o7,o49,o50,o7,o53,o7,o56,o57,o7,o60,o7,o63,o64,o7,o67,o7,o70,o71,o72,o7,o75,o7,o78,o79,o7,o82,o7,o85,o86,o7,o89,o7,o92,o93,o7,o96,o7,o99,Td,o7,Te,o7,Tf,Tg,o7,Th,o7,Ti,Tj,o7,Tk,o7,Tl,Tn,o7,To,o7,Tq,Tr,o7,Ts,o7,Tu,Tv,o7,Tw,o7,Tx,Ty,o7,Tz,o7,T7,T8,o7,T9,o7,TA,TB,o7,TC,o7,TD,TF,o7,TG,o7,TH,TI,o7,TJ,o7,TK,TL,Br,o7,TM,o7,TN,TO,o7,TP,o7,TQ,TR,o7,TS,o7,TU,TV,o7,TX,TY,TZ,Ua,o6,o7,Ub,o7,Uc,Ud,Ue,Uf,o6,Ug,Uh,Ui,Uj,Uk,xM,o7,Ul,o7,Um,Un,o7,Uo,o7,Up,Uq,Ur,o7,Us,o7,Ut,Uu,o7,Uv,o7,Uw,Ux,o7,Uy,o7,Uz,U0,o7,U1,o7,U2,U3,U4,U5,U6,xM,o7,U7,o7,U8,U9,o7,UA,o7,UB,UC,o7,UD,o7,UE,UF,o7,UG,o7,UH,UI,o7,UJ,o7,UK,UL,o7,UM,o7,UN,UO,UP,UQ,UR,o7,US,o7,UT,UU,o7,UV,o7,UW,UX,o7,UY,UZ,xM,o7,Vc,o7,Vd,Ve,o7,Vf,o7,Vg,Vh,o7,Vi,o7,Vj,Vk,Vl,Vm,Vn,xN,o7,Vo,o7,Vp,Vq,o7,Vr,o7,Vs,Vt,o7,Vu,o7,Vv,Vw,o7,Vx,Vy,xN,o7,Vz,o7,V5,V6,GL,o7,V7,o7,V8,V9,o7,VA,o7,VB,VC,o7,VD,o7,VE,VF,o7,VG,o7,VH,VI,o7,VJ,o7,VK,VL,o7,VM,VN,xN,GL,o7,VO,o7,VP,VQ,o7,VS,o7,VT,VU,o7,VV,o7,VW,VX,o7,VY,o7,VZ,Wa,o7,Wb,Wc,xN,o7,Wd,o7,We,Wg,Br,o7,Wi,o7,Wj,Wk,o7,Wl,o7,Wm,Wn,o7,Wo,o7,Wp,Wq,o7,Wr,o7,Ws,Wt,o7,Wu,Wv,xM,o7,Ww,o7,Wx,Wy,o7,Wz,o7,W0,W2,o7,W4,o7,W5,W6,W7,W8,W9,WA,o7,WB,WC,o7,WD,WE,Br,o7,WF,o7,WG,WH,o7,WJ,WK,o7,WL,WM,o7,WO,WP,o7,WQ,WR,WS,o7,WT,WU,Z5,o7,WV,o7,WW,WX,o7,WY,WZ,o7,o7,o7,Xa,Xb,o7,Xc,o7,Xd,Xe,o7,Xf,o7,Xg,Xh,o7,Xi,o7,Xj,Xk]
def Kf(P:Params):Frag:=KfP P pw
end
noncomputable def bE(p:Program):List Stmt:=behindTheImports p
noncomputable def Jy(p:Program):Env:={scope:=p.main.scope,locals:=mainNs,globals:=mainNs,cells:=[],code:=.ref 13,frame:=some 14}
def cE(p:Program):Code:=.body (bE p) (Jy p)
noncomputable def q0:Pos:=⟨0,0,0,0⟩
noncomputable def q1:Pos:=⟨427,0,486,80⟩
def SA(p:Program)(w:World)(os:OsState):SharedT:=⟨treeA w.params p,15,{},Array.mk [],{},187,os⟩
def SZ(p:Program)(w:World)(os:OsState):SharedT:=⟨Qv w.params p,688,{},Array.mk [],{},1036,os⟩
def preL(p:Program)(w:World):OsState->Option (Shared×Thread):=λos=>topGo treeTable p w 11 (some (.ref 6)) 12 ⟨t6 w.params p,Array.mk [],boot_drawn,boot_toks,os⟩ (topStub p)
def preR(p:Program)(w:World):OsState->Option (Shared×Thread):=λos=>some ((SA p w os).abs,Thread.mk (denote treeTable (cE p)) (cE p) q0 [topFrame q0])
def runL(p:Program)(w:World):OsState->Option (Flow×SharedT×Code×Pos):=λos=>segRunT treeTable p w 11 (some (.ref 6)) 1 5164 (SA p w os) (piecesOf (bE p) (Jy p) (cE p) q0 [topFrame q0])
def runR(p:Program)(w:World):OsState->Option (Flow×SharedT×Code×Pos):=λos=>some (.next,SZ p w os,cE p,q1)
def finL(p:Program)(w:World):OsState->Option Shared:=λos=>topRun treeTable p w 11 (some (.ref 6)) 2 (SZ p w os).abs ⟨doneF .next,cE p,q1,[topFrame q0]⟩
def finR(p:Program)(w:World):OsState->Option Shared:=λos=>some (SZ p w os).abs
lay_quick Mine.preL Mine.preR Mine.runL Mine.runR Mine.finL Mine.finR
theorem Xl(w:World):PySem.W.Fast.tw1435067368052203930 pw w=PySem.W.Fast.tw17653279219239862775 pw w:=by kernel_rfl!
theorem Xm(w:World):preL pw w=preR pw w:=by
 have a:=PySem.W.Fast.te1435067368052203930;have b:=PySem.W.Fast.te17653279219239862775;rw[a,b];exact Xl w
theorem Xn(w:World):PySem.W.Fast.tw8888714992180598707 pw w=PySem.W.Fast.tw10272301045346404311 pw w:=by kernel_rfl!
theorem Xo(w:World):finL pw w=finR pw w:=by
 have a:=PySem.W.Fast.te8888714992180598707;have b:=PySem.W.Fast.te10272301045346404311;rw[a,b];exact Xn w
theorem Xp(w:World):PySem.W.Fast.tw15381529512651596867 pw w=PySem.W.Fast.tw6244362003190856736 pw w:=by kernel_rfl!
theorem Xq(w:World):runL pw w=runR pw w:=by
 have a:=PySem.W.Fast.te15381529512651596867;have b:=PySem.W.Fast.te6244362003190856736;rw[a,b];exact Xp w
theorem Oe(P:Params):boot_heap P=t6 P pw:=by kernel_rfl!
noncomputable def qvP(p:Program):Program:=view p [24]
def qv:Program:=qvP pw
noncomputable def loose:List Str:=["_wall","partition","gcd","Node","Variable","NumNode","variable","create_node","create_lt_node","OpNode","LtNode","MulNode","DivNode","ModNode","RedNode","SumNode","sym_render","sym_infer","_law_names","_law_at","_law_cut"]
def w5(P:Params)(p:Program):Heap:=⟨⟨objsZ P p⟩,{}⟩
theorem absZ(P:Params):absHeap (Qv P pw) 688 {}=w5 P pw:=by kernel_rfl!
def sz(p:Program)(w:World)(os:OsState):Shared:=⟨w5 w.params p,Array.mk [],{},1036,os⟩
def look1L(p:Program)(w:World):OsState->Bool:=λos=>(staticsOk (importedModules p.main.body) (t6 w.params p) (w5 w.params p)&&namesBound p (w5 w.params p)&&gensDone (sz p w os)&&laidKept (t6 w.params p) (w5 w.params p))
def look2L(p:Program)(w:World):=λos=>openSeen (qvP p) loose (importedModules p.main.body) (λ_=>true) true (sz p w os)
def look2R(p:Program)(_:World):=λ(_:OsState)=>openGood (qvP p) loose
def Jz(w:World):=λos=>kAs.map (sz pw w os).heap.get?
def J0(w:World):=λ(os:OsState)=>(Kf w.params).map λp=>some p.2
def sizeL(p:Program)(w:World):=((t6 w.params p).isNs mainGlobals&&(Array.mk ([]:List GenState)).size==0,(t6 w.params p).objs.size,(t6 w.params p).nsMap mainGlobals "__annotations__")
lay_quick Mine.look1L Mine.look2L Mine.look2R Mine.sizeL
theorem J5(w:World):PySem.W.Fast.tw16964701986243613207 pw w=λ_=>true:=by kernel_rfl!
theorem J6(w:World):PySem.W.Fast.tw12730210992960930042 pw w=PySem.W.Fast.tw11975395444102917674 pw w:=by kernel_rfl!
theorem Of(w:World):PySem.W.Fast.tw10514693982987533042 pw w=(true,11,some (.ref 6)):=by kernel_rfl!
theorem J7(w:World):Jz w=J0 w:=by kernel_rfl!
def blkL(p:Program)(w:World):OsState->Option (Flow×Shared×Code×Pos):=λos=>segRun treeTable p w 11 (some (.ref 6)) 1 1 (SA p w os).abs (blockOf (bE p) (Jy p) (cE p) q0 [topFrame q0])
def blkR(p:Program)(w:World):OsState->Option (Flow×Shared×Code×Pos):=λos=>some (.next,(SA p w os).abs,cE p,q0)
lay_quick Mine.blkL Mine.blkR
theorem Xr(w:World):PySem.W.Fast.tw17163393078156831584 pw w=PySem.W.Fast.tw8616536883710013034 pw w:=by kernel_rfl!
theorem Xs(w:World):blkL pw w=blkR pw w:=by
 have a:=PySem.W.Fast.te17163393078156831584;have b:=PySem.W.Fast.te8616536883710013034;rw[a,b];exact Xr w
theorem J8(w:World):look1L pw w=λ_=>true:=by
 have a:=PySem.W.Fast.te16964701986243613207;rw[a];exact J5 w
theorem J9(w:World):look2L pw w=look2R pw w:=by
 have a:=PySem.W.Fast.te12730210992960930042;have b:=PySem.W.Fast.te11975395444102917674;rw[a,b];exact J6 w
theorem Og(w:World):sizeL pw w=(true,11,some (.ref 6)):=by
 have a:=PySem.W.Fast.te10514693982987533042;rw[a];exact Of w
theorem Oh(w:World):(fencedOpening treeTable pw w 10452).map (λs=>(s.heap,s.gens,s.drawn,s.toks))=some (t6 w.params pw,Array.mk [],boot_drawn,boot_toks):=by
 rw[<-Oe];exact boot_open (by kernel_rfl!) (by kernel_rfl!) (λs=>by kernel_rfl!) w
theorem Oi(w:World)(os:OsState):topRun treeTable pw w 11 (some (.ref 6)) (12+(1+(5164+2))) ⟨t6 w.params pw,Array.mk [],boot_drawn,boot_toks,os⟩ (topStub pw)=some ⟨w5 w.params pw,Array.mk [],{},1036,os⟩:=by
 have e1:preL pw w os=preR pw w os:=congrFun (Xm w) os;have e2:blkL pw w os=blkR pw w os:=congrFun (Xs w) os;have e3:runL pw w os=runR pw w os:=congrFun (Xq w) os;have e4:finL pw w os=finR pw w os:=congrFun (Xo w) os;have e5:(SZ pw w os).abs=⟨w5 w.params pw,Array.mk [],{},1036,os⟩:=by
  unfold SZ SharedT.abs;dsimp only;rw[absZ]
 rw[<-e5];refine go_top (s':=(SA pw w os).abs) e1 ?_;refine piece_block (q:=q0) (env:=Jy pw) (b:=bE pw) (s':=(SA pw w os).abs) (p':=q0) e2 ?_;have h:topRun treeTable pw w 11 (some (.ref 6)) (5164+2) (SA pw w os).abs (restOf (bE pw++[]) (Jy pw) (cE pw) q0 [topFrame q0])=some (SZ pw w os).abs:=
  piece_app (s':=(SZ pw w os).abs) (p':=q1) (segRun_of e3) (piece_nil e4)
 rwa [bW]at h
theorem left:LeftO pw qv loose (λ_=>true) (λs=>kAs.map s.heap.get?) (λw=>(Kf w.params).map λp=>some p.2) 10452:=
 LeftO.of_pieces (H₀:=λP=>t6 P pw) (H₁:=λP=>w5 P pw) (gs₀:=Array.mk []) (gs₁:=Array.mk []) (d₀:=boot_drawn) (d₁:={}) (k₀:=boot_toks) (k₁:=1036) (m₀:=11) (ann:=some (.ref 6)) (M:=12+(1+(5164+2)))
  Oh Og Oi (by decide) (λw=>funext λos=>by
   have a:look1L pw w os=true:=congrFun (J8 w) os;have b:look2L pw w os=look2R pw w os:=congrFun (J9 w) os;have c:Jz w os=J0 w os:=congrFun (J7 w) os;exact Prod.ext a (Prod.ext b c))
noncomputable def saidL(l:OpenLaw):Bool:=l.wellSaid
lay_quick Mine.saidL
theorem Oj:PySem.W.Fast.tw5906152571034997826 PySem.Challenge.rw_iv0066_01=true:=by kernel_rfl!
theorem Xu:PySem.Challenge.rw_iv0066_01.wellSaid=true:=(congrFun PySem.W.Fast.te5906152571034997826 _).trans Oj
theorem aY{α:Type}{a:α}{P:Prop}(h:none=some a):P:=by cases h
theorem bX{P:Prop}(h:false=true):P:=by cases h
theorem jA{P:Prop}(h:true=false):P:=by cases h
theorem bT{a b d:Nat}(h:b<=d)(e:Nat.ble a b=true):a<=d:=aR (aX e) h
theorem iA{k j b:Int}(h:k<=b)(e:decide (j<=k)=true):j<=b:=a6 (aM e) h
theorem iB{k j b:Int}(h:k<=b)(e:decide (j<k)=true):j<b:=eN (aM e) h
theorem iC{k j b:Int}(h:k<b)(e:decide (j<=k)=true):j<b:=aJ (aM e) h
theorem iD{k j b:Int}(h:k<b)(e:decide (j<=k+1)=true):j<=b:=a6 (aM e) h
theorem iH{k j b:Int}(h:b<=k)(e:decide (k<=j)=true):b<=j:=a6 h (aM e)
theorem iI{k j b:Int}(h:b<=k)(e:decide (k<j)=true):b<j:=aJ h (aM e)
theorem iJ{k j b:Int}(h:b<k)(e:decide (k<=j)=true):b<j:=eN h (aM e)
theorem iK{k j b:Int}(h:b<k)(e:decide (k<=j+1)=true):b<=j:=nN (iJ h e)
theorem iG{k j b:Nat}(h:b<=k)(e:Nat.ble k j=true):b<=j:=aR h (aX e)
theorem iM{k j b:Nat}(h:b<=k)(e:Nat.ble (k+1) j=true):b<j:=aP h (aX e)
theorem iN{k j b:Nat}(h:b<k)(e:Nat.ble k j=true):b<j:=aZ h (aX e)
theorem iO{k j b:Nat}(h:b<k)(e:Nat.ble k (j+1)=true):b<=j:=qI (aZ h (aX e))
theorem iP{n:Int}(e:decide (0<n)=true):0<n:=aM e
theorem bS{α β:Type}{o:Option α}{x:α}{K:α->Option β}(h:o=some x):o.bind K=K x:=h▸rfl
theorem cT{α:Type}{b:Bool}{x y:α}(h:b=true):(bif b then x else y)=x:=h▸rfl
theorem cF{α:Type}{b:Bool}{x y:α}(h:b=false):(bif b then x else y)=y:=h▸rfl
theorem nL{x:Int}{n:Nat}(h0:0<=x)(h:x<(n:Int)):x.natAbs<n:=by omega
theorem nTri(a b:Int):b.natAbs<=(a+b).natAbs+a.natAbs:=by have:=Int.natAbs_sub_le (a+b) a;rwa [show a+b-a=b by omega]at this
theorem x61{l s x:Int}(hl:l<2^60)(hs:s<2^60)(hx:x<=l+s):x<2^61:=aJ hx (eN (Int.add_lt_add hl hs) (by decide))
@[elab_as_elim] theorem l6 {α β:Type} {a c:α} {b d:β} {Q:α->β->Prop} (h:(a,b)=(c,d)) (k:Q a b):Q c d:=by
 obtain⟨rfl,rfl⟩:=Prod.mk.inj h;exact k
@[elab_as_elim] theorem e9 {α:Type} {a c:α} {Q:α->Prop} (h:some a=some c) (k:Q a):Q c:=by
 obtain rfl:=aC h;exact k
@[elab_as_elim] theorem kU {α β:Type} {a c:α} {b d:β} {Q:α->β->Prop} (h:some (a,b)=some (c,d)) (k:Q a b):Q c d:=by
 obtain⟨rfl,rfl⟩:=Prod.mk.inj (aC h);exact k
@[elab_as_elim] theorem Fo {α β γ:Type} {a x:α} {b y:β} {c z:γ} {Q:α->β->γ->Prop} (h:(a,b,c)=(x,y,z)) (k:Q a b c):Q x y z:=by
 obtain⟨rfl,h2⟩:=Prod.mk.inj h;obtain⟨rfl,rfl⟩:=Prod.mk.inj h2;exact k
@[elab_as_elim] theorem DZ {α β γ:Type} {a x:α} {b y:β} {c z:γ} {Q:α->β->γ->Prop} (h:some (a,b,c)=some (x,y,z)) (k:Q a b c):Q x y z:=Fo (aC h) k
theorem oA{p1:Prop}{p2:Prop}{Q:Prop}(h:p1/\p2)(k:p1->p2->Q):Q:=k h.1 h.2
theorem Aq{p1:Prop}{p2:Prop}{p3:Prop}{Q:Prop}(h:p1/\p2/\p3)(k:p1->p2->p3->Q):Q:=k h.1 h.2.1 h.2.2
theorem uY{p1:Prop}{p2:Prop}{p3:Prop}{p4:Prop}{Q:Prop}(h:p1/\p2/\p3/\p4)(k:p1->p2->p3->p4->Q):Q:=k h.1 h.2.1 h.2.2.1 h.2.2.2
theorem C8{p1:Prop}{p2:Prop}{p3:Prop}{p4:Prop}{p5:Prop}{Q:Prop}(h:p1/\p2/\p3/\p4/\p5)(k:p1->p2->p3->p4->p5->Q):Q:=k h.1 h.2.1 h.2.2.1 h.2.2.2.1 h.2.2.2.2
theorem Xv{p1:Prop}{p2:Prop}{p3:Prop}{p4:Prop}{p5:Prop}{p6:Prop}{Q:Prop}(h:p1/\p2/\p3/\p4/\p5/\p6)(k:p1->p2->p3->p4->p5->p6->Q):Q:=k h.1 h.2.1 h.2.2.1 h.2.2.2.1 h.2.2.2.2.1 h.2.2.2.2.2
theorem Xw{α β:Sort _}{p1:Prop}{p2:Prop}{p3:α->β->Prop}{p4:α->β->Prop}{Q:Prop}(h:p1/\p2/\∃a,∃b,p3 a b/\p4 a b)(k:p1->p2->∀a,∀b,p3 a b->p4 a b->Q):Q:=h.2.2.elim λa h1=>h1.elim λb h2=>k h.1 h.2.1 a b h2.1 h2.2
theorem Bs{α β:Sort _}{p1:Prop}{p2:Prop}{p3:α->β->Prop}{p4:α->β->Prop}{p5:α->β->Prop}{Q:Prop}(h:p1/\p2/\∃a,∃b,p3 a b/\p4 a b/\p5 a b)(k:p1->p2->∀a,∀b,p3 a b->p4 a b->p5 a b->Q):Q:=h.2.2.elim λa h1=>h1.elim λb h2=>k h.1 h.2.1 a b h2.1 h2.2.1 h2.2.2
theorem Bt{α:Sort _}{p1:Prop}{p2:α->Prop}{p3:α->Prop}{Q:Prop}(h:p1/\∃a,p2 a/\p3 a)(k:p1->∀a,p2 a->p3 a->Q):Q:=h.2.elim λa h1=>k h.1 a h1.1 h1.2
theorem Qw{α:Sort _}{p1:Prop}{p2:α->Prop}{p3:α->Prop}{p4:α->Prop}{Q:Prop}(h:p1/\∃a,p2 a/\p3 a/\p4 a)(k:p1->∀a,p2 a->p3 a->p4 a->Q):Q:=h.2.elim λa h1=>k h.1 a h1.1 h1.2.1 h1.2.2
theorem yE{α β:Sort _}{p1:Prop}{p2:α->β->Prop}{p3:α->β->Prop}{Q:Prop}(h:p1/\∃a,∃b,p2 a b/\p3 a b)(k:p1->∀a,∀b,p2 a b->p3 a b->Q):Q:=h.2.elim λa h1=>h1.elim λb h2=>k h.1 a b h2.1 h2.2
theorem JA{α β:Sort _}{p1:Prop}{p2:α->β->Prop}{p3:α->β->Prop}{p4:α->β->Prop}{Q:Prop}(h:p1/\∃a,∃b,p2 a b/\p3 a b/\p4 a b)(k:p1->∀a,∀b,p2 a b->p3 a b->p4 a b->Q):Q:=h.2.elim λa h1=>h1.elim λb h2=>k h.1 a b h2.1 h2.2.1 h2.2.2
theorem i8{α:Sort _}{p1:α->Prop}{p2:α->Prop}{Q:Prop}(h:∃a,p1 a/\p2 a)(k:∀a,p1 a->p2 a->Q):Q:=h.elim λa h1=>k a h1.1 h1.2
theorem lY{α:Sort _}{p1:α->Prop}{p2:α->Prop}{p3:α->Prop}{Q:Prop}(h:∃a,p1 a/\p2 a/\p3 a)(k:∀a,p1 a->p2 a->p3 a->Q):Q:=h.elim λa h1=>k a h1.1 h1.2.1 h1.2.2
theorem nZ{α:Sort _}{p1:α->Prop}{p2:α->Prop}{p3:α->Prop}{p4:α->Prop}{Q:Prop}(h:∃a,p1 a/\p2 a/\p3 a/\p4 a)(k:∀a,p1 a->p2 a->p3 a->p4 a->Q):Q:=h.elim λa h1=>k a h1.1 h1.2.1 h1.2.2.1 h1.2.2.2
theorem Ea{α:Sort _}{p1:α->Prop}{p2:α->Prop}{p3:α->Prop}{p4:α->Prop}{p5:α->Prop}{Q:Prop}(h:∃a,p1 a/\p2 a/\p3 a/\p4 a/\p5 a)(k:∀a,p1 a->p2 a->p3 a->p4 a->p5 a->Q):Q:=h.elim λa h1=>k a h1.1 h1.2.1 h1.2.2.1 h1.2.2.2.1 h1.2.2.2.2
theorem JB{α:Sort _}{p1:α->Prop}{p2:α->Prop}{p3:α->Prop}{p4:α->Prop}{p5:α->Prop}{p6:α->Prop}{p7:α->Prop}{Q:Prop}(h:∃a,p1 a/\p2 a/\p3 a/\p4 a/\p5 a/\p6 a/\p7 a)(k:∀a,p1 a->p2 a->p3 a->p4 a->p5 a->p6 a->p7 a->Q):Q:=h.elim λa h1=>k a h1.1 h1.2.1 h1.2.2.1 h1.2.2.2.1 h1.2.2.2.2.1 h1.2.2.2.2.2.1 h1.2.2.2.2.2.2
theorem oEAAE{α β:Sort _}{p1:α->Prop}{p2:α->Prop}{p3:α->β->Prop}{Q:Prop}(h:∃a,p1 a/\p2 a/\∃b,p3 a b)(k:∀a,p1 a->p2 a->∀b,p3 a b->Q):Q:=h.elim λa h1=>h1.2.2.elim λb h2=>k a h1.1 h1.2.1 b h2
theorem nG{α β γ:Sort _}{p1:α->Prop}{p2:α->Prop}{p3:α->β->γ->Prop}{p4:α->β->γ->Prop}{Q:Prop}(h:∃a,p1 a/\p2 a/\∃b,∃c,p3 a b c/\p4 a b c)(k:∀a,p1 a->p2 a->∀b,∀c,p3 a b c->p4 a b c->Q):Q:=h.elim λa h1=>h1.2.2.elim λb h2=>h2.elim λc h3=>k a h1.1 h1.2.1 b c h3.1 h3.2
theorem rP{α β γ:Sort _}{p1:α->Prop}{p2:α->β->γ->Prop}{p3:α->β->γ->Prop}{Q:Prop}(h:∃a,p1 a/\∃b,∃c,p2 a b c/\p3 a b c)(k:∀a,p1 a->∀b,∀c,p2 a b c->p3 a b c->Q):Q:=h.elim λa h1=>h1.2.elim λb h2=>h2.elim λc h3=>k a h1.1 b c h3.1 h3.2
theorem NP{α β:Sort _}{p1:α->β->Prop}{Q:Prop}(h:∃a,∃b,p1 a b)(k:∀a,∀b,p1 a b->Q):Q:=h.elim λa h1=>h1.elim λb h2=>k a b h2
theorem kW{α β:Sort _}{p1:α->β->Prop}{p2:α->β->Prop}{Q:Prop}(h:∃a,∃b,p1 a b/\p2 a b)(k:∀a,∀b,p1 a b->p2 a b->Q):Q:=h.elim λa h1=>h1.elim λb h2=>k a b h2.1 h2.2
theorem fM{α β:Sort _}{p1:α->β->Prop}{p2:α->β->Prop}{p3:α->β->Prop}{Q:Prop}(h:∃a,∃b,p1 a b/\p2 a b/\p3 a b)(k:∀a,∀b,p1 a b->p2 a b->p3 a b->Q):Q:=h.elim λa h1=>h1.elim λb h2=>k a b h2.1 h2.2.1 h2.2.2
theorem uE{α β:Sort _}{p1:α->β->Prop}{p2:α->β->Prop}{p3:α->β->Prop}{p4:α->β->Prop}{Q:Prop}(h:∃a,∃b,p1 a b/\p2 a b/\p3 a b/\p4 a b)(k:∀a,∀b,p1 a b->p2 a b->p3 a b->p4 a b->Q):Q:=h.elim λa h1=>h1.elim λb h2=>k a b h2.1 h2.2.1 h2.2.2.1 h2.2.2.2
theorem tH{α β:Sort _}{p1:α->β->Prop}{p2:α->β->Prop}{p3:α->β->Prop}{p4:α->β->Prop}{p5:α->β->Prop}{Q:Prop}(h:∃a,∃b,p1 a b/\p2 a b/\p3 a b/\p4 a b/\p5 a b)(k:∀a,∀b,p1 a b->p2 a b->p3 a b->p4 a b->p5 a b->Q):Q:=h.elim λa h1=>h1.elim λb h2=>k a b h2.1 h2.2.1 h2.2.2.1 h2.2.2.2.1 h2.2.2.2.2
theorem JC{α β:Sort _}{p1:α->β->Prop}{p2:α->β->Prop}{p3:α->β->Prop}{p4:α->β->Prop}{p5:α->β->Prop}{p6:α->β->Prop}{Q:Prop}(h:∃a,∃b,p1 a b/\p2 a b/\p3 a b/\p4 a b/\p5 a b/\p6 a b)(k:∀a,∀b,p1 a b->p2 a b->p3 a b->p4 a b->p5 a b->p6 a b->Q):Q:=h.elim λa h1=>h1.elim λb h2=>k a b h2.1 h2.2.1 h2.2.2.1 h2.2.2.2.1 h2.2.2.2.2.1 h2.2.2.2.2.2
theorem pA{α β:Sort _}{p1:α->β->Prop}{p2:α->β->Prop}{p3:α->β->Prop}{p4:α->β->Prop}{p5:α->β->Prop}{p6:α->β->Prop}{p7:α->β->Prop}{p8:α->β->Prop}{Q:Prop}(h:∃a,∃b,p1 a b/\p2 a b/\p3 a b/\p4 a b/\p5 a b/\p6 a b/\p7 a b/\p8 a b)(k:∀a,∀b,p1 a b->p2 a b->p3 a b->p4 a b->p5 a b->p6 a b->p7 a b->p8 a b->Q):Q:=h.elim λa h1=>h1.elim λb h2=>k a b h2.1 h2.2.1 h2.2.2.1 h2.2.2.2.1 h2.2.2.2.2.1 h2.2.2.2.2.2.1 h2.2.2.2.2.2.2.1 h2.2.2.2.2.2.2.2
theorem w6{α β:Sort _}{p1:α->β->Prop}{p2:α->β->Prop}{p3:α->β->Prop}{p4:α->β->Prop}{p5:α->β->Prop}{p6:α->β->Prop}{p7:α->β->Prop}{p8:α->β->Prop}{p9:α->β->Prop}{Q:Prop}(h:∃a,∃b,p1 a b/\p2 a b/\p3 a b/\p4 a b/\p5 a b/\p6 a b/\p7 a b/\p8 a b/\p9 a b)(k:∀a,∀b,p1 a b->p2 a b->p3 a b->p4 a b->p5 a b->p6 a b->p7 a b->p8 a b->p9 a b->Q):Q:=h.elim λa h1=>h1.elim λb h2=>k a b h2.1 h2.2.1 h2.2.2.1 h2.2.2.2.1 h2.2.2.2.2.1 h2.2.2.2.2.2.1 h2.2.2.2.2.2.2.1 h2.2.2.2.2.2.2.2.1 h2.2.2.2.2.2.2.2.2
theorem oEEE{α β γ:Sort _}{p1:α->β->γ->Prop}{Q:Prop}(h:∃a,∃b,∃c,p1 a b c)(k:∀a,∀b,∀c,p1 a b c->Q):Q:=h.elim λa h1=>h1.elim λb h2=>h2.elim λc h3=>k a b c h3
theorem Qx{α β γ:Sort _}{p1:α->β->γ->Prop}{p2:α->β->γ->Prop}{Q:Prop}(h:∃a,∃b,∃c,p1 a b c/\p2 a b c)(k:∀a,∀b,∀c,p1 a b c->p2 a b c->Q):Q:=h.elim λa h1=>h1.elim λb h2=>h2.elim λc h3=>k a b c h3.1 h3.2
theorem Fp{α β γ:Sort _}{p1:α->β->γ->Prop}{p2:α->β->γ->Prop}{p3:α->β->γ->Prop}{p4:α->β->γ->Prop}{Q:Prop}(h:∃a,∃b,∃c,p1 a b c/\p2 a b c/\p3 a b c/\p4 a b c)(k:∀a,∀b,∀c,p1 a b c->p2 a b c->p3 a b c->p4 a b c->Q):Q:=h.elim λa h1=>h1.elim λb h2=>h2.elim λc h3=>k a b c h3.1 h3.2.1 h3.2.2.1 h3.2.2.2
theorem JD{α β γ:Sort _}{p1:α->β->γ->Prop}{p2:α->β->γ->Prop}{p3:α->β->γ->Prop}{p4:α->β->γ->Prop}{p5:α->β->γ->Prop}{Q:Prop}(h:∃a,∃b,∃c,p1 a b c/\p2 a b c/\p3 a b c/\p4 a b c/\p5 a b c)(k:∀a,∀b,∀c,p1 a b c->p2 a b c->p3 a b c->p4 a b c->p5 a b c->Q):Q:=h.elim λa h1=>h1.elim λb h2=>h2.elim λc h3=>k a b c h3.1 h3.2.1 h3.2.2.1 h3.2.2.2.1 h3.2.2.2.2
theorem tJ{α β γ:Sort _}{p1:α->β->γ->Prop}{p2:α->β->γ->Prop}{p3:α->β->γ->Prop}{p4:α->β->γ->Prop}{p5:α->β->γ->Prop}{p6:α->β->γ->Prop}{Q:Prop}(h:∃a,∃b,∃c,p1 a b c/\p2 a b c/\p3 a b c/\p4 a b c/\p5 a b c/\p6 a b c)(k:∀a,∀b,∀c,p1 a b c->p2 a b c->p3 a b c->p4 a b c->p5 a b c->p6 a b c->Q):Q:=h.elim λa h1=>h1.elim λb h2=>h2.elim λc h3=>k a b c h3.1 h3.2.1 h3.2.2.1 h3.2.2.2.1 h3.2.2.2.2.1 h3.2.2.2.2.2
theorem C9{α β γ:Sort _}{p1:α->β->γ->Prop}{p2:α->β->γ->Prop}{p3:α->β->γ->Prop}{p4:α->β->γ->Prop}{p5:α->β->γ->Prop}{p6:α->β->γ->Prop}{p7:α->β->γ->Prop}{p8:α->β->γ->Prop}{Q:Prop}(h:∃a,∃b,∃c,p1 a b c/\p2 a b c/\p3 a b c/\p4 a b c/\p5 a b c/\p6 a b c/\p7 a b c/\p8 a b c)(k:∀a,∀b,∀c,p1 a b c->p2 a b c->p3 a b c->p4 a b c->p5 a b c->p6 a b c->p7 a b c->p8 a b c->Q):Q:=h.elim λa h1=>h1.elim λb h2=>h2.elim λc h3=>k a b c h3.1 h3.2.1 h3.2.2.1 h3.2.2.2.1 h3.2.2.2.2.1 h3.2.2.2.2.2.1 h3.2.2.2.2.2.2.1 h3.2.2.2.2.2.2.2
theorem A9{α β γ δ:Sort _}{p1:α->β->γ->δ->Prop}{Q:Prop}(h:∃a,∃b,∃c,∃d,p1 a b c d)(k:∀a,∀b,∀c,∀d,p1 a b c d->Q):Q:=h.elim λa h1=>h1.elim λb h2=>h2.elim λc h3=>h3.elim λd h4=>k a b c d h4
theorem Xx{α β γ δ:Sort _}{p1:α->β->γ->δ->Prop}{p2:α->β->γ->δ->Prop}{Q:Prop}(h:∃a,∃b,∃c,∃d,p1 a b c d/\p2 a b c d)(k:∀a,∀b,∀c,∀d,p1 a b c d->p2 a b c d->Q):Q:=h.elim λa h1=>h1.elim λb h2=>h2.elim λc h3=>h3.elim λd h4=>k a b c d h4.1 h4.2
theorem Eb{α β γ δ:Sort _}{p1:α->β->γ->δ->Prop}{p2:α->β->γ->δ->Prop}{p3:α->β->γ->δ->Prop}{p4:α->β->γ->δ->Prop}{p5:α->β->γ->δ->Prop}{p6:α->β->γ->δ->Prop}{Q:Prop}(h:∃a,∃b,∃c,∃d,p1 a b c d/\p2 a b c d/\p3 a b c d/\p4 a b c d/\p5 a b c d/\p6 a b c d)(k:∀a,∀b,∀c,∀d,p1 a b c d->p2 a b c d->p3 a b c d->p4 a b c d->p5 a b c d->p6 a b c d->Q):Q:=h.elim λa h1=>h1.elim λb h2=>h2.elim λc h3=>h3.elim λd h4=>k a b c d h4.1 h4.2.1 h4.2.2.1 h4.2.2.2.1 h4.2.2.2.2.1 h4.2.2.2.2.2
theorem Bu{α β γ δ:Sort _}{p1:α->β->γ->δ->Prop}{p2:α->β->γ->δ->Prop}{p3:α->β->γ->δ->Prop}{p4:α->β->γ->δ->Prop}{p5:α->β->γ->δ->Prop}{p6:α->β->γ->δ->Prop}{p7:α->β->γ->δ->Prop}{p8:α->β->γ->δ->Prop}{Q:Prop}(h:∃a,∃b,∃c,∃d,p1 a b c d/\p2 a b c d/\p3 a b c d/\p4 a b c d/\p5 a b c d/\p6 a b c d/\p7 a b c d/\p8 a b c d)(k:∀a,∀b,∀c,∀d,p1 a b c d->p2 a b c d->p3 a b c d->p4 a b c d->p5 a b c d->p6 a b c d->p7 a b c d->p8 a b c d->Q):Q:=h.elim λa h1=>h1.elim λb h2=>h2.elim λc h3=>h3.elim λd h4=>k a b c d h4.1 h4.2.1 h4.2.2.1 h4.2.2.2.1 h4.2.2.2.2.1 h4.2.2.2.2.2.1 h4.2.2.2.2.2.2.1 h4.2.2.2.2.2.2.2
theorem GO{α β γ δ ε:Sort _}{p1:α->β->γ->δ->ε->Prop}{p2:α->β->γ->δ->ε->Prop}{p3:α->β->γ->δ->ε->Prop}{p4:α->β->γ->δ->ε->Prop}{Q:Prop}(h:∃a,∃b,∃c,∃d,∃e,p1 a b c d e/\p2 a b c d e/\p3 a b c d e/\p4 a b c d e)(k:∀a,∀b,∀c,∀d,∀e,p1 a b c d e->p2 a b c d e->p3 a b c d e->p4 a b c d e->Q):Q:=h.elim λa h1=>h1.elim λb h2=>h2.elim λc h3=>h3.elim λd h4=>h4.elim λe h5=>k a b c d e h5.1 h5.2.1 h5.2.2.1 h5.2.2.2
theorem Bv{α β γ δ ε ζ:Sort _}{p1:α->β->γ->δ->ε->ζ->Prop}{Q:Prop}(h:∃a,∃b,∃c,∃d,∃e,∃f,p1 a b c d e f)(k:∀a,∀b,∀c,∀d,∀e,∀f,p1 a b c d e f->Q):Q:=h.elim λa h1=>h1.elim λb h2=>h2.elim λc h3=>h3.elim λd h4=>h4.elim λe h5=>h5.elim λf h6=>k a b c d e f h6
theorem yF{α β γ δ ε ζ:Sort _}{p1:α->β->γ->δ->ε->ζ->Prop}{p2:α->β->γ->δ->ε->ζ->Prop}{Q:Prop}(h:∃a,∃b,∃c,∃d,∃e,∃f,p1 a b c d e f/\p2 a b c d e f)(k:∀a,∀b,∀c,∀d,∀e,∀f,p1 a b c d e f->p2 a b c d e f->Q):Q:=h.elim λa h1=>h1.elim λb h2=>h2.elim λc h3=>h3.elim λd h4=>h4.elim λe h5=>h5.elim λf h6=>k a b c d e f h6.1 h6.2
theorem uZ{α β γ δ ε ζ:Sort _}{p1:α->β->γ->δ->ε->ζ->Prop}{p2:α->β->γ->δ->ε->ζ->Prop}{p3:α->β->γ->δ->ε->ζ->Prop}{p4:α->β->γ->δ->ε->ζ->Prop}{p5:α->β->γ->δ->ε->ζ->Prop}{p6:α->β->γ->δ->ε->ζ->Prop}{p7:α->β->γ->δ->ε->ζ->Prop}{p8:α->β->γ->δ->ε->ζ->Prop}{p9:α->β->γ->δ->ε->ζ->Prop}{p10:α->β->γ->δ->ε->ζ->Prop}{p11:α->β->γ->δ->ε->ζ->Prop}{Q:Prop}(h:∃a,∃b,∃c,∃d,∃e,∃f,p1 a b c d e f/\p2 a b c d e f/\p3 a b c d e f/\p4 a b c d e f/\p5 a b c d e f/\p6 a b c d e f/\p7 a b c d e f/\p8 a b c d e f/\p9 a b c d e f/\p10 a b c d e f/\p11 a b c d e f)(k:∀a,∀b,∀c,∀d,∀e,∀f,p1 a b c d e f->p2 a b c d e f->p3 a b c d e f->p4 a b c d e f->p5 a b c d e f->p6 a b c d e f->p7 a b c d e f->p8 a b c d e f->p9 a b c d e f->p10 a b c d e f->p11 a b c d e f->Q):Q:=h.elim λa h1=>h1.elim λb h2=>h2.elim λc h3=>h3.elim λd h4=>h4.elim λe h5=>h5.elim λf h6=>k a b c d e f h6.1 h6.2.1 h6.2.2.1 h6.2.2.2.1 h6.2.2.2.2.1 h6.2.2.2.2.2.1 h6.2.2.2.2.2.2.1 h6.2.2.2.2.2.2.2.1 h6.2.2.2.2.2.2.2.2.1 h6.2.2.2.2.2.2.2.2.2.1 h6.2.2.2.2.2.2.2.2.2.2
theorem GQ{α β γ δ ε ζ η:Sort _}{p1:α->β->γ->δ->ε->ζ->η->Prop}{p2:α->β->γ->δ->ε->ζ->η->Prop}{Q:Prop}(h:∃a,∃b,∃c,∃d,∃e,∃f,∃g,p1 a b c d e f g/\p2 a b c d e f g)(k:∀a,∀b,∀c,∀d,∀e,∀f,∀g,p1 a b c d e f g->p2 a b c d e f g->Q):Q:=h.elim λa h1=>h1.elim λb h2=>h2.elim λc h3=>h3.elim λd h4=>h4.elim λe h5=>h5.elim λf h6=>h6.elim λg h7=>k a b c d e f g h7.1 h7.2
theorem v8{α β γ δ ε ζ η θ:Sort _}{p1:α->β->γ->δ->ε->ζ->η->θ->Prop}{Q:Prop}(h:∃a,∃b,∃c,∃d,∃e,∃f,∃g,∃h,p1 a b c d e f g h)(k:∀a,∀b,∀c,∀d,∀e,∀f,∀g,∀h,p1 a b c d e f g h->Q):Q:=h.elim λa h1=>h1.elim λb h2=>h2.elim λc h3=>h3.elim λd h4=>h4.elim λe h5=>h5.elim λf h6=>h6.elim λg h7=>h7.elim λh h8=>k a b c d e f g h h8
@[elab_as_elim] theorem JE {α:Type} {Q:List α->Prop} (nil:Q []) (one:∀a,Q [a]) (two:∀a b r,Q (a::b::r)) (l:List α):Q l:=List.rec nil (λa r _=>List.rec (motive:=λr=>Q (a::r)) (one a) (λb r _=>two a b r) r) l
theorem nat5{Q:Nat->Prop}(h0:Q 0)(h1:Q 1)(h2:Q 2)(h3:Q 3)(h4:Q 4){k:Nat}(h:k<5):Q k:=by
 by_cases e:k=0
 ·rw[e];exact h0
 ·by_cases e:k=1
  ·rw[e];exact h1
  ·by_cases e:k=2
   ·rw[e];exact h2
   ·by_cases e:k=3
    ·rw[e];exact h3
    ·rw[show k=4 by omega];exact h4
theorem zEAN{a b c:Int}(h:a+c=b):a=b+ -c:=by rw[<-h,Int.add_neg_cancel_right]
theorem JF{x0 x1 x2:Nat}(h0:x0<x1*2)(h1:x2%x0<x0)(h2:x0%(x2%x0)<x2%x0)(h3:x0%(x2%x0)<=x0-x2%x0):x0%(x2%x0)<x1:=Nat.lt_of_mul_lt_mul_right (bA (by rw[Nat.mul_two];exact lO (Nat.add_lt_add_of_lt_of_le h2 h3) (Nat.add_sub_cancel' (bD h1))) h0)
theorem CB{x0 x1:Int}(h0:x0<=x1)(h1:¬x0=x1):x0<x1:=by lia
theorem JG{x0 x1 x2 x3 x4 x5:Nat}(h0:x0+x1+x2<=x3)(h1:x4=x1):x0+x4+(x5+x2)<=x5+x3:=by rw[h1,Nat.add_left_comm];exact k8 h0 _
theorem JH{x0 x1 x2 x3 x4 x5 x6:Int}(h0:x0=x1*x2+x3)(h1:x4=x5%x1)(h2:x5%x1+x1*(x5/x1)=x5)(h3:0<=x1*(x5/x1))(h4:0<=x1*x2)(h5:x0+x5<x6):x3+x4<x6:=aJ (Int.add_le_add (a6 (Int.le_add_of_nonneg_left h4) (dL h0.symm)) (a6 (dL h1) (a6 (j8 h3) (dL h2)))) h5
theorem JI{x0 x1 x2 x3:Int}(h0:x0=x1/x2)(h1:0<=x1/x2)(h2:0<=x3):0<=x0+x3:=pM (a6 h1 (dL h0.symm)) h2
theorem JJ{x0 x1 x2 x3 x4 x5 x6:Int}(h0:0<=x0/\x0<=x1)(h1:x1+x2<x3)(h2:x4=x5)(h3:x4=x6)(h4:0<=x6/\x6<=x0+x2):x4<x3:=aJ (a6 (dL h3) (a6 h4.2 (Int.add_le_add_right h0.2 _))) h1
theorem u4{x0 x1:Int}(h0:x0=x1):0+x0=x1:=by lia
theorem JK{x0 x1 x2 x3 x4:Int}(h0:x0=x1)(h1:x2+x3<x4)(h2:0<=x1/\x1<=x2+x3):x0+0+0<x4:=by rw[dK,dK,h0];exact aJ h2.2 h1
theorem CC{x0 x1:Int}(h0:x0=x1):x0+0+0=x1:=by lia
theorem JL{x0 x1 x2 x3 x4:Int}(h0:x0+0=x1)(h1:0<=x2/\x2<x1/\x1<x3)(h2:0<=x4/\x4<=x1):x4+0+0<x3:=by rw[dK,dK];exact aJ h2.2 h1.2.2
theorem CD{x0:Int} :x0+0+0=x0:=by lia
theorem CE{x0 x1 x2:Int}(h0:2<=x0)(h1:x1∣x0)(h2:x1*x2=x0)(h3:x1*x2<=0):1<=x2:=absurd (a6 h0 (h2▸h3)) (by decide)
theorem JM{x0 x1 x2 x3 x4:Nat}(h0:1<=x0)(h1:x1<=x2+1)(h2:x3+x0<=x1)(h3:x4<=x3):x4<=x2:=aR h3 (Nat.le_of_succ_le_succ (aR (k8 h0 _) (aR h2 h1)))
theorem CF{x0:Nat}(h0:1<(↑x0:Int)):2<=(↑x0:Int):=by lia
theorem CG{x0 x1:Int}{x2:Nat}(h0:x0<x1)(h1:(↑x2:Int)<=x0):(↑x2:Int)<x1:=aJ h1 h0
theorem JN{x0 x1 x2:Nat}(h0:x0<=x1)(h1:44+2*x1<=x2):43<=x2:=aR (aR (by decide) (eT _ _)) h1
theorem JO{x0:Int}{x1:Nat}{x2:Int}(h0:1<=x0)(h1:¬x0=1)(h2:(↑x1:Int)∣x0)(h3:(↑x1:Int)*x2=x0)(h4:(↑x1:Int)*x2<=0):1<=x2:=absurd (a6 h0 (h3▸h4)) (by decide)
theorem JP{x0 x1:Int}(h0:x0.natAbs<2^900/\0<=x0/\x0<x1)(h1:x1<=x0):x0=0:=absurd h0.2.2 (jJ.mpr h1)
theorem JQ{x0:Nat}{x1 x2:Int}(h0:(↑x0:Int)∣x1)(h1:1<=x2)(h2:¬x2=1):2<=x2:=nO.mpr ⟨h1,λe=>h2 e.symm⟩
theorem JR{x0:Nat}{x1 x2 x3 x4:Int}(h0:(↑x0:Int)∣x1)(h1:(↑x0:Int)∣x2)(h2:(↑x0:Int)*x3=x1)(h3:x2.natAbs<2^900/\0<=x2/\x2<x1)(h4:(↑x0:Int)*x4=x2)(h5:(↑x0:Int)*x3<=(↑x0:Int)*x4):x4<x3:=absurd h3.2.2 (jJ.mpr (h2▸h4▸h5))
theorem JS{x0 x1:Nat}(h0:x0=x1)(h1:1<(↑x1:Int)):0<x1:=bA Nat.zero_lt_one (oT.mp h1)
theorem CH{x0 x1:Int}{x2:Nat}{x3:Int}(h0:x0<x1)(h1:(↑x2:Int)<=x0)(h2:(↑x2:Int)*x3=x0):(↑x2:Int)<x1:=aJ h1 h0
theorem JT{x0 x1 x2:Nat}(h0:x0<=x1)(h1:44+2*x1<=x2):41<=x2:=aR (aR (by decide) (eT _ _)) h1
theorem JU{x0:Int}{x1:Nat}{x2:Int}(h0:2<=x0)(h1:(↑x1:Int)∣x0)(h2:(↑x1:Int)*x2=x0)(h3:(↑x1:Int)*x2<=0):1<=x2:=absurd (a6 h0 (h2▸h3)) (by decide)
theorem JV{x0 x1 x2 x3:Int}(h0:x0+x1=x2+0)(h1:0+x3=x2+0):x3=x2:=by rw[cY,dK]at h1;exact h1
theorem CJ{x0:Int} :0+x0=x0:=by lia
theorem JW{x0 x1:Nat}(h0:x0<=x1/\x1<=x0+1)(h1:x0<=8):x1<=20:=aR h0.2 (aR (Nat.succ_le_succ h1) (by decide))
theorem JX{x0 x1 x2:Int}(h0:x0<2^60)(h1:x1<2^60)(h2:0<=x2/\x2<=x0+x1):x2<2^62:=aJ h2.2 (cX (Int.add_lt_add h0 h1) (by decide))
theorem JY{x0 x1 x2 x3:Int}(h0:x0<2^60)(h1:x1<2^60)(h2:x2<=x0+x1)(h3:0<=x3/\x3<=x2):x3.natAbs<2^63:=nL h3.1 (aJ (a6 h3.2 h2) (cX (Int.add_lt_add h0 h1) (by decide)))
theorem CK{x0:Nat}{x1 x2 x3:Int}(h0:1<=x0->1<=x1/\0<=x2)(h1:1<=x0)(h2:0<=x3*x1):0<=x3*x1+x2:=pM h2 (h0 h1).2
theorem JZ{x0 x1 x2:Int}(h0:x0<=x1)(h1:x1<=x2)(h2:¬x0=x2):x0<x2:=nO.mpr ⟨a6 h0 h1,h2⟩
theorem Ka{x0 x1 x2:Int}(h0:x0%x1+x1*(x2/x1)=x0)(h1:x2%x1+x1*(x2/x1)=x2)(h2:0<=x2%x1):0<=x2*1+(0+ -(x1*(x2/x1))):=by rw[dF,cY,<-zEAN h1];exact h2
theorem Kb{x0 x1 x2 x3:Int}(h0:x0=x1%x2)(h1:x1%x2+x2*(x3/x2)=x1):x0=x1*1+(0+ -(x2*(x3/x2))):=by rw[h0,dF,cY];exact zEAN h1
theorem Kc{x0 x1:Int}(h0:¬x0=x1)(h1:x0<=x1):x0<x1:=nO.mpr ⟨h1,h0⟩
theorem CL{x0:Int} :0<=(↑x0.natAbs:Int):=by lia
theorem CM{x0:Int}(h0:x0.natAbs<2^60):(↑x0.natAbs:Int)<2^60:=eN (oT.mpr h0) (by decide)
theorem Kd{x0 x1 x2 x3:Int}(h0:0<=x0%((↑x1.natAbs:Int)+1))(h1:x2=x0%((↑x1.natAbs:Int)+1)):(↑x3.natAbs:Int)<=(↑x3.natAbs:Int)+x2:=j8 (a6 h0 (dL h1.symm))
theorem Ke{x0 x1 x2 x3:Int}(h0:x0%((↑x1.natAbs:Int)+1)<(↑x1.natAbs:Int)+1)(h1:x2=x0%((↑x1.natAbs:Int)+1)):(↑x3.natAbs:Int)+x2<=(↑x3.natAbs:Int)+(↑x1.natAbs:Int):=Int.add_le_add_left (a6 (dL h1) (nN h0)) _
theorem Kg{x0:Int} :1<=1+(↑(x0+1).natAbs:Int):=by lia
theorem Kh{x0:Int}(h0:x0.natAbs<2^60):(↑x0.natAbs:Int)+1<2^62:=aJ (mI.mpr h0) (by decide)
theorem CO :1<=5:=by lia
theorem Ki{x0:Int}{x1:Nat}{x2:Int}(h0:x0≠0)(h1:1<=x1->1<=x0/\(x0≠1->0<=x2)):1*x0≠0:=by lia
theorem Kj{x0:Int}{x1:Nat}{x2:Int}(h0:x0.natAbs<2^62)(h1:1<=x1->1<=x0/\(x0≠1->0<=x2))(h2:1<=x1)(h3:x0≠1->0<=x2):x0<=2^62:=a6 (a6 Int.le_natAbs (mI.mpr (bD h0))) (by decide)
theorem Kk{x0:Int}(h0:1<=x0):0<=x0:=by lia
theorem CR{x0:Nat}(h0:¬x0=0):1<=x0:=by lia
theorem Kl{x0:Int}(h0:1<=x0):x0≠0:=by lia
theorem qY{x0:Nat}(h0:x0+1<5):x0<5:=by lia
theorem Km{x0:Nat}(h0:x0+1<5):130*(x0+1+1)<=900:=aR (d5 130 h0) (by decide)
theorem Kn{x0 x1:Nat}{x2 x3:Int}(h0:x0=x1*2^130)(h1:1<=x1)(h2:x0<=2^900)(h3:(x2*x3).natAbs<=x1*2^126):(x2*x3).natAbs<x1*2^130:=aP h3 (Nat.mul_lt_mul_of_pos_left (by decide) h1)
theorem Ko{x0 x1:Nat}(h0:x0<=118+x1)(h1:x0=118+(x1+1)):False:=by lia
theorem Kp{x0 x1:Nat}(h0:x0<=118+x1):x0<=118+(x1+1):=mL h0
theorem Kq{x0 x1 x2:Nat}(h0:x0<=1)(h1:x1<=x2+1):x1+x0<=x2+1+1:=mK h1 h0
theorem Kr{x0 x1:Nat}{x2:Int}(h0:x0=x1*2^130)(h1:1<=x1)(h2:x0<=2^900)(h3:x2.natAbs<2^62):x2.natAbs<x1*2^130:=aZ h3 (aR (by decide) (gR _ h1))
theorem Ks{x0 x1:Nat}(h0:x0<5)(h1:x1<=x0+1):x1<=8:=aR h1 (aR h0 (by decide))
theorem Kt{x0:Nat}(h0:x0<5):130*(x0+1)<=900:=by lia
theorem Ku{x0:Nat}(h0:x0<=1):x0<=8:=by lia
theorem Kv{x0:Int}(h0:1<=x0):0<x0:=by lia
theorem Kw{x0:Int}{x1:Nat}{x2:Int}(h0:x0.natAbs<=2^125*x1)(h1:x2.natAbs<=x1)(h2:(x0+x2).natAbs<=x0.natAbs+x2.natAbs):(x0+x2).natAbs<=x1*2^130:=aR h2 (aR (mK h0 h1) (by rw[Nat.mul_comm x1,<-Nat.succ_mul];exact nQ _ (by decide)))
theorem CS{x0:Nat} :1+x0=x0+1:=by lia
theorem Kx{x0:Int} :x0=x0*1+0:=by lia
theorem Ky{x0:Int}(h0:1<=x0)(h1:x0<2^126):x0.natAbs<=2^130:=bD (nL (a6 (by decide) h0) (cX h1 (by decide)))
theorem Kz{x0 x1 x2:Int}(h0:x0+x1<x2):x0+x1<=x2-1:=Int.le_sub_one_of_lt h0
theorem K3{x0:Int}(h0:x0.natAbs<2^62):x0<=2^62:=a6 Int.le_natAbs (a6 (mI.mpr (bD h0)) (by decide))
theorem K4{x0 x1:Nat}(h0:x0+1<=x1):1+(x1-(x0+1))<=x1-x0:=by rw[Nat.sub_add_eq];exact f9 (Nat.add_sub_cancel' (Nat.sub_pos_of_lt h0))
theorem K5{x0 x1:Nat}(h0:x0<5)(h1:x1<=x0):130*(x0-x1)<=520:=aR (d5 130 (aR (Nat.sub_le ..) (qI h0))) (by decide)
theorem K6{x0 x1 x2:Nat}(h0:x0<5)(h1:x1<=x0)(h2:x2<=x0-x1):x2<=5:=aR h2 (aR (Nat.sub_le ..) (bD h0))
theorem K7{x0:Int}(h0:1<=x0)(h1:¬x0=1):2<=x0:=by lia
theorem K8{x0 x1:Nat}(h0:x0<5)(h1:x1<=x0):130*(x1+1)+130*(x0-x1)<=900:=by rw[<-Nat.mul_add,pO,Nat.add_sub_cancel' h1];exact aR (d5 130 h0) (by decide)
theorem K9{x0:Int}{x1:Nat}{x2:Int}(h0:1<=x0)(h1:x0.natAbs<=x1)(h2:x2.natAbs<=x1):x1≠0:=λe=>by rw[e]at h1;have:=Int.natAbs_eq_zero.mp (Nat.le_zero.mp h1);rw[this]at h0;exact absurd h0 (by decide)
theorem KA{x0 x1:Nat}{x2 x3:Int}(h0:x0*x1<=2^900)(h1:x2.natAbs*x3.natAbs<x0*x1):x2.natAbs*x3.natAbs<2^900:=aZ h1 h0
theorem KB{x0 x1:Nat}(h0:x0<5)(h1:x1+1<=x0):130*(x1+1)+126<900:=aP (kB (d5 130 (aR h1 (qI h0))) 126) (by decide)
theorem KC{x0 x1:Nat}(h0:x0<5)(h1:x1+1<=x0):x1<5:=aZ h1 (bD h0)
theorem CT{x0 x1:Nat}(h0:x0<5)(h1:x1+1<=x0):x1+1<5:=aP h1 h0
theorem yG{x0:Nat} :1<=x0+1:=by lia
theorem KD{x0 x1:Int}{x2:Nat}(h0:(x0*x1).natAbs<=x2*2^126)(h1:x2*2^126<2^900):(x0*x1).natAbs<2^900:=aP h0 h1
theorem KF{x0:Nat}(h0:x0<5):118<=118+x0:=by lia
theorem KG{x0:Nat}(h0:x0<5):118+x0<=122:=by lia
theorem KH{x0 x1:Nat}(h0:x0<x1)(h1:118+x1=118+x0):False:=i7 _ (lO h0 (Nat.add_left_cancel h1))
theorem CU{x0:Nat}(h0:x0+1<=5):x0<5:=h0
theorem KI{x0 x1:Nat}(h0:x0<=x1):x0+1<=x1+1:=by lia
theorem KJ{x0:Nat}(h0:x0+1<=5):118<=118+x0:=by lia
theorem KK{x0:Nat}(h0:x0+1<=5):118+x0<=122:=by lia
theorem KL{x0 x1 x2 x3 x4:Int} :x0*x1+x2*x1+(x3+x4)=x0*x1+x3+(x2*x1+x4):=by lia
theorem KM{x0 x1:Nat}(h0:x0<=5)(h1:x1<x0):130*(x1+1)<=900:=aR (d5 130 (aR h1 h0)) (by decide)
theorem KN{x0 x1:Int}{x2:Nat}(h0:x0.natAbs<2^129)(h1:x1.natAbs<=x2*2^126)(h2:1<=x2)(h3:(x1+x0).natAbs<=x1.natAbs+x0.natAbs):(x1+x0).natAbs<x2*2^130:=aP h3 (aZ (Nat.add_lt_add_of_le_of_lt h1 (aZ h0 (gR _ h2))) (by rw[<-Nat.mul_add];exact d5 _ (by decide)))
theorem KO{x0:Nat}(h0:x0+1<5):130*(x0+1)+126<1900:=aP (kB (d5 130 (bD h0)) 126) (by decide)
theorem KP{x0:Nat}(h0:x0+1<5):130*(x0+1)+126<900:=aP (kB (d5 130 (bD h0)) 126) (by decide)
theorem KQ{x0:Int}(h0:1<=x0)(h1:x0<2^126):x0≠0:=by lia
theorem CV{x0:Nat}{x1 x2:Int}(h0:1<=x0)(h1:x0*2^126<2^900)(h2:(x1*x2).natAbs<=x0*2^126):(x1*x2).natAbs<2^900:=aP h2 h1
theorem KS{x0 x1:Nat}(h0:x0+(x1+1)<=5):x0<5:=by lia
theorem KT{x0 x1:Nat}(h0:x0+(x1+1)<=5):x0+1+x1<=5:=by rw[pO];exact h0
theorem KU{x0 x1:Nat} :x0+1+x1=x0+(x1+1):=by lia
theorem KV :0<5:=by lia
theorem KW{x0:Nat}(h0:x0<5):1+x0<=5:=by lia
theorem KX{x0:Nat} :x0+1=1+x0:=by lia
theorem KY{x0 x1 x2:Nat}(h0:x0+1+(x1+1)=x2):x0+1+1+x1=x2:=by rw[<-h0,Nat.add_assoc (x0+1),Nat.add_comm 1]
theorem yH{x0 x1 x2:Nat}(h0:x0+1+(x1+1)=x2):x0+1<x2:=lO (Nat.lt_add_of_pos_right (Nat.succ_pos _)) h0
theorem yI{x0 x1 x2:Nat}(h0:x0<=5)(h1:x1+1+(x2+1)=x0):x1+1<5:=aZ (lO (Nat.lt_add_of_pos_right (Nat.succ_pos _)) h1) h0
theorem KZ{x0 x1 x2:Nat}(h0:x0<=5)(h1:x1+1+(x2+1)=x0):x1+1<=100000:=aR (eT _ _) (aR (f9 h1) (aR h0 (by decide)))
theorem La{x0 x1:Nat} :x0+(x1+1)=x0+1+x1:=by lia
theorem Lb{x0 x1 x2:Nat}(h0:x0+(x1+1)=x2):(↑(x2+1):Int)-1-(↑x0:Int)=(↑(x1+1):Int):=by subst h0;rw[Int.natCast_succ,Int.add_sub_cancel,Int.natCast_add,kH,Int.add_sub_cancel]
theorem sL{x0 x1 x2:Nat}(h0:x0+(x1+1)=x2):x1+1<x2+1:=jZ (aR (lJ _ _) (f9 h0))
theorem sM{x0 x1 x2:Nat}(h0:x0<5)(h1:x1+(x2+1)=x0):x0+1<=5:=by lia
theorem yJ{x0 x1 x2:Nat}(h0:x0+(x1+1)=x2):x1+1<=x2:=by lia
theorem Lc{x0 x1 x2:Nat}(h0:x0+(x1+1)=x2):x0+1+x1=x2:=by lia
theorem Ld{x0:Nat} :0+(x0+1)=x0+1:=by lia
theorem yK{x0:Nat}(h0:x0<5)(h1:1<=x0):x0+1<=5:=by lia
theorem Le{x0:Nat}(h0:x0<=63):min 31 x0<=31:=Nat.min_le_left ..
theorem Lf{x0 x1:Int}(h0:0<=x0%4)(h1:x1=x0%4):1+x1=(↑(1+x1).toNat:Int):=(n9 (by rw[h1];exact pM (by decide) h0)).symm
theorem yL{x0 x1:Int}{x2:Nat}(h0:0<=x0%4)(h1:x1=x0%4)(h2:1+x1=(↑x2:Int)):x2<5:=oT.mp (by rw[<-h2,h1];exact Int.add_lt_add_left (dW _ (by decide)) 1)
theorem Lg{x0 x1:Int}{x2:Nat}(h0:0<=x0%4)(h1:x1=x0%4)(h2:1+x1=(↑x2:Int)): -1000<(↑(x2+1):Int):=eN (by decide) (g5 _)
theorem Lh{x0 x1:Int}{x2:Nat}(h0:0<=x0%4)(h1:x1=x0%4)(h2:1+x1=(↑x2:Int)):(↑(x2+1):Int)<1000:=oT.mpr (bA (Nat.succ_lt_succ (yL h0 h1 h2)) (by decide))
theorem yM{x0 x1:Int}{x2:Nat}(h0:0<=x0%4)(h1:x1=x0%4)(h2:1+x1=(↑x2:Int)):x2+1<=5:=yL h0 h1 h2
theorem Li{x0:Nat} :0+1+x0=x0+1:=by lia
theorem CW{x0 x1:Int}{x2:Nat}(h0:0<=x0%4)(h1:x1=x0%4)(h2:1+x1=(↑x2:Int)):0<x2+1:=by lia
theorem Lj{x0:Nat} :0+x0=x0:=by lia
theorem Lk{x0 x1:Int}{x2:Nat}(h0:0<=x0%4)(h1:x1=x0%4)(h2:1+x1=(↑x2:Int)):1<=x2:=mI.mp (by rw[<-h2,h1];exact j8 h0)
theorem Ll{x0 x1:Nat}(h0:x0<=1)(h1:x1<=600):x0+x1<=601:=aR (mK h0 h1) (by decide)
theorem Lm{x0 x1 x2 x3:Nat}(h0:x0+2*x1<=1300*x2)(h1:x3<=x0+x1):1+x3+1+2<=1300*(x2+1):=by rw[Nat.mul_succ,Nat.add_comm 1 x3];exact aR (k8 (by decide:4<=1300) x3) (kB (aR h1 (aR (k8 (gR _ (by decide)) _) h0)) _)
theorem Ln{x0:Nat}(h0:x0<=1000):x0<=16777216+1:=aR h0 (by decide)
theorem Lo{x0 x1:Nat}(h0:x0+x1<=100):x0<=100:=aR (eT _ _) h0
theorem Lp{x0 x1:Nat}(h0:x0<=4)(h1:x0+1=x1):x1<=1000:=aR (f9 h1.symm) (aR (Nat.succ_le_succ h0) (by decide))
set_option tactic.hygienic false
theorem nS{α:Type}{y:α}:none≠some y:=λh=>aY h
theorem nT:false≠true:=λh=>bX h
noncomputable def tg{α:Type}(d:α)(b:Bool)(f:b=true->α):α:=Bool.rec (motive:=λc=>(c=true->α)->α) (λ_=>d) (λf=>f rfl) b f
theorem sK{α:Type}{d:α}{b:Bool}{f:b=true->α}{Q:α->Prop}(h:Q d)(k:∀e,Q (f e)):Q (tg d b f):=by
 induction b using Bool.casesOn with
 |true=>exact k rfl
 |false=>exact h
theorem bQ{α:Type}{d a:α}{b:Bool}{Q:α->Prop}(h:Q d)(k:b=true->Q a):Q (bif b then a else d):=by
 induction b using Bool.casesOn with
 |true=>exact k rfl
 |false=>exact h
theorem cQ{α:Type}{d a:α}{b:Bool}{Q:α->Prop}(k:b=true->Q a)(h:Q d):Q (bif b then a else d):=bQ h k
theorem tgN{α:Type}{d:α}{b:Bool}{f:b=true->α}(h:b=false):tg d b f=d:=by
 induction b using Bool.casesOn with
 |true=>exact jA h
 |false=>rfl
theorem Je{α:Type}{a b:Option α}{y:α}{P:Prop}(h:a.or b=some y)(k1:a=some y->P)(k2:b=some y->P):P:=by
 induction a using Option.casesOn with
 |some x=>exact k1 h
 |none=>exact k2 h
theorem fF{a b:Bool}{P:Prop}(h:(a&&b)=true)(k:a=true->b=true->P):P:=k (aL.mp h).1 (aL.mp h).2
section
variable{α β:Type}{d y:α}{P:Prop}{Q:α->Prop}{l:List β}
noncomputable def pU(d:α)(o:Option β)(F:β->α):α:=Option.rec d F o
theorem oQ{o:Option β}{F:β->α}(h:Q d)(k:∀a,o=some a->Q (F a)):Q (pU d o F):=by
 induction o using Option.casesOn with
 |none=>exact h
 |some a=>exact k a rfl
theorem oE{o:Option β}{F:β->α}(h:pU d o F=y)(n:d≠y)(k:∀a,o=some a->F a=y->P):P:=oQ (Q:=λz=>z=y->P) (λh=>absurd h n) k h
noncomputable def Au(d:α)(l:List β)(F:α):α:=List.rec F (λ_ _ _=>d) l
def w7(d:α)(l:List β)(F:β->α):α:=List.rec d (λa r _=>Au d r (F a)) l
def AA(d:α)(l:List β)(F:β->β->α):α:=List.rec d (λa r _=>w7 d r (F a)) l
theorem Qy{F:α}(h:Q d)(k:l=[]->Q F):Q (Au d l F):=by
 induction l using List.casesOn with
 |nil=>exact k rfl
 |cons _ _=>exact h
theorem GR{F:β->α}(h:Q d)(k:∀a,l=[a]->Q (F a)):Q (w7 d l F):=by
 induction l using List.casesOn with
 |nil=>exact h
 |cons a r=>exact Qy h λe=>k a (e▸rfl)
theorem Ok{F:β->β->α}(h:Q d)(k:∀a b,l=[a,b]->Q (F a b)):Q (AA d l F):=by
 induction l using List.casesOn with
 |nil=>exact h
 |cons a r=>exact GR h λb e=>k a b (e▸rfl)
theorem NQ{F:α}(h:Au d l F=y)(n:d≠y)(k:l=[]->F=y->P):P:=Qy (Q:=λz=>z=y->P) (λh=>absurd h n) k h
theorem Ec{F:β->α}(h:w7 d l F=y)(n:d≠y)(k:∀a,l=[a]->F a=y->P):P:=GR (Q:=λz=>z=y->P) (λh=>absurd h n) k h
theorem Ol{F:β->β->α}(h:AA d l F=y)(n:d≠y)(k:∀a b,l=[a,b]->F a b=y->P):P:=Ok (Q:=λz=>z=y->P) (λh=>absurd h n) k h
end
section
variable{α:Type}{d y:α}{e:Expr}{s:Stmt}{q:Const}{u:Value}{x:Data}{P:Prop}{Q:α->Prop}
def qN(d:α)(e:Expr)(F:Str->Pos->α):α:=tg d (Nat.beq e.ctorIdx 23) λh=>Expr.Name.elim (motive_1:=λ_=>α) e (aA h) F
theorem Om{F:Str->Pos->α}(h:Q d)(k:∀x p,e=.Name x p->Q (F x p)):Q (qN d e F):=
 sK h λhb=>Expr.Name.elim (motive_1:=λe=>∀hb:Nat.beq e.ctorIdx 23=true,(∀x p,e=.Name x p->Q (F x p))->Q (Expr.Name.elim e (aA hb) F)) e (aA hb) (λx p _ k=>k x p rfl) hb k
theorem On{F:Str->Pos->α}(h:qN d e F=y)(n:d≠y)(k:∀x p,e=.Name x p->F x p=y->P):P:=Om (Q:=λz=>z=y->P) (λh=>absurd h n) k h
def t7(d:α)(e:Expr)(F:List Expr->Nat->Pos->α):α:=tg d (Nat.beq e.ctorIdx 25) λh=>Expr.Tuple.elim (motive_1:=λ_=>α) e (aA h) F
theorem Xy{F:List Expr->Nat->Pos->α}(h:Q d)(k:∀l i p,e=.Tuple l i p->Q (F l i p)):Q (t7 d e F):=
 sK h λhb=>Expr.Tuple.elim (motive_1:=λe=>∀hb:Nat.beq e.ctorIdx 25=true,(∀l i p,e=.Tuple l i p->Q (F l i p))->Q (Expr.Tuple.elim e (aA hb) F)) e (aA hb) (λl i p _ k=>k l i p rfl) hb k
theorem Lq{F:List Expr->Nat->Pos->α}(h:t7 d e F=y)(n:d≠y)(k:∀l i p,e=.Tuple l i p->F l i p=y->P):P:=Xy (Q:=λz=>z=y->P) (λh=>absurd h n) k h
def Fq(d:α)(e:Expr)(F:Const->Nat->Pos->α):α:=tg d (Nat.beq e.ctorIdx 19) λh=>Expr.Constant.elim (motive_1:=λ_=>α) e (aA h) F
theorem cstQ{F:Const->Nat->Pos->α}(h:Q d)(k:∀c i p,e=.Constant c i p->Q (F c i p)):Q (Fq d e F):=
 sK h λhb=>Expr.Constant.elim (motive_1:=λe=>∀hb:Nat.beq e.ctorIdx 19=true,(∀c i p,e=.Constant c i p->Q (F c i p))->Q (Expr.Constant.elim e (aA hb) F)) e (aA hb) (λc i p _ k=>k c i p rfl) hb k
theorem cstE{F:Const->Nat->Pos->α}(h:Fq d e F=y)(n:d≠y)(k:∀c i p,e=.Constant c i p->F c i p=y->P):P:=cstQ (Q:=λz=>z=y->P) (λh=>absurd h n) k h
def u5(d:α)(e:Expr)(F:Expr->Str->Pos->α):α:=tg d (Nat.beq e.ctorIdx 20) λh=>Expr.Attribute.elim (motive_1:=λ_=>α) e (aA h) F
theorem Xz{F:Expr->Str->Pos->α}(h:Q d)(k:∀o a p,e=.Attribute o a p->Q (F o a p)):Q (u5 d e F):=
 sK h λhb=>Expr.Attribute.elim (motive_1:=λe=>∀hb:Nat.beq e.ctorIdx 20=true,(∀o a p,e=.Attribute o a p->Q (F o a p))->Q (Expr.Attribute.elim e (aA hb) F)) e (aA hb) (λo a p _ k=>k o a p rfl) hb k
theorem GU{F:Expr->Str->Pos->α}(h:u5 d e F=y)(n:d≠y)(k:∀o a p,e=.Attribute o a p->F o a p=y->P):P:=Xz (Q:=λz=>z=y->P) (λh=>absurd h n) k h
def yN(d:α)(e:Expr)(F:Expr->List Expr->List Keyword->Pos->α):α:=tg d (Nat.beq e.ctorIdx 16) λh=>Expr.Call.elim (motive_1:=λ_=>α) e (aA h) F
theorem calQ{F:Expr->List Expr->List Keyword->Pos->α}(h:Q d)(k:∀f l j p,e=.Call f l j p->Q (F f l j p)):Q (yN d e F):=
 sK h λhb=>Expr.Call.elim (motive_1:=λe=>∀hb:Nat.beq e.ctorIdx 16=true,(∀f l j p,e=.Call f l j p->Q (F f l j p))->Q (Expr.Call.elim e (aA hb) F)) e (aA hb) (λf l j p _ k=>k f l j p rfl) hb k
theorem Oo{F:Expr->List Expr->List Keyword->Pos->α}(h:yN d e F=y)(n:d≠y)(k:∀f l j p,e=.Call f l j p->F f l j p=y->P):P:=calQ (Q:=λz=>z=y->P) (λh=>absurd h n) k h
def Op(d:α)(e:Expr)(F:Expr->List Comprehension->Scope->Pos->α):α:=tg d (Nat.beq e.ctorIdx 8) λh=>Expr.ListComp.elim (motive_1:=λ_=>α) e (aA h) F
theorem lCQ{F:Expr->List Comprehension->Scope->Pos->α}(h:Q d)(k:∀u g j p,e=.ListComp u g j p->Q (F u g j p)):Q (Op d e F):=
 sK h λhb=>Expr.ListComp.elim (motive_1:=λe=>∀hb:Nat.beq e.ctorIdx 8=true,(∀u g j p,e=.ListComp u g j p->Q (F u g j p))->Q (Expr.ListComp.elim e (aA hb) F)) e (aA hb) (λu g j p _ k=>k u g j p rfl) hb k
theorem lCE{F:Expr->List Comprehension->Scope->Pos->α}(h:Op d e F=y)(n:d≠y)(k:∀u g j p,e=.ListComp u g j p->F u g j p=y->P):P:=lCQ (Q:=λz=>z=y->P) (λh=>absurd h n) k h
def Lr(d:α)(e:Expr)(F:Expr->Operator->Expr->Pos->α):α:=tg d (Nat.beq e.ctorIdx 2) λh=>Expr.BinOp.elim (motive_1:=λ_=>α) e (aA h) F
theorem binQ{F:Expr->Operator->Expr->Pos->α}(h:Q d)(k:∀a o b p,e=.BinOp a o b p->Q (F a o b p)):Q (Lr d e F):=
 sK h λhb=>Expr.BinOp.elim (motive_1:=λe=>∀hb:Nat.beq e.ctorIdx 2=true,(∀a o b p,e=.BinOp a o b p->Q (F a o b p))->Q (Expr.BinOp.elim e (aA hb) F)) e (aA hb) (λa o b p _ k=>k a o b p rfl) hb k
theorem binE{F:Expr->Operator->Expr->Pos->α}(h:Lr d e F=y)(n:d≠y)(k:∀a o b p,e=.BinOp a o b p->F a o b p=y->P):P:=binQ (Q:=λz=>z=y->P) (λh=>absurd h n) k h
def Ft(d:α)(e:Expr)(F:Expr->List CmpOp->List Expr->Pos->α):α:=tg d (Nat.beq e.ctorIdx 15) λh=>Expr.Compare.elim (motive_1:=λ_=>α) e (aA h) F
theorem cmpQ{F:Expr->List CmpOp->List Expr->Pos->α}(h:Q d)(k:∀a o b p,e=.Compare a o b p->Q (F a o b p)):Q (Ft d e F):=
 sK h λhb=>Expr.Compare.elim (motive_1:=λe=>∀hb:Nat.beq e.ctorIdx 15=true,(∀a o b p,e=.Compare a o b p->Q (F a o b p))->Q (Expr.Compare.elim e (aA hb) F)) e (aA hb) (λa o b p _ k=>k a o b p rfl) hb k
theorem cmpE{F:Expr->List CmpOp->List Expr->Pos->α}(h:Ft d e F=y)(n:d≠y)(k:∀a o b p,e=.Compare a o b p->F a o b p=y->P):P:=cmpQ (Q:=λz=>z=y->P) (λh=>absurd h n) k h
def Ls(d:α)(e:Expr)(F:BoolOp->List Expr->Pos->α):α:=tg d (Nat.beq e.ctorIdx 0) λh=>Expr.BoolOp.elim (motive_1:=λ_=>α) e (aA h) F
theorem bopQ{F:BoolOp->List Expr->Pos->α}(h:Q d)(k:∀o l p,e=.BoolOp o l p->Q (F o l p)):Q (Ls d e F):=
 sK h λhb=>Expr.BoolOp.elim (motive_1:=λe=>∀hb:Nat.beq e.ctorIdx 0=true,(∀o l p,e=.BoolOp o l p->Q (F o l p))->Q (Expr.BoolOp.elim e (aA hb) F)) e (aA hb) (λo l p _ k=>k o l p rfl) hb k
theorem bopE{F:BoolOp->List Expr->Pos->α}(h:Ls d e F=y)(n:d≠y)(k:∀o l p,e=.BoolOp o l p->F o l p=y->P):P:=bopQ (Q:=λz=>z=y->P) (λh=>absurd h n) k h
def Lu(d:α)(e:Expr)(F:Expr->Expr->Expr->Pos->α):α:=tg d (Nat.beq e.ctorIdx 5) λh=>Expr.IfExp.elim (motive_1:=λ_=>α) e (aA h) F
theorem iteQ{F:Expr->Expr->Expr->Pos->α}(h:Q d)(k:∀t a b p,e=.IfExp t a b p->Q (F t a b p)):Q (Lu d e F):=
 sK h λhb=>Expr.IfExp.elim (motive_1:=λe=>∀hb:Nat.beq e.ctorIdx 5=true,(∀t a b p,e=.IfExp t a b p->Q (F t a b p))->Q (Expr.IfExp.elim e (aA hb) F)) e (aA hb) (λt a b p _ k=>k t a b p rfl) hb k
theorem iteE{F:Expr->Expr->Expr->Pos->α}(h:Lu d e F=y)(n:d≠y)(k:∀t a b p,e=.IfExp t a b p->F t a b p=y->P):P:=iteQ (Q:=λz=>z=y->P) (λh=>absurd h n) k h
def Lv(d:α)(e:Expr)(F:Option Expr->Option Expr->Option Expr->Pos->α):α:=tg d (Nat.beq e.ctorIdx 26) λh=>Expr.Slice.elim (motive_1:=λ_=>α) e (aA h) F
theorem sliQ{F:Option Expr->Option Expr->Option Expr->Pos->α}(h:Q d)(k:∀a b c p,e=.Slice a b c p->Q (F a b c p)):Q (Lv d e F):=
 sK h λhb=>Expr.Slice.elim (motive_1:=λe=>∀hb:Nat.beq e.ctorIdx 26=true,(∀a b c p,e=.Slice a b c p->Q (F a b c p))->Q (Expr.Slice.elim e (aA hb) F)) e (aA hb) (λa b c p _ k=>k a b c p rfl) hb k
theorem sliE{F:Option Expr->Option Expr->Option Expr->Pos->α}(h:Lv d e F=y)(n:d≠y)(k:∀a b c p,e=.Slice a b c p->F a b c p=y->P):P:=sliQ (Q:=λz=>z=y->P) (λh=>absurd h n) k h
def Lw(d:α)(e:Expr)(F:Expr->Expr->Pos->α):α:=tg d (Nat.beq e.ctorIdx 21) λh=>Expr.Subscript.elim (motive_1:=λ_=>α) e (aA h) F
theorem subQ{F:Expr->Expr->Pos->α}(h:Q d)(k:∀a b p,e=.Subscript a b p->Q (F a b p)):Q (Lw d e F):=
 sK h λhb=>Expr.Subscript.elim (motive_1:=λe=>∀hb:Nat.beq e.ctorIdx 21=true,(∀a b p,e=.Subscript a b p->Q (F a b p))->Q (Expr.Subscript.elim e (aA hb) F)) e (aA hb) (λa b p _ k=>k a b p rfl) hb k
theorem subE{F:Expr->Expr->Pos->α}(h:Lw d e F=y)(n:d≠y)(k:∀a b p,e=.Subscript a b p->F a b p=y->P):P:=subQ (Q:=λz=>z=y->P) (λh=>absurd h n) k h
def Fu(d:α)(s:Stmt)(F:Expr->Option Expr->Pos->α):α:=tg d (Nat.beq s.ctorIdx 19) λh=>Stmt.Assert.elim (motive_2:=λ_=>α) s (aA h) F
theorem asrQ{F:Expr->Option Expr->Pos->α}(h:Q d)(k:∀t m p,s=.Assert t m p->Q (F t m p)):Q (Fu d s F):=
 sK h λhb=>Stmt.Assert.elim (motive_2:=λs=>∀hb:Nat.beq s.ctorIdx 19=true,(∀t m p,s=.Assert t m p->Q (F t m p))->Q (Stmt.Assert.elim s (aA hb) F)) s (aA hb) (λt m p _ k=>k t m p rfl) hb k
theorem asrE{F:Expr->Option Expr->Pos->α}(h:Fu d s F=y)(n:d≠y)(k:∀t m p,s=.Assert t m p->F t m p=y->P):P:=asrQ (Q:=λz=>z=y->P) (λh=>absurd h n) k h
def Oq(d:α)(s:Stmt)(F:Expr->List Stmt->List Stmt->Pos->α):α:=tg d (Nat.beq s.ctorIdx 12) λh=>Stmt.If.elim (motive_2:=λ_=>α) s (aA h) F
theorem ifQ{F:Expr->List Stmt->List Stmt->Pos->α}(h:Q d)(k:∀t a b p,s=.If t a b p->Q (F t a b p)):Q (Oq d s F):=
 sK h λhb=>Stmt.If.elim (motive_2:=λs=>∀hb:Nat.beq s.ctorIdx 12=true,(∀t a b p,s=.If t a b p->Q (F t a b p))->Q (Stmt.If.elim s (aA hb) F)) s (aA hb) (λt a b p _ k=>k t a b p rfl) hb k
theorem ifE{F:Expr->List Stmt->List Stmt->Pos->α}(h:Oq d s F=y)(n:d≠y)(k:∀t a b p,s=.If t a b p->F t a b p=y->P):P:=ifQ (Q:=λz=>z=y->P) (λh=>absurd h n) k h
def AB(d:α)(s:Stmt)(F:Option Expr->Pos->α):α:=tg d (Nat.beq s.ctorIdx 3) λh=>Stmt.Return.elim (motive_2:=λ_=>α) s (aA h) F
theorem retQ{F:Option Expr->Pos->α}(h:Q d)(k:∀u p,s=.Return u p->Q (F u p)):Q (AB d s F):=
 sK h λhb=>Stmt.Return.elim (motive_2:=λs=>∀hb:Nat.beq s.ctorIdx 3=true,(∀u p,s=.Return u p->Q (F u p))->Q (Stmt.Return.elim s (aA hb) F)) s (aA hb) (λu p _ k=>k u p rfl) hb k
theorem Os{F:Option Expr->Pos->α}(h:AB d s F=y)(n:d≠y)(k:∀u p,s=.Return u p->F u p=y->P):P:=retQ (Q:=λz=>z=y->P) (λh=>absurd h n) k h
def Fv(d:α)(s:Stmt)(F:List Expr->Expr->Pos->α):α:=tg d (Nat.beq s.ctorIdx 5) λh=>Stmt.Assign.elim (motive_2:=λ_=>α) s (aA h) F
theorem asgQ{F:List Expr->Expr->Pos->α}(h:Q d)(k:∀t u p,s=.Assign t u p->Q (F t u p)):Q (Fv d s F):=
 sK h λhb=>Stmt.Assign.elim (motive_2:=λs=>∀hb:Nat.beq s.ctorIdx 5=true,(∀t u p,s=.Assign t u p->Q (F t u p))->Q (Stmt.Assign.elim s (aA hb) F)) s (aA hb) (λt u p _ k=>k t u p rfl) hb k
theorem asgE{F:List Expr->Expr->Pos->α}(h:Fv d s F=y)(n:d≠y)(k:∀t u p,s=.Assign t u p->F t u p=y->P):P:=asgQ (Q:=λz=>z=y->P) (λh=>absurd h n) k h
def Lx(d:α)(q:Const)(F:Int->α):α:=tg d (Nat.beq q.ctorIdx 2) λh=>Const.int.elim (motive:=λ_=>α) q (aA h) F
theorem intQ{F:Int->α}(h:Q d)(k:∀i,q=.int i->Q (F i)):Q (Lx d q F):=
 sK h λhb=>Const.int.elim (motive:=λq=>∀hb:Nat.beq q.ctorIdx 2=true,(∀i,q=.int i->Q (F i))->Q (Const.int.elim q (aA hb) F)) q (aA hb) (λi _ k=>k i rfl) hb k
theorem intE{F:Int->α}(h:Lx d q F=y)(n:d≠y)(k:∀i,q=.int i->F i=y->P):P:=intQ (Q:=λz=>z=y->P) (λh=>absurd h n) k h
def sN(d:α)(u:Value)(F:Addr->α):α:=tg d (Nat.beq u.ctorIdx 10) λh=>Value.ref.elim (motive:=λ_=>α) u (aA h) F
theorem refQ{F:Addr->α}(h:Q d)(k:∀a,u=.ref a->Q (F a)):Q (sN d u F):=
 sK h λhb=>Value.ref.elim (motive:=λu=>∀hb:Nat.beq u.ctorIdx 10=true,(∀a,u=.ref a->Q (F a))->Q (Value.ref.elim u (aA hb) F)) u (aA hb) (λa _ k=>k a rfl) hb k
theorem GV{F:Addr->α}(h:sN d u F=y)(n:d≠y)(k:∀a,u=.ref a->F a=y->P):P:=refQ (Q:=λz=>z=y->P) (λh=>absurd h n) k h
def X0(d:α)(u:Value)(F:Bool->α):α:=tg d (Nat.beq u.ctorIdx 3) λh=>Value.bool.elim (motive:=λ_=>α) u (aA h) F
theorem uBQ{F:Bool->α}(h:Q d)(k:∀b,u=.bool b->Q (F b)):Q (X0 d u F):=
 sK h λhb=>Value.bool.elim (motive:=λu=>∀hb:Nat.beq u.ctorIdx 3=true,(∀b,u=.bool b->Q (F b))->Q (Value.bool.elim u (aA hb) F)) u (aA hb) (λb _ k=>k b rfl) hb k
theorem uBE{F:Bool->α}(h:X0 d u F=y)(n:d≠y)(k:∀b,u=.bool b->F b=y->P):P:=uBQ (Q:=λz=>z=y->P) (λh=>absurd h n) k h
def Ed(d:α)(u:Value)(F:Str->Tok->α):α:=tg d (Nat.beq u.ctorIdx 6) λh=>Value.str.elim (motive:=λ_=>α) u (aA h) F
theorem uStrQ{F:Str->Tok->α}(h:Q d)(k:∀t j,u=.str t j->Q (F t j)):Q (Ed d u F):=
 sK h λhb=>Value.str.elim (motive:=λu=>∀hb:Nat.beq u.ctorIdx 6=true,(∀t j,u=.str t j->Q (F t j))->Q (Value.str.elim u (aA hb) F)) u (aA hb) (λt j _ k=>k t j rfl) hb k
theorem uStrE{F:Str->Tok->α}(h:Ed d u F=y)(n:d≠y)(k:∀t j,u=.str t j->F t j=y->P):P:=uStrQ (Q:=λz=>z=y->P) (λh=>absurd h n) k h
def yO(d:α)(x:Data)(F:FuncData->α):α:=tg d (Nat.beq x.ctorIdx 7) λh=>Data.func.elim (motive:=λ_=>α) x (aA h) F
theorem funcQ{F:FuncData->α}(h:Q d)(k:∀g,x=.func g->Q (F g)):Q (yO d x F):=
 sK h λhb=>Data.func.elim (motive:=λx=>∀hb:Nat.beq x.ctorIdx 7=true,(∀g,x=.func g->Q (F g))->Q (Data.func.elim x (aA hb) F)) x (aA hb) (λg _ k=>k g rfl) hb k
theorem funcE{F:FuncData->α}(h:yO d x F=y)(n:d≠y)(k:∀g,x=.func g->F g=y->P):P:=funcQ (Q:=λz=>z=y->P) (λh=>absurd h n) k h
def Ee(d:α)(x:Data)(F:Array Value->α):α:=tg d (Nat.beq x.ctorIdx 9) λh=>Data.fields.elim (motive:=λ_=>α) x (aA h) F
theorem fldsQ{F:Array Value->α}(h:Q d)(k:∀l,x=.fields l->Q (F l)):Q (Ee d x F):=
 sK h λhb=>Data.fields.elim (motive:=λx=>∀hb:Nat.beq x.ctorIdx 9=true,(∀l,x=.fields l->Q (F l))->Q (Data.fields.elim x (aA hb) F)) x (aA hb) (λl _ k=>k l rfl) hb k
theorem fldsE{F:Array Value->α}(h:Ee d x F=y)(n:d≠y)(k:∀l,x=.fields l->F l=y->P):P:=fldsQ (Q:=λz=>z=y->P) (λh=>absurd h n) k h
def Qz(d:α)(x:Data)(F:Array Value->Nat->α):α:=tg d (Nat.beq x.ctorIdx 2) λh=>Data.seq.elim (motive:=λ_=>α) x (aA h) F
theorem seqQ{F:Array Value->Nat->α}(h:Q d)(k:∀l n,x=.seq l n->Q (F l n)):Q (Qz d x F):=
 sK h λhb=>Data.seq.elim (motive:=λx=>∀hb:Nat.beq x.ctorIdx 2=true,(∀l n,x=.seq l n->Q (F l n))->Q (Data.seq.elim x (aA hb) F)) x (aA hb) (λl n _ k=>k l n rfl) hb k
theorem seqE{F:Array Value->Nat->α}(h:Qz d x F=y)(n:d≠y)(k:∀l n,x=.seq l n->F l n=y->P):P:=seqQ (Q:=λz=>z=y->P) (λh=>absurd h n) k h
end
set_option tactic.hygienic true
section
inductive T where
 |num (n:Int)
 |var (e:Str) (lo hi:Int)
 |mul (a:T) (b:Int)
 |div (a:T) (b:Int)
 |mod (a:T) (b:Int)
 |sum (l:List T)
noncomputable def AC(lo hi b:Int):Int:=bif decide (hi-lo>=b)||(decide (lo≠hi)&&decide (Int.fmod lo b>=Int.fmod hi b))then 0 else Int.fmod lo b
noncomputable def yP(lo hi b:Int):Int:=bif decide (hi-lo>=b)||(decide (lo≠hi)&&decide (Int.fmod lo b>=Int.fmod hi b))then b-1 else Int.fmod hi b
mutual
noncomputable def T.lo:T->Int
 |.num n=>n
 |.var _ l _=>l
 |.mul a b=>bif decide (0<=b)then a.lo*b else a.hi*b
 |.div a b=>Int.fdiv a.lo b
 |.mod a b=>AC a.lo a.hi b
 |.sum l=>T.los l
noncomputable def T.hi:T->Int
 |.num n=>n
 |.var _ _ h=>h
 |.mul a b=>bif decide (0<=b)then a.hi*b else a.lo*b
 |.div a b=>Int.fdiv a.hi b
 |.mod a b=>yP a.lo a.hi b
 |.sum l=>T.his l
noncomputable def T.los:List T->Int
 |[]=>0
 |t::r=>t.lo+T.los r
noncomputable def T.his:List T->Int
 |[]=>0
 |t::r=>t.hi+T.his r
end
theorem lo_num{n:Int}:(T.num n).lo=n:=rfl
theorem lo_var{e:Str}{l h:Int}:(T.var e l h).lo=l:=rfl
theorem hi_num{n:Int}:(T.num n).hi=n:=rfl
theorem hi_var{e:Str}{l h:Int}:(T.var e l h).hi=h:=rfl
noncomputable def T.cls:T->Addr
 |.num _=>331
 |.var ..=>277
 |.mul ..=>471
 |.div ..=>512
 |.mod ..=>560
 |.sum _=>644
noncomputable def T.mro:T->List Addr
 |.num _=>[331,220]
 |.var ..=>[277,220]
 |.mul ..=>[471,383,220]
 |.div ..=>[512,383,220]
 |.mod ..=>[560,383,220]
 |.sum _=>[644,593,220]
noncomputable def eqL:List Nat->List Nat->Bool
 |[]=>λy=>y.isEmpty
 |a::x=>λy=>List.rec false (λb r _=>bif Nat.beq a b then eqL x r else false) y
def lC(a b:Str):Bool:=eqL a.cps.toList b.cps.toList
def cJ{α:Type}(x:Str):List (Str×α)->Option α
 |[]=>none
 |(y,v)::r=>bif lC x y then some v else cJ x r
theorem Ly{α:Type}{x y:Str}{v:α}{r:List (Str×α)}:cJ x ((y,v)::r)=bif lC x y then some v else cJ x r:=rfl
def lK{α:Type}(x:Str)(v:α):List (Str×α)->List (Str×α)
 |[]=>[(x,v)]
 |(y,w)::r=>bif lC x y then(y,v)::r else(y,w)::lK x v r
theorem pS_c{α:Type}{x y:Str}{v w:α}{r:List (Str×α)}:lK x v ((y,w)::r)=bif lC x y then(y,v)::r else(y,w)::lK x v r:=rfl
theorem pS_n{α:Type}{x:Str}{v:α}:lK x v []=[(x,v)]:=rfl
noncomputable def dZ{α:Type}(x:Nat):List (Nat×α)->Option α
 |[]=>none
 |(y,v)::r=>bif Nat.beq x y then some v else dZ x r
theorem X2{α:Type}{x y:Nat}{v:α}{r:List (Nat×α)}:dZ x ((y,v)::r)=bif Nat.beq x y then some v else dZ x r:=rfl
theorem X4{α:Type}{x:Nat}:dZ x ([]:List (Nat×α))=none:=rfl
noncomputable def fO{α:Type}(x:Nat)(v:α):List (Nat×α)->List (Nat×α)
 |[]=>[(x,v)]
 |(y,w)::r=>bif Nat.beq x y then(y,v)::r else(y,w)::fO x v r
theorem pN_c{α:Type}{x y:Nat}{v w:α}{r:List (Nat×α)}:fO x v ((y,w)::r)=bif Nat.beq x y then(y,v)::r else(y,w)::fO x v r:=rfl
theorem pN_n{α:Type}{x:Nat}{v:α}:fO x v []=[(x,v)]:=rfl
noncomputable def jP(i:Int):Bool:=decide (i.natAbs<2^8000)
noncomputable def v9(i:Int):Bool:=decide (i.natAbs<2^1900)
noncomputable def CX(s:Str):Bool:=decide (s.cps.size<=1000000)
noncomputable def pR(i:Int):Str:=Str.ofString (toString i)
def oJ:Str:=sT [105,115,105,110,115,116,97,110,99,101]
def n_abs:Str:=sT [97,98,115]
def AD:Str:=sT [115,117,109]
def Lz:Str:=sT [115,111,114,116,101,100]
def n_str:Str:=sT [115,116,114]
def n_len:Str:=sT [108,101,110]
def pV:Str:=sT [114,97,110,103,101]
def CY:Str:=sT [105,110,116]
def CZ:Str:=sT [97,112,112,101,110,100]
def Q1:Str:=sT [103,101,116]
def Fw:Str:=sT [105,116,101,109,115]
def L0:Str:=sT [106,111,105,110]
def L8:Str:=sT [107,101,121]
def jV:Str:=sT [102,108,97,116,95,99,111,109,112,111,110,101,110,116,115]
def DW:Str:=sT [97]
def Da:Str:=sT [98]
def lS:Str:=sT [109,105,110]
def lT:Str:=sT [109,97,120]
def rQ:Str:=sT [101,120,112,114]
def u6:Str:=sT [95,118,97,108]
def lG:Str:=sT [110,111,100,101,115]
def Q2:Str:=sT [95,95,97,100,100,95,95]
def Q3:Str:=sT [95,95,115,117,98,95,95]
def Q4:Str:=sT [95,95,109,117,108,95,95]
def yQ:Str:=sT [95,95,102,108,111,111,114,100,105,118,95,95]
def Q5:Str:=sT [95,95,109,111,100,95,95]
def n_eq:Str:=sT [95,95,101,113,95,95]
def n_ctx:Str:=sT [99,116,120]
def X5:Str:=sT [78,111,100,101]
def Ef:Str:=sT [86,97,114,105,97,98,108,101]
def GW:Str:=sT [78,117,109,78,111,100,101]
def GY:Str:=sT [77,117,108,78,111,100,101]
def GZ:Str:=sT [68,105,118,78,111,100,101]
def Ia:Str:=sT [77,111,100,78,111,100,101]
def Ib:Str:=sT [83,117,109,78,111,100,101]
def n_gcd:Str:=sT [103,99,100]
def Eg:Str:=sT [118,97,114,105,97,98,108,101]
def Av:Str:=sT [99,114,101,97,116,101,95,110,111,100,101]
def Bw:Str:=sT [115,121,109,95,114,101,110,100,101,114]
def Db:Str:=sT [115,121,109,95,105,110,102,101,114]
def Dc:Str:=sT [95,108,97,119,95,110,97,109,101,115]
def L9:Str:=sT [95,108,97,119,95,97,116]
def Ic:Str:=sT [95,108,97,119,95,99,117,116]
def Dd:Str:=sT [114,101,110,100,101,114]
def u7:Str:=sT [115,117,98,115,116,105,116,117,116,101]
def LA:Str:=sT [116,101,120,116]
noncomputable def Ot:List Str:=[⟨⟨[120]⟩⟩,⟨⟨[115,101,108,102]⟩⟩,⟨⟨[98]⟩⟩,⟨⟨[99,116,120]⟩⟩,⟨⟨[110,111,100,101,115]⟩⟩,⟨⟨[110,111,100,101]⟩⟩,⟨⟨[107]⟩⟩,⟨⟨[102,97,99,116,111,114,105,110,103,95,97,108,108,111,119,101,100]⟩⟩,⟨⟨[115,99,114,105,112,116]⟩⟩,⟨⟨[114,101,116]⟩⟩,⟨⟨[111,116,104,101,114]⟩⟩,⟨⟨[110,101,119,95,115,117,109]⟩⟩,⟨⟨[109,117,108,95,110,111,100,101,115]⟩⟩,⟨⟨[121]⟩⟩,⟨⟨[119,104,111,108,101]⟩⟩,⟨⟨[118,97,108,117,101,115]⟩⟩,⟨⟨[118,97,108,117,101]⟩⟩,⟨⟨[118]⟩⟩,⟨⟨[115,116,101,112]⟩⟩,⟨⟨[115,112,97,110]⟩⟩,⟨⟨[115,105,100,101,115]⟩⟩,⟨⟨[114,101,115,116]⟩⟩,⟨⟨[112,108,97,105,110]⟩⟩,⟨⟨[112,97,114,116,115]⟩⟩,⟨⟨[112,97,114,116]⟩⟩,⟨⟨[111,102,102,115,101,116]⟩⟩,⟨⟨[110,117,109,95,110,111,100,101,95,115,117,109]⟩⟩,⟨⟨[110,101,119,95,110,111,100,101,115]⟩⟩,⟨⟨[109,117,108,95,103,114,111,117,112,115]⟩⟩,⟨⟨[109,111,115,116]⟩⟩,⟨⟨[109,111,114,101]⟩⟩,⟨⟨[108,111,119]⟩⟩,⟨⟨[108,101,97,115,116]⟩⟩,⟨⟨[104,101,97,100,115]⟩⟩,⟨⟨[104,101,97,100]⟩⟩,⟨⟨[102,117,108,108,121,95,100,105,118,105,100,101,100]⟩⟩,⟨⟨[100,117,101]⟩⟩,⟨⟨[100,105,118,105,115,111,114]⟩⟩,⟨⟨[98,121]⟩⟩,⟨⟨[98,97,99,107]⟩⟩,⟨⟨[98,95,115,117,109]⟩⟩,⟨⟨[97]⟩⟩,⟨⟨[95,103,99,100]⟩⟩,⟨⟨[95]⟩⟩,⟨⟨[110,109,105,110]⟩⟩,⟨⟨[110,109,97,120]⟩⟩,⟨⟨[101,120,112,114]⟩⟩,⟨⟨[118,97,114,95,118,97,108,115]⟩⟩,⟨⟨[110,117,109,98,101,114]⟩⟩,⟨⟨[110,117,109]⟩⟩,⟨⟨[99,111,117,110,116]⟩⟩,⟨⟨[115,117,109,95,102,117,108,108,121,95,100,105,118,105,100,101,100]⟩⟩,⟨⟨[100,105,118]⟩⟩]
inductive Nm where
 |a|b|min|max|expr|val|nodes|key|flat|render|eq|add|sub|mul|floordiv|mod|substitute|text|sum|append|get|items|join
 deriving DecidableEq
noncomputable def LB:List (Str×Nm):=[(DW,.a),(Da,.b),(lS,.min),(lT,.max),(rQ,.expr),(u6,.val),(lG,.nodes),(L8,.key),(jV,.flat),(Dd,.render),(n_eq,.eq),(Q2,.add),(Q3,.sub),(Q4,.mul),
 (yQ,.floordiv),(Q5,.mod),(u7,.substitute),(LA,.text),(AD,.sum),(CZ,.append),(Q1,.get),(Fw,.items),(L0,.join)]
inductive Bi where
 |isinstance|abs|sum|sorted|str|len|int
 deriving DecidableEq
noncomputable def biT:List (Str×Bi):=[(oJ,.isinstance),(n_abs,.abs),(AD,.sum),(Lz,.sorted),(n_str,.str),(n_len,.len),(CY,.int)]
noncomputable def AE:List (Str×Addr):=[(n_gcd,35),(X5,220),(Ef,277),(GW,331),(Eg,340),(Av,347),(GY,471),(GZ,512),(Ia,560),(Ib,644),
 (Bw,654),(Db,659),(Dc,666),(L9,673),(Ic,680)]
def yR(x:Str):List Str->Nat->Option Nat
 |[],_=>none
 |y::r,i=>bif lC x y then some i else yR x r (i+1)
theorem iS_c{x y:Str}{r:List Str}{i:Nat}:yR x (y::r) i=bif lC x y then some i else yR x r (i+1):=rfl
def mQ(x:Str):Option Nat:=yR x Ot 0
noncomputable def Cp:List Nat->List Nat->Bool
 |[],_=>true
 |_::_,[]=>false
 |a::x,b::y=>bif Nat.blt a b then true else bif Nat.beq a b then Cp x y else false
theorem leL_c{a b:Nat}{x y:List Nat}:Cp (a::x) (b::y)=bif Nat.blt a b then true else bif Nat.beq a b then Cp x y else false:=rfl
def DX(a b:Str):Bool:=Cp a.cps.toList b.cps.toList
def sI(x:Str):List Str->List Str
 |[]=>[x]
 |y::r=>bif DX x y then x::y::r else y::sI x r
theorem inS_c{x y:Str}{r:List Str}:sI x (y::r)=bif DX x y then x::y::r else y::sI x r:=rfl
theorem inS_n{x:Str}:sI x []=[x]:=rfl
def kM:List Str->List Str
 |[]=>[]
 |x::r=>sI x (kM r)
theorem soS_c{x:Str}{r:List Str}:kM (x::r)=sI x (kM r):=rfl
theorem soS_n:kM []=[]:=rfl
def xO:Str:=sT [40]
def xP:Str:=sT [41]
def Z6:Str:=sT [91]
def Z7:Str:=sT [93]
def AF:Str:=sT [45]
def yS:Str:=sT [42]
def Z8:Str:=sT [47,47]
def Ie:Str:=sT [37]
def pB:Str:=sT [43]
def d9:Str:=sT [68,69,66,85,71]
def Eh:Str:=sT []
mutual
noncomputable def T.rend:T->Str
 |.num n=>pR n
 |.var e l h=>e++Z6++pR l++AF++pR h++Eh++Z7
 |.mul a b=>xO++a.rend++yS++pR b++xP
 |.div a b=>xO++a.rend++Z8++pR b++xP
 |.mod a b=>xO++a.rend++Ie++pR b++xP
 |.sum l=>xO++Str.join pB (kM (T.rends l))++xP
noncomputable def T.rends:List T->List Str
 |[]=>[]
 |t::r=>t.rend::T.rends r
end
theorem rds_n:T.rends []=[]:=rfl
theorem rds_c{t:T}{r:List T}:T.rends (t::r)=t.rend::T.rends r:=rfl
theorem rd_num{n:Int}:(T.num n).rend=pR n:=rfl
theorem rd_var{e:Str}{l h:Int}:(T.var e l h).rend=e++Z6++pR l++AF++pR h++Eh++Z7:=rfl
theorem rd_mul{a:T}{b:Int}:(T.mul a b).rend=xO++a.rend++yS++pR b++xP:=rfl
theorem rd_div{a:T}{b:Int}:(T.div a b).rend=xO++a.rend++Z8++pR b++xP:=rfl
theorem rd_mod{a:T}{b:Int}:(T.mod a b).rend=xO++a.rend++Ie++pR b++xP:=rfl
theorem rd_sum{l:List T}:(T.sum l).rend=xO++Str.join pB (kM (T.rends l))++xP:=rfl
inductive V where
 |none
 |bool (b:Bool)
 |int (i:Int)
 |str (s:Str)
 |node (t:T)
 |lst (l:List V)
 |dct (d:List (Str×V))
 |dit (d:List (Str×V))
 |tup (l:List V)
 |own (i:Nat)
 |glob (a:Addr)
 |bi (n:Bi)
section
variable{α:Type}{d y:α}{v:V}{P:Prop}{Q:α->Prop}
def X6(d:α)(v:V)(F:Bool->α):α:=tg d (Nat.beq v.ctorIdx 1) λh=>V.bool.elim (motive_1:=λ_=>α) v (aA h) F
theorem vbQ{F:Bool->α}(h:Q d)(k:∀b,v=.bool b->Q (F b)):Q (X6 d v F):=
 sK h λhb=>V.bool.elim (motive_1:=λv=>∀hb:Nat.beq v.ctorIdx 1=true,(∀b,v=.bool b->Q (F b))->Q (V.bool.elim v (aA hb) F)) v (aA hb) (λb _ k=>k b rfl) hb k
theorem vbE{F:Bool->α}(h:X6 d v F=y)(n:d≠y)(k:∀b,v=.bool b->F b=y->P):P:=vbQ (Q:=λz=>z=y->P) (λh=>absurd h n) k h
def Aw(d:α)(v:V)(F:Int->α):α:=tg d (Nat.beq v.ctorIdx 2) λh=>V.int.elim (motive_1:=λ_=>α) v (aA h) F
theorem vIQ{F:Int->α}(h:Q d)(k:∀i,v=.int i->Q (F i)):Q (Aw d v F):=
 sK h λhb=>V.int.elim (motive_1:=λv=>∀hb:Nat.beq v.ctorIdx 2=true,(∀i,v=.int i->Q (F i))->Q (V.int.elim v (aA hb) F)) v (aA hb) (λi _ k=>k i rfl) hb k
theorem X7{F:Int->α}(h:Aw d v F=y)(n:d≠y)(k:∀i,v=.int i->F i=y->P):P:=vIQ (Q:=λz=>z=y->P) (λh=>absurd h n) k h
def tZ(d:α)(v:V)(F:Str->α):α:=tg d (Nat.beq v.ctorIdx 3) λh=>V.str.elim (motive_1:=λ_=>α) v (aA h) F
theorem vSQ{F:Str->α}(h:Q d)(k:∀s,v=.str s->Q (F s)):Q (tZ d v F):=
 sK h λhb=>V.str.elim (motive_1:=λv=>∀hb:Nat.beq v.ctorIdx 3=true,(∀s,v=.str s->Q (F s))->Q (V.str.elim v (aA hb) F)) v (aA hb) (λs _ k=>k s rfl) hb k
theorem Q6{F:Str->α}(h:tZ d v F=y)(n:d≠y)(k:∀s,v=.str s->F s=y->P):P:=vSQ (Q:=λz=>z=y->P) (λh=>absurd h n) k h
theorem vSC{F:Str->α}(h:tZ d v F=y)(n:d=y->P)(k:∀s,v=.str s->F s=y->P):P:=vSQ (Q:=λz=>z=y->P) n k h
def yT(d:α)(v:V)(F:T->α):α:=tg d (Nat.beq v.ctorIdx 4) λh=>V.node.elim (motive_1:=λ_=>α) v (aA h) F
theorem vNQ{F:T->α}(h:Q d)(k:∀t,v=.node t->Q (F t)):Q (yT d v F):=
 sK h λhb=>V.node.elim (motive_1:=λv=>∀hb:Nat.beq v.ctorIdx 4=true,(∀t,v=.node t->Q (F t))->Q (V.node.elim v (aA hb) F)) v (aA hb) (λt _ k=>k t rfl) hb k
theorem vNE{F:T->α}(h:yT d v F=y)(n:d≠y)(k:∀t,v=.node t->F t=y->P):P:=vNQ (Q:=λz=>z=y->P) (λh=>absurd h n) k h
theorem vNC{F:T->α}(h:yT d v F=y)(n:d=y->P)(k:∀t,v=.node t->F t=y->P):P:=vNQ (Q:=λz=>z=y->P) n k h
def yU(d:α)(v:V)(F:List V->α):α:=tg d (Nat.beq v.ctorIdx 5) λh=>V.lst.elim (motive_1:=λ_=>α) v (aA h) F
theorem vLQ{F:List V->α}(h:Q d)(k:∀l,v=.lst l->Q (F l)):Q (yU d v F):=
 sK h λhb=>V.lst.elim (motive_1:=λv=>∀hb:Nat.beq v.ctorIdx 5=true,(∀l,v=.lst l->Q (F l))->Q (V.lst.elim v (aA hb) F)) v (aA hb) (λl _ k=>k l rfl) hb k
theorem vLE{F:List V->α}(h:yU d v F=y)(n:d≠y)(k:∀l,v=.lst l->F l=y->P):P:=vLQ (Q:=λz=>z=y->P) (λh=>absurd h n) k h
theorem vLC{F:List V->α}(h:yU d v F=y)(n:d=y->P)(k:∀l,v=.lst l->F l=y->P):P:=vLQ (Q:=λz=>z=y->P) n k h
def De(d:α)(v:V)(F:List (Str×V)->α):α:=tg d (Nat.beq v.ctorIdx 6) λh=>V.dct.elim (motive_1:=λ_=>α) v (aA h) F
theorem vDQ{F:List (Str×V)->α}(h:Q d)(k:∀l,v=.dct l->Q (F l)):Q (De d v F):=
 sK h λhb=>V.dct.elim (motive_1:=λv=>∀hb:Nat.beq v.ctorIdx 6=true,(∀l,v=.dct l->Q (F l))->Q (V.dct.elim v (aA hb) F)) v (aA hb) (λl _ k=>k l rfl) hb k
theorem vDE{F:List (Str×V)->α}(h:De d v F=y)(n:d≠y)(k:∀l,v=.dct l->F l=y->P):P:=vDQ (Q:=λz=>z=y->P) (λh=>absurd h n) k h
def X8(d:α)(v:V)(F:List (Str×V)->α):α:=tg d (Nat.beq v.ctorIdx 7) λh=>V.dit.elim (motive_1:=λ_=>α) v (aA h) F
theorem vtQ{F:List (Str×V)->α}(h:Q d)(k:∀l,v=.dit l->Q (F l)):Q (X8 d v F):=
 sK h λhb=>V.dit.elim (motive_1:=λv=>∀hb:Nat.beq v.ctorIdx 7=true,(∀l,v=.dit l->Q (F l))->Q (V.dit.elim v (aA hb) F)) v (aA hb) (λl _ k=>k l rfl) hb k
theorem vtE{F:List (Str×V)->α}(h:X8 d v F=y)(n:d≠y)(k:∀l,v=.dit l->F l=y->P):P:=vtQ (Q:=λz=>z=y->P) (λh=>absurd h n) k h
def Ei(d:α)(v:V)(F:List V->α):α:=tg d (Nat.beq v.ctorIdx 8) λh=>V.tup.elim (motive_1:=λ_=>α) v (aA h) F
theorem vTQ{F:List V->α}(h:Q d)(k:∀l,v=.tup l->Q (F l)):Q (Ei d v F):=
 sK h λhb=>V.tup.elim (motive_1:=λv=>∀hb:Nat.beq v.ctorIdx 8=true,(∀l,v=.tup l->Q (F l))->Q (V.tup.elim v (aA hb) F)) v (aA hb) (λl _ k=>k l rfl) hb k
theorem vTE{F:List V->α}(h:Ei d v F=y)(n:d≠y)(k:∀l,v=.tup l->F l=y->P):P:=vTQ (Q:=λz=>z=y->P) (λh=>absurd h n) k h
def Ej(d:α)(v:V)(F:Nat->α):α:=tg d (Nat.beq v.ctorIdx 9) λh=>V.own.elim (motive_1:=λ_=>α) v (aA h) F
theorem vOQ{F:Nat->α}(h:Q d)(k:∀i,v=.own i->Q (F i)):Q (Ej d v F):=
 sK h λhb=>V.own.elim (motive_1:=λv=>∀hb:Nat.beq v.ctorIdx 9=true,(∀i,v=.own i->Q (F i))->Q (V.own.elim v (aA hb) F)) v (aA hb) (λi _ k=>k i rfl) hb k
theorem vOE{F:Nat->α}(h:Ej d v F=y)(n:d≠y)(k:∀i,v=.own i->F i=y->P):P:=vOQ (Q:=λz=>z=y->P) (λh=>absurd h n) k h
def Df(d:α)(v:V)(F:Addr->α):α:=tg d (Nat.beq v.ctorIdx 10) λh=>V.glob.elim (motive_1:=λ_=>α) v (aA h) F
theorem vGQ{F:Addr->α}(h:Q d)(k:∀a,v=.glob a->Q (F a)):Q (Df d v F):=
 sK h λhb=>V.glob.elim (motive_1:=λv=>∀hb:Nat.beq v.ctorIdx 10=true,(∀a,v=.glob a->Q (F a))->Q (V.glob.elim v (aA hb) F)) v (aA hb) (λa _ k=>k a rfl) hb k
theorem vGE{F:Addr->α}(h:Df d v F=y)(n:d≠y)(k:∀a,v=.glob a->F a=y->P):P:=vGQ (Q:=λz=>z=y->P) (λh=>absurd h n) k h
theorem vGC{F:Addr->α}(h:Df d v F=y)(n:d=y->P)(k:∀a,v=.glob a->F a=y->P):P:=vGQ (Q:=λz=>z=y->P) n k h
def LC(d:α)(v:V)(F:Bi->α):α:=tg d (Nat.beq v.ctorIdx 11) λh=>V.bi.elim (motive_1:=λ_=>α) v (aA h) F
theorem vBQ{F:Bi->α}(h:Q d)(k:∀n,v=.bi n->Q (F n)):Q (LC d v F):=
 sK h λhb=>V.bi.elim (motive_1:=λv=>∀hb:Nat.beq v.ctorIdx 11=true,(∀n,v=.bi n->Q (F n))->Q (V.bi.elim v (aA hb) F)) v (aA hb) (λn _ k=>k n rfl) hb k
theorem vBE{F:Bi->α}(h:LC d v F=y)(n:d≠y)(k:∀n,v=.bi n->F n=y->P):P:=vBQ (Q:=λz=>z=y->P) (λh=>absurd h n) k h
end
structure Cn where
 frozen:Bool
 val:V
noncomputable abbrev Cs:=List Cn
noncomputable abbrev Ev:=List (Nat×V)
def pW:List V->Option (List T)
 |[]=>some []
 |v::r=>yT none v λt=>(pW r).map (t::·)
def X9:List V->Option (List Int)
 |[]=>some []
 |v::r=>Aw none v λt=>(X9 r).map (t::·)
def mT:List V->Option (List Str)
 |[]=>some []
 |v::r=>tZ none v λt=>(mT r).map (t::·)
noncomputable def sJ(i:Nat)(c:Cn)(l:Cs):Cs:=List.rec (motive:=λ_=>Nat->Cs) (λ_=>[]) (λd r F i=>Nat.rec (c::r) (λi _=>d::F i) i) l i
theorem Ek{i:Nat}{c:Cn}:sJ i c []=[]:=rfl
theorem El{c d:Cn}{r:Cs}:sJ 0 c (d::r)=c::r:=rfl
theorem Em{i:Nat}{c d:Cn}{r:Cs}:sJ (i+1) c (d::r)=d::sJ i c r:=rfl
noncomputable def uF(i:Nat)(l:Cs):Option Cn:=List.rec (motive:=λ_=>Nat->Option Cn) (λ_=>none) (λd _ F i=>Nat.rec (some d) (λi _=>F i) i) l i
theorem gC_n{i:Nat}:uF i []=none:=rfl
def view(v:V)(cs:Cs):Option V:=Ej (some v) v λi=>(uF i cs).map (·.val)
def a8(v:V)(cs:Cs):Option (V×Cs):=Ej (some (v,cs)) v λi=>(uF i cs).map λc=>(c.val,sJ i ⟨true,c.val⟩ cs)
def eX:List V->Cs->Option (List V×Cs)
 |[],cs=>some ([],cs)
 |v::r,cs=>(a8 v cs).bind λp=>(eX r p.2).map λq=>(p.1::q.1,q.2)
noncomputable def gT(v:V)(cs:Cs):V×Cs:=(.own cs.length,cs++[⟨false,v⟩])
noncomputable def flat(v:V):Bool:=Nat.beq v.ctorIdx 4||Nat.beq v.ctorIdx 2
def eM(v:V)(cs:Cs):Option Bool:=match view v cs with
 |some .none=>some false
 |some (.bool b)=>some b
 |some (.int i)=>some (!decide (i=0))
 |some (.lst l)=>bif Nat.ble l.length 100000 then some (!l.isEmpty)else none
 |_=>none
set_option genCtorIdx false
inductive X where
 |bad
 |var (x:Nat)
 |glob (a:Addr)
 |bi (b:Bi)
 |none
 |bool (b:Bool)
 |int (i:Int)
 |str (s:Str)
 |bin (op:Operator) (a b:X)
 |neg (a:X)
 |not (a:X)
 |and2 (a b:X)
 |bop (isAnd:Bool) (l:List X)
 |ite (t a b:X)
 |cmp (op:CmpOp) (a b:X)
 |list (l:List X)
 |tup (l:List X)
 |dict0
 |attr (o:X) (n:Nm)
 |item (o i:X)
 |upto (o i:X)
 |meth (o:X) (n:Nm) (args:List X) (kws:List (Nat×X))
 |call (f:X) (args:List X) (kws:List (Nat×X))
 |comp (elt:X) (t:List Nat) (src:X) (ifs:List X)
 |comp2 (elt:X) (t:List Nat) (src:X) (t2:List Nat) (src2:X)
 |dcomp (k v:X) (t:List Nat) (src:X)
inductive Y where
 |bad
 |ret (x:X)
 |expr (x:X)
 |pass
 |asg (x:Nat) (e:X)
 |asg2 (x y:Nat) (a b:X)
 |put (d:Nat) (k e:X)
 |aug (x:Nat) (op:Operator) (e:X)
 |ite (t:X) (a b:List Y)
 |asrt (t:X)
 |forL (t:List Nat) (src:X) (body:List Y)
 |forR (t:List Nat) (args:List X) (body:List Y)
 |loop (t:X) (body:List Y)
set_option genCtorIdx true
noncomputable def X.ctorIdx(e:X):Nat:=X.casesOn (motive_1:=λ_=>Nat) e 0 (λ_=>1) (λ_=>2) (λ_=>3) 4 (λ_=>5) (λ_=>6) (λ_=>7) (λ_ _ _=>8) (λ_=>9) (λ_=>10) (λ_ _=>11) (λ_ _=>12) (λ_ _ _=>13) (λ_ _ _=>14) (λ_=>15) (λ_=>16) 17 (λ_ _=>18) (λ_ _=>19) (λ_ _=>20) (λ_ _ _ _=>21) (λ_ _ _=>22) (λ_ _ _ _=>23) (λ_ _ _ _ _=>24) (λ_ _ _ _=>25)
structure Fn where
 params:List Nat
 dflts:List V
 body:List Y
noncomputable abbrev cO:=Addr->List V->List (Nat×V)->Option V
noncomputable def sO:Nm->Str
 |.a=>DW|.b=>Da|.min=>lS|.max=>lT|.expr=>rQ|.val=>u6|.nodes=>lG|.key=>L8|.flat=>jV|.render=>Dd|.eq=>n_eq|.add=>Q2|.sub=>Q3|.mul=>Q4
 |.floordiv=>yQ|.mod=>Q5|.substitute=>u7|.text=>LA|.sum=>AD|.append=>CZ|.get=>Q1|.items=>Fw|.join=>L0
noncomputable def mR(t:T):List (Str×V):=match t with
 |.num b=>[(Da,.int b),(lS,.int b),(lT,.int b)]
 |.var e l h=>[(rQ,.str e),(lS,.int l),(lT,.int h),(u6,.none)]
 |.mul a b=>[(DW,.node a),(Da,.int b),(lS,.int (T.mul a b).lo),(lT,.int (T.mul a b).hi)]
 |.div a b=>[(DW,.node a),(Da,.int b),(lS,.int (T.div a b).lo),(lT,.int (T.div a b).hi)]
 |.mod a b=>[(DW,.node a),(Da,.int b),(lS,.int (T.mod a b).lo),(lT,.int (T.mod a b).hi)]
 |.sum l=>[(lG,.lst (l.map V.node)),(lS,.int (T.los l)),(lT,.int (T.his l))]
def u8(t:T)(n:Nm):Option V:=bif Nat.beq n.ctorIdx 2 then some (.int t.lo)else bif Nat.beq n.ctorIdx 3 then some (.int t.hi)else bif Nat.ble n.ctorIdx 6 then cJ (sO n) (mR t)else none
noncomputable def w8(c n:Nat):List (Nat×Nat×Addr)->Option Addr
 |[]=>none
 |(a,b,f)::r=>bif Nat.beq c a&&Nat.beq n b then some f else w8 c n r
theorem lM_c{c n a b:Nat}{f:Addr}{r:List (Nat×Nat×Addr)}:w8 c n ((a,b,f)::r)=bif Nat.beq c a&&Nat.beq n b then some f else w8 c n r:=rfl
noncomputable def methT:List (Nat×Nat×Addr):=[(331,13,307),(331,10,314),(331,16,321),(331,17,328),(277,16,267),(277,17,274),(471,13,432),(471,14,440),(471,15,447),(471,16,461),(471,17,468),(512,14,488),(512,16,502),(512,17,509),
 (560,15,528),(560,14,536),(560,16,550),(560,17,557),(644,13,612),(644,14,620),(644,15,625),(644,16,630),(644,17,635)]
def yV(C:Addr)(n:Nm):Option Addr:=(w8 C n.ctorIdx methT).or (w8 0 n.ctorIdx [(0,9,50),(0,10,86),(0,11,100),(0,12,114),(0,13,156),(0,14,185),(0,15,199)])
def gU(t:T)(n:Nm):Option Addr:=yV t.cls n
def pX(c:Addr)(n:Nm):Option Addr:=w8 c n.ctorIdx [(220,18,204),(220,14,185),(220,15,199)]
noncomputable def Bx:List Addr:=[220,331,277,471,512,560,644]
def uG(v c:V):Option Bool:=yT (Aw none v λ_=>Df (LC none c λn=>bif Nat.beq n.ctorIdx 6 then some true else none) c λa=>bif Bx.any (Nat.beq a)then some false else none) v
 λt=>Df (LC none c λn=>bif Nat.beq n.ctorIdx 6 then some false else none) c λa=>bif Bx.any (Nat.beq a)then some (t.mro.any (Nat.beq a))else none
def tL(v:V):List V->Option Bool
 |[]=>bif Nat.beq v.ctorIdx 4||Nat.beq v.ctorIdx 2 then some false else none
 |c::r=>(uG v c).bind λb=>bif b then some true else tL v r
theorem iI_c{v c:V}{r:List V}:tL v (c::r)=(uG v c).bind λb=>bif b then some true else tL v r:=rfl
def eY(op:Operator)(a b:Int):Option V:=match op with
 |.Add=>some (.int (a+b))
 |.Sub=>some (.int (a-b))
 |.Mult=>bif jP (a*b)then some (.int (a*b))else none
 |.FloorDiv=>bif !decide (b=0)&&jP b then some (.int (Int.fdiv a b))else none
 |.Mod=>bif !decide (b=0)&&jP b then some (.int (Int.fmod a b))else none
 |_=>none
noncomputable def En:Operator->Option Nm
 |.Add=>some .add|.Sub=>some .sub|.Mult=>some .mul|.FloorDiv=>some .floordiv|.Mod=>some .mod|_=>none
def cG(cf:cO)(op:Operator)(a b:V):Option V:=match a,b with
 |.int x,.int y=>eY op x y
 |.str x,.str y=>match op with
  |.Add=>bif CX (x++y)then some (.str (x++y))else none
  |_=>none
 |.node t,.int y=>(En op).bind λn=>(gU t n).bind λf=>cf f [.node t,.int y] []
 |.node t,.node u=>match op with
  |.Add=>cf 100 [.node t,.node u] []
  |_=>none
 |_,_=>none
noncomputable def Ou(op:CmpOp)(x y:Int):Option Bool:=match op with
 |.Eq=>some (decide (x=y))|.NotEq=>some (!decide (x=y))|.Lt=>some (decide (x<y))|.LtE=>some (decide (x<=y))
 |.Gt=>some (decide (y<x))|.GtE=>some (decide (y<=x))|_=>none
def j3(cf:cO)(op:CmpOp)(a b:V):Option V:=match a,b with
 |.int x,.int y=>(Ou op x y).map .bool
 |.str x,.str y=>match op with
  |.Eq=>some (.bool (lC x y))|_=>none
 |.node t,.int y=>match op with
  |.Eq=>(gU t .eq).bind λf=>cf f [.node t,.int y] []
  |_=>none
 |.node t,.node u=>match op with
  |.Eq=>bif Nat.beq t.cls u.cls then(gU t .eq).bind λf=>cf f [.node t,.node u] []else none
  |_=>none
 |.none,.none=>match op with
  |.IsNot=>some (.bool false)|_=>none
 |.dct _,.none=>match op with
  |.IsNot=>some (.bool true)|_=>none
 |_,_=>none
def tM(v c:V):Option Bool:=Ei (uG v c) c λl=>tL v l
def wA(n:Bi)(u:V):Option V:=bif Nat.beq n.ctorIdx 1 then(Aw none u λi=>some (.int i.natAbs))
 else bif Nat.beq n.ctorIdx 5 then(yU none u λl=>bif Nat.ble l.length 100000 then some (.int l.length)else none)
 else bif Nat.beq n.ctorIdx 4 then(Aw none u λi=>bif v9 i then some (.str (pR i))else none)else none
def yW(v:V)(n:Nm)(vs:List V):Option V:=tZ (De none v λd=>bif decide (n=.get)then AA none vs λw z=>tZ none w λk=>some ((cJ k d).getD z)else none) v
 λs=>bif decide (n=.join)then w7 none vs λw=>yU none w λl=>(mT l).bind λss=>bif JoinOk s ss then some (.str (Str.join s ss))else none else none
structure Rec where
 ev:X->Ev->Cs->Option (V×Cs)
 ts:X->Ev->Cs->Option (Bool×Cs)
 ex:Y->Ev->Cs->Option (Option V×Ev×Cs)
noncomputable def Fx(r:Rec)(env:Ev):List X->Cs->Option (List V×Cs)
 |[],cs=>some ([],cs)
 |e::es,cs=>(r.ev e env cs).bind λp=>(Fx r env es p.2).map λq=>(p.1::q.1,q.2)
def isOwn(v:V):Bool:=Nat.beq v.ctorIdx 9
def yX(r:Rec)(env:Ev):List (Nat×X)->Cs->Option (List (Nat×V)×Cs)
 |[],cs=>some ([],cs)
 |(n,e)::es,cs=>(r.ev e env cs).bind λp=>bif isOwn p.1 then none else(yX r env es p.2).map λq=>((n,p.1)::q.1,q.2)
noncomputable def LD(r:Rec)(env:Ev)(isAnd:Bool):List X->Cs->Option (Bool×Cs)
 |[],cs=>some (isAnd,cs)
 |e::es,cs=>(r.ts e env cs).bind λp=>bif (bif isAnd then p.1 else !p.1)then LD r env isAnd es p.2 else some (!isAnd,p.2)
def n6(t:List Nat)(v:V)(env:Ev):Option Ev:=w7 (AA none t λx y=>Ei none v λl=>AA none l λa b=>some (fO y b (fO x a env))) t λx=>some (fO x v env)
noncomputable def LE(r:Rec)(env:Ev):List X->Cs->Option (Bool×Cs)
 |[],cs=>some (true,cs)
 |e::es,cs=>(r.ts e env cs).bind λp=>bif p.1 then LE r env es p.2 else some (false,p.2)
def dH(r:Rec)(t:List Nat)(ifs:List X)(env:Ev)(k:Ev->Cs->Option (List V×Cs)):List V->Cs->Option (List V×Cs)
 |[],cs=>some ([],cs)
 |v::vs,cs=>(n6 t v env).bind λenv'=>(LE r env' ifs cs).bind λp=>
   (bif p.1 then k env' p.2 else some ([],p.2)).bind λq=>(dH r t ifs env k vs q.2).map λz=>(q.1++z.1,z.2)
def Eo(v:V)(cs:Cs):Option (List V):=(view v cs).bind λu=>yU none u λl=>bif Nat.blt l.length 64 then some l else none
def fresh(t:List Nat)(env:Ev):Bool:=!t.isEmpty&&t.all λi=>(dZ i env).isNone
def j4(t:List Nat)(v:V)(cs:Cs):Option (List V×Cs):=(a8 v cs).bind λp=>yU (X8 none p.1 λd=>bif Nat.ble d.length 1000&&Nat.beq t.length 2 then some (d.map λq=>.tup [.str q.1,q.2],p.2)else none) p.1
 λl=>bif Nat.ble l.length 1000 then some (l,p.2)else none
def fR(r:Rec)(elt:X)(env:Ev)(cs:Cs):Option (List V×Cs):=(r.ev elt env cs).bind λx=>(a8 x.1 x.2).map λy=>([y.1],y.2)
def Ep(k v:V):Option V:=tZ none k λs=>yT none v λt=>some (.tup [.str s,.node t])
def t8(r:Rec)(k v:X)(env:Ev)(cs:Cs):Option (List V×Cs):=(r.ev k env cs).bind λp=>(r.ev v env p.2).bind λq=>(Ep p.1 q.1).map λx=>([x],q.2)
def uH(r:Rec)(elt:X)(t:List Nat)(src:X)(env:Ev)(cs:Cs):Option (List V×Cs):=bif !fresh t env then none else(r.ev src env cs).bind λp=>(j4 t p.1 p.2).bind λl=>dH r t [] env (fR r elt) l.1 l.2
def wB(d:List (Str×V))(x:V):List (Str×V):=Ei d x λl=>AA d l λk v=>tZ d k λs=>lK s v d
def t9(l:List V):List (Str×V):=l.foldl wB []
def jD(cf:cO)(v:V)(n:Nm):Option V:=yT none v λt=>bif Nat.beq n.ctorIdx 7 then(cf 71 [.node t] []).bind λr=>tZ none r λs=>some (.str s)
 else bif Nat.beq n.ctorIdx 8 then(bif Nat.beq t.ctorIdx 5 then cf 640 [.node t] []else none)else u8 t n
def jQ(o:V)(n:Nm)(cs:Cs):Bool:=yT (Df (Ej (De (tZ false o λ_=>decide (n=.join)) o λ_=>decide (n=.items)||decide (n=.get)) o
 λi=>pU false (uF i cs) λc=>yU (De false c.val λ_=>decide (n=.items)||decide (n=.get)) c.val λ_=>!c.frozen&&decide (n=.append)) o λc=>(pX c n).isSome) o λt=>(gU t n).isSome
def iL(o:V)(n:Nm)(args:List V)(cs:Cs):Option (V×Cs):=bif decide (n=.append)then(Ej none o λi=>w7 none args λx=>bif flat x then(uF i cs).bind λc=>yU none c.val λl=>
   bif !c.frozen&&Nat.ble l.length 100000 then some (.none,sJ i ⟨false,.lst (l++[x])⟩ cs)else none else none)
 else bif decide (n=.items)then Au none args ((a8 o cs).bind λp=>De none p.1 λd=>some (.dit d,p.2))
 else(eX args cs).bind λw=>(view o w.2).bind λu=>(yW u n w.1).map λx=>(x,w.2)
def qZ(cf:cO)(o:V)(n:Nm)(args:List V)(kws:List (Nat×V))(cs:Cs):Option (V×Cs):=yT (Df (Au none kws (iL o n args cs)) o
 λc=>(pX c n).bind λf=>(eX args cs).bind λw=>(cf f w.1 kws).map λv=>(v,w.2)) o
 λt=>(gU t n).bind λf=>(eX args cs).bind λw=>(cf f (.node t::w.1) kws).map λv=>(v,w.2)
def Q7(v:V)(cs:Cs):Option (V×Cs):=(Eo v cs).bind λl=>(mT l).map λss=>gT (.lst ((kM ss).map V.str)) cs
def biV(n:Bi)(vs:List V)(cs:Cs):Option (V×Cs):=match vs with
 |[v]=>bif decide (n=.sorted)then Q7 v cs else(view v cs).bind λu=>(wA n u).map λx=>(x,cs)
 |[v,c]=>bif decide (n=.isinstance)then(tM v c).map λb=>(.bool b,cs)else none
 |_=>none
def pY(cf:cO)(f:V)(args:List V)(kws:List (Nat×V))(cs:Cs):Option (V×Cs):=Df (LC none f λn=>Au none kws (biV n args cs)) f λa=>(eX args cs).bind λw=>(cf a w.1 kws).map λv=>(v,w.2)
def eZ(o i:V)(cs:Cs):Option V:=(view o cs).bind λu=>yU (De none u λd=>tZ none i λk=>cJ k d) u λl=>Aw none i λk=>bif decide (0<=k)&&decide (k<1000)then l[k.toNat]? else none
def LF(o i:V)(cs:Cs):Option (V×Cs):=(view o cs).bind λu=>yU none u λl=>Aw none i λk=>bif decide (0<=k)&&decide (k<1000)&&Nat.ble l.length 100000 then some (gT (.lst (l.take k.toNat)) cs)else none
def dI(cf:cO)(r:Rec)(e:X)(env:Ev)(cs:Cs):Option (V×Cs):=X.casesOn (motive_1:=λ_=>Option (V×Cs)) e
 (none)
 (λx=>(dZ x env).map λv=>(v,cs))
 (λa=>some (.glob a,cs))
 (λb=>some (.bi b,cs))
 (some (.none,cs))
 (λb=>some (.bool b,cs))
 (λi=>some (.int i,cs))
 (λs=>some (.str s,cs))
 (λop l rr=>(r.ev l env cs).bind λp=>(r.ev rr env p.2).bind λq=>(cG cf op p.1 q.1).map λv=>(v,q.2))
 (λx=>(r.ev x env cs).bind λp=>match p.1 with
  |.int i=>some (.int (-i),p.2)
  |_=>none)
 (λx=>(r.ev x env cs).bind λp=>(eM p.1 p.2).map λb=>(.bool (!b),p.2))
 (λx y=>(r.ev x env cs).bind λp=>(eM p.1 p.2).bind λb=>bif b then r.ev y env p.2 else some p)
 (λ_ _=>none)
 (λt a b=>(r.ts t env cs).bind λp=>bif p.1 then r.ev a env p.2 else r.ev b env p.2)
 (λop l x=>(r.ev l env cs).bind λp=>(r.ev x env p.2).bind λq=>(j3 cf op p.1 q.1).map λv=>(v,q.2))
 (λes=>bif !Nat.blt es.length 20 then none else(Fx r env es cs).bind λp=>(eX p.1 p.2).map λq=>gT (.lst q.1) q.2)
 (λes=>bif !Nat.blt es.length 20 then none else(Fx r env es cs).bind λp=>(eX p.1 p.2).map λq=>(.tup q.1,q.2))
 (some (gT (.dct []) cs))
 (λo n=>(r.ev o env cs).bind λp=>(jD cf p.1 n).map λv=>(v,p.2))
 (λo i=>(r.ev o env cs).bind λp=>(r.ev i env p.2).bind λq=>(eZ p.1 q.1 q.2).map λv=>(v,q.2))
 (λo u=>(r.ev o env cs).bind λp=>(r.ev u env p.2).bind λq=>LF p.1 q.1 q.2)
 (λo n args kws=>(r.ev o env cs).bind λp=>bif !jQ p.1 n p.2 then none else(Fx r env args p.2).bind λq=>(yX r env kws q.2).bind λz=>qZ cf p.1 n q.1 z.1 z.2)
 (λf args kws=>(r.ev f env cs).bind λp=>(Fx r env args p.2).bind λq=>(yX r env kws q.2).bind λz=>pY cf p.1 q.1 z.1 z.2)
 (λelt t it ifs=>bif !fresh t env then none else(r.ev it env cs).bind λp=>(j4 t p.1 p.2).bind λl=>(dH r t ifs env (fR r elt) l.1 l.2).map λq=>gT (.lst q.1) q.2)
 (λelt t it t2 it2=>bif !(fresh t env&&fresh t2 env)then none else(r.ev it env cs).bind λp=>(j4 t p.1 p.2).bind λl=>(dH r t [] env (uH r elt t2 it2) l.1 l.2).map λq=>gT (.lst q.1) q.2)
 (λk v t it=>bif !fresh t env then none else(r.ev it env cs).bind λp=>(j4 t p.1 p.2).bind λl=>(dH r t [] env (t8 r k v) l.1 l.2).map λq=>gT (.dct (t9 q.1)) q.2)
def spX(e:X):Bool:=Nat.beq e.ctorIdx 10||Nat.beq e.ctorIdx 11||Nat.beq e.ctorIdx 12
def plX(e:X):Bool:=Nat.beq e.ctorIdx 1||Nat.beq e.ctorIdx 8||Nat.beq e.ctorIdx 14||Nat.beq e.ctorIdx 18||Nat.beq e.ctorIdx 22
def tP(cf:cO)(r:Rec)(e:X)(env:Ev)(cs:Cs):Option (Bool×Cs):=(dI cf r e env cs).bind λp=>(eM p.1 p.2).map λb=>(b,p.2)
def yY(cf:cO)(r:Rec)(e:X)(env:Ev)(cs:Cs):Option (Bool×Cs):=
 X.casesOn (motive_1:=λ_=>Option (Bool×Cs)) e none (λ_=>tP cf r e env cs) (λ_=>none) (λ_=>none) none (λ_=>none) (λ_=>none) (λ_=>none) (λ_ _ _=>tP cf r e env cs) (λ_=>none) (λx=>(r.ts x env cs).map λp=>(!p.1,p.2)) (λx y=>LD r env true [x,y] cs) (λisAnd es=>LD r env isAnd es cs) (λ_ _ _=>none) (λ_ _ _=>tP cf r e env cs) (λ_=>none) (λ_=>none) none (λ_ _=>tP cf r e env cs) (λ_ _=>none) (λ_ _=>none) (λ_ _ _ _=>none) (λ_ _ _=>tP cf r e env cs) (λ_ _ _ _=>none) (λ_ _ _ _ _=>none) (λ_ _ _ _=>none)
theorem LG{cf:cO}{r:Rec}{e:X}(h:spX e=false)(hp:plX e=true)(env:Ev)(cs:Cs):yY cf r e env cs=(dI cf r e env cs).bind λp=>(eM p.1 p.2).map λb=>(b,p.2):=by
 clear h;induction e using X.casesOn<;>first|(exact bX hp;done)|rfl
noncomputable abbrev LH:=Option (Option V×Ev×Cs)
noncomputable def uI(r:Rec):List Y->Ev->Cs->LH
 |[],env,cs=>some (none,env,cs)
 |s::ss,env,cs=>(r.ex s env cs).bind λp=>match p.1 with
  |some v=>some (some v,p.2)
  |none=>uI r ss p.2.1 p.2.2
def gV(r:Rec)(t:List Nat)(body:List Y):List V->Ev->Cs->LH
 |[],env,cs=>some (none,env,cs)
 |v::vs,env,cs=>(n6 t v env).bind λenv'=>(uI r body env' cs).bind λp=>match p.1 with
  |some x=>some (some x,p.2)
  |none=>gV r t body vs p.2.1 p.2.2
def mU(r:Rec)(test:X)(body:List Y):Nat->Ev->Cs->LH
 |0,_,_=>none
 |n+1,env,cs=>(r.ts test env cs).bind λp=>bif p.1 then(uI r body env p.2).bind λq=>match q.1 with
   |some x=>some (some x,q.2)
   |none=>mU r test body n q.2.1 q.2.2
  else some (none,env,p.2)
noncomputable def eK(lo:Int):Nat->List V
 |0=>[]
 |n+1=>.int lo::eK (lo+1) n
theorem rV_s{lo:Int}{n:Nat}:eK lo (n+1)=.int lo::eK (lo+1) n:=rfl
theorem rV_z{lo:Int}:eK lo 0=[]:=rfl
def l7:List V->Option (List V)
 |[.int b]=>bif decide (-1000<b)&&decide (b<1000)then some (eK 0 b.toNat)else none
 |[.int a,.int b]=>bif decide (0<=a)&&decide (a<1000)&&decide (-1000<b)&&decide (b<1000)then some (eK a (b-a).toNat)else none
 |_=>none
def g7(v:V):Bool:=Nat.beq v.ctorIdx 0
def Ax(o k x:V)(cs:Cs):Option Cs:=Ej none o λi=>tZ none k λs=>(uF i cs).bind λc=>De none c.val λm=>bif !c.frozen&&flat x&&Nat.ble m.length 1000 then some (sJ i ⟨false,.dct (lK s x m)⟩ cs)else none
def Ov(o x:V):Option V:=Aw none o λa=>Aw none x λb=>some (.int (a+b))
def wC(fuel:Nat)(r:Rec)(s:Y)(env:Ev)(cs:Cs):LH:=Y.casesOn (motive_1:=λ_=>LH) s
 (none)
 (λe=>(r.ev e env cs).bind λp=>(a8 p.1 p.2).map λq=>(some q.1,env,q.2))
 (λe=>(r.ev e env cs).bind λp=>bif g7 p.1 then some (none,env,p.2)else none)
 (some (none,env,cs))
 (λx e=>(r.ev e env cs).map λp=>(none,fO x p.1 env,p.2))
 (λx y a b=>(r.ev a env cs).bind λp=>(r.ev b env p.2).map λq=>(none,fO y q.1 (fO x p.1 env),q.2))
 (λd k e=>(r.ev e env cs).bind λp=>(dZ d env).bind λo=>(r.ev k env p.2).bind λq=>(Ax o q.1 p.1 q.2).map λc=>(none,env,c))
 (λx op e=>bif decide (op=.Add)then(dZ x env).bind λo=>(r.ev e env cs).bind λp=>(Ov o p.1).map λv=>(none,fO x v env,p.2)else none)
 (λt a b=>(r.ts t env cs).bind λp=>bif p.1 then uI r a env p.2 else uI r b env p.2)
 (λt=>(r.ts t env cs).bind λp=>bif p.1 then some (none,env,p.2)else none)
 (λt it body=>(r.ev it env cs).bind λp=>(j4 t p.1 p.2).bind λl=>gV r t body l.1 env l.2)
 (λt args body=>(Fx r env args cs).bind λp=>(l7 p.1).bind λl=>gV r t body l env p.2)
 (λt body=>mU r t body fuel env cs)
def bJ(cf:cO):Nat->Rec
 |0=>⟨λ_ _ _=>none,λ_ _ _=>none,λ_ _ _=>none⟩
 |n+1=>⟨dI cf (bJ cf n),yY cf (bJ cf n),wC 2000 (bJ cf n)⟩
def mkV(c:Addr)(vs:List V):Option V:=match vs with
 |[.int n]=>bif Nat.beq c 331 then some (.node (.num n))else none
 |[.str e,.int lo,.int hi]=>bif Nat.beq c 277 then some (.node (.var e lo hi))else none
 |[.node a,.int b]=>bif decide (0<=a.lo)then
    (bif Nat.beq c 471 then(bif jP (a.lo*b)&&jP (a.hi*b)then some (.node (.mul a b))else none)
    else bif Nat.beq c 512 then(bif !decide (b=0)&&jP b then some (.node (.div a b))else none)
    else bif Nat.beq c 560 then(bif !decide (b=0)&&jP b then some (.node (.mod a b))else none)else none)
   else none
 |[.lst l]=>bif Nat.beq c 644&&Nat.ble l.length 1000 then(pW l).map λts=>.node (.sum ts)else none
 |_=>none
noncomputable def Er(k:Nat):List Nat->Bool
 |[]=>false
 |p::r=>match r with
  |[]=>Nat.beq p k
  |q::r=>Er k (q::r)
def u9(ps:List Nat)(vs:List V)(kws:List (Nat×V))(ds:List V):Option Ev:=match kws with
 |[]=>bif Nat.beq ps.length vs.length then some (ps.zip vs)else
  bif Nat.beq ps.length (vs.length+1)then(match ds with
   |[]=>none
   |d::_=>some (ps.zip (vs++[d])))else none
 |q::r=>bif r.isEmpty&&Nat.beq ps.length (vs.length+1)&&Er q.1 ps then some (ps.zip (vs++[q.2]))else none
noncomputable def Ay:Nat:=40
noncomputable def Dg(f:Addr):Bool:=Nat.beq f 331||Nat.beq f 277||Nat.beq f 471||Nat.beq f 512||Nat.beq f 560||Nat.beq f 644
def aB(fi:Addr->Option Fn)(d:Nat):cO:=Nat.rec (motive:=λ_=>cO) (λ_ _ _=>none) (λ_ F f vs kws=>
  bif Nat.beq f 71 then w7 none vs λv=>yT none v λt=>pU none (F 50 vs [(3,.str d9)]) λu=>tZ none u λs=>bif lC s t.rend&&kws.isEmpty then some (.str s)else none
  else bif Dg f then Au none kws (mkV f vs)
  else(fi f).bind λi=>(u9 i.params vs kws i.dflts).bind λenv=>(uI (bJ F Ay) i.body env []).bind λp=>some (match p.1 with|some v=>v|none=>.none)) d
def gD(e:Expr):Bool:=!Nat.beq e.ctorIdx 7
def gE:List Expr->Bool
 |[]=>true
 |e::r=>!Nat.beq e.ctorIdx 22&&gE r
def wD(e:Expr):Bool:=!yN false e λf l k _=>Nat.beq f.ctorIdx 23&&l.isEmpty&&k.isEmpty
def l8(e:Expr):Bool:=!(Nat.beq e.ctorIdx 8||Nat.beq e.ctorIdx 9||Nat.beq e.ctorIdx 10)
def sP(e:Expr):Bool:=!Nat.beq e.ctorIdx 26
def Fy(i:Nat)(sc:Scope)(x:Str):Bool:=pU false (cJ x sc.names) λk=>Nat.beq k.ctorIdx i
theorem lL{i:Nat}{sc:Scope}{x:Str}(h:Fy i sc x=true):cJ x sc.names=some (NameKind.ofNat i):=
 oQ (Q:=λz=>z=true->cJ x sc.names=some (NameKind.ofNat i)) (λh=>bX h) (λk e h=>by rw[e,<-aA h,NameKind.ofNat_ctorIdx]) h
def uA(sc:Scope)(x:Str):Bool:=Fy 0 sc x
def wE(sc:Scope)(x:Str):Bool:=Fy 0 sc x||Fy 1 sc x
def LI(sc:Scope)(x:Str):Bool:=Fy 1 sc x||Fy 2 sc x
def Dh(sc:Scope)(x:Str):Bool:=Fy 4 sc x
def LJ(sc:Scope):Bool:=Nat.beq sc.kind.ctorIdx 1
theorem Di{sc:Scope}(h:LJ sc=true):sc.kind=.function:=by rw[<-ScopeKind.ofNat_ctorIdx sc.kind,aA h];rfl
def Ow:Str:=sT [46,48]
def jR(e:Expr):List Str:=qN (t7 [] e λl _ _=>AA [] l λa b=>qN [] a λx _=>qN [] b λy _=>[x,y]) e λx _=>[x]
def oV(sc dA:Scope)(ts:List Str):List (Str×NameKind)->Bool
 |[]=>true
 |(x,.local)::r=>uA dA x&&(lC x Ow||ts.any (lC x))&&oV sc dA ts r
 |(_,.cell)::_=>false
 |(x,.free)::r=>LI sc x&&oV sc dA ts r
 |_::r=>oV sc dA ts r
def jS(sc dA:Scope)(ts:List Str):Bool:=LJ dA&&oV sc dA ts dA.names
def tgtO(sc:Scope)(e:Expr):Option (List Nat):=(qN none e λx _=>bif uA sc x then(mQ x).map λi=>[i]else none).or
 (t7 none e λl _ _=>AA none l λa b=>qN none a λx _=>qN none b λy _=>bif uA sc x&&uA sc y&&!lC x y then(mQ x).bind λi=>(mQ y).map λj=>[i,j]else none)
def uB(sc:Scope)(e:Expr):List Nat:=(tgtO sc e).getD []
def erK(k:Keyword):Option Nat:=match k.arg with
 |some x=>mQ x
 |none=>none
def Dj(f:Expr->X):List Keyword->Option (List (Nat×X))
 |[]=>some []
 |k::r=>match erK k with
  |some i=>match Dj f r with
   |some l=>some ((i,f k.value)::l)
   |none=>none
  |none=>none
def LK(e:Expr):Bool:=Nat.beq e.ctorIdx 23
def LL(e:Expr):Option Expr:=Lv none e λa b c _=>bif a.isNone&&c.isNone then b else none
def By(sc:Scope)(x:Str):X:=bif Fy 0 sc x||Fy 1 sc x||Fy 2 sc x then pU .bad (mQ x) .var else bif Fy 4 sc x then pU (pU .bad (cJ x biT) .bi) (cJ x AE) .glob else .bad
noncomputable def Fz(c:Const):X:=PySem.Const.casesOn (motive:=λ_=>X) c
 (.none)
 (λb=>.bool b)
 (λi=>.int i)
 (λ_=>.bad)
 (λ_ _=>.bad)
 (λs=>.str s)
 (λ_=>.bad)
 (.bad)
def XA(f:Expr->X)(op:BoolOp)(es:List Expr):X:=match op with
 |.And=>AA (.bop true (es.map f)) es λx y=>.and2 (f x) (f y)
 |.Or=>.bop false (es.map f)
noncomputable def erUn(f:Expr->X)(op:UnaryOp)(x:Expr):X:=match op with
 |.Not=>.not (f x)
 |.USub=>.neg (f x)
 |_=>.bad
def erCmp(f:Expr->X)(l:Expr)(ops:List CmpOp)(xs:List Expr):X:=w7 .bad ops λop=>w7 .bad xs λx=>bif gD x then .cmp op (f l) (f x)else .bad
def XB(ks:List (Option Expr))(vs:List Expr):X:=Au .bad ks (Au .bad vs .dict0)
def Es(f:Expr->X)(o:Expr)(a:Str):X:=bif wD o then pU .bad (cJ a LB) λm=>.attr (f o) m else .bad
def erSub(f:Expr->X)(o i:Expr):X:=pU (bif sP i then .item (f o) (f i)else .bad) (LL i) λu=>bif LK o then .upto (f o) (f u)else .bad
def LM(f:Expr->X)(fn:Expr)(args:List Expr)(kws:List Keyword)(p:Pos):X:=u5 (qN .bad fn λx q=>bif gE args&&Nat.blt (args.length+kws.length) 20 then(pU .bad (Dj f kws) λl=>.call (f (.Name x q)) (args.map f) l)else .bad) fn
 λo a ap=>bif wD o&&gE args&&Nat.beq ap.endLine p.line&&Nat.blt (args.length+kws.length) 20 then(pU .bad (cJ a LB) λm=>pU .bad (Dj f kws) λl=>.meth (f o) m (args.map f) l)else .bad
def Et(f f':Expr->X)(sc dA:Scope)(elt:Expr)(gens:List Comprehension):X:=w7 (AA .bad gens λg h=>
  bif decide (g.is_async=0)&&decide (h.is_async=0)&&g.ifs.isEmpty&&h.ifs.isEmpty&&jS sc dA (jR g.target++jR h.target)&&gD g.iter&&gD h.iter then
   .comp2 (f' elt) (uB dA g.target) (f g.iter) (uB dA h.target) (f' h.iter)else .bad)
 gens λg=>bif decide (g.is_async=0)&&jS sc dA (jR g.target)&&gD g.iter then .comp (f' elt) (uB dA g.target) (f g.iter) (g.ifs.map f')else .bad
def Ox(f f':Expr->X)(sc dA:Scope)(k v:Expr)(gens:List Comprehension):X:=w7 .bad gens λg=>
 bif decide (g.is_async=0)&&g.ifs.isEmpty&&jS sc dA (jR g.target)&&gD g.iter then .dcomp (f' k) (f' v) (uB dA g.target) (f g.iter)else .bad
def er(n:Nat):Scope->Expr->X:=Nat.rec (motive:=λ_=>Scope->Expr->X) (λ_ _=>.bad) (λ_ F sc e=>PySem.Expr.casesOn (motive_1:=λ_=>X) e
  (λop es _=>XA (F sc) op es)
  (λ_ _ _=>.bad)
  (λl op r _=>.bin op (F sc l) (F sc r))
  (λop x _=>erUn (F sc) op x)
  (λ_ _ _ _=>.bad)
  (λt a b _=>.ite (F sc t) (F sc a) (F sc b))
  (λks vs _=>XB ks vs)
  (λ_ _ _=>.bad)
  (λelt gens dA _=>Et (F sc) (F dA) sc dA elt gens)
  (λ_ _ _ _=>.bad)
  (λk v gens dA _=>Ox (F sc) (F dA) sc dA k v gens)
  (λ_ _ _ _=>.bad)
  (λ_ _=>.bad)
  (λ_ _=>.bad)
  (λ_ _=>.bad)
  (λl ops xs _=>erCmp (F sc) l ops xs)
  (λfn args kws p=>LM (F sc) fn args kws p)
  (λ_ _ _ _=>.bad)
  (λ_ _=>.bad)
  (λc _ _=>Fz c)
  (λo a _=>Es (F sc) o a)
  (λo i _=>erSub (F sc) o i)
  (λ_ _=>.bad)
  (λx _=>By sc x)
  (λes _=>bif gE es then .list (es.map (F sc))else .bad)
  (λes _ _=>bif gE es then .tup (es.map (F sc))else .bad)
  (λ_ _ _ _=>.bad)) n
def LN(sc:Scope)(x:Str)(px:Pos)(e:Expr):Bool:=Op false e λelt gens dA p=>uA sc x&&Nat.beq px.line (Expr.ListComp elt gens dA p).pos.line&&!(dA.names.any λ(n,k)=>n==x&&(k==.local||k==.cell))
def LO(sc:Scope)(a b e:Expr):Y:=qN .bad a λx px=>qN .bad b λy py=>t7 .bad e λvs _ _=>AA .bad vs λu v=>
 bif uA sc x&&uA sc y&&Nat.beq py.line px.line&&!lC x y&&gE [u,v]&&!([u,v].all (foldedForSure 8))&&!([u,v].all (constantsAlone 8))then(pU .bad (mQ x) λi=>pU .bad (mQ y) λj=>.asg2 i j (er 20 sc u) (er 20 sc v))else .bad
def Q8(sc:Scope)(d k e:Expr):Y:=qN .bad d λx _=>bif l8 e&&sP k&&(Fy 0 sc x||Fy 1 sc x||Fy 2 sc x)then(pU .bad (mQ x) λi=>.put i (er 20 sc k) (er 20 sc e))else .bad
def Q9(sc:Scope)(t e:Expr):Y:=qN (t7 (Lw .bad t λd k _=>Q8 sc d k e) t λes _ _=>AA .bad es λa b=>LO sc a b e) t
 λx px=>bif (l8 e&&wE sc x)||LN sc x px e then(pU .bad (mQ x) λi=>.asg i (er 20 sc e))else .bad
def erAug(sc:Scope)(t:Expr)(op:Operator)(e:Expr):Y:=qN .bad t λx _=>bif uA sc x then(pU .bad (mQ x) λi=>.aug i op (er 20 sc e))else .bad
def wF(sc:Scope)(it:Expr):Option (List Expr):=yN none it λfn args kws _=>qN none fn λf _=>bif lC f pV&&gE args&&kws.isEmpty&&Dh sc f then some args else none
def erFor(f:Stmt->Y)(sc:Scope)(t it:Expr)(body orelse:List Stmt):Y:=Au .bad orelse (qN .bad t λ_ _=>
 pU (bif gD it then .forL (uB sc t) (er 20 sc it) (body.map f)else .bad) (wF sc it) λargs=>.forR (uB sc t) (args.map (er 20 sc)) (body.map f))
def Ar(n:Nat):Scope->Stmt->Y:=Nat.rec (motive:=λ_=>Scope->Stmt->Y) (λ_ _=>.bad) (λ_ F sc s=>PySem.Stmt.casesOn (motive_2:=λ_=>Y) s
  (λ_ _ _ _ _ _ _ _ _ _=>.bad)
  (λ_ _ _ _ _ _ _ _ _ _=>.bad)
  (λ_ _ _ _ _ _ _ _ _ _ _=>.bad)
  (λe _=>pU .bad e λe=>.ret (er 20 sc e))
  (λ_ _=>.bad)
  (λts e _=>w7 .bad ts λt=>Q9 sc t e)
  (λ_ _ _ _ _ _ _=>.bad)
  (λt op e _=>erAug sc t op e)
  (λ_ _ _ _ _=>.bad)
  (λt it body orelse _=>erFor (F sc) sc t it body orelse)
  (λ_ _ _ _ _=>.bad)
  (λt body orelse _=>Au .bad orelse (.loop (er 20 sc t) (body.map (F sc))))
  (λt a b _=>.ite (er 20 sc t) (a.map (F sc)) (b.map (F sc)))
  (λ_ _ _=>.bad)
  (λ_ _ _=>.bad)
  (λ_ _ _=>.bad)
  (λ_ _ _=>.bad)
  (λ_ _ _ _ _=>.bad)
  (λ_ _ _ _ _=>.bad)
  (λt m _=>bif m.isNone then .asrt (er 20 sc t)else .bad)
  (λ_ _=>.bad)
  (λ_ _ _ _=>.bad)
  (λ_ _=>.bad)
  (λ_ _=>.bad)
  (λe _=>bif l8 e then .expr (er 20 sc e)else .bad)
  (λ_=>.pass)
  (λ_=>.bad)
  (λ_=>.bad)) n
def erF(s:Stmt)(ds:List V):Fn:=PySem.Stmt.casesOn (motive_2:=λ_=>Fn) s
 (λ_ a b _ _ _ sc _ _ _=>⟨a.args.map (λx=>match mQ x.arg with|some i=>i|none=>0),ds,b.map (Ar 12 sc)⟩)
 (λ_ _ _ _ _ _ _ _ _ _=>⟨[],[],[]⟩)
 (λ_ _ _ _ _ _ _ _ _ _ _=>⟨[],[],[]⟩)
 (λ_ _=>⟨[],[],[]⟩)
 (λ_ _=>⟨[],[],[]⟩)
 (λ_ _ _=>⟨[],[],[]⟩)
 (λ_ _ _ _ _ _ _=>⟨[],[],[]⟩)
 (λ_ _ _ _=>⟨[],[],[]⟩)
 (λ_ _ _ _ _=>⟨[],[],[]⟩)
 (λ_ _ _ _ _=>⟨[],[],[]⟩)
 (λ_ _ _ _ _=>⟨[],[],[]⟩)
 (λ_ _ _ _=>⟨[],[],[]⟩)
 (λ_ _ _ _=>⟨[],[],[]⟩)
 (λ_ _ _=>⟨[],[],[]⟩)
 (λ_ _ _=>⟨[],[],[]⟩)
 (λ_ _ _=>⟨[],[],[]⟩)
 (λ_ _ _=>⟨[],[],[]⟩)
 (λ_ _ _ _ _=>⟨[],[],[]⟩)
 (λ_ _ _ _ _=>⟨[],[],[]⟩)
 (λ_ _ _=>⟨[],[],[]⟩)
 (λ_ _=>⟨[],[],[]⟩)
 (λ_ _ _ _=>⟨[],[],[]⟩)
 (λ_ _=>⟨[],[],[]⟩)
 (λ_ _=>⟨[],[],[]⟩)
 (λ_ _=>⟨[],[],[]⟩)
 (λ_=>⟨[],[],[]⟩)
 (λ_=>⟨[],[],[]⟩)
 (λ_=>⟨[],[],[]⟩)
noncomputable def f35:Fn:=⟨[41,2],[],[
 (.loop (.var 2) [(.asg2 41 2 (.var 2) (.bin .Mod (.var 41) (.var 2)))]),
 (.ret (.call (.bi .abs) [(.var 41)] []))]⟩
noncomputable def f50:Fn:=⟨[1,3],[.none],[
 (.asrt (.bop false [(.call (.bi .isinstance) [(.var 1),(.tup [(.glob 277),(.glob 331)])] []),(.cmp .NotEq (.attr (.var 1) .min) (.attr (.var 1) .max))])),
 (.ret (.meth (.var 1) .text [(.var 3)] []))]⟩
noncomputable def f86:Fn:=⟨[1,10],[],[
 (.ite (.not (.call (.bi .isinstance) [(.var 10),(.glob 220)] [])) [(.ret (.bool false))] []),
 (.ret (.cmp .Eq (.attr (.var 1) .key) (.attr (.var 10) .key)))]⟩
noncomputable def f100:Fn:=⟨[1,2],[],[
 (.ret (.meth (.glob 220) .sum [(.list [(.var 1),(.ite (.call (.bi .isinstance) [(.var 2),(.bi .int)] []) (.call (.glob 331) [(.var 2)] []) (.var 2))])] []))]⟩
noncomputable def f114:Fn:=⟨[1,2],[],[
 (.ret (.bin .Add (.var 1) (.neg (.var 2))))]⟩
noncomputable def f156:Fn:=⟨[1,2],[],[
 (.ite (.cmp .Eq (.var 2) (.int 0)) [(.ret (.call (.glob 331) [(.int 0)] []))] []),
 (.ite (.cmp .Eq (.var 2) (.int 1)) [(.ret (.var 1))] []),
 (.ret (.ite (.call (.bi .isinstance) [(.var 2),(.glob 331)] []) (.call (.glob 347) [(.call (.glob 471) [(.var 1),(.attr (.var 2) .b)] [])] []) (.call (.glob 347) [(.call (.glob 471) [(.var 1),(.var 2)] [])] [])))]⟩
noncomputable def xQ:Fn:=⟨[1,2,7],[.bool true],[
 (.ite (.call (.bi .isinstance) [(.var 2),(.glob 220)] []) [(.ite (.call (.bi .isinstance) [(.var 2),(.glob 331)] []) [(.ret (.meth (.var 1) .floordiv [(.attr (.var 2) .b),(.var 7)] []))] []),(.ite (.cmp .Eq (.var 1) (.var 2)) [(.ret (.call (.glob 331) [(.int 1)] []))] []),(.ite (.and2 (.cmp .Gt (.attr (.bin .Sub (.var 2) (.var 1)) .min) (.int 0)) (.cmp .GtE (.attr (.var 1) .min) (.int 0))) [(.ret (.call (.glob 331) [(.int 0)] []))] []),.bad] []),
 (.asrt (.cmp .NotEq (.var 2) (.int 0))),
 (.ite (.cmp .Lt (.var 2) (.int 0)) [(.ret (.meth (.bin .Mult (.var 1) (.neg (.int 1))) .floordiv [(.neg (.var 2)),(.var 7)] []))] []),
 (.ite (.cmp .Eq (.var 2) (.int 1)) [(.ret (.var 1))] []),
 (.ite (.cmp .Lt (.attr (.var 1) .min) (.int 0)) [(.asg 25 (.bin .FloorDiv (.attr (.var 1) .min) (.var 2))),(.ret (.bin .Add (.meth (.bin .Add (.var 1) (.bin .Mult (.neg (.var 25)) (.var 2))) .floordiv [(.var 2)] [(7,(.bool false))]) (.var 25)))] []),
 (.ret (.call (.glob 347) [(.call (.glob 512) [(.var 1),(.var 2)] [])] []))]⟩
noncomputable def f199:Fn:=⟨[1,2],[],[
 (.ite (.call (.bi .isinstance) [(.var 2),(.glob 220)] []) [(.ite (.call (.bi .isinstance) [(.var 2),(.glob 331)] []) [(.ret (.bin .Mod (.var 1) (.attr (.var 2) .b)))] []),(.ite (.cmp .Eq (.var 1) (.var 2)) [(.ret (.call (.glob 331) [(.int 0)] []))] []),(.ite (.and2 (.cmp .Gt (.attr (.bin .Sub (.var 2) (.var 1)) .min) (.int 0)) (.cmp .GtE (.attr (.var 1) .min) (.int 0))) [(.ret (.var 1))] []),.bad] []),
 (.asrt (.cmp .Gt (.var 2) (.int 0))),
 (.ite (.cmp .Eq (.var 2) (.int 1)) [(.ret (.call (.glob 331) [(.int 0)] []))] []),
 (.ite (.and2 (.call (.bi .isinstance) [(.attr (.var 1) .max),(.bi .int)] []) (.call (.bi .isinstance) [(.attr (.var 1) .min),(.bi .int)] [])) [(.ite (.cmp .Eq (.bin .FloorDiv (.attr (.var 1) .min) (.var 2)) (.bin .FloorDiv (.attr (.var 1) .max) (.var 2))) [(.ret (.bin .Sub (.var 1) (.bin .Mult (.var 2) (.bin .FloorDiv (.attr (.var 1) .min) (.var 2)))))] []),(.ite (.cmp .Lt (.attr (.var 1) .min) (.int 0)) [(.ret (.bin .Mod (.bin .Sub (.var 1) (.bin .Mult (.bin .FloorDiv (.attr (.var 1) .min) (.var 2)) (.var 2))) (.var 2)))] [])] []),
 (.ret (.call (.glob 347) [(.call (.glob 560) [(.var 1),(.var 2)] [])] []))]⟩
noncomputable def q7:Fn:=⟨[4],[],[
 (.asg 4 (.comp (.var 0) [0] (.var 4) [(.bop false [(.attr (.var 0) .max),(.attr (.var 0) .min)])])),
 (.ite (.not (.var 4)) [(.ret (.call (.glob 331) [(.int 0)] []))] []),
 (.ite (.cmp .Eq (.call (.bi .len) [(.var 4)] []) (.int 1)) [(.ret (.item (.var 4) (.int 0)))] []),
 (.asg 28 .dict0),
 (.asg 12 .dict0),
 (.asg 26 (.int 0)),
 (.forL [5] (.attr (.call (.glob 644) [(.var 4)] []) .flat) [(.ite (.call (.bi .isinstance) [(.var 5),(.glob 331)] []) [(.aug 26 .Add (.attr (.var 5) .b))] [(.ite (.call (.bi .isinstance) [(.var 5),(.glob 471)] []) [(.put 12 (.attr (.attr (.var 5) .a) .key) (.meth (.var 12) .get [(.attr (.attr (.var 5) .a) .key),(.attr (.var 5) .a)] [])),(.put 28 (.attr (.attr (.var 5) .a) .key) (.bin .Add (.meth (.var 28) .get [(.attr (.attr (.var 5) .a) .key),(.int 0)] []) (.attr (.var 5) .b)))] [(.put 12 (.attr (.var 5) .key) (.meth (.var 12) .get [(.attr (.var 5) .key),(.var 5)] [])),(.put 28 (.attr (.var 5) .key) (.bin .Add (.meth (.var 28) .get [(.attr (.var 5) .key),(.int 0)] []) (.int 1)))])])]),
 (.asg 27 (.comp (.ite (.cmp .NotEq (.var 40) (.int 1)) (.call (.glob 471) [(.item (.var 12) (.var 41)),(.var 40)] []) (.item (.var 12) (.var 41))) [41,40] (.meth (.var 28) .items [] []) [(.cmp .NotEq (.var 40) (.int 0))])),
 (.ite (.var 26) [(.expr (.meth (.var 27) .append [(.call (.glob 331) [(.var 26)] [])] []))] []),
 (.ret (.ite (.cmp .Gt (.call (.bi .len) [(.var 27)] []) (.int 1)) (.call (.glob 347) [(.call (.glob 644) [(.var 27)] [])] []) (.ite (.cmp .Eq (.call (.bi .len) [(.var 27)] []) (.int 1)) (.item (.var 27) (.int 0)) (.call (.glob 331) [(.int 0)] []))))]⟩
noncomputable def f267:Fn:=⟨[1,47],[],[
 (.ret (.meth (.var 47) .get [(.attr (.var 1) .key),(.var 1)] []))]⟩
noncomputable def f274:Fn:=⟨[1,3],[],[
 (.ite (.cmp .Eq (.var 3) (.str ⟨⟨[68,69,66,85,71]⟩⟩)) [(.ret (.bin .Add (.bin .Add (.bin .Add (.bin .Add (.bin .Add (.bin .Add (.attr (.var 1) .expr) (.str ⟨⟨[91]⟩⟩)) (.call (.bi .str) [(.attr (.var 1) .min)] [])) (.str ⟨⟨[45]⟩⟩)) (.call (.bi .str) [(.attr (.var 1) .max)] [])) (.ite (.cmp .IsNot (.attr (.var 1) .val) .none) (.bin .Add (.str ⟨⟨[61]⟩⟩) (.call (.bi .str) [.bad] [])) (.str ⟨⟨[]⟩⟩))) (.str ⟨⟨[93]⟩⟩)))] []),
 (.ret (.attr (.var 1) .expr))]⟩
noncomputable def f307:Fn:=⟨[1,2],[],[
 (.ret (.ite (.call (.bi .isinstance) [(.var 2),(.bi .int)] []) (.call (.glob 331) [(.bin .Mult (.attr (.var 1) .b) (.var 2))] []) (.bin .Mult (.var 2) (.attr (.var 1) .b))))]⟩
noncomputable def f314:Fn:=⟨[1,10],[],[
 (.ite (.call (.bi .isinstance) [(.var 10),(.glob 331)] []) [(.ret (.cmp .Eq (.attr (.var 1) .b) (.attr (.var 10) .b)))] []),
 (.ret (.ite (.call (.bi .isinstance) [(.var 10),(.bi .int)] []) (.cmp .Eq (.attr (.var 1) .b) (.var 10)) (.bool false)))]⟩
noncomputable def f321:Fn:=⟨[1,47],[],[
 (.ret (.var 1))]⟩
noncomputable def f328:Fn:=⟨[1,3],[],[
 (.ret (.call (.bi .str) [(.attr (.var 1) .b)] []))]⟩
noncomputable def f340:Fn:=⟨[46,44,45],[],[
 (.asrt (.and2 (.cmp .GtE (.var 44) (.int 0)) (.cmp .LtE (.var 44) (.var 45)))),
 (.ite (.cmp .Eq (.var 44) (.var 45)) [(.ret (.call (.glob 331) [(.var 44)] []))] []),
 (.ret (.call (.glob 277) [(.var 46),(.var 44),(.var 45)] []))]⟩
noncomputable def f347:Fn:=⟨[9],[],[
 (.asrt (.cmp .LtE (.attr (.var 9) .min) (.attr (.var 9) .max))),
 (.ite (.cmp .Eq (.attr (.var 9) .min) (.attr (.var 9) .max)) [(.ret (.call (.glob 331) [(.attr (.var 9) .min)] []))] []),
 (.ret (.var 9))]⟩
noncomputable def f432:Fn:=⟨[1,2],[],[
 (.ret (.bin .Mult (.attr (.var 1) .a) (.bin .Mult (.attr (.var 1) .b) (.var 2))))]⟩
noncomputable def f440:Fn:=⟨[1,2,7],[.bool false],[
 (.ite (.cmp .Eq (.bin .Mod (.attr (.var 1) .b) (.var 2)) (.int 0)) [(.ret (.bin .Mult (.attr (.var 1) .a) (.bin .FloorDiv (.attr (.var 1) .b) (.var 2))))] []),
 (.ite (.and2 (.cmp .Eq (.bin .Mod (.var 2) (.attr (.var 1) .b)) (.int 0)) (.cmp .Gt (.attr (.var 1) .b) (.int 0))) [(.ret (.bin .FloorDiv (.attr (.var 1) .a) (.bin .FloorDiv (.var 2) (.attr (.var 1) .b))))] []),
 (.ret (.meth (.glob 220) .floordiv [(.var 1),(.var 2),(.var 7)] []))]⟩
noncomputable def f447:Fn:=⟨[1,2],[],[
 (.ret (.meth (.glob 220) .mod [(.bin .Mult (.attr (.var 1) .a) (.bin .Mod (.attr (.var 1) .b) (.var 2))),(.var 2)] []))]⟩
noncomputable def f461:Fn:=⟨[1,47],[],[
 (.ret (.bin .Mult (.meth (.attr (.var 1) .a) .substitute [(.var 47)] []) (.ite (.call (.bi .isinstance) [(.attr (.var 1) .b),(.bi .int)] []) (.attr (.var 1) .b) (.meth (.attr (.var 1) .b) .substitute [(.var 47)] []))))]⟩
noncomputable def f468:Fn:=⟨[1,3],[],[
 (.ite (.bop true [(.call (.bi .isinstance) [(.attr (.var 1) .a),(.glob 277)] []),(.call (.bi .isinstance) [(.attr (.var 1) .b),(.glob 277)] []),(.attr (.attr (.var 1) .a) .expr),(.attr (.attr (.var 1) .b) .expr),(.cmp .Lt (.attr (.attr (.var 1) .b) .expr) (.attr (.attr (.var 1) .a) .expr))]) [(.ret (.bin .Add (.bin .Add (.bin .Add (.bin .Add (.str ⟨⟨[40]⟩⟩) (.call (.glob 654) [(.attr (.var 1) .b),(.var 3)] [])) (.str ⟨⟨[42]⟩⟩)) (.meth (.attr (.var 1) .a) .render [(.var 3)] [])) (.str ⟨⟨[41]⟩⟩)))] []),
 (.ret (.bin .Add (.bin .Add (.bin .Add (.bin .Add (.str ⟨⟨[40]⟩⟩) (.meth (.attr (.var 1) .a) .render [(.var 3)] [])) (.str ⟨⟨[42]⟩⟩)) (.call (.glob 654) [(.attr (.var 1) .b),(.var 3)] [])) (.str ⟨⟨[41]⟩⟩)))]⟩
noncomputable def f488:Fn:=⟨[1,2,43],[.bool false],[
 (.ret (.bin .FloorDiv (.attr (.var 1) .a) (.bin .Mult (.attr (.var 1) .b) (.var 2))))]⟩
noncomputable def f502:Fn:=⟨[1,47],[],[
 (.ret (.bin .FloorDiv (.meth (.attr (.var 1) .a) .substitute [(.var 47)] []) (.attr (.var 1) .b)))]⟩
noncomputable def f509:Fn:=⟨[1,3],[],[
 (.ret (.bin .Add (.bin .Add (.bin .Add (.bin .Add (.str ⟨⟨[40]⟩⟩) (.meth (.attr (.var 1) .a) .render [(.var 3)] [])) (.str ⟨⟨[47,47]⟩⟩)) (.call (.bi .str) [(.attr (.var 1) .b)] [])) (.str ⟨⟨[41]⟩⟩)))]⟩
noncomputable def f528:Fn:=⟨[1,2],[],[
 (.ite (.bop true [(.call (.bi .isinstance) [(.var 2),(.bi .int)] []),(.call (.bi .isinstance) [(.attr (.var 1) .b),(.bi .int)] []),(.cmp .Eq (.bin .Mod (.attr (.var 1) .b) (.var 2)) (.int 0))]) [(.ret (.bin .Mod (.attr (.var 1) .a) (.var 2)))] []),
 (.ret (.meth (.glob 220) .mod [(.var 1),(.var 2)] []))]⟩
noncomputable def f536:Fn:=⟨[1,2,7],[.bool true],[
 (.ret (.ite (.cmp .Eq (.bin .Mod (.attr (.var 1) .b) (.var 2)) (.int 0)) (.bin .Mod (.bin .FloorDiv (.attr (.var 1) .a) (.var 2)) (.bin .FloorDiv (.attr (.var 1) .b) (.var 2))) (.meth (.glob 220) .floordiv [(.var 1),(.var 2),(.var 7)] [])))]⟩
noncomputable def f550:Fn:=⟨[1,47],[],[
 (.ret (.bin .Mod (.meth (.attr (.var 1) .a) .substitute [(.var 47)] []) (.attr (.var 1) .b)))]⟩
noncomputable def f557:Fn:=⟨[1,3],[],[
 (.ret (.bin .Add (.bin .Add (.bin .Add (.bin .Add (.str ⟨⟨[40]⟩⟩) (.meth (.attr (.var 1) .a) .render [(.var 3)] [])) (.str ⟨⟨[37]⟩⟩)) (.call (.bi .str) [(.attr (.var 1) .b)] [])) (.str ⟨⟨[41]⟩⟩)))]⟩
noncomputable def f612:Fn:=⟨[1,2],[],[
 (.ret (.meth (.glob 220) .sum [(.comp (.bin .Mult (.var 0) (.var 2)) [0] (.attr (.var 1) .nodes) [])] []))]⟩
noncomputable def Eu:Fn:=⟨[1,2,7],[.bool true],[
 (.ite (.cmp .Eq (.var 1) (.var 2)) [(.ret (.call (.glob 331) [(.int 1)] []))] []),
 (.asg 35 (.list [])),
 (.asg 21 (.list [])),
 (.ite (.call (.bi .isinstance) [(.var 2),(.glob 220)] []) [(.forL [0] (.attr (.var 1) .flat) [(.ite (.cmp .Eq (.bin .Mod (.var 0) (.var 2)) (.int 0)) [(.expr (.meth (.var 35) .append [(.bin .FloorDiv (.var 0) (.var 2))] []))] [(.expr (.meth (.var 21) .append [(.var 0)] []))])]),(.asg 51 (.call (.glob 347) [(.call (.glob 644) [(.var 35)] [])] [])),(.ite (.cmp .NotEq (.var 51) (.int 0)) [(.ret (.bin .Add (.var 51) (.bin .FloorDiv (.call (.glob 347) [(.call (.glob 644) [(.var 21)] [])] []) (.var 2))))] []),(.ret (.meth (.glob 220) .floordiv [(.var 1),(.var 2),(.bool false)] []))] []),
 (.ite (.cmp .Eq (.var 2) (.int 1)) [(.ret (.var 1))] []),
 (.ite (.not (.var 7)) [(.ret (.meth (.glob 220) .floordiv [(.var 1),(.var 2),(.var 7)] []))] []),
 (.asg 42 (.var 2)),
 (.asg 37 (.int 1)),
 (.forL [0] (.attr (.var 1) .flat) [(.ite (.call (.bi .isinstance) [(.var 0),(.tup [(.glob 331),(.glob 471)])] []) [(.ite (.cmp .Eq (.bin .Mod (.attr (.var 0) .b) (.var 2)) (.int 0)) [(.expr (.meth (.var 35) .append [(.bin .FloorDiv (.var 0) (.var 2))] []))] [(.ite (.and2 (.call (.bi .isinstance) [(.var 0),(.glob 331)] []) (.bin .FloorDiv (.attr (.var 0) .b) (.var 2))) [(.asg 52 (.bin .FloorDiv (.attr (.var 0) .b) (.var 2))),(.expr (.meth (.var 35) .append [(.call (.glob 331) [(.var 52)] [])] [])),(.asg 0 (.call (.glob 331) [(.bin .Sub (.attr (.var 0) .b) (.bin .Mult (.var 2) (.var 52)))] []))] []),(.expr (.meth (.var 21) .append [(.var 0)] [])),(.ite (.call (.bi .isinstance) [(.attr (.var 0) .b),(.bi .int)] []) [(.asg 42 (.call (.glob 35) [(.var 42),(.attr (.var 0) .b)] [])),(.ite (.bop true [(.call (.bi .isinstance) [(.var 0),(.glob 471)] []),(.cmp .Eq (.var 37) (.int 1)),(.cmp .Eq (.bin .Mod (.var 2) (.attr (.var 0) .b)) (.int 0))]) [(.asg 37 (.attr (.var 0) .b))] [])] [(.asg 42 (.int 1))])])] [(.expr (.meth (.var 21) .append [(.var 0)] [])),(.asg 42 (.int 1))])]),
 (.ite (.cmp .Gt (.var 42) (.int 1)) [(.ret (.bin .Add (.meth (.glob 220) .sum [(.var 35)] []) (.bin .FloorDiv (.meth (.meth (.glob 220) .sum [(.var 21)] []) .floordiv [(.var 42)] []) (.bin .FloorDiv (.var 2) (.var 42)))))] []),
 (.ite (.cmp .Gt (.var 37) (.int 1)) [(.ret (.bin .Add (.meth (.glob 220) .sum [(.var 35)] []) (.bin .FloorDiv (.meth (.meth (.glob 220) .sum [(.var 21)] []) .floordiv [(.var 37)] []) (.bin .FloorDiv (.var 2) (.var 37)))))] []),
 (.ret (.bin .Add (.meth (.glob 220) .sum [(.var 35)] []) (.meth (.glob 220) .floordiv [(.meth (.glob 220) .sum [(.var 21)] []),(.var 2)] [])))]⟩
noncomputable def f625:Fn:=⟨[1,2],[],[
 (.ite (.cmp .Eq (.var 1) (.var 2)) [(.ret (.call (.glob 331) [(.int 0)] []))] []),
 (.ite (.and2 (.call (.bi .isinstance) [(.var 2),(.glob 220)] []) (.cmp .Gt (.attr (.bin .Sub (.var 2) (.var 1)) .min) (.int 0))) [(.ret (.var 1))] []),
 (.asg 11 (.meth (.glob 220) .sum [(.comp (.ite (.call (.bi .isinstance) [(.var 5),(.tup [(.glob 331),(.glob 471)])] []) (.bin .Mod (.var 5) (.var 2)) (.var 5)) [5] (.attr (.var 1) .nodes) [])] [])),
 (.ret (.meth (.glob 220) .mod [(.var 11),(.var 2)] []))]⟩
noncomputable def f630:Fn:=⟨[1,47],[],[
 (.ret (.meth (.glob 220) .sum [(.comp (.meth (.var 5) .substitute [(.var 47)] []) [5] (.attr (.var 1) .nodes) [])] []))]⟩
noncomputable def f635:Fn:=⟨[1,3],[],[
 (.ret (.bin .Add (.bin .Add (.str ⟨⟨[40]⟩⟩) (.meth (.str ⟨⟨[43]⟩⟩) .join [(.call (.bi .sorted) [(.comp (.meth (.var 0) .render [(.var 3)] []) [0] (.attr (.var 1) .nodes) [])] [])] [])) (.str ⟨⟨[41]⟩⟩)))]⟩
noncomputable def f640:Fn:=⟨[1],[],[
 (.ret (.comp2 (.var 13) [0] (.attr (.var 1) .nodes) [13] (.ite (.call (.bi .isinstance) [(.var 0),(.glob 644)] []) (.attr (.var 0) .flat) (.list [(.var 0)]))))]⟩
noncomputable def f654:Fn:=⟨[41,3],[.none],[
 (.ret (.ite (.call (.bi .isinstance) [(.var 41),(.bi .int)] []) (.call (.bi .str) [(.var 41)] []) (.meth (.var 41) .render [(.var 3)] [])))]⟩
noncomputable def f659:Fn:=⟨[41,47],[],[
 (.ite (.call (.bi .isinstance) [(.var 41),(.bi .int)] []) [(.ret (.var 41))] []),
 (.asg 9 (.ite (.cmp .IsNot (.var 47) .none) (.meth (.var 41) .substitute [(.dcomp (.var 6) (.call (.glob 331) [(.var 17)] []) [6,17] (.meth (.var 47) .items [] []))] []) (.var 41))),
 (.asrt (.call (.bi .isinstance) [(.var 9),(.glob 331)] [])),
 (.ret (.attr (.var 9) .b))]⟩
noncomputable def f666:Fn:=⟨[],[],[
 (.ret (.list [(.str ⟨⟨[118]⟩⟩),(.str ⟨⟨[119]⟩⟩),(.str ⟨⟨[120]⟩⟩),(.str ⟨⟨[121]⟩⟩),(.str ⟨⟨[122]⟩⟩)]))]⟩
noncomputable def f673:Fn:=⟨[8,6],[],[
 (.ite (.cmp .Lt (.var 6) (.call (.bi .len) [(.var 8)] [])) [(.ret (.item (.var 8) (.var 6)))] []),
 (.ite (.not (.var 8)) [(.ret (.bin .Add (.bin .Mult (.int 7) (.var 6)) (.int 3)))] []),
 (.ret (.bin .Add (.item (.var 8) (.bin .Mod (.var 6) (.call (.bi .len) [(.var 8)] []))) (.bin .Mult (.int 7) (.var 6))))]⟩
noncomputable def XC:Fn:=⟨[48],[],[
 (.ret (.ite (.cmp .Lt (.call (.bi .abs) [(.var 48)] []) (.int 1000000000000000000)) (.var 48) (.bin .Mod (.var 48) (.int 1000000000000000003))))]⟩
noncomputable def LP:Fn:=⟨[8],[],[
 (.asg 8 (.upto (.var 8) (.int 31))),
 (.asg 50 (.bin .Add (.int 2) (.bin .Mod (.call (.glob 673) [(.var 8),(.int 0)] []) (.int 4)))),
 (.asg 23 (.list [])),
 (.asg 22 (.list [])),
 (.asg 20 (.list [])),
 (.asg 15 .dict0),
 (.forR [6] [(.var 50)] [(.asg 31 (.call (.bi .abs) [(.call (.glob 680) [(.call (.glob 673) [(.var 8),(.bin .Add (.bin .Mult (.int 6) (.var 6)) (.int 1))] [])] [])] [])),(.asg 19 (.call (.bi .abs) [(.call (.glob 680) [(.call (.glob 673) [(.var 8),(.bin .Add (.bin .Mult (.int 6) (.var 6)) (.int 2))] [])] [])] [])),(.asg 16 (.bin .Add (.var 31) (.bin .Mod (.call (.glob 673) [(.var 8),(.bin .Add (.bin .Mult (.int 6) (.var 6)) (.int 3))] []) (.bin .Add (.var 19) (.int 1))))),(.asg 48 (.call (.glob 673) [(.var 8),(.bin .Add (.bin .Mult (.int 6) (.var 6)) (.int 4))] [])),(.asg 38 (.bin .Add (.int 1) (.call (.bi .abs) [(.bin .Add (.call (.glob 680) [(.bin .FloorDiv (.var 48) (.int 5))] []) (.int 1))] []))),(.asg 30 (.call (.glob 680) [(.call (.glob 673) [(.var 8),(.bin .Add (.bin .Mult (.int 6) (.var 6)) (.int 5))] [])] [])),(.ite (.cmp .Gt (.var 6) (.int 0)) [(.asg 30 (.call (.bi .abs) [(.var 30)] []))] []),(.asg 24 (.call (.glob 340) [(.item (.call (.glob 666) [] []) (.var 6)),(.var 31),(.bin .Add (.var 31) (.var 19))] [])),(.ite (.cmp .Gt (.var 19) (.int 0)) [(.put 15 (.attr (.var 24) .key) (.var 16))] []),(.ite (.cmp .Eq (.bin .Mod (.var 48) (.int 5)) (.int 1)) [(.asg 24 (.bin .FloorDiv (.var 24) (.var 38))),(.asg 16 (.bin .FloorDiv (.var 16) (.var 38)))] [(.ite (.cmp .Eq (.bin .Mod (.var 48) (.int 5)) (.int 2)) [(.asg 24 (.bin .Mod (.var 24) (.var 38))),(.asg 16 (.bin .Mod (.var 16) (.var 38)))] [(.ite (.cmp .Eq (.bin .Mod (.var 48) (.int 5)) (.int 3)) [(.asg 24 (.bin .Add (.bin .Mult (.var 24) (.var 38)) (.var 30))),(.asg 16 (.bin .Add (.bin .Mult (.var 16) (.var 38)) (.var 30)))] [(.ite (.and2 (.cmp .Eq (.bin .Mod (.var 48) (.int 5)) (.int 4)) (.cmp .Eq (.var 6) (.int 0))) [(.asg 24 (.bin .Add (.bin .Mult (.var 24) (.neg (.var 38))) (.var 30))),(.asg 16 (.bin .Sub (.var 30) (.bin .Mult (.var 16) (.var 38))))] [(.ite (.cmp .Eq (.bin .Mod (.var 48) (.int 5)) (.int 4)) [(.asg 24 (.bin .Add (.var 24) (.var 30))),(.asg 16 (.bin .Add (.var 16) (.var 30)))] [])])])])]),(.expr (.meth (.var 23) .append [(.var 24)] [])),(.expr (.meth (.var 22) .append [(.var 16)] [])),(.expr (.meth (.var 20) .append [(.ite (.cmp .Eq (.var 6) (.int 0)) (.int 1) (.bin .Add (.bin .Add (.attr (.var 24) .max) (.int 1)) (.call (.bi .abs) [(.call (.glob 680) [(.call (.glob 673) [(.var 8),(.bin .Add (.bin .Mult (.int 6) (.var 6)) (.int 6))] [])] [])] [])))] []))]),
 (.asg 14 (.item (.var 23) (.int 0))),
 (.asg 36 (.item (.var 22) (.int 0))),
 (.asg 32 (.attr (.item (.var 23) (.int 0)) .min)),
 (.asg 29 (.attr (.item (.var 23) (.int 0)) .max)),
 (.asg 33 (.list [(.var 14)])),
 (.forR [6] [(.int 1),(.var 50)] [(.asg 14 (.bin .Add (.bin .Mult (.var 14) (.item (.var 20) (.var 6))) (.item (.var 23) (.var 6)))),(.asg 36 (.bin .Add (.bin .Mult (.var 36) (.item (.var 20) (.var 6))) (.item (.var 22) (.var 6)))),(.asg 32 (.bin .Add (.bin .Mult (.var 32) (.item (.var 20) (.var 6))) (.attr (.item (.var 23) (.var 6)) .min))),(.asg 29 (.bin .Add (.bin .Mult (.var 29) (.item (.var 20) (.var 6))) (.attr (.item (.var 23) (.var 6)) .max))),(.expr (.meth (.var 33) .append [(.var 14)] []))]),
 (.ite (.bop false [(.cmp .NotEq (.attr (.var 14) .min) (.var 32)),(.cmp .NotEq (.attr (.var 14) .max) (.var 29)),(.cmp .NotEq (.call (.glob 659) [(.var 14),(.var 15)] []) (.var 36))]) [(.ret (.bool false))] []),
 (.asg 18 (.int 1)),
 (.forR [39] [(.bin .Sub (.var 50) (.int 1))] [(.asg 6 (.bin .Sub (.bin .Sub (.var 50) (.int 1)) (.var 39))),(.asg 34 (.bin .FloorDiv (.var 14) (.var 18))),(.ite (.bop false [(.not (.cmp .Eq (.var 34) (.item (.var 33) (.var 6)))),(.not (.cmp .Eq (.bin .Mod (.var 34) (.item (.var 20) (.var 6))) (.item (.var 23) (.var 6))))]) [(.ret (.bool false))] []),(.ite (.cmp .NotEq (.call (.glob 659) [(.item (.var 23) (.var 6)),(.var 15)] []) (.item (.var 22) (.var 6))) [(.ret (.bool false))] []),(.asg 18 (.bin .Mult (.var 18) (.item (.var 20) (.var 6))))]),
 (.ret (.and2 (.cmp .Eq (.bin .FloorDiv (.var 14) (.var 18)) (.item (.var 33) (.int 0))) (.cmp .Eq (.call (.glob 659) [(.item (.var 33) (.int 0)),(.var 15)] []) (.item (.var 22) (.int 0)))))]⟩
def QA:List (Nat×Fn):=[(35,f35),(50,f50),(86,f86),(100,f100),(114,f114),(156,f156),(185,xQ),(199,f199),(204,q7),(267,f267),(274,f274),(307,f307),(314,f314),(321,f321),(328,f328),(340,f340),(347,f347),(432,f432),(440,f440),(447,f447),(461,f461),(468,f468),(488,f488),(502,f502),(509,f509),(528,f528),(536,f536),(550,f550),(557,f557),(612,f612),(620,Eu),(625,f625),(630,f630),(635,f635),(640,f640),(654,f654),(659,f659),(666,f666),(673,f673),(680,XC),(687,LP)]
def fi:Addr->Option Fn:=λa=>dZ a QA
end
set_option tactic.hygienic false
theorem bH{α β:Type}{o:Option α}{f:α->Option β}{y:β}{P:Prop}(h:o.bind f=some y)(k:∀x,o=some x->f x=some y->P):P:=by
 refine i8 (Option.bind_eq_some_iff.mp h) λx a b=>?_;exact k x a b
theorem eV{α β:Type}{o:Option α}{f:α->β}{y:β}{P:Prop}(h:o.map f=some y)(k:∀x,o=some x->f x=y->P):P:=by
 refine i8 (Option.map_eq_some_iff.mp h) λx a b=>?_;exact k x a b
theorem dJ{α:Type}{c:Bool}{a:Option α}{y:α}{P:Prop}(h:(bif c then a else none)=some y)(k:c=true->a=some y->P):P:=by
 induction c using Bool.casesOn with
 |true=>exact k rfl h
 |false=>exact aY h
theorem vA{α:Type}{c:Bool}{a:Option α}{y:α}{P:Prop}(h:(bif !c then none else a)=some y)(k:c=true->a=some y->P):P:=by
 induction c using Bool.casesOn with
 |true=>exact k rfl h
 |false=>exact aY h
inductive G where
 |raw (o:Obj)
 |node (t:T) (dx:Addr)
 |lst (l:List V)
 |dct (d:List (Str×V)) (o:Obj)
 |dit (d:List (Str×V))
 |tup (l:List V)
 |dead
noncomputable abbrev Gh:=Addr->Option G
noncomputable def G.isRaw:G->Bool
 |.raw _=>true
 |.dead=>true
 |_=>false
noncomputable def G.isLst:G->Bool
 |.lst _=>true
 |_=>false
inductive AllR{α β:Type}(R:α->β->Prop):List α->List β->Prop
 |nil:AllR R [] []
 |cons {a:α} {b:β} {l:List α} {m:List β}:R a b->AllR R l m->AllR R (a::l) (b::m)
@[elab_as_elim] theorem AllR.nI {α β:Type} {R:α->β->Prop} {m:List β} {P:List β->Prop} (h:AllR R [] m) (k:P []):P m:=by cases h;exact k
@[elab_as_elim] theorem AllR.cI {α β:Type} {R:α->β->Prop} {a:α} {l:List α} {m:List β} {P:List β->Prop} (h:AllR R (a::l) m) (k:∀b r,R a b->AllR R l r->P (b::r)):P m:=by
 cases h with
 |cons x y=>exact k _ _ x y
@[elab_as_elim] theorem AllR.I1 {α β:Type} {R:α->β->Prop} {a:α} {m:List β} {P:List β->Prop} (h:AllR R [a] m) (k:∀u,R a u->P [u]):P m:=h.cI λu r x y=>y.nI (P:=λr=>P (u::r)) (k u x)
@[elab_as_elim] theorem AllR.I2 {α β:Type} {R:α->β->Prop} {a b:α} {m:List β} {P:List β->Prop} (h:AllR R [a,b] m) (k:∀u v,R a u->R b v->P [u,v]):P m:=h.cI λu r x y=>y.I1 (P:=λr=>P (u::r)) λv z=>k u v x z
@[elab_as_elim] theorem AllR.I3 {α β:Type} {R:α->β->Prop} {a b c:α} {m:List β} {P:List β->Prop} (h:AllR R [a,b,c] m) (k:∀u v w,R a u->R b v->R c w->P [u,v,w]):P m:=h.cI λu r x y=>y.I2 (P:=λr=>P (u::r)) λv w z z'=>k u v w x z z'
theorem AllR.mono{α β:Type}{R S:α->β->Prop}(h:∀a b,R a b->S a b){l:List α}{m:List β}(x:AllR R l m):AllR S l m:=by
 induction x with
 |nil=>exact .nil
 |cons r _ ih=>exact .cons (h _ _ r) ih
theorem AllR.length{α β:Type}{R:α->β->Prop}{l:List α}{m:List β}(x:AllR R l m):l.length=m.length:=by
 induction x with
 |nil=>rfl
 |cons _ _ ih=>simp[ih]
theorem AllR.append{α β:Type}{R:α->β->Prop}{l l':List α}{m m':List β}(x:AllR R l m)(y:AllR R l' m'):AllR R (l++l') (m++m'):=by
 induction x with
 |nil=>exact y
 |cons r _ ih=>exact .cons r ih
theorem AllR.get{α β:Type}{R:α->β->Prop}{l:List α}{m:List β}(x:AllR R l m){i:Nat}{a:α}(e:l[i]?=some a):∃b,m[i]?=some b/\R a b:=by
 induction x generalizing i with
 |nil=>simp at e
 |cons r _ ih=>
  induction i using Nat.casesOn with
  |zero=>simp at e;clear ih;subst e;exact⟨_,rfl,r⟩
  |succ i=>simpa using ih (by simpa using e)
theorem AllR.get'{α β:Type}{R:α->β->Prop}{l:List α}{m:List β}(x:AllR R l m){i:Nat}{b:β}(e:m[i]?=some b):∃a,l[i]?=some a/\R a b:=by
 induction x generalizing i with
 |nil=>simp at e
 |cons r _ ih=>
  induction i using Nat.casesOn with
  |zero=>simp at e;clear ih;subst e;exact⟨_,rfl,r⟩
  |succ i=>simpa using ih (by simpa using e)
theorem AllR.take{α β:Type}{R:α->β->Prop}{l:List α}{m:List β}(x:AllR R l m):∀n,AllR R (l.take n) (m.take n):=by
 induction x with
 |nil=>intro n;simp;exact .nil
 |cons r _ ih=>
  intro n;induction n using Nat.casesOn with
  |zero=>exact .nil
  |succ n=>exact .cons r (ih n)
def isGlob(a:Addr):Bool:=AE.any λp=>Nat.beq a p.2
noncomputable def yZ:Bi->Value
 |.isinstance=>.builtin "isinstance"
 |.abs=>.builtin "abs"
 |.sum=>.builtin "sum"
 |.sorted=>.builtin "sorted"
 |.str=>.type "str"
 |.len=>.builtin "len"
 |.int=>.type "int"
inductive VR(γ:Gh)(ad:List Addr):V->Value->Prop
 |none:VR γ ad .none .none
 |bool (b:Bool):VR γ ad (.bool b) (.bool b)
 |int (i:Int) (t:Tok):VR γ ad (.int i) (.int i t)
 |str (s:Str) (t:Tok):VR γ ad (.str s) (.str s t)
 |node {t:T} {a dx:Addr}:γ a=some (.node t dx)->VR γ ad (.node t) (.ref a)
 |lst {l:List V} {a:Addr}:γ a=some (.lst l)->VR γ ad (.lst l) (.ref a)
 |dct {d:List (Str×V)} {a:Addr} {o:Obj}:γ a=some (.dct d o)->VR γ ad (.dct d) (.ref a)
 |dit {d:List (Str×V)} {a:Addr}:γ a=some (.dit d)->VR γ ad (.dit d) (.ref a)
 |tup {l:List V} {a:Addr}:γ a=some (.tup l)->VR γ ad (.tup l) (.ref a)
 |own {i:Nat} {a:Addr}:ad[i]?=some a->VR γ ad (.own i) (.ref a)
 |glob {a:Addr}:isGlob a=true->VR γ ad (.glob a) (.ref a)
 |bi (n:Bi):VR γ ad (.bi n) (yZ n)
def VRd(γ:Gh)(ad:List Addr)(v:V)(u:Value):Prop:=match v with
 |.none=>u=.none
 |.bool b=>u=.bool b
 |.int i=>∃t,u=.int i t
 |.str s=>∃t,u=.str s t
 |.node t=>∃a dx,u=.ref a/\γ a=some (.node t dx)
 |.lst l=>∃a,u=.ref a/\γ a=some (.lst l)
 |.dct d=>∃a o,u=.ref a/\γ a=some (.dct d o)
 |.dit d=>∃a,u=.ref a/\γ a=some (.dit d)
 |.tup l=>∃a,u=.ref a/\γ a=some (.tup l)
 |.own i=>∃a,u=.ref a/\ad[i]?=some a
 |.glob a=>u=.ref a/\isGlob a=true
 |.bi n=>u=yZ n
theorem VR.inv{γ:Gh}{ad:List Addr}{v:V}{u:Value}(h:VR γ ad v u):VRd γ ad v u:=by
 cases h with
 |none=>exact rfl
 |bool b=>exact rfl
 |int i t=>exact⟨t,rfl⟩
 |str i t=>exact⟨t,rfl⟩
 |node e=>exact⟨_,_,rfl,e⟩
 |lst e=>exact⟨_,rfl,e⟩
 |dct e=>exact⟨_,_,rfl,e⟩
 |dit e=>exact⟨_,rfl,e⟩
 |tup e=>exact⟨_,rfl,e⟩
 |own e=>exact⟨_,rfl,e⟩
 |glob e=>exact⟨rfl,e⟩
 |bi n=>exact rfl
def As(γ bP:Gh):Prop:=∀a g,γ a=some g->g.isRaw=false->bP a=some g
theorem As.refl(γ:Gh):As γ γ:=λ_ _ e _=>e
theorem As.trans{γ bP γ'':Gh}(x:As γ bP)(y:As bP γ''):As γ γ'':=λa g e r=>y a g (x a g e r) r
theorem VR.mono{γ bP:Gh}{ad dU:List Addr}(x:As γ bP)(y:∀(i:Nat) (a:Addr),ad[i]?=some a->dU[i]?=some a){v:V}{w:Value}(h:VR γ ad v w):VR bP dU v w:=by
 cases h with
 |none=>exact .none
 |bool b=>exact .bool b
 |int i t=>exact .int i t
 |str s t=>exact .str s t
 |node e=>exact .node (x _ _ e rfl)
 |lst e=>exact .lst (x _ _ e rfl)
 |dct e=>exact .dct (x _ _ e rfl)
 |dit e=>exact .dit (x _ _ e rfl)
 |tup e=>exact .tup (x _ _ e rfl)
 |own e=>exact .own (y _ _ e)
 |glob e=>exact .glob e
 |bi n=>exact .bi n
def dG:Str:=sT [95,107,101,121]
def FR(γ:Gh)(p:Str×V)(e:DictEntry):Prop:=(∃k,e.key=.str p.1 k)/\VR γ [] p.2 e.val
def DR(w:World)(γ:Gh)(p:Str×V)(e:DictEntry):Prop:=(∃k,e.key=.str p.1 k)/\e.hash=hashStr w p.1/\VR γ [] p.2 e.val
def uJ(w:World)(γ:Gh)(o:Obj):V->Prop
 |.lst l=>o.cls=.type "list"/\∃vs n,o.data=.seq vs n/\AllR (VR γ []) l vs.toList
 |.dct d=>o.ExactDict/\∃es n,o.data=.dict es n/\AllR (DR w γ) d es.toList/\(d.map (·.1)).Nodup
 |_=>False
def vB(w:World)(γ:Gh)(h:Heap)(a:Addr):G->Prop
 |.raw o=>h.get? a=some o
 |.node t dx=>h.get? a=some (instObj t.cls dx)/\∃es n,h.get? dx=some (dictOf es n)/\(AllR (FR γ) (mR t) es\/AllR (FR γ) (mR t++[(dG,.str t.rend)]) es)
 |.lst l=>∃o,h.get? a=some o/\uJ w γ o (.lst l)
 |.dct d o=>h.get? a=some o/\uJ w γ o (.dct d)
 |.dit d=>∃b o,h.IsItemsView a b/\γ b=some (.dct d o)
 |.tup l=>∃o,h.get? a=some o/\o.cls=.type "tuple"/\∃vs n,o.data=.seq vs n/\AllR (VR γ []) l vs.toList
 |.dead=>True
theorem FR.mono{γ bP:Gh}(x:As γ bP){p:Str×V}{e:DictEntry}(h:FR γ p e):FR bP p e:=⟨h.1,h.2.mono x λ_ _ e=>e⟩
theorem DR.mono{w:World}{γ bP:Gh}(x:As γ bP){p:Str×V}{e:DictEntry}(h:DR w γ p e):DR w bP p e:=⟨h.1,h.2.1,h.2.2.mono x λ_ _ e=>e⟩
theorem uJ.mono{w:World}{γ bP:Gh}(x:As γ bP){o:Obj}{v:V}(h:uJ w γ o v):uJ w bP o v:=by
 induction v using V.casesOn with
 |lst l=>refine yE (h) λa vs n b c=>?_;exact⟨a,vs,n,b,c.mono λ_ _ r=>r.mono x λ_ _ e=>e⟩
 |dct d=>refine JA (h) λa es n b c e=>?_;exact⟨a,es,n,b,c.mono λ_ _ r=>r.mono x,e⟩
 |_=>exact h.elim
structure GOk(w:World)(kL:Nat)(γ:Gh)(h:Heap):Prop where
 at_:∀a g,γ a=some g->vB w γ h a g
 lo:∀a g,γ a=some g->g.isLst=false->kL<=a
 dlo:∀a t dx,γ a=some (.node t dx)->kL<=dx/\γ dx=none
 inj:∀a a' t t' dx,γ a=some (.node t dx)->γ a'=some (.node t' dx)->a=a'
noncomputable def iZ(γ:Gh)(a:Addr)(g:Option G):Gh:=λx=>if x=a then g else γ x
theorem bK(γ:Gh)(a:Addr)(g:Option G):iZ γ a g a=g:=if_pos rfl
theorem cN{γ:Gh}{a b:Addr}{g:Option G}(h:b≠a):iZ γ a g b=γ b:=if_neg h
theorem vB.lt{w:World}{γ:Gh}{h:Heap}{a:Addr}{g:G}(x:vB w γ h a g)(hd:g≠.dead):a<h.objs.size:=by
 induction g using G.casesOn with
 |raw o=>exact Heap.lt_size x
 |node t dx=>exact Heap.lt_size x.1
 |lst l=>refine i8 (x) λo e _=>?_;exact Heap.lt_size e
 |dct d o=>exact Heap.lt_size x.1
 |dit d=>obtain⟨b,od,⟨o,e,_⟩,_⟩:=x;exact Heap.lt_size e
 |tup l=>refine i8 (x) λo e _=>?_;exact Heap.lt_size e
 |dead=>exact absurd rfl hd
theorem GOk.lt{w:World}{kL:Nat}{γ:Gh}{h:Heap}(ok:GOk w kL γ h){a:Addr}{g:G}(e:γ a=some g)(hd:g≠.dead):a<h.objs.size:=(ok.at_ a g e).lt hd
theorem GOk.dlt{w:World}{kL:Nat}{γ:Gh}{h:Heap}(ok:GOk w kL γ h){a dx:Addr}{t:T}(e:γ a=some (.node t dx)):dx<h.objs.size:=by
 refine yE (ok.at_ _ _ e) λ_ es n q _=>?_;exact Heap.lt_size q
theorem vB.move{w:World}{γ bP:Gh}{h h':Heap}{a:Addr}{g:G}(x:vB w γ h a g)(E:As γ bP)(k:∀o,h.get? a=some o->h'.get? a=some o)
  (kd:∀t dx,g=.node t dx->∀o,h.get? dx=some o->h'.get? dx=some o):vB w bP h' a g:=by
 induction g using G.casesOn with
 |raw o=>exact k _ x
 |node t dx=>
  refine yE (x) λe es n q r=>?_;exact⟨k _ e,es,n,kd t dx rfl _ q,r.imp (λr=>r.mono λ_ _ z=>z.mono E) λr=>r.mono λ_ _ z=>z.mono E⟩
 |lst l=>refine i8 (x) λo e r=>?_;exact⟨o,k _ e,r.mono E⟩
 |dct d o=>exact⟨k _ x.1,x.2.mono E⟩
 |dit d=>obtain⟨b,od,⟨o,e,r⟩,q⟩:=x;exact⟨b,od,⟨o,k _ e,r⟩,E _ _ q rfl⟩
 |tup l=>refine nG (x) λo e c vs n d r=>?_;exact⟨o,k _ e,c,vs,n,d,r.mono λ_ _ z=>z.mono E λ_ _ e=>e⟩
 |dead=>trivial
theorem GOk.keeps{w:World}{kL:Nat}{γ:Gh}{h h':Heap}(G:GOk w kL γ h)(k:∀b o,h.get? b=some o->h'.get? b=some o):GOk w kL γ h':=
 ⟨λa g e=>(G.at_ a g e).move (As.refl γ) (k a) (λ_ dx _=>k dx),G.lo,G.dlo,G.inj⟩
def dX(γ:Gh)(a:Addr):Prop:=∀g,γ a=some g->g=.dead
theorem dX.ne{γ:Gh}{a b:Addr}{g:G}(h:dX γ a)(e:γ b=some g)(hd:g≠.dead):b≠a:=λz=>by subst z;exact hd (h g e)
theorem GOk.free{w:World}{kL:Nat}{γ:Gh}{h:Heap}(ok:GOk w kL γ h){a:Addr}(ha:h.objs.size<=a):dX γ a:=λg q=>by
 induction g using G.casesOn<;>first|rfl|exact absurd (ok.lt q (by intro e;cases e)) (Nat.not_lt_of_le ha)
theorem iQ{γ:Gh}{a:Addr}{g:Option G}(e:∀g',γ a=some g'->g'.isRaw=true):As γ (iZ γ a g):=λb g' q r=>by
 by_cases hb:b=a
 ·subst hb;rw[e g' q]at r;exact jA r
 ·rw[cN hb];exact q
theorem GOk.alloc{w:World}{kL:Nat}{γ:Gh}{h:Heap}(G:GOk w kL γ h)(hb:kL<=h.objs.size)(o:Obj)(hf:o.isFreed=false):GOk w kL (iZ γ h.objs.size (some (.raw o))) (h.push o):=by
 have free:dX γ h.objs.size:=G.free (cA _);have E:As γ (iZ γ h.objs.size (some (.raw o))):=iQ λg' q=>by rw[free _ q];rfl
 refine⟨λa g e=>?_,λa g e hg=>?_,λa t dx e=>?_,λa a' t t' dx e e'=>?_⟩
 ·by_cases ha:a=h.objs.size
  ·subst ha;rw[bK]at e;refine e9 e ?_;exact Heap.get?_push_size h hf
  ·rw[cN ha]at e;exact(G.at_ a g e).move E (λ_=>Heap.get?_push_of_some o) λ_ _ _ _=>Heap.get?_push_of_some o
 ·by_cases ha:a=h.objs.size
  ·clear e;subst ha;exact hb
  ·rw[cN ha]at e;exact G.lo a g e hg
 ·by_cases ha:a=h.objs.size
  ·subst ha;rw[bK]at e;cases e
  ·rw[cN ha]at e;have:=G.dlt e;exact⟨(G.dlo a t dx e).1,by rw[cN (eU this)];exact(G.dlo a t dx e).2⟩
 ·by_cases ha:a=h.objs.size
  ·subst ha;rw[bK]at e;cases e
  ·by_cases ha':a'=h.objs.size
   ·subst ha';rw[bK]at e';cases e'
   ·rw[cN ha]at e;clear ha;rw[cN ha']at e';exact G.inj a a' t t' dx e e'
theorem GOk.set{w:World}{kL:Nat}{γ:Gh}{h h':Heap}{a:Addr}{o o':Obj}(G:GOk w kL γ h)(e:γ a=some (.raw o))(hs:Heap.SameBut a h h')(ho:h'.get? a=some o'):GOk w kL (iZ γ a (some (.raw o'))) h':=by
 have E:As γ (iZ γ a (some (.raw o'))):=iQ λg' q=>by rw[e]at q;refine e9 q ?_;rfl
 refine⟨λb g q=>?_,λb g q hg=>?_,λb t dx q=>?_,λb b' t t' dx q q'=>?_⟩
 ·by_cases hb:b=a
  ·clear E hs e;subst hb;rw[bK]at q;refine e9 q ?_;exact ho
  ·rw[cN hb]at q;refine(G.at_ b g q).move E (λo z=>(hs.2 b hb).trans z) λt dx hg o z=>?_;subst hg;have:dx≠a:=λz=>by have:=(G.dlo _ _ _ q).2;rw[z,e]at this;cases this
   exact(hs.2 dx this).trans z
 ·by_cases hb:b=a
  ·clear q E ho hs;subst hb;exact G.lo _ _ e rfl
  ·rw[cN hb]at q;exact G.lo b g q hg
 ·by_cases hb:b=a
  ·clear E ho hs e;subst hb;rw[bK]at q;cases q
  ·rw[cN hb]at q;have:=(G.dlo _ _ _ q);refine⟨this.1,?_⟩;rw[cN (λz=>by have:=this.2;rw[z,e]at this;cases this)];exact this.2
 ·by_cases hb:b=a
  ·subst hb;rw[bK]at q;cases q
  ·by_cases hb':b'=a
   ·subst hb';rw[bK]at q';cases q'
   ·rw[cN hb]at q;clear hb;rw[cN hb']at q';exact G.inj b b' t t' dx q q'
theorem GOk.kill{w:World}{kL:Nat}{γ:Gh}{h h':Heap}{a:Addr}{o:Obj}(G:GOk w kL γ h)(e:γ a=some (.raw o))(k:∀b ob,b≠a->h.get? b=some ob->h'.get? b=some ob):GOk w kL (iZ γ a (some .dead)) h':=by
 have E:As γ (iZ γ a (some .dead)):=iQ λg' q=>by rw[e]at q;refine e9 q ?_;rfl
 have back:∀{b g},iZ γ a (some .dead) b=some g->(b=a/\g=.dead)\/(b≠a/\γ b=some g):=λ{b g} q=>by
  by_cases hb:b=a
  ·clear E k e;subst hb;rw[bK]at q;refine e9 q ?_;exact .inl ⟨rfl,rfl⟩
  ·rw[cN hb]at q;exact .inr ⟨hb,q⟩
 refine⟨λb g q=>?_,λb g q hg=>?_,λb t dx q=>?_,λb b' t t' dx q q'=>?_⟩
 ·rcases back q with⟨rfl,rfl⟩|⟨hb,q⟩
  ·trivial
  ·refine(G.at_ b g q).move E (λo=>k b o hb) λt dx hg o z=>?_;subst hg;exact k dx o (λz=>by have:=(G.dlo _ _ _ q).2;rw[z,e]at this;cases this) z
 ·clear E k;rcases back q with⟨rfl,rfl⟩|⟨hb,q⟩
  ·exact G.lo _ _ e rfl
  ·exact G.lo b g q hg
 ·rcases back q with⟨_,h⟩|⟨hb,q⟩
  ·cases h
  ·have:=G.dlo _ _ _ q;exact⟨this.1,by rw[cN (λz=>by have:=this.2;rw[z,e]at this;cases this)];exact this.2⟩
 ·rcases back q with⟨_,h⟩|⟨hb,q⟩
  ·cases h
  ·rcases back q' with⟨_,h⟩|⟨hb',q'⟩
   ·cases h
   ·exact G.inj b b' t t' dx q q'
theorem GOk.tell{w:World}{kL:Nat}{γ:Gh}{h:Heap}{a:Addr}{o:Obj}{g:G}(G:GOk w kL γ h)(e:γ a=some (.raw o))(hg:∀t dx,g≠.node t dx)(x:vB w γ h a g):GOk w kL (iZ γ a (some g)) h:=by
 have E:As γ (iZ γ a (some g)):=iQ λg' q=>by rw[e]at q;refine e9 q ?_;rfl
 refine⟨λb g' q=>?_,λb g' q hg'=>?_,λb t dx q=>?_,λb b' t t' dx q q'=>?_⟩
 ·by_cases hb:b=a
  ·clear e;subst hb;rw[bK]at q;refine e9 q ?_;exact x.move E (λ_ z=>z) λ_ _ _ _ z=>z
  ·rw[cN hb]at q;exact(G.at_ b g' q).move E (λ_ z=>z) λ_ _ _ _ z=>z
 ·by_cases hb:b=a
  ·clear q E x;subst hb;exact G.lo _ _ e rfl
  ·rw[cN hb]at q;exact G.lo b g' q hg'
 ·by_cases hb:b=a
  ·clear e;subst hb;rw[bK]at q;clear E x;obtain rfl:=aC q;exact absurd rfl (hg _ _)
  ·rw[cN hb]at q;have:=(G.dlo _ _ _ q);refine⟨this.1,?_⟩;rw[cN (λz=>by have:=this.2;rw[z,e]at this;cases this)];exact this.2
 ·by_cases hb:b=a
  ·clear e;subst hb;rw[bK]at q;clear q' E x;obtain rfl:=aC q;exact absurd rfl (hg _ _)
  ·by_cases hb':b'=a
   ·subst hb';rw[bK]at q';obtain rfl:=aC q';exact absurd rfl (hg _ _)
   ·rw[cN hb]at q;clear hb;rw[cN hb']at q';exact G.inj b b' t t' dx q q'
theorem GOk.node{w:World}{kL:Nat}{γ:Gh}{h:Heap}{x dx:Addr}{t:T}{es:List DictEntry}{n:Nat}(G:GOk w kL γ h)(e:γ x=some (.raw (instObj t.cls dx)))(d:γ dx=some (.raw (dictOf es n)))
  (r:AllR (FR γ) (mR t) es):GOk w kL (iZ (iZ γ dx none) x (some (.node t dx))) h:=by
 have f5:x≠dx:=λz=>by clear r;rw[z,d]at e;cases e
 have hx:h.get? x=some (instObj t.cls dx):=G.at_ _ _ e;have hd:h.get? dx=some (dictOf es n):=G.at_ _ _ d;have E:As γ (iZ (iZ γ dx none) x (some (.node t dx))):=λb g q rr=>by
  by_cases hb:b=x
  ·subst hb;rw[e]at q;obtain rfl:=aC q;exact jA rr
  ·by_cases fX:b=dx
   ·subst fX;rw[d]at q;obtain rfl:=aC q;exact jA rr
   ·rw[cN hb,cN fX];exact q
 have back:∀{b g},iZ (iZ γ dx none) x (some (.node t dx)) b=some g->(b=x/\g=.node t dx)\/(b≠x/\b≠dx/\γ b=some g):=λ{b g} q=>by
  by_cases hb:b=x
  ·clear E hx f5 e;subst hb;rw[bK]at q;refine e9 q ?_;exact .inl ⟨rfl,rfl⟩
  ·rw[cN hb]at q;by_cases fX:b=dx
   ·clear E hd hx f5 d e;subst fX;rw[bK]at q;exact aY q
   ·rw[cN fX]at q;exact .inr ⟨hb,fX,q⟩
 have free:∀b t' dx',γ b=some (.node t' dx')->dx'≠dx/\dx'≠x:=λb t' dx' q=>by
  have:=(G.dlo _ _ _ q).2;refine⟨λz=>?_,λz=>?_⟩
  ·rw[z,d]at this;cases this
  ·rw[z,e]at this;cases this
 refine⟨λb g q=>?_,λb g q hg=>?_,λb t' dx' q=>?_,λb b' t' t'' dx' q q'=>?_⟩
 ·clear free f5 e;rcases back q with⟨rfl,rfl⟩|⟨h1,h2,q2⟩
  ·exact⟨hx,es,n,hd,.inl (r.mono λ_ _ z=>z.mono E)⟩
  ·exact(G.at_ b g q2).move E (λ_ z=>z) λ_ _ _ _ z=>z
 ·rcases back q with⟨h1,h2⟩|⟨h1,h2,q2⟩
  ·rw[h1];exact G.lo _ _ e rfl
  ·exact G.lo _ _ q2 hg
 ·clear E hx e;rcases back q with⟨rfl,h2⟩|⟨h1,h2,q2⟩
  ·clear q;cases h2;exact⟨G.lo _ _ d rfl,by rw[cN f5.symm,bK]⟩
  ·have:=free _ _ _ q2;exact⟨(G.dlo _ _ _ q2).1,by rw[cN this.2,cN this.1];exact(G.dlo _ _ _ q2).2⟩
 ·rcases back q with⟨h1,h2⟩|⟨h1,h2,q2⟩
  ·clear q;cases h2;rcases back q' with⟨h3,_⟩|⟨_,_,q3⟩
   ·rw[h1,h3]
   ·exact absurd rfl (free _ _ _ q3).1
  ·rcases back q' with⟨h3,h4⟩|⟨_,_,q3⟩
   ·clear q' q;cases h4;exact absurd rfl (free _ _ _ q2).1
   ·exact G.inj _ _ _ _ _ q2 q3
theorem GOk.keyed{w:World}{kL:Nat}{γ:Gh}{h h':Heap}{x dx:Addr}{t:T}{es:List DictEntry}{n:Nat}(G:GOk w kL γ h)(e:γ x=some (.node t dx))(hs:Heap.SameBut dx h h')
  (ho:h'.get? dx=some (dictOf es n)) (r:AllR (FR γ) (mR t++[(dG,.str t.rend)]) es):GOk w kL γ h':=by
 have hd:=G.dlo _ _ _ e;refine⟨λb g q=>?_,G.lo,G.dlo,G.inj⟩;have hb:b≠dx:=λz=>by rw[z,hd.2]at q;exact aY q
 by_cases hbx:b=x
 ·subst hbx;rw[e]at q;refine e9 q ?_;obtain⟨a1,_⟩:=G.at_ _ _ e;exact⟨(hs.2 b hb).trans a1,es,n,ho,.inr r⟩
 ·refine(G.at_ b g q).move (As.refl γ) (λo z=>(hs.2 b hb).trans z) λt' dx' hg o z=>?_;subst hg;have:dx'≠dx:=λz=>by clear hb hd ho hs;subst z;exact hbx (G.inj _ _ _ _ _ q e)
  exact(hs.2 dx' this).trans z
def au:Lean.Syntax:=.node .none `Lean.Parser.Tactic.tacticSeq #[.node .none `Lean.Parser.Tactic.tacticSeq1Indented #[.node .none `null #[.node .none `Lean.Parser.Tactic.tacticRfl #[.atom .none "rfl"]]]]
def Dk(o:Obj)(m:Str->Option Value):Prop:=∃es ep,o.data=.dict es ep/\StrKeys es/\∀name,nsFind es name=m name
theorem Dk.ns{o:Obj}{m:Str->Option Value}{h:Heap}{a:Addr}(x:Dk o m)(e:h.get? a=some o):h.Ns a m:=let⟨es,ep,r⟩:=x;⟨o,es,ep,e,r⟩
theorem Dk.of{m:Str->Option Value}{h:Heap}{a:Addr}(x:h.Ns a m):∃o,h.get? a=some o/\Dk o m:=x.elim λo x=>x.elim λes x=>x.elim λep x=>⟨o,x.1,es,ep,x.2⟩
structure Base(w:World)(s₀:Shared):Prop where
 K:(Kf w.params).In s₀.heap
 top:∃p lo mg mb,TopRead p lo mg mb s₀.heap
structure St(w:World)(s₀:Shared)(γ:Gh)(s:Shared):Prop where
 keep:∀b o,s₀.heap.get? b=some o->s.heap.get? b=some o
 size:s₀.heap.objs.size<=s.heap.objs.size
 ok:GOk w s₀.heap.objs.size γ s.heap
 gens:s.gens=s₀.gens
 os:s.os=s₀.os
section
variable{w:World}{s₀ s s':Shared}{γ bP γ'':Gh}
theorem St.like(x:St w s₀ γ s)(hh:autoParam (s'.heap=s.heap) au)(hg:autoParam (s'.gens=s.gens) au)(ho:autoParam (s'.os=s.os) au):St w s₀ γ s':=
 ⟨by rw[hh];exact x.keep,by rw[hh];exact x.size,by rw[hh];exact x.ok,hg.trans x.gens,ho.trans x.os⟩
theorem St.free(x:St w s₀ γ s):dX γ s.heap.objs.size:=x.ok.free (cA _)
theorem St.kill{a b:Addr}{o ob:Obj}(x:St w s₀ γ s)(e:γ a=some (.raw o))(eb:γ b=some (.raw ob))(hb:b≠a)(k:∀b o,b≠a->s.heap.get? b=some o->s'.heap.get? b=some o)(hg:autoParam (s'.gens=s.gens) au)(ho:autoParam (s'.os=s.os) au):
  St w s₀ (iZ γ a (some .dead)) s':=
 ⟨λc oc q=>k c oc (λz=>by have:=x.ok.lo _ _ e rfl;rw[<-z]at this;exact absurd (aZ (Heap.lt_size q) this) (i7 _)) (x.keep c oc q),
  bD (aP (x.ok.lo _ _ eb rfl) (Heap.lt_size (k b ob hb (x.ok.at_ _ _ eb)))),x.ok.kill e k,hg.trans x.gens,ho.trans x.os⟩
theorem St.alloc(x:St w s₀ γ s)(o:Obj)(hf:o.isFreed=false)(hh:autoParam (s'.heap=s.heap.push o) au)(hg:autoParam (s'.gens=s.gens) au)(ho:autoParam (s'.os=s.os) au):
  St w s₀ (iZ γ s.heap.objs.size (some (.raw o))) s':=
 ⟨by rw[hh];exact λb o' e=>Heap.get?_push_of_some o (x.keep b o' e),by rw[hh,Heap.size_push];exact mL x.size,by rw[hh];exact x.ok.alloc x.size o hf,hg.trans x.gens,ho.trans x.os⟩
theorem St.grow(x:St w s₀ γ s)(k:∀b o,s.heap.get? b=some o->s'.heap.get? b=some o)(hz:s.heap.objs.size<=s'.heap.objs.size)(hg:autoParam (s'.gens=s.gens) au)(ho:autoParam (s'.os=s.os) au):St w s₀ γ s':=
 ⟨λb o e=>k b o (x.keep b o e),aR x.size hz,x.ok.keeps k,hg.trans x.gens,ho.trans x.os⟩
theorem St.grow'{b:Addr}{ob:Obj}(x:St w s₀ γ s)(eb:γ b=some (.raw ob))(k:∀b o,s.heap.get? b=some o->s'.heap.get? b=some o)(hg:autoParam (s'.gens=s.gens) au)(ho:autoParam (s'.os=s.os) au):St w s₀ γ s':=
 ⟨λb o e=>k b o (x.keep b o e),bD (aP (x.ok.lo _ _ eb rfl) (Heap.lt_size (k _ _ (x.ok.at_ _ _ eb)))),x.ok.keeps k,hg.trans x.gens,ho.trans x.os⟩
theorem St.set{a:Addr}{o o':Obj}(x:St w s₀ γ s)(e:γ a=some (.raw o))(hs:Heap.SameBut a s.heap s'.heap)(h':s'.heap.get? a=some o')(hg:autoParam (s'.gens=s.gens) au)(ho:autoParam (s'.os=s.os) au):
  St w s₀ (iZ γ a (some (.raw o'))) s':=
 ⟨λb ob q=>(hs.2 b (λz=>by have:=x.ok.lo _ _ e rfl;rw[<-z]at this;exact absurd (aZ (Heap.lt_size q) this) (i7 _))).trans (x.keep b ob q),
  by rw[hs.1];exact x.size,x.ok.set e hs h',hg.trans x.gens,ho.trans x.os⟩
theorem St.tell{a:Addr}{o:Obj}{g:G}(x:St w s₀ γ s)(e:γ a=some (.raw o))(hg:∀t dx,g≠.node t dx)(r:vB w γ s.heap a g):St w s₀ (iZ γ a (some g)) s:=
 ⟨x.keep,x.size,x.ok.tell e hg r,x.gens,x.os⟩
theorem St.raw{a:Addr}{o:Obj}(x:St w s₀ γ s)(e:γ a=some (.raw o)):s.heap.get? a=some o:=x.ok.at_ a _ e
end
structure Step(X:List Addr)(γ bP:Gh)(ad dU:List Addr):Prop where
 ext:As γ bP
 raw:∀a o,γ a=some (.raw o)->a∉ad->a∉X->bP a=some (.raw o)
 pre:∃more,dU=ad++more/\∀a∈more,dX γ a\/a∈X
 dom:∀a,dX bP a->dX γ a\/a∈X
theorem Step.refl{X:List Addr}(γ:Gh)(ad:List Addr):Step X γ γ ad ad:=⟨.refl γ,λ_ _ e _ _=>e,⟨[],by simp,by simp⟩,λ_ e=>.inl e⟩
theorem gL{γ:Gh}{a:Addr}{o:Obj}(e:γ a=some (.raw o)):¬dX γ a:=λz=>by have:=z _ e;cases this
theorem Step.trans{X:List Addr}{γ bP γ'':Gh}{ad dU ad'':List Addr}(x:Step X γ bP ad dU)(y:Step X bP γ'' dU ad''):Step X γ γ'' ad ad'':=by
 refine i8 (x.pre) λm e hm=>?_;refine i8 (y.pre) λm' e' hm'=>?_;refine⟨x.ext.trans y.ext,λa o q h1 h2=>y.raw a o (x.raw a o q h1 h2) (λz=>?_) h2,⟨m++m',by rw[e',e,dT],λa ha=>?_⟩,λa q=>?_⟩
 ·rw[e]at z;rcases b7.mp z with z|z
  ·exact h1 z
  ·exact(hm a z).elim (gL q) h2
 ·rcases b7.mp ha with z|z
  ·exact hm a z
  ·exact(hm' a z).elim (x.dom a) .inr
 ·exact(y.dom a q).elim (x.dom a) .inr
theorem Step.widen{X Y:List Addr}{γ bP:Gh}{ad dU:List Addr}(x:Step X γ bP ad dU)(h:∀a∈X,a∈Y):Step Y γ bP ad dU:=
 ⟨x.ext,λa o e h1 h2=>x.raw a o e h1 λz=>h2 (h a z),let⟨m,e,hm⟩:=x.pre;⟨m,e,λa ha=>(hm a ha).imp_right (h a)⟩,λa e=>(x.dom a e).imp_right (h a)⟩
theorem Step.narrow{X:List Addr}{γ bP:Gh}{ad dU:List Addr}(x:Step X γ bP ad dU)(h:∀a∈X,dX γ a):Step [] γ bP ad dU:=
 ⟨x.ext,λa o e h1 _=>x.raw a o e h1 λz=>gL e (h a z),let⟨m,e,hm⟩:=x.pre;⟨m,e,λa ha=>.inl ((hm a ha).elim id (h a))⟩,λa e=>.inl ((x.dom a e).elim id (h a))⟩
theorem Step.called{X:List Addr}{γ bP:Gh}(ad:List Addr)(x:Step [] γ bP [] []):Step X γ bP ad ad:=
 ⟨x.ext,λa o e _ _=>x.raw a o e (by simp) (by simp),⟨[],by simp,by simp⟩,λa e=>(x.dom a e).imp_right λz=>by cases z⟩
theorem Step.calledX{X:List Addr}{γ bP:Gh}(ad:List Addr)(x:Step X γ bP [] []):Step X γ bP ad ad:=
 ⟨x.ext,λa o e _ h=>x.raw a o e (by simp) h,⟨[],by simp,by simp⟩,x.dom⟩
theorem Step.ix{X:List Addr}{γ bP:Gh}{ad dU:List Addr}(x:Step X γ bP ad dU)(i:Nat)(a:Addr)(e:ad[i]?=some a):dU[i]?=some a:=by
 refine i8 (x.pre) λm q _=>?_;rw[q,List.getElem?_append_left (by exact(List.getElem?_eq_some_iff.mp e).1)];exact e
theorem VR.step{X:List Addr}{γ bP:Gh}{ad dU:List Addr}{v:V}{u:Value}(r:VR γ ad v u)(x:Step X γ bP ad dU):VR bP dU v u:=r.mono x.ext x.ix
theorem VRs.step{X:List Addr}{γ bP:Gh}{ad dU:List Addr}{v:List V}{u:List Value}(r:AllR (VR γ ad) v u)(x:Step X γ bP ad dU):AllR (VR bP dU) v u:=r.mono λ_ _ z=>z.step x
theorem d6{X:List Addr}{γ:Gh}{a:Addr}(g:G)(ad:List Addr)(h:dX γ a):Step X γ (iZ γ a (some g)) ad ad:=by
 refine⟨iQ λg' q=>by rw[h g' q];rfl,λb o e _ _=>(cN (h.ne e (by intro z;cases z))).trans e,⟨[],by simp,by simp⟩,λb e=>.inl λg' q=>?_⟩
 by_cases hb:b=a
 ·clear e;subst hb;exact h g' q
 ·exact e g' ((cN hb).trans q)
theorem gW{X:List Addr}{γ:Gh}{a:Addr}{o:Obj}(g:G)(ad:List Addr)(e:γ a=some (.raw o))(h:a∈ad\/a∈X)(hg:g≠.dead:=by intro z;cases z):Step X γ (iZ γ a (some g)) ad ad:=by
 refine⟨iQ λg' q=>by rw[e]at q;obtain rfl:=aC q;rfl,λb o' q h1 h2=>?_,⟨[],by simp,by simp⟩,λb q=>.inl λg' r=>?_⟩
 ·have:b≠a:=λz=>by clear e;subst z;exact h.elim h1 h2
  exact(cN this).trans q
 ·by_cases hb:b=a
  ·clear h e;subst hb;exact absurd (q g (bK ..)) hg
  ·exact q g' ((cN hb).trans r)
theorem tN{X:List Addr}{γ:Gh}{a:Addr}{o:Obj}(ad:List Addr)(e:γ a=some (.raw o))(h:a∈X):Step X γ (iZ γ a (some .dead)) ad ad:=by
 refine⟨iQ λg' q=>by rw[e]at q;obtain rfl:=aC q;rfl,λb o' q h1 h2=>?_,⟨[],by simp,by simp⟩,λb q=>?_⟩
 ·exact(cN λz=>by clear e;subst z;exact h2 h).trans q
 ·by_cases hb:b=a
  ·clear q e;subst hb;exact .inr h
  ·exact .inl λg' r=>q g' ((cN hb).trans r)
theorem wG{X:List Addr}{γ:Gh}{a:Addr}{g:G}{ad:List Addr}(h:dX γ a):Step X γ (iZ γ a (some g)) ad (ad++[a]):=
 ⟨(d6 (X:=X) g ad h).ext,(d6 (X:=X) g ad h).raw,⟨[a],rfl,λb hb=>by rw[aN.mp hb];exact .inl h⟩,(d6 (X:=X) g ad h).dom⟩
noncomputable def NR(o:Obj):V->Option G
 |.lst l=>some (.lst l)
 |.dct d=>some (.dct d o)
 |_=>none
def LQ(w:World)(γ:Gh)(a:Addr)(c:Cn):Prop:=∃o g,NR o c.val=some g/\(bif c.frozen then γ a=some g else γ a=some (.raw o)/\uJ w γ o c.val/\o.dict=none)
structure CsOk(w:World)(γ:Gh)(ad:List Addr)(cs:Cs):Prop where
 all:AllR (λa c=>LQ w γ a c) ad cs
 nd:ad.Nodup
theorem Bz{o:Obj}{v:V}{g:G}(e:NR o v=some g):g.isRaw=false:=by induction v using V.casesOn<;>first|(obtain rfl:=aC e;rfl)|exact aY e
theorem LQ.step{w:World}{X:List Addr}{γ bP:Gh}{a:Addr}{c:Cn}(h:LQ w γ a c)(x:As γ bP)(r:∀o,γ a=some (.raw o)->bP a=some (.raw o)):LQ w bP a c:=by
 refine kW (h) λo g e q=>?_;refine⟨o,g,e,?_⟩;induction hf:c.frozen using Bool.casesOn with
 |true=>rw[hf]at q;exact x a g q (Bz e)
 |false=>
  rw[hf]at q;exact⟨r o q.1,q.2.1.mono x,q.2.2⟩
theorem AllR.monoMem{α β:Type}{R S:α->β->Prop}{l:List α}{m:List β}(x:AllR R l m)(h:∀a∈l,∀b,R a b->S a b):AllR S l m:=by
 induction x with
 |nil=>exact .nil
 |cons r _ ih=>exact .cons (h _ aE _ r) (ih λa ha=>h a (aI _ ha))
theorem CsOk.called{w:World}{γ bP:Gh}{ad:List Addr}{cs:Cs}(h:CsOk w γ ad cs)(x:Step [] γ bP [] []):CsOk w bP ad cs:=
 ⟨h.all.mono λa _ z=>z.step (X:=[]) x.ext λo e=>x.raw a o e (by simp) (by simp),h.nd⟩
theorem CsOk.calledX{w:World}{X:List Addr}{γ bP:Gh}{ad:List Addr}{cs:Cs}(h:CsOk w γ ad cs)(x:Step X γ bP [] [])(hX:∀a∈X,a∉ad):CsOk w bP ad cs:=
 ⟨h.all.monoMem λa ha _ z=>z.step (X:=[]) x.ext λo e=>x.raw a o e (by simp) λz=>hX a z ha,h.nd⟩
theorem CsOk.nil(w:World)(γ:Gh):CsOk w γ [] []:=⟨.nil,.nil⟩
theorem CsOk.alloc{w:World}{γ:Gh}{ad:List Addr}{cs:Cs}{a:Addr}{g:G}(h:CsOk w γ ad cs)(ha:dX γ a):CsOk w (iZ γ a (some g)) ad cs:=by
 refine⟨h.all.mono λb _ z=>z.step (X:=[]) (d6 (X:=[]) g ad ha).ext λo e=>?_,h.nd⟩;rw[cN (ha.ne e (by intro z;cases z))];exact e
theorem CsOk.dom{w:World}{γ:Gh}{ad:List Addr}{cs:Cs}(h:CsOk w γ ad cs):∀a∈ad,∃g,γ a=some g/\g≠.dead:=by
 intro a ha;obtain⟨i,hi⟩:=List.getElem?_of_mem ha;refine rP (h.all.get hi) λc _ o g e q=>?_;induction hf:c.frozen using Bool.casesOn with
 |true=>rw[hf]at q;exact⟨_,q,λz=>by have:=Bz e;rw[z]at this;exact jA this⟩
 |false=>rw[hf]at q;exact⟨_,q.1,by intro z;cases z⟩
theorem CsOk.notIn{w:World}{γ:Gh}{ad:List Addr}{cs:Cs}(h:CsOk w γ ad cs){a:Addr}(ha:dX γ a):a∉ad:=λz=>by refine i8 (h.dom a z) λg e hd=>?_;exact hd (ha g e)
theorem CsOk.push{w:World}{γ:Gh}{ad:List Addr}{cs:Cs}{a:Addr}{o:Obj}{v:V}{g:G}(h:CsOk w γ ad cs)(ha:dX γ a)(hg:NR o v=some g)(ho:uJ w γ o v)(hd:autoParam (o.dict=none) au):CsOk w (iZ γ a (some (.raw o))) (ad++[a]) (cs++[⟨false,v⟩]):=by
 have q:=h.alloc (g:=.raw o) ha;refine⟨q.all.append (.cons ⟨o,g,hg,bK ..,ho.mono (d6 (X:=[]) (.raw o) ad ha).ext,hd⟩ .nil),?_⟩;rw[gI];refine⟨h.nd,by simp,λx hx y hy e=>?_⟩
 rw[aN]at hy;exact h.notIn ha (by rw[<-hy,<-e];exact hx)
structure FmOk(γ:Gh)(ad:List Addr)(envM:Env)(env:Ev):Prop where
 loc:∃o m,γ envM.locals=some (.raw o)/\Dk o m/\∀x i v,mQ x=some i->dZ i env=some v->envM.kindOf x=some .local->∃u,m x=some u/\VR γ ad v u
 cel:∀x c,envM.cells.lookup x=some c->∃o cv,γ c=some (.raw o)/\o.data=.cell cv/\∀i v,mQ x=some i->dZ i env=some v->envM.kindOf x=some .cell\/envM.kindOf x=some .free->∃u,cv=some u/\VR γ ad v u
 nLoc:envM.locals∉ad
 nCel:∀x c,envM.cells.lookup x=some c->c∉ad/\c≠envM.locals
 inj:∀x y c,envM.cells.lookup x=some c->envM.cells.lookup y=some c->x=y
theorem FmOk.stepX{X:List Addr}{γ bP:Gh}{ad dU:List Addr}{envM:Env}{env:Ev}(h:FmOk γ ad envM env)(x:Step X γ bP ad dU)(n1:envM.locals∉X)(n2:∀y c,envM.cells.lookup y=some c->c∉X):FmOk bP dU envM env:=by
 refine i8 (x.pre) λm e hm=>?_;have out:∀a o,γ a=some (.raw o)->a∉ad->a∉X->a∉dU:=λa o q h1 h2 z=>by
  rw[e]at z;rcases b7.mp z with z|z
  ·exact h1 z
  ·exact(hm a z).elim (gL q) h2
 refine fM (h.loc) λo mm h1 h2 h3=>?_;refine⟨⟨o,mm,x.raw _ _ h1 h.nLoc n1,h2,λy i v a b c=>?_⟩,λy c q=>?_,out _ _ h1 h.nLoc n1,λy c q=>?_,h.inj⟩
 ·obtain⟨u,e1,e2⟩:=h3 y i v a b c;exact⟨u,e1,e2.step x⟩
 ·refine fM (h.cel y c q) λo cv h1 h2 h3=>?_;refine⟨o,cv,x.raw _ _ h1 (h.nCel y c q).1 (n2 y c q),h2,λi v a b kk=>?_⟩;obtain⟨u,e1,e2⟩:=h3 i v a b kk;exact⟨u,e1,e2.step x⟩
 ·refine fM (h.cel y c q) λo cv h1 h2 h3=>?_;exact⟨out _ _ h1 (h.nCel y c q).1 (n2 y c q),(h.nCel y c q).2⟩
theorem FmOk.step{γ bP:Gh}{ad dU:List Addr}{envM:Env}{env:Ev}(h:FmOk γ ad envM env)(x:Step [] γ bP ad dU):FmOk bP dU envM env:=h.stepX x (by simp) λ_ _ _=>by simp
structure EnvOk(envM:Env)(sc:Scope):Prop where
 kind:envM.scope.kind=.function
 globals:envM.globals=mainGlobals
 builtins:envM.builtins=builtinsNs
 names:∀x k,cJ x sc.names=some k->envM.kindOf x=some k\/(k=.free/\envM.kindOf x=some .cell)
 cells:∀x,envM.kindOf x=some .cell\/envM.kindOf x=some .free->∃c,envM.cells.lookup x=some c
structure Room(A:Around)(d n:Nat):Prop where
 hand:A.handled=none
 dep:A.depth+10*d+n<recursionLimit
 un:A.units+60*d+12*n+60<cLine
theorem Room.le{A:Around}{d n m:Nat}(h:Room A d n)(e:m<=n):Room A d m:=⟨h.hand,by have:=h.dep;lia,by have:=h.un;lia⟩
theorem Room.in1{A:Around}{d n:Nat}(h:Room A d (n+1)):Room A.in1 d n:=⟨h.hand,by have:=h.dep;simp only[Around.in1_depth];lia,by have:=h.un;simp only[Around.in1_units];lia⟩
inductive PE(w:World)(s₀:Shared)(γ:Gh)(ad:List Addr)(v:V)(cW:Cs)(u:Value)(s':Shared):Prop
 |mk (bP:Gh) (dU:List Addr):St w s₀ bP s'->CsOk w bP dU cW->Step [] γ bP ad dU->VR bP dU v u->PE w s₀ γ ad v cW u s'
noncomputable abbrev fW:Value->Shared->Prop:=λ_ _=>False
def e8(prog:Program)(w:World)(s₀:Shared)(A:Around)(envM:Env)(e:Expr)(f:Ev->Cs->Option (V×Cs)):Prop:=
 ∀s γ ad env cs v cW,St w s₀ γ s->CsOk w γ ad cs->FmOk γ ad envM env->f env cs=some (v,cW)->wpAny (model prog w) A (eval e envM) (PE w s₀ γ ad v cW) fW s
inductive PT(w:World)(s₀:Shared)(γ:Gh)(ad:List Addr)(b:Bool)(cW:Cs)(c:Bool)(s':Shared):Prop
 |mk:c=b->(bP:Gh)->(dU:List Addr)->St w s₀ bP s'->CsOk w bP dU cW->Step [] γ bP ad dU->PT w s₀ γ ad b cW c s'
def rR(prog:Program)(w:World)(s₀:Shared)(A:Around)(envM:Env)(e:Expr)(f:Ev->Cs->Option (Bool×Cs)):Prop:=
 ∀s γ ad env cs b cW,St w s₀ γ s->CsOk w γ ad cs->FmOk γ ad envM env->f env cs=some (b,cW)->wpAny (model prog w) A (isTrue e envM (eval e envM)) (PT w s₀ γ ad b cW) fW s
noncomputable def pC(envM:Env):List Addr:=envM.locals::envM.cells.map (·.2)
def FlR(bP:Gh)(f:Flow)(r:Option V):Prop:=match r with|none=>f=.next|some v=>∃u,f=.ret u/\VR bP [] v u
inductive PX(w:World)(s₀:Shared)(γ:Gh)(ad:List Addr)(envM:Env)(r:Option V)(env':Ev)(cW:Cs)(f:Flow)(s':Shared):Prop
 |mk (bP:Gh) (dU:List Addr):St w s₀ bP s'->CsOk w bP dU cW->Step (pC envM) γ bP ad dU->FmOk bP dU envM env'->FlR bP f r->PX w s₀ γ ad envM r env' cW f s'
def sQ(prog:Program)(w:World)(s₀:Shared)(A:Around)(envM:Env)(c:Stmt)(f:Ev->Cs->LH):Prop:=
 ∀s γ ad env cs r env' cW,St w s₀ γ s->CsOk w γ ad cs->FmOk γ ad envM env->f env cs=some (r,env',cW)->wpAny (model prog w) A (exec c envM) (PX w s₀ γ ad envM r env' cW) fW s
inductive PC(w:World)(s₀:Shared)(γ:Gh)(v:V)(r:Result)(s':Shared):Prop
 |mk (u:Value) (bP:Gh):r=.ok (.ret u)->St w s₀ bP s'->Step [] γ bP [] []->VR bP [] v u->PC w s₀ γ v r s'
def QB(γ:Gh)(p:Nat×V)(q:Str×Value):Prop:=mQ q.1=some p.1/\VR γ [] p.2 q.2
def Jf(s₀ s:Shared):Prop:=∃L m,Fr s₀.heap L s.heap m
theorem FmOk.frm{w:World}{s₀ s:Shared}{γ:Gh}{ad:List Addr}{envM:Env}{env:Ev}(hF:FmOk γ ad envM env)(hS:St w s₀ γ s):Jf s₀ s:=by
 refine fM (hF.loc) λo m h1 h2 _=>?_;exact⟨envM.locals,m,h2.ns (hS.raw h1),hS.keep,hS.ok.lo _ _ h1 rfl⟩
def q8(prog:Program)(w:World)(s₀:Shared)(d:Nat)(cf:cO):Prop:=
 ∀A s γ a vs us kws ukws v,Room A d 0->St w s₀ γ s->Jf s₀ s->AllR (VR γ []) vs us->AllR (QB γ) kws ukws->cf a vs kws=some v->codeAny (model prog w) A (.call (.ref a) ⟨us,ukws⟩) (PC w s₀ γ v) s
set_option tactic.hygienic true
theorem LR:∀{a b:List Nat},eqL a b=true->a=b
 |[],b,h=>(eI.mp h).symm
 |x::a,b,h=>by
  induction b using List.casesOn with
  |nil=>exact bX h
  |cons y b=>
   refine cQ (Q:=λz=>z=true->x::a=y::b) (λhx h=>?_) (λh=>bX h) h;rw[aA hx,LR h]
theorem Dl:∀a:List Nat,eqL a a=true
 |[]=>rfl
 |x::a=>(cT (kK x)).trans (Dl a)
theorem fY{a b:Str}(h:lC a b=true):a=b:=by
 obtain⟨⟨a⟩⟩:=a;obtain⟨⟨b⟩⟩:=b;rw[LR (show eqL a b=true from h)]
theorem sR(a:Str):lC a a=true:=Dl _
theorem B0{a b:Str}:lC a b=true↔a=b:=⟨fY,λh=>h▸sR a⟩
theorem l9{a b:Str}:lC a b=false↔a≠b:=by
 rw[ne_eq,<-B0,Bool.not_eq_true]
theorem Oy(a b:Str):lC a b=(a==b):=by
 induction h:lC a b using Bool.casesOn with
 |true=>rw[fY h];simp
 |false=>exact(cK.mpr (l9.mp h)).symm
theorem f8{α:Type}(x:Str):∀l:List (Str×α),cJ x l=l.lookup x
 |[]=>rfl
 |(y,v)::r=>by
  rw[Ly];rw[f6,Oy,f8 x r];induction x==y using Bool.casesOn<;>rfl
theorem rS{x:Str}:∀{l:List Str} {k i:Nat},yR x l k=some i->x∈l/\k<=i/\l[i-k]?=some x
 |[],_,_,h=>by exact aY h
 |y::r,k,i,h=>by
  rw[iS_c]at h;induction hx:lC x y using Bool.casesOn with
  |true=>
   rw[hx]at h;refine e9 h ?_;rw[fY hx];exact⟨aE,cA _,by simp⟩
  |false=>
   rw[hx]at h;refine Aq (rS h) λa b c=>?_;refine⟨aI _ a,Nat.le_of_succ_le b,?_⟩;rw[show i-k=(i-(k+1))+1 by lia,List.getElem?_cons_succ];exact c
theorem rT{x y:Str}{i:Nat}(h:mQ x=some i)(h':mQ y=some i):x=y:=by
 have a:=(rS h).2.2;have b:=(rS h').2.2;rw[a]at b;exact aC b
theorem F7{x:Str}{i:Nat}(h:mQ x=some i):x∈Ot:=(rS h).1
theorem Ig{x:Str}{i:Nat}(h:mQ x=some i):(x==("__debug__":Str))=false:=
 (by decide+kernel:∀y∈Ot,(y==("__debug__":Str))=false) x (F7 h)
theorem Az{x:Str}{i:Nat}(h:mQ x=some i):(x==("__classdict__":Str))=false:=
 (by decide+kernel:∀y∈Ot,(y==("__classdict__":Str))=false) x (F7 h)
theorem mV{α:Type}{x:Str}{v:α}:∀{l:List (Str×α)},cJ x l=some v->(x,v)∈l
 |(y,u)::r,h=>by
  rw[Ly]at h;induction hx:lC x y using Bool.casesOn with
  |true=>rw[hx]at h;refine e9 h ?_;rw[fY hx];exact aE
  |false=>rw[hx]at h;exact aI _ (mV h)
theorem jB{α:Type}(x y:Nat)(v:α):∀l:List (Nat×α),dZ y (fO x v l)=if y=x then some v else dZ y l
 |[]=>by
  rw[pN_n,X2,X4];by_cases h:y=x
  ·subst h;rw[kK];simp
  ·rw[show Nat.beq y x=false from qD.mpr λz=>h (aA z)];simp[h]
 |(z,u)::r=>by
  rw[pN_c];induction hx:Nat.beq x z using Bool.casesOn with
  |true=>
   have e:=aA hx;subst e;simp only[bV];simp only[X2,X4];by_cases h:y=x
   ·clear hx;subst h;rw[kK];simp
   ·rw[show Nat.beq y x=false from qD.mpr λz=>h (aA z)];simp[h]
  |false=>
   simp only[bG];simp only[X2,X4];rw[jB x y v r];by_cases h:y=x
   ·subst h;rw[hx];simp
   ·simp[h]
inductive ErT:Scope->Expr->List Nat->Prop
 |one {sc:Scope} {x:Str} {p:Pos} {i:Nat}:cJ x sc.names=some .local->mQ x=some i->ErT sc (.Name x p) [i]
 |two {sc:Scope} {x y:Str} {p q r:Pos} {k i j:Nat}:cJ x sc.names=some .local->cJ y sc.names=some .local->x≠y->mQ x=some i->mQ y=some j->ErT sc (.Tuple [.Name x p,.Name y q] k r) [i,j]
 |nil {sc:Scope} {e:Expr}:ErT sc e []
theorem nJ{sc:Scope}{x:Str}(h:uA sc x=true):cJ x sc.names=some .local:=lL h
theorem qO(sc:Scope)(e:Expr):ErT sc e (uB sc e):=by
 unfold uB;induction h:tgtO sc e using Option.casesOn with
 |none=>exact .nil
 |some t=>
  refine Je h (λh=>On h nS λx p e h=>dJ h λc h=>eV h λi hi h=>?_) λh=>Lq h nS λl i p e h=>Ol h nS λa b el h=>On h nS λx q ea h=>On h nS λy r eb h=>dJ h λc h=>bH h λi hi h=>eV h λj hj h=>?_
  ·rw[e,<-h];exact .one (nJ c) hi
  ·refine fF c λc c3=>fF c λc1 c2=>?_;rw[e,el,ea,eb,<-h];exact .two (nJ c1) (nJ c2) (l9.mp (by simpa using c3)) hi hj
set_option tactic.hygienic false
inductive PN(w:World)(s₀:Shared)(γ:Gh)(v:V)(u:Value)(s':Shared):Prop
 |mk (bP:Gh):St w s₀ bP s'->Step [] γ bP [] []->VR bP [] v u->PN w s₀ γ v u s'
section
variable{prog:Program}{w:World}{s₀ s s':Shared}{γ bP:Gh}{ad:List Addr}{cs:Cs}{v:V}{u:Value}{A:Around}
theorem VR.up{γ:Gh}(ad:List Addr){v:V}{u:Value}(h:VR γ [] v u):VR γ ad v u:=h.mono (.refl γ) λi a e=>by simp at e
theorem PN.pe(hc:CsOk w γ ad cs)(h:PN w s₀ γ v u s'):PE w s₀ γ ad v cs u s':=
 let⟨bP,a,b,c⟩:=h;⟨bP,ad,a,hc.called b,b.called ad,c.up ad⟩
theorem PN.mk'(h:St w s₀ γ s)(r:VR γ [] v u)(hh:autoParam (s'.heap=s.heap) au)(hg:autoParam (s'.gens=s.gens) au)(ho:autoParam (s'.os=s.os) au):PN w s₀ γ v u s':=⟨γ,h.like hh hg ho,.refl γ [],r⟩
theorem PE.mk'(h:St w s₀ γ s)(hc:CsOk w γ ad cs)(r:VR γ ad v u)(hh:autoParam (s'.heap=s.heap) au)(hg:autoParam (s'.gens=s.gens) au)(ho:autoParam (s'.os=s.os) au):PE w s₀ γ ad v cs u s':=
 ⟨γ,ad,h.like hh hg ho,hc,.refl γ ad,r⟩
theorem Dm{b:Int}(h:jP b=true):Builtin.Int.intBits b<=2^20:=by
 have h:=aM h;unfold Builtin.Int.intBits;split
 ·lia
 ·rename_i hb;have hb:b≠0:=by simpa using hb
  have:b.natAbs.log2<8000:=(Nat.log2_lt (by lia)).mpr h
  lia
theorem Oz{b:Int}(h:jP b=true):b.natAbs.log2<9000:=by
 have h:=aM h;by_cases hb:b.natAbs=0
 ·rw[hb];decide
 ·have:b.natAbs.log2<8000:=(Nat.log2_lt hb).mpr h;lia
theorem O0{a b:Int}(h:jP (a*b)=true):IntMulOk a b:=by
 have h':=aM h;by_cases ha:a=0
 ·exact .of_left (by clear h' h;subst ha;decide)
 ·by_cases hb:b=0
  ·exact .of_right (by clear h' h;subst hb;decide)
  ·rw[eP]at h';have la:a.natAbs<=a.natAbs*b.natAbs:=Nat.le_mul_of_pos_right _ (by lia)
   have lb:b.natAbs<=a.natAbs*b.natAbs:=gR _ (by lia)
   exact .of_bits (Dm (aH (aP la h'))) (Dm (aH (aP lb h')))
theorem Dn{op:Operator}{x y:Int}{t t':Tok}(hS:St w s₀ γ s)(h:eY op x y=some v):wpAny (model prog w) A (binaryOp op (.int x t) (.int y t')) (PN w s₀ γ v) fW s:=by
 have hz:(!decide (y=0)&&jP y)=true->(¬(y==0)=true)/\jP y=true:=λhf=>⟨by simpa using (aL.mp hf).1,(aL.mp hf).2⟩
 induction op using PySem.Operator.casesOn with
 |Add=>refine e9 h ?_;exact add_int (.mk' hS (.int ..))
 |Sub=>refine e9 h ?_;exact sub_int (.mk' hS (.int ..))
 |Mult=>
  refine dJ h λhf h=>?_;refine e9 h ?_;exact mul_int (.mk' hS (.int ..)) (O0 hf)
 |FloorDiv=>
  refine dJ h λhf h=>?_;refine e9 h ?_;exact AutoIntOps.floordiv_1 (hz hf).1 (by rw[PyProof.noPylong_of_log2 (Oz (hz hf).2)];decide) (.mk' hS (.int ..))
 |Mod=>
  refine dJ h λhf h=>?_;refine e9 h ?_;exact AutoIntOps.mod_1 (hz hf).1 (.mk' hS (.int ..))
 |_=>exact aY h
end
noncomputable def pS:List Addr:=[331,277,471,512,560,644]
noncomputable def sS(K:Frag)(C:Addr):Bool:=plainGet K C DW&&hasDictIn K C&&selfFirst K C&&plainOver K C&&makesIn K C&&isClsIn K C
theorem cls1(P:Params):pS.all (sS (Kf P))=true:=by kernel_rfl!
theorem O1(n:Nm):cJ (sO n) LB=some n:=by induction n using Nm.casesOn<;>decide+kernel
theorem F8(n:Nm):(sO n,n)∈LB:=mV (O1 n)
def XD(K:Frag)(C:Addr)(p:Str×Nm):Bool:=pU true (yV C p.2) λf=>findIn K (.ref C) p.1==some (some (.ref f))&&isFn K (.ref f)&&keepIn K (.ref f)
theorem mth1(P:Params):pS.all (λC=>LB.all (XD (Kf P) C))=true:=by kernel_rfl!
theorem LS{x:Str}{m:Nm}(h:cJ x LB=some m):x=sO m:=
 (by decide+kernel:∀p∈LB,p.1=sO p.2) _ (mV h)
noncomputable def LT:List Nm:=[.a,.b,.min,.max,.expr,.val,.nodes]
def LU(K:Frag)(C:Addr)(n:Nm):Bool:=match findIn K (.ref C) (sO n)with
 |some attr=>noGet K attr
 |none=>false
theorem att1(P:Params):pS.all (λC=>LT.all (LU (Kf P) C))=true:=by kernel_rfl!
theorem jW(t:T):t.cls∈pS:=by induction t using T.casesOn<;>(unfold T.cls pS;simp)
theorem AG(P:Params)(t:T):sS (Kf P) t.cls=true:=aW.mp (cls1 P) _ (jW t)
theorem rU(P:Params)(t:T)(n:Str):plainGet (Kf P) t.cls n=true:=by
 have h:=AG P t;unfold sS at h;simp only[a9]at h;exact h.1.1.1.1.1
theorem q9(P:Params)(t:T):hasDictIn (Kf P) t.cls=true:=by
 have h:=AG P t;unfold sS at h;simp only[a9]at h;exact h.1.1.1.1.2
theorem tO(P:Params)(t:T):selfFirst (Kf P) t.cls=true:=by
 have h:=AG P t;unfold sS at h;simp only[a9]at h;exact h.1.1.1.2
theorem cls_over(P:Params)(t:T):plainOver (Kf P) t.cls=true:=by
 have h:=AG P t;unfold sS at h;simp only[a9]at h;exact h.1.1.2
theorem Ih(P:Params)(t:T):makesIn (Kf P) t.cls=true:=by
 have h:=AG P t;unfold sS at h;simp only[a9]at h;exact h.1.2
theorem cls_isC(P:Params)(t:T):isClsIn (Kf P) t.cls=true:=by
 have h:=AG P t;unfold sS at h;simp only[a9]at h;exact h.2
theorem F9(P:Params)(t:T){n:Nm}(hn:n∈LT):∃attr,findIn (Kf P) (.ref t.cls) (sO n)=some attr/\noGet (Kf P) attr=true:=by
 have h:=aW.mp (aW.mp (att1 P) _ (jW t)) _ hn;unfold LU at h;split at h
 ·exact⟨_,by assumption,h⟩
 ·exact bX h
theorem rB(P:Params){t:T}{n:Nm}{f:Addr}(h:gU t n=some f):findIn (Kf P) (.ref t.cls) (sO n)=some (some (.ref f))/\isFn (Kf P) (.ref f)=true/\keepIn (Kf P) (.ref f)=true:=by
 have q:pU true (yV t.cls n) _=true:=aW.mp (aW.mp (mth1 P) _ (jW t)) _ (F8 n);rw[show yV t.cls n=some f from h]at q;exact fF q λq q3=>fF q λq1 q2=>⟨beq_iff_eq.mp q1,q2,q3⟩
theorem rD{γ:Gh}{x:Str}{v:V}:∀{fs:List (Str×V)} {es:List DictEntry},AllR (FR γ) fs es->cJ x fs=some v->∃u,getL x es=some (some u)/\VR γ [] v u:=by
 intro fs es h;induction h with
 |nil=>intro e;exact aY e
 |@cons p en fs es r _ ih=>
  intro e;obtain⟨y,z⟩:=p;obtain⟨⟨k,hk⟩,hr⟩:=r;rw[Ly]at e;unfold getL;have hs:en.key.isStr x=(y==x):=by rw[hk];rfl
  rw[List.find?_cons,hs];induction hx:lC x y using Bool.casesOn with
  |true=>
   clear hs;rw[hx]at e;clear ih;refine e9 e ?_;rw[fY hx,beq_self_eq_true];exact⟨_,rfl,hr⟩
  |false=>
   clear hs;rw[hx]at e;rw[show(y==x)=false from cK.mpr (Ne.symm (l9.mp hx))];refine i8 (ih e) λu a b=>?_;refine⟨u,?_,b⟩;unfold getL at a;split at a
   ·rename_i q;simp only[q];exact a
   ·split at a<;>(first|exact aY a|cases a)
theorem oW{γ:Gh}{x:Str}:∀{fs:List (Str×V)} {es:List DictEntry},AllR (FR γ) fs es->cJ x fs=none->getL x es=some none:=by
 intro fs es h;induction h with
 |nil=>intro _;rfl
 |@cons p en fs es r _ ih=>
  intro e;obtain⟨y,z⟩:=p;obtain⟨⟨k,hk⟩,hr⟩:=r;rw[Ly]at e;unfold getL;have hs:en.key.isStr x=(y==x):=by rw[hk];rfl
  have hrk:en.refKey=false:=by unfold DictEntry.refKey;rw[hk]
  rw[List.find?_cons,hs];induction hx:lC x y using Bool.casesOn with
  |true=>clear hrk hs;rw[hx]at e;cases e
  |false=>
   clear hs;rw[hx]at e;rw[show(y==x)=false from cK.mpr (Ne.symm (l9.mp hx))];have a:=ih e;unfold getL at a;split at a
   ·cases a
   ·rename_i q;simp only[q,qU,hrk,Bool.false_or];exact a
theorem pD{α:Type}{x k:Str}{v:α}:∀{l:List (Str×α)},cJ x (l++[(k,v)])=match cJ x l with|some u=>some u|none=>bif lC x k then some v else none
 |[]=>rfl
 |(y,u)::r=>by
  rw[kI];simp only[Ly];induction lC x y using Bool.casesOn with
  |true=>rfl
  |false=>exact pD
section
variable{prog:Program}{w:World}{s₀ s:Shared}{γ:Gh}{A:Around}
theorem B1(hS:St w s₀ γ s){a dx:Addr}{t:T}(e:γ a=some (.node t dx)):∃es n,InstAt s.heap a (instObj t.cls dx) t.cls (some (dictOf es n))/\(AllR (FR γ) (mR t) es\/AllR (FR γ) (mR t++[(dG,.str t.rend)]) es):=by
 refine yE (hS.ok.at_ _ _ e) λh1 es n h2 r=>?_;exact⟨es,n,⟨h1,rfl,rfl,h2⟩,r⟩
theorem O2{es:List DictEntry}{t:T}{x:Str}{v:V}(r:AllR (FR γ) (mR t) es\/AllR (FR γ) (mR t++[(dG,.str t.rend)]) es)(h:cJ x (mR t)=some v):∃u,getL x es=some (some u)/\VR γ [] v u:=by
 rcases r with r|r
 ·exact rD r h
 ·exact rD r (by rw[pD,h])
theorem LV{es:List DictEntry}{t:T}{x:Str}(r:AllR (FR γ) (mR t) es\/AllR (FR γ) (mR t++[(dG,.str t.rend)]) es)(h:cJ x (mR t)=none)(hk:lC x dG=false):getL x es=some none:=by
 rcases r with r|r
 ·exact oW r h
 ·exact oW r (by rw[pD,h,hk];rfl)
theorem VR.handed{ad:List Addr}{v:V}{u:Value}(h:VR γ ad v u):handedIn u=true:=by
 cases h with
 |bi n=>induction n using Bi.casesOn<;>decide+kernel
 |_=>rfl
theorem B2{t:T}{n:Nm}{v:V}(h:u8 t n=some v):cJ (sO n) (mR t)=some v/\n∈LT:=by
 unfold u8 at h;induction c1:Nat.beq n.ctorIdx 2 using Bool.casesOn with
 |true=>
  rw[c1]at h;rw[Nm.min.elim (motive:=λz=>z=.min) n (aA c1) rfl];exact⟨by induction t using T.casesOn<;>exact h,by decide⟩
 |false=>
  rw[c1]at h;induction c2:Nat.beq n.ctorIdx 3 using Bool.casesOn with
  |true=>
   clear c1;rw[c2]at h;rw[Nm.max.elim (motive:=λz=>z=.max) n (aA c2) rfl];exact⟨by induction t using T.casesOn<;>exact h,by decide⟩
  |false=>
   clear c1;rw[c2]at h;exact dJ h λc h=>⟨h,(by decide+kernel:∀p∈LB,Nat.ble p.2.ctorIdx 6=true->p.2∈LT) _ (F8 n) c⟩
theorem B3(hB:Base w s₀)(hS:St w s₀ γ s)(hF:Jf s₀ s){a dx:Addr}{t:T}{n:Nm}{v:V}(e:γ a=some (.node t dx))(hv:u8 t n=some v):wpAny (model prog w) A (getAttr (.ref a) (sO n) true) (PN w s₀ γ v) fW s:=by
 refine kW (B1 hS e) λes k I r=>?_;obtain⟨hl,hn⟩:=B2 hv;obtain⟨u,hu,hr⟩:=O2 r hl;obtain⟨attr,ha,hg⟩:=F9 w.params t hn;obtain⟨L,m,F⟩:=hF;exact get_own F hB.K I (rU _ t _) (q9 _ t) ha hg hu hr.handed (.mk' hS hr)
end
noncomputable def opL:List Operator:=[.Add,.Sub,.Mult,.FloorDiv,.Mod]
def Ii(o:Option (Option Value)):Bool:=pU false o λr=>pU true r λu=>Nat.beq u.ctorIdx 10
def opChk(K:Frag)(C:Addr)(op:Operator):Bool:=Ii (findIn K (.ref C) (dunderR op.info.2))
theorem op1(P:Params):pS.all (λC=>opL.all (opChk (Kf P) C)&&subIn (Kf P) (.type "int") (.ref C)==some false)=true:=by kernel_rfl!
theorem op2(P:Params):opL.all (λop=>(findIn (Kf P) (.type "int") (PySem.dunder op.info.2)).isSome&&(findIn (Kf P) (.type "int") (dunderR op.info.2)).isSome)=true:=by kernel_rfl!
theorem sub1(P:Params):pS.all (λC=>pS.all λD=>Nat.beq C D||subIn (Kf P) (.ref C) (.ref D)==some false)=true:=by kernel_rfl!
theorem opN{op:Operator}{n:Nm}(h:En op=some n):PySem.dunder op.info.2=sO n/\op∈opL:=by
 induction op using PySem.Operator.casesOn<;>first|exact aY h;done|(obtain rfl:=aC h;exact⟨by decide+kernel,by decide⟩)
section
variable{prog:Program}{w:World}{s₀ s s':Shared}{γ:Gh}{A:Around}{d:Nat}{cf:cO}{v:V}{u:Value}
theorem rV(hc:q8 prog w s₀ d cf)(hR:Room A d 0)(hS:St w s₀ γ s)(hF:Jf s₀ s){f:Addr}{vs:List V}{us:List Value}{kws:List (Nat×V)}{ukws:List (Str×Value)}(hv:AllR (VR γ []) vs us)(hk:AllR (QB γ) kws ukws)
  (h:cf f vs kws=some v):wpAny (model prog w) A (call (.ref f) us ukws) (PN w s₀ γ v) fW s:=
 wpAny_call (codeAny_mono (hc A s γ f vs us kws ukws v hR hS hF hv hk h) λr s' z=>by obtain⟨u,bP,rfl,a,b,c⟩:=z;exact⟨bP,a,b,c⟩)
theorem VR.noNot{ad:List Addr}{v:V}{u:Value}(h:VR γ ad v u):u≠.notImplemented:=by
 cases h with
 |bi n=>induction n using Bi.casesOn<;>exact Value.noConfusion
 |_=>exact Value.noConfusion
theorem PN.back(h:PN w s₀ γ v u s'):PySem.W.CmpBack (PN w s₀ γ v) u s':=by
 have hn:u≠.notImplemented:=by
  obtain⟨_,_,_,c⟩:=h;exact c.noNot
 induction u using PySem.Value.casesOn<;>first|exact h|exact absurd rfl hn
theorem Ew(P:Params)(t:T){op:Operator}(ho:op∈opL):∃rc,findIn (Kf P) (.ref t.cls) (dunderR op.info.2)=some rc/\(rc=none\/∃g:Addr,rc=some (.ref g)):=by
 have h:=aW.mp (op1 P) _ (jW t);have h:=aW.mp (aL.mp h).1 _ ho;refine oE h nT λr er h=>⟨r,er,?_⟩;induction r using Option.casesOn with
 |none=>exact .inl rfl
 |some u=>exact .inr (Value.ref.elim (motive:=λu=>∃g:Addr,some u=some (.ref g)) u (aA h) λg=>⟨g,rfl⟩)
theorem XE(P:Params){op:Operator}(ho:op∈opL):(∃fo,findIn (Kf P) (.type "int") (PySem.dunder op.info.2)=some fo)/\∃ro,findIn (Kf P) (.type "int") (dunderR op.info.2)=some ro:=by
 have h:=aL.mp (aW.mp (op2 P) _ ho);exact⟨fE.mp h.1,fE.mp h.2⟩
theorem FA(P:Params)(t:T):subIn (Kf P) (.type "int") (.ref t.cls)=some false:=
 beq_iff_eq.mp (aL.mp (aW.mp (op1 P) _ (jW t))).2
theorem O4(P:Params){t t':T}(h:t.cls≠t'.cls):subIn (Kf P) (.ref t.cls) (.ref t'.cls)=some false:=by
 have q:=aW.mp (aW.mp (sub1 P) _ (jW t)) _ (jW t');rcases cP.mp q with q|q
 ·exact absurd (aA q) h
 ·exact beq_iff_eq.mp q
theorem O5{K:Frag}{x C C' f g:Addr}{ox:Obj}{od:Option Obj}{op:Operator}{b:Value}{rc rc':Option Value}{Q E:Value->Shared->Prop}(X:K.In s.heap)(I:InstAt s.heap x ox C od)
  (hb:Looks (model prog w) s.heap (typeOf b) (.ref C')) (f5:C≠C') (hc:selfFirst K C=true) (hc':selfFirst K C'=true)
  (hs:findIn K (.ref C) (PySem.dunder op.info.2)=some (some (.ref f))) (hf:isFn K (.ref f)=true) (hs':findIn K (.ref C') (PySem.dunder op.info.2)=some (some (.ref g)))
  (hr:findIn K (.ref C) (dunderR op.info.2)=some rc) (hp:rc=none\/∃g:Addr,rc=some (.ref g)) (hr':findIn K (.ref C') (dunderR op.info.2)=some rc') (hp':rc'=none\/∃g:Addr,rc'=some (.ref g))
  (hsub:subIn K (.ref C') (.ref C)=some false)
  (h:wpAny (model prog w) A (call (.ref f) [.ref x,b]) (PySem.W.CmpBack Q) E s):wpAny (model prog w) A (binaryOp op (.ref x) b) Q E s:=by
 refine kW (ksp_first hc) λcd rest hcd hm=>?_;refine kW (ksp_first hc') λcd' rest' hcd' hm'=>?_;rcases hi:op.info with⟨sym,nm'⟩
 rw[hi]at hs hs' hr hr';dsimp only at hs hs' hr hr';have one:=ksp_try X I hs hf h;have L1:Looks (model prog w) s.heap (typeOf (.ref x)) (.ref C):=I.type;have L2:Looks (model prog w) s.heap (typeOf b) (.ref C'):=hb;have L3:Looks (model prog w) s.heap (fillsNumberSlot (.ref C) nm') true:=fills_K X hcd hm hs;have L4:Looks (model prog w) s.heap (fillsNumberSlot (.ref C') nm') true:=fills_K X hcd' hm' hs';have L5:Looks (model prog w) s.heap (isSubtype (.ref C') (.ref C)) false:=looks_subIn X hsub;have L6:Looks (model prog w) s.heap (numberSlotInPython (.ref C) nm') true:=ksp_inPy X hs hr hp;have L7:Looks (model prog w) s.heap (numberSlotInPython (.ref C') nm') true:=ksp_inPy X hs' hr' hp';have f5:(Value.ref C==Value.ref C')=false:=qD.mpr λq=>f5 (by have:=beq_iff_eq.mp q;clear q L7 L5 L4 L2 hs' hr' hm' hcd' hsub hc' f5 hb;cases this;rfl)
 unfold binaryOp;rw[hi];refine wpAny_holding (bF ?_);unfold binaryOp1;refine bF (L1.at (bF (L2.at (bF (L3.at ?_)))));rw[f5]
 ksp_lk
 refine aD one (λr s' hr'=>?_) λ_ _ e=>e;refine i8 (hr') λv zr1 hq=>?_;subst zr1
 ksp_lk
 exact hq
theorem sU(hS:St w s₀ γ s){a dx:Addr}{t:T}(e:γ a=some (.node t dx)):Looks (model prog w) s.heap (typeOf (.ref a)) (.ref t.cls):=by
 refine kW (B1 hS e) λes k I r=>?_;exact I.type
@[elab_as_elim] theorem VR.intI {γ:Gh} {ad:List Addr} {i:Int} {u:Value} {P:Value->Prop} (h:VR γ ad (.int i) u) (k:∀t,P (.int i t)):P u:=by
 obtain⟨t,rfl⟩:∃t,u=.int i t:=h.inv;exact k t
@[elab_as_elim] theorem VR.strI {γ:Gh} {ad:List Addr} {i:Str} {u:Value} {P:Value->Prop} (h:VR γ ad (.str i) u) (k:∀t,P (.str i t)):P u:=by
 obtain⟨t,rfl⟩:∃t,u=.str i t:=h.inv;exact k t
@[elab_as_elim] theorem VR.nodeI {γ:Gh} {ad:List Addr} {t:T} {u:Value} {P:Value->Prop} (h:VR γ ad (.node t) u) (k:∀a dx,γ a=some (.node t dx)->P (.ref a)):P u:=by
 obtain⟨a,dx,rfl,e⟩:∃a dx,u=.ref a/\γ a=some (.node t dx):=h.inv;exact k a dx e
@[elab_as_elim] theorem VR.ownI {γ:Gh} {ad:List Addr} {i:Nat} {u:Value} {P:Value->Prop} (h:VR γ ad (.own i) u) (k:∀a,ad[i]?=some a->P (.ref a)):P u:=by
 obtain⟨a,rfl,e⟩:∃a,u=.ref a/\ad[i]?=some a:=h.inv;exact k a e
@[elab_as_elim] theorem VR.lstI {γ:Gh} {ad:List Addr} {l:List V} {u:Value} {P:Value->Prop} (h:VR γ ad (.lst l) u) (k:∀a,γ a=some (.lst l)->P (.ref a)):P u:=by
 obtain⟨a,rfl,e⟩:∃a,u=.ref a/\γ a=some (.lst l):=h.inv;exact k a e
@[elab_as_elim] theorem VR.dctI {γ:Gh} {ad:List Addr} {l:List (Str×V)} {u:Value} {P:Value->Prop} (h:VR γ ad (.dct l) u) (k:∀a o,γ a=some (.dct l o)->P (.ref a)):P u:=by
 obtain⟨a,o,rfl,e⟩:∃a o,u=.ref a/\γ a=some (.dct l o):=h.inv;exact k a o e
@[elab_as_elim] theorem VR.ditI {γ:Gh} {ad:List Addr} {l:List (Str×V)} {u:Value} {P:Value->Prop} (h:VR γ ad (.dit l) u) (k:∀a,γ a=some (.dit l)->P (.ref a)):P u:=by
 obtain⟨a,rfl,e⟩:∃a,u=.ref a/\γ a=some (.dit l):=h.inv;exact k a e
@[elab_as_elim] theorem VR.tupI {γ:Gh} {ad:List Addr} {l:List V} {u:Value} {P:Value->Prop} (h:VR γ ad (.tup l) u) (k:∀a,γ a=some (.tup l)->P (.ref a)):P u:=by
 obtain⟨a,rfl,e⟩:∃a,u=.ref a/\γ a=some (.tup l):=h.inv;exact k a e
theorem VR.isInt{ad:List Addr}{i:Int}{u:Value}(h:VR γ ad (.int i) u):∃t,u=.int i t:=h.inv
theorem VR.isStr{ad:List Addr}{i:Str}{u:Value}(h:VR γ ad (.str i) u):∃t,u=.str i t:=h.inv
theorem VR.isNode{ad:List Addr}{t:T}{x:Value}(h:VR γ ad (.node t) x):∃a dx,x=.ref a/\γ a=some (.node t dx):=h.inv
theorem LW{P:V->V->Operator->Prop}{cf:cO}{v:V}(k1:∀op x y,eY op x y=some v->P (.int x) (.int y) op)(k2:∀p q,(bif CX (p++q)then some (V.str (p++q))else none)=some v->P (.str p) (.str q) .Add)
  (k3:∀op t y,((En op).bind λn=>(gU t n).bind λf=>cf f [.node t,.int y] [])=some v->P (.node t) (.int y) op) (k4:∀t u,cf 100 [.node t,.node u] []=some v->P (.node t) (.node u) .Add) {a b:V} {op:Operator} (h:cG cf op a b=some v):P a b op:=by
 induction a using V.casesOn with
 |int x=>
  induction b using V.casesOn with
  |int y=>exact k1 _ x y h
  |_=>exact aY h
 |str p=>
  induction b using V.casesOn with
  |str q=>
   induction op using PySem.Operator.casesOn with
   |Add=>exact k2 p q h
   |_=>exact aY h
  |_=>exact aY h
 |node t=>
  induction b using V.casesOn with
  |int y=>exact k3 _ t y h
  |node u=>
   induction op using PySem.Operator.casesOn with
   |Add=>exact k4 t u h
   |_=>exact aY h
  |_=>exact aY h
 |_=>exact aY h
theorem FB{p:Str}(e:p.length=0):p=⟨#[]⟩:=by
 obtain⟨⟨p⟩⟩:=p;induction p using List.casesOn with
 |nil=>rfl
 |cons _ _=>simp[Str.length]at e
theorem XF(q:Str):(⟨#[]⟩:Str)++q=q:=by
 obtain⟨⟨q⟩⟩:=q;show(⟨#[]++⟨q⟩⟩:Str)=_;simp
theorem XG(p:Str):p++(⟨#[]⟩:Str)=p:=by
 obtain⟨⟨p⟩⟩:=p;show(⟨⟨p⟩++#[]⟩:Str)=_;simp
theorem add_s(hS:St w s₀ γ s){p q:Str}{t t':Tok}(h:(bif CX (p++q)then some (V.str (p++q))else none)=some v):wpAny (model prog w) A (binaryOp .Add (.str p t) (.str q t')) (PN w s₀ γ v) fW s:=by
 refine dJ h ?_;clear h;intro hs h;refine e9 h ?_;refine P.add_str ?_;split
 ·rename_i e;rw[FB (beq_iff_eq.mp e),XF];exact .mk' hS (.str ..)
 ·split
  ·rename_i e;rw[FB (beq_iff_eq.mp e),XG];exact .mk' hS (.str ..)
  ·exact⟨aR (aM hs) (by decide),.mk' hS (.str ..)⟩
theorem add_n(hB:Base w s₀)(hc:q8 prog w s₀ d cf)(hR:Room A d 0)(hS:St w s₀ γ s)(hF:Jf s₀ s){a dx b dx':Addr}{t t':T}(e:γ a=some (.node t dx))(e':γ b=some (.node t' dx'))(h:cf 100 [.node t,.node t'] []=some v):wpAny (model prog w) A (binaryOp .Add (.ref a) (.ref b)) (PN w s₀ γ v) fW s:=by
 refine kW (B1 hS e) λes k I r=>?_;obtain⟨L,m,F⟩:=id hF;have am:∀t:T,gU t .add=some 100:=λt=>by induction t using T.casesOn<;>rfl
 have q:=λt=>rB w.params (am t);have e1:=(opN (op:=.Add) rfl).1;have body:=aD (rV hc hR hS hF (.cons (.node e) (.cons (.node e') .nil)) .nil h) (λ_ _ z=>PN.back z) λ_ _ z=>z;by_cases hcl:t.cls=t'.cls
 ·exact binop_K F hB.K I (hcl▸sU hS e') (tO _ _) (by rw[e1];exact(q t).1) (q t).2.1 body
 ·obtain⟨rc,q3,q4⟩:=Ew w.params t (op:=.Add) (by decide)
  obtain⟨rc',q3',q4'⟩:=Ew w.params t' (op:=.Add) (by decide)
  exact O5 (hB.K.keeps hS.keep) I (sU hS e') hcl (tO _ _) (tO _ _) (by rw[e1];exact(q t).1) (q t).2.1 (by rw[e1];exact(q t').1) q3 q4 q3' q4' (O4 _ (Ne.symm hcl)) body
theorem O6(hB:Base w s₀)(hc:q8 prog w s₀ d cf)(hR:Room A d 0)(hS:St w s₀ γ s)(hF:Jf s₀ s){op:Operator}{a b:V}{x y:Value}(ha:VR γ [] a x)(hb:VR γ [] b y)(h:cG cf op a b=some v):
  wpAny (model prog w) A (binaryOp op x y) (PN w s₀ γ v) fW s:=by
 refine LW (P:=λa b op=>VR γ [] a x->VR γ [] b y->wpAny (model prog w) A (binaryOp op x y) (PN w s₀ γ v) fW s) (λop x y h ha hb=>?_) (λp q h ha hb=>?_) (λop t y h ha hb=>?_) (λt t' h ha hb=>?_) h ha hb
 ·obtain⟨_,rfl⟩:=ha.isInt;obtain⟨_,rfl⟩:=hb.isInt;exact Dn hS h
 ·obtain⟨_,rfl⟩:=ha.isStr;obtain⟨_,rfl⟩:=hb.isStr;exact add_s hS h
 ·refine kW (ha.isNode) λa dx zr2 e=>?_;subst zr2;obtain⟨_,rfl⟩:=hb.isInt;refine bH h ?_;clear h;intro n hn h;refine bH h ?_;clear h;intro f hm h;refine kW (B1 hS e) λes k I r=>?_;obtain⟨L,m,F⟩:=id hF;obtain⟨e1,e2⟩:=opN hn;obtain⟨q1,q2,_⟩:=rB w.params hm;obtain⟨rc,q3,q4⟩:=Ew w.params _ e2;obtain⟨⟨fo,q5⟩,⟨ro,q6⟩⟩:=XE w.params e2;exact ksp_binT F hB.K I rfl (tO _ _) (by rw[e1];exact q1) q2 q3 q4 q5 q6 (FA _ _) (aD (rV hc hR hS hF (.cons (.node e) (.cons (.int ..) .nil)) .nil h) (λ_ _ z=>z.back) λ_ _ z=>z)
 ·refine kW (ha.isNode) λa dx zr2 e=>?_;subst zr2;refine kW (hb.isNode) λb dx' zr2 e'=>?_;subst zr2;exact add_n hB hc hR hS hF e e' h
end
theorem oK:∀(i:Nat) (cs:Cs),uF i cs=cs[i]?
 |i,[]=>by simp[gC_n]
 |0,_::_=>rfl
 |i+1,_::r=>by show uF i r=_;rw[oK i r];rfl
theorem VR.down{γ:Gh}{ad:List Addr}{v:V}{u:Value}(h:VR γ ad v u)(hn:∀i,v≠.own i):VR γ [] v u:=by
 cases h with
 |none=>exact .none
 |bool b=>exact .bool b
 |int i t=>exact .int i t
 |str s t=>exact .str s t
 |node e=>exact .node e
 |lst e=>exact .lst e
 |dct e=>exact .dct e
 |dit e=>exact .dit e
 |tup e=>exact .tup e
 |own e=>exact absurd rfl (hn _)
 |glob e=>exact .glob e
 |bi n=>exact .bi n
theorem B4{v:V}(h:∀i,v≠.own i)(cs:Cs):view v cs=some v:=vOQ (Q:=λz=>z=some v) rfl λi e=>absurd e (h i)
theorem zA(v:V):(∃i,v=.own i)\/∀i,v≠.own i:=by
 induction v using V.casesOn with
 |own i=>exact .inl ⟨i,rfl⟩
 |_=>exact .inr λ_=>V.noConfusion
section
variable{prog:Program}{w:World}{s₀ s s':Shared}{γ:Gh}{ad:List Addr}{cs:Cs}{A:Around}{d:Nat}{cf:cO}{v:V}{u:Value}
theorem mW{h:Heap}{a:Addr}{o:Obj}{vs:Array Value}{n:Nat}(e:h.get? a=some o)(c:o.cls=.type "list")(dd:o.data=.seq vs n):h.IsList a vs:=⟨o,e,c,n,dd⟩
theorem VR.isOwn{i:Nat}(h:VR γ ad (.own i) u):∃a,u=.ref a/\ad[i]?=some a:=h.inv
theorem VR.isLst{l:List V}(h:VR γ ad (.lst l) u):∃a,u=.ref a/\γ a=some (.lst l):=h.inv
theorem VR.isDct{l:List (Str×V)}(h:VR γ ad (.dct l) u):∃a o,u=.ref a/\γ a=some (.dct l o):=h.inv
theorem VR.isTup{l:List V}(h:VR γ ad (.tup l) u):∃a,u=.ref a/\γ a=some (.tup l):=h.inv
theorem VR.isDit{l:List (Str×V)}(h:VR γ ad (.dit l) u):∃a,u=.ref a/\γ a=some (.dit l):=h.inv
theorem rW(hS:St w s₀ γ s)(hC:CsOk w γ ad cs){l:List V}(hv:VR γ ad v u)(h:view v cs=some (.lst l)):∃a vs,u=.ref a/\s.heap.IsList a vs/\AllR (VR γ []) l vs.toList:=by
 rcases zA v with⟨i,rfl⟩|hn
 ·refine hv.ownI λa e=>?_;refine eV h ?_;clear h;intro c hc hl;rw[oK]at hc;refine rP (hC.all.get e) λc' hc' o g hg q=>?_;rw[hc]at hc';obtain rfl:=aC hc';induction hf:c.frozen using Bool.casesOn with
  |true=>
   rw[hf]at q;clear hf;rw[hl]at hg;obtain rfl:=aC hg;refine nG (hS.ok.at_ _ _ q) λo h1 h2 vs n h3 h4=>?_;exact⟨a,vs,rfl,mW h1 h2 h3,h4⟩
  |false=>
   rw[hf]at q;obtain⟨h1,h2,_⟩:=q;clear right;rw[hl]at h2;refine yE (h2) λh2 vs n h3 h4=>?_;exact⟨a,vs,rfl,mW (hS.raw h1) h2 h3,h4⟩
 ·rw[B4 hn]at h;have h:=aC h;clear hn;subst h;refine hv.lstI λa e=>?_;refine nG (hS.ok.at_ _ _ e) λo h1 h2 vs n h3 h4=>?_;exact⟨a,vs,rfl,mW h1 h2 h3,h4⟩
theorem xU(hS:St w s₀ γ s)(hC:CsOk w γ ad cs){l:List (Str×V)}(hv:VR γ ad v u)(h:view v cs=some (.dct l)):∃a o,u=.ref a/\s.heap.get? a=some o/\uJ w γ o (.dct l):=by
 rcases zA v with⟨i,rfl⟩|hn
 ·refine hv.ownI λa e=>?_;refine eV h ?_;clear h;intro c hc hl;rw[oK]at hc;refine rP (hC.all.get e) λc' hc' o g hg q=>?_;rw[hc]at hc';obtain rfl:=aC hc';induction hf:c.frozen using Bool.casesOn with
  |true=>
   rw[hf]at q;clear hf;rw[hl]at hg;obtain rfl:=aC hg;obtain⟨h1,h2⟩:=hS.ok.at_ _ _ q;exact⟨a,o,rfl,h1,h2⟩
  |false=>
   rw[hf]at q;obtain⟨h1,h2,_⟩:=q;clear right;rw[hl]at h2;exact⟨a,o,rfl,hS.raw h1,h2⟩
 ·rw[B4 hn]at h;have h:=aC h;clear hn;subst h;refine hv.dctI λa o e=>?_;refine oA (hS.ok.at_ _ _ e) λh1 h2=>?_;exact⟨a,o,rfl,h1,h2⟩
def XH(s s':Shared):Prop:=s'.heap=s.heap/\s'.gens=s.gens/\s'.os=s.os
theorem XH.st(h:XH s s')(hS:St w s₀ γ s):St w s₀ γ s':=hS.like h.1 h.2.1 h.2.2
theorem oX(hC:CsOk w γ ad cs)(hv:VR γ ad v u){x:V}(h:view v cs=some x)(hx:∀o,NR o x=none):v=x/\VR γ [] v u:=by
 rcases zA v with⟨i,rfl⟩|hn
 ·refine hv.ownI λa e=>?_;refine eV h ?_;clear h;intro c hc hl;rw[oK]at hc;refine rP (hC.all.get e) λc' hc' o g hg q=>?_;clear q;rw[<-aC (hc.symm.trans hc'),hl,hx]at hg;exact aY hg
 ·clear hx;rw[B4 hn]at h;exact⟨aC h,hv.down hn⟩
theorem VR.isGlob{a:Addr}(h:VR γ ad (.glob a) u):u=.ref a/\isGlob a=true:=h.inv
theorem VR.isBi{n:Bi}(h:VR γ ad (.bi n) u):u=yZ n:=h.inv
theorem VR.isNone(h:VR γ ad .none u):u=.none:=h.inv
theorem VR.isBool{b:Bool}(h:VR γ ad (.bool b) u):u=.bool b:=h.inv
theorem vC(hS:St w s₀ γ s)(hC:CsOk w γ ad cs){b:Bool}(hv:VR γ ad v u)(h:eM v cs=some b):wpAny (model prog w) A (truthy u) (λc s'=>c=b/\XH s s') fW s:=by
  unfold eM at h
  induction e:view v cs using Option.casesOn with
  |none=>rw[e]at h;exact aY h
  |some x=>
    rw[e]at h
    induction x using V.casesOn with
    |none=>
      refine oA (oX hC hv e λ_=>rfl) λzr0 hv=>?_;subst zr0
      rw[hv.isNone,<-aC h];exact truthy_none ⟨rfl,rfl,rfl,rfl⟩
    |bool b'=>
      refine oA (oX hC hv e λ_=>rfl) λzr0 hv=>?_;subst zr0
      rw[hv.isBool,<-aC h];exact wpAny_truthy_bool ⟨rfl,rfl,rfl,rfl⟩
    |int i=>
      refine oA (oX hC hv e λ_=>rfl) λzr0 hv=>?_;subst zr0
      refine hv.intI λt=>?_
      rw[<-aC h]
      refine truthy_int ⟨?_,rfl,rfl,rfl⟩
      by_cases z:i=0<;>simp[z]
    |lst l=>
      refine dJ h ?_;clear h;intro hz h
      refine fM (rW hS hC hv e) λa vs zr2 h1 h2=>?_;subst zr2
      have eW:=h2.length
      have hz:=aX hz
      rw[<-aC h]
      clear h e hv hC
      refine wpAny_truthy_list h1 (by have:vs.size=vs.toList.length:=by simp
                                      lia) ⟨?_,rfl,rfl,rfl⟩
      obtain⟨vs⟩:=vs
      induction vs using List.casesOn with
      |nil=>clear eW hz;cases h2;rfl
      |cons _ _=>clear eW hz;cases h2;rfl
    |_=>exact aY h
theorem FC(hS:St w s₀ γ s){op:CmpOp}{x y:Int}{t t':Tok}{b:Bool}(h:Ou op x y=some b):wpAny (model prog w) A (compareOp op (.int x t) (.int y t')) (PN w s₀ γ (.bool b)) fW s:=by
 have fin:∀{c:Bool},c=b->PN w s₀ γ (.bool b) (.bool c) s:=λe=>by clear h;subst e;exact .mk' hS (.bool _)
 induction op using PySem.CmpOp.casesOn with
 |Eq=>exact eq_int (fin (Eq.trans (by by_cases z:x=y<;>simp[z]) (aC h)))
 |NotEq=>exact ne_int (fin (Eq.trans (by by_cases z:x=y<;>simp[z]) (aC h)))
 |Lt=>exact lt_int (fin (aC h))
 |LtE=>exact le_int (fin (aC h))
 |Gt=>exact gt_int (fin (aC h))
 |GtE=>exact ge_int (fin (aC h))
 |_=>exact aY h
theorem LX{P:V->V->CmpOp->Prop}{cf:cO}{v:V}(k1:∀op x y,(Ou op x y).map V.bool=some v->P (.int x) (.int y) op)(k2:∀p q,some (V.bool (lC p q))=some v->P (.str p) (.str q) .Eq)
  (k3:∀t y,((gU t .eq).bind λf=>cf f [.node t,.int y] [])=some v->P (.node t) (.int y) .Eq) (k4:∀t u,(bif Nat.beq t.cls u.cls then(gU t .eq).bind λf=>cf f [.node t,.node u] []else none)=some v->P (.node t) (.node u) .Eq)
  (k5:some (V.bool false)=some v->P .none .none .IsNot) (k6:∀d,some (V.bool true)=some v->P (.dct d) .none .IsNot) {a b:V} {op:CmpOp} (h:j3 cf op a b=some v):P a b op:=by
 induction a using V.casesOn with
 |int x=>
  induction b using V.casesOn with
  |int y=>exact k1 _ x y h
  |_=>exact aY h
 |str p=>
  induction b using V.casesOn with
  |str q=>
   induction op using PySem.CmpOp.casesOn with
   |Eq=>exact k2 p q h
   |_=>exact aY h
  |_=>exact aY h
 |node t=>
  induction b using V.casesOn with
  |int y=>
   induction op using PySem.CmpOp.casesOn with
   |Eq=>exact k3 t y h
   |_=>exact aY h
  |node u=>
   induction op using PySem.CmpOp.casesOn with
   |Eq=>exact k4 t u h
   |_=>exact aY h
  |_=>exact aY h
 |none=>
  induction b using V.casesOn with
  |none=>
   induction op using PySem.CmpOp.casesOn with
   |IsNot=>exact k5 h
   |_=>exact aY h
  |_=>exact aY h
 |dct d=>
  induction b using V.casesOn with
  |none=>
   induction op using PySem.CmpOp.casesOn with
   |IsNot=>exact k6 d h
   |_=>exact aY h
  |_=>exact aY h
 |_=>exact aY h
theorem eqs_b(p q:Str):(p.cps.toList==q.cps.toList)=lC p q:=by
 induction e:lC p q using Bool.casesOn with
 |true=>rw[fY e];simp
 |false=>
  refine cK.mpr λz=>l9.mp e ?_;obtain⟨⟨p⟩⟩:=p;clear e;obtain⟨⟨q⟩⟩:=q;rw[show p=q from z]
theorem FD(hB:Base w s₀)(hc:q8 prog w s₀ d cf)(hR:Room A d 0)(hS:St w s₀ γ s)(hF:Jf s₀ s){op:CmpOp}{a b:V}{x y:Value}(ha:VR γ [] a x)(hb:VR γ [] b y)(h:j3 cf op a b=some v):
  wpAny (model prog w) A (compareOp op x y) (PN w s₀ γ v) fW s:=by
 have hu:A.units<cLine:=by have:=hR.un;lia
 refine LX (P:=λa b op=>VR γ [] a x->VR γ [] b y->wpAny (model prog w) A (compareOp op x y) (PN w s₀ γ v) fW s) (λop x y h ha hb=>?_) (λp q h ha hb=>?_) (λt y h ha hb=>?_) (λt t' h ha hb=>?_) (λh ha hb=>?_) (λd h ha hb=>?_) h ha hb
 ·refine ha.intI λ_=>?_;refine hb.intI λ_=>?_;refine eV h ?_;clear h;intro c hc hrfl;clear h;subst hrfl;exact FC hS hc
 ·refine ha.strI λ_=>?_;refine hb.strI λ_=>?_;obtain rfl:=aC h;refine P.eq_str ?_;rw[eqs_b];exact .mk' hS (.bool _)
 ·refine ha.nodeI λa dx e=>?_;refine hb.intI λtk=>?_;refine bH h ?_;clear h;intro f hm h;refine kW (B1 hS e) λes k I r=>?_;obtain⟨L,m,F⟩:=id hF;obtain⟨q1,q2,_⟩:=rB w.params hm;exact cmp_K (op:=.Eq) hu F hB.K I (Looks.of_pure (r:=Value.type "int") rfl) (cP.mpr (.inr (beq_iff_eq.mpr (FA _ t)))) q1 q2 (aD (rV hc hR hS hF (.cons (.node e) (.cons (.int y tk) .nil)) .nil h) (λ_ _ z=>PN.back z) λ_ _ z=>z)
 ·refine ha.nodeI λa dx e=>?_;refine kW (hb.isNode) λb dx' zr2 e'=>?_;subst zr2;refine dJ h ?_;clear h;intro hcl h;refine bH h ?_;clear h;intro f hm h;refine kW (B1 hS e) λes k I r=>?_;obtain⟨L,m,F⟩:=id hF;obtain⟨q1,q2,_⟩:=rB w.params hm;exact cmp_K (op:=.Eq) hu F hB.K I (aA hcl▸sU hS e') (cP.mpr (.inl (beq_self_eq_true _))) q1 q2 (aD (rV hc hR hS hF (.cons (.node e) (.cons (.node e') .nil)) .nil h) (λ_ _ z=>PN.back z) λ_ _ z=>z)
 ·obtain rfl:=aC h;cases ha;cases hb;exact wpAny_isNot_self (by decide) (.mk' hS (.bool _))
 ·obtain rfl:=aC h;refine ha.dctI λ_ _ _=>?_;cases hb;exact wpAny_isNot_other rfl (by intro e;cases e) (.mk' hS (.bool _))
theorem XI(hS:St w s₀ γ s){i:Int}{t:Tok}:wpAny (model prog w) A (unaryOp .USub (.int i t)) (PN w s₀ γ (.int (-i))) fW s:=neg_int (.mk' hS (.int ..))
end
set_option tactic.hygienic true
noncomputable def XK(C:Addr):List Addr:=bif Nat.beq C 331 then[331,220]else bif Nat.beq C 277 then[277,220]else bif Nat.beq C 471 then[471,383,220]else bif Nat.beq C 512 then[512,383,220]
 else bif Nat.beq C 560 then[560,383,220]else[644,593,220]
theorem O7(t:T):t.mro=XK t.cls:=by induction t using T.casesOn<;>rfl
def LY(K:Frag)(C:Addr):Bool:=findIn K (.ref C) "__class__"==some (some (.builtin "object.__class__"))&&specialIn K (.builtin "object.__class__") "__get__"==some (some (.builtin "getset_descriptor.__get__"))&&
 takesIn K (.builtin "object.__class__")==some true&&mroIn K C (.type "object")==some true&&(Bx.all λD=>kitOne K (.ref C) (.ref D)==some ((XK C).any (Nat.beq D)))&&kitOne K (.ref C) (.type "int")==some false
theorem is1(P:Params):pS.all (LY (Kf P))=true:=by kernel_rfl!
theorem is2(P:Params):(kitOne (Kf P) (.type "int") (.type "int")==some true&&Bx.all λD=>kitOne (Kf P) (.type "int") (.ref D)==some false)=true:=by kernel_rfl!
section
variable{prog:Program}{w:World}{s₀ s s':Shared}{γ:Gh}{ad:List Addr}{cs:Cs}{A:Around}{d:Nat}{cf:cO}{v:V}{u:Value}
inductive TyOf:V->Value->Value->Prop
 |node {t:T} {a:Addr}:TyOf (.node t) (.ref a) (.ref t.cls)
 |int {i:Int} {t:Tok}:TyOf (.int i) (.int i t) (.type "int")
theorem QC{n:Bi}(h:Nat.beq n.ctorIdx 6=true):n=.int:=Bi.int.elim (motive:=λz=>z=.int) n (aA h) rfl
theorem zB{P:Prop}{v c:V}{b:Bool}(h:uG v c=some b)(k1:∀t a,v=.node t->c=.glob a->(bif Bx.any (Nat.beq a)then some (t.mro.any (Nat.beq a))else none)=some b->P)(k2:∀i a,v=.int i->c=.glob a->(bif Bx.any (Nat.beq a)then some false else none)=some b->P)
  (k3:∀i,v=.int i->c=.bi .int->true=b->P) (k4:∀t,v=.node t->c=.bi .int->false=b->P):P:=
 vNC h (λh=>X7 h nS λi ev h=>vGC h (λh=>vBE h nS λn ec h=>dJ h λhn h=>k3 i ev (by rw[ec,QC hn]) (aC h)) λa ec h=>k2 i a ev ec h)
  λt ev h=>vGC h (λh=>vBE h nS λn ec h=>dJ h λhn h=>k4 t ev (by rw[ec,QC hn]) (aC h)) λa ec h=>k1 t a ev ec h
theorem QD(P:Params)(t:T):(Bx.all λD=>kitOne (Kf P) (.ref t.cls) (.ref D)==some ((XK t.cls).any (Nat.beq D)))=true/\(kitOne (Kf P) (.ref t.cls) (.type "int")==some false)=true:=by
 have q:=aW.mp (is1 P) _ (jW t);unfold LY at q;refine oA (aL.mp q) λq q2=>?_;exact⟨(aL.mp q).2,q2⟩
theorem LZ{a:Addr}{x:Option Bool}{b:Bool}{f:Addr->Option Bool}(h:(bif Bx.any (Nat.beq a)then x else none)=some b)(hf:(Bx.all λD=>f D==x)=true):f a=some b:=by
 refine dJ h ?_;clear h;intro hm h;refine i8 (fJ.mp hm) λD hD e=>?_;rw[aA e,<-h];exact beq_iff_eq.mp (aW.mp hf _ hD)
theorem Ma(P:Params){c:V}{ux ty uc:Value}{b:Bool}(hT:TyOf v ux ty)(hc:VR γ ad c uc)(h:uG v c=some b):kitOne (Kf P) ty uc=some b:=by
 refine zB h (λt a ev ec k=>?_) (λi a ev ec k=>?_) (λi ev ec k=>?_) λt ev ec k=>?_
 ·clear h;subst ev ec;cases hT;rw[hc.isGlob.1];refine dJ k λhm k=>?_;refine i8 (fJ.mp hm) λD hD e=>?_;rw[aA e]at k;rw[aA e,<-k,O7];exact beq_iff_eq.mp (aW.mp (QD P t).1 _ hD)
 ·clear h;subst ev ec;cases hT;rw[hc.isGlob.1];exact LZ (f:=λD=>kitOne (Kf P) (.type "int") (.ref D)) k (aL.mp (is2 P)).2
 ·clear h;subst ev ec;cases hT;rw[hc.isBi,<-k];exact beq_iff_eq.mp (aL.mp (is2 P)).1
 ·clear h;subst ev ec;cases hT;rw[hc.isBi,<-k];exact beq_iff_eq.mp (QD P t).2
theorem Ij(P:Params){ux ty:Value}(hT:TyOf v ux ty):∀{l:List V} {us:List Value} {b:Bool},AllR (VR γ ad) l us->tL v l=some b->kitAny (Kf P) ty us=some b:=by
 intro l us b h;induction h with
 |nil=>intro e;cases hT<;>(refine e9 e ?_;rfl)
 |cons r _ ih=>
  intro e;rw[iI_c]at e;refine bH e ?_;clear e;intro c hc e;have k:=Ma P hT r hc;unfold kitAny;rw[k];induction c using Bool.casesOn with
  |true=>clear ih;refine e9 e ?_;rfl
  |false=>exact ih e
theorem w9{x c:V}{b:Bool}(h:uG x c=some b):(∃t,x=.node t)\/∃i,x=.int i:=
 zB h (λt _ e _ _=>.inl ⟨t,e⟩) (λi _ e _ _=>.inr ⟨i,e⟩) (λi e _ _=>.inr ⟨i,e⟩) λt e _ _=>.inl ⟨t,e⟩
theorem B5{x:V}{l:List V}{b:Bool}(h:tL x l=some b):(∃t,x=.node t)\/∃i,x=.int i:=by
 induction l using List.casesOn with
 |nil=>
  exact dJ h λc _=>(cP.mp c).elim (λc=>.inl (V.node.elim (motive_1:=λx=>∃t,x=.node t) x (aA c) λt=>⟨t,rfl⟩)) λc=>.inr (V.int.elim (motive_1:=λx=>∃t,x=.int t) x (aA c) λt=>⟨t,rfl⟩)
 |cons c r=>exact bH h λc' hc' _=>w9 hc'
theorem rX{x c:V}{b:Bool}(h:tM x c=some b):(∃t,x=.node t)\/∃i,x=.int i:=
 vTQ (Q:=λz=>z=some b->(∃t,x=.node t)\/∃i,x=.int i) w9 (λ_ _=>B5) h
theorem AH(hB:Base w s₀)(hS:St w s₀ γ s){x c:V}{ux uc:Value}{b:Bool}(hx:VR γ [] x ux)(hc:VR γ [] c uc)(h:tM x c=some b):
  wpAny (model prog w) A (call (.builtin "isinstance") [ux,uc]) (PN w s₀ γ (.bool b)) fW s:=by
 have X:=hB.K.keeps hS.keep;have fin:∀tk:Nat,PN w s₀ γ (.bool b) (.bool b) {s with toks:=tk}:=λtk=>.mk' hS (.bool b)
 have kind:∃ty H,TyOf x ux ty/\KitX (Kf w.params) ux ty H/\H s.heap/\ux≠.builtin "__main__.__loader__#opaque":=by
  rcases rX h with⟨t,rfl⟩|⟨i,rfl⟩
  ·refine hx.nodeI λa dx e=>?_;refine kW (B1 hS e) λes k I r=>?_;have q:=aW.mp (is1 w.params) _ (jW t);unfold LY at q;simp only[a9,beq_iff_eq]at q;exact⟨_,_,.node,kitx_own (rU _ t _) (q9 _ t) q.1.1.1.1.1 q.1.1.1.1.2 q.1.1.1.2 q.1.1.2,I,by intro z;cases z⟩
  ·refine hx.intI λt=>?_;exact⟨_,_,.int,kitx_int,trivial,by intro z;cases z⟩
 refine uE (kind) λty H hT Z hH f5=>?_;refine vTQ (Q:=λz=>z=some b->wpAny (model prog w) A (call (.builtin "isinstance") [ux,uc]) (PN w s₀ γ (.bool b)) fW s) (λh=>kia_one Z X hH (Ma _ hT hc h) f5 fin) (λl ec h4=>?_) h;clear h;subst ec;refine hc.tupI λa e=>?_;refine nG (hS.ok.at_ _ _ e) λo h1 h2 vs n h3 h4'=>?_;obtain⟨oc,od,oda,osl⟩:=o;dsimp only at h2 h3;subst h2 h3;exact kia_tup (its:=vs.toList) Z X hH (by simpa using h1) (Ij _ hT h4' h4) f5 fin
theorem XL(hS:St w s₀ γ s){i:Int}{t:Tok}:wpAny (model prog w) A (call (.builtin "abs") [.int i t]) (PN w s₀ γ (.int i.natAbs)) fW s:=by
 refine call_abs_int λu tk=>?_;have:(if i<0 then -i else i)=(i.natAbs:Int):=by split<;>lia
 rw[this];exact .mk' hS (.int ..)
theorem XM(hS:St w s₀ γ s){i:Int}{t:Tok}(h:v9 i=true):wpAny (model prog w) A (call (.type "str") [.int i t]) (PN w s₀ γ (.str (pR i))) fW s:=by
 have h:=aM h;refine P.str_of_int ?_ (.mk' hS (.str ..));by_cases hb:i.natAbs=0
 ·rw[hb];decide
 ·have:i.natAbs.log2<1900:=(Nat.log2_lt hb).mpr h;lia
theorem XN(hS:St w s₀ γ s){a:Addr}{vs:Array Value}{l:List V}(h:s.heap.IsList a vs)(r:AllR (VR γ []) l vs.toList)(hz:l.length<=100000):wpAny (model prog w) A (call (.builtin "len") [.ref a]) (PN w s₀ γ (.int l.length)) fW s:=by
 have hl:=r.length;have hl:l.length=vs.size:=by simpa using hl
 refine call_len_list h (by lia) ?_
 rw[<-hl];exact .mk' hS (.int ..)
theorem O8{γ:Gh}:∀{l:List V} {vs:List Value} {ss:List Str},AllR (VR γ ad) l vs->mT l=some ss->∃p:List (Str×Tok),vs=strValues p/\p.map (·.1)=ss:=by
 intro l vs ss h;induction h generalizing ss with
 |nil=>intro e;refine e9 e ?_;exact⟨[],rfl,rfl⟩
 |@cons a b l m r _ ih=>
  intro e;refine Q6 e nS λx ea e=>eV e λss' e1 hs=>?_;obtain⟨t,et⟩:=(ea▸r).isStr;refine i8 (ih e1) λp e2 e3=>?_;exact⟨(x,t)::p,by rw[et,e2];rfl,by rw[<-hs,<-e3];rfl⟩
theorem O9(hS:St w s₀ γ s){a:Addr}{vs:Array Value}{l:List V}{ss:List Str}{x:Str}{t:Tok}(h:s.heap.IsList a vs)(r:AllR (VR γ []) l vs.toList)(hs:mT l=some ss)(hj:JoinOk x ss=true):
  wpAny (model prog w) A (call (.builtin "str.join") [.str x t,.ref a]) (PN w s₀ γ (.str (Str.join x ss))) fW s:=by
 refine i8 (O8 r hs) λp h1 h2=>?_;have e:vs=(strValues p).toArray:=by rw[<-h1]
 clear h1 r;subst e;refine SC.join h h2 hj λt' k=>?_;rw[show Txt.join x ss=Str.join x ss from StrLaws.glued_eq_join x ss];exact .mk' hS (.str ..)
end
theorem zC:∀(i j:Nat) (c:Cn) (cs:Cs),(sJ i c cs)[j]?=if i=j/\i<cs.length then some c else cs[j]?
 |i,j,c,[]=>by simp[Ek,El,Em]
 |0,0,c,d::r=>by simp[Ek,El,Em]
 |0,j+1,c,d::r=>by simp[Ek,El,Em]
 |i+1,0,c,d::r=>by simp[Ek,El,Em]
 |i+1,j+1,c,d::r=>by
  have:=zC i j c r;simp only[Ek,El,Em,List.getElem?_cons_succ,this,bL];by_cases h:i=j/\i<r.length
  ·rw[if_pos h,if_pos (by lia)]
  ·rw[if_neg h,if_neg (by lia)]
theorem Do:∀(i:Nat) (c:Cn) (cs:Cs),(sJ i c cs).length=cs.length
 |i,_,[]=>by simp[Ek,El,Em]
 |0,_,_::_=>rfl
 |i+1,c,_::r=>by simp[Ek,El,Em,Do i c r]
theorem AllR.of{α β:Type}{R:α->β->Prop}:∀{l:List α} {m:List β},l.length=m.length->(∀(i:Nat) (a:α) (b:β),l[i]?=some a->m[i]?=some b->R a b)->AllR R l m:=by
 intro l;induction l with
 |nil=>
  intro m hl _;induction m using List.casesOn with
  |nil=>exact .nil
  |cons b m=>exact absurd hl (Nat.succ_ne_zero _).symm
 |cons a l ih=>
  intro m hl h;induction m using List.casesOn with
  |nil=>exact absurd hl (Nat.succ_ne_zero _)
  |cons b m=>exact .cons (h 0 a b rfl rfl) (ih (Nat.succ.inj hl) λi a' b' e e'=>h (i+1) a' b' e e')
section
variable{prog:Program}{w:World}{s₀ s s':Shared}{γ bP:Gh}{ad:List Addr}{cs:Cs}{A:Around}{v:V}{u:Value}
theorem Mb{l:List Addr}(h:l.Nodup){i j:Nat}{a:Addr}(e:l[i]?=some a)(e':l[j]?=some a):i=j:=by
 obtain⟨h1,e1⟩:=List.getElem?_eq_some_iff.mp e;obtain⟨h2,e2⟩:=List.getElem?_eq_some_iff.mp e';have hp:=List.pairwise_iff_getElem.mp h;rcases mM i j with q|q|q
 ·exact absurd (e1.trans e2.symm) (hp i j h1 h2 q)
 ·exact q
 ·exact absurd (e2.trans e1.symm) (hp j i h2 h1 q)
theorem CsOk.setAt(hC:CsOk w γ ad cs){i:Nat}{a:Addr}{o:Obj}{c:Cn}{g:G}(ha:ad[i]?=some a)(e:γ a=some (.raw o))(h:LQ w (iZ γ a (some g)) a c):CsOk w (iZ γ a (some g)) ad (sJ i c cs):=by
 refine⟨AllR.of (by rw[Do];exact hC.all.length) λj b c' hb hc'=>?_,hC.nd⟩
 rw[zC]at hc';by_cases hj:i=j
 ·subst hj;rw[ha]at hb;refine e9 hb ?_;have:i<cs.length:=by rw[<-hC.all.length];exact(List.getElem?_eq_some_iff.mp ha).1
  rw[if_pos ⟨rfl,this⟩]at hc';refine e9 hc' ?_;exact h
 ·rw[if_neg (λz=>hj z.1)]at hc';refine i8 (hC.all.get hb) λc'' h1 h2=>?_;rw[hc']at h1;obtain rfl:=aC h1;have ne:b≠a:=λz=>hj (Mb hC.nd ha (z▸hb));exact h2.step (X:=[]) (iQ λg' q=>by rw[e]at q;obtain rfl:=aC q;rfl) λo' q=>(cN ne).trans q
theorem CsOk.same(hC:CsOk w γ ad cs){i:Nat}{c:Cn}(hc:cs[i]?=some c):sJ i c cs=cs:=by
 refine List.ext_getElem? λj=>?_;rw[zC];split
 ·rename_i h;rw[<-h.1,hc]
 ·rfl
theorem OA{v:V}{g:G}{o:Obj}{h:Heap}{a:Addr}(e:NR o v=some g)(x:uJ w γ o v)(ho:h.get? a=some o):vB w γ h a g/\(∀t dx,g≠.node t dx):=by
 induction v using V.casesOn<;>(first|exact aY e|obtain rfl:=aC e)
 ·exact⟨⟨o,ho,x⟩,λ_ _ q=>by cases q⟩
 ·exact⟨⟨ho,x⟩,λ_ _ q=>by cases q⟩
theorem Mc{o:Obj}{v:V}{g:G}{a:Addr}(e:NR o v=some g)(q:γ a=some g):VR γ ad v (.ref a):=by
 induction v using V.casesOn<;>(first|exact aY e|obtain rfl:=aC e)
 ·exact .lst q
 ·exact .dct q
theorem Md{v:V}(h:∀i,v≠.own i)(cs:Cs):a8 v cs=some (v,cs):=vOQ (Q:=λz=>z=some (v,cs)) rfl λi e=>absurd e (h i)
theorem rE(hS:St w s₀ γ s)(hC:CsOk w γ ad cs)(hv:VR γ ad v u){v':V}{cW:Cs}(h:a8 v cs=some (v',cW)):∃bP,St w s₀ bP s/\CsOk w bP ad cW/\Step [] γ bP ad ad/\VR bP [] v' u:=by
 rcases zA v with⟨i,rfl⟩|hn
 ·refine hv.ownI λa e=>?_;refine eV (show((uF i cs).map λc=>(c.val,sJ i ⟨true,c.val⟩ cs))=some (v',cW)from h) λc hc h=>?_;obtain⟨e1,e2⟩:=Prod.mk.inj h;rw[<-e1,<-e2];clear h;clear h e1 e2;rw[oK]at hc;refine rP (hC.all.get e) λc' hc' o g hg q=>?_;rw[aC (hc'.symm.trans hc)]at hg q;induction hf:c.frozen using Bool.casesOn with
  |true=>
   rw[hf]at q;rw[show(⟨true,c.val⟩:Cn)=c by obtain⟨f,vv⟩:=c;clear q hg hc;cases hf;rfl,hC.same hc]
   exact⟨γ,hS,hC,.refl γ ad,Mc hg q⟩
  |false=>
   rw[hf]at q;obtain⟨h1,h2,_⟩:=q;obtain⟨r1,r2⟩:=OA (γ:=γ) hg h2 (hS.raw h1);exact⟨iZ γ a (some g),hS.tell h1 r2 r1,hC.setAt e h1 ⟨o,g,hg,bK ..⟩,gW g ad h1 (.inl (List.mem_of_getElem? e)) (λz=>by have:=Bz hg;rw[z]at this;exact jA this),Mc hg (bK ..)⟩
 ·obtain⟨e1,e2⟩:=Prod.mk.inj (aC ((Md hn cs).symm.trans h));rw[<-e1,<-e2];exact⟨γ,hS,hC,.refl γ ad,hv.down hn⟩
theorem mX:∀{vs:List V} {us:List Value} {γ:Gh} {cs:Cs} {ws:List V} {cW:Cs},St w s₀ γ s->CsOk w γ ad cs->AllR (VR γ ad) vs us->eX vs cs=some (ws,cW)->
  ∃bP,St w s₀ bP s/\CsOk w bP ad cW/\Step [] γ bP ad ad/\AllR (VR bP []) ws us:=by
 intro vs;induction vs with
 |nil=>
  intro us γ cs ws cW hS hC hv h;cases hv;cases h;exact⟨γ,hS,hC,.refl γ ad,.nil⟩
 |cons v r ih=>
  intro us γ cs ws cW hS hC hv h;cases hv with
  |cons hv hr=>
   refine bH h ?_;clear h;intro p hp h;refine eV h ?_;clear h;intro q hq h;refine l6 h ?_;refine nZ (rE hS hC hv hp) λaU a1 a2 a3 a4=>?_;refine nZ (ih a1 a2 (VRs.step hr a3) hq) λcL b1 b2 b3 b4=>?_;exact⟨cL,b1,b2,a3.trans b3,.cons (a4.mono b3.ext λi a e=>by simp at e) b4⟩
theorem Ex(hS:St w s₀ γ s)(hC:CsOk w γ ad cs){l:List V}{us:List Value}(r:AllR (VR γ []) l us)(hz:us.length<=1000):wpAny (model prog w) A (newList us) (PE w s₀ γ ad (gT (.lst l) cs).1 (gT (.lst l) cs).2) fW s:=by
 refine wpAny_newList (hsz:=aR hz (by decide)) ?_
 have hf:=hS.free;have hl:ad.length=cs.length:=hC.all.length;refine⟨_,ad++[s.heap.objs.size],hS.alloc _ rfl,hC.push hf rfl ⟨rfl,us.toArray,0,rfl,by simpa using r⟩,wG hf,?_⟩
 exact .own (by rw[<-hl];simp)
theorem sV(hS:St w s₀ γ s){l:List V}{us:List Value}(r:AllR (VR γ []) l us)(hz:us.length<=1000):wpAny (model prog w) A (newTuple us) (PN w s₀ γ (.tup l)) fW s:=by
 refine wpAny_newTuple (hsz:=aR hz (by decide)) ?_
 have hf:=hS.free;have st:=hS.alloc (s':={s with heap:=s.heap.push {cls:=.type "tuple",data:=.seq us.toArray}}) {cls:=.type "tuple",data:=.seq us.toArray} rfl
 have st2:=st.tell (g:=.tup l) (bK ..) (by intro _ _ q;cases q) ⟨_,st.raw (bK ..),rfl,us.toArray,0,rfl,by
  simpa using r.mono λ_ _ z=>z.mono (d6 (X:=[]) _ [] hf).ext λi a e=>by simp at e⟩
 have hu:iZ (iZ γ s.heap.objs.size (some (.raw {cls:=.type "tuple",data:=.seq us.toArray}))) s.heap.objs.size (some (.tup l))=iZ γ s.heap.objs.size (some (.tup l)):=by
  funext x;by_cases h:x=s.heap.objs.size<;>simp[iZ,h]
 rw[hu]at st2;exact⟨_,st2,d6 _ [] hf,.tup (bK ..)⟩
end
set_option tactic.hygienic false
theorem glob1(P:Params):AE.all (λp=>nsIn (Kf P) mainGlobals p.1==some (some (.ref p.2)))=true:=by kernel_rfl!
theorem bi1(P:Params):biT.all (λp=>nsIn (Kf P) mainGlobals p.1==some none&&bootBuiltins p.1==some (yZ p.2)&&!(p.1==("__name__":Str))&&!(p.1==("__debug__":Str)))=true:=by kernel_rfl!
theorem glob2:∀p∈AE,(p.1==("__debug__":Str))=false:=by decide+kernel
theorem zD(op:CmpOp){b:Expr}(hs:gD b=true):behindInMarks op b=false:=by
 induction b using PySem.Expr.casesOn<;>first|rfl|exact bX hs
theorem Ik(cf:cO)(op:Operator)(i:Nat)(b:V):cG cf op (.own i) b=none:=by induction b using V.casesOn<;>rfl
theorem Il(cf:cO)(op:Operator)(i:Nat)(a:V):cG cf op a (.own i)=none:=by induction a using V.casesOn<;>rfl
theorem AI(cf:cO)(op:CmpOp)(i:Nat)(b:V):j3 cf op (.own i) b=none:=by induction b using V.casesOn<;>rfl
theorem AJ(cf:cO)(op:CmpOp)(i:Nat)(a:V):j3 cf op a (.own i)=none:=by induction a using V.casesOn<;>rfl
section
variable{prog:Program}{w:World}{s₀ s s':Shared}{γ bP:Gh}{ad dU:List Addr}{cs cW:Cs}{A:Around}{d:Nat}{cf:cO}{v:V}{u:Value}{envM:Env}{sc:Scope}{env:Ev}
theorem PE.trans(x:Step [] γ bP ad dU)(h:PE w s₀ bP dU v cs u s):PE w s₀ γ ad v cs u s:=
 let⟨cL,eS,a,b,c,d⟩:=h;⟨cL,eS,a,b,x.trans c,d⟩
theorem PT.trans{b c:Bool}(x:Step [] γ bP ad dU)(h:PT w s₀ bP dU b cs c s):PT w s₀ γ ad b cs c s:=
 let⟨e,cL,eS,a,b,c⟩:=h;⟨e,cL,eS,a,b,x.trans c⟩
theorem fG{e:Expr}:e8 prog w s₀ A envM e (λ_ _=>none):=λ_ _ _ _ _ _ _ _ _ _ h=>by exact aY h
theorem wH(hE:EnvOk envM sc){x:Str}{p:Pos}{i:Nat}{k:NameKind}(hx:cJ x sc.names=some k)(hk:k=.local\/k=.cell\/k=.free)(hv:mQ x=some i):
  e8 prog w s₀ A envM (.Name x p) (λenv cs=>(dZ i env).map λv=>(v,cs)):=λs γ ad env cs v cW hS hC hF h=>by
 refine eV h ?_;clear h;intro v' h1 h;cases h;refine wpAny_Name ?_ (Ig hv);have loc:envM.kindOf x=some .local->wpAny (model prog w) A (loadName envM x) (PE w s₀ γ ad v cs) fW s:=λhl=>by
  refine fM (hF.loc) λo m a1 a2 a3=>?_;obtain⟨u,b1,b2⟩:=a3 x i v hv h1 hl;exact wpAny_loadName_local hE.kind hl (a2.ns (hS.raw a1)) b1 (.mk' hS hC b2)
 have cel:envM.kindOf x=some .cell\/envM.kindOf x=some .free->wpAny (model prog w) A (loadName envM x) (PE w s₀ γ ad v cs) fW s:=λhl=>by
  obtain⟨c,hc⟩:=hE.cells x hl;refine fM (hF.cel x c hc) λo cv a1 a2 a3=>?_;obtain⟨u,b1,b2⟩:=a3 i v hv h1 hl;have hI:s.heap.IsCell c (some u):=⟨o,hS.raw a1,b1▸a2⟩;rcases hl with hl|hl
  ·exact wpAny_loadName_cell hE.kind hl hc hI (.mk' hS hC b2)
  ·exact wpAny_loadName_free hE.kind hl hc hI (.mk' hS hC b2) (Az hv)
 rcases hE.names x k hx with q|⟨rfl,q⟩
 ·clear hx;rcases hk with rfl|rfl|rfl
  ·exact loc q
  ·exact cel (.inl q)
  ·exact cel (.inr q)
 ·exact cel (.inl q)
theorem OB(hB:Base w s₀)(hE:EnvOk envM sc){x:Str}{p:Pos}{a:Addr}(hx:cJ x sc.names=some .globalImplicit)(ha:cJ x AE=some a):e8 prog w s₀ A envM (.Name x p) (λ_ cs=>some (.glob a,cs)):=λs γ ad env cs v cW hS hC hF h=>by
 refine kU h ?_;have hm:=mV ha;have hk:envM.kindOf x=some .globalImplicit:=by rcases hE.names x _ hx with q|⟨q,_⟩<;>first|exact q|cases q
 refine A9 (hB.top) λp' lo mg mb T=>?_;have T':=T.keeps hS.keep;refine Name_function_global hE.kind hk (loadGlobal_global (by rw[hE.globals];exact T'.g) (mg_of hB.K T.g (beq_iff_eq.mp (aW.mp (glob1 w.params) _ hm))) ?_) (glob2 _ hm)
 exact .mk' hS hC (.glob (fJ.mpr ⟨_,hm,kK _⟩))
theorem ev_bi(hB:Base w s₀)(hE:EnvOk envM sc){x:Str}{p:Pos}{b:Bi}(hx:cJ x sc.names=some .globalImplicit)(hb:cJ x biT=some b):e8 prog w s₀ A envM (.Name x p) (λ_ cs=>some (.bi b,cs)):=λs γ ad env cs v cW hS hC hF h=>by
 refine kU h ?_;have hm:=aW.mp (bi1 w.params) _ (mV hb);simp only[a9,beq_iff_eq,Bool.not_eq_true',cK]at hm;obtain⟨⟨⟨h1,h2⟩,h3⟩,h4⟩:=hm;have hk:envM.kindOf x=some .globalImplicit:=by rcases hE.names x _ hx with q|⟨q,_⟩<;>first|exact q|cases q
 refine A9 (hB.top) λp' lo mg mb T=>?_;have T':=T.keeps hS.keep;refine Name_function_global hE.kind hk (loadGlobal_builtin (by rw[hE.globals];exact T'.g) (mg_none_of hB.K T.g h1) (by rw[hE.builtins];exact T'.b) ((T.builtins x h3).trans h2) ?_) (cK.mpr h4)
 exact .mk' hS hC (.bi b)
def EvX(prog:Program)(w:World)(s₀:Shared)(A:Around)(envM:Env)(e:Expr)(cf:cO)(r:Rec)(z:X):Prop:=e8 prog w s₀ A envM e (λenv cs=>dI cf r z env cs)
theorem OC{r:Rec}(hB:Base w s₀)(hE:EnvOk envM sc){x:Str}{p:Pos}:EvX prog w s₀ A envM (.Name x p) cf r (By sc x):=by
 unfold By;refine cQ (λc=>oQ fG λi hi=>?_) (bQ fG λc=>oQ (oQ fG λb hb=>ev_bi hB hE (lL c) hb) λa ha=>OB hB hE (lL c) ha);exact(cP.mp c).elim (λc=>(cP.mp c).elim (λc=>wH hE (lL c) (.inl rfl) hi) λc=>wH hE (lL c) (.inr (.inl rfl)) hi) λc=>wH hE (lL c) (.inr (.inr rfl)) hi
theorem Me{r:Rec}{A':cO}{c:Const}{k:Nat}{p:Pos}:e8 prog w s₀ A envM (.Constant c k p) (λenv cs=>dI A' r (Fz c) env cs):=λs γ ad env cs v cW hS hC hF h=>by
 induction c using PySem.Const.casesOn with
 |none=>refine kU h ?_;exact λ_ _ _=>PE.mk' hS hC .none
 |bool b=>refine kU h ?_;exact λ_ _ _=>PE.mk' hS hC (.bool _)
 |int i=>refine kU h ?_;exact wpAny_Constant_int (.mk' hS hC (.int ..))
 |str s=>refine kU h ?_;exact Constant_str (.mk' hS hC (.str ..))
 |_=>exact aY h
theorem XO(hB:Base w s₀)(hc:q8 prog w s₀ d cf)(hR:Room A d 0){a b:Expr}{fa fb:Ev->Cs->Option (V×Cs)}{op:Operator}{p:Pos}(ha:e8 prog w s₀ A envM a fa)(hb:e8 prog w s₀ A envM b fb):
  e8 prog w s₀ A envM (.BinOp a op b p) (λenv cs=>(fa env cs).bind λp=>(fb env p.2).bind λq=>(cG cf op p.1 q.1).map λv=>(v,q.2)):=λs γ ad env cs v cW hS hC hF h=>by
 refine bH h ?_;clear h;intro x h1 h;refine bH h ?_;clear h;intro y h2 h;refine eV h ?_;clear h;intro z h3 h;refine l6 h ?_;refine wpAny_BinOp (aD (ha s γ ad env cs _ _ hS hC hF h1) (λlF bZ q=>?_) λ_ _ z=>z);obtain⟨aU,bN,S1,C1,T1,V1⟩:=q;refine aD (hb bZ aU bN env _ _ _ S1 C1 (hF.step T1) h2) (λu₂ cZ q=>?_) λ_ _ z=>z;obtain⟨cL,eS,S2,C2,T2,V2⟩:=q;have n1:∀i,x.1≠.own i:=λi e=>by rw[e,Ik]at h3;exact aY h3
 have n2:∀i,y.1≠.own i:=λi e=>by rw[e,Il]at h3;exact aY h3
 exact aD (O6 hB hc hR S2 ((hF.step (T1.trans T2)).frm S2) ((V1.step T2).down n1) (V2.down n2) h3) (λ_ _ z=>(z.pe C2).trans (T1.trans T2)) λ_ _ z=>z
theorem XQ(hB:Base w s₀)(hc:q8 prog w s₀ d cf)(hR:Room A d 0){a b:Expr}{fa fb:Ev->Cs->Option (V×Cs)}{op:CmpOp}{p:Pos}(hs:gD b=true)(ha:e8 prog w s₀ A envM a fa)(hb:e8 prog w s₀ A envM b fb):
  e8 prog w s₀ A envM (.Compare a [op] [b] p) (λenv cs=>(fa env cs).bind λp=>(fb env p.2).bind λq=>(j3 cf op p.1 q.1).map λv=>(v,q.2)):=λs γ ad env cs v cW hS hC hF h=>by
 refine bH h ?_;clear h;intro x h1 h;refine bH h ?_;clear h;intro y h2 h;refine eV h ?_;clear h;intro z h3 h;refine l6 h ?_;have hm:=zD op hs;refine wpAny_Compare1 (aD (ha s γ ad env cs _ _ hS hC hF h1) (λlF bZ q=>?_) λ_ _ z=>z) hm;obtain⟨aU,bN,S1,C1,T1,V1⟩:=q;refine aD (hb bZ aU bN env _ _ _ S1 C1 (hF.step T1) h2) (λu₂ cZ q=>?_) λ_ _ z=>z;obtain⟨cL,eS,S2,C2,T2,V2⟩:=q;have n1:∀i,x.1≠.own i:=λi e=>by rw[e,AI]at h3;exact aY h3
 have n2:∀i,y.1≠.own i:=λi e=>by rw[e,AJ]at h3;exact aY h3
 exact aD (FD hB hc hR S2 ((hF.step (T1.trans T2)).frm S2) ((V1.step T2).down n1) (V2.down n2) h3) (λ_ _ z=>(z.pe C2).trans (T1.trans T2)) λ_ _ z=>z
theorem XS{a:Expr}{fa:Ev->Cs->Option (V×Cs)}{p:Pos}(ha:e8 prog w s₀ A envM a fa):
  e8 prog w s₀ A envM (.UnaryOp .USub a p) (λenv cs=>(fa env cs).bind λp=>match p.1 with|.int i=>some (.int (-i),p.2)|_=>none):=λs γ ad env cs v cW hS hC hF h=>by
 refine bH h ?_;clear h;intro x h1 h
 obtain⟨x1,x2⟩:=x
 induction x1 using V.casesOn<;>first|(exact aY h;done)|skip
 cases h
 refine wpAny_UnaryOp (aD (ha s γ ad env cs _ _ hS hC hF h1) (λlF bZ q=>?_) λ_ _ z=>z)
 obtain⟨aU,bN,S1,C1,T1,V1⟩:=q
 refine V1.intI λt=>?_
 exact aD (XI S1) (λ_ _ z=>(z.pe C1).trans T1) λ_ _ z=>z
theorem XT{t a b:Expr}{ft:Ev->Cs->Option (Bool×Cs)}{fa fb:Ev->Cs->Option (V×Cs)}{p:Pos}(ht:rR prog w s₀ A envM t ft)(ha:e8 prog w s₀ A envM a fa)(hb:e8 prog w s₀ A envM b fb):
  e8 prog w s₀ A envM (.IfExp t a b p) (λenv cs=>(ft env cs).bind λp=>bif p.1 then fa env p.2 else fb env p.2):=λs γ ad env cs v cW hS hC hF h=>by
 refine bH h ?_;clear h;intro x h1 h;refine wpAny_IfExp (aD (ht s γ ad env cs _ _ hS hC hF h1) (λc bZ q=>?_) λ_ _ z=>z);obtain⟨rfl,aU,bN,S1,C1,T1⟩:=q;induction hx:x.1 using Bool.casesOn with
 |true=>
  rw[hx]at h;exact aD (ha bZ aU bN env _ _ _ S1 C1 (hF.step T1) h) (λ_ _ z=>z.trans T1) λ_ _ z=>z
 |false=>
  rw[hx]at h;exact aD (hb bZ aU bN env _ _ _ S1 C1 (hF.step T1) h) (λ_ _ z=>z.trans T1) λ_ _ z=>z
theorem sW(hS:St w s₀ γ s)(hC:CsOk w γ ad cs){b:Bool}(hv:VR γ ad v u)(h:eM v cs=some b):wpAny (model prog w) A (truthy u) (PT w s₀ γ ad b cs) fW s:=
 aD (vC hS hC hv h) (λ_ _ z=>⟨z.1,γ,ad,z.2.st hS,hC,.refl γ ad⟩) λ_ _ z=>z
theorem OD{a b:Expr}{fa fb:Ev->Cs->Option (V×Cs)}{p:Pos}(ha:e8 prog w s₀ A envM a fa)(hb:e8 prog w s₀ A envM b fb):
  e8 prog w s₀ A envM (.BoolOp .And [a,b] p) (λenv cs=>(fa env cs).bind λp=>(eM p.1 p.2).bind λb=>bif b then fb env p.2 else some p):=λs γ ad env cs v cW hS hC hF h=>by
 refine bH h ?_;clear h;intro x h1 h;refine bH h ?_;clear h;intro t h2 h;refine wpAny_And2 (aD (ha s γ ad env cs _ _ hS hC hF h1) (λlF bZ q=>?_) λ_ _ z=>z);obtain⟨aU,bN,S1,C1,T1,V1⟩:=q;refine aD (vC S1 C1 V1 h2) (λc cZ q=>?_) λ_ _ z=>z;obtain⟨rfl,q⟩:=q;have S2:=q.st S1;induction c using Bool.casesOn with
 |true=>exact aD (hb cZ aU bN env _ _ _ S2 C1 (hF.step T1) h) (λ_ _ z=>z.trans T1) λ_ _ z=>z
 |false=>clear h2 h1;refine kU h ?_;exact⟨aU,bN,S2,C1,T1,V1⟩
end
set_option tactic.hygienic true
theorem mS{e:Expr}{r:List Expr}(h:gE (e::r)=true)(env:Env):starEach (e::r) env=(false,eval e env)::starEach r env/\gE r=true:=by
 induction e using PySem.Expr.casesOn<;>first|exact⟨rfl,h⟩|exact bX h
theorem Dp:∀{es:List Expr},gE es=true->∀(env:Env) (pos:Pos),(backTo pos (starEach es env)).any (·.1)=false
 |[],_,_,_=>rfl
 |e::r,h,env,pos=>by
  refine oA (mS h env) λa b=>?_;rw[a];exact(Dp b env pos)
theorem B6{o:Expr}(h:wD o=true)(a:Str)(env:Env)(whole:Sem Value):attributeBase o a env whole=whole:=by
 induction o using PySem.Expr.casesOn<;>try rfl
 rename_i f args kws p
 induction f using PySem.Expr.casesOn<;>try rfl
 induction args using List.casesOn<;>try rfl
 induction kws using List.casesOn<;>first|rfl|exact bX h
def XU(K:Frag)(C p:Addr)(n:Str)(f:Addr):Bool:=findIn K (.ref C) n==some (some (.ref p))&&specialIn K (.ref p) "__get__"==some (some (.builtin "property.__get__"))&&takesIn K (.ref p)==some true&&
 pU false (recIn K p "property") λl=>pU false l.head? λu=>sN false u λg=>Nat.beq g f
section
variable{prog:Program}{w:World}{s₀ s s':Shared}{γ bP:Gh}{ad dU:List Addr}{cs cW:Cs}{A:Around}{d:Nat}{cf:cO}{v:V}{u:Value}{envM:Env}{sc:Scope}{env:Ev}{r:Rec}
inductive PA(w:World)(s₀:Shared)(γ:Gh)(ad:List Addr)(vs:List V)(cW:Cs)(us:List Value)(s':Shared):Prop
 |mk (bP:Gh) (dU:List Addr):St w s₀ bP s'->CsOk w bP dU cW->Step [] γ bP ad dU->AllR (VR bP dU) vs us->PA w s₀ γ ad vs cW us s'
theorem B8{f:Expr->X}{pos:Pos}:∀{es:List Expr},(∀e∈es,e8 prog w s₀ A envM e (λenv cs=>r.ev (f e) env cs))->gE es=true->
  ∀{s:Shared} {γ:Gh} {ad:List Addr} {env:Ev} {cs cW:Cs} {vs:List V},St w s₀ γ s->CsOk w γ ad cs->FmOk γ ad envM env->Fx r env (es.map f) cs=some (vs,cW)->
  wpAny (model prog w) A (spliced (backTo pos (starEach es envM))) (PA w s₀ γ ad vs cW) fW s:=by
 intro es;induction es with
 |nil=>
  intro _ _ s γ ad env cs cW vs hS hC hF h;refine kU h ?_;exact args_nil ⟨γ,ad,hS,hC,.refl γ ad,.nil⟩
 |cons e rest ih=>
  intro he hn s γ ad env cs cW vs hS hC hF h;refine bH h ?_;clear h;intro x h1 h;refine eV h ?_;clear h;intro y h2 h;refine l6 h ?_;refine oA (mS hn envM) λa b=>?_;refine args_cons (aD (he e aE s γ ad env _ _ _ hS hC hF h1) (λlF bZ q=>?_) λ_ _ z=>z) a;obtain⟨aU,bN,S1,C1,T1,V1⟩:=q;refine aD (ih (λe' m=>he e' (aI _ m)) b S1 C1 (hF.step T1) h2) (λus cZ q=>?_) λ_ _ z=>z;obtain⟨cL,eS,S2,C2,T2,V2⟩:=q;exact⟨cL,eS,S2,C2,T1.trans T2,.cons (V1.step T2) V2⟩
theorem B9{f:Expr->X}{pos:Pos}:∀{ks:List Keyword} {l:List (Nat×X)},Dj f ks=some l->(∀k∈ks,e8 prog w s₀ A envM k.value (λenv cs=>r.ev (f k.value) env cs))->
  (backToKw pos (keywordEach ks envM)).all (·.1.isSome)=true/\(backToKw pos (keywordEach ks envM)).any (·.1.isNone)=false/\
  ∀{s:Shared} {γ:Gh} {ad:List Addr} {env:Ev} {cs cW:Cs} {vs:List (Nat×V)},St w s₀ γ s->CsOk w γ ad cs->FmOk γ ad envM env->yX r env l cs=some (vs,cW)->
  wpAny (model prog w) A (evalAll ((backToKw pos (keywordEach ks envM)).map (·.2))) (λus s'=>∃bP dU,St w s₀ bP s'/\CsOk w bP dU cW/\Step [] γ bP ad dU/\AllR (QB bP) vs (((backToKw pos (keywordEach ks envM)).filterMap (·.1)).zip us)) fW s:=by
 intro ks;induction ks with
 |nil=>
  intro l hl _;refine e9 hl ?_;refine⟨rfl,rfl,?_⟩;intro s γ ad env cs cW vs hS hC hF h;cases h;exact kwAll_nil ⟨γ,ad,hS,hC,.refl γ ad,.nil⟩
 |cons k rest ih=>
  intro l hl he;unfold Dj at hl;split at hl
  ·rename_i i hi;split at hl
   ·rename_i l' hl';refine e9 hl ?_;obtain⟨a,value,p⟩:=k;induction a using Option.casesOn with
    |none=>exact aY hi
    |some n=>
     refine Aq (ih hl' λk' m=>he k' (aI _ m)) λa1 a2 a3=>?_;refine⟨a1,a2,?_⟩;intro s γ ad env cs cW vs hS hC hF h;refine bH h ?_;clear h;intro x h1 h;induction ho:isOwn x.1 using Bool.casesOn with
     |true=>rw[ho]at h;exact aY h
     |false=>
      rw[ho]at h;refine eV h ?_;clear h;intro y h2 h;refine l6 h ?_;refine kwAll_cons (aD (he _ aE s γ ad env _ _ _ hS hC hF h1) (λlF bZ q=>?_) λ_ _ z=>z);obtain⟨aU,bN,S1,C1,T1,V1⟩:=q;refine aD (a3 S1 C1 (hF.step T1) h2) (λus cZ q=>?_) λ_ _ z=>z;refine uE (q) λcL eS S2 C2 T2 V2=>?_;refine⟨cL,eS,S2,C2,T1.trans T2,.cons ⟨hi,?_⟩ V2⟩;exact(V1.down λi e=>by rw[e]at ho;exact jA ho).mono T2.ext λi a e=>by simp at e
   ·exact aY hl
  ·exact aY hl
theorem sX{f:Expr->X}{g:Value}{pos:Pos}{es:List Expr}{ks:List Keyword}{l:List (Nat×X)}(he:∀e∈es,e8 prog w s₀ A envM e (λenv cs=>r.ev (f e) env cs))(hn:gE es=true)
  (hl:Dj f ks=some l) (hk:∀k∈ks,e8 prog w s₀ A envM k.value (λenv cs=>r.ev (f k.value) env cs)) {vs:List V} {kvs:List (Nat×V)} {kT:Cs}
  (hS:St w s₀ γ s) (hC:CsOk w γ ad cs) (hF:FmOk γ ad envM env) (h1:Fx r env (es.map f) cs=some (vs,kT)) (h2:yX r env l kT=some (kvs,cW)):
  wpAny (model prog w) A (evalArgs g true (backTo pos (starEach es envM)) (backToKw pos (keywordEach ks envM)))
   (λa s'=>∃bP dU,St w s₀ bP s'/\CsOk w bP dU cW/\Step [] γ bP ad dU/\AllR (VR bP dU) vs a.pos/\AllR (QB bP) kvs a.kw) fW s:=by
 refine Aq (B9 (pos:=pos) hl hk) λa1 a2 a3=>?_;induction es using List.casesOn with
 |nil=>
  cases h1;refine evalArgs_kw2_nil a1 (aD (a3 hS hC hF h2) (λus cZ q=>?_) λ_ _ z=>z);refine uE (q) λcL eS S2 C2 T2 V2=>?_;exact⟨cL,eS,S2,C2,T2,.nil,V2⟩
 |cons e rest=>
  refine evalArgs_kw2 a1 (aD (B8 he hn hS hC hF h1) (λus bZ q=>?_) λ_ _ z=>z) (mS hn envM).1;obtain⟨aU,bN,S1,C1,T1,V1⟩:=q;refine aD (a3 S1 C1 (hF.step T1) h2) (λus cZ q=>?_) λ_ _ z=>z;refine uE (q) λcL eS S2 C2 T2 V2=>?_;exact⟨cL,eS,S2,C2,T1.trans T2,VRs.step V1 T2,V2⟩
theorem OE(v:V)(cs:Cs):gT v cs=(.own cs.length,cs++[⟨false,v⟩]):=rfl
theorem FE{env:Ev}:∀(l:List X) (cs:Cs) (p:List V×Cs),Fx r env l cs=some p->p.1.length=l.length:=by
 intro l;induction l with
 |nil=>intro cs p e;refine kU e ?_;rfl
 |cons a b ih=>
  intro cs p e;refine bH e ?_;clear e;intro _ _ e;refine eV e ?_;clear e;intro _ e1 e;refine l6 e ?_;simp[ih _ _ e1]
theorem OF{f:Expr->X}{es:List Expr}{p:Pos}(he:∀e∈es,e8 prog w s₀ A envM e (λenv cs=>r.ev (f e) env cs))(hn:gE es=true):
  e8 prog w s₀ A envM (.List es p) (λenv cs=>dI cf r (.list (es.map f)) env cs):=λs γ ad env cs v cW hS hC hF h=>by
 replace h:(bif !Nat.blt (es.map f).length 20 then none else(Fx r env (es.map f) cs).bind λp=>(eX p.1 p.2).map λq=>gT (.lst q.1) q.2)=some (v,cW):=h;refine vA h ?_;clear h;intro hb h;refine bH h ?_;clear h;intro x h1 h;refine eV h ?_;clear h;intro y h2 h;have hb:=aX hb;refine List_ (aD (B8 he hn hS hC hF h1) (λus bZ q=>?_) λ_ _ z=>z);obtain⟨aU,bN,S1,C1,T1,V1⟩:=q;refine nZ (mX S1 C1 V1 h2) λcL S2 C2 T2 V2=>?_;have hz:us.length<=1000:=by have l2:=V1.length;have:=FE _ _ _ h1;lia
 have:=Ex (prog:=prog) (A:=A) S2 C2 V2 hz;rw[h]at this;exact aD this (λ_ _ z=>z.trans (T1.trans T2)) λ_ _ z=>z
theorem Mf{f:Expr->X}{es:List Expr}{k:Nat}{p:Pos}(he:∀e∈es,e8 prog w s₀ A envM e (λenv cs=>r.ev (f e) env cs))(hn:gE es=true):
  e8 prog w s₀ A envM (.Tuple es k p) (λenv cs=>dI cf r (.tup (es.map f)) env cs):=λs γ ad env cs v cW hS hC hF h=>by
 replace h:(bif !Nat.blt (es.map f).length 20 then none else(Fx r env (es.map f) cs).bind λp=>(eX p.1 p.2).map λq=>(V.tup q.1,q.2))=some (v,cW):=h;refine vA h ?_;clear h;intro hb h;refine bH h ?_;clear h;intro x h1 h;refine eV h ?_;clear h;intro y h2 h;refine l6 h ?_;have hb:=aX hb;refine Tuple_ (aD (B8 he hn hS hC hF h1) (λus bZ q=>?_) λ_ _ z=>z);obtain⟨aU,bN,S1,C1,T1,V1⟩:=q;refine nZ (mX S1 C1 V1 h2) λcL S2 C2 T2 V2=>?_;have hz:us.length<=1000:=by have l2:=V1.length;have:=FE _ _ _ h1;lia
 exact aD (sV S2 V2 hz) (λ_ _ z=>(z.pe C2).trans (T1.trans T2)) λ_ _ z=>z
end
def FF(K:Frag)(C:Addr)(n:Str)(f:Addr):Bool:=pU false (findIn K (.ref C) n) λr=>pU false r λu=>sN false u λp=>XU K C p n f
theorem prp1(P:Params):(pS.all (λC=>FF (Kf P) C L8 71)&&FF (Kf P) 644 jV 640)=true:=by kernel_rfl!
section
variable{prog:Program}{w:World}{s₀ s s':Shared}{γ bP:Gh}{ad dU:List Addr}{cs cW:Cs}{A:Around}{d:Nat}{cf:cO}{v:V}{u:Value}{envM:Env}{sc:Scope}{env:Ev}{r:Rec}
theorem FG(hB:Base w s₀)(hc:q8 prog w s₀ d cf)(hR:Room A d 1)(hS:St w s₀ γ s)(hF:Jf s₀ s){a dx:Addr}{t:T}{n:Str}{f:Addr}(e:γ a=some (.node t dx))(hp:FF (Kf w.params) t.cls n f=true)(h:cf f [.node t] []=some v):
  wpAny (model prog w) A (getAttr (.ref a) n true) (PN w s₀ γ v) fW s:=by
 refine kW (B1 hS e) λes k I r=>?_;obtain⟨L,m,F⟩:=id hF;refine oE hp nT λr er hp=>oE hp nT λu eu hp=>GV hp nT λp ep hp=>fF hp λhp h4=>fF hp λhp h3=>fF hp λh1 h2=>oE h4 nT λl h5 h4=>oE h4 nT λu' h6 h4=>GV h4 nT λg h7 k4=>?_;have h5:recIn (Kf w.params) p "property"=some (.ref f::l.tail):=by
  rw[h5];induction l using List.casesOn with
  |nil=>exact aY h6
  |cons x r=>rw[show x=_ from aC h6,h7,aA k4];rfl
 refine get_prop F hB.K I (rU _ t _) (q9 _ t) (beq_iff_eq.mp h1) (beq_iff_eq.mp h2) (beq_iff_eq.mp h3) h5 ?_;have S1:St w s₀ γ {s with toks:=s.toks+1}:=hS.like
 refine codeAny_mono (hc A.in1 _ γ f _ _ [] [] v hR.in1 S1 ⟨L,m,F⟩ (.cons (.node e) .nil) .nil h) λr s' z=>?_;obtain⟨u,bP,rfl,a1,a2,a3⟩:=z;exact handed_on a3.handed ⟨bP,a1,a2,a3⟩
theorem OG(hB:Base w s₀)(hc:q8 prog w s₀ d cf)(hR:Room A d 1)(hS:St w s₀ γ s)(hF:Jf s₀ s){a:V}{x:Value}{n:Nm}(ha:VR γ ad a x)(h:jD cf a n=some v):
  wpAny (model prog w) A (getAttr x (sO n) true) (PN w s₀ γ v) fW s:=by
 refine vNE h nS λt ea k=>?_;clear h;have h:=k;clear k;subst ea;refine ha.nodeI λa dx e=>?_;have hp:=prp1 w.params;rw[a9]at hp;induction c1:Nat.beq n.ctorIdx 7 using Bool.casesOn with
 |true=>
  clear ha;rw[c1]at h;refine bH h λr hr h=>Q6 h nS λs er h=>?_;rw[Nm.key.elim (motive:=λz=>z=.key) n (aA c1) rfl,<-aC h];exact FG hB hc hR hS hF e (aW.mp hp.1 _ (jW t)) (er▸hr)
 |false=>
  rw[c1]at h;induction c2:Nat.beq n.ctorIdx 8 using Bool.casesOn with
  |true=>
   clear c1 ha;rw[c2]at h;refine dJ h λct h=>?_;rw[Nm.flat.elim (motive:=λz=>z=.flat) n (aA c2) rfl];exact FG hB hc hR hS hF e (T.sum.elim (motive_1:=λt=>FF (Kf w.params) t.cls jV 640=true) t (aA ct) λ_=>hp.2) h
  |false=>
   rw[c2]at h;exact B3 hB hS hF e h
theorem OH(hB:Base w s₀)(hc:q8 prog w s₀ d cf)(hR:Room A d 1){o:Expr}{f:Expr->X}{a:Str}{p:Pos}(ho:e8 prog w s₀ A envM o (λenv cs=>r.ev (f o) env cs)):EvX prog w s₀ A envM (.Attribute o a p) cf r (Es f o a):=by
 refine bQ fG λhb=>oQ fG λm hm=>λs γ ad env cs v cW hS hC hF h=>?_;refine bH h ?_;clear h;intro x h1 h;refine eV h ?_;clear h;intro y h2 h;cases h;rw[LS hm];refine Attribute_any_ (aD (ho s γ ad env cs _ _ hS hC hF h1) (λlF bZ q=>?_) λ_ _ z=>z) (by show(do let x<-attributeBase o (sO m) envM (eval o envM);standAt p.atName;let r<-holding [x] (getAttr x (sO m) true);letTemporaryGo o x r;pure r)=_;rw[B6 hb])
 obtain⟨aU,bN,S1,C1,T1,V1⟩:=q;exact aD (OG hB hc hR S1 ((hF.step T1).frm S1) V1 h2) (λ_ _ z=>(z.pe C1).trans T1) λ_ _ z=>z
theorem Mg{p:Pos}:e8 prog w s₀ A envM (.Dict [] [] p) (λ_ cs=>some (gT (.dct []) cs)):=λs γ ad env cs v cW hS hC hF h=>by
 have hf:=hS.free;have hl:ad.length=cs.length:=hC.all.length;refine wpAny_Dict_empty ?_;refine kU h ?_;refine⟨_,ad++[s.heap.objs.size],hS.alloc _ rfl,hC.push hf rfl ⟨⟨rfl,rfl,rfl⟩,#[],0,rfl,.nil,by simp⟩,wG hf,?_⟩
 exact .own (by rw[<-hl];simp)
theorem XV{e:Expr}{fv:Ev->Cs->Option (V×Cs)}(he:∀whole,isTrue e envM whole=(do let v<-whole;standAt e.pos;holding [v] (truthy v)))(hv:e8 prog w s₀ A envM e fv):
  rR prog w s₀ A envM e (λenv cs=>(fv env cs).bind λp=>(eM p.1 p.2).map λb=>(b,p.2)):=λs γ ad env cs b cW hS hC hF h=>by
 refine bH h ?_;clear h;intro x h1 h;refine eV h ?_;clear h;intro y h2 h;refine l6 h ?_;refine isTrue_plain (aD (hv s γ ad env cs _ _ hS hC hF h1) (λlF bZ q=>?_) λ_ _ z=>z) (he _);obtain⟨aU,bN,S1,C1,T1,V1⟩:=q;exact aD (sW S1 C1 V1 h2) (λ_ _ z=>z.trans T1) λ_ _ z=>z
def BA(prog:Program)(w:World)(s₀:Shared)(A:Around)(envM:Env)(e:Expr)(cf:cO)(r:Rec)(z:X):Prop:=rR prog w s₀ A envM e (λenv cs=>yY cf r z env cs)
theorem BB{e:Expr}{x:X}(he:∀whole,isTrue e envM whole=(do let v<-whole;standAt e.pos;holding [v] (truthy v)))(hv:EvX prog w s₀ A envM e cf r x)(hx:spX x=false)(hp:plX x=true):BA prog w s₀ A envM e cf r x:=
 λs γ ad env cs b cW hS hC hF h=>XV he hv s γ ad env cs b cW hS hC hF ((LG hx hp env cs).symm.trans h)
theorem fH{e:Expr}:rR prog w s₀ A envM e (λ_ _=>none):=λ_ _ _ _ _ _ _ _ _ _ h=>by exact aY h
theorem XW{e:Expr}{ft:Ev->Cs->Option (Bool×Cs)}{p:Pos}(ht:rR prog w s₀ A envM e ft):rR prog w s₀ A envM (.UnaryOp .Not e p) (λenv cs=>(ft env cs).map λp=>(!p.1,p.2)):=λs γ ad env cs b cW hS hC hF h=>by
 refine eV h ?_;clear h;intro x h1 h;refine l6 h ?_;refine isTrue_not (aD (ht s γ ad env cs _ _ hS hC hF h1) (λc bZ q=>?_) λ_ _ z=>z);obtain⟨rfl,aU,bN,S1,C1,T1⟩:=q;exact⟨rfl,aU,bN,S1,C1,T1⟩
theorem XX{e:Expr}{fa:Ev->Cs->Option (V×Cs)}{p:Pos}(ha:e8 prog w s₀ A envM e fa):e8 prog w s₀ A envM (.UnaryOp .Not e p) (λenv cs=>(fa env cs).bind λp=>(eM p.1 p.2).map λb=>(.bool (!b),p.2)):=λs γ ad env cs v cW hS hC hF h=>by
 refine bH h ?_;clear h;intro x h1 h;refine eV h ?_;clear h;intro y h2 h;refine l6 h ?_;refine wpAny_UnaryOp (aD (ha s γ ad env cs _ _ hS hC hF h1) (λlF bZ q=>?_) λ_ _ z=>z);obtain⟨aU,bN,S1,C1,T1,V1⟩:=q;refine not_of (aD (vC S1 C1 V1 h2) (λc cZ q=>?_) λ_ _ z=>z);clear h2;obtain⟨rfl,q⟩:=q;exact⟨aU,bN,q.st S1,C1,T1,.bool _⟩
theorem XY(hB:Base w s₀)(hc:q8 prog w s₀ d cf)(hR:Room A d 0){a b:Expr}{fa fb:Ev->Cs->Option (V×Cs)}{op:CmpOp}{p:Pos}(hs:gD b=true)(ha:e8 prog w s₀ A envM a fa)(hb:e8 prog w s₀ A envM b fb):
  rR prog w s₀ A envM (.Compare a [op] [b] p) (λenv cs=>((fa env cs).bind λp=>(fb env p.2).bind λq=>(j3 cf op p.1 q.1).map λv=>(v,q.2)).bind λp=>(eM p.1 p.2).map λb=>(b,p.2)):=λs γ ad env cs t cW hS hC hF h=>by
 refine bH h ?_;clear h;intro z h h4;refine bH h ?_;clear h;intro x h1 h;refine bH h ?_;clear h;intro y h2 h;refine eV h ?_;clear h;intro v h3 h;cases h;refine eV h4 ?_;clear h4;intro c h6 h5;cases h5;have hm:=zD op hs;refine wpAny_isTrue_Compare1 (aD (ha s γ ad env cs _ _ hS hC hF h1) (λlF bZ q=>?_) λ_ _ z=>z) hm;obtain⟨aU,bN,S1,C1,T1,V1⟩:=q;refine aD (hb bZ aU bN env _ _ _ S1 C1 (hF.step T1) h2) (λu₂ cZ q=>?_) λ_ _ z=>z;obtain⟨cL,eS,S2,C2,T2,V2⟩:=q;have n1:∀i,x.1≠.own i:=λi e=>by rw[e,AI]at h3;exact aY h3
 have n2:∀i,y.1≠.own i:=λi e=>by rw[e,AJ]at h3;exact aY h3
 refine aD (FD hB hc hR S2 ((hF.step (T1.trans T2)).frm S2) ((V1.step T2).down n1) (V2.down n2) h3) (λu₃ lR q=>?_) λ_ _ z=>z;obtain⟨iY,ad₃,S3,C3,T3,V3⟩:=q.pe C2;exact aD (sW S3 C3 V3 h6) (λ_ _ z=>z.trans ((T1.trans T2).trans T3)) λ_ _ z=>z
theorem Ey{f:Expr->X}{isAnd:Bool}{p:Pos}:∀{es:List Expr},(∀e∈es,rR prog w s₀ A envM e (λenv cs=>r.ts (f e) env cs))->
  rR prog w s₀ A envM (.BoolOp (bif isAnd then .And else .Or) es p) (λenv cs=>LD r env isAnd (es.map f) cs):=by
 intro es;induction es with
 |nil=>
  intro _ s γ ad env cs b cW hS hC hF h;refine kU h ?_;induction isAnd using Bool.casesOn with
  |true=>exact isTrue_and_nil ⟨rfl,γ,ad,hS,hC,.refl γ ad⟩
  |false=>exact isTrue_or_nil ⟨rfl,γ,ad,hS,hC,.refl γ ad⟩
 |cons e rest ih=>
  intro he s γ ad env cs b cW hS hC hF h;refine bH h ?_;clear h;intro x h1 h;have ih:=ih λe' m=>he e' (aI _ m);have first:=he e aE s γ ad env _ _ _ hS hC hF h1;induction isAnd using Bool.casesOn with
  |true=>
   refine isTrue_and (aD first (λc bZ q=>?_) λ_ _ z=>z);obtain⟨rfl,aU,bN,S1,C1,T1⟩:=q;induction hx:x.1 using Bool.casesOn with
   |true=>
    rw[hx]at h;exact aD (ih bZ aU bN env _ _ _ S1 C1 (hF.step T1) h) (λ_ _ z=>z.trans T1) λ_ _ z=>z
   |false=>
    rw[hx]at h;refine kU h ?_;exact⟨rfl,aU,bN,S1,C1,T1⟩
  |false=>
   refine isTrue_or (aD first (λc bZ q=>?_) λ_ _ z=>z);obtain⟨rfl,aU,bN,S1,C1,T1⟩:=q;induction hx:x.1 using Bool.casesOn with
   |false=>
    rw[hx]at h;exact aD (ih bZ aU bN env _ _ _ S1 C1 (hF.step T1) h) (λ_ _ z=>z.trans T1) λ_ _ z=>z
   |true=>
    rw[hx]at h;refine kU h ?_;exact⟨rfl,aU,bN,S1,C1,T1⟩
end
theorem vD(a b:Nat):Nat.blt a b=decide (a<b):=by
 induction h:Nat.blt a b using Bool.casesOn with
 |true=>exact(aH (aX h)).symm
 |false=>exact(aK λz=>by rw[show Nat.blt a b=true from aV z]at h;exact jA h).symm
theorem vE(a b:Nat):Nat.beq a b=decide (a=b):=by
 induction h:Nat.beq a b using Bool.casesOn with
 |true=>exact(aH (aA h)).symm
 |false=>exact(aK λz=>by subst z;rw[kK]at h;exact jA h).symm
theorem Mh:∀a b:List Nat,Cp a b=!PySem.Spec.ltCps b a
 |[],[]=>rfl
 |[],_::_=>rfl
 |_::_,[]=>rfl
 |a::x,b::y=>by
  unfold Cp PySem.Spec.ltCps;rw[Mh x y,vD,vE];rcases mM a b with h|h|h
  ·simp[h,nE h,eU h,(eU h).symm]
  ·subst h;simp
  ·simp[h,nE h,sF h,(sF h).symm]
theorem AK:∀a b:List Nat,Cp a b=true\/Cp b a=true
 |[],_=>.inl (by unfold Cp;rfl)
 |_::_,[]=>.inr rfl
 |a::x,b::y=>by
  unfold Cp;rw[vD,vE,vD,vE];rcases mM a b with h|h|h
  ·simp[h]
  ·subst h;simpa using AK x y
  ·simp[h]
theorem Dq:∀{a b:List Nat},Cp a b=true->Cp b a=true->a=b
 |[],[],_,_=>rfl
 |[],_::_,_,h=>by exact bX h
 |_::_,[],h,_=>by exact bX h
 |a::x,b::y,h,h'=>by
  unfold Cp at h h';rw[vD,vE]at h h';rcases mM a b with q|q|q
  ·simp[q,nE q,(eU q).symm]at h'
  ·subst q;have:x=y:=Dq (by simpa using h) (by simpa using h')
   rw[this]
  ·simp[q,nE q,(eU q).symm]at h
theorem wI:∀{a b c:List Nat},Cp a b=true->Cp b c=true->Cp a c=true
 |[],_,_,_,_=>by unfold Cp;rfl
 |_::_,[],_,h,_=>by exact bX h
 |_::_,_::_,[],_,h=>by exact bX h
 |a::x,b::y,c::z,h,h'=>by
  unfold Cp at h h'⊢;rw[vD,vE]at h h'⊢;by_cases h1:a<b<;>by_cases h2:b<c
  ·simp[bA h1 h2]
  ·simp[h2]at h';have e:b=c:=by by_cases e:b=c<;>simp_all
   clear h' h2;subst e;simp[h1]
  ·simp[h1]at h;have e:a=b:=by by_cases e:a=b<;>simp_all
   clear h h1 h';subst e;simp[h2]
  ·simp[h1]at h;simp[h2]at h';have e:a=b:=by by_cases e:a=b<;>simp_all
   have e':b=c:=by by_cases e:b=c<;>simp_all
   clear h1;subst e;clear h2;subst e';simp at h h'⊢;exact wI h h'
theorem XZ{a b:Str}(h:DX a b=true)(h':DX b a=true):a=b:=by
 obtain⟨⟨a⟩⟩:=a;obtain⟨⟨b⟩⟩:=b;rw[Dq (a:=a) (b:=b) h h']
theorem wJ(x:Str):∀l,(sI x l).Perm (x::l)
 |[]=>.refl _
 |y::r=>by
  unfold sI;induction DX x y using Bool.casesOn with
  |true=>exact .refl _
  |false=>exact(List.Perm.cons y (wJ x r)).trans (List.Perm.swap x y r)
theorem zE:∀l,(kM l).Perm l
 |[]=>.refl _
 |x::r=>(wJ x _).trans (List.Perm.cons x (zE r))
theorem xA(x:Str):∀l,l.Pairwise (λa b=>DX a b=true)->(sI x l).Pairwise (λa b=>DX a b=true)
 |[],_=>by unfold sI;simp
 |y::r,h=>by
  unfold sI;obtain⟨h1,h2⟩:=f7.mp h;induction hx:DX x y using Bool.casesOn with
  |true=>
   refine f7.mpr ⟨λb hb=>?_,h⟩;clear h;rcases a7.mp hb with rfl|hb
   ·exact hx
   ·exact wI hx (h1 b hb)
  |false=>
   refine f7.mpr ⟨λb hb=>?_,xA x r h2⟩;rcases a7.mp ((wJ x r).mem_iff.mp hb)with rfl|hb
   ·rcases AK y.cps.toList b.cps.toList with q|q
    ·exact q
    ·clear hb;rw[show DX b y=true from q]at hx;exact jA hx
   ·exact h1 b hb
theorem vF:∀l,(kM l).Pairwise (λa b=>DX a b=true)
 |[]=>.nil
 |x::r=>xA x _ (vF r)
theorem AL:∀(p:Str) (l:List Str),risingS p l=true->(p::l).Pairwise (λa b=>DX a b=true)
 |p,[],_=>by simp
 |p,x::r,h=>by
  unfold risingS at h;obtain⟨h1,h2⟩:=aL.mp h;have ih:=AL x r h2;have hp:DX p x=true:=by unfold DX;rw[Mh];exact h1
  refine f7.mpr ⟨λb hb=>?_,ih⟩;clear h2 h1 h;rcases a7.mp hb with rfl|hb
  ·exact hp
  ·exact wI hp ((f7.mp ih).1 b hb)
theorem Im{l m:List Str}(h:sortedS l=true)(hp:l.Perm m):l=kM m:=by
 have hl:l.Pairwise (λa b=>DX a b=true):=by
  induction l using List.casesOn with
  |nil=>exact .nil
  |cons x r=>exact AL x r h
 exact List.Perm.eq_of_pairwise (λa b _ _=>XZ) hl (vF m) (hp.trans (zE m).symm)
section
variable{prog:Program}{w:World}{s₀ s s':Shared}{γ bP:Gh}{ad dU:List Addr}{cs cW:Cs}{A:Around}{d:Nat}{cf:cO}{v:V}{u:Value}{envM:Env}{sc:Scope}{env:Ev}{r:Rec}
theorem GOk.adopt{kL:Nat}{h:Heap}{a:Nat}{o:Obj}(G:GOk w kL γ h)(hb:kL<=a)(hn:dX γ a)(hd:∀x t dx,γ x=some (.node t dx)->dx≠a)(ho:h.get? a=some o):GOk w kL (iZ γ a (some (.raw o))) h:=by
 have E:As γ (iZ γ a (some (.raw o))):=iQ λg' q=>by rw[hn _ q];rfl
 refine⟨λx g e=>?_,λx g e hg=>?_,λx t dx e=>?_,λx x' t t' dx e e'=>?_⟩
 ·by_cases hx:x=a
  ·clear E hd hn hb;subst hx;rw[bK]at e;refine e9 e ?_;exact ho
  ·rw[cN hx]at e;exact(G.at_ x g e).move E (λ_ z=>z) λ_ _ _ _ z=>z
 ·by_cases hx:x=a
  ·clear e E ho hd hn;subst hx;exact hb
  ·rw[cN hx]at e;exact G.lo x g e hg
 ·by_cases hx:x=a
  ·clear E ho hd hn hb;subst hx;rw[bK]at e;cases e
  ·rw[cN hx]at e;exact⟨(G.dlo x t dx e).1,by rw[cN (hd _ _ _ e)];exact(G.dlo x t dx e).2⟩
 ·by_cases hx:x=a
  ·subst hx;rw[bK]at e;cases e
  ·by_cases hx':x'=a
   ·subst hx';rw[bK]at e';cases e'
   ·rw[cN hx]at e;clear hx;rw[cN hx']at e';exact G.inj x x' t t' dx e e'
theorem St.free'(x:St w s₀ γ s){a:Addr}(h:s.heap.objs.size<=a):dX γ a:=x.ok.free h
theorem St.adopt(x:St w s₀ γ s)(k:∀b o,s.heap.get? b=some o->s'.heap.get? b=some o)(hz:s.heap.objs.size<=s'.heap.objs.size){a:Addr}{o:Obj}(ha:s.heap.objs.size<=a)(ho:s'.heap.get? a=some o)(hg:autoParam (s'.gens=s.gens) au)(hos:autoParam (s'.os=s.os) au):
  St w s₀ (iZ γ a (some (.raw o))) s':=by
 have y:=x.grow (s':=s') k hz hg hos;exact⟨y.keep,y.size,y.ok.adopt (aR x.size ha) (x.free' ha) (λb t dx e=>eU (aZ (x.ok.dlt e) ha)) ho,y.gens,y.os⟩
theorem Ez{h h':Heap}{a:Addr}{o:Obj}(e:h'.get? a=some o)(ha:h.objs.size<=a):h.objs.size<=h'.objs.size:=bD (aP ha (Heap.lt_size e))
theorem E0{γ:Gh}:∀{l:List V} {vs:List Value} {ss:List Str},AllR (VR γ ad) l vs->mT l=some ss->StrsAre vs ss:=by
 intro l vs ss h
 induction h generalizing ss with
 |nil=>intro e;refine e9 e ?_;exact .nil
 |@cons a b l m r _ ih=>
  intro e
  induction a using V.casesOn<;>try (exact aY e;done)
  refine r.strI λt=>?_
  refine eV e ?_;clear e;intro ss' e1 hrfl
  subst hrfl
  exact .cons _ t (ih e1)
theorem OI{γ:Gh}{vs:List Value}{ss:List Str}(h:StrsAre vs ss):AllR (VR γ []) (ss.map V.str) vs:=by
 induction h with
 |nil=>exact .nil
 |cons y t _ ih=>exact .cons (.str ..) ih
theorem QE(hS:St w s₀ γ s)(hC:CsOk w γ ad cs){l:List V}{a:Addr}{out:Array Value}{n:Nat}(k:∀b o,s.heap.get? b=some o->s'.heap.get? b=some o)(ha:s.heap.objs.size<=a)(ho:s'.heap.get? a=some (seqObj "list" out n))(hr:AllR (VR γ []) l out.toList)
  (hg:autoParam (s'.gens=s.gens) au) (hos:autoParam (s'.os=s.os) au):PE w s₀ γ ad (gT (.lst l) cs).1 (gT (.lst l) cs).2 (.ref a) s':=by
 have hf:=hS.free' ha;have hl:ad.length=cs.length:=hC.all.length;refine⟨_,ad++[a],hS.adopt k (Ez ho ha) ha ho hg hos,hC.push hf rfl ⟨rfl,out,n,rfl,hr⟩,wG hf,?_⟩;exact .own (by rw[<-hl];simp)
theorem Io(hS:St w s₀ γ s)(hC:CsOk w γ ad cs){l:List V}{ss:List Str}(hv:VR γ ad v u)(h1:Eo v cs=some l)(h2:mT l=some ss):
  wpAny (model prog w) A (call (.builtin "sorted") [u]) (PE w s₀ γ ad (gT (.lst ((kM ss).map V.str)) cs).1 (gT (.lst ((kM ss).map V.str)) cs).2) fW s:=by
 refine bH h1 λu' hl h1=>vLE h1 nS λl' eu h1=>dJ h1 λhz h1=>?_;rw[eu,aC h1]at hl;rw[aC h1]at hz;clear h1;refine fM (rW hS hC hv hl) λa vs zr2 q1 q2=>?_;subst zr2;have hz:=aX hz;have eW:=q2.length;refine sorted_strs (vs:=vs.toList) (by simpa using q1) (E0 q2 h2) (by lia) λout ss' a1 a2 a3=>?_
 obtain⟨e,he⟩:=sortedAll_at s.heap vs.toList out;rw[<-Im a3 a2];exact QE hS hC (λ_ _=>sortedAll_old) (tG _) he (OI a1)
end
def KR(γ:Gh)(p:Str×V)(q:Str×Value):Prop:=p.1=q.1/\VR γ [] p.2 q.2
section
variable{prog:Program}{w:World}{s₀ s s':Shared}{γ bP:Gh}{ad dU:List Addr}{cs cW:Cs}{A:Around}{d:Nat}{cf:cO}{v:V}{u:Value}{envM:Env}{sc:Scope}{env:Ev}{r:Rec}
theorem vG{γ:Gh}{m:List (Str×V)}{kvs:List (Str×Value)}(h:AllR (KR γ) m kvs):m.map (·.1)=kvs.map (·.1):=by
 induction h with
 |nil=>rfl
 |cons r _ ih=>simp[ih,r.1]
theorem vH{γ:Gh}{m:List (Str×V)}{es:List DictEntry}(h:AllR (DR w γ) m es):∃kvs,Pairs (PySem.strKind prog w) es kvs/\AllR (KR γ) m kvs/\∀e∈es,∃k,(PySem.strKind prog w).is k e.key=true/\e.hash=(PySem.strKind prog w).hash k:=by
 induction h with
 |nil=>exact⟨[],.nil,.nil,λe he=>by cases he⟩
 |@cons p e m es r _ ih=>
  refine lY (ih) λkvs a b c=>?_;obtain⟨⟨t,hk⟩,hh,hv⟩:=r;have hi:(PySem.strKind prog w).is p.1 e.key=true:=by rw[hk];exact strKind_is prog w p.1 t
  refine⟨(p.1,e.val)::kvs,.cons hi rfl a,.cons ⟨rfl,hv⟩ b,λe' he=>?_⟩;clear hv hk;rcases a7.mp he with rfl|he
  ·exact⟨p.1,hi,hh⟩
  ·exact c e' he
theorem rF{a:Addr}{o:Obj}{m:List (Str×V)}(h:s.heap.get? a=some o)(x:uJ w γ o (.dct m)):∃kvs,s.heap.DictOf (PySem.strKind prog w) a kvs/\AllR (KR γ) m kvs:=by
 refine JA (x) λh1 es n h2 h3 h4=>?_;refine lY (vH (prog:=prog) h3) λkvs a1 a2 a3=>?_;exact⟨kvs,⟨o,es,n,h,h1,h2,λe he=>a3 e (iT.mpr he),a1,by rw[<-vG a2];exact h4⟩,a2⟩
theorem dr_of{γ:Gh}{es:List DictEntry}{kvs:List (Str×Value)}{m:List (Str×V)}(h:Pairs (PySem.strKind prog w) es kvs)(hk:∀e∈es,∃k,(PySem.strKind prog w).is k e.key=true/\e.hash=(PySem.strKind prog w).hash k)(x:AllR (KR γ) m kvs):
  AllR (DR w γ) m es:=by
 induction h generalizing m with
 |nil=>cases x;exact .nil
 |@cons e kv es kvs h1 h2 _ ih=>
  cases x with
  |cons r x=>
   refine .cons ?_ (ih (λe' he=>hk e' (aI _ he)) x);refine i8 (hk e aE) λk i1 i2=>?_;have ek:=Value.isStrOf_inj _ _ _ i1 h1;obtain⟨t,ht⟩:=Value.isStrOf_shape h1;refine⟨⟨t,by rw[ht,r.1]⟩,?_,by rw[h2];exact r.2⟩
   rw[i2,ek,r.1];rfl
theorem xB{h:Heap}{a:Addr}{kvs:List (Str×Value)}{m:List (Str×V)}(x:h.DictOf (PySem.strKind prog w) a kvs)(r:AllR (KR γ) m kvs):∃o,h.get? a=some o/\uJ w γ o (.dct m)/\o.dict=none:=by
 refine tJ (x) λo es ep h1 h2 h3 h4 h5 h6=>?_;exact⟨o,h1,⟨h2,es,ep,h3,dr_of h5 (λe he=>h4 e (iT.mp he)) r,by rw[vG r];exact h6⟩,h2.2.1⟩
theorem FH{γ:Gh}{m:List (Str×V)}{kvs:List (Str×Value)}(h:AllR (KR γ) m kvs)(k:Str):match cJ k m with|some v=>∃u,valueAt kvs k=some u/\VR γ [] v u|none=>valueAt kvs k=none:=by
 induction h with
 |nil=>exact rfl
 |@cons p q m kvs r _ ih=>
  obtain⟨x,y⟩:=p;obtain⟨x',y'⟩:=q;obtain⟨r1,r2⟩:=r;dsimp only at r1 r2;subst r1;unfold cJ valueAt;induction hx:lC k x using Bool.casesOn with
  |true=>
   have:=fY hx;clear hx;subst this;exact⟨y',by simp,r2⟩
  |false=>
   have:x≠k:=Ne.symm (l9.mp hx);simp only[bG,List.find?_cons,aK this];exact ih
theorem Ip(k:Str)(v:V):∀m:List (Str×V),(lK k v m).map (·.1)=if(m.map (·.1)).contains k then m.map (·.1)else m.map (·.1)++[k]
 |[]=>rfl
 |(x,y)::m=>by
  unfold lK;induction hx:lC k x using Bool.casesOn with
  |true=>
   have:=fY hx;clear hx;subst this;simp
  |false=>
   have f5:=l9.mp hx;simp only[bG,bO,Ip k v m,List.contains_cons,cK.mpr f5,Bool.false_or];split<;>simp
theorem Mi{γ:Gh}{m:List (Str×V)}{kvs:List (Str×Value)}(h:AllR (KR γ) m kvs)(hn:(kvs.map (·.1)).Nodup)(k:Str){v:V}{u:Value}(r:VR γ [] v u):AllR (KR γ) (lK k v m) (stored kvs k u):=by
 induction h with
 |nil=>exact .cons ⟨rfl,r⟩ .nil
 |@cons p q m kvs rr hr ih=>
  obtain⟨x,y⟩:=p;obtain⟨x',y'⟩:=q;obtain⟨r1,r2⟩:=rr;dsimp only at r1 r2;subst r1;rw[bO,gK]at hn;have ih:=ih hn.2;unfold lK;induction hx:lC k x using Bool.casesOn with
  |true=>
   have:=fY hx;clear hx;subst this;unfold stored;simp only[bV,qU,decide_true,Bool.true_or,if_true,bO];rw[map_store_of_not_mem kvs k u hn.1];exact .cons ⟨rfl,r⟩ hr
  |false=>
   have f5:¬x=k:=Ne.symm (l9.mp hx);have e:stored ((x,y')::kvs) k u=(x,y')::stored kvs k u:=by
    unfold stored;simp only[qU,aK f5,Bool.false_or,bO,if_neg f5];split<;>rfl
   rw[e];exact .cons ⟨rfl,r2⟩ ih
theorem FJ(hB:Base w s₀){a:Addr}(h:s₀.heap.objs.size<=a):(a==sysModules)=false:=by
 refine A9 (hB.top) λp lo mg mb T=>?_;refine Qx (T.g) λo _ _ ho _=>?_;have:=Heap.lt_size ho;have:(3:Nat)<a:=aZ this h;exact cK.mpr λz=>by rw[z]at this;exact absurd this (by decide)
theorem OJ(hS:St w s₀ γ s)(hC:CsOk w γ ad cs){m:List (Str×V)}{a:Addr}(hv:VR γ ad v (.ref a))(h:view v cs=some (.dct m)):s₀.heap.objs.size<=a:=by
 rcases zA v with⟨i,rfl⟩|hn
 ·refine i8 (hv.isOwn) λa' e0 e=>?_;rw[Value.ref.inj e0];refine eV h λc hc hl=>?_;rw[oK]at hc;refine rP (hC.all.get e) λc' hc' o g hg q=>?_;rw[aC (hc'.symm.trans hc)]at hg q;rw[hl]at hg;rw[<-aC hg]at q;induction hf:c.frozen using Bool.casesOn with
  |true=>rw[hf]at q;exact hS.ok.lo _ _ q rfl
  |false=>rw[hf]at q;exact hS.ok.lo _ _ q.1 rfl
 ·rw[aC ((B4 hn cs).symm.trans h)]at hv;refine kW (hv.isDct) λa' o e0 e=>?_;rw[Value.ref.inj e0];exact hS.ok.lo _ _ e rfl
theorem Yb(hB:Base w s₀)(hS:St w s₀ γ s)(hC:CsOk w γ ad cs){m:List (Str×V)}{x:Str}{t:Tok}{y:V}{uy:Value}(hv:VR γ ad v u)(h:view v cs=some (.dct m))(hy:VR γ [] y uy):
  wpAny (model prog w) A (call (.builtin "dict.get") [u,.str x t,uy]) (PN w s₀ γ ((cJ x m).getD y)) fW s:=by
 refine fM (xU hS hC hv h) λa o zr2 h1 h2=>?_;subst zr2;refine i8 (rF (prog:=prog) h1 h2) λkvs k1 k2=>?_;refine call_meetsIn PySem.F.slot_dict_get k1.typeIs PySem.F.entry_dict_get (PySem.F.args_dict_get_3 _ _ _) (meets_dict_get_default (PySem.strKind prog w) a (strKind_is prog w x t) (FJ hB (OJ hS hC hv h)) uy) ⟨_,k1.mapOf,?_⟩;have hk:=FH k2 x;show wants _ _ _ _;split at hk
 ·rename_i z hz;refine i8 (hk) λu' q1 q2=>?_;rw[q1,hz];exact PN.mk' hS q2
 ·rename_i hz;rw[hk,hz];exact PN.mk' hS hy
theorem Iq(hS:St w s₀ γ s)(hC:CsOk w γ ad cs){m:List (Str×V)}{x:Str}{t:Tok}{y:V}(hv:VR γ ad v u)(h:view v cs=some (.dct m))(hy:cJ x m=some y):
  wpAny (model prog w) A (getItem u (.str x t)) (PN w s₀ γ y) fW s:=by
 refine fM (xU hS hC hv h) λa o zr2 h1 h2=>?_;subst zr2;refine i8 (rF (prog:=prog) h1 h2) λkvs k1 k2=>?_;have hk:=FH k2 x;rw[hy]at hk;refine i8 (hk) λu' q1 q2=>?_;exact wpAny_getItem_of (strKind_is prog w x t) k1.mapOf q1 (PN.mk' hS q2)
end
theorem keep1(P:Params):AE.all (λp=>keepIn (Kf P) (.ref p.2))=true:=by kernel_rfl!
section
variable{prog:Program}{w:World}{s₀ s s':Shared}{γ bP:Gh}{ad dU:List Addr}{cs cW:Cs}{A:Around}{d:Nat}{cf:cO}{v:V}{u:Value}{envM:Env}{sc:Scope}{env:Ev}{r:Rec}
theorem Ir(hS:St w s₀ γ s)(hC:CsOk w γ ad cs){n:Bi}{y x:V}{us:Value}(hv:VR γ ad y us)(h1:view y cs=some x)(h:wA n x=some v):wpAny (model prog w) A (call (yZ n) [us]) (PN w s₀ γ v) fW s:=by
 unfold wA at h;induction c1:Nat.beq n.ctorIdx 1 using Bool.casesOn with
 |true=>
  rw[c1]at h;refine X7 h nS λi ex h=>?_;rw[ex]at h1;rw[Bi.abs.elim (motive:=λz=>z=.abs) n (aA c1) rfl,<-aC h];refine oA (oX hC hv h1 λ_=>rfl) λe hv=>?_;rw[e]at hv;refine hv.intI λt=>?_;exact XL hS
 |false=>
  rw[c1]at h;induction c2:Nat.beq n.ctorIdx 5 using Bool.casesOn with
  |true=>
   rw[c2]at h;refine vLE h nS λl ex h=>dJ h λhz h=>?_;rw[ex]at h1;rw[Bi.len.elim (motive:=λz=>z=.len) n (aA c2) rfl,<-aC h];refine fM (rW hS hC hv h1) λa us zr2 q1 q2=>?_;subst zr2;exact XN hS q1 q2 (aX hz)
  |false=>
   rw[c2]at h;refine dJ h λc3 h=>X7 h nS λi ex h=>dJ h λhz h=>?_;rw[ex]at h1;rw[Bi.str.elim (motive:=λz=>z=.str) n (aA c3) rfl,<-aC h];refine oA (oX hC hv h1 λ_=>rfl) λe hv=>?_;rw[e]at hv;refine hv.intI λt=>?_;exact XM hS hz
theorem It{c:V}{i:Nat}:¬∃b,tM (.own i) c=some b:=by
 rintro⟨b,h⟩;rcases rX h with⟨t,e⟩|⟨t,e⟩<;>cases e
theorem Iu{x:V}{i:Nat}:¬∃b,tM x (.own i)=some b:=by
 rintro⟨b,h⟩;rcases rX h with⟨t,rfl⟩|⟨t,rfl⟩<;>exact aY h
theorem bi_ok(hB:Base w s₀)(hS:St w s₀ γ s)(hC:CsOk w γ ad cs){n:Bi}{vs:List V}{us:List Value}(hv:AllR (VR γ ad) vs us)(h:biV n vs cs=some (v,cW)):
  wpAny (model prog w) A (call (yZ n) us) (PE w s₀ γ ad v cW) fW s:=by
 cases hv with
 |nil=>exact aY h
 |@cons y uy vs us hx hr=>
  cases hr with
  |nil=>
   replace h:(bif decide (n=.sorted)then Q7 y cs else(view y cs).bind λu=>(wA n u).map λx=>(x,cs))=some (v,cW):=h;induction hn:decide (n=Bi.sorted) using Bool.casesOn with
   |true=>
    rw[hn]at h;rw[aM hn];refine bH h ?_;clear h;intro l h1 h;refine eV h ?_;clear h;intro ss h2 h;have:=Io (prog:=prog) (A:=A) hS hC hx h1 h2;rw[h]at this;exact this
   |false=>
    rw[hn]at h;refine bH h ?_;clear h;intro x h1 h;refine eV h ?_;clear h;intro z h2 h;refine l6 h ?_;exact aD (Ir hS hC hx h1 h2) (λ_ _ z=>z.pe hC) λ_ _ z=>z
  |@cons c uc vs us hc hr=>
   cases hr with
   |nil=>
    replace h:(bif decide (n=.isinstance)then(tM y c).map λb=>(V.bool b,cs)else none)=some (v,cW):=h;refine dJ h ?_;clear h;intro hn h;rw[aM hn];refine eV h ?_;clear h;intro b hb e;refine l6 e ?_;have n1:∀i,y≠.own i:=λi e=>by clear hx;subst e;exact It ⟨_,hb⟩
    have n2:∀i,c≠.own i:=λi e=>by clear hc;subst e;exact Iu ⟨_,hb⟩
    exact aD (AH hB hS (hx.down n1) (hc.down n2) hb) (λ_ _ z=>z.pe hC) λ_ _ z=>z
   |cons _ _=>exact aY h
theorem Iv(P:Params){a:Addr}(h:isGlob a=true):keepIn (Kf P) (.ref a)=true:=by
 refine i8 (fJ.mp h) λp hp e=>?_;have:=aW.mp (keep1 P) p hp;rwa [aA e]
theorem Mj(hB:Base w s₀)(hc:q8 prog w s₀ d cf)(hR:Room A d 0)(hS:St w s₀ γ s)(hC:CsOk w γ ad cs)(hF:FmOk γ ad envM env){f:V}{uf:Value}{args:List V}{us:List Value}{kws:List (Nat×V)}{ukws:List (Str×Value)}
  (hf:VR γ ad f uf) (hv:AllR (VR γ ad) args us) (hk:AllR (QB γ) kws ukws) (h:pY cf f args kws cs=some (v,cW)):wpAny (model prog w) A (call uf us ukws) (PE w s₀ γ ad v cW) fW s:=by
 refine vGC h (λh=>vBE h nS λn ef h=>NQ h nS λek h=>?_) λa ef h=>bH h λx h1 h=>eV h λy h2 h=>?_
 rotate_left
 ·refine oA (Prod.mk.inj h) λe1 e2=>?_;rw[ef]at hf;rw[<-e1,<-e2,hf.isGlob.1];refine nZ (mX hS hC hv h1) λaU S1 C1 T1 V1=>?_;exact aD (rV hc hR S1 ((hF.step T1).frm S1) V1 (hk.mono λ_ _ z=>⟨z.1,z.2.mono T1.ext λ_ _ e=>e⟩) h2) (λ_ _ z=>(z.pe C1).trans T1) λ_ _ z=>z
 ·rw[ek]at hk;cases hk;rw[ef]at hf;rw[hf.isBi];exact bi_ok hB hS hC hv h
theorem Dr(hB:Base w s₀)(hc:q8 prog w s₀ d cf)(hR:Room A d 0){f:Expr->X}{x:Str}{q p:Pos}{es:List Expr}{ks:List Keyword}{l:List (Nat×X)}(hx:e8 prog w s₀ A envM (.Name x q) (λenv cs=>r.ev (f (.Name x q)) env cs))
  (he:∀e∈es,e8 prog w s₀ A envM e (λenv cs=>r.ev (f e) env cs)) (hn:gE es=true) (hl:Dj f ks=some l) (hk:∀k∈ks,e8 prog w s₀ A envM k.value (λenv cs=>r.ev (f k.value) env cs)):
  e8 prog w s₀ A envM (.Call (.Name x q) es ks p) (λenv cs=>dI cf r (.call (f (.Name x q)) (es.map f) l) env cs):=λs γ ad env cs v cW hS hC hF h=>by
 refine bH h ?_;clear h;intro y h1 h;refine bH h ?_;clear h;intro z h2 h;refine bH h ?_;clear h;intro k h3 h;show wpAny _ _ (do callWith p (<-eval (.Name x q) envM) [] (backTo p (starEach es envM)) (backToKw p (keywordEach ks envM))) _ _ _
 refine bF (aD (hx s γ ad env cs _ _ hS hC hF h1) (λuf bZ qq=>?_) λ_ _ z=>z);obtain⟨aU,bN,S1,C1,T1,V1⟩:=qq;refine Aq (B9 (prog:=prog) (w:=w) (s₀:=s₀) (A:=A) (envM:=envM) (r:=r) (pos:=p) hl hk) λ_ a2 _=>?_;have hplain:((backTo p (starEach es envM)).any (·.1)||(backToKw p (keywordEach ks envM)).any (·.1.isNone))=false:=by rw[Dp hn,a2];rfl
 have body:=aD (sX (g:=uf) (pos:=p) he hn hl hk S1 C1 (hF.step T1) h2 h3) (λa cZ qq=>by
  refine tH (qq) λcL eS S2 C2 T2 V2 K2=>?_;exact(⟨hB.K.keeps S2.keep,aD (Mj hB hc hR S2 C2 (hF.step (T1.trans T2)) (V1.step T2) V2 K2 h) (λ_ _ z=>z.trans (T1.trans T2)) λ_ _ z=>z⟩:
   (Kf w.params).In cZ.heap/\wpAny (model prog w) A (call uf ([]++a.pos) a.kw) (PE w s₀ γ ad v cW) fW cZ)) λ_ _ z=>z
 refine vGC h (λh=>vBE h nS λn hg _=>?_) λg hg _=>?_
 rotate_left
 ·obtain⟨e,hgl⟩:=(hg▸V1).isGlob;exact callWith_of hplain (e▸keeps_K (Iv w.params hgl)) body
 ·have e:=(hg▸V1).isBi;subst e;refine callWith_of hplain (λhh X=>⟨.machine,.inr (.inl rfl),Looks.of_pure ?_⟩) body;clear body V1 hg;induction n using Bi.casesOn<;>rfl
end
def Mk(K:Frag)(n:Str)(f:Addr):Bool:=pU false (findCls K (.ref 220) (.type "type") n) λc=>
 (tg false (Nat.beq c.ctorIdx 0) λh=>CFound.val.elim (motive:=λ_=>Bool) c (aA h) λu=>sN false u λg=>Nat.beq f g)||
 (tg false (Nat.beq c.ctorIdx 1) λh=>CFound.get.elim (motive:=λ_=>Bool) c (aA h) λb u o t=>b==.builtin "staticmethod.__get__"&&o==.none&&t==.ref 220&&sN false u λp=>pU false (recIn K p "staticmethod") λl=>pU false l.head? λu=>sN false u λg=>Nat.beq f g)
noncomputable def clsT:List (Nat×Nat×Addr):=[(220,18,204),(220,14,185),(220,15,199)]
theorem cm1(P:Params):(specialIn (Kf P) (.ref 220) "__getattribute__"==some (some (.builtin "type.__getattribute__"))&&(typeIn (Kf P) (.ref 220)==some (.type "type")&&(readsIn (Kf P) 220 (.type "type")&&
 LB.all λp=>pU true (pX 220 p.2) λf=>Mk (Kf P) p.1 f&&keepIn (Kf P) (.ref f))))=true:=by kernel_rfl!
inductive CmInv(K:Frag)(n:Str)(f:Addr):Prop
 |val:findCls K (.ref 220) (.type "type") n=some (.val (.ref f))->CmInv K n f
 |get (p:Addr) (r:List Value):findCls K (.ref 220) (.type "type") n=some (.get (.builtin "staticmethod.__get__") (.ref p) .none (.ref 220))->recIn K p "staticmethod"=some (.ref f::r)->CmInv K n f
theorem Iw{K:Frag}{n:Str}{f:Addr}(h:Mk K n f=true):CmInv K n f:=
 oQ (Q:=λz=>z=true->CmInv K n f) (λh=>bX h) (λc ec h=>(cP.mp h).elim
  (λh=>sK (Q:=λz=>z=true->CmInv K n f) (λh=>bX h) (λe=>CFound.val.elim (motive:=λc=>findCls K (.ref 220) (.type "type") n=some c->∀e:Nat.beq c.ctorIdx 0=true,CFound.val.elim (motive:=λ_=>Bool) c (aA e) (λu=>sN false u λg=>Nat.beq f g)=true->CmInv K n f) c (aA e)
   (λu ec _ h=>GV h nT λg eu h=>.val (by rw[ec,eu,aA h])) ec e) h)
  λh=>sK (Q:=λz=>z=true->CmInv K n f) (λh=>bX h) (λe=>CFound.get.elim (motive:=λc=>findCls K (.ref 220) (.type "type") n=some c->∀e:Nat.beq c.ctorIdx 1=true,CFound.get.elim (motive:=λ_=>Bool) c (aA e)
    (λb u o t=>b==.builtin "staticmethod.__get__"&&o==.none&&t==.ref 220&&sN false u λp=>pU false (recIn K p "staticmethod") λl=>pU false l.head? λu=>sN false u λg=>Nat.beq f g)=true->CmInv K n f) c (aA e)
   (λb u o t ec _ h=>fF h λh h4=>fF h λh h3=>fF h λh1 h2=>GV h4 nT λp eu h=>oQ (Q:=λz=>z=true->CmInv K n f) (λh=>bX h) (λl el h=>oQ (Q:=λz=>z=true->CmInv K n f) (λh=>bX h) (λu' eh h=>GV h nT λg eg k=>by
    induction l using List.casesOn with
    |nil=>exact aY eh
    |cons x r=>exact .get p r (by rw[ec,eu,beq_iff_eq.mp h1,beq_iff_eq.mp h2,beq_iff_eq.mp h3]) (by rw[el,show x=_ from aC eh,eg,aA k])) h) h) ec e) h) h
theorem QF:∀{es:List Expr},gE es=true->∀(env:Env) (pos:Pos),(backTo pos (starEach es env)).all (!·.1)=true
 |[],_,_,_=>rfl
 |e::r,h,env,pos=>by
  refine oA (mS h env) λa b=>?_;rw[a];exact(QF b env pos)
theorem rG{α:Type}{x:Str}:∀{l:List (Str×α)},(∀p∈l,lC x p.1=false)->cJ x l=none
 |[],_=>rfl
 |(y,v)::r,h=>by
  unfold cJ;rw[show lC x y=false from h (y,v) aE];exact rG λp hp=>h p (aI _ hp)
theorem E2:(pS.all λC=>LB.all λp=>pU true (yV C p.2) λ_=>[DW,Da,lS,lT,rQ,u6,lG,dG].all λk=>!lC p.1 k)=true:=by decide+kernel
theorem E4(t:T):∀p∈mR t,p.1∈[DW,Da,lS,lT,rQ,u6,lG,dG]:=by
 induction t using T.casesOn<;>(intro p hp;simp only[mR,a7,fK,or_false]at hp;rcases hp with rfl|rfl|rfl|rfl<;>simp)
theorem OK{t:T}{n:Nm}{f:Addr}(h:gU t n=some f):([DW,Da,lS,lT,rQ,u6,lG,dG].all λk=>!lC (sO n) k)=true:=by
 have q:pU true (yV t.cls n) _=true:=aW.mp (aW.mp E2 _ (jW t)) _ (F8 n);rw[show yV t.cls n=some f from h]at q;exact q
theorem FK{c n:Nat}{f:Addr}:∀{l:List (Nat×Nat×Addr)},(∀p∈l,p.1=220)->w8 c n l=some f->c=220
 |[],_,h=>aY h
 |(a,b,g)::r,hl,h=>by
  unfold w8 at h;induction e:Nat.beq c a&&Nat.beq n b using Bool.casesOn with
  |true=>rw[aA (aL.mp e).1];exact hl _ aE
  |false=>rw[e]at h;exact FK (λp hp=>hl p (aI _ hp)) h
theorem Ds(P:Params){c:Addr}{n:Nm}{f:Addr}(h:pX c n=some f):c=220/\Mk (Kf P) (sO n) f=true/\keepIn (Kf P) (.ref f)=true:=by
 have hc:=FK (by decide) h
 subst hc;have q:pU true (pX 220 n) _=true:=aW.mp (aL.mp (aL.mp (aL.mp (cm1 P)).2).2).2 _ (F8 n);rw[h]at q;exact⟨rfl,aL.mp q⟩
section
variable{prog:Program}{w:World}{s₀ s s':Shared}{γ bP:Gh}{ad dU:List Addr}{cs cW:Cs}{A:Around}{d:Nat}{cf:cO}{v:V}{u:Value}{envM:Env}{sc:Scope}{env:Ev}{r:Rec}
theorem FL{o:Expr}{a:Str}{ap p:Pos}{es:List Expr}{ks:List Keyword}(hb:wD o=true)(hn:gE es=true)(hk:(backToKw p (keywordEach ks envM)).all (·.1.isSome)=true)(hp:ap.endLine=p.line)(eW:es.length+ks.length<20):
  eval (.Call (.Attribute o a ap) es ks p) envM=(do
   let ov<-eval o envM
   standAt ap.atName
   let(f,first)<-holding [ov] (getMethod ov a (do return(<-importBound o envM).getD true))
   callWith p f first (backTo p (starEach es envM)) (backToKw p (keywordEach ks envM))):=by
 show(do let ov<-attributeBase o a envM (eval o envM);standAt ap.atName;methodCall o a ap p envM ov (es.length+ks.length) (backTo p (starEach es envM)) (backToKw p (keywordEach ks envM)))=_
 rw[B6 hb];have form:methodCallForm (es.length+ks.length) (backTo p (starEach es envM)) (backToKw p (keywordEach ks envM))=true:=by
  unfold methodCallForm;rw[QF hn,hk,qS,qS];refine aH ?_;split<;>lia
 unfold methodCall;rw[form];unfold methodCallPos;have:(!true||ap.endLine==p.line)=true:=by rw[hp];simp
 simp only[this,if_true];rfl
theorem QG{t:T}{n:Nm}(h:jQ (.node t) n cs=true):∃f,gU t n=some f:=fE.mp h
theorem Ix(hB:Base w s₀)(hS:St w s₀ γ s)(hF:Jf s₀ s){a dx:Addr}{t:T}{n:Nm}{f:Addr}{pl:Sem Bool}{Q:Value×List Value->Shared->Prop}{E:Value->Shared->Prop}(e:γ a=some (.node t dx))(h:gU t n=some f)(q:Q (.ref f,[.ref a]) s):
  wpAny (model prog w) A (getMethod (.ref a) (sO n) pl) Q E s:=by
 refine kW (B1 hS e) λes k I r=>?_;obtain⟨L,m,F⟩:=hF;obtain⟨q1,q2,q3⟩:=rB w.params h;have hm:=OK h;have hno:∀k∈[DW,Da,lS,lT,rQ,u6,lG,dG],lC (sO n) k=false:=λk hk=>by simpa using aW.mp hm k hk
 exact method_inst F hB.K I (rU _ t _) q1 q2 (LV r (rG λp hp=>hno _ (E4 t p hp)) (hno _ (by simp))) q
theorem Ml(hB:Base w s₀)(hS:St w s₀ γ s)(hF:Jf s₀ s){c:Addr}{n:Nm}{f:Addr}{pl:Sem Bool}{Q:Value×List Value->Shared->Prop}{E:Value->Shared->Prop}(h:pX c n=some f)(q:Q (.ref f,[]) {s with toks:=s.toks+1}):
  wpAny (model prog w) A (getMethod (.ref c) (sO n) pl) Q E s:=by
 refine NP (hF) λL m F=>?_;refine Aq (Ds w.params h) λzr0 hch _=>?_;subst zr0;clear h;have k:=cm1 w.params;simp only[a9,beq_iff_eq]at k;refine uY (k) λk1 k2 k3 _=>?_;refine method_of_cls F hB.K k1 ?_;rcases Iw hch with hg|⟨p,r,hg,hr⟩
 ·exact cls_val F hB.K k2 k3 hg rfl q
 ·exact cls_sm F hB.K k2 k3 hg hr rfl q
theorem Mm(P:Params){c:Addr}{n:Nm}{f:Addr}(h:pX c n=some f):keepIn (Kf P) (.ref f)=true:=(Ds P h).2.2
end
theorem Iy:sO .append=("append":Str):=by decide+kernel
theorem Yc:sO .get=("get":Str):=by decide+kernel
theorem Mn:sO .items=("items":Str):=by decide+kernel
theorem OL:sO .join=("join":Str):=by decide+kernel
inductive CtId:V->Nm->String->Prop
 |append {i:Nat}:CtId (.own i) .append "list.append"
 |items {o:V}:CtId o .items "dict.items"
 |get {o:V}:CtId o .get "dict.get"
 |join {s:Str}:CtId (.str s) .join "str.join"
section
variable{prog:Program}{w:World}{s₀ s s':Shared}{γ bP:Gh}{ad dU:List Addr}{cs cW:Cs}{A:Around}{d:Nat}{cf:cO}{v:V}{u:Value}{envM:Env}{sc:Scope}{env:Ev}{r:Rec}
theorem AM(hS:St w s₀ γ s)(hC:CsOk w γ ad cs){o:V}{uo:Value}{m:List (Str×V)}{n:Str}{id:String}{pl:Sem Bool}{Q:Value×List Value->Shared->Prop}{E:Value->Shared->Prop}(hv:VR γ ad o uo)(h:view o cs=some (.dct m))
  (slot:Slot "dict" n id) (ty:typeOf (.builtin id)=pure (.type "method_descriptor")) (q:Q (.builtin id,[uo]) s):wpAny (model prog w) A (getMethod uo n pl) Q E s:=by
 refine fM (xU hS hC hv h) λa o zr2 h1 h2=>?_;subst zr2;obtain⟨⟨h2,h3,_⟩,_⟩:=h2;exact getMethod_builtin ⟨o,h1,h2⟩ PySem.F.plainAttrs_dict slot ty (λb e=>by cases e;exact⟨o,h1,h3⟩) q
theorem zF(hS:St w s₀ γ s)(hC:CsOk w γ ad cs){o:V}{uo:Value}{m:List (Str×V)}{n:Nm}{pl:Sem Bool}(hv:VR γ ad o uo)(h:view o cs=some (.dct m))(hn:(decide (n=.items)||decide (n=.get))=true):
  ∃id,CtId o n id/\∀{Q:Value×List Value->Shared->Prop} {E:Value->Shared->Prop},Q (.builtin id,[uo]) s->wpAny (model prog w) A (getMethod uo (sO n) pl) Q E s:=by
 rcases cP.mp hn with q|q
 ·have q:=aM q;clear hn;subst q;exact⟨_,.items,λq=>by rw[Mn];exact AM hS hC hv h PySem.F.slot_dict_items PySem.F.type_dict_items q⟩
 ·have q:=aM q;clear hn;subst q;exact⟨_,.get,λq=>by rw[Yc];exact AM hS hC hv h PySem.F.slot_dict_get PySem.F.type_dict_get q⟩
theorem Iz(hS:St w s₀ γ s)(hC:CsOk w γ ad cs){o:V}{uo:Value}{n:Nm}{pl:Sem Bool}(hv:VR γ ad o uo)(h1:∀t,o≠.node t)(h2:∀c,o≠.glob c)(h:jQ o n cs=true):
  ∃id,CtId o n id/\∀{Q:Value×List Value->Shared->Prop} {E:Value->Shared->Prop},Q (.builtin id,[uo]) s->wpAny (model prog w) A (getMethod uo (sO n) pl) Q E s:=by
 refine vNQ (Q:=λz=>z=true->∃id,CtId o n id/\∀{Q:Value×List Value->Shared->Prop} {E:Value->Shared->Prop},Q (.builtin id,[uo]) s->wpAny (model prog w) A (getMethod uo (sO n) pl) Q E s)
  (vGQ (Q:=λz=>z=true->∃id,CtId o n id/\∀{Q:Value×List Value->Shared->Prop} {E:Value->Shared->Prop},Q (.builtin id,[uo]) s->wpAny (model prog w) A (getMethod uo (sO n) pl) Q E s)
   (vOQ (Q:=λz=>z=true->∃id,CtId o n id/\∀{Q:Value×List Value->Shared->Prop} {E:Value->Shared->Prop},Q (.builtin id,[uo]) s->wpAny (model prog w) A (getMethod uo (sO n) pl) Q E s)
    (vDQ (Q:=λz=>z=true->∃id,CtId o n id/\∀{Q:Value×List Value->Shared->Prop} {E:Value->Shared->Prop},Q (.builtin id,[uo]) s->wpAny (model prog w) A (getMethod uo (sO n) pl) Q E s)
     (λh=>Q6 h nT λs eo h=>?_) λm eo h=>?_) λi eo h=>?_) λc e=>absurd e (h2 c)) (λt e=>absurd e (h1 t)) h
 ·clear h2 h1;subst eo;rw[aM h];refine hv.strI λt=>?_;exact⟨_,.join,λq=>by rw[OL];exact PySem.GM.join q⟩
 ·clear h2 h1;subst eo;exact zF hS hC hv rfl h
 ·clear h2 h1;subst eo;refine oQ (Q:=λz=>z=true->∃id,CtId (.own i) n id/\∀{Q:Value×List Value->Shared->Prop} {E:Value->Shared->Prop},Q (.builtin id,[uo]) s->wpAny (model prog w) A (getMethod uo (sO n) pl) Q E s) (λh=>bX h)
   (λc hc=>vLQ (Q:=λz=>z=true->∃id,CtId (.own i) n id/\∀{Q:Value×List Value->Shared->Prop} {E:Value->Shared->Prop},Q (.builtin id,[uo]) s->wpAny (model prog w) A (getMethod uo (sO n) pl) Q E s) (λh=>vDE h nT λm hm h=>zF hS hC hv (by show(uF i cs).map _=_;rw[hc,cU,hm]) h) λl hl h=>?_) h
  obtain⟨hf,hn⟩:=aL.mp h;rw[aM hn];refine⟨_,.append,λq=>?_⟩;refine i8 (hv.isOwn) λa zr1 e=>?_;subst zr1;clear hv hn h;rw[oK]at hc;refine rP (hC.all.get e) λc' hc' o g hg q'=>?_;rw[aC (hc'.symm.trans hc)]at hg q';rw[show c.frozen=false by simpa using hf]at q'
  obtain⟨r1,r2,r3⟩:=q';rw[hl]at r2;rw[Iy];exact Calls.getMethod_list_append (hS.raw r1) r2.1 r3 q
theorem I0(hS:St w s₀ γ s)(hC:CsOk w γ ad cs){i:Nat}{uo:Value}{x:V}{ux:Value}{c:Cn}{l:List V}(hv:VR γ ad (.own i) uo)(hc:uF i cs=some c)(hf:c.frozen=false)(hl:c.val=.lst l)(hz:l.length<=100000)(hx:VR γ [] x ux):
  wpAny (model prog w) A (call (.builtin "list.append") [uo,ux]) (PE w s₀ γ ad .none (sJ i ⟨false,.lst (l++[x])⟩ cs)) fW s:=by
 refine hv.ownI λa e=>?_;clear hv;rw[oK]at hc;refine rP (hC.all.get e) λc' hc' o g hg q=>?_;rw[hc]at hc';clear hg;obtain rfl:=aC hc';rw[hf,hl]at q;obtain⟨r1,⟨r2,vs,n,r4,r5⟩,r3⟩:=q;have hP:PlainL s.heap a vs:=⟨o,n,hS.raw r1,r2,r3,r4⟩;have eW:=r5.length;refine list_append_plainL hP (λh' hP' hs=>?_) (aR (by simpa [eW] using hz:vs.size<=100000) (by decide))
 refine uE (hP') λo' n' p1 p2 p3 p4=>?_;refine⟨_,ad,hS.set r1 hs p1,hC.setAt e r1 ?_,gW (.raw o') ad r1 (.inl (List.mem_of_getElem? e)),.none⟩;have E:=(gW (X:=[]) (G.raw o') ad r1 (.inl (List.mem_of_getElem? e))).ext;exact⟨o',.lst (l++[x]),rfl,bK ..,⟨p2,vs.push ux,n',p4,by rw[Array.toList_push];exact(r5.mono λ_ _ z=>z.mono E λi a e=>by simp at e).append (.cons (hx.mono E λi a e=>by simp at e) .nil)⟩,p3⟩
theorem Mo(hB:Base w s₀)(hS:St w s₀ γ s)(hC:CsOk w γ ad cs){o:V}{uo:Value}{m:List (Str×V)}(hv:VR γ ad o uo)(h:a8 o cs=some (.dct m,cW)):
  wpAny (model prog w) A (call (.builtin "dict.items") [uo]) (PE w s₀ γ ad (.dit m) cW) fW s:=by
 refine nZ (rE hS hC hv h) λaU S1 C1 T1 V1=>?_;clear hv;refine V1.dctI λb ob e=>?_;obtain⟨h1,h2⟩:=S1.ok.at_ _ _ e;obtain⟨kvs,k1,k2⟩:=rF (prog:=prog) h1 h2;refine call_meetsIn PySem.F.slot_dict_items k1.typeIs PySem.F.entry_dict_items (PySem.F.args_dict_items_1 _) (meets_dict_items (PySem.strKind prog w) b (FJ hB (S1.ok.lo _ _ e rfl))) ⟨⟨_,k1⟩,?_⟩;show PE w s₀ γ ad (.dit m) cW _ _;have hf:=S1.free;have S2:=S1.alloc (s':={s with heap:=s.heap.push {cls:=.type "dict_items",data:=.fields #[.ref b]}}) {cls:=.type "dict_items",data:=.fields #[.ref b]} rfl
 have f5:b≠s.heap.objs.size:=hf.ne e (by intro z;cases z)
 have S3:=S2.tell (g:=.dit m) (bK ..) (by intro _ _ q;cases q) ⟨b,ob,⟨_,S2.raw (bK ..),rfl,rfl⟩,by rw[cN f5];exact e⟩
 have hu:iZ (iZ aU s.heap.objs.size (some (.raw {cls:=.type "dict_items",data:=.fields #[.ref b]}))) s.heap.objs.size (some (.dit m))=iZ aU s.heap.objs.size (some (.dit m)):=by
  funext x;by_cases h:x=s.heap.objs.size<;>simp[iZ,h]
 rw[hu]at S3;exact⟨_,ad,S3,C1.alloc hf,T1.trans (d6 _ ad hf),.dit (bK ..)⟩
theorem E5{P:Prop}{v x:V}{n:Nm}{args:List V}(h:yW x n args=some v)(k1:∀s l,x=.str s->n=.join->args=[.lst l]->((mT l).bind λss=>bif JoinOk s ss then some (V.str (Str.join s ss))else none)=some v->P)
  (k2:∀d k z,x=.dct d->n=.get->args=[.str k,z]->(cJ k d).getD z=v->P):P:=
 vSC h (λh=>vDE h nS λd ex h=>dJ h λhn h=>Ol h nS λa z ea h=>Q6 h nS λk ek h=>k2 d k z ex (aM hn) (by rw[ea,ek]) (aC h))
  λs ex h=>dJ h λhn h=>Ec h nS λa ea h=>vLE h nS λl el h=>k1 s l ex (aM hn) (by rw[ea,el]) h
theorem rd_ok(hB:Base w s₀)(hS:St w s₀ γ s)(hC:CsOk w γ ad cs){o x:V}{uo:Value}{n:Nm}{id:String}{args:List V}{us:List Value}(hv:VR γ ad o uo)(hx:view o cs=some x)(hid:CtId o n id)(ha:AllR (VR γ []) args us)(h:yW x n args=some v):
  wpAny (model prog w) A (call (.builtin id) (uo::us)) (PN w s₀ γ v) fW s:=by
 refine E5 h (λx l ex en ea h=>?_) λm k z ex en ea h=>?_
 ·refine bH h λss h1 h=>dJ h λhj h=>?_;rw[<-aC h];clear h;rw[ex]at hx;rw[en]at hid;rw[ea]at ha;refine oA (oX hC hv hx λ_=>rfl) λzr0 hv=>?_;subst zr0;cases hid;refine hv.strI λt=>?_;refine ha.I1 λu hl=>?_;refine fM (rW hS hC (hl.up ad) rfl) λa vs zr2 q1 q2=>?_;subst zr2;exact O9 hS q1 q2 h1 hj
 ·rw[<-h];clear h;clear h;rw[ex]at hx;rw[en]at hid;rw[ea]at ha;cases hid;refine ha.I2 λu u' hk hz=>?_;refine hk.strI λt=>?_;exact Yb hB hS hC hv hx hz
theorem AN{x:V}(h:flat x=true):∀i,x≠.own i:=λi e=>by rw[e]at h;exact bX h
theorem Mp{i:Nat}{args:List V}{y:V×Cs}(h:iL (.own i) .append args cs=some y):∃x c l,args=[x]/\flat x=true/\uF i cs=some c/\c.val=.lst l/\(!c.frozen&&Nat.ble l.length 100000)=true/\y=(.none,sJ i ⟨false,.lst (l++[x])⟩ cs):=
 Ec h nS λx ea h=>dJ h λhf h=>bH h λc hc h=>vLE h nS λl hl h=>dJ h λhz h=>⟨x,c,l,ea,hf,hc,hl,hz,(aC h).symm⟩
theorem E6{o:V}{args:List V}{y:V}{cW:Cs}(h:iL o .items args cs=some (y,cW)):∃m,args=[]/\y=.dit m/\a8 o cs=some (.dct m,cW):=
 NQ h nS λea h=>bH h λp h1 h=>vDE h nS λm em h=>let⟨e1,e2⟩:=Prod.mk.inj (aC h);⟨m,ea,e1.symm,by rw[h1,<-e2,<-em]⟩
theorem Mq(hB:Base w s₀)(hS:St w s₀ γ s)(hC:CsOk w γ ad cs){o:V}{uo:Value}{n:Nm}{id:String}{args:List V}{us:List Value}(hv:VR γ ad o uo)(hid:CtId o n id)(ha:AllR (VR γ ad) args us)(h:iL o n args cs=some (v,cW)):
  wpAny (model prog w) A (call (.builtin id) (uo::us)) (PE w s₀ γ ad v cW) fW s:=by
 have rd:∀{m:Nm},CtId o m id->((eX args cs).bind λw=>(view o w.2).bind λu=>(yW u m w.1).map λx=>(x,w.2))=some (v,cW)->wpAny (model prog w) A (call (.builtin id) (uo::us)) (PE w s₀ γ ad v cW) fW s:=by
  intro m hid h;refine bH h ?_;clear h;intro p h1 h;refine bH h ?_;clear h;intro y h2 h;refine eV h ?_;clear h;intro z h3 h;refine l6 h ?_;refine nZ (mX hS hC ha h1) λaU S1 C1 T1 V1=>?_;exact aD (rd_ok hB S1 C1 (hv.step T1) h2 hid V1 h3) (λ_ _ z=>(z.pe C1).trans T1) λ_ _ z=>z
 cases hid with
 |@append i=>
  refine tJ (Mp h) λx c l e1 e2 e3 e4 e5 e6=>?_;subst e1;obtain⟨e6,e7⟩:=Prod.mk.inj e6;rw[e6,e7];clear h rd e6 e7;cases ha with
  |cons hx hr=>
   cases hr;obtain⟨z1,z2⟩:=aL.mp e5;exact I0 hS hC hv e3 (by simpa using z1) e4 (aX z2) (hx.down (AN e2))
 |items=>
  refine lY (E6 h) λm e1 e2 e3=>?_;subst e1;rw[e2];clear h rd;cases ha;exact Mo hB hS hC hv e3
 |get=>exact rd .get h
 |join=>exact rd .join h
end
theorem I5(items:Array Value)(i:Int)(h:0<=i):slicePick items none (some i) none=(items.toList.take i.toNat).toArray:=by
 obtain⟨k,rfl⟩:=Int.eq_ofNat_of_zero_le h;rcases Nat.le_total k items.size with z|z
 ·exact slicePick_upto items k z
 ·have q:=slicePick_upto items items.size (cA _);have e:sliceBounds none (some ((k:Nat):Int)) none items.size=sliceBounds none (some ((items.size:Nat):Int)) none items.size:=by
   have h1:¬(k:Int)<0:=jJ.mpr (g5 _);have h2:¬(items.size:Int)<0:=jJ.mpr (g5 _);simp only[sliceBounds,Option.getD_none,h1,h2,if_false,show(1:Int)>0 by decide,if_true]
   rw[Int.min_eq_right (mI.mpr z),Int.min_eq_right (fI _)]
  unfold slicePick at q⊢;rw[e,q,List.take_of_length_le (by simp),List.take_of_length_le (by simpa using z)]
section
variable{prog:Program}{w:World}{s₀ s s':Shared}{γ bP:Gh}{ad dU:List Addr}{cs cW:Cs}{A:Around}{d:Nat}{cf:cO}{v:V}{u:Value}{envM:Env}{sc:Scope}{env:Ev}{r:Rec}
theorem ngo(v:V):(∃t,v=.node t)\/(∃c,v=.glob c)\/((∀t,v≠.node t)/\∀c,v≠.glob c):=by
 induction v using V.casesOn with
 |node t=>exact .inl ⟨t,rfl⟩
 |glob c=>exact .inr (.inl ⟨c,rfl⟩)
 |_=>exact .inr (.inr ⟨λ_=>V.noConfusion,λ_=>V.noConfusion⟩)
theorem OM{o:V}{n:Nm}{args:List V}{kws:List (Nat×V)}(h1:∀t,o≠.node t)(h2:∀c,o≠.glob c):qZ cf o n args kws cs=Au none kws (iL o n args cs):=
 vNQ (Q:=λz=>z=Au none kws (iL o n args cs)) (vGQ (Q:=λz=>z=Au none kws (iL o n args cs)) rfl λc e=>absurd e (h2 c)) λt e=>absurd e (h1 t)
theorem ON(hB:Base w s₀)(hc:q8 prog w s₀ d cf)(hR:Room A d 0){f:Expr->X}{o:Expr}{a:Str}{m:Nm}{ap p:Pos}{es:List Expr}{ks:List Keyword}{l:List (Nat×X)}(ho:e8 prog w s₀ A envM o (λenv cs=>r.ev (f o) env cs))
  (he:∀e∈es,e8 prog w s₀ A envM e (λenv cs=>r.ev (f e) env cs)) (hk:∀k∈ks,e8 prog w s₀ A envM k.value (λenv cs=>r.ev (f k.value) env cs))
  (hb:wD o=true) (hn:gE es=true) (hl:Dj f ks=some l) (hp:ap.endLine=p.line) (eW:es.length+ks.length<20) (hm:cJ a LB=some m):
  e8 prog w s₀ A envM (.Call (.Attribute o a ap) es ks p) (λenv cs=>dI cf r (.meth (f o) m (es.map f) l) env cs):=λs γ ad env cs v cW hS hC hF h=>by
 refine bH h ?_;clear h;intro y h1 h;refine vA h ?_;clear h;intro hmo h;refine bH h ?_;clear h;intro z h2 h;refine bH h ?_;clear h;intro k h3 h;have e:=LS hm;clear hm;subst e;refine Aq (B9 (prog:=prog) (w:=w) (s₀:=s₀) (A:=A) (envM:=envM) (r:=r) (pos:=p) hl hk) λa1 a2 _=>?_;have hplain:((backTo p (starEach es envM)).any (·.1)||(backToKw p (keywordEach ks envM)).any (·.1.isNone))=false:=by rw[Dp hn,a2];rfl
 refine methodCall_KW (pl:=do return(<-importBound o envM).getD true) (aD (ho s γ ad env cs _ _ hS hC hF h1) (λuo bZ qq=>?_) λ_ _ z=>z) (FL hb hn a1 hp eW)
 obtain⟨aU,bN,S1,C1,T1,V1⟩:=qq;have F1:=hF.step T1;obtain⟨y1,y2⟩:=y;dsimp only at h2 h hmo V1 C1;have args:∀{g:Value} {first:List Value} {bZ:Shared},St w s₀ aU bZ->(∀(a:Args) cZ cL eS,St w s₀ cL cZ->CsOk w cL eS k.2->Step [] aU cL bN eS->AllR (VR cL eS) z.1 a.pos->AllR (QB cL) k.1 a.kw->wpAny (model prog w) A (call g (first++a.pos) a.kw) (PE w s₀ γ ad v cW) fW cZ)->
   wpAny (model prog w) A (evalArgs g true (backTo p (starEach es envM)) (backToKw p (keywordEach ks envM))) (λa cZ=>(Kf w.params).In cZ.heap/\wpAny (model prog w) A (call g (first++a.pos) a.kw) (PE w s₀ γ ad v cW) fW cZ) fW bZ:=by
  intro g first bZ S1 hq;refine aD (sX (g:=g) (pos:=p) he hn hl hk S1 C1 F1 h2 h3) (λa cZ qq=>?_) λ_ _ z=>z;refine tH (qq) λcL eS S2 C2 T2 V2 K2=>?_;exact⟨hB.K.keeps S2.keep,hq a cZ cL eS S2 C2 T2 V2 K2⟩
 have node:∀t,y1=.node t->wpAny (model prog w) A (getMethod uo (sO m) (do return(<-importBound o envM).getD true)) (λfx cZ=>wpAny (model prog w) A (callWith p fx.1 fx.2 (backTo p (starEach es envM)) (backToKw p (keywordEach ks envM))) (PE w s₀ γ ad v cW) fW cZ) fW bZ:=by
  clear hmo h1;rintro t rfl;refine bH h ?_;clear h;intro x h4 h;refine bH h ?_;clear h;intro y h5 h;refine eV h ?_;clear h;intro q h6 h;cases h;refine V1.nodeI λb dx eb=>?_;refine Ix hB S1 (F1.frm S1) eb h4 (callWith_of hplain (keeps_K (rB w.params h4).2.2) (args S1 λa cZ cL eS S2 C2 T2 V2 K2=>?_));refine nZ (mX S2 C2 V2 h5) λiY S3 C3 T3 V3=>?_;exact aD (rV hc hR S3 ((hF.step ((T1.trans T2).trans T3)).frm S3) (.cons (((VR.node (ad:=[]) eb).mono (T2.ext.trans T3.ext) λ_ _ e=>e)) V3) (K2.mono λ_ _ z=>⟨z.1,z.2.mono T3.ext λ_ _ e=>e⟩) h6)
   (λ_ _ z=>(z.pe C3).trans ((T1.trans T2).trans T3)) λ_ _ z=>z
 have cls:∀c,y1=.glob c->wpAny (model prog w) A (getMethod uo (sO m) (do return(<-importBound o envM).getD true)) (λfx cZ=>wpAny (model prog w) A (callWith p fx.1 fx.2 (backTo p (starEach es envM)) (backToKw p (keywordEach ks envM))) (PE w s₀ γ ad v cW) fW cZ) fW bZ:=by
  clear hmo h1;rintro c rfl;refine bH h ?_;clear h;intro x h4 h;refine bH h ?_;clear h;intro y h5 h;refine eV h ?_;clear h;intro q h6 h;cases h;obtain⟨rfl,_⟩:=V1.isGlob;refine Ml hB S1 (F1.frm S1) h4 (callWith_of hplain (keeps_K (Mm w.params h4)) (args S1.like λa cZ cL eS S2 C2 T2 V2 K2=>?_));refine nZ (mX S2 C2 V2 h5) λiY S3 C3 T3 V3=>?_;exact aD (rV hc hR S3 ((hF.step ((T1.trans T2).trans T3)).frm S3) V3 (K2.mono λ_ _ z=>⟨z.1,z.2.mono T3.ext λ_ _ e=>e⟩) h6)
   (λ_ _ z=>(z.pe C3).trans ((T1.trans T2).trans T3)) λ_ _ z=>z
 rcases ngo y1 with⟨t,e⟩|⟨c,e⟩|⟨g1,g2⟩
 ·exact node t e
 ·exact cls c e
 ·refine NQ ((OM g1 g2).symm.trans h) nS λhk0 h=>?_;clear node cls;refine i8 (Iz (prog:=prog) (A:=A) (pl:=do return(<-importBound o envM).getD true) S1 C1 V1 g1 g2 hmo) λid i1 i2=>?_
  refine i2 (callWith_of (P:=(Kf w.params).In) hplain (λhh X=>⟨.machine,.inr (.inl rfl),Looks.of_pure rfl⟩) (args S1 λa cZ cL eS S2 C2 T2 V2 K2=>?_));clear args;rw[hk0]at K2;obtain⟨apos,akw⟩:=a;dsimp only at K2 V2⊢;cases K2;exact aD (Mq hB S2 C2 (V1.step T2) i1 V2 h) (λ_ _ z=>z.trans (T1.trans T2)) λ_ _ z=>z
theorem xC{i:Expr}(h:sP i=true)(o x:Value):subscripted i false o x=operate [o,x] (getItem o x):=by
 induction i using PySem.Expr.casesOn<;>first|rfl|exact bX h
theorem OP(hS:St w s₀ γ s)(hC:CsOk w γ ad cs){a b:V}{x y:Value}{value i:Expr}(hn:sP i=true)(ha:VR γ ad a x)(hb:VR γ ad b y)(h:eZ a b cs=some v):wpAny (model prog w) A (subscriptTail value i x y) (PN w s₀ γ v) fW s:=by
 refine bH h λu hu h=>vLC h (λh=>vDE h nS λm em h=>Q6 h nS λk ek h=>?_) λl el h=>X7 h nS λk ek h=>dJ h λhz h=>fF hz λz1 z2=>?_
 rotate_left
 ·rw[el]at hu;rw[ek]at hb;refine fM (rW hS hC ha hu) λa vs zr2 q1 q2=>?_;subst zr2;refine hb.intI λt=>?_;refine i8 (q2.get h) λb e1 e2=>?_;refine tail_any q1.typeIs slot_list_getitem.lookup ?_ (xC hn _ _);have:=aM z2;exact wpAny_getItem_list q1 (aM z1) (by lia) (by simpa using e1) (PN.mk' hS e2)
 ·rw[em]at hu;rw[ek]at hb;refine hb.strI λt=>?_;refine fM (xU hS hC ha hu) λa o' zr2 g1 g2=>?_;subst zr2;exact tail_any (⟨o',g1,g2.1.1⟩:s.TypeIs (.ref a) "dict") slot_dict_getitem.lookup (Iq hS hC ha hu h) (xC hn _ _)
theorem OQ{o i:Expr}{fo fi:Ev->Cs->Option (V×Cs)}{p:Pos}(hn:sP i=true)(ho:e8 prog w s₀ A envM o fo)(hi:e8 prog w s₀ A envM i fi):
  e8 prog w s₀ A envM (.Subscript o i p) (λenv cs=>(fo env cs).bind λp=>(fi env p.2).bind λq=>(eZ p.1 q.1 q.2).map λv=>(v,q.2)):=λs γ ad env cs v cW hS hC hF h=>by
 refine bH h ?_;clear h;intro x h1 h;refine bH h ?_;clear h;intro y h2 h;refine eV h ?_;clear h;intro z h3 h;refine l6 h ?_;refine Subscript_ (aD (ho s γ ad env cs _ _ hS hC hF h1) (λlF bZ q=>?_) λ_ _ z=>z);obtain⟨aU,bN,S1,C1,T1,V1⟩:=q;refine aD (hi bZ aU bN env _ _ _ S1 C1 (hF.step T1) h2) (λu₂ cZ q=>?_) λ_ _ z=>z;obtain⟨cL,eS,S2,C2,T2,V2⟩:=q;exact aD (OP S2 C2 hn (V1.step T2) V2 h3) (λ_ _ z=>(z.pe C2).trans (T1.trans T2)) λ_ _ z=>z
theorem OR(hS:St w s₀ γ s)(hC:CsOk w γ ad cs){a b:V}{x y:Value}(ha:VR γ ad a x)(hb:VR γ ad b y)(h:LF a b cs=some (v,cW)):∃l items lo hi,x=.ref l/\s.heap.IsList l items/\items.size<=sizeLine/\IsPart .none lo/\IsPart y hi/\
  PE w s₀ γ ad v cW (.ref (s.heap.objs.size+1)) {s with heap:=(s.heap.push {cls:=.type "slice",data:=.fields #[.none,y,.none]}).push {cls:=.type "list",data:=.seq (slicePick items lo hi none)}}:=by
 refine bH h λu hu h=>vLE h nS λl el h=>X7 h nS λk ek h=>dJ h λhz h=>fF hz λz1 z3=>fF z1 λz1 z2=>?_;rw[el]at hu;rw[ek]at hb;refine fM (rW hS hC ha hu) λa vs zr2 q1 q2=>?_;subst zr2;refine hb.intI λt=>?_;have eW:=q2.length;have z3:=aX z3;refine⟨a,vs,none,some k,rfl,q1,aR (by simpa [eW] using z3:vs.size<=100000) (by decide),.none,.int k t,?_⟩
 rw[I5 _ _ (aM z1)];have:=QE (l:=l.take k.toNat) (cs:=cs) (s':={s with heap:=(s.heap.push {cls:=.type "slice",data:=.fields #[.none,.int k t,.none]}).push {cls:=.type "list",data:=.seq (vs.toList.take k.toNat).toArray}}) hS hC
  (a:=s.heap.objs.size+1) (out:=(vs.toList.take k.toNat).toArray) (n:=0) (λb o e=>Heap.get?_push_of_some _ (Heap.get?_push_of_some _ e)) (tG _)
  (by
   have e1:=Heap.get?_push_size (s.heap.push {cls:=.type "slice",data:=.fields #[.none,.int k t,.none]}) (o:={cls:=.type "list",data:=.seq (vs.toList.take k.toNat).toArray}) rfl;rw[Heap.size_push]at e1;exact e1) (by simpa using q2.take k.toNat)
 rw[aC h]at this;exact this
theorem OS{o:Str}{uu:Expr}{fo fi:Ev->Cs->Option (V×Cs)}{p q pp:Pos}(ho:e8 prog w s₀ A envM (.Name o p) fo)(hi:e8 prog w s₀ A envM uu fi):
  e8 prog w s₀ A envM (.Subscript (.Name o p) (.Slice none (some uu) none q) pp) (λenv cs=>(fo env cs).bind λp=>(fi env p.2).bind λq=>LF p.1 q.1 q.2):=λs γ ad env cs v cW hS hC hF h=>by
 refine bH h ?_;clear h;intro x h1 h;refine bH h ?_;clear h;intro y h2 h;refine wpAny_Subscript_list_slice (aD (ho s γ ad env cs _ _ hS hC hF h1) (λlF bZ q=>?_) λ_ _ z=>z);obtain⟨aU,bN,S1,C1,T1,V1⟩:=q;refine wpAny_evalPart_none (wpAny_evalPart_some (aD (hi bZ aU bN env _ _ _ S1 C1 (hF.step T1) h2) (λu₂ cZ q=>?_) λ_ _ z=>z));obtain⟨cL,eS,S2,C2,T2,V2⟩:=q;refine Eb (OR S2 C2 (V1.step T2) V2 h) λl items lo hi e1 e2 e3 e4 e5 e6=>?_;exact⟨l,items,lo,hi,e1,e2,e3,e4,e5,e6.trans (T1.trans T2)⟩
end
set_option tactic.hygienic false
theorem BC(γ:Gh)(a:Addr)(g g':Option G):iZ (iZ γ a g) a g'=iZ γ a g':=by
 funext x;by_cases h:x=a<;>simp[iZ,h]
noncomputable def pairV(q:Str×V):V:=.tup [.str q.1,q.2]
noncomputable def vI(b:Addr)(i n ep:Nat)(ok ov:Value):Obj:={cls:=.type "dict_itemiterator",dict:=none,data:=.fields #[.none,.bool false,.ref b,.int i 0,.int n 0,.int ep 0,ok,ov],slots:=#[]}
noncomputable def sY(x left:Int):Obj:={cls:=.type "range_iterator",dict:=none,data:=.fields #[rawInt x,rawInt left,rawInt 1],slots:=#[]}
inductive ItK(γ:Gh)(it:Addr)(vs:List V)(i:Nat)(target:Expr):Prop
 |list {o:Obj} {l:Addr}:γ it=some (.raw o)->o.cls=.type "list_iterator"->o.data=.fields #[.ref l,.int i 0]->γ l=some (.lst vs)->ItK γ it vs i target
 |items {b:Addr} {d:List (Str×V)} {ob:Obj} {es:Array DictEntry} {ep:Nat} {ok ov:Value} {elts:List Expr} {x1:Nat} {pos:Pos}:γ it=some (.raw (vI b i d.length ep ok ov))->γ b=some (.dct d ob)->ob.data=.dict es ep->
   vs=d.map pairV->target=.Tuple elts x1 pos->ItK γ it vs i target
 |range {lo:Int} {n:Nat}:γ it=some (.raw (sY (lo+i) ((n:Int)-i)))->vs=eK lo n->ItK γ it vs i target
section
variable{prog:Program}{w:World}{s₀ s s':Shared}{γ bP:Gh}{ad dU:List Addr}{cs cW:Cs}{A:Around}{d:Nat}{cf:cO}{v:V}{u:Value}{envM:Env}{sc:Scope}{env:Ev}{r:Rec}{it:Addr}{vs:List V}{i:Nat}{target:Expr}
theorem rY:∀(n:Nat) (lo:Int) (i:Nat),(eK lo n)[i]?=if i<n then some (.int (lo+i))else none
 |0,_,_=>by simp[eK]
 |n+1,lo,0=>by simp[eK]
 |n+1,lo,i+1=>by
  rw[eK];rw[List.getElem?_cons_succ,rY n (lo+1) i];by_cases h:i<n
  ·rw[if_pos h,if_pos (by lia)];congr 2;push_cast;lia
  ·rw[if_neg h,if_neg (by lia)]
theorem ItK.raw(h:ItK γ it vs i target):∃o,γ it=some (.raw o):=by induction h using ItK.casesOn<;>exact⟨_,by assumption⟩
theorem ItK.step{X:List Addr}(h:ItK γ it vs i target)(x:Step X γ bP ad dU)(h1:it∉ad)(h2:it∉X):ItK bP it vs i target:=by
 induction h using ItK.casesOn with
 |list a b c d=>exact .list (x.raw _ _ a h1 h2) b c (x.ext _ _ d rfl)
 |items a b c d e=>exact .items (x.raw _ _ a h1 h2) (x.ext _ _ b rfl) c d e
 |range a b=>exact .range (x.raw _ _ a h1 h2) b
theorem St.swap{a:Addr}{o o':Obj}(x:St w s₀ γ s)(e:γ a=some (.raw o))(k:∀b o,b≠a->s.heap.get? b=some o->s'.heap.get? b=some o)(ho:s'.heap.get? a=some o')(hg:autoParam (s'.gens=s.gens) au)(hos:autoParam (s'.os=s.os) au):
  St w s₀ (iZ γ a (some (.raw o'))) s':=by
 have lo:=x.ok.lo _ _ e rfl;have G:=(x.ok.kill e k).adopt (a:=a) (o:=o') lo (λg q=>by rw[bK]at q;refine e9 q ?_;rfl) (λb t dx q=>by
  by_cases hb:b=a
  ·clear lo ho k e;subst hb;rw[bK]at q;cases q
  ·rw[cN hb]at q;exact λz=>by have:=(x.ok.dlo _ _ _ q).2;rw[z,e]at this;cases this) ho
 rw[BC]at G;exact⟨λc oc q=>k c oc (λz=>by rw[<-z]at lo;exact absurd (aZ (Heap.lt_size q) lo) (i7 _)) (x.keep c oc q),bD (aP lo (Heap.lt_size ho)),G,hg.trans x.gens,hos.trans x.os⟩
inductive PI(w:World)(s₀:Shared)(γ:Gh)(ad:List Addr)(it:Addr)(vs:List V)(i:Nat)(target:Expr)(x:V)(u:Value)(s':Shared):Prop
 |mk (bP:Gh):St w s₀ bP s'->Step [it] γ bP ad ad->ItK bP it vs (i+1) target->VR bP [] x u->PI w s₀ γ ad it vs i target x u s'
theorem OT(hS:St w s₀ γ s)(h:ItK γ it vs i target){x:V}(hx:vs[i]?=some x):
  wpAny (model prog w) A (pyNext (.ref it)) (λr bZ=>∃u,r=some u/\wpAny (model prog w) A (letOwnedTupleGo target (.ref it) u) (λ_ cZ=>PI w s₀ γ ad it vs i target x u cZ) fW bZ) fW s:=by
 induction h using ItK.casesOn with
 |@list o l a b c e=>
  refine nG (hS.ok.at_ _ _ e) λol h1 h2 vv n h3 h4=>?_;obtain⟨ux,e1,e2⟩:=h4.get hx;refine wpAny_pyNext_list_item ⟨o,hS.raw a,b,c⟩ (mW h1 h2 h3) (by simpa using e1) λh' hi hs=>⟨ux,rfl,letGo_listiter hi ?_⟩
  refine lY (hi) λo' p1 p2 p3=>?_;have T:Step [it] γ (iZ γ it (some (.raw o'))) ad ad:=gW (.raw o') ad a (.inr (by simp))
  refine⟨_,hS.set a hs p1,T,.list (bK ..) p2 p3 (T.ext _ _ e rfl),e2.mono T.ext λi a e=>by simp at e⟩
 |@items b m ob es ep ok ov elts x1 pos a e c hv ht=>
  subst hv ht;refine Bs (hS.ok.at_ _ _ e) λh1 h2 es' n' h3 h4 h5=>?_;rw[c]at h3;cases h3;refine lY (vH (prog:=prog) h4) λkvs k1 k2 k3=>?_;have hD:s.heap.DictAt (PySem.strKind prog w) b kvs ep:=⟨ob,es,h1,h2,c,λe he=>k3 e (iT.mpr he),k1,by rw[<-vG k2];exact h5⟩
  have eW:m.length=kvs.length:=k2.length;clear k3 k1 h4 h5 h2 h1;rw[List.getElem?_map]at hx;refine eV hx ?_;clear hx;intro q hq hrfl;subst hrfl;refine lY (k2.get hq) λkv hkv r1 r2=>?_;have hit:IsItemIter s.heap it b i kvs.length ep ok ov:=eW▸hS.raw a;refine wpAny_pyNext_items_item hit hD (k:=kv.1) (v:=kv.2) hkv λkey h' hk hi hT hz hkp=>⟨_,rfl,wpAny_letOwnedTupleGo_items (s:={s with heap:=h'}) hi λh'' hi' hs=>?_⟩
  obtain⟨t,rfl⟩:=Value.isStrOf_shape hk;have il:it<s.heap.objs.size:=Heap.lt_size (hS.raw a);have S1:=hS.swap (s':={s with heap:=h''}) a (λb o hb e=>(hs.2 b hb).trans (hkp b o hb e)) hi'
  have T1:Step [it] γ (iZ γ it (some (.raw (vI b (i+1) kvs.length ep (.str kv.1 t) kv.2)))) ad ad:=gW _ ad a (.inr (by simp))
  have f5:s.heap.objs.size≠it:=sF il;have hf:dX (iZ γ it (some (.raw (vI b (i+1) kvs.length ep (.str kv.1 t) kv.2)))) s.heap.objs.size:=λg q=>by rw[cN f5]at q;exact hS.free g q
  have G2:=S1.ok.adopt (a:=s.heap.objs.size) (o:={cls:=.type "tuple",data:=.seq #[.str kv.1 t,kv.2]}) hS.size hf (λx t' dx e=>by
   by_cases hb:x=it
   ·clear hf f5 T1 S1 il hi' hi hs hkp hit a;subst hb;rw[bK]at e;cases e
   ·rw[cN hb]at e;exact eU (hS.ok.dlt e)) ((hs.2 _ f5).trans hT)
  have T2:=d6 (X:=[it]) (.raw {cls:=.type "tuple",data:=.seq #[.str kv.1 t,kv.2]}) ad hf;have S2:St w s₀ _ _:=⟨S1.keep,S1.size,G2,S1.gens,S1.os⟩;have T12:=T1.trans T2;have S3:=S2.tell (g:=.tup [.str q.1,q.2]) (bK ..) (by intro _ _ z;cases z) ⟨_,S2.raw (bK ..),rfl,_,0,rfl,.cons (by rw[r1];exact .str ..) (.cons (r2.mono T12.ext λi a e=>by simp at e) .nil)⟩
  rw[BC]at S3;have T3:=d6 (X:=[it]) (.tup [.str q.1,q.2]) ad hf;have T13:=T1.trans T3;refine⟨_,S3,T13,.items (by rw[cN (Ne.symm f5),bK,eW];rfl) (T13.ext _ _ e rfl) c rfl rfl,.tup (bK ..)⟩
 |@range lo n a hv=>
  subst hv;rw[rY]at hx;by_cases hin:i<n
  ·rw[if_pos hin]at hx;refine e9 hx ?_;refine wpAny_pyNext_range_item (x:=lo+i) (left:=(n:Int)-i) (step:=1) (hS.raw a) (by lia) λh' hi hs=>⟨_,rfl,?_⟩
   have T:Step [it] γ (iZ γ it (some (.raw (sY (lo+i+1) ((n:Int)-i-1))))) ad ad:=gW _ ad a (.inr (by simp))
   have fin:PI w s₀ γ ad it (eK lo n) i target (.int (lo+i)) (.int (lo+i) s.toks) {s with heap:=h',toks:=s.toks+1}:=by
    refine⟨_,hS.set (s':={s with heap:=h',toks:=s.toks+1}) a hs hi,T,.range ?_ rfl,.int ..⟩
    rw[show lo+((i+1:Nat):Int)=lo+i+1 by push_cast;lia,show(n:Int)-((i+1:Nat):Int)=n-i-1 by push_cast;lia,bK];rfl
   unfold letOwnedTupleGo;induction target using PySem.Expr.casesOn<;>exact wpAny_pure fin
  ·rw[if_neg hin]at hx;exact aY hx
theorem Mr(hh:A.handled=none)(hS:St w s₀ γ s)(h:ItK γ it vs i target)(hx:vs[i]?=none){b:Addr}{ob:Obj}(eb:γ b=some (.raw ob))(hb:b≠it):
  wpAny (model prog w) A (pyNext (.ref it)) (λr bZ=>r=none/\St w s₀ (iZ γ it (some .dead)) bZ) fW s:=by
 induction h using ItK.casesOn with
 |@list o l a q c e=>
  refine nG (hS.ok.at_ _ _ e) λol h1 h2 vv n h3 h4=>?_;have eW:=h4.length;have hle:=List.getElem?_eq_none_iff.mp hx;exact wpAny_pyNext_list_end hh ⟨o,hS.raw a,q,c⟩ (mW h1 h2 h3) (by simp;simp at eW;lia) λh' he=>⟨rfl,hS.kill a eb hb λb o hb e=>he b o hb e⟩
 |@items b m ob es ep ok ov elts x1 pos a e c hv ht=>
  subst hv ht;refine Bs (hS.ok.at_ _ _ e) λh1 h2 es' n' h3 h4 h5=>?_;rw[c]at h3;cases h3;refine lY (vH (prog:=prog) h4) λkvs k1 k2 k3=>?_;have hD:s.heap.DictAt (PySem.strKind prog w) b kvs ep:=⟨ob,es,h1,h2,c,λe he=>k3 e (iT.mpr he),k1,by rw[<-vG k2];exact h5⟩
  have eW:m.length=kvs.length:=k2.length;have hle:=List.getElem?_eq_none_iff.mp hx;rw[aT]at hle;have hit:IsItemIter s.heap it b i kvs.length ep ok ov:=eW▸hS.raw a;exact wpAny_pyNext_items_end hh hit hD (List.getElem?_eq_none_iff.mpr (by lia)) λh' he=>⟨rfl,hS.kill a eb hb λb o hb e=>he b o hb e⟩
 |@range lo n a hv=>
  subst hv;rw[rY]at hx;by_cases hin:i<n
  ·rw[if_pos hin]at hx;cases hx
  ·exact wpAny_pyNext_range_end (x:=lo+i) (left:=(n:Int)-i) (step:=1) hh (hS.raw a) (by lia) λh' he=>⟨rfl,hS.kill a eb hb λb o hb e=>he b o hb e⟩
end
set_option tactic.hygienic true
theorem QH{i j:Nat}{v:V}{env env':Ev}(h:n6 [i,j] v env=some env'):∃a b,v=.tup [a,b]/\env'=fO j b (fO i a env):=by
 refine vTE (show Ei none v (λl=>AA none l λa b=>some (fO j b (fO i a env)))=some env' from h) nS λl e h=>Ol h nS λa b e2 h=>⟨a,b,by rw[e,e2],(aC h).symm⟩
section
variable{prog:Program}{w:World}{s₀ s s':Shared}{γ bP:Gh}{ad dU:List Addr}{cs cW:Cs}{A:Around}{d:Nat}{cf:cO}{v:V}{u:Value}{envM:Env}{sc dA:Scope}{env env':Ev}{r:Rec}
theorem FmOk.locRaw(hF:FmOk γ ad envM env):∃o,γ envM.locals=some (.raw o):=by obtain⟨o,_,e,_⟩:=hF.loc;exact⟨o,e⟩
theorem FmOk.weaken(hF:FmOk γ ad envM env')(h:∀i v,dZ i env=some v->dZ i env'=some v):FmOk γ ad envM env:=by
 refine fM (hF.loc) λo m h1 h2 h3=>?_;refine⟨⟨o,m,h1,h2,λx i v a b c=>h3 x i v a (h i v b) c⟩,λx c q=>?_,hF.nLoc,hF.nCel,hF.inj⟩;refine fM (hF.cel x c q) λo cv a1 a2 a3=>?_;exact⟨o,cv,a1,a2,λi v e1 e2=>a3 i v e1 (h i v e2)⟩
inductive PS(w:World)(s₀:Shared)(γ:Gh)(ad:List Addr)(X:List Addr)(envM:Env)(env':Ev)(s':Shared):Prop
 |mk (bP:Gh):St w s₀ bP s'->Step X γ bP [] []->FmOk bP ad envM env'->PS w s₀ γ ad X envM env' s'
theorem jE(hE:EnvOk envM sc)(hS:St w s₀ γ s)(hF:FmOk γ ad envM env){x:Str}{i:Nat}(hl:envM.kindOf x=some .local)(hv:mQ x=some i)(hx:VR γ ad v u):
  wpAny (model prog w) A (storeName envM x u) (λ_ s'=>PS w s₀ γ ad [envM.locals] envM (fO i v env) s') fW s:=by
 refine fM (hF.loc) λo m h1 h2 h3=>?_;refine wpAny_storeName_local hl (h2.ns (hS.raw h1)) (λh' hn hs=>?_) (by rw[hE.kind];rfl)
 obtain⟨o',e',hN'⟩:=Dk.of hn;have T0:Step [envM.locals] γ (iZ γ envM.locals (some (.raw o'))) [] []:=gW (.raw o') [] h1 (.inr (by simp))
 have T:=T0.calledX ad;refine⟨_,hS.set (s':={s with heap:=h',toks:=s.toks+1}) h1 hs e',T0,⟨o',_,bK ..,hN',λy j v' a b c=>?_⟩,λy c q=>?_,hF.nLoc,hF.nCel,hF.inj⟩
 ·rw[jB]at b;by_cases hj:j=i
  ·subst hj;rw[if_pos rfl]at b;obtain rfl:=aC b;have:=rT a hv;clear hv hN' hn hl;subst this;exact⟨u,if_pos rfl,hx.step T⟩
  ·rw[if_neg hj]at b;obtain⟨u',e1,e2⟩:=h3 y j v' a b c;refine⟨u',?_,e2.step T⟩;rw[if_neg (λz=>hj (by subst z;rw[hv]at a;exact(aC a).symm))];exact e1
 ·refine fM (hF.cel y c q) λoc cv a1 a2 a3=>?_;refine⟨oc,cv,(cN (hF.nCel y c q).2).trans a1,a2,λj v' a b kk=>?_⟩;rw[jB]at b;by_cases hj:j=i
  ·clear b;subst hj;have:=rT a hv;clear hv hN' hn;subst this;rcases kk with kk|kk<;>(rw[hl]at kk;cases kk)
  ·rw[if_neg hj]at b;obtain⟨u',e1,e2⟩:=a3 j v' a b kk;exact⟨u',e1,e2.step T⟩
theorem tQ{l:List (Str×Addr)}{x:Str}{c:Addr}(h:l.lookup x=some c):c∈l.map (·.2):=bR.mpr ⟨_,mem_of_lookup h,rfl⟩
theorem E7(hE:EnvOk envM sc)(hS:St w s₀ γ s)(hF:FmOk γ ad envM env){x:Str}{i:Nat}(hl:envM.kindOf x=some .cell)(hv:mQ x=some i)(hx:VR γ ad v u){c:Addr}(hc:envM.cells.lookup x=some c):
  wpAny (model prog w) A (storeName envM x u) (λ_ s'=>PS w s₀ γ ad [c] envM (fO i v env) s') fW s:=by
 refine fM (hF.cel x c hc) λoc cv a1 a2 a3=>?_;refine wpAny_storeName_cell hE.kind hl hc ⟨oc,hS.raw a1,a2⟩ λh' hn hs=>?_;obtain⟨o',e',hN'⟩:=hn;have T0:Step [c] γ (iZ γ c (some (.raw o'))) [] []:=gW (.raw o') [] a1 (.inr (by simp))
 have T:=T0.calledX ad;refine fM (hF.loc) λol m h1 h2 h3=>?_;have f5:=(hF.nCel x c hc).2;refine⟨_,hS.set (s':={s with heap:=h'}) a1 hs e',T0,⟨ol,m,(cN (Ne.symm f5)).trans h1,h2,λy j v' a b kk=>?_⟩,λy c' q=>?_,hF.nLoc,hF.nCel,hF.inj⟩
 ·rw[jB]at b;by_cases hj:j=i
  ·clear b;subst hj;have:=rT a hv;clear hv a3 hc;subst this;rw[hl]at kk;cases kk
  ·rw[if_neg hj]at b;obtain⟨u',e1,e2⟩:=h3 y j v' a b kk;exact⟨u',e1,e2.step T⟩
 ·by_cases hcc:c'=c
  ·clear f5 T0 e' hs a1;subst hcc;have:=hF.inj _ _ _ q hc;clear hc a3 hl;subst this;refine⟨o',_,bK ..,hN',λj v' a b kk=>?_⟩;clear kk;rw[hv]at a;obtain rfl:=aC a;rw[jB,if_pos rfl]at b;obtain rfl:=aC b;exact⟨u,rfl,hx.step T⟩
  ·refine fM (hF.cel y c' q) λoc cv a1 a2 a3=>?_;refine⟨oc,cv,(cN hcc).trans a1,a2,λj v' a b kk=>?_⟩;rw[jB]at b;by_cases hj:j=i
   ·clear b;subst hj;have:=rT a hv;clear hv hl;subst this;clear a3 kk a a2;rw[hc]at q;clear a1;obtain rfl:=aC q;exact absurd rfl hcc
   ·rw[if_neg hj]at b;obtain⟨u',e1,e2⟩:=a3 j v' a b kk;exact⟨u',e1,e2.step T⟩
theorem eG(hE:EnvOk envM sc){x:Str}(h:cJ x sc.names=some .local):envM.kindOf x=some .local:=by
 rcases hE.names x _ h with q|⟨q,_⟩
 ·exact q
 ·cases q
theorem AO(hh:A.handled=none)(hE:EnvOk envM sc)(hS:St w s₀ γ s)(hF:FmOk γ ad envM env){target:Expr}{t:List Nat}{x:V}{u:Value}(hT:ErT sc target t)(hb:n6 t x env=some env')(hx:VR γ [] x u):
  wpAny (model prog w) A (assign target envM u) (λ_ s'=>PS w s₀ γ ad [envM.locals] envM env' s') fW s:=by
 cases hT with
 |nil=>exact aY hb
 |one h1 h2=>
  obtain rfl:=aC hb;exact wpAny_assign_Name (jE hE hS hF (eG hE h1) h2 (hx.up ad))
 |@two x y p q rr k i j h1 h2 f5 h3 h4=>
  refine kW (QH hb) λa b zr2 zr3=>?_;subst zr2;subst zr3;refine hx.tupI λta et=>?_;refine nG (hS.ok.at_ _ _ et) λo e1 e2 vs n e3 e4=>?_;obtain⟨vs⟩:=vs;cases e4 with
  |@cons _ ua _ _ ra e4=>
   cases e4 with
   |@cons _ ub _ _ rb e4=>
    cases e4;obtain⟨ol,hol⟩:=hF.locRaw;refine assign_Tuple_tuple hh ⟨o,e1,e2,n,e3⟩ rfl rfl λh' he=>?_;have S1:=hS.grow' (s':={s with heap:=h'}) hol λb o e=>he b o (eU (Heap.lt_size e)) e
    show wpAny _ _ (do holding [ub] (assign (.Name x p) envM ua);(do holding [] (assign (.Name y q) envM ub);pure ())) _ _ _
    refine bF (wpAny_holding (aD (wpAny_assign_Name (jE hE S1 hF (eG hE h1) h3 (ra.up ad))) (λ_ bZ z=>?_) λ_ _ z=>z));obtain⟨aU,S2,T2,F2⟩:=z;refine bF (wpAny_holding (aD (wpAny_assign_Name (jE hE S2 F2 (eG hE h2) h4 ((rb.up ad).step (T2.calledX ad)))) (λ_ cZ z=>?_) λ_ _ z=>z));obtain⟨cL,S3,T3,F3⟩:=z;exact wpAny_pure ⟨cL,S3,T2.trans T3,F3⟩
theorem E8(hS:St w s₀ γ s)(hC:CsOk w γ ad cs){target:Expr}{t:List Nat}{v:V}{u:Value}{l:List V}(hT:ErT sc target t)(hv:VR γ ad v u)(h:j4 t v cs=some (l,cW)):
  wpAny (model prog w) A (pyIter u) (λitv s'=>∃it bP,itv=.ref it/\St w s₀ bP s'/\CsOk w bP ad cW/\Step [] γ bP ad ad/\dX γ it/\it∉ad/\ItK bP it l 0 target/\l.length<=1000) fW s:=by
 refine bH h ?_;clear h;intro p h1 h;obtain⟨p1,p2⟩:=p;refine nZ (rE hS hC hv h1) λaU S1 C1 T1 V1=>?_;have hf1:=S1.free;have hf:=hS.free;dsimp only at h V1 C1;refine vLC h (λh=>vtE h nS λm em h=>dJ h λhz h=>fF hz λz1 z2=>?_) λl' el h=>dJ h λhz h=>?_
 rotate_left
 ·obtain⟨e1,e2⟩:=Prod.mk.inj (aC h);clear h;rw[el,e1]at V1;clear h;rw[e1]at hz;rw[e2]at C1;clear h e1 e2 el h1 hv hT;refine V1.lstI λa e=>?_;refine nG (S1.ok.at_ _ _ e) λo e1 e2 vs n e3 e4=>?_;refine wpAny_pyIter_list (mW e1 e2 e3) ⟨_,_,rfl,S1.alloc (s':={s with heap:=s.heap.push {cls:=.type "list_iterator",data:=.fields #[.ref a,.int 0 0]}}) _ rfl,C1.alloc hf1,T1.trans (d6 _ ad hf1),hf,hC.notIn hf,.list (bK ..) rfl rfl ?_,aX hz⟩
  exact(cN (hf1.ne e (by intro z;cases z))).trans e
 ·obtain⟨e1,e2⟩:=Prod.mk.inj (aC h);rw[em]at V1;rw[e2]at C1;rw[<-e1];clear h e1 e2 em h1 hv hz;refine V1.ditI λa e=>?_;refine kW (S1.ok.at_ _ _ e) λb ob e1 e2=>?_;refine Bs (S1.ok.at_ _ _ e2) λe3 e4 es ep e5 e6 e7=>?_;refine lY (vH (prog:=prog) e6) λkvs k1 k2 k3=>?_;have hD:s.heap.DictAt (PySem.strKind prog w) b kvs ep:=⟨ob,es,e3,e4,e5,λe he=>k3 e (iT.mpr he),k1,by rw[<-vG k2];exact e7⟩
  have eW:m.length=kvs.length:=k2.length;have ht:∃elts x1 pos,target=.Tuple elts x1 pos:=by
   cases hT with
   |one _ _=>exact bX z2
   |two _ _ _ _ _=>exact⟨_,_,_,rfl⟩
   |nil=>exact bX z2
  clear hT;refine oEEE (ht) λelts x1 pos zr3=>?_;subst zr3;refine wpAny_pyIter_items e1 hD ⟨_,_,rfl,S1.alloc (s':={s with heap:=s.heap.push (vI b 0 kvs.length ep .none .none)}) (vI b 0 kvs.length ep .none .none) rfl,C1.alloc hf1,T1.trans (d6 _ ad hf1),hf,hC.notIn hf,
   .items (by rw[bK,eW]) ((cN (hf1.ne e2 (by intro z;cases z))).trans e2) e5 rfl rfl,by rw[aT];exact aX z1⟩
end
set_option tactic.hygienic false
def rH(w:World)(γ:Gh)(c8:Addr)(c:V):Prop:=∃o,γ c8=some (.raw o)/\uJ w γ o c/\o.dict=none
theorem rH.step{w:World}{X:List Addr}{γ bP:Gh}{ad dU:List Addr}{c8:Addr}{c:V}(h:rH w γ c8 c)(x:Step X γ bP ad dU)(h1:c8∉ad)(h2:c8∉X):rH w bP c8 c:=
 let⟨o,a,b,e⟩:=h;⟨o,x.raw _ _ a h1 h2,b.mono x.ext,e⟩
theorem Step.out{X:List Addr}{γ bP:Gh}{ad dU:List Addr}(x:Step X γ bP ad dU){a:Addr}{o:Obj}(e:γ a=some (.raw o))(h1:a∉ad)(h2:a∉X):a∉dU:=by
 refine i8 (x.pre) λm q hm=>?_;intro z;rw[q]at z;rcases b7.mp z with z|z
 ·exact h1 z
 ·exact(hm a z).elim (gL e) h2
noncomputable def tE(em:Sem Unit)(ag:Sem Fin)(ok:Bool):Sem Fin:=if ok then em>>=λ_=>ag else ag
noncomputable def tI(ifs:List Expr)(cenv:Env):Sem Bool:=forIn ifs true (λc r=>if r=true then do let ok<-isTrue c cenv (eval c cenv);pure (ForInStep.yield ok)else pure (ForInStep.yield r))
def tD(g:Comprehension)(em:Sem Unit)(cenv:Env)(ag:Sem Fin)(v:Value):Sem Fin:=assign g.target cenv v>>=λ_=>tI g.ifs cenv>>=tE em ag
def tS(g:Comprehension)(em:Sem Unit)(cenv:Env)(itv:Value)(ag:Sem Fin):Option Value->Sem Fin
 |none=>pure (.done .next)
 |some v=>letOwnedTupleGo g.target itv v>>=λ_=>tD g em cenv ag v
def BD(e:Expr)(depth:Nat)(g:Comprehension)(em:Sem Unit)(c8:Value)(cenv:Env):Prop:=∀itv,compTurn e depth itv c8 cenv=(standAt g.iter.pos>>=λ_=>pyNext itv>>=tS g em cenv itv (again (.compLoop e depth itv c8 cenv)))
def OU(e:Expr)(depth:Nat)(g:Comprehension)(em:Sem Unit)(c8:Value)(cenv:Env):Prop:=∀itv,compTurn e depth itv c8 cenv=(do
   standAt g.iter.pos
   match<-pyNext itv with
   |none=>pure (.done .next)
   |some v=>
    letOwnedTupleGo g.target itv v
    assign g.target cenv v
    let mut ok:=true
    for c in g.ifs do
     if ok then ok<-isTrue c cenv (eval c cenv)
    if ok then em
    again (.compLoop e depth itv c8 cenv))
theorem OV{e:Expr}{depth:Nat}{g:Comprehension}{em:Sem Unit}{c8:Value}{cenv:Env}(h:OU e depth g em c8 cenv):BD e depth g em c8 cenv:=λitv=>(h itv).trans rfl
section
variable{prog:Program}{w:World}{s₀ s s':Shared}{γ bP:Gh}{ad dU:List Addr}{cs cW:Cs}{A:Around}{d:Nat}{cf:cO}{v:V}{u:Value}{envM cenv:Env}{sc dA:Scope}{env env':Ev}{r:Rec}{c8 it:Addr}{av:List V->V}
theorem zG{α:Type}{t:Sem α}{k:Value->Sem Unit}{Q:α->Shared->Prop}{E:Value->Shared->Prop}(h:wpAny (model prog w) A t Q fW s):wpAny (model prog w) A (t.onRaise k) Q E s:=
 wpAny_onRaise (aD h (λ_ _ z=>z) λ_ _ z=>z.elim)
def I6(prog:Program)(w:World)(s₀:Shared)(A:Around)(cenv:Env)(c8:Addr)(av:List V->V)(N m:Nat)(em:Sem Unit)(k:Ev->Cs->Option (List V×Cs))(env:Ev):Prop:=
 ∀s γ ad env' cs outs res cW,St w s₀ γ s->CsOk w γ ad cs->FmOk γ ad cenv env'->(∀i v,dZ i env=some v->dZ i env'=some v)->rH w γ c8 (av outs)->c8∉ad->outs.length<=N->k env' cs=some (res,cW)->
  res.length<=m/\wpAny (model prog w) A em (λ_ s'=>∃bP dU,St w s₀ bP s'/\CsOk w bP dU cW/\Step [c8,cenv.locals] γ bP ad dU/\FmOk bP dU cenv env'/\rH w bP c8 (av (outs++res))/\c8∉dU) fW s
theorem zH{cenv:Env}:∀(ifs:List Expr),(forIn ifs false (λc r=>if r=true then do let ok<-isTrue c cenv (eval c cenv);pure (ForInStep.yield ok)else pure (ForInStep.yield r)):Sem Bool)=pure false
 |[]=>rfl
 |c::r=>by
  rw[List.forIn_cons];simp only[Bool.false_eq_true,if_false,pure_bind];exact zH r
theorem Ms{f:Expr->X}:∀{ifs:List Expr},(∀c∈ifs,rR prog w s₀ A cenv c (λenv cs=>r.ts (f c) env cs))->∀{s:Shared} {γ:Gh} {ad:List Addr} {env:Ev} {cs cW:Cs} {b:Bool},St w s₀ γ s->CsOk w γ ad cs->FmOk γ ad cenv env->LE r env (ifs.map f) cs=some (b,cW)->
  wpAny (model prog w) A (forIn ifs true (λc r=>if r=true then do let ok<-isTrue c cenv (eval c cenv);pure (ForInStep.yield ok)else pure (ForInStep.yield r)):Sem Bool) (PT w s₀ γ ad b cW) fW s:=by
 intro ifs;induction ifs with
 |nil=>
  intro _ s γ ad env cs cW b hS hC hF h;refine kU h ?_;exact wpAny_pure ⟨rfl,γ,ad,hS,hC,.refl γ ad⟩
 |cons c rest ih=>
  intro he s γ ad env cs cW b hS hC hF h;refine bH h ?_;clear h;intro x h1 h;rw[List.forIn_cons];simp only[if_true];refine bF (bF (aD (he c aE s γ ad env _ _ _ hS hC hF h1) (λok bZ q=>wpAny_pure ?_) λ_ _ z=>z));obtain⟨rfl,aU,bN,S1,C1,T1⟩:=q;show wpAny _ _ (forIn rest x.1 _) _ _ _;induction hx:x.1 using Bool.casesOn with
  |true=>
   rw[hx]at h;exact aD (ih (λe' m=>he e' (aI _ m)) S1 C1 (hF.step T1) h) (λ_ _ z=>z.trans T1) λ_ _ z=>z
  |false=>
   rw[hx]at h;cases h;rw[zH];exact wpAny_pure ⟨rfl,aU,bN,S1,C1,T1⟩
theorem AP{l:List V}{i:Nat}{x:V}(h:l[i]?=some x):l.drop i=x::l.drop (i+1):=by
 obtain⟨hi,rfl⟩:=List.getElem?_eq_some_iff.mp h;exact List.drop_eq_getElem_cons hi
theorem I7{t:List Nat}{x:V}(h:n6 t x env=some env')(hf:fresh t env=true):∀i v,dZ i env=some v->dZ i env'=some v:=by
 have hf:=(aL.mp hf).2;have f5:∀i∈t,∀j v,dZ j env=some v->j≠i:=λi hi j v e z=>by
  subst z;have:=aW.mp hf j hi;rw[e]at this;exact bX this
 intro j v e;clear hf;clear hf;refine GR (Q:=λz=>z=some env'->dZ j env'=some v) (λh=>Ol h nS λi k z h=>?_) (λi z h=>?_) (show w7 (AA none t λi j=>Ei none x λl=>AA none l λa b=>some (fO j b (fO i a env))) t (λi=>some (fO i x env))=some env' from h)
 rotate_left
 ·subst z;refine e9 h ?_;rw[jB,if_neg (f5 i (by simp) j v e)];exact e
 ·subst z;refine kW (QH h) λa b zr2 zr3=>?_;subst zr2;subst zr3;rw[jB,if_neg (f5 k (by simp) j v e),jB,if_neg (f5 i (by simp) j v e)];exact e
inductive CQ(w:World)(s₀:Shared)(γ:Gh)(ad X:List Addr)(cenv:Env)(env:Ev)(c8:Addr)(c:V)(csF:Cs)(p:Prop)(rr:Result)(s':Shared):Prop
 |mk (hr:rr=.ok .next) (hp:p) (bP:Gh) (dU:List Addr) (S:St w s₀ bP s') (C:CsOk w bP dU csF) (T:Step X γ bP ad dU) (F:FmOk bP dU cenv env) (A:rH w bP c8 c) (a:c8∉dU)
structure CI(w:World)(s₀:Shared)(γ:Gh)(ad:List Addr)(cenv:Env)(env:Ev)(it c8:Addr)(av:List V->V)(vs:List V)(tg:Expr)(m:Nat)(outs res:List V)(tn:List V->Cs->Option (List V×Cs))(csF:Cs)(bP:Gh)(dU:List Addr)(cW:Cs)(outs':List V)(i:Nat)(rest:List V)(s':Shared):Prop where
 hi:i<=vs.length
 S:St w s₀ bP s'
 C:CsOk w bP dU cW
 T:Step [it,c8,cenv.locals] γ bP ad dU
 F:FmOk bP dU cenv env
 A:rH w bP c8 (av outs')
 a:c8∉dU
 n:it∉dU
 I:ItK bP it vs i tg
 l:outs'.length<=outs.length+i*m
 h:tn (vs.drop i) cW=some (rest,csF)
 e:outs++res=outs'++rest
inductive CN(P:Gh->List Addr->Cs->List V->Nat->List V->Shared->Prop)(k:Nat)(n:Nat)(s':Shared):Prop
 |mk (bP:Gh) (dU:List Addr) (cW:Cs) (outs':List V) (i:Nat) (rest:List V) (hn:n=k-i) (h:P bP dU cW outs' i rest s')
def CP(c:Code)(R:Result->Shared->Prop)(I:Nat->Shared->Prop)(n:Nat)(fin:Fin)(s':Shared):Prop:=match fin with
 |.done f=>R (.ok f) s'
 |.again c'=>c'=c/\∃m,m<n/\I m s'
theorem OW{c:Code}{R:Result->Shared->Prop}{I:Nat->Shared->Prop}{n:Nat}{M:Model}{E:Value->Shared->Prop}(h:R (.ok .next) s):wpAny M A (pure (.done .next)) (CP c R I n) E s:=wpAny_pure h
theorem Dt{c:Code}{R:Result->Shared->Prop}{P:Gh->List Addr->Cs->List V->Nat->List V->Shared->Prop}{k i:Nat}{M:Model}{E:Value->Shared->Prop}{bP:Gh}{dU:List Addr}{cW:Cs}{outs' rest:List V}(hi:i<k)(h:P bP dU cW outs' (i+1) rest s):wpAny M A (again c) (CP c R (CN P k) (k-i)) E s:=
 wpAny_pure ⟨rfl,k-(i+1),Nat.sub_lt_sub_left hi (fL i),bP,dU,cW,outs',i+1,rest,rfl,h⟩
theorem to_Q{α:Type}{x:Sem α}{Q0:α->Shared->Prop}{M:Model}{E:Value->Shared->Prop}(h:∀Q:α->Shared->Prop,(∀u s',Q0 u s'->Q u s')->wpAny M A x Q E s):wpAny M A x Q0 E s:=h Q0 λ_ _ z=>z
theorem QI{a b i m:Nat}(h:a<=b+i*m){c:Nat}(hc:c<=m):a+c<=b+(i+1)*m:=by rw[Nat.add_mul,Nat.one_mul];lia
theorem len_N{a b i m N k:Nat}(h:a<=b+i*m)(hi:i<=k)(hk:k<=1000)(hN:b+1000*m<=N):a<=N:=by
 have:=nQ m (aR hi hk);lia
theorem I8{g:Comprehension}{em:Sem Unit}{t:List Nat}{N m:Nat}{k:Ev->Cs->Option (List V×Cs)}{f:Expr->X}{vs res:List V}{outs:List V}{csF:Cs}
  (hh:A.handled=none)
  (hE:EnvOk cenv dA) (ht:ErT dA g.target t) (mO:fresh t env=true) (hifs:∀c∈g.ifs,rR prog w s₀ A cenv c (λenv cs=>r.ts (f c) env cs)) (hem:I6 prog w s₀ A cenv c8 av N m em k env)
  (eW:vs.length<=1000) (hN:outs.length+1000*m<=N) (n1:it≠c8) (n2:it≠cenv.locals) (n3:c8≠cenv.locals) (n4:∀y c,cenv.cells.lookup y=some c->c≠it/\c≠c8/\c≠cenv.locals)
  {i:Nat} {rest outs₁:List V} {aU:Gh} {bN:List Addr} {kT:Cs} {cc:Code} (H:(CI w s₀ γ ad cenv env it c8 av vs g.target m outs res (λl cs=>dH r t (g.ifs.map f) env k l cs) csF) aU bN kT outs₁ i rest s):
  wpAny (model prog w) A (pyNext (.ref it)>>=tS g em cenv (.ref it) (again cc)) (CP cc (CQ w s₀ γ ad [it,c8,cenv.locals] cenv env c8 (av (outs++res)) csF (res.length<=1000*m)) (CN (CI w s₀ γ ad cenv env it c8 av vs g.target m outs res (λl cs=>dH r t (g.ifs.map f) env k l cs) csF) vs.length) (vs.length-i)) fW s:=by
 obtain⟨hile,S1,C1,T1,F1,A1,a1,i1,I1,l1,h1,e1⟩:=H;refine to_Q λQQ kQ=>?_;refine bF ?_;by_cases hlt:i<vs.length
 ·have hx:vs[i]?=some vs[i]:=List.getElem?_eq_getElem hlt;rw[AP hx]at h1;refine bH h1 ?_;clear h1;intro env' h2 h1;refine bH h1 ?_;clear h1;intro tb h3 h1;refine bH h1 ?_;clear h1;intro q h4 h1;refine eV h1 ?_;clear h1;intro z h5 h1;obtain⟨rfl,rfl⟩:=Prod.mk.inj h1;have hlk:=I7 h2 mO;refine aD (OT (ad:=[]) S1 I1 hx) (λrr cZ q₂=>?_) λ_ _ z=>z;obtain⟨ux,rfl,q₂⟩:=q₂;refine bF (aD q₂ (λ_ lR q₃=>?_) λ_ _ z=>z);obtain⟨cL,S2,T2,I2,V2⟩:=q₃;have T2':=T2.calledX bN;have F2:=F1.stepX T2' (by simpa using Ne.symm n2) (λy c e=>by simpa using (n4 y c e).1)
  refine bF (aD (AO hh hE S2 F2 ht h2 V2) (λ_ s₄ q₄=>?_) λ_ _ z=>z);obtain⟨iY,S3,T3,F3⟩:=q₄;have T3':=T3.calledX bN;have C3:=(C1.calledX T2 λa h=>by rw[aN.mp h];exact i1).calledX T3 λa h=>by rw[aN.mp h];exact F2.nLoc
  have A3:=(A1.step T2' a1 (by simpa using Ne.symm n1)).step T3' a1 (by simpa using n3)
  have I3:=I2.step T3' i1 (by simpa using n2)
  refine bF (aD (Ms hifs S3 C3 F3 h3) (λok s₅ q₅=>?_) λ_ _ z=>z);obtain⟨rfl,γ₄,ad₄,S4,C4,T4⟩:=q₅;have F4:=F3.step T4;have A4:=A3.step T4 a1 (by simp)
  have I4:=I3.step T4 i1 (by simp)
  refine i8 (A3) λo3 r3 _=>?_;have a4:=T4.out r3 a1 (by simp)
  obtain⟨oi,ri⟩:=I3.raw;have i4:=T4.out ri i1 (by simp)
  have T14:Step [it,c8,cenv.locals] γ γ₄ ad ad₄:=((T1.trans (T2'.widen (by simp))).trans (T3'.widen (by simp))).trans (T4.widen (by simp))
  clear T1 T2 T2' T3 T3' T4 F1 F2 F3 A1 I1 I2 I3 C1 C3 S1 S2 S3 V2;obtain⟨tb1,cs₅⟩:=tb;induction tb1 using Bool.casesOn with
  |true=>
   obtain⟨lq,wq⟩:=hem s₅ γ₄ ad₄ env' _ outs₁ _ _ S4 C4 F4 hlk A4 a4 (len_N l1 hile eW hN) h4;refine bF (aD wq (λ_ s₆ q₆=>?_) λ_ _ z=>z);refine JC (q₆) λγ₅ ad₅ S5 C5 T5 F5 A5 a5=>?_;obtain⟨o4,r4⟩:=I4.raw;have nn:it∉[c8,cenv.locals]:=by simp[n1,n2]
   refine aD (Dt hlt ⟨hlt,S5,C5,T14.trans (T5.widen (by simp)),F5.weaken hlk,A5,a5,T5.out r4 i4 nn,I4.step T5 i4 nn,by rw[bU];exact QI l1 lq,h5,by rw[e1,dT]⟩) kQ λ_ _ z=>z
  |false=>
   have h4:=aC h4;clear h1;subst h4;refine aD (Dt hlt ⟨hlt,S4,C4,T14,F4.weaken hlk,A4,a4,i4,I4,QI l1 (d3 m),h5,e1⟩) kQ λ_ _ z=>z
 ·have hx:vs[i]?=none:=List.getElem?_eq_none_iff.mpr (lP.mp hlt);rw[List.drop_eq_nil_of_le (lP.mp hlt)]at h1;obtain⟨rfl,rfl⟩:=Prod.mk.inj (aC h1);obtain⟨oc,hoc⟩:=F1.locRaw;refine aD (Mr hh S1 I1 hx hoc (Ne.symm n2)) (λrr cZ q₂=>?_) λ_ _ z=>z;obtain⟨rfl,S2⟩:=q₂;obtain⟨o1,r1⟩:=I1.raw;have T2:Step [it] aU (iZ aU it (some .dead)) [] []:=tN [] r1 aE;have T2':=T2.calledX bN;have el:=congrArg List.length e1;rw[bU,bW]at el;clear r1 hoc h1;rw[bW]at e1;refine aD (OW ⟨rfl,aR (Nat.le_of_add_le_add_left (a:=outs.length) (el▸l1)) (nQ m (aR hile eW)),_,bN,S2,C1.calledX T2 (λa h=>by rw[aN.mp h];exact i1),T1.trans (T2'.widen (by simp)),F1.stepX T2' (by simpa using Ne.symm n2) (λy c e=>by simpa using (n4 y c e).1),e1▸A1.step T2' a1 (by simpa using Ne.symm n1),a1⟩) kQ λ_ _ z=>z
theorem AQ{e:Expr}{depth:Nat}{g:Comprehension}{em:Sem Unit}{t:List Nat}{N m:Nat}{k:Ev->Cs->Option (List V×Cs)}{f:Expr->X}{vs res:List V}{outs:List V}{csF:Cs}
  (hh:A.handled=none) (hq:∀itv,(Code.compLoop e depth itv (.ref c8) cenv).quiet=true) (hA:∀itv,A.under (.compLoop e depth itv (.ref c8) cenv)=A)
  (hden:∀itv,∃h,(model prog w).den (.compLoop e depth itv (.ref c8) cenv)=(compTurn e depth itv (.ref c8) cenv).onRaise h) (hT:BD e depth g em (.ref c8) cenv)
  (hE:EnvOk cenv dA) (ht:ErT dA g.target t) (mO:fresh t env=true) (hifs:∀c∈g.ifs,rR prog w s₀ A cenv c (λenv cs=>r.ts (f c) env cs)) (hem:I6 prog w s₀ A cenv c8 av N m em k env)
  (eW:vs.length<=1000) (hN:outs.length+1000*m<=N) (n1:it≠c8) (n2:it≠cenv.locals) (n3:c8≠cenv.locals) (n4:∀y c,cenv.cells.lookup y=some c->c≠it/\c≠c8/\c≠cenv.locals)
  (hS:St w s₀ γ s) (hC:CsOk w γ ad cs) (hF:FmOk γ ad cenv env) (hI:ItK γ it vs 0 g.target) (hAc:rH w γ c8 (av outs)) (hi:it∉ad) (ha:c8∉ad) (h:dH r t (g.ifs.map f) env k vs cs=some (res,csF)):
  codeAny (model prog w) A (.compLoop e depth (.ref it) (.ref c8) cenv) (CQ w s₀ γ ad [it,c8,cenv.locals] cenv env c8 (av (outs++res)) csF (res.length<=1000*m)) s:=by
 refine codeAny_loop (hq _) (CN (CI w s₀ γ ad cenv env it c8 av vs g.target m outs res (λl cs=>dH r t (g.ifs.map f) env k l cs) csF) vs.length) ?_ vs.length ⟨γ,ad,cs,outs,0,res,rfl,d3 _,hS,hC,.refl γ ad,hF,hAc,ha,hi,hI,by simp,h,rfl⟩
 rintro n s ⟨aU,bN,kT,outs₁,i,rest,rfl,H⟩;rw[hA];obtain⟨hd,hden⟩:=hden (.ref it);rw[hden];refine zG ?_;rw[hT];exact bF (wpAny_standAt (I8 hh hE ht mO hifs hem eW hN n1 n2 n3 n4 H))
end
theorem zJ:entryFor table "dict_itemiterator.__iter__"=some Builtin.«dict_keyiterator.__iter__»:=entryFor_alias (id':="dict_keyiterator.__iter__") (by kernel_rfl) rfl (by decide+kernel) (by kernel_rfl)
theorem lD{sc dA:Scope}{ts:List Str}:∀{l:List (Str×NameKind)},oV sc dA ts l=true->∀x k,(x,k)∈l->
  (k=.local->uA dA x=true/\(lC x Ow||ts.any (lC x))=true)/\k≠.cell/\(k=.free->LI sc x=true):=by
 intro l;induction l with
 |nil=>intro _ x k h;cases h
 |cons p r ih=>
  obtain⟨y,ky⟩:=p;intro h x k hm;have rest:oV sc dA ts r=true:=by
   clear hm;induction ky using PySem.NameKind.casesOn<;>first|exact h|(exact bX h;done)|exact(aL.mp h).2
  rcases a7.mp hm with e|hm
  ·cases e;induction ky using PySem.NameKind.casesOn with
   |«local»=>
    obtain⟨h1,_⟩:=aL.mp h;exact⟨λ_=>aL.mp h1,(by intro z;cases z),(by intro z;cases z)⟩
   |cell=>exact bX h
   |free=>exact⟨by(intro z;cases z),by(intro z;cases z),λ_=>(aL.mp h).1⟩
   |_=>exact⟨by(intro z;cases z),by(intro z;cases z),by(intro z;cases z)⟩
  ·exact ih rest x k hm
theorem zK{sc:Scope}{x:Str}(h:LI sc x=true):cJ x sc.names=some .cell\/cJ x sc.names=some .free:=by
 exact(cP.mp h).elim (λh=>.inl (lL h)) λh=>.inr (lL h)
theorem mY{α:Type}{l:List (Str×α)}{x:Str}{k:α}(h:l.lookup x=some k):(x,k)∈l:=mV (by rw[f8];exact h)
theorem pE(env:Env)(x:Str):∀l:List (Str×NameKind),(l.map λ(n,k)=>if(k==NameKind.free&&env.scope.kind==.function&&env.kindOf n==some .cell)then(n,NameKind.cell)else(n,k)).lookup x=
  (l.lookup x).map λk=>if(k==NameKind.free&&env.scope.kind==.function&&env.kindOf x==some .cell)then NameKind.cell else k
 |[]=>rfl
 |(n,k)::r=>by
  rw[bO];induction hx:x==n using Bool.casesOn with
  |true=>
   have:=eq_of_beq hx;clear hx;subst this;simp only[f6,beq_self_eq_true,cU];by_cases hc:(k==NameKind.free&&env.scope.kind==.function&&env.kindOf x==some .cell)=true
   ·rw[if_pos hc,if_pos hc];simp
   ·rw[if_neg hc,if_neg hc];simp
  |false=>
   simp only[f6,hx];rw[<-pE env x r];by_cases hc:(k==NameKind.free&&env.scope.kind==.function&&env.kindOf n==some .cell)=true
   ·rw[if_pos hc];simp only[f6,hx]
   ·rw[if_neg hc];simp only[f6,hx]
theorem BE{env:Env}{F:Str×NameKind->List (Str×Addr)->Sem (ForInStep (List (Str×Addr)))}(hF:∀x k r,F (x,k) r=if(k==NameKind.free)=true then(do let a<-cellOf env x;pure (.yield ((x,a)::r)))else pure (.yield r)):
  ∀(names:List (Str×NameKind)) (c8:List (Str×Addr)),(∀x,(x,NameKind.free)∈names->∃c,env.cells.lookup x=some c)->
   ∃cl,(forIn names c8 F:Sem (List (Str×Addr)))=pure cl/\(∀x c,cl.lookup x=some c->c8.lookup x=some c\/env.cells.lookup x=some c)/\(∀x,(x,NameKind.free)∈names\/(c8.lookup x).isSome=true->(cl.lookup x).isSome=true)
 |[],c8,_=>⟨c8,rfl,λ_ _ h=>.inl h,λ_ h=>h.elim (by simp) id⟩
 |(n,k)::r,c8,h=>by
  rw[List.forIn_cons,hF];have hr:∀x,(x,NameKind.free)∈r->∃c,env.cells.lookup x=some c:=λx m=>h x (aI _ m);by_cases hk:k=.free
  ·subst hk;obtain⟨c,hc⟩:=h n aE;refine lY (BE hF r ((n,c)::c8) hr) λcl e1 e2 e3=>?_;refine⟨cl,?_,λx c' q=>?_,λx q=>?_⟩
   ·rw[show cellOf env n=pure c by unfold cellOf;rw[hc]]
    simp only[beq_self_eq_true,if_true];exact e1
   ·rcases e2 x c' q with z|z
    ·rw[f6]at z;induction hx:x==n using Bool.casesOn with
     |true=>rw[hx]at z;clear q;refine e9 z ?_;rw[eq_of_beq hx];exact .inr hc
     |false=>rw[hx]at z;exact .inl z
    ·exact .inr z
   ·refine e3 x ?_;rw[f6];induction hx:x==n using Bool.casesOn with
    |true=>exact .inr rfl
    |false=>
     refine q.imp (λm=>?_) id;rcases a7.mp m with z|z
     ·cases z;rw[beq_self_eq_true]at hx;exact jA hx
     ·exact z
  ·have:¬((k==NameKind.free)=true):=by simpa using hk
   rw[if_neg this];refine lY (BE hF r c8 hr) λcl e1 e2 e3=>?_;refine⟨cl,e1,e2,λx q=>e3 x (q.imp (λm=>?_) id)⟩;rcases a7.mp m with z|z
   ·clear m q this h;cases z;exact absurd rfl hk
   ·exact z
section
variable{prog:Program}{w:World}{s₀ s s':Shared}{γ bP:Gh}{ad dU:List Addr}{cs cW:Cs}{A:Around}{d:Nat}{cf:cO}{v:V}{u:Value}{envM cenv:Env}{sc dA:Scope}{env env':Ev}{r:Rec}{c8 it:Addr}{av:List V->V}{ts:List Str}
theorem BF(hE:EnvOk envM sc)(h:jS sc dA ts=true):∃cl,closureFor dA envM=pure cl/\(∀x c,cl.lookup x=some c->envM.cells.lookup x=some c)/\(∀x,(x,NameKind.free)∈dA.names->(cl.lookup x).isSome=true):=by
 have hn:=lD (aL.mp h).2;obtain⟨cl,e1,e2,e3⟩:=BE (env:=envM) (F:=λx r=>match x with|(name,kind)=>if(kind==NameKind.free)=true then(do let a<-cellOf envM name;pure (.yield ((name,a)::r)))else pure (.yield r)) (λ_ _ _=>rfl) dA.names [] (λx m=>by
  refine hE.cells x ?_;rcases zK ((hn x _ m).2.2 rfl)with q|q
  ·rcases hE.names x _ q with z|⟨z,_⟩
   ·exact .inl z
   ·cases z
  ·rcases hE.names x _ q with z|⟨_,z⟩
   ·exact .inr z
   ·exact .inl z)
 refine⟨cl,?_,λx c q=>(e2 x c q).elim (λz=>by simp at z) id,λx m=>e3 x (.inl m)⟩
 unfold closureFor;exact(congrArg (·>>=λcs=>pure cs) e1).trans rfl
theorem i0{cl:List (Str×Addr)}(C:Addr)(hE:EnvOk envM sc)(h:jS sc dA ts=true)(h2:∀x,(x,NameKind.free)∈dA.names->(cl.lookup x).isSome=true):EnvOk (compEnvC dA cl C envM) dA:=by
 have hn:=lD (aL.mp h).2;have hk:dA.kind=.function:=by
  exact Di (aL.mp h).1
 have hko:∀x,(compEnvC dA cl C envM).kindOf x=(dA.names.lookup x).map λk=>if(k==NameKind.free&&envM.scope.kind==.function&&envM.kindOf x==some .cell)then NameKind.cell else k:=λx=>pE envM x dA.names;refine⟨hk,hE.globals,hE.builtins,λx k q=>?_,λx q=>?_⟩
 ·rw[hko,<-f8,q,cU];by_cases hc:(k==NameKind.free&&envM.scope.kind==.function&&envM.kindOf x==some .cell)=true
  ·rw[if_pos hc];simp only[a9,beq_iff_eq]at hc;exact .inr ⟨hc.1.1,rfl⟩
  ·rw[if_neg hc];exact .inl rfl
 ·rw[hko]at q;have:(x,NameKind.free)∈dA.names:=by
   induction hl:dA.names.lookup x using Option.casesOn with
   |none=>rw[hl]at q;rcases q with q|q<;>exact aY q
   |some k=>
    rw[hl,cU]at q;have hm:=mY hl;by_cases hc:(k==NameKind.free&&envM.scope.kind==.function&&envM.kindOf x==some .cell)=true
    ·simp only[a9,beq_iff_eq]at hc;rw[<-hc.1.1];exact hm
    ·clear hl;rw[if_neg hc]at q;rcases q with q|q
     ·exact absurd (aC q) (hn x k hm).2.1
     ·rw[<-aC q];exact hm
  exact fE.mp (h2 x this)
theorem OX:mQ Ow=none:=by decide+kernel
theorem OY{cl:List (Str×Addr)}{C:Addr}{o:Obj}(hE:EnvOk envM sc)(h:jS sc dA ts=true)(h1:∀x c,cl.lookup x=some c->envM.cells.lookup x=some c)(hts:∀x∈ts,∀i,mQ x=some i->dZ i env=none)
  (hF:FmOk γ ad envM env) (hC:γ C=some (.raw o)) (hN:Dk o λ_=>none) (nC:C∉ad) (n2:∀y c,envM.cells.lookup y=some c->c≠C):FmOk γ ad (compEnvC dA cl C envM) env:=by
 have hn:=lD (aL.mp h).2;have hko:∀x,(compEnvC dA cl C envM).kindOf x=(dA.names.lookup x).map λk=>if(k==NameKind.free&&envM.scope.kind==.function&&envM.kindOf x==some .cell)then NameKind.cell else k:=λx=>pE envM x dA.names;refine⟨⟨o,_,hC,hN,λx i v' a b c=>?_⟩,λx c q=>?_,nC,λx c q=>⟨(hF.nCel x c (h1 x c q)).1,n2 x c (h1 x c q)⟩,λx y c q q'=>hF.inj x y c (h1 x c q) (h1 y c q')⟩
 ·exfalso;rw[hko]at c;induction hl:dA.names.lookup x using Option.casesOn with
  |none=>rw[hl]at c;exact aY c
  |some k=>
   rw[hl,cU]at c;have hm:=mY hl;by_cases hc:(k==NameKind.free&&envM.scope.kind==.function&&envM.kindOf x==some .cell)=true
   ·clear hm hl;rw[if_pos hc]at c;cases c
   ·clear hl;rw[if_neg hc]at c;have:=((hn x k hm).1 (aC c)).2;rcases cP.mp this with z|z
    ·rw[fY z,OX]at a;exact aY a
    ·refine i8 (fJ.mp z) λy hy e=>?_;rw[<-fY e]at hy;rw[hts x hy i a]at b;exact aY b
 ·refine fM (hF.cel x c (h1 x c q)) λoc cv a1 a2 a3=>?_;refine⟨oc,cv,a1,a2,λi v' e1 e2 e3=>a3 i v' e1 e2 ?_⟩;have:(x,NameKind.free)∈dA.names:=by
   rw[hko]at e3;induction hl:dA.names.lookup x using Option.casesOn with
   |none=>rw[hl]at e3;rcases e3 with q|q<;>exact aY q
   |some k=>
    rw[hl,cU]at e3;have hm:=mY hl;by_cases hc:(k==NameKind.free&&envM.scope.kind==.function&&envM.kindOf x==some .cell)=true
    ·simp only[a9,beq_iff_eq]at hc;rw[<-hc.1.1];exact hm
    ·clear hl;rw[if_neg hc]at e3;rcases e3 with q|q
     ·exact absurd (aC q) (hn x k hm).2.1
     ·rw[<-aC q];exact hm
  rcases zK ((hn x _ this).2.2 rfl)with q|q
  ·rcases hE.names x _ q with z|⟨z,_⟩
   ·exact .inl z
   ·cases z
  ·rcases hE.names x _ q with z|⟨_,z⟩
   ·exact .inr z
   ·exact .inl z
theorem pZ{target:Expr}{t:List Nat}(hT:ErT dA target t)(hf:fresh t env=true):∀x∈jR target,∀i,mQ x=some i->dZ i env=none:=by
 obtain⟨h1,h2⟩:=aL.mp hf;have hall:∀i∈t,dZ i env=none:=λi hi=>by simpa using aW.mp h2 i hi
 cases hT with
 |nil=>exact bX h1
 |one a b=>
  intro x hx i e;have hx:=aN.mp hx;clear a;subst hx;rw[b]at e;refine e9 e ?_;exact hall _ (by simp)
 |two a b c e1 e2=>
  intro x hx i e;clear a;rcases a7.mp hx with rfl|hx
  ·clear hx c;rw[e1]at e;refine e9 e ?_;exact hall _ aE
  ·clear c b;obtain rfl:=aN.mp hx;rw[e2]at e;refine e9 e ?_;exact hall _ (aI _ aE)
theorem FM{vs:List V}{i:Nat}{target:Expr}(hS:St w s₀ γ s)(h:ItK γ it vs i target){Q:Value->Shared->Prop}{E:Value->Shared->Prop}(q:Q (.ref it) s):wpAny (model prog w) A (pyIter (.ref it)) Q E s:=by
 induction h using ItK.casesOn with
 |list a b c e=>exact wpAny_pyIter_listiter ⟨_,hS.raw a,b,c⟩ q
 |items a b c e f=>
  have hT:s.TypeIs (.ref it) "dict_itemiterator":=⟨_,hS.raw a,rfl⟩;refine wpAny_pyIter_slot hT PySem.F.slot_dict_itemiterator_iter (wpAny_call_entry PySem.F.slot_dict_itemiterator_iter hT zJ ?_ (PySem.F.args_dict_itemiterator_iter_1 _));show wpAny _ _ (ret (.ref it)) _ _ s;exact wpAny_pure ⟨_,rfl,"dict_itemiterator",_,hT,PySem.F.slot_dict_itemiterator_next.lookup,q⟩
 |range a b=>exact wpAny_pyIter_rangeiter (hS.raw a) q
end
theorem Step.more{X:List Addr}{γ bP:Gh}{ad dU:List Addr}{a:Addr}(x:Step X γ bP ad dU)(h:dX γ a):Step X γ bP ad (dU++[a]):=
 ⟨x.ext,x.raw,let⟨m,e,hm⟩:=x.pre;⟨m++[a],by rw[e,dT],λb hb=>(b7.mp hb).elim (hm b) λz=>by rw[aN.mp z];exact .inl h⟩,x.dom⟩
theorem CsOk.adopt{w:World}{γ:Gh}{ad:List Addr}{cs:Cs}{c8:Addr}{c:V}(h:CsOk w γ ad cs)(hA:rH w γ c8 c)(hg:∀o,∃g,NR o c=some g)(ha:c8∉ad):CsOk w γ (ad++[c8]) (cs++[⟨false,c⟩]):=by
 refine lY (hA) λo a b e=>?_;obtain⟨g,hg⟩:=hg o;refine⟨h.all.append (.cons ⟨o,g,hg,a,b,e⟩ .nil),?_⟩;rw[gI];refine⟨h.nd,by simp,λx hx y hy z=>?_⟩
 rw[aN]at hy;exact ha (by rw[<-hy,<-z];exact hx)
section
variable{prog:Program}{w:World}{s₀ s s':Shared}{γ bP:Gh}{ad dU:List Addr}{cs cW:Cs}{A:Around}{d:Nat}{cf:cO}{v:V}{u:Value}{envM cenv:Env}{sc dA:Scope}{env env':Ev}{r:Rec}{c8 it:Addr}{av:List V->V}{ts:List Str}
theorem wK{e:Expr}{g:Comprehension}{newAcc:Sem Value}{cl:List (Str×Addr)}{t:List Nat}{N m:Nat}{k:Ev->Cs->Option (List V×Cs)}{f:Expr->X}{em:Addr->Addr->Sem Unit}{l res:List V}{csF:Cs}{RR:Value->Addr->Result->Shared->Prop}
  (hh:A.handled=none) (hE:EnvOk envM sc) (hck:jS sc dA ts=true) (hts:∀x∈ts,∀i,mQ x=some i->dZ i env=none) (ht:ErT dA g.target t) (mO:fresh t env=true)
  (hc1:∀x c,cl.lookup x=some c->envM.cells.lookup x=some c) (hc2:∀x,(x,NameKind.free)∈dA.names->(cl.lookup x).isSome=true)
  (hnew:∀s:Shared,wpAny (model prog w) A newAcc (λu s'=>∃o,u=.ref s.heap.objs.size/\s'={s with heap:=s.heap.push o}/\o.isFreed=false/\(∀γ,uJ w γ o (av []))/\o.dict=none) fW s)
  (hstart:∀(it c8 C:Addr) (R:Result->Shared->Prop) (s:Shared),(∀{Q:Value->Shared->Prop} {E:Value->Shared->Prop},Q (.ref it) s->wpAny (model prog w) A (pyIter (.ref it)) Q E s)->codeAny (model prog w) A (.compLoop e 0 (.ref it) (.ref c8) (compEnvC dA cl C envM)) R s->codeAny (model prog w) A (.compStart e 0 (.ref it) (.ref c8) (compEnvC dA cl C envM)) R s)
  (hq:∀(c8 C:Addr) itv,(Code.compLoop e 0 itv (.ref c8) (compEnvC dA cl C envM)).quiet=true) (hA:∀(c8 C:Addr) itv,A.under (.compLoop e 0 itv (.ref c8) (compEnvC dA cl C envM))=A)
  (hden:∀(c8 C:Addr) itv,∃h,(model prog w).den (.compLoop e 0 itv (.ref c8) (compEnvC dA cl C envM))=(compTurn e 0 itv (.ref c8) (compEnvC dA cl C envM)).onRaise h) (hT:∀c8 C:Addr,BD e 0 g (em c8 C) (.ref c8) (compEnvC dA cl C envM))
  (hifs:∀C,∀c∈g.ifs,rR prog w s₀ A (compEnvC dA cl C envM) c (λenv cs=>r.ts (f c) env cs)) (hem:∀c8 C:Addr,c8≠C->(∀y c,cl.lookup y=some c->c≠c8/\c≠C)->I6 prog w s₀ A (compEnvC dA cl C envM) c8 av N m (em c8 C) k env) (hN:1000*m<=N)
  (hS:St w s₀ γ s) (hC:CsOk w γ ad cs) (hF:FmOk γ ad envM env) (hv:VR γ ad v u) (hsrc:j4 t v cs=some (l,cW)) (hturn:dH r t (g.ifs.map f) env k l cW=some (res,csF))
  (hpost:∀c8 C γF adF s',St w s₀ γF s'->CsOk w γF adF csF->Step [] γ γF ad adF->(∃o m,γF C=some (.raw o)/\Dk o m)->rH w γF c8 (av res)->c8∉adF->C∉adF->c8≠C->dX γ c8->dX γ C->FmOk γF adF envM env->res.length<=1000*m->RR (.ref c8) C (.ok .next) s'):
  wpAny (model prog w) A (pyIter u) (λit cZ=>wpAny (model prog w) A newAcc (λc8 lR=>wpAny (model prog w) A (newFunctionEnv dA envM.globals cl [] envM.qual none .none (some envM)) (λcenv s₄=>
   codeAny (model prog w) A (.compStart e 0 it c8 {cenv with scope:=relabel dA envM}) (RR c8 cenv.locals) s₄) fW lR) fW cZ) fW s:=by
 refine aD (E8 hS hC ht hv hsrc) (λitv cZ q=>?_) λ_ _ z=>z;refine pA (q) λit aU zr2 S1 C1 T1 f1 i1 I1 hl=>?_;subst zr2;refine aD (hnew cZ) (λaccv lR q=>?_) λ_ _ z=>z;refine Ea (q) λo zr1 zr2 hfr' hob hdn=>?_;subst zr1;subst zr2;have f2:=S1.free;generalize hacc:cZ.heap.objs.size=c8 at f2⊢;have S2:=S1.alloc (s':={cZ with heap:=cZ.heap.push o}) o hfr'
 rw[hacc]at S2;have T2:Step [] aU (iZ aU c8 (some (.raw o))) ad ad:=d6 _ ad f2;have hnc:∀x∈dA.names,x.2≠.cell:=λx hx=>(lD (aL.mp hck).2 x.1 x.2 hx).2.1;have hk:dA.kind=.function:=(i0 (cl:=cl) 0 hE hck hc2).kind;refine wpAny_newFunctionEnv hnc (by intro y hy;simp at hy) (λh₁ hns hsb=>?_) hk
 dsimp only at hns hsb⊢;have f3:=S2.free;generalize hCC:(cZ.heap.push o).objs.size=C at hns hsb f3⊢;have hCC':({cZ with heap:=cZ.heap.push o}:Shared).heap.objs.size=C:=hCC
 refine i8 (Dk.of hns) λoC hoC hNC=>?_;have S3:=S2.alloc (s':={cZ with heap:=(cZ.heap.push o).push {cls:=.type "dict",data:=.dict #[]}}) {cls:=.type "dict",data:=.dict #[]} rfl
 rw[hCC']at S3;have S4:=S3.set (s':={cZ with heap:=h₁,toks:=cZ.toks+([]:List (Str×Value)).length}) (bK ..) hsb hoC
 rw[BC]at S4;have T3:Step [] (iZ aU c8 (some (.raw o))) (iZ (iZ aU c8 (some (.raw o))) C (some (.raw oC))) ad ad:=d6 _ ad f3;have T13:=(T1.trans T2).trans T3;have fA:dX γ c8:=(T1.dom c8 f2).elim id (by simp)
 have fC:dX γ C:=((T1.trans T2).dom C f3).elim id (by simp)
 have nAC:c8≠C:=λz=>by clear fC T13 T3 S4 S3 hoC hCC' hsb hns hCC;subst z;exact gL (bK ..) f3
 obtain⟨oi,ri⟩:=I1.raw;have nIA:it≠c8:=λz=>by clear nAC fA T13 T3 S4 S3 f3 T2 S2 hacc;subst z;exact gL ri f2
 have nIC:it≠C:=λz=>by clear nAC fC T13 T3 S4 S3 hoC hCC' hsb hns hCC;subst z;exact gL ((cN nIA).trans ri) f3
 have F3:=hF.step T13;have cellne:∀a,dX γ a->∀y c,envM.cells.lookup y=some c->c≠a:=λa ha y c q=>by
  refine kW (hF.cel y c q) λoc _ e _=>?_;exact ha.ne e (by intro z;cases z)
 have nCad:C∉ad:=hC.notIn fC;have nAad:c8∉ad:=hC.notIn fA;have Fc:=OY hE hck hc1 hts F3 (C:=C) (bK ..) hNC nCad (cellne C fC);have I3:=(I1.step T2 i1 (by simp)).step T3 i1 (by simp)
 have A3:rH w (iZ (iZ aU c8 (some (.raw o))) C (some (.raw oC))) c8 (av []):=⟨o,by rw[cN nAC,bK],hob _,hdn⟩
 have C3:=(C1.alloc f2 (g:=.raw o)).alloc f3 (g:=.raw oC);refine hstart it c8 C _ _ (λq=>FM S4 I3 q) ?_;refine codeAny_mono (AQ (N:=N) (outs:=[]) (cenv:=compEnvC dA cl C envM) hh (hq c8 C) (hA c8 C) (hden c8 C) (hT c8 C) (i0 C hE hck hc2) ht mO (hifs C) (hem c8 C nAC λy c q=>⟨cellne c8 fA y c (hc1 y c q),cellne C fC y c (hc1 y c q)⟩) hl (by simpa using hN) nIA nIC nAC
  (λy c q=>⟨cellne it f1 y c (hc1 y c q),cellne c8 fA y c (hc1 y c q),cellne C fC y c (hc1 y c q)⟩) S4 C3 Fc I3 A3 i1 nAad hturn) λrr s' q=>?_
 obtain⟨rfl,eW,γF,adF,S5,C5,T5,F5,A5,a5⟩:=q;have hX:∀a∈[it,c8,(compEnvC dA cl C envM).locals],dX γ a:=λa ha=>by
  simp only[a7,fK,or_false]at ha;clear F5 nCad hoC hCC' hsb hns hCC a5 A5 C3 A3 Fc nAad F3 nAC T13 T3 S4 S3 f3 T2 S2 f2 hacc T5 I3 nIC nIA ri I1 i1;rcases ha with rfl|rfl|rfl
  ·exact f1
  ·exact fA
  ·exact fC
 have T:=((T13.widen (by simp)).trans T5).narrow hX
 refine fM (F5.loc) λoF mF eF nF _=>?_;exact hpost c8 C γF adF s' S5 C5 T ⟨oF,mF,eF,nF⟩ (by simpa using A5) a5 F5.nLoc nAC fA fC (hF.step T) eW
theorem I9{res:List V}{csF:Cs}{adF:List Addr}{γF:Gh}{c8 C:Addr}{Q:Value->Shared->Prop}(hg:∀o,∃g,NR o (av res)=some g)(hS:St w s₀ γF s')(hC:CsOk w γF adF csF)(T:Step [] γ γF ad adF)(hr:∃o m,γF C=some (.raw o)/\Dk o m)(hA:rH w γF c8 (av res))(a1:c8∉adF)(c1:C∉adF)(n:c8≠C)
  (fA:dX γ c8) (fC:dX γ C) (q:∀s'',PE w s₀ γ ad (gT (av res) csF).1 (gT (av res) csF).2 (.ref c8) s''->Q (.ref c8) s''):compPost (model prog w) A fW none Q (.ref c8) C (.ok .next) s':=by
 refine kW (hr) λoC m eC nC=>?_;obtain⟨oA,eA,_⟩:=id hA;refine⟨m,nC.ns (hS.raw eC),λh' hs=>q _ ?_⟩;have T2:Step [C] γF (iZ γF C (some .dead)) [] []:=tN [] eC (by simp)
 have S2:=hS.kill (s':={s' with heap:=h'}) eC eA n λb o hb e=>(hs.2 b hb).trans e
 have C2:=hC.calledX T2 λa ha=>by rw[aN.mp ha];exact c1
 have A2:=hA.step (T2.calledX adF) a1 (by simpa using n)
 have T3:=((T.widen (by simp)).trans (T2.calledX adF)).narrow (λa ha=>by rw[aN.mp ha];exact fC)
 refine⟨_,adF++[c8],S2,C2.adopt A2 hg a1,T3.more fA,?_⟩;rw[OE];have hl:adF.length=csF.length:=hC.all.length;exact .own (by rw[<-hl];simp)
end
theorem Du(k:Str)(v:V):∀m:List (Str×V),(lK k v m).length<=m.length+1
 |[]=>by simp[lK]
 |(x,y)::m=>by
  rw[lK];induction lC k x using Bool.casesOn with
  |true=>simp
  |false=>have:=Du k v m;simp only[bG,bL];lia
theorem E9(d:List (Str×V))(x:V):(wB d x).length<=d.length+1:=by
 have z:d.length<=d.length+1:=tG _;exact vTQ (Q:=λz:List (Str×V)=>z.length<=d.length+1) z λl _=>Ok (Q:=λz:List (Str×V)=>z.length<=d.length+1) z λk v _=>vSQ (Q:=λz:List (Str×V)=>z.length<=d.length+1) z λs _=>Du s v d
theorem IA(l:List V):(t9 l).length<=l.length:=by
 have:∀(l:List V) (d:List (Str×V)),(l.foldl wB d).length<=d.length+l.length:=by
  intro l;induction l with
  |nil=>intro d;simp
  |cons x r ih=>
   intro d;have:=ih (wB d x);have:=E9 d x;rw[List.foldl_cons,bL];lia
 have:=this l [];rw[List.length_nil]at this;unfold t9;lia
theorem EA(l:List V)(s:Str)(v:V):t9 (l++[.tup [.str s,v]])=lK s v (t9 l):=by unfold t9;rw[List.foldl_append];rfl
theorem EB{k v x:V}(h:Ep k v=some x):∃s t,k=.str s/\v=.node t/\x=.tup [.str s,.node t]:=by
 exact Q6 h nS λs e h=>vNE h nS λt e' h=>⟨s,t,e,e',(aC h).symm⟩
def dav(l:List V):V:=.dct (t9 l)
section
variable{prog:Program}{w:World}{s₀ s s':Shared}{γ bP:Gh}{ad dU:List Addr}{cs cW:Cs}{A:Around}{d:Nat}{cf:cO}{v:V}{u:Value}{envM cenv:Env}{sc dA:Scope}{env env':Ev}{r:Rec}{c8 it:Addr}{av:List V->V}{ts:List Str}
theorem FO{elt:Expr}{x:X}(he:e8 prog w s₀ A cenv elt (λenv cs=>r.ev x env cs))(n1:c8≠cenv.locals)(n2:∀y c,cenv.cells.lookup y=some c->c≠c8):
  I6 prog w s₀ A cenv c8 V.lst 2000000 1 (do let _<-call (.builtin "list.append") [.ref c8,<-eval elt cenv]) (fR r x) env:=by
 intro s γ ad env' cs outs res cW hS hC hF _ hA ha eW h;refine bH h ?_;clear h;intro y h1 h;refine eV h ?_;clear h;intro z h2 h;refine l6 h ?_;refine⟨by simp,bF (aD (he s γ ad env' cs _ _ hS hC hF h1) (λux bZ q=>bF ?_) λ_ _ z=>z)⟩
 obtain⟨aU,bN,S1,C1,T1,V1⟩:=q;refine nZ (rE S1 C1 V1 h2) λcL S2 C2 T2 V2=>?_;have T12:=T1.trans T2;have A2:=hA.step T12 ha (by simp)
 obtain⟨oa,ra,_⟩:=id hA;have a2:=T12.out ra ha (by simp)
 obtain⟨o,e1,⟨e2,vs,n,e3,e4⟩,e5⟩:=A2;have hl:=e4.length;have hvs:vs.size<=2000000:=by
  have:vs.size=vs.toList.length:=by simp
  lia
 refine list_append_plainL ⟨o,n,S2.raw e1,e2,e5,e3⟩ (λh' hP hs=>wpAny_pure ?_) (aR hvs (by decide))
 refine uE (hP) λo' n' p1 p2 p3 p4=>?_;have T3:Step [c8] cL (iZ cL c8 (some (.raw o'))) [] []:=gW _ [] e1 (.inr (by simp))
 refine⟨_,bN,S2.set (s':={bZ with heap:=h'}) e1 hs p1,C2.calledX T3 (λa h=>by rw[aN.mp h];exact a2),(T12.widen (by simp)).trans ((T3.calledX bN).widen (by simp)),(hF.step T12).stepX (T3.calledX bN) (by simpa using Ne.symm n1) (λy c q=>by simpa using n2 y c q),
  ⟨o',bK ..,⟨p2,vs.push ux,n',p4,by rw[Array.toList_push];exact(e4.mono λ_ _ z=>z.mono T3.ext λi a e=>by simp at e).append (.cons (V2.mono T3.ext λi a e=>by simp at e) .nil)⟩,p3⟩,a2⟩
theorem OZ{ke ve:Expr}{x y:X}(hk:e8 prog w s₀ A cenv ke (λenv cs=>r.ev x env cs))(hv:e8 prog w s₀ A cenv ve (λenv cs=>r.ev y env cs))(n1:c8≠cenv.locals)(n2:∀y c,cenv.cells.lookup y=some c->c≠c8):
  I6 prog w s₀ A cenv c8 dav 2000000 1 (do
    let kv<-eval ke cenv
    let vv<-holding [kv] (eval ve cenv)
    standAt {ke.pos with endLine:=ve.pos.endLine,endCol:=ve.pos.endCol}
    holding [kv,vv] (dictSet c8 kv vv)) (t8 r x y) env:=by
 intro s γ ad env' cs outs res cW hS hC hF _ hA ha eW h
 refine bH h ?_;clear h;intro p h1 h
 refine bH h ?_;clear h;intro q h2 h
 refine eV h ?_;clear h;intro x h3 h
 refine l6 h ?_
 refine fM (EB h3) λks t e1 e2 zr4=>?_;subst zr4
 obtain⟨p1,p2⟩:=p
 obtain⟨q1,q2⟩:=q
 dsimp only at e1 e2 h1 h2
 subst e1 e2
 clear h3
 refine⟨by simp,bF (aD (hk s γ ad env' cs _ _ hS hC hF h1) (λux bZ q=>bF ?_) λ_ _ z=>z)⟩
 obtain⟨aU,bN,S1,C1,T1,V1⟩:=q
 refine wpAny_holding (aD (hv bZ aU bN env' _ _ _ S1 C1 (hF.step T1) h2) (λuy cZ q=>bF (wpAny_standAt (wpAny_holding ?_))) λ_ _ z=>z)
 obtain⟨cL,eS,S2,C2,T2,V2⟩:=q
 refine V1.strI λtk=>?_
 have T12:=T1.trans T2
 have A2:=hA.step T12 ha (by simp)
 refine i8 (id hA) λoa ra _=>?_
 have a2:=T12.out ra ha (by simp)
 refine lY (A2) λo e1 e2 e5=>?_
 obtain⟨kvs,k1,k2⟩:=rF (prog:=prog) (S2.raw e1) e2
 have V2':VR cL [] (.node t) uy:=V2.down λi e=>by cases e
 have hl:kvs.length<=2000000:=by have:=k2.length;have:=IA outs;lia
 refine tJ (id k1) λ_ _ _ _ _ _ _ _ hnd=>?_
 refine wpAny_dictSet_pairs (hsz:=aR hl (by decide)) (strKind_is prog w ks tk) k1 λh' hm hs=>?_
 refine lY (xB hm (Mi k2 hnd ks V2')) λo' p1 p2 p3=>?_
 have T3:Step [c8] cL (iZ cL c8 (some (.raw o'))) [] []:=gW _ [] e1 (.inr (by simp))
 refine⟨_,eS,S2.set (s':={cZ with heap:=h',toks:=cZ.toks+1}) e1 hs p1,C2.calledX T3 (λa h=>by rw[aN.mp h];exact a2),(T12.widen (by simp)).trans ((T3.calledX eS).widen (by simp)),(hF.step T12).stepX (T3.calledX eS) (by simpa using Ne.symm n1) (λy c q=>by simpa using n2 y c q),
  ⟨o',bK ..,?_,p3⟩,a2⟩
 unfold dav
 rw[EA]
 exact p2.mono T3.ext
theorem vJ{e:Expr}{depth:Nat}{itv accv:Value}{R:Result->Shared->Prop}{g:Comprehension}(hden:∃h,(model prog w).den (.compStart e depth itv accv cenv)=(compStart e depth itv accv cenv).onRaise h)(hA:A.under (.compStart e depth itv accv cenv)=A)
  (hq:(Code.compLoop e depth itv accv cenv).quiet=true) (hg:(clausesOf e)[depth]?=some g) (h0:g.is_async=0) (hself:∀{Q:Value->Shared->Prop} {E:Value->Shared->Prop},Q itv s->wpAny (model prog w) A (pyIter itv) Q E s)
  (h:codeAny (model prog w) A (.compLoop e depth itv accv cenv) R s):codeAny (model prog w) A (.compStart e depth itv accv cenv) R s:=by
 refine codeAny_of_tree ?_;obtain⟨k,hd⟩:=hden;rw[hA,hd];refine zG ?_;unfold compStart;simp only[hg,Option.elim_some,h0,bne_self_eq_false,Bool.false_eq_true,if_false];refine bF (wpAny_askSetting ?_);split
 ·exact wpAny_pure ⟨hq,h⟩
 ·exact bF (wpAny_rule (bF (wpAny_standAt (bF (hself (wpAny_pure ⟨hq,h⟩))))))
end
theorem sZ{e:Expr}(h:gD e=true)(env:Env)(x:Value):foldedSetIterable e env x=pure x:=by
 induction e using PySem.Expr.casesOn<;>first|rfl|exact bX h
section
variable{prog:Program}{w:World}{s₀ s s':Shared}{γ bP:Gh}{ad dU:List Addr}{cs cW:Cs}{A:Around}{d:Nat}{cf:cO}{v:V}{u:Value}{envM cenv:Env}{sc dA:Scope}{env env':Ev}{r:Rec}{c8 it:Addr}{av:List V->V}{ts:List Str}
def kO(prog:Program)(w:World)(s₀:Shared)(A:Around)(r:Rec):Prop:=∀(n:Nat) (sc:Scope) (e:Expr) (envM:Env),EnvOk envM sc->e8 prog w s₀ A envM e (λenv cs=>r.ev (er n sc e) env cs)
def qA(prog:Program)(w:World)(s₀:Shared)(A:Around)(r:Rec):Prop:=∀(n:Nat) (sc:Scope) (e:Expr) (envM:Env),EnvOk envM sc->rR prog w s₀ A envM e (λenv cs=>r.ts (er n sc e) env cs)
theorem Step.shrink{X Y:List Addr}(x:Step X γ bP ad dU)(h:∀a∈X,dX γ a\/a∈Y):Step Y γ bP ad dU:=
 ⟨x.ext,λa o e h1 h2=>x.raw a o e h1 λz=>(h a z).elim (gL e) h2,let⟨m,e,hm⟩:=x.pre;⟨m,e,λa ha=>(hm a ha).elim .inl (h a)⟩,λa e=>(x.dom a e).elim .inl (h a)⟩
theorem IB{t:List Nat}{ifs:List X}{k:Ev->Cs->Option (List V×Cs)}{m:Nat}(hk:∀env cs q,k env cs=some q->q.1.length<=m):∀{vs:List V} {cs:Cs} {z:List V×Cs},dH r t ifs env k vs cs=some z->z.1.length<=vs.length*m:=by
 intro vs;induction vs with
 |nil=>intro cs z h;refine kU h ?_;simp
 |cons v r ih=>
  intro cs z h;refine bH h λenv' _ h=>?_;refine bH h λp _ h=>?_;refine bH h λq h2 h=>?_;refine eV h λy h3 h=>?_;refine l6 h ?_;have l1:=ih h3;have l2:q.1.length<=m:=by
   induction hp:p.1 using Bool.casesOn with
   |true=>clear l1 h h3;rw[hp]at h2;exact hk _ _ _ h2
   |false=>clear l1;rw[hp]at h2;clear h h3;refine kU h2 ?_;simp
  rw[bU,bL,Nat.add_mul];lia
theorem Mt{x:X}{env:Ev}{cs:Cs}{q:List V×Cs}(h:fR r x env cs=some q):q.1.length<=1:=by
 refine bH h λy _ h=>?_;refine eV h λz _ h=>?_;refine l6 h ?_;simp
theorem Pa{t:List Nat}{v:V}{cs:Cs}{z:List V×Cs}(h:j4 t v cs=some z):z.1.length<=1000:=by
 refine bH h λp _ h=>vLC h (λh=>vtE h nS λm _ h=>dJ h λhz h=>?_) λl _ h=>dJ h λhz h=>?_
 ·rw[<-aC h,aT];exact aX (aL.mp hz).1
 ·rw[<-aC h];exact aX hz
theorem Mu{elt t2 it2:Expr}{gg:Comprehension}{pos:Pos}{t:List Nat}{n:Nat}{N:Nat}(hh:A.handled=none)(IE:kO prog w s₀ A r)(hE:EnvOk cenv dA)(ht:ErT dA t2 t)(hns:gD it2=true)(n1:c8≠cenv.locals)(n2:∀y c,cenv.cells.lookup y=some c->c≠c8)
  (n3:∀y c,cenv.cells.lookup y=some c->c≠cenv.locals) (hN:N+1000<=2000000):
  I6 prog w s₀ A cenv c8 V.lst N 1000 (do
    let x<-eval it2 cenv
    standAt it2.pos
    let x<-foldedSetIterable it2 cenv x
    let _<-runOwn (.compStart (.ListComp elt [gg,⟨t2,it2,[],0⟩] dA pos) 1 (<-holding [x] (pyIter x)) (.ref c8) cenv) cenv) (uH r (er n dA elt) t (er n dA it2)) env:=by
 intro s γ ad env' cs outs res cW hS hC hF _ hA ha eW h
 unfold uH at h
 refine vA h λmO h=>?_
 refine bH h λp h1 h=>?_
 refine bH h λl h2 h3=>?_
 have hl:=IB (m:=1) (λ_ _ _ z=>Mt z) h3
 have hs:=Pa h2
 refine⟨by simp only at hl;lia,bF (aD (IE n dA it2 cenv hE s γ ad env' cs _ _ hS hC hF h1) (λux bZ q=>bF (wpAny_standAt (bF (wpAny_of_eq (sZ hns _ _) (bF (wpAny_holding ?_)))))) λ_ _ z=>z)⟩
 obtain⟨aU,bN,S1,C1,T1,V1⟩:=q
 have F1:=hF.step T1
 have A1:=hA.step T1 ha (by simp)
 refine i8 (id hA) λoa ra _=>?_
 have a1:=T1.out ra ha (by simp)
 refine aD (E8 S1 C1 ht V1 h2) (λitv cZ q=>?_) λ_ _ z=>z
 refine pA (q) λit cL zr2 S2 C2 T2 f2 i2 I2 l2=>?_;subst zr2
 have F2:=F1.step T2
 have A2:=A1.step T2 a1 (by simp)
 refine i8 (id A1) λoa1 ra1 _=>?_
 obtain⟨ol,rl⟩:=F1.locRaw
 have nIA:it≠c8:=(f2.ne ra1 (by intro z;cases z)).symm
 have nIL:it≠cenv.locals:=(f2.ne rl (by intro z;cases z)).symm
 have nC:∀y c,cenv.cells.lookup y=some c->c≠it/\c≠c8/\c≠cenv.locals:=λy c q=>by
  refine kW (F1.cel y c q) λoc _ e _=>?_
  exact⟨f2.ne e (by intro z;cases z),n2 y c q,n3 y c q⟩
 refine bF (wpAny_runOwn (h:=none) (vJ (g:=⟨t2,it2,[],0⟩) ⟨_,rfl⟩ rfl rfl rfl rfl (λq=>FM S2 I2 q) ?_))
 have hT:BD (.ListComp elt [gg,⟨t2,it2,[],0⟩] dA pos) 1 ⟨t2,it2,[],0⟩ (do let _<-call (.builtin "list.append") [.ref c8,<-eval elt cenv]) (.ref c8) cenv:=λitv=>rfl
 refine codeAny_mono (AQ (f:=er n dA) (m:=1) (N:=2000000) (vs:=l.1) hh (λ_=>rfl) (λ_=>rfl) (λ_=>⟨_,rfl⟩) hT hE ht mO (by intro c hc;cases hc) (FO (IE n dA elt cenv hE) n1 n2) l2 (by lia) nIA nIL n1 nC S2 C2 F2 I2 A2 i2 a1 h3) λrr s' q=>?_
 obtain⟨rfl,_,γF,adF,S5,C5,T5,F5,A5,a5⟩:=q
 exact wpAny_pure ⟨γF,adF,S5,C5,(((T1.trans T2).widen (by simp)).trans T5).shrink (λa hm=>by
  simp only[a7,fK,or_false]at hm
  clear a5 A5 hT ra1 A2 a1 ra A1 ha hA n2 n1 T5 nC nIL nIA I2 i2;rcases hm with rfl|rfl|rfl
  ·exact .inl ((T1.dom _ f2).elim id (by simp))
  ·exact .inr (by simp)
  ·exact .inr (by simp)),F5,A5,a5⟩
theorem Dv(s:Shared):wpAny (model prog w) A (newList []) (λu s'=>∃o,u=.ref s.heap.objs.size/\s'={s with heap:=s.heap.push o}/\o.isFreed=false/\(∀γ,uJ w γ o (.lst []))/\o.dict=none) fW s:=
 wpAny_newList (hsz:=d3 _) ⟨_,rfl,rfl,rfl,λ_=>⟨rfl,#[],0,rfl,.nil⟩,rfl⟩
theorem Mv(s:Shared):wpAny (model prog w) A newDict (λu s'=>∃o,u=.ref s.heap.objs.size/\s'={s with heap:=s.heap.push o}/\o.isFreed=false/\(∀γ,uJ w γ o (dav []))/\o.dict=none) fW s:=by
 simp only[newDict,newObj];exact bF (wpAny_alloc (wpAny_pure ⟨_,rfl,rfl,rfl,λ_=>⟨⟨rfl,rfl,rfl⟩,#[],0,rfl,.nil,.nil⟩,rfl⟩))
noncomputable abbrev AR(w:World)(s₀:Shared)(aU:Gh)(bN:List Addr)(envM:Env)(env:Ev)(c:V)(csF:Cs)(RR:Value->Addr->Result->Shared->Prop):Prop:=
 ∀c8 C γF adF s',St w s₀ γF s'->CsOk w γF adF csF->Step [] aU γF bN adF->(∃o m,γF C=some (.raw o)/\Dk o m)->rH w γF c8 c->c8∉adF->C∉adF->c8≠C->dX aU c8->dX aU C->FmOk γF adF envM env->RR (.ref c8) C (.ok .next) s'
theorem wL(hck:jS sc dA ts=true):∀x∈dA.names,x.2=.local->dA.names.lookup x.1=some .local:=λx hx hl=>by
 rw[<-f8];exact nJ ((lD (aL.mp hck).2 x.1 x.2 hx).1 hl).1
theorem FP{elt t1 lA:Expr}{ifs:List Expr}{pos p:Pos}{t:List Nat}{n:Nat}{use:Option (Value->Sem Unit)}{Q:Value->Shared->Prop}{x:V×Cs}{l res:List V}{csF:Cs}(hh:A.handled=none)(IE:kO prog w s₀ A r)(IT:qA prog w s₀ A r)(hE:EnvOk envM sc)
  (hck:jS sc dA (jR t1)=true) (hns:gD lA=true) (ht:ErT dA t1 t) (mO:fresh t env=true) (hF:FmOk γ ad envM env)
  (h1:wpAny (model prog w) A (eval lA envM) (PE w s₀ γ ad x.1 x.2) fW s) (h2:j4 t x.1 x.2=some (l,cW)) (h3:dH r t (ifs.map (er n dA)) env (fR r (er n dA elt)) l cW=some (res,csF))
  (fin:∀aU bN,Step [] γ aU ad bN->AR w s₀ aU bN envM env (.lst res) csF (λc8 C=>compPost (model prog w) A fW use Q c8 C)):
  wpAny (model prog w) A (comprehension (.ListComp elt [⟨t1,lA,ifs,0⟩] dA pos) dA envM p (newList []) false (eval lA envM) use) Q fW s:=by
 refine lY (BF hE hck) λcl c1 c2 c3=>?_;refine wpAny_comprehension_free (g:=⟨t1,lA,ifs,0⟩) (gs:=[]) rfl (sZ hns envM) c1 (i0 (cl:=cl) 0 hE hck c3).kind (wL hck) (aD h1 (λlF bZ q=>?_) λ_ _ z=>z);obtain⟨aU,bN,S1,C1,T1,V1⟩:=q;exact wK (g:=⟨t1,lA,ifs,0⟩) (av:=V.lst) (N:=2000000) (m:=1) (f:=er n dA) (em:=λc8 C=>(do let _<-call (.builtin "list.append") [.ref c8,<-eval elt (compEnvC dA cl C envM)])) hh hE hck (pZ ht mO) ht mO c2 c3 Dv
  (λit c8 C R s q h=>vJ (g:=⟨t1,lA,ifs,0⟩) ⟨_,rfl⟩ rfl rfl rfl rfl q h) (λ_ _ _=>rfl) (λ_ _ _=>rfl) (λ_ _ _=>⟨_,rfl⟩) (λ_ _ _=>rfl)
  (λC c _=>IT n dA c _ (i0 C hE hck c3)) (λc8 C f5 hcn=>FO (IE n dA elt _ (i0 C hE hck c3)) f5 λy c q=>(hcn y c q).1) (by decide) S1 C1 (hF.step T1) V1 h2 h3
  λc8 C γF adF s' a b c e f g h i j k m _=>fin aU bN T1 c8 C γF adF s' a b c e f g h i j k m
theorem Mw{elt t1 lA:Expr}{ifs:List Expr}{pos p:Pos}{t:List Nat}{n:Nat}{use:Option (Value->Sem Unit)}{Q:Value->Shared->Prop}{x:V×Cs}{l res:List V}{csF:Cs}(hh:A.handled=none)(IE:kO prog w s₀ A r)(IT:qA prog w s₀ A r)(hE:EnvOk envM sc)
  (hck:jS sc dA (jR t1)=true) (hns:gD lA=true) (ht:ErT dA t1 t) (mO:fresh t env=true) (hS:St w s₀ γ s) (hC:CsOk w γ ad cs) (hF:FmOk γ ad envM env)
  (h1:r.ev (er n sc lA) env cs=some x) (h2:j4 t x.1 x.2=some (l,cW)) (h3:dH r t (ifs.map (er n dA)) env (fR r (er n dA elt)) l cW=some (res,csF))
  (fin:∀aU bN,Step [] γ aU ad bN->AR w s₀ aU bN envM env (.lst res) csF (λc8 C=>compPost (model prog w) A fW use Q c8 C)):
  wpAny (model prog w) A (comprehension (.ListComp elt [⟨t1,lA,ifs,0⟩] dA pos) dA envM p (newList []) false (eval lA envM) use) Q fW s:=
 FP hh IE IT hE hck hns ht mO hF (IE n sc lA envM hE s γ ad env cs _ _ hS hC hF h1) h2 h3 fin
theorem Mx{elt t1 lA t2 it2:Expr}{pos p:Pos}{t t':List Nat}{n:Nat}{use:Option (Value->Sem Unit)}{Q:Value->Shared->Prop}{x:V×Cs}{l res:List V}{csF:Cs}(hh:A.handled=none)(IE:kO prog w s₀ A r)(IT:qA prog w s₀ A r)(hE:EnvOk envM sc)
  (hck:jS sc dA (jR t1++jR t2)=true) (hns:gD lA=true) (hns2:gD it2=true) (ht:ErT dA t1 t) (ht2:ErT dA t2 t') (mO:fresh t env=true) (hfr2:fresh t' env=true) (hS:St w s₀ γ s) (hC:CsOk w γ ad cs) (hF:FmOk γ ad envM env)
  (h1:r.ev (er n sc lA) env cs=some x) (h2:j4 t x.1 x.2=some (l,cW)) (h3:dH r t [] env (uH r (er n dA elt) t' (er n dA it2)) l cW=some (res,csF))
  (fin:∀aU bN,Step [] γ aU ad bN->AR w s₀ aU bN envM env (.lst res) csF (λc8 C=>compPost (model prog w) A fW use Q c8 C)):
  wpAny (model prog w) A (comprehension (.ListComp elt [⟨t1,lA,[],0⟩,⟨t2,it2,[],0⟩] dA pos) dA envM p (newList []) false (eval lA envM) use) Q fW s:=by
 refine lY (BF hE hck) λcl c1 c2 c3=>?_
 refine wpAny_comprehension_free (g:=⟨t1,lA,[],0⟩) (gs:=[⟨t2,it2,[],0⟩]) rfl (sZ hns envM) c1 (i0 (cl:=cl) 0 hE hck c3).kind (wL hck) (aD (IE n sc lA envM hE s γ ad env cs _ _ hS hC hF h1) (λlF bZ q=>?_) λ_ _ z=>z)
 obtain⟨aU,bN,S1,C1,T1,V1⟩:=q
 exact wK (g:=⟨t1,lA,[],0⟩) (av:=V.lst) (N:=1000000) (m:=1000) (f:=er n dA) (em:=λc8 C=>(do
    let x<-eval it2 (compEnvC dA cl C envM)
    standAt it2.pos
    let x<-foldedSetIterable it2 (compEnvC dA cl C envM) x
    let _<-runOwn (.compStart (.ListComp elt [⟨t1,lA,[],0⟩,⟨t2,it2,[],0⟩] dA pos) 1 (<-holding [x] (pyIter x)) (.ref c8) (compEnvC dA cl C envM)) (compEnvC dA cl C envM))) hh hE hck
  (λx hx=>(b7.mp hx).elim (pZ ht mO x) (pZ ht2 hfr2 x)) ht mO c2 c3 Dv
  (λit c8 C R s q h=>vJ (g:=⟨t1,lA,[],0⟩) ⟨_,rfl⟩ rfl rfl rfl rfl q h) (λ_ _ _=>rfl) (λ_ _ _=>rfl) (λ_ _ _=>⟨_,rfl⟩) (λ_ _=>OV λ_=>by simp only[bind_assoc,pure_bind];rfl)
  (λC c hc=>by cases hc) (λc8 C f5 hcn=>Mu hh IE (i0 C hE hck c3) ht2 hns2 f5 (λy c q=>(hcn y c q).1) (λy c q=>(hcn y c q).2) (by decide)) (by decide) S1 C1 (hF.step T1) V1 h2 h3
  λc8 C γF adF s' a b c e f g h i j k m _=>fin aU bN T1 c8 C γF adF s' a b c e f g h i j k m
theorem Yd{ke ve t1 lA:Expr}{pos p:Pos}{t:List Nat}{n:Nat}{Q:Value->Shared->Prop}{x:V×Cs}{l res:List V}{csF:Cs}(hh:A.handled=none)(IE:kO prog w s₀ A r)(hE:EnvOk envM sc)
  (hck:jS sc dA (jR t1)=true) (hns:gD lA=true) (ht:ErT dA t1 t) (mO:fresh t env=true) (hS:St w s₀ γ s) (hC:CsOk w γ ad cs) (hF:FmOk γ ad envM env)
  (h1:r.ev (er n sc lA) env cs=some x) (h2:j4 t x.1 x.2=some (l,cW)) (h3:dH r t [] env (t8 r (er n dA ke) (er n dA ve)) l cW=some (res,csF))
  (fin:∀aU bN,Step [] γ aU ad bN->AR w s₀ aU bN envM env (dav res) csF (λc8 C=>compPost (model prog w) A fW none Q c8 C)):
  wpAny (model prog w) A (comprehension (.DictComp ke ve [⟨t1,lA,[],0⟩] dA pos) dA envM p newDict false (eval lA envM)) Q fW s:=by
 refine lY (BF hE hck) λcl c1 c2 c3=>?_
 refine wpAny_comprehension_free (g:=⟨t1,lA,[],0⟩) (gs:=[]) rfl (sZ hns envM) c1 (i0 (cl:=cl) 0 hE hck c3).kind (wL hck) (aD (IE n sc lA envM hE s γ ad env cs _ _ hS hC hF h1) (λlF bZ q=>?_) λ_ _ z=>z)
 obtain⟨aU,bN,S1,C1,T1,V1⟩:=q
 exact wK (g:=⟨t1,lA,[],0⟩) (av:=dav) (N:=2000000) (m:=1) (f:=er n dA) (em:=λc8 C=>(do
    let kv<-eval ke (compEnvC dA cl C envM)
    let vv<-holding [kv] (eval ve (compEnvC dA cl C envM))
    standAt {ke.pos with endLine:=ve.pos.endLine,endCol:=ve.pos.endCol}
    holding [kv,vv] (dictSet c8 kv vv))) hh hE hck (pZ ht mO) ht mO c2 c3 Mv
  (λit c8 C R s q h=>vJ (g:=⟨t1,lA,[],0⟩) ⟨_,rfl⟩ rfl rfl rfl rfl q h) (λ_ _ _=>rfl) (λ_ _ _=>rfl) (λ_ _ _=>⟨_,rfl⟩) (λ_ _ _=>rfl)
  (λC c hc=>by cases hc) (λc8 C f5 hcn=>OZ (IE n dA ke _ (i0 C hE hck c3)) (IE n dA ve _ (i0 C hE hck c3)) f5 λy c q=>(hcn y c q).1) (by decide) S1 C1 (hF.step T1) V1 h2 h3
  λc8 C γF adF s' a b c e f g h i j k m _=>fin aU bN T1 c8 C γF adF s' a b c e f g h i j k m
end
set_option tactic.hygienic true
theorem My{i u:Expr}(h:LL i=some u):∃p,i=.Slice none (some u) none p:=sliE h nS λa b c p e h=>dJ h λhc h=>fF hc λc1 c2=>⟨p,by rw[e,fZ.mp c1,fZ.mp c2,h]⟩
theorem EC{o:Expr}(h:LK o=true):∃x p,o=.Name x p:=Expr.Name.elim (motive_1:=λo=>∃x p,o=.Name x p) o (aA h) λx p=>⟨x,p,rfl⟩
section
variable{prog:Program}{w:World}{s₀ s s':Shared}{γ bP:Gh}{ad dU:List Addr}{cs cW:Cs}{A:Around}{d:Nat}{cf:cO}{v:V}{u:Value}{envM cenv:Env}{sc dA:Scope}{env env':Ev}{r:Rec}
theorem xV{c:V}{csF:Cs}(hg:∀o,∃g,NR o c=some g)(hv:gT c csF=(v,cW)):∀aU bN,Step [] γ aU ad bN->AR w s₀ aU bN envM env c csF (λc8 C=>compPost (model prog w) A fW none (PE w s₀ γ ad v cW) c8 C):=
 λaU bN T c8 C γF adF s' a b c' e f g h i j k _=>I9 (av:=λ_=>c) (res:=[]) hg a b c' e f g h i j k λs'' q=>by
  rw[hv]at q;exact q.trans T
theorem Mz{elt t1 lA:Expr}{ifs:List Expr}{p:Pos}{n:Nat}(hh:A.handled=none)(IE:kO prog w s₀ A r)(IT:qA prog w s₀ A r)(hE:EnvOk envM sc)(hck:jS sc dA (jR t1)=true)(hns:gD lA=true):
  e8 prog w s₀ A envM (.ListComp elt [⟨t1,lA,ifs,0⟩] dA p) (λenv cs=>dI cf r (.comp (er n dA elt) (uB dA t1) (er n sc lA) (ifs.map (er n dA))) env cs):=λs γ ad env cs v cW hS hC hF h=>by
 replace h:(bif !fresh (uB dA t1) env then none else(r.ev (er n sc lA) env cs).bind λp=>(j4 (uB dA t1) p.1 p.2).bind λl=>(dH r (uB dA t1) (ifs.map (er n dA)) env (fR r (er n dA elt)) l.1 l.2).map λq=>gT (.lst q.1) q.2)=some (v,cW):=h;refine vA h ?_;clear h;intro mO h;refine bH h ?_;clear h;intro x h1 h;refine bH h ?_;clear h;intro l h2 h;refine eV h ?_;clear h;intro q h3 h;rw[eval_ListComp];exact Mw (use:=none) hh IE IT hE hck hns (qO _ _) mO hS hC hF h1 h2 h3 (xV (λo=>⟨_,rfl⟩) h)
theorem M0{elt t1 lA t2 it2:Expr}{p:Pos}{n:Nat}(hh:A.handled=none)(IE:kO prog w s₀ A r)(IT:qA prog w s₀ A r)(hE:EnvOk envM sc)(hck:jS sc dA (jR t1++jR t2)=true)(hns:gD lA=true)(hns2:gD it2=true):
  e8 prog w s₀ A envM (.ListComp elt [⟨t1,lA,[],0⟩,⟨t2,it2,[],0⟩] dA p) (λenv cs=>dI cf r (.comp2 (er n dA elt) (uB dA t1) (er n sc lA) (uB dA t2) (er n dA it2)) env cs):=λs γ ad env cs v cW hS hC hF h=>by
 replace h:(bif !(fresh (uB dA t1) env&&fresh (uB dA t2) env)then none else(r.ev (er n sc lA) env cs).bind λp=>(j4 (uB dA t1) p.1 p.2).bind λl=>(dH r (uB dA t1) [] env (uH r (er n dA elt) (uB dA t2) (er n dA it2)) l.1 l.2).map λq=>gT (.lst q.1) q.2)=some (v,cW):=h;refine vA h ?_;clear h;intro mO h;obtain⟨f1,f2⟩:=aL.mp mO;refine bH h ?_;clear h;intro x h1 h;refine bH h ?_;clear h;intro l h2 h;refine eV h ?_;clear h;intro q h3 h;rw[eval_ListComp];exact Mx (use:=none) hh IE IT hE hck hns hns2 (qO _ _) (qO _ _) f1 f2 hS hC hF h1 h2 h3 (xV (λo=>⟨_,rfl⟩) h)
theorem M1{ke ve t1 lA:Expr}{p:Pos}{n:Nat}(hh:A.handled=none)(IE:kO prog w s₀ A r)(hE:EnvOk envM sc)(hck:jS sc dA (jR t1)=true)(hns:gD lA=true):
  e8 prog w s₀ A envM (.DictComp ke ve [⟨t1,lA,[],0⟩] dA p) (λenv cs=>dI cf r (.dcomp (er n dA ke) (er n dA ve) (uB dA t1) (er n sc lA)) env cs):=λs γ ad env cs v cW hS hC hF h=>by
 replace h:(bif !fresh (uB dA t1) env then none else(r.ev (er n sc lA) env cs).bind λp=>(j4 (uB dA t1) p.1 p.2).bind λl=>(dH r (uB dA t1) [] env (t8 r (er n dA ke) (er n dA ve)) l.1 l.2).map λq=>gT (.dct (t9 q.1)) q.2)=some (v,cW):=h;refine vA h ?_;clear h;intro mO h;refine bH h ?_;clear h;intro x h1 h;refine bH h ?_;clear h;intro l h2 h;refine eV h ?_;clear h;intro q h3 h;show wpAny _ _ (comprehension (.DictComp ke ve [⟨t1,lA,[],0⟩] dA p) dA envM (firstIterPos [⟨t1,lA,[],0⟩] p) newDict false (eval lA envM)) _ _ _;exact Yd hh IE hE hck hns (qO _ _) mO hS hC hF h1 h2 h3 (xV (λo=>⟨_,rfl⟩) h)
theorem M2(hB:Base w s₀)(hc:q8 prog w s₀ d cf)(hR:Room A d 1)(IE:kO prog w s₀ A r)(IT:qA prog w s₀ A r)(n:Nat)(sc:Scope)(e:Expr)(envM:Env)(hE:EnvOk envM sc):EvX prog w s₀ A envM e cf r (er n sc e):=by
 induction n using Nat.casesOn with
 |zero=>exact fG
 |succ n=>
  have I:=λe=>IE n sc e envM hE;induction e using PySem.Expr.casesOn with
  |Name x p=>exact OC hB hE
  |Constant c k p=>exact Me
  |BoolOp op es p=>
   induction op using PySem.BoolOp.casesOn with
   |Or=>exact fG
   |And=>exact Ok fG λx y e=>e▸OD (I x) (I y)
  |BinOp l op x p=>exact XO hB hc (hR.le (d3 1)) (I l) (I x)
  |UnaryOp op x p=>
   induction op using PySem.UnaryOp.casesOn with
   |Not=>exact XX (I x)
   |USub=>exact XS (I x)
   |_=>exact fG
  |IfExp t a b p=>exact XT (IT n sc t envM hE) (I a) (I b)
  |Compare l ops xs p=>exact GR fG λop e=>GR fG λx e'=>bQ fG λhs=>e▸e'▸XQ hB hc (hR.le (d3 1)) hs (I l) (I x)
  |List es p=>exact bQ fG λhs=>OF (λe _=>I e) hs
  |Tuple es k p=>exact bQ fG λhs=>Mf (λe _=>I e) hs
  |Dict ks vs p=>exact Qy fG λe=>Qy fG λe'=>e▸e'▸Mg
  |Attribute o a p=>exact OH hB hc hR (I o)
  |Subscript o i p=>
   refine oQ (bQ fG λhn=>OQ hn (I o) (I i)) λuu hu=>bQ fG λhn=>?_;obtain⟨q,rfl⟩:=My hu;obtain⟨x,q',rfl⟩:=EC hn;exact OS (I _) (I uu)
  |Call fn args kws p=>
   refine Xz (Om fG λx q e=>bQ fG λc=>oQ fG λl hl=>fF c λc1 _=>?_) λo a ap e=>bQ fG λc=>oQ fG λm hm=>oQ fG λl hl=>fF c λc c4=>fF c λc c3=>fF c λc1 c2=>?_
   ·subst e;exact Dr hB hc (hR.le (d3 1)) (I _) (λe _=>I e) c1 hl (λk _=>I k.value)
   ·subst e;exact ON hB hc (hR.le (d3 1)) (I o) (λe _=>I e) (λk _=>I k.value) c1 c2 hl (aA c3) (aX c4) hm
  |ListComp elt gens dA p=>
   refine GR (Ok fG λg h e=>bQ fG λc=>?_) λg e=>bQ fG λc=>?_
   ·obtain⟨t1,lA,ifs,a⟩:=g;obtain⟨t2,it2,ifs2,b⟩:=h;simp only[a9,decide_eq_true_eq,eI]at c;obtain⟨⟨⟨⟨⟨⟨rfl,rfl⟩,rfl⟩,rfl⟩,h2⟩,h3⟩,h4⟩:=c;subst e;exact M0 hR.hand IE IT hE h2 h3 h4
   ·obtain⟨t1,lA,ifs,a⟩:=g;simp only[a9,decide_eq_true_eq]at c;obtain⟨⟨rfl,h2⟩,h3⟩:=c;subst e;exact Mz hR.hand IE IT hE h2 h3
  |DictComp k v gens dA p=>
   refine GR fG λg e=>bQ fG λc=>?_;obtain⟨t1,lA,ifs,a⟩:=g;simp only[a9,decide_eq_true_eq,eI]at c;obtain⟨⟨⟨rfl,rfl⟩,h2⟩,h3⟩:=c;subst e;exact M1 hR.hand IE hE h2 h3
  |_=>exact fG
def EtX(prog:Program)(w:World)(s₀:Shared)(A:Around)(envM:Env)(e:Expr)(cf:cO)(r:Rec)(z:X):Prop:=EvX prog w s₀ A envM e cf r z->BA prog w s₀ A envM e cf r z
theorem Ye(hB:Base w s₀)(hc:q8 prog w s₀ d cf)(hR:Room A d 1)(IE:kO prog w s₀ A r)(IT:qA prog w s₀ A r)(n:Nat)(sc:Scope)(e:Expr)(envM:Env)(hE:EnvOk envM sc):BA prog w s₀ A envM e cf r (er n sc e):=by
 have ev:=M2 hB hc hR IE IT n sc e envM hE;induction n using Nat.casesOn with
 |zero=>exact fH
 |succ n=>
  have bad:∀{e:Expr},EtX prog w s₀ A envM e cf r .bad:=λ_=>fH;induction e using PySem.Expr.casesOn with
  |Name x p=>exact(show EtX prog w s₀ A envM (.Name x p) cf r (By sc x)from cQ (λ_=>oQ bad λ_ _ ev=>BB (λ_=>rfl) ev rfl rfl) (bQ bad λ_=>oQ (oQ bad λ_ _ _=>fH) λ_ _ _=>fH)) ev
  |Constant c k p=>clear ev;induction c using PySem.Const.casesOn<;>exact fH
  |BoolOp op es p=>
   induction op using PySem.BoolOp.casesOn with
   |Or=>exact Ey (isAnd:=false) (f:=er n sc) λe _=>IT n sc e envM hE
   |And=>exact Ok (Ey (isAnd:=true) (f:=er n sc) λe _=>IT n sc e envM hE) λx y e=>e▸Ey (isAnd:=true) (f:=er n sc) (es:=[x,y]) λe _=>IT n sc e envM hE
  |BinOp l op x p=>exact BB (λ_=>rfl) ev rfl rfl
  |UnaryOp op x p=>
   induction op using PySem.UnaryOp.casesOn with
   |Not=>exact XW (IT n sc x envM hE)
   |_=>exact fH
  |Compare l ops xs p=>exact GR (Q:=BA prog w s₀ A envM (.Compare l ops xs p) cf r) fH λop e=>GR (Q:=BA prog w s₀ A envM (.Compare l ops xs p) cf r) fH λx e'=>bQ (Q:=BA prog w s₀ A envM (.Compare l ops xs p) cf r) fH λhs=>e▸e'▸XY hB hc (hR.le (d3 1)) hs (IE n sc l envM hE) (IE n sc x envM hE)
  |Attribute o a p=>exact(show EtX prog w s₀ A envM (.Attribute o a p) cf r (Es (er n sc) o a)from bQ bad λ_=>oQ bad λ_ _ ev=>BB (λ_=>rfl) ev rfl rfl) ev
  |Call fn args kws p=>
   exact(show EtX prog w s₀ A envM (.Call fn args kws p) cf r (LM (er n sc) fn args kws p)from Xz (Om bad λ_ _ _=>bQ bad λ_=>oQ bad λ_ _ ev=>BB (λ_=>rfl) ev rfl rfl) λ_ _ _ _=>bQ bad λ_=>oQ bad λ_ _=>oQ bad λ_ _ _=>fH) ev
  |List es p=>exact bQ (Q:=BA prog w s₀ A envM (.List es p) cf r) fH λ_=>fH
  |Tuple es k p=>exact bQ (Q:=BA prog w s₀ A envM (.Tuple es k p) cf r) fH λ_=>fH
  |Dict ks vs p=>exact Qy (Q:=BA prog w s₀ A envM (.Dict ks vs p) cf r) fH λ_=>Qy (Q:=BA prog w s₀ A envM (.Dict ks vs p) cf r) fH λ_=>fH
  |Subscript o i p=>exact oQ (Q:=BA prog w s₀ A envM (.Subscript o i p) cf r) (bQ (Q:=BA prog w s₀ A envM (.Subscript o i p) cf r) fH λ_=>fH) λ_ _=>bQ (Q:=BA prog w s₀ A envM (.Subscript o i p) cf r) fH λ_=>fH
  |ListComp elt gens dA p=>exact GR (Q:=BA prog w s₀ A envM (.ListComp elt gens dA p) cf r) (Ok (Q:=BA prog w s₀ A envM (.ListComp elt gens dA p) cf r) fH λ_ _ _=>bQ (Q:=BA prog w s₀ A envM (.ListComp elt gens dA p) cf r) fH λ_=>fH) λ_ _=>bQ (Q:=BA prog w s₀ A envM (.ListComp elt gens dA p) cf r) fH λ_=>fH
  |DictComp k v gens dA p=>exact GR (Q:=BA prog w s₀ A envM (.DictComp k v gens dA p) cf r) fH λ_ _=>bQ (Q:=BA prog w s₀ A envM (.DictComp k v gens dA p) cf r) fH λ_=>fH
  |_=>exact fH
end
theorem QJ{hcf:cO}{r:Rec}{env:Ev}{cs:Cs}{c:Bool}{x:X}{y:V×Cs}{P:Prop}(h:dI hcf r (bif c then x else .bad) env cs=some y)(k:c=true->dI hcf r x env cs=some y->P):P:=by
 induction c using Bool.casesOn with
 |true=>exact k rfl h
 |false=>exact aY h
theorem mA{e:Expr}(h:l8 e=true)(t:Option Expr)(l:Nat)(env:Env):swapsWith e t l env=pure false:=by
 induction e using PySem.Expr.casesOn<;>first|rfl|exact bX h
section
variable{prog:Program}{w:World}{s₀ s s':Shared}{γ bP:Gh}{ad dU:List Addr}{cs cW:Cs}{A:Around}{d:Nat}{cf:cO}{v:V}{u:Value}{envM cenv:Env}{sc dA:Scope}{env env':Ev}{r:Rec}{rv:Option V}{f:Flow}
theorem fT{c:Stmt}:sQ prog w s₀ A envM c (λ_ _=>none):=λ_ _ _ _ _ _ _ _ _ _ _ h=>by exact aY h
theorem PX.next(hS:St w s₀ γ s)(hC:CsOk w γ ad cs)(hF:FmOk γ ad envM env):PX w s₀ γ ad envM none env cs .next s:=⟨γ,ad,hS,hC,.refl γ ad,hF,rfl⟩
theorem PX.trans(x:Step (pC envM) γ bP ad dU)(h:PX w s₀ bP dU envM rv env' cW f s):PX w s₀ γ ad envM rv env' cW f s:=
 let⟨cL,eS,a,b,c,e,g⟩:=h;⟨cL,eS,a,b,x.trans c,e,g⟩
theorem Step.wr(x:Step [] γ bP ad dU)(envM:Env):Step (pC envM) γ bP ad dU:=x.widen (by simp)
theorem Step.wrL(x:Step [envM.locals] γ bP [] [])(ad:List Addr):Step (pC envM) γ bP ad ad:=(x.calledX ad).widen λa h=>by rw[aN.mp h];exact aE
theorem Yg{e:Expr}{p:Pos}{fa:Ev->Cs->Option (V×Cs)}(ha:e8 prog w s₀ A envM e fa):sQ prog w s₀ A envM (.Return (some e) p) (λenv cs=>(fa env cs).bind λp=>(a8 p.1 p.2).map λq=>(some q.1,env,q.2)):=λs γ ad env cs rv env' cW hS hC hF h=>by
 refine bH h ?_;clear h;intro x h1 h;refine eV h ?_;clear h;intro y h2 h;cases h;refine wpAny_Return_some (aD (ha s γ ad env cs _ _ hS hC hF h1) (λlF bZ q=>?_) λ_ _ z=>z);obtain⟨aU,bN,S1,C1,T1,V1⟩:=q;refine nZ (rE S1 C1 V1 h2) λcL S2 C2 T2 V2=>?_;exact⟨cL,bN,S2,C2,(T1.trans T2).wr envM,hF.step (T1.trans T2),lF,rfl,V2⟩
theorem Pb(hE:EnvOk envM sc){e:Expr}{p:Pos}{fa:Ev->Cs->Option (V×Cs)}(hn:l8 e=true)(ha:e8 prog w s₀ A envM e fa):sQ prog w s₀ A envM (.Expr e p) (λenv cs=>(fa env cs).bind λp=>bif g7 p.1 then some (none,env,p.2)else none):=λs γ ad env cs rv env' cW hS hC hF h=>by
 refine bH h ?_;clear h;intro x h1 h
 refine dJ h ?_;clear h;intro hx h
 cases h
 refine wpAny_Expr (aD (ha s γ ad env cs _ _ hS hC hF h1) (λlF bZ q=>?_) λ_ _ z=>z) (by unfold interactive;rw[hE.kind];rfl) (mA hn ..)
 obtain⟨aU,bN,S1,C1,T1,V1⟩:=q
 obtain⟨x1,x2⟩:=x
 clear h1;induction x1 using V.casesOn<;>first|(exact bX hx;done)|skip
 cases V1
 exact⟨aU,bN,S1,C1,T1.wr envM,hF.step T1,rfl⟩
theorem Pc{p:Pos}:sQ prog w s₀ A envM (.Pass p) (λenv cs=>some (none,env,cs)):=λs γ ad env cs rv env' cW hS hC hF h=>by
 cases h;exact wpAny_Pass (.next hS hC hF)
theorem vK{x:Str}(h:wE sc x=true):cJ x sc.names=some .local\/cJ x sc.names=some .cell:=by
 exact(cP.mp h).elim (λh=>.inl (lL h)) λh=>.inr (lL h)
theorem ID(hE:EnvOk envM sc)(hS:St w s₀ γ s)(hC:CsOk w γ ad cs)(hF:FmOk γ ad envM env){x:Str}{i:Nat}(hl:wE sc x=true)(hv:mQ x=some i)(hx:VR γ ad v u):
  wpAny (model prog w) A (storeName envM x u) (λ_ s'=>PX w s₀ γ ad envM none (fO i v env) cs .next s') fW s:=by
 have fin:∀a,a∈pC envM->a∉ad->∀s',PS w s₀ γ ad [a] envM (fO i v env) s'->PX w s₀ γ ad envM none (fO i v env) cs .next s':=λa h1 h2 s' z=>by
  obtain⟨bP,p,q,r⟩:=z;exact⟨bP,ad,p,hC.calledX q (λb hb=>by rw[aN.mp hb];exact h2),(q.calledX ad).widen (λb hb=>by rw[aN.mp hb];exact h1),r,rfl⟩
 rcases vK hl with q|q
 ·exact aD (jE hE hS hF (eG hE q) hv hx) (λ_ s' z=>fin _ aE hF.nLoc s' z) λ_ _ z=>z
 ·rcases hE.names x _ q with z|⟨z,_⟩
  ·obtain⟨c,hc⟩:=hE.cells x (.inl z);exact aD (E7 hE hS hF z hv hx hc) (λ_ s' z=>fin c (aI _ (tQ hc)) (hF.nCel x c hc).1 s' z) λ_ _ z=>z
  ·cases z
theorem Yh(hE:EnvOk envM sc){x:Str}{q p:Pos}{e:Expr}{i:Nat}{fa:Ev->Cs->Option (V×Cs)}(hn:l8 e=true)(hl:wE sc x=true)(hv:mQ x=some i)(ha:e8 prog w s₀ A envM e fa):
  sQ prog w s₀ A envM (.Assign [.Name x q] e p) (λenv cs=>(fa env cs).map λp=>(none,fO i p.1 env,p.2)):=λs γ ad env cs rv env' cW hS hC hF h=>by
 refine eV h ?_;clear h;intro y h1 h;cases h;refine wpAny_Assign_Name (aD (ha s γ ad env cs _ _ hS hC hF h1) (λlF bZ q=>?_) λ_ _ z=>z) (mA hn ..);obtain⟨aU,bN,S1,C1,T1,V1⟩:=q;exact aD (ID hE S1 C1 (hF.step T1) hl hv V1) (λ_ _ z=>PX.trans (T1.wr envM) z) λ_ _ z=>z
theorem FmOk.more{a:Addr}(hF:FmOk γ ad envM env)(h1:envM.locals≠a)(h2:∀y c,envM.cells.lookup y=some c->c≠a):FmOk γ (ad++[a]) envM env:=by
 have ix:∀(i:Nat) (b:Addr),ad[i]?=some b->(ad++[a])[i]?=some b:=λi b e=>by
  rw[List.getElem?_append_left (List.getElem?_eq_some_iff.mp e).1];exact e
 refine fM (hF.loc) λo m e1 e2 e3=>?_;refine⟨⟨o,m,e1,e2,λx i v p q k=>?_⟩,λx c q=>?_,λz=>?_,λx c q=>⟨λz=>?_,(hF.nCel x c q).2⟩,hF.inj⟩
 ·obtain⟨u,z1,z2⟩:=e3 x i v p q k;exact⟨u,z1,z2.mono (.refl γ) ix⟩
 ·refine fM (hF.cel x c q) λo cv a1 a2 a3=>?_;refine⟨o,cv,a1,a2,λi v p q k=>?_⟩;obtain⟨u,z1,z2⟩:=a3 i v p q k;exact⟨u,z1,z2.mono (.refl γ) ix⟩
 ·rcases b7.mp z with z|z
  ·exact hF.nLoc z
  ·exact h1 (aN.mp z)
 ·rcases b7.mp z with z|z
  ·exact(hF.nCel x c q).1 z
  ·exact h2 x c q (aN.mp z)
theorem Dw(hE:EnvOk envM sc){x:Str}{q:Pos}{i:Nat}{c:V}{csF:Cs}(hk:envM.kindOf x=some .local)(hv:mQ x=some i)(hF:FmOk γ ad envM env)(hg:∀o,∃g,NR o c=some g):
  ∀aU bN,Step [] γ aU ad bN->AR w s₀ aU bN envM env c csF (λc8 C=>compPost (model prog w) A fW (some (assign (.Name x q) envM)) (λ_ s'=>PX w s₀ γ ad envM none (fO i (gT c csF).1 env) (gT c csF).2 .next s') c8 C):=by
 intro aU bN T c8 C γF adF s' hS hC T1 hr hA a1 c1 n fA fC F;show wpAny _ A (assign (.Name x q) envM (.ref c8)) _ _ _;have F0:=hF.step T;obtain⟨ol,rl⟩:=F0.locRaw;have nLA:envM.locals≠c8:=fA.ne rl (by intro z;cases z)
 have nLC:envM.locals≠C:=fC.ne rl (by intro z;cases z)
 have cne:∀a,dX aU a->∀y c,envM.cells.lookup y=some c->c≠a:=λa ha y c q=>by
  refine kW (F0.cel y c q) λoc _ e _=>?_;exact ha.ne e (by intro z;cases z)
 have F1:=F.more nLA (cne c8 fA);have C1:=hC.adopt hA hg a1;have hl:adF.length=csF.length:=hC.all.length;have V1:VR γF (adF++[c8]) (gT c csF).1 (.ref c8):=.own (by rw[<-hl];simp)
 refine i8 (id hA) λoA rA _=>?_;refine kW (hr) λoC mC rC nC=>?_;refine wpAny_assign_Name (aD (jE hE hS F1 hk hv V1) (λ_ cZ z=>?_) λ_ _ z=>z);obtain⟨γG,S2,T2,F2⟩:=z;have rC2:=T2.raw C oC rC (by simp) (by simpa using Ne.symm nLC)
 have rA2:=T2.raw c8 oA rA (by simp) (by simpa using Ne.symm nLA)
 refine⟨mC,nC.ns (S2.raw rC2),λh' hs=>?_⟩;have T3:Step [C] γG (iZ γG C (some .dead)) [] []:=tN [] rC2 (by simp)
 have S3:=S2.kill (s':={cZ with heap:=h'}) rC2 rA2 n λb o hb e=>(hs.2 b hb).trans e
 have cC:C∉adF++[c8]:=λz=>by
  rcases b7.mp z with z|z
  ·exact c1 z
  ·exact n (aN.mp z).symm
 have C2:=C1.calledX T2 λa ha=>by rw[aN.mp ha];exact F1.nLoc
 have C3:=C2.calledX T3 λa ha=>by rw[aN.mp ha];exact cC
 have F3:=F2.stepX (T3.calledX (adF++[c8])) (by simpa using nLC) (λy c e=>by simpa using cne C fC y c e)
 have TT:Step [C,envM.locals] γ (iZ γG C (some .dead)) ad (adF++[c8]):=(((T.trans (T1.more (a:=c8) fA)).widen (by simp)).trans ((T2.calledX (adF++[c8])).widen (by simp))).trans ((T3.calledX (adF++[c8])).widen (by simp))
 exact⟨_,adF++[c8],S3,C3,TT.shrink (λa ha=>by
  simp only[a7,fK,or_false]at ha;clear TT F3 C3 cC S3 T3 hs rC2 rC nLC n c1;rcases ha with rfl|rfl
  ·exact .inl ((T.dom _ fC).elim id (by simp))
  ·exact .inr aE),F3,rfl⟩
theorem gEq{g:Comprehension}{l:List Expr}(h:g.is_async=0)(e:g.ifs=l):g=⟨g.target,g.iter,l,0⟩:=by induction g using PySem.Comprehension.casesOn;cases h;cases e;rfl
theorem gEq2{g g' h h':Comprehension}(e:g=h)(e':g'=h'):[g,g']=[h,h']:=e▸e'▸rfl
theorem ED{f f':Expr->X}{elt:Expr}{gens:List Comprehension}{hcf:cO}{y:V×Cs}{P:Prop}(h:dI hcf r (Et f f' sc dA elt gens) env cs=some y)
  (k1:∀t1 lA ifs,gens=[⟨t1,lA,ifs,0⟩]->jS sc dA (jR t1)=true->gD lA=true->(bif !fresh (uB dA t1) env then none else(r.ev (f lA) env cs).bind λp=>(j4 (uB dA t1) p.1 p.2).bind λl=>(dH r (uB dA t1) (ifs.map f') env (fR r (f' elt)) l.1 l.2).map λq=>gT (.lst q.1) q.2)=some y->P)
  (k2:∀t1 lA t2 it2,gens=[⟨t1,lA,[],0⟩,⟨t2,it2,[],0⟩]->jS sc dA (jR t1++jR t2)=true->gD lA=true->gD it2=true->(bif !(fresh (uB dA t1) env&&fresh (uB dA t2) env)then none else(r.ev (f lA) env cs).bind λp=>(j4 (uB dA t1) p.1 p.2).bind λl=>(dH r (uB dA t1) [] env (uH r (f' elt) (uB dA t2) (f' it2)) l.1 l.2).map λq=>gT (.lst q.1) q.2)=some y->P):P:=by
 revert h;refine GR (Q:=λz=>dI hcf r z env cs=some y->P) (Ok (Q:=λz=>dI hcf r z env cs=some y->P) (λh=>aY (show none=some y from h)) λg g' e h1=>QJ h1 λc k=>?_) λg e h1=>QJ h1 λc k=>?_
 ·exact fF c λc c7=>fF c λc c6=>fF c λc c5=>fF c λc c4=>fF c λc c3=>fF c λc1 c2=>k2 _ _ _ _ (e.trans (gEq2 (gEq (aM c1) (eI.mp c3)) (gEq (aM c2) (eI.mp c4)))) c5 c6 c7 k
 ·exact fF c λc c3=>fF c λc1 c2=>k1 _ _ _ (e.trans (congrArg (λg=>[g]) (gEq (aM c1) rfl))) c2 c3 k
theorem Pd(hh:A.handled=none)(IE:kO prog w s₀ A r)(IT:qA prog w s₀ A r)(hE:EnvOk envM sc){x:Str}{q p:Pos}{e:Expr}{i:Nat}(hsw:LN sc x q e=true)(hv:mQ x=some i)(n:Nat)(hcf:cO):
  sQ prog w s₀ A envM (.Assign [.Name x q] e p) (λenv cs=>(dI hcf r (er (n+1) sc e) env cs).map λp=>(none,fO i p.1 env,p.2)):=λs γ ad env cs rv env' cW hS hC hF h=>by
 refine eV h ?_;clear h;intro y h1 h;cases h;refine lCE hsw nT λelt gens dA pos ee hsw=>fF hsw λhsw w3=>fF hsw λw1 w2=>?_;clear hsw;subst ee;have hk:=eG hE (nJ w1);have hs:swapsWith (.ListComp elt gens dA pos) (some (.Name x q)) p.line envM=pure true:=by
  show(pure _:Sem Bool)=_;congr 1;rw[hk];have e1:(envM.blockKind==.function)=true:=by unfold Env.blockKind;rw[hE.kind];rfl
  rw[e1,w3,aA w2];simp
 rw[exec_Assign_Name_used _ _ _ _ hs];refine bF (wpAny_standAt (bF ?_));refine ED (show dI hcf r (Et (er n sc) (er n dA) sc dA elt gens) env cs=some y from h1) (λt1 lA ifs e h2 h3 k2=>?_) λt1 lA t2 it2 e h2 h3 h4 k2=>?_
 ·clear h1;refine vA k2 ?_;clear k2;intro mO k2;refine bH k2 ?_;clear k2;intro x' g1 k2;refine bH k2 ?_;clear k2;intro l g2 k2;refine eV k2 ?_;clear k2;intro z g3 k4;clear hs hsw w2;clear hsw;subst k4 e;show wpAny _ A (do let _<-comprehension (.ListComp elt [⟨t1,lA,ifs,0⟩] dA pos) dA envM _ (newList []) false (eval lA envM) (some (assign (.Name x q) envM))) _ _ s
  exact bF (aD (Mw (use:=some (assign (.Name x q) envM)) hh IE IT hE h2 h3 (qO _ _) mO hS hC hF g1 g2 g3 (Dw hE hk hv hF (λo=>⟨_,rfl⟩))) (λ_ s' z=>wpAny_pure (wpAny_pure z)) λ_ _ z=>z)
 ·clear h1;refine vA k2 ?_;clear k2;intro mO k2;refine bH k2 ?_;clear k2;intro x' g1 k2;refine bH k2 ?_;clear k2;intro l g2 k2;refine eV k2 ?_;clear k2;intro z g3 k4;obtain⟨f1,f2⟩:=aL.mp mO;clear hs hsw w2;clear hsw;subst k4 e;show wpAny _ A (do let _<-comprehension (.ListComp elt [⟨t1,lA,[],0⟩,⟨t2,it2,[],0⟩] dA pos) dA envM _ (newList []) false (eval lA envM) (some (assign (.Name x q) envM))) _ _ s
  exact bF (aD (Mx (use:=some (assign (.Name x q) envM)) hh IE IT hE h2 h3 h4 (qO _ _) (qO _ _) f1 f2 hS hC hF g1 g2 g3 (Dw hE hk hv hF (λo=>⟨_,rfl⟩))) (λ_ s' z=>wpAny_pure (wpAny_pure z)) λ_ _ z=>z)
end
theorem M3{o x v:V}(h:Ov o x=some v):∃a b,o=.int a/\x=.int b/\v=.int (a+b):=by
 exact X7 h nS λa e h=>X7 h nS λb e' h=>⟨a,b,e,e',(aC h).symm⟩
theorem M4{o k x:V}{cs c:Cs}(h:Ax o k x cs=some c):∃i s c' m,o=.own i/\k=.str s/\uF i cs=some c'/\c'.val=.dct m/\c'.frozen=false/\flat x=true/\m.length<=1000/\c=sJ i ⟨false,.dct (lK s x m)⟩ cs:=by
 exact vOE h nS λi e h=>Q6 h nS λs e' h=>bH h λc' hc h=>vDE h nS λm hm h=>dJ h λhz h=>fF hz λhz h3=>fF hz λh1 h2=>
  ⟨i,s,c',m,e,e',hc,hm,by simpa using h1,h2,aX h3,(aC h).symm⟩
section
variable{prog:Program}{w:World}{s₀ s s':Shared}{γ bP:Gh}{ad dU:List Addr}{cs cW:Cs}{A:Around}{d:Nat}{cf:cO}{v:V}{u:Value}{envM cenv:Env}{sc dA:Scope}{env env':Ev}{r:Rec}{rv:Option V}{f:Flow}
theorem Pe(hE:EnvOk envM sc)(hS:St w s₀ γ s)(hF:FmOk γ ad envM env){x:Str}{i:Nat}(hx:cJ x sc.names=some .local)(hv:mQ x=some i)(h:dZ i env=some v){Q:Value->Shared->Prop}{E:Value->Shared->Prop}(q:∀u,VR γ ad v u->Q u s):
  wpAny (model prog w) A (loadName envM x) Q E s:=by
 refine fM (hF.loc) λo m a1 a2 a3=>?_;have hl:=eG hE hx;obtain⟨u,b1,b2⟩:=a3 x i v hv h hl;exact wpAny_loadName_local hE.kind hl (a2.ns (hS.raw a1)) b1 (q u b2)
theorem Yi(hE:EnvOk envM sc){x:Str}{q p:Pos}{e:Expr}{i:Nat}{fa:Ev->Cs->Option (V×Cs)}(hx:cJ x sc.names=some .local)(hv:mQ x=some i)(ha:e8 prog w s₀ A envM e fa):
  sQ prog w s₀ A envM (.AugAssign (.Name x q) .Add e p) (λenv cs=>(dZ i env).bind λo=>(fa env cs).bind λp=>(Ov o p.1).map λv=>(none,fO i v env,p.2)):=λs γ ad env cs rv env' cW hS hC hF h=>by
 refine bH h ?_;clear h;intro o h1 h;refine bH h ?_;clear h;intro y h2 h;refine eV h ?_;clear h;intro z h3 h;refine Fo h ?_;refine fM (M3 h3) λa b zr2 e2 zr4=>?_;subst zr2;subst zr4;obtain⟨y1,y2⟩:=y;dsimp only at e2;clear h3;subst e2;refine wpAny_AugAssign_Name (Pe hE hS hF hx hv h1 λu0 V0=>aD (ha s γ ad env cs _ _ hS hC hF h2) (λlF bZ q=>?_) λ_ _ z=>z);obtain⟨aU,bN,S1,C1,T1,V1⟩:=q;refine V0.intI λt0=>?_;refine V1.intI λt1=>?_;refine PyProof.Rows.iadd_int ?_;have S2:St w s₀ aU {bZ with toks:=bZ.toks+1}:=S1.like
 refine aD (jE hE S2 (hF.step T1) (eG hE hx) hv (.int (a+b) bZ.toks)) (λ_ s' z=>?_) λ_ _ z=>z;obtain⟨cL,S3,T3,F3⟩:=z;exact⟨cL,bN,S3,C1.calledX T3 (λb hb=>by rw[aN.mp hb];exact(hF.step T1).nLoc),(T1.wr envM).trans (T3.wrL bN),F3,rfl⟩
theorem Yj{dn:Str}{pd q p:Pos}{k e:Expr}{i:Nat}{fd fk fa:Ev->Cs->Option (V×Cs)}(hn:l8 e=true)(hd:e8 prog w s₀ A envM (.Name dn pd) fd)(hdf:∀env cs,fd env cs=(dZ i env).map λv=>(v,cs))(hk:e8 prog w s₀ A envM k fk)(ha:e8 prog w s₀ A envM e fa):
  sQ prog w s₀ A envM (.Assign [.Subscript (.Name dn pd) k q] e p) (λenv cs=>(fa env cs).bind λp=>(dZ i env).bind λo=>(fk env p.2).bind λq=>(Ax o q.1 p.1 q.2).map λc=>(none,env,c)):=λs γ ad env cs rv env' cW hS hC hF h=>by
 refine bH h ?_;clear h;intro y h1 h;refine bH h ?_;clear h;intro o h2 h;refine bH h ?_;clear h;intro z h3 h;refine eV h ?_;clear h;intro c h4 h;refine Fo h ?_;refine wpAny_Assign_Subscript (aD (ha s γ ad env cs _ _ hS hC hF h1) (λlF bZ q=>?_) λ_ _ z=>z) (mA hn ..);obtain⟨aU,bN,S1,C1,T1,V1⟩:=q;refine aD (hd bZ aU bN env y.2 o y.2 S1 C1 (hF.step T1) (by rw[hdf,h2];rfl)) (λu₂ cZ q=>?_) λ_ _ z=>z
 obtain⟨cL,eS,S2,C2,T2,V2⟩:=q;refine aD (hk cZ cL eS env _ _ _ S2 C2 (hF.step (T1.trans T2)) h3) (λu₃ lR q=>?_) λ_ _ z=>z;obtain⟨iY,ad₃,S3,C3,T3,V3⟩:=q;have V1:=V1.step (T2.trans T3);have V2:=V2.step T3;have T:=(T1.trans T2).trans T3;have F3:=hF.step T;clear h2;refine Bu (M4 h4) λj st c' m zr4 e2 hc hm hf hfl eW zr11=>?_;subst zr4;subst zr11;rw[e2]at V3;refine V3.strI λt3=>?_;refine V2.ownI λa e=>?_;clear V2 V3 h4;rw[oK]at hc;refine rP (C3.all.get e) λc'' hc' oo g hg qq=>?_;rw[hc]at hc';clear hg;obtain rfl:=aC hc';rw[hf,hm]at qq;obtain⟨r1,r2,r3⟩:=qq;have V1':VR iY [] y.1 lF:=V1.down (AN hfl);obtain⟨kvs,k1,k2⟩:=rF (prog:=prog) (S3.raw r1) r2;refine tJ (id k1) λ_ _ _ _ _ _ _ _ hnd=>?_;have hl:=k2.length;refine wpAny_setItem_pairs (strKind_is prog w st t3) k1 (λh' hm' hs=>?_) (aR (by lia:kvs.length<=1000) (by decide))
 refine lY (xB hm' (Mi k2 hnd st V1')) λo' p1 p2 p3=>?_;have E:=(gW (X:=[]) (G.raw o') ad₃ r1 (.inl (List.mem_of_getElem? e))).ext;have T4:Step [] iY (iZ iY a (some (.raw o'))) ad₃ ad₃:=gW _ ad₃ r1 (.inl (List.mem_of_getElem? e));exact⟨_,ad₃,S3.set (s':={lR with heap:=h',toks:=lR.toks+1}) r1 hs p1,C3.setAt e r1 ⟨o',.dct (lK st y.1 m) o',rfl,bK ..,p2.mono E,p3⟩,(T.trans T4).wr envM,F3.step T4,rfl⟩
theorem EE(hE:EnvOk envM sc){m n:Str}{q r tp vp:Pos}{k l:Nat}{a b:Expr}(hm:cJ m sc.names=some .local)(hn:cJ n sc.names=some .local)(hr:r.line=q.line)(f5:m≠n)(hst:gE [a,b]=true)
  (hf:[a,b].all (foldedForSure 8)=false) (hc:[a,b].all (constantsAlone 8)=false):swappedStores [.Tuple [.Name m q,.Name n r] k tp] (.Tuple [a,b] l vp) envM=pure (some [m,n]):=by
 have km:=eG hE hm;have kn:=eG hE hn;have bk:(envM.blockKind != .function)=false:=by unfold Env.blockKind;rw[hE.kind];rfl
 have e1:(envM.kindOf m==some .local&&q.line==q.line)=true:=by rw[km];exact aL.mpr ⟨rfl,beq_self_eq_true _⟩
 have e2:(envM.kindOf n==some .local&&r.line==q.line)=true:=by rw[kn,hr];exact aL.mpr ⟨rfl,beq_self_eq_true _⟩
 have ed:[m,n].eraseDups.length=2:=by
  have:(n==m)=false:=cK.mpr (Ne.symm f5);have h2:(m==n)=false:=cK.mpr f5;simp[List.eraseDups_cons,this,h2,f5,Ne.symm f5]
 have hn:∀f:Expr->Option Str,f (.Name m q)=some m->f (.Name n r)=some n->[Expr.Name m q,.Name n r].filterMap f=[m,n]:=λf h1 h2=>by rw[List.filterMap_cons_some h1,List.filterMap_cons_some h2];rfl
 refine(if_neg λh=>bX (bk.symm.trans h)).trans ((if_neg λhh=>?_).trans ?_)
 ·rcases cP.mp hh with hh|hh
  ·clear hc hf;induction a using PySem.Expr.casesOn<;>first|(exact bX hst;done)|(exact bX hh;done)
  ·have:=(mS hst envM).2;clear hc hf hst;induction b using PySem.Expr.casesOn<;>first|(exact bX this;done)|(exact bX hh;done)
 ·dsimp only;rw[hn _ (if_pos e1) (if_pos e2)];exact(if_neg λh=>by rw[ed]at h;exact bX h).trans ((if_neg λh=>bX (hf.symm.trans h)).trans (if_neg λh=>bX (hc.symm.trans h)))
end
set_option tactic.hygienic false
theorem Yk(P:Params):(nsIn (Kf P) mainGlobals pV==some none&&bootBuiltins pV==some (.type "range")&&!(pV==("__name__":Str))&&!(pV==("__debug__":Str)))=true:=by kernel_rfl!
section
variable{prog:Program}{w:World}{s₀ s s':Shared}{γ bP:Gh}{ad dU:List Addr}{cs cW:Cs}{A:Around}{d:Nat}{cf:cO}{v:V}{u:Value}{envM cenv:Env}{sc dA:Scope}{env env':Ev}{r:Rec}{rv:Option V}{f:Flow}{it:Addr}{vs:List V}{i:Nat}
theorem Pf{j k:Nat}(h:j≠k)(a b:V)(env:Ev):∀i v,dZ i (fO k b (fO j a env))=some v->dZ i (fO j a (fO k b env))=some v:=by
 intro i v e;rw[jB,jB]at e⊢;by_cases h1:i=k
 ·subst h1;rw[if_pos rfl]at e;rw[if_neg (Ne.symm h),if_pos rfl];exact e
 ·rw[if_neg h1]at e;by_cases h2:i=j
  ·clear h;subst h2;rw[if_pos rfl]at e⊢;exact e
  ·rw[if_neg h2]at e⊢;rw[if_neg h1];exact e
theorem Pg(hh:A.handled=none)(hE:EnvOk envM sc){m n:Str}{q rr tp vp p:Pos}{k l:Nat}{a b:Expr}{i j:Nat}{fa fb:Ev->Cs->Option (V×Cs)}(hm:cJ m sc.names=some .local)(hn:cJ n sc.names=some .local)(hr:rr.line=q.line)(f5:m≠n)(hst:gE [a,b]=true)
  (hf:[a,b].all (foldedForSure 8)=false) (hc:[a,b].all (constantsAlone 8)=false) (hi:mQ m=some i) (hj:mQ n=some j) (ha:e8 prog w s₀ A envM a fa) (hb:e8 prog w s₀ A envM b fb):
  sQ prog w s₀ A envM (.Assign [.Tuple [.Name m q,.Name n rr] k tp] (.Tuple [a,b] l vp) p) (λenv cs=>(fa env cs).bind λp=>(fb env p.2).map λq=>(none,fO j q.1 (fO i p.1 env),q.2)):=λs γ ad env cs rv env' cW hS hC hF h=>by
 refine bH h ?_;clear h;intro y h1 h;refine eV h ?_;clear h;intro z h2 h;refine Fo h ?_;have hij:i≠j:=λe=>f5 (by subst e;exact rT hi hj)
 refine Assign_Tuple_swapped (names:=[m,n]) (Tuple_ (args_cons (aD (ha s γ ad env cs _ _ hS hC hF h1) (λua bZ q=>?_) λ_ _ z=>z) (mS hst envM).1)) rfl (EE hE hm hn hr f5 hst hf hc);obtain⟨aU,bN,S1,C1,T1,V1⟩:=q;refine args_cons (aD (hb bZ aU bN env _ _ _ S1 C1 (hF.step T1) h2) (λub cZ q=>args_nil ?_) λ_ _ z=>z) (mS (mS hst envM).2 envM).1;obtain⟨cL,eS,S2,C2,T2,V2⟩:=q;refine wpAny_newTuple (hsz:=(by decide:2<=sizeLine)) ?_
 have T12:=T1.trans T2;have F2:=hF.step T12;have hfree:=S2.free;have S3:=S2.alloc (s':={cZ with heap:=cZ.heap.push {cls:=.type "tuple",data:=.seq #[ua,ub]}}) {cls:=.type "tuple",data:=.seq #[ua,ub]} rfl
 have T3:Step [] cL (iZ cL cZ.heap.objs.size (some (.raw {cls:=.type "tuple",data:=.seq #[ua,ub]}))) eS eS:=d6 _ eS hfree;have F3:=F2.step T3;have C3:=C2.alloc hfree (g:=.raw {cls:=.type "tuple",data:=.seq #[ua,ub]});refine unpackItems_tuple (items:=#[ua,ub]) hh ⟨_,S3.raw (bK ..),rfl,0,rfl⟩ λh' he=>?_;obtain⟨ol,hol⟩:=F3.locRaw;have S4:=S3.grow' (s':={cZ with heap:=h'}) hol λb o e=>he b o (eU (Heap.lt_size e)) e
 have Va:=(V1.step T2).step T3;have Vb:=V2.step T3;show wpAny _ _ (do holding [ua] (bindName envM n ub);(do holding [] (bindName envM m ua);pure ())) _ _ _
 refine bF (wpAny_holding (aD (wpAny_bindName (jE hE S4 F3 (eG hE hn) hj Vb)) (λ_ bZ z=>?_) λ_ _ z=>z));obtain⟨γ₄,S5,T5,F5⟩:=z;have C5:=C3.calledX T5 λa ha=>by rw[aN.mp ha];exact F3.nLoc
 refine bF (wpAny_holding (aD (wpAny_bindName (jE hE S5 F5 (eG hE hm) hi (Va.step (T5.calledX eS)))) (λ_ cZ z=>?_) λ_ _ z=>z));obtain⟨γ₅,S6,T6,F6⟩:=z;have C6:=C5.calledX T6 λa ha=>by rw[aN.mp ha];exact F3.nLoc
 exact wpAny_pure ⟨γ₅,eS,S6,C6,((T12.trans T3).wr envM).trans ((T5.wrL eS).trans (T6.wrL eS)),F6.weaken (Pf hij _ _ env),rfl⟩
theorem Ph{t:Expr}{p:Pos}{ft:Ev->Cs->Option (Bool×Cs)}(ht:rR prog w s₀ A envM t ft):sQ prog w s₀ A envM (.Assert t none p) (λenv cs=>(ft env cs).bind λp=>bif p.1 then some (none,env,p.2)else none):=λs γ ad env cs rv env' cW hS hC hF h=>by
 refine bH h ?_;clear h;intro x h1 h;refine dJ h ?_;clear h;intro hx h;refine DZ h ?_;refine wpAny_Assert_holds (aD (ht s γ ad env cs _ _ hS hC hF h1) (λc bZ q=>?_) λ_ _ z=>z);obtain⟨rfl,aU,bN,S1,C1,T1⟩:=q;exact⟨hx,aU,bN,S1,C1,T1.wr envM,hF.step T1,rfl⟩
def gX(envM:Env):Prop:=∀c∈envM.cells.map (·.2),∃x,envM.cells.lookup x=some c
def sG(prog:Program)(w:World)(s₀:Shared)(A:Around)(r:Rec):Prop:=∀(n:Nat) (sc:Scope) (c:Stmt) (envM:Env),EnvOk envM sc->gX envM->sQ prog w s₀ A envM c (λenv cs=>r.ex (Ar n sc c) env cs)
theorem zL{n:Nat}(IX:sG prog w s₀ A r)(hE:EnvOk envM sc)(hCA:gX envM):∀{body:List Stmt} {s:Shared} {γ:Gh} {ad:List Addr} {env:Ev} {cs:Cs} {rv:Option V} {env':Ev} {cW:Cs},St w s₀ γ s->CsOk w γ ad cs->FmOk γ ad envM env->uI r (body.map (Ar n sc)) env cs=some (rv,env',cW)->
  wpAny (model prog w) A (execs body envM) (PX w s₀ γ ad envM rv env' cW) fW s:=by
 intro body;induction body with
 |nil=>
  intro s γ ad env cs rv env' cW hS hC hF h;refine DZ h ?_;exact wpAny_execs_nil (.next hS hC hF)
 |cons c rest ih=>
  intro s γ ad env cs rv env' cW hS hC hF h;refine bH h ?_;clear h;intro x h1 h;obtain⟨x1,x2,x3⟩:=x;refine wpAny_execs_cons (aD (IX n sc c envM hE hCA s γ ad env cs _ _ _ hS hC hF h1) (λf bZ q=>?_) λ_ _ z=>z);obtain⟨aU,bN,S1,C1,T1,F1,hf⟩:=q;induction x1 using Option.casesOn with
  |none=>
   replace hf:_=Flow.next:=hf;subst hf;exact aD (ih S1 C1 F1 h) (λ_ _ z=>PX.trans T1 z) λ_ _ z=>z
  |some v=>
   refine i8 (hf) λu zr1 V1=>?_;subst zr1;clear h1;refine DZ h ?_;exact⟨aU,bN,S1,C1,T1,F1,u,rfl,V1⟩
theorem Yl{n:Nat}(IX:sG prog w s₀ A r)(hE:EnvOk envM sc)(hCA:gX envM){t:Expr}{a b:List Stmt}{p:Pos}{ft:Ev->Cs->Option (Bool×Cs)}(ht:rR prog w s₀ A envM t ft):
  sQ prog w s₀ A envM (.If t a b p) (λenv cs=>(ft env cs).bind λp=>bif p.1 then uI r (a.map (Ar n sc)) env p.2 else uI r (b.map (Ar n sc)) env p.2):=λs γ ad env cs rv env' cW hS hC hF h=>by
 refine bH h ?_;clear h;intro x h1 h;refine wpAny_If (aD (ht s γ ad env cs _ _ hS hC hF h1) (λc bZ q=>?_) λ_ _ z=>z);obtain⟨rfl,aU,bN,S1,C1,T1⟩:=q;induction hx:x.1 using Bool.casesOn with
 |true=>
  rw[hx]at h;exact aD (zL IX hE hCA S1 C1 (hF.step T1) h) (λ_ _ z=>PX.trans (T1.wr envM) z) λ_ _ z=>z
 |false=>
  rw[hx]at h;exact aD (zL IX hE hCA S1 C1 (hF.step T1) h) (λ_ _ z=>PX.trans (T1.wr envM) z) λ_ _ z=>z
def RX(w:World)(s₀:Shared)(γ:Gh)(ad:List Addr)(envM:Env)(rv:Option V)(env':Ev)(cW:Cs)(rr:Result)(s':Shared):Prop:=∃f,rr=.ok f/\PX w s₀ γ ad envM rv env' cW f s'
structure WI(w:World)(s₀:Shared)(γ:Gh)(ad:List Addr)(envM:Env)(fs:Nat->Ev->Cs->LH)(fin:Option V×Ev×Cs)(m:Nat)(bP:Gh)(dU:List Addr)(lB:Ev)(kT:Cs)(s':Shared):Prop where
 S:St w s₀ bP s'
 C:CsOk w bP dU kT
 T:Step (pC envM) γ bP ad dU
 F:FmOk bP dU envM lB
 h:fs m lB kT=some fin
inductive WN(P:Nat->Gh->List Addr->Ev->Cs->Shared->Prop)(n:Nat)(s':Shared):Prop
 |mk (bP:Gh) (dU:List Addr) (lB:Ev) (kT:Cs) (h:P n bP dU lB kT s')
theorem EF{n:Nat}(IX:sG prog w s₀ A r)(hE:EnvOk envM sc)(hCA:gX envM){t:Expr}{body:List Stmt}{x:X}(ht:rR prog w s₀ A envM t (λenv cs=>r.ts x env cs)){env':Ev}{cW:Cs}
  {aU:Gh} {bN:List Addr} {lB:Ev} {kT:Cs} {m:Nat} (H:WI w s₀ γ ad envM (mU r x (body.map (Ar n sc))) (rv,env',cW) m aU bN lB kT s) {K0 K1:Flow->Shared->Prop}
  (k0:∀bP dU s',St w s₀ bP s'->CsOk w bP dU cW->Step (pC envM) γ bP ad dU->FmOk bP dU envM env'->rv=none->K0 .next s')
  (kN:∀m' bP dU env₂ cs₂ s',m'<m->WI w s₀ γ ad envM (mU r x (body.map (Ar n sc))) (rv,env',cW) m' bP dU env₂ cs₂ s'->K1 .next s')
  (kR:∀bP dU u v s',St w s₀ bP s'->CsOk w bP dU cW->Step (pC envM) γ bP ad dU->FmOk bP dU envM env'->rv=some v->VR bP [] v u->K1 (.ret u) s'):
  wpAny (model prog w) A (isTrue t envM (eval t envM)) (λb cZ=>if b then wpAny (model prog w) A (execs body envM) K1 fW cZ else wpAny (model prog w) A (execs [] envM) K0 fW cZ) fW s:=by
 obtain⟨S1,C1,T1,F1,h⟩:=H;induction m using Nat.casesOn with
 |zero=>exact aY h
 |succ m=>
  refine bH h ?_;clear h;intro p h1 h;refine aD (ht s aU bN lB kT _ _ S1 C1 F1 h1) (λc cZ q=>?_) λ_ _ z=>z.elim;obtain⟨rfl,cL,eS,S2,C2,T2⟩:=q;obtain⟨p1,p2⟩:=p;induction p1 using Bool.casesOn with
  |true=>
   refine bH h ?_;clear h;intro q h2 h;obtain⟨q1,q2,q3⟩:=q;refine aD (zL IX hE hCA S2 C2 (F1.step T2) h2) (λf lR z=>?_) λ_ _ z=>z.elim;obtain⟨iY,ad₃,S3,C3,T3,F3,hf⟩:=z;have TT:=(T1.trans (T2.wr envM)).trans T3;induction q1 using Option.casesOn with
   |none=>
    rw[show f=Flow.next from hf];exact kN m iY ad₃ q2 q3 lR (fL m) ⟨S3,C3,TT,F3,h⟩
   |some v=>
    refine i8 (hf) λu zr1 V3=>?_;subst zr1;obtain⟨e1,e2⟩:=Prod.mk.inj (aC h);obtain⟨e3,e4⟩:=Prod.mk.inj e2;rw[e3]at F3;rw[e4]at C3;exact kR iY ad₃ u v lR S3 C3 TT F3 e1.symm V3
  |false=>
   obtain⟨e1,e2⟩:=Prod.mk.inj (aC h);obtain⟨e3,e4⟩:=Prod.mk.inj e2;have F2:=F1.step T2;rw[e3]at F2;rw[e4]at C2;exact wpAny_execs_nil (k0 cL eS cZ S2 C2 (T1.trans (T2.wr envM)) F2 e1.symm)
theorem M5{n:Nat}(IX:sG prog w s₀ A r)(hE:EnvOk envM sc)(hCA:gX envM){t:Expr}{body:List Stmt}{x:X}(ht:rR prog w s₀ A envM t (λenv cs=>r.ts x env cs)){fuel:Nat}{env':Ev}{cW:Cs}(hS:St w s₀ γ s)(hC:CsOk w γ ad cs)(hF:FmOk γ ad envM env)
  (h:mU r x (body.map (Ar n sc)) fuel env cs=some (rv,env',cW)):codeAny (model prog w) A (.whileLoop t body [] envM) (RX w s₀ γ ad envM rv env' cW) s:=by
 refine codeAny_whileLoop (WN (WI w s₀ γ ad envM (mU r x (body.map (Ar n sc))) (rv,env',cW))) (λm bZ hI=>?_) fuel ⟨γ,ad,env,cs,hS,hC,.refl γ ad,hF,h⟩;obtain⟨aU,bN,lB,kT,H⟩:=hI;refine aD (EF IX hE hCA ht H (K0:=λf s'=>RX w s₀ γ ad envM rv env' cW (.ok f) s') (K1:=λf lR=>match f with
     |.next|.cont=>∃k,k<m/\WN (WI w s₀ γ ad envM (mU r x (body.map (Ar n sc))) (rv,env',cW)) k lR
     |.brk=>RX w s₀ γ ad envM rv env' cW (.ok .next) lR
     |.ret v=>RX w s₀ γ ad envM rv env' cW (.ok (.ret v)) lR) ?_ ?_ ?_) ?_ λ_ _ z=>z.elim
 ·exact λbP dU s' a b c d e=>⟨.next,rfl,bP,dU,a,b,c,d,by clear H h;subst e;rfl⟩
 ·exact λm' bP dU env₂ cs₂ s' a b=>⟨m',a,bP,dU,env₂,cs₂,b⟩
 ·exact λbP dU u v s' a b c d e f=>⟨.ret u,rfl,bP,dU,a,b,c,d,by clear H h;subst e;exact⟨u,rfl,f⟩⟩
 ·intro rr bZ z;induction rr using Bool.casesOn with
  |false=>exact aD z (λ_ _ z=>z) λ_ _ z=>z.elim
  |true=>exact aD z (λ_ _ z=>z) λ_ _ z=>z.elim
theorem RX.post{rr:Result}{E:Value->Shared->Prop}(h:RX w s₀ γ ad envM rv env' cW rr s'):match rr with|.ok f=>PX w s₀ γ ad envM rv env' cW f s'|.error e=>E e s':=by
 obtain⟨f,rfl,h⟩:=h;exact h
theorem M6{x:Str}{p:Pos}(hS:St w s₀ γ s)(h:ItK γ it vs i (.Name x p)){y:V}(hx:vs[i]?=some y):
  wpAny (model prog w) A (pyNext (.ref it)) (λr bZ=>∃u,r=some u/\PI w s₀ γ [] it vs i (.Name x p) y u bZ) fW s:=by
 induction h using ItK.casesOn with
 |@list o l a b c e=>
  refine nG (hS.ok.at_ _ _ e) λol h1 h2 vv n h3 h4=>?_;obtain⟨ux,e1,e2⟩:=h4.get hx;refine wpAny_pyNext_list_item ⟨o,hS.raw a,b,c⟩ (mW h1 h2 h3) (by simpa using e1) λh' hi hs=>⟨ux,rfl,?_⟩
  refine lY (hi) λo' p1 p2 p3=>?_;have T:Step [it] γ (iZ γ it (some (.raw o'))) [] []:=gW (.raw o') [] a (.inr (by simp))
  exact⟨_,hS.set a hs p1,T,.list (bK ..) p2 p3 (T.ext _ _ e rfl),e2.mono T.ext λi a e=>by simp at e⟩
 |items a b c d e=>cases e
 |@range lo n a hv=>
  subst hv;rw[rY]at hx;by_cases hin:i<n
  ·rw[if_pos hin]at hx;obtain rfl:=aC hx;refine wpAny_pyNext_range_item (x:=lo+i) (left:=(n:Int)-i) (step:=1) (hS.raw a) (by lia) λh' hi hs=>⟨_,rfl,?_⟩
   have T:Step [it] γ (iZ γ it (some (.raw (sY (lo+i+1) ((n:Int)-i-1))))) [] []:=gW _ [] a (.inr (by simp))
   refine⟨_,hS.set (s':={s with heap:=h',toks:=s.toks+1}) a hs hi,T,.range ?_ rfl,.int ..⟩
   rw[show lo+((i+1:Nat):Int)=lo+i+1 by push_cast;lia,show(n:Int)-((i+1:Nat):Int)=n-i-1 by push_cast;lia,bK];rfl
  ·rw[if_neg hin]at hx;exact aY hx
structure FI(w:World)(s₀:Shared)(γ:Gh)(ad:List Addr)(envM:Env)(it:Addr)(vs:List V)(tg:Expr)(fs:List V->Ev->Cs->LH)(fin:Option V×Ev×Cs)(bP:Gh)(dU:List Addr)(lB:Ev)(kT:Cs)(i:Nat)(s':Shared):Prop where
 hi:i<=vs.length
 S:St w s₀ bP s'
 C:CsOk w bP dU kT
 T:Step (it::pC envM) γ bP ad dU
 F:FmOk bP dU envM lB
 I:ItK bP it vs i tg
 n:it∉dU
 h:fs (vs.drop i) lB kT=some fin
inductive FN(P:Gh->List Addr->Ev->Cs->Nat->Shared->Prop)(k n:Nat)(s':Shared):Prop
 |mk (bP:Gh) (dU:List Addr) (lB:Ev) (kT:Cs) (i:Nat) (hn:n=k-i) (h:P bP dU lB kT i s')
def RvOk(γ:Gh)(rv:Option V)(f:Flow):Prop:=match rv with
 |none=>f=.next
 |some v=>∃u,f=.ret u/\VR γ [] v u
inductive FQ(w:World)(s₀:Shared)(γ:Gh)(ad X:List Addr)(envM:Env)(rv:Option V)(env':Ev)(cW:Cs)(rr:Result)(s':Shared):Prop
 |mk (f:Flow) (hr:rr=.ok f) (bP:Gh) (dU:List Addr) (S:St w s₀ bP s') (C:CsOk w bP dU cW) (T:Step X γ bP ad dU) (F:FmOk bP dU envM env') (hf:RvOk bP rv f)
def FT(M:Model)(A:Around)(tg:Expr)(body:List Stmt)(env:Env)(N:Value->Shared->Prop)(K0 K1:Flow->Shared->Prop)(r:Option Value)(bZ:Shared):Prop:=match r with
 |none=>wpAny M A (execs [] env) K0 N bZ
 |some v=>wpAny M A (assign tg env v) (λ_ cZ=>wpAny M A (execs body env) K1 N cZ) N bZ
theorem M7{n:Nat}(hh:A.handled=none)(IX:sG prog w s₀ A r)(hE:EnvOk envM sc)(hCA:gX envM){x:Str}{p:Pos}{t:List Nat}{body:List Stmt}{env':Ev}{cW:Cs}(ht:ErT sc (.Name x p) t)(hw:it∉pC envM)
  {aU:Gh} {bN:List Addr} {lB:Ev} {kT:Cs} {i:Nat} (H:FI w s₀ γ ad envM it vs (.Name x p) (gV r t (body.map (Ar n sc))) (rv,env',cW) aU bN lB kT i s) {N:Value->Shared->Prop} {K0 K1:Flow->Shared->Prop}
  (k0:∀bP dU s',St w s₀ bP s'->CsOk w bP dU cW->Step (it::pC envM) γ bP ad dU->FmOk bP dU envM env'->rv=none->K0 .next s')
  (kN:∀bP dU env₂ cs₂ s',i<vs.length->FI w s₀ γ ad envM it vs (.Name x p) (gV r t (body.map (Ar n sc))) (rv,env',cW) bP dU env₂ cs₂ (i+1) s'->K1 .next s')
  (kR:∀bP dU u v s',St w s₀ bP s'->CsOk w bP dU cW->Step (it::pC envM) γ bP ad dU->FmOk bP dU envM env'->rv=some v->VR bP [] v u->K1 (.ret u) s'):
  wpAny (model prog w) A (pyNext (.ref it)) (FT (model prog w) A (.Name x p) body envM N K0 K1) N s:=by
 obtain⟨hile,S1,C1,T1,F1,I1,i1,h⟩:=H;have nL:envM.locals≠it:=λz=>hw (by rw[<-z];exact aE)
 have nC:∀y c,envM.cells.lookup y=some c->c≠it:=λy c e z=>hw (by rw[<-z];exact aI _ (tQ e))
 by_cases hlt:i<vs.length
 ·have hx:vs[i]?=some vs[i]:=List.getElem?_eq_getElem hlt;rw[AP hx]at h;refine bH h ?_;clear h;intro env₂ h2 h;refine bH h ?_;clear h;intro q h3 h;obtain⟨q1,q2,q3⟩:=q;refine aD (M6 S1 I1 hx) (λrr cZ z=>?_) λ_ _ z=>z.elim;obtain⟨ux,rfl,cL,S2,T2,I2,V2⟩:=z;have T2':=T2.calledX bN;have C2:=C1.calledX T2 λa h=>by rw[aN.mp h];exact i1
  have F2:=F1.stepX T2' (by simpa using nL) (λy c e=>by simpa using nC y c e)
  refine aD (AO hh hE S2 F2 ht h2 V2) (λ_ lR z=>?_) λ_ _ z=>z.elim;obtain⟨iY,S3,T3,F3⟩:=z;have C3:=C2.calledX T3 λa h=>by rw[aN.mp h];exact F2.nLoc
  have I3:=I2.step (T3.calledX bN) i1 (by simpa using Ne.symm nL)
  refine aD (zL IX hE hCA S3 C3 F3 h3) (λf s₄ z=>?_) λ_ _ z=>z.elim;obtain⟨γ₄,ad₄,S4,C4,T4,F4,hf⟩:=z;obtain⟨oi,ri⟩:=I3.raw;have TT:Step (it::pC envM) γ γ₄ ad ad₄:=((T1.trans (T2'.widen (by simp))).trans ((T3.wrL bN).widen λa h=>aI _ h)).trans (T4.widen λa h=>aI _ h)
  induction q1 using Option.casesOn with
  |none=>
   rw[show f=Flow.next from hf];exact kN γ₄ ad₄ q2 q3 s₄ hlt ⟨hlt,S4,C4,TT,F4,I3.step T4 i1 hw,T4.out ri i1 hw,h⟩
  |some v=>
   refine i8 (hf) λu zr1 V4=>?_;subst zr1;obtain⟨e1,e2⟩:=Prod.mk.inj (aC h);obtain⟨e3,e4⟩:=Prod.mk.inj e2;rw[e3]at F4;rw[e4]at C4;exact kR γ₄ ad₄ u v s₄ S4 C4 TT F4 e1.symm V4
 ·have hx:vs[i]?=none:=List.getElem?_eq_none_iff.mpr (lP.mp hlt);rw[List.drop_eq_nil_of_le (lP.mp hlt)]at h;obtain⟨e1,e2⟩:=Prod.mk.inj (aC h);obtain⟨e3,e4⟩:=Prod.mk.inj e2;rw[e3]at F1;rw[e4]at C1;obtain⟨ol,rl⟩:=F1.locRaw;refine aD (Mr hh S1 I1 hx rl nL) (λrr cZ z=>?_) λ_ _ z=>z.elim;obtain⟨rfl,S2⟩:=z;obtain⟨o1,r1⟩:=I1.raw;have T2:Step [it] aU (iZ aU it (some .dead)) [] []:=tN [] r1 (by simp)
  have T2':=T2.calledX bN;exact wpAny_execs_nil (k0 _ bN cZ S2 (C1.calledX T2 (λa h=>by rw[aN.mp h];exact i1)) (T1.trans (T2'.widen (by simp))) (F1.stepX T2' (by simpa using nL) (λy c e=>by simpa using nC y c e)) e1.symm)
theorem M8{n:Nat}(hh:A.handled=none)(IX:sG prog w s₀ A r)(hE:EnvOk envM sc)(hCA:gX envM){x:Str}{p:Pos}{t:List Nat}{body:List Stmt}{env':Ev}{cW:Cs}(ht:ErT sc (.Name x p) t)(hS:St w s₀ γ s)(hC:CsOk w γ ad cs)(hF:FmOk γ ad envM env)
  (hI:ItK γ it vs 0 (.Name x p)) (hi:it∉ad) (hw:it∉pC envM) (h:gV r t (body.map (Ar n sc)) vs env cs=some (rv,env',cW)):
  codeAny (model prog w) A (.forLoop (.Name x p) (.ref it) body [] envM) (FQ w s₀ γ ad (it::pC envM) envM rv env' cW) s:=by
 refine codeAny_forLoop (FN (FI w s₀ γ ad envM it vs (.Name x p) (gV r t (body.map (Ar n sc))) (rv,env',cW)) vs.length) (λm s' hJ=>?_) (vs.length) ⟨γ,ad,env,cs,0,rfl,d3 _,hS,hC,.refl γ ad,hF,hI,hi,h⟩ (λ_=>rfl);obtain⟨aU,bN,lB,kT,i,rfl,H⟩:=hJ;refine aD (M7 hh IX hE hCA ht hw H (N:=fW) (K0:=λf s'=>FQ w s₀ γ ad (it::pC envM) envM rv env' cW (.ok f) s') (K1:=λf lR=>match f with
     |.next|.cont=>∃m,m<vs.length-i/\FN (FI w s₀ γ ad envM it vs (.Name x p) (gV r t (body.map (Ar n sc))) (rv,env',cW)) vs.length m lR
     |.brk=>FQ w s₀ γ ad (it::pC envM) envM rv env' cW (.ok .next) lR
     |.ret v=>FQ w s₀ γ ad (it::pC envM) envM rv env' cW (.ok (.ret v)) lR) ?_ ?_ ?_) ?_ λ_ _ z=>z.elim
 ·exact λbP dU s' a b c d e=>⟨.next,rfl,bP,dU,a,b,c,d,by clear H h;subst e;rfl⟩
 ·exact λbP dU env₂ cs₂ s' a b=>⟨vs.length-(i+1),Nat.sub_lt_sub_left a (fL i),bP,dU,env₂,cs₂,i+1,rfl,b⟩
 ·exact λbP dU u v s' a b c d e f=>⟨.ret u,rfl,bP,dU,a,b,c,d,by clear H h;subst e;exact⟨u,rfl,f⟩⟩
 ·intro rr bZ z;induction rr using Option.casesOn with
  |none=>exact aD z (λ_ _ z=>z) λ_ _ z=>z.elim
  |some v=>exact aD z (λ_ _ z=>aD z (λ_ _ z=>z) λ_ _ z=>z.elim) λ_ _ z=>z.elim
end
set_option tactic.hygienic true
theorem A0{sc:Scope}{it:Expr}{args:List Expr}(h:wF sc it=some args):∃f q p,it=.Call (.Name f q) args [] p/\lC f pV=true/\gE args=true/\cJ f sc.names=some .globalImplicit:=by
 refine Oo h nS λfn as kws p e h=>On h nS λf q ef h=>dJ h λc h=>fF c λc c4=>fF c λc c3=>fF c λc1 c2=>?_;have:=aC h;clear h;clear h;subst this;exact⟨f,q,p,by rw[e,ef,eI.mp c3],c1,c2,lL c4⟩
theorem IF{P:List V->Prop}{l:List V}(k1:∀b,(bif decide (-1000<b)&&decide (b<1000)then some (eK 0 b.toNat)else none)=some l->P [.int b])
  (k2:∀a b,(bif decide (0<=a)&&decide (a<1000)&&decide (-1000<b)&&decide (b<1000)then some (eK a (b-a).toNat)else none)=some l->P [.int a,.int b]) {vs:List V} (h:l7 vs=some l):P vs:=by
 induction vs using List.casesOn with
 |nil=>exact aY h
 |cons a r=>
  induction a using V.casesOn with
  |int x=>
   induction r using List.casesOn with
   |nil=>exact k1 x h
   |cons b r=>
    induction b using V.casesOn with
    |int y=>
     induction r using List.casesOn with
     |nil=>exact k2 x y h
     |cons _ _=>exact aY h
    |_=>exact aY h
  |_=>exact aY h
theorem Dx{vs l:List V}(h:l7 vs=some l):(∃b,vs=[.int b]/\ -1000<b/\b<1000/\l=eK 0 b.toNat)\/(∃a b,vs=[.int a,.int b]/\0<=a/\a<1000/\ -1000<b/\b<1000/\l=eK a (b-a).toNat):=by
 refine IF (P:=λvs=>(∃b,vs=[.int b]/\ -1000<b/\b<1000/\l=eK 0 b.toNat)\/(∃a b,vs=[.int a,.int b]/\0<=a/\a<1000/\ -1000<b/\b<1000/\l=eK a (b-a).toNat)) (λb h=>?_) (λa b h=>?_) h
 ·refine dJ h ?_;clear h;clear h;intro hc h;simp only[a9,decide_eq_true_eq]at hc;exact .inl ⟨b,rfl,hc.1,hc.2,(aC h).symm⟩
 ·refine dJ h ?_;clear h;clear h;intro hc h;simp only[a9,decide_eq_true_eq]at hc;exact .inr ⟨a,b,rfl,hc.1.1.1,hc.1.1.2,hc.1.2,hc.2,(aC h).symm⟩
section
variable{prog:Program}{w:World}{s₀ s s':Shared}{γ bP:Gh}{ad dU:List Addr}{cs cW:Cs}{A:Around}{d:Nat}{cf:cO}{v:V}{u:Value}{envM cenv:Env}{sc dA:Scope}{env env':Ev}{r:Rec}{rv:Option V}{f:Flow}{it:Addr}{vs:List V}{i:Nat}
theorem M9(hF:FmOk γ ad envM env)(hCA:gX envM)(h:dX γ it):it∉pC envM:=λz=>by
 rcases a7.mp z with z|z
 ·obtain⟨o,e⟩:=hF.locRaw;exact h.ne e (by intro z;cases z) z.symm
 ·obtain⟨x,hx⟩:=hCA _ z;refine kW (hF.cel x _ hx) λo cv e _=>?_;exact h.ne e (by intro z;cases z) rfl
theorem VR.isInt'{i:Int}(h:VR γ ad (.int i) u):∃t,u=.int i t:=h.inv
theorem IG(hS:St w s₀ γ s)(hC:CsOk w γ ad cs){a b:Int}{t t1 t2 t3:Tok}{n:Nat}(ha:0<=a)(ha':a<1000)(hb: -1000<b)(hb':b<1000)(hn:n=(b-a).toNat){x:Str}{p:Pos}:
  wpAny (model prog w) A (pyIter (.ref s.heap.objs.size)) (λitv s'=>∃it bP dU,itv=.ref it/\St w s₀ bP s'/\CsOk w bP dU cs/\Step [] γ bP ad dU/\it∉dU/\it∉[]/\dX γ it/\ItK bP it (eK a n) 0 (.Name x p)) fW
   {s with heap:=s.heap.push {cls:=.type "range",data:=.fields #[.int a t1,.int b t2,.int 1 t3]},toks:=t}:=by
 have hf:=hS.free;have S1:=hS.alloc (s':={s with heap:=s.heap.push {cls:=.type "range",data:=.fields #[.int a t1,.int b t2,.int 1 t3]},toks:=t}) {cls:=.type "range",data:=.fields #[.int a t1,.int b t2,.int 1 t3]} rfl
 have T1:Step [] γ (iZ γ s.heap.objs.size (some (.raw {cls:=.type "range",data:=.fields #[.int a t1,.int b t2,.int 1 t3]}))) ad ad:=d6 _ ad hf;have C1:=hC.alloc hf (g:=.raw {cls:=.type "range",data:=.fields #[.int a t1,.int b t2,.int 1 t3]});refine wpAny_pyIter_range (IsRange.new ..) (small_one (by lia) (by lia) (by lia) (by lia)) ?_
 have hf1:=S1.free;have hrs:Builtin.Range.rangeSize a b 1=n:=by rw[rangeSize_one];split<;>lia
 have hor:({cls:=.type "range_iterator",data:=.fields #[rawInt a,rawInt (Builtin.Range.rangeSize a b 1),rawInt 1]}:Obj)=sY (a+((0:Nat):Int)) ((n:Int)-((0:Nat):Int)):=by
  rw[hrs];simp[sY]
 rw[hor];refine⟨_,_,ad,rfl,S1.alloc (s':={s with heap:=(s.heap.push {cls:=.type "range",data:=.fields #[.int a t1,.int b t2,.int 1 t3]}).push _,toks:=t}) _ rfl,C1.alloc hf1,T1.trans (d6 _ ad hf1),C1.notIn hf1,by simp,(T1.dom _ hf1).resolve_right (by simp),.range (bK ..) rfl⟩
theorem MA{n:Nat}(hh:A.handled=none)(IX:sG prog w s₀ A r)(hE:EnvOk envM sc)(hCA:gX envM){x:Str}{px:Pos}{t:List Nat}{body:List Stmt}{aU:Gh}{bN:List Addr}{cZ:Shared}{itv:Value}{y2:Cs}(ht:ErT sc (.Name x px) t)(T1:Step [] γ aU ad bN)(F1:FmOk aU bN envM env)(h:gV r t (body.map (Ar n sc)) vs env y2=some (rv,env',cW))
  (z:∃it bP dU,itv=.ref it/\St w s₀ bP cZ/\CsOk w bP dU y2/\Step [] aU bP bN dU/\it∉dU/\it∉[]/\dX aU it/\ItK bP it vs 0 (.Name x px)):
  codeAny (model prog w) A (.forLoop (.Name x px) itv body [] envM) (λrr s''=>match rr with|.ok f=>PX w s₀ γ ad envM rv env' cW f s''|.error e=>cameBackBy (model prog w) A envM fW e s'') cZ:=by
 refine C9 (z) λit cL eS e S2 C2 T2 i2 _ f2 I2=>?_;rw[e];refine codeAny_mono (M8 hh IX hE hCA ht S2 C2 (F1.step T2) I2 i2 (M9 F1 hCA f2) h) λrr lR z=>?_;clear hE hCA ht h S2 C2 I2 i2 F1;obtain⟨f,rfl,iY,ad₃,S3,C3,T3,F3,hf⟩:=z;refine⟨iY,ad₃,S3,C3,(T1.wr envM).trans (((T2.widen (by simp)).trans T3).shrink λa ha=>(a7.mp ha).imp (λ(e:a=it)=>e▸f2) id),F3,?_⟩
 cases rv<;>exact hf
theorem Pj{n:Nat}(hh:A.handled=none)(hB:Base w s₀)(IE:kO prog w s₀ A r)(IX:sG prog w s₀ A r)(hE:EnvOk envM sc)(hCA:gX envM){x:Str}{px p:Pos}{t:List Nat}{iter:Expr}{args:List Expr}{body:List Stmt}(ht:ErT sc (.Name x px) t)(hr:wF sc iter=some args):
  sQ prog w s₀ A envM (.For (.Name x px) iter body [] p) (λenv cs=>(Fx r env (args.map (er 20 sc)) cs).bind λp=>(l7 p.1).bind λl=>gV r t (body.map (Ar n sc)) l env p.2):=λs γ ad env cs rv env' cW hS hC hF h=>by
 refine bH h ?_;clear h;intro y h1 h;refine bH h ?_;clear h;intro l h2 h;obtain⟨y1,y2⟩:=y;refine Fp (A0 hr) λfn q pc ei hfn hns hsc=>?_;rw[B0.mp hfn]at ei hsc;rw[ei];clear hfn hr ei;refine A9 (hB.top) λp' lo mg mb T=>?_;have T':=T.keeps hS.keep;have hk:envM.kindOf pV=some .globalImplicit:=by rcases hE.names _ _ hsc with q|⟨q,_⟩<;>first|exact q|cases q
 have hm:=Yk w.params;simp only[a9,beq_iff_eq,Bool.not_eq_true',cK]at hm;obtain⟨⟨⟨r1,r2⟩,r3⟩,r4⟩:=hm;refine wpAny_For (s:=s) ?_ (λx=>rfl);show wpAny _ _ (do callWith pc (<-eval (.Name pV q) envM) [] (backTo pc (starEach args envM)) (backToKw pc (keywordEach [] envM))) _ _ _
 refine bF (Name_function_global hE.kind hk (loadGlobal_builtin (by rw[hE.globals];exact T'.g) (mg_none_of hB.K T.g r1) (by rw[hE.builtins];exact T'.b) ((T.builtins _ r3).trans r2) ?_) (cK.mpr r4))
 refine callWith_of (P:=λ_=>True) (by rw[Dp hns];rfl) (λhh X=>⟨.machine,.inr (.inl rfl),Looks.of_pure rfl⟩) (aD (sX (ks:=[]) (l:=[]) (kvs:=[]) (λe _=>IE 20 sc e envM hE) hns rfl (by simp) hS hC hF h1 rfl) (λa bZ z=>⟨trivial,?_⟩) λ_ _ z=>z.elim)
 refine tH (z) λaU bN S1 C1 T1 V1 K1=>?_;obtain⟨apos,akw⟩:=a;refine K1.nI ?_;clear K1;have F1:=hF.step T1;have fin:∀{a b:Int} {n':Nat} {t0 t1 t2 t3:Tok},0<=a->a<1000-> -1000<b->b<1000->n'=(b-a).toNat->l=eK a n'->
   wpAny (model prog w) A (pyIter (.ref bZ.heap.objs.size)) (λitv s'=>codeAny (model prog w) A (.forLoop (.Name x px) itv body [] envM) (λrr s''=>match rr with|.ok f=>PX w s₀ γ ad envM rv env' cW f s''|.error e=>cameBackBy (model prog w) A envM fW e s'') s') fW
    {bZ with heap:=bZ.heap.push {cls:=.type "range",data:=.fields #[.int a t1,.int b t2,.int 1 t3]},toks:=t0}:=λha ha' hb hb' hn hl=>
  aD (IG (x:=x) (p:=px) S1 C1 ha ha' hb hb' hn) (λitv cZ z=>MA hh IX hE hCA ht T1 F1 (hl▸h) z) λ_ _ z=>z
 clear hE hCA ht hF F1 hB IE IX h1;rcases Dx h2 with⟨b,e1,e2,e3,e4⟩|⟨a,b,e1,e2,e3,e4,e5,e6⟩
 ·rw[show y1=_ from e1]at V1;refine V1.I1 λu V1=>?_;obtain⟨tb,e⟩:=V1.isInt';rw[e];exact call_range_1 (fin (fI 0) (by decide) e2 e3 (by rw[Int.sub_zero]) e4)
 ·rw[show y1=_ from e1]at V1;refine V1.I2 λu u' V1 V2=>?_;obtain⟨ta,e⟩:=V1.isInt';obtain⟨tb,e'⟩:=V2.isInt';rw[e,e'];exact call_range_2 (fin e2 e3 e4 e5 rfl e6)
theorem Pk{n:Nat}(hh:A.handled=none)(IX:sG prog w s₀ A r)(hE:EnvOk envM sc)(hCA:gX envM){x:Str}{px p:Pos}{t:List Nat}{iter:Expr}{body:List Stmt}{fa:Ev->Cs->Option (V×Cs)}(ht:ErT sc (.Name x px) t)(hs:gD iter=true)(ha:e8 prog w s₀ A envM iter fa):
  sQ prog w s₀ A envM (.For (.Name x px) iter body [] p) (λenv cs=>(fa env cs).bind λp=>(j4 t p.1 p.2).bind λl=>gV r t (body.map (Ar n sc)) l.1 env l.2):=λs γ ad env cs rv env' cW hS hC hF h=>by
 refine bH h ?_;clear h;intro y h1 h;refine bH h ?_;clear h;intro l h2 h;refine wpAny_For (aD (ha s γ ad env cs _ _ hS hC hF h1) (λlF bZ q=>?_) λ_ _ z=>z) (sZ hs envM);obtain⟨aU,bN,S1,C1,T1,V1⟩:=q;have F1:=hF.step T1;refine aD (E8 S1 C1 ht V1 h2) (λitv cZ z=>?_) λ_ _ z=>z;refine pA (z) λit cL zr2 S2 C2 T2 f2 i2 I2 _=>?_;subst zr2;refine codeAny_mono (M8 hh IX hE hCA ht S2 C2 (F1.step T2) I2 i2 (M9 F1 hCA f2) h) λrr lR z=>?_;obtain⟨f,rfl,iY,ad₃,S3,C3,T3,F3,hf⟩:=z;exact⟨iY,ad₃,S3,C3,(T1.wr envM).trans (((T2.widen (by simp)).trans T3).shrink λa ha=>by
  clear T3 I2 i2;rcases a7.mp ha with rfl|ha
  ·exact .inl f2
  ·exact .inr ha),F3,by clear h;induction rv using Option.casesOn<;>exact hf⟩
theorem Pl{n:Nat}(IX:sG prog w s₀ A r)(hE:EnvOk envM sc)(hCA:gX envM){t:Expr}{body:List Stmt}{x:X}{fuel:Nat}{p:Pos}(ht:rR prog w s₀ A envM t (λenv cs=>r.ts x env cs)):
  sQ prog w s₀ A envM (.While t body [] p) (λenv cs=>mU r x (body.map (Ar n sc)) fuel env cs):=λs γ ad env cs rv env' cW hS hC hF h=>by
 refine wpAny_While (codeAny_mono (M5 IX hE hCA ht hS hC hF h) λrr lR z=>?_);obtain⟨f,rfl,z⟩:=z;exact z
end
section
variable{prog:Program}{w:World}{s₀ s s':Shared}{γ bP:Gh}{ad dU:List Addr}{cs cW:Cs}{A:Around}{d:Nat}{cf:cO}{v:V}{u:Value}{envM cenv:Env}{sc dA:Scope}{env env':Ev}{r:Rec}{rv:Option V}{f:Flow}{it:Addr}{vs:List V}{i:Nat}
def ExX(prog:Program)(w:World)(s₀:Shared)(A:Around)(envM:Env)(c:Stmt)(fuel:Nat)(r:Rec)(z:Y):Prop:=sQ prog w s₀ A envM c (λenv cs=>wC fuel r z env cs)
theorem MB(hh:A.handled=none)(IE:kO prog w s₀ A r)(hE:EnvOk envM sc)(fuel:Nat){a b e:Expr}{l:Nat}{p tp:Pos}:ExX prog w s₀ A envM (.Assign [.Tuple [a,b] l tp] e p) fuel r (LO sc a b e):=by
 refine Om fT λx px ea=>Om fT λy py eb=>Xy fT λvs k vp ee=>Ok fT λu v ev=>bQ fT λhc=>oQ fT λi hi=>oQ fT λj hj=>?_;subst ea eb ev;subst ee;simp only[a9,Bool.not_eq_true']at hc;obtain⟨⟨⟨⟨⟨⟨h1,h2⟩,h3⟩,h4⟩,h5⟩,h6⟩,h7⟩:=hc;exact Pg hh hE (nJ h1) (nJ h2) (aA h3) (λz=>by subst z;rw[B0.mpr rfl]at h4;exact jA h4) h5 h6 h7 hi hj (IE 20 sc u envM hE) (IE 20 sc v envM hE)
theorem Pm(IE:kO prog w s₀ A r)(hE:EnvOk envM sc)(fuel:Nat){t k e:Expr}{p q:Pos}:ExX prog w s₀ A envM (.Assign [.Subscript t k q] e p) fuel r (Q8 sc t k e):=by
 refine Om fT λx px et=>bQ fT λhc=>oQ fT λi hi=>fF hc λhc c=>fF hc λh2 _=>?_;subst et;refine Yj (fd:=λenv cs=>(dZ i env).map λv=>(v,cs)) h2 ?_ (λ_ _=>rfl) (IE 20 sc k envM hE) (IE 20 sc e envM hE);exact(cP.mp c).elim (λc=>(cP.mp c).elim (λc=>wH hE (lL c) (.inl rfl) hi) λc=>wH hE (lL c) (.inr (.inl rfl)) hi) λc=>wH hE (lL c) (.inr (.inr rfl)) hi
theorem Pn(hh:A.handled=none)(IE:kO prog w s₀ A r)(IC:(∀x env cs,r.ev x env cs=none)\/∃r',(r.ev=dI cf r')/\kO prog w s₀ A r'/\qA prog w s₀ A r')(hE:EnvOk envM sc)(fuel:Nat){t e:Expr}{p:Pos}:ExX prog w s₀ A envM (.Assign [t] e p) fuel r (Q9 sc t e):=by
 refine Om (Xy (subQ fT λd k q et=>et▸Pm IE hE fuel) λes l tp et=>Ok fT λa b ee=>et▸ee▸MB hh IE hE fuel) λx px et=>bQ fT λhc=>oQ fT λi hi=>?_;subst et;refine(cP.mp hc).elim (λh=>Yh hE (aL.mp h).1 (aL.mp h).2 hi (IE 20 sc e envM hE)) λh=>?_;show sQ prog w s₀ A envM _ (λenv cs=>(r.ev (er 20 sc e) env cs).map λp=>(none,fO i p.1 env,p.2));rcases IC with z|⟨r',z,IE',IT'⟩
 ·intro s γ ad env cs rv env' cW hS hC hF h;dsimp only at h;rw[z]at h;exact aY h
 ·rw[z];exact Pd hh IE' IT' hE h hi 19 cf
theorem Ym(hB:Base w s₀)(hR:Room A d 1)(IE:kO prog w s₀ A r)(IT:qA prog w s₀ A r)(IX:sG prog w s₀ A r)(IC:(∀x env cs,r.ev x env cs=none)\/∃r',(r.ev=dI cf r')/\kO prog w s₀ A r'/\qA prog w s₀ A r')(fuel:Nat)
  (n:Nat) (sc:Scope) (c:Stmt) (envM:Env) (hE:EnvOk envM sc) (hCA:gX envM):ExX prog w s₀ A envM c fuel r (Ar n sc c):=by
 induction n using Nat.casesOn with
 |zero=>exact fT
 |succ n=>
  induction c using PySem.Stmt.casesOn with
  |Return e p=>exact oQ fT λe q=>q▸Yg (IE 20 sc e envM hE)
  |Expr e p=>exact bQ fT λhc=>Pb hE hc (IE 20 sc e envM hE)
  |Pass p=>exact Pc
  |Assign ts e p=>exact GR fT λt q=>q▸Pn hR.hand IE IC hE fuel
  |AugAssign t op e p=>
   refine Om fT λx px et=>bQ fT λhc=>oQ fT λi hi=>?_;subst et;induction op using PySem.Operator.casesOn with
   |Add=>exact Yi hE (nJ hc) hi (IE 20 sc e envM hE)
   |_=>exact fT
  |If t a b p=>exact Yl IX hE hCA (IT 20 sc t envM hE)
  |Assert t m p=>exact bQ fT λhc=>fZ.mp hc▸Ph (IT 20 sc t envM hE)
  |For t iter body orelse p=>
   refine Qy fT λeo=>Om fT λx px et=>?_;subst eo et;exact oQ (bQ fT λhs=>Pk hR.hand IX hE hCA (qO sc _) hs (IE 20 sc iter envM hE)) λargs hr=>Pj hR.hand hB IE IX hE hCA (qO sc _) hr
  |While t body orelse p=>exact Qy fT λeo=>eo▸Pl IX hE hCA (IT 20 sc t envM hE)
  |_=>exact fT
theorem oN(hB:Base w s₀)(hc:q8 prog w s₀ d cf)(hR:Room A d 1):∀m,kO prog w s₀ A (bJ cf m)/\qA prog w s₀ A (bJ cf m)/\sG prog w s₀ A (bJ cf m)/\
  ((∀x env cs,(bJ cf m).ev x env cs=none)\/∃r',((bJ cf m).ev=dI cf r')/\kO prog w s₀ A r'/\qA prog w s₀ A r')
 |0=>⟨λ_ _ _ _ _=>fG,λ_ _ _ _ _=>fH,λ_ _ _ _ _ _=>fT,.inl λ_ _ _=>rfl⟩
 |m+1=>
  uY (oN hB hc hR m) λa b c e=>⟨M2 hB hc hR a b,Ye hB hc hR a b,Ym hB hR a b c e 2000,.inr ⟨_,rfl,a,b⟩⟩
end
set_option tactic.hygienic false
def d4(K:Frag)(a:Addr):FuncData:=pU default (K.lookup a) λo=>yO default o.data λfd=>fd
def isFd(K:Frag)(a:Addr):Bool:=pU false (K.lookup a) λo=>Nat.beq o.data.ctorIdx 7
def j0(K:Frag)(a:Addr):List Str:=(d4 K a).params.args.map (·.arg)
noncomputable def kX(fd:FuncData):List Stmt:=match fd.body with
 |.stmts b=>b
 |_=>[]
noncomputable def EG(fd:FuncData):Bool:=match fd.body with
 |.stmts _=>true
 |_=>false
noncomputable def zM:List Str->Str
 |[]=>Ow
 |x::r=>match r with
  |[]=>x
  |y::r=>zM (y::r)
def EH(K:Frag)(a:Addr):Value:=match(d4 K a).defaults with
 |.ref T=>(match K.lookup T with
  |some o=>(match o.data with
   |.seq items _=>(match items.toList with
    |v::_=>v
    |[]=>.none)
   |_=>.none)
  |none=>.none)
 |_=>.none
def eqD(d:V)(u:Value):Bool:=bif Nat.beq d.ctorIdx 0 then Nat.beq u.ctorIdx 0 else X6 false d λa=>X0 false u λb=>a==b
def eqDs(ds:List V)(u:Value):Bool:=match ds with
 |[]=>true
 |d::_=>eqD d u
def BG(K:Frag)(fd:FuncData):Bool:=sN false fd.code λc=>pU false (K.lookup c) λo=>Ee false o.data λvs=>pU false vs[1]? λu=>Ed false u λq _=>q==fd.qualname
noncomputable def nU:List Str->Bool
 |[]=>true
 |x::r=>!(r.any (·==x))&&nU r
theorem nod_c{x:Str}{r:List Str}:nU (x::r)=(!(r.any (·==x))&&nU r):=rfl
def QK(fd:FuncData):Bool:=nU (fd.params.args.map (·.arg))&&LJ fd.scope&&!fd.scope.isCoroutine&&!fd.scope.isGenerator&&fd.scope.names.all (λx=>!(x.2==.free))&&nU ((fd.scope.names.filter (λx=>x.2==.cell)).map (·.1))&&
 fd.params.args.all (λx=>wE fd.scope x.arg&&(mQ x.arg).isSome)
def wM(K:Frag)(p:Nat×Fn):Bool:=isFd K p.1&&EG (d4 K p.1)&&Nat.beq (d4 K p.1).globals mainGlobals&&Nat.beq (d4 K p.1).builtins builtinsNs&&(d4 K p.1).closure.isEmpty&&BG K (d4 K p.1)&&QK (d4 K p.1)&&
 eqDs p.2.dflts (EH K p.1)&&Nat.blt p.2.params.length 5
def xR(K:Frag)(a:Addr)(ds:List V):Fn:=⟨(d4 K a).params.args.map (λx=>match mQ x.arg with|some i=>i|none=>0),ds,(kX (d4 K a)).map (Ar 12 (d4 K a).scope)⟩
def uK(n:Nat):List Addr:=(QA.filter λp=>Nat.beq p.2.params.length n).map (·.1)
def EI(n:Nat):List Addr:=(QA.filter λp=>Nat.beq p.2.params.length n&&!p.2.dflts.isEmpty).map (·.1)
theorem ent1(P:Params):QA.all (wM (Kf P))=true:=by kernel_rfl!
theorem ar1:QA.all (λp=>Nat.blt p.2.params.length 4)=true:=by kernel_rfl!
theorem Yn(P:Params):QA.map (λp=>xR (Kf P) p.1 p.2.dflts)=QA.map (·.2):=by kernel_rfl!
theorem bp0(P:Params)(S:Setting):(uK 0).map (λa=>peek (Kf P) S (bindArgs (d4 (Kf P) a) ⟨[],[]⟩))=(uK 0).map (λa=>some ((j0 (Kf P) a).zip [])):=by kernel_rfl!
theorem bp1(P:Params)(S:Setting)(u:Value):(uK 1).map (λa=>peek (Kf P) S (bindArgs (d4 (Kf P) a) ⟨[u],[]⟩))=(uK 1).map (λa=>some ((j0 (Kf P) a).zip [u])):=by kernel_rfl!
theorem bp2(P:Params)(S:Setting)(u v:Value):(uK 2).map (λa=>peek (Kf P) S (bindArgs (d4 (Kf P) a) ⟨[u,v],[]⟩))=(uK 2).map (λa=>some ((j0 (Kf P) a).zip [u,v])):=by kernel_rfl!
theorem bp3(P:Params)(S:Setting)(u v x:Value):(uK 3).map (λa=>peek (Kf P) S (bindArgs (d4 (Kf P) a) ⟨[u,v,x],[]⟩))=(uK 3).map (λa=>some ((j0 (Kf P) a).zip [u,v,x])):=by kernel_rfl!
theorem bk1(P:Params)(S:Setting)(u:Value):(uK 1).map (λa=>peek (Kf P) S (bindArgs (d4 (Kf P) a) ⟨[],[(zM (j0 (Kf P) a),u)]⟩))=(uK 1).map (λa=>some ((j0 (Kf P) a).zip [u])):=by kernel_rfl!
theorem bk2(P:Params)(S:Setting)(u v:Value):(uK 2).map (λa=>peek (Kf P) S (bindArgs (d4 (Kf P) a) ⟨[u],[(zM (j0 (Kf P) a),v)]⟩))=(uK 2).map (λa=>some ((j0 (Kf P) a).zip [u,v])):=by kernel_rfl!
theorem bk3(P:Params)(S:Setting)(u v x:Value):(uK 3).map (λa=>peek (Kf P) S (bindArgs (d4 (Kf P) a) ⟨[u,v],[(zM (j0 (Kf P) a),x)]⟩))=(uK 3).map (λa=>some ((j0 (Kf P) a).zip [u,v,x])):=by kernel_rfl!
theorem bd2(P:Params)(S:Setting)(u:Value):(EI 2).map (λa=>peek (Kf P) S (bindArgs (d4 (Kf P) a) ⟨[u],[]⟩))=(EI 2).map (λa=>some ((j0 (Kf P) a).zip [u,EH (Kf P) a])):=by kernel_rfl!
theorem bd3(P:Params)(S:Setting)(u v:Value):(EI 3).map (λa=>peek (Kf P) S (bindArgs (d4 (Kf P) a) ⟨[u,v],[]⟩))=(EI 3).map (λa=>some ((j0 (Kf P) a).zip [u,v,EH (Kf P) a])):=by kernel_rfl!
theorem dfOf1:EI 1=[]:=by kernel_rfl!
theorem i6{α β:Type}{f g:α->β}{l:List α}(h:l.map f=l.map g){a:α}(ha:a∈l):f a=g a:=List.map_inj_left.mp h a ha
theorem wN{α:Type}{x:Nat}{v:α}:∀{l:List (Nat×α)},dZ x l=some v->(x,v)∈l
 |[],h=>by exact aY h
 |(y,w)::r,h=>by
  unfold dZ at h;induction hb:Nat.beq x y using Bool.casesOn with
  |true=>
   rw[hb]at h;refine e9 h ?_;rw[aA hb];exact aE
  |false=>rw[hb]at h;exact aI _ (wN h)
theorem MC{a b:Nat}(h:a=b):Nat.beq a b=true:=h▸kK a
theorem zN{a:Addr}{i:Fn}(h:fi a=some i):(a,i)∈QA:=wN h
theorem QL(P:Params){a:Addr}{i:Fn}(h:fi a=some i):xR (Kf P) a i.dflts=i:=i6 (Yn P) (zN h)
theorem zO{a:Addr}{i:Fn}(h:fi a=some i){n:Nat}(hn:i.params.length=n):a∈uK n:=bR.mpr ⟨(a,i),dC.mpr ⟨zN h,MC hn⟩,rfl⟩
theorem MD{a:Addr}{i:Fn}(h:fi a=some i){n:Nat}(hn:i.params.length=n)(hd:i.dflts.isEmpty=false):a∈EI n:=bR.mpr ⟨(a,i),dC.mpr ⟨zN h,by rw[a9,hd];exact⟨MC hn,rfl⟩⟩,rfl⟩
theorem nm_len(P:Params){a:Addr}{i:Fn}(h:fi a=some i):(j0 (Kf P) a).length=i.params.length:=by
 rw[<-QL P h];unfold j0 xR;simp
set_option tactic.hygienic true
structure Ent(K:Frag)(a:Addr)(i:Fn):Prop where
 fd:∃o,K.lookup a=some o/\o.data=.func (d4 K a)
 body:(d4 K a).body=.stmts (kX (d4 K a))
 globals:(d4 K a).globals=mainGlobals
 builtins:(d4 K a).builtins=builtinsNs
 closure:(d4 K a).closure=[]
 code:BG K (d4 K a)=true
 kind:(d4 K a).scope.kind=.function
 co:(d4 K a).scope.isCoroutine=false
 gen:(d4 K a).scope.isGenerator=false
 free:∀x∈(d4 K a).scope.names,x.2≠.free
 cells:nU (((d4 K a).scope.names.filter (λx=>x.2==.cell)).map (·.1))=true
 pars:∀x∈j0 K a,wE (d4 K a).scope x=true/\(mQ x).isSome=true
 nd:nU (j0 K a)=true
 dv:eqDs i.dflts (EH K a)=true
 par:i.params=(j0 K a).map λx=>match mQ x with|some i=>i|none=>0
 stm:i.body=(kX (d4 K a)).map (Ar 12 (d4 K a).scope)
theorem Po{K:Frag}{a:Addr}(h:isFd K a=true):∃o,K.lookup a=some o/\o.data=.func (d4 K a):=by
 refine oE h nT λo ho h=>⟨o,ho,?_⟩;have e:d4 K a=yO default o.data λfd=>fd:=by unfold d4;rw[ho];rfl
 rw[e];exact Data.func.elim (motive:=λx=>x=.func (yO default x λfd=>fd)) o.data (aA h) λfd=>rfl
theorem II{fd:FuncData}(h:EG fd=true):fd.body=.stmts (kX fd):=by
 unfold EG at h;unfold kX;split at h
 ·rename_i b hb;rw[hb]
 ·exact bX h
theorem EJ{K:Frag}{a:Addr}{i:Fn}(c:wM K (a,i)=true)(e:xR K a i.dflts=i):Ent K a i:=by
 unfold wM QK at c;simp only[a9,Bool.not_eq_true']at c;obtain⟨⟨⟨⟨⟨⟨⟨⟨c1,c2⟩,c3⟩,c4⟩,c5⟩,c6⟩,⟨⟨⟨⟨⟨⟨s0,s1⟩,s2⟩,s3⟩,s4⟩,s5⟩,s6⟩⟩,c7⟩,_⟩:=c;refine⟨Po c1,II c2,aA c3,aA c4,eI.mp c5,c6,?_,s2,s3,λx hx z=>?_,s5,λx hx=>?_,s0,c7,?_,?_⟩
 ·exact Di s1
 ·have:=aW.mp s4 x hx;rw[z]at this;exact bX this
 ·refine i8 (bR.mp hx) λy hy zr2=>?_;subst zr2;exact aL.mp (aW.mp s6 y hy)
 ·rw[<-e];unfold xR j0;rw[iW];rfl
 ·rw[<-e];rfl
theorem ME(P:Params){a:Addr}{i:Fn}(h:fi a=some i):Ent (Kf P) a i:=EJ (aW.mp (ent1 P) _ (zN h)) (QL P h)
theorem AS:∀{ns:List Str} {k:Nat},(∀x∈ns,(mQ x).isSome=true)->Er k (ns.map λx=>match mQ x with|some i=>i|none=>0)=true->mQ (zM ns)=some k
 |[],_,_,h=>by exact bX h
 |[x],k,hs,h=>by
  obtain⟨j,hj⟩:=fE.mp (hs x aE);replace h:Nat.beq (match mQ x with|some i=>i|none=>0) k=true:=h
  rw[hj]at h;rw[<-aA h];exact hj
 |x::y::r,k,hs,h=>AS (ns:=y::r) (λz hz=>hs z (aI _ hz)) h
section
variable{prog:Program}{w:World}{s₀ s s':Shared}{γ bP:Gh}{A:Around}{v:V}{u:Value}
theorem dv_vr{d:V}(h:eqD d u=true):VR γ [] d u:=by
 unfold eqD at h;induction c:Nat.beq d.ctorIdx 0 using Bool.casesOn with
 |true=>
  rw[c]at h;rw[V.none.elim (motive_1:=λz=>z=.none) d (aA c) rfl,Value.none.elim (motive:=λz=>z=.none) u (aA h) rfl];exact .none
 |false=>
  rw[c]at h;exact vbE h nT λa ea h=>uBE h nT λb eb h=>by rw[ea,eb,eq_of_beq h];exact .bool _
theorem AllR.len0{α β:Type}{R:α->β->Prop}{m:List β}(h:AllR R [] m):m=[]:=by cases h;rfl
theorem AllR.len1{α β:Type}{R:α->β->Prop}{a:α}{l:List α}{m:List β}(h:AllR R (a::l) m):∃b r,m=b::r/\R a b/\AllR R l r:=by cases h;exact⟨_,_,rfl,by assumption,by assumption⟩
theorem sz3{R:V->Value->Prop}{Q:Nat->List Value->Prop}(h0:Q 0 [])(h1:∀b,Q 1 [b])(h2:∀b c,Q 2 [b,c])(h3:∀b c d,Q 3 [b,c,d])(h4:∀n us,4<=n->Q n us){vs:List V}{us:List Value}(h:AllR R vs us):Q vs.length us:=by
 have e:=h.length;rw[e];clear e h;induction us using List.casesOn with
 |nil=>exact h0
 |cons b us=>
  induction us using List.casesOn with
  |nil=>exact h1 b
  |cons c us=>
   induction us using List.casesOn with
   |nil=>exact h2 b c
   |cons d us=>
    induction us using List.casesOn with
    |nil=>exact h3 b c d
    |cons e us=>exact h4 _ _ (lJ _ _)
theorem Pp{a:Addr}{i:Fn}(h:fi a=some i)(hK:(Kf w.params).In s.heap){vs:List V}{us:List Value}{kws:List (Nat×V)}{ukws:List (Str×Value)}{env:Ev}(hv:AllR (VR γ []) vs us)(hk:AllR (QB γ) kws ukws)
  (hb:u9 i.params vs kws i.dflts=some env):∃vs' us',BindsTo s (d4 (Kf w.params) a) ⟨us,ukws⟩ ((j0 (Kf w.params) a).zip us')/\env=i.params.zip vs'/\AllR (VR γ []) vs' us'/\i.params.length=vs'.length:=by
 have I:=ME w.params h;have eW:i.params.length<4:=aX (aW.mp ar1 _ (zN h));unfold u9 at hb;split at hb
 ·cases hk;induction hn:Nat.beq i.params.length vs.length using Bool.casesOn with
  |true=>
   rw[hn]at hb;obtain rfl:=aC hb;have hn:=aA hn;refine⟨vs,us,?_,rfl,hv,hn⟩;exact sz3 (Q:=λn us=>i.params.length=n->BindsTo s (d4 (Kf w.params) a) ⟨us,[]⟩ ((j0 (Kf w.params) a).zip us)) (λhn=>kp_binds hK λS=>i6 (bp0 w.params S) (zO h hn)) (λb hn=>kp_binds hK λS=>i6 (bp1 w.params S b) (zO h hn)) (λb c hn=>kp_binds hK λS=>i6 (bp2 w.params S b c) (zO h hn)) (λb c d hn=>kp_binds hK λS=>i6 (bp3 w.params S b c d) (zO h hn)) (λn us hl hn=>absurd eW (by rw[hn];exact lP.mpr hl)) hv hn
  |false=>
   rw[hn]at hb;refine dJ hb ?_;clear hb;intro hn hb;have hn:=aA hn;induction hd:i.dflts using List.casesOn with
   |nil=>rw[hd]at hb;exact aY hb
   |cons d ds=>
    rw[hd]at hb;refine e9 hb ?_;have hdv:=I.dv;rw[hd]at hdv;have V₀:=dv_vr (γ:=γ) (show eqD d (EH (Kf w.params) a)=true from hdv);have f5:i.dflts.isEmpty=false:=by rw[hd];rfl
    refine⟨vs++[d],us++[EH (Kf w.params) a],?_,rfl,hv.append (.cons V₀ .nil),by simpa using hn⟩
    exact sz3 (Q:=λn us=>i.params.length=n+1->BindsTo s (d4 (Kf w.params) a) ⟨us,[]⟩ ((j0 (Kf w.params) a).zip (us++[EH (Kf w.params) a]))) (λhn=>by have:=MD h hn f5;rw[show EI (0+1)=[]from dfOf1]at this;cases this) (λb hn=>kp_binds hK λS=>i6 (bd2 w.params S b) (MD h hn f5)) (λb c hn=>kp_binds hK λS=>i6 (bd3 w.params S b c) (MD h hn f5)) (λb c d hn=>absurd eW (by rw[hn];decide)) (λn us hl hn=>absurd eW (by rw[hn];exact lP.mpr (mL hl))) hv hn
 ·rename_i q r;refine dJ hb ?_;clear hb;intro hn fX;simp only[a9,eI]at hn;obtain⟨⟨rfl,hn⟩,hla⟩:=hn;have hn:=aA hn;obtain⟨p,r,rfl,⟨k1,k2⟩,hk⟩:=hk.len1;rw[hk.len0];have hnm:p.1=zM (j0 (Kf w.params) a):=by
   clear k2 hk hn;rw[I.par]at hla;exact rT k1 (AS (λx hx=>(I.pars x hx).2) hla)
  obtain⟨p1,p2⟩:=p;dsimp only at hnm;clear k1 hk;subst hnm;refine e9 fX ?_;refine⟨vs++[q.2],us++[p2],?_,rfl,hv.append (.cons k2 .nil),by simpa using hn⟩
  exact sz3 (Q:=λn us=>i.params.length=n+1->BindsTo s (d4 (Kf w.params) a) ⟨us,[(zM (j0 (Kf w.params) a),p2)]⟩ ((j0 (Kf w.params) a).zip (us++[p2]))) (λhn=>kp_binds hK λS=>i6 (bk1 w.params S p2) (zO h hn)) (λb hn=>kp_binds hK λS=>i6 (bk2 w.params S b p2) (zO h hn)) (λb c hn=>kp_binds hK λS=>i6 (bk3 w.params S b c p2) (zO h hn)) (λb c d hn=>absurd eW (by rw[hn];decide)) (λn us hl hn=>absurd eW (by rw[hn];exact lP.mpr (mL hl))) hv hn
end
set_option tactic.hygienic false
theorem mZ:∀{l:List Str},nU l=true->l.Nodup
 |[],_=>.nil
 |x::r,h=>by
  unfold nU at h;obtain⟨h1,h2⟩:=aL.mp h;refine gK.mpr ⟨λz=>?_,mZ h2⟩;have:r.any (λy=>y==x)=true:=fJ.mpr ⟨x,z,beq_self_eq_true x⟩;rw[this]at h1;exact bX h1
theorem pF:∀(l:List (Str×NameKind)) (n:Nat) (c8:List (Str×Addr)),(cellsFrom n l c8).map (·.1)=((l.filter (λx=>x.2==.cell)).map (·.1)).reverse++c8.map (·.1)
 |[],_,_=>rfl
 |(x,k)::r,n,c8=>by
  unfold cellsFrom;induction hk:k==NameKind.cell using Bool.casesOn with
  |true=>
   rw[if_pos rfl,pF r,kJ,if_pos hk];simp
  |false=>
   rw[if_neg (by decide),pF r,kJ,if_neg (by rw[hk];decide)]
theorem pG{α:Type}:∀{l:List (Str×α)} {x:Str} {c:α},(l.map (·.1)).Nodup->(x,c)∈l->l.lookup x=some c
 |(y,d)::r,x,c,hn,h=>by
  obtain⟨h1,h2⟩:=gK.mp hn;rw[f6];rcases a7.mp h with e|e
  ·clear h;refine l6 e ?_;rw[beq_self_eq_true]
  ·have:(x==y)=false:=cK.mpr λz=>h1 (by rw[<-z];exact bR.mpr ⟨_,e,rfl⟩)
   rw[this];exact pG h2 e
theorem pv_eq{x:Str}{i:Nat}(h:mQ x=some i):(match mQ x with|some i=>i|none=>0)=i:=by rw[h]
theorem AT{kd:Str->Option NameKind}{x:Str}:∀{l:List (Str×Value)} {m:Str->Option Value},x∉l.map (·.1)->bindL kd l m x=m x
 |[],_,_=>rfl
 |(n,v)::r,m,h=>by
  have f5:x≠n:=λz=>h (by rw[z];exact aE)
  unfold bindL;rw[AT λz=>h (aI _ z)];split
  ·exact if_neg f5
  ·rfl
theorem AU{kd:Str->Option NameKind}{x:Str}:∀{l:List (Str×Value)} {m:Str->Option Value},x∉l.map (·.1)->bindC kd l m x=m x
 |[],_,_=>rfl
 |(n,v)::r,m,h=>by
  have f5:x≠n:=λz=>h (by rw[z];exact aE)
  unfold bindC;rw[AU λz=>h (aI _ z)];split
  ·rfl
  ·exact if_neg f5
theorem zQ{α:Type}:∀{ns:List Str} {us:List α} {x:Str},x∉ns->x∉(ns.zip us).map (·.1)
 |[],_,_,_=>by simp
 |_::_,[],_,_=>by simp
 |n::ns,u::us,x,h=>by
  rw[pN,bO,a7];exact λz=>z.elim (λz=>h (by rw[z];exact aE)) (zQ λz=>h (aI _ z))
theorem AV{R:V->Value->Prop}{kd:Str->Option NameKind}{x:Str}{i:Nat}(hx:mQ x=some i):∀{ns:List Str} {vs:List V} {us:List Value} {v:V},AllR R vs us->(∀x∈ns,(mQ x).isSome=true)->ns.Nodup->
  dZ i ((ns.map λx=>match mQ x with|some i=>i|none=>0).zip vs)=some v->
  ∃u,R v u/\(∀m,kd x=some .local->bindL kd (ns.zip us) m x=some u)/\(∀m,kd x≠some .local->bindC kd (ns.zip us) m x=some u)
 |[],_,_,_,_,_,_,h=>by exact aY h
 |_::_,[],_,_,_,_,_,h=>by exact aY h
 |n::ns,v0::vs,us,v,ha,hs,hd,h=>by
  obtain⟨u0,us,rfl,r0,ha⟩:=ha.len1;obtain⟨d1,d2⟩:=gK.mp hd;obtain⟨j,hj⟩:=fE.mp (hs n aE);replace h:(bif Nat.beq i (match mQ n with|some i=>i|none=>0)then some v0 else dZ i ((ns.map λx=>match mQ x with|some i=>i|none=>0).zip vs))=some v:=h
  rw[pv_eq hj]at h;induction hb:Nat.beq i j using Bool.casesOn with
  |true=>
   rw[hb]at h;obtain rfl:=aC h;have:=aA hb;clear hb;subst this;have:=rT hx hj;clear hj hd hs;subst this;refine⟨u0,r0,λm hk=>?_,λm hk=>?_⟩
   ·rw[pN];unfold bindL;rw[AT (zQ d1),if_pos hk];exact if_pos rfl
   ·rw[pN];unfold bindC;rw[AU (zQ d1),if_neg hk];exact if_pos rfl
  |false=>
   rw[hb]at h;refine lY (AV (kd:=kd) hx ha (λy hy=>hs y (aI _ hy)) d2 h) λu r1 r2 r3=>?_;exact⟨u,r1,λm hk=>r2 _ hk,λm hk=>r3 _ hk⟩
section
variable{prog:Program}{w:World}{s₀ s s':Shared}{γ bP:Gh}{A:Around}{v:V}{u:Value}
theorem AW(hS:St w s₀ γ s)(k:∀b o,s.heap.get? b=some o->s'.heap.get? b=some o)(hz:s.heap.objs.size<=s'.heap.objs.size)(hg:s'.gens=s.gens)(ho:s'.os=s.os):∀l:List Addr,(∀a∈l,s.heap.objs.size<=a/\∃o,s'.heap.get? a=some o)->
  ∃bP,St w s₀ bP s'/\Step [] γ bP [] []/\(∀a∈l,∀o,s'.heap.get? a=some o->bP a=some (.raw o))/\∀a,a∉l->bP a=γ a
 |[],_=>⟨γ,hS.grow k hz hg ho,.refl γ [],by simp,λ_ _=>rfl⟩
 |a::l,h=>by
  refine nZ (AW hS k hz hg ho l λb hb=>h b (aI _ hb)) λbP S1 T1 r1 r2=>?_;obtain⟨ha,o,e⟩:=h a aE;by_cases hm:a∈l
  ·refine⟨bP,S1,T1,λb hb=>?_,λb hb=>r2 b λz=>hb (aI _ z)⟩;clear e ha h;rcases a7.mp hb with rfl|hb
   ·exact r1 _ hm
   ·exact r1 b hb
  ·have hf:dX bP a:=λg q=>hS.free' ha g ((r2 a hm).symm.trans q);refine⟨iZ bP a (some (.raw o)),⟨S1.keep,S1.size,S1.ok.adopt (aR hS.size ha) hf (λx t dx q=>?_) e,S1.gens,S1.os⟩,T1.trans (d6 _ [] hf),λb hb ob q=>?_,λb hb=>?_⟩
   ·by_cases hx:x∈l
    ·obtain⟨_,ox,ex⟩:=h x (aI _ hx);rw[r1 x hx ox ex]at q;cases q
    ·rw[r2 x hx]at q;exact eU (aZ (hS.ok.dlt q) ha)
   ·clear hf ha h;rcases a7.mp hb with rfl|hb
    ·rw[e]at q;obtain rfl:=aC q;exact bK ..
    ·rw[cN λz=>hm (by rw[<-z];exact hb)];exact r1 b hb ob q
   ·rw[cN λz=>hb (by rw[z];exact aE)]
    exact r2 b λz=>hb (aI _ z)
end
set_option tactic.hygienic true
theorem Dy{x:Str}:∀{l:List (Str×NameKind)} {n:Nat},(x,NameKind.cell)∈l->x∈(cellsFrom n l []).map (·.1):=λ{l n} h=>by
 rw[pF];exact b7.mpr (.inl (List.mem_reverse.mpr (bR.mpr ⟨_,dC.mpr ⟨h,rfl⟩,rfl⟩)))
theorem EK{K:Frag}{fd:FuncData}{h:Heap}(X:K.In h)(c:BG K fd=true):h.CodeRec fd.code fd.qualname:=by
 exact GV c nT λc' hc c=>oE c nT λo ho c=>fldsE c nT λvs hd c=>oE c nT λu hu c=>uStrE c nT λq t hq c=>⟨c',o,vs,t,hc,X _ _ ho,hd,by rw[hu,hq,eq_of_beq c]⟩
section
variable{prog:Program}{w:World}{s₀ s s' bZ:Shared}{γ bP:Gh}{A:Around}{v:V}{u:Value}{cf:cO}{d:Nat}
theorem Step.drop{X:List Addr}{dU:List Addr}(x:Step X γ bP [] dU):Step X γ bP [] []:=⟨x.ext,x.raw,⟨[],rfl,by simp⟩,x.dom⟩
theorem enter{K:Frag}{a L:Addr}{i:Fn}(I:Ent K a i)(hS:St w s₀ γ s){R:V->Value->Prop}{vs:List V}{us:List Value}(hv:AllR R vs us){env:Ev}(hsel:∀j v,dZ j env=some v->dZ j (i.params.zip vs)=some v/\∀u,R v u->VR γ [] v u){envM:Env}(he:envM=callEnvC (d4 K a) L a)
  (hI:InCallC s envM.locals (bindL envM.kindOf ((j0 K a).zip us) λ_=>none) envM.cells (bindC envM.kindOf ((j0 K a).zip us) λ_=>none) bZ):
  ∃bP,St w s₀ bP bZ/\Step [] γ bP [] []/\FmOk bP [] envM env/\EnvOk envM (d4 K a).scope/\gX envM/\(∀b∈pC envM,dX γ b)/\
   ∀y j v,mQ y=some j->dZ j (i.params.zip vs)=some v->envM.kindOf y=some .local->∃o m u,bP envM.locals=some (.raw o)/\Dk o m/\m y=some u/\R v u:=by
 have hsc:envM.scope=(d4 K a).scope:=by rw[he];rfl
 have hcl:envM.cells=cellsFrom (L+1) (d4 K a).scope.names []:=by rw[he];rfl
 have hnd:(envM.cells.map (·.1)).Nodup:=by
  rw[hcl,pF,List.map_nil,bW];exact(List.reverse_perm _).nodup_iff.mpr (mZ I.cells)
 refine NP (hI.toInCall.same) λh₁ tk e1=>?_;have hge:∀b∈pC envM,s.heap.objs.size<=b/\∃o,bZ.heap.get? b=some o:=λb hb=>by
  rcases a7.mp hb with rfl|hb
  ·refine Qx (hI.toInCall.ns) λo _ _ q _=>?_;exact⟨hI.toInCall.fresh,o,q⟩
  ·obtain⟨⟨x,c⟩,hx,rfl⟩:=bR.mp hb;refine i8 (hI.cell x c (pG hnd hx)) λo q _=>?_;exact⟨bD (aP hI.toInCall.fresh (hI.above x c hx)),o,q⟩
 have hLe:=hge envM.locals aE;obtain⟨oL,qL⟩:=hLe.2;refine nZ (AW (s':=bZ) hS hI.toInCall.keep (bD (aP hLe.1 (Heap.lt_size qL))) (by rw[e1]) (by rw[e1]) (pC envM) hge) λbP S1 T1 r1 r2=>?_
 have ne:∀x c,envM.cells.lookup x=some c->c≠envM.locals:=λx c q=>sF (hI.above x c (mem_of_lookup q));have lk:=λ{x:Str} {j:Nat} {v:V} (hx:mQ x=some j) (hl:dZ j (i.params.zip vs)=some v)=>AV (R:=R) (kd:=envM.kindOf) hx hv (λy hy=>(I.pars y hy).2) (mZ I.nd) (by rw[I.par]at hl;exact hl)
 refine⟨bP,S1,T1,⟨?_,λx c q=>?_,by simp,λx c q=>⟨by simp,ne x c q⟩,λx y c q q'=>name_of_addr hI.apart (mem_of_lookup q) (mem_of_lookup q')⟩,⟨by rw[hsc];exact I.kind,by rw[he];exact I.globals,by rw[he];exact I.builtins,λx k q=>.inl ?_,λx q=>?_⟩,λc hc=>?_,λb hb=>hS.free' (hge b hb).1,λy j v hx hl hk=>?_⟩
 ·obtain⟨o,q,n⟩:=Dk.of hI.toInCall.ns;refine⟨o,_,r1 _ aE o q,n,λx j v hx hl hk=>?_⟩;obtain⟨l1,l2⟩:=hsel j v hl;refine lY (lk hx l1) λu z1 z2 _=>?_;exact⟨u,z2 _ hk,(l2 u z1).step T1⟩
 ·obtain⟨o,q1,q2⟩:=hI.cell x c q;refine⟨o,_,r1 c (aI _ (tQ q)) o q1,q2,λj v hx hl hk=>?_⟩;obtain⟨l1,l2⟩:=hsel j v hl;refine lY (lk hx l1) λu z1 _ z3=>?_;exact⟨u,z3 _ (by rcases hk with hk|hk<;>rw[hk]<;>decide),(l2 u z1).step T1⟩
 ·unfold Env.kindOf;rw[hsc,<-f8];exact q
 ·have cel:envM.kindOf x=some .cell->∃c,envM.cells.lookup x=some c:=λz=>by
   unfold Env.kindOf at z;rw[hsc]at z;have:=Dy (n:=L+1) (mY z);rw[<-hcl]at this;clear z q;obtain⟨⟨y,c⟩,hy,rfl⟩:=bR.mp this;exact⟨c,pG hnd hy⟩
  rcases q with q|q
  ·exact cel q
  ·unfold Env.kindOf at q;rw[hsc]at q;exact absurd rfl (I.free _ (mY q))
 ·obtain⟨⟨x,c'⟩,hx,rfl⟩:=bR.mp hc;exact⟨x,pG hnd hx⟩
 ·obtain⟨o,q,n⟩:=Dk.of hI.toInCall.ns;refine lY (lk hx hl) λu z1 z2 _=>?_;exact⟨o,_,u,r1 _ aE o q,n,z2 _ hk,z1⟩
theorem Room.deep{envM:Env}(h:Room A (d+1) 0):Room (A.deeper envM) d 1:=⟨h.hand,by have:=h.dep;show A.depth+1+10*d+1<recursionLimit;lia,by have:=h.un;show A.units+3+60*d+12*1+60<cLine;lia⟩
theorem BH(hB:Base w s₀)(hS:St w s₀ γ s){a:Addr}{i:Fn}(I:Ent (Kf w.params) a i){us:List Value}{ukws:List (Str×Value)}{us':List Value}(B:BindsTo s (d4 (Kf w.params) a) ⟨us,ukws⟩ ((j0 (Kf w.params) a).zip us'))(hdep:A.depth<recursionLimit){R':V->Value->Prop}{vs:List V}
  (hv:AllR R' vs us') {env:Ev} (hsel:∀j v,dZ j env=some v->dZ j (i.params.zip vs)=some v/\∀u,R' v u->VR γ [] v u) {R:Result->Shared->Prop}
  (k:∀envM bZ aU,St w s₀ aU bZ->Step [] γ aU [] []->FmOk aU [] envM env->EnvOk envM (d4 (Kf w.params) a).scope->gX envM->(∀b∈pC envM,dX γ b)->
   (∀y j v,mQ y=some j->dZ j (i.params.zip vs)=some v->envM.kindOf y=some .local->∃o m u,aU envM.locals=some (.raw o)/\Dk o m/\m y=some u/\R' v u)->
   wpAny (model prog w) (A.deeper envM) (execs (kX (d4 (Kf w.params) a)) envM) (λf s'=>R (.ok (.ret (match f with|.ret v=>v|_=>.none))) s') fW bZ):
  codeAny (model prog w) A (.call (.ref a) ⟨us,ukws⟩) R s:=by
 have hK:=hB.K.keeps hS.keep;refine i8 (I.fd) λo ho hd=>?_;refine A9 (hB.top) λp lo mg mb T=>?_;refine codeAny_call_function hdep (hK _ _ ho) hd I.co I.gen I.body (EK hK I.code) (B _ _ _ _ ?_);rw[I.closure];refine wpAny_newFunctionEnv_cells I.kind (λx hx=>?_) λenvM he bZ x=>⟨(T.nolimit.keeps hS.keep).keeps x.toInCall.keep,?_⟩
 ·have hm:=(List.of_mem_zip hx).1;rcases vK (I.pars _ hm).1 with q|q
  ·rw[f8]at q;exact .inl q
  ·rw[f8]at q;refine .inr ⟨q,?_⟩;have:=Dy (n:=s.heap.objs.size+1) (mY q);obtain⟨⟨y,c⟩,hy,e⟩:=bR.mp this;rw[<-e,pG (by rw[pF,List.map_nil,bW];exact(List.reverse_perm _).nodup_iff.mpr (mZ I.cells)) hy];rfl
 ·refine JB (enter I hS hv hsel (L:=s.heap.objs.size) he x) λaU S1 T1 F1 E1 CA W1 X1=>?_;exact codeAny_func (aD (k envM bZ aU S1 T1 F1 E1 CA W1 X1) (λ_ _ z=>z) λ_ _ z=>z.elim)
theorem QM(hB:Base w s₀)(hc:q8 prog w s₀ d cf)(hR:Room A (d+1) 0)(hS:St w s₀ γ s){a:Addr}{i:Fn}(hi:fi a=some i){vs:List V}{us:List Value}{kws:List (Nat×V)}{ukws:List (Str×Value)}(hv:AllR (VR γ []) vs us)(hk:AllR (QB γ) kws ukws){env:Ev}
  (hb:u9 i.params vs kws i.dflts=some env) {rv:Option V} {env':Ev} {cW:Cs} (hx:uI (bJ cf Ay) i.body env []=some (rv,env',cW)):codeAny (model prog w) A (.call (.ref a) ⟨us,ukws⟩) (PC w s₀ γ (match rv with|some v=>v|none=>.none)) s:=by
 have I:=ME w.params hi;refine uE (Pp hi (hB.K.keeps hS.keep) hv hk hb) λvs' us' B zr3 hv' _=>?_;subst zr3;refine BH hB hS I B (by have:=hR.dep;lia) hv' (λ_ _ z=>⟨z,λ_ z=>z⟩) λenvM bZ aU S1 T1 F1 E1 CA W1 _=>?_
 refine uY (oN hB hc (hR.deep (envM:=envM)) Ay) λ_ _ IX _=>?_;clear hv';rw[I.stm]at hx;refine aD (zL IX E1 CA S1 (CsOk.nil w aU) F1 hx) (λf cZ z=>?_) λ_ _ z=>z;obtain⟨cL,eS,S2,C2,T2,F2,hf⟩:=z;have T3:Step [] γ cL [] []:=((T1.widen (by simp)).trans T2.drop).shrink λb hb=>.inl (W1 b hb)
 induction rv using Option.casesOn with
 |none=>
  replace hf:f=.next:=hf;subst hf;exact⟨.none,cL,rfl,S2,T3,.none⟩
 |some v=>
  refine i8 (hf) λu zr1 V2=>?_;subst zr1;exact⟨u,cL,rfl,S2,T3,V2⟩
end
noncomputable def Z9:List Str:=[DW,Da,lS,lT,rQ,u6,lG,dG]
theorem st1(P:Params):pS.all (λC=>findIn (Kf P) (.ref C) "__setattr__"==some (some (.builtin "object.__setattr__"))&&plainOver (Kf P) C&&hasDictIn (Kf P) C&&Z9.all (λn=>takerIn (Kf P) C n==some none))=true:=by kernel_rfl!
structure InsR(γ:Gh)(x dx C:Addr)(fs:List (Str×V)):Prop where
 ins:γ x=some (.raw (instObj C dx))
 fld:∃es n,γ dx=some (.raw (dictOf es n))/\AllR (FR γ) fs es
section
variable{prog:Program}{w:World}{s₀ s s' bZ:Shared}{γ bP:Gh}{A:Around}{v:V}{u:Value}{x dx C:Addr}{fs:List (Str×V)}{ad dU:List Addr}
theorem InsR.step{X:List Addr}(h:InsR γ x dx C fs)(T:Step X γ bP ad dU)(h1:x∉ad/\x∉X)(h2:dx∉ad/\dx∉X):InsR bP x dx C fs:=
 let⟨es,n,a,b⟩:=h.fld
 ⟨T.raw _ _ h.ins h1.1 h1.2,es,n,T.raw _ _ a h2.1 h2.2,b.mono λ_ _ z=>z.mono T.ext⟩
theorem vL(name:Str)(hsh:Int)(key v:Value):∀es:List DictEntry,getL name es=some none->putL name hsh key v es=es++[⟨hsh,key,v⟩]
 |[],_=>rfl
 |e::r,h=>by
  rw[putL];induction hk:e.key.isStr name using Bool.casesOn with
  |true=>unfold getL at h;rw[List.find?_cons,hk]at h;cases h
  |false=>
   rw[if_neg (by decide),kI,vL name hsh key v r]
   unfold getL at h⊢;rw[List.find?_cons,hk]at h;dsimp only at h;induction hf:r.find? (·.key.isStr name) using Option.casesOn with
   |some e'=>rw[hf]at h;cases h
   |none=>
    rw[hf]at h;dsimp only at h⊢;rw[qU]at h;induction hr:r.any (·.refKey) using Bool.casesOn with
    |true=>rw[hr,Bool.or_true]at h;exact aY h
    |false=>rfl
theorem FS{R:Result->Shared->Prop}{tk:Tok}{name:Str}{es:List DictEntry}{n:Nat}(hK:(Kf w.params).In s.heap)(hx:s.heap.get? x=some (instObj C dx))(D:s.heap.get? dx=some (dictOf es n))(c2:plainOver (Kf w.params) C=true)(c3:hasDictIn (Kf w.params) C=true)
  (ht:takerIn (Kf w.params) C name=some none) (gl:(getL name es).isSome=true) (hz:(putL name (PyData.keyHash w.params name) (.str name s.toks) u es).length<=1000)
  (q:R (.ok (.ret .none)) {s with heap:=s.heap.update dx (Obj.putName name (PyData.keyHash w.params name) (.str name s.toks) u),toks:=s.toks+1}):
  codeAny (model prog w) A (.call (.builtin "object.__setattr__") ⟨[.ref x,.str name tk,u],[]⟩) R s:=by
 have I:InstAt s.heap x (instObj C dx) C (some (dictOf es n)):=⟨hx,rfl,rfl,D⟩;refine osa_open hK I c2 ht λb=>?_;refine i8 (any_some c3) λcd hc hd'=>?_;have e:=putName_dict name (PyData.keyHash w.params name) (.str name s.toks) u es n;have D':(s.heap.update dx (Obj.putName name (PyData.keyHash w.params name) (.str name s.toks) u)).get? dx=some (dictOf (putL name (PyData.keyHash w.params name) (.str name s.toks) u es) (putN name es n)):=e▸Heap.get?_update_self _ D (e▸rfl);refine bF (wpAny_pure (bF (bF (wpAny_loadPart hx (bF ((looks_clsIn hK hc).here ?_))))));rw[hd'];refine wpAny_pure (a:=some dx) (bF (wpAny_pure (bF ?_)));unfold nsSet;refine bF (bF (wpAny_askSetting (wpAny_pure (bF (wpAny_mkText (bF (wpAny_loadPart D ?_)))))));dsimp only;have c:(!es.toArray.any (·.key.isStr name)&&es.toArray.any (·.refKey))=false:=by
  rw[<-Array.any_toList,<-Array.any_toList];unfold getL at gl;split at gl
  ·rename_i en he;rw[fJ.mpr ⟨en,List.mem_of_find?_eq_some he,List.find?_some he⟩];rfl
  ·split at gl
   ·exact bX gl
   ·rename_i z;rw[Bool.not_eq_true]at z;rw[z,Bool.and_false]
 rw[aRefKeyMayBeTheName_at,c];refine wpAny_updatePart D ?_;refine bF (wpAny_lookBehind D' (pastItsLine_dict (by rw[List.size_toArray,sizeLine_eq];exact Ln hz)) ?_)
 exact wpAny_pure q
theorem zR(hB:Base w s₀)(hS:St w s₀ γ s)(hI:InsR γ x dx C fs)(hC:C∈pS){name:Str}(hn:name∈Z9)(hl:cJ name fs=none)(hz:fs.length<=100)(hv:VR γ [] v u):
  wpAny (model prog w) A (setAttr (.ref x) name u) (λ_ s'=>∃bP,St w s₀ bP s'/\Step [dx] γ bP [] []/\InsR bP x dx C (fs++[(name,v)])) fW s:=by
 refine kW (hI.fld) λes n e2 r=>?_;have c:=aW.mp (st1 w.params) C hC;simp only[a9,beq_iff_eq]at c;obtain⟨⟨⟨c1,c2⟩,c3⟩,c4⟩:=c;have ht:=beq_iff_eq.mp (aW.mp c4 name hn);have hK:=hB.K.keeps hS.keep;have gl:=oW r hl;have eW:=r.length;have hx:=hS.raw hI.ins;have D:=hS.raw e2;have e:Obj.putName name (PyData.keyHash w.params name) (.str name (s.toks+1)) u (dictOf es n)=dictOf (es++[⟨PyData.keyHash w.params name,.str name (s.toks+1),u⟩]) (putN name es n):=by rw[putName_dict,vL _ _ _ _ _ gl]
 have D':(s.heap.update dx (Obj.putName name (PyData.keyHash w.params name) (.str name (s.toks+1)) u)).get? dx=some (dictOf (es++[⟨PyData.keyHash w.params name,.str name (s.toks+1),u⟩]) (putN name es n)):=e▸Heap.get?_update_self _ D (e▸rfl);have T:Step [dx] γ (iZ γ dx (some (.raw (dictOf (es++[⟨PyData.keyHash w.params name,.str name (s.toks+1),u⟩]) (putN name es n))))) [] []:=gW _ [] e2 (.inr (by simp))
 have ne:x≠dx:=λz=>by
  have:=hI.ins;rw[z,e2]at this;cases this
 have I:InstAt s.heap x (instObj C dx) C (some (dictOf es n)):=⟨hx,rfl,rfl,D⟩;refine set_plain hK I c1 (FS (s:={s with toks:=s.toks+1}) hK hx D c2 c3 ht (by rw[gl];rfl) (by rw[vL _ _ _ _ _ gl,bU,d0];lia) ?_)
 exact⟨_,hS.set (s':={s with heap:=s.heap.update dx (Obj.putName name (PyData.keyHash w.params name) (.str name (s.toks+1)) u),toks:=s.toks+1+1}) e2 (Heap.SameBut.update ..) D',T,(cN ne).trans hI.ins,_,_,bK ..,(r.mono λ_ _ z=>z.mono T.ext).append (.cons ⟨⟨_,rfl⟩,hv.mono T.ext λ_ _ e=>e⟩ .nil)⟩
end
set_option tactic.hygienic false
def jF:Str:=sT [115,101,108,102]
inductive GX where
 |b|mn|mx
 |lit (i:Int)
 |bin (op:Operator) (l r:GX)
inductive GT where
 |cmp (op:CmpOp) (l r:GX)
 |isint
 |bop (isAnd:Bool) (l r:GT)
inductive GP where
 |pair (l r:GX)
 |cond (t:GT) (p q:GP)
inductive GS where
 |asrt (t:GT)
 |ifR (t:GT) (p:GP)
 |ret (p:GP)
def wO(e:Expr):Bool:=qN false e λx _=>lC x jF
def QN(o:Expr)(a:Str):Option GX:=(qN none o λx _=>bif lC x jF&&lC a Da then some .b else none).or
 (u5 none o λo' a' _=>bif wO o'&&lC a' DW then(bif lC a lS then some .mn else bif lC a lT then some .mx else none)else none)
def gx:Nat->Expr->Option GX
 |0,_=>none
 |n+1,e=>(Fq none e λc _ _=>Lx none c λi=>some (.lit i)).or ((Lr none e λl op r _=>(gx n l).bind λa=>(gx n r).map λb=>.bin op a b).or (u5 none e λo a _=>QN o a))
noncomputable def MF:BoolOp->Bool
 |.And=>true
 |.Or=>false
def QO(op:CmpOp)(l x:Expr):Option GT:=bif gD x then(gx 9 l).bind λa=>(gx 9 x).map λb=>.cmp op a b else none
def EL(sc:Scope)(x y:Str)(o:Expr):Option GT:=(gx 9 o).bind λg=>bif Nat.beq g.ctorIdx 0&&(lC x oJ&&lC y CY&&Dh sc x&&Dh sc y)then some .isint else none
def gt(sc:Scope):Nat->Expr->Option GT
 |0,_=>none
 |n+1,e=>(Ft none e λl ops xs _=>w7 none ops λop=>w7 none xs λx=>QO op l x).or
  ((Ls none e λop es _=>AA none es λx y=>(gt sc n x).bind λa=>(gt sc n y).map λb=>.bop (MF op) a b).or
  (yN none e λf args kws _=>qN none f λx _=>AA none args λo c=>qN none c λy _=>Au none kws (EL sc x y o)))
def gp(sc:Scope):Nat->Expr->Option GP
 |0,_=>none
 |n+1,e=>(t7 none e λes _ _=>AA none es λx y=>bif gE [x,y]then(gx 9 x).bind λa=>(gx 9 y).map λb=>.pair a b else none).or
  (Lu none e λt a b _=>(gt sc 9 t).bind λt=>(gp sc n a).bind λa=>(gp sc n b).map λb=>.cond t a b)
def gs(sc:Scope)(s:Stmt):Option GS:=(Fu none s λt m _=>bif m.isNone then(gt sc 9 t).map .asrt else none).or
 ((Oq none s λt a b _=>Au none b (w7 none a λr=>AB none r λe _=>e.bind λe=>(gt sc 9 t).bind λt=>(gp sc 9 e).map λp=>.ifR t p)).or
 (AB none s λe _=>e.bind λe=>(gp sc 9 e).map .ret))
def nV(mn mx b:Int):GX->Option Int
 |.b=>some b
 |.mn=>some mn
 |.mx=>some mx
 |.lit i=>some i
 |.bin op l r=>(nV mn mx b l).bind λx=>(nV mn mx b r).bind λy=>(eY op x y).bind λv=>match v with
  |.int i=>some i
  |_=>none
def qP(mn mx b:Int):GT->Option Bool
 |.cmp op l r=>(nV mn mx b l).bind λx=>(nV mn mx b r).bind λy=>Ou op x y
 |.isint=>some true
 |.bop isAnd l r=>(qP mn mx b l).bind λx=>bif isAnd then(bif x then qP mn mx b r else some false)else(bif x then some true else qP mn mx b r)
def wP(mn mx b:Int):GP->Option (Int×Int)
 |.pair l r=>(nV mn mx b l).bind λx=>(nV mn mx b r).map λy=>(x,y)
 |.cond t p q=>(qP mn mx b t).bind λc=>bif c then wP mn mx b p else wP mn mx b q
def zS(mn mx b:Int):List GS->Option (Int×Int)
 |[]=>none
 |s::r=>match s with
  |.asrt t=>(qP mn mx b t).bind λc=>bif c then zS mn mx b r else none
  |.ifR t p=>(qP mn mx b t).bind λc=>bif c then wP mn mx b p else zS mn mx b r
  |.ret p=>wP mn mx b p
noncomputable def gMul:List GS:=[.asrt (.cmp .GtE .mn (.lit 0)),.ifR .isint (.cond (.cmp .GtE .b (.lit 0)) (.pair (.bin .Mult .mn .b) (.bin .Mult .mx .b)) (.pair (.bin .Mult .mx .b) (.bin .Mult .mn .b)))]
noncomputable def gDiv:List GS:=[.asrt (.bop true (.cmp .GtE .mn (.lit 0)) .isint),.ret (.pair (.bin .FloorDiv .mn .b) (.bin .FloorDiv .mx .b))]
noncomputable def gMod:List GS:=[.asrt (.bop true (.cmp .GtE .mn (.lit 0)) .isint),.ifR (.bop false (.cmp .GtE (.bin .Sub .mx .mn) .b) (.bop true (.cmp .NotEq .mn .mx) (.cmp .GtE (.bin .Mod .mn .b) (.bin .Mod .mx .b)))) (.pair (.lit 0) (.bin .Sub .b (.lit 1))),.ret (.pair (.bin .Mod .mn .b) (.bin .Mod .mx .b))]
noncomputable def gM(K:Frag)(C:Addr)(n:Str):Addr:=match findIn K (.ref C) n with
 |some r=>(match r with
  |some v=>(match v with
   |.ref f=>f
   |_=>0)
  |none=>0)
 |none=>0
def dP:Str:=sT [103,101,116,95,98,111,117,110,100,115]
theorem Pq(P:Params):((kX (d4 (Kf P) (gM (Kf P) 471 dP))).take 2).map (gs (d4 (Kf P) (gM (Kf P) 471 dP)).scope)=gMul.map some:=by kernel_rfl!
theorem Pr(P:Params):(kX (d4 (Kf P) (gM (Kf P) 512 dP))).map (gs (d4 (Kf P) (gM (Kf P) 512 dP)).scope)=gDiv.map some:=by kernel_rfl!
theorem Ps(P:Params):(kX (d4 (Kf P) (gM (Kf P) 560 dP))).map (gs (d4 (Kf P) (gM (Kf P) 560 dP)).scope)=gMod.map some:=by kernel_rfl!
set_option tactic.hygienic true
structure SelfAt(γ:Gh)(envM:Env)(x:Addr):Prop where
 loc:∃o m,γ envM.locals=some (.raw o)/\Dk o m/\m jF=some (.ref x)
 kind:envM.kindOf jF=some .local
 fn:envM.scope.kind=.function
theorem SelfAt.step{X:List Addr}{γ bP:Gh}{ad dU:List Addr}{envM:Env}{x:Addr}(h:SelfAt γ envM x)(T:Step X γ bP ad dU)(h1:envM.locals∉ad)(h2:envM.locals∉X):SelfAt bP envM x:=
 let⟨o,m,a,b⟩:=h.loc
 ⟨⟨o,m,T.raw _ _ a h1 h2,b⟩,h.kind,h.fn⟩
section
variable{prog:Program}{w:World}{s₀ s s' bZ:Shared}{γ bP:Gh}{A:Around}{v:V}{u:Value}{x dx C:Addr}{fs:List (Str×V)}{envM:Env}{sc:Scope}{d:Nat}{cf:cO}{ta:T}{b:Int}
theorem SelfAt.frm(h:SelfAt γ envM x)(hS:St w s₀ γ s):Jf s₀ s:=by
 refine fM (h.loc) λo m a b _=>?_;exact⟨envM.locals,m,b.ns (hS.raw a),hS.keep,hS.ok.lo _ _ a rfl⟩
theorem kE(h:SelfAt γ envM x)(hS:St w s₀ γ s){p:Pos}{Q:Value->Shared->Prop}{E:Value->Shared->Prop}(q:Q (.ref x) s):wpAny (model prog w) A (eval (.Name jF p) envM) Q E s:=by
 refine fM (h.loc) λo m a b c=>?_;exact wpAny_Name (wpAny_loadName_local h.fn h.kind (b.ns (hS.raw a)) c q) (by decide+kernel)
theorem wQ(hB:Base w s₀)(h:SelfAt γ envM x)(hI:InsR γ x dx C fs)(hC:∃t:T,t.cls=C)(hS:St w s₀ γ s){n:Nm}(hn:n∈LT)(hl:cJ (sO n) fs=some v):wpAny (model prog w) A (getAttr (.ref x) (sO n) true) (PN w s₀ γ v) fW s:=by
 refine kW (hI.fld) λes k e2 r=>?_;obtain⟨t,rfl⟩:=hC;have I:InstAt s.heap x (instObj t.cls dx) t.cls (some (dictOf es k)):=⟨hS.raw hI.ins,rfl,rfl,hS.raw e2⟩;obtain⟨u,hu,hr⟩:=rD r hl;obtain⟨attr,ha,hg⟩:=F9 w.params t hn;obtain⟨L,m,F⟩:=h.frm hS;exact get_own F hB.K I (rU _ t _) (q9 _ t) ha hg hu hr.handed (.mk' hS hr)
structure GJ(γ:Gh)(envM:Env)(x dx C:Addr)(ta:T)(b:Int):Prop where
 self:SelfAt γ envM x
 ins:InsR γ x dx C [(DW,.node ta),(Da,.int b)]
 cls:∃t:T,t.cls=C
theorem GJ.step(h:GJ γ envM x dx C ta b)(T:Step [] γ bP [] []):GJ bP envM x dx C ta b:=⟨h.self.step T (by simp) (by simp),h.ins.step T (by simp) (by simp),h.cls⟩
def IK(prog:Program)(w:World)(s₀:Shared)(A:Around)(envM:Env)(x dx C:Addr)(ta:T)(b:Int)(e:Expr)(v:V):Prop:=∀s γ,GJ γ envM x dx C ta b->St w s₀ γ s->wpAny (model prog w) A (eval e envM) (PN w s₀ γ v) fW s
def MG(prog:Program)(w:World)(s₀:Shared)(A:Around)(envM:Env)(x dx C:Addr)(ta:T)(b:Int)(e:Expr)(c:Bool):Prop:=∀s γ,GJ γ envM x dx C ta b->St w s₀ γ s->wpAny (model prog w) A (isTrue e envM (eval e envM)) (PT w s₀ γ [] c []) fW s
theorem PN.trans(T:Step [] γ bP [] [])(h:PN w s₀ bP v u s):PN w s₀ γ v u s:=let⟨g,a,b,c⟩:=h;⟨g,a,T.trans b,c⟩
theorem pH{e:Expr}(h:wO e=true):∃p,e=.Name jF p:=On h nT λx p e h=>⟨p,by rw[e,fY h]⟩
theorem tR{o:Expr}{n:Str}{p:Pos}{Q:Value->Shared->Prop}(hb:wD o=true)(h:wpAny (model prog w) A (eval o envM) (λu bZ=>wpAny (model prog w) A (getAttr u n true) Q fW bZ) fW s):wpAny (model prog w) A (eval (.Attribute o n p) envM) Q fW s:=
 Attribute_any_ h (by show(do let x<-attributeBase o n envM (eval o envM);standAt p.atName;let r<-holding [x] (getAttr x n true);letTemporaryGo o x r;pure r)=_;rw[B6 hb])
theorem MH(hB:Base w s₀){o:Expr}{n:Str}{g:GX}{p:Pos}{i:Int}(h:QN o n=some g)(hi:nV ta.lo ta.hi b g=some i):IK prog w s₀ A envM x dx C ta b (.Attribute o n p) (.int i):=λs γ hJ hS=>by
 refine Je h (λh=>On h nS λy q e h=>dJ h λhc h=>fF hc λh1 h2=>?_) λh=>GU h nS λo' n' q e h=>dJ h λhc h=>fF hc λh1 h2=>?_
 ·obtain rfl:=aC h;obtain rfl:=aC hi;rw[e,fY h1,fY h2];exact tR rfl (kE hJ.self hS (wQ (n:=.b) hB hJ.self hJ.ins hJ.cls hS (by decide+kernel) rfl))
 ·obtain⟨q',e'⟩:=pH h1;rw[e,e',fY h2];refine tR rfl (tR rfl (kE hJ.self hS (aD (wQ (n:=.a) (v:=.node ta) hB hJ.self hJ.ins hJ.cls hS (by decide+kernel) rfl) (λlF bZ z=>?_) λ_ _ z=>z)))
  clear e e' h1 h2;obtain⟨aU,S1,T1,V1⟩:=z;refine V1.nodeI λa da ea=>?_;have F:=(hJ.step T1).self.frm S1;clear hS hJ;induction h3:lC n lS using Bool.casesOn with
  |true=>
   rw[h3]at h;obtain rfl:=aC h;obtain rfl:=aC hi;rw[fY h3];exact aD (B3 (n:=.min) hB S1 F ea rfl) (λ_ _ z=>z.trans T1) λ_ _ z=>z
  |false=>
   rw[h3]at h;refine dJ (show(bif lC n lT then some GX.mx else none)=some g from h) λh4 h=>?_;obtain rfl:=aC h;obtain rfl:=aC hi;rw[fY h4];exact aD (B3 (n:=.max) hB S1 F ea rfl) (λ_ _ z=>z.trans T1) λ_ _ z=>z
theorem Yo{l r:Expr}{op:Operator}{p:Pos}{c d:Int}{v:V}(h1:IK prog w s₀ A envM x dx C ta b l (.int c))(h2:IK prog w s₀ A envM x dx C ta b r (.int d))(h5:eY op c d=some v):IK prog w s₀ A envM x dx C ta b (.BinOp l op r p) v:=λs γ hJ hS=>by
 refine wpAny_BinOp (aD (h1 s γ hJ hS) (λlF bZ z=>?_) λ_ _ z=>z);obtain⟨aU,S1,T1,V1⟩:=z;refine aD (h2 bZ aU (hJ.step T1) S1) (λu₂ cZ z=>?_) λ_ _ z=>z;obtain⟨cL,S2,T2,V2⟩:=z;refine V1.intI λt1=>?_;refine V2.intI λt2=>?_;exact aD (Dn S2 h5) (λ_ _ z=>z.trans (T1.trans T2)) λ_ _ z=>z
theorem zT(hB:Base w s₀):∀(n:Nat) {e:Expr} {g:GX} {i:Int},gx n e=some g->nV ta.lo ta.hi b g=some i->IK prog w s₀ A envM x dx C ta b e (.int i)
 |0,_,_,_,h,_=>aY h
 |n+1,e,g,i,h,hi=>by
  refine Je h (λh=>cstE h nS λc k p e h=>intE h nS λj ec h=>?_) λh=>Je h (λh=>binE h nS λl op r p e h=>bH h λgl h1 h=>eV h λgr h2 h=>?_) λh=>GU h nS λo a p e h=>e▸MH hB h hi
  ·obtain rfl:=aC h;obtain rfl:=aC hi;subst e ec;exact λs γ hJ hS=>wpAny_Constant_int (.mk' hS (.int ..))
  ·subst h;refine bH hi λx h3 hi=>bH hi λy h4 hi=>bH hi λv h5 hi=>?_;induction v using V.casesOn with
   |int i=>refine e9 hi ?_;exact e▸Yo (zT hB n h1 h3) (zT hB n h2 h4) h5
   |_=>exact aY hi
end
set_option tactic.hygienic false
theorem BI{sc:Scope}{x:Str}(h:Dh sc x=true):cJ x sc.names=some .globalImplicit:=lL h
section
variable{prog:Program}{w:World}{s₀ s s' bZ:Shared}{γ bP:Gh}{A:Around}{v:V}{u:Value}{x dx C:Addr}{fs:List (Str×V)}{envM:Env}{sc:Scope}{d:Nat}{cf:cO}{ta:T}{b:Int}
theorem BK(hB:Base w s₀)(hE:EnvOk envM sc)(hS:St w s₀ γ s){y:Str}{p:Pos}{n:Bi}(hx:cJ y sc.names=some .globalImplicit)(hb:cJ y biT=some n){Q:Value->Shared->Prop}{E:Value->Shared->Prop}(q:Q (yZ n) s):wpAny (model prog w) A (eval (.Name y p) envM) Q E s:=by
 have hm:=aW.mp (bi1 w.params) _ (mV hb);simp only[a9,beq_iff_eq,Bool.not_eq_true',cK]at hm;obtain⟨⟨⟨h1,h2⟩,h3⟩,h4⟩:=hm;have hk:envM.kindOf y=some .globalImplicit:=by rcases hE.names y _ hx with q|⟨q,_⟩<;>first|exact q|cases q
 refine A9 (hB.top) λp' lo mg mb T=>?_;have T':=T.keeps hS.keep;exact Name_function_global hE.kind hk (loadGlobal_builtin (by rw[hE.globals];exact T'.g) (mg_none_of hB.K T.g h1) (by rw[hE.builtins];exact T'.b) ((T.builtins y h3).trans h2) q) (cK.mpr h4)
theorem PT.pn{c c':Bool}(h:PT w s₀ γ [] c [] c' s):c'=c/\∃bP,St w s₀ bP s/\Step [] γ bP [] []:=by
 obtain⟨rfl,bP,dU,S,C,T⟩:=h;exact⟨rfl,bP,S,T.drop⟩
theorem PT.of{c:Bool}(hS:St w s₀ bP s)(T:Step [] γ bP [] []):PT w s₀ γ [] c [] c s:=⟨rfl,bP,[],hS,CsOk.nil w bP,T⟩
theorem Yp(hB:Base w s₀){l r:Expr}{op:CmpOp}{p:Pos}{g:GT}{c:Bool}(h:QO op l r=some g)(hi:qP ta.lo ta.hi b g=some c):MG prog w s₀ A envM x dx C ta b (.Compare l [op] [r] p) c:=λs γ hJ hS=>by
 refine dJ h ?_;clear h;intro hn h;refine bH h ?_;clear h;intro gl h1 h;refine eV h ?_;clear h;intro gr h2 h;subst h;refine bH hi ?_;clear hi;intro i h3 hi;refine bH hi ?_;clear hi;intro j h4 hi;refine wpAny_isTrue_Compare1 (aD (zT hB 9 h1 h3 s γ hJ hS) (λlF bZ z=>?_) λ_ _ z=>z) (zD op hn);obtain⟨aU,S1,T1,V1⟩:=z;refine aD (zT hB 9 h2 h4 bZ aU (hJ.step T1) S1) (λu₂ cZ z=>?_) λ_ _ z=>z;obtain⟨cL,S2,T2,V2⟩:=z;refine V1.intI λt1=>?_;refine V2.intI λt2=>?_;refine aD (FC S2 hi) (λu₃ lR z=>?_) λ_ _ z=>z;obtain⟨iY,S3,T3,V3⟩:=z;exact aD (sW S3 (CsOk.nil w iY) V3 (show eM (.bool c) []=some c from rfl)) (λ_ _ z=>z.trans ((T1.trans T2).trans T3)) λ_ _ z=>z
theorem Yq{n:Nat}(IH:∀{e:Expr} {g:GT} {c:Bool},gt sc n e=some g->qP ta.lo ta.hi b g=some c->MG prog w s₀ A envM x dx C ta b e c){op:BoolOp}{y z:Expr}{p:Pos}{g:GT}{c:Bool}(h:((gt sc n y).bind λa=>(gt sc n z).map λb=>GT.bop (MF op) a b)=some g)(hi:qP ta.lo ta.hi b g=some c):MG prog w s₀ A envM x dx C ta b (.BoolOp op [y,z] p) c:=λs γ hJ hS=>by
 refine bH h ?_;clear h;intro g1 h1 h;refine eV h ?_;clear h;intro g2 h2 h;subst h;replace hi:((qP ta.lo ta.hi b g1).bind λx=>bif (MF op)then(bif x then qP ta.lo ta.hi b g2 else some false)else(bif x then some true else qP ta.lo ta.hi b g2))=some c:=hi;refine bH hi ?_;clear hi;intro c1 h3 hi;have first:=IH h1 h3 s γ hJ hS;induction op using PySem.BoolOp.casesOn with
 |And=>
  refine isTrue_and (aD first (λc' bZ q=>?_) λ_ _ z=>z);refine Bt (q.pn) λzr0 aU S1 T1=>?_;subst zr0;induction c' using Bool.casesOn with
  |false=>rw[<-aC hi];exact .of S1 T1
  |true=>
   refine isTrue_and (aD (IH h2 hi bZ aU (hJ.step T1) S1) (λc' cZ q=>?_) λ_ _ z=>z);refine Bt (q.pn) λzr0 cL S2 T2=>?_;subst zr0;induction c' using Bool.casesOn with
   |false=>exact .of S2 (T1.trans T2)
   |true=>exact isTrue_and_nil (.of S2 (T1.trans T2))
 |Or=>
  refine isTrue_or (aD first (λc' bZ q=>?_) λ_ _ z=>z);refine Bt (q.pn) λzr0 aU S1 T1=>?_;subst zr0;induction c' using Bool.casesOn with
  |true=>rw[<-aC hi];exact .of S1 T1
  |false=>
   refine isTrue_or (aD (IH h2 hi bZ aU (hJ.step T1) S1) (λc' cZ q=>?_) λ_ _ z=>z);refine Bt (q.pn) λzr0 cL S2 T2=>?_;subst zr0;induction c' using Bool.casesOn with
   |true=>exact .of S2 (T1.trans T2)
   |false=>exact isTrue_or_nil (.of S2 (T1.trans T2))
theorem gt_b{y z:Str}{o:Expr}{g:GT}(h:EL sc y z o=some g):gx 9 o=some .b/\y=oJ/\z=CY/\Dh sc y=true/\Dh sc z=true/\g=GT.isint:=
 bH h λg' hg h=>dJ h λhc h=>fF hc λc0 hc=>fF hc λhc c4=>fF hc λhc c3=>fF hc λc1 c2=>
  ⟨hg.trans (congrArg some (GX.b.elim (motive:=λz=>z=.b) g' (aA c0) rfl)),fY c1,fY c2,c3,c4,(aC h).symm⟩
theorem Pu(hB:Base w s₀)(hE:EnvOk envM sc){y z:Str}{o:Expr}{q r p:Pos}{g:GT}{c:Bool}(h:EL sc y z o=some g)(hi:qP ta.lo ta.hi b g=some c):MG prog w s₀ A envM x dx C ta b (.Call (.Name y q) [o,.Name z r] [] p) c:=λs γ hJ hS=>by
 refine Xv (gt_b h) λhg zr1 zr2 c3 c4 zr5=>?_;subst zr1;subst zr2;subst zr5;rw[<-aC hi];clear h hi;refine isTrue_plain ?_ rfl;show wpAny _ _ (do callWith p (<-eval (.Name oJ q) envM) [] (backTo p (starEach [o,.Name CY r] envM)) (backToKw p (keywordEach [] envM))) _ _ _
 have hst:gE [o,.Name CY r]=true:=by induction o using PySem.Expr.casesOn<;>first|rfl|exact aY hg
 refine bF (BK hB hE hS (n:=.isinstance) (BI c3) rfl (callWith_of (P:=λ_=>True) (by rw[Dp hst];rfl) (λhh X=>⟨.machine,.inr (.inl rfl),Looks.of_pure rfl⟩) ?_))
 refine evalArgs_kw2 rfl (args_cons (aD (zT hB 9 hg (i:=b) rfl s γ hJ hS) (λlF bZ z=>?_) λ_ _ z=>z) (mS hst envM).1) (mS hst envM).1;obtain⟨aU,S1,T1,V1⟩:=z;refine args_cons (BK hB hE S1 (n:=.int) (BI c4) rfl (args_nil (kwAll_nil ⟨trivial,?_⟩))) (mS (mS hst envM).2 envM).1;refine aD (AH hB S1 V1 (VR.bi Bi.int) (b:=true) rfl) (λu₂ cZ z=>?_) λ_ _ z=>z;obtain⟨cL,S2,T2,V2⟩:=z;exact aD (sW S2 (CsOk.nil w cL) V2 (show eM (.bool true) []=some true from rfl)) (λ_ _ z=>z.trans (T1.trans T2)) λ_ _ z=>z
theorem MI(hB:Base w s₀)(hE:EnvOk envM sc)(n:Nat):∀{e:Expr} {g:GT} {c:Bool},gt sc n e=some g->qP ta.lo ta.hi b g=some c->MG prog w s₀ A envM x dx C ta b e c:=by
 induction n with
 |zero=>exact λh _=>aY h
 |succ n ih=>
  refine λ{e g c} h hi=>Je h (λh=>cmpE h nS λl ops xs p e h=>Ec h nS λop e1 h=>Ec h nS λx e2 h=>?_) λh=>Je h (λh=>bopE h nS λop es p e h=>Ol h nS λy z e1 h=>?_)
   λh=>Oo h nS λf args kws p e h=>On h nS λy q e1 h=>Ol h nS λo c e2 h=>On h nS λz r e3 h=>NQ h nS λe4 h=>?_
  ·subst e1 e2;exact e▸Yp hB h hi
  ·subst e1;exact e▸Yq ih h hi
  ·subst e1 e3 e4;subst e2;exact e▸Pu hB hE h hi
end
set_option tactic.hygienic true
section
variable{prog:Program}{w:World}{s₀ s s' bZ:Shared}{γ bP:Gh}{A:Around}{v:V}{u:Value}{x dx C:Addr}{fs:List (Str×V)}{envM:Env}{sc:Scope}{d:Nat}{cf:cO}{ta:T}{b:Int}
theorem MJ(hB:Base w s₀)(hE:EnvOk envM sc):∀(n:Nat) {e:Expr} {g:GP} {r:Int×Int},gp sc n e=some g->wP ta.lo ta.hi b g=some r->IK prog w s₀ A envM x dx C ta b e (.tup [.int r.1,.int r.2])
 |0,_,_,_,h,_=>aY h
 |n+1,e,g,r,h,hi=>λs γ hJ hS=>by
  refine Je h (λh=>Lq h nS λes k p e h=>Ol h nS λy z e1 h=>dJ h λhst h=>bH h λg1 h1 h=>eV h λg2 h2 h=>?_) λh=>iteE h nS λt y z p e h=>bH h λg0 h0 h=>bH h λg1 h1 h=>eV h λg2 h2 h=>?_
  ·subst h e1;refine bH hi λi h3 hi=>eV hi λj h4 hi=>?_;subst hi e;refine Tuple_ (args_cons (aD (zT hB 9 h1 h3 s γ hJ hS) (λlF bZ z=>?_) λ_ _ z=>z) (mS hst envM).1);obtain⟨aU,S1,T1,V1⟩:=z;refine args_cons (aD (zT hB 9 h2 h4 bZ aU (hJ.step T1) S1) (λu₂ cZ z=>args_nil ?_) λ_ _ z=>z) (mS (mS hst envM).2 envM).1;obtain⟨cL,S2,T2,V2⟩:=z;exact aD (sV S2 (.cons (V1.step T2) (.cons V2 .nil)) (by simp)) (λ_ _ z=>z.trans (T1.trans T2)) λ_ _ z=>z
  ·subst h;refine bH (show((qP ta.lo ta.hi b g0).bind λc=>bif c then wP ta.lo ta.hi b g1 else wP ta.lo ta.hi b g2)=some r from hi) λc h3 hi=>?_;subst e;refine wpAny_IfExp (aD (MI hB hE 9 h0 h3 s γ hJ hS) (λc' bZ q=>?_) λ_ _ z=>z);refine Bt (q.pn) λzr0 aU S1 T1=>?_;subst zr0;induction c' using Bool.casesOn with
   |true=>exact aD (MJ hB hE n h1 hi bZ aU (hJ.step T1) S1) (λ_ _ z=>z.trans T1) λ_ _ z=>z
   |false=>exact aD (MJ hB hE n h2 hi bZ aU (hJ.step T1) S1) (λ_ _ z=>z.trans T1) λ_ _ z=>z
inductive PR(w:World)(s₀:Shared)(γ:Gh)(v:V)(f:Flow)(s':Shared):Prop
 |mk (u:Value) (bP:Gh):f=.ret u->St w s₀ bP s'->Step [] γ bP [] []->VR bP [] v u->PR w s₀ γ v f s'
theorem PR.trans{f:Flow}(T:Step [] γ bP [] [])(h:PR w s₀ bP v f s):PR w s₀ γ v f s:=let⟨u,g,e,a,b,c⟩:=h;⟨u,g,e,a,T.trans b,c⟩
theorem MK(hB:Base w s₀)(hE:EnvOk envM sc){e:Expr}{p:Pos}{q:GP}{r:Int×Int}(h1:gp sc 9 e=some q)(h2:wP ta.lo ta.hi b q=some r)(hJ:GJ γ envM x dx C ta b)(hS:St w s₀ γ s):wpAny (model prog w) A (exec (.Return (some e) p) envM) (PR w s₀ γ (.tup [.int r.1,.int r.2])) fW s:=
 wpAny_Return_some (aD (MJ hB hE 9 h1 h2 _ _ hJ hS) (λu cZ z=>by obtain⟨g,a,b,c⟩:=z;exact⟨u,g,rfl,a,b,c⟩) λ_ _ z=>z)
theorem ML(hB:Base w s₀)(hE:EnvOk envM sc){r:Int×Int}(rest:List Stmt):∀{body:List Stmt} {gl:List GS},body.map (gs sc)=gl.map some->zS ta.lo ta.hi b gl=some r->∀s γ,GJ γ envM x dx C ta b->St w s₀ γ s->wpAny (model prog w) A (execs (body++rest) envM) (PR w s₀ γ (.tup [.int r.1,.int r.2])) fW s
 |[],[],_,h=>aY h
 |[],_::_,h,_=>nomatch h
 |_::_,[],h,_=>nomatch h
 |c::body,g::gl,h,hi=>λs γ hJ hS=>by
  obtain⟨h1,h2⟩:=List.cons.inj h;refine wpAny_execs_cons ?_;refine Je h1 (λh1=>asrE h1 nS λt m p e h1=>dJ h1 λcm h1=>eV h1 λg0 h0 h1=>?_) λh1=>Je h1 (λh1=>ifE h1 nS λt a o p e h1=>NQ h1 nS λeo h1=>Ec h1 nS λrs ea h1=>Os h1 nS λex q er h1=>bH h1 λe' eq h1=>bH h1 λg0 h0 h1=>eV h1 λg1 h4 h1=>?_) λh1=>Os h1 nS λex p e h1=>bH h1 λe' eq h1=>eV h1 λg0 h0 h1=>?_
  ·rw[e,fZ.mp cm];clear h;subst h1;refine bH (show((qP ta.lo ta.hi b g0).bind λc=>bif c then zS ta.lo ta.hi b gl else none)=some r from hi) λc h3 hi=>dJ hi λhc hi=>?_;subst hc;refine wpAny_Assert_holds (aD (MI hB hE 9 h0 h3 s γ hJ hS) (λc' bZ q=>?_) λ_ _ z=>z);refine Bt (q.pn) λzr0 aU S1 T1=>?_;subst zr0;exact⟨rfl,aD (ML hB hE rest h2 hi bZ aU (hJ.step T1) S1) (λ_ _ z=>z.trans T1) λ_ _ z=>z⟩
  ·rw[e,eo,ea,er,eq];clear h;subst h1;refine bH (show((qP ta.lo ta.hi b g0).bind λc=>bif c then wP ta.lo ta.hi b g1 else zS ta.lo ta.hi b gl)=some r from hi) λc h3 hi=>?_;refine wpAny_If (aD (MI hB hE 9 h0 h3 s γ hJ hS) (λc' bZ q=>?_) λ_ _ z=>z);refine Bt (q.pn) λzr0 aU S1 T1=>?_;subst zr0;induction c' using Bool.casesOn with
   |true=>
    refine wpAny_execs_cons (aD (MK hB hE h4 hi (hJ.step T1) S1) (λf cZ z=>?_) λ_ _ z=>z);obtain⟨u,g,rfl,a,b,c⟩:=z;exact⟨u,g,rfl,a,T1.trans b,c⟩
   |false=>exact wpAny_execs_nil (aD (ML hB hE rest h2 hi bZ aU (hJ.step T1) S1) (λ_ _ z=>z.trans T1) λ_ _ z=>z)
  ·rw[e,eq];clear h;subst h1;refine aD (MK hB hE h0 hi hJ hS) (λf cZ z=>?_) λ_ _ z=>z;obtain⟨u,g,rfl,a,b,c⟩:=z;exact⟨u,g,rfl,a,b,c⟩
end
set_option tactic.hygienic false
def kP:Str:=sT [95,95,105,110,105,116,95,95]
def ZA(K:Frag):List Addr:=[gM K 471 dP,gM K 512 dP,gM K 560 dP,gM K 644 dP,gM K 331 kP,gM K 277 kP,gM K 471 kP,gM K 644 kP]
theorem xent(P:Params):(ZA (Kf P)).all (λa=>wM (Kf P) (a,xR (Kf P) a []))=true:=by kernel_rfl!
theorem xb1(P:Params)(S:Setting)(u:Value):[471,512,560,644].map (λC=>peek (Kf P) S (bindArgs (d4 (Kf P) (gM (Kf P) C dP)) ⟨[u],[]⟩))=[471,512,560,644].map (λ_=>some [(jF,u)]):=by kernel_rfl!
theorem xnm(P:Params):[471,512,560,644].map (λC=>j0 (Kf P) (gM (Kf P) C dP))=[471,512,560,644].map (λ_=>[jF]):=by kernel_rfl!
theorem xloc(P:Params):[471,512,560,644].all (λC=>(d4 (Kf P) (gM (Kf P) C dP)).scope.names.lookup jF==some .local)=true:=by kernel_rfl!
section
variable{prog:Program}{w:World}{s₀ s s' bZ:Shared}{γ bP:Gh}{A:Around}{v:V}{u:Value}{x dx C:Addr}{fs:List (Str×V)}{envM:Env}{sc:Scope}{d:Nat}{cf:cO}{ta:T}{b:Int}
theorem QP(P:Params){a:Addr}(h:a∈ZA (Kf P)):Ent (Kf P) a (xR (Kf P) a []):=EJ (aW.mp (xent P) _ h) rfl
theorem b_mem(P:Params):∀C∈[471,512,560,644],gM (Kf P) C dP∈ZA (Kf P):=λC h=>by
 unfold ZA;simp only[a7,fK,or_false]at h;rcases h with rfl|rfl|rfl|rfl<;>simp
end
theorem xD(is:List Int):∀k,k<=is.length->preSum (λi=>(is[i]?).getD 0) k=(is.take k).sum
 |0,_=>rfl
 |k+1,h=>by
  have hk:k<is.length:=h;rw[preSum];rw[xD is k (bD hk),List.take_add_one,List.getElem?_eq_getElem hk,List.sum_append];simp
section
variable{prog:Program}{w:World}{s₀ s s' bZ:Shared}{γ bP:Gh}{A:Around}{v:V}{u:Value}{x dx C:Addr}{fs:List (Str×V)}{envM:Env}{sc:Scope}{d:Nat}{cf:cO}{ta:T}{b:Int}
theorem Yr(hh:A.handled=none)(hS:St w s₀ γ s){a eb:Addr}{ob:Obj}{vs:Array Value}(he:γ eb=some (.raw ob))(hl:s.heap.IsList a vs){is:List Int}(hv:AllR (VR γ []) (is.map V.int) vs.toList):
  wpAny (model prog w) A (call (.builtin "sum") [.ref a]) (PN w s₀ γ (.int is.sum)) fW s:=by
 have eW:is.length=vs.size:=by have:=hv.length;simpa using this
 refine call_sum_walkAnyS (wpAny_pyIter_list hl ?_);have ha:a<s.heap.objs.size:=by refine i8 (hl) λo h _=>?_;exact Heap.lt_size h
 refine⟨s.heap.objs.size,_,_,_,_,_,_,λi=>(is[i]?).getD 0,rfl,(Walks.list (prog:=prog) (w:=w) (A:=A.in1) hh s.heap.objs.size a (eU ha) vs).toS,⟨⟨_,Heap.get?_push_size _ rfl,rfl,rfl⟩,?_⟩,λc hc=>?_,λi v hi=>?_,λs' t' hm=>?_⟩
 ·refine i8 (hl) λo h r=>?_;exact⟨o,Heap.get?_push_of_some _ h,r⟩
 ·simp only[a7,fK,or_false]at hc;rw[Heap.size_push];clear hl;rcases hc with rfl|rfl
  ·exact fL _
  ·exact Nat.lt_succ_of_lt ha
 ·refine i8 (hv.get' (i:=i) (b:=v) (by simpa using hi)) λc hc r=>?_
  rw[List.getElem?_map]at hc;refine eV hc ?_;clear hc;intro j hj e;subst e;clear hi;refine r.intI λt=>?_;exact⟨t,by show Value.int j t=Value.int ((is[i]?).getD 0) t;rw[hj];rfl⟩
 ·rw[<-eW,xD is _ (cA _),List.take_length];refine .mk' (hS.grow' (s':=s') he (λb o h=>hm.heap b o ?_ (Heap.get?_push_of_some _ h)) hm.gens hm.os) (.int ..);simp only[aN];exact eU (Heap.lt_size h)
end
set_option tactic.hygienic true
def Pv(e:Expr):Bool:=u5 false e λo a _=>wO o&&lC a lG
noncomputable def xVar(i:Nat)(o:X):Bool:=X.casesOn (motive_1:=λ_=>Bool) o false (λj=>Nat.beq i j) (λ_=>false) (λ_=>false) false (λ_=>false) (λ_=>false) (λ_=>false) (λ_ _ _=>false) (λ_=>false) (λ_=>false) (λ_ _=>false) (λ_ _=>false) (λ_ _ _=>false) (λ_ _ _=>false) (λ_=>false) (λ_=>false) false (λ_ _=>false) (λ_ _=>false) (λ_ _=>false) (λ_ _ _ _=>false) (λ_ _ _=>false) (λ_ _ _ _=>false) (λ_ _ _ _ _=>false) (λ_ _ _ _=>false)
def xAt(m:Nm)(i:Nat)(x:X):Bool:=X.casesOn (motive_1:=λ_=>Bool) x false (λ_=>false) (λ_=>false) (λ_=>false) false (λ_=>false) (λ_=>false) (λ_=>false) (λ_ _ _=>false) (λ_=>false) (λ_=>false) (λ_ _=>false) (λ_ _=>false) (λ_ _ _=>false) (λ_ _ _=>false) (λ_=>false) (λ_=>false) false (λo k=>xVar i o&&decide (k=m)) (λ_ _=>false) (λ_ _=>false) (λ_ _ _ _=>false) (λ_ _ _=>false) (λ_ _ _ _=>false) (λ_ _ _ _ _=>false) (λ_ _ _ _=>false)
theorem Pw{m:Nm}{i:Nat}{x:X}(h:xAt m i x=true):x=.attr (.var i) m:=by
 induction x using X.casesOn with
 |attr o k=>
  refine fF h λh1 h2=>?_;rw[aM h2];induction o using X.casesOn with
  |var j=>rw[aA h1]
  |_=>exact bX h1
 |_=>exact bX h
def sbArg(sc:Scope)(m:Nm)(e:Expr):Bool:=Op false e λelt gens dA _=>w7 false gens λg=>decide (g.is_async=0)&&g.ifs.isEmpty&&jS sc dA (jR g.target)&&gD g.iter&&Pv g.iter&&w7 false (uB dA g.target) λi=>xAt m i (er 20 dA elt)
def sb(sc:Scope)(m:Nm)(e:Expr):Bool:=yN false e λf args kws _=>qN false f λy _=>w7 false args λc=>Au false kws (lC y AD&&Dh sc y&&sbArg sc m c)
def EM(sc:Scope)(body:List Stmt):Bool:=w7 false body λc=>AB false c λe _=>pU false e λe=>t7 false e λes _ _=>AA false es λa b=>gE [a,b]&&sb sc .min a&&sb sc .max b
theorem Px(P:Params):EM (d4 (Kf P) (gM (Kf P) 644 dP)).scope (kX (d4 (Kf P) (gM (Kf P) 644 dP)))=true:=by kernel_rfl!
noncomputable def fB:cO:=λ_ _ _=>none
theorem oY{prog:Program}{w:World}{s₀:Shared}{d:Nat}:q8 prog w s₀ d fB:=λ_ _ _ _ _ _ _ _ _ _ _ _ _ _ h=>by exact aY h
theorem AX{m:Nm}{val:T->Int}(hval:∀t env cs i,dZ i env=some (.node t)->dI fB (bJ fB 1) (.attr (.var i) m) env cs=some (.int (val t),cs))(i:Nat):∀(ts:List T) (cs:Cs),dH (bJ fB 2) [i] [] [] (fR (bJ fB 2) (.attr (.var i) m)) (ts.map V.node) cs=some ((ts.map val).map V.int,cs)
 |[],_=>rfl
 |t::ts,cs=>by
  have hl:dZ i [(i,V.node t)]=some (.node t):=by show(bif Nat.beq i i then _ else _)=_;rw[kK];rfl
  show((fR (bJ fB 2) (.attr (.var i) m) [(i,.node t)] cs).bind λq=>(dH (bJ fB 2) [i] [] [] (fR (bJ fB 2) (.attr (.var i) m)) (ts.map V.node) q.2).map λz=>(q.1++z.1,z.2))=_;have:fR (bJ fB 2) (.attr (.var i) m) [(i,.node t)] cs=some ([.int (val t)],cs):=by
   show((dI fB (bJ fB 1) (.attr (.var i) m) [(i,.node t)] cs).bind λx=>(a8 x.1 x.2).map λy=>([y.1],y.2))=_;rw[hval t _ cs i hl];rfl
  rw[this];show((dH (bJ fB 2) [i] [] [] (fR (bJ fB 2) (.attr (.var i) m)) (ts.map V.node) cs).map λz=>([V.int (val t)]++z.1,z.2))=_;rw[AX hval i ts cs];rfl
section
variable{prog:Program}{w:World}{s₀ s s' bZ:Shared}{γ bP:Gh}{A:Around}{v:V}{u:Value}{x dx C:Addr}{fs:List (Str×V)}{envM:Env}{sc:Scope}{d:Nat}{cf:cO}{ta:T}{b:Int}
structure GN(γ:Gh)(envM:Env)(x dx C:Addr)(ts:List T):Prop where
 self:SelfAt γ envM x
 ins:InsR γ x dx C [(lG,.lst (ts.map V.node))]
 cls:∃t:T,t.cls=C
 fm:FmOk γ [] envM []
theorem GN.step{ts:List T}(h:GN γ envM x dx C ts)(T:Step [] γ bP [] []):GN bP envM x dx C ts:=⟨h.self.step T (by simp) (by simp),h.ins.step T (by simp) (by simp),h.cls,h.fm.step T⟩
theorem QR(hB:Base w s₀)(hR:Room A d 1)(hE:EnvOk envM sc){m:Nm}{val:T->Int}(hval:∀t env cs i,dZ i env=some (.node t)->dI fB (bJ fB 1) (.attr (.var i) m) env cs=some (.int (val t),cs)){ts:List T}(hz:ts.length<=1000){e:Expr}(h:sb sc m e=true)
  (hJ:GN γ envM x dx C ts) (hS:St w s₀ γ s):wpAny (model prog w) A (eval e envM) (PN w s₀ γ (.int (ts.map val).sum)) fW s:=by
 refine Oo h nT λf args kws p e h=>On h nT λy q ef h=>Ec h nT λc ea h=>NQ h nT λek h=>fF h λh h3=>fF h λh1 h2=>lCE h3 nT λelt gens dA p' ec h3=>Ec h3 nT λg eg h3=>fF h3 λh3 k6=>fF h3 λh3 k5=>fF h3 λh3 k4=>fF h3 λh3 k3=>fF h3 λk1 k2=>Ec k6 nT λi hi k6=>?_;have hk:=Pw k6;have hg:=gEq (aM k1) (eI.mp k2);rw[e,ef,ea,ek,ec,eg,fY h1];have h2:Dh sc AD=true:=fY h1▸h2;clear h h1 h3 k1 k2 k6 e ef ea ek ec eg;refine GU k5 nT λo a q' ei l=>fF l λl2 l3=>?_;clear k5 l;obtain⟨q2,eo⟩:=pH l2;show wpAny _ _ (do callWith p (<-eval (.Name AD q) envM) [] (backTo p (starEach [.ListComp elt _ dA p'] envM)) (backToKw p (keywordEach [] envM))) _ _ _
 refine bF (BK hB hE hS (n:=.sum) (BI h2) rfl (callWith_of (P:=λ_=>True) rfl (λhh X=>⟨.machine,.inr (.inl rfl),Looks.of_pure rfl⟩) ?_));clear h2;refine uY (oN (prog:=prog) hB (oY (d:=d)) hR 2) λIE IT _ _=>?_;obtain⟨ol,hol⟩:=hJ.fm.locRaw;refine evalArgs_kw2 rfl (args_cons (aD (Q:=PE w s₀ γ [] (.own 0) [⟨false,.lst ((ts.map val).map V.int)⟩]) ?_ (λlF bZ z=>args_nil (kwAll_nil ⟨trivial,?_⟩)) λ_ _ z=>z) rfl) rfl
 ·rw[eval_ListComp,hg];refine FP (n:=20) (use:=none) (env:=[]) (x:=(.lst (ts.map V.node),[])) (l:=ts.map V.node) (csF:=[]) hR.hand IE IT hE k3 k4 (qO _ _) (by rw[hi];rfl) hJ.fm ?_ ?_ (by rw[hi,hk];exact AX hval i ts []) (xV (λo=>⟨_,rfl⟩) rfl)
  ·rw[ei,eo,fY l3];exact tR rfl (kE hJ.self hS (aD (wQ (n:=.nodes) hB hJ.self hJ.ins hJ.cls hS (by decide+kernel) rfl) (λ_ _ z=>z.pe (CsOk.nil w γ)) λ_ _ z=>z))
  ·show(bif Nat.ble (ts.map V.node).length 1000 then some (ts.map V.node,[])else none)=_;rw[aT,aV hz];rfl
 ·obtain⟨aU,bN,S1,C1,T1,V1⟩:=z;refine fM (rW S1 C1 V1 (l:=(ts.map val).map V.int) rfl) λa vs zr2 q1 q2=>?_;subst zr2;exact aD (Yr hR.hand S1 (T1.raw _ _ hol (by simp) (by simp)) q1 q2) (λ_ _ z=>z.trans T1.drop) λ_ _ z=>z
theorem FU:∀ts:List T,(ts.map T.hi).sum=T.his ts
 |[]=>rfl
 |t::ts=>by rw[bO,eJ,FU ts];rfl
theorem FV:∀ts:List T,(ts.map T.lo).sum=T.los ts
 |[]=>rfl
 |t::ts=>by rw[bO,eJ,FV ts];rfl
theorem Py(t:T)(env:Ev)(cs:Cs)(i:Nat)(h:dZ i env=some (.node t)):dI fB (bJ fB 1) (.attr (.var i) .min) env cs=some (.int t.lo,cs):=by
 show(((dZ i env).map λv=>(v,cs)).bind λp=>(jD fB p.1 .min).map λv=>(v,p.2))=_;rw[h];rfl
theorem Pz(t:T)(env:Ev)(cs:Cs)(i:Nat)(h:dZ i env=some (.node t)):dI fB (bJ fB 1) (.attr (.var i) .max) env cs=some (.int t.hi,cs):=by
 show(((dZ i env).map λv=>(v,cs)).bind λp=>(jD fB p.1 .max).map λv=>(v,p.2))=_;rw[h];rfl
theorem IL(hB:Base w s₀)(hR:Room A d 1)(hE:EnvOk envM sc){ts:List T}(hz:ts.length<=1000){body:List Stmt}(h:EM sc body=true)(hJ:GN γ envM x dx C ts)(hS:St w s₀ γ s):
  wpAny (model prog w) A (execs body envM) (PR w s₀ γ (.tup [.int (T.los ts),.int (T.his ts)])) fW s:=by
 refine Ec h nT λc ec h=>Os h nT λe p er h=>oQ (Q:=λz=>z=true->wpAny _ _ _ _ _ _) (λh=>bX h) (λe' ee h=>Lq h nT λes k p' et h=>Ol h nT λa b es h=>fF h λh h2=>fF h λhst h1=>?_) h;clear h;rw[ec,er,ee,et,es,<-FU,<-FV];clear ec er ee et es;refine wpAny_execs_cons (wpAny_Return_some (Tuple_ (args_cons (aD (QR hB hR hE Py hz h1 hJ hS) (λlF bZ z=>?_) λ_ _ z=>z) (mS hst envM).1)));obtain⟨aU,S1,T1,V1⟩:=z;refine args_cons (aD (QR hB hR hE Pz hz h2 (hJ.step T1) S1) (λu₂ cZ z=>args_nil ?_) λ_ _ z=>z) (mS (mS hst envM).2 envM).1;obtain⟨cL,S2,T2,V2⟩:=z;refine aD (sV S2 (.cons (V1.step T2) (.cons V2 .nil)) (by simp)) (λu s z=>?_) λ_ _ z=>z
 obtain⟨iY,S3,T3,V3⟩:=z;exact⟨u,iY,rfl,S3,(T1.trans T2).trans T3,V3⟩
end
inductive IS where
 |tup (ns:List Str) (es:List X)
 |bnd (ns:List Str)
 |one (n:Str) (e:X)
 |asrt (e:X)
def Dz(e:Expr):Option Str:=u5 none e λo a _=>bif wO o&&Z9.any (lC a)then some a else none
def qQ:List Expr->Option (List Str)
 |[]=>some []
 |e::r=>(Dz e).bind λa=>(qQ r).map λl=>a::l
def isB(e:Expr):Bool:=yN false e λf args kws p=>u5 false f λo a ap=>Au false args (Au false kws (wO o&&lC a dP&&Nat.beq ap.endLine p.line))
def isT(sc:Scope)(es:List Expr)(e:Expr):Option IS:=(t7 none e λvs _ _=>bif gE vs&&!es.isEmpty then(qQ es).map λns=>.tup ns (vs.map (er 20 sc))else none).or
 (bif isB e then(qQ es).map IS.bnd else none)
def ZB(sc:Scope)(s:Stmt):Option IS:=(Fv none s λts e _=>w7 none ts λt=>(t7 none t λes _ _=>isT sc es e).or (bif l8 e then(Dz t).map λn=>.one n (er 20 sc e)else none)).or
 (Fu none s λt m _=>bif m.isNone then some (.asrt (er 20 sc t))else none)
noncomputable def iNum:List IS:=[.asrt (.call (.bi .isinstance) [.var 49,.bi .int] []),.one Da (.var 49),.tup [lS,lT] [.var 49,.var 49]]
noncomputable def iVar:List IS:=[.tup [rQ,lS,lT] [.var 46,.var 44,.var 45],.one u6 .none]
noncomputable def iOp:List IS:=[.tup [DW,Da] [.var 41,.var 2],.bnd [lS,lT]]
noncomputable def iRed:List IS:=[.one lG (.var 4),.bnd [lS,lT]]
def ifs:List (Addr×List IS):=[(331,iNum),(277,iVar),(471,iOp),(512,iOp),(560,iOp),(644,iRed)]
def FW(K:Frag)(C:Addr):List Stmt:=kX (d4 K (gM K C kP))
theorem FX(P:Params):ifs.map (λp=>(FW (Kf P) p.1).map (ZB (d4 (Kf P) (gM (Kf P) p.1 kP)).scope))=ifs.map (λp=>p.2.map some):=by kernel_rfl!
section
variable{prog:Program}{w:World}{s₀ s s' bZ:Shared}{γ bP:Gh}{A:Around}{v:V}{u:Value}{x dx C:Addr}{fs:List (Str×V)}{envM:Env}{sc:Scope}{d:Nat}{cf:cO}{ta:T}{b:Int}{env:Ev}{ns:List Str}{vs:List V}{us:List Value}
structure IJ(γ:Gh)(envM:Env)(x dx C:Addr)(env:Ev)(fs:List (Str×V)):Prop where
 self:SelfAt γ envM x
 ins:InsR γ x dx C fs
 cls:C∈pS
 fm:FmOk γ [] envM env
 nl:envM.locals≠dx
 nc:∀y c,envM.cells.lookup y=some c->c≠dx
inductive PJ(w:World)(s₀:Shared)(γ:Gh)(envM:Env)(x dx C:Addr)(env:Ev)(fs:List (Str×V))(s':Shared):Prop
 |mk (bP:Gh):St w s₀ bP s'->Step [dx] γ bP [] []->IJ bP envM x dx C env fs->PJ w s₀ γ envM x dx C env fs s'
theorem IJ.step(h:IJ γ envM x dx C env fs)(T:Step [] γ bP [] []):IJ bP envM x dx C env fs:=⟨h.self.step T (by simp) (by simp),h.ins.step T (by simp) (by simp),h.cls,h.fm.step T,h.nl,h.nc⟩
theorem PJ.trans(T:Step [dx] γ bP [] [])(h:PJ w s₀ bP envM x dx C env fs s):PJ w s₀ γ envM x dx C env fs s:=let⟨g,a,b,c⟩:=h;⟨g,a,T.trans b,c⟩
theorem EN{M:Model}{E:Value->Shared->Prop}{o:Expr}{attr:Str}{pos:Pos}{Q:Unit->Shared->Prop}(h:wpAny M A (eval o envM) (λov cZ=>wpAny M A (setAttr ov attr u) Q E cZ) E s):wpAny M A (assign (.Attribute o attr pos) envM u) Q E s:=λΓ p hΓ=>by
 simp only[assign_Attribute,Sem.wp_bind',Sem.wp_holding,Sem.wp_cmd_standAt,Sem.wp_release];exact Sem.wp_mono M Γ _ (λov _ cZ h₂=>h₂ Γ _ hΓ) (λ_ _ _ h'=>h') _ _ (h Γ _ hΓ)
theorem zU{n:Str}:∀{fs:List (Str×V)},n∉fs.map (·.1)->cJ n fs=none:=λh=>rG λp hp=>by
 induction hq:lC n p.1 using Bool.casesOn with
 |true=>rw[fY hq]at h;exact absurd (fV hp) h
 |false=>rfl
theorem tT{e:Expr}{n:Str}(h:Dz e=some n):(∃q p,e=.Attribute (.Name jF q) n p)/\n∈Z9:=
 GU h nS λo a p e h=>dJ h λhc h=>fF hc λh1 h2=>by
  obtain⟨q,e'⟩:=pH h1;refine i8 (fJ.mp h2) λm hm hq=>?_;rw[<-aC h];exact⟨⟨q,p,by rw[e,e']⟩,fY hq▸hm⟩
theorem Ys(hB:Base w s₀)(hJ:IJ γ envM x dx C env fs)(hS:St w s₀ γ s){e:Expr}{n:Str}(he:Dz e=some n)(hn:n∉fs.map (·.1))(hz:fs.length<=100)(hv:VR γ [] v u):
  wpAny (model prog w) A (assign e envM u) (λ_ s'=>PJ w s₀ γ envM x dx C env (fs++[(n,v)]) s') fW s:=by
 obtain⟨⟨q,p,rfl⟩,hm⟩:=tT he;refine EN (kE hJ.self hS (aD (zR hB hS hJ.ins hJ.cls hm (zU hn) hz hv) (λ_ bZ z=>?_) λ_ _ z=>z));refine lY (z) λaU S1 T1 I1=>?_;exact⟨aU,S1,T1,hJ.self.step T1 (by simp) (by simpa using hJ.nl),I1,hJ.cls,hJ.fm.stepX T1 (by simpa using hJ.nl) (λy c q=>by simpa using hJ.nc y c q),hJ.nl,hJ.nc⟩
theorem FY:∀{es:List Expr} {ns:List Str},qQ es=some ns->assignEach es envM=es.map (λe=>(false,assign e envM))/\es.length=ns.length
 |[],_,h=>by obtain rfl:=aC h;exact⟨rfl,rfl⟩
 |e::r,_,h=>by
  refine bH h ?_;clear h;intro a h1 h;refine eV h ?_;clear h;intro l h2 h;subst h;obtain⟨i1,i2⟩:=FY h2;obtain⟨⟨q,p,rfl⟩,_⟩:=tT h1;exact⟨by show(false,_)::assignEach r envM=_;rw[i1];rfl,by simp[i2]⟩
theorem FZ(hB:Base w s₀):∀{es:List Expr} {ns:List Str} {vs:List V} {us:List Value} {fs:List (Str×V)} {s:Shared} {γ:Gh},qQ es=some ns->AllR (VR γ []) vs us->(fs.map (·.1)++ns).Nodup->fs.length+ns.length<=100->IJ γ envM x dx C env fs->St w s₀ γ s->vs.length=ns.length->
  wpAny (model prog w) A (assignInOrder (es.map λe=>assign e envM) us) (λ_ s'=>PJ w s₀ γ envM x dx C env (fs++ns.zip vs) s') fW s
 |[],ns,vs,us,fs,s,γ,h,hv,_,_,hJ,hS,hl=>by
  obtain rfl:=aC h;obtain rfl:=List.length_eq_zero_iff.mp hl;cases hv;rw[List.zip_nil_left,bW];exact wpAny_pure ⟨γ,hS,.refl _ _,hJ⟩
 |e::r,ns,vs,us,fs,s,γ,h,hv,hnd,hz,hJ,hS,hl=>by
  refine bH h ?_;clear h;intro a h1 h;refine eV h ?_;clear h;intro l h2 h;subst h
  match vs,us,hv,hl with
  |[],_,_,hl=>cases hl
  |v::vs,us,hv,hl=>
   obtain⟨u,us,rfl,hu,hv⟩:=hv.len1;have hn:a∉fs.map (·.1):=λz=>(gI.mp hnd).2.2 a z a aE rfl;have hz':fs.length+(l.length+1)<=100:=hz;show wpAny _ _ (do holding us (assign e envM u);assignInOrder (r.map λe=>assign e envM) us) _ _ _
   refine bF (wpAny_holding (aD (Ys hB hJ hS h1 hn (Lo hz) hu) (λ_ bZ z=>?_) λ_ _ z=>z));obtain⟨aU,S1,T1,J1⟩:=z;refine aD (FZ hB h2 (hv.mono λ_ _ z=>z.mono T1.ext λ_ _ e=>e) (fs:=fs++[(a,v)]) (by rw[dQ,dT];exact hnd) (by rw[bU,d0];lia) J1 S1 (Nat.succ.inj hl)) (λ_ cZ z=>?_) λ_ _ z=>z
   rw[dT]at z;exact z.trans T1
theorem iteN{α:Type}{c:Prop}[Decidable c]{a x y:α}(h:x=a)(k:y=a):(if c then x else y)=a:=(Decidable.em c).elim (λz=>(if_pos z).trans h) λz=>(if_neg z).trans k
theorem IM{es vs:List Expr}{ns:List Str}{k tp k' vp}(h:qQ es=some ns)(f5:es.isEmpty=false):swappedStores [.Tuple es k tp] (.Tuple vs k' vp) envM=pure none:=by
 have hl:∀f:Expr->Option Str,(∀o a p,f (.Attribute o a p)=none)->es.filterMap f=[]:=λf hf=>by
  rw[List.filterMap_eq_nil_iff];intro e he;have:∀{es:List Expr} {ns:List Str},qQ es=some ns->∀e∈es,∃n,Dz e=some n:=by
   intro es;induction es with
   |nil=>intro _ _ e he;cases he
   |cons e r ih=>
    intro ns h;refine bH h ?_;clear h;intro a h1 h;refine eV h ?_;clear h;intro l h2 h;intro e' he';rcases a7.mp he' with rfl|he'
    ·exact⟨_,h1⟩
    ·exact ih h2 e' he'
  obtain⟨n,hn⟩:=this h e he;clear he;obtain⟨⟨q,p,rfl⟩,_⟩:=tT hn;exact hf ..
 refine iteN rfl (iteN rfl ?_);dsimp only;rw[hl _ λ_ _ _=>rfl];induction es using List.casesOn with
 |nil=>exact jA f5
 |cons e r=>rfl
theorem Gb(hh:A.handled=none)(hB:Base w s₀){es:List Expr}(he:qQ es=some ns)(hJ:IJ γ envM x dx C env fs)(hS:St w s₀ γ s)(hv:VR γ [] (.tup vs) u)(hl:vs.length=ns.length)(hnd:(fs.map (·.1)++ns).Nodup)(hz:fs.length+ns.length<=100){k:Nat}{tp:Pos}:
  wpAny (model prog w) A (assign (.Tuple es k tp) envM u) (λ_ s'=>PJ w s₀ γ envM x dx C env (fs++ns.zip vs) s') fW s:=by
 refine hv.tupI λt et=>?_;refine nG (hS.ok.at_ _ _ et) λo e1 e2 items n e3 e4=>?_;obtain⟨i1,i2⟩:=FY (envM:=envM) he;have eW:items.size=ns.length:=by rw[<-Array.length_toList,<-e4.length,hl]
 obtain⟨ol,hol⟩:=hJ.fm.locRaw;refine assign_Tuple_tuple hh ⟨o,e1,e2,n,e3⟩ (by rw[i1,aT,i2,eW]) (by rw[i1,List.findIdx?_eq_none_iff];intro z hz;refine i8 (bR.mp hz) λe _ zr2=>?_;subst zr2;rfl) λh' hx=>?_
 have S1:=hS.grow' (s':={s with heap:=h'}) hol λb o e=>hx b o (eU (Heap.lt_size e)) e
 rw[i1,iW];exact FZ hB he e4 hnd hz hJ S1 hl
end
theorem xW{P:Prop}{sc:Scope}{c:Stmt}{i:IS}(h:ZB sc c=some i)(k1:∀es k tp vs k' vp p ns,c=.Assign [.Tuple es k tp] (.Tuple vs k' vp) p->gE vs=true->es.isEmpty=false->qQ es=some ns->.tup ns (vs.map (er 20 sc))=i->P)
  (k2:∀es k tp q ap p' p ns,c=.Assign [.Tuple es k tp] (.Call (.Attribute (.Name jF q) dP ap) [] [] p') p->ap.endLine=p'.line->qQ es=some ns->.bnd ns=i->P)
  (k3:∀q q' e p n,c=.Assign [.Attribute (.Name jF q) n q'] e p->l8 e=true->n∈Z9->.one n (er 20 sc e)=i->P) (k4:∀t p,c=.Assert t none p->.asrt (er 20 sc t)=i->P):P:=
 Je h (λh=>asgE h nS λts e p ec h=>Ec h nS λt et h=>Je h (λh=>Lq h nS λes k tp et' h=>Je h (λh=>Lq h nS λvs k' vp ev h=>dJ h λc h=>eV h λns hn h=>fF c λc1 c2=>k1 es k tp vs k' vp p ns (by rw[ec,et,et',ev]) c1 (by simpa using c2) hn h)
   λh=>dJ h λc h=>eV h λns hn h=>Oo c nT λf args kws p' ef c=>GU c nT λo a ap ea c=>NQ c nT λe1 c=>NQ c nT λe2 c=>fF c λc c3=>fF c λc1 c2=>let⟨q,e'⟩:=pH c1;k2 es k tp q ap p' p ns (by rw[ec,et,et',ef,ea,e1,e2,e',fY c2]) (aA c3) hn h)
  λh=>dJ h λc h=>eV h λn hn h=>let⟨⟨q,q',e'⟩,m⟩:=tT hn;k3 q q' e p n (by rw[ec,et,e']) c m h)
 λh=>asrE h nS λt m p e h=>dJ h λc h=>k4 t p (by rw[e,fZ.mp c]) (aC h)
section
variable{prog:Program}{w:World}{s₀ s s' bZ:Shared}{γ bP:Gh}{A:Around}{v:V}{u:Value}{x dx C:Addr}{fs:List (Str×V)}{envM:Env}{sc:Scope}{d:Nat}{cf:cO}{ta:T}{b:Int}{env:Ev}{ns:List Str}{vs:List V}{us:List Value}{c:Stmt}{r:Rec}
def XJ(prog:Program)(w:World)(s₀:Shared)(γ:Gh)(A:Around)(envM:Env)(x dx C:Addr)(env:Ev)(fs:List (Str×V))(c:Stmt)(s:Shared):Prop:=
 wpAny (model prog w) A (exec c envM) (λf s'=>f=.next/\PJ w s₀ γ envM x dx C env fs s') fW s
theorem MM(hh:A.handled=none)(hB:Base w s₀)(IE:kO prog w s₀ A (bJ fB 2))(hE:EnvOk envM sc){xs:List X}(h0:ZB sc c=some (.tup ns xs))(hJ:IJ γ envM x dx C env fs)(hS:St w s₀ γ s)(hv:dI fB (bJ fB 2) (.tup xs) env []=some (.tup vs,[]))
  (hl:vs.length=ns.length) (hnd:nU (fs.map (·.1)++ns)=true) (hz:fs.length+ns.length<=100):XJ prog w s₀ γ A envM x dx C env (fs++ns.zip vs) c s:=by
 refine xW h0 (λes k tp vs' k' vp p ns' e c1 c2 h1 h=>?_) (λ_ _ _ _ _ _ _ _ _ _ _ h=>nomatch h) (λ_ _ _ _ _ _ _ _ h=>nomatch h) λ_ _ _ h=>nomatch h
 cases h;clear h0;subst e;refine Assign_Tuple (aD (Mf (cf:=fB) (r:=bJ fB 2) (f:=er 20 sc) (λe' _=>IE 20 sc e' envM hE) c1 s γ [] env [] _ _ hS (CsOk.nil w γ) hJ.fm hv) (λlF bZ z=>?_) λ_ _ z=>z) rfl (IM h1 c2);obtain⟨aU,bN,S1,C1,T1,V1⟩:=z;exact aD (Gb hh hB h1 (hJ.step T1.drop) S1 (V1.down λi e=>by cases e) hl (mZ hnd) hz) (λ_ _ z=>⟨rfl,z.trans (T1.drop.widen (by simp))⟩) λ_ _ z=>z
theorem MN(hB:Base w s₀)(IE:kO prog w s₀ A (bJ fB 2))(hE:EnvOk envM sc){n:Str}{xe:X}(h0:ZB sc c=some (.one n xe))(hJ:IJ γ envM x dx C env fs)(hS:St w s₀ γ s)(hv:dI fB (bJ fB 1) xe env []=some (v,[]))
  (ho:isOwn v=false) (hnd:nU (fs.map (·.1)++[n])=true) (hz:fs.length<=100):XJ prog w s₀ γ A envM x dx C env (fs++[(n,v)]) c s:=by
 refine xW h0 (λ_ _ _ _ _ _ _ _ _ _ _ _ h=>nomatch h) (λ_ _ _ _ _ _ _ _ _ _ _ h=>nomatch h) (λq' p' e p n' ec h1 hm h=>?_) λ_ _ _ h=>nomatch h
 cases h;clear h0;subst ec;refine plainObj_wpAny_Assign_Attribute (aD (IE 20 sc e envM hE s γ [] env [] _ _ hS (CsOk.nil w γ) hJ.fm hv) (λlF bZ z=>?_) λ_ _ z=>z) (mA h1 ..);obtain⟨aU,bN,S1,C1,T1,V1⟩:=z;have J1:=hJ.step T1.drop;refine kE J1.self S1 (aD (zR hB S1 J1.ins J1.cls hm (zU λz=>(gI.mp (mZ hnd)).2.2 _ z _ (lW _) rfl) hz (V1.down λi e=>by rw[e]at ho;exact jA ho)) (λ_ cZ z=>?_) λ_ _ z=>z)
 refine lY (z) λcL S2 T2 I2=>?_;exact⟨rfl,cL,S2,(T1.drop.widen (by simp)).trans T2,J1.self.step T2 (by simp) (by simpa using hJ.nl),I2,hJ.cls,J1.fm.stepX T2 (by simpa using hJ.nl) (λy c q=>by simpa using hJ.nc y c q),hJ.nl,hJ.nc⟩
theorem Yt(IT:qA prog w s₀ A (bJ fB 3))(hE:EnvOk envM sc){xe:X}(h0:ZB sc c=some (.asrt xe))(hJ:IJ γ envM x dx C env fs)(hS:St w s₀ γ s)(hv:yY fB (bJ fB 2) xe env []=some (true,[])):XJ prog w s₀ γ A envM x dx C env fs c s:=by
 refine xW h0 (λ_ _ _ _ _ _ _ _ _ _ _ _ h=>nomatch h) (λ_ _ _ _ _ _ _ _ _ _ _ h=>nomatch h) (λ_ _ _ _ _ _ _ _ h=>nomatch h) λt p ec h=>?_
 cases h;clear h0;subst ec;refine wpAny_Assert_holds (aD (IT 20 sc t envM hE s γ [] env [] _ _ hS (CsOk.nil w γ) hJ.fm hv) (λb bZ z=>?_) λ_ _ z=>z);obtain⟨rfl,aU,bN,S1,C1,T1⟩:=z;exact⟨rfl,rfl,aU,S1,T1.drop.widen (by simp),hJ.step T1.drop⟩
theorem QS(hh:A.handled=none)(hB:Base w s₀){i j:Int}(h0:ZB sc c=some (.bnd ns))(hJ:IJ γ envM x dx C env fs)(hS:St w s₀ γ s)(hb:∀q ap p,ap.endLine=p.line->wpAny (model prog w) A (eval (.Call (.Attribute (.Name jF q) dP ap) [] [] p) envM) (PN w s₀ γ (.tup [.int i,.int j])) fW s)
  (hl:2=ns.length) (hnd:nU (fs.map (·.1)++ns)=true) (hz:fs.length+ns.length<=100):XJ prog w s₀ γ A envM x dx C env (fs++ns.zip [.int i,.int j]) c s:=by
 refine xW h0 (λ_ _ _ _ _ _ _ _ _ _ _ _ h=>nomatch h) (λes k tp q ap p' p ns' ec c3 h1 h=>?_) (λ_ _ _ _ _ _ _ _ h=>nomatch h) λ_ _ _ h=>nomatch h
 cases h;clear h0;subst ec;refine Assign_Tuple (aD (hb _ _ _ c3) (λlF bZ z=>?_) λ_ _ z=>z) rfl rfl;obtain⟨aU,S1,T1,V1⟩:=z;exact aD (Gb hh hB h1 (hJ.step T1) S1 V1 hl (mZ hnd) hz) (λ_ _ z=>⟨rfl,z.trans (T1.widen (by simp))⟩) λ_ _ z=>z
end
set_option tactic.hygienic false
noncomputable def MO:List Addr:=[471,512,560,644]
theorem bm1(P:Params):MO.all (λC=>findIn (Kf P) (.ref C) dP==some (some (.ref (gM (Kf P) C dP)))&&isFn (Kf P) (.ref (gM (Kf P) C dP))&&keepIn (Kf P) (.ref (gM (Kf P) C dP))&&plainGet (Kf P) C dP)=true:=by kernel_rfl!
theorem cls_ofL{C:Addr}(h:C∈pS):∃t:T,t.cls=C:=by
 simp only[pS,a7,fK,or_false]at h;rcases h with rfl|rfl|rfl|rfl|rfl|rfl
 ·exact⟨.num 0,rfl⟩
 ·exact⟨.var Eh 0 0,rfl⟩
 ·exact⟨.mul (.num 0) 0,rfl⟩
 ·exact⟨.div (.num 0) 0,rfl⟩
 ·exact⟨.mod (.num 0) 0,rfl⟩
 ·exact⟨.sum [],rfl⟩
section
variable{prog:Program}{w:World}{s₀ s s' bZ:Shared}{γ bP:Gh}{A:Around}{v:V}{u:Value}{x dx C:Addr}{fs:List (Str×V)}{envM:Env}{sc:Scope}{d:Nat}{cf:cO}{ta:T}{b:Int}{env:Ev}{ns:List Str}{vs:List V}{us:List Value}{c:Stmt}{r:Rec}
def MP(x:Addr)(γ:Gh)(v:V)(u:Value):Prop:=(v=.own 0->u=.ref x)/\(v≠.own 0->VR γ [] v u)
theorem Gc{K:Frag}{a:Addr}(hE:EnvOk envM (d4 K a).scope)(hl:cJ jF (d4 K a).scope.names=some .local){i:Fn}{vs:List V}(hp:dZ 1 (i.params.zip vs)=some (.own 0)){γ₀:Gh}
  (X:∀y j v,mQ y=some j->dZ j (i.params.zip vs)=some v->envM.kindOf y=some .local->∃o m u,γ envM.locals=some (.raw o)/\Dk o m/\m y=some u/\MP x γ₀ v u):SelfAt γ envM x:=by
 have hk:=eG hE hl;refine Fp (X jF 1 _ rfl hp hk) λo m u h1 h2 h3 h4=>?_;exact⟨⟨o,m,h1,h2,by rw[h3,h4.1 rfl]⟩,hk,hE.kind⟩
theorem D0(hB:Base w s₀)(hC:C∈MO)(hdep:A.depth<recursionLimit)(hJ:IJ γ envM x dx C env fs)(hS:St w s₀ γ s)(hn:dP∉fs.map (·.1)){i j:Int}
  (hb:∀envM₁ bZ aU,EnvOk envM₁ (d4 (Kf w.params) (gM (Kf w.params) C dP)).scope->SelfAt aU envM₁ x->FmOk aU [] envM₁ []->InsR aU x dx C fs->St w s₀ aU bZ->wpAny (model prog w) (A.deeper envM₁) (execs (kX (d4 (Kf w.params) (gM (Kf w.params) C dP))) envM₁) (PR w s₀ aU (.tup [.int i,.int j])) fW bZ)
  (q:Pos) (ap p:Pos) (hp:ap.endLine=p.line):wpAny (model prog w) A (eval (.Call (.Attribute (.Name jF q) dP ap) [] [] p) envM) (PN w s₀ γ (.tup [.int i,.int j])) fW s:=by
 have k:=aW.mp (bm1 w.params) C hC;simp only[a9,beq_iff_eq]at k;obtain⟨⟨⟨k1,k2⟩,k3⟩,k4⟩:=k;have hK:=hB.K.keeps hS.keep;refine methodCall_KW (pl:=do return(<-importBound (.Name jF q) envM).getD true) (kE hJ.self hS ?_) (FL rfl rfl rfl hp (by decide))
 refine kW (hJ.ins.fld) λes n e2 r=>?_;obtain⟨L,m,F⟩:=hJ.self.frm hS;refine method_inst F hB.K ⟨hS.raw hJ.ins.ins,rfl,rfl,hS.raw e2⟩ k4 k1 k2 (oW r (zU hn)) ?_;refine callWith_of (P:=(Kf w.params).In) rfl (keeps_K k3) (evalArgs_kw2_nil rfl (kwAll_nil ⟨hK,?_⟩));have hnm:=i6 (xnm w.params) hC;have I:=QP w.params (b_mem w.params C hC);have B:BindsTo s (d4 (Kf w.params) (gM (Kf w.params) C dP)) ⟨[.ref x],[]⟩ ((j0 (Kf w.params) (gM (Kf w.params) C dP)).zip [.ref x]):=by
  rw[hnm];exact kp_binds hK λS=>i6 (xb1 w.params S (.ref x)) hC
 refine wpAny_call (BH (R':=MP x γ) (vs:=[.own 0]) (env:=[]) hB hS I B hdep (.cons ⟨λ_=>rfl,λz=>absurd rfl z⟩ .nil) (λj v h=>aY h) λenvM₁ bZ aU S1 T1 F1 E1 CA W1 X1=>?_);have hl:=aW.mp (xloc w.params) C hC;have SA:=Gc (K:=Kf w.params) E1 (by rw[f8];exact beq_iff_eq.mp hl) (by rw[I.par,hnm];rfl) X1
 refine aD (hb envM₁ bZ aU E1 SA F1 (hJ.ins.step T1 (by simp) (by simp)) S1) (λf cZ z=>?_) λ_ _ z=>z
 obtain⟨u,cL,rfl,S2,T2,V2⟩:=z;exact⟨cL,S2,T1.trans T2,V2⟩
end
theorem ii1(P:Params):pS.all (λC=>findIn (Kf P) (.ref C) "__init__"==some (some (.ref (gM (Kf P) C kP)))&&typeIn (Kf P) (.ref (gM (Kf P) C kP))==some (.type "function")&&((d4 (Kf P) (gM (Kf P) C kP)).scope.names.lookup jF==some .local)&&(ZA (Kf P)).any (Nat.beq (gM (Kf P) C kP)))=true:=by kernel_rfl!
noncomputable def BL:List (Addr×List Nat):=[(331,[49]),(277,[46,44,45]),(471,[41,2]),(512,[41,2]),(560,[41,2]),(644,[4])]
theorem ip1(P:Params):BL.map (λp=>(j0 (Kf P) (gM (Kf P) p.1 kP)).map λx=>match mQ x with|some i=>i|none=>0)=BL.map (λp=>1::p.2):=by kernel_rfl!
theorem xi1(P:Params)(S:Setting)(u a:Value):[331,644].map (λC=>peek (Kf P) S (bindArgs (d4 (Kf P) (gM (Kf P) C kP)) ⟨[u,a],[]⟩))=[331,644].map (λC=>some ((j0 (Kf P) (gM (Kf P) C kP)).zip [u,a])):=by kernel_rfl!
theorem xi2(P:Params)(S:Setting)(u a b:Value):[471,512,560].map (λC=>peek (Kf P) S (bindArgs (d4 (Kf P) (gM (Kf P) C kP)) ⟨[u,a,b],[]⟩))=[471,512,560].map (λC=>some ((j0 (Kf P) (gM (Kf P) C kP)).zip [u,a,b])):=by kernel_rfl!
theorem xi3(P:Params)(S:Setting)(u a b c:Value):[277].map (λC=>peek (Kf P) S (bindArgs (d4 (Kf P) (gM (Kf P) C kP)) ⟨[u,a,b,c],[]⟩))=[277].map (λC=>some ((j0 (Kf P) (gM (Kf P) C kP)).zip [u,a,b,c])):=by kernel_rfl!
section
variable{prog:Program}{w:World}{s₀ s s' bZ:Shared}{γ bP:Gh}{A:Around}{v:V}{u:Value}{x dx C:Addr}{fs fs':List (Str×V)}{envM:Env}{sc:Scope}{d:Nat}{cf:cO}{ta:T}{b:Int}{env:Ev}{ns:List Str}{vs:List V}{us:List Value}{c:Stmt}{r:Rec}{rest:List Stmt}
def BJ(prog:Program)(w:World)(s₀:Shared)(γ:Gh)(A:Around)(envM:Env)(x dx C:Addr)(env:Ev)(fs:List (Str×V))(rest:List Stmt)(s:Shared):Prop:=
 wpAny (model prog w) A (execs rest envM) (λf s'=>f=.next/\PJ w s₀ γ envM x dx C env fs s') fW s
theorem BN(hJ:IJ γ envM x dx C env fs)(hS:St w s₀ γ s):BJ prog w s₀ γ A envM x dx C env fs [] s:=wpAny_execs_nil ⟨rfl,γ,hS,.refl _ _,hJ⟩
theorem oO(h:XJ prog w s₀ γ A envM x dx C env fs c s)(k:∀bZ aU,St w s₀ aU bZ->IJ aU envM x dx C env fs->BJ prog w s₀ aU A envM x dx C env fs' rest bZ):BJ prog w s₀ γ A envM x dx C env fs' (c::rest) s:=
 wpAny_execs_cons (aD h (λf bZ z=>by
  obtain⟨rfl,aU,S1,T1,J1⟩:=z;exact aD (k bZ aU S1 J1) (λ_ _ z=>⟨z.1,z.2.trans T1⟩) λ_ _ z=>z) λ_ _ z=>z)
theorem VR.noOwn{i:Nat}:¬VR γ [] (.own i) u:=λh=>by
 refine i8 (h.isOwn) λa _ e=>?_;simp at e
theorem Yu{R:V->Value->Prop}{v:V}:∀{vs:List V} {us:List Value},AllR R vs us->v∈vs->∃u,R v u:=λh hm=>by
 obtain⟨i,hi⟩:=List.getElem?_of_mem hm;refine i8 (h.get hi) λu _ r=>?_;exact⟨u,r⟩
theorem BO(hB:Base w s₀)(hdep:A.depth+1<recursionLimit)(hS:St w s₀ γ s)(hC:C∈pS){t:T}(ht:t.cls=C)(hv:AllR (VR γ []) vs us){ps:List Nat}(hp:(C,ps)∈BL)
  (hbind:∀S self,peek (Kf w.params) S (bindArgs (d4 (Kf w.params) (gM (Kf w.params) C kP)) ⟨self::us,[]⟩)=some ((j0 (Kf w.params) (gM (Kf w.params) C kP)).zip (self::us)))
  (hbody:∀x dx envM bZ aU,EnvOk envM (d4 (Kf w.params) (gM (Kf w.params) C kP)).scope->IJ aU envM x dx C (ps.zip vs) []->St w s₀ aU bZ->
   BJ prog w s₀ aU ((A.under (.builtin "type.__call__" ⟨.ref C::us,[]⟩)).deeper envM) envM x dx C (ps.zip vs) (mR t) (FW (Kf w.params) C) bZ):
  codeAny (model prog w) A (.call (.ref C) ⟨us,[]⟩) (PC w s₀ γ (.node t)) s:=by
 have k:=aW.mp (ii1 w.params) C hC;simp only[a9,beq_iff_eq]at k;obtain⟨⟨⟨k1,k2⟩,k3⟩,k4⟩:=k;have hK:=hB.K.keeps hS.keep;obtain⟨hh,g,dr,tk,os⟩:=s;refine make_core (makes_of hK (ht▸Ih w.params t)) (looks_findIn hK k1) (λself=>bind_fn hK self k2) (.inl rfl) ?_;have f1:=hS.free;have S1:=hS.alloc (s':=⟨hh.push emptyDict,g,dr,tk,os⟩) emptyDict rfl;have f2:=S1.free;have S2:=S1.alloc (s':=⟨(hh.push emptyDict).push (instObj C hh.objs.size),g,dr,tk,os⟩) (instObj C hh.objs.size) rfl;dsimp only at f1 f2 S2;rw[Heap.size_push]at f2 S2;generalize hh.objs.size=dx at f1 f2 S2⊢;have T1:Step [] γ (iZ γ dx (some (.raw emptyDict))) [] []:=d6 _ [] f1;have T2:Step [] (iZ γ dx (some (.raw emptyDict))) (iZ (iZ γ dx (some (.raw emptyDict))) (dx+1) (some (.raw (instObj C dx)))) [] []:=d6 _ [] f2;have hdx:(iZ (iZ γ dx (some (.raw emptyDict))) (dx+1) (some (.raw (instObj C dx)))) dx=some (.raw emptyDict):=by rw[cN (eU (fL _)),bK]
 have hI:InsR (iZ (iZ γ dx (some (.raw emptyDict))) (dx+1) (some (.raw (instObj C dx)))) (dx+1) dx C []:=⟨bK ..,[],0,hdx,.nil⟩;have T12:=T1.trans T2;have fx:dX γ (dx+1):=(T1.dom _ f2).elim id (by simp)
 generalize (iZ (iZ γ dx (some (.raw emptyDict))) (dx+1) (some (.raw (instObj C dx))))=aU at S2 hdx hI T12;refine i8 (fJ.mp k4) λa ha haeq=>?_;have I:=QP w.params (aA haeq▸ha:gM (Kf w.params) C kP∈ZA (Kf w.params));have hpar:(xR (Kf w.params) (gM (Kf w.params) C kP) []).params=1::ps:=I.par.trans (i6 (ip1 w.params) hp);have hv1:=VRs.step hv T12;have hK2:=hB.K.keeps S2.keep;have h1ps:∀p∈BL,1∉p.2:=by decide
 refine BH (R':=MP (dx+1) aU) (vs:=.own 0::vs) (us':=.ref (dx+1)::us) (env:=ps.zip vs) hB S2 I (kp_binds hK2 λS=>hbind S _) hdep
  (.cons ⟨λ_=>rfl,λz=>absurd rfl z⟩ (hv1.mono λv u r=>⟨λe=>absurd (e▸r) VR.noOwn,λ_=>r⟩)) (λj v h=>?_) λenvM bZ cL S3 T3 F3 E3 CA W3 X3=>?_
 ·obtain⟨m1,m2⟩:=List.of_mem_zip (wN h);rw[hpar];refine⟨?_,λu r=>r.2 λe=>?_⟩
  ·show(bif Nat.beq j 1 then _ else dZ j (ps.zip vs))=_;induction hj:Nat.beq j 1 using Bool.casesOn with
   |true=>clear m2;rw[aA hj]at m1;exact absurd m1 (h1ps _ hp)
   |false=>exact h
  ·obtain⟨u,q⟩:=Yu hv m2;exact VR.noOwn (e▸q)
 ·have SA:=Gc (K:=Kf w.params) E3 (by rw[f8];exact k3) (by rw[hpar];rfl) X3
  have nd:∀b,dX aU b->b≠dx:=λb hb z=>by clear SA X3 hK2 hI S2 fx T2 T1 f2 f1;subst z;exact gL hdx hb
  refine aD (hbody (dx+1) dx envM bZ cL E3 ⟨SA,hI.step T3 (by simp) (by simp),hC,F3,nd _ (W3 _ aE),λy c q=>nd _ (W3 _ (aI _ (tQ q)))⟩ S3) (λf cZ z=>?_) λ_ _ z=>z
  obtain⟨rfl,iY,S4,T4,J4⟩:=z;refine kW (J4.ins.fld) λes n e2 r=>?_;have e1:=J4.ins.ins;clear E3 hpar I haeq k2 k1 k3 k4 hbody hbind hp hC;subst ht;have G:=S4.ok.node e1 e2 r;have T14:=((T12.trans T3).widen (by simp)).trans T4
  refine⟨rfl,.ref (dx+1),iZ (iZ iY dx none) (dx+1) (some (.node t dx)),rfl,⟨S4.keep,S4.size,G,S4.gens,S4.os⟩,⟨λa g q hg=>?_,λa o q h1 h2=>?_,⟨[],rfl,by simp⟩,λa q=>?_⟩,.node (bK ..)⟩
  ·have ne:∀b,dX γ b->a≠b:=λb hb=>hb.ne q λz=>by clear hb;rw[z]at hg;exact jA hg
   rw[cN (ne _ fx),cN (ne _ f1)];exact T14.ext a g q hg
  ·have ne:∀b,dX γ b->a≠b:=λb hb=>hb.ne q (by intro z;cases z)
   rw[cN (ne _ fx),cN (ne _ f1)];exact T14.raw a o q h1 (by simpa using ne _ f1)
  ·by_cases hx:a=dx+1
   ·clear q;subst hx;exact .inl fx
   ·by_cases hd:a=dx
    ·clear hx q T14 G e1 J4 X3 hK2 hI S2 T2 e2 T4 nd SA hdx fx T1 f2;subst hd;exact .inl f1
    ·rcases T14.dom a (λg' q'=>q g' (by rw[cN hx,cN hd];exact q'))with z|z
     ·exact .inl z
     ·exact absurd (aN.mp z) hd
end
theorem BP{α:Type}{f:Stmt->Option α}{i:α}{is:List α}:∀{l:List Stmt},l.map f=(i::is).map some->∃c r,l=c::r/\f c=some i/\r.map f=is.map some
 |[],h=>by cases h
 |c::r,h=>⟨c,r,rfl,(List.cons.inj h).1,(List.cons.inj h).2⟩
theorem map_nil{α:Type}{f:Stmt->Option α}{l:List Stmt}(h:l.map f=([]:List α).map some):l=[]:=oG.mp h
theorem P0{α:Type}{f:Stmt->Option α}{i j:α}{l:List Stmt}(h:l.map f=[i,j].map some):∃c d,l=[c,d]/\f c=some i/\f d=some j:=
 fM (BP h) λc _ e h1 h=>fM (BP h) λd _ e' h2 h=>⟨c,d,by rw[e,e',map_nil h],h1,h2⟩
theorem map3{α:Type}{f:Stmt->Option α}{i j k:α}{l:List Stmt}(h:l.map f=[i,j,k].map some):∃c d e,l=[c,d,e]/\f c=some i/\f d=some j/\f e=some k:=
 fM (BP h) λc _ e h1 h=>fM (P0 h) λd e2 e' h2 h3=>⟨c,d,e2,by rw[e,e'],h1,h2,h3⟩
theorem zV:∀{l:List V} {ts:List T},pW l=some ts->l=ts.map V.node
 |[],_,h=>by obtain rfl:=aC h;rfl
 |v::r,ts,h=>by
  induction v using V.casesOn<;>first|(exact aY h;done)|skip
  refine eV (show(pW r).map (_::·)=some ts from h) λts' h1 h=>?_
  subst h
  rw[zV h1];rfl
theorem xX{mn mx b x y:Int}{l r:GX}(h1:nV mn mx b l=some x)(h2:nV mn mx b r=some y):wP mn mx b (.pair l r)=some (x,y):=by
 show Option.bind (nV mn mx b l) _=_;rw[h1];show Option.map _ (nV mn mx b r)=_;rw[h2];rfl
theorem BQ{mn mx b x:Int}{l:GX}(h:nV mn mx b l=some x)(h1:jP (x*b)=true):nV mn mx b (.bin .Mult l .b)=some (x*b):=by
 show Option.bind (nV mn mx b l) _=_;rw[h];show Option.bind (bif jP (x*b)then _ else _) _=_;rw[h1];rfl
theorem MQ{mn mx b x:Int}{l:GX}(h:nV mn mx b l=some x)(h1:(!decide (b=0)&&jP b)=true):nV mn mx b (.bin .FloorDiv l .b)=some (Int.fdiv x b):=by
 show Option.bind (nV mn mx b l) _=_;rw[h];show Option.bind (bif !decide (b=0)&&jP b then _ else _) _=_;rw[h1];rfl
theorem BR{mn mx b x:Int}{l:GX}(h:nV mn mx b l=some x)(h1:(!decide (b=0)&&jP b)=true):nV mn mx b (.bin .Mod l .b)=some (Int.fmod x b):=by
 show Option.bind (nV mn mx b l) _=_;rw[h];show Option.bind (bif !decide (b=0)&&jP b then _ else _) _=_;rw[h1];rfl
theorem tv_ge{mn mx b x y:Int}{l r:GX}(h1:nV mn mx b l=some x)(h2:nV mn mx b r=some y):qP mn mx b (.cmp .GtE l r)=some (decide (y<=x)):=by
 show Option.bind (nV mn mx b l) _=_;rw[h1];show Option.bind (nV mn mx b r) _=_;rw[h2];rfl
theorem Yv{mn mx b:Int}(h0:0<=mn)(h1:jP (mn*b)=true)(h2:jP (mx*b)=true):zS mn mx b gMul=some ((bif decide (0<=b)then mn*b else mx*b),(bif decide (0<=b)then mx*b else mn*b)):=by
 refine(cT (aH h0)).trans ?_;show(bif decide (0<=b)then wP mn mx b (.pair (.bin .Mult .mn .b) (.bin .Mult .mx .b))else wP mn mx b (.pair (.bin .Mult .mx .b) (.bin .Mult .mn .b)))=_;rw[xX (BQ rfl h1) (BQ rfl h2),xX (BQ rfl h2) (BQ rfl h1)];induction decide (0<=b) using Bool.casesOn<;>rfl
theorem MR{mn mx b:Int}(h0:0<=mn):qP mn mx b (.bop true (.cmp .GtE .mn (.lit 0)) .isint)=some true:=by
 show(bif decide (0<=mn)then some true else some false)=_;rw[aH h0];rfl
theorem D1{mn mx b:Int}(h0:0<=mn)(r:List GS):zS mn mx b (.asrt (.bop true (.cmp .GtE .mn (.lit 0)) .isint)::r)=zS mn mx b r:=by
 show Option.bind (qP mn mx b _) _=_;rw[MR h0];rfl
theorem Yw{mn mx b:Int}(h0:0<=mn)(h1:(!decide (b=0)&&jP b)=true):zS mn mx b gDiv=some (Int.fdiv mn b,Int.fdiv mx b):=
 (D1 h0 _).trans (xX (MQ rfl h1) (MQ rfl h1))
theorem Yx{mn mx b:Int}(h0:0<=mn)(h1:(!decide (b=0)&&jP b)=true):zS mn mx b gMod=some (AC mn mx b,yP mn mx b):=by
 have hn:(decide (mn≠mx))=!decide (mn=mx):=by by_cases h:mn=mx<;>simp[h]
 unfold AC yP;rw[hn];refine(D1 h0 _).trans ?_;show Option.bind (bif decide (b<=mx-mn)then some true else(bif !decide (mn=mx)then qP mn mx b (.cmp .GtE (.bin .Mod .mn .b) (.bin .Mod .mx .b))else some false)) (λc=>bif c then some (0,b-1)else wP mn mx b (.pair (.bin .Mod .mn .b) (.bin .Mod .mx .b)))=some ((bif decide (b<=mx-mn)||(!decide (mn=mx)&&decide (Int.fmod mx b<=Int.fmod mn b))then _ else _),(bif decide (b<=mx-mn)||(!decide (mn=mx)&&decide (Int.fmod mx b<=Int.fmod mn b))then _ else _));rw[xX (BR rfl h1) (BR rfl h1),tv_ge (BR rfl h1) (BR rfl h1)];induction decide (b<=mx-mn) using Bool.casesOn<;>induction decide (mn=mx) using Bool.casesOn<;>induction decide (Int.fmod mx b<=Int.fmod mn b) using Bool.casesOn<;>rfl
theorem rZ(a:T)(b:Int):(T.mul a b).lo=bif decide (0<=b)then a.lo*b else a.hi*b:=rfl
theorem pI(a:T)(b:Int):(T.mul a b).hi=bif decide (0<=b)then a.hi*b else a.lo*b:=rfl
theorem r6(a:T)(b:Int):(T.div a b).lo=Int.fdiv a.lo b:=rfl
theorem s7(a:T)(b:Int):(T.div a b).hi=Int.fdiv a.hi b:=rfl
theorem uL(a:T)(b:Int):(T.mod a b).lo=AC a.lo a.hi b:=rfl
theorem uM(a:T)(b:Int):(T.mod a b).hi=yP a.lo a.hi b:=rfl
section
variable{prog:Program}{w:World}{s₀ s s' bZ:Shared}{γ bP:Gh}{A:Around}{v:V}{u:Value}{x dx C:Addr}{fs fs':List (Str×V)}{envM:Env}{sc:Scope}{d:Nat}{cf:cO}{ta:T}{b:Int}{env:Ev}{ns:List Str}{vs:List V}{us:List Value}{c:Stmt}{r:Rec}{rest:List Stmt}
theorem xY(hR:Room A (d+1) 0):Room ((A.under (.builtin "type.__call__" ⟨.ref C::us,[]⟩)).deeper envM) 0 4:=
 ⟨hR.hand,by have:=hR.dep;show A.depth+1+1+10*0+4<recursionLimit;lia,by have:=hR.un;show A.units+1+3+60*0+12*4+60<cLine;lia⟩
theorem MS{e:Env}(h:Room A 0 4):Room (A.deeper e) 0 1:=⟨h.hand,by have:=h.dep;show A.depth+1+10*0+1<recursionLimit;lia,by have:=h.un;show A.units+3+60*0+12*1+60<cLine;lia⟩
theorem Yy(hB:Base w s₀)(hR:Room A (d+1) 0)(hS:St w s₀ γ s){n:Int}(hv:AllR (VR γ []) [.int n] us):codeAny (model prog w) A (.call (.ref 331) ⟨us,[]⟩) (PC w s₀ γ (.node (.num n))) s:=by
 refine hv.I1 λu hu=>?_;have hv:AllR (VR γ []) _ [u]:=.cons hu .nil;clear hu;refine BO hB (by have:=hR.dep;lia) hS (by simp[pS]) rfl hv (ps:=[49]) (by simp[BL]) (λS self=>i6 (xi1 w.params S self u) (by simp)) λx dx envM bZ aU E1 J1 S1=>?_
 have hr:=xY (C:=331) (us:=[u]) (envM:=envM) hR;obtain⟨IE,_,_,_⟩:=oN (prog:=prog) hB (oY (d:=0)) (hr.le (by decide)) 2
 obtain⟨_,IT,_,_⟩:=oN (prog:=prog) hB (oY (d:=0)) (hr.le (by decide)) 3
 obtain⟨c1,c2,c3,e1,i1,i2,i3⟩:=map3 (i6 (FX w.params) (a:=(331,iNum)) (by simp[ifs]))
 rw[e1];exact oO (Yt IT E1 i1 J1 S1 rfl) λcZ cL S2 J2=>oO (MN (v:=.int n) hB IE E1 i2 J2 S2 rfl rfl (by kernel_rfl) (by simp)) λlR iY S3 J3=>
  oO (MM (vs:=[.int n,.int n]) hr.hand hB IE E1 i3 J3 S3 rfl rfl (by kernel_rfl) (aX rfl)) λs₄ γ₄ S4 J4=>BN J4 S4
theorem Yz(hB:Base w s₀)(hR:Room A (d+1) 0)(hS:St w s₀ γ s){e:Str}{l h:Int}(hv:AllR (VR γ []) [.str e,.int l,.int h] us):codeAny (model prog w) A (.call (.ref 277) ⟨us,[]⟩) (PC w s₀ γ (.node (.var e l h))) s:=by
 refine hv.I3 λu1 u2 u3 x1 x2 x3=>?_;have hv:AllR (VR γ []) _ [u1,u2,u3]:=.cons x1 (.cons x2 (.cons x3 .nil));clear x1 x2 x3;refine BO hB (by have:=hR.dep;lia) hS (by simp[pS]) rfl hv (ps:=[46,44,45]) (by simp[BL]) (λS self=>i6 (xi3 w.params S self u1 u2 u3) (by simp)) λx dx envM bZ aU E1 J1 S1=>?_
 have hr:=xY (C:=277) (us:=[u1,u2,u3]) (envM:=envM) hR;obtain⟨IE,_,_,_⟩:=oN (prog:=prog) hB (oY (d:=0)) (hr.le (by decide)) 2
 obtain⟨c1,c2,e1,i1,i2⟩:=P0 (i6 (FX w.params) (a:=(277,iVar)) (by simp[ifs]))
 rw[e1];exact oO (MM (vs:=[.str e,.int l,.int _]) hr.hand hB IE E1 i1 J1 S1 rfl rfl (by kernel_rfl) (aX rfl)) λcZ cL S2 J2=>oO (MN (v:=.none) hB IE E1 i2 J2 S2 rfl rfl (by kernel_rfl) (by simp)) λlR iY S3 J3=>BN J3 S3
theorem MT{C:Addr}(hC:C∈[471,512,560]):C∈MO/\(C,[41,2])∈BL/\(C,iOp)∈ifs:=by
 simp only[a7,fK,or_false]at hC;rcases hC with rfl|rfl|rfl<;>simp[MO,BL,ifs]
theorem MU(hB:Base w s₀)(hR:Room A (d+1) 0)(hS:St w s₀ γ s){t a:T}{b:Int}(hcl:t.cls=C)(hC:C∈[471,512,560])(hf:mR t=[(DW,.node a),(Da,.int b),(lS,.int t.lo),(lT,.int t.hi)]){gl:List GS}{bd rest:List Stmt}
  (hbd:kX (d4 (Kf w.params) (gM (Kf w.params) C dP))=bd++rest) (hgl:bd.map (gs (d4 (Kf w.params) (gM (Kf w.params) C dP)).scope)=gl.map some) (hsv:zS a.lo a.hi b gl=some (t.lo,t.hi))
  (hv:AllR (VR γ []) [.node a,.int b] us):codeAny (model prog w) A (.call (.ref C) ⟨us,[]⟩) (PC w s₀ γ (.node t)) s:=by
 refine hv.I2 λu1 u2 x1 x2=>?_;have hv:AllR (VR γ []) _ [u1,u2]:=.cons x1 (.cons x2 .nil);clear x1 x2;have hC2:=(MT hC).1;have hC1:=(MT hC).2;refine BO hB (by have:=hR.dep;lia) hS (hcl▸jW t) hcl hv (ps:=[41,2]) hC1.1 (λS self=>i6 (xi2 w.params S self u1 u2) hC) λx dx envM bZ aU E1 J1 S1=>?_
 have hr:=xY (C:=C) (us:=[u1,u2]) (envM:=envM) hR;obtain⟨IE,_,_,_⟩:=oN (prog:=prog) hB (oY (d:=0)) (hr.le (by decide)) 2
 obtain⟨c1,c2,e1,i1,i2⟩:=P0 (i6 (FX w.params) hC1.2);rw[show FW (Kf w.params) C=_ from e1,hf];refine oO (MM (vs:=[.node a,.int b]) hr.hand hB IE E1 i1 J1 S1 rfl rfl (by kernel_rfl) (aX rfl)) λcZ cL S2 J2=>oO (QS (i:=t.lo) (j:=t.hi) hr.hand hB i2 J2 S2 (D0 hB hC2 (by have:=hr.dep;lia) J2 S2 (by show dP∉[DW,Da];decide+kernel) λenvM₁ lR iY E3 SA F3 I3 S3=>?_) rfl (by kernel_rfl) (aX rfl)) λlR iY S3 J3=>BN J3 S3
 rw[hbd];exact ML hB E3 rest hgl hsv lR iY ⟨SA,I3,t,hcl⟩ S3
theorem Y0(hc:C=644)(hB:Base w s₀)(hR:Room A (d+1) 0)(hS:St w s₀ γ s){ts:List T}(hz:ts.length<=1000)(hv:AllR (VR γ []) [.lst (ts.map .node)] us):codeAny (model prog w) A (.call (.ref C) ⟨us,[]⟩) (PC w s₀ γ (.node (.sum ts))) s:=by
 refine hv.I1 λu hu=>?_;have hv:AllR (VR γ []) _ [u]:=.cons hu .nil;clear hu;have hg:EM (d4 (Kf w.params) (gM (Kf w.params) C dP)).scope (kX (d4 (Kf w.params) (gM (Kf w.params) C dP)))=true:=by rw[hc];exact Px w.params
 refine BO hB (by have:=hR.dep;lia) hS (by rw[hc];simp[pS]) hc.symm hv (ps:=[4]) (by rw[hc];simp[BL]) (λS self=>i6 (xi1 w.params S self u) (by rw[hc];simp)) λx dx envM bZ aU E1 J1 S1=>?_
 have hr:=xY (C:=C) (us:=[u]) (envM:=envM) hR;obtain⟨IE,_,_,_⟩:=oN (prog:=prog) hB (oY (d:=0)) (hr.le (by decide)) 2
 obtain⟨c1,c2,e1,i1,i2⟩:=P0 (i6 (FX w.params) (a:=(C,iRed)) (by rw[hc];simp[ifs]))
 rw[show FW (Kf w.params) C=_ from e1];refine oO (MN (v:=.lst (ts.map .node)) hB IE E1 i1 J1 S1 rfl rfl (by kernel_rfl) (by simp)) λcZ cL S2 J2=>oO (QS (i:=T.los ts) (j:=T.his ts) hr.hand hB i2 J2 S2 (D0 hB (by rw[hc];simp[MO]) (by have:=hr.dep;lia) J2 S2 (by show dP∉[lG];decide+kernel) λenvM₁ lR iY E3 SA F3 I3 S3=>?_) rfl (by kernel_rfl) (aX rfl)) λlR iY S3 J3=>BN J3 S3
 exact IL hB (MS hr) E3 hz hg ⟨SA,I3,⟨.sum [],hc.symm⟩,F3⟩ S3
theorem P1{P:List V->Prop}{c:Addr}{v:V}(k1:∀n,(bif Nat.beq c 331 then some (V.node (.num n))else none)=some v->P [.int n])(k2:∀e lo hi,(bif Nat.beq c 277 then some (V.node (.var e lo hi))else none)=some v->P [.str e,.int lo,.int hi])
  (k3:∀a b,(bif decide (0<=a.lo)then(bif Nat.beq c 471 then(bif jP (a.lo*b)&&jP (a.hi*b)then some (V.node (.mul a b))else none)else bif Nat.beq c 512 then(bif !decide (b=0)&&jP b then some (V.node (.div a b))else none)else bif Nat.beq c 560 then(bif !decide (b=0)&&jP b then some (V.node (.mod a b))else none)else none)else none)=some v->P [.node a,.int b])
  (k4:∀l,(bif Nat.beq c 644&&Nat.ble l.length 1000 then(pW l).map λts=>V.node (.sum ts)else none)=some v->P [.lst l]) {vs:List V} (h:mkV c vs=some v):P vs:=by
 induction vs using List.casesOn with
 |nil=>exact aY h
 |cons a r=>
  induction a using V.casesOn with
  |int n=>
   induction r using List.casesOn with
   |nil=>exact k1 n h
   |cons _ _=>exact aY h
  |lst l=>
   induction r using List.casesOn with
   |nil=>exact k4 l h
   |cons _ _=>exact aY h
  |node t=>
   induction r using List.casesOn with
   |nil=>exact aY h
   |cons b r=>
    induction b using V.casesOn with
    |int b=>
     induction r using List.casesOn with
     |nil=>exact k3 t b h
     |cons _ _=>exact aY h
    |_=>exact aY h
  |str e=>
   induction r using List.casesOn with
   |nil=>exact aY h
   |cons b r=>
    induction b using V.casesOn with
    |int lo=>
     induction r using List.casesOn with
     |nil=>exact aY h
     |cons d r=>
      induction d using V.casesOn with
      |int hi=>
       induction r using List.casesOn with
       |nil=>exact k2 e lo hi h
       |cons _ _=>exact aY h
      |_=>exact aY h
    |_=>exact aY h
  |_=>exact aY h
theorem mk_ok(hB:Base w s₀)(hR:Room A (d+1) 0)(hS:St w s₀ γ s)(hv:AllR (VR γ []) vs us)(h:mkV C vs=some v):codeAny (model prog w) A (.call (.ref C) ⟨us,[]⟩) (PC w s₀ γ v) s:=by
 revert hv;refine P1 (P:=λvs=>AllR (VR γ []) vs us->codeAny (model prog w) A (.call (.ref C) ⟨us,[]⟩) (PC w s₀ γ v) s) (λn h hv=>?_) (λe lo hi h hv=>?_) (λa b h hv=>?_) (λl h hv=>?_) h
 ·refine dJ h ?_;clear h;intro hc h;rw[aA hc,<-aC h];exact Yy hB hR hS hv
 ·refine dJ h ?_;clear h;intro hc h;rw[aA hc,<-aC h];exact Yz hB hR hS hv
 ·refine dJ h ?_;clear h;intro h0 h;have h0:=aM h0;induction c1:Nat.beq C 471 using Bool.casesOn with
  |true=>
   rw[cT (c1 ..)]at h;refine dJ h ?_;clear h;intro hc h;obtain⟨f1,f2⟩:=aL.mp hc;rw[aA c1,<-aC h];exact MU (t:=.mul a b) hB hR hS rfl (by simp) rfl (List.take_append_drop 2 _).symm (Pq w.params) (by rw[rZ,pI];exact Yv h0 f1 f2) hv
  |false=>
   rw[cF (c1 ..)]at h;induction c2:Nat.beq C 512 using Bool.casesOn with
   |true=>
    clear c1;rw[cT (c2 ..)]at h;refine dJ h ?_;clear h;intro hc h;rw[aA c2,<-aC h];exact MU (t:=.div a b) hB hR hS rfl (by simp) rfl (bW _).symm (Pr w.params) (by rw[r6,s7];exact Yw h0 hc) hv
   |false=>
    clear c1;rw[cF (c2 ..)]at h;refine dJ h ?_;clear h;intro c3 h;refine dJ h ?_;clear h;intro hc h;rw[aA c3,<-aC h];exact MU (t:=.mod a b) hB hR hS rfl (by simp) rfl (bW _).symm (Ps w.params) (by rw[uL,uM];exact Yx h0 hc) hv
 ·refine dJ h ?_;clear h;intro hc h;refine eV h ?_;clear h;intro ts h1 h;obtain⟨c1,c2⟩:=aL.mp hc;rw[<-h];have e:=zV h1;clear h1 hc;subst e;exact Y0 (aA c1) hB hR hS (by have:=aX c2;simpa using this) hv
end
def zW(e:Expr):Bool:=u5 false e λo a _=>wO o&&lC a dG
def Y1(e:Expr):Bool:=Ft false e λl ops xs _=>w7 false ops λop=>w7 false xs λx=>Fq false x λc _ _=>Nat.beq c.ctorIdx 0&&zW l&&decide (op=.Is)
def kD(sc:Scope)(body:List Stmt):Option X:=AA none body λc1 c2=>Oq none c1 λt a o _=>w7 none a λc3=>Fv none c3 λts e _=>w7 none ts λtg=>Au none o (AB none c2 λr _=>r.bind λr=>bif Y1 t&&zW tg&&l8 e&&zW r then some (er 20 sc e)else none)
inductive KInv(sc:Scope)(body:List Stmt)(x:X):Prop
 |mk (t tg e r:Expr) (p1 p2 p3:Pos):body=[.If t [.Assign [tg] e p1] [] p2,.Return (some r) p3]->Y1 t=true->zW tg=true->l8 e=true->zW r=true->x=er 20 sc e->KInv sc body x
theorem Y2{sc:Scope}{body:List Stmt}{x:X}(h:kD sc body=some x):KInv sc body x:=
 Ol h nS λc1 c2 eb h=>ifE h nS λt a o p1 e1 h=>Ec h nS λc3 ea h=>asgE h nS λts e p2 e3 h=>Ec h nS λtg et h=>NQ h nS λeo h=>Os h nS λr p3 e2 h=>bH h λr er h=>dJ h λc h=>fF c λc c4=>fF c λc c3=>fF c λc1 c2=>
  ⟨t,tg,e,r,p2,p1,p3,by rw[eb,e1,ea,e3,et,eo,e2,er],c1,c2,c3,c4,(aC h).symm⟩
theorem wR{e:Expr}(h:zW e=true):∃q p,e=.Attribute (.Name jF q) dG p:=
 GU h nT λo a p e h=>fF h λh1 h2=>let⟨q,e'⟩:=pH h1;⟨q,p,by rw[e,e',fY h2]⟩
theorem MV{e:Expr}(h:Y1 e=true):∃l k q p,e=.Compare l [.Is] [.Constant .none k q] p/\zW l=true:=
 cmpE h nT λl ops xs p e h=>Ec h nT λop e1 h=>Ec h nT λx e2 h=>cstE h nT λc k q e3 h=>fF h λh h3=>fF h λh1 h2=>
  ⟨l,k,q,p,by rw[e,e1,e2,e3,aM h3,Const.none.elim (motive:=λz=>z=.none) c (aA h1) rfl],h2⟩
noncomputable def Y3:X:=.meth (.var 1) .render [] [(3,.str d9)]
theorem kD_ok(P:Params):kD (d4 (Kf P) 71).scope (kX (d4 (Kf P) 71))=some Y3:=by kernel_rfl!
theorem kent(P:Params):(wM (Kf P) (71,xR (Kf P) 71 [])&&((d4 (Kf P) 71).scope.names.lookup jF==some .local)&&pS.all (λC=>findIn (Kf P) (.ref C) dG==some (some .none)&&noGet (Kf P) (some .none)))=true:=by kernel_rfl!
theorem kpar(P:Params)(S:Setting)(u:Value):peek (Kf P) S (bindArgs (d4 (Kf P) 71) ⟨[u],[]⟩)=some ((j0 (Kf P) 71).zip [u]):=by kernel_rfl!
theorem kpr(P:Params):(xR (Kf P) 71 []).params=[1]:=by kernel_rfl!
theorem Y4{γ:Gh}{x:Str}{v:V}{u:Value}{hsh:Int}{key:Value}(hv:VR γ [] v u):∀{fs:List (Str×V)} {es:List DictEntry},AllR (FR γ) fs es->cJ x fs=some v->AllR (FR γ) fs (putL x hsh key u es):=by
 intro fs es h;induction h with
 |nil=>intro e;exact aY e
 |@cons p en fs es r rs ih=>
  intro e;obtain⟨y,z⟩:=p;obtain⟨⟨k,hk⟩,hr⟩:=r;have hs:en.key.isStr x=(y==x):=by rw[hk];rfl
  unfold cJ at e;unfold putL;rw[hs];induction hx:lC x y using Bool.casesOn with
  |true=>
   rw[hx]at e;clear ih;obtain rfl:=aC e;rw[fY hx,beq_self_eq_true];exact .cons ⟨⟨k,hk⟩,hv⟩ rs
  |false=>
   rw[hx]at e;rw[show(y==x)=false from cK.mpr (Ne.symm (l9.mp hx))];exact .cons ⟨⟨k,hk⟩,hr⟩ (ih e)
section
variable{prog:Program}{w:World}{s₀ s s' bZ:Shared}{γ bP:Gh}{A:Around}{v:V}{u:Value}{x dx C:Addr}{envM:Env}{sc:Scope}{d:Nat}{cf:cO}{t:T}{us:List Value}{es:List DictEntry}{n:Nat}
theorem St.keyed(h:St w s₀ γ s)(e:γ x=some (.node t dx))(hs:Heap.SameBut dx s.heap s'.heap)(ho:s'.heap.get? dx=some (dictOf es n))(r:AllR (FR γ) (mR t++[(dG,.str t.rend)]) es)(hg:autoParam (s'.gens=s.gens) au)(hos:autoParam (s'.os=s.os) au):St w s₀ γ s':=
 ⟨λb ob q=>(hs.2 b (λz=>by have:=(h.ok.dlo _ _ _ e).1;rw[<-z]at this;exact absurd (aZ (Heap.lt_size q) this) (i7 _))).trans (h.keep b ob q),
  by rw[hs.1];exact h.size,h.ok.keyed e hs ho r,hg.trans h.gens,hos.trans h.os⟩
theorem Ge(P:Params)(t:T):findIn (Kf P) (.ref t.cls) dG=some (some .none)/\noGet (Kf P) (some .none)=true:=by
 have:=(aL.mp (kent P)).2;have:=aW.mp this _ (jW t);refine oA (aL.mp this) λa b=>?_;exact⟨beq_iff_eq.mp a,b⟩
theorem xZ(t:T):cJ dG (mR t)=none:=by induction t using T.casesOn<;>rfl
theorem D2(hB:Base w s₀)(hA:SelfAt γ envM x)(hS:St w s₀ γ s)(hx:s.heap.get? x=some (instObj t.cls dx))(hd:s.heap.get? dx=some (dictOf es n))(r:AllR (FR γ) (mR t++[(dG,.str t.rend)]) es){q p:Pos}{Q:Value->Shared->Prop}(hq:∀tk,Q (.str t.rend tk) {s with toks:=s.toks+1}):
  wpAny (model prog w) A (eval (.Attribute (.Name jF q) dG p) envM) Q fW s:=by
 refine NP (hA.frm hS) λL m F=>?_;refine i8 (rD r (x:=dG) (v:=.str t.rend) (by rw[pD,xZ];rfl)) λu h1 h2=>?_
 obtain⟨a1,a2⟩:=Ge w.params t;obtain⟨tk,rfl⟩:=h2.isStr;exact tR rfl (kE hA hS (get_own F hB.K ⟨hx,rfl,rfl,hd⟩ (rU _ t _) (q9 _ t) a1 a2 h1 rfl (hq tk)))
theorem MW(hB:Base w s₀)(hA:SelfAt γ envM x)(hS:St w s₀ γ s)(hx:s.heap.get? x=some (instObj t.cls dx))(hd:s.heap.get? dx=some (dictOf es n))(r:AllR (FR γ) (mR t) es){q p:Pos}{Q:Value->Shared->Prop}(hq:Q .none {s with toks:=s.toks+1}):
  wpAny (model prog w) A (eval (.Attribute (.Name jF q) dG p) envM) Q fW s:=by
 refine NP (hA.frm hS) λL m F=>?_;obtain⟨a1,a2⟩:=Ge w.params t;have hs:specialIn (Kf w.params) .none "__get__"=some none:=aM (beq_iff_eq.mp (by
  have:=a2;unfold noGet at this;simpa using this))
 exact tR rfl (kE hA hS (get_cls F hB.K ⟨hx,rfl,rfl,hd⟩ (rU _ t _) (q9 _ t) a1 hs rfl (by decide+kernel) (oW r (xZ t)) hq))
theorem Y5(h50:cf 50 [.node t] [(3,.str d9)]=some v):dI cf (bJ cf 1) Y3 [(1,.node t)] []=some (v,[]):=by
 induction t using T.casesOn<;>(show((cf 50 [V.node _] [(3,V.str d9)]).map λv=>(v,_))=_;rw[h50];rfl)
end
section
variable{prog:Program}{w:World}{s₀ s s' bZ:Shared}{γ bP:Gh}{A:Around}{v:V}{u:Value}{x dx C:Addr}{envM:Env}{sc:Scope}{d:Nat}{cf:cO}{t:T}{us:List Value}{es:List DictEntry}{n:Nat}
theorem P2(hB:Base w s₀)(hS:St w s₀ γ s)(e:γ x=some (.node t dx)){tk:Tok}:
  wpAny (model prog w) A (setAttr (.ref x) dG (.str t.rend tk)) (λ_ s'=>St w s₀ γ s'/\s'.heap.get? x=some (instObj t.cls dx)/\∃es n,s'.heap.get? dx=some (dictOf es n)/\AllR (FR γ) (mR t++[(dG,.str t.rend)]) es) fW s:=by
 refine yE (hS.ok.at_ _ _ e) λhx es n hd r=>?_;have c:=aW.mp (st1 w.params) t.cls (jW t);simp only[a9,beq_iff_eq]at c;obtain⟨⟨⟨c1,c2⟩,c3⟩,c4⟩:=c;have ht:=beq_iff_eq.mp (aW.mp c4 dG (by simp[Z9]))
 have hK:=hB.K.keeps hS.keep;have f5:x≠dx:=λz=>by clear hK ht c2 c1 c3 c4 r;rw[z,hd]at hx;cases hx
 have I:InstAt s.heap x (instObj t.cls dx) t.cls (some (dictOf es n)):=⟨hx,rfl,rfl,hd⟩;have hV:VR γ [] (.str t.rend) (.str t.rend tk):=.str ..;have hflen:(mR t).length<=4:=by clear hV I ht c2 c1 c3 c4 r hx e;induction t using T.casesOn<;>(unfold mR;simp)
 have hes:(getL dG es).isSome=true/\∀h k,AllR (FR γ) (mR t++[(dG,.str t.rend)]) (putL dG h (.str dG k) (.str t.rend tk) es):=by
  rcases r with r|r
  ·have g:=oW r (xZ t);exact⟨by rw[g];rfl,λh k=>by rw[vL _ _ _ _ _ g];exact r.append (.cons ⟨⟨_,rfl⟩,hV⟩ .nil)⟩
  ·have hl:cJ dG (mR t++[(dG,.str t.rend)])=some (.str t.rend):=by rw[pD,xZ];rfl
   obtain⟨u',g,_⟩:=rD r hl;exact⟨by rw[g];rfl,λh k=>Y4 hV r hl⟩
 obtain⟨g,hp⟩:=hes;have hp:=hp (PyData.keyHash w.params dG) (s.toks+1);have e':=putName_dict dG (PyData.keyHash w.params dG) (.str dG (s.toks+1)) (.str t.rend tk) es n;have D':(s.heap.update dx (Obj.putName dG (PyData.keyHash w.params dG) (.str dG (s.toks+1)) (.str t.rend tk))).get? dx=some (dictOf (putL dG (PyData.keyHash w.params dG) (.str dG (s.toks+1)) (.str t.rend tk) es) (putN dG es n)):=e'▸Heap.get?_update_self _ hd (e'▸rfl);have hz:(putL dG (PyData.keyHash w.params dG) (.str dG (s.toks+1)) (.str t.rend tk) es).length<=1000:=by have:=hp.length;rw[bU,d0]at this;exact Lp hflen this
 refine set_plain hK I c1 (FS (s:={s with toks:=s.toks+1}) hK hx hd c2 c3 ht g hz ?_)
 exact⟨hS.keyed (s':={s with heap:=s.heap.update dx (Obj.putName dG (PyData.keyHash w.params dG) (.str dG (s.toks+1)) (.str t.rend tk)),toks:=s.toks+1+1}) e (Heap.SameBut.update ..) D' hp,((Heap.SameBut.update ..).2 x f5).trans hx,_,_,D',hp⟩
theorem Y6{a:Addr}(ha:a=71)(hB:Base w s₀)(hc:q8 prog w s₀ d cf)(hR:Room A (d+1) 0)(hS:St w s₀ γ s)(hv:AllR (VR γ []) [.node t] us)(h50:cf 50 [.node t] [(3,.str d9)]=some (.str t.rend)):codeAny (model prog w) A (.call (.ref a) ⟨us,[]⟩) (PC w s₀ γ (.str t.rend)) s:=by
 refine fM (hv.len1) λu us' zr2 hu h0=>?_;subst zr2;cases h0;clear hv;refine kW (id hu.isNode) λx dx zr2 ex=>?_;subst zr2;have ke:wM (Kf w.params) (a,xR (Kf w.params) a [])=true/\(d4 (Kf w.params) a).scope.names.lookup jF=some .local:=by
  have:=kent w.params;simp only[a9,beq_iff_eq]at this;rw[ha];exact this.1
 refine oA (ke) λk1 k2=>?_;have I:=EJ k1 rfl;have hK:=hB.K.keeps hS.keep;have hpr:(xR (Kf w.params) a []).params=[1]:=by rw[ha];exact kpr w.params
 have hpb:∀S u,peek (Kf w.params) S (bindArgs (d4 (Kf w.params) a) ⟨[u],[]⟩)=some ((j0 (Kf w.params) a).zip [u]):=by rw[ha];exact kpar w.params
 have hkd:kD (d4 (Kf w.params) a).scope (kX (d4 (Kf w.params) a))=some Y3:=by rw[ha];exact kD_ok w.params
 refine BH (R':=λv u'=>VR γ [] v u'/\u'=.ref x) (vs:=[.node t]) (us':=[.ref x]) (env:=[(1,.node t)]) hB hS I (kp_binds hK λS=>hpb S _) (by have:=hR.dep;lia) (.cons ⟨hu,rfl⟩ .nil) (λj v h=>⟨by rw[hpr];exact h,λu q=>q.1⟩) λenvM bZ aU S1 T1 F1 E1 CA W1 X1=>?_
 have hk:=eG E1 (x:=jF) (by rw[f8];exact k2)
 refine JD (X1 jF 1 (.node t) rfl (by rw[hpr];rfl) hk) λo m u' h1 h2 h3 _ zr7=>?_;subst zr7
 have SA:SelfAt aU envM x:=⟨⟨o,m,h1,h2,h3⟩,hk,E1.kind⟩;have ex1:=T1.ext _ _ ex rfl;obtain⟨tt,tg,e,r,p1,p2,p3,hbd,i1,i2,i3,i4,i5⟩:=Y2 hkd;refine Xx (MV i1) λl k' q1 q2 zr4 j1=>?_;subst zr4;clear i1;obtain⟨q3,p4,rfl⟩:=wR j1;obtain⟨q5,p5,rfl⟩:=wR i2;obtain⟨q6,p6,rfl⟩:=wR i4;rw[hbd];have fin:∀{cZ:Shared} {cL:Gh} {es:List DictEntry} {n:Nat},St w s₀ cL cZ->Step [] aU cL [] []->cZ.heap.get? x=some (instObj t.cls dx)->cZ.heap.get? dx=some (dictOf es n)->AllR (FR cL) (mR t++[(dG,.str t.rend)]) es->
   wpAny (model prog w) (A.deeper envM) (execs [.Return (some (.Attribute (.Name jF q6) dG p6)) p3] envM) (λf s'=>PC w s₀ γ (.str t.rend) (.ok (.ret (match f with|.ret v=>v|_=>.none))) s') fW cZ:=λS2 T2 hx hd r=>
  wpAny_execs_cons (wpAny_Return_some (D2 hB (SA.step T2 (by simp) (by simp)) S2 hx hd r λtk=>⟨.str t.rend tk,_,rfl,S2.like,T1.trans T2,.str ..⟩))
 refine yE (S1.ok.at_ _ _ ex1) λhx es n hd r=>?_;refine wpAny_execs_cons (wpAny_If (wpAny_isTrue_Compare1 ?_ rfl));rcases r with r|r
 ·refine MW hB SA S1 hx hd r (wpAny_Constant_none (wpAny_is_self rfl ?_));have S2:St w s₀ aU {bZ with toks:=bZ.toks+1}:=S1.like
  refine aD (sW S2 (CsOk.nil w aU) (.bool true) (show eM (.bool true) []=some true from rfl)) (λb cZ z=>?_) λ_ _ z=>z;refine Bt (z.pn) λzr0 cL S3 T3=>?_;subst zr0;rw[if_pos rfl];refine uY (oN (prog:=prog) hB hc (hR.deep (envM:=envM)) 2) λIE _ _ _=>?_;refine wpAny_execs_cons (plainObj_wpAny_Assign_Attribute (aD (IE 20 _ e envM E1 cZ cL [] [(1,.node t)] [] (.str t.rend) [] S3 (CsOk.nil w cL) (F1.step T3) (by rw[<-i5];exact Y5 h50)) (λu₃ lR z=>?_) λ_ _ z=>z) (mA i3 ..))
  obtain⟨iY,ad₃,S4,C4,T4,V4⟩:=z;refine V4.strI λtk=>?_;have T34:=T3.trans T4.drop;refine kE (SA.step T34 (by simp) (by simp)) S4 (aD (P2 hB S4 (T34.ext _ _ ex1 rfl)) (λ_ s₅ z=>?_) λ_ _ z=>z)
  refine Xw (z) λS5 hx5 es5 n5 hd5 r5=>?_;exact wpAny_execs_nil (fin S5 T34 hx5 hd5 r5)
 ·refine D2 hB SA S1 hx hd r λtk=>wpAny_Constant_none (is_none_ne (by intro z;cases z) ?_)
  have S2:St w s₀ aU {bZ with toks:=bZ.toks+1}:=S1.like
  refine aD (vC S2 (CsOk.nil w aU) (.bool false) (show eM (.bool false) []=some false from rfl)) (λb cZ z=>?_) λ_ _ z=>z;obtain⟨rfl,z⟩:=z;rw[if_neg (by decide)]
  exact wpAny_execs_nil (fin (z.st S2) (.refl _ _) (by rw[z.1];exact hx) (by rw[z.1];exact hd) r)
end
set_option tactic.hygienic true
section
variable{prog:Program}{w:World}{s₀:Shared}
theorem MX(hB:Base w s₀):∀d,q8 prog w s₀ d (aB fi d)
 |0=>λ_ _ _ _ _ _ _ _ _ _ _ _ _ _ h=>by exact aY h
 |d+1=>λA s γ a vs us kws ukws v hR hS hF hv hk h=>by
  have ih:=MX hB d;have h:(bif Nat.beq a 71 then w7 none vs λv=>yT none v λt=>pU none (aB fi d 50 vs [(3,.str d9)]) λu=>tZ none u λs=>bif lC s t.rend&&kws.isEmpty then some (.str s)else none
  else bif Dg a then Au none kws (mkV a vs)
  else(fi a).bind λi=>(u9 i.params vs kws i.dflts).bind λenv=>(uI (bJ (aB fi d) Ay) i.body env []).bind λp=>some (match p.1 with|some v=>v|none=>.none))=some v:=h
  induction c1:Nat.beq a 71 using Bool.casesOn with
  |true=>
   rw[cT (c1 ..)]at h;refine Ec h nS ?_;clear h;intro v' e h;subst e;refine vNE h nS ?_;clear h;intro t e h;subst e;refine oE h nS ?_;clear h;intro u hx h;refine Q6 h nS ?_;clear h;intro x e h;subst e;refine dJ h ?_;clear h;intro hc h;refine e9 h ?_;obtain⟨e1,e2⟩:=aL.mp hc;cases eI.mp e2;cases hk;have e1:=fY e1;clear hc h;subst e1;exact Y6 (aA c1) hB ih hR hS hv hx
  |false=>
   rw[cF (c1 ..)]at h;induction c2:Dg a using Bool.casesOn with
   |true=>
    clear c1;rw[cT (c2 ..)]at h;refine NQ h nS λe h=>?_;subst e;cases hk;exact mk_ok hB hR hS hv h
   |false=>
    clear c1;rw[cF (c2 ..)]at h;refine bH h ?_;clear h;intro i hi h;refine bH h ?_;clear h;intro env hb h;refine bH h ?_;clear h;intro p hx h;refine e9 h ?_;obtain⟨rv,env',cW⟩:=p;have:=QM hB ih hR hS hi hv hk hb hx;induction rv using Option.casesOn<;>exact this
end
set_option tactic.hygienic false
section
variable{prog:Program}{w:World}{s₀ s s':Shared}{γ:Gh}
theorem St.init{a:Addr}{arr:Array Value}{l:List V}(hl:s.heap.IsList a arr)(hv:∀γ,AllR (VR γ []) l arr.toList):St w s (iZ (λ_=>none) a (some (.lst l))) s:=by
 refine oEAAE (hl) λo h1 h2 n h3=>?_;have back:∀{b g},iZ (λ_=>none) a (some (G.lst l)) b=some g->b=a/\g=.lst l:=λ{b g} q=>by
  by_cases hb:b=a
  ·clear h1;subst hb;rw[bK]at q;refine e9 q ?_;exact⟨rfl,rfl⟩
  ·rw[cN hb]at q;exact aY q
 refine⟨λ_ _ e=>e,cA _,⟨λb g q=>?_,λb g q hg=>?_,λb t dx q=>?_,λb b' t t' dx q q'=>?_⟩,rfl,rfl⟩
 ·obtain⟨rfl,rfl⟩:=back q;exact⟨o,h1,h2,arr,n,h3,hv _⟩
 ·obtain⟨_,rfl⟩:=back q;exact jA hg
 ·obtain⟨_,e⟩:=back q;cases e
 ·obtain⟨_,e⟩:=back q;cases e
theorem IN{d:Nat}{vs:List V}{v:V}(h:aB fi (d+1) 687 vs []=some v):∃i env rv env' cW,fi 687=some i/\u9 i.params vs [] i.dflts=some env/\uI (bJ (aB fi d) Ay) i.body env []=some (rv,env',cW)/\v=(match rv with|some v=>v|none=>.none):=by
 replace h:((fi 687).bind λi=>(u9 i.params vs [] i.dflts).bind λenv=>(uI (bJ (aB fi d) Ay) i.body env []).bind λp=>some (match p.1 with|some v=>v|none=>.none))=some v:=h
 refine bH h ?_;clear h;intro i hi h;refine bH h ?_;clear h;intro env hb h;refine bH h ?_;clear h;intro p hx h;obtain⟨rv,env',cW⟩:=p;exact⟨i,env,rv,env',cW,hi,hb,hx,(aC h).symm⟩
theorem Y7(hB:Base w s){fa a:Addr}(hfa:fa=687){vs:List Value}{is:List Int}(hl:s.heap.IsList a vs.toArray)(hv:AllR (VR (λ_=>none) []) (is.map V.int) vs)(hp:aB fi 60 687 [.lst (is.map V.int)] []=some (.bool true)):
  wpAny (model prog w) callerA (call (.ref fa) [.ref a]) (λv s'=>v=.bool true/\(∀b o,s.heap.get? b=some o->s'.heap.get? b=some o)/\s'.gens=s.gens/\s'.os=s.os) fW s:=by
 have hS:=St.init (w:=w) (l:=is.map V.int) hl λγ=>by rw[List.toList_toArray];exact hv.mono λ_ _ z=>z.mono (λ_ _ e=>aY e) λ_ _ e=>e
 refine GO (IN hp) λi env rv env' cW hi hb hx hr=>?_;subst hfa;have hR:Room callerA 60 0:=⟨rfl,by decide+kernel,by decide+kernel⟩
 refine wpAny_call (codeAny_mono (QM (prog:=prog) (us:=[.ref a]) (ukws:=[]) hB (MX hB 59) hR hS hi (.cons (.lst (bK ..)) .nil) .nil hb hx) λr s' z=>?_);obtain⟨u,bP,rfl,S1,T1,V1⟩:=z;induction rv using Option.casesOn with
 |none=>cases hr
 |some v'=>
  cases hr;cases(show VR bP [] (.bool true) u from V1);exact⟨rfl,S1.keep,S1.gens,S1.os⟩
end
set_option tactic.hygienic true
structure RecK(α:Type) where
 ev:X->Ev->Cs->(V->Cs->Option α)->Option α
 ts:X->Ev->Cs->(Bool->Cs->Option α)->Option α
 ex:Y->Ev->Cs->(V->Ev->Cs->Option α)->(Ev->Cs->Option α)->Option α
section
variable{α:Type}
noncomputable def EO(rk:RecK α)(env:Ev):List X->Cs->(List V->Cs->Option α)->Option α
 |[],cs,k=>k [] cs
 |e::es,cs,k=>rk.ev e env cs λv cs=>EO rk env es cs λvs cs=>k (v::vs) cs
def MY(rk:RecK α)(env:Ev):List (Nat×X)->Cs->(List (Nat×V)->Cs->Option α)->Option α
 |[],cs,k=>k [] cs
 |(n,e)::es,cs,k=>rk.ev e env cs λv cs=>bif isOwn v then none else MY rk env es cs λvs cs=>k ((n,v)::vs) cs
noncomputable def P3(rk:RecK α)(env:Ev)(isAnd:Bool):List X->Cs->(Bool->Cs->Option α)->Option α
 |[],cs,k=>k isAnd cs
 |e::es,cs,k=>rk.ts e env cs λb cs=>bif (bif isAnd then b else !b)then P3 rk env isAnd es cs k else k (!isAnd) cs
def zX(cf:cO)(o:V)(n:Nm)(args:List V)(kws:List (Nat×V))(cs:Cs)(k:V->Cs->Option α):Option α:=V.casesOn (motive_1:=λ_=>Option α) o
 ((qZ cf o n args kws cs).bind λx=>k x.1 x.2)
 (λ_=>(qZ cf o n args kws cs).bind λx=>k x.1 x.2)
 (λ_=>(qZ cf o n args kws cs).bind λx=>k x.1 x.2)
 (λ_=>(qZ cf o n args kws cs).bind λx=>k x.1 x.2)
 (λt=>(gU t n).bind λf=>(eX args cs).bind λw=>(cf f (.node t::w.1) kws).bind λv=>k v w.2)
 (λ_=>(qZ cf o n args kws cs).bind λx=>k x.1 x.2)
 (λ_=>(qZ cf o n args kws cs).bind λx=>k x.1 x.2)
 (λ_=>(qZ cf o n args kws cs).bind λx=>k x.1 x.2)
 (λ_=>(qZ cf o n args kws cs).bind λx=>k x.1 x.2)
 (λ_=>(qZ cf o n args kws cs).bind λx=>k x.1 x.2)
 (λc=>(pX c n).bind λf=>(eX args cs).bind λw=>(cf f w.1 kws).bind λv=>k v w.2)
 (λ_=>(qZ cf o n args kws cs).bind λx=>k x.1 x.2)
def QT(cf:cO)(f:V)(args:List V)(kws:List (Nat×V))(cs:Cs)(k:V->Cs->Option α):Option α:=V.casesOn (motive_1:=λ_=>Option α) f
 ((pY cf f args kws cs).bind λx=>k x.1 x.2)
 (λ_=>(pY cf f args kws cs).bind λx=>k x.1 x.2)
 (λ_=>(pY cf f args kws cs).bind λx=>k x.1 x.2)
 (λ_=>(pY cf f args kws cs).bind λx=>k x.1 x.2)
 (λ_=>(pY cf f args kws cs).bind λx=>k x.1 x.2)
 (λ_=>(pY cf f args kws cs).bind λx=>k x.1 x.2)
 (λ_=>(pY cf f args kws cs).bind λx=>k x.1 x.2)
 (λ_=>(pY cf f args kws cs).bind λx=>k x.1 x.2)
 (λ_=>(pY cf f args kws cs).bind λx=>k x.1 x.2)
 (λ_=>(pY cf f args kws cs).bind λx=>k x.1 x.2)
 (λa=>(eX args cs).bind λw=>(cf a w.1 kws).bind λv=>k v w.2)
 (λ_=>(pY cf f args kws cs).bind λx=>k x.1 x.2)
def D3(cf:cO)(r:Rec)(rk:RecK α)(e:X)(env:Ev)(cs:Cs)(k:V->Cs->Option α):Option α:=X.casesOn (motive_1:=λ_=>Option α) e
 ((dI cf r e env cs).bind λp=>k p.1 p.2)
 (λ_=>(dI cf r e env cs).bind λp=>k p.1 p.2)
 (λ_=>(dI cf r e env cs).bind λp=>k p.1 p.2)
 (λ_=>(dI cf r e env cs).bind λp=>k p.1 p.2)
 ((dI cf r e env cs).bind λp=>k p.1 p.2)
 (λ_=>(dI cf r e env cs).bind λp=>k p.1 p.2)
 (λ_=>(dI cf r e env cs).bind λp=>k p.1 p.2)
 (λ_=>(dI cf r e env cs).bind λp=>k p.1 p.2)
 (λop l x=>rk.ev l env cs λp cs=>rk.ev x env cs λq cs=>(cG cf op p q).bind λv=>k v cs)
 (λ_=>(dI cf r e env cs).bind λp=>k p.1 p.2)
 (λx=>rk.ev x env cs λp cs=>(eM p cs).bind λb=>k (.bool (!b)) cs)
 (λx y=>rk.ev x env cs λv cs=>(eM v cs).bind λb=>bif b then rk.ev y env cs k else k v cs)
 (λ_ _=>(dI cf r e env cs).bind λp=>k p.1 p.2)
 (λt a b=>rk.ts t env cs λc cs=>bif c then rk.ev a env cs k else rk.ev b env cs k)
 (λop l x=>rk.ev l env cs λp cs=>rk.ev x env cs λq cs=>(j3 cf op p q).bind λv=>k v cs)
 (λes=>bif !Nat.blt es.length 20 then none else EO rk env es cs λvs cs=>(eX vs cs).bind λq=>k (gT (.lst q.1) q.2).1 (gT (.lst q.1) q.2).2)
 (λ_=>(dI cf r e env cs).bind λp=>k p.1 p.2)
 ((dI cf r e env cs).bind λp=>k p.1 p.2)
 (λo n=>rk.ev o env cs λp cs=>(jD cf p n).bind λv=>k v cs)
 (λo i=>rk.ev o env cs λp cs=>rk.ev i env cs λq cs=>(eZ p q cs).bind λv=>k v cs)
 (λ_ _=>(dI cf r e env cs).bind λp=>k p.1 p.2)
 (λo n args kws=>rk.ev o env cs λp cs=>bif !jQ p n cs then none else EO rk env args cs λq cs=>MY rk env kws cs λz cs=>zX cf p n q z cs k)
 (λf args kws=>rk.ev f env cs λp cs=>EO rk env args cs λq cs=>MY rk env kws cs λz cs=>QT cf p q z cs k)
 (λ_ _ _ _=>(dI cf r e env cs).bind λp=>k p.1 p.2)
 (λ_ _ _ _ _=>(dI cf r e env cs).bind λp=>k p.1 p.2)
 (λ_ _ _ _=>(dI cf r e env cs).bind λp=>k p.1 p.2)
def tsKS(cf:cO)(r:Rec)(rk:RecK α)(e:X)(env:Ev)(cs:Cs)(k:Bool->Cs->Option α):Option α:=X.casesOn (motive_1:=λ_=>Option α) e
 (none)
 (λx=>D3 cf r rk (.var x) env cs λv cs=>(eM v cs).bind λb=>k b cs)
 (λ_=>none)
 (λ_=>none)
 (none)
 (λ_=>none)
 (λ_=>none)
 (λ_=>none)
 (λop a b=>D3 cf r rk (.bin op a b) env cs λv cs=>(eM v cs).bind λb=>k b cs)
 (λ_=>none)
 (λx=>rk.ts x env cs λb cs=>k (!b) cs)
 (λx y=>P3 rk env true [x,y] cs k)
 (λisAnd es=>P3 rk env isAnd es cs k)
 (λ_ _ _=>none)
 (λop a b=>D3 cf r rk (.cmp op a b) env cs λv cs=>(eM v cs).bind λb=>k b cs)
 (λ_=>none)
 (λ_=>none)
 (none)
 (λo n=>D3 cf r rk (.attr o n) env cs λv cs=>(eM v cs).bind λb=>k b cs)
 (λ_ _=>none)
 (λ_ _=>none)
 (λ_ _ _ _=>none)
 (λf a kw=>D3 cf r rk (.call f a kw) env cs λv cs=>(eM v cs).bind λb=>k b cs)
 (λ_ _ _ _=>none)
 (λ_ _ _ _ _=>none)
 (λ_ _ _ _=>none)
noncomputable def dR(rk:RecK α):List Y->Ev->Cs->(V->Ev->Cs->Option α)->(Ev->Cs->Option α)->Option α
 |[],env,cs,_,kn=>kn env cs
 |s::ss,env,cs,kr,kn=>rk.ex s env cs kr λenv cs=>dR rk ss env cs kr kn
noncomputable def nK(o:LH)(kr:V->Ev->Cs->Option α)(kn:Ev->Cs->Option α):Option α:=o.bind λp=>match p.1 with
 |some v=>kr v p.2.1 p.2.2
 |none=>kn p.2.1 p.2.2
def exKS(r:Rec)(rk:RecK α)(s:Y)(env:Ev)(cs:Cs)(kr:V->Ev->Cs->Option α)(kn:Ev->Cs->Option α):Option α:=Y.casesOn (motive_1:=λ_=>Option α) s
 (nK (wC 2000 r s env cs) kr kn)
 (λe=>rk.ev e env cs λv cs=>(a8 v cs).bind λq=>kr q.1 env q.2)
 (λe=>rk.ev e env cs λv cs=>bif g7 v then kn env cs else none)
 (nK (wC 2000 r s env cs) kr kn)
 (λx e=>rk.ev e env cs λv cs=>kn (fO x v env) cs)
 (λx y a b=>rk.ev a env cs λv cs=>rk.ev b env cs λw cs=>kn (fO y w (fO x v env)) cs)
 (λd k e=>rk.ev e env cs λv cs=>(dZ d env).bind λo=>rk.ev k env cs λw cs=>(Ax o w v cs).bind λc=>kn env c)
 (λx op e=>bif decide (op=.Add)then(dZ x env).bind λo=>rk.ev e env cs λv cs=>(Ov o v).bind λw=>kn (fO x w env) cs else none)
 (λt a b=>rk.ts t env cs λc cs=>bif c then dR rk a env cs kr kn else dR rk b env cs kr kn)
 (λt=>rk.ts t env cs λc cs=>bif c then kn env cs else none)
 (λt it body=>rk.ev it env cs λv cs=>(j4 t v cs).bind λl=>nK (gV r t body l.1 env l.2) kr kn)
 (λt args body=>EO rk env args cs λvs cs=>(l7 vs).bind λl=>nK (gV r t body l env cs) kr kn)
 (λ_ _=>nK (wC 2000 r s env cs) kr kn)
def m4(cf:cO):Nat->RecK α
 |0=>⟨λ_ _ _ _=>none,λ_ _ _ _=>none,λ_ _ _ _ _=>none⟩
 |n+1=>⟨D3 cf (bJ cf n) (m4 cf n),tsKS cf (bJ cf n) (m4 cf n),exKS (bJ cf n) (m4 cf n)⟩
structure KOk(r:Rec)(rk:RecK α):Prop where
 ev:∀x env cs k,rk.ev x env cs k=(r.ev x env cs).bind λp=>k p.1 p.2
 ts:∀x env cs k,rk.ts x env cs k=(r.ts x env cs).bind λp=>k p.1 p.2
 ex:∀s env cs kr kn,rk.ex s env cs kr kn=nK (r.ex s env cs) kr kn
variable{r:Rec}{rk:RecK α}{cf:cO}
theorem wS{α β γ:Type}(o:Option α)(f:α->Option β)(g:β->Option γ):(o.bind f).bind g=o.bind λx=>(f x).bind g:=by induction o using Option.casesOn<;>rfl
theorem obindm{α β γ:Type}(o:Option α)(f:α->β)(g:β->Option γ):(o.map f).bind g=o.bind λx=>g (f x):=by induction o using Option.casesOn<;>rfl
theorem ocondb{β γ:Type}(c:Bool)(x y:Option β)(g:β->Option γ):(bif c then x else y).bind g=bif c then x.bind g else y.bind g:=by induction c using Bool.casesOn<;>rfl
theorem bC{β γ:Type}{o:Option β}{f g:β->Option γ}(h:∀x,f x=g x):o.bind f=o.bind g:=by
 induction o using Option.casesOn
 ·rfl
 ·exact h _
theorem bB{β γ δ:Type}{o:Option β}{K:β->Option δ}{F:β->Option γ}{g:γ->Option δ}(h:∀x,K x=(F x).bind g):o.bind K=(o.bind F).bind g:=by
 induction o using Option.casesOn
 ·rfl
 ·exact h _
theorem bM{β γ δ:Type}{o:Option β}{K:β->Option δ}{F:β->γ}{g:γ->Option δ}(h:∀x,K x=g (F x)):o.bind K=(o.map F).bind g:=by
 induction o using Option.casesOn
 ·rfl
 ·exact h _
theorem bI{β γ:Type}{c:Bool}{x y:Option β}{a b:Option γ}{g:β->Option γ}(h1:a=x.bind g)(h2:b=y.bind g):(bif c then a else b)=(bif c then x else y).bind g:=by
 induction c using Bool.casesOn
 ·exact h2
 ·exact h1
theorem KOk.b(h:KOk r rk){β:Type}{x:X}{env:Ev}{cs:Cs}{K:V->Cs->Option α}{F:V×Cs->Option β}{g:β->Option α}(q:∀p,K p.1 p.2=(F p).bind g):rk.ev x env cs K=((r.ev x env cs).bind F).bind g:=(h.ev ..).trans (bB q)
theorem KOk.m(h:KOk r rk){β:Type}{x:X}{env:Ev}{cs:Cs}{K:V->Cs->Option α}{F:V×Cs->β}{g:β->Option α}(q:∀p,K p.1 p.2=g (F p)):rk.ev x env cs K=((r.ev x env cs).map F).bind g:=(h.ev ..).trans (bM q)
theorem KOk.tb(h:KOk r rk){β:Type}{x:X}{env:Ev}{cs:Cs}{K:Bool->Cs->Option α}{F:Bool×Cs->Option β}{g:β->Option α}(q:∀p,K p.1 p.2=(F p).bind g):rk.ts x env cs K=((r.ts x env cs).bind F).bind g:=(h.ts ..).trans (bB q)
theorem Gf(h:KOk r rk)(env:Ev)(es:List X):∀cs k,EO rk env es cs k=(Fx r env es cs).bind λp=>k p.1 p.2:=by
 induction es with
 |nil=>exact λ_ _=>rfl
 |cons e es ih=>exact λcs k=>h.b λp=>(ih ..).trans (bM λ_=>rfl)
theorem P4(h:KOk r rk)(env:Ev)(es:List (Nat×X)):∀cs k,MY rk env es cs k=(yX r env es cs).bind λp=>k p.1 p.2:=by
 induction es with
 |nil=>exact λ_ _=>rfl
 |cons e es ih=>exact λcs k=>h.b λp=>bI rfl ((ih ..).trans (bM λ_=>rfl))
theorem Gg(h:KOk r rk)(env:Ev)(isAnd:Bool)(es:List X):∀cs k,P3 rk env isAnd es cs k=(LD r env isAnd es cs).bind λp=>k p.1 p.2:=by
 induction es with
 |nil=>exact λ_ _=>rfl
 |cons e es ih=>exact λcs k=>h.tb λp=>bI (ih ..) rfl
theorem MZ(o:V)(n:Nm)(args:List V)(kws:List (Nat×V))(cs:Cs)(k:V->Cs->Option α):zX cf o n args kws cs k=(qZ cf o n args kws cs).bind λp=>k p.1 p.2:=by
 induction o using V.casesOn with
 |node t=>exact bB λ_=>bB λ_=>bM λ_=>rfl
 |glob t=>exact bB λ_=>bB λ_=>bM λ_=>rfl
 |_=>rfl
theorem Na(f:V)(args:List V)(kws:List (Nat×V))(cs:Cs)(k:V->Cs->Option α):QT cf f args kws cs k=(pY cf f args kws cs).bind λp=>k p.1 p.2:=by
 induction f using V.casesOn with
 |glob t=>exact bB λ_=>bM λ_=>rfl
 |_=>rfl
theorem KOk.s(h:KOk r rk){β:Type}{env:Ev}{es:List X}{cs:Cs}{K:List V->Cs->Option α}{F:List V×Cs->Option β}{g:β->Option α}(q:∀p,K p.1 p.2=(F p).bind g):EO rk env es cs K=((Fx r env es cs).bind F).bind g:=(Gf h ..).trans (bB q)
theorem KOk.w(h:KOk r rk){β:Type}{env:Ev}{es:List (Nat×X)}{cs:Cs}{K:List (Nat×V)->Cs->Option α}{F:List (Nat×V)×Cs->Option β}{g:β->Option α}(q:∀p,K p.1 p.2=(F p).bind g):MY rk env es cs K=((yX r env es cs).bind F).bind g:=(P4 h ..).trans (bB q)
theorem Gi(h:KOk r rk)(e:X)(env:Ev)(cs:Cs)(k:V->Cs->Option α):D3 cf r rk e env cs k=(dI cf r e env cs).bind λp=>k p.1 p.2:=by
 induction e using X.casesOn with
 |and2 x y=>exact h.b λ_=>bB λ_=>bI (h.ev ..) rfl
 |bin op l x=>exact h.b λ_=>h.b λ_=>bM λ_=>rfl
 |not x=>exact h.b λ_=>bM λ_=>rfl
 |ite t a b=>exact h.tb λ_=>bI (h.ev ..) (h.ev ..)
 |cmp op l x=>exact h.b λ_=>h.b λ_=>bM λ_=>rfl
 |list es=>exact bI rfl (h.s λ_=>bM λ_=>rfl)
 |attr o n=>exact h.b λ_=>bM λ_=>rfl
 |item o i=>exact h.b λ_=>h.b λ_=>bM λ_=>rfl
 |meth o n args kws=>exact h.b λ_=>bI rfl (h.s λ_=>h.w λ_=>MZ ..)
 |call f args kws=>exact h.b λ_=>h.s λ_=>h.w λ_=>Na ..
 |_=>rfl
theorem tK(h:KOk r rk){e:X}{env:Ev}{cs:Cs}{k:Bool->Cs->Option α}:(D3 cf r rk e env cs λv cs=>(eM v cs).bind λb=>k b cs)=((dI cf r e env cs).bind λp=>(eM p.1 p.2).map λb=>(b,p.2)).bind λp=>k p.1 p.2:=(Gi h ..).trans (bB λ_=>bM λ_=>rfl)
theorem P5(h:KOk r rk)(e:X)(env:Ev)(cs:Cs)(k:Bool->Cs->Option α):tsKS cf r rk e env cs k=(yY cf r e env cs).bind λp=>k p.1 p.2:=by
 induction e using X.casesOn with
 |not x=>exact(h.ts ..).trans (bM λ_=>rfl)
 |bop a es=>exact Gg h ..
 |and2 x y=>exact Gg h ..
 |var x=>exact tK (cf:=cf) (e:=.var x) (env:=env) (cs:=cs) (k:=k) h
 |cmp op a b=>exact tK (cf:=cf) (e:=.cmp op a b) (env:=env) (cs:=cs) (k:=k) h
 |attr o n=>exact tK (cf:=cf) (e:=.attr o n) (env:=env) (cs:=cs) (k:=k) h
 |call f a kw=>exact tK (cf:=cf) (e:=.call f a kw) (env:=env) (cs:=cs) (k:=k) h
 |bin op a b=>exact tK (cf:=cf) (e:=.bin op a b) (env:=env) (cs:=cs) (k:=k) h
 |_=>rfl
theorem oB{β:Type}{o:Option β}{K:β->Option α}{f:β->LH}{kr:V->Ev->Cs->Option α}{kn:Ev->Cs->Option α}(h:∀x,K x=nK (f x) kr kn):o.bind K=nK (o.bind f) kr kn:=by
 induction o using Option.casesOn
 ·rfl
 ·exact h _
theorem oM{β:Type}{o:Option β}{K:β->Option α}{f:β->Option V×Ev×Cs}{kr:V->Ev->Cs->Option α}{kn:Ev->Cs->Option α}(h:∀x,K x=nK (some (f x)) kr kn):o.bind K=nK (o.map f) kr kn:=by
 induction o using Option.casesOn
 ·rfl
 ·exact h _
theorem oI{c:Bool}{x y:LH}{a b:Option α}{kr:V->Ev->Cs->Option α}{kn:Ev->Cs->Option α}(h1:a=nK x kr kn)(h2:b=nK y kr kn):(bif c then a else b)=nK (bif c then x else y) kr kn:=by
 induction c using Bool.casesOn
 ·exact h2
 ·exact h1
theorem vM(h:KOk r rk)(ss:List Y):∀env cs kr kn,dR rk ss env cs kr kn=nK (uI r ss env cs) kr kn:=by
 induction ss with
 |nil=>exact λ_ _ _ _=>rfl
 |cons s ss ih=>exact λenv cs kr kn=>(h.ex ..).trans (oB λp=>match p with
  |(some _,_)=>rfl
  |(none,_)=>ih ..)
theorem P6(h:KOk r rk)(s:Y)(env:Ev)(cs:Cs)(kr:V->Ev->Cs->Option α)(kn:Ev->Cs->Option α):exKS r rk s env cs kr kn=nK (wC 2000 r s env cs) kr kn:=by
 induction s using Y.casesOn with
 |ret e=>exact(h.ev ..).trans (oB λ_=>oM λ_=>rfl)
 |expr e=>exact(h.ev ..).trans (oB λ_=>oI rfl rfl)
 |asg x e=>exact(h.ev ..).trans (oM λ_=>rfl)
 |asg2 x y a b=>exact(h.ev ..).trans (oB λ_=>(h.ev ..).trans (oM λ_=>rfl))
 |put d k e=>exact(h.ev ..).trans (oB λ_=>oB λ_=>(h.ev ..).trans (oB λ_=>oM λ_=>rfl))
 |aug x op e=>exact oI (oB λ_=>(h.ev ..).trans (oB λ_=>oM λ_=>rfl)) rfl
 |ite t a b=>exact(h.ts ..).trans (oB λ_=>oI (vM h ..) (vM h ..))
 |asrt t=>exact(h.ts ..).trans (oB λ_=>oI rfl rfl)
 |forL t it body=>exact(h.ev ..).trans (oB λ_=>oB λ_=>rfl)
 |forR t args body=>exact(Gf h ..).trans (oB λ_=>oB λ_=>rfl)
 |_=>rfl
theorem vN(cf:cO)(n:Nat):KOk (α:=α) (bJ cf n) (m4 cf n):=by
 induction n with
 |zero=>exact⟨λ_ _ _ _=>rfl,λ_ _ _ _=>rfl,λ_ _ _ _ _=>rfl⟩
 |succ n ih=>exact⟨λx env cs k=>Gi ih x env cs k,λx env cs k=>P5 ih x env cs k,λs env cs kr kn=>P6 ih s env cs kr kn⟩
end
theorem cR{d:Nat}{f:Addr}{vs:List V}{kws:List (Nat×V)}{i:Fn}{env:Ev}(h7:Nat.beq f 71=false)(hc:Dg f=false)(hi:fi f=some i)(hb:u9 i.params vs kws i.dflts=some env):
  aB fi (d+1) f vs kws=dR (m4 (aB fi d) Ay) i.body env [] (λv _ _=>some v) (λ_ _=>some .none):=by
 rw[vM (vN _ Ay)];show(bif Nat.beq f 71 then _ else bif Dg f then _ else(fi f).bind λi=>(u9 i.params vs kws i.dflts).bind λenv=>(uI (bJ (aB fi d) Ay) i.body env []).bind λp=>some (match p.1 with|some v=>v|none=>.none))=_
 rw[h7,bG,hc,bG,hi,aF,hb,aF];unfold nK;congr 1;funext p;cases p.1<;>rfl
set_option tactic.hygienic false
theorem fz_node(t:T)(cs:Cs):a8 (.node t) cs=some (.node t,cs):=rfl
theorem Y8(i:Int)(cs:Cs):a8 (.int i) cs=some (.int i,cs):=rfl
theorem fz_str(s:Str)(cs:Cs):a8 (.str s) cs=some (.str s,cs):=rfl
theorem fz_bool(s:Bool)(cs:Cs):a8 (.bool s) cs=some (.bool s,cs):=rfl
theorem xS(d:Nat)(n:Int):aB fi (d+1) 331 [.int n] []=some (.node (.num n)):=by kernel_rfl
theorem c471(d:Nat){a:T}{b:Int}(h0:0<=a.lo)(h1:jP (a.lo*b)=true)(h2:jP (a.hi*b)=true):aB fi (d+1) 471 [.node a,.int b] []=some (.node (.mul a b)):=
 (show aB fi (d+1) 471 [.node a,.int b] []=bif decide (0<=a.lo)then bif jP (a.lo*b)&&jP (a.hi*b)then some (.node (.mul a b))else none else none by kernel_rfl).trans (by rw[aH h0,h1,h2];rfl)
theorem c512(d:Nat){a:T}{b:Int}(h0:0<=a.lo)(h1:b≠0)(h2:jP b=true):aB fi (d+1) 512 [.node a,.int b] []=some (.node (.div a b)):=
 (show aB fi (d+1) 512 [.node a,.int b] []=bif decide (0<=a.lo)then bif !decide (b=0)&&jP b then some (.node (.div a b))else none else none by kernel_rfl).trans (by rw[aH h0,h2,aK h1];rfl)
theorem c560(d:Nat){a:T}{b:Int}(h0:0<=a.lo)(h1:b≠0)(h2:jP b=true):aB fi (d+1) 560 [.node a,.int b] []=some (.node (.mod a b)):=
 (show aB fi (d+1) 560 [.node a,.int b] []=bif decide (0<=a.lo)then bif !decide (b=0)&&jP b then some (.node (.mod a b))else none else none by kernel_rfl).trans (by rw[aH h0,h2,aK h1];rfl)
theorem xE:∀l:List T,pW (l.map V.node)=some l
 |[]=>rfl
 |t::r=>by show(pW (r.map V.node)).map (t::·)=_;rw[xE r];rfl
theorem c644(d:Nat){l:List T}(h:l.length<=1000):aB fi (d+1) 644 [.lst (l.map V.node)] []=some (.node (.sum l)):=
 (show aB fi (d+1) 644 [.lst (l.map V.node)] []=bif true&&Nat.ble (l.map V.node).length 1000 then(pW (l.map V.node)).map (λts=>V.node (.sum ts))else none by kernel_rfl).trans (by rw[aT,aV h,xE];rfl)
theorem QU(d:Nat)(t:T):aB fi (d+1) 347 [.node t] []=bif decide (t.lo<=t.hi)then bif decide (t.lo=t.hi)then(aB fi d 331 [V.int t.lo] []).bind λv=>(a8 v []).bind λv=>some v.1 else some (V.node t)else none:=(cR rfl rfl rfl rfl).trans (by kernel_rfl)
theorem P7(d:Nat){t:T}(h:t.lo<t.hi):aB fi (d+1) 347 [.node t] []=some (.node t):=by
 rw[QU,aH (aO h),aK (iV h)];rfl
theorem c347n(d:Nat){t:T}(h:t.lo=t.hi):aB fi (d+2) 347 [.node t] []=some (.node (.num t.lo)):=by
 rw[QU,aH (dL h),aH h,xS];rfl
noncomputable abbrev R4(d:Nat):RecK V:=m4 (aB fi d) Ay
noncomputable abbrev kR:V->Ev->Cs->Option V:=λv _ _=>some v
noncomputable abbrev kN:Ev->Cs->Option V:=λ_ _=>some .none
theorem Y9(d:Nat)(l:List V):aB fi (d+1) 204 [.lst l] []=((bif l.length.ble 1000 then some (l,[])else none).bind λl_1=>
   Option.map (λq=>gT (V.lst q.fst) q.snd)
    (dH (bJ (aB fi d) 38) [0] [X.bop false [(X.var 0).attr Nm.max,(X.var 0).attr Nm.min]] [(4,V.lst l)]
     (fR (bJ (aB fi d) 38) (X.var 0)) l_1.fst l_1.snd)).bind λv=>dR (R4 d) (q7.body.drop 1) [(4,v.1)] v.2 kR kN:=(cR rfl rfl rfl rfl).trans (by kernel_rfl)
theorem YA(d:Nat)(l:List V):dR (R4 d) (q7.body.drop 1) [(4,.own 0)] [⟨false,.lst l⟩] kR kN=
  (bif Nat.ble l.length 100000 then some (!l.isEmpty)else none).bind λb=>bif !b then(aB fi d 331 [.int 0] []).bind λv=>(a8 v [⟨false,.lst l⟩]).bind λq=>some q.1
   else((bif Nat.ble l.length 100000 then some (.int l.length)else none).map λx=>(x,([⟨false,.lst l⟩]:Cs))).bind λv=>(j3 (aB fi d) .Eq v.1 (.int 1)).bind λc=>(eM c v.2).bind λb=>
    bif b then(eZ (.own 0) (.int 0) v.2).bind λx=>(a8 x v.2).bind λq=>some q.1 else dR (R4 d) (q7.body.drop 3) [(4,.own 0)] v.2 kR kN:=by kernel_rfl
def tU:List Y:=match q7.body.drop 6 with
 |[Y.forL _ _ b,_,_,_]=>b
 |_=>[]
theorem YB(d:Nat)(l:List V):dR (R4 d) (q7.body.drop 3) [(4,.own 0)] [⟨false,.lst l⟩] kR kN=
  (aB fi d 644 [.lst l] []).bind λv=>(jD (aB fi d) v .flat).bind λw=>(j4 [5] w [⟨true,.lst l⟩,⟨false,.dct []⟩,⟨false,.dct []⟩]).bind λs=>
   nK (gV (bJ (aB fi d) 39) [5] tU s.1 [(4,.own 0),(28,.own 1),(12,.own 2),(26,.int 0)] s.2) kR λenv cs=>dR (R4 d) (q7.body.drop 7) env cs kR kN:=by kernel_rfl
theorem AY(cf:cO)(n:Nat)(b:List Y)(env:Ev)(cs:Cs):uI (bJ cf n) b env cs=dR (m4 cf n) b env cs (λv e c=>some (some v,e,c)) (λe c=>some (none,e,c)):=by
 rw[vM (vN cf n)];induction uI (bJ cf n) b env cs using Option.casesOn with
 |none=>rfl
 |some p=>obtain⟨r,e,c⟩:=p;induction r using Option.casesOn<;>rfl
theorem D4(cf:cO)(n:Nat)(x:X)(env:Ev)(cs:Cs):(bJ cf n).ev x env cs=(m4 cf n).ev x env cs (λv c=>some (v,c)):=by
 rw[(vN cf n).ev];cases(bJ cf n).ev x env cs<;>rfl
theorem ts_K(cf:cO)(n:Nat)(x:X)(env:Ev)(cs:Cs):(bJ cf n).ts x env cs=(m4 cf n).ts x env cs (λv c=>some (v,c)):=by
 rw[(vN cf n).ts];cases(bJ cf n).ts x env cs<;>rfl
def ZC(d:Nat)(t:T):Prop:=jD (aB fi d) (.node t) .key=some (.str t.rend)
noncomputable def m5(s:Int)(v:V):Ev:=[(4,.own 0),(28,.own 1),(12,.own 2),(26,.int s),(5,v)]
noncomputable def pT(l:List V)(D E:List (Str×V)):Cs:=[⟨true,.lst l⟩,⟨false,.dct D⟩,⟨false,.dct E⟩]
noncomputable def jM:T->T
 |.mul a _=>a
 |t=>t
noncomputable def g8:T->Int
 |.mul _ c=>c
 |_=>1
noncomputable def dO:T->Bool
 |.num _=>false
 |.sum _=>false
 |_=>true
def EP(d:Nat)(K:Option V)(a:T)(c:Int)(s:Int)(t:T)(l:List V)(D E:List (Str×V)):Option (Option V×Ev×Cs):=
 K.bind λv=>(iL (.own 2) .get [v,.node a] (pT l D E)).bind λx=>K.bind λv1=>(Ax (.own 2) v1 x.1 x.2).bind λc1=>bif !jQ (.own 1) .get c1 then none else K.bind λv2=>(iL (.own 1) .get [v2,.int 0] c1).bind λy=>(cG (aB fi d) .Add y.1 (.int c)).bind λz=>K.bind λv4=>(Ax (.own 1) v4 z y.2).bind λc2=>some (none,m5 s (.node t),c2)
theorem Nb(d:Nat)(n s:Int)(l:List V)(D E:List (Str×V)):uI (bJ (aB fi d) 39) tU (m5 s (.node (.num n))) (pT l D E)=some (none,m5 (s+n) (.node (.num n)),pT l D E):=(AY ..).trans (by kernel_rfl)
theorem IP(d:Nat)(t:T)(s:Int)(l:List V)(D E:List (Str×V))(h:dO t=true):uI (bJ (aB fi d) 39) tU (m5 s (.node t)) (pT l D E)=EP d (jD (aB fi d) (.node (jM t)) .key) (jM t) (g8 t) s t l D E:=by
 rw[AY];induction t using T.casesOn with
 |num n=>exact bX h
 |sum l=>exact bX h
 |var e lo hi=>kernel_rfl
 |mul a b=>kernel_rfl
 |div a b=>kernel_rfl
 |mod a b=>kernel_rfl
theorem IQ{d:Nat}{a:T}{c s:Int}{t:T}{l:List V}{D E:List (Str×V)}(hK:ZC d a)(hD:cJ a.rend D=none)(hE:cJ a.rend E=none)(h1:D.length<=1000)(h2:E.length<=1000):
  EP d (jD (aB fi d) (.node a) .key) a c s t l D E=some (none,m5 s (.node t),pT l (lK a.rend (.int c) D) (lK a.rend (.node a) E)):=by
 have h1:=aV h1;have h2:=aV h2;unfold EP;conv=>lhs;rw[hK,aF,show iL (.own 2) .get [.str a.rend,.node a] (pT l D E)=some ((match cJ a.rend E with|some u=>u|none=>.node a),pT l D E) by kernel_rfl,hE,aF,aF,
  show Ax (.own 2) (.str a.rend) (.node a) (pT l D E)=bif Nat.ble E.length 1000 then some (pT l D (lK a.rend (.node a) E))else none by kernel_rfl,h2,bV,aF,
  show(!jQ (.own 1) .get (pT l D (lK a.rend (.node a) E)))=false by kernel_rfl,bG,aF,
  show iL (.own 1) .get [.str a.rend,.int 0] (pT l D (lK a.rend (.node a) E))=some ((match cJ a.rend D with|some u=>u|none=>.int 0),pT l D (lK a.rend (.node a) E)) by kernel_rfl,hD,aF,
  show cG (aB fi d) .Add (.int 0) (.int c)=some (.int (0+c)) by kernel_rfl,aF,aF,cY,
  show Ax (.own 1) (.str a.rend) (.int c) (pT l D (lK a.rend (.node a) E))=bif Nat.ble D.length 1000 then some (pT l (lK a.rend (.int c) D) (lK a.rend (.node a) E))else none by kernel_rfl,h1,bV,aF]
theorem up{K d:Nat}(h:K+1<=d):∃e,d=e+1/\K<=e:=⟨d-1,by lia,by lia⟩
@[elab_as_elim] theorem jC {M:Nat->Prop} (d K:Nat) (h:K+1<=d) (k:∀e,K<=e->M (e+1)):M d:=by
 obtain⟨e,rfl,h2⟩:=up h;exact k e h2
theorem AZ{α:Type}{f:T->Str}{g:T->α}{t:T}:∀{ts:List T},(ts.map f).Nodup->t∈ts->cJ (f t) (ts.map λu=>(f u,g u))=some (g t)
 |u::r,hn,ht=>by
  obtain⟨h1,h2⟩:=gK.mp hn;unfold cJ;clear hn;rcases a7.mp ht with rfl|ht
  ·show(bif lC (f t) (f t)then some (g t)else _)=_;rw[sR];rfl
  ·show(bif lC (f t) (f u)then some (g u)else cJ (f t) (r.map λu=>(f u,g u)))=_;rw[l9.mpr λ(e:f t=f u)=>h1 (by rw[<-e];exact fV ht)]
   exact AZ h2 ht
theorem zY{α:Type}{f:T->Str}{g:T->α}{k:Str}{ts:List T}(h:k∉ts.map f):cJ k (ts.map λu=>(f u,g u))=none:=
 rG λp hp=>by
  obtain⟨u,hu,rfl⟩:=bR.mp hp;exact l9.mpr λe=>h (e▸fV hu)
theorem s8{α:Type}{k:Str}{v:α}:∀{l:List (Str×α)},cJ k l=none->lK k v l=l++[(k,v)]
 |[],_=>rfl
 |(x,y)::r,h=>by
  unfold cJ at h;unfold lK;induction hx:lC k x using Bool.casesOn with
  |true=>rw[hx]at h;cases h
  |false=>rw[cF (hx ..)]at h;rw[bG,s8 h];rfl
def A6(t:T):Str:=(jM t).rend
def dD(ts:List T):List (Str×V):=ts.map λt=>(A6 t,V.int (g8 t))
def dE(ts:List T):List (Str×V):=ts.map λt=>(A6 t,V.node (jM t))
noncomputable def mB:List T->Int
 |[]=>0
 |t::r=>(match t with|.num n=>n|_=>0)+mB r
theorem nums_n:mB []=0:=rfl
structure Tm(d:Nat)(t:T):Prop where
 term:dO t=true
 key:ZC d (jM t)
 mul:∀a c,t=.mul a c->c≠0/\c≠1/\0<=a.lo/\jP (a.lo*c)=true/\jP (a.hi*c)=true
def isN(t:T):Prop:=∃n,t=.num n
theorem tV{r:Rec}{t:List Nat}{body:List Y}{v:V}{vs:List V}{env env' env2:Ev}{cs cs2:Cs}(hb:n6 t v env=some env')(h:uI r body env' cs=some (none,env2,cs2)):gV r t body (v::vs) env cs=gV r t body vs env2 cs2:=by
 show((n6 t v env).bind λenv'=>(uI r body env' cs).bind _)=_;rw[bS (hb ..),h];rfl
theorem Gj{d:Nat}{l:List V}:∀{comps done:List T} {s:Int} {env:Ev},(∀v,n6 [5] v env=some (m5 s v))->(∀t∈comps,isN t\/Tm d t)->((done++comps.filter dO).map A6).Nodup->done.length+comps.length<=1000->comps≠[]->
  ∃w,gV (bJ (aB fi d) 39) [5] tU (comps.map .node) env (pT l (dD done) (dE done))=some (none,m5 (s+mB comps) w,pT l (dD (done++comps.filter dO)) (dE (done++comps.filter dO)))
 |t::r,done,s,env,hb,hc,hn,hz,_=>by
  have hz:done.length+(r.length+1)<=1000:=hz;have nxt:∀s w done',(∀v,n6 [5] v (m5 s w)=some (m5 s v))->((done'++r.filter dO).map A6).Nodup->done'.length+r.length<=1000->
    ∃w',gV (bJ (aB fi d) 39) [5] tU (r.map .node) (m5 s w) (pT l (dD done') (dE done'))=some (none,m5 (s+mB r) w',pT l (dD (done'++r.filter dO)) (dE (done'++r.filter dO))):=λs w done' h1 h2 h3=>by
   by_cases hr:r=[]
   ·clear h3 h2 hz hn hc;clear hz;subst hr;exact⟨w,by show some _=_;rw[List.filter_nil,bW];simp[mB]⟩
   ·exact Gj h1 (λt ht=>hc t (aI _ ht)) h2 h3 hr
  rcases hc t aE with⟨n,rfl⟩|ht
  ·obtain⟨w',e⟩:=nxt (s+n) (.node (.num n)) done (λv=>rfl) (by simpa [kJ,dO] using hn) (by lia)
   refine⟨w',?_⟩;rw[bO,tV (hb _) (Nb ..),e];show some (none,m5 (s+n+mB r) w',_)=some (none,m5 (s+(n+mB r)) w',_);rw[nH];simp[kJ,dO]
  ·have hf:(t::r).filter dO=t::r.filter dO:=cD ht.term;rw[hf]at hn;have hn':(((done++[t])++r.filter dO).map A6).Nodup:=by rw[dT];exact hn
   have hk:A6 t∉done.map A6:=λz=>by
    clear hn' hf ht nxt hz;clear hz;rw[dQ,bO]at hn;exact(gI.mp hn).2.2 _ z _ aE rfl
   have l1:cJ (jM t).rend (dD done)=none:=zY (f:=A6) hk;have l2:cJ (jM t).rend (dE done)=none:=zY (f:=A6) hk;obtain⟨w',e⟩:=nxt s (.node t) (done++[t]) (λv=>rfl) hn' (by rw[bU,d0];lia)
   refine⟨w',?_⟩;rw[bO,tV (hb _) ((IP _ _ _ _ _ _ ht.term).trans (IQ ht.key l1 l2 (by rw[dD,aT];lia) (by rw[dE,aT];lia))),s8 l1,s8 l2,
    show dD done++[((jM t).rend,V.int (g8 t))]=dD (done++[t]) by unfold dD;rw[dQ];rfl,show dE done++[((jM t).rend,V.node (jM t))]=dE (done++[t]) by unfold dE;rw[dQ];rfl,e,hf,dT]
   have:mB (t::r)=mB r:=by
    have h:=ht.term;clear e l2 l1 hk hn' hf ht hn hc;induction t using T.casesOn<;>first|(exact bX h;done)|(show 0+mB r=_;lia)
   rw[this];rfl
theorem Ba(c:Cn):∀cs:Cs,uF cs.length (cs++[c])=some c
 |[]=>rfl
 |_::r=>Ba c r
theorem Bb(c c':Cn):∀cs:Cs,sJ cs.length c' (cs++[c])=cs++[c']
 |[]=>rfl
 |x::r=>congrArg (x::·) (Bb c c' r)
theorem Nc(v:V)(cs:Cs):a8 (gT v cs).1 (gT v cs).2=some (v,cs++[⟨true,v⟩]):=by
 show((uF cs.length (cs++[(⟨false,v⟩:Cn)])).map λc=>(c.val,sJ cs.length (⟨true,c.val⟩:Cn) (cs++[(⟨false,v⟩:Cn)])))=_;rw[Ba];show some (v,sJ cs.length (⟨true,v⟩:Cn) (cs++[(⟨false,v⟩:Cn)]))=_;rw[Bb]
noncomputable def n7:T->Bool
 |.sum _=>true
 |_=>false
noncomputable def kS:T->List T
 |.sum l=>l
 |t=>[t]
noncomputable def BS:X:=.ite (.call (.bi .isinstance) [(.var 0),(.glob 644)] []) (.attr (.var 0) .flat) (.list [(.var 0)])
def vO(d:Nat):Ev->Cs->Option (List V×Cs):=uH (bJ (aB fi d) 38) (.var 13) [13] BS
theorem sp640(d:Nat)(l:List T):aB fi (d+1) 640 [.node (.sum l)] []=((bif Nat.ble (l.map V.node).length 1000 then some (l.map V.node,[])else none).bind λp=>(dH (bJ (aB fi d) 38) [0] [] [(1,.node (.sum l))] (vO d) p.1 p.2).map λq=>gT (.lst q.1) q.2).bind λp=>(a8 p.1 p.2).bind λq=>some q.1:=(cR rfl rfl rfl rfl).trans (by kernel_rfl)
theorem D5(d:Nat)(v:V)(t:T)(cs:Cs):vO d [(1,v),(0,.node t)] cs=((bJ (aB fi d) 38).ev BS [(1,v),(0,.node t)] cs).bind λp=>(j4 [13] p.1 p.2).bind λl=>dH (bJ (aB fi d) 38) [13] [] [(1,v),(0,.node t)] (fR (bJ (aB fi d) 38) (.var 13)) l.1 l.2:=by kernel_rfl
theorem Nf(d:Nat)(v:V)(t:T):∀(m:List T) (cs:Cs),dH (bJ (aB fi d) 38) [13] [] [(1,v),(0,.node t)] (fR (bJ (aB fi d) 38) (.var 13)) (m.map V.node) cs=some (m.map V.node,cs)
 |[],_=>rfl
 |u::m,cs=>by
  show((dH (bJ (aB fi d) 38) [13] [] [(1,v),(0,.node t)] (fR (bJ (aB fi d) 38) (.var 13)) (m.map V.node) cs).map λz=>([V.node u]++z.1,z.2))=_;rw[Nf d v t m cs];rfl
theorem P8(d:Nat)(v:V){t:T}(h:n7 t=false)(cs:Cs):vO d [(1,v),(0,.node t)] cs=some ([.node t],cs++[⟨true,.lst [.node t]⟩]):=by
 rw[D5,bS (show(bJ (aB fi d) 38).ev BS [(1,v),(0,.node t)] cs=some (gT (.lst [.node t]) cs) by induction t using T.casesOn<;>first|(exact jA h;done)|exact(D4 ..).trans (by kernel_rfl))]
 unfold j4;rw[bS (Nc ..)];exact Nf d v t [t] _
theorem P9(d:Nat)(v:V){m:List T}(hf:aB fi d 640 [.node (.sum m)] []=some (.lst (m.map V.node)))(hz:m.length<=1000)(cs:Cs):vO d [(1,v),(0,.node (.sum m))] cs=some (m.map V.node,cs):=by
 rw[D5,show(bJ (aB fi d) 38).ev BS [(1,v),(0,.node (.sum m))] cs=(aB fi d 640 [.node (.sum m)] []).bind λv=>some (v,cs)from(D4 ..).trans (by kernel_rfl),bS (hf ..),aF]
 show((bif Nat.ble (m.map V.node).length 1000 then some (m.map V.node,cs)else none).bind _)=_;rw[aT,aV hz];exact Nf d v _ m cs
theorem D6{d:Nat}{v:V}:∀{l:List T},(∀t∈l,n7 t=false\/∃m,t=.sum m/\m.length<=1000/\aB fi d 640 [.node (.sum m)] []=some (.lst (m.map V.node)))->∀cs,∃cW,dH (bJ (aB fi d) 38) [0] [] [(1,v)] (vO d) (l.map V.node) cs=some ((l.flatMap kS).map V.node,cW)
 |[],_,cs=>⟨cs,rfl⟩
 |t::r,h,cs=>by
  have step:∃cs1,vO d [(1,v),(0,.node t)] cs=some ((kS t).map V.node,cs1):=by
   rcases h t aE with h|⟨m,rfl,hz,hf⟩
   ·have e:kS t=[t]:=by induction t using T.casesOn<;>first|(exact jA h;done)|rfl
    exact⟨_,by rw[e];exact P8 d v h cs⟩
   ·exact⟨_,P9 d v hf hz cs⟩
  obtain⟨cs1,e1⟩:=step;obtain⟨cs2,e2⟩:=D6 (λt ht=>h t (aI _ ht)) cs1;refine⟨cs2,?_⟩;show((vO d [(1,v),(0,.node t)] cs).bind λq=>(dH (bJ (aB fi d) 38) [0] [] [(1,v)] (vO d) (r.map V.node) q.2).map λz=>(q.1++z.1,z.2))=_;rw[bS (e1 ..),e2,cU,b8,dQ]
theorem Gk{d:Nat}{l:List T}(hz:l.length<=1000)(h:∀t∈l,n7 t=false\/∃m,t=.sum m/\m.length<=1000/\aB fi d 640 [.node (.sum m)] []=some (.lst (m.map V.node))):
  aB fi (d+1) 640 [.node (.sum l)] []=some (.lst ((l.flatMap kS).map V.node)):=by
 obtain⟨cW,e⟩:=D6 (v:=.node (.sum l)) h [];rw[sp640,aT,aV hz];show((dH (bJ (aB fi d) 38) [0] [] [(1,.node (.sum l))] (vO d) (l.map V.node) []).map λq=>gT (.lst q.1) q.2).bind _=_;rw[e];show((a8 (gT (.lst ((l.flatMap kS).map V.node)) cW).1 (gT (.lst ((l.flatMap kS).map V.node)) cW).2).bind λq=>some q.1)=_;rw[Nc];rfl
theorem PB{l:List T}(h:∀t∈l,n7 t=false):l.flatMap kS=l:=by
 induction l with
 |nil=>rfl
 |cons t r ih=>
  have:kS t=[t]:=by have:=h t aE;clear h;induction t using T.casesOn<;>first|(exact jA this;done)|rfl
  rw[b8,this,ih λt ht=>h t (aI _ ht)];rfl
theorem QV(d:Nat){l:List T}(hz:l.length<=1000)(h:∀t∈l,n7 t=false):aB fi (d+1) 640 [.node (.sum l)] []=some (.lst (l.map V.node)):=by
 rw[Gk hz λt ht=>.inl (h t ht),PB h]
def QW(t:T):Prop:=n7 t=false\/∃m,t=.sum m/\m.length<=1000/\∀u∈m,n7 u=false
theorem PD(d:Nat){l:List T}(hz:l.length<=1000)(h:∀t∈l,QW t):aB fi (d+2) 640 [.node (.sum l)] []=some (.lst ((l.flatMap kS).map V.node)):=
 Gk hz λt ht=>(h t ht).imp_right λ⟨m,e,hm,hu⟩=>⟨m,e,hm,QV d hm hu⟩
noncomputable def nz(t:T):Bool:=!decide (t.hi=0)||!decide (t.lo=0)
noncomputable def QX:X:=.bop false [(.attr (.var 0) .max),(.attr (.var 0) .min)]
theorem ts_nz(d:Nat)(v:V)(t:T):(bJ (aB fi d) 38).ts QX [(4,v),(0,.node t)] []=some (nz t,[]):=by
 rw[ts_K,show(m4 (aB fi d) 38).ts QX [(4,v),(0,.node t)] [] (λv c=>some (v,c))=(bif !!decide (t.hi=0)then bif !!decide (t.lo=0)then some (false,[])else some (true,[])else some (true,[])) by kernel_rfl]
 unfold nz;induction decide (t.hi=0) using Bool.casesOn<;>induction decide (t.lo=0) using Bool.casesOn<;>rfl
theorem zZ(d:Nat)(v:V):∀l:List T,dH (bJ (aB fi d) 38) [0] [QX] [(4,v)] (fR (bJ (aB fi d) 38) (.var 0)) (l.map V.node) []=some ((l.filter nz).map V.node,[])
 |[]=>rfl
 |t::r=>by
  show((((bJ (aB fi d) 38).ts QX [(4,v),(0,.node t)] []).bind λp=>bif p.1 then some (true,p.2)else some (false,p.2)).bind λp=>(bif p.1 then some ([V.node t],p.2)else some ([],p.2)).bind λq=>(dH (bJ (aB fi d) 38) [0] [QX] [(4,v)] (fR (bJ (aB fi d) 38) (.var 0)) (r.map V.node) q.2).map λz=>(q.1++z.1,z.2))=_;rw[bS (ts_nz ..),kJ];induction nz t using Bool.casesOn with
  |true=>
   show(dH (bJ (aB fi d) 38) [0] [QX] [(4,v)] (fR (bJ (aB fi d) 38) (.var 0)) (r.map V.node) []).map _=_;rw[zZ d v r];rfl
  |false=>
   show(dH (bJ (aB fi d) 38) [0] [QX] [(4,v)] (fR (bJ (aB fi d) 38) (.var 0)) (r.map V.node) []).map _=_;rw[zZ d v r];rfl
noncomputable def gY(l:List V)(D E:List (Str×V)):Cs:=[⟨true,.lst l⟩,⟨true,.dct D⟩,⟨false,.dct E⟩]
noncomputable def A7:X:=.ite (.cmp .NotEq (.var 40) (.int 1)) (.call (.glob 471) [(.item (.var 12) (.var 41)),(.var 40)] []) (.item (.var 12) (.var 41))
noncomputable def vP(q:Str×V):V:=.tup [.str q.1,q.2]
theorem YC(d:Nat)(s c:Int)(w:V)(k:Str)(l:List V)(D E:List (Str×V)):fR (bJ (aB fi d) 38) A7 (m5 s w++[(41,.str k),(40,.int c)]) (gY l D E)=
  (bif !decide (c=1)then(cJ k E).bind λv=>((a8 v (gY l D E)).bind λp=>(some ([V.int c],p.2)).map λq=>(p.1::q.1,q.2)).bind λv=>(aB fi d 471 v.1 []).bind λv_1=>some (v_1,v.2)else(cJ k E).bind λv=>some (v,gY l D E)).bind λx=>(a8 x.1 x.2).map λy=>([y.1],y.2):=by
 show((bJ (aB fi d) 38).ev A7 (m5 s w++[(41,.str k),(40,.int c)]) (gY l D E)).bind _=_;rw[D4];kernel_rfl
theorem PG{d:Nat}{s:Int}{w:V}{l:List V}{D:List (Str×V)}{ts:List T}(hn:(ts.map A6).Nodup){t:T}(ht:t∈ts)(hT:Tm (d+1) t):fR (bJ (aB fi (d+1)) 38) A7 (m5 s w++[(41,.str (A6 t)),(40,.int (g8 t))]) (gY l D (dE ts))=some ([.node t],gY l D (dE ts)):=by
 have hl:cJ (A6 t) (dE ts)=some (.node (jM t)):=AZ (f:=A6) hn ht;rw[YC,hl];have hc:∀{u:T},g8 u=1->jM u=u->u=t->(bif !decide (g8 t=1)then(some (V.node (jM t))).bind λv=>((a8 v (gY l D (dE ts))).bind λp=>(some ([V.int (g8 t)],p.2)).map λq=>(p.1::q.1,q.2)).bind λv=>(aB fi (d+1) 471 v.1 []).bind λv_1=>some (v_1,v.2)else(some (V.node (jM t))).bind λv=>some (v,gY l D (dE ts)))=some (.node t,gY l D (dE ts)):=λ{u} h1 h2 h3=>by
  clear hl hT ht;subst h3;rw[h1,h2];rfl
 have:(bif !decide (g8 t=1)then(some (V.node (jM t))).bind λv=>((a8 v (gY l D (dE ts))).bind λp=>(some ([V.int (g8 t)],p.2)).map λq=>(p.1::q.1,q.2)).bind λv=>(aB fi (d+1) 471 v.1 []).bind λv_1=>some (v_1,v.2)else(some (V.node (jM t))).bind λv=>some (v,gY l D (dE ts)))=some (.node t,gY l D (dE ts)):=by
  have h:=hT.term;induction t using T.casesOn with
  |num n=>exact bX h
  |sum l=>exact bX h
  |var e lo hi=>exact hc rfl rfl rfl
  |div a b=>exact hc rfl rfl rfl
  |mod a b=>exact hc rfl rfl rfl
  |mul a c=>
   refine C8 (hT.mul a c rfl) λ_ h1 h2 h3 h4=>?_;show(bif !decide (c=1)then(aB fi (d+1) 471 [.node a,.int c] []).bind λv_1=>some (v_1,gY l D (dE ts))else _)=_;rw[aK h1,c471 d h2 h3 h4];rfl
 rw[this];rfl
theorem Bc{d:Nat}{s:Int}{w:V}{l:List V}{D:List (Str×V)}{ts:List T}(hn:(ts.map A6).Nodup):∀{us:List T},(∀t∈us,t∈ts/\Tm (d+1) t/\g8 t≠0)->
  dH (bJ (aB fi (d+1)) 38) [41,40] [.cmp .NotEq (.var 40) (.int 0)] (m5 s w) (fR (bJ (aB fi (d+1)) 38) A7) ((dD us).map vP) (gY l D (dE ts))=some (us.map V.node,gY l D (dE ts))
 |[],_=>rfl
 |t::r,h=>by
  refine Aq (h t aE) λh1 h2 h3=>?_;show((some (!decide (g8 t=0),gY l D (dE ts))).bind λp=>bif p.1 then some (true,p.2)else some (false,p.2)).bind (λp=>(bif p.1 then fR (bJ (aB fi (d+1)) 38) A7 (m5 s w++[(41,.str (A6 t)),(40,.int (g8 t))]) p.2 else some ([],p.2)).bind λq=>(dH (bJ (aB fi (d+1)) 38) [41,40] [.cmp .NotEq (.var 40) (.int 0)] (m5 s w) (fR (bJ (aB fi (d+1)) 38) A7) ((dD r).map vP) q.2).map λz=>(q.1++z.1,z.2))=_;rw[aK h3];show(fR (bJ (aB fi (d+1)) 38) A7 (m5 s w++[(41,.str (A6 t)),(40,.int (g8 t))]) (gY l D (dE ts))).bind (λq=>(dH (bJ (aB fi (d+1)) 38) [41,40] [.cmp .NotEq (.var 40) (.int 0)] (m5 s w) (fR (bJ (aB fi (d+1)) 38) A7) ((dD r).map vP) q.2).map λz=>(q.1++z.1,z.2))=_;rw[bS (PG hn h1 h2 ..),Bc hn λt ht=>h t (aI _ ht)];rfl
def QY(s:Int)(w:V):Ev:=m5 s w++[(27,.own 3)]
theorem YD(d:Nat)(s:Int)(w:V)(l:List V)(D E:List (Str×V)):dR (R4 d) (q7.body.drop 7) (m5 s w) (pT l D E) kR kN=
  ((bif Nat.ble D.length 1000&&true then some (D.map vP,gY l D E)else none).bind λp=>(dH (bJ (aB fi d) 38) [41,40] [.cmp .NotEq (.var 40) (.int 0)] (m5 s w) (fR (bJ (aB fi d) 38) A7) p.1 p.2).map λq=>gT (.lst q.1) q.2).bind λv=>dR (R4 d) (q7.body.drop 8) (m5 s w++[(27,v.1)]) v.2 kR kN:=by kernel_rfl
theorem YE(d:Nat)(s:Int)(w:V)(l nl:List V)(D E:List (Str×V)):dR (R4 d) (q7.body.drop 8) (QY s w) (gY l D E++[⟨false,.lst nl⟩]) kR kN=
  bif !decide (s=0)then(aB fi d 331 [.int s] []).bind λv=>(iL (.own 3) .append [v] (gY l D E++[⟨false,.lst nl⟩])).bind λx=>bif g7 x.1 then dR (R4 d) (q7.body.drop 9) (QY s w) x.2 kR kN else none
  else dR (R4 d) (q7.body.drop 9) (QY s w) (gY l D E++[⟨false,.lst nl⟩]) kR kN:=by kernel_rfl
theorem EQ(d:Nat)(s:Int)(w:V)(l nl:List V)(D E:List (Str×V)):dR (R4 d) (q7.body.drop 9) (QY s w) (gY l D E++[⟨false,.lst nl⟩]) kR kN=
  ((bif Nat.ble nl.length 100000 then some (.int nl.length)else none).map λx=>(x,gY l D E++[⟨false,.lst nl⟩])).bind λv=>(j3 (aB fi d) .Gt v.1 (.int 1)).bind λc=>(eM c v.2).bind λb=>
   bif b then((a8 (.own 3) v.2).bind λp=>(some ([],p.2)).map λq=>(p.1::q.1,q.2)).bind λv=>(aB fi d 644 v.1 []).bind λx=>((a8 x v.2).bind λp=>(some ([],p.2)).map λq=>(p.1::q.1,q.2)).bind λv=>(aB fi d 347 v.1 []).bind λx=>(a8 x v.2).bind λq=>some q.1
   else((view (.own 3) v.2).bind λu=>(wA .len u).map λx=>(x,v.2)).bind λv=>(j3 (aB fi d) .Eq v.1 (.int 1)).bind λc=>(eM c v.2).bind λb=>bif b then(eZ (.own 3) (.int 0) v.2).bind λx=>(a8 x v.2).bind λq=>some q.1 else(aB fi d 331 [.int 0] []).bind λx=>(a8 x v.2).bind λq=>some q.1:=by kernel_rfl
theorem YF(cf:cO)(x y:Int):j3 cf .Gt (.int x) (.int y)=some (.bool (decide (y<x))):=rfl
theorem mD(cf:cO)(x y:Int):j3 cf .Eq (.int x) (.int y)=some (.bool (decide (x=y))):=rfl
theorem fU(b:Bool)(cs:Cs):eM (.bool b) cs=some b:=rfl
noncomputable def Jg:List T->T
 |[]=>.num 0
 |[t]=>t
 |l=>.sum l
noncomputable def b9(ts:List T)(n:Int):List T:=ts++(bif decide (n=0)then[]else[.num n])
theorem Ng(d:Nat)(s:Int)(w:V)(l:List V)(D E:List (Str×V)):∀{L:List T},L.length<=1000->(2<=L.length->(T.sum L).lo<(T.sum L).hi)->
  dR (R4 (d+1)) (q7.body.drop 9) (QY s w) (gY l D E++[⟨false,.lst (L.map V.node)⟩]) kR kN=some (.node (Jg L))
 |[],_,_=>by
  rw[EQ];show(aB fi (d+1) 331 [.int 0] []).bind _=_;rw[xS];rfl
 |[t],_,_=>by rw[EQ];kernel_rfl
 |a::b::r,hz,hlt=>by
  have h1:Nat.ble ((a::b::r).map V.node).length 100000=true:=aV (by rw[aT];lia)
  rw[EQ,h1];have h2:decide ((1:Int)<(((a::b::r).map V.node).length:Nat))=true:=aH (by rw[aT,bL,bL];lia)
  simp only[bV,cU,aF,YF,fU,h2];show(aB fi (d+1) 644 [.lst ((a::b::r).map V.node)] []).bind _=_;rw[c644 d hz];show(aB fi (d+1) 347 [.node (.sum (a::b::r))] []).bind _=_;rw[P7 d (hlt (by simp))];rfl
theorem YG(s:Int)(l nl:List V)(D E:List (Str×V))(h:nl.length<=100000):iL (.own 3) .append [.node (.num s)] (gY l D E++[⟨false,.lst nl⟩])=some (.none,gY l D E++[⟨false,.lst (nl++[.node (.num s)])⟩]):=
 (show _=(bif Nat.ble nl.length 100000 then some (V.none,gY l D E++[(⟨false,.lst (nl++[.node (.num s)])⟩:Cn)])else none) by kernel_rfl).trans (by rw[aV h];rfl)
theorem YH(d:Nat)(s:Int)(w:V)(l:List V)(D E:List (Str×V)){ts:List T}(hz:ts.length<1000)(hlt:2<=(b9 ts s).length->(T.sum (b9 ts s)).lo<(T.sum (b9 ts s)).hi):
  dR (R4 (d+1)) (q7.body.drop 8) (QY s w) (gY l D E++[⟨false,.lst (ts.map V.node)⟩]) kR kN=some (.node (Jg (b9 ts s))):=by
 rw[YE];unfold b9 at hlt⊢;induction hs:decide (s=0) using Bool.casesOn with
 |true=>
  rw[cT (hs ..),bW]at hlt;show dR _ _ _ _ _ _=_;rw[Ng d s w l D E (by exact bD hz) hlt,bV,bW]
 |false=>
  rw[cF (hs ..)]at hlt;rw[g4,bV,bS (xS ..),YG s l _ D E (by rw[aT];exact iO hz rfl)]
  show dR (R4 (d+1)) (q7.body.drop 9) (QY s w) (gY l D E++[⟨false,.lst (ts.map V.node++[V.node (.num s)])⟩]) kR kN=_;rw[show ts.map V.node++[V.node (.num s)]=(ts++[T.num s]).map V.node by simp]
  exact Ng d s w l D E (by rw[bU,d0];exact hz) hlt
def YI(f:List T):T:=match f with
 |[]=>.num 0
 |[t]=>t
 |f=>Jg (b9 ((f.flatMap kS).filter dO) (mB (f.flatMap kS)))
theorem c204(d:Nat){l:List T}(hz:l.length<=1000)(hf:∀t∈l.filter nz,QW t)(hc:∀t∈(l.filter nz).flatMap kS,isN t\/(Tm (d+2) t/\g8 t≠0))(hk:((((l.filter nz).flatMap kS).filter dO).map A6).Nodup)(hm:((l.filter nz).flatMap kS).length<1000)
  (f5:2<=(l.filter nz).length->(l.filter nz).flatMap kS≠[]) (hlt:let R:=b9 (((l.filter nz).flatMap kS).filter dO) (mB ((l.filter nz).flatMap kS));2<=R.length->(T.sum R).lo<(T.sum R).hi):
  aB fi (d+3) 204 [.lst (l.map V.node)] []=some (.node (YI (l.filter nz))):=by
 rw[Y9,aT,aV hz];show((dH (bJ (aB fi (d+2)) 38) [0] [QX] [(4,V.lst (l.map V.node))] (fR (bJ (aB fi (d+2)) 38) (.var 0)) (l.map V.node) []).map _).bind _=_;rw[zZ];have hfl:(l.filter nz).length<=1000:=aR (dM _ _) hz;generalize l.filter nz=f at hf hc hk hm hlt f5 hfl⊢;show dR (R4 (d+2)) (q7.body.drop 1) [(4,.own 0)] [⟨false,.lst (f.map V.node)⟩] kR kN=_;rw[YA];induction f using JE with
 |nil=>
  show(aB fi (d+2) 331 [.int 0] []).bind _=_;rw[xS];rfl
 |one t=>kernel_rfl
 |two a b r=>
  have h1:Nat.ble ((a::b::r).map V.node).length 100000=true:=aV (by rw[aT];lia)
  rw[h1];have h2:decide (((((a::b::r).map V.node).length:Nat):Int)=1)=false:=aK (by rw[aT,bL,bL];lia)
  simp only[bV,cU,aF,mD,fU,h2];show dR (R4 (d+2)) (q7.body.drop 3) [(4,.own 0)] [⟨false,.lst ((a::b::r).map V.node)⟩] kR kN=_;rw[YB,c644 (d+1) hfl];show(aB fi (d+2) 640 [.node (.sum (a::b::r))] []).bind _=_;rw[PD d hfl hf];generalize hcm:(a::b::r).flatMap kS=comps at hc hk hm hlt f5⊢;show((bif Nat.ble (comps.map V.node).length 1000 then some (comps.map V.node,pT ((a::b::r).map V.node) [] [])else none).bind _)=_;rw[aT,aV (bD hm)];obtain⟨w,e⟩:=Gj (d:=d+2) (l:=(a::b::r).map V.node) (comps:=comps) (done:=[]) (s:=0) (env:=[(4,.own 0),(28,.own 1),(12,.own 2),(26,.int 0)]) (λv=>rfl) (λt ht=>(hc t ht).imp_right (·.1)) hk (by rw[List.length_nil];lia) (f5 (by simp))
  rw[bV,aF];rw[show gV (bJ (aB fi (d+2)) 39) [5] tU (comps.map V.node) [(4,.own 0),(28,.own 1),(12,.own 2),(26,.int 0)] (pT ((a::b::r).map V.node) [] [])=_ from e];show dR (R4 (d+2)) (q7.body.drop 7) (m5 (0+mB comps) w) (pT ((a::b::r).map V.node) (dD (comps.filter dO)) (dE (comps.filter dO))) kR kN=_;have hle:(comps.filter dO).length<1000:=aP (dM _ _) hm;rw[YD,show Nat.ble (dD (comps.filter dO)).length 1000=true from aV (by unfold dD;rw[aT];lia)]
  show((dH (bJ (aB fi (d+2)) 38) [41,40] [.cmp .NotEq (.var 40) (.int 0)] (m5 (0+mB comps) w) (fR (bJ (aB fi (d+2)) 38) A7) ((dD (comps.filter dO)).map vP) (gY ((a::b::r).map V.node) (dD (comps.filter dO)) (dE (comps.filter dO)))).map _).bind _=_;rw[Bc (d:=d+1) hk λt ht=>⟨ht,by
   obtain⟨m1,m2⟩:=dC.mp ht;clear ht;rcases hc t m1 with⟨n,rfl⟩|⟨q1,q2⟩
   ·exact bX m2
   ·exact⟨q1,q2⟩⟩]
  show dR (R4 (d+2)) (q7.body.drop 8) (QY (0+mB comps) w) (gY ((a::b::r).map V.node) (dD (comps.filter dO)) (dE (comps.filter dO))++[⟨false,.lst ((comps.filter dO).map V.node)⟩]) kR kN=_;rw[cY,YH (d+1) _ w _ _ _ hle hlt];rw[<-hcm];rfl
noncomputable def m6(s:Str):Nat:=s.cps.size
theorem kF(a b:Str):m6 (a++b)=m6 a+m6 b:=Array.size_append
def z4(c:Nat)(s:Str):Prop:=c∈s.cps.toList
theorem r7(c:Nat)(a b:Str):z4 c (a++b)↔z4 c a\/z4 c b:=by
 show c∈(a.cps++b.cps).toList↔_;rw[Array.toList_append,b7];rfl
theorem Gl(i:Int):(pR i).cps.toList=(bif decide (i<0)then[45]else[])++(Nat.toDigits 10 i.natAbs).map Char.toNat:=by
 unfold pR;rw[Str.ofString_eq_toList];show((toString i).toList.map Char.toNat)=_;induction i using Int.casesOn with
 |ofNat m=>
  rw[show decide (Int.ofNat m<0)=false from aK (jJ.mpr (g5 m))];show(Nat.repr m).toList.map Char.toNat=_;rw[Nat.toList_repr];rfl
 |negSucc m=>
  rw[aH (Int.negSucc_lt_zero m)];show("-"++Nat.repr m.succ).toList.map Char.toNat=_;rw[String.toList_append,dQ,Nat.toList_repr];rfl
theorem PH:2^1900<10^600:=by decide+kernel
theorem mE{i:Int}(h:v9 i=true):m6 (pR i)<=601:=by
 have h:=aM h;show(pR i).cps.size<=601;rw[<-Array.length_toList,Gl,bU,aT];have h1:(bif decide (i<0)then[45]else([]:List Nat)).length<=1:=by cases decide (i<0)<;>decide
 have h2:(Nat.toDigits 10 i.natAbs).length<=600:=(Nat.length_toDigits_le_iff (by decide) (by decide)).mpr (bA h PH)
 exact Ll h1 h2
def Jh(c:Nat):Prop:=118<=c/\c<=122
theorem vQ{c:Nat}(hc:Jh c)(i:Int):¬z4 c (pR i):=by
 unfold z4;rw[Gl,b7];rintro(h|h)
 ·have:c∈[45]:=by revert h;cases decide (i<0)<;>intro h;exact absurd h (by simp);exact h
  rw[aN.mp this]at hc;exact absurd hc.1 (by decide)
 ·obtain⟨ch,h1,rfl⟩:=bR.mp h;have:=Nat.isDigit_of_mem_toDigits (by decide) (by decide) h1
  unfold Char.isDigit at this;simp only[ge_iff_le,a9,decide_eq_true_eq]at this;have h2:ch.toNat<=57:=this.2;have:=hc.1;exact i7 _ (aP this (iM h2 rfl))
theorem D7{c:Nat}(hc:Jh c):∀l:List Str,z4 c (Str.join pB l)↔∃s∈l,z4 c s
 |[]=>by simp[Str.join,z4,Str.empty]
 |[x]=>by simp[Str.join]
 |x::y::r=>by
  show z4 c (x++pB++Str.join pB (y::r))↔_;rw[r7,r7,D7 hc (y::r)];have:¬z4 c pB:=λh=>by
   have:c∈[43]:=h;rw[aN.mp this]at hc;exact absurd hc.1 (by decide)
  constructor
  ·rintro((h|h)|⟨s,h1,h2⟩)
   ·exact⟨x,aE,h⟩
   ·exact absurd h this
   ·exact⟨s,aI _ h1,h2⟩
  ·rintro⟨s,h1,h2⟩;rcases a7.mp h1 with rfl|h1
   ·exact .inl (.inl h2)
   ·exact .inr ⟨s,h1,h2⟩
theorem Gm{x y:Str}:∀{l:List Str},y∈sI x l↔y=x\/y∈l
 |[]=>by simp[sI]
 |z::r=>by
  unfold sI;induction DX x z using Bool.casesOn with
  |true=>simp
  |false=>
   rw[bG,a7,Gm,a7];constructor<;>rintro(h|h|h)<;>simp[h]
theorem D8{y:Str}:∀{l:List Str},y∈kM l↔y∈l
 |[]=>Iff.rfl
 |x::r=>by unfold kM;rw[Gm,D8,a7]
theorem Gn{x:Str}:∀l:List Str,((sI x l).map m6).sum=m6 x+(l.map m6).sum/\(sI x l).length=l.length+1
 |[]=>⟨by simp[sI],rfl⟩
 |z::r=>by
  unfold sI;induction DX x z using Bool.casesOn with
  |true=>simp
  |false=>
   refine oA (Gn (x:=x) r) λh1 h2=>?_;rw[bG,bO,eJ,bL,h1,h2,bO,eJ,bL];lia
theorem z5:∀l:List Str,((kM l).map m6).sum=(l.map m6).sum/\(kM l).length=l.length
 |[]=>⟨rfl,rfl⟩
 |x::r=>by
  refine oA (Gn (x:=x) (kM r)) λh1 h2=>?_;refine oA (z5 r) λh3 h4=>?_;unfold kM;rw[h1,h2,h3,h4,bO,eJ,bL];lia
theorem D9:∀l:List Str,m6 (Str.join pB l)<=(l.map m6).sum+l.length
 |[]=>by simp[Str.join,m6,Str.empty]
 |[x]=>by simp[Str.join]
 |x::y::r=>by
  show m6 (x++pB++Str.join pB (y::r))<=_;rw[kF,kF];have:=D9 (y::r);have h1:m6 pB=1:=rfl;simp only[bO,eJ,bL]at this⊢;lia
mutual
noncomputable def T.nd:T->Nat
 |.num _=>1
 |.var ..=>1
 |.mul a _=>a.nd+1
 |.div a _=>a.nd+1
 |.mod a _=>a.nd+1
 |.sum l=>T.nds l+1
noncomputable def T.nds:List T->Nat
 |[]=>0
 |t::r=>t.nd+T.nds r
end
theorem nds_n:T.nds []=0:=rfl
theorem nds_c{t:T}{r:List T}:T.nds (t::r)=t.nd+T.nds r:=rfl
theorem nd_num{n:Int}:(T.num n).nd=1:=rfl
theorem nd_var{e:Str}{l h:Int}:(T.var e l h).nd=1:=rfl
theorem nd_mul{a:T}{b:Int}:(T.mul a b).nd=a.nd+1:=rfl
theorem nd_div{a:T}{b:Int}:(T.div a b).nd=a.nd+1:=rfl
theorem nd_mod{a:T}{b:Int}:(T.mod a b).nd=a.nd+1:=rfl
theorem nd_sum{l:List T}:(T.sum l).nd=T.nds l+1:=rfl
mutual
noncomputable def dS(c:Nat):T->Prop
 |.num _=>False
 |.var e _ _=>z4 c e
 |.mul a _=>dS c a
 |.div a _=>dS c a
 |.mod a _=>dS c a
 |.sum l=>hasVs c l
noncomputable def hasVs(c:Nat):List T->Prop
 |[]=>False
 |t::r=>dS c t\/hasVs c r
end
theorem hvs_n{c:Nat}:hasVs c []=False:=rfl
theorem hvs_c{c:Nat}{t:T}{r:List T}:hasVs c (t::r)=(dS c t\/hasVs c r):=rfl
theorem hv_mul{c:Nat}{a:T}{b:Int}:dS c (.mul a b)=dS c a:=rfl
theorem hv_div{c:Nat}{a:T}{b:Int}:dS c (.div a b)=dS c a:=rfl
theorem hv_mod{c:Nat}{a:T}{b:Int}:dS c (.mod a b)=dS c a:=rfl
theorem hv_sum{c:Nat}{l:List T}:dS c (.sum l)=hasVs c l:=rfl
theorem hv_num{c:Nat}{n:Int}:dS c (.num n)=False:=rfl
theorem hv_var{c:Nat}{e:Str}{l h:Int}:dS c (.var e l h)=z4 c e:=rfl
theorem wT{c:Nat}:∀{l:List T},hasVs c l↔∃t∈l,dS c t
 |[]=>by unfold hasVs;simp
 |t::r=>by unfold hasVs;rw[wT];simp
theorem lM{c:Nat}(hc:Jh c)(s:Str)(h:s.cps.toList.all (λx=>!(Nat.ble 118 x))=true):¬z4 c s:=λz=>by
 have:=aW.mp h c z;rw[aV hc.1]at this;exact bX this
mutual
theorem nM{c:Nat}(hc:Jh c):∀t:T,z4 c t.rend↔dS c t
 |.num n=>by rw[T.rend,dS];exact⟨λh=>vQ hc n h,False.elim⟩
 |.var e l h=>by
  rw[T.rend,dS];simp only[r7,vQ hc,lM hc Z6 rfl,lM hc AF rfl,lM hc Eh rfl,lM hc Z7 rfl,or_false]
 |.mul a b=>by
  rw[T.rend,dS];simp only[r7,vQ hc,lM hc xO rfl,lM hc yS rfl,lM hc xP rfl,or_false,false_or,nM hc a]
 |.div a b=>by
  rw[T.rend,dS];simp only[r7,vQ hc,lM hc xO rfl,lM hc Z8 rfl,lM hc xP rfl,or_false,false_or,nM hc a]
 |.mod a b=>by
  rw[T.rend,dS];simp only[r7,vQ hc,lM hc xO rfl,lM hc Ie rfl,lM hc xP rfl,or_false,false_or,nM hc a]
 |.sum l=>by
  rw[T.rend,dS];simp only[r7,lM hc xO rfl,lM hc xP rfl,or_false,false_or,D7 hc,D8,occ_rends hc l]
theorem occ_rends{c:Nat}(hc:Jh c):∀l:List T,(∃s∈T.rends l,z4 c s)↔hasVs c l
 |[]=>by rw[T.rends,hasVs];simp
 |t::r=>by
  rw[T.rends,hasVs,<-occ_rends hc r,<-nM hc t];simp
end
theorem wU:∀l:List T,T.rends l=l.map T.rend
 |[]=>rfl
 |t::r=>by rw[T.rends,wU r];rfl
inductive Rk:Nat->T->Prop
 |num {n:Nat} {i:Int}:v9 i=true->Rk n (.num i)
 |var {n:Nat} {e:Str} {l h:Int}:m6 e<=1->v9 l=true->v9 h=true->Rk n (.var e l h)
 |mul {n:Nat} {a:T} {b:Int}:Rk n a->v9 b=true->(T.mul a b).lo≠(T.mul a b).hi->Rk (n+1) (.mul a b)
 |div {n:Nat} {a:T} {b:Int}:Rk n a->v9 b=true->(T.div a b).lo≠(T.div a b).hi->Rk (n+1) (.div a b)
 |mod {n:Nat} {a:T} {b:Int}:Rk n a->v9 b=true->(T.mod a b).lo≠(T.mod a b).hi->Rk (n+1) (.mod a b)
 |sum {n:Nat} {l:List T}:(∀u∈l,Rk n u)->l.length<64->(T.sum l).lo≠(T.sum l).hi->Rk (n+1) (.sum l)
theorem Nh{u:T}:∀{l:List T},u∈l->u.nd<=T.nds l
 |t::r,h=>by
  rw[T.nds];rcases a7.mp h with rfl|h
  ·lia
  ·have:=Nh h;lia
theorem Bd{l:List T}(h:∀u∈l,m6 u.rend+2<=1300*u.nd):((l.map T.rend).map m6).sum+2*l.length<=1300*T.nds l:=by
 induction l with
 |nil=>simp[T.nds]
 |cons t r ih=>
  have h1:=h t aE;have h2:=ih λu hu=>h u (aI _ hu);rw[T.nds,bO,bO,eJ,bL];lia
theorem s9{n:Nat}{t:T}(h:Rk n t):m6 t.rend+2<=1300*t.nd:=by
 induction h with
 |num h=>rw[T.rend,T.nd];have:=mE h;lia
 |var h0 h1 h2=>
  rw[T.rend,T.nd];have:=mE h1;have:=mE h2;simp only[kF,show m6 Z6=1 from rfl,show m6 AF=1 from rfl,show m6 Eh=0 from rfl,show m6 Z7=1 from rfl];lia
 |mul _ h1 _ ih=>rw[T.rend,T.nd];have:=mE h1;simp only[kF,show m6 xO=1 from rfl,show m6 yS=1 from rfl,show m6 xP=1 from rfl];lia
 |div _ h1 _ ih=>rw[T.rend,T.nd];have:=mE h1;simp only[kF,show m6 xO=1 from rfl,show m6 Z8=2 from rfl,show m6 xP=1 from rfl];lia
 |mod _ h1 _ ih=>rw[T.rend,T.nd];have:=mE h1;simp only[kF,show m6 xO=1 from rfl,show m6 Ie=1 from rfl,show m6 xP=1 from rfl];lia
 |@sum n l _ _ _ ih=>
  rw[T.rend,T.nd,wU];have h1:=Bd ih;have h2:=D9 (kM (l.map T.rend));refine oA (z5 (l.map T.rend)) λh3 h4=>?_;rw[h3,h4,aT]at h2;simp only[kF,show m6 xO=1 from rfl,show m6 xP=1 from rfl];exact Lm h1 h2
theorem rI(cf:cO){x y:Str}(h:m6 (x++y)<=1000000):cG cf .Add (.str x) (.str y)=some (.str (x++y)):=by
 show(bif CX (x++y)then _ else _)=_;rw[show CX (x++y)=true from aH h];rfl
theorem x7(d:Nat){t:T}{f:Addr}(h:(t.cls,f)∈[((471:Addr),(468:Addr)),(512,509),(560,557),(644,635)]):aB fi (d+1) 50 [.node t,.str d9] []=bif !!decide (t.lo=t.hi)then none else(aB fi d f [.node t,.str d9] []).bind λv=>(a8 v []).bind λq=>some q.1:=by
 induction t using T.casesOn<;>simp[T.cls]at h<;>subst h<;>exact(cR rfl rfl rfl rfl).trans (by kernel_rfl)
theorem kw50(d:Nat)(t:T):aB fi (d+1) 50 [.node t] [(3,.str d9)]=aB fi (d+1) 50 [.node t,.str d9] []:=(cR (i:=f50) (env:=[(1,.node t),(3,.str d9)]) rfl rfl rfl rfl).trans (cR rfl rfl rfl rfl).symm
theorem Ni(d:Nat)(i:Int):aB fi (d+1) 50 [.node (.num i),.str d9] []=(aB fi d 328 [.node (.num i),.str d9] []).bind λv=>(a8 v []).bind λq=>some q.1:=(cR rfl rfl rfl rfl).trans (by kernel_rfl)
theorem Nj(d:Nat)(e:Str)(l h:Int):aB fi (d+1) 50 [.node (.var e l h),.str d9] []=(aB fi d 274 [.node (.var e l h),.str d9] []).bind λv=>(a8 v []).bind λq=>some q.1:=(cR rfl rfl rfl rfl).trans (by kernel_rfl)
def DA(i:Int):Option V:=bif v9 i then some (.str (pR i))else none
theorem tW{i:Int}(h:v9 i=true):DA i=some (.str (pR i)):=by unfold DA;rw[h];rfl
theorem sp328(d:Nat)(i:Int):aB fi (d+1) 328 [.node (.num i),.str d9] []=((DA i).map λx=>(x,([]:Cs))).bind λv=>(a8 v.1 v.2).bind λq=>some q.1:=(cR rfl rfl rfl rfl).trans (by kernel_rfl)
theorem sp654(d:Nat)(i:Int):aB fi (d+1) 654 [.int i,.str d9] []=((DA i).map λx=>(x,([]:Cs))).bind λv=>(a8 v.1 v.2).bind λq=>some q.1:=(cR rfl rfl rfl rfl).trans (by kernel_rfl)
theorem sp274(d:Nat)(e:Str)(l h:Int):aB fi (d+1) 274 [.node (.var e l h),.str d9] []=(cG (aB fi d) .Add (.str e) (.str Z6)).bind λv=>((DA l).map λx=>(x,([]:Cs))).bind λi=>(cG (aB fi d) .Add v i.1).bind λv=>(cG (aB fi d) .Add v (.str AF)).bind λv=>
  ((DA h).map λx=>(x,i.2)).bind λj=>(cG (aB fi d) .Add v j.1).bind λv=>(cG (aB fi d) .Add v (.str Eh)).bind λv=>(cG (aB fi d) .Add v (.str Z7)).bind λv=>(a8 v j.2).bind λq=>some q.1:=(cR rfl rfl rfl rfl).trans (by kernel_rfl)
theorem sp468(d:Nat)(a:T)(c:Int):aB fi (d+1) 468 [.node (.mul a c),.str d9] []=(aB fi d 50 [.node a,.str d9] []).bind λv=>(cG (aB fi d) .Add (.str xO) v).bind λv=>(cG (aB fi d) .Add v (.str yS)).bind λv=>(aB fi d 654 [.int c,.str d9] []).bind λx=>(cG (aB fi d) .Add v x).bind λv=>
  (cG (aB fi d) .Add v (.str xP)).bind λv=>(a8 v []).bind λq=>some q.1:=by induction a using T.casesOn<;>exact(cR rfl rfl rfl rfl).trans (by kernel_rfl)
theorem sp509(d:Nat)(a:T)(c:Int):aB fi (d+1) 509 [.node (.div a c),.str d9] []=(aB fi d 50 [.node a,.str d9] []).bind λv=>(cG (aB fi d) .Add (.str xO) v).bind λv=>(cG (aB fi d) .Add v (.str Z8)).bind λv=>((DA c).map λx=>(x,([]:Cs))).bind λx=>(cG (aB fi d) .Add v x.1).bind λv=>
  (cG (aB fi d) .Add v (.str xP)).bind λv=>(a8 v x.2).bind λq=>some q.1:=by induction a using T.casesOn<;>exact(cR rfl rfl rfl rfl).trans (by kernel_rfl)
theorem sp557(d:Nat)(a:T)(c:Int):aB fi (d+1) 557 [.node (.mod a c),.str d9] []=(aB fi d 50 [.node a,.str d9] []).bind λv=>(cG (aB fi d) .Add (.str xO) v).bind λv=>(cG (aB fi d) .Add v (.str Ie)).bind λv=>((DA c).map λx=>(x,([]:Cs))).bind λx=>(cG (aB fi d) .Add v x.1).bind λv=>
  (cG (aB fi d) .Add v (.str xP)).bind λv=>(a8 v x.2).bind λq=>some q.1:=by induction a using T.casesOn<;>exact(cR rfl rfl rfl rfl).trans (by kernel_rfl)
noncomputable def DB:X:=.meth (.var 0) .render [(.var 3)] []
theorem sp635(d:Nat)(l:List T):aB fi (d+1) 635 [.node (.sum l),.str d9] []=((bif Nat.ble (l.map V.node).length 1000 then some (l.map V.node,[])else none).bind λp=>(dH (bJ (aB fi d) 34) [0] [] [(1,.node (.sum l)),(3,.str d9)] (fR (bJ (aB fi d) 34) DB) p.1 p.2).map λq=>gT (.lst q.1) q.2).bind λv=>
  ((Eo v.1 v.2).bind λm=>(mT m).map λss=>gT (.lst ((kM ss).map V.str)) v.2).bind λv=>(((a8 v.1 v.2).bind λp=>(some ([],p.2)).map λq=>(p.1::q.1,q.2)).bind λw=>(view (.str pB) w.2).bind λu=>(yW u .join w.1).map λx=>(x,w.2)).bind λv=>
   (cG (aB fi d) .Add (.str xO) v.1).bind λx=>(cG (aB fi d) .Add x (.str xP)).bind λx=>(a8 x v.2).bind λq=>some q.1:=(cR rfl rfl rfl rfl).trans (by kernel_rfl)
theorem PK(d:Nat)(v:V)(u:T):fR (bJ (aB fi d) 34) DB [(1,v),(3,.str d9),(0,.node u)] []=((aB fi d 50 [.node u,.str d9] []).bind λx=>some (x,([]:Cs))).bind λx=>(a8 x.1 x.2).map λy=>([y.1],y.2):=by
 show((bJ (aB fi d) 34).ev DB [(1,v),(3,.str d9),(0,.node u)] []).bind _=_;rw[D4];induction u using T.casesOn<;>kernel_rfl
theorem Be{d:Nat}{v:V}:∀{l:List T},(∀u∈l,aB fi d 50 [.node u,.str d9] []=some (.str u.rend))->dH (bJ (aB fi d) 34) [0] [] [(1,v),(3,.str d9)] (fR (bJ (aB fi d) 34) DB) (l.map V.node) []=some (l.map λu=>V.str u.rend,[])
 |[],_=>rfl
 |u::r,h=>by
  show((fR (bJ (aB fi d) 34) DB [(1,v),(3,.str d9),(0,.node u)] []).bind λq=>(dH (bJ (aB fi d) 34) [0] [] [(1,v),(3,.str d9)] (fR (bJ (aB fi d) 34) DB) (r.map V.node) q.2).map λz=>(q.1++z.1,z.2))=_;rw[PK,h u aE];show(dH (bJ (aB fi d) 34) [0] [] [(1,v),(3,.str d9)] (fR (bJ (aB fi d) 34) DB) (r.map V.node) []).map _=_;rw[Be λu hu=>h u (aI _ hu)];rfl
theorem z6:∀l:List Str,mT (l.map V.str)=some l
 |[]=>rfl
 |s::r=>by show(mT (r.map V.str)).map (s::·)=_;rw[z6 r];rfl
theorem joinP(l:List Str)(h:((l.map m6).sum+l.length)<=1000000):JoinOk pB l=true:=by
 unfold JoinOk PySem.Builtin.Str.tooLong;rw[StrLaws.joinTotal];have e:(l.map (·.length)).sum=(l.map m6).sum:=rfl;have e2:pB.length=1:=rfl;rw[e,e2,Nat.mul_one];have:¬((l.map m6).sum+l.length>sizeLine):=by rw[sizeLine_eq];exact lP.mpr (iG h rfl)
 rw[aK this];rfl
theorem PL{n:Nat}{t:T}(h:Rk n t):t.nd<=700->∀d,2*n+2<=d->aB fi d 50 [.node t,.str d9] []=some (.str t.rend):=by
 induction h with
 |@num n i h=>
  intro _ d hd
  obtain⟨e,rfl,hd⟩:=up (K:=1) (d:=d) (bT hd rfl)
  refine jC e 0 (by assumption) λe hd=>?_
  rw[Ni,sp328,tW h,T.rend];rfl
 |@var n e l h h0 h1 h2=>
  intro _ d hd
  refine jC d 1 (bT hd rfl) λd hd=>?_
  refine jC d 0 (hd) λd hd=>?_
  have s1:=mE h1
  have s2:=mE h2
  rw[Nj,sp274,tW h1,tW h2,bS (rI ..),cU,aF,bS (rI ..),bS (rI ..),cU,aF,bS (rI ..),bS (rI ..),rI,T.rend]
  ·rfl
  all_goals (simp only[kF,show m6 Z6=1 from rfl,show m6 AF=1 from rfl,show m6 Eh=0 from rfl,show m6 Z7=1 from rfl];lia)
 |@mul n a b h h1 h2 ih=>
  intro hn d hd
  rw[T.nd]at hn
  refine jC d (2*n+3) (hd) λd hd=>?_
  refine jC d (2*n+2) (hd) λd hd=>?_
  obtain⟨e,rfl,_⟩:=up (K:=2*n+1) (d:=d) (hd)
  have s1:=mE h1
  have s2:=s9 h
  rw[x7 (f:=468) _ (by simp[T.cls]),aK h2,sp468,ih (by exact bD (d7 hn)) _ (hd),sp654,tW h1,cU,aF,aF,bS (rI ..),bS (rI ..)]
  ·show((cG (aB fi (e+1)) .Add _ (.str (pR b))).bind _).bind _=_
   rw[bS (rI ..),rI,T.rend]
   ·rfl
   all_goals (simp only[kF,show m6 xO=1 from rfl,show m6 yS=1 from rfl,show m6 xP=1 from rfl];lia)
  all_goals (simp only[kF,show m6 xO=1 from rfl,show m6 yS=1 from rfl,show m6 xP=1 from rfl];lia)
 |@div n a b h h1 h2 ih=>
  intro hn d hd
  rw[T.nd]at hn
  refine jC d (2*n+3) (hd) λd hd=>?_
  refine jC d (2*n+2) (hd) λd hd=>?_
  have s1:=mE h1
  have s2:=s9 h
  rw[x7 (f:=509) _ (by simp[T.cls]),aK h2,sp509,ih (by exact bD (d7 hn)) _ (hd),tW h1,cU,aF,bS (rI ..),bS (rI ..),aF,bS (rI ..),rI,T.rend]
  ·rfl
  all_goals (simp only[kF,show m6 xO=1 from rfl,show m6 Z8=2 from rfl,show m6 xP=1 from rfl];lia)
 |@mod n a b h h1 h2 ih=>
  intro hn d hd
  rw[T.nd]at hn
  refine jC d (2*n+3) (hd) λd hd=>?_
  refine jC d (2*n+2) (hd) λd hd=>?_
  have s1:=mE h1
  have s2:=s9 h
  rw[x7 (f:=557) _ (by simp[T.cls]),aK h2,sp557,ih (by exact bD (d7 hn)) _ (hd),tW h1,cU,aF,bS (rI ..),bS (rI ..),aF,bS (rI ..),rI,T.rend]
  ·rfl
  all_goals (simp only[kF,show m6 xO=1 from rfl,show m6 Ie=1 from rfl,show m6 xP=1 from rfl];lia)
 |@sum n l h h1 h2 ih=>
  intro hn d hd
  have hs:=s9 (Rk.sum h h1 h2)
  rw[T.nd]at hn hs
  refine jC d (2*n+3) (hd) λd hd=>?_
  refine jC d (2*n+2) (hd) λd hd=>?_
  have s1:=Bd λu hu=>s9 (h u hu)
  refine oA (z5 (l.map T.rend)) λh3 h4=>?_
  conv=>lhs;rw[x7 (f:=635) _ (by simp[T.cls]),aK h2,sp635,aT,aV (by lia)]
  show(((((dH (bJ (aB fi d) 34) [0] [] [(1,.node (.sum l)),(3,.str d9)] (fR (bJ (aB fi d) 34) DB) (l.map V.node) []).map λq=>gT (.lst q.1) q.2).bind _).bind _))=_
  rw[Be λu hu=>ih u hu (by have:=Nh hu;exact bD (aZ (jZ this) hn)) d (hd)]
  show((((bif Nat.blt (l.map λu=>V.str u.rend).length 64 then some (l.map λu=>V.str u.rend)else none).bind λm=>(mT m).map λss=>gT (.lst ((kM ss).map V.str)) [⟨false,.lst (l.map λu=>V.str u.rend)⟩]).bind _).bind _)=_
  conv=>lhs;rw[aT,cT (show Nat.blt l.length 64=true from aV h1),aF,show(l.map λu=>V.str u.rend)=(l.map T.rend).map V.str by rw[iW];rfl,z6]
  show((((mT ((kM (l.map T.rend)).map V.str)).bind λss=>bif JoinOk pB ss then some (V.str (Str.join pB ss))else none).map λx=>(x,_)).bind _).bind _=_
  conv=>lhs;rw[bS (z6 ..),cT (joinP _ (by rw[h3,h4,aT];lia) ..),cU,aF]
  rw[T.rend,wU]at hs⊢
  rw[bS (rI ..),rI]
  ·rfl
  all_goals (simp only[kF,show m6 xO=1 from rfl,show m6 xP=1 from rfl]at hs⊢;lia)
theorem z7{n:Nat}{t:T}(h:Rk n t)(hn:t.nd<=700){d:Nat}(hd:2*n+3<=d):ZC d t:=by
 refine jC d (2*n+2) (hd) λd hd=>?_;have hr:=PL h hn d (hd);obtain⟨e,rfl,_⟩:=up (K:=2*n+1) (d:=d) (hd);rw[<-kw50]at hr;show((aB fi (e+1+1) 71 [.node t] []).bind λr=>tZ none r λs=>some (V.str s))=_;have:aB fi (e+1+1) 71 [.node t] []=some (.str t.rend):=by
  show pU none (aB fi (e+1) 50 [.node t] [(3,.str d9)]) (λu=>tZ none u λs=>bif lC s t.rend&&true then some (V.str s)else none)=_;rw[hr];show(bif lC t.rend t.rend&&true then some (V.str t.rend)else none)=_;rw[sR];rfl
 rw[this];rfl
noncomputable def BM:Int:=2^900
theorem BU{i:Int}(h:i.natAbs<2^1800):v9 i=true:=aH (bA h (by decide+kernel))
theorem g9{i:Int}(h:i.natAbs<2^1900):jP i=true:=aH (bA h (by decide+kernel))
theorem gZ{i:Int}(h0:0<=i)(h:i<BM):i.natAbs<2^900:=by
 unfold BM at h;have:((2^900:Nat):Int)=2^900:=by norm_cast
 lia
theorem oP{a b:Int}(ha:a.natAbs<2^900)(hb:b.natAbs<2^900):(a*b).natAbs<2^1800:=by
 rw[eP]
 calc a.natAbs*b.natAbs<2^900*2^900:=Nat.mul_lt_mul'' ha hb
  _=2^1800:=by decide+kernel
noncomputable def j5:T->Bool
 |.var ..=>true
 |.div ..=>true
 |.mod ..=>true
 |_=>false
noncomputable def vR:T->Bool
 |.var ..=>true
 |.div x _=>match x with
  |.var ..=>true
  |_=>false
 |_=>false
def rJ(t u:T):Prop:=∀c,Jh c->dS c t->¬dS c u
inductive Nd:Nat->T->Prop
 |var {n c:Nat} {l h:Int}:Jh c->0<=l->l<h->h<BM->Nd n (.var ⟨#[c]⟩ l h)
 |div {n:Nat} {x:T} {b:Int}:Nd n x->2<=b->Int.fdiv x.lo b<Int.fdiv x.hi b->Nd (n+1) (.div x b)
 |mod {n:Nat} {x:T} {m:Int}:Nd n x->vR x=true->2<=m->Int.fdiv x.lo m<Int.fdiv x.hi m->Nd (n+1) (.mod x m)
 |mul {n:Nat} {x:T} {c:Int}:Nd n x->j5 x=true->2<=c->x.hi*c<BM->Nd (n+1) (.mul x c)
 |sum {n:Nat} {ts:List T} {k:Int}:(∀t∈ts,Nd n t)->(∀t∈ts,dO t=true)->ts≠[]->2<=(b9 ts k).length->ts.length<=8->0<=k->T.his ts+k<BM->ts.Pairwise rJ->Nd (n+1) (.sum (b9 ts k))
theorem Nd.divI{n:Nat}{x:T}{b:Int}{P:Prop}(h:Nd n (.div x b))(k:∀m,Nd m x->2<=b->Int.fdiv x.lo b<Int.fdiv x.hi b->P):P:=by
 cases h with
 |div h1 h2 h3=>exact k _ h1 h2 h3
theorem Nd.modI{n:Nat}{x:T}{b:Int}{P:Prop}(h:Nd n (.mod x b))(k:∀m,Nd m x->vR x=true->2<=b->Int.fdiv x.lo b<Int.fdiv x.hi b->P):P:=by
 cases h with
 |mod h1 h2 h3 h4=>exact k _ h1 h2 h3 h4
theorem Nd.var0{n m:Nat}{e:Str}{l h:Int}(q:Nd n (.var e l h)):Nd m (.var e l h):=by cases q with|var a b c d=>exact .var a b c d
theorem vS:∀a b:List T,T.his (a++b)=T.his a+T.his b
 |[],b=>by show T.his b=0+T.his b;lia
 |t::r,b=>by show t.hi+T.his (r++b)=t.hi+T.his r+T.his b;rw[vS r b];lia
theorem vT:∀a b:List T,T.los (a++b)=T.los a+T.los b
 |[],b=>by show T.los b=0+T.los b;lia
 |t::r,b=>by show t.lo+T.los (r++b)=t.lo+T.los r+T.los b;rw[vT r b];lia
theorem z8(ts:List T)(k:Int):T.his (b9 ts k)=T.his ts+k:=by
 unfold b9;rw[vS];induction h:decide (k=0) using Bool.casesOn with
 |true=>rw[aM h];rfl
 |false=>show T.his ts+(k+0)=_;lia
theorem z9(ts:List T)(k:Int):T.los (b9 ts k)=T.los ts+k:=by
 unfold b9;rw[vT];induction h:decide (k=0) using Bool.casesOn with
 |true=>rw[aM h];rfl
 |false=>show T.los ts+(k+0)=_;lia
theorem ER(l:List T):(T.sum l).lo=T.los l:=by rw[T.lo]
theorem ES(l:List T):(T.sum l).hi=T.his l:=by rw[T.hi]
theorem r8{ts:List T}(h:∀t∈ts,0<=t.lo/\t.lo<t.hi):0<=T.los ts/\T.los ts<=T.his ts/\(ts≠[]->T.los ts<T.his ts)/\∀t∈ts,t.hi<=T.his ts:=by
 induction ts with
 |nil=>exact⟨fI 0,fI 0,λh=>absurd rfl h,by simp⟩
 |cons t r ih=>
  refine oA (h t aE) λh1 h2=>?_;refine uY (ih λu hu=>h u (aI _ hu)) λi1 i2 _ i3=>?_;show 0<=t.lo+T.los r/\t.lo+T.los r<=t.hi+T.his r/\(_->t.lo+T.los r<t.hi+T.his r)/\∀u∈t::r,u.hi<=t.hi+T.his r;refine⟨by lia,by lia,λ_=>by lia,λu hu=>?_⟩
  clear h;rcases a7.mp hu with rfl|hu
  ·lia
  ·have:=i3 u hu;lia
theorem gF{a b:Int}(h0:0<=a)(hb:0<b):0<=Int.fdiv a b/\Int.fdiv a b<=a:=by
 rw[aG _ (aO hb)];exact⟨nX h0 (aO hb),Int.ediv_le_self _ h0⟩
theorem m7{l h m:Int}(hm:0<m)(hb:Int.fdiv l m<Int.fdiv h m)(hlh:l<=h):AC l h m=0/\yP l h m=m-1:=by
 have hc:(decide (h-l>=m)||(decide (l≠h)&&decide (Int.fmod l m>=Int.fmod h m)))=true:=by
  rw[Bool.or_eq_true,a9,decide_eq_true_eq,decide_eq_true_eq,decide_eq_true_eq];clear hlh;rw[aG _ (aO hm),aG _ (aO hm)]at hb;rw[aS _ (aO hm),aS _ (aO hm)];have e1:=dB l m;have e2:=dB h m;have:l/m+1<=h/m:=hb;have h3:m*(l/m+1)<=m*(h/m):=dN this (aO hm);rw[qF,dF]at h3;by_cases h1:h-l>=m
  ·exact .inl h1
  ·refine .inr ⟨λz=>by rw[z]at hb;exact qT _ hb,by lia⟩
 unfold AC yP;rw[hc];exact⟨rfl,rfl⟩
theorem Nd.rng{n:Nat}{t:T}(h:Nd n t):0<=t.lo/\t.lo<t.hi/\t.hi<BM:=by
 induction h with
 |var _ h1 h2 h3=>rw[T.lo,T.hi];exact⟨h1,h2,h3⟩
 |@div n x b _ h1 h2 ih=>
  rw[r6,s7];have q1:=gF (b:=b) ih.1 (by exact iB h1 rfl)
  have q2:=gF (a:=x.hi) (b:=b) (by exact aO (aJ ih.1 ih.2.1)) (by exact iB h1 rfl)
  exact⟨q1.1,h2,by exact aJ q2.2 ih.2.2⟩
 |@mod n x m _ _ h1 h2 ih=>
  rw[uL,uM];refine oA (m7 (by exact iB h1 rfl) h2 (aO ih.2.1)) λe1 e2=>?_
  rw[e1,e2];have:m<=x.hi:=by
   rcases eL x.hi m with h|h
   ·clear e2 e1;rw[aG _ (by exact iA h1 rfl),aG _ (by exact iA h1 rfl),cS (by exact aO (aJ ih.1 ih.2.1)) h,cS ih.1 (by exact cX ih.2.1 h)]at h2
    lia
   ·exact h
  exact⟨fI 0,by lia,by lia⟩
 |@mul n x c _ _ h1 h2 ih=>
  rw[rZ,pI,aH (by exact iA h1 rfl:0<=c)]
  exact⟨eO ih.1 (by exact iA h1 rfl),gP ih.2.1 (by exact iB h1 rfl),h2⟩
 |@sum n ts k _ _ h1 _ _ h2 h3 _ ih=>
  rw[ER,ES,z9,z8];refine uY (r8 λt ht=>⟨(ih t ht).1,(ih t ht).2.1⟩) λq1 _ q2 _=>?_;have:=q2 h1;exact⟨by lia,by lia,h3⟩
theorem Bf{c:Nat}{ts:List T}{k:Int}:dS c (.sum (b9 ts k))↔∃t∈ts,dS c t:=by
 rw[dS,wT];unfold b9;constructor
 ·rintro⟨t,h1,h2⟩;rcases b7.mp h1 with h1|h1
  ·exact⟨t,h1,h2⟩
  ·induction hk:decide (k=0) using Bool.casesOn with
   |true=>rw[hk]at h1;cases h1
   |false=>rw[hk]at h1;clear hk;rw[aN.mp h1,dS]at h2;exact h2.elim
 ·rintro⟨t,h1,h2⟩;exact⟨t,gG _ h1,h2⟩
theorem Nd.letter{n:Nat}{t:T}(h:Nd n t):∃c,Jh c/\dS c t:=by
 induction h with
 |@var n c l h hc=>exact⟨c,hc,by rw[dS];exact lW _⟩
 |div _ _ _ ih=>refine i8 (ih) λc h1 h2=>?_;exact⟨c,h1,by rw[dS];exact h2⟩
 |mod _ _ _ _ ih=>refine i8 (ih) λc h1 h2=>?_;exact⟨c,h1,by rw[dS];exact h2⟩
 |mul _ _ _ _ ih=>refine i8 (ih) λc h1 h2=>?_;exact⟨c,h1,by rw[dS];exact h2⟩
 |@sum n ts k _ _ h1 _ _ _ _ _ ih=>
  clear a_6 a_5 a_3 a_2 a_1 a;obtain⟨t,r,rfl⟩:=List.exists_cons_of_ne_nil h1;refine i8 (ih t aE) λc h1 h2=>?_;exact⟨c,h1,Bf.mpr ⟨t,aE,h2⟩⟩
theorem pJ{t:T}{ts:List T}{k:Int}(h:t∈b9 ts k):t∈ts\/t=.num k:=by
 unfold b9 at h;rcases b7.mp h with h|h
 ·exact .inl h
 ·induction hk:decide (k=0) using Bool.casesOn with
  |true=>rw[hk]at h;cases h
  |false=>rw[hk]at h;exact .inr (aN.mp h)
theorem iR(ts:List T)(k:Int):ts.length<=(b9 ts k).length/\(b9 ts k).length<=ts.length+1:=by
 unfold b9;rw[bU];induction decide (k=0) using Bool.casesOn<;>simp
theorem lN{l h b:Int}(h0:0<=l)(hlh:l<=h)(hb:0<b)(hd:Int.fdiv l b<Int.fdiv h b):b<=h:=by
 rcases eL h b with q|q
 ·rw[aG _ (aO hb),aG _ (aO hb),cS (by exact a6 h0 hlh) q,cS h0 (by exact aJ hlh q)]at hd
  lia
 ·exact q
theorem Nd.rk{n:Nat}{t:T}(h:Nd n t):Rk n t:=by
 have sm:∀{i:Int},0<=i->i<BM->v9 i=true:=λh0 h1=>BU (bA (gZ h0 h1) (by decide+kernel))
 induction h with
 |var _ h1 h2 h3=>exact .var (cA _) (sm h1 (by exact cX h2 h3)) (sm (by exact aO (aJ h1 h2)) h3)
 |@div n x b hx h1 h2 ih=>
  have r:=hx.rng;have:=lN r.1 (by exact aO r.2.1) (by exact iB h1 rfl) h2
  exact .div ih (sm (by exact iA h1 rfl) (by exact aJ this r.2.2)) (by rw[r6,s7];exact iV h2)
 |@mod n x m hx hv h1 h2 ih=>
  have r:=hx.rng;have:=lN r.1 (by exact aO r.2.1) (by exact iB h1 rfl) h2
  exact .mod ih (sm (by exact iA h1 rfl) (by exact aJ this r.2.2)) (iV (Nd.mod hx hv h1 h2).rng.2.1)
 |@mul n x c hx ha h1 h2 ih=>
  have r:=hx.rng;have:c<=x.hi*c:=by
   have:1*c<=x.hi*c:=cH (by lia) (by exact iA h1 rfl)
   lia
  exact .mul ih (sm (by exact iA h1 rfl) (by exact aJ this h2)) (iV (Nd.mul hx ha h1 h2).rng.2.1)
 |@sum n ts k hx ht h1 h2 h3 h4 h5 h6 ih=>
  refine uY (r8 λt ht=>⟨(hx t ht).rng.1,(hx t ht).rng.2.1⟩) λq1 q2 _ q3=>?_;refine .sum (λu hu=>?_) (by have:=iR ts k;lia) (iV (Nd.sum hx ht h1 h2 h3 h4 h5 h6).rng.2.1)
  rcases pJ hu with hu|rfl
  ·exact ih u hu
  ·exact .num (sm h4 (by lia))
structure Gt(n:Nat)(t:T):Prop where
 nd:Nd n (jM t)
 at_:j5 (jM t)=true
 mul:∀a c,t=.mul a c->c≠0/\c≠1/\c.natAbs<2^900
 sz:(jM t).nd<=700
theorem Gt.term{n:Nat}{t:T}(h:Gt n t):dO t=true:=by
 have:=h.at_;clear h;induction t using T.casesOn<;>first|(exact bX this;done)|rfl
theorem Gt.noSum{n:Nat}{t:T}(h:Gt n t):n7 t=false:=by
 have:=h.term;clear h;induction t using T.casesOn<;>first|(exact bX this;done)|rfl
theorem Gt.rng{n:Nat}{t:T}(h:Gt n t):t.lo<t.hi:=by
 have r:=h.nd.rng;induction t using T.casesOn with
 |mul a c=>
  have r:0<=a.lo/\a.lo<a.hi/\a.hi<BM:=r;refine Aq (h.mul a c rfl) λh0 _ _=>?_;rw[rZ,pI];by_cases hc:0<=c
  ·rw[aH hc];exact gP r.2.1 (by lia)
  ·rw[aK hc];exact Int.mul_lt_mul_of_neg_right r.2.1 (by exact nD.mp hc)
 |num n=>have:=h.term;exact bX this
 |sum l=>have:=h.term;exact bX this
 |var e l h=>exact r.2.1
 |div a b=>exact r.2.1
 |mod a b=>exact r.2.1
theorem rK{c:Nat}{t:T}:dS c (jM t)↔dS c t:=by
 induction t using T.casesOn with
 |mul a c=>show dS _ a↔dS _ (.mul a c);rw[dS]
 |_=>exact Iff.rfl
theorem Gt.letter{n:Nat}{t:T}(h:Gt n t):∃c,Jh c/\dS c t:=by
 refine i8 (h.nd.letter) λc h1 h2=>?_;exact⟨c,h1,rK.mp h2⟩
theorem Gt.tm{n d:Nat}{t:T}(h:Gt n t)(hd:2*n+3<=d):Tm d t/\g8 t≠0:=by
 refine⟨⟨h.term,z7 h.nd.rk h.sz hd,λa c e=>?_⟩,?_⟩
 ·refine Aq (h.mul a c e) λh1 h2 h3=>?_;subst e;have r:0<=a.lo/\a.lo<a.hi/\a.hi<BM:=h.nd.rng;have q:(2:Nat)^1800<2^1900:=by decide+kernel
  exact⟨h1,h2,r.1,g9 (bA (oP (gZ r.1 (by exact cX r.2.1 r.2.2)) h3) q),g9 (bA (oP (gZ (by exact aO (aJ r.1 r.2.1)) r.2.2) h3) q)⟩
 ·induction t using T.casesOn with
  |mul a c=>exact(h.mul a c rfl).1
  |_=>show(1:Int)≠0;decide
structure Fm(n:Nat)(ts:List T):Prop where
 gt:∀t∈ts,Gt n t
 ap:ts.Pairwise rJ
 len:ts.length<=8
theorem rJ.keys{n:Nat}{t u:T}(ht:Gt n t)(h:rJ t u):A6 t≠A6 u:=λe=>by
 refine i8 (ht.letter) λc h1 h2=>?_;have:z4 c (A6 t):=(nM h1 _).mpr (rK.mpr h2);rw[e]at this;exact h c h1 h2 (rK.mp ((nM h1 _).mp this))
theorem Fm.keys{n:Nat}:∀{ts:List T},Fm n ts->(ts.map A6).Nodup
 |[],_=>List.nodup_nil
 |t::r,h=>by
  refine oA (f7.mp h.ap) λh1 h2=>?_;refine gK.mpr ⟨λhm=>?_,Fm.keys (ts:=r) ⟨λu hu=>h.gt u (aI _ hu),h2,by have:=h.len;simp at this;exact iG this rfl⟩⟩
  refine i8 (bR.mp hm) λu hu e=>?_;exact(h1 u hu).keys (h.gt t aE) e.symm
theorem nf_lo:∀l:List T,(Jg l).lo=T.los l
 |[]=>by show(T.num 0).lo=0;rw[T.lo]
 |[t]=>by show t.lo=t.lo+0;lia
 |a::b::r=>ER _
theorem nf_hi:∀l:List T,(Jg l).hi=T.his l
 |[]=>by show(T.num 0).hi=0;rw[T.hi]
 |[t]=>by show t.hi=t.hi+0;lia
 |a::b::r=>ES _
def fN(F:List T×Int):T:=Jg (b9 F.1 F.2)
theorem xF(F:List T×Int):(fN F).lo=T.los F.1+F.2:=by rw[fN,nf_lo,z9]
theorem vV(F:List T×Int):(fN F).hi=T.his F.1+F.2:=by rw[fN,nf_hi,z8]
theorem Aa{n:Nat}{ts:List T}(h:∀t∈ts,Gt n t):T.los ts<=T.his ts/\(ts≠[]->T.los ts<T.his ts):=by
 induction ts with
 |nil=>exact⟨fI 0,λh=>absurd rfl h⟩
 |cons t r ih=>
  have h1:=(h t aE).rng;refine oA (ih λu hu=>h u (aI _ hu)) λi1 _=>?_;show t.lo+T.los r<=t.hi+T.his r/\(_->t.lo+T.los r<t.hi+T.his r);exact⟨by lia,λ_=>by lia⟩
noncomputable def YJ(F:List T×Int):Bool:=F.1.isEmpty&&decide (F.2=0)
theorem PM{n:Nat}{F:List T×Int}(h:∀t∈F.1,Gt n t):nz (fN F)=!YJ F:=by
 obtain⟨ts,k⟩:=F;unfold nz YJ;rw[xF,vV];induction ts using List.casesOn with
 |nil=>
  show(!decide ((0:Int)+k=0)||!decide ((0:Int)+k=0))=!(true&&decide (k=0));rw[cY,Bool.or_self,qS]
 |cons t r=>
  have:T.los (t::r)<T.his (t::r):=(Aa h).2 (by simp)
  show(!decide (T.his (t::r)+k=0)||!decide (T.los (t::r)+k=0))=true;by_cases hz:T.his (t::r)+k=0
  ·rw[aK (λz=>by lia:¬T.los (t::r)+k=0)];simp
  ·rw[aK hz];rfl
theorem Nk:∀{l:List T},(∀t∈l,n7 t=false)->l≠[]->kS (Jg l)=l
 |[],_,h=>absurd rfl h
 |[t],h,_=>by
  have:=h t aE;clear h;induction t using T.casesOn<;>first|(exact jA this;done)|rfl
 |_::_::_,_,_=>rfl
theorem Go{F:List T×Int}(h:YJ F=false):b9 F.1 F.2≠[]:=λe=>by
 unfold b9 at e;refine oA (gQ.mp e) λh1 h2=>?_;unfold YJ at h;clear e;rw[h1]at h;induction hk:decide (F.2=0) using Bool.casesOn with
 |true=>rw[hk]at h;exact jA h
 |false=>rw[hk]at h2;cases h2
theorem uN{n:Nat}{F:List T×Int}(h:∀t∈F.1,Gt n t):∀t∈b9 F.1 F.2,n7 t=false:=λt ht=>by
 rcases pJ ht with ht|rfl
 ·exact(h t ht).noSum
 ·rfl
theorem IR{t:T}{r:List T}(ht:dO t=true):mB (t::r)=mB r:=by
 induction t using T.casesOn<;>first|(exact bX ht;done)|(show 0+mB r=_;lia)
theorem IU{n:Nat}{F:List T×Int}(h:∀t∈F.1,Gt n t):(b9 F.1 F.2).filter dO=F.1/\mB (b9 F.1 F.2)=F.2:=by
 obtain⟨ts,k⟩:=F;induction ts with
 |nil=>
  unfold b9;induction hk:decide (k=0) using Bool.casesOn with
  |true=>exact⟨rfl,(aM hk).symm⟩
  |false=>exact⟨rfl,by show k+0=k;lia⟩
 |cons t r ih=>
  refine oA (ih λu hu=>h u (aI _ hu)) λi1 i2=>?_;have ht:=(h t aE).term;refine⟨?_,?_⟩
  ·show(t::b9 r k).filter dO=t::r;rw[cD ht,i1]
  ·show mB (t::b9 r k)=k;rw[IR ht];exact i2
theorem DC:∀a b:List T,mB (a++b)=mB a+mB b
 |[],b=>by show mB b=0+mB b;lia
 |t::r,b=>by
  obtain⟨x,hx⟩:∃x,∀r,mB (t::r)=x+mB r:=⟨_,λ_=>rfl⟩;rw[kI,hx,hx,DC r b];lia
theorem Ab{n:Nat}:∀{Fs:List (List T×Int)},(∀t∈Fs.flatMap (·.1),Gt n t)->
  (∃Gs:List (List T×Int),(Fs.map fN).filter nz=Gs.map fN/\(∀G∈Gs,YJ G=false)/\Gs.flatMap (·.1)=Fs.flatMap (·.1)/\(Gs.map (·.2)).sum=(Fs.map (·.2)).sum/\Gs.length<=Fs.length)
 |[],_=>⟨[],rfl,by simp,rfl,rfl,cA _⟩
 |F::Fs,h=>by
  refine Ea (Ab (Fs:=Fs) λt ht=>h t (by rw[b8];exact jU _ ht)) λGs h1 h2 h3 h4 h5=>?_
  have hz:=PM (F:=F) λt ht=>h t (by rw[b8];exact gG _ ht)
  induction hF:YJ F using Bool.casesOn with
  |true=>
   rw[hF]at hz;obtain⟨e1,e2⟩:=aL.mp hF;have e1:=eI.mp e1;have e2:=aM e2;refine⟨Gs,?_,h2,?_,?_,by rw[bL];exact bD (jZ h5)⟩
   ·rw[bO,cV (by rw[hz];decide),h1]
   ·rw[b8,e1,h3];rfl
   ·rw[bO,eJ,e2,h4];lia
  |false=>
   rw[hF]at hz;refine⟨F::Gs,?_,λG hG=>?_,?_,?_,by rw[bL,bL];lia⟩
   ·rw[bO,cD (by rw[hz];rfl),h1];rfl
   ·clear hz h;rcases a7.mp hG with rfl|hG
    ·exact hF
    ·exact h2 G hG
   ·rw[b8,b8,h3]
   ·rw[bO,eJ,h4];rfl
theorem Ac{n:Nat}:∀{Gs:List (List T×Int)},(∀t∈Gs.flatMap (·.1),Gt n t)->(∀G∈Gs,YJ G=false)->(Gs.map fN).flatMap kS=Gs.flatMap (λG=>b9 G.1 G.2)/\((Gs.flatMap λG=>b9 G.1 G.2).filter dO=Gs.flatMap (·.1))/\mB (Gs.flatMap λG=>b9 G.1 G.2)=(Gs.map (·.2)).sum/\(Gs.flatMap λG=>b9 G.1 G.2).length<=(Gs.flatMap (·.1)).length+Gs.length
 |[],_,_=>⟨rfl,rfl,rfl,cA _⟩
 |F::Fs,h,hz=>by
  have hF:∀t∈F.1,Gt n t:=λt ht=>h t (by rw[b8];exact gG _ ht)
  refine uY (Ac (Gs:=Fs) (λt ht=>h t (by rw[b8];exact jU _ ht)) λG hG=>hz G (aI _ hG)) λh1 h2 h3 h4=>?_
  obtain⟨q1,q2⟩:=IU hF;refine⟨?_,?_,?_,?_⟩
  ·rw[bO,b8,h1,fN,Nk (uN hF) (Go (hz F aE)),b8]
  ·rw[b8,jK,q1,h2,b8]
  ·rw[b8,DC,q2,h3,bO,eJ]
  ·have:=iR F.1 F.2;rw[b8,b8,bU,bU,bL];lia
theorem Ad{n:Nat}{ts:List T}{k:Int}(h:∀t∈ts,Gt n t)(h2:2<=(b9 ts k).length):(T.sum (b9 ts k)).lo<(T.sum (b9 ts k)).hi:=by
 rw[ER,ES,z9,z8];have f5:ts≠[]:=λe=>by
  rw[e]at h2;have:=(iR [] k).2;simp at this;exact i7 _ (aZ (bT h2 rfl) this)
 have:=(Aa h).2 f5;lia
theorem oZ{n d:Nat}{Fs:List (List T×Int)}(hF:Fm n (Fs.flatMap (·.1)))(hl:Fs.length<=20)(hd:2*n+4<=d):
  aB fi d 204 [.lst ((Fs.map fN).map V.node)] []=some (.node (fN (Fs.flatMap (·.1),(Fs.map (·.2)).sum))):=by
 refine jC d (2*n+3) hd λd hd=>?_;obtain⟨d,rfl,_⟩:=up (K:=2) (d:=d) (bT hd rfl);clear right;obtain⟨d,rfl,_⟩:=up (K:=1) (d:=d) (by lia)
 refine Ea (Ab hF.gt) λGs h1 h2 h3 h4 h5=>?_;refine uY (Ac (Gs:=Gs) (by rw[h3];exact hF.gt) h2) λq1 q2 q3 q4=>?_
 have eW:=hF.len;have hG:∀G∈Gs,∀t∈G.1,Gt n t:=λG hG t ht=>hF.gt t (by rw[<-h3];exact List.mem_flatMap.mpr ⟨G,hG,ht⟩)
 have hsub:∀G∈Gs,G.1.length<=8:=λG hG=>by
  refine aR ?_ eW;rw[<-h3];exact List.Sublist.length_le (List.sublist_flatten_of_mem (fV (f:=(·.1)) hG))
 rw[c204 d (l:=Fs.map fN) (by rw[aT];exact iG hl rfl)]
 ·rw[h1];clear hsub hG h5 h1 q4;induction Gs using JE with
  |nil=>
   rw[<-h3,<-h4];rfl
  |one G=>
   rw[<-h3,<-h4];show some (V.node (fN G))=some (V.node (fN ([G].flatMap (·.1),([G].map (·.2)).sum)));rw[show([G].flatMap (·.1),([G].map (·.2)).sum)=G by simp]
  |two G H Gs=>
   show some (V.node (Jg (b9 ((((G::H::Gs).map fN).flatMap kS).filter dO) (mB (((G::H::Gs).map fN).flatMap kS)))))=_;rw[q1,q2,q3,h3,h4];rfl
 ·rw[h1];intro t ht;obtain⟨G,hm,rfl⟩:=bR.mp ht;have hs:=uN (hG G hm);have hl:=iR G.1 G.2;have:=hsub G hm;unfold fN;generalize b9 G.1 G.2=l at hs hl⊢
  match l,hs,hl with
  |[],_,_=>exact .inl rfl
  |[t],hs,_=>exact .inl (hs t aE)
  |a::b::r,hs,hl=>exact .inr ⟨_,rfl,by lia,hs⟩
 ·rw[h1,q1];intro t ht;obtain⟨G,hm,ht⟩:=List.mem_flatMap.mp ht;rcases pJ ht with ht|rfl
  ·exact .inr ((hG G hm t ht).tm (hd))
  ·exact .inl ⟨_,rfl⟩
 ·rw[h1,q1,q2,h3];exact hF.keys
 ·rw[h1,q1];clear hsub hG;rw[h3]at q4;lia
 ·rw[h1,q1];intro hl e;clear hsub hG q4 q3 q2 q1 h5 h4 h3 h1;match Gs,h2,hl with
  |G::Gs,h2,_=>
   rw[b8]at e;exact Go (h2 G aE) (gQ.mp e).1
 ·rw[h1,q1,q2,q3,h3,h4];exact λhl=>Ad hF.gt hl
set_option tactic.hygienic true
theorem uO(cf:cO)(t u:T):cG cf .Add (.node t) (.node u)=cf 100 [.node t,.node u] []:=rfl
theorem r9(cf:cO)(t:T)(y:Int):cG cf .Add (.node t) (.int y)=cf 100 [.node t,.int y] []:=by induction t using T.casesOn<;>rfl
theorem ET(cf:cO)(t:T)(y:Int):cG cf .Sub (.node t) (.int y)=cf 114 [.node t,.int y] []:=by induction t using T.casesOn<;>rfl
theorem YK(d:Nat)(t u:T):aB fi (d+1) 100 [.node t,.node u] []=(aB fi d 204 [.lst [.node t,.node u]] []).bind λv=>(a8 v [⟨true,.lst [.node t,.node u]⟩]).bind λq=>some q.1:=by induction u using T.casesOn<;>exact(cR rfl rfl rfl rfl).trans (by kernel_rfl)
theorem YL(d:Nat)(t:T)(b:Int):aB fi (d+1) 100 [.node t,.int b] []=(aB fi d 331 [.int b] []).bind λv=>(((a8 v []).bind λp=>(some ([],p.2)).map λq=>(p.1::q.1,q.2)).map λq=>(V.node t::q.1,q.2)).bind λv=>((a8 (V.own v.2.length) (v.2++[⟨false,.lst v.1⟩])).bind λp=>(some ([],p.2)).map λq=>(p.1::q.1,q.2)).bind λv=>(aB fi d 204 v.1 []).bind λx=>(a8 x v.2).bind λq=>some q.1:=(cR rfl rfl rfl rfl).trans (by kernel_rfl)
theorem PO(d:Nat)(t:T)(b:Int):aB fi (d+2) 100 [.node t,.int b] []=(aB fi (d+1) 204 [.lst [.node t,.node (.num b)]] []).bind λx=>(a8 x [⟨true,.lst [.node t,.node (.num b)]⟩]).bind λq=>some q.1:=by
 rw[YL,xS];rfl
theorem dY(b:Int):fN ([],b)=.num b:=by
 unfold fN b9;induction h:decide (b=0) using Bool.casesOn with
 |true=>rw[aM h];rfl
 |false=>rfl
theorem EU{n d:Nat}{F G:List T×Int}(h:Fm n (F.1++G.1))(hd:2*n+5<=d):aB fi d 100 [.node (fN F),.node (fN G)] []=some (.node (fN (F.1++G.1,F.2+G.2))):=by
 refine jC d (2*n+4) hd λd hd=>?_;rw[YK,show([V.node (fN F),V.node (fN G)]:List V)=([F,G].map fN).map V.node from rfl,oZ (n:=n) (by simpa using h) (by simp) (hd)]
 show some (V.node (fN ([F,G].flatMap (·.1),([F,G].map (·.2)).sum)))=_;simp
theorem Ae{n d:Nat}{F:List T×Int}{b:Int}(h:Fm n F.1)(hd:2*n+5<=d):aB fi d 100 [.node (fN F),.int b] []=some (.node (fN (F.1,F.2+b))):=by
 refine jC d (2*n+4) hd λd hd=>?_;obtain⟨d,rfl,_⟩:=up (K:=1) (d:=d) (bT hd rfl);rw[PO,<-dY b,show([V.node (fN F),V.node (fN ([],b))]:List V)=([F,([],b)].map fN).map V.node from rfl,oZ (n:=n) (by simpa using h) (by simp) (hd)]
 show some (V.node (fN ([F,([],b)].flatMap (·.1),([F,([],b)].map (·.2)).sum)))=_;simp
theorem sp114(d:Nat)(t:T)(b:Int):aB fi (d+1) 114 [.node t,.int b] []=(aB fi d 100 [.node t,.int (-b)] []).bind λv=>(a8 v []).bind λq=>some q.1:=by induction t using T.casesOn<;>exact(cR rfl rfl rfl rfl).trans (by kernel_rfl)
theorem YM{n d:Nat}{F:List T×Int}{b:Int}(h:Fm n F.1)(hd:2*n+6<=d):aB fi d 114 [.node (fN F),.int b] []=some (.node (fN (F.1,F.2+ -b))):=by
 refine jC d (2*n+5) hd λd hd=>?_;rw[sp114,Ae h (hd)];rfl
theorem QZ(d:Nat)(t:T)(b:Int):aB fi (d+1) 156 [.node t,.int b] []=bif decide (b=0)then(aB fi d 331 [V.int 0] []).bind λv=>(a8 v []).bind λv=>some v.1
else
 bif decide (b=1)then some (V.node t)
 else
  (aB fi d 471 [V.node t,V.int b] []).bind λv=>
   ((a8 v []).bind λp=>(some ([],p.2)).map (λq=>(p.fst::q.fst,q.snd))).bind λv=>
    (aB fi d 347 v.1 []).bind λv_1=>(a8 v_1 v.2).bind λv=>some v.1:=(cR rfl rfl rfl rfl).trans (by kernel_rfl)
theorem sp307(d:Nat)(c b:Int):aB fi (d+1) 307 [.node (.num c),.int b] []=(eY .Mult c b).bind λv=>((a8 v []).bind λp=>(some ([],p.2)).map λq=>(p.1::q.1,q.2)).bind λv=>(aB fi d 331 v.1 []).bind λx=>(a8 x v.2).bind λq=>some q.1:=(cR rfl rfl rfl rfl).trans (by kernel_rfl)
theorem sp432(d:Nat)(a:T)(c b:Int):aB fi (d+1) 432 [.node (.mul a c),.int b] []=(eY .Mult c b).bind λv=>(cG (aB fi d) .Mult (.node a) v).bind λv=>(a8 v []).bind λq=>some q.1:=(cR rfl rfl rfl rfl).trans (by kernel_rfl)
noncomputable def DD:X:=.bin .Mult (.var 0) (.var 2)
theorem sp612(d:Nat)(l:List T)(b:Int):aB fi (d+1) 612 [.node (.sum l),.int b] []=((bif Nat.ble (l.map V.node).length 1000 then some (l.map V.node,[])else none).bind λp=>(dH (bJ (aB fi d) 37) [0] [] [(1,.node (.sum l)),(2,.int b)] (fR (bJ (aB fi d) 37) DD) p.1 p.2).map λq=>gT (.lst q.1) q.2).bind λv=>
  ((a8 v.1 v.2).bind λp=>(some ([],p.2)).map λq=>(p.1::q.1,q.2)).bind λv=>(aB fi d 204 v.1 []).bind λx=>(a8 x v.2).bind λq=>some q.1:=(cR rfl rfl rfl rfl).trans (by kernel_rfl)
theorem mG{a b:Int}(h:jP (a*b)=true):eY .Mult a b=some (.int (a*b)):=by
 show(bif jP (a*b)then some (V.int (a*b))else none)=_;rw[h];rfl
noncomputable def tm(a:T)(c:Int):T:=bif decide (c=1)then a else .mul a c
theorem pK(cf:cO){a:T}(h:j5 a=true)(c:Int):cG cf .Mult (.node a) (.int c)=cf 156 [.node a,.int c] []:=by induction a using T.casesOn<;>first|(exact bX h;done)|rfl
theorem BV{n d:Nat}{a:T}{c:Int}(h:Nd n a)(hc:c≠0)(hb:c.natAbs<2^900)(hd:3<=d):aB fi d 156 [.node a,.int c] []=some (.node (tm a c)):=by
 refine jC d 2 hd λd hd=>?_;refine jC d 1 (hd) λd _=>?_;have r:=h.rng;have q:(2:Nat)^1800<2^1900:=by decide+kernel
 rw[QZ,cF (aK hc ..)];unfold tm;induction h1:decide (c=1) using Bool.casesOn with
 |true=>rfl
 |false=>
  rw[bG,c471 d r.1 (g9 (bA (oP (gZ r.1 (by exact cX r.2.1 r.2.2)) hb) q)) (g9 (bA (oP (gZ (by exact aO (aJ r.1 r.2.1)) r.2.2) hb) q))]
  show(aB fi (d+1) 347 [.node (.mul a c)] []).bind _=_;rw[P7 d]
  ·rfl
  ·rw[rZ,pI];by_cases h0:0<=c
   ·rw[aH h0];exact gP r.2.1 (by lia)
   ·rw[aK h0];exact Int.mul_lt_mul_of_neg_right r.2.1 (by exact nD.mp h0)
theorem PP(d:Nat)(a:T):aB fi (d+2) 156 [.node a,.int 0] []=some (.node (.num 0)):=by
 rw[QZ];show(aB fi (d+1) 331 [.int 0] []).bind _=_;rw[xS];rfl
def scl(c:Int)(t:T):T:=tm (jM t) (g8 t*c)
theorem EV{n:Nat}{t:T}{c:Int}(h:Gt n t)(hc:g8 t*c≠0)(hb:(g8 t*c).natAbs<2^900):Gt n (scl c t):=by
 unfold scl tm;induction h1:decide (g8 t*c=1) using Bool.casesOn with
 |true=>
  have ha:=h.at_;have e:jM (jM t)=jM t:=by revert ha;induction t using T.casesOn<;>first|(intro;rfl)|(rename_i a _;clear h1 hb hc h;induction a using T.casesOn<;>first|(intro;rfl)|(intro h;exact bX h))
  rw[bV];refine⟨by rw[e];exact h.nd,by rw[e];exact ha,λa k z=>?_,by rw[e];exact h.sz⟩
  rw[z]at ha;exact bX ha
 |false=>
  exact⟨h.nd,h.at_,λa k z=>by cases z;exact⟨hc,jI h1,hb⟩,h.sz⟩
theorem qB{t:T}{c:Int}(h:j5 (jM t)=true):jM (scl c t)=jM t/\g8 (scl c t)=g8 t*c:=by
 unfold scl tm;induction h1:decide (g8 t*c=1) using Bool.casesOn with
 |true=>
  rw[bV,aM h1];generalize jM t=a at h;induction a using T.casesOn<;>first|(exact bX h;done)|exact⟨rfl,rfl⟩
 |false=>exact⟨rfl,rfl⟩
set_option tactic.hygienic false
theorem fD(t:T):fN ([t],0)=t:=by
 unfold fN b9;show Jg ([t]++(bif decide ((0:Int)=0)then[]else _))=t;rw[aH rfl];rfl
theorem tA{n:Nat}{t:T}(h:Gt n t)(hm:∀a c,t≠.mul a c):jM t=t/\g8 t=1:=by
 induction t using T.casesOn with
 |mul a c=>exact absurd rfl (hm a c)
 |_=>exact⟨rfl,rfl⟩
theorem mul_t{n d:Nat}{t:T}{c:Int}(h:Gt n t)(hc:c≠0)(hb:(g8 t*c).natAbs<2^900)(hd:4<=d):cG (aB fi d) .Mult (.node t) (.int c)=some (.node (scl c t)):=by
 have q:(2:Nat)^900<2^1900:=by decide+kernel
 by_cases hm:∃a k,t=.mul a k
 ·obtain⟨a,k,rfl⟩:=hm;refine jC d 3 hd λd hd=>?_;refine Aq (h.mul a k rfl) λh0 _ _=>?_;have hb:(k*c).natAbs<2^900:=hb;show aB fi (d+1) 432 [.node (.mul a k),.int c] []=_;rw[sp432,bS (mG (g9 (bA hb q)) ..),pK (a:=a) _ h.at_,BV (a:=a) h.nd (nY h0 hc) hb (hd)];rfl
 ·obtain⟨e1,e2⟩:=tA h λa k e=>hm ⟨a,k,e⟩;have ha:=h.at_;have hn:=h.nd;unfold scl;rw[e1]at ha hn⊢;rw[e2,lV]at hb⊢;rw[pK _ ha,BV hn hc hb (bT hd rfl)]
theorem BW{d:Nat}{k c:Int}(hb:(k*c).natAbs<2^1900)(hd:2<=d):cG (aB fi d) .Mult (.node (.num k)) (.int c)=some (.node (.num (k*c))):=by
 refine jC d 1 hd λd hd=>?_;refine jC d 0 (hd) λd _=>?_;show aB fi (d+1+1) 307 [.node (.num k),.int c] []=_;rw[sp307,mG (g9 hb)];show(aB fi (d+1) 331 [.int (k*c)] []).bind _=_;rw[xS];rfl
theorem PQ(d:Nat)(v:V)(u:T)(c:Int):fR (bJ (aB fi d) 37) DD [(1,v),(2,.int c),(0,.node u)] []=((cG (aB fi d) .Mult (.node u) (.int c)).bind λx=>some (x,([]:Cs))).bind λx=>(a8 x.1 x.2).map λy=>([y.1],y.2):=by
 show((bJ (aB fi d) 37).ev DD [(1,v),(2,.int c),(0,.node u)] []).bind _=_;rw[D4];kernel_rfl
theorem Bg{d:Nat}{v:V}{c:Int}{g:T->T}:∀{l:List T},(∀u∈l,cG (aB fi d) .Mult (.node u) (.int c)=some (.node (g u)))->dH (bJ (aB fi d) 37) [0] [] [(1,v),(2,.int c)] (fR (bJ (aB fi d) 37) DD) (l.map V.node) []=some ((l.map g).map V.node,[])
 |[],_=>rfl
 |u::r,h=>by
  show((fR (bJ (aB fi d) 37) DD [(1,v),(2,.int c),(0,.node u)] []).bind λq=>(dH (bJ (aB fi d) 37) [0] [] [(1,v),(2,.int c)] (fR (bJ (aB fi d) 37) DD) (r.map V.node) q.2).map λz=>(q.1++z.1,z.2))=_;rw[PQ,h u aE];show(dH (bJ (aB fi d) 37) [0] [] [(1,v),(2,.int c)] (fR (bJ (aB fi d) 37) DD) (r.map V.node) []).map _=_;rw[Bg λu hu=>h u (aI _ hu)];rfl
theorem rL{x:Nat}{c:Int}{t:T}(h:j5 (jM t)=true):dS x (scl c t)↔dS x t:=by
 rw[<-rK,(qB h).1,rK]
theorem Fm.scl{n:Nat}{ts:List T}{c:Int}(h:Fm n ts)(hc:c≠0)(hb:∀t∈ts,(g8 t*c).natAbs<2^900):Fm n (ts.map (scl c)):=by
 refine⟨λu hu=>?_,?_,by rw[aT];exact h.len⟩
 ·obtain⟨t,ht,rfl⟩:=bR.mp hu;exact EV (h.gt t ht) (nY ((h.gt t ht).tm (d:=2*n+3) (cA _)).2 hc) (hb t ht)
 ·rw[qH];refine h.ap.imp_of_mem λ{a b} ha hb' q x hx h1 h2=>q x hx ((rL (h.gt a ha).at_).mp h1) ((rL (h.gt b hb').at_).mp h2)
def wV(c:Int):T->List T×Int
 |.num k=>([],k*c)
 |t=>([scl c t],0)
theorem Bh{c:Int}{t:T}(h:dO t=true):wV c t=([scl c t],0):=by induction t using T.casesOn<;>first|(exact bX h;done)|rfl
theorem DE{c:Int}{k:Int}:∀{ts:List T},(∀t∈ts,dO t=true)->((b9 ts k).map (wV c)).flatMap (·.1)=ts.map (scl c)/\(((b9 ts k).map (wV c)).map (·.2)).sum=k*c
 |[],_=>by
  unfold b9;induction h:decide (k=0) using Bool.casesOn with
  |true=>rw[aM h];simp
  |false=>simp[wV]
 |t::r,h=>by
  obtain⟨h1,h2⟩:=DE (c:=c) (k:=k) (ts:=r) λu hu=>h u (aI _ hu);show((wV c t::(b9 r k).map (wV c)).flatMap (·.1))=_/\((wV c t::(b9 r k).map (wV c)).map (·.2)).sum=_;rw[Bh (h t aE),b8,h1,bO (f:=λx:List T×Int=>x.2),eJ,h2];exact⟨rfl,by show 0+k*c=_;lia⟩
theorem DF{n d:Nat}{F:List T×Int}{c:Int}(h:Fm n F.1)(hc:c≠0)(hb:∀t∈F.1,(g8 t*c).natAbs<2^900)(hk:(F.2*c).natAbs<2^900)(hd:2*n+5<=d):
  cG (aB fi d) .Mult (.node (fN F)) (.int c)=some (.node (fN (F.1.map (scl c),F.2*c))):=by
 have q:(2:Nat)^900<2^1900:=by decide+kernel
 obtain⟨ts,k⟩:=F;have mem:∀d',4<=d'->∀u∈b9 ts k,cG (aB fi d') .Mult (.node u) (.int c)=some (.node (fN (wV c u))):=λd' hd' u hu=>by
  rcases pJ hu with hu|rfl
  ·rw[Bh (h.gt u hu).term,fD,mul_t (h.gt u hu) hc (hb u hu) hd']
  ·rw[BW (bA hk q) (bT hd' rfl)];show _=some (V.node (fN ([],k*c)));rw[dY]
 obtain⟨q1,q2⟩:=DE (c:=c) (k:=k) λt ht=>(h.gt t ht).term;have hl:=iR ts k;have eW:ts.length<=8:=h.len;have hg:=h.scl hc hb;unfold fN;show cG (aB fi d) .Mult (.node (Jg (b9 ts k))) (.int c)=some (.node (fN (ts.map (scl c),k*c)));rw[<-q1]at hg⊢;rw[<-q2];generalize b9 ts k=l at mem hl hg⊢;induction l using JE with
 |nil=>
  show cG (aB fi d) .Mult (.node (.num 0)) (.int c)=_;rw[BW (by rw[mJ];decide+kernel) (bT hd rfl),mJ]
  show _=some (V.node (fN ([],0)));rw[dY]
 |one u=>
  show cG (aB fi d) .Mult (.node u) (.int c)=_;rw[mem d (bT hd rfl) u aE];simp
 |two a b r=>
  refine jC d (2*n+4) hd λd hd=>?_;show aB fi (d+1) 612 [.node (.sum (a::b::r)),.int c] []=_;rw[sp612,aT,aV (by simp at hl⊢;exact bD (bA (d7 hl.2) (iM eW rfl)))]
  show((dH (bJ (aB fi d) 37) [0] [] [(1,.node (.sum (a::b::r))),(2,.int c)] (fR (bJ (aB fi d) 37) DD) ((a::b::r).map V.node) []).map _).bind _=_;rw[Bg (g:=λu=>fN (wV c u)) λu hu=>mem d (bT hd rfl) u hu];show(aB fi d 204 [.lst (((a::b::r).map λu=>fN (wV c u)).map V.node)] []).bind _=_;rw[show((a::b::r).map λu=>fN (wV c u))=((a::b::r).map (wV c)).map fN by rw[iW];rfl,oZ (n:=n) hg (by rw[aT];simp at hl⊢;exact bD (bA (d7 hl.2) (iM eW rfl))) (hd)]
  rfl
noncomputable def YN:List Y:=[Y.asg2 41 2 (X.var 2) (X.bin .Mod (X.var 41) (X.var 2))]
theorem sp35(d:Nat)(a b:Int):aB fi (d+1) 35 [.int a,.int b] []=nK (mU (bJ (aB fi d) 39) (.var 2) YN 2000 [(41,.int a),(2,.int b)] []) kR λenv cs=>dR (R4 d) (f35.body.drop 1) env cs kR kN:=(cR rfl rfl rfl rfl).trans (by kernel_rfl)
theorem Nl(d n:Nat)(a b:Int)(hb:b≠0)(hf:jP b=true):mU (bJ (aB fi d) 39) (.var 2) YN (n+1) [(41,.int a),(2,.int b)] []=mU (bJ (aB fi d) 39) (.var 2) YN n [(41,.int b),(2,.int (Int.fmod a b))] []:=by
 show(bif !decide (b=0)then(uI (bJ (aB fi d) 39) YN [(41,.int a),(2,.int b)] []).bind _ else _)=_;rw[aK hb,show uI (bJ (aB fi d) 39) YN [(41,.int a),(2,.int b)] []=(bif !decide (b=0)&&jP b then some (V.int (Int.fmod a b))else none).bind λv=>some (none,[(41,.int b),(2,v)],[])from(AY ..).trans (by kernel_rfl),aK hb,hf]
 rfl
theorem Ra(d n:Nat)(a:Int):mU (bJ (aB fi d) 39) (.var 2) YN (n+1) [(41,.int a),(2,.int 0)] []=some (none,[(41,.int a),(2,.int 0)],[]):=by kernel_rfl
theorem Nn(d:Nat):∀(k n:Nat) (a b:Nat),b<2^k->k<=900->2*k+1<=n->∃g:Nat,g=Nat.gcd a b/\mU (bJ (aB fi d) 39) (.var 2) YN n [(41,.int a),(2,.int b)] []=some (none,[(41,.int g),(2,.int 0)],[])
 |k,n,a,b,hb,hk,hn=>by
  obtain⟨n,rfl,hn⟩:=up (K:=2*k) (d:=n) hn;by_cases h0:b=0
  ·clear hb;subst h0;exact⟨a,(Nat.gcd_zero_right a).symm,Ra d n a⟩
  ·have ft:∀m:Nat,m<=b->jP (m:Int)=true:=λm hm=>g9 (by
    show(m:Int).natAbs<_;rw[Int.natAbs_natCast];exact aP hm (bA (aZ hb (eQ (by decide) hk)) (by decide+kernel)))
   have fm:∀x y:Nat,Int.fmod (x:Int) (y:Int)=((x%y:Nat):Int):=λx y=>by rw[aS _ (g5 y)];rfl
   match k,hb,hk,hn with
   |0,hb,_,_=>simp at hb;exact absurd hb h0
   |k+1,hb,hk,hn=>
    have hlt:a%b<b:=Nat.mod_lt _ (lQ h0);rw[Nl d n a b (by simpa using h0) (ft b (cA _)),fm]
    by_cases h1:a%b=0
    ·refine jC n 0 (by exact bT (by assumption) (by rfl)) λn _=>?_
     rw[h1];refine⟨b,?_,Ra d n b⟩;rw[oU,Nat.gcd_rec,h1,Nat.gcd_zero_left]
    ·obtain⟨n,rfl,_⟩:=up (K:=0) (d:=n) (by exact bT (by assumption) (by rfl))
     rw[Nl d n b (a%b:Nat) (λz=>h1 (Int.ofNat_eq_zero.mp z)) (ft _ (bD hlt)),fm];have h2:b%(a%b)<2^k:=by
      have q1:b%(a%b)<a%b:=Nat.mod_lt _ (lQ h1);have q2:b%(a%b)<=b-a%b:=by
       have:=Nat.mod_add_div b (a%b);have h3:1<=b/(a%b):=Nat.div_pos (bD hlt) (lQ h1);have h4:(a%b)*1<=(a%b)*(b/(a%b)):=d5 _ h3;lia
      clear hn right h1 hk;rw[Nat.pow_succ]at hb;exact JF hb hlt q1 q2
     refine i8 (Nn d k n (a%b) (b%(a%b)) h2 (by exact bD (d7 hk)) (by lia)) λg hg e=>?_
     refine⟨g,?_,e⟩;rw[hg,oU,<-Nat.gcd_rec,oU (a%b) b,oU b (a%b),<-Nat.gcd_rec,oU]
theorem No{d:Nat}{a b:Nat}(hb:b<2^900)(hd:1<=d):aB fi d 35 [.int a,.int b] []=some (.int (Nat.gcd a b:Nat)):=by
 refine jC d 0 hd λd _=>?_;refine i8 (Nn d 900 2000 a b hb (cA _) (by lia)) λg hg e=>?_
 rw[sp35,e,hg];show dR (R4 d) (f35.body.drop 1) [(41,.int (Nat.gcd a b:Nat)),(2,.int 0)] [] kR kN=_;exact(show _=some (V.int (((Nat.gcd a b:Nat):Int).natAbs:Nat)) by kernel_rfl).trans (by rw[Int.natAbs_natCast])
def uX(d:Nat)(t:T)(b:Int):Option V:=(gU t .floordiv).bind λf=>aB fi d f [.node t,.int b] []
theorem oR(d:Nat)(t:T)(b:Int):cG (aB fi d) .FloorDiv (.node t) (.int b)=uX d t b:=rfl
noncomputable def m8(t:T)(b:Int)(f:Bool):Ev:=[(1,.node t),(2,.int b),(7,.bool f)]
def m185:List Y:=match xQ.body.drop 2 with
 |Y.ite _ a _::_=>a
 |_=>[]
def Np:List Y:=match xQ.body.drop 4 with
 |Y.ite _ a _::_=>a
 |_=>[]
theorem wW(d:Nat)(t:T)(b:Int):aB fi (d+1) 185 [.node t,.int b] []=dR (R4 d) xQ.body (m8 t b true) [] kR kN:=cR rfl rfl rfl rfl
theorem Nq(d:Nat)(t:T)(b:Int)(f:Bool):aB fi (d+1) 185 [.node t,.int b,.bool f] []=dR (R4 d) xQ.body (m8 t b f) [] kR kN:=cR rfl rfl rfl rfl
theorem YO(d:Nat)(t:T)(b:Int)(f:Bool):aB fi (d+1) 185 [.node t,.int b] [(7,.bool f)]=dR (R4 d) xQ.body (m8 t b f) [] kR kN:=cR rfl rfl rfl rfl
theorem Rb(d:Nat)(t:T)(b:Int)(f:Bool):dR (R4 d) xQ.body (m8 t b f) [] kR kN=
  bif !decide (b=0)then bif decide (b<0)then dR (m4 (aB fi d) 39) m185 (m8 t b f) [] kR (λenv cs=>dR (R4 d) (xQ.body.drop 3) env cs kR kN)
   else bif decide (b=1)then some (.node t)else bif decide (t.lo<0)then dR (m4 (aB fi d) 39) Np (m8 t b f) [] kR (λenv cs=>dR (R4 d) (xQ.body.drop 5) env cs kR kN)
   else(aB fi d 512 [V.node t,V.int b] []).bind λv=>((a8 v []).bind λp=>(some ([],p.2)).map (λq=>(p.fst::q.fst,q.snd))).bind λv=>(aB fi d 347 v.1 []).bind λv_1=>(a8 v_1 v.2).bind λv=>some v.1
  else none:=by kernel_rfl
theorem YQ(d:Nat)(t:T)(b:Int)(f:Bool)(K:Ev->Cs->Option V):dR (m4 (aB fi d) 39) Np (m8 t b f) [] kR K=(eY .FloorDiv t.lo b).bind λo=>dR (m4 (aB fi d) 39) (Np.drop 1) (m8 t b f++[(25,o)]) [] kR K:=by kernel_rfl
theorem YR(d:Nat)(t:T)(b o:Int)(f:Bool)(K:Ev->Cs->Option V):dR (m4 (aB fi d) 39) (Np.drop 1) (m8 t b f++[(25,.int o)]) [] kR K=(eY .Mult (-o) b).bind λm=>(cG (aB fi d) .Add (.node t) m).bind λv=>bif !jQ v .floordiv []then none else zX (aB fi d) v .floordiv [.int b] [(7,.bool false)] [] λp cs=>(cG (aB fi d) .Add p (.int o)).bind λv=>(a8 v cs).bind λq=>some q.1:=by kernel_rfl
theorem m9{a b:Int}(hb:b≠0)(hf:jP b=true):eY .FloorDiv a b=some (.int (Int.fdiv a b)):=by
 show(bif !decide (b=0)&&jP b then some (V.int (Int.fdiv a b))else none)=_;rw[aK hb,hf];rfl
theorem jT{a b:Int}(hb:b≠0)(hf:jP b=true):eY .Mod a b=some (.int (Int.fmod a b)):=by
 show(bif !decide (b=0)&&jP b then some (V.int (Int.fmod a b))else none)=_;rw[aK hb,hf];rfl
theorem nA{x y b:Int}(hb:0<b)(h:x<=y):Int.fdiv x b<=Int.fdiv y b:=by
 rw[aG _ (aO hb),aG _ (aO hb)];exact Int.ediv_le_ediv hb h
noncomputable def NS(t:T)(b:Int):T:=bif decide (Int.fdiv t.lo b=Int.fdiv t.hi b)then .num (Int.fdiv t.lo b)else .div t b
theorem pL{d:Nat}{t:T}{b:Int}{f:Bool}(h0:0<=t.lo)(hlh:t.lo<=t.hi)(hb:2<=b)(hf:jP b=true)(hd:2<=d):dR (R4 d) xQ.body (m8 t b f) [] kR kN=some (.node (NS t b)):=by
 refine jC d 1 hd λd _=>?_;refine jC d 0 (by assumption) λd _=>?_
 rw[Rb,aK (by exact aQ (iB hb rfl):¬b=0),aK (by exact jJ.mpr (iA hb rfl):¬b<0),aK (by exact aQ (iB hb rfl):¬b=1),aK (by exact jJ.mpr h0:¬t.lo<0),c512 (d+1) h0 (by exact aQ (iB hb rfl)) hf]
 show(aB fi (d+1+1) 347 [.node (.div t b)] []).bind _=_;unfold NS;have hm:=nA (b:=b) (by exact iB hb rfl) hlh
 by_cases h:Int.fdiv t.lo b=Int.fdiv t.hi b
 ·rw[aH h,c347n d (by rw[r6,s7];exact h),r6];rfl
 ·rw[aK h,P7 (d+1) (by rw[r6,s7];exact CB hm h)];rfl
theorem tB(d:Nat)(t:T)(f:Bool):dR (R4 d) xQ.body (m8 t 1 f) [] kR kN=some (.node t):=by kernel_rfl
theorem Gq{d:Nat}{n b:Int}{f:Bool}(h0:0<=n)(hb:1<=b)(hf:jP b=true)(hd:2<=d):dR (R4 d) xQ.body (m8 (.num n) b f) [] kR kN=some (.node (.num (Int.fdiv n b))):=by
 by_cases h1:b=1
 ·clear hf hb;subst h1;rw[tB,show Int.fdiv n 1=n by rw[aG _ (by decide),Int.ediv_one]]
 ·have el:(T.num n).lo=n:=by rw[T.lo]
  have eh:(T.num n).hi=n:=by rw[T.hi]
  rw[pL (by rw[el];exact h0) (by rw[el,eh];exact fI n) (by lia) hf hd]
  unfold NS;rw[el,eh,aH rfl];rfl
theorem Fm.nil(n:Nat):Fm n []:=⟨by simp,.nil,by simp⟩
theorem BX{d:Nat}{n b:Int}(hb:1<=b)(hf:jP b=true)(hf2:jP (-Int.fdiv n b*b)=true)(hd:8<=d):aB fi d 185 [.node (.num n),.int b] []=some (.node (.num (Int.fdiv n b))):=by
 refine jC d 7 hd λd _=>?_;rw[wW];by_cases h0:0<=n
 ·exact Gq h0 hb hf (by exact bT (by assumption) (by rfl))
 by_cases h1:b=1
 ·clear hf2 hf hb;subst h1;rw[tB,show Int.fdiv n 1=n by rw[aG _ (by decide),Int.ediv_one]]
 have el:(T.num n).lo=n:=by rw[T.lo]
 have e2:Int.fdiv n b=n/b:=aG _ (by exact iA hb rfl)
 have e3:=dB n b;have e4:=eE n (by exact aQ (iB hb rfl):b≠0)
 have e5:=dW n (by exact hb:0<b)
 rw[Rb,aK (by exact aQ (iB hb rfl):¬b=0),aK (by exact jJ.mpr (iA hb rfl):¬b<0),aK h1,aH (by rw[el];exact nD.mp h0:(T.num n).lo<0)]
 show dR (m4 (aB fi d) 39) Np (m8 (.num n) b true) [] kR _=_;rw[YQ,bS (m9 (by exact aQ (iB hb rfl)) hf ..),el,YR,bS (mG hf2 ..),r9,<-dY n,bS (Ae (n:=0) (F:=([],n)) (Fm.nil 0) (by exact bT (by assumption) (by rfl)) ..)]
 have e6:n+ -Int.fdiv n b*b=n%b:=by
  rw[e2,Int.neg_mul,d8 (n/b) b];lia
 show(bif !jQ (.node (fN ([],n+ -Int.fdiv n b*b))) .floordiv []then none else _)=_;rw[dY,e6];refine jC d 6 (by assumption) λd _=>?_
 show(aB fi (d+1) 185 [.node (.num (n%b)),.int b] [(7,.bool false)]).bind _=_;rw[YO,bS (Gq e4 hb hf (by exact bT (by assumption) (by rfl)) ..)]
 show(cG (aB fi (d+1)) .Add (.node (.num (Int.fdiv (n%b) b))) (.int (Int.fdiv n b))).bind _=_;rw[r9,<-dY,Ae (n:=0) (F:=([],Int.fdiv (n%b) b)) (Fm.nil 0) (by lia)]
 show some (V.node (fN ([],Int.fdiv (n%b) b+Int.fdiv n b)))=_;rw[dY,aG (n%b) (by exact iA hb rfl:0<=b),cS e4 e5,cY,<-dY]
theorem Nr(d:Nat)(t:T)(c b:Int):aB fi (d+1) 488 [.node (.div t c),.int b] []=(eY .Mult c b).bind λv=>(cG (aB fi d) .FloorDiv (.node t) v).bind λv=>(a8 v []).bind λq=>some q.1:=(cR rfl rfl rfl rfl).trans (by kernel_rfl)
theorem Rc(d:Nat)(t:T)(c b:Int):aB fi (d+1) 536 [.node (.mod t c),.int b] []=(eY .Mod c b).bind λv=>(j3 (aB fi d) .Eq v (.int 0)).bind λv=>(eM v []).bind λv=>
   bif v then(uX d t b).bind λv=>(eY .FloorDiv c b).bind λw=>(cG (aB fi d) .Mod v w).bind λv=>(a8 v []).bind λq=>some q.1
   else(aB fi d 185 [V.node (t.mod c),V.int b,V.bool true] []).bind λv=>(a8 v []).bind λv=>some v.1:=(cR rfl rfl rfl rfl).trans (by kernel_rfl)
theorem Rd(d:Nat)(t:T)(c b:Int):aB fi (d+1) 440 [.node (.mul t c),.int b] []=(eY .Mod c b).bind λv=>(j3 (aB fi d) .Eq v (.int 0)).bind λv=>(eM v []).bind λv=>
   bif v then(eY .FloorDiv c b).bind λv=>(cG (aB fi d) .Mult (V.node t) v).bind λv=>(a8 v []).bind λv=>some v.1
   else(eY .Mod b c).bind λv=>(j3 (aB fi d) .Eq v (.int 0)).bind λv=>(eM v []).bind λv=>
    bif v then bif decide (0<c)then(eY .FloorDiv b c).bind λv=>(cG (aB fi d) .FloorDiv (V.node t) v).bind λv=>(a8 v []).bind λv=>some v.1
      else(aB fi d 185 [V.node (t.mul c),V.int b,V.bool false] []).bind λv=>(a8 v []).bind λv=>some v.1
    else(aB fi d 185 [V.node (t.mul c),V.int b,V.bool false] []).bind λv=>(a8 v []).bind λv=>some v.1:=(cR rfl rfl rfl rfl).trans (by kernel_rfl)
theorem Nt(d:Nat)(t:T)(b:Int):aB fi (d+1) 199 [.node t,.int b] []=bif decide (0<b)then
 bif decide (b=1)then(aB fi d 331 [V.int 0] []).bind λv=>(a8 v []).bind λv=>some v.1
 else
  (eY .FloorDiv t.lo b).bind λv=>(eY .FloorDiv t.hi b).bind λv_1=>(j3 (aB fi d) .Eq v v_1).bind λv=>(eM v []).bind λv=>
      bif v then
       (eY .FloorDiv t.lo b).bind λv=>(cG (aB fi d) .Mult (V.int b) v).bind λv=>(cG (aB fi d) .Sub (V.node t) v).bind λv=>(a8 v []).bind λv=>some v.1
      else
       bif decide (t.lo<0)then
        (eY .FloorDiv t.lo b).bind λv=>(cG (aB fi d) .Mult v (V.int b)).bind λv=>(cG (aB fi d) .Sub (V.node t) v).bind λv=>(cG (aB fi d) .Mod v (V.int b)).bind λv=>(a8 v []).bind λv=>some v.1
       else
        (aB fi d 560 [V.node t,V.int b] []).bind λv=>((a8 v []).bind λp=>(some ([],p.2)).map (λq=>(p.fst::q.fst,q.snd))).bind
          λv=>(aB fi d 347 v.1 []).bind λv_2=>(a8 v_2 v.2).bind λv=>some v.1
else none:=(cR rfl rfl rfl rfl).trans (by kernel_rfl)
theorem tX(d:Nat)(t:T):aB fi (d+2) 199 [.node t,.int 1] []=some (.node (.num 0)):=by
 rw[Nt];show(aB fi (d+1) 331 [.int 0] []).bind _=_;rw[xS];rfl
theorem x8{d:Nat}{t:T}{m:Int}(h0:0<=t.lo)(hlh:t.lo<=t.hi)(hm:2<=m)(hf:jP m=true)(h2:Int.fdiv t.lo m<Int.fdiv t.hi m)(hd:2<=d):aB fi d 199 [.node t,.int m] []=some (.node (.mod t m)):=by
 refine jC d 1 hd λd _=>?_;refine jC d 0 (by assumption) λd _=>?_
 conv=>lhs;rw[Nt,aH (by exact iB hm rfl:0<m),aK (by exact aQ (iB hm rfl):¬m=1),m9 (by exact aQ (iB hm rfl)) hf,m9 (by exact aQ (iB hm rfl)) hf,bV,bG,aF,aF,mD,aF,fU,aF,aK (by exact iV h2:¬Int.fdiv t.lo m=Int.fdiv t.hi m),aK (by exact jJ.mpr h0:¬t.lo<0),c560 d h0 (by exact aQ (iB hm rfl)) hf]
 show(aB fi (d+1) 347 [.node (.mod t m)] []).bind _=_;obtain⟨e1,e2⟩:=m7 (by exact iB hm rfl) h2 hlh
 rw[P7 d (by rw[uL,uM,e1,e2];lia)];rfl
theorem x9{n d:Nat}{F:List T×Int}{m:Int}(h:Fm n F.1)(hm:2<=m)(hf:jP m=true)(he:Int.fdiv (fN F).lo m=Int.fdiv (fN F).hi m)(hf2:jP (m*Int.fdiv (fN F).lo m)=true)(hd:2*n+7<=d):
  aB fi d 199 [.node (fN F),.int m] []=some (.node (fN (F.1,F.2+ -(m*Int.fdiv (fN F).lo m)))):=by
 refine jC d (2*n+6) hd λd _=>?_;conv=>lhs;rw[Nt,aH (by exact iB hm rfl:0<m),aK (by exact aQ (iB hm rfl):¬m=1),m9 (by exact aQ (iB hm rfl)) hf,m9 (by exact aQ (iB hm rfl)) hf,bV,bG,aF,aF,mD,aF,fU,aF,aH he,bV,aF,
  show cG (aB fi d) .Mult (.int m) (.int (Int.fdiv (fN F).lo m))=some (.int (m*Int.fdiv (fN F).lo m))from mG hf2,aF,ET,YM h (by assumption)]
 rfl
mutual
noncomputable def T.vc:T->Nat
 |.num _=>0
 |.var ..=>1
 |.mul a _=>a.vc
 |.div a _=>a.vc
 |.mod a _=>a.vc
 |.sum l=>T.vcs l
noncomputable def T.vcs:List T->Nat
 |[]=>0
 |t::r=>t.vc+T.vcs r
end
theorem vcs_n:T.vcs []=0:=rfl
theorem vcs_c{t:T}{r:List T}:T.vcs (t::r)=t.vc+T.vcs r:=rfl
theorem vc_num{n:Int}:(T.num n).vc=0:=rfl
theorem vc_var{e:Str}{l h:Int}:(T.var e l h).vc=1:=rfl
theorem vc_mul{a:T}{b:Int}:(T.mul a b).vc=a.vc:=rfl
theorem vc_div{a:T}{b:Int}:(T.div a b).vc=a.vc:=rfl
theorem vc_mod{a:T}{b:Int}:(T.mod a b).vc=a.vc:=rfl
theorem vc_sum{l:List T}:(T.sum l).vc=T.vcs l:=rfl
def frB:T->Bool
 |.var ..=>true
 |.mod y _=>vR y
 |.div x _=>match x with
  |.var ..=>true
  |.mod y _=>vR y
  |_=>false
 |_=>false
structure Fr(a:T):Prop where
 nd:Nd 3 a
 b:frB a=true
structure ResA(a:T)(b:Int)(r:T):Prop where
 lo:r.lo=Int.fdiv a.lo b
 hi:r.hi=Int.fdiv a.hi b
 or_:(∃n,r=.num n)\/(Fr r/\∀c,dS c r->dS c a)
theorem Nd.mono{n:Nat}{t:T}(h:Nd n t):∀{m:Nat},n<=m->Nd m t:=by
 induction h with
 |var h1 h2 h3 h4=>exact λ_=>.var h1 h2 h3 h4
 |div h1 h2 h3 ih=>intro m hm;obtain⟨m,rfl,hm⟩:=up hm;exact .div (ih (by assumption)) h2 h3
 |mod h1 h2 h3 h4 ih=>intro m hm;obtain⟨m,rfl,hm⟩:=up hm;exact .mod (ih (by assumption)) h2 h3 h4
 |mul h1 h2 h3 h4 ih=>intro m hm;obtain⟨m,rfl,hm⟩:=up hm;exact .mul (ih (by assumption)) h2 h3 h4
 |sum h1 h2 h3 h4 h5 h6 h7 h8 ih=>intro m hm;obtain⟨m,rfl,hm⟩:=up hm;exact .sum (λt ht=>ih t ht (by assumption)) h2 h3 h4 h5 h6 h7 h8
set_option tactic.hygienic true
theorem YS{a b:Int}(ha:0<=a)(ha2:a<BM)(hb:0<=b)(fX:b<BM):jP (a*b)=true:=g9 (bA (oP (gZ ha ha2) (gZ hb fX)) (by decide+kernel))
theorem j6{a:Int}(ha:0<=a)(ha2:a<BM):jP a=true:=g9 (bA (gZ ha ha2) (by decide+kernel))
theorem kG{x a b:Int}(ha:0<a)(hb:0<b):Int.fdiv (Int.fdiv x a) b=Int.fdiv x (a*b):=by
 rw[aG _ (aO ha),aG _ (aO hb),aG _ (eO (aO ha) (aO hb)),Int.ediv_ediv_of_nonneg (aO ha)]
theorem lU(x:Int):Int.fdiv x 1=x:=by rw[aG _ (by decide),Int.ediv_one]
theorem yA{n:Nat}{t:T}{b:Int}(h:Nd n t)(hb:2<=b):((NS t b).lo=Int.fdiv t.lo b/\(NS t b).hi=Int.fdiv t.hi b)/\((∃k,NS t b=.num k)\/(NS t b=.div t b/\Nd (n+1) (.div t b))):=by
 have r:=h.rng;have hm:=nA (b:=b) (by exact iB hb rfl) (aO r.2.1)
 unfold NS;by_cases e:Int.fdiv t.lo b=Int.fdiv t.hi b
 ·rw[aH e];exact⟨⟨by show(T.num _).lo=_;rw[T.lo],by show(T.num _).hi=_;rw[T.hi];exact e⟩,.inl ⟨_,rfl⟩⟩
 ·rw[aK e];exact⟨⟨r6 t b,s7 t b⟩,.inr ⟨rfl,.div h hb (CB hm e)⟩⟩
structure ResV(a:T)(b:Int)(r:T):Prop where
 lo:r.lo=Int.fdiv a.lo b
 hi:r.hi=Int.fdiv a.hi b
 or_:(∃n,r=.num n)\/(vR r=true/\Nd 1 r/\∀c,dS c r->dS c a)
theorem Gr{d:Nat}{e:Str}{l h b:Int}{n:Nat}(hn:Nd n (.var e l h))(hb:1<=b)(hf:jP b=true)(hd:3<=d):∃r,uX d (.var e l h) b=some (.node r)/\ResV (.var e l h) b r:=by
 refine jC d 2 hd λd _=>?_;have h0:Nd 0 (.var e l h):=hn.var0;show ∃r,aB fi (d+1) 185 [.node (.var e l h),.int b] []=_/\_;rw[wW];by_cases h1:b=1
 ·clear hf hb;subst h1;exact⟨_,tB d _ _,by rw[lU],by rw[lU],.inr ⟨rfl,h0.mono (by lia),λ_ z=>z⟩⟩
 ·have r:=h0.rng;obtain⟨⟨q1,q2⟩,q3⟩:=yA h0 (b:=b) (by lia)
  refine⟨_,pL r.1 (aO r.2.1) (by(first|assumption|exact bT (by assumption) (by rfl)|lia|omega)) hf (by(first|assumption|exact bT (by assumption) (by rfl)|lia|omega)),q1,q2,q3.imp_right λ⟨e1,e2⟩=>?_⟩
  rw[e1];exact⟨rfl,e2,λc z=>by rw[dS]at z;exact z⟩
theorem EW{d:Nat}{y:T}{b:Int}{n:Nat}(hn:Nd n y)(hv:vR y=true)(hb:1<=b)(fX:b<BM)(hd:5<=d):∃r,uX d y b=some (.node r)/\ResV y b r:=by
 induction y using T.casesOn with
 |var e l h=>exact Gr hn hb (j6 (by exact iA hb rfl) fX) (bT hd rfl)
 |div x b1=>
  induction x using T.casesOn<;>first|(exact bX hv;done)|skip
  rename_i e l h
  exact hn.divI λn hx h1 h2=>by
   have r:=hx.rng
   have hb1:=lN r.1 (aO r.2.1) (by exact iB h1 rfl) h2
   refine jC d 4 hd λd _=>?_
   have ft:jP (b1*b)=true:=YS (by exact iA h1 rfl) (by exact aJ hb1 r.2.2) (by exact iA hb rfl) fX
   refine i8 (Gr (d:=d) hx (b:=b1*b) (by have:=dN (show 1<=b by exact hb) (show 0<=b1 by exact iA h1 rfl);(first|assumption|exact bT (by assumption) (by rfl)|lia|omega)) ft (by(first|assumption|exact bT (by assumption) (by rfl)|lia|omega))) λr' e1 e2=>?_
   refine⟨r',?_,?_⟩
   ·show aB fi (d+1) 488 [.node (.div (.var e l h) b1),.int b] []=_
    rw[Nr,bS (mG ft ..),oR,e1];rfl
   ·refine⟨?_,?_,e2.or_.imp_right λ⟨q1,q2,q3⟩=>⟨q1,q2,λc z=>?_⟩⟩
    ·rw[e2.lo,r6,kG (by exact iB h1 rfl) (hb)]
    ·rw[e2.hi,s7,kG (by exact iB h1 rfl) (hb)]
    ·rw[dS];exact q3 c z
 |_=>exact bX hv
theorem Af(d:Nat){y:T}(hv:vR y=true)(m:Int):cG (aB fi d) .Mod (.node y) (.int m)=aB fi d 199 [.node y,.int m] []:=by
 induction y using T.casesOn<;>first|(exact bX hv;done)|rfl
theorem Nu{y:T}(h:vR y=true):frB y=true:=by
 induction y using T.casesOn with
 |var=>rfl
 |div x b=>induction x using T.casesOn<;>first|(exact bX h;done)|rfl
 |_=>(first|exact aY h|exact bX h|exact jA h|obtain rfl:=aC h|cases h)
theorem Gu{d:Nat}{y:T}{m b:Int}{n:Nat}(hn:Nd n (.mod y m))(hb:1<=b)(fX:jP b=true)(hd:7<=d):∃r,uX d (.mod y m) b=some (.node r)/\ResA (.mod y m) b r:=by
 refine jC d 6 hd λd _=>?_
 exact hn.modI λn hy hv h1 h2=>by
  have r:=hy.rng
  have hm:=lN r.1 (aO r.2.1) (by exact iB h1 rfl) h2
  have hM:=(Nd.mod hy hv h1 h2).rng
  obtain⟨e1,e2⟩:=m7 (by exact iB h1 rfl) h2 (aO r.2.1)
  show ∃r,aB fi (d+1) 536 [.node (.mod y m),.int b] []=_/\_
  rw[Rc,bS (jT (by exact aQ (iB hb rfl)) fX ..),bS (mD ..),bS (fU ..)]
  by_cases hdv:b∣m
  ·have hb4:b<BM:=by have:=eR (by exact iB h1 rfl) hdv;exact aJ (a6 this hm) r.2.2
   obtain⟨q,rfl⟩:=hdv
   have hq:1<=q:=by
    rcases eL q 1 with z|z
    ·have:=bY (show 0<=b by exact iA hb rfl) (show q<=0 by exact iK z rfl);lia
    ·exact z
   rw[cT (aH (by rw[aS _ (by exact iA hb rfl),Int.mul_emod_right]:Int.fmod (b*q) b=0) ..)]
   refine i8 (EW (d:=d) hy hv hb hb4 (by exact bT (by assumption) (by rfl))) λr' f1 f2=>?_
   have hdq:Int.fdiv (b*q) b=q:=by rw[aG _ (by exact iA hb rfl),eH _ (by exact aQ (iB hb rfl))]
   rw[f1,aF,m9 (by exact aQ (iB hb rfl)) fX,hdq,aF]
   have g1:Int.fdiv r'.lo q<Int.fdiv r'.hi q:=by rw[f2.lo,f2.hi,kG (hb) (hq),kG (hb) (hq)];exact h2
   have hr:vR r'=true/\Nd 1 r'/\∀c,dS c r'->dS c y:=f2.or_.elim (λ⟨k,hk⟩=>by rw[hk,T.lo,T.hi]at g1;lia) id
   refine Aq (hr) λv1 v2 v3=>?_
   have rr:=v2.rng
   rw[Af d v1]
   by_cases hq1:q=1
   ·clear g1 hdq hq hM hm h2;subst hq1
    refine jC d 5 (by assumption) λd _=>?_
    refine jC d 4 (by assumption) λd _=>?_
    rw[tX]
    refine⟨_,rfl,?_,?_,.inl ⟨_,rfl⟩⟩
    ·rw[uL,e1,T.lo];simp
    ·rw[uM,e2,T.hi,aG _ (by exact iA hb rfl),cS (by lia) (by lia)]
   ·have qM:q<=b*q:=by have:=cH (show 1<=b by exact hb) (show 0<=q by exact iA hq rfl);(first|assumption|exact bT (by assumption) (by rfl)|lia|omega)
    rw[x8 rr.1 (aO rr.2.1) (by lia) (j6 (by exact iA hq rfl) (by exact aJ (a6 qM hm) r.2.2)) g1 (by exact bT (by assumption) (by rfl))]
    obtain⟨k1,k2⟩:=m7 (hq) g1 (aO rr.2.1)
    refine⟨_,rfl,?_,?_,.inr ⟨⟨(Nd.mod v2 v1 (by lia) g1).mono (by lia),v1⟩,λc z=>?_⟩⟩
    ·rw[uL,k1,uL,e1];simp
    ·rw[uM,k2,uM,e2,aG _ (by exact iA hb rfl)]
     have:b*q-1=b*(q-1)+(b-1):=by rw[Int.mul_sub];lia
     rw[this,kH,Int.add_mul_ediv_left _ _ (by exact aQ (iB hb rfl)),cS (by lia) (by lia)];lia
    ·rw[dS]at z⊢;exact v3 c z
  ·have hb1:b≠1:=λz=>hdv (z▸Int.one_dvd m)
   rw[cF (aK (λz=>hdv (by rw[aS _ (by grind)]at z;exact Int.dvd_of_emod_eq_zero z)) ..)]
   refine jC d 5 (by assumption) λd _=>?_
   have hN:Nd 2 (.mod y m):=by
    refine .mod ?_ hv h1 h2
    induction y using T.casesOn with
    |var e l h=>exact hy.var0
    |div x k=>
     induction x using T.casesOn<;>first|(exact bX hv;done)|skip
     exact hy.divI λn hx h1 h2=>by
      refine .div (n:=0) ?_ h1 h2
      exact hx.var0
    |_=>exact bX hv
   rw[Nq,pL hM.1 (aO hM.2.1) (by lia) fX (by exact bT (by assumption) (by rfl))]
   obtain⟨⟨q1,q2⟩,q3⟩:=yA hN (b:=b) (by lia)
   refine⟨_,rfl,q1,q2,q3.imp_right λ⟨e1,e2⟩=>?_⟩
   rw[e1]
   exact⟨⟨e2,hv⟩,λc z=>by rw[dS]at z;exact z⟩
set_option tactic.hygienic false
theorem ResV.toA{a:T}{b:Int}{r:T}(h:ResV a b r):ResA a b r:=⟨h.lo,h.hi,h.or_.imp_right λ⟨h1,h2,h3⟩=>⟨⟨h2.mono (by(first|assumption|exact bT (by assumption) (by rfl)|lia|omega)),Nu h1⟩,h3⟩⟩
theorem Nv{d:Nat}{a:T}{b:Int}(ha:Fr a)(hb:1<=b)(fX:b<BM)(hd:8<=d):∃r,uX d a b=some (.node r)/\ResA a b r:=by
 obtain⟨hn,hf⟩:=ha;induction a using T.casesOn with
 |var e l h=>exact(EW hn rfl hb fX (bT hd rfl)).imp λr h=>⟨h.1,h.2.toA⟩
 |mod y m=>exact Gu hn hb (j6 (by exact iA hb rfl) fX) (by exact bT hd rfl)
 |div x b1=>
  induction x using T.casesOn with
  |var e l h=>exact(EW hn rfl hb fX (bT hd rfl)).imp λr h=>⟨h.1,h.2.toA⟩
  |mod y m=>
   exact hn.divI λn hx h1 h2=>by
    have r:=hx.rng;have hb1:=lN r.1 (aO r.2.1) (by exact iB h1 rfl) h2
    refine jC d 7 hd λd _=>?_;have ft:jP (b1*b)=true:=YS (by exact iA h1 rfl) (by exact aJ hb1 r.2.2) (by exact iA hb rfl) fX
    refine i8 (Gu (d:=d) hx (b:=b1*b) (by have:=dN (show 1<=b by exact hb) (show 0<=b1 by exact iA h1 rfl);(first|assumption|exact bT (by assumption) (by rfl)|lia|omega)) ft (by(first|assumption|exact bT (by assumption) (by rfl)|lia|omega))) λr' e1 e2=>?_
    refine⟨r',?_,?_,?_,e2.or_.imp_right λ⟨q1,q2⟩=>⟨q1,λc z=>?_⟩⟩
    ·show aB fi (d+1) 488 [.node (.div (.mod y m) b1),.int b] []=_;rw[Nr,bS (mG ft ..),oR,e1];rfl
    ·rw[e2.lo,r6,kG (by exact iB h1 rfl) (hb)]
    ·rw[e2.hi,s7,kG (by exact iB h1 rfl) (hb)]
    ·rw[dS];exact q2 c z
  |_=>exact bX hf
 |_=>exact bX hf
structure Tp(t:T):Prop where
 nd:Nd (3*t.vc+3) (jM t)
 at_:j5 (jM t)=true
 mul:∀a c,t=.mul a c->2<=c/\a.hi*c<BM
 sz:(jM t).nd+5<=14*t.vc
 fr:Fr (jM t)\/j5 t=true
theorem kY{a:T}(h:frB a=true):j5 a=true:=by induction a using T.casesOn<;>first|(exact bX h;done)|rfl
theorem sH{a:T}(h:frB a=true):a.vc=1/\a.nd<=4:=by
 induction a using T.casesOn with
 |var=>exact⟨by rw[T.vc],by rw[T.nd];decide⟩
 |mod y m=>
  induction y using T.casesOn with
  |var=>exact⟨by rw[T.vc,T.vc],by rw[T.nd,T.nd];decide⟩
  |div x b=>induction x using T.casesOn<;>first|(exact bX h;done)|exact⟨by rw[T.vc,T.vc,T.vc],by rw[T.nd,T.nd,T.nd];decide⟩
  |_=>exact bX h
 |div x b=>
  induction x using T.casesOn with
  |var=>exact⟨by rw[T.vc,T.vc],by rw[T.nd,T.nd];decide⟩
  |mod y m=>
   induction y using T.casesOn with
   |var=>exact⟨by rw[T.vc,T.vc,T.vc],by rw[T.nd,T.nd,T.nd];decide⟩
   |div x b=>induction x using T.casesOn<;>first|(exact bX h;done)|exact⟨by rw[T.vc,T.vc,T.vc,T.vc],by rw[T.nd,T.nd,T.nd,T.nd];decide⟩
   |_=>exact bX h
  |_=>exact bX h
 |_=>exact bX h
theorem Nw(t:T):(jM t).vc=t.vc:=by
 induction t using T.casesOn with
 |mul a c=>show a.vc=_;rw[T.vc]
 |_=>rfl
theorem sA{a:T}(h:j5 a=true):jM a=a/\g8 a=1:=by induction a using T.casesOn<;>first|(exact bX h;done)|exact⟨rfl,rfl⟩
theorem Fr.tp{a:T}(h:Fr a):Tp a:=by
 refine oA (sH h.b) λe1 e2=>?_;have ha:=kY h.b;refine oA (sA ha) λe3 _=>?_;refine⟨by rw[e3,e1];exact h.nd.mono (by lia),by rw[e3];exact ha,λx c z=>(by rw[z]at ha;exact bX ha),by rw[e3,e1];lia,.inr ha⟩
theorem Tp.full{t:T}(h:Tp t):Nd (3*t.vc+4) t:=by
 by_cases hm:∃a c,t=.mul a c
 ·obtain⟨a,c,rfl⟩:=hm;refine oA (h.mul a c rfl) λh1 h2=>?_;have hn:Nd (3*(T.mul a c).vc+3) a:=h.nd;exact .mul hn h.at_ h1 h2
 ·have e:jM t=t:=by
   induction t using T.casesOn with
   |mul a c=>exact absurd ⟨a,c,rfl⟩ hm
   |_=>rfl
  have:=h.nd;rw[e]at this;exact this.mono (by lia)
theorem Tp.gt{t:T}(h:Tp t)(hv:t.vc<=5):Gt 18 t:=by
 refine⟨h.nd.mono (by lia),h.at_,λa c e=>?_,by have:=h.sz;lia⟩
 refine oA (h.mul a c e) λh1 h2=>?_;clear hv;subst e;have r:0<=a.lo/\a.lo<a.hi/\a.hi<BM:=h.nd.rng;have:1*c<=a.hi*c:=cH (by lia) (by exact iA h1 rfl)
 exact⟨by exact aQ (iB h1 rfl),by exact aQ (iB h1 rfl),gZ (by exact iA h1 rfl) (by lia)⟩
structure ResT(t:T)(b:Int)(r:T):Prop where
 lo:r.lo=Int.fdiv t.lo b
 hi:r.hi=Int.fdiv t.hi b
 or_:(∃n,r=.num n)\/(Tp r/\r.vc<=t.vc/\∀c,dS c r->dS c t)
theorem ResA.toT{t:T}{b:Int}{r:T}(ht:1<=t.vc)(h:ResA t b r):ResT t b r:=⟨h.lo,h.hi,h.or_.imp_right λ⟨h1,h2⟩=>⟨h1.tp,by rw[(sH h1.b).1];exact ht,h2⟩⟩
theorem Gv{a:T}{c:Int}(h:Fr a)(hc:1<=c)(hb:a.hi*c<BM):Tp (tm a c)/\(tm a c).vc=1/\∀x,dS x (tm a c)->dS x a:=by
 refine oA (sH h.b) λe1 e2=>?_;have ha:=kY h.b;unfold tm;by_cases h1:c=1
 ·rw[aH h1];exact⟨h.tp,e1,λ_ z=>z⟩
 ·rw[aK h1];have ev:(T.mul a c).vc=1:=by rw[T.vc];exact e1
  refine⟨⟨?_,ha,λx k z=>?_,?_,.inl h⟩,ev,λx z=>by rw[bG,dS]at z;exact z⟩
  ·show Nd (3*(T.mul a c).vc+3) a;rw[ev];exact h.nd.mono (by lia)
  ·cases z;exact⟨by lia,hb⟩
  ·show a.nd+5<=14*(T.mul a c).vc;rw[ev];lia
theorem Nx{a:T}{c:Int}(hc:1<=c):(tm a c).lo=a.lo*c/\(tm a c).hi=a.hi*c:=by
 unfold tm;by_cases h1:c=1
 ·rw[aH h1,h1,dF,dF];exact⟨rfl,rfl⟩
 ·rw[cF (aK h1 ..),rZ,pI,aH (by exact iA hc rfl:0<=c)];exact⟨rfl,rfl⟩
theorem jX{x b:Int}(hb:0<b):Int.fmod x b=0↔b∣x:=by
 rw[aS _ (aO hb)];exact⟨Int.dvd_of_emod_eq_zero,λ⟨q,e⟩=>by rw[e,Int.mul_emod_right]⟩
theorem DG{x b q:Int}(hb:0<b):Int.fdiv (x*(b*q)) b=x*q:=by
 rw[aG _ (aO hb),qG,eH _ (by exact aQ hb)]
theorem rM{n d:Nat}{a:T}{c b:Int}(h:Nd n a)(ha:j5 a=true)(hb:1<=b)(fX:b<BM)(hdv:b∣c)(hc0:c≠0)(hc:c.natAbs<2^900)(hd:5<=d):aB fi d 440 [.node (.mul a c),.int b] []=some (.node (tm a (Int.fdiv c b))):=by
 refine jC d 4 hd λd _=>?_;obtain⟨q,rfl⟩:=hdv;have hq:Int.fdiv (b*q) b=q:=by rw[aG _ (by exact iA hb rfl),eH _ (by exact aQ (iB hb rfl))]
 have hq0:q≠0:=λz=>hc0 (by rw[z,Int.mul_zero])
 have hql:q.natAbs<2^900:=by
  refine aP ?_ hc;rw[eP];exact gR _ (by lia)
 rw[Rd,bS (jT (by exact aQ (iB hb rfl)) (j6 (by exact iA hb rfl) fX) ..),bS (mD ..),bS (fU ..),cT (aH ((jX (hb)).mpr ⟨q,rfl⟩) ..),bS (m9 (by exact aQ (iB hb rfl)) (j6 (by exact iA hb rfl) fX) ..),hq,pK _ ha,BV h hq0 hql (by exact bT (by assumption) (by rfl))]
 rfl
theorem EX{d:Nat}{a:T}{c b:Int}(ha:Fr a)(hc:2<=c)(hcb:a.hi*c<BM)(hb:1<=b)(fX:b<BM)(hd:10<=d):∃r,uX d (.mul a c) b=some (.node r)/\ResT (.mul a c) b r/\(b∣c->r=tm a (Int.fdiv c b)):=by
 have r:=ha.nd.rng;have hcM:c<BM:=by have:1*c<=a.hi*c:=cH (by lia) (by exact iA hc rfl);lia
 have e1:=(sH ha.b).1;have ev:1<=(T.mul a c).vc:=by rw[T.vc,e1];exact cA _
 have el:(T.mul a c).lo=a.lo*c:=by rw[rZ,aH (by exact iA hc rfl:0<=c)];rfl
 have eh:(T.mul a c).hi=a.hi*c:=by rw[pI,aH (by exact iA hc rfl:0<=c)];rfl
 show ∃r,aB fi d 440 [.node (.mul a c),.int b] []=_/\_;by_cases hdv:b∣c
 ·rw[rM ha.nd (kY ha.b) hb fX hdv (by exact aQ (iB hc rfl)) (gZ (by exact iA hc rfl) hcM) (bT hd rfl)]
  refine⟨_,rfl,?_,λ_=>rfl⟩;clear hcM;obtain⟨q,rfl⟩:=hdv;have hq:Int.fdiv (b*q) b=q:=by rw[aG _ (by exact iA hb rfl),eH _ (by exact aQ (iB hb rfl))]
  have hq1:1<=q:=by
   rcases eL q 1 with z|z
   ·have:=bY (show 0<=b by exact iA hb rfl) (show q<=0 by exact iK z rfl);lia
   ·exact z
  rw[hq];have hle:a.hi*q<=a.hi*(b*q):=dN (by have:=cH hb (show 0<=q by exact iA hq1 rfl);lia) (by exact aO (aJ r.1 r.2.1))
  refine oA (Nx (a:=a) hq1) λt1 t2=>?_;refine Aq (Gv ha hq1 (by exact aJ hle hcb)) λt3 t4 t5=>?_
  exact⟨by rw[t1,el,DG (hb)],by rw[t2,eh,DG (hb)],.inr ⟨t3,by rw[t4];exact ev,λx z=>by rw[dS];exact t5 x z⟩⟩
 ·refine jC d 9 hd λd _=>?_;rw[Rd,bS (jT (by exact aQ (iB hb rfl)) (j6 (by exact iA hb rfl) fX) ..),bS (mD ..),bS (fU ..),cF (aK (λz=>hdv ((jX (hb)).mp z)) ..),bS (jT (by exact aQ (iB hc rfl)) (j6 (by exact iA hc rfl) hcM) ..),bS (mD ..),bS (fU ..)]
  by_cases hcd:c∣b
  ·rw[cT (aH ((jX (by exact iB hc rfl)).mpr hcd) ..),cT (aH (by exact iB hc rfl:0<c) ..),bS (m9 (by exact aQ (iB hc rfl)) (j6 (by exact iA hc rfl) hcM) ..),oR]
   obtain⟨q,rfl⟩:=hcd;have hq:Int.fdiv (c*q) c=q:=by rw[aG _ (by exact iA hc rfl),eH _ (by exact aQ (iB hc rfl))]
   have hq1:1<=q:=by
    rcases eL q 1 with z|z
    ·have:=bY (show 0<=c by exact iA hc rfl) (show q<=0 by exact iK z rfl);lia
    ·exact z
   have hql:q<=c*q:=by have:=cH (show 1<=c by exact iA hc rfl) (show 0<=q by exact iA hq1 rfl);lia
   refine i8 (Nv (d:=d) ha hq1 (by exact aJ hql fX) (by exact bT (by assumption) (by rfl))) λr' f1 f2=>?_
   rw[hq,f1];have key:∀x:Int,Int.fdiv (x*c) (c*q)=Int.fdiv x q:=λx=>by
    rw[<-kG (by exact iB hc rfl) (hq1),aG (x*c) (by exact iA hc rfl),n8 _ (by exact aQ (iB hc rfl))]
   refine⟨r',rfl,⟨by rw[f2.lo,el,key],by rw[f2.hi,eh,key],?_⟩,λz=>absurd z hdv⟩
   exact f2.or_.imp_right λ⟨h1,h2⟩=>⟨h1.tp,by rw[(sH h1.b).1];exact ev,λx z=>by rw[dS];exact h2 x z⟩
  ·rw[cF (aK (λz=>hcd ((jX (by exact iB hc rfl)).mp z)) ..)]
   refine jC d 8 (by assumption) λd _=>?_
   have hb1:b≠1:=λz=>hdv (z▸Int.one_dvd c);have hN:Nd 4 (.mul a c):=.mul ha.nd (kY ha.b) hc hcb;have rr:=hN.rng;rw[Nq,pL rr.1 (aO rr.2.1) (by lia) (j6 (by exact iA hb rfl) fX) (by exact bT (by assumption) (by rfl))]
   obtain⟨⟨q1,q2⟩,q3⟩:=yA hN (b:=b) (by lia)
   refine⟨_,rfl,⟨q1,q2,q3.imp_right λ⟨f1,f2⟩=>?_⟩,λz=>absurd z hdv⟩;rw[f1];have ev2:(T.div (.mul a c) b).vc=1:=by rw[T.vc,T.vc];exact e1
   refine⟨⟨by rw[ev2];exact f2.mono (by lia),rfl,λx k z=>(by cases z),?_,.inr rfl⟩,by rw[ev2];exact ev,λx z=>by rw[dS]at z;exact z⟩
   show(T.div (.mul a c) b).nd+5<=14*_;have:=(sH ha.b).2;rw[ev2,T.nd,T.nd];lia
def lH:List Y:=match Eu.body.drop 8 with
 |Y.forL _ _ b::_=>b
 |_=>[]
noncomputable def lE(t:T)(b:Int)(g dv:V)(x:V)(ex:Ev):Ev:=(1,.node t)::(2,.int b)::(7,.bool true)::(35,.own 0)::(21,.own 1)::(42,g)::(37,dv)::(0,x)::ex
noncomputable def gO(A B:List V):Cs:=[⟨false,.lst A⟩,⟨false,.lst B⟩]
theorem YT(A B:List V)(u:T)(h:A.length<=100000):iL (.own 0) .append [.node u] (gO A B)=some (.none,gO (A++[.node u]) B):=
 (show _=(bif Nat.ble A.length 100000 then some (V.none,gO (A++[.node u]) B)else none) by kernel_rfl).trans (by rw[aV h];rfl)
theorem PU(A B:List V)(u:T)(h:B.length<=100000):iL (.own 1) .append [.node u] (gO A B)=some (.none,gO A (B++[.node u])):=
 (show _=(bif Nat.ble B.length 100000 then some (V.none,gO A (B++[.node u]))else none) by kernel_rfl).trans (by rw[aV h];rfl)
theorem PV(d:Nat)(t:T)(b:Int)(g dv:V)(u:T)(ex:Ev)(A B:List V)(hu:j5 u=true):uI (bJ (aB fi d) 39) lH (lE t b g dv (.node u) ex) (gO A B)=
  (iL (.own 1) .append [.node u] (gO A B)).bind λv=>bif g7 v.1 then some (none,lE t b (.int 1) dv (.node u) ex,v.2)else none:=by
 rw[AY];induction u using T.casesOn<;>first|(exact bX hu;done)|kernel_rfl
theorem Ny(d:Nat)(t:T)(b g dv:Int)(a:T)(c:Int)(ex:Ev)(A B:List V):uI (bJ (aB fi d) 39) lH (lE t b (.int g) (.int dv) (.node (.mul a c)) ex) (gO A B)=
  (eY .Mod c b).bind λv=>(j3 (aB fi d) .Eq v (.int 0)).bind λv=>(eM v (gO A B)).bind λz=>
   bif z then(aB fi d 440 [.node (.mul a c),.int b] []).bind λv=>(iL (.own 0) .append [v] (gO A B)).bind λv=>bif g7 v.1 then some (none,lE t b (.int g) (.int dv) (.node (.mul a c)) ex,v.2)else none
   else(iL (.own 1) .append [.node (.mul a c)] (gO A B)).bind λv=>bif g7 v.1 then(aB fi d 35 [.int g,.int c] []).bind λg'=>
    bif decide (dv=1)then(eY .Mod b c).bind λw=>(j3 (aB fi d) .Eq w (.int 0)).bind λw=>(eM w v.2).bind λz=>bif z then some (none,lE t b g' (.int c) (.node (.mul a c)) ex,v.2)else some (none,lE t b g' (.int dv) (.node (.mul a c)) ex,v.2)
    else some (none,lE t b g' (.int dv) (.node (.mul a c)) ex,v.2)else none:=by
 rw[AY];kernel_rfl
def uP:List Y:=match lH with
 |Y.ite _ a _::_=>(match a with
  |Y.ite _ _ o::_=>o
  |_=>[])
 |_=>[]
def Nz:List Y:=match uP with
 |Y.ite _ a _::_=>a
 |_=>[]
noncomputable abbrev PW:V->Ev->Cs->Option (Option V×Ev×Cs):=λv e c=>some (some v,e,c)
noncomputable abbrev ZD:Ev->Cs->Option (Option V×Ev×Cs):=λe c=>some (none,e,c)
theorem N0(d:Nat)(t:T)(b g dv n:Int)(ex:Ev)(A B:List V):uI (bJ (aB fi d) 39) lH (lE t b (.int g) (.int dv) (.node (.num n)) ex) (gO A B)=
  (eY .Mod n b).bind λv=>(j3 (aB fi d) .Eq v (.int 0)).bind λv=>(eM v (gO A B)).bind λz=>
   bif z then(aB fi d 185 [.node (.num n),.int b] []).bind λv=>(iL (.own 0) .append [v] (gO A B)).bind λv=>bif g7 v.1 then some (none,lE t b (.int g) (.int dv) (.node (.num n)) ex,v.2)else none
   else dR (m4 (aB fi d) 37) uP (lE t b (.int g) (.int dv) (.node (.num n)) ex) (gO A B) PW ZD:=by
 rw[AY];kernel_rfl
theorem YU(d:Nat)(t:T)(b g dv n:Int)(ex:Ev)(A B:List V):dR (m4 (aB fi d) 37) uP (lE t b (.int g) (.int dv) (.node (.num n)) ex) (gO A B) PW ZD=
  (eY .FloorDiv n b).bind λv=>(eM v (gO A B)).bind λz=>bif z then(eY .FloorDiv n b).bind λq=>dR (m4 (aB fi d) 36) (Nz.drop 1) (lE t b (.int g) (.int dv) (.node (.num n)) (fO 52 q ex)) (gO A B) PW (λenv cs=>dR (m4 (aB fi d) 37) (uP.drop 1) env cs PW ZD)
   else dR (m4 (aB fi d) 37) (uP.drop 1) (lE t b (.int g) (.int dv) (.node (.num n)) ex) (gO A B) PW ZD:=by kernel_rfl
theorem YV(d:Nat)(t:T)(b g dv n q:Int)(A B:List V)(K:Ev->Cs->Option (Option V×Ev×Cs)):dR (m4 (aB fi d) 36) (Nz.drop 1) (lE t b (.int g) (.int dv) (.node (.num n)) [(52,.int q)]) (gO A B) PW K=
  (aB fi d 331 [.int q] []).bind λv=>(iL (.own 0) .append [v] (gO A B)).bind λv=>bif g7 v.1 then(eY .Mult b q).bind λm=>(cG (aB fi d) .Sub (.int n) m).bind λs=>((a8 s v.2).bind λp=>(some ([],p.2)).map λq=>(p.1::q.1,q.2)).bind λw=>(aB fi d 331 w.1 []).bind λx=>K (lE t b (.int g) (.int dv) x [(52,.int q)]) w.2 else none:=by kernel_rfl
theorem N1(d:Nat)(t:T)(b g dv n:Int)(ex:Ev)(A B:List V):dR (m4 (aB fi d) 37) (uP.drop 1) (lE t b (.int g) (.int dv) (.node (.num n)) ex) (gO A B) PW ZD=
  (iL (.own 1) .append [.node (.num n)] (gO A B)).bind λv=>bif g7 v.1 then(aB fi d 35 [.int g,.int n] []).bind λg'=>some (none,lE t b g' (.int dv) (.node (.num n)) ex,v.2)else none:=by kernel_rfl
def full(b:Int)(t:T):Bool:=decide (Int.fmod (g8 t) b=0)
def uC(b:Int)(t:T):T:=tm (jM t) (Int.fdiv (g8 t) b)
def xG(b:Int)(s:Nat×Int)(t:T):Nat×Int:=bif full b t then s else match t with
 |.mul _ c=>(Nat.gcd s.1 c.natAbs,bif decide (s.2=1)&&decide (Int.fmod b c=0)then c else s.2)
 |_=>(1,s.2)
theorem BY(b:Int)(g:Nat)(dv:Int)(a:T)(c:Int):xG b (g,dv) (.mul a c)=bif decide (Int.fmod c b=0)then(g,dv)else(Nat.gcd g c.natAbs,bif decide (dv=1)&&decide (Int.fmod b c=0)then c else dv):=rfl
theorem BZ{b:Int}{t:T}(hb:2<=b)(h:j5 t=true):full b t=false:=by
 unfold full;rw[(sA h).2];refine aK λz=>?_;have:=eR (by decide) ((jX (by exact iB hb rfl)).mp z);exact qT _ (eN (iB hb rfl) this)
theorem YW{d:Nat}{t:T}{b dv:Int}{g:Nat}{u:T}{ex:Ev}{A B:List V}(hu:Gt 18 u)(hb:2<=b)(fX:b<BM)(hc:full b u=false->0<g8 u)(hA:A.length<=1000)(hB:B.length<=1000)(hd:5<=d):
  uI (bJ (aB fi d) 39) lH (lE t b (.int g) (.int dv) (.node u) ex) (gO A B)=some (none,lE t b (.int (xG b (g,dv) u).1) (.int (xG b (g,dv) u).2) (.node u) ex,bif full b u then gO (A++[.node (uC b u)]) B else gO A (B++[.node u])):=by
 by_cases hm:∃a c,u=.mul a c
 ·obtain⟨a,c,rfl⟩:=hm;refine Aq (hu.mul a c rfl) λh0 h1 h2=>?_;rw[Ny,bS (jT (by exact aQ (iB hb rfl)) (j6 (by exact iA hb rfl) fX) ..),bS (mD ..),bS (fU ..)]
  have hf:full b (.mul a c)=decide (Int.fmod c b=0):=rfl;by_cases hz:Int.fmod c b=0
  ·rw[cT (aH hz ..),bS (rM (a:=a) hu.nd hu.at_ (by exact iA hb rfl) fX ((jX (by exact iB hb rfl)).mp hz) h0 h2 hd ..),bS (YT A B _ (by exact iG hA rfl) ..)]
   rw[BY,hf,aH hz];rfl
  ·have hc:0<c:=hc (by rw[hf];exact aK hz)
   have eg:((c.natAbs:Nat):Int)=c:=nP (by exact aO hc)
   have hcM:jP c=true:=g9 (bA h2 (by decide+kernel))
   have gk:=No (d:=d) (a:=g) (b:=c.natAbs) h2 (bT hd rfl);rw[eg]at gk;rw[cF (aK hz ..),bS (PU A B _ (by exact iG hB rfl) ..)]
   show((aB fi d 35 [.int g,.int c] []).bind _)=_;rw[bS (gk ..)];rw[BY,hf,aK hz,bG,bG];induction hd1:decide (dv=1) using Bool.casesOn with
   |false=>rw[bG,Bool.false_and];rfl
   |true=>
    rw[bV,bS (jT h0 hcM ..),bS (mD ..),bS (fU ..),qS];induction decide (Int.fmod b c=0) using Bool.casesOn<;>rfl
 ·obtain⟨e1,e2⟩:=tA hu λa k e=>hm ⟨a,k,e⟩;have ha:=hu.at_;rw[e1]at ha;rw[PV _ _ _ _ _ _ _ _ _ ha,bS (PU A B _ (by exact iG hB rfl) ..)]
  have hs:xG b (g,dv) u=bif full b u then(g,dv)else(1,dv):=by clear e2 e1 hm hc hu;induction u using T.casesOn<;>first|(exact bX ha;done)|rfl
  rw[hs,BZ hb ha];rfl
theorem l620{d:Nat}{t:T}{b:Int}(hb:2<=b)(fX:b<BM)(hd:5<=d):∀{us:List T} {dv:Int} {g:Nat} {env ex:Ev} {A B:List V},(∀v,n6 [0] v env=some (lE t b (.int g) (.int dv) v ex))->(∀u∈us,Gt 18 u)->(∀u∈us,full b u=false->0<g8 u)->
  A.length+us.length<=1000->B.length+us.length<=1000->us≠[]->
  ∃x,gV (bJ (aB fi d) 39) [0] lH (us.map V.node) env (gO A B)=some (none,lE t b (.int (us.foldl (xG b) (g,dv)).1) (.int (us.foldl (xG b) (g,dv)).2) x ex,gO (A++((us.filter (full b)).map (uC b)).map V.node) (B++(us.filter λu=>!full b u).map V.node))
 |u::r,dv,g,env,ex,A,B,he,hu,hc,hA,hB,_=>by
  have hA:A.length+(r.length+1)<=1000:=hA;have hB:B.length+(r.length+1)<=1000:=hB;rw[bO,tV (he _) (YW (hu u aE) hb fX (hc u aE) (by lia) (by lia) hd),List.foldl_cons]
  have key:∀A' B',A'.length+r.length<=1000->B'.length+r.length<=1000->∃x,gV (bJ (aB fi d) 39) [0] lH (r.map V.node) (lE t b (.int (xG b (g,dv) u).1) (.int (xG b (g,dv) u).2) (.node u) ex) (gO A' B')=
    some (none,lE t b (.int (r.foldl (xG b) (xG b (g,dv) u)).1) (.int (r.foldl (xG b) (xG b (g,dv) u)).2) x ex,gO (A'++((r.filter (full b)).map (uC b)).map V.node) (B'++(r.filter λu=>!full b u).map V.node)):=λA' B' h1 h2=>by
   by_cases hr:r=[]
   ·clear h2 h1 hB hA hc hu;subst hr;exact⟨.node u,by simp[gV]⟩
   ·exact l620 hb fX hd (λv=>rfl) (λu h=>hu u (aI _ h)) (λu h=>hc u (aI _ h)) h1 h2 hr
  induction hf:full b u using Bool.casesOn with
  |true=>
   rw[bV,cD (by exact hf),cV (by rw[hf];decide),bO,bO]
   obtain⟨x,e⟩:=key (A++[.node (uC b u)]) B (by rw[bU,d0];lia) (by lia)
   exact⟨x,by rw[e,dT];rfl⟩
  |false=>
   rw[bG,cV (by rw[hf];decide),cD (by rw[hf];rfl),bO (f:=V.node)]
   obtain⟨x,e⟩:=key A (B++[.node u]) (by lia) (by rw[bU,d0];lia)
   exact⟨x,by rw[e,dT];rfl⟩
theorem YX{d:Nat}{t:T}{b dv n:Int}{g:Nat}{A B:List V}(hn:n≠0)(hnb:n.natAbs<2^900)(hb:2<=b)(fX:b<BM)(hA:A.length<=1000)(hB:B.length<=1000)(hd:8<=d):
  ∃x ex,uI (bJ (aB fi d) 39) lH (lE t b (.int g) (.int dv) (.node (.num n)) []) (gO A B)=some (none,lE t b (.int (bif decide (Int.fmod n b=0)then g else Nat.gcd g (Int.fmod n b).natAbs:Nat)) (.int dv) x ex,gO (A++(b9 [] (Int.fdiv n b)).map V.node) (B++(b9 [] (Int.fmod n b)).map V.node)):=by
 have fb:=j6 (show 0<=b by exact iA hb rfl) fX
 have eq:Int.fdiv n b=n/b:=aG _ (by exact iA hb rfl)
 have er:Int.fmod n b=n%b:=aS _ (by exact iA hb rfl)
 have e3:=dB n b;have e4:=eE n (by exact aQ (iB hb rfl):b≠0)
 have e5:=dW n (by exact iB hb rfl:0<b)
 have hql:(n/b).natAbs<=n.natAbs:=iE n b;have hsum:∀m:Int,m≠0->b9 [] m=[T.num m]:=λm hm=>by unfold b9;rw[aK hm];rfl
 have hsum0:b9 [] 0=[]:=by unfold b9;rw[aH rfl];rfl
 have q18:(2:Nat)^1800<2^1900:=by decide+kernel
 rw[N0,bS (jT (by exact aQ (iB hb rfl)) fb ..),bS (mD ..),bS (fU ..)]
 by_cases hz:Int.fmod n b=0
 ·have hq0:n/b≠0:=λz=>by rw[er]at hz;clear e4 e5 hql hsum hsum0 q18;rw[hz,z]at e3;lia
  rw[cT (aH hz ..),bS (BX (by exact iA hb rfl) fb (g9 (bA (oP (by rw[eq,Int.natAbs_neg];exact aP hql hnb) (gZ (by exact iA hb rfl) fX)) q18)) hd ..),bS (YT A B _ (by exact iG hA rfl) ..)]
  refine⟨.node (.num n),[],?_⟩;rw[hz,hsum0,hsum _ (by rw[eq];exact hq0)]
  show some (none,_,gO (A++[.node (.num (Int.fdiv n b))]) B)=some (none,_,gO _ (B++[]));rw[bW];rfl
 ·have hrl:(n%b).natAbs<2^900:=gZ e4 (by exact cX e5 fX)
  have eg:(((n%b).natAbs:Nat):Int)=n%b:=nP e4;have gk:=No (d:=d) (a:=g) (b:=(n%b).natAbs) hrl (bT hd rfl);rw[eg]at gk;rw[aK hz,bG,YU,m9 (by exact aQ (iB hb rfl)) fb,aF,show eM (.int (Int.fdiv n b)) (gO A B)=some (!decide (Int.fdiv n b=0))from rfl,aF]
  by_cases hq0:Int.fdiv n b=0
  ·have hnr:n%b=n:=by rw[eq]at hq0;clear e5 hql hsum hsum0 q18 hz hrl eg gk;clear e4;rw[hq0]at e3;lia
   rw[hnr]at gk;rw[aH hq0,gS,bG,N1,PU A B _ (by exact iG hB rfl),aF]
   show ∃x ex,((aB fi d 35 [.int g,.int n] []).bind _)=_;rw[gk];refine⟨.node (.num n),[],?_⟩;rw[hq0,hsum0,hsum _ hz,er,hnr];show some (none,_,gO A (B++[.node (.num n)]))=some (none,_,gO (A++[]) _);rw[bW];rfl
  ·obtain⟨d,rfl,_⟩:=up (K:=7) (d:=d) hd;rw[aK hq0,g4,bV,aF];show ∃x ex,dR (m4 (aB fi (d+1)) 36) (Nz.drop 1) (lE t b (.int g) (.int dv) (.node (.num n)) [(52,.int (Int.fdiv n b))]) (gO A B) PW _=_;rw[YV,bS (xS ..),bS (YT A B _ (by exact iG hA rfl) ..)]
   show ∃x ex,((eY .Mult b (Int.fdiv n b)).bind _)=_;rw[bS (mG (g9 (bA (oP (gZ (by exact iA hb rfl) fX) (by rw[eq];exact aP hql hnb)) q18)) ..)]
   rw[bS (show cG (aB fi (d+1)) .Sub (.int n) (.int (b*Int.fdiv n b))=some (.int (n-b*Int.fdiv n b))from rfl),show n-b*Int.fdiv n b=n%b by rw[eq];lia]
   rw[bS (Y8 ..),cU,aF,bS (xS ..)];show ∃x ex,dR (m4 (aB fi (d+1)) 37) (uP.drop 1) (lE t b (.int g) (.int dv) (.node (.num (n%b))) [(52,.int (Int.fdiv n b))]) (gO (A++[.node (.num (Int.fdiv n b))]) B) PW ZD=_;rw[N1,bS (PU _ B _ (by exact iG hB rfl) ..)]
   show ∃x ex,((aB fi (d+1) 35 [.int g,.int (n%b)] []).bind _)=_;rw[gk];refine⟨.node (.num (n%b)),[(52,.int (Int.fdiv n b))],?_⟩;rw[hsum _ hq0,hsum _ hz,er];rfl
theorem YY(d:Nat)(t:T)(b:Int):aB fi (d+1) 86 [.node t,.int b] []=some (.bool false):=(cR rfl rfl rfl rfl).trans (by kernel_rfl)
theorem N2(d:Nat)(l:List T)(b:Int):aB fi (d+1) 620 [.node (.sum l),.int b] []=(aB fi d 86 [.node (.sum l),.int b] []).bind λv=>(eM v []).bind λz=>bif z then(aB fi d 331 [.int 1] []).bind λv=>(a8 v []).bind λq=>some q.1
  else bif decide (b=1)then some (.node (.sum l))else(aB fi d 640 [.node (.sum l)] []).bind λw=>(j4 [0] w (gO [] [])).bind λs=>
   nK (gV (bJ (aB fi d) 39) [0] lH s.1 [(1,.node (.sum l)),(2,.int b),(7,.bool true),(35,.own 0),(21,.own 1),(42,.int b),(37,.int 1)] s.2) kR λenv cs=>dR (R4 d) (Eu.body.drop 9) env cs kR kN:=(cR rfl rfl rfl rfl).trans (by kernel_rfl)
noncomputable def DH(A B:List V):Cs:=[⟨true,.lst A⟩,⟨true,.lst B⟩]
theorem Ca(d:Nat)(t:T)(b g dv:Int)(x:V)(ex:Ev)(A B:List V):dR (R4 d) (Eu.body.drop 9) (lE t b (.int g) (.int dv) x ex) (gO A B) kR kN=
  bif decide (1<g)then(aB fi d 204 [V.lst A] []).bind λv=>(aB fi d 204 [V.lst B] []).bind λw=>bif !jQ w .floordiv (DH A B)then none
    else zX (aB fi d) w .floordiv [.int g] [] (DH A B) λp cs=>(eY .FloorDiv b g).bind λq=>(cG (aB fi d) .FloorDiv p q).bind λx=>(cG (aB fi d) .Add v x).bind λy=>(a8 y cs).bind λq=>some q.1
  else bif decide (1<dv)then(aB fi d 204 [V.lst A] []).bind λv=>(aB fi d 204 [V.lst B] []).bind λw=>bif !jQ w .floordiv (DH A B)then none
    else zX (aB fi d) w .floordiv [.int dv] [] (DH A B) λp cs=>(eY .FloorDiv b dv).bind λq=>(cG (aB fi d) .FloorDiv p q).bind λx=>(cG (aB fi d) .Add v x).bind λy=>(a8 y cs).bind λq=>some q.1
  else(aB fi d 204 [V.lst A] []).bind λv=>(aB fi d 204 [V.lst B] []).bind λw=>((a8 w (DH A B)).bind λp=>(some ([V.int b],p.2)).map λq=>(p.1::q.1,q.2)).bind λa=>(aB fi d 185 a.1 []).bind λx=>(cG (aB fi d) .Add v x).bind λy=>(a8 y a.2).bind λq=>some q.1:=by kernel_rfl
theorem DI{r:Rec}{t:List Nat}{body:List Y}{ys:List V}:∀{xs:List V} {env env':Ev} {cs cW:Cs},gV r t body xs env cs=some (none,env',cW)->gV r t body (xs++ys) env cs=gV r t body ys env' cW
 |[],_,_,_,_,h=>by cases h;rfl
 |x::xs,env,env',cs,cW,h=>by
  have h:((n6 t x env).bind λenv'=>(uI r body env' cs).bind λp=>match p.1 with|some x=>some (some x,p.2)|none=>gV r t body xs p.2.1 p.2.2)=some (none,env',cW):=h
  show((n6 t x env).bind λenv'=>(uI r body env' cs).bind λp=>match p.1 with|some x=>some (some x,p.2)|none=>gV r t body (xs++ys) p.2.1 p.2.2)=_
  induction hb:n6 t x env using Option.casesOn with
  |none=>rw[hb]at h;exact aY h
  |some e1=>
   rw[bS (hb ..)]at h;rw[aF];induction he:uI r body e1 cs using Option.casesOn with
   |none=>clear hb;rw[he]at h;exact aY h
   |some p=>
    obtain⟨p1,p2,p3⟩:=p;rw[bS (he ..)]at h;rw[aF];induction p1 using Option.casesOn with
    |some v=>cases h
    |none=>exact DI h
def tC(b:Int)(ts:List T):List T:=(ts.filter (full b)).map (uC b)
def iF(b:Int)(ts:List T):List T:=ts.filter λu=>!full b u
def sB(b:Int)(ts:List T):Nat×Int:=ts.foldl (xG b) (b.natAbs,1)
def qR(b:Int)(ts:List T)(k:Int):Nat:=bif decide (Int.fmod k b=0)then(sB b ts).1 else Nat.gcd (sB b ts).1 (Int.fmod k b).natAbs
theorem N3{k b:Int}(hb:0<b)(fX:b<BM):(Int.fmod k b).natAbs<2^900/\0<=Int.fmod k b/\Int.fmod k b<b:=by
 rw[aS _ (aO hb)];have h1:=eE k (by exact aQ hb:b≠0)
 have h2:=dW k hb;exact⟨gZ h1 (by exact cX h2 fX),h1,h2⟩
theorem Ag(a:List T)(k:Int):b9 a k=a++b9 [] k:=rfl
theorem sc{d:Nat}{ts:List T}{k b:Int}(h:Fm 18 ts)(f5:ts≠[])(h2:2<=(b9 ts k).length)(hb:2<=b)(fX:b<BM)(hpos:∀u∈ts,full b u=false->0<g8 u)(hk:k.natAbs<2^900)(hd:10<=d):
  ∃x ex,uX (d+1) (.sum (b9 ts k)) b=dR (R4 d) (Eu.body.drop 9) (lE (.sum (b9 ts k)) b (.int (qR b ts k)) (.int (sB b ts).2) x ex) (gO ((b9 (tC b ts) (Int.fdiv k b)).map V.node) ((b9 (iF b ts) (Int.fmod k b)).map V.node)) kR kN:=by
 have eW:=h.len;have hl:=iR ts k;refine jC d 9 hd λd _=>?_;have ebn:((b.natAbs:Nat):Int)=b:=nP (by exact iA hb rfl)
 show ∃x ex,aB fi (d+1+1) 620 [.node (.sum (b9 ts k)),.int b] []=_;rw[N2,bS (YY ..),bS (fU ..),bG,cF (aK (by exact aQ (iB hb rfl):¬b=1) ..),bS (QV d (show(b9 ts k).length<=1000 by lia) (uN (F:=(ts,k)) h.gt) ..)]
 show ∃x ex,((bif Nat.ble ((b9 ts k).map V.node).length 1000 then some ((b9 ts k).map V.node,gO [] [])else none).bind _)=_;rw[aT,bS (cT (aV (by lia) ..) ..)]
 have e0:∀v,n6 [0] v [(1,.node (.sum (b9 ts k))),(2,.int b),(7,.bool true),(35,.own 0),(21,.own 1),(42,.int b),(37,.int 1)]=some (lE (.sum (b9 ts k)) b (.int ((b.natAbs:Nat):Int)) (.int 1) v []):=λv=>by rw[ebn];rfl
 obtain⟨x,e⟩:=l620 (d:=d+1) (t:=.sum (b9 ts k)) hb fX (by lia) (us:=ts) (A:=[]) (B:=[]) e0 h.gt hpos (by simp;exact iG eW rfl) (by simp;exact iG eW rfl) f5
 rw[jN,jN]at e;unfold qR;by_cases hk0:k=0
 ·clear e0 hl hk h2;subst hk0;have z1:Int.fdiv 0 b=0:=fP b;have z2:Int.fmod 0 b=0:=Int.zero_fmod b;have z3:∀l:List T,b9 l 0=l:=λl=>by unfold b9;rw[cT (aH rfl ..),bW]
  rw[z1,z2,z3,z3,z3,aH rfl];clear z2 z1;rw[z3]at e;refine⟨x,[],?_⟩;show nK (gV (bJ (aB fi (d+1)) 39) [0] lH (ts.map V.node) _ (gO [] [])) _ _=_;rw[e];rfl
 ·have hs:b9 ts k=ts++[.num k]:=by unfold b9;rw[aK hk0];rfl
  have hf:=YX (d:=d+1) (t:=.sum (b9 ts k)) (b:=b) (dv:=(sB b ts).2) (n:=k) (g:=(sB b ts).1) (A:=((ts.filter (full b)).map (uC b)).map V.node) (B:=(ts.filter λu=>!full b u).map V.node) hk0 hk hb fX
   (by rw[aT,aT];have:=dM (full b) ts;exact aR this (iG eW rfl)) (by rw[aT];have:=dM (λu=>!full b u) ts;exact aR this (iG eW rfl)) (by lia)
  refine NP (hf) λx' ex e'=>?_;refine⟨x',ex,?_⟩;have e2:gV (bJ (aB fi (d+1)) 39) [0] lH [V.node (.num k)] (lE (.sum (b9 ts k)) b (.int (sB b ts).1) (.int (sB b ts).2) x []) (gO (((ts.filter (full b)).map (uC b)).map V.node) ((ts.filter λu=>!full b u).map V.node))=_:=tV rfl e';unfold sB at e2;show nK (gV (bJ (aB fi (d+1)) 39) [0] lH ((b9 ts k).map V.node) _ (gO [] [])) _ _=_;rw[show(b9 ts k).map V.node=ts.map V.node++[V.node (.num k)] by rw[hs,dQ];rfl,DI e,e2]
  show dR (R4 (d+1)) (Eu.body.drop 9) _ (gO (((ts.filter (full b)).map (uC b)).map V.node++(b9 [] (Int.fdiv k b)).map V.node) ((ts.filter λu=>!full b u).map V.node++(b9 [] (Int.fmod k b)).map V.node)) kR kN=_;rw[<-dQ,<-dQ];rfl
noncomputable def one:T->List T×Int
 |.num k=>([],k)
 |t=>([t],0)
theorem N4{t:T}(h:dO t=true):one t=([t],0):=by induction t using T.casesOn<;>first|(exact bX h;done)|rfl
theorem Gw{k:Int}:∀{ts:List T},(∀t∈ts,dO t=true)->((b9 ts k).map one).flatMap (·.1)=ts/\(((b9 ts k).map one).map (·.2)).sum=k/\((b9 ts k).map one).map fN=b9 ts k
 |[],_=>by
  unfold b9;induction h:decide (k=0) using Bool.casesOn with
  |true=>rw[aM h];exact⟨rfl,rfl,rfl⟩
  |false=>exact⟨rfl,by simp[one],by simp[one,dY]⟩
 |t::r,h=>by
  refine Aq (Gw (k:=k) (ts:=r) λu hu=>h u (aI _ hu)) λh1 h2 h3=>?_;show((one t::(b9 r k).map one).flatMap (·.1))=_/\((one t::(b9 r k).map one).map (·.2)).sum=_/\(one t::(b9 r k).map one).map fN=t::b9 r k;rw[N4 (h t aE),b8,h1,bO (f:=λx:List T×Int=>x.2),eJ,h2,bO (f:=fN),h3,fD];exact⟨rfl,by show 0+k=_;lia,rfl⟩
theorem vW{n d:Nat}{ts:List T}{k:Int}(h:Fm n ts)(hd:2*n+4<=d):aB fi d 204 [.lst ((b9 ts k).map V.node)] []=some (.node (fN (ts,k))):=by
 refine Aq (Gw (k:=k) λt ht=>(h.gt t ht).term) λh1 h2 h3=>?_;have hl:=iR ts k;have eW:=h.len;have:=oZ (n:=n) (Fs:=(b9 ts k).map one) (by rw[h1];exact h) (by rw[aT];lia) hd
 rw[h1,h2,h3]at this;exact this
noncomputable def sC:T->Bool
 |.mul ..=>true
 |_=>false
theorem sD{t:T}(h:sC t=true):∃a c,t=.mul a c:=by induction t using T.casesOn<;>first|(exact bX h;done)|exact⟨_,_,rfl⟩
theorem Gx{b:Int}:∀{ts:List T} {s:Nat×Int},(∀t∈ts,dO t=true)->
  ((ts.foldl (xG b) s).1∣s.1/\(∀t∈iF b ts,(ts.foldl (xG b) s).1≠1->sC t=true/\(ts.foldl (xG b) s).1∣(g8 t).natAbs)/\
  ((ts.foldl (xG b) s).2=s.2\/∃t∈iF b ts,sC t=true/\g8 t=(ts.foldl (xG b) s).2/\Int.fmod b (g8 t)=0)/\
  ∀e:Nat,e∣s.1->(∀t∈iF b ts,sC t=true/\e∣(g8 t).natAbs)->e∣(ts.foldl (xG b) s).1)
 |[],s,_=>⟨Nat.dvd_refl _,λt ht=>(by cases ht),.inl rfl,λe h _=>h⟩
 |t::r,s,h=>by
  obtain⟨i1,i2,i3,i4⟩:=Gx (ts:=r) (s:=xG b s t) λu hu=>h u (aI _ hu);rw[List.foldl_cons];have hm:∀u,u∈iF b r->u∈iF b (t::r):=λu hu=>dC.mpr ⟨aI _ (dC.mp hu).1,(dC.mp hu).2⟩;induction hf:full b t using Bool.casesOn with
  |true=>
   have e1:xG b s t=s:=by unfold xG;rw[hf];rfl
   have e2:iF b (t::r)=iF b r:=cV (by rw[hf];decide)
   clear hf hm;rw[e1]at i1 i2 i3 i4⊢;rw[e2];exact⟨i1,i2,i3,i4⟩
  |false=>
   have e2:iF b (t::r)=t::iF b r:=cD (by rw[hf];rfl)
   rw[e2];by_cases hM:sC t=true
   ·clear e2 hm h;obtain⟨a,c,rfl⟩:=sD hM;obtain⟨g,dv⟩:=s;have hf':decide (Int.fmod c b=0)=false:=hf;have e1:xG b (g,dv) (.mul a c)=(Nat.gcd g c.natAbs,bif decide (dv=1)&&decide (Int.fmod b c=0)then c else dv):=by rw[BY,hf'];rfl
    clear hf';rw[e1]at i1 i2 i3 i4⊢;refine⟨qV i1 (Nat.gcd_dvd_left _ _),λu hu f5=>?_,?_,λe he hall=>?_⟩
    ·rcases a7.mp hu with rfl|hu
     ·exact⟨rfl,qV i1 (Nat.gcd_dvd_right _ _)⟩
     ·exact i2 u hu f5
    ·rcases i3 with i3|⟨u,h1,h2⟩
     ·induction hc:decide (dv=1)&&decide (Int.fmod b c=0) using Bool.casesOn with
      |false=>rw[hc]at i3;exact .inl i3
      |true=>
       rw[hc]at i3;exact .inr ⟨.mul a c,aE,rfl,i3.symm,aM (aL.mp hc).2⟩
     ·exact .inr ⟨u,aI _ h1,h2⟩
    ·exact i4 e (Nat.dvd_gcd he (hall _ aE).2) λu hu=>hall u (aI _ hu)
   ·have e1:xG b s t=(1,s.2):=by
     unfold xG;rw[hf];clear e2 hf hm i4 i3 i2 i1 h;induction t using T.casesOn<;>first|rfl|exact absurd rfl hM
    clear e2 hf hm;rw[e1]at i1 i2 i3 i4⊢;have h1:(r.foldl (xG b) (1,s.2)).1=1:=Nat.dvd_one.mp i1;refine⟨by rw[h1];exact Nat.one_dvd _,λu hu f5=>absurd h1 f5,?_,λe he hall=>?_⟩
    ·exact i3.imp_right λ⟨u,h1,h2⟩=>⟨u,aI _ h1,h2⟩
    ·exact absurd (hall t aE).1 hM
structure GcdF(b:Int)(ts:List T)(k:Int):Prop where
 dvb:((qR b ts k:Nat):Int)∣b
 all:qR b ts k≠1->∀t∈iF b ts,sC t=true/\((qR b ts k:Nat):Int)∣g8 t
 dvr:((qR b ts k:Nat):Int)∣Int.fmod k b
 mx:∀e:Nat,(e:Int)∣b->(∀t∈iF b ts,sC t=true/\(e:Int)∣g8 t)->(e:Int)∣Int.fmod k b->e∣qR b ts k
theorem rN{b:Int}{ts:List T}{k:Int}(h:∀t∈ts,dO t=true):GcdF b ts k/\((sB b ts).2=1\/∃t∈iF b ts,sC t=true/\g8 t=(sB b ts).2/\Int.fmod b (g8 t)=0):=by
 refine uY (Gx (b:=b) (s:=(b.natAbs,1)) h) λi1 i2 i3 i4=>?_;have i1:(sB b ts).1∣b.natAbs:=i1;have hd:qR b ts k∣(sB b ts).1/\qR b ts k∣(Int.fmod k b).natAbs/\∀e,e∣(sB b ts).1->e∣(Int.fmod k b).natAbs->e∣qR b ts k:=by
  unfold qR;induction hz:decide (Int.fmod k b=0) using Bool.casesOn with
  |true=>rw[aM hz];exact⟨Nat.dvd_refl _,Nat.dvd_zero _,λe h _=>h⟩
  |false=>exact⟨Nat.gcd_dvd_left _ _,Nat.gcd_dvd_right _ _,λe h1 h2=>Nat.dvd_gcd h1 h2⟩
 refine⟨⟨g6.mpr (qV hd.1 i1),λf5 t ht=>?_,g6.mpr hd.2.1,λe h1 h2 h3=>?_⟩,i3⟩
 ·obtain⟨q1,q2⟩:=i2 t ht λz=>f5 (Nat.dvd_one.mp (by have:=hd.1;rw[show(sB b ts).1=1 from z]at this;exact this))
  exact⟨q1,g6.mpr (qV hd.1 q2)⟩
 ·exact hd.2.2 e (i4 e (g6.mp h1) λt ht=>⟨(h2 t ht).1,g6.mp (h2 t ht).2⟩) (g6.mp h3)
theorem IV(d:Nat)(t:T)(g:Int)(cs:Cs)(k:V->Cs->Option V):zX (aB fi d) (.node t) .floordiv [.int g] [] cs k=(uX d t g).bind λv=>k v cs:=by
 induction t using T.casesOn<;>rfl
theorem EY(t:T)(cs:Cs):jQ (.node t) .floordiv cs=true:=by induction t using T.casesOn<;>rfl
theorem Ah{d:Nat}{fu re:List T}{q r b e:Int}{y:T}{X:List T×Int}{cs:Cs}(hA:Fm 18 fu)(hB:Fm 18 re)(he:e≠0)(hf:jP e=true)(e1:uX d (fN (re,r)) e=some (.node y))(e2:uX d y (Int.fdiv b e)=some (.node (fN X)))(hX:Fm 18 (fu++X.1))(hd:41<=d):
  ((aB fi d 204 [V.lst ((b9 fu q).map V.node)] []).bind λv=>(aB fi d 204 [V.lst ((b9 re r).map V.node)] []).bind λw=>bif !jQ w .floordiv cs then none
    else zX (aB fi d) w .floordiv [.int e] [] cs λp cs=>(eY .FloorDiv b e).bind λq=>(cG (aB fi d) .FloorDiv p q).bind λx=>(cG (aB fi d) .Add v x).bind λy=>(a8 y cs).bind λq=>some q.1)=some (.node (fN (fu++X.1,q+X.2))):=by
 conv=>lhs;rw[bS (vW hA (bT hd rfl) ..),bS (vW hB (bT hd rfl) ..),EY,gS,bG,IV,bS (e1 ..),bS (m9 he hf ..),oR,bS (e2 ..),uO,EU (F:=(fu,q)) (G:=X) hX (hd)]
 rfl
theorem Gy{d:Nat}{fu re:List T}{q r b:Int}{X:List T×Int}{cs:Cs}(hA:Fm 18 fu)(hB:Fm 18 re)(e1:aB fi d 185 [.node (fN (re,r)),.int b] []=some (.node (fN X)))(hX:Fm 18 (fu++X.1))(hd:41<=d):
  ((aB fi d 204 [V.lst ((b9 fu q).map V.node)] []).bind λv=>(aB fi d 204 [V.lst ((b9 re r).map V.node)] []).bind λw=>((a8 w cs).bind λp=>(some ([V.int b],p.2)).map λq=>(p.1::q.1,q.2)).bind λa=>(aB fi d 185 a.1 []).bind λx=>(cG (aB fi d) .Add v x).bind λy=>(a8 y a.2).bind λq=>some q.1)=some (.node (fN (fu++X.1,q+X.2))):=by
 rw[bS (vW hA (bT hd rfl) ..),bS (vW hB (bT hd rfl) ..)];show(aB fi d 185 [.node (fN (re,r)),.int b] []).bind _=_;rw[bS (e1 ..),uO,EU (F:=(fu,q)) (G:=X) hX (hd)];rfl
theorem rJ.symm{t u:T}(h:rJ t u):rJ u t:=λc hc h1 h2=>h c hc h2 h1
theorem DJ{t u:T}:∀{ts:List T},ts.Pairwise rJ->t∈ts->u∈ts->t≠u->rJ t u
 |x::r,h,ht,hu,f5=>by
  refine oA (f7.mp h) λh1 h2=>?_;rcases a7.mp ht with e1|m1
  ·rcases a7.mp hu with e2|m2
   ·exact absurd (e1.trans e2.symm) f5
   ·rw[e1];exact h1 u m2
  ·rcases a7.mp hu with e2|m2
   ·rw[e2];exact(h1 t m1).symm
   ·exact DJ h2 m1 m2 f5
structure PF(F:List T×Int):Prop where
 tp:∀t∈F.1,Tp t
 ap:F.1.Pairwise rJ
 vcs:T.vcs F.1<=5
 k0:0<=F.2
 hi:T.his F.1+F.2<BM
theorem YZ{t:T}(h:Tp t):1<=t.vc:=by have:=h.sz;lia
theorem Cb{t:T}:∀{ts:List T},t∈ts->t.vc<=T.vcs ts
 |u::r,h=>by
  rw[T.vcs];rcases a7.mp h with rfl|h
  ·lia
  ·have:=Cb h;lia
theorem vX:∀{ts:List T},(∀t∈ts,Tp t)->ts.length<=T.vcs ts
 |[],_=>d3 _
 |t::r,h=>by
  have h1:=YZ (h t aE);have h2:=vX λu hu=>h u (aI t hu);rw[T.vcs,bL];lia
theorem vY:∀a b:List T,T.vcs (a++b)=T.vcs a+T.vcs b
 |[],b=>by rw[jN,T.vcs];lia
 |t::r,b=>by rw[kI,T.vcs,T.vcs,vY r b];lia
theorem PF.fm{F:List T×Int}(h:PF F):Fm 18 F.1:=
 ⟨λt ht=>(h.tp t ht).gt (aR (Cb ht) h.vcs),h.ap,by have:=vX h.tp;have:=h.vcs;lia⟩
theorem PF.rng{F:List T×Int}(h:PF F):0<=T.los F.1/\T.los F.1<=T.his F.1:=
 let q:=r8 λt ht=>⟨(h.tp t ht).full.rng.1,(h.tp t ht).full.rng.2.1⟩
 ⟨q.1,q.2.1⟩
def cM(l:List T):Nat:=(l.filter sC).length
def cB(b:Int)(l:List T):Nat:=(l.filter λt=>sC t&&decide (g8 t=b)).length
theorem Za(a b:List T):cM (a++b)=cM a+cM b:=by unfold cM;rw[jK,bU]
theorem qC(t:T)(r:List T):cM (t::r)=(bif sC t then 1 else 0)+cM r:=by
 unfold cM;induction h:sC t using Bool.casesOn with
 |true=>rw[cD h,bL,bV];lia
 |false=>rw[cV (by rw[h];decide),bG];lia
theorem tF{b:Int}{t:T}(h:Tp t)(hb:2<=b)(hf:full b t=true):∃a q,t=.mul a (b*q)/\1<=q/\Fr a/\uC b t=tm a q/\Tp (tm a q)/\(tm a q).vc=t.vc/\(∀x,dS x (tm a q)->dS x t)/\t.lo=b*(tm a q).lo/\t.hi=b*(tm a q).hi:=by
 have hM:sC t=true:=by
  have h1:=h.at_;induction hMm:sC t using Bool.casesOn with
  |true=>rfl
  |false=>
   have e:jM t=t:=by clear h1 hf h;induction t using T.casesOn<;>first|rfl|exact jA hMm
   clear hMm;rw[e]at h1;rw[BZ hb h1]at hf;exact bX hf
 obtain⟨a,c,rfl⟩:=sD hM;refine oA (h.mul a c rfl) λh1 h2=>?_;clear hM;obtain⟨q,rfl⟩:=(jX (by exact iB hb rfl)).mp (aM hf:Int.fmod c b=0)
 have hq:Int.fdiv (b*q) b=q:=by rw[aG _ (by exact iA hb rfl),eH _ (by exact aQ (iB hb rfl))]
 have hq1:1<=q:=by
  rcases eL q 1 with z|z
  ·have:=bY (show 0<=b by exact iA hb rfl) (show q<=0 by exact iK z rfl);lia
  ·exact z
 have mO:Fr a:=h.fr.elim id λz=>by exact bX z
 have r:=mO.nd.rng;have hle:a.hi*q<=a.hi*(b*q):=dN (by have:=cH (show 1<=b by exact iA hb rfl) (show 0<=q by exact iA hq1 rfl);lia) (by exact aO (aJ r.1 r.2.1))
 refine oA (Nx (a:=a) hq1) λt1 t2=>?_;refine Aq (Gv mO hq1 (by exact aJ hle h2)) λt3 t4 t5=>?_
 refine⟨a,q,rfl,hq1,mO,?_,t3,?_,λx z=>by rw[dS];exact t5 x z,?_,?_⟩
 ·show tm a (Int.fdiv (b*q) b)=_;rw[hq]
 ·rw[t4,T.vc,(sH mO.b).1]
 ·rw[t1,rZ,cT (aH (by exact iA h1 rfl:0<=b*q) ..),qG]
 ·rw[t2,pI,cT (aH (by exact iA h1 rfl:0<=b*q) ..),qG]
theorem N5{a:T}{q:Int}(h:Fr a):sC (tm a q)=!decide (q=1):=by
 unfold tm;induction hq:decide (q=1) using Bool.casesOn with
 |true=>rw[bV];have:=kY h.b;clear h;induction a using T.casesOn<;>first|(exact bX this;done)|rfl
 |false=>rfl
theorem Cc{b:Int}(hb:2<=b):∀{ts:List T},(∀t∈ts,Tp t)->
  T.los ts=b*T.los (tC b ts)+T.los (iF b ts)/\T.his ts=b*T.his (tC b ts)+T.his (iF b ts)/\T.vcs (tC b ts)+T.vcs (iF b ts)=T.vcs ts/\cM (tC b ts)+cB b ts+cM (iF b ts)<=cM ts/\
  (∀u∈tC b ts,Tp u/\∃t∈ts,full b t=true/\∀c,dS c u->dS c t)
 |[],_=>⟨by show(0:Int)=b*0+0;lia,by show(0:Int)=b*0+0;lia,rfl,cA _,λu hu=>(by cases hu)⟩
 |t::r,h=>by
  refine C8 (Cc hb (ts:=r) λu hu=>h u (aI _ hu)) λi1 i2 i3 i4 i5=>?_;have i5':∀u∈tC b r,Tp u/\∃t'∈t::r,full b t'=true/\∀c,dS c u->dS c t':=λu hu=>by
   refine Bt (i5 u hu) λq1 t' q2 q3=>?_;exact⟨q1,t',aI _ q2,q3⟩
  have ht:=h t aE;induction hf:full b t using Bool.casesOn with
  |true=>
   refine w6 (tF ht hb hf) λa q e0 hq1 mO e1 e2 e3 e4 e5 e6=>?_;have ef:tC b (t::r)=tm a q::tC b r:=by unfold tC;rw[cD hf,bO,e1]
   have er:iF b (t::r)=iF b r:=cV (by rw[hf];decide)
   rw[ef,er];refine⟨?_,?_,?_,?_,λu hu=>?_⟩
   ·show t.lo+T.los r=b*((tm a q).lo+T.los (tC b r))+_;rw[i1,e5,qF];lia
   ·show t.hi+T.his r=b*((tm a q).hi+T.his (tC b r))+_;rw[i2,e6,qF];lia
   ·rw[T.vcs,T.vcs,e3];lia
   ·have hm:sC t=true:=by rw[e0];rfl
    rw[qC,qC,N5 mO,cT (hm ..)];have:cB b (t::r)=(bif decide (q=1)then 1 else 0)+cB b r:=by
     unfold cB;have ec:decide (g8 t=b)=decide (q=1):=by
      rw[e0];show decide (b*q=b)=_;by_cases z:q=1
      ·rw[z,dF,aH rfl,aH rfl]
      ·rw[aK z];refine aK λy=>z ?_;exact Int.eq_of_mul_eq_mul_left (by exact aQ (iB hb rfl):b≠0) (by rw[y,dF])
     induction hd:decide (q=1) using Bool.casesOn with
     |true=>rw[cD (by rw[hm,ec,hd];rfl),bL,bV];lia
     |false=>rw[cV (by rw[hm,ec,hd];decide),bG];lia
    rw[this];induction decide (q=1) using Bool.casesOn<;>simp only[gS,g4,bV,bG]<;>lia
   ·rcases a7.mp hu with rfl|hu
    ·exact⟨e2,t,aE,hf,e4⟩
    ·exact i5' u hu
  |false=>
   have ef:tC b (t::r)=tC b r:=by unfold tC;rw[cV (by rw[hf];decide)]
   have er:iF b (t::r)=t::iF b r:=cD (by rw[hf];rfl)
   rw[ef,er];refine⟨?_,?_,?_,?_,i5'⟩
   ·show t.lo+T.los r=_+(t.lo+T.los (iF b r));lia
   ·show t.hi+T.his r=_+(t.hi+T.his (iF b r));lia
   ·rw[T.vcs,T.vcs];lia
   ·rw[qC,qC];have:cB b (t::r)=cB b r:=by
     unfold cB;rw[cV];intro z;obtain⟨z1,z2⟩:=aL.mp z;have:full b t=true:=by
      unfold full;rw[aM z2];exact aH ((jX (by exact iB hb rfl)).mpr ⟨1,by rw[dF]⟩)
     rw[hf]at this;exact bX this
    exact JG i4 this
theorem wX(b:Int)(ts:List T):∀t∈iF b ts,t∈ts/\full b t=false:=λt ht=>by
 refine oA (dC.mp ht) λh1 h2=>?_;exact⟨h1,by simpa using h2⟩
theorem PF.rest{F:List T×Int}{b:Int}(h:PF F)(hb:2<=b):PF (iF b F.1,Int.fmod F.2 b):=by
 refine C8 (Cc hb h.tp) λh1 h2 h3 _ h5=>?_;have hk:Int.fmod F.2 b=F.2%b:=aS _ (by exact iA hb rfl)
 have hr:=r8 (ts:=tC b F.1) λt ht=>⟨(h5 t ht).1.full.rng.1,(h5 t ht).1.full.rng.2.1⟩;have q1:=eE F.2 (by exact aQ (iB hb rfl):b≠0)
 have q2:=dB F.2 b;have q3:=eO (show 0<=b by exact iA hb rfl) (nX h.k0 (show 0<=b by exact iA hb rfl))
 have q4:=eO (show 0<=b by exact iA hb rfl) (show 0<=T.his (tC b F.1) by exact a6 hr.1 hr.2.1)
 have hh:=h.hi;have hv:=h.vcs;refine⟨λt ht=>h.tp t (wX b _ t ht).1,List.Pairwise.sublist (k7) h.ap,?_,?_,?_⟩
 ·show T.vcs (iF b F.1)<=5;lia
 ·show 0<=Int.fmod F.2 b;exact a6 q1 (dL hk.symm)
 ·show T.his (iF b F.1)+Int.fmod F.2 b<BM;exact JH h2 hk q2 q3 q4 hh
structure XR(re:List T)(r b:Int)(X:List T×Int):Prop where
 pf:PF X
 lo:T.los X.1+X.2=Int.fdiv (T.los re+r) b
 hi:T.his X.1+X.2=Int.fdiv (T.his re+r) b
 vcs:T.vcs X.1<=T.vcs re
 lt:∀u∈X.1,∀c,dS c u->∃t∈re,dS c t
 cnt:cM X.1<=cM re
structure Res(F:List T×Int)(b:Int)(G:List T×Int):Prop where
 pf:PF G
 lo:T.los G.1+G.2=Int.fdiv (T.los F.1+F.2) b
 hi:T.his G.1+G.2=Int.fdiv (T.his F.1+F.2) b
 vcs:T.vcs G.1<=T.vcs F.1
 lt:∀u∈G.1,∀c,dS c u->∃t∈F.1,dS c t
 cnt:cM G.1+cB b F.1<=cM F.1
 fre:1<=cB b F.1->∃t∈G.1,j5 t=true/\Fr t
theorem Res.xr{re:List T}{r b:Int}{X:List T×Int}(h:Res (re,r) b X):XR re r b X:=⟨h.pf,h.lo,h.hi,h.vcs,h.lt,by have:cM X.1+cB b re<=cM re:=h.cnt;lia⟩
theorem jH{b z y:Int}(hb:0<b):Int.fdiv (b*z+y) b=z+Int.fdiv y b:=by
 rw[aG _ (aO hb),aG _ (aO hb),kH,Int.add_mul_ediv_left _ _ (by exact aQ hb),kH]
theorem EZ{b:Int}{ts:List T}(h:1<=cB b ts):∃t∈ts,sC t=true/\g8 t=b:=by
 unfold cB at h;obtain⟨t,ht⟩:=List.exists_mem_of_length_pos h;obtain⟨h1,h2⟩:=dC.mp ht;obtain⟨h3,h4⟩:=aL.mp h2;exact⟨t,h1,h3,aM h4⟩
theorem IW{F X:List T×Int}{b:Int}(h:PF F)(hb:2<=b)(hX:XR (iF b F.1) (Int.fmod F.2 b) b X):Res F b (tC b F.1++X.1,Int.fdiv F.2 b+X.2):=by
 refine C8 (Cc hb h.tp) λh1 h2 h3 h4 h5=>?_;have ek:Int.fdiv F.2 b=F.2/b:=aG _ (by exact iA hb rfl)
 have er:Int.fmod F.2 b=F.2%b:=aS _ (by exact iA hb rfl)
 have q2:=dB F.2 b;have lo:T.los (tC b F.1++X.1)+(Int.fdiv F.2 b+X.2)=Int.fdiv (T.los F.1+F.2) b:=by
  have:T.los F.1+F.2=b*(T.los (tC b F.1)+F.2/b)+(T.los (iF b F.1)+F.2%b):=by rw[qF];lia
  have hl:=hX.lo;rw[er]at hl;rw[this,jH (by exact iB hb rfl),vT,<-hl,ek];lia
 have hi:T.his (tC b F.1++X.1)+(Int.fdiv F.2 b+X.2)=Int.fdiv (T.his F.1+F.2) b:=by
  have:T.his F.1+F.2=b*(T.his (tC b F.1)+F.2/b)+(T.his (iF b F.1)+F.2%b):=by rw[qF];lia
  have hl:=hX.hi;rw[er]at hl;rw[this,jH (by exact iB hb rfl),vS,<-hl,ek];lia
 have hr:=h.rng;have hk:=h.k0;have hM:=h.hi;have vx:=hX.vcs;refine⟨⟨λt ht=>?_,?_,?_,?_,?_⟩,lo,hi,?_,λu hu c hc=>?_,?_,λhp=>?_⟩
 ·rcases b7.mp ht with ht|ht
  ·exact(h5 t ht).1
  ·exact hX.pf.tp t ht
 ·refine iX.mpr ⟨?_,hX.pf.ap,λu hu x hx c hc hcu hcx=>?_⟩
  ·unfold tC;rw[qH];refine(List.Pairwise.sublist k7 h.ap).imp_of_mem λ{t u} ht hu q c hc h1 h2=>?_;obtain⟨m1,f1⟩:=dC.mp ht;obtain⟨m2,f2⟩:=dC.mp hu;refine pA (tF (h.tp t m1) hb f1) λa q' _ _ _ e1 _ _ e4 _=>?_;refine pA (tF (h.tp u m2) hb f2) λa' q'' _ _ _ e1' _ _ e4' _=>?_;exact q c hc (e4 c (e1▸h1)) (e4' c (e1'▸h2))
  ·refine Qw (h5 u hu) λ_ t m1 f1 g1=>?_;obtain⟨t',m2,g2⟩:=hX.lt x hx c hcx;obtain⟨m2,f2⟩:=wX b _ t' m2;exact DJ h.ap m1 m2 (λz=>by clear m2 g2;rw[z,f2]at f1;exact bX f1) c hc (g1 c hcu) g2
 ·show T.vcs (tC b F.1++X.1)<=5;rw[vY];have:=h.vcs;lia
 ·show 0<=Int.fdiv F.2 b+X.2;have:=nX hk (show 0<=b by exact iA hb rfl);have:=hX.pf.k0;exact JI ek (by assumption) this
 ·show T.his (tC b F.1++X.1)+(Int.fdiv F.2 b+X.2)<BM;rw[hi];have:=(gF (a:=T.his F.1+F.2) (b:=b) (by lia) (by exact iB hb rfl)).2;exact aJ this hM
 ·show T.vcs (tC b F.1++X.1)<=_;rw[vY];lia
 ·rcases b7.mp hu with hu|hu
  ·refine Qw (h5 u hu) λ_ t m1 _ g1=>?_;exact⟨t,m1,g1 c hc⟩
  ·obtain⟨t,m1,g1⟩:=hX.lt u hu c hc;exact⟨t,(wX b _ t m1).1,g1⟩
 ·show cM (tC b F.1++X.1)+_<=_;rw[Za];have:=hX.cnt;lia
 ·refine lY (EZ hp) λt m1 hm hc=>?_;have hf:full b t=true:=by
   unfold full;rw[hc];exact aH ((jX (by exact iB hb rfl)).mpr ⟨1,by rw[dF]⟩)
  obtain⟨a,q,e0,hq1,mO,e1,_⟩:=tF (h.tp t m1) hb hf;clear right hq1;rw[e0]at hc;have hq:q=1:=Int.eq_of_mul_eq_mul_left (by exact aQ (iB hb rfl):b≠0) (by rw[show b*q=b from hc,dF])
  refine⟨a,gG _ ?_,kY mO.b,mO⟩;have:uC b t=a:=by rw[e1,hq];unfold tm;rw[aH rfl];rfl
  rw[<-this];exact fV (dC.mpr ⟨m1,hf⟩)
def xT(ts:List T):Prop:=(∀t∈ts,Fr (jM t))\/2<=(ts.filter j5).length
theorem xT.rest{b:Int}{ts:List T}(h:xT ts)(hb:2<=b):xT (iF b ts):=by
 rcases h with h|h
 ·exact .inl λt ht=>h t (wX b ts t ht).1
 ·refine .inr ?_;have:(iF b ts).filter j5=ts.filter j5:=by
   unfold iF;rw[List.filter_filter];refine List.filter_congr λt _=>?_;induction ha:j5 t using Bool.casesOn with
   |true=>rw[BZ hb ha];rfl
   |false=>rfl
  rw[this];exact h
theorem Zb(t:T):t.nd<=(jM t).nd+1:=by
 induction t using T.casesOn with
 |mul a c=>show _<=a.nd+1;rw[T.nd];exact cA _
 |_=>exact tG _
theorem Cd:∀a b:List T,T.nds (a++b)=T.nds a+T.nds b
 |[],b=>by rw[jN,T.nds];lia
 |t::r,b=>by rw[kI,T.nds,T.nds,Cd r b];lia
theorem Bj:∀{ts:List T},(∀t∈ts,Tp t)->T.nds ts+4*ts.length<=14*T.vcs ts
 |[],_=>by rw[T.nds,T.vcs];exact cA _
 |t::r,h=>by
  have h1:=(h t aE).sz;have h2:=Zb t;have h3:=Bj (ts:=r) λu hu=>h u (aI _ hu);rw[T.nds,T.vcs,bL];lia
theorem PY(k:Int):T.vcs (b9 [] k)=0:=by
 unfold b9;induction decide (k=0) using Bool.casesOn with
 |true=>rw[bV,bW,T.vcs]
 |false=>rw[bG,jN,T.vcs,T.vcs,T.vc]
theorem Gz(k:Int):T.nds (b9 [] k)<=1:=by
 unfold b9;induction decide (k=0) using Bool.casesOn with
 |true=>rw[bV,bW,T.nds];exact d3 _
 |false=>rw[bG,jN,T.nds,T.nds,T.nd];exact cA _
theorem nf_vc:∀l:List T,(Jg l).vc=T.vcs l
 |[]=>by show(T.num 0).vc=_;rw[T.vc,T.vcs]
 |[t]=>by show t.vc=_;rw[T.vcs,T.vcs];rfl
 |a::b::r=>by show(T.sum (a::b::r)).vc=_;rw[T.vc]
theorem fN_vc(F:List T×Int):(fN F).vc=T.vcs F.1:=by rw[fN,nf_vc,Ag,vY,PY];rfl
theorem PZ{F:List T×Int}{c:Nat}(h:dS c (fN F)):∃t∈F.1,dS c t:=by
 unfold fN at h;have key:hasVs c (b9 F.1 F.2):=by
  generalize b9 F.1 F.2=l at h
  match l,h with
  |[],h=>exact absurd h (by show ¬dS c (.num 0);rw[dS];exact id)
  |[t],h=>exact wT.mpr ⟨t,aE,h⟩
  |a::b::r,h=>have h:dS c (.sum (a::b::r)):=h;rw[dS]at h;exact h
 have:dS c (.sum (b9 F.1 F.2)):=by rw[dS];exact key
 exact Bf.mp this
theorem G0{t:T}(h:Tp t)(hf:Fr (jM t)):Nd 4 t/\t.nd<=5/\t.vc=1:=by
 have hv:t.vc=1:=by rw[<-Nw];exact(sH hf.b).1
 refine⟨?_,by have:=Zb t;have:=(sH hf.b).2;lia,hv⟩
 by_cases hm:∃a c,t=.mul a c
 ·clear hv;obtain⟨a,c,rfl⟩:=hm;obtain⟨h1,h2⟩:=h.mul a c rfl;exact .mul (n:=3) hf.nd (kY hf.b) h1 h2
 ·have e:jM t=t:=by
   induction t using T.casesOn with
   |mul a c=>exact absurd ⟨a,c,rfl⟩ hm
   |_=>rfl
  have:=hf.nd;rw[e]at this;exact this.mono (by lia)
theorem Qa{W:List T×Int}(h:PF W)(hc:xT W.1)(f5:W.1≠[]):Nd (3*T.vcs W.1+2) (fN W)/\(fN W).nd+6<=14*T.vcs W.1:=by
 obtain⟨ts,k⟩:=W;have f5:ts≠[]:=f5;have hl:=iR ts k;have eW:=h.fm.len;have hv:∀t∈ts,t.vc<=T.vcs ts:=λt ht=>Cb ht;by_cases h1:ts.length=1
 ·clear hv;obtain⟨t,rfl⟩:=List.length_eq_one_iff.mp h1;have ht:=h.tp t aE;have hf:Fr (jM t):=hc.elim (λz=>z t aE) λz=>by
   have:=dM j5 [t];rw[d0]at this;have z:2<=([t].filter j5).length:=z;lia
  refine Aq (G0 ht hf) λf1 f2 f3=>?_;have ev:T.vcs [t]=1:=by rw[T.vcs,T.vcs,f3]
  show Nd (3*T.vcs [t]+2) _/\_+6<=14*T.vcs [t];rw[ev];by_cases hk:k=0
  ·clear eW hl hc h;subst hk;rw[fD];exact⟨f1.mono (by lia),by lia⟩
  ·have hs:b9 [t] k=[t,.num k]:=by unfold b9;rw[aK hk];rfl
   have e:fN ([t],k)=.sum (b9 [t] k):=by unfold fN;rw[hs];rfl
   rw[e];refine⟨.sum (n:=4) (λu hu=>?_) (λu hu=>?_) f5 (by rw[hs];exact cA _) (aX rfl) h.k0 h.hi h.ap,?_⟩
   ·rw[aN.mp hu];exact f1
   ·rw[aN.mp hu];exact(ht.gt (by exact iG (f9 f3) rfl)).term
   ·rw[hs,T.nd,T.nds,T.nds,T.nds,T.nd];lia
 ·have h2:2<=ts.length:=by
   have:=oD.mpr f5;lia
  have e:fN (ts,k)=.sum (b9 ts k):=by
   unfold fN;have:2<=(b9 ts k).length:=by exact aR h2 hl.1
   generalize b9 ts k=l at this
   match l,this with
   |_::_::_,_=>rfl
  have hvl:∀t∈ts,t.vc+1<=T.vcs ts:=λt ht=>by
   clear e h1 hv eW hl f5 hc;obtain⟨a,b,rfl⟩:=List.append_of_mem ht;rw[vY,T.vcs];have q1:=vX (ts:=a) λu hu=>h.tp u (gG _ hu);have q2:=vX (ts:=b) λu hu=>h.tp u (jU _ (aI _ hu));rw[bU,bL]at h2;lia
  have hb:=Bj h.tp;rw[e];refine⟨.sum (n:=3*T.vcs ts+1) (λu hu=>(h.tp u hu).full.mono (by have:=hvl u hu;lia)) (λu hu=>(h.fm.gt u hu).term) f5 (by exact aR h2 hl.1) eW h.k0 h.hi h.ap,?_⟩
  have:=Gz k;rw[Ag,T.nd,Cd];have hb:T.nds ts+4*ts.length<=14*T.vcs ts:=hb;show T.nds ts+_+1+6<=14*T.vcs ts
  grind
theorem wY{n:Int}(h:0<=n)(h2:n<BM):PF ([],n):=⟨by simp,.nil,by show T.vcs []<=5;rw[T.vcs];lia,h,by show(0:Int)+n<BM;lia⟩
theorem los_nil:T.los []=0:=rfl
theorem his_nil:T.his []=0:=rfl
theorem N6:cM []=0:=rfl
theorem fitq{n b:Int}(hn:n.natAbs<2^900)(hb:1<=b)(fX:b<BM):jP (-Int.fdiv n b*b)=true:=by
 refine g9 (bA (oP ?_ (gZ (by exact iA hb rfl) fX)) (by decide+kernel))
 rw[Int.natAbs_neg,aG _ (by exact iA hb rfl)]
 exact aP (iE n b) hn
theorem Ce{n b:Int}(h:0<=n)(h2:n<BM)(hb:1<=b):Res ([],n) b ([],Int.fdiv n b):=by
 have q:=gF (a:=n) (b:=b) h (hb);exact⟨wY q.1 (by exact aJ q.2 h2),by show(0:Int)+_=Int.fdiv (0+n) b;rw[cY,cY],by show(0:Int)+_=Int.fdiv (0+n) b;rw[cY,cY],cA _,λu hu=>(by cases hu),cA _,λz=>absurd z (by show ¬1<=0;lia)⟩
theorem oS{d:Nat}{n b:Int}(hn:n.natAbs<2^900)(hb:1<=b)(fX:b<BM)(hd:8<=d):uX d (.num n) b=some (.node (.num (Int.fdiv n b))):=
 BX hb (j6 (by exact iA hb rfl) fX) (fitq hn hb fX) hd
theorem Re{d:Nat}{W:List T×Int}{b:Int}(h:PF W)(hc:xT W.1)(hb:2<=b)(fX:b<BM)(hd:10<=d):∃X,aB fi d 185 [.node (fN W),.int b] []=some (.node (fN X))/\XR W.1 W.2 b X:=by
 by_cases f5:W.1=[]
 ·obtain⟨ts,k⟩:=W;have f5:ts=[]:=f5;clear hc;subst f5;have hk:k<BM:=by have:(0:Int)+k<BM:=h.hi;lia
  rw[dY,BX (by exact iA hb rfl) (j6 (by exact iA hb rfl) fX) (fitq (gZ h.k0 hk) (by exact iA hb rfl) fX) (bT hd rfl)]
  refine⟨([],Int.fdiv k b),by rw[dY],(Ce h.k0 hk (by exact iA hb rfl)).xr⟩
 ·refine jC d 9 hd λd _=>?_;obtain⟨hn,hsz⟩:=Qa h hc f5;have r:=hn.rng;obtain⟨⟨q1,q2⟩,q3⟩:=yA hn hb;rw[xF]at q1;rw[vV]at q2;rw[wW,pL r.1 (aO r.2.1) hb (j6 (by exact iA hb rfl) fX) (by exact bT (by assumption) (by rfl))]
  have rr:=h.rng;have hk:=h.k0;have hM:=h.hi;rcases q3 with⟨n,e⟩|⟨e,hd⟩
  ·rw[e]at q1 q2⊢;clear e;rw[T.lo]at q1;rw[T.hi]at q2;have p:=gF (a:=T.los W.1+W.2) (b:=b) (by lia) (by exact iB hb rfl)
   refine⟨([],n),by rw[dY],wY (by exact a6 p.1 (dL q1.symm)) (JJ rr hM q2 q1 p),by show(0:Int)+n=_;exact u4 q1,by show(0:Int)+n=_;exact u4 q2,d3 _,λu hu=>(by cases hu),d3 _⟩
  ·rw[e]at q1 q2⊢;have ev:(T.div (fN W) b).vc=T.vcs W.1:=by rw[T.vc,fN_vc]
   have vv:=h.vcs;have htp:Tp (.div (fN W) b):=⟨by rw[ev];exact hd,rfl,λa c z=>(by cases z),by rw[ev];show(T.div (fN W) b).nd+5<=_;rw[T.nd];exact hsz,.inr rfl⟩
   have e1:T.vcs [T.div (fN W) b]=T.vcs W.1:=by rw[T.vcs,T.vcs,ev];rfl
   have hp:=gF (a:=T.his W.1+W.2) (b:=b) (by lia) (by exact iB hb rfl)
   refine⟨([.div (fN W) b],0),by rw[fD],⟨λt ht=>?_,gJ _ _,by show T.vcs [T.div (fN W) b]<=5;rw[e1];exact vv,fI 0,?_⟩,?_,?_,f9 e1,λu hu c hcu=>?_,d3 _⟩
   ·rw[aN.mp ht];exact htp
   ·show(T.div (fN W) b).hi+0+0<BM;exact JK q2 hM hp
   ·show(T.div (fN W) b).lo+0+0=_;exact CC q1
   ·show(T.div (fN W) b).hi+0+0=_;exact CC q2
   ·rw[aN.mp hu,dS]at hcu;exact PZ hcu
theorem Cf{b:Int}{ts:List T}(h:∀t∈ts,full b t=true):iF b ts=[]/\tC b ts=ts.map (uC b):=by
 unfold iF tC;refine⟨jL.mpr λt ht=>by rw[h t ht];decide,?_⟩
 rw[kZ.mpr h]
theorem Bk{d:Nat}{W:List T×Int}{g:Int}(h:PF W)(hg:2<=g)(hg2:g<BM)(hf:∀t∈W.1,full g t=true)(hr:Int.fmod W.2 g=0)(hd:43<=d):uX d (fN W) g=some (.node (fN (W.1.map (uC g),Int.fdiv W.2 g))):=by
 obtain⟨ts,k⟩:=W;have hk:k.natAbs<2^900:=gZ h.k0 (by have:=h.hi;have:=h.rng;show k<BM;have h1:T.his ts+k<BM:=h.hi;have h2:0<=T.los ts/\T.los ts<=T.his ts:=h.rng;lia)
 have fg:=j6 (show 0<=g by exact iA hg rfl) hg2
 match ts,h,hf with
 |[],h,_=>
  rw[dY,oS hk (by exact iA hg rfl) hg2 (bT hd rfl)]
  show _=some (V.node (fN ([],Int.fdiv k g)));rw[dY]
 |t::ts,h,hf=>
  by_cases h1:2<=(b9 (t::ts) k).length
  ·have hfm:=h.fm;have e:fN (t::ts,k)=.sum (b9 (t::ts) k):=by
    unfold fN;generalize b9 (t::ts) k=l at h1
    match l,h1 with
    |_::_::_,_=>rfl
   refine jC d 42 hd λd _=>?_;refine NP (sc (d:=d) (b:=g) hfm (by simp) h1 hg hg2 (λu hu z=>by rw[hf u hu]at z;exact jA z) hk (by exact bT (by assumption) (by rfl))) λx ex e2=>?_
   obtain⟨r1,r2⟩:=Cf (b:=g) hf;have hr:Int.fmod k g=0:=hr;have eg:((qR g (t::ts) k:Nat):Int)=g:=by
    obtain⟨gf,_⟩:=rN (b:=g) (k:=k) λu hu=>(hfm.gt u hu).term;have m:=gf.mx g.toNat (by rw[n9 (by exact iA hg rfl)];exact Int.dvd_refl _) (λu hu=>by rw[r1]at hu;cases hu) (by rw[hr];exact Int.dvd_zero _)
    have dv:=gf.dvb;have m2:g∣((qR g (t::ts) k:Nat):Int):=by
     have:=Int.ofNat_dvd.mpr m;rwa [n9 (by exact iA hg rfl)]at this
    exact Int.dvd_antisymm (g5 _) (by exact iA hg rfl) dv m2
   rw[e,e2,Ca,eg,cT (aH (by exact hg:1<g) ..),r1,r2,hr]
   have hp:=(IW h hg (X:=([],0)) (by
    rw[show iF g (t::ts,k).1=[]from r1,show Int.fmod (t::ts,k).2 g=0 from hr];refine⟨wY (fI 0) (by decide+kernel),?_,?_,cA _,λu hu=>(by cases hu),cA _⟩
    ·show(0:Int)+0=Int.fdiv (0+0) g;rw[cY,fP]
    ·show(0:Int)+0=Int.fdiv (0+0) g;rw[cY,fP])).pf.fm
   rw[show tC g (t::ts,k).1=(t::ts).map (uC g)from r2]at hp;have z0:uX d (fN ([],0)) g=some (.node (.num 0)):=by
    rw[dY,oS (by decide+kernel) (by exact iA hg rfl) hg2 (by exact bT (by assumption) (by rfl)),fP]
   have z1:uX d (.num 0) (Int.fdiv g g)=some (.node (fN ([],0))):=by
    rw[show Int.fdiv g g=1 by rw[aG _ (by exact iA hg rfl),Int.ediv_self (by exact aQ (iB hg rfl))],oS (by decide+kernel) (by lia) (by decide+kernel) (by exact bT (by assumption) (by rfl)),fP,dY]
   have hp':Fm 18 ((t::ts).map (uC g)):=by simpa using hp
   rw[Ah (X:=([],0)) hp' (Fm.nil 18) (by exact aQ (iB hg rfl)) fg z0 z1 (by simpa using hp') (by exact bT (by assumption) (by rfl))]
   simp
  ·have hl:=iR (t::ts) k;have hts:ts=[]:=by
    induction ts using List.casesOn with
    |nil=>rfl
    |cons a b=>simp at hl h1;lia
   subst hts;have hk0:k=0:=by
    by_cases z:k=0
    ·exact z
    ·exact absurd (by unfold b9;rw[aK z];exact cA 2) h1
   clear hl h1 hr hk;subst hk0;have ht:=h.tp t aE;refine tH (tF ht hg (hf t aE)) λa q e0 hq1 mO e1 _=>?_;rw[fP,fD];show _=some (V.node (fN ([uC g t],0)));rw[fD,e0];have gt:=ht.gt (by rw[<-Nw,e0];show a.vc<=5;rw[(sH mO.b).1];lia)
   obtain⟨g0,_,g2⟩:=gt.mul a (g*q) e0;exact rM mO.nd (kY mO.b) (by exact iA hg rfl) hg2 ⟨q,rfl⟩ g0 g2 (bT hd rfl)
theorem Fm.left{n:Nat}{a b:List T}(h:Fm n (a++b)):Fm n a:=
 ⟨λt ht=>h.gt t (gG _ ht),(iX.mp h.ap).1,by have:=h.len;rw[bU]at this;lia⟩
theorem Fa{F:List T×Int}(h:PF F):F.2<BM:=by have:=h.hi;have:=h.rng;lia
theorem rO{ts:List T}{k:Int}(h:¬2<=(b9 ts k).length)(f5:ts≠[]):∃t,ts=[t]/\k=0:=by
 have hl:=iR ts k;induction ts using JE with
 |nil=>exact absurd rfl f5
 |one t=>
  refine⟨t,rfl,?_⟩;by_cases z:k=0
  ·exact z
  ·exact absurd (by unfold b9;rw[aK z];exact cA 2) h
 |two a b r=>simp at hl h;lia
theorem tY{b:Int}{t:T}(h:1<=cB b [t]):sC t=true/\g8 t=b:=by
 refine lY (EZ h) λu hu h1 h2=>?_;rw[aN.mp hu]at h1 h2;exact⟨h1,h2⟩
theorem N7{d:Nat}{F:List T×Int}{b:Int}(h:PF F)(hc:xT F.1)(hs:¬2<=(b9 F.1 F.2).length)(hb:1<=b)(fX:b<BM)(hd:10<=d):∃G,uX d (fN F) b=some (.node (fN G))/\Res F b G:=by
 obtain⟨ts,k⟩:=F;by_cases f5:ts=[]
 ·clear hs hc;subst f5;have hk:k<BM:=Fa h;exact⟨([],Int.fdiv k b),by rw[dY,dY,oS (gZ h.k0 hk) hb fX (bT hd rfl)],Ce h.k0 hk hb⟩
 ·obtain⟨t,rfl,rfl⟩:=rO hs f5;have ht:=h.tp t aE;have hf:Fr (jM t):=hc.elim (λz=>z t aE) λz=>by
   have:=dM j5 [t];rw[d0]at this;have z:2<=([t].filter j5).length:=z;lia
  refine Aq (G0 ht hf) λf1 f2 f3=>?_;have ev:T.vcs [t]=1:=by rw[T.vcs,T.vcs,f3]
  have fin:∀r,uX d t b=some (.node r)->ResT t b r->(sC t=true->g8 t=b->j5 r=true/\Fr r)->(sC t=false->sC r=false)->∃G,uX d (fN ([t],0)) b=some (.node (fN G))/\Res ([t],0) b G:=λr e hr hM hP=>by
   rw[fD,e];have l1:T.los [t]+0=t.lo:=by show t.lo+0+0=_;lia
   have l2:T.his [t]+0=t.hi:=by show t.hi+0+0=_;lia
   have rr:=f1.rng;have p1:=gF (a:=t.hi) (b:=b) (by exact aO (aJ rr.1 rr.2.1)) (hb)
   have p2:=gF (a:=t.lo) (b:=b) (by exact rr.1) (hb)
   rcases hr.or_ with⟨n,rfl⟩|⟨h1,h2,h3⟩
   ·have e1:=hr.lo;have e2:=hr.hi;rw[T.lo]at e1;rw[T.hi]at e2;refine⟨([],n),by rw[dY],wY (by exact a6 p2.1 (dL e1.symm)) (by exact aJ (a6 (dL e2) p1.2) rr.2.2),?_,?_,d3 _,λu hu=>(by cases hu),?_,λz=>?_⟩
    ·show(0:Int)+n=Int.fdiv (T.los [t]+0) b;rw[l1];exact u4 e1
    ·show(0:Int)+n=Int.fdiv (T.his [t]+0) b;rw[l2];exact u4 e2
    ·show 0+cB b [t]<=cM [t];by_cases z:1<=cB b [t]
     ·obtain⟨q1,q2⟩:=tY z;have:=(hM q1 q2).1;exact bX this
     ·lia
    ·obtain⟨q1,q2⟩:=tY z;have:=(hM q1 q2).1;exact bX this
   ·have e3:T.vcs [r]=r.vc:=by rw[T.vcs,T.vcs];rfl
    refine⟨([r],0),by rw[fD],⟨λu hu=>by rw[aN.mp hu];exact h1,gJ _ _,by show T.vcs [r]<=5;exact aR (aR (f9 e3) h2) (iG (f9 f3) rfl),fI 0,?_⟩,?_,?_,by show T.vcs [r]<=T.vcs [t];exact h2,λu hu c hcu=>?_,?_,λz=>?_⟩
    ·show r.hi+0+0<BM;rw[hr.hi];exact JL l2 rr p1
    ·show r.lo+0+0=Int.fdiv (T.los [t]+0) b;rw[l1,hr.lo];exact CD
    ·show r.hi+0+0=Int.fdiv (T.his [t]+0) b;rw[l2,hr.hi];exact CD
    ·rw[aN.mp hu]at hcu;exact⟨t,aE,h3 c hcu⟩
    ·show cM [r]+cB b [t]<=cM [t];by_cases z:1<=cB b [t]
     ·obtain⟨q1,q2⟩:=tY z;have ha:=(hM q1 q2).1;have:sC r=false:=by clear e3 h3 h2 h1 hP hM hr e;induction r using T.casesOn<;>first|rfl|(exact bX ha;done)
      rw[qC,qC,this,q1,bG,bV];have:cB b [t]<=1:=dM _ _;lia
     ·have q:cB b [t]=0:=by lia
      rw[q,qC,qC];induction hMt:sC t using Bool.casesOn with
      |true=>induction sC r using Bool.casesOn<;>simp[N6]
      |false=>rw[hP hMt];simp[N6]
    ·obtain⟨q1,q2⟩:=tY z;obtain⟨q3,q4⟩:=hM q1 q2;exact⟨r,aE,q3,q4⟩
  by_cases hm:∃a c,t=.mul a c
  ·clear ev f3 f2 f1 hs hc h f5;obtain⟨a,c,rfl⟩:=hm;obtain⟨m1,m2⟩:=ht.mul a c rfl;refine lY (EX (a:=a) (d:=d) hf m1 m2 hb fX (hd)) λr e1 e2 e3=>?_;refine fin r e1 e2 (λ_ hcb=>?_) λz=>by exact jA z
   have hcb:c=b:=hcb;clear e2 e1 fin fX hb;subst hcb;have:r=a:=by
    rw[e3 (Int.dvd_refl c),show Int.fdiv c c=1 by rw[aG _ (by exact iA m1 rfl),Int.ediv_self (by exact aQ (iB m1 rfl))]]
    unfold tm;rw[aH rfl];rfl
   rw[this];exact⟨kY hf.b,hf⟩
  ·have e:jM t=t:=by
    induction t using T.casesOn with
    |mul a c=>exact absurd ⟨a,c,rfl⟩ hm
    |_=>rfl
   clear ev f2 f1;rw[e]at hf;refine i8 (Nv (d:=d) hf hb fX (bT hd rfl)) λr e1 e2=>?_;refine fin r e1 (e2.toT (by exact f9 f3.symm)) (λz=>absurd (sD z) hm) λ_=>?_
   rcases e2.or_ with⟨n,rfl⟩|⟨q,_⟩
   ·rfl
   ·have:=kY q.b;clear right q e2 e1;induction r using T.casesOn<;>first|rfl|(exact bX this;done)
theorem Cg{p:T->Bool}{x y:T}:∀{l:List T},x∈l->y∈l->x≠y->p x=true->p y=true->2<=(l.filter p).length
 |a::r,hx,hy,f5,px,py=>by
  have one:∀{z:T},z∈r->p z=true->1<=(r.filter p).length:=λhz pz=>oD.mpr (List.ne_nil_of_mem (dC.mpr ⟨hz,pz⟩));rcases a7.mp hx with e1|m1
  ·rcases a7.mp hy with e2|m2
   ·exact absurd (e1.trans e2.symm) f5
   ·rw[cD (by rw[<-e1];exact px),bL];have:=one m2 py;lia
  ·rcases a7.mp hy with e2|m2
   ·rw[cD (by rw[<-e2];exact py),bL];have:=one m1 px;lia
   ·have:=Cg m1 m2 f5 px py;induction ha:p a using Bool.casesOn with
    |true=>rw[cD ha,bL];exact bD (jZ this)
    |false=>rw[cV (by rw[ha];decide)];exact this
theorem Rf(b:Int)(ts:List T):cM (iF b ts)<=cM ts:=by
 unfold cM iF;exact((k7).filter sC).length_le
theorem Rg{b:Int}{ts:List T}{t:T}(ht:t∈ts)(h1:sC t=true)(h2:g8 t=b):1<=cB b ts:=
 oD.mpr (List.ne_nil_of_mem (dC.mpr ⟨ht,by rw[h1,h2,aH rfl];rfl⟩))
theorem XR.trans{W Y X:List T×Int}{e b:Int}(h1:Res W e Y)(he:1<=e)(hd:e∣b)(hb:1<=b)(h2:Res Y (Int.fdiv b e) X):XR W.1 W.2 b X:=by
 obtain⟨q,rfl⟩:=hd;have hq:Int.fdiv (e*q) e=q:=by rw[aG _ (by exact iA he rfl),eH _ (by exact aQ (iB he rfl))]
 have hq1:1<=q:=by
  rcases eL q 1 with z|z
  ·have:=bY (show 0<=e by exact iA he rfl) (show q<=0 by exact iK z rfl);lia
  ·exact z
 rw[hq]at h2;refine⟨h2.pf,by rw[h2.lo,h1.lo,kG (he) (hq1)],by rw[h2.hi,h1.hi,kG (he) (hq1)],aR h2.vcs h1.vcs,λu hu c hc=>?_,by have:=h1.cnt;have:=h2.cnt;lia⟩
 refine i8 (h2.lt u hu c hc) λt m g=>?_;exact h1.lt t m c g
def ST(m:Nat):Prop:=∀(F:List T×Int) (b:Int) (d:Nat),PF F->xT F.1->1<=b->b<BM->cM (iF b F.1)<=m->45+2*m<=d->∃G,uX d (fN F) b=some (.node (fN G))/\Res F b G
def SQ(m:Nat):Prop:=∀(F:List T×Int) (b:Int) (d:Nat),PF F->xT F.1->2<=b->b<BM->cM (iF b F.1)<=m->44+2*m<=d->(2<=(b9 F.1 F.2).length->¬(1:Int)<qR b F.1 F.2)->∃G,uX d (fN F) b=some (.node (fN G))/\Res F b G
theorem uQ{F:List T×Int}(h:2<=(b9 F.1 F.2).length):fN F=.sum (b9 F.1 F.2):=by
 unfold fN;generalize b9 F.1 F.2=l at h
 match l,h with
 |_::_::_,_=>rfl
theorem Fb{F:List T×Int}(h:2<=(b9 F.1 F.2).length):F.1≠[]:=λe=>by
 have:=(iR F.1 F.2).2;rw[e]at this h;simp at this;exact i7 _ (aZ (bT h rfl) this)
theorem Zc{m:Nat}(ih:∀m',m'<m->ST m'):SQ m:=λF b d h hc hb fX hcm hd hg=>by
 by_cases hs:2<=(b9 F.1 F.2).length
 ·have hg:=hg hs;refine jC d (43+2*m) (by lia) λd _=>?_
  have f5:=Fb hs;have hk:=gZ h.k0 (Fa h);have hterm:∀t∈F.1,dO t=true:=λt ht=>(h.fm.gt t ht).term;obtain⟨x,ex,e⟩:=sc (d:=d) h.fm f5 hs hb fX (λu hu _=>by
   have hu:=h.tp u hu;induction u using T.casesOn with
   |mul a c=>have:=(hu.mul a c rfl).1;show 0<c;exact iB this rfl
   |_=>show(0:Int)<1;decide) hk (by lia)
  have hW:=h.rest hb;have hCW:=hc.rest hb;rw[uQ hs,e,Ca,cF (aK hg ..)];by_cases hdv:1<(sB b F.1).2
  ·rw[cT (aH hdv ..)];refine oA (rN (b:=b) (k:=F.2) hterm) λ_ hsc=>?_;refine nZ (hsc.resolve_left (by exact aQ hdv)) λt0 h1 h2 h3 h4=>?_
   generalize (sB b F.1).2=dv at hdv h3⊢;rw[h3]at h4;have hdb:=(jX (by exact iC hdv rfl)).mp h4
   have hdl:=eR (by exact iB hb rfl) hdb
   have cb:=Rg (b:=dv) (ts:=iF b F.1) h1 h2 h3;refine C8 (Cc (b:=dv) (hdv) hW.tp) λ_ _ _ hv4 _=>?_;have hv4:cM (tC dv (iF b F.1))+cB dv (iF b F.1)+cM (iF dv (iF b F.1))<=cM (iF b F.1):=hv4;clear hd;obtain⟨m,rfl⟩:∃m',m=m'+1:=⟨m-1,by lia⟩
   obtain⟨Y,y1,y2⟩:=ih m (fL m) (iF b F.1,Int.fmod F.2 b) dv d hW hCW (by exact aO hdv) (by exact aJ hdl fX) (by show cM (iF dv (iF b F.1))<=m;lia) (by lia)
   have hq:dv*Int.fdiv b dv=b:=by
    rw[aG _ (by exact iD hdv rfl)];exact Int.mul_ediv_cancel' hdb
   have hq1:1<=Int.fdiv b dv:=by
    rcases eL (Int.fdiv b dv) 1 with z|z
    ·have:=bY (show 0<=dv by exact iD hdv rfl) (show Int.fdiv b dv<=0 by exact iK z rfl);exact CE hb hdb hq this
    ·exact z
   have hql:Int.fdiv b dv<=b:=(gF (by exact iA hb rfl) (by exact iC hdv rfl)).2
   refine lY (y2.fre cb) λy0 m0 a0 r0=>?_;have hCY:xT Y.1:=by
    by_cases hall:∀t∈Y.1,Fr (jM t)
    ·exact .inl hall
    ·obtain⟨u,hu⟩:=Classical.not_forall.mp hall;obtain⟨mu,nu⟩:=Classical.not_imp.mp hu;have au:=(y2.pf.tp u mu).fr.resolve_left nu;refine .inr (Cg mu m0 (λz=>nu ?_) au a0);rw[z,(sA a0).1];exact r0
   have hyc:cM Y.1+cB dv (iF b F.1)<=cM (iF b F.1):=y2.cnt;obtain⟨X,x1,x2⟩:=ih m (fL m) Y (Int.fdiv b dv) d y2.pf hCY hq1 (by exact aJ hql fX) (by have:=Rf (Int.fdiv b dv) Y.1;exact JM cb hcm hyc this) (by lia)
   have hX:=IW h hb (XR.trans y2 (by exact aO hdv) hdb (by exact iA hb rfl) x2)
   have hf:=hX.pf.fm;exact⟨_,Ah hf.left hW.fm (by exact aQ (iC hdv rfl)) (j6 (by exact iD hdv rfl) (by exact aJ hdl fX)) y1 x1 hf (by lia),hX⟩
  ·rw[cF (aK hdv ..)];refine i8 (Re (d:=d) hW hCW hb fX (by lia)) λX x1 x2=>?_
   have hX:=IW h hb x2;have hf:=hX.pf.fm;exact⟨_,Gy hf.left hW.fm x1 hf (by lia),hX⟩
 ·exact N7 h hc hs (by exact iA hb rfl) fX (by lia)
theorem uR{a:T}{q:Int}(h:j5 a=true):jM (tm a q)=a/\g8 (tm a q)=q:=by
 unfold tm;by_cases z:q=1
 ·rw[cT (aH z ..),z];exact sA h
 ·rw[aK z];exact⟨rfl,rfl⟩
theorem G3(d:Nat)(l:List T):uX (d+2) (.sum l) 1=some (.node (.sum l)):=by
 show aB fi (d+1+1) 620 [.node (.sum l),.int 1] []=_;rw[N2,YY];rfl
theorem Zd{m:Nat}(hq:SQ m):ST m:=λF b d h hc hb fX hcm hd=>by
 by_cases hs:2<=(b9 F.1 F.2).length
 ·by_cases hb1:b=1
  ·clear hcm fX hb;subst hb1;refine jC d (44+2*m) (by lia) λd _=>?_
   refine jC d (43+2*m) (by lia) λd _=>?_
   have c0:cB 1 F.1=0:=by
    by_cases z:1<=cB 1 F.1
    ·refine lY (EZ z) λt m1 m2 m3=>?_;obtain⟨a,c,rfl⟩:=sD m2;have:=((h.tp _ m1).mul a c rfl).1;have m3:c=1:=m3;lia
    ·lia
   exact⟨F,by rw[uQ hs,G3],⟨h,(lU _).symm,(lU _).symm,cA _,λu hu c hcu=>⟨u,hu,hcu⟩,by lia,λz=>by lia⟩⟩
  ·have hb3:2<=b:=by lia
   by_cases hg:(1:Int)<qR b F.1 F.2
   ·refine jC d (44+2*m) (by lia) λd _=>?_
    have f5:=Fb hs;have hk:=gZ h.k0 (Fa h);have hterm:∀t∈F.1,dO t=true:=λt ht=>(h.fm.gt t ht).term;obtain⟨x,ex,e⟩:=sc (d:=d) h.fm f5 hs hb3 fX (λu hu _=>by
     have hu:=h.tp u hu;induction u using T.casesOn with
     |mul a c=>have:=(hu.mul a c rfl).1;show 0<c;exact iB this rfl
     |_=>show(0:Int)<1;decide) hk (by lia)
    have hW:=h.rest hb3;have hCW:=hc.rest hb3;refine oA (rN (b:=b) (k:=F.2) hterm) λgf _=>?_;rw[uQ hs,e,Ca,cT (aH hg ..)];have gall:=gf.all (by lia)
    have gdb:=gf.dvb;have gdr:=gf.dvr;have gmx:=gf.mx;generalize hgN:qR b F.1 F.2=gN at hg gall gdb gdr gmx⊢;have gle:=eR (hb) gdb;have hfull:∀t∈iF b F.1,full gN t=true:=λt ht=>aH ((jX (by exact iC hg rfl)).mpr (gall t ht).2)
    have hr0:Int.fmod (Int.fmod F.2 b) gN=0:=(jX (by exact iC hg rfl)).mpr gdr
    have y1:=Bk (d:=d) hW (g:=gN) (CF hg) (CG fX gle) hfull hr0 (JN hcm (by assumption))
    refine oA (Cf hfull) λr1 r2=>?_;have y2:Res (iF b F.1,Int.fmod F.2 b) gN ((iF b F.1).map (uC gN),Int.fdiv (Int.fmod F.2 b) gN):=by
     have:=IW hW (b:=gN) (hg) (X:=([],0)) (by
      rw[show iF (gN:Int) (iF b F.1,Int.fmod F.2 b).1=[]from r1,show Int.fmod (iF b F.1,Int.fmod F.2 b).2 gN=0 from hr0];exact⟨wY (fI 0) (by decide+kernel),by show(0:Int)+0=Int.fdiv (0+0) gN;rw[cY,fP],by show(0:Int)+0=Int.fdiv (0+0) gN;rw[cY,fP],cA _,λu hu=>(by cases hu),cA _⟩)
     rw[show tC (gN:Int) (iF b F.1,Int.fmod F.2 b).1=(iF b F.1).map (uC gN)from r2]at this;simpa using this
    have hbq:(gN:Int)*Int.fdiv b gN=b:=by rw[aG _ (by exact iD hg rfl)];exact Int.mul_ediv_cancel' gdb
    have hq1:1<=Int.fdiv b gN:=by
     rcases eL (Int.fdiv b gN) 1 with z|z
     ·have:=bY (show 0<=(gN:Int) by exact iD hg rfl) (show Int.fdiv b gN<=0 by exact iK z rfl);exact JO hb hb1 gdb hbq this
     ·exact z
    have hql:Int.fdiv b gN<=b:=(gF (by exact iA hb rfl) (by exact iC hg rfl)).2
    have hrr:=N3 (k:=F.2) (b:=b) (hb) fX;have hqo:∀t∈iF b F.1,∃a q,t=.mul a (gN*q)/\Fr a/\uC gN t=tm a q:=λt ht=>by
     refine tH (tF (hW.tp t ht) (hg) (hfull t ht)) λa q e0 _ mO e1 _=>?_;exact⟨a,q,e0,mO,e1⟩
    have fin:∃X,uX d (fN ((iF b F.1).map (uC gN),Int.fdiv (Int.fmod F.2 b) gN)) (Int.fdiv b gN)=some (.node (fN X))/\Res ((iF b F.1).map (uC gN),Int.fdiv (Int.fmod F.2 b) gN) (Int.fdiv b gN) X:=by
     by_cases hq2:Int.fdiv b gN=1
     ·clear hqo hql;rw[hq2,dF]at hbq;have n1:iF b F.1=[]:=List.eq_nil_iff_forall_not_mem.mpr λt ht=>by
       have h1:=hfull t ht;rw[hbq,(wX b F.1 t ht).2]at h1;exact bX h1
      have n2:Int.fmod F.2 b=0:=by
       rw[hbq]at gdr;rcases eL 0 (Int.fmod F.2 b)with z|z
       ·have:=eR z gdr;exact JP hrr this
       ·exact lI z hrr.2.1
      rw[n1,n2,hq2,fP];exact⟨([],Int.fdiv 0 1),by rw[show([]:List T).map (uC gN)=[]from rfl,dY,dY,oS (by decide+kernel) (by exact a6 hq1 (dL hq2)) (by decide+kernel) (by lia)],Ce (fI 0) (by decide+kernel) (by exact a6 hq1 (dL hq2))⟩
     ·refine hq _ (Int.fdiv b gN) d y2.pf (.inl λu hu=>?_) (JQ gdb hq1 hq2) (by exact aJ hql fX) ?_ (by assumption) λ_ hlt=>?_
      ·obtain⟨t,ht,rfl⟩:=bR.mp hu;refine fM (hqo t ht) λa q _ mO e1=>?_;rw[e1,(uR (kY mO.b)).1];exact mO
      ·have:=y2.cnt;have c1:=Rf (Int.fdiv b gN) ((iF b F.1).map (uC gN));have:cM ((iF b F.1).map (uC gN))+cB gN (iF b F.1)<=cM (iF b F.1):=this;show cM (iF (Int.fdiv b gN) ((iF b F.1).map (uC gN)))<=m;lia
      ·refine oA (rN (b:=Int.fdiv b gN) (k:=Int.fdiv (Int.fmod F.2 b) gN) λt ht=>(y2.pf.fm.gt t ht).term) λyf _=>?_;have hlt:(1:Int)<qR (Int.fdiv b gN) ((iF b F.1).map (uC gN)) (Int.fdiv (Int.fmod F.2 b) gN):=hlt;have ya:=yf.all (λz=>by rw[z]at hlt;exact absurd hlt (by decide))
       have yb:=yf.dvb;have yr:=yf.dvr;generalize qR (Int.fdiv b gN) ((iF b F.1).map (uC gN)) (Int.fdiv (Int.fmod F.2 b) gN)=e at hlt ya yb yr;have key:=gmx (gN*e) (by
        rw[Int.natCast_mul,<-hbq];exact j9 _ yb) (λt ht=>by
        refine⟨(gall t ht).1,?_⟩;refine fM (hqo t ht) λa q e0 mO e1=>?_;have hmem:uC gN t∈iF (Int.fdiv b gN) ((iF b F.1).map (uC gN)):=dC.mpr ⟨fV ht,by
         have nf:=(wX b F.1 t ht).2;rw[e1];induction hz:full (Int.fdiv b gN) (tm a q) using Bool.casesOn with
         |false=>rfl
         |true=>
          have z:Int.fmod (g8 (tm a q)) (Int.fdiv b gN)=0:=aM hz;rw[(uR (kY mO.b)).2]at z;have z:=j9 (gN:Int) ((jX (hq1)).mp z);rw[hbq]at z;have:full b t=true:=by rw[e0];exact aH ((jX (hb)).mpr z)
          rw[nf]at this;exact bX this⟩
        have:=(ya _ hmem).2;rw[e1,(uR (kY mO.b)).2]at this;rw[e0,Int.natCast_mul];exact j9 _ this) (by
        have hr1:(gN:Int)*Int.fdiv (Int.fmod F.2 b) gN=Int.fmod F.2 b:=by rw[aG _ (by exact iD hg rfl)];exact Int.mul_ediv_cancel' gdr
        have hr2:Int.fmod (Int.fdiv (Int.fmod F.2 b) gN) (Int.fdiv b gN)=Int.fdiv (Int.fmod F.2 b) gN:=by
         rw[aS _ (by exact iA hq1 rfl)]
         refine qE (gF hrr.2.1 (by exact iC hg rfl)).1 ?_
         rcases eL (Int.fdiv (Int.fmod F.2 b) gN) (Int.fdiv b gN)with z|z
         ·exact z
         ·have:=dN z (show 0<=(gN:Int) by exact iD hg rfl);exact JR gdb gdr hbq hrr hr1 this
        rw[hr2]at yr;rw[Int.natCast_mul,<-hr1];exact j9 _ yr)
       have:=Nat.le_of_dvd (JS hgN hg) key;have e2:2<=e:=by lia
       have:=d5 gN e2;lia
    refine i8 (fin) λX x1 x2=>?_;have hX:=IW h hb3 (XR.trans y2 (by exact aO hg) gdb (hb) x2)
    have hf:=hX.pf.fm;exact⟨_,Ah hf.left hW.fm (by exact aQ (iC hg rfl)) (j6 (by exact iD hg rfl) (CH fX gle hbq)) y1 x1 hf (JT hcm (by assumption)),hX⟩
   ·exact hq F b d h hc hb3 fX hcm (by lia) λ_=>hg
 ·exact N7 h hc hs hb fX (by lia)
theorem Ze:∀m,ST m:=λm=>by
 induction m using Nat.strongRecOn with
 |_ m ih=>exact Zd (Zc ih)
theorem Ai{F:List T×Int}{b:Int}{d:Nat}(h:PF F)(hc:xT F.1)(hb:1<=b)(fX:b<BM)(hd:55<=d):∃G,uX d (fN F) b=some (.node (fN G))/\Res F b G:=by
 refine Ze 5 F b d h hc hb fX ?_ (hd);have:=vX h.tp;have:=h.vcs;have:cM (iF b F.1)<=F.1.length:=aR (dM _ _) (dM _ _);lia
set_option tactic.hygienic true
theorem ends{d:Nat}{ts:List T}{k b q:Int}{t:T}{x:V}{ex:Ev}{fu:List T}(hterm:∀t∈ts,dO t=true)(hb:2<=b)(fX:b<BM)(hW:PF (iF b ts,Int.fmod k b))(hCW:xT (iF b ts))(hfu:Fm 18 fu)(hX:∀X,XR (iF b ts) (Int.fmod k b) b X->Fm 18 (fu++X.1))(hd:55<=d):
  ∃X,XR (iF b ts) (Int.fmod k b) b X/\dR (R4 d) (Eu.body.drop 9) (lE t b (.int (qR b ts k)) (.int (sB b ts).2) x ex) (gO ((b9 fu q).map V.node) ((b9 (iF b ts) (Int.fmod k b)).map V.node)) kR kN=some (.node (fN (fu++X.1,q+X.2))):=by
 refine oA (rN (b:=b) (k:=k) hterm) λgf hsc=>?_;rw[Ca];by_cases hg:(1:Int)<qR b ts k
 ·rw[cT (aH hg ..)];have gall:=gf.all (λz=>by rw[z]at hg;exact absurd hg (by decide))
  have gdb:=gf.dvb;have gdr:=gf.dvr;generalize qR b ts k=gN at hg gall gdb gdr⊢;have gle:=eR (by exact iB hb rfl) gdb
  have hfull:∀t∈iF b ts,full gN t=true:=λt ht=>aH ((jX (by exact iC hg rfl)).mpr (gall t ht).2)
  have hr0:Int.fmod (Int.fmod k b) gN=0:=(jX (by exact iC hg rfl)).mpr gdr
  have y1:=Bk (d:=d) hW (g:=gN) (CF hg) (CG fX gle) hfull hr0 (by exact bT hd rfl)
  refine oA (Cf hfull) λr1 r2=>?_;have y2:Res (iF b ts,Int.fmod k b) gN ((iF b ts).map (uC gN),Int.fdiv (Int.fmod k b) gN):=by
   have:=IW hW (b:=gN) (hg) (X:=([],0)) (by
    rw[show iF (gN:Int) (iF b ts,Int.fmod k b).1=[]from r1,show Int.fmod (iF b ts,Int.fmod k b).2 gN=0 from hr0];exact⟨wY (fI 0) (by decide+kernel),by show(0:Int)+0=Int.fdiv (0+0) gN;rw[cY,fP],by show(0:Int)+0=Int.fdiv (0+0) gN;rw[cY,fP],cA _,λu hu=>(by cases hu),cA _⟩)
   rw[show tC (gN:Int) (iF b ts,Int.fmod k b).1=(iF b ts).map (uC gN)from r2]at this;simpa using this
  have hbq:(gN:Int)*Int.fdiv b gN=b:=by rw[aG _ (by exact iD hg rfl)];exact Int.mul_ediv_cancel' gdb
  have hq1:1<=Int.fdiv b gN:=by
   rcases eL (Int.fdiv b gN) 1 with z|z
   ·have:=bY (show 0<=(gN:Int) by exact iD hg rfl) (show Int.fdiv b gN<=0 by exact iK z rfl);exact JU hb gdb hbq this
   ·exact z
  have hql:Int.fdiv b gN<=b:=(gF (by exact iA hb rfl) (by exact iC hg rfl)).2
  obtain⟨X,x1,x2⟩:=Ai (d:=d) (b:=Int.fdiv b gN) y2.pf (.inl λu hu=>by
   obtain⟨t,ht,rfl⟩:=bR.mp hu;refine tH (tF (hW.tp t ht) (hg) (hfull t ht)) λa q e0 _ mO e1 _=>?_;rw[e1,(uR (kY mO.b)).1];exact mO) hq1 (by exact aJ hql fX) hd
  have hR:=XR.trans y2 (by exact aO hg) gdb (by exact iA hb rfl) x2
  exact⟨X,hR,Ah hfu hW.fm (by exact aQ (iC hg rfl)) (j6 (by exact iD hg rfl) (CH fX gle hbq)) y1 x1 (hX X hR) (by exact bT hd rfl)⟩
 ·rw[cF (aK hg ..)];by_cases hdv:1<(sB b ts).2
  ·rw[cT (aH hdv ..)];refine nZ (hsc.resolve_left (by exact aQ hdv)) λt0 h1 h2 h3 h4=>?_
   generalize (sB b ts).2=dv at hdv h3⊢;rw[h3]at h4;have hdb:=(jX (by exact iC hdv rfl)).mp h4
   have hdl:=eR (by exact iB hb rfl) hdb
   have cb:=Rg (b:=dv) (ts:=iF b ts) h1 h2 h3;obtain⟨Y,y1,y2⟩:=Ai (d:=d) (b:=dv) hW hCW (by exact aO hdv) (by exact aJ hdl fX) hd
   have hq:dv*Int.fdiv b dv=b:=by
    rw[aG _ (by exact iD hdv rfl)];exact Int.mul_ediv_cancel' hdb
   have hq1:1<=Int.fdiv b dv:=by
    rcases eL (Int.fdiv b dv) 1 with z|z
    ·have:=bY (show 0<=dv by exact iD hdv rfl) (show Int.fdiv b dv<=0 by exact iK z rfl);exact CE hb hdb hq this
    ·exact z
   have hql:Int.fdiv b dv<=b:=(gF (by exact iA hb rfl) (by exact iC hdv rfl)).2
   refine lY (y2.fre cb) λy0 m0 a0 r0=>?_;have hCY:xT Y.1:=by
    by_cases hall:∀t∈Y.1,Fr (jM t)
    ·exact .inl hall
    ·obtain⟨u,hu⟩:=Classical.not_forall.mp hall;obtain⟨mu,nu⟩:=Classical.not_imp.mp hu;have au:=(y2.pf.tp u mu).fr.resolve_left nu;refine .inr (Cg mu m0 (λz=>nu ?_) au a0);rw[z,(sA a0).1];exact r0
   obtain⟨X,x1,x2⟩:=Ai (d:=d) (b:=Int.fdiv b dv) y2.pf hCY hq1 (by exact aJ hql fX) hd
   have hR:=XR.trans y2 (by exact aO hdv) hdb (by exact iA hb rfl) x2
   exact⟨X,hR,Ah hfu hW.fm (by exact aQ (iC hdv rfl)) (j6 (by exact iD hdv rfl) (by exact aJ hdl fX)) y1 x1 (hX X hR) (bT hd rfl)⟩
  ·rw[cF (aK hdv ..)];refine i8 (Re (d:=d) hW hCW hb fX (bT hd rfl)) λX x1 x2=>?_;exact⟨X,x2,Gy hfu hW.fm x1 (hX X x2) (bT hd rfl)⟩
structure Lt(t:T):Prop where
 gt:Gt 18 t
 fr:Fr (jM t)
 vd:vR (jM t)=true\/∃e l h m,jM t=.mod (.var e l h) m
theorem yB{n:Nat}{t:T}(h:Gt n t):scl 1 t=t:=by
 unfold scl tm;rw[dF];by_cases hm:∃a c,t=.mul a c
 ·obtain⟨a,c,rfl⟩:=hm;show(bif decide (c=1)then a else .mul a c)=_;rw[aK (h.mul a c rfl).2.1];rfl
 ·refine oA (tA h λa k e=>hm ⟨a,k,e⟩) λe1 e2=>?_;rw[e1,e2];rfl
theorem Zf{d:Nat}{a:T}(h:Fr a)(hv:vR a=true\/∃e l h m,a=.mod (.var e l h) m)(hd:8<=d):uX d a 1=some (.node a):=by
 have f1:jP 1=true:=by decide+kernel
 have var1:∀(d:Nat) (e:Str) (l h:Int),uX (d+1) (.var e l h) 1=some (.node (.var e l h)):=λd e l h=>by
  show aB fi (d+1) 185 [.node (.var e l h),.int 1] []=_
  rw[wW,tB]
 refine jC d 7 hd λd _=>?_
 refine jC d 6 (by assumption) λd _=>?_
 rcases hv with hv|⟨e,l,hh,m,rfl⟩
 ·induction a using T.casesOn with
  |var e l h=>exact var1 _ _ _ _
  |div x b=>
   induction x using T.casesOn<;>first|(exact bX hv;done)|skip
   rename_i e l hh
   exact h.nd.divI λn hx h1 h2=>by
    have r:=hx.rng
    have hbm:=lN r.1 (aO r.2.1) (by exact iB h1 rfl) h2
    show aB fi (d+1+1) 488 [.node (.div (.var e l hh) b),.int 1] []=_
    conv=>lhs;rw[Nr,mG (by rw[dF];exact j6 (by exact iA h1 rfl) (by exact aJ hbm r.2.2)),dF,aF,oR]
    show((aB fi (d+1) 185 [.node (.var e l hh),.int b] []).bind _)=_
    rw[wW,pL r.1 (aO r.2.1) h1 (j6 (by exact iA h1 rfl) (by exact aJ hbm r.2.2)) (by exact bT (by assumption) (by rfl))]
    unfold NS
    rw[aK (by exact iV h2:¬Int.fdiv (T.var e l hh).lo b=Int.fdiv (T.var e l hh).hi b)];rfl
  |_=>exact bX hv
 ·exact h.nd.modI λn hy hv h1 h2=>by
   have r:=hy.rng
   have hbm:=lN r.1 (aO r.2.1) (by exact iB h1 rfl) h2
   show aB fi (d+1+1) 536 [.node (.mod (.var e l hh) m),.int 1] []=_
   conv=>lhs;rw[Rc,jT (by decide) f1,aF,mD,aF,fU,aF,aH (by rw[aS _ (by decide),Int.emod_one]:Int.fmod m 1=0),bV,var1,aF,m9 (by decide) f1,lU,aF,
    Af _ rfl,x8 r.1 (aO r.2.1) h1 (j6 (by exact iA h1 rfl) (by exact aJ hbm r.2.2)) h2 (by lia)]
   rfl
theorem N8{d:Nat}{F:List T×Int}(h:Fm 18 F.1)(hl:∀t∈F.1,Lt t)(hk:F.2.natAbs<2^900)(hd:10<=d):uX d (fN F) 1=some (.node (fN F)):=by
 by_cases hs:2<=(b9 F.1 F.2).length
 ·refine jC d 9 hd λd _=>?_;refine jC d 8 (by assumption) λd _=>?_
  rw[uQ hs,G3]
 ·obtain⟨ts,k⟩:=F;by_cases f5:ts=[]
  ·clear hs hl h;subst f5;rw[dY,oS hk (by decide) (by decide+kernel) (bT hd rfl),lU]
  ·obtain⟨t,rfl,rfl⟩:=rO hs f5;have ht:=hl t aE;rw[fD];by_cases hm:∃a c,t=.mul a c
   ·clear hs hk hl h f5;obtain⟨a,c,rfl⟩:=hm;refine Aq (ht.gt.mul a c rfl) λm0 m1 m2=>?_;show aB fi d 440 [.node (.mul a c),.int 1] []=_;rw[rM (a:=a) ht.gt.nd ht.gt.at_ (by decide) (by decide+kernel) (Int.one_dvd c) m0 m2 (bT hd rfl),lU]
    unfold tm;rw[aK m1];rfl
   ·refine oA (tA ht.gt λa k e=>hm ⟨a,k,e⟩) λe1 _=>?_;have:=ht.fr;have hv:=ht.vd;rw[e1]at this hv;exact Zf this hv (bT hd rfl)
set_option tactic.hygienic false
theorem N9{n:Nat}{t:T}(h:Gt n t):tm (jM t) (g8 t)=t:=by have:=yB h;unfold scl at this;rwa [dF]at this
theorem vZ{n:Nat}{b:Int}{t:T}(h:Gt n t)(hb:2<=b):full b (scl b t)=true/\uC b (scl b t)=t:=by
 refine oA (qB (c:=b) h.at_) λe1 e2=>?_;unfold full uC;rw[e1,e2,aG _ (by exact iA hb rfl),n8 _ (by exact aQ (iB hb rfl))]
 exact⟨aH ((jX (by exact iB hb rfl)).mpr ⟨g8 t,by rw[d8]⟩),N9 h⟩
theorem Rh{t:T}:∀{ts:List T},(∀u∈ts,Tp u)->t∈ts->t.hi-t.lo<=T.his ts-T.los ts
 |u::r,h,ht=>by
  have h1:=(h u aE).full.rng;have hr:=r8 (ts:=r) λv hv=>⟨(h v (aI _ hv)).full.rng.1,(h v (aI _ hv)).full.rng.2.1⟩;show _<=u.hi+T.his r-(u.lo+T.los r);rcases a7.mp ht with rfl|ht
  ·lia
  ·have:=Rh (λv hv=>h v (aI _ hv)) ht;lia
theorem NA{b:Int}{R:List T}(hR:∀t∈R,Tp t)(hb:2<=b)(hw:T.his R-T.los R<b):∀t∈R,full b t=false:=λt ht=>by
 induction hf:full b t using Bool.casesOn with
 |false=>rfl
 |true=>
  refine w6 (tF (hR t ht) hb hf) λa q e0 hq mO _ h1 _ _ e5 e6=>?_;have hw':=Rh hR ht;have r:=h1.full.rng;have:b*1<=b*((tm a q).hi-(tm a q).lo):=dN (by lia) (by exact iA hb rfl)
  rw[Int.mul_sub]at this;lia
theorem DK{X:List T×Int}(h:PF X)(e:T.los X.1=T.his X.1):X.1=[]:=by
 by_cases f5:X.1=[]
 ·exact f5
 ·have:=(r8 λt ht=>⟨(h.tp t ht).full.rng.1,(h.tp t ht).full.rng.2.1⟩).2.2.1 f5;lia
theorem Qb{d:Nat}{L R:List T}{c rc b:Int}(hL:Fm 18 L)(hR:∀t∈R,Tp t)(mO:∀t∈R,Fr (jM t))(hW:Fm 18 (L.map (scl b)++R))(hb:2<=b)(fX:T.his R+b<BM)(h0:0<=T.los R+rc)(h1:T.his R+rc<b)(hk:(c*b+rc).natAbs<2^900)
  (hcb:∀t∈L,(g8 t*b).natAbs<2^900) (hv:T.vcs R<=5) (hd:56<=d):uX d (fN (L.map (scl b)++R,c*b+rc)) b=some (.node (fN (L,c))):=by
 refine jC d 55 hd λd _=>?_;have hrr:=r8 (ts:=R) λt ht=>⟨(hR t ht).full.rng.1,(hR t ht).full.rng.2.1⟩;have hbM:b<BM:=by lia
 have nf:=NA hR hb (by lia)
 have hz:=dB rc b;have hz1:=eE rc (by exact aQ (iB hb rfl):b≠0)
 have hz2:=dW rc (by exact iB hb rfl:0<b)
 have eq:Int.fdiv (c*b+rc) b=c+rc/b:=by rw[d8,jH (by exact iB hb rfl),aG _ (by exact iA hb rfl)]
 have er:Int.fmod (c*b+rc) b=rc%b:=by rw[aS _ (by exact iA hb rfl),kH,jY]
 have apR:R.Pairwise rJ:=(iX.mp hW.ap).2.1;have fz:∀y:Int,0<=y->y<b->Int.fdiv y b=0:=λy q1 q2=>by rw[aG _ (by exact iA hb rfl),cS q1 q2]
 by_cases hs:2<=(b9 (L.map (scl b)++R) (c*b+rc)).length
 ·have f5:=Fb (F:=(L.map (scl b)++R,c*b+rc)) hs;obtain⟨x,ex,e⟩:=sc (d:=d) hW f5 hs hb hbM (λu hu hf=>by
   rcases b7.mp hu with hu|hu
   ·obtain⟨t,ht,rfl⟩:=bR.mp hu;clear hu;rw[(vZ (hL.gt t ht) hb).1]at hf;exact jA hf
   ·have hu:=hR u hu;induction u using T.casesOn with
    |mul a c=>have:=(hu.mul a c rfl).1;show 0<c;exact iB this rfl
    |_=>show(0:Int)<1;decide) hk (by exact bT (by assumption) (by rfl))
  have e1:iF b (L.map (scl b)++R)=R:=by
   unfold iF;rw[jK,jL.mpr λu hu=>by
    obtain⟨t,ht,rfl⟩:=bR.mp hu;rw[(vZ (hL.gt t ht) hb).1];decide,kZ.mpr λt ht=>by rw[nf t ht];rfl]
   rfl
  have e2:tC b (L.map (scl b)++R)=L:=by
   unfold tC;rw[jK,kZ.mpr λu hu=>by
    obtain⟨t,ht,rfl⟩:=bR.mp hu;exact(vZ (hL.gt t ht) hb).1,jL.mpr λt ht=>by rw[nf t ht];decide,bW,iW]
   exact(i9 λt ht=>(vZ (hL.gt t ht) hb).2).trans (List.map_id L)
  have hPF:PF (R,rc%b):=⟨hR,apR,hv,hz1,by show T.his R+rc%b<BM;lia⟩
  have xr:∀X,XR R (rc%b) b X->X.1=[]/\X.2= -(rc/b):=λX hX=>by
   have a1:=hX.lo;have a2:=hX.hi;rw[show T.los R+rc%b=b*(-(rc/b))+(T.los R+rc) by rw[iU];lia,jH (by exact iB hb rfl),fz _ h0 (by lia)]at a1
   rw[show T.his R+rc%b=b*(-(rc/b))+(T.his R+rc) by rw[iU];lia,jH (by exact iB hb rfl),fz _ (by lia) h1]at a2
   have hc:=DK hX.pf (by lia)
   clear a2;rw[hc]at a1;exact⟨hc,by have:(0:Int)+X.2= -(rc/b)+0:=a1;lia⟩
  rw[e1,er,e2]at e;obtain⟨X,x1,x2⟩:=ends (d:=d) (t:=.sum (b9 (L.map (scl b)++R) (c*b+rc))) (x:=x) (ex:=ex) (q:=Int.fdiv (c*b+rc) b) (ts:=L.map (scl b)++R) (k:=c*b+rc) (fu:=L) (λt ht=>(hW.gt t ht).term) hb hbM (by rw[e1,er];exact hPF) (by rw[e1];exact .inl mO) hL
   (λX hX=>by rw[e1,er]at hX;rw[(xr X hX).1,bW];exact hL) (by assumption)
  rw[e1,er]at x1 x2;refine oA (xr X x1) λn1 n2=>?_;rw[uQ (F:=(L.map (scl b)++R,c*b+rc)) hs];show uX (d+1) (.sum (b9 (L.map (scl b)++R) (c*b+rc))) b=_;rw[e,x2,n1,n2,bW,eq];show some (V.node (fN (L,c+rc/b+ -(rc/b))))=_;rw[show c+rc/b+ -(rc/b)=c by lia]
 ·by_cases hn:L.map (scl b)++R=[]
  ·refine oA (gQ.mp hn) λn1 n2=>?_;have n1:=oG.mp n1;clear hn hs apR nf hrr hv hcb fX hW mO hR hL;subst n1 n2;have h0:(0:Int)<=0+rc:=h0;have h1:(0:Int)+rc<b:=h1;show uX (d+1) (fN ([],c*b+rc)) b=_;rw[dY,dY,oS hk (by exact iA hb rfl) hbM (by lia),eq,cS (by lia) (by lia),dK]
  ·refine i8 (rO hs hn) λt ht hz0=>?_;rw[ht,hz0];induction L using List.casesOn with
   |nil=>
    have hRt:R=[t]:=ht;clear ht hn hW nf;subst hRt;have l1:T.los [t]=t.lo:=by show t.lo+0=_;lia
    have l2:T.his [t]=t.hi:=by show t.hi+0=_;lia
    refine i8 (N7 (d:=d+1) (F:=([t],0)) (b:=b) ⟨hR,apR,hv,fI 0,by show T.his [t]+0<BM;lia⟩ (.inl mO) (by rw[hz0]at hs;exact hs) (by exact iA hb rfl) hbM (by lia)) λG g1 g2=>?_
    rw[g1];have a1:T.los G.1+G.2=Int.fdiv (T.los [t]+0) b:=g2.lo;have a2:T.his G.1+G.2=Int.fdiv (T.his [t]+0) b:=g2.hi;have hrc:rc=b*(-c):=by rw[iU,d8];lia
    rw[show T.los [t]+0=b*c+(T.los [t]+rc) by rw[hrc,iU];lia,jH (by exact iB hb rfl),fz _ h0 (by lia)]at a1
    rw[show T.his [t]+0=b*c+(T.his [t]+rc) by rw[hrc,iU];lia,jH (by exact iB hb rfl),fz _ (by lia) h1]at a2
    have hc:=DK g2.pf (by lia)
    obtain⟨G1,G2⟩:=G;have hc:G1=[]:=hc;clear a2 g2 g1;subst hc;have a1:(0:Int)+G2=c+0:=a1;rw[show G2=c by exact JV (by assumption) a1]
   |cons u L'=>
    have hl:(scl b u::(L'.map (scl b)++R))=[t]:=ht;obtain⟨f1,f2⟩:=List.cons.inj hl;obtain⟨f3,f4⟩:=gQ.mp f2;have f3:=oG.mp f3;clear f2 hl ht hn hW apR nf hrr hv fX mO hR;subst f3 f4 f1;have h0:(0:Int)<=0+rc:=h0;have h1:(0:Int)+rc<b:=h1;have hrc0:rc=0:=by
     have:b∣rc:=⟨-c,by rw[iU,d8];lia⟩
     rcases eL 0 rc with z|z
     ·have:=eR z this;grind
     ·grind
    have hc0:c=0:=by
     rw[hrc0,dK]at hz0;exact(Int.mul_eq_zero.mp hz0).resolve_right (by exact aQ (iB hb rfl))
    clear hs hz0 er eq hk;subst hc0;have hu:=hL.gt u aE;have hcu:=(hu.tm (d:=39) (cA _)).2;rw[fD,fD];have hm:scl b u=.mul (jM u) (g8 u*b):=by
     unfold scl tm;rw[aK];rfl;intro z;have:b∣1:=⟨g8 u,by rw[d8];exact z.symm⟩
     have:=eR (by decide) this;exact qT _ (eN (iB hb rfl) this)
    rw[hm];show aB fi (d+1) 440 [.node (.mul (jM u) (g8 u*b)),.int b] []=_;rw[rM hu.nd hu.at_ (by exact iA hb rfl) hbM ⟨g8 u,d8 _ _⟩ (nY hcu (by exact aQ (iB hb rfl))) (hcb u aE) (by lia),aG _ (by exact iA hb rfl),n8 _ (by exact aQ (iB hb rfl)),N9 hu]
def Ji(d:Nat)(t:T)(b:Int):Option V:=(gU t .mod).bind λf=>aB fi d f [.node t,.int b] []
theorem G4(d:Nat)(t:T)(b:Int):cG (aB fi d) .Mod (.node t) (.int b)=Ji d t b:=rfl
theorem Ri(d:Nat)(a:T)(c b:Int):aB fi (d+1) 447 [.node (.mul a c),.int b] []=(eY .Mod c b).bind λv=>(cG (aB fi d) .Mult (.node a) v).bind λv=>((a8 v []).bind λp=>(some ([V.int b],p.2)).map λq=>(p.1::q.1,q.2)).bind λv=>(aB fi d 199 v.1 []).bind λx=>(a8 x v.2).bind λq=>some q.1:=(cR rfl rfl rfl rfl).trans (by kernel_rfl)
theorem Rj(d:Nat)(a:T)(c b:Int):aB fi (d+1) 528 [.node (.mod a c),.int b] []=(eY .Mod c b).bind λv=>(j3 (aB fi d) .Eq v (.int 0)).bind λv=>(eM v []).bind λz=>
  bif z then(Ji d a b).bind λv=>(a8 v []).bind λq=>some q.1 else(aB fi d 199 [.node (.mod a c),.int b] []).bind λv=>(a8 v []).bind λq=>some q.1:=(cR rfl rfl rfl rfl).trans (by kernel_rfl)
noncomputable def Rl:X:=.ite (.call (.bi .isinstance) [(.var 5),(.tup [(.glob 331),(.glob 471)])] []) (.bin .Mod (.var 5) (.var 2)) (.var 5)
theorem sp625(d:Nat)(l:List T)(b:Int):aB fi (d+1) 625 [.node (.sum l),.int b] []=(aB fi d 86 [.node (.sum l),.int b] []).bind λv=>(eM v []).bind λz=>
  bif z then(aB fi d 331 [.int 0] []).bind λv=>(a8 v []).bind λq=>some q.1
  else((bif Nat.ble (l.map V.node).length 1000 then some (l.map V.node,[])else none).bind λp=>(dH (bJ (aB fi d) 37) [5] [] [(1,.node (.sum l)),(2,.int b)] (fR (bJ (aB fi d) 37) Rl) p.1 p.2).map λq=>gT (.lst q.1) q.2).bind λv=>
   ((a8 v.1 v.2).bind λp=>(some ([],p.2)).map λq=>(p.1::q.1,q.2)).bind λv=>(aB fi d 204 v.1 []).bind λw=>((a8 w v.2).bind λp=>(some ([V.int b],p.2)).map λq=>(p.1::q.1,q.2)).bind λv=>(aB fi d 199 v.1 []).bind λx=>(a8 x v.2).bind λq=>some q.1:=(cR rfl rfl rfl rfl).trans (by kernel_rfl)
theorem Zg(d:Nat)(v:V)(u:T)(b:Int):fR (bJ (aB fi d) 37) Rl [(1,v),(2,.int b),(5,.node u)] []=((bif j5 u||n7 u then some (V.node u)else Ji d u b).bind λx=>some (x,([]:Cs))).bind λx=>(a8 x.1 x.2).map λy=>([y.1],y.2):=by
 show((bJ (aB fi d) 37).ev Rl [(1,v),(2,.int b),(5,.node u)] []).bind _=_;rw[D4];induction u using T.casesOn<;>kernel_rfl
theorem DL{d:Nat}{v:V}{b:Int}{g:T->T}:∀{l:List T},(∀u∈l,(bif j5 u||n7 u then some (V.node u)else Ji d u b)=some (.node (g u)))->dH (bJ (aB fi d) 37) [5] [] [(1,v),(2,.int b)] (fR (bJ (aB fi d) 37) Rl) (l.map V.node) []=some ((l.map g).map V.node,[])
 |[],_=>rfl
 |u::r,h=>by
  show((fR (bJ (aB fi d) 37) Rl [(1,v),(2,.int b),(5,.node u)] []).bind λq=>(dH (bJ (aB fi d) 37) [5] [] [(1,v),(2,.int b)] (fR (bJ (aB fi d) 37) Rl) (r.map V.node) q.2).map λz=>(q.1++z.1,z.2))=_;rw[Zg,h u aE];show(dH (bJ (aB fi d) 37) [5] [] [(1,v),(2,.int b)] (fR (bJ (aB fi d) 37) Rl) (r.map V.node) []).map _=_;rw[DL λu hu=>h u (aI _ hu)];rfl
theorem fit_q{n S:Int}(hS:1<=S)(hS2:S<BM)(hn:n.natAbs<2^900):jP (S*Int.fdiv n S)=true:=by
 refine g9 (bA (oP (gZ (by exact iA hS rfl) hS2) ?_) (by decide+kernel))
 rw[aG _ (by exact iA hS rfl)]
 exact aP (iE n S) hn
theorem Aj{d:Nat}{n S:Int}(hS:1<=S)(hS2:S<BM)(hn:n.natAbs<2^900)(hd:8<=d):aB fi d 199 [.node (.num n),.int S] []=some (.node (.num (Int.fmod n S))):=by
 by_cases h1:S=1
 ·clear hS2 hS;subst h1;refine jC d 7 hd λd _=>?_;refine jC d 6 (by assumption) λd _=>?_
  rw[tX,aS _ (by decide),Int.emod_one]
 ·have el:(fN ([],n)).lo=n:=by rw[xF];exact cY n
  have eh:(fN ([],n)).hi=n:=by rw[vV];exact cY n
  conv=>lhs;rw[<-dY n,x9 (n:=0) (F:=([],n)) (Fm.nil 0) (by lia) (j6 (by exact iA hS rfl) hS2) (by rw[el,eh]) (by rw[el];exact fit_q hS hS2 hn) (bT hd rfl),el,dY]
  have:n+ -(S*Int.fdiv n S)=Int.fmod n S:=by
   rw[aG _ (by exact iA hS rfl),aS _ (by exact iA hS rfl)]
   have:=dB n S;lia
  rw[this]
theorem Ch{d:Nat}{a:T}{c S:Int}(ha:j5 a=true)(hS:1<=S)(hS2:S<BM)(hc:S∣c)(hd:10<=d):aB fi d 447 [.node (.mul a c),.int S] []=some (.node (.num 0)):=by
 refine jC d 9 hd λd _=>?_;refine jC d 8 (by assumption) λd _=>?_
 refine jC d 7 (by assumption) λd _=>?_
 conv=>lhs;rw[Ri,jT (by exact aQ (iB hS rfl)) (j6 (by exact iA hS rfl) hS2),(jX (hS)).mpr hc,aF,pK _ ha,PP,aF]
 show(aB fi (d+2) 199 [.node (.num 0),.int S] []).bind _=_;rw[Aj hS hS2 (by decide+kernel) (by lia),Int.zero_fmod];rfl
theorem NB{d:Nat}{a:T}{c S:Int}(h:Gt 18 (.mul a c))(hc:2<=c)(hS2:S<BM)(hl:a.hi*c<S)(hd:46<=d):aB fi d 447 [.node (.mul a c),.int S] []=some (.node (.mul a c)):=by
 refine jC d 45 hd λd _=>?_;have r:0<=a.lo/\a.lo<a.hi/\a.hi<BM:=h.nd.rng;have hcs:c<S:=by have:1*c<=a.hi*c:=cH (by lia) (by exact iA hc rfl);lia
 have em:Int.fmod c S=c:=by rw[aS _ (by exact aO (aJ (iA hc rfl) hcs)),qE (by exact iA hc rfl) hcs]
 have h00:0<=a.lo*c:=eO r.1 (by exact iA hc rfl)
 have hll:a.lo*c<a.hi*c:=gP r.2.1 (by exact iB hc rfl)
 conv=>lhs;rw[Ri,jT (by exact aQ (aJ (iA hc rfl) hcs)) (j6 (by exact aO (aJ (iA hc rfl) hcs)) hS2),em,aF,pK (a:=a) _ h.at_,BV (a:=a) h.nd (by exact aQ (iB hc rfl)) (gZ (by exact iA hc rfl) (by exact cX hcs hS2)) (by exact bT (by assumption) (by rfl)),aF]
 have et:tm a c=.mul a c:=by unfold tm;rw[aK (by exact aQ (iB hc rfl))];rfl
 rw[et];show(aB fi d 199 [.node (.mul a c),.int S] []).bind _=_;have el:(fN ([T.mul a c],0)).lo=a.lo*c:=by rw[fD,rZ,aH (by exact iA hc rfl:0<=c)];rfl
 have eh:(fN ([T.mul a c],0)).hi=a.hi*c:=by rw[fD,pI,aH (by exact iA hc rfl:0<=c)];rfl
 have z1:Int.fdiv (a.lo*c) S=0:=by rw[aG _ (by exact aO (aJ (iA hc rfl) hcs)),cS h00 (by exact cX hll hl)]
 have z2:Int.fdiv (a.hi*c) S=0:=by rw[aG _ (by exact aO (aJ (iA hc rfl) hcs)),cS (by exact aO (aJ h00 hll)) hl]
 have:=x9 (n:=18) (d:=d) (F:=([T.mul a c],0)) (m:=S) ⟨λt ht=>by rw[aN.mp ht];exact h,gJ _ _,aX rfl⟩ (by exact aO (aJ hc hcs)) (j6 (by exact aO (aJ (iA hc rfl) hcs)) hS2) (by rw[el,eh,z1,z2]) (by rw[el,z1,Int.mul_zero];decide+kernel) (by exact bT (by assumption) (by rfl))
 rw[el,z1,fD]at this;rw[this];show some (V.node (fN ([T.mul a c],0+ -(S*0))))=_;rw[Int.mul_zero,show(0:Int)+ -0=0 by decide,fD]
theorem m199{d:Nat}{pt:List T}{pc S j r:Int}(h:Fm 18 pt)(hS:2<=S)(hS2:S<BM)(h0:0<=T.los pt+pc)(h01:T.los pt<=T.his pt)(h1:T.his pt+pc<S)(hr:r=S*j+pc)(hf:jP (S*j)=true)(hd:43<=d):aB fi d 199 [.node (fN (pt,r)),.int S] []=some (.node (fN (pt,pc))):=by
 have fz:∀y:Int,0<=y->y<S->Int.fdiv y S=0:=λy q1 q2=>by rw[aG _ (by exact iA hS rfl),cS q1 q2]
 have el:Int.fdiv (fN (pt,r)).lo S=j:=by
  rw[xF];show Int.fdiv (T.los pt+r) S=j;rw[hr,show T.los pt+(S*j+pc)=S*j+(T.los pt+pc) by lia,jH (by exact iB hS rfl),fz _ h0 (by lia)];lia
 have eh:Int.fdiv (fN (pt,r)).hi S=j:=by
  rw[vV];show Int.fdiv (T.his pt+r) S=j;rw[hr,show T.his pt+(S*j+pc)=S*j+(T.his pt+pc) by lia,jH (by exact iB hS rfl),fz _ (by lia) h1];lia
 rw[x9 (n:=18) (F:=(pt,r)) h hS (j6 (by exact iA hS rfl) hS2) (by rw[el,eh]) (by rw[el];exact hf) (hd),el]
 show some (V.node (fN (pt,r+ -(S*j))))=_;rw[show r+ -(S*j)=pc by lia]
def wZ(S:Int):T->List T×Int
 |.num n=>([],Int.fmod n S)
 |u=>bif sC u&&full S u then([],0)else([u],0)
theorem Bl{S:Int}{t:T}(h:dO t=true):wZ S t=bif sC t&&full S t then([],0)else([t],0):=by induction t using T.casesOn<;>first|(exact bX h;done)|rfl
theorem DM{S k:Int}:∀{ts:List T},(∀t∈ts,dO t=true)->((b9 ts k).map (wZ S)).flatMap (·.1)=ts.filter (λu=>!(sC u&&full S u))/\(((b9 ts k).map (wZ S)).map (·.2)).sum=Int.fmod k S
 |[],_=>by
  unfold b9;induction h:decide (k=0) using Bool.casesOn with
  |true=>rw[aM h,Int.zero_fmod];exact⟨rfl,rfl⟩
  |false=>exact⟨rfl,by simp[wZ]⟩
 |t::r,h=>by
  refine oA (DM (S:=S) (k:=k) (ts:=r) λu hu=>h u (aI _ hu)) λh1 h2=>?_;show((wZ S t::(b9 r k).map (wZ S)).flatMap (·.1))=_/\((wZ S t::(b9 r k).map (wZ S)).map (·.2)).sum=_;rw[Bl (h t aE),b8,h1,bO (f:=λx:List T×Int=>x.2),eJ,h2];induction hb:sC t&&full S t using Bool.casesOn with
  |true=>rw[cV (by rw[hb];decide)];exact⟨rfl,by show 0+_=_;exact CJ⟩
  |false=>rw[cD (by rw[hb];rfl)];exact⟨rfl,by show 0+_=_;exact CJ⟩
theorem G5{n:Nat}{t:T}{S:Int}(_:Gt n t)(hS:2<=S):scl S t=.mul (jM t) (g8 t*S):=by
 unfold scl tm;rw[aK];rfl;intro z;have:S∣1:=⟨g8 t,by rw[d8];exact z.symm⟩
 have:=eR (by decide) this;exact qT _ (eN (iB hS rfl) this)
theorem Ak{d:Nat}{a:T}(h:vR a=true)(S:Int):Ji d a S=aB fi d 199 [.node a,.int S] []:=by induction a using T.casesOn<;>first|(exact bX h;done)|rfl
theorem Zh{t a:T}{k pc S:Int}(hS:1<=S)(q1:Tp t)(q3:sC t=true->0<=pc)(h1:T.his [t]+pc<S)(e:t=.mul a k):2<=k/\0<=pc/\a.hi*k<S/\full S (.mul a k)=false:=by
 subst e;refine oA (q1.mul a k rfl) λm1 _=>?_;have p0:=q3 rfl;have eh:(T.mul a k).hi=a.hi*k:=by rw[pI,aH (iA m1 rfl:0<=k)];rfl
 have hh:(T.mul a k).hi+0+pc<S:=h1;rw[eh]at hh;have rr:0<=a.lo/\a.lo<a.hi/\a.hi<BM:=q1.nd.rng;clear q1 q3 h1 eh;have:1*k<=a.hi*k:=cH (Int.add_one_le_of_lt (aJ rr.1 rr.2.1)) (iA m1 rfl);have hk:a.hi*k<S:=by lia
 refine⟨m1,p0,hk,aK λz=>?_⟩;have:=eR (iB m1 rfl) ((jX (iB hS rfl)).mp (show Int.fmod k S=0 from z));lia
theorem tm_z{c pc S:Int}(h:c*S+pc=0)(h0:0<=pc)(h1:pc<S):pc=0:=by
 have:S∣pc:=⟨-c,by rw[iU,d8];lia⟩
 rcases eL 0 pc with z|z
 ·exact absurd (eR z this) (nD.mpr h1)
 ·exact lI z h0
theorem NC{pt:List T}{u:T}(h:pt=[]\/∃t,pt=[t])(hu:u∈pt):pt=[u]:=by
 rcases h with z|⟨t,e⟩
 ·rw[z]at hu;cases hu
 ·rw[e]at hu⊢;rw[aN.mp hu]
theorem Qc{d:Nat}{H pt:List T}{S:Int}{u:T}(hH:Fm 18 H)(hpt:pt=[]\/∃t,pt=[t])(hpm:∀a k,pt=[.mul a k]->2<=k/\a.hi*k<S)(hS:1<=S)(hS2:S<BM)(hg:Gt 18 u)(hu:u∈H.map (scl S)++pt)(hd:46<=d):
  (bif j5 u||n7 u then some (V.node u)else Ji d u S)=some (.node (fN (wZ S u))):=by
 rw[Bl hg.term];induction hm:sC u using Bool.casesOn with
 |false=>
  have ha:j5 u=true:=by
   have:=hg.at_;clear hg hu;induction u using T.casesOn<;>first|rfl|(exact bX this;done)|(exact jA hm;done)
  rw[ha];show some (V.node u)=some (V.node (fN ([u],0)));rw[fD]
 |true=>
  refine NP (sD hm) λa k e=>?_;rw[e]at hg hu⊢;show aB fi d 447 [.node (.mul a k),.int S] []=some (V.node (fN (bif true&&full S (.mul a k)then([],0)else([.mul a k],0))));induction hf:full S (.mul a k) using Bool.casesOn with
  |true=>
   rw[Ch (a:=a) (c:=k) hg.at_ hS hS2 ((jX (iB hS rfl)).mp (aM hf)) (bT hd rfl)];show _=some (V.node (fN ([],0)));rw[dY]
  |false=>
   show _=some (V.node (fN ([.mul a k],0)));rw[fD];have:T.mul a k∈pt:=by
    rcases b7.mp hu with hu|hu
    ·refine i8 (bR.mp hu) λt ht e=>?_;have:full S (scl S t)=true:=by
      unfold full;rw[(qB (c:=S) (hH.gt t ht).at_).2];exact aH ((jX (iB hS rfl)).mpr ⟨g8 t,d8 _ _⟩)
     rw[e,hf]at this;exact bX this
    ·exact hu
   obtain⟨m1,m2⟩:=hpm a k (NC hpt this);exact NB hg m1 hS2 m2 hd
theorem IY{H pt:List T}{S:Int}(hH:Fm 18 H)(hpt:pt=[]\/∃t,pt=[t])(hpm:∀a k,pt=[.mul a k]->full S (.mul a k)=false)(hS:2<=S):(H.map (scl S)++pt).filter (λu=>!(sC u&&full S u))=pt:=by
 rw[jK,jL.mpr λu hu=>by
  obtain⟨t,ht,rfl⟩:=bR.mp hu;rw[(vZ (hH.gt t ht) hS).1,G5 (hH.gt t ht) hS];exact Bool.noConfusion,kZ.mpr λt ht=>?_]
 ·rfl
 ·induction hm:sC t using Bool.casesOn with
  |false=>rfl
  |true=>
   refine NP (sD hm) λa k e=>?_;rw[e,hpm a k (e▸NC hpt ht)];rfl
theorem Zi{c pc S:Int}(hS:0<=S)(hS2:S<BM)(hk:(c*S+pc).natAbs<2^900)(hcS:(c*S).natAbs<2^900):(S* -(pc/S)).natAbs<2^1900:=by
 rw[iU,Int.natAbs_neg,eP];have e3:(2:Nat)^901=2^900+2^900:=by decide+kernel
 have hpc:pc.natAbs<2^901:=e3▸aP (nTri (c*S) pc) (Nat.add_lt_add hk hcS);exact bA (Nat.mul_lt_mul'' (gZ hS hS2) (aP (iE pc S) hpc)) (by decide+kernel)
theorem Zj{d:Nat}{H pt:List T}{c pc S:Int}(hH:Fm 18 H)(hW:Fm 18 (H.map (scl S)++pt))(hFp:Fm 18 pt)(hpt:pt=[]\/∃t,pt=[t])(hpm:∀a k,pt=[.mul a k]->2<=k/\0<=pc/\a.hi*k<S/\full S (.mul a k)=false)(hone:S=1->pt=[]/\pc=0)(hS:1<=S)(hS2:S<BM)(h0:0<=T.los pt+pc)(h01:T.los pt<=T.his pt)(h1:T.his pt+pc<S)
  (hk:(c*S+pc).natAbs<2^900) (hcS:(c*S).natAbs<2^900) (hd:56<=d) (hs:2<=(b9 (H.map (scl S)++pt) (c*S+pc)).length):Ji d (fN (H.map (scl S)++pt,c*S+pc)) S=some (.node (fN (pt,pc))):=by
 have hr:Int.fmod (c*S+pc) S=Int.fmod pc S:=by rw[aS _ (iA hS rfl),aS _ (iA hS rfl),kH,jY]
 refine jC d 55 hd λd _=>?_;refine jC d 54 (by assumption) λd _=>?_
 rw[uQ (F:=(H.map (scl S)++pt,c*S+pc)) hs];show aB fi (d+1+1) 625 [.node (.sum (b9 (H.map (scl S)++pt) (c*S+pc))),.int S] []=_;have hl:=iR (H.map (scl S)++pt) (c*S+pc);have eW:=hW.len;rw[sp625,bS (YY ..),bS (fU ..),bG,aT,aV (by lia)]
 show(((dH (bJ (aB fi (d+1)) 37) [5] [] [(1,.node (.sum (b9 (H.map (scl S)++pt) (c*S+pc)))),(2,.int S)] (fR (bJ (aB fi (d+1)) 37) Rl) ((b9 (H.map (scl S)++pt) (c*S+pc)).map V.node) []).map _).bind _)=_;rw[DL (g:=λu=>fN (wZ S u)) λu hu=>?_]
 ·refine oA (DM (S:=S) (k:=c*S+pc) λt ht=>(hW.gt t ht).term) λq1 q2=>?_;show(aB fi (d+1) 204 [.lst (((b9 (H.map (scl S)++pt) (c*S+pc)).map λu=>fN (wZ S u)).map V.node)] []).bind _=_;have hfm:Fm 18 ((H.map (scl S)++pt).filter λu=>!(sC u&&full S u)):=⟨λt ht=>hW.gt t (dC.mp ht).1,List.Pairwise.sublist k7 hW.ap,aR (dM _ _) eW⟩;rw[show((b9 (H.map (scl S)++pt) (c*S+pc)).map λu=>fN (wZ S u))=((b9 (H.map (scl S)++pt) (c*S+pc)).map (wZ S)).map fN by rw[iW];rfl,oZ (n:=18) (by rw[q1];exact hfm) (by rw[aT];exact JW hl eW) (by lia),q1,q2,hr]
  show(aB fi (d+1) 199 [.node (fN ((H.map (scl S)++pt).filter (λu=>!(sC u&&full S u)),Int.fmod pc S)),.int S] []).bind _=_;clear hfm q1 q2 hl eW hW hs hr;by_cases hS1:S=1
  ·refine oA (hone hS1) λn1 n2=>?_;rw[n1,n2,hS1];refine jC d 53 (by assumption) λd _=>?_
   rw[tX,dY];rfl
  ·have hz:=dB pc S;rw[IY hH hpt (λa k e=>(hpm a k e).2.2.2) (by lia),m199 (j:= -(pc/S)) hFp (by lia) hS2 h0 h01 h1 (by rw[aS _ (iA hS rfl),iU];lia) (g9 (Zi (iA hS rfl) hS2 hk hcS)) (by lia)]
   rfl
 ·rcases pJ hu with hu|e
  ·exact Qc hH hpt (λa k e=>⟨(hpm a k e).1,(hpm a k e).2.2.1⟩) hS hS2 (hW.gt u hu) hu (by lia)
  ·rw[e];show aB fi (d+1) 199 [.node (.num (c*S+pc)),.int S] []=some (V.node (fN ([],Int.fmod (c*S+pc) S)));rw[dY,Aj hS hS2 hk (by lia)]
theorem Qd{d:Nat}{t:T}(hv:vR t=true\/∃e l h m,t=.mod (.var e l h) m)(hd:56<=d):Ji d t 1=some (.node (.num 0)):=by
 refine jC d 55 hd λd _=>?_;refine jC d 54 (by assumption) λd _=>?_
 rcases hv with hv|⟨e,l,h,m,e'⟩
 ·rw[Ak hv,tX]
 ·rw[e'];refine jC d 53 (by assumption) λd _=>?_
  show aB fi (d+1+1+1) 528 [.node (.mod (.var e l h) m),.int 1] []=_;rw[Rj,bS (jT (by decide) (j6 (by decide) (by decide)) ..),bS (mD ..),bS (fU ..),cT (aH (by rw[aS _ (by decide),Int.emod_one]:Int.fmod m 1=0)),Ak rfl,tX];rfl
theorem Zk{d:Nat}{u:T}{S:Int}(hu:Gt 18 u)(hl:Lt u)(hS:1<=S)(hS2:S<BM)(hd:56<=d):Ji d (scl S u) S=some (.node (.num 0)):=by
 by_cases hS1:S=1
 ·rw[hS1,yB hu];by_cases hm:∃a k,u=.mul a k
  ·refine NP (hm) λa k e=>?_;rw[e]at hu⊢;exact Ch hu.at_ (by decide) (by decide) ⟨k,by rw[lV]⟩ (bT hd rfl)
  ·refine oA (tA hu λa k e=>hm ⟨a,k,e⟩) λe1 _=>?_;have hv:=hl.vd;rw[e1]at hv;exact Qd hv hd
 ·rw[G5 hu (by lia)]
  exact Ch hu.at_ hS hS2 ⟨g8 u,d8 _ _⟩ (bT hd rfl)
theorem tm_at{d:Nat}{t:T}{c pc S:Int}(hFp:Fm 18 [t])(ha:j5 t=true)(hl:Lt t)(hz:c*S+pc=0)(hS:2<=S)(hS2:S<BM)(h0:0<=t.lo+pc)(h01:t.lo<=t.hi)(h1:t.hi+pc<S)(hcS:(c*S).natAbs<2^900)(hd:56<=d):Ji d t S=some (.node (fN ([t],pc))):=by
 have l1:T.los [t]=t.lo:=dK _;have l2:T.his [t]=t.hi:=dK _;have base:∀{d:Nat},43<=d->aB fi d 199 [.node t,.int S] []=some (.node (fN ([t],pc))):=λ{d} hd=>by
  have:=m199 (d:=d) (pt:=[t]) (pc:=pc) (S:=S) (j:=c) (r:=0) hFp hS hS2 (by rw[l1];exact h0) (by rw[l1,l2];exact h01) (by rw[l2];exact h1) (by rw[d8];exact hz.symm) (by rw[d8];exact g9 (bA hcS (by decide+kernel))) hd
  rw[fD]at this;exact this
 have e1:jM t=t:=by clear hFp hl h0 h01 h1 l1 l2 base;induction t using T.casesOn<;>first|rfl|exact bX ha
 have hv:=hl.vd;rw[e1]at hv;rcases hv with hv|⟨e,l,h,m,e'⟩
 ·rw[Ak hv];exact base (bT hd rfl)
 ·have hn:=hl.fr.nd;rw[e1,e']at hn;rw[e']at base h0 h1⊢;clear e1 l1 l2 hFp hl h01 ha;exact hn.modI λn hy hv' g1 g2=>by
   have ry:=hy.rng;have fS:=j6 (show 0<=S by exact iA hS rfl) hS2
   refine oA (m7 (iB g1 rfl) g2 (aO ry.2.1)) λb1 b2=>?_;rw[uL,b1]at h0;rw[uM,b2]at h1;refine jC d 55 hd λd hd'=>?_;show aB fi (d+1) 528 [.node (.mod (.var e l h) m),.int S] []=_;rw[Rj,bS (jT (aQ (iB hS rfl)) fS ..),bS (mD ..),bS (fU ..)];by_cases hd2:S∣m
   ·have:=eR (iB g1 rfl) hd2;have em:m=S:=by lia
    have ep:pc=0:=by lia
    rw[cT (aH ((jX (iB hS rfl)).mpr hd2)),Ak rfl,ep,fD,em];rw[em]at g2;rw[x8 ry.1 (aO ry.2.1) hS fS g2 (bT hd' rfl)];rfl
   ·rw[cF (aK (λz=>hd2 ((jX (iB hS rfl)).mp z))),base (bT hd' rfl)];rfl
theorem Qe{d:Nat}{H pt:List T}{c pc S:Int}(hH:Fm 18 H)(hHl:∀t∈H,Lt t)(hW:Fm 18 (H.map (scl S)++pt))(hpt:pt=[]\/∃t,pt=[t]/\Tp t/\Lt t/\(sC t=true->0<=pc))(hS:1<=S)(hS2:S<BM)(h0:0<=T.los pt+pc)(h1:T.his pt+pc<S)(hk:(c*S+pc).natAbs<2^900)(hcS:(c*S).natAbs<2^900)(hd:56<=d):
  Ji d (fN (H.map (scl S)++pt,c*S+pc)) S=some (.node (fN (pt,pc))):=by
 have hp1:pt=[]\/∃t,pt=[t]:=hpt.imp id λ⟨t,e,_⟩=>⟨t,e⟩;have eW:pt.length<=8:=by rcases hp1 with e|⟨t,e⟩<;>(rw[e];exact aX rfl)
 have hFp:Fm 18 pt:=⟨λt ht=>hW.gt t (jU _ ht),(iX.mp hW.ap).2.1,eW⟩;have h01:=Aa hFp.gt;have hpm:∀t,pt=[t]->∀a k,t=.mul a k->2<=k/\0<=pc/\a.hi*k<S/\full S (.mul a k)=false:=λt e a k e2=>by
  rcases hpt with z|⟨t',e',q1,q2,q3⟩
  ·rw[z]at e;exact nomatch e
  ·have et:=(List.cons.inj (e'.symm.trans e)).1;rw[et]at q1 q3;exact Zh hS q1 q3 (e▸h1) e2
 have hone:S=1->pt=[]/\pc=0:=λz=>by
  rcases hp1 with e|⟨t,e⟩
  ·rw[e]at h0 h1;have h0:(0:Int)<=0+pc:=h0;have h1:(0:Int)+pc<S:=h1;exact⟨e,by lia⟩
  ·have:=h01.2 (e▸List.cons_ne_nil _ _);lia
 by_cases hs:2<=(b9 (H.map (scl S)++pt) (c*S+pc)).length
 ·exact Zj hH hW hFp hp1 (λa k e=>hpm _ e a k rfl) hone hS hS2 h0 h01.1 h1 hk hcS hd hs
 ·by_cases hn:H.map (scl S)++pt=[]
  ·refine oA (gQ.mp hn) λn1 n2=>?_;rw[hn,n2];rw[n2]at h0 h1;have h0:(0:Int)<=0+pc:=h0;have h1:(0:Int)+pc<S:=h1;rw[dY,dY];show aB fi d 199 [.node (.num (c*S+pc)),.int S] []=_;rw[Aj hS hS2 hk (bT hd rfl),aS _ (iA hS rfl),kH,jY,qE (by lia) (by lia)]
  ·refine i8 (rO hs hn) λt ht hz0=>?_;rw[ht,hz0,fD];rcases hp1 with e|⟨u,e⟩
   ·rw[e]at h0 h1 ht⊢;have h0:(0:Int)<=0+pc:=h0;have h1:(0:Int)+pc<S:=h1;rw[tm_z hz0 (by lia) (by lia),dY]
    rw[bW]at ht;refine i8 (bR.mp (ht▸lW t:t∈H.map (scl S))) λv hv ev=>?_;rw[<-ev];exact Zk (hH.gt v hv) (hHl v hv) hS hS2 hd
   ·have hS3:2<=S:=by
     have:S≠1:=λz=>by have:=(hone z).1;rw[e]at this;exact nomatch this
     lia
    rw[e]at ht hFp h0 h1 h01⊢;have et:u=t:=by
     have:=congrArg List.length ht;have h2:H=[]:=by
      rw[bU,aT]at this;exact List.length_eq_zero_iff.mp (Nat.succ.inj this)
     rw[h2]at ht;exact(List.cons.inj ht).1
    rw[et]at e hFp h0 h1 h01⊢;rw[show T.los [t]=t.lo from dK _]at h0 h01;rw[show T.his [t]=t.hi from dK _]at h1 h01;by_cases hm:sC t=true
    ·refine NP (sD hm) λa k e2=>?_;refine uY (hpm t e a k e2) λm1 m2 m3 _=>?_;have hlo:=h01.1;have hg:=hFp.gt t aE;rw[e2]at hg⊢;have rr:0<=a.lo/\a.lo<a.hi/\a.hi<BM:=hg.nd.rng;have hm0:0<=a.hi*k:=eO (aO (aJ rr.1 rr.2.1)) (iA m1 rfl);rw[e2,pI,aH (iA m1 rfl:0<=k)]at h1;have h1:a.hi*k+pc<S:=h1;rw[tm_z hz0 m2 (by lia),fD]
     exact NB hg m1 hS2 m3 (bT hd rfl)
    ·rcases hpt with z|⟨t',e',q1,q2,q3⟩
     ·rw[z]at e;exact nomatch e
     ·have et':=(List.cons.inj (e'.symm.trans e)).1;rw[et']at q1 q2;have ha:j5 t=true:=by
       have:=(hFp.gt t aE).at_;clear hpm hFp h01 h0 h1 ht hn hs hW q1 q2 q3 e e' et';induction t using T.casesOn<;>first|rfl|exact bX this|exact absurd rfl hm
      exact tm_at hFp ha q2 hz0 hS3 hS2 h0 h01.1 h1 hcS hd
theorem sp314(d:Nat)(n m:Int):aB fi (d+1) 314 [.node (.num n),.node (.num m)] []=some (.bool (decide (n=m))):=(cR rfl rfl rfl rfl).trans (by kernel_rfl)
theorem sp86n(d:Nat)(t u:T):aB fi (d+1) 86 [.node t,.node u] []=(jD (aB fi d) (.node t) .key).bind λv=>(jD (aB fi d) (.node u) .key).bind λw=>(j3 (aB fi d) .Eq v w).bind λv=>(a8 v []).bind λq=>some q.1:=by
 induction u using T.casesOn<;>exact(cR rfl rfl rfl rfl).trans (by kernel_rfl)
theorem Qf{d:Nat}{t:T}(h:ZC d t):j3 (aB fi (d+1)) .Eq (.node t) (.node t)=some (.bool true):=by
 have h86:aB fi (d+1) 86 [.node t,.node t] []=some (.bool true):=by
  rw[sp86n,show jD (aB fi d) (.node t) .key=some (.str t.rend)from h,aF,aF,
   show j3 (aB fi d) .Eq (.str t.rend) (.str t.rend)=some (.bool (lC t.rend t.rend))from rfl,sR];rfl
 induction t using T.casesOn with
 |num n=>exact(sp314 d n n).trans (by rw[aH rfl])
 |_=>exact h86
theorem nds5:∀{ts:List T},(∀t∈ts,t.nd<=5)->T.nds ts<=5*ts.length
 |[],_=>by rw[T.nds];exact d3 _
 |t::r,h=>by
  have h1:=h t aE;have h2:=nds5 λu hu=>h u (aI t hu);rw[T.nds,bL];lia
theorem Rk.mono{n:Nat}{t:T}(h:Rk n t):∀{m:Nat},n<=m->Rk m t:=by
 induction h with
 |num h=>exact λ_=>.num h
 |var a b c=>exact λ_=>.var a b c
 |mul a b c ih=>intro m hm;obtain⟨m,rfl,hm⟩:=up hm;exact .mul (ih (by assumption)) b c
 |div a b c ih=>intro m hm;obtain⟨m,rfl,hm⟩:=up hm;exact .div (ih (by assumption)) b c
 |mod a b c ih=>intro m hm;obtain⟨m,rfl,hm⟩:=up hm;exact .mod (ih (by assumption)) b c
 |sum a b c ih=>intro m hm;obtain⟨m,rfl,hm⟩:=up hm;exact .sum (λu hu=>ih u hu (by assumption)) b c
theorem Qg{F:List T×Int}(h:Fm 18 F.1)(hl:∀t∈F.1,Fr (jM t))(hk:F.2.natAbs<2^900):Rk 20 (fN F)/\(fN F).nd<=50:=by
 obtain⟨ts,k⟩:=F;have h18:(2:Nat)^900<2^1800:=by decide+kernel
 have ht:∀t∈ts,Rk 19 t/\t.nd<=5:=λt ht=>by
  have hg:=h.gt t ht;have n1:=Zb t;have n2:=(sH (hl t ht).b).2;refine⟨?_,by lia⟩
  by_cases hm:∃a c,t=.mul a c
  ·clear n2 n1 ht;obtain⟨a,c,rfl⟩:=hm;have hr:Rk 18 a:=hg.nd.rk;exact .mul hr (BU (bA (hg.mul a c rfl).2.2 h18)) (iV hg.rng)
  ·refine oA (tA hg λa k e=>hm ⟨a,k,e⟩) λe1 _=>?_;have:=hg.nd.mono (m:=19) (by lia)
   rw[e1]at this;exact this.rk
 have hl:=iR ts k;have eW:ts.length<=8:=h.len;have hnd:T.nds ts<=5*ts.length:=nds5 λt h=>(ht t h).2;have hkS:=BU (bA hk h18);by_cases hs:2<=(b9 ts k).length
 ·rw[uQ (F:=(ts,k)) hs];refine⟨.sum (λu hu=>?_) (by show(b9 ts k).length<64;lia) (iV (Ad h.gt hs)),?_⟩
  ·rcases pJ hu with hu|rfl
   ·exact(ht u hu).1
   ·exact .num hkS
  ·show(T.sum (b9 ts k)).nd<=50;have:=Gz k;rw[T.nd,Ag,Cd];lia
 ·by_cases f5:ts=[]
  ·clear hs hnd eW hl ht hk h;subst f5;rw[dY];exact⟨.num hkS,by rw[T.nd];lia⟩
  ·clear hkS hnd eW hl hk h;obtain⟨t,rfl,rfl⟩:=rO hs f5;rw[fD];refine oA (ht t aE) λq1 q2=>?_;exact⟨q1.mono (by lia),by exact iG q2 rfl⟩
theorem G6{d:Nat}{F:List T×Int}(h:Fm 18 F.1)(hl:∀t∈F.1,Fr (jM t))(hk:F.2.natAbs<2^900)(hd:44<=d):j3 (aB fi d) .Eq (.node (fN F)) (.node (fN F))=some (.bool true):=by
 refine jC d 43 hd λd _=>?_;refine oA (Qg h hl hk) λh1 h2=>?_;exact Qf (z7 h1 (by exact iG h2 rfl) (by assumption))
def Fd(d:Nat)(t:T)(D:List (Str×V)):Option V:=(gU t .substitute).bind λf=>aB fi d f [.node t,.dct D] []
theorem Rm(d:Nat)(n:Int)(D:List (Str×V)):aB fi (d+1) 321 [.node (.num n),.dct D] []=some (.node (.num n)):=(cR rfl rfl rfl rfl).trans (by kernel_rfl)
theorem Rn(d:Nat)(e:Str)(l h:Int)(D:List (Str×V)):aB fi (d+1) 267 [.node (.var e l h),.dct D] []=(jD (aB fi d) (.node (.var e l h)) .key).bind λv=>(iL (.dct D) .get [v,.node (.var e l h)] []).bind λx=>(a8 x.1 x.2).bind λq=>some q.1:=(cR rfl rfl rfl rfl).trans (by kernel_rfl)
theorem uS{a:T}(h:j5 a=true):jQ (.node a) .substitute []=true:=by induction a using T.casesOn<;>first|(refine e9 h ?_;done)|rfl
theorem sp461(d:Nat)(a:T)(c:Int)(D:List (Str×V)):aB fi (d+1) 461 [.node (.mul a c),.dct D] []=bif !jQ (.node a) .substitute []then none else(gU a .substitute).bind λf=>(aB fi d f [.node a,.dct D] []).bind λv=>(cG (aB fi d) .Mult v (.int c)).bind λv=>(a8 v []).bind λq=>some q.1:=(cR rfl rfl rfl rfl).trans (by kernel_rfl)
theorem sp502(d:Nat)(a:T)(c:Int)(D:List (Str×V)):aB fi (d+1) 502 [.node (.div a c),.dct D] []=bif !jQ (.node a) .substitute []then none else(gU a .substitute).bind λf=>(aB fi d f [.node a,.dct D] []).bind λv=>(cG (aB fi d) .FloorDiv v (.int c)).bind λv=>(a8 v []).bind λq=>some q.1:=(cR rfl rfl rfl rfl).trans (by kernel_rfl)
theorem sp550(d:Nat)(a:T)(c:Int)(D:List (Str×V)):aB fi (d+1) 550 [.node (.mod a c),.dct D] []=bif !jQ (.node a) .substitute []then none else(gU a .substitute).bind λf=>(aB fi d f [.node a,.dct D] []).bind λv=>(cG (aB fi d) .Mod v (.int c)).bind λv=>(a8 v []).bind λq=>some q.1:=(cR rfl rfl rfl rfl).trans (by kernel_rfl)
noncomputable def Ro:X:=.meth (.var 5) .substitute [(.var 47)] []
theorem sp630(d:Nat)(l:List T)(D:List (Str×V)):aB fi (d+1) 630 [.node (.sum l),.dct D] []=((bif Nat.ble (l.map V.node).length 1000 then some (l.map V.node,[])else none).bind λp=>(dH (bJ (aB fi d) 37) [5] [] [(1,.node (.sum l)),(47,.dct D)] (fR (bJ (aB fi d) 37) Ro) p.1 p.2).map λq=>gT (.lst q.1) q.2).bind λv=>
  ((a8 v.1 v.2).bind λp=>(some ([],p.2)).map λq=>(p.1::q.1,q.2)).bind λv=>(aB fi d 204 v.1 []).bind λx=>(a8 x v.2).bind λq=>some q.1:=(cR rfl rfl rfl rfl).trans (by kernel_rfl)
theorem Zl(d:Nat)(v:V)(u:T)(D:List (Str×V))(h:n7 u=false):fR (bJ (aB fi d) 37) Ro [(1,v),(47,.dct D),(5,.node u)] []=((Fd d u D).bind λx=>some (x,([]:Cs))).bind λx=>(a8 x.1 x.2).map λy=>([y.1],y.2):=by
 show((bJ (aB fi d) 37).ev Ro [(1,v),(47,.dct D),(5,.node u)] []).bind _=_;rw[D4];induction u using T.casesOn<;>first|(refine e9 h ?_;done)|kernel_rfl
theorem DN{d:Nat}{v:V}{D:List (Str×V)}{g:T->T}:∀{l:List T},(∀u∈l,n7 u=false/\Fd d u D=some (.node (g u)))->dH (bJ (aB fi d) 37) [5] [] [(1,v),(47,.dct D)] (fR (bJ (aB fi d) 37) Ro) (l.map V.node) []=some ((l.map g).map V.node,[])
 |[],_=>rfl
 |u::r,h=>by
  refine oA (h u aE) λh1 h2=>?_;show((fR (bJ (aB fi d) 37) Ro [(1,v),(47,.dct D),(5,.node u)] []).bind λq=>(dH (bJ (aB fi d) 37) [5] [] [(1,v),(47,.dct D)] (fR (bJ (aB fi d) 37) Ro) (r.map V.node) q.2).map λz=>(q.1++z.1,z.2))=_;rw[Zl _ _ _ _ h1,h2];show(dH (bJ (aB fi d) 37) [5] [] [(1,v),(47,.dct D)] (fR (bJ (aB fi d) 37) Ro) (r.map V.node) []).map _=_;rw[DN λu hu=>h u (aI _ hu)];rfl
def At(D:List (Str×V))(a:T)(x:Int):Prop:=∀d,44<=d->Fd d a D=some (.node (.num x))
theorem at_var{D:List (Str×V)}{e:Str}{l h x:Int}(hn:Nd 0 (.var e l h))(hD:cJ (T.var e l h).rend D=some (.node (.num x))):At D (.var e l h) x:=λd hd=>by
 refine jC d 43 hd λd _=>?_;have hk:ZC d (.var e l h):=z7 hn.rk (by rw[T.nd];lia) (by exact bT (by assumption) (by rfl))
 show aB fi (d+1) 267 [.node (.var e l h),.dct D] []=_;rw[Rn,bS (show jD (aB fi d) (.node (.var e l h)) .key=some (.str (T.var e l h).rend)from hk),
  show iL (.dct D) .get [.str (T.var e l h).rend,.node (.var e l h)] []=some ((match cJ (T.var e l h).rend D with|some u=>u|none=>.node (.var e l h)),[]) by kernel_rfl,hD];rfl
theorem Zm{D:List (Str×V)}{a:T}{b x:Int}(ha:j5 a=true)(h:∀d,43<=d->Fd d a D=some (.node (.num x)))(hb:1<=b)(fX:b<BM)(hx:x.natAbs<2^900):At D (.div a b) (Int.fdiv x b):=λd hd=>by
 refine jC d 43 hd λd _=>?_;have h:=h d (by assumption)
 unfold Fd at h;show aB fi (d+1) 502 [.node (.div a b),.dct D] []=_;rw[sp502,uS ha,gS,bG,<-wS,bS (h ..),oR,oS hx hb fX (by exact bT (by assumption) (by rfl))];rfl
theorem Zn{D:List (Str×V)}{a:T}{b x:Int}(ha:j5 a=true)(h:∀d,43<=d->Fd d a D=some (.node (.num x)))(hb:1<=b)(fX:b<BM)(hx:x.natAbs<2^900):At D (.mod a b) (Int.fmod x b):=λd hd=>by
 refine jC d 43 hd λd _=>?_;have h:=h d (by assumption)
 unfold Fd at h;show aB fi (d+1) 550 [.node (.mod a b),.dct D] []=_;rw[sp550,uS ha,gS,bG,<-wS,bS (h ..)];show(aB fi d 199 [.node (.num x),.int b] []).bind _=_;rw[Aj hb fX hx (by exact bT (by assumption) (by rfl))];rfl
theorem Qh{d:Nat}{D:List (Str×V)}{t:T}{x:Int}(h:Gt 18 t)(ha:At D (jM t) x)(hx:(x*g8 t).natAbs<2^1900)(hd:45<=d):Fd d t D=some (.node (.num (x*g8 t))):=by
 refine jC d 44 hd λd _=>?_;by_cases hm:∃a c,t=.mul a c
 ·obtain⟨a,c,rfl⟩:=hm;have ha:=ha d (by assumption)
  unfold Fd at ha;show aB fi (d+1) 461 [.node (.mul a c),.dct D] []=_;rw[sp461,uS (a:=a) h.at_,gS,bG,<-wS,bS (show((gU a .substitute).bind λf=>aB fi d f [.node a,.dct D] [])=_ from ha),BW (c:=c) hx (by exact bT (by assumption) (by rfl))];rfl
 ·refine oA (tA h λa k e=>hm ⟨a,k,e⟩) λe1 e2=>?_;clear hm hd hx;rw[e1]at ha;rw[e2,dF];exact ha (d+1) (by lia)
def vU(ν:T->Int):T->Int
 |.num k=>k
 |t=>ν t*g8 t
def val(ν:T->Int):List T->Int
 |[]=>0
 |t::r=>ν t*g8 t+val ν r
theorem G7{ν:T->Int}{t:T}(h:dO t=true):vU ν t=ν t*g8 t:=by induction t using T.casesOn<;>first|(exact bX h;done)|rfl
theorem ND{ν:T->Int}{k:Int}:∀{ts:List T},(∀t∈ts,dO t=true)->((b9 ts k).map (vU ν)).sum=val ν ts+k
 |[],_=>by
  unfold b9;induction h:decide (k=0) using Bool.casesOn with
  |true=>rw[aM h];rfl
  |false=>show k+0=0+k;lia
 |t::r,h=>by
  show((vU ν t::(b9 r k).map (vU ν))).sum=ν t*g8 t+val ν r+k;rw[eJ,ND λu hu=>h u (aI _ hu),G7 (h t aE)];lia
theorem Qi{d:Nat}{D:List (Str×V)}{F:List T×Int}{ν:T->Int}(h:Fm 18 F.1)(ha:∀t∈F.1,At D (jM t) (ν t))(hx:∀t∈F.1,(ν t*g8 t).natAbs<2^1900)(hd:47<=d):Fd d (fN F) D=some (.node (.num (val ν F.1+F.2))):=by
 obtain⟨ts,k⟩:=F;have mem:∀d',45<=d'->∀u∈b9 ts k,n7 u=false/\Fd d' u D=some (.node (.num (vU ν u))):=λd' hd' u hu=>by
  rcases pJ hu with hu|rfl
  ·exact⟨(h.gt u hu).noSum,by rw[Qh (h.gt u hu) (ha u hu) (hx u hu) hd',G7 (h.gt u hu).term]⟩
  ·obtain⟨d',rfl,_⟩:=up (K:=44) hd';exact⟨rfl,Rm d' k D⟩
 have hv:=ND (ν:=ν) (k:=k) λt ht=>(h.gt t ht).term;have hl:=iR ts k;have eW:ts.length<=8:=h.len;show Fd d (Jg (b9 ts k)) D=some (.node (.num (val ν ts+k)));rw[<-hv];generalize b9 ts k=l at mem hl⊢;induction l using JE with
 |nil=>
  refine jC d 46 hd λd _=>?_;exact Rm d 0 D
 |one u=>
  show Fd d u D=_;rw[(mem d (bT hd rfl) u aE).2];simp
 |two a b r=>
  refine jC d 46 hd λd _=>?_;show aB fi (d+1) 630 [.node (.sum (a::b::r)),.dct D] []=_;rw[sp630,aT,aV (by simp at hl⊢;exact bD (bA (d7 hl.2) (iM eW rfl)))]
  show((dH (bJ (aB fi d) 37) [5] [] [(1,.node (.sum (a::b::r))),(47,.dct D)] (fR (bJ (aB fi d) 37) Ro) ((a::b::r).map V.node) []).map _).bind _=_;rw[DN (g:=λu=>.num (vU ν u)) λu hu=>mem d (by exact bT (by assumption) (by rfl)) u hu]
  show(aB fi d 204 [.lst (((a::b::r).map λu=>T.num (vU ν u)).map V.node)] []).bind _=_;have e1:((a::b::r).map λu=>T.num (vU ν u))=((a::b::r).map λu=>(([],vU ν u):List T×Int)).map fN:=by
   rw[iW];exact i9 λu _=>(dY _).symm
  have e2:((a::b::r).map λu=>(([],vU ν u):List T×Int)).flatMap (·.1)=[]:=by
   rw[List.flatMap_eq_nil_iff];intro x hx;obtain⟨u,_,rfl⟩:=bR.mp hx;rfl
  have e3:(((a::b::r).map λu=>(([],vU ν u):List T×Int)).map (·.2))=(a::b::r).map (vU ν):=by rw[iW];rfl
  rw[e1,oZ (n:=0) (by rw[e2];exact Fm.nil 0) (by rw[aT];simp at hl⊢;exact bD (bA (d7 hl.2) (iM eW rfl))) (by exact bT (by assumption) (by rfl)),e2,e3,dY];rfl
theorem sp659(d:Nat)(t:T)(D:List (Str×V)):aB fi (d+1) 659 [.node t,.dct D] []=bif !jQ (.node t) .substitute []then none
  else((bif Nat.ble D.length 1000&&true then some (D.map vP,[])else none).bind λp=>(dH (bJ (aB fi d) 36) [6,17] [] [(41,.node t),(47,.dct D)] (t8 (bJ (aB fi d) 36) (.var 6) (.call (.glob 331) [(.var 17)] [])) p.1 p.2).map λq=>gT (.dct (t9 q.1)) q.2).bind λv=>
   (gU t .substitute).bind λf=>((a8 v.1 v.2).bind λp=>(some ([],p.2)).map λq=>(p.1::q.1,q.2)).bind λw=>(aB fi d f (.node t::w.1) []).bind λr=>((uG r (.glob 331)).map λb=>(V.bool b,w.2)).bind λv=>(eM v.1 v.2).bind λz=>
    bif z then(jD (aB fi d) r .b).bind λx=>(a8 x v.2).bind λq=>some q.1 else none:=(cR rfl rfl rfl rfl).trans (by kernel_rfl)
noncomputable def nW(vs:List (Str×Int)):List (Str×V):=vs.map λp=>(p.1,V.int p.2)
noncomputable def Ci(vs:List (Str×Int)):List (Str×V):=vs.map λp=>(p.1,V.node (.num p.2))
theorem Qj(d:Nat)(t:T)(D:List (Str×V))(k:Str)(x:Int):t8 (bJ (aB fi (d+1)) 36) (.var 6) (.call (.glob 331) [(.var 17)] []) [(41,.node t),(47,.dct D),(6,.str k),(17,.int x)] []=some ([.tup [.str k,.node (.num x)]],[]):=by
 show(some (V.str k,([]:Cs))).bind (λp=>((bJ (aB fi (d+1)) 36).ev (.call (.glob 331) [(.var 17)] []) [(41,.node t),(47,.dct D),(6,.str k),(17,.int x)] p.2).bind λq=>(Ep p.1 q.1).map λx=>([x],q.2))=_;rw[aF,D4,show(m4 (aB fi (d+1)) 36).ev (.call (.glob 331) [(.var 17)] []) [(41,.node t),(47,.dct D),(6,.str k),(17,.int x)] [] (λv c=>some (v,c))=(aB fi (d+1) 331 [.int x] []).bind λv=>some (v,[]) by kernel_rfl,xS];rfl
theorem Bm(d:Nat)(t:T)(D:List (Str×V)):∀vs:List (Str×Int),dH (bJ (aB fi (d+1)) 36) [6,17] [] [(41,.node t),(47,.dct D)] (t8 (bJ (aB fi (d+1)) 36) (.var 6) (.call (.glob 331) [(.var 17)] [])) ((nW vs).map vP) []=some (vs.map λp=>V.tup [.str p.1,.node (.num p.2)],[])
 |[]=>rfl
 |(k,x)::r=>by
  show((t8 (bJ (aB fi (d+1)) 36) (.var 6) (.call (.glob 331) [(.var 17)] []) [(41,.node t),(47,.dct D),(6,.str k),(17,.int x)] []).bind λq=>(dH (bJ (aB fi (d+1)) 36) [6,17] [] [(41,.node t),(47,.dct D)] (t8 (bJ (aB fi (d+1)) 36) (.var 6) (.call (.glob 331) [(.var 17)] [])) ((nW r).map vP) q.2).map λz=>(q.1++z.1,z.2))=_;rw[bS (Qj ..),Bm d t D r];rfl
theorem Al:∀(vs:List (Str×Int)) (c8:List (Str×V)),(c8.map (·.1)++vs.map (·.1)).Nodup->(vs.map λp=>V.tup [.str p.1,.node (.num p.2)]).foldl wB c8=c8++Ci vs
 |[],c8,_=>(bW c8).symm
 |(k,x)::r,c8,h=>by
  have hk:cJ k c8=none:=rG λp hp=>by
   refine l9.mpr λ(e:k=p.1)=>?_;exact(gI.mp h).2.2 p.1 (fV hp) k aE e.symm
  show((r.map λp=>V.tup [.str p.1,.node (.num p.2)]).foldl wB (lK k (.node (.num x)) c8))=_;rw[s8 hk,Al r _ (by rw[dQ,dT];exact h),dT];rfl
theorem Rp{d:Nat}{F:List T×Int}{ν:T->Int}{vs:List (Str×Int)}(h:Fm 18 F.1)(hn:(vs.map (·.1)).Nodup)(hz:vs.length<=1000)(ha:∀t∈F.1,At (Ci vs) (jM t) (ν t))(hx:∀t∈F.1,(ν t*g8 t).natAbs<2^1900)(hd:49<=d):
  aB fi d 659 [.node (fN F),.dct (nW vs)] []=some (.int (val ν F.1+F.2)):=by
 refine jC d 48 hd λd _=>?_;refine jC d 47 (by assumption) λd _=>?_
 have ho:jQ (.node (fN F)) .substitute []=true:=by generalize fN F=t;induction t using T.casesOn<;>rfl
 rw[sp659,ho,gS,bG,show Nat.ble (nW vs).length 1000=true from aV (by unfold nW;rw[aT];exact hz)]
 show(((dH (bJ (aB fi (d+1)) 36) [6,17] [] [(41,.node (fN F)),(47,.dct (nW vs))] (t8 (bJ (aB fi (d+1)) 36) (.var 6) (.call (.glob 331) [(.var 17)] [])) ((nW vs).map vP) []).map _).bind _)=_;have e:t9 (vs.map λp=>V.tup [.str p.1,.node (.num p.2)])=Ci vs:=Al vs [] hn;have hs:=Qi (d:=d+1) h ha hx (by lia)
 unfold Fd at hs;rw[Bm,cU,aF,e];generalize hm:gU (fN F) .substitute=m at hs⊢;induction m using Option.casesOn with
 |none=>exact aY hs
 |some f=>
  rw[aF]at hs⊢;show(aB fi (d+1) f [.node (fN F),.dct (Ci vs)] []).bind _=_;rw[hs];rfl
theorem sp673(d:Nat)(sc:List V)(k:Int):aB fi (d+1) 673 [.lst sc,.int k] []=(Option.map (λx=>(x,([]:Cs))) (bif Nat.ble sc.length 100000 then some (V.int sc.length)else none)).bind λv=>(j3 (aB fi d) .Lt (.int k) v.1).bind λw=>(eM w v.2).bind λz=>
  bif z then(bif decide (0<=k)&&decide (k<1000)then sc[k.toNat]? else none).bind λx=>(a8 x v.2).bind λq=>some q.1
  else(bif Nat.ble sc.length 100000 then some (!sc.isEmpty)else none).bind λy=>bif !y then(bif jP (7*k)then some (V.int (7*k))else none).bind λa=>(cG (aB fi d) .Add a (.int 3)).bind λb=>(a8 b v.2).bind λq=>some q.1
   else(Option.map (λx=>(x,v.2)) (bif Nat.ble sc.length 100000 then some (V.int sc.length)else none)).bind λv=>(cG (aB fi d) .Mod (.int k) v.1).bind λi=>(eZ (.lst sc) i v.2).bind λx=>(bif jP (7*k)then some (V.int (7*k))else none).bind λa=>(cG (aB fi d) .Add x a).bind λb=>(a8 b v.2).bind λq=>some q.1:=
 (cR rfl rfl rfl rfl).trans (by kernel_rfl)
noncomputable def Zo(m q:Int):List Y:=[.ret (.ite (.cmp .Lt (.call (.bi .abs) [(.var 48)] []) (.int m)) (.var 48) (.bin .Mod (.var 48) (.int q)))]
theorem s680(d:Nat)(m q k:Int):dR (R4 d) (Zo m q) [(48,.int k)] [] kR kN=(j3 (aB fi d) .Lt (.int k.natAbs) (.int m)).bind λv=>(eM v []).bind λz=>bif z then(a8 (.int k) []).bind λv=>some v.1 else(eY .Mod k q).bind λv=>(a8 v []).bind λv=>some v.1:=by kernel_rfl
theorem Qk(d:Nat)(m q k:Int)(hq:0<q)(hf:jP q=true):∃y,dR (R4 d) (Zo m q) [(48,.int k)] [] kR kN=some (.int y)/\((y=k/\(k.natAbs:Int)<m)\/(0<=y/\y<q)):=by
 rw[s680];show ∃y,(bif decide ((k.natAbs:Int)<m)then _ else _)=_/\_;induction h:decide ((k.natAbs:Int)<m) using Bool.casesOn with
 |true=>exact⟨k,rfl,.inl ⟨rfl,aM h⟩⟩
 |false=>
  refine⟨Int.fmod k q,?_,.inr ?_⟩
  ·rw[bG,jT (aQ hq) hf];rfl
  ·rw[aS _ (aO hq)];exact⟨eE _ (aQ hq),dW _ hq⟩
theorem Ql:XC.body=Zo 1000000000000000000 1000000000000000003:=by kernel_rfl
theorem Qm(d:Nat)(x:Int):aB fi (d+1) 680 [.int x] []=dR (R4 d) XC.body [(48,.int x)] [] kR kN:=cR rfl rfl rfl rfl
theorem Zp(d:Nat)(x:Int):∃y,aB fi (d+1) 680 [.int x] []=some (.int y)/\y.natAbs<2^60:=by
 rw[Qm,Ql];have h60:(1000000000000000003:Int)<2^60:=by decide
 have h61:(1000000000000000000:Int)<2^60:=by decide
 have h62:(0:Int)<1000000000000000003:=by decide
 generalize (1000000000000000003:Int)=q at h60 h62⊢;generalize (1000000000000000000:Int)=m at h61⊢;refine i8 (Qk d m q x h62 (g9 (bA (nL (aO h62) h60:q.natAbs<2^60) (by decide+kernel)))) λy e h=>?_
 exact⟨y,e,h.elim (λh=>by rw[h.1];exact oT.mp (cX h.2 h61)) λh=>nL h.1 (cX h.2 h60)⟩
theorem sp666(d:Nat):aB fi (d+1) 666 [] []=some (.lst ([118,119,120,121,122].map λc=>V.str ⟨#[c]⟩)):=(cR rfl rfl rfl rfl).trans (by kernel_rfl)
theorem sp340(d:Nat)(e:Str)(l h:Int):aB fi (d+1) 340 [.str e,.int l,.int h] []=bif decide (0<=l)then(bif decide (l<=h)then(bif decide (l=h)then(aB fi d 331 [V.int l] []).bind λv=>(a8 v []).bind λv=>some v.1
  else(aB fi d 277 [V.str e,V.int l,V.int h] []).bind λv=>(a8 v []).bind λv=>some v.1)else none)else none:=(cR rfl rfl rfl rfl).trans (by kernel_rfl)
theorem Rq(d:Nat){L:List Int}(hL:L.length<=31){k:Int}(h0:0<=k)(h1:k<100):∃x,aB fi (d+1) 673 [.lst (L.map V.int),.int k] []=some (.int x):=by
 have hf:(bif jP (7*k)then some (V.int (7*k))else none)=some (V.int (7*k)):=by rw[show jP (7*k)=true from g9 (bA (show(7*k).natAbs<2^10 by lia) (by decide+kernel))];rfl
 have get:∀i:Nat,i<L.length->∃x,(L.map V.int)[i]?=some (.int x):=λi hi=>⟨L[i],by rw[List.getElem?_map,List.getElem?_eq_getElem hi];rfl⟩
 rw[sp673,hf,show Nat.ble (L.map V.int).length 100000=true from aV (by rw[aT];lia),bV,cU,aF]
 show ∃x,(bif decide (k<((L.map V.int).length:Int))then(bif decide (0<=k)&&decide (k<1000)then(L.map V.int)[k.toNat]? else none).bind _ else _)=_;rw[aT];induction h:decide (k<(L.length:Int)) using Bool.casesOn with
 |true=>
  have h:=aM h;obtain⟨x,e⟩:=get k.toNat (by lia)
  rw[aH h0,aH (show k<1000 by exact iJ h1 rfl),e]
  exact⟨x,rfl⟩
 |false=>
  have h:=jI h;rw[bG]
  match L,hL,get,h with
  |[],_,_,_=>exact⟨_,rfl⟩
  |a::r,hL,get,h=>
   generalize hn:(a::r).length=n at*;have hn0:0<n:=by rw[<-hn];exact Nat.succ_pos _
   have m1:=eE k (show(n:Int)≠0 by lia)
   have m2:=dW k (show(0:Int)<n by lia)
   have e1:eY .Mod k n=some (.int (k%n)):=by rw[jT (by exact aQ (aJ m1 m2)) (g9 (bA (show(n:Int).natAbs<2^10 by lia) (by decide+kernel))),aS _ (by exact aO (aJ m1 m2))]
   obtain⟨x,e⟩:=get (k%n).toNat (by lia)
   refine⟨x+7*k,?_⟩;show(eY .Mod k n).bind _=_;rw[e1];show(bif decide (0<=k%(n:Int))&&decide (k%(n:Int)<1000)then((a::r).map V.int)[(k%(n:Int)).toNat]? else none).bind _=_;rw[aH m1,aH (show k%(n:Int)<1000 by exact cX (eN m2 (jJ.mp h)) (iJ h1 rfl)),e];rfl
theorem Zq(d:Nat)(e:Str){l s:Int}(h0:0<=l)(hs:0<=s):aB fi (d+2) 340 [.str e,.int l,.int (l+s)] []=some (.node (bif decide (0<s)then .var e l (l+s)else .num l)):=by
 rw[sp340,aH h0,aH (show l<=l+s by lia)]
 by_cases h:0<s
 ·rw[aK (show ¬l=l+s by lia),aH h];rfl
 ·rw[aH (show l=l+s by lia),aK h,xS];rfl
def lZ:List Y:=match LP.body.drop 6 with
 |Y.forR _ _ b::_=>b
 |_=>[]
noncomputable abbrev O3:=Option (Option V×Ev×Cs)
noncomputable abbrev v5(d:Nat):RecK (Option V×Ev×Cs):=m4 (aB fi d) 39
noncomputable abbrev eA(cnt:Int)(ex:Ev):Ev:=(8,.own 0)::(50,.int cnt)::(23,.own 1)::(22,.own 2)::(20,.own 3)::(15,.own 4)::ex
noncomputable abbrev C4(sc A B C:List V)(D:List (Str×V)):Cs:=[⟨true,.lst sc⟩,⟨false,.lst A⟩,⟨false,.lst B⟩,⟨false,.lst C⟩,⟨false,.dct D⟩]
noncomputable abbrev eB(cnt k:Int)(lo sp va nu byy mo:V)(ex:Ev):Ev:=eA cnt ((6,.int k)::(31,lo)::(19,sp)::(16,va)::(48,nu)::(38,byy)::(30,mo)::ex)
def Rr(d:Nat)(cs:Cs)(k i:Int)(K:V->Cs->O3):O3:=(eY .Mult 6 k).bind λa=>(cG (aB fi d) .Add a (.int i)).bind λb=>(eX [.own 0,b] cs).bind λw=>(aB fi d 673 w.1 []).bind λv=>K v w.2
def Fe(d:Nat)(v:V)(cs:Cs)(K:V->Cs->O3):O3:=(eX [v] cs).bind λw=>(aB fi d 680 w.1 []).bind λv=>K v w.2
def IZ(v:V)(cs:Cs)(K:V->Cs->O3):O3:=((view v cs).bind λu=>(wA .abs u).map λx=>(x,cs)).bind λp=>K p.1 p.2
def DO(d:Nat)(op:PySem.CmpOp)(v:V)(y:Int)(cs:Cs)(K:Bool->O3):O3:=(j3 (aB fi d) op v (.int y)).bind λv=>(eM v cs).bind K
noncomputable def tl(b:Bool)(l:List (Nat×V)):Ev:=bif b then[]else l
theorem seg0(d:Nat)(b:Bool)(cnt k:Int)(a0 a1 a2 a3 a4 a5 p:V)(cs:Cs)(kr:V->Ev->Cs->O3)(kn:Ev->Cs->O3):
  dR (v5 d) lZ (eA cnt ((6,.int k)::tl b [(31,a0),(19,a1),(16,a2),(48,a3),(38,a4),(30,a5),(24,p)])) cs kr kn=
  Rr d cs k 1 λv cs=>Fe d v cs λv cs=>IZ v cs λlo cs=>Rr d cs k 2 λv cs=>Fe d v cs λv cs=>IZ v cs λsp cs=>
  Rr d cs k 3 λv cs=>(cG (aB fi d) .Add sp (.int 1)).bind λs=>(cG (aB fi d) .Mod v s).bind λm=>(cG (aB fi d) .Add lo m).bind λva=>
  Rr d cs k 4 λnu cs=>(cG (aB fi d) .FloorDiv nu (.int 5)).bind λq=>Fe d q cs λv cs=>(cG (aB fi d) .Add v (.int 1)).bind λv=>IZ v cs λv cs=>(cG (aB fi d) .Add (.int 1) v).bind λbyy=>
  Rr d cs k 5 λv cs=>Fe d v cs λmo cs=>dR (v5 d) (lZ.drop 6) (eB cnt k lo sp va nu byy mo (tl b [(24,p)])) cs kr kn:=by
 induction b using Bool.casesOn<;>kernel_rfl
theorem seg6(d:Nat)(b:Bool)(cnt k:Int)(a0 a1 a2 a3 a4 a5 p:V)(cs:Cs)(kr:V->Ev->Cs->O3)(kn:Ev->Cs->O3):
  dR (v5 d) (lZ.drop 6) (eB cnt k a0 a1 a2 a3 a4 a5 (tl b [(24,p)])) cs kr kn=DO d .Gt (.int k) 0 cs λz=>bif z then IZ a5 cs λv cs=>dR (v5 d) (lZ.drop 7) (eB cnt k a0 a1 a2 a3 a4 v (tl b [(24,p)])) cs kr kn
   else dR (v5 d) (lZ.drop 7) (eB cnt k a0 a1 a2 a3 a4 a5 (tl b [(24,p)])) cs kr kn:=by induction b using Bool.casesOn<;>kernel_rfl
theorem seg7(d:Nat)(b:Bool)(cnt k:Int)(a0 a1 a2 a3 a4 a5 p:V)(cs:Cs)(kr:V->Ev->Cs->O3)(kn:Ev->Cs->O3):
  dR (v5 d) (lZ.drop 7) (eB cnt k a0 a1 a2 a3 a4 a5 (tl b [(24,p)])) cs kr kn=(aB fi d 666 [] []).bind λns=>(eZ ns (.int k) cs).bind λnm=>(cG (aB fi d) .Add a0 a1).bind λh=>(eX [nm,a0,h] cs).bind λw=>(aB fi d 340 w.1 []).bind λq=>
   dR (v5 d) (lZ.drop 8) (eB cnt k a0 a1 a2 a3 a4 a5 [(24,q)]) w.2 kr kn:=by induction b using Bool.casesOn<;>kernel_rfl
theorem seg8(d:Nat)(cnt k:Int)(a0 a1 a2 a3 a4 a5 p:V)(cs:Cs)(kr:V->Ev->Cs->O3)(kn:Ev->Cs->O3):
  dR (v5 d) (lZ.drop 8) (eB cnt k a0 a1 a2 a3 a4 a5 [(24,p)]) cs kr kn=DO d .Gt a1 0 cs λz=>bif z then(jD (aB fi d) p .key).bind λw=>(Ax (.own 4) w a2 cs).bind λcs=>dR (v5 d) (lZ.drop 9) (eB cnt k a0 a1 a2 a3 a4 a5 [(24,p)]) cs kr kn
   else dR (v5 d) (lZ.drop 9) (eB cnt k a0 a1 a2 a3 a4 a5 [(24,p)]) cs kr kn:=by kernel_rfl
def G8(d:Nat)(cnt k:Int)(a0 a1 a3 a4 a5:V)(cs:Cs)(kr:V->Ev->Cs->O3)(kn:Ev->Cs->O3)(p a2:V):O3:=dR (v5 d) (lZ.drop 10) (eB cnt k a0 a1 a2 a3 a4 a5 [(24,p)]) cs kr kn
def DP(d:Nat)(v:V)(i:Int)(cs:Cs)(K:Bool->O3):O3:=(cG (aB fi d) .Mod v (.int 5)).bind λm=>DO d .Eq m i cs K
theorem NE(d:Nat)(cnt k:Int)(a0 a1 a2 a3 p:V)(a4:Int)(a5:V)(cs:Cs)(kr:V->Ev->Cs->O3)(kn:Ev->Cs->O3):
  dR (v5 d) (lZ.drop 9) (eB cnt k a0 a1 a2 a3 (.int a4) a5 [(24,p)]) cs kr kn=DP d a3 1 cs λz=>bif z then(cG (aB fi d) .FloorDiv p (.int a4)).bind λq=>(cG (aB fi d) .FloorDiv a2 (.int a4)).bind λv=>G8 d cnt k a0 a1 a3 (.int a4) a5 cs kr kn q v
   else DP d a3 2 cs λz=>bif z then(cG (aB fi d) .Mod p (.int a4)).bind λq=>(cG (aB fi d) .Mod a2 (.int a4)).bind λv=>G8 d cnt k a0 a1 a3 (.int a4) a5 cs kr kn q v
   else DP d a3 3 cs λz=>bif z then(cG (aB fi d) .Mult p (.int a4)).bind λq=>(cG (aB fi d) .Add q a5).bind λq=>(cG (aB fi d) .Mult a2 (.int a4)).bind λv=>(cG (aB fi d) .Add v a5).bind λv=>G8 d cnt k a0 a1 a3 (.int a4) a5 cs kr kn q v
   else DP d a3 4 cs λz=>bif z then DO d .Eq (.int k) 0 cs λz=>bif z then(cG (aB fi d) .Mult p (.int (-a4))).bind λq=>(cG (aB fi d) .Add q a5).bind λq=>(cG (aB fi d) .Mult a2 (.int a4)).bind λv=>(cG (aB fi d) .Sub a5 v).bind λv=>G8 d cnt k a0 a1 a3 (.int a4) a5 cs kr kn q v
    else DP d a3 4 cs λz=>bif z then(cG (aB fi d) .Add p a5).bind λq=>(cG (aB fi d) .Add a2 a5).bind λv=>G8 d cnt k a0 a1 a3 (.int a4) a5 cs kr kn q v else G8 d cnt k a0 a1 a3 (.int a4) a5 cs kr kn p a2
   else DP d a3 4 cs λz=>bif z then(cG (aB fi d) .Add p a5).bind λq=>(cG (aB fi d) .Add a2 a5).bind λv=>G8 d cnt k a0 a1 a3 (.int a4) a5 cs kr kn q v else G8 d cnt k a0 a1 a3 (.int a4) a5 cs kr kn p a2:=by
 kernel_rfl
theorem seg10(d:Nat)(sc A B C:List V)(D:List (Str×V))(cnt k:Int)(a0 a1 a2 a3 a4 a5:V)(p:T)(kr:V->Ev->Cs->O3)(kn:Ev->Cs->O3):
  dR (v5 d) (lZ.drop 10) (eB cnt k a0 a1 a2 a3 a4 a5 [(24,.node p)]) (C4 sc A B C D) kr kn=(bif Nat.ble A.length 100000 then some (V.none,C4 sc (A++[.node p]) B C D)else none).bind λv=>bif g7 v.1 then dR (v5 d) (lZ.drop 11) (eB cnt k a0 a1 a2 a3 a4 a5 [(24,.node p)]) v.2 kr kn else none:=by kernel_rfl
theorem seg11(d:Nat)(sc A B C:List V)(D:List (Str×V))(cnt k x:Int)(a0 a1 a3 a4 a5:V)(p:T)(kr:V->Ev->Cs->O3)(kn:Ev->Cs->O3):
  dR (v5 d) (lZ.drop 11) (eB cnt k a0 a1 (.int x) a3 a4 a5 [(24,.node p)]) (C4 sc A B C D) kr kn=(bif Nat.ble B.length 100000 then some (V.none,C4 sc A (B++[.int x]) C D)else none).bind λv=>bif g7 v.1 then dR (v5 d) (lZ.drop 12) (eB cnt k a0 a1 (.int x) a3 a4 a5 [(24,.node p)]) v.2 kr kn else none:=by kernel_rfl
theorem app3(sc A B C:List V)(D:List (Str×V))(x:Int)(h:C.length<=100000):iL (.own 3) .append [.int x] (C4 sc A B C D)=some (.none,C4 sc A B (C++[.int x]) D):=
 (show _=(bif Nat.ble C.length 100000 then some (V.none,C4 sc A B (C++[.int x]) D)else none) by kernel_rfl).trans (by rw[aV h];rfl)
theorem seg12(d:Nat)(sc A B C:List V)(D:List (Str×V))(cnt k:Int)(a0 a1 a2 a3 a4 a5:V)(p:T)(kr:V->Ev->Cs->O3)(kn:Ev->Cs->O3):
  dR (v5 d) (lZ.drop 12) (eB cnt k a0 a1 a2 a3 a4 a5 [(24,.node p)]) (C4 sc A B C D) kr kn=DO d .Eq (.int k) 0 (C4 sc A B C D) λz=>bif z then(iL (.own 3) .append [.int 1] (C4 sc A B C D)).bind λv=>bif g7 v.1 then kn (eB cnt k a0 a1 a2 a3 a4 a5 [(24,.node p)]) v.2 else none
   else Rr d (C4 sc A B C D) k 6 λv cs=>Fe d v cs λv cs=>IZ v cs λv cs=>(cG (aB fi d) .Add (.int (p.hi+1)) v).bind λs=>(iL (.own 3) .append [s] cs).bind λv=>bif g7 v.1 then kn (eB cnt k a0 a1 a2 a3 a4 a5 [(24,.node p)]) v.2 else none:=by kernel_rfl
noncomputable def uT(k:Nat):Str:=⟨#[118+k]⟩
noncomputable def NF(ρ:Str->Int):T->Int
 |.var e _ _=>ρ e
 |.div a b=>Int.fdiv (NF ρ a) b
 |.mod a b=>Int.fmod (NF ρ a) b
 |_=>0
theorem ev_div{ρ:Str->Int}{a:T}{b:Int}:NF ρ (.div a b)=Int.fdiv (NF ρ a) b:=rfl
theorem ev_mod{ρ:Str->Int}{a:T}{b:Int}:NF ρ (.mod a b)=Int.fmod (NF ρ a) b:=rfl
theorem ev_v{ρ:Str->Int}{e:Str}{l h:Int}:NF ρ (.var e l h)=ρ e:=rfl
structure Ga(k:Nat)(x:Int)(kv:List (Str×Int))(a:T)(v:Int):Prop where
 fr:Fr a
 vd:vR a=true\/∃e l h m,a=.mod (.var e l h) m
 lt:∀c,dS c a->c=118+k
 hi:a.hi<2^62
 ev:∀ρ:Str->Int,ρ (uT k)=x->NF ρ a=v
 vb:v.natAbs<2^63
 at_:∀D:List (Str×V),(∀p∈kv,cJ p.1 D=some (.node (.num p.2)))->At D a v
structure Gp(k:Nat)(x:Int)(kv:List (Str×Int))(F:List T×Int)(v:Int):Prop where
 sh:(F.1=[]/\v=F.2)\/∃a c w,F.1=[tm a c]/\Ga k x kv a w/\c≠0/\c.natAbs<2^62/\v=w*c+F.2/\(1<=k->1<=c/\(c≠1->0<=F.2))
 cb:F.2.natAbs<2^125
 lo:1<=k->0<=T.los F.1+F.2
 hi:T.his F.1+F.2<2^125
theorem w0{x:Int}(h:x<2^62):x<BM:=cX h (by unfold BM;decide+kernel)
theorem sE{x k:Nat}(h:x<2^k)(hk:k<=900):x<2^900:=aZ h (eQ (by decide) hk)
theorem Ff{D:List (Str×V)}{e:Str}{l h x:Int}(hn:Nd 0 (.var e l h))(hD:cJ (T.var e l h).rend D=some (.node (.num x)))(d:Nat)(hd:9<=d):Fd d (.var e l h) D=some (.node (.num x)):=by
 refine jC d 8 hd λd _=>?_;have hk:ZC d (.var e l h):=z7 hn.rk (by rw[T.nd];lia) (by exact bT (by assumption) (by rfl))
 show aB fi (d+1) 267 [.node (.var e l h),.dct D] []=_;rw[Rn,bS (show jD (aB fi d) (.node (.var e l h)) .key=some (.str (T.var e l h).rend)from hk),
  show iL (.dct D) .get [.str (T.var e l h).rend,.node (.var e l h)] []=some ((match cJ (T.var e l h).rend D with|some u=>u|none=>.node (.var e l h)),[]) by kernel_rfl,hD];rfl
section
variable{k:Nat}{l s x:Int}(hk:k<5)(h0:0<=l)(hl:l<2^60)(hs:0<s)(hs2:s<2^60)(hx:l<=x)(hx2:x<=l+s)
include hk h0 hl hs hs2
theorem Fg:Nd 0 (.var (uT k) l (l+s)):=.var ⟨by lia,by lia⟩ h0 (by lia) (w0 (by lia))
include hx hx2
theorem Am:Ga k x [((T.var (uT k) l (l+s)).rend,x)] (.var (uT k) l (l+s)) x:=by
 have hn:=Fg hk h0 hl hs hs2;refine⟨⟨hn.mono (by lia),rfl⟩,.inl rfl,λc h=>?_,by rw[T.hi];lia,λρ h=>h,by lia,λD hD d hd=>Ff hn (hD _ aE) d (bT hd rfl)⟩
 rw[dS]at h;exact aN.mp h
theorem Zr{b:Int}(hb:2<=b)(fX:b<2^62)(ht:Int.fdiv l b<Int.fdiv (l+s) b):Ga k x [((T.var (uT k) l (l+s)).rend,x)] (.div (.var (uT k) l (l+s)) b) (Int.fdiv x b):=by
 have hn:=Fg hk h0 hl hs hs2;have g:=Am hk h0 hl hs hs2 hx hx2;have f1:=gF (a:=l+s) (b:=b) (by exact a6 (a6 h0 hx) hx2) (by exact iB hb rfl)
 have f2:=gF (a:=x) (b:=b) (by exact a6 h0 hx) (by exact iB hb rfl)
 refine⟨⟨(Nd.div hn hb ht).mono (by lia),rfl⟩,.inl rfl,λc h=>g.lt c (by rw[dS]at h;exact h),by rw[T.hi,T.hi];exact JX hl hs2 f1,λρ h=>by rw[NF,g.ev ρ h],JY hl hs2 hx2 f2,
  λD hD=>Zm rfl (λd hd=>Ff hn (hD _ aE) d (bT hd rfl)) (by exact iA hb rfl) (w0 fX) (sE (nL (a6 h0 hx) (cX (x61 hl hs2 hx2) (by decide)):x.natAbs<2^62) (by decide))⟩
theorem Zs{b:Int}(hb:2<=b)(fX:b<2^62)(ht:Int.fdiv l b<Int.fdiv (l+s) b):Ga k x [((T.var (uT k) l (l+s)).rend,x)] (.mod (.var (uT k) l (l+s)) b) (Int.fmod x b):=by
 have hn:=Fg hk h0 hl hs hs2;have g:=Am hk h0 hl hs hs2 hx hx2;have m1:=eE x (show b≠0 by exact aQ (iB hb rfl))
 have m2:=dW x (show 0<b by exact iB hb rfl)
 have e:=aS x (show 0<=b by exact iA hb rfl)
 refine⟨⟨(Nd.mod hn rfl hb ht).mono (by lia),rfl⟩,.inr ⟨_,_,_,_,rfl⟩,λc h=>g.lt c (by rw[dS]at h;exact h),?_,λρ h=>by rw[NF,g.ev ρ h],by grind,
  λD hD=>Zn rfl (λd hd=>Ff hn (hD _ aE) d (bT hd rfl)) (by exact iA hb rfl) (w0 fX) (sE (nL (a6 h0 hx) (cX (x61 hl hs2 hx2) (by decide)):x.natAbs<2^62) (by decide))⟩
 rw[T.hi];have:=(m7 (l:=l) (h:=l+s) (m:=b) (by exact iB hb rfl) ht (by exact a6 hx hx2)).2
 show yP l (l+s) b<_;lia
end
theorem An{k:Nat}{x n:Int}{kv:List (Str×Int)}(hn:n.natAbs<2^125)(h:1<=k->0<=n):Gp k x kv ([],n) n:=
 ⟨.inl ⟨rfl,rfl⟩,hn,λhk=>by have:=h hk;show 0<=(0:Int)+n;lia,by show(0:Int)+n<_;lia⟩
theorem yC(a:T)(c:Int):(tm a c).lo=(bif decide (0<=c)then a.lo*c else a.hi*c)/\(tm a c).hi=(bif decide (0<=c)then a.hi*c else a.lo*c):=by
 unfold tm;by_cases h:c=1
 ·subst h;rw[aH rfl];exact⟨(dF _).symm,(dF _).symm⟩
 ·rw[aK h];exact⟨rZ ..,pI ..⟩
theorem G9{k:Nat}{x w c m:Int}{kv:List (Str×Int)}{a:T}(g:Ga k x kv a w)(hc:c≠0)(hc2:c.natAbs<2^62)(hm:m.natAbs<2^62)(hp:1<=k->1<=c/\(c≠1->0<=m))(hl:1<=k->0<=a.lo*c+m):Gp k x kv ([tm a c],m) (w*c+m):=by
 refine Aq (g.fr.nd.rng) λr1 r2 _=>?_;obtain⟨e1,e2⟩:=yC a c;refine⟨.inr ⟨a,c,w,rfl,g,hc,hc2,rfl,hp⟩,by show m.natAbs<_;lia,λhk=>?_,?_⟩
 ·show 0<=(tm a c).lo+0+m;rw[e1,cT (aH (show 0<=c by have:=(hp hk).1;exact iA this rfl) ..)]
  have:=hl hk;lia
 ·show(tm a c).hi+0+m<_;rw[e2];by_cases h:0<=c
  ·rw[cT (aH h ..)];have:a.hi*c<=2^62*2^62:=kA (aO g.hi) (by lia) h (by decide)
   lia
  ·rw[cF (aK h ..)];have:=bY r1 (show c<=0 by exact aO (nD.mp h))
   lia
section
variable{k:Nat}{l s x:Int}(hk:k<5)(h0:0<=l)(hl:l<2^60)(hs:0<=s)(hs2:s<2^60)(hx:l<=x)(hx2:x<=l+s)
def F0(k:Nat)(l s:Int):List T×Int:=bif decide (0<s)then([.var (uT k) l (l+s)],0)else([],l)
def DQ(k:Nat)(l s x:Int):List (Str×Int):=bif decide (0<s)then[((T.var (uT k) l (l+s)).rend,x)]else[]
theorem F0_eq(k:Nat)(l s:Int):(bif decide (0<s)then T.var (uT k) l (l+s)else .num l)=fN (F0 k l s):=by
 unfold F0;induction decide (0<s) using Bool.casesOn with
 |true=>exact(fD _).symm
 |false=>exact(dY _).symm
include hk h0 hl hs hs2
theorem GA:Fm 18 (F0 k l s).1:=by
 unfold F0;induction h:decide (0<s) using Bool.casesOn with
 |true=>exact⟨λt ht=>by obtain rfl:=aN.mp ht;exact⟨(Fg hk h0 hl (aM h) hs2).mono (by lia),rfl,λa c z=>(by cases z),by show(T.var (uT k) l (l+s)).nd<=_;rw[T.nd];lia⟩,gJ ..,by show(1:Nat)<=8;lia⟩
 |false=>exact Fm.nil 18
theorem Zt{d:Nat}{m:Int}(hd:42<=d):cG (aB fi d) .Add (.node (fN (F0 k l s))) (.int m)=some (.node (fN ((F0 k l s).1,(F0 k l s).2+m))):=by
 rw[r9,Ae (GA hk h0 hl hs hs2) (bT hd rfl)]
include hx hx2
theorem Fh{c m:Int}(hc:c≠0)(hc2:c.natAbs<2^62)(hm:m.natAbs<2^62)(hp:1<=k->1<=c/\0<=m):Gp k x (DQ k l s x) ((F0 k l s).1.map (scl c),(F0 k l s).2*c+m) (x*c+m):=by
 unfold F0 DQ;induction h:decide (0<s) using Bool.casesOn with
 |true=>
  have g:=Am hk h0 hl (aM h) hs2 hx hx2;have hh:=G9 (m:=m) g hc hc2 hm (λz=>⟨(hp z).1,λ_=>(hp z).2⟩) (λz=>by
   have:=eO h0 (show 0<=c by have:=(hp z).1;exact iA this rfl)
   rw[T.lo];have:=(hp z).2;exact CK hp z (by assumption))
  show Gp _ _ _ ([scl c _],0*c+m) _;rw[show scl c (.var (uT k) l (l+s))=tm (.var (uT k) l (l+s)) c by unfold scl;rw[show g8 (.var (uT k) l (l+s))=1 from rfl,lV];rfl,mJ,cY]
  exact hh
 |false=>
  have h:=jI h;have e:x=l:=by lia
  clear hx2 hx;subst e;have hb:(x*c).natAbs<=2^60*2^62:=by rw[eP];exact mN (by lia) (by exact bD hc2)
  show Gp _ _ _ ([],x*c+m) _;exact An (aP (mH _ _) (aP (mK hb (bD hm)) (by decide))) λz=>by
   have:=eO h0 (show 0<=c by have:=(hp z).1;exact iA this rfl)
   have:=(hp z).2;exact CK hp z (by assumption)
theorem NG{d:Nat}{c m:Int}(hc:c≠0)(hc2:c.natAbs<2^62)(hd:42<=d):((cG (aB fi d) .Mult (.node (fN (F0 k l s))) (.int c)).bind λq=>cG (aB fi d) .Add q (.int m))=some (.node (fN ((F0 k l s).1.map (scl c),(F0 k l s).2*c+m))):=by
 have hf:=GA hk h0 hl hs hs2;have hb:∀t∈(F0 k l s).1,(g8 t*c).natAbs<2^900:=λt ht=>by
  have:g8 t=1:=by
   unfold F0 at ht;revert ht;induction decide (0<s) using Bool.casesOn with
   |true=>intro ht;obtain rfl:=aN.mp ht;rfl
   |false=>intro ht;cases ht
  rw[this,lV];exact sE hc2 (by decide)
 have h2:(F0 k l s).2.natAbs<2^60:=by
  unfold F0;induction decide (0<s) using Bool.casesOn with
  |true=>show(0:Int).natAbs<_;decide
  |false=>show l.natAbs<_;lia
 rw[bS (DF hf hc hb (sE (k:=122) (by rw[eP];have:=Nat.mul_lt_mul'' h2 hc2;exact this) (by decide)) (bT hd rfl) ..),r9,Ae (hf.scl hc hb) (bT hd rfl)]
theorem NH{m:Int}(hm:m.natAbs<2^62)(hp:1<=k->0<=m):Gp k x (DQ k l s x) ((F0 k l s).1,(F0 k l s).2+m) (x+m):=by
 have h:=Fh hk h0 hl hs hs2 hx hx2 (c:=1) (by decide) (by decide) hm λz=>⟨by decide,hp z⟩
 have e:(F0 k l s).1.map (scl 1)=(F0 k l s).1:=by
  exact(i9 λt (ht:t∈(F0 k l s).1)=>(yB ((GA hk h0 hl hs hs2).gt t ht):scl 1 t=id t)).trans (List.map_id _)
 rw[e,dF,dF]at h;exact h
theorem dv_ok{d:Nat}{b:Int}(hb:1<=b)(fX:b<2^62)(hd:42<=d):∃F,cG (aB fi d) .FloorDiv (.node (fN (F0 k l s))) (.int b)=some (.node (fN F))/\Gp k x (DQ k l s x) F (Int.fdiv x b):=by
 have f0:=gF (a:=x) (b:=b) (by exact a6 h0 hx) (hb)
 have f1:=gF (a:=l) (b:=b) (h0) (hb);unfold F0 DQ;rw[oR];induction h:decide (0<s) using Bool.casesOn with
 |true=>
  have h:=aM h;have hn:=Fg hk h0 hl h hs2;have g:=Am hk h0 hl h hs2 hx hx2;rw[bV,bV,fD];refine jC d 41 hd λd _=>?_;show ∃F,aB fi (d+1) 185 [.node (.var (uT k) l (l+s)),.int b] []=_/\_;rw[wW];have one:∀a w,Ga k x [((T.var (uT k) l (l+s)).rend,x)] a w->Gp k x [((T.var (uT k) l (l+s)).rend,x)] ([a],0) w:=λa w g=>by
   have:=G9 (c:=1) (m:=0) g (by decide) (by decide) (by decide) (λ_=>⟨by decide,λ_=>by decide⟩) (λ_=>by have:=g.fr.nd.rng;lia)
   rw[dF,dK]at this;exact this
  by_cases h1:b=1
  ·clear f1 f0 fX hb;subst h1;exact⟨([.var (uT k) l (l+s)],0),(tB d _ _).trans (by rw[fD]),by rw[lU];exact one _ _ g⟩
  ·rw[pL (by rw[T.lo];exact h0) (by rw[T.lo,T.hi];exact a6 hx hx2) (by lia) (j6 (by exact iA hb rfl) (w0 fX)) (by exact bT (by assumption) (by rfl))]
   unfold NS;rw[T.lo,T.hi];have m1:=nA (x:=l) (y:=x) (b:=b) (hb) hx;have m2:=nA (x:=x) (y:=l+s) (b:=b) (hb) hx2;by_cases he:Int.fdiv l b=Int.fdiv (l+s) b
   ·rw[aH he];refine⟨([],Int.fdiv l b),by rw[dY];rfl,?_⟩
    rw[show Int.fdiv x b=Int.fdiv l b by exact lI (a6 m2 (dL he.symm)) m1]
    exact An (nL f1.1 (aJ f1.2 (cX hl (by decide)))) λ_=>f1.1
   ·rw[aK he];exact⟨([.div (.var (uT k) l (l+s)) b],0),by rw[fD];rfl,one _ _ (Zr hk h0 hl h hs2 hx hx2 (by lia) fX (JZ m1 m2 he))⟩
 |false=>
  have h:=jI h;have e:x=l:=by lia
  clear hx2 hx;subst e;rw[bG,bG,dY,oS (sE (nL h0 hl:x.natAbs<2^60) (by decide)) hb (w0 fX) (by exact bT hd rfl)]
  exact⟨([],Int.fdiv x b),by rw[dY],An (nL f1.1 (aJ f1.2 (cX hl (by decide)))) λ_=>f1.1⟩
theorem md_ok{d:Nat}{b:Int}(hb:1<=b)(fX:b<2^62)(hd:44<=d):∃F,cG (aB fi d) .Mod (.node (fN (F0 k l s))) (.int b)=some (.node (fN F))/\Gp k x (DQ k l s x) F (Int.fmod x b):=by
 have f0:=eE x (show b≠0 by exact aQ (iB hb rfl))
 have f1:=dW x (show 0<b by exact hb)
 have fe:=aS x (show 0<=b by exact iA hb rfl)
 have hF:=GA hk h0 hl hs hs2;unfold F0 at hF;unfold F0 DQ;rw[G4];induction h:decide (0<s) using Bool.casesOn with
 |true=>
  rw[h]at hF;have h:=aM h;have hn:=Fg hk h0 hl h hs2;have g:=Am hk h0 hl h hs2 hx hx2;rw[bV,bV,fD,Ak rfl];by_cases h1:b=1
  ·clear fX hb;subst h1;refine jC d 43 hd λd _=>?_;refine jC d 42 (by assumption) λd _=>?_
   exact⟨([],0),by rw[tX,dY],by rw[show Int.fmod x 1=0 by exact lI (a6 (dL fe) (iK f1 rfl)) (a6 f0 (dL fe.symm))];exact An (by decide) λ_=>by decide⟩
  ·have m1:=nA (x:=l) (y:=x) (b:=b) (hb) hx;have m2:=nA (x:=x) (y:=l+s) (b:=b) (hb) hx2;have q:=dB x b;have q0:=dB l b;have q1:=eE l (show b≠0 by exact aQ (iB hb rfl))
   rw[aG _ (by exact iA hb rfl),aG _ (by exact iA hb rfl)]at m1
   by_cases he:Int.fdiv l b=Int.fdiv (l+s) b
   ·have e:x/b=l/b:=by
     clear q1 q0 q;rw[aG _ (by exact iA hb rfl),aG _ (by exact iA hb rfl)]at m2 he;exact lI (a6 m2 (dL he.symm)) m1
    rw[e]at q;have hq:0<=b*(l/b):=eO (by exact iA hb rfl) (nX h0 (by exact iA hb rfl))
    have hlo:(fN ([T.var (uT k) l (l+s)],(0:Int))).lo=l:=by rw[fD,T.lo]
    have hhi:(fN ([T.var (uT k) l (l+s)],(0:Int))).hi=l+s:=by rw[fD,T.hi]
    have:=x9 (F:=([T.var (uT k) l (l+s)],0)) (m:=b) (d:=d) hF (by lia) (j6 (by exact iA hb rfl) (w0 fX)) (by rw[hlo,hhi,he])
     (by rw[hlo,aG _ (by exact iA hb rfl)];exact j6 hq (w0 (by lia))) (bT hd rfl)
    rw[hlo,fD,aG _ (by exact iA hb rfl)]at this
    refine⟨_,this,?_⟩;have gg:=G9 (c:=1) (m:=0+ -(b*(l/b))) g (by decide) (by decide) (by lia) (λ_=>⟨by decide,λz=>absurd rfl z⟩) (λ_=>by rw[T.lo];exact Ka q q0 q1)
    rw[show Int.fmod x b=x*1+(0+ -(b*(l/b))) by exact Kb fe q]
    exact gg
   ·have ht:Int.fdiv l b<Int.fdiv (l+s) b:=by have:=nA (x:=l) (y:=l+s) (b:=b) (hb) (by exact a6 hx hx2);exact Kc he this
    rw[x8 (by rw[T.lo];exact h0) (by rw[T.lo,T.hi];exact a6 hx hx2) (by lia) (j6 (by exact iA hb rfl) (w0 fX)) (by rw[T.lo,T.hi];exact ht) (bT hd rfl)]
    refine⟨([.mod (.var (uT k) l (l+s)) b],0),by rw[fD],?_⟩
    have g2:=Zs hk h0 hl h hs2 hx hx2 (b:=b) (by lia) fX ht
    have:=G9 (c:=1) (m:=0) g2 (by decide) (by decide) (by decide) (λ_=>⟨by decide,λ_=>by decide⟩) (λ_=>by have:=g2.fr.nd.rng;lia)
    rw[dF,dK]at this;exact this
 |false=>
  have h:=jI h;have e:x=l:=by lia
  clear hF hx2 hx;subst e;rw[bG,bG,dY];show ∃F,aB fi d 199 [.node (.num x),.int b] []=_/\_;rw[Aj hb (w0 fX) (sE (nL h0 hl:x.natAbs<2^60) (by decide)) (bT hd rfl)]
  exact⟨([],Int.fmod x b),by rw[dY],An (fe▸nL f0 (cX f1 (cX fX (by decide)))) λ_=>by exact a6 f0 (dL fe.symm)⟩
end
theorem iS(d:Nat)(n i:Int)(cs:Cs)(K:Bool->O3):DP d (.int n) i cs K=K (decide (Int.fmod n 5=i)):=by
 have e:eY .Mod n 5=some (.int (Int.fmod n 5)):=jT (by decide) (by decide+kernel)
 show(eY .Mod n 5).bind _=_;rw[e];rfl
section
variable{k:Nat}{l s x:Int}(hk:k<5)(h0:0<=l)(hl:l<2^60)(hs:0<=s)(hs2:s<2^60)(hx:l<=x)(hx2:x<=l+s)
include hk h0 hl hs hs2 hx hx2
theorem core{d:Nat}{b m:Int}(n:Int)(hb:1<=b)(fX:b<2^62)(hm:m.natAbs<2^62)(hp:1<=k->0<=m)(hd:44<=d):∃F v,Gp k x (DQ k l s x) F v/\∀(cnt:Int) (a0 a1:V) (cs:Cs) (kr:V->Ev->Cs->O3) (kn:Ev->Cs->O3),
  dR (v5 d) (lZ.drop 9) (eB cnt k a0 a1 (.int x) (.int n) (.int b) (.int m) [(24,.node (fN (F0 k l s)))]) cs kr kn=G8 d cnt k a0 a1 (.int n) (.int b) (.int m) cs kr kn (.node (fN F)) (.int v):=by
 have fb:jP b=true:=j6 (by exact iA hb rfl) (w0 fX)
 have hxb:cG (aB fi d) .Mult (.int x) (.int b)=some (.int (x*b)):=mG (YS (by exact a6 h0 hx) (w0 (by lia)) (by exact iA hb rfl) (w0 fX))
 have add4:∃F v,Gp k x (DQ k l s x) F v/\∀(cnt:Int) (a0 a1:V) (cs:Cs) (kr:V->Ev->Cs->O3) (kn:Ev->Cs->O3),((DP d (.int n) 4 cs λz=>bif z then(cG (aB fi d) .Add (.node (fN (F0 k l s))) (.int m)).bind λq=>(cG (aB fi d) .Add (.int x) (.int m)).bind λv=>G8 d cnt k a0 a1 (.int n) (.int b) (.int m) cs kr kn q v
   else G8 d cnt k a0 a1 (.int n) (.int b) (.int m) cs kr kn (.node (fN (F0 k l s))) (.int x)):O3)=G8 d cnt k a0 a1 (.int n) (.int b) (.int m) cs kr kn (.node (fN F)) (.int v):=by
  induction h:decide (Int.fmod n 5=4) using Bool.casesOn with
  |true=>exact⟨_,x+m,NH hk h0 hl hs hs2 hx hx2 hm hp,λcnt a0 a1 cs kr kn=>by rw[iS,cT (h ..),Zt hk h0 hl hs hs2 (bT hd rfl)];rfl⟩
  |false=>
   refine⟨F0 k l s,x,?_,λcnt a0 a1 cs kr kn=>by rw[iS,h];rfl⟩
   have:=NH hk h0 hl hs hs2 hx hx2 (m:=0) (by decide) (λ_=>by decide)
   rw[dK,dK]at this;exact this
 induction h1:decide (Int.fmod n 5=1) using Bool.casesOn with
 |true=>
  refine i8 (dv_ok hk h0 hl hs hs2 hx hx2 hb fX (d:=d) (bT hd rfl)) λF e g=>?_;refine⟨F,_,g,λcnt a0 a1 cs kr kn=>?_⟩;rw[NE,iS,cT (h1 ..),e,show cG (aB fi d) .FloorDiv (.int x) (.int b)=some (.int (Int.fdiv x b))from m9 (by exact aQ (iB hb rfl)) fb];rfl
 |false=>
 induction h2:decide (Int.fmod n 5=2) using Bool.casesOn with
 |true=>
  refine i8 (md_ok hk h0 hl hs hs2 hx hx2 hb fX (d:=d) (hd)) λF e g=>?_;refine⟨F,_,g,λcnt a0 a1 cs kr kn=>?_⟩;rw[NE,iS,cF (h1 ..),iS,cT (h2 ..),e,show cG (aB fi d) .Mod (.int x) (.int b)=some (.int (Int.fmod x b))from jT (by exact aQ (iB hb rfl)) fb];rfl
 |false=>
 induction h3:decide (Int.fmod n 5=3) using Bool.casesOn with
 |true=>
  refine⟨_,x*b+m,Fh hk h0 hl hs hs2 hx hx2 (c:=b) (by exact aQ (iB hb rfl)) (by lia) hm λz=>⟨hb,hp z⟩,λcnt a0 a1 cs kr kn=>?_⟩
  rw[NE,iS,cF (h1 ..),iS,cF (h2 ..),iS,cT (h3 ..),<-wS,bS (NG hk h0 hl hs hs2 hx hx2 (by exact aQ (iB hb rfl)) (by lia) (bT hd rfl) ..),hxb];rfl
 |false=>
 induction h4:decide (Int.fmod n 5=4)&&decide ((k:Int)=0) using Bool.casesOn with
 |true=>
  obtain⟨h5,h6⟩:=aL.mp h4;have hg:=Fh hk h0 hl hs hs2 hx hx2 (c:= -b) (m:=m) (by lia) (by lia) hm λz=>absurd (aM h6) (by lia)
  refine⟨_,x* -b+m,hg,λcnt a0 a1 cs kr kn=>?_⟩;rw[NE,iS,cF (h1 ..),iS,cF (h2 ..),iS,cF (h3 ..),iS,cT (h5 ..)];show(bif decide ((k:Int)=0)then _ else _)=_;rw[cT (h6 ..),<-wS,bS (NG hk h0 hl hs hs2 hx hx2 (by lia) (by lia) (bT hd rfl) ..),hxb]
  show G8 d cnt k a0 a1 (.int n) (.int b) (.int m) cs kr kn _ (.int (m-x*b))=_;rw[show m-x*b=x* -b+m by rw[iU];lia]
 |false=>
  refine kW (add4) λF v g e=>?_;refine⟨F,v,g,λcnt a0 a1 cs kr kn=>?_⟩;rw[NE,iS,cF (h1 ..),iS,cF (h2 ..),iS,cF (h3 ..)];have e:=e cnt a0 a1 cs kr kn;induction h5:decide (Int.fmod n 5=4) using Bool.casesOn with
  |true=>
   rw[h5]at h4;rw[iS,cT (h5 ..)];show(bif decide ((k:Int)=0)then _ else _)=_;rw[show decide ((k:Int)=0)=false from h4];exact e
  |false=>
   rw[iS,h5];exact e
end
theorem w4{d:Nat}{L:List Int}(hL:L.length<=31){k i:Int}(h0:0<=k)(h1:k<5)(hi:0<=i)(hi2:i<10)(hd:1<=d):∃x,∀(A B C:List V) (D:List (Str×V)) (K:V->Cs->O3),Rr d (C4 (L.map V.int) A B C D) k i K=K (.int x) (C4 (L.map V.int) A B C D):=by
 refine jC d 0 hd λd _=>?_;obtain⟨x,e⟩:=Rq d hL (k:=6*k+i) (by lia) (by lia)
 refine⟨x,λA B C D K=>?_⟩;unfold Rr;rw[mG (g9 (bA (show(6*k).natAbs<2^10 by lia) (by decide+kernel)))]
 show(aB fi (d+1) 673 [.lst (L.map V.int),.int (6*k+i)] []).bind _=_;rw[e];rfl
theorem v6{d:Nat}(x:Int)(hd:1<=d):∃y,y.natAbs<2^60/\∀(cs:Cs) (K:V->Cs->O3),Fe d (.int x) cs K=K (.int y) cs:=by
 refine jC d 0 hd λd _=>?_;refine i8 (Zp d x) λy e h=>?_;refine⟨y,h,λcs K=>?_⟩;unfold Fe;rw[bS (show eX [.int x] cs=some ([.int x],cs)from rfl),bS (e ..)]
theorem Ao(x:Int)(cs:Cs)(K:V->Cs->O3):IZ (.int x) cs K=K (.int x.natAbs) cs:=rfl
theorem xH(d:Nat)(x y:Int)(K:V->O3):(cG (aB fi d) .Add (.int x) (.int y)).bind K=K (.int (x+y)):=rfl
theorem first{d:Nat}{L:List Int}(hL:L.length<=31){k:Nat}(hk:k<5)(hd:1<=d):∃l s x n b m:Int,0<=l/\l<2^60/\0<=s/\s<2^60/\l<=x/\x<=l+s/\1<=b/\b<2^62/\m.natAbs<2^62/\(1<=k->0<=m)/\
  ∀(t:Bool) (cnt:Int) (a0 a1 a2 a3 a4 a5 p:V) (A B C:List V) (D:List (Str×V)) (kr:V->Ev->Cs->O3) (kn:Ev->Cs->O3),
   dR (v5 d) lZ (eA cnt ((6,.int k)::tl t [(31,a0),(19,a1),(16,a2),(48,a3),(38,a4),(30,a5),(24,p)])) (C4 (L.map V.int) A B C D) kr kn=dR (v5 d) (lZ.drop 7) (eB cnt k (.int l) (.int s) (.int x) (.int n) (.int b) (.int m) (tl t [(24,p)])) (C4 (L.map V.int) A B C D) kr kn:=by
 obtain⟨x1,e1⟩:=w4 hL (k:=k) (i:=1) (d:=d) (by lia) (by lia) (by lia) (by lia) hd
 refine i8 (v6 x1 hd) λy1 b1 c1=>?_;obtain⟨x2,e2⟩:=w4 hL (k:=k) (i:=2) (d:=d) (by lia) (by lia) (by lia) (by lia) hd
 refine i8 (v6 x2 hd) λy2 b2 c2=>?_;obtain⟨x3,e3⟩:=w4 hL (k:=k) (i:=3) (d:=d) (by lia) (by lia) (by lia) (by lia) hd
 obtain⟨x4,e4⟩:=w4 hL (k:=k) (i:=4) (d:=d) (by lia) (by lia) (by lia) (by lia) hd
 refine i8 (v6 (Int.fdiv x4 5) hd) λy4 b4 c4=>?_;obtain⟨x5,e5⟩:=w4 hL (k:=k) (i:=5) (d:=d) (by lia) (by lia) (by lia) (by lia) hd
 refine i8 (v6 x5 hd) λy5 b5 c5=>?_;have m0:=eE x3 (show((y2.natAbs:Int)+1)≠0 by lia)
 have m1:=dW x3 (show 0<((y2.natAbs:Int)+1) by lia)
 have me:=aS x3 (show 0<=((y2.natAbs:Int)+1) by exact aO (aJ m0 m1))
 refine⟨y1.natAbs,y2.natAbs,y1.natAbs+Int.fmod x3 (y2.natAbs+1),x4,1+((y4+1).natAbs:Int),bif decide (0<(k:Int))then(y5.natAbs:Int)else y5,CL,CM b1,by exact a6 m0 (nN m1),CM b2,Kd m0 me,Ke m1 me,Kg,by omega,?_,?_,λt cnt a0 a1 a2 a3 a4 a5 p A B C D kr kn=>?_⟩
 ·induction decide (0<(k:Int)) using Bool.casesOn with
  |true=>show((y5.natAbs:Int)).natAbs<_;lia
  |false=>show y5.natAbs<_;lia
 ·intro z;rw[aH (show 0<(k:Int) by lia)]
  show 0<=(y5.natAbs:Int);exact CL
 ·rw[seg0,e1,c1,Ao,e2,c2,Ao,e3,xH,show cG (aB fi d) .Mod (.int x3) (.int ((y2.natAbs:Int)+1))=eY .Mod x3 ((y2.natAbs:Int)+1)from rfl,bS (jT (by exact aQ (aJ m0 m1)) (j6 (by exact aO (aJ m0 m1)) (w0 (Kh b2))) ..),xH,e4,
   show cG (aB fi d) .FloorDiv (.int x4) (.int 5)=eY .FloorDiv x4 5 from rfl,bS (m9 (by decide) (by decide+kernel) ..),c4,xH,Ao,xH,e5,c5,seg6]
  rw[show ∀K:Bool->O3,DO d .Gt (.int (k:Int)) 0 (C4 (L.map V.int) A B C D) K=K (decide (0<(k:Int)))from λ_=>rfl];induction decide (0<(k:Int)) using Bool.casesOn with
  |true=>rw[bV,bV,Ao]
  |false=>rw[bG,bG]
structure Pt where
 F:List T×Int
 v:Int
 S:Int
 x:Int
 kv:List (Str×Int)
structure Gd(k:Nat)(P:Pt):Prop where
 gp:Gp k P.x P.kv P.F P.v
 s0:k=0->P.S=1
 s1:1<=k->T.his P.F.1+P.F.2<P.S/\P.S<2^126
 kv:P.kv=[]\/∃s,P.kv=[(s,P.x)]/\∀c,Jh c->(z4 c s↔c=118+k)
theorem put4(sc A B C:List V)(D:List (Str×V))(s:Str)(x:Int)(h:D.length<=1000):Ax (.own 4) (.str s) (.int x) (C4 sc A B C D)=some (C4 sc A B C (lK s (.int x) D)):=
 (show _=(bif Nat.ble D.length 1000 then some (C4 sc A B C (lK s (.int x) D))else none) by kernel_rfl).trans (by rw[aV h];rfl)
theorem put_d{s:Str}{x:Int}{vs:List (Str×Int)}(h:∀q∈vs,q.1≠s):lK s (.int x) (nW vs)=nW (vs++[(s,x)]):=by
 have:cJ s (nW vs)=none:=rG λp hp=>by
  obtain⟨q,hq,rfl⟩:=bR.mp hp;exact l9.mpr λe=>h q hq e.symm
 rw[s8 this];unfold nW;rw[dQ];rfl
theorem Qn{k:Nat}(hk:k<5)(cs:Cs):eZ (.lst ([118,119,120,121,122].map λc=>V.str ⟨#[c]⟩)) (.int k) cs=some (.str (uT k)):=by
 exact nat5 (Q:=λk=>eZ (.lst ([118,119,120,121,122].map λc=>V.str ⟨#[c]⟩)) (.int k) cs=some (.str (uT k))) rfl rfl rfl rfl rfl hk
theorem Zu(k:Nat)(l s x:Int):DQ k l s x=[]\/∃e,DQ k l s x=[(e,x)]/\∀c,Jh c->(z4 c e↔c=118+k):=by
 unfold DQ;induction decide (0<s) using Bool.casesOn with
 |true=>exact .inr ⟨_,rfl,λc hc=>(nM hc _).trans (by rw[dS];exact aN)⟩
 |false=>exact .inl rfl
theorem NI{d:Nat}{k:Nat}{l s x:Int}(hk:k<5)(h0:0<=l)(hl:l<2^60)(hs2:s<2^60)(hd:9<=d){vs:List (Str×Int)}(hV:vs.length<=100)(hq:∀q∈vs,¬z4 (118+k) q.1)(cnt:Int)(n b m:V)(sc A B C:List V)(kr:V->Ev->Cs->O3)(kn:Ev->Cs->O3):
  dR (v5 d) (lZ.drop 8) (eB cnt k (.int l) (.int s) (.int x) n b m [(24,.node (fN (F0 k l s)))]) (C4 sc A B C (nW vs)) kr kn=dR (v5 d) (lZ.drop 9) (eB cnt k (.int l) (.int s) (.int x) n b m [(24,.node (fN (F0 k l s)))]) (C4 sc A B C (nW (vs++DQ k l s x))) kr kn:=by
 rw[seg8,show ∀(cs:Cs) (K:Bool->O3),DO d .Gt (.int s) 0 cs K=K (decide (0<s))from λ_ _=>rfl];unfold F0 DQ;induction h:decide (0<s) using Bool.casesOn with
 |true=>
  have hn:=Fg hk h0 hl (aM h) hs2;have hK:jD (aB fi d) (.node (.var (uT k) l (l+s))) .key=some (.str (T.var (uT k) l (l+s)).rend):=z7 hn.rk (by rw[T.nd];lia) (bT hd rfl)
  rw[bV,bV,bV,fD,bS (hK ..),bS (put4 _ _ _ _ _ _ _ (by unfold nW;rw[aT];exact iG hV rfl) ..),put_d λq h e=>hq q h (by rw[e];exact(nM ⟨by lia,by lia⟩ _).mpr (by rw[dS];exact aN.mpr rfl))]
 |false=>rw[bG,bG,bG,bW]
theorem turn{d:Nat}{L:List Int}(hL:L.length<=31){k:Nat}(hk:k<5)(hd:44<=d):∃(P:Pt) (a0 a1 a2 a3 a4 a5:V),Gd k P/\∀(t:Bool) (cnt:Int) (b0 b1 b2 b3 b4 b5 p:V) (A B C:List V) (vs:List (Str×Int)) (kr:V->Ev->Cs->O3) (kn:Ev->Cs->O3),
  A.length<=100->B.length<=100->C.length<=100->vs.length<=100->(∀q∈vs,¬z4 (118+k) q.1)->
  dR (v5 d) lZ (eA cnt ((6,.int k)::tl t [(31,b0),(19,b1),(16,b2),(48,b3),(38,b4),(30,b5),(24,p)])) (C4 (L.map V.int) A B C (nW vs)) kr kn=
   kn (eB cnt k a0 a1 a2 a3 a4 a5 [(24,.node (fN P.F))]) (C4 (L.map V.int) (A++[.node (fN P.F)]) (B++[.int P.v]) (C++[.int P.S]) (nW (vs++P.kv))):=by
 refine uZ (first (d:=d) hL hk (bT hd rfl)) λl s x n b m h0 hl hs hs2 hx hx2 hb fX hm hp hfi=>?_;refine kW (core hk h0 hl hs hs2 hx hx2 n hb fX hm hp hd) λF v hg hco=>?_;obtain⟨x6,e6⟩:=w4 hL (k:=k) (i:=6) (d:=d) (by lia) (by lia) (by lia) (by lia) (bT hd rfl)
 obtain⟨y6,b6,c6⟩:=v6 (d:=d) x6 (bT hd rfl);refine⟨⟨F,v,bif decide ((k:Int)=0)then 1 else(fN F).hi+1+y6.natAbs,x,DQ k l s x⟩,.int l,.int s,.int v,.int n,.int b,.int m,⟨hg,λz=>?_,λz=>?_,Zu k l s x⟩,λt cnt b0 b1 b2 b3 b4 b5 p A B C vs kr kn hA hB hC hV hq=>?_⟩
 ·show(bif decide ((k:Int)=0)then(1:Int)else _)=1;rw[aH (show(k:Int)=0 by lia)];rfl
 ·show _<(bif decide ((k:Int)=0)then(1:Int)else _)/\(bif decide ((k:Int)=0)then(1:Int)else _)<_;rw[cF (aK (show ¬(k:Int)=0 by lia) ..),vV]
  have:=hg.hi;constructor
  ·show T.his F.1+F.2<_;lia
  ·lia
 ·obtain⟨d,rfl,_⟩:=up (K:=43) (d:=d) hd;obtain⟨d,rfl,_⟩:=up (K:=42) (d:=d) (right);conv=>lhs;rw[hfi,seg7,sp666,aF,Qn hk,aF,show cG (aB fi (d+2)) .Add (.int l) (.int s)=some (.int (l+s))from rfl,aF,
   show ∀cs,eX [.str (uT k),.int l,.int (l+s)] cs=some ([.str (uT k),.int l,.int (l+s)],cs)from λ_=>rfl,aF,Zq d _ h0 hs,F0_eq,aF,NI hk h0 hl hs2 (bT hd rfl) hV hq,hco]
  unfold G8;conv=>lhs;rw[seg10,cT (aV (by lia) ..),aF,cT (show g7 (V.none,C4 (L.map V.int) (A++[V.node (fN F)]) B C (nW (vs++DQ k l s x))).1=true from rfl),seg11,cT (aV (by lia) ..),aF,
   show g7 (V.none,C4 (L.map V.int) (A++[V.node (fN F)]) (B++[V.int v]) C (nW (vs++DQ k l s x))).1=true from rfl,bV,seg12,show ∀(cs:Cs) (K:Bool->O3),DO (d+2) .Eq (.int k) 0 cs K=K (decide ((k:Int)=0))from λ_ _=>rfl]
  induction decide ((k:Int)=0) using Bool.casesOn with
  |true=>rw[bV,app3 _ _ _ _ _ _ (by exact iG hC rfl)];rfl
  |false=>rw[bG,e6,c6,Ao,xH,app3 _ _ _ _ _ _ (by exact iG hC rfl)];rfl
noncomputable abbrev eD(cnt k:Int)(a0 a1 a2 a3 a4 a5 p:V)(ex:Ev):Ev:=eB cnt k a0 a1 a2 a3 a4 a5 ((24,p)::ex)
noncomputable abbrev eC(cnt k:Int)(a0 a1 a2 a3 a4 a5 p w du le mo:V)(ex:Ev):Ev:=eD cnt k a0 a1 a2 a3 a4 a5 p ((14,w)::(36,du)::(32,le)::(29,mo)::(33,.own 5)::ex)
noncomputable abbrev C5(sc A B C:List V)(D:List (Str×V))(z:Bool)(H:List V):Cs:=[⟨true,.lst sc⟩,⟨false,.lst A⟩,⟨false,.lst B⟩,⟨false,.lst C⟩,⟨z,.dct D⟩,⟨false,.lst H⟩]
def b12:List Y:=match LP.body.drop 12 with
 |Y.forR _ _ b::_=>b
 |_=>[]
def Zv:List Y:=match LP.body.drop 15 with
 |Y.forR _ _ b::_=>b
 |_=>[]
noncomputable abbrev B7(d k:Nat)(env:Ev)(cs:Cs):Option V:=dR (R4 d) (LP.body.drop k) env cs kR kN
theorem law0(d:Nat)(l:List V):aB fi (d+1) 687 [.lst l] []=(bif Nat.ble l.length 100000 then some (V.own 0,([⟨false,.lst (l.take 31)⟩]:Cs))else none).bind λv=>B7 d 1 [(8,v.1)] v.2:=(cR rfl rfl rfl rfl).trans (by kernel_rfl)
theorem law1(d:Nat)(sc:List V):B7 d 1 [(8,.own 0)] [⟨false,.lst sc⟩]=(aB fi d 673 [.lst sc,.int 0] []).bind λx=>(cG (aB fi d) .Mod x (.int 4)).bind λy=>(cG (aB fi d) .Add (.int 2) y).bind λc=>(l7 [c]).bind λl=>nK (gV (bJ (aB fi d) 39) [6] lZ l ((8,.own 0)::(50,c)::(23,.own 1)::(22,.own 2)::(20,.own 3)::(15,.own 4)::[]) (C4 sc [] [] [] [])) kR λenv cs=>B7 d 7 env cs:=by kernel_rfl
theorem law7(d:Nat)(c k:Int)(a0 a1 a2 a3 a4 a5 p:V)(sc A B C:List V)(D:List (Str×V)):B7 d 7 (eD c k a0 a1 a2 a3 a4 a5 p []) (C4 sc A B C D)=(eZ (.own 1) (.int 0) (C4 sc A B C D)).bind λw=>(eZ (.own 2) (.int 0) (C4 sc A B C D)).bind λdu=>(eZ (.own 1) (.int 0) (C4 sc A B C D)).bind λw1=>(jD (aB fi d) w1 .min).bind λle=>
  (eZ (.own 1) (.int 0) (C4 sc A B C D)).bind λw2=>(jD (aB fi d) w2 .max).bind λmo=>(eX [w] (C4 sc A B C D)).bind λq=>B7 d 12 (eD c k a0 a1 a2 a3 a4 a5 p [(14,w),(36,du),(32,le),(29,mo),(33,(gT (.lst q.1) q.2).1)]) (gT (.lst q.1) q.2).2:=by kernel_rfl
theorem law12(d:Nat)(c k:Int)(a0 a1 a2 a3 a4 a5 p w du le mo:V)(cs:Cs):B7 d 12 (eC c k a0 a1 a2 a3 a4 a5 p w du le mo []) cs=(l7 [.int 1,.int c]).bind λl=>nK (gV (bJ (aB fi d) 39) [6] b12 l (eC c k a0 a1 a2 a3 a4 a5 p w du le mo []) cs) kR λenv cs=>B7 d 13 env cs:=by kernel_rfl
theorem turn2(d:Nat)(c k:Int)(a0 a1 a2 a3 a4 a5 p:V)(w:T)(du le mo:V)(sc A B C H:List V)(D:List (Str×V))(kr:V->Ev->Cs->O3)(kn:Ev->Cs->O3):dR (v5 d) b12 (eC c k a0 a1 a2 a3 a4 a5 p (.node w) du le mo []) (C5 sc A B C D false H) kr kn=
  (eZ (.own 3) (.int k) (C5 sc A B C D false H)).bind λs=>(cG (aB fi d) .Mult (.node w) s).bind λx=>(eZ (.own 1) (.int k) (C5 sc A B C D false H)).bind λq=>(cG (aB fi d) .Add x q).bind λw'=>
  (eZ (.own 3) (.int k) (C5 sc A B C D false H)).bind λs=>(cG (aB fi d) .Mult du s).bind λx=>(eZ (.own 2) (.int k) (C5 sc A B C D false H)).bind λq=>(cG (aB fi d) .Add x q).bind λdu'=>
  (eZ (.own 3) (.int k) (C5 sc A B C D false H)).bind λs=>(cG (aB fi d) .Mult le s).bind λx=>(eZ (.own 1) (.int k) (C5 sc A B C D false H)).bind λq=>(jD (aB fi d) q .min).bind λq=>(cG (aB fi d) .Add x q).bind λle'=>
  (eZ (.own 3) (.int k) (C5 sc A B C D false H)).bind λs=>(cG (aB fi d) .Mult mo s).bind λx=>(eZ (.own 1) (.int k) (C5 sc A B C D false H)).bind λq=>(jD (aB fi d) q .max).bind λq=>(cG (aB fi d) .Add x q).bind λmo'=>
  (iL (.own 5) .append [w'] (C5 sc A B C D false H)).bind λv=>bif g7 v.1 then kn (eC c k a0 a1 a2 a3 a4 a5 p w' du' le' mo' []) v.2 else none:=by kernel_rfl
theorem app5(sc A B C H:List V)(D:List (Str×V))(u:T)(h:H.length<=100000):iL (.own 5) .append [.node u] (C5 sc A B C D false H)=some (.none,C5 sc A B C D false (H++[.node u])):=
 (show _=(bif Nat.ble H.length 100000 then some (V.none,C5 sc A B C D false (H++[.node u]))else none) by kernel_rfl).trans (by rw[aV h];rfl)
def Qo(d:Nat)(op:PySem.CmpOp)(v y:V)(cs:Cs)(K:Bool->Option V):Option V:=(j3 (aB fi d) op v y).bind λv=>(eM v cs).bind K
theorem law13(d:Nat)(c k:Int)(a0 a1 a2 a3 a4 a5 p:V)(w:T)(du le mo:V)(cs:Cs):B7 d 13 (eC c k a0 a1 a2 a3 a4 a5 p (.node w) du le mo []) cs=
  Qo d .NotEq (.int w.lo) le cs λz=>bif !z then Qo d .NotEq (.int w.hi) mo cs λz=>bif !z then(eX [.node w,.own 4] cs).bind λq=>(aB fi d 659 q.1 []).bind λv=>Qo d .NotEq v du q.2 λz=>bif !z then B7 d 14 (eC c k a0 a1 a2 a3 a4 a5 p (.node w) du le mo []) q.2
   else some (.bool false)else some (.bool false)else some (.bool false):=by kernel_rfl
theorem law14(d:Nat)(c k:Int)(a0 a1 a2 a3 a4 a5 p w du le mo:V)(cs:Cs):B7 d 14 (eC c k a0 a1 a2 a3 a4 a5 p w du le mo []) cs=(l7 [.int (c-1)]).bind λl=>nK (gV (bJ (aB fi d) 39) [39] Zv l (eC c k a0 a1 a2 a3 a4 a5 p w du le mo [(18,.int 1)]) cs) kR λenv cs=>B7 d 16 env cs:=by kernel_rfl
def Qp(d:Nat)(op:PySem.CmpOp)(v y:V)(cs:Cs)(K:Bool->O3):O3:=(j3 (aB fi d) op v y).bind λv=>(eM v cs).bind K
theorem turn3(d:Nat)(t:Bool)(c k st ba:Int)(a0 a1 a2 a3 a4 a5 p h:V)(w:T)(du le mo:V)(cs:Cs)(kr:V->Ev->Cs->O3)(kn:Ev->Cs->O3):dR (v5 d) Zv (eC c k a0 a1 a2 a3 a4 a5 p (.node w) du le mo ((18,.int st)::(39,.int ba)::tl t [(34,h)])) cs kr kn=
  (cG (aB fi d) .FloorDiv (.node w) (.int st)).bind λhd=>(eZ (.own 5) (.int (c-1-ba)) cs).bind λx=>Qp d .Eq hd x cs λz=>bif !(!z)then(eZ (.own 3) (.int (c-1-ba)) cs).bind λs=>(cG (aB fi d) .Mod hd s).bind λm=>(eZ (.own 1) (.int (c-1-ba)) cs).bind λy=>Qp d .Eq m y cs λz=>bif !(!z)then
   (eZ (.own 1) (.int (c-1-ba)) cs).bind λy=>(eX [y,.own 4] cs).bind λq=>(aB fi d 659 q.1 []).bind λv=>(eZ (.own 2) (.int (c-1-ba)) q.2).bind λy=>Qp d .NotEq v y q.2 λz=>bif z then kr (.bool false) (eC c (c-1-ba) a0 a1 a2 a3 a4 a5 p (.node w) du le mo [(18,.int st),(39,.int ba),(34,hd)]) q.2
    else(eZ (.own 3) (.int (c-1-ba)) q.2).bind λs=>(cG (aB fi d) .Mult (.int st) s).bind λst'=>kn (eC c (c-1-ba) a0 a1 a2 a3 a4 a5 p (.node w) du le mo [(18,st'),(39,.int ba),(34,hd)]) q.2
   else kr (.bool false) (eC c (c-1-ba) a0 a1 a2 a3 a4 a5 p (.node w) du le mo [(18,.int st),(39,.int ba),(34,hd)]) cs else kr (.bool false) (eC c (c-1-ba) a0 a1 a2 a3 a4 a5 p (.node w) du le mo [(18,.int st),(39,.int ba),(34,hd)]) cs:=by
 induction t using Bool.casesOn<;>kernel_rfl
theorem law16(d:Nat)(c k st ba:Int)(a0 a1 a2 a3 a4 a5 p h:V)(w:T)(du le mo:V)(cs:Cs):B7 d 16 (eC c k a0 a1 a2 a3 a4 a5 p (.node w) du le mo [(18,.int st),(39,.int ba),(34,h)]) cs=
  (cG (aB fi d) .FloorDiv (.node w) (.int st)).bind λhd=>(eZ (.own 5) (.int 0) cs).bind λx=>(j3 (aB fi d) .Eq hd x).bind λv=>(eM v cs).bind λz=>bif z then(eZ (.own 5) (.int 0) cs).bind λy=>(eX [y,.own 4] cs).bind λq=>(aB fi d 659 q.1 []).bind λv=>(eZ (.own 2) (.int 0) q.2).bind λy=>(j3 (aB fi d) .Eq v y).bind λv=>(a8 v q.2).bind λq=>some q.1
   else(a8 v cs).bind λq=>some q.1:=by kernel_rfl
def Wf(P:Nat->Pt):Nat->List T×Int
 |0=>(P 0).F
 |k+1=>((Wf P k).1.map (scl (P (k+1)).S)++(P (k+1)).F.1,(Wf P k).2*(P (k+1)).S+(P (k+1)).F.2)
noncomputable def Fi(P:Nat->Pt):Nat->Int
 |0=>(P 0).v
 |k+1=>Fi P k*(P (k+1)).S+(P (k+1)).v
noncomputable def Cj(P:Nat->Pt):Nat->List (Str×Int)
 |0=>[]
 |k+1=>Cj P k++(P k).kv
theorem vsN_s{P:Nat->Pt}{k:Nat}:Cj P (k+1)=Cj P k++(P k).kv:=rfl
theorem vsN_z{P:Nat->Pt}:Cj P 0=[]:=rfl
structure Tt(k:Nat)(pc:Int)(t:T):Prop where
 lt:Lt t
 let_:∀c,dS c t->c=118+k
 cb:(g8 t).natAbs<2^62
 tp:1<=k->Tp t/\t.vc=1/\1<=g8 t/\(sC t=true->0<=pc)
 hi:(jM t).hi<2^62
theorem Zw{k:Nat}{P:Pt}(h:Gd k P):P.F.1=[]\/∃t,P.F.1=[t]/\Tt k P.F.2 t:=by
 rcases h.gp.sh with⟨h1,_⟩|⟨a,c,w,h1,g,hc,hc2,_,hp⟩
 ·exact .inl h1
 ·refine .inr ⟨_,h1,?_⟩;have ha:=kY g.fr.b;refine oA (uR (q:=c) ha) λe1 e2=>?_;have hg:Gt 18 a:=g.fr.tp.gt (by rw[(sH g.fr.b).1];exact CO)
  have hs:=EV (c:=c) hg (by rw[(sA ha).2];exact Ki hc hp) (by rw[(sA ha).2,lV];exact sE hc2 (by decide))
  unfold scl at hs;rw[(sA ha).1,(sA ha).2,lV]at hs;have hr:=g.fr.nd.rng;refine⟨⟨hs,by rw[e1];exact g.fr,by rw[e1];exact g.vd⟩,λx hx=>?_,by rw[e2];exact hc2,λhk=>?_,by rw[e1];exact g.hi⟩
  ·have:dS x (jM (tm a c)):=rK.mpr hx;rw[e1]at this;exact g.lt x this
  ·refine oA (hp hk) λp1 p2=>?_;have hh:a.hi*c<=2^62*2^62:=kA (aO g.hi) (Kj hc2 hp hk p2) (Kk p1) (by decide)
   refine Aq (Gv g.fr p1 (aJ hh (by unfold BM;decide+kernel))) λq1 q2 _=>?_
   refine⟨q1,q2,by rw[e2];exact p1,λhM=>p2 λhc1=>?_⟩
   rw[N5 g.fr,aH hc1]at hM;exact bX hM
theorem uU{k:Nat}{P:Pt}(h:Gd k P):∀t∈P.F.1,Tt k P.F.2 t:=λt ht=>by
 rcases Zw h with e|⟨u,e,hu⟩
 ·rw[e]at ht;cases ht
 ·rw[e]at ht;clear e;obtain rfl:=aN.mp ht;exact hu
theorem uV{k:Nat}{P:Pt}(h:Gd k P):P.F.1.length<=1/\P.F.1.Pairwise rJ:=by
 rcases Zw h with e|⟨u,e,hu⟩
 ·rw[e];exact⟨d3 _,.nil⟩
 ·rw[e];exact⟨cA _,gJ ..⟩
theorem Ja{k:Nat}{P:Pt}(h:Gd k P):1<=P.S/\P.S<2^126:=by
 by_cases hk:k=0
 ·rw[h.s0 hk];exact⟨by decide,by decide⟩
 ·refine oA (h.s1 (CR hk)) λh1 h2=>?_;have h3:=h.gp.lo (CR hk);have h4:=Aa (n:=18) (ts:=P.F.1) λt ht=>(uU h t ht).lt.gt;omega
structure Wh(k:Nat)(W:List T×Int):Prop where
 lt:∀t∈W.1,Lt t
 ap:W.1.Pairwise rJ
 le:∀t∈W.1,∀c,dS c t->c<=118+k
 len:W.1.length<=k+1
 cf:∀t∈W.1,(g8 t).natAbs<2^(130*(k+1))
 kb:W.2.natAbs<2^(130*(k+1))
theorem Lt.at_{t:T}(h:Lt t):j5 (jM t)=true:=h.gt.at_
theorem Zx{t:T}{S:Int}(h:Lt t)(hS:1<=S)(hb:(g8 t*S).natAbs<2^900):Lt (scl S t):=by
 refine oA (qB (c:=S) h.at_) λe1 e2=>?_;have h0:g8 t≠0:=by
  by_cases hm:∃a c,t=.mul a c
  ·clear e2 e1 hb;obtain⟨a,c,rfl⟩:=hm;exact(h.gt.mul a c rfl).1
  ·rw[(tA h.gt λa c e=>hm ⟨a,c,e⟩).2];decide
 exact⟨EV h.gt (nY h0 (Kl hS)) hb,by rw[e1];exact h.fr,by rw[e1];exact h.vd⟩
theorem Bn(k:Nat):2^(130*(k+1+1))=2^(130*(k+1))*2^130:=by rw[<-nR];rfl
theorem Fj{x y:Int}{k:Nat}(hx:x.natAbs<2^(130*(k+1)))(hy:y.natAbs<2^126):(x*y).natAbs<=2^(130*(k+1))*2^126:=by
 rw[eP];exact mN (bD hx) (bD hy)
theorem nB{P:Nat->Pt}(hP:∀k,k<5->Gd k (P k)):∀k,k<5->Wh k (Wf P k)
 |0,hk=>by
  have h:=hP 0 hk;have ha:=uU h;exact⟨λt ht=>(ha t ht).lt,(uV h).2,λt ht c hc=>f9 ((ha t ht).let_ c hc),(uV h).1,λt ht=>bA (ha t ht).cb (by decide),bA h.gp.cb (by decide)⟩
 |k+1,hk=>by
  have ih:=nB hP k (qY hk);have h:=hP (k+1) hk;have ha:=uU h;refine oA (Ja h) λs1 s2=>?_;have hp:=Bn k;have hone:1<=2^(130*(k+1)):=pP;have hle:2^(130*(k+1+1))<=2^900:=eQ (by decide) (Km hk)
  have hm:∀t∈(Wf P k).1,(g8 t*(P (k+1)).S).natAbs<2^(130*(k+1+1)):=λt ht=>by
   have:=Fj (ih.cf t ht) (y:=(P (k+1)).S) (by omega)
   rw[hp];exact Kn hp hone hle this
  refine⟨λu hu=>?_,?_,λu hu c hc=>?_,?_,λu hu=>?_,?_⟩
  ·rcases b7.mp hu with hu|hu
   ·obtain⟨t,ht,rfl⟩:=bR.mp hu;exact Zx (ih.lt t ht) s1 (aZ (hm t ht) hle)
   ·exact(ha u hu).lt
  ·refine iX.mpr ⟨qH.mpr (List.Pairwise.imp_of_mem (λ{a b} h1 h2 hab c hc z1 z2=>hab c hc ((rL (ih.lt a h1).at_).mp z1) ((rL (ih.lt b h2).at_).mp z2)) ih.ap),(uV h).2,λu hu v hv c _ z1 z2=>?_⟩;obtain⟨t,ht,rfl⟩:=bR.mp hu;have:=ih.le t ht c ((rL (ih.lt t ht).at_).mp z1);have:=(ha v hv).let_ c z2;exact Ko (by assumption) this
  ·rcases b7.mp hu with hu|hu
   ·obtain⟨t,ht,rfl⟩:=bR.mp hu;have:=ih.le t ht c ((rL (ih.lt t ht).at_).mp hc);exact Kp this
   ·exact f9 ((ha u hu).let_ c hc)
  ·show((Wf P k).1.map _++_).length<=_;rw[bU,aT];have:=(uV h).1;have:=ih.len;exact Kq (by assumption) this
  ·rcases b7.mp hu with hu|hu
   ·obtain⟨t,ht,rfl⟩:=bR.mp hu;rw[(qB (ih.lt t ht).at_).2];exact hm t ht
   ·have:=(ha u hu).cb;rw[hp];exact Kr hp hone hle this
  ·have h1:=Fj ih.kb (y:=(P (k+1)).S) (by omega)
   have h2:=h.gp.cb;show((Wf P k).2*(P (k+1)).S+(P (k+1)).F.2).natAbs<_;rw[hp];omega
theorem Wh.fm{k:Nat}{W:List T×Int}(h:Wh k W)(hk:k<5):Fm 18 W.1:=⟨λt ht=>(h.lt t ht).gt,h.ap,by have:=h.len;exact Ks hk this⟩
theorem Wh.k9{k:Nat}{W:List T×Int}(h:Wh k W)(hk:k<5):W.2.natAbs<2^900:=aZ h.kb (eQ (by decide) (Kt hk))
theorem Rt{k:Nat}{P:Pt}(h:Gd k P):Fm 18 P.F.1:=⟨λt ht=>(uU h t ht).lt.gt,(uV h).2,by have:=(uV h).1;exact Ku this⟩
theorem NJ{n:Nat}{t:T}{S:Int}(h:Gt n t)(hS:1<=S):(scl S t).lo=t.lo*S/\(scl S t).hi=t.hi*S:=by
 refine oA (yC (jM t) (g8 t*S)) λe1 e2=>?_;have e:=yC (jM t) (g8 t);rw[N9 h]at e;unfold scl;rw[e1,e2,e.1,e.2];by_cases hc:0<=g8 t
 ·rw[aH hc,aH (eO hc (by exact iA hS rfl)),bV,bV,bV,bV,jO,jO];exact⟨rfl,rfl⟩
 ·have:g8 t*S<0:=Int.mul_neg_of_neg_of_pos (by exact nD.mp hc) (Kv hS)
  rw[aK hc,aK (show ¬0<=g8 t*S by exact nD.mpr this),bG,bG,bG,bG,jO,jO];exact⟨rfl,rfl⟩
theorem Ck{n:Nat}{S:Int}(hS:1<=S):∀{ts:List T},(∀t∈ts,Gt n t)->T.los (ts.map (scl S))=T.los ts*S/\T.his (ts.map (scl S))=T.his ts*S
 |[],_=>⟨(mJ S).symm,(mJ S).symm⟩
 |t::r,h=>by
  refine oA (Ck hS λu hu=>h u (aI t hu)) λi1 i2=>?_;refine oA (NJ (h t aE) hS) λe1 e2=>?_;show(scl S t).lo+T.los (r.map (scl S))=(t.lo+T.los r)*S/\(scl S t).hi+T.his (r.map (scl S))=(t.hi+T.his r)*S;rw[i1,i2,e1,e2,jG,jG];exact⟨rfl,rfl⟩
theorem Qq{t:T}{a b:Int}(h:j5 (jM t)=true):scl b (scl a t)=scl (b*a) t:=by
 refine oA (qB (c:=a) h) λe1 e2=>?_;show tm (jM (scl a t)) (g8 (scl a t)*b)=tm (jM t) (g8 t*(b*a));rw[e1,e2,jO,d8 a b]
theorem add4(a b c d:Int):a+b+(c+d)=a+c+(b+d):=by rw[nH,nH,Int.add_left_comm b]
theorem a_lo{a b c d:Int}(h1:0<=a+c)(h2:0<=b+d):0<=a+b+(c+d):=by rw[add4];exact pM h1 h2
theorem a_hi{a b c d x y:Int}(h1:a+c<=x-y)(h2:b+d<y):a+b+(c+d)<x:=by
 have:=Int.add_lt_add_of_le_of_lt h1 h2;rwa [Int.sub_add_cancel,<-add4]at this
theorem pw_nk{n k:Nat}(h:k+1<=n):2^(130*(n-k))=2^(130*(n-(k+1)))*2^130:=by
 obtain⟨m,rfl⟩:=Nat.exists_eq_add_of_le h;rw[lX,pO,Nat.add_assoc,lX,Nat.mul_succ,nR]
theorem rc_b{x y:Int}{q:Nat}(h1:x.natAbs<=2^125*q)(h2:y.natAbs<=q):(x+y).natAbs<=q*2^130:=by
 have:=mH x y;have e:q*2^130=2^130*q:=Nat.mul_comm ..;exact Kw h1 h2 this
theorem st_b{st:Int}{q:Nat}(h1:st.natAbs<=q)(h2:q<=2^520):st<=2^520:=by
 have:((2^520:Nat):Int)=2^520:=by norm_cast
 exact a6 Int.le_natAbs (this▸mI.mpr (aR h1 h2))
structure Rs(P:Nat->Pt)(n k:Nat)(st:Int)(R:List T)(rc:Int):Prop where
 w1:(Wf P n).1=(Wf P k).1.map (scl st)++R
 w2:(Wf P n).2=(Wf P k).2*st+rc
 s1:1<=st
 sb:st.natAbs<=2^(130*(n-k))
 lo:0<=T.los R+rc
 hi:T.his R+rc<st
 tp:∀t∈R,Tp t/\Fr (jM t)/\t.vc=1
 rb:rc.natAbs<=2^(130*(n-k))
 len:R.length<=n-k
 kn:k<=n
theorem GB{ts:List T}(h:∀t∈ts,Lt t):ts.map (scl 1)=ts:=
 (i9 λt (ht:t∈ts)=>(yB (h t ht).gt:scl 1 t=id t)).trans (List.map_id _)
theorem Qr{ts:List T}(h:∀t∈ts,t.vc=1):T.vcs ts=ts.length:=by
 induction ts with
 |nil=>rfl
 |cons t r ih=>
  rw[T.vcs,ih λu hu=>h u (aI t hu),h t aE,bL];exact CS
section
variable{P:Nat->Pt}(hP:∀k,k<5->Gd k (P k)){n:Nat}(hn:n<5)
include hP hn
theorem Zy:Rs P n n 1 [] 0:=by
 have h:=nB hP n hn;refine⟨by rw[GB h.lt,bW],Kx,by decide,?_,by decide,by decide,by simp,d3 _,d3 _,cA n⟩
 rw[Nat.sub_self];decide
theorem Cl{k:Nat}{st rc:Int}{R:List T}(h:Rs P n (k+1) st R rc):Rs P n k (st*(P (k+1)).S) ((P (k+1)).F.1.map (scl st)++R) ((P (k+1)).F.2*st+rc):=by
 have hkn:=h.kn;have g:=hP (k+1) (aP hkn hn);have ga:=uU g;have hw:=nB hP k (Nat.lt_of_succ_lt (aP hkn hn));refine oA (Ja g) λs1 s2=>?_;refine oA (g.s1 (lJ 1 k)) λg1 _=>?_;have g0:=g.gp.lo (lJ 1 k);have gc:=g.gp.cb;refine oA (Ck h.s1 λt ht=>(ga t ht).lt.gt) λl1 l2=>?_;have hs:=h.s1;have hs0:0<=st:=a6 (by decide) hs
 have hpw:2^(130*(n-k))=2^(130*(n-(k+1)))*2^130:=pw_nk hkn;have hp5:2^(130*(n-(k+1)))<=2^520:=eQ (by decide) (by omega)
 have sb:=h.sb;have rb:=h.rb;have hlo:=h.lo;have hhi:=h.hi;have hle:=h.len;have hw1:=h.w1;have hw2:=h.w2;have htp:=h.tp;clear h;refine⟨?_,?_,?_,?_,?_,?_,λu hu=>?_,?_,?_,by exact bD (d7 hkn)⟩
 ·rw[hw1];show((Wf P k).1.map _++_).map _++_=_;rw[dQ,iW,dT];congr 1;exact i9 λt ht=>Qq (hw.lt t ht).at_
 ·rw[hw2];show((Wf P k).2*(P (k+1)).S+(P (k+1)).F.2)*st+rc=_;rw[jG,jO,d8 (P (k+1)).S st,nH]
 ·exact kA hs s1 (by decide) hs0
 ·rw[hpw,eP];exact mN sb (Ky s1 s2)
 ·rw[vT,l1];have e:0<=(T.los (P (k+1)).F.1+(P (k+1)).F.2)*st:=eO g0 hs0;rw[jG]at e;exact a_lo e hlo
 ·rw[vS,l2];have e:(T.his (P (k+1)).F.1+(P (k+1)).F.2)*st<=((P (k+1)).S-1)*st:=cH (Kz g1) hs0;rw[jG,Int.sub_mul,lV,d8 (P (k+1)).S st]at e;exact a_hi e hhi
 ·rcases b7.mp hu with hu|hu
  ·obtain⟨t,ht,rfl⟩:=bR.mp hu;refine uY ((ga t ht).tp (lJ 1 k)) λt1 t2 t3 _=>?_;have th:=(ga t ht).hi;have tc:=(ga t ht).cb;have r:=(ga t ht).lt.gt.nd.rng;have hb:(jM t).hi*(g8 t*st)<BM:=by
    have hst:=st_b sb hp5;have h1:g8 t*st<=2^62*2^520:=kA (K3 tc) hst hs0 (by decide)
    have h2:(jM t).hi*(g8 t*st)<=2^62*(2^62*2^520):=kA (by exact aO th) h1 (eO (by exact iA t3 rfl) hs0) (by decide)
    exact aJ h2 (by unfold BM;decide+kernel)
   obtain⟨q1,q2,_⟩:=Gv (c:=g8 t*st) (ga t ht).lt.fr (kA t3 hs (by decide) (a6 (by decide) t3):1*1<=g8 t*st) hb
   exact⟨q1,by rw[show scl st t=tm (jM t) (g8 t*st)from rfl,(uR (ga t ht).lt.at_).1];exact(ga t ht).lt.fr,q2⟩
  ·exact htp u hu
 ·have h1:((P (k+1)).F.2*st).natAbs<=2^125*2^(130*(n-(k+1))):=by rw[eP];exact mN (bD gc) sb
  rw[hpw];exact rc_b h1 rb
 ·rw[bU,aT];exact aR (mK (uV g).1 hle) (by clear hw1 hw2 htp hhi hlo sb rb hpw hp5;exact K4 hkn)
end
section
variable{P:Nat->Pt}(hP:∀k,k<5->Gd k (P k)){n:Nat}(hn:n<5)
include hP hn
theorem Bo{d k:Nat}{st rc:Int}{R:List T}(h:Rs P n k st R rc)(hd:56<=d):uX d (fN (Wf P n)) st=some (.node (fN (Wf P k))):=by
 have hkn:=h.kn;have hw:=nB hP n hn;have hk:=nB hP k (by exact aP hkn hn)
 have hs:=h.s1;have e:Wf P n=((Wf P k).1.map (scl st)++R,(Wf P k).2*st+rc):=Prod.ext h.w1 h.w2;have f:=hw.fm hn;have k9:=hw.k9 hn;by_cases h1:st=1
 ·have l:=h.lo;have r:=h.hi;refine oA (Aa (n:=18) (ts:=R) λt ht=>(h.tp t ht).1.gt (by rw[(h.tp t ht).2.2];exact CO)) λq1 q2=>?_
  have hR:R=[]:=Classical.byContradiction λz=>by have:=q2 z;omega
  clear q2 q1 h;subst hR;have l:0<=(0:Int)+rc:=l;have r:(0:Int)+rc<st:=r;have e2:Wf P n=Wf P k:=by
   rw[e,h1,GB hk.lt,bW,dF,show rc=0 by omega,dK]
  rw[h1,e2];exact N8 (hk.fm (by exact aP hkn hn)) hk.lt (hk.k9 (by exact aP hkn hn)) (by exact bT hd rfl)
 ·rw[e]at f k9⊢;have sb:=h.sb;have rb:=h.rb;have hi:=h.hi;have hp5:2^(130*(n-k))<=2^520:=eQ (by decide) (K5 hn hkn)
  have hz:((2^520:Nat):Int)=2^520:=by norm_cast
  have hB:(3:Int)*2^520<BM:=by unfold BM;decide+kernel
  have hv:T.vcs R<=5:=by rw[Qr λt ht=>(h.tp t ht).2.2];have:=h.len;exact K6 hn hkn this
  exact Qb (hk.fm (by exact aP hkn hn)) (λt ht=>(h.tp t ht).1) (λt ht=>(h.tp t ht).2.1) f (K7 hs h1) (by omega) h.lo hi k9 (λt ht=>by
   have h1:2^(130*(k+1))*2^(130*(n-k))<=2^900:=by rw[<-nR];exact eQ (by decide) (K8 hn hkn)
   rw[eP];have h2:=Nat.mul_lt_mul_of_lt_of_le (hk.cf t ht) sb (lQ (K9 hs sb rb));exact KA h1 h2) hv hd
theorem Jb{d k:Nat}(hk:k+1<=n)(hd:56<=d):Ji d (fN (Wf P (k+1))) (P (k+1)).S=some (.node (fN (P (k+1)).F)):=by
 have hw:=nB hP k (by exact bA (d7 hk) hn)
 have hw1:=nB hP (k+1) (by exact aP hk hn)
 have g:=hP (k+1) (by exact aP hk hn)
 refine oA (Ja g) λs1 s2=>?_;have hcs:=Fj hw.kb (y:=(P (k+1)).S) (by omega)
 have hle:2^(130*(k+1))*2^126<2^900:=by rw[<-nR];exact kC (by decide) (KB hn hk)
 refine Qe (hw.fm (KC hn hk)) hw.lt (hw1.fm (CT hn hk)) ?_ s1 (cX s2 (by unfold BM;decide+kernel)) (g.gp.lo (yG)) (g.s1 (yG)).1 (hw1.k9 (CT hn hk)) (KD hcs hle) hd
 rcases Zw g with e|⟨t,e,ht⟩
 ·exact .inl e
 ·refine uY (ht.tp (yG)) λt1 _ _ t2=>?_;exact .inr ⟨t,e,t1,ht.lt,t2⟩
theorem DS{d k:Nat}(hk:k<=n)(hd:44<=d):j3 (aB fi d) .Eq (.node (fN (Wf P k))) (.node (fN (Wf P k)))=some (.bool true):=by
 have hw:=nB hP k (by exact aP hk hn)
 exact G6 (hw.fm (by exact aP hk hn)) (λt ht=>(hw.lt t ht).fr) (hw.k9 (by exact aP hk hn)) hd
theorem Qs{d k:Nat}(hk:k<=n)(hd:44<=d):j3 (aB fi d) .Eq (.node (fN (P k).F)) (.node (fN (P k).F))=some (.bool true):=by
 have g:=hP k (by exact aP hk hn)
 exact G6 (Rt g) (λt ht=>(uU g t ht).lt.fr) (sE g.gp.cb (by decide)) hd
end
noncomputable def rho(P:Nat->Pt)(e:Str):Int:=match e.cps.toList with
 |[c]=>(P (c-118)).x
 |_=>0
def nu(P:Nat->Pt)(t:T):Int:=NF (rho P) (jM t)
theorem rho_k(P:Nat->Pt)(k:Nat):rho P (uT k)=(P k).x:=by
 show(P (118+k-118)).x=_;rw[lX]
theorem GC(ν:T->Int):∀a b:List T,val ν (a++b)=val ν a+val ν b
 |[],b=>(cY _).symm
 |t::r,b=>by
  show ν t*g8 t+val ν (r++b)=ν t*g8 t+val ν r+val ν b;rw[GC ν r b,nH]
theorem GD(P:Nat->Pt)(S:Int):∀{ts:List T},(∀t∈ts,Lt t)->val (nu P) (ts.map (scl S))=val (nu P) ts*S
 |[],_=>(mJ S).symm
 |t::r,h=>by
  refine oA (qB (c:=S) (h t aE).at_) λe1 e2=>?_;show nu P (scl S t)*g8 (scl S t)+val (nu P) (r.map (scl S))=(nu P t*g8 t+val (nu P) r)*S;rw[GD P S λu hu=>h u (aI t hu),e2,show nu P (scl S t)=nu P t by unfold nu;rw[e1],jG,jO]
theorem Fk{P:Nat->Pt}{q:Str×Int}:∀{n:Nat},q∈Cj P n↔∃i,i<n/\q∈(P i).kv
 |0=>⟨λh=>absurd h fK,λ⟨_,h,_⟩=>absurd h (Nat.not_lt_zero _)⟩
 |n+1=>by
  rw[Cj,b7,Fk (n:=n)];exact⟨λh=>h.elim (λ⟨i,h1,h2⟩=>⟨i,by exact aZ h1 (eT _ _),h2⟩) λh=>⟨n,by exact fL _,h⟩,λ⟨i,h1,h2⟩=>if e:i=n then .inr (e▸h2)else .inl ⟨i,by omega,h2⟩⟩
theorem Bp{k:Str}{x:Int}:∀{vs:List (Str×Int)},(vs.map (·.1)).Nodup->(k,x)∈vs->cJ k (Ci vs)=some (.node (.num x))
 |(k',y)::r,hn,h=>by
  refine oA (gK.mp hn) λh1 h2=>?_;show(bif lC k k' then some (V.node (.num y))else cJ k (Ci r))=_;rcases a7.mp h with e|h
  ·clear h1 h hn;cases e;rw[sR];rfl
  ·rw[l9.mpr λe=>h1 (bR.mpr ⟨_,h,e⟩)];exact Bp h2 h
theorem nu_b{x y:Int}(hx:x.natAbs<2^63)(hy:y.natAbs<2^900):(x*y).natAbs<2^1900:=by
 rw[eP];exact bA (Nat.mul_lt_mul'' hx hy) (by decide+kernel)
section
variable{P:Nat->Pt}(hP:∀k,k<5->Gd k (P k))
include hP
theorem Zz{k:Nat}(hk:k<5){q:Str×Int}(hq:q∈(P k).kv):∀c,Jh c->(z4 c q.1↔c=118+k):=by
 rcases(hP k hk).kv with e|⟨s,e,h⟩
 ·rw[e]at hq;cases hq
 ·rw[e]at hq;obtain rfl:=aN.mp hq;exact h
theorem NK{k:Nat}(hk:k<5):∀q∈Cj P k,¬z4 (118+k) q.1:=λq hq ho=>by
 refine i8 (Fk.mp hq) λi h1 h2=>?_;have:=(Zz hP (by exact bA h1 hk) h2 (118+k) ⟨KF hk,KG hk⟩).mp ho
 exact KH h1 this
theorem DT:∀{n:Nat},n<=5->((Cj P n).map (·.1)).Nodup/\(Cj P n).length<=n
 |0,_=>⟨.nil,cA 0⟩
 |n+1,hn=>by
  refine oA (DT (n:=n) (by exact bD (d7 hn))) λh1 h2=>?_
  rcases(hP n (CU hn)).kv with e|⟨s,e,h⟩
  ·rw[Cj,e,bW];exact⟨h1,by exact bD (jZ h2)⟩
  ·rw[Cj,e,dQ,bU];refine⟨gI.mpr ⟨h1,gK.mpr ⟨by simp,.nil⟩,λa ha b hb=>?_⟩,by show _+1<=_;exact KI h2⟩
   clear e;obtain rfl:=aN.mp hb;obtain⟨q,hq,rfl⟩:=bR.mp ha;exact λe=>NK hP (CU hn) q hq (by rw[e];exact(h _ ⟨KJ hn,KK hn⟩).mpr rfl)
theorem Cm{k n:Nat}(hkn:k<n)(hn:n<=5):(P k).v=val (nu P) (P k).F.1+(P k).F.2/\∀t∈(P k).F.1,At (Ci (Cj P n)) (jM t) (nu P t)/\(nu P t).natAbs<2^63:=by
 have hD:∀p∈(P k).kv,cJ p.1 (Ci (Cj P n))=some (.node (.num p.2)):=λp hp=>Bp (DT hP hn).1 (Fk.mpr ⟨k,hkn,hp⟩);rcases(hP k (by exact aZ hkn hn)).gp.sh with⟨e,h⟩|⟨a,c,w,e,g,_,_,hv,_⟩
 ·rw[e];exact⟨by rw[h];exact(cY _).symm,by simp⟩
 ·refine oA (uR (q:=c) (kY g.fr.b)) λe1 e2=>?_;have en:nu P (tm a c)=w:=by unfold nu;rw[e1];exact g.ev _ (rho_k P k)
  rw[e];refine⟨?_,λt ht=>?_⟩
  ·show _=nu P (tm a c)*g8 (tm a c)+0+_;rw[en,e2,dK];exact hv
  ·obtain rfl:=aN.mp ht;rw[e1,en];exact⟨g.at_ _ hD,g.vb⟩
theorem DU{n:Nat}(hn:n<=5):∀{k:Nat},k<n->Fi P k=val (nu P) (Wf P k).1+(Wf P k).2/\∀t∈(Wf P k).1,At (Ci (Cj P n)) (jM t) (nu P t)/\(nu P t).natAbs<2^63
 |0,hk=>Cm hP hk hn
 |k+1,hk=>by
  refine oA (DU hn (k:=k) (by exact aP (eT _ _) hk)) λi1 i2=>?_
  refine oA (Cm hP hk hn) λp1 p2=>?_;have hw:=nB hP k (by exact aZ (aP (eT _ _) hk) hn)
  refine⟨?_,λu hu=>?_⟩
  ·show Fi P k*_+(P (k+1)).v=val (nu P) ((Wf P k).1.map (scl (P (k+1)).S)++_)+((Wf P k).2*(P (k+1)).S+(P (k+1)).F.2);rw[GC,GD P _ hw.lt,i1,p1,jG];exact KL
  ·rcases b7.mp hu with hu|hu
   ·obtain⟨t,ht,rfl⟩:=bR.mp hu;have e1:=(qB (c:=(P (k+1)).S) (hw.lt t ht).at_).1;rw[e1,show nu P (scl (P (k+1)).S t)=nu P t by unfold nu;rw[e1]]
    exact i2 t ht
   ·exact p2 u hu
theorem Bq{d n k:Nat}(hn:n<=5)(hk:k<n)(hd:49<=d):aB fi d 659 [.node (fN (Wf P k)),.dct (nW (Cj P n))] []=some (.int (Fi P k)):=by
 refine oA (DU hP hn hk) λh1 h2=>?_;refine oA (DT hP hn) λh3 h4=>?_;have hw:=nB hP k (by exact aZ hk hn)
 rw[h1];exact Rp (hw.fm (by exact aZ hk hn)) h3 (by exact aR h4 (iG hn rfl)) (λt ht=>(h2 t ht).1) (λt ht=>nu_b (h2 t ht).2 (aZ (hw.cf t ht) (eQ (by decide) (KM hn hk)))) hd
theorem NL{d n k:Nat}(hn:n<=5)(hk:k<n)(hd:49<=d):aB fi d 659 [.node (fN (P k).F),.dct (nW (Cj P n))] []=some (.int (P k).v):=by
 refine oA (Cm hP hk hn) λh1 h2=>?_;refine oA (DT hP hn) λh3 h4=>?_;have g:=hP k (by exact aZ hk hn)
 rw[h1];exact Rp (Rt g) h3 (by exact aR h4 (iG hn rfl)) (λt ht=>(h2 t ht).1) (λt ht=>nu_b (h2 t ht).2 (sE (uU g t ht).cb (by decide))) hd
end
theorem Ap{d:Nat}{t:List Nat}{body:List Y}{v:V}{vs:List V}{env env':Ev}{cs:Cs}(hb:n6 t v env=some env'):
  gV (bJ (aB fi d) 39) t body (v::vs) env cs=dR (v5 d) body env' cs (λx e c=>some (some x,e,c)) (λe c=>gV (bJ (aB fi d) 39) t body vs e c):=by
 rw[vM (vN _ 39)];show(n6 t v env).bind _=_;rw[bS (hb ..)];unfold nK;congr 1
theorem uW{x y:Int}(h1:x.natAbs<=2^125)(h2:y.natAbs<2^125):(x+y).natAbs<2^127:=
 aP (mH x y) (bA (Nat.add_lt_add_of_le_of_lt h1 h2) (by decide))
theorem Z0{k:Nat}{P:Pt}(h:Gd k P):P.v.natAbs<2^127/\(T.los P.F.1+P.F.2).natAbs<2^127/\(T.his P.F.1+P.F.2).natAbs<2^127:=by
 have cb:=h.gp.cb;rcases h.gp.sh with⟨h1,h2⟩|⟨a,c,w,h1,g,hc,hc2,hv,hp⟩
 ·rw[h1,h2];exact⟨bA cb (by decide),uW (x:=0) (by decide) cb,uW (x:=0) (by decide) cb⟩
 ·rw[h1,hv];have r:=g.fr.nd.rng;have hi:=g.hi;clear hp hv hc h1 h;have mb:∀x y:Int,x.natAbs<=2^63->y.natAbs<2^62->(x*y).natAbs<=2^125:=λx y q1 q2=>by
   rw[eP];exact aR (mN q1 (bD q2)) (by decide)
  have b2:=mb a.lo c (by lia) hc2
  have b3:=mb a.hi c (by lia) hc2
  refine oA (yC a c) λe1 e2=>?_;show _/\((tm a c).lo+0+P.F.2).natAbs<_/\((tm a c).hi+0+P.F.2).natAbs<_;rw[dK,dK,e1,e2];exact⟨uW (mb w c (bD g.vb) hc2) cb,by
   induction decide (0<=c) using Bool.casesOn with
   |true=>exact⟨uW b2 cb,uW b3 cb⟩
   |false=>exact⟨uW b3 cb,uW b2 cb⟩⟩
theorem pw_b{x y:Int}{n:Nat}(h1:x.natAbs<=2^(130*(n+1))*2^126)(h2:y.natAbs<2^129):(x+y).natAbs<2^(130*(n+1))*2^130:=by
 have hone:1<=2^(130*(n+1)):=pP;generalize 2^(130*(n+1))=q at*;have:=mH x y;exact KN h2 h1 hone this
theorem Ru{S x y:Nat->Int}(hS:∀k,k<5->(S k).natAbs<2^126)(hy:∀k,k<5->(y k).natAbs<2^127)(h0:(x 0).natAbs<2^127)(hx:∀k,k+1<5->x (k+1)=x k*S (k+1)+y (k+1)):∀k,k<5->(x k).natAbs<2^(130*(k+1))
 |0,_=>bA h0 (by decide)
 |k+1,hk=>by
  rw[hx k hk,Bn];exact pw_b (Fj (Ru hS hy h0 hx k (qY hk)) (hS (k+1) hk)) (bA (hy (k+1) hk) (by decide))
noncomputable abbrev GE(P:Nat->Pt)(k:Nat):Int:=(fN (Wf P k)).lo
noncomputable abbrev GF(P:Nat->Pt)(k:Nat):Int:=(fN (Wf P k)).hi
section
variable{P:Nat->Pt}(hP:∀k,k<5->Gd k (P k))
include hP
theorem Fl{k:Nat}(hk:k+1<5):GE P (k+1)=GE P k*(P (k+1)).S+(fN (P (k+1)).F).lo/\GF P (k+1)=GF P k*(P (k+1)).S+(fN (P (k+1)).F).hi:=by
 refine oA (Ck (Ja (hP (k+1) hk)).1 λt ht=>((nB hP k (qY hk)).lt t ht).gt) λe1 e2=>?_;unfold GE GF;rw[xF,xF,xF,vV,vV,vV];show T.los ((Wf P k).1.map (scl (P (k+1)).S)++(P (k+1)).F.1)+((Wf P k).2*(P (k+1)).S+(P (k+1)).F.2)=_/\T.his ((Wf P k).1.map (scl (P (k+1)).S)++(P (k+1)).F.1)+((Wf P k).2*(P (k+1)).S+(P (k+1)).F.2)=_;rw[vT,vS,e1,e2,jG,jG];exact⟨add4 ..,add4 ..⟩
theorem fits{k:Nat}(hk:k+1<5):jP (Fi P k*(P (k+1)).S)=true/\jP (GE P k*(P (k+1)).S)=true/\jP (GF P k*(P (k+1)).S)=true:=by
 have hS:∀k,k<5->(P k).S.natAbs<2^126:=λk hk=>by have:=Ja (hP k hk);omega
 have go:∀x y:Nat->Int,(∀k,k<5->(y k).natAbs<2^127)->x 0=y 0->(∀k,k+1<5->x (k+1)=x k*(P (k+1)).S+y (k+1))->jP (x k*(P (k+1)).S)=true:=λx y h1 h2 h3=>by
  have h:=Fj (Ru (S:=λk=>(P k).S) hS h1 (by rw[h2];exact h1 0 (by decide)) h3 k (qY hk)) (hS (k+1) hk)
  rw[<-nR]at h;exact g9 (aP h (kC (by decide) (KO hk)))
 refine⟨go (Fi P) (λk=>(P k).v) (λk hk=>(Z0 (hP k hk)).1) rfl λ_ _=>rfl,go (GE P) (λk=>(fN (P k).F).lo) (λk hk=>?_) rfl λk hk=>(Fl hP hk).1,go (GF P) (λk=>(fN (P k).F).hi) (λk hk=>?_) rfl λk hk=>(Fl hP hk).2⟩
 ·show(fN (P k).F).lo.natAbs<_;rw[xF];exact(Z0 (hP k hk)).2.1
 ·show(fN (P k).F).hi.natAbs<_;rw[vV];exact(Z0 (hP k hk)).2.2
theorem Z1{d k:Nat}(hk:k+1<5)(hd:41<=d):((cG (aB fi d) .Mult (.node (fN (Wf P k))) (.int (P (k+1)).S)).bind λx=>cG (aB fi d) .Add x (.node (fN (P (k+1)).F)))=some (.node (fN (Wf P (k+1)))):=by
 have hw:=nB hP k (qY hk);have hw1:=nB hP (k+1) hk;refine oA (Ja (hP (k+1) hk)) λs1 s2=>?_;have hone:1<=2^(130*(k+1)):=pP;have hle:2^(130*(k+1))*2^126<2^900:=by rw[<-nR];exact kC (by decide) (KP hk)
 have hcs:=Fj hw.kb (y:=(P (k+1)).S) (by omega)
 rw[bS (DF (hw.fm (qY hk)) (KQ s1 s2) (λt ht=>by have:=Fj (hw.cf t ht) (y:=(P (k+1)).S) (by omega);exact CV hone hle this) (CV hone hle hcs) (by omega) ..),uO]
 exact EU (F:=((Wf P k).1.map (scl (P (k+1)).S),(Wf P k).2*(P (k+1)).S)) (hw1.fm hk) (by omega)
end
noncomputable abbrev rng(g:Nat->V)(n:Nat):List V:=(List.range n).map g
noncomputable abbrev gA(P:Nat->Pt)(i:Nat):V:=.node (fN (P i).F)
noncomputable abbrev gB(P:Nat->Pt)(i:Nat):V:=.int (P i).v
noncomputable abbrev gC(P:Nat->Pt)(i:Nat):V:=.int (P i).S
noncomputable abbrev gH(P:Nat->Pt)(i:Nat):V:=.node (fN (Wf P i))
theorem v7(g:Nat->V)(n:Nat):rng g n++[g n]=rng g (n+1):=by
 unfold rng;rw[List.range_succ,dQ];rfl
theorem yD(g:Nat->V)(n:Nat):(rng g n).length=n:=by unfold rng;rw[aT,List.length_range]
theorem j7{i:Nat}{cs:Cs}{g:Nat->V}{n k:Nat}{z:Int}(hv:view (.own i) cs=some (.lst (rng g n)))(hz:z=k)(hk:k<n)(hn:n<=5):eZ (.own i) (.int z) cs=some (g k):=by
 subst hz;unfold eZ;rw[hv];show(bif decide (0<=(k:Int))&&decide ((k:Int)<1000)then(rng g n)[(k:Int).toNat]? else none)=_;rw[aH (show 0<=(k:Int) by omega),aH (show(k:Int)<1000 by omega),Int.toNat_natCast]
 show(rng g n)[k]?=_;unfold rng;rw[List.getElem?_map,List.getElem?_range hk];rfl
def TOk(d:Nat)(L:List Int)(k:Nat)(P:Pt):Prop:=∃a0 a1 a2 a3 a4 a5:V,∀(t:Bool) (cnt:Int) (b0 b1 b2 b3 b4 b5 p:V) (A B C:List V) (vs:List (Str×Int)) (kr:V->Ev->Cs->O3) (kn:Ev->Cs->O3),
  A.length<=100->B.length<=100->C.length<=100->vs.length<=100->(∀q∈vs,¬z4 (118+k) q.1)->
  dR (v5 d) lZ (eA cnt ((6,.int k)::tl t [(31,b0),(19,b1),(16,b2),(48,b3),(38,b4),(30,b5),(24,p)])) (C4 (L.map V.int) A B C (nW vs)) kr kn=
   kn (eB cnt k a0 a1 a2 a3 a4 a5 [(24,.node (fN P.F))]) (C4 (L.map V.int) (A++[.node (fN P.F)]) (B++[.int P.v]) (C++[.int P.S]) (nW (vs++P.kv)))
theorem parts{d:Nat}{L:List Int}(hL:L.length<=31)(hd:44<=d):∃P:Nat->Pt,∀k,k<5->Gd k (P k)/\TOk d L k (P k):=
 Classical.skolem (p:=λk P=>k<5->Gd k P/\TOk d L k P)|>.mp λk=>by
  by_cases hk:k<5
  ·refine GQ (turn (d:=d) hL hk hd) λP a0 a1 a2 a3 a4 a5 h1 h2=>?_;exact⟨P,λ_=>⟨h1,a0,a1,a2,a3,a4,a5,h2⟩⟩
  ·exact⟨⟨([],0),0,0,0,[]⟩,λz=>absurd z hk⟩
noncomputable abbrev Sp(L:List Int)(P:Nat->Pt)(n:Nat):Cs:=C4 (L.map V.int) (rng (gA P) n) (rng (gB P) n) (rng (gC P) n) (nW (Cj P n))
section
variable{d:Nat}{L:List Int}{P:Nat->Pt}(hG:∀k,k<5->Gd k (P k))(hT:∀k,k<5->TOk d L k (P k))
include hG hT
theorem DV{k:Nat}(hk:k<5):∃a0 a1 a2 a3 a4 a5:V,∀(t:Bool) (cnt:Int) (b0 b1 b2 b3 b4 b5 p:V) (kr:V->Ev->Cs->O3) (kn:Ev->Cs->O3),
  dR (v5 d) lZ (eA cnt ((6,.int k)::tl t [(31,b0),(19,b1),(16,b2),(48,b3),(38,b4),(30,b5),(24,p)])) (Sp L P k) kr kn=kn (eB cnt k a0 a1 a2 a3 a4 a5 [(24,gA P k)]) (Sp L P (k+1)):=by
 refine Bv (hT k hk) λa0 a1 a2 a3 a4 a5 h=>?_;refine⟨a0,a1,a2,a3,a4,a5,λt cnt b0 b1 b2 b3 b4 b5 p kr kn=>?_⟩;have hv:=DT hG (n:=k) (by exact bD hk)
 rw[h t cnt b0 b1 b2 b3 b4 b5 p _ _ _ _ kr kn (by rw[yD];exact iO hk rfl) (by rw[yD];exact iO hk rfl) (by rw[yD];exact iO hk rfl) (by exact aR hv.2 (iO hk rfl)) (NK hG hk)]
 unfold Sp;rw[<-v7 (gA P),<-v7 (gB P),<-v7 (gC P)];rfl
theorem Rv(cnt:Int):∀(m k:Nat),k+m<=5->∀(j:Int) (b0 b1 b2 b3 b4 b5 p:V),∃(j':Int) (a0 a1 a2 a3 a4 a5 q:V),
  gV (bJ (aB fi d) 39) [6] lZ (eK k m) (eB cnt j b0 b1 b2 b3 b4 b5 [(24,p)]) (Sp L P k)=some (none,eB cnt j' a0 a1 a2 a3 a4 a5 [(24,q)],Sp L P (k+m))
 |0,k,_,j,b0,b1,b2,b3,b4,b5,p=>⟨j,b0,b1,b2,b3,b4,b5,p,rfl⟩
 |m+1,k,hm,j,b0,b1,b2,b3,b4,b5,p=>by
  refine Bv (DV hG hT (k:=k) (KS hm)) λa0 a1 a2 a3 a4 a5 h=>?_;refine v8 (Rv cnt m (k+1) (KT hm) k a0 a1 a2 a3 a4 a5 (gA P k)) λj' c0 c1 c2 c3 c4 c5 q e=>?_;refine⟨j',c0,c1,c2,c3,c4,c5,q,?_⟩;show gV (bJ (aB fi d) 39) [6] lZ (V.int k::eK ((k+1:Nat):Int) m) _ _=_;rw[Ap (env':=eA cnt ((6,.int k)::tl false [(31,b0),(19,b1),(16,b2),(48,b3),(38,b4),(30,b5),(24,p)])) rfl,h false cnt b0 b1 b2 b3 b4 b5 p,e,show k+1+m=k+(m+1) by exact KU]
theorem Jc{n:Nat}(hn:n<5)(cnt:Int):∃(j:Int) (a0 a1 a2 a3 a4 a5 q:V),
  gV (bJ (aB fi d) 39) [6] lZ (eK 0 (n+1)) (eA cnt []) (C4 (L.map V.int) [] [] [] [])=some (none,eB cnt j a0 a1 a2 a3 a4 a5 [(24,q)],Sp L P (n+1)):=by
 refine Bv (DV hG hT (k:=0) (KV)) λa0 a1 a2 a3 a4 a5 h=>?_;refine v8 (Rv hG hT cnt n 1 (KW hn) 0 a0 a1 a2 a3 a4 a5 (gA P 0)) λj' c0 c1 c2 c3 c4 c5 q e=>?_;refine⟨j',c0,c1,c2,c3,c4,c5,q,?_⟩;show gV (bJ (aB fi d) 39) [6] lZ (V.int ((0:Nat):Int)::eK ((1:Nat):Int) n) _ (Sp L P 0)=_;rw[Ap (env':=eA cnt ((6,.int ((0:Nat):Int))::tl true [(31,.none),(19,.none),(16,.none),(48,.none),(38,.none),(30,.none),(24,.none)])) rfl,h true cnt .none .none .none .none .none .none .none,show n+1=1+n by exact KX]
 exact e
omit hT
noncomputable abbrev Sq(L:List Int)(P:Nat->Pt)(n:Nat)(z:Bool)(k:Nat):Cs:=C5 (L.map V.int) (rng (gA P) n) (rng (gB P) n) (rng (gC P) n) (nW (Cj P n)) z (rng (gH P) k)
theorem Rw{n:Nat}(hn:n<=5)(hd:41<=d)(c:Int)(a0 a1 a2 a3 a4 a5 p:V):∀(m k:Nat),k+1+m=n->∀j:Int,∃j':Int,
  gV (bJ (aB fi d) 39) [6] b12 (eK (k+1:Nat) m) (eC c j a0 a1 a2 a3 a4 a5 p (gH P k) (.int (Fi P k)) (.int (GE P k)) (.int (GF P k)) []) (Sq L P n false (k+1))=
   some (none,eC c j' a0 a1 a2 a3 a4 a5 p (gH P (k+m)) (.int (Fi P (k+m))) (.int (GE P (k+m))) (.int (GF P (k+m))) [],Sq L P n false (k+m+1))
 |0,k,_,j=>⟨j,rfl⟩
 |m+1,k,hm,j=>by
  obtain⟨j',e⟩:=Rw hn hd c a0 a1 a2 a3 a4 a5 p m (k+1) (KY hm) ((k+1:Nat):Int);refine⟨j',?_⟩;have i1:eZ (.own 1) (.int (k+1:Nat)) (Sq L P n false (k+1))=some (gA P (k+1)):=j7 rfl rfl (yH hm) hn;have i2:eZ (.own 2) (.int (k+1:Nat)) (Sq L P n false (k+1))=some (gB P (k+1)):=j7 rfl rfl (yH hm) hn;have i3:eZ (.own 3) (.int (k+1:Nat)) (Sq L P n false (k+1))=some (gC P (k+1)):=j7 rfl rfl (yH hm) hn;refine Aq (fits hG (k:=k) (yI hn hm)) λf1 f2 f3=>?_;obtain⟨w1,w2⟩:=Fl hG (k:=k) (yI hn hm);have nw:=Z1 hG (d:=d) (k:=k) (yI hn hm) hd;show gV (bJ (aB fi d) 39) [6] b12 (V.int ((k+1:Nat):Int)::eK ((k+1+1:Nat):Int) m) _ _=_;rw[Ap (env':=eC c ((k+1:Nat):Int) a0 a1 a2 a3 a4 a5 p (gH P k) (.int (Fi P k)) (.int (GE P k)) (.int (GF P k)) []) rfl,turn2,i1,i2,i3];simp only[aF];rw[<-wS,bS (nw ..),bS (show cG (aB fi d) .Mult (.int (Fi P k)) (.int (P (k+1)).S)=_ from mG f1),xH,bS (show cG (aB fi d) .Mult (.int (GE P k)) (.int (P (k+1)).S)=_ from mG f2),
   show jD (aB fi d) (gA P (k+1)) .min=some (.int (fN (P (k+1)).F).lo)from rfl,aF,xH,bS (show cG (aB fi d) .Mult (.int (GF P k)) (.int (P (k+1)).S)=_ from mG f3),
   show jD (aB fi d) (gA P (k+1)) .max=some (.int (fN (P (k+1)).F).hi)from rfl,aF,xH,<-w1,<-w2,bS (app5 _ _ _ _ _ _ _ (by rw[yD];exact KZ hn hm) ..),cT (show g7 (V.none,C5 (L.map V.int) (rng (gA P) n) (rng (gB P) n) (rng (gC P) n) (nW (Cj P n)) false (rng (gH P) (k+1)++[gH P (k+1)])).1=true from rfl),v7 (gH P),
   show k+(m+1)=k+1+m by exact La]
  exact e
end
theorem Co(cf:cO)(x:Int):j3 cf .NotEq (.int x) (.int x)=some (.bool false):=
 (show _=some (V.bool (!decide (x=x)))from rfl).trans (by rw[aH rfl];rfl)
theorem Z2(sc A B C H:List V)(t:T)(D:List (Str×V))(z:Bool):eX [.node t,.own 4] (C5 sc A B C D z H)=some ([.node t,.dct D],C5 sc A B C D true H):=by induction z using Bool.casesOn<;>rfl
section
variable{d:Nat}{L:List Int}{P:Nat->Pt}(hP:∀k,k<5->Gd k (P k)){n:Nat}(hn:n<5)(hd:56<=d)
include hP hn hd
theorem apart{k b:Nat}(hb:b+(k+1)=n){st rc:Int}{R:List T}(h:Rs P n (k+1) st R rc)(t:Bool)(j:Int)(a0 a1 a2 a3 a4 a5 p x du le mo:V)(kr:V->Ev->Cs->O3)(kn:Ev->Cs->O3):
  dR (v5 d) Zv (eC (n+1:Nat) j a0 a1 a2 a3 a4 a5 p (gH P n) du le mo ((18,.int st)::(39,.int b)::tl t [(34,x)])) (Sq L P (n+1) true (n+1)) kr kn=
   kn (eC (n+1:Nat) ((n+1:Nat)-1-b) a0 a1 a2 a3 a4 a5 p (gH P n) du le mo [(18,.int (st*(P (k+1)).S)),(39,.int b),(34,gH P (k+1))]) (Sq L P (n+1) true (n+1)):=by
 have hi:((n+1:Nat):Int)-1-b=(k+1:Nat):=by exact Lb hb
 have i1:eZ (.own 1) (.int ((n+1:Nat)-1-b)) (Sq L P (n+1) true (n+1))=some (gA P (k+1)):=j7 rfl hi (sL hb) (sM hn hb)
 have i2:eZ (.own 2) (.int ((n+1:Nat)-1-b)) (Sq L P (n+1) true (n+1))=some (gB P (k+1)):=j7 rfl hi (sL hb) (sM hn hb)
 have i3:eZ (.own 3) (.int ((n+1:Nat)-1-b)) (Sq L P (n+1) true (n+1))=some (gC P (k+1)):=j7 rfl hi (sL hb) (sM hn hb)
 have i5:eZ (.own 5) (.int ((n+1:Nat)-1-b)) (Sq L P (n+1) true (n+1))=some (gH P (k+1)):=j7 rfl hi (sL hb) (sM hn hb)
 have hs:=(Cl hP hn h).sb
 have hp:=kC (a:=2) (by decide) (show 130*(n-k)<1900 by omega)
 have hm:cG (aB fi d) .Mult (.int st) (.int (P (k+1)).S)=_:=mG (g9 (by exact aP hs hp))
 conv=>lhs;rw[turn3,oR,bS (Bo hP hn h hd ..),bS (i5 ..)]
 unfold Qp
 conv=>lhs;rw[DS hP hn (yJ hb) (by exact bT hd rfl),aF,fU,aF,gS,g4,bV,i3,aF,G4,Jb hP hn (yJ hb) hd,aF,i1,aF,Qs hP hn (yJ hb) (by exact bT hd rfl),aF,fU,aF,gS,g4,bV,aF,
  Z2,aF,NL hP (sM hn hb) (sL hb) (by exact bT hd rfl),aF,i2,aF,Co,aF,fU,aF,bG,i3,aF,hm,aF]
theorem Rx(a0 a1 a2 a3 a4 a5 p du le mo:V):∀(m b:Nat),b+m=n->∀(j st rc ba:Int) (R:List T) (x:V),Rs P n m st R rc->∃(j' st' ba' rc':Int) (R':List T) (x':V),Rs P n 0 st' R' rc'/\
  gV (bJ (aB fi d) 39) [39] Zv (eK b m) (eC (n+1:Nat) j a0 a1 a2 a3 a4 a5 p (gH P n) du le mo [(18,.int st),(39,.int ba),(34,x)]) (Sq L P (n+1) true (n+1))=
   some (none,eC (n+1:Nat) j' a0 a1 a2 a3 a4 a5 p (gH P n) du le mo [(18,.int st'),(39,.int ba'),(34,x')],Sq L P (n+1) true (n+1))
 |0,b,_,j,st,rc,ba,R,x,h=>⟨j,st,ba,rc,R,x,h,rfl⟩
 |k+1,b,hb,j,st,rc,ba,R,x,h=>by
  refine yF (Rx a0 a1 a2 a3 a4 a5 p du le mo k (b+1) (Lc hb) ((n+1:Nat)-1-b) _ _ b _ (gH P (k+1)) (Cl hP hn h)) λj' st' ba' rc' R' x' h' e=>?_;refine⟨j',st',ba',rc',R',x',h',?_⟩;show gV (bJ (aB fi d) 39) [39] Zv (V.int b::eK ((b+1:Nat):Int) k) _ _=_;rw[Ap (env':=eC (n+1:Nat) j a0 a1 a2 a3 a4 a5 p (gH P n) du le mo ((18,.int st)::(39,.int b)::tl false [(34,x)])) rfl,apart hP hn hd hb h,e]
theorem Jd(hn1:1<=n)(j:Int)(a0 a1 a2 a3 a4 a5 p du le mo:V):∃(j' st' ba' rc':Int) (R':List T) (x':V),Rs P n 0 st' R' rc'/\
  gV (bJ (aB fi d) 39) [39] Zv (eK 0 n) (eC (n+1:Nat) j a0 a1 a2 a3 a4 a5 p (gH P n) du le mo [(18,.int 1)]) (Sq L P (n+1) true (n+1))=
   some (none,eC (n+1:Nat) j' a0 a1 a2 a3 a4 a5 p (gH P n) du le mo [(18,.int st'),(39,.int ba'),(34,x')],Sq L P (n+1) true (n+1)):=by
 obtain⟨k,rfl,_⟩:=up (K:=0) hn1;have h:=Zy hP hn;refine yF (Rx (L:=L) hP hn hd a0 a1 a2 a3 a4 a5 p du le mo k 1 (CS) ((k+1+1:Nat)-1-(0:Nat)) _ _ ((0:Nat):Int) _ (gH P (k+1)) (Cl hP hn h)) λj' st' ba' rc' R' x' h' e=>?_;refine⟨j',st',ba',rc',R',x',h',?_⟩;show gV (bJ (aB fi d) 39) [39] Zv (V.int ((0:Nat):Int)::eK ((1:Nat):Int) k) _ _=_;rw[Ap (env':=eC (k+1+1:Nat) j a0 a1 a2 a3 a4 a5 p (gH P (k+1)) du le mo ((18,.int 1)::(39,.int (0:Nat))::tl true [(34,.none)])) rfl,apart hP hn hd (Ld) h,e]
theorem Qt(hn1:1<=n)(j:Int)(a0 a1 a2 a3 a4 a5 p:V):B7 d 13 (eC (n+1:Nat) j a0 a1 a2 a3 a4 a5 p (gH P n) (.int (Fi P n)) (.int (GE P n)) (.int (GF P n)) []) (Sq L P (n+1) false (n+1))=some (.bool true):=by
 refine yF (Jd (L:=L) hP hn hd hn1 j a0 a1 a2 a3 a4 a5 p (.int (Fi P n)) (.int (GE P n)) (.int (GF P n))) λj' st' ba' rc' R' x' h' e=>?_;have i2:eZ (.own 2) (.int 0) (Sq L P (n+1) true (n+1))=some (gB P 0):=j7 rfl rfl (by exact aZ (bT hn1 rfl) (eT _ _)) (yK hn hn1)
 have i5:eZ (.own 5) (.int 0) (Sq L P (n+1) true (n+1))=some (gH P 0):=j7 rfl rfl (by exact aZ (bT hn1 rfl) (eT _ _)) (yK hn hn1)
 rw[law13];unfold Qo;conv=>lhs;rw[bS (Co ..),bS (fU ..),g4,bV,bS (Co ..),bS (fU ..),g4,bV,bS (Z2 ..),bS (Bq hP (yK hn hn1) (by exact fL _) (by exact bT hd rfl) ..),bS (Co ..),bS (fU ..),g4,bV,
  law14,show l7 [.int ((n+1:Nat)-1)]=some (eK 0 n) by
   show(bif decide (-1000<((n+1:Nat):Int)-1)&&decide (((n+1:Nat):Int)-1<1000)then some (eK 0 (((n+1:Nat):Int)-1).toNat)else none)=_;rw[aH (by omega),aH (by omega),show(((n+1:Nat):Int)-1).toNat=n by omega];rfl,aF,e]
 show B7 d 16 _ _=_;conv=>lhs;rw[law16,oR,Bo hP hn h' hd,aF,i5,aF,DS hP hn (by exact bT hn1 rfl) (by exact bT hd rfl),aF,fU,aF,bV,aF,Z2,aF,Bq hP (by omega) (by exact aZ (bT hn1 rfl) (eT _ _)) (by exact bT hd rfl),aF,i2,aF,
  mD,aF,aH (show Fi P 0=(P 0).v from rfl)]
 rfl
end
theorem bmod4(d:Nat)(x:Int):cG (aB fi d) .Mod (.int x) (.int 4)=some (.int (Int.fmod x 4)):=by
 show eY .Mod x 4=_;exact jT (by decide) (by decide+kernel)
theorem NM(is:List Int)(h:is.length<=63):aB fi 60 687 [.lst (is.map V.int)] []=some (.bool true):=by
 have hL:(is.take 31).length<=31:=by rw[List.length_take];exact Le h
 obtain⟨P,hPT⟩:=parts (d:=59) hL (by decide)
 have hP:=λk hk=>(hPT k hk).1;obtain⟨x,ex⟩:=Rq 58 hL (k:=0) (by decide) (by decide)
 have m0:=eE x (show(4:Int)≠0 by decide)
 have m1:=dW x (show(0:Int)<4 by decide)
 have me:=aS x (show(0:Int)<=4 by decide)
 obtain⟨n,hn⟩:∃n:Nat,1+Int.fmod x 4=n:=⟨(1+Int.fmod x 4).toNat,Lf m0 me⟩;have hn5:n<5:=by exact yL m0 me hn
 have hr:l7 [.int (n+1:Nat)]=some (eK 0 (n+1)):=by
  show(bif decide (-1000<((n+1:Nat):Int))&&decide (((n+1:Nat):Int)<1000)then some (eK 0 ((n+1:Nat):Int).toNat)else none)=_;rw[aH (Lg m0 me hn),aH (Lh m0 me hn),Int.toNat_natCast];rfl
 have hr2:l7 [.int 1,.int (n+1:Nat)]=some (eK 1 n):=by
  show(bif decide ((0:Int)<=1)&&decide ((1:Int)<1000)&&decide (-1000<((n+1:Nat):Int))&&decide (((n+1:Nat):Int)<1000)then some (eK 1 (((n+1:Nat):Int)-1).toNat)else none)=_;rw[aH (show(-1000:Int)<((n+1:Nat):Int) by omega),aH (show((n+1:Nat):Int)<1000 by omega),show(((n+1:Nat):Int)-1).toNat=n by omega];rfl
 refine v8 (Jc hP (λk hk=>(hPT k hk).2) hn5 (n+1:Nat)) λj a0 a1 a2 a3 a4 a5 q e1=>?_;obtain⟨j2,e2⟩:=Rw (L:=is.take 31) hP (n:=n+1) (d:=59) (yM m0 me hn) (by decide) (n+1:Nat) a0 a1 a2 a3 a4 a5 q n 0 (Li) j
 have i1:eZ (.own 1) (.int 0) (Sp (is.take 31) P (n+1))=some (gA P 0):=j7 rfl rfl (CW m0 me hn) (yM m0 me hn);have i2:eZ (.own 2) (.int 0) (Sp (is.take 31) P (n+1))=some (gB P 0):=j7 rfl rfl (CW m0 me hn) (yM m0 me hn);conv=>lhs;rw[law0,aT,bS (cT (aV (by omega) ..) ..),<-List.map_take,law1,bS (ex ..),bS (bmod4 ..),
  show cG (aB fi 59) .Add (.int 2) (.int (Int.fmod x 4))=some (.int (2+Int.fmod x 4))from rfl,aF,show 2+Int.fmod x 4=((n+1:Nat):Int) by omega,bS (hr ..),e1]
 show B7 59 7 _ (Sp (is.take 31) P (n+1))=_;conv=>lhs;rw[law7,i1,aF,i2,aF,aF,show jD (aB fi 59) (gA P 0) .min=some (.int (GE P 0))from rfl,aF,aF,show jD (aB fi 59) (gA P 0) .max=some (.int (GF P 0))from rfl,aF,
  show eX [gA P 0] (Sp (is.take 31) P (n+1))=some ([gA P 0],Sp (is.take 31) P (n+1))from rfl,aF]
 show B7 59 12 (eC (n+1:Nat) j a0 a1 a2 a3 a4 a5 q (gH P 0) (.int (Fi P 0)) (.int (GE P 0)) (.int (GF P 0)) []) (Sq (is.take 31) P (n+1) false 1)=_;rw[law12,bS (hr2 ..)];show nK (gV (bJ (aB fi 59) 39) [6] b12 (eK (0+1:Nat) n) (eC (n+1:Nat) j a0 a1 a2 a3 a4 a5 q (gH P 0) (.int (Fi P 0)) (.int (GE P 0)) (.int (GF P 0)) []) (Sq (is.take 31) P (n+1) false (0+1))) _ _=_;rw[e2,show 0+n=n by exact Lj]
 exact Qt hP hn5 (by decide) (Lk m0 me hn) j2 a0 a1 a2 a3 a4 a5 q
set_option tactic.hygienic true
def kVal(w:World):List (Option Obj):=(Kf w.params).map λp=>some p.2
theorem Z3(P:Params):kAs=(Kf P).map (·.1):=by kernel_rfl!
theorem Z4(P:Params):nsIn (Kf P) mainGlobals "law"=some (some (.ref 687)):=by kernel_rfl!
theorem Qu{γ:Gh}:∀{vs:List Value} {is:List Int},IntsAre vs is->AllR (VR γ []) (is.map V.int) vs:=by
 intro vs is h;induction h with
 |nil=>exact .nil
 |cons n t h ih=>exact .cons (.int n t) ih
theorem law_of:PySem.Challenge.rw_iv0066_01.Holds:=by
 w_on
 refine holds_law Xu λXu=>?_;refine PySem.W.holds_open (q:=qv) (loose:=loose) (Xt:=λ_=>true) (XP:=λ_ _=>True) (Yf:=λs=>kAs.map s.heap.get?) (Ya:=kVal) (YP:=λw h=>(Kf w.params).In h) (N:=10452)
  left (λw s e=>Frag.in_of (Z3 w.params) e) (λw h h' x k=>x.keeps k) (λ_ _=>trivial) (λ_ _ _ _ _=>trivial) (by rfl) (by rfl) (by rfl) (λs _=>?hrf) (by first|rfl) Xu (by decide+kernel) ⟨rfl,rfl,rfl,rfl,rfl,by decide+kernel⟩ ?hw ?hc
 case hrf=>exact recFacts_of (R:=[]) rfl
 case hw=>w_witness2
 case hc=>
  intro w s₀ bZ mg mb G Y fa o pm cd doc dV kV ho hd hcd hD hmg hg args vals as hpre hlay hrd hwl hlo;refine Ground.open G ?_;intro T B D TE TW;obtain⟨_,_,M⟩:=bmod_of_top T;clear ho hd hcd hD
  wrow_args hpre hlay hrd hwl hlo
  rename_i is _ _ _ _ _ _ _ a vs _ hL _ _ _ hI _ hn _;have hT:=topRead_of T;have hfa:fa=687:=by
   have:=hmg.symm.trans (mg_of Y hT.g (Z4 w.params));cases this;rfl
  refine aD (Y7 (is:=is) ⟨Y,_,_,_,_,hT⟩ hfa hL (Qu hI) (NM is (by have:¬(63:Int)<is.length:=hn;omega))) (λv s' z=>?_) λ_ _ z=>z.elim
  obtain⟨rfl,z1,z2,z3⟩:=z;exact⟨.inl ⟨_,_,[],rfl,raisesW_false (by wrow_none_raised),.bool true,by wrow_post,unshared_nil⟩,.of_keep z1,z3,.of_eq (z2.trans hg)⟩
end
end Mine
theorem PySem.Challenge.cw_iv0066_01_holds : PySem.Challenge.rw_iv0066_01.Holds :=
  Mine.law_of
