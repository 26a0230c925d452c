import PyProof.Rows.All
import PyProof.StrBlockL
import Wide.All
import OpenK.KLine
import KE.KOpsOwn
import KE.KIsAll
import KE.KIntText
import KE.KPar
import Lean
import PySem.Challenge.RW_iv0066_01
set_option Elab.async false
set_option maxRecDepth 100000
set_option maxHeartbeats 8000000
set_option linter.all false
set_option genSizeOf false
set_option genInjectivity false
set_option bootstrap.genMatcherCode false
set_option backward.match.sparseCases true
set_option exponentiation.threshold 10000
set_option tactic.hygienic true
open PySem PySem.W PyProof.Rows PySem.Calls
set_option autoImplicit false
namespace Mine
noncomputable section
def aA:=@Nat.eq_of_beq_eq_true
def aF:=@Option.bind_some
def aE:=@List.mem_cons_self
def aH:=@decide_eq_true
def aG:=@Int.fdiv_eq_ediv_of_nonneg
def aI:=@List.mem_cons_of_mem
def aK:=@decide_eq_false
def aL:=@Bool.and_eq_true_iff
def aC:=@Option.some.inj
def aJ:=@Int.lt_of_le_of_lt
def aM:=@of_decide_eq_true
def aN:=@List.mem_singleton
def aO:=@Int.le_of_lt
def aQ:=@Int.ne_of_gt
def aW:=@List.all_eq_true
def aS:=@Int.fmod_eq_emod_of_nonneg
def aP:=@Nat.lt_of_le_of_lt
def aT:=@List.length_map
def aV:=@Nat.ble_eq_true_of_le
def aX:=@Nat.le_of_ble_eq_true
def aD:=@wpAny_mono
def bF:=@wpAny_bind
def a9:=@Bool.and_eq_true
def a7:=@List.mem_cons
def bA:=@Nat.lt_trans
def aZ:=@Nat.lt_of_lt_of_le
def bL:=@List.length_cons
def bR:=@List.mem_map
def bO:=@List.map_cons
def aR:=@Nat.le_trans
def bD:=@Nat.le_of_lt
def a6:=@Int.le_trans
def bU:=@List.length_append
def bW:=@List.append_nil
def cA:=@Nat.le_refl
def b7:=@List.mem_append
def b8:=@List.flatMap_cons
def bY:=@Int.mul_nonpos_of_nonneg_of_nonpos
def cU:=@Option.map_some
def cD:=@List.filter_cons_of_pos
def cH:=@Int.mul_le_mul_of_nonneg_right
def cK:=@beq_eq_false_iff_ne
def bG:=@cond_false
def bV:=@cond_true
def eN:=@Int.lt_of_lt_of_le
def jJ:=@of_decide_eq_false
def cV:=@List.filter_cons_of_neg
def iT:=@Array.mem_toList_iff
def qG:=@Bool.eq_false_iff
def g4:=@Bool.not_false
def gS:=@Bool.not_true
def cP:=@Bool.or_eq_true_iff
def qV:=@Bool.true_and
def nK:=@Int.add_assoc
def kJ:=@Int.add_comm
def jH:=@Int.add_mul
def jZ:=@Int.add_mul_emod_self_right
def pP:=@Int.add_nonneg
def dK:=@Int.add_zero
def cS:=@Int.ediv_eq_zero_of_lt
def n6:=@Int.ediv_nonneg
def dB:=@Int.emod_add_mul_ediv
def qH:=@Int.emod_eq_of_lt
def dW:=@Int.emod_lt_of_pos
def eE:=@Int.emod_nonneg
def j9:=@Int.le_add_of_nonneg_right
def lK:=@Int.le_antisymm
def eR:=@Int.le_of_dvd
def dL:=@Int.le_of_eq
def nQ:=@Int.le_of_lt_add_one
def fI:=@Int.le_refl
def nR:=@Int.lt_iff_le_and_ne
def qW:=@Int.lt_irrefl
def eL:=@Int.lt_or_le
def cX:=@Int.lt_trans
def qI:=@Int.mul_add
def jP:=@Int.mul_assoc
def d8:=@Int.mul_comm
def kA:=@Int.mul_dvd_mul_left
def oG:=@Int.mul_ediv_cancel
def eH:=@Int.mul_ediv_cancel_left
def kB:=@Int.mul_le_mul
def dN:=@Int.mul_le_mul_of_nonneg_left
def qJ:=@Int.mul_left_comm
def gP:=@Int.mul_lt_mul_of_pos_right
def n7:=@Int.mul_ne_zero
def iU:=@Int.mul_neg
def eO:=@Int.mul_nonneg
def dF:=@Int.mul_one
def mJ:=@Int.natAbs_add_le
def iE:=@Int.natAbs_ediv_le_natAbs
def eP:=@Int.natAbs_mul
def nU:=@Int.natAbs_of_nonneg
def g5:=@Int.natCast_nonneg
def iV:=@Int.ne_of_lt
def nG:=@Int.not_le
def jK:=@Int.not_lt
def g6:=@Int.ofNat_dvd_left
def mK:=@Int.ofNat_le
def oW:=@Int.ofNat_lt
def lX:=@Int.one_mul
def oH:=@Int.toNat_of_nonneg
def cY:=@Int.zero_add
def fP:=@Int.zero_fdiv
def mL:=@Int.zero_mul
def qX:=@List.any_cons
def fJ:=@List.any_eq_true
def dT:=@List.append_assoc
def gQ:=@List.append_eq_nil_iff
def kK:=@List.cons_append
def jL:=@List.filter_append
def kL:=@List.filter_cons
def jM:=@List.filter_eq_nil_iff
def k8:=@List.filter_eq_self
def lA:=@List.filter_sublist
def eI:=@List.isEmpty_iff
def dM:=@List.length_filter_le
def oJ:=@List.length_pos_iff
def d0:=@List.length_singleton
def f6:=@List.lookup_cons
def dQ:=@List.map_append
def i9:=@List.map_congr_left
def oK:=@List.map_eq_nil_iff
def iW:=@List.map_map
def gG:=@List.mem_append_left
def jV:=@List.mem_append_right
def dC:=@List.mem_filter
def fV:=@List.mem_map_of_mem
def lY:=@List.mem_singleton_self
def jO:=@List.nil_append
def gI:=@List.nodup_append
def gK:=@List.nodup_cons
def fK:=@List.not_mem_nil
def iX:=@List.pairwise_append
def f7:=@List.pairwise_cons
def qK:=@List.pairwise_map
def gJ:=@List.pairwise_singleton
def eJ:=@List.sum_cons
def pQ:=@List.zip_cons_cons
def mM:=@Nat.add_le_add
def lB:=@Nat.add_le_add_left
def kC:=@Nat.add_le_add_right
def pR:=@Nat.add_right_comm
def lZ:=@Nat.add_sub_cancel_left
def kM:=@Nat.beq_refl
def qY:=@Nat.dvd_trans
def oX:=@Nat.gcd_comm
def lL:=@Nat.le_add_left
def eT:=@Nat.le_add_right
def gR:=@Nat.le_mul_of_pos_left
def f9:=@Nat.le_of_eq
def qN:=@Nat.le_of_lt_succ
def tL:=@Nat.le_succ
def mN:=@Nat.le_succ_of_le
def i7:=@Nat.lt_irrefl
def lQ:=@Nat.lt_of_lt_of_eq
def d7:=@Nat.lt_of_succ_le
def j0:=@Nat.lt_succ_of_le
def fL:=@Nat.lt_succ_self
def mO:=@Nat.lt_trichotomy
def mP:=@Nat.mul_le_mul
def d5:=@Nat.mul_le_mul_left
def nV:=@Nat.mul_le_mul_right
def sI:=@Nat.ne_of_gt
def eU:=@Nat.ne_of_lt
def lR:=@Nat.not_lt
def nH:=@Nat.not_lt_of_lt
def pS:=@Nat.one_le_two_pow
def lS:=@Nat.pos_of_ne_zero
def nW:=@Nat.pow_add
def eQ:=@Nat.pow_le_pow_right
def kE:=@Nat.pow_lt_pow_right
def d3:=@Nat.zero_le
def fZ:=@Option.isNone_iff_eq_none
def fE:=@Option.isSome_iff_exists
noncomputable abbrev sT(l:List Nat):Str:=⟨⟨l⟩⟩
section
noncomputable abbrev OO:=Params->Program->Obj
noncomputable abbrev kh:=PyData.keyHash
noncomputable abbrev y0:=SL.s2766695959194262286x5
noncomputable abbrev y1:=SL.s5856160107412720595x4
noncomputable abbrev y2:=SL.s7174869446012820540x8
noncomputable abbrev y3:=SL.s14018661285674007319x4
noncomputable abbrev y4:=SL.s17162191345867700912x4
noncomputable abbrev y5:=SL.s11030030927630378310x26
noncomputable abbrev y6:=SL.s2742458400755230247x6
noncomputable abbrev y7:=SL.s658472552662922059x5
noncomputable abbrev y8:=SL.s4290257624100764138x5
noncomputable abbrev y9:=SL.s10062305145149207511x16
noncomputable abbrev Om:=SL.s11443829558043349243x14
noncomputable abbrev On:=SL.s4860613602091757760x24
noncomputable abbrev y12:=SL.s8101838861749082086x8
noncomputable abbrev y13:=SL.s16656946322747308186x12
noncomputable abbrev y14:=SL.s10852414792293593619x7
noncomputable abbrev pw:Program:=PySem.Challenge.pw_iv0066_01
noncomputable def RO:List Stmt->Nat->Stmt
 |[],_=>.Pass default
 |s::_,0=>s
 |_::r,n+1=>RO r n
def stP(p:Program)(i:Nat):Stmt:=RO p.main.body i
def stAt(i:Nat):Stmt:=stP pw i
noncomputable def Ot(s:Stmt):List Stmt:=PySem.Stmt.casesOn (motive_2:=λ_=>List Stmt) s
 (λ_ _ _ _ _ _ _ _ _ _=>[])
 (λ_ _ _ _ _ _ _ _ _ _=>[])
 (λ_ _ _ b _ _ _ _ _ _ _=>b)
 (λ_ _=>[])
 (λ_ _=>[])
 (λ_ _ _=>[])
 (λ_ _ _ _ _ _ _=>[])
 (λ_ _ _ _=>[])
 (λ_ _ _ _ _=>[])
 (λ_ _ _ _ _=>[])
 (λ_ _ _ _ _=>[])
 (λ_ _ _ _=>[])
 (λ_ _ _ _=>[])
 (λ_ _ _=>[])
 (λ_ _ _=>[])
 (λ_ _ _=>[])
 (λ_ _ _=>[])
 (λ_ _ _ _ _=>[])
 (λ_ _ _ _ _=>[])
 (λ_ _ _=>[])
 (λ_ _=>[])
 (λ_ _ _ _=>[])
 (λ_ _=>[])
 (λ_ _=>[])
 (λ_ _=>[])
 (λ_=>[])
 (λ_=>[])
 (λ_=>[])
def inP(p:Program)(i j:Nat):Stmt:=RO (Ot (stP p i)) j
def inCls(i j:Nat):Stmt:=inP pw i j
noncomputable def fnD(g:Addr)(st:Stmt)(qual:Str)(dV kV doc pm:Value)(an:Option Addr)(cd ct:Value):Data:=PySem.Stmt.casesOn (motive_2:=λ_=>Data) st
 (λn a b _ _ _ sc _ _ _=>.func {name:=n,qualname:=qual,params:=a,body:=.stmts b,scope:=sc,globals:=g,closure:=[],defaults:=dV,kwdefaults:=kV,doc:=doc,pyModule:=pm,annotations:=an,code:=cd,closureTuple:=ct,builtins:=0})
 (λ_ _ _ _ _ _ _ _ _ _=>.plain)
 (λ_ _ _ _ _ _ _ _ _ _ _=>.plain)
 (λ_ _=>.plain)
 (λ_ _=>.plain)
 (λ_ _ _=>.plain)
 (λ_ _ _ _ _ _ _=>.plain)
 (λ_ _ _ _=>.plain)
 (λ_ _ _ _ _=>.plain)
 (λ_ _ _ _ _=>.plain)
 (λ_ _ _ _ _=>.plain)
 (λ_ _ _ _=>.plain)
 (λ_ _ _ _=>.plain)
 (λ_ _ _=>.plain)
 (λ_ _ _=>.plain)
 (λ_ _ _=>.plain)
 (λ_ _ _=>.plain)
 (λ_ _ _ _ _=>.plain)
 (λ_ _ _ _ _=>.plain)
 (λ_ _ _=>.plain)
 (λ_ _=>.plain)
 (λ_ _ _ _=>.plain)
 (λ_ _=>.plain)
 (λ_ _=>.plain)
 (λ_ _=>.plain)
 (λ_=>.plain)
 (λ_=>.plain)
 (λ_=>.plain)
def s0:Str:=sT [95,95,110,97,109,101,95,95]
def s1:Str:=sT [98,117,105,108,116,105,110,115]
def s2:Str:=sT [95,95,100,111,99,95,95]
def s3:Str:=sT [95,95,112,97,99,107,97,103,101,95,95]
def s4:Str:=sT [95,95,108,111,97,100,101,114,95,95]
def s5:Str:=sT [95,95,115,112,101,99,95,95]
def è:Str:=sT [109,97,120]
def é:Str:=sT [109,105,110]
def ê:Str:=sT [115,117,109]
def Ii:Str:=sT [118,97,114,115]
def J9:Str:=sT [95,95,109,97,105,110,95,95]
def JA:Str:=sT [108,97,119,95,105,118,48,48,54,54,95,48,49]
def Ou:Str:=sT [95,95,97,110,110,111,116,97,116,105,111,110,115,95,95]
def ë:Str:=sT [95,95,98,117,105,108,116,105,110,115,95,95]
def ì:Str:=sT [95,95,102,105,108,101,95,95]
def Ov:Str:=sT [47,99,108,97,105,109,47,99,117,116,46,112,121]
def í:Str:=sT [95,95,99,97,99,104,101,100,95,95]
def JB:Str:=sT [95,119,97,108,108]
def JC:Str:=sT [112,97,114,116,105,116,105,111,110]
def JD:Str:=sT [103,99,100]
def C9:Str:=sT [78,111,100,101]
def CB:Str:=sT [86,97,114,105,97,98,108,101]
def CC:Str:=sT [78,117,109,78,111,100,101]
def JE:Str:=sT [118,97,114,105,97,98,108,101]
def JF:Str:=sT [99,114,101,97,116,101,95,110,111,100,101]
def JG:Str:=sT [99,114,101,97,116,101,95,108,116,95,110,111,100,101]
def CD:Str:=sT [79,112,78,111,100,101]
def CE:Str:=sT [76,116,78,111,100,101]
def CF:Str:=sT [77,117,108,78,111,100,101]
def CG:Str:=sT [68,105,118,78,111,100,101]
def CH:Str:=sT [77,111,100,78,111,100,101]
def CJ:Str:=sT [82,101,100,78,111,100,101]
def CK:Str:=sT [83,117,109,78,111,100,101]
def JH:Str:=sT [115,121,109,95,114,101,110,100,101,114]
def JI:Str:=sT [115,121,109,95,105,110,102,101,114]
def JJ:Str:=sT [95,108,97,119,95,110,97,109,101,115]
def JK:Str:=sT [95,108,97,119,95,97,116]
def JL:Str:=sT [95,108,97,119,95,99,117,116]
def JM:Str:=sT [108,97,119]
def Ow:Str:=sT [60,109,111,100,117,108,101,62]
def RP:Str:=sT [107]
def JN:Str:=sT [97]
def mR:Str:=sT [98]
def c9:Str:=sT [116,105,110,121,103,114,97,100,46,115,104,97,112,101,46,115,121,109,98,111,108,105,99]
def pT:Str:=sT [95,95,109,111,100,117,108,101,95,95]
def xO:Str:=sT [95,95,113,117,97,108,110,97,109,101,95,95]
def qZ:Str:=sT [95,95,102,105,114,115,116,108,105,110,101,110,111,95,95]
def RQ:Str:=sT [95,107,101,121]
def RS:Str:=sT [114,101,110,100,101,114]
def oN:Str:=sT [115,117,98,115,116,105,116,117,116,101]
def Ox:Str:=sT [107,101,121]
def RT:Str:=sT [95,95,98,111,111,108,95,95]
def Ij:Str:=sT [95,95,101,113,95,95]
def RU:Str:=sT [95,95,110,101,103,95,95]
def RV:Str:=sT [95,95,97,100,100,95,95]
def RW:Str:=sT [95,95,114,97,100,100,95,95]
def RY:Str:=sT [95,95,115,117,98,95,95]
def RZ:Str:=sT [95,95,114,115,117,98,95,95]
def Sa:Str:=sT [95,95,108,101,95,95]
def Sb:Str:=sT [95,95,103,116,95,95]
def Sc:Str:=sT [95,95,103,101,95,95]
def Sd:Str:=sT [95,95,108,116,95,95]
def xP:Str:=sT [95,95,109,117,108,95,95]
def Se:Str:=sT [95,95,114,109,117,108,95,95]
def Sf:Str:=sT [95,95,108,115,104,105,102,116,95,95]
def Sg:Str:=sT [95,95,114,102,108,111,111,114,100,105,118,95,95]
def uH:Str:=sT [95,95,102,108,111,111,114,100,105,118,95,95]
def Sh:Str:=sT [95,95,114,109,111,100,95,95]
def xQ:Str:=sT [95,95,109,111,100,95,95]
def Oy:Str:=sT [97,110,100,115]
def q7:Str:=sT [95,95,115,116,97,116,105,99,95,97,116,116,114,105,98,117,116,101,115,95,95]
def fQ:Str:=sT [115,101,108,102]
def CL:Str:=sT [99,116,120]
def Si:Str:=sT [78,111,100,101,46,114,101,110,100,101,114]
def Sj:Str:=sT [78,111,100,101,46,118,97,114,115]
def En:Str:=sT [118,97,114,95,118,97,108,115]
def Sk:Str:=sT [78,111,100,101,46,115,117,98,115,116,105,116,117,116,101]
def Sl:Str:=sT [78,111,100,101,46,107,101,121]
def Sm:Str:=sT [78,111,100,101,46,95,95,98,111,111,108,95,95]
def Sn:Str:=sT [78,111,100,101,46,95,95,101,113,95,95]
def So:Str:=sT [78,111,100,101,46,95,95,110,101,103,95,95]
def Sr:Str:=sT [78,111,100,101,46,95,95,97,100,100,95,95]
def Ss:Str:=sT [78,111,100,101,46,95,95,114,97,100,100,95,95]
def Su:Str:=sT [78,111,100,101,46,95,95,115,117,98,95,95]
def Sv:Str:=sT [78,111,100,101,46,95,95,114,115,117,98,95,95]
def Sw:Str:=sT [78,111,100,101,46,95,95,108,101,95,95]
def Sx:Str:=sT [78,111,100,101,46,95,95,103,116,95,95]
def Sy:Str:=sT [78,111,100,101,46,95,95,103,101,95,95]
def Sz:Str:=sT [78,111,100,101,46,95,95,108,116,95,95]
def S0:Str:=sT [78,111,100,101,46,95,95,109,117,108,95,95]
def S7:Str:=sT [78,111,100,101,46,95,95,114,109,117,108,95,95]
def S8:Str:=sT [78,111,100,101,46,95,95,108,115,104,105,102,116,95,95]
def S9:Str:=sT [78,111,100,101,46,95,95,114,102,108,111,111,114,100,105,118,95,95]
def Oz:Str:=sT [102,97,99,116,111,114,105,110,103,95,97,108,108,111,119,101,100]
def SB:Str:=sT [78,111,100,101,46,95,95,102,108,111,111,114,100,105,118,95,95]
def SD:Str:=sT [78,111,100,101,46,95,95,114,109,111,100,95,95]
def SE:Str:=sT [78,111,100,101,46,95,95,109,111,100,95,95]
def O0:Str:=sT [78,111,100,101,46,115,117,109]
def SF:Str:=sT [110,111,100,101,115]
def O1:Str:=sT [78,111,100,101,46,97,110,100,115]
def î:Str:=sT [95,95,100,105,99,116,95,95]
def ï:Str:=sT [95,95,119,101,97,107,114,101,102,95,95]
def ð:Str:=sT [95,95,104,97,115,104,95,95]
def xR:Str:=sT [95,95,105,110,105,116,95,95]
def Ik:Str:=sT [118,97,108]
def Il:Str:=sT [98,105,110,100]
def qO:Str:=sT [116,101,120,116]
def SG:Str:=sT [101,120,112,114]
def SH:Str:=sT [86,97,114,105,97,98,108,101,46,95,95,105,110,105,116,95,95]
def SI:Str:=sT [86,97,114,105,97,98,108,101,46,118,97,108]
def SJ:Str:=sT [86,97,114,105,97,98,108,101,46,98,105,110,100]
def SK:Str:=sT [86,97,114,105,97,98,108,101,46,118,97,114,115]
def SM:Str:=sT [86,97,114,105,97,98,108,101,46,115,117,98,115,116,105,116,117,116,101]
def SN:Str:=sT [86,97,114,105,97,98,108,101,46,116,101,120,116]
def SO:Str:=sT [78,117,109,78,111,100,101,46,95,95,105,110,105,116,95,95]
def SP:Str:=sT [78,117,109,78,111,100,101,46,98,105,110,100]
def SR:Str:=sT [78,117,109,78,111,100,101,46,95,95,109,117,108,95,95]
def SS:Str:=sT [78,117,109,78,111,100,101,46,95,95,101,113,95,95]
def SU:Str:=sT [78,117,109,78,111,100,101,46,115,117,98,115,116,105,116,117,116,101]
def SV:Str:=sT [78,117,109,78,111,100,101,46,116,101,120,116]
def qP:Str:=sT [103,101,116,95,98,111,117,110,100,115]
def SW:Str:=sT [79,112,78,111,100,101,46,95,95,105,110,105,116,95,95]
def SX:Str:=sT [79,112,78,111,100,101,46,118,97,114,115]
def SY:Str:=sT [79,112,78,111,100,101,46,103,101,116,95,98,111,117,110,100,115]
def Ta:Str:=sT [76,116,78,111,100,101,46,103,101,116,95,98,111,117,110,100,115]
def Tb:Str:=sT [76,116,78,111,100,101,46,115,117,98,115,116,105,116,117,116,101]
def Tc:Str:=sT [76,116,78,111,100,101,46,116,101,120,116]
def Td:Str:=sT [77,117,108,78,111,100,101,46,95,95,109,117,108,95,95]
def Te:Str:=sT [77,117,108,78,111,100,101,46,95,95,102,108,111,111,114,100,105,118,95,95]
def Tf:Str:=sT [77,117,108,78,111,100,101,46,95,95,109,111,100,95,95]
def Tg:Str:=sT [77,117,108,78,111,100,101,46,103,101,116,95,98,111,117,110,100,115]
def Th:Str:=sT [77,117,108,78,111,100,101,46,115,117,98,115,116,105,116,117,116,101]
def Ti:Str:=sT [77,117,108,78,111,100,101,46,116,101,120,116]
def Tj:Str:=sT [68,105,118,78,111,100,101,46,95,95,102,108,111,111,114,100,105,118,95,95]
def Tk:Str:=sT [68,105,118,78,111,100,101,46,103,101,116,95,98,111,117,110,100,115]
def Tl:Str:=sT [68,105,118,78,111,100,101,46,115,117,98,115,116,105,116,117,116,101]
def Tn:Str:=sT [68,105,118,78,111,100,101,46,116,101,120,116]
def To:Str:=sT [77,111,100,78,111,100,101,46,95,95,109,111,100,95,95]
def Tq:Str:=sT [77,111,100,78,111,100,101,46,95,95,102,108,111,111,114,100,105,118,95,95]
def Tr:Str:=sT [77,111,100,78,111,100,101,46,103,101,116,95,98,111,117,110,100,115]
def Ts:Str:=sT [77,111,100,78,111,100,101,46,115,117,98,115,116,105,116,117,116,101]
def Tu:Str:=sT [77,111,100,78,111,100,101,46,116,101,120,116]
def Tv:Str:=sT [82,101,100,78,111,100,101,46,95,95,105,110,105,116,95,95]
def Tw:Str:=sT [82,101,100,78,111,100,101,46,118,97,114,115]
def Tx:Str:=sT [82,101,100,78,111,100,101,46,103,101,116,95,98,111,117,110,100,115]
def O2:Str:=sT [102,108,97,116,95,99,111,109,112,111,110,101,110,116,115]
def Ty:Str:=sT [83,117,109,78,111,100,101,46,103,101,116,95,98,111,117,110,100,115]
def Tz:Str:=sT [83,117,109,78,111,100,101,46,95,95,109,117,108,95,95]
def T7:Str:=sT [83,117,109,78,111,100,101,46,95,95,102,108,111,111,114,100,105,118,95,95]
def T8:Str:=sT [83,117,109,78,111,100,101,46,95,95,109,111,100,95,95]
def T9:Str:=sT [83,117,109,78,111,100,101,46,115,117,98,115,116,105,116,117,116,101]
def TA:Str:=sT [83,117,109,78,111,100,101,46,116,101,120,116]
def TB:Str:=sT [83,117,109,78,111,100,101,46,102,108,97,116,95,99,111,109,112,111,110,101,110,116,115]
noncomputable def l0:String:="builtins.__doc__:str#opaque"
noncomputable def l1:String:="builtins.__package__:str#opaque"
noncomputable def l2:String:="builtins.__loader__:shared#opaque"
noncomputable def l3:String:="builtins.copyright#opaque"
noncomputable def l4:String:="builtins.credits#opaque"
noncomputable def l5:String:="builtins.license#opaque"
noncomputable def hS(l:List Value):OO:=λ_ _=>⟨(.type y0),none,.seq ⟨l⟩ 0,⟨[]⟩⟩
noncomputable def hL(t:String)(l:List Value):OO:=λ_ _=>⟨(.type t),none,.fields ⟨l⟩,⟨[]⟩⟩
def hC(a b:Str)(k i n r m F Q:Nat)(f:Bool)(x y z:Value):OO:=hL y1 [.str a i,.str b (i+1),.str Ov (i+2),.int n 0,.int k 0,.int 0 0,.int 0 0,.int F 0,.ref r,.bool f,.int Q 0,.ref (r+1),.none,x,y,z,.int m 0,.int n 0,.str Ov (m+1)]
def hR(m k:Nat)(a b:Str)(i n r:Nat):OO:=hC a b k i n r m 3 181 true (.ref (r+2)) (.ref (r+3)) (.ref (r+4))
def hQ(k:Nat)(a b:Str)(i n r:Nat):OO:=hR (i+k+3) k a b i n r
def hB(a b:Str)(i n r:Nat):OO:=hC a b 0 i n r (i+3) 0 181 false .none .none .none
def hE(k:Nat)(a b:Str)(i n r:Nat):OO:=hC a b k i n r (i+3) 3 181 true .none .none (.ref (r+2))
def hM(g:Program->Stmt)(s:Str):OO:=λ_ p=>⟨.none,none,fnD 0 (g p) s .none .none .none .none none .none .none,⟨[]⟩⟩
def hF(g:Program->Stmt)(s:Str)(dV:Value)(d:Str)(k r:Nat):OO:=λ_ p=>⟨(.type y2),none,fnD 3 (g p) s dV .none .none (.str d k) none (.ref r) .none,⟨[]⟩⟩
def zP(i:Nat)(p:Program):Stmt:=stP p i
def zI(i j:Nat)(p:Program):Stmt:=inP p i j
noncomputable def hT(l:List (Nat×Nat×Nat)):OO:=λ_ _=>⟨.none,none,.fields ⟨List.rec [] (λt _ l=>.int t.1 0::.int t.2.1 0::.ref t.2.2::l) l⟩,⟨[]⟩⟩
noncomputable def h7(r d:Nat)(s:Str)(k:Nat):OO:=λ_ _=>⟨(.type y7),none,.plain,⟨[some (.ref r),some (.ref 3),some (.ref d),none,some (.str s k),none,some (.ref 0)]⟩⟩
noncomputable def kd(P:Params)(s:Str)(i:Nat)(v:Value):DictEntry:=⟨kh P s,.str s i,v⟩
def gA6(P:Params)(l:List DictEntry):List DictEntry:=kd P ⟨⟨[104,101,108,112]⟩⟩ 159 (.builtin SL.s7804999707787243718x20)::l
def gA0(P:Params)(l:List DictEntry):List DictEntry:=kd P s0 1 (.str s1 160)::kd P s2 2 (.builtin l0)::kd P s3 3 (.builtin l1)::kd P s4 4 (.builtin l2)::kd P s5 5 (.builtin SL.s11665532747177232413x24)::kd P ⟨⟨[95,95,98,117,105,108,100,95,99,108,97,115,115,95,95]⟩⟩ 6 (.builtin SL.s15183661809925369436x15)::kd P ⟨⟨[95,95,105,109,112,111,114,116,95,95]⟩⟩ 7 (.builtin SL.s13915890719876406383x10)::kd P ⟨⟨[97,98,115]⟩⟩ 8 (.builtin SL.s13459172003223722735x3)::kd P ⟨⟨[97,108,108]⟩⟩ 9 (.builtin SL.s10557405761357834076x3)::kd P ⟨⟨[97,110,121]⟩⟩ 10 (.builtin SL.s4233737765568776869x3)::kd P ⟨⟨[97,115,99,105,105]⟩⟩ 11 (.builtin SL.s2508922471967985374x5)::kd P ⟨⟨[98,105,110]⟩⟩ 12 (.builtin SL.s15574269061696679450x3)::kd P ⟨⟨[98,114,101,97,107,112,111,105,110,116]⟩⟩ 13 (.builtin SL.s6016482663378992977x10)::kd P ⟨⟨[99,97,108,108,97,98,108,101]⟩⟩ 14 (.builtin SL.s5596568736180474577x8)::kd P ⟨⟨[99,104,114]⟩⟩ 15 (.builtin SL.s2839554839881490554x3)::kd P ⟨⟨[99,111,109,112,105,108,101]⟩⟩ 16 (.builtin SL.s725004073602090463x7)::kd P ⟨⟨[100,101,108,97,116,116,114]⟩⟩ 17 (.builtin SL.s9436932552931045734x7)::kd P ⟨⟨[100,105,114]⟩⟩ 18 (.builtin SL.s2754603736356183583x3)::kd P ⟨⟨[100,105,118,109,111,100]⟩⟩ 19 (.builtin SL.s15185746759980889043x6)::kd P ⟨⟨[101,118,97,108]⟩⟩ 20 (.builtin SL.s8192189862530294059x4)::kd P ⟨⟨[101,120,101,99]⟩⟩ 21 (.builtin SL.s7038307821325472102x4)::kd P ⟨⟨[102,111,114,109,97,116]⟩⟩ 22 (.builtin SL.s5662562618415449548x6)::kd P ⟨⟨[103,101,116,97,116,116,114]⟩⟩ 23 (.builtin SL.s15281542589158584767x7)::kd P ⟨⟨[103,108,111,98,97,108,115]⟩⟩ 24 (.builtin SL.s17651547275483570877x7)::kd P ⟨⟨[104,97,115,97,116,116,114]⟩⟩ 25 (.builtin SL.s4036449017235975746x7)::kd P ⟨⟨[104,97,115,104]⟩⟩ 26 (.builtin SL.s8879979712987360175x4)::kd P ⟨⟨[104,101,120]⟩⟩ 27 (.builtin SL.s1801250619170735830x3)::kd P ⟨⟨[105,100]⟩⟩ 28 (.builtin SL.s17659931425627118568x2)::kd P ⟨⟨[105,110,112,117,116]⟩⟩ 29 (.builtin SL.s6063217899685152688x5)::kd P ⟨⟨[105,115,105,110,115,116,97,110,99,101]⟩⟩ 30 (.builtin SL.s8008927332132565319x10)::kd P ⟨⟨[105,115,115,117,98,99,108,97,115,115]⟩⟩ 31 (.builtin SL.s3544116645089599534x10)::kd P ⟨⟨[105,116,101,114]⟩⟩ 32 (.builtin SL.s13761710972054866084x4)::kd P ⟨⟨[97,105,116,101,114]⟩⟩ 33 (.builtin SL.s12896375587409280029x5)::kd P ⟨⟨[108,101,110]⟩⟩ 34 (.builtin SL.s13014049009108672802x3)::kd P ⟨⟨[108,111,99,97,108,115]⟩⟩ 35 (.builtin SL.s13935586738268321596x6)::kd P è 36 (.builtin SL.s8200498257699607233x3)::kd P é 37 (.builtin SL.s14114244577727609259x3)::kd P ⟨⟨[110,101,120,116]⟩⟩ 38 (.builtin SL.s1499430450269397089x4)::kd P ⟨⟨[97,110,101,120,116]⟩⟩ 39 (.builtin SL.s8755793994789770505x5)::kd P ⟨⟨[111,99,116]⟩⟩ 40 (.builtin SL.s15725212667919936108x3)::kd P ⟨⟨[111,114,100]⟩⟩ 41 (.builtin SL.s15791221867095933363x3)::kd P ⟨⟨[112,111,119]⟩⟩ 42 (.builtin SL.s81309575031448614x3)::kd P ⟨⟨[112,114,105,110,116]⟩⟩ 43 (.builtin SL.s8069831620301644142x5)::kd P ⟨⟨[114,101,112,114]⟩⟩ 44 (.builtin SL.s10061844253413749634x4)::kd P ⟨⟨[114,111,117,110,100]⟩⟩ 45 (.builtin SL.s9496514870978017513x5)::kd P ⟨⟨[115,101,116,97,116,116,114]⟩⟩ 46 (.builtin SL.s8899691144933366716x7)::kd P ⟨⟨[115,111,114,116,101,100]⟩⟩ 47 (.builtin SL.s15201008993051130160x6)::kd P ê 48 (.builtin SL.s741896355592496720x3)::kd P Ii 49 (.builtin SL.s17925004256654032244x4)::kd P ⟨⟨[78,111,110,101]⟩⟩ 50 .none::kd P ⟨⟨[69,108,108,105,112,115,105,115]⟩⟩ 51 .ellipsis::kd P ⟨⟨[78,111,116,73,109,112,108,101,109,101,110,116,101,100]⟩⟩ 52 .notImplemented::kd P ⟨⟨[70,97,108,115,101]⟩⟩ 53 (.bool false)::kd P ⟨⟨[84,114,117,101]⟩⟩ 54 (.bool true)::kd P ⟨⟨[98,111,111,108]⟩⟩ 55 (.type SL.s11695548795398191787x4)::kd P ⟨⟨[109,101,109,111,114,121,118,105,101,119]⟩⟩ 56 (.type SL.s4156966113859768872x10)::kd P ⟨⟨[98,121,116,101,97,114,114,97,121]⟩⟩ 57 (.type SL.s9501651726347032510x9)::kd P ⟨⟨[98,121,116,101,115]⟩⟩ 58 (.type SL.s15722918466584999320x5)::kd P ⟨⟨[99,108,97,115,115,109,101,116,104,111,100]⟩⟩ 59 (.type SL.s591115383303110208x11)::kd P ⟨⟨[99,111,109,112,108,101,120]⟩⟩ 60 (.type SL.s15721156781594690315x7)::kd P ⟨⟨[100,105,99,116]⟩⟩ 61 (.type y3)::kd P ⟨⟨[101,110,117,109,101,114,97,116,101]⟩⟩ 62 (.type SL.s14340494229221121180x9)::kd P ⟨⟨[102,105,108,116,101,114]⟩⟩ 63 (.type SL.s13429844117177748173x6)::kd P ⟨⟨[102,108,111,97,116]⟩⟩ 64 (.type SL.s16463266125957815391x5)::kd P ⟨⟨[102,114,111,122,101,110,115,101,116]⟩⟩ 65 (.type SL.s4922535414793169389x9)::kd P ⟨⟨[112,114,111,112,101,114,116,121]⟩⟩ 66 (.type y12)::kd P ⟨⟨[105,110,116]⟩⟩ 67 (.type SL.s7066276694103001551x3)::kd P ⟨⟨[108,105,115,116]⟩⟩ 68 (.type SL.s9222952809800978799x4)::kd P ⟨⟨[109,97,112]⟩⟩ 69 (.type SL.s462964344163437139x3)::kd P ⟨⟨[111,98,106,101,99,116]⟩⟩ 70 (.type y6)::kd P ⟨⟨[114,97,110,103,101]⟩⟩ 71 (.type SL.s1438033511350832697x5)::kd P ⟨⟨[114,101,118,101,114,115,101,100]⟩⟩ 72 (.type SL.s14365286008749172514x8)::kd P ⟨⟨[115,101,116]⟩⟩ 73 (.type SL.s3642769012341782148x3)::kd P ⟨⟨[115,108,105,99,101]⟩⟩ 74 (.type SL.s4674234679698826739x5)::kd P ⟨⟨[115,116,97,116,105,99,109,101,116,104,111,100]⟩⟩ 75 (.type y13)::kd P ⟨⟨[115,116,114]⟩⟩ 76 (.type SL.s10796804682411823810x3)::kd P ⟨⟨[115,117,112,101,114]⟩⟩ 77 (.type y8)::kd P ⟨⟨[116,117,112,108,101]⟩⟩ 78 (.type y0)::kd P ⟨⟨[116,121,112,101]⟩⟩ 79 (.type y4)::kd P ⟨⟨[122,105,112]⟩⟩ 80 (.type SL.s14339709457334898076x3)::kd P ⟨⟨[95,95,100,101,98,117,103,95,95]⟩⟩ 81 (.bool true)::kd P ⟨⟨[66,97,115,101,69,120,99,101,112,116,105,111,110]⟩⟩ 82 (.type SL.s4278001404047624695x13)::kd P ⟨⟨[66,97,115,101,69,120,99,101,112,116,105,111,110,71,114,111,117,112]⟩⟩ 83 (.type SL.s6585700554429387442x18)::kd P ⟨⟨[69,120,99,101,112,116,105,111,110]⟩⟩ 84 (.type SL.s5946037652744460706x9)::kd P ⟨⟨[71,101,110,101,114,97,116,111,114,69,120,105,116]⟩⟩ 85 (.type SL.s7410770068591931388x13)::kd P ⟨⟨[75,101,121,98,111,97,114,100,73,110,116,101,114,114,117,112,116]⟩⟩ 86 (.type SL.s11817881795495490833x17)::kd P ⟨⟨[83,121,115,116,101,109,69,120,105,116]⟩⟩ 87 (.type SL.s15679963881808890155x10)::kd P ⟨⟨[65,114,105,116,104,109,101,116,105,99,69,114,114,111,114]⟩⟩ 88 (.type SL.s3871700062485845797x15)::kd P ⟨⟨[65,115,115,101,114,116,105,111,110,69,114,114,111,114]⟩⟩ 89 (.type SL.s7689518266570723881x14)::kd P ⟨⟨[65,116,116,114,105,98,117,116,101,69,114,114,111,114]⟩⟩ 90 (.type SL.s9001593270443806431x14)::kd P ⟨⟨[66,117,102,102,101,114,69,114,114,111,114]⟩⟩ 91 (.type SL.s6882542574934516792x11)::kd P ⟨⟨[69,79,70,69,114,114,111,114]⟩⟩ 92 (.type SL.s14403400214490484960x8)::kd P ⟨⟨[73,109,112,111,114,116,69,114,114,111,114]⟩⟩ 93 (.type SL.s14457978657717015782x11)::kd P ⟨⟨[76,111,111,107,117,112,69,114,114,111,114]⟩⟩ 94 (.type SL.s1753610191782819921x11)::kd P ⟨⟨[77,101,109,111,114,121,69,114,114,111,114]⟩⟩ 95 (.type SL.s14119380538032626715x11)::kd P ⟨⟨[78,97,109,101,69,114,114,111,114]⟩⟩ 96 (.type SL.s11437920000406562045x9)::kd P ⟨⟨[79,83,69,114,114,111,114]⟩⟩ 97 (.type y14)::kd P ⟨⟨[82,101,102,101,114,101,110,99,101,69,114,114,111,114]⟩⟩ 98 (.type SL.s14816307405966870543x14)::kd P ⟨⟨[82,117,110,116,105,109,101,69,114,114,111,114]⟩⟩ 99 (.type SL.s8682627914449686677x12)::kd P ⟨⟨[83,116,111,112,65,115,121,110,99,73,116,101,114,97,116,105,111,110]⟩⟩ 100 (.type SL.s4428170145600203450x18)::kd P ⟨⟨[83,116,111,112,73,116,101,114,97,116,105,111,110]⟩⟩ 101 (.type SL.s5991306692159431302x13)::kd P ⟨⟨[83,121,110,116,97,120,69,114,114,111,114]⟩⟩ 102 (.type SL.s16067994140765818257x11)::kd P ⟨⟨[83,121,115,116,101,109,69,114,114,111,114]⟩⟩ 103 (.type SL.s2327743974964600596x11)::kd P ⟨⟨[84,121,112,101,69,114,114,111,114]⟩⟩ 104 (.type SL.s2804747833354056582x9)::kd P ⟨⟨[86,97,108,117,101,69,114,114,111,114]⟩⟩ 105 (.type SL.s6070975301684473832x10)::kd P ⟨⟨[87,97,114,110,105,110,103]⟩⟩ 106 (.type SL.s14270485950484850486x7)::kd P ⟨⟨[70,108,111,97,116,105,110,103,80,111,105,110,116,69,114,114,111,114]⟩⟩ 107 (.type SL.s12041534306414923332x18)::kd P ⟨⟨[79,118,101,114,102,108,111,119,69,114,114,111,114]⟩⟩ 108 (.type SL.s2531307568338490285x13)::kd P ⟨⟨[90,101,114,111,68,105,118,105,115,105,111,110,69,114,114,111,114]⟩⟩ 109 (.type SL.s631175304937289666x17)::kd P ⟨⟨[66,121,116,101,115,87,97,114,110,105,110,103]⟩⟩ 110 (.type SL.s5144983644357021410x12)::kd P ⟨⟨[68,101,112,114,101,99,97,116,105,111,110,87,97,114,110,105,110,103]⟩⟩ 111 (.type SL.s18039099521571816885x18)::kd P ⟨⟨[69,110,99,111,100,105,110,103,87,97,114,110,105,110,103]⟩⟩ 112 (.type SL.s6011586214260557989x15)::kd P ⟨⟨[70,117,116,117,114,101,87,97,114,110,105,110,103]⟩⟩ 113 (.type SL.s5430567037509283100x13)::kd P ⟨⟨[73,109,112,111,114,116,87,97,114,110,105,110,103]⟩⟩ 114 (.type SL.s8117915138073963741x13)::kd P ⟨⟨[80,101,110,100,105,110,103,68,101,112,114,101,99,97,116,105,111,110,87,97,114,110,105,110,103]⟩⟩ 115 (.type SL.s3423317712779056401x25)::kd P ⟨⟨[82,101,115,111,117,114,99,101,87,97,114,110,105,110,103]⟩⟩ 116 (.type SL.s2007317383269046180x15)::kd P ⟨⟨[82,117,110,116,105,109,101,87,97,114,110,105,110,103]⟩⟩ 117 (.type SL.s17481586968713580700x14)::kd P ⟨⟨[83,121,110,116,97,120,87,97,114,110,105,110,103]⟩⟩ 118 (.type SL.s2450899226349176912x13)::kd P ⟨⟨[85,110,105,99,111,100,101,87,97,114,110,105,110,103]⟩⟩ 119 (.type SL.s16626165730633575011x14)::kd P ⟨⟨[85,115,101,114,87,97,114,110,105,110,103]⟩⟩ 120 (.type SL.s14288496050688921416x11)::kd P ⟨⟨[66,108,111,99,107,105,110,103,73,79,69,114,114,111,114]⟩⟩ 121 (.type SL.s5735081916595925998x15)::kd P ⟨⟨[67,104,105,108,100,80,114,111,99,101,115,115,69,114,114,111,114]⟩⟩ 122 (.type SL.s3865607918536308442x17)::kd P ⟨⟨[67,111,110,110,101,99,116,105,111,110,69,114,114,111,114]⟩⟩ 123 (.type SL.s13337502604062700212x15)::kd P ⟨⟨[70,105,108,101,69,120,105,115,116,115,69,114,114,111,114]⟩⟩ 124 (.type SL.s13114017843053701147x15)::kd P ⟨⟨[70,105,108,101,78,111,116,70,111,117,110,100,69,114,114,111,114]⟩⟩ 125 (.type SL.s17467278006356818441x17)::kd P ⟨⟨[73,110,116,101,114,114,117,112,116,101,100,69,114,114,111,114]⟩⟩ 126 (.type SL.s17722149559621369488x16)::kd P ⟨⟨[73,115,65,68,105,114,101,99,116,111,114,121,69,114,114,111,114]⟩⟩ 127 (.type SL.s7855274175708717672x17)::kd P ⟨⟨[78,111,116,65,68,105,114,101,99,116,111,114,121,69,114,114,111,114]⟩⟩ 128 (.type SL.s13351283678309829046x18)::kd P ⟨⟨[80,101,114,109,105,115,115,105,111,110,69,114,114,111,114]⟩⟩ 129 (.type SL.s6668348653404991179x15)::kd P ⟨⟨[80,114,111,99,101,115,115,76,111,111,107,117,112,69,114,114,111,114]⟩⟩ 130 (.type SL.s12913350958174193794x18)::kd P ⟨⟨[84,105,109,101,111,117,116,69,114,114,111,114]⟩⟩ 131 (.type SL.s16115879512475548326x12)::kd P ⟨⟨[73,110,100,101,110,116,97,116,105,111,110,69,114,114,111,114]⟩⟩ 132 (.type SL.s15920661018069861047x16)::kd P ⟨⟨[95,73,110,99,111,109,112,108,101,116,101,73,110,112,117,116,69,114,114,111,114]⟩⟩ 133 (.type SL.s10779130036587390575x21)::kd P ⟨⟨[73,110,100,101,120,69,114,114,111,114]⟩⟩ 134 (.type SL.s7801419657504700863x10)::kd P ⟨⟨[75,101,121,69,114,114,111,114]⟩⟩ 135 (.type SL.s1688129525768580628x8)::kd P ⟨⟨[77,111,100,117,108,101,78,111,116,70,111,117,110,100,69,114,114,111,114]⟩⟩ 136 (.type SL.s1031832959479892071x19)::kd P ⟨⟨[78,111,116,73,109,112,108,101,109,101,110,116,101,100,69,114,114,111,114]⟩⟩ 137 (.type SL.s8991790508128307865x19)::kd P ⟨⟨[80,121,116,104,111,110,70,105,110,97,108,105,122,97,116,105,111,110,69,114,114,111,114]⟩⟩ 138 (.type SL.s14539662485746970245x23)::kd P ⟨⟨[82,101,99,117,114,115,105,111,110,69,114,114,111,114]⟩⟩ 139 (.type SL.s11643622729373238714x14)::kd P ⟨⟨[85,110,98,111,117,110,100,76,111,99,97,108,69,114,114,111,114]⟩⟩ 140 (.type SL.s3386828779285465597x17)::kd P ⟨⟨[85,110,105,99,111,100,101,69,114,114,111,114]⟩⟩ 141 (.type SL.s13042696260734638735x12)::kd P ⟨⟨[66,114,111,107,101,110,80,105,112,101,69,114,114,111,114]⟩⟩ 142 (.type SL.s18239426817015966623x15)::kd P ⟨⟨[67,111,110,110,101,99,116,105,111,110,65,98,111,114,116,101,100,69,114,114,111,114]⟩⟩ 143 (.type SL.s1270395311379034370x22)::kd P ⟨⟨[67,111,110,110,101,99,116,105,111,110,82,101,102,117,115,101,100,69,114,114,111,114]⟩⟩ 144 (.type SL.s10696252587037064777x22)::kd P ⟨⟨[67,111,110,110,101,99,116,105,111,110,82,101,115,101,116,69,114,114,111,114]⟩⟩ 145 (.type SL.s7852717498200857586x20)::kd P ⟨⟨[84,97,98,69,114,114,111,114]⟩⟩ 146 (.type SL.s6377248116197321094x8)::kd P ⟨⟨[85,110,105,99,111,100,101,68,101,99,111,100,101,69,114,114,111,114]⟩⟩ 147 (.type SL.s3834378056692298002x18)::kd P ⟨⟨[85,110,105,99,111,100,101,69,110,99,111,100,101,69,114,114,111,114]⟩⟩ 148 (.type SL.s17586630440231065808x18)::kd P ⟨⟨[85,110,105,99,111,100,101,84,114,97,110,115,108,97,116,101,69,114,114,111,114]⟩⟩ 149 (.type SL.s15234114252648025395x21)::kd P ⟨⟨[69,120,99,101,112,116,105,111,110,71,114,111,117,112]⟩⟩ 150 (.type SL.s8496462677383758984x14)::kd P ⟨⟨[69,110,118,105,114,111,110,109,101,110,116,69,114,114,111,114]⟩⟩ 151 (.type y14)::kd P ⟨⟨[73,79,69,114,114,111,114]⟩⟩ 152 (.type y14)::kd P ⟨⟨[111,112,101,110]⟩⟩ 153 (.builtin SL.s16789243406116112673x4)::kd P ⟨⟨[113,117,105,116]⟩⟩ 154 (.builtin SL.s14400166428656793546x20)::kd P ⟨⟨[101,120,105,116]⟩⟩ 155 (.builtin SL.s5857708277339239366x20)::l
def o0:OO:=λP p=>⟨(.type y3),none,.dict ⟨(gA0 P (kd P ⟨⟨[99,111,112,121,114,105,103,104,116]⟩⟩ 156 (.builtin l3)::(kd P ⟨⟨[99,114,101,100,105,116,115]⟩⟩ 157 (.builtin l4)::(kd P ⟨⟨[108,105,99,101,110,115,101]⟩⟩ 158 (.builtin l5)::(gA6 P [])))))⟩ 159,⟨[]⟩⟩
def o1:OO:=λP p=>⟨(.type y3),none,.dict ⟨[kd P s1 162 (.ref 4),kd P J9 163 (.ref 5)]⟩ 2,⟨[]⟩⟩
noncomputable def o2:OO:=λP p=>⟨.none,none,.dict ⟨[]⟩ 0,⟨[]⟩⟩
def o3:OO:=λP p=>⟨(.type y3),none,.dict ⟨[kd P s0 165 (.str JA 985),kd P s2 166 .none,kd P s3 167 .none,kd P s4 168 (.builtin SL.s7097527257260152453x26),kd P s5 169 .none,kd P Ou 170 (.ref 6),kd P ë 171 (.ref 4),kd P ì 173 (.str Ov 172),kd P í 174 .none,kd P JB 193 (.ref 21),kd P JC 206 (.ref 28),kd P JD 216 (.ref 35),kd P C9 451 (.ref 220),kd P CB 520 (.ref 277),kd P CC 588 (.ref 331),kd P JE 597 (.ref 340),kd P JF 604 (.ref 347),kd P JG 610 (.ref 352),kd P CD 653 (.ref 383),kd P CE 692 (.ref 416),kd P CF 756 (.ref 471),kd P CG 804 (.ref 512),kd P CH 860 (.ref 560),kd P CJ 901 (.ref 593),kd P CK 970 (.ref 644),kd P JH 978 (.ref 654),kd P JI 984 (.ref 659),kd P JJ 992 (.ref 666),kd P JK 1000 (.ref 673),kd P JL 1007 (.ref 680),kd P JM 1035 (.ref 687)]⟩ 31,⟨[]⟩⟩
noncomputable def o4:OO:=λP p=>⟨(.type SL.s6658869562736209489x6),some 0,.plain,⟨[]⟩⟩
noncomputable def o5:OO:=λP p=>⟨(.type SL.s6658869562736209489x6),some 3,.plain,⟨[]⟩⟩
noncomputable def o6:OO:=λP p=>⟨(.type y3),none,.dict ⟨[]⟩ 0,⟨[]⟩⟩
def o7:OO:=hS []
noncomputable def o8:OO:=λP p=>⟨.none,none,.fields ⟨[]⟩,⟨[]⟩⟩
def o9:OO:=hC Ow Ow 0 176 1 7 179 0 175 false .none .none .none
def o10:OO:=h7 9 3 J9 164
def o12:OO:=hT [(1,0,20),(5,0,27),(12,0,34),(16,0,41),(154,0,230),(178,0,285),(201,0,339),(206,0,346),(211,0,351),(238,0,358),(249,0,391),(263,0,424),(291,0,479),(305,0,520),(326,0,568),(337,0,601),(408,0,653),(410,0,658),(417,0,665),(419,0,672),(425,0,679),(427,0,686)]
def o13:OO:=hB Ow Ow 182 1 11
def o14:OO:=h7 13 3 J9 164
def o17:OO:=hS [(.str RP 190)]
def o19:OO:=hM (zP 0) JB
def o20:OO:=hQ 1 JB JB 187 1 15
def o21:OO:=hF (zP 0) JB .none J9 164 20
def o24:OO:=hS [(.str ⟨⟨[105,116,114]⟩⟩ 199),(.str ⟨⟨[102,120,110]⟩⟩ 200),(.str JN 201),(.str mR 202),(.str ⟨⟨[115]⟩⟩ 203)]
def o26:OO:=hM (zP 2) JC
def o27:OO:=hR 204 2 JC JC 196 5 22
def o28:OO:=hF (zP 2) JC .none ⟨⟨[116,105,110,121,103,114,97,100,46,104,101,108,112,101,114,115]⟩⟩ 194 27
def o31:OO:=hS [(.str JN 212),(.str mR 213)]
def o33:OO:=hM (zP 4) JD
def o34:OO:=hQ 2 JD JD 209 12 29
def o35:OO:=hF (zP 4) JD .none c9 207 34
def AI:OO:=hL y5 [(.builtin y9),(.type y4)]
def o38:OO:=λP p=>⟨(.type y3),none,.dict ⟨[kd P pT 224 (.str c9 207),kd P xO 226 (.str C9 225),kd P qZ 228 (.int 16 227),kd P RQ 229 .none,kd P RS 237 (.ref 50),kd P Ii 244 (.ref 57),kd P oN 252 (.ref 64),kd P Ox 260 (.ref 72),kd P RT 267 (.ref 79),kd P Ij 275 (.ref 86),kd P RU 282 (.ref 93),kd P RV 290 (.ref 100),kd P RW 298 (.ref 107),kd P RY 306 (.ref 114),kd P RZ 314 (.ref 121),kd P Sa 322 (.ref 128),kd P Sb 330 (.ref 135),kd P Sc 338 (.ref 142),kd P Sd 346 (.ref 149),kd P xP 354 (.ref 156),kd P Se 362 (.ref 163),kd P Sf 370 (.ref 170),kd P Sg 378 (.ref 177),kd P uH 388 (.ref 185),kd P Sh 396 (.ref 192),kd P xQ 404 (.ref 199),kd P ê 422 (.ref 206),kd P Oy 441 (.ref 216),kd P q7 443 (.ref 218)]⟩ 29,⟨[]⟩⟩
def o40:OO:=hT [(19,4,49),(23,4,56),(26,4,63),(30,4,70),(35,4,78),(38,4,85),(43,4,92),(46,4,99),(49,4,106),(52,4,113),(55,4,120),(58,4,127),(61,4,134),(64,4,141),(67,4,148),(70,4,155),(77,4,162),(80,4,169),(83,4,176),(86,4,184),(105,4,191),(108,4,198),(128,4,203),(152,4,213)]
def o41:OO:=hB C9 C9 219 16 39
def o42:OO:=h7 41 38 c9 207
def ZY:OO:=hS [.none]
def o46:OO:=hS [(.str fQ 233),(.str CL 234)]
def o48:OO:=hM (zI 5 1) Si
def o49:OO:=hQ 2 RS Si 230 19 44
def o50:OO:=hF (zI 5 1) Si (.ref 43) c9 207 49
def o53:OO:=hS [(.str fQ 241)]
def o55:OO:=hM (zI 5 2) Sj
def o56:OO:=hQ 1 Ii Sj 238 23 51
def o57:OO:=hF (zI 5 2) Sj .none c9 207 56
def o60:OO:=hS [(.str fQ 248),(.str En 249)]
def o62:OO:=hM (zI 5 3) Sk
def o63:OO:=hQ 2 oN Sk 245 26 58
def o64:OO:=hF (zI 5 3) Sk .none c9 207 63
def o67:OO:=hS [(.str fQ 256)]
def o69:OO:=hM (zI 5 4) Sl
def o70:OO:=hQ 1 Ox Sl 253 29 65
def o71:OO:=hF (zI 5 4) Sl .none c9 207 70
def o72:OO:=hL y12 [(.ref 71),.none,.none,.none,(.str Ox 260),(.bool false)]
def o75:OO:=hS [(.str fQ 264)]
def o77:OO:=hM (zI 5 5) Sm
def o78:OO:=hQ 1 RT Sm 261 35 73
def o79:OO:=hF (zI 5 5) Sm .none c9 207 78
def o82:OO:=hS [(.str fQ 271),(.str ⟨⟨[111,116,104,101,114]⟩⟩ 272)]
def o84:OO:=hM (zI 5 6) Sn
def o85:OO:=hQ 2 Ij Sn 268 38 80
def o86:OO:=hF (zI 5 6) Sn .none c9 207 85
def o89:OO:=hS [(.str fQ 279)]
def o91:OO:=hM (zI 5 7) So
def o92:OO:=hQ 1 RU So 276 43 87
def o93:OO:=hF (zI 5 7) So .none c9 207 92
def o96:OO:=hS [(.str fQ 286),(.str mR 287)]
def o98:OO:=hM (zI 5 8) Sr
def o99:OO:=hQ 2 RV Sr 283 46 94
def TC:OO:=hF (zI 5 8) Sr .none c9 207 99
def TD:OO:=hS [(.str fQ 294),(.str mR 295)]
def ñ:OO:=hM (zI 5 9) Ss
def TF:OO:=hQ 2 RW Ss 291 49 101
def TG:OO:=hF (zI 5 9) Ss .none c9 207 106
def TH:OO:=hS [(.str fQ 302),(.str mR 303)]
def ò:OO:=hM (zI 5 10) Su
def TI:OO:=hQ 2 RY Su 299 52 108
def TJ:OO:=hF (zI 5 10) Su .none c9 207 113
def TK:OO:=hS [(.str fQ 310),(.str mR 311)]
def ó:OO:=hM (zI 5 11) Sv
def TL:OO:=hQ 2 RZ Sv 307 55 115
def TM:OO:=hF (zI 5 11) Sv .none c9 207 120
def TN:OO:=hS [(.str fQ 318),(.str mR 319)]
def ô:OO:=hM (zI 5 12) Sw
def TO:OO:=hQ 2 Sa Sw 315 58 122
def TP:OO:=hF (zI 5 12) Sw .none c9 207 127
def TQ:OO:=hS [(.str fQ 326),(.str mR 327)]
def õ:OO:=hM (zI 5 13) Sx
def TR:OO:=hQ 2 Sb Sx 323 61 129
def TS:OO:=hF (zI 5 13) Sx .none c9 207 134
def TU:OO:=hS [(.str fQ 334),(.str mR 335)]
def ö:OO:=hM (zI 5 14) Sy
def TV:OO:=hQ 2 Sc Sy 331 64 136
def TX:OO:=hF (zI 5 14) Sy .none c9 207 141
def TY:OO:=hS [(.str fQ 342),(.str mR 343)]
def ø:OO:=hM (zI 5 15) Sz
def TZ:OO:=hQ 2 Sd Sz 339 67 143
def Ua:OO:=hF (zI 5 15) Sz .none c9 207 148
def Ub:OO:=hS [(.str fQ 350),(.str mR 351)]
def ù:OO:=hM (zI 5 16) S0
def Uc:OO:=hQ 2 xP S0 347 70 150
def Ud:OO:=hF (zI 5 16) S0 .none c9 207 155
def Ue:OO:=hS [(.str fQ 358),(.str mR 359)]
def ú:OO:=hM (zI 5 17) S7
def Uf:OO:=hQ 2 Se S7 355 77 157
def Ug:OO:=hF (zI 5 17) S7 .none c9 207 162
def Uh:OO:=hS [(.str fQ 366),(.str mR 367)]
def û:OO:=hM (zI 5 18) S8
def Ui:OO:=hQ 2 Sf S8 363 80 164
def Uj:OO:=hF (zI 5 18) S8 .none c9 207 169
def Uk:OO:=hS [(.str fQ 374),(.str mR 375)]
def ü:OO:=hM (zI 5 19) S9
def Ul:OO:=hQ 2 Sg S9 371 83 171
def Um:OO:=hF (zI 5 19) S9 .none c9 207 176
def B2:OO:=hS [(.bool true)]
def Un:OO:=hS [(.str fQ 382),(.str mR 383),(.str Oz 384),(.str ⟨⟨[111,102,102,115,101,116]⟩⟩ 385)]
def ý:OO:=hM (zI 5 20) SB
def Uo:OO:=hR 386 3 uH SB 379 86 179
def Up:OO:=hF (zI 5 20) SB (.ref 178) c9 207 184
def Uq:OO:=hS [(.str fQ 392),(.str mR 393)]
def þ:OO:=hM (zI 5 21) SD
def Ur:OO:=hQ 2 Sh SD 389 105 186
def Us:OO:=hF (zI 5 21) SD .none c9 207 191
def Ut:OO:=hS [(.str fQ 400),(.str mR 401)]
def κ:OO:=hM (zI 5 22) SE
def Uu:OO:=hQ 2 xQ SE 397 108 193
def Uv:OO:=hF (zI 5 22) SE .none c9 207 198
def μ:OO:=hM (zI 5 23) O0
def Uw:OO:=hE 1 ê O0 405 127 200
def Ux:OO:=λP p=>⟨(.type y2),none,fnD 3 (inP p 5 23) O0 .none .none .none (.str c9 207) (some 207) (.ref 203) .none,⟨[]⟩⟩
def Uy:OO:=λP p=>⟨(.type y3),none,.dict ⟨[kd P pT 411 (.str c9 207),kd P s0 414 (.str ê 413),kd P xO 417 (.str O0 416),kd P s2 419 .none,kd P Ou 421 (.ref 207)]⟩ 5,⟨[]⟩⟩
noncomputable def Uz:OO:=λP p=>⟨(.type y13),some 205,.fields ⟨[(.ref 204),(.bool false)]⟩,⟨[]⟩⟩
def U0:OO:=hS [(.str SF 426)]
def ξ:OO:=hM (zI 5 24) O1
def U1:OO:=hQ 1 Oy O1 423 151 208
def U2:OO:=λP p=>⟨(.type y2),none,fnD 3 (inP p 5 24) O1 .none .none .none (.str c9 207) (some 217) (.ref 213) .none,⟨[]⟩⟩
def U3:OO:=λP p=>⟨(.type y3),none,.dict ⟨[kd P pT 430 (.str c9 207),kd P s0 433 (.str Oy 432),kd P xO 436 (.str O1 435),kd P s2 438 .none,kd P Ou 440 (.ref 217)]⟩ 5,⟨[]⟩⟩
noncomputable def U4:OO:=λP p=>⟨(.type y13),some 215,.fields ⟨[(.ref 214),(.bool false)]⟩,⟨[]⟩⟩
def U5:OO:=hS [(.str RQ 442)]
def U6:OO:=λP p=>⟨(.type y3),none,.dict ⟨[kd P pT 224 (.str c9 207),kd P qZ 228 (.int 16 227),kd P RQ 229 .none,kd P RS 237 (.ref 50),kd P Ii 244 (.ref 57),kd P oN 252 (.ref 64),kd P Ox 260 (.ref 72),kd P RT 267 (.ref 79),kd P Ij 275 (.ref 86),kd P RU 282 (.ref 93),kd P RV 290 (.ref 100),kd P RW 298 (.ref 107),kd P RY 306 (.ref 114),kd P RZ 314 (.ref 121),kd P Sa 322 (.ref 128),kd P Sb 330 (.ref 135),kd P Sc 338 (.ref 142),kd P Sd 346 (.ref 149),kd P xP 354 (.ref 156),kd P Se 362 (.ref 163),kd P Sf 370 (.ref 170),kd P Sg 378 (.ref 177),kd P uH 388 (.ref 185),kd P Sh 396 (.ref 192),kd P xQ 404 (.ref 199),kd P ê 422 (.ref 206),kd P Oy 441 (.ref 216),kd P q7 443 (.ref 218),kd P î 445 (.ref 221),kd P ï 447 (.ref 222),kd P s2 448 .none,kd P ð 449 .none]⟩ 5,⟨[]⟩⟩
noncomputable def U7:OO:=λP p=>⟨(.type y4),none,.cls ⟨C9,[(.type y6)],[(.ref 220),(.type y6)],219,C9,true,[],[(.ref 277),(.ref 331),(.ref 383),(.ref 593)],false,none,false⟩,⟨[none,none,(some (.str C9 217)),(some (.str C9 225)),(some (.builtin Om)),(some (.bool true))]⟩⟩
def U8:OO:=hL SL.s14755015743595814543x17 [(.str î 444),(.ref 220),(.builtin SL.s6511155373996960695x17),(.builtin SL.s12411053484034534018x21)]
def U9:OO:=hL SL.s14755015743595814543x17 [(.str ï 446),(.ref 220),(.builtin SL.s10220274742760427390x26),.none]
def π:OO:=hL y8 [(.ref 220),(.ref 220),(.ref 220)]
def σ:OO:=hL y5 [(.builtin On),(.ref 220)]
def xS:OO:=hS [(.ref 220)]
def φ:OO:=λP p=>⟨(.type y3),none,.dict ⟨[kd P pT 459 (.str c9 207),kd P xO 461 (.str CB 460),kd P qZ 463 (.int 154 462),kd P xR 473 (.ref 238),kd P Ik 481 (.ref 246),kd P Il 489 (.ref 253),kd P Ii 496 (.ref 260),kd P oN 504 (.ref 267),kd P qO 512 (.ref 274),kd P q7 517 (.ref 275)]⟩ 10,⟨[]⟩⟩
def χ:OO:=hT [(156,4,237),(161,4,244),(165,4,252),(168,4,259),(171,4,266),(174,4,273)]
def ψ:OO:=hB CB CB 454 154 228
def ω:OO:=h7 230 227 c9 207
def UA:OO:=hS [(.str fQ 467),(.str SG 468),(.str ⟨⟨[110,109,105,110]⟩⟩ 469),(.str ⟨⟨[110,109,97,120]⟩⟩ 470)]
def o236:OO:=hM (zI 6 0) SH
def UB:OO:=hQ 4 xR SH 464 156 232
def UC:OO:=hF (zI 6 0) SH .none c9 207 237
def UD:OO:=hS [(.str fQ 477)]
def o243:OO:=hM (zI 6 1) SI
def UE:OO:=hQ 1 Ik SI 474 160 239
def UF:OO:=hF (zI 6 1) SI .none c9 207 244
def UG:OO:=hL y12 [(.ref 245),.none,.none,.none,(.str Ik 481),(.bool false)]
def UH:OO:=hS [(.str fQ 485),(.str Ik 486)]
def o251:OO:=hM (zI 6 2) SJ
def UI:OO:=hQ 2 Il SJ 482 165 247
def UJ:OO:=hF (zI 6 2) SJ .none c9 207 252
def UK:OO:=hS [(.str fQ 493)]
def o258:OO:=hM (zI 6 3) SK
def UL:OO:=hQ 1 Ii SK 490 168 254
def UM:OO:=hF (zI 6 3) SK .none c9 207 259
def UN:OO:=hS [(.str fQ 500),(.str En 501)]
def o265:OO:=hM (zI 6 4) SM
def UO:OO:=hQ 2 oN SM 497 171 261
def UP:OO:=hF (zI 6 4) SM .none c9 207 266
def UQ:OO:=hS [(.str fQ 508),(.str CL 509)]
def o272:OO:=hM (zI 6 5) SN
def UR:OO:=hQ 2 qO SN 505 174 268
def US:OO:=hF (zI 6 5) SN .none c9 207 273
def UT:OO:=hS [(.str ⟨⟨[95,118,97,108]⟩⟩ 513),(.str SG 514),(.str è 515),(.str é 516)]
def UU:OO:=λP p=>⟨(.type y3),none,.dict ⟨[kd P pT 459 (.str c9 207),kd P qZ 463 (.int 154 462),kd P xR 473 (.ref 238),kd P Ik 481 (.ref 246),kd P Il 489 (.ref 253),kd P Ii 496 (.ref 260),kd P oN 504 (.ref 267),kd P qO 512 (.ref 274),kd P q7 517 (.ref 275),kd P s2 518 .none]⟩ 2,⟨[]⟩⟩
noncomputable def UV:OO:=λP p=>⟨(.type y4),none,.cls ⟨CB,[(.ref 220)],[(.ref 277),(.ref 220),(.type y6)],276,CB,true,[],[],false,none,false⟩,⟨[(some (.ref 225)),none,(some (.str CB 452)),(some (.str CB 460)),(some (.builtin Om)),(some (.bool true))]⟩⟩
def o278:OO:=hL y8 [(.ref 277),(.ref 277),(.ref 277)]
def o279:OO:=hL y5 [(.builtin On),(.ref 277)]
def o282:OO:=λP p=>⟨(.type y3),none,.dict ⟨[kd P pT 528 (.str c9 207),kd P xO 530 (.str CC 529),kd P qZ 532 (.int 178 531),kd P xR 540 (.ref 293),kd P Il 548 (.ref 300),kd P xP 556 (.ref 307),kd P Ij 564 (.ref 314),kd P oN 572 (.ref 321),kd P qO 580 (.ref 328),kd P q7 584 (.ref 329)]⟩ 10,⟨[]⟩⟩
def o284:OO:=hT [(180,4,292),(185,4,299),(188,4,306),(191,4,313),(196,4,320),(199,4,327)]
def o285:OO:=hB CC CC 523 178 283
def o286:OO:=h7 285 282 c9 207
def UW:OO:=hS [(.str fQ 536),(.str ⟨⟨[110,117,109]⟩⟩ 537)]
def o291:OO:=hM (zI 7 0) SO
def UX:OO:=hQ 2 xR SO 533 180 287
def UY:OO:=hF (zI 7 0) SO .none c9 207 292
def UZ:OO:=hS [(.str fQ 544),(.str Ik 545)]
def o298:OO:=hM (zI 7 1) SP
def Vc:OO:=hQ 2 Il SP 541 185 294
def Vd:OO:=hF (zI 7 1) SP .none c9 207 299
def Ve:OO:=hS [(.str fQ 552),(.str mR 553)]
def o305:OO:=hM (zI 7 2) SR
def Vf:OO:=hQ 2 xP SR 549 188 301
def Vg:OO:=hF (zI 7 2) SR .none c9 207 306
def Vh:OO:=hS [(.str fQ 560),(.str ⟨⟨[111,116,104,101,114]⟩⟩ 561)]
def o312:OO:=hM (zI 7 3) SS
def Vi:OO:=hQ 2 Ij SS 557 191 308
def Vj:OO:=hF (zI 7 3) SS .none c9 207 313
def Vk:OO:=hS [(.str fQ 568),(.str En 569)]
def o319:OO:=hM (zI 7 4) SU
def Vl:OO:=hQ 2 oN SU 565 196 315
def Vm:OO:=hF (zI 7 4) SU .none c9 207 320
def Vn:OO:=hS [(.str fQ 576),(.str CL 577)]
def o326:OO:=hM (zI 7 5) SV
def Vo:OO:=hQ 2 qO SV 573 199 322
def Vp:OO:=hF (zI 7 5) SV .none c9 207 327
def Vq:OO:=hS [(.str mR 581),(.str è 582),(.str é 583)]
def Vr:OO:=λP p=>⟨(.type y3),none,.dict ⟨[kd P pT 528 (.str c9 207),kd P qZ 532 (.int 178 531),kd P xR 540 (.ref 293),kd P Il 548 (.ref 300),kd P xP 556 (.ref 307),kd P Ij 564 (.ref 314),kd P oN 572 (.ref 321),kd P qO 580 (.ref 328),kd P q7 584 (.ref 329),kd P s2 585 .none,kd P ð 586 .none]⟩ 3,⟨[]⟩⟩
noncomputable def Vs:OO:=λP p=>⟨(.type y4),none,.cls ⟨CC,[(.ref 220)],[(.ref 331),(.ref 220),(.type y6)],330,CC,true,[],[],false,none,false⟩,⟨[(some (.ref 280)),none,(some (.str CC 521)),(some (.str CC 529)),(some (.builtin Om)),(some (.bool true))]⟩⟩
def o332:OO:=hL y8 [(.ref 331),(.ref 331),(.ref 331)]
def o333:OO:=hL y5 [(.builtin On),(.ref 331)]
def Vt:OO:=hS [(.str SG 592),(.str ⟨⟨[110,109,105,110]⟩⟩ 593),(.str ⟨⟨[110,109,97,120]⟩⟩ 594)]
def o338:OO:=hM (zP 8) JE
def Vu:OO:=hQ 3 JE JE 589 201 334
def Vv:OO:=hF (zP 8) JE .none c9 207 339
def Vw:OO:=hS [(.str ⟨⟨[114,101,116]⟩⟩ 601)]
def o345:OO:=hM (zP 9) JF
def Vx:OO:=hQ 1 JF JF 598 206 341
def Vy:OO:=hF (zP 9) JF .none c9 207 346
def o350:OO:=hM (zP 10) JG
def Vz:OO:=hE 2 JG JG 605 211 348
def V5:OO:=hF (zP 10) JG .none c9 207 351
def o355:OO:=λP p=>⟨(.type y3),none,.dict ⟨[kd P pT 618 (.str c9 207),kd P xO 620 (.str CD 619),kd P qZ 622 (.int 238 621),kd P xR 631 (.ref 366),kd P Ii 638 (.ref 373),kd P qP 645 (.ref 380),kd P q7 650 (.ref 381)]⟩ 7,⟨[]⟩⟩
def o357:OO:=hT [(240,4,365),(244,4,372),(247,4,379)]
def o358:OO:=hB CD CD 613 238 356
def o359:OO:=h7 358 355 c9 207
def V6:OO:=hS [(.str fQ 626),(.str JN 627),(.str mR 628)]
def o364:OO:=hM (zI 11 0) SW
def V7:OO:=hQ 3 xR SW 623 240 360
def V8:OO:=hF (zI 11 0) SW .none c9 207 365
def V9:OO:=hS [(.str fQ 635)]
def o371:OO:=hM (zI 11 1) SX
def VA:OO:=hQ 1 Ii SX 632 244 367
def VB:OO:=hF (zI 11 1) SX .none c9 207 372
def VC:OO:=hS [(.str fQ 642)]
def o378:OO:=hM (zI 11 2) SY
def VD:OO:=hQ 1 qP SY 639 247 374
def VE:OO:=hF (zI 11 2) SY .none c9 207 379
def VF:OO:=hS [(.str JN 646),(.str mR 647),(.str è 648),(.str é 649)]
def VG:OO:=λP p=>⟨(.type y3),none,.dict ⟨[kd P pT 618 (.str c9 207),kd P qZ 622 (.int 238 621),kd P xR 631 (.ref 366),kd P Ii 638 (.ref 373),kd P qP 645 (.ref 380),kd P q7 650 (.ref 381),kd P s2 651 .none]⟩ 2,⟨[]⟩⟩
noncomputable def VH:OO:=λP p=>⟨(.type y4),none,.cls ⟨CD,[(.ref 220)],[(.ref 383),(.ref 220),(.type y6)],382,CD,true,[],[(.ref 416),(.ref 471),(.ref 512),(.ref 560)],false,none,false⟩,⟨[(some (.ref 353)),none,(some (.str CD 611)),(some (.str CD 619)),(some (.builtin Om)),(some (.bool true))]⟩⟩
def o384:OO:=hL y8 [(.ref 383),(.ref 383),(.ref 383)]
def o385:OO:=hL y5 [(.builtin On),(.ref 383)]
def xT:OO:=hS [(.ref 383)]
def o388:OO:=λP p=>⟨(.type y3),none,.dict ⟨[kd P pT 661 (.str c9 207),kd P xO 663 (.str CE 662),kd P qZ 665 (.int 249 664),kd P qP 672 (.ref 399),kd P oN 680 (.ref 406),kd P qO 688 (.ref 413),kd P q7 689 (.ref 414)]⟩ 7,⟨[]⟩⟩
def o390:OO:=hT [(251,4,398),(258,4,405),(261,4,412)]
def o391:OO:=hB CE CE 656 249 389
def o392:OO:=h7 391 388 c9 207
def VI:OO:=hS [(.str fQ 669)]
def o397:OO:=hM (zI 12 0) Ta
def VJ:OO:=hQ 1 qP Ta 666 251 393
def VK:OO:=hF (zI 12 0) Ta .none c9 207 398
def VL:OO:=hS [(.str fQ 676),(.str En 677)]
def o404:OO:=hM (zI 12 1) Tb
def VM:OO:=hQ 2 oN Tb 673 258 400
def VN:OO:=hF (zI 12 1) Tb .none c9 207 405
def VO:OO:=hS [(.str fQ 684),(.str CL 685)]
def o411:OO:=hM (zI 12 2) Tc
def VP:OO:=hQ 2 qO Tc 681 261 407
def VQ:OO:=hF (zI 12 2) Tc .none c9 207 412
def VS:OO:=λP p=>⟨(.type y3),none,.dict ⟨[kd P pT 661 (.str c9 207),kd P qZ 665 (.int 249 664),kd P qP 672 (.ref 399),kd P oN 680 (.ref 406),kd P qO 688 (.ref 413),kd P q7 689 (.ref 414),kd P s2 690 .none]⟩ 2,⟨[]⟩⟩
noncomputable def VT:OO:=λP p=>⟨(.type y4),none,.cls ⟨CE,[(.ref 383)],[(.ref 416),(.ref 383),(.ref 220),(.type y6)],415,CE,true,[],[],false,none,false⟩,⟨[(some (.ref 386)),none,(some (.str CE 654)),(some (.str CE 662)),(some (.builtin Om)),(some (.bool true))]⟩⟩
def o417:OO:=hL y8 [(.ref 416),(.ref 416),(.ref 416)]
def o418:OO:=hL y5 [(.builtin On),(.ref 416)]
def o421:OO:=λP p=>⟨(.type y3),none,.dict ⟨[kd P pT 700 (.str c9 207),kd P xO 702 (.str CF 701),kd P qZ 704 (.int 263 703),kd P xP 712 (.ref 432),kd P uH 721 (.ref 440),kd P xQ 729 (.ref 447),kd P qP 736 (.ref 454),kd P oN 744 (.ref 461),kd P qO 752 (.ref 468),kd P q7 753 (.ref 469)]⟩ 10,⟨[]⟩⟩
def o423:OO:=hT [(265,4,431),(268,4,439),(275,4,446),(278,4,453),(284,4,460),(287,4,467)]
def o424:OO:=hB CF CF 695 263 422
def o425:OO:=h7 424 421 c9 207
def VU:OO:=hS [(.str fQ 708),(.str mR 709)]
def o430:OO:=hM (zI 13 0) Td
def VV:OO:=hQ 2 xP Td 705 265 426
def VW:OO:=hF (zI 13 0) Td .none c9 207 431
def Im:OO:=hS [(.bool false)]
def VX:OO:=hS [(.str fQ 716),(.str mR 717),(.str Oz 718)]
def o438:OO:=hM (zI 13 1) Te
def VY:OO:=hQ 3 uH Te 713 268 434
def VZ:OO:=hF (zI 13 1) Te (.ref 433) c9 207 439
def Wa:OO:=hS [(.str fQ 725),(.str mR 726)]
def o445:OO:=hM (zI 13 2) Tf
def Wb:OO:=hQ 2 xQ Tf 722 275 441
def Wc:OO:=hF (zI 13 2) Tf .none c9 207 446
def Wd:OO:=hS [(.str fQ 733)]
def o452:OO:=hM (zI 13 3) Tg
def We:OO:=hQ 1 qP Tg 730 278 448
def Wg:OO:=hF (zI 13 3) Tg .none c9 207 453
def Wi:OO:=hS [(.str fQ 740),(.str En 741)]
def o459:OO:=hM (zI 13 4) Th
def Wj:OO:=hQ 2 oN Th 737 284 455
def Wk:OO:=hF (zI 13 4) Th .none c9 207 460
def Wl:OO:=hS [(.str fQ 748),(.str CL 749)]
def o466:OO:=hM (zI 13 5) Ti
def Wm:OO:=hQ 2 qO Ti 745 287 462
def Wn:OO:=hF (zI 13 5) Ti .none c9 207 467
def Wo:OO:=λP p=>⟨(.type y3),none,.dict ⟨[kd P pT 700 (.str c9 207),kd P qZ 704 (.int 263 703),kd P xP 712 (.ref 432),kd P uH 721 (.ref 440),kd P xQ 729 (.ref 447),kd P qP 736 (.ref 454),kd P oN 744 (.ref 461),kd P qO 752 (.ref 468),kd P q7 753 (.ref 469),kd P s2 754 .none]⟩ 2,⟨[]⟩⟩
noncomputable def Wp:OO:=λP p=>⟨(.type y4),none,.cls ⟨CF,[(.ref 383)],[(.ref 471),(.ref 383),(.ref 220),(.type y6)],470,CF,true,[],[],false,none,false⟩,⟨[(some (.ref 419)),none,(some (.str CF 693)),(some (.str CF 701)),(some (.builtin Om)),(some (.bool true))]⟩⟩
def o472:OO:=hL y8 [(.ref 471),(.ref 471),(.ref 471)]
def o473:OO:=hL y5 [(.builtin On),(.ref 471)]
def o476:OO:=λP p=>⟨(.type y3),none,.dict ⟨[kd P pT 764 (.str c9 207),kd P xO 766 (.str CG 765),kd P qZ 768 (.int 291 767),kd P uH 777 (.ref 488),kd P qP 784 (.ref 495),kd P oN 792 (.ref 502),kd P qO 800 (.ref 509),kd P q7 801 (.ref 510)]⟩ 8,⟨[]⟩⟩
def o478:OO:=hT [(293,4,487),(296,4,494),(300,4,501),(303,4,508)]
def o479:OO:=hB CG CG 759 291 477
def o480:OO:=h7 479 476 c9 207
def Wq:OO:=hS [(.str fQ 772),(.str mR 773),(.str ⟨⟨[95]⟩⟩ 774)]
def o486:OO:=hM (zI 14 0) Tj
def Wr:OO:=hQ 3 uH Tj 769 293 482
def Ws:OO:=hF (zI 14 0) Tj (.ref 481) c9 207 487
def Wt:OO:=hS [(.str fQ 781)]
def o493:OO:=hM (zI 14 1) Tk
def Wu:OO:=hQ 1 qP Tk 778 296 489
def Wv:OO:=hF (zI 14 1) Tk .none c9 207 494
def Ww:OO:=hS [(.str fQ 788),(.str En 789)]
def o500:OO:=hM (zI 14 2) Tl
def Wx:OO:=hQ 2 oN Tl 785 300 496
def Wy:OO:=hF (zI 14 2) Tl .none c9 207 501
def Wz:OO:=hS [(.str fQ 796),(.str CL 797)]
def o507:OO:=hM (zI 14 3) Tn
def W0:OO:=hQ 2 qO Tn 793 303 503
def W2:OO:=hF (zI 14 3) Tn .none c9 207 508
def W4:OO:=λP p=>⟨(.type y3),none,.dict ⟨[kd P pT 764 (.str c9 207),kd P qZ 768 (.int 291 767),kd P uH 777 (.ref 488),kd P qP 784 (.ref 495),kd P oN 792 (.ref 502),kd P qO 800 (.ref 509),kd P q7 801 (.ref 510),kd P s2 802 .none]⟩ 2,⟨[]⟩⟩
noncomputable def W5:OO:=λP p=>⟨(.type y4),none,.cls ⟨CG,[(.ref 383)],[(.ref 512),(.ref 383),(.ref 220),(.type y6)],511,CG,true,[],[],false,none,false⟩,⟨[(some (.ref 474)),none,(some (.str CG 757)),(some (.str CG 765)),(some (.builtin Om)),(some (.bool true))]⟩⟩
def o513:OO:=hL y8 [(.ref 512),(.ref 512),(.ref 512)]
def o514:OO:=hL y5 [(.builtin On),(.ref 512)]
def o517:OO:=λP p=>⟨(.type y3),none,.dict ⟨[kd P pT 812 (.str c9 207),kd P xO 814 (.str CH 813),kd P qZ 816 (.int 305 815),kd P xQ 824 (.ref 528),kd P uH 833 (.ref 536),kd P qP 840 (.ref 543),kd P oN 848 (.ref 550),kd P qO 856 (.ref 557),kd P q7 857 (.ref 558)]⟩ 9,⟨[]⟩⟩
def o519:OO:=hT [(307,4,527),(312,4,535),(315,4,542),(321,4,549),(324,4,556)]
def o520:OO:=hB CH CH 807 305 518
def o521:OO:=h7 520 517 c9 207
def W6:OO:=hS [(.str fQ 820),(.str mR 821)]
def o526:OO:=hM (zI 15 0) To
def W7:OO:=hQ 2 xQ To 817 307 522
def W8:OO:=hF (zI 15 0) To .none c9 207 527
def W9:OO:=hS [(.str fQ 828),(.str mR 829),(.str Oz 830)]
def o534:OO:=hM (zI 15 1) Tq
def WA:OO:=hQ 3 uH Tq 825 312 530
def WB:OO:=hF (zI 15 1) Tq (.ref 529) c9 207 535
def WC:OO:=hS [(.str fQ 837)]
def o541:OO:=hM (zI 15 2) Tr
def WD:OO:=hQ 1 qP Tr 834 315 537
def WE:OO:=hF (zI 15 2) Tr .none c9 207 542
def WF:OO:=hS [(.str fQ 844),(.str En 845)]
def o548:OO:=hM (zI 15 3) Ts
def WG:OO:=hQ 2 oN Ts 841 321 544
def WH:OO:=hF (zI 15 3) Ts .none c9 207 549
def WJ:OO:=hS [(.str fQ 852),(.str CL 853)]
def o555:OO:=hM (zI 15 4) Tu
def WK:OO:=hQ 2 qO Tu 849 324 551
def WL:OO:=hF (zI 15 4) Tu .none c9 207 556
def WM:OO:=λP p=>⟨(.type y3),none,.dict ⟨[kd P pT 812 (.str c9 207),kd P qZ 816 (.int 305 815),kd P xQ 824 (.ref 528),kd P uH 833 (.ref 536),kd P qP 840 (.ref 543),kd P oN 848 (.ref 550),kd P qO 856 (.ref 557),kd P q7 857 (.ref 558),kd P s2 858 .none]⟩ 2,⟨[]⟩⟩
noncomputable def WO:OO:=λP p=>⟨(.type y4),none,.cls ⟨CH,[(.ref 383)],[(.ref 560),(.ref 383),(.ref 220),(.type y6)],559,CH,true,[],[],false,none,false⟩,⟨[(some (.ref 515)),none,(some (.str CH 805)),(some (.str CH 813)),(some (.builtin Om)),(some (.bool true))]⟩⟩
def o561:OO:=hL y8 [(.ref 560),(.ref 560),(.ref 560)]
def o562:OO:=hL y5 [(.builtin On),(.ref 560)]
def o565:OO:=λP p=>⟨(.type y3),none,.dict ⟨[kd P pT 868 (.str c9 207),kd P xO 870 (.str CJ 869),kd P qZ 872 (.int 326 871),kd P xR 880 (.ref 576),kd P Ii 887 (.ref 583),kd P qP 894 (.ref 590),kd P q7 898 (.ref 591)]⟩ 7,⟨[]⟩⟩
def o567:OO:=hT [(328,4,575),(332,4,582),(335,4,589)]
def o568:OO:=hB CJ CJ 863 326 566
def o569:OO:=h7 568 565 c9 207
def WP:OO:=hS [(.str fQ 876),(.str SF 877)]
def o574:OO:=hM (zI 16 0) Tv
def WQ:OO:=hQ 2 xR Tv 873 328 570
def WR:OO:=hF (zI 16 0) Tv .none c9 207 575
def WS:OO:=hS [(.str fQ 884)]
def o581:OO:=hM (zI 16 1) Tw
def WT:OO:=hQ 1 Ii Tw 881 332 577
def WU:OO:=hF (zI 16 1) Tw .none c9 207 582
def WV:OO:=hS [(.str fQ 891)]
def o588:OO:=hM (zI 16 2) Tx
def WW:OO:=hQ 1 qP Tx 888 335 584
def WX:OO:=hF (zI 16 2) Tx .none c9 207 589
def WY:OO:=hS [(.str è 895),(.str é 896),(.str SF 897)]
def WZ:OO:=λP p=>⟨(.type y3),none,.dict ⟨[kd P pT 868 (.str c9 207),kd P qZ 872 (.int 326 871),kd P xR 880 (.ref 576),kd P Ii 887 (.ref 583),kd P qP 894 (.ref 590),kd P q7 898 (.ref 591),kd P s2 899 .none]⟩ 2,⟨[]⟩⟩
noncomputable def Xa:OO:=λP p=>⟨(.type y4),none,.cls ⟨CJ,[(.ref 220)],[(.ref 593),(.ref 220),(.type y6)],592,CJ,true,[],[(.ref 644)],false,none,false⟩,⟨[(some (.ref 563)),none,(some (.str CJ 861)),(some (.str CJ 869)),(some (.builtin Om)),(some (.bool true))]⟩⟩
def o594:OO:=hL y8 [(.ref 593),(.ref 593),(.ref 593)]
def o595:OO:=hL y5 [(.builtin On),(.ref 593)]
def Xb:OO:=hS [(.ref 593)]
def o598:OO:=λP p=>⟨(.type y3),none,.dict ⟨[kd P pT 909 (.str c9 207),kd P xO 911 (.str CK 910),kd P qZ 913 (.int 337 912),kd P qP 919 (.ref 607),kd P xP 925 (.ref 612),kd P uH 941 (.ref 620),kd P xQ 947 (.ref 625),kd P oN 953 (.ref 630),kd P qO 959 (.ref 635),kd P O2 966 (.ref 641),kd P q7 967 (.ref 642)]⟩ 11,⟨[]⟩⟩
def o600:OO:=hT [(339,4,606),(342,4,611),(345,4,619),(391,4,624),(399,4,629),(402,4,634),(406,4,639)]
def o601:OO:=hB CK CK 904 337 599
def o602:OO:=h7 601 598 c9 207
def o605:OO:=hM (zI 17 0) Ty
def Xc:OO:=hE 1 qP Ty 914 339 603
def Xd:OO:=hF (zI 17 0) Ty .none c9 207 606
def o610:OO:=hM (zI 17 1) Tz
def Xe:OO:=hE 2 xP Tz 920 342 608
def Xf:OO:=hF (zI 17 1) Tz .none c9 207 611
def Xg:OO:=hS [(.str fQ 929),(.str mR 930),(.str Oz 931),(.str ⟨⟨[102,117,108,108,121,95,100,105,118,105,100,101,100]⟩⟩ 932),(.str ⟨⟨[114,101,115,116]⟩⟩ 933),(.str ⟨⟨[120]⟩⟩ 934),(.str ⟨⟨[115,117,109,95,102,117,108,108,121,95,100,105,118,105,100,101,100]⟩⟩ 935),(.str ⟨⟨[95,103,99,100]⟩⟩ 936),(.str ⟨⟨[100,105,118,105,115,111,114]⟩⟩ 937),(.str ⟨⟨[100,105,118]⟩⟩ 938)]
def o618:OO:=hM (zI 17 2) T7
def Xh:OO:=hR 939 3 uH T7 926 345 614
def Xi:OO:=hF (zI 17 2) T7 (.ref 613) c9 207 619
def o623:OO:=hM (zI 17 3) T8
def Xj:OO:=hE 2 xQ T8 942 391 621
def Xk:OO:=hF (zI 17 3) T8 .none c9 207 624
def o628:OO:=hM (zI 17 4) T9
def Xl:OO:=hE 2 oN T9 948 399 626
def Xm:OO:=hF (zI 17 4) T9 .none c9 207 629
def o633:OO:=hM (zI 17 5) TA
def Xn:OO:=hE 2 qO TA 954 402 631
def Xo:OO:=hF (zI 17 5) TA .none c9 207 634
def o638:OO:=hM (zI 17 6) TB
def Xp:OO:=hE 1 O2 TB 960 405 636
def Xq:OO:=hF (zI 17 6) TB .none c9 207 639
def Xr:OO:=hL y12 [(.ref 640),.none,.none,.none,(.str O2 966),(.bool false)]
def Xs:OO:=λP p=>⟨(.type y3),none,.dict ⟨[kd P pT 909 (.str c9 207),kd P qZ 913 (.int 337 912),kd P qP 919 (.ref 607),kd P xP 925 (.ref 612),kd P uH 941 (.ref 620),kd P xQ 947 (.ref 625),kd P oN 953 (.ref 630),kd P qO 959 (.ref 635),kd P O2 966 (.ref 641),kd P q7 967 (.ref 642),kd P s2 968 .none]⟩ 2,⟨[]⟩⟩
noncomputable def Xu:OO:=λP p=>⟨(.type y4),none,.cls ⟨CK,[(.ref 593)],[(.ref 644),(.ref 593),(.ref 220),(.type y6)],643,CK,true,[],[],false,none,false⟩,⟨[(some (.ref 596)),none,(some (.str CK 902)),(some (.str CK 910)),(some (.builtin Om)),(some (.bool true))]⟩⟩
def o645:OO:=hL y8 [(.ref 644),(.ref 644),(.ref 644)]
def o646:OO:=hL y5 [(.builtin On),(.ref 644)]
def Xv:OO:=hS [(.str JN 974),(.str CL 975)]
def o652:OO:=hM (zP 18) JH
def Xw:OO:=hQ 2 JH JH 971 408 648
def Xx:OO:=hF (zP 18) JH (.ref 647) c9 207 653
def o657:OO:=hM (zP 19) JI
def Xy:OO:=hE 2 JI JI 979 410 655
def Xz:OO:=hF (zP 19) JI .none c9 207 658
def o664:OO:=hM (zP 21) JJ
def X0:OO:=hQ 0 JJ JJ 987 417 660
def X2:OO:=hF (zP 21) JJ .none JA 985 665
def X4:OO:=hS [(.str ⟨⟨[115,99,114,105,112,116]⟩⟩ 996),(.str RP 997)]
def o671:OO:=hM (zP 22) JK
def X5:OO:=hQ 2 JK JK 993 419 667
def X6:OO:=hF (zP 22) JK .none JA 985 672
def X7:OO:=hS [(.str ⟨⟨[110,117,109,98,101,114]⟩⟩ 1004)]
def o678:OO:=hM (zP 23) JL
def X8:OO:=hQ 1 JL JL 1001 425 674
def X9:OO:=hF (zP 23) JL .none JA 985 679
def XA:OO:=hS [(.str ⟨⟨[115,99,114,105,112,116]⟩⟩ 1011),(.str ⟨⟨[99,111,117,110,116]⟩⟩ 1012),(.str ⟨⟨[112,97,114,116,115]⟩⟩ 1013),(.str ⟨⟨[112,108,97,105,110]⟩⟩ 1014),(.str ⟨⟨[115,105,100,101,115]⟩⟩ 1015),(.str ⟨⟨[118,97,108,117,101,115]⟩⟩ 1016),(.str RP 1017),(.str ⟨⟨[108,111,119]⟩⟩ 1018),(.str ⟨⟨[115,112,97,110]⟩⟩ 1019),(.str ⟨⟨[118,97,108,117,101]⟩⟩ 1020),(.str ⟨⟨[110,117,109,98,101,114]⟩⟩ 1021),(.str ⟨⟨[98,121]⟩⟩ 1022),(.str ⟨⟨[109,111,114,101]⟩⟩ 1023),(.str ⟨⟨[112,97,114,116]⟩⟩ 1024),(.str ⟨⟨[119,104,111,108,101]⟩⟩ 1025),(.str ⟨⟨[100,117,101]⟩⟩ 1026),(.str ⟨⟨[108,101,97,115,116]⟩⟩ 1027),(.str ⟨⟨[109,111,115,116]⟩⟩ 1028),(.str ⟨⟨[104,101,97,100,115]⟩⟩ 1029),(.str ⟨⟨[115,116,101,112]⟩⟩ 1030),(.str ⟨⟨[98,97,99,107]⟩⟩ 1031),(.str ⟨⟨[104,101,97,100]⟩⟩ 1032)]
def o685:OO:=hM (zP 24) JM
def XB:OO:=hR 1033 1 JM JM 1008 427 681
def XC:OO:=hF (zP 24) JM .none JA 985 686
def a3:OO:=λP p=>⟨(.type y3),none,.dict ⟨[kd P s0 165 (.str J9 164),kd P s2 166 .none,kd P s3 167 .none,kd P s4 168 (.builtin SL.s7097527257260152453x26),kd P s5 169 .none,kd P Ou 170 (.ref 6),kd P ë 171 (.ref 4),kd P ì 173 (.str Ov 172),kd P í 174 .none]⟩ 9,⟨[]⟩⟩
noncomputable def a12:OO:=λP p=>⟨.none,none,.fields ⟨[]⟩,⟨[]⟩⟩
def t9(P:Params)(p:Program):Heap:=⟨⟨[o0 P p,o1 P p,o2 P p,a3 P p,o4 P p,o5 P p,o6 P p,o7 P p,o8 P p,o9 P p,o10 P p]⟩,{}⟩
noncomputable abbrev NT:=Params->Program->BT
noncomputable def n0:NT:=λ_ _=>.nil
noncomputable def n2(o:OO)(a b:NT):NT:=λP p=>.node (o P p) (a P p) (b P p)
def n1(o:OO):NT:=n2 o n0 n0
def n3(o a:OO):NT:=n2 o (n1 a) n0
def n4(o a b:OO):NT:=n2 o (n1 a) (n1 b)
def treeA(P:Params)(p:Program):BT:=(n2 o0 (n2 o1 (n4 a3 o7 o7) (n4 o5 o9 o13)) (n2 o2 (n4 o4 o8 a12) (n4 o6 o10 o14))) P p
def QL(P:Params)(p:Program):BT:=(n2 o0 (n2 o1 (n2 o3 (n2 o7 (n2 o7 (n2 o31 (n2 o63 (n2 TO (n3 o8 W4) (n3 VH Xp)) (n2 Ur (n3 o319 WQ) (n1 Wc))) (n2 o8 (n2 Ue (n3 o7 WE) (n3 VS o671)) (n2 π (n3 Vz Xd) (n1 o479)))) (n2 o7 (n2 o79 (n2 o7 (n3 o7 W7) (n3 VK o7)) (n2 o6 (n3 o8 WY) (n1 o8))) (n2 o7 (n2 ü (n3 Ve WM) (n3 VV XC)) (n2 o7 (n3 o7 o623) (n1 Wv))))) (n2 o8 (n2 o7 (n2 o71 (n2 TS (n3 UN o519) (n3 o391 ZY)) (n2 Uv (n3 Vo WU) (n1 o7))) (n2 TD (n2 o7 (n3 o8 o7) (n3 o423 X8)) (n2 ω (n3 o359 o8) (n1 Wr)))) (n2 o55 (n2 o7 (n2 o8 (n3 o279 WA) (n3 o7 o7)) (n2 U3 (n3 Vw o7) (n1 Wp))) (n2 ó (n2 ý (n3 o7 o567) (n1 VY)) (n2 o7 (n3 o8 o7) (n1 o7)))))) (n2 o7 (n2 o19 (n2 o35 (n2 o67 (n2 TQ (n3 UL xT) (n3 AI Xs)) (n2 Ut (n3 o8 WS) (n1 o7))) (n2 o99 (n2 Ug (n3 o291 o7) (n3 xT o8)) (n2 φ (n3 o355 Xe) (n1 o8)))) (n2 o7 (n2 o7 (n2 ø (n3 UT o8) (n3 o7 Xz)) (n2 o7 (n3 Vu o595) (n1 Wm))) (n2 o7 (n2 o7 (n3 Vg xS) (n1 o8)) (n2 o243 (n3 o371 o8) (n1 o7))))) (n2 o27 (n2 ZY (n2 o75 (n2 o7 (n3 UP o8) (n3 VI o7)) (n2 Uw (n3 Vs o7) (n1 o459))) (n2 TG (n2 o7 (n3 Vc o555) (n3 o8 XA)) (n2 o7 (n3 o7 Xh) (n1 Wt)))) (n2 o8 (n2 o91 (n2 Uc (n3 o7 WC) (n3 o411 o7)) (n2 U6 (n3 Vy o7) (n1 AI))) (n2 o8 (n2 o8 (n3 o7 o8) (n1 Wa)) (n2 o251 (n3 VD Xo) (n1 o507))))))) (n2 o5 (n2 o9 (n2 o17 (n2 o33 (n2 o7 (n2 o7 (n3 o7 o513) (n3 o385 Xr)) (n2 o7 (n3 Vm o7) (n1 o8))) (n2 o7 (n2 ú (n3 UW o8) (n3 o417 X6)) (n2 xS (n3 xS o8) (n1 Im)))) (n2 o49 (n2 o8 (n2 TY (n3 UR B2) (n3 o8 o657)) (n2 o8 (n3 o7 Xa) (n1 o7))) (n2 TI (n2 Um (n3 o305 o561) (n1 Im)) (n2 UD (n3 V9 Xk) (n1 o8))))) (n2 o7 (n2 o41 (n2 o7 (n2 o8 (n3 o265 o521) (n3 o7 o8)) (n2 o8 (n3 Vq o8) (n1 Wi))) (n2 ñ (n2 Ui (n3 o7 WJ) (n3 o425 o7)) (n2 o8 (n3 o8 o7) (n1 o7)))) (n2 o57 (n2 o89 (n2 o7 (n3 AI o7) (n3 VO X0)) (n2 o6 (n3 o345 o601) (n1 o473))) (n2 TM (n2 Up (n3 Vi o569) (n1 o7)) (n2 UH (n3 o7 o633) (n1 Wz)))))) (n2 o13 (n2 o21 (n2 AI (n2 o69 (n2 õ (n3 o7 o517) (n3 o7 o645)) (n2 κ (n3 o7 o581) (n1 We))) (n2 o7 (n2 o8 (n3 UY WG) (n3 o421 o7)) (n2 χ (n3 o357 B2) (n1 o7)))) (n2 o53 (n2 o85 (n2 Ua (n3 UV o7) (n3 VM o8)) (n2 U1 (n3 o7 AI) (n1 o7))) (n2 TK (n2 Un (n3 o8 o565) (n1 o7)) (n2 UF (n3 VB Xl) (n1 Wx))))) (n2 o7 (n2 o8 (n2 o77 (n2 TV (n3 o8 o7) (n3 o397 Xw)) (n2 Uy (n3 o333 WW) (n1 Wk))) (n2 o8 (n2 Uk (n3 o7 WL) (n3 o7 o685)) (n2 UB (n3 V7 o7) (n1 o493)))) (n2 o7 (n2 o93 (n2 o7 (n3 o285 o541) (n3 VQ X4)) (n2 U8 (n3 o8 o605) (n1 o7))) (n2 o7 (n2 o7 (n3 Vk o7) (n1 o445)) (n2 UJ (n3 VF o8) (n1 W2)))))))) (n2 o2 (n2 o4 (n2 o8 (n2 o8 (n2 o7 (n2 o64 (n2 TP (n3 UK W5) (n3 o384 Xq)) (n2 Us (n3 Vl WR) (n1 o7))) (n2 o96 (n2 o7 (n3 o8 o7) (n3 VT X5)) (n2 σ (n3 V5 o7) (n1 o480)))) (n2 o48 (n2 o7 (n2 o8 (n3 o272 W8) (n3 o7 o8)) (n2 o7 (n3 Vt WZ) (n1 Wl))) (n2 ò (n2 Ul (n3 o7 WO) (n1 VW)) (n2 o8 (n3 o8 Xj) (n1 o7))))) (n2 o24 (n2 o40 (n2 o72 (n2 o7 (n3 o7 o520) (n3 o392 o7)) (n2 o7 (n3 Vp o7) (n1 o8))) (n2 o7 (n2 û (n3 UZ o8) (n3 o424 X9)) (n2 o7 (n3 o7 Xg) (n1 Ws)))) (n2 o56 (n2 o8 (n2 Ub (n3 xS WB) (n3 o8 o664)) (n2 U4 (n3 o7 o600) (n1 o472))) (n2 TL (n2 Uo (n3 o312 o568) (n1 VZ)) (n2 o8 (n3 VC o8) (n1 o8)))))) (n2 o12 (n2 o20 (n2 o7 (n2 o7 (n2 o7 (n3 UM AI) (n3 o388 Xu)) (n2 o7 (n3 Vn o7) (n1 o452))) (n2 TC (n2 o7 (n3 UX o548) (n3 AI X7)) (n2 o7 (n3 o7 Xf) (n1 Wq)))) (n2 o8 (n2 o84 (n2 TZ (n3 UU W9) (n3 o404 o7)) (n2 ξ (n3 Vv Xb) (n1 Wn))) (n2 o8 (n2 o8 (n3 o7 AI) (n1 VX)) (n2 UE (n3 VA o628) (n1 o500))))) (n2 o28 (n2 o7 (n2 o7 (n2 ö (n3 o7 W6) (n3 o7 o652)) (n2 Ux (n3 o332 o588) (n1 Wj))) (n2 o7 (n2 o8 (n3 Vd WK) (n3 VU o7)) (n2 o236 (n3 o364 Xi) (n1 o7)))) (n2 o60 (n2 o92 (n2 Ud (n3 o284 o7) (n3 VP o8)) (n2 U7 (n3 o7 o8) (n1 o476))) (n2 TN (n2 Uq (n3 o8 WP) (n1 o7)) (n2 UI (n3 VE o7) (n1 W0))))))) (n2 o6 (n2 o10 (n2 o7 (n2 o34 (n2 o8 (n2 o8 (n3 o258 o514) (n3 xT o7)) (n2 o8 (n3 o7 o8) (n1 Wd))) (n2 o98 (n2 Uf (n3 o7 WF) (n3 o418 o7)) (n2 AI (n3 AI o610) (n1 o7)))) (n2 o50 (n2 o82 (n2 o7 (n3 US o7) (n3 VL Xy)) (n2 U0 (n3 o338 o594) (n1 o466))) (n2 TJ (n2 B2 (n3 Vf o562) (n1 o7)) (n2 o7 (n3 o7 o7) (n1 Ww))))) (n2 o26 (n2 o42 (n2 o8 (n2 TU (n3 UO o7) (n3 o8 Xv)) (n2 μ (n3 Vr WV) (n1 o7))) (n2 TF (n2 Uj (n3 o298 o7) (n3 o7 o8)) (n2 UA (n3 V6 o618) (n1 o8)))) (n2 o7 (n2 o7 (n2 ù (n3 o282 o8) (n3 o7 X2)) (n2 U5 (n3 Vx o602) (n1 xT))) (n2 o7 (n2 o7 (n3 Vj o7) (n1 o8)) (n2 o7 (n3 o378 Xn) (n1 o7)))))) (n2 o14 (n2 o7 (n2 o38 (n2 o70 (n2 TR (n3 o8 o7) (n3 o390 o646)) (n2 Uu (n3 o326 WT) (n1 Wg))) (n2 o8 (n2 Uh (n3 o7 WH) (n3 o7 o678)) (n2 ψ (n3 o358 o7) (n1 o486)))) (n2 o7 (n2 o86 (n2 o7 (n3 o278 o534) (n3 VN o7)) (n2 U2 (n3 o8 o598) (n1 Wo))) (n2 o7 (n2 o7 (n3 Vh o7) (n1 o438)) (n2 UG (n3 o7 Xm) (n1 Wy))))) (n2 o8 (n2 o46 (n2 o78 (n2 TX (n3 UQ o526) (n3 VJ Xx)) (n2 Uz (n3 o7 WX) (n1 o7))) (n2 TH (n2 o7 (n3 o8 o7) (n3 o430 XB)) (n2 UC (n3 V8 o8) (n1 Wu)))) (n2 o62 (n2 o7 (n2 o8 (n3 o286 WD) (n3 o7 o7)) (n2 U9 (n3 o350 Xc) (n1 o478))) (n2 ô (n2 þ (n3 o7 o574) (n1 Wb)) (n2 o7 (n3 VG o638) (n1 o7))))))))) P p
def objsZ(P:Params)(p:Program):List Obj:=List.rec (motive:=λ_=>List Obj) [] (λ(o:OO) _ l=>o P p::l) [o0,o1,o2,o3,o4,o5,o6,o7,o8,o9,o10,o7,o12,o13,o14,o7,o8,o17,o7,o19,o20,o21,o7,o8,o24,o7,o26,o27,o28,o7,o8,o31,o7,o33,o34,o35,o7,AI,o38,o7,o40,o41,o42,ZY,o7,o8,o46,o7,o48,o49,o50,o7,o8,o53,o7,o55,o56,o57,o7,o8,o60,o7,o62,o63,o64,o7,o8,o67,o7,o69,o70,o71,o72,o7,o8,o75,o7,o77,o78,o79,o7,o8,o82,o7,o84,o85,o86,o7,o8,o89,o7,o91,o92,o93,o7,o8,o96,o7,o98,o99,TC,o7,o8,TD,o7,ñ,TF,TG,o7,o8,TH,o7,ò,TI,TJ,o7,o8,TK,o7,ó,TL,TM,o7,o8,TN,o7,ô,TO,TP,o7,o8,TQ,o7,õ,TR,TS,o7,o8,TU,o7,ö,TV,TX,o7,o8,TY,o7,ø,TZ,Ua,o7,o8,Ub,o7,ù,Uc,Ud,o7,o8,Ue,o7,ú,Uf,Ug,o7,o8,Uh,o7,û,Ui,Uj,o7,o8,Uk,o7,ü,Ul,Um,B2,o7,o8,Un,o7,ý,Uo,Up,o7,o8,Uq,o7,þ,Ur,Us,o7,o8,Ut,o7,κ,Uu,Uv,o7,o8,μ,Uw,Ux,Uy,Uz,o6,o7,o8,U0,o7,ξ,U1,U2,U3,U4,o6,U5,U6,U7,U8,U9,π,σ,xS,AI,φ,o7,χ,ψ,ω,o7,o8,UA,o7,o236,UB,UC,o7,o8,UD,o7,o243,UE,UF,UG,o7,o8,UH,o7,o251,UI,UJ,o7,o8,UK,o7,o258,UL,UM,o7,o8,UN,o7,o265,UO,UP,o7,o8,UQ,o7,o272,UR,US,UT,UU,UV,o278,o279,xS,AI,o282,o7,o284,o285,o286,o7,o8,UW,o7,o291,UX,UY,o7,o8,UZ,o7,o298,Vc,Vd,o7,o8,Ve,o7,o305,Vf,Vg,o7,o8,Vh,o7,o312,Vi,Vj,o7,o8,Vk,o7,o319,Vl,Vm,o7,o8,Vn,o7,o326,Vo,Vp,Vq,Vr,Vs,o332,o333,o7,o8,Vt,o7,o338,Vu,Vv,o7,o8,Vw,o7,o345,Vx,Vy,o7,o8,o350,Vz,V5,xS,AI,o355,o7,o357,o358,o359,o7,o8,V6,o7,o364,V7,V8,o7,o8,V9,o7,o371,VA,VB,o7,o8,VC,o7,o378,VD,VE,VF,VG,VH,o384,o385,xT,AI,o388,o7,o390,o391,o392,o7,o8,VI,o7,o397,VJ,VK,o7,o8,VL,o7,o404,VM,VN,o7,o8,VO,o7,o411,VP,VQ,o7,VS,VT,o417,o418,xT,AI,o421,o7,o423,o424,o425,o7,o8,VU,o7,o430,VV,VW,Im,o7,o8,VX,o7,o438,VY,VZ,o7,o8,Wa,o7,o445,Wb,Wc,o7,o8,Wd,o7,o452,We,Wg,o7,o8,Wi,o7,o459,Wj,Wk,o7,o8,Wl,o7,o466,Wm,Wn,o7,Wo,Wp,o472,o473,xT,AI,o476,o7,o478,o479,o480,Im,o7,o8,Wq,o7,o486,Wr,Ws,o7,o8,Wt,o7,o493,Wu,Wv,o7,o8,Ww,o7,o500,Wx,Wy,o7,o8,Wz,o7,o507,W0,W2,o7,W4,W5,o513,o514,xT,AI,o517,o7,o519,o520,o521,o7,o8,W6,o7,o526,W7,W8,B2,o7,o8,W9,o7,o534,WA,WB,o7,o8,WC,o7,o541,WD,WE,o7,o8,WF,o7,o548,WG,WH,o7,o8,WJ,o7,o555,WK,WL,o7,WM,WO,o561,o562,xS,AI,o565,o7,o567,o568,o569,o7,o8,WP,o7,o574,WQ,WR,o7,o8,WS,o7,o581,WT,WU,o7,o8,WV,o7,o588,WW,WX,WY,WZ,Xa,o594,o595,Xb,AI,o598,o7,o600,o601,o602,o7,o8,o605,Xc,Xd,o7,o8,o610,Xe,Xf,B2,o7,o8,Xg,o7,o618,Xh,Xi,o7,o8,o623,Xj,Xk,o7,o8,o628,Xl,Xm,o7,o8,o633,Xn,Xo,o7,o8,o638,Xp,Xq,Xr,o7,Xs,Xu,o645,o646,ZY,o7,o8,Xv,o7,o652,Xw,Xx,o7,o8,o657,Xy,Xz,o7,o8,o7,o7,o664,X0,X2,o7,o8,X4,o7,o671,X5,X6,o7,o8,X7,o7,o678,X8,X9,o7,o8,XA,o7,o685,XB,XC]
noncomputable def kAs:List Addr:=[2,3,15,17,18,20,21,22,24,25,27,28,29,31,32,34,35,43,44,46,47,49,50,51,53,54,56,57,58,60,61,63,64,65,67,68,70,71,72,73,75,76,78,79,80,82,83,85,86,87,89,90,92,93,94,96,97,99,100,101,103,104,106,107,108,110,111,113,114,115,117,118,120,121,122,124,125,127,128,129,131,132,134,135,136,138,139,141,142,143,145,146,148,149,150,152,153,155,156,157,159,160,162,163,164,166,167,169,170,171,173,174,176,177,178,179,181,182,184,185,186,188,189,191,192,193,195,196,198,199,200,203,204,205,206,207,208,210,211,213,214,215,216,217,218,219,220,221,222,225,232,234,235,237,238,239,241,242,244,245,246,247,249,250,252,253,254,256,257,259,260,261,263,264,266,267,268,270,271,273,274,275,276,277,280,287,289,290,292,293,294,296,297,299,300,301,303,304,306,307,308,310,311,313,314,315,317,318,320,321,322,324,325,327,328,329,330,331,334,336,337,339,340,341,343,344,346,347,348,351,352,353,360,362,363,365,366,367,369,370,372,373,374,376,377,379,380,381,382,383,386,393,395,396,398,399,400,402,403,405,406,407,409,410,412,413,414,415,416,419,426,428,429,431,432,433,434,436,437,439,440,441,443,444,446,447,448,450,451,453,454,455,457,458,460,461,462,464,465,467,468,469,470,471,474,481,482,484,485,487,488,489,491,492,494,495,496,498,499,501,502,503,505,506,508,509,510,511,512,515,522,524,525,527,528,529,530,532,533,535,536,537,539,540,542,543,544,546,547,549,550,551,553,554,556,557,558,559,560,563,570,572,573,575,576,577,579,580,582,583,584,586,587,589,590,591,592,593,596,603,606,607,608,611,612,613,614,616,617,619,620,621,624,625,626,629,630,631,634,635,636,639,640,641,642,643,644,647,648,650,651,653,654,655,658,659,660,662,663,665,666,667,669,670,672,673,674,676,677,679,680,681,683,684,686,687]
def KfP(P:Params)(p:Program):Frag:=List.zipWith (λa (o:OO)=>(a,o P p)) kAs [o2,o3,o7,o17,o7,o20,o21,o7,o24,o7,o27,o28,o7,o31,o7,o34,o35,ZY,o7,o46,o7,o49,o50,o7,o53,o7,o56,o57,o7,o60,o7,o63,o64,o7,o67,o7,o70,o71,o72,o7,o75,o7,o78,o79,o7,o82,o7,o85,o86,o7,o89,o7,o92,o93,o7,o96,o7,o99,TC,o7,TD,o7,TF,TG,o7,TH,o7,TI,TJ,o7,TK,o7,TL,TM,o7,TN,o7,TO,TP,o7,TQ,o7,TR,TS,o7,TU,o7,TV,TX,o7,TY,o7,TZ,Ua,o7,Ub,o7,Uc,Ud,o7,Ue,o7,Uf,Ug,o7,Uh,o7,Ui,Uj,o7,Uk,o7,Ul,Um,B2,o7,Un,o7,Uo,Up,o7,Uq,o7,Ur,Us,o7,Ut,o7,Uu,Uv,o7,Uw,Ux,Uy,Uz,o6,o7,U0,o7,U1,U2,U3,U4,o6,U5,U6,U7,U8,U9,xS,o7,UA,o7,UB,UC,o7,UD,o7,UE,UF,UG,o7,UH,o7,UI,UJ,o7,UK,o7,UL,UM,o7,UN,o7,UO,UP,o7,UQ,o7,UR,US,UT,UU,UV,xS,o7,UW,o7,UX,UY,o7,UZ,o7,Vc,Vd,o7,Ve,o7,Vf,Vg,o7,Vh,o7,Vi,Vj,o7,Vk,o7,Vl,Vm,o7,Vn,o7,Vo,Vp,Vq,Vr,Vs,o7,Vt,o7,Vu,Vv,o7,Vw,o7,Vx,Vy,o7,Vz,V5,xS,o7,V6,o7,V7,V8,o7,V9,o7,VA,VB,o7,VC,o7,VD,VE,VF,VG,VH,xT,o7,VI,o7,VJ,VK,o7,VL,o7,VM,VN,o7,VO,o7,VP,VQ,o7,VS,VT,xT,o7,VU,o7,VV,VW,Im,o7,VX,o7,VY,VZ,o7,Wa,o7,Wb,Wc,o7,Wd,o7,We,Wg,o7,Wi,o7,Wj,Wk,o7,Wl,o7,Wm,Wn,o7,Wo,Wp,xT,Im,o7,Wq,o7,Wr,Ws,o7,Wt,o7,Wu,Wv,o7,Ww,o7,Wx,Wy,o7,Wz,o7,W0,W2,o7,W4,W5,xT,o7,W6,o7,W7,W8,B2,o7,W9,o7,WA,WB,o7,WC,o7,WD,WE,o7,WF,o7,WG,WH,o7,WJ,o7,WK,WL,o7,WM,WO,xS,o7,WP,o7,WQ,WR,o7,WS,o7,WT,WU,o7,WV,o7,WW,WX,WY,WZ,Xa,Xb,o7,Xc,Xd,o7,Xe,Xf,B2,o7,Xg,o7,Xh,Xi,o7,Xj,Xk,o7,Xl,Xm,o7,Xn,Xo,o7,Xp,Xq,Xr,o7,Xs,Xu,ZY,o7,Xv,o7,Xw,Xx,o7,Xy,Xz,o7,o7,o7,X0,X2,o7,X4,o7,X5,X6,o7,X7,o7,X8,X9,o7,XA,o7,XB,XC]
def Kf(P:Params):Frag:=KfP P pw
end
noncomputable def bE(p:Program):List Stmt:=behindTheImports p
noncomputable def JO(p:Program):Env:={scope:=p.main.scope,locals:=mainNs,globals:=mainNs,cells:=[],code:=.ref 13,frame:=some 14}
def cE(p:Program):Code:=.body (bE p) (JO p)
noncomputable def q0:Pos:=⟨0,0,0,0⟩
noncomputable def q1:Pos:=⟨427,0,486,80⟩
def SA(p:Program)(w:World)(os:OsState):SharedT:=⟨treeA w.params p,15,{},Array.mk [],{},187,os⟩
def SZ(p:Program)(w:World)(os:OsState):SharedT:=⟨QL w.params p,688,{},Array.mk [],{},1036,os⟩
def preL(p:Program)(w:World):OsState->Option (Shared×Thread):=λos=>topGo treeTable p w 11 (some (.ref 6)) 12 ⟨t9 w.params p,Array.mk [],boot_drawn,boot_toks,os⟩ (topStub p)
def preR(p:Program)(w:World):OsState->Option (Shared×Thread):=λos=>some ((SA p w os).abs,Thread.mk (denote treeTable (cE p)) (cE p) q0 [topFrame q0])
def runL(p:Program)(w:World):OsState->Option (Flow×SharedT×Code×Pos):=λos=>segRunT treeTable p w 11 (some (.ref 6)) 1 5164 (SA p w os) (piecesOf (bE p) (JO p) (cE p) q0 [topFrame q0])
def runR(p:Program)(w:World):OsState->Option (Flow×SharedT×Code×Pos):=λos=>some (.next,SZ p w os,cE p,q1)
def finL(p:Program)(w:World):OsState->Option Shared:=λos=>topRun treeTable p w 11 (some (.ref 6)) 2 (SZ p w os).abs ⟨doneF .next,cE p,q1,[topFrame q0]⟩
def finR(p:Program)(w:World):OsState->Option Shared:=λos=>some (SZ p w os).abs
lay_quick Mine.preL Mine.preR Mine.runL Mine.runR Mine.finL Mine.finR
theorem XD(w:World):PySem.W.Fast.tw1435067368052203930 pw w=PySem.W.Fast.tw17653279219239862775 pw w:=by kernel_rfl!
theorem XE(w:World):preL pw w=preR pw w:=by
 have a:=PySem.W.Fast.te1435067368052203930;have b:=PySem.W.Fast.te17653279219239862775;rw[a,b];exact XD w
theorem XF(w:World):PySem.W.Fast.tw8888714992180598707 pw w=PySem.W.Fast.tw10272301045346404311 pw w:=by kernel_rfl!
theorem XG(w:World):finL pw w=finR pw w:=by
 have a:=PySem.W.Fast.te8888714992180598707;have b:=PySem.W.Fast.te10272301045346404311;rw[a,b];exact XF w
theorem XH(w:World):PySem.W.Fast.tw15381529512651596867 pw w=PySem.W.Fast.tw6244362003190856736 pw w:=by kernel_rfl!
theorem XI(w:World):runL pw w=runR pw w:=by
 have a:=PySem.W.Fast.te15381529512651596867;have b:=PySem.W.Fast.te6244362003190856736;rw[a,b];exact XH w
theorem O4(P:Params):boot_heap P=t9 P pw:=by kernel_rfl!
noncomputable def qvP(p:Program):Program:=view p [24]
def qv:Program:=qvP pw
noncomputable def loose:List Str:=["_wall","partition","gcd","Node","Variable","NumNode","variable","create_node","create_lt_node","OpNode","LtNode","MulNode","DivNode","ModNode","RedNode","SumNode","sym_render","sym_infer","_law_names","_law_at","_law_cut"]
def xB(P:Params)(p:Program):Heap:=⟨⟨objsZ P p⟩,{}⟩
theorem absZ(P:Params):absHeap (QL P pw) 688 {}=xB P pw:=by kernel_rfl!
def sz(p:Program)(w:World)(os:OsState):Shared:=⟨xB w.params p,Array.mk [],{},1036,os⟩
def look1L(p:Program)(w:World):OsState->Bool:=λos=>(staticsOk (importedModules p.main.body) (t9 w.params p) (xB w.params p)&&namesBound p (xB w.params p)&&gensDone (sz p w os)&&laidKept (t9 w.params p) (xB w.params p))
def look2L(p:Program)(w:World):=λos=>openSeen (qvP p) loose (importedModules p.main.body) (λ_=>true) true (sz p w os)
def look2R(p:Program)(_:World):=λ(_:OsState)=>openGood (qvP p) loose
def JP(w:World):=λos=>kAs.map (sz pw w os).heap.get?
def JQ(w:World):=λ(os:OsState)=>(Kf w.params).map λp=>some p.2
def sizeL(p:Program)(w:World):=((t9 w.params p).isNs mainGlobals&&(Array.mk ([]:List GenState)).size==0,(t9 w.params p).objs.size,(t9 w.params p).nsMap mainGlobals "__annotations__")
lay_quick Mine.look1L Mine.look2L Mine.look2R Mine.sizeL
theorem JR(w:World):PySem.W.Fast.tw16964701986243613207 pw w=λ_=>true:=by kernel_rfl!
theorem JS(w:World):PySem.W.Fast.tw12730210992960930042 pw w=PySem.W.Fast.tw11975395444102917674 pw w:=by kernel_rfl!
theorem O5(w:World):PySem.W.Fast.tw10514693982987533042 pw w=(true,11,some (.ref 6)):=by kernel_rfl!
theorem JT(w:World):JP w=JQ w:=by kernel_rfl!
def blkL(p:Program)(w:World):OsState->Option (Flow×Shared×Code×Pos):=λos=>segRun treeTable p w 11 (some (.ref 6)) 1 1 (SA p w os).abs (blockOf (bE p) (JO p) (cE p) q0 [topFrame q0])
def blkR(p:Program)(w:World):OsState->Option (Flow×Shared×Code×Pos):=λos=>some (.next,(SA p w os).abs,cE p,q0)
lay_quick Mine.blkL Mine.blkR
theorem XK(w:World):PySem.W.Fast.tw17163393078156831584 pw w=PySem.W.Fast.tw8616536883710013034 pw w:=by kernel_rfl!
theorem XL(w:World):blkL pw w=blkR pw w:=by
 have a:=PySem.W.Fast.te17163393078156831584;have b:=PySem.W.Fast.te8616536883710013034;rw[a,b];exact XK w
theorem JU(w:World):look1L pw w=λ_=>true:=by
 have a:=PySem.W.Fast.te16964701986243613207;rw[a];exact JR w
theorem JV(w:World):look2L pw w=look2R pw w:=by
 have a:=PySem.W.Fast.te12730210992960930042;have b:=PySem.W.Fast.te11975395444102917674;rw[a,b];exact JS w
theorem O6(w:World):sizeL pw w=(true,11,some (.ref 6)):=by
 have a:=PySem.W.Fast.te10514693982987533042;rw[a];exact O5 w
theorem O7(w:World):(fencedOpening treeTable pw w 10452).map (λs=>(s.heap,s.gens,s.drawn,s.toks))=some (t9 w.params pw,Array.mk [],boot_drawn,boot_toks):=by
 rw[<-O4];exact boot_open (by kernel_rfl!) (by kernel_rfl!) (λs=>by kernel_rfl!) w
theorem O8(w:World)(os:OsState):topRun treeTable pw w 11 (some (.ref 6)) (12+(1+(5164+2))) ⟨t9 w.params pw,Array.mk [],boot_drawn,boot_toks,os⟩ (topStub pw)=some ⟨xB w.params pw,Array.mk [],{},1036,os⟩:=by
 have e1:preL pw w os=preR pw w os:=congrFun (XE w) os;have e2:blkL pw w os=blkR pw w os:=congrFun (XL w) os;have e3:runL pw w os=runR pw w os:=congrFun (XI w) os;have e4:finL pw w os=finR pw w os:=congrFun (XG w) os;have e5:(SZ pw w os).abs=⟨xB w.params pw,Array.mk [],{},1036,os⟩:=by
  unfold SZ SharedT.abs;dsimp only;rw[absZ]
 rw[<-e5];refine go_top (s':=(SA pw w os).abs) e1 ?_;refine piece_block (q:=q0) (env:=JO pw) (b:=bE pw) (s':=(SA pw w os).abs) (p':=q0) e2 ?_;have h:topRun treeTable pw w 11 (some (.ref 6)) (5164+2) (SA pw w os).abs (restOf (bE pw++[]) (JO pw) (cE pw) q0 [topFrame q0])=some (SZ pw w os).abs:=
  piece_app (s':=(SZ pw w os).abs) (p':=q1) (segRun_of e3) (piece_nil e4)
 rwa [bW]at h
theorem left:LeftO pw qv loose (λ_=>true) (λs=>kAs.map s.heap.get?) (λw=>(Kf w.params).map λp=>some p.2) 10452:=
 LeftO.of_pieces (H₀:=λP=>t9 P pw) (H₁:=λP=>xB P pw) (gs₀:=Array.mk []) (gs₁:=Array.mk []) (d₀:=boot_drawn) (d₁:={}) (k₀:=boot_toks) (k₁:=1036) (m₀:=11) (ann:=some (.ref 6)) (M:=12+(1+(5164+2)))
  O7 O6 O8 (by decide) (λw=>funext λos=>by
   have a:look1L pw w os=true:=congrFun (JU w) os;have b:look2L pw w os=look2R pw w os:=congrFun (JV w) os;have c:JP w os=JQ w os:=congrFun (JT w) os;exact Prod.ext a (Prod.ext b c))
noncomputable def saidL(l:OpenLaw):Bool:=l.wellSaid
lay_quick Mine.saidL
theorem O9:PySem.W.Fast.tw5906152571034997826 PySem.Challenge.rw_iv0066_01=true:=by kernel_rfl!
theorem XM:PySem.Challenge.rw_iv0066_01.wellSaid=true:=(congrFun PySem.W.Fast.te5906152571034997826 _).trans O9
theorem aY{α:Type}{a:α}{P:Prop}(h:none=some a):P:=by cases h
theorem bX{P:Prop}(h:false=true):P:=by cases h
theorem jA{P:Prop}(h:true=false):P:=by cases h
theorem bT{a b d:Nat}(h:b<=d)(e:Nat.ble a b=true):a<=d:=aR (aX e) h
theorem iA{k j b:Int}(h:k<=b)(e:decide (j<=k)=true):j<=b:=a6 (aM e) h
theorem iB{k j b:Int}(h:k<=b)(e:decide (j<k)=true):j<b:=eN (aM e) h
theorem iC{k j b:Int}(h:k<b)(e:decide (j<=k)=true):j<b:=aJ (aM e) h
theorem iD{k j b:Int}(h:k<b)(e:decide (j<=k+1)=true):j<=b:=a6 (aM e) h
theorem iH{k j b:Int}(h:b<=k)(e:decide (k<=j)=true):b<=j:=a6 h (aM e)
theorem iI{k j b:Int}(h:b<=k)(e:decide (k<j)=true):b<j:=aJ h (aM e)
theorem iJ{k j b:Int}(h:b<k)(e:decide (k<=j)=true):b<j:=eN h (aM e)
theorem iK{k j b:Int}(h:b<k)(e:decide (k<=j+1)=true):b<=j:=nQ (iJ h e)
theorem iG{k j b:Nat}(h:b<=k)(e:Nat.ble k j=true):b<=j:=aR h (aX e)
theorem iM{k j b:Nat}(h:b<=k)(e:Nat.ble (k+1) j=true):b<j:=aP h (aX e)
theorem iN{k j b:Nat}(h:b<k)(e:Nat.ble k j=true):b<j:=aZ h (aX e)
theorem iO{k j b:Nat}(h:b<k)(e:Nat.ble k (j+1)=true):b<=j:=qN (aZ h (aX e))
theorem iP{n:Int}(e:decide (0<n)=true):0<n:=aM e
theorem bS{α β:Type}{o:Option α}{x:α}{K:α->Option β}(h:o=some x):o.bind K=K x:=h▸rfl
theorem cT{α:Type}{b:Bool}{x y:α}(h:b=true):(bif b then x else y)=x:=h▸rfl
theorem cF{α:Type}{b:Bool}{x y:α}(h:b=false):(bif b then x else y)=y:=h▸rfl
theorem nL{x:Int}{n:Nat}(h0:0<=x)(h:x<(n:Int)):x.natAbs<n:=by omega
theorem nTri(a b:Int):b.natAbs<=(a+b).natAbs+a.natAbs:=by have:=Int.natAbs_sub_le (a+b) a;rwa [show a+b-a=b by omega]at this
theorem x61{l s x:Int}(hl:l<2^60)(hs:s<2^60)(hx:x<=l+s):x<2^61:=aJ hx (eN (Int.add_lt_add hl hs) (by decide))
@[elab_as_elim] theorem l8 {α β:Type} {a c:α} {b d:β} {Q:α->β->Prop} (h:(a,b)=(c,d)) (k:Q a b):Q c d:=by
 obtain⟨rfl,rfl⟩:=Prod.mk.inj h;exact k
@[elab_as_elim] theorem e9 {α:Type} {a c:α} {Q:α->Prop} (h:some a=some c) (k:Q a):Q c:=by
 obtain rfl:=aC h;exact k
@[elab_as_elim] theorem kX {α β:Type} {a c:α} {b d:β} {Q:α->β->Prop} (h:some (a,b)=some (c,d)) (k:Q a b):Q c d:=by
 obtain⟨rfl,rfl⟩:=Prod.mk.inj (aC h);exact k
@[elab_as_elim] theorem FC {α β γ:Type} {a x:α} {b y:β} {c z:γ} {Q:α->β->γ->Prop} (h:(a,b,c)=(x,y,z)) (k:Q a b c):Q x y z:=by
 obtain⟨rfl,h2⟩:=Prod.mk.inj h;obtain⟨rfl,rfl⟩:=Prod.mk.inj h2;exact k
@[elab_as_elim] theorem Eo {α β γ:Type} {a x:α} {b y:β} {c z:γ} {Q:α->β->γ->Prop} (h:some (a,b,c)=some (x,y,z)) (k:Q a b c):Q x y z:=FC (aC h) k
theorem oA{p1:Prop}{p2:Prop}{Q:Prop}(h:p1/\p2)(k:p1->p2->Q):Q:=k h.1 h.2
theorem A6{p1:Prop}{p2:Prop}{p3:Prop}{Q:Prop}(h:p1/\p2/\p3)(k:p1->p2->p3->Q):Q:=k h.1 h.2.1 h.2.2
theorem u7{p1:Prop}{p2:Prop}{p3:Prop}{p4:Prop}{Q:Prop}(h:p1/\p2/\p3/\p4)(k:p1->p2->p3->p4->Q):Q:=k h.1 h.2.1 h.2.2.1 h.2.2.2
theorem CM{p1:Prop}{p2:Prop}{p3:Prop}{p4:Prop}{p5:Prop}{Q:Prop}(h:p1/\p2/\p3/\p4/\p5)(k:p1->p2->p3->p4->p5->Q):Q:=k h.1 h.2.1 h.2.2.1 h.2.2.2.1 h.2.2.2.2
theorem XN{p1:Prop}{p2:Prop}{p3:Prop}{p4:Prop}{p5:Prop}{p6:Prop}{Q:Prop}(h:p1/\p2/\p3/\p4/\p5/\p6)(k:p1->p2->p3->p4->p5->p6->Q):Q:=k h.1 h.2.1 h.2.2.1 h.2.2.2.1 h.2.2.2.2.1 h.2.2.2.2.2
theorem XO{α β:Sort _}{p1:Prop}{p2:Prop}{p3:α->β->Prop}{p4:α->β->Prop}{Q:Prop}(h:p1/\p2/\∃a,∃b,p3 a b/\p4 a b)(k:p1->p2->∀a,∀b,p3 a b->p4 a b->Q):Q:=h.2.2.elim λa h1=>h1.elim λb h2=>k h.1 h.2.1 a b h2.1 h2.2
theorem B3{α β:Sort _}{p1:Prop}{p2:Prop}{p3:α->β->Prop}{p4:α->β->Prop}{p5:α->β->Prop}{Q:Prop}(h:p1/\p2/\∃a,∃b,p3 a b/\p4 a b/\p5 a b)(k:p1->p2->∀a,∀b,p3 a b->p4 a b->p5 a b->Q):Q:=h.2.2.elim λa h1=>h1.elim λb h2=>k h.1 h.2.1 a b h2.1 h2.2.1 h2.2.2
theorem B4{α:Sort _}{p1:Prop}{p2:α->Prop}{p3:α->Prop}{Q:Prop}(h:p1/\∃a,p2 a/\p3 a)(k:p1->∀a,p2 a->p3 a->Q):Q:=h.2.elim λa h1=>k h.1 a h1.1 h1.2
theorem QM{α:Sort _}{p1:Prop}{p2:α->Prop}{p3:α->Prop}{p4:α->Prop}{Q:Prop}(h:p1/\∃a,p2 a/\p3 a/\p4 a)(k:p1->∀a,p2 a->p3 a->p4 a->Q):Q:=h.2.elim λa h1=>k h.1 a h1.1 h1.2.1 h1.2.2
theorem yL{α β:Sort _}{p1:Prop}{p2:α->β->Prop}{p3:α->β->Prop}{Q:Prop}(h:p1/\∃a,∃b,p2 a b/\p3 a b)(k:p1->∀a,∀b,p2 a b->p3 a b->Q):Q:=h.2.elim λa h1=>h1.elim λb h2=>k h.1 a b h2.1 h2.2
theorem JW{α β:Sort _}{p1:Prop}{p2:α->β->Prop}{p3:α->β->Prop}{p4:α->β->Prop}{Q:Prop}(h:p1/\∃a,∃b,p2 a b/\p3 a b/\p4 a b)(k:p1->∀a,∀b,p2 a b->p3 a b->p4 a b->Q):Q:=h.2.elim λa h1=>h1.elim λb h2=>k h.1 a b h2.1 h2.2.1 h2.2.2
theorem i8{α:Sort _}{p1:α->Prop}{p2:α->Prop}{Q:Prop}(h:∃a,p1 a/\p2 a)(k:∀a,p1 a->p2 a->Q):Q:=h.elim λa h1=>k a h1.1 h1.2
theorem l6{α:Sort _}{p1:α->Prop}{p2:α->Prop}{p3:α->Prop}{Q:Prop}(h:∃a,p1 a/\p2 a/\p3 a)(k:∀a,p1 a->p2 a->p3 a->Q):Q:=h.elim λa h1=>k a h1.1 h1.2.1 h1.2.2
theorem n8{α:Sort _}{p1:α->Prop}{p2:α->Prop}{p3:α->Prop}{p4:α->Prop}{Q:Prop}(h:∃a,p1 a/\p2 a/\p3 a/\p4 a)(k:∀a,p1 a->p2 a->p3 a->p4 a->Q):Q:=h.elim λa h1=>k a h1.1 h1.2.1 h1.2.2.1 h1.2.2.2
theorem Ep{α:Sort _}{p1:α->Prop}{p2:α->Prop}{p3:α->Prop}{p4:α->Prop}{p5:α->Prop}{Q:Prop}(h:∃a,p1 a/\p2 a/\p3 a/\p4 a/\p5 a)(k:∀a,p1 a->p2 a->p3 a->p4 a->p5 a->Q):Q:=h.elim λa h1=>k a h1.1 h1.2.1 h1.2.2.1 h1.2.2.2.1 h1.2.2.2.2
theorem JX{α:Sort _}{p1:α->Prop}{p2:α->Prop}{p3:α->Prop}{p4:α->Prop}{p5:α->Prop}{p6:α->Prop}{p7:α->Prop}{Q:Prop}(h:∃a,p1 a/\p2 a/\p3 a/\p4 a/\p5 a/\p6 a/\p7 a)(k:∀a,p1 a->p2 a->p3 a->p4 a->p5 a->p6 a->p7 a->Q):Q:=h.elim λa h1=>k a h1.1 h1.2.1 h1.2.2.1 h1.2.2.2.1 h1.2.2.2.2.1 h1.2.2.2.2.2.1 h1.2.2.2.2.2.2
theorem oEAAE{α β:Sort _}{p1:α->Prop}{p2:α->Prop}{p3:α->β->Prop}{Q:Prop}(h:∃a,p1 a/\p2 a/\∃b,p3 a b)(k:∀a,p1 a->p2 a->∀b,p3 a b->Q):Q:=h.elim λa h1=>h1.2.2.elim λb h2=>k a h1.1 h1.2.1 b h2
theorem nJ{α β γ:Sort _}{p1:α->Prop}{p2:α->Prop}{p3:α->β->γ->Prop}{p4:α->β->γ->Prop}{Q:Prop}(h:∃a,p1 a/\p2 a/\∃b,∃c,p3 a b c/\p4 a b c)(k:∀a,p1 a->p2 a->∀b,∀c,p3 a b c->p4 a b c->Q):Q:=h.elim λa h1=>h1.2.2.elim λb h2=>h2.elim λc h3=>k a h1.1 h1.2.1 b c h3.1 h3.2
theorem rS{α β γ:Sort _}{p1:α->Prop}{p2:α->β->γ->Prop}{p3:α->β->γ->Prop}{Q:Prop}(h:∃a,p1 a/\∃b,∃c,p2 a b c/\p3 a b c)(k:∀a,p1 a->∀b,∀c,p2 a b c->p3 a b c->Q):Q:=h.elim λa h1=>h1.2.elim λb h2=>h2.elim λc h3=>k a h1.1 b c h3.1 h3.2
theorem Oo{α β:Sort _}{p1:α->β->Prop}{Q:Prop}(h:∃a,∃b,p1 a b)(k:∀a,∀b,p1 a b->Q):Q:=h.elim λa h1=>h1.elim λb h2=>k a b h2
theorem kY{α β:Sort _}{p1:α->β->Prop}{p2:α->β->Prop}{Q:Prop}(h:∃a,∃b,p1 a b/\p2 a b)(k:∀a,∀b,p1 a b->p2 a b->Q):Q:=h.elim λa h1=>h1.elim λb h2=>k a b h2.1 h2.2
theorem fM{α β:Sort _}{p1:α->β->Prop}{p2:α->β->Prop}{p3:α->β->Prop}{Q:Prop}(h:∃a,∃b,p1 a b/\p2 a b/\p3 a b)(k:∀a,∀b,p1 a b->p2 a b->p3 a b->Q):Q:=h.elim λa h1=>h1.elim λb h2=>k a b h2.1 h2.2.1 h2.2.2
theorem uI{α β:Sort _}{p1:α->β->Prop}{p2:α->β->Prop}{p3:α->β->Prop}{p4:α->β->Prop}{Q:Prop}(h:∃a,∃b,p1 a b/\p2 a b/\p3 a b/\p4 a b)(k:∀a,∀b,p1 a b->p2 a b->p3 a b->p4 a b->Q):Q:=h.elim λa h1=>h1.elim λb h2=>k a b h2.1 h2.2.1 h2.2.2.1 h2.2.2.2
theorem tM{α β:Sort _}{p1:α->β->Prop}{p2:α->β->Prop}{p3:α->β->Prop}{p4:α->β->Prop}{p5:α->β->Prop}{Q:Prop}(h:∃a,∃b,p1 a b/\p2 a b/\p3 a b/\p4 a b/\p5 a b)(k:∀a,∀b,p1 a b->p2 a b->p3 a b->p4 a b->p5 a b->Q):Q:=h.elim λa h1=>h1.elim λb h2=>k a b h2.1 h2.2.1 h2.2.2.1 h2.2.2.2.1 h2.2.2.2.2
theorem JY{α β:Sort _}{p1:α->β->Prop}{p2:α->β->Prop}{p3:α->β->Prop}{p4:α->β->Prop}{p5:α->β->Prop}{p6:α->β->Prop}{Q:Prop}(h:∃a,∃b,p1 a b/\p2 a b/\p3 a b/\p4 a b/\p5 a b/\p6 a b)(k:∀a,∀b,p1 a b->p2 a b->p3 a b->p4 a b->p5 a b->p6 a b->Q):Q:=h.elim λa h1=>h1.elim λb h2=>k a b h2.1 h2.2.1 h2.2.2.1 h2.2.2.2.1 h2.2.2.2.2.1 h2.2.2.2.2.2
theorem pD{α β:Sort _}{p1:α->β->Prop}{p2:α->β->Prop}{p3:α->β->Prop}{p4:α->β->Prop}{p5:α->β->Prop}{p6:α->β->Prop}{p7:α->β->Prop}{p8:α->β->Prop}{Q:Prop}(h:∃a,∃b,p1 a b/\p2 a b/\p3 a b/\p4 a b/\p5 a b/\p6 a b/\p7 a b/\p8 a b)(k:∀a,∀b,p1 a b->p2 a b->p3 a b->p4 a b->p5 a b->p6 a b->p7 a b->p8 a b->Q):Q:=h.elim λa h1=>h1.elim λb h2=>k a b h2.1 h2.2.1 h2.2.2.1 h2.2.2.2.1 h2.2.2.2.2.1 h2.2.2.2.2.2.1 h2.2.2.2.2.2.2.1 h2.2.2.2.2.2.2.2
theorem xC{α β:Sort _}{p1:α->β->Prop}{p2:α->β->Prop}{p3:α->β->Prop}{p4:α->β->Prop}{p5:α->β->Prop}{p6:α->β->Prop}{p7:α->β->Prop}{p8:α->β->Prop}{p9:α->β->Prop}{Q:Prop}(h:∃a,∃b,p1 a b/\p2 a b/\p3 a b/\p4 a b/\p5 a b/\p6 a b/\p7 a b/\p8 a b/\p9 a b)(k:∀a,∀b,p1 a b->p2 a b->p3 a b->p4 a b->p5 a b->p6 a b->p7 a b->p8 a b->p9 a b->Q):Q:=h.elim λa h1=>h1.elim λb h2=>k a b h2.1 h2.2.1 h2.2.2.1 h2.2.2.2.1 h2.2.2.2.2.1 h2.2.2.2.2.2.1 h2.2.2.2.2.2.2.1 h2.2.2.2.2.2.2.2.1 h2.2.2.2.2.2.2.2.2
theorem oEEE{α β γ:Sort _}{p1:α->β->γ->Prop}{Q:Prop}(h:∃a,∃b,∃c,p1 a b c)(k:∀a,∀b,∀c,p1 a b c->Q):Q:=h.elim λa h1=>h1.elim λb h2=>h2.elim λc h3=>k a b c h3
theorem QN{α β γ:Sort _}{p1:α->β->γ->Prop}{p2:α->β->γ->Prop}{Q:Prop}(h:∃a,∃b,∃c,p1 a b c/\p2 a b c)(k:∀a,∀b,∀c,p1 a b c->p2 a b c->Q):Q:=h.elim λa h1=>h1.elim λb h2=>h2.elim λc h3=>k a b c h3.1 h3.2
theorem FD{α β γ:Sort _}{p1:α->β->γ->Prop}{p2:α->β->γ->Prop}{p3:α->β->γ->Prop}{p4:α->β->γ->Prop}{Q:Prop}(h:∃a,∃b,∃c,p1 a b c/\p2 a b c/\p3 a b c/\p4 a b c)(k:∀a,∀b,∀c,p1 a b c->p2 a b c->p3 a b c->p4 a b c->Q):Q:=h.elim λa h1=>h1.elim λb h2=>h2.elim λc h3=>k a b c h3.1 h3.2.1 h3.2.2.1 h3.2.2.2
theorem JZ{α β γ:Sort _}{p1:α->β->γ->Prop}{p2:α->β->γ->Prop}{p3:α->β->γ->Prop}{p4:α->β->γ->Prop}{p5:α->β->γ->Prop}{Q:Prop}(h:∃a,∃b,∃c,p1 a b c/\p2 a b c/\p3 a b c/\p4 a b c/\p5 a b c)(k:∀a,∀b,∀c,p1 a b c->p2 a b c->p3 a b c->p4 a b c->p5 a b c->Q):Q:=h.elim λa h1=>h1.elim λb h2=>h2.elim λc h3=>k a b c h3.1 h3.2.1 h3.2.2.1 h3.2.2.2.1 h3.2.2.2.2
theorem tN{α β γ:Sort _}{p1:α->β->γ->Prop}{p2:α->β->γ->Prop}{p3:α->β->γ->Prop}{p4:α->β->γ->Prop}{p5:α->β->γ->Prop}{p6:α->β->γ->Prop}{Q:Prop}(h:∃a,∃b,∃c,p1 a b c/\p2 a b c/\p3 a b c/\p4 a b c/\p5 a b c/\p6 a b c)(k:∀a,∀b,∀c,p1 a b c->p2 a b c->p3 a b c->p4 a b c->p5 a b c->p6 a b c->Q):Q:=h.elim λa h1=>h1.elim λb h2=>h2.elim λc h3=>k a b c h3.1 h3.2.1 h3.2.2.1 h3.2.2.2.1 h3.2.2.2.2.1 h3.2.2.2.2.2
theorem CO{α β γ:Sort _}{p1:α->β->γ->Prop}{p2:α->β->γ->Prop}{p3:α->β->γ->Prop}{p4:α->β->γ->Prop}{p5:α->β->γ->Prop}{p6:α->β->γ->Prop}{p7:α->β->γ->Prop}{p8:α->β->γ->Prop}{Q:Prop}(h:∃a,∃b,∃c,p1 a b c/\p2 a b c/\p3 a b c/\p4 a b c/\p5 a b c/\p6 a b c/\p7 a b c/\p8 a b c)(k:∀a,∀b,∀c,p1 a b c->p2 a b c->p3 a b c->p4 a b c->p5 a b c->p6 a b c->p7 a b c->p8 a b c->Q):Q:=h.elim λa h1=>h1.elim λb h2=>h2.elim λc h3=>k a b c h3.1 h3.2.1 h3.2.2.1 h3.2.2.2.1 h3.2.2.2.2.1 h3.2.2.2.2.2.1 h3.2.2.2.2.2.2.1 h3.2.2.2.2.2.2.2
theorem AJ{α β γ δ:Sort _}{p1:α->β->γ->δ->Prop}{Q:Prop}(h:∃a,∃b,∃c,∃d,p1 a b c d)(k:∀a,∀b,∀c,∀d,p1 a b c d->Q):Q:=h.elim λa h1=>h1.elim λb h2=>h2.elim λc h3=>h3.elim λd h4=>k a b c d h4
theorem XQ{α β γ δ:Sort _}{p1:α->β->γ->δ->Prop}{p2:α->β->γ->δ->Prop}{Q:Prop}(h:∃a,∃b,∃c,∃d,p1 a b c d/\p2 a b c d)(k:∀a,∀b,∀c,∀d,p1 a b c d->p2 a b c d->Q):Q:=h.elim λa h1=>h1.elim λb h2=>h2.elim λc h3=>h3.elim λd h4=>k a b c d h4.1 h4.2
theorem Er{α β γ δ:Sort _}{p1:α->β->γ->δ->Prop}{p2:α->β->γ->δ->Prop}{p3:α->β->γ->δ->Prop}{p4:α->β->γ->δ->Prop}{p5:α->β->γ->δ->Prop}{p6:α->β->γ->δ->Prop}{Q:Prop}(h:∃a,∃b,∃c,∃d,p1 a b c d/\p2 a b c d/\p3 a b c d/\p4 a b c d/\p5 a b c d/\p6 a b c d)(k:∀a,∀b,∀c,∀d,p1 a b c d->p2 a b c d->p3 a b c d->p4 a b c d->p5 a b c d->p6 a b c d->Q):Q:=h.elim λa h1=>h1.elim λb h2=>h2.elim λc h3=>h3.elim λd h4=>k a b c d h4.1 h4.2.1 h4.2.2.1 h4.2.2.2.1 h4.2.2.2.2.1 h4.2.2.2.2.2
theorem B5{α β γ δ:Sort _}{p1:α->β->γ->δ->Prop}{p2:α->β->γ->δ->Prop}{p3:α->β->γ->δ->Prop}{p4:α->β->γ->δ->Prop}{p5:α->β->γ->δ->Prop}{p6:α->β->γ->δ->Prop}{p7:α->β->γ->δ->Prop}{p8:α->β->γ->δ->Prop}{Q:Prop}(h:∃a,∃b,∃c,∃d,p1 a b c d/\p2 a b c d/\p3 a b c d/\p4 a b c d/\p5 a b c d/\p6 a b c d/\p7 a b c d/\p8 a b c d)(k:∀a,∀b,∀c,∀d,p1 a b c d->p2 a b c d->p3 a b c d->p4 a b c d->p5 a b c d->p6 a b c d->p7 a b c d->p8 a b c d->Q):Q:=h.elim λa h1=>h1.elim λb h2=>h2.elim λc h3=>h3.elim λd h4=>k a b c d h4.1 h4.2.1 h4.2.2.1 h4.2.2.2.1 h4.2.2.2.2.1 h4.2.2.2.2.2.1 h4.2.2.2.2.2.2.1 h4.2.2.2.2.2.2.2
theorem Io{α β γ δ ε:Sort _}{p1:α->β->γ->δ->ε->Prop}{p2:α->β->γ->δ->ε->Prop}{p3:α->β->γ->δ->ε->Prop}{p4:α->β->γ->δ->ε->Prop}{Q:Prop}(h:∃a,∃b,∃c,∃d,∃e,p1 a b c d e/\p2 a b c d e/\p3 a b c d e/\p4 a b c d e)(k:∀a,∀b,∀c,∀d,∀e,p1 a b c d e->p2 a b c d e->p3 a b c d e->p4 a b c d e->Q):Q:=h.elim λa h1=>h1.elim λb h2=>h2.elim λc h3=>h3.elim λd h4=>h4.elim λe h5=>k a b c d e h5.1 h5.2.1 h5.2.2.1 h5.2.2.2
theorem B6{α β γ δ ε ζ:Sort _}{p1:α->β->γ->δ->ε->ζ->Prop}{Q:Prop}(h:∃a,∃b,∃c,∃d,∃e,∃f,p1 a b c d e f)(k:∀a,∀b,∀c,∀d,∀e,∀f,p1 a b c d e f->Q):Q:=h.elim λa h1=>h1.elim λb h2=>h2.elim λc h3=>h3.elim λd h4=>h4.elim λe h5=>h5.elim λf h6=>k a b c d e f h6
theorem yM{α β γ δ ε ζ:Sort _}{p1:α->β->γ->δ->ε->ζ->Prop}{p2:α->β->γ->δ->ε->ζ->Prop}{Q:Prop}(h:∃a,∃b,∃c,∃d,∃e,∃f,p1 a b c d e f/\p2 a b c d e f)(k:∀a,∀b,∀c,∀d,∀e,∀f,p1 a b c d e f->p2 a b c d e f->Q):Q:=h.elim λa h1=>h1.elim λb h2=>h2.elim λc h3=>h3.elim λd h4=>h4.elim λe h5=>h5.elim λf h6=>k a b c d e f h6.1 h6.2
theorem u8{α β γ δ ε ζ:Sort _}{p1:α->β->γ->δ->ε->ζ->Prop}{p2:α->β->γ->δ->ε->ζ->Prop}{p3:α->β->γ->δ->ε->ζ->Prop}{p4:α->β->γ->δ->ε->ζ->Prop}{p5:α->β->γ->δ->ε->ζ->Prop}{p6:α->β->γ->δ->ε->ζ->Prop}{p7:α->β->γ->δ->ε->ζ->Prop}{p8:α->β->γ->δ->ε->ζ->Prop}{p9:α->β->γ->δ->ε->ζ->Prop}{p10:α->β->γ->δ->ε->ζ->Prop}{p11:α->β->γ->δ->ε->ζ->Prop}{Q:Prop}(h:∃a,∃b,∃c,∃d,∃e,∃f,p1 a b c d e f/\p2 a b c d e f/\p3 a b c d e f/\p4 a b c d e f/\p5 a b c d e f/\p6 a b c d e f/\p7 a b c d e f/\p8 a b c d e f/\p9 a b c d e f/\p10 a b c d e f/\p11 a b c d e f)(k:∀a,∀b,∀c,∀d,∀e,∀f,p1 a b c d e f->p2 a b c d e f->p3 a b c d e f->p4 a b c d e f->p5 a b c d e f->p6 a b c d e f->p7 a b c d e f->p8 a b c d e f->p9 a b c d e f->p10 a b c d e f->p11 a b c d e f->Q):Q:=h.elim λa h1=>h1.elim λb h2=>h2.elim λc h3=>h3.elim λd h4=>h4.elim λe h5=>h5.elim λf h6=>k a b c d e f h6.1 h6.2.1 h6.2.2.1 h6.2.2.2.1 h6.2.2.2.2.1 h6.2.2.2.2.2.1 h6.2.2.2.2.2.2.1 h6.2.2.2.2.2.2.2.1 h6.2.2.2.2.2.2.2.2.1 h6.2.2.2.2.2.2.2.2.2.1 h6.2.2.2.2.2.2.2.2.2.2
theorem Ip{α β γ δ ε ζ η:Sort _}{p1:α->β->γ->δ->ε->ζ->η->Prop}{p2:α->β->γ->δ->ε->ζ->η->Prop}{Q:Prop}(h:∃a,∃b,∃c,∃d,∃e,∃f,∃g,p1 a b c d e f g/\p2 a b c d e f g)(k:∀a,∀b,∀c,∀d,∀e,∀f,∀g,p1 a b c d e f g->p2 a b c d e f g->Q):Q:=h.elim λa h1=>h1.elim λb h2=>h2.elim λc h3=>h3.elim λd h4=>h4.elim λe h5=>h5.elim λf h6=>h6.elim λg h7=>k a b c d e f g h7.1 h7.2
theorem wE{α β γ δ ε ζ η θ:Sort _}{p1:α->β->γ->δ->ε->ζ->η->θ->Prop}{Q:Prop}(h:∃a,∃b,∃c,∃d,∃e,∃f,∃g,∃h,p1 a b c d e f g h)(k:∀a,∀b,∀c,∀d,∀e,∀f,∀g,∀h,p1 a b c d e f g h->Q):Q:=h.elim λa h1=>h1.elim λb h2=>h2.elim λc h3=>h3.elim λd h4=>h4.elim λe h5=>h5.elim λf h6=>h6.elim λg h7=>h7.elim λh h8=>k a b c d e f g h h8
@[elab_as_elim] theorem Ka {α:Type} {Q:List α->Prop} (nil:Q []) (one:∀a,Q [a]) (two:∀a b r,Q (a::b::r)) (l:List α):Q l:=List.rec nil (λa r _=>List.rec (motive:=λr=>Q (a::r)) (one a) (λb r _=>two a b r) r) l
theorem nat5{Q:Nat->Prop}(h0:Q 0)(h1:Q 1)(h2:Q 2)(h3:Q 3)(h4:Q 4){k:Nat}(h:k<5):Q k:=by
 by_cases e:k=0
 ·rw[e];exact h0
 ·by_cases e:k=1
  ·rw[e];exact h1
  ·by_cases e:k=2
   ·rw[e];exact h2
   ·by_cases e:k=3
    ·rw[e];exact h3
    ·rw[show k=4 by omega];exact h4
theorem zEAN{a b c:Int}(h:a+c=b):a=b+ -c:=by rw[<-h,Int.add_neg_cancel_right]
theorem Kb{x0 x1 x2:Nat}(h0:x0<x1*2)(h1:x2%x0<x0)(h2:x0%(x2%x0)<x2%x0)(h3:x0%(x2%x0)<=x0-x2%x0):x0%(x2%x0)<x1:=Nat.lt_of_mul_lt_mul_right (bA (by rw[Nat.mul_two];exact lQ (Nat.add_lt_add_of_lt_of_le h2 h3) (Nat.add_sub_cancel' (bD h1))) h0)
theorem CR{x0 x1:Int}(h0:x0<=x1)(h1:¬x0=x1):x0<x1:=by lia
theorem Kc{x0 x1 x2 x3 x4 x5:Nat}(h0:x0+x1+x2<=x3)(h1:x4=x1):x0+x4+(x5+x2)<=x5+x3:=by rw[h1,Nat.add_left_comm];exact lB h0 _
theorem Kd{x0 x1 x2 x3 x4 x5 x6:Int}(h0:x0=x1*x2+x3)(h1:x4=x5%x1)(h2:x5%x1+x1*(x5/x1)=x5)(h3:0<=x1*(x5/x1))(h4:0<=x1*x2)(h5:x0+x5<x6):x3+x4<x6:=aJ (Int.add_le_add (a6 (Int.le_add_of_nonneg_left h4) (dL h0.symm)) (a6 (dL h1) (a6 (j9 h3) (dL h2)))) h5
theorem Ke{x0 x1 x2 x3:Int}(h0:x0=x1/x2)(h1:0<=x1/x2)(h2:0<=x3):0<=x0+x3:=pP (a6 h1 (dL h0.symm)) h2
theorem Kg{x0 x1 x2 x3 x4 x5 x6:Int}(h0:0<=x0/\x0<=x1)(h1:x1+x2<x3)(h2:x4=x5)(h3:x4=x6)(h4:0<=x6/\x6<=x0+x2):x4<x3:=aJ (a6 (dL h3) (a6 h4.2 (Int.add_le_add_right h0.2 _))) h1
theorem u9{x0 x1:Int}(h0:x0=x1):0+x0=x1:=by lia
theorem Kh{x0 x1 x2 x3 x4:Int}(h0:x0=x1)(h1:x2+x3<x4)(h2:0<=x1/\x1<=x2+x3):x0+0+0<x4:=by rw[dK,dK,h0];exact aJ h2.2 h1
theorem CS{x0 x1:Int}(h0:x0=x1):x0+0+0=x1:=by lia
theorem Ki{x0 x1 x2 x3 x4:Int}(h0:x0+0=x1)(h1:0<=x2/\x2<x1/\x1<x3)(h2:0<=x4/\x4<=x1):x4+0+0<x3:=by rw[dK,dK];exact aJ h2.2 h1.2.2
theorem CT{x0:Int} :x0+0+0=x0:=by lia
theorem CU{x0 x1 x2:Int}(h0:2<=x0)(h1:x1∣x0)(h2:x1*x2=x0)(h3:x1*x2<=0):1<=x2:=absurd (a6 h0 (h2▸h3)) (by decide)
theorem Kj{x0 x1 x2 x3 x4:Nat}(h0:1<=x0)(h1:x1<=x2+1)(h2:x3+x0<=x1)(h3:x4<=x3):x4<=x2:=aR h3 (Nat.le_of_succ_le_succ (aR (lB h0 _) (aR h2 h1)))
theorem CV{x0:Nat}(h0:1<(↑x0:Int)):2<=(↑x0:Int):=by lia
theorem CW{x0 x1:Int}{x2:Nat}(h0:x0<x1)(h1:(↑x2:Int)<=x0):(↑x2:Int)<x1:=aJ h1 h0
theorem Kk{x0 x1 x2:Nat}(h0:x0<=x1)(h1:44+2*x1<=x2):43<=x2:=aR (aR (by decide) (eT _ _)) h1
theorem Kl{x0:Int}{x1:Nat}{x2:Int}(h0:1<=x0)(h1:¬x0=1)(h2:(↑x1:Int)∣x0)(h3:(↑x1:Int)*x2=x0)(h4:(↑x1:Int)*x2<=0):1<=x2:=absurd (a6 h0 (h3▸h4)) (by decide)
theorem Km{x0 x1:Int}(h0:x0.natAbs<2^900/\0<=x0/\x0<x1)(h1:x1<=x0):x0=0:=absurd h0.2.2 (jK.mpr h1)
theorem Kn{x0:Nat}{x1 x2:Int}(h0:(↑x0:Int)∣x1)(h1:1<=x2)(h2:¬x2=1):2<=x2:=nR.mpr ⟨h1,λe=>h2 e.symm⟩
theorem Ko{x0:Nat}{x1 x2 x3 x4:Int}(h0:(↑x0:Int)∣x1)(h1:(↑x0:Int)∣x2)(h2:(↑x0:Int)*x3=x1)(h3:x2.natAbs<2^900/\0<=x2/\x2<x1)(h4:(↑x0:Int)*x4=x2)(h5:(↑x0:Int)*x3<=(↑x0:Int)*x4):x4<x3:=absurd h3.2.2 (jK.mpr (h2▸h4▸h5))
theorem Kp{x0 x1:Nat}(h0:x0=x1)(h1:1<(↑x1:Int)):0<x1:=bA Nat.zero_lt_one (oW.mp h1)
theorem CX{x0 x1:Int}{x2:Nat}{x3:Int}(h0:x0<x1)(h1:(↑x2:Int)<=x0)(h2:(↑x2:Int)*x3=x0):(↑x2:Int)<x1:=aJ h1 h0
theorem Kq{x0 x1 x2:Nat}(h0:x0<=x1)(h1:44+2*x1<=x2):41<=x2:=aR (aR (by decide) (eT _ _)) h1
theorem Kr{x0:Int}{x1:Nat}{x2:Int}(h0:2<=x0)(h1:(↑x1:Int)∣x0)(h2:(↑x1:Int)*x2=x0)(h3:(↑x1:Int)*x2<=0):1<=x2:=absurd (a6 h0 (h2▸h3)) (by decide)
theorem Ks{x0 x1 x2 x3:Int}(h0:x0+x1=x2+0)(h1:0+x3=x2+0):x3=x2:=by rw[cY,dK]at h1;exact h1
theorem CY{x0:Int} :0+x0=x0:=by lia
theorem Kt{x0 x1:Nat}(h0:x0<=x1/\x1<=x0+1)(h1:x0<=8):x1<=20:=aR h0.2 (aR (Nat.succ_le_succ h1) (by decide))
theorem Ku{x0 x1 x2:Int}(h0:x0<2^60)(h1:x1<2^60)(h2:0<=x2/\x2<=x0+x1):x2<2^62:=aJ h2.2 (cX (Int.add_lt_add h0 h1) (by decide))
theorem Kv{x0 x1 x2 x3:Int}(h0:x0<2^60)(h1:x1<2^60)(h2:x2<=x0+x1)(h3:0<=x3/\x3<=x2):x3.natAbs<2^63:=nL h3.1 (aJ (a6 h3.2 h2) (cX (Int.add_lt_add h0 h1) (by decide)))
theorem CZ{x0:Nat}{x1 x2 x3:Int}(h0:1<=x0->1<=x1/\0<=x2)(h1:1<=x0)(h2:0<=x3*x1):0<=x3*x1+x2:=pP h2 (h0 h1).2
theorem Kw{x0 x1 x2:Int}(h0:x0<=x1)(h1:x1<=x2)(h2:¬x0=x2):x0<x2:=nR.mpr ⟨a6 h0 h1,h2⟩
theorem Kx{x0 x1 x2:Int}(h0:x0%x1+x1*(x2/x1)=x0)(h1:x2%x1+x1*(x2/x1)=x2)(h2:0<=x2%x1):0<=x2*1+(0+ -(x1*(x2/x1))):=by rw[dF,cY,<-zEAN h1];exact h2
theorem Ky{x0 x1 x2 x3:Int}(h0:x0=x1%x2)(h1:x1%x2+x2*(x3/x2)=x1):x0=x1*1+(0+ -(x2*(x3/x2))):=by rw[h0,dF,cY];exact zEAN h1
theorem Kz{x0 x1:Int}(h0:¬x0=x1)(h1:x0<=x1):x0<x1:=nR.mpr ⟨h1,h0⟩
theorem Da{x0:Int} :0<=(↑x0.natAbs:Int):=by lia
theorem Db{x0:Int}(h0:x0.natAbs<2^60):(↑x0.natAbs:Int)<2^60:=eN (oW.mpr h0) (by decide)
theorem K3{x0 x1 x2 x3:Int}(h0:0<=x0%((↑x1.natAbs:Int)+1))(h1:x2=x0%((↑x1.natAbs:Int)+1)):(↑x3.natAbs:Int)<=(↑x3.natAbs:Int)+x2:=j9 (a6 h0 (dL h1.symm))
theorem K4{x0 x1 x2 x3:Int}(h0:x0%((↑x1.natAbs:Int)+1)<(↑x1.natAbs:Int)+1)(h1:x2=x0%((↑x1.natAbs:Int)+1)):(↑x3.natAbs:Int)+x2<=(↑x3.natAbs:Int)+(↑x1.natAbs:Int):=Int.add_le_add_left (a6 (dL h1) (nQ h0)) _
theorem K5{x0:Int} :1<=1+(↑(x0+1).natAbs:Int):=by lia
theorem K6{x0:Int}(h0:x0.natAbs<2^60):(↑x0.natAbs:Int)+1<2^62:=aJ (mK.mpr h0) (by decide)
theorem Dc :1<=5:=by lia
theorem K7{x0:Int}{x1:Nat}{x2:Int}(h0:x0≠0)(h1:1<=x1->1<=x0/\(x0≠1->0<=x2)):1*x0≠0:=by lia
theorem K8{x0:Int}{x1:Nat}{x2:Int}(h0:x0.natAbs<2^62)(h1:1<=x1->1<=x0/\(x0≠1->0<=x2))(h2:1<=x1)(h3:x0≠1->0<=x2):x0<=2^62:=a6 (a6 Int.le_natAbs (mK.mpr (bD h0))) (by decide)
theorem K9{x0:Int}(h0:1<=x0):0<=x0:=by lia
theorem Dd{x0:Nat}(h0:¬x0=0):1<=x0:=by lia
theorem KA{x0:Int}(h0:1<=x0):x0≠0:=by lia
theorem q8{x0:Nat}(h0:x0+1<5):x0<5:=by lia
theorem KB{x0:Nat}(h0:x0+1<5):130*(x0+1+1)<=900:=aR (d5 130 h0) (by decide)
theorem KC{x0 x1:Nat}{x2 x3:Int}(h0:x0=x1*2^130)(h1:1<=x1)(h2:x0<=2^900)(h3:(x2*x3).natAbs<=x1*2^126):(x2*x3).natAbs<x1*2^130:=aP h3 (Nat.mul_lt_mul_of_pos_left (by decide) h1)
theorem KD{x0 x1:Nat}(h0:x0<=118+x1)(h1:x0=118+(x1+1)):False:=by lia
theorem KF{x0 x1:Nat}(h0:x0<=118+x1):x0<=118+(x1+1):=mN h0
theorem KG{x0 x1 x2:Nat}(h0:x0<=1)(h1:x1<=x2+1):x1+x0<=x2+1+1:=mM h1 h0
theorem KH{x0 x1:Nat}{x2:Int}(h0:x0=x1*2^130)(h1:1<=x1)(h2:x0<=2^900)(h3:x2.natAbs<2^62):x2.natAbs<x1*2^130:=aZ h3 (aR (by decide) (gR _ h1))
theorem KI{x0 x1:Nat}(h0:x0<5)(h1:x1<=x0+1):x1<=8:=aR h1 (aR h0 (by decide))
theorem KJ{x0:Nat}(h0:x0<5):130*(x0+1)<=900:=by lia
theorem KK{x0:Nat}(h0:x0<=1):x0<=8:=by lia
theorem KL{x0:Int}(h0:1<=x0):0<x0:=by lia
theorem KM{x0:Int}{x1:Nat}{x2:Int}(h0:x0.natAbs<=2^125*x1)(h1:x2.natAbs<=x1)(h2:(x0+x2).natAbs<=x0.natAbs+x2.natAbs):(x0+x2).natAbs<=x1*2^130:=aR h2 (aR (mM h0 h1) (by rw[Nat.mul_comm x1,<-Nat.succ_mul];exact nV _ (by decide)))
theorem De{x0:Nat} :1+x0=x0+1:=by lia
theorem KN{x0:Int} :x0=x0*1+0:=by lia
theorem KO{x0:Int}(h0:1<=x0)(h1:x0<2^126):x0.natAbs<=2^130:=bD (nL (a6 (by decide) h0) (cX h1 (by decide)))
theorem KP{x0 x1 x2:Int}(h0:x0+x1<x2):x0+x1<=x2-1:=Int.le_sub_one_of_lt h0
theorem KQ{x0:Int}(h0:x0.natAbs<2^62):x0<=2^62:=a6 Int.le_natAbs (a6 (mK.mpr (bD h0)) (by decide))
theorem KS{x0 x1:Nat}(h0:x0+1<=x1):1+(x1-(x0+1))<=x1-x0:=by rw[Nat.sub_add_eq];exact f9 (Nat.add_sub_cancel' (Nat.sub_pos_of_lt h0))
theorem KT{x0 x1:Nat}(h0:x0<5)(h1:x1<=x0):130*(x0-x1)<=520:=aR (d5 130 (aR (Nat.sub_le ..) (qN h0))) (by decide)
theorem KU{x0 x1 x2:Nat}(h0:x0<5)(h1:x1<=x0)(h2:x2<=x0-x1):x2<=5:=aR h2 (aR (Nat.sub_le ..) (bD h0))
theorem KV{x0:Int}(h0:1<=x0)(h1:¬x0=1):2<=x0:=by lia
theorem KW{x0 x1:Nat}(h0:x0<5)(h1:x1<=x0):130*(x1+1)+130*(x0-x1)<=900:=by rw[<-Nat.mul_add,pR,Nat.add_sub_cancel' h1];exact aR (d5 130 h0) (by decide)
theorem KX{x0:Int}{x1:Nat}{x2:Int}(h0:1<=x0)(h1:x0.natAbs<=x1)(h2:x2.natAbs<=x1):x1≠0:=λe=>by rw[e]at h1;have:=Int.natAbs_eq_zero.mp (Nat.le_zero.mp h1);rw[this]at h0;exact absurd h0 (by decide)
theorem KY{x0 x1:Nat}{x2 x3:Int}(h0:x0*x1<=2^900)(h1:x2.natAbs*x3.natAbs<x0*x1):x2.natAbs*x3.natAbs<2^900:=aZ h1 h0
theorem KZ{x0 x1:Nat}(h0:x0<5)(h1:x1+1<=x0):130*(x1+1)+126<900:=aP (kC (d5 130 (aR h1 (qN h0))) 126) (by decide)
theorem La{x0 x1:Nat}(h0:x0<5)(h1:x1+1<=x0):x1<5:=aZ h1 (bD h0)
theorem Df{x0 x1:Nat}(h0:x0<5)(h1:x1+1<=x0):x1+1<5:=aP h1 h0
theorem yN{x0:Nat} :1<=x0+1:=by lia
theorem Lb{x0 x1:Int}{x2:Nat}(h0:(x0*x1).natAbs<=x2*2^126)(h1:x2*2^126<2^900):(x0*x1).natAbs<2^900:=aP h0 h1
theorem Lc{x0:Nat}(h0:x0<5):118<=118+x0:=by lia
theorem Ld{x0:Nat}(h0:x0<5):118+x0<=122:=by lia
theorem Le{x0 x1:Nat}(h0:x0<x1)(h1:118+x1=118+x0):False:=i7 _ (lQ h0 (Nat.add_left_cancel h1))
theorem Dg{x0:Nat}(h0:x0+1<=5):x0<5:=h0
theorem Lf{x0 x1:Nat}(h0:x0<=x1):x0+1<=x1+1:=by lia
theorem Lg{x0:Nat}(h0:x0+1<=5):118<=118+x0:=by lia
theorem Lh{x0:Nat}(h0:x0+1<=5):118+x0<=122:=by lia
theorem Li{x0 x1 x2 x3 x4:Int} :x0*x1+x2*x1+(x3+x4)=x0*x1+x3+(x2*x1+x4):=by lia
theorem Lj{x0 x1:Nat}(h0:x0<=5)(h1:x1<x0):130*(x1+1)<=900:=aR (d5 130 (aR h1 h0)) (by decide)
theorem Lk{x0 x1:Int}{x2:Nat}(h0:x0.natAbs<2^129)(h1:x1.natAbs<=x2*2^126)(h2:1<=x2)(h3:(x1+x0).natAbs<=x1.natAbs+x0.natAbs):(x1+x0).natAbs<x2*2^130:=aP h3 (aZ (Nat.add_lt_add_of_le_of_lt h1 (aZ h0 (gR _ h2))) (by rw[<-Nat.mul_add];exact d5 _ (by decide)))
theorem Ll{x0:Nat}(h0:x0+1<5):130*(x0+1)+126<1900:=aP (kC (d5 130 (bD h0)) 126) (by decide)
theorem Lm{x0:Nat}(h0:x0+1<5):130*(x0+1)+126<900:=aP (kC (d5 130 (bD h0)) 126) (by decide)
theorem Ln{x0:Int}(h0:1<=x0)(h1:x0<2^126):x0≠0:=by lia
theorem Dh{x0:Nat}{x1 x2:Int}(h0:1<=x0)(h1:x0*2^126<2^900)(h2:(x1*x2).natAbs<=x0*2^126):(x1*x2).natAbs<2^900:=aP h2 h1
theorem Lo{x0 x1:Nat}(h0:x0+(x1+1)<=5):x0<5:=by lia
theorem Lp{x0 x1:Nat}(h0:x0+(x1+1)<=5):x0+1+x1<=5:=by rw[pR];exact h0
theorem Lq{x0 x1:Nat} :x0+1+x1=x0+(x1+1):=by lia
theorem Lr :0<5:=by lia
theorem Ls{x0:Nat}(h0:x0<5):1+x0<=5:=by lia
theorem Lu{x0:Nat} :x0+1=1+x0:=by lia
theorem Lv{x0 x1 x2:Nat}(h0:x0+1+(x1+1)=x2):x0+1+1+x1=x2:=by rw[<-h0,Nat.add_assoc (x0+1),Nat.add_comm 1]
theorem yO{x0 x1 x2:Nat}(h0:x0+1+(x1+1)=x2):x0+1<x2:=lQ (Nat.lt_add_of_pos_right (Nat.succ_pos _)) h0
theorem yP{x0 x1 x2:Nat}(h0:x0<=5)(h1:x1+1+(x2+1)=x0):x1+1<5:=aZ (lQ (Nat.lt_add_of_pos_right (Nat.succ_pos _)) h1) h0
theorem Lw{x0 x1 x2:Nat}(h0:x0<=5)(h1:x1+1+(x2+1)=x0):x1+1<=100000:=aR (eT _ _) (aR (f9 h1) (aR h0 (by decide)))
theorem Lx{x0 x1:Nat} :x0+(x1+1)=x0+1+x1:=by lia
theorem Ly{x0 x1 x2:Nat}(h0:x0+(x1+1)=x2):(↑(x2+1):Int)-1-(↑x0:Int)=(↑(x1+1):Int):=by subst h0;rw[Int.natCast_succ,Int.add_sub_cancel,Int.natCast_add,kJ,Int.add_sub_cancel]
theorem sO{x0 x1 x2:Nat}(h0:x0+(x1+1)=x2):x1+1<x2+1:=j0 (aR (lL _ _) (f9 h0))
theorem sP{x0 x1 x2:Nat}(h0:x0<5)(h1:x1+(x2+1)=x0):x0+1<=5:=by lia
theorem yQ{x0 x1 x2:Nat}(h0:x0+(x1+1)=x2):x1+1<=x2:=by lia
theorem Lz{x0 x1 x2:Nat}(h0:x0+(x1+1)=x2):x0+1+x1=x2:=by lia
theorem L0{x0:Nat} :0+(x0+1)=x0+1:=by lia
theorem yR{x0:Nat}(h0:x0<5)(h1:1<=x0):x0+1<=5:=by lia
theorem L8{x0:Nat}(h0:x0<=63):min 31 x0<=31:=Nat.min_le_left ..
theorem L9{x0 x1:Int}(h0:0<=x0%4)(h1:x1=x0%4):1+x1=(↑(1+x1).toNat:Int):=(oH (by rw[h1];exact pP (by decide) h0)).symm
theorem yS{x0 x1:Int}{x2:Nat}(h0:0<=x0%4)(h1:x1=x0%4)(h2:1+x1=(↑x2:Int)):x2<5:=oW.mp (by rw[<-h2,h1];exact Int.add_lt_add_left (dW _ (by decide)) 1)
theorem LA{x0 x1:Int}{x2:Nat}(h0:0<=x0%4)(h1:x1=x0%4)(h2:1+x1=(↑x2:Int)): -1000<(↑(x2+1):Int):=eN (by decide) (g5 _)
theorem LB{x0 x1:Int}{x2:Nat}(h0:0<=x0%4)(h1:x1=x0%4)(h2:1+x1=(↑x2:Int)):(↑(x2+1):Int)<1000:=oW.mpr (bA (Nat.succ_lt_succ (yS h0 h1 h2)) (by decide))
theorem yT{x0 x1:Int}{x2:Nat}(h0:0<=x0%4)(h1:x1=x0%4)(h2:1+x1=(↑x2:Int)):x2+1<=5:=yS h0 h1 h2
theorem LC{x0:Nat} :0+1+x0=x0+1:=by lia
theorem Di{x0 x1:Int}{x2:Nat}(h0:0<=x0%4)(h1:x1=x0%4)(h2:1+x1=(↑x2:Int)):0<x2+1:=by lia
theorem LD{x0:Nat} :0+x0=x0:=by lia
theorem LE{x0 x1:Int}{x2:Nat}(h0:0<=x0%4)(h1:x1=x0%4)(h2:1+x1=(↑x2:Int)):1<=x2:=mK.mp (by rw[<-h2,h1];exact j9 h0)
theorem LF{x0 x1:Nat}(h0:x0<=1)(h1:x1<=600):x0+x1<=601:=aR (mM h0 h1) (by decide)
theorem LG{x0 x1 x2 x3:Nat}(h0:x0+2*x1<=1300*x2)(h1:x3<=x0+x1):1+x3+1+2<=1300*(x2+1):=by rw[Nat.mul_succ,Nat.add_comm 1 x3];exact aR (lB (by decide:4<=1300) x3) (kC (aR h1 (aR (lB (gR _ (by decide)) _) h0)) _)
theorem LH{x0:Nat}(h0:x0<=1000):x0<=16777216+1:=aR h0 (by decide)
theorem LI{x0 x1:Nat}(h0:x0+x1<=100):x0<=100:=aR (eT _ _) h0
theorem LJ{x0 x1:Nat}(h0:x0<=4)(h1:x0+1=x1):x1<=1000:=aR (f9 h1.symm) (aR (Nat.succ_le_succ h0) (by decide))
theorem uA{p1:Prop}{p2:Prop}{p3:Prop}(h1:p1)(h2:p2)(h3:p3):p1/\p2/\p3:=⟨h1,h2,h3⟩
theorem B8{p1:Prop}{p2:Prop}{p3:Prop}{p4:Prop}(h1:p1)(h2:p2)(h3:p3)(h4:p4):p1/\p2/\p3/\p4:=⟨h1,h2,h3,h4⟩
theorem LK{p1:Prop}{p2:Prop}{p3:Prop}{p4:Prop}{p5:Prop}(h1:p1)(h2:p2)(h3:p3)(h4:p4)(h5:p5):p1/\p2/\p3/\p4/\p5:=⟨h1,h2,h3,h4,h5⟩
theorem XS{α β:Sort _}{p1:Prop}{p2:Prop}{p3:α->β->Prop}{p4:α->β->Prop}(h1:p1)(h2:p2)(a:α)(b:β)(h3:p3 a b)(h4:p4 a b):p1/\p2/\∃a,∃b,p3 a b/\p4 a b:=⟨h1,h2,a,b,h3,h4⟩
theorem jAE{α:Sort _}{p1:Prop}{p2:α->Prop}(h1:p1)(a:α)(h2:p2 a):p1/\∃a,p2 a:=⟨h1,a,h2⟩
theorem jAEA{α:Sort _}{p1:Prop}{p2:α->Prop}{p3:α->Prop}(h1:p1)(a:α)(h2:p2 a)(h3:p3 a):p1/\∃a,p2 a/\p3 a:=⟨h1,a,h2,h3⟩
theorem jAEAA{α:Sort _}{p1:Prop}{p2:α->Prop}{p3:α->Prop}{p4:α->Prop}(h1:p1)(a:α)(h2:p2 a)(h3:p3 a)(h4:p4 a):p1/\∃a,p2 a/\p3 a/\p4 a:=⟨h1,a,h2,h3,h4⟩
theorem FE{α β:Sort _}{p1:Prop}{p2:α->β->Prop}{p3:α->β->Prop}(h1:p1)(a:α)(b:β)(h2:p2 a b)(h3:p3 a b):p1/\∃a,∃b,p2 a b/\p3 a b:=⟨h1,a,b,h2,h3⟩
theorem XT{α β:Sort _}{p1:Prop}{p2:α->β->Prop}{p3:α->β->Prop}{p4:α->β->Prop}(h1:p1)(a:α)(b:β)(h2:p2 a b)(h3:p3 a b)(h4:p4 a b):p1/\∃a,∃b,p2 a b/\p3 a b/\p4 a b:=⟨h1,a,b,h2,h3,h4⟩
theorem jE{α:Sort _}{p1:α->Prop}(a:α)(h1:p1 a):∃a,p1 a:=⟨a,h1⟩
theorem kF{α:Sort _}{p1:α->Prop}{p2:α->Prop}(a:α)(h1:p1 a)(h2:p2 a):∃a,p1 a/\p2 a:=⟨a,h1,h2⟩
theorem vA{α:Sort _}{p1:α->Prop}{p2:α->Prop}{p3:α->Prop}(a:α)(h1:p1 a)(h2:p2 a)(h3:p3 a):∃a,p1 a/\p2 a/\p3 a:=⟨a,h1,h2,h3⟩
theorem yU{α:Sort _}{p1:α->Prop}{p2:α->Prop}{p3:α->Prop}{p4:α->Prop}(a:α)(h1:p1 a)(h2:p2 a)(h3:p3 a)(h4:p4 a):∃a,p1 a/\p2 a/\p3 a/\p4 a:=⟨a,h1,h2,h3,h4⟩
theorem LL{α:Sort _}{p1:α->Prop}{p2:α->Prop}{p3:α->Prop}{p4:α->Prop}{p5:α->Prop}(a:α)(h1:p1 a)(h2:p2 a)(h3:p3 a)(h4:p4 a)(h5:p5 a):∃a,p1 a/\p2 a/\p3 a/\p4 a/\p5 a:=⟨a,h1,h2,h3,h4,h5⟩
theorem LM{α:Sort _}{p1:α->Prop}{p2:α->Prop}{p3:α->Prop}{p4:α->Prop}{p5:α->Prop}{p6:α->Prop}{p7:α->Prop}(a:α)(h1:p1 a)(h2:p2 a)(h3:p3 a)(h4:p4 a)(h5:p5 a)(h6:p6 a)(h7:p7 a):∃a,p1 a/\p2 a/\p3 a/\p4 a/\p5 a/\p6 a/\p7 a:=⟨a,h1,h2,h3,h4,h5,h6,h7⟩
theorem FF{α β γ:Sort _}{p1:α->Prop}{p2:α->Prop}{p3:α->β->γ->Prop}{p4:α->β->γ->Prop}(a:α)(h1:p1 a)(h2:p2 a)(b:β)(c:γ)(h3:p3 a b c)(h4:p4 a b c):∃a,p1 a/\p2 a/\∃b,∃c,p3 a b c/\p4 a b c:=⟨a,h1,h2,b,c,h3,h4⟩
theorem ZZ{α β:Sort _}{p1:α->β->Prop}(a:α)(b:β)(h1:p1 a b):∃a,∃b,p1 a b:=⟨a,b,h1⟩
theorem xU{α β:Sort _}{p1:α->β->Prop}{p2:α->β->Prop}(a:α)(b:β)(h1:p1 a b)(h2:p2 a b):∃a,∃b,p1 a b/\p2 a b:=⟨a,b,h1,h2⟩
theorem nM{α β:Sort _}{p1:α->β->Prop}{p2:α->β->Prop}{p3:α->β->Prop}(a:α)(b:β)(h1:p1 a b)(h2:p2 a b)(h3:p3 a b):∃a,∃b,p1 a b/\p2 a b/\p3 a b:=⟨a,b,h1,h2,h3⟩
theorem uJ{α β:Sort _}{p1:α->β->Prop}{p2:α->β->Prop}{p3:α->β->Prop}{p4:α->β->Prop}(a:α)(b:β)(h1:p1 a b)(h2:p2 a b)(h3:p3 a b)(h4:p4 a b):∃a,∃b,p1 a b/\p2 a b/\p3 a b/\p4 a b:=⟨a,b,h1,h2,h3,h4⟩
theorem FG{α β:Sort _}{p1:α->β->Prop}{p2:α->β->Prop}{p3:α->β->Prop}{p4:α->β->Prop}{p5:α->β->Prop}(a:α)(b:β)(h1:p1 a b)(h2:p2 a b)(h3:p3 a b)(h4:p4 a b)(h5:p5 a b):∃a,∃b,p1 a b/\p2 a b/\p3 a b/\p4 a b/\p5 a b:=⟨a,b,h1,h2,h3,h4,h5⟩
theorem Dj{α β:Sort _}{p1:α->β->Prop}{p2:α->β->Prop}{p3:α->β->Prop}{p4:α->β->Prop}{p5:α->β->Prop}{p6:α->β->Prop}{p7:α->β->Prop}{p8:α->β->Prop}{p9:α->β->Prop}(a:α)(b:β)(h1:p1 a b)(h2:p2 a b)(h3:p3 a b)(h4:p4 a b)(h5:p5 a b)(h6:p6 a b)(h7:p7 a b)(h8:p8 a b)(h9:p9 a b):∃a,∃b,p1 a b/\p2 a b/\p3 a b/\p4 a b/\p5 a b/\p6 a b/\p7 a b/\p8 a b/\p9 a b:=⟨a,b,h1,h2,h3,h4,h5,h6,h7,h8,h9⟩
theorem jEEE{α β γ:Sort _}{p1:α->β->γ->Prop}(a:α)(b:β)(c:γ)(h1:p1 a b c):∃a,∃b,∃c,p1 a b c:=⟨a,b,c,h1⟩
theorem FH{α β γ:Sort _}{p1:α->β->γ->Prop}{p2:α->β->γ->Prop}{p3:α->β->γ->Prop}{p4:α->β->γ->Prop}(a:α)(b:β)(c:γ)(h1:p1 a b c)(h2:p2 a b c)(h3:p3 a b c)(h4:p4 a b c):∃a,∃b,∃c,p1 a b c/\p2 a b c/\p3 a b c/\p4 a b c:=⟨a,b,c,h1,h2,h3,h4⟩
theorem Dk{α β γ:Sort _}{p1:α->β->γ->Prop}{p2:α->β->γ->Prop}{p3:α->β->γ->Prop}{p4:α->β->γ->Prop}{p5:α->β->γ->Prop}{p6:α->β->γ->Prop}{p7:α->β->γ->Prop}{p8:α->β->γ->Prop}(a:α)(b:β)(c:γ)(h1:p1 a b c)(h2:p2 a b c)(h3:p3 a b c)(h4:p4 a b c)(h5:p5 a b c)(h6:p6 a b c)(h7:p7 a b c)(h8:p8 a b c):∃a,∃b,∃c,p1 a b c/\p2 a b c/\p3 a b c/\p4 a b c/\p5 a b c/\p6 a b c/\p7 a b c/\p8 a b c:=⟨a,b,c,h1,h2,h3,h4,h5,h6,h7,h8⟩
theorem yV{α β γ δ:Sort _}{p1:α->β->γ->δ->Prop}{p2:α->β->γ->δ->Prop}{p3:α->β->γ->δ->Prop}{p4:α->β->γ->δ->Prop}{p5:α->β->γ->δ->Prop}{p6:α->β->γ->δ->Prop}(a:α)(b:β)(c:γ)(d:δ)(h1:p1 a b c d)(h2:p2 a b c d)(h3:p3 a b c d)(h4:p4 a b c d)(h5:p5 a b c d)(h6:p6 a b c d):∃a,∃b,∃c,∃d,p1 a b c d/\p2 a b c d/\p3 a b c d/\p4 a b c d/\p5 a b c d/\p6 a b c d:=⟨a,b,c,d,h1,h2,h3,h4,h5,h6⟩
theorem Iq{α β γ δ ε:Sort _}{p1:α->β->γ->δ->ε->Prop}{p2:α->β->γ->δ->ε->Prop}{p3:α->β->γ->δ->ε->Prop}{p4:α->β->γ->δ->ε->Prop}(a:α)(b:β)(c:γ)(d:δ)(e:ε)(h1:p1 a b c d e)(h2:p2 a b c d e)(h3:p3 a b c d e)(h4:p4 a b c d e):∃a,∃b,∃c,∃d,∃e,p1 a b c d e/\p2 a b c d e/\p3 a b c d e/\p4 a b c d e:=⟨a,b,c,d,e,h1,h2,h3,h4⟩
theorem OA{α β γ δ ε ζ:Sort _}{p1:α->β->γ->δ->ε->ζ->Prop}(a:α)(b:β)(c:γ)(d:δ)(e:ε)(f:ζ)(h1:p1 a b c d e f):∃a,∃b,∃c,∃d,∃e,∃f,p1 a b c d e f:=⟨a,b,c,d,e,f,h1⟩
theorem Dl{α β γ δ ε ζ:Sort _}{p1:α->β->γ->δ->ε->ζ->Prop}{p2:α->β->γ->δ->ε->ζ->Prop}(a:α)(b:β)(c:γ)(d:δ)(e:ε)(f:ζ)(h1:p1 a b c d e f)(h2:p2 a b c d e f):∃a,∃b,∃c,∃d,∃e,∃f,p1 a b c d e f/\p2 a b c d e f:=⟨a,b,c,d,e,f,h1,h2⟩
theorem Ir{α β γ δ ε ζ η:Sort _}{p1:α->β->γ->δ->ε->ζ->η->Prop}{p2:α->β->γ->δ->ε->ζ->η->Prop}(a:α)(b:β)(c:γ)(d:δ)(e:ε)(f:ζ)(g:η)(h1:p1 a b c d e f g)(h2:p2 a b c d e f g):∃a,∃b,∃c,∃d,∃e,∃f,∃g,p1 a b c d e f g/\p2 a b c d e f g:=⟨a,b,c,d,e,f,g,h1,h2⟩
theorem AK{α β γ δ ε ζ η θ:Sort _}{p1:α->β->γ->δ->ε->ζ->η->θ->Prop}(a:α)(b:β)(c:γ)(d:δ)(e:ε)(f:ζ)(g:η)(h:θ)(h1:p1 a b c d e f g h):∃a,∃b,∃c,∃d,∃e,∃f,∃g,∃h,p1 a b c d e f g h:=⟨a,b,c,d,e,f,g,h,h1⟩
theorem yW{α β γ δ ε ζ η θ:Sort _}{p1:α->β->γ->δ->ε->ζ->η->θ->Prop}{p2:α->β->γ->δ->ε->ζ->η->θ->Prop}{p3:α->β->γ->δ->ε->ζ->η->θ->Prop}{p4:α->β->γ->δ->ε->ζ->η->θ->Prop}{p5:α->β->γ->δ->ε->ζ->η->θ->Prop}{p6:α->β->γ->δ->ε->ζ->η->θ->Prop}(a:α)(b:β)(c:γ)(d:δ)(e:ε)(f:ζ)(g:η)(h:θ)(h1:p1 a b c d e f g h)(h2:p2 a b c d e f g h)(h3:p3 a b c d e f g h)(h4:p4 a b c d e f g h)(h5:p5 a b c d e f g h)(h6:p6 a b c d e f g h):∃a,∃b,∃c,∃d,∃e,∃f,∃g,∃h,p1 a b c d e f g h/\p2 a b c d e f g h/\p3 a b c d e f g h/\p4 a b c d e f g h/\p5 a b c d e f g h/\p6 a b c d e f g h:=⟨a,b,c,d,e,f,g,h,h1,h2,h3,h4,h5,h6⟩
set_option tactic.hygienic false
theorem nS{α:Type}{y:α}:none≠some y:=λh=>aY h
theorem nT:false≠true:=λh=>bX h
noncomputable def tg{α:Type}(d:α)(b:Bool)(f:b=true->α):α:=Bool.rec (motive:=λc=>(c=true->α)->α) (λ_=>d) (λf=>f rfl) b f
theorem sN{α:Type}{d:α}{b:Bool}{f:b=true->α}{Q:α->Prop}(h:Q d)(k:∀e,Q (f e)):Q (tg d b f):=by
 induction b using Bool.casesOn with
 |true=>exact k rfl
 |false=>exact h
theorem bQ{α:Type}{d a:α}{b:Bool}{Q:α->Prop}(h:Q d)(k:b=true->Q a):Q (bif b then a else d):=by
 induction b using Bool.casesOn with
 |true=>exact k rfl
 |false=>exact h
theorem cQ{α:Type}{d a:α}{b:Bool}{Q:α->Prop}(k:b=true->Q a)(h:Q d):Q (bif b then a else d):=bQ h k
theorem tgN{α:Type}{d:α}{b:Bool}{f:b=true->α}(h:b=false):tg d b f=d:=by
 induction b using Bool.casesOn with
 |true=>exact jA h
 |false=>rfl
theorem J0{α:Type}{a b:Option α}{y:α}{P:Prop}(h:a.or b=some y)(k1:a=some y->P)(k2:b=some y->P):P:=by
 induction a using Option.casesOn with
 |some x=>exact k1 h
 |none=>exact k2 h
theorem fF{a b:Bool}{P:Prop}(h:(a&&b)=true)(k:a=true->b=true->P):P:=k (aL.mp h).1 (aL.mp h).2
section
variable{α β:Type}{d y:α}{P:Prop}{Q:α->Prop}{l:List β}
noncomputable def pX(d:α)(o:Option β)(F:β->α):α:=Option.rec d F o
theorem oQ{o:Option β}{F:β->α}(h:Q d)(k:∀a,o=some a->Q (F a)):Q (pX d o F):=by
 induction o using Option.casesOn with
 |none=>exact h
 |some a=>exact k a rfl
theorem oE{o:Option β}{F:β->α}(h:pX d o F=y)(n:d≠y)(k:∀a,o=some a->F a=y->P):P:=oQ (Q:=λz=>z=y->P) (λh=>absurd h n) k h
noncomputable def A9(d:α)(l:List β)(F:α):α:=List.rec F (λ_ _ _=>d) l
def xD(d:α)(l:List β)(F:β->α):α:=List.rec d (λa r _=>A9 d r (F a)) l
def AL(d:α)(l:List β)(F:β->β->α):α:=List.rec d (λa r _=>xD d r (F a)) l
theorem QO{F:α}(h:Q d)(k:l=[]->Q F):Q (A9 d l F):=by
 induction l using List.casesOn with
 |nil=>exact k rfl
 |cons _ _=>exact h
theorem It{F:β->α}(h:Q d)(k:∀a,l=[a]->Q (F a)):Q (xD d l F):=by
 induction l using List.casesOn with
 |nil=>exact h
 |cons a r=>exact QO h λe=>k a (e▸rfl)
theorem OB{F:β->β->α}(h:Q d)(k:∀a b,l=[a,b]->Q (F a b)):Q (AL d l F):=by
 induction l using List.casesOn with
 |nil=>exact h
 |cons a r=>exact It h λb e=>k a b (e▸rfl)
theorem Op{F:α}(h:A9 d l F=y)(n:d≠y)(k:l=[]->F=y->P):P:=QO (Q:=λz=>z=y->P) (λh=>absurd h n) k h
theorem Es{F:β->α}(h:xD d l F=y)(n:d≠y)(k:∀a,l=[a]->F a=y->P):P:=It (Q:=λz=>z=y->P) (λh=>absurd h n) k h
theorem OC{F:β->β->α}(h:AL d l F=y)(n:d≠y)(k:∀a b,l=[a,b]->F a b=y->P):P:=OB (Q:=λz=>z=y->P) (λh=>absurd h n) k h
end
section
variable{α:Type}{d y:α}{e:Expr}{s:Stmt}{q:Const}{u:Value}{x:Data}{P:Prop}{Q:α->Prop}
def qQ(d:α)(e:Expr)(F:Str->Pos->α):α:=tg d (Nat.beq e.ctorIdx 23) λh=>Expr.Name.elim (motive_1:=λ_=>α) e (aA h) F
theorem OD{F:Str->Pos->α}(h:Q d)(k:∀x p,e=.Name x p->Q (F x p)):Q (qQ d e F):=
 sN h λhb=>Expr.Name.elim (motive_1:=λe=>∀hb:Nat.beq e.ctorIdx 23=true,(∀x p,e=.Name x p->Q (F x p))->Q (Expr.Name.elim e (aA hb) F)) e (aA hb) (λx p _ k=>k x p rfl) hb k
theorem OE{F:Str->Pos->α}(h:qQ d e F=y)(n:d≠y)(k:∀x p,e=.Name x p->F x p=y->P):P:=OD (Q:=λz=>z=y->P) (λh=>absurd h n) k h
def uB(d:α)(e:Expr)(F:List Expr->Nat->Pos->α):α:=tg d (Nat.beq e.ctorIdx 25) λh=>Expr.Tuple.elim (motive_1:=λ_=>α) e (aA h) F
theorem XU{F:List Expr->Nat->Pos->α}(h:Q d)(k:∀l i p,e=.Tuple l i p->Q (F l i p)):Q (uB d e F):=
 sN h λhb=>Expr.Tuple.elim (motive_1:=λe=>∀hb:Nat.beq e.ctorIdx 25=true,(∀l i p,e=.Tuple l i p->Q (F l i p))->Q (Expr.Tuple.elim e (aA hb) F)) e (aA hb) (λl i p _ k=>k l i p rfl) hb k
theorem LN{F:List Expr->Nat->Pos->α}(h:uB d e F=y)(n:d≠y)(k:∀l i p,e=.Tuple l i p->F l i p=y->P):P:=XU (Q:=λz=>z=y->P) (λh=>absurd h n) k h
def FJ(d:α)(e:Expr)(F:Const->Nat->Pos->α):α:=tg d (Nat.beq e.ctorIdx 19) λh=>Expr.Constant.elim (motive_1:=λ_=>α) e (aA h) F
theorem cstQ{F:Const->Nat->Pos->α}(h:Q d)(k:∀c i p,e=.Constant c i p->Q (F c i p)):Q (FJ d e F):=
 sN h λhb=>Expr.Constant.elim (motive_1:=λe=>∀hb:Nat.beq e.ctorIdx 19=true,(∀c i p,e=.Constant c i p->Q (F c i p))->Q (Expr.Constant.elim e (aA hb) F)) e (aA hb) (λc i p _ k=>k c i p rfl) hb k
theorem cstE{F:Const->Nat->Pos->α}(h:FJ d e F=y)(n:d≠y)(k:∀c i p,e=.Constant c i p->F c i p=y->P):P:=cstQ (Q:=λz=>z=y->P) (λh=>absurd h n) k h
def vB(d:α)(e:Expr)(F:Expr->Str->Pos->α):α:=tg d (Nat.beq e.ctorIdx 20) λh=>Expr.Attribute.elim (motive_1:=λ_=>α) e (aA h) F
theorem XV{F:Expr->Str->Pos->α}(h:Q d)(k:∀o a p,e=.Attribute o a p->Q (F o a p)):Q (vB d e F):=
 sN h λhb=>Expr.Attribute.elim (motive_1:=λe=>∀hb:Nat.beq e.ctorIdx 20=true,(∀o a p,e=.Attribute o a p->Q (F o a p))->Q (Expr.Attribute.elim e (aA hb) F)) e (aA hb) (λo a p _ k=>k o a p rfl) hb k
theorem Iu{F:Expr->Str->Pos->α}(h:vB d e F=y)(n:d≠y)(k:∀o a p,e=.Attribute o a p->F o a p=y->P):P:=XV (Q:=λz=>z=y->P) (λh=>absurd h n) k h
def yX(d:α)(e:Expr)(F:Expr->List Expr->List Keyword->Pos->α):α:=tg d (Nat.beq e.ctorIdx 16) λh=>Expr.Call.elim (motive_1:=λ_=>α) e (aA h) F
theorem calQ{F:Expr->List Expr->List Keyword->Pos->α}(h:Q d)(k:∀f l j p,e=.Call f l j p->Q (F f l j p)):Q (yX d e F):=
 sN h λhb=>Expr.Call.elim (motive_1:=λe=>∀hb:Nat.beq e.ctorIdx 16=true,(∀f l j p,e=.Call f l j p->Q (F f l j p))->Q (Expr.Call.elim e (aA hb) F)) e (aA hb) (λf l j p _ k=>k f l j p rfl) hb k
theorem OF{F:Expr->List Expr->List Keyword->Pos->α}(h:yX d e F=y)(n:d≠y)(k:∀f l j p,e=.Call f l j p->F f l j p=y->P):P:=calQ (Q:=λz=>z=y->P) (λh=>absurd h n) k h
def OG(d:α)(e:Expr)(F:Expr->List Comprehension->Scope->Pos->α):α:=tg d (Nat.beq e.ctorIdx 8) λh=>Expr.ListComp.elim (motive_1:=λ_=>α) e (aA h) F
theorem lCQ{F:Expr->List Comprehension->Scope->Pos->α}(h:Q d)(k:∀u g j p,e=.ListComp u g j p->Q (F u g j p)):Q (OG d e F):=
 sN h λhb=>Expr.ListComp.elim (motive_1:=λe=>∀hb:Nat.beq e.ctorIdx 8=true,(∀u g j p,e=.ListComp u g j p->Q (F u g j p))->Q (Expr.ListComp.elim e (aA hb) F)) e (aA hb) (λu g j p _ k=>k u g j p rfl) hb k
theorem lCE{F:Expr->List Comprehension->Scope->Pos->α}(h:OG d e F=y)(n:d≠y)(k:∀u g j p,e=.ListComp u g j p->F u g j p=y->P):P:=lCQ (Q:=λz=>z=y->P) (λh=>absurd h n) k h
def LO(d:α)(e:Expr)(F:Expr->Operator->Expr->Pos->α):α:=tg d (Nat.beq e.ctorIdx 2) λh=>Expr.BinOp.elim (motive_1:=λ_=>α) e (aA h) F
theorem binQ{F:Expr->Operator->Expr->Pos->α}(h:Q d)(k:∀a o b p,e=.BinOp a o b p->Q (F a o b p)):Q (LO d e F):=
 sN h λhb=>Expr.BinOp.elim (motive_1:=λe=>∀hb:Nat.beq e.ctorIdx 2=true,(∀a o b p,e=.BinOp a o b p->Q (F a o b p))->Q (Expr.BinOp.elim e (aA hb) F)) e (aA hb) (λa o b p _ k=>k a o b p rfl) hb k
theorem binE{F:Expr->Operator->Expr->Pos->α}(h:LO d e F=y)(n:d≠y)(k:∀a o b p,e=.BinOp a o b p->F a o b p=y->P):P:=binQ (Q:=λz=>z=y->P) (λh=>absurd h n) k h
def FK(d:α)(e:Expr)(F:Expr->List CmpOp->List Expr->Pos->α):α:=tg d (Nat.beq e.ctorIdx 15) λh=>Expr.Compare.elim (motive_1:=λ_=>α) e (aA h) F
theorem cmpQ{F:Expr->List CmpOp->List Expr->Pos->α}(h:Q d)(k:∀a o b p,e=.Compare a o b p->Q (F a o b p)):Q (FK d e F):=
 sN h λhb=>Expr.Compare.elim (motive_1:=λe=>∀hb:Nat.beq e.ctorIdx 15=true,(∀a o b p,e=.Compare a o b p->Q (F a o b p))->Q (Expr.Compare.elim e (aA hb) F)) e (aA hb) (λa o b p _ k=>k a o b p rfl) hb k
theorem cmpE{F:Expr->List CmpOp->List Expr->Pos->α}(h:FK d e F=y)(n:d≠y)(k:∀a o b p,e=.Compare a o b p->F a o b p=y->P):P:=cmpQ (Q:=λz=>z=y->P) (λh=>absurd h n) k h
def LP(d:α)(e:Expr)(F:BoolOp->List Expr->Pos->α):α:=tg d (Nat.beq e.ctorIdx 0) λh=>Expr.BoolOp.elim (motive_1:=λ_=>α) e (aA h) F
theorem bopQ{F:BoolOp->List Expr->Pos->α}(h:Q d)(k:∀o l p,e=.BoolOp o l p->Q (F o l p)):Q (LP d e F):=
 sN h λhb=>Expr.BoolOp.elim (motive_1:=λe=>∀hb:Nat.beq e.ctorIdx 0=true,(∀o l p,e=.BoolOp o l p->Q (F o l p))->Q (Expr.BoolOp.elim e (aA hb) F)) e (aA hb) (λo l p _ k=>k o l p rfl) hb k
theorem bopE{F:BoolOp->List Expr->Pos->α}(h:LP d e F=y)(n:d≠y)(k:∀o l p,e=.BoolOp o l p->F o l p=y->P):P:=bopQ (Q:=λz=>z=y->P) (λh=>absurd h n) k h
def LQ(d:α)(e:Expr)(F:Expr->Expr->Expr->Pos->α):α:=tg d (Nat.beq e.ctorIdx 5) λh=>Expr.IfExp.elim (motive_1:=λ_=>α) e (aA h) F
theorem iteQ{F:Expr->Expr->Expr->Pos->α}(h:Q d)(k:∀t a b p,e=.IfExp t a b p->Q (F t a b p)):Q (LQ d e F):=
 sN h λhb=>Expr.IfExp.elim (motive_1:=λe=>∀hb:Nat.beq e.ctorIdx 5=true,(∀t a b p,e=.IfExp t a b p->Q (F t a b p))->Q (Expr.IfExp.elim e (aA hb) F)) e (aA hb) (λt a b p _ k=>k t a b p rfl) hb k
theorem iteE{F:Expr->Expr->Expr->Pos->α}(h:LQ d e F=y)(n:d≠y)(k:∀t a b p,e=.IfExp t a b p->F t a b p=y->P):P:=iteQ (Q:=λz=>z=y->P) (λh=>absurd h n) k h
def LR(d:α)(e:Expr)(F:Option Expr->Option Expr->Option Expr->Pos->α):α:=tg d (Nat.beq e.ctorIdx 26) λh=>Expr.Slice.elim (motive_1:=λ_=>α) e (aA h) F
theorem sliQ{F:Option Expr->Option Expr->Option Expr->Pos->α}(h:Q d)(k:∀a b c p,e=.Slice a b c p->Q (F a b c p)):Q (LR d e F):=
 sN h λhb=>Expr.Slice.elim (motive_1:=λe=>∀hb:Nat.beq e.ctorIdx 26=true,(∀a b c p,e=.Slice a b c p->Q (F a b c p))->Q (Expr.Slice.elim e (aA hb) F)) e (aA hb) (λa b c p _ k=>k a b c p rfl) hb k
theorem sliE{F:Option Expr->Option Expr->Option Expr->Pos->α}(h:LR d e F=y)(n:d≠y)(k:∀a b c p,e=.Slice a b c p->F a b c p=y->P):P:=sliQ (Q:=λz=>z=y->P) (λh=>absurd h n) k h
def LS(d:α)(e:Expr)(F:Expr->Expr->Pos->α):α:=tg d (Nat.beq e.ctorIdx 21) λh=>Expr.Subscript.elim (motive_1:=λ_=>α) e (aA h) F
theorem subQ{F:Expr->Expr->Pos->α}(h:Q d)(k:∀a b p,e=.Subscript a b p->Q (F a b p)):Q (LS d e F):=
 sN h λhb=>Expr.Subscript.elim (motive_1:=λe=>∀hb:Nat.beq e.ctorIdx 21=true,(∀a b p,e=.Subscript a b p->Q (F a b p))->Q (Expr.Subscript.elim e (aA hb) F)) e (aA hb) (λa b p _ k=>k a b p rfl) hb k
theorem subE{F:Expr->Expr->Pos->α}(h:LS d e F=y)(n:d≠y)(k:∀a b p,e=.Subscript a b p->F a b p=y->P):P:=subQ (Q:=λz=>z=y->P) (λh=>absurd h n) k h
def FL(d:α)(s:Stmt)(F:Expr->Option Expr->Pos->α):α:=tg d (Nat.beq s.ctorIdx 19) λh=>Stmt.Assert.elim (motive_2:=λ_=>α) s (aA h) F
theorem asrQ{F:Expr->Option Expr->Pos->α}(h:Q d)(k:∀t m p,s=.Assert t m p->Q (F t m p)):Q (FL d s F):=
 sN h λhb=>Stmt.Assert.elim (motive_2:=λs=>∀hb:Nat.beq s.ctorIdx 19=true,(∀t m p,s=.Assert t m p->Q (F t m p))->Q (Stmt.Assert.elim s (aA hb) F)) s (aA hb) (λt m p _ k=>k t m p rfl) hb k
theorem asrE{F:Expr->Option Expr->Pos->α}(h:FL d s F=y)(n:d≠y)(k:∀t m p,s=.Assert t m p->F t m p=y->P):P:=asrQ (Q:=λz=>z=y->P) (λh=>absurd h n) k h
def OH(d:α)(s:Stmt)(F:Expr->List Stmt->List Stmt->Pos->α):α:=tg d (Nat.beq s.ctorIdx 12) λh=>Stmt.If.elim (motive_2:=λ_=>α) s (aA h) F
theorem ifQ{F:Expr->List Stmt->List Stmt->Pos->α}(h:Q d)(k:∀t a b p,s=.If t a b p->Q (F t a b p)):Q (OH d s F):=
 sN h λhb=>Stmt.If.elim (motive_2:=λs=>∀hb:Nat.beq s.ctorIdx 12=true,(∀t a b p,s=.If t a b p->Q (F t a b p))->Q (Stmt.If.elim s (aA hb) F)) s (aA hb) (λt a b p _ k=>k t a b p rfl) hb k
theorem ifE{F:Expr->List Stmt->List Stmt->Pos->α}(h:OH d s F=y)(n:d≠y)(k:∀t a b p,s=.If t a b p->F t a b p=y->P):P:=ifQ (Q:=λz=>z=y->P) (λh=>absurd h n) k h
def AM(d:α)(s:Stmt)(F:Option Expr->Pos->α):α:=tg d (Nat.beq s.ctorIdx 3) λh=>Stmt.Return.elim (motive_2:=λ_=>α) s (aA h) F
theorem retQ{F:Option Expr->Pos->α}(h:Q d)(k:∀u p,s=.Return u p->Q (F u p)):Q (AM d s F):=
 sN h λhb=>Stmt.Return.elim (motive_2:=λs=>∀hb:Nat.beq s.ctorIdx 3=true,(∀u p,s=.Return u p->Q (F u p))->Q (Stmt.Return.elim s (aA hb) F)) s (aA hb) (λu p _ k=>k u p rfl) hb k
theorem OI{F:Option Expr->Pos->α}(h:AM d s F=y)(n:d≠y)(k:∀u p,s=.Return u p->F u p=y->P):P:=retQ (Q:=λz=>z=y->P) (λh=>absurd h n) k h
def FM(d:α)(s:Stmt)(F:List Expr->Expr->Pos->α):α:=tg d (Nat.beq s.ctorIdx 5) λh=>Stmt.Assign.elim (motive_2:=λ_=>α) s (aA h) F
theorem asgQ{F:List Expr->Expr->Pos->α}(h:Q d)(k:∀t u p,s=.Assign t u p->Q (F t u p)):Q (FM d s F):=
 sN h λhb=>Stmt.Assign.elim (motive_2:=λs=>∀hb:Nat.beq s.ctorIdx 5=true,(∀t u p,s=.Assign t u p->Q (F t u p))->Q (Stmt.Assign.elim s (aA hb) F)) s (aA hb) (λt u p _ k=>k t u p rfl) hb k
theorem asgE{F:List Expr->Expr->Pos->α}(h:FM d s F=y)(n:d≠y)(k:∀t u p,s=.Assign t u p->F t u p=y->P):P:=asgQ (Q:=λz=>z=y->P) (λh=>absurd h n) k h
def LT(d:α)(q:Const)(F:Int->α):α:=tg d (Nat.beq q.ctorIdx 2) λh=>Const.int.elim (motive:=λ_=>α) q (aA h) F
theorem intQ{F:Int->α}(h:Q d)(k:∀i,q=.int i->Q (F i)):Q (LT d q F):=
 sN h λhb=>Const.int.elim (motive:=λq=>∀hb:Nat.beq q.ctorIdx 2=true,(∀i,q=.int i->Q (F i))->Q (Const.int.elim q (aA hb) F)) q (aA hb) (λi _ k=>k i rfl) hb k
theorem intE{F:Int->α}(h:LT d q F=y)(n:d≠y)(k:∀i,q=.int i->F i=y->P):P:=intQ (Q:=λz=>z=y->P) (λh=>absurd h n) k h
def sQ(d:α)(u:Value)(F:Addr->α):α:=tg d (Nat.beq u.ctorIdx 10) λh=>Value.ref.elim (motive:=λ_=>α) u (aA h) F
theorem refQ{F:Addr->α}(h:Q d)(k:∀a,u=.ref a->Q (F a)):Q (sQ d u F):=
 sN h λhb=>Value.ref.elim (motive:=λu=>∀hb:Nat.beq u.ctorIdx 10=true,(∀a,u=.ref a->Q (F a))->Q (Value.ref.elim u (aA hb) F)) u (aA hb) (λa _ k=>k a rfl) hb k
theorem Iv{F:Addr->α}(h:sQ d u F=y)(n:d≠y)(k:∀a,u=.ref a->F a=y->P):P:=refQ (Q:=λz=>z=y->P) (λh=>absurd h n) k h
def XW(d:α)(u:Value)(F:Bool->α):α:=tg d (Nat.beq u.ctorIdx 3) λh=>Value.bool.elim (motive:=λ_=>α) u (aA h) F
theorem uBQ{F:Bool->α}(h:Q d)(k:∀b,u=.bool b->Q (F b)):Q (XW d u F):=
 sN h λhb=>Value.bool.elim (motive:=λu=>∀hb:Nat.beq u.ctorIdx 3=true,(∀b,u=.bool b->Q (F b))->Q (Value.bool.elim u (aA hb) F)) u (aA hb) (λb _ k=>k b rfl) hb k
theorem uBE{F:Bool->α}(h:XW d u F=y)(n:d≠y)(k:∀b,u=.bool b->F b=y->P):P:=uBQ (Q:=λz=>z=y->P) (λh=>absurd h n) k h
def Et(d:α)(u:Value)(F:Str->Tok->α):α:=tg d (Nat.beq u.ctorIdx 6) λh=>Value.str.elim (motive:=λ_=>α) u (aA h) F
theorem uStrQ{F:Str->Tok->α}(h:Q d)(k:∀t j,u=.str t j->Q (F t j)):Q (Et d u F):=
 sN h λhb=>Value.str.elim (motive:=λu=>∀hb:Nat.beq u.ctorIdx 6=true,(∀t j,u=.str t j->Q (F t j))->Q (Value.str.elim u (aA hb) F)) u (aA hb) (λt j _ k=>k t j rfl) hb k
theorem uStrE{F:Str->Tok->α}(h:Et d u F=y)(n:d≠y)(k:∀t j,u=.str t j->F t j=y->P):P:=uStrQ (Q:=λz=>z=y->P) (λh=>absurd h n) k h
def yY(d:α)(x:Data)(F:FuncData->α):α:=tg d (Nat.beq x.ctorIdx 7) λh=>Data.func.elim (motive:=λ_=>α) x (aA h) F
theorem funcQ{F:FuncData->α}(h:Q d)(k:∀g,x=.func g->Q (F g)):Q (yY d x F):=
 sN h λhb=>Data.func.elim (motive:=λx=>∀hb:Nat.beq x.ctorIdx 7=true,(∀g,x=.func g->Q (F g))->Q (Data.func.elim x (aA hb) F)) x (aA hb) (λg _ k=>k g rfl) hb k
theorem funcE{F:FuncData->α}(h:yY d x F=y)(n:d≠y)(k:∀g,x=.func g->F g=y->P):P:=funcQ (Q:=λz=>z=y->P) (λh=>absurd h n) k h
def Eu(d:α)(x:Data)(F:Array Value->α):α:=tg d (Nat.beq x.ctorIdx 9) λh=>Data.fields.elim (motive:=λ_=>α) x (aA h) F
theorem fldsQ{F:Array Value->α}(h:Q d)(k:∀l,x=.fields l->Q (F l)):Q (Eu d x F):=
 sN h λhb=>Data.fields.elim (motive:=λx=>∀hb:Nat.beq x.ctorIdx 9=true,(∀l,x=.fields l->Q (F l))->Q (Data.fields.elim x (aA hb) F)) x (aA hb) (λl _ k=>k l rfl) hb k
theorem fldsE{F:Array Value->α}(h:Eu d x F=y)(n:d≠y)(k:∀l,x=.fields l->F l=y->P):P:=fldsQ (Q:=λz=>z=y->P) (λh=>absurd h n) k h
def QP(d:α)(x:Data)(F:Array Value->Nat->α):α:=tg d (Nat.beq x.ctorIdx 2) λh=>Data.seq.elim (motive:=λ_=>α) x (aA h) F
theorem seqQ{F:Array Value->Nat->α}(h:Q d)(k:∀l n,x=.seq l n->Q (F l n)):Q (QP d x F):=
 sN h λhb=>Data.seq.elim (motive:=λx=>∀hb:Nat.beq x.ctorIdx 2=true,(∀l n,x=.seq l n->Q (F l n))->Q (Data.seq.elim x (aA hb) F)) x (aA hb) (λl n _ k=>k l n rfl) hb k
theorem seqE{F:Array Value->Nat->α}(h:QP d x F=y)(n:d≠y)(k:∀l n,x=.seq l n->F l n=y->P):P:=seqQ (Q:=λz=>z=y->P) (λh=>absurd h n) k h
end
set_option tactic.hygienic true
section
inductive T where
 |num (n:Int)
 |var (e:Str) (lo hi:Int)
 |mul (a:T) (b:Int)
 |div (a:T) (b:Int)
 |mod (a:T) (b:Int)
 |sum (l:List T)
noncomputable def AN(lo hi b:Int):Int:=bif decide (hi-lo>=b)||(decide (lo≠hi)&&decide (Int.fmod lo b>=Int.fmod hi b))then 0 else Int.fmod lo b
noncomputable def yZ(lo hi b:Int):Int:=bif decide (hi-lo>=b)||(decide (lo≠hi)&&decide (Int.fmod lo b>=Int.fmod hi b))then b-1 else Int.fmod hi b
mutual
noncomputable def T.lo:T->Int
 |.num n=>n
 |.var _ l _=>l
 |.mul a b=>bif decide (0<=b)then a.lo*b else a.hi*b
 |.div a b=>Int.fdiv a.lo b
 |.mod a b=>AN a.lo a.hi b
 |.sum l=>T.los l
noncomputable def T.hi:T->Int
 |.num n=>n
 |.var _ _ h=>h
 |.mul a b=>bif decide (0<=b)then a.hi*b else a.lo*b
 |.div a b=>Int.fdiv a.hi b
 |.mod a b=>yZ a.lo a.hi b
 |.sum l=>T.his l
noncomputable def T.los:List T->Int
 |[]=>0
 |t::r=>t.lo+T.los r
noncomputable def T.his:List T->Int
 |[]=>0
 |t::r=>t.hi+T.his r
end
theorem lo_num{n:Int}:(T.num n).lo=n:=rfl
theorem lo_var{e:Str}{l h:Int}:(T.var e l h).lo=l:=rfl
theorem hi_num{n:Int}:(T.num n).hi=n:=rfl
theorem hi_var{e:Str}{l h:Int}:(T.var e l h).hi=h:=rfl
noncomputable def T.cls:T->Addr
 |.num _=>331
 |.var ..=>277
 |.mul ..=>471
 |.div ..=>512
 |.mod ..=>560
 |.sum _=>644
noncomputable def T.mro:T->List Addr
 |.num _=>[331,220]
 |.var ..=>[277,220]
 |.mul ..=>[471,383,220]
 |.div ..=>[512,383,220]
 |.mod ..=>[560,383,220]
 |.sum _=>[644,593,220]
noncomputable def eqL:List Nat->List Nat->Bool
 |[]=>λy=>y.isEmpty
 |a::x=>λy=>List.rec false (λb r _=>bif Nat.beq a b then eqL x r else false) y
def lE(a b:Str):Bool:=eqL a.cps.toList b.cps.toList
noncomputable def cJ{α:Type}(x:Str):List (Str×α)->Option α
 |[]=>none
 |(y,v)::r=>bif lE x y then some v else cJ x r
theorem Iw{α:Type}{x y:Str}{v:α}{r:List (Str×α)}:cJ x ((y,v)::r)=bif lE x y then some v else cJ x r:=rfl
noncomputable def lM{α:Type}(x:Str)(v:α):List (Str×α)->List (Str×α)
 |[]=>[(x,v)]
 |(y,w)::r=>bif lE x y then(y,v)::r else(y,w)::lM x v r
theorem pS_c{α:Type}{x y:Str}{v w:α}{r:List (Str×α)}:lM x v ((y,w)::r)=bif lE x y then(y,v)::r else(y,w)::lM x v r:=rfl
theorem pS_n{α:Type}{x:Str}{v:α}:lM x v []=[(x,v)]:=rfl
noncomputable def dZ{α:Type}(x:Nat):List (Nat×α)->Option α
 |[]=>none
 |(y,v)::r=>bif Nat.beq x y then some v else dZ x r
theorem XX{α:Type}{x y:Nat}{v:α}{r:List (Nat×α)}:dZ x ((y,v)::r)=bif Nat.beq x y then some v else dZ x r:=rfl
theorem XY{α:Type}{x:Nat}:dZ x ([]:List (Nat×α))=none:=rfl
noncomputable def fO{α:Type}(x:Nat)(v:α):List (Nat×α)->List (Nat×α)
 |[]=>[(x,v)]
 |(y,w)::r=>bif Nat.beq x y then(y,v)::r else(y,w)::fO x v r
theorem pN_c{α:Type}{x y:Nat}{v w:α}{r:List (Nat×α)}:fO x v ((y,w)::r)=bif Nat.beq x y then(y,v)::r else(y,w)::fO x v r:=rfl
theorem pN_n{α:Type}{x:Nat}{v:α}:fO x v []=[(x,v)]:=rfl
noncomputable def jQ(i:Int):Bool:=decide (i.natAbs<2^8000)
noncomputable def wF(i:Int):Bool:=decide (i.natAbs<2^1900)
noncomputable def Dm(s:Str):Bool:=decide (s.cps.size<=1000000)
noncomputable def pU(i:Int):Str:=Str.ofString (toString i)
def oO:Str:=sT [105,115,105,110,115,116,97,110,99,101]
def n_abs:Str:=sT [97,98,115]
def AO:Str:=sT [115,117,109]
def LU:Str:=sT [115,111,114,116,101,100]
def n_str:Str:=sT [115,116,114]
def n_len:Str:=sT [108,101,110]
def pY:Str:=sT [114,97,110,103,101]
def Dn:Str:=sT [105,110,116]
def Do:Str:=sT [97,112,112,101,110,100]
def QR:Str:=sT [103,101,116]
def FO:Str:=sT [105,116,101,109,115]
def LV:Str:=sT [106,111,105,110]
def LW:Str:=sT [107,101,121]
def jW:Str:=sT [102,108,97,116,95,99,111,109,112,111,110,101,110,116,115]
def El:Str:=sT [97]
def Dp:Str:=sT [98]
def lU:Str:=sT [109,105,110]
def lV:Str:=sT [109,97,120]
def rT:Str:=sT [101,120,112,114]
def vC:Str:=sT [95,118,97,108]
def lI:Str:=sT [110,111,100,101,115]
def QS:Str:=sT [95,95,97,100,100,95,95]
def QT:Str:=sT [95,95,115,117,98,95,95]
def QU:Str:=sT [95,95,109,117,108,95,95]
def zA:Str:=sT [95,95,102,108,111,111,114,100,105,118,95,95]
def QV:Str:=sT [95,95,109,111,100,95,95]
def n_eq:Str:=sT [95,95,101,113,95,95]
def n_ctx:Str:=sT [99,116,120]
def XZ:Str:=sT [78,111,100,101]
def Ew:Str:=sT [86,97,114,105,97,98,108,101]
def Ix:Str:=sT [78,117,109,78,111,100,101]
def Iy:Str:=sT [77,117,108,78,111,100,101]
def Iz:Str:=sT [68,105,118,78,111,100,101]
def I0:Str:=sT [77,111,100,78,111,100,101]
def I5:Str:=sT [83,117,109,78,111,100,101]
def n_gcd:Str:=sT [103,99,100]
def Ex:Str:=sT [118,97,114,105,97,98,108,101]
def AA:Str:=sT [99,114,101,97,116,101,95,110,111,100,101]
def B9:Str:=sT [115,121,109,95,114,101,110,100,101,114]
def Dq:Str:=sT [115,121,109,95,105,110,102,101,114]
def Dr:Str:=sT [95,108,97,119,95,110,97,109,101,115]
def LX:Str:=sT [95,108,97,119,95,97,116]
def I6:Str:=sT [95,108,97,119,95,99,117,116]
def Ds:Str:=sT [114,101,110,100,101,114]
def vD:Str:=sT [115,117,98,115,116,105,116,117,116,101]
def LY:Str:=sT [116,101,120,116]
noncomputable def OJ:List Str:=[⟨⟨[120]⟩⟩,⟨⟨[115,101,108,102]⟩⟩,⟨⟨[98]⟩⟩,⟨⟨[99,116,120]⟩⟩,⟨⟨[110,111,100,101,115]⟩⟩,⟨⟨[110,111,100,101]⟩⟩,⟨⟨[107]⟩⟩,⟨⟨[102,97,99,116,111,114,105,110,103,95,97,108,108,111,119,101,100]⟩⟩,⟨⟨[115,99,114,105,112,116]⟩⟩,⟨⟨[114,101,116]⟩⟩,⟨⟨[111,116,104,101,114]⟩⟩,⟨⟨[110,101,119,95,115,117,109]⟩⟩,⟨⟨[109,117,108,95,110,111,100,101,115]⟩⟩,⟨⟨[121]⟩⟩,⟨⟨[119,104,111,108,101]⟩⟩,⟨⟨[118,97,108,117,101,115]⟩⟩,⟨⟨[118,97,108,117,101]⟩⟩,⟨⟨[118]⟩⟩,⟨⟨[115,116,101,112]⟩⟩,⟨⟨[115,112,97,110]⟩⟩,⟨⟨[115,105,100,101,115]⟩⟩,⟨⟨[114,101,115,116]⟩⟩,⟨⟨[112,108,97,105,110]⟩⟩,⟨⟨[112,97,114,116,115]⟩⟩,⟨⟨[112,97,114,116]⟩⟩,⟨⟨[111,102,102,115,101,116]⟩⟩,⟨⟨[110,117,109,95,110,111,100,101,95,115,117,109]⟩⟩,⟨⟨[110,101,119,95,110,111,100,101,115]⟩⟩,⟨⟨[109,117,108,95,103,114,111,117,112,115]⟩⟩,⟨⟨[109,111,115,116]⟩⟩,⟨⟨[109,111,114,101]⟩⟩,⟨⟨[108,111,119]⟩⟩,⟨⟨[108,101,97,115,116]⟩⟩,⟨⟨[104,101,97,100,115]⟩⟩,⟨⟨[104,101,97,100]⟩⟩,⟨⟨[102,117,108,108,121,95,100,105,118,105,100,101,100]⟩⟩,⟨⟨[100,117,101]⟩⟩,⟨⟨[100,105,118,105,115,111,114]⟩⟩,⟨⟨[98,121]⟩⟩,⟨⟨[98,97,99,107]⟩⟩,⟨⟨[98,95,115,117,109]⟩⟩,⟨⟨[97]⟩⟩,⟨⟨[95,103,99,100]⟩⟩,⟨⟨[95]⟩⟩,⟨⟨[110,109,105,110]⟩⟩,⟨⟨[110,109,97,120]⟩⟩,⟨⟨[101,120,112,114]⟩⟩,⟨⟨[118,97,114,95,118,97,108,115]⟩⟩,⟨⟨[110,117,109,98,101,114]⟩⟩,⟨⟨[110,117,109]⟩⟩,⟨⟨[99,111,117,110,116]⟩⟩,⟨⟨[115,117,109,95,102,117,108,108,121,95,100,105,118,105,100,101,100]⟩⟩,⟨⟨[100,105,118]⟩⟩]
inductive Nm where
 |a|b|min|max|expr|val|nodes|key|flat|render|eq|add|sub|mul|floordiv|mod|substitute|text|sum|append|get|items|join
 deriving DecidableEq
noncomputable def LZ:List (Str×Nm):=[(El,.a),(Dp,.b),(lU,.min),(lV,.max),(rT,.expr),(vC,.val),(lI,.nodes),(LW,.key),(jW,.flat),(Ds,.render),(n_eq,.eq),(QS,.add),(QT,.sub),(QU,.mul),
 (zA,.floordiv),(QV,.mod),(vD,.substitute),(LY,.text),(AO,.sum),(Do,.append),(QR,.get),(FO,.items),(LV,.join)]
inductive Bi where
 |isinstance|abs|sum|sorted|str|len|int
 deriving DecidableEq
noncomputable def biT:List (Str×Bi):=[(oO,.isinstance),(n_abs,.abs),(AO,.sum),(LU,.sorted),(n_str,.str),(n_len,.len),(Dn,.int)]
noncomputable def AP:List (Str×Addr):=[(n_gcd,35),(XZ,220),(Ew,277),(Ix,331),(Ex,340),(AA,347),(Iy,471),(Iz,512),(I0,560),(I5,644),
 (B9,654),(Dq,659),(Dr,666),(LX,673),(I6,680)]
noncomputable def zB(x:Str):List Str->Nat->Option Nat
 |[],_=>none
 |y::r,i=>bif lE x y then some i else zB x r (i+1)
theorem iS_c{x y:Str}{r:List Str}{i:Nat}:zB x (y::r) i=bif lE x y then some i else zB x r (i+1):=rfl
def mS(x:Str):Option Nat:=zB x OJ 0
noncomputable def C8:List Nat->List Nat->Bool
 |[],_=>true
 |_::_,[]=>false
 |a::x,b::y=>bif Nat.blt a b then true else bif Nat.beq a b then C8 x y else false
theorem leL_c{a b:Nat}{x y:List Nat}:C8 (a::x) (b::y)=bif Nat.blt a b then true else bif Nat.beq a b then C8 x y else false:=rfl
def Em(a b:Str):Bool:=C8 a.cps.toList b.cps.toList
noncomputable def sL(x:Str):List Str->List Str
 |[]=>[x]
 |y::r=>bif Em x y then x::y::r else y::sL x r
theorem inS_c{x y:Str}{r:List Str}:sL x (y::r)=bif Em x y then x::y::r else y::sL x r:=rfl
theorem inS_n{x:Str}:sL x []=[x]:=rfl
noncomputable def kP:List Str->List Str
 |[]=>[]
 |x::r=>sL x (kP r)
theorem soS_c{x:Str}{r:List Str}:kP (x::r)=sL x (kP r):=rfl
theorem soS_n:kP []=[]:=rfl
def xV:Str:=sT [40]
def xW:Str:=sT [41]
def à:Str:=sT [91]
def á:Str:=sT [93]
def AQ:Str:=sT [45]
def zC:Str:=sT [42]
def â:Str:=sT [47,47]
def I7:Str:=sT [37]
def pE:Str:=sT [43]
def d9:Str:=sT [68,69,66,85,71]
def Ey:Str:=sT []
mutual
noncomputable def T.rend:T->Str
 |.num n=>pU n
 |.var e l h=>e++à++pU l++AQ++pU h++Ey++á
 |.mul a b=>xV++a.rend++zC++pU b++xW
 |.div a b=>xV++a.rend++â++pU b++xW
 |.mod a b=>xV++a.rend++I7++pU b++xW
 |.sum l=>xV++Str.join pE (kP (T.rends l))++xW
noncomputable def T.rends:List T->List Str
 |[]=>[]
 |t::r=>t.rend::T.rends r
end
theorem rds_n:T.rends []=[]:=rfl
theorem rds_c{t:T}{r:List T}:T.rends (t::r)=t.rend::T.rends r:=rfl
theorem rd_num{n:Int}:(T.num n).rend=pU n:=rfl
theorem rd_var{e:Str}{l h:Int}:(T.var e l h).rend=e++à++pU l++AQ++pU h++Ey++á:=rfl
theorem rd_mul{a:T}{b:Int}:(T.mul a b).rend=xV++a.rend++zC++pU b++xW:=rfl
theorem rd_div{a:T}{b:Int}:(T.div a b).rend=xV++a.rend++â++pU b++xW:=rfl
theorem rd_mod{a:T}{b:Int}:(T.mod a b).rend=xV++a.rend++I7++pU b++xW:=rfl
theorem rd_sum{l:List T}:(T.sum l).rend=xV++Str.join pE (kP (T.rends l))++xW:=rfl
inductive V where
 |none
 |bool (b:Bool)
 |int (i:Int)
 |str (s:Str)
 |node (t:T)
 |lst (l:List V)
 |dct (d:List (Str×V))
 |dit (d:List (Str×V))
 |tup (l:List V)
 |own (i:Nat)
 |glob (a:Addr)
 |bi (n:Bi)
section
variable{α:Type}{d y:α}{v:V}{P:Prop}{Q:α->Prop}
def Yb(d:α)(v:V)(F:Bool->α):α:=tg d (Nat.beq v.ctorIdx 1) λh=>V.bool.elim (motive_1:=λ_=>α) v (aA h) F
theorem vbQ{F:Bool->α}(h:Q d)(k:∀b,v=.bool b->Q (F b)):Q (Yb d v F):=
 sN h λhb=>V.bool.elim (motive_1:=λv=>∀hb:Nat.beq v.ctorIdx 1=true,(∀b,v=.bool b->Q (F b))->Q (V.bool.elim v (aA hb) F)) v (aA hb) (λb _ k=>k b rfl) hb k
theorem vbE{F:Bool->α}(h:Yb d v F=y)(n:d≠y)(k:∀b,v=.bool b->F b=y->P):P:=vbQ (Q:=λz=>z=y->P) (λh=>absurd h n) k h
def AB(d:α)(v:V)(F:Int->α):α:=tg d (Nat.beq v.ctorIdx 2) λh=>V.int.elim (motive_1:=λ_=>α) v (aA h) F
theorem vIQ{F:Int->α}(h:Q d)(k:∀i,v=.int i->Q (F i)):Q (AB d v F):=
 sN h λhb=>V.int.elim (motive_1:=λv=>∀hb:Nat.beq v.ctorIdx 2=true,(∀i,v=.int i->Q (F i))->Q (V.int.elim v (aA hb) F)) v (aA hb) (λi _ k=>k i rfl) hb k
theorem Yc{F:Int->α}(h:AB d v F=y)(n:d≠y)(k:∀i,v=.int i->F i=y->P):P:=vIQ (Q:=λz=>z=y->P) (λh=>absurd h n) k h
def t8(d:α)(v:V)(F:Str->α):α:=tg d (Nat.beq v.ctorIdx 3) λh=>V.str.elim (motive_1:=λ_=>α) v (aA h) F
theorem vSQ{F:Str->α}(h:Q d)(k:∀s,v=.str s->Q (F s)):Q (t8 d v F):=
 sN h λhb=>V.str.elim (motive_1:=λv=>∀hb:Nat.beq v.ctorIdx 3=true,(∀s,v=.str s->Q (F s))->Q (V.str.elim v (aA hb) F)) v (aA hb) (λs _ k=>k s rfl) hb k
theorem QW{F:Str->α}(h:t8 d v F=y)(n:d≠y)(k:∀s,v=.str s->F s=y->P):P:=vSQ (Q:=λz=>z=y->P) (λh=>absurd h n) k h
theorem vSC{F:Str->α}(h:t8 d v F=y)(n:d=y->P)(k:∀s,v=.str s->F s=y->P):P:=vSQ (Q:=λz=>z=y->P) n k h
def zD(d:α)(v:V)(F:T->α):α:=tg d (Nat.beq v.ctorIdx 4) λh=>V.node.elim (motive_1:=λ_=>α) v (aA h) F
theorem vNQ{F:T->α}(h:Q d)(k:∀t,v=.node t->Q (F t)):Q (zD d v F):=
 sN h λhb=>V.node.elim (motive_1:=λv=>∀hb:Nat.beq v.ctorIdx 4=true,(∀t,v=.node t->Q (F t))->Q (V.node.elim v (aA hb) F)) v (aA hb) (λt _ k=>k t rfl) hb k
theorem vNE{F:T->α}(h:zD d v F=y)(n:d≠y)(k:∀t,v=.node t->F t=y->P):P:=vNQ (Q:=λz=>z=y->P) (λh=>absurd h n) k h
theorem vNC{F:T->α}(h:zD d v F=y)(n:d=y->P)(k:∀t,v=.node t->F t=y->P):P:=vNQ (Q:=λz=>z=y->P) n k h
def zE(d:α)(v:V)(F:List V->α):α:=tg d (Nat.beq v.ctorIdx 5) λh=>V.lst.elim (motive_1:=λ_=>α) v (aA h) F
theorem vLQ{F:List V->α}(h:Q d)(k:∀l,v=.lst l->Q (F l)):Q (zE d v F):=
 sN h λhb=>V.lst.elim (motive_1:=λv=>∀hb:Nat.beq v.ctorIdx 5=true,(∀l,v=.lst l->Q (F l))->Q (V.lst.elim v (aA hb) F)) v (aA hb) (λl _ k=>k l rfl) hb k
theorem vLE{F:List V->α}(h:zE d v F=y)(n:d≠y)(k:∀l,v=.lst l->F l=y->P):P:=vLQ (Q:=λz=>z=y->P) (λh=>absurd h n) k h
theorem vLC{F:List V->α}(h:zE d v F=y)(n:d=y->P)(k:∀l,v=.lst l->F l=y->P):P:=vLQ (Q:=λz=>z=y->P) n k h
def Dt(d:α)(v:V)(F:List (Str×V)->α):α:=tg d (Nat.beq v.ctorIdx 6) λh=>V.dct.elim (motive_1:=λ_=>α) v (aA h) F
theorem vDQ{F:List (Str×V)->α}(h:Q d)(k:∀l,v=.dct l->Q (F l)):Q (Dt d v F):=
 sN h λhb=>V.dct.elim (motive_1:=λv=>∀hb:Nat.beq v.ctorIdx 6=true,(∀l,v=.dct l->Q (F l))->Q (V.dct.elim v (aA hb) F)) v (aA hb) (λl _ k=>k l rfl) hb k
theorem vDE{F:List (Str×V)->α}(h:Dt d v F=y)(n:d≠y)(k:∀l,v=.dct l->F l=y->P):P:=vDQ (Q:=λz=>z=y->P) (λh=>absurd h n) k h
def Yd(d:α)(v:V)(F:List (Str×V)->α):α:=tg d (Nat.beq v.ctorIdx 7) λh=>V.dit.elim (motive_1:=λ_=>α) v (aA h) F
theorem vtQ{F:List (Str×V)->α}(h:Q d)(k:∀l,v=.dit l->Q (F l)):Q (Yd d v F):=
 sN h λhb=>V.dit.elim (motive_1:=λv=>∀hb:Nat.beq v.ctorIdx 7=true,(∀l,v=.dit l->Q (F l))->Q (V.dit.elim v (aA hb) F)) v (aA hb) (λl _ k=>k l rfl) hb k
theorem vtE{F:List (Str×V)->α}(h:Yd d v F=y)(n:d≠y)(k:∀l,v=.dit l->F l=y->P):P:=vtQ (Q:=λz=>z=y->P) (λh=>absurd h n) k h
def Ez(d:α)(v:V)(F:List V->α):α:=tg d (Nat.beq v.ctorIdx 8) λh=>V.tup.elim (motive_1:=λ_=>α) v (aA h) F
theorem vTQ{F:List V->α}(h:Q d)(k:∀l,v=.tup l->Q (F l)):Q (Ez d v F):=
 sN h λhb=>V.tup.elim (motive_1:=λv=>∀hb:Nat.beq v.ctorIdx 8=true,(∀l,v=.tup l->Q (F l))->Q (V.tup.elim v (aA hb) F)) v (aA hb) (λl _ k=>k l rfl) hb k
theorem vTE{F:List V->α}(h:Ez d v F=y)(n:d≠y)(k:∀l,v=.tup l->F l=y->P):P:=vTQ (Q:=λz=>z=y->P) (λh=>absurd h n) k h
def E0(d:α)(v:V)(F:Nat->α):α:=tg d (Nat.beq v.ctorIdx 9) λh=>V.own.elim (motive_1:=λ_=>α) v (aA h) F
theorem vOQ{F:Nat->α}(h:Q d)(k:∀i,v=.own i->Q (F i)):Q (E0 d v F):=
 sN h λhb=>V.own.elim (motive_1:=λv=>∀hb:Nat.beq v.ctorIdx 9=true,(∀i,v=.own i->Q (F i))->Q (V.own.elim v (aA hb) F)) v (aA hb) (λi _ k=>k i rfl) hb k
theorem vOE{F:Nat->α}(h:E0 d v F=y)(n:d≠y)(k:∀i,v=.own i->F i=y->P):P:=vOQ (Q:=λz=>z=y->P) (λh=>absurd h n) k h
def Du(d:α)(v:V)(F:Addr->α):α:=tg d (Nat.beq v.ctorIdx 10) λh=>V.glob.elim (motive_1:=λ_=>α) v (aA h) F
theorem vGQ{F:Addr->α}(h:Q d)(k:∀a,v=.glob a->Q (F a)):Q (Du d v F):=
 sN h λhb=>V.glob.elim (motive_1:=λv=>∀hb:Nat.beq v.ctorIdx 10=true,(∀a,v=.glob a->Q (F a))->Q (V.glob.elim v (aA hb) F)) v (aA hb) (λa _ k=>k a rfl) hb k
theorem vGE{F:Addr->α}(h:Du d v F=y)(n:d≠y)(k:∀a,v=.glob a->F a=y->P):P:=vGQ (Q:=λz=>z=y->P) (λh=>absurd h n) k h
theorem vGC{F:Addr->α}(h:Du d v F=y)(n:d=y->P)(k:∀a,v=.glob a->F a=y->P):P:=vGQ (Q:=λz=>z=y->P) n k h
def Ma(d:α)(v:V)(F:Bi->α):α:=tg d (Nat.beq v.ctorIdx 11) λh=>V.bi.elim (motive_1:=λ_=>α) v (aA h) F
theorem vBQ{F:Bi->α}(h:Q d)(k:∀n,v=.bi n->Q (F n)):Q (Ma d v F):=
 sN h λhb=>V.bi.elim (motive_1:=λv=>∀hb:Nat.beq v.ctorIdx 11=true,(∀n,v=.bi n->Q (F n))->Q (V.bi.elim v (aA hb) F)) v (aA hb) (λn _ k=>k n rfl) hb k
theorem vBE{F:Bi->α}(h:Ma d v F=y)(n:d≠y)(k:∀n,v=.bi n->F n=y->P):P:=vBQ (Q:=λz=>z=y->P) (λh=>absurd h n) k h
end
structure Cn where
 frozen:Bool
 val:V
noncomputable abbrev Cs:=List Cn
noncomputable abbrev Ev:=List (Nat×V)
noncomputable def pZ:List V->Option (List T)
 |[]=>some []
 |v::r=>zD none v λt=>(pZ r).map (t::·)
noncomputable def Ye:List V->Option (List Int)
 |[]=>some []
 |v::r=>AB none v λt=>(Ye r).map (t::·)
noncomputable def mV:List V->Option (List Str)
 |[]=>some []
 |v::r=>t8 none v λt=>(mV r).map (t::·)
noncomputable def sM(i:Nat)(c:Cn)(l:Cs):Cs:=List.rec (motive:=λ_=>Nat->Cs) (λ_=>[]) (λd r F i=>Nat.rec (c::r) (λi _=>d::F i) i) l i
theorem E2{i:Nat}{c:Cn}:sM i c []=[]:=rfl
theorem E4{c d:Cn}{r:Cs}:sM 0 c (d::r)=c::r:=rfl
theorem E5{i:Nat}{c d:Cn}{r:Cs}:sM (i+1) c (d::r)=d::sM i c r:=rfl
noncomputable def uK(i:Nat)(l:Cs):Option Cn:=List.rec (motive:=λ_=>Nat->Option Cn) (λ_=>none) (λd _ F i=>Nat.rec (some d) (λi _=>F i) i) l i
theorem gC_n{i:Nat}:uK i []=none:=rfl
def view(v:V)(cs:Cs):Option V:=E0 (some v) v λi=>(uK i cs).map (·.val)
def a8(v:V)(cs:Cs):Option (V×Cs):=E0 (some (v,cs)) v λi=>(uK i cs).map λc=>(c.val,sM i ⟨true,c.val⟩ cs)
noncomputable def eX:List V->Cs->Option (List V×Cs)
 |[],cs=>some ([],cs)
 |v::r,cs=>(a8 v cs).bind λp=>(eX r p.2).map λq=>(p.1::q.1,q.2)
noncomputable def gT(v:V)(cs:Cs):V×Cs:=(.own cs.length,cs++[⟨false,v⟩])
noncomputable def flat(v:V):Bool:=Nat.beq v.ctorIdx 4||Nat.beq v.ctorIdx 2
def eM(v:V)(cs:Cs):Option Bool:=match view v cs with
 |some .none=>some false
 |some (.bool b)=>some b
 |some (.int i)=>some (!decide (i=0))
 |some (.lst l)=>bif Nat.ble l.length 100000 then some (!l.isEmpty)else none
 |_=>none
set_option genCtorIdx false
inductive X where
 |bad
 |var (x:Nat)
 |glob (a:Addr)
 |bi (b:Bi)
 |none
 |bool (b:Bool)
 |int (i:Int)
 |str (s:Str)
 |bin (op:Operator) (a b:X)
 |neg (a:X)
 |not (a:X)
 |and2 (a b:X)
 |bop (isAnd:Bool) (l:List X)
 |ite (t a b:X)
 |cmp (op:CmpOp) (a b:X)
 |list (l:List X)
 |tup (l:List X)
 |dict0
 |attr (o:X) (n:Nm)
 |item (o i:X)
 |upto (o i:X)
 |meth (o:X) (n:Nm) (args:List X) (kws:List (Nat×X))
 |call (f:X) (args:List X) (kws:List (Nat×X))
 |comp (elt:X) (t:List Nat) (src:X) (ifs:List X)
 |comp2 (elt:X) (t:List Nat) (src:X) (t2:List Nat) (src2:X)
 |dcomp (k v:X) (t:List Nat) (src:X)
inductive Y where
 |bad
 |ret (x:X)
 |expr (x:X)
 |pass
 |asg (x:Nat) (e:X)
 |asg2 (x y:Nat) (a b:X)
 |put (d:Nat) (k e:X)
 |aug (x:Nat) (op:Operator) (e:X)
 |ite (t:X) (a b:List Y)
 |asrt (t:X)
 |forL (t:List Nat) (src:X) (body:List Y)
 |forR (t:List Nat) (args:List X) (body:List Y)
 |loop (t:X) (body:List Y)
set_option genCtorIdx true
noncomputable def X.ctorIdx(e:X):Nat:=X.casesOn (motive_1:=λ_=>Nat) e 0 (λ_=>1) (λ_=>2) (λ_=>3) 4 (λ_=>5) (λ_=>6) (λ_=>7) (λ_ _ _=>8) (λ_=>9) (λ_=>10) (λ_ _=>11) (λ_ _=>12) (λ_ _ _=>13) (λ_ _ _=>14) (λ_=>15) (λ_=>16) 17 (λ_ _=>18) (λ_ _=>19) (λ_ _=>20) (λ_ _ _ _=>21) (λ_ _ _=>22) (λ_ _ _ _=>23) (λ_ _ _ _ _=>24) (λ_ _ _ _=>25)
structure Fn where
 params:List Nat
 dflts:List V
 body:List Y
noncomputable abbrev cO:=Addr->List V->List (Nat×V)->Option V
noncomputable def sR:Nm->Str
 |.a=>El|.b=>Dp|.min=>lU|.max=>lV|.expr=>rT|.val=>vC|.nodes=>lI|.key=>LW|.flat=>jW|.render=>Ds|.eq=>n_eq|.add=>QS|.sub=>QT|.mul=>QU
 |.floordiv=>zA|.mod=>QV|.substitute=>vD|.text=>LY|.sum=>AO|.append=>Do|.get=>QR|.items=>FO|.join=>LV
noncomputable def mT(t:T):List (Str×V):=match t with
 |.num b=>[(Dp,.int b),(lU,.int b),(lV,.int b)]
 |.var e l h=>[(rT,.str e),(lU,.int l),(lV,.int h),(vC,.none)]
 |.mul a b=>[(El,.node a),(Dp,.int b),(lU,.int (T.mul a b).lo),(lV,.int (T.mul a b).hi)]
 |.div a b=>[(El,.node a),(Dp,.int b),(lU,.int (T.div a b).lo),(lV,.int (T.div a b).hi)]
 |.mod a b=>[(El,.node a),(Dp,.int b),(lU,.int (T.mod a b).lo),(lV,.int (T.mod a b).hi)]
 |.sum l=>[(lI,.lst (l.map V.node)),(lU,.int (T.los l)),(lV,.int (T.his l))]
def vE(t:T)(n:Nm):Option V:=bif Nat.beq n.ctorIdx 2 then some (.int t.lo)else bif Nat.beq n.ctorIdx 3 then some (.int t.hi)else bif Nat.ble n.ctorIdx 6 then cJ (sR n) (mT t)else none
noncomputable def xE(c n:Nat):List (Nat×Nat×Addr)->Option Addr
 |[]=>none
 |(a,b,f)::r=>bif Nat.beq c a&&Nat.beq n b then some f else xE c n r
theorem lM_c{c n a b:Nat}{f:Addr}{r:List (Nat×Nat×Addr)}:xE c n ((a,b,f)::r)=bif Nat.beq c a&&Nat.beq n b then some f else xE c n r:=rfl
noncomputable def methT:List (Nat×Nat×Addr):=[(331,13,307),(331,10,314),(331,16,321),(331,17,328),(277,16,267),(277,17,274),(471,13,432),(471,14,440),(471,15,447),(471,16,461),(471,17,468),(512,14,488),(512,16,502),(512,17,509),
 (560,15,528),(560,14,536),(560,16,550),(560,17,557),(644,13,612),(644,14,620),(644,15,625),(644,16,630),(644,17,635)]
def zF(C:Addr)(n:Nm):Option Addr:=(xE C n.ctorIdx methT).or (xE 0 n.ctorIdx [(0,9,50),(0,10,86),(0,11,100),(0,12,114),(0,13,156),(0,14,185),(0,15,199)])
def gU(t:T)(n:Nm):Option Addr:=zF t.cls n
def qA(c:Addr)(n:Nm):Option Addr:=xE c n.ctorIdx [(220,18,204),(220,14,185),(220,15,199)]
noncomputable def BA:List Addr:=[220,331,277,471,512,560,644]
def uL(v c:V):Option Bool:=zD (AB none v λ_=>Du (Ma none c λn=>bif Nat.beq n.ctorIdx 6 then some true else none) c λa=>bif BA.any (Nat.beq a)then some false else none) v
 λt=>Du (Ma none c λn=>bif Nat.beq n.ctorIdx 6 then some false else none) c λa=>bif BA.any (Nat.beq a)then some (t.mro.any (Nat.beq a))else none
noncomputable def tO(v:V):List V->Option Bool
 |[]=>bif Nat.beq v.ctorIdx 4||Nat.beq v.ctorIdx 2 then some false else none
 |c::r=>(uL v c).bind λb=>bif b then some true else tO v r
theorem iI_c{v c:V}{r:List V}:tO v (c::r)=(uL v c).bind λb=>bif b then some true else tO v r:=rfl
def eY(op:Operator)(a b:Int):Option V:=match op with
 |.Add=>some (.int (a+b))
 |.Sub=>some (.int (a-b))
 |.Mult=>bif jQ (a*b)then some (.int (a*b))else none
 |.FloorDiv=>bif !decide (b=0)&&jQ b then some (.int (Int.fdiv a b))else none
 |.Mod=>bif !decide (b=0)&&jQ b then some (.int (Int.fmod a b))else none
 |_=>none
noncomputable def E6:Operator->Option Nm
 |.Add=>some .add|.Sub=>some .sub|.Mult=>some .mul|.FloorDiv=>some .floordiv|.Mod=>some .mod|_=>none
def cG(cf:cO)(op:Operator)(a b:V):Option V:=match a,b with
 |.int x,.int y=>eY op x y
 |.str x,.str y=>match op with
  |.Add=>bif Dm (x++y)then some (.str (x++y))else none
  |_=>none
 |.node t,.int y=>(E6 op).bind λn=>(gU t n).bind λf=>cf f [.node t,.int y] []
 |.node t,.node u=>match op with
  |.Add=>cf 100 [.node t,.node u] []
  |_=>none
 |_,_=>none
noncomputable def OK(op:CmpOp)(x y:Int):Option Bool:=match op with
 |.Eq=>some (decide (x=y))|.NotEq=>some (!decide (x=y))|.Lt=>some (decide (x<y))|.LtE=>some (decide (x<=y))
 |.Gt=>some (decide (y<x))|.GtE=>some (decide (y<=x))|_=>none
def j4(cf:cO)(op:CmpOp)(a b:V):Option V:=match a,b with
 |.int x,.int y=>(OK op x y).map .bool
 |.str x,.str y=>match op with
  |.Eq=>some (.bool (lE x y))|_=>none
 |.node t,.int y=>match op with
  |.Eq=>(gU t .eq).bind λf=>cf f [.node t,.int y] []
  |_=>none
 |.node t,.node u=>match op with
  |.Eq=>bif Nat.beq t.cls u.cls then(gU t .eq).bind λf=>cf f [.node t,.node u] []else none
  |_=>none
 |.none,.none=>match op with
  |.IsNot=>some (.bool false)|_=>none
 |.dct _,.none=>match op with
  |.IsNot=>some (.bool true)|_=>none
 |_,_=>none
def tQ(v c:V):Option Bool:=Ez (uL v c) c λl=>tO v l
def wG(n:Bi)(u:V):Option V:=bif Nat.beq n.ctorIdx 1 then(AB none u λi=>some (.int i.natAbs))
 else bif Nat.beq n.ctorIdx 5 then(zE none u λl=>bif Nat.ble l.length 100000 then some (.int l.length)else none)
 else bif Nat.beq n.ctorIdx 4 then(AB none u λi=>bif wF i then some (.str (pU i))else none)else none
def zG(v:V)(n:Nm)(vs:List V):Option V:=t8 (Dt none v λd=>bif decide (n=.get)then AL none vs λw z=>t8 none w λk=>some ((cJ k d).getD z)else none) v
 λs=>bif decide (n=.join)then xD none vs λw=>zE none w λl=>(mV l).bind λss=>bif JoinOk s ss then some (.str (Str.join s ss))else none else none
structure Rec where
 ev:X->Ev->Cs->Option (V×Cs)
 ts:X->Ev->Cs->Option (Bool×Cs)
 ex:Y->Ev->Cs->Option (Option V×Ev×Cs)
noncomputable def FP(r:Rec)(env:Ev):List X->Cs->Option (List V×Cs)
 |[],cs=>some ([],cs)
 |e::es,cs=>(r.ev e env cs).bind λp=>(FP r env es p.2).map λq=>(p.1::q.1,q.2)
def isOwn(v:V):Bool:=Nat.beq v.ctorIdx 9
noncomputable def zH(r:Rec)(env:Ev):List (Nat×X)->Cs->Option (List (Nat×V)×Cs)
 |[],cs=>some ([],cs)
 |(n,e)::es,cs=>(r.ev e env cs).bind λp=>bif isOwn p.1 then none else(zH r env es p.2).map λq=>((n,p.1)::q.1,q.2)
noncomputable def Mb(r:Rec)(env:Ev)(isAnd:Bool):List X->Cs->Option (Bool×Cs)
 |[],cs=>some (isAnd,cs)
 |e::es,cs=>(r.ts e env cs).bind λp=>bif (bif isAnd then p.1 else !p.1)then Mb r env isAnd es p.2 else some (!isAnd,p.2)
def n9(t:List Nat)(v:V)(env:Ev):Option Ev:=xD (AL none t λx y=>Ez none v λl=>AL none l λa b=>some (fO y b (fO x a env))) t λx=>some (fO x v env)
noncomputable def Mc(r:Rec)(env:Ev):List X->Cs->Option (Bool×Cs)
 |[],cs=>some (true,cs)
 |e::es,cs=>(r.ts e env cs).bind λp=>bif p.1 then Mc r env es p.2 else some (false,p.2)
noncomputable def dH(r:Rec)(t:List Nat)(ifs:List X)(env:Ev)(k:Ev->Cs->Option (List V×Cs)):List V->Cs->Option (List V×Cs)
 |[],cs=>some ([],cs)
 |v::vs,cs=>(n9 t v env).bind λenv'=>(Mc r env' ifs cs).bind λp=>
   (bif p.1 then k env' p.2 else some ([],p.2)).bind λq=>(dH r t ifs env k vs q.2).map λz=>(q.1++z.1,z.2)
def E7(v:V)(cs:Cs):Option (List V):=(view v cs).bind λu=>zE none u λl=>bif Nat.blt l.length 64 then some l else none
def fresh(t:List Nat)(env:Ev):Bool:=!t.isEmpty&&t.all λi=>(dZ i env).isNone
def j5(t:List Nat)(v:V)(cs:Cs):Option (List V×Cs):=(a8 v cs).bind λp=>zE (Yd none p.1 λd=>bif Nat.ble d.length 1000&&Nat.beq t.length 2 then some (d.map λq=>.tup [.str q.1,q.2],p.2)else none) p.1
 λl=>bif Nat.ble l.length 1000 then some (l,p.2)else none
def fR(r:Rec)(elt:X)(env:Ev)(cs:Cs):Option (List V×Cs):=(r.ev elt env cs).bind λx=>(a8 x.1 x.2).map λy=>([y.1],y.2)
def E8(k v:V):Option V:=t8 none k λs=>zD none v λt=>some (.tup [.str s,.node t])
def uC(r:Rec)(k v:X)(env:Ev)(cs:Cs):Option (List V×Cs):=(r.ev k env cs).bind λp=>(r.ev v env p.2).bind λq=>(E8 p.1 q.1).map λx=>([x],q.2)
def uM(r:Rec)(elt:X)(t:List Nat)(src:X)(env:Ev)(cs:Cs):Option (List V×Cs):=bif !fresh t env then none else(r.ev src env cs).bind λp=>(j5 t p.1 p.2).bind λl=>dH r t [] env (fR r elt) l.1 l.2
def wH(d:List (Str×V))(x:V):List (Str×V):=Ez d x λl=>AL d l λk v=>t8 d k λs=>lM s v d
def uD(l:List V):List (Str×V):=l.foldl wH []
def jD(cf:cO)(v:V)(n:Nm):Option V:=zD none v λt=>bif Nat.beq n.ctorIdx 7 then(cf 71 [.node t] []).bind λr=>t8 none r λs=>some (.str s)
 else bif Nat.beq n.ctorIdx 8 then(bif Nat.beq t.ctorIdx 5 then cf 640 [.node t] []else none)else vE t n
def jR(o:V)(n:Nm)(cs:Cs):Bool:=zD (Du (E0 (Dt (t8 false o λ_=>decide (n=.join)) o λ_=>decide (n=.items)||decide (n=.get)) o
 λi=>pX false (uK i cs) λc=>zE (Dt false c.val λ_=>decide (n=.items)||decide (n=.get)) c.val λ_=>!c.frozen&&decide (n=.append)) o λc=>(qA c n).isSome) o λt=>(gU t n).isSome
def iL(o:V)(n:Nm)(args:List V)(cs:Cs):Option (V×Cs):=bif decide (n=.append)then(E0 none o λi=>xD none args λx=>bif flat x then(uK i cs).bind λc=>zE none c.val λl=>
   bif !c.frozen&&Nat.ble l.length 100000 then some (.none,sM i ⟨false,.lst (l++[x])⟩ cs)else none else none)
 else bif decide (n=.items)then A9 none args ((a8 o cs).bind λp=>Dt none p.1 λd=>some (.dit d,p.2))
 else(eX args cs).bind λw=>(view o w.2).bind λu=>(zG u n w.1).map λx=>(x,w.2)
def q9(cf:cO)(o:V)(n:Nm)(args:List V)(kws:List (Nat×V))(cs:Cs):Option (V×Cs):=zD (Du (A9 none kws (iL o n args cs)) o
 λc=>(qA c n).bind λf=>(eX args cs).bind λw=>(cf f w.1 kws).map λv=>(v,w.2)) o
 λt=>(gU t n).bind λf=>(eX args cs).bind λw=>(cf f (.node t::w.1) kws).map λv=>(v,w.2)
def QX(v:V)(cs:Cs):Option (V×Cs):=(E7 v cs).bind λl=>(mV l).map λss=>gT (.lst ((kP ss).map V.str)) cs
def biV(n:Bi)(vs:List V)(cs:Cs):Option (V×Cs):=match vs with
 |[v]=>bif decide (n=.sorted)then QX v cs else(view v cs).bind λu=>(wG n u).map λx=>(x,cs)
 |[v,c]=>bif decide (n=.isinstance)then(tQ v c).map λb=>(.bool b,cs)else none
 |_=>none
def qB(cf:cO)(f:V)(args:List V)(kws:List (Nat×V))(cs:Cs):Option (V×Cs):=Du (Ma none f λn=>A9 none kws (biV n args cs)) f λa=>(eX args cs).bind λw=>(cf a w.1 kws).map λv=>(v,w.2)
def eZ(o i:V)(cs:Cs):Option V:=(view o cs).bind λu=>zE (Dt none u λd=>t8 none i λk=>cJ k d) u λl=>AB none i λk=>bif decide (0<=k)&&decide (k<1000)then l[k.toNat]? else none
def Md(o i:V)(cs:Cs):Option (V×Cs):=(view o cs).bind λu=>zE none u λl=>AB none i λk=>bif decide (0<=k)&&decide (k<1000)&&Nat.ble l.length 100000 then some (gT (.lst (l.take k.toNat)) cs)else none
def dI(cf:cO)(r:Rec)(e:X)(env:Ev)(cs:Cs):Option (V×Cs):=X.casesOn (motive_1:=λ_=>Option (V×Cs)) e
 (none)
 (λx=>(dZ x env).map λv=>(v,cs))
 (λa=>some (.glob a,cs))
 (λb=>some (.bi b,cs))
 (some (.none,cs))
 (λb=>some (.bool b,cs))
 (λi=>some (.int i,cs))
 (λs=>some (.str s,cs))
 (λop l rr=>(r.ev l env cs).bind λp=>(r.ev rr env p.2).bind λq=>(cG cf op p.1 q.1).map λv=>(v,q.2))
 (λx=>(r.ev x env cs).bind λp=>match p.1 with
  |.int i=>some (.int (-i),p.2)
  |_=>none)
 (λx=>(r.ev x env cs).bind λp=>(eM p.1 p.2).map λb=>(.bool (!b),p.2))
 (λx y=>(r.ev x env cs).bind λp=>(eM p.1 p.2).bind λb=>bif b then r.ev y env p.2 else some p)
 (λ_ _=>none)
 (λt a b=>(r.ts t env cs).bind λp=>bif p.1 then r.ev a env p.2 else r.ev b env p.2)
 (λop l x=>(r.ev l env cs).bind λp=>(r.ev x env p.2).bind λq=>(j4 cf op p.1 q.1).map λv=>(v,q.2))
 (λes=>bif !Nat.blt es.length 20 then none else(FP r env es cs).bind λp=>(eX p.1 p.2).map λq=>gT (.lst q.1) q.2)
 (λes=>bif !Nat.blt es.length 20 then none else(FP r env es cs).bind λp=>(eX p.1 p.2).map λq=>(.tup q.1,q.2))
 (some (gT (.dct []) cs))
 (λo n=>(r.ev o env cs).bind λp=>(jD cf p.1 n).map λv=>(v,p.2))
 (λo i=>(r.ev o env cs).bind λp=>(r.ev i env p.2).bind λq=>(eZ p.1 q.1 q.2).map λv=>(v,q.2))
 (λo u=>(r.ev o env cs).bind λp=>(r.ev u env p.2).bind λq=>Md p.1 q.1 q.2)
 (λo n args kws=>(r.ev o env cs).bind λp=>bif !jR p.1 n p.2 then none else(FP r env args p.2).bind λq=>(zH r env kws q.2).bind λz=>q9 cf p.1 n q.1 z.1 z.2)
 (λf args kws=>(r.ev f env cs).bind λp=>(FP r env args p.2).bind λq=>(zH r env kws q.2).bind λz=>qB cf p.1 q.1 z.1 z.2)
 (λelt t it ifs=>bif !fresh t env then none else(r.ev it env cs).bind λp=>(j5 t p.1 p.2).bind λl=>(dH r t ifs env (fR r elt) l.1 l.2).map λq=>gT (.lst q.1) q.2)
 (λelt t it t2 it2=>bif !(fresh t env&&fresh t2 env)then none else(r.ev it env cs).bind λp=>(j5 t p.1 p.2).bind λl=>(dH r t [] env (uM r elt t2 it2) l.1 l.2).map λq=>gT (.lst q.1) q.2)
 (λk v t it=>bif !fresh t env then none else(r.ev it env cs).bind λp=>(j5 t p.1 p.2).bind λl=>(dH r t [] env (uC r k v) l.1 l.2).map λq=>gT (.dct (uD q.1)) q.2)
def spX(e:X):Bool:=Nat.beq e.ctorIdx 10||Nat.beq e.ctorIdx 11||Nat.beq e.ctorIdx 12
def plX(e:X):Bool:=Nat.beq e.ctorIdx 1||Nat.beq e.ctorIdx 8||Nat.beq e.ctorIdx 14||Nat.beq e.ctorIdx 18||Nat.beq e.ctorIdx 22
def tP(cf:cO)(r:Rec)(e:X)(env:Ev)(cs:Cs):Option (Bool×Cs):=(dI cf r e env cs).bind λp=>(eM p.1 p.2).map λb=>(b,p.2)
def zJ(cf:cO)(r:Rec)(e:X)(env:Ev)(cs:Cs):Option (Bool×Cs):=
 X.casesOn (motive_1:=λ_=>Option (Bool×Cs)) e none (λ_=>tP cf r e env cs) (λ_=>none) (λ_=>none) none (λ_=>none) (λ_=>none) (λ_=>none) (λ_ _ _=>tP cf r e env cs) (λ_=>none) (λx=>(r.ts x env cs).map λp=>(!p.1,p.2)) (λx y=>Mb r env true [x,y] cs) (λisAnd es=>Mb r env isAnd es cs) (λ_ _ _=>none) (λ_ _ _=>tP cf r e env cs) (λ_=>none) (λ_=>none) none (λ_ _=>tP cf r e env cs) (λ_ _=>none) (λ_ _=>none) (λ_ _ _ _=>none) (λ_ _ _=>tP cf r e env cs) (λ_ _ _ _=>none) (λ_ _ _ _ _=>none) (λ_ _ _ _=>none)
theorem Me{cf:cO}{r:Rec}{e:X}(h:spX e=false)(hp:plX e=true)(env:Ev)(cs:Cs):zJ cf r e env cs=(dI cf r e env cs).bind λp=>(eM p.1 p.2).map λb=>(b,p.2):=by
 clear h;induction e using X.casesOn<;>first|(exact bX hp;done)|rfl
noncomputable abbrev Mf:=Option (Option V×Ev×Cs)
noncomputable def uN(r:Rec):List Y->Ev->Cs->Mf
 |[],env,cs=>some (none,env,cs)
 |s::ss,env,cs=>(r.ex s env cs).bind λp=>match p.1 with
  |some v=>some (some v,p.2)
  |none=>uN r ss p.2.1 p.2.2
noncomputable def gV(r:Rec)(t:List Nat)(body:List Y):List V->Ev->Cs->Mf
 |[],env,cs=>some (none,env,cs)
 |v::vs,env,cs=>(n9 t v env).bind λenv'=>(uN r body env' cs).bind λp=>match p.1 with
  |some x=>some (some x,p.2)
  |none=>gV r t body vs p.2.1 p.2.2
noncomputable def mW(r:Rec)(test:X)(body:List Y):Nat->Ev->Cs->Mf
 |0,_,_=>none
 |n+1,env,cs=>(r.ts test env cs).bind λp=>bif p.1 then(uN r body env p.2).bind λq=>match q.1 with
   |some x=>some (some x,q.2)
   |none=>mW r test body n q.2.1 q.2.2
  else some (none,env,p.2)
noncomputable def eK(lo:Int):Nat->List V
 |0=>[]
 |n+1=>.int lo::eK (lo+1) n
theorem rV_s{lo:Int}{n:Nat}:eK lo (n+1)=.int lo::eK (lo+1) n:=rfl
theorem rV_z{lo:Int}:eK lo 0=[]:=rfl
def l9:List V->Option (List V)
 |[.int b]=>bif decide (-1000<b)&&decide (b<1000)then some (eK 0 b.toNat)else none
 |[.int a,.int b]=>bif decide (0<=a)&&decide (a<1000)&&decide (-1000<b)&&decide (b<1000)then some (eK a (b-a).toNat)else none
 |_=>none
def g7(v:V):Bool:=Nat.beq v.ctorIdx 0
def AC(o k x:V)(cs:Cs):Option Cs:=E0 none o λi=>t8 none k λs=>(uK i cs).bind λc=>Dt none c.val λm=>bif !c.frozen&&flat x&&Nat.ble m.length 1000 then some (sM i ⟨false,.dct (lM s x m)⟩ cs)else none
def OL(o x:V):Option V:=AB none o λa=>AB none x λb=>some (.int (a+b))
def wI(fuel:Nat)(r:Rec)(s:Y)(env:Ev)(cs:Cs):Mf:=Y.casesOn (motive_1:=λ_=>Mf) s
 (none)
 (λe=>(r.ev e env cs).bind λp=>(a8 p.1 p.2).map λq=>(some q.1,env,q.2))
 (λe=>(r.ev e env cs).bind λp=>bif g7 p.1 then some (none,env,p.2)else none)
 (some (none,env,cs))
 (λx e=>(r.ev e env cs).map λp=>(none,fO x p.1 env,p.2))
 (λx y a b=>(r.ev a env cs).bind λp=>(r.ev b env p.2).map λq=>(none,fO y q.1 (fO x p.1 env),q.2))
 (λd k e=>(r.ev e env cs).bind λp=>(dZ d env).bind λo=>(r.ev k env p.2).bind λq=>(AC o q.1 p.1 q.2).map λc=>(none,env,c))
 (λx op e=>bif decide (op=.Add)then(dZ x env).bind λo=>(r.ev e env cs).bind λp=>(OL o p.1).map λv=>(none,fO x v env,p.2)else none)
 (λt a b=>(r.ts t env cs).bind λp=>bif p.1 then uN r a env p.2 else uN r b env p.2)
 (λt=>(r.ts t env cs).bind λp=>bif p.1 then some (none,env,p.2)else none)
 (λt it body=>(r.ev it env cs).bind λp=>(j5 t p.1 p.2).bind λl=>gV r t body l.1 env l.2)
 (λt args body=>(FP r env args cs).bind λp=>(l9 p.1).bind λl=>gV r t body l env p.2)
 (λt body=>mW r t body fuel env cs)
noncomputable def bJ(cf:cO):Nat->Rec
 |0=>⟨λ_ _ _=>none,λ_ _ _=>none,λ_ _ _=>none⟩
 |n+1=>⟨dI cf (bJ cf n),zJ cf (bJ cf n),wI 2000 (bJ cf n)⟩
def mkV(c:Addr)(vs:List V):Option V:=match vs with
 |[.int n]=>bif Nat.beq c 331 then some (.node (.num n))else none
 |[.str e,.int lo,.int hi]=>bif Nat.beq c 277 then some (.node (.var e lo hi))else none
 |[.node a,.int b]=>bif decide (0<=a.lo)then
    (bif Nat.beq c 471 then(bif jQ (a.lo*b)&&jQ (a.hi*b)then some (.node (.mul a b))else none)
    else bif Nat.beq c 512 then(bif !decide (b=0)&&jQ b then some (.node (.div a b))else none)
    else bif Nat.beq c 560 then(bif !decide (b=0)&&jQ b then some (.node (.mod a b))else none)else none)
   else none
 |[.lst l]=>bif Nat.beq c 644&&Nat.ble l.length 1000 then(pZ l).map λts=>.node (.sum ts)else none
 |_=>none
noncomputable def E9(k:Nat):List Nat->Bool
 |[]=>false
 |p::r=>match r with
  |[]=>Nat.beq p k
  |q::r=>E9 k (q::r)
def vF(ps:List Nat)(vs:List V)(kws:List (Nat×V))(ds:List V):Option Ev:=match kws with
 |[]=>bif Nat.beq ps.length vs.length then some (ps.zip vs)else
  bif Nat.beq ps.length (vs.length+1)then(match ds with
   |[]=>none
   |d::_=>some (ps.zip (vs++[d])))else none
 |q::r=>bif r.isEmpty&&Nat.beq ps.length (vs.length+1)&&E9 q.1 ps then some (ps.zip (vs++[q.2]))else none
noncomputable def AD:Nat:=40
noncomputable def Dv(f:Addr):Bool:=Nat.beq f 331||Nat.beq f 277||Nat.beq f 471||Nat.beq f 512||Nat.beq f 560||Nat.beq f 644
def aB(fi:Addr->Option Fn)(d:Nat):cO:=Nat.rec (motive:=λ_=>cO) (λ_ _ _=>none) (λ_ F f vs kws=>
  bif Nat.beq f 71 then xD none vs λv=>zD none v λt=>pX none (F 50 vs [(3,.str d9)]) λu=>t8 none u λs=>bif lE s t.rend&&kws.isEmpty then some (.str s)else none
  else bif Dv f then A9 none kws (mkV f vs)
  else(fi f).bind λi=>(vF i.params vs kws i.dflts).bind λenv=>(uN (bJ F AD) i.body env []).bind λp=>some (match p.1 with|some v=>v|none=>.none)) d
def gD(e:Expr):Bool:=!Nat.beq e.ctorIdx 7
noncomputable def gE:List Expr->Bool
 |[]=>true
 |e::r=>!Nat.beq e.ctorIdx 22&&gE r
def wJ(e:Expr):Bool:=!yX false e λf l k _=>Nat.beq f.ctorIdx 23&&l.isEmpty&&k.isEmpty
def mA(e:Expr):Bool:=!(Nat.beq e.ctorIdx 8||Nat.beq e.ctorIdx 9||Nat.beq e.ctorIdx 10)
def sS(e:Expr):Bool:=!Nat.beq e.ctorIdx 26
def FS(i:Nat)(sc:Scope)(x:Str):Bool:=pX false (cJ x sc.names) λk=>Nat.beq k.ctorIdx i
theorem lN{i:Nat}{sc:Scope}{x:Str}(h:FS i sc x=true):cJ x sc.names=some (NameKind.ofNat i):=
 oQ (Q:=λz=>z=true->cJ x sc.names=some (NameKind.ofNat i)) (λh=>bX h) (λk e h=>by rw[e,<-aA h,NameKind.ofNat_ctorIdx]) h
def uE(sc:Scope)(x:Str):Bool:=FS 0 sc x
def wK(sc:Scope)(x:Str):Bool:=FS 0 sc x||FS 1 sc x
def Mg(sc:Scope)(x:Str):Bool:=FS 1 sc x||FS 2 sc x
def Dw(sc:Scope)(x:Str):Bool:=FS 4 sc x
def Mh(sc:Scope):Bool:=Nat.beq sc.kind.ctorIdx 1
theorem Dx{sc:Scope}(h:Mh sc=true):sc.kind=.function:=by rw[<-ScopeKind.ofNat_ctorIdx sc.kind,aA h];rfl
def OM:Str:=sT [46,48]
def jS(e:Expr):List Str:=qQ (uB [] e λl _ _=>AL [] l λa b=>qQ [] a λx _=>qQ [] b λy _=>[x,y]) e λx _=>[x]
noncomputable def oY(sc dA:Scope)(ts:List Str):List (Str×NameKind)->Bool
 |[]=>true
 |(x,.local)::r=>uE dA x&&(lE x OM||ts.any (lE x))&&oY sc dA ts r
 |(_,.cell)::_=>false
 |(x,.free)::r=>Mg sc x&&oY sc dA ts r
 |_::r=>oY sc dA ts r
def jT(sc dA:Scope)(ts:List Str):Bool:=Mh dA&&oY sc dA ts dA.names
def tgtO(sc:Scope)(e:Expr):Option (List Nat):=(qQ none e λx _=>bif uE sc x then(mS x).map λi=>[i]else none).or
 (uB none e λl _ _=>AL none l λa b=>qQ none a λx _=>qQ none b λy _=>bif uE sc x&&uE sc y&&!lE x y then(mS x).bind λi=>(mS y).map λj=>[i,j]else none)
def uF(sc:Scope)(e:Expr):List Nat:=(tgtO sc e).getD []
def erK(k:Keyword):Option Nat:=match k.arg with
 |some x=>mS x
 |none=>none
noncomputable def Dy(f:Expr->X):List Keyword->Option (List (Nat×X))
 |[]=>some []
 |k::r=>match erK k with
  |some i=>match Dy f r with
   |some l=>some ((i,f k.value)::l)
   |none=>none
  |none=>none
def Mi(e:Expr):Bool:=Nat.beq e.ctorIdx 23
def Mj(e:Expr):Option Expr:=LR none e λa b c _=>bif a.isNone&&c.isNone then b else none
def BB(sc:Scope)(x:Str):X:=bif FS 0 sc x||FS 1 sc x||FS 2 sc x then pX .bad (mS x) .var else bif FS 4 sc x then pX (pX .bad (cJ x biT) .bi) (cJ x AP) .glob else .bad
noncomputable def FU(c:Const):X:=PySem.Const.casesOn (motive:=λ_=>X) c
 (.none)
 (λb=>.bool b)
 (λi=>.int i)
 (λ_=>.bad)
 (λ_ _=>.bad)
 (λs=>.str s)
 (λ_=>.bad)
 (.bad)
def Yg(f:Expr->X)(op:BoolOp)(es:List Expr):X:=match op with
 |.And=>AL (.bop true (es.map f)) es λx y=>.and2 (f x) (f y)
 |.Or=>.bop false (es.map f)
noncomputable def erUn(f:Expr->X)(op:UnaryOp)(x:Expr):X:=match op with
 |.Not=>.not (f x)
 |.USub=>.neg (f x)
 |_=>.bad
def erCmp(f:Expr->X)(l:Expr)(ops:List CmpOp)(xs:List Expr):X:=xD .bad ops λop=>xD .bad xs λx=>bif gD x then .cmp op (f l) (f x)else .bad
def Yh(ks:List (Option Expr))(vs:List Expr):X:=A9 .bad ks (A9 .bad vs .dict0)
def EA(f:Expr->X)(o:Expr)(a:Str):X:=bif wJ o then pX .bad (cJ a LZ) λm=>.attr (f o) m else .bad
def erSub(f:Expr->X)(o i:Expr):X:=pX (bif sS i then .item (f o) (f i)else .bad) (Mj i) λu=>bif Mi o then .upto (f o) (f u)else .bad
def Mk(f:Expr->X)(fn:Expr)(args:List Expr)(kws:List Keyword)(p:Pos):X:=vB (qQ .bad fn λx q=>bif gE args&&Nat.blt (args.length+kws.length) 20 then(pX .bad (Dy f kws) λl=>.call (f (.Name x q)) (args.map f) l)else .bad) fn
 λo a ap=>bif wJ o&&gE args&&Nat.beq ap.endLine p.line&&Nat.blt (args.length+kws.length) 20 then(pX .bad (cJ a LZ) λm=>pX .bad (Dy f kws) λl=>.meth (f o) m (args.map f) l)else .bad
def EB(f f':Expr->X)(sc dA:Scope)(elt:Expr)(gens:List Comprehension):X:=xD (AL .bad gens λg h=>
  bif decide (g.is_async=0)&&decide (h.is_async=0)&&g.ifs.isEmpty&&h.ifs.isEmpty&&jT sc dA (jS g.target++jS h.target)&&gD g.iter&&gD h.iter then
   .comp2 (f' elt) (uF dA g.target) (f g.iter) (uF dA h.target) (f' h.iter)else .bad)
 gens λg=>bif decide (g.is_async=0)&&jT sc dA (jS g.target)&&gD g.iter then .comp (f' elt) (uF dA g.target) (f g.iter) (g.ifs.map f')else .bad
def ON(f f':Expr->X)(sc dA:Scope)(k v:Expr)(gens:List Comprehension):X:=xD .bad gens λg=>
 bif decide (g.is_async=0)&&g.ifs.isEmpty&&jT sc dA (jS g.target)&&gD g.iter then .dcomp (f' k) (f' v) (uF dA g.target) (f g.iter)else .bad
def er(n:Nat):Scope->Expr->X:=Nat.rec (motive:=λ_=>Scope->Expr->X) (λ_ _=>.bad) (λ_ F sc e=>PySem.Expr.casesOn (motive_1:=λ_=>X) e
  (λop es _=>Yg (F sc) op es)
  (λ_ _ _=>.bad)
  (λl op r _=>.bin op (F sc l) (F sc r))
  (λop x _=>erUn (F sc) op x)
  (λ_ _ _ _=>.bad)
  (λt a b _=>.ite (F sc t) (F sc a) (F sc b))
  (λks vs _=>Yh ks vs)
  (λ_ _ _=>.bad)
  (λelt gens dA _=>EB (F sc) (F dA) sc dA elt gens)
  (λ_ _ _ _=>.bad)
  (λk v gens dA _=>ON (F sc) (F dA) sc dA k v gens)
  (λ_ _ _ _=>.bad)
  (λ_ _=>.bad)
  (λ_ _=>.bad)
  (λ_ _=>.bad)
  (λl ops xs _=>erCmp (F sc) l ops xs)
  (λfn args kws p=>Mk (F sc) fn args kws p)
  (λ_ _ _ _=>.bad)
  (λ_ _=>.bad)
  (λc _ _=>FU c)
  (λo a _=>EA (F sc) o a)
  (λo i _=>erSub (F sc) o i)
  (λ_ _=>.bad)
  (λx _=>BB sc x)
  (λes _=>bif gE es then .list (es.map (F sc))else .bad)
  (λes _ _=>bif gE es then .tup (es.map (F sc))else .bad)
  (λ_ _ _ _=>.bad)) n
def Ml(sc:Scope)(x:Str)(px:Pos)(e:Expr):Bool:=OG false e λelt gens dA p=>uE sc x&&Nat.beq px.line (Expr.ListComp elt gens dA p).pos.line&&!(dA.names.any λ(n,k)=>n==x&&(k==.local||k==.cell))
def Mm(sc:Scope)(a b e:Expr):Y:=qQ .bad a λx px=>qQ .bad b λy py=>uB .bad e λvs _ _=>AL .bad vs λu v=>
 bif uE sc x&&uE sc y&&Nat.beq py.line px.line&&!lE x y&&gE [u,v]&&!([u,v].all (foldedForSure 8))&&!([u,v].all (constantsAlone 8))then(pX .bad (mS x) λi=>pX .bad (mS y) λj=>.asg2 i j (er 20 sc u) (er 20 sc v))else .bad
def QY(sc:Scope)(d k e:Expr):Y:=qQ .bad d λx _=>bif mA e&&sS k&&(FS 0 sc x||FS 1 sc x||FS 2 sc x)then(pX .bad (mS x) λi=>.put i (er 20 sc k) (er 20 sc e))else .bad
def QZ(sc:Scope)(t e:Expr):Y:=qQ (uB (LS .bad t λd k _=>QY sc d k e) t λes _ _=>AL .bad es λa b=>Mm sc a b e) t
 λx px=>bif (mA e&&wK sc x)||Ml sc x px e then(pX .bad (mS x) λi=>.asg i (er 20 sc e))else .bad
def erAug(sc:Scope)(t:Expr)(op:Operator)(e:Expr):Y:=qQ .bad t λx _=>bif uE sc x then(pX .bad (mS x) λi=>.aug i op (er 20 sc e))else .bad
def wL(sc:Scope)(it:Expr):Option (List Expr):=yX none it λfn args kws _=>qQ none fn λf _=>bif lE f pY&&gE args&&kws.isEmpty&&Dw sc f then some args else none
def erFor(f:Stmt->Y)(sc:Scope)(t it:Expr)(body orelse:List Stmt):Y:=A9 .bad orelse (qQ .bad t λ_ _=>
 pX (bif gD it then .forL (uF sc t) (er 20 sc it) (body.map f)else .bad) (wL sc it) λargs=>.forR (uF sc t) (args.map (er 20 sc)) (body.map f))
def A7(n:Nat):Scope->Stmt->Y:=Nat.rec (motive:=λ_=>Scope->Stmt->Y) (λ_ _=>.bad) (λ_ F sc s=>PySem.Stmt.casesOn (motive_2:=λ_=>Y) s
  (λ_ _ _ _ _ _ _ _ _ _=>.bad)
  (λ_ _ _ _ _ _ _ _ _ _=>.bad)
  (λ_ _ _ _ _ _ _ _ _ _ _=>.bad)
  (λe _=>pX .bad e λe=>.ret (er 20 sc e))
  (λ_ _=>.bad)
  (λts e _=>xD .bad ts λt=>QZ sc t e)
  (λ_ _ _ _ _ _ _=>.bad)
  (λt op e _=>erAug sc t op e)
  (λ_ _ _ _ _=>.bad)
  (λt it body orelse _=>erFor (F sc) sc t it body orelse)
  (λ_ _ _ _ _=>.bad)
  (λt body orelse _=>A9 .bad orelse (.loop (er 20 sc t) (body.map (F sc))))
  (λt a b _=>.ite (er 20 sc t) (a.map (F sc)) (b.map (F sc)))
  (λ_ _ _=>.bad)
  (λ_ _ _=>.bad)
  (λ_ _ _=>.bad)
  (λ_ _ _=>.bad)
  (λ_ _ _ _ _=>.bad)
  (λ_ _ _ _ _=>.bad)
  (λt m _=>bif m.isNone then .asrt (er 20 sc t)else .bad)
  (λ_ _=>.bad)
  (λ_ _ _ _=>.bad)
  (λ_ _=>.bad)
  (λ_ _=>.bad)
  (λe _=>bif mA e then .expr (er 20 sc e)else .bad)
  (λ_=>.pass)
  (λ_=>.bad)
  (λ_=>.bad)) n
def erF(s:Stmt)(ds:List V):Fn:=PySem.Stmt.casesOn (motive_2:=λ_=>Fn) s
 (λ_ a b _ _ _ sc _ _ _=>⟨a.args.map (λx=>match mS x.arg with|some i=>i|none=>0),ds,b.map (A7 12 sc)⟩)
 (λ_ _ _ _ _ _ _ _ _ _=>⟨[],[],[]⟩)
 (λ_ _ _ _ _ _ _ _ _ _ _=>⟨[],[],[]⟩)
 (λ_ _=>⟨[],[],[]⟩)
 (λ_ _=>⟨[],[],[]⟩)
 (λ_ _ _=>⟨[],[],[]⟩)
 (λ_ _ _ _ _ _ _=>⟨[],[],[]⟩)
 (λ_ _ _ _=>⟨[],[],[]⟩)
 (λ_ _ _ _ _=>⟨[],[],[]⟩)
 (λ_ _ _ _ _=>⟨[],[],[]⟩)
 (λ_ _ _ _ _=>⟨[],[],[]⟩)
 (λ_ _ _ _=>⟨[],[],[]⟩)
 (λ_ _ _ _=>⟨[],[],[]⟩)
 (λ_ _ _=>⟨[],[],[]⟩)
 (λ_ _ _=>⟨[],[],[]⟩)
 (λ_ _ _=>⟨[],[],[]⟩)
 (λ_ _ _=>⟨[],[],[]⟩)
 (λ_ _ _ _ _=>⟨[],[],[]⟩)
 (λ_ _ _ _ _=>⟨[],[],[]⟩)
 (λ_ _ _=>⟨[],[],[]⟩)
 (λ_ _=>⟨[],[],[]⟩)
 (λ_ _ _ _=>⟨[],[],[]⟩)
 (λ_ _=>⟨[],[],[]⟩)
 (λ_ _=>⟨[],[],[]⟩)
 (λ_ _=>⟨[],[],[]⟩)
 (λ_=>⟨[],[],[]⟩)
 (λ_=>⟨[],[],[]⟩)
 (λ_=>⟨[],[],[]⟩)
noncomputable def f35:Fn:=⟨[41,2],[],[
 (.loop (.var 2) [(.asg2 41 2 (.var 2) (.bin .Mod (.var 41) (.var 2)))]),
 (.ret (.call (.bi .abs) [(.var 41)] []))]⟩
noncomputable def f50:Fn:=⟨[1,3],[.none],[
 (.asrt (.bop false [(.call (.bi .isinstance) [(.var 1),(.tup [(.glob 277),(.glob 331)])] []),(.cmp .NotEq (.attr (.var 1) .min) (.attr (.var 1) .max))])),
 (.ret (.meth (.var 1) .text [(.var 3)] []))]⟩
noncomputable def f86:Fn:=⟨[1,10],[],[
 (.ite (.not (.call (.bi .isinstance) [(.var 10),(.glob 220)] [])) [(.ret (.bool false))] []),
 (.ret (.cmp .Eq (.attr (.var 1) .key) (.attr (.var 10) .key)))]⟩
noncomputable def f100:Fn:=⟨[1,2],[],[
 (.ret (.meth (.glob 220) .sum [(.list [(.var 1),(.ite (.call (.bi .isinstance) [(.var 2),(.bi .int)] []) (.call (.glob 331) [(.var 2)] []) (.var 2))])] []))]⟩
noncomputable def f114:Fn:=⟨[1,2],[],[
 (.ret (.bin .Add (.var 1) (.neg (.var 2))))]⟩
noncomputable def f156:Fn:=⟨[1,2],[],[
 (.ite (.cmp .Eq (.var 2) (.int 0)) [(.ret (.call (.glob 331) [(.int 0)] []))] []),
 (.ite (.cmp .Eq (.var 2) (.int 1)) [(.ret (.var 1))] []),
 (.ret (.ite (.call (.bi .isinstance) [(.var 2),(.glob 331)] []) (.call (.glob 347) [(.call (.glob 471) [(.var 1),(.attr (.var 2) .b)] [])] []) (.call (.glob 347) [(.call (.glob 471) [(.var 1),(.var 2)] [])] [])))]⟩
noncomputable def xX:Fn:=⟨[1,2,7],[.bool true],[
 (.ite (.call (.bi .isinstance) [(.var 2),(.glob 220)] []) [(.ite (.call (.bi .isinstance) [(.var 2),(.glob 331)] []) [(.ret (.meth (.var 1) .floordiv [(.attr (.var 2) .b),(.var 7)] []))] []),(.ite (.cmp .Eq (.var 1) (.var 2)) [(.ret (.call (.glob 331) [(.int 1)] []))] []),(.ite (.and2 (.cmp .Gt (.attr (.bin .Sub (.var 2) (.var 1)) .min) (.int 0)) (.cmp .GtE (.attr (.var 1) .min) (.int 0))) [(.ret (.call (.glob 331) [(.int 0)] []))] []),.bad] []),
 (.asrt (.cmp .NotEq (.var 2) (.int 0))),
 (.ite (.cmp .Lt (.var 2) (.int 0)) [(.ret (.meth (.bin .Mult (.var 1) (.neg (.int 1))) .floordiv [(.neg (.var 2)),(.var 7)] []))] []),
 (.ite (.cmp .Eq (.var 2) (.int 1)) [(.ret (.var 1))] []),
 (.ite (.cmp .Lt (.attr (.var 1) .min) (.int 0)) [(.asg 25 (.bin .FloorDiv (.attr (.var 1) .min) (.var 2))),(.ret (.bin .Add (.meth (.bin .Add (.var 1) (.bin .Mult (.neg (.var 25)) (.var 2))) .floordiv [(.var 2)] [(7,(.bool false))]) (.var 25)))] []),
 (.ret (.call (.glob 347) [(.call (.glob 512) [(.var 1),(.var 2)] [])] []))]⟩
noncomputable def f199:Fn:=⟨[1,2],[],[
 (.ite (.call (.bi .isinstance) [(.var 2),(.glob 220)] []) [(.ite (.call (.bi .isinstance) [(.var 2),(.glob 331)] []) [(.ret (.bin .Mod (.var 1) (.attr (.var 2) .b)))] []),(.ite (.cmp .Eq (.var 1) (.var 2)) [(.ret (.call (.glob 331) [(.int 0)] []))] []),(.ite (.and2 (.cmp .Gt (.attr (.bin .Sub (.var 2) (.var 1)) .min) (.int 0)) (.cmp .GtE (.attr (.var 1) .min) (.int 0))) [(.ret (.var 1))] []),.bad] []),
 (.asrt (.cmp .Gt (.var 2) (.int 0))),
 (.ite (.cmp .Eq (.var 2) (.int 1)) [(.ret (.call (.glob 331) [(.int 0)] []))] []),
 (.ite (.and2 (.call (.bi .isinstance) [(.attr (.var 1) .max),(.bi .int)] []) (.call (.bi .isinstance) [(.attr (.var 1) .min),(.bi .int)] [])) [(.ite (.cmp .Eq (.bin .FloorDiv (.attr (.var 1) .min) (.var 2)) (.bin .FloorDiv (.attr (.var 1) .max) (.var 2))) [(.ret (.bin .Sub (.var 1) (.bin .Mult (.var 2) (.bin .FloorDiv (.attr (.var 1) .min) (.var 2)))))] []),(.ite (.cmp .Lt (.attr (.var 1) .min) (.int 0)) [(.ret (.bin .Mod (.bin .Sub (.var 1) (.bin .Mult (.bin .FloorDiv (.attr (.var 1) .min) (.var 2)) (.var 2))) (.var 2)))] [])] []),
 (.ret (.call (.glob 347) [(.call (.glob 560) [(.var 1),(.var 2)] [])] []))]⟩
noncomputable def rB:Fn:=⟨[4],[],[
 (.asg 4 (.comp (.var 0) [0] (.var 4) [(.bop false [(.attr (.var 0) .max),(.attr (.var 0) .min)])])),
 (.ite (.not (.var 4)) [(.ret (.call (.glob 331) [(.int 0)] []))] []),
 (.ite (.cmp .Eq (.call (.bi .len) [(.var 4)] []) (.int 1)) [(.ret (.item (.var 4) (.int 0)))] []),
 (.asg 28 .dict0),
 (.asg 12 .dict0),
 (.asg 26 (.int 0)),
 (.forL [5] (.attr (.call (.glob 644) [(.var 4)] []) .flat) [(.ite (.call (.bi .isinstance) [(.var 5),(.glob 331)] []) [(.aug 26 .Add (.attr (.var 5) .b))] [(.ite (.call (.bi .isinstance) [(.var 5),(.glob 471)] []) [(.put 12 (.attr (.attr (.var 5) .a) .key) (.meth (.var 12) .get [(.attr (.attr (.var 5) .a) .key),(.attr (.var 5) .a)] [])),(.put 28 (.attr (.attr (.var 5) .a) .key) (.bin .Add (.meth (.var 28) .get [(.attr (.attr (.var 5) .a) .key),(.int 0)] []) (.attr (.var 5) .b)))] [(.put 12 (.attr (.var 5) .key) (.meth (.var 12) .get [(.attr (.var 5) .key),(.var 5)] [])),(.put 28 (.attr (.var 5) .key) (.bin .Add (.meth (.var 28) .get [(.attr (.var 5) .key),(.int 0)] []) (.int 1)))])])]),
 (.asg 27 (.comp (.ite (.cmp .NotEq (.var 40) (.int 1)) (.call (.glob 471) [(.item (.var 12) (.var 41)),(.var 40)] []) (.item (.var 12) (.var 41))) [41,40] (.meth (.var 28) .items [] []) [(.cmp .NotEq (.var 40) (.int 0))])),
 (.ite (.var 26) [(.expr (.meth (.var 27) .append [(.call (.glob 331) [(.var 26)] [])] []))] []),
 (.ret (.ite (.cmp .Gt (.call (.bi .len) [(.var 27)] []) (.int 1)) (.call (.glob 347) [(.call (.glob 644) [(.var 27)] [])] []) (.ite (.cmp .Eq (.call (.bi .len) [(.var 27)] []) (.int 1)) (.item (.var 27) (.int 0)) (.call (.glob 331) [(.int 0)] []))))]⟩
noncomputable def f267:Fn:=⟨[1,47],[],[
 (.ret (.meth (.var 47) .get [(.attr (.var 1) .key),(.var 1)] []))]⟩
noncomputable def f274:Fn:=⟨[1,3],[],[
 (.ite (.cmp .Eq (.var 3) (.str ⟨⟨[68,69,66,85,71]⟩⟩)) [(.ret (.bin .Add (.bin .Add (.bin .Add (.bin .Add (.bin .Add (.bin .Add (.attr (.var 1) .expr) (.str ⟨⟨[91]⟩⟩)) (.call (.bi .str) [(.attr (.var 1) .min)] [])) (.str ⟨⟨[45]⟩⟩)) (.call (.bi .str) [(.attr (.var 1) .max)] [])) (.ite (.cmp .IsNot (.attr (.var 1) .val) .none) (.bin .Add (.str ⟨⟨[61]⟩⟩) (.call (.bi .str) [.bad] [])) (.str ⟨⟨[]⟩⟩))) (.str ⟨⟨[93]⟩⟩)))] []),
 (.ret (.attr (.var 1) .expr))]⟩
noncomputable def f307:Fn:=⟨[1,2],[],[
 (.ret (.ite (.call (.bi .isinstance) [(.var 2),(.bi .int)] []) (.call (.glob 331) [(.bin .Mult (.attr (.var 1) .b) (.var 2))] []) (.bin .Mult (.var 2) (.attr (.var 1) .b))))]⟩
noncomputable def f314:Fn:=⟨[1,10],[],[
 (.ite (.call (.bi .isinstance) [(.var 10),(.glob 331)] []) [(.ret (.cmp .Eq (.attr (.var 1) .b) (.attr (.var 10) .b)))] []),
 (.ret (.ite (.call (.bi .isinstance) [(.var 10),(.bi .int)] []) (.cmp .Eq (.attr (.var 1) .b) (.var 10)) (.bool false)))]⟩
noncomputable def f321:Fn:=⟨[1,47],[],[
 (.ret (.var 1))]⟩
noncomputable def f328:Fn:=⟨[1,3],[],[
 (.ret (.call (.bi .str) [(.attr (.var 1) .b)] []))]⟩
noncomputable def f340:Fn:=⟨[46,44,45],[],[
 (.asrt (.and2 (.cmp .GtE (.var 44) (.int 0)) (.cmp .LtE (.var 44) (.var 45)))),
 (.ite (.cmp .Eq (.var 44) (.var 45)) [(.ret (.call (.glob 331) [(.var 44)] []))] []),
 (.ret (.call (.glob 277) [(.var 46),(.var 44),(.var 45)] []))]⟩
noncomputable def f347:Fn:=⟨[9],[],[
 (.asrt (.cmp .LtE (.attr (.var 9) .min) (.attr (.var 9) .max))),
 (.ite (.cmp .Eq (.attr (.var 9) .min) (.attr (.var 9) .max)) [(.ret (.call (.glob 331) [(.attr (.var 9) .min)] []))] []),
 (.ret (.var 9))]⟩
noncomputable def f432:Fn:=⟨[1,2],[],[
 (.ret (.bin .Mult (.attr (.var 1) .a) (.bin .Mult (.attr (.var 1) .b) (.var 2))))]⟩
noncomputable def f440:Fn:=⟨[1,2,7],[.bool false],[
 (.ite (.cmp .Eq (.bin .Mod (.attr (.var 1) .b) (.var 2)) (.int 0)) [(.ret (.bin .Mult (.attr (.var 1) .a) (.bin .FloorDiv (.attr (.var 1) .b) (.var 2))))] []),
 (.ite (.and2 (.cmp .Eq (.bin .Mod (.var 2) (.attr (.var 1) .b)) (.int 0)) (.cmp .Gt (.attr (.var 1) .b) (.int 0))) [(.ret (.bin .FloorDiv (.attr (.var 1) .a) (.bin .FloorDiv (.var 2) (.attr (.var 1) .b))))] []),
 (.ret (.meth (.glob 220) .floordiv [(.var 1),(.var 2),(.var 7)] []))]⟩
noncomputable def f447:Fn:=⟨[1,2],[],[
 (.ret (.meth (.glob 220) .mod [(.bin .Mult (.attr (.var 1) .a) (.bin .Mod (.attr (.var 1) .b) (.var 2))),(.var 2)] []))]⟩
noncomputable def f461:Fn:=⟨[1,47],[],[
 (.ret (.bin .Mult (.meth (.attr (.var 1) .a) .substitute [(.var 47)] []) (.ite (.call (.bi .isinstance) [(.attr (.var 1) .b),(.bi .int)] []) (.attr (.var 1) .b) (.meth (.attr (.var 1) .b) .substitute [(.var 47)] []))))]⟩
noncomputable def f468:Fn:=⟨[1,3],[],[
 (.ite (.bop true [(.call (.bi .isinstance) [(.attr (.var 1) .a),(.glob 277)] []),(.call (.bi .isinstance) [(.attr (.var 1) .b),(.glob 277)] []),(.attr (.attr (.var 1) .a) .expr),(.attr (.attr (.var 1) .b) .expr),(.cmp .Lt (.attr (.attr (.var 1) .b) .expr) (.attr (.attr (.var 1) .a) .expr))]) [(.ret (.bin .Add (.bin .Add (.bin .Add (.bin .Add (.str ⟨⟨[40]⟩⟩) (.call (.glob 654) [(.attr (.var 1) .b),(.var 3)] [])) (.str ⟨⟨[42]⟩⟩)) (.meth (.attr (.var 1) .a) .render [(.var 3)] [])) (.str ⟨⟨[41]⟩⟩)))] []),
 (.ret (.bin .Add (.bin .Add (.bin .Add (.bin .Add (.str ⟨⟨[40]⟩⟩) (.meth (.attr (.var 1) .a) .render [(.var 3)] [])) (.str ⟨⟨[42]⟩⟩)) (.call (.glob 654) [(.attr (.var 1) .b),(.var 3)] [])) (.str ⟨⟨[41]⟩⟩)))]⟩
noncomputable def f488:Fn:=⟨[1,2,43],[.bool false],[
 (.ret (.bin .FloorDiv (.attr (.var 1) .a) (.bin .Mult (.attr (.var 1) .b) (.var 2))))]⟩
noncomputable def f502:Fn:=⟨[1,47],[],[
 (.ret (.bin .FloorDiv (.meth (.attr (.var 1) .a) .substitute [(.var 47)] []) (.attr (.var 1) .b)))]⟩
noncomputable def f509:Fn:=⟨[1,3],[],[
 (.ret (.bin .Add (.bin .Add (.bin .Add (.bin .Add (.str ⟨⟨[40]⟩⟩) (.meth (.attr (.var 1) .a) .render [(.var 3)] [])) (.str ⟨⟨[47,47]⟩⟩)) (.call (.bi .str) [(.attr (.var 1) .b)] [])) (.str ⟨⟨[41]⟩⟩)))]⟩
noncomputable def f528:Fn:=⟨[1,2],[],[
 (.ite (.bop true [(.call (.bi .isinstance) [(.var 2),(.bi .int)] []),(.call (.bi .isinstance) [(.attr (.var 1) .b),(.bi .int)] []),(.cmp .Eq (.bin .Mod (.attr (.var 1) .b) (.var 2)) (.int 0))]) [(.ret (.bin .Mod (.attr (.var 1) .a) (.var 2)))] []),
 (.ret (.meth (.glob 220) .mod [(.var 1),(.var 2)] []))]⟩
noncomputable def f536:Fn:=⟨[1,2,7],[.bool true],[
 (.ret (.ite (.cmp .Eq (.bin .Mod (.attr (.var 1) .b) (.var 2)) (.int 0)) (.bin .Mod (.bin .FloorDiv (.attr (.var 1) .a) (.var 2)) (.bin .FloorDiv (.attr (.var 1) .b) (.var 2))) (.meth (.glob 220) .floordiv [(.var 1),(.var 2),(.var 7)] [])))]⟩
noncomputable def f550:Fn:=⟨[1,47],[],[
 (.ret (.bin .Mod (.meth (.attr (.var 1) .a) .substitute [(.var 47)] []) (.attr (.var 1) .b)))]⟩
noncomputable def f557:Fn:=⟨[1,3],[],[
 (.ret (.bin .Add (.bin .Add (.bin .Add (.bin .Add (.str ⟨⟨[40]⟩⟩) (.meth (.attr (.var 1) .a) .render [(.var 3)] [])) (.str ⟨⟨[37]⟩⟩)) (.call (.bi .str) [(.attr (.var 1) .b)] [])) (.str ⟨⟨[41]⟩⟩)))]⟩
noncomputable def f612:Fn:=⟨[1,2],[],[
 (.ret (.meth (.glob 220) .sum [(.comp (.bin .Mult (.var 0) (.var 2)) [0] (.attr (.var 1) .nodes) [])] []))]⟩
noncomputable def EC:Fn:=⟨[1,2,7],[.bool true],[
 (.ite (.cmp .Eq (.var 1) (.var 2)) [(.ret (.call (.glob 331) [(.int 1)] []))] []),
 (.asg 35 (.list [])),
 (.asg 21 (.list [])),
 (.ite (.call (.bi .isinstance) [(.var 2),(.glob 220)] []) [(.forL [0] (.attr (.var 1) .flat) [(.ite (.cmp .Eq (.bin .Mod (.var 0) (.var 2)) (.int 0)) [(.expr (.meth (.var 35) .append [(.bin .FloorDiv (.var 0) (.var 2))] []))] [(.expr (.meth (.var 21) .append [(.var 0)] []))])]),(.asg 51 (.call (.glob 347) [(.call (.glob 644) [(.var 35)] [])] [])),(.ite (.cmp .NotEq (.var 51) (.int 0)) [(.ret (.bin .Add (.var 51) (.bin .FloorDiv (.call (.glob 347) [(.call (.glob 644) [(.var 21)] [])] []) (.var 2))))] []),(.ret (.meth (.glob 220) .floordiv [(.var 1),(.var 2),(.bool false)] []))] []),
 (.ite (.cmp .Eq (.var 2) (.int 1)) [(.ret (.var 1))] []),
 (.ite (.not (.var 7)) [(.ret (.meth (.glob 220) .floordiv [(.var 1),(.var 2),(.var 7)] []))] []),
 (.asg 42 (.var 2)),
 (.asg 37 (.int 1)),
 (.forL [0] (.attr (.var 1) .flat) [(.ite (.call (.bi .isinstance) [(.var 0),(.tup [(.glob 331),(.glob 471)])] []) [(.ite (.cmp .Eq (.bin .Mod (.attr (.var 0) .b) (.var 2)) (.int 0)) [(.expr (.meth (.var 35) .append [(.bin .FloorDiv (.var 0) (.var 2))] []))] [(.ite (.and2 (.call (.bi .isinstance) [(.var 0),(.glob 331)] []) (.bin .FloorDiv (.attr (.var 0) .b) (.var 2))) [(.asg 52 (.bin .FloorDiv (.attr (.var 0) .b) (.var 2))),(.expr (.meth (.var 35) .append [(.call (.glob 331) [(.var 52)] [])] [])),(.asg 0 (.call (.glob 331) [(.bin .Sub (.attr (.var 0) .b) (.bin .Mult (.var 2) (.var 52)))] []))] []),(.expr (.meth (.var 21) .append [(.var 0)] [])),(.ite (.call (.bi .isinstance) [(.attr (.var 0) .b),(.bi .int)] []) [(.asg 42 (.call (.glob 35) [(.var 42),(.attr (.var 0) .b)] [])),(.ite (.bop true [(.call (.bi .isinstance) [(.var 0),(.glob 471)] []),(.cmp .Eq (.var 37) (.int 1)),(.cmp .Eq (.bin .Mod (.var 2) (.attr (.var 0) .b)) (.int 0))]) [(.asg 37 (.attr (.var 0) .b))] [])] [(.asg 42 (.int 1))])])] [(.expr (.meth (.var 21) .append [(.var 0)] [])),(.asg 42 (.int 1))])]),
 (.ite (.cmp .Gt (.var 42) (.int 1)) [(.ret (.bin .Add (.meth (.glob 220) .sum [(.var 35)] []) (.bin .FloorDiv (.meth (.meth (.glob 220) .sum [(.var 21)] []) .floordiv [(.var 42)] []) (.bin .FloorDiv (.var 2) (.var 42)))))] []),
 (.ite (.cmp .Gt (.var 37) (.int 1)) [(.ret (.bin .Add (.meth (.glob 220) .sum [(.var 35)] []) (.bin .FloorDiv (.meth (.meth (.glob 220) .sum [(.var 21)] []) .floordiv [(.var 37)] []) (.bin .FloorDiv (.var 2) (.var 37)))))] []),
 (.ret (.bin .Add (.meth (.glob 220) .sum [(.var 35)] []) (.meth (.glob 220) .floordiv [(.meth (.glob 220) .sum [(.var 21)] []),(.var 2)] [])))]⟩
noncomputable def f625:Fn:=⟨[1,2],[],[
 (.ite (.cmp .Eq (.var 1) (.var 2)) [(.ret (.call (.glob 331) [(.int 0)] []))] []),
 (.ite (.and2 (.call (.bi .isinstance) [(.var 2),(.glob 220)] []) (.cmp .Gt (.attr (.bin .Sub (.var 2) (.var 1)) .min) (.int 0))) [(.ret (.var 1))] []),
 (.asg 11 (.meth (.glob 220) .sum [(.comp (.ite (.call (.bi .isinstance) [(.var 5),(.tup [(.glob 331),(.glob 471)])] []) (.bin .Mod (.var 5) (.var 2)) (.var 5)) [5] (.attr (.var 1) .nodes) [])] [])),
 (.ret (.meth (.glob 220) .mod [(.var 11),(.var 2)] []))]⟩
noncomputable def f630:Fn:=⟨[1,47],[],[
 (.ret (.meth (.glob 220) .sum [(.comp (.meth (.var 5) .substitute [(.var 47)] []) [5] (.attr (.var 1) .nodes) [])] []))]⟩
noncomputable def f635:Fn:=⟨[1,3],[],[
 (.ret (.bin .Add (.bin .Add (.str ⟨⟨[40]⟩⟩) (.meth (.str ⟨⟨[43]⟩⟩) .join [(.call (.bi .sorted) [(.comp (.meth (.var 0) .render [(.var 3)] []) [0] (.attr (.var 1) .nodes) [])] [])] [])) (.str ⟨⟨[41]⟩⟩)))]⟩
noncomputable def f640:Fn:=⟨[1],[],[
 (.ret (.comp2 (.var 13) [0] (.attr (.var 1) .nodes) [13] (.ite (.call (.bi .isinstance) [(.var 0),(.glob 644)] []) (.attr (.var 0) .flat) (.list [(.var 0)]))))]⟩
noncomputable def f654:Fn:=⟨[41,3],[.none],[
 (.ret (.ite (.call (.bi .isinstance) [(.var 41),(.bi .int)] []) (.call (.bi .str) [(.var 41)] []) (.meth (.var 41) .render [(.var 3)] [])))]⟩
noncomputable def f659:Fn:=⟨[41,47],[],[
 (.ite (.call (.bi .isinstance) [(.var 41),(.bi .int)] []) [(.ret (.var 41))] []),
 (.asg 9 (.ite (.cmp .IsNot (.var 47) .none) (.meth (.var 41) .substitute [(.dcomp (.var 6) (.call (.glob 331) [(.var 17)] []) [6,17] (.meth (.var 47) .items [] []))] []) (.var 41))),
 (.asrt (.call (.bi .isinstance) [(.var 9),(.glob 331)] [])),
 (.ret (.attr (.var 9) .b))]⟩
noncomputable def f666:Fn:=⟨[],[],[
 (.ret (.list [(.str ⟨⟨[118]⟩⟩),(.str ⟨⟨[119]⟩⟩),(.str ⟨⟨[120]⟩⟩),(.str ⟨⟨[121]⟩⟩),(.str ⟨⟨[122]⟩⟩)]))]⟩
noncomputable def f673:Fn:=⟨[8,6],[],[
 (.ite (.cmp .Lt (.var 6) (.call (.bi .len) [(.var 8)] [])) [(.ret (.item (.var 8) (.var 6)))] []),
 (.ite (.not (.var 8)) [(.ret (.bin .Add (.bin .Mult (.int 7) (.var 6)) (.int 3)))] []),
 (.ret (.bin .Add (.item (.var 8) (.bin .Mod (.var 6) (.call (.bi .len) [(.var 8)] []))) (.bin .Mult (.int 7) (.var 6))))]⟩
noncomputable def Yi:Fn:=⟨[48],[],[
 (.ret (.ite (.cmp .Lt (.call (.bi .abs) [(.var 48)] []) (.int 1000000000000000000)) (.var 48) (.bin .Mod (.var 48) (.int 1000000000000000003))))]⟩
noncomputable def Mn:Fn:=⟨[8],[],[
 (.asg 8 (.upto (.var 8) (.int 31))),
 (.asg 50 (.bin .Add (.int 2) (.bin .Mod (.call (.glob 673) [(.var 8),(.int 0)] []) (.int 4)))),
 (.asg 23 (.list [])),
 (.asg 22 (.list [])),
 (.asg 20 (.list [])),
 (.asg 15 .dict0),
 (.forR [6] [(.var 50)] [(.asg 31 (.call (.bi .abs) [(.call (.glob 680) [(.call (.glob 673) [(.var 8),(.bin .Add (.bin .Mult (.int 6) (.var 6)) (.int 1))] [])] [])] [])),(.asg 19 (.call (.bi .abs) [(.call (.glob 680) [(.call (.glob 673) [(.var 8),(.bin .Add (.bin .Mult (.int 6) (.var 6)) (.int 2))] [])] [])] [])),(.asg 16 (.bin .Add (.var 31) (.bin .Mod (.call (.glob 673) [(.var 8),(.bin .Add (.bin .Mult (.int 6) (.var 6)) (.int 3))] []) (.bin .Add (.var 19) (.int 1))))),(.asg 48 (.call (.glob 673) [(.var 8),(.bin .Add (.bin .Mult (.int 6) (.var 6)) (.int 4))] [])),(.asg 38 (.bin .Add (.int 1) (.call (.bi .abs) [(.bin .Add (.call (.glob 680) [(.bin .FloorDiv (.var 48) (.int 5))] []) (.int 1))] []))),(.asg 30 (.call (.glob 680) [(.call (.glob 673) [(.var 8),(.bin .Add (.bin .Mult (.int 6) (.var 6)) (.int 5))] [])] [])),(.ite (.cmp .Gt (.var 6) (.int 0)) [(.asg 30 (.call (.bi .abs) [(.var 30)] []))] []),(.asg 24 (.call (.glob 340) [(.item (.call (.glob 666) [] []) (.var 6)),(.var 31),(.bin .Add (.var 31) (.var 19))] [])),(.ite (.cmp .Gt (.var 19) (.int 0)) [(.put 15 (.attr (.var 24) .key) (.var 16))] []),(.ite (.cmp .Eq (.bin .Mod (.var 48) (.int 5)) (.int 1)) [(.asg 24 (.bin .FloorDiv (.var 24) (.var 38))),(.asg 16 (.bin .FloorDiv (.var 16) (.var 38)))] [(.ite (.cmp .Eq (.bin .Mod (.var 48) (.int 5)) (.int 2)) [(.asg 24 (.bin .Mod (.var 24) (.var 38))),(.asg 16 (.bin .Mod (.var 16) (.var 38)))] [(.ite (.cmp .Eq (.bin .Mod (.var 48) (.int 5)) (.int 3)) [(.asg 24 (.bin .Add (.bin .Mult (.var 24) (.var 38)) (.var 30))),(.asg 16 (.bin .Add (.bin .Mult (.var 16) (.var 38)) (.var 30)))] [(.ite (.and2 (.cmp .Eq (.bin .Mod (.var 48) (.int 5)) (.int 4)) (.cmp .Eq (.var 6) (.int 0))) [(.asg 24 (.bin .Add (.bin .Mult (.var 24) (.neg (.var 38))) (.var 30))),(.asg 16 (.bin .Sub (.var 30) (.bin .Mult (.var 16) (.var 38))))] [(.ite (.cmp .Eq (.bin .Mod (.var 48) (.int 5)) (.int 4)) [(.asg 24 (.bin .Add (.var 24) (.var 30))),(.asg 16 (.bin .Add (.var 16) (.var 30)))] [])])])])]),(.expr (.meth (.var 23) .append [(.var 24)] [])),(.expr (.meth (.var 22) .append [(.var 16)] [])),(.expr (.meth (.var 20) .append [(.ite (.cmp .Eq (.var 6) (.int 0)) (.int 1) (.bin .Add (.bin .Add (.attr (.var 24) .max) (.int 1)) (.call (.bi .abs) [(.call (.glob 680) [(.call (.glob 673) [(.var 8),(.bin .Add (.bin .Mult (.int 6) (.var 6)) (.int 6))] [])] [])] [])))] []))]),
 (.asg 14 (.item (.var 23) (.int 0))),
 (.asg 36 (.item (.var 22) (.int 0))),
 (.asg 32 (.attr (.item (.var 23) (.int 0)) .min)),
 (.asg 29 (.attr (.item (.var 23) (.int 0)) .max)),
 (.asg 33 (.list [(.var 14)])),
 (.forR [6] [(.int 1),(.var 50)] [(.asg 14 (.bin .Add (.bin .Mult (.var 14) (.item (.var 20) (.var 6))) (.item (.var 23) (.var 6)))),(.asg 36 (.bin .Add (.bin .Mult (.var 36) (.item (.var 20) (.var 6))) (.item (.var 22) (.var 6)))),(.asg 32 (.bin .Add (.bin .Mult (.var 32) (.item (.var 20) (.var 6))) (.attr (.item (.var 23) (.var 6)) .min))),(.asg 29 (.bin .Add (.bin .Mult (.var 29) (.item (.var 20) (.var 6))) (.attr (.item (.var 23) (.var 6)) .max))),(.expr (.meth (.var 33) .append [(.var 14)] []))]),
 (.ite (.bop false [(.cmp .NotEq (.attr (.var 14) .min) (.var 32)),(.cmp .NotEq (.attr (.var 14) .max) (.var 29)),(.cmp .NotEq (.call (.glob 659) [(.var 14),(.var 15)] []) (.var 36))]) [(.ret (.bool false))] []),
 (.asg 18 (.int 1)),
 (.forR [39] [(.bin .Sub (.var 50) (.int 1))] [(.asg 6 (.bin .Sub (.bin .Sub (.var 50) (.int 1)) (.var 39))),(.asg 34 (.bin .FloorDiv (.var 14) (.var 18))),(.ite (.bop false [(.not (.cmp .Eq (.var 34) (.item (.var 33) (.var 6)))),(.not (.cmp .Eq (.bin .Mod (.var 34) (.item (.var 20) (.var 6))) (.item (.var 23) (.var 6))))]) [(.ret (.bool false))] []),(.ite (.cmp .NotEq (.call (.glob 659) [(.item (.var 23) (.var 6)),(.var 15)] []) (.item (.var 22) (.var 6))) [(.ret (.bool false))] []),(.asg 18 (.bin .Mult (.var 18) (.item (.var 20) (.var 6))))]),
 (.ret (.and2 (.cmp .Eq (.bin .FloorDiv (.var 14) (.var 18)) (.item (.var 33) (.int 0))) (.cmp .Eq (.call (.glob 659) [(.item (.var 33) (.int 0)),(.var 15)] []) (.item (.var 22) (.int 0)))))]⟩
def Ra:List (Nat×Fn):=[(35,f35),(50,f50),(86,f86),(100,f100),(114,f114),(156,f156),(185,xX),(199,f199),(204,rB),(267,f267),(274,f274),(307,f307),(314,f314),(321,f321),(328,f328),(340,f340),(347,f347),(432,f432),(440,f440),(447,f447),(461,f461),(468,f468),(488,f488),(502,f502),(509,f509),(528,f528),(536,f536),(550,f550),(557,f557),(612,f612),(620,EC),(625,f625),(630,f630),(635,f635),(640,f640),(654,f654),(659,f659),(666,f666),(673,f673),(680,Yi),(687,Mn)]
def fi:Addr->Option Fn:=λa=>dZ a Ra
end
set_option tactic.hygienic false
theorem bH{α β:Type}{o:Option α}{f:α->Option β}{y:β}{P:Prop}(h:o.bind f=some y)(k:∀x,o=some x->f x=some y->P):P:=by
 refine i8 (Option.bind_eq_some_iff.mp h) λx a b=>?_;exact k x a b
theorem eV{α β:Type}{o:Option α}{f:α->β}{y:β}{P:Prop}(h:o.map f=some y)(k:∀x,o=some x->f x=y->P):P:=by
 refine i8 (Option.map_eq_some_iff.mp h) λx a b=>?_;exact k x a b
theorem dJ{α:Type}{c:Bool}{a:Option α}{y:α}{P:Prop}(h:(bif c then a else none)=some y)(k:c=true->a=some y->P):P:=by
 induction c using Bool.casesOn with
 |true=>exact k rfl h
 |false=>exact aY h
theorem vG{α:Type}{c:Bool}{a:Option α}{y:α}{P:Prop}(h:(bif !c then none else a)=some y)(k:c=true->a=some y->P):P:=by
 induction c using Bool.casesOn with
 |true=>exact k rfl h
 |false=>exact aY h
inductive G where
 |raw (o:Obj)
 |node (t:T) (dx:Addr)
 |lst (l:List V)
 |dct (d:List (Str×V)) (o:Obj)
 |dit (d:List (Str×V))
 |tup (l:List V)
 |dead
noncomputable abbrev Gh:=Addr->Option G
noncomputable def G.isRaw:G->Bool
 |.raw _=>true
 |.dead=>true
 |_=>false
noncomputable def G.isLst:G->Bool
 |.lst _=>true
 |_=>false
inductive AllR{α β:Type}(R:α->β->Prop):List α->List β->Prop
 |nil:AllR R [] []
 |cons {a:α} {b:β} {l:List α} {m:List β}:R a b->AllR R l m->AllR R (a::l) (b::m)
@[elab_as_elim] theorem AllR.nI {α β:Type} {R:α->β->Prop} {m:List β} {P:List β->Prop} (h:AllR R [] m) (k:P []):P m:=by cases h;exact k
@[elab_as_elim] theorem AllR.cI {α β:Type} {R:α->β->Prop} {a:α} {l:List α} {m:List β} {P:List β->Prop} (h:AllR R (a::l) m) (k:∀b r,R a b->AllR R l r->P (b::r)):P m:=by
 cases h with
 |cons x y=>exact k _ _ x y
@[elab_as_elim] theorem AllR.I1 {α β:Type} {R:α->β->Prop} {a:α} {m:List β} {P:List β->Prop} (h:AllR R [a] m) (k:∀u,R a u->P [u]):P m:=h.cI λu r x y=>y.nI (P:=λr=>P (u::r)) (k u x)
@[elab_as_elim] theorem AllR.I2 {α β:Type} {R:α->β->Prop} {a b:α} {m:List β} {P:List β->Prop} (h:AllR R [a,b] m) (k:∀u v,R a u->R b v->P [u,v]):P m:=h.cI λu r x y=>y.I1 (P:=λr=>P (u::r)) λv z=>k u v x z
@[elab_as_elim] theorem AllR.I3 {α β:Type} {R:α->β->Prop} {a b c:α} {m:List β} {P:List β->Prop} (h:AllR R [a,b,c] m) (k:∀u v w,R a u->R b v->R c w->P [u,v,w]):P m:=h.cI λu r x y=>y.I2 (P:=λr=>P (u::r)) λv w z z'=>k u v w x z z'
theorem AllR.mono{α β:Type}{R S:α->β->Prop}(h:∀a b,R a b->S a b){l:List α}{m:List β}(x:AllR R l m):AllR S l m:=by
 induction x with
 |nil=>exact .nil
 |cons r _ ih=>exact .cons (h _ _ r) ih
theorem AllR.length{α β:Type}{R:α->β->Prop}{l:List α}{m:List β}(x:AllR R l m):l.length=m.length:=by
 induction x with
 |nil=>rfl
 |cons _ _ ih=>simp[ih]
theorem AllR.append{α β:Type}{R:α->β->Prop}{l l':List α}{m m':List β}(x:AllR R l m)(y:AllR R l' m'):AllR R (l++l') (m++m'):=by
 induction x with
 |nil=>exact y
 |cons r _ ih=>exact .cons r ih
theorem AllR.get{α β:Type}{R:α->β->Prop}{l:List α}{m:List β}(x:AllR R l m){i:Nat}{a:α}(e:l[i]?=some a):∃b,m[i]?=some b/\R a b:=by
 induction x generalizing i with
 |nil=>simp at e
 |cons r _ ih=>
  induction i using Nat.casesOn with
  |zero=>simp at e;clear ih;subst e;exact kF _ rfl r
  |succ i=>simpa using ih (by simpa using e)
theorem AllR.get'{α β:Type}{R:α->β->Prop}{l:List α}{m:List β}(x:AllR R l m){i:Nat}{b:β}(e:m[i]?=some b):∃a,l[i]?=some a/\R a b:=by
 induction x generalizing i with
 |nil=>simp at e
 |cons r _ ih=>
  induction i using Nat.casesOn with
  |zero=>simp at e;clear ih;subst e;exact kF _ rfl r
  |succ i=>simpa using ih (by simpa using e)
theorem AllR.take{α β:Type}{R:α->β->Prop}{l:List α}{m:List β}(x:AllR R l m):∀n,AllR R (l.take n) (m.take n):=by
 induction x with
 |nil=>intro n;simp;exact .nil
 |cons r _ ih=>
  intro n;induction n using Nat.casesOn with
  |zero=>exact .nil
  |succ n=>exact .cons r (ih n)
def isGlob(a:Addr):Bool:=AP.any λp=>Nat.beq a p.2
noncomputable def zK:Bi->Value
 |.isinstance=>.builtin "isinstance"
 |.abs=>.builtin "abs"
 |.sum=>.builtin "sum"
 |.sorted=>.builtin "sorted"
 |.str=>.type "str"
 |.len=>.builtin "len"
 |.int=>.type "int"
inductive VR(γ:Gh)(ad:List Addr):V->Value->Prop
 |none:VR γ ad .none .none
 |bool (b:Bool):VR γ ad (.bool b) (.bool b)
 |int (i:Int) (t:Tok):VR γ ad (.int i) (.int i t)
 |str (s:Str) (t:Tok):VR γ ad (.str s) (.str s t)
 |node {t:T} {a dx:Addr}:γ a=some (.node t dx)->VR γ ad (.node t) (.ref a)
 |lst {l:List V} {a:Addr}:γ a=some (.lst l)->VR γ ad (.lst l) (.ref a)
 |dct {d:List (Str×V)} {a:Addr} {o:Obj}:γ a=some (.dct d o)->VR γ ad (.dct d) (.ref a)
 |dit {d:List (Str×V)} {a:Addr}:γ a=some (.dit d)->VR γ ad (.dit d) (.ref a)
 |tup {l:List V} {a:Addr}:γ a=some (.tup l)->VR γ ad (.tup l) (.ref a)
 |own {i:Nat} {a:Addr}:ad[i]?=some a->VR γ ad (.own i) (.ref a)
 |glob {a:Addr}:isGlob a=true->VR γ ad (.glob a) (.ref a)
 |bi (n:Bi):VR γ ad (.bi n) (zK n)
def VRd(γ:Gh)(ad:List Addr)(v:V)(u:Value):Prop:=match v with
 |.none=>u=.none
 |.bool b=>u=.bool b
 |.int i=>∃t,u=.int i t
 |.str s=>∃t,u=.str s t
 |.node t=>∃a dx,u=.ref a/\γ a=some (.node t dx)
 |.lst l=>∃a,u=.ref a/\γ a=some (.lst l)
 |.dct d=>∃a o,u=.ref a/\γ a=some (.dct d o)
 |.dit d=>∃a,u=.ref a/\γ a=some (.dit d)
 |.tup l=>∃a,u=.ref a/\γ a=some (.tup l)
 |.own i=>∃a,u=.ref a/\ad[i]?=some a
 |.glob a=>u=.ref a/\isGlob a=true
 |.bi n=>u=zK n
theorem VR.inv{γ:Gh}{ad:List Addr}{v:V}{u:Value}(h:VR γ ad v u):VRd γ ad v u:=by
 cases h with
 |none=>exact rfl
 |bool b=>exact rfl
 |int i t=>exact jE t rfl
 |str i t=>exact jE t rfl
 |node e=>exact xU _ _ rfl e
 |lst e=>exact kF _ rfl e
 |dct e=>exact xU _ _ rfl e
 |dit e=>exact kF _ rfl e
 |tup e=>exact kF _ rfl e
 |own e=>exact kF _ rfl e
 |glob e=>exact⟨rfl,e⟩
 |bi n=>exact rfl
def A8(γ bP:Gh):Prop:=∀a g,γ a=some g->g.isRaw=false->bP a=some g
theorem A8.refl(γ:Gh):A8 γ γ:=λ_ _ e _=>e
theorem A8.trans{γ bP γ'':Gh}(x:A8 γ bP)(y:A8 bP γ''):A8 γ γ'':=λa g e r=>y a g (x a g e r) r
theorem VR.mono{γ bP:Gh}{ad dU:List Addr}(x:A8 γ bP)(y:∀(i:Nat) (a:Addr),ad[i]?=some a->dU[i]?=some a){v:V}{w:Value}(h:VR γ ad v w):VR bP dU v w:=by
 cases h with
 |none=>exact .none
 |bool b=>exact .bool b
 |int i t=>exact .int i t
 |str s t=>exact .str s t
 |node e=>exact .node (x _ _ e rfl)
 |lst e=>exact .lst (x _ _ e rfl)
 |dct e=>exact .dct (x _ _ e rfl)
 |dit e=>exact .dit (x _ _ e rfl)
 |tup e=>exact .tup (x _ _ e rfl)
 |own e=>exact .own (y _ _ e)
 |glob e=>exact .glob e
 |bi n=>exact .bi n
def dG:Str:=sT [95,107,101,121]
def FR(γ:Gh)(p:Str×V)(e:DictEntry):Prop:=(∃k,e.key=.str p.1 k)/\VR γ [] p.2 e.val
def DR(w:World)(γ:Gh)(p:Str×V)(e:DictEntry):Prop:=(∃k,e.key=.str p.1 k)/\e.hash=hashStr w p.1/\VR γ [] p.2 e.val
def uO(w:World)(γ:Gh)(o:Obj):V->Prop
 |.lst l=>o.cls=.type "list"/\∃vs n,o.data=.seq vs n/\AllR (VR γ []) l vs.toList
 |.dct d=>o.ExactDict/\∃es n,o.data=.dict es n/\AllR (DR w γ) d es.toList/\(d.map (·.1)).Nodup
 |_=>False
def vH(w:World)(γ:Gh)(h:Heap)(a:Addr):G->Prop
 |.raw o=>h.get? a=some o
 |.node t dx=>h.get? a=some (instObj t.cls dx)/\∃es n,h.get? dx=some (dictOf es n)/\(AllR (FR γ) (mT t) es\/AllR (FR γ) (mT t++[(dG,.str t.rend)]) es)
 |.lst l=>∃o,h.get? a=some o/\uO w γ o (.lst l)
 |.dct d o=>h.get? a=some o/\uO w γ o (.dct d)
 |.dit d=>∃b o,h.IsItemsView a b/\γ b=some (.dct d o)
 |.tup l=>∃o,h.get? a=some o/\o.cls=.type "tuple"/\∃vs n,o.data=.seq vs n/\AllR (VR γ []) l vs.toList
 |.dead=>True
theorem FR.mono{γ bP:Gh}(x:A8 γ bP){p:Str×V}{e:DictEntry}(h:FR γ p e):FR bP p e:=⟨h.1,h.2.mono x λ_ _ e=>e⟩
theorem DR.mono{w:World}{γ bP:Gh}(x:A8 γ bP){p:Str×V}{e:DictEntry}(h:DR w γ p e):DR w bP p e:=⟨h.1,h.2.1,h.2.2.mono x λ_ _ e=>e⟩
theorem uO.mono{w:World}{γ bP:Gh}(x:A8 γ bP){o:Obj}{v:V}(h:uO w γ o v):uO w bP o v:=by
 induction v using V.casesOn with
 |lst l=>refine yL (h) λa vs n b c=>?_;exact FE a vs n b (c.mono λ_ _ r=>r.mono x λ_ _ e=>e)
 |dct d=>refine JW (h) λa es n b c e=>?_;exact XT a es n b (c.mono λ_ _ r=>r.mono x) e
 |_=>exact h.elim
structure GOk(w:World)(kO:Nat)(γ:Gh)(h:Heap):Prop where
 at_:∀a g,γ a=some g->vH w γ h a g
 lo:∀a g,γ a=some g->g.isLst=false->kO<=a
 dlo:∀a t dx,γ a=some (.node t dx)->kO<=dx/\γ dx=none
 inj:∀a a' t t' dx,γ a=some (.node t dx)->γ a'=some (.node t' dx)->a=a'
noncomputable def iZ(γ:Gh)(a:Addr)(g:Option G):Gh:=λx=>if x=a then g else γ x
theorem bK(γ:Gh)(a:Addr)(g:Option G):iZ γ a g a=g:=if_pos rfl
theorem cN{γ:Gh}{a b:Addr}{g:Option G}(h:b≠a):iZ γ a g b=γ b:=if_neg h
theorem vH.lt{w:World}{γ:Gh}{h:Heap}{a:Addr}{g:G}(x:vH w γ h a g)(hd:g≠.dead):a<h.objs.size:=by
 induction g using G.casesOn with
 |raw o=>exact Heap.lt_size x
 |node t dx=>exact Heap.lt_size x.1
 |lst l=>refine i8 (x) λo e _=>?_;exact Heap.lt_size e
 |dct d o=>exact Heap.lt_size x.1
 |dit d=>obtain⟨b,od,⟨o,e,_⟩,_⟩:=x;exact Heap.lt_size e
 |tup l=>refine i8 (x) λo e _=>?_;exact Heap.lt_size e
 |dead=>exact absurd rfl hd
theorem GOk.lt{w:World}{kO:Nat}{γ:Gh}{h:Heap}(ok:GOk w kO γ h){a:Addr}{g:G}(e:γ a=some g)(hd:g≠.dead):a<h.objs.size:=(ok.at_ a g e).lt hd
theorem GOk.dlt{w:World}{kO:Nat}{γ:Gh}{h:Heap}(ok:GOk w kO γ h){a dx:Addr}{t:T}(e:γ a=some (.node t dx)):dx<h.objs.size:=by
 refine yL (ok.at_ _ _ e) λ_ es n q _=>?_;exact Heap.lt_size q
theorem vH.move{w:World}{γ bP:Gh}{h h':Heap}{a:Addr}{g:G}(x:vH w γ h a g)(E:A8 γ bP)(k:∀o,h.get? a=some o->h'.get? a=some o)
  (kd:∀t dx,g=.node t dx->∀o,h.get? dx=some o->h'.get? dx=some o):vH w bP h' a g:=by
 induction g using G.casesOn with
 |raw o=>exact k _ x
 |node t dx=>
  refine yL (x) λe es n q r=>?_;exact FE (k _ e) es n (kd t dx rfl _ q) (r.imp (λr=>r.mono λ_ _ z=>z.mono E) λr=>r.mono λ_ _ z=>z.mono E)
 |lst l=>refine i8 (x) λo e r=>?_;exact kF o (k _ e) (r.mono E)
 |dct d o=>exact⟨k _ x.1,x.2.mono E⟩
 |dit d=>obtain⟨b,od,⟨o,e,r⟩,q⟩:=x;exact xU b od ⟨o,k _ e,r⟩ (E _ _ q rfl)
 |tup l=>refine nJ (x) λo e c vs n d r=>?_;exact FF o (k _ e) c vs n d (r.mono λ_ _ z=>z.mono E λ_ _ e=>e)
 |dead=>trivial
theorem GOk.keeps{w:World}{kO:Nat}{γ:Gh}{h h':Heap}(G:GOk w kO γ h)(k:∀b o,h.get? b=some o->h'.get? b=some o):GOk w kO γ h':=
 ⟨λa g e=>(G.at_ a g e).move (A8.refl γ) (k a) (λ_ dx _=>k dx),G.lo,G.dlo,G.inj⟩
def dX(γ:Gh)(a:Addr):Prop:=∀g,γ a=some g->g=.dead
theorem dX.ne{γ:Gh}{a b:Addr}{g:G}(h:dX γ a)(e:γ b=some g)(hd:g≠.dead):b≠a:=λz=>by subst z;exact hd (h g e)
theorem GOk.free{w:World}{kO:Nat}{γ:Gh}{h:Heap}(ok:GOk w kO γ h){a:Addr}(ha:h.objs.size<=a):dX γ a:=λg q=>by
 induction g using G.casesOn<;>first|rfl|exact absurd (ok.lt q (by intro e;cases e)) (Nat.not_lt_of_le ha)
theorem iQ{γ:Gh}{a:Addr}{g:Option G}(e:∀g',γ a=some g'->g'.isRaw=true):A8 γ (iZ γ a g):=λb g' q r=>by
 by_cases hb:b=a
 ·subst hb;rw[e g' q]at r;exact jA r
 ·rw[cN hb];exact q
theorem GOk.alloc{w:World}{kO:Nat}{γ:Gh}{h:Heap}(G:GOk w kO γ h)(hb:kO<=h.objs.size)(o:Obj)(hf:o.isFreed=false):GOk w kO (iZ γ h.objs.size (some (.raw o))) (h.push o):=by
 have free:dX γ h.objs.size:=G.free (cA _);have E:A8 γ (iZ γ h.objs.size (some (.raw o))):=iQ λg' q=>by rw[free _ q];rfl
 refine⟨λa g e=>?_,λa g e hg=>?_,λa t dx e=>?_,λa a' t t' dx e e'=>?_⟩
 ·by_cases ha:a=h.objs.size
  ·subst ha;rw[bK]at e;refine e9 e ?_;exact Heap.get?_push_size h hf
  ·rw[cN ha]at e;exact(G.at_ a g e).move E (λ_=>Heap.get?_push_of_some o) λ_ _ _ _=>Heap.get?_push_of_some o
 ·by_cases ha:a=h.objs.size
  ·clear e;subst ha;exact hb
  ·rw[cN ha]at e;exact G.lo a g e hg
 ·by_cases ha:a=h.objs.size
  ·subst ha;rw[bK]at e;cases e
  ·rw[cN ha]at e;have:=G.dlt e;exact⟨(G.dlo a t dx e).1,by rw[cN (eU this)];exact(G.dlo a t dx e).2⟩
 ·by_cases ha:a=h.objs.size
  ·subst ha;rw[bK]at e;cases e
  ·by_cases ha':a'=h.objs.size
   ·subst ha';rw[bK]at e';cases e'
   ·rw[cN ha]at e;clear ha;rw[cN ha']at e';exact G.inj a a' t t' dx e e'
theorem GOk.set{w:World}{kO:Nat}{γ:Gh}{h h':Heap}{a:Addr}{o o':Obj}(G:GOk w kO γ h)(e:γ a=some (.raw o))(hs:Heap.SameBut a h h')(ho:h'.get? a=some o'):GOk w kO (iZ γ a (some (.raw o'))) h':=by
 have E:A8 γ (iZ γ a (some (.raw o'))):=iQ λg' q=>by rw[e]at q;refine e9 q ?_;rfl
 refine⟨λb g q=>?_,λb g q hg=>?_,λb t dx q=>?_,λb b' t t' dx q q'=>?_⟩
 ·by_cases hb:b=a
  ·clear E hs e;subst hb;rw[bK]at q;refine e9 q ?_;exact ho
  ·rw[cN hb]at q;refine(G.at_ b g q).move E (λo z=>(hs.2 b hb).trans z) λt dx hg o z=>?_;subst hg;have:dx≠a:=λz=>by have:=(G.dlo _ _ _ q).2;rw[z,e]at this;cases this
   exact(hs.2 dx this).trans z
 ·by_cases hb:b=a
  ·clear q E ho hs;subst hb;exact G.lo _ _ e rfl
  ·rw[cN hb]at q;exact G.lo b g q hg
 ·by_cases hb:b=a
  ·clear E ho hs e;subst hb;rw[bK]at q;cases q
  ·rw[cN hb]at q;have:=(G.dlo _ _ _ q);refine⟨this.1,?_⟩;rw[cN (λz=>by have:=this.2;rw[z,e]at this;cases this)];exact this.2
 ·by_cases hb:b=a
  ·subst hb;rw[bK]at q;cases q
  ·by_cases hb':b'=a
   ·subst hb';rw[bK]at q';cases q'
   ·rw[cN hb]at q;clear hb;rw[cN hb']at q';exact G.inj b b' t t' dx q q'
theorem GOk.kill{w:World}{kO:Nat}{γ:Gh}{h h':Heap}{a:Addr}{o:Obj}(G:GOk w kO γ h)(e:γ a=some (.raw o))(k:∀b ob,b≠a->h.get? b=some ob->h'.get? b=some ob):GOk w kO (iZ γ a (some .dead)) h':=by
 have E:A8 γ (iZ γ a (some .dead)):=iQ λg' q=>by rw[e]at q;refine e9 q ?_;rfl
 have back:∀{b g},iZ γ a (some .dead) b=some g->(b=a/\g=.dead)\/(b≠a/\γ b=some g):=λ{b g} q=>by
  by_cases hb:b=a
  ·clear E k e;subst hb;rw[bK]at q;refine e9 q ?_;exact .inl ⟨rfl,rfl⟩
  ·rw[cN hb]at q;exact .inr ⟨hb,q⟩
 refine⟨λb g q=>?_,λb g q hg=>?_,λb t dx q=>?_,λb b' t t' dx q q'=>?_⟩
 ·rcases back q with⟨rfl,rfl⟩|⟨hb,q⟩
  ·trivial
  ·refine(G.at_ b g q).move E (λo=>k b o hb) λt dx hg o z=>?_;subst hg;exact k dx o (λz=>by have:=(G.dlo _ _ _ q).2;rw[z,e]at this;cases this) z
 ·clear E k;rcases back q with⟨rfl,rfl⟩|⟨hb,q⟩
  ·exact G.lo _ _ e rfl
  ·exact G.lo b g q hg
 ·rcases back q with⟨_,h⟩|⟨hb,q⟩
  ·cases h
  ·have:=G.dlo _ _ _ q;exact⟨this.1,by rw[cN (λz=>by have:=this.2;rw[z,e]at this;cases this)];exact this.2⟩
 ·rcases back q with⟨_,h⟩|⟨hb,q⟩
  ·cases h
  ·rcases back q' with⟨_,h⟩|⟨hb',q'⟩
   ·cases h
   ·exact G.inj b b' t t' dx q q'
theorem GOk.tell{w:World}{kO:Nat}{γ:Gh}{h:Heap}{a:Addr}{o:Obj}{g:G}(G:GOk w kO γ h)(e:γ a=some (.raw o))(hg:∀t dx,g≠.node t dx)(x:vH w γ h a g):GOk w kO (iZ γ a (some g)) h:=by
 have E:A8 γ (iZ γ a (some g)):=iQ λg' q=>by rw[e]at q;refine e9 q ?_;rfl
 refine⟨λb g' q=>?_,λb g' q hg'=>?_,λb t dx q=>?_,λb b' t t' dx q q'=>?_⟩
 ·by_cases hb:b=a
  ·clear e;subst hb;rw[bK]at q;refine e9 q ?_;exact x.move E (λ_ z=>z) λ_ _ _ _ z=>z
  ·rw[cN hb]at q;exact(G.at_ b g' q).move E (λ_ z=>z) λ_ _ _ _ z=>z
 ·by_cases hb:b=a
  ·clear q E x;subst hb;exact G.lo _ _ e rfl
  ·rw[cN hb]at q;exact G.lo b g' q hg'
 ·by_cases hb:b=a
  ·clear e;subst hb;rw[bK]at q;clear E x;obtain rfl:=aC q;exact absurd rfl (hg _ _)
  ·rw[cN hb]at q;have:=(G.dlo _ _ _ q);refine⟨this.1,?_⟩;rw[cN (λz=>by have:=this.2;rw[z,e]at this;cases this)];exact this.2
 ·by_cases hb:b=a
  ·clear e;subst hb;rw[bK]at q;clear q' E x;obtain rfl:=aC q;exact absurd rfl (hg _ _)
  ·by_cases hb':b'=a
   ·subst hb';rw[bK]at q';obtain rfl:=aC q';exact absurd rfl (hg _ _)
   ·rw[cN hb]at q;clear hb;rw[cN hb']at q';exact G.inj b b' t t' dx q q'
theorem GOk.node{w:World}{kO:Nat}{γ:Gh}{h:Heap}{x dx:Addr}{t:T}{es:List DictEntry}{n:Nat}(G:GOk w kO γ h)(e:γ x=some (.raw (instObj t.cls dx)))(d:γ dx=some (.raw (dictOf es n)))
  (r:AllR (FR γ) (mT t) es):GOk w kO (iZ (iZ γ dx none) x (some (.node t dx))) h:=by
 have f5:x≠dx:=λz=>by clear r;rw[z,d]at e;cases e
 have hx:h.get? x=some (instObj t.cls dx):=G.at_ _ _ e;have hd:h.get? dx=some (dictOf es n):=G.at_ _ _ d;have E:A8 γ (iZ (iZ γ dx none) x (some (.node t dx))):=λb g q rr=>by
  by_cases hb:b=x
  ·subst hb;rw[e]at q;obtain rfl:=aC q;exact jA rr
  ·by_cases fX:b=dx
   ·subst fX;rw[d]at q;obtain rfl:=aC q;exact jA rr
   ·rw[cN hb,cN fX];exact q
 have back:∀{b g},iZ (iZ γ dx none) x (some (.node t dx)) b=some g->(b=x/\g=.node t dx)\/(b≠x/\b≠dx/\γ b=some g):=λ{b g} q=>by
  by_cases hb:b=x
  ·clear E hx f5 e;subst hb;rw[bK]at q;refine e9 q ?_;exact .inl ⟨rfl,rfl⟩
  ·rw[cN hb]at q;by_cases fX:b=dx
   ·clear E hd hx f5 d e;subst fX;rw[bK]at q;exact aY q
   ·rw[cN fX]at q;exact .inr ⟨hb,fX,q⟩
 have free:∀b t' dx',γ b=some (.node t' dx')->dx'≠dx/\dx'≠x:=λb t' dx' q=>by
  have:=(G.dlo _ _ _ q).2;refine⟨λz=>?_,λz=>?_⟩
  ·rw[z,d]at this;cases this
  ·rw[z,e]at this;cases this
 refine⟨λb g q=>?_,λb g q hg=>?_,λb t' dx' q=>?_,λb b' t' t'' dx' q q'=>?_⟩
 ·clear free f5 e;rcases back q with⟨rfl,rfl⟩|⟨h1,h2,q2⟩
  ·exact FE hx es n hd (.inl (r.mono λ_ _ z=>z.mono E))
  ·exact(G.at_ b g q2).move E (λ_ z=>z) λ_ _ _ _ z=>z
 ·rcases back q with⟨h1,h2⟩|⟨h1,h2,q2⟩
  ·rw[h1];exact G.lo _ _ e rfl
  ·exact G.lo _ _ q2 hg
 ·clear E hx e;rcases back q with⟨rfl,h2⟩|⟨h1,h2,q2⟩
  ·clear q;cases h2;exact⟨G.lo _ _ d rfl,by rw[cN f5.symm,bK]⟩
  ·have:=free _ _ _ q2;exact⟨(G.dlo _ _ _ q2).1,by rw[cN this.2,cN this.1];exact(G.dlo _ _ _ q2).2⟩
 ·rcases back q with⟨h1,h2⟩|⟨h1,h2,q2⟩
  ·clear q;cases h2;rcases back q' with⟨h3,_⟩|⟨_,_,q3⟩
   ·rw[h1,h3]
   ·exact absurd rfl (free _ _ _ q3).1
  ·rcases back q' with⟨h3,h4⟩|⟨_,_,q3⟩
   ·clear q' q;cases h4;exact absurd rfl (free _ _ _ q2).1
   ·exact G.inj _ _ _ _ _ q2 q3
theorem GOk.keyed{w:World}{kO:Nat}{γ:Gh}{h h':Heap}{x dx:Addr}{t:T}{es:List DictEntry}{n:Nat}(G:GOk w kO γ h)(e:γ x=some (.node t dx))(hs:Heap.SameBut dx h h')
  (ho:h'.get? dx=some (dictOf es n)) (r:AllR (FR γ) (mT t++[(dG,.str t.rend)]) es):GOk w kO γ h':=by
 have hd:=G.dlo _ _ _ e;refine⟨λb g q=>?_,G.lo,G.dlo,G.inj⟩;have hb:b≠dx:=λz=>by rw[z,hd.2]at q;exact aY q
 by_cases hbx:b=x
 ·subst hbx;rw[e]at q;refine e9 q ?_;obtain⟨a1,_⟩:=G.at_ _ _ e;exact FE ((hs.2 b hb).trans a1) es n ho (.inr r)
 ·refine(G.at_ b g q).move (A8.refl γ) (λo z=>(hs.2 b hb).trans z) λt' dx' hg o z=>?_;subst hg;have:dx'≠dx:=λz=>by clear hb hd ho hs;subst z;exact hbx (G.inj _ _ _ _ _ q e)
  exact(hs.2 dx' this).trans z
def au:Lean.Syntax:=.node .none `Lean.Parser.Tactic.tacticSeq #[.node .none `Lean.Parser.Tactic.tacticSeq1Indented #[.node .none `null #[.node .none `Lean.Parser.Tactic.tacticRfl #[.atom .none "rfl"]]]]
def Dz(o:Obj)(m:Str->Option Value):Prop:=∃es ep,o.data=.dict es ep/\StrKeys es/\∀name,nsFind es name=m name
theorem Dz.ns{o:Obj}{m:Str->Option Value}{h:Heap}{a:Addr}(x:Dz o m)(e:h.get? a=some o):h.Ns a m:=let⟨es,ep,r⟩:=x;⟨o,es,ep,e,r⟩
theorem Dz.of{m:Str->Option Value}{h:Heap}{a:Addr}(x:h.Ns a m):∃o,h.get? a=some o/\Dz o m:=x.elim λo x=>x.elim λes x=>x.elim λep x=>⟨o,x.1,es,ep,x.2⟩
structure Base(w:World)(s₀:Shared):Prop where
 K:(Kf w.params).In s₀.heap
 top:∃p lo mg mb,TopRead p lo mg mb s₀.heap
structure St(w:World)(s₀:Shared)(γ:Gh)(s:Shared):Prop where
 keep:∀b o,s₀.heap.get? b=some o->s.heap.get? b=some o
 size:s₀.heap.objs.size<=s.heap.objs.size
 ok:GOk w s₀.heap.objs.size γ s.heap
 gens:s.gens=s₀.gens
 os:s.os=s₀.os
section
variable{w:World}{s₀ s s':Shared}{γ bP γ'':Gh}
theorem St.like(x:St w s₀ γ s)(hh:autoParam (s'.heap=s.heap) au)(hg:autoParam (s'.gens=s.gens) au)(ho:autoParam (s'.os=s.os) au):St w s₀ γ s':=
 ⟨by rw[hh];exact x.keep,by rw[hh];exact x.size,by rw[hh];exact x.ok,hg.trans x.gens,ho.trans x.os⟩
theorem St.free(x:St w s₀ γ s):dX γ s.heap.objs.size:=x.ok.free (cA _)
theorem St.kill{a b:Addr}{o ob:Obj}(x:St w s₀ γ s)(e:γ a=some (.raw o))(eb:γ b=some (.raw ob))(hb:b≠a)(k:∀b o,b≠a->s.heap.get? b=some o->s'.heap.get? b=some o)(hg:autoParam (s'.gens=s.gens) au)(ho:autoParam (s'.os=s.os) au):
  St w s₀ (iZ γ a (some .dead)) s':=
 ⟨λc oc q=>k c oc (λz=>by have:=x.ok.lo _ _ e rfl;rw[<-z]at this;exact absurd (aZ (Heap.lt_size q) this) (i7 _)) (x.keep c oc q),
  bD (aP (x.ok.lo _ _ eb rfl) (Heap.lt_size (k b ob hb (x.ok.at_ _ _ eb)))),x.ok.kill e k,hg.trans x.gens,ho.trans x.os⟩
theorem St.alloc(x:St w s₀ γ s)(o:Obj)(hf:o.isFreed=false)(hh:autoParam (s'.heap=s.heap.push o) au)(hg:autoParam (s'.gens=s.gens) au)(ho:autoParam (s'.os=s.os) au):
  St w s₀ (iZ γ s.heap.objs.size (some (.raw o))) s':=
 ⟨by rw[hh];exact λb o' e=>Heap.get?_push_of_some o (x.keep b o' e),by rw[hh,Heap.size_push];exact mN x.size,by rw[hh];exact x.ok.alloc x.size o hf,hg.trans x.gens,ho.trans x.os⟩
theorem St.grow(x:St w s₀ γ s)(k:∀b o,s.heap.get? b=some o->s'.heap.get? b=some o)(hz:s.heap.objs.size<=s'.heap.objs.size)(hg:autoParam (s'.gens=s.gens) au)(ho:autoParam (s'.os=s.os) au):St w s₀ γ s':=
 ⟨λb o e=>k b o (x.keep b o e),aR x.size hz,x.ok.keeps k,hg.trans x.gens,ho.trans x.os⟩
theorem St.grow'{b:Addr}{ob:Obj}(x:St w s₀ γ s)(eb:γ b=some (.raw ob))(k:∀b o,s.heap.get? b=some o->s'.heap.get? b=some o)(hg:autoParam (s'.gens=s.gens) au)(ho:autoParam (s'.os=s.os) au):St w s₀ γ s':=
 ⟨λb o e=>k b o (x.keep b o e),bD (aP (x.ok.lo _ _ eb rfl) (Heap.lt_size (k _ _ (x.ok.at_ _ _ eb)))),x.ok.keeps k,hg.trans x.gens,ho.trans x.os⟩
theorem St.set{a:Addr}{o o':Obj}(x:St w s₀ γ s)(e:γ a=some (.raw o))(hs:Heap.SameBut a s.heap s'.heap)(h':s'.heap.get? a=some o')(hg:autoParam (s'.gens=s.gens) au)(ho:autoParam (s'.os=s.os) au):
  St w s₀ (iZ γ a (some (.raw o'))) s':=
 ⟨λb ob q=>(hs.2 b (λz=>by have:=x.ok.lo _ _ e rfl;rw[<-z]at this;exact absurd (aZ (Heap.lt_size q) this) (i7 _))).trans (x.keep b ob q),
  by rw[hs.1];exact x.size,x.ok.set e hs h',hg.trans x.gens,ho.trans x.os⟩
theorem St.tell{a:Addr}{o:Obj}{g:G}(x:St w s₀ γ s)(e:γ a=some (.raw o))(hg:∀t dx,g≠.node t dx)(r:vH w γ s.heap a g):St w s₀ (iZ γ a (some g)) s:=
 ⟨x.keep,x.size,x.ok.tell e hg r,x.gens,x.os⟩
theorem St.raw{a:Addr}{o:Obj}(x:St w s₀ γ s)(e:γ a=some (.raw o)):s.heap.get? a=some o:=x.ok.at_ a _ e
end
structure Step(X:List Addr)(γ bP:Gh)(ad dU:List Addr):Prop where
 ext:A8 γ bP
 raw:∀a o,γ a=some (.raw o)->a∉ad->a∉X->bP a=some (.raw o)
 pre:∃more,dU=ad++more/\∀a∈more,dX γ a\/a∈X
 dom:∀a,dX bP a->dX γ a\/a∈X
theorem Step.refl{X:List Addr}(γ:Gh)(ad:List Addr):Step X γ γ ad ad:=⟨.refl γ,λ_ _ e _ _=>e,⟨[],by simp,by simp⟩,λ_ e=>.inl e⟩
theorem gL{γ:Gh}{a:Addr}{o:Obj}(e:γ a=some (.raw o)):¬dX γ a:=λz=>by have:=z _ e;cases this
theorem Step.trans{X:List Addr}{γ bP γ'':Gh}{ad dU ad'':List Addr}(x:Step X γ bP ad dU)(y:Step X bP γ'' dU ad''):Step X γ γ'' ad ad'':=by
 refine i8 (x.pre) λm e hm=>?_;refine i8 (y.pre) λm' e' hm'=>?_;refine⟨x.ext.trans y.ext,λa o q h1 h2=>y.raw a o (x.raw a o q h1 h2) (λz=>?_) h2,⟨m++m',by rw[e',e,dT],λa ha=>?_⟩,λa q=>?_⟩
 ·rw[e]at z;rcases b7.mp z with z|z
  ·exact h1 z
  ·exact(hm a z).elim (gL q) h2
 ·rcases b7.mp ha with z|z
  ·exact hm a z
  ·exact(hm' a z).elim (x.dom a) .inr
 ·exact(y.dom a q).elim (x.dom a) .inr
theorem Step.widen{X Y:List Addr}{γ bP:Gh}{ad dU:List Addr}(x:Step X γ bP ad dU)(h:∀a∈X,a∈Y):Step Y γ bP ad dU:=
 ⟨x.ext,λa o e h1 h2=>x.raw a o e h1 λz=>h2 (h a z),let⟨m,e,hm⟩:=x.pre;⟨m,e,λa ha=>(hm a ha).imp_right (h a)⟩,λa e=>(x.dom a e).imp_right (h a)⟩
theorem Step.narrow{X:List Addr}{γ bP:Gh}{ad dU:List Addr}(x:Step X γ bP ad dU)(h:∀a∈X,dX γ a):Step [] γ bP ad dU:=
 ⟨x.ext,λa o e h1 _=>x.raw a o e h1 λz=>gL e (h a z),let⟨m,e,hm⟩:=x.pre;⟨m,e,λa ha=>.inl ((hm a ha).elim id (h a))⟩,λa e=>.inl ((x.dom a e).elim id (h a))⟩
theorem Step.called{X:List Addr}{γ bP:Gh}(ad:List Addr)(x:Step [] γ bP [] []):Step X γ bP ad ad:=
 ⟨x.ext,λa o e _ _=>x.raw a o e (by simp) (by simp),⟨[],by simp,by simp⟩,λa e=>(x.dom a e).imp_right λz=>by cases z⟩
theorem Step.calledX{X:List Addr}{γ bP:Gh}(ad:List Addr)(x:Step X γ bP [] []):Step X γ bP ad ad:=
 ⟨x.ext,λa o e _ h=>x.raw a o e (by simp) h,⟨[],by simp,by simp⟩,x.dom⟩
theorem Step.ix{X:List Addr}{γ bP:Gh}{ad dU:List Addr}(x:Step X γ bP ad dU)(i:Nat)(a:Addr)(e:ad[i]?=some a):dU[i]?=some a:=by
 refine i8 (x.pre) λm q _=>?_;rw[q,List.getElem?_append_left (by exact(List.getElem?_eq_some_iff.mp e).1)];exact e
theorem VR.step{X:List Addr}{γ bP:Gh}{ad dU:List Addr}{v:V}{u:Value}(r:VR γ ad v u)(x:Step X γ bP ad dU):VR bP dU v u:=r.mono x.ext x.ix
theorem VRs.step{X:List Addr}{γ bP:Gh}{ad dU:List Addr}{v:List V}{u:List Value}(r:AllR (VR γ ad) v u)(x:Step X γ bP ad dU):AllR (VR bP dU) v u:=r.mono λ_ _ z=>z.step x
theorem d6{X:List Addr}{γ:Gh}{a:Addr}(g:G)(ad:List Addr)(h:dX γ a):Step X γ (iZ γ a (some g)) ad ad:=by
 refine⟨iQ λg' q=>by rw[h g' q];rfl,λb o e _ _=>(cN (h.ne e (by intro z;cases z))).trans e,⟨[],by simp,by simp⟩,λb e=>.inl λg' q=>?_⟩
 by_cases hb:b=a
 ·clear e;subst hb;exact h g' q
 ·exact e g' ((cN hb).trans q)
theorem gW{X:List Addr}{γ:Gh}{a:Addr}{o:Obj}(g:G)(ad:List Addr)(e:γ a=some (.raw o))(h:a∈ad\/a∈X)(hg:g≠.dead:=by intro z;cases z):Step X γ (iZ γ a (some g)) ad ad:=by
 refine⟨iQ λg' q=>by rw[e]at q;obtain rfl:=aC q;rfl,λb o' q h1 h2=>?_,⟨[],by simp,by simp⟩,λb q=>.inl λg' r=>?_⟩
 ·have:b≠a:=λz=>by clear e;subst z;exact h.elim h1 h2
  exact(cN this).trans q
 ·by_cases hb:b=a
  ·clear h e;subst hb;exact absurd (q g (bK ..)) hg
  ·exact q g' ((cN hb).trans r)
theorem tR{X:List Addr}{γ:Gh}{a:Addr}{o:Obj}(ad:List Addr)(e:γ a=some (.raw o))(h:a∈X):Step X γ (iZ γ a (some .dead)) ad ad:=by
 refine⟨iQ λg' q=>by rw[e]at q;obtain rfl:=aC q;rfl,λb o' q h1 h2=>?_,⟨[],by simp,by simp⟩,λb q=>?_⟩
 ·exact(cN λz=>by clear e;subst z;exact h2 h).trans q
 ·by_cases hb:b=a
  ·clear q e;subst hb;exact .inr h
  ·exact .inl λg' r=>q g' ((cN hb).trans r)
theorem wM{X:List Addr}{γ:Gh}{a:Addr}{g:G}{ad:List Addr}(h:dX γ a):Step X γ (iZ γ a (some g)) ad (ad++[a]):=
 ⟨(d6 (X:=X) g ad h).ext,(d6 (X:=X) g ad h).raw,⟨[a],rfl,λb hb=>by rw[aN.mp hb];exact .inl h⟩,(d6 (X:=X) g ad h).dom⟩
noncomputable def Oq(o:Obj):V->Option G
 |.lst l=>some (.lst l)
 |.dct d=>some (.dct d o)
 |_=>none
def Mo(w:World)(γ:Gh)(a:Addr)(c:Cn):Prop:=∃o g,Oq o c.val=some g/\(bif c.frozen then γ a=some g else γ a=some (.raw o)/\uO w γ o c.val/\o.dict=none)
structure CsOk(w:World)(γ:Gh)(ad:List Addr)(cs:Cs):Prop where
 all:AllR (λa c=>Mo w γ a c) ad cs
 nd:ad.Nodup
theorem BC{o:Obj}{v:V}{g:G}(e:Oq o v=some g):g.isRaw=false:=by induction v using V.casesOn<;>first|(obtain rfl:=aC e;rfl)|exact aY e
theorem Mo.step{w:World}{X:List Addr}{γ bP:Gh}{a:Addr}{c:Cn}(h:Mo w γ a c)(x:A8 γ bP)(r:∀o,γ a=some (.raw o)->bP a=some (.raw o)):Mo w bP a c:=by
 refine kY (h) λo g e q=>?_;refine xU o g e ?_;induction hf:c.frozen using Bool.casesOn with
 |true=>rw[hf]at q;exact x a g q (BC e)
 |false=>
  rw[hf]at q;exact uA (r o q.1) (q.2.1.mono x) q.2.2
theorem AllR.monoMem{α β:Type}{R S:α->β->Prop}{l:List α}{m:List β}(x:AllR R l m)(h:∀a∈l,∀b,R a b->S a b):AllR S l m:=by
 induction x with
 |nil=>exact .nil
 |cons r _ ih=>exact .cons (h _ aE _ r) (ih λa ha=>h a (aI _ ha))
theorem CsOk.called{w:World}{γ bP:Gh}{ad:List Addr}{cs:Cs}(h:CsOk w γ ad cs)(x:Step [] γ bP [] []):CsOk w bP ad cs:=
 ⟨h.all.mono λa _ z=>z.step (X:=[]) x.ext λo e=>x.raw a o e (by simp) (by simp),h.nd⟩
theorem CsOk.calledX{w:World}{X:List Addr}{γ bP:Gh}{ad:List Addr}{cs:Cs}(h:CsOk w γ ad cs)(x:Step X γ bP [] [])(hX:∀a∈X,a∉ad):CsOk w bP ad cs:=
 ⟨h.all.monoMem λa ha _ z=>z.step (X:=[]) x.ext λo e=>x.raw a o e (by simp) λz=>hX a z ha,h.nd⟩
theorem CsOk.nil(w:World)(γ:Gh):CsOk w γ [] []:=⟨.nil,.nil⟩
theorem CsOk.alloc{w:World}{γ:Gh}{ad:List Addr}{cs:Cs}{a:Addr}{g:G}(h:CsOk w γ ad cs)(ha:dX γ a):CsOk w (iZ γ a (some g)) ad cs:=by
 refine⟨h.all.mono λb _ z=>z.step (X:=[]) (d6 (X:=[]) g ad ha).ext λo e=>?_,h.nd⟩;rw[cN (ha.ne e (by intro z;cases z))];exact e
theorem CsOk.dom{w:World}{γ:Gh}{ad:List Addr}{cs:Cs}(h:CsOk w γ ad cs):∀a∈ad,∃g,γ a=some g/\g≠.dead:=by
 intro a ha;obtain⟨i,hi⟩:=List.getElem?_of_mem ha;refine rS (h.all.get hi) λc _ o g e q=>?_;induction hf:c.frozen using Bool.casesOn with
 |true=>rw[hf]at q;exact kF _ q (λz=>by have:=BC e;rw[z]at this;exact jA this)
 |false=>rw[hf]at q;exact kF _ q.1 (by intro z;cases z)
theorem CsOk.notIn{w:World}{γ:Gh}{ad:List Addr}{cs:Cs}(h:CsOk w γ ad cs){a:Addr}(ha:dX γ a):a∉ad:=λz=>by refine i8 (h.dom a z) λg e hd=>?_;exact hd (ha g e)
theorem CsOk.push{w:World}{γ:Gh}{ad:List Addr}{cs:Cs}{a:Addr}{o:Obj}{v:V}{g:G}(h:CsOk w γ ad cs)(ha:dX γ a)(hg:Oq o v=some g)(ho:uO w γ o v)(hd:autoParam (o.dict=none) au):CsOk w (iZ γ a (some (.raw o))) (ad++[a]) (cs++[⟨false,v⟩]):=by
 have q:=h.alloc (g:=.raw o) ha;refine⟨q.all.append (.cons ⟨o,g,hg,bK ..,ho.mono (d6 (X:=[]) (.raw o) ad ha).ext,hd⟩ .nil),?_⟩;rw[gI];refine uA h.nd (by simp) (λx hx y hy e=>?_)
 rw[aN]at hy;exact h.notIn ha (by rw[<-hy,<-e];exact hx)
structure FmOk(γ:Gh)(ad:List Addr)(envM:Env)(env:Ev):Prop where
 loc:∃o m,γ envM.locals=some (.raw o)/\Dz o m/\∀x i v,mS x=some i->dZ i env=some v->envM.kindOf x=some .local->∃u,m x=some u/\VR γ ad v u
 cel:∀x c,envM.cells.lookup x=some c->∃o cv,γ c=some (.raw o)/\o.data=.cell cv/\∀i v,mS x=some i->dZ i env=some v->envM.kindOf x=some .cell\/envM.kindOf x=some .free->∃u,cv=some u/\VR γ ad v u
 nLoc:envM.locals∉ad
 nCel:∀x c,envM.cells.lookup x=some c->c∉ad/\c≠envM.locals
 inj:∀x y c,envM.cells.lookup x=some c->envM.cells.lookup y=some c->x=y
theorem FmOk.stepX{X:List Addr}{γ bP:Gh}{ad dU:List Addr}{envM:Env}{env:Ev}(h:FmOk γ ad envM env)(x:Step X γ bP ad dU)(n1:envM.locals∉X)(n2:∀y c,envM.cells.lookup y=some c->c∉X):FmOk bP dU envM env:=by
 refine i8 (x.pre) λm e hm=>?_;have out:∀a o,γ a=some (.raw o)->a∉ad->a∉X->a∉dU:=λa o q h1 h2 z=>by
  rw[e]at z;rcases b7.mp z with z|z
  ·exact h1 z
  ·exact(hm a z).elim (gL q) h2
 refine fM (h.loc) λo mm h1 h2 h3=>?_;refine⟨⟨o,mm,x.raw _ _ h1 h.nLoc n1,h2,λy i v a b c=>?_⟩,λy c q=>?_,out _ _ h1 h.nLoc n1,λy c q=>?_,h.inj⟩
 ·obtain⟨u,e1,e2⟩:=h3 y i v a b c;exact kF u e1 (e2.step x)
 ·refine fM (h.cel y c q) λo cv h1 h2 h3=>?_;refine nM o cv (x.raw _ _ h1 (h.nCel y c q).1 (n2 y c q)) h2 (λi v a b kk=>?_);obtain⟨u,e1,e2⟩:=h3 i v a b kk;exact kF u e1 (e2.step x)
 ·refine fM (h.cel y c q) λo cv h1 h2 h3=>?_;exact⟨out _ _ h1 (h.nCel y c q).1 (n2 y c q),(h.nCel y c q).2⟩
theorem FmOk.step{γ bP:Gh}{ad dU:List Addr}{envM:Env}{env:Ev}(h:FmOk γ ad envM env)(x:Step [] γ bP ad dU):FmOk bP dU envM env:=h.stepX x (by simp) λ_ _ _=>by simp
structure EnvOk(envM:Env)(sc:Scope):Prop where
 kind:envM.scope.kind=.function
 globals:envM.globals=mainGlobals
 builtins:envM.builtins=builtinsNs
 names:∀x k,cJ x sc.names=some k->envM.kindOf x=some k\/(k=.free/\envM.kindOf x=some .cell)
 cells:∀x,envM.kindOf x=some .cell\/envM.kindOf x=some .free->∃c,envM.cells.lookup x=some c
structure Room(A:Around)(d n:Nat):Prop where
 hand:A.handled=none
 dep:A.depth+10*d+n<recursionLimit
 un:A.units+60*d+12*n+60<cLine
theorem Room.le{A:Around}{d n m:Nat}(h:Room A d n)(e:m<=n):Room A d m:=⟨h.hand,by have:=h.dep;lia,by have:=h.un;lia⟩
theorem Room.in1{A:Around}{d n:Nat}(h:Room A d (n+1)):Room A.in1 d n:=⟨h.hand,by have:=h.dep;simp only[Around.in1_depth];lia,by have:=h.un;simp only[Around.in1_units];lia⟩
inductive PE(w:World)(s₀:Shared)(γ:Gh)(ad:List Addr)(v:V)(cW:Cs)(u:Value)(s':Shared):Prop
 |mk (bP:Gh) (dU:List Addr):St w s₀ bP s'->CsOk w bP dU cW->Step [] γ bP ad dU->VR bP dU v u->PE w s₀ γ ad v cW u s'
noncomputable abbrev fW:Value->Shared->Prop:=λ_ _=>False
def e8(prog:Program)(w:World)(s₀:Shared)(A:Around)(envM:Env)(e:Expr)(f:Ev->Cs->Option (V×Cs)):Prop:=
 ∀s γ ad env cs v cW,St w s₀ γ s->CsOk w γ ad cs->FmOk γ ad envM env->f env cs=some (v,cW)->wpAny (model prog w) A (eval e envM) (PE w s₀ γ ad v cW) fW s
inductive PT(w:World)(s₀:Shared)(γ:Gh)(ad:List Addr)(b:Bool)(cW:Cs)(c:Bool)(s':Shared):Prop
 |mk:c=b->(bP:Gh)->(dU:List Addr)->St w s₀ bP s'->CsOk w bP dU cW->Step [] γ bP ad dU->PT w s₀ γ ad b cW c s'
def rU(prog:Program)(w:World)(s₀:Shared)(A:Around)(envM:Env)(e:Expr)(f:Ev->Cs->Option (Bool×Cs)):Prop:=
 ∀s γ ad env cs b cW,St w s₀ γ s->CsOk w γ ad cs->FmOk γ ad envM env->f env cs=some (b,cW)->wpAny (model prog w) A (isTrue e envM (eval e envM)) (PT w s₀ γ ad b cW) fW s
noncomputable def pF(envM:Env):List Addr:=envM.locals::envM.cells.map (·.2)
def FlR(bP:Gh)(f:Flow)(r:Option V):Prop:=match r with|none=>f=.next|some v=>∃u,f=.ret u/\VR bP [] v u
inductive PX(w:World)(s₀:Shared)(γ:Gh)(ad:List Addr)(envM:Env)(r:Option V)(env':Ev)(cW:Cs)(f:Flow)(s':Shared):Prop
 |mk (bP:Gh) (dU:List Addr):St w s₀ bP s'->CsOk w bP dU cW->Step (pF envM) γ bP ad dU->FmOk bP dU envM env'->FlR bP f r->PX w s₀ γ ad envM r env' cW f s'
def sU(prog:Program)(w:World)(s₀:Shared)(A:Around)(envM:Env)(c:Stmt)(f:Ev->Cs->Mf):Prop:=
 ∀s γ ad env cs r env' cW,St w s₀ γ s->CsOk w γ ad cs->FmOk γ ad envM env->f env cs=some (r,env',cW)->wpAny (model prog w) A (exec c envM) (PX w s₀ γ ad envM r env' cW) fW s
inductive PC(w:World)(s₀:Shared)(γ:Gh)(v:V)(r:Result)(s':Shared):Prop
 |mk (u:Value) (bP:Gh):r=.ok (.ret u)->St w s₀ bP s'->Step [] γ bP [] []->VR bP [] v u->PC w s₀ γ v r s'
def Rb(γ:Gh)(p:Nat×V)(q:Str×Value):Prop:=mS q.1=some p.1/\VR γ [] p.2 q.2
def J5(s₀ s:Shared):Prop:=∃L m,Fr s₀.heap L s.heap m
theorem FmOk.frm{w:World}{s₀ s:Shared}{γ:Gh}{ad:List Addr}{envM:Env}{env:Ev}(hF:FmOk γ ad envM env)(hS:St w s₀ γ s):J5 s₀ s:=by
 refine fM (hF.loc) λo m h1 h2 _=>?_;exact⟨envM.locals,m,h2.ns (hS.raw h1),hS.keep,hS.ok.lo _ _ h1 rfl⟩
def rD(prog:Program)(w:World)(s₀:Shared)(d:Nat)(cf:cO):Prop:=
 ∀A s γ a vs us kws ukws v,Room A d 0->St w s₀ γ s->J5 s₀ s->AllR (VR γ []) vs us->AllR (Rb γ) kws ukws->cf a vs kws=some v->codeAny (model prog w) A (.call (.ref a) ⟨us,ukws⟩) (PC w s₀ γ v) s
set_option tactic.hygienic true
theorem Mp:∀{a b:List Nat},eqL a b=true->a=b
 |[],b,h=>(eI.mp h).symm
 |x::a,b,h=>by
  induction b using List.casesOn with
  |nil=>exact bX h
  |cons y b=>
   refine cQ (Q:=λz=>z=true->x::a=y::b) (λhx h=>?_) (λh=>bX h) h;rw[aA hx,Mp h]
theorem D0:∀a:List Nat,eqL a a=true
 |[]=>rfl
 |x::a=>(cT (kM x)).trans (D0 a)
theorem fY{a b:Str}(h:lE a b=true):a=b:=by
 obtain⟨⟨a⟩⟩:=a;obtain⟨⟨b⟩⟩:=b;rw[Mp (show eqL a b=true from h)]
theorem sV(a:Str):lE a a=true:=D0 _
theorem BD{a b:Str}:lE a b=true↔a=b:=⟨fY,λh=>h▸sV a⟩
theorem mB{a b:Str}:lE a b=false↔a≠b:=by
 rw[ne_eq,<-BD,Bool.not_eq_true]
theorem OP(a b:Str):lE a b=(a==b):=by
 induction h:lE a b using Bool.casesOn with
 |true=>rw[fY h];simp
 |false=>exact(cK.mpr (mB.mp h)).symm
theorem f8{α:Type}(x:Str):∀l:List (Str×α),cJ x l=l.lookup x
 |[]=>rfl
 |(y,v)::r=>by
  rw[Iw];rw[f6,OP,f8 x r];induction x==y using Bool.casesOn<;>rfl
theorem rV{x:Str}:∀{l:List Str} {k i:Nat},zB x l k=some i->x∈l/\k<=i/\l[i-k]?=some x
 |[],_,_,h=>by exact aY h
 |y::r,k,i,h=>by
  rw[iS_c]at h;induction hx:lE x y using Bool.casesOn with
  |true=>
   rw[hx]at h;refine e9 h ?_;rw[fY hx];exact uA aE (cA _) (by simp)
  |false=>
   rw[hx]at h;refine A6 (rV h) λa b c=>?_;refine uA (aI _ a) (Nat.le_of_succ_le b) ?_;rw[show i-k=(i-(k+1))+1 by lia,List.getElem?_cons_succ];exact c
theorem rW{x y:Str}{i:Nat}(h:mS x=some i)(h':mS y=some i):x=y:=by
 have a:=(rV h).2.2;have b:=(rV h').2.2;rw[a]at b;exact aC b
theorem FV{x:Str}{i:Nat}(h:mS x=some i):x∈OJ:=(rV h).1
theorem I8{x:Str}{i:Nat}(h:mS x=some i):(x==("__debug__":Str))=false:=
 (by decide+kernel:∀y∈OJ,(y==("__debug__":Str))=false) x (FV h)
theorem AE{x:Str}{i:Nat}(h:mS x=some i):(x==("__classdict__":Str))=false:=
 (by decide+kernel:∀y∈OJ,(y==("__classdict__":Str))=false) x (FV h)
theorem mX{α:Type}{x:Str}{v:α}:∀{l:List (Str×α)},cJ x l=some v->(x,v)∈l
 |(y,u)::r,h=>by
  rw[Iw]at h;induction hx:lE x y using Bool.casesOn with
  |true=>rw[hx]at h;refine e9 h ?_;rw[fY hx];exact aE
  |false=>rw[hx]at h;exact aI _ (mX h)
theorem jB{α:Type}(x y:Nat)(v:α):∀l:List (Nat×α),dZ y (fO x v l)=if y=x then some v else dZ y l
 |[]=>by
  rw[pN_n,XX,XY];by_cases h:y=x
  ·subst h;rw[kM];simp
  ·rw[show Nat.beq y x=false from qG.mpr λz=>h (aA z)];simp[h]
 |(z,u)::r=>by
  rw[pN_c];induction hx:Nat.beq x z using Bool.casesOn with
  |true=>
   have e:=aA hx;subst e;simp only[bV];simp only[XX,XY];by_cases h:y=x
   ·clear hx;subst h;rw[kM];simp
   ·rw[show Nat.beq y x=false from qG.mpr λz=>h (aA z)];simp[h]
  |false=>
   simp only[bG];simp only[XX,XY];rw[jB x y v r];by_cases h:y=x
   ·subst h;rw[hx];simp
   ·simp[h]
inductive ErT:Scope->Expr->List Nat->Prop
 |one {sc:Scope} {x:Str} {p:Pos} {i:Nat}:cJ x sc.names=some .local->mS x=some i->ErT sc (.Name x p) [i]
 |two {sc:Scope} {x y:Str} {p q r:Pos} {k i j:Nat}:cJ x sc.names=some .local->cJ y sc.names=some .local->x≠y->mS x=some i->mS y=some j->ErT sc (.Tuple [.Name x p,.Name y q] k r) [i,j]
 |nil {sc:Scope} {e:Expr}:ErT sc e []
theorem nN{sc:Scope}{x:Str}(h:uE sc x=true):cJ x sc.names=some .local:=lN h
theorem qR(sc:Scope)(e:Expr):ErT sc e (uF sc e):=by
 unfold uF;induction h:tgtO sc e using Option.casesOn with
 |none=>exact .nil
 |some t=>
  refine J0 h (λh=>OE h nS λx p e h=>dJ h λc h=>eV h λi hi h=>?_) λh=>LN h nS λl i p e h=>OC h nS λa b el h=>OE h nS λx q ea h=>OE h nS λy r eb h=>dJ h λc h=>bH h λi hi h=>eV h λj hj h=>?_
  ·rw[e,<-h];exact .one (nN c) hi
  ·refine fF c λc c3=>fF c λc1 c2=>?_;rw[e,el,ea,eb,<-h];exact .two (nN c1) (nN c2) (mB.mp (by simpa using c3)) hi hj
set_option tactic.hygienic false
inductive PN(w:World)(s₀:Shared)(γ:Gh)(v:V)(u:Value)(s':Shared):Prop
 |mk (bP:Gh):St w s₀ bP s'->Step [] γ bP [] []->VR bP [] v u->PN w s₀ γ v u s'
section
variable{prog:Program}{w:World}{s₀ s s':Shared}{γ bP:Gh}{ad:List Addr}{cs:Cs}{v:V}{u:Value}{A:Around}
theorem VR.up{γ:Gh}(ad:List Addr){v:V}{u:Value}(h:VR γ [] v u):VR γ ad v u:=h.mono (.refl γ) λi a e=>by simp at e
theorem PN.pe(hc:CsOk w γ ad cs)(h:PN w s₀ γ v u s'):PE w s₀ γ ad v cs u s':=
 let⟨bP,a,b,c⟩:=h;⟨bP,ad,a,hc.called b,b.called ad,c.up ad⟩
theorem PN.mk'(h:St w s₀ γ s)(r:VR γ [] v u)(hh:autoParam (s'.heap=s.heap) au)(hg:autoParam (s'.gens=s.gens) au)(ho:autoParam (s'.os=s.os) au):PN w s₀ γ v u s':=⟨γ,h.like hh hg ho,.refl γ [],r⟩
theorem PE.mk'(h:St w s₀ γ s)(hc:CsOk w γ ad cs)(r:VR γ ad v u)(hh:autoParam (s'.heap=s.heap) au)(hg:autoParam (s'.gens=s.gens) au)(ho:autoParam (s'.os=s.os) au):PE w s₀ γ ad v cs u s':=
 ⟨γ,ad,h.like hh hg ho,hc,.refl γ ad,r⟩
theorem D1{b:Int}(h:jQ b=true):Builtin.Int.intBits b<=2^20:=by
 have h:=aM h;unfold Builtin.Int.intBits;split
 ·lia
 ·rename_i hb;have hb:b≠0:=by simpa using hb
  have:b.natAbs.log2<8000:=(Nat.log2_lt (by lia)).mpr h
  lia
theorem OQ{b:Int}(h:jQ b=true):b.natAbs.log2<9000:=by
 have h:=aM h;by_cases hb:b.natAbs=0
 ·rw[hb];decide
 ·have:b.natAbs.log2<8000:=(Nat.log2_lt hb).mpr h;lia
theorem OR{a b:Int}(h:jQ (a*b)=true):IntMulOk a b:=by
 have h':=aM h;by_cases ha:a=0
 ·exact .of_left (by clear h' h;subst ha;decide)
 ·by_cases hb:b=0
  ·exact .of_right (by clear h' h;subst hb;decide)
  ·rw[eP]at h';have la:a.natAbs<=a.natAbs*b.natAbs:=Nat.le_mul_of_pos_right _ (by lia)
   have lb:b.natAbs<=a.natAbs*b.natAbs:=gR _ (by lia)
   exact .of_bits (D1 (aH (aP la h'))) (D1 (aH (aP lb h')))
theorem D2{op:Operator}{x y:Int}{t t':Tok}(hS:St w s₀ γ s)(h:eY op x y=some v):wpAny (model prog w) A (binaryOp op (.int x t) (.int y t')) (PN w s₀ γ v) fW s:=by
 have hz:(!decide (y=0)&&jQ y)=true->(¬(y==0)=true)/\jQ y=true:=λhf=>⟨by simpa using (aL.mp hf).1,(aL.mp hf).2⟩
 induction op using PySem.Operator.casesOn with
 |Add=>refine e9 h ?_;exact add_int (.mk' hS (.int ..))
 |Sub=>refine e9 h ?_;exact sub_int (.mk' hS (.int ..))
 |Mult=>
  refine dJ h λhf h=>?_;refine e9 h ?_;exact mul_int (.mk' hS (.int ..)) (OR hf)
 |FloorDiv=>
  refine dJ h λhf h=>?_;refine e9 h ?_;exact AutoIntOps.floordiv_1 (hz hf).1 (by rw[PyProof.noPylong_of_log2 (OQ (hz hf).2)];decide) (.mk' hS (.int ..))
 |Mod=>
  refine dJ h λhf h=>?_;refine e9 h ?_;exact AutoIntOps.mod_1 (hz hf).1 (.mk' hS (.int ..))
 |_=>exact aY h
end
noncomputable def pV:List Addr:=[331,277,471,512,560,644]
noncomputable def sW(K:Frag)(C:Addr):Bool:=plainGet K C El&&hasDictIn K C&&selfFirst K C&&plainOver K C&&makesIn K C&&isClsIn K C
theorem cls1(P:Params):pV.all (sW (Kf P))=true:=by kernel_rfl!
theorem OS(n:Nm):cJ (sR n) LZ=some n:=by induction n using Nm.casesOn<;>decide+kernel
theorem FW(n:Nm):(sR n,n)∈LZ:=mX (OS n)
def Yj(K:Frag)(C:Addr)(p:Str×Nm):Bool:=pX true (zF C p.2) λf=>findIn K (.ref C) p.1==some (some (.ref f))&&isFn K (.ref f)&&keepIn K (.ref f)
theorem mth1(P:Params):pV.all (λC=>LZ.all (Yj (Kf P) C))=true:=by kernel_rfl!
theorem Mq{x:Str}{m:Nm}(h:cJ x LZ=some m):x=sR m:=
 (by decide+kernel:∀p∈LZ,p.1=sR p.2) _ (mX h)
noncomputable def Mr:List Nm:=[.a,.b,.min,.max,.expr,.val,.nodes]
def Ms(K:Frag)(C:Addr)(n:Nm):Bool:=match findIn K (.ref C) (sR n)with
 |some attr=>noGet K attr
 |none=>false
theorem att1(P:Params):pV.all (λC=>Mr.all (Ms (Kf P) C))=true:=by kernel_rfl!
theorem jX(t:T):t.cls∈pV:=by induction t using T.casesOn<;>(unfold T.cls pV;simp)
theorem AR(P:Params)(t:T):sW (Kf P) t.cls=true:=aW.mp (cls1 P) _ (jX t)
theorem rX(P:Params)(t:T)(n:Str):plainGet (Kf P) t.cls n=true:=by
 have h:=AR P t;unfold sW at h;simp only[a9]at h;exact h.1.1.1.1.1
theorem rE(P:Params)(t:T):hasDictIn (Kf P) t.cls=true:=by
 have h:=AR P t;unfold sW at h;simp only[a9]at h;exact h.1.1.1.1.2
theorem tT(P:Params)(t:T):selfFirst (Kf P) t.cls=true:=by
 have h:=AR P t;unfold sW at h;simp only[a9]at h;exact h.1.1.1.2
theorem cls_over(P:Params)(t:T):plainOver (Kf P) t.cls=true:=by
 have h:=AR P t;unfold sW at h;simp only[a9]at h;exact h.1.1.2
theorem I9(P:Params)(t:T):makesIn (Kf P) t.cls=true:=by
 have h:=AR P t;unfold sW at h;simp only[a9]at h;exact h.1.2
theorem cls_isC(P:Params)(t:T):isClsIn (Kf P) t.cls=true:=by
 have h:=AR P t;unfold sW at h;simp only[a9]at h;exact h.2
theorem FX(P:Params)(t:T){n:Nm}(hn:n∈Mr):∃attr,findIn (Kf P) (.ref t.cls) (sR n)=some attr/\noGet (Kf P) attr=true:=by
 have h:=aW.mp (aW.mp (att1 P) _ (jX t)) _ hn;unfold Ms at h;split at h
 ·exact kF _ (by assumption) h
 ·exact bX h
theorem rF(P:Params){t:T}{n:Nm}{f:Addr}(h:gU t n=some f):findIn (Kf P) (.ref t.cls) (sR n)=some (some (.ref f))/\isFn (Kf P) (.ref f)=true/\keepIn (Kf P) (.ref f)=true:=by
 have q:pX true (zF t.cls n) _=true:=aW.mp (aW.mp (mth1 P) _ (jX t)) _ (FW n);rw[show zF t.cls n=some f from h]at q;exact fF q λq q3=>fF q λq1 q2=>⟨beq_iff_eq.mp q1,q2,q3⟩
theorem rG{γ:Gh}{x:Str}{v:V}:∀{fs:List (Str×V)} {es:List DictEntry},AllR (FR γ) fs es->cJ x fs=some v->∃u,getL x es=some (some u)/\VR γ [] v u:=by
 intro fs es h;induction h with
 |nil=>intro e;exact aY e
 |@cons p en fs es r _ ih=>
  intro e;obtain⟨y,z⟩:=p;obtain⟨⟨k,hk⟩,hr⟩:=r;rw[Iw]at e;unfold getL;have hs:en.key.isStr x=(y==x):=by rw[hk];rfl
  rw[List.find?_cons,hs];induction hx:lE x y using Bool.casesOn with
  |true=>
   clear hs;rw[hx]at e;clear ih;refine e9 e ?_;rw[fY hx,beq_self_eq_true];exact kF _ rfl hr
  |false=>
   clear hs;rw[hx]at e;rw[show(y==x)=false from cK.mpr (Ne.symm (mB.mp hx))];refine i8 (ih e) λu a b=>?_;refine kF u ?_ b;unfold getL at a;split at a
   ·rename_i q;simp only[q];exact a
   ·split at a<;>(first|exact aY a|cases a)
theorem oZ{γ:Gh}{x:Str}:∀{fs:List (Str×V)} {es:List DictEntry},AllR (FR γ) fs es->cJ x fs=none->getL x es=some none:=by
 intro fs es h;induction h with
 |nil=>intro _;rfl
 |@cons p en fs es r _ ih=>
  intro e;obtain⟨y,z⟩:=p;obtain⟨⟨k,hk⟩,hr⟩:=r;rw[Iw]at e;unfold getL;have hs:en.key.isStr x=(y==x):=by rw[hk];rfl
  have hrk:en.refKey=false:=by unfold DictEntry.refKey;rw[hk]
  rw[List.find?_cons,hs];induction hx:lE x y using Bool.casesOn with
  |true=>clear hrk hs;rw[hx]at e;cases e
  |false=>
   clear hs;rw[hx]at e;rw[show(y==x)=false from cK.mpr (Ne.symm (mB.mp hx))];have a:=ih e;unfold getL at a;split at a
   ·cases a
   ·rename_i q;simp only[q,qX,hrk,Bool.false_or];exact a
theorem pG{α:Type}{x k:Str}{v:α}:∀{l:List (Str×α)},cJ x (l++[(k,v)])=match cJ x l with|some u=>some u|none=>bif lE x k then some v else none
 |[]=>rfl
 |(y,u)::r=>by
  rw[kK];simp only[Iw];induction lE x y using Bool.casesOn with
  |true=>rfl
  |false=>exact pG
section
variable{prog:Program}{w:World}{s₀ s:Shared}{γ:Gh}{A:Around}
theorem BE(hS:St w s₀ γ s){a dx:Addr}{t:T}(e:γ a=some (.node t dx)):∃es n,InstAt s.heap a (instObj t.cls dx) t.cls (some (dictOf es n))/\(AllR (FR γ) (mT t) es\/AllR (FR γ) (mT t++[(dG,.str t.rend)]) es):=by
 refine yL (hS.ok.at_ _ _ e) λh1 es n h2 r=>?_;exact xU es n ⟨h1,rfl,rfl,h2⟩ r
theorem OT{es:List DictEntry}{t:T}{x:Str}{v:V}(r:AllR (FR γ) (mT t) es\/AllR (FR γ) (mT t++[(dG,.str t.rend)]) es)(h:cJ x (mT t)=some v):∃u,getL x es=some (some u)/\VR γ [] v u:=by
 rcases r with r|r
 ·exact rG r h
 ·exact rG r (by rw[pG,h])
theorem Mt{es:List DictEntry}{t:T}{x:Str}(r:AllR (FR γ) (mT t) es\/AllR (FR γ) (mT t++[(dG,.str t.rend)]) es)(h:cJ x (mT t)=none)(hk:lE x dG=false):getL x es=some none:=by
 rcases r with r|r
 ·exact oZ r h
 ·exact oZ r (by rw[pG,h,hk];rfl)
theorem VR.handed{ad:List Addr}{v:V}{u:Value}(h:VR γ ad v u):handedIn u=true:=by
 cases h with
 |bi n=>induction n using Bi.casesOn<;>decide+kernel
 |_=>rfl
theorem BF{t:T}{n:Nm}{v:V}(h:vE t n=some v):cJ (sR n) (mT t)=some v/\n∈Mr:=by
 unfold vE at h;induction c1:Nat.beq n.ctorIdx 2 using Bool.casesOn with
 |true=>
  rw[c1]at h;rw[Nm.min.elim (motive:=λz=>z=.min) n (aA c1) rfl];exact⟨by induction t using T.casesOn<;>exact h,by decide⟩
 |false=>
  rw[c1]at h;induction c2:Nat.beq n.ctorIdx 3 using Bool.casesOn with
  |true=>
   clear c1;rw[c2]at h;rw[Nm.max.elim (motive:=λz=>z=.max) n (aA c2) rfl];exact⟨by induction t using T.casesOn<;>exact h,by decide⟩
  |false=>
   clear c1;rw[c2]at h;exact dJ h λc h=>⟨h,(by decide+kernel:∀p∈LZ,Nat.ble p.2.ctorIdx 6=true->p.2∈Mr) _ (FW n) c⟩
theorem BG(hB:Base w s₀)(hS:St w s₀ γ s)(hF:J5 s₀ s){a dx:Addr}{t:T}{n:Nm}{v:V}(e:γ a=some (.node t dx))(hv:vE t n=some v):wpAny (model prog w) A (getAttr (.ref a) (sR n) true) (PN w s₀ γ v) fW s:=by
 refine kY (BE hS e) λes k I r=>?_;obtain⟨hl,hn⟩:=BF hv;obtain⟨u,hu,hr⟩:=OT r hl;obtain⟨attr,ha,hg⟩:=FX w.params t hn;obtain⟨L,m,F⟩:=hF;exact get_own F hB.K I (rX _ t _) (rE _ t) ha hg hu hr.handed (.mk' hS hr)
end
noncomputable def opL:List Operator:=[.Add,.Sub,.Mult,.FloorDiv,.Mod]
def IA(o:Option (Option Value)):Bool:=pX false o λr=>pX true r λu=>Nat.beq u.ctorIdx 10
def opChk(K:Frag)(C:Addr)(op:Operator):Bool:=IA (findIn K (.ref C) (dunderR op.info.2))
theorem op1(P:Params):pV.all (λC=>opL.all (opChk (Kf P) C)&&subIn (Kf P) (.type "int") (.ref C)==some false)=true:=by kernel_rfl!
theorem op2(P:Params):opL.all (λop=>(findIn (Kf P) (.type "int") (PySem.dunder op.info.2)).isSome&&(findIn (Kf P) (.type "int") (dunderR op.info.2)).isSome)=true:=by kernel_rfl!
theorem sub1(P:Params):pV.all (λC=>pV.all λD=>Nat.beq C D||subIn (Kf P) (.ref C) (.ref D)==some false)=true:=by kernel_rfl!
theorem opN{op:Operator}{n:Nm}(h:E6 op=some n):PySem.dunder op.info.2=sR n/\op∈opL:=by
 induction op using PySem.Operator.casesOn<;>first|exact aY h;done|(obtain rfl:=aC h;exact⟨by decide+kernel,by decide⟩)
section
variable{prog:Program}{w:World}{s₀ s s':Shared}{γ:Gh}{A:Around}{d:Nat}{cf:cO}{v:V}{u:Value}
theorem rY(hc:rD prog w s₀ d cf)(hR:Room A d 0)(hS:St w s₀ γ s)(hF:J5 s₀ s){f:Addr}{vs:List V}{us:List Value}{kws:List (Nat×V)}{ukws:List (Str×Value)}(hv:AllR (VR γ []) vs us)(hk:AllR (Rb γ) kws ukws)
  (h:cf f vs kws=some v):wpAny (model prog w) A (call (.ref f) us ukws) (PN w s₀ γ v) fW s:=
 wpAny_call (codeAny_mono (hc A s γ f vs us kws ukws v hR hS hF hv hk h) λr s' z=>by obtain⟨u,bP,rfl,a,b,c⟩:=z;exact⟨bP,a,b,c⟩)
theorem VR.noNot{ad:List Addr}{v:V}{u:Value}(h:VR γ ad v u):u≠.notImplemented:=by
 cases h with
 |bi n=>induction n using Bi.casesOn<;>exact Value.noConfusion
 |_=>exact Value.noConfusion
theorem PN.back(h:PN w s₀ γ v u s'):PySem.W.CmpBack (PN w s₀ γ v) u s':=by
 have hn:u≠.notImplemented:=by
  obtain⟨_,_,_,c⟩:=h;exact c.noNot
 induction u using PySem.Value.casesOn<;>first|exact h|exact absurd rfl hn
theorem ED(P:Params)(t:T){op:Operator}(ho:op∈opL):∃rc,findIn (Kf P) (.ref t.cls) (dunderR op.info.2)=some rc/\(rc=none\/∃g:Addr,rc=some (.ref g)):=by
 have h:=aW.mp (op1 P) _ (jX t);have h:=aW.mp (aL.mp h).1 _ ho;refine oE h nT λr er h=>⟨r,er,?_⟩;induction r using Option.casesOn with
 |none=>exact .inl rfl
 |some u=>exact .inr (Value.ref.elim (motive:=λu=>∃g:Addr,some u=some (.ref g)) u (aA h) λg=>⟨g,rfl⟩)
theorem Yk(P:Params){op:Operator}(ho:op∈opL):(∃fo,findIn (Kf P) (.type "int") (PySem.dunder op.info.2)=some fo)/\∃ro,findIn (Kf P) (.type "int") (dunderR op.info.2)=some ro:=by
 have h:=aL.mp (aW.mp (op2 P) _ ho);exact⟨fE.mp h.1,fE.mp h.2⟩
theorem FY(P:Params)(t:T):subIn (Kf P) (.type "int") (.ref t.cls)=some false:=
 beq_iff_eq.mp (aL.mp (aW.mp (op1 P) _ (jX t))).2
theorem OU(P:Params){t t':T}(h:t.cls≠t'.cls):subIn (Kf P) (.ref t.cls) (.ref t'.cls)=some false:=by
 have q:=aW.mp (aW.mp (sub1 P) _ (jX t)) _ (jX t');rcases cP.mp q with q|q
 ·exact absurd (aA q) h
 ·exact beq_iff_eq.mp q
theorem OV{K:Frag}{x C C' f g:Addr}{ox:Obj}{od:Option Obj}{op:Operator}{b:Value}{rc rc':Option Value}{Q E:Value->Shared->Prop}(X:K.In s.heap)(I:InstAt s.heap x ox C od)
  (hb:Looks (model prog w) s.heap (typeOf b) (.ref C')) (f5:C≠C') (hc:selfFirst K C=true) (hc':selfFirst K C'=true)
  (hs:findIn K (.ref C) (PySem.dunder op.info.2)=some (some (.ref f))) (hf:isFn K (.ref f)=true) (hs':findIn K (.ref C') (PySem.dunder op.info.2)=some (some (.ref g)))
  (hr:findIn K (.ref C) (dunderR op.info.2)=some rc) (hp:rc=none\/∃g:Addr,rc=some (.ref g)) (hr':findIn K (.ref C') (dunderR op.info.2)=some rc') (hp':rc'=none\/∃g:Addr,rc'=some (.ref g))
  (hsub:subIn K (.ref C') (.ref C)=some false)
  (h:wpAny (model prog w) A (call (.ref f) [.ref x,b]) (PySem.W.CmpBack Q) E s):wpAny (model prog w) A (binaryOp op (.ref x) b) Q E s:=by
 refine kY (ksp_first hc) λcd rest hcd hm=>?_;refine kY (ksp_first hc') λcd' rest' hcd' hm'=>?_;rcases hi:op.info with⟨sym,nm'⟩
 rw[hi]at hs hs' hr hr';dsimp only at hs hs' hr hr';have one:=ksp_try X I hs hf h;have L1:Looks (model prog w) s.heap (typeOf (.ref x)) (.ref C):=I.type;have L2:Looks (model prog w) s.heap (typeOf b) (.ref C'):=hb;have L3:Looks (model prog w) s.heap (fillsNumberSlot (.ref C) nm') true:=fills_K X hcd hm hs;have L4:Looks (model prog w) s.heap (fillsNumberSlot (.ref C') nm') true:=fills_K X hcd' hm' hs';have L5:Looks (model prog w) s.heap (isSubtype (.ref C') (.ref C)) false:=looks_subIn X hsub;have L6:Looks (model prog w) s.heap (numberSlotInPython (.ref C) nm') true:=ksp_inPy X hs hr hp;have L7:Looks (model prog w) s.heap (numberSlotInPython (.ref C') nm') true:=ksp_inPy X hs' hr' hp';have f5:(Value.ref C==Value.ref C')=false:=qG.mpr λq=>f5 (by have:=beq_iff_eq.mp q;clear q L7 L5 L4 L2 hs' hr' hm' hcd' hsub hc' f5 hb;cases this;rfl)
 unfold binaryOp;rw[hi];refine wpAny_holding (bF ?_);unfold binaryOp1;refine bF (L1.at (bF (L2.at (bF (L3.at ?_)))));rw[f5]
 ksp_lk
 refine aD one (λr s' hr'=>?_) λ_ _ e=>e;refine i8 (hr') λv zr1 hq=>?_;subst zr1
 ksp_lk
 exact hq
theorem sX(hS:St w s₀ γ s){a dx:Addr}{t:T}(e:γ a=some (.node t dx)):Looks (model prog w) s.heap (typeOf (.ref a)) (.ref t.cls):=by
 refine kY (BE hS e) λes k I r=>?_;exact I.type
@[elab_as_elim] theorem VR.intI {γ:Gh} {ad:List Addr} {i:Int} {u:Value} {P:Value->Prop} (h:VR γ ad (.int i) u) (k:∀t,P (.int i t)):P u:=by
 obtain⟨t,rfl⟩:∃t,u=.int i t:=h.inv;exact k t
@[elab_as_elim] theorem VR.strI {γ:Gh} {ad:List Addr} {i:Str} {u:Value} {P:Value->Prop} (h:VR γ ad (.str i) u) (k:∀t,P (.str i t)):P u:=by
 obtain⟨t,rfl⟩:∃t,u=.str i t:=h.inv;exact k t
@[elab_as_elim] theorem VR.nodeI {γ:Gh} {ad:List Addr} {t:T} {u:Value} {P:Value->Prop} (h:VR γ ad (.node t) u) (k:∀a dx,γ a=some (.node t dx)->P (.ref a)):P u:=by
 obtain⟨a,dx,rfl,e⟩:∃a dx,u=.ref a/\γ a=some (.node t dx):=h.inv;exact k a dx e
@[elab_as_elim] theorem VR.ownI {γ:Gh} {ad:List Addr} {i:Nat} {u:Value} {P:Value->Prop} (h:VR γ ad (.own i) u) (k:∀a,ad[i]?=some a->P (.ref a)):P u:=by
 obtain⟨a,rfl,e⟩:∃a,u=.ref a/\ad[i]?=some a:=h.inv;exact k a e
@[elab_as_elim] theorem VR.lstI {γ:Gh} {ad:List Addr} {l:List V} {u:Value} {P:Value->Prop} (h:VR γ ad (.lst l) u) (k:∀a,γ a=some (.lst l)->P (.ref a)):P u:=by
 obtain⟨a,rfl,e⟩:∃a,u=.ref a/\γ a=some (.lst l):=h.inv;exact k a e
@[elab_as_elim] theorem VR.dctI {γ:Gh} {ad:List Addr} {l:List (Str×V)} {u:Value} {P:Value->Prop} (h:VR γ ad (.dct l) u) (k:∀a o,γ a=some (.dct l o)->P (.ref a)):P u:=by
 obtain⟨a,o,rfl,e⟩:∃a o,u=.ref a/\γ a=some (.dct l o):=h.inv;exact k a o e
@[elab_as_elim] theorem VR.ditI {γ:Gh} {ad:List Addr} {l:List (Str×V)} {u:Value} {P:Value->Prop} (h:VR γ ad (.dit l) u) (k:∀a,γ a=some (.dit l)->P (.ref a)):P u:=by
 obtain⟨a,rfl,e⟩:∃a,u=.ref a/\γ a=some (.dit l):=h.inv;exact k a e
@[elab_as_elim] theorem VR.tupI {γ:Gh} {ad:List Addr} {l:List V} {u:Value} {P:Value->Prop} (h:VR γ ad (.tup l) u) (k:∀a,γ a=some (.tup l)->P (.ref a)):P u:=by
 obtain⟨a,rfl,e⟩:∃a,u=.ref a/\γ a=some (.tup l):=h.inv;exact k a e
theorem VR.isInt{ad:List Addr}{i:Int}{u:Value}(h:VR γ ad (.int i) u):∃t,u=.int i t:=h.inv
theorem VR.isStr{ad:List Addr}{i:Str}{u:Value}(h:VR γ ad (.str i) u):∃t,u=.str i t:=h.inv
theorem VR.isNode{ad:List Addr}{t:T}{x:Value}(h:VR γ ad (.node t) x):∃a dx,x=.ref a/\γ a=some (.node t dx):=h.inv
theorem Mu{P:V->V->Operator->Prop}{cf:cO}{v:V}(k1:∀op x y,eY op x y=some v->P (.int x) (.int y) op)(k2:∀p q,(bif Dm (p++q)then some (V.str (p++q))else none)=some v->P (.str p) (.str q) .Add)
  (k3:∀op t y,((E6 op).bind λn=>(gU t n).bind λf=>cf f [.node t,.int y] [])=some v->P (.node t) (.int y) op) (k4:∀t u,cf 100 [.node t,.node u] []=some v->P (.node t) (.node u) .Add) {a b:V} {op:Operator} (h:cG cf op a b=some v):P a b op:=by
 induction a using V.casesOn with
 |int x=>
  induction b using V.casesOn with
  |int y=>exact k1 _ x y h
  |_=>exact aY h
 |str p=>
  induction b using V.casesOn with
  |str q=>
   induction op using PySem.Operator.casesOn with
   |Add=>exact k2 p q h
   |_=>exact aY h
  |_=>exact aY h
 |node t=>
  induction b using V.casesOn with
  |int y=>exact k3 _ t y h
  |node u=>
   induction op using PySem.Operator.casesOn with
   |Add=>exact k4 t u h
   |_=>exact aY h
  |_=>exact aY h
 |_=>exact aY h
theorem FZ{p:Str}(e:p.length=0):p=⟨#[]⟩:=by
 obtain⟨⟨p⟩⟩:=p;induction p using List.casesOn with
 |nil=>rfl
 |cons _ _=>simp[Str.length]at e
theorem Yl(q:Str):(⟨#[]⟩:Str)++q=q:=by
 obtain⟨⟨q⟩⟩:=q;show(⟨#[]++⟨q⟩⟩:Str)=_;simp
theorem Ym(p:Str):p++(⟨#[]⟩:Str)=p:=by
 obtain⟨⟨p⟩⟩:=p;show(⟨⟨p⟩++#[]⟩:Str)=_;simp
theorem add_s(hS:St w s₀ γ s){p q:Str}{t t':Tok}(h:(bif Dm (p++q)then some (V.str (p++q))else none)=some v):wpAny (model prog w) A (binaryOp .Add (.str p t) (.str q t')) (PN w s₀ γ v) fW s:=by
 refine dJ h ?_;clear h;intro hs h;refine e9 h ?_;refine P.add_str ?_;split
 ·rename_i e;rw[FZ (beq_iff_eq.mp e),Yl];exact .mk' hS (.str ..)
 ·split
  ·rename_i e;rw[FZ (beq_iff_eq.mp e),Ym];exact .mk' hS (.str ..)
  ·exact⟨aR (aM hs) (by decide),.mk' hS (.str ..)⟩
theorem add_n(hB:Base w s₀)(hc:rD prog w s₀ d cf)(hR:Room A d 0)(hS:St w s₀ γ s)(hF:J5 s₀ s){a dx b dx':Addr}{t t':T}(e:γ a=some (.node t dx))(e':γ b=some (.node t' dx'))(h:cf 100 [.node t,.node t'] []=some v):wpAny (model prog w) A (binaryOp .Add (.ref a) (.ref b)) (PN w s₀ γ v) fW s:=by
 refine kY (BE hS e) λes k I r=>?_;obtain⟨L,m,F⟩:=id hF;have am:∀t:T,gU t .add=some 100:=λt=>by induction t using T.casesOn<;>rfl
 have q:=λt=>rF w.params (am t);have e1:=(opN (op:=.Add) rfl).1;have body:=aD (rY hc hR hS hF (.cons (.node e) (.cons (.node e') .nil)) .nil h) (λ_ _ z=>PN.back z) λ_ _ z=>z;by_cases hcl:t.cls=t'.cls
 ·exact binop_K F hB.K I (hcl▸sX hS e') (tT _ _) (by rw[e1];exact(q t).1) (q t).2.1 body
 ·obtain⟨rc,q3,q4⟩:=ED w.params t (op:=.Add) (by decide)
  obtain⟨rc',q3',q4'⟩:=ED w.params t' (op:=.Add) (by decide)
  exact OV (hB.K.keeps hS.keep) I (sX hS e') hcl (tT _ _) (tT _ _) (by rw[e1];exact(q t).1) (q t).2.1 (by rw[e1];exact(q t').1) q3 q4 q3' q4' (OU _ (Ne.symm hcl)) body
theorem OW(hB:Base w s₀)(hc:rD prog w s₀ d cf)(hR:Room A d 0)(hS:St w s₀ γ s)(hF:J5 s₀ s){op:Operator}{a b:V}{x y:Value}(ha:VR γ [] a x)(hb:VR γ [] b y)(h:cG cf op a b=some v):
  wpAny (model prog w) A (binaryOp op x y) (PN w s₀ γ v) fW s:=by
 refine Mu (P:=λa b op=>VR γ [] a x->VR γ [] b y->wpAny (model prog w) A (binaryOp op x y) (PN w s₀ γ v) fW s) (λop x y h ha hb=>?_) (λp q h ha hb=>?_) (λop t y h ha hb=>?_) (λt t' h ha hb=>?_) h ha hb
 ·obtain⟨_,rfl⟩:=ha.isInt;obtain⟨_,rfl⟩:=hb.isInt;exact D2 hS h
 ·obtain⟨_,rfl⟩:=ha.isStr;obtain⟨_,rfl⟩:=hb.isStr;exact add_s hS h
 ·refine kY (ha.isNode) λa dx zr2 e=>?_;subst zr2;obtain⟨_,rfl⟩:=hb.isInt;refine bH h ?_;clear h;intro n hn h;refine bH h ?_;clear h;intro f hm h;refine kY (BE hS e) λes k I r=>?_;obtain⟨L,m,F⟩:=id hF;obtain⟨e1,e2⟩:=opN hn;obtain⟨q1,q2,_⟩:=rF w.params hm;obtain⟨rc,q3,q4⟩:=ED w.params _ e2;obtain⟨⟨fo,q5⟩,⟨ro,q6⟩⟩:=Yk w.params e2;exact ksp_binT F hB.K I rfl (tT _ _) (by rw[e1];exact q1) q2 q3 q4 q5 q6 (FY _ _) (aD (rY hc hR hS hF (.cons (.node e) (.cons (.int ..) .nil)) .nil h) (λ_ _ z=>z.back) λ_ _ z=>z)
 ·refine kY (ha.isNode) λa dx zr2 e=>?_;subst zr2;refine kY (hb.isNode) λb dx' zr2 e'=>?_;subst zr2;exact add_n hB hc hR hS hF e e' h
end
theorem oP:∀(i:Nat) (cs:Cs),uK i cs=cs[i]?
 |i,[]=>by simp[gC_n]
 |0,_::_=>rfl
 |i+1,_::r=>by show uK i r=_;rw[oP i r];rfl
theorem VR.down{γ:Gh}{ad:List Addr}{v:V}{u:Value}(h:VR γ ad v u)(hn:∀i,v≠.own i):VR γ [] v u:=by
 cases h with
 |none=>exact .none
 |bool b=>exact .bool b
 |int i t=>exact .int i t
 |str s t=>exact .str s t
 |node e=>exact .node e
 |lst e=>exact .lst e
 |dct e=>exact .dct e
 |dit e=>exact .dit e
 |tup e=>exact .tup e
 |own e=>exact absurd rfl (hn _)
 |glob e=>exact .glob e
 |bi n=>exact .bi n
theorem BH{v:V}(h:∀i,v≠.own i)(cs:Cs):view v cs=some v:=vOQ (Q:=λz=>z=some v) rfl λi e=>absurd e (h i)
theorem zL(v:V):(∃i,v=.own i)\/∀i,v≠.own i:=by
 induction v using V.casesOn with
 |own i=>exact .inl ⟨i,rfl⟩
 |_=>exact .inr λ_=>V.noConfusion
section
variable{prog:Program}{w:World}{s₀ s s':Shared}{γ:Gh}{ad:List Addr}{cs:Cs}{A:Around}{d:Nat}{cf:cO}{v:V}{u:Value}
theorem mY{h:Heap}{a:Addr}{o:Obj}{vs:Array Value}{n:Nat}(e:h.get? a=some o)(c:o.cls=.type "list")(dd:o.data=.seq vs n):h.IsList a vs:=⟨o,e,c,n,dd⟩
theorem VR.isOwn{i:Nat}(h:VR γ ad (.own i) u):∃a,u=.ref a/\ad[i]?=some a:=h.inv
theorem VR.isLst{l:List V}(h:VR γ ad (.lst l) u):∃a,u=.ref a/\γ a=some (.lst l):=h.inv
theorem VR.isDct{l:List (Str×V)}(h:VR γ ad (.dct l) u):∃a o,u=.ref a/\γ a=some (.dct l o):=h.inv
theorem VR.isTup{l:List V}(h:VR γ ad (.tup l) u):∃a,u=.ref a/\γ a=some (.tup l):=h.inv
theorem VR.isDit{l:List (Str×V)}(h:VR γ ad (.dit l) u):∃a,u=.ref a/\γ a=some (.dit l):=h.inv
theorem rZ(hS:St w s₀ γ s)(hC:CsOk w γ ad cs){l:List V}(hv:VR γ ad v u)(h:view v cs=some (.lst l)):∃a vs,u=.ref a/\s.heap.IsList a vs/\AllR (VR γ []) l vs.toList:=by
 rcases zL v with⟨i,rfl⟩|hn
 ·refine hv.ownI λa e=>?_;refine eV h ?_;clear h;intro c hc hl;rw[oP]at hc;refine rS (hC.all.get e) λc' hc' o g hg q=>?_;rw[hc]at hc';obtain rfl:=aC hc';induction hf:c.frozen using Bool.casesOn with
  |true=>
   rw[hf]at q;clear hf;rw[hl]at hg;obtain rfl:=aC hg;refine nJ (hS.ok.at_ _ _ q) λo h1 h2 vs n h3 h4=>?_;exact nM a vs rfl (mY h1 h2 h3) h4
  |false=>
   rw[hf]at q;obtain⟨h1,h2,_⟩:=q;clear right;rw[hl]at h2;refine yL (h2) λh2 vs n h3 h4=>?_;exact nM a vs rfl (mY (hS.raw h1) h2 h3) h4
 ·rw[BH hn]at h;have h:=aC h;clear hn;subst h;refine hv.lstI λa e=>?_;refine nJ (hS.ok.at_ _ _ e) λo h1 h2 vs n h3 h4=>?_;exact nM a vs rfl (mY h1 h2 h3) h4
theorem x8(hS:St w s₀ γ s)(hC:CsOk w γ ad cs){l:List (Str×V)}(hv:VR γ ad v u)(h:view v cs=some (.dct l)):∃a o,u=.ref a/\s.heap.get? a=some o/\uO w γ o (.dct l):=by
 rcases zL v with⟨i,rfl⟩|hn
 ·refine hv.ownI λa e=>?_;refine eV h ?_;clear h;intro c hc hl;rw[oP]at hc;refine rS (hC.all.get e) λc' hc' o g hg q=>?_;rw[hc]at hc';obtain rfl:=aC hc';induction hf:c.frozen using Bool.casesOn with
  |true=>
   rw[hf]at q;clear hf;rw[hl]at hg;obtain rfl:=aC hg;obtain⟨h1,h2⟩:=hS.ok.at_ _ _ q;exact nM a o rfl h1 h2
  |false=>
   rw[hf]at q;obtain⟨h1,h2,_⟩:=q;clear right;rw[hl]at h2;exact nM a o rfl (hS.raw h1) h2
 ·rw[BH hn]at h;have h:=aC h;clear hn;subst h;refine hv.dctI λa o e=>?_;refine oA (hS.ok.at_ _ _ e) λh1 h2=>?_;exact nM a o rfl h1 h2
def Yn(s s':Shared):Prop:=s'.heap=s.heap/\s'.gens=s.gens/\s'.os=s.os
theorem Yn.st(h:Yn s s')(hS:St w s₀ γ s):St w s₀ γ s':=hS.like h.1 h.2.1 h.2.2
theorem pA(hC:CsOk w γ ad cs)(hv:VR γ ad v u){x:V}(h:view v cs=some x)(hx:∀o,Oq o x=none):v=x/\VR γ [] v u:=by
 rcases zL v with⟨i,rfl⟩|hn
 ·refine hv.ownI λa e=>?_;refine eV h ?_;clear h;intro c hc hl;rw[oP]at hc;refine rS (hC.all.get e) λc' hc' o g hg q=>?_;clear q;rw[<-aC (hc.symm.trans hc'),hl,hx]at hg;exact aY hg
 ·clear hx;rw[BH hn]at h;exact⟨aC h,hv.down hn⟩
theorem VR.isGlob{a:Addr}(h:VR γ ad (.glob a) u):u=.ref a/\isGlob a=true:=h.inv
theorem VR.isBi{n:Bi}(h:VR γ ad (.bi n) u):u=zK n:=h.inv
theorem VR.isNone(h:VR γ ad .none u):u=.none:=h.inv
theorem VR.isBool{b:Bool}(h:VR γ ad (.bool b) u):u=.bool b:=h.inv
theorem vI(hS:St w s₀ γ s)(hC:CsOk w γ ad cs){b:Bool}(hv:VR γ ad v u)(h:eM v cs=some b):wpAny (model prog w) A (truthy u) (λc s'=>c=b/\Yn s s') fW s:=by
  unfold eM at h
  induction e:view v cs using Option.casesOn with
  |none=>rw[e]at h;exact aY h
  |some x=>
    rw[e]at h
    induction x using V.casesOn with
    |none=>
      refine oA (pA hC hv e λ_=>rfl) λzr0 hv=>?_;subst zr0
      rw[hv.isNone,<-aC h];exact truthy_none ⟨rfl,rfl,rfl,rfl⟩
    |bool b'=>
      refine oA (pA hC hv e λ_=>rfl) λzr0 hv=>?_;subst zr0
      rw[hv.isBool,<-aC h];exact wpAny_truthy_bool ⟨rfl,rfl,rfl,rfl⟩
    |int i=>
      refine oA (pA hC hv e λ_=>rfl) λzr0 hv=>?_;subst zr0
      refine hv.intI λt=>?_
      rw[<-aC h]
      refine truthy_int ⟨?_,rfl,rfl,rfl⟩
      by_cases z:i=0<;>simp[z]
    |lst l=>
      refine dJ h ?_;clear h;intro hz h
      refine fM (rZ hS hC hv e) λa vs zr2 h1 h2=>?_;subst zr2
      have eW:=h2.length
      have hz:=aX hz
      rw[<-aC h]
      clear h e hv hC
      refine wpAny_truthy_list h1 (by have:vs.size=vs.toList.length:=by simp
                                      lia) ⟨?_,rfl,rfl,rfl⟩
      obtain⟨vs⟩:=vs
      induction vs using List.casesOn with
      |nil=>clear eW hz;cases h2;rfl
      |cons _ _=>clear eW hz;cases h2;rfl
    |_=>exact aY h
theorem Gb(hS:St w s₀ γ s){op:CmpOp}{x y:Int}{t t':Tok}{b:Bool}(h:OK op x y=some b):wpAny (model prog w) A (compareOp op (.int x t) (.int y t')) (PN w s₀ γ (.bool b)) fW s:=by
 have fin:∀{c:Bool},c=b->PN w s₀ γ (.bool b) (.bool c) s:=λe=>by clear h;subst e;exact .mk' hS (.bool _)
 induction op using PySem.CmpOp.casesOn with
 |Eq=>exact eq_int (fin (Eq.trans (by by_cases z:x=y<;>simp[z]) (aC h)))
 |NotEq=>exact ne_int (fin (Eq.trans (by by_cases z:x=y<;>simp[z]) (aC h)))
 |Lt=>exact lt_int (fin (aC h))
 |LtE=>exact le_int (fin (aC h))
 |Gt=>exact gt_int (fin (aC h))
 |GtE=>exact ge_int (fin (aC h))
 |_=>exact aY h
theorem Mv{P:V->V->CmpOp->Prop}{cf:cO}{v:V}(k1:∀op x y,(OK op x y).map V.bool=some v->P (.int x) (.int y) op)(k2:∀p q,some (V.bool (lE p q))=some v->P (.str p) (.str q) .Eq)
  (k3:∀t y,((gU t .eq).bind λf=>cf f [.node t,.int y] [])=some v->P (.node t) (.int y) .Eq) (k4:∀t u,(bif Nat.beq t.cls u.cls then(gU t .eq).bind λf=>cf f [.node t,.node u] []else none)=some v->P (.node t) (.node u) .Eq)
  (k5:some (V.bool false)=some v->P .none .none .IsNot) (k6:∀d,some (V.bool true)=some v->P (.dct d) .none .IsNot) {a b:V} {op:CmpOp} (h:j4 cf op a b=some v):P a b op:=by
 induction a using V.casesOn with
 |int x=>
  induction b using V.casesOn with
  |int y=>exact k1 _ x y h
  |_=>exact aY h
 |str p=>
  induction b using V.casesOn with
  |str q=>
   induction op using PySem.CmpOp.casesOn with
   |Eq=>exact k2 p q h
   |_=>exact aY h
  |_=>exact aY h
 |node t=>
  induction b using V.casesOn with
  |int y=>
   induction op using PySem.CmpOp.casesOn with
   |Eq=>exact k3 t y h
   |_=>exact aY h
  |node u=>
   induction op using PySem.CmpOp.casesOn with
   |Eq=>exact k4 t u h
   |_=>exact aY h
  |_=>exact aY h
 |none=>
  induction b using V.casesOn with
  |none=>
   induction op using PySem.CmpOp.casesOn with
   |IsNot=>exact k5 h
   |_=>exact aY h
  |_=>exact aY h
 |dct d=>
  induction b using V.casesOn with
  |none=>
   induction op using PySem.CmpOp.casesOn with
   |IsNot=>exact k6 d h
   |_=>exact aY h
  |_=>exact aY h
 |_=>exact aY h
theorem eqs_b(p q:Str):(p.cps.toList==q.cps.toList)=lE p q:=by
 induction e:lE p q using Bool.casesOn with
 |true=>rw[fY e];simp
 |false=>
  refine cK.mpr λz=>mB.mp e ?_;obtain⟨⟨p⟩⟩:=p;clear e;obtain⟨⟨q⟩⟩:=q;rw[show p=q from z]
theorem Gc(hB:Base w s₀)(hc:rD prog w s₀ d cf)(hR:Room A d 0)(hS:St w s₀ γ s)(hF:J5 s₀ s){op:CmpOp}{a b:V}{x y:Value}(ha:VR γ [] a x)(hb:VR γ [] b y)(h:j4 cf op a b=some v):
  wpAny (model prog w) A (compareOp op x y) (PN w s₀ γ v) fW s:=by
 have hu:A.units<cLine:=by have:=hR.un;lia
 refine Mv (P:=λa b op=>VR γ [] a x->VR γ [] b y->wpAny (model prog w) A (compareOp op x y) (PN w s₀ γ v) fW s) (λop x y h ha hb=>?_) (λp q h ha hb=>?_) (λt y h ha hb=>?_) (λt t' h ha hb=>?_) (λh ha hb=>?_) (λd h ha hb=>?_) h ha hb
 ·refine ha.intI λ_=>?_;refine hb.intI λ_=>?_;refine eV h ?_;clear h;intro c hc hrfl;clear h;subst hrfl;exact Gb hS hc
 ·refine ha.strI λ_=>?_;refine hb.strI λ_=>?_;obtain rfl:=aC h;refine P.eq_str ?_;rw[eqs_b];exact .mk' hS (.bool _)
 ·refine ha.nodeI λa dx e=>?_;refine hb.intI λtk=>?_;refine bH h ?_;clear h;intro f hm h;refine kY (BE hS e) λes k I r=>?_;obtain⟨L,m,F⟩:=id hF;obtain⟨q1,q2,_⟩:=rF w.params hm;exact cmp_K (op:=.Eq) hu F hB.K I (Looks.of_pure (r:=Value.type "int") rfl) (cP.mpr (.inr (beq_iff_eq.mpr (FY _ t)))) q1 q2 (aD (rY hc hR hS hF (.cons (.node e) (.cons (.int y tk) .nil)) .nil h) (λ_ _ z=>PN.back z) λ_ _ z=>z)
 ·refine ha.nodeI λa dx e=>?_;refine kY (hb.isNode) λb dx' zr2 e'=>?_;subst zr2;refine dJ h ?_;clear h;intro hcl h;refine bH h ?_;clear h;intro f hm h;refine kY (BE hS e) λes k I r=>?_;obtain⟨L,m,F⟩:=id hF;obtain⟨q1,q2,_⟩:=rF w.params hm;exact cmp_K (op:=.Eq) hu F hB.K I (aA hcl▸sX hS e') (cP.mpr (.inl (beq_self_eq_true _))) q1 q2 (aD (rY hc hR hS hF (.cons (.node e) (.cons (.node e') .nil)) .nil h) (λ_ _ z=>PN.back z) λ_ _ z=>z)
 ·obtain rfl:=aC h;cases ha;cases hb;exact wpAny_isNot_self (by decide) (.mk' hS (.bool _))
 ·obtain rfl:=aC h;refine ha.dctI λ_ _ _=>?_;cases hb;exact wpAny_isNot_other rfl (by intro e;cases e) (.mk' hS (.bool _))
theorem Yo(hS:St w s₀ γ s){i:Int}{t:Tok}:wpAny (model prog w) A (unaryOp .USub (.int i t)) (PN w s₀ γ (.int (-i))) fW s:=neg_int (.mk' hS (.int ..))
end
set_option tactic.hygienic true
noncomputable def Yp(C:Addr):List Addr:=bif Nat.beq C 331 then[331,220]else bif Nat.beq C 277 then[277,220]else bif Nat.beq C 471 then[471,383,220]else bif Nat.beq C 512 then[512,383,220]
 else bif Nat.beq C 560 then[560,383,220]else[644,593,220]
theorem OX(t:T):t.mro=Yp t.cls:=by induction t using T.casesOn<;>rfl
def Mw(K:Frag)(C:Addr):Bool:=findIn K (.ref C) "__class__"==some (some (.builtin "object.__class__"))&&specialIn K (.builtin "object.__class__") "__get__"==some (some (.builtin "getset_descriptor.__get__"))&&
 takesIn K (.builtin "object.__class__")==some true&&mroIn K C (.type "object")==some true&&(BA.all λD=>kitOne K (.ref C) (.ref D)==some ((Yp C).any (Nat.beq D)))&&kitOne K (.ref C) (.type "int")==some false
theorem is1(P:Params):pV.all (Mw (Kf P))=true:=by kernel_rfl!
theorem is2(P:Params):(kitOne (Kf P) (.type "int") (.type "int")==some true&&BA.all λD=>kitOne (Kf P) (.type "int") (.ref D)==some false)=true:=by kernel_rfl!
section
variable{prog:Program}{w:World}{s₀ s s':Shared}{γ:Gh}{ad:List Addr}{cs:Cs}{A:Around}{d:Nat}{cf:cO}{v:V}{u:Value}
inductive TyOf:V->Value->Value->Prop
 |node {t:T} {a:Addr}:TyOf (.node t) (.ref a) (.ref t.cls)
 |int {i:Int} {t:Tok}:TyOf (.int i) (.int i t) (.type "int")
theorem Rc{n:Bi}(h:Nat.beq n.ctorIdx 6=true):n=.int:=Bi.int.elim (motive:=λz=>z=.int) n (aA h) rfl
theorem zM{P:Prop}{v c:V}{b:Bool}(h:uL v c=some b)(k1:∀t a,v=.node t->c=.glob a->(bif BA.any (Nat.beq a)then some (t.mro.any (Nat.beq a))else none)=some b->P)(k2:∀i a,v=.int i->c=.glob a->(bif BA.any (Nat.beq a)then some false else none)=some b->P)
  (k3:∀i,v=.int i->c=.bi .int->true=b->P) (k4:∀t,v=.node t->c=.bi .int->false=b->P):P:=
 vNC h (λh=>Yc h nS λi ev h=>vGC h (λh=>vBE h nS λn ec h=>dJ h λhn h=>k3 i ev (by rw[ec,Rc hn]) (aC h)) λa ec h=>k2 i a ev ec h)
  λt ev h=>vGC h (λh=>vBE h nS λn ec h=>dJ h λhn h=>k4 t ev (by rw[ec,Rc hn]) (aC h)) λa ec h=>k1 t a ev ec h
theorem Rd(P:Params)(t:T):(BA.all λD=>kitOne (Kf P) (.ref t.cls) (.ref D)==some ((Yp t.cls).any (Nat.beq D)))=true/\(kitOne (Kf P) (.ref t.cls) (.type "int")==some false)=true:=by
 have q:=aW.mp (is1 P) _ (jX t);unfold Mw at q;refine oA (aL.mp q) λq q2=>?_;exact⟨(aL.mp q).2,q2⟩
theorem Mx{a:Addr}{x:Option Bool}{b:Bool}{f:Addr->Option Bool}(h:(bif BA.any (Nat.beq a)then x else none)=some b)(hf:(BA.all λD=>f D==x)=true):f a=some b:=by
 refine dJ h ?_;clear h;intro hm h;refine i8 (fJ.mp hm) λD hD e=>?_;rw[aA e,<-h];exact beq_iff_eq.mp (aW.mp hf _ hD)
theorem My(P:Params){c:V}{ux ty uc:Value}{b:Bool}(hT:TyOf v ux ty)(hc:VR γ ad c uc)(h:uL v c=some b):kitOne (Kf P) ty uc=some b:=by
 refine zM h (λt a ev ec k=>?_) (λi a ev ec k=>?_) (λi ev ec k=>?_) λt ev ec k=>?_
 ·clear h;subst ev ec;cases hT;rw[hc.isGlob.1];refine dJ k λhm k=>?_;refine i8 (fJ.mp hm) λD hD e=>?_;rw[aA e]at k;rw[aA e,<-k,OX];exact beq_iff_eq.mp (aW.mp (Rd P t).1 _ hD)
 ·clear h;subst ev ec;cases hT;rw[hc.isGlob.1];exact Mx (f:=λD=>kitOne (Kf P) (.type "int") (.ref D)) k (aL.mp (is2 P)).2
 ·clear h;subst ev ec;cases hT;rw[hc.isBi,<-k];exact beq_iff_eq.mp (aL.mp (is2 P)).1
 ·clear h;subst ev ec;cases hT;rw[hc.isBi,<-k];exact beq_iff_eq.mp (Rd P t).2
theorem IB(P:Params){ux ty:Value}(hT:TyOf v ux ty):∀{l:List V} {us:List Value} {b:Bool},AllR (VR γ ad) l us->tO v l=some b->kitAny (Kf P) ty us=some b:=by
 intro l us b h;induction h with
 |nil=>intro e;cases hT<;>(refine e9 e ?_;rfl)
 |cons r _ ih=>
  intro e;rw[iI_c]at e;refine bH e ?_;clear e;intro c hc e;have k:=My P hT r hc;unfold kitAny;rw[k];induction c using Bool.casesOn with
  |true=>clear ih;refine e9 e ?_;rfl
  |false=>exact ih e
theorem xF{x c:V}{b:Bool}(h:uL x c=some b):(∃t,x=.node t)\/∃i,x=.int i:=
 zM h (λt _ e _ _=>.inl ⟨t,e⟩) (λi _ e _ _=>.inr ⟨i,e⟩) (λi e _ _=>.inr ⟨i,e⟩) λt e _ _=>.inl ⟨t,e⟩
theorem BI{x:V}{l:List V}{b:Bool}(h:tO x l=some b):(∃t,x=.node t)\/∃i,x=.int i:=by
 induction l using List.casesOn with
 |nil=>
  exact dJ h λc _=>(cP.mp c).elim (λc=>.inl (V.node.elim (motive_1:=λx=>∃t,x=.node t) x (aA c) λt=>⟨t,rfl⟩)) λc=>.inr (V.int.elim (motive_1:=λx=>∃t,x=.int t) x (aA c) λt=>⟨t,rfl⟩)
 |cons c r=>exact bH h λc' hc' _=>xF hc'
theorem r6{x c:V}{b:Bool}(h:tQ x c=some b):(∃t,x=.node t)\/∃i,x=.int i:=
 vTQ (Q:=λz=>z=some b->(∃t,x=.node t)\/∃i,x=.int i) xF (λ_ _=>BI) h
theorem AS(hB:Base w s₀)(hS:St w s₀ γ s){x c:V}{ux uc:Value}{b:Bool}(hx:VR γ [] x ux)(hc:VR γ [] c uc)(h:tQ x c=some b):
  wpAny (model prog w) A (call (.builtin "isinstance") [ux,uc]) (PN w s₀ γ (.bool b)) fW s:=by
 have X:=hB.K.keeps hS.keep;have fin:∀tk:Nat,PN w s₀ γ (.bool b) (.bool b) {s with toks:=tk}:=λtk=>.mk' hS (.bool b)
 have kind:∃ty H,TyOf x ux ty/\KitX (Kf w.params) ux ty H/\H s.heap/\ux≠.builtin "__main__.__loader__#opaque":=by
  rcases r6 h with⟨t,rfl⟩|⟨i,rfl⟩
  ·refine hx.nodeI λa dx e=>?_;refine kY (BE hS e) λes k I r=>?_;have q:=aW.mp (is1 w.params) _ (jX t);unfold Mw at q;simp only[a9,beq_iff_eq]at q;exact uJ _ _ .node (kitx_own (rX _ t _) (rE _ t) q.1.1.1.1.1 q.1.1.1.1.2 q.1.1.1.2 q.1.1.2) I (by intro z;cases z)
  ·refine hx.intI λt=>?_;exact uJ _ _ .int kitx_int trivial (by intro z;cases z)
 refine uI (kind) λty H hT Z hH f5=>?_;refine vTQ (Q:=λz=>z=some b->wpAny (model prog w) A (call (.builtin "isinstance") [ux,uc]) (PN w s₀ γ (.bool b)) fW s) (λh=>kia_one Z X hH (My _ hT hc h) f5 fin) (λl ec h4=>?_) h;clear h;subst ec;refine hc.tupI λa e=>?_;refine nJ (hS.ok.at_ _ _ e) λo h1 h2 vs n h3 h4'=>?_;obtain⟨oc,od,oda,osl⟩:=o;dsimp only at h2 h3;subst h2 h3;exact kia_tup (its:=vs.toList) Z X hH (by simpa using h1) (IB _ hT h4' h4) f5 fin
theorem Yq(hS:St w s₀ γ s){i:Int}{t:Tok}:wpAny (model prog w) A (call (.builtin "abs") [.int i t]) (PN w s₀ γ (.int i.natAbs)) fW s:=by
 refine call_abs_int λu tk=>?_;have:(if i<0 then -i else i)=(i.natAbs:Int):=by split<;>lia
 rw[this];exact .mk' hS (.int ..)
theorem Yr(hS:St w s₀ γ s){i:Int}{t:Tok}(h:wF i=true):wpAny (model prog w) A (call (.type "str") [.int i t]) (PN w s₀ γ (.str (pU i))) fW s:=by
 have h:=aM h;refine P.str_of_int ?_ (.mk' hS (.str ..));by_cases hb:i.natAbs=0
 ·rw[hb];decide
 ·have:i.natAbs.log2<1900:=(Nat.log2_lt hb).mpr h;lia
theorem Ys(hS:St w s₀ γ s){a:Addr}{vs:Array Value}{l:List V}(h:s.heap.IsList a vs)(r:AllR (VR γ []) l vs.toList)(hz:l.length<=100000):wpAny (model prog w) A (call (.builtin "len") [.ref a]) (PN w s₀ γ (.int l.length)) fW s:=by
 have hl:=r.length;have hl:l.length=vs.size:=by simpa using hl
 refine call_len_list h (by lia) ?_
 rw[<-hl];exact .mk' hS (.int ..)
theorem OY{γ:Gh}:∀{l:List V} {vs:List Value} {ss:List Str},AllR (VR γ ad) l vs->mV l=some ss->∃p:List (Str×Tok),vs=strValues p/\p.map (·.1)=ss:=by
 intro l vs ss h;induction h generalizing ss with
 |nil=>intro e;refine e9 e ?_;exact kF ([]) rfl rfl
 |@cons a b l m r _ ih=>
  intro e;refine QW e nS λx ea e=>eV e λss' e1 hs=>?_;obtain⟨t,et⟩:=(ea▸r).isStr;refine i8 (ih e1) λp e2 e3=>?_;exact kF ((x,t)::p) (by rw[et,e2];rfl) (by rw[<-hs,<-e3];rfl)
theorem OZ(hS:St w s₀ γ s){a:Addr}{vs:Array Value}{l:List V}{ss:List Str}{x:Str}{t:Tok}(h:s.heap.IsList a vs)(r:AllR (VR γ []) l vs.toList)(hs:mV l=some ss)(hj:JoinOk x ss=true):
  wpAny (model prog w) A (call (.builtin "str.join") [.str x t,.ref a]) (PN w s₀ γ (.str (Str.join x ss))) fW s:=by
 refine i8 (OY r hs) λp h1 h2=>?_;have e:vs=(strValues p).toArray:=by rw[<-h1]
 clear h1 r;subst e;refine SC.join h h2 hj λt' k=>?_;rw[show Txt.join x ss=Str.join x ss from StrLaws.glued_eq_join x ss];exact .mk' hS (.str ..)
end
theorem zN:∀(i j:Nat) (c:Cn) (cs:Cs),(sM i c cs)[j]?=if i=j/\i<cs.length then some c else cs[j]?
 |i,j,c,[]=>by simp[E2,E4,E5]
 |0,0,c,d::r=>by simp[E2,E4,E5]
 |0,j+1,c,d::r=>by simp[E2,E4,E5]
 |i+1,0,c,d::r=>by simp[E2,E4,E5]
 |i+1,j+1,c,d::r=>by
  have:=zN i j c r;simp only[E2,E4,E5,List.getElem?_cons_succ,this,bL];by_cases h:i=j/\i<r.length
  ·rw[if_pos h,if_pos (by lia)]
  ·rw[if_neg h,if_neg (by lia)]
theorem D3:∀(i:Nat) (c:Cn) (cs:Cs),(sM i c cs).length=cs.length
 |i,_,[]=>by simp[E2,E4,E5]
 |0,_,_::_=>rfl
 |i+1,c,_::r=>by simp[E2,E4,E5,D3 i c r]
theorem AllR.of{α β:Type}{R:α->β->Prop}:∀{l:List α} {m:List β},l.length=m.length->(∀(i:Nat) (a:α) (b:β),l[i]?=some a->m[i]?=some b->R a b)->AllR R l m:=by
 intro l;induction l with
 |nil=>
  intro m hl _;induction m using List.casesOn with
  |nil=>exact .nil
  |cons b m=>exact absurd hl (Nat.succ_ne_zero _).symm
 |cons a l ih=>
  intro m hl h;induction m using List.casesOn with
  |nil=>exact absurd hl (Nat.succ_ne_zero _)
  |cons b m=>exact .cons (h 0 a b rfl rfl) (ih (Nat.succ.inj hl) λi a' b' e e'=>h (i+1) a' b' e e')
section
variable{prog:Program}{w:World}{s₀ s s':Shared}{γ bP:Gh}{ad:List Addr}{cs:Cs}{A:Around}{v:V}{u:Value}
theorem Mz{l:List Addr}(h:l.Nodup){i j:Nat}{a:Addr}(e:l[i]?=some a)(e':l[j]?=some a):i=j:=by
 obtain⟨h1,e1⟩:=List.getElem?_eq_some_iff.mp e;obtain⟨h2,e2⟩:=List.getElem?_eq_some_iff.mp e';have hp:=List.pairwise_iff_getElem.mp h;rcases mO i j with q|q|q
 ·exact absurd (e1.trans e2.symm) (hp i j h1 h2 q)
 ·exact q
 ·exact absurd (e2.trans e1.symm) (hp j i h2 h1 q)
theorem CsOk.setAt(hC:CsOk w γ ad cs){i:Nat}{a:Addr}{o:Obj}{c:Cn}{g:G}(ha:ad[i]?=some a)(e:γ a=some (.raw o))(h:Mo w (iZ γ a (some g)) a c):CsOk w (iZ γ a (some g)) ad (sM i c cs):=by
 refine⟨AllR.of (by rw[D3];exact hC.all.length) λj b c' hb hc'=>?_,hC.nd⟩
 rw[zN]at hc';by_cases hj:i=j
 ·subst hj;rw[ha]at hb;refine e9 hb ?_;have:i<cs.length:=by rw[<-hC.all.length];exact(List.getElem?_eq_some_iff.mp ha).1
  rw[if_pos ⟨rfl,this⟩]at hc';refine e9 hc' ?_;exact h
 ·rw[if_neg (λz=>hj z.1)]at hc';refine i8 (hC.all.get hb) λc'' h1 h2=>?_;rw[hc']at h1;obtain rfl:=aC h1;have ne:b≠a:=λz=>hj (Mz hC.nd ha (z▸hb));exact h2.step (X:=[]) (iQ λg' q=>by rw[e]at q;obtain rfl:=aC q;rfl) λo' q=>(cN ne).trans q
theorem CsOk.same(hC:CsOk w γ ad cs){i:Nat}{c:Cn}(hc:cs[i]?=some c):sM i c cs=cs:=by
 refine List.ext_getElem? λj=>?_;rw[zN];split
 ·rename_i h;rw[<-h.1,hc]
 ·rfl
theorem Pa{v:V}{g:G}{o:Obj}{h:Heap}{a:Addr}(e:Oq o v=some g)(x:uO w γ o v)(ho:h.get? a=some o):vH w γ h a g/\(∀t dx,g≠.node t dx):=by
 induction v using V.casesOn<;>(first|exact aY e|obtain rfl:=aC e)
 ·exact⟨⟨o,ho,x⟩,λ_ _ q=>by cases q⟩
 ·exact⟨⟨ho,x⟩,λ_ _ q=>by cases q⟩
theorem M0{o:Obj}{v:V}{g:G}{a:Addr}(e:Oq o v=some g)(q:γ a=some g):VR γ ad v (.ref a):=by
 induction v using V.casesOn<;>(first|exact aY e|obtain rfl:=aC e)
 ·exact .lst q
 ·exact .dct q
theorem M1{v:V}(h:∀i,v≠.own i)(cs:Cs):a8 v cs=some (v,cs):=vOQ (Q:=λz=>z=some (v,cs)) rfl λi e=>absurd e (h i)
theorem rH(hS:St w s₀ γ s)(hC:CsOk w γ ad cs)(hv:VR γ ad v u){v':V}{cW:Cs}(h:a8 v cs=some (v',cW)):∃bP,St w s₀ bP s/\CsOk w bP ad cW/\Step [] γ bP ad ad/\VR bP [] v' u:=by
 rcases zL v with⟨i,rfl⟩|hn
 ·refine hv.ownI λa e=>?_;refine eV (show((uK i cs).map λc=>(c.val,sM i ⟨true,c.val⟩ cs))=some (v',cW)from h) λc hc h=>?_;obtain⟨e1,e2⟩:=Prod.mk.inj h;rw[<-e1,<-e2];clear h;clear h e1 e2;rw[oP]at hc;refine rS (hC.all.get e) λc' hc' o g hg q=>?_;rw[aC (hc'.symm.trans hc)]at hg q;induction hf:c.frozen using Bool.casesOn with
  |true=>
   rw[hf]at q;rw[show(⟨true,c.val⟩:Cn)=c by obtain⟨f,vv⟩:=c;clear q hg hc;cases hf;rfl,hC.same hc]
   exact yU γ hS hC (.refl γ ad) (M0 hg q)
  |false=>
   rw[hf]at q;obtain⟨h1,h2,_⟩:=q;obtain⟨r1,r2⟩:=Pa (γ:=γ) hg h2 (hS.raw h1);exact yU (iZ γ a (some g)) (hS.tell h1 r2 r1) (hC.setAt e h1 ⟨o,g,hg,bK ..⟩) (gW g ad h1 (.inl (List.mem_of_getElem? e)) (λz=>by have:=BC hg;rw[z]at this;exact jA this)) (M0 hg (bK ..))
 ·obtain⟨e1,e2⟩:=Prod.mk.inj (aC ((M1 hn cs).symm.trans h));rw[<-e1,<-e2];exact yU γ hS hC (.refl γ ad) (hv.down hn)
theorem mZ:∀{vs:List V} {us:List Value} {γ:Gh} {cs:Cs} {ws:List V} {cW:Cs},St w s₀ γ s->CsOk w γ ad cs->AllR (VR γ ad) vs us->eX vs cs=some (ws,cW)->
  ∃bP,St w s₀ bP s/\CsOk w bP ad cW/\Step [] γ bP ad ad/\AllR (VR bP []) ws us:=by
 intro vs;induction vs with
 |nil=>
  intro us γ cs ws cW hS hC hv h;cases hv;cases h;exact yU γ hS hC (.refl γ ad) .nil
 |cons v r ih=>
  intro us γ cs ws cW hS hC hv h;cases hv with
  |cons hv hr=>
   refine bH h ?_;clear h;intro p hp h;refine eV h ?_;clear h;intro q hq h;refine l8 h ?_;refine n8 (rH hS hC hv hp) λaU a1 a2 a3 a4=>?_;refine n8 (ih a1 a2 (VRs.step hr a3) hq) λcL b1 b2 b3 b4=>?_;exact yU cL b1 b2 (a3.trans b3) (.cons (a4.mono b3.ext λi a e=>by simp at e) b4)
theorem EE(hS:St w s₀ γ s)(hC:CsOk w γ ad cs){l:List V}{us:List Value}(r:AllR (VR γ []) l us)(hz:us.length<=1000):wpAny (model prog w) A (newList us) (PE w s₀ γ ad (gT (.lst l) cs).1 (gT (.lst l) cs).2) fW s:=by
 refine wpAny_newList (hsz:=aR hz (by decide)) ?_
 have hf:=hS.free;have hl:ad.length=cs.length:=hC.all.length;refine⟨_,ad++[s.heap.objs.size],hS.alloc _ rfl,hC.push hf rfl ⟨rfl,us.toArray,0,rfl,by simpa using r⟩,wM hf,?_⟩
 exact .own (by rw[<-hl];simp)
theorem sY(hS:St w s₀ γ s){l:List V}{us:List Value}(r:AllR (VR γ []) l us)(hz:us.length<=1000):wpAny (model prog w) A (newTuple us) (PN w s₀ γ (.tup l)) fW s:=by
 refine wpAny_newTuple (hsz:=aR hz (by decide)) ?_
 have hf:=hS.free;have st:=hS.alloc (s':={s with heap:=s.heap.push {cls:=.type "tuple",data:=.seq us.toArray}}) {cls:=.type "tuple",data:=.seq us.toArray} rfl
 have st2:=st.tell (g:=.tup l) (bK ..) (by intro _ _ q;cases q) ⟨_,st.raw (bK ..),rfl,us.toArray,0,rfl,by
  simpa using r.mono λ_ _ z=>z.mono (d6 (X:=[]) _ [] hf).ext λi a e=>by simp at e⟩
 have hu:iZ (iZ γ s.heap.objs.size (some (.raw {cls:=.type "tuple",data:=.seq us.toArray}))) s.heap.objs.size (some (.tup l))=iZ γ s.heap.objs.size (some (.tup l)):=by
  funext x;by_cases h:x=s.heap.objs.size<;>simp[iZ,h]
 rw[hu]at st2;exact⟨_,st2,d6 _ [] hf,.tup (bK ..)⟩
end
set_option tactic.hygienic false
theorem glob1(P:Params):AP.all (λp=>nsIn (Kf P) mainGlobals p.1==some (some (.ref p.2)))=true:=by kernel_rfl!
theorem bi1(P:Params):biT.all (λp=>nsIn (Kf P) mainGlobals p.1==some none&&bootBuiltins p.1==some (zK p.2)&&!(p.1==("__name__":Str))&&!(p.1==("__debug__":Str)))=true:=by kernel_rfl!
theorem glob2:∀p∈AP,(p.1==("__debug__":Str))=false:=by decide+kernel
theorem zO(op:CmpOp){b:Expr}(hs:gD b=true):behindInMarks op b=false:=by
 induction b using PySem.Expr.casesOn<;>first|rfl|exact bX hs
theorem ID(cf:cO)(op:Operator)(i:Nat)(b:V):cG cf op (.own i) b=none:=by induction b using V.casesOn<;>rfl
theorem IF(cf:cO)(op:Operator)(i:Nat)(a:V):cG cf op a (.own i)=none:=by induction a using V.casesOn<;>rfl
theorem AT(cf:cO)(op:CmpOp)(i:Nat)(b:V):j4 cf op (.own i) b=none:=by induction b using V.casesOn<;>rfl
theorem AU(cf:cO)(op:CmpOp)(i:Nat)(a:V):j4 cf op a (.own i)=none:=by induction a using V.casesOn<;>rfl
section
variable{prog:Program}{w:World}{s₀ s s':Shared}{γ bP:Gh}{ad dU:List Addr}{cs cW:Cs}{A:Around}{d:Nat}{cf:cO}{v:V}{u:Value}{envM:Env}{sc:Scope}{env:Ev}
theorem PE.trans(x:Step [] γ bP ad dU)(h:PE w s₀ bP dU v cs u s):PE w s₀ γ ad v cs u s:=
 let⟨cL,eS,a,b,c,d⟩:=h;⟨cL,eS,a,b,x.trans c,d⟩
theorem PT.trans{b c:Bool}(x:Step [] γ bP ad dU)(h:PT w s₀ bP dU b cs c s):PT w s₀ γ ad b cs c s:=
 let⟨e,cL,eS,a,b,c⟩:=h;⟨e,cL,eS,a,b,x.trans c⟩
theorem fG{e:Expr}:e8 prog w s₀ A envM e (λ_ _=>none):=λ_ _ _ _ _ _ _ _ _ _ h=>by exact aY h
theorem wN(hE:EnvOk envM sc){x:Str}{p:Pos}{i:Nat}{k:NameKind}(hx:cJ x sc.names=some k)(hk:k=.local\/k=.cell\/k=.free)(hv:mS x=some i):
  e8 prog w s₀ A envM (.Name x p) (λenv cs=>(dZ i env).map λv=>(v,cs)):=λs γ ad env cs v cW hS hC hF h=>by
 refine eV h ?_;clear h;intro v' h1 h;cases h;refine wpAny_Name ?_ (I8 hv);have loc:envM.kindOf x=some .local->wpAny (model prog w) A (loadName envM x) (PE w s₀ γ ad v cs) fW s:=λhl=>by
  refine fM (hF.loc) λo m a1 a2 a3=>?_;obtain⟨u,b1,b2⟩:=a3 x i v hv h1 hl;exact wpAny_loadName_local hE.kind hl (a2.ns (hS.raw a1)) b1 (.mk' hS hC b2)
 have cel:envM.kindOf x=some .cell\/envM.kindOf x=some .free->wpAny (model prog w) A (loadName envM x) (PE w s₀ γ ad v cs) fW s:=λhl=>by
  obtain⟨c,hc⟩:=hE.cells x hl;refine fM (hF.cel x c hc) λo cv a1 a2 a3=>?_;obtain⟨u,b1,b2⟩:=a3 i v hv h1 hl;have hI:s.heap.IsCell c (some u):=⟨o,hS.raw a1,b1▸a2⟩;rcases hl with hl|hl
  ·exact wpAny_loadName_cell hE.kind hl hc hI (.mk' hS hC b2)
  ·exact wpAny_loadName_free hE.kind hl hc hI (.mk' hS hC b2) (AE hv)
 rcases hE.names x k hx with q|⟨rfl,q⟩
 ·clear hx;rcases hk with rfl|rfl|rfl
  ·exact loc q
  ·exact cel (.inl q)
  ·exact cel (.inr q)
 ·exact cel (.inl q)
theorem Pb(hB:Base w s₀)(hE:EnvOk envM sc){x:Str}{p:Pos}{a:Addr}(hx:cJ x sc.names=some .globalImplicit)(ha:cJ x AP=some a):e8 prog w s₀ A envM (.Name x p) (λ_ cs=>some (.glob a,cs)):=λs γ ad env cs v cW hS hC hF h=>by
 refine kX h ?_;have hm:=mX ha;have hk:envM.kindOf x=some .globalImplicit:=by rcases hE.names x _ hx with q|⟨q,_⟩<;>first|exact q|cases q
 refine AJ (hB.top) λp' lo mg mb T=>?_;have T':=T.keeps hS.keep;refine Name_function_global hE.kind hk (loadGlobal_global (by rw[hE.globals];exact T'.g) (mg_of hB.K T.g (beq_iff_eq.mp (aW.mp (glob1 w.params) _ hm))) ?_) (glob2 _ hm)
 exact .mk' hS hC (.glob (fJ.mpr ⟨_,hm,kM _⟩))
theorem ev_bi(hB:Base w s₀)(hE:EnvOk envM sc){x:Str}{p:Pos}{b:Bi}(hx:cJ x sc.names=some .globalImplicit)(hb:cJ x biT=some b):e8 prog w s₀ A envM (.Name x p) (λ_ cs=>some (.bi b,cs)):=λs γ ad env cs v cW hS hC hF h=>by
 refine kX h ?_;have hm:=aW.mp (bi1 w.params) _ (mX hb);simp only[a9,beq_iff_eq,Bool.not_eq_true',cK]at hm;obtain⟨⟨⟨h1,h2⟩,h3⟩,h4⟩:=hm;have hk:envM.kindOf x=some .globalImplicit:=by rcases hE.names x _ hx with q|⟨q,_⟩<;>first|exact q|cases q
 refine AJ (hB.top) λp' lo mg mb T=>?_;have T':=T.keeps hS.keep;refine Name_function_global hE.kind hk (loadGlobal_builtin (by rw[hE.globals];exact T'.g) (mg_none_of hB.K T.g h1) (by rw[hE.builtins];exact T'.b) ((T.builtins x h3).trans h2) ?_) (cK.mpr h4)
 exact .mk' hS hC (.bi b)
def EvX(prog:Program)(w:World)(s₀:Shared)(A:Around)(envM:Env)(e:Expr)(cf:cO)(r:Rec)(z:X):Prop:=e8 prog w s₀ A envM e (λenv cs=>dI cf r z env cs)
theorem Pc{r:Rec}(hB:Base w s₀)(hE:EnvOk envM sc){x:Str}{p:Pos}:EvX prog w s₀ A envM (.Name x p) cf r (BB sc x):=by
 unfold BB;refine cQ (λc=>oQ fG λi hi=>?_) (bQ fG λc=>oQ (oQ fG λb hb=>ev_bi hB hE (lN c) hb) λa ha=>Pb hB hE (lN c) ha);exact(cP.mp c).elim (λc=>(cP.mp c).elim (λc=>wN hE (lN c) (.inl rfl) hi) λc=>wN hE (lN c) (.inr (.inl rfl)) hi) λc=>wN hE (lN c) (.inr (.inr rfl)) hi
theorem M2{r:Rec}{A':cO}{c:Const}{k:Nat}{p:Pos}:e8 prog w s₀ A envM (.Constant c k p) (λenv cs=>dI A' r (FU c) env cs):=λs γ ad env cs v cW hS hC hF h=>by
 induction c using PySem.Const.casesOn with
 |none=>refine kX h ?_;exact λ_ _ _=>PE.mk' hS hC .none
 |bool b=>refine kX h ?_;exact λ_ _ _=>PE.mk' hS hC (.bool _)
 |int i=>refine kX h ?_;exact wpAny_Constant_int (.mk' hS hC (.int ..))
 |str s=>refine kX h ?_;exact Constant_str (.mk' hS hC (.str ..))
 |_=>exact aY h
theorem Yt(hB:Base w s₀)(hc:rD prog w s₀ d cf)(hR:Room A d 0){a b:Expr}{fa fb:Ev->Cs->Option (V×Cs)}{op:Operator}{p:Pos}(ha:e8 prog w s₀ A envM a fa)(hb:e8 prog w s₀ A envM b fb):
  e8 prog w s₀ A envM (.BinOp a op b p) (λenv cs=>(fa env cs).bind λp=>(fb env p.2).bind λq=>(cG cf op p.1 q.1).map λv=>(v,q.2)):=λs γ ad env cs v cW hS hC hF h=>by
 refine bH h ?_;clear h;intro x h1 h;refine bH h ?_;clear h;intro y h2 h;refine eV h ?_;clear h;intro z h3 h;refine l8 h ?_;refine wpAny_BinOp (aD (ha s γ ad env cs _ _ hS hC hF h1) (λlH bZ q=>?_) λ_ _ z=>z);obtain⟨aU,bN,S1,C1,T1,V1⟩:=q;refine aD (hb bZ aU bN env _ _ _ S1 C1 (hF.step T1) h2) (λu₂ cZ q=>?_) λ_ _ z=>z;obtain⟨cL,eS,S2,C2,T2,V2⟩:=q;have n1:∀i,x.1≠.own i:=λi e=>by rw[e,ID]at h3;exact aY h3
 have n2:∀i,y.1≠.own i:=λi e=>by rw[e,IF]at h3;exact aY h3
 exact aD (OW hB hc hR S2 ((hF.step (T1.trans T2)).frm S2) ((V1.step T2).down n1) (V2.down n2) h3) (λ_ _ z=>(z.pe C2).trans (T1.trans T2)) λ_ _ z=>z
theorem Yu(hB:Base w s₀)(hc:rD prog w s₀ d cf)(hR:Room A d 0){a b:Expr}{fa fb:Ev->Cs->Option (V×Cs)}{op:CmpOp}{p:Pos}(hs:gD b=true)(ha:e8 prog w s₀ A envM a fa)(hb:e8 prog w s₀ A envM b fb):
  e8 prog w s₀ A envM (.Compare a [op] [b] p) (λenv cs=>(fa env cs).bind λp=>(fb env p.2).bind λq=>(j4 cf op p.1 q.1).map λv=>(v,q.2)):=λs γ ad env cs v cW hS hC hF h=>by
 refine bH h ?_;clear h;intro x h1 h;refine bH h ?_;clear h;intro y h2 h;refine eV h ?_;clear h;intro z h3 h;refine l8 h ?_;have hm:=zO op hs;refine wpAny_Compare1 (aD (ha s γ ad env cs _ _ hS hC hF h1) (λlH bZ q=>?_) λ_ _ z=>z) hm;obtain⟨aU,bN,S1,C1,T1,V1⟩:=q;refine aD (hb bZ aU bN env _ _ _ S1 C1 (hF.step T1) h2) (λu₂ cZ q=>?_) λ_ _ z=>z;obtain⟨cL,eS,S2,C2,T2,V2⟩:=q;have n1:∀i,x.1≠.own i:=λi e=>by rw[e,AT]at h3;exact aY h3
 have n2:∀i,y.1≠.own i:=λi e=>by rw[e,AU]at h3;exact aY h3
 exact aD (Gc hB hc hR S2 ((hF.step (T1.trans T2)).frm S2) ((V1.step T2).down n1) (V2.down n2) h3) (λ_ _ z=>(z.pe C2).trans (T1.trans T2)) λ_ _ z=>z
theorem Yv{a:Expr}{fa:Ev->Cs->Option (V×Cs)}{p:Pos}(ha:e8 prog w s₀ A envM a fa):
  e8 prog w s₀ A envM (.UnaryOp .USub a p) (λenv cs=>(fa env cs).bind λp=>match p.1 with|.int i=>some (.int (-i),p.2)|_=>none):=λs γ ad env cs v cW hS hC hF h=>by
 refine bH h ?_;clear h;intro x h1 h
 obtain⟨x1,x2⟩:=x
 induction x1 using V.casesOn<;>first|(exact aY h;done)|skip
 cases h
 refine wpAny_UnaryOp (aD (ha s γ ad env cs _ _ hS hC hF h1) (λlH bZ q=>?_) λ_ _ z=>z)
 obtain⟨aU,bN,S1,C1,T1,V1⟩:=q
 refine V1.intI λt=>?_
 exact aD (Yo S1) (λ_ _ z=>(z.pe C1).trans T1) λ_ _ z=>z
theorem Yw{t a b:Expr}{ft:Ev->Cs->Option (Bool×Cs)}{fa fb:Ev->Cs->Option (V×Cs)}{p:Pos}(ht:rU prog w s₀ A envM t ft)(ha:e8 prog w s₀ A envM a fa)(hb:e8 prog w s₀ A envM b fb):
  e8 prog w s₀ A envM (.IfExp t a b p) (λenv cs=>(ft env cs).bind λp=>bif p.1 then fa env p.2 else fb env p.2):=λs γ ad env cs v cW hS hC hF h=>by
 refine bH h ?_;clear h;intro x h1 h;refine wpAny_IfExp (aD (ht s γ ad env cs _ _ hS hC hF h1) (λc bZ q=>?_) λ_ _ z=>z);obtain⟨rfl,aU,bN,S1,C1,T1⟩:=q;induction hx:x.1 using Bool.casesOn with
 |true=>
  rw[hx]at h;exact aD (ha bZ aU bN env _ _ _ S1 C1 (hF.step T1) h) (λ_ _ z=>z.trans T1) λ_ _ z=>z
 |false=>
  rw[hx]at h;exact aD (hb bZ aU bN env _ _ _ S1 C1 (hF.step T1) h) (λ_ _ z=>z.trans T1) λ_ _ z=>z
theorem sZ(hS:St w s₀ γ s)(hC:CsOk w γ ad cs){b:Bool}(hv:VR γ ad v u)(h:eM v cs=some b):wpAny (model prog w) A (truthy u) (PT w s₀ γ ad b cs) fW s:=
 aD (vI hS hC hv h) (λ_ _ z=>⟨z.1,γ,ad,z.2.st hS,hC,.refl γ ad⟩) λ_ _ z=>z
theorem Pd{a b:Expr}{fa fb:Ev->Cs->Option (V×Cs)}{p:Pos}(ha:e8 prog w s₀ A envM a fa)(hb:e8 prog w s₀ A envM b fb):
  e8 prog w s₀ A envM (.BoolOp .And [a,b] p) (λenv cs=>(fa env cs).bind λp=>(eM p.1 p.2).bind λb=>bif b then fb env p.2 else some p):=λs γ ad env cs v cW hS hC hF h=>by
 refine bH h ?_;clear h;intro x h1 h;refine bH h ?_;clear h;intro t h2 h;refine wpAny_And2 (aD (ha s γ ad env cs _ _ hS hC hF h1) (λlH bZ q=>?_) λ_ _ z=>z);obtain⟨aU,bN,S1,C1,T1,V1⟩:=q;refine aD (vI S1 C1 V1 h2) (λc cZ q=>?_) λ_ _ z=>z;obtain⟨rfl,q⟩:=q;have S2:=q.st S1;induction c using Bool.casesOn with
 |true=>exact aD (hb cZ aU bN env _ _ _ S2 C1 (hF.step T1) h) (λ_ _ z=>z.trans T1) λ_ _ z=>z
 |false=>clear h2 h1;refine kX h ?_;exact⟨aU,bN,S2,C1,T1,V1⟩
end
set_option tactic.hygienic true
theorem mU{e:Expr}{r:List Expr}(h:gE (e::r)=true)(env:Env):starEach (e::r) env=(false,eval e env)::starEach r env/\gE r=true:=by
 induction e using PySem.Expr.casesOn<;>first|exact⟨rfl,h⟩|exact bX h
theorem D4:∀{es:List Expr},gE es=true->∀(env:Env) (pos:Pos),(backTo pos (starEach es env)).any (·.1)=false
 |[],_,_,_=>rfl
 |e::r,h,env,pos=>by
  refine oA (mU h env) λa b=>?_;rw[a];exact(D4 b env pos)
theorem BK{o:Expr}(h:wJ o=true)(a:Str)(env:Env)(whole:Sem Value):attributeBase o a env whole=whole:=by
 induction o using PySem.Expr.casesOn<;>try rfl
 rename_i f args kws p
 induction f using PySem.Expr.casesOn<;>try rfl
 induction args using List.casesOn<;>try rfl
 induction kws using List.casesOn<;>first|rfl|exact bX h
def Yx(K:Frag)(C p:Addr)(n:Str)(f:Addr):Bool:=findIn K (.ref C) n==some (some (.ref p))&&specialIn K (.ref p) "__get__"==some (some (.builtin "property.__get__"))&&takesIn K (.ref p)==some true&&
 pX false (recIn K p "property") λl=>pX false l.head? λu=>sQ false u λg=>Nat.beq g f
section
variable{prog:Program}{w:World}{s₀ s s':Shared}{γ bP:Gh}{ad dU:List Addr}{cs cW:Cs}{A:Around}{d:Nat}{cf:cO}{v:V}{u:Value}{envM:Env}{sc:Scope}{env:Ev}{r:Rec}
inductive PA(w:World)(s₀:Shared)(γ:Gh)(ad:List Addr)(vs:List V)(cW:Cs)(us:List Value)(s':Shared):Prop
 |mk (bP:Gh) (dU:List Addr):St w s₀ bP s'->CsOk w bP dU cW->Step [] γ bP ad dU->AllR (VR bP dU) vs us->PA w s₀ γ ad vs cW us s'
theorem BL{f:Expr->X}{pos:Pos}:∀{es:List Expr},(∀e∈es,e8 prog w s₀ A envM e (λenv cs=>r.ev (f e) env cs))->gE es=true->
  ∀{s:Shared} {γ:Gh} {ad:List Addr} {env:Ev} {cs cW:Cs} {vs:List V},St w s₀ γ s->CsOk w γ ad cs->FmOk γ ad envM env->FP r env (es.map f) cs=some (vs,cW)->
  wpAny (model prog w) A (spliced (backTo pos (starEach es envM))) (PA w s₀ γ ad vs cW) fW s:=by
 intro es;induction es with
 |nil=>
  intro _ _ s γ ad env cs cW vs hS hC hF h;refine kX h ?_;exact args_nil ⟨γ,ad,hS,hC,.refl γ ad,.nil⟩
 |cons e rest ih=>
  intro he hn s γ ad env cs cW vs hS hC hF h;refine bH h ?_;clear h;intro x h1 h;refine eV h ?_;clear h;intro y h2 h;refine l8 h ?_;refine oA (mU hn envM) λa b=>?_;refine args_cons (aD (he e aE s γ ad env _ _ _ hS hC hF h1) (λlH bZ q=>?_) λ_ _ z=>z) a;obtain⟨aU,bN,S1,C1,T1,V1⟩:=q;refine aD (ih (λe' m=>he e' (aI _ m)) b S1 C1 (hF.step T1) h2) (λus cZ q=>?_) λ_ _ z=>z;obtain⟨cL,eS,S2,C2,T2,V2⟩:=q;exact⟨cL,eS,S2,C2,T1.trans T2,.cons (V1.step T2) V2⟩
theorem BN{f:Expr->X}{pos:Pos}:∀{ks:List Keyword} {l:List (Nat×X)},Dy f ks=some l->(∀k∈ks,e8 prog w s₀ A envM k.value (λenv cs=>r.ev (f k.value) env cs))->
  (backToKw pos (keywordEach ks envM)).all (·.1.isSome)=true/\(backToKw pos (keywordEach ks envM)).any (·.1.isNone)=false/\
  ∀{s:Shared} {γ:Gh} {ad:List Addr} {env:Ev} {cs cW:Cs} {vs:List (Nat×V)},St w s₀ γ s->CsOk w γ ad cs->FmOk γ ad envM env->zH r env l cs=some (vs,cW)->
  wpAny (model prog w) A (evalAll ((backToKw pos (keywordEach ks envM)).map (·.2))) (λus s'=>∃bP dU,St w s₀ bP s'/\CsOk w bP dU cW/\Step [] γ bP ad dU/\AllR (Rb bP) vs (((backToKw pos (keywordEach ks envM)).filterMap (·.1)).zip us)) fW s:=by
 intro ks;induction ks with
 |nil=>
  intro l hl _;refine e9 hl ?_;refine uA rfl rfl ?_;intro s γ ad env cs cW vs hS hC hF h;cases h;exact kwAll_nil ⟨γ,ad,hS,hC,.refl γ ad,.nil⟩
 |cons k rest ih=>
  intro l hl he;unfold Dy at hl;split at hl
  ·rename_i i hi;split at hl
   ·rename_i l' hl';refine e9 hl ?_;obtain⟨a,value,p⟩:=k;induction a using Option.casesOn with
    |none=>exact aY hi
    |some n=>
     refine A6 (ih hl' λk' m=>he k' (aI _ m)) λa1 a2 a3=>?_;refine uA a1 a2 ?_;intro s γ ad env cs cW vs hS hC hF h;refine bH h ?_;clear h;intro x h1 h;induction ho:isOwn x.1 using Bool.casesOn with
     |true=>rw[ho]at h;exact aY h
     |false=>
      rw[ho]at h;refine eV h ?_;clear h;intro y h2 h;refine l8 h ?_;refine kwAll_cons (aD (he _ aE s γ ad env _ _ _ hS hC hF h1) (λlH bZ q=>?_) λ_ _ z=>z);obtain⟨aU,bN,S1,C1,T1,V1⟩:=q;refine aD (a3 S1 C1 (hF.step T1) h2) (λus cZ q=>?_) λ_ _ z=>z;refine uI (q) λcL eS S2 C2 T2 V2=>?_;refine uJ cL eS S2 C2 (T1.trans T2) (.cons ⟨hi,?_⟩ V2);exact(V1.down λi e=>by rw[e]at ho;exact jA ho).mono T2.ext λi a e=>by simp at e
   ·exact aY hl
  ·exact aY hl
theorem s7{f:Expr->X}{g:Value}{pos:Pos}{es:List Expr}{ks:List Keyword}{l:List (Nat×X)}(he:∀e∈es,e8 prog w s₀ A envM e (λenv cs=>r.ev (f e) env cs))(hn:gE es=true)
  (hl:Dy f ks=some l) (hk:∀k∈ks,e8 prog w s₀ A envM k.value (λenv cs=>r.ev (f k.value) env cs)) {vs:List V} {kvs:List (Nat×V)} {kW:Cs}
  (hS:St w s₀ γ s) (hC:CsOk w γ ad cs) (hF:FmOk γ ad envM env) (h1:FP r env (es.map f) cs=some (vs,kW)) (h2:zH r env l kW=some (kvs,cW)):
  wpAny (model prog w) A (evalArgs g true (backTo pos (starEach es envM)) (backToKw pos (keywordEach ks envM)))
   (λa s'=>∃bP dU,St w s₀ bP s'/\CsOk w bP dU cW/\Step [] γ bP ad dU/\AllR (VR bP dU) vs a.pos/\AllR (Rb bP) kvs a.kw) fW s:=by
 refine A6 (BN (pos:=pos) hl hk) λa1 a2 a3=>?_;induction es using List.casesOn with
 |nil=>
  cases h1;refine evalArgs_kw2_nil a1 (aD (a3 hS hC hF h2) (λus cZ q=>?_) λ_ _ z=>z);refine uI (q) λcL eS S2 C2 T2 V2=>?_;exact FG cL eS S2 C2 T2 .nil V2
 |cons e rest=>
  refine evalArgs_kw2 a1 (aD (BL he hn hS hC hF h1) (λus bZ q=>?_) λ_ _ z=>z) (mU hn envM).1;obtain⟨aU,bN,S1,C1,T1,V1⟩:=q;refine aD (a3 S1 C1 (hF.step T1) h2) (λus cZ q=>?_) λ_ _ z=>z;refine uI (q) λcL eS S2 C2 T2 V2=>?_;exact FG cL eS S2 C2 (T1.trans T2) (VRs.step V1 T2) V2
theorem Pe(v:V)(cs:Cs):gT v cs=(.own cs.length,cs++[⟨false,v⟩]):=rfl
theorem Ge{env:Ev}:∀(l:List X) (cs:Cs) (p:List V×Cs),FP r env l cs=some p->p.1.length=l.length:=by
 intro l;induction l with
 |nil=>intro cs p e;refine kX e ?_;rfl
 |cons a b ih=>
  intro cs p e;refine bH e ?_;clear e;intro _ _ e;refine eV e ?_;clear e;intro _ e1 e;refine l8 e ?_;simp[ih _ _ e1]
theorem Pf{f:Expr->X}{es:List Expr}{p:Pos}(he:∀e∈es,e8 prog w s₀ A envM e (λenv cs=>r.ev (f e) env cs))(hn:gE es=true):
  e8 prog w s₀ A envM (.List es p) (λenv cs=>dI cf r (.list (es.map f)) env cs):=λs γ ad env cs v cW hS hC hF h=>by
 replace h:(bif !Nat.blt (es.map f).length 20 then none else(FP r env (es.map f) cs).bind λp=>(eX p.1 p.2).map λq=>gT (.lst q.1) q.2)=some (v,cW):=h;refine vG h ?_;clear h;intro hb h;refine bH h ?_;clear h;intro x h1 h;refine eV h ?_;clear h;intro y h2 h;have hb:=aX hb;refine List_ (aD (BL he hn hS hC hF h1) (λus bZ q=>?_) λ_ _ z=>z);obtain⟨aU,bN,S1,C1,T1,V1⟩:=q;refine n8 (mZ S1 C1 V1 h2) λcL S2 C2 T2 V2=>?_;have hz:us.length<=1000:=by have l2:=V1.length;have:=Ge _ _ _ h1;lia
 have:=EE (prog:=prog) (A:=A) S2 C2 V2 hz;rw[h]at this;exact aD this (λ_ _ z=>z.trans (T1.trans T2)) λ_ _ z=>z
theorem M3{f:Expr->X}{es:List Expr}{k:Nat}{p:Pos}(he:∀e∈es,e8 prog w s₀ A envM e (λenv cs=>r.ev (f e) env cs))(hn:gE es=true):
  e8 prog w s₀ A envM (.Tuple es k p) (λenv cs=>dI cf r (.tup (es.map f)) env cs):=λs γ ad env cs v cW hS hC hF h=>by
 replace h:(bif !Nat.blt (es.map f).length 20 then none else(FP r env (es.map f) cs).bind λp=>(eX p.1 p.2).map λq=>(V.tup q.1,q.2))=some (v,cW):=h;refine vG h ?_;clear h;intro hb h;refine bH h ?_;clear h;intro x h1 h;refine eV h ?_;clear h;intro y h2 h;refine l8 h ?_;have hb:=aX hb;refine Tuple_ (aD (BL he hn hS hC hF h1) (λus bZ q=>?_) λ_ _ z=>z);obtain⟨aU,bN,S1,C1,T1,V1⟩:=q;refine n8 (mZ S1 C1 V1 h2) λcL S2 C2 T2 V2=>?_;have hz:us.length<=1000:=by have l2:=V1.length;have:=Ge _ _ _ h1;lia
 exact aD (sY S2 V2 hz) (λ_ _ z=>(z.pe C2).trans (T1.trans T2)) λ_ _ z=>z
end
def Gf(K:Frag)(C:Addr)(n:Str)(f:Addr):Bool:=pX false (findIn K (.ref C) n) λr=>pX false r λu=>sQ false u λp=>Yx K C p n f
theorem prp1(P:Params):(pV.all (λC=>Gf (Kf P) C LW 71)&&Gf (Kf P) 644 jW 640)=true:=by kernel_rfl!
section
variable{prog:Program}{w:World}{s₀ s s':Shared}{γ bP:Gh}{ad dU:List Addr}{cs cW:Cs}{A:Around}{d:Nat}{cf:cO}{v:V}{u:Value}{envM:Env}{sc:Scope}{env:Ev}{r:Rec}
theorem Gg(hB:Base w s₀)(hc:rD prog w s₀ d cf)(hR:Room A d 1)(hS:St w s₀ γ s)(hF:J5 s₀ s){a dx:Addr}{t:T}{n:Str}{f:Addr}(e:γ a=some (.node t dx))(hp:Gf (Kf w.params) t.cls n f=true)(h:cf f [.node t] []=some v):
  wpAny (model prog w) A (getAttr (.ref a) n true) (PN w s₀ γ v) fW s:=by
 refine kY (BE hS e) λes k I r=>?_;obtain⟨L,m,F⟩:=id hF;refine oE hp nT λr er hp=>oE hp nT λu eu hp=>Iv hp nT λp ep hp=>fF hp λhp h4=>fF hp λhp h3=>fF hp λh1 h2=>oE h4 nT λl h5 h4=>oE h4 nT λu' h6 h4=>Iv h4 nT λg h7 k4=>?_;have h5:recIn (Kf w.params) p "property"=some (.ref f::l.tail):=by
  rw[h5];induction l using List.casesOn with
  |nil=>exact aY h6
  |cons x r=>rw[show x=_ from aC h6,h7,aA k4];rfl
 refine get_prop F hB.K I (rX _ t _) (rE _ t) (beq_iff_eq.mp h1) (beq_iff_eq.mp h2) (beq_iff_eq.mp h3) h5 ?_;have S1:St w s₀ γ {s with toks:=s.toks+1}:=hS.like
 refine codeAny_mono (hc A.in1 _ γ f _ _ [] [] v hR.in1 S1 ⟨L,m,F⟩ (.cons (.node e) .nil) .nil h) λr s' z=>?_;obtain⟨u,bP,rfl,a1,a2,a3⟩:=z;exact handed_on a3.handed ⟨bP,a1,a2,a3⟩
theorem Pg(hB:Base w s₀)(hc:rD prog w s₀ d cf)(hR:Room A d 1)(hS:St w s₀ γ s)(hF:J5 s₀ s){a:V}{x:Value}{n:Nm}(ha:VR γ ad a x)(h:jD cf a n=some v):
  wpAny (model prog w) A (getAttr x (sR n) true) (PN w s₀ γ v) fW s:=by
 refine vNE h nS λt ea k=>?_;clear h;have h:=k;clear k;subst ea;refine ha.nodeI λa dx e=>?_;have hp:=prp1 w.params;rw[a9]at hp;induction c1:Nat.beq n.ctorIdx 7 using Bool.casesOn with
 |true=>
  clear ha;rw[c1]at h;refine bH h λr hr h=>QW h nS λs er h=>?_;rw[Nm.key.elim (motive:=λz=>z=.key) n (aA c1) rfl,<-aC h];exact Gg hB hc hR hS hF e (aW.mp hp.1 _ (jX t)) (er▸hr)
 |false=>
  rw[c1]at h;induction c2:Nat.beq n.ctorIdx 8 using Bool.casesOn with
  |true=>
   clear c1 ha;rw[c2]at h;refine dJ h λct h=>?_;rw[Nm.flat.elim (motive:=λz=>z=.flat) n (aA c2) rfl];exact Gg hB hc hR hS hF e (T.sum.elim (motive_1:=λt=>Gf (Kf w.params) t.cls jW 640=true) t (aA ct) λ_=>hp.2) h
  |false=>
   rw[c2]at h;exact BG hB hS hF e h
theorem Ph(hB:Base w s₀)(hc:rD prog w s₀ d cf)(hR:Room A d 1){o:Expr}{f:Expr->X}{a:Str}{p:Pos}(ho:e8 prog w s₀ A envM o (λenv cs=>r.ev (f o) env cs)):EvX prog w s₀ A envM (.Attribute o a p) cf r (EA f o a):=by
 refine bQ fG λhb=>oQ fG λm hm=>λs γ ad env cs v cW hS hC hF h=>?_;refine bH h ?_;clear h;intro x h1 h;refine eV h ?_;clear h;intro y h2 h;cases h;rw[Mq hm];refine Attribute_any_ (aD (ho s γ ad env cs _ _ hS hC hF h1) (λlH bZ q=>?_) λ_ _ z=>z) (by show(do let x<-attributeBase o (sR m) envM (eval o envM);standAt p.atName;let r<-holding [x] (getAttr x (sR m) true);letTemporaryGo o x r;pure r)=_;rw[BK hb])
 obtain⟨aU,bN,S1,C1,T1,V1⟩:=q;exact aD (Pg hB hc hR S1 ((hF.step T1).frm S1) V1 h2) (λ_ _ z=>(z.pe C1).trans T1) λ_ _ z=>z
theorem M4{p:Pos}:e8 prog w s₀ A envM (.Dict [] [] p) (λ_ cs=>some (gT (.dct []) cs)):=λs γ ad env cs v cW hS hC hF h=>by
 have hf:=hS.free;have hl:ad.length=cs.length:=hC.all.length;refine wpAny_Dict_empty ?_;refine kX h ?_;refine⟨_,ad++[s.heap.objs.size],hS.alloc _ rfl,hC.push hf rfl ⟨⟨rfl,rfl,rfl⟩,#[],0,rfl,.nil,by simp⟩,wM hf,?_⟩
 exact .own (by rw[<-hl];simp)
theorem Yy{e:Expr}{fv:Ev->Cs->Option (V×Cs)}(he:∀whole,isTrue e envM whole=(do let v<-whole;standAt e.pos;holding [v] (truthy v)))(hv:e8 prog w s₀ A envM e fv):
  rU prog w s₀ A envM e (λenv cs=>(fv env cs).bind λp=>(eM p.1 p.2).map λb=>(b,p.2)):=λs γ ad env cs b cW hS hC hF h=>by
 refine bH h ?_;clear h;intro x h1 h;refine eV h ?_;clear h;intro y h2 h;refine l8 h ?_;refine isTrue_plain (aD (hv s γ ad env cs _ _ hS hC hF h1) (λlH bZ q=>?_) λ_ _ z=>z) (he _);obtain⟨aU,bN,S1,C1,T1,V1⟩:=q;exact aD (sZ S1 C1 V1 h2) (λ_ _ z=>z.trans T1) λ_ _ z=>z
def BO(prog:Program)(w:World)(s₀:Shared)(A:Around)(envM:Env)(e:Expr)(cf:cO)(r:Rec)(z:X):Prop:=rU prog w s₀ A envM e (λenv cs=>zJ cf r z env cs)
theorem BP{e:Expr}{x:X}(he:∀whole,isTrue e envM whole=(do let v<-whole;standAt e.pos;holding [v] (truthy v)))(hv:EvX prog w s₀ A envM e cf r x)(hx:spX x=false)(hp:plX x=true):BO prog w s₀ A envM e cf r x:=
 λs γ ad env cs b cW hS hC hF h=>Yy he hv s γ ad env cs b cW hS hC hF ((Me hx hp env cs).symm.trans h)
theorem fH{e:Expr}:rU prog w s₀ A envM e (λ_ _=>none):=λ_ _ _ _ _ _ _ _ _ _ h=>by exact aY h
theorem Yz{e:Expr}{ft:Ev->Cs->Option (Bool×Cs)}{p:Pos}(ht:rU prog w s₀ A envM e ft):rU prog w s₀ A envM (.UnaryOp .Not e p) (λenv cs=>(ft env cs).map λp=>(!p.1,p.2)):=λs γ ad env cs b cW hS hC hF h=>by
 refine eV h ?_;clear h;intro x h1 h;refine l8 h ?_;refine isTrue_not (aD (ht s γ ad env cs _ _ hS hC hF h1) (λc bZ q=>?_) λ_ _ z=>z);obtain⟨rfl,aU,bN,S1,C1,T1⟩:=q;exact⟨rfl,aU,bN,S1,C1,T1⟩
theorem Y0{e:Expr}{fa:Ev->Cs->Option (V×Cs)}{p:Pos}(ha:e8 prog w s₀ A envM e fa):e8 prog w s₀ A envM (.UnaryOp .Not e p) (λenv cs=>(fa env cs).bind λp=>(eM p.1 p.2).map λb=>(.bool (!b),p.2)):=λs γ ad env cs v cW hS hC hF h=>by
 refine bH h ?_;clear h;intro x h1 h;refine eV h ?_;clear h;intro y h2 h;refine l8 h ?_;refine wpAny_UnaryOp (aD (ha s γ ad env cs _ _ hS hC hF h1) (λlH bZ q=>?_) λ_ _ z=>z);obtain⟨aU,bN,S1,C1,T1,V1⟩:=q;refine not_of (aD (vI S1 C1 V1 h2) (λc cZ q=>?_) λ_ _ z=>z);clear h2;obtain⟨rfl,q⟩:=q;exact⟨aU,bN,q.st S1,C1,T1,.bool _⟩
theorem Y1(hB:Base w s₀)(hc:rD prog w s₀ d cf)(hR:Room A d 0){a b:Expr}{fa fb:Ev->Cs->Option (V×Cs)}{op:CmpOp}{p:Pos}(hs:gD b=true)(ha:e8 prog w s₀ A envM a fa)(hb:e8 prog w s₀ A envM b fb):
  rU prog w s₀ A envM (.Compare a [op] [b] p) (λenv cs=>((fa env cs).bind λp=>(fb env p.2).bind λq=>(j4 cf op p.1 q.1).map λv=>(v,q.2)).bind λp=>(eM p.1 p.2).map λb=>(b,p.2)):=λs γ ad env cs t cW hS hC hF h=>by
 refine bH h ?_;clear h;intro z h h4;refine bH h ?_;clear h;intro x h1 h;refine bH h ?_;clear h;intro y h2 h;refine eV h ?_;clear h;intro v h3 h;cases h;refine eV h4 ?_;clear h4;intro c h6 h5;cases h5;have hm:=zO op hs;refine wpAny_isTrue_Compare1 (aD (ha s γ ad env cs _ _ hS hC hF h1) (λlH bZ q=>?_) λ_ _ z=>z) hm;obtain⟨aU,bN,S1,C1,T1,V1⟩:=q;refine aD (hb bZ aU bN env _ _ _ S1 C1 (hF.step T1) h2) (λu₂ cZ q=>?_) λ_ _ z=>z;obtain⟨cL,eS,S2,C2,T2,V2⟩:=q;have n1:∀i,x.1≠.own i:=λi e=>by rw[e,AT]at h3;exact aY h3
 have n2:∀i,y.1≠.own i:=λi e=>by rw[e,AU]at h3;exact aY h3
 refine aD (Gc hB hc hR S2 ((hF.step (T1.trans T2)).frm S2) ((V1.step T2).down n1) (V2.down n2) h3) (λu₃ lT q=>?_) λ_ _ z=>z;obtain⟨iY,ad₃,S3,C3,T3,V3⟩:=q.pe C2;exact aD (sZ S3 C3 V3 h6) (λ_ _ z=>z.trans ((T1.trans T2).trans T3)) λ_ _ z=>z
theorem EF{f:Expr->X}{isAnd:Bool}{p:Pos}:∀{es:List Expr},(∀e∈es,rU prog w s₀ A envM e (λenv cs=>r.ts (f e) env cs))->
  rU prog w s₀ A envM (.BoolOp (bif isAnd then .And else .Or) es p) (λenv cs=>Mb r env isAnd (es.map f) cs):=by
 intro es;induction es with
 |nil=>
  intro _ s γ ad env cs b cW hS hC hF h;refine kX h ?_;induction isAnd using Bool.casesOn with
  |true=>exact isTrue_and_nil ⟨rfl,γ,ad,hS,hC,.refl γ ad⟩
  |false=>exact isTrue_or_nil ⟨rfl,γ,ad,hS,hC,.refl γ ad⟩
 |cons e rest ih=>
  intro he s γ ad env cs b cW hS hC hF h;refine bH h ?_;clear h;intro x h1 h;have ih:=ih λe' m=>he e' (aI _ m);have first:=he e aE s γ ad env _ _ _ hS hC hF h1;induction isAnd using Bool.casesOn with
  |true=>
   refine isTrue_and (aD first (λc bZ q=>?_) λ_ _ z=>z);obtain⟨rfl,aU,bN,S1,C1,T1⟩:=q;induction hx:x.1 using Bool.casesOn with
   |true=>
    rw[hx]at h;exact aD (ih bZ aU bN env _ _ _ S1 C1 (hF.step T1) h) (λ_ _ z=>z.trans T1) λ_ _ z=>z
   |false=>
    rw[hx]at h;refine kX h ?_;exact⟨rfl,aU,bN,S1,C1,T1⟩
  |false=>
   refine isTrue_or (aD first (λc bZ q=>?_) λ_ _ z=>z);obtain⟨rfl,aU,bN,S1,C1,T1⟩:=q;induction hx:x.1 using Bool.casesOn with
   |false=>
    rw[hx]at h;exact aD (ih bZ aU bN env _ _ _ S1 C1 (hF.step T1) h) (λ_ _ z=>z.trans T1) λ_ _ z=>z
   |true=>
    rw[hx]at h;refine kX h ?_;exact⟨rfl,aU,bN,S1,C1,T1⟩
end
theorem vJ(a b:Nat):Nat.blt a b=decide (a<b):=by
 induction h:Nat.blt a b using Bool.casesOn with
 |true=>exact(aH (aX h)).symm
 |false=>exact(aK λz=>by rw[show Nat.blt a b=true from aV z]at h;exact jA h).symm
theorem vK(a b:Nat):Nat.beq a b=decide (a=b):=by
 induction h:Nat.beq a b using Bool.casesOn with
 |true=>exact(aH (aA h)).symm
 |false=>exact(aK λz=>by subst z;rw[kM]at h;exact jA h).symm
theorem M5:∀a b:List Nat,C8 a b=!PySem.Spec.ltCps b a
 |[],[]=>rfl
 |[],_::_=>rfl
 |_::_,[]=>rfl
 |a::x,b::y=>by
  unfold C8 PySem.Spec.ltCps;rw[M5 x y,vJ,vK];rcases mO a b with h|h|h
  ·simp[h,nH h,eU h,(eU h).symm]
  ·subst h;simp
  ·simp[h,nH h,sI h,(sI h).symm]
theorem AV:∀a b:List Nat,C8 a b=true\/C8 b a=true
 |[],_=>.inl (by unfold C8;rfl)
 |_::_,[]=>.inr rfl
 |a::x,b::y=>by
  unfold C8;rw[vJ,vK,vJ,vK];rcases mO a b with h|h|h
  ·simp[h]
  ·subst h;simpa using AV x y
  ·simp[h]
theorem D5:∀{a b:List Nat},C8 a b=true->C8 b a=true->a=b
 |[],[],_,_=>rfl
 |[],_::_,_,h=>by exact bX h
 |_::_,[],h,_=>by exact bX h
 |a::x,b::y,h,h'=>by
  unfold C8 at h h';rw[vJ,vK]at h h';rcases mO a b with q|q|q
  ·simp[q,nH q,(eU q).symm]at h'
  ·subst q;have:x=y:=D5 (by simpa using h) (by simpa using h')
   rw[this]
  ·simp[q,nH q,(eU q).symm]at h
theorem wO:∀{a b c:List Nat},C8 a b=true->C8 b c=true->C8 a c=true
 |[],_,_,_,_=>by unfold C8;rfl
 |_::_,[],_,h,_=>by exact bX h
 |_::_,_::_,[],_,h=>by exact bX h
 |a::x,b::y,c::z,h,h'=>by
  unfold C8 at h h'⊢;rw[vJ,vK]at h h'⊢;by_cases h1:a<b<;>by_cases h2:b<c
  ·simp[bA h1 h2]
  ·simp[h2]at h';have e:b=c:=by by_cases e:b=c<;>simp_all
   clear h' h2;subst e;simp[h1]
  ·simp[h1]at h;have e:a=b:=by by_cases e:a=b<;>simp_all
   clear h h1 h';subst e;simp[h2]
  ·simp[h1]at h;simp[h2]at h';have e:a=b:=by by_cases e:a=b<;>simp_all
   have e':b=c:=by by_cases e:b=c<;>simp_all
   clear h1;subst e;clear h2;subst e';simp at h h'⊢;exact wO h h'
theorem Y2{a b:Str}(h:Em a b=true)(h':Em b a=true):a=b:=by
 obtain⟨⟨a⟩⟩:=a;obtain⟨⟨b⟩⟩:=b;rw[D5 (a:=a) (b:=b) h h']
theorem wP(x:Str):∀l,(sL x l).Perm (x::l)
 |[]=>.refl _
 |y::r=>by
  unfold sL;induction Em x y using Bool.casesOn with
  |true=>exact .refl _
  |false=>exact(List.Perm.cons y (wP x r)).trans (List.Perm.swap x y r)
theorem zQ:∀l,(kP l).Perm l
 |[]=>.refl _
 |x::r=>(wP x _).trans (List.Perm.cons x (zQ r))
theorem xG(x:Str):∀l,l.Pairwise (λa b=>Em a b=true)->(sL x l).Pairwise (λa b=>Em a b=true)
 |[],_=>by unfold sL;simp
 |y::r,h=>by
  unfold sL;obtain⟨h1,h2⟩:=f7.mp h;induction hx:Em x y using Bool.casesOn with
  |true=>
   refine f7.mpr ⟨λb hb=>?_,h⟩;clear h;rcases a7.mp hb with rfl|hb
   ·exact hx
   ·exact wO hx (h1 b hb)
  |false=>
   refine f7.mpr ⟨λb hb=>?_,xG x r h2⟩;rcases a7.mp ((wP x r).mem_iff.mp hb)with rfl|hb
   ·rcases AV y.cps.toList b.cps.toList with q|q
    ·exact q
    ·clear hb;rw[show Em b y=true from q]at hx;exact jA hx
   ·exact h1 b hb
theorem vL:∀l,(kP l).Pairwise (λa b=>Em a b=true)
 |[]=>.nil
 |x::r=>xG x _ (vL r)
theorem AW:∀(p:Str) (l:List Str),risingS p l=true->(p::l).Pairwise (λa b=>Em a b=true)
 |p,[],_=>by simp
 |p,x::r,h=>by
  unfold risingS at h;obtain⟨h1,h2⟩:=aL.mp h;have ih:=AW x r h2;have hp:Em p x=true:=by unfold Em;rw[M5];exact h1
  refine f7.mpr ⟨λb hb=>?_,ih⟩;clear h2 h1 h;rcases a7.mp hb with rfl|hb
  ·exact hp
  ·exact wO hp ((f7.mp ih).1 b hb)
theorem IG{l m:List Str}(h:sortedS l=true)(hp:l.Perm m):l=kP m:=by
 have hl:l.Pairwise (λa b=>Em a b=true):=by
  induction l using List.casesOn with
  |nil=>exact .nil
  |cons x r=>exact AW x r h
 exact List.Perm.eq_of_pairwise (λa b _ _=>Y2) hl (vL m) (hp.trans (zQ m).symm)
section
variable{prog:Program}{w:World}{s₀ s s':Shared}{γ bP:Gh}{ad dU:List Addr}{cs cW:Cs}{A:Around}{d:Nat}{cf:cO}{v:V}{u:Value}{envM:Env}{sc:Scope}{env:Ev}{r:Rec}
theorem GOk.adopt{kO:Nat}{h:Heap}{a:Nat}{o:Obj}(G:GOk w kO γ h)(hb:kO<=a)(hn:dX γ a)(hd:∀x t dx,γ x=some (.node t dx)->dx≠a)(ho:h.get? a=some o):GOk w kO (iZ γ a (some (.raw o))) h:=by
 have E:A8 γ (iZ γ a (some (.raw o))):=iQ λg' q=>by rw[hn _ q];rfl
 refine⟨λx g e=>?_,λx g e hg=>?_,λx t dx e=>?_,λx x' t t' dx e e'=>?_⟩
 ·by_cases hx:x=a
  ·clear E hd hn hb;subst hx;rw[bK]at e;refine e9 e ?_;exact ho
  ·rw[cN hx]at e;exact(G.at_ x g e).move E (λ_ z=>z) λ_ _ _ _ z=>z
 ·by_cases hx:x=a
  ·clear e E ho hd hn;subst hx;exact hb
  ·rw[cN hx]at e;exact G.lo x g e hg
 ·by_cases hx:x=a
  ·clear E ho hd hn hb;subst hx;rw[bK]at e;cases e
  ·rw[cN hx]at e;exact⟨(G.dlo x t dx e).1,by rw[cN (hd _ _ _ e)];exact(G.dlo x t dx e).2⟩
 ·by_cases hx:x=a
  ·subst hx;rw[bK]at e;cases e
  ·by_cases hx':x'=a
   ·subst hx';rw[bK]at e';cases e'
   ·rw[cN hx]at e;clear hx;rw[cN hx']at e';exact G.inj x x' t t' dx e e'
theorem St.free'(x:St w s₀ γ s){a:Addr}(h:s.heap.objs.size<=a):dX γ a:=x.ok.free h
theorem St.adopt(x:St w s₀ γ s)(k:∀b o,s.heap.get? b=some o->s'.heap.get? b=some o)(hz:s.heap.objs.size<=s'.heap.objs.size){a:Addr}{o:Obj}(ha:s.heap.objs.size<=a)(ho:s'.heap.get? a=some o)(hg:autoParam (s'.gens=s.gens) au)(hos:autoParam (s'.os=s.os) au):
  St w s₀ (iZ γ a (some (.raw o))) s':=by
 have y:=x.grow (s':=s') k hz hg hos;exact⟨y.keep,y.size,y.ok.adopt (aR x.size ha) (x.free' ha) (λb t dx e=>eU (aZ (x.ok.dlt e) ha)) ho,y.gens,y.os⟩
theorem EG{h h':Heap}{a:Addr}{o:Obj}(e:h'.get? a=some o)(ha:h.objs.size<=a):h.objs.size<=h'.objs.size:=bD (aP ha (Heap.lt_size e))
theorem EH{γ:Gh}:∀{l:List V} {vs:List Value} {ss:List Str},AllR (VR γ ad) l vs->mV l=some ss->StrsAre vs ss:=by
 intro l vs ss h
 induction h generalizing ss with
 |nil=>intro e;refine e9 e ?_;exact .nil
 |@cons a b l m r _ ih=>
  intro e
  induction a using V.casesOn<;>try (exact aY e;done)
  refine r.strI λt=>?_
  refine eV e ?_;clear e;intro ss' e1 hrfl
  subst hrfl
  exact .cons _ t (ih e1)
theorem Pj{γ:Gh}{vs:List Value}{ss:List Str}(h:StrsAre vs ss):AllR (VR γ []) (ss.map V.str) vs:=by
 induction h with
 |nil=>exact .nil
 |cons y t _ ih=>exact .cons (.str ..) ih
theorem Re(hS:St w s₀ γ s)(hC:CsOk w γ ad cs){l:List V}{a:Addr}{out:Array Value}{n:Nat}(k:∀b o,s.heap.get? b=some o->s'.heap.get? b=some o)(ha:s.heap.objs.size<=a)(ho:s'.heap.get? a=some (seqObj "list" out n))(hr:AllR (VR γ []) l out.toList)
  (hg:autoParam (s'.gens=s.gens) au) (hos:autoParam (s'.os=s.os) au):PE w s₀ γ ad (gT (.lst l) cs).1 (gT (.lst l) cs).2 (.ref a) s':=by
 have hf:=hS.free' ha;have hl:ad.length=cs.length:=hC.all.length;refine⟨_,ad++[a],hS.adopt k (EG ho ha) ha ho hg hos,hC.push hf rfl ⟨rfl,out,n,rfl,hr⟩,wM hf,?_⟩;exact .own (by rw[<-hl];simp)
theorem II(hS:St w s₀ γ s)(hC:CsOk w γ ad cs){l:List V}{ss:List Str}(hv:VR γ ad v u)(h1:E7 v cs=some l)(h2:mV l=some ss):
  wpAny (model prog w) A (call (.builtin "sorted") [u]) (PE w s₀ γ ad (gT (.lst ((kP ss).map V.str)) cs).1 (gT (.lst ((kP ss).map V.str)) cs).2) fW s:=by
 refine bH h1 λu' hl h1=>vLE h1 nS λl' eu h1=>dJ h1 λhz h1=>?_;rw[eu,aC h1]at hl;rw[aC h1]at hz;clear h1;refine fM (rZ hS hC hv hl) λa vs zr2 q1 q2=>?_;subst zr2;have hz:=aX hz;have eW:=q2.length;refine sorted_strs (vs:=vs.toList) (by simpa using q1) (EH q2 h2) (by lia) λout ss' a1 a2 a3=>?_
 obtain⟨e,he⟩:=sortedAll_at s.heap vs.toList out;rw[<-IG a3 a2];exact Re hS hC (λ_ _=>sortedAll_old) (tL _) he (Pj a1)
end
def KR(γ:Gh)(p:Str×V)(q:Str×Value):Prop:=p.1=q.1/\VR γ [] p.2 q.2
section
variable{prog:Program}{w:World}{s₀ s s':Shared}{γ bP:Gh}{ad dU:List Addr}{cs cW:Cs}{A:Around}{d:Nat}{cf:cO}{v:V}{u:Value}{envM:Env}{sc:Scope}{env:Ev}{r:Rec}
theorem vM{γ:Gh}{m:List (Str×V)}{kvs:List (Str×Value)}(h:AllR (KR γ) m kvs):m.map (·.1)=kvs.map (·.1):=by
 induction h with
 |nil=>rfl
 |cons r _ ih=>simp[ih,r.1]
theorem vN{γ:Gh}{m:List (Str×V)}{es:List DictEntry}(h:AllR (DR w γ) m es):∃kvs,Pairs (PySem.strKind prog w) es kvs/\AllR (KR γ) m kvs/\∀e∈es,∃k,(PySem.strKind prog w).is k e.key=true/\e.hash=(PySem.strKind prog w).hash k:=by
 induction h with
 |nil=>exact vA ([]) .nil .nil (λe he=>by cases he)
 |@cons p e m es r _ ih=>
  refine l6 (ih) λkvs a b c=>?_;obtain⟨⟨t,hk⟩,hh,hv⟩:=r;have hi:(PySem.strKind prog w).is p.1 e.key=true:=by rw[hk];exact strKind_is prog w p.1 t
  refine vA ((p.1,e.val)::kvs) (.cons hi rfl a) (.cons ⟨rfl,hv⟩ b) (λe' he=>?_);clear hv hk;rcases a7.mp he with rfl|he
  ·exact kF p.1 hi hh
  ·exact c e' he
theorem rI{a:Addr}{o:Obj}{m:List (Str×V)}(h:s.heap.get? a=some o)(x:uO w γ o (.dct m)):∃kvs,s.heap.DictOf (PySem.strKind prog w) a kvs/\AllR (KR γ) m kvs:=by
 refine JW (x) λh1 es n h2 h3 h4=>?_;refine l6 (vN (prog:=prog) h3) λkvs a1 a2 a3=>?_;exact kF kvs ⟨o,es,n,h,h1,h2,λe he=>a3 e (iT.mpr he),a1,by rw[<-vM a2];exact h4⟩ a2
theorem dr_of{γ:Gh}{es:List DictEntry}{kvs:List (Str×Value)}{m:List (Str×V)}(h:Pairs (PySem.strKind prog w) es kvs)(hk:∀e∈es,∃k,(PySem.strKind prog w).is k e.key=true/\e.hash=(PySem.strKind prog w).hash k)(x:AllR (KR γ) m kvs):
  AllR (DR w γ) m es:=by
 induction h generalizing m with
 |nil=>cases x;exact .nil
 |@cons e kv es kvs h1 h2 _ ih=>
  cases x with
  |cons r x=>
   refine .cons ?_ (ih (λe' he=>hk e' (aI _ he)) x);refine i8 (hk e aE) λk i1 i2=>?_;have ek:=Value.isStrOf_inj _ _ _ i1 h1;obtain⟨t,ht⟩:=Value.isStrOf_shape h1;refine uA ⟨t,by rw[ht,r.1]⟩ ?_ (by rw[h2];exact r.2)
   rw[i2,ek,r.1];rfl
theorem xH{h:Heap}{a:Addr}{kvs:List (Str×Value)}{m:List (Str×V)}(x:h.DictOf (PySem.strKind prog w) a kvs)(r:AllR (KR γ) m kvs):∃o,h.get? a=some o/\uO w γ o (.dct m)/\o.dict=none:=by
 refine tN (x) λo es ep h1 h2 h3 h4 h5 h6=>?_;exact vA o h1 ⟨h2,es,ep,h3,dr_of h5 (λe he=>h4 e (iT.mp he)) r,by rw[vM r];exact h6⟩ h2.2.1
theorem Y3{kvs:List (Str×Value)}{k:Str}{y:Value}:valueAt ((k,y)::kvs) k=some y:=by
 show Option.map _ (List.find? _ _)=_;rw[List.find?_cons_of_pos (by exact aH rfl)];rfl
theorem Y4{kvs:List (Str×Value)}{x k:Str}{y:Value}(h:x≠k):valueAt ((x,y)::kvs) k=valueAt kvs k:=by
 show Option.map _ (List.find? _ _)=_;rw[List.find?_cons_of_neg (by exact λz=>h (aM z))];rfl
theorem Gi{γ:Gh}{m:List (Str×V)}{kvs:List (Str×Value)}(h:AllR (KR γ) m kvs)(k:Str):match cJ k m with|some v=>∃u,valueAt kvs k=some u/\VR γ [] v u|none=>valueAt kvs k=none:=by
 induction h with
 |nil=>exact rfl
 |@cons p q m kvs r _ ih=>
  obtain⟨x,y⟩:=p;obtain⟨x',y'⟩:=q;obtain⟨r1,r2⟩:=r;dsimp only at r1 r2;subst r1;rw[Iw];induction hx:lE k x using Bool.casesOn with
  |true=>
   have:=fY hx;clear hx;subst this;exact kF y' Y3 r2
  |false=>
   rw[Y4 (Ne.symm (mB.mp hx))];exact ih
theorem IK(k:Str)(v:V):∀m:List (Str×V),(lM k v m).map (·.1)=if(m.map (·.1)).contains k then m.map (·.1)else m.map (·.1)++[k]
 |[]=>rfl
 |(x,y)::m=>by
  unfold lM;induction hx:lE k x using Bool.casesOn with
  |true=>
   have:=fY hx;clear hx;subst this;simp
  |false=>
   have f5:=mB.mp hx;simp only[bG,bO,IK k v m,List.contains_cons,cK.mpr f5,Bool.false_or];split<;>simp
theorem M6{γ:Gh}{m:List (Str×V)}{kvs:List (Str×Value)}(h:AllR (KR γ) m kvs)(hn:(kvs.map (·.1)).Nodup)(k:Str){v:V}{u:Value}(r:VR γ [] v u):AllR (KR γ) (lM k v m) (stored kvs k u):=by
 induction h with
 |nil=>exact .cons ⟨rfl,r⟩ .nil
 |@cons p q m kvs rr hr ih=>
  obtain⟨x,y⟩:=p;obtain⟨x',y'⟩:=q;obtain⟨r1,r2⟩:=rr;dsimp only at r1 r2;subst r1;rw[bO,gK]at hn;have ih:=ih hn.2;unfold lM;induction hx:lE k x using Bool.casesOn with
  |true=>
   have:=fY hx;clear hx;subst this;unfold stored;simp only[bV,qX,decide_true,Bool.true_or,if_true,bO];rw[map_store_of_not_mem kvs k u hn.1];exact .cons ⟨rfl,r⟩ hr
  |false=>
   have f5:¬x=k:=Ne.symm (mB.mp hx);have e:stored ((x,y')::kvs) k u=(x,y')::stored kvs k u:=by
    unfold stored;simp only[qX,aK f5,Bool.false_or,bO,if_neg f5];split<;>rfl
   rw[e];exact .cons ⟨rfl,r2⟩ ih
theorem Gj(hB:Base w s₀){a:Addr}(h:s₀.heap.objs.size<=a):(a==sysModules)=false:=by
 refine AJ (hB.top) λp lo mg mb T=>?_;refine QN (T.g) λo _ _ ho _=>?_;have:=Heap.lt_size ho;have:(3:Nat)<a:=aZ this h;exact cK.mpr λz=>by rw[z]at this;exact absurd this (by decide)
theorem Pk(hS:St w s₀ γ s)(hC:CsOk w γ ad cs){m:List (Str×V)}{a:Addr}(hv:VR γ ad v (.ref a))(h:view v cs=some (.dct m)):s₀.heap.objs.size<=a:=by
 rcases zL v with⟨i,rfl⟩|hn
 ·refine i8 (hv.isOwn) λa' e0 e=>?_;rw[Value.ref.inj e0];refine eV h λc hc hl=>?_;rw[oP]at hc;refine rS (hC.all.get e) λc' hc' o g hg q=>?_;rw[aC (hc'.symm.trans hc)]at hg q;rw[hl]at hg;rw[<-aC hg]at q;induction hf:c.frozen using Bool.casesOn with
  |true=>rw[hf]at q;exact hS.ok.lo _ _ q rfl
  |false=>rw[hf]at q;exact hS.ok.lo _ _ q.1 rfl
 ·rw[aC ((BH hn cs).symm.trans h)]at hv;refine kY (hv.isDct) λa' o e0 e=>?_;rw[Value.ref.inj e0];exact hS.ok.lo _ _ e rfl
theorem Y5(hB:Base w s₀)(hS:St w s₀ γ s)(hC:CsOk w γ ad cs){m:List (Str×V)}{x:Str}{t:Tok}{y:V}{uy:Value}(hv:VR γ ad v u)(h:view v cs=some (.dct m))(hy:VR γ [] y uy):
  wpAny (model prog w) A (call (.builtin "dict.get") [u,.str x t,uy]) (PN w s₀ γ ((cJ x m).getD y)) fW s:=by
 refine fM (x8 hS hC hv h) λa o zr2 h1 h2=>?_;subst zr2;refine i8 (rI (prog:=prog) h1 h2) λkvs k1 k2=>?_;refine call_meetsIn PySem.F.slot_dict_get k1.typeIs PySem.F.entry_dict_get (PySem.F.args_dict_get_3 _ _ _) (meets_dict_get_default (PySem.strKind prog w) a (strKind_is prog w x t) (Gj hB (Pk hS hC hv h)) uy) ⟨_,k1.mapOf,?_⟩;have hk:=Gi k2 x;show wants _ _ _ _;induction hz:cJ x m using Option.casesOn with
 |some z=>
  rw[hz]at hk;refine i8 (hk) λu' q1 q2=>?_;rw[q1];exact PN.mk' hS q2
 |none=>
  rw[hz]at hk;rw[hk];exact PN.mk' hS hy
theorem IL(hS:St w s₀ γ s)(hC:CsOk w γ ad cs){m:List (Str×V)}{x:Str}{t:Tok}{y:V}(hv:VR γ ad v u)(h:view v cs=some (.dct m))(hy:cJ x m=some y):
  wpAny (model prog w) A (getItem u (.str x t)) (PN w s₀ γ y) fW s:=by
 refine fM (x8 hS hC hv h) λa o zr2 h1 h2=>?_;subst zr2;refine i8 (rI (prog:=prog) h1 h2) λkvs k1 k2=>?_;have hk:=Gi k2 x;rw[hy]at hk;refine i8 (hk) λu' q1 q2=>?_;exact wpAny_getItem_of (strKind_is prog w x t) k1.mapOf q1 (PN.mk' hS q2)
end
theorem keep1(P:Params):AP.all (λp=>keepIn (Kf P) (.ref p.2))=true:=by kernel_rfl!
section
variable{prog:Program}{w:World}{s₀ s s':Shared}{γ bP:Gh}{ad dU:List Addr}{cs cW:Cs}{A:Around}{d:Nat}{cf:cO}{v:V}{u:Value}{envM:Env}{sc:Scope}{env:Ev}{r:Rec}
theorem IM(hS:St w s₀ γ s)(hC:CsOk w γ ad cs){n:Bi}{y x:V}{us:Value}(hv:VR γ ad y us)(h1:view y cs=some x)(h:wG n x=some v):wpAny (model prog w) A (call (zK n) [us]) (PN w s₀ γ v) fW s:=by
 unfold wG at h;induction c1:Nat.beq n.ctorIdx 1 using Bool.casesOn with
 |true=>
  rw[c1]at h;refine Yc h nS λi ex h=>?_;rw[ex]at h1;rw[Bi.abs.elim (motive:=λz=>z=.abs) n (aA c1) rfl,<-aC h];refine oA (pA hC hv h1 λ_=>rfl) λe hv=>?_;rw[e]at hv;refine hv.intI λt=>?_;exact Yq hS
 |false=>
  rw[c1]at h;induction c2:Nat.beq n.ctorIdx 5 using Bool.casesOn with
  |true=>
   rw[c2]at h;refine vLE h nS λl ex h=>dJ h λhz h=>?_;rw[ex]at h1;rw[Bi.len.elim (motive:=λz=>z=.len) n (aA c2) rfl,<-aC h];refine fM (rZ hS hC hv h1) λa us zr2 q1 q2=>?_;subst zr2;exact Ys hS q1 q2 (aX hz)
  |false=>
   rw[c2]at h;refine dJ h λc3 h=>Yc h nS λi ex h=>dJ h λhz h=>?_;rw[ex]at h1;rw[Bi.str.elim (motive:=λz=>z=.str) n (aA c3) rfl,<-aC h];refine oA (pA hC hv h1 λ_=>rfl) λe hv=>?_;rw[e]at hv;refine hv.intI λt=>?_;exact Yr hS hz
theorem IN{c:V}{i:Nat}:¬∃b,tQ (.own i) c=some b:=by
 rintro⟨b,h⟩;rcases r6 h with⟨t,e⟩|⟨t,e⟩<;>cases e
theorem IP{x:V}{i:Nat}:¬∃b,tQ x (.own i)=some b:=by
 rintro⟨b,h⟩;rcases r6 h with⟨t,rfl⟩|⟨t,rfl⟩<;>exact aY h
theorem bi_ok(hB:Base w s₀)(hS:St w s₀ γ s)(hC:CsOk w γ ad cs){n:Bi}{vs:List V}{us:List Value}(hv:AllR (VR γ ad) vs us)(h:biV n vs cs=some (v,cW)):
  wpAny (model prog w) A (call (zK n) us) (PE w s₀ γ ad v cW) fW s:=by
 cases hv with
 |nil=>exact aY h
 |@cons y uy vs us hx hr=>
  cases hr with
  |nil=>
   replace h:(bif decide (n=.sorted)then QX y cs else(view y cs).bind λu=>(wG n u).map λx=>(x,cs))=some (v,cW):=h;induction hn:decide (n=Bi.sorted) using Bool.casesOn with
   |true=>
    rw[hn]at h;rw[aM hn];refine bH h ?_;clear h;intro l h1 h;refine eV h ?_;clear h;intro ss h2 h;have:=II (prog:=prog) (A:=A) hS hC hx h1 h2;rw[h]at this;exact this
   |false=>
    rw[hn]at h;refine bH h ?_;clear h;intro x h1 h;refine eV h ?_;clear h;intro z h2 h;refine l8 h ?_;exact aD (IM hS hC hx h1 h2) (λ_ _ z=>z.pe hC) λ_ _ z=>z
  |@cons c uc vs us hc hr=>
   cases hr with
   |nil=>
    replace h:(bif decide (n=.isinstance)then(tQ y c).map λb=>(V.bool b,cs)else none)=some (v,cW):=h;refine dJ h ?_;clear h;intro hn h;rw[aM hn];refine eV h ?_;clear h;intro b hb e;refine l8 e ?_;have n1:∀i,y≠.own i:=λi e=>by clear hx;subst e;exact IN ⟨_,hb⟩
    have n2:∀i,c≠.own i:=λi e=>by clear hc;subst e;exact IP ⟨_,hb⟩
    exact aD (AS hB hS (hx.down n1) (hc.down n2) hb) (λ_ _ z=>z.pe hC) λ_ _ z=>z
   |cons _ _=>exact aY h
theorem IQ(P:Params){a:Addr}(h:isGlob a=true):keepIn (Kf P) (.ref a)=true:=by
 refine i8 (fJ.mp h) λp hp e=>?_;have:=aW.mp (keep1 P) p hp;rwa [aA e]
theorem M7(hB:Base w s₀)(hc:rD prog w s₀ d cf)(hR:Room A d 0)(hS:St w s₀ γ s)(hC:CsOk w γ ad cs)(hF:FmOk γ ad envM env){f:V}{uf:Value}{args:List V}{us:List Value}{kws:List (Nat×V)}{ukws:List (Str×Value)}
  (hf:VR γ ad f uf) (hv:AllR (VR γ ad) args us) (hk:AllR (Rb γ) kws ukws) (h:qB cf f args kws cs=some (v,cW)):wpAny (model prog w) A (call uf us ukws) (PE w s₀ γ ad v cW) fW s:=by
 refine vGC h (λh=>vBE h nS λn ef h=>Op h nS λek h=>?_) λa ef h=>bH h λx h1 h=>eV h λy h2 h=>?_
 rotate_left
 ·refine oA (Prod.mk.inj h) λe1 e2=>?_;rw[ef]at hf;rw[<-e1,<-e2,hf.isGlob.1];refine n8 (mZ hS hC hv h1) λaU S1 C1 T1 V1=>?_;exact aD (rY hc hR S1 ((hF.step T1).frm S1) V1 (hk.mono λ_ _ z=>⟨z.1,z.2.mono T1.ext λ_ _ e=>e⟩) h2) (λ_ _ z=>(z.pe C1).trans T1) λ_ _ z=>z
 ·rw[ek]at hk;cases hk;rw[ef]at hf;rw[hf.isBi];exact bi_ok hB hS hC hv h
theorem D6(hB:Base w s₀)(hc:rD prog w s₀ d cf)(hR:Room A d 0){f:Expr->X}{x:Str}{q p:Pos}{es:List Expr}{ks:List Keyword}{l:List (Nat×X)}(hx:e8 prog w s₀ A envM (.Name x q) (λenv cs=>r.ev (f (.Name x q)) env cs))
  (he:∀e∈es,e8 prog w s₀ A envM e (λenv cs=>r.ev (f e) env cs)) (hn:gE es=true) (hl:Dy f ks=some l) (hk:∀k∈ks,e8 prog w s₀ A envM k.value (λenv cs=>r.ev (f k.value) env cs)):
  e8 prog w s₀ A envM (.Call (.Name x q) es ks p) (λenv cs=>dI cf r (.call (f (.Name x q)) (es.map f) l) env cs):=λs γ ad env cs v cW hS hC hF h=>by
 refine bH h ?_;clear h;intro y h1 h;refine bH h ?_;clear h;intro z h2 h;refine bH h ?_;clear h;intro k h3 h;show wpAny _ _ (do callWith p (<-eval (.Name x q) envM) [] (backTo p (starEach es envM)) (backToKw p (keywordEach ks envM))) _ _ _
 refine bF (aD (hx s γ ad env cs _ _ hS hC hF h1) (λuf bZ qq=>?_) λ_ _ z=>z);obtain⟨aU,bN,S1,C1,T1,V1⟩:=qq;refine A6 (BN (prog:=prog) (w:=w) (s₀:=s₀) (A:=A) (envM:=envM) (r:=r) (pos:=p) hl hk) λ_ a2 _=>?_;have hplain:((backTo p (starEach es envM)).any (·.1)||(backToKw p (keywordEach ks envM)).any (·.1.isNone))=false:=by rw[D4 hn,a2];rfl
 have body:=aD (s7 (g:=uf) (pos:=p) he hn hl hk S1 C1 (hF.step T1) h2 h3) (λa cZ qq=>by
  refine tM (qq) λcL eS S2 C2 T2 V2 K2=>?_;exact(⟨hB.K.keeps S2.keep,aD (M7 hB hc hR S2 C2 (hF.step (T1.trans T2)) (V1.step T2) V2 K2 h) (λ_ _ z=>z.trans (T1.trans T2)) λ_ _ z=>z⟩:
   (Kf w.params).In cZ.heap/\wpAny (model prog w) A (call uf ([]++a.pos) a.kw) (PE w s₀ γ ad v cW) fW cZ)) λ_ _ z=>z
 refine vGC h (λh=>vBE h nS λn hg _=>?_) λg hg _=>?_
 rotate_left
 ·obtain⟨e,hgl⟩:=(hg▸V1).isGlob;exact callWith_of hplain (e▸keeps_K (IQ w.params hgl)) body
 ·have e:=(hg▸V1).isBi;subst e;refine callWith_of hplain (λhh X=>⟨.machine,.inr (.inl rfl),Looks.of_pure ?_⟩) body;clear body V1 hg;induction n using Bi.casesOn<;>rfl
end
def M8(K:Frag)(n:Str)(f:Addr):Bool:=pX false (findCls K (.ref 220) (.type "type") n) λc=>
 (tg false (Nat.beq c.ctorIdx 0) λh=>CFound.val.elim (motive:=λ_=>Bool) c (aA h) λu=>sQ false u λg=>Nat.beq f g)||
 (tg false (Nat.beq c.ctorIdx 1) λh=>CFound.get.elim (motive:=λ_=>Bool) c (aA h) λb u o t=>b==.builtin "staticmethod.__get__"&&o==.none&&t==.ref 220&&sQ false u λp=>pX false (recIn K p "staticmethod") λl=>pX false l.head? λu=>sQ false u λg=>Nat.beq f g)
noncomputable def clsT:List (Nat×Nat×Addr):=[(220,18,204),(220,14,185),(220,15,199)]
theorem cm1(P:Params):(specialIn (Kf P) (.ref 220) "__getattribute__"==some (some (.builtin "type.__getattribute__"))&&(typeIn (Kf P) (.ref 220)==some (.type "type")&&(readsIn (Kf P) 220 (.type "type")&&
 LZ.all λp=>pX true (qA 220 p.2) λf=>M8 (Kf P) p.1 f&&keepIn (Kf P) (.ref f))))=true:=by kernel_rfl!
inductive CmInv(K:Frag)(n:Str)(f:Addr):Prop
 |val:findCls K (.ref 220) (.type "type") n=some (.val (.ref f))->CmInv K n f
 |get (p:Addr) (r:List Value):findCls K (.ref 220) (.type "type") n=some (.get (.builtin "staticmethod.__get__") (.ref p) .none (.ref 220))->recIn K p "staticmethod"=some (.ref f::r)->CmInv K n f
theorem IR{K:Frag}{n:Str}{f:Addr}(h:M8 K n f=true):CmInv K n f:=
 oQ (Q:=λz=>z=true->CmInv K n f) (λh=>bX h) (λc ec h=>(cP.mp h).elim
  (λh=>sN (Q:=λz=>z=true->CmInv K n f) (λh=>bX h) (λe=>CFound.val.elim (motive:=λc=>findCls K (.ref 220) (.type "type") n=some c->∀e:Nat.beq c.ctorIdx 0=true,CFound.val.elim (motive:=λ_=>Bool) c (aA e) (λu=>sQ false u λg=>Nat.beq f g)=true->CmInv K n f) c (aA e)
   (λu ec _ h=>Iv h nT λg eu h=>.val (by rw[ec,eu,aA h])) ec e) h)
  λh=>sN (Q:=λz=>z=true->CmInv K n f) (λh=>bX h) (λe=>CFound.get.elim (motive:=λc=>findCls K (.ref 220) (.type "type") n=some c->∀e:Nat.beq c.ctorIdx 1=true,CFound.get.elim (motive:=λ_=>Bool) c (aA e)
    (λb u o t=>b==.builtin "staticmethod.__get__"&&o==.none&&t==.ref 220&&sQ false u λp=>pX false (recIn K p "staticmethod") λl=>pX false l.head? λu=>sQ false u λg=>Nat.beq f g)=true->CmInv K n f) c (aA e)
   (λb u o t ec _ h=>fF h λh h4=>fF h λh h3=>fF h λh1 h2=>Iv h4 nT λp eu h=>oQ (Q:=λz=>z=true->CmInv K n f) (λh=>bX h) (λl el h=>oQ (Q:=λz=>z=true->CmInv K n f) (λh=>bX h) (λu' eh h=>Iv h nT λg eg k=>by
    induction l using List.casesOn with
    |nil=>exact aY eh
    |cons x r=>exact .get p r (by rw[ec,eu,beq_iff_eq.mp h1,beq_iff_eq.mp h2,beq_iff_eq.mp h3]) (by rw[el,show x=_ from aC eh,eg,aA k])) h) h) ec e) h) h
theorem Rf:∀{es:List Expr},gE es=true->∀(env:Env) (pos:Pos),(backTo pos (starEach es env)).all (!·.1)=true
 |[],_,_,_=>rfl
 |e::r,h,env,pos=>by
  refine oA (mU h env) λa b=>?_;rw[a];exact(Rf b env pos)
theorem rJ{α:Type}{x:Str}:∀{l:List (Str×α)},(∀p∈l,lE x p.1=false)->cJ x l=none
 |[],_=>rfl
 |(y,v)::r,h=>by
  unfold cJ;rw[show lE x y=false from h (y,v) aE];exact rJ λp hp=>h p (aI _ hp)
theorem EI:(pV.all λC=>LZ.all λp=>pX true (zF C p.2) λ_=>[El,Dp,lU,lV,rT,vC,lI,dG].all λk=>!lE p.1 k)=true:=by decide+kernel
theorem EJ(t:T):∀p∈mT t,p.1∈[El,Dp,lU,lV,rT,vC,lI,dG]:=by
 induction t using T.casesOn<;>(intro p hp;simp only[mT,a7,fK,or_false]at hp;rcases hp with rfl|rfl|rfl|rfl<;>simp)
theorem Pl{t:T}{n:Nm}{f:Addr}(h:gU t n=some f):([El,Dp,lU,lV,rT,vC,lI,dG].all λk=>!lE (sR n) k)=true:=by
 have q:pX true (zF t.cls n) _=true:=aW.mp (aW.mp EI _ (jX t)) _ (FW n);rw[show zF t.cls n=some f from h]at q;exact q
theorem Gk{c n:Nat}{f:Addr}:∀{l:List (Nat×Nat×Addr)},(∀p∈l,p.1=220)->xE c n l=some f->c=220
 |[],_,h=>aY h
 |(a,b,g)::r,hl,h=>by
  unfold xE at h;induction e:Nat.beq c a&&Nat.beq n b using Bool.casesOn with
  |true=>rw[aA (aL.mp e).1];exact hl _ aE
  |false=>rw[e]at h;exact Gk (λp hp=>hl p (aI _ hp)) h
theorem D7(P:Params){c:Addr}{n:Nm}{f:Addr}(h:qA c n=some f):c=220/\M8 (Kf P) (sR n) f=true/\keepIn (Kf P) (.ref f)=true:=by
 have hc:=Gk (by decide) h
 subst hc;have q:pX true (qA 220 n) _=true:=aW.mp (aL.mp (aL.mp (aL.mp (cm1 P)).2).2).2 _ (FW n);rw[h]at q;exact⟨rfl,aL.mp q⟩
section
variable{prog:Program}{w:World}{s₀ s s':Shared}{γ bP:Gh}{ad dU:List Addr}{cs cW:Cs}{A:Around}{d:Nat}{cf:cO}{v:V}{u:Value}{envM:Env}{sc:Scope}{env:Ev}{r:Rec}
theorem Gl{o:Expr}{a:Str}{ap p:Pos}{es:List Expr}{ks:List Keyword}(hb:wJ o=true)(hn:gE es=true)(hk:(backToKw p (keywordEach ks envM)).all (·.1.isSome)=true)(hp:ap.endLine=p.line)(eW:es.length+ks.length<20):
  eval (.Call (.Attribute o a ap) es ks p) envM=(do
   let ov<-eval o envM
   standAt ap.atName
   let(f,first)<-holding [ov] (getMethod ov a (do return(<-importBound o envM).getD true))
   callWith p f first (backTo p (starEach es envM)) (backToKw p (keywordEach ks envM))):=by
 show(do let ov<-attributeBase o a envM (eval o envM);standAt ap.atName;methodCall o a ap p envM ov (es.length+ks.length) (backTo p (starEach es envM)) (backToKw p (keywordEach ks envM)))=_
 rw[BK hb];have form:methodCallForm (es.length+ks.length) (backTo p (starEach es envM)) (backToKw p (keywordEach ks envM))=true:=by
  unfold methodCallForm;rw[Rf hn,hk,qV,qV];refine aH ?_;split<;>lia
 unfold methodCall;rw[form];unfold methodCallPos;have:(!true||ap.endLine==p.line)=true:=by rw[hp];simp
 simp only[this,if_true];rfl
theorem Rg{t:T}{n:Nm}(h:jR (.node t) n cs=true):∃f,gU t n=some f:=fE.mp h
theorem IU(hB:Base w s₀)(hS:St w s₀ γ s)(hF:J5 s₀ s){a dx:Addr}{t:T}{n:Nm}{f:Addr}{pl:Sem Bool}{Q:Value×List Value->Shared->Prop}{E:Value->Shared->Prop}(e:γ a=some (.node t dx))(h:gU t n=some f)(q:Q (.ref f,[.ref a]) s):
  wpAny (model prog w) A (getMethod (.ref a) (sR n) pl) Q E s:=by
 refine kY (BE hS e) λes k I r=>?_;obtain⟨L,m,F⟩:=hF;obtain⟨q1,q2,q3⟩:=rF w.params h;have hm:=Pl h;have hno:∀k∈[El,Dp,lU,lV,rT,vC,lI,dG],lE (sR n) k=false:=λk hk=>by simpa using aW.mp hm k hk
 exact method_inst F hB.K I (rX _ t _) q1 q2 (Mt r (rJ λp hp=>hno _ (EJ t p hp)) (hno _ (by simp))) q
theorem M9(hB:Base w s₀)(hS:St w s₀ γ s)(hF:J5 s₀ s){c:Addr}{n:Nm}{f:Addr}{pl:Sem Bool}{Q:Value×List Value->Shared->Prop}{E:Value->Shared->Prop}(h:qA c n=some f)(q:Q (.ref f,[]) {s with toks:=s.toks+1}):
  wpAny (model prog w) A (getMethod (.ref c) (sR n) pl) Q E s:=by
 refine Oo (hF) λL m F=>?_;refine A6 (D7 w.params h) λzr0 hch _=>?_;subst zr0;clear h;have k:=cm1 w.params;simp only[a9,beq_iff_eq]at k;refine u7 (k) λk1 k2 k3 _=>?_;refine method_of_cls F hB.K k1 ?_;rcases IR hch with hg|⟨p,r,hg,hr⟩
 ·exact cls_val F hB.K k2 k3 hg rfl q
 ·exact cls_sm F hB.K k2 k3 hg hr rfl q
theorem MA(P:Params){c:Addr}{n:Nm}{f:Addr}(h:qA c n=some f):keepIn (Kf P) (.ref f)=true:=(D7 P h).2.2
end
theorem IV:sR .append=("append":Str):=by decide+kernel
theorem Y6:sR .get=("get":Str):=by decide+kernel
theorem MB:sR .items=("items":Str):=by decide+kernel
theorem Pm:sR .join=("join":Str):=by decide+kernel
inductive CtId:V->Nm->String->Prop
 |append {i:Nat}:CtId (.own i) .append "list.append"
 |items {o:V}:CtId o .items "dict.items"
 |get {o:V}:CtId o .get "dict.get"
 |join {s:Str}:CtId (.str s) .join "str.join"
section
variable{prog:Program}{w:World}{s₀ s s':Shared}{γ bP:Gh}{ad dU:List Addr}{cs cW:Cs}{A:Around}{d:Nat}{cf:cO}{v:V}{u:Value}{envM:Env}{sc:Scope}{env:Ev}{r:Rec}
theorem AX(hS:St w s₀ γ s)(hC:CsOk w γ ad cs){o:V}{uo:Value}{m:List (Str×V)}{n:Str}{id:String}{pl:Sem Bool}{Q:Value×List Value->Shared->Prop}{E:Value->Shared->Prop}(hv:VR γ ad o uo)(h:view o cs=some (.dct m))
  (slot:Slot "dict" n id) (ty:typeOf (.builtin id)=pure (.type "method_descriptor")) (q:Q (.builtin id,[uo]) s):wpAny (model prog w) A (getMethod uo n pl) Q E s:=by
 refine fM (x8 hS hC hv h) λa o zr2 h1 h2=>?_;subst zr2;obtain⟨⟨h2,h3,_⟩,_⟩:=h2;exact getMethod_builtin ⟨o,h1,h2⟩ PySem.F.plainAttrs_dict slot ty (λb e=>by cases e;exact kF o h1 h3) q
theorem zR(hS:St w s₀ γ s)(hC:CsOk w γ ad cs){o:V}{uo:Value}{m:List (Str×V)}{n:Nm}{pl:Sem Bool}(hv:VR γ ad o uo)(h:view o cs=some (.dct m))(hn:(decide (n=.items)||decide (n=.get))=true):
  ∃id,CtId o n id/\∀{Q:Value×List Value->Shared->Prop} {E:Value->Shared->Prop},Q (.builtin id,[uo]) s->wpAny (model prog w) A (getMethod uo (sR n) pl) Q E s:=by
 rcases cP.mp hn with q|q
 ·have q:=aM q;clear hn;subst q;exact kF _ .items (λq=>by rw[MB];exact AX hS hC hv h PySem.F.slot_dict_items PySem.F.type_dict_items q)
 ·have q:=aM q;clear hn;subst q;exact kF _ .get (λq=>by rw[Y6];exact AX hS hC hv h PySem.F.slot_dict_get PySem.F.type_dict_get q)
theorem IW(hS:St w s₀ γ s)(hC:CsOk w γ ad cs){o:V}{uo:Value}{n:Nm}{pl:Sem Bool}(hv:VR γ ad o uo)(h1:∀t,o≠.node t)(h2:∀c,o≠.glob c)(h:jR o n cs=true):
  ∃id,CtId o n id/\∀{Q:Value×List Value->Shared->Prop} {E:Value->Shared->Prop},Q (.builtin id,[uo]) s->wpAny (model prog w) A (getMethod uo (sR n) pl) Q E s:=by
 refine vNQ (Q:=λz=>z=true->∃id,CtId o n id/\∀{Q:Value×List Value->Shared->Prop} {E:Value->Shared->Prop},Q (.builtin id,[uo]) s->wpAny (model prog w) A (getMethod uo (sR n) pl) Q E s)
  (vGQ (Q:=λz=>z=true->∃id,CtId o n id/\∀{Q:Value×List Value->Shared->Prop} {E:Value->Shared->Prop},Q (.builtin id,[uo]) s->wpAny (model prog w) A (getMethod uo (sR n) pl) Q E s)
   (vOQ (Q:=λz=>z=true->∃id,CtId o n id/\∀{Q:Value×List Value->Shared->Prop} {E:Value->Shared->Prop},Q (.builtin id,[uo]) s->wpAny (model prog w) A (getMethod uo (sR n) pl) Q E s)
    (vDQ (Q:=λz=>z=true->∃id,CtId o n id/\∀{Q:Value×List Value->Shared->Prop} {E:Value->Shared->Prop},Q (.builtin id,[uo]) s->wpAny (model prog w) A (getMethod uo (sR n) pl) Q E s)
     (λh=>QW h nT λs eo h=>?_) λm eo h=>?_) λi eo h=>?_) λc e=>absurd e (h2 c)) (λt e=>absurd e (h1 t)) h
 ·clear h2 h1;subst eo;rw[aM h];refine hv.strI λt=>?_;exact kF _ .join (λq=>by rw[Pm];exact PySem.GM.join q)
 ·clear h2 h1;subst eo;exact zR hS hC hv rfl h
 ·clear h2 h1;subst eo;refine oQ (Q:=λz=>z=true->∃id,CtId (.own i) n id/\∀{Q:Value×List Value->Shared->Prop} {E:Value->Shared->Prop},Q (.builtin id,[uo]) s->wpAny (model prog w) A (getMethod uo (sR n) pl) Q E s) (λh=>bX h)
   (λc hc=>vLQ (Q:=λz=>z=true->∃id,CtId (.own i) n id/\∀{Q:Value×List Value->Shared->Prop} {E:Value->Shared->Prop},Q (.builtin id,[uo]) s->wpAny (model prog w) A (getMethod uo (sR n) pl) Q E s) (λh=>vDE h nT λm hm h=>zR hS hC hv (by show(uK i cs).map _=_;rw[hc,cU,hm]) h) λl hl h=>?_) h
  obtain⟨hf,hn⟩:=aL.mp h;rw[aM hn];refine kF _ .append (λq=>?_);refine i8 (hv.isOwn) λa zr1 e=>?_;subst zr1;clear hv hn h;rw[oP]at hc;refine rS (hC.all.get e) λc' hc' o g hg q'=>?_;rw[aC (hc'.symm.trans hc)]at hg q';rw[show c.frozen=false by simpa using hf]at q'
  obtain⟨r1,r2,r3⟩:=q';rw[hl]at r2;rw[IV];exact Calls.getMethod_list_append (hS.raw r1) r2.1 r3 q
theorem IY(hS:St w s₀ γ s)(hC:CsOk w γ ad cs){i:Nat}{uo:Value}{x:V}{ux:Value}{c:Cn}{l:List V}(hv:VR γ ad (.own i) uo)(hc:uK i cs=some c)(hf:c.frozen=false)(hl:c.val=.lst l)(hz:l.length<=100000)(hx:VR γ [] x ux):
  wpAny (model prog w) A (call (.builtin "list.append") [uo,ux]) (PE w s₀ γ ad .none (sM i ⟨false,.lst (l++[x])⟩ cs)) fW s:=by
 refine hv.ownI λa e=>?_;clear hv;rw[oP]at hc;refine rS (hC.all.get e) λc' hc' o g hg q=>?_;rw[hc]at hc';clear hg;obtain rfl:=aC hc';rw[hf,hl]at q;obtain⟨r1,⟨r2,vs,n,r4,r5⟩,r3⟩:=q;have hP:PlainL s.heap a vs:=⟨o,n,hS.raw r1,r2,r3,r4⟩;have eW:=r5.length;refine list_append_plainL hP (λh' hP' hs=>?_) (aR (by simpa [eW] using hz:vs.size<=100000) (by decide))
 refine uI (hP') λo' n' p1 p2 p3 p4=>?_;refine⟨_,ad,hS.set r1 hs p1,hC.setAt e r1 ?_,gW (.raw o') ad r1 (.inl (List.mem_of_getElem? e)),.none⟩;have E:=(gW (X:=[]) (G.raw o') ad r1 (.inl (List.mem_of_getElem? e))).ext;exact uJ o' (.lst (l++[x])) rfl (bK ..) ⟨p2,vs.push ux,n',p4,by rw[Array.toList_push];exact(r5.mono λ_ _ z=>z.mono E λi a e=>by simp at e).append (.cons (hx.mono E λi a e=>by simp at e) .nil)⟩ p3
theorem MC(hB:Base w s₀)(hS:St w s₀ γ s)(hC:CsOk w γ ad cs){o:V}{uo:Value}{m:List (Str×V)}(hv:VR γ ad o uo)(h:a8 o cs=some (.dct m,cW)):
  wpAny (model prog w) A (call (.builtin "dict.items") [uo]) (PE w s₀ γ ad (.dit m) cW) fW s:=by
 refine n8 (rH hS hC hv h) λaU S1 C1 T1 V1=>?_;clear hv;refine V1.dctI λb ob e=>?_;obtain⟨h1,h2⟩:=S1.ok.at_ _ _ e;obtain⟨kvs,k1,k2⟩:=rI (prog:=prog) h1 h2;refine call_meetsIn PySem.F.slot_dict_items k1.typeIs PySem.F.entry_dict_items (PySem.F.args_dict_items_1 _) (meets_dict_items (PySem.strKind prog w) b (Gj hB (S1.ok.lo _ _ e rfl))) ⟨⟨_,k1⟩,?_⟩;show PE w s₀ γ ad (.dit m) cW _ _;have hf:=S1.free;have S2:=S1.alloc (s':={s with heap:=s.heap.push {cls:=.type "dict_items",data:=.fields #[.ref b]}}) {cls:=.type "dict_items",data:=.fields #[.ref b]} rfl
 have f5:b≠s.heap.objs.size:=hf.ne e (by intro z;cases z)
 have S3:=S2.tell (g:=.dit m) (bK ..) (by intro _ _ q;cases q) ⟨b,ob,⟨_,S2.raw (bK ..),rfl,rfl⟩,by rw[cN f5];exact e⟩
 have hu:iZ (iZ aU s.heap.objs.size (some (.raw {cls:=.type "dict_items",data:=.fields #[.ref b]}))) s.heap.objs.size (some (.dit m))=iZ aU s.heap.objs.size (some (.dit m)):=by
  funext x;by_cases h:x=s.heap.objs.size<;>simp[iZ,h]
 rw[hu]at S3;exact⟨_,ad,S3,C1.alloc hf,T1.trans (d6 _ ad hf),.dit (bK ..)⟩
theorem EK{P:Prop}{v x:V}{n:Nm}{args:List V}(h:zG x n args=some v)(k1:∀s l,x=.str s->n=.join->args=[.lst l]->((mV l).bind λss=>bif JoinOk s ss then some (V.str (Str.join s ss))else none)=some v->P)
  (k2:∀d k z,x=.dct d->n=.get->args=[.str k,z]->(cJ k d).getD z=v->P):P:=
 vSC h (λh=>vDE h nS λd ex h=>dJ h λhn h=>OC h nS λa z ea h=>QW h nS λk ek h=>k2 d k z ex (aM hn) (by rw[ea,ek]) (aC h))
  λs ex h=>dJ h λhn h=>Es h nS λa ea h=>vLE h nS λl el h=>k1 s l ex (aM hn) (by rw[ea,el]) h
theorem rd_ok(hB:Base w s₀)(hS:St w s₀ γ s)(hC:CsOk w γ ad cs){o x:V}{uo:Value}{n:Nm}{id:String}{args:List V}{us:List Value}(hv:VR γ ad o uo)(hx:view o cs=some x)(hid:CtId o n id)(ha:AllR (VR γ []) args us)(h:zG x n args=some v):
  wpAny (model prog w) A (call (.builtin id) (uo::us)) (PN w s₀ γ v) fW s:=by
 refine EK h (λx l ex en ea h=>?_) λm k z ex en ea h=>?_
 ·refine bH h λss h1 h=>dJ h λhj h=>?_;rw[<-aC h];clear h;rw[ex]at hx;rw[en]at hid;rw[ea]at ha;refine oA (pA hC hv hx λ_=>rfl) λzr0 hv=>?_;subst zr0;cases hid;refine hv.strI λt=>?_;refine ha.I1 λu hl=>?_;refine fM (rZ hS hC (hl.up ad) rfl) λa vs zr2 q1 q2=>?_;subst zr2;exact OZ hS q1 q2 h1 hj
 ·rw[<-h];clear h;clear h;rw[ex]at hx;rw[en]at hid;rw[ea]at ha;cases hid;refine ha.I2 λu u' hk hz=>?_;refine hk.strI λt=>?_;exact Y5 hB hS hC hv hx hz
theorem AY{x:V}(h:flat x=true):∀i,x≠.own i:=λi e=>by rw[e]at h;exact bX h
theorem MD{i:Nat}{args:List V}{y:V×Cs}(h:iL (.own i) .append args cs=some y):∃x c l,args=[x]/\flat x=true/\uK i cs=some c/\c.val=.lst l/\(!c.frozen&&Nat.ble l.length 100000)=true/\y=(.none,sM i ⟨false,.lst (l++[x])⟩ cs):=
 Es h nS λx ea h=>dJ h λhf h=>bH h λc hc h=>vLE h nS λl hl h=>dJ h λhz h=>⟨x,c,l,ea,hf,hc,hl,hz,(aC h).symm⟩
theorem EL{o:V}{args:List V}{y:V}{cW:Cs}(h:iL o .items args cs=some (y,cW)):∃m,args=[]/\y=.dit m/\a8 o cs=some (.dct m,cW):=
 Op h nS λea h=>bH h λp h1 h=>vDE h nS λm em h=>let⟨e1,e2⟩:=Prod.mk.inj (aC h);⟨m,ea,e1.symm,by rw[h1,<-e2,<-em]⟩
theorem ME(hB:Base w s₀)(hS:St w s₀ γ s)(hC:CsOk w γ ad cs){o:V}{uo:Value}{n:Nm}{id:String}{args:List V}{us:List Value}(hv:VR γ ad o uo)(hid:CtId o n id)(ha:AllR (VR γ ad) args us)(h:iL o n args cs=some (v,cW)):
  wpAny (model prog w) A (call (.builtin id) (uo::us)) (PE w s₀ γ ad v cW) fW s:=by
 have rd:∀{m:Nm},CtId o m id->((eX args cs).bind λw=>(view o w.2).bind λu=>(zG u m w.1).map λx=>(x,w.2))=some (v,cW)->wpAny (model prog w) A (call (.builtin id) (uo::us)) (PE w s₀ γ ad v cW) fW s:=by
  intro m hid h;refine bH h ?_;clear h;intro p h1 h;refine bH h ?_;clear h;intro y h2 h;refine eV h ?_;clear h;intro z h3 h;refine l8 h ?_;refine n8 (mZ hS hC ha h1) λaU S1 C1 T1 V1=>?_;exact aD (rd_ok hB S1 C1 (hv.step T1) h2 hid V1 h3) (λ_ _ z=>(z.pe C1).trans T1) λ_ _ z=>z
 cases hid with
 |@append i=>
  refine tN (MD h) λx c l e1 e2 e3 e4 e5 e6=>?_;subst e1;obtain⟨e6,e7⟩:=Prod.mk.inj e6;rw[e6,e7];clear h rd e6 e7;cases ha with
  |cons hx hr=>
   cases hr;obtain⟨z1,z2⟩:=aL.mp e5;exact IY hS hC hv e3 (by simpa using z1) e4 (aX z2) (hx.down (AY e2))
 |items=>
  refine l6 (EL h) λm e1 e2 e3=>?_;subst e1;rw[e2];clear h rd;cases ha;exact MC hB hS hC hv e3
 |get=>exact rd .get h
 |join=>exact rd .join h
end
theorem IZ(items:Array Value)(i:Int)(h:0<=i):slicePick items none (some i) none=(items.toList.take i.toNat).toArray:=by
 obtain⟨k,rfl⟩:=Int.eq_ofNat_of_zero_le h;rcases Nat.le_total k items.size with z|z
 ·exact slicePick_upto items k z
 ·have q:=slicePick_upto items items.size (cA _);have e:sliceBounds none (some ((k:Nat):Int)) none items.size=sliceBounds none (some ((items.size:Nat):Int)) none items.size:=by
   have h1:¬(k:Int)<0:=jK.mpr (g5 _);have h2:¬(items.size:Int)<0:=jK.mpr (g5 _);simp only[sliceBounds,Option.getD_none,h1,h2,if_false,show(1:Int)>0 by decide,if_true]
   rw[Int.min_eq_right (mK.mpr z),Int.min_eq_right (fI _)]
  unfold slicePick at q⊢;rw[e,q,List.take_of_length_le (by simp),List.take_of_length_le (by simpa using z)]
section
variable{prog:Program}{w:World}{s₀ s s':Shared}{γ bP:Gh}{ad dU:List Addr}{cs cW:Cs}{A:Around}{d:Nat}{cf:cO}{v:V}{u:Value}{envM:Env}{sc:Scope}{env:Ev}{r:Rec}
theorem ngo(v:V):(∃t,v=.node t)\/(∃c,v=.glob c)\/((∀t,v≠.node t)/\∀c,v≠.glob c):=by
 induction v using V.casesOn with
 |node t=>exact .inl ⟨t,rfl⟩
 |glob c=>exact .inr (.inl ⟨c,rfl⟩)
 |_=>exact .inr (.inr ⟨λ_=>V.noConfusion,λ_=>V.noConfusion⟩)
theorem Pn{o:V}{n:Nm}{args:List V}{kws:List (Nat×V)}(h1:∀t,o≠.node t)(h2:∀c,o≠.glob c):q9 cf o n args kws cs=A9 none kws (iL o n args cs):=
 vNQ (Q:=λz=>z=A9 none kws (iL o n args cs)) (vGQ (Q:=λz=>z=A9 none kws (iL o n args cs)) rfl λc e=>absurd e (h2 c)) λt e=>absurd e (h1 t)
theorem Po(hB:Base w s₀)(hc:rD prog w s₀ d cf)(hR:Room A d 0){f:Expr->X}{o:Expr}{a:Str}{m:Nm}{ap p:Pos}{es:List Expr}{ks:List Keyword}{l:List (Nat×X)}(ho:e8 prog w s₀ A envM o (λenv cs=>r.ev (f o) env cs))
  (he:∀e∈es,e8 prog w s₀ A envM e (λenv cs=>r.ev (f e) env cs)) (hk:∀k∈ks,e8 prog w s₀ A envM k.value (λenv cs=>r.ev (f k.value) env cs))
  (hb:wJ o=true) (hn:gE es=true) (hl:Dy f ks=some l) (hp:ap.endLine=p.line) (eW:es.length+ks.length<20) (hm:cJ a LZ=some m):
  e8 prog w s₀ A envM (.Call (.Attribute o a ap) es ks p) (λenv cs=>dI cf r (.meth (f o) m (es.map f) l) env cs):=λs γ ad env cs v cW hS hC hF h=>by
 refine bH h ?_;clear h;intro y h1 h;refine vG h ?_;clear h;intro hmo h;refine bH h ?_;clear h;intro z h2 h;refine bH h ?_;clear h;intro k h3 h;have e:=Mq hm;clear hm;subst e;refine A6 (BN (prog:=prog) (w:=w) (s₀:=s₀) (A:=A) (envM:=envM) (r:=r) (pos:=p) hl hk) λa1 a2 _=>?_;have hplain:((backTo p (starEach es envM)).any (·.1)||(backToKw p (keywordEach ks envM)).any (·.1.isNone))=false:=by rw[D4 hn,a2];rfl
 refine methodCall_KW (pl:=do return(<-importBound o envM).getD true) (aD (ho s γ ad env cs _ _ hS hC hF h1) (λuo bZ qq=>?_) λ_ _ z=>z) (Gl hb hn a1 hp eW)
 obtain⟨aU,bN,S1,C1,T1,V1⟩:=qq;have F1:=hF.step T1;obtain⟨y1,y2⟩:=y;dsimp only at h2 h hmo V1 C1;have args:∀{g:Value} {first:List Value} {bZ:Shared},St w s₀ aU bZ->(∀(a:Args) cZ cL eS,St w s₀ cL cZ->CsOk w cL eS k.2->Step [] aU cL bN eS->AllR (VR cL eS) z.1 a.pos->AllR (Rb cL) k.1 a.kw->wpAny (model prog w) A (call g (first++a.pos) a.kw) (PE w s₀ γ ad v cW) fW cZ)->
   wpAny (model prog w) A (evalArgs g true (backTo p (starEach es envM)) (backToKw p (keywordEach ks envM))) (λa cZ=>(Kf w.params).In cZ.heap/\wpAny (model prog w) A (call g (first++a.pos) a.kw) (PE w s₀ γ ad v cW) fW cZ) fW bZ:=by
  intro g first bZ S1 hq;refine aD (s7 (g:=g) (pos:=p) he hn hl hk S1 C1 F1 h2 h3) (λa cZ qq=>?_) λ_ _ z=>z;refine tM (qq) λcL eS S2 C2 T2 V2 K2=>?_;exact⟨hB.K.keeps S2.keep,hq a cZ cL eS S2 C2 T2 V2 K2⟩
 have node:∀t,y1=.node t->wpAny (model prog w) A (getMethod uo (sR m) (do return(<-importBound o envM).getD true)) (λfx cZ=>wpAny (model prog w) A (callWith p fx.1 fx.2 (backTo p (starEach es envM)) (backToKw p (keywordEach ks envM))) (PE w s₀ γ ad v cW) fW cZ) fW bZ:=by
  clear hmo h1;rintro t rfl;refine bH h ?_;clear h;intro x h4 h;refine bH h ?_;clear h;intro y h5 h;refine eV h ?_;clear h;intro q h6 h;cases h;refine V1.nodeI λb dx eb=>?_;refine IU hB S1 (F1.frm S1) eb h4 (callWith_of hplain (keeps_K (rF w.params h4).2.2) (args S1 λa cZ cL eS S2 C2 T2 V2 K2=>?_));refine n8 (mZ S2 C2 V2 h5) λiY S3 C3 T3 V3=>?_;exact aD (rY hc hR S3 ((hF.step ((T1.trans T2).trans T3)).frm S3) (.cons (((VR.node (ad:=[]) eb).mono (T2.ext.trans T3.ext) λ_ _ e=>e)) V3) (K2.mono λ_ _ z=>⟨z.1,z.2.mono T3.ext λ_ _ e=>e⟩) h6)
   (λ_ _ z=>(z.pe C3).trans ((T1.trans T2).trans T3)) λ_ _ z=>z
 have cls:∀c,y1=.glob c->wpAny (model prog w) A (getMethod uo (sR m) (do return(<-importBound o envM).getD true)) (λfx cZ=>wpAny (model prog w) A (callWith p fx.1 fx.2 (backTo p (starEach es envM)) (backToKw p (keywordEach ks envM))) (PE w s₀ γ ad v cW) fW cZ) fW bZ:=by
  clear hmo h1;rintro c rfl;refine bH h ?_;clear h;intro x h4 h;refine bH h ?_;clear h;intro y h5 h;refine eV h ?_;clear h;intro q h6 h;cases h;obtain⟨rfl,_⟩:=V1.isGlob;refine M9 hB S1 (F1.frm S1) h4 (callWith_of hplain (keeps_K (MA w.params h4)) (args S1.like λa cZ cL eS S2 C2 T2 V2 K2=>?_));refine n8 (mZ S2 C2 V2 h5) λiY S3 C3 T3 V3=>?_;exact aD (rY hc hR S3 ((hF.step ((T1.trans T2).trans T3)).frm S3) V3 (K2.mono λ_ _ z=>⟨z.1,z.2.mono T3.ext λ_ _ e=>e⟩) h6)
   (λ_ _ z=>(z.pe C3).trans ((T1.trans T2).trans T3)) λ_ _ z=>z
 rcases ngo y1 with⟨t,e⟩|⟨c,e⟩|⟨g1,g2⟩
 ·exact node t e
 ·exact cls c e
 ·refine Op ((Pn g1 g2).symm.trans h) nS λhk0 h=>?_;clear node cls;refine i8 (IW (prog:=prog) (A:=A) (pl:=do return(<-importBound o envM).getD true) S1 C1 V1 g1 g2 hmo) λid i1 i2=>?_
  refine i2 (callWith_of (P:=(Kf w.params).In) hplain (λhh X=>⟨.machine,.inr (.inl rfl),Looks.of_pure rfl⟩) (args S1 λa cZ cL eS S2 C2 T2 V2 K2=>?_));clear args;rw[hk0]at K2;obtain⟨apos,akw⟩:=a;dsimp only at K2 V2⊢;cases K2;exact aD (ME hB S2 C2 (V1.step T2) i1 V2 h) (λ_ _ z=>z.trans (T1.trans T2)) λ_ _ z=>z
theorem xI{i:Expr}(h:sS i=true)(o x:Value):subscripted i false o x=operate [o,x] (getItem o x):=by
 induction i using PySem.Expr.casesOn<;>first|rfl|exact bX h
theorem Pp(hS:St w s₀ γ s)(hC:CsOk w γ ad cs){a b:V}{x y:Value}{value i:Expr}(hn:sS i=true)(ha:VR γ ad a x)(hb:VR γ ad b y)(h:eZ a b cs=some v):wpAny (model prog w) A (subscriptTail value i x y) (PN w s₀ γ v) fW s:=by
 refine bH h λu hu h=>vLC h (λh=>vDE h nS λm em h=>QW h nS λk ek h=>?_) λl el h=>Yc h nS λk ek h=>dJ h λhz h=>fF hz λz1 z2=>?_
 rotate_left
 ·rw[el]at hu;rw[ek]at hb;refine fM (rZ hS hC ha hu) λa vs zr2 q1 q2=>?_;subst zr2;refine hb.intI λt=>?_;refine i8 (q2.get h) λb e1 e2=>?_;refine tail_any q1.typeIs slot_list_getitem.lookup ?_ (xI hn _ _);have:=aM z2;exact wpAny_getItem_list q1 (aM z1) (by lia) (by simpa using e1) (PN.mk' hS e2)
 ·rw[em]at hu;rw[ek]at hb;refine hb.strI λt=>?_;refine fM (x8 hS hC ha hu) λa o' zr2 g1 g2=>?_;subst zr2;exact tail_any (⟨o',g1,g2.1.1⟩:s.TypeIs (.ref a) "dict") slot_dict_getitem.lookup (IL hS hC ha hu h) (xI hn _ _)
theorem Pq{o i:Expr}{fo fi:Ev->Cs->Option (V×Cs)}{p:Pos}(hn:sS i=true)(ho:e8 prog w s₀ A envM o fo)(hi:e8 prog w s₀ A envM i fi):
  e8 prog w s₀ A envM (.Subscript o i p) (λenv cs=>(fo env cs).bind λp=>(fi env p.2).bind λq=>(eZ p.1 q.1 q.2).map λv=>(v,q.2)):=λs γ ad env cs v cW hS hC hF h=>by
 refine bH h ?_;clear h;intro x h1 h;refine bH h ?_;clear h;intro y h2 h;refine eV h ?_;clear h;intro z h3 h;refine l8 h ?_;refine Subscript_ (aD (ho s γ ad env cs _ _ hS hC hF h1) (λlH bZ q=>?_) λ_ _ z=>z);obtain⟨aU,bN,S1,C1,T1,V1⟩:=q;refine aD (hi bZ aU bN env _ _ _ S1 C1 (hF.step T1) h2) (λu₂ cZ q=>?_) λ_ _ z=>z;obtain⟨cL,eS,S2,C2,T2,V2⟩:=q;exact aD (Pp S2 C2 hn (V1.step T2) V2 h3) (λ_ _ z=>(z.pe C2).trans (T1.trans T2)) λ_ _ z=>z
theorem Pr(hS:St w s₀ γ s)(hC:CsOk w γ ad cs){a b:V}{x y:Value}(ha:VR γ ad a x)(hb:VR γ ad b y)(h:Md a b cs=some (v,cW)):∃l items lo hi,x=.ref l/\s.heap.IsList l items/\items.size<=sizeLine/\IsPart .none lo/\IsPart y hi/\
  PE w s₀ γ ad v cW (.ref (s.heap.objs.size+1)) {s with heap:=(s.heap.push {cls:=.type "slice",data:=.fields #[.none,y,.none]}).push {cls:=.type "list",data:=.seq (slicePick items lo hi none)}}:=by
 refine bH h λu hu h=>vLE h nS λl el h=>Yc h nS λk ek h=>dJ h λhz h=>fF hz λz1 z3=>fF z1 λz1 z2=>?_;rw[el]at hu;rw[ek]at hb;refine fM (rZ hS hC ha hu) λa vs zr2 q1 q2=>?_;subst zr2;refine hb.intI λt=>?_;have eW:=q2.length;have z3:=aX z3;refine yV a vs none (some k) rfl q1 (aR (by simpa [eW] using z3:vs.size<=100000) (by decide)) .none (.int k t) ?_
 rw[IZ _ _ (aM z1)];have:=Re (l:=l.take k.toNat) (cs:=cs) (s':={s with heap:=(s.heap.push {cls:=.type "slice",data:=.fields #[.none,.int k t,.none]}).push {cls:=.type "list",data:=.seq (vs.toList.take k.toNat).toArray}}) hS hC
  (a:=s.heap.objs.size+1) (out:=(vs.toList.take k.toNat).toArray) (n:=0) (λb o e=>Heap.get?_push_of_some _ (Heap.get?_push_of_some _ e)) (tL _)
  (by
   have e1:=Heap.get?_push_size (s.heap.push {cls:=.type "slice",data:=.fields #[.none,.int k t,.none]}) (o:={cls:=.type "list",data:=.seq (vs.toList.take k.toNat).toArray}) rfl;rw[Heap.size_push]at e1;exact e1) (by simpa using q2.take k.toNat)
 rw[aC h]at this;exact this
theorem Ps{o:Str}{uu:Expr}{fo fi:Ev->Cs->Option (V×Cs)}{p q pp:Pos}(ho:e8 prog w s₀ A envM (.Name o p) fo)(hi:e8 prog w s₀ A envM uu fi):
  e8 prog w s₀ A envM (.Subscript (.Name o p) (.Slice none (some uu) none q) pp) (λenv cs=>(fo env cs).bind λp=>(fi env p.2).bind λq=>Md p.1 q.1 q.2):=λs γ ad env cs v cW hS hC hF h=>by
 refine bH h ?_;clear h;intro x h1 h;refine bH h ?_;clear h;intro y h2 h;refine wpAny_Subscript_list_slice (aD (ho s γ ad env cs _ _ hS hC hF h1) (λlH bZ q=>?_) λ_ _ z=>z);obtain⟨aU,bN,S1,C1,T1,V1⟩:=q;refine wpAny_evalPart_none (wpAny_evalPart_some (aD (hi bZ aU bN env _ _ _ S1 C1 (hF.step T1) h2) (λu₂ cZ q=>?_) λ_ _ z=>z));obtain⟨cL,eS,S2,C2,T2,V2⟩:=q;refine Er (Pr S2 C2 (V1.step T2) V2 h) λl items lo hi e1 e2 e3 e4 e5 e6=>?_;exact yV l items lo hi e1 e2 e3 e4 e5 (e6.trans (T1.trans T2))
end
set_option tactic.hygienic false
theorem BQ(γ:Gh)(a:Addr)(g g':Option G):iZ (iZ γ a g) a g'=iZ γ a g':=by
 funext x;by_cases h:x=a<;>simp[iZ,h]
noncomputable def pairV(q:Str×V):V:=.tup [.str q.1,q.2]
noncomputable def vO(b:Addr)(i n ep:Nat)(ok ov:Value):Obj:={cls:=.type "dict_itemiterator",dict:=none,data:=.fields #[.none,.bool false,.ref b,.int i 0,.int n 0,.int ep 0,ok,ov],slots:=#[]}
noncomputable def s8(x left:Int):Obj:={cls:=.type "range_iterator",dict:=none,data:=.fields #[rawInt x,rawInt left,rawInt 1],slots:=#[]}
inductive ItK(γ:Gh)(it:Addr)(vs:List V)(i:Nat)(target:Expr):Prop
 |list {o:Obj} {l:Addr}:γ it=some (.raw o)->o.cls=.type "list_iterator"->o.data=.fields #[.ref l,.int i 0]->γ l=some (.lst vs)->ItK γ it vs i target
 |items {b:Addr} {d:List (Str×V)} {ob:Obj} {es:Array DictEntry} {ep:Nat} {ok ov:Value} {elts:List Expr} {x1:Nat} {pos:Pos}:γ it=some (.raw (vO b i d.length ep ok ov))->γ b=some (.dct d ob)->ob.data=.dict es ep->
   vs=d.map pairV->target=.Tuple elts x1 pos->ItK γ it vs i target
 |range {lo:Int} {n:Nat}:γ it=some (.raw (s8 (lo+i) ((n:Int)-i)))->vs=eK lo n->ItK γ it vs i target
section
variable{prog:Program}{w:World}{s₀ s s':Shared}{γ bP:Gh}{ad dU:List Addr}{cs cW:Cs}{A:Around}{d:Nat}{cf:cO}{v:V}{u:Value}{envM:Env}{sc:Scope}{env:Ev}{r:Rec}{it:Addr}{vs:List V}{i:Nat}{target:Expr}
theorem r7:∀(n:Nat) (lo:Int) (i:Nat),(eK lo n)[i]?=if i<n then some (.int (lo+i))else none
 |0,_,_=>by simp[eK]
 |n+1,lo,0=>by simp[eK]
 |n+1,lo,i+1=>by
  rw[eK];rw[List.getElem?_cons_succ,r7 n (lo+1) i];by_cases h:i<n
  ·rw[if_pos h,if_pos (by lia)];congr 2;push_cast;lia
  ·rw[if_neg h,if_neg (by lia)]
theorem ItK.raw(h:ItK γ it vs i target):∃o,γ it=some (.raw o):=by induction h using ItK.casesOn<;>exact⟨_,by assumption⟩
theorem ItK.step{X:List Addr}(h:ItK γ it vs i target)(x:Step X γ bP ad dU)(h1:it∉ad)(h2:it∉X):ItK bP it vs i target:=by
 induction h using ItK.casesOn with
 |list a b c d=>exact .list (x.raw _ _ a h1 h2) b c (x.ext _ _ d rfl)
 |items a b c d e=>exact .items (x.raw _ _ a h1 h2) (x.ext _ _ b rfl) c d e
 |range a b=>exact .range (x.raw _ _ a h1 h2) b
theorem St.swap{a:Addr}{o o':Obj}(x:St w s₀ γ s)(e:γ a=some (.raw o))(k:∀b o,b≠a->s.heap.get? b=some o->s'.heap.get? b=some o)(ho:s'.heap.get? a=some o')(hg:autoParam (s'.gens=s.gens) au)(hos:autoParam (s'.os=s.os) au):
  St w s₀ (iZ γ a (some (.raw o'))) s':=by
 have lo:=x.ok.lo _ _ e rfl;have G:=(x.ok.kill e k).adopt (a:=a) (o:=o') lo (λg q=>by rw[bK]at q;refine e9 q ?_;rfl) (λb t dx q=>by
  by_cases hb:b=a
  ·clear lo ho k e;subst hb;rw[bK]at q;cases q
  ·rw[cN hb]at q;exact λz=>by have:=(x.ok.dlo _ _ _ q).2;rw[z,e]at this;cases this) ho
 rw[BQ]at G;exact⟨λc oc q=>k c oc (λz=>by rw[<-z]at lo;exact absurd (aZ (Heap.lt_size q) lo) (i7 _)) (x.keep c oc q),bD (aP lo (Heap.lt_size ho)),G,hg.trans x.gens,hos.trans x.os⟩
inductive PI(w:World)(s₀:Shared)(γ:Gh)(ad:List Addr)(it:Addr)(vs:List V)(i:Nat)(target:Expr)(x:V)(u:Value)(s':Shared):Prop
 |mk (bP:Gh):St w s₀ bP s'->Step [it] γ bP ad ad->ItK bP it vs (i+1) target->VR bP [] x u->PI w s₀ γ ad it vs i target x u s'
theorem Pu(hS:St w s₀ γ s)(h:ItK γ it vs i target){x:V}(hx:vs[i]?=some x):
  wpAny (model prog w) A (pyNext (.ref it)) (λr bZ=>∃u,r=some u/\wpAny (model prog w) A (letOwnedTupleGo target (.ref it) u) (λ_ cZ=>PI w s₀ γ ad it vs i target x u cZ) fW bZ) fW s:=by
 induction h using ItK.casesOn with
 |@list o l a b c e=>
  refine nJ (hS.ok.at_ _ _ e) λol h1 h2 vv n h3 h4=>?_;obtain⟨ux,e1,e2⟩:=h4.get hx;refine wpAny_pyNext_list_item ⟨o,hS.raw a,b,c⟩ (mY h1 h2 h3) (by simpa using e1) λh' hi hs=>⟨ux,rfl,letGo_listiter hi ?_⟩
  refine l6 (hi) λo' p1 p2 p3=>?_;have T:Step [it] γ (iZ γ it (some (.raw o'))) ad ad:=gW (.raw o') ad a (.inr (by simp))
  refine⟨_,hS.set a hs p1,T,.list (bK ..) p2 p3 (T.ext _ _ e rfl),e2.mono T.ext λi a e=>by simp at e⟩
 |@items b m ob es ep ok ov elts x1 pos a e c hv ht=>
  subst hv ht;refine B3 (hS.ok.at_ _ _ e) λh1 h2 es' n' h3 h4 h5=>?_;rw[c]at h3;cases h3;refine l6 (vN (prog:=prog) h4) λkvs k1 k2 k3=>?_;have hD:s.heap.DictAt (PySem.strKind prog w) b kvs ep:=⟨ob,es,h1,h2,c,λe he=>k3 e (iT.mpr he),k1,by rw[<-vM k2];exact h5⟩
  have eW:m.length=kvs.length:=k2.length;clear k3 k1 h4 h5 h2 h1;rw[List.getElem?_map]at hx;refine eV hx ?_;clear hx;intro q hq hrfl;subst hrfl;refine l6 (k2.get hq) λkv hkv r1 r2=>?_;have hit:IsItemIter s.heap it b i kvs.length ep ok ov:=eW▸hS.raw a;refine wpAny_pyNext_items_item hit hD (k:=kv.1) (v:=kv.2) hkv λkey h' hk hi hT hz hkp=>⟨_,rfl,wpAny_letOwnedTupleGo_items (s:={s with heap:=h'}) hi λh'' hi' hs=>?_⟩
  obtain⟨t,rfl⟩:=Value.isStrOf_shape hk;have il:it<s.heap.objs.size:=Heap.lt_size (hS.raw a);have S1:=hS.swap (s':={s with heap:=h''}) a (λb o hb e=>(hs.2 b hb).trans (hkp b o hb e)) hi'
  have T1:Step [it] γ (iZ γ it (some (.raw (vO b (i+1) kvs.length ep (.str kv.1 t) kv.2)))) ad ad:=gW _ ad a (.inr (by simp))
  have f5:s.heap.objs.size≠it:=sI il;have hf:dX (iZ γ it (some (.raw (vO b (i+1) kvs.length ep (.str kv.1 t) kv.2)))) s.heap.objs.size:=λg q=>by rw[cN f5]at q;exact hS.free g q
  have G2:=S1.ok.adopt (a:=s.heap.objs.size) (o:={cls:=.type "tuple",data:=.seq #[.str kv.1 t,kv.2]}) hS.size hf (λx t' dx e=>by
   by_cases hb:x=it
   ·clear hf f5 T1 S1 il hi' hi hs hkp hit a;subst hb;rw[bK]at e;cases e
   ·rw[cN hb]at e;exact eU (hS.ok.dlt e)) ((hs.2 _ f5).trans hT)
  have T2:=d6 (X:=[it]) (.raw {cls:=.type "tuple",data:=.seq #[.str kv.1 t,kv.2]}) ad hf;have S2:St w s₀ _ _:=⟨S1.keep,S1.size,G2,S1.gens,S1.os⟩;have T12:=T1.trans T2;have S3:=S2.tell (g:=.tup [.str q.1,q.2]) (bK ..) (by intro _ _ z;cases z) ⟨_,S2.raw (bK ..),rfl,_,0,rfl,.cons (by rw[r1];exact .str ..) (.cons (r2.mono T12.ext λi a e=>by simp at e) .nil)⟩
  rw[BQ]at S3;have T3:=d6 (X:=[it]) (.tup [.str q.1,q.2]) ad hf;have T13:=T1.trans T3;refine⟨_,S3,T13,.items (by rw[cN (Ne.symm f5),bK,eW];rfl) (T13.ext _ _ e rfl) c rfl rfl,.tup (bK ..)⟩
 |@range lo n a hv=>
  subst hv;rw[r7]at hx;by_cases hin:i<n
  ·rw[if_pos hin]at hx;refine e9 hx ?_;refine wpAny_pyNext_range_item (x:=lo+i) (left:=(n:Int)-i) (step:=1) (hS.raw a) (by lia) λh' hi hs=>⟨_,rfl,?_⟩
   have T:Step [it] γ (iZ γ it (some (.raw (s8 (lo+i+1) ((n:Int)-i-1))))) ad ad:=gW _ ad a (.inr (by simp))
   have fin:PI w s₀ γ ad it (eK lo n) i target (.int (lo+i)) (.int (lo+i) s.toks) {s with heap:=h',toks:=s.toks+1}:=by
    refine⟨_,hS.set (s':={s with heap:=h',toks:=s.toks+1}) a hs hi,T,.range ?_ rfl,.int ..⟩
    rw[show lo+((i+1:Nat):Int)=lo+i+1 by push_cast;lia,show(n:Int)-((i+1:Nat):Int)=n-i-1 by push_cast;lia,bK];rfl
   unfold letOwnedTupleGo;induction target using PySem.Expr.casesOn<;>exact wpAny_pure fin
  ·rw[if_neg hin]at hx;exact aY hx
theorem MF(hh:A.handled=none)(hS:St w s₀ γ s)(h:ItK γ it vs i target)(hx:vs[i]?=none){b:Addr}{ob:Obj}(eb:γ b=some (.raw ob))(hb:b≠it):
  wpAny (model prog w) A (pyNext (.ref it)) (λr bZ=>r=none/\St w s₀ (iZ γ it (some .dead)) bZ) fW s:=by
 induction h using ItK.casesOn with
 |@list o l a q c e=>
  refine nJ (hS.ok.at_ _ _ e) λol h1 h2 vv n h3 h4=>?_;have eW:=h4.length;have hle:=List.getElem?_eq_none_iff.mp hx;exact wpAny_pyNext_list_end hh ⟨o,hS.raw a,q,c⟩ (mY h1 h2 h3) (by simp;simp at eW;lia) λh' he=>⟨rfl,hS.kill a eb hb λb o hb e=>he b o hb e⟩
 |@items b m ob es ep ok ov elts x1 pos a e c hv ht=>
  subst hv ht;refine B3 (hS.ok.at_ _ _ e) λh1 h2 es' n' h3 h4 h5=>?_;rw[c]at h3;cases h3;refine l6 (vN (prog:=prog) h4) λkvs k1 k2 k3=>?_;have hD:s.heap.DictAt (PySem.strKind prog w) b kvs ep:=⟨ob,es,h1,h2,c,λe he=>k3 e (iT.mpr he),k1,by rw[<-vM k2];exact h5⟩
  have eW:m.length=kvs.length:=k2.length;have hle:=List.getElem?_eq_none_iff.mp hx;rw[aT]at hle;have hit:IsItemIter s.heap it b i kvs.length ep ok ov:=eW▸hS.raw a;exact wpAny_pyNext_items_end hh hit hD (List.getElem?_eq_none_iff.mpr (by lia)) λh' he=>⟨rfl,hS.kill a eb hb λb o hb e=>he b o hb e⟩
 |@range lo n a hv=>
  subst hv;rw[r7]at hx;by_cases hin:i<n
  ·rw[if_pos hin]at hx;cases hx
  ·exact wpAny_pyNext_range_end (x:=lo+i) (left:=(n:Int)-i) (step:=1) hh (hS.raw a) (by lia) λh' he=>⟨rfl,hS.kill a eb hb λb o hb e=>he b o hb e⟩
end
set_option tactic.hygienic true
theorem Rh{i j:Nat}{v:V}{env env':Ev}(h:n9 [i,j] v env=some env'):∃a b,v=.tup [a,b]/\env'=fO j b (fO i a env):=by
 refine vTE (show Ez none v (λl=>AL none l λa b=>some (fO j b (fO i a env)))=some env' from h) nS λl e h=>OC h nS λa b e2 h=>⟨a,b,by rw[e,e2],(aC h).symm⟩
section
variable{prog:Program}{w:World}{s₀ s s':Shared}{γ bP:Gh}{ad dU:List Addr}{cs cW:Cs}{A:Around}{d:Nat}{cf:cO}{v:V}{u:Value}{envM:Env}{sc dA:Scope}{env env':Ev}{r:Rec}
theorem FmOk.locRaw(hF:FmOk γ ad envM env):∃o,γ envM.locals=some (.raw o):=by obtain⟨o,_,e,_⟩:=hF.loc;exact jE o e
theorem FmOk.weaken(hF:FmOk γ ad envM env')(h:∀i v,dZ i env=some v->dZ i env'=some v):FmOk γ ad envM env:=by
 refine fM (hF.loc) λo m h1 h2 h3=>?_;refine⟨⟨o,m,h1,h2,λx i v a b c=>h3 x i v a (h i v b) c⟩,λx c q=>?_,hF.nLoc,hF.nCel,hF.inj⟩;refine fM (hF.cel x c q) λo cv a1 a2 a3=>?_;exact nM o cv a1 a2 (λi v e1 e2=>a3 i v e1 (h i v e2))
inductive PS(w:World)(s₀:Shared)(γ:Gh)(ad:List Addr)(X:List Addr)(envM:Env)(env':Ev)(s':Shared):Prop
 |mk (bP:Gh):St w s₀ bP s'->Step X γ bP [] []->FmOk bP ad envM env'->PS w s₀ γ ad X envM env' s'
theorem jF(hE:EnvOk envM sc)(hS:St w s₀ γ s)(hF:FmOk γ ad envM env){x:Str}{i:Nat}(hl:envM.kindOf x=some .local)(hv:mS x=some i)(hx:VR γ ad v u):
  wpAny (model prog w) A (storeName envM x u) (λ_ s'=>PS w s₀ γ ad [envM.locals] envM (fO i v env) s') fW s:=by
 refine fM (hF.loc) λo m h1 h2 h3=>?_;refine wpAny_storeName_local hl (h2.ns (hS.raw h1)) (λh' hn hs=>?_) (by rw[hE.kind];rfl)
 obtain⟨o',e',hN'⟩:=Dz.of hn;have T0:Step [envM.locals] γ (iZ γ envM.locals (some (.raw o'))) [] []:=gW (.raw o') [] h1 (.inr (by simp))
 have T:=T0.calledX ad;refine⟨_,hS.set (s':={s with heap:=h',toks:=s.toks+1}) h1 hs e',T0,⟨o',_,bK ..,hN',λy j v' a b c=>?_⟩,λy c q=>?_,hF.nLoc,hF.nCel,hF.inj⟩
 ·rw[jB]at b;by_cases hj:j=i
  ·subst hj;rw[if_pos rfl]at b;obtain rfl:=aC b;have:=rW a hv;clear hv hN' hn hl;subst this;exact kF u (if_pos rfl) (hx.step T)
  ·rw[if_neg hj]at b;obtain⟨u',e1,e2⟩:=h3 y j v' a b c;refine kF u' ?_ (e2.step T);rw[if_neg (λz=>hj (by subst z;rw[hv]at a;exact(aC a).symm))];exact e1
 ·refine fM (hF.cel y c q) λoc cv a1 a2 a3=>?_;refine nM oc cv ((cN (hF.nCel y c q).2).trans a1) a2 (λj v' a b kk=>?_);rw[jB]at b;by_cases hj:j=i
  ·clear b;subst hj;have:=rW a hv;clear hv hN' hn;subst this;rcases kk with kk|kk<;>(rw[hl]at kk;cases kk)
  ·rw[if_neg hj]at b;obtain⟨u',e1,e2⟩:=a3 j v' a b kk;exact kF u' e1 (e2.step T)
theorem tU{l:List (Str×Addr)}{x:Str}{c:Addr}(h:l.lookup x=some c):c∈l.map (·.2):=bR.mpr ⟨_,mem_of_lookup h,rfl⟩
theorem EM(hE:EnvOk envM sc)(hS:St w s₀ γ s)(hF:FmOk γ ad envM env){x:Str}{i:Nat}(hl:envM.kindOf x=some .cell)(hv:mS x=some i)(hx:VR γ ad v u){c:Addr}(hc:envM.cells.lookup x=some c):
  wpAny (model prog w) A (storeName envM x u) (λ_ s'=>PS w s₀ γ ad [c] envM (fO i v env) s') fW s:=by
 refine fM (hF.cel x c hc) λoc cv a1 a2 a3=>?_;refine wpAny_storeName_cell hE.kind hl hc ⟨oc,hS.raw a1,a2⟩ λh' hn hs=>?_;obtain⟨o',e',hN'⟩:=hn;have T0:Step [c] γ (iZ γ c (some (.raw o'))) [] []:=gW (.raw o') [] a1 (.inr (by simp))
 have T:=T0.calledX ad;refine fM (hF.loc) λol m h1 h2 h3=>?_;have f5:=(hF.nCel x c hc).2;refine⟨_,hS.set (s':={s with heap:=h'}) a1 hs e',T0,⟨ol,m,(cN (Ne.symm f5)).trans h1,h2,λy j v' a b kk=>?_⟩,λy c' q=>?_,hF.nLoc,hF.nCel,hF.inj⟩
 ·rw[jB]at b;by_cases hj:j=i
  ·clear b;subst hj;have:=rW a hv;clear hv a3 hc;subst this;rw[hl]at kk;cases kk
  ·rw[if_neg hj]at b;obtain⟨u',e1,e2⟩:=h3 y j v' a b kk;exact kF u' e1 (e2.step T)
 ·by_cases hcc:c'=c
  ·clear f5 T0 e' hs a1;subst hcc;have:=hF.inj _ _ _ q hc;clear hc a3 hl;subst this;refine nM o' _ (bK ..) hN' (λj v' a b kk=>?_);clear kk;rw[hv]at a;obtain rfl:=aC a;rw[jB,if_pos rfl]at b;obtain rfl:=aC b;exact kF u rfl (hx.step T)
  ·refine fM (hF.cel y c' q) λoc cv a1 a2 a3=>?_;refine nM oc cv ((cN hcc).trans a1) a2 (λj v' a b kk=>?_);rw[jB]at b;by_cases hj:j=i
   ·clear b;subst hj;have:=rW a hv;clear hv hl;subst this;clear a3 kk a a2;rw[hc]at q;clear a1;obtain rfl:=aC q;exact absurd rfl hcc
   ·rw[if_neg hj]at b;obtain⟨u',e1,e2⟩:=a3 j v' a b kk;exact kF u' e1 (e2.step T)
theorem eG(hE:EnvOk envM sc){x:Str}(h:cJ x sc.names=some .local):envM.kindOf x=some .local:=by
 rcases hE.names x _ h with q|⟨q,_⟩
 ·exact q
 ·cases q
theorem AZ(hh:A.handled=none)(hE:EnvOk envM sc)(hS:St w s₀ γ s)(hF:FmOk γ ad envM env){target:Expr}{t:List Nat}{x:V}{u:Value}(hT:ErT sc target t)(hb:n9 t x env=some env')(hx:VR γ [] x u):
  wpAny (model prog w) A (assign target envM u) (λ_ s'=>PS w s₀ γ ad [envM.locals] envM env' s') fW s:=by
 cases hT with
 |nil=>exact aY hb
 |one h1 h2=>
  obtain rfl:=aC hb;exact wpAny_assign_Name (jF hE hS hF (eG hE h1) h2 (hx.up ad))
 |@two x y p q rr k i j h1 h2 f5 h3 h4=>
  refine kY (Rh hb) λa b zr2 zr3=>?_;subst zr2;subst zr3;refine hx.tupI λta et=>?_;refine nJ (hS.ok.at_ _ _ et) λo e1 e2 vs n e3 e4=>?_;obtain⟨vs⟩:=vs;cases e4 with
  |@cons _ ua _ _ ra e4=>
   cases e4 with
   |@cons _ ub _ _ rb e4=>
    cases e4;obtain⟨ol,hol⟩:=hF.locRaw;refine assign_Tuple_tuple hh ⟨o,e1,e2,n,e3⟩ rfl rfl λh' he=>?_;have S1:=hS.grow' (s':={s with heap:=h'}) hol λb o e=>he b o (eU (Heap.lt_size e)) e
    show wpAny _ _ (do holding [ub] (assign (.Name x p) envM ua);(do holding [] (assign (.Name y q) envM ub);pure ())) _ _ _
    refine bF (wpAny_holding (aD (wpAny_assign_Name (jF hE S1 hF (eG hE h1) h3 (ra.up ad))) (λ_ bZ z=>?_) λ_ _ z=>z));obtain⟨aU,S2,T2,F2⟩:=z;refine bF (wpAny_holding (aD (wpAny_assign_Name (jF hE S2 F2 (eG hE h2) h4 ((rb.up ad).step (T2.calledX ad)))) (λ_ cZ z=>?_) λ_ _ z=>z));obtain⟨cL,S3,T3,F3⟩:=z;exact wpAny_pure ⟨cL,S3,T2.trans T3,F3⟩
theorem EN(hS:St w s₀ γ s)(hC:CsOk w γ ad cs){target:Expr}{t:List Nat}{v:V}{u:Value}{l:List V}(hT:ErT sc target t)(hv:VR γ ad v u)(h:j5 t v cs=some (l,cW)):
  wpAny (model prog w) A (pyIter u) (λitv s'=>∃it bP,itv=.ref it/\St w s₀ bP s'/\CsOk w bP ad cW/\Step [] γ bP ad ad/\dX γ it/\it∉ad/\ItK bP it l 0 target/\l.length<=1000) fW s:=by
 refine bH h ?_;clear h;intro p h1 h;obtain⟨p1,p2⟩:=p;refine n8 (rH hS hC hv h1) λaU S1 C1 T1 V1=>?_;have hf1:=S1.free;have hf:=hS.free;dsimp only at h V1 C1;refine vLC h (λh=>vtE h nS λm em h=>dJ h λhz h=>fF hz λz1 z2=>?_) λl' el h=>dJ h λhz h=>?_
 rotate_left
 ·obtain⟨e1,e2⟩:=Prod.mk.inj (aC h);clear h;rw[el,e1]at V1;clear h;rw[e1]at hz;rw[e2]at C1;clear h e1 e2 el h1 hv hT;refine V1.lstI λa e=>?_;refine nJ (S1.ok.at_ _ _ e) λo e1 e2 vs n e3 e4=>?_;refine wpAny_pyIter_list (mY e1 e2 e3) ⟨_,_,rfl,S1.alloc (s':={s with heap:=s.heap.push {cls:=.type "list_iterator",data:=.fields #[.ref a,.int 0 0]}}) _ rfl,C1.alloc hf1,T1.trans (d6 _ ad hf1),hf,hC.notIn hf,.list (bK ..) rfl rfl ?_,aX hz⟩
  exact(cN (hf1.ne e (by intro z;cases z))).trans e
 ·obtain⟨e1,e2⟩:=Prod.mk.inj (aC h);rw[em]at V1;rw[e2]at C1;rw[<-e1];clear h e1 e2 em h1 hv hz;refine V1.ditI λa e=>?_;refine kY (S1.ok.at_ _ _ e) λb ob e1 e2=>?_;refine B3 (S1.ok.at_ _ _ e2) λe3 e4 es ep e5 e6 e7=>?_;refine l6 (vN (prog:=prog) e6) λkvs k1 k2 k3=>?_;have hD:s.heap.DictAt (PySem.strKind prog w) b kvs ep:=⟨ob,es,e3,e4,e5,λe he=>k3 e (iT.mpr he),k1,by rw[<-vM k2];exact e7⟩
  have eW:m.length=kvs.length:=k2.length;have ht:∃elts x1 pos,target=.Tuple elts x1 pos:=by
   cases hT with
   |one _ _=>exact bX z2
   |two _ _ _ _ _=>exact jEEE _ _ _ rfl
   |nil=>exact bX z2
  clear hT;refine oEEE (ht) λelts x1 pos zr3=>?_;subst zr3;refine wpAny_pyIter_items e1 hD ⟨_,_,rfl,S1.alloc (s':={s with heap:=s.heap.push (vO b 0 kvs.length ep .none .none)}) (vO b 0 kvs.length ep .none .none) rfl,C1.alloc hf1,T1.trans (d6 _ ad hf1),hf,hC.notIn hf,
   .items (by rw[bK,eW]) ((cN (hf1.ne e2 (by intro z;cases z))).trans e2) e5 rfl rfl,by rw[aT];exact aX z1⟩
end
set_option tactic.hygienic false
def rK(w:World)(γ:Gh)(c8:Addr)(c:V):Prop:=∃o,γ c8=some (.raw o)/\uO w γ o c/\o.dict=none
theorem rK.step{w:World}{X:List Addr}{γ bP:Gh}{ad dU:List Addr}{c8:Addr}{c:V}(h:rK w γ c8 c)(x:Step X γ bP ad dU)(h1:c8∉ad)(h2:c8∉X):rK w bP c8 c:=
 let⟨o,a,b,e⟩:=h;⟨o,x.raw _ _ a h1 h2,b.mono x.ext,e⟩
theorem Step.out{X:List Addr}{γ bP:Gh}{ad dU:List Addr}(x:Step X γ bP ad dU){a:Addr}{o:Obj}(e:γ a=some (.raw o))(h1:a∉ad)(h2:a∉X):a∉dU:=by
 refine i8 (x.pre) λm q hm=>?_;intro z;rw[q]at z;rcases b7.mp z with z|z
 ·exact h1 z
 ·exact(hm a z).elim (gL e) h2
noncomputable def tE(em:Sem Unit)(ag:Sem Fin)(ok:Bool):Sem Fin:=if ok then em>>=λ_=>ag else ag
noncomputable def tI(ifs:List Expr)(cenv:Env):Sem Bool:=forIn ifs true (λc r=>if r=true then do let ok<-isTrue c cenv (eval c cenv);pure (ForInStep.yield ok)else pure (ForInStep.yield r))
def tD(g:Comprehension)(em:Sem Unit)(cenv:Env)(ag:Sem Fin)(v:Value):Sem Fin:=assign g.target cenv v>>=λ_=>tI g.ifs cenv>>=tE em ag
def tS(g:Comprehension)(em:Sem Unit)(cenv:Env)(itv:Value)(ag:Sem Fin):Option Value->Sem Fin
 |none=>pure (.done .next)
 |some v=>letOwnedTupleGo g.target itv v>>=λ_=>tD g em cenv ag v
def BR(e:Expr)(depth:Nat)(g:Comprehension)(em:Sem Unit)(c8:Value)(cenv:Env):Prop:=∀itv,compTurn e depth itv c8 cenv=(standAt g.iter.pos>>=λ_=>pyNext itv>>=tS g em cenv itv (again (.compLoop e depth itv c8 cenv)))
def Pv(e:Expr)(depth:Nat)(g:Comprehension)(em:Sem Unit)(c8:Value)(cenv:Env):Prop:=∀itv,compTurn e depth itv c8 cenv=(do
   standAt g.iter.pos
   match<-pyNext itv with
   |none=>pure (.done .next)
   |some v=>
    letOwnedTupleGo g.target itv v
    assign g.target cenv v
    let mut ok:=true
    for c in g.ifs do
     if ok then ok<-isTrue c cenv (eval c cenv)
    if ok then em
    again (.compLoop e depth itv c8 cenv))
theorem Pw{e:Expr}{depth:Nat}{g:Comprehension}{em:Sem Unit}{c8:Value}{cenv:Env}(h:Pv e depth g em c8 cenv):BR e depth g em c8 cenv:=λitv=>(h itv).trans rfl
section
variable{prog:Program}{w:World}{s₀ s s':Shared}{γ bP:Gh}{ad dU:List Addr}{cs cW:Cs}{A:Around}{d:Nat}{cf:cO}{v:V}{u:Value}{envM cenv:Env}{sc dA:Scope}{env env':Ev}{r:Rec}{c8 it:Addr}{av:List V->V}
theorem zS{α:Type}{t:Sem α}{k:Value->Sem Unit}{Q:α->Shared->Prop}{E:Value->Shared->Prop}(h:wpAny (model prog w) A t Q fW s):wpAny (model prog w) A (t.onRaise k) Q E s:=
 wpAny_onRaise (aD h (λ_ _ z=>z) λ_ _ z=>z.elim)
def Ja(prog:Program)(w:World)(s₀:Shared)(A:Around)(cenv:Env)(c8:Addr)(av:List V->V)(N m:Nat)(em:Sem Unit)(k:Ev->Cs->Option (List V×Cs))(env:Ev):Prop:=
 ∀s γ ad env' cs outs res cW,St w s₀ γ s->CsOk w γ ad cs->FmOk γ ad cenv env'->(∀i v,dZ i env=some v->dZ i env'=some v)->rK w γ c8 (av outs)->c8∉ad->outs.length<=N->k env' cs=some (res,cW)->
  res.length<=m/\wpAny (model prog w) A em (λ_ s'=>∃bP dU,St w s₀ bP s'/\CsOk w bP dU cW/\Step [c8,cenv.locals] γ bP ad dU/\FmOk bP dU cenv env'/\rK w bP c8 (av (outs++res))/\c8∉dU) fW s
theorem zT{cenv:Env}:∀(ifs:List Expr),(forIn ifs false (λc r=>if r=true then do let ok<-isTrue c cenv (eval c cenv);pure (ForInStep.yield ok)else pure (ForInStep.yield r)):Sem Bool)=pure false
 |[]=>rfl
 |c::r=>by
  rw[List.forIn_cons];simp only[Bool.false_eq_true,if_false,pure_bind];exact zT r
theorem MG{f:Expr->X}:∀{ifs:List Expr},(∀c∈ifs,rU prog w s₀ A cenv c (λenv cs=>r.ts (f c) env cs))->∀{s:Shared} {γ:Gh} {ad:List Addr} {env:Ev} {cs cW:Cs} {b:Bool},St w s₀ γ s->CsOk w γ ad cs->FmOk γ ad cenv env->Mc r env (ifs.map f) cs=some (b,cW)->
  wpAny (model prog w) A (forIn ifs true (λc r=>if r=true then do let ok<-isTrue c cenv (eval c cenv);pure (ForInStep.yield ok)else pure (ForInStep.yield r)):Sem Bool) (PT w s₀ γ ad b cW) fW s:=by
 intro ifs;induction ifs with
 |nil=>
  intro _ s γ ad env cs cW b hS hC hF h;refine kX h ?_;exact wpAny_pure ⟨rfl,γ,ad,hS,hC,.refl γ ad⟩
 |cons c rest ih=>
  intro he s γ ad env cs cW b hS hC hF h;refine bH h ?_;clear h;intro x h1 h;rw[List.forIn_cons];simp only[if_true];refine bF (bF (aD (he c aE s γ ad env _ _ _ hS hC hF h1) (λok bZ q=>wpAny_pure ?_) λ_ _ z=>z));obtain⟨rfl,aU,bN,S1,C1,T1⟩:=q;show wpAny _ _ (forIn rest x.1 _) _ _ _;induction hx:x.1 using Bool.casesOn with
  |true=>
   rw[hx]at h;exact aD (ih (λe' m=>he e' (aI _ m)) S1 C1 (hF.step T1) h) (λ_ _ z=>z.trans T1) λ_ _ z=>z
  |false=>
   rw[hx]at h;cases h;rw[zT];exact wpAny_pure ⟨rfl,aU,bN,S1,C1,T1⟩
theorem Ba{l:List V}{i:Nat}{x:V}(h:l[i]?=some x):l.drop i=x::l.drop (i+1):=by
 obtain⟨hi,rfl⟩:=List.getElem?_eq_some_iff.mp h;exact List.drop_eq_getElem_cons hi
theorem Jb{t:List Nat}{x:V}(h:n9 t x env=some env')(hf:fresh t env=true):∀i v,dZ i env=some v->dZ i env'=some v:=by
 have hf:=(aL.mp hf).2;have f5:∀i∈t,∀j v,dZ j env=some v->j≠i:=λi hi j v e z=>by
  subst z;have:=aW.mp hf j hi;rw[e]at this;exact bX this
 intro j v e;clear hf;clear hf;refine It (Q:=λz=>z=some env'->dZ j env'=some v) (λh=>OC h nS λi k z h=>?_) (λi z h=>?_) (show xD (AL none t λi j=>Ez none x λl=>AL none l λa b=>some (fO j b (fO i a env))) t (λi=>some (fO i x env))=some env' from h)
 rotate_left
 ·subst z;refine e9 h ?_;rw[jB,if_neg (f5 i (by simp) j v e)];exact e
 ·subst z;refine kY (Rh h) λa b zr2 zr3=>?_;subst zr2;subst zr3;rw[jB,if_neg (f5 k (by simp) j v e),jB,if_neg (f5 i (by simp) j v e)];exact e
inductive CQ(w:World)(s₀:Shared)(γ:Gh)(ad X:List Addr)(cenv:Env)(env:Ev)(c8:Addr)(c:V)(csF:Cs)(p:Prop)(rr:Result)(s':Shared):Prop
 |mk (hr:rr=.ok .next) (hp:p) (bP:Gh) (dU:List Addr) (S:St w s₀ bP s') (C:CsOk w bP dU csF) (T:Step X γ bP ad dU) (F:FmOk bP dU cenv env) (A:rK w bP c8 c) (a:c8∉dU)
structure CI(w:World)(s₀:Shared)(γ:Gh)(ad:List Addr)(cenv:Env)(env:Ev)(it c8:Addr)(av:List V->V)(vs:List V)(tg:Expr)(m:Nat)(outs res:List V)(tn:List V->Cs->Option (List V×Cs))(csF:Cs)(bP:Gh)(dU:List Addr)(cW:Cs)(outs':List V)(i:Nat)(rest:List V)(s':Shared):Prop where
 hi:i<=vs.length
 S:St w s₀ bP s'
 C:CsOk w bP dU cW
 T:Step [it,c8,cenv.locals] γ bP ad dU
 F:FmOk bP dU cenv env
 A:rK w bP c8 (av outs')
 a:c8∉dU
 n:it∉dU
 I:ItK bP it vs i tg
 l:outs'.length<=outs.length+i*m
 h:tn (vs.drop i) cW=some (rest,csF)
 e:outs++res=outs'++rest
inductive CN(P:Gh->List Addr->Cs->List V->Nat->List V->Shared->Prop)(k:Nat)(n:Nat)(s':Shared):Prop
 |mk (bP:Gh) (dU:List Addr) (cW:Cs) (outs':List V) (i:Nat) (rest:List V) (hn:n=k-i) (h:P bP dU cW outs' i rest s')
def CP(c:Code)(R:Result->Shared->Prop)(I:Nat->Shared->Prop)(n:Nat)(fin:Fin)(s':Shared):Prop:=match fin with
 |.done f=>R (.ok f) s'
 |.again c'=>c'=c/\∃m,m<n/\I m s'
theorem Px{c:Code}{R:Result->Shared->Prop}{I:Nat->Shared->Prop}{n:Nat}{M:Model}{E:Value->Shared->Prop}(h:R (.ok .next) s):wpAny M A (pure (.done .next)) (CP c R I n) E s:=wpAny_pure h
theorem D8{c:Code}{R:Result->Shared->Prop}{P:Gh->List Addr->Cs->List V->Nat->List V->Shared->Prop}{k i:Nat}{M:Model}{E:Value->Shared->Prop}{bP:Gh}{dU:List Addr}{cW:Cs}{outs' rest:List V}(hi:i<k)(h:P bP dU cW outs' (i+1) rest s):wpAny M A (again c) (CP c R (CN P k) (k-i)) E s:=
 wpAny_pure ⟨rfl,k-(i+1),Nat.sub_lt_sub_left hi (fL i),bP,dU,cW,outs',i+1,rest,rfl,h⟩
theorem to_Q{α:Type}{x:Sem α}{Q0:α->Shared->Prop}{M:Model}{E:Value->Shared->Prop}(h:∀Q:α->Shared->Prop,(∀u s',Q0 u s'->Q u s')->wpAny M A x Q E s):wpAny M A x Q0 E s:=h Q0 λ_ _ z=>z
theorem Ri{a b i m:Nat}(h:a<=b+i*m){c:Nat}(hc:c<=m):a+c<=b+(i+1)*m:=by rw[Nat.add_mul,Nat.one_mul];lia
theorem len_N{a b i m N k:Nat}(h:a<=b+i*m)(hi:i<=k)(hk:k<=1000)(hN:b+1000*m<=N):a<=N:=by
 have:=nV m (aR hi hk);lia
theorem Jc{g:Comprehension}{em:Sem Unit}{t:List Nat}{N m:Nat}{k:Ev->Cs->Option (List V×Cs)}{f:Expr->X}{vs res:List V}{outs:List V}{csF:Cs}
  (hh:A.handled=none)
  (hE:EnvOk cenv dA) (ht:ErT dA g.target t) (mQ:fresh t env=true) (hifs:∀c∈g.ifs,rU prog w s₀ A cenv c (λenv cs=>r.ts (f c) env cs)) (hem:Ja prog w s₀ A cenv c8 av N m em k env)
  (eW:vs.length<=1000) (hN:outs.length+1000*m<=N) (n1:it≠c8) (n2:it≠cenv.locals) (n3:c8≠cenv.locals) (n4:∀y c,cenv.cells.lookup y=some c->c≠it/\c≠c8/\c≠cenv.locals)
  {i:Nat} {rest outs₁:List V} {aU:Gh} {bN:List Addr} {kW:Cs} {cc:Code} (H:(CI w s₀ γ ad cenv env it c8 av vs g.target m outs res (λl cs=>dH r t (g.ifs.map f) env k l cs) csF) aU bN kW outs₁ i rest s):
  wpAny (model prog w) A (pyNext (.ref it)>>=tS g em cenv (.ref it) (again cc)) (CP cc (CQ w s₀ γ ad [it,c8,cenv.locals] cenv env c8 (av (outs++res)) csF (res.length<=1000*m)) (CN (CI w s₀ γ ad cenv env it c8 av vs g.target m outs res (λl cs=>dH r t (g.ifs.map f) env k l cs) csF) vs.length) (vs.length-i)) fW s:=by
 obtain⟨hile,S1,C1,T1,F1,A1,a1,i1,I1,l1,h1,e1⟩:=H;refine to_Q λQQ kQ=>?_;refine bF ?_;by_cases hlt:i<vs.length
 ·have hx:vs[i]?=some vs[i]:=List.getElem?_eq_getElem hlt;rw[Ba hx]at h1;refine bH h1 ?_;clear h1;intro env' h2 h1;refine bH h1 ?_;clear h1;intro tb h3 h1;refine bH h1 ?_;clear h1;intro q h4 h1;refine eV h1 ?_;clear h1;intro z h5 h1;obtain⟨rfl,rfl⟩:=Prod.mk.inj h1;have hlk:=Jb h2 mQ;refine aD (Pu (ad:=[]) S1 I1 hx) (λrr cZ q₂=>?_) λ_ _ z=>z;obtain⟨ux,rfl,q₂⟩:=q₂;refine bF (aD q₂ (λ_ lT q₃=>?_) λ_ _ z=>z);obtain⟨cL,S2,T2,I2,V2⟩:=q₃;have T2':=T2.calledX bN;have F2:=F1.stepX T2' (by simpa using Ne.symm n2) (λy c e=>by simpa using (n4 y c e).1)
  refine bF (aD (AZ hh hE S2 F2 ht h2 V2) (λ_ s₄ q₄=>?_) λ_ _ z=>z);obtain⟨iY,S3,T3,F3⟩:=q₄;have T3':=T3.calledX bN;have C3:=(C1.calledX T2 λa h=>by rw[aN.mp h];exact i1).calledX T3 λa h=>by rw[aN.mp h];exact F2.nLoc
  have A3:=(A1.step T2' a1 (by simpa using Ne.symm n1)).step T3' a1 (by simpa using n3)
  have I3:=I2.step T3' i1 (by simpa using n2)
  refine bF (aD (MG hifs S3 C3 F3 h3) (λok s₅ q₅=>?_) λ_ _ z=>z);obtain⟨rfl,γ₄,ad₄,S4,C4,T4⟩:=q₅;have F4:=F3.step T4;have A4:=A3.step T4 a1 (by simp)
  have I4:=I3.step T4 i1 (by simp)
  refine i8 (A3) λo3 r3 _=>?_;have a4:=T4.out r3 a1 (by simp)
  obtain⟨oi,ri⟩:=I3.raw;have i4:=T4.out ri i1 (by simp)
  have T14:Step [it,c8,cenv.locals] γ γ₄ ad ad₄:=((T1.trans (T2'.widen (by simp))).trans (T3'.widen (by simp))).trans (T4.widen (by simp))
  clear T1 T2 T2' T3 T3' T4 F1 F2 F3 A1 I1 I2 I3 C1 C3 S1 S2 S3 V2;obtain⟨tb1,cs₅⟩:=tb;induction tb1 using Bool.casesOn with
  |true=>
   obtain⟨lq,wq⟩:=hem s₅ γ₄ ad₄ env' _ outs₁ _ _ S4 C4 F4 hlk A4 a4 (len_N l1 hile eW hN) h4;refine bF (aD wq (λ_ s₆ q₆=>?_) λ_ _ z=>z);refine JY (q₆) λγ₅ ad₅ S5 C5 T5 F5 A5 a5=>?_;obtain⟨o4,r4⟩:=I4.raw;have nn:it∉[c8,cenv.locals]:=by simp[n1,n2]
   refine aD (D8 hlt ⟨hlt,S5,C5,T14.trans (T5.widen (by simp)),F5.weaken hlk,A5,a5,T5.out r4 i4 nn,I4.step T5 i4 nn,by rw[bU];exact Ri l1 lq,h5,by rw[e1,dT]⟩) kQ λ_ _ z=>z
  |false=>
   have h4:=aC h4;clear h1;subst h4;refine aD (D8 hlt ⟨hlt,S4,C4,T14,F4.weaken hlk,A4,a4,i4,I4,Ri l1 (d3 m),h5,e1⟩) kQ λ_ _ z=>z
 ·have hx:vs[i]?=none:=List.getElem?_eq_none_iff.mpr (lR.mp hlt);rw[List.drop_eq_nil_of_le (lR.mp hlt)]at h1;obtain⟨rfl,rfl⟩:=Prod.mk.inj (aC h1);obtain⟨oc,hoc⟩:=F1.locRaw;refine aD (MF hh S1 I1 hx hoc (Ne.symm n2)) (λrr cZ q₂=>?_) λ_ _ z=>z;obtain⟨rfl,S2⟩:=q₂;obtain⟨o1,r1⟩:=I1.raw;have T2:Step [it] aU (iZ aU it (some .dead)) [] []:=tR [] r1 aE;have T2':=T2.calledX bN;have el:=congrArg List.length e1;rw[bU,bW]at el;clear r1 hoc h1;rw[bW]at e1;refine aD (Px ⟨rfl,aR (Nat.le_of_add_le_add_left (a:=outs.length) (el▸l1)) (nV m (aR hile eW)),_,bN,S2,C1.calledX T2 (λa h=>by rw[aN.mp h];exact i1),T1.trans (T2'.widen (by simp)),F1.stepX T2' (by simpa using Ne.symm n2) (λy c e=>by simpa using (n4 y c e).1),e1▸A1.step T2' a1 (by simpa using Ne.symm n1),a1⟩) kQ λ_ _ z=>z
theorem Bb{e:Expr}{depth:Nat}{g:Comprehension}{em:Sem Unit}{t:List Nat}{N m:Nat}{k:Ev->Cs->Option (List V×Cs)}{f:Expr->X}{vs res:List V}{outs:List V}{csF:Cs}
  (hh:A.handled=none) (hq:∀itv,(Code.compLoop e depth itv (.ref c8) cenv).quiet=true) (hA:∀itv,A.under (.compLoop e depth itv (.ref c8) cenv)=A)
  (hden:∀itv,∃h,(model prog w).den (.compLoop e depth itv (.ref c8) cenv)=(compTurn e depth itv (.ref c8) cenv).onRaise h) (hT:BR e depth g em (.ref c8) cenv)
  (hE:EnvOk cenv dA) (ht:ErT dA g.target t) (mQ:fresh t env=true) (hifs:∀c∈g.ifs,rU prog w s₀ A cenv c (λenv cs=>r.ts (f c) env cs)) (hem:Ja prog w s₀ A cenv c8 av N m em k env)
  (eW:vs.length<=1000) (hN:outs.length+1000*m<=N) (n1:it≠c8) (n2:it≠cenv.locals) (n3:c8≠cenv.locals) (n4:∀y c,cenv.cells.lookup y=some c->c≠it/\c≠c8/\c≠cenv.locals)
  (hS:St w s₀ γ s) (hC:CsOk w γ ad cs) (hF:FmOk γ ad cenv env) (hI:ItK γ it vs 0 g.target) (hAc:rK w γ c8 (av outs)) (hi:it∉ad) (ha:c8∉ad) (h:dH r t (g.ifs.map f) env k vs cs=some (res,csF)):
  codeAny (model prog w) A (.compLoop e depth (.ref it) (.ref c8) cenv) (CQ w s₀ γ ad [it,c8,cenv.locals] cenv env c8 (av (outs++res)) csF (res.length<=1000*m)) s:=by
 refine codeAny_loop (hq _) (CN (CI w s₀ γ ad cenv env it c8 av vs g.target m outs res (λl cs=>dH r t (g.ifs.map f) env k l cs) csF) vs.length) ?_ vs.length ⟨γ,ad,cs,outs,0,res,rfl,d3 _,hS,hC,.refl γ ad,hF,hAc,ha,hi,hI,by simp,h,rfl⟩
 rintro n s ⟨aU,bN,kW,outs₁,i,rest,rfl,H⟩;rw[hA];obtain⟨hd,hden⟩:=hden (.ref it);rw[hden];refine zS ?_;rw[hT];exact bF (wpAny_standAt (Jc hh hE ht mQ hifs hem eW hN n1 n2 n3 n4 H))
end
theorem zU:entryFor table "dict_itemiterator.__iter__"=some Builtin.«dict_keyiterator.__iter__»:=entryFor_alias (id':="dict_keyiterator.__iter__") (by kernel_rfl) rfl (by decide+kernel) (by kernel_rfl)
theorem lF{sc dA:Scope}{ts:List Str}:∀{l:List (Str×NameKind)},oY sc dA ts l=true->∀x k,(x,k)∈l->
  (k=.local->uE dA x=true/\(lE x OM||ts.any (lE x))=true)/\k≠.cell/\(k=.free->Mg sc x=true):=by
 intro l;induction l with
 |nil=>intro _ x k h;cases h
 |cons p r ih=>
  obtain⟨y,ky⟩:=p;intro h x k hm;have rest:oY sc dA ts r=true:=by
   clear hm;induction ky using PySem.NameKind.casesOn<;>first|exact h|(exact bX h;done)|exact(aL.mp h).2
  rcases a7.mp hm with e|hm
  ·cases e;induction ky using PySem.NameKind.casesOn with
   |«local»=>
    obtain⟨h1,_⟩:=aL.mp h;exact uA (λ_=>aL.mp h1) (by intro z;cases z) (by intro z;cases z)
   |cell=>exact bX h
   |free=>exact uA (by(intro z;cases z)) (by(intro z;cases z)) (λ_=>(aL.mp h).1)
   |_=>exact uA (by(intro z;cases z)) (by(intro z;cases z)) (by(intro z;cases z))
  ·exact ih rest x k hm
theorem zV{sc:Scope}{x:Str}(h:Mg sc x=true):cJ x sc.names=some .cell\/cJ x sc.names=some .free:=by
 exact(cP.mp h).elim (λh=>.inl (lN h)) λh=>.inr (lN h)
theorem m4{α:Type}{l:List (Str×α)}{x:Str}{k:α}(h:l.lookup x=some k):(x,k)∈l:=mX (by rw[f8];exact h)
theorem pH(env:Env)(x:Str):∀l:List (Str×NameKind),(l.map λ(n,k)=>if(k==NameKind.free&&env.scope.kind==.function&&env.kindOf n==some .cell)then(n,NameKind.cell)else(n,k)).lookup x=
  (l.lookup x).map λk=>if(k==NameKind.free&&env.scope.kind==.function&&env.kindOf x==some .cell)then NameKind.cell else k
 |[]=>rfl
 |(n,k)::r=>by
  rw[bO];induction hx:x==n using Bool.casesOn with
  |true=>
   have:=eq_of_beq hx;clear hx;subst this;simp only[f6,beq_self_eq_true,cU];by_cases hc:(k==NameKind.free&&env.scope.kind==.function&&env.kindOf x==some .cell)=true
   ·rw[if_pos hc,if_pos hc];simp
   ·rw[if_neg hc,if_neg hc];simp
  |false=>
   simp only[f6,hx];rw[<-pH env x r];by_cases hc:(k==NameKind.free&&env.scope.kind==.function&&env.kindOf n==some .cell)=true
   ·rw[if_pos hc];simp only[f6,hx]
   ·rw[if_neg hc];simp only[f6,hx]
theorem BS{env:Env}{F:Str×NameKind->List (Str×Addr)->Sem (ForInStep (List (Str×Addr)))}(hF:∀x k r,F (x,k) r=if(k==NameKind.free)=true then(do let a<-cellOf env x;pure (.yield ((x,a)::r)))else pure (.yield r)):
  ∀(names:List (Str×NameKind)) (c8:List (Str×Addr)),(∀x,(x,NameKind.free)∈names->∃c,env.cells.lookup x=some c)->
   ∃cl,(forIn names c8 F:Sem (List (Str×Addr)))=pure cl/\(∀x c,cl.lookup x=some c->c8.lookup x=some c\/env.cells.lookup x=some c)/\(∀x,(x,NameKind.free)∈names\/(c8.lookup x).isSome=true->(cl.lookup x).isSome=true)
 |[],c8,_=>⟨c8,rfl,λ_ _ h=>.inl h,λ_ h=>h.elim (by simp) id⟩
 |(n,k)::r,c8,h=>by
  rw[List.forIn_cons,hF];have hr:∀x,(x,NameKind.free)∈r->∃c,env.cells.lookup x=some c:=λx m=>h x (aI _ m);by_cases hk:k=.free
  ·subst hk;obtain⟨c,hc⟩:=h n aE;refine l6 (BS hF r ((n,c)::c8) hr) λcl e1 e2 e3=>?_;refine vA cl ?_ (λx c' q=>?_) (λx q=>?_)
   ·rw[show cellOf env n=pure c by unfold cellOf;rw[hc]]
    simp only[beq_self_eq_true,if_true];exact e1
   ·rcases e2 x c' q with z|z
    ·rw[f6]at z;induction hx:x==n using Bool.casesOn with
     |true=>rw[hx]at z;clear q;refine e9 z ?_;rw[eq_of_beq hx];exact .inr hc
     |false=>rw[hx]at z;exact .inl z
    ·exact .inr z
   ·refine e3 x ?_;rw[f6];induction hx:x==n using Bool.casesOn with
    |true=>exact .inr rfl
    |false=>
     refine q.imp (λm=>?_) id;rcases a7.mp m with z|z
     ·cases z;rw[beq_self_eq_true]at hx;exact jA hx
     ·exact z
  ·have:¬((k==NameKind.free)=true):=by simpa using hk
   rw[if_neg this];refine l6 (BS hF r c8 hr) λcl e1 e2 e3=>?_;refine vA cl e1 e2 (λx q=>e3 x (q.imp (λm=>?_) id));rcases a7.mp m with z|z
   ·clear m q this h;cases z;exact absurd rfl hk
   ·exact z
section
variable{prog:Program}{w:World}{s₀ s s':Shared}{γ bP:Gh}{ad dU:List Addr}{cs cW:Cs}{A:Around}{d:Nat}{cf:cO}{v:V}{u:Value}{envM cenv:Env}{sc dA:Scope}{env env':Ev}{r:Rec}{c8 it:Addr}{av:List V->V}{ts:List Str}
theorem BU(hE:EnvOk envM sc)(h:jT sc dA ts=true):∃cl,closureFor dA envM=pure cl/\(∀x c,cl.lookup x=some c->envM.cells.lookup x=some c)/\(∀x,(x,NameKind.free)∈dA.names->(cl.lookup x).isSome=true):=by
 have hn:=lF (aL.mp h).2;obtain⟨cl,e1,e2,e3⟩:=BS (env:=envM) (F:=λx r=>match x with|(name,kind)=>if(kind==NameKind.free)=true then(do let a<-cellOf envM name;pure (.yield ((name,a)::r)))else pure (.yield r)) (λ_ _ _=>rfl) dA.names [] (λx m=>by
  refine hE.cells x ?_;rcases zV ((hn x _ m).2.2 rfl)with q|q
  ·rcases hE.names x _ q with z|⟨z,_⟩
   ·exact .inl z
   ·cases z
  ·rcases hE.names x _ q with z|⟨_,z⟩
   ·exact .inr z
   ·exact .inl z)
 refine vA cl ?_ (λx c q=>(e2 x c q).elim (λz=>by simp at z) id) (λx m=>e3 x (.inl m))
 unfold closureFor;exact(congrArg (·>>=λcs=>pure cs) e1).trans rfl
theorem i0{cl:List (Str×Addr)}(C:Addr)(hE:EnvOk envM sc)(h:jT sc dA ts=true)(h2:∀x,(x,NameKind.free)∈dA.names->(cl.lookup x).isSome=true):EnvOk (compEnvC dA cl C envM) dA:=by
 have hn:=lF (aL.mp h).2;have hk:dA.kind=.function:=by
  exact Dx (aL.mp h).1
 have hko:∀x,(compEnvC dA cl C envM).kindOf x=(dA.names.lookup x).map λk=>if(k==NameKind.free&&envM.scope.kind==.function&&envM.kindOf x==some .cell)then NameKind.cell else k:=λx=>pH envM x dA.names;refine⟨hk,hE.globals,hE.builtins,λx k q=>?_,λx q=>?_⟩
 ·rw[hko,<-f8,q,cU];by_cases hc:(k==NameKind.free&&envM.scope.kind==.function&&envM.kindOf x==some .cell)=true
  ·rw[if_pos hc];simp only[a9,beq_iff_eq]at hc;exact .inr ⟨hc.1.1,rfl⟩
  ·rw[if_neg hc];exact .inl rfl
 ·rw[hko]at q;have:(x,NameKind.free)∈dA.names:=by
   induction hl:dA.names.lookup x using Option.casesOn with
   |none=>rw[hl]at q;rcases q with q|q<;>exact aY q
   |some k=>
    rw[hl,cU]at q;have hm:=m4 hl;by_cases hc:(k==NameKind.free&&envM.scope.kind==.function&&envM.kindOf x==some .cell)=true
    ·simp only[a9,beq_iff_eq]at hc;rw[<-hc.1.1];exact hm
    ·clear hl;rw[if_neg hc]at q;rcases q with q|q
     ·exact absurd (aC q) (hn x k hm).2.1
     ·rw[<-aC q];exact hm
  exact fE.mp (h2 x this)
theorem Py:mS OM=none:=by decide+kernel
theorem Pz{cl:List (Str×Addr)}{C:Addr}{o:Obj}(hE:EnvOk envM sc)(h:jT sc dA ts=true)(h1:∀x c,cl.lookup x=some c->envM.cells.lookup x=some c)(hts:∀x∈ts,∀i,mS x=some i->dZ i env=none)
  (hF:FmOk γ ad envM env) (hC:γ C=some (.raw o)) (hN:Dz o λ_=>none) (nC:C∉ad) (n2:∀y c,envM.cells.lookup y=some c->c≠C):FmOk γ ad (compEnvC dA cl C envM) env:=by
 have hn:=lF (aL.mp h).2;have hko:∀x,(compEnvC dA cl C envM).kindOf x=(dA.names.lookup x).map λk=>if(k==NameKind.free&&envM.scope.kind==.function&&envM.kindOf x==some .cell)then NameKind.cell else k:=λx=>pH envM x dA.names;refine⟨⟨o,_,hC,hN,λx i v' a b c=>?_⟩,λx c q=>?_,nC,λx c q=>⟨(hF.nCel x c (h1 x c q)).1,n2 x c (h1 x c q)⟩,λx y c q q'=>hF.inj x y c (h1 x c q) (h1 y c q')⟩
 ·exfalso;rw[hko]at c;induction hl:dA.names.lookup x using Option.casesOn with
  |none=>rw[hl]at c;exact aY c
  |some k=>
   rw[hl,cU]at c;have hm:=m4 hl;by_cases hc:(k==NameKind.free&&envM.scope.kind==.function&&envM.kindOf x==some .cell)=true
   ·clear hm hl;rw[if_pos hc]at c;cases c
   ·clear hl;rw[if_neg hc]at c;have:=((hn x k hm).1 (aC c)).2;rcases cP.mp this with z|z
    ·rw[fY z,Py]at a;exact aY a
    ·refine i8 (fJ.mp z) λy hy e=>?_;rw[<-fY e]at hy;rw[hts x hy i a]at b;exact aY b
 ·refine fM (hF.cel x c (h1 x c q)) λoc cv a1 a2 a3=>?_;refine nM oc cv a1 a2 (λi v' e1 e2 e3=>a3 i v' e1 e2 ?_);have:(x,NameKind.free)∈dA.names:=by
   rw[hko]at e3;induction hl:dA.names.lookup x using Option.casesOn with
   |none=>rw[hl]at e3;rcases e3 with q|q<;>exact aY q
   |some k=>
    rw[hl,cU]at e3;have hm:=m4 hl;by_cases hc:(k==NameKind.free&&envM.scope.kind==.function&&envM.kindOf x==some .cell)=true
    ·simp only[a9,beq_iff_eq]at hc;rw[<-hc.1.1];exact hm
    ·clear hl;rw[if_neg hc]at e3;rcases e3 with q|q
     ·exact absurd (aC q) (hn x k hm).2.1
     ·rw[<-aC q];exact hm
  rcases zV ((hn x _ this).2.2 rfl)with q|q
  ·rcases hE.names x _ q with z|⟨z,_⟩
   ·exact .inl z
   ·cases z
  ·rcases hE.names x _ q with z|⟨_,z⟩
   ·exact .inr z
   ·exact .inl z
theorem qC{target:Expr}{t:List Nat}(hT:ErT dA target t)(hf:fresh t env=true):∀x∈jS target,∀i,mS x=some i->dZ i env=none:=by
 obtain⟨h1,h2⟩:=aL.mp hf;have hall:∀i∈t,dZ i env=none:=λi hi=>by simpa using aW.mp h2 i hi
 cases hT with
 |nil=>exact bX h1
 |one a b=>
  intro x hx i e;have hx:=aN.mp hx;clear a;subst hx;rw[b]at e;refine e9 e ?_;exact hall _ (by simp)
 |two a b c e1 e2=>
  intro x hx i e;clear a;rcases a7.mp hx with rfl|hx
  ·clear hx c;rw[e1]at e;refine e9 e ?_;exact hall _ aE
  ·clear c b;obtain rfl:=aN.mp hx;rw[e2]at e;refine e9 e ?_;exact hall _ (aI _ aE)
theorem Gm{vs:List V}{i:Nat}{target:Expr}(hS:St w s₀ γ s)(h:ItK γ it vs i target){Q:Value->Shared->Prop}{E:Value->Shared->Prop}(q:Q (.ref it) s):wpAny (model prog w) A (pyIter (.ref it)) Q E s:=by
 induction h using ItK.casesOn with
 |list a b c e=>exact wpAny_pyIter_listiter ⟨_,hS.raw a,b,c⟩ q
 |items a b c e f=>
  have hT:s.TypeIs (.ref it) "dict_itemiterator":=⟨_,hS.raw a,rfl⟩;refine wpAny_pyIter_slot hT PySem.F.slot_dict_itemiterator_iter (wpAny_call_entry PySem.F.slot_dict_itemiterator_iter hT zU ?_ (PySem.F.args_dict_itemiterator_iter_1 _));show wpAny _ _ (ret (.ref it)) _ _ s;exact wpAny_pure ⟨_,rfl,"dict_itemiterator",_,hT,PySem.F.slot_dict_itemiterator_next.lookup,q⟩
 |range a b=>exact wpAny_pyIter_rangeiter (hS.raw a) q
end
theorem Step.more{X:List Addr}{γ bP:Gh}{ad dU:List Addr}{a:Addr}(x:Step X γ bP ad dU)(h:dX γ a):Step X γ bP ad (dU++[a]):=
 ⟨x.ext,x.raw,let⟨m,e,hm⟩:=x.pre;⟨m++[a],by rw[e,dT],λb hb=>(b7.mp hb).elim (hm b) λz=>by rw[aN.mp z];exact .inl h⟩,x.dom⟩
theorem CsOk.adopt{w:World}{γ:Gh}{ad:List Addr}{cs:Cs}{c8:Addr}{c:V}(h:CsOk w γ ad cs)(hA:rK w γ c8 c)(hg:∀o,∃g,Oq o c=some g)(ha:c8∉ad):CsOk w γ (ad++[c8]) (cs++[⟨false,c⟩]):=by
 refine l6 (hA) λo a b e=>?_;obtain⟨g,hg⟩:=hg o;refine⟨h.all.append (.cons ⟨o,g,hg,a,b,e⟩ .nil),?_⟩;rw[gI];refine uA h.nd (by simp) (λx hx y hy z=>?_)
 rw[aN]at hy;exact ha (by rw[<-hy,<-z];exact hx)
section
variable{prog:Program}{w:World}{s₀ s s':Shared}{γ bP:Gh}{ad dU:List Addr}{cs cW:Cs}{A:Around}{d:Nat}{cf:cO}{v:V}{u:Value}{envM cenv:Env}{sc dA:Scope}{env env':Ev}{r:Rec}{c8 it:Addr}{av:List V->V}{ts:List Str}
theorem wQ{e:Expr}{g:Comprehension}{newAcc:Sem Value}{cl:List (Str×Addr)}{t:List Nat}{N m:Nat}{k:Ev->Cs->Option (List V×Cs)}{f:Expr->X}{em:Addr->Addr->Sem Unit}{l res:List V}{csF:Cs}{RR:Value->Addr->Result->Shared->Prop}
  (hh:A.handled=none) (hE:EnvOk envM sc) (hck:jT sc dA ts=true) (hts:∀x∈ts,∀i,mS x=some i->dZ i env=none) (ht:ErT dA g.target t) (mQ:fresh t env=true)
  (hc1:∀x c,cl.lookup x=some c->envM.cells.lookup x=some c) (hc2:∀x,(x,NameKind.free)∈dA.names->(cl.lookup x).isSome=true)
  (hnew:∀s:Shared,wpAny (model prog w) A newAcc (λu s'=>∃o,u=.ref s.heap.objs.size/\s'={s with heap:=s.heap.push o}/\o.isFreed=false/\(∀γ,uO w γ o (av []))/\o.dict=none) fW s)
  (hstart:∀(it c8 C:Addr) (R:Result->Shared->Prop) (s:Shared),(∀{Q:Value->Shared->Prop} {E:Value->Shared->Prop},Q (.ref it) s->wpAny (model prog w) A (pyIter (.ref it)) Q E s)->codeAny (model prog w) A (.compLoop e 0 (.ref it) (.ref c8) (compEnvC dA cl C envM)) R s->codeAny (model prog w) A (.compStart e 0 (.ref it) (.ref c8) (compEnvC dA cl C envM)) R s)
  (hq:∀(c8 C:Addr) itv,(Code.compLoop e 0 itv (.ref c8) (compEnvC dA cl C envM)).quiet=true) (hA:∀(c8 C:Addr) itv,A.under (.compLoop e 0 itv (.ref c8) (compEnvC dA cl C envM))=A)
  (hden:∀(c8 C:Addr) itv,∃h,(model prog w).den (.compLoop e 0 itv (.ref c8) (compEnvC dA cl C envM))=(compTurn e 0 itv (.ref c8) (compEnvC dA cl C envM)).onRaise h) (hT:∀c8 C:Addr,BR e 0 g (em c8 C) (.ref c8) (compEnvC dA cl C envM))
  (hifs:∀C,∀c∈g.ifs,rU prog w s₀ A (compEnvC dA cl C envM) c (λenv cs=>r.ts (f c) env cs)) (hem:∀c8 C:Addr,c8≠C->(∀y c,cl.lookup y=some c->c≠c8/\c≠C)->Ja prog w s₀ A (compEnvC dA cl C envM) c8 av N m (em c8 C) k env) (hN:1000*m<=N)
  (hS:St w s₀ γ s) (hC:CsOk w γ ad cs) (hF:FmOk γ ad envM env) (hv:VR γ ad v u) (hsrc:j5 t v cs=some (l,cW)) (hturn:dH r t (g.ifs.map f) env k l cW=some (res,csF))
  (hpost:∀c8 C γF adF s',St w s₀ γF s'->CsOk w γF adF csF->Step [] γ γF ad adF->(∃o m,γF C=some (.raw o)/\Dz o m)->rK w γF c8 (av res)->c8∉adF->C∉adF->c8≠C->dX γ c8->dX γ C->FmOk γF adF envM env->res.length<=1000*m->RR (.ref c8) C (.ok .next) s'):
  wpAny (model prog w) A (pyIter u) (λit cZ=>wpAny (model prog w) A newAcc (λc8 lT=>wpAny (model prog w) A (newFunctionEnv dA envM.globals cl [] envM.qual none .none (some envM)) (λcenv s₄=>
   codeAny (model prog w) A (.compStart e 0 it c8 {cenv with scope:=relabel dA envM}) (RR c8 cenv.locals) s₄) fW lT) fW cZ) fW s:=by
 refine aD (EN hS hC ht hv hsrc) (λitv cZ q=>?_) λ_ _ z=>z;refine pD (q) λit aU zr2 S1 C1 T1 f1 i1 I1 hl=>?_;subst zr2;refine aD (hnew cZ) (λaccv lT q=>?_) λ_ _ z=>z;refine Ep (q) λo zr1 zr2 hfr' hob hdn=>?_;subst zr1;subst zr2;have f2:=S1.free;generalize hacc:cZ.heap.objs.size=c8 at f2⊢;have S2:=S1.alloc (s':={cZ with heap:=cZ.heap.push o}) o hfr'
 rw[hacc]at S2;have T2:Step [] aU (iZ aU c8 (some (.raw o))) ad ad:=d6 _ ad f2;have hnc:∀x∈dA.names,x.2≠.cell:=λx hx=>(lF (aL.mp hck).2 x.1 x.2 hx).2.1;have hk:dA.kind=.function:=(i0 (cl:=cl) 0 hE hck hc2).kind;refine wpAny_newFunctionEnv hnc (by intro y hy;simp at hy) (λh₁ hns hsb=>?_) hk
 dsimp only at hns hsb⊢;have f3:=S2.free;generalize hCC:(cZ.heap.push o).objs.size=C at hns hsb f3⊢;have hCC':({cZ with heap:=cZ.heap.push o}:Shared).heap.objs.size=C:=hCC
 refine i8 (Dz.of hns) λoC hoC hNC=>?_;have S3:=S2.alloc (s':={cZ with heap:=(cZ.heap.push o).push {cls:=.type "dict",data:=.dict #[]}}) {cls:=.type "dict",data:=.dict #[]} rfl
 rw[hCC']at S3;have S4:=S3.set (s':={cZ with heap:=h₁,toks:=cZ.toks+([]:List (Str×Value)).length}) (bK ..) hsb hoC
 rw[BQ]at S4;have T3:Step [] (iZ aU c8 (some (.raw o))) (iZ (iZ aU c8 (some (.raw o))) C (some (.raw oC))) ad ad:=d6 _ ad f3;have T13:=(T1.trans T2).trans T3;have fA:dX γ c8:=(T1.dom c8 f2).elim id (by simp)
 have fC:dX γ C:=((T1.trans T2).dom C f3).elim id (by simp)
 have nAC:c8≠C:=λz=>by clear fC T13 T3 S4 S3 hoC hCC' hsb hns hCC;subst z;exact gL (bK ..) f3
 obtain⟨oi,ri⟩:=I1.raw;have nIA:it≠c8:=λz=>by clear nAC fA T13 T3 S4 S3 f3 T2 S2 hacc;subst z;exact gL ri f2
 have nIC:it≠C:=λz=>by clear nAC fC T13 T3 S4 S3 hoC hCC' hsb hns hCC;subst z;exact gL ((cN nIA).trans ri) f3
 have F3:=hF.step T13;have cellne:∀a,dX γ a->∀y c,envM.cells.lookup y=some c->c≠a:=λa ha y c q=>by
  refine kY (hF.cel y c q) λoc _ e _=>?_;exact ha.ne e (by intro z;cases z)
 have nCad:C∉ad:=hC.notIn fC;have nAad:c8∉ad:=hC.notIn fA;have Fc:=Pz hE hck hc1 hts F3 (C:=C) (bK ..) hNC nCad (cellne C fC);have I3:=(I1.step T2 i1 (by simp)).step T3 i1 (by simp)
 have A3:rK w (iZ (iZ aU c8 (some (.raw o))) C (some (.raw oC))) c8 (av []):=⟨o,by rw[cN nAC,bK],hob _,hdn⟩
 have C3:=(C1.alloc f2 (g:=.raw o)).alloc f3 (g:=.raw oC);refine hstart it c8 C _ _ (λq=>Gm S4 I3 q) ?_;refine codeAny_mono (Bb (N:=N) (outs:=[]) (cenv:=compEnvC dA cl C envM) hh (hq c8 C) (hA c8 C) (hden c8 C) (hT c8 C) (i0 C hE hck hc2) ht mQ (hifs C) (hem c8 C nAC λy c q=>⟨cellne c8 fA y c (hc1 y c q),cellne C fC y c (hc1 y c q)⟩) hl (by simpa using hN) nIA nIC nAC
  (λy c q=>⟨cellne it f1 y c (hc1 y c q),cellne c8 fA y c (hc1 y c q),cellne C fC y c (hc1 y c q)⟩) S4 C3 Fc I3 A3 i1 nAad hturn) λrr s' q=>?_
 obtain⟨rfl,eW,γF,adF,S5,C5,T5,F5,A5,a5⟩:=q;have hX:∀a∈[it,c8,(compEnvC dA cl C envM).locals],dX γ a:=λa ha=>by
  simp only[a7,fK,or_false]at ha;clear F5 nCad hoC hCC' hsb hns hCC a5 A5 C3 A3 Fc nAad F3 nAC T13 T3 S4 S3 f3 T2 S2 f2 hacc T5 I3 nIC nIA ri I1 i1;rcases ha with rfl|rfl|rfl
  ·exact f1
  ·exact fA
  ·exact fC
 have T:=((T13.widen (by simp)).trans T5).narrow hX
 refine fM (F5.loc) λoF mF eF nF _=>?_;exact hpost c8 C γF adF s' S5 C5 T ⟨oF,mF,eF,nF⟩ (by simpa using A5) a5 F5.nLoc nAC fA fC (hF.step T) eW
theorem Jd{res:List V}{csF:Cs}{adF:List Addr}{γF:Gh}{c8 C:Addr}{Q:Value->Shared->Prop}(hg:∀o,∃g,Oq o (av res)=some g)(hS:St w s₀ γF s')(hC:CsOk w γF adF csF)(T:Step [] γ γF ad adF)(hr:∃o m,γF C=some (.raw o)/\Dz o m)(hA:rK w γF c8 (av res))(a1:c8∉adF)(c1:C∉adF)(n:c8≠C)
  (fA:dX γ c8) (fC:dX γ C) (q:∀s'',PE w s₀ γ ad (gT (av res) csF).1 (gT (av res) csF).2 (.ref c8) s''->Q (.ref c8) s''):compPost (model prog w) A fW none Q (.ref c8) C (.ok .next) s':=by
 refine kY (hr) λoC m eC nC=>?_;obtain⟨oA,eA,_⟩:=id hA;refine kF m (nC.ns (hS.raw eC)) (λh' hs=>q _ ?_);have T2:Step [C] γF (iZ γF C (some .dead)) [] []:=tR [] eC (by simp)
 have S2:=hS.kill (s':={s' with heap:=h'}) eC eA n λb o hb e=>(hs.2 b hb).trans e
 have C2:=hC.calledX T2 λa ha=>by rw[aN.mp ha];exact c1
 have A2:=hA.step (T2.calledX adF) a1 (by simpa using n)
 have T3:=((T.widen (by simp)).trans (T2.calledX adF)).narrow (λa ha=>by rw[aN.mp ha];exact fC)
 refine⟨_,adF++[c8],S2,C2.adopt A2 hg a1,T3.more fA,?_⟩;rw[Pe];have hl:adF.length=csF.length:=hC.all.length;exact .own (by rw[<-hl];simp)
end
theorem D9(k:Str)(v:V):∀m:List (Str×V),(lM k v m).length<=m.length+1
 |[]=>by simp[lM]
 |(x,y)::m=>by
  rw[lM];induction lE k x using Bool.casesOn with
  |true=>simp
  |false=>have:=D9 k v m;simp only[bG,bL];lia
theorem EO(d:List (Str×V))(x:V):(wH d x).length<=d.length+1:=by
 have z:d.length<=d.length+1:=tL _;exact vTQ (Q:=λz:List (Str×V)=>z.length<=d.length+1) z λl _=>OB (Q:=λz:List (Str×V)=>z.length<=d.length+1) z λk v _=>vSQ (Q:=λz:List (Str×V)=>z.length<=d.length+1) z λs _=>D9 s v d
theorem Je(l:List V):(uD l).length<=l.length:=by
 have:∀(l:List V) (d:List (Str×V)),(l.foldl wH d).length<=d.length+l.length:=by
  intro l;induction l with
  |nil=>intro d;simp
  |cons x r ih=>
   intro d;have:=ih (wH d x);have:=EO d x;rw[List.foldl_cons,bL];lia
 have:=this l [];rw[List.length_nil]at this;unfold uD;lia
theorem EP(l:List V)(s:Str)(v:V):uD (l++[.tup [.str s,v]])=lM s v (uD l):=by unfold uD;rw[List.foldl_append];rfl
theorem EQ{k v x:V}(h:E8 k v=some x):∃s t,k=.str s/\v=.node t/\x=.tup [.str s,.node t]:=by
 exact QW h nS λs e h=>vNE h nS λt e' h=>⟨s,t,e,e',(aC h).symm⟩
def dav(l:List V):V:=.dct (uD l)
section
variable{prog:Program}{w:World}{s₀ s s':Shared}{γ bP:Gh}{ad dU:List Addr}{cs cW:Cs}{A:Around}{d:Nat}{cf:cO}{v:V}{u:Value}{envM cenv:Env}{sc dA:Scope}{env env':Ev}{r:Rec}{c8 it:Addr}{av:List V->V}{ts:List Str}
theorem Gn{elt:Expr}{x:X}(he:e8 prog w s₀ A cenv elt (λenv cs=>r.ev x env cs))(n1:c8≠cenv.locals)(n2:∀y c,cenv.cells.lookup y=some c->c≠c8):
  Ja prog w s₀ A cenv c8 V.lst 2000000 1 (do let _<-call (.builtin "list.append") [.ref c8,<-eval elt cenv]) (fR r x) env:=by
 intro s γ ad env' cs outs res cW hS hC hF _ hA ha eW h;refine bH h ?_;clear h;intro y h1 h;refine eV h ?_;clear h;intro z h2 h;refine l8 h ?_;refine⟨by simp,bF (aD (he s γ ad env' cs _ _ hS hC hF h1) (λux bZ q=>bF ?_) λ_ _ z=>z)⟩
 obtain⟨aU,bN,S1,C1,T1,V1⟩:=q;refine n8 (rH S1 C1 V1 h2) λcL S2 C2 T2 V2=>?_;have T12:=T1.trans T2;have A2:=hA.step T12 ha (by simp)
 obtain⟨oa,ra,_⟩:=id hA;have a2:=T12.out ra ha (by simp)
 obtain⟨o,e1,⟨e2,vs,n,e3,e4⟩,e5⟩:=A2;have hl:=e4.length;have hvs:vs.size<=2000000:=by
  have:vs.size=vs.toList.length:=by simp
  lia
 refine list_append_plainL ⟨o,n,S2.raw e1,e2,e5,e3⟩ (λh' hP hs=>wpAny_pure ?_) (aR hvs (by decide))
 refine uI (hP) λo' n' p1 p2 p3 p4=>?_;have T3:Step [c8] cL (iZ cL c8 (some (.raw o'))) [] []:=gW _ [] e1 (.inr (by simp))
 refine⟨_,bN,S2.set (s':={bZ with heap:=h'}) e1 hs p1,C2.calledX T3 (λa h=>by rw[aN.mp h];exact a2),(T12.widen (by simp)).trans ((T3.calledX bN).widen (by simp)),(hF.step T12).stepX (T3.calledX bN) (by simpa using Ne.symm n1) (λy c q=>by simpa using n2 y c q),
  ⟨o',bK ..,⟨p2,vs.push ux,n',p4,by rw[Array.toList_push];exact(e4.mono λ_ _ z=>z.mono T3.ext λi a e=>by simp at e).append (.cons (V2.mono T3.ext λi a e=>by simp at e) .nil)⟩,p3⟩,a2⟩
theorem P0{ke ve:Expr}{x y:X}(hk:e8 prog w s₀ A cenv ke (λenv cs=>r.ev x env cs))(hv:e8 prog w s₀ A cenv ve (λenv cs=>r.ev y env cs))(n1:c8≠cenv.locals)(n2:∀y c,cenv.cells.lookup y=some c->c≠c8):
  Ja prog w s₀ A cenv c8 dav 2000000 1 (do
    let kv<-eval ke cenv
    let vv<-holding [kv] (eval ve cenv)
    standAt {ke.pos with endLine:=ve.pos.endLine,endCol:=ve.pos.endCol}
    holding [kv,vv] (dictSet c8 kv vv)) (uC r x y) env:=by
 intro s γ ad env' cs outs res cW hS hC hF _ hA ha eW h
 refine bH h ?_;clear h;intro p h1 h
 refine bH h ?_;clear h;intro q h2 h
 refine eV h ?_;clear h;intro x h3 h
 refine l8 h ?_
 refine fM (EQ h3) λks t e1 e2 zr4=>?_;subst zr4
 obtain⟨p1,p2⟩:=p
 obtain⟨q1,q2⟩:=q
 dsimp only at e1 e2 h1 h2
 subst e1 e2
 clear h3
 refine⟨by simp,bF (aD (hk s γ ad env' cs _ _ hS hC hF h1) (λux bZ q=>bF ?_) λ_ _ z=>z)⟩
 obtain⟨aU,bN,S1,C1,T1,V1⟩:=q
 refine wpAny_holding (aD (hv bZ aU bN env' _ _ _ S1 C1 (hF.step T1) h2) (λuy cZ q=>bF (wpAny_standAt (wpAny_holding ?_))) λ_ _ z=>z)
 obtain⟨cL,eS,S2,C2,T2,V2⟩:=q
 refine V1.strI λtk=>?_
 have T12:=T1.trans T2
 have A2:=hA.step T12 ha (by simp)
 refine i8 (id hA) λoa ra _=>?_
 have a2:=T12.out ra ha (by simp)
 refine l6 (A2) λo e1 e2 e5=>?_
 obtain⟨kvs,k1,k2⟩:=rI (prog:=prog) (S2.raw e1) e2
 have V2':VR cL [] (.node t) uy:=V2.down λi e=>by cases e
 have hl:kvs.length<=2000000:=by have:=k2.length;have:=Je outs;lia
 refine tN (id k1) λ_ _ _ _ _ _ _ _ hnd=>?_
 refine wpAny_dictSet_pairs (hsz:=aR hl (by decide)) (strKind_is prog w ks tk) k1 λh' hm hs=>?_
 refine l6 (xH hm (M6 k2 hnd ks V2')) λo' p1 p2 p3=>?_
 have T3:Step [c8] cL (iZ cL c8 (some (.raw o'))) [] []:=gW _ [] e1 (.inr (by simp))
 refine⟨_,eS,S2.set (s':={cZ with heap:=h',toks:=cZ.toks+1}) e1 hs p1,C2.calledX T3 (λa h=>by rw[aN.mp h];exact a2),(T12.widen (by simp)).trans ((T3.calledX eS).widen (by simp)),(hF.step T12).stepX (T3.calledX eS) (by simpa using Ne.symm n1) (λy c q=>by simpa using n2 y c q),
  ⟨o',bK ..,?_,p3⟩,a2⟩
 unfold dav
 rw[EP]
 exact p2.mono T3.ext
theorem vP{e:Expr}{depth:Nat}{itv accv:Value}{R:Result->Shared->Prop}{g:Comprehension}(hden:∃h,(model prog w).den (.compStart e depth itv accv cenv)=(compStart e depth itv accv cenv).onRaise h)(hA:A.under (.compStart e depth itv accv cenv)=A)
  (hq:(Code.compLoop e depth itv accv cenv).quiet=true) (hg:(clausesOf e)[depth]?=some g) (h0:g.is_async=0) (hself:∀{Q:Value->Shared->Prop} {E:Value->Shared->Prop},Q itv s->wpAny (model prog w) A (pyIter itv) Q E s)
  (h:codeAny (model prog w) A (.compLoop e depth itv accv cenv) R s):codeAny (model prog w) A (.compStart e depth itv accv cenv) R s:=by
 refine codeAny_of_tree ?_;obtain⟨k,hd⟩:=hden;rw[hA,hd];refine zS ?_;unfold compStart;simp only[hg,Option.elim_some,h0,bne_self_eq_false,Bool.false_eq_true,if_false];refine bF (wpAny_askSetting ?_);split
 ·exact wpAny_pure ⟨hq,h⟩
 ·exact bF (wpAny_rule (bF (wpAny_standAt (bF (hself (wpAny_pure ⟨hq,h⟩))))))
end
theorem s9{e:Expr}(h:gD e=true)(env:Env)(x:Value):foldedSetIterable e env x=pure x:=by
 induction e using PySem.Expr.casesOn<;>first|rfl|exact bX h
section
variable{prog:Program}{w:World}{s₀ s s':Shared}{γ bP:Gh}{ad dU:List Addr}{cs cW:Cs}{A:Around}{d:Nat}{cf:cO}{v:V}{u:Value}{envM cenv:Env}{sc dA:Scope}{env env':Ev}{r:Rec}{c8 it:Addr}{av:List V->V}{ts:List Str}
def kS(prog:Program)(w:World)(s₀:Shared)(A:Around)(r:Rec):Prop:=∀(n:Nat) (sc:Scope) (e:Expr) (envM:Env),EnvOk envM sc->e8 prog w s₀ A envM e (λenv cs=>r.ev (er n sc e) env cs)
def qD(prog:Program)(w:World)(s₀:Shared)(A:Around)(r:Rec):Prop:=∀(n:Nat) (sc:Scope) (e:Expr) (envM:Env),EnvOk envM sc->rU prog w s₀ A envM e (λenv cs=>r.ts (er n sc e) env cs)
theorem Step.shrink{X Y:List Addr}(x:Step X γ bP ad dU)(h:∀a∈X,dX γ a\/a∈Y):Step Y γ bP ad dU:=
 ⟨x.ext,λa o e h1 h2=>x.raw a o e h1 λz=>(h a z).elim (gL e) h2,let⟨m,e,hm⟩:=x.pre;⟨m,e,λa ha=>(hm a ha).elim .inl (h a)⟩,λa e=>(x.dom a e).elim .inl (h a)⟩
theorem Jf{t:List Nat}{ifs:List X}{k:Ev->Cs->Option (List V×Cs)}{m:Nat}(hk:∀env cs q,k env cs=some q->q.1.length<=m):∀{vs:List V} {cs:Cs} {z:List V×Cs},dH r t ifs env k vs cs=some z->z.1.length<=vs.length*m:=by
 intro vs;induction vs with
 |nil=>intro cs z h;refine kX h ?_;simp
 |cons v r ih=>
  intro cs z h;refine bH h λenv' _ h=>?_;refine bH h λp _ h=>?_;refine bH h λq h2 h=>?_;refine eV h λy h3 h=>?_;refine l8 h ?_;have l1:=ih h3;have l2:q.1.length<=m:=by
   induction hp:p.1 using Bool.casesOn with
   |true=>clear l1 h h3;rw[hp]at h2;exact hk _ _ _ h2
   |false=>clear l1;rw[hp]at h2;clear h h3;refine kX h2 ?_;simp
  rw[bU,bL,Nat.add_mul];lia
theorem MH{x:X}{env:Ev}{cs:Cs}{q:List V×Cs}(h:fR r x env cs=some q):q.1.length<=1:=by
 refine bH h λy _ h=>?_;refine eV h λz _ h=>?_;refine l8 h ?_;simp
theorem P1{t:List Nat}{v:V}{cs:Cs}{z:List V×Cs}(h:j5 t v cs=some z):z.1.length<=1000:=by
 refine bH h λp _ h=>vLC h (λh=>vtE h nS λm _ h=>dJ h λhz h=>?_) λl _ h=>dJ h λhz h=>?_
 ·rw[<-aC h,aT];exact aX (aL.mp hz).1
 ·rw[<-aC h];exact aX hz
theorem MI{elt t2 it2:Expr}{gg:Comprehension}{pos:Pos}{t:List Nat}{n:Nat}{N:Nat}(hh:A.handled=none)(IE:kS prog w s₀ A r)(hE:EnvOk cenv dA)(ht:ErT dA t2 t)(hns:gD it2=true)(n1:c8≠cenv.locals)(n2:∀y c,cenv.cells.lookup y=some c->c≠c8)
  (n3:∀y c,cenv.cells.lookup y=some c->c≠cenv.locals) (hN:N+1000<=2000000):
  Ja prog w s₀ A cenv c8 V.lst N 1000 (do
    let x<-eval it2 cenv
    standAt it2.pos
    let x<-foldedSetIterable it2 cenv x
    let _<-runOwn (.compStart (.ListComp elt [gg,⟨t2,it2,[],0⟩] dA pos) 1 (<-holding [x] (pyIter x)) (.ref c8) cenv) cenv) (uM r (er n dA elt) t (er n dA it2)) env:=by
 intro s γ ad env' cs outs res cW hS hC hF _ hA ha eW h
 unfold uM at h
 refine vG h λmQ h=>?_
 refine bH h λp h1 h=>?_
 refine bH h λl h2 h3=>?_
 have hl:=Jf (m:=1) (λ_ _ _ z=>MH z) h3
 have hs:=P1 h2
 refine⟨by simp only at hl;lia,bF (aD (IE n dA it2 cenv hE s γ ad env' cs _ _ hS hC hF h1) (λux bZ q=>bF (wpAny_standAt (bF (wpAny_of_eq (s9 hns _ _) (bF (wpAny_holding ?_)))))) λ_ _ z=>z)⟩
 obtain⟨aU,bN,S1,C1,T1,V1⟩:=q
 have F1:=hF.step T1
 have A1:=hA.step T1 ha (by simp)
 refine i8 (id hA) λoa ra _=>?_
 have a1:=T1.out ra ha (by simp)
 refine aD (EN S1 C1 ht V1 h2) (λitv cZ q=>?_) λ_ _ z=>z
 refine pD (q) λit cL zr2 S2 C2 T2 f2 i2 I2 l2=>?_;subst zr2
 have F2:=F1.step T2
 have A2:=A1.step T2 a1 (by simp)
 refine i8 (id A1) λoa1 ra1 _=>?_
 obtain⟨ol,rl⟩:=F1.locRaw
 have nIA:it≠c8:=(f2.ne ra1 (by intro z;cases z)).symm
 have nIL:it≠cenv.locals:=(f2.ne rl (by intro z;cases z)).symm
 have nC:∀y c,cenv.cells.lookup y=some c->c≠it/\c≠c8/\c≠cenv.locals:=λy c q=>by
  refine kY (F1.cel y c q) λoc _ e _=>?_
  exact uA (f2.ne e (by intro z;cases z)) (n2 y c q) (n3 y c q)
 refine bF (wpAny_runOwn (h:=none) (vP (g:=⟨t2,it2,[],0⟩) ⟨_,rfl⟩ rfl rfl rfl rfl (λq=>Gm S2 I2 q) ?_))
 have hT:BR (.ListComp elt [gg,⟨t2,it2,[],0⟩] dA pos) 1 ⟨t2,it2,[],0⟩ (do let _<-call (.builtin "list.append") [.ref c8,<-eval elt cenv]) (.ref c8) cenv:=λitv=>rfl
 refine codeAny_mono (Bb (f:=er n dA) (m:=1) (N:=2000000) (vs:=l.1) hh (λ_=>rfl) (λ_=>rfl) (λ_=>⟨_,rfl⟩) hT hE ht mQ (by intro c hc;cases hc) (Gn (IE n dA elt cenv hE) n1 n2) l2 (by lia) nIA nIL n1 nC S2 C2 F2 I2 A2 i2 a1 h3) λrr s' q=>?_
 obtain⟨rfl,_,γF,adF,S5,C5,T5,F5,A5,a5⟩:=q
 exact wpAny_pure ⟨γF,adF,S5,C5,(((T1.trans T2).widen (by simp)).trans T5).shrink (λa hm=>by
  simp only[a7,fK,or_false]at hm
  clear a5 A5 hT ra1 A2 a1 ra A1 ha hA n2 n1 T5 nC nIL nIA I2 i2;rcases hm with rfl|rfl|rfl
  ·exact .inl ((T1.dom _ f2).elim id (by simp))
  ·exact .inr (by simp)
  ·exact .inr (by simp)),F5,A5,a5⟩
theorem DA(s:Shared):wpAny (model prog w) A (newList []) (λu s'=>∃o,u=.ref s.heap.objs.size/\s'={s with heap:=s.heap.push o}/\o.isFreed=false/\(∀γ,uO w γ o (.lst []))/\o.dict=none) fW s:=
 wpAny_newList (hsz:=d3 _) ⟨_,rfl,rfl,rfl,λ_=>⟨rfl,#[],0,rfl,.nil⟩,rfl⟩
theorem MJ(s:Shared):wpAny (model prog w) A newDict (λu s'=>∃o,u=.ref s.heap.objs.size/\s'={s with heap:=s.heap.push o}/\o.isFreed=false/\(∀γ,uO w γ o (dav []))/\o.dict=none) fW s:=by
 simp only[newDict,newObj];exact bF (wpAny_alloc (wpAny_pure ⟨_,rfl,rfl,rfl,λ_=>⟨⟨rfl,rfl,rfl⟩,#[],0,rfl,.nil,.nil⟩,rfl⟩))
noncomputable abbrev Bc(w:World)(s₀:Shared)(aU:Gh)(bN:List Addr)(envM:Env)(env:Ev)(c:V)(csF:Cs)(RR:Value->Addr->Result->Shared->Prop):Prop:=
 ∀c8 C γF adF s',St w s₀ γF s'->CsOk w γF adF csF->Step [] aU γF bN adF->(∃o m,γF C=some (.raw o)/\Dz o m)->rK w γF c8 c->c8∉adF->C∉adF->c8≠C->dX aU c8->dX aU C->FmOk γF adF envM env->RR (.ref c8) C (.ok .next) s'
theorem wR(hck:jT sc dA ts=true):∀x∈dA.names,x.2=.local->dA.names.lookup x.1=some .local:=λx hx hl=>by
 rw[<-f8];exact nN ((lF (aL.mp hck).2 x.1 x.2 hx).1 hl).1
theorem Go{elt t1 lC:Expr}{ifs:List Expr}{pos p:Pos}{t:List Nat}{n:Nat}{use:Option (Value->Sem Unit)}{Q:Value->Shared->Prop}{x:V×Cs}{l res:List V}{csF:Cs}(hh:A.handled=none)(IE:kS prog w s₀ A r)(IT:qD prog w s₀ A r)(hE:EnvOk envM sc)
  (hck:jT sc dA (jS t1)=true) (hns:gD lC=true) (ht:ErT dA t1 t) (mQ:fresh t env=true) (hF:FmOk γ ad envM env)
  (h1:wpAny (model prog w) A (eval lC envM) (PE w s₀ γ ad x.1 x.2) fW s) (h2:j5 t x.1 x.2=some (l,cW)) (h3:dH r t (ifs.map (er n dA)) env (fR r (er n dA elt)) l cW=some (res,csF))
  (fin:∀aU bN,Step [] γ aU ad bN->Bc w s₀ aU bN envM env (.lst res) csF (λc8 C=>compPost (model prog w) A fW use Q c8 C)):
  wpAny (model prog w) A (comprehension (.ListComp elt [⟨t1,lC,ifs,0⟩] dA pos) dA envM p (newList []) false (eval lC envM) use) Q fW s:=by
 refine l6 (BU hE hck) λcl c1 c2 c3=>?_;refine wpAny_comprehension_free (g:=⟨t1,lC,ifs,0⟩) (gs:=[]) rfl (s9 hns envM) c1 (i0 (cl:=cl) 0 hE hck c3).kind (wR hck) (aD h1 (λlH bZ q=>?_) λ_ _ z=>z);obtain⟨aU,bN,S1,C1,T1,V1⟩:=q;exact wQ (g:=⟨t1,lC,ifs,0⟩) (av:=V.lst) (N:=2000000) (m:=1) (f:=er n dA) (em:=λc8 C=>(do let _<-call (.builtin "list.append") [.ref c8,<-eval elt (compEnvC dA cl C envM)])) hh hE hck (qC ht mQ) ht mQ c2 c3 DA
  (λit c8 C R s q h=>vP (g:=⟨t1,lC,ifs,0⟩) ⟨_,rfl⟩ rfl rfl rfl rfl q h) (λ_ _ _=>rfl) (λ_ _ _=>rfl) (λ_ _ _=>⟨_,rfl⟩) (λ_ _ _=>rfl)
  (λC c _=>IT n dA c _ (i0 C hE hck c3)) (λc8 C f5 hcn=>Gn (IE n dA elt _ (i0 C hE hck c3)) f5 λy c q=>(hcn y c q).1) (by decide) S1 C1 (hF.step T1) V1 h2 h3
  λc8 C γF adF s' a b c e f g h i j k m _=>fin aU bN T1 c8 C γF adF s' a b c e f g h i j k m
theorem MK{elt t1 lC:Expr}{ifs:List Expr}{pos p:Pos}{t:List Nat}{n:Nat}{use:Option (Value->Sem Unit)}{Q:Value->Shared->Prop}{x:V×Cs}{l res:List V}{csF:Cs}(hh:A.handled=none)(IE:kS prog w s₀ A r)(IT:qD prog w s₀ A r)(hE:EnvOk envM sc)
  (hck:jT sc dA (jS t1)=true) (hns:gD lC=true) (ht:ErT dA t1 t) (mQ:fresh t env=true) (hS:St w s₀ γ s) (hC:CsOk w γ ad cs) (hF:FmOk γ ad envM env)
  (h1:r.ev (er n sc lC) env cs=some x) (h2:j5 t x.1 x.2=some (l,cW)) (h3:dH r t (ifs.map (er n dA)) env (fR r (er n dA elt)) l cW=some (res,csF))
  (fin:∀aU bN,Step [] γ aU ad bN->Bc w s₀ aU bN envM env (.lst res) csF (λc8 C=>compPost (model prog w) A fW use Q c8 C)):
  wpAny (model prog w) A (comprehension (.ListComp elt [⟨t1,lC,ifs,0⟩] dA pos) dA envM p (newList []) false (eval lC envM) use) Q fW s:=
 Go hh IE IT hE hck hns ht mQ hF (IE n sc lC envM hE s γ ad env cs _ _ hS hC hF h1) h2 h3 fin
theorem ML{elt t1 lC t2 it2:Expr}{pos p:Pos}{t t':List Nat}{n:Nat}{use:Option (Value->Sem Unit)}{Q:Value->Shared->Prop}{x:V×Cs}{l res:List V}{csF:Cs}(hh:A.handled=none)(IE:kS prog w s₀ A r)(IT:qD prog w s₀ A r)(hE:EnvOk envM sc)
  (hck:jT sc dA (jS t1++jS t2)=true) (hns:gD lC=true) (hns2:gD it2=true) (ht:ErT dA t1 t) (ht2:ErT dA t2 t') (mQ:fresh t env=true) (hfr2:fresh t' env=true) (hS:St w s₀ γ s) (hC:CsOk w γ ad cs) (hF:FmOk γ ad envM env)
  (h1:r.ev (er n sc lC) env cs=some x) (h2:j5 t x.1 x.2=some (l,cW)) (h3:dH r t [] env (uM r (er n dA elt) t' (er n dA it2)) l cW=some (res,csF))
  (fin:∀aU bN,Step [] γ aU ad bN->Bc w s₀ aU bN envM env (.lst res) csF (λc8 C=>compPost (model prog w) A fW use Q c8 C)):
  wpAny (model prog w) A (comprehension (.ListComp elt [⟨t1,lC,[],0⟩,⟨t2,it2,[],0⟩] dA pos) dA envM p (newList []) false (eval lC envM) use) Q fW s:=by
 refine l6 (BU hE hck) λcl c1 c2 c3=>?_
 refine wpAny_comprehension_free (g:=⟨t1,lC,[],0⟩) (gs:=[⟨t2,it2,[],0⟩]) rfl (s9 hns envM) c1 (i0 (cl:=cl) 0 hE hck c3).kind (wR hck) (aD (IE n sc lC envM hE s γ ad env cs _ _ hS hC hF h1) (λlH bZ q=>?_) λ_ _ z=>z)
 obtain⟨aU,bN,S1,C1,T1,V1⟩:=q
 exact wQ (g:=⟨t1,lC,[],0⟩) (av:=V.lst) (N:=1000000) (m:=1000) (f:=er n dA) (em:=λc8 C=>(do
    let x<-eval it2 (compEnvC dA cl C envM)
    standAt it2.pos
    let x<-foldedSetIterable it2 (compEnvC dA cl C envM) x
    let _<-runOwn (.compStart (.ListComp elt [⟨t1,lC,[],0⟩,⟨t2,it2,[],0⟩] dA pos) 1 (<-holding [x] (pyIter x)) (.ref c8) (compEnvC dA cl C envM)) (compEnvC dA cl C envM))) hh hE hck
  (λx hx=>(b7.mp hx).elim (qC ht mQ x) (qC ht2 hfr2 x)) ht mQ c2 c3 DA
  (λit c8 C R s q h=>vP (g:=⟨t1,lC,[],0⟩) ⟨_,rfl⟩ rfl rfl rfl rfl q h) (λ_ _ _=>rfl) (λ_ _ _=>rfl) (λ_ _ _=>⟨_,rfl⟩) (λ_ _=>Pw λ_=>by simp only[bind_assoc,pure_bind];rfl)
  (λC c hc=>by cases hc) (λc8 C f5 hcn=>MI hh IE (i0 C hE hck c3) ht2 hns2 f5 (λy c q=>(hcn y c q).1) (λy c q=>(hcn y c q).2) (by decide)) (by decide) S1 C1 (hF.step T1) V1 h2 h3
  λc8 C γF adF s' a b c e f g h i j k m _=>fin aU bN T1 c8 C γF adF s' a b c e f g h i j k m
theorem Y7{ke ve t1 lC:Expr}{pos p:Pos}{t:List Nat}{n:Nat}{Q:Value->Shared->Prop}{x:V×Cs}{l res:List V}{csF:Cs}(hh:A.handled=none)(IE:kS prog w s₀ A r)(hE:EnvOk envM sc)
  (hck:jT sc dA (jS t1)=true) (hns:gD lC=true) (ht:ErT dA t1 t) (mQ:fresh t env=true) (hS:St w s₀ γ s) (hC:CsOk w γ ad cs) (hF:FmOk γ ad envM env)
  (h1:r.ev (er n sc lC) env cs=some x) (h2:j5 t x.1 x.2=some (l,cW)) (h3:dH r t [] env (uC r (er n dA ke) (er n dA ve)) l cW=some (res,csF))
  (fin:∀aU bN,Step [] γ aU ad bN->Bc w s₀ aU bN envM env (dav res) csF (λc8 C=>compPost (model prog w) A fW none Q c8 C)):
  wpAny (model prog w) A (comprehension (.DictComp ke ve [⟨t1,lC,[],0⟩] dA pos) dA envM p newDict false (eval lC envM)) Q fW s:=by
 refine l6 (BU hE hck) λcl c1 c2 c3=>?_
 refine wpAny_comprehension_free (g:=⟨t1,lC,[],0⟩) (gs:=[]) rfl (s9 hns envM) c1 (i0 (cl:=cl) 0 hE hck c3).kind (wR hck) (aD (IE n sc lC envM hE s γ ad env cs _ _ hS hC hF h1) (λlH bZ q=>?_) λ_ _ z=>z)
 obtain⟨aU,bN,S1,C1,T1,V1⟩:=q
 exact wQ (g:=⟨t1,lC,[],0⟩) (av:=dav) (N:=2000000) (m:=1) (f:=er n dA) (em:=λc8 C=>(do
    let kv<-eval ke (compEnvC dA cl C envM)
    let vv<-holding [kv] (eval ve (compEnvC dA cl C envM))
    standAt {ke.pos with endLine:=ve.pos.endLine,endCol:=ve.pos.endCol}
    holding [kv,vv] (dictSet c8 kv vv))) hh hE hck (qC ht mQ) ht mQ c2 c3 MJ
  (λit c8 C R s q h=>vP (g:=⟨t1,lC,[],0⟩) ⟨_,rfl⟩ rfl rfl rfl rfl q h) (λ_ _ _=>rfl) (λ_ _ _=>rfl) (λ_ _ _=>⟨_,rfl⟩) (λ_ _ _=>rfl)
  (λC c hc=>by cases hc) (λc8 C f5 hcn=>P0 (IE n dA ke _ (i0 C hE hck c3)) (IE n dA ve _ (i0 C hE hck c3)) f5 λy c q=>(hcn y c q).1) (by decide) S1 C1 (hF.step T1) V1 h2 h3
  λc8 C γF adF s' a b c e f g h i j k m _=>fin aU bN T1 c8 C γF adF s' a b c e f g h i j k m
end
set_option tactic.hygienic true
theorem MM{i u:Expr}(h:Mj i=some u):∃p,i=.Slice none (some u) none p:=sliE h nS λa b c p e h=>dJ h λhc h=>fF hc λc1 c2=>⟨p,by rw[e,fZ.mp c1,fZ.mp c2,h]⟩
theorem ER{o:Expr}(h:Mi o=true):∃x p,o=.Name x p:=Expr.Name.elim (motive_1:=λo=>∃x p,o=.Name x p) o (aA h) λx p=>⟨x,p,rfl⟩
section
variable{prog:Program}{w:World}{s₀ s s':Shared}{γ bP:Gh}{ad dU:List Addr}{cs cW:Cs}{A:Around}{d:Nat}{cf:cO}{v:V}{u:Value}{envM cenv:Env}{sc dA:Scope}{env env':Ev}{r:Rec}
theorem x9{c:V}{csF:Cs}(hg:∀o,∃g,Oq o c=some g)(hv:gT c csF=(v,cW)):∀aU bN,Step [] γ aU ad bN->Bc w s₀ aU bN envM env c csF (λc8 C=>compPost (model prog w) A fW none (PE w s₀ γ ad v cW) c8 C):=
 λaU bN T c8 C γF adF s' a b c' e f g h i j k _=>Jd (av:=λ_=>c) (res:=[]) hg a b c' e f g h i j k λs'' q=>by
  rw[hv]at q;exact q.trans T
theorem MN{elt t1 lC:Expr}{ifs:List Expr}{p:Pos}{n:Nat}(hh:A.handled=none)(IE:kS prog w s₀ A r)(IT:qD prog w s₀ A r)(hE:EnvOk envM sc)(hck:jT sc dA (jS t1)=true)(hns:gD lC=true):
  e8 prog w s₀ A envM (.ListComp elt [⟨t1,lC,ifs,0⟩] dA p) (λenv cs=>dI cf r (.comp (er n dA elt) (uF dA t1) (er n sc lC) (ifs.map (er n dA))) env cs):=λs γ ad env cs v cW hS hC hF h=>by
 replace h:(bif !fresh (uF dA t1) env then none else(r.ev (er n sc lC) env cs).bind λp=>(j5 (uF dA t1) p.1 p.2).bind λl=>(dH r (uF dA t1) (ifs.map (er n dA)) env (fR r (er n dA elt)) l.1 l.2).map λq=>gT (.lst q.1) q.2)=some (v,cW):=h;refine vG h ?_;clear h;intro mQ h;refine bH h ?_;clear h;intro x h1 h;refine bH h ?_;clear h;intro l h2 h;refine eV h ?_;clear h;intro q h3 h;rw[eval_ListComp];exact MK (use:=none) hh IE IT hE hck hns (qR _ _) mQ hS hC hF h1 h2 h3 (x9 (λo=>⟨_,rfl⟩) h)
theorem MO{elt t1 lC t2 it2:Expr}{p:Pos}{n:Nat}(hh:A.handled=none)(IE:kS prog w s₀ A r)(IT:qD prog w s₀ A r)(hE:EnvOk envM sc)(hck:jT sc dA (jS t1++jS t2)=true)(hns:gD lC=true)(hns2:gD it2=true):
  e8 prog w s₀ A envM (.ListComp elt [⟨t1,lC,[],0⟩,⟨t2,it2,[],0⟩] dA p) (λenv cs=>dI cf r (.comp2 (er n dA elt) (uF dA t1) (er n sc lC) (uF dA t2) (er n dA it2)) env cs):=λs γ ad env cs v cW hS hC hF h=>by
 replace h:(bif !(fresh (uF dA t1) env&&fresh (uF dA t2) env)then none else(r.ev (er n sc lC) env cs).bind λp=>(j5 (uF dA t1) p.1 p.2).bind λl=>(dH r (uF dA t1) [] env (uM r (er n dA elt) (uF dA t2) (er n dA it2)) l.1 l.2).map λq=>gT (.lst q.1) q.2)=some (v,cW):=h;refine vG h ?_;clear h;intro mQ h;obtain⟨f1,f2⟩:=aL.mp mQ;refine bH h ?_;clear h;intro x h1 h;refine bH h ?_;clear h;intro l h2 h;refine eV h ?_;clear h;intro q h3 h;rw[eval_ListComp];exact ML (use:=none) hh IE IT hE hck hns hns2 (qR _ _) (qR _ _) f1 f2 hS hC hF h1 h2 h3 (x9 (λo=>⟨_,rfl⟩) h)
theorem MP{ke ve t1 lC:Expr}{p:Pos}{n:Nat}(hh:A.handled=none)(IE:kS prog w s₀ A r)(hE:EnvOk envM sc)(hck:jT sc dA (jS t1)=true)(hns:gD lC=true):
  e8 prog w s₀ A envM (.DictComp ke ve [⟨t1,lC,[],0⟩] dA p) (λenv cs=>dI cf r (.dcomp (er n dA ke) (er n dA ve) (uF dA t1) (er n sc lC)) env cs):=λs γ ad env cs v cW hS hC hF h=>by
 replace h:(bif !fresh (uF dA t1) env then none else(r.ev (er n sc lC) env cs).bind λp=>(j5 (uF dA t1) p.1 p.2).bind λl=>(dH r (uF dA t1) [] env (uC r (er n dA ke) (er n dA ve)) l.1 l.2).map λq=>gT (.dct (uD q.1)) q.2)=some (v,cW):=h;refine vG h ?_;clear h;intro mQ h;refine bH h ?_;clear h;intro x h1 h;refine bH h ?_;clear h;intro l h2 h;refine eV h ?_;clear h;intro q h3 h;show wpAny _ _ (comprehension (.DictComp ke ve [⟨t1,lC,[],0⟩] dA p) dA envM (firstIterPos [⟨t1,lC,[],0⟩] p) newDict false (eval lC envM)) _ _ _;exact Y7 hh IE hE hck hns (qR _ _) mQ hS hC hF h1 h2 h3 (x9 (λo=>⟨_,rfl⟩) h)
theorem MQ(hB:Base w s₀)(hc:rD prog w s₀ d cf)(hR:Room A d 1)(IE:kS prog w s₀ A r)(IT:qD prog w s₀ A r)(n:Nat)(sc:Scope)(e:Expr)(envM:Env)(hE:EnvOk envM sc):EvX prog w s₀ A envM e cf r (er n sc e):=by
 induction n using Nat.casesOn with
 |zero=>exact fG
 |succ n=>
  have I:=λe=>IE n sc e envM hE;induction e using PySem.Expr.casesOn with
  |Name x p=>exact Pc hB hE
  |Constant c k p=>exact M2
  |BoolOp op es p=>
   induction op using PySem.BoolOp.casesOn with
   |Or=>exact fG
   |And=>exact OB fG λx y e=>e▸Pd (I x) (I y)
  |BinOp l op x p=>exact Yt hB hc (hR.le (d3 1)) (I l) (I x)
  |UnaryOp op x p=>
   induction op using PySem.UnaryOp.casesOn with
   |Not=>exact Y0 (I x)
   |USub=>exact Yv (I x)
   |_=>exact fG
  |IfExp t a b p=>exact Yw (IT n sc t envM hE) (I a) (I b)
  |Compare l ops xs p=>exact It fG λop e=>It fG λx e'=>bQ fG λhs=>e▸e'▸Yu hB hc (hR.le (d3 1)) hs (I l) (I x)
  |List es p=>exact bQ fG λhs=>Pf (λe _=>I e) hs
  |Tuple es k p=>exact bQ fG λhs=>M3 (λe _=>I e) hs
  |Dict ks vs p=>exact QO fG λe=>QO fG λe'=>e▸e'▸M4
  |Attribute o a p=>exact Ph hB hc hR (I o)
  |Subscript o i p=>
   refine oQ (bQ fG λhn=>Pq hn (I o) (I i)) λuu hu=>bQ fG λhn=>?_;obtain⟨q,rfl⟩:=MM hu;obtain⟨x,q',rfl⟩:=ER hn;exact Ps (I _) (I uu)
  |Call fn args kws p=>
   refine XV (OD fG λx q e=>bQ fG λc=>oQ fG λl hl=>fF c λc1 _=>?_) λo a ap e=>bQ fG λc=>oQ fG λm hm=>oQ fG λl hl=>fF c λc c4=>fF c λc c3=>fF c λc1 c2=>?_
   ·subst e;exact D6 hB hc (hR.le (d3 1)) (I _) (λe _=>I e) c1 hl (λk _=>I k.value)
   ·subst e;exact Po hB hc (hR.le (d3 1)) (I o) (λe _=>I e) (λk _=>I k.value) c1 c2 hl (aA c3) (aX c4) hm
  |ListComp elt gens dA p=>
   refine It (OB fG λg h e=>bQ fG λc=>?_) λg e=>bQ fG λc=>?_
   ·obtain⟨t1,lC,ifs,a⟩:=g;obtain⟨t2,it2,ifs2,b⟩:=h;simp only[a9,decide_eq_true_eq,eI]at c;obtain⟨⟨⟨⟨⟨⟨rfl,rfl⟩,rfl⟩,rfl⟩,h2⟩,h3⟩,h4⟩:=c;subst e;exact MO hR.hand IE IT hE h2 h3 h4
   ·obtain⟨t1,lC,ifs,a⟩:=g;simp only[a9,decide_eq_true_eq]at c;obtain⟨⟨rfl,h2⟩,h3⟩:=c;subst e;exact MN hR.hand IE IT hE h2 h3
  |DictComp k v gens dA p=>
   refine It fG λg e=>bQ fG λc=>?_;obtain⟨t1,lC,ifs,a⟩:=g;simp only[a9,decide_eq_true_eq,eI]at c;obtain⟨⟨⟨rfl,rfl⟩,h2⟩,h3⟩:=c;subst e;exact MP hR.hand IE hE h2 h3
  |_=>exact fG
def EtX(prog:Program)(w:World)(s₀:Shared)(A:Around)(envM:Env)(e:Expr)(cf:cO)(r:Rec)(z:X):Prop:=EvX prog w s₀ A envM e cf r z->BO prog w s₀ A envM e cf r z
theorem Y8(hB:Base w s₀)(hc:rD prog w s₀ d cf)(hR:Room A d 1)(IE:kS prog w s₀ A r)(IT:qD prog w s₀ A r)(n:Nat)(sc:Scope)(e:Expr)(envM:Env)(hE:EnvOk envM sc):BO prog w s₀ A envM e cf r (er n sc e):=by
 have ev:=MQ hB hc hR IE IT n sc e envM hE;induction n using Nat.casesOn with
 |zero=>exact fH
 |succ n=>
  have bad:∀{e:Expr},EtX prog w s₀ A envM e cf r .bad:=λ_=>fH;induction e using PySem.Expr.casesOn with
  |Name x p=>exact(show EtX prog w s₀ A envM (.Name x p) cf r (BB sc x)from cQ (λ_=>oQ bad λ_ _ ev=>BP (λ_=>rfl) ev rfl rfl) (bQ bad λ_=>oQ (oQ bad λ_ _ _=>fH) λ_ _ _=>fH)) ev
  |Constant c k p=>clear ev;induction c using PySem.Const.casesOn<;>exact fH
  |BoolOp op es p=>
   induction op using PySem.BoolOp.casesOn with
   |Or=>exact EF (isAnd:=false) (f:=er n sc) λe _=>IT n sc e envM hE
   |And=>exact OB (EF (isAnd:=true) (f:=er n sc) λe _=>IT n sc e envM hE) λx y e=>e▸EF (isAnd:=true) (f:=er n sc) (es:=[x,y]) λe _=>IT n sc e envM hE
  |BinOp l op x p=>exact BP (λ_=>rfl) ev rfl rfl
  |UnaryOp op x p=>
   induction op using PySem.UnaryOp.casesOn with
   |Not=>exact Yz (IT n sc x envM hE)
   |_=>exact fH
  |Compare l ops xs p=>exact It (Q:=BO prog w s₀ A envM (.Compare l ops xs p) cf r) fH λop e=>It (Q:=BO prog w s₀ A envM (.Compare l ops xs p) cf r) fH λx e'=>bQ (Q:=BO prog w s₀ A envM (.Compare l ops xs p) cf r) fH λhs=>e▸e'▸Y1 hB hc (hR.le (d3 1)) hs (IE n sc l envM hE) (IE n sc x envM hE)
  |Attribute o a p=>exact(show EtX prog w s₀ A envM (.Attribute o a p) cf r (EA (er n sc) o a)from bQ bad λ_=>oQ bad λ_ _ ev=>BP (λ_=>rfl) ev rfl rfl) ev
  |Call fn args kws p=>
   exact(show EtX prog w s₀ A envM (.Call fn args kws p) cf r (Mk (er n sc) fn args kws p)from XV (OD bad λ_ _ _=>bQ bad λ_=>oQ bad λ_ _ ev=>BP (λ_=>rfl) ev rfl rfl) λ_ _ _ _=>bQ bad λ_=>oQ bad λ_ _=>oQ bad λ_ _ _=>fH) ev
  |List es p=>exact bQ (Q:=BO prog w s₀ A envM (.List es p) cf r) fH λ_=>fH
  |Tuple es k p=>exact bQ (Q:=BO prog w s₀ A envM (.Tuple es k p) cf r) fH λ_=>fH
  |Dict ks vs p=>exact QO (Q:=BO prog w s₀ A envM (.Dict ks vs p) cf r) fH λ_=>QO (Q:=BO prog w s₀ A envM (.Dict ks vs p) cf r) fH λ_=>fH
  |Subscript o i p=>exact oQ (Q:=BO prog w s₀ A envM (.Subscript o i p) cf r) (bQ (Q:=BO prog w s₀ A envM (.Subscript o i p) cf r) fH λ_=>fH) λ_ _=>bQ (Q:=BO prog w s₀ A envM (.Subscript o i p) cf r) fH λ_=>fH
  |ListComp elt gens dA p=>exact It (Q:=BO prog w s₀ A envM (.ListComp elt gens dA p) cf r) (OB (Q:=BO prog w s₀ A envM (.ListComp elt gens dA p) cf r) fH λ_ _ _=>bQ (Q:=BO prog w s₀ A envM (.ListComp elt gens dA p) cf r) fH λ_=>fH) λ_ _=>bQ (Q:=BO prog w s₀ A envM (.ListComp elt gens dA p) cf r) fH λ_=>fH
  |DictComp k v gens dA p=>exact It (Q:=BO prog w s₀ A envM (.DictComp k v gens dA p) cf r) fH λ_ _=>bQ (Q:=BO prog w s₀ A envM (.DictComp k v gens dA p) cf r) fH λ_=>fH
  |_=>exact fH
end
theorem Rj{hcf:cO}{r:Rec}{env:Ev}{cs:Cs}{c:Bool}{x:X}{y:V×Cs}{P:Prop}(h:dI hcf r (bif c then x else .bad) env cs=some y)(k:c=true->dI hcf r x env cs=some y->P):P:=by
 induction c using Bool.casesOn with
 |true=>exact k rfl h
 |false=>exact aY h
theorem mD{e:Expr}(h:mA e=true)(t:Option Expr)(l:Nat)(env:Env):swapsWith e t l env=pure false:=by
 induction e using PySem.Expr.casesOn<;>first|rfl|exact bX h
section
variable{prog:Program}{w:World}{s₀ s s':Shared}{γ bP:Gh}{ad dU:List Addr}{cs cW:Cs}{A:Around}{d:Nat}{cf:cO}{v:V}{u:Value}{envM cenv:Env}{sc dA:Scope}{env env':Ev}{r:Rec}{rv:Option V}{f:Flow}
theorem fT{c:Stmt}:sU prog w s₀ A envM c (λ_ _=>none):=λ_ _ _ _ _ _ _ _ _ _ _ h=>by exact aY h
theorem PX.next(hS:St w s₀ γ s)(hC:CsOk w γ ad cs)(hF:FmOk γ ad envM env):PX w s₀ γ ad envM none env cs .next s:=⟨γ,ad,hS,hC,.refl γ ad,hF,rfl⟩
theorem PX.trans(x:Step (pF envM) γ bP ad dU)(h:PX w s₀ bP dU envM rv env' cW f s):PX w s₀ γ ad envM rv env' cW f s:=
 let⟨cL,eS,a,b,c,e,g⟩:=h;⟨cL,eS,a,b,x.trans c,e,g⟩
theorem Step.wr(x:Step [] γ bP ad dU)(envM:Env):Step (pF envM) γ bP ad dU:=x.widen (by simp)
theorem Step.wrL(x:Step [envM.locals] γ bP [] [])(ad:List Addr):Step (pF envM) γ bP ad ad:=(x.calledX ad).widen λa h=>by rw[aN.mp h];exact aE
theorem Y9{e:Expr}{p:Pos}{fa:Ev->Cs->Option (V×Cs)}(ha:e8 prog w s₀ A envM e fa):sU prog w s₀ A envM (.Return (some e) p) (λenv cs=>(fa env cs).bind λp=>(a8 p.1 p.2).map λq=>(some q.1,env,q.2)):=λs γ ad env cs rv env' cW hS hC hF h=>by
 refine bH h ?_;clear h;intro x h1 h;refine eV h ?_;clear h;intro y h2 h;cases h;refine wpAny_Return_some (aD (ha s γ ad env cs _ _ hS hC hF h1) (λlH bZ q=>?_) λ_ _ z=>z);obtain⟨aU,bN,S1,C1,T1,V1⟩:=q;refine n8 (rH S1 C1 V1 h2) λcL S2 C2 T2 V2=>?_;exact⟨cL,bN,S2,C2,(T1.trans T2).wr envM,hF.step (T1.trans T2),lH,rfl,V2⟩
theorem P2(hE:EnvOk envM sc){e:Expr}{p:Pos}{fa:Ev->Cs->Option (V×Cs)}(hn:mA e=true)(ha:e8 prog w s₀ A envM e fa):sU prog w s₀ A envM (.Expr e p) (λenv cs=>(fa env cs).bind λp=>bif g7 p.1 then some (none,env,p.2)else none):=λs γ ad env cs rv env' cW hS hC hF h=>by
 refine bH h ?_;clear h;intro x h1 h
 refine dJ h ?_;clear h;intro hx h
 cases h
 refine wpAny_Expr (aD (ha s γ ad env cs _ _ hS hC hF h1) (λlH bZ q=>?_) λ_ _ z=>z) (by unfold interactive;rw[hE.kind];rfl) (mD hn ..)
 obtain⟨aU,bN,S1,C1,T1,V1⟩:=q
 obtain⟨x1,x2⟩:=x
 clear h1;induction x1 using V.casesOn<;>first|(exact bX hx;done)|skip
 cases V1
 exact⟨aU,bN,S1,C1,T1.wr envM,hF.step T1,rfl⟩
theorem P3{p:Pos}:sU prog w s₀ A envM (.Pass p) (λenv cs=>some (none,env,cs)):=λs γ ad env cs rv env' cW hS hC hF h=>by
 cases h;exact wpAny_Pass (.next hS hC hF)
theorem vQ{x:Str}(h:wK sc x=true):cJ x sc.names=some .local\/cJ x sc.names=some .cell:=by
 exact(cP.mp h).elim (λh=>.inl (lN h)) λh=>.inr (lN h)
theorem Jg(hE:EnvOk envM sc)(hS:St w s₀ γ s)(hC:CsOk w γ ad cs)(hF:FmOk γ ad envM env){x:Str}{i:Nat}(hl:wK sc x=true)(hv:mS x=some i)(hx:VR γ ad v u):
  wpAny (model prog w) A (storeName envM x u) (λ_ s'=>PX w s₀ γ ad envM none (fO i v env) cs .next s') fW s:=by
 have fin:∀a,a∈pF envM->a∉ad->∀s',PS w s₀ γ ad [a] envM (fO i v env) s'->PX w s₀ γ ad envM none (fO i v env) cs .next s':=λa h1 h2 s' z=>by
  obtain⟨bP,p,q,r⟩:=z;exact⟨bP,ad,p,hC.calledX q (λb hb=>by rw[aN.mp hb];exact h2),(q.calledX ad).widen (λb hb=>by rw[aN.mp hb];exact h1),r,rfl⟩
 rcases vQ hl with q|q
 ·exact aD (jF hE hS hF (eG hE q) hv hx) (λ_ s' z=>fin _ aE hF.nLoc s' z) λ_ _ z=>z
 ·rcases hE.names x _ q with z|⟨z,_⟩
  ·obtain⟨c,hc⟩:=hE.cells x (.inl z);exact aD (EM hE hS hF z hv hx hc) (λ_ s' z=>fin c (aI _ (tU hc)) (hF.nCel x c hc).1 s' z) λ_ _ z=>z
  ·cases z
theorem YA(hE:EnvOk envM sc){x:Str}{q p:Pos}{e:Expr}{i:Nat}{fa:Ev->Cs->Option (V×Cs)}(hn:mA e=true)(hl:wK sc x=true)(hv:mS x=some i)(ha:e8 prog w s₀ A envM e fa):
  sU prog w s₀ A envM (.Assign [.Name x q] e p) (λenv cs=>(fa env cs).map λp=>(none,fO i p.1 env,p.2)):=λs γ ad env cs rv env' cW hS hC hF h=>by
 refine eV h ?_;clear h;intro y h1 h;cases h;refine wpAny_Assign_Name (aD (ha s γ ad env cs _ _ hS hC hF h1) (λlH bZ q=>?_) λ_ _ z=>z) (mD hn ..);obtain⟨aU,bN,S1,C1,T1,V1⟩:=q;exact aD (Jg hE S1 C1 (hF.step T1) hl hv V1) (λ_ _ z=>PX.trans (T1.wr envM) z) λ_ _ z=>z
theorem FmOk.more{a:Addr}(hF:FmOk γ ad envM env)(h1:envM.locals≠a)(h2:∀y c,envM.cells.lookup y=some c->c≠a):FmOk γ (ad++[a]) envM env:=by
 have ix:∀(i:Nat) (b:Addr),ad[i]?=some b->(ad++[a])[i]?=some b:=λi b e=>by
  rw[List.getElem?_append_left (List.getElem?_eq_some_iff.mp e).1];exact e
 refine fM (hF.loc) λo m e1 e2 e3=>?_;refine⟨⟨o,m,e1,e2,λx i v p q k=>?_⟩,λx c q=>?_,λz=>?_,λx c q=>⟨λz=>?_,(hF.nCel x c q).2⟩,hF.inj⟩
 ·obtain⟨u,z1,z2⟩:=e3 x i v p q k;exact kF u z1 (z2.mono (.refl γ) ix)
 ·refine fM (hF.cel x c q) λo cv a1 a2 a3=>?_;refine nM o cv a1 a2 (λi v p q k=>?_);obtain⟨u,z1,z2⟩:=a3 i v p q k;exact kF u z1 (z2.mono (.refl γ) ix)
 ·rcases b7.mp z with z|z
  ·exact hF.nLoc z
  ·exact h1 (aN.mp z)
 ·rcases b7.mp z with z|z
  ·exact(hF.nCel x c q).1 z
  ·exact h2 x c q (aN.mp z)
theorem DB(hE:EnvOk envM sc){x:Str}{q:Pos}{i:Nat}{c:V}{csF:Cs}(hk:envM.kindOf x=some .local)(hv:mS x=some i)(hF:FmOk γ ad envM env)(hg:∀o,∃g,Oq o c=some g):
  ∀aU bN,Step [] γ aU ad bN->Bc w s₀ aU bN envM env c csF (λc8 C=>compPost (model prog w) A fW (some (assign (.Name x q) envM)) (λ_ s'=>PX w s₀ γ ad envM none (fO i (gT c csF).1 env) (gT c csF).2 .next s') c8 C):=by
 intro aU bN T c8 C γF adF s' hS hC T1 hr hA a1 c1 n fA fC F;show wpAny _ A (assign (.Name x q) envM (.ref c8)) _ _ _;have F0:=hF.step T;obtain⟨ol,rl⟩:=F0.locRaw;have nLA:envM.locals≠c8:=fA.ne rl (by intro z;cases z)
 have nLC:envM.locals≠C:=fC.ne rl (by intro z;cases z)
 have cne:∀a,dX aU a->∀y c,envM.cells.lookup y=some c->c≠a:=λa ha y c q=>by
  refine kY (F0.cel y c q) λoc _ e _=>?_;exact ha.ne e (by intro z;cases z)
 have F1:=F.more nLA (cne c8 fA);have C1:=hC.adopt hA hg a1;have hl:adF.length=csF.length:=hC.all.length;have V1:VR γF (adF++[c8]) (gT c csF).1 (.ref c8):=.own (by rw[<-hl];simp)
 refine i8 (id hA) λoA rA _=>?_;refine kY (hr) λoC mC rC nC=>?_;refine wpAny_assign_Name (aD (jF hE hS F1 hk hv V1) (λ_ cZ z=>?_) λ_ _ z=>z);obtain⟨γG,S2,T2,F2⟩:=z;have rC2:=T2.raw C oC rC (by simp) (by simpa using Ne.symm nLC)
 have rA2:=T2.raw c8 oA rA (by simp) (by simpa using Ne.symm nLA)
 refine kF mC (nC.ns (S2.raw rC2)) (λh' hs=>?_);have T3:Step [C] γG (iZ γG C (some .dead)) [] []:=tR [] rC2 (by simp)
 have S3:=S2.kill (s':={cZ with heap:=h'}) rC2 rA2 n λb o hb e=>(hs.2 b hb).trans e
 have cC:C∉adF++[c8]:=λz=>by
  rcases b7.mp z with z|z
  ·exact c1 z
  ·exact n (aN.mp z).symm
 have C2:=C1.calledX T2 λa ha=>by rw[aN.mp ha];exact F1.nLoc
 have C3:=C2.calledX T3 λa ha=>by rw[aN.mp ha];exact cC
 have F3:=F2.stepX (T3.calledX (adF++[c8])) (by simpa using nLC) (λy c e=>by simpa using cne C fC y c e)
 have TT:Step [C,envM.locals] γ (iZ γG C (some .dead)) ad (adF++[c8]):=(((T.trans (T1.more (a:=c8) fA)).widen (by simp)).trans ((T2.calledX (adF++[c8])).widen (by simp))).trans ((T3.calledX (adF++[c8])).widen (by simp))
 exact⟨_,adF++[c8],S3,C3,TT.shrink (λa ha=>by
  simp only[a7,fK,or_false]at ha;clear TT F3 C3 cC S3 T3 hs rC2 rC nLC n c1;rcases ha with rfl|rfl
  ·exact .inl ((T.dom _ fC).elim id (by simp))
  ·exact .inr aE),F3,rfl⟩
theorem gEq{g:Comprehension}{l:List Expr}(h:g.is_async=0)(e:g.ifs=l):g=⟨g.target,g.iter,l,0⟩:=by induction g using PySem.Comprehension.casesOn;cases h;cases e;rfl
theorem gEq2{g g' h h':Comprehension}(e:g=h)(e':g'=h'):[g,g']=[h,h']:=e▸e'▸rfl
theorem ES{f f':Expr->X}{elt:Expr}{gens:List Comprehension}{hcf:cO}{y:V×Cs}{P:Prop}(h:dI hcf r (EB f f' sc dA elt gens) env cs=some y)
  (k1:∀t1 lC ifs,gens=[⟨t1,lC,ifs,0⟩]->jT sc dA (jS t1)=true->gD lC=true->(bif !fresh (uF dA t1) env then none else(r.ev (f lC) env cs).bind λp=>(j5 (uF dA t1) p.1 p.2).bind λl=>(dH r (uF dA t1) (ifs.map f') env (fR r (f' elt)) l.1 l.2).map λq=>gT (.lst q.1) q.2)=some y->P)
  (k2:∀t1 lC t2 it2,gens=[⟨t1,lC,[],0⟩,⟨t2,it2,[],0⟩]->jT sc dA (jS t1++jS t2)=true->gD lC=true->gD it2=true->(bif !(fresh (uF dA t1) env&&fresh (uF dA t2) env)then none else(r.ev (f lC) env cs).bind λp=>(j5 (uF dA t1) p.1 p.2).bind λl=>(dH r (uF dA t1) [] env (uM r (f' elt) (uF dA t2) (f' it2)) l.1 l.2).map λq=>gT (.lst q.1) q.2)=some y->P):P:=by
 revert h;refine It (Q:=λz=>dI hcf r z env cs=some y->P) (OB (Q:=λz=>dI hcf r z env cs=some y->P) (λh=>aY (show none=some y from h)) λg g' e h1=>Rj h1 λc k=>?_) λg e h1=>Rj h1 λc k=>?_
 ·exact fF c λc c7=>fF c λc c6=>fF c λc c5=>fF c λc c4=>fF c λc c3=>fF c λc1 c2=>k2 _ _ _ _ (e.trans (gEq2 (gEq (aM c1) (eI.mp c3)) (gEq (aM c2) (eI.mp c4)))) c5 c6 c7 k
 ·exact fF c λc c3=>fF c λc1 c2=>k1 _ _ _ (e.trans (congrArg (λg=>[g]) (gEq (aM c1) rfl))) c2 c3 k
theorem P4(hh:A.handled=none)(IE:kS prog w s₀ A r)(IT:qD prog w s₀ A r)(hE:EnvOk envM sc){x:Str}{q p:Pos}{e:Expr}{i:Nat}(hsw:Ml sc x q e=true)(hv:mS x=some i)(n:Nat)(hcf:cO):
  sU prog w s₀ A envM (.Assign [.Name x q] e p) (λenv cs=>(dI hcf r (er (n+1) sc e) env cs).map λp=>(none,fO i p.1 env,p.2)):=λs γ ad env cs rv env' cW hS hC hF h=>by
 refine eV h ?_;clear h;intro y h1 h;cases h;refine lCE hsw nT λelt gens dA pos ee hsw=>fF hsw λhsw w3=>fF hsw λw1 w2=>?_;clear hsw;subst ee;have hk:=eG hE (nN w1);have hs:swapsWith (.ListComp elt gens dA pos) (some (.Name x q)) p.line envM=pure true:=by
  show(pure _:Sem Bool)=_;congr 1;rw[hk];have e1:(envM.blockKind==.function)=true:=by unfold Env.blockKind;rw[hE.kind];rfl
  rw[e1,w3,aA w2];simp
 rw[exec_Assign_Name_used _ _ _ _ hs];refine bF (wpAny_standAt (bF ?_));refine ES (show dI hcf r (EB (er n sc) (er n dA) sc dA elt gens) env cs=some y from h1) (λt1 lC ifs e h2 h3 k2=>?_) λt1 lC t2 it2 e h2 h3 h4 k2=>?_
 ·clear h1;refine vG k2 ?_;clear k2;intro mQ k2;refine bH k2 ?_;clear k2;intro x' g1 k2;refine bH k2 ?_;clear k2;intro l g2 k2;refine eV k2 ?_;clear k2;intro z g3 k4;clear hs hsw w2;clear hsw;subst k4 e;show wpAny _ A (do let _<-comprehension (.ListComp elt [⟨t1,lC,ifs,0⟩] dA pos) dA envM _ (newList []) false (eval lC envM) (some (assign (.Name x q) envM))) _ _ s
  exact bF (aD (MK (use:=some (assign (.Name x q) envM)) hh IE IT hE h2 h3 (qR _ _) mQ hS hC hF g1 g2 g3 (DB hE hk hv hF (λo=>⟨_,rfl⟩))) (λ_ s' z=>wpAny_pure (wpAny_pure z)) λ_ _ z=>z)
 ·clear h1;refine vG k2 ?_;clear k2;intro mQ k2;refine bH k2 ?_;clear k2;intro x' g1 k2;refine bH k2 ?_;clear k2;intro l g2 k2;refine eV k2 ?_;clear k2;intro z g3 k4;obtain⟨f1,f2⟩:=aL.mp mQ;clear hs hsw w2;clear hsw;subst k4 e;show wpAny _ A (do let _<-comprehension (.ListComp elt [⟨t1,lC,[],0⟩,⟨t2,it2,[],0⟩] dA pos) dA envM _ (newList []) false (eval lC envM) (some (assign (.Name x q) envM))) _ _ s
  exact bF (aD (ML (use:=some (assign (.Name x q) envM)) hh IE IT hE h2 h3 h4 (qR _ _) (qR _ _) f1 f2 hS hC hF g1 g2 g3 (DB hE hk hv hF (λo=>⟨_,rfl⟩))) (λ_ s' z=>wpAny_pure (wpAny_pure z)) λ_ _ z=>z)
end
theorem MR{o x v:V}(h:OL o x=some v):∃a b,o=.int a/\x=.int b/\v=.int (a+b):=by
 exact Yc h nS λa e h=>Yc h nS λb e' h=>⟨a,b,e,e',(aC h).symm⟩
theorem MS{o k x:V}{cs c:Cs}(h:AC o k x cs=some c):∃i s c' m,o=.own i/\k=.str s/\uK i cs=some c'/\c'.val=.dct m/\c'.frozen=false/\flat x=true/\m.length<=1000/\c=sM i ⟨false,.dct (lM s x m)⟩ cs:=by
 exact vOE h nS λi e h=>QW h nS λs e' h=>bH h λc' hc h=>vDE h nS λm hm h=>dJ h λhz h=>fF hz λhz h3=>fF hz λh1 h2=>
  ⟨i,s,c',m,e,e',hc,hm,by simpa using h1,h2,aX h3,(aC h).symm⟩
section
variable{prog:Program}{w:World}{s₀ s s':Shared}{γ bP:Gh}{ad dU:List Addr}{cs cW:Cs}{A:Around}{d:Nat}{cf:cO}{v:V}{u:Value}{envM cenv:Env}{sc dA:Scope}{env env':Ev}{r:Rec}{rv:Option V}{f:Flow}
theorem P5(hE:EnvOk envM sc)(hS:St w s₀ γ s)(hF:FmOk γ ad envM env){x:Str}{i:Nat}(hx:cJ x sc.names=some .local)(hv:mS x=some i)(h:dZ i env=some v){Q:Value->Shared->Prop}{E:Value->Shared->Prop}(q:∀u,VR γ ad v u->Q u s):
  wpAny (model prog w) A (loadName envM x) Q E s:=by
 refine fM (hF.loc) λo m a1 a2 a3=>?_;have hl:=eG hE hx;obtain⟨u,b1,b2⟩:=a3 x i v hv h hl;exact wpAny_loadName_local hE.kind hl (a2.ns (hS.raw a1)) b1 (q u b2)
theorem YB(hE:EnvOk envM sc){x:Str}{q p:Pos}{e:Expr}{i:Nat}{fa:Ev->Cs->Option (V×Cs)}(hx:cJ x sc.names=some .local)(hv:mS x=some i)(ha:e8 prog w s₀ A envM e fa):
  sU prog w s₀ A envM (.AugAssign (.Name x q) .Add e p) (λenv cs=>(dZ i env).bind λo=>(fa env cs).bind λp=>(OL o p.1).map λv=>(none,fO i v env,p.2)):=λs γ ad env cs rv env' cW hS hC hF h=>by
 refine bH h ?_;clear h;intro o h1 h;refine bH h ?_;clear h;intro y h2 h;refine eV h ?_;clear h;intro z h3 h;refine FC h ?_;refine fM (MR h3) λa b zr2 e2 zr4=>?_;subst zr2;subst zr4;obtain⟨y1,y2⟩:=y;dsimp only at e2;clear h3;subst e2;refine wpAny_AugAssign_Name (P5 hE hS hF hx hv h1 λu0 V0=>aD (ha s γ ad env cs _ _ hS hC hF h2) (λlH bZ q=>?_) λ_ _ z=>z);obtain⟨aU,bN,S1,C1,T1,V1⟩:=q;refine V0.intI λt0=>?_;refine V1.intI λt1=>?_;refine PyProof.Rows.iadd_int ?_;have S2:St w s₀ aU {bZ with toks:=bZ.toks+1}:=S1.like
 refine aD (jF hE S2 (hF.step T1) (eG hE hx) hv (.int (a+b) bZ.toks)) (λ_ s' z=>?_) λ_ _ z=>z;obtain⟨cL,S3,T3,F3⟩:=z;exact⟨cL,bN,S3,C1.calledX T3 (λb hb=>by rw[aN.mp hb];exact(hF.step T1).nLoc),(T1.wr envM).trans (T3.wrL bN),F3,rfl⟩
theorem YC{dn:Str}{pd q p:Pos}{k e:Expr}{i:Nat}{fd fk fa:Ev->Cs->Option (V×Cs)}(hn:mA e=true)(hd:e8 prog w s₀ A envM (.Name dn pd) fd)(hdf:∀env cs,fd env cs=(dZ i env).map λv=>(v,cs))(hk:e8 prog w s₀ A envM k fk)(ha:e8 prog w s₀ A envM e fa):
  sU prog w s₀ A envM (.Assign [.Subscript (.Name dn pd) k q] e p) (λenv cs=>(fa env cs).bind λp=>(dZ i env).bind λo=>(fk env p.2).bind λq=>(AC o q.1 p.1 q.2).map λc=>(none,env,c)):=λs γ ad env cs rv env' cW hS hC hF h=>by
 refine bH h ?_;clear h;intro y h1 h;refine bH h ?_;clear h;intro o h2 h;refine bH h ?_;clear h;intro z h3 h;refine eV h ?_;clear h;intro c h4 h;refine FC h ?_;refine wpAny_Assign_Subscript (aD (ha s γ ad env cs _ _ hS hC hF h1) (λlH bZ q=>?_) λ_ _ z=>z) (mD hn ..);obtain⟨aU,bN,S1,C1,T1,V1⟩:=q;refine aD (hd bZ aU bN env y.2 o y.2 S1 C1 (hF.step T1) (by rw[hdf,h2];rfl)) (λu₂ cZ q=>?_) λ_ _ z=>z
 obtain⟨cL,eS,S2,C2,T2,V2⟩:=q;refine aD (hk cZ cL eS env _ _ _ S2 C2 (hF.step (T1.trans T2)) h3) (λu₃ lT q=>?_) λ_ _ z=>z;obtain⟨iY,ad₃,S3,C3,T3,V3⟩:=q;have V1:=V1.step (T2.trans T3);have V2:=V2.step T3;have T:=(T1.trans T2).trans T3;have F3:=hF.step T;clear h2;refine B5 (MS h4) λj st c' m zr4 e2 hc hm hf hfl eW zr11=>?_;subst zr4;subst zr11;rw[e2]at V3;refine V3.strI λt3=>?_;refine V2.ownI λa e=>?_;clear V2 V3 h4;rw[oP]at hc;refine rS (C3.all.get e) λc'' hc' oo g hg qq=>?_;rw[hc]at hc';clear hg;obtain rfl:=aC hc';rw[hf,hm]at qq;obtain⟨r1,r2,r3⟩:=qq;have V1':VR iY [] y.1 lH:=V1.down (AY hfl);obtain⟨kvs,k1,k2⟩:=rI (prog:=prog) (S3.raw r1) r2;refine tN (id k1) λ_ _ _ _ _ _ _ _ hnd=>?_;have hl:=k2.length;refine wpAny_setItem_pairs (strKind_is prog w st t3) k1 (λh' hm' hs=>?_) (aR (by lia:kvs.length<=1000) (by decide))
 refine l6 (xH hm' (M6 k2 hnd st V1')) λo' p1 p2 p3=>?_;have E:=(gW (X:=[]) (G.raw o') ad₃ r1 (.inl (List.mem_of_getElem? e))).ext;have T4:Step [] iY (iZ iY a (some (.raw o'))) ad₃ ad₃:=gW _ ad₃ r1 (.inl (List.mem_of_getElem? e));exact⟨_,ad₃,S3.set (s':={lT with heap:=h',toks:=lT.toks+1}) r1 hs p1,C3.setAt e r1 ⟨o',.dct (lM st y.1 m) o',rfl,bK ..,p2.mono E,p3⟩,(T.trans T4).wr envM,F3.step T4,rfl⟩
theorem ET(hE:EnvOk envM sc){m n:Str}{q r tp vp:Pos}{k l:Nat}{a b:Expr}(hm:cJ m sc.names=some .local)(hn:cJ n sc.names=some .local)(hr:r.line=q.line)(f5:m≠n)(hst:gE [a,b]=true)
  (hf:[a,b].all (foldedForSure 8)=false) (hc:[a,b].all (constantsAlone 8)=false):swappedStores [.Tuple [.Name m q,.Name n r] k tp] (.Tuple [a,b] l vp) envM=pure (some [m,n]):=by
 have km:=eG hE hm;have kn:=eG hE hn;have bk:(envM.blockKind != .function)=false:=by unfold Env.blockKind;rw[hE.kind];rfl
 have e1:(envM.kindOf m==some .local&&q.line==q.line)=true:=by rw[km];exact aL.mpr ⟨rfl,beq_self_eq_true _⟩
 have e2:(envM.kindOf n==some .local&&r.line==q.line)=true:=by rw[kn,hr];exact aL.mpr ⟨rfl,beq_self_eq_true _⟩
 have ed:[m,n].eraseDups.length=2:=by
  have:(n==m)=false:=cK.mpr (Ne.symm f5);have h2:(m==n)=false:=cK.mpr f5;simp[List.eraseDups_cons,this,h2,f5,Ne.symm f5]
 have hn:∀f:Expr->Option Str,f (.Name m q)=some m->f (.Name n r)=some n->[Expr.Name m q,.Name n r].filterMap f=[m,n]:=λf h1 h2=>by rw[List.filterMap_cons_some h1,List.filterMap_cons_some h2];rfl
 refine(if_neg λh=>bX (bk.symm.trans h)).trans ((if_neg λhh=>?_).trans ?_)
 ·rcases cP.mp hh with hh|hh
  ·clear hc hf;induction a using PySem.Expr.casesOn<;>first|(exact bX hst;done)|(exact bX hh;done)
  ·have:=(mU hst envM).2;clear hc hf hst;induction b using PySem.Expr.casesOn<;>first|(exact bX this;done)|(exact bX hh;done)
 ·dsimp only;rw[hn _ (if_pos e1) (if_pos e2)];exact(if_neg λh=>by rw[ed]at h;exact bX h).trans ((if_neg λh=>bX (hf.symm.trans h)).trans (if_neg λh=>bX (hc.symm.trans h)))
end
set_option tactic.hygienic false
theorem YD(P:Params):(nsIn (Kf P) mainGlobals pY==some none&&bootBuiltins pY==some (.type "range")&&!(pY==("__name__":Str))&&!(pY==("__debug__":Str)))=true:=by kernel_rfl!
section
variable{prog:Program}{w:World}{s₀ s s':Shared}{γ bP:Gh}{ad dU:List Addr}{cs cW:Cs}{A:Around}{d:Nat}{cf:cO}{v:V}{u:Value}{envM cenv:Env}{sc dA:Scope}{env env':Ev}{r:Rec}{rv:Option V}{f:Flow}{it:Addr}{vs:List V}{i:Nat}
theorem P6{j k:Nat}(h:j≠k)(a b:V)(env:Ev):∀i v,dZ i (fO k b (fO j a env))=some v->dZ i (fO j a (fO k b env))=some v:=by
 intro i v e;rw[jB,jB]at e⊢;by_cases h1:i=k
 ·subst h1;rw[if_pos rfl]at e;rw[if_neg (Ne.symm h),if_pos rfl];exact e
 ·rw[if_neg h1]at e;by_cases h2:i=j
  ·clear h;subst h2;rw[if_pos rfl]at e⊢;exact e
  ·rw[if_neg h2]at e⊢;rw[if_neg h1];exact e
theorem P7(hh:A.handled=none)(hE:EnvOk envM sc){m n:Str}{q rr tp vp p:Pos}{k l:Nat}{a b:Expr}{i j:Nat}{fa fb:Ev->Cs->Option (V×Cs)}(hm:cJ m sc.names=some .local)(hn:cJ n sc.names=some .local)(hr:rr.line=q.line)(f5:m≠n)(hst:gE [a,b]=true)
  (hf:[a,b].all (foldedForSure 8)=false) (hc:[a,b].all (constantsAlone 8)=false) (hi:mS m=some i) (hj:mS n=some j) (ha:e8 prog w s₀ A envM a fa) (hb:e8 prog w s₀ A envM b fb):
  sU prog w s₀ A envM (.Assign [.Tuple [.Name m q,.Name n rr] k tp] (.Tuple [a,b] l vp) p) (λenv cs=>(fa env cs).bind λp=>(fb env p.2).map λq=>(none,fO j q.1 (fO i p.1 env),q.2)):=λs γ ad env cs rv env' cW hS hC hF h=>by
 refine bH h ?_;clear h;intro y h1 h;refine eV h ?_;clear h;intro z h2 h;refine FC h ?_;have hij:i≠j:=λe=>f5 (by subst e;exact rW hi hj)
 refine Assign_Tuple_swapped (names:=[m,n]) (Tuple_ (args_cons (aD (ha s γ ad env cs _ _ hS hC hF h1) (λua bZ q=>?_) λ_ _ z=>z) (mU hst envM).1)) rfl (ET hE hm hn hr f5 hst hf hc);obtain⟨aU,bN,S1,C1,T1,V1⟩:=q;refine args_cons (aD (hb bZ aU bN env _ _ _ S1 C1 (hF.step T1) h2) (λub cZ q=>args_nil ?_) λ_ _ z=>z) (mU (mU hst envM).2 envM).1;obtain⟨cL,eS,S2,C2,T2,V2⟩:=q;refine wpAny_newTuple (hsz:=(by decide:2<=sizeLine)) ?_
 have T12:=T1.trans T2;have F2:=hF.step T12;have hfree:=S2.free;have S3:=S2.alloc (s':={cZ with heap:=cZ.heap.push {cls:=.type "tuple",data:=.seq #[ua,ub]}}) {cls:=.type "tuple",data:=.seq #[ua,ub]} rfl
 have T3:Step [] cL (iZ cL cZ.heap.objs.size (some (.raw {cls:=.type "tuple",data:=.seq #[ua,ub]}))) eS eS:=d6 _ eS hfree;have F3:=F2.step T3;have C3:=C2.alloc hfree (g:=.raw {cls:=.type "tuple",data:=.seq #[ua,ub]});refine unpackItems_tuple (items:=#[ua,ub]) hh ⟨_,S3.raw (bK ..),rfl,0,rfl⟩ λh' he=>?_;obtain⟨ol,hol⟩:=F3.locRaw;have S4:=S3.grow' (s':={cZ with heap:=h'}) hol λb o e=>he b o (eU (Heap.lt_size e)) e
 have Va:=(V1.step T2).step T3;have Vb:=V2.step T3;show wpAny _ _ (do holding [ua] (bindName envM n ub);(do holding [] (bindName envM m ua);pure ())) _ _ _
 refine bF (wpAny_holding (aD (wpAny_bindName (jF hE S4 F3 (eG hE hn) hj Vb)) (λ_ bZ z=>?_) λ_ _ z=>z));obtain⟨γ₄,S5,T5,F5⟩:=z;have C5:=C3.calledX T5 λa ha=>by rw[aN.mp ha];exact F3.nLoc
 refine bF (wpAny_holding (aD (wpAny_bindName (jF hE S5 F5 (eG hE hm) hi (Va.step (T5.calledX eS)))) (λ_ cZ z=>?_) λ_ _ z=>z));obtain⟨γ₅,S6,T6,F6⟩:=z;have C6:=C5.calledX T6 λa ha=>by rw[aN.mp ha];exact F3.nLoc
 exact wpAny_pure ⟨γ₅,eS,S6,C6,((T12.trans T3).wr envM).trans ((T5.wrL eS).trans (T6.wrL eS)),F6.weaken (P6 hij _ _ env),rfl⟩
theorem P8{t:Expr}{p:Pos}{ft:Ev->Cs->Option (Bool×Cs)}(ht:rU prog w s₀ A envM t ft):sU prog w s₀ A envM (.Assert t none p) (λenv cs=>(ft env cs).bind λp=>bif p.1 then some (none,env,p.2)else none):=λs γ ad env cs rv env' cW hS hC hF h=>by
 refine bH h ?_;clear h;intro x h1 h;refine dJ h ?_;clear h;intro hx h;refine Eo h ?_;refine wpAny_Assert_holds (aD (ht s γ ad env cs _ _ hS hC hF h1) (λc bZ q=>?_) λ_ _ z=>z);obtain⟨rfl,aU,bN,S1,C1,T1⟩:=q;exact⟨hx,aU,bN,S1,C1,T1.wr envM,hF.step T1,rfl⟩
def gX(envM:Env):Prop:=∀c∈envM.cells.map (·.2),∃x,envM.cells.lookup x=some c
def sJ(prog:Program)(w:World)(s₀:Shared)(A:Around)(r:Rec):Prop:=∀(n:Nat) (sc:Scope) (c:Stmt) (envM:Env),EnvOk envM sc->gX envM->sU prog w s₀ A envM c (λenv cs=>r.ex (A7 n sc c) env cs)
theorem zW{n:Nat}(IX:sJ prog w s₀ A r)(hE:EnvOk envM sc)(hCA:gX envM):∀{body:List Stmt} {s:Shared} {γ:Gh} {ad:List Addr} {env:Ev} {cs:Cs} {rv:Option V} {env':Ev} {cW:Cs},St w s₀ γ s->CsOk w γ ad cs->FmOk γ ad envM env->uN r (body.map (A7 n sc)) env cs=some (rv,env',cW)->
  wpAny (model prog w) A (execs body envM) (PX w s₀ γ ad envM rv env' cW) fW s:=by
 intro body;induction body with
 |nil=>
  intro s γ ad env cs rv env' cW hS hC hF h;refine Eo h ?_;exact wpAny_execs_nil (.next hS hC hF)
 |cons c rest ih=>
  intro s γ ad env cs rv env' cW hS hC hF h;refine bH h ?_;clear h;intro x h1 h;obtain⟨x1,x2,x3⟩:=x;refine wpAny_execs_cons (aD (IX n sc c envM hE hCA s γ ad env cs _ _ _ hS hC hF h1) (λf bZ q=>?_) λ_ _ z=>z);obtain⟨aU,bN,S1,C1,T1,F1,hf⟩:=q;induction x1 using Option.casesOn with
  |none=>
   replace hf:_=Flow.next:=hf;subst hf;exact aD (ih S1 C1 F1 h) (λ_ _ z=>PX.trans T1 z) λ_ _ z=>z
  |some v=>
   refine i8 (hf) λu zr1 V1=>?_;subst zr1;clear h1;refine Eo h ?_;exact⟨aU,bN,S1,C1,T1,F1,u,rfl,V1⟩
theorem YE{n:Nat}(IX:sJ prog w s₀ A r)(hE:EnvOk envM sc)(hCA:gX envM){t:Expr}{a b:List Stmt}{p:Pos}{ft:Ev->Cs->Option (Bool×Cs)}(ht:rU prog w s₀ A envM t ft):
  sU prog w s₀ A envM (.If t a b p) (λenv cs=>(ft env cs).bind λp=>bif p.1 then uN r (a.map (A7 n sc)) env p.2 else uN r (b.map (A7 n sc)) env p.2):=λs γ ad env cs rv env' cW hS hC hF h=>by
 refine bH h ?_;clear h;intro x h1 h;refine wpAny_If (aD (ht s γ ad env cs _ _ hS hC hF h1) (λc bZ q=>?_) λ_ _ z=>z);obtain⟨rfl,aU,bN,S1,C1,T1⟩:=q;induction hx:x.1 using Bool.casesOn with
 |true=>
  rw[hx]at h;exact aD (zW IX hE hCA S1 C1 (hF.step T1) h) (λ_ _ z=>PX.trans (T1.wr envM) z) λ_ _ z=>z
 |false=>
  rw[hx]at h;exact aD (zW IX hE hCA S1 C1 (hF.step T1) h) (λ_ _ z=>PX.trans (T1.wr envM) z) λ_ _ z=>z
def RX(w:World)(s₀:Shared)(γ:Gh)(ad:List Addr)(envM:Env)(rv:Option V)(env':Ev)(cW:Cs)(rr:Result)(s':Shared):Prop:=∃f,rr=.ok f/\PX w s₀ γ ad envM rv env' cW f s'
structure WI(w:World)(s₀:Shared)(γ:Gh)(ad:List Addr)(envM:Env)(fs:Nat->Ev->Cs->Mf)(fin:Option V×Ev×Cs)(m:Nat)(bP:Gh)(dU:List Addr)(lD:Ev)(kW:Cs)(s':Shared):Prop where
 S:St w s₀ bP s'
 C:CsOk w bP dU kW
 T:Step (pF envM) γ bP ad dU
 F:FmOk bP dU envM lD
 h:fs m lD kW=some fin
inductive WN(P:Nat->Gh->List Addr->Ev->Cs->Shared->Prop)(n:Nat)(s':Shared):Prop
 |mk (bP:Gh) (dU:List Addr) (lD:Ev) (kW:Cs) (h:P n bP dU lD kW s')
theorem EU{n:Nat}(IX:sJ prog w s₀ A r)(hE:EnvOk envM sc)(hCA:gX envM){t:Expr}{body:List Stmt}{x:X}(ht:rU prog w s₀ A envM t (λenv cs=>r.ts x env cs)){env':Ev}{cW:Cs}
  {aU:Gh} {bN:List Addr} {lD:Ev} {kW:Cs} {m:Nat} (H:WI w s₀ γ ad envM (mW r x (body.map (A7 n sc))) (rv,env',cW) m aU bN lD kW s) {K0 K1:Flow->Shared->Prop}
  (k0:∀bP dU s',St w s₀ bP s'->CsOk w bP dU cW->Step (pF envM) γ bP ad dU->FmOk bP dU envM env'->rv=none->K0 .next s')
  (kN:∀m' bP dU env₂ cs₂ s',m'<m->WI w s₀ γ ad envM (mW r x (body.map (A7 n sc))) (rv,env',cW) m' bP dU env₂ cs₂ s'->K1 .next s')
  (kR:∀bP dU u v s',St w s₀ bP s'->CsOk w bP dU cW->Step (pF envM) γ bP ad dU->FmOk bP dU envM env'->rv=some v->VR bP [] v u->K1 (.ret u) s'):
  wpAny (model prog w) A (isTrue t envM (eval t envM)) (λb cZ=>if b then wpAny (model prog w) A (execs body envM) K1 fW cZ else wpAny (model prog w) A (execs [] envM) K0 fW cZ) fW s:=by
 obtain⟨S1,C1,T1,F1,h⟩:=H;induction m using Nat.casesOn with
 |zero=>exact aY h
 |succ m=>
  refine bH h ?_;clear h;intro p h1 h;refine aD (ht s aU bN lD kW _ _ S1 C1 F1 h1) (λc cZ q=>?_) λ_ _ z=>z.elim;obtain⟨rfl,cL,eS,S2,C2,T2⟩:=q;obtain⟨p1,p2⟩:=p;induction p1 using Bool.casesOn with
  |true=>
   refine bH h ?_;clear h;intro q h2 h;obtain⟨q1,q2,q3⟩:=q;refine aD (zW IX hE hCA S2 C2 (F1.step T2) h2) (λf lT z=>?_) λ_ _ z=>z.elim;obtain⟨iY,ad₃,S3,C3,T3,F3,hf⟩:=z;have TT:=(T1.trans (T2.wr envM)).trans T3;induction q1 using Option.casesOn with
   |none=>
    rw[show f=Flow.next from hf];exact kN m iY ad₃ q2 q3 lT (fL m) ⟨S3,C3,TT,F3,h⟩
   |some v=>
    refine i8 (hf) λu zr1 V3=>?_;subst zr1;obtain⟨e1,e2⟩:=Prod.mk.inj (aC h);obtain⟨e3,e4⟩:=Prod.mk.inj e2;rw[e3]at F3;rw[e4]at C3;exact kR iY ad₃ u v lT S3 C3 TT F3 e1.symm V3
  |false=>
   obtain⟨e1,e2⟩:=Prod.mk.inj (aC h);obtain⟨e3,e4⟩:=Prod.mk.inj e2;have F2:=F1.step T2;rw[e3]at F2;rw[e4]at C2;exact wpAny_execs_nil (k0 cL eS cZ S2 C2 (T1.trans (T2.wr envM)) F2 e1.symm)
theorem MT{n:Nat}(IX:sJ prog w s₀ A r)(hE:EnvOk envM sc)(hCA:gX envM){t:Expr}{body:List Stmt}{x:X}(ht:rU prog w s₀ A envM t (λenv cs=>r.ts x env cs)){fuel:Nat}{env':Ev}{cW:Cs}(hS:St w s₀ γ s)(hC:CsOk w γ ad cs)(hF:FmOk γ ad envM env)
  (h:mW r x (body.map (A7 n sc)) fuel env cs=some (rv,env',cW)):codeAny (model prog w) A (.whileLoop t body [] envM) (RX w s₀ γ ad envM rv env' cW) s:=by
 refine codeAny_whileLoop (WN (WI w s₀ γ ad envM (mW r x (body.map (A7 n sc))) (rv,env',cW))) (λm bZ hI=>?_) fuel ⟨γ,ad,env,cs,hS,hC,.refl γ ad,hF,h⟩;obtain⟨aU,bN,lD,kW,H⟩:=hI;refine aD (EU IX hE hCA ht H (K0:=λf s'=>RX w s₀ γ ad envM rv env' cW (.ok f) s') (K1:=λf lT=>match f with
     |.next|.cont=>∃k,k<m/\WN (WI w s₀ γ ad envM (mW r x (body.map (A7 n sc))) (rv,env',cW)) k lT
     |.brk=>RX w s₀ γ ad envM rv env' cW (.ok .next) lT
     |.ret v=>RX w s₀ γ ad envM rv env' cW (.ok (.ret v)) lT) ?_ ?_ ?_) ?_ λ_ _ z=>z.elim
 ·exact λbP dU s' a b c d e=>⟨.next,rfl,bP,dU,a,b,c,d,by clear H h;subst e;rfl⟩
 ·exact λm' bP dU env₂ cs₂ s' a b=>⟨m',a,bP,dU,env₂,cs₂,b⟩
 ·exact λbP dU u v s' a b c d e f=>⟨.ret u,rfl,bP,dU,a,b,c,d,by clear H h;subst e;exact kF u rfl f⟩
 ·intro rr bZ z;induction rr using Bool.casesOn with
  |false=>exact aD z (λ_ _ z=>z) λ_ _ z=>z.elim
  |true=>exact aD z (λ_ _ z=>z) λ_ _ z=>z.elim
theorem RX.post{rr:Result}{E:Value->Shared->Prop}(h:RX w s₀ γ ad envM rv env' cW rr s'):match rr with|.ok f=>PX w s₀ γ ad envM rv env' cW f s'|.error e=>E e s':=by
 obtain⟨f,rfl,h⟩:=h;exact h
theorem MU{x:Str}{p:Pos}(hS:St w s₀ γ s)(h:ItK γ it vs i (.Name x p)){y:V}(hx:vs[i]?=some y):
  wpAny (model prog w) A (pyNext (.ref it)) (λr bZ=>∃u,r=some u/\PI w s₀ γ [] it vs i (.Name x p) y u bZ) fW s:=by
 induction h using ItK.casesOn with
 |@list o l a b c e=>
  refine nJ (hS.ok.at_ _ _ e) λol h1 h2 vv n h3 h4=>?_;obtain⟨ux,e1,e2⟩:=h4.get hx;refine wpAny_pyNext_list_item ⟨o,hS.raw a,b,c⟩ (mY h1 h2 h3) (by simpa using e1) λh' hi hs=>⟨ux,rfl,?_⟩
  refine l6 (hi) λo' p1 p2 p3=>?_;have T:Step [it] γ (iZ γ it (some (.raw o'))) [] []:=gW (.raw o') [] a (.inr (by simp))
  exact⟨_,hS.set a hs p1,T,.list (bK ..) p2 p3 (T.ext _ _ e rfl),e2.mono T.ext λi a e=>by simp at e⟩
 |items a b c d e=>cases e
 |@range lo n a hv=>
  subst hv;rw[r7]at hx;by_cases hin:i<n
  ·rw[if_pos hin]at hx;obtain rfl:=aC hx;refine wpAny_pyNext_range_item (x:=lo+i) (left:=(n:Int)-i) (step:=1) (hS.raw a) (by lia) λh' hi hs=>⟨_,rfl,?_⟩
   have T:Step [it] γ (iZ γ it (some (.raw (s8 (lo+i+1) ((n:Int)-i-1))))) [] []:=gW _ [] a (.inr (by simp))
   refine⟨_,hS.set (s':={s with heap:=h',toks:=s.toks+1}) a hs hi,T,.range ?_ rfl,.int ..⟩
   rw[show lo+((i+1:Nat):Int)=lo+i+1 by push_cast;lia,show(n:Int)-((i+1:Nat):Int)=n-i-1 by push_cast;lia,bK];rfl
  ·rw[if_neg hin]at hx;exact aY hx
structure FI(w:World)(s₀:Shared)(γ:Gh)(ad:List Addr)(envM:Env)(it:Addr)(vs:List V)(tg:Expr)(fs:List V->Ev->Cs->Mf)(fin:Option V×Ev×Cs)(bP:Gh)(dU:List Addr)(lD:Ev)(kW:Cs)(i:Nat)(s':Shared):Prop where
 hi:i<=vs.length
 S:St w s₀ bP s'
 C:CsOk w bP dU kW
 T:Step (it::pF envM) γ bP ad dU
 F:FmOk bP dU envM lD
 I:ItK bP it vs i tg
 n:it∉dU
 h:fs (vs.drop i) lD kW=some fin
inductive FN(P:Gh->List Addr->Ev->Cs->Nat->Shared->Prop)(k n:Nat)(s':Shared):Prop
 |mk (bP:Gh) (dU:List Addr) (lD:Ev) (kW:Cs) (i:Nat) (hn:n=k-i) (h:P bP dU lD kW i s')
def RvOk(γ:Gh)(rv:Option V)(f:Flow):Prop:=match rv with
 |none=>f=.next
 |some v=>∃u,f=.ret u/\VR γ [] v u
inductive FQ(w:World)(s₀:Shared)(γ:Gh)(ad X:List Addr)(envM:Env)(rv:Option V)(env':Ev)(cW:Cs)(rr:Result)(s':Shared):Prop
 |mk (f:Flow) (hr:rr=.ok f) (bP:Gh) (dU:List Addr) (S:St w s₀ bP s') (C:CsOk w bP dU cW) (T:Step X γ bP ad dU) (F:FmOk bP dU envM env') (hf:RvOk bP rv f)
def FT(M:Model)(A:Around)(tg:Expr)(body:List Stmt)(env:Env)(N:Value->Shared->Prop)(K0 K1:Flow->Shared->Prop)(r:Option Value)(bZ:Shared):Prop:=match r with
 |none=>wpAny M A (execs [] env) K0 N bZ
 |some v=>wpAny M A (assign tg env v) (λ_ cZ=>wpAny M A (execs body env) K1 N cZ) N bZ
theorem MV{n:Nat}(hh:A.handled=none)(IX:sJ prog w s₀ A r)(hE:EnvOk envM sc)(hCA:gX envM){x:Str}{p:Pos}{t:List Nat}{body:List Stmt}{env':Ev}{cW:Cs}(ht:ErT sc (.Name x p) t)(hw:it∉pF envM)
  {aU:Gh} {bN:List Addr} {lD:Ev} {kW:Cs} {i:Nat} (H:FI w s₀ γ ad envM it vs (.Name x p) (gV r t (body.map (A7 n sc))) (rv,env',cW) aU bN lD kW i s) {N:Value->Shared->Prop} {K0 K1:Flow->Shared->Prop}
  (k0:∀bP dU s',St w s₀ bP s'->CsOk w bP dU cW->Step (it::pF envM) γ bP ad dU->FmOk bP dU envM env'->rv=none->K0 .next s')
  (kN:∀bP dU env₂ cs₂ s',i<vs.length->FI w s₀ γ ad envM it vs (.Name x p) (gV r t (body.map (A7 n sc))) (rv,env',cW) bP dU env₂ cs₂ (i+1) s'->K1 .next s')
  (kR:∀bP dU u v s',St w s₀ bP s'->CsOk w bP dU cW->Step (it::pF envM) γ bP ad dU->FmOk bP dU envM env'->rv=some v->VR bP [] v u->K1 (.ret u) s'):
  wpAny (model prog w) A (pyNext (.ref it)) (FT (model prog w) A (.Name x p) body envM N K0 K1) N s:=by
 obtain⟨hile,S1,C1,T1,F1,I1,i1,h⟩:=H;have nL:envM.locals≠it:=λz=>hw (by rw[<-z];exact aE)
 have nC:∀y c,envM.cells.lookup y=some c->c≠it:=λy c e z=>hw (by rw[<-z];exact aI _ (tU e))
 by_cases hlt:i<vs.length
 ·have hx:vs[i]?=some vs[i]:=List.getElem?_eq_getElem hlt;rw[Ba hx]at h;refine bH h ?_;clear h;intro env₂ h2 h;refine bH h ?_;clear h;intro q h3 h;obtain⟨q1,q2,q3⟩:=q;refine aD (MU S1 I1 hx) (λrr cZ z=>?_) λ_ _ z=>z.elim;obtain⟨ux,rfl,cL,S2,T2,I2,V2⟩:=z;have T2':=T2.calledX bN;have C2:=C1.calledX T2 λa h=>by rw[aN.mp h];exact i1
  have F2:=F1.stepX T2' (by simpa using nL) (λy c e=>by simpa using nC y c e)
  refine aD (AZ hh hE S2 F2 ht h2 V2) (λ_ lT z=>?_) λ_ _ z=>z.elim;obtain⟨iY,S3,T3,F3⟩:=z;have C3:=C2.calledX T3 λa h=>by rw[aN.mp h];exact F2.nLoc
  have I3:=I2.step (T3.calledX bN) i1 (by simpa using Ne.symm nL)
  refine aD (zW IX hE hCA S3 C3 F3 h3) (λf s₄ z=>?_) λ_ _ z=>z.elim;obtain⟨γ₄,ad₄,S4,C4,T4,F4,hf⟩:=z;obtain⟨oi,ri⟩:=I3.raw;have TT:Step (it::pF envM) γ γ₄ ad ad₄:=((T1.trans (T2'.widen (by simp))).trans ((T3.wrL bN).widen λa h=>aI _ h)).trans (T4.widen λa h=>aI _ h)
  induction q1 using Option.casesOn with
  |none=>
   rw[show f=Flow.next from hf];exact kN γ₄ ad₄ q2 q3 s₄ hlt ⟨hlt,S4,C4,TT,F4,I3.step T4 i1 hw,T4.out ri i1 hw,h⟩
  |some v=>
   refine i8 (hf) λu zr1 V4=>?_;subst zr1;obtain⟨e1,e2⟩:=Prod.mk.inj (aC h);obtain⟨e3,e4⟩:=Prod.mk.inj e2;rw[e3]at F4;rw[e4]at C4;exact kR γ₄ ad₄ u v s₄ S4 C4 TT F4 e1.symm V4
 ·have hx:vs[i]?=none:=List.getElem?_eq_none_iff.mpr (lR.mp hlt);rw[List.drop_eq_nil_of_le (lR.mp hlt)]at h;obtain⟨e1,e2⟩:=Prod.mk.inj (aC h);obtain⟨e3,e4⟩:=Prod.mk.inj e2;rw[e3]at F1;rw[e4]at C1;obtain⟨ol,rl⟩:=F1.locRaw;refine aD (MF hh S1 I1 hx rl nL) (λrr cZ z=>?_) λ_ _ z=>z.elim;obtain⟨rfl,S2⟩:=z;obtain⟨o1,r1⟩:=I1.raw;have T2:Step [it] aU (iZ aU it (some .dead)) [] []:=tR [] r1 (by simp)
  have T2':=T2.calledX bN;exact wpAny_execs_nil (k0 _ bN cZ S2 (C1.calledX T2 (λa h=>by rw[aN.mp h];exact i1)) (T1.trans (T2'.widen (by simp))) (F1.stepX T2' (by simpa using nL) (λy c e=>by simpa using nC y c e)) e1.symm)
theorem MW{n:Nat}(hh:A.handled=none)(IX:sJ prog w s₀ A r)(hE:EnvOk envM sc)(hCA:gX envM){x:Str}{p:Pos}{t:List Nat}{body:List Stmt}{env':Ev}{cW:Cs}(ht:ErT sc (.Name x p) t)(hS:St w s₀ γ s)(hC:CsOk w γ ad cs)(hF:FmOk γ ad envM env)
  (hI:ItK γ it vs 0 (.Name x p)) (hi:it∉ad) (hw:it∉pF envM) (h:gV r t (body.map (A7 n sc)) vs env cs=some (rv,env',cW)):
  codeAny (model prog w) A (.forLoop (.Name x p) (.ref it) body [] envM) (FQ w s₀ γ ad (it::pF envM) envM rv env' cW) s:=by
 refine codeAny_forLoop (FN (FI w s₀ γ ad envM it vs (.Name x p) (gV r t (body.map (A7 n sc))) (rv,env',cW)) vs.length) (λm s' hJ=>?_) (vs.length) ⟨γ,ad,env,cs,0,rfl,d3 _,hS,hC,.refl γ ad,hF,hI,hi,h⟩ (λ_=>rfl);obtain⟨aU,bN,lD,kW,i,rfl,H⟩:=hJ;refine aD (MV hh IX hE hCA ht hw H (N:=fW) (K0:=λf s'=>FQ w s₀ γ ad (it::pF envM) envM rv env' cW (.ok f) s') (K1:=λf lT=>match f with
     |.next|.cont=>∃m,m<vs.length-i/\FN (FI w s₀ γ ad envM it vs (.Name x p) (gV r t (body.map (A7 n sc))) (rv,env',cW)) vs.length m lT
     |.brk=>FQ w s₀ γ ad (it::pF envM) envM rv env' cW (.ok .next) lT
     |.ret v=>FQ w s₀ γ ad (it::pF envM) envM rv env' cW (.ok (.ret v)) lT) ?_ ?_ ?_) ?_ λ_ _ z=>z.elim
 ·exact λbP dU s' a b c d e=>⟨.next,rfl,bP,dU,a,b,c,d,by clear H h;subst e;rfl⟩
 ·exact λbP dU env₂ cs₂ s' a b=>⟨vs.length-(i+1),Nat.sub_lt_sub_left a (fL i),bP,dU,env₂,cs₂,i+1,rfl,b⟩
 ·exact λbP dU u v s' a b c d e f=>⟨.ret u,rfl,bP,dU,a,b,c,d,by clear H h;subst e;exact kF u rfl f⟩
 ·intro rr bZ z;induction rr using Option.casesOn with
  |none=>exact aD z (λ_ _ z=>z) λ_ _ z=>z.elim
  |some v=>exact aD z (λ_ _ z=>aD z (λ_ _ z=>z) λ_ _ z=>z.elim) λ_ _ z=>z.elim
end
set_option tactic.hygienic true
theorem AF{sc:Scope}{it:Expr}{args:List Expr}(h:wL sc it=some args):∃f q p,it=.Call (.Name f q) args [] p/\lE f pY=true/\gE args=true/\cJ f sc.names=some .globalImplicit:=by
 refine OF h nS λfn as kws p e h=>OE h nS λf q ef h=>dJ h λc h=>fF c λc c4=>fF c λc c3=>fF c λc1 c2=>?_;have:=aC h;clear h;clear h;subst this;exact FH f q p (by rw[e,ef,eI.mp c3]) c1 c2 (lN c4)
theorem Jh{P:List V->Prop}{l:List V}(k1:∀b,(bif decide (-1000<b)&&decide (b<1000)then some (eK 0 b.toNat)else none)=some l->P [.int b])
  (k2:∀a b,(bif decide (0<=a)&&decide (a<1000)&&decide (-1000<b)&&decide (b<1000)then some (eK a (b-a).toNat)else none)=some l->P [.int a,.int b]) {vs:List V} (h:l9 vs=some l):P vs:=by
 induction vs using List.casesOn with
 |nil=>exact aY h
 |cons a r=>
  induction a using V.casesOn with
  |int x=>
   induction r using List.casesOn with
   |nil=>exact k1 x h
   |cons b r=>
    induction b using V.casesOn with
    |int y=>
     induction r using List.casesOn with
     |nil=>exact k2 x y h
     |cons _ _=>exact aY h
    |_=>exact aY h
  |_=>exact aY h
theorem DC{vs l:List V}(h:l9 vs=some l):(∃b,vs=[.int b]/\ -1000<b/\b<1000/\l=eK 0 b.toNat)\/(∃a b,vs=[.int a,.int b]/\0<=a/\a<1000/\ -1000<b/\b<1000/\l=eK a (b-a).toNat):=by
 refine Jh (P:=λvs=>(∃b,vs=[.int b]/\ -1000<b/\b<1000/\l=eK 0 b.toNat)\/(∃a b,vs=[.int a,.int b]/\0<=a/\a<1000/\ -1000<b/\b<1000/\l=eK a (b-a).toNat)) (λb h=>?_) (λa b h=>?_) h
 ·refine dJ h ?_;clear h;clear h;intro hc h;simp only[a9,decide_eq_true_eq]at hc;exact .inl ⟨b,rfl,hc.1,hc.2,(aC h).symm⟩
 ·refine dJ h ?_;clear h;clear h;intro hc h;simp only[a9,decide_eq_true_eq]at hc;exact .inr ⟨a,b,rfl,hc.1.1.1,hc.1.1.2,hc.1.2,hc.2,(aC h).symm⟩
section
variable{prog:Program}{w:World}{s₀ s s':Shared}{γ bP:Gh}{ad dU:List Addr}{cs cW:Cs}{A:Around}{d:Nat}{cf:cO}{v:V}{u:Value}{envM cenv:Env}{sc dA:Scope}{env env':Ev}{r:Rec}{rv:Option V}{f:Flow}{it:Addr}{vs:List V}{i:Nat}
theorem MX(hF:FmOk γ ad envM env)(hCA:gX envM)(h:dX γ it):it∉pF envM:=λz=>by
 rcases a7.mp z with z|z
 ·obtain⟨o,e⟩:=hF.locRaw;exact h.ne e (by intro z;cases z) z.symm
 ·obtain⟨x,hx⟩:=hCA _ z;refine kY (hF.cel x _ hx) λo cv e _=>?_;exact h.ne e (by intro z;cases z) rfl
theorem VR.isInt'{i:Int}(h:VR γ ad (.int i) u):∃t,u=.int i t:=h.inv
theorem Ji(hS:St w s₀ γ s)(hC:CsOk w γ ad cs){a b:Int}{t t1 t2 t3:Tok}{n:Nat}(ha:0<=a)(ha':a<1000)(hb: -1000<b)(hb':b<1000)(hn:n=(b-a).toNat){x:Str}{p:Pos}:
  wpAny (model prog w) A (pyIter (.ref s.heap.objs.size)) (λitv s'=>∃it bP dU,itv=.ref it/\St w s₀ bP s'/\CsOk w bP dU cs/\Step [] γ bP ad dU/\it∉dU/\it∉[]/\dX γ it/\ItK bP it (eK a n) 0 (.Name x p)) fW
   {s with heap:=s.heap.push {cls:=.type "range",data:=.fields #[.int a t1,.int b t2,.int 1 t3]},toks:=t}:=by
 have hf:=hS.free;have S1:=hS.alloc (s':={s with heap:=s.heap.push {cls:=.type "range",data:=.fields #[.int a t1,.int b t2,.int 1 t3]},toks:=t}) {cls:=.type "range",data:=.fields #[.int a t1,.int b t2,.int 1 t3]} rfl
 have T1:Step [] γ (iZ γ s.heap.objs.size (some (.raw {cls:=.type "range",data:=.fields #[.int a t1,.int b t2,.int 1 t3]}))) ad ad:=d6 _ ad hf;have C1:=hC.alloc hf (g:=.raw {cls:=.type "range",data:=.fields #[.int a t1,.int b t2,.int 1 t3]});refine wpAny_pyIter_range (IsRange.new ..) (small_one (by lia) (by lia) (by lia) (by lia)) ?_
 have hf1:=S1.free;have hrs:Builtin.Range.rangeSize a b 1=n:=by rw[rangeSize_one];split<;>lia
 have hor:({cls:=.type "range_iterator",data:=.fields #[rawInt a,rawInt (Builtin.Range.rangeSize a b 1),rawInt 1]}:Obj)=s8 (a+((0:Nat):Int)) ((n:Int)-((0:Nat):Int)):=by
  rw[hrs];simp[s8]
 rw[hor];refine Dk _ _ ad rfl (S1.alloc (s':={s with heap:=(s.heap.push {cls:=.type "range",data:=.fields #[.int a t1,.int b t2,.int 1 t3]}).push _,toks:=t}) _ rfl) (C1.alloc hf1) (T1.trans (d6 _ ad hf1)) (C1.notIn hf1) (by simp) ((T1.dom _ hf1).resolve_right (by simp)) (.range (bK ..) rfl)
theorem MY{n:Nat}(hh:A.handled=none)(IX:sJ prog w s₀ A r)(hE:EnvOk envM sc)(hCA:gX envM){x:Str}{px:Pos}{t:List Nat}{body:List Stmt}{aU:Gh}{bN:List Addr}{cZ:Shared}{itv:Value}{y2:Cs}(ht:ErT sc (.Name x px) t)(T1:Step [] γ aU ad bN)(F1:FmOk aU bN envM env)(h:gV r t (body.map (A7 n sc)) vs env y2=some (rv,env',cW))
  (z:∃it bP dU,itv=.ref it/\St w s₀ bP cZ/\CsOk w bP dU y2/\Step [] aU bP bN dU/\it∉dU/\it∉[]/\dX aU it/\ItK bP it vs 0 (.Name x px)):
  codeAny (model prog w) A (.forLoop (.Name x px) itv body [] envM) (λrr s''=>match rr with|.ok f=>PX w s₀ γ ad envM rv env' cW f s''|.error e=>cameBackBy (model prog w) A envM fW e s'') cZ:=by
 refine CO (z) λit cL eS e S2 C2 T2 i2 _ f2 I2=>?_;rw[e];refine codeAny_mono (MW hh IX hE hCA ht S2 C2 (F1.step T2) I2 i2 (MX F1 hCA f2) h) λrr lT z=>?_;clear hE hCA ht h S2 C2 I2 i2 F1;obtain⟨f,rfl,iY,ad₃,S3,C3,T3,F3,hf⟩:=z;refine⟨iY,ad₃,S3,C3,(T1.wr envM).trans (((T2.widen (by simp)).trans T3).shrink λa ha=>(a7.mp ha).imp (λ(e:a=it)=>e▸f2) id),F3,?_⟩
 cases rv<;>exact hf
theorem P9{n:Nat}(hh:A.handled=none)(hB:Base w s₀)(IE:kS prog w s₀ A r)(IX:sJ prog w s₀ A r)(hE:EnvOk envM sc)(hCA:gX envM){x:Str}{px p:Pos}{t:List Nat}{iter:Expr}{args:List Expr}{body:List Stmt}(ht:ErT sc (.Name x px) t)(hr:wL sc iter=some args):
  sU prog w s₀ A envM (.For (.Name x px) iter body [] p) (λenv cs=>(FP r env (args.map (er 20 sc)) cs).bind λp=>(l9 p.1).bind λl=>gV r t (body.map (A7 n sc)) l env p.2):=λs γ ad env cs rv env' cW hS hC hF h=>by
 refine bH h ?_;clear h;intro y h1 h;refine bH h ?_;clear h;intro l h2 h;obtain⟨y1,y2⟩:=y;refine FD (AF hr) λfn q pc ei hfn hns hsc=>?_;rw[BD.mp hfn]at ei hsc;rw[ei];clear hfn hr ei;refine AJ (hB.top) λp' lo mg mb T=>?_;have T':=T.keeps hS.keep;have hk:envM.kindOf pY=some .globalImplicit:=by rcases hE.names _ _ hsc with q|⟨q,_⟩<;>first|exact q|cases q
 have hm:=YD w.params;simp only[a9,beq_iff_eq,Bool.not_eq_true',cK]at hm;obtain⟨⟨⟨r1,r2⟩,r3⟩,r4⟩:=hm;refine wpAny_For (s:=s) ?_ (λx=>rfl);show wpAny _ _ (do callWith pc (<-eval (.Name pY q) envM) [] (backTo pc (starEach args envM)) (backToKw pc (keywordEach [] envM))) _ _ _
 refine bF (Name_function_global hE.kind hk (loadGlobal_builtin (by rw[hE.globals];exact T'.g) (mg_none_of hB.K T.g r1) (by rw[hE.builtins];exact T'.b) ((T.builtins _ r3).trans r2) ?_) (cK.mpr r4))
 refine callWith_of (P:=λ_=>True) (by rw[D4 hns];rfl) (λhh X=>⟨.machine,.inr (.inl rfl),Looks.of_pure rfl⟩) (aD (s7 (ks:=[]) (l:=[]) (kvs:=[]) (λe _=>IE 20 sc e envM hE) hns rfl (by simp) hS hC hF h1 rfl) (λa bZ z=>⟨trivial,?_⟩) λ_ _ z=>z.elim)
 refine tM (z) λaU bN S1 C1 T1 V1 K1=>?_;obtain⟨apos,akw⟩:=a;refine K1.nI ?_;clear K1;have F1:=hF.step T1;have fin:∀{a b:Int} {n':Nat} {t0 t1 t2 t3:Tok},0<=a->a<1000-> -1000<b->b<1000->n'=(b-a).toNat->l=eK a n'->
   wpAny (model prog w) A (pyIter (.ref bZ.heap.objs.size)) (λitv s'=>codeAny (model prog w) A (.forLoop (.Name x px) itv body [] envM) (λrr s''=>match rr with|.ok f=>PX w s₀ γ ad envM rv env' cW f s''|.error e=>cameBackBy (model prog w) A envM fW e s'') s') fW
    {bZ with heap:=bZ.heap.push {cls:=.type "range",data:=.fields #[.int a t1,.int b t2,.int 1 t3]},toks:=t0}:=λha ha' hb hb' hn hl=>
  aD (Ji (x:=x) (p:=px) S1 C1 ha ha' hb hb' hn) (λitv cZ z=>MY hh IX hE hCA ht T1 F1 (hl▸h) z) λ_ _ z=>z
 clear hE hCA ht hF F1 hB IE IX h1;rcases DC h2 with⟨b,e1,e2,e3,e4⟩|⟨a,b,e1,e2,e3,e4,e5,e6⟩
 ·rw[show y1=_ from e1]at V1;refine V1.I1 λu V1=>?_;obtain⟨tb,e⟩:=V1.isInt';rw[e];exact call_range_1 (fin (fI 0) (by decide) e2 e3 (by rw[Int.sub_zero]) e4)
 ·rw[show y1=_ from e1]at V1;refine V1.I2 λu u' V1 V2=>?_;obtain⟨ta,e⟩:=V1.isInt';obtain⟨tb,e'⟩:=V2.isInt';rw[e,e'];exact call_range_2 (fin e2 e3 e4 e5 rfl e6)
theorem PB{n:Nat}(hh:A.handled=none)(IX:sJ prog w s₀ A r)(hE:EnvOk envM sc)(hCA:gX envM){x:Str}{px p:Pos}{t:List Nat}{iter:Expr}{body:List Stmt}{fa:Ev->Cs->Option (V×Cs)}(ht:ErT sc (.Name x px) t)(hs:gD iter=true)(ha:e8 prog w s₀ A envM iter fa):
  sU prog w s₀ A envM (.For (.Name x px) iter body [] p) (λenv cs=>(fa env cs).bind λp=>(j5 t p.1 p.2).bind λl=>gV r t (body.map (A7 n sc)) l.1 env l.2):=λs γ ad env cs rv env' cW hS hC hF h=>by
 refine bH h ?_;clear h;intro y h1 h;refine bH h ?_;clear h;intro l h2 h;refine wpAny_For (aD (ha s γ ad env cs _ _ hS hC hF h1) (λlH bZ q=>?_) λ_ _ z=>z) (s9 hs envM);obtain⟨aU,bN,S1,C1,T1,V1⟩:=q;have F1:=hF.step T1;refine aD (EN S1 C1 ht V1 h2) (λitv cZ z=>?_) λ_ _ z=>z;refine pD (z) λit cL zr2 S2 C2 T2 f2 i2 I2 _=>?_;subst zr2;refine codeAny_mono (MW hh IX hE hCA ht S2 C2 (F1.step T2) I2 i2 (MX F1 hCA f2) h) λrr lT z=>?_;obtain⟨f,rfl,iY,ad₃,S3,C3,T3,F3,hf⟩:=z;exact⟨iY,ad₃,S3,C3,(T1.wr envM).trans (((T2.widen (by simp)).trans T3).shrink λa ha=>by
  clear T3 I2 i2;rcases a7.mp ha with rfl|ha
  ·exact .inl f2
  ·exact .inr ha),F3,by clear h;induction rv using Option.casesOn<;>exact hf⟩
theorem PD{n:Nat}(IX:sJ prog w s₀ A r)(hE:EnvOk envM sc)(hCA:gX envM){t:Expr}{body:List Stmt}{x:X}{fuel:Nat}{p:Pos}(ht:rU prog w s₀ A envM t (λenv cs=>r.ts x env cs)):
  sU prog w s₀ A envM (.While t body [] p) (λenv cs=>mW r x (body.map (A7 n sc)) fuel env cs):=λs γ ad env cs rv env' cW hS hC hF h=>by
 refine wpAny_While (codeAny_mono (MT IX hE hCA ht hS hC hF h) λrr lT z=>?_);obtain⟨f,rfl,z⟩:=z;exact z
end
section
variable{prog:Program}{w:World}{s₀ s s':Shared}{γ bP:Gh}{ad dU:List Addr}{cs cW:Cs}{A:Around}{d:Nat}{cf:cO}{v:V}{u:Value}{envM cenv:Env}{sc dA:Scope}{env env':Ev}{r:Rec}{rv:Option V}{f:Flow}{it:Addr}{vs:List V}{i:Nat}
def ExX(prog:Program)(w:World)(s₀:Shared)(A:Around)(envM:Env)(c:Stmt)(fuel:Nat)(r:Rec)(z:Y):Prop:=sU prog w s₀ A envM c (λenv cs=>wI fuel r z env cs)
theorem MZ(hh:A.handled=none)(IE:kS prog w s₀ A r)(hE:EnvOk envM sc)(fuel:Nat){a b e:Expr}{l:Nat}{p tp:Pos}:ExX prog w s₀ A envM (.Assign [.Tuple [a,b] l tp] e p) fuel r (Mm sc a b e):=by
 refine OD fT λx px ea=>OD fT λy py eb=>XU fT λvs k vp ee=>OB fT λu v ev=>bQ fT λhc=>oQ fT λi hi=>oQ fT λj hj=>?_;subst ea eb ev;subst ee;simp only[a9,Bool.not_eq_true']at hc;obtain⟨⟨⟨⟨⟨⟨h1,h2⟩,h3⟩,h4⟩,h5⟩,h6⟩,h7⟩:=hc;exact P7 hh hE (nN h1) (nN h2) (aA h3) (λz=>by subst z;rw[BD.mpr rfl]at h4;exact jA h4) h5 h6 h7 hi hj (IE 20 sc u envM hE) (IE 20 sc v envM hE)
theorem PG(IE:kS prog w s₀ A r)(hE:EnvOk envM sc)(fuel:Nat){t k e:Expr}{p q:Pos}:ExX prog w s₀ A envM (.Assign [.Subscript t k q] e p) fuel r (QY sc t k e):=by
 refine OD fT λx px et=>bQ fT λhc=>oQ fT λi hi=>fF hc λhc c=>fF hc λh2 _=>?_;subst et;refine YC (fd:=λenv cs=>(dZ i env).map λv=>(v,cs)) h2 ?_ (λ_ _=>rfl) (IE 20 sc k envM hE) (IE 20 sc e envM hE);exact(cP.mp c).elim (λc=>(cP.mp c).elim (λc=>wN hE (lN c) (.inl rfl) hi) λc=>wN hE (lN c) (.inr (.inl rfl)) hi) λc=>wN hE (lN c) (.inr (.inr rfl)) hi
theorem PH(hh:A.handled=none)(IE:kS prog w s₀ A r)(IC:(∀x env cs,r.ev x env cs=none)\/∃r',(r.ev=dI cf r')/\kS prog w s₀ A r'/\qD prog w s₀ A r')(hE:EnvOk envM sc)(fuel:Nat){t e:Expr}{p:Pos}:ExX prog w s₀ A envM (.Assign [t] e p) fuel r (QZ sc t e):=by
 refine OD (XU (subQ fT λd k q et=>et▸PG IE hE fuel) λes l tp et=>OB fT λa b ee=>et▸ee▸MZ hh IE hE fuel) λx px et=>bQ fT λhc=>oQ fT λi hi=>?_;subst et;refine(cP.mp hc).elim (λh=>YA hE (aL.mp h).1 (aL.mp h).2 hi (IE 20 sc e envM hE)) λh=>?_;show sU prog w s₀ A envM _ (λenv cs=>(r.ev (er 20 sc e) env cs).map λp=>(none,fO i p.1 env,p.2));rcases IC with z|⟨r',z,IE',IT'⟩
 ·intro s γ ad env cs rv env' cW hS hC hF h;dsimp only at h;rw[z]at h;exact aY h
 ·rw[z];exact P4 hh IE' IT' hE h hi 19 cf
theorem YF(hB:Base w s₀)(hR:Room A d 1)(IE:kS prog w s₀ A r)(IT:qD prog w s₀ A r)(IX:sJ prog w s₀ A r)(IC:(∀x env cs,r.ev x env cs=none)\/∃r',(r.ev=dI cf r')/\kS prog w s₀ A r'/\qD prog w s₀ A r')(fuel:Nat)
  (n:Nat) (sc:Scope) (c:Stmt) (envM:Env) (hE:EnvOk envM sc) (hCA:gX envM):ExX prog w s₀ A envM c fuel r (A7 n sc c):=by
 induction n using Nat.casesOn with
 |zero=>exact fT
 |succ n=>
  induction c using PySem.Stmt.casesOn with
  |Return e p=>exact oQ fT λe q=>q▸Y9 (IE 20 sc e envM hE)
  |Expr e p=>exact bQ fT λhc=>P2 hE hc (IE 20 sc e envM hE)
  |Pass p=>exact P3
  |Assign ts e p=>exact It fT λt q=>q▸PH hR.hand IE IC hE fuel
  |AugAssign t op e p=>
   refine OD fT λx px et=>bQ fT λhc=>oQ fT λi hi=>?_;subst et;induction op using PySem.Operator.casesOn with
   |Add=>exact YB hE (nN hc) hi (IE 20 sc e envM hE)
   |_=>exact fT
  |If t a b p=>exact YE IX hE hCA (IT 20 sc t envM hE)
  |Assert t m p=>exact bQ fT λhc=>fZ.mp hc▸P8 (IT 20 sc t envM hE)
  |For t iter body orelse p=>
   refine QO fT λeo=>OD fT λx px et=>?_;subst eo et;exact oQ (bQ fT λhs=>PB hR.hand IX hE hCA (qR sc _) hs (IE 20 sc iter envM hE)) λargs hr=>P9 hR.hand hB IE IX hE hCA (qR sc _) hr
  |While t body orelse p=>exact QO fT λeo=>eo▸PD IX hE hCA (IT 20 sc t envM hE)
  |_=>exact fT
theorem oR(hB:Base w s₀)(hc:rD prog w s₀ d cf)(hR:Room A d 1):∀m,kS prog w s₀ A (bJ cf m)/\qD prog w s₀ A (bJ cf m)/\sJ prog w s₀ A (bJ cf m)/\
  ((∀x env cs,(bJ cf m).ev x env cs=none)\/∃r',((bJ cf m).ev=dI cf r')/\kS prog w s₀ A r'/\qD prog w s₀ A r')
 |0=>⟨λ_ _ _ _ _=>fG,λ_ _ _ _ _=>fH,λ_ _ _ _ _ _=>fT,.inl λ_ _ _=>rfl⟩
 |m+1=>
  u7 (oR hB hc hR m) λa b c e=>⟨MQ hB hc hR a b,Y8 hB hc hR a b,YF hB hR a b c e 2000,.inr ⟨_,rfl,a,b⟩⟩
end
set_option tactic.hygienic false
def d4(K:Frag)(a:Addr):FuncData:=pX default (K.lookup a) λo=>yY default o.data λfd=>fd
def isFd(K:Frag)(a:Addr):Bool:=pX false (K.lookup a) λo=>Nat.beq o.data.ctorIdx 7
def j3(K:Frag)(a:Addr):List Str:=(d4 K a).params.args.map (·.arg)
noncomputable def kZ(fd:FuncData):List Stmt:=match fd.body with
 |.stmts b=>b
 |_=>[]
noncomputable def EV(fd:FuncData):Bool:=match fd.body with
 |.stmts _=>true
 |_=>false
noncomputable def zX:List Str->Str
 |[]=>OM
 |x::r=>match r with
  |[]=>x
  |y::r=>zX (y::r)
def EW(K:Frag)(a:Addr):Value:=match(d4 K a).defaults with
 |.ref T=>(match K.lookup T with
  |some o=>(match o.data with
   |.seq items _=>(match items.toList with
    |v::_=>v
    |[]=>.none)
   |_=>.none)
  |none=>.none)
 |_=>.none
def eqD(d:V)(u:Value):Bool:=bif Nat.beq d.ctorIdx 0 then Nat.beq u.ctorIdx 0 else Yb false d λa=>XW false u λb=>a==b
def eqDs(ds:List V)(u:Value):Bool:=match ds with
 |[]=>true
 |d::_=>eqD d u
def BV(K:Frag)(fd:FuncData):Bool:=sQ false fd.code λc=>pX false (K.lookup c) λo=>Eu false o.data λvs=>pX false vs[1]? λu=>Et false u λq _=>q==fd.qualname
noncomputable def nX:List Str->Bool
 |[]=>true
 |x::r=>!(r.any (·==x))&&nX r
theorem nod_c{x:Str}{r:List Str}:nX (x::r)=(!(r.any (·==x))&&nX r):=rfl
def Rl(fd:FuncData):Bool:=nX (fd.params.args.map (·.arg))&&Mh fd.scope&&!fd.scope.isCoroutine&&!fd.scope.isGenerator&&fd.scope.names.all (λx=>!(x.2==.free))&&nX ((fd.scope.names.filter (λx=>x.2==.cell)).map (·.1))&&
 fd.params.args.all (λx=>wK fd.scope x.arg&&(mS x.arg).isSome)
def wS(K:Frag)(p:Nat×Fn):Bool:=isFd K p.1&&EV (d4 K p.1)&&Nat.beq (d4 K p.1).globals mainGlobals&&Nat.beq (d4 K p.1).builtins builtinsNs&&(d4 K p.1).closure.isEmpty&&BV K (d4 K p.1)&&Rl (d4 K p.1)&&
 eqDs p.2.dflts (EW K p.1)&&Nat.blt p.2.params.length 5
def xY(K:Frag)(a:Addr)(ds:List V):Fn:=⟨(d4 K a).params.args.map (λx=>match mS x.arg with|some i=>i|none=>0),ds,(kZ (d4 K a)).map (A7 12 (d4 K a).scope)⟩
def uP(n:Nat):List Addr:=(Ra.filter λp=>Nat.beq p.2.params.length n).map (·.1)
def EX(n:Nat):List Addr:=(Ra.filter λp=>Nat.beq p.2.params.length n&&!p.2.dflts.isEmpty).map (·.1)
theorem ent1(P:Params):Ra.all (wS (Kf P))=true:=by kernel_rfl!
theorem ar1:Ra.all (λp=>Nat.blt p.2.params.length 4)=true:=by kernel_rfl!
theorem YG(P:Params):Ra.map (λp=>xY (Kf P) p.1 p.2.dflts)=Ra.map (·.2):=by kernel_rfl!
theorem bp0(P:Params)(S:Setting):(uP 0).map (λa=>peek (Kf P) S (bindArgs (d4 (Kf P) a) ⟨[],[]⟩))=(uP 0).map (λa=>some ((j3 (Kf P) a).zip [])):=by kernel_rfl!
theorem bp1(P:Params)(S:Setting)(u:Value):(uP 1).map (λa=>peek (Kf P) S (bindArgs (d4 (Kf P) a) ⟨[u],[]⟩))=(uP 1).map (λa=>some ((j3 (Kf P) a).zip [u])):=by kernel_rfl!
theorem bp2(P:Params)(S:Setting)(u v:Value):(uP 2).map (λa=>peek (Kf P) S (bindArgs (d4 (Kf P) a) ⟨[u,v],[]⟩))=(uP 2).map (λa=>some ((j3 (Kf P) a).zip [u,v])):=by kernel_rfl!
theorem bp3(P:Params)(S:Setting)(u v x:Value):(uP 3).map (λa=>peek (Kf P) S (bindArgs (d4 (Kf P) a) ⟨[u,v,x],[]⟩))=(uP 3).map (λa=>some ((j3 (Kf P) a).zip [u,v,x])):=by kernel_rfl!
theorem bk1(P:Params)(S:Setting)(u:Value):(uP 1).map (λa=>peek (Kf P) S (bindArgs (d4 (Kf P) a) ⟨[],[(zX (j3 (Kf P) a),u)]⟩))=(uP 1).map (λa=>some ((j3 (Kf P) a).zip [u])):=by kernel_rfl!
theorem bk2(P:Params)(S:Setting)(u v:Value):(uP 2).map (λa=>peek (Kf P) S (bindArgs (d4 (Kf P) a) ⟨[u],[(zX (j3 (Kf P) a),v)]⟩))=(uP 2).map (λa=>some ((j3 (Kf P) a).zip [u,v])):=by kernel_rfl!
theorem bk3(P:Params)(S:Setting)(u v x:Value):(uP 3).map (λa=>peek (Kf P) S (bindArgs (d4 (Kf P) a) ⟨[u,v],[(zX (j3 (Kf P) a),x)]⟩))=(uP 3).map (λa=>some ((j3 (Kf P) a).zip [u,v,x])):=by kernel_rfl!
theorem bd2(P:Params)(S:Setting)(u:Value):(EX 2).map (λa=>peek (Kf P) S (bindArgs (d4 (Kf P) a) ⟨[u],[]⟩))=(EX 2).map (λa=>some ((j3 (Kf P) a).zip [u,EW (Kf P) a])):=by kernel_rfl!
theorem bd3(P:Params)(S:Setting)(u v:Value):(EX 3).map (λa=>peek (Kf P) S (bindArgs (d4 (Kf P) a) ⟨[u,v],[]⟩))=(EX 3).map (λa=>some ((j3 (Kf P) a).zip [u,v,EW (Kf P) a])):=by kernel_rfl!
theorem dfOf1:EX 1=[]:=by kernel_rfl!
theorem i6{α β:Type}{f g:α->β}{l:List α}(h:l.map f=l.map g){a:α}(ha:a∈l):f a=g a:=List.map_inj_left.mp h a ha
theorem wT{α:Type}{x:Nat}{v:α}:∀{l:List (Nat×α)},dZ x l=some v->(x,v)∈l
 |[],h=>by exact aY h
 |(y,w)::r,h=>by
  unfold dZ at h;induction hb:Nat.beq x y using Bool.casesOn with
  |true=>
   rw[hb]at h;refine e9 h ?_;rw[aA hb];exact aE
  |false=>rw[hb]at h;exact aI _ (wT h)
theorem Na{a b:Nat}(h:a=b):Nat.beq a b=true:=h▸kM a
theorem zY{a:Addr}{i:Fn}(h:fi a=some i):(a,i)∈Ra:=wT h
theorem Rm(P:Params){a:Addr}{i:Fn}(h:fi a=some i):xY (Kf P) a i.dflts=i:=i6 (YG P) (zY h)
theorem zZ{a:Addr}{i:Fn}(h:fi a=some i){n:Nat}(hn:i.params.length=n):a∈uP n:=bR.mpr ⟨(a,i),dC.mpr ⟨zY h,Na hn⟩,rfl⟩
theorem Nb{a:Addr}{i:Fn}(h:fi a=some i){n:Nat}(hn:i.params.length=n)(hd:i.dflts.isEmpty=false):a∈EX n:=bR.mpr ⟨(a,i),dC.mpr ⟨zY h,by rw[a9,hd];exact⟨Na hn,rfl⟩⟩,rfl⟩
theorem nm_len(P:Params){a:Addr}{i:Fn}(h:fi a=some i):(j3 (Kf P) a).length=i.params.length:=by
 rw[<-Rm P h];unfold j3 xY;simp
set_option tactic.hygienic true
structure Ent(K:Frag)(a:Addr)(i:Fn):Prop where
 fd:∃o,K.lookup a=some o/\o.data=.func (d4 K a)
 body:(d4 K a).body=.stmts (kZ (d4 K a))
 globals:(d4 K a).globals=mainGlobals
 builtins:(d4 K a).builtins=builtinsNs
 closure:(d4 K a).closure=[]
 code:BV K (d4 K a)=true
 kind:(d4 K a).scope.kind=.function
 co:(d4 K a).scope.isCoroutine=false
 gen:(d4 K a).scope.isGenerator=false
 free:∀x∈(d4 K a).scope.names,x.2≠.free
 cells:nX (((d4 K a).scope.names.filter (λx=>x.2==.cell)).map (·.1))=true
 pars:∀x∈j3 K a,wK (d4 K a).scope x=true/\(mS x).isSome=true
 nd:nX (j3 K a)=true
 dv:eqDs i.dflts (EW K a)=true
 par:i.params=(j3 K a).map λx=>match mS x with|some i=>i|none=>0
 stm:i.body=(kZ (d4 K a)).map (A7 12 (d4 K a).scope)
theorem PK{K:Frag}{a:Addr}(h:isFd K a=true):∃o,K.lookup a=some o/\o.data=.func (d4 K a):=by
 refine oE h nT λo ho h=>⟨o,ho,?_⟩;have e:d4 K a=yY default o.data λfd=>fd:=by unfold d4;rw[ho];rfl
 rw[e];exact Data.func.elim (motive:=λx=>x=.func (yY default x λfd=>fd)) o.data (aA h) λfd=>rfl
theorem Jj{fd:FuncData}(h:EV fd=true):fd.body=.stmts (kZ fd):=by
 unfold EV at h;unfold kZ;split at h
 ·rename_i b hb;rw[hb]
 ·exact bX h
theorem EY{K:Frag}{a:Addr}{i:Fn}(c:wS K (a,i)=true)(e:xY K a i.dflts=i):Ent K a i:=by
 unfold wS Rl at c;simp only[a9,Bool.not_eq_true']at c;obtain⟨⟨⟨⟨⟨⟨⟨⟨c1,c2⟩,c3⟩,c4⟩,c5⟩,c6⟩,⟨⟨⟨⟨⟨⟨s0,s1⟩,s2⟩,s3⟩,s4⟩,s5⟩,s6⟩⟩,c7⟩,_⟩:=c;refine⟨PK c1,Jj c2,aA c3,aA c4,eI.mp c5,c6,?_,s2,s3,λx hx z=>?_,s5,λx hx=>?_,s0,c7,?_,?_⟩
 ·exact Dx s1
 ·have:=aW.mp s4 x hx;rw[z]at this;exact bX this
 ·refine i8 (bR.mp hx) λy hy zr2=>?_;subst zr2;exact aL.mp (aW.mp s6 y hy)
 ·rw[<-e];unfold xY j3;rw[iW];rfl
 ·rw[<-e];rfl
theorem Nc(P:Params){a:Addr}{i:Fn}(h:fi a=some i):Ent (Kf P) a i:=EY (aW.mp (ent1 P) _ (zY h)) (Rm P h)
theorem Bd:∀{ns:List Str} {k:Nat},(∀x∈ns,(mS x).isSome=true)->E9 k (ns.map λx=>match mS x with|some i=>i|none=>0)=true->mS (zX ns)=some k
 |[],_,_,h=>by exact bX h
 |[x],k,hs,h=>by
  obtain⟨j,hj⟩:=fE.mp (hs x aE);replace h:Nat.beq (match mS x with|some i=>i|none=>0) k=true:=h
  rw[hj]at h;rw[<-aA h];exact hj
 |x::y::r,k,hs,h=>Bd (ns:=y::r) (λz hz=>hs z (aI _ hz)) h
section
variable{prog:Program}{w:World}{s₀ s s':Shared}{γ bP:Gh}{A:Around}{v:V}{u:Value}
theorem dv_vr{d:V}(h:eqD d u=true):VR γ [] d u:=by
 unfold eqD at h;induction c:Nat.beq d.ctorIdx 0 using Bool.casesOn with
 |true=>
  rw[c]at h;rw[V.none.elim (motive_1:=λz=>z=.none) d (aA c) rfl,Value.none.elim (motive:=λz=>z=.none) u (aA h) rfl];exact .none
 |false=>
  rw[c]at h;exact vbE h nT λa ea h=>uBE h nT λb eb h=>by rw[ea,eb,eq_of_beq h];exact .bool _
theorem AllR.len0{α β:Type}{R:α->β->Prop}{m:List β}(h:AllR R [] m):m=[]:=by cases h;rfl
theorem AllR.len1{α β:Type}{R:α->β->Prop}{a:α}{l:List α}{m:List β}(h:AllR R (a::l) m):∃b r,m=b::r/\R a b/\AllR R l r:=by cases h;exact nM _ _ rfl (by assumption) (by assumption)
theorem sz3{R:V->Value->Prop}{Q:Nat->List Value->Prop}(h0:Q 0 [])(h1:∀b,Q 1 [b])(h2:∀b c,Q 2 [b,c])(h3:∀b c d,Q 3 [b,c,d])(h4:∀n us,4<=n->Q n us){vs:List V}{us:List Value}(h:AllR R vs us):Q vs.length us:=by
 have e:=h.length;rw[e];clear e h;induction us using List.casesOn with
 |nil=>exact h0
 |cons b us=>
  induction us using List.casesOn with
  |nil=>exact h1 b
  |cons c us=>
   induction us using List.casesOn with
   |nil=>exact h2 b c
   |cons d us=>
    induction us using List.casesOn with
    |nil=>exact h3 b c d
    |cons e us=>exact h4 _ _ (lL _ _)
theorem PL{a:Addr}{i:Fn}(h:fi a=some i)(hK:(Kf w.params).In s.heap){vs:List V}{us:List Value}{kws:List (Nat×V)}{ukws:List (Str×Value)}{env:Ev}(hv:AllR (VR γ []) vs us)(hk:AllR (Rb γ) kws ukws)
  (hb:vF i.params vs kws i.dflts=some env):∃vs' us',BindsTo s (d4 (Kf w.params) a) ⟨us,ukws⟩ ((j3 (Kf w.params) a).zip us')/\env=i.params.zip vs'/\AllR (VR γ []) vs' us'/\i.params.length=vs'.length:=by
 have I:=Nc w.params h;have eW:i.params.length<4:=aX (aW.mp ar1 _ (zY h));unfold vF at hb;split at hb
 ·cases hk;induction hn:Nat.beq i.params.length vs.length using Bool.casesOn with
  |true=>
   rw[hn]at hb;obtain rfl:=aC hb;have hn:=aA hn;refine uJ vs us ?_ rfl hv hn;exact sz3 (Q:=λn us=>i.params.length=n->BindsTo s (d4 (Kf w.params) a) ⟨us,[]⟩ ((j3 (Kf w.params) a).zip us)) (λhn=>kp_binds hK λS=>i6 (bp0 w.params S) (zZ h hn)) (λb hn=>kp_binds hK λS=>i6 (bp1 w.params S b) (zZ h hn)) (λb c hn=>kp_binds hK λS=>i6 (bp2 w.params S b c) (zZ h hn)) (λb c d hn=>kp_binds hK λS=>i6 (bp3 w.params S b c d) (zZ h hn)) (λn us hl hn=>absurd eW (by rw[hn];exact lR.mpr hl)) hv hn
  |false=>
   rw[hn]at hb;refine dJ hb ?_;clear hb;intro hn hb;have hn:=aA hn;induction hd:i.dflts using List.casesOn with
   |nil=>rw[hd]at hb;exact aY hb
   |cons d ds=>
    rw[hd]at hb;refine e9 hb ?_;have hdv:=I.dv;rw[hd]at hdv;have V₀:=dv_vr (γ:=γ) (show eqD d (EW (Kf w.params) a)=true from hdv);have f5:i.dflts.isEmpty=false:=by rw[hd];rfl
    refine uJ (vs++[d]) (us++[EW (Kf w.params) a]) ?_ rfl (hv.append (.cons V₀ .nil)) (by simpa using hn)
    exact sz3 (Q:=λn us=>i.params.length=n+1->BindsTo s (d4 (Kf w.params) a) ⟨us,[]⟩ ((j3 (Kf w.params) a).zip (us++[EW (Kf w.params) a]))) (λhn=>by have:=Nb h hn f5;rw[show EX (0+1)=[]from dfOf1]at this;cases this) (λb hn=>kp_binds hK λS=>i6 (bd2 w.params S b) (Nb h hn f5)) (λb c hn=>kp_binds hK λS=>i6 (bd3 w.params S b c) (Nb h hn f5)) (λb c d hn=>absurd eW (by rw[hn];decide)) (λn us hl hn=>absurd eW (by rw[hn];exact lR.mpr (mN hl))) hv hn
 ·rename_i q r;refine dJ hb ?_;clear hb;intro hn fX;simp only[a9,eI]at hn;obtain⟨⟨rfl,hn⟩,hla⟩:=hn;have hn:=aA hn;obtain⟨p,r,rfl,⟨k1,k2⟩,hk⟩:=hk.len1;rw[hk.len0];have hnm:p.1=zX (j3 (Kf w.params) a):=by
   clear k2 hk hn;rw[I.par]at hla;exact rW k1 (Bd (λx hx=>(I.pars x hx).2) hla)
  obtain⟨p1,p2⟩:=p;dsimp only at hnm;clear k1 hk;subst hnm;refine e9 fX ?_;refine uJ (vs++[q.2]) (us++[p2]) ?_ rfl (hv.append (.cons k2 .nil)) (by simpa using hn)
  exact sz3 (Q:=λn us=>i.params.length=n+1->BindsTo s (d4 (Kf w.params) a) ⟨us,[(zX (j3 (Kf w.params) a),p2)]⟩ ((j3 (Kf w.params) a).zip (us++[p2]))) (λhn=>kp_binds hK λS=>i6 (bk1 w.params S p2) (zZ h hn)) (λb hn=>kp_binds hK λS=>i6 (bk2 w.params S b p2) (zZ h hn)) (λb c hn=>kp_binds hK λS=>i6 (bk3 w.params S b c p2) (zZ h hn)) (λb c d hn=>absurd eW (by rw[hn];decide)) (λn us hl hn=>absurd eW (by rw[hn];exact lR.mpr (mN hl))) hv hn
end
set_option tactic.hygienic false
theorem m5:∀{l:List Str},nX l=true->l.Nodup
 |[],_=>.nil
 |x::r,h=>by
  unfold nX at h;obtain⟨h1,h2⟩:=aL.mp h;refine gK.mpr ⟨λz=>?_,m5 h2⟩;have:r.any (λy=>y==x)=true:=fJ.mpr ⟨x,z,beq_self_eq_true x⟩;rw[this]at h1;exact bX h1
theorem pI:∀(l:List (Str×NameKind)) (n:Nat) (c8:List (Str×Addr)),(cellsFrom n l c8).map (·.1)=((l.filter (λx=>x.2==.cell)).map (·.1)).reverse++c8.map (·.1)
 |[],_,_=>rfl
 |(x,k)::r,n,c8=>by
  unfold cellsFrom;induction hk:k==NameKind.cell using Bool.casesOn with
  |true=>
   rw[if_pos rfl,pI r,kL,if_pos hk];simp
  |false=>
   rw[if_neg (by decide),pI r,kL,if_neg (by rw[hk];decide)]
theorem pJ{α:Type}:∀{l:List (Str×α)} {x:Str} {c:α},(l.map (·.1)).Nodup->(x,c)∈l->l.lookup x=some c
 |(y,d)::r,x,c,hn,h=>by
  obtain⟨h1,h2⟩:=gK.mp hn;rw[f6];rcases a7.mp h with e|e
  ·clear h;refine l8 e ?_;rw[beq_self_eq_true]
  ·have:(x==y)=false:=cK.mpr λz=>h1 (by rw[<-z];exact bR.mpr ⟨_,e,rfl⟩)
   rw[this];exact pJ h2 e
theorem pv_eq{x:Str}{i:Nat}(h:mS x=some i):(match mS x with|some i=>i|none=>0)=i:=by rw[h]
theorem Be{kd:Str->Option NameKind}{x:Str}:∀{l:List (Str×Value)} {m:Str->Option Value},x∉l.map (·.1)->bindL kd l m x=m x
 |[],_,_=>rfl
 |(n,v)::r,m,h=>by
  have f5:x≠n:=λz=>h (by rw[z];exact aE)
  unfold bindL;rw[Be λz=>h (aI _ z)];split
  ·exact if_neg f5
  ·rfl
theorem Bf{kd:Str->Option NameKind}{x:Str}:∀{l:List (Str×Value)} {m:Str->Option Value},x∉l.map (·.1)->bindC kd l m x=m x
 |[],_,_=>rfl
 |(n,v)::r,m,h=>by
  have f5:x≠n:=λz=>h (by rw[z];exact aE)
  unfold bindC;rw[Bf λz=>h (aI _ z)];split
  ·rfl
  ·exact if_neg f5
theorem z4{α:Type}:∀{ns:List Str} {us:List α} {x:Str},x∉ns->x∉(ns.zip us).map (·.1)
 |[],_,_,_=>by simp
 |_::_,[],_,_=>by simp
 |n::ns,u::us,x,h=>by
  rw[pQ,bO,a7];exact λz=>z.elim (λz=>h (by rw[z];exact aE)) (z4 λz=>h (aI _ z))
theorem Bg{R:V->Value->Prop}{kd:Str->Option NameKind}{x:Str}{i:Nat}(hx:mS x=some i):∀{ns:List Str} {vs:List V} {us:List Value} {v:V},AllR R vs us->(∀x∈ns,(mS x).isSome=true)->ns.Nodup->
  dZ i ((ns.map λx=>match mS x with|some i=>i|none=>0).zip vs)=some v->
  ∃u,R v u/\(∀m,kd x=some .local->bindL kd (ns.zip us) m x=some u)/\(∀m,kd x≠some .local->bindC kd (ns.zip us) m x=some u)
 |[],_,_,_,_,_,_,h=>by exact aY h
 |_::_,[],_,_,_,_,_,h=>by exact aY h
 |n::ns,v0::vs,us,v,ha,hs,hd,h=>by
  obtain⟨u0,us,rfl,r0,ha⟩:=ha.len1;obtain⟨d1,d2⟩:=gK.mp hd;obtain⟨j,hj⟩:=fE.mp (hs n aE);replace h:(bif Nat.beq i (match mS n with|some i=>i|none=>0)then some v0 else dZ i ((ns.map λx=>match mS x with|some i=>i|none=>0).zip vs))=some v:=h
  rw[pv_eq hj]at h;induction hb:Nat.beq i j using Bool.casesOn with
  |true=>
   rw[hb]at h;obtain rfl:=aC h;have:=aA hb;clear hb;subst this;have:=rW hx hj;clear hj hd hs;subst this;refine vA u0 r0 (λm hk=>?_) (λm hk=>?_)
   ·rw[pQ];unfold bindL;rw[Be (z4 d1),if_pos hk];exact if_pos rfl
   ·rw[pQ];unfold bindC;rw[Bf (z4 d1),if_neg hk];exact if_pos rfl
  |false=>
   rw[hb]at h;refine l6 (Bg (kd:=kd) hx ha (λy hy=>hs y (aI _ hy)) d2 h) λu r1 r2 r3=>?_;exact vA u r1 (λm hk=>r2 _ hk) (λm hk=>r3 _ hk)
section
variable{prog:Program}{w:World}{s₀ s s':Shared}{γ bP:Gh}{A:Around}{v:V}{u:Value}
theorem Bh(hS:St w s₀ γ s)(k:∀b o,s.heap.get? b=some o->s'.heap.get? b=some o)(hz:s.heap.objs.size<=s'.heap.objs.size)(hg:s'.gens=s.gens)(ho:s'.os=s.os):∀l:List Addr,(∀a∈l,s.heap.objs.size<=a/\∃o,s'.heap.get? a=some o)->
  ∃bP,St w s₀ bP s'/\Step [] γ bP [] []/\(∀a∈l,∀o,s'.heap.get? a=some o->bP a=some (.raw o))/\∀a,a∉l->bP a=γ a
 |[],_=>⟨γ,hS.grow k hz hg ho,.refl γ [],by simp,λ_ _=>rfl⟩
 |a::l,h=>by
  refine n8 (Bh hS k hz hg ho l λb hb=>h b (aI _ hb)) λbP S1 T1 r1 r2=>?_;obtain⟨ha,o,e⟩:=h a aE;by_cases hm:a∈l
  ·refine yU bP S1 T1 (λb hb=>?_) (λb hb=>r2 b λz=>hb (aI _ z));clear e ha h;rcases a7.mp hb with rfl|hb
   ·exact r1 _ hm
   ·exact r1 b hb
  ·have hf:dX bP a:=λg q=>hS.free' ha g ((r2 a hm).symm.trans q);refine yU (iZ bP a (some (.raw o))) ⟨S1.keep,S1.size,S1.ok.adopt (aR hS.size ha) hf (λx t dx q=>?_) e,S1.gens,S1.os⟩ (T1.trans (d6 _ [] hf)) (λb hb ob q=>?_) (λb hb=>?_)
   ·by_cases hx:x∈l
    ·obtain⟨_,ox,ex⟩:=h x (aI _ hx);rw[r1 x hx ox ex]at q;cases q
    ·rw[r2 x hx]at q;exact eU (aZ (hS.ok.dlt q) ha)
   ·clear hf ha h;rcases a7.mp hb with rfl|hb
    ·rw[e]at q;obtain rfl:=aC q;exact bK ..
    ·rw[cN λz=>hm (by rw[<-z];exact hb)];exact r1 b hb ob q
   ·rw[cN λz=>hb (by rw[z];exact aE)]
    exact r2 b λz=>hb (aI _ z)
end
set_option tactic.hygienic true
theorem DD{x:Str}:∀{l:List (Str×NameKind)} {n:Nat},(x,NameKind.cell)∈l->x∈(cellsFrom n l []).map (·.1):=λ{l n} h=>by
 rw[pI];exact b7.mpr (.inl (List.mem_reverse.mpr (bR.mpr ⟨_,dC.mpr ⟨h,rfl⟩,rfl⟩)))
theorem EZ{K:Frag}{fd:FuncData}{h:Heap}(X:K.In h)(c:BV K fd=true):h.CodeRec fd.code fd.qualname:=by
 exact Iv c nT λc' hc c=>oE c nT λo ho c=>fldsE c nT λvs hd c=>oE c nT λu hu c=>uStrE c nT λq t hq c=>⟨c',o,vs,t,hc,X _ _ ho,hd,by rw[hu,hq,eq_of_beq c]⟩
section
variable{prog:Program}{w:World}{s₀ s s' bZ:Shared}{γ bP:Gh}{A:Around}{v:V}{u:Value}{cf:cO}{d:Nat}
theorem Step.drop{X:List Addr}{dU:List Addr}(x:Step X γ bP [] dU):Step X γ bP [] []:=⟨x.ext,x.raw,⟨[],rfl,by simp⟩,x.dom⟩
theorem enter{K:Frag}{a L:Addr}{i:Fn}(I:Ent K a i)(hS:St w s₀ γ s){R:V->Value->Prop}{vs:List V}{us:List Value}(hv:AllR R vs us){env:Ev}(hsel:∀j v,dZ j env=some v->dZ j (i.params.zip vs)=some v/\∀u,R v u->VR γ [] v u){envM:Env}(he:envM=callEnvC (d4 K a) L a)
  (hI:InCallC s envM.locals (bindL envM.kindOf ((j3 K a).zip us) λ_=>none) envM.cells (bindC envM.kindOf ((j3 K a).zip us) λ_=>none) bZ):
  ∃bP,St w s₀ bP bZ/\Step [] γ bP [] []/\FmOk bP [] envM env/\EnvOk envM (d4 K a).scope/\gX envM/\(∀b∈pF envM,dX γ b)/\
   ∀y j v,mS y=some j->dZ j (i.params.zip vs)=some v->envM.kindOf y=some .local->∃o m u,bP envM.locals=some (.raw o)/\Dz o m/\m y=some u/\R v u:=by
 have hsc:envM.scope=(d4 K a).scope:=by rw[he];rfl
 have hcl:envM.cells=cellsFrom (L+1) (d4 K a).scope.names []:=by rw[he];rfl
 have hnd:(envM.cells.map (·.1)).Nodup:=by
  rw[hcl,pI,List.map_nil,bW];exact(List.reverse_perm _).nodup_iff.mpr (m5 I.cells)
 refine Oo (hI.toInCall.same) λh₁ tk e1=>?_;have hge:∀b∈pF envM,s.heap.objs.size<=b/\∃o,bZ.heap.get? b=some o:=λb hb=>by
  rcases a7.mp hb with rfl|hb
  ·refine QN (hI.toInCall.ns) λo _ _ q _=>?_;exact jAE hI.toInCall.fresh o q
  ·obtain⟨⟨x,c⟩,hx,rfl⟩:=bR.mp hb;refine i8 (hI.cell x c (pJ hnd hx)) λo q _=>?_;exact jAE (bD (aP hI.toInCall.fresh (hI.above x c hx))) o q
 have hLe:=hge envM.locals aE;obtain⟨oL,qL⟩:=hLe.2;refine n8 (Bh (s':=bZ) hS hI.toInCall.keep (bD (aP hLe.1 (Heap.lt_size qL))) (by rw[e1]) (by rw[e1]) (pF envM) hge) λbP S1 T1 r1 r2=>?_
 have ne:∀x c,envM.cells.lookup x=some c->c≠envM.locals:=λx c q=>sI (hI.above x c (mem_of_lookup q));have lk:=λ{x:Str} {j:Nat} {v:V} (hx:mS x=some j) (hl:dZ j (i.params.zip vs)=some v)=>Bg (R:=R) (kd:=envM.kindOf) hx hv (λy hy=>(I.pars y hy).2) (m5 I.nd) (by rw[I.par]at hl;exact hl)
 refine LM bP S1 T1 ⟨?_,λx c q=>?_,by simp,λx c q=>⟨by simp,ne x c q⟩,λx y c q q'=>name_of_addr hI.apart (mem_of_lookup q) (mem_of_lookup q')⟩ ⟨by rw[hsc];exact I.kind,by rw[he];exact I.globals,by rw[he];exact I.builtins,λx k q=>.inl ?_,λx q=>?_⟩ (λc hc=>?_) (λb hb=>hS.free' (hge b hb).1) (λy j v hx hl hk=>?_)
 ·obtain⟨o,q,n⟩:=Dz.of hI.toInCall.ns;refine nM o _ (r1 _ aE o q) n (λx j v hx hl hk=>?_);obtain⟨l1,l2⟩:=hsel j v hl;refine l6 (lk hx l1) λu z1 z2 _=>?_;exact kF u (z2 _ hk) ((l2 u z1).step T1)
 ·obtain⟨o,q1,q2⟩:=hI.cell x c q;refine nM o _ (r1 c (aI _ (tU q)) o q1) q2 (λj v hx hl hk=>?_);obtain⟨l1,l2⟩:=hsel j v hl;refine l6 (lk hx l1) λu z1 _ z3=>?_;exact kF u (z3 _ (by rcases hk with hk|hk<;>rw[hk]<;>decide)) ((l2 u z1).step T1)
 ·unfold Env.kindOf;rw[hsc,<-f8];exact q
 ·have cel:envM.kindOf x=some .cell->∃c,envM.cells.lookup x=some c:=λz=>by
   unfold Env.kindOf at z;rw[hsc]at z;have:=DD (n:=L+1) (m4 z);rw[<-hcl]at this;clear z q;obtain⟨⟨y,c⟩,hy,rfl⟩:=bR.mp this;exact jE c (pJ hnd hy)
  rcases q with q|q
  ·exact cel q
  ·unfold Env.kindOf at q;rw[hsc]at q;exact absurd rfl (I.free _ (m4 q))
 ·obtain⟨⟨x,c'⟩,hx,rfl⟩:=bR.mp hc;exact jE x (pJ hnd hx)
 ·obtain⟨o,q,n⟩:=Dz.of hI.toInCall.ns;refine l6 (lk hx hl) λu z1 z2 _=>?_;exact FH o _ u (r1 _ aE o q) n (z2 _ hk) z1
theorem Room.deep{envM:Env}(h:Room A (d+1) 0):Room (A.deeper envM) d 1:=⟨h.hand,by have:=h.dep;show A.depth+1+10*d+1<recursionLimit;lia,by have:=h.un;show A.units+3+60*d+12*1+60<cLine;lia⟩
theorem BW(hB:Base w s₀)(hS:St w s₀ γ s){a:Addr}{i:Fn}(I:Ent (Kf w.params) a i){us:List Value}{ukws:List (Str×Value)}{us':List Value}(B:BindsTo s (d4 (Kf w.params) a) ⟨us,ukws⟩ ((j3 (Kf w.params) a).zip us'))(hdep:A.depth<recursionLimit){R':V->Value->Prop}{vs:List V}
  (hv:AllR R' vs us') {env:Ev} (hsel:∀j v,dZ j env=some v->dZ j (i.params.zip vs)=some v/\∀u,R' v u->VR γ [] v u) {R:Result->Shared->Prop}
  (k:∀envM bZ aU,St w s₀ aU bZ->Step [] γ aU [] []->FmOk aU [] envM env->EnvOk envM (d4 (Kf w.params) a).scope->gX envM->(∀b∈pF envM,dX γ b)->
   (∀y j v,mS y=some j->dZ j (i.params.zip vs)=some v->envM.kindOf y=some .local->∃o m u,aU envM.locals=some (.raw o)/\Dz o m/\m y=some u/\R' v u)->
   wpAny (model prog w) (A.deeper envM) (execs (kZ (d4 (Kf w.params) a)) envM) (λf s'=>R (.ok (.ret (match f with|.ret v=>v|_=>.none))) s') fW bZ):
  codeAny (model prog w) A (.call (.ref a) ⟨us,ukws⟩) R s:=by
 have hK:=hB.K.keeps hS.keep;refine i8 (I.fd) λo ho hd=>?_;refine AJ (hB.top) λp lo mg mb T=>?_;refine codeAny_call_function hdep (hK _ _ ho) hd I.co I.gen I.body (EZ hK I.code) (B _ _ _ _ ?_);rw[I.closure];refine wpAny_newFunctionEnv_cells I.kind (λx hx=>?_) λenvM he bZ x=>⟨(T.nolimit.keeps hS.keep).keeps x.toInCall.keep,?_⟩
 ·have hm:=(List.of_mem_zip hx).1;rcases vQ (I.pars _ hm).1 with q|q
  ·rw[f8]at q;exact .inl q
  ·rw[f8]at q;refine .inr ⟨q,?_⟩;have:=DD (n:=s.heap.objs.size+1) (m4 q);obtain⟨⟨y,c⟩,hy,e⟩:=bR.mp this;rw[<-e,pJ (by rw[pI,List.map_nil,bW];exact(List.reverse_perm _).nodup_iff.mpr (m5 I.cells)) hy];rfl
 ·refine JX (enter I hS hv hsel (L:=s.heap.objs.size) he x) λaU S1 T1 F1 E1 CA W1 X1=>?_;exact codeAny_func (aD (k envM bZ aU S1 T1 F1 E1 CA W1 X1) (λ_ _ z=>z) λ_ _ z=>z.elim)
theorem Rn(hB:Base w s₀)(hc:rD prog w s₀ d cf)(hR:Room A (d+1) 0)(hS:St w s₀ γ s){a:Addr}{i:Fn}(hi:fi a=some i){vs:List V}{us:List Value}{kws:List (Nat×V)}{ukws:List (Str×Value)}(hv:AllR (VR γ []) vs us)(hk:AllR (Rb γ) kws ukws){env:Ev}
  (hb:vF i.params vs kws i.dflts=some env) {rv:Option V} {env':Ev} {cW:Cs} (hx:uN (bJ cf AD) i.body env []=some (rv,env',cW)):codeAny (model prog w) A (.call (.ref a) ⟨us,ukws⟩) (PC w s₀ γ (match rv with|some v=>v|none=>.none)) s:=by
 have I:=Nc w.params hi;refine uI (PL hi (hB.K.keeps hS.keep) hv hk hb) λvs' us' B zr3 hv' _=>?_;subst zr3;refine BW hB hS I B (by have:=hR.dep;lia) hv' (λ_ _ z=>⟨z,λ_ z=>z⟩) λenvM bZ aU S1 T1 F1 E1 CA W1 _=>?_
 refine u7 (oR hB hc (hR.deep (envM:=envM)) AD) λ_ _ IX _=>?_;clear hv';rw[I.stm]at hx;refine aD (zW IX E1 CA S1 (CsOk.nil w aU) F1 hx) (λf cZ z=>?_) λ_ _ z=>z;obtain⟨cL,eS,S2,C2,T2,F2,hf⟩:=z;have T3:Step [] γ cL [] []:=((T1.widen (by simp)).trans T2.drop).shrink λb hb=>.inl (W1 b hb)
 induction rv using Option.casesOn with
 |none=>
  replace hf:f=.next:=hf;subst hf;exact⟨.none,cL,rfl,S2,T3,.none⟩
 |some v=>
  refine i8 (hf) λu zr1 V2=>?_;subst zr1;exact⟨u,cL,rfl,S2,T3,V2⟩
end
noncomputable def ã:List Str:=[El,Dp,lU,lV,rT,vC,lI,dG]
theorem st1(P:Params):pV.all (λC=>findIn (Kf P) (.ref C) "__setattr__"==some (some (.builtin "object.__setattr__"))&&plainOver (Kf P) C&&hasDictIn (Kf P) C&&ã.all (λn=>takerIn (Kf P) C n==some none))=true:=by kernel_rfl!
structure InsR(γ:Gh)(x dx C:Addr)(fs:List (Str×V)):Prop where
 ins:γ x=some (.raw (instObj C dx))
 fld:∃es n,γ dx=some (.raw (dictOf es n))/\AllR (FR γ) fs es
section
variable{prog:Program}{w:World}{s₀ s s' bZ:Shared}{γ bP:Gh}{A:Around}{v:V}{u:Value}{x dx C:Addr}{fs:List (Str×V)}{ad dU:List Addr}
theorem InsR.step{X:List Addr}(h:InsR γ x dx C fs)(T:Step X γ bP ad dU)(h1:x∉ad/\x∉X)(h2:dx∉ad/\dx∉X):InsR bP x dx C fs:=
 let⟨es,n,a,b⟩:=h.fld
 ⟨T.raw _ _ h.ins h1.1 h1.2,es,n,T.raw _ _ a h2.1 h2.2,b.mono λ_ _ z=>z.mono T.ext⟩
theorem vR(name:Str)(hsh:Int)(key v:Value):∀es:List DictEntry,getL name es=some none->putL name hsh key v es=es++[⟨hsh,key,v⟩]
 |[],_=>rfl
 |e::r,h=>by
  rw[putL];induction hk:e.key.isStr name using Bool.casesOn with
  |true=>unfold getL at h;rw[List.find?_cons,hk]at h;cases h
  |false=>
   rw[if_neg (by decide),kK,vR name hsh key v r]
   unfold getL at h⊢;rw[List.find?_cons,hk]at h;dsimp only at h;induction hf:r.find? (·.key.isStr name) using Option.casesOn with
   |some e'=>rw[hf]at h;cases h
   |none=>
    rw[hf]at h;dsimp only at h⊢;rw[qX]at h;induction hr:r.any (·.refKey) using Bool.casesOn with
    |true=>rw[hr,Bool.or_true]at h;exact aY h
    |false=>rfl
theorem Gq{R:Result->Shared->Prop}{tk:Tok}{name:Str}{es:List DictEntry}{n:Nat}(hK:(Kf w.params).In s.heap)(hx:s.heap.get? x=some (instObj C dx))(D:s.heap.get? dx=some (dictOf es n))(c2:plainOver (Kf w.params) C=true)(c3:hasDictIn (Kf w.params) C=true)
  (ht:takerIn (Kf w.params) C name=some none) (gl:(getL name es).isSome=true) (hz:(putL name (PyData.keyHash w.params name) (.str name s.toks) u es).length<=1000)
  (q:R (.ok (.ret .none)) {s with heap:=s.heap.update dx (Obj.putName name (PyData.keyHash w.params name) (.str name s.toks) u),toks:=s.toks+1}):
  codeAny (model prog w) A (.call (.builtin "object.__setattr__") ⟨[.ref x,.str name tk,u],[]⟩) R s:=by
 have I:InstAt s.heap x (instObj C dx) C (some (dictOf es n)):=⟨hx,rfl,rfl,D⟩;refine osa_open hK I c2 ht λb=>?_;refine i8 (any_some c3) λcd hc hd'=>?_;have e:=putName_dict name (PyData.keyHash w.params name) (.str name s.toks) u es n;have D':(s.heap.update dx (Obj.putName name (PyData.keyHash w.params name) (.str name s.toks) u)).get? dx=some (dictOf (putL name (PyData.keyHash w.params name) (.str name s.toks) u es) (putN name es n)):=e▸Heap.get?_update_self _ D (e▸rfl);refine bF (wpAny_pure (bF (bF (wpAny_loadPart hx (bF ((looks_clsIn hK hc).here ?_))))));rw[hd'];refine wpAny_pure (a:=some dx) (bF (wpAny_pure (bF ?_)));unfold nsSet;refine bF (bF (wpAny_askSetting (wpAny_pure (bF (wpAny_mkText (bF (wpAny_loadPart D ?_)))))));dsimp only;have c:(!es.toArray.any (·.key.isStr name)&&es.toArray.any (·.refKey))=false:=by
  rw[<-Array.any_toList,<-Array.any_toList];unfold getL at gl;split at gl
  ·rename_i en he;rw[fJ.mpr ⟨en,List.mem_of_find?_eq_some he,List.find?_some he⟩];rfl
  ·split at gl
   ·exact bX gl
   ·rename_i z;rw[Bool.not_eq_true]at z;rw[z,Bool.and_false]
 rw[aRefKeyMayBeTheName_at,c];refine wpAny_updatePart D ?_;refine bF (wpAny_lookBehind D' (pastItsLine_dict (by rw[List.size_toArray,sizeLine_eq];exact LH hz)) ?_)
 exact wpAny_pure q
theorem z5(hB:Base w s₀)(hS:St w s₀ γ s)(hI:InsR γ x dx C fs)(hC:C∈pV){name:Str}(hn:name∈ã)(hl:cJ name fs=none)(hz:fs.length<=100)(hv:VR γ [] v u):
  wpAny (model prog w) A (setAttr (.ref x) name u) (λ_ s'=>∃bP,St w s₀ bP s'/\Step [dx] γ bP [] []/\InsR bP x dx C (fs++[(name,v)])) fW s:=by
 refine kY (hI.fld) λes n e2 r=>?_;have c:=aW.mp (st1 w.params) C hC;simp only[a9,beq_iff_eq]at c;obtain⟨⟨⟨c1,c2⟩,c3⟩,c4⟩:=c;have ht:=beq_iff_eq.mp (aW.mp c4 name hn);have hK:=hB.K.keeps hS.keep;have gl:=oZ r hl;have eW:=r.length;have hx:=hS.raw hI.ins;have D:=hS.raw e2;have e:Obj.putName name (PyData.keyHash w.params name) (.str name (s.toks+1)) u (dictOf es n)=dictOf (es++[⟨PyData.keyHash w.params name,.str name (s.toks+1),u⟩]) (putN name es n):=by rw[putName_dict,vR _ _ _ _ _ gl]
 have D':(s.heap.update dx (Obj.putName name (PyData.keyHash w.params name) (.str name (s.toks+1)) u)).get? dx=some (dictOf (es++[⟨PyData.keyHash w.params name,.str name (s.toks+1),u⟩]) (putN name es n)):=e▸Heap.get?_update_self _ D (e▸rfl);have T:Step [dx] γ (iZ γ dx (some (.raw (dictOf (es++[⟨PyData.keyHash w.params name,.str name (s.toks+1),u⟩]) (putN name es n))))) [] []:=gW _ [] e2 (.inr (by simp))
 have ne:x≠dx:=λz=>by
  have:=hI.ins;rw[z,e2]at this;cases this
 have I:InstAt s.heap x (instObj C dx) C (some (dictOf es n)):=⟨hx,rfl,rfl,D⟩;refine set_plain hK I c1 (Gq (s:={s with toks:=s.toks+1}) hK hx D c2 c3 ht (by rw[gl];rfl) (by rw[vR _ _ _ _ _ gl,bU,d0];lia) ?_)
 exact⟨_,hS.set (s':={s with heap:=s.heap.update dx (Obj.putName name (PyData.keyHash w.params name) (.str name (s.toks+1)) u),toks:=s.toks+1+1}) e2 (Heap.SameBut.update ..) D',T,(cN ne).trans hI.ins,_,_,bK ..,(r.mono λ_ _ z=>z.mono T.ext).append (.cons ⟨⟨_,rfl⟩,hv.mono T.ext λ_ _ e=>e⟩ .nil)⟩
end
set_option tactic.hygienic false
def jG:Str:=sT [115,101,108,102]
inductive GX where
 |b|mn|mx
 |lit (i:Int)
 |bin (op:Operator) (l r:GX)
inductive GT where
 |cmp (op:CmpOp) (l r:GX)
 |isint
 |bop (isAnd:Bool) (l r:GT)
inductive GP where
 |pair (l r:GX)
 |cond (t:GT) (p q:GP)
inductive GS where
 |asrt (t:GT)
 |ifR (t:GT) (p:GP)
 |ret (p:GP)
def wU(e:Expr):Bool:=qQ false e λx _=>lE x jG
def Ro(o:Expr)(a:Str):Option GX:=(qQ none o λx _=>bif lE x jG&&lE a Dp then some .b else none).or
 (vB none o λo' a' _=>bif wU o'&&lE a' El then(bif lE a lU then some .mn else bif lE a lV then some .mx else none)else none)
noncomputable def gx:Nat->Expr->Option GX
 |0,_=>none
 |n+1,e=>(FJ none e λc _ _=>LT none c λi=>some (.lit i)).or ((LO none e λl op r _=>(gx n l).bind λa=>(gx n r).map λb=>.bin op a b).or (vB none e λo a _=>Ro o a))
noncomputable def Nf:BoolOp->Bool
 |.And=>true
 |.Or=>false
def Rp(op:CmpOp)(l x:Expr):Option GT:=bif gD x then(gx 9 l).bind λa=>(gx 9 x).map λb=>.cmp op a b else none
def Fa(sc:Scope)(x y:Str)(o:Expr):Option GT:=(gx 9 o).bind λg=>bif Nat.beq g.ctorIdx 0&&(lE x oO&&lE y Dn&&Dw sc x&&Dw sc y)then some .isint else none
noncomputable def gt(sc:Scope):Nat->Expr->Option GT
 |0,_=>none
 |n+1,e=>(FK none e λl ops xs _=>xD none ops λop=>xD none xs λx=>Rp op l x).or
  ((LP none e λop es _=>AL none es λx y=>(gt sc n x).bind λa=>(gt sc n y).map λb=>.bop (Nf op) a b).or
  (yX none e λf args kws _=>qQ none f λx _=>AL none args λo c=>qQ none c λy _=>A9 none kws (Fa sc x y o)))
noncomputable def gp(sc:Scope):Nat->Expr->Option GP
 |0,_=>none
 |n+1,e=>(uB none e λes _ _=>AL none es λx y=>bif gE [x,y]then(gx 9 x).bind λa=>(gx 9 y).map λb=>.pair a b else none).or
  (LQ none e λt a b _=>(gt sc 9 t).bind λt=>(gp sc n a).bind λa=>(gp sc n b).map λb=>.cond t a b)
def gs(sc:Scope)(s:Stmt):Option GS:=(FL none s λt m _=>bif m.isNone then(gt sc 9 t).map .asrt else none).or
 ((OH none s λt a b _=>A9 none b (xD none a λr=>AM none r λe _=>e.bind λe=>(gt sc 9 t).bind λt=>(gp sc 9 e).map λp=>.ifR t p)).or
 (AM none s λe _=>e.bind λe=>(gp sc 9 e).map .ret))
noncomputable def nY(mn mx b:Int):GX->Option Int
 |.b=>some b
 |.mn=>some mn
 |.mx=>some mx
 |.lit i=>some i
 |.bin op l r=>(nY mn mx b l).bind λx=>(nY mn mx b r).bind λy=>(eY op x y).bind λv=>match v with
  |.int i=>some i
  |_=>none
noncomputable def qS(mn mx b:Int):GT->Option Bool
 |.cmp op l r=>(nY mn mx b l).bind λx=>(nY mn mx b r).bind λy=>OK op x y
 |.isint=>some true
 |.bop isAnd l r=>(qS mn mx b l).bind λx=>bif isAnd then(bif x then qS mn mx b r else some false)else(bif x then some true else qS mn mx b r)
noncomputable def wV(mn mx b:Int):GP->Option (Int×Int)
 |.pair l r=>(nY mn mx b l).bind λx=>(nY mn mx b r).map λy=>(x,y)
 |.cond t p q=>(qS mn mx b t).bind λc=>bif c then wV mn mx b p else wV mn mx b q
noncomputable def z6(mn mx b:Int):List GS->Option (Int×Int)
 |[]=>none
 |s::r=>match s with
  |.asrt t=>(qS mn mx b t).bind λc=>bif c then z6 mn mx b r else none
  |.ifR t p=>(qS mn mx b t).bind λc=>bif c then wV mn mx b p else z6 mn mx b r
  |.ret p=>wV mn mx b p
noncomputable def gMul:List GS:=[.asrt (.cmp .GtE .mn (.lit 0)),.ifR .isint (.cond (.cmp .GtE .b (.lit 0)) (.pair (.bin .Mult .mn .b) (.bin .Mult .mx .b)) (.pair (.bin .Mult .mx .b) (.bin .Mult .mn .b)))]
noncomputable def gDiv:List GS:=[.asrt (.bop true (.cmp .GtE .mn (.lit 0)) .isint),.ret (.pair (.bin .FloorDiv .mn .b) (.bin .FloorDiv .mx .b))]
noncomputable def gMod:List GS:=[.asrt (.bop true (.cmp .GtE .mn (.lit 0)) .isint),.ifR (.bop false (.cmp .GtE (.bin .Sub .mx .mn) .b) (.bop true (.cmp .NotEq .mn .mx) (.cmp .GtE (.bin .Mod .mn .b) (.bin .Mod .mx .b)))) (.pair (.lit 0) (.bin .Sub .b (.lit 1))),.ret (.pair (.bin .Mod .mn .b) (.bin .Mod .mx .b))]
noncomputable def gM(K:Frag)(C:Addr)(n:Str):Addr:=match findIn K (.ref C) n with
 |some r=>(match r with
  |some v=>(match v with
   |.ref f=>f
   |_=>0)
  |none=>0)
 |none=>0
def dP:Str:=sT [103,101,116,95,98,111,117,110,100,115]
theorem PM(P:Params):((kZ (d4 (Kf P) (gM (Kf P) 471 dP))).take 2).map (gs (d4 (Kf P) (gM (Kf P) 471 dP)).scope)=gMul.map some:=by kernel_rfl!
theorem PO(P:Params):(kZ (d4 (Kf P) (gM (Kf P) 512 dP))).map (gs (d4 (Kf P) (gM (Kf P) 512 dP)).scope)=gDiv.map some:=by kernel_rfl!
theorem PP(P:Params):(kZ (d4 (Kf P) (gM (Kf P) 560 dP))).map (gs (d4 (Kf P) (gM (Kf P) 560 dP)).scope)=gMod.map some:=by kernel_rfl!
set_option tactic.hygienic true
structure SelfAt(γ:Gh)(envM:Env)(x:Addr):Prop where
 loc:∃o m,γ envM.locals=some (.raw o)/\Dz o m/\m jG=some (.ref x)
 kind:envM.kindOf jG=some .local
 fn:envM.scope.kind=.function
theorem SelfAt.step{X:List Addr}{γ bP:Gh}{ad dU:List Addr}{envM:Env}{x:Addr}(h:SelfAt γ envM x)(T:Step X γ bP ad dU)(h1:envM.locals∉ad)(h2:envM.locals∉X):SelfAt bP envM x:=
 let⟨o,m,a,b⟩:=h.loc
 ⟨⟨o,m,T.raw _ _ a h1 h2,b⟩,h.kind,h.fn⟩
section
variable{prog:Program}{w:World}{s₀ s s' bZ:Shared}{γ bP:Gh}{A:Around}{v:V}{u:Value}{x dx C:Addr}{fs:List (Str×V)}{envM:Env}{sc:Scope}{d:Nat}{cf:cO}{ta:T}{b:Int}
theorem SelfAt.frm(h:SelfAt γ envM x)(hS:St w s₀ γ s):J5 s₀ s:=by
 refine fM (h.loc) λo m a b _=>?_;exact⟨envM.locals,m,b.ns (hS.raw a),hS.keep,hS.ok.lo _ _ a rfl⟩
theorem kG(h:SelfAt γ envM x)(hS:St w s₀ γ s){p:Pos}{Q:Value->Shared->Prop}{E:Value->Shared->Prop}(q:Q (.ref x) s):wpAny (model prog w) A (eval (.Name jG p) envM) Q E s:=by
 refine fM (h.loc) λo m a b c=>?_;exact wpAny_Name (wpAny_loadName_local h.fn h.kind (b.ns (hS.raw a)) c q) (by decide+kernel)
theorem wW(hB:Base w s₀)(h:SelfAt γ envM x)(hI:InsR γ x dx C fs)(hC:∃t:T,t.cls=C)(hS:St w s₀ γ s){n:Nm}(hn:n∈Mr)(hl:cJ (sR n) fs=some v):wpAny (model prog w) A (getAttr (.ref x) (sR n) true) (PN w s₀ γ v) fW s:=by
 refine kY (hI.fld) λes k e2 r=>?_;obtain⟨t,rfl⟩:=hC;have I:InstAt s.heap x (instObj t.cls dx) t.cls (some (dictOf es k)):=⟨hS.raw hI.ins,rfl,rfl,hS.raw e2⟩;obtain⟨u,hu,hr⟩:=rG r hl;obtain⟨attr,ha,hg⟩:=FX w.params t hn;obtain⟨L,m,F⟩:=h.frm hS;exact get_own F hB.K I (rX _ t _) (rE _ t) ha hg hu hr.handed (.mk' hS hr)
structure GJ(γ:Gh)(envM:Env)(x dx C:Addr)(ta:T)(b:Int):Prop where
 self:SelfAt γ envM x
 ins:InsR γ x dx C [(El,.node ta),(Dp,.int b)]
 cls:∃t:T,t.cls=C
theorem GJ.step(h:GJ γ envM x dx C ta b)(T:Step [] γ bP [] []):GJ bP envM x dx C ta b:=⟨h.self.step T (by simp) (by simp),h.ins.step T (by simp) (by simp),h.cls⟩
def Jk(prog:Program)(w:World)(s₀:Shared)(A:Around)(envM:Env)(x dx C:Addr)(ta:T)(b:Int)(e:Expr)(v:V):Prop:=∀s γ,GJ γ envM x dx C ta b->St w s₀ γ s->wpAny (model prog w) A (eval e envM) (PN w s₀ γ v) fW s
def Ng(prog:Program)(w:World)(s₀:Shared)(A:Around)(envM:Env)(x dx C:Addr)(ta:T)(b:Int)(e:Expr)(c:Bool):Prop:=∀s γ,GJ γ envM x dx C ta b->St w s₀ γ s->wpAny (model prog w) A (isTrue e envM (eval e envM)) (PT w s₀ γ [] c []) fW s
theorem PN.trans(T:Step [] γ bP [] [])(h:PN w s₀ bP v u s):PN w s₀ γ v u s:=let⟨g,a,b,c⟩:=h;⟨g,a,T.trans b,c⟩
theorem pK{e:Expr}(h:wU e=true):∃p,e=.Name jG p:=OE h nT λx p e h=>⟨p,by rw[e,fY h]⟩
theorem tV{o:Expr}{n:Str}{p:Pos}{Q:Value->Shared->Prop}(hb:wJ o=true)(h:wpAny (model prog w) A (eval o envM) (λu bZ=>wpAny (model prog w) A (getAttr u n true) Q fW bZ) fW s):wpAny (model prog w) A (eval (.Attribute o n p) envM) Q fW s:=
 Attribute_any_ h (by show(do let x<-attributeBase o n envM (eval o envM);standAt p.atName;let r<-holding [x] (getAttr x n true);letTemporaryGo o x r;pure r)=_;rw[BK hb])
theorem Nh(hB:Base w s₀){o:Expr}{n:Str}{g:GX}{p:Pos}{i:Int}(h:Ro o n=some g)(hi:nY ta.lo ta.hi b g=some i):Jk prog w s₀ A envM x dx C ta b (.Attribute o n p) (.int i):=λs γ hJ hS=>by
 refine J0 h (λh=>OE h nS λy q e h=>dJ h λhc h=>fF hc λh1 h2=>?_) λh=>Iu h nS λo' n' q e h=>dJ h λhc h=>fF hc λh1 h2=>?_
 ·obtain rfl:=aC h;obtain rfl:=aC hi;rw[e,fY h1,fY h2];exact tV rfl (kG hJ.self hS (wW (n:=.b) hB hJ.self hJ.ins hJ.cls hS (by decide+kernel) rfl))
 ·obtain⟨q',e'⟩:=pK h1;rw[e,e',fY h2];refine tV rfl (tV rfl (kG hJ.self hS (aD (wW (n:=.a) (v:=.node ta) hB hJ.self hJ.ins hJ.cls hS (by decide+kernel) rfl) (λlH bZ z=>?_) λ_ _ z=>z)))
  clear e e' h1 h2;obtain⟨aU,S1,T1,V1⟩:=z;refine V1.nodeI λa da ea=>?_;have F:=(hJ.step T1).self.frm S1;clear hS hJ;induction h3:lE n lU using Bool.casesOn with
  |true=>
   rw[h3]at h;obtain rfl:=aC h;obtain rfl:=aC hi;rw[fY h3];exact aD (BG (n:=.min) hB S1 F ea rfl) (λ_ _ z=>z.trans T1) λ_ _ z=>z
  |false=>
   rw[h3]at h;refine dJ (show(bif lE n lV then some GX.mx else none)=some g from h) λh4 h=>?_;obtain rfl:=aC h;obtain rfl:=aC hi;rw[fY h4];exact aD (BG (n:=.max) hB S1 F ea rfl) (λ_ _ z=>z.trans T1) λ_ _ z=>z
theorem YH{l r:Expr}{op:Operator}{p:Pos}{c d:Int}{v:V}(h1:Jk prog w s₀ A envM x dx C ta b l (.int c))(h2:Jk prog w s₀ A envM x dx C ta b r (.int d))(h5:eY op c d=some v):Jk prog w s₀ A envM x dx C ta b (.BinOp l op r p) v:=λs γ hJ hS=>by
 refine wpAny_BinOp (aD (h1 s γ hJ hS) (λlH bZ z=>?_) λ_ _ z=>z);obtain⟨aU,S1,T1,V1⟩:=z;refine aD (h2 bZ aU (hJ.step T1) S1) (λu₂ cZ z=>?_) λ_ _ z=>z;obtain⟨cL,S2,T2,V2⟩:=z;refine V1.intI λt1=>?_;refine V2.intI λt2=>?_;exact aD (D2 S2 h5) (λ_ _ z=>z.trans (T1.trans T2)) λ_ _ z=>z
theorem z7(hB:Base w s₀):∀(n:Nat) {e:Expr} {g:GX} {i:Int},gx n e=some g->nY ta.lo ta.hi b g=some i->Jk prog w s₀ A envM x dx C ta b e (.int i)
 |0,_,_,_,h,_=>aY h
 |n+1,e,g,i,h,hi=>by
  refine J0 h (λh=>cstE h nS λc k p e h=>intE h nS λj ec h=>?_) λh=>J0 h (λh=>binE h nS λl op r p e h=>bH h λgl h1 h=>eV h λgr h2 h=>?_) λh=>Iu h nS λo a p e h=>e▸Nh hB h hi
  ·obtain rfl:=aC h;obtain rfl:=aC hi;subst e ec;exact λs γ hJ hS=>wpAny_Constant_int (.mk' hS (.int ..))
  ·subst h;refine bH hi λx h3 hi=>bH hi λy h4 hi=>bH hi λv h5 hi=>?_;induction v using V.casesOn with
   |int i=>refine e9 hi ?_;exact e▸YH (z7 hB n h1 h3) (z7 hB n h2 h4) h5
   |_=>exact aY hi
end
set_option tactic.hygienic false
theorem BX{sc:Scope}{x:Str}(h:Dw sc x=true):cJ x sc.names=some .globalImplicit:=lN h
section
variable{prog:Program}{w:World}{s₀ s s' bZ:Shared}{γ bP:Gh}{A:Around}{v:V}{u:Value}{x dx C:Addr}{fs:List (Str×V)}{envM:Env}{sc:Scope}{d:Nat}{cf:cO}{ta:T}{b:Int}
theorem BY(hB:Base w s₀)(hE:EnvOk envM sc)(hS:St w s₀ γ s){y:Str}{p:Pos}{n:Bi}(hx:cJ y sc.names=some .globalImplicit)(hb:cJ y biT=some n){Q:Value->Shared->Prop}{E:Value->Shared->Prop}(q:Q (zK n) s):wpAny (model prog w) A (eval (.Name y p) envM) Q E s:=by
 have hm:=aW.mp (bi1 w.params) _ (mX hb);simp only[a9,beq_iff_eq,Bool.not_eq_true',cK]at hm;obtain⟨⟨⟨h1,h2⟩,h3⟩,h4⟩:=hm;have hk:envM.kindOf y=some .globalImplicit:=by rcases hE.names y _ hx with q|⟨q,_⟩<;>first|exact q|cases q
 refine AJ (hB.top) λp' lo mg mb T=>?_;have T':=T.keeps hS.keep;exact Name_function_global hE.kind hk (loadGlobal_builtin (by rw[hE.globals];exact T'.g) (mg_none_of hB.K T.g h1) (by rw[hE.builtins];exact T'.b) ((T.builtins y h3).trans h2) q) (cK.mpr h4)
theorem PT.pn{c c':Bool}(h:PT w s₀ γ [] c [] c' s):c'=c/\∃bP,St w s₀ bP s/\Step [] γ bP [] []:=by
 obtain⟨rfl,bP,dU,S,C,T⟩:=h;exact jAEA rfl bP S T.drop
theorem PT.of{c:Bool}(hS:St w s₀ bP s)(T:Step [] γ bP [] []):PT w s₀ γ [] c [] c s:=⟨rfl,bP,[],hS,CsOk.nil w bP,T⟩
theorem YI(hB:Base w s₀){l r:Expr}{op:CmpOp}{p:Pos}{g:GT}{c:Bool}(h:Rp op l r=some g)(hi:qS ta.lo ta.hi b g=some c):Ng prog w s₀ A envM x dx C ta b (.Compare l [op] [r] p) c:=λs γ hJ hS=>by
 refine dJ h ?_;clear h;intro hn h;refine bH h ?_;clear h;intro gl h1 h;refine eV h ?_;clear h;intro gr h2 h;subst h;refine bH hi ?_;clear hi;intro i h3 hi;refine bH hi ?_;clear hi;intro j h4 hi;refine wpAny_isTrue_Compare1 (aD (z7 hB 9 h1 h3 s γ hJ hS) (λlH bZ z=>?_) λ_ _ z=>z) (zO op hn);obtain⟨aU,S1,T1,V1⟩:=z;refine aD (z7 hB 9 h2 h4 bZ aU (hJ.step T1) S1) (λu₂ cZ z=>?_) λ_ _ z=>z;obtain⟨cL,S2,T2,V2⟩:=z;refine V1.intI λt1=>?_;refine V2.intI λt2=>?_;refine aD (Gb S2 hi) (λu₃ lT z=>?_) λ_ _ z=>z;obtain⟨iY,S3,T3,V3⟩:=z;exact aD (sZ S3 (CsOk.nil w iY) V3 (show eM (.bool c) []=some c from rfl)) (λ_ _ z=>z.trans ((T1.trans T2).trans T3)) λ_ _ z=>z
theorem YJ{n:Nat}(IH:∀{e:Expr} {g:GT} {c:Bool},gt sc n e=some g->qS ta.lo ta.hi b g=some c->Ng prog w s₀ A envM x dx C ta b e c){op:BoolOp}{y z:Expr}{p:Pos}{g:GT}{c:Bool}(h:((gt sc n y).bind λa=>(gt sc n z).map λb=>GT.bop (Nf op) a b)=some g)(hi:qS ta.lo ta.hi b g=some c):Ng prog w s₀ A envM x dx C ta b (.BoolOp op [y,z] p) c:=λs γ hJ hS=>by
 refine bH h ?_;clear h;intro g1 h1 h;refine eV h ?_;clear h;intro g2 h2 h;subst h;replace hi:((qS ta.lo ta.hi b g1).bind λx=>bif (Nf op)then(bif x then qS ta.lo ta.hi b g2 else some false)else(bif x then some true else qS ta.lo ta.hi b g2))=some c:=hi;refine bH hi ?_;clear hi;intro c1 h3 hi;have first:=IH h1 h3 s γ hJ hS;induction op using PySem.BoolOp.casesOn with
 |And=>
  refine isTrue_and (aD first (λc' bZ q=>?_) λ_ _ z=>z);refine B4 (q.pn) λzr0 aU S1 T1=>?_;subst zr0;induction c' using Bool.casesOn with
  |false=>rw[<-aC hi];exact .of S1 T1
  |true=>
   refine isTrue_and (aD (IH h2 hi bZ aU (hJ.step T1) S1) (λc' cZ q=>?_) λ_ _ z=>z);refine B4 (q.pn) λzr0 cL S2 T2=>?_;subst zr0;induction c' using Bool.casesOn with
   |false=>exact .of S2 (T1.trans T2)
   |true=>exact isTrue_and_nil (.of S2 (T1.trans T2))
 |Or=>
  refine isTrue_or (aD first (λc' bZ q=>?_) λ_ _ z=>z);refine B4 (q.pn) λzr0 aU S1 T1=>?_;subst zr0;induction c' using Bool.casesOn with
  |true=>rw[<-aC hi];exact .of S1 T1
  |false=>
   refine isTrue_or (aD (IH h2 hi bZ aU (hJ.step T1) S1) (λc' cZ q=>?_) λ_ _ z=>z);refine B4 (q.pn) λzr0 cL S2 T2=>?_;subst zr0;induction c' using Bool.casesOn with
   |true=>exact .of S2 (T1.trans T2)
   |false=>exact isTrue_or_nil (.of S2 (T1.trans T2))
theorem gt_b{y z:Str}{o:Expr}{g:GT}(h:Fa sc y z o=some g):gx 9 o=some .b/\y=oO/\z=Dn/\Dw sc y=true/\Dw sc z=true/\g=GT.isint:=
 bH h λg' hg h=>dJ h λhc h=>fF hc λc0 hc=>fF hc λhc c4=>fF hc λhc c3=>fF hc λc1 c2=>
  ⟨hg.trans (congrArg some (GX.b.elim (motive:=λz=>z=.b) g' (aA c0) rfl)),fY c1,fY c2,c3,c4,(aC h).symm⟩
theorem PQ(hB:Base w s₀)(hE:EnvOk envM sc){y z:Str}{o:Expr}{q r p:Pos}{g:GT}{c:Bool}(h:Fa sc y z o=some g)(hi:qS ta.lo ta.hi b g=some c):Ng prog w s₀ A envM x dx C ta b (.Call (.Name y q) [o,.Name z r] [] p) c:=λs γ hJ hS=>by
 refine XN (gt_b h) λhg zr1 zr2 c3 c4 zr5=>?_;subst zr1;subst zr2;subst zr5;rw[<-aC hi];clear h hi;refine isTrue_plain ?_ rfl;show wpAny _ _ (do callWith p (<-eval (.Name oO q) envM) [] (backTo p (starEach [o,.Name Dn r] envM)) (backToKw p (keywordEach [] envM))) _ _ _
 have hst:gE [o,.Name Dn r]=true:=by induction o using PySem.Expr.casesOn<;>first|rfl|exact aY hg
 refine bF (BY hB hE hS (n:=.isinstance) (BX c3) rfl (callWith_of (P:=λ_=>True) (by rw[D4 hst];rfl) (λhh X=>⟨.machine,.inr (.inl rfl),Looks.of_pure rfl⟩) ?_))
 refine evalArgs_kw2 rfl (args_cons (aD (z7 hB 9 hg (i:=b) rfl s γ hJ hS) (λlH bZ z=>?_) λ_ _ z=>z) (mU hst envM).1) (mU hst envM).1;obtain⟨aU,S1,T1,V1⟩:=z;refine args_cons (BY hB hE S1 (n:=.int) (BX c4) rfl (args_nil (kwAll_nil ⟨trivial,?_⟩))) (mU (mU hst envM).2 envM).1;refine aD (AS hB S1 V1 (VR.bi Bi.int) (b:=true) rfl) (λu₂ cZ z=>?_) λ_ _ z=>z;obtain⟨cL,S2,T2,V2⟩:=z;exact aD (sZ S2 (CsOk.nil w cL) V2 (show eM (.bool true) []=some true from rfl)) (λ_ _ z=>z.trans (T1.trans T2)) λ_ _ z=>z
theorem Ni(hB:Base w s₀)(hE:EnvOk envM sc)(n:Nat):∀{e:Expr} {g:GT} {c:Bool},gt sc n e=some g->qS ta.lo ta.hi b g=some c->Ng prog w s₀ A envM x dx C ta b e c:=by
 induction n with
 |zero=>exact λh _=>aY h
 |succ n ih=>
  refine λ{e g c} h hi=>J0 h (λh=>cmpE h nS λl ops xs p e h=>Es h nS λop e1 h=>Es h nS λx e2 h=>?_) λh=>J0 h (λh=>bopE h nS λop es p e h=>OC h nS λy z e1 h=>?_)
   λh=>OF h nS λf args kws p e h=>OE h nS λy q e1 h=>OC h nS λo c e2 h=>OE h nS λz r e3 h=>Op h nS λe4 h=>?_
  ·subst e1 e2;exact e▸YI hB h hi
  ·subst e1;exact e▸YJ ih h hi
  ·subst e1 e3 e4;subst e2;exact e▸PQ hB hE h hi
end
set_option tactic.hygienic true
section
variable{prog:Program}{w:World}{s₀ s s' bZ:Shared}{γ bP:Gh}{A:Around}{v:V}{u:Value}{x dx C:Addr}{fs:List (Str×V)}{envM:Env}{sc:Scope}{d:Nat}{cf:cO}{ta:T}{b:Int}
theorem Nj(hB:Base w s₀)(hE:EnvOk envM sc):∀(n:Nat) {e:Expr} {g:GP} {r:Int×Int},gp sc n e=some g->wV ta.lo ta.hi b g=some r->Jk prog w s₀ A envM x dx C ta b e (.tup [.int r.1,.int r.2])
 |0,_,_,_,h,_=>aY h
 |n+1,e,g,r,h,hi=>λs γ hJ hS=>by
  refine J0 h (λh=>LN h nS λes k p e h=>OC h nS λy z e1 h=>dJ h λhst h=>bH h λg1 h1 h=>eV h λg2 h2 h=>?_) λh=>iteE h nS λt y z p e h=>bH h λg0 h0 h=>bH h λg1 h1 h=>eV h λg2 h2 h=>?_
  ·subst h e1;refine bH hi λi h3 hi=>eV hi λj h4 hi=>?_;subst hi e;refine Tuple_ (args_cons (aD (z7 hB 9 h1 h3 s γ hJ hS) (λlH bZ z=>?_) λ_ _ z=>z) (mU hst envM).1);obtain⟨aU,S1,T1,V1⟩:=z;refine args_cons (aD (z7 hB 9 h2 h4 bZ aU (hJ.step T1) S1) (λu₂ cZ z=>args_nil ?_) λ_ _ z=>z) (mU (mU hst envM).2 envM).1;obtain⟨cL,S2,T2,V2⟩:=z;exact aD (sY S2 (.cons (V1.step T2) (.cons V2 .nil)) (by simp)) (λ_ _ z=>z.trans (T1.trans T2)) λ_ _ z=>z
  ·subst h;refine bH (show((qS ta.lo ta.hi b g0).bind λc=>bif c then wV ta.lo ta.hi b g1 else wV ta.lo ta.hi b g2)=some r from hi) λc h3 hi=>?_;subst e;refine wpAny_IfExp (aD (Ni hB hE 9 h0 h3 s γ hJ hS) (λc' bZ q=>?_) λ_ _ z=>z);refine B4 (q.pn) λzr0 aU S1 T1=>?_;subst zr0;induction c' using Bool.casesOn with
   |true=>exact aD (Nj hB hE n h1 hi bZ aU (hJ.step T1) S1) (λ_ _ z=>z.trans T1) λ_ _ z=>z
   |false=>exact aD (Nj hB hE n h2 hi bZ aU (hJ.step T1) S1) (λ_ _ z=>z.trans T1) λ_ _ z=>z
inductive PR(w:World)(s₀:Shared)(γ:Gh)(v:V)(f:Flow)(s':Shared):Prop
 |mk (u:Value) (bP:Gh):f=.ret u->St w s₀ bP s'->Step [] γ bP [] []->VR bP [] v u->PR w s₀ γ v f s'
theorem PR.trans{f:Flow}(T:Step [] γ bP [] [])(h:PR w s₀ bP v f s):PR w s₀ γ v f s:=let⟨u,g,e,a,b,c⟩:=h;⟨u,g,e,a,T.trans b,c⟩
theorem Nk(hB:Base w s₀)(hE:EnvOk envM sc){e:Expr}{p:Pos}{q:GP}{r:Int×Int}(h1:gp sc 9 e=some q)(h2:wV ta.lo ta.hi b q=some r)(hJ:GJ γ envM x dx C ta b)(hS:St w s₀ γ s):wpAny (model prog w) A (exec (.Return (some e) p) envM) (PR w s₀ γ (.tup [.int r.1,.int r.2])) fW s:=
 wpAny_Return_some (aD (Nj hB hE 9 h1 h2 _ _ hJ hS) (λu cZ z=>by obtain⟨g,a,b,c⟩:=z;exact⟨u,g,rfl,a,b,c⟩) λ_ _ z=>z)
theorem Nl(hB:Base w s₀)(hE:EnvOk envM sc){r:Int×Int}(rest:List Stmt):∀{body:List Stmt} {gl:List GS},body.map (gs sc)=gl.map some->z6 ta.lo ta.hi b gl=some r->∀s γ,GJ γ envM x dx C ta b->St w s₀ γ s->wpAny (model prog w) A (execs (body++rest) envM) (PR w s₀ γ (.tup [.int r.1,.int r.2])) fW s
 |[],[],_,h=>aY h
 |[],_::_,h,_=>nomatch h
 |_::_,[],h,_=>nomatch h
 |c::body,g::gl,h,hi=>λs γ hJ hS=>by
  obtain⟨h1,h2⟩:=List.cons.inj h;refine wpAny_execs_cons ?_;refine J0 h1 (λh1=>asrE h1 nS λt m p e h1=>dJ h1 λcm h1=>eV h1 λg0 h0 h1=>?_) λh1=>J0 h1 (λh1=>ifE h1 nS λt a o p e h1=>Op h1 nS λeo h1=>Es h1 nS λrs ea h1=>OI h1 nS λex q er h1=>bH h1 λe' eq h1=>bH h1 λg0 h0 h1=>eV h1 λg1 h4 h1=>?_) λh1=>OI h1 nS λex p e h1=>bH h1 λe' eq h1=>eV h1 λg0 h0 h1=>?_
  ·rw[e,fZ.mp cm];clear h;subst h1;refine bH (show((qS ta.lo ta.hi b g0).bind λc=>bif c then z6 ta.lo ta.hi b gl else none)=some r from hi) λc h3 hi=>dJ hi λhc hi=>?_;subst hc;refine wpAny_Assert_holds (aD (Ni hB hE 9 h0 h3 s γ hJ hS) (λc' bZ q=>?_) λ_ _ z=>z);refine B4 (q.pn) λzr0 aU S1 T1=>?_;subst zr0;exact⟨rfl,aD (Nl hB hE rest h2 hi bZ aU (hJ.step T1) S1) (λ_ _ z=>z.trans T1) λ_ _ z=>z⟩
  ·rw[e,eo,ea,er,eq];clear h;subst h1;refine bH (show((qS ta.lo ta.hi b g0).bind λc=>bif c then wV ta.lo ta.hi b g1 else z6 ta.lo ta.hi b gl)=some r from hi) λc h3 hi=>?_;refine wpAny_If (aD (Ni hB hE 9 h0 h3 s γ hJ hS) (λc' bZ q=>?_) λ_ _ z=>z);refine B4 (q.pn) λzr0 aU S1 T1=>?_;subst zr0;induction c' using Bool.casesOn with
   |true=>
    refine wpAny_execs_cons (aD (Nk hB hE h4 hi (hJ.step T1) S1) (λf cZ z=>?_) λ_ _ z=>z);obtain⟨u,g,rfl,a,b,c⟩:=z;exact⟨u,g,rfl,a,T1.trans b,c⟩
   |false=>exact wpAny_execs_nil (aD (Nl hB hE rest h2 hi bZ aU (hJ.step T1) S1) (λ_ _ z=>z.trans T1) λ_ _ z=>z)
  ·rw[e,eq];clear h;subst h1;refine aD (Nk hB hE h0 hi hJ hS) (λf cZ z=>?_) λ_ _ z=>z;obtain⟨u,g,rfl,a,b,c⟩:=z;exact⟨u,g,rfl,a,b,c⟩
end
set_option tactic.hygienic false
def kT:Str:=sT [95,95,105,110,105,116,95,95]
def ä(K:Frag):List Addr:=[gM K 471 dP,gM K 512 dP,gM K 560 dP,gM K 644 dP,gM K 331 kT,gM K 277 kT,gM K 471 kT,gM K 644 kT]
theorem xent(P:Params):(ä (Kf P)).all (λa=>wS (Kf P) (a,xY (Kf P) a []))=true:=by kernel_rfl!
theorem xb1(P:Params)(S:Setting)(u:Value):[471,512,560,644].map (λC=>peek (Kf P) S (bindArgs (d4 (Kf P) (gM (Kf P) C dP)) ⟨[u],[]⟩))=[471,512,560,644].map (λ_=>some [(jG,u)]):=by kernel_rfl!
theorem xnm(P:Params):[471,512,560,644].map (λC=>j3 (Kf P) (gM (Kf P) C dP))=[471,512,560,644].map (λ_=>[jG]):=by kernel_rfl!
theorem xloc(P:Params):[471,512,560,644].all (λC=>(d4 (Kf P) (gM (Kf P) C dP)).scope.names.lookup jG==some .local)=true:=by kernel_rfl!
section
variable{prog:Program}{w:World}{s₀ s s' bZ:Shared}{γ bP:Gh}{A:Around}{v:V}{u:Value}{x dx C:Addr}{fs:List (Str×V)}{envM:Env}{sc:Scope}{d:Nat}{cf:cO}{ta:T}{b:Int}
theorem Rq(P:Params){a:Addr}(h:a∈ä (Kf P)):Ent (Kf P) a (xY (Kf P) a []):=EY (aW.mp (xent P) _ h) rfl
theorem b_mem(P:Params):∀C∈[471,512,560,644],gM (Kf P) C dP∈ä (Kf P):=λC h=>by
 unfold ä;simp only[a7,fK,or_false]at h;rcases h with rfl|rfl|rfl|rfl<;>simp
end
theorem xJ(is:List Int):∀k,k<=is.length->preSum (λi=>(is[i]?).getD 0) k=(is.take k).sum
 |0,_=>rfl
 |k+1,h=>by
  have hk:k<is.length:=h;rw[preSum];rw[xJ is k (bD hk),List.take_add_one,List.getElem?_eq_getElem hk,List.sum_append];simp
section
variable{prog:Program}{w:World}{s₀ s s' bZ:Shared}{γ bP:Gh}{A:Around}{v:V}{u:Value}{x dx C:Addr}{fs:List (Str×V)}{envM:Env}{sc:Scope}{d:Nat}{cf:cO}{ta:T}{b:Int}
theorem YK(hh:A.handled=none)(hS:St w s₀ γ s){a eb:Addr}{ob:Obj}{vs:Array Value}(he:γ eb=some (.raw ob))(hl:s.heap.IsList a vs){is:List Int}(hv:AllR (VR γ []) (is.map V.int) vs.toList):
  wpAny (model prog w) A (call (.builtin "sum") [.ref a]) (PN w s₀ γ (.int is.sum)) fW s:=by
 have eW:is.length=vs.size:=by have:=hv.length;simpa using this
 refine call_sum_walkAnyS (wpAny_pyIter_list hl ?_);have ha:a<s.heap.objs.size:=by refine i8 (hl) λo h _=>?_;exact Heap.lt_size h
 refine yW s.heap.objs.size _ _ _ _ _ _ (λi=>(is[i]?).getD 0) rfl ((Walks.list (prog:=prog) (w:=w) (A:=A.in1) hh s.heap.objs.size a (eU ha) vs).toS) ⟨⟨_,Heap.get?_push_size _ rfl,rfl,rfl⟩,?_⟩ (λc hc=>?_) (λi v hi=>?_) (λs' t' hm=>?_)
 ·refine i8 (hl) λo h r=>?_;exact kF o (Heap.get?_push_of_some _ h) r
 ·simp only[a7,fK,or_false]at hc;rw[Heap.size_push];clear hl;rcases hc with rfl|rfl
  ·exact fL _
  ·exact Nat.lt_succ_of_lt ha
 ·refine i8 (hv.get' (i:=i) (b:=v) (by simpa using hi)) λc hc r=>?_
  rw[List.getElem?_map]at hc;refine eV hc ?_;clear hc;intro j hj e;subst e;clear hi;refine r.intI λt=>?_;exact jE t (by show Value.int j t=Value.int ((is[i]?).getD 0) t;rw[hj];rfl)
 ·rw[<-eW,xJ is _ (cA _),List.take_length];refine .mk' (hS.grow' (s':=s') he (λb o h=>hm.heap b o ?_ (Heap.get?_push_of_some _ h)) hm.gens hm.os) (.int ..);simp only[aN];exact eU (Heap.lt_size h)
end
set_option tactic.hygienic true
def PU(e:Expr):Bool:=vB false e λo a _=>wU o&&lE a lI
noncomputable def xVar(i:Nat)(o:X):Bool:=X.casesOn (motive_1:=λ_=>Bool) o false (λj=>Nat.beq i j) (λ_=>false) (λ_=>false) false (λ_=>false) (λ_=>false) (λ_=>false) (λ_ _ _=>false) (λ_=>false) (λ_=>false) (λ_ _=>false) (λ_ _=>false) (λ_ _ _=>false) (λ_ _ _=>false) (λ_=>false) (λ_=>false) false (λ_ _=>false) (λ_ _=>false) (λ_ _=>false) (λ_ _ _ _=>false) (λ_ _ _=>false) (λ_ _ _ _=>false) (λ_ _ _ _ _=>false) (λ_ _ _ _=>false)
def xAt(m:Nm)(i:Nat)(x:X):Bool:=X.casesOn (motive_1:=λ_=>Bool) x false (λ_=>false) (λ_=>false) (λ_=>false) false (λ_=>false) (λ_=>false) (λ_=>false) (λ_ _ _=>false) (λ_=>false) (λ_=>false) (λ_ _=>false) (λ_ _=>false) (λ_ _ _=>false) (λ_ _ _=>false) (λ_=>false) (λ_=>false) false (λo k=>xVar i o&&decide (k=m)) (λ_ _=>false) (λ_ _=>false) (λ_ _ _ _=>false) (λ_ _ _=>false) (λ_ _ _ _=>false) (λ_ _ _ _ _=>false) (λ_ _ _ _=>false)
theorem PV{m:Nm}{i:Nat}{x:X}(h:xAt m i x=true):x=.attr (.var i) m:=by
 induction x using X.casesOn with
 |attr o k=>
  refine fF h λh1 h2=>?_;rw[aM h2];induction o using X.casesOn with
  |var j=>rw[aA h1]
  |_=>exact bX h1
 |_=>exact bX h
def sbArg(sc:Scope)(m:Nm)(e:Expr):Bool:=OG false e λelt gens dA _=>xD false gens λg=>decide (g.is_async=0)&&g.ifs.isEmpty&&jT sc dA (jS g.target)&&gD g.iter&&PU g.iter&&xD false (uF dA g.target) λi=>xAt m i (er 20 dA elt)
def sb(sc:Scope)(m:Nm)(e:Expr):Bool:=yX false e λf args kws _=>qQ false f λy _=>xD false args λc=>A9 false kws (lE y AO&&Dw sc y&&sbArg sc m c)
def Fb(sc:Scope)(body:List Stmt):Bool:=xD false body λc=>AM false c λe _=>pX false e λe=>uB false e λes _ _=>AL false es λa b=>gE [a,b]&&sb sc .min a&&sb sc .max b
theorem PW(P:Params):Fb (d4 (Kf P) (gM (Kf P) 644 dP)).scope (kZ (d4 (Kf P) (gM (Kf P) 644 dP)))=true:=by kernel_rfl!
noncomputable def fB:cO:=λ_ _ _=>none
theorem pB{prog:Program}{w:World}{s₀:Shared}{d:Nat}:rD prog w s₀ d fB:=λ_ _ _ _ _ _ _ _ _ _ _ _ _ _ h=>by exact aY h
theorem Bj{m:Nm}{val:T->Int}(hval:∀t env cs i,dZ i env=some (.node t)->dI fB (bJ fB 1) (.attr (.var i) m) env cs=some (.int (val t),cs))(i:Nat):∀(ts:List T) (cs:Cs),dH (bJ fB 2) [i] [] [] (fR (bJ fB 2) (.attr (.var i) m)) (ts.map V.node) cs=some ((ts.map val).map V.int,cs)
 |[],_=>rfl
 |t::ts,cs=>by
  have hl:dZ i [(i,V.node t)]=some (.node t):=by show(bif Nat.beq i i then _ else _)=_;rw[kM];rfl
  show((fR (bJ fB 2) (.attr (.var i) m) [(i,.node t)] cs).bind λq=>(dH (bJ fB 2) [i] [] [] (fR (bJ fB 2) (.attr (.var i) m)) (ts.map V.node) q.2).map λz=>(q.1++z.1,z.2))=_;have:fR (bJ fB 2) (.attr (.var i) m) [(i,.node t)] cs=some ([.int (val t)],cs):=by
   show((dI fB (bJ fB 1) (.attr (.var i) m) [(i,.node t)] cs).bind λx=>(a8 x.1 x.2).map λy=>([y.1],y.2))=_;rw[hval t _ cs i hl];rfl
  rw[this];show((dH (bJ fB 2) [i] [] [] (fR (bJ fB 2) (.attr (.var i) m)) (ts.map V.node) cs).map λz=>([V.int (val t)]++z.1,z.2))=_;rw[Bj hval i ts cs];rfl
section
variable{prog:Program}{w:World}{s₀ s s' bZ:Shared}{γ bP:Gh}{A:Around}{v:V}{u:Value}{x dx C:Addr}{fs:List (Str×V)}{envM:Env}{sc:Scope}{d:Nat}{cf:cO}{ta:T}{b:Int}
structure GN(γ:Gh)(envM:Env)(x dx C:Addr)(ts:List T):Prop where
 self:SelfAt γ envM x
 ins:InsR γ x dx C [(lI,.lst (ts.map V.node))]
 cls:∃t:T,t.cls=C
 fm:FmOk γ [] envM []
theorem GN.step{ts:List T}(h:GN γ envM x dx C ts)(T:Step [] γ bP [] []):GN bP envM x dx C ts:=⟨h.self.step T (by simp) (by simp),h.ins.step T (by simp) (by simp),h.cls,h.fm.step T⟩
theorem Rr(hB:Base w s₀)(hR:Room A d 1)(hE:EnvOk envM sc){m:Nm}{val:T->Int}(hval:∀t env cs i,dZ i env=some (.node t)->dI fB (bJ fB 1) (.attr (.var i) m) env cs=some (.int (val t),cs)){ts:List T}(hz:ts.length<=1000){e:Expr}(h:sb sc m e=true)
  (hJ:GN γ envM x dx C ts) (hS:St w s₀ γ s):wpAny (model prog w) A (eval e envM) (PN w s₀ γ (.int (ts.map val).sum)) fW s:=by
 refine OF h nT λf args kws p e h=>OE h nT λy q ef h=>Es h nT λc ea h=>Op h nT λek h=>fF h λh h3=>fF h λh1 h2=>lCE h3 nT λelt gens dA p' ec h3=>Es h3 nT λg eg h3=>fF h3 λh3 k6=>fF h3 λh3 k5=>fF h3 λh3 k4=>fF h3 λh3 k3=>fF h3 λk1 k2=>Es k6 nT λi hi k6=>?_;have hk:=PV k6;have hg:=gEq (aM k1) (eI.mp k2);rw[e,ef,ea,ek,ec,eg,fY h1];have h2:Dw sc AO=true:=fY h1▸h2;clear h h1 h3 k1 k2 k6 e ef ea ek ec eg;refine Iu k5 nT λo a q' ei l=>fF l λl2 l3=>?_;clear k5 l;obtain⟨q2,eo⟩:=pK l2;show wpAny _ _ (do callWith p (<-eval (.Name AO q) envM) [] (backTo p (starEach [.ListComp elt _ dA p'] envM)) (backToKw p (keywordEach [] envM))) _ _ _
 refine bF (BY hB hE hS (n:=.sum) (BX h2) rfl (callWith_of (P:=λ_=>True) rfl (λhh X=>⟨.machine,.inr (.inl rfl),Looks.of_pure rfl⟩) ?_));clear h2;refine u7 (oR (prog:=prog) hB (pB (d:=d)) hR 2) λIE IT _ _=>?_;obtain⟨ol,hol⟩:=hJ.fm.locRaw;refine evalArgs_kw2 rfl (args_cons (aD (Q:=PE w s₀ γ [] (.own 0) [⟨false,.lst ((ts.map val).map V.int)⟩]) ?_ (λlH bZ z=>args_nil (kwAll_nil ⟨trivial,?_⟩)) λ_ _ z=>z) rfl) rfl
 ·rw[eval_ListComp,hg];refine Go (n:=20) (use:=none) (env:=[]) (x:=(.lst (ts.map V.node),[])) (l:=ts.map V.node) (csF:=[]) hR.hand IE IT hE k3 k4 (qR _ _) (by rw[hi];rfl) hJ.fm ?_ ?_ (by rw[hi,hk];exact Bj hval i ts []) (x9 (λo=>⟨_,rfl⟩) rfl)
  ·rw[ei,eo,fY l3];exact tV rfl (kG hJ.self hS (aD (wW (n:=.nodes) hB hJ.self hJ.ins hJ.cls hS (by decide+kernel) rfl) (λ_ _ z=>z.pe (CsOk.nil w γ)) λ_ _ z=>z))
  ·show(bif Nat.ble (ts.map V.node).length 1000 then some (ts.map V.node,[])else none)=_;rw[aT,aV hz];rfl
 ·obtain⟨aU,bN,S1,C1,T1,V1⟩:=z;refine fM (rZ S1 C1 V1 (l:=(ts.map val).map V.int) rfl) λa vs zr2 q1 q2=>?_;subst zr2;exact aD (YK hR.hand S1 (T1.raw _ _ hol (by simp) (by simp)) q1 q2) (λ_ _ z=>z.trans T1.drop) λ_ _ z=>z
theorem Gr:∀ts:List T,(ts.map T.hi).sum=T.his ts
 |[]=>rfl
 |t::ts=>by rw[bO,eJ,Gr ts];rfl
theorem Gu:∀ts:List T,(ts.map T.lo).sum=T.los ts
 |[]=>rfl
 |t::ts=>by rw[bO,eJ,Gu ts];rfl
theorem PY(t:T)(env:Ev)(cs:Cs)(i:Nat)(h:dZ i env=some (.node t)):dI fB (bJ fB 1) (.attr (.var i) .min) env cs=some (.int t.lo,cs):=by
 show(((dZ i env).map λv=>(v,cs)).bind λp=>(jD fB p.1 .min).map λv=>(v,p.2))=_;rw[h];rfl
theorem PZ(t:T)(env:Ev)(cs:Cs)(i:Nat)(h:dZ i env=some (.node t)):dI fB (bJ fB 1) (.attr (.var i) .max) env cs=some (.int t.hi,cs):=by
 show(((dZ i env).map λv=>(v,cs)).bind λp=>(jD fB p.1 .max).map λv=>(v,p.2))=_;rw[h];rfl
theorem Jl(hB:Base w s₀)(hR:Room A d 1)(hE:EnvOk envM sc){ts:List T}(hz:ts.length<=1000){body:List Stmt}(h:Fb sc body=true)(hJ:GN γ envM x dx C ts)(hS:St w s₀ γ s):
  wpAny (model prog w) A (execs body envM) (PR w s₀ γ (.tup [.int (T.los ts),.int (T.his ts)])) fW s:=by
 refine Es h nT λc ec h=>OI h nT λe p er h=>oQ (Q:=λz=>z=true->wpAny _ _ _ _ _ _) (λh=>bX h) (λe' ee h=>LN h nT λes k p' et h=>OC h nT λa b es h=>fF h λh h2=>fF h λhst h1=>?_) h;clear h;rw[ec,er,ee,et,es,<-Gr,<-Gu];clear ec er ee et es;refine wpAny_execs_cons (wpAny_Return_some (Tuple_ (args_cons (aD (Rr hB hR hE PY hz h1 hJ hS) (λlH bZ z=>?_) λ_ _ z=>z) (mU hst envM).1)));obtain⟨aU,S1,T1,V1⟩:=z;refine args_cons (aD (Rr hB hR hE PZ hz h2 (hJ.step T1) S1) (λu₂ cZ z=>args_nil ?_) λ_ _ z=>z) (mU (mU hst envM).2 envM).1;obtain⟨cL,S2,T2,V2⟩:=z;refine aD (sY S2 (.cons (V1.step T2) (.cons V2 .nil)) (by simp)) (λu s z=>?_) λ_ _ z=>z
 obtain⟨iY,S3,T3,V3⟩:=z;exact⟨u,iY,rfl,S3,(T1.trans T2).trans T3,V3⟩
end
inductive IS where
 |tup (ns:List Str) (es:List X)
 |bnd (ns:List Str)
 |one (n:Str) (e:X)
 |asrt (e:X)
def DE(e:Expr):Option Str:=vB none e λo a _=>bif wU o&&ã.any (lE a)then some a else none
noncomputable def qT:List Expr->Option (List Str)
 |[]=>some []
 |e::r=>(DE e).bind λa=>(qT r).map λl=>a::l
def isB(e:Expr):Bool:=yX false e λf args kws p=>vB false f λo a ap=>A9 false args (A9 false kws (wU o&&lE a dP&&Nat.beq ap.endLine p.line))
def isT(sc:Scope)(es:List Expr)(e:Expr):Option IS:=(uB none e λvs _ _=>bif gE vs&&!es.isEmpty then(qT es).map λns=>.tup ns (vs.map (er 20 sc))else none).or
 (bif isB e then(qT es).map IS.bnd else none)
def å(sc:Scope)(s:Stmt):Option IS:=(FM none s λts e _=>xD none ts λt=>(uB none t λes _ _=>isT sc es e).or (bif mA e then(DE t).map λn=>.one n (er 20 sc e)else none)).or
 (FL none s λt m _=>bif m.isNone then some (.asrt (er 20 sc t))else none)
noncomputable def iNum:List IS:=[.asrt (.call (.bi .isinstance) [.var 49,.bi .int] []),.one Dp (.var 49),.tup [lU,lV] [.var 49,.var 49]]
noncomputable def iVar:List IS:=[.tup [rT,lU,lV] [.var 46,.var 44,.var 45],.one vC .none]
noncomputable def iOp:List IS:=[.tup [El,Dp] [.var 41,.var 2],.bnd [lU,lV]]
noncomputable def iRed:List IS:=[.one lI (.var 4),.bnd [lU,lV]]
def ifs:List (Addr×List IS):=[(331,iNum),(277,iVar),(471,iOp),(512,iOp),(560,iOp),(644,iRed)]
def Gv(K:Frag)(C:Addr):List Stmt:=kZ (d4 K (gM K C kT))
theorem Gw(P:Params):ifs.map (λp=>(Gv (Kf P) p.1).map (å (d4 (Kf P) (gM (Kf P) p.1 kT)).scope))=ifs.map (λp=>p.2.map some):=by kernel_rfl!
section
variable{prog:Program}{w:World}{s₀ s s' bZ:Shared}{γ bP:Gh}{A:Around}{v:V}{u:Value}{x dx C:Addr}{fs:List (Str×V)}{envM:Env}{sc:Scope}{d:Nat}{cf:cO}{ta:T}{b:Int}{env:Ev}{ns:List Str}{vs:List V}{us:List Value}
structure IJ(γ:Gh)(envM:Env)(x dx C:Addr)(env:Ev)(fs:List (Str×V)):Prop where
 self:SelfAt γ envM x
 ins:InsR γ x dx C fs
 cls:C∈pV
 fm:FmOk γ [] envM env
 nl:envM.locals≠dx
 nc:∀y c,envM.cells.lookup y=some c->c≠dx
inductive PJ(w:World)(s₀:Shared)(γ:Gh)(envM:Env)(x dx C:Addr)(env:Ev)(fs:List (Str×V))(s':Shared):Prop
 |mk (bP:Gh):St w s₀ bP s'->Step [dx] γ bP [] []->IJ bP envM x dx C env fs->PJ w s₀ γ envM x dx C env fs s'
theorem IJ.step(h:IJ γ envM x dx C env fs)(T:Step [] γ bP [] []):IJ bP envM x dx C env fs:=⟨h.self.step T (by simp) (by simp),h.ins.step T (by simp) (by simp),h.cls,h.fm.step T,h.nl,h.nc⟩
theorem PJ.trans(T:Step [dx] γ bP [] [])(h:PJ w s₀ bP envM x dx C env fs s):PJ w s₀ γ envM x dx C env fs s:=let⟨g,a,b,c⟩:=h;⟨g,a,T.trans b,c⟩
theorem Fd{M:Model}{E:Value->Shared->Prop}{o:Expr}{attr:Str}{pos:Pos}{Q:Unit->Shared->Prop}(h:wpAny M A (eval o envM) (λov cZ=>wpAny M A (setAttr ov attr u) Q E cZ) E s):wpAny M A (assign (.Attribute o attr pos) envM u) Q E s:=λΓ p hΓ=>by
 simp only[assign_Attribute,Sem.wp_bind',Sem.wp_holding,Sem.wp_cmd_standAt,Sem.wp_release];exact Sem.wp_mono M Γ _ (λov _ cZ h₂=>h₂ Γ _ hΓ) (λ_ _ _ h'=>h') _ _ (h Γ _ hΓ)
theorem z8{n:Str}:∀{fs:List (Str×V)},n∉fs.map (·.1)->cJ n fs=none:=λh=>rJ λp hp=>by
 induction hq:lE n p.1 using Bool.casesOn with
 |true=>rw[fY hq]at h;exact absurd (fV hp) h
 |false=>rfl
theorem tW{e:Expr}{n:Str}(h:DE e=some n):(∃q p,e=.Attribute (.Name jG q) n p)/\n∈ã:=
 Iu h nS λo a p e h=>dJ h λhc h=>fF hc λh1 h2=>by
  obtain⟨q,e'⟩:=pK h1;refine i8 (fJ.mp h2) λm hm hq=>?_;rw[<-aC h];exact⟨⟨q,p,by rw[e,e']⟩,fY hq▸hm⟩
theorem YL(hB:Base w s₀)(hJ:IJ γ envM x dx C env fs)(hS:St w s₀ γ s){e:Expr}{n:Str}(he:DE e=some n)(hn:n∉fs.map (·.1))(hz:fs.length<=100)(hv:VR γ [] v u):
  wpAny (model prog w) A (assign e envM u) (λ_ s'=>PJ w s₀ γ envM x dx C env (fs++[(n,v)]) s') fW s:=by
 obtain⟨⟨q,p,rfl⟩,hm⟩:=tW he;refine Fd (kG hJ.self hS (aD (z5 hB hS hJ.ins hJ.cls hm (z8 hn) hz hv) (λ_ bZ z=>?_) λ_ _ z=>z));refine l6 (z) λaU S1 T1 I1=>?_;exact⟨aU,S1,T1,hJ.self.step T1 (by simp) (by simpa using hJ.nl),I1,hJ.cls,hJ.fm.stepX T1 (by simpa using hJ.nl) (λy c q=>by simpa using hJ.nc y c q),hJ.nl,hJ.nc⟩
theorem Gx:∀{es:List Expr} {ns:List Str},qT es=some ns->assignEach es envM=es.map (λe=>(false,assign e envM))/\es.length=ns.length
 |[],_,h=>by obtain rfl:=aC h;exact⟨rfl,rfl⟩
 |e::r,_,h=>by
  refine bH h ?_;clear h;intro a h1 h;refine eV h ?_;clear h;intro l h2 h;subst h;obtain⟨i1,i2⟩:=Gx h2;obtain⟨⟨q,p,rfl⟩,_⟩:=tW h1;exact⟨by show(false,_)::assignEach r envM=_;rw[i1];rfl,by simp[i2]⟩
theorem Gy(hB:Base w s₀):∀{es:List Expr} {ns:List Str} {vs:List V} {us:List Value} {fs:List (Str×V)} {s:Shared} {γ:Gh},qT es=some ns->AllR (VR γ []) vs us->(fs.map (·.1)++ns).Nodup->fs.length+ns.length<=100->IJ γ envM x dx C env fs->St w s₀ γ s->vs.length=ns.length->
  wpAny (model prog w) A (assignInOrder (es.map λe=>assign e envM) us) (λ_ s'=>PJ w s₀ γ envM x dx C env (fs++ns.zip vs) s') fW s
 |[],ns,vs,us,fs,s,γ,h,hv,_,_,hJ,hS,hl=>by
  obtain rfl:=aC h;obtain rfl:=List.length_eq_zero_iff.mp hl;cases hv;rw[List.zip_nil_left,bW];exact wpAny_pure ⟨γ,hS,.refl _ _,hJ⟩
 |e::r,ns,vs,us,fs,s,γ,h,hv,hnd,hz,hJ,hS,hl=>by
  refine bH h ?_;clear h;intro a h1 h;refine eV h ?_;clear h;intro l h2 h;subst h
  match vs,us,hv,hl with
  |[],_,_,hl=>cases hl
  |v::vs,us,hv,hl=>
   obtain⟨u,us,rfl,hu,hv⟩:=hv.len1;have hn:a∉fs.map (·.1):=λz=>(gI.mp hnd).2.2 a z a aE rfl;have hz':fs.length+(l.length+1)<=100:=hz;show wpAny _ _ (do holding us (assign e envM u);assignInOrder (r.map λe=>assign e envM) us) _ _ _
   refine bF (wpAny_holding (aD (YL hB hJ hS h1 hn (LI hz) hu) (λ_ bZ z=>?_) λ_ _ z=>z));obtain⟨aU,S1,T1,J1⟩:=z;refine aD (Gy hB h2 (hv.mono λ_ _ z=>z.mono T1.ext λ_ _ e=>e) (fs:=fs++[(a,v)]) (by rw[dQ,dT];exact hnd) (by rw[bU,d0];lia) J1 S1 (Nat.succ.inj hl)) (λ_ cZ z=>?_) λ_ _ z=>z
   rw[dT]at z;exact z.trans T1
theorem iteN{α:Type}{c:Prop}[Decidable c]{a x y:α}(h:x=a)(k:y=a):(if c then x else y)=a:=(Decidable.em c).elim (λz=>(if_pos z).trans h) λz=>(if_neg z).trans k
theorem Jm{es vs:List Expr}{ns:List Str}{k tp k' vp}(h:qT es=some ns)(f5:es.isEmpty=false):swappedStores [.Tuple es k tp] (.Tuple vs k' vp) envM=pure none:=by
 have hl:∀f:Expr->Option Str,(∀o a p,f (.Attribute o a p)=none)->es.filterMap f=[]:=λf hf=>by
  rw[List.filterMap_eq_nil_iff];intro e he;have:∀{es:List Expr} {ns:List Str},qT es=some ns->∀e∈es,∃n,DE e=some n:=by
   intro es;induction es with
   |nil=>intro _ _ e he;cases he
   |cons e r ih=>
    intro ns h;refine bH h ?_;clear h;intro a h1 h;refine eV h ?_;clear h;intro l h2 h;intro e' he';rcases a7.mp he' with rfl|he'
    ·exact⟨_,h1⟩
    ·exact ih h2 e' he'
  obtain⟨n,hn⟩:=this h e he;clear he;obtain⟨⟨q,p,rfl⟩,_⟩:=tW hn;exact hf ..
 refine iteN rfl (iteN rfl ?_);dsimp only;rw[hl _ λ_ _ _=>rfl];induction es using List.casesOn with
 |nil=>exact jA f5
 |cons e r=>rfl
theorem Gz(hh:A.handled=none)(hB:Base w s₀){es:List Expr}(he:qT es=some ns)(hJ:IJ γ envM x dx C env fs)(hS:St w s₀ γ s)(hv:VR γ [] (.tup vs) u)(hl:vs.length=ns.length)(hnd:(fs.map (·.1)++ns).Nodup)(hz:fs.length+ns.length<=100){k:Nat}{tp:Pos}:
  wpAny (model prog w) A (assign (.Tuple es k tp) envM u) (λ_ s'=>PJ w s₀ γ envM x dx C env (fs++ns.zip vs) s') fW s:=by
 refine hv.tupI λt et=>?_;refine nJ (hS.ok.at_ _ _ et) λo e1 e2 items n e3 e4=>?_;obtain⟨i1,i2⟩:=Gx (envM:=envM) he;have eW:items.size=ns.length:=by rw[<-Array.length_toList,<-e4.length,hl]
 obtain⟨ol,hol⟩:=hJ.fm.locRaw;refine assign_Tuple_tuple hh ⟨o,e1,e2,n,e3⟩ (by rw[i1,aT,i2,eW]) (by rw[i1,List.findIdx?_eq_none_iff];intro z hz;refine i8 (bR.mp hz) λe _ zr2=>?_;subst zr2;rfl) λh' hx=>?_
 have S1:=hS.grow' (s':={s with heap:=h'}) hol λb o e=>hx b o (eU (Heap.lt_size e)) e
 rw[i1,iW];exact Gy hB he e4 hnd hz hJ S1 hl
end
theorem yA{P:Prop}{sc:Scope}{c:Stmt}{i:IS}(h:å sc c=some i)(k1:∀es k tp vs k' vp p ns,c=.Assign [.Tuple es k tp] (.Tuple vs k' vp) p->gE vs=true->es.isEmpty=false->qT es=some ns->.tup ns (vs.map (er 20 sc))=i->P)
  (k2:∀es k tp q ap p' p ns,c=.Assign [.Tuple es k tp] (.Call (.Attribute (.Name jG q) dP ap) [] [] p') p->ap.endLine=p'.line->qT es=some ns->.bnd ns=i->P)
  (k3:∀q q' e p n,c=.Assign [.Attribute (.Name jG q) n q'] e p->mA e=true->n∈ã->.one n (er 20 sc e)=i->P) (k4:∀t p,c=.Assert t none p->.asrt (er 20 sc t)=i->P):P:=
 J0 h (λh=>asgE h nS λts e p ec h=>Es h nS λt et h=>J0 h (λh=>LN h nS λes k tp et' h=>J0 h (λh=>LN h nS λvs k' vp ev h=>dJ h λc h=>eV h λns hn h=>fF c λc1 c2=>k1 es k tp vs k' vp p ns (by rw[ec,et,et',ev]) c1 (by simpa using c2) hn h)
   λh=>dJ h λc h=>eV h λns hn h=>OF c nT λf args kws p' ef c=>Iu c nT λo a ap ea c=>Op c nT λe1 c=>Op c nT λe2 c=>fF c λc c3=>fF c λc1 c2=>let⟨q,e'⟩:=pK c1;k2 es k tp q ap p' p ns (by rw[ec,et,et',ef,ea,e1,e2,e',fY c2]) (aA c3) hn h)
  λh=>dJ h λc h=>eV h λn hn h=>let⟨⟨q,q',e'⟩,m⟩:=tW hn;k3 q q' e p n (by rw[ec,et,e']) c m h)
 λh=>asrE h nS λt m p e h=>dJ h λc h=>k4 t p (by rw[e,fZ.mp c]) (aC h)
section
variable{prog:Program}{w:World}{s₀ s s' bZ:Shared}{γ bP:Gh}{A:Around}{v:V}{u:Value}{x dx C:Addr}{fs:List (Str×V)}{envM:Env}{sc:Scope}{d:Nat}{cf:cO}{ta:T}{b:Int}{env:Ev}{ns:List Str}{vs:List V}{us:List Value}{c:Stmt}{r:Rec}
def XJ(prog:Program)(w:World)(s₀:Shared)(γ:Gh)(A:Around)(envM:Env)(x dx C:Addr)(env:Ev)(fs:List (Str×V))(c:Stmt)(s:Shared):Prop:=
 wpAny (model prog w) A (exec c envM) (λf s'=>f=.next/\PJ w s₀ γ envM x dx C env fs s') fW s
theorem Nn(hh:A.handled=none)(hB:Base w s₀)(IE:kS prog w s₀ A (bJ fB 2))(hE:EnvOk envM sc){xs:List X}(h0:å sc c=some (.tup ns xs))(hJ:IJ γ envM x dx C env fs)(hS:St w s₀ γ s)(hv:dI fB (bJ fB 2) (.tup xs) env []=some (.tup vs,[]))
  (hl:vs.length=ns.length) (hnd:nX (fs.map (·.1)++ns)=true) (hz:fs.length+ns.length<=100):XJ prog w s₀ γ A envM x dx C env (fs++ns.zip vs) c s:=by
 refine yA h0 (λes k tp vs' k' vp p ns' e c1 c2 h1 h=>?_) (λ_ _ _ _ _ _ _ _ _ _ _ h=>nomatch h) (λ_ _ _ _ _ _ _ _ h=>nomatch h) λ_ _ _ h=>nomatch h
 cases h;clear h0;subst e;refine Assign_Tuple (aD (M3 (cf:=fB) (r:=bJ fB 2) (f:=er 20 sc) (λe' _=>IE 20 sc e' envM hE) c1 s γ [] env [] _ _ hS (CsOk.nil w γ) hJ.fm hv) (λlH bZ z=>?_) λ_ _ z=>z) rfl (Jm h1 c2);obtain⟨aU,bN,S1,C1,T1,V1⟩:=z;exact aD (Gz hh hB h1 (hJ.step T1.drop) S1 (V1.down λi e=>by cases e) hl (m5 hnd) hz) (λ_ _ z=>⟨rfl,z.trans (T1.drop.widen (by simp))⟩) λ_ _ z=>z
theorem No(hB:Base w s₀)(IE:kS prog w s₀ A (bJ fB 2))(hE:EnvOk envM sc){n:Str}{xe:X}(h0:å sc c=some (.one n xe))(hJ:IJ γ envM x dx C env fs)(hS:St w s₀ γ s)(hv:dI fB (bJ fB 1) xe env []=some (v,[]))
  (ho:isOwn v=false) (hnd:nX (fs.map (·.1)++[n])=true) (hz:fs.length<=100):XJ prog w s₀ γ A envM x dx C env (fs++[(n,v)]) c s:=by
 refine yA h0 (λ_ _ _ _ _ _ _ _ _ _ _ _ h=>nomatch h) (λ_ _ _ _ _ _ _ _ _ _ _ h=>nomatch h) (λq' p' e p n' ec h1 hm h=>?_) λ_ _ _ h=>nomatch h
 cases h;clear h0;subst ec;refine plainObj_wpAny_Assign_Attribute (aD (IE 20 sc e envM hE s γ [] env [] _ _ hS (CsOk.nil w γ) hJ.fm hv) (λlH bZ z=>?_) λ_ _ z=>z) (mD h1 ..);obtain⟨aU,bN,S1,C1,T1,V1⟩:=z;have J1:=hJ.step T1.drop;refine kG J1.self S1 (aD (z5 hB S1 J1.ins J1.cls hm (z8 λz=>(gI.mp (m5 hnd)).2.2 _ z _ (lY _) rfl) hz (V1.down λi e=>by rw[e]at ho;exact jA ho)) (λ_ cZ z=>?_) λ_ _ z=>z)
 refine l6 (z) λcL S2 T2 I2=>?_;exact⟨rfl,cL,S2,(T1.drop.widen (by simp)).trans T2,J1.self.step T2 (by simp) (by simpa using hJ.nl),I2,hJ.cls,J1.fm.stepX T2 (by simpa using hJ.nl) (λy c q=>by simpa using hJ.nc y c q),hJ.nl,hJ.nc⟩
theorem YM(IT:qD prog w s₀ A (bJ fB 3))(hE:EnvOk envM sc){xe:X}(h0:å sc c=some (.asrt xe))(hJ:IJ γ envM x dx C env fs)(hS:St w s₀ γ s)(hv:zJ fB (bJ fB 2) xe env []=some (true,[])):XJ prog w s₀ γ A envM x dx C env fs c s:=by
 refine yA h0 (λ_ _ _ _ _ _ _ _ _ _ _ _ h=>nomatch h) (λ_ _ _ _ _ _ _ _ _ _ _ h=>nomatch h) (λ_ _ _ _ _ _ _ _ h=>nomatch h) λt p ec h=>?_
 cases h;clear h0;subst ec;refine wpAny_Assert_holds (aD (IT 20 sc t envM hE s γ [] env [] _ _ hS (CsOk.nil w γ) hJ.fm hv) (λb bZ z=>?_) λ_ _ z=>z);obtain⟨rfl,aU,bN,S1,C1,T1⟩:=z;exact⟨rfl,rfl,aU,S1,T1.drop.widen (by simp),hJ.step T1.drop⟩
theorem Rt(hh:A.handled=none)(hB:Base w s₀){i j:Int}(h0:å sc c=some (.bnd ns))(hJ:IJ γ envM x dx C env fs)(hS:St w s₀ γ s)(hb:∀q ap p,ap.endLine=p.line->wpAny (model prog w) A (eval (.Call (.Attribute (.Name jG q) dP ap) [] [] p) envM) (PN w s₀ γ (.tup [.int i,.int j])) fW s)
  (hl:2=ns.length) (hnd:nX (fs.map (·.1)++ns)=true) (hz:fs.length+ns.length<=100):XJ prog w s₀ γ A envM x dx C env (fs++ns.zip [.int i,.int j]) c s:=by
 refine yA h0 (λ_ _ _ _ _ _ _ _ _ _ _ _ h=>nomatch h) (λes k tp q ap p' p ns' ec c3 h1 h=>?_) (λ_ _ _ _ _ _ _ _ h=>nomatch h) λ_ _ _ h=>nomatch h
 cases h;clear h0;subst ec;refine Assign_Tuple (aD (hb _ _ _ c3) (λlH bZ z=>?_) λ_ _ z=>z) rfl rfl;obtain⟨aU,S1,T1,V1⟩:=z;exact aD (Gz hh hB h1 (hJ.step T1) S1 V1 hl (m5 hnd) hz) (λ_ _ z=>⟨rfl,z.trans (T1.widen (by simp))⟩) λ_ _ z=>z
end
set_option tactic.hygienic false
noncomputable def Np:List Addr:=[471,512,560,644]
theorem bm1(P:Params):Np.all (λC=>findIn (Kf P) (.ref C) dP==some (some (.ref (gM (Kf P) C dP)))&&isFn (Kf P) (.ref (gM (Kf P) C dP))&&keepIn (Kf P) (.ref (gM (Kf P) C dP))&&plainGet (Kf P) C dP)=true:=by kernel_rfl!
theorem cls_ofL{C:Addr}(h:C∈pV):∃t:T,t.cls=C:=by
 simp only[pV,a7,fK,or_false]at h;rcases h with rfl|rfl|rfl|rfl|rfl|rfl
 ·exact⟨.num 0,rfl⟩
 ·exact⟨.var Ey 0 0,rfl⟩
 ·exact⟨.mul (.num 0) 0,rfl⟩
 ·exact⟨.div (.num 0) 0,rfl⟩
 ·exact⟨.mod (.num 0) 0,rfl⟩
 ·exact⟨.sum [],rfl⟩
section
variable{prog:Program}{w:World}{s₀ s s' bZ:Shared}{γ bP:Gh}{A:Around}{v:V}{u:Value}{x dx C:Addr}{fs:List (Str×V)}{envM:Env}{sc:Scope}{d:Nat}{cf:cO}{ta:T}{b:Int}{env:Ev}{ns:List Str}{vs:List V}{us:List Value}{c:Stmt}{r:Rec}
def Nq(x:Addr)(γ:Gh)(v:V)(u:Value):Prop:=(v=.own 0->u=.ref x)/\(v≠.own 0->VR γ [] v u)
theorem G0{K:Frag}{a:Addr}(hE:EnvOk envM (d4 K a).scope)(hl:cJ jG (d4 K a).scope.names=some .local){i:Fn}{vs:List V}(hp:dZ 1 (i.params.zip vs)=some (.own 0)){γ₀:Gh}
  (X:∀y j v,mS y=some j->dZ j (i.params.zip vs)=some v->envM.kindOf y=some .local->∃o m u,γ envM.locals=some (.raw o)/\Dz o m/\m y=some u/\Nq x γ₀ v u):SelfAt γ envM x:=by
 have hk:=eG hE hl;refine FD (X jG 1 _ rfl hp hk) λo m u h1 h2 h3 h4=>?_;exact⟨⟨o,m,h1,h2,by rw[h3,h4.1 rfl]⟩,hk,hE.kind⟩
theorem DF(hB:Base w s₀)(hC:C∈Np)(hdep:A.depth<recursionLimit)(hJ:IJ γ envM x dx C env fs)(hS:St w s₀ γ s)(hn:dP∉fs.map (·.1)){i j:Int}
  (hb:∀envM₁ bZ aU,EnvOk envM₁ (d4 (Kf w.params) (gM (Kf w.params) C dP)).scope->SelfAt aU envM₁ x->FmOk aU [] envM₁ []->InsR aU x dx C fs->St w s₀ aU bZ->wpAny (model prog w) (A.deeper envM₁) (execs (kZ (d4 (Kf w.params) (gM (Kf w.params) C dP))) envM₁) (PR w s₀ aU (.tup [.int i,.int j])) fW bZ)
  (q:Pos) (ap p:Pos) (hp:ap.endLine=p.line):wpAny (model prog w) A (eval (.Call (.Attribute (.Name jG q) dP ap) [] [] p) envM) (PN w s₀ γ (.tup [.int i,.int j])) fW s:=by
 have k:=aW.mp (bm1 w.params) C hC;simp only[a9,beq_iff_eq]at k;obtain⟨⟨⟨k1,k2⟩,k3⟩,k4⟩:=k;have hK:=hB.K.keeps hS.keep;refine methodCall_KW (pl:=do return(<-importBound (.Name jG q) envM).getD true) (kG hJ.self hS ?_) (Gl rfl rfl rfl hp (by decide))
 refine kY (hJ.ins.fld) λes n e2 r=>?_;obtain⟨L,m,F⟩:=hJ.self.frm hS;refine method_inst F hB.K ⟨hS.raw hJ.ins.ins,rfl,rfl,hS.raw e2⟩ k4 k1 k2 (oZ r (z8 hn)) ?_;refine callWith_of (P:=(Kf w.params).In) rfl (keeps_K k3) (evalArgs_kw2_nil rfl (kwAll_nil ⟨hK,?_⟩));have hnm:=i6 (xnm w.params) hC;have I:=Rq w.params (b_mem w.params C hC);have B:BindsTo s (d4 (Kf w.params) (gM (Kf w.params) C dP)) ⟨[.ref x],[]⟩ ((j3 (Kf w.params) (gM (Kf w.params) C dP)).zip [.ref x]):=by
  rw[hnm];exact kp_binds hK λS=>i6 (xb1 w.params S (.ref x)) hC
 refine wpAny_call (BW (R':=Nq x γ) (vs:=[.own 0]) (env:=[]) hB hS I B hdep (.cons ⟨λ_=>rfl,λz=>absurd rfl z⟩ .nil) (λj v h=>aY h) λenvM₁ bZ aU S1 T1 F1 E1 CA W1 X1=>?_);have hl:=aW.mp (xloc w.params) C hC;have SA:=G0 (K:=Kf w.params) E1 (by rw[f8];exact beq_iff_eq.mp hl) (by rw[I.par,hnm];rfl) X1
 refine aD (hb envM₁ bZ aU E1 SA F1 (hJ.ins.step T1 (by simp) (by simp)) S1) (λf cZ z=>?_) λ_ _ z=>z
 obtain⟨u,cL,rfl,S2,T2,V2⟩:=z;exact⟨cL,S2,T1.trans T2,V2⟩
end
theorem ii1(P:Params):pV.all (λC=>findIn (Kf P) (.ref C) "__init__"==some (some (.ref (gM (Kf P) C kT)))&&typeIn (Kf P) (.ref (gM (Kf P) C kT))==some (.type "function")&&((d4 (Kf P) (gM (Kf P) C kT)).scope.names.lookup jG==some .local)&&(ä (Kf P)).any (Nat.beq (gM (Kf P) C kT)))=true:=by kernel_rfl!
noncomputable def BZ:List (Addr×List Nat):=[(331,[49]),(277,[46,44,45]),(471,[41,2]),(512,[41,2]),(560,[41,2]),(644,[4])]
theorem ip1(P:Params):BZ.map (λp=>(j3 (Kf P) (gM (Kf P) p.1 kT)).map λx=>match mS x with|some i=>i|none=>0)=BZ.map (λp=>1::p.2):=by kernel_rfl!
theorem xi1(P:Params)(S:Setting)(u a:Value):[331,644].map (λC=>peek (Kf P) S (bindArgs (d4 (Kf P) (gM (Kf P) C kT)) ⟨[u,a],[]⟩))=[331,644].map (λC=>some ((j3 (Kf P) (gM (Kf P) C kT)).zip [u,a])):=by kernel_rfl!
theorem xi2(P:Params)(S:Setting)(u a b:Value):[471,512,560].map (λC=>peek (Kf P) S (bindArgs (d4 (Kf P) (gM (Kf P) C kT)) ⟨[u,a,b],[]⟩))=[471,512,560].map (λC=>some ((j3 (Kf P) (gM (Kf P) C kT)).zip [u,a,b])):=by kernel_rfl!
theorem xi3(P:Params)(S:Setting)(u a b c:Value):[277].map (λC=>peek (Kf P) S (bindArgs (d4 (Kf P) (gM (Kf P) C kT)) ⟨[u,a,b,c],[]⟩))=[277].map (λC=>some ((j3 (Kf P) (gM (Kf P) C kT)).zip [u,a,b,c])):=by kernel_rfl!
section
variable{prog:Program}{w:World}{s₀ s s' bZ:Shared}{γ bP:Gh}{A:Around}{v:V}{u:Value}{x dx C:Addr}{fs fs':List (Str×V)}{envM:Env}{sc:Scope}{d:Nat}{cf:cO}{ta:T}{b:Int}{env:Ev}{ns:List Str}{vs:List V}{us:List Value}{c:Stmt}{r:Rec}{rest:List Stmt}
def BJ(prog:Program)(w:World)(s₀:Shared)(γ:Gh)(A:Around)(envM:Env)(x dx C:Addr)(env:Ev)(fs:List (Str×V))(rest:List Stmt)(s:Shared):Prop:=
 wpAny (model prog w) A (execs rest envM) (λf s'=>f=.next/\PJ w s₀ γ envM x dx C env fs s') fW s
theorem Ca(hJ:IJ γ envM x dx C env fs)(hS:St w s₀ γ s):BJ prog w s₀ γ A envM x dx C env fs [] s:=wpAny_execs_nil ⟨rfl,γ,hS,.refl _ _,hJ⟩
theorem oS(h:XJ prog w s₀ γ A envM x dx C env fs c s)(k:∀bZ aU,St w s₀ aU bZ->IJ aU envM x dx C env fs->BJ prog w s₀ aU A envM x dx C env fs' rest bZ):BJ prog w s₀ γ A envM x dx C env fs' (c::rest) s:=
 wpAny_execs_cons (aD h (λf bZ z=>by
  obtain⟨rfl,aU,S1,T1,J1⟩:=z;exact aD (k bZ aU S1 J1) (λ_ _ z=>⟨z.1,z.2.trans T1⟩) λ_ _ z=>z) λ_ _ z=>z)
theorem VR.noOwn{i:Nat}:¬VR γ [] (.own i) u:=λh=>by
 refine i8 (h.isOwn) λa _ e=>?_;simp at e
theorem YN{R:V->Value->Prop}{v:V}:∀{vs:List V} {us:List Value},AllR R vs us->v∈vs->∃u,R v u:=λh hm=>by
 obtain⟨i,hi⟩:=List.getElem?_of_mem hm;refine i8 (h.get hi) λu _ r=>?_;exact⟨u,r⟩
theorem Cb(hB:Base w s₀)(hdep:A.depth+1<recursionLimit)(hS:St w s₀ γ s)(hC:C∈pV){t:T}(ht:t.cls=C)(hv:AllR (VR γ []) vs us){ps:List Nat}(hp:(C,ps)∈BZ)
  (hbind:∀S self,peek (Kf w.params) S (bindArgs (d4 (Kf w.params) (gM (Kf w.params) C kT)) ⟨self::us,[]⟩)=some ((j3 (Kf w.params) (gM (Kf w.params) C kT)).zip (self::us)))
  (hbody:∀x dx envM bZ aU,EnvOk envM (d4 (Kf w.params) (gM (Kf w.params) C kT)).scope->IJ aU envM x dx C (ps.zip vs) []->St w s₀ aU bZ->
   BJ prog w s₀ aU ((A.under (.builtin "type.__call__" ⟨.ref C::us,[]⟩)).deeper envM) envM x dx C (ps.zip vs) (mT t) (Gv (Kf w.params) C) bZ):
  codeAny (model prog w) A (.call (.ref C) ⟨us,[]⟩) (PC w s₀ γ (.node t)) s:=by
 have k:=aW.mp (ii1 w.params) C hC;simp only[a9,beq_iff_eq]at k;obtain⟨⟨⟨k1,k2⟩,k3⟩,k4⟩:=k;have hK:=hB.K.keeps hS.keep;obtain⟨hh,g,dr,tk,os⟩:=s;refine make_core (makes_of hK (ht▸I9 w.params t)) (looks_findIn hK k1) (λself=>bind_fn hK self k2) (.inl rfl) ?_;have f1:=hS.free;have S1:=hS.alloc (s':=⟨hh.push emptyDict,g,dr,tk,os⟩) emptyDict rfl;have f2:=S1.free;have S2:=S1.alloc (s':=⟨(hh.push emptyDict).push (instObj C hh.objs.size),g,dr,tk,os⟩) (instObj C hh.objs.size) rfl;dsimp only at f1 f2 S2;rw[Heap.size_push]at f2 S2;generalize hh.objs.size=dx at f1 f2 S2⊢;have T1:Step [] γ (iZ γ dx (some (.raw emptyDict))) [] []:=d6 _ [] f1;have T2:Step [] (iZ γ dx (some (.raw emptyDict))) (iZ (iZ γ dx (some (.raw emptyDict))) (dx+1) (some (.raw (instObj C dx)))) [] []:=d6 _ [] f2;have hdx:(iZ (iZ γ dx (some (.raw emptyDict))) (dx+1) (some (.raw (instObj C dx)))) dx=some (.raw emptyDict):=by rw[cN (eU (fL _)),bK]
 have hI:InsR (iZ (iZ γ dx (some (.raw emptyDict))) (dx+1) (some (.raw (instObj C dx)))) (dx+1) dx C []:=⟨bK ..,[],0,hdx,.nil⟩;have T12:=T1.trans T2;have fx:dX γ (dx+1):=(T1.dom _ f2).elim id (by simp)
 generalize (iZ (iZ γ dx (some (.raw emptyDict))) (dx+1) (some (.raw (instObj C dx))))=aU at S2 hdx hI T12;refine i8 (fJ.mp k4) λa ha haeq=>?_;have I:=Rq w.params (aA haeq▸ha:gM (Kf w.params) C kT∈ä (Kf w.params));have hpar:(xY (Kf w.params) (gM (Kf w.params) C kT) []).params=1::ps:=I.par.trans (i6 (ip1 w.params) hp);have hv1:=VRs.step hv T12;have hK2:=hB.K.keeps S2.keep;have h1ps:∀p∈BZ,1∉p.2:=by decide
 refine BW (R':=Nq (dx+1) aU) (vs:=.own 0::vs) (us':=.ref (dx+1)::us) (env:=ps.zip vs) hB S2 I (kp_binds hK2 λS=>hbind S _) hdep
  (.cons ⟨λ_=>rfl,λz=>absurd rfl z⟩ (hv1.mono λv u r=>⟨λe=>absurd (e▸r) VR.noOwn,λ_=>r⟩)) (λj v h=>?_) λenvM bZ cL S3 T3 F3 E3 CA W3 X3=>?_
 ·obtain⟨m1,m2⟩:=List.of_mem_zip (wT h);rw[hpar];refine⟨?_,λu r=>r.2 λe=>?_⟩
  ·show(bif Nat.beq j 1 then _ else dZ j (ps.zip vs))=_;induction hj:Nat.beq j 1 using Bool.casesOn with
   |true=>clear m2;rw[aA hj]at m1;exact absurd m1 (h1ps _ hp)
   |false=>exact h
  ·obtain⟨u,q⟩:=YN hv m2;exact VR.noOwn (e▸q)
 ·have SA:=G0 (K:=Kf w.params) E3 (by rw[f8];exact k3) (by rw[hpar];rfl) X3
  have nd:∀b,dX aU b->b≠dx:=λb hb z=>by clear SA X3 hK2 hI S2 fx T2 T1 f2 f1;subst z;exact gL hdx hb
  refine aD (hbody (dx+1) dx envM bZ cL E3 ⟨SA,hI.step T3 (by simp) (by simp),hC,F3,nd _ (W3 _ aE),λy c q=>nd _ (W3 _ (aI _ (tU q)))⟩ S3) (λf cZ z=>?_) λ_ _ z=>z
  obtain⟨rfl,iY,S4,T4,J4⟩:=z;refine kY (J4.ins.fld) λes n e2 r=>?_;have e1:=J4.ins.ins;clear E3 hpar I haeq k2 k1 k3 k4 hbody hbind hp hC;subst ht;have G:=S4.ok.node e1 e2 r;have T14:=((T12.trans T3).widen (by simp)).trans T4
  refine⟨rfl,.ref (dx+1),iZ (iZ iY dx none) (dx+1) (some (.node t dx)),rfl,⟨S4.keep,S4.size,G,S4.gens,S4.os⟩,⟨λa g q hg=>?_,λa o q h1 h2=>?_,⟨[],rfl,by simp⟩,λa q=>?_⟩,.node (bK ..)⟩
  ·have ne:∀b,dX γ b->a≠b:=λb hb=>hb.ne q λz=>by clear hb;rw[z]at hg;exact jA hg
   rw[cN (ne _ fx),cN (ne _ f1)];exact T14.ext a g q hg
  ·have ne:∀b,dX γ b->a≠b:=λb hb=>hb.ne q (by intro z;cases z)
   rw[cN (ne _ fx),cN (ne _ f1)];exact T14.raw a o q h1 (by simpa using ne _ f1)
  ·by_cases hx:a=dx+1
   ·clear q;subst hx;exact .inl fx
   ·by_cases hd:a=dx
    ·clear hx q T14 G e1 J4 X3 hK2 hI S2 T2 e2 T4 nd SA hdx fx T1 f2;subst hd;exact .inl f1
    ·rcases T14.dom a (λg' q'=>q g' (by rw[cN hx,cN hd];exact q'))with z|z
     ·exact .inl z
     ·exact absurd (aN.mp z) hd
end
theorem Cc{α:Type}{f:Stmt->Option α}{i:α}{is:List α}:∀{l:List Stmt},l.map f=(i::is).map some->∃c r,l=c::r/\f c=some i/\r.map f=is.map some
 |[],h=>by cases h
 |c::r,h=>⟨c,r,rfl,(List.cons.inj h).1,(List.cons.inj h).2⟩
theorem map_nil{α:Type}{f:Stmt->Option α}{l:List Stmt}(h:l.map f=([]:List α).map some):l=[]:=oK.mp h
theorem Qa{α:Type}{f:Stmt->Option α}{i j:α}{l:List Stmt}(h:l.map f=[i,j].map some):∃c d,l=[c,d]/\f c=some i/\f d=some j:=
 fM (Cc h) λc _ e h1 h=>fM (Cc h) λd _ e' h2 h=>⟨c,d,by rw[e,e',map_nil h],h1,h2⟩
theorem map3{α:Type}{f:Stmt->Option α}{i j k:α}{l:List Stmt}(h:l.map f=[i,j,k].map some):∃c d e,l=[c,d,e]/\f c=some i/\f d=some j/\f e=some k:=
 fM (Cc h) λc _ e h1 h=>fM (Qa h) λd e2 e' h2 h3=>⟨c,d,e2,by rw[e,e'],h1,h2,h3⟩
theorem z9:∀{l:List V} {ts:List T},pZ l=some ts->l=ts.map V.node
 |[],_,h=>by obtain rfl:=aC h;rfl
 |v::r,ts,h=>by
  induction v using V.casesOn<;>first|(exact aY h;done)|skip
  refine eV (show(pZ r).map (_::·)=some ts from h) λts' h1 h=>?_
  subst h
  rw[z9 h1];rfl
theorem yB{mn mx b x y:Int}{l r:GX}(h1:nY mn mx b l=some x)(h2:nY mn mx b r=some y):wV mn mx b (.pair l r)=some (x,y):=by
 show Option.bind (nY mn mx b l) _=_;rw[h1];show Option.map _ (nY mn mx b r)=_;rw[h2];rfl
theorem Cd{mn mx b x:Int}{l:GX}(h:nY mn mx b l=some x)(h1:jQ (x*b)=true):nY mn mx b (.bin .Mult l .b)=some (x*b):=by
 show Option.bind (nY mn mx b l) _=_;rw[h];show Option.bind (bif jQ (x*b)then _ else _) _=_;rw[h1];rfl
theorem Nr{mn mx b x:Int}{l:GX}(h:nY mn mx b l=some x)(h1:(!decide (b=0)&&jQ b)=true):nY mn mx b (.bin .FloorDiv l .b)=some (Int.fdiv x b):=by
 show Option.bind (nY mn mx b l) _=_;rw[h];show Option.bind (bif !decide (b=0)&&jQ b then _ else _) _=_;rw[h1];rfl
theorem Ce{mn mx b x:Int}{l:GX}(h:nY mn mx b l=some x)(h1:(!decide (b=0)&&jQ b)=true):nY mn mx b (.bin .Mod l .b)=some (Int.fmod x b):=by
 show Option.bind (nY mn mx b l) _=_;rw[h];show Option.bind (bif !decide (b=0)&&jQ b then _ else _) _=_;rw[h1];rfl
theorem tv_ge{mn mx b x y:Int}{l r:GX}(h1:nY mn mx b l=some x)(h2:nY mn mx b r=some y):qS mn mx b (.cmp .GtE l r)=some (decide (y<=x)):=by
 show Option.bind (nY mn mx b l) _=_;rw[h1];show Option.bind (nY mn mx b r) _=_;rw[h2];rfl
theorem YO{mn mx b:Int}(h0:0<=mn)(h1:jQ (mn*b)=true)(h2:jQ (mx*b)=true):z6 mn mx b gMul=some ((bif decide (0<=b)then mn*b else mx*b),(bif decide (0<=b)then mx*b else mn*b)):=by
 refine(cT (aH h0)).trans ?_;show(bif decide (0<=b)then wV mn mx b (.pair (.bin .Mult .mn .b) (.bin .Mult .mx .b))else wV mn mx b (.pair (.bin .Mult .mx .b) (.bin .Mult .mn .b)))=_;rw[yB (Cd rfl h1) (Cd rfl h2),yB (Cd rfl h2) (Cd rfl h1)];induction decide (0<=b) using Bool.casesOn<;>rfl
theorem Nt{mn mx b:Int}(h0:0<=mn):qS mn mx b (.bop true (.cmp .GtE .mn (.lit 0)) .isint)=some true:=by
 show(bif decide (0<=mn)then some true else some false)=_;rw[aH h0];rfl
theorem DG{mn mx b:Int}(h0:0<=mn)(r:List GS):z6 mn mx b (.asrt (.bop true (.cmp .GtE .mn (.lit 0)) .isint)::r)=z6 mn mx b r:=by
 show Option.bind (qS mn mx b _) _=_;rw[Nt h0];rfl
theorem YQ{mn mx b:Int}(h0:0<=mn)(h1:(!decide (b=0)&&jQ b)=true):z6 mn mx b gDiv=some (Int.fdiv mn b,Int.fdiv mx b):=
 (DG h0 _).trans (yB (Nr rfl h1) (Nr rfl h1))
theorem YR{mn mx b:Int}(h0:0<=mn)(h1:(!decide (b=0)&&jQ b)=true):z6 mn mx b gMod=some (AN mn mx b,yZ mn mx b):=by
 have hn:(decide (mn≠mx))=!decide (mn=mx):=by by_cases h:mn=mx<;>simp[h]
 unfold AN yZ;rw[hn];refine(DG h0 _).trans ?_;show Option.bind (bif decide (b<=mx-mn)then some true else(bif !decide (mn=mx)then qS mn mx b (.cmp .GtE (.bin .Mod .mn .b) (.bin .Mod .mx .b))else some false)) (λc=>bif c then some (0,b-1)else wV mn mx b (.pair (.bin .Mod .mn .b) (.bin .Mod .mx .b)))=some ((bif decide (b<=mx-mn)||(!decide (mn=mx)&&decide (Int.fmod mx b<=Int.fmod mn b))then _ else _),(bif decide (b<=mx-mn)||(!decide (mn=mx)&&decide (Int.fmod mx b<=Int.fmod mn b))then _ else _));rw[yB (Ce rfl h1) (Ce rfl h1),tv_ge (Ce rfl h1) (Ce rfl h1)];induction decide (b<=mx-mn) using Bool.casesOn<;>induction decide (mn=mx) using Bool.casesOn<;>induction decide (Int.fmod mx b<=Int.fmod mn b) using Bool.casesOn<;>rfl
theorem r8(a:T)(b:Int):(T.mul a b).lo=bif decide (0<=b)then a.lo*b else a.hi*b:=rfl
theorem pL(a:T)(b:Int):(T.mul a b).hi=bif decide (0<=b)then a.hi*b else a.lo*b:=rfl
theorem r9(a:T)(b:Int):(T.div a b).lo=Int.fdiv a.lo b:=rfl
theorem tA(a:T)(b:Int):(T.div a b).hi=Int.fdiv a.hi b:=rfl
theorem uQ(a:T)(b:Int):(T.mod a b).lo=AN a.lo a.hi b:=rfl
theorem uR(a:T)(b:Int):(T.mod a b).hi=yZ a.lo a.hi b:=rfl
section
variable{prog:Program}{w:World}{s₀ s s' bZ:Shared}{γ bP:Gh}{A:Around}{v:V}{u:Value}{x dx C:Addr}{fs fs':List (Str×V)}{envM:Env}{sc:Scope}{d:Nat}{cf:cO}{ta:T}{b:Int}{env:Ev}{ns:List Str}{vs:List V}{us:List Value}{c:Stmt}{r:Rec}{rest:List Stmt}
theorem yC(hR:Room A (d+1) 0):Room ((A.under (.builtin "type.__call__" ⟨.ref C::us,[]⟩)).deeper envM) 0 4:=
 ⟨hR.hand,by have:=hR.dep;show A.depth+1+1+10*0+4<recursionLimit;lia,by have:=hR.un;show A.units+1+3+60*0+12*4+60<cLine;lia⟩
theorem Nu{e:Env}(h:Room A 0 4):Room (A.deeper e) 0 1:=⟨h.hand,by have:=h.dep;show A.depth+1+10*0+1<recursionLimit;lia,by have:=h.un;show A.units+3+60*0+12*1+60<cLine;lia⟩
theorem YS(hB:Base w s₀)(hR:Room A (d+1) 0)(hS:St w s₀ γ s){n:Int}(hv:AllR (VR γ []) [.int n] us):codeAny (model prog w) A (.call (.ref 331) ⟨us,[]⟩) (PC w s₀ γ (.node (.num n))) s:=by
 refine hv.I1 λu hu=>?_;have hv:AllR (VR γ []) _ [u]:=.cons hu .nil;clear hu;refine Cb hB (by have:=hR.dep;lia) hS (by simp[pV]) rfl hv (ps:=[49]) (by simp[BZ]) (λS self=>i6 (xi1 w.params S self u) (by simp)) λx dx envM bZ aU E1 J1 S1=>?_
 have hr:=yC (C:=331) (us:=[u]) (envM:=envM) hR;obtain⟨IE,_,_,_⟩:=oR (prog:=prog) hB (pB (d:=0)) (hr.le (by decide)) 2
 obtain⟨_,IT,_,_⟩:=oR (prog:=prog) hB (pB (d:=0)) (hr.le (by decide)) 3
 obtain⟨c1,c2,c3,e1,i1,i2,i3⟩:=map3 (i6 (Gw w.params) (a:=(331,iNum)) (by simp[ifs]))
 rw[e1];exact oS (YM IT E1 i1 J1 S1 rfl) λcZ cL S2 J2=>oS (No (v:=.int n) hB IE E1 i2 J2 S2 rfl rfl (by kernel_rfl) (by simp)) λlT iY S3 J3=>
  oS (Nn (vs:=[.int n,.int n]) hr.hand hB IE E1 i3 J3 S3 rfl rfl (by kernel_rfl) (aX rfl)) λs₄ γ₄ S4 J4=>Ca J4 S4
theorem YT(hB:Base w s₀)(hR:Room A (d+1) 0)(hS:St w s₀ γ s){e:Str}{l h:Int}(hv:AllR (VR γ []) [.str e,.int l,.int h] us):codeAny (model prog w) A (.call (.ref 277) ⟨us,[]⟩) (PC w s₀ γ (.node (.var e l h))) s:=by
 refine hv.I3 λu1 u2 u3 x1 x2 x3=>?_;have hv:AllR (VR γ []) _ [u1,u2,u3]:=.cons x1 (.cons x2 (.cons x3 .nil));clear x1 x2 x3;refine Cb hB (by have:=hR.dep;lia) hS (by simp[pV]) rfl hv (ps:=[46,44,45]) (by simp[BZ]) (λS self=>i6 (xi3 w.params S self u1 u2 u3) (by simp)) λx dx envM bZ aU E1 J1 S1=>?_
 have hr:=yC (C:=277) (us:=[u1,u2,u3]) (envM:=envM) hR;obtain⟨IE,_,_,_⟩:=oR (prog:=prog) hB (pB (d:=0)) (hr.le (by decide)) 2
 obtain⟨c1,c2,e1,i1,i2⟩:=Qa (i6 (Gw w.params) (a:=(277,iVar)) (by simp[ifs]))
 rw[e1];exact oS (Nn (vs:=[.str e,.int l,.int _]) hr.hand hB IE E1 i1 J1 S1 rfl rfl (by kernel_rfl) (aX rfl)) λcZ cL S2 J2=>oS (No (v:=.none) hB IE E1 i2 J2 S2 rfl rfl (by kernel_rfl) (by simp)) λlT iY S3 J3=>Ca J3 S3
theorem Nv{C:Addr}(hC:C∈[471,512,560]):C∈Np/\(C,[41,2])∈BZ/\(C,iOp)∈ifs:=by
 simp only[a7,fK,or_false]at hC;rcases hC with rfl|rfl|rfl<;>simp[Np,BZ,ifs]
theorem Nw(hB:Base w s₀)(hR:Room A (d+1) 0)(hS:St w s₀ γ s){t a:T}{b:Int}(hcl:t.cls=C)(hC:C∈[471,512,560])(hf:mT t=[(El,.node a),(Dp,.int b),(lU,.int t.lo),(lV,.int t.hi)]){gl:List GS}{bd rest:List Stmt}
  (hbd:kZ (d4 (Kf w.params) (gM (Kf w.params) C dP))=bd++rest) (hgl:bd.map (gs (d4 (Kf w.params) (gM (Kf w.params) C dP)).scope)=gl.map some) (hsv:z6 a.lo a.hi b gl=some (t.lo,t.hi))
  (hv:AllR (VR γ []) [.node a,.int b] us):codeAny (model prog w) A (.call (.ref C) ⟨us,[]⟩) (PC w s₀ γ (.node t)) s:=by
 refine hv.I2 λu1 u2 x1 x2=>?_;have hv:AllR (VR γ []) _ [u1,u2]:=.cons x1 (.cons x2 .nil);clear x1 x2;have hC2:=(Nv hC).1;have hC1:=(Nv hC).2;refine Cb hB (by have:=hR.dep;lia) hS (hcl▸jX t) hcl hv (ps:=[41,2]) hC1.1 (λS self=>i6 (xi2 w.params S self u1 u2) hC) λx dx envM bZ aU E1 J1 S1=>?_
 have hr:=yC (C:=C) (us:=[u1,u2]) (envM:=envM) hR;obtain⟨IE,_,_,_⟩:=oR (prog:=prog) hB (pB (d:=0)) (hr.le (by decide)) 2
 obtain⟨c1,c2,e1,i1,i2⟩:=Qa (i6 (Gw w.params) hC1.2);rw[show Gv (Kf w.params) C=_ from e1,hf];refine oS (Nn (vs:=[.node a,.int b]) hr.hand hB IE E1 i1 J1 S1 rfl rfl (by kernel_rfl) (aX rfl)) λcZ cL S2 J2=>oS (Rt (i:=t.lo) (j:=t.hi) hr.hand hB i2 J2 S2 (DF hB hC2 (by have:=hr.dep;lia) J2 S2 (by show dP∉[El,Dp];decide+kernel) λenvM₁ lT iY E3 SA F3 I3 S3=>?_) rfl (by kernel_rfl) (aX rfl)) λlT iY S3 J3=>Ca J3 S3
 rw[hbd];exact Nl hB E3 rest hgl hsv lT iY ⟨SA,I3,t,hcl⟩ S3
theorem YU(hc:C=644)(hB:Base w s₀)(hR:Room A (d+1) 0)(hS:St w s₀ γ s){ts:List T}(hz:ts.length<=1000)(hv:AllR (VR γ []) [.lst (ts.map .node)] us):codeAny (model prog w) A (.call (.ref C) ⟨us,[]⟩) (PC w s₀ γ (.node (.sum ts))) s:=by
 refine hv.I1 λu hu=>?_;have hv:AllR (VR γ []) _ [u]:=.cons hu .nil;clear hu;have hg:Fb (d4 (Kf w.params) (gM (Kf w.params) C dP)).scope (kZ (d4 (Kf w.params) (gM (Kf w.params) C dP)))=true:=by rw[hc];exact PW w.params
 refine Cb hB (by have:=hR.dep;lia) hS (by rw[hc];simp[pV]) hc.symm hv (ps:=[4]) (by rw[hc];simp[BZ]) (λS self=>i6 (xi1 w.params S self u) (by rw[hc];simp)) λx dx envM bZ aU E1 J1 S1=>?_
 have hr:=yC (C:=C) (us:=[u]) (envM:=envM) hR;obtain⟨IE,_,_,_⟩:=oR (prog:=prog) hB (pB (d:=0)) (hr.le (by decide)) 2
 obtain⟨c1,c2,e1,i1,i2⟩:=Qa (i6 (Gw w.params) (a:=(C,iRed)) (by rw[hc];simp[ifs]))
 rw[show Gv (Kf w.params) C=_ from e1];refine oS (No (v:=.lst (ts.map .node)) hB IE E1 i1 J1 S1 rfl rfl (by kernel_rfl) (by simp)) λcZ cL S2 J2=>oS (Rt (i:=T.los ts) (j:=T.his ts) hr.hand hB i2 J2 S2 (DF hB (by rw[hc];simp[Np]) (by have:=hr.dep;lia) J2 S2 (by show dP∉[lI];decide+kernel) λenvM₁ lT iY E3 SA F3 I3 S3=>?_) rfl (by kernel_rfl) (aX rfl)) λlT iY S3 J3=>Ca J3 S3
 exact Jl hB (Nu hr) E3 hz hg ⟨SA,I3,⟨.sum [],hc.symm⟩,F3⟩ S3
theorem Qb{P:List V->Prop}{c:Addr}{v:V}(k1:∀n,(bif Nat.beq c 331 then some (V.node (.num n))else none)=some v->P [.int n])(k2:∀e lo hi,(bif Nat.beq c 277 then some (V.node (.var e lo hi))else none)=some v->P [.str e,.int lo,.int hi])
  (k3:∀a b,(bif decide (0<=a.lo)then(bif Nat.beq c 471 then(bif jQ (a.lo*b)&&jQ (a.hi*b)then some (V.node (.mul a b))else none)else bif Nat.beq c 512 then(bif !decide (b=0)&&jQ b then some (V.node (.div a b))else none)else bif Nat.beq c 560 then(bif !decide (b=0)&&jQ b then some (V.node (.mod a b))else none)else none)else none)=some v->P [.node a,.int b])
  (k4:∀l,(bif Nat.beq c 644&&Nat.ble l.length 1000 then(pZ l).map λts=>V.node (.sum ts)else none)=some v->P [.lst l]) {vs:List V} (h:mkV c vs=some v):P vs:=by
 induction vs using List.casesOn with
 |nil=>exact aY h
 |cons a r=>
  induction a using V.casesOn with
  |int n=>
   induction r using List.casesOn with
   |nil=>exact k1 n h
   |cons _ _=>exact aY h
  |lst l=>
   induction r using List.casesOn with
   |nil=>exact k4 l h
   |cons _ _=>exact aY h
  |node t=>
   induction r using List.casesOn with
   |nil=>exact aY h
   |cons b r=>
    induction b using V.casesOn with
    |int b=>
     induction r using List.casesOn with
     |nil=>exact k3 t b h
     |cons _ _=>exact aY h
    |_=>exact aY h
  |str e=>
   induction r using List.casesOn with
   |nil=>exact aY h
   |cons b r=>
    induction b using V.casesOn with
    |int lo=>
     induction r using List.casesOn with
     |nil=>exact aY h
     |cons d r=>
      induction d using V.casesOn with
      |int hi=>
       induction r using List.casesOn with
       |nil=>exact k2 e lo hi h
       |cons _ _=>exact aY h
      |_=>exact aY h
    |_=>exact aY h
  |_=>exact aY h
theorem mk_ok(hB:Base w s₀)(hR:Room A (d+1) 0)(hS:St w s₀ γ s)(hv:AllR (VR γ []) vs us)(h:mkV C vs=some v):codeAny (model prog w) A (.call (.ref C) ⟨us,[]⟩) (PC w s₀ γ v) s:=by
 revert hv;refine Qb (P:=λvs=>AllR (VR γ []) vs us->codeAny (model prog w) A (.call (.ref C) ⟨us,[]⟩) (PC w s₀ γ v) s) (λn h hv=>?_) (λe lo hi h hv=>?_) (λa b h hv=>?_) (λl h hv=>?_) h
 ·refine dJ h ?_;clear h;intro hc h;rw[aA hc,<-aC h];exact YS hB hR hS hv
 ·refine dJ h ?_;clear h;intro hc h;rw[aA hc,<-aC h];exact YT hB hR hS hv
 ·refine dJ h ?_;clear h;intro h0 h;have h0:=aM h0;induction c1:Nat.beq C 471 using Bool.casesOn with
  |true=>
   rw[cT (c1 ..)]at h;refine dJ h ?_;clear h;intro hc h;obtain⟨f1,f2⟩:=aL.mp hc;rw[aA c1,<-aC h];exact Nw (t:=.mul a b) hB hR hS rfl (by simp) rfl (List.take_append_drop 2 _).symm (PM w.params) (by rw[r8,pL];exact YO h0 f1 f2) hv
  |false=>
   rw[cF (c1 ..)]at h;induction c2:Nat.beq C 512 using Bool.casesOn with
   |true=>
    clear c1;rw[cT (c2 ..)]at h;refine dJ h ?_;clear h;intro hc h;rw[aA c2,<-aC h];exact Nw (t:=.div a b) hB hR hS rfl (by simp) rfl (bW _).symm (PO w.params) (by rw[r9,tA];exact YQ h0 hc) hv
   |false=>
    clear c1;rw[cF (c2 ..)]at h;refine dJ h ?_;clear h;intro c3 h;refine dJ h ?_;clear h;intro hc h;rw[aA c3,<-aC h];exact Nw (t:=.mod a b) hB hR hS rfl (by simp) rfl (bW _).symm (PP w.params) (by rw[uQ,uR];exact YR h0 hc) hv
 ·refine dJ h ?_;clear h;intro hc h;refine eV h ?_;clear h;intro ts h1 h;obtain⟨c1,c2⟩:=aL.mp hc;rw[<-h];have e:=z9 h1;clear h1 hc;subst e;exact YU (aA c1) hB hR hS (by have:=aX c2;simpa using this) hv
end
def Aa(e:Expr):Bool:=vB false e λo a _=>wU o&&lE a dG
def YV(e:Expr):Bool:=FK false e λl ops xs _=>xD false ops λop=>xD false xs λx=>FJ false x λc _ _=>Nat.beq c.ctorIdx 0&&Aa l&&decide (op=.Is)
def kD(sc:Scope)(body:List Stmt):Option X:=AL none body λc1 c2=>OH none c1 λt a o _=>xD none a λc3=>FM none c3 λts e _=>xD none ts λtg=>A9 none o (AM none c2 λr _=>r.bind λr=>bif YV t&&Aa tg&&mA e&&Aa r then some (er 20 sc e)else none)
inductive KInv(sc:Scope)(body:List Stmt)(x:X):Prop
 |mk (t tg e r:Expr) (p1 p2 p3:Pos):body=[.If t [.Assign [tg] e p1] [] p2,.Return (some r) p3]->YV t=true->Aa tg=true->mA e=true->Aa r=true->x=er 20 sc e->KInv sc body x
theorem YW{sc:Scope}{body:List Stmt}{x:X}(h:kD sc body=some x):KInv sc body x:=
 OC h nS λc1 c2 eb h=>ifE h nS λt a o p1 e1 h=>Es h nS λc3 ea h=>asgE h nS λts e p2 e3 h=>Es h nS λtg et h=>Op h nS λeo h=>OI h nS λr p3 e2 h=>bH h λr er h=>dJ h λc h=>fF c λc c4=>fF c λc c3=>fF c λc1 c2=>
  ⟨t,tg,e,r,p2,p1,p3,by rw[eb,e1,ea,e3,et,eo,e2,er],c1,c2,c3,c4,(aC h).symm⟩
theorem wX{e:Expr}(h:Aa e=true):∃q p,e=.Attribute (.Name jG q) dG p:=
 Iu h nT λo a p e h=>fF h λh1 h2=>let⟨q,e'⟩:=pK h1;⟨q,p,by rw[e,e',fY h2]⟩
theorem Nx{e:Expr}(h:YV e=true):∃l k q p,e=.Compare l [.Is] [.Constant .none k q] p/\Aa l=true:=
 cmpE h nT λl ops xs p e h=>Es h nT λop e1 h=>Es h nT λx e2 h=>cstE h nT λc k q e3 h=>fF h λh h3=>fF h λh1 h2=>
  ⟨l,k,q,p,by rw[e,e1,e2,e3,aM h3,Const.none.elim (motive:=λz=>z=.none) c (aA h1) rfl],h2⟩
noncomputable def YX:X:=.meth (.var 1) .render [] [(3,.str d9)]
theorem kD_ok(P:Params):kD (d4 (Kf P) 71).scope (kZ (d4 (Kf P) 71))=some YX:=by kernel_rfl!
theorem kent(P:Params):(wS (Kf P) (71,xY (Kf P) 71 [])&&((d4 (Kf P) 71).scope.names.lookup jG==some .local)&&pV.all (λC=>findIn (Kf P) (.ref C) dG==some (some .none)&&noGet (Kf P) (some .none)))=true:=by kernel_rfl!
theorem kpar(P:Params)(S:Setting)(u:Value):peek (Kf P) S (bindArgs (d4 (Kf P) 71) ⟨[u],[]⟩)=some ((j3 (Kf P) 71).zip [u]):=by kernel_rfl!
theorem kpr(P:Params):(xY (Kf P) 71 []).params=[1]:=by kernel_rfl!
theorem YY{γ:Gh}{x:Str}{v:V}{u:Value}{hsh:Int}{key:Value}(hv:VR γ [] v u):∀{fs:List (Str×V)} {es:List DictEntry},AllR (FR γ) fs es->cJ x fs=some v->AllR (FR γ) fs (putL x hsh key u es):=by
 intro fs es h;induction h with
 |nil=>intro e;exact aY e
 |@cons p en fs es r rs ih=>
  intro e;obtain⟨y,z⟩:=p;obtain⟨⟨k,hk⟩,hr⟩:=r;have hs:en.key.isStr x=(y==x):=by rw[hk];rfl
  unfold cJ at e;unfold putL;rw[hs];induction hx:lE x y using Bool.casesOn with
  |true=>
   rw[hx]at e;clear ih;obtain rfl:=aC e;rw[fY hx,beq_self_eq_true];exact .cons ⟨⟨k,hk⟩,hv⟩ rs
  |false=>
   rw[hx]at e;rw[show(y==x)=false from cK.mpr (Ne.symm (mB.mp hx))];exact .cons ⟨⟨k,hk⟩,hr⟩ (ih e)
section
variable{prog:Program}{w:World}{s₀ s s' bZ:Shared}{γ bP:Gh}{A:Around}{v:V}{u:Value}{x dx C:Addr}{envM:Env}{sc:Scope}{d:Nat}{cf:cO}{t:T}{us:List Value}{es:List DictEntry}{n:Nat}
theorem St.keyed(h:St w s₀ γ s)(e:γ x=some (.node t dx))(hs:Heap.SameBut dx s.heap s'.heap)(ho:s'.heap.get? dx=some (dictOf es n))(r:AllR (FR γ) (mT t++[(dG,.str t.rend)]) es)(hg:autoParam (s'.gens=s.gens) au)(hos:autoParam (s'.os=s.os) au):St w s₀ γ s':=
 ⟨λb ob q=>(hs.2 b (λz=>by have:=(h.ok.dlo _ _ _ e).1;rw[<-z]at this;exact absurd (aZ (Heap.lt_size q) this) (i7 _))).trans (h.keep b ob q),
  by rw[hs.1];exact h.size,h.ok.keyed e hs ho r,hg.trans h.gens,hos.trans h.os⟩
theorem G3(P:Params)(t:T):findIn (Kf P) (.ref t.cls) dG=some (some .none)/\noGet (Kf P) (some .none)=true:=by
 have:=(aL.mp (kent P)).2;have:=aW.mp this _ (jX t);refine oA (aL.mp this) λa b=>?_;exact⟨beq_iff_eq.mp a,b⟩
theorem yD(t:T):cJ dG (mT t)=none:=by induction t using T.casesOn<;>rfl
theorem DH(hB:Base w s₀)(hA:SelfAt γ envM x)(hS:St w s₀ γ s)(hx:s.heap.get? x=some (instObj t.cls dx))(hd:s.heap.get? dx=some (dictOf es n))(r:AllR (FR γ) (mT t++[(dG,.str t.rend)]) es){q p:Pos}{Q:Value->Shared->Prop}(hq:∀tk,Q (.str t.rend tk) {s with toks:=s.toks+1}):
  wpAny (model prog w) A (eval (.Attribute (.Name jG q) dG p) envM) Q fW s:=by
 refine Oo (hA.frm hS) λL m F=>?_;refine i8 (rG r (x:=dG) (v:=.str t.rend) (by rw[pG,yD];rfl)) λu h1 h2=>?_
 obtain⟨a1,a2⟩:=G3 w.params t;obtain⟨tk,rfl⟩:=h2.isStr;exact tV rfl (kG hA hS (get_own F hB.K ⟨hx,rfl,rfl,hd⟩ (rX _ t _) (rE _ t) a1 a2 h1 rfl (hq tk)))
theorem Ny(hB:Base w s₀)(hA:SelfAt γ envM x)(hS:St w s₀ γ s)(hx:s.heap.get? x=some (instObj t.cls dx))(hd:s.heap.get? dx=some (dictOf es n))(r:AllR (FR γ) (mT t) es){q p:Pos}{Q:Value->Shared->Prop}(hq:Q .none {s with toks:=s.toks+1}):
  wpAny (model prog w) A (eval (.Attribute (.Name jG q) dG p) envM) Q fW s:=by
 refine Oo (hA.frm hS) λL m F=>?_;obtain⟨a1,a2⟩:=G3 w.params t;have hs:specialIn (Kf w.params) .none "__get__"=some none:=aM (beq_iff_eq.mp (by
  have:=a2;unfold noGet at this;simpa using this))
 exact tV rfl (kG hA hS (get_cls F hB.K ⟨hx,rfl,rfl,hd⟩ (rX _ t _) (rE _ t) a1 hs rfl (by decide+kernel) (oZ r (yD t)) hq))
theorem YZ(h50:cf 50 [.node t] [(3,.str d9)]=some v):dI cf (bJ cf 1) YX [(1,.node t)] []=some (v,[]):=by
 induction t using T.casesOn<;>(show((cf 50 [V.node _] [(3,V.str d9)]).map λv=>(v,_))=_;rw[h50];rfl)
end
section
variable{prog:Program}{w:World}{s₀ s s' bZ:Shared}{γ bP:Gh}{A:Around}{v:V}{u:Value}{x dx C:Addr}{envM:Env}{sc:Scope}{d:Nat}{cf:cO}{t:T}{us:List Value}{es:List DictEntry}{n:Nat}
theorem Qc(hB:Base w s₀)(hS:St w s₀ γ s)(e:γ x=some (.node t dx)){tk:Tok}:
  wpAny (model prog w) A (setAttr (.ref x) dG (.str t.rend tk)) (λ_ s'=>St w s₀ γ s'/\s'.heap.get? x=some (instObj t.cls dx)/\∃es n,s'.heap.get? dx=some (dictOf es n)/\AllR (FR γ) (mT t++[(dG,.str t.rend)]) es) fW s:=by
 refine yL (hS.ok.at_ _ _ e) λhx es n hd r=>?_;have c:=aW.mp (st1 w.params) t.cls (jX t);simp only[a9,beq_iff_eq]at c;obtain⟨⟨⟨c1,c2⟩,c3⟩,c4⟩:=c;have ht:=beq_iff_eq.mp (aW.mp c4 dG (by simp[ã]))
 have hK:=hB.K.keeps hS.keep;have f5:x≠dx:=λz=>by clear hK ht c2 c1 c3 c4 r;rw[z,hd]at hx;cases hx
 have I:InstAt s.heap x (instObj t.cls dx) t.cls (some (dictOf es n)):=⟨hx,rfl,rfl,hd⟩;have hV:VR γ [] (.str t.rend) (.str t.rend tk):=.str ..;have hflen:(mT t).length<=4:=by clear hV I ht c2 c1 c3 c4 r hx e;induction t using T.casesOn<;>(unfold mT;simp)
 have hes:(getL dG es).isSome=true/\∀h k,AllR (FR γ) (mT t++[(dG,.str t.rend)]) (putL dG h (.str dG k) (.str t.rend tk) es):=by
  rcases r with r|r
  ·have g:=oZ r (yD t);exact⟨by rw[g];rfl,λh k=>by rw[vR _ _ _ _ _ g];exact r.append (.cons ⟨⟨_,rfl⟩,hV⟩ .nil)⟩
  ·have hl:cJ dG (mT t++[(dG,.str t.rend)])=some (.str t.rend):=by rw[pG,yD];rfl
   obtain⟨u',g,_⟩:=rG r hl;exact⟨by rw[g];rfl,λh k=>YY hV r hl⟩
 obtain⟨g,hp⟩:=hes;have hp:=hp (PyData.keyHash w.params dG) (s.toks+1);have e':=putName_dict dG (PyData.keyHash w.params dG) (.str dG (s.toks+1)) (.str t.rend tk) es n;have D':(s.heap.update dx (Obj.putName dG (PyData.keyHash w.params dG) (.str dG (s.toks+1)) (.str t.rend tk))).get? dx=some (dictOf (putL dG (PyData.keyHash w.params dG) (.str dG (s.toks+1)) (.str t.rend tk) es) (putN dG es n)):=e'▸Heap.get?_update_self _ hd (e'▸rfl);have hz:(putL dG (PyData.keyHash w.params dG) (.str dG (s.toks+1)) (.str t.rend tk) es).length<=1000:=by have:=hp.length;rw[bU,d0]at this;exact LJ hflen this
 refine set_plain hK I c1 (Gq (s:={s with toks:=s.toks+1}) hK hx hd c2 c3 ht g hz ?_)
 exact XS (hS.keyed (s':={s with heap:=s.heap.update dx (Obj.putName dG (PyData.keyHash w.params dG) (.str dG (s.toks+1)) (.str t.rend tk)),toks:=s.toks+1+1}) e (Heap.SameBut.update ..) D' hp) (((Heap.SameBut.update ..).2 x f5).trans hx) _ _ D' hp
theorem Za{a:Addr}(ha:a=71)(hB:Base w s₀)(hc:rD prog w s₀ d cf)(hR:Room A (d+1) 0)(hS:St w s₀ γ s)(hv:AllR (VR γ []) [.node t] us)(h50:cf 50 [.node t] [(3,.str d9)]=some (.str t.rend)):codeAny (model prog w) A (.call (.ref a) ⟨us,[]⟩) (PC w s₀ γ (.str t.rend)) s:=by
 refine fM (hv.len1) λu us' zr2 hu h0=>?_;subst zr2;cases h0;clear hv;refine kY (id hu.isNode) λx dx zr2 ex=>?_;subst zr2;have ke:wS (Kf w.params) (a,xY (Kf w.params) a [])=true/\(d4 (Kf w.params) a).scope.names.lookup jG=some .local:=by
  have:=kent w.params;simp only[a9,beq_iff_eq]at this;rw[ha];exact this.1
 refine oA (ke) λk1 k2=>?_;have I:=EY k1 rfl;have hK:=hB.K.keeps hS.keep;have hpr:(xY (Kf w.params) a []).params=[1]:=by rw[ha];exact kpr w.params
 have hpb:∀S u,peek (Kf w.params) S (bindArgs (d4 (Kf w.params) a) ⟨[u],[]⟩)=some ((j3 (Kf w.params) a).zip [u]):=by rw[ha];exact kpar w.params
 have hkd:kD (d4 (Kf w.params) a).scope (kZ (d4 (Kf w.params) a))=some YX:=by rw[ha];exact kD_ok w.params
 refine BW (R':=λv u'=>VR γ [] v u'/\u'=.ref x) (vs:=[.node t]) (us':=[.ref x]) (env:=[(1,.node t)]) hB hS I (kp_binds hK λS=>hpb S _) (by have:=hR.dep;lia) (.cons ⟨hu,rfl⟩ .nil) (λj v h=>⟨by rw[hpr];exact h,λu q=>q.1⟩) λenvM bZ aU S1 T1 F1 E1 CA W1 X1=>?_
 have hk:=eG E1 (x:=jG) (by rw[f8];exact k2)
 refine JZ (X1 jG 1 (.node t) rfl (by rw[hpr];rfl) hk) λo m u' h1 h2 h3 _ zr7=>?_;subst zr7
 have SA:SelfAt aU envM x:=⟨⟨o,m,h1,h2,h3⟩,hk,E1.kind⟩;have ex1:=T1.ext _ _ ex rfl;obtain⟨tt,tg,e,r,p1,p2,p3,hbd,i1,i2,i3,i4,i5⟩:=YW hkd;refine XQ (Nx i1) λl k' q1 q2 zr4 j1=>?_;subst zr4;clear i1;obtain⟨q3,p4,rfl⟩:=wX j1;obtain⟨q5,p5,rfl⟩:=wX i2;obtain⟨q6,p6,rfl⟩:=wX i4;rw[hbd];have fin:∀{cZ:Shared} {cL:Gh} {es:List DictEntry} {n:Nat},St w s₀ cL cZ->Step [] aU cL [] []->cZ.heap.get? x=some (instObj t.cls dx)->cZ.heap.get? dx=some (dictOf es n)->AllR (FR cL) (mT t++[(dG,.str t.rend)]) es->
   wpAny (model prog w) (A.deeper envM) (execs [.Return (some (.Attribute (.Name jG q6) dG p6)) p3] envM) (λf s'=>PC w s₀ γ (.str t.rend) (.ok (.ret (match f with|.ret v=>v|_=>.none))) s') fW cZ:=λS2 T2 hx hd r=>
  wpAny_execs_cons (wpAny_Return_some (DH hB (SA.step T2 (by simp) (by simp)) S2 hx hd r λtk=>⟨.str t.rend tk,_,rfl,S2.like,T1.trans T2,.str ..⟩))
 refine yL (S1.ok.at_ _ _ ex1) λhx es n hd r=>?_;refine wpAny_execs_cons (wpAny_If (wpAny_isTrue_Compare1 ?_ rfl));rcases r with r|r
 ·refine Ny hB SA S1 hx hd r (wpAny_Constant_none (wpAny_is_self rfl ?_));have S2:St w s₀ aU {bZ with toks:=bZ.toks+1}:=S1.like
  refine aD (sZ S2 (CsOk.nil w aU) (.bool true) (show eM (.bool true) []=some true from rfl)) (λb cZ z=>?_) λ_ _ z=>z;refine B4 (z.pn) λzr0 cL S3 T3=>?_;subst zr0;rw[if_pos rfl];refine u7 (oR (prog:=prog) hB hc (hR.deep (envM:=envM)) 2) λIE _ _ _=>?_;refine wpAny_execs_cons (plainObj_wpAny_Assign_Attribute (aD (IE 20 _ e envM E1 cZ cL [] [(1,.node t)] [] (.str t.rend) [] S3 (CsOk.nil w cL) (F1.step T3) (by rw[<-i5];exact YZ h50)) (λu₃ lT z=>?_) λ_ _ z=>z) (mD i3 ..))
  obtain⟨iY,ad₃,S4,C4,T4,V4⟩:=z;refine V4.strI λtk=>?_;have T34:=T3.trans T4.drop;refine kG (SA.step T34 (by simp) (by simp)) S4 (aD (Qc hB S4 (T34.ext _ _ ex1 rfl)) (λ_ s₅ z=>?_) λ_ _ z=>z)
  refine XO (z) λS5 hx5 es5 n5 hd5 r5=>?_;exact wpAny_execs_nil (fin S5 T34 hx5 hd5 r5)
 ·refine DH hB SA S1 hx hd r λtk=>wpAny_Constant_none (is_none_ne (by intro z;cases z) ?_)
  have S2:St w s₀ aU {bZ with toks:=bZ.toks+1}:=S1.like
  refine aD (vI S2 (CsOk.nil w aU) (.bool false) (show eM (.bool false) []=some false from rfl)) (λb cZ z=>?_) λ_ _ z=>z;obtain⟨rfl,z⟩:=z;rw[if_neg (by decide)]
  exact wpAny_execs_nil (fin (z.st S2) (.refl _ _) (by rw[z.1];exact hx) (by rw[z.1];exact hd) r)
end
set_option tactic.hygienic true
section
variable{prog:Program}{w:World}{s₀:Shared}
theorem Nz(hB:Base w s₀):∀d,rD prog w s₀ d (aB fi d)
 |0=>λ_ _ _ _ _ _ _ _ _ _ _ _ _ _ h=>by exact aY h
 |d+1=>λA s γ a vs us kws ukws v hR hS hF hv hk h=>by
  have ih:=Nz hB d;have h:(bif Nat.beq a 71 then xD none vs λv=>zD none v λt=>pX none (aB fi d 50 vs [(3,.str d9)]) λu=>t8 none u λs=>bif lE s t.rend&&kws.isEmpty then some (.str s)else none
  else bif Dv a then A9 none kws (mkV a vs)
  else(fi a).bind λi=>(vF i.params vs kws i.dflts).bind λenv=>(uN (bJ (aB fi d) AD) i.body env []).bind λp=>some (match p.1 with|some v=>v|none=>.none))=some v:=h
  induction c1:Nat.beq a 71 using Bool.casesOn with
  |true=>
   rw[cT (c1 ..)]at h;refine Es h nS ?_;clear h;intro v' e h;subst e;refine vNE h nS ?_;clear h;intro t e h;subst e;refine oE h nS ?_;clear h;intro u hx h;refine QW h nS ?_;clear h;intro x e h;subst e;refine dJ h ?_;clear h;intro hc h;refine e9 h ?_;obtain⟨e1,e2⟩:=aL.mp hc;cases eI.mp e2;cases hk;have e1:=fY e1;clear hc h;subst e1;exact Za (aA c1) hB ih hR hS hv hx
  |false=>
   rw[cF (c1 ..)]at h;induction c2:Dv a using Bool.casesOn with
   |true=>
    clear c1;rw[cT (c2 ..)]at h;refine Op h nS λe h=>?_;subst e;cases hk;exact mk_ok hB hR hS hv h
   |false=>
    clear c1;rw[cF (c2 ..)]at h;refine bH h ?_;clear h;intro i hi h;refine bH h ?_;clear h;intro env hb h;refine bH h ?_;clear h;intro p hx h;refine e9 h ?_;obtain⟨rv,env',cW⟩:=p;have:=Rn hB ih hR hS hi hv hk hb hx;induction rv using Option.casesOn<;>exact this
end
set_option tactic.hygienic false
section
variable{prog:Program}{w:World}{s₀ s s':Shared}{γ:Gh}
theorem St.init{a:Addr}{arr:Array Value}{l:List V}(hl:s.heap.IsList a arr)(hv:∀γ,AllR (VR γ []) l arr.toList):St w s (iZ (λ_=>none) a (some (.lst l))) s:=by
 refine oEAAE (hl) λo h1 h2 n h3=>?_;have back:∀{b g},iZ (λ_=>none) a (some (G.lst l)) b=some g->b=a/\g=.lst l:=λ{b g} q=>by
  by_cases hb:b=a
  ·clear h1;subst hb;rw[bK]at q;refine e9 q ?_;exact⟨rfl,rfl⟩
  ·rw[cN hb]at q;exact aY q
 refine⟨λ_ _ e=>e,cA _,⟨λb g q=>?_,λb g q hg=>?_,λb t dx q=>?_,λb b' t t' dx q q'=>?_⟩,rfl,rfl⟩
 ·obtain⟨rfl,rfl⟩:=back q;exact FF o h1 h2 arr n h3 (hv _)
 ·obtain⟨_,rfl⟩:=back q;exact jA hg
 ·obtain⟨_,e⟩:=back q;cases e
 ·obtain⟨_,e⟩:=back q;cases e
theorem Jn{d:Nat}{vs:List V}{v:V}(h:aB fi (d+1) 687 vs []=some v):∃i env rv env' cW,fi 687=some i/\vF i.params vs [] i.dflts=some env/\uN (bJ (aB fi d) AD) i.body env []=some (rv,env',cW)/\v=(match rv with|some v=>v|none=>.none):=by
 replace h:((fi 687).bind λi=>(vF i.params vs [] i.dflts).bind λenv=>(uN (bJ (aB fi d) AD) i.body env []).bind λp=>some (match p.1 with|some v=>v|none=>.none))=some v:=h
 refine bH h ?_;clear h;intro i hi h;refine bH h ?_;clear h;intro env hb h;refine bH h ?_;clear h;intro p hx h;obtain⟨rv,env',cW⟩:=p;exact Iq i env rv env' cW hi hb hx ((aC h).symm)
theorem Zb(hB:Base w s){fa a:Addr}(hfa:fa=687){vs:List Value}{is:List Int}(hl:s.heap.IsList a vs.toArray)(hv:AllR (VR (λ_=>none) []) (is.map V.int) vs)(hp:aB fi 60 687 [.lst (is.map V.int)] []=some (.bool true)):
  wpAny (model prog w) callerA (call (.ref fa) [.ref a]) (λv s'=>v=.bool true/\(∀b o,s.heap.get? b=some o->s'.heap.get? b=some o)/\s'.gens=s.gens/\s'.os=s.os) fW s:=by
 have hS:=St.init (w:=w) (l:=is.map V.int) hl λγ=>by rw[List.toList_toArray];exact hv.mono λ_ _ z=>z.mono (λ_ _ e=>aY e) λ_ _ e=>e
 refine Io (Jn hp) λi env rv env' cW hi hb hx hr=>?_;subst hfa;have hR:Room callerA 60 0:=⟨rfl,by decide+kernel,by decide+kernel⟩
 refine wpAny_call (codeAny_mono (Rn (prog:=prog) (us:=[.ref a]) (ukws:=[]) hB (Nz hB 59) hR hS hi (.cons (.lst (bK ..)) .nil) .nil hb hx) λr s' z=>?_);obtain⟨u,bP,rfl,S1,T1,V1⟩:=z;induction rv using Option.casesOn with
 |none=>cases hr
 |some v'=>
  cases hr;cases(show VR bP [] (.bool true) u from V1);exact B8 rfl S1.keep S1.gens S1.os
end
set_option tactic.hygienic true
structure RecK(α:Type) where
 ev:X->Ev->Cs->(V->Cs->Option α)->Option α
 ts:X->Ev->Cs->(Bool->Cs->Option α)->Option α
 ex:Y->Ev->Cs->(V->Ev->Cs->Option α)->(Ev->Cs->Option α)->Option α
section
variable{α:Type}
noncomputable def Fe(rk:RecK α)(env:Ev):List X->Cs->(List V->Cs->Option α)->Option α
 |[],cs,k=>k [] cs
 |e::es,cs,k=>rk.ev e env cs λv cs=>Fe rk env es cs λvs cs=>k (v::vs) cs
noncomputable def N0(rk:RecK α)(env:Ev):List (Nat×X)->Cs->(List (Nat×V)->Cs->Option α)->Option α
 |[],cs,k=>k [] cs
 |(n,e)::es,cs,k=>rk.ev e env cs λv cs=>bif isOwn v then none else N0 rk env es cs λvs cs=>k ((n,v)::vs) cs
noncomputable def Qd(rk:RecK α)(env:Ev)(isAnd:Bool):List X->Cs->(Bool->Cs->Option α)->Option α
 |[],cs,k=>k isAnd cs
 |e::es,cs,k=>rk.ts e env cs λb cs=>bif (bif isAnd then b else !b)then Qd rk env isAnd es cs k else k (!isAnd) cs
def Ab(cf:cO)(o:V)(n:Nm)(args:List V)(kws:List (Nat×V))(cs:Cs)(k:V->Cs->Option α):Option α:=V.casesOn (motive_1:=λ_=>Option α) o
 ((q9 cf o n args kws cs).bind λx=>k x.1 x.2)
 (λ_=>(q9 cf o n args kws cs).bind λx=>k x.1 x.2)
 (λ_=>(q9 cf o n args kws cs).bind λx=>k x.1 x.2)
 (λ_=>(q9 cf o n args kws cs).bind λx=>k x.1 x.2)
 (λt=>(gU t n).bind λf=>(eX args cs).bind λw=>(cf f (.node t::w.1) kws).bind λv=>k v w.2)
 (λ_=>(q9 cf o n args kws cs).bind λx=>k x.1 x.2)
 (λ_=>(q9 cf o n args kws cs).bind λx=>k x.1 x.2)
 (λ_=>(q9 cf o n args kws cs).bind λx=>k x.1 x.2)
 (λ_=>(q9 cf o n args kws cs).bind λx=>k x.1 x.2)
 (λ_=>(q9 cf o n args kws cs).bind λx=>k x.1 x.2)
 (λc=>(qA c n).bind λf=>(eX args cs).bind λw=>(cf f w.1 kws).bind λv=>k v w.2)
 (λ_=>(q9 cf o n args kws cs).bind λx=>k x.1 x.2)
def Ru(cf:cO)(f:V)(args:List V)(kws:List (Nat×V))(cs:Cs)(k:V->Cs->Option α):Option α:=V.casesOn (motive_1:=λ_=>Option α) f
 ((qB cf f args kws cs).bind λx=>k x.1 x.2)
 (λ_=>(qB cf f args kws cs).bind λx=>k x.1 x.2)
 (λ_=>(qB cf f args kws cs).bind λx=>k x.1 x.2)
 (λ_=>(qB cf f args kws cs).bind λx=>k x.1 x.2)
 (λ_=>(qB cf f args kws cs).bind λx=>k x.1 x.2)
 (λ_=>(qB cf f args kws cs).bind λx=>k x.1 x.2)
 (λ_=>(qB cf f args kws cs).bind λx=>k x.1 x.2)
 (λ_=>(qB cf f args kws cs).bind λx=>k x.1 x.2)
 (λ_=>(qB cf f args kws cs).bind λx=>k x.1 x.2)
 (λ_=>(qB cf f args kws cs).bind λx=>k x.1 x.2)
 (λa=>(eX args cs).bind λw=>(cf a w.1 kws).bind λv=>k v w.2)
 (λ_=>(qB cf f args kws cs).bind λx=>k x.1 x.2)
def DI(cf:cO)(r:Rec)(rk:RecK α)(e:X)(env:Ev)(cs:Cs)(k:V->Cs->Option α):Option α:=X.casesOn (motive_1:=λ_=>Option α) e
 ((dI cf r e env cs).bind λp=>k p.1 p.2)
 (λ_=>(dI cf r e env cs).bind λp=>k p.1 p.2)
 (λ_=>(dI cf r e env cs).bind λp=>k p.1 p.2)
 (λ_=>(dI cf r e env cs).bind λp=>k p.1 p.2)
 ((dI cf r e env cs).bind λp=>k p.1 p.2)
 (λ_=>(dI cf r e env cs).bind λp=>k p.1 p.2)
 (λ_=>(dI cf r e env cs).bind λp=>k p.1 p.2)
 (λ_=>(dI cf r e env cs).bind λp=>k p.1 p.2)
 (λop l x=>rk.ev l env cs λp cs=>rk.ev x env cs λq cs=>(cG cf op p q).bind λv=>k v cs)
 (λ_=>(dI cf r e env cs).bind λp=>k p.1 p.2)
 (λx=>rk.ev x env cs λp cs=>(eM p cs).bind λb=>k (.bool (!b)) cs)
 (λx y=>rk.ev x env cs λv cs=>(eM v cs).bind λb=>bif b then rk.ev y env cs k else k v cs)
 (λ_ _=>(dI cf r e env cs).bind λp=>k p.1 p.2)
 (λt a b=>rk.ts t env cs λc cs=>bif c then rk.ev a env cs k else rk.ev b env cs k)
 (λop l x=>rk.ev l env cs λp cs=>rk.ev x env cs λq cs=>(j4 cf op p q).bind λv=>k v cs)
 (λes=>bif !Nat.blt es.length 20 then none else Fe rk env es cs λvs cs=>(eX vs cs).bind λq=>k (gT (.lst q.1) q.2).1 (gT (.lst q.1) q.2).2)
 (λ_=>(dI cf r e env cs).bind λp=>k p.1 p.2)
 ((dI cf r e env cs).bind λp=>k p.1 p.2)
 (λo n=>rk.ev o env cs λp cs=>(jD cf p n).bind λv=>k v cs)
 (λo i=>rk.ev o env cs λp cs=>rk.ev i env cs λq cs=>(eZ p q cs).bind λv=>k v cs)
 (λ_ _=>(dI cf r e env cs).bind λp=>k p.1 p.2)
 (λo n args kws=>rk.ev o env cs λp cs=>bif !jR p n cs then none else Fe rk env args cs λq cs=>N0 rk env kws cs λz cs=>Ab cf p n q z cs k)
 (λf args kws=>rk.ev f env cs λp cs=>Fe rk env args cs λq cs=>N0 rk env kws cs λz cs=>Ru cf p q z cs k)
 (λ_ _ _ _=>(dI cf r e env cs).bind λp=>k p.1 p.2)
 (λ_ _ _ _ _=>(dI cf r e env cs).bind λp=>k p.1 p.2)
 (λ_ _ _ _=>(dI cf r e env cs).bind λp=>k p.1 p.2)
def tsKS(cf:cO)(r:Rec)(rk:RecK α)(e:X)(env:Ev)(cs:Cs)(k:Bool->Cs->Option α):Option α:=X.casesOn (motive_1:=λ_=>Option α) e
 (none)
 (λx=>DI cf r rk (.var x) env cs λv cs=>(eM v cs).bind λb=>k b cs)
 (λ_=>none)
 (λ_=>none)
 (none)
 (λ_=>none)
 (λ_=>none)
 (λ_=>none)
 (λop a b=>DI cf r rk (.bin op a b) env cs λv cs=>(eM v cs).bind λb=>k b cs)
 (λ_=>none)
 (λx=>rk.ts x env cs λb cs=>k (!b) cs)
 (λx y=>Qd rk env true [x,y] cs k)
 (λisAnd es=>Qd rk env isAnd es cs k)
 (λ_ _ _=>none)
 (λop a b=>DI cf r rk (.cmp op a b) env cs λv cs=>(eM v cs).bind λb=>k b cs)
 (λ_=>none)
 (λ_=>none)
 (none)
 (λo n=>DI cf r rk (.attr o n) env cs λv cs=>(eM v cs).bind λb=>k b cs)
 (λ_ _=>none)
 (λ_ _=>none)
 (λ_ _ _ _=>none)
 (λf a kw=>DI cf r rk (.call f a kw) env cs λv cs=>(eM v cs).bind λb=>k b cs)
 (λ_ _ _ _=>none)
 (λ_ _ _ _ _=>none)
 (λ_ _ _ _=>none)
noncomputable def dR(rk:RecK α):List Y->Ev->Cs->(V->Ev->Cs->Option α)->(Ev->Cs->Option α)->Option α
 |[],env,cs,_,kn=>kn env cs
 |s::ss,env,cs,kr,kn=>rk.ex s env cs kr λenv cs=>dR rk ss env cs kr kn
noncomputable def nO(o:Mf)(kr:V->Ev->Cs->Option α)(kn:Ev->Cs->Option α):Option α:=o.bind λp=>match p.1 with
 |some v=>kr v p.2.1 p.2.2
 |none=>kn p.2.1 p.2.2
def exKS(r:Rec)(rk:RecK α)(s:Y)(env:Ev)(cs:Cs)(kr:V->Ev->Cs->Option α)(kn:Ev->Cs->Option α):Option α:=Y.casesOn (motive_1:=λ_=>Option α) s
 (nO (wI 2000 r s env cs) kr kn)
 (λe=>rk.ev e env cs λv cs=>(a8 v cs).bind λq=>kr q.1 env q.2)
 (λe=>rk.ev e env cs λv cs=>bif g7 v then kn env cs else none)
 (nO (wI 2000 r s env cs) kr kn)
 (λx e=>rk.ev e env cs λv cs=>kn (fO x v env) cs)
 (λx y a b=>rk.ev a env cs λv cs=>rk.ev b env cs λw cs=>kn (fO y w (fO x v env)) cs)
 (λd k e=>rk.ev e env cs λv cs=>(dZ d env).bind λo=>rk.ev k env cs λw cs=>(AC o w v cs).bind λc=>kn env c)
 (λx op e=>bif decide (op=.Add)then(dZ x env).bind λo=>rk.ev e env cs λv cs=>(OL o v).bind λw=>kn (fO x w env) cs else none)
 (λt a b=>rk.ts t env cs λc cs=>bif c then dR rk a env cs kr kn else dR rk b env cs kr kn)
 (λt=>rk.ts t env cs λc cs=>bif c then kn env cs else none)
 (λt it body=>rk.ev it env cs λv cs=>(j5 t v cs).bind λl=>nO (gV r t body l.1 env l.2) kr kn)
 (λt args body=>Fe rk env args cs λvs cs=>(l9 vs).bind λl=>nO (gV r t body l env cs) kr kn)
 (λ_ _=>nO (wI 2000 r s env cs) kr kn)
noncomputable def m6(cf:cO):Nat->RecK α
 |0=>⟨λ_ _ _ _=>none,λ_ _ _ _=>none,λ_ _ _ _ _=>none⟩
 |n+1=>⟨DI cf (bJ cf n) (m6 cf n),tsKS cf (bJ cf n) (m6 cf n),exKS (bJ cf n) (m6 cf n)⟩
structure KOk(r:Rec)(rk:RecK α):Prop where
 ev:∀x env cs k,rk.ev x env cs k=(r.ev x env cs).bind λp=>k p.1 p.2
 ts:∀x env cs k,rk.ts x env cs k=(r.ts x env cs).bind λp=>k p.1 p.2
 ex:∀s env cs kr kn,rk.ex s env cs kr kn=nO (r.ex s env cs) kr kn
variable{r:Rec}{rk:RecK α}{cf:cO}
theorem wY{α β γ:Type}(o:Option α)(f:α->Option β)(g:β->Option γ):(o.bind f).bind g=o.bind λx=>(f x).bind g:=by induction o using Option.casesOn<;>rfl
theorem obindm{α β γ:Type}(o:Option α)(f:α->β)(g:β->Option γ):(o.map f).bind g=o.bind λx=>g (f x):=by induction o using Option.casesOn<;>rfl
theorem ocondb{β γ:Type}(c:Bool)(x y:Option β)(g:β->Option γ):(bif c then x else y).bind g=bif c then x.bind g else y.bind g:=by induction c using Bool.casesOn<;>rfl
theorem bC{β γ:Type}{o:Option β}{f g:β->Option γ}(h:∀x,f x=g x):o.bind f=o.bind g:=by
 induction o using Option.casesOn
 ·rfl
 ·exact h _
theorem bB{β γ δ:Type}{o:Option β}{K:β->Option δ}{F:β->Option γ}{g:γ->Option δ}(h:∀x,K x=(F x).bind g):o.bind K=(o.bind F).bind g:=by
 induction o using Option.casesOn
 ·rfl
 ·exact h _
theorem bM{β γ δ:Type}{o:Option β}{K:β->Option δ}{F:β->γ}{g:γ->Option δ}(h:∀x,K x=g (F x)):o.bind K=(o.map F).bind g:=by
 induction o using Option.casesOn
 ·rfl
 ·exact h _
theorem bI{β γ:Type}{c:Bool}{x y:Option β}{a b:Option γ}{g:β->Option γ}(h1:a=x.bind g)(h2:b=y.bind g):(bif c then a else b)=(bif c then x else y).bind g:=by
 induction c using Bool.casesOn
 ·exact h2
 ·exact h1
theorem KOk.b(h:KOk r rk){β:Type}{x:X}{env:Ev}{cs:Cs}{K:V->Cs->Option α}{F:V×Cs->Option β}{g:β->Option α}(q:∀p,K p.1 p.2=(F p).bind g):rk.ev x env cs K=((r.ev x env cs).bind F).bind g:=(h.ev ..).trans (bB q)
theorem KOk.m(h:KOk r rk){β:Type}{x:X}{env:Ev}{cs:Cs}{K:V->Cs->Option α}{F:V×Cs->β}{g:β->Option α}(q:∀p,K p.1 p.2=g (F p)):rk.ev x env cs K=((r.ev x env cs).map F).bind g:=(h.ev ..).trans (bM q)
theorem KOk.tb(h:KOk r rk){β:Type}{x:X}{env:Ev}{cs:Cs}{K:Bool->Cs->Option α}{F:Bool×Cs->Option β}{g:β->Option α}(q:∀p,K p.1 p.2=(F p).bind g):rk.ts x env cs K=((r.ts x env cs).bind F).bind g:=(h.ts ..).trans (bB q)
theorem G4(h:KOk r rk)(env:Ev)(es:List X):∀cs k,Fe rk env es cs k=(FP r env es cs).bind λp=>k p.1 p.2:=by
 induction es with
 |nil=>exact λ_ _=>rfl
 |cons e es ih=>exact λcs k=>h.b λp=>(ih ..).trans (bM λ_=>rfl)
theorem Qe(h:KOk r rk)(env:Ev)(es:List (Nat×X)):∀cs k,N0 rk env es cs k=(zH r env es cs).bind λp=>k p.1 p.2:=by
 induction es with
 |nil=>exact λ_ _=>rfl
 |cons e es ih=>exact λcs k=>h.b λp=>bI rfl ((ih ..).trans (bM λ_=>rfl))
theorem G5(h:KOk r rk)(env:Ev)(isAnd:Bool)(es:List X):∀cs k,Qd rk env isAnd es cs k=(Mb r env isAnd es cs).bind λp=>k p.1 p.2:=by
 induction es with
 |nil=>exact λ_ _=>rfl
 |cons e es ih=>exact λcs k=>h.tb λp=>bI (ih ..) rfl
theorem N1(o:V)(n:Nm)(args:List V)(kws:List (Nat×V))(cs:Cs)(k:V->Cs->Option α):Ab cf o n args kws cs k=(q9 cf o n args kws cs).bind λp=>k p.1 p.2:=by
 induction o using V.casesOn with
 |node t=>exact bB λ_=>bB λ_=>bM λ_=>rfl
 |glob t=>exact bB λ_=>bB λ_=>bM λ_=>rfl
 |_=>rfl
theorem N2(f:V)(args:List V)(kws:List (Nat×V))(cs:Cs)(k:V->Cs->Option α):Ru cf f args kws cs k=(qB cf f args kws cs).bind λp=>k p.1 p.2:=by
 induction f using V.casesOn with
 |glob t=>exact bB λ_=>bM λ_=>rfl
 |_=>rfl
theorem KOk.s(h:KOk r rk){β:Type}{env:Ev}{es:List X}{cs:Cs}{K:List V->Cs->Option α}{F:List V×Cs->Option β}{g:β->Option α}(q:∀p,K p.1 p.2=(F p).bind g):Fe rk env es cs K=((FP r env es cs).bind F).bind g:=(G4 h ..).trans (bB q)
theorem KOk.w(h:KOk r rk){β:Type}{env:Ev}{es:List (Nat×X)}{cs:Cs}{K:List (Nat×V)->Cs->Option α}{F:List (Nat×V)×Cs->Option β}{g:β->Option α}(q:∀p,K p.1 p.2=(F p).bind g):N0 rk env es cs K=((zH r env es cs).bind F).bind g:=(Qe h ..).trans (bB q)
theorem G6(h:KOk r rk)(e:X)(env:Ev)(cs:Cs)(k:V->Cs->Option α):DI cf r rk e env cs k=(dI cf r e env cs).bind λp=>k p.1 p.2:=by
 induction e using X.casesOn with
 |and2 x y=>exact h.b λ_=>bB λ_=>bI (h.ev ..) rfl
 |bin op l x=>exact h.b λ_=>h.b λ_=>bM λ_=>rfl
 |not x=>exact h.b λ_=>bM λ_=>rfl
 |ite t a b=>exact h.tb λ_=>bI (h.ev ..) (h.ev ..)
 |cmp op l x=>exact h.b λ_=>h.b λ_=>bM λ_=>rfl
 |list es=>exact bI rfl (h.s λ_=>bM λ_=>rfl)
 |attr o n=>exact h.b λ_=>bM λ_=>rfl
 |item o i=>exact h.b λ_=>h.b λ_=>bM λ_=>rfl
 |meth o n args kws=>exact h.b λ_=>bI rfl (h.s λ_=>h.w λ_=>N1 ..)
 |call f args kws=>exact h.b λ_=>h.s λ_=>h.w λ_=>N2 ..
 |_=>rfl
theorem tK(h:KOk r rk){e:X}{env:Ev}{cs:Cs}{k:Bool->Cs->Option α}:(DI cf r rk e env cs λv cs=>(eM v cs).bind λb=>k b cs)=((dI cf r e env cs).bind λp=>(eM p.1 p.2).map λb=>(b,p.2)).bind λp=>k p.1 p.2:=(G6 h ..).trans (bB λ_=>bM λ_=>rfl)
theorem Qf(h:KOk r rk)(e:X)(env:Ev)(cs:Cs)(k:Bool->Cs->Option α):tsKS cf r rk e env cs k=(zJ cf r e env cs).bind λp=>k p.1 p.2:=by
 induction e using X.casesOn with
 |not x=>exact(h.ts ..).trans (bM λ_=>rfl)
 |bop a es=>exact G5 h ..
 |and2 x y=>exact G5 h ..
 |var x=>exact tK (cf:=cf) (e:=.var x) (env:=env) (cs:=cs) (k:=k) h
 |cmp op a b=>exact tK (cf:=cf) (e:=.cmp op a b) (env:=env) (cs:=cs) (k:=k) h
 |attr o n=>exact tK (cf:=cf) (e:=.attr o n) (env:=env) (cs:=cs) (k:=k) h
 |call f a kw=>exact tK (cf:=cf) (e:=.call f a kw) (env:=env) (cs:=cs) (k:=k) h
 |bin op a b=>exact tK (cf:=cf) (e:=.bin op a b) (env:=env) (cs:=cs) (k:=k) h
 |_=>rfl
theorem oB{β:Type}{o:Option β}{K:β->Option α}{f:β->Mf}{kr:V->Ev->Cs->Option α}{kn:Ev->Cs->Option α}(h:∀x,K x=nO (f x) kr kn):o.bind K=nO (o.bind f) kr kn:=by
 induction o using Option.casesOn
 ·rfl
 ·exact h _
theorem oM{β:Type}{o:Option β}{K:β->Option α}{f:β->Option V×Ev×Cs}{kr:V->Ev->Cs->Option α}{kn:Ev->Cs->Option α}(h:∀x,K x=nO (some (f x)) kr kn):o.bind K=nO (o.map f) kr kn:=by
 induction o using Option.casesOn
 ·rfl
 ·exact h _
theorem oI{c:Bool}{x y:Mf}{a b:Option α}{kr:V->Ev->Cs->Option α}{kn:Ev->Cs->Option α}(h1:a=nO x kr kn)(h2:b=nO y kr kn):(bif c then a else b)=nO (bif c then x else y) kr kn:=by
 induction c using Bool.casesOn
 ·exact h2
 ·exact h1
theorem vS(h:KOk r rk)(ss:List Y):∀env cs kr kn,dR rk ss env cs kr kn=nO (uN r ss env cs) kr kn:=by
 induction ss with
 |nil=>exact λ_ _ _ _=>rfl
 |cons s ss ih=>exact λenv cs kr kn=>(h.ex ..).trans (oB λp=>match p with
  |(some _,_)=>rfl
  |(none,_)=>ih ..)
theorem Qg(h:KOk r rk)(s:Y)(env:Ev)(cs:Cs)(kr:V->Ev->Cs->Option α)(kn:Ev->Cs->Option α):exKS r rk s env cs kr kn=nO (wI 2000 r s env cs) kr kn:=by
 induction s using Y.casesOn with
 |ret e=>exact(h.ev ..).trans (oB λ_=>oM λ_=>rfl)
 |expr e=>exact(h.ev ..).trans (oB λ_=>oI rfl rfl)
 |asg x e=>exact(h.ev ..).trans (oM λ_=>rfl)
 |asg2 x y a b=>exact(h.ev ..).trans (oB λ_=>(h.ev ..).trans (oM λ_=>rfl))
 |put d k e=>exact(h.ev ..).trans (oB λ_=>oB λ_=>(h.ev ..).trans (oB λ_=>oM λ_=>rfl))
 |aug x op e=>exact oI (oB λ_=>(h.ev ..).trans (oB λ_=>oM λ_=>rfl)) rfl
 |ite t a b=>exact(h.ts ..).trans (oB λ_=>oI (vS h ..) (vS h ..))
 |asrt t=>exact(h.ts ..).trans (oB λ_=>oI rfl rfl)
 |forL t it body=>exact(h.ev ..).trans (oB λ_=>oB λ_=>rfl)
 |forR t args body=>exact(G4 h ..).trans (oB λ_=>oB λ_=>rfl)
 |_=>rfl
theorem vT(cf:cO)(n:Nat):KOk (α:=α) (bJ cf n) (m6 cf n):=by
 induction n with
 |zero=>exact⟨λ_ _ _ _=>rfl,λ_ _ _ _=>rfl,λ_ _ _ _ _=>rfl⟩
 |succ n ih=>exact⟨λx env cs k=>G6 ih x env cs k,λx env cs k=>Qf ih x env cs k,λs env cs kr kn=>Qg ih s env cs kr kn⟩
end
theorem cR{d:Nat}{f:Addr}{vs:List V}{kws:List (Nat×V)}{i:Fn}{env:Ev}(h7:Nat.beq f 71=false)(hc:Dv f=false)(hi:fi f=some i)(hb:vF i.params vs kws i.dflts=some env):
  aB fi (d+1) f vs kws=dR (m6 (aB fi d) AD) i.body env [] (λv _ _=>some v) (λ_ _=>some .none):=by
 rw[vS (vT _ AD)];show(bif Nat.beq f 71 then _ else bif Dv f then _ else(fi f).bind λi=>(vF i.params vs kws i.dflts).bind λenv=>(uN (bJ (aB fi d) AD) i.body env []).bind λp=>some (match p.1 with|some v=>v|none=>.none))=_
 rw[h7,bG,hc,bG,hi,aF,hb,aF];unfold nO;congr 1;funext p;cases p.1<;>rfl
set_option tactic.hygienic false
theorem fz_node(t:T)(cs:Cs):a8 (.node t) cs=some (.node t,cs):=rfl
theorem Zc(i:Int)(cs:Cs):a8 (.int i) cs=some (.int i,cs):=rfl
theorem fz_str(s:Str)(cs:Cs):a8 (.str s) cs=some (.str s,cs):=rfl
theorem fz_bool(s:Bool)(cs:Cs):a8 (.bool s) cs=some (.bool s,cs):=rfl
theorem xZ(d:Nat)(n:Int):aB fi (d+1) 331 [.int n] []=some (.node (.num n)):=by kernel_rfl
theorem c471(d:Nat){a:T}{b:Int}(h0:0<=a.lo)(h1:jQ (a.lo*b)=true)(h2:jQ (a.hi*b)=true):aB fi (d+1) 471 [.node a,.int b] []=some (.node (.mul a b)):=
 (show aB fi (d+1) 471 [.node a,.int b] []=bif decide (0<=a.lo)then bif jQ (a.lo*b)&&jQ (a.hi*b)then some (.node (.mul a b))else none else none by kernel_rfl).trans (by rw[aH h0,h1,h2];rfl)
theorem c512(d:Nat){a:T}{b:Int}(h0:0<=a.lo)(h1:b≠0)(h2:jQ b=true):aB fi (d+1) 512 [.node a,.int b] []=some (.node (.div a b)):=
 (show aB fi (d+1) 512 [.node a,.int b] []=bif decide (0<=a.lo)then bif !decide (b=0)&&jQ b then some (.node (.div a b))else none else none by kernel_rfl).trans (by rw[aH h0,h2,aK h1];rfl)
theorem c560(d:Nat){a:T}{b:Int}(h0:0<=a.lo)(h1:b≠0)(h2:jQ b=true):aB fi (d+1) 560 [.node a,.int b] []=some (.node (.mod a b)):=
 (show aB fi (d+1) 560 [.node a,.int b] []=bif decide (0<=a.lo)then bif !decide (b=0)&&jQ b then some (.node (.mod a b))else none else none by kernel_rfl).trans (by rw[aH h0,h2,aK h1];rfl)
theorem xK:∀l:List T,pZ (l.map V.node)=some l
 |[]=>rfl
 |t::r=>by show(pZ (r.map V.node)).map (t::·)=_;rw[xK r];rfl
theorem c644(d:Nat){l:List T}(h:l.length<=1000):aB fi (d+1) 644 [.lst (l.map V.node)] []=some (.node (.sum l)):=
 (show aB fi (d+1) 644 [.lst (l.map V.node)] []=bif true&&Nat.ble (l.map V.node).length 1000 then(pZ (l.map V.node)).map (λts=>V.node (.sum ts))else none by kernel_rfl).trans (by rw[aT,aV h,xK];rfl)
theorem Rv(d:Nat)(t:T):aB fi (d+1) 347 [.node t] []=bif decide (t.lo<=t.hi)then bif decide (t.lo=t.hi)then(aB fi d 331 [V.int t.lo] []).bind λv=>(a8 v []).bind λv=>some v.1 else some (V.node t)else none:=(cR rfl rfl rfl rfl).trans (by kernel_rfl)
theorem Qh(d:Nat){t:T}(h:t.lo<t.hi):aB fi (d+1) 347 [.node t] []=some (.node t):=by
 rw[Rv,aH (aO h),aK (iV h)];rfl
theorem c347n(d:Nat){t:T}(h:t.lo=t.hi):aB fi (d+2) 347 [.node t] []=some (.node (.num t.lo)):=by
 rw[Rv,aH (dL h),aH h,xZ];rfl
noncomputable abbrev R4(d:Nat):RecK V:=m6 (aB fi d) AD
noncomputable abbrev kR:V->Ev->Cs->Option V:=λv _ _=>some v
noncomputable abbrev kN:Ev->Cs->Option V:=λ_ _=>some .none
theorem Zd(d:Nat)(l:List V):aB fi (d+1) 204 [.lst l] []=((bif l.length.ble 1000 then some (l,[])else none).bind λl_1=>
   Option.map (λq=>gT (V.lst q.fst) q.snd)
    (dH (bJ (aB fi d) 38) [0] [X.bop false [(X.var 0).attr Nm.max,(X.var 0).attr Nm.min]] [(4,V.lst l)]
     (fR (bJ (aB fi d) 38) (X.var 0)) l_1.fst l_1.snd)).bind λv=>dR (R4 d) (rB.body.drop 1) [(4,v.1)] v.2 kR kN:=(cR rfl rfl rfl rfl).trans (by kernel_rfl)
theorem Ze(d:Nat)(l:List V):dR (R4 d) (rB.body.drop 1) [(4,.own 0)] [⟨false,.lst l⟩] kR kN=
  (bif Nat.ble l.length 100000 then some (!l.isEmpty)else none).bind λb=>bif !b then(aB fi d 331 [.int 0] []).bind λv=>(a8 v [⟨false,.lst l⟩]).bind λq=>some q.1
   else((bif Nat.ble l.length 100000 then some (.int l.length)else none).map λx=>(x,([⟨false,.lst l⟩]:Cs))).bind λv=>(j4 (aB fi d) .Eq v.1 (.int 1)).bind λc=>(eM c v.2).bind λb=>
    bif b then(eZ (.own 0) (.int 0) v.2).bind λx=>(a8 x v.2).bind λq=>some q.1 else dR (R4 d) (rB.body.drop 3) [(4,.own 0)] v.2 kR kN:=by kernel_rfl
def tX:List Y:=match rB.body.drop 6 with
 |[Y.forL _ _ b,_,_,_]=>b
 |_=>[]
theorem Zf(d:Nat)(l:List V):dR (R4 d) (rB.body.drop 3) [(4,.own 0)] [⟨false,.lst l⟩] kR kN=
  (aB fi d 644 [.lst l] []).bind λv=>(jD (aB fi d) v .flat).bind λw=>(j5 [5] w [⟨true,.lst l⟩,⟨false,.dct []⟩,⟨false,.dct []⟩]).bind λs=>
   nO (gV (bJ (aB fi d) 39) [5] tX s.1 [(4,.own 0),(28,.own 1),(12,.own 2),(26,.int 0)] s.2) kR λenv cs=>dR (R4 d) (rB.body.drop 7) env cs kR kN:=by kernel_rfl
theorem Bk(cf:cO)(n:Nat)(b:List Y)(env:Ev)(cs:Cs):uN (bJ cf n) b env cs=dR (m6 cf n) b env cs (λv e c=>some (some v,e,c)) (λe c=>some (none,e,c)):=by
 rw[vS (vT cf n)];induction uN (bJ cf n) b env cs using Option.casesOn with
 |none=>rfl
 |some p=>obtain⟨r,e,c⟩:=p;induction r using Option.casesOn<;>rfl
theorem DJ(cf:cO)(n:Nat)(x:X)(env:Ev)(cs:Cs):(bJ cf n).ev x env cs=(m6 cf n).ev x env cs (λv c=>some (v,c)):=by
 rw[(vT cf n).ev];cases(bJ cf n).ev x env cs<;>rfl
theorem ts_K(cf:cO)(n:Nat)(x:X)(env:Ev)(cs:Cs):(bJ cf n).ts x env cs=(m6 cf n).ts x env cs (λv c=>some (v,c)):=by
 rw[(vT cf n).ts];cases(bJ cf n).ts x env cs<;>rfl
def æ(d:Nat)(t:T):Prop:=jD (aB fi d) (.node t) .key=some (.str t.rend)
noncomputable def m7(s:Int)(v:V):Ev:=[(4,.own 0),(28,.own 1),(12,.own 2),(26,.int s),(5,v)]
noncomputable def pW(l:List V)(D E:List (Str×V)):Cs:=[⟨true,.lst l⟩,⟨false,.dct D⟩,⟨false,.dct E⟩]
noncomputable def jN:T->T
 |.mul a _=>a
 |t=>t
noncomputable def g8:T->Int
 |.mul _ c=>c
 |_=>1
noncomputable def dO:T->Bool
 |.num _=>false
 |.sum _=>false
 |_=>true
def Ff(d:Nat)(K:Option V)(a:T)(c:Int)(s:Int)(t:T)(l:List V)(D E:List (Str×V)):Option (Option V×Ev×Cs):=
 K.bind λv=>(iL (.own 2) .get [v,.node a] (pW l D E)).bind λx=>K.bind λv1=>(AC (.own 2) v1 x.1 x.2).bind λc1=>bif !jR (.own 1) .get c1 then none else K.bind λv2=>(iL (.own 1) .get [v2,.int 0] c1).bind λy=>(cG (aB fi d) .Add y.1 (.int c)).bind λz=>K.bind λv4=>(AC (.own 1) v4 z y.2).bind λc2=>some (none,m7 s (.node t),c2)
theorem N3(d:Nat)(n s:Int)(l:List V)(D E:List (Str×V)):uN (bJ (aB fi d) 39) tX (m7 s (.node (.num n))) (pW l D E)=some (none,m7 (s+n) (.node (.num n)),pW l D E):=(Bk ..).trans (by kernel_rfl)
theorem Jo(d:Nat)(t:T)(s:Int)(l:List V)(D E:List (Str×V))(h:dO t=true):uN (bJ (aB fi d) 39) tX (m7 s (.node t)) (pW l D E)=Ff d (jD (aB fi d) (.node (jN t)) .key) (jN t) (g8 t) s t l D E:=by
 rw[Bk];induction t using T.casesOn with
 |num n=>exact bX h
 |sum l=>exact bX h
 |var e lo hi=>kernel_rfl
 |mul a b=>kernel_rfl
 |div a b=>kernel_rfl
 |mod a b=>kernel_rfl
theorem Jp{d:Nat}{a:T}{c s:Int}{t:T}{l:List V}{D E:List (Str×V)}(hK:æ d a)(hD:cJ a.rend D=none)(hE:cJ a.rend E=none)(h1:D.length<=1000)(h2:E.length<=1000):
  Ff d (jD (aB fi d) (.node a) .key) a c s t l D E=some (none,m7 s (.node t),pW l (lM a.rend (.int c) D) (lM a.rend (.node a) E)):=by
 have h1:=aV h1;have h2:=aV h2;unfold Ff;conv=>lhs;rw[hK,aF,show iL (.own 2) .get [.str a.rend,.node a] (pW l D E)=some ((match cJ a.rend E with|some u=>u|none=>.node a),pW l D E) by kernel_rfl,hE,aF,aF,
  show AC (.own 2) (.str a.rend) (.node a) (pW l D E)=bif Nat.ble E.length 1000 then some (pW l D (lM a.rend (.node a) E))else none by kernel_rfl,h2,bV,aF,
  show(!jR (.own 1) .get (pW l D (lM a.rend (.node a) E)))=false by kernel_rfl,bG,aF,
  show iL (.own 1) .get [.str a.rend,.int 0] (pW l D (lM a.rend (.node a) E))=some ((match cJ a.rend D with|some u=>u|none=>.int 0),pW l D (lM a.rend (.node a) E)) by kernel_rfl,hD,aF,
  show cG (aB fi d) .Add (.int 0) (.int c)=some (.int (0+c)) by kernel_rfl,aF,aF,cY,
  show AC (.own 1) (.str a.rend) (.int c) (pW l D (lM a.rend (.node a) E))=bif Nat.ble D.length 1000 then some (pW l (lM a.rend (.int c) D) (lM a.rend (.node a) E))else none by kernel_rfl,h1,bV,aF]
theorem up{K d:Nat}(h:K+1<=d):∃e,d=e+1/\K<=e:=⟨d-1,by lia,by lia⟩
@[elab_as_elim] theorem jC {M:Nat->Prop} (d K:Nat) (h:K+1<=d) (k:∀e,K<=e->M (e+1)):M d:=by
 obtain⟨e,rfl,h2⟩:=up h;exact k e h2
theorem Bl{α:Type}{f:T->Str}{g:T->α}{t:T}:∀{ts:List T},(ts.map f).Nodup->t∈ts->cJ (f t) (ts.map λu=>(f u,g u))=some (g t)
 |u::r,hn,ht=>by
  obtain⟨h1,h2⟩:=gK.mp hn;unfold cJ;clear hn;rcases a7.mp ht with rfl|ht
  ·show(bif lE (f t) (f t)then some (g t)else _)=_;rw[sV];rfl
  ·show(bif lE (f t) (f u)then some (g u)else cJ (f t) (r.map λu=>(f u,g u)))=_;rw[mB.mpr λ(e:f t=f u)=>h1 (by rw[<-e];exact fV ht)]
   exact Bl h2 ht
theorem Ac{α:Type}{f:T->Str}{g:T->α}{k:Str}{ts:List T}(h:k∉ts.map f):cJ k (ts.map λu=>(f u,g u))=none:=
 rJ λp hp=>by
  obtain⟨u,hu,rfl⟩:=bR.mp hp;exact mB.mpr λe=>h (e▸fV hu)
theorem tB{α:Type}{k:Str}{v:α}:∀{l:List (Str×α)},cJ k l=none->lM k v l=l++[(k,v)]
 |[],_=>rfl
 |(x,y)::r,h=>by
  unfold cJ at h;unfold lM;induction hx:lE k x using Bool.casesOn with
  |true=>rw[hx]at h;cases h
  |false=>rw[cF (hx ..)]at h;rw[bG,tB h];rfl
def AG(t:T):Str:=(jN t).rend
def dD(ts:List T):List (Str×V):=ts.map λt=>(AG t,V.int (g8 t))
def dE(ts:List T):List (Str×V):=ts.map λt=>(AG t,V.node (jN t))
noncomputable def mE:List T->Int
 |[]=>0
 |t::r=>(match t with|.num n=>n|_=>0)+mE r
theorem nums_n:mE []=0:=rfl
structure Tm(d:Nat)(t:T):Prop where
 term:dO t=true
 key:æ d (jN t)
 mul:∀a c,t=.mul a c->c≠0/\c≠1/\0<=a.lo/\jQ (a.lo*c)=true/\jQ (a.hi*c)=true
def isN(t:T):Prop:=∃n,t=.num n
theorem tY{r:Rec}{t:List Nat}{body:List Y}{v:V}{vs:List V}{env env' env2:Ev}{cs cs2:Cs}(hb:n9 t v env=some env')(h:uN r body env' cs=some (none,env2,cs2)):gV r t body (v::vs) env cs=gV r t body vs env2 cs2:=by
 show((n9 t v env).bind λenv'=>(uN r body env' cs).bind _)=_;rw[bS (hb ..),h];rfl
theorem G7{d:Nat}{l:List V}:∀{comps done:List T} {s:Int} {env:Ev},(∀v,n9 [5] v env=some (m7 s v))->(∀t∈comps,isN t\/Tm d t)->((done++comps.filter dO).map AG).Nodup->done.length+comps.length<=1000->comps≠[]->
  ∃w,gV (bJ (aB fi d) 39) [5] tX (comps.map .node) env (pW l (dD done) (dE done))=some (none,m7 (s+mE comps) w,pW l (dD (done++comps.filter dO)) (dE (done++comps.filter dO)))
 |t::r,done,s,env,hb,hc,hn,hz,_=>by
  have hz:done.length+(r.length+1)<=1000:=hz;have nxt:∀s w done',(∀v,n9 [5] v (m7 s w)=some (m7 s v))->((done'++r.filter dO).map AG).Nodup->done'.length+r.length<=1000->
    ∃w',gV (bJ (aB fi d) 39) [5] tX (r.map .node) (m7 s w) (pW l (dD done') (dE done'))=some (none,m7 (s+mE r) w',pW l (dD (done'++r.filter dO)) (dE (done'++r.filter dO))):=λs w done' h1 h2 h3=>by
   by_cases hr:r=[]
   ·clear h3 h2 hz hn hc;clear hz;subst hr;exact⟨w,by show some _=_;rw[List.filter_nil,bW];simp[mE]⟩
   ·exact G7 h1 (λt ht=>hc t (aI _ ht)) h2 h3 hr
  rcases hc t aE with⟨n,rfl⟩|ht
  ·obtain⟨w',e⟩:=nxt (s+n) (.node (.num n)) done (λv=>rfl) (by simpa [kL,dO] using hn) (by lia)
   refine⟨w',?_⟩;rw[bO,tY (hb _) (N3 ..),e];show some (none,m7 (s+n+mE r) w',_)=some (none,m7 (s+(n+mE r)) w',_);rw[nK];simp[kL,dO]
  ·have hf:(t::r).filter dO=t::r.filter dO:=cD ht.term;rw[hf]at hn;have hn':(((done++[t])++r.filter dO).map AG).Nodup:=by rw[dT];exact hn
   have hk:AG t∉done.map AG:=λz=>by
    clear hn' hf ht nxt hz;clear hz;rw[dQ,bO]at hn;exact(gI.mp hn).2.2 _ z _ aE rfl
   have l1:cJ (jN t).rend (dD done)=none:=Ac (f:=AG) hk;have l2:cJ (jN t).rend (dE done)=none:=Ac (f:=AG) hk;obtain⟨w',e⟩:=nxt s (.node t) (done++[t]) (λv=>rfl) hn' (by rw[bU,d0];lia)
   refine⟨w',?_⟩;rw[bO,tY (hb _) ((Jo _ _ _ _ _ _ ht.term).trans (Jp ht.key l1 l2 (by rw[dD,aT];lia) (by rw[dE,aT];lia))),tB l1,tB l2,
    show dD done++[((jN t).rend,V.int (g8 t))]=dD (done++[t]) by unfold dD;rw[dQ];rfl,show dE done++[((jN t).rend,V.node (jN t))]=dE (done++[t]) by unfold dE;rw[dQ];rfl,e,hf,dT]
   have:mE (t::r)=mE r:=by
    have h:=ht.term;clear e l2 l1 hk hn' hf ht hn hc;induction t using T.casesOn<;>first|(exact bX h;done)|(show 0+mE r=_;lia)
   rw[this];rfl
theorem Bm(c:Cn):∀cs:Cs,uK cs.length (cs++[c])=some c
 |[]=>rfl
 |_::r=>Bm c r
theorem Bn(c c':Cn):∀cs:Cs,sM cs.length c' (cs++[c])=cs++[c']
 |[]=>rfl
 |x::r=>congrArg (x::·) (Bn c c' r)
theorem N4(v:V)(cs:Cs):a8 (gT v cs).1 (gT v cs).2=some (v,cs++[⟨true,v⟩]):=by
 show((uK cs.length (cs++[(⟨false,v⟩:Cn)])).map λc=>(c.val,sM cs.length (⟨true,c.val⟩:Cn) (cs++[(⟨false,v⟩:Cn)])))=_;rw[Bm];show some (v,sM cs.length (⟨true,v⟩:Cn) (cs++[(⟨false,v⟩:Cn)]))=_;rw[Bn]
noncomputable def oD:T->Bool
 |.sum _=>true
 |_=>false
noncomputable def kU:T->List T
 |.sum l=>l
 |t=>[t]
noncomputable def Cf:X:=.ite (.call (.bi .isinstance) [(.var 0),(.glob 644)] []) (.attr (.var 0) .flat) (.list [(.var 0)])
def vV(d:Nat):Ev->Cs->Option (List V×Cs):=uM (bJ (aB fi d) 38) (.var 13) [13] Cf
theorem sp640(d:Nat)(l:List T):aB fi (d+1) 640 [.node (.sum l)] []=((bif Nat.ble (l.map V.node).length 1000 then some (l.map V.node,[])else none).bind λp=>(dH (bJ (aB fi d) 38) [0] [] [(1,.node (.sum l))] (vV d) p.1 p.2).map λq=>gT (.lst q.1) q.2).bind λp=>(a8 p.1 p.2).bind λq=>some q.1:=(cR rfl rfl rfl rfl).trans (by kernel_rfl)
theorem DK(d:Nat)(v:V)(t:T)(cs:Cs):vV d [(1,v),(0,.node t)] cs=((bJ (aB fi d) 38).ev Cf [(1,v),(0,.node t)] cs).bind λp=>(j5 [13] p.1 p.2).bind λl=>dH (bJ (aB fi d) 38) [13] [] [(1,v),(0,.node t)] (fR (bJ (aB fi d) 38) (.var 13)) l.1 l.2:=by kernel_rfl
theorem N5(d:Nat)(v:V)(t:T):∀(m:List T) (cs:Cs),dH (bJ (aB fi d) 38) [13] [] [(1,v),(0,.node t)] (fR (bJ (aB fi d) 38) (.var 13)) (m.map V.node) cs=some (m.map V.node,cs)
 |[],_=>rfl
 |u::m,cs=>by
  show((dH (bJ (aB fi d) 38) [13] [] [(1,v),(0,.node t)] (fR (bJ (aB fi d) 38) (.var 13)) (m.map V.node) cs).map λz=>([V.node u]++z.1,z.2))=_;rw[N5 d v t m cs];rfl
theorem Qi(d:Nat)(v:V){t:T}(h:oD t=false)(cs:Cs):vV d [(1,v),(0,.node t)] cs=some ([.node t],cs++[⟨true,.lst [.node t]⟩]):=by
 rw[DK,bS (show(bJ (aB fi d) 38).ev Cf [(1,v),(0,.node t)] cs=some (gT (.lst [.node t]) cs) by induction t using T.casesOn<;>first|(exact jA h;done)|exact(DJ ..).trans (by kernel_rfl))]
 unfold j5;rw[bS (N4 ..)];exact N5 d v t [t] _
theorem Qj(d:Nat)(v:V){m:List T}(hf:aB fi d 640 [.node (.sum m)] []=some (.lst (m.map V.node)))(hz:m.length<=1000)(cs:Cs):vV d [(1,v),(0,.node (.sum m))] cs=some (m.map V.node,cs):=by
 rw[DK,show(bJ (aB fi d) 38).ev Cf [(1,v),(0,.node (.sum m))] cs=(aB fi d 640 [.node (.sum m)] []).bind λv=>some (v,cs)from(DJ ..).trans (by kernel_rfl),bS (hf ..),aF]
 show((bif Nat.ble (m.map V.node).length 1000 then some (m.map V.node,cs)else none).bind _)=_;rw[aT,aV hz];exact N5 d v _ m cs
theorem DL{d:Nat}{v:V}:∀{l:List T},(∀t∈l,oD t=false\/∃m,t=.sum m/\m.length<=1000/\aB fi d 640 [.node (.sum m)] []=some (.lst (m.map V.node)))->∀cs,∃cW,dH (bJ (aB fi d) 38) [0] [] [(1,v)] (vV d) (l.map V.node) cs=some ((l.flatMap kU).map V.node,cW)
 |[],_,cs=>⟨cs,rfl⟩
 |t::r,h,cs=>by
  have step:∃cs1,vV d [(1,v),(0,.node t)] cs=some ((kU t).map V.node,cs1):=by
   rcases h t aE with h|⟨m,rfl,hz,hf⟩
   ·have e:kU t=[t]:=by induction t using T.casesOn<;>first|(exact jA h;done)|rfl
    exact⟨_,by rw[e];exact Qi d v h cs⟩
   ·exact⟨_,Qj d v hf hz cs⟩
  obtain⟨cs1,e1⟩:=step;obtain⟨cs2,e2⟩:=DL (λt ht=>h t (aI _ ht)) cs1;refine⟨cs2,?_⟩;show((vV d [(1,v),(0,.node t)] cs).bind λq=>(dH (bJ (aB fi d) 38) [0] [] [(1,v)] (vV d) (r.map V.node) q.2).map λz=>(q.1++z.1,z.2))=_;rw[bS (e1 ..),e2,cU,b8,dQ]
theorem G8{d:Nat}{l:List T}(hz:l.length<=1000)(h:∀t∈l,oD t=false\/∃m,t=.sum m/\m.length<=1000/\aB fi d 640 [.node (.sum m)] []=some (.lst (m.map V.node))):
  aB fi (d+1) 640 [.node (.sum l)] []=some (.lst ((l.flatMap kU).map V.node)):=by
 obtain⟨cW,e⟩:=DL (v:=.node (.sum l)) h [];rw[sp640,aT,aV hz];show((dH (bJ (aB fi d) 38) [0] [] [(1,.node (.sum l))] (vV d) (l.map V.node) []).map λq=>gT (.lst q.1) q.2).bind _=_;rw[e];show((a8 (gT (.lst ((l.flatMap kU).map V.node)) cW).1 (gT (.lst ((l.flatMap kU).map V.node)) cW).2).bind λq=>some q.1)=_;rw[N4];rfl
theorem Qk{l:List T}(h:∀t∈l,oD t=false):l.flatMap kU=l:=by
 induction l with
 |nil=>rfl
 |cons t r ih=>
  have:kU t=[t]:=by have:=h t aE;clear h;induction t using T.casesOn<;>first|(exact jA this;done)|rfl
  rw[b8,this,ih λt ht=>h t (aI _ ht)];rfl
theorem Rw(d:Nat){l:List T}(hz:l.length<=1000)(h:∀t∈l,oD t=false):aB fi (d+1) 640 [.node (.sum l)] []=some (.lst (l.map V.node)):=by
 rw[G8 hz λt ht=>.inl (h t ht),Qk h]
def Rx(t:T):Prop:=oD t=false\/∃m,t=.sum m/\m.length<=1000/\∀u∈m,oD u=false
theorem Ql(d:Nat){l:List T}(hz:l.length<=1000)(h:∀t∈l,Rx t):aB fi (d+2) 640 [.node (.sum l)] []=some (.lst ((l.flatMap kU).map V.node)):=
 G8 hz λt ht=>(h t ht).imp_right λ⟨m,e,hm,hu⟩=>⟨m,e,hm,Rw d hm hu⟩
noncomputable def nz(t:T):Bool:=!decide (t.hi=0)||!decide (t.lo=0)
noncomputable def Ry:X:=.bop false [(.attr (.var 0) .max),(.attr (.var 0) .min)]
theorem ts_nz(d:Nat)(v:V)(t:T):(bJ (aB fi d) 38).ts Ry [(4,v),(0,.node t)] []=some (nz t,[]):=by
 rw[ts_K,show(m6 (aB fi d) 38).ts Ry [(4,v),(0,.node t)] [] (λv c=>some (v,c))=(bif !!decide (t.hi=0)then bif !!decide (t.lo=0)then some (false,[])else some (true,[])else some (true,[])) by kernel_rfl]
 unfold nz;induction decide (t.hi=0) using Bool.casesOn<;>induction decide (t.lo=0) using Bool.casesOn<;>rfl
theorem Ad(d:Nat)(v:V):∀l:List T,dH (bJ (aB fi d) 38) [0] [Ry] [(4,v)] (fR (bJ (aB fi d) 38) (.var 0)) (l.map V.node) []=some ((l.filter nz).map V.node,[])
 |[]=>rfl
 |t::r=>by
  show((((bJ (aB fi d) 38).ts Ry [(4,v),(0,.node t)] []).bind λp=>bif p.1 then some (true,p.2)else some (false,p.2)).bind λp=>(bif p.1 then some ([V.node t],p.2)else some ([],p.2)).bind λq=>(dH (bJ (aB fi d) 38) [0] [Ry] [(4,v)] (fR (bJ (aB fi d) 38) (.var 0)) (r.map V.node) q.2).map λz=>(q.1++z.1,z.2))=_;rw[bS (ts_nz ..),kL];induction nz t using Bool.casesOn with
  |true=>
   show(dH (bJ (aB fi d) 38) [0] [Ry] [(4,v)] (fR (bJ (aB fi d) 38) (.var 0)) (r.map V.node) []).map _=_;rw[Ad d v r];rfl
  |false=>
   show(dH (bJ (aB fi d) 38) [0] [Ry] [(4,v)] (fR (bJ (aB fi d) 38) (.var 0)) (r.map V.node) []).map _=_;rw[Ad d v r];rfl
noncomputable def gY(l:List V)(D E:List (Str×V)):Cs:=[⟨true,.lst l⟩,⟨true,.dct D⟩,⟨false,.dct E⟩]
noncomputable def AH:X:=.ite (.cmp .NotEq (.var 40) (.int 1)) (.call (.glob 471) [(.item (.var 12) (.var 41)),(.var 40)] []) (.item (.var 12) (.var 41))
noncomputable def vW(q:Str×V):V:=.tup [.str q.1,q.2]
theorem Zg(d:Nat)(s c:Int)(w:V)(k:Str)(l:List V)(D E:List (Str×V)):fR (bJ (aB fi d) 38) AH (m7 s w++[(41,.str k),(40,.int c)]) (gY l D E)=
  (bif !decide (c=1)then(cJ k E).bind λv=>((a8 v (gY l D E)).bind λp=>(some ([V.int c],p.2)).map λq=>(p.1::q.1,q.2)).bind λv=>(aB fi d 471 v.1 []).bind λv_1=>some (v_1,v.2)else(cJ k E).bind λv=>some (v,gY l D E)).bind λx=>(a8 x.1 x.2).map λy=>([y.1],y.2):=by
 show((bJ (aB fi d) 38).ev AH (m7 s w++[(41,.str k),(40,.int c)]) (gY l D E)).bind _=_;rw[DJ];kernel_rfl
theorem Qm{d:Nat}{s:Int}{w:V}{l:List V}{D:List (Str×V)}{ts:List T}(hn:(ts.map AG).Nodup){t:T}(ht:t∈ts)(hT:Tm (d+1) t):fR (bJ (aB fi (d+1)) 38) AH (m7 s w++[(41,.str (AG t)),(40,.int (g8 t))]) (gY l D (dE ts))=some ([.node t],gY l D (dE ts)):=by
 have hl:cJ (AG t) (dE ts)=some (.node (jN t)):=Bl (f:=AG) hn ht;rw[Zg,hl];have hc:∀{u:T},g8 u=1->jN u=u->u=t->(bif !decide (g8 t=1)then(some (V.node (jN t))).bind λv=>((a8 v (gY l D (dE ts))).bind λp=>(some ([V.int (g8 t)],p.2)).map λq=>(p.1::q.1,q.2)).bind λv=>(aB fi (d+1) 471 v.1 []).bind λv_1=>some (v_1,v.2)else(some (V.node (jN t))).bind λv=>some (v,gY l D (dE ts)))=some (.node t,gY l D (dE ts)):=λ{u} h1 h2 h3=>by
  clear hl hT ht;subst h3;rw[h1,h2];rfl
 have:(bif !decide (g8 t=1)then(some (V.node (jN t))).bind λv=>((a8 v (gY l D (dE ts))).bind λp=>(some ([V.int (g8 t)],p.2)).map λq=>(p.1::q.1,q.2)).bind λv=>(aB fi (d+1) 471 v.1 []).bind λv_1=>some (v_1,v.2)else(some (V.node (jN t))).bind λv=>some (v,gY l D (dE ts)))=some (.node t,gY l D (dE ts)):=by
  have h:=hT.term;induction t using T.casesOn with
  |num n=>exact bX h
  |sum l=>exact bX h
  |var e lo hi=>exact hc rfl rfl rfl
  |div a b=>exact hc rfl rfl rfl
  |mod a b=>exact hc rfl rfl rfl
  |mul a c=>
   refine CM (hT.mul a c rfl) λ_ h1 h2 h3 h4=>?_;show(bif !decide (c=1)then(aB fi (d+1) 471 [.node a,.int c] []).bind λv_1=>some (v_1,gY l D (dE ts))else _)=_;rw[aK h1,c471 d h2 h3 h4];rfl
 rw[this];rfl
theorem Bo{d:Nat}{s:Int}{w:V}{l:List V}{D:List (Str×V)}{ts:List T}(hn:(ts.map AG).Nodup):∀{us:List T},(∀t∈us,t∈ts/\Tm (d+1) t/\g8 t≠0)->
  dH (bJ (aB fi (d+1)) 38) [41,40] [.cmp .NotEq (.var 40) (.int 0)] (m7 s w) (fR (bJ (aB fi (d+1)) 38) AH) ((dD us).map vW) (gY l D (dE ts))=some (us.map V.node,gY l D (dE ts))
 |[],_=>rfl
 |t::r,h=>by
  refine A6 (h t aE) λh1 h2 h3=>?_;show((some (!decide (g8 t=0),gY l D (dE ts))).bind λp=>bif p.1 then some (true,p.2)else some (false,p.2)).bind (λp=>(bif p.1 then fR (bJ (aB fi (d+1)) 38) AH (m7 s w++[(41,.str (AG t)),(40,.int (g8 t))]) p.2 else some ([],p.2)).bind λq=>(dH (bJ (aB fi (d+1)) 38) [41,40] [.cmp .NotEq (.var 40) (.int 0)] (m7 s w) (fR (bJ (aB fi (d+1)) 38) AH) ((dD r).map vW) q.2).map λz=>(q.1++z.1,z.2))=_;rw[aK h3];show(fR (bJ (aB fi (d+1)) 38) AH (m7 s w++[(41,.str (AG t)),(40,.int (g8 t))]) (gY l D (dE ts))).bind (λq=>(dH (bJ (aB fi (d+1)) 38) [41,40] [.cmp .NotEq (.var 40) (.int 0)] (m7 s w) (fR (bJ (aB fi (d+1)) 38) AH) ((dD r).map vW) q.2).map λz=>(q.1++z.1,z.2))=_;rw[bS (Qm hn h1 h2 ..),Bo hn λt ht=>h t (aI _ ht)];rfl
def Rz(s:Int)(w:V):Ev:=m7 s w++[(27,.own 3)]
theorem Zh(d:Nat)(s:Int)(w:V)(l:List V)(D E:List (Str×V)):dR (R4 d) (rB.body.drop 7) (m7 s w) (pW l D E) kR kN=
  ((bif Nat.ble D.length 1000&&true then some (D.map vW,gY l D E)else none).bind λp=>(dH (bJ (aB fi d) 38) [41,40] [.cmp .NotEq (.var 40) (.int 0)] (m7 s w) (fR (bJ (aB fi d) 38) AH) p.1 p.2).map λq=>gT (.lst q.1) q.2).bind λv=>dR (R4 d) (rB.body.drop 8) (m7 s w++[(27,v.1)]) v.2 kR kN:=by kernel_rfl
theorem Zi(d:Nat)(s:Int)(w:V)(l nl:List V)(D E:List (Str×V)):dR (R4 d) (rB.body.drop 8) (Rz s w) (gY l D E++[⟨false,.lst nl⟩]) kR kN=
  bif !decide (s=0)then(aB fi d 331 [.int s] []).bind λv=>(iL (.own 3) .append [v] (gY l D E++[⟨false,.lst nl⟩])).bind λx=>bif g7 x.1 then dR (R4 d) (rB.body.drop 9) (Rz s w) x.2 kR kN else none
  else dR (R4 d) (rB.body.drop 9) (Rz s w) (gY l D E++[⟨false,.lst nl⟩]) kR kN:=by kernel_rfl
theorem Fg(d:Nat)(s:Int)(w:V)(l nl:List V)(D E:List (Str×V)):dR (R4 d) (rB.body.drop 9) (Rz s w) (gY l D E++[⟨false,.lst nl⟩]) kR kN=
  ((bif Nat.ble nl.length 100000 then some (.int nl.length)else none).map λx=>(x,gY l D E++[⟨false,.lst nl⟩])).bind λv=>(j4 (aB fi d) .Gt v.1 (.int 1)).bind λc=>(eM c v.2).bind λb=>
   bif b then((a8 (.own 3) v.2).bind λp=>(some ([],p.2)).map λq=>(p.1::q.1,q.2)).bind λv=>(aB fi d 644 v.1 []).bind λx=>((a8 x v.2).bind λp=>(some ([],p.2)).map λq=>(p.1::q.1,q.2)).bind λv=>(aB fi d 347 v.1 []).bind λx=>(a8 x v.2).bind λq=>some q.1
   else((view (.own 3) v.2).bind λu=>(wG .len u).map λx=>(x,v.2)).bind λv=>(j4 (aB fi d) .Eq v.1 (.int 1)).bind λc=>(eM c v.2).bind λb=>bif b then(eZ (.own 3) (.int 0) v.2).bind λx=>(a8 x v.2).bind λq=>some q.1 else(aB fi d 331 [.int 0] []).bind λx=>(a8 x v.2).bind λq=>some q.1:=by kernel_rfl
theorem Zj(cf:cO)(x y:Int):j4 cf .Gt (.int x) (.int y)=some (.bool (decide (y<x))):=rfl
theorem mG(cf:cO)(x y:Int):j4 cf .Eq (.int x) (.int y)=some (.bool (decide (x=y))):=rfl
theorem fU(b:Bool)(cs:Cs):eM (.bool b) cs=some b:=rfl
noncomputable def J6:List T->T
 |[]=>.num 0
 |[t]=>t
 |l=>.sum l
noncomputable def b9(ts:List T)(n:Int):List T:=ts++(bif decide (n=0)then[]else[.num n])
theorem N6(d:Nat)(s:Int)(w:V)(l:List V)(D E:List (Str×V)):∀{L:List T},L.length<=1000->(2<=L.length->(T.sum L).lo<(T.sum L).hi)->
  dR (R4 (d+1)) (rB.body.drop 9) (Rz s w) (gY l D E++[⟨false,.lst (L.map V.node)⟩]) kR kN=some (.node (J6 L))
 |[],_,_=>by
  rw[Fg];show(aB fi (d+1) 331 [.int 0] []).bind _=_;rw[xZ];rfl
 |[t],_,_=>by rw[Fg];kernel_rfl
 |a::b::r,hz,hlt=>by
  have h1:Nat.ble ((a::b::r).map V.node).length 100000=true:=aV (by rw[aT];lia)
  rw[Fg,h1];have h2:decide ((1:Int)<(((a::b::r).map V.node).length:Nat))=true:=aH (by rw[aT,bL,bL];lia)
  simp only[bV,cU,aF,Zj,fU,h2];show(aB fi (d+1) 644 [.lst ((a::b::r).map V.node)] []).bind _=_;rw[c644 d hz];show(aB fi (d+1) 347 [.node (.sum (a::b::r))] []).bind _=_;rw[Qh d (hlt (by simp))];rfl
theorem Zk(s:Int)(l nl:List V)(D E:List (Str×V))(h:nl.length<=100000):iL (.own 3) .append [.node (.num s)] (gY l D E++[⟨false,.lst nl⟩])=some (.none,gY l D E++[⟨false,.lst (nl++[.node (.num s)])⟩]):=
 (show _=(bif Nat.ble nl.length 100000 then some (V.none,gY l D E++[(⟨false,.lst (nl++[.node (.num s)])⟩:Cn)])else none) by kernel_rfl).trans (by rw[aV h];rfl)
theorem Zl(d:Nat)(s:Int)(w:V)(l:List V)(D E:List (Str×V)){ts:List T}(hz:ts.length<1000)(hlt:2<=(b9 ts s).length->(T.sum (b9 ts s)).lo<(T.sum (b9 ts s)).hi):
  dR (R4 (d+1)) (rB.body.drop 8) (Rz s w) (gY l D E++[⟨false,.lst (ts.map V.node)⟩]) kR kN=some (.node (J6 (b9 ts s))):=by
 rw[Zi];unfold b9 at hlt⊢;induction hs:decide (s=0) using Bool.casesOn with
 |true=>
  rw[cT (hs ..),bW]at hlt;show dR _ _ _ _ _ _=_;rw[N6 d s w l D E (by exact bD hz) hlt,bV,bW]
 |false=>
  rw[cF (hs ..)]at hlt;rw[g4,bV,bS (xZ ..),Zk s l _ D E (by rw[aT];exact iO hz rfl)]
  show dR (R4 (d+1)) (rB.body.drop 9) (Rz s w) (gY l D E++[⟨false,.lst (ts.map V.node++[V.node (.num s)])⟩]) kR kN=_;rw[show ts.map V.node++[V.node (.num s)]=(ts++[T.num s]).map V.node by simp]
  exact N6 d s w l D E (by rw[bU,d0];exact hz) hlt
def Zm(f:List T):T:=match f with
 |[]=>.num 0
 |[t]=>t
 |f=>J6 (b9 ((f.flatMap kU).filter dO) (mE (f.flatMap kU)))
theorem c204(d:Nat){l:List T}(hz:l.length<=1000)(hf:∀t∈l.filter nz,Rx t)(hc:∀t∈(l.filter nz).flatMap kU,isN t\/(Tm (d+2) t/\g8 t≠0))(hk:((((l.filter nz).flatMap kU).filter dO).map AG).Nodup)(hm:((l.filter nz).flatMap kU).length<1000)
  (f5:2<=(l.filter nz).length->(l.filter nz).flatMap kU≠[]) (hlt:let R:=b9 (((l.filter nz).flatMap kU).filter dO) (mE ((l.filter nz).flatMap kU));2<=R.length->(T.sum R).lo<(T.sum R).hi):
  aB fi (d+3) 204 [.lst (l.map V.node)] []=some (.node (Zm (l.filter nz))):=by
 rw[Zd,aT,aV hz];show((dH (bJ (aB fi (d+2)) 38) [0] [Ry] [(4,V.lst (l.map V.node))] (fR (bJ (aB fi (d+2)) 38) (.var 0)) (l.map V.node) []).map _).bind _=_;rw[Ad];have hfl:(l.filter nz).length<=1000:=aR (dM _ _) hz;generalize l.filter nz=f at hf hc hk hm hlt f5 hfl⊢;show dR (R4 (d+2)) (rB.body.drop 1) [(4,.own 0)] [⟨false,.lst (f.map V.node)⟩] kR kN=_;rw[Ze];induction f using Ka with
 |nil=>
  show(aB fi (d+2) 331 [.int 0] []).bind _=_;rw[xZ];rfl
 |one t=>kernel_rfl
 |two a b r=>
  have h1:Nat.ble ((a::b::r).map V.node).length 100000=true:=aV (by rw[aT];lia)
  rw[h1];have h2:decide (((((a::b::r).map V.node).length:Nat):Int)=1)=false:=aK (by rw[aT,bL,bL];lia)
  simp only[bV,cU,aF,mG,fU,h2];show dR (R4 (d+2)) (rB.body.drop 3) [(4,.own 0)] [⟨false,.lst ((a::b::r).map V.node)⟩] kR kN=_;rw[Zf,c644 (d+1) hfl];show(aB fi (d+2) 640 [.node (.sum (a::b::r))] []).bind _=_;rw[Ql d hfl hf];generalize hcm:(a::b::r).flatMap kU=comps at hc hk hm hlt f5⊢;show((bif Nat.ble (comps.map V.node).length 1000 then some (comps.map V.node,pW ((a::b::r).map V.node) [] [])else none).bind _)=_;rw[aT,aV (bD hm)];obtain⟨w,e⟩:=G7 (d:=d+2) (l:=(a::b::r).map V.node) (comps:=comps) (done:=[]) (s:=0) (env:=[(4,.own 0),(28,.own 1),(12,.own 2),(26,.int 0)]) (λv=>rfl) (λt ht=>(hc t ht).imp_right (·.1)) hk (by rw[List.length_nil];lia) (f5 (by simp))
  rw[bV,aF];rw[show gV (bJ (aB fi (d+2)) 39) [5] tX (comps.map V.node) [(4,.own 0),(28,.own 1),(12,.own 2),(26,.int 0)] (pW ((a::b::r).map V.node) [] [])=_ from e];show dR (R4 (d+2)) (rB.body.drop 7) (m7 (0+mE comps) w) (pW ((a::b::r).map V.node) (dD (comps.filter dO)) (dE (comps.filter dO))) kR kN=_;have hle:(comps.filter dO).length<1000:=aP (dM _ _) hm;rw[Zh,show Nat.ble (dD (comps.filter dO)).length 1000=true from aV (by unfold dD;rw[aT];lia)]
  show((dH (bJ (aB fi (d+2)) 38) [41,40] [.cmp .NotEq (.var 40) (.int 0)] (m7 (0+mE comps) w) (fR (bJ (aB fi (d+2)) 38) AH) ((dD (comps.filter dO)).map vW) (gY ((a::b::r).map V.node) (dD (comps.filter dO)) (dE (comps.filter dO)))).map _).bind _=_;rw[Bo (d:=d+1) hk λt ht=>⟨ht,by
   obtain⟨m1,m2⟩:=dC.mp ht;clear ht;rcases hc t m1 with⟨n,rfl⟩|⟨q1,q2⟩
   ·exact bX m2
   ·exact⟨q1,q2⟩⟩]
  show dR (R4 (d+2)) (rB.body.drop 8) (Rz (0+mE comps) w) (gY ((a::b::r).map V.node) (dD (comps.filter dO)) (dE (comps.filter dO))++[⟨false,.lst ((comps.filter dO).map V.node)⟩]) kR kN=_;rw[cY,Zl (d+1) _ w _ _ _ hle hlt];rw[<-hcm];rfl
noncomputable def m8(s:Str):Nat:=s.cps.size
theorem kH(a b:Str):m8 (a++b)=m8 a+m8 b:=Array.size_append
def Ae(c:Nat)(s:Str):Prop:=c∈s.cps.toList
theorem sA(c:Nat)(a b:Str):Ae c (a++b)↔Ae c a\/Ae c b:=by
 show c∈(a.cps++b.cps).toList↔_;rw[Array.toList_append,b7];rfl
theorem G9(i:Int):(pU i).cps.toList=(bif decide (i<0)then[45]else[])++(Nat.toDigits 10 i.natAbs).map Char.toNat:=by
 unfold pU;rw[Str.ofString_eq_toList];show((toString i).toList.map Char.toNat)=_;induction i using Int.casesOn with
 |ofNat m=>
  rw[show decide (Int.ofNat m<0)=false from aK (jK.mpr (g5 m))];show(Nat.repr m).toList.map Char.toNat=_;rw[Nat.toList_repr];rfl
 |negSucc m=>
  rw[aH (Int.negSucc_lt_zero m)];show("-"++Nat.repr m.succ).toList.map Char.toNat=_;rw[String.toList_append,dQ,Nat.toList_repr];rfl
theorem Qn:2^1900<10^600:=by decide+kernel
theorem mH{i:Int}(h:wF i=true):m8 (pU i)<=601:=by
 have h:=aM h;show(pU i).cps.size<=601;rw[<-Array.length_toList,G9,bU,aT];have h1:(bif decide (i<0)then[45]else([]:List Nat)).length<=1:=by cases decide (i<0)<;>decide
 have h2:(Nat.toDigits 10 i.natAbs).length<=600:=(Nat.length_toDigits_le_iff (by decide) (by decide)).mpr (bA h Qn)
 exact LF h1 h2
def J7(c:Nat):Prop:=118<=c/\c<=122
theorem vX{c:Nat}(hc:J7 c)(i:Int):¬Ae c (pU i):=by
 unfold Ae;rw[G9,b7];rintro(h|h)
 ·have:c∈[45]:=by revert h;cases decide (i<0)<;>intro h;exact absurd h (by simp);exact h
  rw[aN.mp this]at hc;exact absurd hc.1 (by decide)
 ·obtain⟨ch,h1,rfl⟩:=bR.mp h;have:=Nat.isDigit_of_mem_toDigits (by decide) (by decide) h1
  unfold Char.isDigit at this;simp only[ge_iff_le,a9,decide_eq_true_eq]at this;have h2:ch.toNat<=57:=this.2;have:=hc.1;exact i7 _ (aP this (iM h2 rfl))
theorem DM{c:Nat}(hc:J7 c):∀l:List Str,Ae c (Str.join pE l)↔∃s∈l,Ae c s
 |[]=>by simp[Str.join,Ae,Str.empty]
 |[x]=>by simp[Str.join]
 |x::y::r=>by
  show Ae c (x++pE++Str.join pE (y::r))↔_;rw[sA,sA,DM hc (y::r)];have:¬Ae c pE:=λh=>by
   have:c∈[43]:=h;rw[aN.mp this]at hc;exact absurd hc.1 (by decide)
  constructor
  ·rintro((h|h)|⟨s,h1,h2⟩)
   ·exact kF x aE h
   ·exact absurd h this
   ·exact kF s (aI _ h1) h2
  ·rintro⟨s,h1,h2⟩;rcases a7.mp h1 with rfl|h1
   ·exact .inl (.inl h2)
   ·exact .inr ⟨s,h1,h2⟩
theorem GA{x y:Str}:∀{l:List Str},y∈sL x l↔y=x\/y∈l
 |[]=>by simp[sL]
 |z::r=>by
  unfold sL;induction Em x z using Bool.casesOn with
  |true=>simp
  |false=>
   rw[bG,a7,GA,a7];constructor<;>rintro(h|h|h)<;>simp[h]
theorem DN{y:Str}:∀{l:List Str},y∈kP l↔y∈l
 |[]=>Iff.rfl
 |x::r=>by unfold kP;rw[GA,DN,a7]
theorem GB{x:Str}:∀l:List Str,((sL x l).map m8).sum=m8 x+(l.map m8).sum/\(sL x l).length=l.length+1
 |[]=>⟨by simp[sL],rfl⟩
 |z::r=>by
  unfold sL;induction Em x z using Bool.casesOn with
  |true=>simp
  |false=>
   refine oA (GB (x:=x) r) λh1 h2=>?_;rw[bG,bO,eJ,bL,h1,h2,bO,eJ,bL];lia
theorem Af:∀l:List Str,((kP l).map m8).sum=(l.map m8).sum/\(kP l).length=l.length
 |[]=>⟨rfl,rfl⟩
 |x::r=>by
  refine oA (GB (x:=x) (kP r)) λh1 h2=>?_;refine oA (Af r) λh3 h4=>?_;unfold kP;rw[h1,h2,h3,h4,bO,eJ,bL];lia
theorem DO:∀l:List Str,m8 (Str.join pE l)<=(l.map m8).sum+l.length
 |[]=>by simp[Str.join,m8,Str.empty]
 |[x]=>by simp[Str.join]
 |x::y::r=>by
  show m8 (x++pE++Str.join pE (y::r))<=_;rw[kH,kH];have:=DO (y::r);have h1:m8 pE=1:=rfl;simp only[bO,eJ,bL]at this⊢;lia
mutual
noncomputable def T.nd:T->Nat
 |.num _=>1
 |.var ..=>1
 |.mul a _=>a.nd+1
 |.div a _=>a.nd+1
 |.mod a _=>a.nd+1
 |.sum l=>T.nds l+1
noncomputable def T.nds:List T->Nat
 |[]=>0
 |t::r=>t.nd+T.nds r
end
theorem nds_n:T.nds []=0:=rfl
theorem nds_c{t:T}{r:List T}:T.nds (t::r)=t.nd+T.nds r:=rfl
theorem nd_num{n:Int}:(T.num n).nd=1:=rfl
theorem nd_var{e:Str}{l h:Int}:(T.var e l h).nd=1:=rfl
theorem nd_mul{a:T}{b:Int}:(T.mul a b).nd=a.nd+1:=rfl
theorem nd_div{a:T}{b:Int}:(T.div a b).nd=a.nd+1:=rfl
theorem nd_mod{a:T}{b:Int}:(T.mod a b).nd=a.nd+1:=rfl
theorem nd_sum{l:List T}:(T.sum l).nd=T.nds l+1:=rfl
mutual
noncomputable def dS(c:Nat):T->Prop
 |.num _=>False
 |.var e _ _=>Ae c e
 |.mul a _=>dS c a
 |.div a _=>dS c a
 |.mod a _=>dS c a
 |.sum l=>hasVs c l
noncomputable def hasVs(c:Nat):List T->Prop
 |[]=>False
 |t::r=>dS c t\/hasVs c r
end
theorem hvs_n{c:Nat}:hasVs c []=False:=rfl
theorem hvs_c{c:Nat}{t:T}{r:List T}:hasVs c (t::r)=(dS c t\/hasVs c r):=rfl
theorem hv_mul{c:Nat}{a:T}{b:Int}:dS c (.mul a b)=dS c a:=rfl
theorem hv_div{c:Nat}{a:T}{b:Int}:dS c (.div a b)=dS c a:=rfl
theorem hv_mod{c:Nat}{a:T}{b:Int}:dS c (.mod a b)=dS c a:=rfl
theorem hv_sum{c:Nat}{l:List T}:dS c (.sum l)=hasVs c l:=rfl
theorem hv_num{c:Nat}{n:Int}:dS c (.num n)=False:=rfl
theorem hv_var{c:Nat}{e:Str}{l h:Int}:dS c (.var e l h)=Ae c e:=rfl
theorem wZ{c:Nat}:∀{l:List T},hasVs c l↔∃t∈l,dS c t
 |[]=>by unfold hasVs;simp
 |t::r=>by unfold hasVs;rw[wZ];simp
theorem lO{c:Nat}(hc:J7 c)(s:Str)(h:s.cps.toList.all (λx=>!(Nat.ble 118 x))=true):¬Ae c s:=λz=>by
 have:=aW.mp h c z;rw[aV hc.1]at this;exact bX this
mutual
theorem nP{c:Nat}(hc:J7 c):∀t:T,Ae c t.rend↔dS c t
 |.num n=>by rw[T.rend,dS];exact⟨λh=>vX hc n h,False.elim⟩
 |.var e l h=>by
  rw[T.rend,dS];simp only[sA,vX hc,lO hc à rfl,lO hc AQ rfl,lO hc Ey rfl,lO hc á rfl,or_false]
 |.mul a b=>by
  rw[T.rend,dS];simp only[sA,vX hc,lO hc xV rfl,lO hc zC rfl,lO hc xW rfl,or_false,false_or,nP hc a]
 |.div a b=>by
  rw[T.rend,dS];simp only[sA,vX hc,lO hc xV rfl,lO hc â rfl,lO hc xW rfl,or_false,false_or,nP hc a]
 |.mod a b=>by
  rw[T.rend,dS];simp only[sA,vX hc,lO hc xV rfl,lO hc I7 rfl,lO hc xW rfl,or_false,false_or,nP hc a]
 |.sum l=>by
  rw[T.rend,dS];simp only[sA,lO hc xV rfl,lO hc xW rfl,or_false,false_or,DM hc,DN,occ_rends hc l]
theorem occ_rends{c:Nat}(hc:J7 c):∀l:List T,(∃s∈T.rends l,Ae c s)↔hasVs c l
 |[]=>by rw[T.rends,hasVs];simp
 |t::r=>by
  rw[T.rends,hasVs,<-occ_rends hc r,<-nP hc t];simp
end
theorem w0:∀l:List T,T.rends l=l.map T.rend
 |[]=>rfl
 |t::r=>by rw[T.rends,w0 r];rfl
inductive Rk:Nat->T->Prop
 |num {n:Nat} {i:Int}:wF i=true->Rk n (.num i)
 |var {n:Nat} {e:Str} {l h:Int}:m8 e<=1->wF l=true->wF h=true->Rk n (.var e l h)
 |mul {n:Nat} {a:T} {b:Int}:Rk n a->wF b=true->(T.mul a b).lo≠(T.mul a b).hi->Rk (n+1) (.mul a b)
 |div {n:Nat} {a:T} {b:Int}:Rk n a->wF b=true->(T.div a b).lo≠(T.div a b).hi->Rk (n+1) (.div a b)
 |mod {n:Nat} {a:T} {b:Int}:Rk n a->wF b=true->(T.mod a b).lo≠(T.mod a b).hi->Rk (n+1) (.mod a b)
 |sum {n:Nat} {l:List T}:(∀u∈l,Rk n u)->l.length<64->(T.sum l).lo≠(T.sum l).hi->Rk (n+1) (.sum l)
theorem N7{u:T}:∀{l:List T},u∈l->u.nd<=T.nds l
 |t::r,h=>by
  rw[T.nds];rcases a7.mp h with rfl|h
  ·lia
  ·have:=N7 h;lia
theorem Bp{l:List T}(h:∀u∈l,m8 u.rend+2<=1300*u.nd):((l.map T.rend).map m8).sum+2*l.length<=1300*T.nds l:=by
 induction l with
 |nil=>simp[T.nds]
 |cons t r ih=>
  have h1:=h t aE;have h2:=ih λu hu=>h u (aI _ hu);rw[T.nds,bO,bO,eJ,bL];lia
theorem tC{n:Nat}{t:T}(h:Rk n t):m8 t.rend+2<=1300*t.nd:=by
 induction h with
 |num h=>rw[T.rend,T.nd];have:=mH h;lia
 |var h0 h1 h2=>
  rw[T.rend,T.nd];have:=mH h1;have:=mH h2;simp only[kH,show m8 à=1 from rfl,show m8 AQ=1 from rfl,show m8 Ey=0 from rfl,show m8 á=1 from rfl];lia
 |mul _ h1 _ ih=>rw[T.rend,T.nd];have:=mH h1;simp only[kH,show m8 xV=1 from rfl,show m8 zC=1 from rfl,show m8 xW=1 from rfl];lia
 |div _ h1 _ ih=>rw[T.rend,T.nd];have:=mH h1;simp only[kH,show m8 xV=1 from rfl,show m8 â=2 from rfl,show m8 xW=1 from rfl];lia
 |mod _ h1 _ ih=>rw[T.rend,T.nd];have:=mH h1;simp only[kH,show m8 xV=1 from rfl,show m8 I7=1 from rfl,show m8 xW=1 from rfl];lia
 |@sum n l _ _ _ ih=>
  rw[T.rend,T.nd,w0];have h1:=Bp ih;have h2:=DO (kP (l.map T.rend));refine oA (Af (l.map T.rend)) λh3 h4=>?_;rw[h3,h4,aT]at h2;simp only[kH,show m8 xV=1 from rfl,show m8 xW=1 from rfl];exact LG h1 h2
theorem rL(cf:cO){x y:Str}(h:m8 (x++y)<=1000000):cG cf .Add (.str x) (.str y)=some (.str (x++y)):=by
 show(bif Dm (x++y)then _ else _)=_;rw[show Dm (x++y)=true from aH h];rfl
theorem yE(d:Nat){t:T}{f:Addr}(h:(t.cls,f)∈[((471:Addr),(468:Addr)),(512,509),(560,557),(644,635)]):aB fi (d+1) 50 [.node t,.str d9] []=bif !!decide (t.lo=t.hi)then none else(aB fi d f [.node t,.str d9] []).bind λv=>(a8 v []).bind λq=>some q.1:=by
 induction t using T.casesOn<;>simp[T.cls]at h<;>subst h<;>exact(cR rfl rfl rfl rfl).trans (by kernel_rfl)
theorem kw50(d:Nat)(t:T):aB fi (d+1) 50 [.node t] [(3,.str d9)]=aB fi (d+1) 50 [.node t,.str d9] []:=(cR (i:=f50) (env:=[(1,.node t),(3,.str d9)]) rfl rfl rfl rfl).trans (cR rfl rfl rfl rfl).symm
theorem N8(d:Nat)(i:Int):aB fi (d+1) 50 [.node (.num i),.str d9] []=(aB fi d 328 [.node (.num i),.str d9] []).bind λv=>(a8 v []).bind λq=>some q.1:=(cR rfl rfl rfl rfl).trans (by kernel_rfl)
theorem N9(d:Nat)(e:Str)(l h:Int):aB fi (d+1) 50 [.node (.var e l h),.str d9] []=(aB fi d 274 [.node (.var e l h),.str d9] []).bind λv=>(a8 v []).bind λq=>some q.1:=(cR rfl rfl rfl rfl).trans (by kernel_rfl)
def DP(i:Int):Option V:=bif wF i then some (.str (pU i))else none
theorem tZ{i:Int}(h:wF i=true):DP i=some (.str (pU i)):=by unfold DP;rw[h];rfl
theorem sp328(d:Nat)(i:Int):aB fi (d+1) 328 [.node (.num i),.str d9] []=((DP i).map λx=>(x,([]:Cs))).bind λv=>(a8 v.1 v.2).bind λq=>some q.1:=(cR rfl rfl rfl rfl).trans (by kernel_rfl)
theorem sp654(d:Nat)(i:Int):aB fi (d+1) 654 [.int i,.str d9] []=((DP i).map λx=>(x,([]:Cs))).bind λv=>(a8 v.1 v.2).bind λq=>some q.1:=(cR rfl rfl rfl rfl).trans (by kernel_rfl)
theorem sp274(d:Nat)(e:Str)(l h:Int):aB fi (d+1) 274 [.node (.var e l h),.str d9] []=(cG (aB fi d) .Add (.str e) (.str à)).bind λv=>((DP l).map λx=>(x,([]:Cs))).bind λi=>(cG (aB fi d) .Add v i.1).bind λv=>(cG (aB fi d) .Add v (.str AQ)).bind λv=>
  ((DP h).map λx=>(x,i.2)).bind λj=>(cG (aB fi d) .Add v j.1).bind λv=>(cG (aB fi d) .Add v (.str Ey)).bind λv=>(cG (aB fi d) .Add v (.str á)).bind λv=>(a8 v j.2).bind λq=>some q.1:=(cR rfl rfl rfl rfl).trans (by kernel_rfl)
theorem sp468(d:Nat)(a:T)(c:Int):aB fi (d+1) 468 [.node (.mul a c),.str d9] []=(aB fi d 50 [.node a,.str d9] []).bind λv=>(cG (aB fi d) .Add (.str xV) v).bind λv=>(cG (aB fi d) .Add v (.str zC)).bind λv=>(aB fi d 654 [.int c,.str d9] []).bind λx=>(cG (aB fi d) .Add v x).bind λv=>
  (cG (aB fi d) .Add v (.str xW)).bind λv=>(a8 v []).bind λq=>some q.1:=by induction a using T.casesOn<;>exact(cR rfl rfl rfl rfl).trans (by kernel_rfl)
theorem sp509(d:Nat)(a:T)(c:Int):aB fi (d+1) 509 [.node (.div a c),.str d9] []=(aB fi d 50 [.node a,.str d9] []).bind λv=>(cG (aB fi d) .Add (.str xV) v).bind λv=>(cG (aB fi d) .Add v (.str â)).bind λv=>((DP c).map λx=>(x,([]:Cs))).bind λx=>(cG (aB fi d) .Add v x.1).bind λv=>
  (cG (aB fi d) .Add v (.str xW)).bind λv=>(a8 v x.2).bind λq=>some q.1:=by induction a using T.casesOn<;>exact(cR rfl rfl rfl rfl).trans (by kernel_rfl)
theorem sp557(d:Nat)(a:T)(c:Int):aB fi (d+1) 557 [.node (.mod a c),.str d9] []=(aB fi d 50 [.node a,.str d9] []).bind λv=>(cG (aB fi d) .Add (.str xV) v).bind λv=>(cG (aB fi d) .Add v (.str I7)).bind λv=>((DP c).map λx=>(x,([]:Cs))).bind λx=>(cG (aB fi d) .Add v x.1).bind λv=>
  (cG (aB fi d) .Add v (.str xW)).bind λv=>(a8 v x.2).bind λq=>some q.1:=by induction a using T.casesOn<;>exact(cR rfl rfl rfl rfl).trans (by kernel_rfl)
noncomputable def DQ:X:=.meth (.var 0) .render [(.var 3)] []
theorem sp635(d:Nat)(l:List T):aB fi (d+1) 635 [.node (.sum l),.str d9] []=((bif Nat.ble (l.map V.node).length 1000 then some (l.map V.node,[])else none).bind λp=>(dH (bJ (aB fi d) 34) [0] [] [(1,.node (.sum l)),(3,.str d9)] (fR (bJ (aB fi d) 34) DQ) p.1 p.2).map λq=>gT (.lst q.1) q.2).bind λv=>
  ((E7 v.1 v.2).bind λm=>(mV m).map λss=>gT (.lst ((kP ss).map V.str)) v.2).bind λv=>(((a8 v.1 v.2).bind λp=>(some ([],p.2)).map λq=>(p.1::q.1,q.2)).bind λw=>(view (.str pE) w.2).bind λu=>(zG u .join w.1).map λx=>(x,w.2)).bind λv=>
   (cG (aB fi d) .Add (.str xV) v.1).bind λx=>(cG (aB fi d) .Add x (.str xW)).bind λx=>(a8 x v.2).bind λq=>some q.1:=(cR rfl rfl rfl rfl).trans (by kernel_rfl)
theorem Qo(d:Nat)(v:V)(u:T):fR (bJ (aB fi d) 34) DQ [(1,v),(3,.str d9),(0,.node u)] []=((aB fi d 50 [.node u,.str d9] []).bind λx=>some (x,([]:Cs))).bind λx=>(a8 x.1 x.2).map λy=>([y.1],y.2):=by
 show((bJ (aB fi d) 34).ev DQ [(1,v),(3,.str d9),(0,.node u)] []).bind _=_;rw[DJ];induction u using T.casesOn<;>kernel_rfl
theorem Bq{d:Nat}{v:V}:∀{l:List T},(∀u∈l,aB fi d 50 [.node u,.str d9] []=some (.str u.rend))->dH (bJ (aB fi d) 34) [0] [] [(1,v),(3,.str d9)] (fR (bJ (aB fi d) 34) DQ) (l.map V.node) []=some (l.map λu=>V.str u.rend,[])
 |[],_=>rfl
 |u::r,h=>by
  show((fR (bJ (aB fi d) 34) DQ [(1,v),(3,.str d9),(0,.node u)] []).bind λq=>(dH (bJ (aB fi d) 34) [0] [] [(1,v),(3,.str d9)] (fR (bJ (aB fi d) 34) DQ) (r.map V.node) q.2).map λz=>(q.1++z.1,z.2))=_;rw[Qo,h u aE];show(dH (bJ (aB fi d) 34) [0] [] [(1,v),(3,.str d9)] (fR (bJ (aB fi d) 34) DQ) (r.map V.node) []).map _=_;rw[Bq λu hu=>h u (aI _ hu)];rfl
theorem Ag:∀l:List Str,mV (l.map V.str)=some l
 |[]=>rfl
 |s::r=>by show(mV (r.map V.str)).map (s::·)=_;rw[Ag r];rfl
theorem joinP(l:List Str)(h:((l.map m8).sum+l.length)<=1000000):JoinOk pE l=true:=by
 unfold JoinOk PySem.Builtin.Str.tooLong;rw[StrLaws.joinTotal];have e:(l.map (·.length)).sum=(l.map m8).sum:=rfl;have e2:pE.length=1:=rfl;rw[e,e2,Nat.mul_one];have:¬((l.map m8).sum+l.length>sizeLine):=by rw[sizeLine_eq];exact lR.mpr (iG h rfl)
 rw[aK this];rfl
theorem Qp{n:Nat}{t:T}(h:Rk n t):t.nd<=700->∀d,2*n+2<=d->aB fi d 50 [.node t,.str d9] []=some (.str t.rend):=by
 induction h with
 |@num n i h=>
  intro _ d hd
  obtain⟨e,rfl,hd⟩:=up (K:=1) (d:=d) (bT hd rfl)
  refine jC e 0 (by assumption) λe hd=>?_
  rw[N8,sp328,tZ h,T.rend];rfl
 |@var n e l h h0 h1 h2=>
  intro _ d hd
  refine jC d 1 (bT hd rfl) λd hd=>?_
  refine jC d 0 (hd) λd hd=>?_
  have s1:=mH h1
  have s2:=mH h2
  rw[N9,sp274,tZ h1,tZ h2,bS (rL ..),cU,aF,bS (rL ..),bS (rL ..),cU,aF,bS (rL ..),bS (rL ..),rL,T.rend]
  ·rfl
  all_goals (simp only[kH,show m8 à=1 from rfl,show m8 AQ=1 from rfl,show m8 Ey=0 from rfl,show m8 á=1 from rfl];lia)
 |@mul n a b h h1 h2 ih=>
  intro hn d hd
  rw[T.nd]at hn
  refine jC d (2*n+3) (hd) λd hd=>?_
  refine jC d (2*n+2) (hd) λd hd=>?_
  obtain⟨e,rfl,_⟩:=up (K:=2*n+1) (d:=d) (hd)
  have s1:=mH h1
  have s2:=tC h
  rw[yE (f:=468) _ (by simp[T.cls]),aK h2,sp468,ih (by exact bD (d7 hn)) _ (hd),sp654,tZ h1,cU,aF,aF,bS (rL ..),bS (rL ..)]
  ·show((cG (aB fi (e+1)) .Add _ (.str (pU b))).bind _).bind _=_
   rw[bS (rL ..),rL,T.rend]
   ·rfl
   all_goals (simp only[kH,show m8 xV=1 from rfl,show m8 zC=1 from rfl,show m8 xW=1 from rfl];lia)
  all_goals (simp only[kH,show m8 xV=1 from rfl,show m8 zC=1 from rfl,show m8 xW=1 from rfl];lia)
 |@div n a b h h1 h2 ih=>
  intro hn d hd
  rw[T.nd]at hn
  refine jC d (2*n+3) (hd) λd hd=>?_
  refine jC d (2*n+2) (hd) λd hd=>?_
  have s1:=mH h1
  have s2:=tC h
  rw[yE (f:=509) _ (by simp[T.cls]),aK h2,sp509,ih (by exact bD (d7 hn)) _ (hd),tZ h1,cU,aF,bS (rL ..),bS (rL ..),aF,bS (rL ..),rL,T.rend]
  ·rfl
  all_goals (simp only[kH,show m8 xV=1 from rfl,show m8 â=2 from rfl,show m8 xW=1 from rfl];lia)
 |@mod n a b h h1 h2 ih=>
  intro hn d hd
  rw[T.nd]at hn
  refine jC d (2*n+3) (hd) λd hd=>?_
  refine jC d (2*n+2) (hd) λd hd=>?_
  have s1:=mH h1
  have s2:=tC h
  rw[yE (f:=557) _ (by simp[T.cls]),aK h2,sp557,ih (by exact bD (d7 hn)) _ (hd),tZ h1,cU,aF,bS (rL ..),bS (rL ..),aF,bS (rL ..),rL,T.rend]
  ·rfl
  all_goals (simp only[kH,show m8 xV=1 from rfl,show m8 I7=1 from rfl,show m8 xW=1 from rfl];lia)
 |@sum n l h h1 h2 ih=>
  intro hn d hd
  have hs:=tC (Rk.sum h h1 h2)
  rw[T.nd]at hn hs
  refine jC d (2*n+3) (hd) λd hd=>?_
  refine jC d (2*n+2) (hd) λd hd=>?_
  have s1:=Bp λu hu=>tC (h u hu)
  refine oA (Af (l.map T.rend)) λh3 h4=>?_
  conv=>lhs;rw[yE (f:=635) _ (by simp[T.cls]),aK h2,sp635,aT,aV (by lia)]
  show(((((dH (bJ (aB fi d) 34) [0] [] [(1,.node (.sum l)),(3,.str d9)] (fR (bJ (aB fi d) 34) DQ) (l.map V.node) []).map λq=>gT (.lst q.1) q.2).bind _).bind _))=_
  rw[Bq λu hu=>ih u hu (by have:=N7 hu;exact bD (aZ (j0 this) hn)) d (hd)]
  show((((bif Nat.blt (l.map λu=>V.str u.rend).length 64 then some (l.map λu=>V.str u.rend)else none).bind λm=>(mV m).map λss=>gT (.lst ((kP ss).map V.str)) [⟨false,.lst (l.map λu=>V.str u.rend)⟩]).bind _).bind _)=_
  conv=>lhs;rw[aT,cT (show Nat.blt l.length 64=true from aV h1),aF,show(l.map λu=>V.str u.rend)=(l.map T.rend).map V.str by rw[iW];rfl,Ag]
  show((((mV ((kP (l.map T.rend)).map V.str)).bind λss=>bif JoinOk pE ss then some (V.str (Str.join pE ss))else none).map λx=>(x,_)).bind _).bind _=_
  conv=>lhs;rw[bS (Ag ..),cT (joinP _ (by rw[h3,h4,aT];lia) ..),cU,aF]
  rw[T.rend,w0]at hs⊢
  rw[bS (rL ..),rL]
  ·rfl
  all_goals (simp only[kH,show m8 xV=1 from rfl,show m8 xW=1 from rfl]at hs⊢;lia)
theorem Ah{n:Nat}{t:T}(h:Rk n t)(hn:t.nd<=700){d:Nat}(hd:2*n+3<=d):æ d t:=by
 refine jC d (2*n+2) (hd) λd hd=>?_;have hr:=Qp h hn d (hd);obtain⟨e,rfl,_⟩:=up (K:=2*n+1) (d:=d) (hd);rw[<-kw50]at hr;show((aB fi (e+1+1) 71 [.node t] []).bind λr=>t8 none r λs=>some (V.str s))=_;have:aB fi (e+1+1) 71 [.node t] []=some (.str t.rend):=by
  show pX none (aB fi (e+1) 50 [.node t] [(3,.str d9)]) (λu=>t8 none u λs=>bif lE s t.rend&&true then some (V.str s)else none)=_;rw[hr];show(bif lE t.rend t.rend&&true then some (V.str t.rend)else none)=_;rw[sV];rfl
 rw[this];rfl
noncomputable def BM:Int:=2^900
theorem Cg{i:Int}(h:i.natAbs<2^1800):wF i=true:=aH (bA h (by decide+kernel))
theorem g9{i:Int}(h:i.natAbs<2^1900):jQ i=true:=aH (bA h (by decide+kernel))
theorem gZ{i:Int}(h0:0<=i)(h:i<BM):i.natAbs<2^900:=by
 unfold BM at h;have:((2^900:Nat):Int)=2^900:=by norm_cast
 lia
theorem oT{a b:Int}(ha:a.natAbs<2^900)(hb:b.natAbs<2^900):(a*b).natAbs<2^1800:=by
 rw[eP]
 calc a.natAbs*b.natAbs<2^900*2^900:=Nat.mul_lt_mul'' ha hb
  _=2^1800:=by decide+kernel
noncomputable def j6:T->Bool
 |.var ..=>true
 |.div ..=>true
 |.mod ..=>true
 |_=>false
noncomputable def vY:T->Bool
 |.var ..=>true
 |.div x _=>match x with
  |.var ..=>true
  |_=>false
 |_=>false
def rM(t u:T):Prop:=∀c,J7 c->dS c t->¬dS c u
inductive Nd:Nat->T->Prop
 |var {n c:Nat} {l h:Int}:J7 c->0<=l->l<h->h<BM->Nd n (.var ⟨#[c]⟩ l h)
 |div {n:Nat} {x:T} {b:Int}:Nd n x->2<=b->Int.fdiv x.lo b<Int.fdiv x.hi b->Nd (n+1) (.div x b)
 |mod {n:Nat} {x:T} {m:Int}:Nd n x->vY x=true->2<=m->Int.fdiv x.lo m<Int.fdiv x.hi m->Nd (n+1) (.mod x m)
 |mul {n:Nat} {x:T} {c:Int}:Nd n x->j6 x=true->2<=c->x.hi*c<BM->Nd (n+1) (.mul x c)
 |sum {n:Nat} {ts:List T} {k:Int}:(∀t∈ts,Nd n t)->(∀t∈ts,dO t=true)->ts≠[]->2<=(b9 ts k).length->ts.length<=8->0<=k->T.his ts+k<BM->ts.Pairwise rM->Nd (n+1) (.sum (b9 ts k))
theorem Nd.divI{n:Nat}{x:T}{b:Int}{P:Prop}(h:Nd n (.div x b))(k:∀m,Nd m x->2<=b->Int.fdiv x.lo b<Int.fdiv x.hi b->P):P:=by
 cases h with
 |div h1 h2 h3=>exact k _ h1 h2 h3
theorem Nd.modI{n:Nat}{x:T}{b:Int}{P:Prop}(h:Nd n (.mod x b))(k:∀m,Nd m x->vY x=true->2<=b->Int.fdiv x.lo b<Int.fdiv x.hi b->P):P:=by
 cases h with
 |mod h1 h2 h3 h4=>exact k _ h1 h2 h3 h4
theorem Nd.var0{n m:Nat}{e:Str}{l h:Int}(q:Nd n (.var e l h)):Nd m (.var e l h):=by cases q with|var a b c d=>exact .var a b c d
theorem vZ:∀a b:List T,T.his (a++b)=T.his a+T.his b
 |[],b=>by show T.his b=0+T.his b;lia
 |t::r,b=>by show t.hi+T.his (r++b)=t.hi+T.his r+T.his b;rw[vZ r b];lia
theorem v5:∀a b:List T,T.los (a++b)=T.los a+T.los b
 |[],b=>by show T.los b=0+T.los b;lia
 |t::r,b=>by show t.lo+T.los (r++b)=t.lo+T.los r+T.los b;rw[v5 r b];lia
theorem Ai(ts:List T)(k:Int):T.his (b9 ts k)=T.his ts+k:=by
 unfold b9;rw[vZ];induction h:decide (k=0) using Bool.casesOn with
 |true=>rw[aM h];rfl
 |false=>show T.his ts+(k+0)=_;lia
theorem Aj(ts:List T)(k:Int):T.los (b9 ts k)=T.los ts+k:=by
 unfold b9;rw[v5];induction h:decide (k=0) using Bool.casesOn with
 |true=>rw[aM h];rfl
 |false=>show T.los ts+(k+0)=_;lia
theorem Fh(l:List T):(T.sum l).lo=T.los l:=by rw[T.lo]
theorem Fi(l:List T):(T.sum l).hi=T.his l:=by rw[T.hi]
theorem sB{ts:List T}(h:∀t∈ts,0<=t.lo/\t.lo<t.hi):0<=T.los ts/\T.los ts<=T.his ts/\(ts≠[]->T.los ts<T.his ts)/\∀t∈ts,t.hi<=T.his ts:=by
 induction ts with
 |nil=>exact B8 (fI 0) (fI 0) (λh=>absurd rfl h) (by simp)
 |cons t r ih=>
  refine oA (h t aE) λh1 h2=>?_;refine u7 (ih λu hu=>h u (aI _ hu)) λi1 i2 _ i3=>?_;show 0<=t.lo+T.los r/\t.lo+T.los r<=t.hi+T.his r/\(_->t.lo+T.los r<t.hi+T.his r)/\∀u∈t::r,u.hi<=t.hi+T.his r;refine B8 (by lia) (by lia) (λ_=>by lia) (λu hu=>?_)
  clear h;rcases a7.mp hu with rfl|hu
  ·lia
  ·have:=i3 u hu;lia
theorem gF{a b:Int}(h0:0<=a)(hb:0<b):0<=Int.fdiv a b/\Int.fdiv a b<=a:=by
 rw[aG _ (aO hb)];exact⟨n6 h0 (aO hb),Int.ediv_le_self _ h0⟩
theorem m9{l h m:Int}(hm:0<m)(hb:Int.fdiv l m<Int.fdiv h m)(hlh:l<=h):AN l h m=0/\yZ l h m=m-1:=by
 have hc:(decide (h-l>=m)||(decide (l≠h)&&decide (Int.fmod l m>=Int.fmod h m)))=true:=by
  rw[Bool.or_eq_true,a9,decide_eq_true_eq,decide_eq_true_eq,decide_eq_true_eq];clear hlh;rw[aG _ (aO hm),aG _ (aO hm)]at hb;rw[aS _ (aO hm),aS _ (aO hm)];have e1:=dB l m;have e2:=dB h m;have:l/m+1<=h/m:=hb;have h3:m*(l/m+1)<=m*(h/m):=dN this (aO hm);rw[qI,dF]at h3;by_cases h1:h-l>=m
  ·exact .inl h1
  ·refine .inr ⟨λz=>by rw[z]at hb;exact qW _ hb,by lia⟩
 unfold AN yZ;rw[hc];exact⟨rfl,rfl⟩
theorem Nd.rng{n:Nat}{t:T}(h:Nd n t):0<=t.lo/\t.lo<t.hi/\t.hi<BM:=by
 induction h with
 |var _ h1 h2 h3=>rw[T.lo,T.hi];exact uA h1 h2 h3
 |@div n x b _ h1 h2 ih=>
  rw[r9,tA];have q1:=gF (b:=b) ih.1 (by exact iB h1 rfl)
  have q2:=gF (a:=x.hi) (b:=b) (by exact aO (aJ ih.1 ih.2.1)) (by exact iB h1 rfl)
  exact uA q1.1 h2 (by exact aJ q2.2 ih.2.2)
 |@mod n x m _ _ h1 h2 ih=>
  rw[uQ,uR];refine oA (m9 (by exact iB h1 rfl) h2 (aO ih.2.1)) λe1 e2=>?_
  rw[e1,e2];have:m<=x.hi:=by
   rcases eL x.hi m with h|h
   ·clear e2 e1;rw[aG _ (by exact iA h1 rfl),aG _ (by exact iA h1 rfl),cS (by exact aO (aJ ih.1 ih.2.1)) h,cS ih.1 (by exact cX ih.2.1 h)]at h2
    lia
   ·exact h
  exact uA (fI 0) (by lia) (by lia)
 |@mul n x c _ _ h1 h2 ih=>
  rw[r8,pL,aH (by exact iA h1 rfl:0<=c)]
  exact uA (eO ih.1 (by exact iA h1 rfl)) (gP ih.2.1 (by exact iB h1 rfl)) h2
 |@sum n ts k _ _ h1 _ _ h2 h3 _ ih=>
  rw[Fh,Fi,Aj,Ai];refine u7 (sB λt ht=>⟨(ih t ht).1,(ih t ht).2.1⟩) λq1 _ q2 _=>?_;have:=q2 h1;exact uA (by lia) (by lia) h3
theorem Br{c:Nat}{ts:List T}{k:Int}:dS c (.sum (b9 ts k))↔∃t∈ts,dS c t:=by
 rw[dS,wZ];unfold b9;constructor
 ·rintro⟨t,h1,h2⟩;rcases b7.mp h1 with h1|h1
  ·exact kF t h1 h2
  ·induction hk:decide (k=0) using Bool.casesOn with
   |true=>rw[hk]at h1;cases h1
   |false=>rw[hk]at h1;clear hk;rw[aN.mp h1,dS]at h2;exact h2.elim
 ·rintro⟨t,h1,h2⟩;exact kF t (gG _ h1) h2
theorem Nd.letter{n:Nat}{t:T}(h:Nd n t):∃c,J7 c/\dS c t:=by
 induction h with
 |@var n c l h hc=>exact kF c hc (by rw[dS];exact lY _)
 |div _ _ _ ih=>refine i8 (ih) λc h1 h2=>?_;exact kF c h1 (by rw[dS];exact h2)
 |mod _ _ _ _ ih=>refine i8 (ih) λc h1 h2=>?_;exact kF c h1 (by rw[dS];exact h2)
 |mul _ _ _ _ ih=>refine i8 (ih) λc h1 h2=>?_;exact kF c h1 (by rw[dS];exact h2)
 |@sum n ts k _ _ h1 _ _ _ _ _ ih=>
  clear a_6 a_5 a_3 a_2 a_1 a;obtain⟨t,r,rfl⟩:=List.exists_cons_of_ne_nil h1;refine i8 (ih t aE) λc h1 h2=>?_;exact kF c h1 (Br.mpr ⟨t,aE,h2⟩)
theorem pM{t:T}{ts:List T}{k:Int}(h:t∈b9 ts k):t∈ts\/t=.num k:=by
 unfold b9 at h;rcases b7.mp h with h|h
 ·exact .inl h
 ·induction hk:decide (k=0) using Bool.casesOn with
  |true=>rw[hk]at h;cases h
  |false=>rw[hk]at h;exact .inr (aN.mp h)
theorem iR(ts:List T)(k:Int):ts.length<=(b9 ts k).length/\(b9 ts k).length<=ts.length+1:=by
 unfold b9;rw[bU];induction decide (k=0) using Bool.casesOn<;>simp
theorem lP{l h b:Int}(h0:0<=l)(hlh:l<=h)(hb:0<b)(hd:Int.fdiv l b<Int.fdiv h b):b<=h:=by
 rcases eL h b with q|q
 ·rw[aG _ (aO hb),aG _ (aO hb),cS (by exact a6 h0 hlh) q,cS h0 (by exact aJ hlh q)]at hd
  lia
 ·exact q
theorem Nd.rk{n:Nat}{t:T}(h:Nd n t):Rk n t:=by
 have sm:∀{i:Int},0<=i->i<BM->wF i=true:=λh0 h1=>Cg (bA (gZ h0 h1) (by decide+kernel))
 induction h with
 |var _ h1 h2 h3=>exact .var (cA _) (sm h1 (by exact cX h2 h3)) (sm (by exact aO (aJ h1 h2)) h3)
 |@div n x b hx h1 h2 ih=>
  have r:=hx.rng;have:=lP r.1 (by exact aO r.2.1) (by exact iB h1 rfl) h2
  exact .div ih (sm (by exact iA h1 rfl) (by exact aJ this r.2.2)) (by rw[r9,tA];exact iV h2)
 |@mod n x m hx hv h1 h2 ih=>
  have r:=hx.rng;have:=lP r.1 (by exact aO r.2.1) (by exact iB h1 rfl) h2
  exact .mod ih (sm (by exact iA h1 rfl) (by exact aJ this r.2.2)) (iV (Nd.mod hx hv h1 h2).rng.2.1)
 |@mul n x c hx ha h1 h2 ih=>
  have r:=hx.rng;have:c<=x.hi*c:=by
   have:1*c<=x.hi*c:=cH (by lia) (by exact iA h1 rfl)
   lia
  exact .mul ih (sm (by exact iA h1 rfl) (by exact aJ this h2)) (iV (Nd.mul hx ha h1 h2).rng.2.1)
 |@sum n ts k hx ht h1 h2 h3 h4 h5 h6 ih=>
  refine u7 (sB λt ht=>⟨(hx t ht).rng.1,(hx t ht).rng.2.1⟩) λq1 q2 _ q3=>?_;refine .sum (λu hu=>?_) (by have:=iR ts k;lia) (iV (Nd.sum hx ht h1 h2 h3 h4 h5 h6).rng.2.1)
  rcases pM hu with hu|rfl
  ·exact ih u hu
  ·exact .num (sm h4 (by lia))
structure Gt(n:Nat)(t:T):Prop where
 nd:Nd n (jN t)
 at_:j6 (jN t)=true
 mul:∀a c,t=.mul a c->c≠0/\c≠1/\c.natAbs<2^900
 sz:(jN t).nd<=700
theorem Gt.term{n:Nat}{t:T}(h:Gt n t):dO t=true:=by
 have:=h.at_;clear h;induction t using T.casesOn<;>first|(exact bX this;done)|rfl
theorem Gt.noSum{n:Nat}{t:T}(h:Gt n t):oD t=false:=by
 have:=h.term;clear h;induction t using T.casesOn<;>first|(exact bX this;done)|rfl
theorem Gt.rng{n:Nat}{t:T}(h:Gt n t):t.lo<t.hi:=by
 have r:=h.nd.rng;induction t using T.casesOn with
 |mul a c=>
  have r:0<=a.lo/\a.lo<a.hi/\a.hi<BM:=r;refine A6 (h.mul a c rfl) λh0 _ _=>?_;rw[r8,pL];by_cases hc:0<=c
  ·rw[aH hc];exact gP r.2.1 (by lia)
  ·rw[aK hc];exact Int.mul_lt_mul_of_neg_right r.2.1 (by exact nG.mp hc)
 |num n=>have:=h.term;exact bX this
 |sum l=>have:=h.term;exact bX this
 |var e l h=>exact r.2.1
 |div a b=>exact r.2.1
 |mod a b=>exact r.2.1
theorem rN{c:Nat}{t:T}:dS c (jN t)↔dS c t:=by
 induction t using T.casesOn with
 |mul a c=>show dS _ a↔dS _ (.mul a c);rw[dS]
 |_=>exact Iff.rfl
theorem Gt.letter{n:Nat}{t:T}(h:Gt n t):∃c,J7 c/\dS c t:=by
 refine i8 (h.nd.letter) λc h1 h2=>?_;exact kF c h1 (rN.mp h2)
theorem Gt.tm{n d:Nat}{t:T}(h:Gt n t)(hd:2*n+3<=d):Tm d t/\g8 t≠0:=by
 refine⟨⟨h.term,Ah h.nd.rk h.sz hd,λa c e=>?_⟩,?_⟩
 ·refine A6 (h.mul a c e) λh1 h2 h3=>?_;subst e;have r:0<=a.lo/\a.lo<a.hi/\a.hi<BM:=h.nd.rng;have q:(2:Nat)^1800<2^1900:=by decide+kernel
  exact LK h1 h2 r.1 (g9 (bA (oT (gZ r.1 (by exact cX r.2.1 r.2.2)) h3) q)) (g9 (bA (oT (gZ (by exact aO (aJ r.1 r.2.1)) r.2.2) h3) q))
 ·induction t using T.casesOn with
  |mul a c=>exact(h.mul a c rfl).1
  |_=>show(1:Int)≠0;decide
structure Fm(n:Nat)(ts:List T):Prop where
 gt:∀t∈ts,Gt n t
 ap:ts.Pairwise rM
 len:ts.length<=8
theorem rM.keys{n:Nat}{t u:T}(ht:Gt n t)(h:rM t u):AG t≠AG u:=λe=>by
 refine i8 (ht.letter) λc h1 h2=>?_;have:Ae c (AG t):=(nP h1 _).mpr (rN.mpr h2);rw[e]at this;exact h c h1 h2 (rN.mp ((nP h1 _).mp this))
theorem Fm.keys{n:Nat}:∀{ts:List T},Fm n ts->(ts.map AG).Nodup
 |[],_=>List.nodup_nil
 |t::r,h=>by
  refine oA (f7.mp h.ap) λh1 h2=>?_;refine gK.mpr ⟨λhm=>?_,Fm.keys (ts:=r) ⟨λu hu=>h.gt u (aI _ hu),h2,by have:=h.len;simp at this;exact iG this rfl⟩⟩
  refine i8 (bR.mp hm) λu hu e=>?_;exact(h1 u hu).keys (h.gt t aE) e.symm
theorem nf_lo:∀l:List T,(J6 l).lo=T.los l
 |[]=>by show(T.num 0).lo=0;rw[T.lo]
 |[t]=>by show t.lo=t.lo+0;lia
 |a::b::r=>Fh _
theorem nf_hi:∀l:List T,(J6 l).hi=T.his l
 |[]=>by show(T.num 0).hi=0;rw[T.hi]
 |[t]=>by show t.hi=t.hi+0;lia
 |a::b::r=>Fi _
def fN(F:List T×Int):T:=J6 (b9 F.1 F.2)
theorem xL(F:List T×Int):(fN F).lo=T.los F.1+F.2:=by rw[fN,nf_lo,Aj]
theorem v6(F:List T×Int):(fN F).hi=T.his F.1+F.2:=by rw[fN,nf_hi,Ai]
theorem Ak{n:Nat}{ts:List T}(h:∀t∈ts,Gt n t):T.los ts<=T.his ts/\(ts≠[]->T.los ts<T.his ts):=by
 induction ts with
 |nil=>exact⟨fI 0,λh=>absurd rfl h⟩
 |cons t r ih=>
  have h1:=(h t aE).rng;refine oA (ih λu hu=>h u (aI _ hu)) λi1 _=>?_;show t.lo+T.los r<=t.hi+T.his r/\(_->t.lo+T.los r<t.hi+T.his r);exact⟨by lia,λ_=>by lia⟩
noncomputable def Zn(F:List T×Int):Bool:=F.1.isEmpty&&decide (F.2=0)
theorem Qq{n:Nat}{F:List T×Int}(h:∀t∈F.1,Gt n t):nz (fN F)=!Zn F:=by
 obtain⟨ts,k⟩:=F;unfold nz Zn;rw[xL,v6];induction ts using List.casesOn with
 |nil=>
  show(!decide ((0:Int)+k=0)||!decide ((0:Int)+k=0))=!(true&&decide (k=0));rw[cY,Bool.or_self,qV]
 |cons t r=>
  have:T.los (t::r)<T.his (t::r):=(Ak h).2 (by simp)
  show(!decide (T.his (t::r)+k=0)||!decide (T.los (t::r)+k=0))=true;by_cases hz:T.his (t::r)+k=0
  ·rw[aK (λz=>by lia:¬T.los (t::r)+k=0)];simp
  ·rw[aK hz];rfl
theorem NA:∀{l:List T},(∀t∈l,oD t=false)->l≠[]->kU (J6 l)=l
 |[],_,h=>absurd rfl h
 |[t],h,_=>by
  have:=h t aE;clear h;induction t using T.casesOn<;>first|(exact jA this;done)|rfl
 |_::_::_,_,_=>rfl
theorem GC{F:List T×Int}(h:Zn F=false):b9 F.1 F.2≠[]:=λe=>by
 unfold b9 at e;refine oA (gQ.mp e) λh1 h2=>?_;unfold Zn at h;clear e;rw[h1]at h;induction hk:decide (F.2=0) using Bool.casesOn with
 |true=>rw[hk]at h;exact jA h
 |false=>rw[hk]at h2;cases h2
theorem uS{n:Nat}{F:List T×Int}(h:∀t∈F.1,Gt n t):∀t∈b9 F.1 F.2,oD t=false:=λt ht=>by
 rcases pM ht with ht|rfl
 ·exact(h t ht).noSum
 ·rfl
theorem Jq{t:T}{r:List T}(ht:dO t=true):mE (t::r)=mE r:=by
 induction t using T.casesOn<;>first|(exact bX ht;done)|(show 0+mE r=_;lia)
theorem Jr{n:Nat}{F:List T×Int}(h:∀t∈F.1,Gt n t):(b9 F.1 F.2).filter dO=F.1/\mE (b9 F.1 F.2)=F.2:=by
 obtain⟨ts,k⟩:=F;induction ts with
 |nil=>
  unfold b9;induction hk:decide (k=0) using Bool.casesOn with
  |true=>exact⟨rfl,(aM hk).symm⟩
  |false=>exact⟨rfl,by show k+0=k;lia⟩
 |cons t r ih=>
  refine oA (ih λu hu=>h u (aI _ hu)) λi1 i2=>?_;have ht:=(h t aE).term;refine⟨?_,?_⟩
  ·show(t::b9 r k).filter dO=t::r;rw[cD ht,i1]
  ·show mE (t::b9 r k)=k;rw[Jq ht];exact i2
theorem DS:∀a b:List T,mE (a++b)=mE a+mE b
 |[],b=>by show mE b=0+mE b;lia
 |t::r,b=>by
  obtain⟨x,hx⟩:∃x,∀r,mE (t::r)=x+mE r:=⟨_,λ_=>rfl⟩;rw[kK,hx,hx,DS r b];lia
theorem Al{n:Nat}:∀{Fs:List (List T×Int)},(∀t∈Fs.flatMap (·.1),Gt n t)->
  (∃Gs:List (List T×Int),(Fs.map fN).filter nz=Gs.map fN/\(∀G∈Gs,Zn G=false)/\Gs.flatMap (·.1)=Fs.flatMap (·.1)/\(Gs.map (·.2)).sum=(Fs.map (·.2)).sum/\Gs.length<=Fs.length)
 |[],_=>⟨[],rfl,by simp,rfl,rfl,cA _⟩
 |F::Fs,h=>by
  refine Ep (Al (Fs:=Fs) λt ht=>h t (by rw[b8];exact jV _ ht)) λGs h1 h2 h3 h4 h5=>?_
  have hz:=Qq (F:=F) λt ht=>h t (by rw[b8];exact gG _ ht)
  induction hF:Zn F using Bool.casesOn with
  |true=>
   rw[hF]at hz;obtain⟨e1,e2⟩:=aL.mp hF;have e1:=eI.mp e1;have e2:=aM e2;refine LL Gs ?_ h2 ?_ ?_ (by rw[bL];exact bD (j0 h5))
   ·rw[bO,cV (by rw[hz];decide),h1]
   ·rw[b8,e1,h3];rfl
   ·rw[bO,eJ,e2,h4];lia
  |false=>
   rw[hF]at hz;refine LL (F::Gs) ?_ (λG hG=>?_) ?_ ?_ (by rw[bL,bL];lia)
   ·rw[bO,cD (by rw[hz];rfl),h1];rfl
   ·clear hz h;rcases a7.mp hG with rfl|hG
    ·exact hF
    ·exact h2 G hG
   ·rw[b8,b8,h3]
   ·rw[bO,eJ,h4];rfl
theorem Am{n:Nat}:∀{Gs:List (List T×Int)},(∀t∈Gs.flatMap (·.1),Gt n t)->(∀G∈Gs,Zn G=false)->(Gs.map fN).flatMap kU=Gs.flatMap (λG=>b9 G.1 G.2)/\((Gs.flatMap λG=>b9 G.1 G.2).filter dO=Gs.flatMap (·.1))/\mE (Gs.flatMap λG=>b9 G.1 G.2)=(Gs.map (·.2)).sum/\(Gs.flatMap λG=>b9 G.1 G.2).length<=(Gs.flatMap (·.1)).length+Gs.length
 |[],_,_=>⟨rfl,rfl,rfl,cA _⟩
 |F::Fs,h,hz=>by
  have hF:∀t∈F.1,Gt n t:=λt ht=>h t (by rw[b8];exact gG _ ht)
  refine u7 (Am (Gs:=Fs) (λt ht=>h t (by rw[b8];exact jV _ ht)) λG hG=>hz G (aI _ hG)) λh1 h2 h3 h4=>?_
  obtain⟨q1,q2⟩:=Jr hF;refine B8 ?_ ?_ ?_ ?_
  ·rw[bO,b8,h1,fN,NA (uS hF) (GC (hz F aE)),b8]
  ·rw[b8,jL,q1,h2,b8]
  ·rw[b8,DS,q2,h3,bO,eJ]
  ·have:=iR F.1 F.2;rw[b8,b8,bU,bU,bL];lia
theorem An{n:Nat}{ts:List T}{k:Int}(h:∀t∈ts,Gt n t)(h2:2<=(b9 ts k).length):(T.sum (b9 ts k)).lo<(T.sum (b9 ts k)).hi:=by
 rw[Fh,Fi,Aj,Ai];have f5:ts≠[]:=λe=>by
  rw[e]at h2;have:=(iR [] k).2;simp at this;exact i7 _ (aZ (bT h2 rfl) this)
 have:=(Ak h).2 f5;lia
theorem pC{n d:Nat}{Fs:List (List T×Int)}(hF:Fm n (Fs.flatMap (·.1)))(hl:Fs.length<=20)(hd:2*n+4<=d):
  aB fi d 204 [.lst ((Fs.map fN).map V.node)] []=some (.node (fN (Fs.flatMap (·.1),(Fs.map (·.2)).sum))):=by
 refine jC d (2*n+3) hd λd hd=>?_;obtain⟨d,rfl,_⟩:=up (K:=2) (d:=d) (bT hd rfl);clear right;obtain⟨d,rfl,_⟩:=up (K:=1) (d:=d) (by lia)
 refine Ep (Al hF.gt) λGs h1 h2 h3 h4 h5=>?_;refine u7 (Am (Gs:=Gs) (by rw[h3];exact hF.gt) h2) λq1 q2 q3 q4=>?_
 have eW:=hF.len;have hG:∀G∈Gs,∀t∈G.1,Gt n t:=λG hG t ht=>hF.gt t (by rw[<-h3];exact List.mem_flatMap.mpr ⟨G,hG,ht⟩)
 have hsub:∀G∈Gs,G.1.length<=8:=λG hG=>by
  refine aR ?_ eW;rw[<-h3];exact List.Sublist.length_le (List.sublist_flatten_of_mem (fV (f:=(·.1)) hG))
 rw[c204 d (l:=Fs.map fN) (by rw[aT];exact iG hl rfl)]
 ·rw[h1];clear hsub hG h5 h1 q4;induction Gs using Ka with
  |nil=>
   rw[<-h3,<-h4];rfl
  |one G=>
   rw[<-h3,<-h4];show some (V.node (fN G))=some (V.node (fN ([G].flatMap (·.1),([G].map (·.2)).sum)));rw[show([G].flatMap (·.1),([G].map (·.2)).sum)=G by simp]
  |two G H Gs=>
   show some (V.node (J6 (b9 ((((G::H::Gs).map fN).flatMap kU).filter dO) (mE (((G::H::Gs).map fN).flatMap kU)))))=_;rw[q1,q2,q3,h3,h4];rfl
 ·rw[h1];intro t ht;obtain⟨G,hm,rfl⟩:=bR.mp ht;have hs:=uS (hG G hm);have hl:=iR G.1 G.2;have:=hsub G hm;unfold fN;generalize b9 G.1 G.2=l at hs hl⊢
  match l,hs,hl with
  |[],_,_=>exact .inl rfl
  |[t],hs,_=>exact .inl (hs t aE)
  |a::b::r,hs,hl=>exact .inr ⟨_,rfl,by lia,hs⟩
 ·rw[h1,q1];intro t ht;obtain⟨G,hm,ht⟩:=List.mem_flatMap.mp ht;rcases pM ht with ht|rfl
  ·exact .inr ((hG G hm t ht).tm (hd))
  ·exact .inl ⟨_,rfl⟩
 ·rw[h1,q1,q2,h3];exact hF.keys
 ·rw[h1,q1];clear hsub hG;rw[h3]at q4;lia
 ·rw[h1,q1];intro hl e;clear hsub hG q4 q3 q2 q1 h5 h4 h3 h1;match Gs,h2,hl with
  |G::Gs,h2,_=>
   rw[b8]at e;exact GC (h2 G aE) (gQ.mp e).1
 ·rw[h1,q1,q2,q3,h3,h4];exact λhl=>An hF.gt hl
set_option tactic.hygienic true
theorem uT(cf:cO)(t u:T):cG cf .Add (.node t) (.node u)=cf 100 [.node t,.node u] []:=rfl
theorem sC(cf:cO)(t:T)(y:Int):cG cf .Add (.node t) (.int y)=cf 100 [.node t,.int y] []:=by induction t using T.casesOn<;>rfl
theorem Fj(cf:cO)(t:T)(y:Int):cG cf .Sub (.node t) (.int y)=cf 114 [.node t,.int y] []:=by induction t using T.casesOn<;>rfl
theorem Zo(d:Nat)(t u:T):aB fi (d+1) 100 [.node t,.node u] []=(aB fi d 204 [.lst [.node t,.node u]] []).bind λv=>(a8 v [⟨true,.lst [.node t,.node u]⟩]).bind λq=>some q.1:=by induction u using T.casesOn<;>exact(cR rfl rfl rfl rfl).trans (by kernel_rfl)
theorem Zp(d:Nat)(t:T)(b:Int):aB fi (d+1) 100 [.node t,.int b] []=(aB fi d 331 [.int b] []).bind λv=>(((a8 v []).bind λp=>(some ([],p.2)).map λq=>(p.1::q.1,q.2)).map λq=>(V.node t::q.1,q.2)).bind λv=>((a8 (V.own v.2.length) (v.2++[⟨false,.lst v.1⟩])).bind λp=>(some ([],p.2)).map λq=>(p.1::q.1,q.2)).bind λv=>(aB fi d 204 v.1 []).bind λx=>(a8 x v.2).bind λq=>some q.1:=(cR rfl rfl rfl rfl).trans (by kernel_rfl)
theorem Qr(d:Nat)(t:T)(b:Int):aB fi (d+2) 100 [.node t,.int b] []=(aB fi (d+1) 204 [.lst [.node t,.node (.num b)]] []).bind λx=>(a8 x [⟨true,.lst [.node t,.node (.num b)]⟩]).bind λq=>some q.1:=by
 rw[Zp,xZ];rfl
theorem dY(b:Int):fN ([],b)=.num b:=by
 unfold fN b9;induction h:decide (b=0) using Bool.casesOn with
 |true=>rw[aM h];rfl
 |false=>rfl
theorem Fk{n d:Nat}{F G:List T×Int}(h:Fm n (F.1++G.1))(hd:2*n+5<=d):aB fi d 100 [.node (fN F),.node (fN G)] []=some (.node (fN (F.1++G.1,F.2+G.2))):=by
 refine jC d (2*n+4) hd λd hd=>?_;rw[Zo,show([V.node (fN F),V.node (fN G)]:List V)=([F,G].map fN).map V.node from rfl,pC (n:=n) (by simpa using h) (by simp) (hd)]
 show some (V.node (fN ([F,G].flatMap (·.1),([F,G].map (·.2)).sum)))=_;simp
theorem Ao{n d:Nat}{F:List T×Int}{b:Int}(h:Fm n F.1)(hd:2*n+5<=d):aB fi d 100 [.node (fN F),.int b] []=some (.node (fN (F.1,F.2+b))):=by
 refine jC d (2*n+4) hd λd hd=>?_;obtain⟨d,rfl,_⟩:=up (K:=1) (d:=d) (bT hd rfl);rw[Qr,<-dY b,show([V.node (fN F),V.node (fN ([],b))]:List V)=([F,([],b)].map fN).map V.node from rfl,pC (n:=n) (by simpa using h) (by simp) (hd)]
 show some (V.node (fN ([F,([],b)].flatMap (·.1),([F,([],b)].map (·.2)).sum)))=_;simp
theorem sp114(d:Nat)(t:T)(b:Int):aB fi (d+1) 114 [.node t,.int b] []=(aB fi d 100 [.node t,.int (-b)] []).bind λv=>(a8 v []).bind λq=>some q.1:=by induction t using T.casesOn<;>exact(cR rfl rfl rfl rfl).trans (by kernel_rfl)
theorem Zq{n d:Nat}{F:List T×Int}{b:Int}(h:Fm n F.1)(hd:2*n+6<=d):aB fi d 114 [.node (fN F),.int b] []=some (.node (fN (F.1,F.2+ -b))):=by
 refine jC d (2*n+5) hd λd hd=>?_;rw[sp114,Ao h (hd)];rfl
theorem R0(d:Nat)(t:T)(b:Int):aB fi (d+1) 156 [.node t,.int b] []=bif decide (b=0)then(aB fi d 331 [V.int 0] []).bind λv=>(a8 v []).bind λv=>some v.1
else
 bif decide (b=1)then some (V.node t)
 else
  (aB fi d 471 [V.node t,V.int b] []).bind λv=>
   ((a8 v []).bind λp=>(some ([],p.2)).map (λq=>(p.fst::q.fst,q.snd))).bind λv=>
    (aB fi d 347 v.1 []).bind λv_1=>(a8 v_1 v.2).bind λv=>some v.1:=(cR rfl rfl rfl rfl).trans (by kernel_rfl)
theorem sp307(d:Nat)(c b:Int):aB fi (d+1) 307 [.node (.num c),.int b] []=(eY .Mult c b).bind λv=>((a8 v []).bind λp=>(some ([],p.2)).map λq=>(p.1::q.1,q.2)).bind λv=>(aB fi d 331 v.1 []).bind λx=>(a8 x v.2).bind λq=>some q.1:=(cR rfl rfl rfl rfl).trans (by kernel_rfl)
theorem sp432(d:Nat)(a:T)(c b:Int):aB fi (d+1) 432 [.node (.mul a c),.int b] []=(eY .Mult c b).bind λv=>(cG (aB fi d) .Mult (.node a) v).bind λv=>(a8 v []).bind λq=>some q.1:=(cR rfl rfl rfl rfl).trans (by kernel_rfl)
noncomputable def DT:X:=.bin .Mult (.var 0) (.var 2)
theorem sp612(d:Nat)(l:List T)(b:Int):aB fi (d+1) 612 [.node (.sum l),.int b] []=((bif Nat.ble (l.map V.node).length 1000 then some (l.map V.node,[])else none).bind λp=>(dH (bJ (aB fi d) 37) [0] [] [(1,.node (.sum l)),(2,.int b)] (fR (bJ (aB fi d) 37) DT) p.1 p.2).map λq=>gT (.lst q.1) q.2).bind λv=>
  ((a8 v.1 v.2).bind λp=>(some ([],p.2)).map λq=>(p.1::q.1,q.2)).bind λv=>(aB fi d 204 v.1 []).bind λx=>(a8 x v.2).bind λq=>some q.1:=(cR rfl rfl rfl rfl).trans (by kernel_rfl)
theorem mI{a b:Int}(h:jQ (a*b)=true):eY .Mult a b=some (.int (a*b)):=by
 show(bif jQ (a*b)then some (V.int (a*b))else none)=_;rw[h];rfl
noncomputable def tm(a:T)(c:Int):T:=bif decide (c=1)then a else .mul a c
theorem pN(cf:cO){a:T}(h:j6 a=true)(c:Int):cG cf .Mult (.node a) (.int c)=cf 156 [.node a,.int c] []:=by induction a using T.casesOn<;>first|(exact bX h;done)|rfl
theorem Ch{n d:Nat}{a:T}{c:Int}(h:Nd n a)(hc:c≠0)(hb:c.natAbs<2^900)(hd:3<=d):aB fi d 156 [.node a,.int c] []=some (.node (tm a c)):=by
 refine jC d 2 hd λd hd=>?_;refine jC d 1 (hd) λd _=>?_;have r:=h.rng;have q:(2:Nat)^1800<2^1900:=by decide+kernel
 rw[R0,cF (aK hc ..)];unfold tm;induction h1:decide (c=1) using Bool.casesOn with
 |true=>rfl
 |false=>
  rw[bG,c471 d r.1 (g9 (bA (oT (gZ r.1 (by exact cX r.2.1 r.2.2)) hb) q)) (g9 (bA (oT (gZ (by exact aO (aJ r.1 r.2.1)) r.2.2) hb) q))]
  show(aB fi (d+1) 347 [.node (.mul a c)] []).bind _=_;rw[Qh d]
  ·rfl
  ·rw[r8,pL];by_cases h0:0<=c
   ·rw[aH h0];exact gP r.2.1 (by lia)
   ·rw[aK h0];exact Int.mul_lt_mul_of_neg_right r.2.1 (by exact nG.mp h0)
theorem Qs(d:Nat)(a:T):aB fi (d+2) 156 [.node a,.int 0] []=some (.node (.num 0)):=by
 rw[R0];show(aB fi (d+1) 331 [.int 0] []).bind _=_;rw[xZ];rfl
def scl(c:Int)(t:T):T:=tm (jN t) (g8 t*c)
theorem Fl{n:Nat}{t:T}{c:Int}(h:Gt n t)(hc:g8 t*c≠0)(hb:(g8 t*c).natAbs<2^900):Gt n (scl c t):=by
 unfold scl tm;induction h1:decide (g8 t*c=1) using Bool.casesOn with
 |true=>
  have ha:=h.at_;have e:jN (jN t)=jN t:=by revert ha;induction t using T.casesOn<;>first|(intro;rfl)|(rename_i a _;clear h1 hb hc h;induction a using T.casesOn<;>first|(intro;rfl)|(intro h;exact bX h))
  rw[bV];refine⟨by rw[e];exact h.nd,by rw[e];exact ha,λa k z=>?_,by rw[e];exact h.sz⟩
  rw[z]at ha;exact bX ha
 |false=>
  exact⟨h.nd,h.at_,λa k z=>by cases z;exact⟨hc,jJ h1,hb⟩,h.sz⟩
theorem qE{t:T}{c:Int}(h:j6 (jN t)=true):jN (scl c t)=jN t/\g8 (scl c t)=g8 t*c:=by
 unfold scl tm;induction h1:decide (g8 t*c=1) using Bool.casesOn with
 |true=>
  rw[bV,aM h1];generalize jN t=a at h;induction a using T.casesOn<;>first|(exact bX h;done)|exact⟨rfl,rfl⟩
 |false=>exact⟨rfl,rfl⟩
set_option tactic.hygienic false
theorem fD(t:T):fN ([t],0)=t:=by
 unfold fN b9;show J6 ([t]++(bif decide ((0:Int)=0)then[]else _))=t;rw[aH rfl];rfl
theorem tF{n:Nat}{t:T}(h:Gt n t)(hm:∀a c,t≠.mul a c):jN t=t/\g8 t=1:=by
 induction t using T.casesOn with
 |mul a c=>exact absurd rfl (hm a c)
 |_=>exact⟨rfl,rfl⟩
theorem mul_t{n d:Nat}{t:T}{c:Int}(h:Gt n t)(hc:c≠0)(hb:(g8 t*c).natAbs<2^900)(hd:4<=d):cG (aB fi d) .Mult (.node t) (.int c)=some (.node (scl c t)):=by
 have q:(2:Nat)^900<2^1900:=by decide+kernel
 by_cases hm:∃a k,t=.mul a k
 ·obtain⟨a,k,rfl⟩:=hm;refine jC d 3 hd λd hd=>?_;refine A6 (h.mul a k rfl) λh0 _ _=>?_;have hb:(k*c).natAbs<2^900:=hb;show aB fi (d+1) 432 [.node (.mul a k),.int c] []=_;rw[sp432,bS (mI (g9 (bA hb q)) ..),pN (a:=a) _ h.at_,Ch (a:=a) h.nd (n7 h0 hc) hb (hd)];rfl
 ·obtain⟨e1,e2⟩:=tF h λa k e=>hm ⟨a,k,e⟩;have ha:=h.at_;have hn:=h.nd;unfold scl;rw[e1]at ha hn⊢;rw[e2,lX]at hb⊢;rw[pN _ ha,Ch hn hc hb (bT hd rfl)]
theorem Ci{d:Nat}{k c:Int}(hb:(k*c).natAbs<2^1900)(hd:2<=d):cG (aB fi d) .Mult (.node (.num k)) (.int c)=some (.node (.num (k*c))):=by
 refine jC d 1 hd λd hd=>?_;refine jC d 0 (hd) λd _=>?_;show aB fi (d+1+1) 307 [.node (.num k),.int c] []=_;rw[sp307,mI (g9 hb)];show(aB fi (d+1) 331 [.int (k*c)] []).bind _=_;rw[xZ];rfl
theorem Qt(d:Nat)(v:V)(u:T)(c:Int):fR (bJ (aB fi d) 37) DT [(1,v),(2,.int c),(0,.node u)] []=((cG (aB fi d) .Mult (.node u) (.int c)).bind λx=>some (x,([]:Cs))).bind λx=>(a8 x.1 x.2).map λy=>([y.1],y.2):=by
 show((bJ (aB fi d) 37).ev DT [(1,v),(2,.int c),(0,.node u)] []).bind _=_;rw[DJ];kernel_rfl
theorem Bs{d:Nat}{v:V}{c:Int}{g:T->T}:∀{l:List T},(∀u∈l,cG (aB fi d) .Mult (.node u) (.int c)=some (.node (g u)))->dH (bJ (aB fi d) 37) [0] [] [(1,v),(2,.int c)] (fR (bJ (aB fi d) 37) DT) (l.map V.node) []=some ((l.map g).map V.node,[])
 |[],_=>rfl
 |u::r,h=>by
  show((fR (bJ (aB fi d) 37) DT [(1,v),(2,.int c),(0,.node u)] []).bind λq=>(dH (bJ (aB fi d) 37) [0] [] [(1,v),(2,.int c)] (fR (bJ (aB fi d) 37) DT) (r.map V.node) q.2).map λz=>(q.1++z.1,z.2))=_;rw[Qt,h u aE];show(dH (bJ (aB fi d) 37) [0] [] [(1,v),(2,.int c)] (fR (bJ (aB fi d) 37) DT) (r.map V.node) []).map _=_;rw[Bs λu hu=>h u (aI _ hu)];rfl
theorem rO{x:Nat}{c:Int}{t:T}(h:j6 (jN t)=true):dS x (scl c t)↔dS x t:=by
 rw[<-rN,(qE h).1,rN]
theorem Fm.scl{n:Nat}{ts:List T}{c:Int}(h:Fm n ts)(hc:c≠0)(hb:∀t∈ts,(g8 t*c).natAbs<2^900):Fm n (ts.map (scl c)):=by
 refine⟨λu hu=>?_,?_,by rw[aT];exact h.len⟩
 ·obtain⟨t,ht,rfl⟩:=bR.mp hu;exact Fl (h.gt t ht) (n7 ((h.gt t ht).tm (d:=2*n+3) (cA _)).2 hc) (hb t ht)
 ·rw[qK];refine h.ap.imp_of_mem λ{a b} ha hb' q x hx h1 h2=>q x hx ((rO (h.gt a ha).at_).mp h1) ((rO (h.gt b hb').at_).mp h2)
def w4(c:Int):T->List T×Int
 |.num k=>([],k*c)
 |t=>([scl c t],0)
theorem Bt{c:Int}{t:T}(h:dO t=true):w4 c t=([scl c t],0):=by induction t using T.casesOn<;>first|(exact bX h;done)|rfl
theorem DU{c:Int}{k:Int}:∀{ts:List T},(∀t∈ts,dO t=true)->((b9 ts k).map (w4 c)).flatMap (·.1)=ts.map (scl c)/\(((b9 ts k).map (w4 c)).map (·.2)).sum=k*c
 |[],_=>by
  unfold b9;induction h:decide (k=0) using Bool.casesOn with
  |true=>rw[aM h];simp
  |false=>simp[w4]
 |t::r,h=>by
  obtain⟨h1,h2⟩:=DU (c:=c) (k:=k) (ts:=r) λu hu=>h u (aI _ hu);show((w4 c t::(b9 r k).map (w4 c)).flatMap (·.1))=_/\((w4 c t::(b9 r k).map (w4 c)).map (·.2)).sum=_;rw[Bt (h t aE),b8,h1,bO (f:=λx:List T×Int=>x.2),eJ,h2];exact⟨rfl,by show 0+k*c=_;lia⟩
theorem DV{n d:Nat}{F:List T×Int}{c:Int}(h:Fm n F.1)(hc:c≠0)(hb:∀t∈F.1,(g8 t*c).natAbs<2^900)(hk:(F.2*c).natAbs<2^900)(hd:2*n+5<=d):
  cG (aB fi d) .Mult (.node (fN F)) (.int c)=some (.node (fN (F.1.map (scl c),F.2*c))):=by
 have q:(2:Nat)^900<2^1900:=by decide+kernel
 obtain⟨ts,k⟩:=F;have mem:∀d',4<=d'->∀u∈b9 ts k,cG (aB fi d') .Mult (.node u) (.int c)=some (.node (fN (w4 c u))):=λd' hd' u hu=>by
  rcases pM hu with hu|rfl
  ·rw[Bt (h.gt u hu).term,fD,mul_t (h.gt u hu) hc (hb u hu) hd']
  ·rw[Ci (bA hk q) (bT hd' rfl)];show _=some (V.node (fN ([],k*c)));rw[dY]
 obtain⟨q1,q2⟩:=DU (c:=c) (k:=k) λt ht=>(h.gt t ht).term;have hl:=iR ts k;have eW:ts.length<=8:=h.len;have hg:=h.scl hc hb;unfold fN;show cG (aB fi d) .Mult (.node (J6 (b9 ts k))) (.int c)=some (.node (fN (ts.map (scl c),k*c)));rw[<-q1]at hg⊢;rw[<-q2];generalize b9 ts k=l at mem hl hg⊢;induction l using Ka with
 |nil=>
  show cG (aB fi d) .Mult (.node (.num 0)) (.int c)=_;rw[Ci (by rw[mL];decide+kernel) (bT hd rfl),mL]
  show _=some (V.node (fN ([],0)));rw[dY]
 |one u=>
  show cG (aB fi d) .Mult (.node u) (.int c)=_;rw[mem d (bT hd rfl) u aE];simp
 |two a b r=>
  refine jC d (2*n+4) hd λd hd=>?_;show aB fi (d+1) 612 [.node (.sum (a::b::r)),.int c] []=_;rw[sp612,aT,aV (by simp at hl⊢;exact bD (bA (d7 hl.2) (iM eW rfl)))]
  show((dH (bJ (aB fi d) 37) [0] [] [(1,.node (.sum (a::b::r))),(2,.int c)] (fR (bJ (aB fi d) 37) DT) ((a::b::r).map V.node) []).map _).bind _=_;rw[Bs (g:=λu=>fN (w4 c u)) λu hu=>mem d (bT hd rfl) u hu];show(aB fi d 204 [.lst (((a::b::r).map λu=>fN (w4 c u)).map V.node)] []).bind _=_;rw[show((a::b::r).map λu=>fN (w4 c u))=((a::b::r).map (w4 c)).map fN by rw[iW];rfl,pC (n:=n) hg (by rw[aT];simp at hl⊢;exact bD (bA (d7 hl.2) (iM eW rfl))) (hd)]
  rfl
noncomputable def Zr:List Y:=[Y.asg2 41 2 (X.var 2) (X.bin .Mod (X.var 41) (X.var 2))]
theorem sp35(d:Nat)(a b:Int):aB fi (d+1) 35 [.int a,.int b] []=nO (mW (bJ (aB fi d) 39) (.var 2) Zr 2000 [(41,.int a),(2,.int b)] []) kR λenv cs=>dR (R4 d) (f35.body.drop 1) env cs kR kN:=(cR rfl rfl rfl rfl).trans (by kernel_rfl)
theorem NB(d n:Nat)(a b:Int)(hb:b≠0)(hf:jQ b=true):mW (bJ (aB fi d) 39) (.var 2) Zr (n+1) [(41,.int a),(2,.int b)] []=mW (bJ (aB fi d) 39) (.var 2) Zr n [(41,.int b),(2,.int (Int.fmod a b))] []:=by
 show(bif !decide (b=0)then(uN (bJ (aB fi d) 39) Zr [(41,.int a),(2,.int b)] []).bind _ else _)=_;rw[aK hb,show uN (bJ (aB fi d) 39) Zr [(41,.int a),(2,.int b)] []=(bif !decide (b=0)&&jQ b then some (V.int (Int.fmod a b))else none).bind λv=>some (none,[(41,.int b),(2,v)],[])from(Bk ..).trans (by kernel_rfl),aK hb,hf]
 rfl
theorem R1(d n:Nat)(a:Int):mW (bJ (aB fi d) 39) (.var 2) Zr (n+1) [(41,.int a),(2,.int 0)] []=some (none,[(41,.int a),(2,.int 0)],[]):=by kernel_rfl
theorem NC(d:Nat):∀(k n:Nat) (a b:Nat),b<2^k->k<=900->2*k+1<=n->∃g:Nat,g=Nat.gcd a b/\mW (bJ (aB fi d) 39) (.var 2) Zr n [(41,.int a),(2,.int b)] []=some (none,[(41,.int g),(2,.int 0)],[])
 |k,n,a,b,hb,hk,hn=>by
  obtain⟨n,rfl,hn⟩:=up (K:=2*k) (d:=n) hn;by_cases h0:b=0
  ·clear hb;subst h0;exact kF a ((Nat.gcd_zero_right a).symm) (R1 d n a)
  ·have ft:∀m:Nat,m<=b->jQ (m:Int)=true:=λm hm=>g9 (by
    show(m:Int).natAbs<_;rw[Int.natAbs_natCast];exact aP hm (bA (aZ hb (eQ (by decide) hk)) (by decide+kernel)))
   have fm:∀x y:Nat,Int.fmod (x:Int) (y:Int)=((x%y:Nat):Int):=λx y=>by rw[aS _ (g5 y)];rfl
   match k,hb,hk,hn with
   |0,hb,_,_=>simp at hb;exact absurd hb h0
   |k+1,hb,hk,hn=>
    have hlt:a%b<b:=Nat.mod_lt _ (lS h0);rw[NB d n a b (by simpa using h0) (ft b (cA _)),fm]
    by_cases h1:a%b=0
    ·refine jC n 0 (by exact bT (by assumption) (by rfl)) λn _=>?_
     rw[h1];refine kF b ?_ (R1 d n b);rw[oX,Nat.gcd_rec,h1,Nat.gcd_zero_left]
    ·obtain⟨n,rfl,_⟩:=up (K:=0) (d:=n) (by exact bT (by assumption) (by rfl))
     rw[NB d n b (a%b:Nat) (λz=>h1 (Int.ofNat_eq_zero.mp z)) (ft _ (bD hlt)),fm];have h2:b%(a%b)<2^k:=by
      have q1:b%(a%b)<a%b:=Nat.mod_lt _ (lS h1);have q2:b%(a%b)<=b-a%b:=by
       have:=Nat.mod_add_div b (a%b);have h3:1<=b/(a%b):=Nat.div_pos (bD hlt) (lS h1);have h4:(a%b)*1<=(a%b)*(b/(a%b)):=d5 _ h3;lia
      clear hn right h1 hk;rw[Nat.pow_succ]at hb;exact Kb hb hlt q1 q2
     refine i8 (NC d k n (a%b) (b%(a%b)) h2 (by exact bD (d7 hk)) (by lia)) λg hg e=>?_
     refine kF g ?_ e;rw[hg,oX,<-Nat.gcd_rec,oX (a%b) b,oX b (a%b),<-Nat.gcd_rec,oX]
theorem ND{d:Nat}{a b:Nat}(hb:b<2^900)(hd:1<=d):aB fi d 35 [.int a,.int b] []=some (.int (Nat.gcd a b:Nat)):=by
 refine jC d 0 hd λd _=>?_;refine i8 (NC d 900 2000 a b hb (cA _) (by lia)) λg hg e=>?_
 rw[sp35,e,hg];show dR (R4 d) (f35.body.drop 1) [(41,.int (Nat.gcd a b:Nat)),(2,.int 0)] [] kR kN=_;exact(show _=some (V.int (((Nat.gcd a b:Nat):Int).natAbs:Nat)) by kernel_rfl).trans (by rw[Int.natAbs_natCast])
def u6(d:Nat)(t:T)(b:Int):Option V:=(gU t .floordiv).bind λf=>aB fi d f [.node t,.int b] []
theorem oU(d:Nat)(t:T)(b:Int):cG (aB fi d) .FloorDiv (.node t) (.int b)=u6 d t b:=rfl
noncomputable def nA(t:T)(b:Int)(f:Bool):Ev:=[(1,.node t),(2,.int b),(7,.bool f)]
def m185:List Y:=match xX.body.drop 2 with
 |Y.ite _ a _::_=>a
 |_=>[]
def NE:List Y:=match xX.body.drop 4 with
 |Y.ite _ a _::_=>a
 |_=>[]
theorem w5(d:Nat)(t:T)(b:Int):aB fi (d+1) 185 [.node t,.int b] []=dR (R4 d) xX.body (nA t b true) [] kR kN:=cR rfl rfl rfl rfl
theorem NF(d:Nat)(t:T)(b:Int)(f:Bool):aB fi (d+1) 185 [.node t,.int b,.bool f] []=dR (R4 d) xX.body (nA t b f) [] kR kN:=cR rfl rfl rfl rfl
theorem Zs(d:Nat)(t:T)(b:Int)(f:Bool):aB fi (d+1) 185 [.node t,.int b] [(7,.bool f)]=dR (R4 d) xX.body (nA t b f) [] kR kN:=cR rfl rfl rfl rfl
theorem R2(d:Nat)(t:T)(b:Int)(f:Bool):dR (R4 d) xX.body (nA t b f) [] kR kN=
  bif !decide (b=0)then bif decide (b<0)then dR (m6 (aB fi d) 39) m185 (nA t b f) [] kR (λenv cs=>dR (R4 d) (xX.body.drop 3) env cs kR kN)
   else bif decide (b=1)then some (.node t)else bif decide (t.lo<0)then dR (m6 (aB fi d) 39) NE (nA t b f) [] kR (λenv cs=>dR (R4 d) (xX.body.drop 5) env cs kR kN)
   else(aB fi d 512 [V.node t,V.int b] []).bind λv=>((a8 v []).bind λp=>(some ([],p.2)).map (λq=>(p.fst::q.fst,q.snd))).bind λv=>(aB fi d 347 v.1 []).bind λv_1=>(a8 v_1 v.2).bind λv=>some v.1
  else none:=by kernel_rfl
theorem Zt(d:Nat)(t:T)(b:Int)(f:Bool)(K:Ev->Cs->Option V):dR (m6 (aB fi d) 39) NE (nA t b f) [] kR K=(eY .FloorDiv t.lo b).bind λo=>dR (m6 (aB fi d) 39) (NE.drop 1) (nA t b f++[(25,o)]) [] kR K:=by kernel_rfl
theorem Zu(d:Nat)(t:T)(b o:Int)(f:Bool)(K:Ev->Cs->Option V):dR (m6 (aB fi d) 39) (NE.drop 1) (nA t b f++[(25,.int o)]) [] kR K=(eY .Mult (-o) b).bind λm=>(cG (aB fi d) .Add (.node t) m).bind λv=>bif !jR v .floordiv []then none else Ab (aB fi d) v .floordiv [.int b] [(7,.bool false)] [] λp cs=>(cG (aB fi d) .Add p (.int o)).bind λv=>(a8 v cs).bind λq=>some q.1:=by kernel_rfl
theorem nB{a b:Int}(hb:b≠0)(hf:jQ b=true):eY .FloorDiv a b=some (.int (Int.fdiv a b)):=by
 show(bif !decide (b=0)&&jQ b then some (V.int (Int.fdiv a b))else none)=_;rw[aK hb,hf];rfl
theorem jU{a b:Int}(hb:b≠0)(hf:jQ b=true):eY .Mod a b=some (.int (Int.fmod a b)):=by
 show(bif !decide (b=0)&&jQ b then some (V.int (Int.fmod a b))else none)=_;rw[aK hb,hf];rfl
theorem nD{x y b:Int}(hb:0<b)(h:x<=y):Int.fdiv x b<=Int.fdiv y b:=by
 rw[aG _ (aO hb),aG _ (aO hb)];exact Int.ediv_le_ediv hb h
noncomputable def Os(t:T)(b:Int):T:=bif decide (Int.fdiv t.lo b=Int.fdiv t.hi b)then .num (Int.fdiv t.lo b)else .div t b
theorem pO{d:Nat}{t:T}{b:Int}{f:Bool}(h0:0<=t.lo)(hlh:t.lo<=t.hi)(hb:2<=b)(hf:jQ b=true)(hd:2<=d):dR (R4 d) xX.body (nA t b f) [] kR kN=some (.node (Os t b)):=by
 refine jC d 1 hd λd _=>?_;refine jC d 0 (by assumption) λd _=>?_
 rw[R2,aK (by exact aQ (iB hb rfl):¬b=0),aK (by exact jK.mpr (iA hb rfl):¬b<0),aK (by exact aQ (iB hb rfl):¬b=1),aK (by exact jK.mpr h0:¬t.lo<0),c512 (d+1) h0 (by exact aQ (iB hb rfl)) hf]
 show(aB fi (d+1+1) 347 [.node (.div t b)] []).bind _=_;unfold Os;have hm:=nD (b:=b) (by exact iB hb rfl) hlh
 by_cases h:Int.fdiv t.lo b=Int.fdiv t.hi b
 ·rw[aH h,c347n d (by rw[r9,tA];exact h),r9];rfl
 ·rw[aK h,Qh (d+1) (by rw[r9,tA];exact CR hm h)];rfl
theorem tG(d:Nat)(t:T)(f:Bool):dR (R4 d) xX.body (nA t 1 f) [] kR kN=some (.node t):=by kernel_rfl
theorem GD{d:Nat}{n b:Int}{f:Bool}(h0:0<=n)(hb:1<=b)(hf:jQ b=true)(hd:2<=d):dR (R4 d) xX.body (nA (.num n) b f) [] kR kN=some (.node (.num (Int.fdiv n b))):=by
 by_cases h1:b=1
 ·clear hf hb;subst h1;rw[tG,show Int.fdiv n 1=n by rw[aG _ (by decide),Int.ediv_one]]
 ·have el:(T.num n).lo=n:=by rw[T.lo]
  have eh:(T.num n).hi=n:=by rw[T.hi]
  rw[pO (by rw[el];exact h0) (by rw[el,eh];exact fI n) (by lia) hf hd]
  unfold Os;rw[el,eh,aH rfl];rfl
theorem Fm.nil(n:Nat):Fm n []:=⟨by simp,.nil,by simp⟩
theorem Cj{d:Nat}{n b:Int}(hb:1<=b)(hf:jQ b=true)(hf2:jQ (-Int.fdiv n b*b)=true)(hd:8<=d):aB fi d 185 [.node (.num n),.int b] []=some (.node (.num (Int.fdiv n b))):=by
 refine jC d 7 hd λd _=>?_;rw[w5];by_cases h0:0<=n
 ·exact GD h0 hb hf (by exact bT (by assumption) (by rfl))
 by_cases h1:b=1
 ·clear hf2 hf hb;subst h1;rw[tG,show Int.fdiv n 1=n by rw[aG _ (by decide),Int.ediv_one]]
 have el:(T.num n).lo=n:=by rw[T.lo]
 have e2:Int.fdiv n b=n/b:=aG _ (by exact iA hb rfl)
 have e3:=dB n b;have e4:=eE n (by exact aQ (iB hb rfl):b≠0)
 have e5:=dW n (by exact hb:0<b)
 rw[R2,aK (by exact aQ (iB hb rfl):¬b=0),aK (by exact jK.mpr (iA hb rfl):¬b<0),aK h1,aH (by rw[el];exact nG.mp h0:(T.num n).lo<0)]
 show dR (m6 (aB fi d) 39) NE (nA (.num n) b true) [] kR _=_;rw[Zt,bS (nB (by exact aQ (iB hb rfl)) hf ..),el,Zu,bS (mI hf2 ..),sC,<-dY n,bS (Ao (n:=0) (F:=([],n)) (Fm.nil 0) (by exact bT (by assumption) (by rfl)) ..)]
 have e6:n+ -Int.fdiv n b*b=n%b:=by
  rw[e2,Int.neg_mul,d8 (n/b) b];lia
 show(bif !jR (.node (fN ([],n+ -Int.fdiv n b*b))) .floordiv []then none else _)=_;rw[dY,e6];refine jC d 6 (by assumption) λd _=>?_
 show(aB fi (d+1) 185 [.node (.num (n%b)),.int b] [(7,.bool false)]).bind _=_;rw[Zs,bS (GD e4 hb hf (by exact bT (by assumption) (by rfl)) ..)]
 show(cG (aB fi (d+1)) .Add (.node (.num (Int.fdiv (n%b) b))) (.int (Int.fdiv n b))).bind _=_;rw[sC,<-dY,Ao (n:=0) (F:=([],Int.fdiv (n%b) b)) (Fm.nil 0) (by lia)]
 show some (V.node (fN ([],Int.fdiv (n%b) b+Int.fdiv n b)))=_;rw[dY,aG (n%b) (by exact iA hb rfl:0<=b),cS e4 e5,cY,<-dY]
theorem NG(d:Nat)(t:T)(c b:Int):aB fi (d+1) 488 [.node (.div t c),.int b] []=(eY .Mult c b).bind λv=>(cG (aB fi d) .FloorDiv (.node t) v).bind λv=>(a8 v []).bind λq=>some q.1:=(cR rfl rfl rfl rfl).trans (by kernel_rfl)
theorem R3(d:Nat)(t:T)(c b:Int):aB fi (d+1) 536 [.node (.mod t c),.int b] []=(eY .Mod c b).bind λv=>(j4 (aB fi d) .Eq v (.int 0)).bind λv=>(eM v []).bind λv=>
   bif v then(u6 d t b).bind λv=>(eY .FloorDiv c b).bind λw=>(cG (aB fi d) .Mod v w).bind λv=>(a8 v []).bind λq=>some q.1
   else(aB fi d 185 [V.node (t.mod c),V.int b,V.bool true] []).bind λv=>(a8 v []).bind λv=>some v.1:=(cR rfl rfl rfl rfl).trans (by kernel_rfl)
theorem R5(d:Nat)(t:T)(c b:Int):aB fi (d+1) 440 [.node (.mul t c),.int b] []=(eY .Mod c b).bind λv=>(j4 (aB fi d) .Eq v (.int 0)).bind λv=>(eM v []).bind λv=>
   bif v then(eY .FloorDiv c b).bind λv=>(cG (aB fi d) .Mult (V.node t) v).bind λv=>(a8 v []).bind λv=>some v.1
   else(eY .Mod b c).bind λv=>(j4 (aB fi d) .Eq v (.int 0)).bind λv=>(eM v []).bind λv=>
    bif v then bif decide (0<c)then(eY .FloorDiv b c).bind λv=>(cG (aB fi d) .FloorDiv (V.node t) v).bind λv=>(a8 v []).bind λv=>some v.1
      else(aB fi d 185 [V.node (t.mul c),V.int b,V.bool false] []).bind λv=>(a8 v []).bind λv=>some v.1
    else(aB fi d 185 [V.node (t.mul c),V.int b,V.bool false] []).bind λv=>(a8 v []).bind λv=>some v.1:=(cR rfl rfl rfl rfl).trans (by kernel_rfl)
theorem NH(d:Nat)(t:T)(b:Int):aB fi (d+1) 199 [.node t,.int b] []=bif decide (0<b)then
 bif decide (b=1)then(aB fi d 331 [V.int 0] []).bind λv=>(a8 v []).bind λv=>some v.1
 else
  (eY .FloorDiv t.lo b).bind λv=>(eY .FloorDiv t.hi b).bind λv_1=>(j4 (aB fi d) .Eq v v_1).bind λv=>(eM v []).bind λv=>
      bif v then
       (eY .FloorDiv t.lo b).bind λv=>(cG (aB fi d) .Mult (V.int b) v).bind λv=>(cG (aB fi d) .Sub (V.node t) v).bind λv=>(a8 v []).bind λv=>some v.1
      else
       bif decide (t.lo<0)then
        (eY .FloorDiv t.lo b).bind λv=>(cG (aB fi d) .Mult v (V.int b)).bind λv=>(cG (aB fi d) .Sub (V.node t) v).bind λv=>(cG (aB fi d) .Mod v (V.int b)).bind λv=>(a8 v []).bind λv=>some v.1
       else
        (aB fi d 560 [V.node t,V.int b] []).bind λv=>((a8 v []).bind λp=>(some ([],p.2)).map (λq=>(p.fst::q.fst,q.snd))).bind
          λv=>(aB fi d 347 v.1 []).bind λv_2=>(a8 v_2 v.2).bind λv=>some v.1
else none:=(cR rfl rfl rfl rfl).trans (by kernel_rfl)
theorem t6(d:Nat)(t:T):aB fi (d+2) 199 [.node t,.int 1] []=some (.node (.num 0)):=by
 rw[NH];show(aB fi (d+1) 331 [.int 0] []).bind _=_;rw[xZ];rfl
theorem yF{d:Nat}{t:T}{m:Int}(h0:0<=t.lo)(hlh:t.lo<=t.hi)(hm:2<=m)(hf:jQ m=true)(h2:Int.fdiv t.lo m<Int.fdiv t.hi m)(hd:2<=d):aB fi d 199 [.node t,.int m] []=some (.node (.mod t m)):=by
 refine jC d 1 hd λd _=>?_;refine jC d 0 (by assumption) λd _=>?_
 conv=>lhs;rw[NH,aH (by exact iB hm rfl:0<m),aK (by exact aQ (iB hm rfl):¬m=1),nB (by exact aQ (iB hm rfl)) hf,nB (by exact aQ (iB hm rfl)) hf,bV,bG,aF,aF,mG,aF,fU,aF,aK (by exact iV h2:¬Int.fdiv t.lo m=Int.fdiv t.hi m),aK (by exact jK.mpr h0:¬t.lo<0),c560 d h0 (by exact aQ (iB hm rfl)) hf]
 show(aB fi (d+1) 347 [.node (.mod t m)] []).bind _=_;obtain⟨e1,e2⟩:=m9 (by exact iB hm rfl) h2 hlh
 rw[Qh d (by rw[uQ,uR,e1,e2];lia)];rfl
theorem yG{n d:Nat}{F:List T×Int}{m:Int}(h:Fm n F.1)(hm:2<=m)(hf:jQ m=true)(he:Int.fdiv (fN F).lo m=Int.fdiv (fN F).hi m)(hf2:jQ (m*Int.fdiv (fN F).lo m)=true)(hd:2*n+7<=d):
  aB fi d 199 [.node (fN F),.int m] []=some (.node (fN (F.1,F.2+ -(m*Int.fdiv (fN F).lo m)))):=by
 refine jC d (2*n+6) hd λd _=>?_;conv=>lhs;rw[NH,aH (by exact iB hm rfl:0<m),aK (by exact aQ (iB hm rfl):¬m=1),nB (by exact aQ (iB hm rfl)) hf,nB (by exact aQ (iB hm rfl)) hf,bV,bG,aF,aF,mG,aF,fU,aF,aH he,bV,aF,
  show cG (aB fi d) .Mult (.int m) (.int (Int.fdiv (fN F).lo m))=some (.int (m*Int.fdiv (fN F).lo m))from mI hf2,aF,Fj,Zq h (by assumption)]
 rfl
mutual
noncomputable def T.vc:T->Nat
 |.num _=>0
 |.var ..=>1
 |.mul a _=>a.vc
 |.div a _=>a.vc
 |.mod a _=>a.vc
 |.sum l=>T.vcs l
noncomputable def T.vcs:List T->Nat
 |[]=>0
 |t::r=>t.vc+T.vcs r
end
theorem vcs_n:T.vcs []=0:=rfl
theorem vcs_c{t:T}{r:List T}:T.vcs (t::r)=t.vc+T.vcs r:=rfl
theorem vc_num{n:Int}:(T.num n).vc=0:=rfl
theorem vc_var{e:Str}{l h:Int}:(T.var e l h).vc=1:=rfl
theorem vc_mul{a:T}{b:Int}:(T.mul a b).vc=a.vc:=rfl
theorem vc_div{a:T}{b:Int}:(T.div a b).vc=a.vc:=rfl
theorem vc_mod{a:T}{b:Int}:(T.mod a b).vc=a.vc:=rfl
theorem vc_sum{l:List T}:(T.sum l).vc=T.vcs l:=rfl
def frB:T->Bool
 |.var ..=>true
 |.mod y _=>vY y
 |.div x _=>match x with
  |.var ..=>true
  |.mod y _=>vY y
  |_=>false
 |_=>false
structure Fr(a:T):Prop where
 nd:Nd 3 a
 b:frB a=true
structure ResA(a:T)(b:Int)(r:T):Prop where
 lo:r.lo=Int.fdiv a.lo b
 hi:r.hi=Int.fdiv a.hi b
 or_:(∃n,r=.num n)\/(Fr r/\∀c,dS c r->dS c a)
theorem Nd.mono{n:Nat}{t:T}(h:Nd n t):∀{m:Nat},n<=m->Nd m t:=by
 induction h with
 |var h1 h2 h3 h4=>exact λ_=>.var h1 h2 h3 h4
 |div h1 h2 h3 ih=>intro m hm;obtain⟨m,rfl,hm⟩:=up hm;exact .div (ih (by assumption)) h2 h3
 |mod h1 h2 h3 h4 ih=>intro m hm;obtain⟨m,rfl,hm⟩:=up hm;exact .mod (ih (by assumption)) h2 h3 h4
 |mul h1 h2 h3 h4 ih=>intro m hm;obtain⟨m,rfl,hm⟩:=up hm;exact .mul (ih (by assumption)) h2 h3 h4
 |sum h1 h2 h3 h4 h5 h6 h7 h8 ih=>intro m hm;obtain⟨m,rfl,hm⟩:=up hm;exact .sum (λt ht=>ih t ht (by assumption)) h2 h3 h4 h5 h6 h7 h8
set_option tactic.hygienic true
theorem Zv{a b:Int}(ha:0<=a)(ha2:a<BM)(hb:0<=b)(fX:b<BM):jQ (a*b)=true:=g9 (bA (oT (gZ ha ha2) (gZ hb fX)) (by decide+kernel))
theorem j7{a:Int}(ha:0<=a)(ha2:a<BM):jQ a=true:=g9 (bA (gZ ha ha2) (by decide+kernel))
theorem kI{x a b:Int}(ha:0<a)(hb:0<b):Int.fdiv (Int.fdiv x a) b=Int.fdiv x (a*b):=by
 rw[aG _ (aO ha),aG _ (aO hb),aG _ (eO (aO ha) (aO hb)),Int.ediv_ediv_of_nonneg (aO ha)]
theorem lW(x:Int):Int.fdiv x 1=x:=by rw[aG _ (by decide),Int.ediv_one]
theorem yH{n:Nat}{t:T}{b:Int}(h:Nd n t)(hb:2<=b):((Os t b).lo=Int.fdiv t.lo b/\(Os t b).hi=Int.fdiv t.hi b)/\((∃k,Os t b=.num k)\/(Os t b=.div t b/\Nd (n+1) (.div t b))):=by
 have r:=h.rng;have hm:=nD (b:=b) (by exact iB hb rfl) (aO r.2.1)
 unfold Os;by_cases e:Int.fdiv t.lo b=Int.fdiv t.hi b
 ·rw[aH e];exact⟨⟨by show(T.num _).lo=_;rw[T.lo],by show(T.num _).hi=_;rw[T.hi];exact e⟩,.inl ⟨_,rfl⟩⟩
 ·rw[aK e];exact⟨⟨r9 t b,tA t b⟩,.inr ⟨rfl,.div h hb (CR hm e)⟩⟩
structure ResV(a:T)(b:Int)(r:T):Prop where
 lo:r.lo=Int.fdiv a.lo b
 hi:r.hi=Int.fdiv a.hi b
 or_:(∃n,r=.num n)\/(vY r=true/\Nd 1 r/\∀c,dS c r->dS c a)
theorem GE{d:Nat}{e:Str}{l h b:Int}{n:Nat}(hn:Nd n (.var e l h))(hb:1<=b)(hf:jQ b=true)(hd:3<=d):∃r,u6 d (.var e l h) b=some (.node r)/\ResV (.var e l h) b r:=by
 refine jC d 2 hd λd _=>?_;have h0:Nd 0 (.var e l h):=hn.var0;show ∃r,aB fi (d+1) 185 [.node (.var e l h),.int b] []=_/\_;rw[w5];by_cases h1:b=1
 ·clear hf hb;subst h1;exact⟨_,tG d _ _,by rw[lW],by rw[lW],.inr ⟨rfl,h0.mono (by lia),λ_ z=>z⟩⟩
 ·have r:=h0.rng;obtain⟨⟨q1,q2⟩,q3⟩:=yH h0 (b:=b) (by lia)
  refine⟨_,pO r.1 (aO r.2.1) (by(first|assumption|exact bT (by assumption) (by rfl)|lia|omega)) hf (by(first|assumption|exact bT (by assumption) (by rfl)|lia|omega)),q1,q2,q3.imp_right λ⟨e1,e2⟩=>?_⟩
  rw[e1];exact uA rfl e2 (λc z=>by rw[dS]at z;exact z)
theorem Fo{d:Nat}{y:T}{b:Int}{n:Nat}(hn:Nd n y)(hv:vY y=true)(hb:1<=b)(fX:b<BM)(hd:5<=d):∃r,u6 d y b=some (.node r)/\ResV y b r:=by
 induction y using T.casesOn with
 |var e l h=>exact GE hn hb (j7 (by exact iA hb rfl) fX) (bT hd rfl)
 |div x b1=>
  induction x using T.casesOn<;>first|(exact bX hv;done)|skip
  rename_i e l h
  exact hn.divI λn hx h1 h2=>by
   have r:=hx.rng
   have hb1:=lP r.1 (aO r.2.1) (by exact iB h1 rfl) h2
   refine jC d 4 hd λd _=>?_
   have ft:jQ (b1*b)=true:=Zv (by exact iA h1 rfl) (by exact aJ hb1 r.2.2) (by exact iA hb rfl) fX
   refine i8 (GE (d:=d) hx (b:=b1*b) (by have:=dN (show 1<=b by exact hb) (show 0<=b1 by exact iA h1 rfl);(first|assumption|exact bT (by assumption) (by rfl)|lia|omega)) ft (by(first|assumption|exact bT (by assumption) (by rfl)|lia|omega))) λr' e1 e2=>?_
   refine kF r' ?_ ?_
   ·show aB fi (d+1) 488 [.node (.div (.var e l h) b1),.int b] []=_
    rw[NG,bS (mI ft ..),oU,e1];rfl
   ·refine⟨?_,?_,e2.or_.imp_right λ⟨q1,q2,q3⟩=>⟨q1,q2,λc z=>?_⟩⟩
    ·rw[e2.lo,r9,kI (by exact iB h1 rfl) (hb)]
    ·rw[e2.hi,tA,kI (by exact iB h1 rfl) (hb)]
    ·rw[dS];exact q3 c z
 |_=>exact bX hv
theorem Ap(d:Nat){y:T}(hv:vY y=true)(m:Int):cG (aB fi d) .Mod (.node y) (.int m)=aB fi d 199 [.node y,.int m] []:=by
 induction y using T.casesOn<;>first|(exact bX hv;done)|rfl
theorem NI{y:T}(h:vY y=true):frB y=true:=by
 induction y using T.casesOn with
 |var=>rfl
 |div x b=>induction x using T.casesOn<;>first|(exact bX h;done)|rfl
 |_=>(first|exact aY h|exact bX h|exact jA h|obtain rfl:=aC h|cases h)
theorem GF{d:Nat}{y:T}{m b:Int}{n:Nat}(hn:Nd n (.mod y m))(hb:1<=b)(fX:jQ b=true)(hd:7<=d):∃r,u6 d (.mod y m) b=some (.node r)/\ResA (.mod y m) b r:=by
 refine jC d 6 hd λd _=>?_
 exact hn.modI λn hy hv h1 h2=>by
  have r:=hy.rng
  have hm:=lP r.1 (aO r.2.1) (by exact iB h1 rfl) h2
  have hM:=(Nd.mod hy hv h1 h2).rng
  obtain⟨e1,e2⟩:=m9 (by exact iB h1 rfl) h2 (aO r.2.1)
  show ∃r,aB fi (d+1) 536 [.node (.mod y m),.int b] []=_/\_
  rw[R3,bS (jU (by exact aQ (iB hb rfl)) fX ..),bS (mG ..),bS (fU ..)]
  by_cases hdv:b∣m
  ·have hb4:b<BM:=by have:=eR (by exact iB h1 rfl) hdv;exact aJ (a6 this hm) r.2.2
   obtain⟨q,rfl⟩:=hdv
   have hq:1<=q:=by
    rcases eL q 1 with z|z
    ·have:=bY (show 0<=b by exact iA hb rfl) (show q<=0 by exact iK z rfl);lia
    ·exact z
   rw[cT (aH (by rw[aS _ (by exact iA hb rfl),Int.mul_emod_right]:Int.fmod (b*q) b=0) ..)]
   refine i8 (Fo (d:=d) hy hv hb hb4 (by exact bT (by assumption) (by rfl))) λr' f1 f2=>?_
   have hdq:Int.fdiv (b*q) b=q:=by rw[aG _ (by exact iA hb rfl),eH _ (by exact aQ (iB hb rfl))]
   rw[f1,aF,nB (by exact aQ (iB hb rfl)) fX,hdq,aF]
   have g1:Int.fdiv r'.lo q<Int.fdiv r'.hi q:=by rw[f2.lo,f2.hi,kI (hb) (hq),kI (hb) (hq)];exact h2
   have hr:vY r'=true/\Nd 1 r'/\∀c,dS c r'->dS c y:=f2.or_.elim (λ⟨k,hk⟩=>by rw[hk,T.lo,T.hi]at g1;lia) id
   refine A6 (hr) λv1 v2 v3=>?_
   have rr:=v2.rng
   rw[Ap d v1]
   by_cases hq1:q=1
   ·clear g1 hdq hq hM hm h2;subst hq1
    refine jC d 5 (by assumption) λd _=>?_
    refine jC d 4 (by assumption) λd _=>?_
    rw[t6]
    refine⟨_,rfl,?_,?_,.inl ⟨_,rfl⟩⟩
    ·rw[uQ,e1,T.lo];simp
    ·rw[uR,e2,T.hi,aG _ (by exact iA hb rfl),cS (by lia) (by lia)]
   ·have qM:q<=b*q:=by have:=cH (show 1<=b by exact hb) (show 0<=q by exact iA hq rfl);(first|assumption|exact bT (by assumption) (by rfl)|lia|omega)
    rw[yF rr.1 (aO rr.2.1) (by lia) (j7 (by exact iA hq rfl) (by exact aJ (a6 qM hm) r.2.2)) g1 (by exact bT (by assumption) (by rfl))]
    obtain⟨k1,k2⟩:=m9 (hq) g1 (aO rr.2.1)
    refine⟨_,rfl,?_,?_,.inr ⟨⟨(Nd.mod v2 v1 (by lia) g1).mono (by lia),v1⟩,λc z=>?_⟩⟩
    ·rw[uQ,k1,uQ,e1];simp
    ·rw[uR,k2,uR,e2,aG _ (by exact iA hb rfl)]
     have:b*q-1=b*(q-1)+(b-1):=by rw[Int.mul_sub];lia
     rw[this,kJ,Int.add_mul_ediv_left _ _ (by exact aQ (iB hb rfl)),cS (by lia) (by lia)];lia
    ·rw[dS]at z⊢;exact v3 c z
  ·have hb1:b≠1:=λz=>hdv (z▸Int.one_dvd m)
   rw[cF (aK (λz=>hdv (by rw[aS _ (by grind)]at z;exact Int.dvd_of_emod_eq_zero z)) ..)]
   refine jC d 5 (by assumption) λd _=>?_
   have hN:Nd 2 (.mod y m):=by
    refine .mod ?_ hv h1 h2
    induction y using T.casesOn with
    |var e l h=>exact hy.var0
    |div x k=>
     induction x using T.casesOn<;>first|(exact bX hv;done)|skip
     exact hy.divI λn hx h1 h2=>by
      refine .div (n:=0) ?_ h1 h2
      exact hx.var0
    |_=>exact bX hv
   rw[NF,pO hM.1 (aO hM.2.1) (by lia) fX (by exact bT (by assumption) (by rfl))]
   obtain⟨⟨q1,q2⟩,q3⟩:=yH hN (b:=b) (by lia)
   refine⟨_,rfl,q1,q2,q3.imp_right λ⟨e1,e2⟩=>?_⟩
   rw[e1]
   exact⟨⟨e2,hv⟩,λc z=>by rw[dS]at z;exact z⟩
set_option tactic.hygienic false
theorem ResV.toA{a:T}{b:Int}{r:T}(h:ResV a b r):ResA a b r:=⟨h.lo,h.hi,h.or_.imp_right λ⟨h1,h2,h3⟩=>⟨⟨h2.mono (by(first|assumption|exact bT (by assumption) (by rfl)|lia|omega)),NI h1⟩,h3⟩⟩
theorem NJ{d:Nat}{a:T}{b:Int}(ha:Fr a)(hb:1<=b)(fX:b<BM)(hd:8<=d):∃r,u6 d a b=some (.node r)/\ResA a b r:=by
 obtain⟨hn,hf⟩:=ha;induction a using T.casesOn with
 |var e l h=>exact(Fo hn rfl hb fX (bT hd rfl)).imp λr h=>⟨h.1,h.2.toA⟩
 |mod y m=>exact GF hn hb (j7 (by exact iA hb rfl) fX) (by exact bT hd rfl)
 |div x b1=>
  induction x using T.casesOn with
  |var e l h=>exact(Fo hn rfl hb fX (bT hd rfl)).imp λr h=>⟨h.1,h.2.toA⟩
  |mod y m=>
   exact hn.divI λn hx h1 h2=>by
    have r:=hx.rng;have hb1:=lP r.1 (aO r.2.1) (by exact iB h1 rfl) h2
    refine jC d 7 hd λd _=>?_;have ft:jQ (b1*b)=true:=Zv (by exact iA h1 rfl) (by exact aJ hb1 r.2.2) (by exact iA hb rfl) fX
    refine i8 (GF (d:=d) hx (b:=b1*b) (by have:=dN (show 1<=b by exact hb) (show 0<=b1 by exact iA h1 rfl);(first|assumption|exact bT (by assumption) (by rfl)|lia|omega)) ft (by(first|assumption|exact bT (by assumption) (by rfl)|lia|omega))) λr' e1 e2=>?_
    refine⟨r',?_,?_,?_,e2.or_.imp_right λ⟨q1,q2⟩=>⟨q1,λc z=>?_⟩⟩
    ·show aB fi (d+1) 488 [.node (.div (.mod y m) b1),.int b] []=_;rw[NG,bS (mI ft ..),oU,e1];rfl
    ·rw[e2.lo,r9,kI (by exact iB h1 rfl) (hb)]
    ·rw[e2.hi,tA,kI (by exact iB h1 rfl) (hb)]
    ·rw[dS];exact q2 c z
  |_=>exact bX hf
 |_=>exact bX hf
structure Tp(t:T):Prop where
 nd:Nd (3*t.vc+3) (jN t)
 at_:j6 (jN t)=true
 mul:∀a c,t=.mul a c->2<=c/\a.hi*c<BM
 sz:(jN t).nd+5<=14*t.vc
 fr:Fr (jN t)\/j6 t=true
theorem k7{a:T}(h:frB a=true):j6 a=true:=by induction a using T.casesOn<;>first|(exact bX h;done)|rfl
theorem sK{a:T}(h:frB a=true):a.vc=1/\a.nd<=4:=by
 induction a using T.casesOn with
 |var=>exact⟨by rw[T.vc],by rw[T.nd];decide⟩
 |mod y m=>
  induction y using T.casesOn with
  |var=>exact⟨by rw[T.vc,T.vc],by rw[T.nd,T.nd];decide⟩
  |div x b=>induction x using T.casesOn<;>first|(exact bX h;done)|exact⟨by rw[T.vc,T.vc,T.vc],by rw[T.nd,T.nd,T.nd];decide⟩
  |_=>exact bX h
 |div x b=>
  induction x using T.casesOn with
  |var=>exact⟨by rw[T.vc,T.vc],by rw[T.nd,T.nd];decide⟩
  |mod y m=>
   induction y using T.casesOn with
   |var=>exact⟨by rw[T.vc,T.vc,T.vc],by rw[T.nd,T.nd,T.nd];decide⟩
   |div x b=>induction x using T.casesOn<;>first|(exact bX h;done)|exact⟨by rw[T.vc,T.vc,T.vc,T.vc],by rw[T.nd,T.nd,T.nd,T.nd];decide⟩
   |_=>exact bX h
  |_=>exact bX h
 |_=>exact bX h
theorem NK(t:T):(jN t).vc=t.vc:=by
 induction t using T.casesOn with
 |mul a c=>show a.vc=_;rw[T.vc]
 |_=>rfl
theorem sD{a:T}(h:j6 a=true):jN a=a/\g8 a=1:=by induction a using T.casesOn<;>first|(exact bX h;done)|exact⟨rfl,rfl⟩
theorem Fr.tp{a:T}(h:Fr a):Tp a:=by
 refine oA (sK h.b) λe1 e2=>?_;have ha:=k7 h.b;refine oA (sD ha) λe3 _=>?_;refine⟨by rw[e3,e1];exact h.nd.mono (by lia),by rw[e3];exact ha,λx c z=>(by rw[z]at ha;exact bX ha),by rw[e3,e1];lia,.inr ha⟩
theorem Tp.full{t:T}(h:Tp t):Nd (3*t.vc+4) t:=by
 by_cases hm:∃a c,t=.mul a c
 ·obtain⟨a,c,rfl⟩:=hm;refine oA (h.mul a c rfl) λh1 h2=>?_;have hn:Nd (3*(T.mul a c).vc+3) a:=h.nd;exact .mul hn h.at_ h1 h2
 ·have e:jN t=t:=by
   induction t using T.casesOn with
   |mul a c=>exact absurd ⟨a,c,rfl⟩ hm
   |_=>rfl
  have:=h.nd;rw[e]at this;exact this.mono (by lia)
theorem Tp.gt{t:T}(h:Tp t)(hv:t.vc<=5):Gt 18 t:=by
 refine⟨h.nd.mono (by lia),h.at_,λa c e=>?_,by have:=h.sz;lia⟩
 refine oA (h.mul a c e) λh1 h2=>?_;clear hv;subst e;have r:0<=a.lo/\a.lo<a.hi/\a.hi<BM:=h.nd.rng;have:1*c<=a.hi*c:=cH (by lia) (by exact iA h1 rfl)
 exact uA (by exact aQ (iB h1 rfl)) (by exact aQ (iB h1 rfl)) (gZ (by exact iA h1 rfl) (by lia))
structure ResT(t:T)(b:Int)(r:T):Prop where
 lo:r.lo=Int.fdiv t.lo b
 hi:r.hi=Int.fdiv t.hi b
 or_:(∃n,r=.num n)\/(Tp r/\r.vc<=t.vc/\∀c,dS c r->dS c t)
theorem ResA.toT{t:T}{b:Int}{r:T}(ht:1<=t.vc)(h:ResA t b r):ResT t b r:=⟨h.lo,h.hi,h.or_.imp_right λ⟨h1,h2⟩=>⟨h1.tp,by rw[(sK h1.b).1];exact ht,h2⟩⟩
theorem GG{a:T}{c:Int}(h:Fr a)(hc:1<=c)(hb:a.hi*c<BM):Tp (tm a c)/\(tm a c).vc=1/\∀x,dS x (tm a c)->dS x a:=by
 refine oA (sK h.b) λe1 e2=>?_;have ha:=k7 h.b;unfold tm;by_cases h1:c=1
 ·rw[aH h1];exact uA h.tp e1 (λ_ z=>z)
 ·rw[aK h1];have ev:(T.mul a c).vc=1:=by rw[T.vc];exact e1
  refine uA ⟨?_,ha,λx k z=>?_,?_,.inl h⟩ ev (λx z=>by rw[bG,dS]at z;exact z)
  ·show Nd (3*(T.mul a c).vc+3) a;rw[ev];exact h.nd.mono (by lia)
  ·cases z;exact⟨by lia,hb⟩
  ·show a.nd+5<=14*(T.mul a c).vc;rw[ev];lia
theorem NL{a:T}{c:Int}(hc:1<=c):(tm a c).lo=a.lo*c/\(tm a c).hi=a.hi*c:=by
 unfold tm;by_cases h1:c=1
 ·rw[aH h1,h1,dF,dF];exact⟨rfl,rfl⟩
 ·rw[cF (aK h1 ..),r8,pL,aH (by exact iA hc rfl:0<=c)];exact⟨rfl,rfl⟩
theorem jY{x b:Int}(hb:0<b):Int.fmod x b=0↔b∣x:=by
 rw[aS _ (aO hb)];exact⟨Int.dvd_of_emod_eq_zero,λ⟨q,e⟩=>by rw[e,Int.mul_emod_right]⟩
theorem DW{x b q:Int}(hb:0<b):Int.fdiv (x*(b*q)) b=x*q:=by
 rw[aG _ (aO hb),qJ,eH _ (by exact aQ hb)]
theorem rP{n d:Nat}{a:T}{c b:Int}(h:Nd n a)(ha:j6 a=true)(hb:1<=b)(fX:b<BM)(hdv:b∣c)(hc0:c≠0)(hc:c.natAbs<2^900)(hd:5<=d):aB fi d 440 [.node (.mul a c),.int b] []=some (.node (tm a (Int.fdiv c b))):=by
 refine jC d 4 hd λd _=>?_;obtain⟨q,rfl⟩:=hdv;have hq:Int.fdiv (b*q) b=q:=by rw[aG _ (by exact iA hb rfl),eH _ (by exact aQ (iB hb rfl))]
 have hq0:q≠0:=λz=>hc0 (by rw[z,Int.mul_zero])
 have hql:q.natAbs<2^900:=by
  refine aP ?_ hc;rw[eP];exact gR _ (by lia)
 rw[R5,bS (jU (by exact aQ (iB hb rfl)) (j7 (by exact iA hb rfl) fX) ..),bS (mG ..),bS (fU ..),cT (aH ((jY (hb)).mpr ⟨q,rfl⟩) ..),bS (nB (by exact aQ (iB hb rfl)) (j7 (by exact iA hb rfl) fX) ..),hq,pN _ ha,Ch h hq0 hql (by exact bT (by assumption) (by rfl))]
 rfl
theorem Fp{d:Nat}{a:T}{c b:Int}(ha:Fr a)(hc:2<=c)(hcb:a.hi*c<BM)(hb:1<=b)(fX:b<BM)(hd:10<=d):∃r,u6 d (.mul a c) b=some (.node r)/\ResT (.mul a c) b r/\(b∣c->r=tm a (Int.fdiv c b)):=by
 have r:=ha.nd.rng;have hcM:c<BM:=by have:1*c<=a.hi*c:=cH (by lia) (by exact iA hc rfl);lia
 have e1:=(sK ha.b).1;have ev:1<=(T.mul a c).vc:=by rw[T.vc,e1];exact cA _
 have el:(T.mul a c).lo=a.lo*c:=by rw[r8,aH (by exact iA hc rfl:0<=c)];rfl
 have eh:(T.mul a c).hi=a.hi*c:=by rw[pL,aH (by exact iA hc rfl:0<=c)];rfl
 show ∃r,aB fi d 440 [.node (.mul a c),.int b] []=_/\_;by_cases hdv:b∣c
 ·rw[rP ha.nd (k7 ha.b) hb fX hdv (by exact aQ (iB hc rfl)) (gZ (by exact iA hc rfl) hcM) (bT hd rfl)]
  refine vA _ rfl ?_ (λ_=>rfl);clear hcM;obtain⟨q,rfl⟩:=hdv;have hq:Int.fdiv (b*q) b=q:=by rw[aG _ (by exact iA hb rfl),eH _ (by exact aQ (iB hb rfl))]
  have hq1:1<=q:=by
   rcases eL q 1 with z|z
   ·have:=bY (show 0<=b by exact iA hb rfl) (show q<=0 by exact iK z rfl);lia
   ·exact z
  rw[hq];have hle:a.hi*q<=a.hi*(b*q):=dN (by have:=cH hb (show 0<=q by exact iA hq1 rfl);lia) (by exact aO (aJ r.1 r.2.1))
  refine oA (NL (a:=a) hq1) λt1 t2=>?_;refine A6 (GG ha hq1 (by exact aJ hle hcb)) λt3 t4 t5=>?_
  exact⟨by rw[t1,el,DW (hb)],by rw[t2,eh,DW (hb)],.inr ⟨t3,by rw[t4];exact ev,λx z=>by rw[dS];exact t5 x z⟩⟩
 ·refine jC d 9 hd λd _=>?_;rw[R5,bS (jU (by exact aQ (iB hb rfl)) (j7 (by exact iA hb rfl) fX) ..),bS (mG ..),bS (fU ..),cF (aK (λz=>hdv ((jY (hb)).mp z)) ..),bS (jU (by exact aQ (iB hc rfl)) (j7 (by exact iA hc rfl) hcM) ..),bS (mG ..),bS (fU ..)]
  by_cases hcd:c∣b
  ·rw[cT (aH ((jY (by exact iB hc rfl)).mpr hcd) ..),cT (aH (by exact iB hc rfl:0<c) ..),bS (nB (by exact aQ (iB hc rfl)) (j7 (by exact iA hc rfl) hcM) ..),oU]
   obtain⟨q,rfl⟩:=hcd;have hq:Int.fdiv (c*q) c=q:=by rw[aG _ (by exact iA hc rfl),eH _ (by exact aQ (iB hc rfl))]
   have hq1:1<=q:=by
    rcases eL q 1 with z|z
    ·have:=bY (show 0<=c by exact iA hc rfl) (show q<=0 by exact iK z rfl);lia
    ·exact z
   have hql:q<=c*q:=by have:=cH (show 1<=c by exact iA hc rfl) (show 0<=q by exact iA hq1 rfl);lia
   refine i8 (NJ (d:=d) ha hq1 (by exact aJ hql fX) (by exact bT (by assumption) (by rfl))) λr' f1 f2=>?_
   rw[hq,f1];have key:∀x:Int,Int.fdiv (x*c) (c*q)=Int.fdiv x q:=λx=>by
    rw[<-kI (by exact iB hc rfl) (hq1),aG (x*c) (by exact iA hc rfl),oG _ (by exact aQ (iB hc rfl))]
   refine vA r' rfl ⟨by rw[f2.lo,el,key],by rw[f2.hi,eh,key],?_⟩ (λz=>absurd z hdv)
   exact f2.or_.imp_right λ⟨h1,h2⟩=>⟨h1.tp,by rw[(sK h1.b).1];exact ev,λx z=>by rw[dS];exact h2 x z⟩
  ·rw[cF (aK (λz=>hcd ((jY (by exact iB hc rfl)).mp z)) ..)]
   refine jC d 8 (by assumption) λd _=>?_
   have hb1:b≠1:=λz=>hdv (z▸Int.one_dvd c);have hN:Nd 4 (.mul a c):=.mul ha.nd (k7 ha.b) hc hcb;have rr:=hN.rng;rw[NF,pO rr.1 (aO rr.2.1) (by lia) (j7 (by exact iA hb rfl) fX) (by exact bT (by assumption) (by rfl))]
   obtain⟨⟨q1,q2⟩,q3⟩:=yH hN (b:=b) (by lia)
   refine vA _ rfl ⟨q1,q2,q3.imp_right λ⟨f1,f2⟩=>?_⟩ (λz=>absurd z hdv);rw[f1];have ev2:(T.div (.mul a c) b).vc=1:=by rw[T.vc,T.vc];exact e1
   refine uA ⟨by rw[ev2];exact f2.mono (by lia),rfl,λx k z=>(by cases z),?_,.inr rfl⟩ (by rw[ev2];exact ev) (λx z=>by rw[dS]at z;exact z)
   show(T.div (.mul a c) b).nd+5<=14*_;have:=(sK ha.b).2;rw[ev2,T.nd,T.nd];lia
def lJ:List Y:=match EC.body.drop 8 with
 |Y.forL _ _ b::_=>b
 |_=>[]
noncomputable def lG(t:T)(b:Int)(g dv:V)(x:V)(ex:Ev):Ev:=(1,.node t)::(2,.int b)::(7,.bool true)::(35,.own 0)::(21,.own 1)::(42,g)::(37,dv)::(0,x)::ex
noncomputable def gO(A B:List V):Cs:=[⟨false,.lst A⟩,⟨false,.lst B⟩]
theorem Zw(A B:List V)(u:T)(h:A.length<=100000):iL (.own 0) .append [.node u] (gO A B)=some (.none,gO (A++[.node u]) B):=
 (show _=(bif Nat.ble A.length 100000 then some (V.none,gO (A++[.node u]) B)else none) by kernel_rfl).trans (by rw[aV h];rfl)
theorem Qu(A B:List V)(u:T)(h:B.length<=100000):iL (.own 1) .append [.node u] (gO A B)=some (.none,gO A (B++[.node u])):=
 (show _=(bif Nat.ble B.length 100000 then some (V.none,gO A (B++[.node u]))else none) by kernel_rfl).trans (by rw[aV h];rfl)
theorem Qv(d:Nat)(t:T)(b:Int)(g dv:V)(u:T)(ex:Ev)(A B:List V)(hu:j6 u=true):uN (bJ (aB fi d) 39) lJ (lG t b g dv (.node u) ex) (gO A B)=
  (iL (.own 1) .append [.node u] (gO A B)).bind λv=>bif g7 v.1 then some (none,lG t b (.int 1) dv (.node u) ex,v.2)else none:=by
 rw[Bk];induction u using T.casesOn<;>first|(exact bX hu;done)|kernel_rfl
theorem NM(d:Nat)(t:T)(b g dv:Int)(a:T)(c:Int)(ex:Ev)(A B:List V):uN (bJ (aB fi d) 39) lJ (lG t b (.int g) (.int dv) (.node (.mul a c)) ex) (gO A B)=
  (eY .Mod c b).bind λv=>(j4 (aB fi d) .Eq v (.int 0)).bind λv=>(eM v (gO A B)).bind λz=>
   bif z then(aB fi d 440 [.node (.mul a c),.int b] []).bind λv=>(iL (.own 0) .append [v] (gO A B)).bind λv=>bif g7 v.1 then some (none,lG t b (.int g) (.int dv) (.node (.mul a c)) ex,v.2)else none
   else(iL (.own 1) .append [.node (.mul a c)] (gO A B)).bind λv=>bif g7 v.1 then(aB fi d 35 [.int g,.int c] []).bind λg'=>
    bif decide (dv=1)then(eY .Mod b c).bind λw=>(j4 (aB fi d) .Eq w (.int 0)).bind λw=>(eM w v.2).bind λz=>bif z then some (none,lG t b g' (.int c) (.node (.mul a c)) ex,v.2)else some (none,lG t b g' (.int dv) (.node (.mul a c)) ex,v.2)
    else some (none,lG t b g' (.int dv) (.node (.mul a c)) ex,v.2)else none:=by
 rw[Bk];kernel_rfl
def uU:List Y:=match lJ with
 |Y.ite _ a _::_=>(match a with
  |Y.ite _ _ o::_=>o
  |_=>[])
 |_=>[]
def NN:List Y:=match uU with
 |Y.ite _ a _::_=>a
 |_=>[]
noncomputable abbrev Qw:V->Ev->Cs->Option (Option V×Ev×Cs):=λv e c=>some (some v,e,c)
noncomputable abbrev ç:Ev->Cs->Option (Option V×Ev×Cs):=λe c=>some (none,e,c)
theorem NO(d:Nat)(t:T)(b g dv n:Int)(ex:Ev)(A B:List V):uN (bJ (aB fi d) 39) lJ (lG t b (.int g) (.int dv) (.node (.num n)) ex) (gO A B)=
  (eY .Mod n b).bind λv=>(j4 (aB fi d) .Eq v (.int 0)).bind λv=>(eM v (gO A B)).bind λz=>
   bif z then(aB fi d 185 [.node (.num n),.int b] []).bind λv=>(iL (.own 0) .append [v] (gO A B)).bind λv=>bif g7 v.1 then some (none,lG t b (.int g) (.int dv) (.node (.num n)) ex,v.2)else none
   else dR (m6 (aB fi d) 37) uU (lG t b (.int g) (.int dv) (.node (.num n)) ex) (gO A B) Qw ç:=by
 rw[Bk];kernel_rfl
theorem Zx(d:Nat)(t:T)(b g dv n:Int)(ex:Ev)(A B:List V):dR (m6 (aB fi d) 37) uU (lG t b (.int g) (.int dv) (.node (.num n)) ex) (gO A B) Qw ç=
  (eY .FloorDiv n b).bind λv=>(eM v (gO A B)).bind λz=>bif z then(eY .FloorDiv n b).bind λq=>dR (m6 (aB fi d) 36) (NN.drop 1) (lG t b (.int g) (.int dv) (.node (.num n)) (fO 52 q ex)) (gO A B) Qw (λenv cs=>dR (m6 (aB fi d) 37) (uU.drop 1) env cs Qw ç)
   else dR (m6 (aB fi d) 37) (uU.drop 1) (lG t b (.int g) (.int dv) (.node (.num n)) ex) (gO A B) Qw ç:=by kernel_rfl
theorem Zy(d:Nat)(t:T)(b g dv n q:Int)(A B:List V)(K:Ev->Cs->Option (Option V×Ev×Cs)):dR (m6 (aB fi d) 36) (NN.drop 1) (lG t b (.int g) (.int dv) (.node (.num n)) [(52,.int q)]) (gO A B) Qw K=
  (aB fi d 331 [.int q] []).bind λv=>(iL (.own 0) .append [v] (gO A B)).bind λv=>bif g7 v.1 then(eY .Mult b q).bind λm=>(cG (aB fi d) .Sub (.int n) m).bind λs=>((a8 s v.2).bind λp=>(some ([],p.2)).map λq=>(p.1::q.1,q.2)).bind λw=>(aB fi d 331 w.1 []).bind λx=>K (lG t b (.int g) (.int dv) x [(52,.int q)]) w.2 else none:=by kernel_rfl
theorem NP(d:Nat)(t:T)(b g dv n:Int)(ex:Ev)(A B:List V):dR (m6 (aB fi d) 37) (uU.drop 1) (lG t b (.int g) (.int dv) (.node (.num n)) ex) (gO A B) Qw ç=
  (iL (.own 1) .append [.node (.num n)] (gO A B)).bind λv=>bif g7 v.1 then(aB fi d 35 [.int g,.int n] []).bind λg'=>some (none,lG t b g' (.int dv) (.node (.num n)) ex,v.2)else none:=by kernel_rfl
def full(b:Int)(t:T):Bool:=decide (Int.fmod (g8 t) b=0)
def uG(b:Int)(t:T):T:=tm (jN t) (Int.fdiv (g8 t) b)
def xM(b:Int)(s:Nat×Int)(t:T):Nat×Int:=bif full b t then s else match t with
 |.mul _ c=>(Nat.gcd s.1 c.natAbs,bif decide (s.2=1)&&decide (Int.fmod b c=0)then c else s.2)
 |_=>(1,s.2)
theorem Ck(b:Int)(g:Nat)(dv:Int)(a:T)(c:Int):xM b (g,dv) (.mul a c)=bif decide (Int.fmod c b=0)then(g,dv)else(Nat.gcd g c.natAbs,bif decide (dv=1)&&decide (Int.fmod b c=0)then c else dv):=rfl
theorem Cl{b:Int}{t:T}(hb:2<=b)(h:j6 t=true):full b t=false:=by
 unfold full;rw[(sD h).2];refine aK λz=>?_;have:=eR (by decide) ((jY (by exact iB hb rfl)).mp z);exact qW _ (eN (iB hb rfl) this)
theorem Zz{d:Nat}{t:T}{b dv:Int}{g:Nat}{u:T}{ex:Ev}{A B:List V}(hu:Gt 18 u)(hb:2<=b)(fX:b<BM)(hc:full b u=false->0<g8 u)(hA:A.length<=1000)(hB:B.length<=1000)(hd:5<=d):
  uN (bJ (aB fi d) 39) lJ (lG t b (.int g) (.int dv) (.node u) ex) (gO A B)=some (none,lG t b (.int (xM b (g,dv) u).1) (.int (xM b (g,dv) u).2) (.node u) ex,bif full b u then gO (A++[.node (uG b u)]) B else gO A (B++[.node u])):=by
 by_cases hm:∃a c,u=.mul a c
 ·obtain⟨a,c,rfl⟩:=hm;refine A6 (hu.mul a c rfl) λh0 h1 h2=>?_;rw[NM,bS (jU (by exact aQ (iB hb rfl)) (j7 (by exact iA hb rfl) fX) ..),bS (mG ..),bS (fU ..)]
  have hf:full b (.mul a c)=decide (Int.fmod c b=0):=rfl;by_cases hz:Int.fmod c b=0
  ·rw[cT (aH hz ..),bS (rP (a:=a) hu.nd hu.at_ (by exact iA hb rfl) fX ((jY (by exact iB hb rfl)).mp hz) h0 h2 hd ..),bS (Zw A B _ (by exact iG hA rfl) ..)]
   rw[Ck,hf,aH hz];rfl
  ·have hc:0<c:=hc (by rw[hf];exact aK hz)
   have eg:((c.natAbs:Nat):Int)=c:=nU (by exact aO hc)
   have hcM:jQ c=true:=g9 (bA h2 (by decide+kernel))
   have gk:=ND (d:=d) (a:=g) (b:=c.natAbs) h2 (bT hd rfl);rw[eg]at gk;rw[cF (aK hz ..),bS (Qu A B _ (by exact iG hB rfl) ..)]
   show((aB fi d 35 [.int g,.int c] []).bind _)=_;rw[bS (gk ..)];rw[Ck,hf,aK hz,bG,bG];induction hd1:decide (dv=1) using Bool.casesOn with
   |false=>rw[bG,Bool.false_and];rfl
   |true=>
    rw[bV,bS (jU h0 hcM ..),bS (mG ..),bS (fU ..),qV];induction decide (Int.fmod b c=0) using Bool.casesOn<;>rfl
 ·obtain⟨e1,e2⟩:=tF hu λa k e=>hm ⟨a,k,e⟩;have ha:=hu.at_;rw[e1]at ha;rw[Qv _ _ _ _ _ _ _ _ _ ha,bS (Qu A B _ (by exact iG hB rfl) ..)]
  have hs:xM b (g,dv) u=bif full b u then(g,dv)else(1,dv):=by clear e2 e1 hm hc hu;induction u using T.casesOn<;>first|(exact bX ha;done)|rfl
  rw[hs,Cl hb ha];rfl
theorem l620{d:Nat}{t:T}{b:Int}(hb:2<=b)(fX:b<BM)(hd:5<=d):∀{us:List T} {dv:Int} {g:Nat} {env ex:Ev} {A B:List V},(∀v,n9 [0] v env=some (lG t b (.int g) (.int dv) v ex))->(∀u∈us,Gt 18 u)->(∀u∈us,full b u=false->0<g8 u)->
  A.length+us.length<=1000->B.length+us.length<=1000->us≠[]->
  ∃x,gV (bJ (aB fi d) 39) [0] lJ (us.map V.node) env (gO A B)=some (none,lG t b (.int (us.foldl (xM b) (g,dv)).1) (.int (us.foldl (xM b) (g,dv)).2) x ex,gO (A++((us.filter (full b)).map (uG b)).map V.node) (B++(us.filter λu=>!full b u).map V.node))
 |u::r,dv,g,env,ex,A,B,he,hu,hc,hA,hB,_=>by
  have hA:A.length+(r.length+1)<=1000:=hA;have hB:B.length+(r.length+1)<=1000:=hB;rw[bO,tY (he _) (Zz (hu u aE) hb fX (hc u aE) (by lia) (by lia) hd),List.foldl_cons]
  have key:∀A' B',A'.length+r.length<=1000->B'.length+r.length<=1000->∃x,gV (bJ (aB fi d) 39) [0] lJ (r.map V.node) (lG t b (.int (xM b (g,dv) u).1) (.int (xM b (g,dv) u).2) (.node u) ex) (gO A' B')=
    some (none,lG t b (.int (r.foldl (xM b) (xM b (g,dv) u)).1) (.int (r.foldl (xM b) (xM b (g,dv) u)).2) x ex,gO (A'++((r.filter (full b)).map (uG b)).map V.node) (B'++(r.filter λu=>!full b u).map V.node)):=λA' B' h1 h2=>by
   by_cases hr:r=[]
   ·clear h2 h1 hB hA hc hu;subst hr;exact jE (.node u) (by simp[gV])
   ·exact l620 hb fX hd (λv=>rfl) (λu h=>hu u (aI _ h)) (λu h=>hc u (aI _ h)) h1 h2 hr
  induction hf:full b u using Bool.casesOn with
  |true=>
   rw[bV,cD (by exact hf),cV (by rw[hf];decide),bO,bO]
   obtain⟨x,e⟩:=key (A++[.node (uG b u)]) B (by rw[bU,d0];lia) (by lia)
   exact jE x (by rw[e,dT];rfl)
  |false=>
   rw[bG,cV (by rw[hf];decide),cD (by rw[hf];rfl),bO (f:=V.node)]
   obtain⟨x,e⟩:=key A (B++[.node u]) (by lia) (by rw[bU,d0];lia)
   exact jE x (by rw[e,dT];rfl)
theorem Z0{d:Nat}{t:T}{b dv n:Int}{g:Nat}{A B:List V}(hn:n≠0)(hnb:n.natAbs<2^900)(hb:2<=b)(fX:b<BM)(hA:A.length<=1000)(hB:B.length<=1000)(hd:8<=d):
  ∃x ex,uN (bJ (aB fi d) 39) lJ (lG t b (.int g) (.int dv) (.node (.num n)) []) (gO A B)=some (none,lG t b (.int (bif decide (Int.fmod n b=0)then g else Nat.gcd g (Int.fmod n b).natAbs:Nat)) (.int dv) x ex,gO (A++(b9 [] (Int.fdiv n b)).map V.node) (B++(b9 [] (Int.fmod n b)).map V.node)):=by
 have fb:=j7 (show 0<=b by exact iA hb rfl) fX
 have eq:Int.fdiv n b=n/b:=aG _ (by exact iA hb rfl)
 have er:Int.fmod n b=n%b:=aS _ (by exact iA hb rfl)
 have e3:=dB n b;have e4:=eE n (by exact aQ (iB hb rfl):b≠0)
 have e5:=dW n (by exact iB hb rfl:0<b)
 have hql:(n/b).natAbs<=n.natAbs:=iE n b;have hsum:∀m:Int,m≠0->b9 [] m=[T.num m]:=λm hm=>by unfold b9;rw[aK hm];rfl
 have hsum0:b9 [] 0=[]:=by unfold b9;rw[aH rfl];rfl
 have q18:(2:Nat)^1800<2^1900:=by decide+kernel
 rw[NO,bS (jU (by exact aQ (iB hb rfl)) fb ..),bS (mG ..),bS (fU ..)]
 by_cases hz:Int.fmod n b=0
 ·have hq0:n/b≠0:=λz=>by rw[er]at hz;clear e4 e5 hql hsum hsum0 q18;rw[hz,z]at e3;lia
  rw[cT (aH hz ..),bS (Cj (by exact iA hb rfl) fb (g9 (bA (oT (by rw[eq,Int.natAbs_neg];exact aP hql hnb) (gZ (by exact iA hb rfl) fX)) q18)) hd ..),bS (Zw A B _ (by exact iG hA rfl) ..)]
  refine ZZ (.node (.num n)) ([]) ?_;rw[hz,hsum0,hsum _ (by rw[eq];exact hq0)]
  show some (none,_,gO (A++[.node (.num (Int.fdiv n b))]) B)=some (none,_,gO _ (B++[]));rw[bW];rfl
 ·have hrl:(n%b).natAbs<2^900:=gZ e4 (by exact cX e5 fX)
  have eg:(((n%b).natAbs:Nat):Int)=n%b:=nU e4;have gk:=ND (d:=d) (a:=g) (b:=(n%b).natAbs) hrl (bT hd rfl);rw[eg]at gk;rw[aK hz,bG,Zx,nB (by exact aQ (iB hb rfl)) fb,aF,show eM (.int (Int.fdiv n b)) (gO A B)=some (!decide (Int.fdiv n b=0))from rfl,aF]
  by_cases hq0:Int.fdiv n b=0
  ·have hnr:n%b=n:=by rw[eq]at hq0;clear e5 hql hsum hsum0 q18 hz hrl eg gk;clear e4;rw[hq0]at e3;lia
   rw[hnr]at gk;rw[aH hq0,gS,bG,NP,Qu A B _ (by exact iG hB rfl),aF]
   show ∃x ex,((aB fi d 35 [.int g,.int n] []).bind _)=_;rw[gk];refine ZZ (.node (.num n)) ([]) ?_;rw[hq0,hsum0,hsum _ hz,er,hnr];show some (none,_,gO A (B++[.node (.num n)]))=some (none,_,gO (A++[]) _);rw[bW];rfl
  ·obtain⟨d,rfl,_⟩:=up (K:=7) (d:=d) hd;rw[aK hq0,g4,bV,aF];show ∃x ex,dR (m6 (aB fi (d+1)) 36) (NN.drop 1) (lG t b (.int g) (.int dv) (.node (.num n)) [(52,.int (Int.fdiv n b))]) (gO A B) Qw _=_;rw[Zy,bS (xZ ..),bS (Zw A B _ (by exact iG hA rfl) ..)]
   show ∃x ex,((eY .Mult b (Int.fdiv n b)).bind _)=_;rw[bS (mI (g9 (bA (oT (gZ (by exact iA hb rfl) fX) (by rw[eq];exact aP hql hnb)) q18)) ..)]
   rw[bS (show cG (aB fi (d+1)) .Sub (.int n) (.int (b*Int.fdiv n b))=some (.int (n-b*Int.fdiv n b))from rfl),show n-b*Int.fdiv n b=n%b by rw[eq];lia]
   rw[bS (Zc ..),cU,aF,bS (xZ ..)];show ∃x ex,dR (m6 (aB fi (d+1)) 37) (uU.drop 1) (lG t b (.int g) (.int dv) (.node (.num (n%b))) [(52,.int (Int.fdiv n b))]) (gO (A++[.node (.num (Int.fdiv n b))]) B) Qw ç=_;rw[NP,bS (Qu _ B _ (by exact iG hB rfl) ..)]
   show ∃x ex,((aB fi (d+1) 35 [.int g,.int (n%b)] []).bind _)=_;rw[gk];refine ZZ (.node (.num (n%b))) ([(52,.int (Int.fdiv n b))]) ?_;rw[hsum _ hq0,hsum _ hz,er];rfl
theorem Z1(d:Nat)(t:T)(b:Int):aB fi (d+1) 86 [.node t,.int b] []=some (.bool false):=(cR rfl rfl rfl rfl).trans (by kernel_rfl)
theorem NQ(d:Nat)(l:List T)(b:Int):aB fi (d+1) 620 [.node (.sum l),.int b] []=(aB fi d 86 [.node (.sum l),.int b] []).bind λv=>(eM v []).bind λz=>bif z then(aB fi d 331 [.int 1] []).bind λv=>(a8 v []).bind λq=>some q.1
  else bif decide (b=1)then some (.node (.sum l))else(aB fi d 640 [.node (.sum l)] []).bind λw=>(j5 [0] w (gO [] [])).bind λs=>
   nO (gV (bJ (aB fi d) 39) [0] lJ s.1 [(1,.node (.sum l)),(2,.int b),(7,.bool true),(35,.own 0),(21,.own 1),(42,.int b),(37,.int 1)] s.2) kR λenv cs=>dR (R4 d) (EC.body.drop 9) env cs kR kN:=(cR rfl rfl rfl rfl).trans (by kernel_rfl)
noncomputable def DX(A B:List V):Cs:=[⟨true,.lst A⟩,⟨true,.lst B⟩]
theorem Cm(d:Nat)(t:T)(b g dv:Int)(x:V)(ex:Ev)(A B:List V):dR (R4 d) (EC.body.drop 9) (lG t b (.int g) (.int dv) x ex) (gO A B) kR kN=
  bif decide (1<g)then(aB fi d 204 [V.lst A] []).bind λv=>(aB fi d 204 [V.lst B] []).bind λw=>bif !jR w .floordiv (DX A B)then none
    else Ab (aB fi d) w .floordiv [.int g] [] (DX A B) λp cs=>(eY .FloorDiv b g).bind λq=>(cG (aB fi d) .FloorDiv p q).bind λx=>(cG (aB fi d) .Add v x).bind λy=>(a8 y cs).bind λq=>some q.1
  else bif decide (1<dv)then(aB fi d 204 [V.lst A] []).bind λv=>(aB fi d 204 [V.lst B] []).bind λw=>bif !jR w .floordiv (DX A B)then none
    else Ab (aB fi d) w .floordiv [.int dv] [] (DX A B) λp cs=>(eY .FloorDiv b dv).bind λq=>(cG (aB fi d) .FloorDiv p q).bind λx=>(cG (aB fi d) .Add v x).bind λy=>(a8 y cs).bind λq=>some q.1
  else(aB fi d 204 [V.lst A] []).bind λv=>(aB fi d 204 [V.lst B] []).bind λw=>((a8 w (DX A B)).bind λp=>(some ([V.int b],p.2)).map λq=>(p.1::q.1,q.2)).bind λa=>(aB fi d 185 a.1 []).bind λx=>(cG (aB fi d) .Add v x).bind λy=>(a8 y a.2).bind λq=>some q.1:=by kernel_rfl
theorem DY{r:Rec}{t:List Nat}{body:List Y}{ys:List V}:∀{xs:List V} {env env':Ev} {cs cW:Cs},gV r t body xs env cs=some (none,env',cW)->gV r t body (xs++ys) env cs=gV r t body ys env' cW
 |[],_,_,_,_,h=>by cases h;rfl
 |x::xs,env,env',cs,cW,h=>by
  have h:((n9 t x env).bind λenv'=>(uN r body env' cs).bind λp=>match p.1 with|some x=>some (some x,p.2)|none=>gV r t body xs p.2.1 p.2.2)=some (none,env',cW):=h
  show((n9 t x env).bind λenv'=>(uN r body env' cs).bind λp=>match p.1 with|some x=>some (some x,p.2)|none=>gV r t body (xs++ys) p.2.1 p.2.2)=_
  induction hb:n9 t x env using Option.casesOn with
  |none=>rw[hb]at h;exact aY h
  |some e1=>
   rw[bS (hb ..)]at h;rw[aF];induction he:uN r body e1 cs using Option.casesOn with
   |none=>clear hb;rw[he]at h;exact aY h
   |some p=>
    obtain⟨p1,p2,p3⟩:=p;rw[bS (he ..)]at h;rw[aF];induction p1 using Option.casesOn with
    |some v=>cases h
    |none=>exact DY h
def tH(b:Int)(ts:List T):List T:=(ts.filter (full b)).map (uG b)
def iF(b:Int)(ts:List T):List T:=ts.filter λu=>!full b u
def sE(b:Int)(ts:List T):Nat×Int:=ts.foldl (xM b) (b.natAbs,1)
def qU(b:Int)(ts:List T)(k:Int):Nat:=bif decide (Int.fmod k b=0)then(sE b ts).1 else Nat.gcd (sE b ts).1 (Int.fmod k b).natAbs
theorem NR{k b:Int}(hb:0<b)(fX:b<BM):(Int.fmod k b).natAbs<2^900/\0<=Int.fmod k b/\Int.fmod k b<b:=by
 rw[aS _ (aO hb)];have h1:=eE k (by exact aQ hb:b≠0)
 have h2:=dW k hb;exact uA (gZ h1 (by exact cX h2 fX)) h1 h2
theorem Aq(a:List T)(k:Int):b9 a k=a++b9 [] k:=rfl
theorem sc{d:Nat}{ts:List T}{k b:Int}(h:Fm 18 ts)(f5:ts≠[])(h2:2<=(b9 ts k).length)(hb:2<=b)(fX:b<BM)(hpos:∀u∈ts,full b u=false->0<g8 u)(hk:k.natAbs<2^900)(hd:10<=d):
  ∃x ex,u6 (d+1) (.sum (b9 ts k)) b=dR (R4 d) (EC.body.drop 9) (lG (.sum (b9 ts k)) b (.int (qU b ts k)) (.int (sE b ts).2) x ex) (gO ((b9 (tH b ts) (Int.fdiv k b)).map V.node) ((b9 (iF b ts) (Int.fmod k b)).map V.node)) kR kN:=by
 have eW:=h.len;have hl:=iR ts k;refine jC d 9 hd λd _=>?_;have ebn:((b.natAbs:Nat):Int)=b:=nU (by exact iA hb rfl)
 show ∃x ex,aB fi (d+1+1) 620 [.node (.sum (b9 ts k)),.int b] []=_;rw[NQ,bS (Z1 ..),bS (fU ..),bG,cF (aK (by exact aQ (iB hb rfl):¬b=1) ..),bS (Rw d (show(b9 ts k).length<=1000 by lia) (uS (F:=(ts,k)) h.gt) ..)]
 show ∃x ex,((bif Nat.ble ((b9 ts k).map V.node).length 1000 then some ((b9 ts k).map V.node,gO [] [])else none).bind _)=_;rw[aT,bS (cT (aV (by lia) ..) ..)]
 have e0:∀v,n9 [0] v [(1,.node (.sum (b9 ts k))),(2,.int b),(7,.bool true),(35,.own 0),(21,.own 1),(42,.int b),(37,.int 1)]=some (lG (.sum (b9 ts k)) b (.int ((b.natAbs:Nat):Int)) (.int 1) v []):=λv=>by rw[ebn];rfl
 obtain⟨x,e⟩:=l620 (d:=d+1) (t:=.sum (b9 ts k)) hb fX (by lia) (us:=ts) (A:=[]) (B:=[]) e0 h.gt hpos (by simp;exact iG eW rfl) (by simp;exact iG eW rfl) f5
 rw[jO,jO]at e;unfold qU;by_cases hk0:k=0
 ·clear e0 hl hk h2;subst hk0;have z1:Int.fdiv 0 b=0:=fP b;have z2:Int.fmod 0 b=0:=Int.zero_fmod b;have z3:∀l:List T,b9 l 0=l:=λl=>by unfold b9;rw[cT (aH rfl ..),bW]
  rw[z1,z2,z3,z3,z3,aH rfl];clear z2 z1;rw[z3]at e;refine ZZ x ([]) ?_;show nO (gV (bJ (aB fi (d+1)) 39) [0] lJ (ts.map V.node) _ (gO [] [])) _ _=_;rw[e];rfl
 ·have hs:b9 ts k=ts++[.num k]:=by unfold b9;rw[aK hk0];rfl
  have hf:=Z0 (d:=d+1) (t:=.sum (b9 ts k)) (b:=b) (dv:=(sE b ts).2) (n:=k) (g:=(sE b ts).1) (A:=((ts.filter (full b)).map (uG b)).map V.node) (B:=(ts.filter λu=>!full b u).map V.node) hk0 hk hb fX
   (by rw[aT,aT];have:=dM (full b) ts;exact aR this (iG eW rfl)) (by rw[aT];have:=dM (λu=>!full b u) ts;exact aR this (iG eW rfl)) (by lia)
  refine Oo (hf) λx' ex e'=>?_;refine ZZ x' ex ?_;have e2:gV (bJ (aB fi (d+1)) 39) [0] lJ [V.node (.num k)] (lG (.sum (b9 ts k)) b (.int (sE b ts).1) (.int (sE b ts).2) x []) (gO (((ts.filter (full b)).map (uG b)).map V.node) ((ts.filter λu=>!full b u).map V.node))=_:=tY rfl e';unfold sE at e2;show nO (gV (bJ (aB fi (d+1)) 39) [0] lJ ((b9 ts k).map V.node) _ (gO [] [])) _ _=_;rw[show(b9 ts k).map V.node=ts.map V.node++[V.node (.num k)] by rw[hs,dQ];rfl,DY e,e2]
  show dR (R4 (d+1)) (EC.body.drop 9) _ (gO (((ts.filter (full b)).map (uG b)).map V.node++(b9 [] (Int.fdiv k b)).map V.node) ((ts.filter λu=>!full b u).map V.node++(b9 [] (Int.fmod k b)).map V.node)) kR kN=_;rw[<-dQ,<-dQ];rfl
noncomputable def one:T->List T×Int
 |.num k=>([],k)
 |t=>([t],0)
theorem NS{t:T}(h:dO t=true):one t=([t],0):=by induction t using T.casesOn<;>first|(exact bX h;done)|rfl
theorem GH{k:Int}:∀{ts:List T},(∀t∈ts,dO t=true)->((b9 ts k).map one).flatMap (·.1)=ts/\(((b9 ts k).map one).map (·.2)).sum=k/\((b9 ts k).map one).map fN=b9 ts k
 |[],_=>by
  unfold b9;induction h:decide (k=0) using Bool.casesOn with
  |true=>rw[aM h];exact uA rfl rfl rfl
  |false=>exact uA rfl (by simp[one]) (by simp[one,dY])
 |t::r,h=>by
  refine A6 (GH (k:=k) (ts:=r) λu hu=>h u (aI _ hu)) λh1 h2 h3=>?_;show((one t::(b9 r k).map one).flatMap (·.1))=_/\((one t::(b9 r k).map one).map (·.2)).sum=_/\(one t::(b9 r k).map one).map fN=t::b9 r k;rw[NS (h t aE),b8,h1,bO (f:=λx:List T×Int=>x.2),eJ,h2,bO (f:=fN),h3,fD];exact uA rfl (by show 0+k=_;lia) rfl
theorem v7{n d:Nat}{ts:List T}{k:Int}(h:Fm n ts)(hd:2*n+4<=d):aB fi d 204 [.lst ((b9 ts k).map V.node)] []=some (.node (fN (ts,k))):=by
 refine A6 (GH (k:=k) λt ht=>(h.gt t ht).term) λh1 h2 h3=>?_;have hl:=iR ts k;have eW:=h.len;have:=pC (n:=n) (Fs:=(b9 ts k).map one) (by rw[h1];exact h) (by rw[aT];lia) hd
 rw[h1,h2,h3]at this;exact this
noncomputable def sF:T->Bool
 |.mul ..=>true
 |_=>false
theorem sG{t:T}(h:sF t=true):∃a c,t=.mul a c:=by induction t using T.casesOn<;>first|(exact bX h;done)|exact ZZ _ _ rfl
theorem GI{b:Int}:∀{ts:List T} {s:Nat×Int},(∀t∈ts,dO t=true)->
  ((ts.foldl (xM b) s).1∣s.1/\(∀t∈iF b ts,(ts.foldl (xM b) s).1≠1->sF t=true/\(ts.foldl (xM b) s).1∣(g8 t).natAbs)/\
  ((ts.foldl (xM b) s).2=s.2\/∃t∈iF b ts,sF t=true/\g8 t=(ts.foldl (xM b) s).2/\Int.fmod b (g8 t)=0)/\
  ∀e:Nat,e∣s.1->(∀t∈iF b ts,sF t=true/\e∣(g8 t).natAbs)->e∣(ts.foldl (xM b) s).1)
 |[],s,_=>⟨Nat.dvd_refl _,λt ht=>(by cases ht),.inl rfl,λe h _=>h⟩
 |t::r,s,h=>by
  obtain⟨i1,i2,i3,i4⟩:=GI (ts:=r) (s:=xM b s t) λu hu=>h u (aI _ hu);rw[List.foldl_cons];have hm:∀u,u∈iF b r->u∈iF b (t::r):=λu hu=>dC.mpr ⟨aI _ (dC.mp hu).1,(dC.mp hu).2⟩;induction hf:full b t using Bool.casesOn with
  |true=>
   have e1:xM b s t=s:=by unfold xM;rw[hf];rfl
   have e2:iF b (t::r)=iF b r:=cV (by rw[hf];decide)
   clear hf hm;rw[e1]at i1 i2 i3 i4⊢;rw[e2];exact B8 i1 i2 i3 i4
  |false=>
   have e2:iF b (t::r)=t::iF b r:=cD (by rw[hf];rfl)
   rw[e2];by_cases hM:sF t=true
   ·clear e2 hm h;obtain⟨a,c,rfl⟩:=sG hM;obtain⟨g,dv⟩:=s;have hf':decide (Int.fmod c b=0)=false:=hf;have e1:xM b (g,dv) (.mul a c)=(Nat.gcd g c.natAbs,bif decide (dv=1)&&decide (Int.fmod b c=0)then c else dv):=by rw[Ck,hf'];rfl
    clear hf';rw[e1]at i1 i2 i3 i4⊢;refine B8 (qY i1 (Nat.gcd_dvd_left _ _)) (λu hu f5=>?_) ?_ (λe he hall=>?_)
    ·rcases a7.mp hu with rfl|hu
     ·exact⟨rfl,qY i1 (Nat.gcd_dvd_right _ _)⟩
     ·exact i2 u hu f5
    ·rcases i3 with i3|⟨u,h1,h2⟩
     ·induction hc:decide (dv=1)&&decide (Int.fmod b c=0) using Bool.casesOn with
      |false=>rw[hc]at i3;exact .inl i3
      |true=>
       rw[hc]at i3;exact .inr ⟨.mul a c,aE,rfl,i3.symm,aM (aL.mp hc).2⟩
     ·exact .inr ⟨u,aI _ h1,h2⟩
    ·exact i4 e (Nat.dvd_gcd he (hall _ aE).2) λu hu=>hall u (aI _ hu)
   ·have e1:xM b s t=(1,s.2):=by
     unfold xM;rw[hf];clear e2 hf hm i4 i3 i2 i1 h;induction t using T.casesOn<;>first|rfl|exact absurd rfl hM
    clear e2 hf hm;rw[e1]at i1 i2 i3 i4⊢;have h1:(r.foldl (xM b) (1,s.2)).1=1:=Nat.dvd_one.mp i1;refine B8 (by rw[h1];exact Nat.one_dvd _) (λu hu f5=>absurd h1 f5) ?_ (λe he hall=>?_)
    ·exact i3.imp_right λ⟨u,h1,h2⟩=>⟨u,aI _ h1,h2⟩
    ·exact absurd (hall t aE).1 hM
structure GcdF(b:Int)(ts:List T)(k:Int):Prop where
 dvb:((qU b ts k:Nat):Int)∣b
 all:qU b ts k≠1->∀t∈iF b ts,sF t=true/\((qU b ts k:Nat):Int)∣g8 t
 dvr:((qU b ts k:Nat):Int)∣Int.fmod k b
 mx:∀e:Nat,(e:Int)∣b->(∀t∈iF b ts,sF t=true/\(e:Int)∣g8 t)->(e:Int)∣Int.fmod k b->e∣qU b ts k
theorem rQ{b:Int}{ts:List T}{k:Int}(h:∀t∈ts,dO t=true):GcdF b ts k/\((sE b ts).2=1\/∃t∈iF b ts,sF t=true/\g8 t=(sE b ts).2/\Int.fmod b (g8 t)=0):=by
 refine u7 (GI (b:=b) (s:=(b.natAbs,1)) h) λi1 i2 i3 i4=>?_;have i1:(sE b ts).1∣b.natAbs:=i1;have hd:qU b ts k∣(sE b ts).1/\qU b ts k∣(Int.fmod k b).natAbs/\∀e,e∣(sE b ts).1->e∣(Int.fmod k b).natAbs->e∣qU b ts k:=by
  unfold qU;induction hz:decide (Int.fmod k b=0) using Bool.casesOn with
  |true=>rw[aM hz];exact uA (Nat.dvd_refl _) (Nat.dvd_zero _) (λe h _=>h)
  |false=>exact uA (Nat.gcd_dvd_left _ _) (Nat.gcd_dvd_right _ _) (λe h1 h2=>Nat.dvd_gcd h1 h2)
 refine⟨⟨g6.mpr (qY hd.1 i1),λf5 t ht=>?_,g6.mpr hd.2.1,λe h1 h2 h3=>?_⟩,i3⟩
 ·obtain⟨q1,q2⟩:=i2 t ht λz=>f5 (Nat.dvd_one.mp (by have:=hd.1;rw[show(sE b ts).1=1 from z]at this;exact this))
  exact⟨q1,g6.mpr (qY hd.1 q2)⟩
 ·exact hd.2.2 e (i4 e (g6.mp h1) λt ht=>⟨(h2 t ht).1,g6.mp (h2 t ht).2⟩) (g6.mp h3)
theorem Js(d:Nat)(t:T)(g:Int)(cs:Cs)(k:V->Cs->Option V):Ab (aB fi d) (.node t) .floordiv [.int g] [] cs k=(u6 d t g).bind λv=>k v cs:=by
 induction t using T.casesOn<;>rfl
theorem Fq(t:T)(cs:Cs):jR (.node t) .floordiv cs=true:=by induction t using T.casesOn<;>rfl
theorem Ar{d:Nat}{fu re:List T}{q r b e:Int}{y:T}{X:List T×Int}{cs:Cs}(hA:Fm 18 fu)(hB:Fm 18 re)(he:e≠0)(hf:jQ e=true)(e1:u6 d (fN (re,r)) e=some (.node y))(e2:u6 d y (Int.fdiv b e)=some (.node (fN X)))(hX:Fm 18 (fu++X.1))(hd:41<=d):
  ((aB fi d 204 [V.lst ((b9 fu q).map V.node)] []).bind λv=>(aB fi d 204 [V.lst ((b9 re r).map V.node)] []).bind λw=>bif !jR w .floordiv cs then none
    else Ab (aB fi d) w .floordiv [.int e] [] cs λp cs=>(eY .FloorDiv b e).bind λq=>(cG (aB fi d) .FloorDiv p q).bind λx=>(cG (aB fi d) .Add v x).bind λy=>(a8 y cs).bind λq=>some q.1)=some (.node (fN (fu++X.1,q+X.2))):=by
 conv=>lhs;rw[bS (v7 hA (bT hd rfl) ..),bS (v7 hB (bT hd rfl) ..),Fq,gS,bG,Js,bS (e1 ..),bS (nB he hf ..),oU,bS (e2 ..),uT,Fk (F:=(fu,q)) (G:=X) hX (hd)]
 rfl
theorem GK{d:Nat}{fu re:List T}{q r b:Int}{X:List T×Int}{cs:Cs}(hA:Fm 18 fu)(hB:Fm 18 re)(e1:aB fi d 185 [.node (fN (re,r)),.int b] []=some (.node (fN X)))(hX:Fm 18 (fu++X.1))(hd:41<=d):
  ((aB fi d 204 [V.lst ((b9 fu q).map V.node)] []).bind λv=>(aB fi d 204 [V.lst ((b9 re r).map V.node)] []).bind λw=>((a8 w cs).bind λp=>(some ([V.int b],p.2)).map λq=>(p.1::q.1,q.2)).bind λa=>(aB fi d 185 a.1 []).bind λx=>(cG (aB fi d) .Add v x).bind λy=>(a8 y a.2).bind λq=>some q.1)=some (.node (fN (fu++X.1,q+X.2))):=by
 rw[bS (v7 hA (bT hd rfl) ..),bS (v7 hB (bT hd rfl) ..)];show(aB fi d 185 [.node (fN (re,r)),.int b] []).bind _=_;rw[bS (e1 ..),uT,Fk (F:=(fu,q)) (G:=X) hX (hd)];rfl
theorem rM.symm{t u:T}(h:rM t u):rM u t:=λc hc h1 h2=>h c hc h2 h1
theorem DZ{t u:T}:∀{ts:List T},ts.Pairwise rM->t∈ts->u∈ts->t≠u->rM t u
 |x::r,h,ht,hu,f5=>by
  refine oA (f7.mp h) λh1 h2=>?_;rcases a7.mp ht with e1|m1
  ·rcases a7.mp hu with e2|m2
   ·exact absurd (e1.trans e2.symm) f5
   ·rw[e1];exact h1 u m2
  ·rcases a7.mp hu with e2|m2
   ·rw[e2];exact(h1 t m1).symm
   ·exact DZ h2 m1 m2 f5
structure PF(F:List T×Int):Prop where
 tp:∀t∈F.1,Tp t
 ap:F.1.Pairwise rM
 vcs:T.vcs F.1<=5
 k0:0<=F.2
 hi:T.his F.1+F.2<BM
theorem Z2{t:T}(h:Tp t):1<=t.vc:=by have:=h.sz;lia
theorem Co{t:T}:∀{ts:List T},t∈ts->t.vc<=T.vcs ts
 |u::r,h=>by
  rw[T.vcs];rcases a7.mp h with rfl|h
  ·lia
  ·have:=Co h;lia
theorem v8:∀{ts:List T},(∀t∈ts,Tp t)->ts.length<=T.vcs ts
 |[],_=>d3 _
 |t::r,h=>by
  have h1:=Z2 (h t aE);have h2:=v8 λu hu=>h u (aI t hu);rw[T.vcs,bL];lia
theorem v9:∀a b:List T,T.vcs (a++b)=T.vcs a+T.vcs b
 |[],b=>by rw[jO,T.vcs];lia
 |t::r,b=>by rw[kK,T.vcs,T.vcs,v9 r b];lia
theorem PF.fm{F:List T×Int}(h:PF F):Fm 18 F.1:=
 ⟨λt ht=>(h.tp t ht).gt (aR (Co ht) h.vcs),h.ap,by have:=v8 h.tp;have:=h.vcs;lia⟩
theorem PF.rng{F:List T×Int}(h:PF F):0<=T.los F.1/\T.los F.1<=T.his F.1:=
 let q:=sB λt ht=>⟨(h.tp t ht).full.rng.1,(h.tp t ht).full.rng.2.1⟩
 ⟨q.1,q.2.1⟩
def cM(l:List T):Nat:=(l.filter sF).length
def cB(b:Int)(l:List T):Nat:=(l.filter λt=>sF t&&decide (g8 t=b)).length
theorem Z3(a b:List T):cM (a++b)=cM a+cM b:=by unfold cM;rw[jL,bU]
theorem qF(t:T)(r:List T):cM (t::r)=(bif sF t then 1 else 0)+cM r:=by
 unfold cM;induction h:sF t using Bool.casesOn with
 |true=>rw[cD h,bL,bV];lia
 |false=>rw[cV (by rw[h];decide),bG];lia
theorem tJ{b:Int}{t:T}(h:Tp t)(hb:2<=b)(hf:full b t=true):∃a q,t=.mul a (b*q)/\1<=q/\Fr a/\uG b t=tm a q/\Tp (tm a q)/\(tm a q).vc=t.vc/\(∀x,dS x (tm a q)->dS x t)/\t.lo=b*(tm a q).lo/\t.hi=b*(tm a q).hi:=by
 have hM:sF t=true:=by
  have h1:=h.at_;induction hMm:sF t using Bool.casesOn with
  |true=>rfl
  |false=>
   have e:jN t=t:=by clear h1 hf h;induction t using T.casesOn<;>first|rfl|exact jA hMm
   clear hMm;rw[e]at h1;rw[Cl hb h1]at hf;exact bX hf
 obtain⟨a,c,rfl⟩:=sG hM;refine oA (h.mul a c rfl) λh1 h2=>?_;clear hM;obtain⟨q,rfl⟩:=(jY (by exact iB hb rfl)).mp (aM hf:Int.fmod c b=0)
 have hq:Int.fdiv (b*q) b=q:=by rw[aG _ (by exact iA hb rfl),eH _ (by exact aQ (iB hb rfl))]
 have hq1:1<=q:=by
  rcases eL q 1 with z|z
  ·have:=bY (show 0<=b by exact iA hb rfl) (show q<=0 by exact iK z rfl);lia
  ·exact z
 have mQ:Fr a:=h.fr.elim id λz=>by exact bX z
 have r:=mQ.nd.rng;have hle:a.hi*q<=a.hi*(b*q):=dN (by have:=cH (show 1<=b by exact iA hb rfl) (show 0<=q by exact iA hq1 rfl);lia) (by exact aO (aJ r.1 r.2.1))
 refine oA (NL (a:=a) hq1) λt1 t2=>?_;refine A6 (GG mQ hq1 (by exact aJ hle h2)) λt3 t4 t5=>?_
 refine Dj a q rfl hq1 mQ ?_ t3 ?_ (λx z=>by rw[dS];exact t5 x z) ?_ ?_
 ·show tm a (Int.fdiv (b*q) b)=_;rw[hq]
 ·rw[t4,T.vc,(sK mQ.b).1]
 ·rw[t1,r8,cT (aH (by exact iA h1 rfl:0<=b*q) ..),qJ]
 ·rw[t2,pL,cT (aH (by exact iA h1 rfl:0<=b*q) ..),qJ]
theorem NU{a:T}{q:Int}(h:Fr a):sF (tm a q)=!decide (q=1):=by
 unfold tm;induction hq:decide (q=1) using Bool.casesOn with
 |true=>rw[bV];have:=k7 h.b;clear h;induction a using T.casesOn<;>first|(exact bX this;done)|rfl
 |false=>rfl
theorem Cp{b:Int}(hb:2<=b):∀{ts:List T},(∀t∈ts,Tp t)->
  T.los ts=b*T.los (tH b ts)+T.los (iF b ts)/\T.his ts=b*T.his (tH b ts)+T.his (iF b ts)/\T.vcs (tH b ts)+T.vcs (iF b ts)=T.vcs ts/\cM (tH b ts)+cB b ts+cM (iF b ts)<=cM ts/\
  (∀u∈tH b ts,Tp u/\∃t∈ts,full b t=true/\∀c,dS c u->dS c t)
 |[],_=>⟨by show(0:Int)=b*0+0;lia,by show(0:Int)=b*0+0;lia,rfl,cA _,λu hu=>(by cases hu)⟩
 |t::r,h=>by
  refine CM (Cp hb (ts:=r) λu hu=>h u (aI _ hu)) λi1 i2 i3 i4 i5=>?_;have i5':∀u∈tH b r,Tp u/\∃t'∈t::r,full b t'=true/\∀c,dS c u->dS c t':=λu hu=>by
   refine B4 (i5 u hu) λq1 t' q2 q3=>?_;exact jAEA q1 t' (aI _ q2) q3
  have ht:=h t aE;induction hf:full b t using Bool.casesOn with
  |true=>
   refine xC (tJ ht hb hf) λa q e0 hq1 mQ e1 e2 e3 e4 e5 e6=>?_;have ef:tH b (t::r)=tm a q::tH b r:=by unfold tH;rw[cD hf,bO,e1]
   have er:iF b (t::r)=iF b r:=cV (by rw[hf];decide)
   rw[ef,er];refine LK ?_ ?_ ?_ ?_ (λu hu=>?_)
   ·show t.lo+T.los r=b*((tm a q).lo+T.los (tH b r))+_;rw[i1,e5,qI];lia
   ·show t.hi+T.his r=b*((tm a q).hi+T.his (tH b r))+_;rw[i2,e6,qI];lia
   ·rw[T.vcs,T.vcs,e3];lia
   ·have hm:sF t=true:=by rw[e0];rfl
    rw[qF,qF,NU mQ,cT (hm ..)];have:cB b (t::r)=(bif decide (q=1)then 1 else 0)+cB b r:=by
     unfold cB;have ec:decide (g8 t=b)=decide (q=1):=by
      rw[e0];show decide (b*q=b)=_;by_cases z:q=1
      ·rw[z,dF,aH rfl,aH rfl]
      ·rw[aK z];refine aK λy=>z ?_;exact Int.eq_of_mul_eq_mul_left (by exact aQ (iB hb rfl):b≠0) (by rw[y,dF])
     induction hd:decide (q=1) using Bool.casesOn with
     |true=>rw[cD (by rw[hm,ec,hd];rfl),bL,bV];lia
     |false=>rw[cV (by rw[hm,ec,hd];decide),bG];lia
    rw[this];induction decide (q=1) using Bool.casesOn<;>simp only[gS,g4,bV,bG]<;>lia
   ·rcases a7.mp hu with rfl|hu
    ·exact jAEAA e2 t aE hf e4
    ·exact i5' u hu
  |false=>
   have ef:tH b (t::r)=tH b r:=by unfold tH;rw[cV (by rw[hf];decide)]
   have er:iF b (t::r)=t::iF b r:=cD (by rw[hf];rfl)
   rw[ef,er];refine LK ?_ ?_ ?_ ?_ i5'
   ·show t.lo+T.los r=_+(t.lo+T.los (iF b r));lia
   ·show t.hi+T.his r=_+(t.hi+T.his (iF b r));lia
   ·rw[T.vcs,T.vcs];lia
   ·rw[qF,qF];have:cB b (t::r)=cB b r:=by
     unfold cB;rw[cV];intro z;obtain⟨z1,z2⟩:=aL.mp z;have:full b t=true:=by
      unfold full;rw[aM z2];exact aH ((jY (by exact iB hb rfl)).mpr ⟨1,by rw[dF]⟩)
     rw[hf]at this;exact bX this
    exact Kc i4 this
theorem w6(b:Int)(ts:List T):∀t∈iF b ts,t∈ts/\full b t=false:=λt ht=>by
 refine oA (dC.mp ht) λh1 h2=>?_;exact⟨h1,by simpa using h2⟩
theorem PF.rest{F:List T×Int}{b:Int}(h:PF F)(hb:2<=b):PF (iF b F.1,Int.fmod F.2 b):=by
 refine CM (Cp hb h.tp) λh1 h2 h3 _ h5=>?_;have hk:Int.fmod F.2 b=F.2%b:=aS _ (by exact iA hb rfl)
 have hr:=sB (ts:=tH b F.1) λt ht=>⟨(h5 t ht).1.full.rng.1,(h5 t ht).1.full.rng.2.1⟩;have q1:=eE F.2 (by exact aQ (iB hb rfl):b≠0)
 have q2:=dB F.2 b;have q3:=eO (show 0<=b by exact iA hb rfl) (n6 h.k0 (show 0<=b by exact iA hb rfl))
 have q4:=eO (show 0<=b by exact iA hb rfl) (show 0<=T.his (tH b F.1) by exact a6 hr.1 hr.2.1)
 have hh:=h.hi;have hv:=h.vcs;refine⟨λt ht=>h.tp t (w6 b _ t ht).1,List.Pairwise.sublist (lA) h.ap,?_,?_,?_⟩
 ·show T.vcs (iF b F.1)<=5;lia
 ·show 0<=Int.fmod F.2 b;exact a6 q1 (dL hk.symm)
 ·show T.his (iF b F.1)+Int.fmod F.2 b<BM;exact Kd h2 hk q2 q3 q4 hh
structure XR(re:List T)(r b:Int)(X:List T×Int):Prop where
 pf:PF X
 lo:T.los X.1+X.2=Int.fdiv (T.los re+r) b
 hi:T.his X.1+X.2=Int.fdiv (T.his re+r) b
 vcs:T.vcs X.1<=T.vcs re
 lt:∀u∈X.1,∀c,dS c u->∃t∈re,dS c t
 cnt:cM X.1<=cM re
structure Res(F:List T×Int)(b:Int)(G:List T×Int):Prop where
 pf:PF G
 lo:T.los G.1+G.2=Int.fdiv (T.los F.1+F.2) b
 hi:T.his G.1+G.2=Int.fdiv (T.his F.1+F.2) b
 vcs:T.vcs G.1<=T.vcs F.1
 lt:∀u∈G.1,∀c,dS c u->∃t∈F.1,dS c t
 cnt:cM G.1+cB b F.1<=cM F.1
 fre:1<=cB b F.1->∃t∈G.1,j6 t=true/\Fr t
theorem Res.xr{re:List T}{r b:Int}{X:List T×Int}(h:Res (re,r) b X):XR re r b X:=⟨h.pf,h.lo,h.hi,h.vcs,h.lt,by have:cM X.1+cB b re<=cM re:=h.cnt;lia⟩
theorem jI{b z y:Int}(hb:0<b):Int.fdiv (b*z+y) b=z+Int.fdiv y b:=by
 rw[aG _ (aO hb),aG _ (aO hb),kJ,Int.add_mul_ediv_left _ _ (by exact aQ hb),kJ]
theorem Ft{b:Int}{ts:List T}(h:1<=cB b ts):∃t∈ts,sF t=true/\g8 t=b:=by
 unfold cB at h;obtain⟨t,ht⟩:=List.exists_mem_of_length_pos h;obtain⟨h1,h2⟩:=dC.mp ht;obtain⟨h3,h4⟩:=aL.mp h2;exact vA t h1 h3 (aM h4)
theorem Jt{F X:List T×Int}{b:Int}(h:PF F)(hb:2<=b)(hX:XR (iF b F.1) (Int.fmod F.2 b) b X):Res F b (tH b F.1++X.1,Int.fdiv F.2 b+X.2):=by
 refine CM (Cp hb h.tp) λh1 h2 h3 h4 h5=>?_;have ek:Int.fdiv F.2 b=F.2/b:=aG _ (by exact iA hb rfl)
 have er:Int.fmod F.2 b=F.2%b:=aS _ (by exact iA hb rfl)
 have q2:=dB F.2 b;have lo:T.los (tH b F.1++X.1)+(Int.fdiv F.2 b+X.2)=Int.fdiv (T.los F.1+F.2) b:=by
  have:T.los F.1+F.2=b*(T.los (tH b F.1)+F.2/b)+(T.los (iF b F.1)+F.2%b):=by rw[qI];lia
  have hl:=hX.lo;rw[er]at hl;rw[this,jI (by exact iB hb rfl),v5,<-hl,ek];lia
 have hi:T.his (tH b F.1++X.1)+(Int.fdiv F.2 b+X.2)=Int.fdiv (T.his F.1+F.2) b:=by
  have:T.his F.1+F.2=b*(T.his (tH b F.1)+F.2/b)+(T.his (iF b F.1)+F.2%b):=by rw[qI];lia
  have hl:=hX.hi;rw[er]at hl;rw[this,jI (by exact iB hb rfl),vZ,<-hl,ek];lia
 have hr:=h.rng;have hk:=h.k0;have hM:=h.hi;have vx:=hX.vcs;refine⟨⟨λt ht=>?_,?_,?_,?_,?_⟩,lo,hi,?_,λu hu c hc=>?_,?_,λhp=>?_⟩
 ·rcases b7.mp ht with ht|ht
  ·exact(h5 t ht).1
  ·exact hX.pf.tp t ht
 ·refine iX.mpr ⟨?_,hX.pf.ap,λu hu x hx c hc hcu hcx=>?_⟩
  ·unfold tH;rw[qK];refine(List.Pairwise.sublist lA h.ap).imp_of_mem λ{t u} ht hu q c hc h1 h2=>?_;obtain⟨m1,f1⟩:=dC.mp ht;obtain⟨m2,f2⟩:=dC.mp hu;refine pD (tJ (h.tp t m1) hb f1) λa q' _ _ _ e1 _ _ e4 _=>?_;refine pD (tJ (h.tp u m2) hb f2) λa' q'' _ _ _ e1' _ _ e4' _=>?_;exact q c hc (e4 c (e1▸h1)) (e4' c (e1'▸h2))
  ·refine QM (h5 u hu) λ_ t m1 f1 g1=>?_;obtain⟨t',m2,g2⟩:=hX.lt x hx c hcx;obtain⟨m2,f2⟩:=w6 b _ t' m2;exact DZ h.ap m1 m2 (λz=>by clear m2 g2;rw[z,f2]at f1;exact bX f1) c hc (g1 c hcu) g2
 ·show T.vcs (tH b F.1++X.1)<=5;rw[v9];have:=h.vcs;lia
 ·show 0<=Int.fdiv F.2 b+X.2;have:=n6 hk (show 0<=b by exact iA hb rfl);have:=hX.pf.k0;exact Ke ek (by assumption) this
 ·show T.his (tH b F.1++X.1)+(Int.fdiv F.2 b+X.2)<BM;rw[hi];have:=(gF (a:=T.his F.1+F.2) (b:=b) (by lia) (by exact iB hb rfl)).2;exact aJ this hM
 ·show T.vcs (tH b F.1++X.1)<=_;rw[v9];lia
 ·rcases b7.mp hu with hu|hu
  ·refine QM (h5 u hu) λ_ t m1 _ g1=>?_;exact kF t m1 (g1 c hc)
  ·obtain⟨t,m1,g1⟩:=hX.lt u hu c hc;exact kF t ((w6 b _ t m1).1) g1
 ·show cM (tH b F.1++X.1)+_<=_;rw[Z3];have:=hX.cnt;lia
 ·refine l6 (Ft hp) λt m1 hm hc=>?_;have hf:full b t=true:=by
   unfold full;rw[hc];exact aH ((jY (by exact iB hb rfl)).mpr ⟨1,by rw[dF]⟩)
  obtain⟨a,q,e0,hq1,mQ,e1,_⟩:=tJ (h.tp t m1) hb hf;clear right hq1;rw[e0]at hc;have hq:q=1:=Int.eq_of_mul_eq_mul_left (by exact aQ (iB hb rfl):b≠0) (by rw[show b*q=b from hc,dF])
  refine vA a (gG _ ?_) (k7 mQ.b) mQ;have:uG b t=a:=by rw[e1,hq];unfold tm;rw[aH rfl];rfl
  rw[<-this];exact fV (dC.mpr ⟨m1,hf⟩)
def x7(ts:List T):Prop:=(∀t∈ts,Fr (jN t))\/2<=(ts.filter j6).length
theorem x7.rest{b:Int}{ts:List T}(h:x7 ts)(hb:2<=b):x7 (iF b ts):=by
 rcases h with h|h
 ·exact .inl λt ht=>h t (w6 b ts t ht).1
 ·refine .inr ?_;have:(iF b ts).filter j6=ts.filter j6:=by
   unfold iF;rw[List.filter_filter];refine List.filter_congr λt _=>?_;induction ha:j6 t using Bool.casesOn with
   |true=>rw[Cl hb ha];rfl
   |false=>rfl
  rw[this];exact h
theorem Z4(t:T):t.nd<=(jN t).nd+1:=by
 induction t using T.casesOn with
 |mul a c=>show _<=a.nd+1;rw[T.nd];exact cA _
 |_=>exact tL _
theorem Cq:∀a b:List T,T.nds (a++b)=T.nds a+T.nds b
 |[],b=>by rw[jO,T.nds];lia
 |t::r,b=>by rw[kK,T.nds,T.nds,Cq r b];lia
theorem Bu:∀{ts:List T},(∀t∈ts,Tp t)->T.nds ts+4*ts.length<=14*T.vcs ts
 |[],_=>by rw[T.nds,T.vcs];exact cA _
 |t::r,h=>by
  have h1:=(h t aE).sz;have h2:=Z4 t;have h3:=Bu (ts:=r) λu hu=>h u (aI _ hu);rw[T.nds,T.vcs,bL];lia
theorem Qx(k:Int):T.vcs (b9 [] k)=0:=by
 unfold b9;induction decide (k=0) using Bool.casesOn with
 |true=>rw[bV,bW,T.vcs]
 |false=>rw[bG,jO,T.vcs,T.vcs,T.vc]
theorem GL(k:Int):T.nds (b9 [] k)<=1:=by
 unfold b9;induction decide (k=0) using Bool.casesOn with
 |true=>rw[bV,bW,T.nds];exact d3 _
 |false=>rw[bG,jO,T.nds,T.nds,T.nd];exact cA _
theorem nf_vc:∀l:List T,(J6 l).vc=T.vcs l
 |[]=>by show(T.num 0).vc=_;rw[T.vc,T.vcs]
 |[t]=>by show t.vc=_;rw[T.vcs,T.vcs];rfl
 |a::b::r=>by show(T.sum (a::b::r)).vc=_;rw[T.vc]
theorem fN_vc(F:List T×Int):(fN F).vc=T.vcs F.1:=by rw[fN,nf_vc,Aq,v9,Qx];rfl
theorem Qy{F:List T×Int}{c:Nat}(h:dS c (fN F)):∃t∈F.1,dS c t:=by
 unfold fN at h;have key:hasVs c (b9 F.1 F.2):=by
  generalize b9 F.1 F.2=l at h
  match l,h with
  |[],h=>exact absurd h (by show ¬dS c (.num 0);rw[dS];exact id)
  |[t],h=>exact wZ.mpr ⟨t,aE,h⟩
  |a::b::r,h=>have h:dS c (.sum (a::b::r)):=h;rw[dS]at h;exact h
 have:dS c (.sum (b9 F.1 F.2)):=by rw[dS];exact key
 exact Br.mp this
theorem GO{t:T}(h:Tp t)(hf:Fr (jN t)):Nd 4 t/\t.nd<=5/\t.vc=1:=by
 have hv:t.vc=1:=by rw[<-NK];exact(sK hf.b).1
 refine uA ?_ (by have:=Z4 t;have:=(sK hf.b).2;lia) hv
 by_cases hm:∃a c,t=.mul a c
 ·clear hv;obtain⟨a,c,rfl⟩:=hm;obtain⟨h1,h2⟩:=h.mul a c rfl;exact .mul (n:=3) hf.nd (k7 hf.b) h1 h2
 ·have e:jN t=t:=by
   induction t using T.casesOn with
   |mul a c=>exact absurd ⟨a,c,rfl⟩ hm
   |_=>rfl
  have:=hf.nd;rw[e]at this;exact this.mono (by lia)
theorem Qz{W:List T×Int}(h:PF W)(hc:x7 W.1)(f5:W.1≠[]):Nd (3*T.vcs W.1+2) (fN W)/\(fN W).nd+6<=14*T.vcs W.1:=by
 obtain⟨ts,k⟩:=W;have f5:ts≠[]:=f5;have hl:=iR ts k;have eW:=h.fm.len;have hv:∀t∈ts,t.vc<=T.vcs ts:=λt ht=>Co ht;by_cases h1:ts.length=1
 ·clear hv;obtain⟨t,rfl⟩:=List.length_eq_one_iff.mp h1;have ht:=h.tp t aE;have hf:Fr (jN t):=hc.elim (λz=>z t aE) λz=>by
   have:=dM j6 [t];rw[d0]at this;have z:2<=([t].filter j6).length:=z;lia
  refine A6 (GO ht hf) λf1 f2 f3=>?_;have ev:T.vcs [t]=1:=by rw[T.vcs,T.vcs,f3]
  show Nd (3*T.vcs [t]+2) _/\_+6<=14*T.vcs [t];rw[ev];by_cases hk:k=0
  ·clear eW hl hc h;subst hk;rw[fD];exact⟨f1.mono (by lia),by lia⟩
  ·have hs:b9 [t] k=[t,.num k]:=by unfold b9;rw[aK hk];rfl
   have e:fN ([t],k)=.sum (b9 [t] k):=by unfold fN;rw[hs];rfl
   rw[e];refine⟨.sum (n:=4) (λu hu=>?_) (λu hu=>?_) f5 (by rw[hs];exact cA _) (aX rfl) h.k0 h.hi h.ap,?_⟩
   ·rw[aN.mp hu];exact f1
   ·rw[aN.mp hu];exact(ht.gt (by exact iG (f9 f3) rfl)).term
   ·rw[hs,T.nd,T.nds,T.nds,T.nds,T.nd];lia
 ·have h2:2<=ts.length:=by
   have:=oJ.mpr f5;lia
  have e:fN (ts,k)=.sum (b9 ts k):=by
   unfold fN;have:2<=(b9 ts k).length:=by exact aR h2 hl.1
   generalize b9 ts k=l at this
   match l,this with
   |_::_::_,_=>rfl
  have hvl:∀t∈ts,t.vc+1<=T.vcs ts:=λt ht=>by
   clear e h1 hv eW hl f5 hc;obtain⟨a,b,rfl⟩:=List.append_of_mem ht;rw[v9,T.vcs];have q1:=v8 (ts:=a) λu hu=>h.tp u (gG _ hu);have q2:=v8 (ts:=b) λu hu=>h.tp u (jV _ (aI _ hu));rw[bU,bL]at h2;lia
  have hb:=Bu h.tp;rw[e];refine⟨.sum (n:=3*T.vcs ts+1) (λu hu=>(h.tp u hu).full.mono (by have:=hvl u hu;lia)) (λu hu=>(h.fm.gt u hu).term) f5 (by exact aR h2 hl.1) eW h.k0 h.hi h.ap,?_⟩
  have:=GL k;rw[Aq,T.nd,Cq];have hb:T.nds ts+4*ts.length<=14*T.vcs ts:=hb;show T.nds ts+_+1+6<=14*T.vcs ts
  grind
theorem w7{n:Int}(h:0<=n)(h2:n<BM):PF ([],n):=⟨by simp,.nil,by show T.vcs []<=5;rw[T.vcs];lia,h,by show(0:Int)+n<BM;lia⟩
theorem los_nil:T.los []=0:=rfl
theorem his_nil:T.his []=0:=rfl
theorem NV:cM []=0:=rfl
theorem fitq{n b:Int}(hn:n.natAbs<2^900)(hb:1<=b)(fX:b<BM):jQ (-Int.fdiv n b*b)=true:=by
 refine g9 (bA (oT ?_ (gZ (by exact iA hb rfl) fX)) (by decide+kernel))
 rw[Int.natAbs_neg,aG _ (by exact iA hb rfl)]
 exact aP (iE n b) hn
theorem Cr{n b:Int}(h:0<=n)(h2:n<BM)(hb:1<=b):Res ([],n) b ([],Int.fdiv n b):=by
 have q:=gF (a:=n) (b:=b) h (hb);exact⟨w7 q.1 (by exact aJ q.2 h2),by show(0:Int)+_=Int.fdiv (0+n) b;rw[cY,cY],by show(0:Int)+_=Int.fdiv (0+n) b;rw[cY,cY],cA _,λu hu=>(by cases hu),cA _,λz=>absurd z (by show ¬1<=0;lia)⟩
theorem oV{d:Nat}{n b:Int}(hn:n.natAbs<2^900)(hb:1<=b)(fX:b<BM)(hd:8<=d):u6 d (.num n) b=some (.node (.num (Int.fdiv n b))):=
 Cj hb (j7 (by exact iA hb rfl) fX) (fitq hn hb fX) hd
theorem R6{d:Nat}{W:List T×Int}{b:Int}(h:PF W)(hc:x7 W.1)(hb:2<=b)(fX:b<BM)(hd:10<=d):∃X,aB fi d 185 [.node (fN W),.int b] []=some (.node (fN X))/\XR W.1 W.2 b X:=by
 by_cases f5:W.1=[]
 ·obtain⟨ts,k⟩:=W;have f5:ts=[]:=f5;clear hc;subst f5;have hk:k<BM:=by have:(0:Int)+k<BM:=h.hi;lia
  rw[dY,Cj (by exact iA hb rfl) (j7 (by exact iA hb rfl) fX) (fitq (gZ h.k0 hk) (by exact iA hb rfl) fX) (bT hd rfl)]
  refine⟨([],Int.fdiv k b),by rw[dY],(Cr h.k0 hk (by exact iA hb rfl)).xr⟩
 ·refine jC d 9 hd λd _=>?_;obtain⟨hn,hsz⟩:=Qz h hc f5;have r:=hn.rng;obtain⟨⟨q1,q2⟩,q3⟩:=yH hn hb;rw[xL]at q1;rw[v6]at q2;rw[w5,pO r.1 (aO r.2.1) hb (j7 (by exact iA hb rfl) fX) (by exact bT (by assumption) (by rfl))]
  have rr:=h.rng;have hk:=h.k0;have hM:=h.hi;rcases q3 with⟨n,e⟩|⟨e,hd⟩
  ·rw[e]at q1 q2⊢;clear e;rw[T.lo]at q1;rw[T.hi]at q2;have p:=gF (a:=T.los W.1+W.2) (b:=b) (by lia) (by exact iB hb rfl)
   refine⟨([],n),by rw[dY],w7 (by exact a6 p.1 (dL q1.symm)) (Kg rr hM q2 q1 p),by show(0:Int)+n=_;exact u9 q1,by show(0:Int)+n=_;exact u9 q2,d3 _,λu hu=>(by cases hu),d3 _⟩
  ·rw[e]at q1 q2⊢;have ev:(T.div (fN W) b).vc=T.vcs W.1:=by rw[T.vc,fN_vc]
   have vv:=h.vcs;have htp:Tp (.div (fN W) b):=⟨by rw[ev];exact hd,rfl,λa c z=>(by cases z),by rw[ev];show(T.div (fN W) b).nd+5<=_;rw[T.nd];exact hsz,.inr rfl⟩
   have e1:T.vcs [T.div (fN W) b]=T.vcs W.1:=by rw[T.vcs,T.vcs,ev];rfl
   have hp:=gF (a:=T.his W.1+W.2) (b:=b) (by lia) (by exact iB hb rfl)
   refine⟨([.div (fN W) b],0),by rw[fD],⟨λt ht=>?_,gJ _ _,by show T.vcs [T.div (fN W) b]<=5;rw[e1];exact vv,fI 0,?_⟩,?_,?_,f9 e1,λu hu c hcu=>?_,d3 _⟩
   ·rw[aN.mp ht];exact htp
   ·show(T.div (fN W) b).hi+0+0<BM;exact Kh q2 hM hp
   ·show(T.div (fN W) b).lo+0+0=_;exact CS q1
   ·show(T.div (fN W) b).hi+0+0=_;exact CS q2
   ·rw[aN.mp hu,dS]at hcu;exact Qy hcu
theorem Ct{b:Int}{ts:List T}(h:∀t∈ts,full b t=true):iF b ts=[]/\tH b ts=ts.map (uG b):=by
 unfold iF tH;refine⟨jM.mpr λt ht=>by rw[h t ht];decide,?_⟩
 rw[k8.mpr h]
theorem Bv{d:Nat}{W:List T×Int}{g:Int}(h:PF W)(hg:2<=g)(hg2:g<BM)(hf:∀t∈W.1,full g t=true)(hr:Int.fmod W.2 g=0)(hd:43<=d):u6 d (fN W) g=some (.node (fN (W.1.map (uG g),Int.fdiv W.2 g))):=by
 obtain⟨ts,k⟩:=W;have hk:k.natAbs<2^900:=gZ h.k0 (by have:=h.hi;have:=h.rng;show k<BM;have h1:T.his ts+k<BM:=h.hi;have h2:0<=T.los ts/\T.los ts<=T.his ts:=h.rng;lia)
 have fg:=j7 (show 0<=g by exact iA hg rfl) hg2
 match ts,h,hf with
 |[],h,_=>
  rw[dY,oV hk (by exact iA hg rfl) hg2 (bT hd rfl)]
  show _=some (V.node (fN ([],Int.fdiv k g)));rw[dY]
 |t::ts,h,hf=>
  by_cases h1:2<=(b9 (t::ts) k).length
  ·have hfm:=h.fm;have e:fN (t::ts,k)=.sum (b9 (t::ts) k):=by
    unfold fN;generalize b9 (t::ts) k=l at h1
    match l,h1 with
    |_::_::_,_=>rfl
   refine jC d 42 hd λd _=>?_;refine Oo (sc (d:=d) (b:=g) hfm (by simp) h1 hg hg2 (λu hu z=>by rw[hf u hu]at z;exact jA z) hk (by exact bT (by assumption) (by rfl))) λx ex e2=>?_
   obtain⟨r1,r2⟩:=Ct (b:=g) hf;have hr:Int.fmod k g=0:=hr;have eg:((qU g (t::ts) k:Nat):Int)=g:=by
    obtain⟨gf,_⟩:=rQ (b:=g) (k:=k) λu hu=>(hfm.gt u hu).term;have m:=gf.mx g.toNat (by rw[oH (by exact iA hg rfl)];exact Int.dvd_refl _) (λu hu=>by rw[r1]at hu;cases hu) (by rw[hr];exact Int.dvd_zero _)
    have dv:=gf.dvb;have m2:g∣((qU g (t::ts) k:Nat):Int):=by
     have:=Int.ofNat_dvd.mpr m;rwa [oH (by exact iA hg rfl)]at this
    exact Int.dvd_antisymm (g5 _) (by exact iA hg rfl) dv m2
   rw[e,e2,Cm,eg,cT (aH (by exact hg:1<g) ..),r1,r2,hr]
   have hp:=(Jt h hg (X:=([],0)) (by
    rw[show iF g (t::ts,k).1=[]from r1,show Int.fmod (t::ts,k).2 g=0 from hr];refine⟨w7 (fI 0) (by decide+kernel),?_,?_,cA _,λu hu=>(by cases hu),cA _⟩
    ·show(0:Int)+0=Int.fdiv (0+0) g;rw[cY,fP]
    ·show(0:Int)+0=Int.fdiv (0+0) g;rw[cY,fP])).pf.fm
   rw[show tH g (t::ts,k).1=(t::ts).map (uG g)from r2]at hp;have z0:u6 d (fN ([],0)) g=some (.node (.num 0)):=by
    rw[dY,oV (by decide+kernel) (by exact iA hg rfl) hg2 (by exact bT (by assumption) (by rfl)),fP]
   have z1:u6 d (.num 0) (Int.fdiv g g)=some (.node (fN ([],0))):=by
    rw[show Int.fdiv g g=1 by rw[aG _ (by exact iA hg rfl),Int.ediv_self (by exact aQ (iB hg rfl))],oV (by decide+kernel) (by lia) (by decide+kernel) (by exact bT (by assumption) (by rfl)),fP,dY]
   have hp':Fm 18 ((t::ts).map (uG g)):=by simpa using hp
   rw[Ar (X:=([],0)) hp' (Fm.nil 18) (by exact aQ (iB hg rfl)) fg z0 z1 (by simpa using hp') (by exact bT (by assumption) (by rfl))]
   simp
  ·have hl:=iR (t::ts) k;have hts:ts=[]:=by
    induction ts using List.casesOn with
    |nil=>rfl
    |cons a b=>simp at hl h1;lia
   subst hts;have hk0:k=0:=by
    by_cases z:k=0
    ·exact z
    ·exact absurd (by unfold b9;rw[aK z];exact cA 2) h1
   clear hl h1 hr hk;subst hk0;have ht:=h.tp t aE;refine tM (tJ ht hg (hf t aE)) λa q e0 hq1 mQ e1 _=>?_;rw[fP,fD];show _=some (V.node (fN ([uG g t],0)));rw[fD,e0];have gt:=ht.gt (by rw[<-NK,e0];show a.vc<=5;rw[(sK mQ.b).1];lia)
   obtain⟨g0,_,g2⟩:=gt.mul a (g*q) e0;exact rP mQ.nd (k7 mQ.b) (by exact iA hg rfl) hg2 ⟨q,rfl⟩ g0 g2 (bT hd rfl)
theorem Fm.left{n:Nat}{a b:List T}(h:Fm n (a++b)):Fm n a:=
 ⟨λt ht=>h.gt t (gG _ ht),(iX.mp h.ap).1,by have:=h.len;rw[bU]at this;lia⟩
theorem Fu{F:List T×Int}(h:PF F):F.2<BM:=by have:=h.hi;have:=h.rng;lia
theorem rR{ts:List T}{k:Int}(h:¬2<=(b9 ts k).length)(f5:ts≠[]):∃t,ts=[t]/\k=0:=by
 have hl:=iR ts k;induction ts using Ka with
 |nil=>exact absurd rfl f5
 |one t=>
  refine kF t rfl ?_;by_cases z:k=0
  ·exact z
  ·exact absurd (by unfold b9;rw[aK z];exact cA 2) h
 |two a b r=>simp at hl h;lia
theorem t7{b:Int}{t:T}(h:1<=cB b [t]):sF t=true/\g8 t=b:=by
 refine l6 (Ft h) λu hu h1 h2=>?_;rw[aN.mp hu]at h1 h2;exact⟨h1,h2⟩
theorem NW{d:Nat}{F:List T×Int}{b:Int}(h:PF F)(hc:x7 F.1)(hs:¬2<=(b9 F.1 F.2).length)(hb:1<=b)(fX:b<BM)(hd:10<=d):∃G,u6 d (fN F) b=some (.node (fN G))/\Res F b G:=by
 obtain⟨ts,k⟩:=F;by_cases f5:ts=[]
 ·clear hs hc;subst f5;have hk:k<BM:=Fu h;exact kF ([],Int.fdiv k b) (by rw[dY,dY,oV (gZ h.k0 hk) hb fX (bT hd rfl)]) (Cr h.k0 hk hb)
 ·obtain⟨t,rfl,rfl⟩:=rR hs f5;have ht:=h.tp t aE;have hf:Fr (jN t):=hc.elim (λz=>z t aE) λz=>by
   have:=dM j6 [t];rw[d0]at this;have z:2<=([t].filter j6).length:=z;lia
  refine A6 (GO ht hf) λf1 f2 f3=>?_;have ev:T.vcs [t]=1:=by rw[T.vcs,T.vcs,f3]
  have fin:∀r,u6 d t b=some (.node r)->ResT t b r->(sF t=true->g8 t=b->j6 r=true/\Fr r)->(sF t=false->sF r=false)->∃G,u6 d (fN ([t],0)) b=some (.node (fN G))/\Res ([t],0) b G:=λr e hr hM hP=>by
   rw[fD,e];have l1:T.los [t]+0=t.lo:=by show t.lo+0+0=_;lia
   have l2:T.his [t]+0=t.hi:=by show t.hi+0+0=_;lia
   have rr:=f1.rng;have p1:=gF (a:=t.hi) (b:=b) (by exact aO (aJ rr.1 rr.2.1)) (hb)
   have p2:=gF (a:=t.lo) (b:=b) (by exact rr.1) (hb)
   rcases hr.or_ with⟨n,rfl⟩|⟨h1,h2,h3⟩
   ·have e1:=hr.lo;have e2:=hr.hi;rw[T.lo]at e1;rw[T.hi]at e2;refine⟨([],n),by rw[dY],w7 (by exact a6 p2.1 (dL e1.symm)) (by exact aJ (a6 (dL e2) p1.2) rr.2.2),?_,?_,d3 _,λu hu=>(by cases hu),?_,λz=>?_⟩
    ·show(0:Int)+n=Int.fdiv (T.los [t]+0) b;rw[l1];exact u9 e1
    ·show(0:Int)+n=Int.fdiv (T.his [t]+0) b;rw[l2];exact u9 e2
    ·show 0+cB b [t]<=cM [t];by_cases z:1<=cB b [t]
     ·obtain⟨q1,q2⟩:=t7 z;have:=(hM q1 q2).1;exact bX this
     ·lia
    ·obtain⟨q1,q2⟩:=t7 z;have:=(hM q1 q2).1;exact bX this
   ·have e3:T.vcs [r]=r.vc:=by rw[T.vcs,T.vcs];rfl
    refine⟨([r],0),by rw[fD],⟨λu hu=>by rw[aN.mp hu];exact h1,gJ _ _,by show T.vcs [r]<=5;exact aR (aR (f9 e3) h2) (iG (f9 f3) rfl),fI 0,?_⟩,?_,?_,by show T.vcs [r]<=T.vcs [t];exact h2,λu hu c hcu=>?_,?_,λz=>?_⟩
    ·show r.hi+0+0<BM;rw[hr.hi];exact Ki l2 rr p1
    ·show r.lo+0+0=Int.fdiv (T.los [t]+0) b;rw[l1,hr.lo];exact CT
    ·show r.hi+0+0=Int.fdiv (T.his [t]+0) b;rw[l2,hr.hi];exact CT
    ·rw[aN.mp hu]at hcu;exact kF t aE (h3 c hcu)
    ·show cM [r]+cB b [t]<=cM [t];by_cases z:1<=cB b [t]
     ·obtain⟨q1,q2⟩:=t7 z;have ha:=(hM q1 q2).1;have:sF r=false:=by clear e3 h3 h2 h1 hP hM hr e;induction r using T.casesOn<;>first|rfl|(exact bX ha;done)
      rw[qF,qF,this,q1,bG,bV];have:cB b [t]<=1:=dM _ _;lia
     ·have q:cB b [t]=0:=by lia
      rw[q,qF,qF];induction hMt:sF t using Bool.casesOn with
      |true=>induction sF r using Bool.casesOn<;>simp[NV]
      |false=>rw[hP hMt];simp[NV]
    ·obtain⟨q1,q2⟩:=t7 z;obtain⟨q3,q4⟩:=hM q1 q2;exact vA r aE q3 q4
  by_cases hm:∃a c,t=.mul a c
  ·clear ev f3 f2 f1 hs hc h f5;obtain⟨a,c,rfl⟩:=hm;obtain⟨m1,m2⟩:=ht.mul a c rfl;refine l6 (Fp (a:=a) (d:=d) hf m1 m2 hb fX (hd)) λr e1 e2 e3=>?_;refine fin r e1 e2 (λ_ hcb=>?_) λz=>by exact jA z
   have hcb:c=b:=hcb;clear e2 e1 fin fX hb;subst hcb;have:r=a:=by
    rw[e3 (Int.dvd_refl c),show Int.fdiv c c=1 by rw[aG _ (by exact iA m1 rfl),Int.ediv_self (by exact aQ (iB m1 rfl))]]
    unfold tm;rw[aH rfl];rfl
   rw[this];exact⟨k7 hf.b,hf⟩
  ·have e:jN t=t:=by
    induction t using T.casesOn with
    |mul a c=>exact absurd ⟨a,c,rfl⟩ hm
    |_=>rfl
   clear ev f2 f1;rw[e]at hf;refine i8 (NJ (d:=d) hf hb fX (bT hd rfl)) λr e1 e2=>?_;refine fin r e1 (e2.toT (by exact f9 f3.symm)) (λz=>absurd (sG z) hm) λ_=>?_
   rcases e2.or_ with⟨n,rfl⟩|⟨q,_⟩
   ·rfl
   ·have:=k7 q.b;clear right q e2 e1;induction r using T.casesOn<;>first|rfl|(exact bX this;done)
theorem Cu{p:T->Bool}{x y:T}:∀{l:List T},x∈l->y∈l->x≠y->p x=true->p y=true->2<=(l.filter p).length
 |a::r,hx,hy,f5,px,py=>by
  have one:∀{z:T},z∈r->p z=true->1<=(r.filter p).length:=λhz pz=>oJ.mpr (List.ne_nil_of_mem (dC.mpr ⟨hz,pz⟩));rcases a7.mp hx with e1|m1
  ·rcases a7.mp hy with e2|m2
   ·exact absurd (e1.trans e2.symm) f5
   ·rw[cD (by rw[<-e1];exact px),bL];have:=one m2 py;lia
  ·rcases a7.mp hy with e2|m2
   ·rw[cD (by rw[<-e2];exact py),bL];have:=one m1 px;lia
   ·have:=Cu m1 m2 f5 px py;induction ha:p a using Bool.casesOn with
    |true=>rw[cD ha,bL];exact bD (j0 this)
    |false=>rw[cV (by rw[ha];decide)];exact this
theorem R7(b:Int)(ts:List T):cM (iF b ts)<=cM ts:=by
 unfold cM iF;exact((lA).filter sF).length_le
theorem R8{b:Int}{ts:List T}{t:T}(ht:t∈ts)(h1:sF t=true)(h2:g8 t=b):1<=cB b ts:=
 oJ.mpr (List.ne_nil_of_mem (dC.mpr ⟨ht,by rw[h1,h2,aH rfl];rfl⟩))
theorem XR.trans{W Y X:List T×Int}{e b:Int}(h1:Res W e Y)(he:1<=e)(hd:e∣b)(hb:1<=b)(h2:Res Y (Int.fdiv b e) X):XR W.1 W.2 b X:=by
 obtain⟨q,rfl⟩:=hd;have hq:Int.fdiv (e*q) e=q:=by rw[aG _ (by exact iA he rfl),eH _ (by exact aQ (iB he rfl))]
 have hq1:1<=q:=by
  rcases eL q 1 with z|z
  ·have:=bY (show 0<=e by exact iA he rfl) (show q<=0 by exact iK z rfl);lia
  ·exact z
 rw[hq]at h2;refine⟨h2.pf,by rw[h2.lo,h1.lo,kI (he) (hq1)],by rw[h2.hi,h1.hi,kI (he) (hq1)],aR h2.vcs h1.vcs,λu hu c hc=>?_,by have:=h1.cnt;have:=h2.cnt;lia⟩
 refine i8 (h2.lt u hu c hc) λt m g=>?_;exact h1.lt t m c g
def ST(m:Nat):Prop:=∀(F:List T×Int) (b:Int) (d:Nat),PF F->x7 F.1->1<=b->b<BM->cM (iF b F.1)<=m->45+2*m<=d->∃G,u6 d (fN F) b=some (.node (fN G))/\Res F b G
def SQ(m:Nat):Prop:=∀(F:List T×Int) (b:Int) (d:Nat),PF F->x7 F.1->2<=b->b<BM->cM (iF b F.1)<=m->44+2*m<=d->(2<=(b9 F.1 F.2).length->¬(1:Int)<qU b F.1 F.2)->∃G,u6 d (fN F) b=some (.node (fN G))/\Res F b G
theorem uV{F:List T×Int}(h:2<=(b9 F.1 F.2).length):fN F=.sum (b9 F.1 F.2):=by
 unfold fN;generalize b9 F.1 F.2=l at h
 match l,h with
 |_::_::_,_=>rfl
theorem Fv{F:List T×Int}(h:2<=(b9 F.1 F.2).length):F.1≠[]:=λe=>by
 have:=(iR F.1 F.2).2;rw[e]at this h;simp at this;exact i7 _ (aZ (bT h rfl) this)
theorem Z5{m:Nat}(ih:∀m',m'<m->ST m'):SQ m:=λF b d h hc hb fX hcm hd hg=>by
 by_cases hs:2<=(b9 F.1 F.2).length
 ·have hg:=hg hs;refine jC d (43+2*m) (by lia) λd _=>?_
  have f5:=Fv hs;have hk:=gZ h.k0 (Fu h);have hterm:∀t∈F.1,dO t=true:=λt ht=>(h.fm.gt t ht).term;obtain⟨x,ex,e⟩:=sc (d:=d) h.fm f5 hs hb fX (λu hu _=>by
   have hu:=h.tp u hu;induction u using T.casesOn with
   |mul a c=>have:=(hu.mul a c rfl).1;show 0<c;exact iB this rfl
   |_=>show(0:Int)<1;decide) hk (by lia)
  have hW:=h.rest hb;have hCW:=hc.rest hb;rw[uV hs,e,Cm,cF (aK hg ..)];by_cases hdv:1<(sE b F.1).2
  ·rw[cT (aH hdv ..)];refine oA (rQ (b:=b) (k:=F.2) hterm) λ_ hsc=>?_;refine n8 (hsc.resolve_left (by exact aQ hdv)) λt0 h1 h2 h3 h4=>?_
   generalize (sE b F.1).2=dv at hdv h3⊢;rw[h3]at h4;have hdb:=(jY (by exact iC hdv rfl)).mp h4
   have hdl:=eR (by exact iB hb rfl) hdb
   have cb:=R8 (b:=dv) (ts:=iF b F.1) h1 h2 h3;refine CM (Cp (b:=dv) (hdv) hW.tp) λ_ _ _ hv4 _=>?_;have hv4:cM (tH dv (iF b F.1))+cB dv (iF b F.1)+cM (iF dv (iF b F.1))<=cM (iF b F.1):=hv4;clear hd;obtain⟨m,rfl⟩:∃m',m=m'+1:=⟨m-1,by lia⟩
   obtain⟨Y,y1,y2⟩:=ih m (fL m) (iF b F.1,Int.fmod F.2 b) dv d hW hCW (by exact aO hdv) (by exact aJ hdl fX) (by show cM (iF dv (iF b F.1))<=m;lia) (by lia)
   have hq:dv*Int.fdiv b dv=b:=by
    rw[aG _ (by exact iD hdv rfl)];exact Int.mul_ediv_cancel' hdb
   have hq1:1<=Int.fdiv b dv:=by
    rcases eL (Int.fdiv b dv) 1 with z|z
    ·have:=bY (show 0<=dv by exact iD hdv rfl) (show Int.fdiv b dv<=0 by exact iK z rfl);exact CU hb hdb hq this
    ·exact z
   have hql:Int.fdiv b dv<=b:=(gF (by exact iA hb rfl) (by exact iC hdv rfl)).2
   refine l6 (y2.fre cb) λy0 m0 a0 r0=>?_;have hCY:x7 Y.1:=by
    by_cases hall:∀t∈Y.1,Fr (jN t)
    ·exact .inl hall
    ·obtain⟨u,hu⟩:=Classical.not_forall.mp hall;obtain⟨mu,nu⟩:=Classical.not_imp.mp hu;have au:=(y2.pf.tp u mu).fr.resolve_left nu;refine .inr (Cu mu m0 (λz=>nu ?_) au a0);rw[z,(sD a0).1];exact r0
   have hyc:cM Y.1+cB dv (iF b F.1)<=cM (iF b F.1):=y2.cnt;obtain⟨X,x1,x2⟩:=ih m (fL m) Y (Int.fdiv b dv) d y2.pf hCY hq1 (by exact aJ hql fX) (by have:=R7 (Int.fdiv b dv) Y.1;exact Kj cb hcm hyc this) (by lia)
   have hX:=Jt h hb (XR.trans y2 (by exact aO hdv) hdb (by exact iA hb rfl) x2)
   have hf:=hX.pf.fm;exact kF _ (Ar hf.left hW.fm (by exact aQ (iC hdv rfl)) (j7 (by exact iD hdv rfl) (by exact aJ hdl fX)) y1 x1 hf (by lia)) hX
  ·rw[cF (aK hdv ..)];refine i8 (R6 (d:=d) hW hCW hb fX (by lia)) λX x1 x2=>?_
   have hX:=Jt h hb x2;have hf:=hX.pf.fm;exact kF _ (GK hf.left hW.fm x1 hf (by lia)) hX
 ·exact NW h hc hs (by exact iA hb rfl) fX (by lia)
theorem uW{a:T}{q:Int}(h:j6 a=true):jN (tm a q)=a/\g8 (tm a q)=q:=by
 unfold tm;by_cases z:q=1
 ·rw[cT (aH z ..),z];exact sD h
 ·rw[aK z];exact⟨rfl,rfl⟩
theorem GQ(d:Nat)(l:List T):u6 (d+2) (.sum l) 1=some (.node (.sum l)):=by
 show aB fi (d+1+1) 620 [.node (.sum l),.int 1] []=_;rw[NQ,Z1];rfl
theorem Z6{m:Nat}(hq:SQ m):ST m:=λF b d h hc hb fX hcm hd=>by
 by_cases hs:2<=(b9 F.1 F.2).length
 ·by_cases hb1:b=1
  ·clear hcm fX hb;subst hb1;refine jC d (44+2*m) (by lia) λd _=>?_
   refine jC d (43+2*m) (by lia) λd _=>?_
   have c0:cB 1 F.1=0:=by
    by_cases z:1<=cB 1 F.1
    ·refine l6 (Ft z) λt m1 m2 m3=>?_;obtain⟨a,c,rfl⟩:=sG m2;have:=((h.tp _ m1).mul a c rfl).1;have m3:c=1:=m3;lia
    ·lia
   exact kF F (by rw[uV hs,GQ]) ⟨h,(lW _).symm,(lW _).symm,cA _,λu hu c hcu=>⟨u,hu,hcu⟩,by lia,λz=>by lia⟩
  ·have hb3:2<=b:=by lia
   by_cases hg:(1:Int)<qU b F.1 F.2
   ·refine jC d (44+2*m) (by lia) λd _=>?_
    have f5:=Fv hs;have hk:=gZ h.k0 (Fu h);have hterm:∀t∈F.1,dO t=true:=λt ht=>(h.fm.gt t ht).term;obtain⟨x,ex,e⟩:=sc (d:=d) h.fm f5 hs hb3 fX (λu hu _=>by
     have hu:=h.tp u hu;induction u using T.casesOn with
     |mul a c=>have:=(hu.mul a c rfl).1;show 0<c;exact iB this rfl
     |_=>show(0:Int)<1;decide) hk (by lia)
    have hW:=h.rest hb3;have hCW:=hc.rest hb3;refine oA (rQ (b:=b) (k:=F.2) hterm) λgf _=>?_;rw[uV hs,e,Cm,cT (aH hg ..)];have gall:=gf.all (by lia)
    have gdb:=gf.dvb;have gdr:=gf.dvr;have gmx:=gf.mx;generalize hgN:qU b F.1 F.2=gN at hg gall gdb gdr gmx⊢;have gle:=eR (hb) gdb;have hfull:∀t∈iF b F.1,full gN t=true:=λt ht=>aH ((jY (by exact iC hg rfl)).mpr (gall t ht).2)
    have hr0:Int.fmod (Int.fmod F.2 b) gN=0:=(jY (by exact iC hg rfl)).mpr gdr
    have y1:=Bv (d:=d) hW (g:=gN) (CV hg) (CW fX gle) hfull hr0 (Kk hcm (by assumption))
    refine oA (Ct hfull) λr1 r2=>?_;have y2:Res (iF b F.1,Int.fmod F.2 b) gN ((iF b F.1).map (uG gN),Int.fdiv (Int.fmod F.2 b) gN):=by
     have:=Jt hW (b:=gN) (hg) (X:=([],0)) (by
      rw[show iF (gN:Int) (iF b F.1,Int.fmod F.2 b).1=[]from r1,show Int.fmod (iF b F.1,Int.fmod F.2 b).2 gN=0 from hr0];exact⟨w7 (fI 0) (by decide+kernel),by show(0:Int)+0=Int.fdiv (0+0) gN;rw[cY,fP],by show(0:Int)+0=Int.fdiv (0+0) gN;rw[cY,fP],cA _,λu hu=>(by cases hu),cA _⟩)
     rw[show tH (gN:Int) (iF b F.1,Int.fmod F.2 b).1=(iF b F.1).map (uG gN)from r2]at this;simpa using this
    have hbq:(gN:Int)*Int.fdiv b gN=b:=by rw[aG _ (by exact iD hg rfl)];exact Int.mul_ediv_cancel' gdb
    have hq1:1<=Int.fdiv b gN:=by
     rcases eL (Int.fdiv b gN) 1 with z|z
     ·have:=bY (show 0<=(gN:Int) by exact iD hg rfl) (show Int.fdiv b gN<=0 by exact iK z rfl);exact Kl hb hb1 gdb hbq this
     ·exact z
    have hql:Int.fdiv b gN<=b:=(gF (by exact iA hb rfl) (by exact iC hg rfl)).2
    have hrr:=NR (k:=F.2) (b:=b) (hb) fX;have hqo:∀t∈iF b F.1,∃a q,t=.mul a (gN*q)/\Fr a/\uG gN t=tm a q:=λt ht=>by
     refine tM (tJ (hW.tp t ht) (hg) (hfull t ht)) λa q e0 _ mQ e1 _=>?_;exact nM a q e0 mQ e1
    have fin:∃X,u6 d (fN ((iF b F.1).map (uG gN),Int.fdiv (Int.fmod F.2 b) gN)) (Int.fdiv b gN)=some (.node (fN X))/\Res ((iF b F.1).map (uG gN),Int.fdiv (Int.fmod F.2 b) gN) (Int.fdiv b gN) X:=by
     by_cases hq2:Int.fdiv b gN=1
     ·clear hqo hql;rw[hq2,dF]at hbq;have n1:iF b F.1=[]:=List.eq_nil_iff_forall_not_mem.mpr λt ht=>by
       have h1:=hfull t ht;rw[hbq,(w6 b F.1 t ht).2]at h1;exact bX h1
      have n2:Int.fmod F.2 b=0:=by
       rw[hbq]at gdr;rcases eL 0 (Int.fmod F.2 b)with z|z
       ·have:=eR z gdr;exact Km hrr this
       ·exact lK z hrr.2.1
      rw[n1,n2,hq2,fP];exact kF ([],Int.fdiv 0 1) (by rw[show([]:List T).map (uG gN)=[]from rfl,dY,dY,oV (by decide+kernel) (by exact a6 hq1 (dL hq2)) (by decide+kernel) (by lia)]) (Cr (fI 0) (by decide+kernel) (by exact a6 hq1 (dL hq2)))
     ·refine hq _ (Int.fdiv b gN) d y2.pf (.inl λu hu=>?_) (Kn gdb hq1 hq2) (by exact aJ hql fX) ?_ (by assumption) λ_ hlt=>?_
      ·obtain⟨t,ht,rfl⟩:=bR.mp hu;refine fM (hqo t ht) λa q _ mQ e1=>?_;rw[e1,(uW (k7 mQ.b)).1];exact mQ
      ·have:=y2.cnt;have c1:=R7 (Int.fdiv b gN) ((iF b F.1).map (uG gN));have:cM ((iF b F.1).map (uG gN))+cB gN (iF b F.1)<=cM (iF b F.1):=this;show cM (iF (Int.fdiv b gN) ((iF b F.1).map (uG gN)))<=m;lia
      ·refine oA (rQ (b:=Int.fdiv b gN) (k:=Int.fdiv (Int.fmod F.2 b) gN) λt ht=>(y2.pf.fm.gt t ht).term) λyf _=>?_;have hlt:(1:Int)<qU (Int.fdiv b gN) ((iF b F.1).map (uG gN)) (Int.fdiv (Int.fmod F.2 b) gN):=hlt;have ya:=yf.all (λz=>by rw[z]at hlt;exact absurd hlt (by decide))
       have yb:=yf.dvb;have yr:=yf.dvr;generalize qU (Int.fdiv b gN) ((iF b F.1).map (uG gN)) (Int.fdiv (Int.fmod F.2 b) gN)=e at hlt ya yb yr;have key:=gmx (gN*e) (by
        rw[Int.natCast_mul,<-hbq];exact kA _ yb) (λt ht=>by
        refine⟨(gall t ht).1,?_⟩;refine fM (hqo t ht) λa q e0 mQ e1=>?_;have hmem:uG gN t∈iF (Int.fdiv b gN) ((iF b F.1).map (uG gN)):=dC.mpr ⟨fV ht,by
         have nf:=(w6 b F.1 t ht).2;rw[e1];induction hz:full (Int.fdiv b gN) (tm a q) using Bool.casesOn with
         |false=>rfl
         |true=>
          have z:Int.fmod (g8 (tm a q)) (Int.fdiv b gN)=0:=aM hz;rw[(uW (k7 mQ.b)).2]at z;have z:=kA (gN:Int) ((jY (hq1)).mp z);rw[hbq]at z;have:full b t=true:=by rw[e0];exact aH ((jY (hb)).mpr z)
          rw[nf]at this;exact bX this⟩
        have:=(ya _ hmem).2;rw[e1,(uW (k7 mQ.b)).2]at this;rw[e0,Int.natCast_mul];exact kA _ this) (by
        have hr1:(gN:Int)*Int.fdiv (Int.fmod F.2 b) gN=Int.fmod F.2 b:=by rw[aG _ (by exact iD hg rfl)];exact Int.mul_ediv_cancel' gdr
        have hr2:Int.fmod (Int.fdiv (Int.fmod F.2 b) gN) (Int.fdiv b gN)=Int.fdiv (Int.fmod F.2 b) gN:=by
         rw[aS _ (by exact iA hq1 rfl)]
         refine qH (gF hrr.2.1 (by exact iC hg rfl)).1 ?_
         rcases eL (Int.fdiv (Int.fmod F.2 b) gN) (Int.fdiv b gN)with z|z
         ·exact z
         ·have:=dN z (show 0<=(gN:Int) by exact iD hg rfl);exact Ko gdb gdr hbq hrr hr1 this
        rw[hr2]at yr;rw[Int.natCast_mul,<-hr1];exact kA _ yr)
       have:=Nat.le_of_dvd (Kp hgN hg) key;have e2:2<=e:=by lia
       have:=d5 gN e2;lia
    refine i8 (fin) λX x1 x2=>?_;have hX:=Jt h hb3 (XR.trans y2 (by exact aO hg) gdb (hb) x2)
    have hf:=hX.pf.fm;exact kF _ (Ar hf.left hW.fm (by exact aQ (iC hg rfl)) (j7 (by exact iD hg rfl) (CX fX gle hbq)) y1 x1 hf (Kq hcm (by assumption))) hX
   ·exact hq F b d h hc hb3 fX hcm (by lia) λ_=>hg
 ·exact NW h hc hs hb fX (by lia)
theorem Z7:∀m,ST m:=λm=>by
 induction m using Nat.strongRecOn with
 |_ m ih=>exact Z6 (Z5 ih)
theorem As{F:List T×Int}{b:Int}{d:Nat}(h:PF F)(hc:x7 F.1)(hb:1<=b)(fX:b<BM)(hd:55<=d):∃G,u6 d (fN F) b=some (.node (fN G))/\Res F b G:=by
 refine Z7 5 F b d h hc hb fX ?_ (hd);have:=v8 h.tp;have:=h.vcs;have:cM (iF b F.1)<=F.1.length:=aR (dM _ _) (dM _ _);lia
set_option tactic.hygienic true
theorem ends{d:Nat}{ts:List T}{k b q:Int}{t:T}{x:V}{ex:Ev}{fu:List T}(hterm:∀t∈ts,dO t=true)(hb:2<=b)(fX:b<BM)(hW:PF (iF b ts,Int.fmod k b))(hCW:x7 (iF b ts))(hfu:Fm 18 fu)(hX:∀X,XR (iF b ts) (Int.fmod k b) b X->Fm 18 (fu++X.1))(hd:55<=d):
  ∃X,XR (iF b ts) (Int.fmod k b) b X/\dR (R4 d) (EC.body.drop 9) (lG t b (.int (qU b ts k)) (.int (sE b ts).2) x ex) (gO ((b9 fu q).map V.node) ((b9 (iF b ts) (Int.fmod k b)).map V.node)) kR kN=some (.node (fN (fu++X.1,q+X.2))):=by
 refine oA (rQ (b:=b) (k:=k) hterm) λgf hsc=>?_;rw[Cm];by_cases hg:(1:Int)<qU b ts k
 ·rw[cT (aH hg ..)];have gall:=gf.all (λz=>by rw[z]at hg;exact absurd hg (by decide))
  have gdb:=gf.dvb;have gdr:=gf.dvr;generalize qU b ts k=gN at hg gall gdb gdr⊢;have gle:=eR (by exact iB hb rfl) gdb
  have hfull:∀t∈iF b ts,full gN t=true:=λt ht=>aH ((jY (by exact iC hg rfl)).mpr (gall t ht).2)
  have hr0:Int.fmod (Int.fmod k b) gN=0:=(jY (by exact iC hg rfl)).mpr gdr
  have y1:=Bv (d:=d) hW (g:=gN) (CV hg) (CW fX gle) hfull hr0 (by exact bT hd rfl)
  refine oA (Ct hfull) λr1 r2=>?_;have y2:Res (iF b ts,Int.fmod k b) gN ((iF b ts).map (uG gN),Int.fdiv (Int.fmod k b) gN):=by
   have:=Jt hW (b:=gN) (hg) (X:=([],0)) (by
    rw[show iF (gN:Int) (iF b ts,Int.fmod k b).1=[]from r1,show Int.fmod (iF b ts,Int.fmod k b).2 gN=0 from hr0];exact⟨w7 (fI 0) (by decide+kernel),by show(0:Int)+0=Int.fdiv (0+0) gN;rw[cY,fP],by show(0:Int)+0=Int.fdiv (0+0) gN;rw[cY,fP],cA _,λu hu=>(by cases hu),cA _⟩)
   rw[show tH (gN:Int) (iF b ts,Int.fmod k b).1=(iF b ts).map (uG gN)from r2]at this;simpa using this
  have hbq:(gN:Int)*Int.fdiv b gN=b:=by rw[aG _ (by exact iD hg rfl)];exact Int.mul_ediv_cancel' gdb
  have hq1:1<=Int.fdiv b gN:=by
   rcases eL (Int.fdiv b gN) 1 with z|z
   ·have:=bY (show 0<=(gN:Int) by exact iD hg rfl) (show Int.fdiv b gN<=0 by exact iK z rfl);exact Kr hb gdb hbq this
   ·exact z
  have hql:Int.fdiv b gN<=b:=(gF (by exact iA hb rfl) (by exact iC hg rfl)).2
  obtain⟨X,x1,x2⟩:=As (d:=d) (b:=Int.fdiv b gN) y2.pf (.inl λu hu=>by
   obtain⟨t,ht,rfl⟩:=bR.mp hu;refine tM (tJ (hW.tp t ht) (hg) (hfull t ht)) λa q e0 _ mQ e1 _=>?_;rw[e1,(uW (k7 mQ.b)).1];exact mQ) hq1 (by exact aJ hql fX) hd
  have hR:=XR.trans y2 (by exact aO hg) gdb (by exact iA hb rfl) x2
  exact kF X hR (Ar hfu hW.fm (by exact aQ (iC hg rfl)) (j7 (by exact iD hg rfl) (CX fX gle hbq)) y1 x1 (hX X hR) (by exact bT hd rfl))
 ·rw[cF (aK hg ..)];by_cases hdv:1<(sE b ts).2
  ·rw[cT (aH hdv ..)];refine n8 (hsc.resolve_left (by exact aQ hdv)) λt0 h1 h2 h3 h4=>?_
   generalize (sE b ts).2=dv at hdv h3⊢;rw[h3]at h4;have hdb:=(jY (by exact iC hdv rfl)).mp h4
   have hdl:=eR (by exact iB hb rfl) hdb
   have cb:=R8 (b:=dv) (ts:=iF b ts) h1 h2 h3;obtain⟨Y,y1,y2⟩:=As (d:=d) (b:=dv) hW hCW (by exact aO hdv) (by exact aJ hdl fX) hd
   have hq:dv*Int.fdiv b dv=b:=by
    rw[aG _ (by exact iD hdv rfl)];exact Int.mul_ediv_cancel' hdb
   have hq1:1<=Int.fdiv b dv:=by
    rcases eL (Int.fdiv b dv) 1 with z|z
    ·have:=bY (show 0<=dv by exact iD hdv rfl) (show Int.fdiv b dv<=0 by exact iK z rfl);exact CU hb hdb hq this
    ·exact z
   have hql:Int.fdiv b dv<=b:=(gF (by exact iA hb rfl) (by exact iC hdv rfl)).2
   refine l6 (y2.fre cb) λy0 m0 a0 r0=>?_;have hCY:x7 Y.1:=by
    by_cases hall:∀t∈Y.1,Fr (jN t)
    ·exact .inl hall
    ·obtain⟨u,hu⟩:=Classical.not_forall.mp hall;obtain⟨mu,nu⟩:=Classical.not_imp.mp hu;have au:=(y2.pf.tp u mu).fr.resolve_left nu;refine .inr (Cu mu m0 (λz=>nu ?_) au a0);rw[z,(sD a0).1];exact r0
   obtain⟨X,x1,x2⟩:=As (d:=d) (b:=Int.fdiv b dv) y2.pf hCY hq1 (by exact aJ hql fX) hd
   have hR:=XR.trans y2 (by exact aO hdv) hdb (by exact iA hb rfl) x2
   exact kF X hR (Ar hfu hW.fm (by exact aQ (iC hdv rfl)) (j7 (by exact iD hdv rfl) (by exact aJ hdl fX)) y1 x1 (hX X hR) (bT hd rfl))
  ·rw[cF (aK hdv ..)];refine i8 (R6 (d:=d) hW hCW hb fX (bT hd rfl)) λX x1 x2=>?_;exact kF X x2 (GK hfu hW.fm x1 (hX X x2) (bT hd rfl))
structure Lt(t:T):Prop where
 gt:Gt 18 t
 fr:Fr (jN t)
 vd:vY (jN t)=true\/∃e l h m,jN t=.mod (.var e l h) m
theorem yI{n:Nat}{t:T}(h:Gt n t):scl 1 t=t:=by
 unfold scl tm;rw[dF];by_cases hm:∃a c,t=.mul a c
 ·obtain⟨a,c,rfl⟩:=hm;show(bif decide (c=1)then a else .mul a c)=_;rw[aK (h.mul a c rfl).2.1];rfl
 ·refine oA (tF h λa k e=>hm ⟨a,k,e⟩) λe1 e2=>?_;rw[e1,e2];rfl
theorem Z8{d:Nat}{a:T}(h:Fr a)(hv:vY a=true\/∃e l h m,a=.mod (.var e l h) m)(hd:8<=d):u6 d a 1=some (.node a):=by
 have f1:jQ 1=true:=by decide+kernel
 have var1:∀(d:Nat) (e:Str) (l h:Int),u6 (d+1) (.var e l h) 1=some (.node (.var e l h)):=λd e l h=>by
  show aB fi (d+1) 185 [.node (.var e l h),.int 1] []=_
  rw[w5,tG]
 refine jC d 7 hd λd _=>?_
 refine jC d 6 (by assumption) λd _=>?_
 rcases hv with hv|⟨e,l,hh,m,rfl⟩
 ·induction a using T.casesOn with
  |var e l h=>exact var1 _ _ _ _
  |div x b=>
   induction x using T.casesOn<;>first|(exact bX hv;done)|skip
   rename_i e l hh
   exact h.nd.divI λn hx h1 h2=>by
    have r:=hx.rng
    have hbm:=lP r.1 (aO r.2.1) (by exact iB h1 rfl) h2
    show aB fi (d+1+1) 488 [.node (.div (.var e l hh) b),.int 1] []=_
    conv=>lhs;rw[NG,mI (by rw[dF];exact j7 (by exact iA h1 rfl) (by exact aJ hbm r.2.2)),dF,aF,oU]
    show((aB fi (d+1) 185 [.node (.var e l hh),.int b] []).bind _)=_
    rw[w5,pO r.1 (aO r.2.1) h1 (j7 (by exact iA h1 rfl) (by exact aJ hbm r.2.2)) (by exact bT (by assumption) (by rfl))]
    unfold Os
    rw[aK (by exact iV h2:¬Int.fdiv (T.var e l hh).lo b=Int.fdiv (T.var e l hh).hi b)];rfl
  |_=>exact bX hv
 ·exact h.nd.modI λn hy hv h1 h2=>by
   have r:=hy.rng
   have hbm:=lP r.1 (aO r.2.1) (by exact iB h1 rfl) h2
   show aB fi (d+1+1) 536 [.node (.mod (.var e l hh) m),.int 1] []=_
   conv=>lhs;rw[R3,jU (by decide) f1,aF,mG,aF,fU,aF,aH (by rw[aS _ (by decide),Int.emod_one]:Int.fmod m 1=0),bV,var1,aF,nB (by decide) f1,lW,aF,
    Ap _ rfl,yF r.1 (aO r.2.1) h1 (j7 (by exact iA h1 rfl) (by exact aJ hbm r.2.2)) h2 (by lia)]
   rfl
theorem NX{d:Nat}{F:List T×Int}(h:Fm 18 F.1)(hl:∀t∈F.1,Lt t)(hk:F.2.natAbs<2^900)(hd:10<=d):u6 d (fN F) 1=some (.node (fN F)):=by
 by_cases hs:2<=(b9 F.1 F.2).length
 ·refine jC d 9 hd λd _=>?_;refine jC d 8 (by assumption) λd _=>?_
  rw[uV hs,GQ]
 ·obtain⟨ts,k⟩:=F;by_cases f5:ts=[]
  ·clear hs hl h;subst f5;rw[dY,oV hk (by decide) (by decide+kernel) (bT hd rfl),lW]
  ·obtain⟨t,rfl,rfl⟩:=rR hs f5;have ht:=hl t aE;rw[fD];by_cases hm:∃a c,t=.mul a c
   ·clear hs hk hl h f5;obtain⟨a,c,rfl⟩:=hm;refine A6 (ht.gt.mul a c rfl) λm0 m1 m2=>?_;show aB fi d 440 [.node (.mul a c),.int 1] []=_;rw[rP (a:=a) ht.gt.nd ht.gt.at_ (by decide) (by decide+kernel) (Int.one_dvd c) m0 m2 (bT hd rfl),lW]
    unfold tm;rw[aK m1];rfl
   ·refine oA (tF ht.gt λa k e=>hm ⟨a,k,e⟩) λe1 _=>?_;have:=ht.fr;have hv:=ht.vd;rw[e1]at this hv;exact Z8 this hv (bT hd rfl)
set_option tactic.hygienic false
theorem NY{n:Nat}{t:T}(h:Gt n t):tm (jN t) (g8 t)=t:=by have:=yI h;unfold scl at this;rwa [dF]at this
theorem wA{n:Nat}{b:Int}{t:T}(h:Gt n t)(hb:2<=b):full b (scl b t)=true/\uG b (scl b t)=t:=by
 refine oA (qE (c:=b) h.at_) λe1 e2=>?_;unfold full uG;rw[e1,e2,aG _ (by exact iA hb rfl),oG _ (by exact aQ (iB hb rfl))]
 exact⟨aH ((jY (by exact iB hb rfl)).mpr ⟨g8 t,by rw[d8]⟩),NY h⟩
theorem R9{t:T}:∀{ts:List T},(∀u∈ts,Tp u)->t∈ts->t.hi-t.lo<=T.his ts-T.los ts
 |u::r,h,ht=>by
  have h1:=(h u aE).full.rng;have hr:=sB (ts:=r) λv hv=>⟨(h v (aI _ hv)).full.rng.1,(h v (aI _ hv)).full.rng.2.1⟩;show _<=u.hi+T.his r-(u.lo+T.los r);rcases a7.mp ht with rfl|ht
  ·lia
  ·have:=R9 (λv hv=>h v (aI _ hv)) ht;lia
theorem NZ{b:Int}{R:List T}(hR:∀t∈R,Tp t)(hb:2<=b)(hw:T.his R-T.los R<b):∀t∈R,full b t=false:=λt ht=>by
 induction hf:full b t using Bool.casesOn with
 |false=>rfl
 |true=>
  refine xC (tJ (hR t ht) hb hf) λa q e0 hq mQ _ h1 _ _ e5 e6=>?_;have hw':=R9 hR ht;have r:=h1.full.rng;have:b*1<=b*((tm a q).hi-(tm a q).lo):=dN (by lia) (by exact iA hb rfl)
  rw[Int.mul_sub]at this;lia
theorem Ea{X:List T×Int}(h:PF X)(e:T.los X.1=T.his X.1):X.1=[]:=by
 by_cases f5:X.1=[]
 ·exact f5
 ·have:=(sB λt ht=>⟨(h.tp t ht).full.rng.1,(h.tp t ht).full.rng.2.1⟩).2.2.1 f5;lia
theorem Q1{d:Nat}{L R:List T}{c rc b:Int}(hL:Fm 18 L)(hR:∀t∈R,Tp t)(mQ:∀t∈R,Fr (jN t))(hW:Fm 18 (L.map (scl b)++R))(hb:2<=b)(fX:T.his R+b<BM)(h0:0<=T.los R+rc)(h1:T.his R+rc<b)(hk:(c*b+rc).natAbs<2^900)
  (hcb:∀t∈L,(g8 t*b).natAbs<2^900) (hv:T.vcs R<=5) (hd:56<=d):u6 d (fN (L.map (scl b)++R,c*b+rc)) b=some (.node (fN (L,c))):=by
 refine jC d 55 hd λd _=>?_;have hrr:=sB (ts:=R) λt ht=>⟨(hR t ht).full.rng.1,(hR t ht).full.rng.2.1⟩;have hbM:b<BM:=by lia
 have nf:=NZ hR hb (by lia)
 have hz:=dB rc b;have hz1:=eE rc (by exact aQ (iB hb rfl):b≠0)
 have hz2:=dW rc (by exact iB hb rfl:0<b)
 have eq:Int.fdiv (c*b+rc) b=c+rc/b:=by rw[d8,jI (by exact iB hb rfl),aG _ (by exact iA hb rfl)]
 have er:Int.fmod (c*b+rc) b=rc%b:=by rw[aS _ (by exact iA hb rfl),kJ,jZ]
 have apR:R.Pairwise rM:=(iX.mp hW.ap).2.1;have fz:∀y:Int,0<=y->y<b->Int.fdiv y b=0:=λy q1 q2=>by rw[aG _ (by exact iA hb rfl),cS q1 q2]
 by_cases hs:2<=(b9 (L.map (scl b)++R) (c*b+rc)).length
 ·have f5:=Fv (F:=(L.map (scl b)++R,c*b+rc)) hs;obtain⟨x,ex,e⟩:=sc (d:=d) hW f5 hs hb hbM (λu hu hf=>by
   rcases b7.mp hu with hu|hu
   ·obtain⟨t,ht,rfl⟩:=bR.mp hu;clear hu;rw[(wA (hL.gt t ht) hb).1]at hf;exact jA hf
   ·have hu:=hR u hu;induction u using T.casesOn with
    |mul a c=>have:=(hu.mul a c rfl).1;show 0<c;exact iB this rfl
    |_=>show(0:Int)<1;decide) hk (by exact bT (by assumption) (by rfl))
  have e1:iF b (L.map (scl b)++R)=R:=by
   unfold iF;rw[jL,jM.mpr λu hu=>by
    obtain⟨t,ht,rfl⟩:=bR.mp hu;rw[(wA (hL.gt t ht) hb).1];decide,k8.mpr λt ht=>by rw[nf t ht];rfl]
   rfl
  have e2:tH b (L.map (scl b)++R)=L:=by
   unfold tH;rw[jL,k8.mpr λu hu=>by
    obtain⟨t,ht,rfl⟩:=bR.mp hu;exact(wA (hL.gt t ht) hb).1,jM.mpr λt ht=>by rw[nf t ht];decide,bW,iW]
   exact(i9 λt ht=>(wA (hL.gt t ht) hb).2).trans (List.map_id L)
  have hPF:PF (R,rc%b):=⟨hR,apR,hv,hz1,by show T.his R+rc%b<BM;lia⟩
  have xr:∀X,XR R (rc%b) b X->X.1=[]/\X.2= -(rc/b):=λX hX=>by
   have a1:=hX.lo;have a2:=hX.hi;rw[show T.los R+rc%b=b*(-(rc/b))+(T.los R+rc) by rw[iU];lia,jI (by exact iB hb rfl),fz _ h0 (by lia)]at a1
   rw[show T.his R+rc%b=b*(-(rc/b))+(T.his R+rc) by rw[iU];lia,jI (by exact iB hb rfl),fz _ (by lia) h1]at a2
   have hc:=Ea hX.pf (by lia)
   clear a2;rw[hc]at a1;exact⟨hc,by have:(0:Int)+X.2= -(rc/b)+0:=a1;lia⟩
  rw[e1,er,e2]at e;obtain⟨X,x1,x2⟩:=ends (d:=d) (t:=.sum (b9 (L.map (scl b)++R) (c*b+rc))) (x:=x) (ex:=ex) (q:=Int.fdiv (c*b+rc) b) (ts:=L.map (scl b)++R) (k:=c*b+rc) (fu:=L) (λt ht=>(hW.gt t ht).term) hb hbM (by rw[e1,er];exact hPF) (by rw[e1];exact .inl mQ) hL
   (λX hX=>by rw[e1,er]at hX;rw[(xr X hX).1,bW];exact hL) (by assumption)
  rw[e1,er]at x1 x2;refine oA (xr X x1) λn1 n2=>?_;rw[uV (F:=(L.map (scl b)++R,c*b+rc)) hs];show u6 (d+1) (.sum (b9 (L.map (scl b)++R) (c*b+rc))) b=_;rw[e,x2,n1,n2,bW,eq];show some (V.node (fN (L,c+rc/b+ -(rc/b))))=_;rw[show c+rc/b+ -(rc/b)=c by lia]
 ·by_cases hn:L.map (scl b)++R=[]
  ·refine oA (gQ.mp hn) λn1 n2=>?_;have n1:=oK.mp n1;clear hn hs apR nf hrr hv hcb fX hW mQ hR hL;subst n1 n2;have h0:(0:Int)<=0+rc:=h0;have h1:(0:Int)+rc<b:=h1;show u6 (d+1) (fN ([],c*b+rc)) b=_;rw[dY,dY,oV hk (by exact iA hb rfl) hbM (by lia),eq,cS (by lia) (by lia),dK]
  ·refine i8 (rR hs hn) λt ht hz0=>?_;rw[ht,hz0];induction L using List.casesOn with
   |nil=>
    have hRt:R=[t]:=ht;clear ht hn hW nf;subst hRt;have l1:T.los [t]=t.lo:=by show t.lo+0=_;lia
    have l2:T.his [t]=t.hi:=by show t.hi+0=_;lia
    refine i8 (NW (d:=d+1) (F:=([t],0)) (b:=b) ⟨hR,apR,hv,fI 0,by show T.his [t]+0<BM;lia⟩ (.inl mQ) (by rw[hz0]at hs;exact hs) (by exact iA hb rfl) hbM (by lia)) λG g1 g2=>?_
    rw[g1];have a1:T.los G.1+G.2=Int.fdiv (T.los [t]+0) b:=g2.lo;have a2:T.his G.1+G.2=Int.fdiv (T.his [t]+0) b:=g2.hi;have hrc:rc=b*(-c):=by rw[iU,d8];lia
    rw[show T.los [t]+0=b*c+(T.los [t]+rc) by rw[hrc,iU];lia,jI (by exact iB hb rfl),fz _ h0 (by lia)]at a1
    rw[show T.his [t]+0=b*c+(T.his [t]+rc) by rw[hrc,iU];lia,jI (by exact iB hb rfl),fz _ (by lia) h1]at a2
    have hc:=Ea g2.pf (by lia)
    obtain⟨G1,G2⟩:=G;have hc:G1=[]:=hc;clear a2 g2 g1;subst hc;have a1:(0:Int)+G2=c+0:=a1;rw[show G2=c by exact Ks (by assumption) a1]
   |cons u L'=>
    have hl:(scl b u::(L'.map (scl b)++R))=[t]:=ht;obtain⟨f1,f2⟩:=List.cons.inj hl;obtain⟨f3,f4⟩:=gQ.mp f2;have f3:=oK.mp f3;clear f2 hl ht hn hW apR nf hrr hv fX mQ hR;subst f3 f4 f1;have h0:(0:Int)<=0+rc:=h0;have h1:(0:Int)+rc<b:=h1;have hrc0:rc=0:=by
     have:b∣rc:=⟨-c,by rw[iU,d8];lia⟩
     rcases eL 0 rc with z|z
     ·have:=eR z this;grind
     ·grind
    have hc0:c=0:=by
     rw[hrc0,dK]at hz0;exact(Int.mul_eq_zero.mp hz0).resolve_right (by exact aQ (iB hb rfl))
    clear hs hz0 er eq hk;subst hc0;have hu:=hL.gt u aE;have hcu:=(hu.tm (d:=39) (cA _)).2;rw[fD,fD];have hm:scl b u=.mul (jN u) (g8 u*b):=by
     unfold scl tm;rw[aK];rfl;intro z;have:b∣1:=⟨g8 u,by rw[d8];exact z.symm⟩
     have:=eR (by decide) this;exact qW _ (eN (iB hb rfl) this)
    rw[hm];show aB fi (d+1) 440 [.node (.mul (jN u) (g8 u*b)),.int b] []=_;rw[rP hu.nd hu.at_ (by exact iA hb rfl) hbM ⟨g8 u,d8 _ _⟩ (n7 hcu (by exact aQ (iB hb rfl))) (hcb u aE) (by lia),aG _ (by exact iA hb rfl),oG _ (by exact aQ (iB hb rfl)),NY hu]
def J8(d:Nat)(t:T)(b:Int):Option V:=(gU t .mod).bind λf=>aB fi d f [.node t,.int b] []
theorem GR(d:Nat)(t:T)(b:Int):cG (aB fi d) .Mod (.node t) (.int b)=J8 d t b:=rfl
theorem RA(d:Nat)(a:T)(c b:Int):aB fi (d+1) 447 [.node (.mul a c),.int b] []=(eY .Mod c b).bind λv=>(cG (aB fi d) .Mult (.node a) v).bind λv=>((a8 v []).bind λp=>(some ([V.int b],p.2)).map λq=>(p.1::q.1,q.2)).bind λv=>(aB fi d 199 v.1 []).bind λx=>(a8 x v.2).bind λq=>some q.1:=(cR rfl rfl rfl rfl).trans (by kernel_rfl)
theorem RB(d:Nat)(a:T)(c b:Int):aB fi (d+1) 528 [.node (.mod a c),.int b] []=(eY .Mod c b).bind λv=>(j4 (aB fi d) .Eq v (.int 0)).bind λv=>(eM v []).bind λz=>
  bif z then(J8 d a b).bind λv=>(a8 v []).bind λq=>some q.1 else(aB fi d 199 [.node (.mod a c),.int b] []).bind λv=>(a8 v []).bind λq=>some q.1:=(cR rfl rfl rfl rfl).trans (by kernel_rfl)
noncomputable def RC:X:=.ite (.call (.bi .isinstance) [(.var 5),(.tup [(.glob 331),(.glob 471)])] []) (.bin .Mod (.var 5) (.var 2)) (.var 5)
theorem sp625(d:Nat)(l:List T)(b:Int):aB fi (d+1) 625 [.node (.sum l),.int b] []=(aB fi d 86 [.node (.sum l),.int b] []).bind λv=>(eM v []).bind λz=>
  bif z then(aB fi d 331 [.int 0] []).bind λv=>(a8 v []).bind λq=>some q.1
  else((bif Nat.ble (l.map V.node).length 1000 then some (l.map V.node,[])else none).bind λp=>(dH (bJ (aB fi d) 37) [5] [] [(1,.node (.sum l)),(2,.int b)] (fR (bJ (aB fi d) 37) RC) p.1 p.2).map λq=>gT (.lst q.1) q.2).bind λv=>
   ((a8 v.1 v.2).bind λp=>(some ([],p.2)).map λq=>(p.1::q.1,q.2)).bind λv=>(aB fi d 204 v.1 []).bind λw=>((a8 w v.2).bind λp=>(some ([V.int b],p.2)).map λq=>(p.1::q.1,q.2)).bind λv=>(aB fi d 199 v.1 []).bind λx=>(a8 x v.2).bind λq=>some q.1:=(cR rfl rfl rfl rfl).trans (by kernel_rfl)
theorem Z9(d:Nat)(v:V)(u:T)(b:Int):fR (bJ (aB fi d) 37) RC [(1,v),(2,.int b),(5,.node u)] []=((bif j6 u||oD u then some (V.node u)else J8 d u b).bind λx=>some (x,([]:Cs))).bind λx=>(a8 x.1 x.2).map λy=>([y.1],y.2):=by
 show((bJ (aB fi d) 37).ev RC [(1,v),(2,.int b),(5,.node u)] []).bind _=_;rw[DJ];induction u using T.casesOn<;>kernel_rfl
theorem Eb{d:Nat}{v:V}{b:Int}{g:T->T}:∀{l:List T},(∀u∈l,(bif j6 u||oD u then some (V.node u)else J8 d u b)=some (.node (g u)))->dH (bJ (aB fi d) 37) [5] [] [(1,v),(2,.int b)] (fR (bJ (aB fi d) 37) RC) (l.map V.node) []=some ((l.map g).map V.node,[])
 |[],_=>rfl
 |u::r,h=>by
  show((fR (bJ (aB fi d) 37) RC [(1,v),(2,.int b),(5,.node u)] []).bind λq=>(dH (bJ (aB fi d) 37) [5] [] [(1,v),(2,.int b)] (fR (bJ (aB fi d) 37) RC) (r.map V.node) q.2).map λz=>(q.1++z.1,z.2))=_;rw[Z9,h u aE];show(dH (bJ (aB fi d) 37) [5] [] [(1,v),(2,.int b)] (fR (bJ (aB fi d) 37) RC) (r.map V.node) []).map _=_;rw[Eb λu hu=>h u (aI _ hu)];rfl
theorem fit_q{n S:Int}(hS:1<=S)(hS2:S<BM)(hn:n.natAbs<2^900):jQ (S*Int.fdiv n S)=true:=by
 refine g9 (bA (oT (gZ (by exact iA hS rfl) hS2) ?_) (by decide+kernel))
 rw[aG _ (by exact iA hS rfl)]
 exact aP (iE n S) hn
theorem Au{d:Nat}{n S:Int}(hS:1<=S)(hS2:S<BM)(hn:n.natAbs<2^900)(hd:8<=d):aB fi d 199 [.node (.num n),.int S] []=some (.node (.num (Int.fmod n S))):=by
 by_cases h1:S=1
 ·clear hS2 hS;subst h1;refine jC d 7 hd λd _=>?_;refine jC d 6 (by assumption) λd _=>?_
  rw[t6,aS _ (by decide),Int.emod_one]
 ·have el:(fN ([],n)).lo=n:=by rw[xL];exact cY n
  have eh:(fN ([],n)).hi=n:=by rw[v6];exact cY n
  conv=>lhs;rw[<-dY n,yG (n:=0) (F:=([],n)) (Fm.nil 0) (by lia) (j7 (by exact iA hS rfl) hS2) (by rw[el,eh]) (by rw[el];exact fit_q hS hS2 hn) (bT hd rfl),el,dY]
  have:n+ -(S*Int.fdiv n S)=Int.fmod n S:=by
   rw[aG _ (by exact iA hS rfl),aS _ (by exact iA hS rfl)]
   have:=dB n S;lia
  rw[this]
theorem Cv{d:Nat}{a:T}{c S:Int}(ha:j6 a=true)(hS:1<=S)(hS2:S<BM)(hc:S∣c)(hd:10<=d):aB fi d 447 [.node (.mul a c),.int S] []=some (.node (.num 0)):=by
 refine jC d 9 hd λd _=>?_;refine jC d 8 (by assumption) λd _=>?_
 refine jC d 7 (by assumption) λd _=>?_
 conv=>lhs;rw[RA,jU (by exact aQ (iB hS rfl)) (j7 (by exact iA hS rfl) hS2),(jY (hS)).mpr hc,aF,pN _ ha,Qs,aF]
 show(aB fi (d+2) 199 [.node (.num 0),.int S] []).bind _=_;rw[Au hS hS2 (by decide+kernel) (by lia),Int.zero_fmod];rfl
theorem Oa{d:Nat}{a:T}{c S:Int}(h:Gt 18 (.mul a c))(hc:2<=c)(hS2:S<BM)(hl:a.hi*c<S)(hd:46<=d):aB fi d 447 [.node (.mul a c),.int S] []=some (.node (.mul a c)):=by
 refine jC d 45 hd λd _=>?_;have r:0<=a.lo/\a.lo<a.hi/\a.hi<BM:=h.nd.rng;have hcs:c<S:=by have:1*c<=a.hi*c:=cH (by lia) (by exact iA hc rfl);lia
 have em:Int.fmod c S=c:=by rw[aS _ (by exact aO (aJ (iA hc rfl) hcs)),qH (by exact iA hc rfl) hcs]
 have h00:0<=a.lo*c:=eO r.1 (by exact iA hc rfl)
 have hll:a.lo*c<a.hi*c:=gP r.2.1 (by exact iB hc rfl)
 conv=>lhs;rw[RA,jU (by exact aQ (aJ (iA hc rfl) hcs)) (j7 (by exact aO (aJ (iA hc rfl) hcs)) hS2),em,aF,pN (a:=a) _ h.at_,Ch (a:=a) h.nd (by exact aQ (iB hc rfl)) (gZ (by exact iA hc rfl) (by exact cX hcs hS2)) (by exact bT (by assumption) (by rfl)),aF]
 have et:tm a c=.mul a c:=by unfold tm;rw[aK (by exact aQ (iB hc rfl))];rfl
 rw[et];show(aB fi d 199 [.node (.mul a c),.int S] []).bind _=_;have el:(fN ([T.mul a c],0)).lo=a.lo*c:=by rw[fD,r8,aH (by exact iA hc rfl:0<=c)];rfl
 have eh:(fN ([T.mul a c],0)).hi=a.hi*c:=by rw[fD,pL,aH (by exact iA hc rfl:0<=c)];rfl
 have z1:Int.fdiv (a.lo*c) S=0:=by rw[aG _ (by exact aO (aJ (iA hc rfl) hcs)),cS h00 (by exact cX hll hl)]
 have z2:Int.fdiv (a.hi*c) S=0:=by rw[aG _ (by exact aO (aJ (iA hc rfl) hcs)),cS (by exact aO (aJ h00 hll)) hl]
 have:=yG (n:=18) (d:=d) (F:=([T.mul a c],0)) (m:=S) ⟨λt ht=>by rw[aN.mp ht];exact h,gJ _ _,aX rfl⟩ (by exact aO (aJ hc hcs)) (j7 (by exact aO (aJ (iA hc rfl) hcs)) hS2) (by rw[el,eh,z1,z2]) (by rw[el,z1,Int.mul_zero];decide+kernel) (by exact bT (by assumption) (by rfl))
 rw[el,z1,fD]at this;rw[this];show some (V.node (fN ([T.mul a c],0+ -(S*0))))=_;rw[Int.mul_zero,show(0:Int)+ -0=0 by decide,fD]
theorem m199{d:Nat}{pt:List T}{pc S j r:Int}(h:Fm 18 pt)(hS:2<=S)(hS2:S<BM)(h0:0<=T.los pt+pc)(h01:T.los pt<=T.his pt)(h1:T.his pt+pc<S)(hr:r=S*j+pc)(hf:jQ (S*j)=true)(hd:43<=d):aB fi d 199 [.node (fN (pt,r)),.int S] []=some (.node (fN (pt,pc))):=by
 have fz:∀y:Int,0<=y->y<S->Int.fdiv y S=0:=λy q1 q2=>by rw[aG _ (by exact iA hS rfl),cS q1 q2]
 have el:Int.fdiv (fN (pt,r)).lo S=j:=by
  rw[xL];show Int.fdiv (T.los pt+r) S=j;rw[hr,show T.los pt+(S*j+pc)=S*j+(T.los pt+pc) by lia,jI (by exact iB hS rfl),fz _ h0 (by lia)];lia
 have eh:Int.fdiv (fN (pt,r)).hi S=j:=by
  rw[v6];show Int.fdiv (T.his pt+r) S=j;rw[hr,show T.his pt+(S*j+pc)=S*j+(T.his pt+pc) by lia,jI (by exact iB hS rfl),fz _ (by lia) h1];lia
 rw[yG (n:=18) (F:=(pt,r)) h hS (j7 (by exact iA hS rfl) hS2) (by rw[el,eh]) (by rw[el];exact hf) (hd),el]
 show some (V.node (fN (pt,r+ -(S*j))))=_;rw[show r+ -(S*j)=pc by lia]
def w8(S:Int):T->List T×Int
 |.num n=>([],Int.fmod n S)
 |u=>bif sF u&&full S u then([],0)else([u],0)
theorem Bw{S:Int}{t:T}(h:dO t=true):w8 S t=bif sF t&&full S t then([],0)else([t],0):=by induction t using T.casesOn<;>first|(exact bX h;done)|rfl
theorem Ec{S k:Int}:∀{ts:List T},(∀t∈ts,dO t=true)->((b9 ts k).map (w8 S)).flatMap (·.1)=ts.filter (λu=>!(sF u&&full S u))/\(((b9 ts k).map (w8 S)).map (·.2)).sum=Int.fmod k S
 |[],_=>by
  unfold b9;induction h:decide (k=0) using Bool.casesOn with
  |true=>rw[aM h,Int.zero_fmod];exact⟨rfl,rfl⟩
  |false=>exact⟨rfl,by simp[w8]⟩
 |t::r,h=>by
  refine oA (Ec (S:=S) (k:=k) (ts:=r) λu hu=>h u (aI _ hu)) λh1 h2=>?_;show((w8 S t::(b9 r k).map (w8 S)).flatMap (·.1))=_/\((w8 S t::(b9 r k).map (w8 S)).map (·.2)).sum=_;rw[Bw (h t aE),b8,h1,bO (f:=λx:List T×Int=>x.2),eJ,h2];induction hb:sF t&&full S t using Bool.casesOn with
  |true=>rw[cV (by rw[hb];decide)];exact⟨rfl,by show 0+_=_;exact CY⟩
  |false=>rw[cD (by rw[hb];rfl)];exact⟨rfl,by show 0+_=_;exact CY⟩
theorem GU{n:Nat}{t:T}{S:Int}(_:Gt n t)(hS:2<=S):scl S t=.mul (jN t) (g8 t*S):=by
 unfold scl tm;rw[aK];rfl;intro z;have:S∣1:=⟨g8 t,by rw[d8];exact z.symm⟩
 have:=eR (by decide) this;exact qW _ (eN (iB hS rfl) this)
theorem Av{d:Nat}{a:T}(h:vY a=true)(S:Int):J8 d a S=aB fi d 199 [.node a,.int S] []:=by induction a using T.casesOn<;>first|(exact bX h;done)|rfl
theorem ZA{t a:T}{k pc S:Int}(hS:1<=S)(q1:Tp t)(q3:sF t=true->0<=pc)(h1:T.his [t]+pc<S)(e:t=.mul a k):2<=k/\0<=pc/\a.hi*k<S/\full S (.mul a k)=false:=by
 subst e;refine oA (q1.mul a k rfl) λm1 _=>?_;have p0:=q3 rfl;have eh:(T.mul a k).hi=a.hi*k:=by rw[pL,aH (iA m1 rfl:0<=k)];rfl
 have hh:(T.mul a k).hi+0+pc<S:=h1;rw[eh]at hh;have rr:0<=a.lo/\a.lo<a.hi/\a.hi<BM:=q1.nd.rng;clear q1 q3 h1 eh;have:1*k<=a.hi*k:=cH (Int.add_one_le_of_lt (aJ rr.1 rr.2.1)) (iA m1 rfl);have hk:a.hi*k<S:=by lia
 refine B8 m1 p0 hk (aK λz=>?_);have:=eR (iB m1 rfl) ((jY (iB hS rfl)).mp (show Int.fmod k S=0 from z));lia
theorem tm_z{c pc S:Int}(h:c*S+pc=0)(h0:0<=pc)(h1:pc<S):pc=0:=by
 have:S∣pc:=⟨-c,by rw[iU,d8];lia⟩
 rcases eL 0 pc with z|z
 ·exact absurd (eR z this) (nG.mpr h1)
 ·exact lK z h0
theorem Ob{pt:List T}{u:T}(h:pt=[]\/∃t,pt=[t])(hu:u∈pt):pt=[u]:=by
 rcases h with z|⟨t,e⟩
 ·rw[z]at hu;cases hu
 ·rw[e]at hu⊢;rw[aN.mp hu]
theorem Q2{d:Nat}{H pt:List T}{S:Int}{u:T}(hH:Fm 18 H)(hpt:pt=[]\/∃t,pt=[t])(hpm:∀a k,pt=[.mul a k]->2<=k/\a.hi*k<S)(hS:1<=S)(hS2:S<BM)(hg:Gt 18 u)(hu:u∈H.map (scl S)++pt)(hd:46<=d):
  (bif j6 u||oD u then some (V.node u)else J8 d u S)=some (.node (fN (w8 S u))):=by
 rw[Bw hg.term];induction hm:sF u using Bool.casesOn with
 |false=>
  have ha:j6 u=true:=by
   have:=hg.at_;clear hg hu;induction u using T.casesOn<;>first|rfl|(exact bX this;done)|(exact jA hm;done)
  rw[ha];show some (V.node u)=some (V.node (fN ([u],0)));rw[fD]
 |true=>
  refine Oo (sG hm) λa k e=>?_;rw[e]at hg hu⊢;show aB fi d 447 [.node (.mul a k),.int S] []=some (V.node (fN (bif true&&full S (.mul a k)then([],0)else([.mul a k],0))));induction hf:full S (.mul a k) using Bool.casesOn with
  |true=>
   rw[Cv (a:=a) (c:=k) hg.at_ hS hS2 ((jY (iB hS rfl)).mp (aM hf)) (bT hd rfl)];show _=some (V.node (fN ([],0)));rw[dY]
  |false=>
   show _=some (V.node (fN ([.mul a k],0)));rw[fD];have:T.mul a k∈pt:=by
    rcases b7.mp hu with hu|hu
    ·refine i8 (bR.mp hu) λt ht e=>?_;have:full S (scl S t)=true:=by
      unfold full;rw[(qE (c:=S) (hH.gt t ht).at_).2];exact aH ((jY (iB hS rfl)).mpr ⟨g8 t,d8 _ _⟩)
     rw[e,hf]at this;exact bX this
    ·exact hu
   obtain⟨m1,m2⟩:=hpm a k (Ob hpt this);exact Oa hg m1 hS2 m2 hd
theorem Ju{H pt:List T}{S:Int}(hH:Fm 18 H)(hpt:pt=[]\/∃t,pt=[t])(hpm:∀a k,pt=[.mul a k]->full S (.mul a k)=false)(hS:2<=S):(H.map (scl S)++pt).filter (λu=>!(sF u&&full S u))=pt:=by
 rw[jL,jM.mpr λu hu=>by
  obtain⟨t,ht,rfl⟩:=bR.mp hu;rw[(wA (hH.gt t ht) hS).1,GU (hH.gt t ht) hS];exact Bool.noConfusion,k8.mpr λt ht=>?_]
 ·rfl
 ·induction hm:sF t using Bool.casesOn with
  |false=>rfl
  |true=>
   refine Oo (sG hm) λa k e=>?_;rw[e,hpm a k (e▸Ob hpt ht)];rfl
theorem ZB{c pc S:Int}(hS:0<=S)(hS2:S<BM)(hk:(c*S+pc).natAbs<2^900)(hcS:(c*S).natAbs<2^900):(S* -(pc/S)).natAbs<2^1900:=by
 rw[iU,Int.natAbs_neg,eP];have e3:(2:Nat)^901=2^900+2^900:=by decide+kernel
 have hpc:pc.natAbs<2^901:=e3▸aP (nTri (c*S) pc) (Nat.add_lt_add hk hcS);exact bA (Nat.mul_lt_mul'' (gZ hS hS2) (aP (iE pc S) hpc)) (by decide+kernel)
theorem ZC{d:Nat}{H pt:List T}{c pc S:Int}(hH:Fm 18 H)(hW:Fm 18 (H.map (scl S)++pt))(hFp:Fm 18 pt)(hpt:pt=[]\/∃t,pt=[t])(hpm:∀a k,pt=[.mul a k]->2<=k/\0<=pc/\a.hi*k<S/\full S (.mul a k)=false)(hone:S=1->pt=[]/\pc=0)(hS:1<=S)(hS2:S<BM)(h0:0<=T.los pt+pc)(h01:T.los pt<=T.his pt)(h1:T.his pt+pc<S)
  (hk:(c*S+pc).natAbs<2^900) (hcS:(c*S).natAbs<2^900) (hd:56<=d) (hs:2<=(b9 (H.map (scl S)++pt) (c*S+pc)).length):J8 d (fN (H.map (scl S)++pt,c*S+pc)) S=some (.node (fN (pt,pc))):=by
 have hr:Int.fmod (c*S+pc) S=Int.fmod pc S:=by rw[aS _ (iA hS rfl),aS _ (iA hS rfl),kJ,jZ]
 refine jC d 55 hd λd _=>?_;refine jC d 54 (by assumption) λd _=>?_
 rw[uV (F:=(H.map (scl S)++pt,c*S+pc)) hs];show aB fi (d+1+1) 625 [.node (.sum (b9 (H.map (scl S)++pt) (c*S+pc))),.int S] []=_;have hl:=iR (H.map (scl S)++pt) (c*S+pc);have eW:=hW.len;rw[sp625,bS (Z1 ..),bS (fU ..),bG,aT,aV (by lia)]
 show(((dH (bJ (aB fi (d+1)) 37) [5] [] [(1,.node (.sum (b9 (H.map (scl S)++pt) (c*S+pc)))),(2,.int S)] (fR (bJ (aB fi (d+1)) 37) RC) ((b9 (H.map (scl S)++pt) (c*S+pc)).map V.node) []).map _).bind _)=_;rw[Eb (g:=λu=>fN (w8 S u)) λu hu=>?_]
 ·refine oA (Ec (S:=S) (k:=c*S+pc) λt ht=>(hW.gt t ht).term) λq1 q2=>?_;show(aB fi (d+1) 204 [.lst (((b9 (H.map (scl S)++pt) (c*S+pc)).map λu=>fN (w8 S u)).map V.node)] []).bind _=_;have hfm:Fm 18 ((H.map (scl S)++pt).filter λu=>!(sF u&&full S u)):=⟨λt ht=>hW.gt t (dC.mp ht).1,List.Pairwise.sublist lA hW.ap,aR (dM _ _) eW⟩;rw[show((b9 (H.map (scl S)++pt) (c*S+pc)).map λu=>fN (w8 S u))=((b9 (H.map (scl S)++pt) (c*S+pc)).map (w8 S)).map fN by rw[iW];rfl,pC (n:=18) (by rw[q1];exact hfm) (by rw[aT];exact Kt hl eW) (by lia),q1,q2,hr]
  show(aB fi (d+1) 199 [.node (fN ((H.map (scl S)++pt).filter (λu=>!(sF u&&full S u)),Int.fmod pc S)),.int S] []).bind _=_;clear hfm q1 q2 hl eW hW hs hr;by_cases hS1:S=1
  ·refine oA (hone hS1) λn1 n2=>?_;rw[n1,n2,hS1];refine jC d 53 (by assumption) λd _=>?_
   rw[t6,dY];rfl
  ·have hz:=dB pc S;rw[Ju hH hpt (λa k e=>(hpm a k e).2.2.2) (by lia),m199 (j:= -(pc/S)) hFp (by lia) hS2 h0 h01 h1 (by rw[aS _ (iA hS rfl),iU];lia) (g9 (ZB (iA hS rfl) hS2 hk hcS)) (by lia)]
   rfl
 ·rcases pM hu with hu|e
  ·exact Q2 hH hpt (λa k e=>⟨(hpm a k e).1,(hpm a k e).2.2.1⟩) hS hS2 (hW.gt u hu) hu (by lia)
  ·rw[e];show aB fi (d+1) 199 [.node (.num (c*S+pc)),.int S] []=some (V.node (fN ([],Int.fmod (c*S+pc) S)));rw[dY,Au hS hS2 hk (by lia)]
theorem Q3{d:Nat}{t:T}(hv:vY t=true\/∃e l h m,t=.mod (.var e l h) m)(hd:56<=d):J8 d t 1=some (.node (.num 0)):=by
 refine jC d 55 hd λd _=>?_;refine jC d 54 (by assumption) λd _=>?_
 rcases hv with hv|⟨e,l,h,m,e'⟩
 ·rw[Av hv,t6]
 ·rw[e'];refine jC d 53 (by assumption) λd _=>?_
  show aB fi (d+1+1+1) 528 [.node (.mod (.var e l h) m),.int 1] []=_;rw[RB,bS (jU (by decide) (j7 (by decide) (by decide)) ..),bS (mG ..),bS (fU ..),cT (aH (by rw[aS _ (by decide),Int.emod_one]:Int.fmod m 1=0)),Av rfl,t6];rfl
theorem ZD{d:Nat}{u:T}{S:Int}(hu:Gt 18 u)(hl:Lt u)(hS:1<=S)(hS2:S<BM)(hd:56<=d):J8 d (scl S u) S=some (.node (.num 0)):=by
 by_cases hS1:S=1
 ·rw[hS1,yI hu];by_cases hm:∃a k,u=.mul a k
  ·refine Oo (hm) λa k e=>?_;rw[e]at hu⊢;exact Cv hu.at_ (by decide) (by decide) ⟨k,by rw[lX]⟩ (bT hd rfl)
  ·refine oA (tF hu λa k e=>hm ⟨a,k,e⟩) λe1 _=>?_;have hv:=hl.vd;rw[e1]at hv;exact Q3 hv hd
 ·rw[GU hu (by lia)]
  exact Cv hu.at_ hS hS2 ⟨g8 u,d8 _ _⟩ (bT hd rfl)
theorem tm_at{d:Nat}{t:T}{c pc S:Int}(hFp:Fm 18 [t])(ha:j6 t=true)(hl:Lt t)(hz:c*S+pc=0)(hS:2<=S)(hS2:S<BM)(h0:0<=t.lo+pc)(h01:t.lo<=t.hi)(h1:t.hi+pc<S)(hcS:(c*S).natAbs<2^900)(hd:56<=d):J8 d t S=some (.node (fN ([t],pc))):=by
 have l1:T.los [t]=t.lo:=dK _;have l2:T.his [t]=t.hi:=dK _;have base:∀{d:Nat},43<=d->aB fi d 199 [.node t,.int S] []=some (.node (fN ([t],pc))):=λ{d} hd=>by
  have:=m199 (d:=d) (pt:=[t]) (pc:=pc) (S:=S) (j:=c) (r:=0) hFp hS hS2 (by rw[l1];exact h0) (by rw[l1,l2];exact h01) (by rw[l2];exact h1) (by rw[d8];exact hz.symm) (by rw[d8];exact g9 (bA hcS (by decide+kernel))) hd
  rw[fD]at this;exact this
 have e1:jN t=t:=by clear hFp hl h0 h01 h1 l1 l2 base;induction t using T.casesOn<;>first|rfl|exact bX ha
 have hv:=hl.vd;rw[e1]at hv;rcases hv with hv|⟨e,l,h,m,e'⟩
 ·rw[Av hv];exact base (bT hd rfl)
 ·have hn:=hl.fr.nd;rw[e1,e']at hn;rw[e']at base h0 h1⊢;clear e1 l1 l2 hFp hl h01 ha;exact hn.modI λn hy hv' g1 g2=>by
   have ry:=hy.rng;have fS:=j7 (show 0<=S by exact iA hS rfl) hS2
   refine oA (m9 (iB g1 rfl) g2 (aO ry.2.1)) λb1 b2=>?_;rw[uQ,b1]at h0;rw[uR,b2]at h1;refine jC d 55 hd λd hd'=>?_;show aB fi (d+1) 528 [.node (.mod (.var e l h) m),.int S] []=_;rw[RB,bS (jU (aQ (iB hS rfl)) fS ..),bS (mG ..),bS (fU ..)];by_cases hd2:S∣m
   ·have:=eR (iB g1 rfl) hd2;have em:m=S:=by lia
    have ep:pc=0:=by lia
    rw[cT (aH ((jY (iB hS rfl)).mpr hd2)),Av rfl,ep,fD,em];rw[em]at g2;rw[yF ry.1 (aO ry.2.1) hS fS g2 (bT hd' rfl)];rfl
   ·rw[cF (aK (λz=>hd2 ((jY (iB hS rfl)).mp z))),base (bT hd' rfl)];rfl
theorem Q4{d:Nat}{H pt:List T}{c pc S:Int}(hH:Fm 18 H)(hHl:∀t∈H,Lt t)(hW:Fm 18 (H.map (scl S)++pt))(hpt:pt=[]\/∃t,pt=[t]/\Tp t/\Lt t/\(sF t=true->0<=pc))(hS:1<=S)(hS2:S<BM)(h0:0<=T.los pt+pc)(h1:T.his pt+pc<S)(hk:(c*S+pc).natAbs<2^900)(hcS:(c*S).natAbs<2^900)(hd:56<=d):
  J8 d (fN (H.map (scl S)++pt,c*S+pc)) S=some (.node (fN (pt,pc))):=by
 have hp1:pt=[]\/∃t,pt=[t]:=hpt.imp id λ⟨t,e,_⟩=>⟨t,e⟩;have eW:pt.length<=8:=by rcases hp1 with e|⟨t,e⟩<;>(rw[e];exact aX rfl)
 have hFp:Fm 18 pt:=⟨λt ht=>hW.gt t (jV _ ht),(iX.mp hW.ap).2.1,eW⟩;have h01:=Ak hFp.gt;have hpm:∀t,pt=[t]->∀a k,t=.mul a k->2<=k/\0<=pc/\a.hi*k<S/\full S (.mul a k)=false:=λt e a k e2=>by
  rcases hpt with z|⟨t',e',q1,q2,q3⟩
  ·rw[z]at e;exact nomatch e
  ·have et:=(List.cons.inj (e'.symm.trans e)).1;rw[et]at q1 q3;exact ZA hS q1 q3 (e▸h1) e2
 have hone:S=1->pt=[]/\pc=0:=λz=>by
  rcases hp1 with e|⟨t,e⟩
  ·rw[e]at h0 h1;have h0:(0:Int)<=0+pc:=h0;have h1:(0:Int)+pc<S:=h1;exact⟨e,by lia⟩
  ·have:=h01.2 (e▸List.cons_ne_nil _ _);lia
 by_cases hs:2<=(b9 (H.map (scl S)++pt) (c*S+pc)).length
 ·exact ZC hH hW hFp hp1 (λa k e=>hpm _ e a k rfl) hone hS hS2 h0 h01.1 h1 hk hcS hd hs
 ·by_cases hn:H.map (scl S)++pt=[]
  ·refine oA (gQ.mp hn) λn1 n2=>?_;rw[hn,n2];rw[n2]at h0 h1;have h0:(0:Int)<=0+pc:=h0;have h1:(0:Int)+pc<S:=h1;rw[dY,dY];show aB fi d 199 [.node (.num (c*S+pc)),.int S] []=_;rw[Au hS hS2 hk (bT hd rfl),aS _ (iA hS rfl),kJ,jZ,qH (by lia) (by lia)]
  ·refine i8 (rR hs hn) λt ht hz0=>?_;rw[ht,hz0,fD];rcases hp1 with e|⟨u,e⟩
   ·rw[e]at h0 h1 ht⊢;have h0:(0:Int)<=0+pc:=h0;have h1:(0:Int)+pc<S:=h1;rw[tm_z hz0 (by lia) (by lia),dY]
    rw[bW]at ht;refine i8 (bR.mp (ht▸lY t:t∈H.map (scl S))) λv hv ev=>?_;rw[<-ev];exact ZD (hH.gt v hv) (hHl v hv) hS hS2 hd
   ·have hS3:2<=S:=by
     have:S≠1:=λz=>by have:=(hone z).1;rw[e]at this;exact nomatch this
     lia
    rw[e]at ht hFp h0 h1 h01⊢;have et:u=t:=by
     have:=congrArg List.length ht;have h2:H=[]:=by
      rw[bU,aT]at this;exact List.length_eq_zero_iff.mp (Nat.succ.inj this)
     rw[h2]at ht;exact(List.cons.inj ht).1
    rw[et]at e hFp h0 h1 h01⊢;rw[show T.los [t]=t.lo from dK _]at h0 h01;rw[show T.his [t]=t.hi from dK _]at h1 h01;by_cases hm:sF t=true
    ·refine Oo (sG hm) λa k e2=>?_;refine u7 (hpm t e a k e2) λm1 m2 m3 _=>?_;have hlo:=h01.1;have hg:=hFp.gt t aE;rw[e2]at hg⊢;have rr:0<=a.lo/\a.lo<a.hi/\a.hi<BM:=hg.nd.rng;have hm0:0<=a.hi*k:=eO (aO (aJ rr.1 rr.2.1)) (iA m1 rfl);rw[e2,pL,aH (iA m1 rfl:0<=k)]at h1;have h1:a.hi*k+pc<S:=h1;rw[tm_z hz0 m2 (by lia),fD]
     exact Oa hg m1 hS2 m3 (bT hd rfl)
    ·rcases hpt with z|⟨t',e',q1,q2,q3⟩
     ·rw[z]at e;exact nomatch e
     ·have et':=(List.cons.inj (e'.symm.trans e)).1;rw[et']at q1 q2;have ha:j6 t=true:=by
       have:=(hFp.gt t aE).at_;clear hpm hFp h01 h0 h1 ht hn hs hW q1 q2 q3 e e' et';induction t using T.casesOn<;>first|rfl|exact bX this|exact absurd rfl hm
      exact tm_at hFp ha q2 hz0 hS3 hS2 h0 h01.1 h1 hcS hd
theorem sp314(d:Nat)(n m:Int):aB fi (d+1) 314 [.node (.num n),.node (.num m)] []=some (.bool (decide (n=m))):=(cR rfl rfl rfl rfl).trans (by kernel_rfl)
theorem sp86n(d:Nat)(t u:T):aB fi (d+1) 86 [.node t,.node u] []=(jD (aB fi d) (.node t) .key).bind λv=>(jD (aB fi d) (.node u) .key).bind λw=>(j4 (aB fi d) .Eq v w).bind λv=>(a8 v []).bind λq=>some q.1:=by
 induction u using T.casesOn<;>exact(cR rfl rfl rfl rfl).trans (by kernel_rfl)
theorem Q5{d:Nat}{t:T}(h:æ d t):j4 (aB fi (d+1)) .Eq (.node t) (.node t)=some (.bool true):=by
 have h86:aB fi (d+1) 86 [.node t,.node t] []=some (.bool true):=by
  rw[sp86n,show jD (aB fi d) (.node t) .key=some (.str t.rend)from h,aF,aF,
   show j4 (aB fi d) .Eq (.str t.rend) (.str t.rend)=some (.bool (lE t.rend t.rend))from rfl,sV];rfl
 induction t using T.casesOn with
 |num n=>exact(sp314 d n n).trans (by rw[aH rfl])
 |_=>exact h86
theorem nds5:∀{ts:List T},(∀t∈ts,t.nd<=5)->T.nds ts<=5*ts.length
 |[],_=>by rw[T.nds];exact d3 _
 |t::r,h=>by
  have h1:=h t aE;have h2:=nds5 λu hu=>h u (aI t hu);rw[T.nds,bL];lia
theorem Rk.mono{n:Nat}{t:T}(h:Rk n t):∀{m:Nat},n<=m->Rk m t:=by
 induction h with
 |num h=>exact λ_=>.num h
 |var a b c=>exact λ_=>.var a b c
 |mul a b c ih=>intro m hm;obtain⟨m,rfl,hm⟩:=up hm;exact .mul (ih (by assumption)) b c
 |div a b c ih=>intro m hm;obtain⟨m,rfl,hm⟩:=up hm;exact .div (ih (by assumption)) b c
 |mod a b c ih=>intro m hm;obtain⟨m,rfl,hm⟩:=up hm;exact .mod (ih (by assumption)) b c
 |sum a b c ih=>intro m hm;obtain⟨m,rfl,hm⟩:=up hm;exact .sum (λu hu=>ih u hu (by assumption)) b c
theorem Q6{F:List T×Int}(h:Fm 18 F.1)(hl:∀t∈F.1,Fr (jN t))(hk:F.2.natAbs<2^900):Rk 20 (fN F)/\(fN F).nd<=50:=by
 obtain⟨ts,k⟩:=F;have h18:(2:Nat)^900<2^1800:=by decide+kernel
 have ht:∀t∈ts,Rk 19 t/\t.nd<=5:=λt ht=>by
  have hg:=h.gt t ht;have n1:=Z4 t;have n2:=(sK (hl t ht).b).2;refine⟨?_,by lia⟩
  by_cases hm:∃a c,t=.mul a c
  ·clear n2 n1 ht;obtain⟨a,c,rfl⟩:=hm;have hr:Rk 18 a:=hg.nd.rk;exact .mul hr (Cg (bA (hg.mul a c rfl).2.2 h18)) (iV hg.rng)
  ·refine oA (tF hg λa k e=>hm ⟨a,k,e⟩) λe1 _=>?_;have:=hg.nd.mono (m:=19) (by lia)
   rw[e1]at this;exact this.rk
 have hl:=iR ts k;have eW:ts.length<=8:=h.len;have hnd:T.nds ts<=5*ts.length:=nds5 λt h=>(ht t h).2;have hkS:=Cg (bA hk h18);by_cases hs:2<=(b9 ts k).length
 ·rw[uV (F:=(ts,k)) hs];refine⟨.sum (λu hu=>?_) (by show(b9 ts k).length<64;lia) (iV (An h.gt hs)),?_⟩
  ·rcases pM hu with hu|rfl
   ·exact(ht u hu).1
   ·exact .num hkS
  ·show(T.sum (b9 ts k)).nd<=50;have:=GL k;rw[T.nd,Aq,Cq];lia
 ·by_cases f5:ts=[]
  ·clear hs hnd eW hl ht hk h;subst f5;rw[dY];exact⟨.num hkS,by rw[T.nd];lia⟩
  ·clear hkS hnd eW hl hk h;obtain⟨t,rfl,rfl⟩:=rR hs f5;rw[fD];refine oA (ht t aE) λq1 q2=>?_;exact⟨q1.mono (by lia),by exact iG q2 rfl⟩
theorem GV{d:Nat}{F:List T×Int}(h:Fm 18 F.1)(hl:∀t∈F.1,Fr (jN t))(hk:F.2.natAbs<2^900)(hd:44<=d):j4 (aB fi d) .Eq (.node (fN F)) (.node (fN F))=some (.bool true):=by
 refine jC d 43 hd λd _=>?_;refine oA (Q6 h hl hk) λh1 h2=>?_;exact Q5 (Ah h1 (by exact iG h2 rfl) (by assumption))
def Fw(d:Nat)(t:T)(D:List (Str×V)):Option V:=(gU t .substitute).bind λf=>aB fi d f [.node t,.dct D] []
theorem RD(d:Nat)(n:Int)(D:List (Str×V)):aB fi (d+1) 321 [.node (.num n),.dct D] []=some (.node (.num n)):=(cR rfl rfl rfl rfl).trans (by kernel_rfl)
theorem RE(d:Nat)(e:Str)(l h:Int)(D:List (Str×V)):aB fi (d+1) 267 [.node (.var e l h),.dct D] []=(jD (aB fi d) (.node (.var e l h)) .key).bind λv=>(iL (.dct D) .get [v,.node (.var e l h)] []).bind λx=>(a8 x.1 x.2).bind λq=>some q.1:=(cR rfl rfl rfl rfl).trans (by kernel_rfl)
theorem uX{a:T}(h:j6 a=true):jR (.node a) .substitute []=true:=by induction a using T.casesOn<;>first|(refine e9 h ?_;done)|rfl
theorem sp461(d:Nat)(a:T)(c:Int)(D:List (Str×V)):aB fi (d+1) 461 [.node (.mul a c),.dct D] []=bif !jR (.node a) .substitute []then none else(gU a .substitute).bind λf=>(aB fi d f [.node a,.dct D] []).bind λv=>(cG (aB fi d) .Mult v (.int c)).bind λv=>(a8 v []).bind λq=>some q.1:=(cR rfl rfl rfl rfl).trans (by kernel_rfl)
theorem sp502(d:Nat)(a:T)(c:Int)(D:List (Str×V)):aB fi (d+1) 502 [.node (.div a c),.dct D] []=bif !jR (.node a) .substitute []then none else(gU a .substitute).bind λf=>(aB fi d f [.node a,.dct D] []).bind λv=>(cG (aB fi d) .FloorDiv v (.int c)).bind λv=>(a8 v []).bind λq=>some q.1:=(cR rfl rfl rfl rfl).trans (by kernel_rfl)
theorem sp550(d:Nat)(a:T)(c:Int)(D:List (Str×V)):aB fi (d+1) 550 [.node (.mod a c),.dct D] []=bif !jR (.node a) .substitute []then none else(gU a .substitute).bind λf=>(aB fi d f [.node a,.dct D] []).bind λv=>(cG (aB fi d) .Mod v (.int c)).bind λv=>(a8 v []).bind λq=>some q.1:=(cR rfl rfl rfl rfl).trans (by kernel_rfl)
noncomputable def RF:X:=.meth (.var 5) .substitute [(.var 47)] []
theorem sp630(d:Nat)(l:List T)(D:List (Str×V)):aB fi (d+1) 630 [.node (.sum l),.dct D] []=((bif Nat.ble (l.map V.node).length 1000 then some (l.map V.node,[])else none).bind λp=>(dH (bJ (aB fi d) 37) [5] [] [(1,.node (.sum l)),(47,.dct D)] (fR (bJ (aB fi d) 37) RF) p.1 p.2).map λq=>gT (.lst q.1) q.2).bind λv=>
  ((a8 v.1 v.2).bind λp=>(some ([],p.2)).map λq=>(p.1::q.1,q.2)).bind λv=>(aB fi d 204 v.1 []).bind λx=>(a8 x v.2).bind λq=>some q.1:=(cR rfl rfl rfl rfl).trans (by kernel_rfl)
theorem ZE(d:Nat)(v:V)(u:T)(D:List (Str×V))(h:oD u=false):fR (bJ (aB fi d) 37) RF [(1,v),(47,.dct D),(5,.node u)] []=((Fw d u D).bind λx=>some (x,([]:Cs))).bind λx=>(a8 x.1 x.2).map λy=>([y.1],y.2):=by
 show((bJ (aB fi d) 37).ev RF [(1,v),(47,.dct D),(5,.node u)] []).bind _=_;rw[DJ];induction u using T.casesOn<;>first|(refine e9 h ?_;done)|kernel_rfl
theorem Ed{d:Nat}{v:V}{D:List (Str×V)}{g:T->T}:∀{l:List T},(∀u∈l,oD u=false/\Fw d u D=some (.node (g u)))->dH (bJ (aB fi d) 37) [5] [] [(1,v),(47,.dct D)] (fR (bJ (aB fi d) 37) RF) (l.map V.node) []=some ((l.map g).map V.node,[])
 |[],_=>rfl
 |u::r,h=>by
  refine oA (h u aE) λh1 h2=>?_;show((fR (bJ (aB fi d) 37) RF [(1,v),(47,.dct D),(5,.node u)] []).bind λq=>(dH (bJ (aB fi d) 37) [5] [] [(1,v),(47,.dct D)] (fR (bJ (aB fi d) 37) RF) (r.map V.node) q.2).map λz=>(q.1++z.1,z.2))=_;rw[ZE _ _ _ _ h1,h2];show(dH (bJ (aB fi d) 37) [5] [] [(1,v),(47,.dct D)] (fR (bJ (aB fi d) 37) RF) (r.map V.node) []).map _=_;rw[Ed λu hu=>h u (aI _ hu)];rfl
def At(D:List (Str×V))(a:T)(x:Int):Prop:=∀d,44<=d->Fw d a D=some (.node (.num x))
theorem at_var{D:List (Str×V)}{e:Str}{l h x:Int}(hn:Nd 0 (.var e l h))(hD:cJ (T.var e l h).rend D=some (.node (.num x))):At D (.var e l h) x:=λd hd=>by
 refine jC d 43 hd λd _=>?_;have hk:æ d (.var e l h):=Ah hn.rk (by rw[T.nd];lia) (by exact bT (by assumption) (by rfl))
 show aB fi (d+1) 267 [.node (.var e l h),.dct D] []=_;rw[RE,bS (show jD (aB fi d) (.node (.var e l h)) .key=some (.str (T.var e l h).rend)from hk),
  show iL (.dct D) .get [.str (T.var e l h).rend,.node (.var e l h)] []=some ((match cJ (T.var e l h).rend D with|some u=>u|none=>.node (.var e l h)),[]) by kernel_rfl,hD];rfl
theorem ZF{D:List (Str×V)}{a:T}{b x:Int}(ha:j6 a=true)(h:∀d,43<=d->Fw d a D=some (.node (.num x)))(hb:1<=b)(fX:b<BM)(hx:x.natAbs<2^900):At D (.div a b) (Int.fdiv x b):=λd hd=>by
 refine jC d 43 hd λd _=>?_;have h:=h d (by assumption)
 unfold Fw at h;show aB fi (d+1) 502 [.node (.div a b),.dct D] []=_;rw[sp502,uX ha,gS,bG,<-wY,bS (h ..),oU,oV hx hb fX (by exact bT (by assumption) (by rfl))];rfl
theorem ZG{D:List (Str×V)}{a:T}{b x:Int}(ha:j6 a=true)(h:∀d,43<=d->Fw d a D=some (.node (.num x)))(hb:1<=b)(fX:b<BM)(hx:x.natAbs<2^900):At D (.mod a b) (Int.fmod x b):=λd hd=>by
 refine jC d 43 hd λd _=>?_;have h:=h d (by assumption)
 unfold Fw at h;show aB fi (d+1) 550 [.node (.mod a b),.dct D] []=_;rw[sp550,uX ha,gS,bG,<-wY,bS (h ..)];show(aB fi d 199 [.node (.num x),.int b] []).bind _=_;rw[Au hb fX hx (by exact bT (by assumption) (by rfl))];rfl
theorem Q7{d:Nat}{D:List (Str×V)}{t:T}{x:Int}(h:Gt 18 t)(ha:At D (jN t) x)(hx:(x*g8 t).natAbs<2^1900)(hd:45<=d):Fw d t D=some (.node (.num (x*g8 t))):=by
 refine jC d 44 hd λd _=>?_;by_cases hm:∃a c,t=.mul a c
 ·obtain⟨a,c,rfl⟩:=hm;have ha:=ha d (by assumption)
  unfold Fw at ha;show aB fi (d+1) 461 [.node (.mul a c),.dct D] []=_;rw[sp461,uX (a:=a) h.at_,gS,bG,<-wY,bS (show((gU a .substitute).bind λf=>aB fi d f [.node a,.dct D] [])=_ from ha),Ci (c:=c) hx (by exact bT (by assumption) (by rfl))];rfl
 ·refine oA (tF h λa k e=>hm ⟨a,k,e⟩) λe1 e2=>?_;clear hm hd hx;rw[e1]at ha;rw[e2,dF];exact ha (d+1) (by lia)
def vU(ν:T->Int):T->Int
 |.num k=>k
 |t=>ν t*g8 t
noncomputable def val(ν:T->Int):List T->Int
 |[]=>0
 |t::r=>ν t*g8 t+val ν r
theorem GW{ν:T->Int}{t:T}(h:dO t=true):vU ν t=ν t*g8 t:=by induction t using T.casesOn<;>first|(exact bX h;done)|rfl
theorem Oc{ν:T->Int}{k:Int}:∀{ts:List T},(∀t∈ts,dO t=true)->((b9 ts k).map (vU ν)).sum=val ν ts+k
 |[],_=>by
  unfold b9;induction h:decide (k=0) using Bool.casesOn with
  |true=>rw[aM h];rfl
  |false=>show k+0=0+k;lia
 |t::r,h=>by
  show((vU ν t::(b9 r k).map (vU ν))).sum=ν t*g8 t+val ν r+k;rw[eJ,Oc λu hu=>h u (aI _ hu),GW (h t aE)];lia
theorem Q8{d:Nat}{D:List (Str×V)}{F:List T×Int}{ν:T->Int}(h:Fm 18 F.1)(ha:∀t∈F.1,At D (jN t) (ν t))(hx:∀t∈F.1,(ν t*g8 t).natAbs<2^1900)(hd:47<=d):Fw d (fN F) D=some (.node (.num (val ν F.1+F.2))):=by
 obtain⟨ts,k⟩:=F;have mem:∀d',45<=d'->∀u∈b9 ts k,oD u=false/\Fw d' u D=some (.node (.num (vU ν u))):=λd' hd' u hu=>by
  rcases pM hu with hu|rfl
  ·exact⟨(h.gt u hu).noSum,by rw[Q7 (h.gt u hu) (ha u hu) (hx u hu) hd',GW (h.gt u hu).term]⟩
  ·obtain⟨d',rfl,_⟩:=up (K:=44) hd';exact⟨rfl,RD d' k D⟩
 have hv:=Oc (ν:=ν) (k:=k) λt ht=>(h.gt t ht).term;have hl:=iR ts k;have eW:ts.length<=8:=h.len;show Fw d (J6 (b9 ts k)) D=some (.node (.num (val ν ts+k)));rw[<-hv];generalize b9 ts k=l at mem hl⊢;induction l using Ka with
 |nil=>
  refine jC d 46 hd λd _=>?_;exact RD d 0 D
 |one u=>
  show Fw d u D=_;rw[(mem d (bT hd rfl) u aE).2];simp
 |two a b r=>
  refine jC d 46 hd λd _=>?_;show aB fi (d+1) 630 [.node (.sum (a::b::r)),.dct D] []=_;rw[sp630,aT,aV (by simp at hl⊢;exact bD (bA (d7 hl.2) (iM eW rfl)))]
  show((dH (bJ (aB fi d) 37) [5] [] [(1,.node (.sum (a::b::r))),(47,.dct D)] (fR (bJ (aB fi d) 37) RF) ((a::b::r).map V.node) []).map _).bind _=_;rw[Ed (g:=λu=>.num (vU ν u)) λu hu=>mem d (by exact bT (by assumption) (by rfl)) u hu]
  show(aB fi d 204 [.lst (((a::b::r).map λu=>T.num (vU ν u)).map V.node)] []).bind _=_;have e1:((a::b::r).map λu=>T.num (vU ν u))=((a::b::r).map λu=>(([],vU ν u):List T×Int)).map fN:=by
   rw[iW];exact i9 λu _=>(dY _).symm
  have e2:((a::b::r).map λu=>(([],vU ν u):List T×Int)).flatMap (·.1)=[]:=by
   rw[List.flatMap_eq_nil_iff];intro x hx;obtain⟨u,_,rfl⟩:=bR.mp hx;rfl
  have e3:(((a::b::r).map λu=>(([],vU ν u):List T×Int)).map (·.2))=(a::b::r).map (vU ν):=by rw[iW];rfl
  rw[e1,pC (n:=0) (by rw[e2];exact Fm.nil 0) (by rw[aT];simp at hl⊢;exact bD (bA (d7 hl.2) (iM eW rfl))) (by exact bT (by assumption) (by rfl)),e2,e3,dY];rfl
theorem sp659(d:Nat)(t:T)(D:List (Str×V)):aB fi (d+1) 659 [.node t,.dct D] []=bif !jR (.node t) .substitute []then none
  else((bif Nat.ble D.length 1000&&true then some (D.map vW,[])else none).bind λp=>(dH (bJ (aB fi d) 36) [6,17] [] [(41,.node t),(47,.dct D)] (uC (bJ (aB fi d) 36) (.var 6) (.call (.glob 331) [(.var 17)] [])) p.1 p.2).map λq=>gT (.dct (uD q.1)) q.2).bind λv=>
   (gU t .substitute).bind λf=>((a8 v.1 v.2).bind λp=>(some ([],p.2)).map λq=>(p.1::q.1,q.2)).bind λw=>(aB fi d f (.node t::w.1) []).bind λr=>((uL r (.glob 331)).map λb=>(V.bool b,w.2)).bind λv=>(eM v.1 v.2).bind λz=>
    bif z then(jD (aB fi d) r .b).bind λx=>(a8 x v.2).bind λq=>some q.1 else none:=(cR rfl rfl rfl rfl).trans (by kernel_rfl)
noncomputable def nZ(vs:List (Str×Int)):List (Str×V):=vs.map λp=>(p.1,V.int p.2)
noncomputable def Cw(vs:List (Str×Int)):List (Str×V):=vs.map λp=>(p.1,V.node (.num p.2))
theorem Q9(d:Nat)(t:T)(D:List (Str×V))(k:Str)(x:Int):uC (bJ (aB fi (d+1)) 36) (.var 6) (.call (.glob 331) [(.var 17)] []) [(41,.node t),(47,.dct D),(6,.str k),(17,.int x)] []=some ([.tup [.str k,.node (.num x)]],[]):=by
 show(some (V.str k,([]:Cs))).bind (λp=>((bJ (aB fi (d+1)) 36).ev (.call (.glob 331) [(.var 17)] []) [(41,.node t),(47,.dct D),(6,.str k),(17,.int x)] p.2).bind λq=>(E8 p.1 q.1).map λx=>([x],q.2))=_;rw[aF,DJ,show(m6 (aB fi (d+1)) 36).ev (.call (.glob 331) [(.var 17)] []) [(41,.node t),(47,.dct D),(6,.str k),(17,.int x)] [] (λv c=>some (v,c))=(aB fi (d+1) 331 [.int x] []).bind λv=>some (v,[]) by kernel_rfl,xZ];rfl
theorem Bx(d:Nat)(t:T)(D:List (Str×V)):∀vs:List (Str×Int),dH (bJ (aB fi (d+1)) 36) [6,17] [] [(41,.node t),(47,.dct D)] (uC (bJ (aB fi (d+1)) 36) (.var 6) (.call (.glob 331) [(.var 17)] [])) ((nZ vs).map vW) []=some (vs.map λp=>V.tup [.str p.1,.node (.num p.2)],[])
 |[]=>rfl
 |(k,x)::r=>by
  show((uC (bJ (aB fi (d+1)) 36) (.var 6) (.call (.glob 331) [(.var 17)] []) [(41,.node t),(47,.dct D),(6,.str k),(17,.int x)] []).bind λq=>(dH (bJ (aB fi (d+1)) 36) [6,17] [] [(41,.node t),(47,.dct D)] (uC (bJ (aB fi (d+1)) 36) (.var 6) (.call (.glob 331) [(.var 17)] [])) ((nZ r).map vW) q.2).map λz=>(q.1++z.1,z.2))=_;rw[bS (Q9 ..),Bx d t D r];rfl
theorem Aw:∀(vs:List (Str×Int)) (c8:List (Str×V)),(c8.map (·.1)++vs.map (·.1)).Nodup->(vs.map λp=>V.tup [.str p.1,.node (.num p.2)]).foldl wH c8=c8++Cw vs
 |[],c8,_=>(bW c8).symm
 |(k,x)::r,c8,h=>by
  have hk:cJ k c8=none:=rJ λp hp=>by
   refine mB.mpr λ(e:k=p.1)=>?_;exact(gI.mp h).2.2 p.1 (fV hp) k aE e.symm
  show((r.map λp=>V.tup [.str p.1,.node (.num p.2)]).foldl wH (lM k (.node (.num x)) c8))=_;rw[tB hk,Aw r _ (by rw[dQ,dT];exact h),dT];rfl
theorem RG{d:Nat}{F:List T×Int}{ν:T->Int}{vs:List (Str×Int)}(h:Fm 18 F.1)(hn:(vs.map (·.1)).Nodup)(hz:vs.length<=1000)(ha:∀t∈F.1,At (Cw vs) (jN t) (ν t))(hx:∀t∈F.1,(ν t*g8 t).natAbs<2^1900)(hd:49<=d):
  aB fi d 659 [.node (fN F),.dct (nZ vs)] []=some (.int (val ν F.1+F.2)):=by
 refine jC d 48 hd λd _=>?_;refine jC d 47 (by assumption) λd _=>?_
 have ho:jR (.node (fN F)) .substitute []=true:=by generalize fN F=t;induction t using T.casesOn<;>rfl
 rw[sp659,ho,gS,bG,show Nat.ble (nZ vs).length 1000=true from aV (by unfold nZ;rw[aT];exact hz)]
 show(((dH (bJ (aB fi (d+1)) 36) [6,17] [] [(41,.node (fN F)),(47,.dct (nZ vs))] (uC (bJ (aB fi (d+1)) 36) (.var 6) (.call (.glob 331) [(.var 17)] [])) ((nZ vs).map vW) []).map _).bind _)=_;have e:uD (vs.map λp=>V.tup [.str p.1,.node (.num p.2)])=Cw vs:=Aw vs [] hn;have hs:=Q8 (d:=d+1) h ha hx (by lia)
 unfold Fw at hs;rw[Bx,cU,aF,e];generalize hm:gU (fN F) .substitute=m at hs⊢;induction m using Option.casesOn with
 |none=>exact aY hs
 |some f=>
  rw[aF]at hs⊢;show(aB fi (d+1) f [.node (fN F),.dct (Cw vs)] []).bind _=_;rw[hs];rfl
theorem sp673(d:Nat)(sc:List V)(k:Int):aB fi (d+1) 673 [.lst sc,.int k] []=(Option.map (λx=>(x,([]:Cs))) (bif Nat.ble sc.length 100000 then some (V.int sc.length)else none)).bind λv=>(j4 (aB fi d) .Lt (.int k) v.1).bind λw=>(eM w v.2).bind λz=>
  bif z then(bif decide (0<=k)&&decide (k<1000)then sc[k.toNat]? else none).bind λx=>(a8 x v.2).bind λq=>some q.1
  else(bif Nat.ble sc.length 100000 then some (!sc.isEmpty)else none).bind λy=>bif !y then(bif jQ (7*k)then some (V.int (7*k))else none).bind λa=>(cG (aB fi d) .Add a (.int 3)).bind λb=>(a8 b v.2).bind λq=>some q.1
   else(Option.map (λx=>(x,v.2)) (bif Nat.ble sc.length 100000 then some (V.int sc.length)else none)).bind λv=>(cG (aB fi d) .Mod (.int k) v.1).bind λi=>(eZ (.lst sc) i v.2).bind λx=>(bif jQ (7*k)then some (V.int (7*k))else none).bind λa=>(cG (aB fi d) .Add x a).bind λb=>(a8 b v.2).bind λq=>some q.1:=
 (cR rfl rfl rfl rfl).trans (by kernel_rfl)
noncomputable def ZH(m q:Int):List Y:=[.ret (.ite (.cmp .Lt (.call (.bi .abs) [(.var 48)] []) (.int m)) (.var 48) (.bin .Mod (.var 48) (.int q)))]
theorem s680(d:Nat)(m q k:Int):dR (R4 d) (ZH m q) [(48,.int k)] [] kR kN=(j4 (aB fi d) .Lt (.int k.natAbs) (.int m)).bind λv=>(eM v []).bind λz=>bif z then(a8 (.int k) []).bind λv=>some v.1 else(eY .Mod k q).bind λv=>(a8 v []).bind λv=>some v.1:=by kernel_rfl
theorem QA(d:Nat)(m q k:Int)(hq:0<q)(hf:jQ q=true):∃y,dR (R4 d) (ZH m q) [(48,.int k)] [] kR kN=some (.int y)/\((y=k/\(k.natAbs:Int)<m)\/(0<=y/\y<q)):=by
 rw[s680];show ∃y,(bif decide ((k.natAbs:Int)<m)then _ else _)=_/\_;induction h:decide ((k.natAbs:Int)<m) using Bool.casesOn with
 |true=>exact kF k rfl (.inl ⟨rfl,aM h⟩)
 |false=>
  refine kF (Int.fmod k q) ?_ (.inr ?_)
  ·rw[bG,jU (aQ hq) hf];rfl
  ·rw[aS _ (aO hq)];exact⟨eE _ (aQ hq),dW _ hq⟩
theorem QB:Yi.body=ZH 1000000000000000000 1000000000000000003:=by kernel_rfl
theorem QC(d:Nat)(x:Int):aB fi (d+1) 680 [.int x] []=dR (R4 d) Yi.body [(48,.int x)] [] kR kN:=cR rfl rfl rfl rfl
theorem ZI(d:Nat)(x:Int):∃y,aB fi (d+1) 680 [.int x] []=some (.int y)/\y.natAbs<2^60:=by
 rw[QC,QB];have h60:(1000000000000000003:Int)<2^60:=by decide
 have h61:(1000000000000000000:Int)<2^60:=by decide
 have h62:(0:Int)<1000000000000000003:=by decide
 generalize (1000000000000000003:Int)=q at h60 h62⊢;generalize (1000000000000000000:Int)=m at h61⊢;refine i8 (QA d m q x h62 (g9 (bA (nL (aO h62) h60:q.natAbs<2^60) (by decide+kernel)))) λy e h=>?_
 exact kF y e (h.elim (λh=>by rw[h.1];exact oW.mp (cX h.2 h61)) λh=>nL h.1 (cX h.2 h60))
theorem sp666(d:Nat):aB fi (d+1) 666 [] []=some (.lst ([118,119,120,121,122].map λc=>V.str ⟨#[c]⟩)):=(cR rfl rfl rfl rfl).trans (by kernel_rfl)
theorem sp340(d:Nat)(e:Str)(l h:Int):aB fi (d+1) 340 [.str e,.int l,.int h] []=bif decide (0<=l)then(bif decide (l<=h)then(bif decide (l=h)then(aB fi d 331 [V.int l] []).bind λv=>(a8 v []).bind λv=>some v.1
  else(aB fi d 277 [V.str e,V.int l,V.int h] []).bind λv=>(a8 v []).bind λv=>some v.1)else none)else none:=(cR rfl rfl rfl rfl).trans (by kernel_rfl)
theorem RH(d:Nat){L:List Int}(hL:L.length<=31){k:Int}(h0:0<=k)(h1:k<100):∃x,aB fi (d+1) 673 [.lst (L.map V.int),.int k] []=some (.int x):=by
 have hf:(bif jQ (7*k)then some (V.int (7*k))else none)=some (V.int (7*k)):=by rw[show jQ (7*k)=true from g9 (bA (show(7*k).natAbs<2^10 by lia) (by decide+kernel))];rfl
 have get:∀i:Nat,i<L.length->∃x,(L.map V.int)[i]?=some (.int x):=λi hi=>⟨L[i],by rw[List.getElem?_map,List.getElem?_eq_getElem hi];rfl⟩
 rw[sp673,hf,show Nat.ble (L.map V.int).length 100000=true from aV (by rw[aT];lia),bV,cU,aF]
 show ∃x,(bif decide (k<((L.map V.int).length:Int))then(bif decide (0<=k)&&decide (k<1000)then(L.map V.int)[k.toNat]? else none).bind _ else _)=_;rw[aT];induction h:decide (k<(L.length:Int)) using Bool.casesOn with
 |true=>
  have h:=aM h;obtain⟨x,e⟩:=get k.toNat (by lia)
  rw[aH h0,aH (show k<1000 by exact iJ h1 rfl),e]
  exact jE x rfl
 |false=>
  have h:=jJ h;rw[bG]
  match L,hL,get,h with
  |[],_,_,_=>exact jE _ rfl
  |a::r,hL,get,h=>
   generalize hn:(a::r).length=n at*;have hn0:0<n:=by rw[<-hn];exact Nat.succ_pos _
   have m1:=eE k (show(n:Int)≠0 by lia)
   have m2:=dW k (show(0:Int)<n by lia)
   have e1:eY .Mod k n=some (.int (k%n)):=by rw[jU (by exact aQ (aJ m1 m2)) (g9 (bA (show(n:Int).natAbs<2^10 by lia) (by decide+kernel))),aS _ (by exact aO (aJ m1 m2))]
   obtain⟨x,e⟩:=get (k%n).toNat (by lia)
   refine jE (x+7*k) ?_;show(eY .Mod k n).bind _=_;rw[e1];show(bif decide (0<=k%(n:Int))&&decide (k%(n:Int)<1000)then((a::r).map V.int)[(k%(n:Int)).toNat]? else none).bind _=_;rw[aH m1,aH (show k%(n:Int)<1000 by exact cX (eN m2 (jK.mp h)) (iJ h1 rfl)),e];rfl
theorem ZJ(d:Nat)(e:Str){l s:Int}(h0:0<=l)(hs:0<=s):aB fi (d+2) 340 [.str e,.int l,.int (l+s)] []=some (.node (bif decide (0<s)then .var e l (l+s)else .num l)):=by
 rw[sp340,aH h0,aH (show l<=l+s by lia)]
 by_cases h:0<s
 ·rw[aK (show ¬l=l+s by lia),aH h];rfl
 ·rw[aH (show l=l+s by lia),aK h,xZ];rfl
def l7:List Y:=match Mn.body.drop 6 with
 |Y.forR _ _ b::_=>b
 |_=>[]
noncomputable abbrev O3:=Option (Option V×Ev×Cs)
noncomputable abbrev wB(d:Nat):RecK (Option V×Ev×Cs):=m6 (aB fi d) 39
noncomputable abbrev eA(cnt:Int)(ex:Ev):Ev:=(8,.own 0)::(50,.int cnt)::(23,.own 1)::(22,.own 2)::(20,.own 3)::(15,.own 4)::ex
noncomputable abbrev C4(sc A B C:List V)(D:List (Str×V)):Cs:=[⟨true,.lst sc⟩,⟨false,.lst A⟩,⟨false,.lst B⟩,⟨false,.lst C⟩,⟨false,.dct D⟩]
noncomputable abbrev eB(cnt k:Int)(lo sp va nu byy mo:V)(ex:Ev):Ev:=eA cnt ((6,.int k)::(31,lo)::(19,sp)::(16,va)::(48,nu)::(38,byy)::(30,mo)::ex)
def RI(d:Nat)(cs:Cs)(k i:Int)(K:V->Cs->O3):O3:=(eY .Mult 6 k).bind λa=>(cG (aB fi d) .Add a (.int i)).bind λb=>(eX [.own 0,b] cs).bind λw=>(aB fi d 673 w.1 []).bind λv=>K v w.2
def Fx(d:Nat)(v:V)(cs:Cs)(K:V->Cs->O3):O3:=(eX [v] cs).bind λw=>(aB fi d 680 w.1 []).bind λv=>K v w.2
def Jv(v:V)(cs:Cs)(K:V->Cs->O3):O3:=((view v cs).bind λu=>(wG .abs u).map λx=>(x,cs)).bind λp=>K p.1 p.2
def Ee(d:Nat)(op:PySem.CmpOp)(v:V)(y:Int)(cs:Cs)(K:Bool->O3):O3:=(j4 (aB fi d) op v (.int y)).bind λv=>(eM v cs).bind K
noncomputable def tl(b:Bool)(l:List (Nat×V)):Ev:=bif b then[]else l
theorem seg0(d:Nat)(b:Bool)(cnt k:Int)(a0 a1 a2 a3 a4 a5 p:V)(cs:Cs)(kr:V->Ev->Cs->O3)(kn:Ev->Cs->O3):
  dR (wB d) l7 (eA cnt ((6,.int k)::tl b [(31,a0),(19,a1),(16,a2),(48,a3),(38,a4),(30,a5),(24,p)])) cs kr kn=
  RI d cs k 1 λv cs=>Fx d v cs λv cs=>Jv v cs λlo cs=>RI d cs k 2 λv cs=>Fx d v cs λv cs=>Jv v cs λsp cs=>
  RI d cs k 3 λv cs=>(cG (aB fi d) .Add sp (.int 1)).bind λs=>(cG (aB fi d) .Mod v s).bind λm=>(cG (aB fi d) .Add lo m).bind λva=>
  RI d cs k 4 λnu cs=>(cG (aB fi d) .FloorDiv nu (.int 5)).bind λq=>Fx d q cs λv cs=>(cG (aB fi d) .Add v (.int 1)).bind λv=>Jv v cs λv cs=>(cG (aB fi d) .Add (.int 1) v).bind λbyy=>
  RI d cs k 5 λv cs=>Fx d v cs λmo cs=>dR (wB d) (l7.drop 6) (eB cnt k lo sp va nu byy mo (tl b [(24,p)])) cs kr kn:=by
 induction b using Bool.casesOn<;>kernel_rfl
theorem seg6(d:Nat)(b:Bool)(cnt k:Int)(a0 a1 a2 a3 a4 a5 p:V)(cs:Cs)(kr:V->Ev->Cs->O3)(kn:Ev->Cs->O3):
  dR (wB d) (l7.drop 6) (eB cnt k a0 a1 a2 a3 a4 a5 (tl b [(24,p)])) cs kr kn=Ee d .Gt (.int k) 0 cs λz=>bif z then Jv a5 cs λv cs=>dR (wB d) (l7.drop 7) (eB cnt k a0 a1 a2 a3 a4 v (tl b [(24,p)])) cs kr kn
   else dR (wB d) (l7.drop 7) (eB cnt k a0 a1 a2 a3 a4 a5 (tl b [(24,p)])) cs kr kn:=by induction b using Bool.casesOn<;>kernel_rfl
theorem seg7(d:Nat)(b:Bool)(cnt k:Int)(a0 a1 a2 a3 a4 a5 p:V)(cs:Cs)(kr:V->Ev->Cs->O3)(kn:Ev->Cs->O3):
  dR (wB d) (l7.drop 7) (eB cnt k a0 a1 a2 a3 a4 a5 (tl b [(24,p)])) cs kr kn=(aB fi d 666 [] []).bind λns=>(eZ ns (.int k) cs).bind λnm=>(cG (aB fi d) .Add a0 a1).bind λh=>(eX [nm,a0,h] cs).bind λw=>(aB fi d 340 w.1 []).bind λq=>
   dR (wB d) (l7.drop 8) (eB cnt k a0 a1 a2 a3 a4 a5 [(24,q)]) w.2 kr kn:=by induction b using Bool.casesOn<;>kernel_rfl
theorem seg8(d:Nat)(cnt k:Int)(a0 a1 a2 a3 a4 a5 p:V)(cs:Cs)(kr:V->Ev->Cs->O3)(kn:Ev->Cs->O3):
  dR (wB d) (l7.drop 8) (eB cnt k a0 a1 a2 a3 a4 a5 [(24,p)]) cs kr kn=Ee d .Gt a1 0 cs λz=>bif z then(jD (aB fi d) p .key).bind λw=>(AC (.own 4) w a2 cs).bind λcs=>dR (wB d) (l7.drop 9) (eB cnt k a0 a1 a2 a3 a4 a5 [(24,p)]) cs kr kn
   else dR (wB d) (l7.drop 9) (eB cnt k a0 a1 a2 a3 a4 a5 [(24,p)]) cs kr kn:=by kernel_rfl
def GY(d:Nat)(cnt k:Int)(a0 a1 a3 a4 a5:V)(cs:Cs)(kr:V->Ev->Cs->O3)(kn:Ev->Cs->O3)(p a2:V):O3:=dR (wB d) (l7.drop 10) (eB cnt k a0 a1 a2 a3 a4 a5 [(24,p)]) cs kr kn
def Ef(d:Nat)(v:V)(i:Int)(cs:Cs)(K:Bool->O3):O3:=(cG (aB fi d) .Mod v (.int 5)).bind λm=>Ee d .Eq m i cs K
theorem Od(d:Nat)(cnt k:Int)(a0 a1 a2 a3 p:V)(a4:Int)(a5:V)(cs:Cs)(kr:V->Ev->Cs->O3)(kn:Ev->Cs->O3):
  dR (wB d) (l7.drop 9) (eB cnt k a0 a1 a2 a3 (.int a4) a5 [(24,p)]) cs kr kn=Ef d a3 1 cs λz=>bif z then(cG (aB fi d) .FloorDiv p (.int a4)).bind λq=>(cG (aB fi d) .FloorDiv a2 (.int a4)).bind λv=>GY d cnt k a0 a1 a3 (.int a4) a5 cs kr kn q v
   else Ef d a3 2 cs λz=>bif z then(cG (aB fi d) .Mod p (.int a4)).bind λq=>(cG (aB fi d) .Mod a2 (.int a4)).bind λv=>GY d cnt k a0 a1 a3 (.int a4) a5 cs kr kn q v
   else Ef d a3 3 cs λz=>bif z then(cG (aB fi d) .Mult p (.int a4)).bind λq=>(cG (aB fi d) .Add q a5).bind λq=>(cG (aB fi d) .Mult a2 (.int a4)).bind λv=>(cG (aB fi d) .Add v a5).bind λv=>GY d cnt k a0 a1 a3 (.int a4) a5 cs kr kn q v
   else Ef d a3 4 cs λz=>bif z then Ee d .Eq (.int k) 0 cs λz=>bif z then(cG (aB fi d) .Mult p (.int (-a4))).bind λq=>(cG (aB fi d) .Add q a5).bind λq=>(cG (aB fi d) .Mult a2 (.int a4)).bind λv=>(cG (aB fi d) .Sub a5 v).bind λv=>GY d cnt k a0 a1 a3 (.int a4) a5 cs kr kn q v
    else Ef d a3 4 cs λz=>bif z then(cG (aB fi d) .Add p a5).bind λq=>(cG (aB fi d) .Add a2 a5).bind λv=>GY d cnt k a0 a1 a3 (.int a4) a5 cs kr kn q v else GY d cnt k a0 a1 a3 (.int a4) a5 cs kr kn p a2
   else Ef d a3 4 cs λz=>bif z then(cG (aB fi d) .Add p a5).bind λq=>(cG (aB fi d) .Add a2 a5).bind λv=>GY d cnt k a0 a1 a3 (.int a4) a5 cs kr kn q v else GY d cnt k a0 a1 a3 (.int a4) a5 cs kr kn p a2:=by
 kernel_rfl
theorem seg10(d:Nat)(sc A B C:List V)(D:List (Str×V))(cnt k:Int)(a0 a1 a2 a3 a4 a5:V)(p:T)(kr:V->Ev->Cs->O3)(kn:Ev->Cs->O3):
  dR (wB d) (l7.drop 10) (eB cnt k a0 a1 a2 a3 a4 a5 [(24,.node p)]) (C4 sc A B C D) kr kn=(bif Nat.ble A.length 100000 then some (V.none,C4 sc (A++[.node p]) B C D)else none).bind λv=>bif g7 v.1 then dR (wB d) (l7.drop 11) (eB cnt k a0 a1 a2 a3 a4 a5 [(24,.node p)]) v.2 kr kn else none:=by kernel_rfl
theorem seg11(d:Nat)(sc A B C:List V)(D:List (Str×V))(cnt k x:Int)(a0 a1 a3 a4 a5:V)(p:T)(kr:V->Ev->Cs->O3)(kn:Ev->Cs->O3):
  dR (wB d) (l7.drop 11) (eB cnt k a0 a1 (.int x) a3 a4 a5 [(24,.node p)]) (C4 sc A B C D) kr kn=(bif Nat.ble B.length 100000 then some (V.none,C4 sc A (B++[.int x]) C D)else none).bind λv=>bif g7 v.1 then dR (wB d) (l7.drop 12) (eB cnt k a0 a1 (.int x) a3 a4 a5 [(24,.node p)]) v.2 kr kn else none:=by kernel_rfl
theorem app3(sc A B C:List V)(D:List (Str×V))(x:Int)(h:C.length<=100000):iL (.own 3) .append [.int x] (C4 sc A B C D)=some (.none,C4 sc A B (C++[.int x]) D):=
 (show _=(bif Nat.ble C.length 100000 then some (V.none,C4 sc A B (C++[.int x]) D)else none) by kernel_rfl).trans (by rw[aV h];rfl)
theorem seg12(d:Nat)(sc A B C:List V)(D:List (Str×V))(cnt k:Int)(a0 a1 a2 a3 a4 a5:V)(p:T)(kr:V->Ev->Cs->O3)(kn:Ev->Cs->O3):
  dR (wB d) (l7.drop 12) (eB cnt k a0 a1 a2 a3 a4 a5 [(24,.node p)]) (C4 sc A B C D) kr kn=Ee d .Eq (.int k) 0 (C4 sc A B C D) λz=>bif z then(iL (.own 3) .append [.int 1] (C4 sc A B C D)).bind λv=>bif g7 v.1 then kn (eB cnt k a0 a1 a2 a3 a4 a5 [(24,.node p)]) v.2 else none
   else RI d (C4 sc A B C D) k 6 λv cs=>Fx d v cs λv cs=>Jv v cs λv cs=>(cG (aB fi d) .Add (.int (p.hi+1)) v).bind λs=>(iL (.own 3) .append [s] cs).bind λv=>bif g7 v.1 then kn (eB cnt k a0 a1 a2 a3 a4 a5 [(24,.node p)]) v.2 else none:=by kernel_rfl
noncomputable def uY(k:Nat):Str:=⟨#[118+k]⟩
noncomputable def Oe(ρ:Str->Int):T->Int
 |.var e _ _=>ρ e
 |.div a b=>Int.fdiv (Oe ρ a) b
 |.mod a b=>Int.fmod (Oe ρ a) b
 |_=>0
theorem ev_div{ρ:Str->Int}{a:T}{b:Int}:Oe ρ (.div a b)=Int.fdiv (Oe ρ a) b:=rfl
theorem ev_mod{ρ:Str->Int}{a:T}{b:Int}:Oe ρ (.mod a b)=Int.fmod (Oe ρ a) b:=rfl
theorem ev_v{ρ:Str->Int}{e:Str}{l h:Int}:Oe ρ (.var e l h)=ρ e:=rfl
structure Ga(k:Nat)(x:Int)(kv:List (Str×Int))(a:T)(v:Int):Prop where
 fr:Fr a
 vd:vY a=true\/∃e l h m,a=.mod (.var e l h) m
 lt:∀c,dS c a->c=118+k
 hi:a.hi<2^62
 ev:∀ρ:Str->Int,ρ (uY k)=x->Oe ρ a=v
 vb:v.natAbs<2^63
 at_:∀D:List (Str×V),(∀p∈kv,cJ p.1 D=some (.node (.num p.2)))->At D a v
structure Gp(k:Nat)(x:Int)(kv:List (Str×Int))(F:List T×Int)(v:Int):Prop where
 sh:(F.1=[]/\v=F.2)\/∃a c w,F.1=[tm a c]/\Ga k x kv a w/\c≠0/\c.natAbs<2^62/\v=w*c+F.2/\(1<=k->1<=c/\(c≠1->0<=F.2))
 cb:F.2.natAbs<2^125
 lo:1<=k->0<=T.los F.1+F.2
 hi:T.his F.1+F.2<2^125
theorem w9{x:Int}(h:x<2^62):x<BM:=cX h (by unfold BM;decide+kernel)
theorem sH{x k:Nat}(h:x<2^k)(hk:k<=900):x<2^900:=aZ h (eQ (by decide) hk)
theorem Fy{D:List (Str×V)}{e:Str}{l h x:Int}(hn:Nd 0 (.var e l h))(hD:cJ (T.var e l h).rend D=some (.node (.num x)))(d:Nat)(hd:9<=d):Fw d (.var e l h) D=some (.node (.num x)):=by
 refine jC d 8 hd λd _=>?_;have hk:æ d (.var e l h):=Ah hn.rk (by rw[T.nd];lia) (by exact bT (by assumption) (by rfl))
 show aB fi (d+1) 267 [.node (.var e l h),.dct D] []=_;rw[RE,bS (show jD (aB fi d) (.node (.var e l h)) .key=some (.str (T.var e l h).rend)from hk),
  show iL (.dct D) .get [.str (T.var e l h).rend,.node (.var e l h)] []=some ((match cJ (T.var e l h).rend D with|some u=>u|none=>.node (.var e l h)),[]) by kernel_rfl,hD];rfl
section
variable{k:Nat}{l s x:Int}(hk:k<5)(h0:0<=l)(hl:l<2^60)(hs:0<s)(hs2:s<2^60)(hx:l<=x)(hx2:x<=l+s)
include hk h0 hl hs hs2
theorem Fz:Nd 0 (.var (uY k) l (l+s)):=.var ⟨by lia,by lia⟩ h0 (by lia) (w9 (by lia))
include hx hx2
theorem Ax:Ga k x [((T.var (uY k) l (l+s)).rend,x)] (.var (uY k) l (l+s)) x:=by
 have hn:=Fz hk h0 hl hs hs2;refine⟨⟨hn.mono (by lia),rfl⟩,.inl rfl,λc h=>?_,by rw[T.hi];lia,λρ h=>h,by lia,λD hD d hd=>Fy hn (hD _ aE) d (bT hd rfl)⟩
 rw[dS]at h;exact aN.mp h
theorem ZK{b:Int}(hb:2<=b)(fX:b<2^62)(ht:Int.fdiv l b<Int.fdiv (l+s) b):Ga k x [((T.var (uY k) l (l+s)).rend,x)] (.div (.var (uY k) l (l+s)) b) (Int.fdiv x b):=by
 have hn:=Fz hk h0 hl hs hs2;have g:=Ax hk h0 hl hs hs2 hx hx2;have f1:=gF (a:=l+s) (b:=b) (by exact a6 (a6 h0 hx) hx2) (by exact iB hb rfl)
 have f2:=gF (a:=x) (b:=b) (by exact a6 h0 hx) (by exact iB hb rfl)
 refine⟨⟨(Nd.div hn hb ht).mono (by lia),rfl⟩,.inl rfl,λc h=>g.lt c (by rw[dS]at h;exact h),by rw[T.hi,T.hi];exact Ku hl hs2 f1,λρ h=>by rw[Oe,g.ev ρ h],Kv hl hs2 hx2 f2,
  λD hD=>ZF rfl (λd hd=>Fy hn (hD _ aE) d (bT hd rfl)) (by exact iA hb rfl) (w9 fX) (sH (nL (a6 h0 hx) (cX (x61 hl hs2 hx2) (by decide)):x.natAbs<2^62) (by decide))⟩
theorem ZL{b:Int}(hb:2<=b)(fX:b<2^62)(ht:Int.fdiv l b<Int.fdiv (l+s) b):Ga k x [((T.var (uY k) l (l+s)).rend,x)] (.mod (.var (uY k) l (l+s)) b) (Int.fmod x b):=by
 have hn:=Fz hk h0 hl hs hs2;have g:=Ax hk h0 hl hs hs2 hx hx2;have m1:=eE x (show b≠0 by exact aQ (iB hb rfl))
 have m2:=dW x (show 0<b by exact iB hb rfl)
 have e:=aS x (show 0<=b by exact iA hb rfl)
 refine⟨⟨(Nd.mod hn rfl hb ht).mono (by lia),rfl⟩,.inr ⟨_,_,_,_,rfl⟩,λc h=>g.lt c (by rw[dS]at h;exact h),?_,λρ h=>by rw[Oe,g.ev ρ h],by grind,
  λD hD=>ZG rfl (λd hd=>Fy hn (hD _ aE) d (bT hd rfl)) (by exact iA hb rfl) (w9 fX) (sH (nL (a6 h0 hx) (cX (x61 hl hs2 hx2) (by decide)):x.natAbs<2^62) (by decide))⟩
 rw[T.hi];have:=(m9 (l:=l) (h:=l+s) (m:=b) (by exact iB hb rfl) ht (by exact a6 hx hx2)).2
 show yZ l (l+s) b<_;lia
end
theorem Ay{k:Nat}{x n:Int}{kv:List (Str×Int)}(hn:n.natAbs<2^125)(h:1<=k->0<=n):Gp k x kv ([],n) n:=
 ⟨.inl ⟨rfl,rfl⟩,hn,λhk=>by have:=h hk;show 0<=(0:Int)+n;lia,by show(0:Int)+n<_;lia⟩
theorem yJ(a:T)(c:Int):(tm a c).lo=(bif decide (0<=c)then a.lo*c else a.hi*c)/\(tm a c).hi=(bif decide (0<=c)then a.hi*c else a.lo*c):=by
 unfold tm;by_cases h:c=1
 ·subst h;rw[aH rfl];exact⟨(dF _).symm,(dF _).symm⟩
 ·rw[aK h];exact⟨r8 ..,pL ..⟩
theorem GZ{k:Nat}{x w c m:Int}{kv:List (Str×Int)}{a:T}(g:Ga k x kv a w)(hc:c≠0)(hc2:c.natAbs<2^62)(hm:m.natAbs<2^62)(hp:1<=k->1<=c/\(c≠1->0<=m))(hl:1<=k->0<=a.lo*c+m):Gp k x kv ([tm a c],m) (w*c+m):=by
 refine A6 (g.fr.nd.rng) λr1 r2 _=>?_;obtain⟨e1,e2⟩:=yJ a c;refine⟨.inr ⟨a,c,w,rfl,g,hc,hc2,rfl,hp⟩,by show m.natAbs<_;lia,λhk=>?_,?_⟩
 ·show 0<=(tm a c).lo+0+m;rw[e1,cT (aH (show 0<=c by have:=(hp hk).1;exact iA this rfl) ..)]
  have:=hl hk;lia
 ·show(tm a c).hi+0+m<_;rw[e2];by_cases h:0<=c
  ·rw[cT (aH h ..)];have:a.hi*c<=2^62*2^62:=kB (aO g.hi) (by lia) h (by decide)
   lia
  ·rw[cF (aK h ..)];have:=bY r1 (show c<=0 by exact aO (nG.mp h))
   lia
section
variable{k:Nat}{l s x:Int}(hk:k<5)(h0:0<=l)(hl:l<2^60)(hs:0<=s)(hs2:s<2^60)(hx:l<=x)(hx2:x<=l+s)
def F0(k:Nat)(l s:Int):List T×Int:=bif decide (0<s)then([.var (uY k) l (l+s)],0)else([],l)
def Eg(k:Nat)(l s x:Int):List (Str×Int):=bif decide (0<s)then[((T.var (uY k) l (l+s)).rend,x)]else[]
theorem F0_eq(k:Nat)(l s:Int):(bif decide (0<s)then T.var (uY k) l (l+s)else .num l)=fN (F0 k l s):=by
 unfold F0;induction decide (0<s) using Bool.casesOn with
 |true=>exact(fD _).symm
 |false=>exact(dY _).symm
include hk h0 hl hs hs2
theorem Ia:Fm 18 (F0 k l s).1:=by
 unfold F0;induction h:decide (0<s) using Bool.casesOn with
 |true=>exact⟨λt ht=>by obtain rfl:=aN.mp ht;exact⟨(Fz hk h0 hl (aM h) hs2).mono (by lia),rfl,λa c z=>(by cases z),by show(T.var (uY k) l (l+s)).nd<=_;rw[T.nd];lia⟩,gJ ..,by show(1:Nat)<=8;lia⟩
 |false=>exact Fm.nil 18
theorem ZM{d:Nat}{m:Int}(hd:42<=d):cG (aB fi d) .Add (.node (fN (F0 k l s))) (.int m)=some (.node (fN ((F0 k l s).1,(F0 k l s).2+m))):=by
 rw[sC,Ao (Ia hk h0 hl hs hs2) (bT hd rfl)]
include hx hx2
theorem F7{c m:Int}(hc:c≠0)(hc2:c.natAbs<2^62)(hm:m.natAbs<2^62)(hp:1<=k->1<=c/\0<=m):Gp k x (Eg k l s x) ((F0 k l s).1.map (scl c),(F0 k l s).2*c+m) (x*c+m):=by
 unfold F0 Eg;induction h:decide (0<s) using Bool.casesOn with
 |true=>
  have g:=Ax hk h0 hl (aM h) hs2 hx hx2;have hh:=GZ (m:=m) g hc hc2 hm (λz=>⟨(hp z).1,λ_=>(hp z).2⟩) (λz=>by
   have:=eO h0 (show 0<=c by have:=(hp z).1;exact iA this rfl)
   rw[T.lo];have:=(hp z).2;exact CZ hp z (by assumption))
  show Gp _ _ _ ([scl c _],0*c+m) _;rw[show scl c (.var (uY k) l (l+s))=tm (.var (uY k) l (l+s)) c by unfold scl;rw[show g8 (.var (uY k) l (l+s))=1 from rfl,lX];rfl,mL,cY]
  exact hh
 |false=>
  have h:=jJ h;have e:x=l:=by lia
  clear hx2 hx;subst e;have hb:(x*c).natAbs<=2^60*2^62:=by rw[eP];exact mP (by lia) (by exact bD hc2)
  show Gp _ _ _ ([],x*c+m) _;exact Ay (aP (mJ _ _) (aP (mM hb (bD hm)) (by decide))) λz=>by
   have:=eO h0 (show 0<=c by have:=(hp z).1;exact iA this rfl)
   have:=(hp z).2;exact CZ hp z (by assumption)
theorem Of{d:Nat}{c m:Int}(hc:c≠0)(hc2:c.natAbs<2^62)(hd:42<=d):((cG (aB fi d) .Mult (.node (fN (F0 k l s))) (.int c)).bind λq=>cG (aB fi d) .Add q (.int m))=some (.node (fN ((F0 k l s).1.map (scl c),(F0 k l s).2*c+m))):=by
 have hf:=Ia hk h0 hl hs hs2;have hb:∀t∈(F0 k l s).1,(g8 t*c).natAbs<2^900:=λt ht=>by
  have:g8 t=1:=by
   unfold F0 at ht;revert ht;induction decide (0<s) using Bool.casesOn with
   |true=>intro ht;obtain rfl:=aN.mp ht;rfl
   |false=>intro ht;cases ht
  rw[this,lX];exact sH hc2 (by decide)
 have h2:(F0 k l s).2.natAbs<2^60:=by
  unfold F0;induction decide (0<s) using Bool.casesOn with
  |true=>show(0:Int).natAbs<_;decide
  |false=>show l.natAbs<_;lia
 rw[bS (DV hf hc hb (sH (k:=122) (by rw[eP];have:=Nat.mul_lt_mul'' h2 hc2;exact this) (by decide)) (bT hd rfl) ..),sC,Ao (hf.scl hc hb) (bT hd rfl)]
theorem Og{m:Int}(hm:m.natAbs<2^62)(hp:1<=k->0<=m):Gp k x (Eg k l s x) ((F0 k l s).1,(F0 k l s).2+m) (x+m):=by
 have h:=F7 hk h0 hl hs hs2 hx hx2 (c:=1) (by decide) (by decide) hm λz=>⟨by decide,hp z⟩
 have e:(F0 k l s).1.map (scl 1)=(F0 k l s).1:=by
  exact(i9 λt (ht:t∈(F0 k l s).1)=>(yI ((Ia hk h0 hl hs hs2).gt t ht):scl 1 t=id t)).trans (List.map_id _)
 rw[e,dF,dF]at h;exact h
theorem dv_ok{d:Nat}{b:Int}(hb:1<=b)(fX:b<2^62)(hd:42<=d):∃F,cG (aB fi d) .FloorDiv (.node (fN (F0 k l s))) (.int b)=some (.node (fN F))/\Gp k x (Eg k l s x) F (Int.fdiv x b):=by
 have f0:=gF (a:=x) (b:=b) (by exact a6 h0 hx) (hb)
 have f1:=gF (a:=l) (b:=b) (h0) (hb);unfold F0 Eg;rw[oU];induction h:decide (0<s) using Bool.casesOn with
 |true=>
  have h:=aM h;have hn:=Fz hk h0 hl h hs2;have g:=Ax hk h0 hl h hs2 hx hx2;rw[bV,bV,fD];refine jC d 41 hd λd _=>?_;show ∃F,aB fi (d+1) 185 [.node (.var (uY k) l (l+s)),.int b] []=_/\_;rw[w5];have one:∀a w,Ga k x [((T.var (uY k) l (l+s)).rend,x)] a w->Gp k x [((T.var (uY k) l (l+s)).rend,x)] ([a],0) w:=λa w g=>by
   have:=GZ (c:=1) (m:=0) g (by decide) (by decide) (by decide) (λ_=>⟨by decide,λ_=>by decide⟩) (λ_=>by have:=g.fr.nd.rng;lia)
   rw[dF,dK]at this;exact this
  by_cases h1:b=1
  ·clear f1 f0 fX hb;subst h1;exact⟨([.var (uY k) l (l+s)],0),(tG d _ _).trans (by rw[fD]),by rw[lW];exact one _ _ g⟩
  ·rw[pO (by rw[T.lo];exact h0) (by rw[T.lo,T.hi];exact a6 hx hx2) (by lia) (j7 (by exact iA hb rfl) (w9 fX)) (by exact bT (by assumption) (by rfl))]
   unfold Os;rw[T.lo,T.hi];have m1:=nD (x:=l) (y:=x) (b:=b) (hb) hx;have m2:=nD (x:=x) (y:=l+s) (b:=b) (hb) hx2;by_cases he:Int.fdiv l b=Int.fdiv (l+s) b
   ·rw[aH he];refine⟨([],Int.fdiv l b),by rw[dY];rfl,?_⟩
    rw[show Int.fdiv x b=Int.fdiv l b by exact lK (a6 m2 (dL he.symm)) m1]
    exact Ay (nL f1.1 (aJ f1.2 (cX hl (by decide)))) λ_=>f1.1
   ·rw[aK he];exact⟨([.div (.var (uY k) l (l+s)) b],0),by rw[fD];rfl,one _ _ (ZK hk h0 hl h hs2 hx hx2 (by lia) fX (Kw m1 m2 he))⟩
 |false=>
  have h:=jJ h;have e:x=l:=by lia
  clear hx2 hx;subst e;rw[bG,bG,dY,oV (sH (nL h0 hl:x.natAbs<2^60) (by decide)) hb (w9 fX) (by exact bT hd rfl)]
  exact⟨([],Int.fdiv x b),by rw[dY],Ay (nL f1.1 (aJ f1.2 (cX hl (by decide)))) λ_=>f1.1⟩
theorem md_ok{d:Nat}{b:Int}(hb:1<=b)(fX:b<2^62)(hd:44<=d):∃F,cG (aB fi d) .Mod (.node (fN (F0 k l s))) (.int b)=some (.node (fN F))/\Gp k x (Eg k l s x) F (Int.fmod x b):=by
 have f0:=eE x (show b≠0 by exact aQ (iB hb rfl))
 have f1:=dW x (show 0<b by exact hb)
 have fe:=aS x (show 0<=b by exact iA hb rfl)
 have hF:=Ia hk h0 hl hs hs2;unfold F0 at hF;unfold F0 Eg;rw[GR];induction h:decide (0<s) using Bool.casesOn with
 |true=>
  rw[h]at hF;have h:=aM h;have hn:=Fz hk h0 hl h hs2;have g:=Ax hk h0 hl h hs2 hx hx2;rw[bV,bV,fD,Av rfl];by_cases h1:b=1
  ·clear fX hb;subst h1;refine jC d 43 hd λd _=>?_;refine jC d 42 (by assumption) λd _=>?_
   exact⟨([],0),by rw[t6,dY],by rw[show Int.fmod x 1=0 by exact lK (a6 (dL fe) (iK f1 rfl)) (a6 f0 (dL fe.symm))];exact Ay (by decide) λ_=>by decide⟩
  ·have m1:=nD (x:=l) (y:=x) (b:=b) (hb) hx;have m2:=nD (x:=x) (y:=l+s) (b:=b) (hb) hx2;have q:=dB x b;have q0:=dB l b;have q1:=eE l (show b≠0 by exact aQ (iB hb rfl))
   rw[aG _ (by exact iA hb rfl),aG _ (by exact iA hb rfl)]at m1
   by_cases he:Int.fdiv l b=Int.fdiv (l+s) b
   ·have e:x/b=l/b:=by
     clear q1 q0 q;rw[aG _ (by exact iA hb rfl),aG _ (by exact iA hb rfl)]at m2 he;exact lK (a6 m2 (dL he.symm)) m1
    rw[e]at q;have hq:0<=b*(l/b):=eO (by exact iA hb rfl) (n6 h0 (by exact iA hb rfl))
    have hlo:(fN ([T.var (uY k) l (l+s)],(0:Int))).lo=l:=by rw[fD,T.lo]
    have hhi:(fN ([T.var (uY k) l (l+s)],(0:Int))).hi=l+s:=by rw[fD,T.hi]
    have:=yG (F:=([T.var (uY k) l (l+s)],0)) (m:=b) (d:=d) hF (by lia) (j7 (by exact iA hb rfl) (w9 fX)) (by rw[hlo,hhi,he])
     (by rw[hlo,aG _ (by exact iA hb rfl)];exact j7 hq (w9 (by lia))) (bT hd rfl)
    rw[hlo,fD,aG _ (by exact iA hb rfl)]at this
    refine⟨_,this,?_⟩;have gg:=GZ (c:=1) (m:=0+ -(b*(l/b))) g (by decide) (by decide) (by lia) (λ_=>⟨by decide,λz=>absurd rfl z⟩) (λ_=>by rw[T.lo];exact Kx q q0 q1)
    rw[show Int.fmod x b=x*1+(0+ -(b*(l/b))) by exact Ky fe q]
    exact gg
   ·have ht:Int.fdiv l b<Int.fdiv (l+s) b:=by have:=nD (x:=l) (y:=l+s) (b:=b) (hb) (by exact a6 hx hx2);exact Kz he this
    rw[yF (by rw[T.lo];exact h0) (by rw[T.lo,T.hi];exact a6 hx hx2) (by lia) (j7 (by exact iA hb rfl) (w9 fX)) (by rw[T.lo,T.hi];exact ht) (bT hd rfl)]
    refine⟨([.mod (.var (uY k) l (l+s)) b],0),by rw[fD],?_⟩
    have g2:=ZL hk h0 hl h hs2 hx hx2 (b:=b) (by lia) fX ht
    have:=GZ (c:=1) (m:=0) g2 (by decide) (by decide) (by decide) (λ_=>⟨by decide,λ_=>by decide⟩) (λ_=>by have:=g2.fr.nd.rng;lia)
    rw[dF,dK]at this;exact this
 |false=>
  have h:=jJ h;have e:x=l:=by lia
  clear hF hx2 hx;subst e;rw[bG,bG,dY];show ∃F,aB fi d 199 [.node (.num x),.int b] []=_/\_;rw[Au hb (w9 fX) (sH (nL h0 hl:x.natAbs<2^60) (by decide)) (bT hd rfl)]
  exact⟨([],Int.fmod x b),by rw[dY],Ay (fe▸nL f0 (cX f1 (cX fX (by decide)))) λ_=>by exact a6 f0 (dL fe.symm)⟩
end
theorem iS(d:Nat)(n i:Int)(cs:Cs)(K:Bool->O3):Ef d (.int n) i cs K=K (decide (Int.fmod n 5=i)):=by
 have e:eY .Mod n 5=some (.int (Int.fmod n 5)):=jU (by decide) (by decide+kernel)
 show(eY .Mod n 5).bind _=_;rw[e];rfl
section
variable{k:Nat}{l s x:Int}(hk:k<5)(h0:0<=l)(hl:l<2^60)(hs:0<=s)(hs2:s<2^60)(hx:l<=x)(hx2:x<=l+s)
include hk h0 hl hs hs2 hx hx2
theorem core{d:Nat}{b m:Int}(n:Int)(hb:1<=b)(fX:b<2^62)(hm:m.natAbs<2^62)(hp:1<=k->0<=m)(hd:44<=d):∃F v,Gp k x (Eg k l s x) F v/\∀(cnt:Int) (a0 a1:V) (cs:Cs) (kr:V->Ev->Cs->O3) (kn:Ev->Cs->O3),
  dR (wB d) (l7.drop 9) (eB cnt k a0 a1 (.int x) (.int n) (.int b) (.int m) [(24,.node (fN (F0 k l s)))]) cs kr kn=GY d cnt k a0 a1 (.int n) (.int b) (.int m) cs kr kn (.node (fN F)) (.int v):=by
 have fb:jQ b=true:=j7 (by exact iA hb rfl) (w9 fX)
 have hxb:cG (aB fi d) .Mult (.int x) (.int b)=some (.int (x*b)):=mI (Zv (by exact a6 h0 hx) (w9 (by lia)) (by exact iA hb rfl) (w9 fX))
 have add4:∃F v,Gp k x (Eg k l s x) F v/\∀(cnt:Int) (a0 a1:V) (cs:Cs) (kr:V->Ev->Cs->O3) (kn:Ev->Cs->O3),((Ef d (.int n) 4 cs λz=>bif z then(cG (aB fi d) .Add (.node (fN (F0 k l s))) (.int m)).bind λq=>(cG (aB fi d) .Add (.int x) (.int m)).bind λv=>GY d cnt k a0 a1 (.int n) (.int b) (.int m) cs kr kn q v
   else GY d cnt k a0 a1 (.int n) (.int b) (.int m) cs kr kn (.node (fN (F0 k l s))) (.int x)):O3)=GY d cnt k a0 a1 (.int n) (.int b) (.int m) cs kr kn (.node (fN F)) (.int v):=by
  induction h:decide (Int.fmod n 5=4) using Bool.casesOn with
  |true=>exact xU _ (x+m) (Og hk h0 hl hs hs2 hx hx2 hm hp) (λcnt a0 a1 cs kr kn=>by rw[iS,cT (h ..),ZM hk h0 hl hs hs2 (bT hd rfl)];rfl)
  |false=>
   refine xU (F0 k l s) x ?_ (λcnt a0 a1 cs kr kn=>by rw[iS,h];rfl)
   have:=Og hk h0 hl hs hs2 hx hx2 (m:=0) (by decide) (λ_=>by decide)
   rw[dK,dK]at this;exact this
 induction h1:decide (Int.fmod n 5=1) using Bool.casesOn with
 |true=>
  refine i8 (dv_ok hk h0 hl hs hs2 hx hx2 hb fX (d:=d) (bT hd rfl)) λF e g=>?_;refine xU F _ g (λcnt a0 a1 cs kr kn=>?_);rw[Od,iS,cT (h1 ..),e,show cG (aB fi d) .FloorDiv (.int x) (.int b)=some (.int (Int.fdiv x b))from nB (by exact aQ (iB hb rfl)) fb];rfl
 |false=>
 induction h2:decide (Int.fmod n 5=2) using Bool.casesOn with
 |true=>
  refine i8 (md_ok hk h0 hl hs hs2 hx hx2 hb fX (d:=d) (hd)) λF e g=>?_;refine xU F _ g (λcnt a0 a1 cs kr kn=>?_);rw[Od,iS,cF (h1 ..),iS,cT (h2 ..),e,show cG (aB fi d) .Mod (.int x) (.int b)=some (.int (Int.fmod x b))from jU (by exact aQ (iB hb rfl)) fb];rfl
 |false=>
 induction h3:decide (Int.fmod n 5=3) using Bool.casesOn with
 |true=>
  refine xU _ (x*b+m) (F7 hk h0 hl hs hs2 hx hx2 (c:=b) (by exact aQ (iB hb rfl)) (by lia) hm λz=>⟨hb,hp z⟩) (λcnt a0 a1 cs kr kn=>?_)
  rw[Od,iS,cF (h1 ..),iS,cF (h2 ..),iS,cT (h3 ..),<-wY,bS (Of hk h0 hl hs hs2 hx hx2 (by exact aQ (iB hb rfl)) (by lia) (bT hd rfl) ..),hxb];rfl
 |false=>
 induction h4:decide (Int.fmod n 5=4)&&decide ((k:Int)=0) using Bool.casesOn with
 |true=>
  obtain⟨h5,h6⟩:=aL.mp h4;have hg:=F7 hk h0 hl hs hs2 hx hx2 (c:= -b) (m:=m) (by lia) (by lia) hm λz=>absurd (aM h6) (by lia)
  refine xU _ (x* -b+m) hg (λcnt a0 a1 cs kr kn=>?_);rw[Od,iS,cF (h1 ..),iS,cF (h2 ..),iS,cF (h3 ..),iS,cT (h5 ..)];show(bif decide ((k:Int)=0)then _ else _)=_;rw[cT (h6 ..),<-wY,bS (Of hk h0 hl hs hs2 hx hx2 (by lia) (by lia) (bT hd rfl) ..),hxb]
  show GY d cnt k a0 a1 (.int n) (.int b) (.int m) cs kr kn _ (.int (m-x*b))=_;rw[show m-x*b=x* -b+m by rw[iU];lia]
 |false=>
  refine kY (add4) λF v g e=>?_;refine xU F v g (λcnt a0 a1 cs kr kn=>?_);rw[Od,iS,cF (h1 ..),iS,cF (h2 ..),iS,cF (h3 ..)];have e:=e cnt a0 a1 cs kr kn;induction h5:decide (Int.fmod n 5=4) using Bool.casesOn with
  |true=>
   rw[h5]at h4;rw[iS,cT (h5 ..)];show(bif decide ((k:Int)=0)then _ else _)=_;rw[show decide ((k:Int)=0)=false from h4];exact e
  |false=>
   rw[iS,h5];exact e
end
theorem xA{d:Nat}{L:List Int}(hL:L.length<=31){k i:Int}(h0:0<=k)(h1:k<5)(hi:0<=i)(hi2:i<10)(hd:1<=d):∃x,∀(A B C:List V) (D:List (Str×V)) (K:V->Cs->O3),RI d (C4 (L.map V.int) A B C D) k i K=K (.int x) (C4 (L.map V.int) A B C D):=by
 refine jC d 0 hd λd _=>?_;obtain⟨x,e⟩:=RH d hL (k:=6*k+i) (by lia) (by lia)
 refine jE x (λA B C D K=>?_);unfold RI;rw[mI (g9 (bA (show(6*k).natAbs<2^10 by lia) (by decide+kernel)))]
 show(aB fi (d+1) 673 [.lst (L.map V.int),.int (6*k+i)] []).bind _=_;rw[e];rfl
theorem wC{d:Nat}(x:Int)(hd:1<=d):∃y,y.natAbs<2^60/\∀(cs:Cs) (K:V->Cs->O3),Fx d (.int x) cs K=K (.int y) cs:=by
 refine jC d 0 hd λd _=>?_;refine i8 (ZI d x) λy e h=>?_;refine kF y h (λcs K=>?_);unfold Fx;rw[bS (show eX [.int x] cs=some ([.int x],cs)from rfl),bS (e ..)]
theorem Az(x:Int)(cs:Cs)(K:V->Cs->O3):Jv (.int x) cs K=K (.int x.natAbs) cs:=rfl
theorem xN(d:Nat)(x y:Int)(K:V->O3):(cG (aB fi d) .Add (.int x) (.int y)).bind K=K (.int (x+y)):=rfl
theorem first{d:Nat}{L:List Int}(hL:L.length<=31){k:Nat}(hk:k<5)(hd:1<=d):∃l s x n b m:Int,0<=l/\l<2^60/\0<=s/\s<2^60/\l<=x/\x<=l+s/\1<=b/\b<2^62/\m.natAbs<2^62/\(1<=k->0<=m)/\
  ∀(t:Bool) (cnt:Int) (a0 a1 a2 a3 a4 a5 p:V) (A B C:List V) (D:List (Str×V)) (kr:V->Ev->Cs->O3) (kn:Ev->Cs->O3),
   dR (wB d) l7 (eA cnt ((6,.int k)::tl t [(31,a0),(19,a1),(16,a2),(48,a3),(38,a4),(30,a5),(24,p)])) (C4 (L.map V.int) A B C D) kr kn=dR (wB d) (l7.drop 7) (eB cnt k (.int l) (.int s) (.int x) (.int n) (.int b) (.int m) (tl t [(24,p)])) (C4 (L.map V.int) A B C D) kr kn:=by
 obtain⟨x1,e1⟩:=xA hL (k:=k) (i:=1) (d:=d) (by lia) (by lia) (by lia) (by lia) hd
 refine i8 (wC x1 hd) λy1 b1 c1=>?_;obtain⟨x2,e2⟩:=xA hL (k:=k) (i:=2) (d:=d) (by lia) (by lia) (by lia) (by lia) hd
 refine i8 (wC x2 hd) λy2 b2 c2=>?_;obtain⟨x3,e3⟩:=xA hL (k:=k) (i:=3) (d:=d) (by lia) (by lia) (by lia) (by lia) hd
 obtain⟨x4,e4⟩:=xA hL (k:=k) (i:=4) (d:=d) (by lia) (by lia) (by lia) (by lia) hd
 refine i8 (wC (Int.fdiv x4 5) hd) λy4 b4 c4=>?_;obtain⟨x5,e5⟩:=xA hL (k:=k) (i:=5) (d:=d) (by lia) (by lia) (by lia) (by lia) hd
 refine i8 (wC x5 hd) λy5 b5 c5=>?_;have m0:=eE x3 (show((y2.natAbs:Int)+1)≠0 by lia)
 have m1:=dW x3 (show 0<((y2.natAbs:Int)+1) by lia)
 have me:=aS x3 (show 0<=((y2.natAbs:Int)+1) by exact aO (aJ m0 m1))
 refine⟨y1.natAbs,y2.natAbs,y1.natAbs+Int.fmod x3 (y2.natAbs+1),x4,1+((y4+1).natAbs:Int),bif decide (0<(k:Int))then(y5.natAbs:Int)else y5,Da,Db b1,by exact a6 m0 (nQ m1),Db b2,K3 m0 me,K4 m1 me,K5,by omega,?_,?_,λt cnt a0 a1 a2 a3 a4 a5 p A B C D kr kn=>?_⟩
 ·induction decide (0<(k:Int)) using Bool.casesOn with
  |true=>show((y5.natAbs:Int)).natAbs<_;lia
  |false=>show y5.natAbs<_;lia
 ·intro z;rw[aH (show 0<(k:Int) by lia)]
  show 0<=(y5.natAbs:Int);exact Da
 ·rw[seg0,e1,c1,Az,e2,c2,Az,e3,xN,show cG (aB fi d) .Mod (.int x3) (.int ((y2.natAbs:Int)+1))=eY .Mod x3 ((y2.natAbs:Int)+1)from rfl,bS (jU (by exact aQ (aJ m0 m1)) (j7 (by exact aO (aJ m0 m1)) (w9 (K6 b2))) ..),xN,e4,
   show cG (aB fi d) .FloorDiv (.int x4) (.int 5)=eY .FloorDiv x4 5 from rfl,bS (nB (by decide) (by decide+kernel) ..),c4,xN,Az,xN,e5,c5,seg6]
  rw[show ∀K:Bool->O3,Ee d .Gt (.int (k:Int)) 0 (C4 (L.map V.int) A B C D) K=K (decide (0<(k:Int)))from λ_=>rfl];induction decide (0<(k:Int)) using Bool.casesOn with
  |true=>rw[bV,bV,Az]
  |false=>rw[bG,bG]
structure Pt where
 F:List T×Int
 v:Int
 S:Int
 x:Int
 kv:List (Str×Int)
structure Gd(k:Nat)(P:Pt):Prop where
 gp:Gp k P.x P.kv P.F P.v
 s0:k=0->P.S=1
 s1:1<=k->T.his P.F.1+P.F.2<P.S/\P.S<2^126
 kv:P.kv=[]\/∃s,P.kv=[(s,P.x)]/\∀c,J7 c->(Ae c s↔c=118+k)
theorem put4(sc A B C:List V)(D:List (Str×V))(s:Str)(x:Int)(h:D.length<=1000):AC (.own 4) (.str s) (.int x) (C4 sc A B C D)=some (C4 sc A B C (lM s (.int x) D)):=
 (show _=(bif Nat.ble D.length 1000 then some (C4 sc A B C (lM s (.int x) D))else none) by kernel_rfl).trans (by rw[aV h];rfl)
theorem put_d{s:Str}{x:Int}{vs:List (Str×Int)}(h:∀q∈vs,q.1≠s):lM s (.int x) (nZ vs)=nZ (vs++[(s,x)]):=by
 have:cJ s (nZ vs)=none:=rJ λp hp=>by
  obtain⟨q,hq,rfl⟩:=bR.mp hp;exact mB.mpr λe=>h q hq e.symm
 rw[tB this];unfold nZ;rw[dQ];rfl
theorem QD{k:Nat}(hk:k<5)(cs:Cs):eZ (.lst ([118,119,120,121,122].map λc=>V.str ⟨#[c]⟩)) (.int k) cs=some (.str (uY k)):=by
 exact nat5 (Q:=λk=>eZ (.lst ([118,119,120,121,122].map λc=>V.str ⟨#[c]⟩)) (.int k) cs=some (.str (uY k))) rfl rfl rfl rfl rfl hk
theorem ZN(k:Nat)(l s x:Int):Eg k l s x=[]\/∃e,Eg k l s x=[(e,x)]/\∀c,J7 c->(Ae c e↔c=118+k):=by
 unfold Eg;induction decide (0<s) using Bool.casesOn with
 |true=>exact .inr ⟨_,rfl,λc hc=>(nP hc _).trans (by rw[dS];exact aN)⟩
 |false=>exact .inl rfl
theorem Oh{d:Nat}{k:Nat}{l s x:Int}(hk:k<5)(h0:0<=l)(hl:l<2^60)(hs2:s<2^60)(hd:9<=d){vs:List (Str×Int)}(hV:vs.length<=100)(hq:∀q∈vs,¬Ae (118+k) q.1)(cnt:Int)(n b m:V)(sc A B C:List V)(kr:V->Ev->Cs->O3)(kn:Ev->Cs->O3):
  dR (wB d) (l7.drop 8) (eB cnt k (.int l) (.int s) (.int x) n b m [(24,.node (fN (F0 k l s)))]) (C4 sc A B C (nZ vs)) kr kn=dR (wB d) (l7.drop 9) (eB cnt k (.int l) (.int s) (.int x) n b m [(24,.node (fN (F0 k l s)))]) (C4 sc A B C (nZ (vs++Eg k l s x))) kr kn:=by
 rw[seg8,show ∀(cs:Cs) (K:Bool->O3),Ee d .Gt (.int s) 0 cs K=K (decide (0<s))from λ_ _=>rfl];unfold F0 Eg;induction h:decide (0<s) using Bool.casesOn with
 |true=>
  have hn:=Fz hk h0 hl (aM h) hs2;have hK:jD (aB fi d) (.node (.var (uY k) l (l+s))) .key=some (.str (T.var (uY k) l (l+s)).rend):=Ah hn.rk (by rw[T.nd];lia) (bT hd rfl)
  rw[bV,bV,bV,fD,bS (hK ..),bS (put4 _ _ _ _ _ _ _ (by unfold nZ;rw[aT];exact iG hV rfl) ..),put_d λq h e=>hq q h (by rw[e];exact(nP ⟨by lia,by lia⟩ _).mpr (by rw[dS];exact aN.mpr rfl))]
 |false=>rw[bG,bG,bG,bW]
theorem turn{d:Nat}{L:List Int}(hL:L.length<=31){k:Nat}(hk:k<5)(hd:44<=d):∃(P:Pt) (a0 a1 a2 a3 a4 a5:V),Gd k P/\∀(t:Bool) (cnt:Int) (b0 b1 b2 b3 b4 b5 p:V) (A B C:List V) (vs:List (Str×Int)) (kr:V->Ev->Cs->O3) (kn:Ev->Cs->O3),
  A.length<=100->B.length<=100->C.length<=100->vs.length<=100->(∀q∈vs,¬Ae (118+k) q.1)->
  dR (wB d) l7 (eA cnt ((6,.int k)::tl t [(31,b0),(19,b1),(16,b2),(48,b3),(38,b4),(30,b5),(24,p)])) (C4 (L.map V.int) A B C (nZ vs)) kr kn=
   kn (eB cnt k a0 a1 a2 a3 a4 a5 [(24,.node (fN P.F))]) (C4 (L.map V.int) (A++[.node (fN P.F)]) (B++[.int P.v]) (C++[.int P.S]) (nZ (vs++P.kv))):=by
 refine u8 (first (d:=d) hL hk (bT hd rfl)) λl s x n b m h0 hl hs hs2 hx hx2 hb fX hm hp hfi=>?_;refine kY (core hk h0 hl hs hs2 hx hx2 n hb fX hm hp hd) λF v hg hco=>?_;obtain⟨x6,e6⟩:=xA hL (k:=k) (i:=6) (d:=d) (by lia) (by lia) (by lia) (by lia) (bT hd rfl)
 obtain⟨y6,b6,c6⟩:=wC (d:=d) x6 (bT hd rfl);refine Ir ⟨F,v,bif decide ((k:Int)=0)then 1 else(fN F).hi+1+y6.natAbs,x,Eg k l s x⟩ (.int l) (.int s) (.int v) (.int n) (.int b) (.int m) ⟨hg,λz=>?_,λz=>?_,ZN k l s x⟩ (λt cnt b0 b1 b2 b3 b4 b5 p A B C vs kr kn hA hB hC hV hq=>?_)
 ·show(bif decide ((k:Int)=0)then(1:Int)else _)=1;rw[aH (show(k:Int)=0 by lia)];rfl
 ·show _<(bif decide ((k:Int)=0)then(1:Int)else _)/\(bif decide ((k:Int)=0)then(1:Int)else _)<_;rw[cF (aK (show ¬(k:Int)=0 by lia) ..),v6]
  have:=hg.hi;constructor
  ·show T.his F.1+F.2<_;lia
  ·lia
 ·obtain⟨d,rfl,_⟩:=up (K:=43) (d:=d) hd;obtain⟨d,rfl,_⟩:=up (K:=42) (d:=d) (right);conv=>lhs;rw[hfi,seg7,sp666,aF,QD hk,aF,show cG (aB fi (d+2)) .Add (.int l) (.int s)=some (.int (l+s))from rfl,aF,
   show ∀cs,eX [.str (uY k),.int l,.int (l+s)] cs=some ([.str (uY k),.int l,.int (l+s)],cs)from λ_=>rfl,aF,ZJ d _ h0 hs,F0_eq,aF,Oh hk h0 hl hs2 (bT hd rfl) hV hq,hco]
  unfold GY;conv=>lhs;rw[seg10,cT (aV (by lia) ..),aF,cT (show g7 (V.none,C4 (L.map V.int) (A++[V.node (fN F)]) B C (nZ (vs++Eg k l s x))).1=true from rfl),seg11,cT (aV (by lia) ..),aF,
   show g7 (V.none,C4 (L.map V.int) (A++[V.node (fN F)]) (B++[V.int v]) C (nZ (vs++Eg k l s x))).1=true from rfl,bV,seg12,show ∀(cs:Cs) (K:Bool->O3),Ee (d+2) .Eq (.int k) 0 cs K=K (decide ((k:Int)=0))from λ_ _=>rfl]
  induction decide ((k:Int)=0) using Bool.casesOn with
  |true=>rw[bV,app3 _ _ _ _ _ _ (by exact iG hC rfl)];rfl
  |false=>rw[bG,e6,c6,Az,xN,app3 _ _ _ _ _ _ (by exact iG hC rfl)];rfl
noncomputable abbrev eD(cnt k:Int)(a0 a1 a2 a3 a4 a5 p:V)(ex:Ev):Ev:=eB cnt k a0 a1 a2 a3 a4 a5 ((24,p)::ex)
noncomputable abbrev eC(cnt k:Int)(a0 a1 a2 a3 a4 a5 p w du le mo:V)(ex:Ev):Ev:=eD cnt k a0 a1 a2 a3 a4 a5 p ((14,w)::(36,du)::(32,le)::(29,mo)::(33,.own 5)::ex)
noncomputable abbrev C5(sc A B C:List V)(D:List (Str×V))(z:Bool)(H:List V):Cs:=[⟨true,.lst sc⟩,⟨false,.lst A⟩,⟨false,.lst B⟩,⟨false,.lst C⟩,⟨z,.dct D⟩,⟨false,.lst H⟩]
def b12:List Y:=match Mn.body.drop 12 with
 |Y.forR _ _ b::_=>b
 |_=>[]
def ZO:List Y:=match Mn.body.drop 15 with
 |Y.forR _ _ b::_=>b
 |_=>[]
noncomputable abbrev B7(d k:Nat)(env:Ev)(cs:Cs):Option V:=dR (R4 d) (Mn.body.drop k) env cs kR kN
theorem law0(d:Nat)(l:List V):aB fi (d+1) 687 [.lst l] []=(bif Nat.ble l.length 100000 then some (V.own 0,([⟨false,.lst (l.take 31)⟩]:Cs))else none).bind λv=>B7 d 1 [(8,v.1)] v.2:=(cR rfl rfl rfl rfl).trans (by kernel_rfl)
theorem law1(d:Nat)(sc:List V):B7 d 1 [(8,.own 0)] [⟨false,.lst sc⟩]=(aB fi d 673 [.lst sc,.int 0] []).bind λx=>(cG (aB fi d) .Mod x (.int 4)).bind λy=>(cG (aB fi d) .Add (.int 2) y).bind λc=>(l9 [c]).bind λl=>nO (gV (bJ (aB fi d) 39) [6] l7 l ((8,.own 0)::(50,c)::(23,.own 1)::(22,.own 2)::(20,.own 3)::(15,.own 4)::[]) (C4 sc [] [] [] [])) kR λenv cs=>B7 d 7 env cs:=by kernel_rfl
theorem law7(d:Nat)(c k:Int)(a0 a1 a2 a3 a4 a5 p:V)(sc A B C:List V)(D:List (Str×V)):B7 d 7 (eD c k a0 a1 a2 a3 a4 a5 p []) (C4 sc A B C D)=(eZ (.own 1) (.int 0) (C4 sc A B C D)).bind λw=>(eZ (.own 2) (.int 0) (C4 sc A B C D)).bind λdu=>(eZ (.own 1) (.int 0) (C4 sc A B C D)).bind λw1=>(jD (aB fi d) w1 .min).bind λle=>
  (eZ (.own 1) (.int 0) (C4 sc A B C D)).bind λw2=>(jD (aB fi d) w2 .max).bind λmo=>(eX [w] (C4 sc A B C D)).bind λq=>B7 d 12 (eD c k a0 a1 a2 a3 a4 a5 p [(14,w),(36,du),(32,le),(29,mo),(33,(gT (.lst q.1) q.2).1)]) (gT (.lst q.1) q.2).2:=by kernel_rfl
theorem law12(d:Nat)(c k:Int)(a0 a1 a2 a3 a4 a5 p w du le mo:V)(cs:Cs):B7 d 12 (eC c k a0 a1 a2 a3 a4 a5 p w du le mo []) cs=(l9 [.int 1,.int c]).bind λl=>nO (gV (bJ (aB fi d) 39) [6] b12 l (eC c k a0 a1 a2 a3 a4 a5 p w du le mo []) cs) kR λenv cs=>B7 d 13 env cs:=by kernel_rfl
theorem turn2(d:Nat)(c k:Int)(a0 a1 a2 a3 a4 a5 p:V)(w:T)(du le mo:V)(sc A B C H:List V)(D:List (Str×V))(kr:V->Ev->Cs->O3)(kn:Ev->Cs->O3):dR (wB d) b12 (eC c k a0 a1 a2 a3 a4 a5 p (.node w) du le mo []) (C5 sc A B C D false H) kr kn=
  (eZ (.own 3) (.int k) (C5 sc A B C D false H)).bind λs=>(cG (aB fi d) .Mult (.node w) s).bind λx=>(eZ (.own 1) (.int k) (C5 sc A B C D false H)).bind λq=>(cG (aB fi d) .Add x q).bind λw'=>
  (eZ (.own 3) (.int k) (C5 sc A B C D false H)).bind λs=>(cG (aB fi d) .Mult du s).bind λx=>(eZ (.own 2) (.int k) (C5 sc A B C D false H)).bind λq=>(cG (aB fi d) .Add x q).bind λdu'=>
  (eZ (.own 3) (.int k) (C5 sc A B C D false H)).bind λs=>(cG (aB fi d) .Mult le s).bind λx=>(eZ (.own 1) (.int k) (C5 sc A B C D false H)).bind λq=>(jD (aB fi d) q .min).bind λq=>(cG (aB fi d) .Add x q).bind λle'=>
  (eZ (.own 3) (.int k) (C5 sc A B C D false H)).bind λs=>(cG (aB fi d) .Mult mo s).bind λx=>(eZ (.own 1) (.int k) (C5 sc A B C D false H)).bind λq=>(jD (aB fi d) q .max).bind λq=>(cG (aB fi d) .Add x q).bind λmo'=>
  (iL (.own 5) .append [w'] (C5 sc A B C D false H)).bind λv=>bif g7 v.1 then kn (eC c k a0 a1 a2 a3 a4 a5 p w' du' le' mo' []) v.2 else none:=by kernel_rfl
theorem app5(sc A B C H:List V)(D:List (Str×V))(u:T)(h:H.length<=100000):iL (.own 5) .append [.node u] (C5 sc A B C D false H)=some (.none,C5 sc A B C D false (H++[.node u])):=
 (show _=(bif Nat.ble H.length 100000 then some (V.none,C5 sc A B C D false (H++[.node u]))else none) by kernel_rfl).trans (by rw[aV h];rfl)
def QE(d:Nat)(op:PySem.CmpOp)(v y:V)(cs:Cs)(K:Bool->Option V):Option V:=(j4 (aB fi d) op v y).bind λv=>(eM v cs).bind K
theorem law13(d:Nat)(c k:Int)(a0 a1 a2 a3 a4 a5 p:V)(w:T)(du le mo:V)(cs:Cs):B7 d 13 (eC c k a0 a1 a2 a3 a4 a5 p (.node w) du le mo []) cs=
  QE d .NotEq (.int w.lo) le cs λz=>bif !z then QE d .NotEq (.int w.hi) mo cs λz=>bif !z then(eX [.node w,.own 4] cs).bind λq=>(aB fi d 659 q.1 []).bind λv=>QE d .NotEq v du q.2 λz=>bif !z then B7 d 14 (eC c k a0 a1 a2 a3 a4 a5 p (.node w) du le mo []) q.2
   else some (.bool false)else some (.bool false)else some (.bool false):=by kernel_rfl
theorem law14(d:Nat)(c k:Int)(a0 a1 a2 a3 a4 a5 p w du le mo:V)(cs:Cs):B7 d 14 (eC c k a0 a1 a2 a3 a4 a5 p w du le mo []) cs=(l9 [.int (c-1)]).bind λl=>nO (gV (bJ (aB fi d) 39) [39] ZO l (eC c k a0 a1 a2 a3 a4 a5 p w du le mo [(18,.int 1)]) cs) kR λenv cs=>B7 d 16 env cs:=by kernel_rfl
def QF(d:Nat)(op:PySem.CmpOp)(v y:V)(cs:Cs)(K:Bool->O3):O3:=(j4 (aB fi d) op v y).bind λv=>(eM v cs).bind K
theorem turn3(d:Nat)(t:Bool)(c k st ba:Int)(a0 a1 a2 a3 a4 a5 p h:V)(w:T)(du le mo:V)(cs:Cs)(kr:V->Ev->Cs->O3)(kn:Ev->Cs->O3):dR (wB d) ZO (eC c k a0 a1 a2 a3 a4 a5 p (.node w) du le mo ((18,.int st)::(39,.int ba)::tl t [(34,h)])) cs kr kn=
  (cG (aB fi d) .FloorDiv (.node w) (.int st)).bind λhd=>(eZ (.own 5) (.int (c-1-ba)) cs).bind λx=>QF d .Eq hd x cs λz=>bif !(!z)then(eZ (.own 3) (.int (c-1-ba)) cs).bind λs=>(cG (aB fi d) .Mod hd s).bind λm=>(eZ (.own 1) (.int (c-1-ba)) cs).bind λy=>QF d .Eq m y cs λz=>bif !(!z)then
   (eZ (.own 1) (.int (c-1-ba)) cs).bind λy=>(eX [y,.own 4] cs).bind λq=>(aB fi d 659 q.1 []).bind λv=>(eZ (.own 2) (.int (c-1-ba)) q.2).bind λy=>QF d .NotEq v y q.2 λz=>bif z then kr (.bool false) (eC c (c-1-ba) a0 a1 a2 a3 a4 a5 p (.node w) du le mo [(18,.int st),(39,.int ba),(34,hd)]) q.2
    else(eZ (.own 3) (.int (c-1-ba)) q.2).bind λs=>(cG (aB fi d) .Mult (.int st) s).bind λst'=>kn (eC c (c-1-ba) a0 a1 a2 a3 a4 a5 p (.node w) du le mo [(18,st'),(39,.int ba),(34,hd)]) q.2
   else kr (.bool false) (eC c (c-1-ba) a0 a1 a2 a3 a4 a5 p (.node w) du le mo [(18,.int st),(39,.int ba),(34,hd)]) cs else kr (.bool false) (eC c (c-1-ba) a0 a1 a2 a3 a4 a5 p (.node w) du le mo [(18,.int st),(39,.int ba),(34,hd)]) cs:=by
 induction t using Bool.casesOn<;>kernel_rfl
theorem law16(d:Nat)(c k st ba:Int)(a0 a1 a2 a3 a4 a5 p h:V)(w:T)(du le mo:V)(cs:Cs):B7 d 16 (eC c k a0 a1 a2 a3 a4 a5 p (.node w) du le mo [(18,.int st),(39,.int ba),(34,h)]) cs=
  (cG (aB fi d) .FloorDiv (.node w) (.int st)).bind λhd=>(eZ (.own 5) (.int 0) cs).bind λx=>(j4 (aB fi d) .Eq hd x).bind λv=>(eM v cs).bind λz=>bif z then(eZ (.own 5) (.int 0) cs).bind λy=>(eX [y,.own 4] cs).bind λq=>(aB fi d 659 q.1 []).bind λv=>(eZ (.own 2) (.int 0) q.2).bind λy=>(j4 (aB fi d) .Eq v y).bind λv=>(a8 v q.2).bind λq=>some q.1
   else(a8 v cs).bind λq=>some q.1:=by kernel_rfl
noncomputable def Wf(P:Nat->Pt):Nat->List T×Int
 |0=>(P 0).F
 |k+1=>((Wf P k).1.map (scl (P (k+1)).S)++(P (k+1)).F.1,(Wf P k).2*(P (k+1)).S+(P (k+1)).F.2)
noncomputable def F8(P:Nat->Pt):Nat->Int
 |0=>(P 0).v
 |k+1=>F8 P k*(P (k+1)).S+(P (k+1)).v
noncomputable def Cx(P:Nat->Pt):Nat->List (Str×Int)
 |0=>[]
 |k+1=>Cx P k++(P k).kv
theorem vsN_s{P:Nat->Pt}{k:Nat}:Cx P (k+1)=Cx P k++(P k).kv:=rfl
theorem vsN_z{P:Nat->Pt}:Cx P 0=[]:=rfl
structure Tt(k:Nat)(pc:Int)(t:T):Prop where
 lt:Lt t
 let_:∀c,dS c t->c=118+k
 cb:(g8 t).natAbs<2^62
 tp:1<=k->Tp t/\t.vc=1/\1<=g8 t/\(sF t=true->0<=pc)
 hi:(jN t).hi<2^62
theorem ZP{k:Nat}{P:Pt}(h:Gd k P):P.F.1=[]\/∃t,P.F.1=[t]/\Tt k P.F.2 t:=by
 rcases h.gp.sh with⟨h1,_⟩|⟨a,c,w,h1,g,hc,hc2,_,hp⟩
 ·exact .inl h1
 ·refine .inr ⟨_,h1,?_⟩;have ha:=k7 g.fr.b;refine oA (uW (q:=c) ha) λe1 e2=>?_;have hg:Gt 18 a:=g.fr.tp.gt (by rw[(sK g.fr.b).1];exact Dc)
  have hs:=Fl (c:=c) hg (by rw[(sD ha).2];exact K7 hc hp) (by rw[(sD ha).2,lX];exact sH hc2 (by decide))
  unfold scl at hs;rw[(sD ha).1,(sD ha).2,lX]at hs;have hr:=g.fr.nd.rng;refine⟨⟨hs,by rw[e1];exact g.fr,by rw[e1];exact g.vd⟩,λx hx=>?_,by rw[e2];exact hc2,λhk=>?_,by rw[e1];exact g.hi⟩
  ·have:dS x (jN (tm a c)):=rN.mpr hx;rw[e1]at this;exact g.lt x this
  ·refine oA (hp hk) λp1 p2=>?_;have hh:a.hi*c<=2^62*2^62:=kB (aO g.hi) (K8 hc2 hp hk p2) (K9 p1) (by decide)
   refine A6 (GG g.fr p1 (aJ hh (by unfold BM;decide+kernel))) λq1 q2 _=>?_
   refine B8 q1 q2 (by rw[e2];exact p1) (λhM=>p2 λhc1=>?_)
   rw[NU g.fr,aH hc1]at hM;exact bX hM
theorem uZ{k:Nat}{P:Pt}(h:Gd k P):∀t∈P.F.1,Tt k P.F.2 t:=λt ht=>by
 rcases ZP h with e|⟨u,e,hu⟩
 ·rw[e]at ht;cases ht
 ·rw[e]at ht;clear e;obtain rfl:=aN.mp ht;exact hu
theorem u4{k:Nat}{P:Pt}(h:Gd k P):P.F.1.length<=1/\P.F.1.Pairwise rM:=by
 rcases ZP h with e|⟨u,e,hu⟩
 ·rw[e];exact⟨d3 _,.nil⟩
 ·rw[e];exact⟨cA _,gJ ..⟩
theorem Jw{k:Nat}{P:Pt}(h:Gd k P):1<=P.S/\P.S<2^126:=by
 by_cases hk:k=0
 ·rw[h.s0 hk];exact⟨by decide,by decide⟩
 ·refine oA (h.s1 (Dd hk)) λh1 h2=>?_;have h3:=h.gp.lo (Dd hk);have h4:=Ak (n:=18) (ts:=P.F.1) λt ht=>(uZ h t ht).lt.gt;omega
structure Wh(k:Nat)(W:List T×Int):Prop where
 lt:∀t∈W.1,Lt t
 ap:W.1.Pairwise rM
 le:∀t∈W.1,∀c,dS c t->c<=118+k
 len:W.1.length<=k+1
 cf:∀t∈W.1,(g8 t).natAbs<2^(130*(k+1))
 kb:W.2.natAbs<2^(130*(k+1))
theorem Lt.at_{t:T}(h:Lt t):j6 (jN t)=true:=h.gt.at_
theorem ZQ{t:T}{S:Int}(h:Lt t)(hS:1<=S)(hb:(g8 t*S).natAbs<2^900):Lt (scl S t):=by
 refine oA (qE (c:=S) h.at_) λe1 e2=>?_;have h0:g8 t≠0:=by
  by_cases hm:∃a c,t=.mul a c
  ·clear e2 e1 hb;obtain⟨a,c,rfl⟩:=hm;exact(h.gt.mul a c rfl).1
  ·rw[(tF h.gt λa c e=>hm ⟨a,c,e⟩).2];decide
 exact⟨Fl h.gt (n7 h0 (KA hS)) hb,by rw[e1];exact h.fr,by rw[e1];exact h.vd⟩
theorem By(k:Nat):2^(130*(k+1+1))=2^(130*(k+1))*2^130:=by rw[<-nW];rfl
theorem F9{x y:Int}{k:Nat}(hx:x.natAbs<2^(130*(k+1)))(hy:y.natAbs<2^126):(x*y).natAbs<=2^(130*(k+1))*2^126:=by
 rw[eP];exact mP (bD hx) (bD hy)
theorem nE{P:Nat->Pt}(hP:∀k,k<5->Gd k (P k)):∀k,k<5->Wh k (Wf P k)
 |0,hk=>by
  have h:=hP 0 hk;have ha:=uZ h;exact⟨λt ht=>(ha t ht).lt,(u4 h).2,λt ht c hc=>f9 ((ha t ht).let_ c hc),(u4 h).1,λt ht=>bA (ha t ht).cb (by decide),bA h.gp.cb (by decide)⟩
 |k+1,hk=>by
  have ih:=nE hP k (q8 hk);have h:=hP (k+1) hk;have ha:=uZ h;refine oA (Jw h) λs1 s2=>?_;have hp:=By k;have hone:1<=2^(130*(k+1)):=pS;have hle:2^(130*(k+1+1))<=2^900:=eQ (by decide) (KB hk)
  have hm:∀t∈(Wf P k).1,(g8 t*(P (k+1)).S).natAbs<2^(130*(k+1+1)):=λt ht=>by
   have:=F9 (ih.cf t ht) (y:=(P (k+1)).S) (by omega)
   rw[hp];exact KC hp hone hle this
  refine⟨λu hu=>?_,?_,λu hu c hc=>?_,?_,λu hu=>?_,?_⟩
  ·rcases b7.mp hu with hu|hu
   ·obtain⟨t,ht,rfl⟩:=bR.mp hu;exact ZQ (ih.lt t ht) s1 (aZ (hm t ht) hle)
   ·exact(ha u hu).lt
  ·refine iX.mpr ⟨qK.mpr (List.Pairwise.imp_of_mem (λ{a b} h1 h2 hab c hc z1 z2=>hab c hc ((rO (ih.lt a h1).at_).mp z1) ((rO (ih.lt b h2).at_).mp z2)) ih.ap),(u4 h).2,λu hu v hv c _ z1 z2=>?_⟩;obtain⟨t,ht,rfl⟩:=bR.mp hu;have:=ih.le t ht c ((rO (ih.lt t ht).at_).mp z1);have:=(ha v hv).let_ c z2;exact KD (by assumption) this
  ·rcases b7.mp hu with hu|hu
   ·obtain⟨t,ht,rfl⟩:=bR.mp hu;have:=ih.le t ht c ((rO (ih.lt t ht).at_).mp hc);exact KF this
   ·exact f9 ((ha u hu).let_ c hc)
  ·show((Wf P k).1.map _++_).length<=_;rw[bU,aT];have:=(u4 h).1;have:=ih.len;exact KG (by assumption) this
  ·rcases b7.mp hu with hu|hu
   ·obtain⟨t,ht,rfl⟩:=bR.mp hu;rw[(qE (ih.lt t ht).at_).2];exact hm t ht
   ·have:=(ha u hu).cb;rw[hp];exact KH hp hone hle this
  ·have h1:=F9 ih.kb (y:=(P (k+1)).S) (by omega)
   have h2:=h.gp.cb;show((Wf P k).2*(P (k+1)).S+(P (k+1)).F.2).natAbs<_;rw[hp];omega
theorem Wh.fm{k:Nat}{W:List T×Int}(h:Wh k W)(hk:k<5):Fm 18 W.1:=⟨λt ht=>(h.lt t ht).gt,h.ap,by have:=h.len;exact KI hk this⟩
theorem Wh.k9{k:Nat}{W:List T×Int}(h:Wh k W)(hk:k<5):W.2.natAbs<2^900:=aZ h.kb (eQ (by decide) (KJ hk))
theorem RJ{k:Nat}{P:Pt}(h:Gd k P):Fm 18 P.F.1:=⟨λt ht=>(uZ h t ht).lt.gt,(u4 h).2,by have:=(u4 h).1;exact KK this⟩
theorem Oi{n:Nat}{t:T}{S:Int}(h:Gt n t)(hS:1<=S):(scl S t).lo=t.lo*S/\(scl S t).hi=t.hi*S:=by
 refine oA (yJ (jN t) (g8 t*S)) λe1 e2=>?_;have e:=yJ (jN t) (g8 t);rw[NY h]at e;unfold scl;rw[e1,e2,e.1,e.2];by_cases hc:0<=g8 t
 ·rw[aH hc,aH (eO hc (by exact iA hS rfl)),bV,bV,bV,bV,jP,jP];exact⟨rfl,rfl⟩
 ·have:g8 t*S<0:=Int.mul_neg_of_neg_of_pos (by exact nG.mp hc) (KL hS)
  rw[aK hc,aK (show ¬0<=g8 t*S by exact nG.mpr this),bG,bG,bG,bG,jP,jP];exact⟨rfl,rfl⟩
theorem Cy{n:Nat}{S:Int}(hS:1<=S):∀{ts:List T},(∀t∈ts,Gt n t)->T.los (ts.map (scl S))=T.los ts*S/\T.his (ts.map (scl S))=T.his ts*S
 |[],_=>⟨(mL S).symm,(mL S).symm⟩
 |t::r,h=>by
  refine oA (Cy hS λu hu=>h u (aI t hu)) λi1 i2=>?_;refine oA (Oi (h t aE) hS) λe1 e2=>?_;show(scl S t).lo+T.los (r.map (scl S))=(t.lo+T.los r)*S/\(scl S t).hi+T.his (r.map (scl S))=(t.hi+T.his r)*S;rw[i1,i2,e1,e2,jH,jH];exact⟨rfl,rfl⟩
theorem QG{t:T}{a b:Int}(h:j6 (jN t)=true):scl b (scl a t)=scl (b*a) t:=by
 refine oA (qE (c:=a) h) λe1 e2=>?_;show tm (jN (scl a t)) (g8 (scl a t)*b)=tm (jN t) (g8 t*(b*a));rw[e1,e2,jP,d8 a b]
theorem add4(a b c d:Int):a+b+(c+d)=a+c+(b+d):=by rw[nK,nK,Int.add_left_comm b]
theorem a_lo{a b c d:Int}(h1:0<=a+c)(h2:0<=b+d):0<=a+b+(c+d):=by rw[add4];exact pP h1 h2
theorem a_hi{a b c d x y:Int}(h1:a+c<=x-y)(h2:b+d<y):a+b+(c+d)<x:=by
 have:=Int.add_lt_add_of_le_of_lt h1 h2;rwa [Int.sub_add_cancel,<-add4]at this
theorem pw_nk{n k:Nat}(h:k+1<=n):2^(130*(n-k))=2^(130*(n-(k+1)))*2^130:=by
 obtain⟨m,rfl⟩:=Nat.exists_eq_add_of_le h;rw[lZ,pR,Nat.add_assoc,lZ,Nat.mul_succ,nW]
theorem rc_b{x y:Int}{q:Nat}(h1:x.natAbs<=2^125*q)(h2:y.natAbs<=q):(x+y).natAbs<=q*2^130:=by
 have:=mJ x y;have e:q*2^130=2^130*q:=Nat.mul_comm ..;exact KM h1 h2 this
theorem st_b{st:Int}{q:Nat}(h1:st.natAbs<=q)(h2:q<=2^520):st<=2^520:=by
 have:((2^520:Nat):Int)=2^520:=by norm_cast
 exact a6 Int.le_natAbs (this▸mK.mpr (aR h1 h2))
structure Rs(P:Nat->Pt)(n k:Nat)(st:Int)(R:List T)(rc:Int):Prop where
 w1:(Wf P n).1=(Wf P k).1.map (scl st)++R
 w2:(Wf P n).2=(Wf P k).2*st+rc
 s1:1<=st
 sb:st.natAbs<=2^(130*(n-k))
 lo:0<=T.los R+rc
 hi:T.his R+rc<st
 tp:∀t∈R,Tp t/\Fr (jN t)/\t.vc=1
 rb:rc.natAbs<=2^(130*(n-k))
 len:R.length<=n-k
 kn:k<=n
theorem Ib{ts:List T}(h:∀t∈ts,Lt t):ts.map (scl 1)=ts:=
 (i9 λt (ht:t∈ts)=>(yI (h t ht).gt:scl 1 t=id t)).trans (List.map_id _)
theorem QH{ts:List T}(h:∀t∈ts,t.vc=1):T.vcs ts=ts.length:=by
 induction ts with
 |nil=>rfl
 |cons t r ih=>
  rw[T.vcs,ih λu hu=>h u (aI t hu),h t aE,bL];exact De
section
variable{P:Nat->Pt}(hP:∀k,k<5->Gd k (P k)){n:Nat}(hn:n<5)
include hP hn
theorem ZR:Rs P n n 1 [] 0:=by
 have h:=nE hP n hn;refine⟨by rw[Ib h.lt,bW],KN,by decide,?_,by decide,by decide,by simp,d3 _,d3 _,cA n⟩
 rw[Nat.sub_self];decide
theorem Cz{k:Nat}{st rc:Int}{R:List T}(h:Rs P n (k+1) st R rc):Rs P n k (st*(P (k+1)).S) ((P (k+1)).F.1.map (scl st)++R) ((P (k+1)).F.2*st+rc):=by
 have hkn:=h.kn;have g:=hP (k+1) (aP hkn hn);have ga:=uZ g;have hw:=nE hP k (Nat.lt_of_succ_lt (aP hkn hn));refine oA (Jw g) λs1 s2=>?_;refine oA (g.s1 (lL 1 k)) λg1 _=>?_;have g0:=g.gp.lo (lL 1 k);have gc:=g.gp.cb;refine oA (Cy h.s1 λt ht=>(ga t ht).lt.gt) λl1 l2=>?_;have hs:=h.s1;have hs0:0<=st:=a6 (by decide) hs
 have hpw:2^(130*(n-k))=2^(130*(n-(k+1)))*2^130:=pw_nk hkn;have hp5:2^(130*(n-(k+1)))<=2^520:=eQ (by decide) (by omega)
 have sb:=h.sb;have rb:=h.rb;have hlo:=h.lo;have hhi:=h.hi;have hle:=h.len;have hw1:=h.w1;have hw2:=h.w2;have htp:=h.tp;clear h;refine⟨?_,?_,?_,?_,?_,?_,λu hu=>?_,?_,?_,by exact bD (d7 hkn)⟩
 ·rw[hw1];show((Wf P k).1.map _++_).map _++_=_;rw[dQ,iW,dT];congr 1;exact i9 λt ht=>QG (hw.lt t ht).at_
 ·rw[hw2];show((Wf P k).2*(P (k+1)).S+(P (k+1)).F.2)*st+rc=_;rw[jH,jP,d8 (P (k+1)).S st,nK]
 ·exact kB hs s1 (by decide) hs0
 ·rw[hpw,eP];exact mP sb (KO s1 s2)
 ·rw[v5,l1];have e:0<=(T.los (P (k+1)).F.1+(P (k+1)).F.2)*st:=eO g0 hs0;rw[jH]at e;exact a_lo e hlo
 ·rw[vZ,l2];have e:(T.his (P (k+1)).F.1+(P (k+1)).F.2)*st<=((P (k+1)).S-1)*st:=cH (KP g1) hs0;rw[jH,Int.sub_mul,lX,d8 (P (k+1)).S st]at e;exact a_hi e hhi
 ·rcases b7.mp hu with hu|hu
  ·obtain⟨t,ht,rfl⟩:=bR.mp hu;refine u7 ((ga t ht).tp (lL 1 k)) λt1 t2 t3 _=>?_;have th:=(ga t ht).hi;have tc:=(ga t ht).cb;have r:=(ga t ht).lt.gt.nd.rng;have hb:(jN t).hi*(g8 t*st)<BM:=by
    have hst:=st_b sb hp5;have h1:g8 t*st<=2^62*2^520:=kB (KQ tc) hst hs0 (by decide)
    have h2:(jN t).hi*(g8 t*st)<=2^62*(2^62*2^520):=kB (by exact aO th) h1 (eO (by exact iA t3 rfl) hs0) (by decide)
    exact aJ h2 (by unfold BM;decide+kernel)
   obtain⟨q1,q2,_⟩:=GG (c:=g8 t*st) (ga t ht).lt.fr (kB t3 hs (by decide) (a6 (by decide) t3):1*1<=g8 t*st) hb
   exact uA q1 (by rw[show scl st t=tm (jN t) (g8 t*st)from rfl,(uW (ga t ht).lt.at_).1];exact(ga t ht).lt.fr) q2
  ·exact htp u hu
 ·have h1:((P (k+1)).F.2*st).natAbs<=2^125*2^(130*(n-(k+1))):=by rw[eP];exact mP (bD gc) sb
  rw[hpw];exact rc_b h1 rb
 ·rw[bU,aT];exact aR (mM (u4 g).1 hle) (by clear hw1 hw2 htp hhi hlo sb rb hpw hp5;exact KS hkn)
end
section
variable{P:Nat->Pt}(hP:∀k,k<5->Gd k (P k)){n:Nat}(hn:n<5)
include hP hn
theorem Bz{d k:Nat}{st rc:Int}{R:List T}(h:Rs P n k st R rc)(hd:56<=d):u6 d (fN (Wf P n)) st=some (.node (fN (Wf P k))):=by
 have hkn:=h.kn;have hw:=nE hP n hn;have hk:=nE hP k (by exact aP hkn hn)
 have hs:=h.s1;have e:Wf P n=((Wf P k).1.map (scl st)++R,(Wf P k).2*st+rc):=Prod.ext h.w1 h.w2;have f:=hw.fm hn;have k9:=hw.k9 hn;by_cases h1:st=1
 ·have l:=h.lo;have r:=h.hi;refine oA (Ak (n:=18) (ts:=R) λt ht=>(h.tp t ht).1.gt (by rw[(h.tp t ht).2.2];exact Dc)) λq1 q2=>?_
  have hR:R=[]:=Classical.byContradiction λz=>by have:=q2 z;omega
  clear q2 q1 h;subst hR;have l:0<=(0:Int)+rc:=l;have r:(0:Int)+rc<st:=r;have e2:Wf P n=Wf P k:=by
   rw[e,h1,Ib hk.lt,bW,dF,show rc=0 by omega,dK]
  rw[h1,e2];exact NX (hk.fm (by exact aP hkn hn)) hk.lt (hk.k9 (by exact aP hkn hn)) (by exact bT hd rfl)
 ·rw[e]at f k9⊢;have sb:=h.sb;have rb:=h.rb;have hi:=h.hi;have hp5:2^(130*(n-k))<=2^520:=eQ (by decide) (KT hn hkn)
  have hz:((2^520:Nat):Int)=2^520:=by norm_cast
  have hB:(3:Int)*2^520<BM:=by unfold BM;decide+kernel
  have hv:T.vcs R<=5:=by rw[QH λt ht=>(h.tp t ht).2.2];have:=h.len;exact KU hn hkn this
  exact Q1 (hk.fm (by exact aP hkn hn)) (λt ht=>(h.tp t ht).1) (λt ht=>(h.tp t ht).2.1) f (KV hs h1) (by omega) h.lo hi k9 (λt ht=>by
   have h1:2^(130*(k+1))*2^(130*(n-k))<=2^900:=by rw[<-nW];exact eQ (by decide) (KW hn hkn)
   rw[eP];have h2:=Nat.mul_lt_mul_of_lt_of_le (hk.cf t ht) sb (lS (KX hs sb rb));exact KY h1 h2) hv hd
theorem Jx{d k:Nat}(hk:k+1<=n)(hd:56<=d):J8 d (fN (Wf P (k+1))) (P (k+1)).S=some (.node (fN (P (k+1)).F)):=by
 have hw:=nE hP k (by exact bA (d7 hk) hn)
 have hw1:=nE hP (k+1) (by exact aP hk hn)
 have g:=hP (k+1) (by exact aP hk hn)
 refine oA (Jw g) λs1 s2=>?_;have hcs:=F9 hw.kb (y:=(P (k+1)).S) (by omega)
 have hle:2^(130*(k+1))*2^126<2^900:=by rw[<-nW];exact kE (by decide) (KZ hn hk)
 refine Q4 (hw.fm (La hn hk)) hw.lt (hw1.fm (Df hn hk)) ?_ s1 (cX s2 (by unfold BM;decide+kernel)) (g.gp.lo (yN)) (g.s1 (yN)).1 (hw1.k9 (Df hn hk)) (Lb hcs hle) hd
 rcases ZP g with e|⟨t,e,ht⟩
 ·exact .inl e
 ·refine u7 (ht.tp (yN)) λt1 _ _ t2=>?_;exact .inr ⟨t,e,t1,ht.lt,t2⟩
theorem Eh{d k:Nat}(hk:k<=n)(hd:44<=d):j4 (aB fi d) .Eq (.node (fN (Wf P k))) (.node (fN (Wf P k)))=some (.bool true):=by
 have hw:=nE hP k (by exact aP hk hn)
 exact GV (hw.fm (by exact aP hk hn)) (λt ht=>(hw.lt t ht).fr) (hw.k9 (by exact aP hk hn)) hd
theorem QI{d k:Nat}(hk:k<=n)(hd:44<=d):j4 (aB fi d) .Eq (.node (fN (P k).F)) (.node (fN (P k).F))=some (.bool true):=by
 have g:=hP k (by exact aP hk hn)
 exact GV (RJ g) (λt ht=>(uZ g t ht).lt.fr) (sH g.gp.cb (by decide)) hd
end
noncomputable def rho(P:Nat->Pt)(e:Str):Int:=match e.cps.toList with
 |[c]=>(P (c-118)).x
 |_=>0
def nu(P:Nat->Pt)(t:T):Int:=Oe (rho P) (jN t)
theorem rho_k(P:Nat->Pt)(k:Nat):rho P (uY k)=(P k).x:=by
 show(P (118+k-118)).x=_;rw[lZ]
theorem Ic(ν:T->Int):∀a b:List T,val ν (a++b)=val ν a+val ν b
 |[],b=>(cY _).symm
 |t::r,b=>by
  show ν t*g8 t+val ν (r++b)=ν t*g8 t+val ν r+val ν b;rw[Ic ν r b,nK]
theorem Ie(P:Nat->Pt)(S:Int):∀{ts:List T},(∀t∈ts,Lt t)->val (nu P) (ts.map (scl S))=val (nu P) ts*S
 |[],_=>(mL S).symm
 |t::r,h=>by
  refine oA (qE (c:=S) (h t aE).at_) λe1 e2=>?_;show nu P (scl S t)*g8 (scl S t)+val (nu P) (r.map (scl S))=(nu P t*g8 t+val (nu P) r)*S;rw[Ie P S λu hu=>h u (aI t hu),e2,show nu P (scl S t)=nu P t by unfold nu;rw[e1],jH,jP]
theorem FA{P:Nat->Pt}{q:Str×Int}:∀{n:Nat},q∈Cx P n↔∃i,i<n/\q∈(P i).kv
 |0=>⟨λh=>absurd h fK,λ⟨_,h,_⟩=>absurd h (Nat.not_lt_zero _)⟩
 |n+1=>by
  rw[Cx,b7,FA (n:=n)];exact⟨λh=>h.elim (λ⟨i,h1,h2⟩=>⟨i,by exact aZ h1 (eT _ _),h2⟩) λh=>⟨n,by exact fL _,h⟩,λ⟨i,h1,h2⟩=>if e:i=n then .inr (e▸h2)else .inl ⟨i,by omega,h2⟩⟩
theorem B0{k:Str}{x:Int}:∀{vs:List (Str×Int)},(vs.map (·.1)).Nodup->(k,x)∈vs->cJ k (Cw vs)=some (.node (.num x))
 |(k',y)::r,hn,h=>by
  refine oA (gK.mp hn) λh1 h2=>?_;show(bif lE k k' then some (V.node (.num y))else cJ k (Cw r))=_;rcases a7.mp h with e|h
  ·clear h1 h hn;cases e;rw[sV];rfl
  ·rw[mB.mpr λe=>h1 (bR.mpr ⟨_,h,e⟩)];exact B0 h2 h
theorem nu_b{x y:Int}(hx:x.natAbs<2^63)(hy:y.natAbs<2^900):(x*y).natAbs<2^1900:=by
 rw[eP];exact bA (Nat.mul_lt_mul'' hx hy) (by decide+kernel)
section
variable{P:Nat->Pt}(hP:∀k,k<5->Gd k (P k))
include hP
theorem ZS{k:Nat}(hk:k<5){q:Str×Int}(hq:q∈(P k).kv):∀c,J7 c->(Ae c q.1↔c=118+k):=by
 rcases(hP k hk).kv with e|⟨s,e,h⟩
 ·rw[e]at hq;cases hq
 ·rw[e]at hq;obtain rfl:=aN.mp hq;exact h
theorem Oj{k:Nat}(hk:k<5):∀q∈Cx P k,¬Ae (118+k) q.1:=λq hq ho=>by
 refine i8 (FA.mp hq) λi h1 h2=>?_;have:=(ZS hP (by exact bA h1 hk) h2 (118+k) ⟨Lc hk,Ld hk⟩).mp ho
 exact Le h1 this
theorem Ei:∀{n:Nat},n<=5->((Cx P n).map (·.1)).Nodup/\(Cx P n).length<=n
 |0,_=>⟨.nil,cA 0⟩
 |n+1,hn=>by
  refine oA (Ei (n:=n) (by exact bD (d7 hn))) λh1 h2=>?_
  rcases(hP n (Dg hn)).kv with e|⟨s,e,h⟩
  ·rw[Cx,e,bW];exact⟨h1,by exact bD (j0 h2)⟩
  ·rw[Cx,e,dQ,bU];refine⟨gI.mpr ⟨h1,gK.mpr ⟨by simp,.nil⟩,λa ha b hb=>?_⟩,by show _+1<=_;exact Lf h2⟩
   clear e;obtain rfl:=aN.mp hb;obtain⟨q,hq,rfl⟩:=bR.mp ha;exact λe=>Oj hP (Dg hn) q hq (by rw[e];exact(h _ ⟨Lg hn,Lh hn⟩).mpr rfl)
theorem C0{k n:Nat}(hkn:k<n)(hn:n<=5):(P k).v=val (nu P) (P k).F.1+(P k).F.2/\∀t∈(P k).F.1,At (Cw (Cx P n)) (jN t) (nu P t)/\(nu P t).natAbs<2^63:=by
 have hD:∀p∈(P k).kv,cJ p.1 (Cw (Cx P n))=some (.node (.num p.2)):=λp hp=>B0 (Ei hP hn).1 (FA.mpr ⟨k,hkn,hp⟩);rcases(hP k (by exact aZ hkn hn)).gp.sh with⟨e,h⟩|⟨a,c,w,e,g,_,_,hv,_⟩
 ·rw[e];exact⟨by rw[h];exact(cY _).symm,by simp⟩
 ·refine oA (uW (q:=c) (k7 g.fr.b)) λe1 e2=>?_;have en:nu P (tm a c)=w:=by unfold nu;rw[e1];exact g.ev _ (rho_k P k)
  rw[e];refine⟨?_,λt ht=>?_⟩
  ·show _=nu P (tm a c)*g8 (tm a c)+0+_;rw[en,e2,dK];exact hv
  ·obtain rfl:=aN.mp ht;rw[e1,en];exact⟨g.at_ _ hD,g.vb⟩
theorem Ej{n:Nat}(hn:n<=5):∀{k:Nat},k<n->F8 P k=val (nu P) (Wf P k).1+(Wf P k).2/\∀t∈(Wf P k).1,At (Cw (Cx P n)) (jN t) (nu P t)/\(nu P t).natAbs<2^63
 |0,hk=>C0 hP hk hn
 |k+1,hk=>by
  refine oA (Ej hn (k:=k) (by exact aP (eT _ _) hk)) λi1 i2=>?_
  refine oA (C0 hP hk hn) λp1 p2=>?_;have hw:=nE hP k (by exact aZ (aP (eT _ _) hk) hn)
  refine⟨?_,λu hu=>?_⟩
  ·show F8 P k*_+(P (k+1)).v=val (nu P) ((Wf P k).1.map (scl (P (k+1)).S)++_)+((Wf P k).2*(P (k+1)).S+(P (k+1)).F.2);rw[Ic,Ie P _ hw.lt,i1,p1,jH];exact Li
  ·rcases b7.mp hu with hu|hu
   ·obtain⟨t,ht,rfl⟩:=bR.mp hu;have e1:=(qE (c:=(P (k+1)).S) (hw.lt t ht).at_).1;rw[e1,show nu P (scl (P (k+1)).S t)=nu P t by unfold nu;rw[e1]]
    exact i2 t ht
   ·exact p2 u hu
theorem B1{d n k:Nat}(hn:n<=5)(hk:k<n)(hd:49<=d):aB fi d 659 [.node (fN (Wf P k)),.dct (nZ (Cx P n))] []=some (.int (F8 P k)):=by
 refine oA (Ej hP hn hk) λh1 h2=>?_;refine oA (Ei hP hn) λh3 h4=>?_;have hw:=nE hP k (by exact aZ hk hn)
 rw[h1];exact RG (hw.fm (by exact aZ hk hn)) h3 (by exact aR h4 (iG hn rfl)) (λt ht=>(h2 t ht).1) (λt ht=>nu_b (h2 t ht).2 (aZ (hw.cf t ht) (eQ (by decide) (Lj hn hk)))) hd
theorem Ok{d n k:Nat}(hn:n<=5)(hk:k<n)(hd:49<=d):aB fi d 659 [.node (fN (P k).F),.dct (nZ (Cx P n))] []=some (.int (P k).v):=by
 refine oA (C0 hP hk hn) λh1 h2=>?_;refine oA (Ei hP hn) λh3 h4=>?_;have g:=hP k (by exact aZ hk hn)
 rw[h1];exact RG (RJ g) h3 (by exact aR h4 (iG hn rfl)) (λt ht=>(h2 t ht).1) (λt ht=>nu_b (h2 t ht).2 (sH (uZ g t ht).cb (by decide))) hd
end
theorem A0{d:Nat}{t:List Nat}{body:List Y}{v:V}{vs:List V}{env env':Ev}{cs:Cs}(hb:n9 t v env=some env'):
  gV (bJ (aB fi d) 39) t body (v::vs) env cs=dR (wB d) body env' cs (λx e c=>some (some x,e,c)) (λe c=>gV (bJ (aB fi d) 39) t body vs e c):=by
 rw[vS (vT _ 39)];show(n9 t v env).bind _=_;rw[bS (hb ..)];unfold nO;congr 1
theorem u5{x y:Int}(h1:x.natAbs<=2^125)(h2:y.natAbs<2^125):(x+y).natAbs<2^127:=
 aP (mJ x y) (bA (Nat.add_lt_add_of_le_of_lt h1 h2) (by decide))
theorem ZT{k:Nat}{P:Pt}(h:Gd k P):P.v.natAbs<2^127/\(T.los P.F.1+P.F.2).natAbs<2^127/\(T.his P.F.1+P.F.2).natAbs<2^127:=by
 have cb:=h.gp.cb;rcases h.gp.sh with⟨h1,h2⟩|⟨a,c,w,h1,g,hc,hc2,hv,hp⟩
 ·rw[h1,h2];exact uA (bA cb (by decide)) (u5 (x:=0) (by decide) cb) (u5 (x:=0) (by decide) cb)
 ·rw[h1,hv];have r:=g.fr.nd.rng;have hi:=g.hi;clear hp hv hc h1 h;have mb:∀x y:Int,x.natAbs<=2^63->y.natAbs<2^62->(x*y).natAbs<=2^125:=λx y q1 q2=>by
   rw[eP];exact aR (mP q1 (bD q2)) (by decide)
  have b2:=mb a.lo c (by lia) hc2
  have b3:=mb a.hi c (by lia) hc2
  refine oA (yJ a c) λe1 e2=>?_;show _/\((tm a c).lo+0+P.F.2).natAbs<_/\((tm a c).hi+0+P.F.2).natAbs<_;rw[dK,dK,e1,e2];exact⟨u5 (mb w c (bD g.vb) hc2) cb,by
   induction decide (0<=c) using Bool.casesOn with
   |true=>exact⟨u5 b2 cb,u5 b3 cb⟩
   |false=>exact⟨u5 b3 cb,u5 b2 cb⟩⟩
theorem pw_b{x y:Int}{n:Nat}(h1:x.natAbs<=2^(130*(n+1))*2^126)(h2:y.natAbs<2^129):(x+y).natAbs<2^(130*(n+1))*2^130:=by
 have hone:1<=2^(130*(n+1)):=pS;generalize 2^(130*(n+1))=q at*;have:=mJ x y;exact Lk h2 h1 hone this
theorem RK{S x y:Nat->Int}(hS:∀k,k<5->(S k).natAbs<2^126)(hy:∀k,k<5->(y k).natAbs<2^127)(h0:(x 0).natAbs<2^127)(hx:∀k,k+1<5->x (k+1)=x k*S (k+1)+y (k+1)):∀k,k<5->(x k).natAbs<2^(130*(k+1))
 |0,_=>bA h0 (by decide)
 |k+1,hk=>by
  rw[hx k hk,By];exact pw_b (F9 (RK hS hy h0 hx k (q8 hk)) (hS (k+1) hk)) (bA (hy (k+1) hk) (by decide))
noncomputable abbrev Ig(P:Nat->Pt)(k:Nat):Int:=(fN (Wf P k)).lo
noncomputable abbrev Ih(P:Nat->Pt)(k:Nat):Int:=(fN (Wf P k)).hi
section
variable{P:Nat->Pt}(hP:∀k,k<5->Gd k (P k))
include hP
theorem FB{k:Nat}(hk:k+1<5):Ig P (k+1)=Ig P k*(P (k+1)).S+(fN (P (k+1)).F).lo/\Ih P (k+1)=Ih P k*(P (k+1)).S+(fN (P (k+1)).F).hi:=by
 refine oA (Cy (Jw (hP (k+1) hk)).1 λt ht=>((nE hP k (q8 hk)).lt t ht).gt) λe1 e2=>?_;unfold Ig Ih;rw[xL,xL,xL,v6,v6,v6];show T.los ((Wf P k).1.map (scl (P (k+1)).S)++(P (k+1)).F.1)+((Wf P k).2*(P (k+1)).S+(P (k+1)).F.2)=_/\T.his ((Wf P k).1.map (scl (P (k+1)).S)++(P (k+1)).F.1)+((Wf P k).2*(P (k+1)).S+(P (k+1)).F.2)=_;rw[v5,vZ,e1,e2,jH,jH];exact⟨add4 ..,add4 ..⟩
theorem fits{k:Nat}(hk:k+1<5):jQ (F8 P k*(P (k+1)).S)=true/\jQ (Ig P k*(P (k+1)).S)=true/\jQ (Ih P k*(P (k+1)).S)=true:=by
 have hS:∀k,k<5->(P k).S.natAbs<2^126:=λk hk=>by have:=Jw (hP k hk);omega
 have go:∀x y:Nat->Int,(∀k,k<5->(y k).natAbs<2^127)->x 0=y 0->(∀k,k+1<5->x (k+1)=x k*(P (k+1)).S+y (k+1))->jQ (x k*(P (k+1)).S)=true:=λx y h1 h2 h3=>by
  have h:=F9 (RK (S:=λk=>(P k).S) hS h1 (by rw[h2];exact h1 0 (by decide)) h3 k (q8 hk)) (hS (k+1) hk)
  rw[<-nW]at h;exact g9 (aP h (kE (by decide) (Ll hk)))
 refine uA (go (F8 P) (λk=>(P k).v) (λk hk=>(ZT (hP k hk)).1) rfl λ_ _=>rfl) (go (Ig P) (λk=>(fN (P k).F).lo) (λk hk=>?_) rfl λk hk=>(FB hP hk).1) (go (Ih P) (λk=>(fN (P k).F).hi) (λk hk=>?_) rfl λk hk=>(FB hP hk).2)
 ·show(fN (P k).F).lo.natAbs<_;rw[xL];exact(ZT (hP k hk)).2.1
 ·show(fN (P k).F).hi.natAbs<_;rw[v6];exact(ZT (hP k hk)).2.2
theorem ZU{d k:Nat}(hk:k+1<5)(hd:41<=d):((cG (aB fi d) .Mult (.node (fN (Wf P k))) (.int (P (k+1)).S)).bind λx=>cG (aB fi d) .Add x (.node (fN (P (k+1)).F)))=some (.node (fN (Wf P (k+1)))):=by
 have hw:=nE hP k (q8 hk);have hw1:=nE hP (k+1) hk;refine oA (Jw (hP (k+1) hk)) λs1 s2=>?_;have hone:1<=2^(130*(k+1)):=pS;have hle:2^(130*(k+1))*2^126<2^900:=by rw[<-nW];exact kE (by decide) (Lm hk)
 have hcs:=F9 hw.kb (y:=(P (k+1)).S) (by omega)
 rw[bS (DV (hw.fm (q8 hk)) (Ln s1 s2) (λt ht=>by have:=F9 (hw.cf t ht) (y:=(P (k+1)).S) (by omega);exact Dh hone hle this) (Dh hone hle hcs) (by omega) ..),uT]
 exact Fk (F:=((Wf P k).1.map (scl (P (k+1)).S),(Wf P k).2*(P (k+1)).S)) (hw1.fm hk) (by omega)
end
noncomputable abbrev rng(g:Nat->V)(n:Nat):List V:=(List.range n).map g
noncomputable abbrev gA(P:Nat->Pt)(i:Nat):V:=.node (fN (P i).F)
noncomputable abbrev gB(P:Nat->Pt)(i:Nat):V:=.int (P i).v
noncomputable abbrev gC(P:Nat->Pt)(i:Nat):V:=.int (P i).S
noncomputable abbrev gH(P:Nat->Pt)(i:Nat):V:=.node (fN (Wf P i))
theorem wD(g:Nat->V)(n:Nat):rng g n++[g n]=rng g (n+1):=by
 unfold rng;rw[List.range_succ,dQ];rfl
theorem yK(g:Nat->V)(n:Nat):(rng g n).length=n:=by unfold rng;rw[aT,List.length_range]
theorem j8{i:Nat}{cs:Cs}{g:Nat->V}{n k:Nat}{z:Int}(hv:view (.own i) cs=some (.lst (rng g n)))(hz:z=k)(hk:k<n)(hn:n<=5):eZ (.own i) (.int z) cs=some (g k):=by
 subst hz;unfold eZ;rw[hv];show(bif decide (0<=(k:Int))&&decide ((k:Int)<1000)then(rng g n)[(k:Int).toNat]? else none)=_;rw[aH (show 0<=(k:Int) by omega),aH (show(k:Int)<1000 by omega),Int.toNat_natCast]
 show(rng g n)[k]?=_;unfold rng;rw[List.getElem?_map,List.getElem?_range hk];rfl
def TOk(d:Nat)(L:List Int)(k:Nat)(P:Pt):Prop:=∃a0 a1 a2 a3 a4 a5:V,∀(t:Bool) (cnt:Int) (b0 b1 b2 b3 b4 b5 p:V) (A B C:List V) (vs:List (Str×Int)) (kr:V->Ev->Cs->O3) (kn:Ev->Cs->O3),
  A.length<=100->B.length<=100->C.length<=100->vs.length<=100->(∀q∈vs,¬Ae (118+k) q.1)->
  dR (wB d) l7 (eA cnt ((6,.int k)::tl t [(31,b0),(19,b1),(16,b2),(48,b3),(38,b4),(30,b5),(24,p)])) (C4 (L.map V.int) A B C (nZ vs)) kr kn=
   kn (eB cnt k a0 a1 a2 a3 a4 a5 [(24,.node (fN P.F))]) (C4 (L.map V.int) (A++[.node (fN P.F)]) (B++[.int P.v]) (C++[.int P.S]) (nZ (vs++P.kv)))
theorem parts{d:Nat}{L:List Int}(hL:L.length<=31)(hd:44<=d):∃P:Nat->Pt,∀k,k<5->Gd k (P k)/\TOk d L k (P k):=
 Classical.skolem (p:=λk P=>k<5->Gd k P/\TOk d L k P)|>.mp λk=>by
  by_cases hk:k<5
  ·refine Ip (turn (d:=d) hL hk hd) λP a0 a1 a2 a3 a4 a5 h1 h2=>?_;exact jE P (λ_=>⟨h1,a0,a1,a2,a3,a4,a5,h2⟩)
  ·exact jE ⟨([],0),0,0,0,[]⟩ (λz=>absurd z hk)
noncomputable abbrev Sp(L:List Int)(P:Nat->Pt)(n:Nat):Cs:=C4 (L.map V.int) (rng (gA P) n) (rng (gB P) n) (rng (gC P) n) (nZ (Cx P n))
section
variable{d:Nat}{L:List Int}{P:Nat->Pt}(hG:∀k,k<5->Gd k (P k))(hT:∀k,k<5->TOk d L k (P k))
include hG hT
theorem Ek{k:Nat}(hk:k<5):∃a0 a1 a2 a3 a4 a5:V,∀(t:Bool) (cnt:Int) (b0 b1 b2 b3 b4 b5 p:V) (kr:V->Ev->Cs->O3) (kn:Ev->Cs->O3),
  dR (wB d) l7 (eA cnt ((6,.int k)::tl t [(31,b0),(19,b1),(16,b2),(48,b3),(38,b4),(30,b5),(24,p)])) (Sp L P k) kr kn=kn (eB cnt k a0 a1 a2 a3 a4 a5 [(24,gA P k)]) (Sp L P (k+1)):=by
 refine B6 (hT k hk) λa0 a1 a2 a3 a4 a5 h=>?_;refine OA a0 a1 a2 a3 a4 a5 (λt cnt b0 b1 b2 b3 b4 b5 p kr kn=>?_);have hv:=Ei hG (n:=k) (by exact bD hk)
 rw[h t cnt b0 b1 b2 b3 b4 b5 p _ _ _ _ kr kn (by rw[yK];exact iO hk rfl) (by rw[yK];exact iO hk rfl) (by rw[yK];exact iO hk rfl) (by exact aR hv.2 (iO hk rfl)) (Oj hG hk)]
 unfold Sp;rw[<-wD (gA P),<-wD (gB P),<-wD (gC P)];rfl
theorem RL(cnt:Int):∀(m k:Nat),k+m<=5->∀(j:Int) (b0 b1 b2 b3 b4 b5 p:V),∃(j':Int) (a0 a1 a2 a3 a4 a5 q:V),
  gV (bJ (aB fi d) 39) [6] l7 (eK k m) (eB cnt j b0 b1 b2 b3 b4 b5 [(24,p)]) (Sp L P k)=some (none,eB cnt j' a0 a1 a2 a3 a4 a5 [(24,q)],Sp L P (k+m))
 |0,k,_,j,b0,b1,b2,b3,b4,b5,p=>⟨j,b0,b1,b2,b3,b4,b5,p,rfl⟩
 |m+1,k,hm,j,b0,b1,b2,b3,b4,b5,p=>by
  refine B6 (Ek hG hT (k:=k) (Lo hm)) λa0 a1 a2 a3 a4 a5 h=>?_;refine wE (RL cnt m (k+1) (Lp hm) k a0 a1 a2 a3 a4 a5 (gA P k)) λj' c0 c1 c2 c3 c4 c5 q e=>?_;refine AK j' c0 c1 c2 c3 c4 c5 q ?_;show gV (bJ (aB fi d) 39) [6] l7 (V.int k::eK ((k+1:Nat):Int) m) _ _=_;rw[A0 (env':=eA cnt ((6,.int k)::tl false [(31,b0),(19,b1),(16,b2),(48,b3),(38,b4),(30,b5),(24,p)])) rfl,h false cnt b0 b1 b2 b3 b4 b5 p,e,show k+1+m=k+(m+1) by exact Lq]
theorem Jy{n:Nat}(hn:n<5)(cnt:Int):∃(j:Int) (a0 a1 a2 a3 a4 a5 q:V),
  gV (bJ (aB fi d) 39) [6] l7 (eK 0 (n+1)) (eA cnt []) (C4 (L.map V.int) [] [] [] [])=some (none,eB cnt j a0 a1 a2 a3 a4 a5 [(24,q)],Sp L P (n+1)):=by
 refine B6 (Ek hG hT (k:=0) (Lr)) λa0 a1 a2 a3 a4 a5 h=>?_;refine wE (RL hG hT cnt n 1 (Ls hn) 0 a0 a1 a2 a3 a4 a5 (gA P 0)) λj' c0 c1 c2 c3 c4 c5 q e=>?_;refine AK j' c0 c1 c2 c3 c4 c5 q ?_;show gV (bJ (aB fi d) 39) [6] l7 (V.int ((0:Nat):Int)::eK ((1:Nat):Int) n) _ (Sp L P 0)=_;rw[A0 (env':=eA cnt ((6,.int ((0:Nat):Int))::tl true [(31,.none),(19,.none),(16,.none),(48,.none),(38,.none),(30,.none),(24,.none)])) rfl,h true cnt .none .none .none .none .none .none .none,show n+1=1+n by exact Lu]
 exact e
omit hT
noncomputable abbrev Sq(L:List Int)(P:Nat->Pt)(n:Nat)(z:Bool)(k:Nat):Cs:=C5 (L.map V.int) (rng (gA P) n) (rng (gB P) n) (rng (gC P) n) (nZ (Cx P n)) z (rng (gH P) k)
theorem RM{n:Nat}(hn:n<=5)(hd:41<=d)(c:Int)(a0 a1 a2 a3 a4 a5 p:V):∀(m k:Nat),k+1+m=n->∀j:Int,∃j':Int,
  gV (bJ (aB fi d) 39) [6] b12 (eK (k+1:Nat) m) (eC c j a0 a1 a2 a3 a4 a5 p (gH P k) (.int (F8 P k)) (.int (Ig P k)) (.int (Ih P k)) []) (Sq L P n false (k+1))=
   some (none,eC c j' a0 a1 a2 a3 a4 a5 p (gH P (k+m)) (.int (F8 P (k+m))) (.int (Ig P (k+m))) (.int (Ih P (k+m))) [],Sq L P n false (k+m+1))
 |0,k,_,j=>⟨j,rfl⟩
 |m+1,k,hm,j=>by
  obtain⟨j',e⟩:=RM hn hd c a0 a1 a2 a3 a4 a5 p m (k+1) (Lv hm) ((k+1:Nat):Int);refine jE j' ?_;have i1:eZ (.own 1) (.int (k+1:Nat)) (Sq L P n false (k+1))=some (gA P (k+1)):=j8 rfl rfl (yO hm) hn;have i2:eZ (.own 2) (.int (k+1:Nat)) (Sq L P n false (k+1))=some (gB P (k+1)):=j8 rfl rfl (yO hm) hn;have i3:eZ (.own 3) (.int (k+1:Nat)) (Sq L P n false (k+1))=some (gC P (k+1)):=j8 rfl rfl (yO hm) hn;refine A6 (fits hG (k:=k) (yP hn hm)) λf1 f2 f3=>?_;obtain⟨w1,w2⟩:=FB hG (k:=k) (yP hn hm);have nw:=ZU hG (d:=d) (k:=k) (yP hn hm) hd;show gV (bJ (aB fi d) 39) [6] b12 (V.int ((k+1:Nat):Int)::eK ((k+1+1:Nat):Int) m) _ _=_;rw[A0 (env':=eC c ((k+1:Nat):Int) a0 a1 a2 a3 a4 a5 p (gH P k) (.int (F8 P k)) (.int (Ig P k)) (.int (Ih P k)) []) rfl,turn2,i1,i2,i3];simp only[aF];rw[<-wY,bS (nw ..),bS (show cG (aB fi d) .Mult (.int (F8 P k)) (.int (P (k+1)).S)=_ from mI f1),xN,bS (show cG (aB fi d) .Mult (.int (Ig P k)) (.int (P (k+1)).S)=_ from mI f2),
   show jD (aB fi d) (gA P (k+1)) .min=some (.int (fN (P (k+1)).F).lo)from rfl,aF,xN,bS (show cG (aB fi d) .Mult (.int (Ih P k)) (.int (P (k+1)).S)=_ from mI f3),
   show jD (aB fi d) (gA P (k+1)) .max=some (.int (fN (P (k+1)).F).hi)from rfl,aF,xN,<-w1,<-w2,bS (app5 _ _ _ _ _ _ _ (by rw[yK];exact Lw hn hm) ..),cT (show g7 (V.none,C5 (L.map V.int) (rng (gA P) n) (rng (gB P) n) (rng (gC P) n) (nZ (Cx P n)) false (rng (gH P) (k+1)++[gH P (k+1)])).1=true from rfl),wD (gH P),
   show k+(m+1)=k+1+m by exact Lx]
  exact e
end
theorem C7(cf:cO)(x:Int):j4 cf .NotEq (.int x) (.int x)=some (.bool false):=
 (show _=some (V.bool (!decide (x=x)))from rfl).trans (by rw[aH rfl];rfl)
theorem ZV(sc A B C H:List V)(t:T)(D:List (Str×V))(z:Bool):eX [.node t,.own 4] (C5 sc A B C D z H)=some ([.node t,.dct D],C5 sc A B C D true H):=by induction z using Bool.casesOn<;>rfl
section
variable{d:Nat}{L:List Int}{P:Nat->Pt}(hP:∀k,k<5->Gd k (P k)){n:Nat}(hn:n<5)(hd:56<=d)
include hP hn hd
theorem apart{k b:Nat}(hb:b+(k+1)=n){st rc:Int}{R:List T}(h:Rs P n (k+1) st R rc)(t:Bool)(j:Int)(a0 a1 a2 a3 a4 a5 p x du le mo:V)(kr:V->Ev->Cs->O3)(kn:Ev->Cs->O3):
  dR (wB d) ZO (eC (n+1:Nat) j a0 a1 a2 a3 a4 a5 p (gH P n) du le mo ((18,.int st)::(39,.int b)::tl t [(34,x)])) (Sq L P (n+1) true (n+1)) kr kn=
   kn (eC (n+1:Nat) ((n+1:Nat)-1-b) a0 a1 a2 a3 a4 a5 p (gH P n) du le mo [(18,.int (st*(P (k+1)).S)),(39,.int b),(34,gH P (k+1))]) (Sq L P (n+1) true (n+1)):=by
 have hi:((n+1:Nat):Int)-1-b=(k+1:Nat):=by exact Ly hb
 have i1:eZ (.own 1) (.int ((n+1:Nat)-1-b)) (Sq L P (n+1) true (n+1))=some (gA P (k+1)):=j8 rfl hi (sO hb) (sP hn hb)
 have i2:eZ (.own 2) (.int ((n+1:Nat)-1-b)) (Sq L P (n+1) true (n+1))=some (gB P (k+1)):=j8 rfl hi (sO hb) (sP hn hb)
 have i3:eZ (.own 3) (.int ((n+1:Nat)-1-b)) (Sq L P (n+1) true (n+1))=some (gC P (k+1)):=j8 rfl hi (sO hb) (sP hn hb)
 have i5:eZ (.own 5) (.int ((n+1:Nat)-1-b)) (Sq L P (n+1) true (n+1))=some (gH P (k+1)):=j8 rfl hi (sO hb) (sP hn hb)
 have hs:=(Cz hP hn h).sb
 have hp:=kE (a:=2) (by decide) (show 130*(n-k)<1900 by omega)
 have hm:cG (aB fi d) .Mult (.int st) (.int (P (k+1)).S)=_:=mI (g9 (by exact aP hs hp))
 conv=>lhs;rw[turn3,oU,bS (Bz hP hn h hd ..),bS (i5 ..)]
 unfold QF
 conv=>lhs;rw[Eh hP hn (yQ hb) (by exact bT hd rfl),aF,fU,aF,gS,g4,bV,i3,aF,GR,Jx hP hn (yQ hb) hd,aF,i1,aF,QI hP hn (yQ hb) (by exact bT hd rfl),aF,fU,aF,gS,g4,bV,aF,
  ZV,aF,Ok hP (sP hn hb) (sO hb) (by exact bT hd rfl),aF,i2,aF,C7,aF,fU,aF,bG,i3,aF,hm,aF]
theorem RN(a0 a1 a2 a3 a4 a5 p du le mo:V):∀(m b:Nat),b+m=n->∀(j st rc ba:Int) (R:List T) (x:V),Rs P n m st R rc->∃(j' st' ba' rc':Int) (R':List T) (x':V),Rs P n 0 st' R' rc'/\
  gV (bJ (aB fi d) 39) [39] ZO (eK b m) (eC (n+1:Nat) j a0 a1 a2 a3 a4 a5 p (gH P n) du le mo [(18,.int st),(39,.int ba),(34,x)]) (Sq L P (n+1) true (n+1))=
   some (none,eC (n+1:Nat) j' a0 a1 a2 a3 a4 a5 p (gH P n) du le mo [(18,.int st'),(39,.int ba'),(34,x')],Sq L P (n+1) true (n+1))
 |0,b,_,j,st,rc,ba,R,x,h=>⟨j,st,ba,rc,R,x,h,rfl⟩
 |k+1,b,hb,j,st,rc,ba,R,x,h=>by
  refine yM (RN a0 a1 a2 a3 a4 a5 p du le mo k (b+1) (Lz hb) ((n+1:Nat)-1-b) _ _ b _ (gH P (k+1)) (Cz hP hn h)) λj' st' ba' rc' R' x' h' e=>?_;refine Dl j' st' ba' rc' R' x' h' ?_;show gV (bJ (aB fi d) 39) [39] ZO (V.int b::eK ((b+1:Nat):Int) k) _ _=_;rw[A0 (env':=eC (n+1:Nat) j a0 a1 a2 a3 a4 a5 p (gH P n) du le mo ((18,.int st)::(39,.int b)::tl false [(34,x)])) rfl,apart hP hn hd hb h,e]
theorem Jz(hn1:1<=n)(j:Int)(a0 a1 a2 a3 a4 a5 p du le mo:V):∃(j' st' ba' rc':Int) (R':List T) (x':V),Rs P n 0 st' R' rc'/\
  gV (bJ (aB fi d) 39) [39] ZO (eK 0 n) (eC (n+1:Nat) j a0 a1 a2 a3 a4 a5 p (gH P n) du le mo [(18,.int 1)]) (Sq L P (n+1) true (n+1))=
   some (none,eC (n+1:Nat) j' a0 a1 a2 a3 a4 a5 p (gH P n) du le mo [(18,.int st'),(39,.int ba'),(34,x')],Sq L P (n+1) true (n+1)):=by
 obtain⟨k,rfl,_⟩:=up (K:=0) hn1;have h:=ZR hP hn;refine yM (RN (L:=L) hP hn hd a0 a1 a2 a3 a4 a5 p du le mo k 1 (De) ((k+1+1:Nat)-1-(0:Nat)) _ _ ((0:Nat):Int) _ (gH P (k+1)) (Cz hP hn h)) λj' st' ba' rc' R' x' h' e=>?_;refine Dl j' st' ba' rc' R' x' h' ?_;show gV (bJ (aB fi d) 39) [39] ZO (V.int ((0:Nat):Int)::eK ((1:Nat):Int) k) _ _=_;rw[A0 (env':=eC (k+1+1:Nat) j a0 a1 a2 a3 a4 a5 p (gH P (k+1)) du le mo ((18,.int 1)::(39,.int (0:Nat))::tl true [(34,.none)])) rfl,apart hP hn hd (L0) h,e]
theorem QJ(hn1:1<=n)(j:Int)(a0 a1 a2 a3 a4 a5 p:V):B7 d 13 (eC (n+1:Nat) j a0 a1 a2 a3 a4 a5 p (gH P n) (.int (F8 P n)) (.int (Ig P n)) (.int (Ih P n)) []) (Sq L P (n+1) false (n+1))=some (.bool true):=by
 refine yM (Jz (L:=L) hP hn hd hn1 j a0 a1 a2 a3 a4 a5 p (.int (F8 P n)) (.int (Ig P n)) (.int (Ih P n))) λj' st' ba' rc' R' x' h' e=>?_;have i2:eZ (.own 2) (.int 0) (Sq L P (n+1) true (n+1))=some (gB P 0):=j8 rfl rfl (by exact aZ (bT hn1 rfl) (eT _ _)) (yR hn hn1)
 have i5:eZ (.own 5) (.int 0) (Sq L P (n+1) true (n+1))=some (gH P 0):=j8 rfl rfl (by exact aZ (bT hn1 rfl) (eT _ _)) (yR hn hn1)
 rw[law13];unfold QE;conv=>lhs;rw[bS (C7 ..),bS (fU ..),g4,bV,bS (C7 ..),bS (fU ..),g4,bV,bS (ZV ..),bS (B1 hP (yR hn hn1) (by exact fL _) (by exact bT hd rfl) ..),bS (C7 ..),bS (fU ..),g4,bV,
  law14,show l9 [.int ((n+1:Nat)-1)]=some (eK 0 n) by
   show(bif decide (-1000<((n+1:Nat):Int)-1)&&decide (((n+1:Nat):Int)-1<1000)then some (eK 0 (((n+1:Nat):Int)-1).toNat)else none)=_;rw[aH (by omega),aH (by omega),show(((n+1:Nat):Int)-1).toNat=n by omega];rfl,aF,e]
 show B7 d 16 _ _=_;conv=>lhs;rw[law16,oU,Bz hP hn h' hd,aF,i5,aF,Eh hP hn (by exact bT hn1 rfl) (by exact bT hd rfl),aF,fU,aF,bV,aF,ZV,aF,B1 hP (by omega) (by exact aZ (bT hn1 rfl) (eT _ _)) (by exact bT hd rfl),aF,i2,aF,
  mG,aF,aH (show F8 P 0=(P 0).v from rfl)]
 rfl
end
theorem bmod4(d:Nat)(x:Int):cG (aB fi d) .Mod (.int x) (.int 4)=some (.int (Int.fmod x 4)):=by
 show eY .Mod x 4=_;exact jU (by decide) (by decide+kernel)
theorem Ol(is:List Int)(h:is.length<=63):aB fi 60 687 [.lst (is.map V.int)] []=some (.bool true):=by
 have hL:(is.take 31).length<=31:=by rw[List.length_take];exact L8 h
 obtain⟨P,hPT⟩:=parts (d:=59) hL (by decide)
 have hP:=λk hk=>(hPT k hk).1;obtain⟨x,ex⟩:=RH 58 hL (k:=0) (by decide) (by decide)
 have m0:=eE x (show(4:Int)≠0 by decide)
 have m1:=dW x (show(0:Int)<4 by decide)
 have me:=aS x (show(0:Int)<=4 by decide)
 obtain⟨n,hn⟩:∃n:Nat,1+Int.fmod x 4=n:=⟨(1+Int.fmod x 4).toNat,L9 m0 me⟩;have hn5:n<5:=by exact yS m0 me hn
 have hr:l9 [.int (n+1:Nat)]=some (eK 0 (n+1)):=by
  show(bif decide (-1000<((n+1:Nat):Int))&&decide (((n+1:Nat):Int)<1000)then some (eK 0 ((n+1:Nat):Int).toNat)else none)=_;rw[aH (LA m0 me hn),aH (LB m0 me hn),Int.toNat_natCast];rfl
 have hr2:l9 [.int 1,.int (n+1:Nat)]=some (eK 1 n):=by
  show(bif decide ((0:Int)<=1)&&decide ((1:Int)<1000)&&decide (-1000<((n+1:Nat):Int))&&decide (((n+1:Nat):Int)<1000)then some (eK 1 (((n+1:Nat):Int)-1).toNat)else none)=_;rw[aH (show(-1000:Int)<((n+1:Nat):Int) by omega),aH (show((n+1:Nat):Int)<1000 by omega),show(((n+1:Nat):Int)-1).toNat=n by omega];rfl
 refine wE (Jy hP (λk hk=>(hPT k hk).2) hn5 (n+1:Nat)) λj a0 a1 a2 a3 a4 a5 q e1=>?_;obtain⟨j2,e2⟩:=RM (L:=is.take 31) hP (n:=n+1) (d:=59) (yT m0 me hn) (by decide) (n+1:Nat) a0 a1 a2 a3 a4 a5 q n 0 (LC) j
 have i1:eZ (.own 1) (.int 0) (Sp (is.take 31) P (n+1))=some (gA P 0):=j8 rfl rfl (Di m0 me hn) (yT m0 me hn);have i2:eZ (.own 2) (.int 0) (Sp (is.take 31) P (n+1))=some (gB P 0):=j8 rfl rfl (Di m0 me hn) (yT m0 me hn);conv=>lhs;rw[law0,aT,bS (cT (aV (by omega) ..) ..),<-List.map_take,law1,bS (ex ..),bS (bmod4 ..),
  show cG (aB fi 59) .Add (.int 2) (.int (Int.fmod x 4))=some (.int (2+Int.fmod x 4))from rfl,aF,show 2+Int.fmod x 4=((n+1:Nat):Int) by omega,bS (hr ..),e1]
 show B7 59 7 _ (Sp (is.take 31) P (n+1))=_;conv=>lhs;rw[law7,i1,aF,i2,aF,aF,show jD (aB fi 59) (gA P 0) .min=some (.int (Ig P 0))from rfl,aF,aF,show jD (aB fi 59) (gA P 0) .max=some (.int (Ih P 0))from rfl,aF,
  show eX [gA P 0] (Sp (is.take 31) P (n+1))=some ([gA P 0],Sp (is.take 31) P (n+1))from rfl,aF]
 show B7 59 12 (eC (n+1:Nat) j a0 a1 a2 a3 a4 a5 q (gH P 0) (.int (F8 P 0)) (.int (Ig P 0)) (.int (Ih P 0)) []) (Sq (is.take 31) P (n+1) false 1)=_;rw[law12,bS (hr2 ..)];show nO (gV (bJ (aB fi 59) 39) [6] b12 (eK (0+1:Nat) n) (eC (n+1:Nat) j a0 a1 a2 a3 a4 a5 q (gH P 0) (.int (F8 P 0)) (.int (Ig P 0)) (.int (Ih P 0)) []) (Sq (is.take 31) P (n+1) false (0+1))) _ _=_;rw[e2,show 0+n=n by exact LD]
 exact QJ hP hn5 (by decide) (LE m0 me hn) j2 a0 a1 a2 a3 a4 a5 q
set_option tactic.hygienic true
def kVal(w:World):List (Option Obj):=(Kf w.params).map λp=>some p.2
theorem ZW(P:Params):kAs=(Kf P).map (·.1):=by kernel_rfl!
theorem ZX(P:Params):nsIn (Kf P) mainGlobals "law"=some (some (.ref 687)):=by kernel_rfl!
theorem QK{γ:Gh}:∀{vs:List Value} {is:List Int},IntsAre vs is->AllR (VR γ []) (is.map V.int) vs:=by
 intro vs is h;induction h with
 |nil=>exact .nil
 |cons n t h ih=>exact .cons (.int n t) ih
theorem law_of:PySem.Challenge.rw_iv0066_01.Holds:=by
 w_on
 refine holds_law XM λXM=>?_;refine PySem.W.holds_open (q:=qv) (loose:=loose) (Xt:=λ_=>true) (XP:=λ_ _=>True) (Yf:=λs=>kAs.map s.heap.get?) (Ya:=kVal) (YP:=λw h=>(Kf w.params).In h) (N:=10452)
  left (λw s e=>Frag.in_of (ZW w.params) e) (λw h h' x k=>x.keeps k) (λ_ _=>trivial) (λ_ _ _ _ _=>trivial) (by rfl) (by rfl) (by rfl) (λs _=>?hrf) (by first|rfl) XM (by decide+kernel) ⟨rfl,rfl,rfl,rfl,rfl,by decide+kernel⟩ ?hw ?hc
 case hrf=>exact recFacts_of (R:=[]) rfl
 case hw=>w_witness2
 case hc=>
  intro w s₀ bZ mg mb G Y fa o pm cd doc dV kV ho hd hcd hD hmg hg args vals as hpre hlay hrd hwl hlo;refine Ground.open G ?_;intro T B D TE TW;obtain⟨_,_,M⟩:=bmod_of_top T;clear ho hd hcd hD
  wrow_args hpre hlay hrd hwl hlo
  rename_i is _ _ _ _ _ _ _ a vs _ hL _ _ _ hI _ hn _;have hT:=topRead_of T;have hfa:fa=687:=by
   have:=hmg.symm.trans (mg_of Y hT.g (ZX w.params));cases this;rfl
  refine aD (Zb (is:=is) ⟨Y,_,_,_,_,hT⟩ hfa hL (QK hI) (Ol is (by have:¬(63:Int)<is.length:=hn;omega))) (λv s' z=>?_) λ_ _ z=>z.elim
  obtain⟨rfl,z1,z2,z3⟩:=z;exact⟨.inl ⟨_,_,[],rfl,raisesW_false (by wrow_none_raised),.bool true,by wrow_post,unshared_nil⟩,.of_keep z1,z3,.of_eq (z2.trans hg)⟩
end
end Mine
theorem PySem.Challenge.cw_iv0066_01_holds : PySem.Challenge.rw_iv0066_01.Holds :=
  Mine.law_of
