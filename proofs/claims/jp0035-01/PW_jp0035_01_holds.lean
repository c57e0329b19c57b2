import PyProof.Rows.All
import Wide.All
import OpenK.AllK
import Wide.FinOn
import Lean
import PySem.Challenge.RW_jp0035_01
set_option Elab.async false
set_option maxRecDepth 100000
set_option maxHeartbeats 4000000
set_option linter.all false
set_option genSizeOf false
set_option genInjectivity false
set_option bootstrap.genMatcherCode false
set_option tactic.hygienic false
open PySem PySem.W PySem.Calls PyProof.Rows
namespace Mine
def aad:=@List.mem_append_right
def aae:=@Nat.le_of_ble_eq_true
def aaf:=@Nat.le_trans
def aag:=@List.mem_append
def aah:=@List.mem_append_left
def aai:=@List.length_map
def aaj:=@of_decide_eq_true
def aak:=@List.getElem?_eq_getElem
def aal:=@wpAny_bind
def aam:=@List.mem_singleton
def aan:=@List.mem_map
def aao:=@Nat.lt_of_lt_of_le
def aap:=@List.mem_cons
def aaq:=@Nat.le_refl
def aar:=@List.map_map
def aas:=@wpAny_execs_cons
def aat:=@wpAny_pure
def aau:=@Nat.add_le_add_left
def aav:=@List.getElem?_map
def aaw:=@Nat.not_lt
def aax:=@Option.some.inj
def aay:=@Nat.le_add_right
def aaz:=@List.map_congr_left
def aaA:=@Int.fmod_eq_emod_of_nonneg
def aaB:=@Heap.lt_size
def aaC:=@Nat.lt_of_le_of_lt
def aaD:=@if_neg
def aaE:=@List.getElem_mem
def aaF:=@List.lookup_cons
def aaG:=@List.mem_filter
def aaH:=@decide_eq_false
def aaI:=@Heap.size_push
def aaJ:=@congrArg
def aaK:=@decide_eq_true
def aaL:=@Nat.add_le_add_right
def aaM:=@List.forall_mem_map
def aaN:=@if_pos
def aaO:=@Nat.le_of_lt
def aaP:=@PySem.F.excRaise_TypeError
def aaQ:=@wpAny_mono
def aaR:=@PySem.F.excCall_TypeError
def aaS:=@Nat.lt_succ_self
def aaT:=@seg_bind_wrap
def aaU:=@List.append_nil
def aaV:=@Int.toNat_natCast
def aaW:=@Heap.get?_push_of_some
def aaX:=@List.length_append
def aaY:=@wpAny_standAt
def aaZ:=@List.length_zip
def aa0:=@Nat.le_succ
def aa1:=@Nat.le_of_eq
def aa2:=@List.map_append
def aa3:=@beq_iff_eq
def aa4:=@Heap.get?_push_size
def aa5:=@Nat.lt_succ_of_lt
def aa6:=@List.length_range
def aa7:=@List.mem_range
def aa8:=@Nat.lt_irrefl
def aa9:=@Int.natCast_nonneg
def aa_:=@Option.isSome_iff_exists
def aa':=@Int.ofNat_lt
def aba:=@List.replicate_zero
def abb:=@Nat.ne_of_lt
def abc:=@Nat.add_le_add
def abd:=@Bool.eq_iff_iff
def abe:=@Nat.mul_le_mul_left
def abf:=@PySem.F.excRaise_ValueError
def abg:=@Int.fdiv_eq_ediv_of_nonneg
def abh:=@PySem.F.excCall_ValueError
def abi:=@List.length_set
def abj:=@Nat.add_comm
def abk:=@Int.fmod_nonneg_of_pos
def abl:=@PyProof.noPylong_small
def abm:=@codeAny_mono
def abn:=@Int.natAbs_lt_natAbs_of_nonneg_of_lt
def abo:=@Nat.le_of_succ_le
def abp:=@Nat.lt_trans
def abq:=@List.all_eq_true
def abr:=@List.length_cons
def abt:=@Nat.sub_self
def abu:=@decide_eq_true_eq
def abv:=@wpAny_execs_nil
def abw:=@Ne.symm
def abx:=@List.getElem?_eq_some_iff
def aby:=@Int.fmod_lt_of_pos
def abz:=@decide_eq_decide
def abA:=@Int.ofNat_inj
def abB:=@Nat.ne_of_gt
def abC:=@Nat.add_assoc
def abD:=@wpAny_assignInOrder_more
def abE:=@Int.mul_le_mul_of_nonneg_left
def abF:=@Bool.and_eq_true_iff
def abG:=@List.mem_map_of_mem
def abH:=@Sem.onRaise_eq_wrap
def abI:=@Int.le_trans
def abJ:=@Int.ofNat_le
def abK:=@Int.pow_succ
def abL:=@wpAny_holding
def abM:=@Nat.add_right_comm
def abN:=@Nat.sub_add_cancel
def abO:=@Int.lt_of_lt_of_le
def abP:=@Array.getElem?_eq_some_iff
def abQ:=@Int.add_mul_emod_self_left
def abR:=@wpAny_rule
def abS:=@Nat.le_of_lt_succ
def abT:=@List.forall_mem_cons
def abU:=@List.append_assoc
def abV:=@Int.emod_eq_of_lt
def abW:=@Nat.pow_le_pow_right
def abX:=@wpAny_Return_some
def abY:=@Heap.Ns.at
def abZ:=@List.getElem?_range
def ab0:=@List.drop_zero
def ab1:=@List.mem_reverse
def ab2:=@Int.le_of_lt
def ab3:=@PySem.F.plain_sum_loop
def ab4:=@List.length_eq_one_iff
def ab5:=@List.nodup_cons
def ab6:=@List.foldl_cons
def ab7:=@congrFun
def ab8:=@List.map_cons
def ab9:=@Heap.get?_update_self
def ab_:=@wpAny_Assign_Name
def ab':=@wpAny_truthy_bool
def acd:=@Bool.and_eq_true
def ace:=@List.any_eq_true
def acf:=@wpAny_items_cons
def acg:=@look_both
abbrev ach:=Value->Shared->Prop
abbrev aci:=List (Str×Value)
abbrev ack:=List (List Int)
abbrev acm:=List DictEntry
abbrev acn:=Option Addr
abbrev aco:=Array Value
abbrev acp:=List Value
abbrev acq:=List Addr
abbrev acr:=List Stmt
abbrev acs:=List Expr
abbrev acu:=List Int
abbrev acv:=List Str
theorem J{α:Sort _}{a:α}:a=a:=rfl
local macro_rules | `(tactic| omega) => `(tactic| first
  |with_reducible assumption
  |with_reducible exact Nat.zero_le _
  |with_reducible exact Nat.le_refl _
  |with_reducible exact Int.natCast_nonneg _
  |with_reducible exact Int.zero_add _
  |exact Nat.le_trans (by with_reducible assumption) (Nat.le_of_ble_eq_true rfl)
  |exact Nat.lt_of_lt_of_le (by with_reducible assumption) (by with_reducible assumption)
  |exact Nat.le_of_lt (by with_reducible assumption)
  |exact Nat.lt_of_le_of_lt (by with_reducible assumption) (by with_reducible assumption)
  |fail)
section
set_option tactic.hygienic true
theorem nb{p:Prop}(h:(p->False)->False):p:=Classical.byContradiction h
@[elab_as_elim] theorem rl {α:Sort _} {P:α->Prop} {a b:α} (h:a=b) (x:P b):P a:=h▸x
@[elab_as_elim] theorem rs {α:Sort _} {P:α->Prop} {a b:α} (h:b=a) (x:P b):P a:=h▸x
open PySem
variable{x0 x1 x2 x3 x4 x5 x6:Nat}{y0 y1 y2 y3 y4:Int}
theorem a0:x0=x1->x2<x0->x2<x1:=by intros;expose_names;exact Nat.lt_of_lt_of_eq h_1 h
theorem a1:0<x0->0<(↑x0:Int):=by intros;expose_names;exact Int.natCast_pos.mpr h
theorem a2:x0<=100/\x1<=100->x2<x1->x2<1000:=by rintro⟨h1,h2⟩ h3;exact aao h3 (aaf h2 (aae J))
theorem a3:x0<=1000->x1=x0->x1<=1000:=by intros;subst_vars;assumption
theorem a4:1<y0->y0≠0:=by grind
theorem a5:0<y0->0<=y0:=by intros;exact ab2 ‹_›
theorem a6:x0<=100/\x1<=100->x2<x0->x2<1000:=by intros;expose_names;exact a2 (id (And.symm h)) h_1
theorem a7:1<y0->0<y0:=by intros;exact ab2 ‹_›
theorem a8:x0=x1->x2=x1->min x0 x2=x1:=by intros;subst_vars;exact Nat.min_self _
theorem a9:x0+3<=x0+9:=by intros;exact aau (aae J) _
theorem uP:x0<1000->(↑x0:Int)<2^63:=by intros;rename_i h;exact aa'.mpr (aao h (aae J))
theorem xH:x0+2+1<=x0+10:=by intros;simp_all
theorem Bc:x0+11<=x0+16:=by intros;exact aau (aae J) _
theorem zO:x0+5<=x0+16:=by intros;exact aau (aae J) _
theorem v5:∀{x0:Int}{x1:Nat},0<=x0/\x0<(↑x1:Int)->Int.toNat x0<x1:=by intros;simp_all
theorem zP:¬x0=0->x0/2<x0:=by intros;expose_names;exact Nat.bitwise_rec_lemma h
theorem zQ:0<y0->y0≠0:=by intros;exact Int.ne_of_gt ‹_›
theorem zJ:0<x0->(↑x0:Int)≠0:=by intros;expose_names;exact Int.natCast_ne_zero_iff_pos.mpr h
theorem MG:x0+(x1+1)<=100->x0+(0+1)+x1<=100:=by intros;lia
theorem Sm:x0+40*(x1+1)+40<x2->x0+1+min 0 x3<x2:=by intros;apply aaC ?_ ‹_›;simp +arith
theorem MH:x0<=100/\x1<=100->x0<=1000:=by rintro⟨h1,h2⟩;exact aaf h1 (aae J)
theorem OQ:x0<=100/\x1<=100->x1<=1000:=by intros;expose_names;exact MH (id (And.symm h))
theorem Jj:x0+2+1<=x0+11:=by intros;simp_all
theorem S6:x0+10<=x0+16:=by intros;exact a9
theorem Sn:x0+2+1<=x0+16:=by intros;simp_all
theorem Pc:x0+12<=x0+16:=by intros;exact aau (aae J) _
theorem Et:x0+3<=x0+16:=by intros;exact Sn
theorem OR:1<=x0/\x0<=4->x0<=1000:=by rintro⟨h1,h2⟩;exact aaf h2 (aae J)
theorem S7:x0=x1->x2<x1->x2<x0:=by intros;subst_vars;assumption
theorem YR:x0+5*(x1+1)+5<x2->x0+1+5*x1+5<x2:=by intros;apply aaC ?_ ‹_›;simp +arith
theorem Z4:x0+40*(x1+1)+40<x2->x0+3+40*x1+40<x2:=by intros;apply aaC ?_ ‹_›;simp +arith
theorem So:¬(↑x0:Int)<0:=by intros;expose_names;exact Int.not_ofNat_neg x0
theorem a32:x0<=1000->min x0 x1<=1000:=λh=>aaf (Nat.min_le_left _ _) h
theorem S8:x0=x1->0<x1->0<x0:=by intros;subst_vars;assumption
theorem Pd:x0+10<=x0+11:=by intros;expose_names;exact aa0 (x0+10)
theorem YS:x0<1000->x0/2<1000:=by intros;expose_names;exact Nat.div_lt_of_lt h
theorem Sp:x0<x1->x2=x1->x0<x2:=by intros;exact aao ‹_› (aa1 (Eq.symm ‹_›))
theorem Sq:x0+7<=x0+10:=by intros;exact aau (aae J) _
theorem Pe:x0<=30/\x1<=30->x2<x0->x2<1000:=by rintro⟨h1,h2⟩ h3;exact aao h3 (aaf h1 (aae J))
theorem Ss:x0<=30/\x1<=30->x2<x1->x2<1000:=by intros;expose_names;exact Pe (id (And.symm h)) h_1
theorem Su:x0=x1/\x2=x3->x4<x0->x4<x1:=by intros;simp_all
theorem Sv:x0=x1/\x2=x3->x4<x2->x4<x3:=by intros;simp_all
theorem YT:x0+7<=x0+16:=by intros;exact aau (aae J) _
theorem YU:x0+15<=x0+16:=by intros;exact Pd
theorem Sw:x0+6<=x0+16:=by intros;exact aau (aae J) _
theorem YV:x0<x1->x1<=500->(↑x0:Int)<2^63:=by intros;rename_i h g;exact aa'.mpr (aao h (aaf g (aae J)))
theorem YW:x0<=30->x1<x0->x1<1000:=by intros;exact aaf (aaf ‹_› ‹_›) (aae J)
theorem Sx:1+x0%2<=2:=abj 1 _▸Nat.mod_lt x0 (by decide)
theorem Sy:0<1+x0/2:=by intros;expose_names;exact Nat.pos_of_neZero (1+x0/2)
theorem S9:x0+40*(x1+1)+40<x2->x0+64<x2:=by intros;apply aaC ?_ ‹_›;simp +arith
theorem Sz:0<x0->x0=0->False:=by intros;subst_vars;exact aa8 _ ‹_›
theorem S_:(↑x0:Int)=(↑x1:Int)↔x0=x1:=by intros;exact abA
theorem Tc:0<x0->x1=x0->0<x1:=by intros;expose_names;exact S8 h_1 h
theorem Td:x0+x1<=100->x0<=100:=by intros;expose_names;exact Nat.le_of_add_right_le h
theorem Te:0<1+x0%2:=by intros;expose_names;exact Nat.pos_of_neZero (1+x0%2)
theorem Tf:0<x0->x0-1<x0:=by intros;expose_names;exact Nat.sub_one_lt_of_lt h
theorem Tg:x0=x1->x2=x1->x2=x0:=by intros;subst_vars;rfl
theorem Th:0<y0->3329*8380417*y0≠0:=by grind
theorem YX:0<=y0->¬y0<0:=by intros;expose_names;exact Int.not_lt_of_ge h
theorem YY:x0<=100->x1<=x0->x1<=1000:=by intros;exact aaf (aaf ‹_› ‹_›) (aae J)
theorem YZ : -2^40<=y0->-2^42<=y0:=by intros;lia
theorem Y0:y0<=2^40->y0<=2^42:=by intros;exact abI ‹_› (by decide)
theorem Y3:x0<=x1->x2=x1->x2<x0->False:=by intros;lia
theorem Y4:x0+3<=x1->x0+1+1<=x1:=by intros;expose_names;exact abo h
theorem Z5:x0+1+x1=x0+x1+1:=by intros;expose_names;exact abM x0 1 x1
theorem Z6:x0-1-(x1+x2)=x0-(x1+x2+1)+0:=by grind
theorem Z7:x0+x1+1<=x2->x2-(x0+x1)=x2-(x0+x1+1)+1:=λh=>by exact rl (Nat.sub_add_eq x2 (x0+x1) 1) (rl (abN (Nat.le_sub_of_add_le (abj 1 _▸h))) J)
theorem Y5:x0+x1+1<=x2->x0+x1<=x2:=by intros;expose_names;exact abo h
theorem Y6:x0-(x1+1)+0=x0-1-(x1+1-1):=by grind
theorem Y7:x0+1<=x1->x1-x0=x1-(x0+1)+1:=λh=>by exact rl (Nat.sub_add_eq ..) (rl (abN (Nat.le_sub_of_add_le (abj 1 _▸h))) J)
theorem Y8:x0+1<=x1->x0<=x1:=by intros;expose_names;exact abo h
theorem Y9:∀{x0:Int}{x1 x2:Nat},x0<(↑x1:Int)->x2=x1->x0<(↑x2:Int):=by intros;subst_vars;assumption
theorem Y_:x0<=1000->x1=x0->x1<=2^24:=by intros;subst_vars;exact aaf ‹_› (aae J)
theorem Za:x0<=1000->(↑x0:Int)<2^63:=by intros;rename_i h;exact aa'.mpr (aaC h (aae J))
theorem Z8:x0<=1000->x1<=x0->x1<=1000:=by intros;exact aaf ‹_› ‹_›
theorem Z9:x0<=x1->(↑x1:Int)>=(↑x0:Int):=by intros;exact abJ.mpr ‹_›
theorem Z_:x0<x1->¬(↑x1:Int)<(↑x0:Int):=by intros;exact Int.not_lt.mpr (ab2 (aa'.mpr ‹_›))
theorem a86:x0<x1->(↑x0:Int)<(↑x1:Int):=by intros;exact aa'.mpr ‹_›
theorem a87:Int.toNat ((↑x0:Int)-(↑x1:Int)-0)=x0-x1:=by intros;simp_all
theorem a88:x0<=1000->(↑x0:Int)-(↑x1:Int)<=2^40:=λh=>abI (Int.sub_le_self _ (aa9 _)) (abJ.mpr (aaf h (aae J)))
theorem a89:x0<x1->-2^40<=(↑x1:Int)-(↑x0:Int):=by intros;lia
theorem a90:x0<=1000->x0<=1000+x1:=by intros;expose_names;exact Nat.le_add_right_of_le h
theorem a91:x0<=1000->x1<x0->x1+(x0-x1)<=1000:=by grind
theorem a92:x0>=x1->x1-x0=0:=by intros;exact Nat.sub_eq_zero_of_le ‹_›
theorem Zb:x0<=x1->¬(↑x1:Int)<(↑x0:Int):=by intros;exact Int.not_lt.mpr (abJ.mpr ‹_›)
theorem a94:x0>=x1->¬(↑x0:Int)<(↑x1:Int):=by intros;expose_names;exact Zb h
theorem Zc:x0<x1->x1<=1000->(↑x0:Int)<2^63:=by intros;rename_i h g;exact aa'.mpr (aao h (aaf g (aae J)))
theorem a96:x0+1<=x0+9:=by intros;exact aau (aae J) _
theorem a97:x0+9<=x0+11:=by intros;exact aau (aae J) _
theorem a98:0<x0->x0≠0:=by intros;exact abB ‹_›
theorem Zd:1<=x0->x0-1+1=x0:=by intros;exact abN ‹_›
theorem Ti:(↑x0:Int)%2=(↑(x0%2):Int):=by intros;exact J
theorem Tj:(↑x0:Int)/2=(↑(x0/2):Int):=by intros;exact J
theorem Tn:¬x0%2=1->x0%2=0:=by intros;expose_names;exact Nat.mod_two_ne_one.mp h
theorem Pg:x0+7<=x0+14:=by intros;exact xH
theorem Jk:x0+2+1<=x0+7:=by intros;simp_all
theorem Ph:x0≠x1->¬(↑x0:Int)=(↑x1:Int):=by intros;expose_names;exact Nat.ToInt.of_diseq J J h
theorem Pj:x0+8<=x0+16:=by intros;exact Jj
theorem To:∀{x0:Int}{x1:Nat},x0=(↑(x1/3%2):Int)->0<=x0:=λh=>h▸aa9 _
theorem Tp:∀{x0:Int}{x1:Nat},x0=(↑(x1/3%2):Int)->x0<2^63:=λ{x0 x1} h=>h▸aa'.mpr (abp (Nat.mod_lt _ (by decide)) (aae J))
theorem Pk:x0+x1<=100->x1=x2+1->x0+(0+1)+x2<=100:=λh e=>by exact rl (abC ..) (rl (abj (0+1) ..) ((e▸h)))
theorem Pn:1<y0->(↑(Int.natAbs y0):Int)=y0:=λh=>Int.natAbs_of_nonneg (ab2 (Int.lt_trans (by decide) h))
theorem Po:1<y0->0<=y0:=by intros;lia
theorem Pp:x0+(x1+1)<=100->x0+x1<=100:=by intros;expose_names;exact Y5 h
theorem Pr:x0+(x1+1)<=100->x0<=1000:=by grind
theorem Pu:¬x0<=x1->x1<=x0:=by intros;expose_names;exact Nat.le_of_not_ge h
theorem Pw:Int.toNat (2304*(↑x0:Int))=2304*x0:=by intros;exact J
theorem Px:0<=2304*(↑x0:Int):=by intros;expose_names;exact Int.zero_le_ofNat (2304*x0)
theorem Py:1+x0%2<=100:=aaf (abj 1 _▸Nat.mod_lt x0 (by decide):1+x0%2<=2) (aae J)
theorem Pz:x0=x1->x0<=x1:=by intros;expose_names;exact aa1 h
theorem PB:x0<=4->x1=x0->x1<=1000:=by intros;subst_vars;exact aaf ‹_› (aae J)
theorem PC:1<=x0/\x0<=4->0<x0:=by rintro⟨h1,h2⟩;exact h1
theorem MI:x0=x1->x1<=100->x0<=100:=by intros;expose_names;exact le_of_eq_of_le h h_1
theorem PD:x0<=100->x1=x0->x1<=100:=by intros;expose_names;exact MI h_1 h
theorem PE:0<x0->x1=x0->0<(↑x1:Int):=by intros;subst_vars;exact aa'.mpr ‹_›
theorem PF:∀{x0 x1 x2:Nat}{x3:Int},x0=x1->x2=x1->0<=x3/\x3<(↑x2:Int)->Int.toNat x3<x0:=by intros;simp_all
theorem PG:x0%2=1->x0=Nat.succ (2*(x0/2)):=λh=>by have:=Nat.div_add_mod x0 2;rw[h] at this;exact this.symm
theorem PI:¬x0%2=1->2*(x0/2)=x0:=λh=>by have:=Nat.div_add_mod x0 2;rw[Nat.mod_two_ne_one.mp h] at this;exact this
theorem PJ:4*(↑(Int.natAbs y0):Int)+1<=y1->0<=y1+1:=by grind
theorem Tq:x0<=x1->x2+5*x1+5<x3->x2+5*x0+5<x3:=by intros;apply aaC ?_ ‹_›;exact aaL (aau (abe _ ‹_›) _) _
theorem Tr:x0<=x1->x2+40*x1+40<x3->x2+40*x0+40<x3:=by intros;apply aaC ?_ ‹_›;exact aaL (aau (abe _ ‹_›) _) _
theorem Tt:x0+5*x1+5<x2->x0<x2:=by intros;exact aaC (aaf (aay _ _) (aay _ _)) ‹_›
theorem Tu:x0+40*x1+40<x2->x0<x2:=by intros;exact aaC (aaf (aay _ _) (aay _ _)) ‹_›
theorem Tv:0<=y0->-2^63<=y0:=by intros;lia
theorem Tw:∀{x0:Int}{x1:Nat},0<=x0->Int.toNat x0<x1->0<=x0/\x0<(↑x1:Int):=by intros;simp_all
theorem Tz:x0+1<=x1->x2+5*x1+5<x3->x2+5*x0+5<x3:=λh g=>aaC (aaL (aau (abe _ (abo h)) _) _) g
theorem TA:x0+1<=x1->x2+40*x1+40<x3->x2+1+40*x0+40<x3:=λh g=>aaC (aaL (aaf (by exact rl (abC x2 ..) (rl (abj 1 ..) ((aau (aau (aae J:1<=40) (40*x0)) x2)))) (aau (abe 40 h) x2)) 40) g
theorem TF:x0+5*(x1+2)+5<x2->x0+1+5*(x1+1)+5<x2:=by intros;expose_names;exact YR h
theorem TG:x0+40*(x1+2)+40<x2->x0+1+40*(x1+1)+40<x2:=by intros;apply aaC ?_ ‹_›;simp +arith
theorem TH:x0<=100->x1<=x0->x1+1<=1000:=by intros;lia
theorem TJ:∀{x0:Int}{x1:Nat},Int.toNat x0=x1+1->0<x0:=λh=>Int.pos_iff_toNat_pos.mpr (by exact rl h ((Nat.succ_pos _)))
theorem TL:∀{x0:Int}{x1:Nat},Int.toNat x0=x1+1->Int.toNat (x0-1)=x1:=by intros;simp_all
theorem TM:Int.toNat y0=0->y0<=0:=by intros;expose_names;exact Int.toNat_eq_zero.mp h
theorem TN : -2^42<=y0->y0<=2^42->-2^63<=y0/\y0<2^63:=λh g=>⟨abI (by decide) h,Int.lt_of_le_of_lt g (by decide)⟩
theorem TP : -2^41<=y0/\y0<=2^41->-2^42<=y0:=λh=>abI (by decide) h.1
theorem TQ : -2^41<=y0/\y0<=2^41->y0<=2^42:=by intros;lia
theorem TS : -2^40<=y0->-2^42<=y0+(1-1):=by intros;lia
theorem TU:y0<=2^40->y0+(1-1)<=2^42:=by intros;lia
theorem TV:x0+5*(x1+1)+5<x2->x0+5*x1+5<x2:=by intros;expose_names;exact Nat.lt_of_add_right_lt h
theorem TX:x0+40*(x1+1)+40<x2->x0+1+40*x1+40<x2:=by intros;apply aaC ?_ ‹_›;simp +arith
theorem TY:x0<=x0+2:=by intros;expose_names;exact aay x0 2
theorem TZ:x0<=3->x1+5*(x2+1)+5<x3->x1+0+x0+5*x2+5<x3:=λh g=>aaC (aaL (aaf (aaL (aau h x1) (5*x2)) (by exact rl (Nat.mul_add ..) (rs (abC ..) (rl (abM x1 (5*x2) ..) ((aaL (aau (aae J:3<=5) x1) _)))))) _) g
theorem T3:x0<=6->x1+40*(x2+1)+40<x3->x1+1+0+x0+40*x2+40<x3:=λh g=>aaC (aaL (aaf (aaL (aau h (x1+1)) (40*x2)) (by exact rl (Nat.mul_add ..) (rs (abC ..) (rl (abM x1 (40*x2) ..) ((aaL (aau (aae J:7<=40) x1) _)))))) _) g
theorem T4:∀{x0:Int}{x1:Nat},Int.toNat x0<x1->x0<(↑x1:Int):=by intros;expose_names;exact Int.lt_of_toNat_lt h
theorem T5:x0+40*x1+40<x2->x0+1<x2:=by intros;apply aaC ?_ ‹_›;simp +arith
theorem T7:x0<=1000->¬(↑x0:Int)>=2^63:=by intros;lia
theorem T8:x0<=1000->Int.toNat ((↑x0:Int)-0)=x0/\(↑x0:Int)<=2^40/\-2^40<=(↑x0:Int):=λh=>⟨J,abJ.mpr (aaf h (aae J)),abI (by decide) (aa9 _)⟩
theorem T9:Int.toNat ((↑x0:Int)-1)=x0-1:=by intros;simp_all
theorem T_:x0<=1000->x1<x0->Int.toNat ((↑x0:Int)-(↑x1:Int)-0)=x0-x1/\(↑x0:Int)-(↑x1:Int)<=2^40/\-2^40<=(↑x0:Int)-(↑x1:Int)/\Int.toNat ((↑x0:Int)-((↑x0:Int)-(↑x1:Int)))=x1:=λh0 h1=>by refine rl (Int.sub_sub_self ..) (rl (Int.sub_zero ..) (rs (Int.ofNat_sub (aaO h1) ..) ?_));exact⟨J,abJ.mpr (aaf (Nat.sub_le _ _) (aaf h0 (aae J))),abI (by decide) (aa9 _),J⟩
theorem Ua:x0<=1000->x1<x0-x2->x1<x0/\x2+x1<x0/\Int.toNat ((↑x2:Int)+(↑x1:Int))=x2+x1/\0<=(↑x2:Int)+(↑x1:Int)/\(↑x2:Int)+(↑x1:Int)<2^63/\(↑x2:Int)+(↑x1:Int)=(↑(x2+x1):Int):=λh0 h1=>by have h:x2+x1<x0:=abj x2 x1▸Nat.add_lt_of_lt_sub h1;exact⟨aao h1 (Nat.sub_le _ _),h,J,aa9 (x2+x1),aa'.mpr (aao h (aaf h0 (aae J))),J⟩
theorem Ub:x0<x1->x2<x0->Int.toNat ((↑x1:Int)-(↑x0:Int)+(↑x2:Int))=x1-x0+x2/\(↑x1:Int)-(↑x0:Int)+(↑x2:Int)=(↑(x1-x0+x2):Int)/\x1-x0+x2<x1/\x1<=x1-x0+x2+x0/\x1-x0+x2+x0-x1<x1:=λh1 h2=>by
 have e:(↑x1:Int)-(↑x0:Int)+(↑x2:Int)=(↑(x1-x0+x2):Int):=aaJ (·+(↑x2:Int)) (Int.ofNat_sub (aaO h1)).symm;have e2:x1-x0+x2+x0=x1+x2:=by rw[abM,abN (aaO h1)]
 refine rl e (rl e2 (rl (Nat.add_sub_cancel_left ..) ?_));exact⟨J,J,Nat.lt_of_add_lt_add_right (n:=x0) (by rw[e2];exact Nat.add_lt_add_left h2 x1),aay _ _,abp h2 h1⟩
theorem Uc:x0<=1000->x1<x0->x2<x0->x0<=x1+x2->Int.toNat ((↑x1:Int)+(↑x2:Int)-(↑x0:Int))=x1+x2-x0/\0<=(↑x1:Int)+(↑x2:Int)-(↑x0:Int)/\(↑x1:Int)+(↑x2:Int)-(↑x0:Int)<2^63/\(↑x1:Int)+(↑x2:Int)-(↑x0:Int)=(↑(x1+x2-x0):Int):=λh0 h1 h2 h3=>by have e:(↑x1:Int)+(↑x2:Int)-(↑x0:Int)=(↑(x1+x2-x0):Int):=(Int.ofNat_sub h3).symm;refine rl e ?_;exact⟨J,aa9 _,aa'.mpr (aaC (aaf (Nat.sub_le _ _) (abc (aaf (aaO h1) h0) (aaf (aaO h2) h0))) (aae J)),J⟩
theorem Ud:x0<x1-1->Int.toNat (1+(↑x0:Int))=1+x0/\1+(↑x0:Int)=(↑(1+x0):Int)/\1+x0<x1:=λh=>⟨J,J,abj 1 _▸Nat.add_lt_of_lt_sub h⟩
theorem Ue:0<=y0->-2^64<y0:=λh=>abO (by decide) h
theorem Ug:0=x0->0<x0->False:=by intros;expose_names;exact Sz h_1 (id (Eq.symm h))
theorem Uh:x0<x1+1->x0<x1+1+1:=by intros;expose_names;exact Nat.lt_add_right 1 h
theorem Ui:x0+1<x0+1+1:=by intros;expose_names;exact Nat.lt_add_one (x0+1)
theorem Uj:x0<1000->x0+1+1<4096:=λh=>abp (Nat.add_lt_add_right h 2) (aae J)
theorem Uk:0<x0->x1=x0->x0-1+1=x1:=by intros;subst_vars;exact abN ‹_›
theorem Ul:x0<=100->x1<=100->x0<=100/\x1<=100:=by intros;exact⟨‹_›,‹_›⟩
theorem Um:x0<=100->x1<=100->x1<=100/\x0<=100:=by intros;exact⟨‹_›,‹_›⟩
theorem Un:Int.toNat ((↑x0:Int)-0)=x0:=by intros;exact J
theorem Uo : -2^40<=(↑x0:Int):=by intros;simp_all
theorem Up:x0+30*(x1+1)<=900->x2<=30->x0+x2<=1000:=λh g=>aaf (abc (aaf (aay _ _) h) g) (aae J)
theorem Uq:x0+30*(x1+1)<=900->x2<=30->x0+x2+30*x1<=900:=λh g=>aaf (by exact rl (abC ..) (rl (abj x2 ..) (rl (Nat.mul_succ ..) ((aau (aau g _) _))))) h
theorem Ur:x0+5*(x1+2)+5<x2->x3<=3->x4<=3->x0+(x4+0)+x3+5*x1+5<x2:=λg h h'=>aaC (aaL (aaf (aaL (abc (aau h' _) h) _) (by exact rl (Nat.mul_add ..) (rs (abC ..) (rl (abM x0 (5*x1) ..) ((aaL (aau (aae J:6<=10) x0) _)))))) _) g
theorem Us:x0+40*(x1+2)+40<x2->x3<=6->x4<=6->x0+1+x4+x3+40*x1+40<x2:=λg h h'=>aaC (aaL (aaf (aaL (abc (aau h' _) h) _) (by exact rl (Nat.mul_add ..) (rs (abC ..) (rl (abM x0 (40*x1) ..) ((aaL (aau (aae J:13<=80) x0) _)))))) _) g
theorem Ut:x0+1<=x0+2:=by intros;expose_names;exact aa0 (x0+1)
theorem Uu:x0+x1<=x2->x2-x1=x2-(x0+x1)+x0:=λh=>by exact rl (abj x0 x1 ..) (rl (Nat.sub_add_eq ..) (rl (abN (Nat.le_sub_of_add_le h) ..) J))
theorem Uv:x0+x1<=x2->x1<=x2:=by intros;expose_names;exact Nat.le_of_add_left_le h
theorem PK:(↑x0:Int)=(↑x1:Int)/\(↑x2:Int)=(↑x3:Int)->x0=x1:=by grind
theorem Uw:(↑x0:Int)=(↑x1:Int)/\(↑x2:Int)=(↑x3:Int)->x2=x3:=by intros;expose_names;exact PK (id (And.symm h))
theorem Ux:x0+7+3<=x0+11:=by intros;exact Pd
theorem PL:x0+2<=x0+11:=by intros;exact aau (aae J) _
theorem PN:x0+2<=x0+7:=by intros;exact aau (aae J) _
theorem PO:0<x0->0<x1->x0<=30/\x1<=30->0<x0/\0<x1/\x0<=30/\x1<=30:=by intros;simp_all
theorem Uy:0<x0->0<x1->x0<=30/\x1<=30->0<x1/\0<x0/\x1<=30/\x0<=30:=by intros;expose_names;exact PO h_1 h (id (And.symm h_2))
theorem Uz:0<x0->x0-1+1=x0:=by intros;expose_names;exact Zd h
theorem UA:(↑x0:Int)%3=(↑x1:Int)↔x0%3=x1:=by intros;exact abA
theorem UB:(↑x0:Int)/3%2=(↑(x0/3%2):Int):=by intros;exact J
theorem UC:x0/3%2=0\/x0/3%2=1:=by intros;expose_names;exact Nat.mod_two_eq_zero_or_one (x0/3)
theorem UD:(↑x0:Int)%(↑x1:Int)=(↑(x0%x1):Int):=by intros;exact J
theorem UE:(↑x0:Int)/(↑x1:Int)=(↑(x0/x1):Int):=by intros;exact J
theorem UG:x0<=63->x1%x0<x0->(↑(x1%x0):Int)<2^63:=λh g=>aa'.mpr (aao g (aaf h (aae J)))
theorem UH:x0<8000->x0/30+1<=300:=λh=>Nat.succ_le_succ (abS ((Nat.div_lt_iff_lt_mul (by decide)).mpr (aao h (aae J))))
theorem UI:x0<=300->¬x0>300:=by intros;expose_names;exact aaw.mpr h
theorem UJ:x0+x1<=100->x0<=1000:=by grind
theorem UK:y0 = -y1->y1 = -y0:=by intros;expose_names;exact Int.eq_neg_comm.mp h
theorem UM:y0<0->0 < -y0:=by intros;expose_names;exact Int.neg_pos_of_neg h
theorem UN:0<=y0->y0 < -y1->Int.natAbs (-y0)<Int.natAbs y1:=λh0 h1=>by exact rl (Int.natAbs_neg ..) (rs (Int.natAbs_neg y1 ..) ((abn h0 h1)))
theorem UO:0<=y0->y0<y1->Int.natAbs y0<Int.natAbs y1:=by intros;expose_names;exact abn h h_1
theorem UP:0<=y0->y0≠0->0<y0:=by intros;expose_names;exact Std.lt_of_le_of_ne h (id (abw h_1))
theorem UQ:y0<2^64->0<y0->Int.natAbs y0<2^64:=λh h0=>abn (ab2 h0) h
theorem UR:0<=y0->y0<2^64->Int.natAbs y0<2^64:=λh0 h=>abn h0 h
theorem US:x0%2=1->x0=x0/2+x0/2+1:=λh=>by have:=Nat.div_add_mod x0 2;rw[h,Nat.two_mul] at this;exact this.symm
theorem UT:¬x0%2=1->x0=x0/2+x0/2:=λh=>by have:=Nat.div_add_mod x0 2;rw[Nat.mod_two_ne_one.mp h,Nat.two_mul] at this;exact this.symm
theorem UU:1<y0->¬y0=0:=by intros;expose_names;exact a4 h
theorem UW:1<y0->¬Int.natAbs y0=1:=by grind
theorem UX:(↑(Int.natAbs y0):Int)=y0->¬y0<0:=by intros;lia
theorem UY:0<=y0->y0=(↑(Int.toNat y0):Int):=by intros;exact(Int.toNat_of_nonneg ‹_›).symm
theorem UZ:x0<=30000->x1<=30000->¬(↑x0:Int)+(↑x1:Int)>(↑(2^27):Int):=λh g=>Int.not_lt.mpr (abJ.mpr (aaf (abc h g) (aae J)))
theorem U0:x0<x1->x1<=30->(↑x0:Int)<2^63:=by intros;rename_i h g;exact aa'.mpr (aao h (aaf g (aae J)))
theorem U1:x0<2↔(↑x0:Int)<2:=(aa' (m:=2)).symm
theorem U3:∀{x0:Nat}{x1:Int},x0<=100->0<=x1/\x1<(↑x0:Int)->(↑(Int.toNat x1):Int)<2^63:=λh g=>by exact rl (Int.toNat_of_nonneg g.1) ((abO g.2 (abJ.mpr (aaf h (aae J)))))
theorem U4:x0<=100->x1<x0->(↑x1:Int)<2^63:=λh g=>aa'.mpr (aao g (aaf h (aae J)))
theorem U5:(↑x0:Int)=3↔x0=3:=by intros;exact abA
theorem U6:x0=x1->x1<=30->x0<=1000:=by intros;subst_vars;exact aaf ‹_› (aae J)
theorem U7:x0=x1->x2=x0->x3<x2->x3<x1:=by intros;subst_vars;assumption
theorem U8:x0<=100->x1=x0->x1<=1000:=by intros;subst_vars;exact aaf ‹_› (aae J)
theorem U9:0<x0->x0<=30->0<x0/\x0<=1000:=λh g=>⟨h,aaf g (aae J)⟩
theorem U_:(↑(Int.natAbs (6*y0)):Int)<2^30003->Int.natAbs (6*y0)<2^30003:=λh=>aa'.mp h
theorem U':x0<=30003->x1<=30000->¬(↑x0:Int)+(↑x1:Int)>(↑(2^27):Int):=λh g=>Int.not_lt.mpr (abJ.mpr (aaf (abc h g) (aae J)))
theorem Vc:(↑x0:Int)=2\/(↑x0:Int)=6↔x0=2\/x0=6:=or_congr (abA (n:=2)) (abA (n:=6))
theorem Vd:x0<=30->min x0 x1<=1000:=λh=>aaf (Nat.min_le_left _ _) (aaf h (aae J))
theorem Ve:x0=x1->x1<=30->min x0 x2<=1000:=λe h=>aaf (Nat.min_le_left _ _) (e▸aaf h (aae J))
theorem Vf:x0<=30->x1=x0->x1<=30:=by intros;expose_names;exact le_of_eq_of_le h_1 h
theorem Vg:¬x0=3->¬x0=4->¬x0=8->x0=3\/x0=4\/x0=8\/x1=x2/\x3=x4->x1=x2/\x3=x4:=λh g k h'=>((h'.resolve_left h).resolve_left g).resolve_left k
theorem Vh:x0=x1->0<x0->0<min x0 x1:=by intros;simp_all
theorem Vi:x0<=30->min x0 x1<=30:=λh=>aaf (Nat.min_le_left _ _) h
theorem Vj:x0=x1->min x0 x1=x0:=by intros;expose_names;exact a8 J (id (Eq.symm h))
theorem Vk:x0=3\/x0=4\/x0=8->x0=3\/x0=4\/x0=8\/x1=x2/\x3=x4:=λh=>h.imp_right λh=>h.imp_right .inl
theorem Vl:0<x0+(0+1):=by intros;exact Nat.succ_pos _
theorem Vm:(↑x0:Int)<2↔x0<2:=by intros;exact aa'
theorem Vn:(↑x0:Int)=7↔x0=7:=by intros;exact abA
theorem Vo:(↑x0:Int)=(↑x1:Int)->x0=x1:=by intros;exact abA.mp ‹_›
theorem Vp:¬(↑x0:Int)=3/\¬(↑x0:Int)=4/\¬(↑x0:Int)=8↔¬x0=3/\¬x0=4/\¬x0=8:=
 and_congr (not_congr (abA (n:=3))) (and_congr (not_congr (abA (n:=4))) (not_congr (abA (n:=8))))
theorem Vq:x0-x1<=x0-min x1 x0:=Nat.sub_le_sub_left (Nat.min_le_left _ _) _
theorem Vr:0<=y0/\y0<4->1<=1+Int.toNat y0/\1+Int.toNat y0<=4:=λh=>⟨aay _ _,abj 1 _▸(Int.toNat_lt h.1).mpr h.2⟩
theorem Vs:0<=y0/\y0<4->Int.toNat y0<4:=by intros;expose_names;exact v5 h
theorem Vt:(↑(1+Int.toNat (↑(Int.toNat y0):Int)):Int)=1+(↑(Int.toNat y0):Int):=by intros;exact J
theorem Vu:(↑(1+x0%2):Int)=1+(↑(x0%2):Int):=by intros;exact J
theorem Vv:(↑(1+x0/2):Int)=1+(↑(x0/2):Int):=by intros;exact J
theorem Vw:(↑(10+16*x0+8*x1+4*x2+x3):Int)=10+16*(↑x0:Int)+8*(↑x1:Int)+4*(↑x2:Int)+(↑x3:Int):=by intros;exact J
theorem Vx:x0<3->x1<=4->x2<=2->x3<=2->x4<x2->x5<x3->x6<x1->10+16*x0+8*x4+4*x5+x6<1000:=λh0 h1 h2 h3 h4 h5 h6=>
 aaC (abc (abc (abc (aau (abe 16 (aaO h0)) 10) (abe 8 (aaf (aaO h4) h2))) (abe 4 (aaf (aaO h5) h3))) (aaf (aaO h6) h1)) (aae J)
theorem Vy:0<=y0/\y0<4096->-2048<=y0-2048/\y0-2048<2048:=λh=>⟨Int.sub_le_sub_right h.1 2048,Int.sub_lt_sub_right h.2 2048⟩
theorem Vz:x0=x1->1<=x1/\x1<=4->x0<=900:=by intros;lia
theorem VA:0<y0->y0+1≠0:=by intros;lia
theorem VB:1<=x0/\x0<=4->x1=x0->x1<=1000:=by intros;lia
theorem VC:1<=x0/\x0<=4->x1=x0->x2<x1->(↑2:Int)*(2304*(↑x2:Int))<=2^27:=λh e g=>abI (abE (abE (abJ.mpr (aaf (aaO g) (e▸h.2))) (by decide)) (by decide)) (by decide:2*(2304*((4:Nat):Int))<=2^27)
theorem VD : -2048<=y0/\y0<2048->Int.natAbs y0<2^64:=by intros;simp_all;omega
theorem VE:(↑(1+x0):Int)=1+(↑x0:Int):=by intros;exact J
theorem VF:0<x0->1<(↑(x0+1):Int):=λh=>aa'.mpr (Nat.succ_lt_succ h)
theorem VG:x0<=2^9216->(↑(x0+1):Int)<(↑(2^30000):Int):=by intros;simp_all;omega
theorem VH:(↑(58+x0):Int)=58+(↑x0:Int):=by intros;exact J
theorem VI:x0<=2->x1<=2->x0<=30/\x1<=30:=λh g=>⟨aaf h (aae J),aaf g (aae J)⟩
theorem VJ:1<=x0/\x0<=4->x0<=100:=by rintro⟨h1,h2⟩;exact aaf h2 (aae J)
theorem VK:0<x0->(↑(x0-1):Int)=(↑x0:Int)-1:=λh=>Int.ofNat_sub h
theorem VL:0<x0/\x0<=1000->(↑x0:Int)≠0:=by grind
theorem VM:0<=y0/\y0<40->(↑2:Int)*y0<=2^27:=λh=>abI (abE (ab2 h.2) (by decide)) (by decide:2*(40:Int)<=2^27)
theorem VN:y0≠0->3329*8380417*y0≠0:=by intros;simp_all
theorem VO:y0≠0->0<=y0->0<y0:=by intros;expose_names;exact Std.lt_of_le_of_ne h_1 (id (abw h))
theorem VP:y0+y1+y2-1=y3*y4->y0=1+y3*y4-y1-y2:=λh=>by refine rs h ?_;simp +arith
theorem VQ:0<=y0/\y0<40->Int.toNat y0<40:=by intros;simp_all
theorem VR:0<=y0/\y0<3->Int.toNat y0<3:=by intros;simp_all
theorem VT:1*3329*8380417*y0=3329*8380417*y0:=by intros;exact J
theorem VU:1*8380417*y0*3329=3329*8380417*y0:=by intros;expose_names;exact Int.mul_right_comm (1*8380417) y0 3329
theorem PT:y0+y1+y2-1=y2+y0+y1-1:=by intros;simp +arith
theorem VV:1*y0*3329*8380417=3329*8380417*y0:=by intros;simp +arith
theorem VW:y0+y1+y2-1=y1+y2+y0-1:=by intros;exact Eq.symm PT
theorem VX:1<=x0->x0<=4->x0=1\/x0=2\/x0=3\/x0=4:=λh g=>(show∀x<5,1<=x->x=1\/x=2\/x=3\/x=4 by decide) _ (Nat.lt_succ_of_le g) h
theorem VY:x0+(x1+1)=x0+1+x1:=by intros;expose_names;exact Eq.symm (Nat.succ_add_eq_add_succ x0 x1)
theorem VZ:1<=x0->0<x0:=by intros;assumption
theorem V0:x0<=4*x0/\x0+x0<=4*x0/\x0+x0+x0<=4*x0/\x0+x0+x0+x0<=4*x0:=by intros;simp +arith
theorem V5:x0%2=1->x0/2<x0:=λh=>Nat.div_lt_self (Nat.pos_of_ne_zero λq=>by rw[q] at h;exact absurd h (by decide)) (by decide)
theorem V7:x0<1000->Int.natAbs ((↑x0:Int)/7)<=142:=λh=>(abS ((Nat.div_lt_iff_lt_mul (by decide)).mpr (aao h (aae J))):x0/7<=142)
theorem V8:x0<1000->Int.natAbs (-(↑x0:Int))<=1000:=λh=>by exact rl (Int.natAbs_neg ..) ((aaO h))
theorem V_:4*(x0*x1*3)*2+1000+142<=24*(x0*x1)+1142:=by intros;simp +arith
theorem Wa:y0+y1*y2+y3=y0+y3+y1*y2:=by intros;expose_names;exact Int.add_right_comm y0 (y1*y2) y3
theorem Wb : -y0<=y1/\y1<y0->0<=y1+y0:=λh=>by have:=Int.add_le_add_right h.1 y0;rwa [Int.add_left_neg] at this
theorem Wc : -y0<=y1/\y1<y0->y1+y0<2*y0:=λh=>by exact rl (Int.two_mul ..) ((Int.add_lt_add_right h.2 y0))
theorem PU:y0+y1-y1=y0:=by intros;expose_names;exact Int.add_sub_cancel y0 y1
theorem Wd:y0+y1*y2-y0=y1*y2:=by intros;exact Int.sub_eq_iff_eq_add'.mpr J
theorem We:∀{x0:Nat}{x1 x2 x3 x4:Int}{x5:Nat},4*(↑x0:Int)+1<=x1->Int.natAbs x2<=x0->Int.natAbs x3<=Int.natAbs x2+Int.natAbs (x1*x4)->4*(↑(Int.natAbs (x1*x4)):Int)+x1<=x1^x5*x1->4*(↑(Int.natAbs x3):Int)+1<=x1^x5*x1:=by grind
theorem Wf:4*(↑(Int.natAbs y0):Int)+1<=y1->y0<y1+1:=by grind
theorem Wg:4*(↑(Int.natAbs y0):Int)+1<=y1->¬2*y0>y1+1:=by grind
theorem Wh:4*(↑(Int.natAbs y0):Int)+1<=y1->0<=y0+(y1+1):=by grind
theorem Wi:¬0<=y0->y0+(y1+1)<y1+1:=by intros;lia
theorem Wj:4*(↑(Int.natAbs y0):Int)+1<=y1->2*(y0+(y1+1))>y1+1:=by grind
theorem Wl:y0+(y1+1)-(y1+1)=y0:=by intros;exact PU
theorem Wm:∀{x0:Nat}{x1 x2 x3:Int},4*(↑x0:Int)+1<=x1->x1=2*x2->Int.natAbs x3<=x0->-x2<=x3/\x3<x2:=λ{x0 x1 x2 x3} h e g=>by have k:(x3.natAbs:Int)<x2:=Int.lt_of_mul_lt_mul_left (a:=2) (abO (Int.lt_add_one_of_le (abI (abE (abJ.mpr g) (by decide)) (Int.mul_le_mul_of_nonneg_right (by decide:(2:Int)<=4) (aa9 _)))) (e▸h)) (by decide);exact⟨abI (Int.neg_le_neg (ab2 k)) (Int.neg_le_of_neg_le (Int.natAbs_neg x3▸Int.le_natAbs)),Int.lt_of_le_of_lt Int.le_natAbs k⟩
theorem Wn:0<x0->x0<=2->x0=1\/x0=2:=λh g=>(Nat.lt_or_eq_of_le g).imp (λq=>Nat.le_antisymm (abS q) h) id
theorem Wo:3*(x0+2)<=x1*(x0+2)->2*x0+6<=x1*(x0+2)/\x0+1<=x1*(x0+2):=λh=>by rw[Nat.mul_add 3] at h;exact⟨aaf (aaL (Nat.mul_le_mul_right x0 (aae J:2<=3)) 6) h,aaf (abc (Nat.le_mul_of_pos_left x0 (aae J:1<=3)) (aae J:1<=3*2)) h⟩
theorem Wq:x0*64<=x1->2^11<=x0->4*x0<=x1/\4*x0+4*x0<=x1/\24*x0+1142<=x1:=λh g=>by have k:∀c,c<=64->c*x0<=x1:=λc hc=>aaf (Nat.mul_comm x0 64▸Nat.mul_le_mul_right x0 hc) h;exact⟨k 4 (aae J),by exact rs (Nat.add_mul ..) ((k 8 (aae J))),aaf (aau (aaf (aae J) g) _) (by exact rs (Nat.succ_mul ..) ((k 25 (aae J))))⟩
theorem Wr:11<=6*(x0+2):=by intros;exact aae J
theorem Ws:11<=x0->11<=3*(x0+2):=λh=>aaf h (aaf (aay x0 2) (Nat.le_mul_of_pos_left _ (by decide)))
theorem Wt:4*(↑(2^2262):Int)+1<=(↑(2^2262*4398046511104):Int):=by intros;omega
theorem Wu : -2048<=y0/\y0<2048->Int.natAbs y0<=2^11:=by intros;simp_all;omega
end
section
noncomputable abbrev P0:Program:=PySem.Challenge.pw_jp0035_01
inductive MV where
 |int (i:Int)
 |bool (b:Bool)
 |none
 |str (s:Str)
 |bZ (v:Value)
 |tup (l:List MV)
 |lst (l:List MV)
 |inst (x:Option Addr) (C:Addr) (fs:List (Str×MV))
abbrev acj:=List (Str×MV)
abbrev acw:=List MV
noncomputable def su:Value->Bool
 |.type _=>true
 |.builtin _=>true
 |.ref _=>true
 |_=>false
noncomputable def fW(h:Heap)(x dx C:Addr)(es:acm)(n:Nat)(vals:aci):Prop:=
 h.get? x=some (instObj C dx)/\h.get? dx=some (dictOf es n)/\(∀nm,getL nm es=some (vals.lookup nm))/\es.length<=1000
mutual
inductive Den(h:Heap)(D:acq):Value->MV->Prop
 |int (i:Int) (t:Tok):Den h D (.int i t) (.int i)
 |bool (b:Bool):Den h D (.bool b) (.bool b)
 |none:Den h D .none .none
 |str (s:Str) (t:Tok):Den h D (.str s t) (.str s)
 |bZ (v:Value):su v=true->Den h D v (.bZ v)
 |tup (a:Addr) (items:aco) (n:Nat) (l:acw):h.get? a=some {cls:=.type "tuple",data:=.seq items n}->a∉D->bD h D items.toList l->Den h D (.ref a) (.tup l)
 |lst (a:Addr) (items:aco) (n:Nat) (l:acw):h.get? a=some {cls:=.type "list",data:=.seq items n}->a∉D->bD h D items.toList l->Den h D (.ref a) (.lst l)
 |inst (x?:acn) (x dx C:Addr) (es:acm) (n:Nat) (vals:aci) (fs:acj):(∀y,x?=some y->y=x)->fW h x dx C es n vals->x∉D->dx∉D->dF h D vals fs->Den h D (.ref x) (.inst x? C fs)
inductive bD(h:Heap)(D:acq):acp->acw->Prop
 |nil:bD h D [] []
 |cons {v:Value} {m:MV} {vs:acp} {ms:acw}:Den h D v m->bD h D vs ms->bD h D (v::vs) (m::ms)
inductive dF(h:Heap)(D:acq):aci->acj->Prop
 |nil:dF h D [] []
 |cons {n:Str} {v:Value} {m:MV} {vs:aci} {ms:acj}:Den h D v m->dF h D vs ms->dF h D ((n,v)::vs) ((n,m)::ms)
end
noncomputable def Kept(W:acq)(h h':Heap):Prop:=∀b o,b∉W->h.get? b=some o->h'.get? b=some o
theorem Den.gen{h h':Heap}{D D':acq}{P:MV->Prop}{Ps:acw->Prop}{Pf:acj->Prop}
 (hs:∀a T items n,T="tuple"\/T="list"->h.get? a=some {cls:=.type T,data:=.seq items n}->a∉D->h'.get? a=some {cls:=.type T,data:=.seq items n}/\a∉D')
 (hi:∀x? x dx C es n vals fs,fW h x dx C es n vals->x∉D->dx∉D->dF h D vals fs->P (.inst x? C fs)->fW h' x dx C es n vals/\x∉D'/\dx∉D')
 (p1:∀l,P (.tup l)->Ps l) (p2:∀l,P (.lst l)->Ps l) (p3:∀x C fs,P (.inst x C fs)->Pf fs) (p4:∀m ms,Ps (m::ms)->P m/\Ps ms) (p5:∀n m ms,Pf ((n,m)::ms)->P m/\Pf ms) :
 (∀{v m},Den h D v m->P m->Den h' D' v m)/\(∀{vs ms},bD h D vs ms->Ps ms->bD h' D' vs ms)/\∀{vs ms},dF h D vs ms->Pf ms->dF h' D' vs ms:=by
 refine⟨λd=>Den.rec (motive_1:=λv m _=>P m->Den h' D' v m) (motive_2:=λv m _=>Ps m->bD h' D' v m) (motive_3:=λv m _=>Pf m->dF h' D' v m) ?_ ?_ ?_ ?_ ?_ ?_ ?_ ?_ ?_ ?_ ?_ ?_ d,λd=>bD.rec (motive_1:=λv m _=>P m->Den h' D' v m) (motive_2:=λv m _=>Ps m->bD h' D' v m) (motive_3:=λv m _=>Pf m->dF h' D' v m) ?_ ?_ ?_ ?_ ?_ ?_ ?_ ?_ ?_ ?_ ?_ ?_ d,λd=>dF.rec (motive_1:=λv m _=>P m->Den h' D' v m) (motive_2:=λv m _=>Ps m->bD h' D' v m) (motive_3:=λv m _=>Pf m->dF h' D' v m) ?_ ?_ ?_ ?_ ?_ ?_ ?_ ?_ ?_ ?_ ?_ ?_ d⟩
 iterate 3
  exactλi t _=>.int i t
  exactλb _=>.bool b
  exactλ_=>.none
  exactλs t _=>.str s t
  exactλv e _=>.bZ v e
  exactλa items n l e na _ ih p=>.tup a items n l (hs a _ _ _ (.inl J) e na).1 (hs a _ _ _ (.inl J) e na).2 (ih (p1 l p))
  exactλa items n l e na _ ih p=>.lst a items n l (hs a _ _ _ (.inr J) e na).1 (hs a _ _ _ (.inr J) e na).2 (ih (p2 l p))
  exactλx? x dx C es n vals fs ex e nx nd df ih p=>.inst x? x dx C es n vals fs ex (hi x? x dx C es n vals fs e nx nd df p).1 (hi x? x dx C es n vals fs e nx nd df p).2.1 (hi x? x dx C es n vals fs e nx nd df p).2.2 (ih (p3 _ _ _ p))
  exactλ_=>.nil
  exactλ_ _ ih ih' p=>.cons (ih (p4 _ _ p).1) (ih' (p4 _ _ p).2)
  exactλ_=>.nil
  exactλ_ _ ih ih' p=>.cons (ih (p5 _ _ _ p).1) (ih' (p5 _ _ _ p).2)
section
variable{h h':Heap}{D D' W:acq}(hW:Kept W h h')(sub:∀d∈W,d∈D)(hD:∀d∈D',d∈D\/h.objs.size<=d)
include hW sub hD
theorem Den.ED:(∀{v m},Den h D v m->True->Den h' D' v m)/\(∀{vs ms},bD h D vs ms->True->bD h' D' vs ms)/\∀{vs ms},dF h D vs ms->True->dF h' D' vs ms:=by have k:∀{a o},h.get? a=some o->a∉D->h'.get? a=some o/\a∉D':=λe na=>⟨hW _ _ (λq=>na (sub _ q)) e,λq=>(hD _ q).elim na λz=>absurd (aaB e) (aaw.mpr z)⟩;exact Den.gen (P:=λ_=>True) (Ps:=λ_=>True) (Pf:=λ_=>True) (λ_ _ _ _ _=>k) (λ_ _ _ _ _ _ _ _ e nx nd _ _=>⟨⟨(k e.1 nx).1,(k e.2.1 nd).1,e.2.2⟩,(k e.1 nx).2,(k e.2.1 nd).2⟩) (λ_ _=>trivial) (λ_ _=>trivial) (λ_ _ _ _=>trivial) (λ_ _ _=>⟨trivial,trivial⟩) λ_ _ _ _=>⟨trivial,trivial⟩
theorem Den.kept{v:Value}{m:MV}(d:Den h D v m):Den h' D' v m:=(Den.ED hW sub hD).1 d trivial
theorem bD.kept{vs:acp}{ms:acw}(d:bD h D vs ms):bD h' D' vs ms:=(Den.ED hW sub hD).2.1 d trivial
theorem dF.kept{vs:aci}{ms:acj}(d:dF h D vs ms):dF h' D' vs ms:=(Den.ED hW sub hD).2.2 d trivial
end
structure Cx where
 w:World
 K:Frag
 p:Program
 loose:acv
 mg:Str->Option Value
 mb:Str->Option Value
 H:Heap
 T:List (Addr×Addr)
 os:OsState
noncomputable def Cx.tabs(C:Cx):acq:=C.T.map (·.2)
structure MJ(C:Cx):Prop where
 om:C.K.In C.H
 top:TopRead C.p C.loose C.mg C.mb C.H
 PV:∀b∈C.tabs,C.K.lookup b=none
 MK:mainGlobals∉C.tabs/\builtinsNs∉C.tabs/\cStatics∉C.tabs
 code:∀q∈C.T,C.H.IsCode q.1 q.2 #[]/\C.H.TableAt q.1 q.2 #[]
 inj:∀q∈C.T,∀q'∈C.T,q.2=q'.2->q.1=q'.1
 bmain:∃bm ob,C.mg "__builtins__"=some (.ref bm)/\bm≠builtinsNs/\C.H.get? bm=some ob/\ob.cls = .type "module"/\ob.dict=some builtinsNs/\ob.data = .plain
inductive qm(h:Heap)(q:Addr×Addr):Prop
 |mk (ps:aco):h.IsCode q.1 q.2 ps->h.TableAt q.1 q.2 ps->qm h q
theorem qm.move{h h':Heap}{q:Addr×Addr}(T:qm h q)(h1:∀o,h.get? q.1=some o->h'.get? q.1=some o)(h2:∀o,h.get? q.2=some o->h'.get? q.2=some o):qm h' q:=by refine nb λnn=>?_;obtain⟨ps,⟨o,vs,file,tf,flags,tg,inF,text,tt,op,i1,i2,i3,i4,i5,i6,i7,i8,i9⟩,⟨o',vs',t1,t2⟩,t5⟩:=T;exact nn<|⟨ps,⟨o,vs,file,tf,flags,tg,inF,text,tt,op,h1 _ i1,i2,i3,i4,i5,i6,i7,h2 _ i8,i9⟩,⟨o',vs',h1 _ t1,t2⟩,h2 _ t5⟩
inductive PW(h:Heap)(q:Addr×Addr):Prop
 |mk (o:Obj) (vs ps:aco):h.get? q.1=some o->o.cls = .type "code"->o.data = .fields vs->h.get? q.2=some {cls:=.none,data:=.fields ps}->PW h q
theorem qm.objs{h:Heap}{q:Addr×Addr}(T:qm h q):PW h q:=by obtain⟨ps,_,⟨o,vs,t1,t2,t3,_⟩,t5⟩:=T;exact⟨o,vs,ps,t1,t2,t3,t5⟩
structure Inv(C:Cx)(s:Shared):Prop where
 ok:MJ C
 size:C.H.objs.size<=s.heap.objs.size
 old:Kept C.tabs C.H s.heap
 tab:∀q∈C.T,qm s.heap q
 bare:AllBare s.gens
 os:s.os=C.os
structure bL(C:Cx)(W:acq)(s s':Shared):Prop where
 size:s.heap.objs.size<=s'.heap.objs.size
 keep:Kept (W++C.tabs) s.heap s'.heap
 gens:∀(g:Nat)(x:GenState),s.gens[g]?=some x->s'.gens[g]?=some x
theorem bL.refl(C:Cx)(W:acq)(s:Shared):bL C W s s:=⟨aaq _,λ_ _ _ e=>e,λ_ _ e=>e⟩
theorem bL.trans{C:Cx}{W W' SA:acq}{s s' gp:Shared}(a:bL C W s s')(b:bL C W' s' gp)(h1:∀d∈W,d∈SA\/s.heap.objs.size<=d)(h2:∀d∈W',d∈SA\/s.heap.objs.size<=d):bL C SA s gp:=by
 refine⟨aaf a.size b.size,λx o hx e=>?_,λg x e=>b.gens g x (a.gens g x e)⟩;have hl:=aaB e;have n1:x∉SA:=λq=>hx (aah _ q);have n2:x∉C.tabs:=λq=>hx (aad _ q);refine b.keep x o (λq=>?_) (a.keep x o (λq=>?_) e)
 .rcases aag.mp q with q |q
  .exact(h2 x q).elim n1 (λz=>absurd hl (aaw.mpr z))
  .exact n2 q
 .rcases aag.mp q with q |q
  .exact(h1 x q).elim n1 (λz=>absurd hl (aaw.mpr z))
  .exact n2 q
theorem bL.then{C:Cx}{s s' gp:Shared}(a:bL C [] s s')(b:bL C [] s' gp):bL C [] s gp:=a.trans b (λ_ q=>nomatch q) (λ_ q=>nomatch q)
theorem bL.weak{C:Cx}{W W':acq}{s s':Shared}(a:bL C W s s')(h:∀d∈W,d∈W'):bL C W' s s':=⟨a.size,λx o hx e=>a.keep x o (λq=>hx (by
 rcases aag.mp q with q |q
 .exact aah _ (h x q)
 .exact aad _ q)) e,a.gens⟩
theorem Inv.om{C:Cx}{s:Shared}(I:Inv C s):C.K.In s.heap:=λa o e=>I.old a o (λq=>by replace e:=(I.ok.PV a q)▸e;cases e) (I.ok.om a o e)
theorem Inv.ns{C:Cx}{s:Shared}(I:Inv C s){a:Addr}{m}(n:C.H.Ns a m)(ha:a∉C.tabs):s.heap.Ns a m:=abY n λo e=>I.old a o ha e
theorem Inv.nolimit{C:Cx}{s:Shared}(I:Inv C s):s.heap.NoLimit:=let⟨mc,h,e⟩:=I.ok.top.nolimit;⟨mc,I.ns h I.ok.MK.2.2,e⟩
theorem Inv.top{C:Cx}{s:Shared}(I:Inv C s):TopRead C.p C.loose C.mg C.mb s.heap:=
 ⟨I.ns I.ok.top.g I.ok.MK.1,I.ns I.ok.top.b I.ok.MK.2.1,I.nolimit,I.ok.top.builtins,I.ok.top.free⟩
theorem Inv.step{C:Cx}{s:Shared}(I:Inv C s){h':Heap}{tk:Nat}{W:acq}(hs:s.heap.objs.size<=h'.objs.size)(hk:Kept W s.heap h')(hW:∀d∈W,C.H.objs.size<=d):Inv C {s with heap:=h',toks:=tk}:=by have nW:∀b o,C.H.get? b=some o->b∉W:=λb o e q=>absurd (aaB e) (aaw.mpr (hW b q));refine⟨I.ok,aaf I.size hs,λb o hb e=>hk b o (nW b o e) (I.old b o hb e),λq hq=>?_,I.bare,I.os⟩;refine nb λnn=>?_;obtain⟨_,⟨_,_,e1,_⟩,e2⟩:=I.ok.code q hq;exact nn<|(I.tab q hq).move (λo e=>hk _ o (nW _ _ e1) e) λo e=>hk _ o (nW _ _ e2) e
theorem bL.heap{C:Cx}{W:acq}{s:Shared}{h':Heap}{tk:Nat}(hs:s.heap.objs.size<=h'.objs.size)(hk:Kept W s.heap h'):bL C W s {s with heap:=h',toks:=tk}:=
 ⟨hs,λb o hb e=>hk b o (λq=>hb (aah _ q)) e,λ_ _ e=>e⟩
theorem n0{α:Type}{P:α->Prop}:∀x∈([]:List α),P x:=List.forall_mem_nil _
theorem m1{α:Type}{P:α->Prop}{a:α}(h:P a):∀x∈[a],P x:=List.forall_mem_singleton.mpr h
theorem m2{α:Type}{P:α->Prop}{a b:α}(h:P a)(g:P b):∀x∈[a,b],P x:=abT.mpr ⟨h,m1 g⟩
theorem mc{α:Type}{P:α->Prop}{a:α}{l:List α}(h:P a)(g:∀x∈l,P x):∀x∈a::l,P x:=abT.mpr ⟨h,g⟩
inductive EF(h:Heap)(D:acq)(x?:acn)(C:Addr)(fs:acj):Value->Prop
 |mk (x dx:Addr) (es:acm) (n:Nat) (vals:aci):(∀y,x?=some y->y=x)->fW h x dx C es n vals->x∉D->dx∉D->dF h D vals fs->EF h D x? C fs (.ref x)
inductive EH(h:Heap)(D:acq)(T:String)(l:acw):Value->Prop
 |mk (a:Addr) (items:aco) (n:Nat):h.get? a=some {cls:=.type T,data:=.seq items n}->a∉D->bD h D items.toList l->EH h D T l (.ref a)
inductive ML(i:Int):Value->Prop
 |mk (t:Tok):ML i (.int i t)
inductive EI(h:Heap)(D:acq)(m:MV)(ms:acw):acp->Prop
 |mk {v:Value} {vs:acp}:Den h D v m->bD h D vs ms->EI h D m ms (v::vs)
inductive EJ(h:Heap)(D:acq)(n:Str)(m:MV)(ms:acj):aci->Prop
 |mk {v:Value} {vs:aci}:Den h D v m->dF h D vs ms->EJ h D n m ms ((n,v)::vs)
noncomputable def Wv(h:Heap)(D:acq)(a:Value):MV->Prop
 |.int i=>ML i a
 |.bool b=>a = .bool b
 |.none=>a = .none
 |.str s=>∃t,a = .str s t
 |.bZ v=>a=v/\su v=true
 |.tup l=>EH h D "tuple" l a
 |.lst l=>EH h D "list" l a
 |.inst x? C fs=>EF h D x? C fs a
noncomputable def PX(h:Heap)(D:acq)(vs:acp):acw->Prop
 |[]=>vs=[]
 |m::ms=>EI h D m ms vs
noncomputable def PY(h:Heap)(D:acq)(vs:aci):acj->Prop
 |[]=>vs=[]
 |(n,m)::ms=>EJ h D n m ms vs
section
variable{h:Heap}{D:acq}{a:Value}
theorem Den.inv{m:MV}(d:Den h D a m):Wv h D a m:=by
 cases d with
 |int i t=>exact .mk t
 |bool=>exact J
 |none=>exact J
 |str s t=>exact⟨t,J⟩
 |bZ v e=>exact⟨J,e⟩
 |tup b items n _ a1 a2 a3=>exact .mk b items n a1 a2 a3
 |lst b items n _ a1 a2 a3=>exact .mk b items n a1 a2 a3
 |inst _ x dx _ es n vals _ a1 a2 a3 a4 a5=>exact .mk x dx es n vals a1 a2 a3 a4 a5
theorem bD.inv{vs:acp}{ms:acw}(d:bD h D vs ms):PX h D vs ms:=by
 cases d with
 |nil=>exact J
 |cons a b=>exact .mk a b
theorem dF.inv{vs:aci}{ms:acj}(d:dF h D vs ms):PY h D vs ms:=by
 cases d with
 |nil=>exact J
 |cons a b=>exact .mk a b
theorem Den.eL{i:Int}(d:Den h D a (.int i)):ML i a:=d.inv
theorem Den.EK{b:Bool}(d:Den h D a (.bool b)):a = .bool b:=d.inv
theorem Den.oZ{v:Value}(d:Den h D a (.bZ v)):a=v/\su v=true:=d.inv
theorem Den.eU{x?:acn}{C:Addr}{fs:acj}(d:Den h D a (.inst x? C fs)):EF h D x? C fs a:=d.inv
theorem Den.jW{l:acw}(d:Den h D a (.lst l)):EH h D "list" l a:=d.inv
theorem Den.EL{l:acw}(d:Den h D a (.tup l)):EH h D "tuple" l a:=d.inv
theorem bD.g7{vs:acp}(d:bD h D vs []):vs=[]:=d.inv
theorem bD.d8{vs:acp}{m:MV}{ms:acw}(d:bD h D vs (m::ms)):EI h D m ms vs:=d.inv
theorem dF.g7{vs:aci}(d:dF h D vs []):vs=[]:=d.inv
theorem dF.d8{vs:aci}{n:Str}{m:MV}{ms:acj}(d:dF h D vs ((n,m)::ms)):EJ h D n m ms vs:=d.inv
end
theorem sy{α:Type}{P:α->Prop}{a:α}(h:P a):∀d∈[a],P d:=λd hd=>by exact rl (aam.mp hd) h
theorem LO{α:Type}{P:α->Prop}{a:α}{l:List α}(h:P a)(t:∀d∈l,P d):∀d∈a::l,P d:=abT.mpr ⟨h,t⟩
theorem MM{α:Type}{P:α->Prop}{k l:List α}(h:∀d∈k,P d)(t:∀d∈l,P d):∀d∈k++l,P d:=List.forall_mem_append.mpr ⟨h,t⟩
end
noncomputable def topS(i:Nat):Stmt:=(P0.main.body[i]?).getD (.Pass ⟨0,0,0,0⟩)
noncomputable def sB:Stmt->List (acr)
 |.FunctionDef _ _ b _ _ _ _ _ _ _=>[b]
 |.ClassDef _ _ _ b _ _ _ _ _ _ _=>[b]
 |.For _ _ b o _=>[b,o]
 |.If _ b o _=>[b,o]
 |.Try b _ _ _ _=>[b]
 |_=>[]
noncomputable def kS(s:Stmt)(n:Nat):acr:=((sB s)[n]?).getD []
noncomputable def sE:Stmt->acs
 |.For t i _ _ _=>[t,i]
 |.If t _ _ _=>[t]
 |.Assign _ e _=>[e]
 |.Expr e _=>[e]
 |.Return (some e) _=>[e]
 |_=>[]
noncomputable def kE(s:Stmt)(n:Nat):Expr:=((sE s)[n]?).getD (.Constant .none 0 ⟨0,0,0,0⟩)
noncomputable def eE:Expr->acs
 |.Call f as _ _=>f::as
 |.Attribute o _ _=>[o]
 |.BoolOp _ vs _=>vs
 |.Compare e _ _ _=>[e]
 |_=>[]
noncomputable def eK(e:Expr)(n:Nat):Expr:=((eE e)[n]?).getD (.Constant .none 0 ⟨0,0,0,0⟩)
noncomputable def Jl(i j:Nat):Stmt:=((kS (topS i) 0)[j]?).getD (.Pass ⟨0,0,0,0⟩)
noncomputable def OS:Stmt->Str×Arguments×Scope×Pos
 |.FunctionDef n ps _ _ _ _ sc _ _ p=>(n,ps,sc,p)
 |_=>("",default,default,⟨0,0,0,0⟩)
noncomputable def OT(s:Stmt):Str:=(OS s).1
noncomputable def Eu(s:Stmt):Arguments:=(OS s).2.1
noncomputable def o5(s:Stmt):acr:=kS s 0
noncomputable def mq(s:Stmt):Scope:=(OS s).2.2.1
noncomputable def EM(p:Program)(w:World):Nat->SharedT->Thread->Option SharedT
 |0,_,_=>none
 |n+1,s,t=>match through t with
  |true=>some s
  |false=>match PySem.W.Fast.tw6613529449190102663 11 (some (.ref 6)) t with
   |false=>none
   |true=>match PySem.W.Fast.tw10156331382660048174 (PySem.W.Fast.tw11892475500146522536 PySem.W.Fast.tw14364793385576792824) p w s t with
    |some (s',t')=>EM p w n s' t'
    |none=>none
theorem uQ{p:Program}{w:World}:∀{n:Nat}{s s':SharedT}{t:Thread},EM p w n s t=some s'->topRun treeTable p w 11 (some (.ref 6)) n s.abs t=some s'.abs
 |0,_,_,_,h=>by cases h
 |n+1,s,s',t,h=>by
  unfold EM at h;unfold topRun;cases he:through t with
  |true=>rw[he] at h;cases h;rfl
  |false=>
   rw[he] at h;rw[<- PySem.W.Fast.te6613529449190102663,<- PySem.W.Fast.te10156331382660048174,<- PySem.W.Fast.te11892475500146522536,<- PySem.W.Fast.te14364793385576792824] at h;cases hk:stepOk 11 (some (.ref 6)) t with
   |false=>rw[hk] at h;cases h
   |true=>
    rw[hk] at h;cases hs:stepT (denote treeTable) p w s t with
    |none=>rw[hs] at h;cases h
    |some r=>obtain⟨av,aY⟩:=r;rw[hs] at h;rw[stepT_spec hs];exact uQ h
noncomputable def PZ(P:Params):BT:=.node (boot_o_0 P) (.node (boot_o_1 P) (.node (boot_o_3 P) (.node (boot_o_7 P) .nil .nil) .nil) (.node (boot_o_5 P) (.node (boot_o_9 P) .nil .nil) .nil)) (.node (boot_o_2 P) (.node (boot_o_4 P) (.node (boot_o_8 P) .nil .nil) .nil) (.node (boot_o_6 P) (.node (boot_o_10 P) .nil .nil) .nil))
noncomputable abbrev PR:Program:=PySem.Challenge.rw_jp0035_01.row.toRowW.1
noncomputable def Ww(w:World)(os:OsState):SharedT:=⟨PZ w.params,11,{},#[],boot_drawn,boot_toks,os⟩
theorem Jm(w:World)(os:OsState):(Ww w os).abs=⟨boot_heap w.params,#[],boot_drawn,boot_toks,os⟩:=by kernel_rfl
noncomputable def Ze(s:Stmt):Int:=((OS s).2.2.2.line:Nat)
noncomputable def C2(b:acr)(n:Str):Stmt:=(b.find? λs=>OT s==n).getD (.Pass ⟨0,0,0,0⟩)
noncomputable def fO(st:Stmt)(q m:Str)(mt c:Nat)(dV:Value):Obj:=⟨.type "function",none,.func (fnOf (OT st) q (Eu st) (o5 st) (mq st) dV .none .none (.str m mt) none (.ref c) .none),#[]⟩
noncomputable def cO(st:Stmt)(q:Str)(t k c:Nat):Obj:=
 let b:=if k==3 then 0 else 2
 ⟨.type "code",none,.fields ([.str (OT st) t,.str q (t+1),.str "/claim/cut.py" (t+2),.int (Ze st) 0,.int ((Eu st).args.length:Nat) 0,.int 0 0,.int 0 0,.int 3 0,.ref (c-3-b),.bool true,.int 181 0,.ref (c-2-b),.none,
  if k==3 then .none else .ref (c-3),if k==3 then .none else .ref (c-2),.ref (c-1),.int (t+k:Nat) 0,.int (Ze st) 0,.str "/claim/cut.py" (t+k+1)]:acp).toArray,#[]⟩
noncomputable def uz(b:acr)(pre m:Str)(mt:Nat)(x:Nat×Str×Nat×Nat×Nat):List (Addr×Obj):=
 let st:=C2 b x.2.1;let q:=pre++x.2.1
 [(x.1,fO st q m mt (x.1-1) (if x.2.2.2.2==0 then .none else .ref x.2.2.2.2)),(x.1-1,cO st q x.2.2.1 x.2.2.2.1 (x.1-1))]
noncomputable def C3(i:Nat):acr:=kS (topS i) 0
noncomputable def dE(P:Params)(x:Str×Nat×Value):DictEntry:=⟨PyData.keyHash P x.1,.str x.1 x.2.1,x.2.2⟩
noncomputable def dO(P:Params)(n:Nat)(l:List (Str×Nat×Value)):Obj:=⟨.type "dict",none,.dict (l.map (dE P)).toArray n,#[]⟩
noncomputable def rE(x:Str×Nat×Nat):Str×Nat×Value:=(x.1,x.2.1,.ref x.2.2)
noncomputable def tO:Obj:=⟨.type "tuple",none,.seq #[.bool false] 0,#[]⟩
noncomputable def kO(nm:Str)(c t u:Nat):Obj:=⟨.type "type",none,.cls {name:=nm,bases:=[.type "object"],mro:=[.ref c,.type "object"],ns:=c-1,qualname:=nm},#[none,none,some (.str nm t),some (.str nm u),some (.builtin "object.__new__"),some (.bool true)]⟩
noncomputable def C4:List (Addr×Obj):=List.flatMap (uz (PR.main.body) "" "rsa.common" 194) [(49,"extended_gcd",229,12,0),(56,"inverse",244,8,0),(63,"crt",255,12,0)]
noncomputable def Wy:List (Addr×Obj):=List.flatMap (uz (C3 7) "MatrixGeneric." "dilithium_py.modules.modules_generic" 270) [(78,"__init__",284,7,71),(83,"_check_dimensions",294,3,0),(90,"dim",300,4,0),(97,"transpose",307,4,0),(112,"reduce_coefficients",323,6,0),(119,"__getitem__",332,5,0),(133,"__eq__",347,9,0),(138,"__neg__",359,3,0),(143,"__add__",365,3,0),(150,"__iadd__",371,5,0),(155,"__sub__",379,3,0),(162,"__isub__",385,5,0),(167,"__matmul__",393,3,0)]
noncomputable def row2:List (Addr×Obj):=List.flatMap (uz (C3 8) "ModuleGeneric." "dilithium_py.modules.modules_generic" 270) [(202,"__init__",439,5,0),(210,"matrix_of",447,6,203),(218,"__call__",456,8,211)]
noncomputable def Wz:List (Addr×Obj):=List.flatMap (uz (C3 10) "PolynomialRingGeneric." "dilithium_py.polynomials.polynomials_generic" 476) [(239,"__init__",490,6,0),(260,"__call__",513,5,0),(267,"is_element",521,5,0)]
noncomputable def WA:List (Addr×Obj):=List.flatMap (uz (C3 11) "PolynomialGeneric." "dilithium_py.polynomials.polynomials_generic" 476) [(288,"__init__",551,6,0),(307,"_parse_coefficients",574,3,0),(312,"reduce_coefficients",580,3,0),(319,"_add_mod_q",586,6,0),(326,"_sub_mod_q",595,6,0),(331,"_schoolbook_multiplication",604,3,0),(336,"__neg__",610,3,0),(341,"_add_",616,3,0),(348,"__add__",622,6,0),(355,"__radd__",631,5,0),(362,"__iadd__",639,5,0),(367,"_sub_",647,3,0),(374,"__sub__",653,6,0),(381,"__rsub__",662,5,0),(388,"__isub__",670,5,0),(393,"__mul__",678,3,0),(400,"__rmul__",684,5,0),(407,"__imul__",692,5,0),(414,"__pow__",700,7,0),(421,"__eq__",710,5,0),(428,"__getitem__",718,5,0)]
noncomputable def WB:List (Addr×Obj):=List.flatMap (uz (C3 13) "GenericPolynomialRing." "kyber_py.polynomials.polynomials_generic" 737) [(449,"__init__",751,6,0),(470,"__call__",774,5,0)]
noncomputable def WC:List (Addr×Obj):=List.flatMap (uz (C3 14) "GenericPolynomial." "kyber_py.polynomials.polynomials_generic" 737) [(491,"__init__",804,6,0),(510,"_parse_coefficients",827,3,0),(515,"reduce_coefficients",833,3,0),(522,"_add_mod_q",839,6,0),(529,"_sub_mod_q",848,6,0),(534,"_schoolbook_multiplication",857,3,0),(539,"__neg__",863,3,0),(544,"_add_",869,3,0),(551,"__add__",875,6,0),(558,"__radd__",884,5,0),(565,"__iadd__",892,5,0),(570,"_sub_",900,3,0),(577,"__sub__",906,6,0),(584,"__rsub__",915,5,0),(591,"__isub__",923,5,0),(596,"__mul__",931,3,0),(603,"__rmul__",937,5,0),(610,"__imul__",945,5,0),(617,"__pow__",953,7,0),(624,"__eq__",963,5,0),(631,"__getitem__",971,5,0)]
noncomputable def WD:List (Addr×Obj):=List.flatMap (uz (C3 16) "GenericMatrix." "kyber_py.modules.modules_generic" 990) [(653,"__init__",1004,7,646),(660,"dim",1014,4,0),(667,"_check_dimensions",1021,5,0),(674,"transpose",1029,4,0),(689,"reduce_coefficients",1045,6,0),(696,"__getitem__",1054,5,0),(701,"__eq__",1062,3,0),(706,"__neg__",1068,3,0),(711,"__add__",1074,3,0),(718,"__iadd__",1080,5,0),(723,"__sub__",1088,3,0),(730,"__isub__",1094,5,0),(735,"__matmul__",1102,3,0)]
noncomputable def WE:List (Addr×Obj):=List.flatMap (uz (C3 17) "GenericModule." "kyber_py.modules.modules_generic" 990) [(763,"__init__",1140,5,0),(771,"matrix_of",1148,6,764),(779,"__call__",1157,7,772)]
noncomputable def WG:List (Addr×Obj):=List.flatMap (uz (PR.main.body) "" "law_jp0035_01" 1184) [(800,"_law_number",1188,5,0),(807,"_law_run",1196,17,0),(812,"_law_plain",1216,3,0),(819,"_law_digits",1222,9,0),(824,"_law_rows",1234,3,0),(829,"law",1240,3,0)]
noncomputable def P1(P:Params):List (Addr×Obj):=[(3,dO P 29 (List.flatten [[("__name__",165,.str "law_jp0035_01" 1184),("__doc__",166,.none),("__package__",167,.none),("__loader__",168,.builtin "__main__.__loader__#opaque"),("__spec__",169,.none)],List.map rE [("__annotations__",170,6),("__builtins__",171,4)],[("__file__",173,.str "/claim/cut.py" 172),("__cached__",174,.none)],List.map rE [("_wall",193,21),("NotRelativePrimeError",228,39),("extended_gcd",243,49),("inverse",254,56),("crt",269,63),("MatrixGeneric",426,184),("ModuleGeneric",475,221),("PolynomialRingGeneric",538,270),("PolynomialGeneric",736,431),("GenericPolynomialRing",791,473),("GenericPolynomial",989,634),("GenericMatrix",1127,745),("GenericModule",1183,789)],[("_law_bits",1187,.int 2304 1186)],List.map rE [("_law_number",1195,800),("_law_run",1215,807),("_law_plain",1221,812),("_law_digits",1233,819),("_law_rows",1239,824),("law",1245,829)]])),
 (183,dO P 5 (List.flatten [[("__module__",279,.str "dilithium_py.modules.modules_generic" 270),("__firstlineno__",283,.int 44 282)],List.map rE [("__init__",293,78),("_check_dimensions",299,83),("dim",306,90),("transpose",313,97),("transpose_self",320,104),("T",322,105),("reduce_coefficients",331,112),("__getitem__",339,119),("rows",346,126),("__eq__",358,133),("__neg__",364,138),("__add__",370,143),("__iadd__",378,150),("__sub__",384,155),("__isub__",392,162),("__matmul__",398,167),("scale",406,174),("dot",414,181),("__static_attributes__",418,182),("__dict__",420,185),("__weakref__",422,186)],[("__doc__",423,.none),("__hash__",424,.none)]])),
 (220,dO P 4 (List.flatten [[("__module__",434,.str "dilithium_py.modules.modules_generic" 270),("__firstlineno__",438,.int 140 437)],List.map rE [("__init__",446,202),("matrix_of",455,210),("__call__",466,218),("__static_attributes__",468,219),("__dict__",470,222),("__weakref__",472,223)],[("__doc__",473,.none)]])),
 (269,dO P 4 (List.flatten [[("__module__",485,.str "dilithium_py.polynomials.polynomials_generic" 476),("__firstlineno__",489,.int 163 488)],List.map rE [("__init__",498,239),("zero",505,246),("gen",512,253),("__call__",520,260),("is_element",528,267),("__static_attributes__",531,268),("__dict__",533,271),("__weakref__",535,272)],[("__doc__",536,.none)]])),
 (430,dO P 5 (List.flatten [[("__module__",546,.str "dilithium_py.polynomials.polynomials_generic" 476),("__firstlineno__",550,.int 184 549)],List.map rE [("__init__",559,288),("is_zero",566,295),("is_constant",573,302),("_parse_coefficients",579,307),("reduce_coefficients",585,312),("_add_mod_q",594,319),("_sub_mod_q",603,326),("_schoolbook_multiplication",609,331),("__neg__",615,336),("_add_",621,341),("__add__",630,348),("__radd__",638,355),("__iadd__",646,362),("_sub_",652,367),("__sub__",661,374),("__rsub__",669,381),("__isub__",677,388),("__mul__",683,393),("__rmul__",691,400),("__imul__",699,407),("__pow__",709,414),("__eq__",717,421),("__getitem__",725,428),("__static_attributes__",728,429),("__dict__",730,432),("__weakref__",732,433)],[("__doc__",733,.none),("__hash__",734,.none)]])),
 (472,dO P 4 (List.flatten [[("__module__",746,.str "kyber_py.polynomials.polynomials_generic" 737),("__firstlineno__",750,.int 310 749)],List.map rE [("__init__",759,449),("zero",766,456),("gen",773,463),("__call__",781,470),("__static_attributes__",784,471),("__dict__",786,474),("__weakref__",788,475)],[("__doc__",789,.none)]])),
 (633,dO P 5 (List.flatten [[("__module__",799,.str "kyber_py.polynomials.polynomials_generic" 737),("__firstlineno__",803,.int 328 802)],List.map rE [("__init__",812,491),("is_zero",819,498),("is_constant",826,505),("_parse_coefficients",832,510),("reduce_coefficients",838,515),("_add_mod_q",847,522),("_sub_mod_q",856,529),("_schoolbook_multiplication",862,534),("__neg__",868,539),("_add_",874,544),("__add__",883,551),("__radd__",891,558),("__iadd__",899,565),("_sub_",905,570),("__sub__",914,577),("__rsub__",922,584),("__isub__",930,591),("__mul__",936,596),("__rmul__",944,603),("__imul__",952,610),("__pow__",962,617),("__eq__",970,624),("__getitem__",978,631),("__static_attributes__",981,632),("__dict__",983,635),("__weakref__",985,636)],[("__doc__",986,.none),("__hash__",987,.none)]])),
 (744,dO P 5 (List.flatten [[("__module__",999,.str "kyber_py.modules.modules_generic" 990),("__firstlineno__",1003,.int 458 1002)],List.map rE [("__init__",1013,653),("dim",1020,660),("_check_dimensions",1028,667),("transpose",1035,674),("transpose_self",1042,681),("T",1044,682),("reduce_coefficients",1053,689),("__getitem__",1061,696),("__eq__",1067,701),("__neg__",1073,706),("__add__",1079,711),("__iadd__",1087,718),("__sub__",1093,723),("__isub__",1101,730),("__matmul__",1107,735),("dot",1115,742),("__static_attributes__",1119,743),("__dict__",1121,746),("__weakref__",1123,747)],[("__doc__",1124,.none),("__hash__",1125,.none)]])),
 (788,dO P 4 (List.flatten [[("__module__",1135,.str "kyber_py.modules.modules_generic" 990),("__firstlineno__",1139,.int 550 1138)],List.map rE [("__init__",1147,763),("matrix_of",1156,771),("__call__",1166,779),("vector",1174,786),("__static_attributes__",1176,787),("__dict__",1178,790),("__weakref__",1180,791)],[("__doc__",1181,.none)]]))]
noncomputable def clss:List (Addr×Obj):=[(184,kO "MatrixGeneric" 184 272 280),(221,kO "ModuleGeneric" 221 427 435),(270,kO "PolynomialRingGeneric" 270 478 486),(431,kO "PolynomialGeneric" 431 539 547),(473,kO "GenericPolynomialRing" 473 739 747),(634,kO "GenericPolynomial" 634 792 800),(745,kO "GenericMatrix" 745 992 1000),(789,kO "GenericModule" 789 1128 1136)]
noncomputable def tups:List (Addr×Obj):=[71,203,211,646,764,772].map λa=>(a,tO)
noncomputable def K0(P:Params):Frag:=P1 P++clss++tups++C4++Wy++row2++Wz++WA++WB++WC++WD++WE++WG
noncomputable def WH:acq:=[3,183,220,269,430,472,633,744,788,184,221,270,431,473,634,745,789,71,203,211,646,764,772,49,48,56,55,63,62,78,77,83,82,90,89,97,96,112,111,119,118,133,132,138,137,143,142,150,149,155,154,162,161,167,166,202,201,210,209,218,217,239,238,260,259,267,266,288,287,307,306,312,311,319,318,326,325,331,330,336,335,341,340,348,347,355,354,362,361,367,366,374,373,381,380,388,387,393,392,400,399,407,406,414,413,421,420,428,427,449,448,470,469,491,490,510,509,515,514,522,521,529,528,534,533,539,538,544,543,551,550,558,557,565,564,570,569,577,576,584,583,591,590,596,595,603,602,610,609,617,616,624,623,631,630,653,652,660,659,667,666,674,673,689,688,696,695,701,700,706,705,711,710,718,717,723,722,730,729,735,734,763,762,771,770,779,778,800,799,807,806,812,811,819,818,824,823,829,828]
noncomputable def T0:List (Addr×Addr):=[(132,128),(166,164),(217,213),(734,732),(778,774)]
noncomputable def C5:Obj:=⟨.none,none,.fields #[],#[]⟩
noncomputable def vq:Program:={PR with main:={PR.main with body:=[topS 25]}}
noncomputable def oq:acv:=["NotRelativePrimeError","extended_gcd","inverse","crt","MatrixGeneric","ModuleGeneric","PolynomialRingGeneric","PolynomialGeneric","GenericPolynomialRing","GenericPolynomial","GenericMatrix","GenericModule","_wall","_law_bits","_law_number","_law_run","_law_plain","_law_digits","_law_rows"]
noncomputable def Jo(s:Shared):List (Option Obj)×List (Option Obj):=(WH.map s.heap.get?,T0.map λq=>s.heap.get? q.2)
noncomputable def Jp(s:SharedT)(a:Nat):Option Obj:=bif Nat.blt a s.n then alive ((s.tree.get a).getD default) else none
noncomputable def MN(s:SharedT):List (Option Obj)×List (Option Obj):=(WH.map (Jp s),T0.map λq=>Jp s q.2)
noncomputable def Jq(w:World):List (Option Obj)×List (Option Obj):=((K0 w.params).map λp=>some p.2,T0.map λ_=>some C5)
noncomputable def seenQ(w:World)(s:SharedT):=((staticsOk (importedModules PR.main.body) (boot_heap w.params) s.abs.heap&&namesBound PR s.abs.heap&&gensDone s.abs&&laidKept (boot_heap w.params) s.abs.heap,PySem.W.Fast.tw4187177175401517315 vq oq (importedModules PR.main.body) (λ_=>true) true s.abs),MN s)
theorem Jr(P:Params):WH=(K0 P).map (·.1):=by kernel_rfl
theorem top_check(w:World):(λos=>(EM PR w 10606 (Ww w os) (topStub PR)).map (seenQ w))=λos=>some ((true,openGood vq oq),Jq w):=by kernel_rfl
noncomputable abbrev RW:RowW:=PySem.Challenge.rw_jp0035_01.row.toRowW
noncomputable def WI(s:Stmt):Pos:=(OS s).2.2.2
noncomputable def zR:DefRec:=⟨"law",Eu (topS 25),o5 (topS 25),mq (topS 25),WI (topS 25)⟩
theorem MO:defOf vq "law"=some (zR,[]):=by kernel_rfl
theorem C6(args:List WData):RW.claim.post args (.bool true) args=true:=by kernel_rfl
noncomputable abbrev MP:=PySem.Challenge.rw_jp0035_01
noncomputable abbrev SE:acr:=MP.row.prog.main.body
theorem Js:noRoadLSs {strict:=false,foot:=none,bare:=[]} SE=true:=(ab7 (ab7 PySem.W.Fast.te8326940854005059898 _) _).trans (by kernel_rfl)
theorem Jt:(namesMeet MP.row.prog SE λ_ n=>attrL n)=true:=(ab7 (ab7 (ab7 PySem.W.Fast.te17119622794617984870 _) _) _).trans (by rw[PySem.W.Fast.te17868728402115742887];kernel_rfl)
theorem MQ:namesResolve MP.row.prog=true:=(ab7 PySem.W.Fast.te8377067652309620493 _).trans (by kernel_rfl)
theorem C7:(!(importedModules SE).all cThrough.contains)=false:=by kernel_rfl
theorem Ju:(["vars","dir","locals"]:acv).filter (readsOut MP.row.prog SE)=[]:=by rw[PySem.W.Fast.te13343964577679436407];kernel_rfl
theorem EN:looksOpen MP.row.prog=true:=by delta looksOpen;refine acg (acg (acg (acg (acg (by kernel_rfl) (by kernel_rfl)) MQ) (by kernel_rfl)) ?_) Jt;rw[C7,Ju];exact Js
theorem row_said:MP.row.wellSaid=true:=by
 delta OpenRow.wellSaid;refine acg (acg ?_ (by kernel_rfl)) (by kernel_rfl);delta OpenRow.partSaid
 iterate 13 (refine acg ?_ (by kernel_rfl))
 exact EN
theorem Jv:MP.wellSaid=true:=by
 delta OpenLaw.wellSaid
 iterate 18 (refine acg ?_ (by kernel_rfl))
 exact row_said
theorem Jw:RW.prog.bare:=⟨J,J,J,J,J,by kernel_rfl⟩
inductive VS where
 |v (m:MV)
 |own (a:Addr) (l:acw)
 |obj (x dx C:Addr) (fs:acj)
noncomputable def foot:VS->acq
 |.v _=>[]
 |.own a _=>[a]
 |.obj x dx _ _=>[x,dx]
noncomputable abbrev aC:=List (Str×VS)
noncomputable def fX(h:Heap)(D W:acq)(val:Value):VS->Prop
 |.v m=>Den h D val m
 |.own a l=>val = .ref a/\a∈W/\∃items n,h.get? a=some {cls:=.type "list",data:=.seq items n}/\bD h D items.toList l
 |.obj x dx Cc fs=>val = .ref x/\x∈W/\dx∈W/\x≠dx/\∃es n vals,fW h x dx Cc es n vals/\es.length<=fs.length/\dF h D vals fs
structure Gm where
 k:Nat
 env:Env
 S:acv
 Do:acq
structure Good(k:Nat)(A:Around):Prop where
 handled:A.handled=none
 depth:A.depth+5*k+5<recursionLimit
 units:A.units+40*k+40<cLine
theorem Good.le{k k':Nat}{A:Around}(G:Good k A)(h:k'<=k):Good k' A:=⟨G.handled,by have:=G.depth;exact Tq h this,by have:=G.units;exact Tr h this⟩
theorem Good.room{k:Nat}{A:Around}(G:Good k A):A.depth<recursionLimit:=by have:=G.depth;exact Tt this
theorem Good.MS{k:Nat}{A:Around}(G:Good k A):A.units<cLine:=by have:=G.units;exact Tu this
inductive Zf(Γ:Gm)(W:acq)(h:Heap)(vs:aC):Prop
 |mk (m:Str->Option Value):h.Ns Γ.env.locals m->(∀x st,vs.lookup x=some st->Γ.env.kindOf x=some .local->∃a,m x=some a/\fX h (W++Γ.Do) W a st)->Zf Γ W h vs
inductive LP(Γ:Gm)(W:acq)(h:Heap)(x:Str)(st:VS):Prop
 |mk (c:Addr) (a:Value):Γ.env.cells.lookup x=some c->h.IsCell c (some a)->fX h (W++Γ.Do) W a st->LP Γ W h x st
inductive P4(Γ:Gm)(W:acq)(h:Heap)(x:Str):Prop
 |mk (c:Addr) (v:Option Value):Γ.env.cells.lookup x=some c->c∈W->h.IsCell c v->P4 Γ W h x
structure Fm(C:Cx)(Γ:Gm)(W:acq)(h:Heap)(vs:aC):Prop where
 kind:Γ.env.scope.kind = .function
 glob:Γ.env.globals=mainGlobals
 bi:Γ.env.builtins=builtinsNs
 ns:Zf Γ W h vs
 cell:∀x st,vs.lookup x=some st->(Γ.env.kindOf x=some .cell\/Γ.env.kindOf x=some .free)->LP Γ W h x st
 zS:∀x∈Γ.S,P4 Γ W h x
 lW:Γ.env.locals∈W
 tabs:∀d∈C.tabs,d∈Γ.Do
 lo:∀d∈W,C.H.objs.size<=d
 hi:∀d∈W++Γ.Do,d<h.objs.size
 apart:∀x y c c',Γ.env.cells.lookup x=some c->Γ.env.cells.lookup y=some c'->x≠y->c≠c'
 cI:∀x c,Γ.env.cells.lookup x=some c->c∈W++Γ.Do/\C.H.objs.size<=c
 fY:∀x c,Γ.env.cells.lookup x=some c->c≠Γ.env.locals
 gH:∀x st a,vs.lookup x=some st->a∈foot st->a≠Γ.env.locals/\(∀y c,Γ.env.cells.lookup y=some c->c≠a)/\a∈W/\a∉Γ.Do
 iY:∀x y st jg a,vs.lookup x=some st->vs.lookup y=some jg->a∈foot st->a∈foot jg->x=y
section
variable{C:Cx}{Γ:Gm}{W:acq}{s s':Shared}{vs:aC}
theorem EO(I:Inv C s){P:Addr}(hP:P∈C.tabs):∃ps,s.heap.get? P=some {cls:=.none,data:=.fields ps}:=by obtain⟨q,hq,rfl⟩:=aan.mp hP;obtain⟨ps,_,ht⟩:=I.tab q hq;exact⟨ps,ht.2⟩
theorem MT(I:Inv C s){P:Addr}(hP:P∈C.tabs):P<C.H.objs.size:=by obtain⟨q,hq,rfl⟩:=aan.mp hP;obtain⟨_,t0⟩:=I.ok.code q hq;exact aaB t0.2
theorem xJ(I:Inv C s){c:Addr}{v}(hc:s.heap.IsCell c v):c∉C.tabs:=λq=>by obtain⟨ps,e⟩:=EO I q;obtain⟨o,ho,hd⟩:=hc;replace ho:=e▸ho;cases ho;cases hd
theorem aX(I:Inv C s){c:Addr}(hc:C.H.objs.size<=c):c∉C.tabs:=λq=>absurd (MT I q) (aaw.mpr hc)
theorem Den.dJ(I:Inv C s)(t:bL C [] s s'){D:acq}(hD:∀d∈C.tabs,d∈D){a:Value}{m:MV}(d:Den s.heap D a m):Den s'.heap D a m:=
 d.kept t.keep (λd hd=>by rcases aag.mp hd with q |q;cases q;exact hD d q) (λd hd=>.inl hd)
theorem bD.dJ(I:Inv C s)(t:bL C [] s s'){D:acq}(hD:∀d∈C.tabs,d∈D){a:acp}{m:acw}(d:bD s.heap D a m):bD s'.heap D a m:=
 d.kept t.keep (λd hd=>by rcases aag.mp hd with q |q;cases q;exact hD d q) (λd hd=>.inl hd)
theorem dF.dJ(I:Inv C s)(t:bL C [] s s'){D:acq}(hD:∀d∈C.tabs,d∈D){a:aci}{m:acj}(d:dF s.heap D a m):dF s'.heap D a m:=
 d.kept t.keep (λd hd=>by rcases aag.mp hd with q |q;cases q;exact hD d q) (λd hd=>.inl hd)
theorem fX.dJ(I:Inv C s)(t:bL C [] s s'){D:acq}(hD:∀d∈C.tabs,d∈D)(hlo:∀d∈W,C.H.objs.size<=d){a:Value}{st:VS}(d:fX s.heap D W a st):fX s'.heap D W a st:=by
 refine nb λnn=>?_;cases st with
 |v m=>exact nn<|Den.dJ I t hD d
 |own b l=>
  obtain⟨e,hb,items,n,ho,ds⟩:=d;exact nn<|⟨e,hb,items,n,t.keep b _ (λq=>by rcases aag.mp q with q |q;cases q;exact aX I (hlo b hb) q) ho,bD.dJ I t hD ds⟩
 |obj x dx Cc fs=>
  obtain⟨e,hx,hd,kI,es,n,vals,⟨h1,h2,h3⟩,hle,df⟩:=d;have kk:∀b∈W,b∉[]++C.tabs:=λb hb q=>by rcases aag.mp q with q |q;cases q;exact aX I (hlo b hb) q
  exact nn<|⟨e,hx,hd,kI,es,n,vals,⟨t.keep x _ (kk x hx) h1,t.keep dx _ (kk dx hd) h2,h3⟩,hle,dF.dJ I t hD df⟩
theorem Fm.cj(F:Fm C Γ W s.heap vs):∀d∈C.tabs,d∈W++Γ.Do:=λd hd=>aad _ (F.tabs d hd)
theorem Fm.dJ(F:Fm C Γ W s.heap vs)(I:Inv C s)(t:bL C [] s s'):Fm C Γ W s'.heap vs:=by
 have kc:∀{c v},s.heap.IsCell c v->s'.heap.IsCell c v:=λ{c v} hc=>by have nt:=xJ I hc;obtain⟨o,ho,hd⟩:=hc;exact⟨o,t.keep c o (by simpa using nt) ho,hd⟩
 refine⟨F.kind,F.glob,F.bi,?_,?_,?_,F.lW,F.tabs,F.lo,λd hd=>aao (F.hi d hd) t.size,F.apart,F.cI,F.fY,F.gH,F.iY⟩
 .obtain⟨m,hn,hv⟩:=F.ns
  refine⟨m,abY hn λo e=>t.keep _ o (by simpa using aX I (F.lo _ F.lW)) e,λx st hx hk=>?_⟩;obtain⟨a,ha,d⟩:=hv x st hx hk;exact⟨a,ha,d.dJ I t F.cj F.lo⟩
 .intro x st hx hk
  obtain⟨c,a,hc,hi,d⟩:=F.cell x st hx hk;exact⟨c,a,hc,kc hi,d.dJ I t F.cj F.lo⟩
 .intro x hx
  obtain⟨c,v,hc,hW,hi⟩:=F.zS x hx;exact⟨c,v,hc,hW,kc hi⟩
end
noncomputable abbrev ig:ach:=λ_ _=>False
noncomputable def nj(C:Cx)(D:acq)(s:Shared)(v:MV)(a:Value)(s':Shared):Prop:=Den s'.heap D a v/\bL C [] s s'/\Inv C s'
noncomputable def Ev(C:Cx)(Γ:Gm)(vs:aC)(e:Expr)(v:MV):Prop:=
 ∀A s W,Good Γ.k A->Inv C s->Fm C Γ W s.heap vs->wpAny (model P0 C.w) A (eval e Γ.env) (nj C (W++Γ.Do) s v) ig s
section
variable{C:Cx}{Γ:Gm}{W:acq}{s s':Shared}{vs:aC}{A:Around}{E:ach}{e:Expr}{v:MV}
theorem Ev.use(H:Ev C Γ vs e v){Q:ach}(G:Good Γ.k A)(I:Inv C s)(F:Fm C Γ W s.heap vs)
 (h:∀a s',Den s'.heap (W++Γ.Do) a v->bL C [] s s'->Inv C s'->Fm C Γ W s'.heap vs->Q a s'):wpAny (model P0 C.w) A (eval e Γ.env) Q E s:=
 aaQ (H A s W G I F) (λa s' bI=>by obtain⟨d,t,I'⟩:=bI;exact h a s' d t I' (F.dJ I t)) (λ_ _ x=>x.elim)
theorem tok_inv(I:Inv C s)(n:Nat):Inv C {s with toks:=n}:=I.step (h':=s.heap) (W:=[]) (aaq _) (λ_ _ _ e=>e) n0
theorem tok_stp(n:Nat):bL C [] s {s with toks:=n}:=bL.heap (h':=s.heap) (aaq _) (λ_ _ _ e=>e)
theorem aA{i:Int}{k:Nat}{pos:Pos}(h:True:=trivial):Ev C Γ vs (.Constant (.int i) k pos) (.int i):=λA s W G I F=>
 wpAny_Constant_int ⟨.int _ _,tok_stp _,tok_inv I _⟩
end
structure lg(C:Cx)(D:acq)(h:Heap):Prop where
 tabs:∀d∈C.tabs,d∈D
 hi:∀d∈D,d<h.objs.size
 fr:∃L m,C.H.objs.size<=L/\h.Ns L m
section
variable{C:Cx}{Γ:Gm}{W D:acq}{s s':Shared}{vs:aC}{A:Around}{E:ach}{e:Expr}{v:MV}{k:Nat}
theorem Fm.mw(F:Fm C Γ W s.heap vs):lg C (W++Γ.Do) s.heap:=⟨F.cj,F.hi,let⟨m,hn,_⟩:=F.ns;⟨_,m,F.lo _ F.lW,hn⟩⟩
theorem lg.dJ(d:lg C D s.heap)(I:Inv C s)(t:bL C [] s s'):lg C D s'.heap:=⟨d.tabs,λx hx=>aao (d.hi x hx) t.size,
 let⟨L,m,hL,hn⟩:=d.fr;⟨L,m,hL,abY hn λo e=>t.keep _ o (by simpa using aX I hL) e⟩⟩
theorem lg.frame(d:lg C D s.heap)(I:Inv C s):∃L m,Fr (hideAll C.H C.tabs) L s.heap m/\C.K.In (hideAll C.H C.tabs):=by
 refine nb λnn=>?_;obtain⟨L,m,hL,hn⟩:=d.fr;refine nn<|⟨L,m,⟨hn,λb o e=>?_,by exact rl (hideAll_size ..) hL⟩,λa o e=>hideAll_get _ (I.ok.om a o e) λq=>by replace e:=(I.ok.PV a q)▸e;cases e⟩
 have nt:b∉C.tabs:=λq=>by replace e:=(hideAll_none _ q)▸e;cases e
 exact I.old b o nt (of_hideAll _ e)
theorem nj.trans{a:Value}{gp:Shared}(t:bL C [] s s')(x:nj C D s' v a gp):nj C D s v a gp:=⟨x.1,t.then x.2.1,x.2.2⟩
theorem nj.int(I:Inv C s)(i:Int)(tk:Tok)(n:Nat):nj C D s (.int i) (.int i tk) {s with toks:=n}:=⟨.int _ _,tok_stp _,tok_inv I _⟩
theorem nj.bool(I:Inv C s)(b:Bool):nj C D s (.bool b) (.bool b) s:=⟨.bool _,bL.refl _ _ _,I⟩
noncomputable def uR(C:Cx)(k:Nat)(op:Operator)(m₁ m₂ v:MV):Prop:=
 ∀A s D a b,Good k A->Inv C s->lg C D s.heap->Den s.heap D a m₁->Den s.heap D b m₂->wpAny (model P0 C.w) A (binaryOp op a b) (nj C D s v) ig s
noncomputable def ou(C:Cx)(k:Nat)(op:Operator)(m₁ m₂ v:MV):Prop:=
 ∀A s D a b,Good k A->Inv C s->lg C D s.heap->Den s.heap D a m₁->Den s.heap D b m₂->wpAny (model P0 C.w) A (inplaceOp op a b) (nj C D s v) ig s
noncomputable def iZ(C:Cx)(k:Nat)(op:CmpOp)(m₁ m₂ v:MV):Prop:=
 ∀A s D a b,Good k A->Inv C s->lg C D s.heap->Den s.heap D a m₁->Den s.heap D b m₂->wpAny (model P0 C.w) A (compareOp op a b) (nj C D s v) ig s
noncomputable def SG(C:Cx)(k:Nat)(op:UnaryOp)(m₁ v:MV):Prop:=
 ∀A s D a,Good k A->Inv C s->lg C D s.heap->Den s.heap D a m₁->wpAny (model P0 C.w) A (unaryOp op a) (nj C D s v) ig s
noncomputable def WJ(C:Cx)(k:Nat)(m:MV)(b:Bool):Prop:=
 ∀A s D a,Good k A->Inv C s->lg C D s.heap->Den s.heap D a m->wpAny (model P0 C.w) A (truthy a) (λr s'=>r=b/\bL C [] s s'/\Inv C s') ig s
noncomputable def EP(C:Cx)(D:acq)(s:Shared)(v:MV)(r:Result)(s':Shared):Prop:=∃a,r = .ok (.ret a)/\nj C D s v a s'
noncomputable def bJ(C:Cx)(k:Nat)(f:Value)(args:acw)(kw:acj)(v:MV):Prop:=
 ∀A s D vals eG,Good k A->Inv C s->lg C D s.heap->bD s.heap D vals args->dF s.heap D eG kw->codeAny (model P0 C.w) A (.call f ⟨vals,eG⟩) (EP C D s v) s
theorem cS{α:Type}{t:Sem α}{Q Q':α->Shared->Prop}(h:wpAny (model P0 C.w) A t Q ig s)(hQ:∀a s',Q a s'->Q' a s'):wpAny (model P0 C.w) A t Q' E s:=
 aaQ h hQ λ_ _ x=>x.elim
theorem g8{f:Value}{vals:acp}{eG:aci}{Q:ach}(h:codeAny (model P0 C.w) A (.call f ⟨vals,eG⟩) (EP C D s v) s')(hQ:∀a gp,nj C D s v a gp->Q a gp):wpAny (model P0 C.w) A (call f vals eG) Q E s':=
 wpAny_call (abm h λr gp bI=>by obtain⟨a,e,x⟩:=bI;subst e;exact hQ a gp x)
theorem aI{l r:Expr}{op:Operator}{pos:Pos}{m₁ m₂:MV}(gE:Ev C Γ vs l m₁)(iI:Ev C Γ vs r m₂)(H:uR C Γ.k op m₁ m₂ v):Ev C Γ vs (.BinOp l op r pos) v:=λA s W G I F=>
 wpAny_BinOp (gE.use G I F λa aq bx a_ aF aU=>iI.use G aF aU λb av bG aY bu bO=>
  cS (H A av _ a b G bu bO.mw (bx.dJ aF aY aU.cj) bG) λc bH x=>x.trans (a_.then aY))
theorem kr{l r:Expr}{op:CmpOp}{pos:Pos}{m₁ m₂:MV}(gE:Ev C Γ vs l m₁)(iI:Ev C Γ vs r m₂)(H:iZ C Γ.k op m₁ m₂ v)(hm:behindInMarks op r=false:=by with_unfolding_all rfl):Ev C Γ vs (.Compare l [op] [r] pos) v:=λA s W G I F=>
 wpAny_Compare1 (gE.use G I F λa aq bx a_ aF aU=>iI.use G aF aU λb av bG aY bu bO=>
  cS (H A av _ a b G bu bO.mw (bx.dJ aF aY aU.cj) bG) λc bH x=>x.trans (a_.then aY)) hm
theorem Be{x:Expr}{op:UnaryOp}{pos:Pos}{m₁:MV}(gE:Ev C Γ vs x m₁)(H:SG C Γ.k op m₁ v):Ev C Γ vs (.UnaryOp op x pos) v:=λA s W G I F=>
 wpAny_UnaryOp (gE.use G I F λa aq bx a_ aF aU=>cS (H A aq _ a G aF aU.mw bx) λc bH x=>x.trans a_)
theorem fy(a b:Int):uR C k .Add (.int a) (.int b) (.int (a+b)):=λA s D x y G I _ bx bG=>by cases bx.eL;cases bG.eL;exact add_int (.int I _ _ _)
theorem iN(a b:Int):uR C k .Sub (.int a) (.int b) (.int (a-b)):=λA s D x y G I _ bx bG=>by cases bx.eL;cases bG.eL;exact sub_int (.int I _ _ _)
theorem fz(a b:Int)(h:IntMulOk a b):uR C k .Mult (.int a) (.int b) (.int (a*b)):=λA s D x y G I _ bx bG=>by cases bx.eL;cases bG.eL;exact mul_int (.int I _ _ _) h
theorem b9(a b:Int)(h:b≠0):uR C k .Mod (.int a) (.int b) (.int (a.fmod b)):=λA s D x y G I _ bx bG=>by cases bx.eL;cases bG.eL;exact PyProof.Rows.mod_int h (.int I _ _ _)
theorem iF(a b:Int)(h:b≠0)(hp:Builtin.divisionGoesByPylong a b=false):uR C k .FloorDiv (.int a) (.int b) (.int (a.fdiv b)):=λA s D x y G I _ bx bG=>by cases bx.eL;cases bG.eL;exact floordiv_int h (.int I _ _ _) (.inl hp)
theorem sA(a n:Int)(hn:0<=n)(hsz:(Builtin.Int.intBits a:Int)*n<=2^27):uR C k .Pow (.int a) (.int n) (.int (a^n.toNat)):=λA s D x y G I _ bx bG=>by cases bx.eL;cases bG.eL;exact pow_int hn hsz (.int I _ _ _)
theorem ER(a:Int):SG C k .USub (.int a) (.int (-a)):=λA s D x G I _ bx=>by cases bx.eL;exact PyProof.Rows.neg_int (.int I _ _ _)
theorem gO(a b:Int):iZ C k .Eq (.int a) (.int b) (.bool (a==b)):=λA s D x y G I _ bx bG=>by cases bx.eL;cases bG.eL;exact PyProof.Rows.eq_int (.bool I _)
theorem v7(a b:Int):iZ C k .NotEq (.int a) (.int b) (.bool (a !=b)):=λA s D x y G I _ bx bG=>by cases bx.eL;cases bG.eL;exact PyProof.Rows.ne_int (.bool I _)
theorem mJ(a b:Int):iZ C k .Lt (.int a) (.int b) (.bool (decide (a<b))):=λA s D x y G I _ bx bG=>by cases bx.eL;cases bG.eL;exact PyProof.Rows.lt_int (.bool I _)
theorem cmp_gt(a b:Int):iZ C k .Gt (.int a) (.int b) (.bool (decide (b<a))):=λA s D x y G I _ bx bG=>by cases bx.eL;cases bG.eL;exact PyProof.Rows.gt_int (.bool I _)
noncomputable def Ld(C:Cx)(Γ:Gm)(vs:aC)(x:Str)(m:MV):Prop:=
 ∀A s W,Good Γ.k A->Inv C s->Fm C Γ W s.heap vs->wpAny (model P0 C.w) A (loadName Γ.env x) (nj C (W++Γ.Do) s m) ig s
theorem c6{x:Str}{m:MV}(hx:Γ.env.kindOf x=some .local)(hv:vs.lookup x=some (.v m)):Ld C Γ vs x m:=λA s W G I F=>by refine nb λnn=>?_;obtain⟨mm,hn,hl⟩:=F.ns;obtain⟨a,ha,d⟩:=hl x _ hv hx;exact nn<|wpAny_loadName_local F.kind hx hn ha ⟨d,bL.refl _ _ _,I⟩
theorem Bf{x:Str}{m:MV}(hx:Γ.env.kindOf x=some .cell)(hv:vs.lookup x=some (.v m)):Ld C Γ vs x m:=λA s W G I F=>by obtain⟨c,a,hc,hi,d⟩:=F.cell x _ hv (.inl hx);exact wpAny_loadName_cell F.kind hx hc hi ⟨d,bL.refl _ _ _,I⟩
theorem Jx{x:Str}{m:MV}(hx:Γ.env.kindOf x=some .free)(hv:vs.lookup x=some (.v m))(hn:(x==("__classdict__":Str))=false):Ld C Γ vs x m:=λA s W G I F=>by obtain⟨c,a,hc,hi,d⟩:=F.cell x _ hv (.inr hx);exact wpAny_loadName_free F.kind hx hc hi ⟨d,bL.refl _ _ _,I⟩ hn
theorem fV{x:Str}{pos:Pos}{m:MV}(H:Ld C Γ vs x m)(hd:(x==("__debug__":Str))=false):Ev C Γ vs (.Name x pos) m:=λA s W G I F=>wpAny_Name (H A s W G I F) hd
theorem bV{x:Str}{pos:Pos}{a:Value}{m:MV}(hx:Γ.env.kindOf x=some .globalImplicit)(e:nsIn C.K mainGlobals x=some (some a))(hm:∀h D,Den h D a m)(hd:(x==("__debug__":Str))=false):Ev C Γ vs (.Name x pos) m:=λA s W G I F=>
 Name_function_global F.kind hx (loadGlobal_global (env:=Γ.env) (by exact rl F.glob (I.top.g)) (mg_of I.om I.top.g e) ⟨hm _ _,bL.refl _ _ _,I⟩) hd
theorem P5{x:Str}{pos:Pos}{a:Value}(hx:Γ.env.kindOf x=some .globalImplicit)(e:nsIn C.K mainGlobals x=some none)(hb:bootBuiltins x=some a)(hn:x≠"__name__")(hs:su a=true)(hd:(x==("__debug__":Str))=false):Ev C Γ vs (.Name x pos) (.bZ a):=λA s W G I F=>
 Name_function_global F.kind hx (loadGlobal_builtin (env:=Γ.env) (by exact rl F.glob (I.top.g)) (mg_none_of I.om I.top.g e) (by exact rl F.bi (I.top.b)) ((I.top.builtins x hn).trans hb) ⟨.bZ _ hs,bL.refl _ _ _,I⟩) hd
theorem aM{x:Str}{pos:Pos}{a:Value}(e:nsIn C.K mainGlobals x=some none)(hb:bootBuiltins x=some a)(h:(Γ.env.kindOf x,x==("__name__":Str),su a,x==("__debug__":Str))=(some .globalImplicit,false,true,false)):Ev C Γ vs (.Name x pos) (.bZ a):=
 P5 (aaJ (·.1) h) e hb (ne_of_beq_false (aaJ (·.2.1) h)) (aaJ (·.2.2.1) h) (aaJ (·.2.2.2) h)
theorem lq{b:Bool}{k:Nat}{pos:Pos}:Ev C Γ vs (.Constant (.bool b) k pos) (.bool b):=λA s W G I F=>wpAny_Constant_bool (.bool I _)
theorem fH{x:Str}{k:Nat}{pos:Pos}:Ev C Γ vs (.Constant (.str x) k pos) (.str x):=λA s W G I F=>wpAny_Constant_str ⟨.str _ _,tok_stp _,tok_inv I _⟩
end
noncomputable def aG:aC->Str->VS->aC
 |[],x,st=>[(x,st)]
 |(y,t)::r,x,st=>if y==x then(y,st)::r else(y,t)::aG r x st
theorem au(vs:aC)(x:Str)(st:VS)(y:Str):(aG vs x st).lookup y=if y=x then some st else vs.lookup y:=by
 induction vs with
 |nil=>
  by_cases h:y=x
  .subst h;simp[aG]
  .have:(y==x)=false:=by simpa using h
   simp[aG,List.lookup,h,this]
 |cons p r ih=>
  obtain⟨z,t⟩:=p;unfold aG;by_cases hz:z=x
  .subst hz
   refine rl (aaN (by simp)) ?_;by_cases h:y=z
   .subst h;simp
   .have:(y==z)=false:=by simpa using h
    simp[List.lookup,h,this]
  .refine rl (aaD (by simpa using hz)) ?_
   by_cases h:y=z
   .subst h
    simp[List.lookup,hz]
   .have:(y==z)=false:=by simpa using h
    exact rl aaF (rl this (rl ih (rl aaF (rl this J))))
inductive Fl where
 |next |brk |cont
 |ret (v:MV)
noncomputable def Bg(h:Heap)(D:acq):Flow->Fl->Prop
 |.next,.next=>True
 |.brk,.brk=>True
 |.cont,.cont=>True
 |.ret a,.ret v=>Den h D a v
 |_,_=>False
inductive Ew(C:Cx)(Γ:Gm)(W:acq)(s:Shared)(fl:Fl)(vs':aC)(f:Flow)(s':Shared):Prop
 |mk (W':acq):(∀d∈W',d∈W\/s.heap.objs.size<=d)->Bg s'.heap Γ.Do f fl->Fm C Γ W' s'.heap vs'->bL C W s s'->Inv C s'->Ew C Γ W s fl vs' f s'
noncomputable def gq(C:Cx)(Γ:Gm)(vs:aC)(st:Stmt)(fl:Fl)(vs':aC):Prop:=
 ∀A s W,Good Γ.k A->Inv C s->Fm C Γ W s.heap vs->wpAny (model P0 C.w) A (exec st Γ.env) (Ew C Γ W s fl vs') ig s
noncomputable def mz(C:Cx)(Γ:Gm)(vs:aC)(ss:acr)(fl:Fl)(vs':aC):Prop:=
 ∀A s W,Good Γ.k A->Inv C s->Fm C Γ W s.heap vs->wpAny (model P0 C.w) A (execs ss Γ.env) (Ew C Γ W s fl vs') ig s
noncomputable def uS(C:Cx)(Γ:Gm)(W:acq)(s:Shared)(v:MV)(f:Flow)(s':Shared):Prop:=
 (match f with |.ret a=>Den s'.heap Γ.Do a v |.next=>v = .none |_=>False)/\bL C W s s'/\Inv C s'
noncomputable def Body(C:Cx)(Γ:Gm)(vs:aC)(ss:acr)(v:MV):Prop:=
 ∀A s W,Good Γ.k A->Inv C s->Fm C Γ W s.heap vs->wpAny (model P0 C.w) A (execs ss Γ.env) (uS C Γ W s v) ig s
section
variable{C:Cx}{Γ:Gm}{W D:acq}{s s':Shared}{vs vs' d7:aC}{A:Around}{E:ach}{e:Expr}{v:MV}{k:Nat}{fl:Fl}{st:Stmt}{ss:acr}
theorem Ew.trans{fP:acq}{aq av:Shared}{f:Flow}(hW:∀d∈fP,d∈W\/s.heap.objs.size<=d)(t:bL C W s aq)(x:Ew C Γ fP aq fl vs' f av):Ew C Γ W s fl vs' f av:=by
 obtain⟨W',h1,h2,h3,h4,h5⟩:=x;refine⟨W',λd hd=>?_,h2,h3,t.trans h4 (λd hd=>.inl hd) hW,h5⟩;rcases h1 d hd with q |q
 .exact hW d q
 .exact .inr (aaf t.size q)
theorem uS.trans{fP:acq}{aq av:Shared}{f:Flow}(hW:∀d∈fP,d∈W\/s.heap.objs.size<=d)(t:bL C W s aq)(x:uS C Γ fP aq v f av):uS C Γ W s v f av:=
 ⟨x.1,t.trans x.2.1 (λd hd=>.inl hd) hW,x.2.2⟩
theorem Bg.ji{h:Heap}{f:Flow}(x:Bg h D f .next):f = .next:=by cases f<;>first |rfl |cases x
theorem bL.up(t:bL C [] s s'):bL C W s s':=t.weak n0
theorem Fm.sub{h:Heap}(F:Fm C Γ W h vs)(hs:∀x st,vs'.lookup x=some st->vs.lookup x=some st):Fm C Γ W h vs':=
 ⟨F.kind,F.glob,F.bi,let⟨m,hn,hv⟩:=F.ns;⟨m,hn,λx st hx hk=>hv x st (hs x st hx) hk⟩,λx st hx hk=>F.cell x st (hs x st hx) hk,F.zS,F.lW,F.tabs,F.lo,F.hi,F.apart,F.cI,F.fY,
  λx st a hx=>F.gH x st a (hs _ _ hx),λx y st jg a hx hy=>F.iY x y st jg a (hs _ _ hx) (hs _ _ hy)⟩
theorem fX.same{h h':Heap}{W D:acq}{d:Addr}(hs:Heap.SameBut d h h')(hd:d∈D){a:Value}{st:VS}(ho:∀b∈foot st,b≠d)(x:fX h D W a st):fX h' D W a st:=by
 have kp:Kept [d] h h':=λb o hb e=>(hs.2 b (λq=>hb (by exact rl q ((.head _))))).trans e;have sub:∀x∈[d],x∈D:=m1 (hd);refine nb λnn=>?_;cases st with
 |v m=>exact nn<|Den.kept (D:=D) (D':=D) kp sub (λ_ q=>.inl q) x
 |own b l=>
  obtain⟨e,hb,items,n,hg,ds⟩:=x;exact nn<|⟨e,hb,items,n,(hs.2 b (ho b (.head _))).trans hg,bD.kept (D:=D) (D':=D) kp sub (λ_ q=>.inl q) ds⟩
 |obj x dx Cc fs=>
  obtain⟨e,hx,hdx,kI,es,n,vals,⟨h1,h2,h3⟩,hle,df⟩:=x;exact nn<|⟨e,hx,hdx,kI,es,n,vals,⟨(hs.2 _ (ho _ (.head _))).trans h1,(hs.2 _ (ho _ (.tail _ (.head _)))).trans h2,h3⟩,hle,dF.kept (D:=D) (D':=D) kp sub (λ_ q=>.inl q) df⟩
theorem Fm.C8(F:Fm C Γ W s.heap vs){x:Str}{a:Value}{m:MV}(d:Den s.heap (W++Γ.Do) a m){h':Heap}{mm:Str->Option Value}(hx:Γ.env.kindOf x=some .local)
 (hm:s.heap.Ns Γ.env.locals mm) (hv:∀y st,vs.lookup y=some st->Γ.env.kindOf y=some .local->∃a,mm y=some a/\fX s.heap (W++Γ.Do) W a st)
 (hn:h'.Ns Γ.env.locals (λy=>if y=x then some a else mm y)) (hs:Heap.SameBut Γ.env.locals s.heap h'):Fm C Γ W h' (aG vs x (.v m)):=by
 have lD:Γ.env.locals∈W++Γ.Do:=aah _ F.lW;have ES:∀y st,vs.lookup y=some st->∀b∈foot st,b≠Γ.env.locals:=λy st hy b hb=>(F.gH y st b hy hb).1;refine⟨F.kind,F.glob,F.bi,⟨_,hn,λy st hy hk=>?_⟩,λy st hy hk=>?_,λy hy=>?_,F.lW,F.tabs,F.lo,λz hz=>by exact rl hs.1 ((F.hi z hz)),F.apart,F.cI,F.fY,λy st b hy hb=>?_,λy z st jg b hy hz hb hb'=>?_⟩
 .replace hy:=(au ..)▸hy
  by_cases q:y=x
  .subst q
   replace hy:=(aaN J)▸hy;cases hy;exact⟨a,by simp,fX.same (W:=W) hs lD (st:=.v m) n0 d⟩
  .replace hy:=(aaD q)▸hy
   refine nb λnn=>?_;obtain⟨b,hb,db⟩:=hv y st hy hk;exact nn<|⟨b,by simpa [q] using hb,db.same hs lD (ES y st hy)⟩
 .replace hy:=(au ..)▸hy
  by_cases q:y=x
  .subst q;replace hk:=hx▸hk;rcases hk with q |q<;>cases q
  .replace hy:=(aaD q)▸hy
   obtain⟨c,b,hc,hi,db⟩:=F.cell y st hy hk;exact⟨c,b,hc,hi.sameBut hs (F.fY y c hc),db.same hs lD (ES y st hy)⟩
 .obtain⟨c,v,hc,hW,hi⟩:=F.zS y hy
  exact⟨c,v,hc,hW,hi.sameBut hs (F.fY y c hc)⟩
 .replace hy:=(au ..)▸hy
  refine nb λnn=>?_;by_cases q:y=x
  .replace hy:=(aaN q)▸hy;cases hy;cases hb
  .replace hy:=(aaD q)▸hy;exact nn<|F.gH y st b hy hb
 .rw[au] at hy hz
  by_cases q:y=x
  .replace hy:=(aaN q)▸hy
   refine nb λnn=>?_;cases hy;cases hb
  .by_cases q':z=x
   .replace hz:=(aaN q')▸hz;cases hz;cases hb'
   .replace hy:=(aaD q)▸hy;replace hz:=(aaD q')▸hz;exact F.iY y z st jg b hy hz hb hb'
theorem Fm.ET(F:Fm C Γ W s.heap vs){x:Str}{a:Value}{m:MV}(d:Den s.heap (W++Γ.Do) a m){h':Heap}{c:Addr}(hx:Γ.env.kindOf x=some .cell)(hc:Γ.env.cells.lookup x=some c)(hW:c∈W)
 (hn:h'.IsCell c (some a)) (hs:Heap.SameBut c s.heap h'):Fm C Γ W h' (aG vs x (.v m)):=by
 have lD:c∈W++Γ.Do:=aah _ hW;have ES:∀y st,vs.lookup y=some st->∀b∈foot st,b≠c:=λy st hy b hb q=>by subst q;exact(F.gH y st b hy hb).2.1 x b hc J
 refine⟨F.kind,F.glob,F.bi,?_,λy st hy hk=>?_,λy hy=>?_,F.lW,F.tabs,F.lo,λz hz=>by exact rl hs.1 ((F.hi z hz)),F.apart,F.cI,F.fY,λy st b hy hb=>?_,λy z st jg b hy hz hb hb'=>?_⟩
 .obtain⟨mm,hm,hv⟩:=F.ns
  refine⟨mm,hm.sameBut hs (abw (F.fY x c hc)),λy st hy hk=>?_⟩;replace hy:=(au ..)▸hy;refine nb λnn=>?_;by_cases q:y=x
  .subst q;replace hk:=hx▸hk;cases hk
  .replace hy:=(aaD q)▸hy
   obtain⟨b,hb,db⟩:=hv y st hy hk;exact nn<|⟨b,hb,db.same hs lD (ES y st hy)⟩
 .replace hy:=(au ..)▸hy
  refine nb λnn=>?_;by_cases q:y=x
  .subst q
   replace hy:=(aaN J)▸hy;cases hy;exact nn<|⟨c,a,hc,hn,fX.same (W:=W) hs lD (st:=.v m) n0 d⟩
  .replace hy:=(aaD q)▸hy
   obtain⟨c',b,jV,hi,db⟩:=F.cell y st hy hk;exact nn<|⟨c',b,jV,hi.sameBut hs (F.apart y x c' c jV hc q),db.same hs lD (ES y st hy)⟩
 .refine nb λnn=>?_
  obtain⟨c',v,jV,hW',hi⟩:=F.zS y hy;by_cases q:y=x
  .subst q;replace jV:=hc▸jV;cases jV;exact nn<|⟨c,_,hc,hW,hn⟩
  .exact nn<|⟨c',v,jV,hW',hi.sameBut hs (F.apart y x c' c jV hc q)⟩
 .replace hy:=(au ..)▸hy
  refine nb λnn=>?_;by_cases q:y=x
  .replace hy:=(aaN q)▸hy;cases hy;cases hb
  .replace hy:=(aaD q)▸hy;exact nn<|F.gH y st b hy hb
 .rw[au] at hy hz
  by_cases q:y=x
  .replace hy:=(aaN q)▸hy
   refine nb λnn=>?_;cases hy;cases hb
  .by_cases q':z=x
   .replace hz:=(aaN q')▸hz;cases hz;cases hb'
   .replace hy:=(aaD q)▸hy;replace hz:=(aaD q')▸hz;exact F.iY y z st jg b hy hz hb hb'
theorem gK{d:Addr}{h h':Heap}(hs:Heap.SameBut d h h'):Kept [d] h h':=λb o hb e=>(hs.2 b (λq=>hb (by exact rl q ((.head _))))).trans e
theorem bL.same{d:Addr}{h':Heap}{tk:Nat}(hs:Heap.SameBut d s.heap h')(hd:d∈W):bL C W s {s with heap:=h',toks:=tk}:=
 (bL.heap (W:=[d]) (aa1 hs.1.symm) (gK hs)).weak (sy hd)
theorem Inv.same(I:Inv C s){d:Addr}{h':Heap}{tk:Nat}(hs:Heap.SameBut d s.heap h')(hd:C.H.objs.size<=d):Inv C {s with heap:=h',toks:=tk}:=
 I.step (W:=[d]) (aa1 hs.1.symm) (gK hs) (sy hd)
noncomputable def rG(Γ:Gm)(x:Str):Prop:=Γ.env.kindOf x=some .local\/(Γ.env.kindOf x=some .cell/\x∈Γ.S)
theorem jQ{x:Str}(hx:rG Γ x){m:MV}{a:Value}(G:Good Γ.k A)(I:Inv C s)(F:Fm C Γ W s.heap vs)(d:Den s.heap (W++Γ.Do) a m){Q:Unit->Shared->Prop}
 (h:∀s',Fm C Γ W s'.heap (aG vs x (.v m))->bL C W s s'->Inv C s'->Q () s'):wpAny (model P0 C.w) A (storeName Γ.env x a) Q E s:=by
 refine nb λnn=>?_;rcases hx with hx |⟨hx,hS⟩
 .obtain⟨mm,hm,hv⟩:=F.ns
  refine nn<|wpAny_storeName_local hx hm (λh' hn hs=>h _ (F.C8 d hx hm hv hn hs) (bL.same hs F.lW) (I.same hs (F.lo _ F.lW))) ?_
  refine rl F.kind ?_;rfl
 .obtain⟨c,v₀,hc,hW,hi⟩:=F.zS x hS
  exact nn<|wpAny_storeName_cell F.kind hx hc hi λh' hn hs=>h _ (F.ET d hx hc hW hn hs) (bL.same hs hW) (I.same hs (F.lo _ hW))
noncomputable abbrev EU(scope:Scope)(t:Str)(py pos:Pos)(env:Env):Prop:=(env.blockKind==.function&&env.kindOf t==some .local && !(scope.names.any λq=>q.1==t&&(q.2==.local||q.2==.cell)),py.line)=(true,pos.line)
theorem Zg{elt:Expr}{gs:List Comprehension}{scope:Scope}{pos py:Pos}{t:Str}{l:Nat}{env:Env}(h:EU scope t py pos env):swapsWith (.ListComp elt gs scope pos) (some (.Name t py)) l env=pure true:=by have h1:=aaJ (·.1) h;have h2:py.line=pos.line:=aaJ (·.2) h;dsimp only at h1;replace h1:=(acd ..)▸h1;replace h1:=(acd ..)▸h1;show(pure (env.blockKind==.function&&env.kindOf t==some .local&&py.line==pos.line && !(scope.names.any λq=>q.1==t&&(q.2==.local||q.2==.cell))):Sem Bool)=_;refine rl h1.1.1 (rl h1.1.2 (rl h1.2 (rl h2 (rl (beq_self_eq_true ..) ?_))));rfl
theorem aE{x:Str}{e:Expr}{p p':Pos}{m:MV}(H:Ev C Γ vs e m)(hx:rG Γ x)(hs:swapsWith e (some (.Name x p')) p.line Γ.env=pure false):gq C Γ vs (.Assign [.Name x p'] e p) .next (aG vs x (.v m)):=λA s W G I F=>
 ab_ (H.use G I F λa aq bx a_ aF aU=>jQ hx G aF aU bx λav bO aY bu=>⟨W,λd q=>.inl q,trivial,bO,a_.up.trans aY (λd q=>.inl q) (λd q=>.inl q),bu⟩) hs
theorem aJ:mz C Γ vs [] .next vs:=λA s W G I F=>abv ⟨W,λd q=>.inl q,trivial,F,bL.refl _ _ _,I⟩
theorem aK(gE:gq C Γ vs st .next vs')(iI:mz C Γ vs' ss fl d7):mz C Γ vs (st::ss) fl d7:=λA s W G I F=>
 aas (cS (gE A s W G I F) λf aq bI=>by obtain⟨fP,h1,h2,aU,a_,aF⟩:=bI;cases Bg.ji h2;exact cS (iI A aq fP G aF aU) λf av x=>x.trans h1 a_)
theorem ir(gE:gq C Γ vs st fl vs')(hf:fl≠.next):mz C Γ vs (st::ss) fl vs':=λA s W G I F=>
 aas (cS (gE A s W G I F) λf aq bI=>by obtain⟨fP,h1,h2,aU,a_,aF⟩:=bI;cases f<;>first |exact⟨fP,h1,h2,aU,a_,aF⟩ |(cases fl<;>first |exact absurd J hf |cases h2))
theorem aQ(gE:gq C Γ vs st .next vs')(iI:Body C Γ vs' ss v):Body C Γ vs (st::ss) v:=λA s W G I F=>
 aas (cS (gE A s W G I F) λf aq bI=>by obtain⟨fP,h1,h2,aU,a_,aF⟩:=bI;cases Bg.ji h2;exact cS (iI A aq fP G aF aU) λf av x=>x.trans h1 a_)
theorem fZ(gE:gq C Γ vs st (.ret v) vs'):Body C Γ vs (st::ss) v:=λA s W G I F=>
 aas (cS (gE A s W G I F) λf aq bI=>by obtain⟨fP,h1,h2,aU,a_,aF⟩:=bI;cases f<;>first |cases h2;done |exact⟨h2,a_,aF⟩)
theorem jX{e:Expr}{p:Pos}(H:Ev C Γ vs e v):gq C Γ vs (.Return (some e) p) (.ret v) vs:=λA s W G I F=>
 abX (H.use G I F λa aq bx a_ aF aU=>⟨W,λd q=>.inl q,bx.kept (W:=[]) (λ_ _ _ e=>e) n0 (λd q=>.inl (aad _ q)),aU,a_.up,aF⟩)
theorem bB{e:Expr}{p:Pos}(H:Ev C Γ vs e v):Body C Γ vs (.Return (some e) p::ss) v:=fZ (jX H)
noncomputable def Ts(C:Cx)(Γ:Gm)(vs:aC)(e:Expr)(b:Bool):Prop:=
 ∀A s W,Good Γ.k A->Inv C s->Fm C Γ W s.heap vs->wpAny (model P0 C.w) A (isTrue e Γ.env (eval e Γ.env)) (λr s'=>r=b/\bL C [] s s'/\Inv C s') ig s
theorem bN{m:MV}{b:Bool}(H:Ev C Γ vs e m)(T:WJ C Γ.k m b)(he:isTrue e Γ.env (eval e Γ.env)=(do let v <- eval e Γ.env;standAt e.pos;holding [v] (truthy v)):=by rfl):Ts C Γ vs e b:=λA s W G I F=>
 wpAny_isTrue_value (H.use G I F λa aq bx a_ aF aU=>cS (T A aq _ a G aF aU.mw bx) λr av bI=>by obtain⟨h1,h2,h3⟩:=bI;exact⟨h1,a_.then h2,h3⟩) he
theorem bE(b:Bool):WJ C k (.bool b) b:=λA s D a G I _ d=>by cases d;exact ab' ⟨J,bL.refl _ _ _,I⟩
theorem bw{l r:Expr}{op:CmpOp}{pos:Pos}{m₁ m₂:MV}{b:Bool}(gE:Ev C Γ vs l m₁)(iI:Ev C Γ vs r m₂)(H:iZ C Γ.k op m₁ m₂ (.bool b))(hm:behindInMarks op r=false:=by with_unfolding_all rfl):Ts C Γ vs (.Compare l [op] [r] pos) b:=λA s W G I F=>
 wpAny_isTrue_Compare1 (gE.use G I F λa aq bx a_ aF aU=>iI.use G aF aU λc av bG aY bu bO=>
  cS (H A av _ a c G bu bO.mw (bx.dJ aF aY aU.cj) bG) λx bH bI=>by obtain⟨d₃,cW,ez⟩:=bI;cases d₃;exact ab' ⟨J,(a_.then aY).then cW,ez⟩) hm
theorem cF{x:Expr}{pos:Pos}{b:Bool}(H:Ts C Γ vs x b):Ts C Γ vs (.UnaryOp .Not x pos) (!b):=λA s W G I F=>
 wpAny_isTrue_Not (cS (H A s W G I F) λr aq bI=>by obtain⟨h1,h2,h3⟩:=bI;exact⟨by exact rl h1 J,h2,h3⟩)
theorem c7{test:Expr}{body orelse:acr}{p:Pos}(T:Ts C Γ vs test true)(H:mz C Γ vs body fl vs'):gq C Γ vs (.If test body orelse p) fl vs':=λA s W G I F=>
 wpAny_If (cS (T A s W G I F) λr aq bI=>by obtain⟨h1,h2,h3⟩:=bI;subst h1;exact cS (H A aq W G h3 (F.dJ I h2)) λf av x=>x.trans (λd q=>.inl q) h2.up)
theorem bq{test:Expr}{body orelse:acr}{p:Pos}(T:Ts C Γ vs test false)(H:mz C Γ vs orelse fl vs'):gq C Γ vs (.If test body orelse p) fl vs':=λA s W G I F=>
 wpAny_If (cS (T A s W G I F) λr aq bI=>by obtain⟨h1,h2,h3⟩:=bI;subst h1;exact cS (H A aq W G h3 (F.dJ I h2)) λf av x=>x.trans (λd q=>.inl q) h2.up)
theorem jY{test b o:Expr}{p:Pos}(T:Ts C Γ vs test true)(H:Ev C Γ vs b v):Ev C Γ vs (.IfExp test b o p) v:=λA s W G I F=>
 wpAny_IfExp (cS (T A s W G I F) λr aq bI=>by obtain⟨h1,h2,h3⟩:=bI;subst h1;exact cS (H A aq W G h3 (F.dJ I h2)) λf av x=>x.trans h2)
theorem mK{test b o:Expr}{p:Pos}(T:Ts C Γ vs test false)(H:Ev C Γ vs o v):Ev C Γ vs (.IfExp test b o p) v:=λA s W G I F=>
 wpAny_IfExp (cS (T A s W G I F) λr aq bI=>by obtain⟨h1,h2,h3⟩:=bI;subst h1;exact cS (H A aq W G h3 (F.dJ I h2)) λf av x=>x.trans h2)
theorem C9{test:Expr}{msg:Option Expr}{p:Pos}(T:Ts C Γ vs test true):gq C Γ vs (.Assert test msg p) .next vs:=λA s W G I F=>
 wpAny_Assert_holds (cS (T A s W G I F) λr aq bI=>by obtain⟨h1,h2,h3⟩:=bI;exact⟨h1,W,λd q=>.inl q,trivial,F.dJ I h2,h2.up,h3⟩)
theorem sC{x:Str}{e:Expr}{op:Operator}{p p':Pos}{m₁ m₂ m:MV}(gE:Ld C Γ vs x m₁)(H:Ev C Γ vs e m₂)(O:ou C Γ.k op m₁ m₂ m)(hx:rG Γ x) :
 gq C Γ vs (.AugAssign (.Name x p') op e p) .next (aG vs x (.v m)):=λA s W G I F=>by
 refine wpAny_AugAssign_Name ?_;refine cS (gE A s W G I F) λa aq ⟨bx,a_,aF⟩=>H.use G aF (F.dJ I a_) λb av bG aY bu bO=>cS (O A av _ a b G bu bO.mw (bx.dJ aF aY F.cj) bG) λc bH ⟨d₃,cW,ez⟩=>
  jQ hx G ez (bO.dJ bu cW) d₃ λfF jA jh jZ=>⟨W,λd q=>.inl q,trivial,jA,((a_.then aY).then cW).up.trans jh (λd q=>.inl q) (λd q=>.inl q),jZ⟩
end
noncomputable def dX(l:acj):aC:=l.map λp=>(p.1,.v p.2)
noncomputable def e9(scope:Scope):acv:=(cellsFrom 0 scope.names []).map (·.1)
noncomputable def gF(k:Nat)(qual:Str)(scope:Scope)(L f:Addr)(bh:Value)(D:acq):Gm:=⟨k,envOfC qual scope L f bh,e9 scope,D⟩
theorem uA{l:acj}{x:Str}{st:VS}(h:(dX l).lookup x=some st):∃m,st = .v m/\l.lookup x=some m:=by
 induction l with
 |nil=>cases h
 |cons p r ih=>
  obtain⟨y,m⟩:=p;show∃m',st = .v m'/\List.lookup x ((y,m)::r)=some m';have h':List.lookup x ((y,VS.v m)::dX r)=some st:=h;rw[aaF] at h' ⊢;cases q:x==y with
  |true=>rw[q] at h';obtain rfl:=aax h';exact⟨m,J,J⟩
  |false=>rw[q] at h';exact ih h'
theorem dF.lookup{h:Heap}{D:acq}{vals:aci}{l:acj}(d:dF h D vals l){x:Str}{m:MV}(e:l.lookup x=some m):∃a,vals.lookup x=some a/\Den h D a m:=by
 induction vals generalizing l with
 |nil=>cases d;cases e
 |cons p r ih=>
  cases d with
  |cons dv dr=>
   rw[aaF] at e ⊢;split at e
   .obtain rfl:=aax e;exact⟨_,J,dv⟩
   .exact ih dr e
theorem dF.names{h:Heap}{D:acq}{vals:aci}{l:acj}(d:dF h D vals l):vals.map (·.1)=l.map (·.1):=by
 induction vals generalizing l with
 |nil=>cases d;rfl
 |cons p r ih=>cases d with |cons dv dr=>exact aaJ _ (ih dr)
theorem f9{α:Type}{l:List (Str×α)}{x:Str}(h:x∉l.map (·.1)):l.lookup x=none:=by
 induction l with
 |nil=>rfl
 |cons p r ih=>
  refine rl aaF ?_;have h1:x≠p.1:=λq=>h (by exact rl q ((.head _)));have:(x==p.1)=false:=by simpa using h1
  refine rl this ?_;exact ih λq=>h (.tail _ q)
theorem xK(ko:Str->Option NameKind){x:Str}(hx:ko x=some .local):∀(l:aci)(m:Str->Option Value),(l.map (·.1)).Nodup->bindL ko l m x=(l.lookup x).or (m x)
 |[],m,_=>rfl
 |(n,v)::r,m,hn=>by
  have hn':=ab5.mp hn;show bindL ko r (if ko n=some .local thenλy=>if y=n then some v else m y else m) x=_;refine rl (xK ko hx r _ hn'.2) (rl aaF ?_);by_cases q:x=n
  .subst q
   refine rl (f9 hn'.1) ?_;simp[hx]
  .have:(x==n)=false:=by simpa using q
   refine rl this ?_;congr 1;split<;>simp[q]
theorem xM(ko:Str->Option NameKind){x:Str}(hx:ko x≠some .local):∀(l:aci)(m:Str->Option Value),(l.map (·.1)).Nodup->bindC ko l m x=(l.lookup x).or (m x)
 |[],m,_=>rfl
 |(n,v)::r,m,hn=>by
  have hn':=ab5.mp hn;show bindC ko r (if ko n=some .local then m elseλy=>if y=n then some v else m y) x=_;refine rl (xM ko hx r _ hn'.2) (rl aaF ?_);by_cases q:x=n
  .subst q
   refine rl (f9 hn'.1) ?_;simp[hx]
  .have:(x==n)=false:=by simpa using q
   refine rl this ?_;congr 1;split<;>simp[q]
theorem o6{l:List (Str×Addr)}(hp:l.Pairwise λx y=>x.2≠y.2){x y:Str}{c:Addr}(hx:(x,c)∈l)(hy:(y,c)∈l):x=y:=by
 induction l with
 |nil=>cases hx
 |cons p r ih=>
  have Jy:=List.pairwise_cons.mp hp;cases hx with
  |head=>cases hy with
   |head=>rfl
   |tail _ q=>exact(Jy.1 (y,c) q J).elim
  |tail _ q=>cases hy with
   |head=>exact(Jy.1 (x,c) q J).elim
   |tail _ q'=>exact ih Jy.2 q q'
noncomputable def Binds(C:Cx)(fd:FuncData)(args:acw)(kw bs:acj):Prop:=
 ∀s D vals eG,Inv C s->bD s.heap D vals args->dF s.heap D eG kw->∃binds,BindsTo s fd ⟨vals,eG⟩ binds/\dF s.heap D binds bs
section
variable{C:Cx}{s:Shared}{k:Nat}
theorem cX{α:Type}{l:List (Str×α)}{x:Str}(h:x∈l.map (·.1)):∃c,l.lookup x=some c:=by
 induction l with
 |nil=>cases h
 |cons p r ih=>
  refine rl aaF ?_;by_cases q:x=p.1
  .have:(x==p.1)=true:=by simpa using q
   exact rl this (⟨_,J⟩)
  .have:(x==p.1)=false:=by simpa using q
   refine rl this ?_;refine nb λnn=>?_;cases h with
   |head=>exact absurd J q
   |tail _ h=>exact nn<|ih h
inductive sD(h:Heap)(D W:acq):aci->aC->Prop
 |nil:sD h D W [] []
 |cons {n:Str} {a:Value} {st:VS} {bs:aci} {vs:aC}:fX h D W a st->sD h D W bs vs->sD h D W ((n,a)::bs) ((n,st)::vs)
theorem sD.lookup{h:Heap}{D W:acq}{vals:aci}{l:aC}(d:sD h D W vals l){x:Str}{m:VS}(e:l.lookup x=some m):∃a,vals.lookup x=some a/\fX h D W a m:=by
 induction vals generalizing l with
 |nil=>cases d;cases e
 |cons p r ih=>
  cases d with
  |cons dv dr=>
   rw[aaF] at e ⊢;split at e
   .obtain rfl:=aax e;exact⟨_,J,dv⟩
   .exact ih dr e
theorem sD.names{h:Heap}{D W:acq}{vals:aci}{l:aC}(d:sD h D W vals l):vals.map (·.1)=l.map (·.1):=by
 induction vals generalizing l with
 |nil=>cases d;rfl
 |cons p r ih=>cases d with |cons dv dr=>exact aaJ _ (ih dr)
theorem dF.toV{h:Heap}{D W:acq}{vals:aci}{l:acj}(d:dF h D vals l):sD h D W vals (dX l):=by
 induction vals generalizing l with
 |nil=>cases d;exact .nil
 |cons p r ih=>cases d with |cons dv dr=>exact .cons dv (ih dr)
theorem fX.grow{h h':Heap}{D D' W W':acq}(hk:∀b o,h.get? b=some o->h'.get? b=some o)(hD:∀d∈D',d∈D\/h.objs.size<=d)(hW:∀d∈W,d∈W'){a:Value}{st:VS}(d:fX h D W a st):fX h' D' W' a st:=by
 have kp:Kept [] h h':=λb o _ e=>hk b o e;refine nb λnn=>?_;cases st with
 |v m=>exact nn<|Den.kept kp n0 hD d
 |own b l=>
  obtain⟨e,hb,items,n,ho,ds⟩:=d;exact nn<|⟨e,hW b hb,items,n,hk _ _ ho,ds.kept kp n0 hD⟩
 |obj x dx Cc fs=>
  obtain⟨e,hx,hd,kI,es,n,vals,⟨h1,h2,h3⟩,hle,df⟩:=d;exact nn<|⟨e,hW _ hx,hW _ hd,kI,es,n,vals,⟨hk _ _ h1,hk _ _ h2,h3⟩,hle,df.kept kp n0 hD⟩
theorem Fm.enter{D Wx:acq}{qual:Str}{scope:Scope}{f:Addr}{bh:Value}{binds:aci}{vs:aC}{s':Shared}{kk:Nat}(I:Inv C s)(dt:∀d∈C.tabs,d∈D)(dh:∀d∈D,d<s.heap.objs.size)(db:sD s.heap (Wx++D) Wx binds vs)
 (LQ:∀d∈Wx,C.H.objs.size<=d/\d<s.heap.objs.size/\d∉D) (EV:∀x st a,vs.lookup x=some st->a∈foot st->a∈Wx) (hown:∀x y st jg a,vs.lookup x=some st->vs.lookup y=some jg->a∈foot st->a∈foot jg->x=y)
 (hk:scope.kind = .function) (kj:(vs.map (·.1)).Nodup) (hnd:(e9 scope).Nodup) (hck:∀x,scope.names.lookup x=some .cell->x∈e9 scope) (hnf:∀x,scope.names.lookup x≠some .free)
 (x:InCallC s s.heap.objs.size (bindL (envOfC qual scope s.heap.objs.size f bh).kindOf binds λ_=>none) (cellsFrom (s.heap.objs.size+1) scope.names []) (bindC (envOfC qual scope s.heap.objs.size f bh).kindOf binds λ_=>none) s') :
 Fm C ⟨kk,envOfC qual scope s.heap.objs.size f bh,e9 scope,D⟩ (s.heap.objs.size::(cellsFrom (s.heap.objs.size+1) scope.names []).map (·.2)++Wx) s'.heap vs/\bL C [] s s'/\Inv C s':=by
 have names:(cellsFrom (s.heap.objs.size+1) scope.names []).map (·.1)=e9 scope:=cellsFrom_names scope.names _ _ [] [] J;have hnb:(binds.map (·.1)).Nodup:=by exact rl db.names kj
 have keep:=x.toInCall.keep;have szl:s.heap.objs.size<s'.heap.objs.size:=x.toInCall.ns.lt;have lk:∀{n c},(n,c)∈cellsFrom (s.heap.objs.size+1) scope.names []->(cellsFrom (s.heap.objs.size+1) scope.names []).lookup n=some c:=λ{n c} hm=>lookup_of_mem_nodup (names▸hnd) hm;have st:bL C [] s s':=by refine nb λnn=>?_;obtain⟨h',tk,e⟩:=x.toInCall.same;subst e;exact nn<|bL.heap (W:=[]) (aaO szl) (λb o _ e=>keep b o e)
 have inv:Inv C s':=by obtain⟨h',tk,e⟩:=x.toInCall.same;subst e;exact I.step (W:=[]) (aaO szl) (λb o _ e=>keep b o e) n0
 refine⟨?_,st,inv⟩;have LR:∀{d},d∈s.heap.objs.size::(cellsFrom (s.heap.objs.size+1) scope.names []).map (·.2)++Wx->d∈Wx\/s.heap.objs.size<=d:=λ{d} hd=>by
  refine nb λnn=>?_;rcases aag.mp hd with q |q
  .cases q with
   |head=>exact nn<|.inr (aaq _)
   |tail _ q=>
    obtain⟨p,hp,rfl⟩:=aan.mp q;exact nn<|.inr (aaO (x.above _ _ hp))
  .exact nn<|.inl q
 have den:∀{a m},fX s.heap (Wx++D) Wx a m->fX s'.heap ((s.heap.objs.size::(cellsFrom (s.heap.objs.size+1) scope.names []).map (·.2)++Wx)++D) (s.heap.objs.size::(cellsFrom (s.heap.objs.size+1) scope.names []).map (·.2)++Wx) a m:=λ{a m} d=>
  d.grow keep (λy hy=>by
   rcases aag.mp hy with q |q
   .exact(LR q).imp (λz=>aah _ z) id
   .exact .inl (aad _ q)) (λd hd=>aad _ hd)
 refine⟨hk,J,J,⟨_,x.toInCall.ns,λy st hy hl=>?_⟩,λy st hy hl=>?_,λy hy=>?_,.head _,dt,λd hd=>?_,λd hd=>?_,λy z c c' hy hz kI q=>?_,λy c hy=>⟨aah _ (aah _ (.tail _ (aan.mpr ⟨_,mem_of_lookup hy,J⟩))),aaf I.size (aaO (x.above _ _ (mem_of_lookup hy)))⟩,λy c hy=>?_,λy st a hy ha=>?_,hown⟩
 .obtain⟨a,ha,d⟩:=db.lookup hy
  refine⟨a,?_,den d⟩;refine rl (xK _ hl binds _ hnb) (rl ha ?_);rfl
 .obtain⟨a,ha,d⟩:=db.lookup hy
  rcases hl with hl |hl
  .obtain⟨c,hc⟩:=cX (names▸hck y hl)
   refine⟨c,a,hc,?_,den d⟩;have z:=x.cell y c hc;rw[xM _ (by refine rl hl ?_;intro q;cases q) binds _ hnb,ha] at z;exact z
  .exact absurd hl (hnf y)
 .obtain⟨c,hc⟩:=cX (names▸hy)
  exact⟨c,_,hc,aah _ (.tail _ (aan.mpr ⟨_,mem_of_lookup hc,J⟩)),x.cell y c hc⟩
 .rcases LR hd with q |q
  .exact(LQ d q).1
  .exact aaf I.size q
 .rcases aag.mp hd with q |q
  .rcases aag.mp q with q |q
   .cases q with
    |head=>exact szl
    |tail _ q=>
     obtain⟨p,hp,rfl⟩:=aan.mp q;exact(x.cell _ _ (lk hp)).lt
   .exact abp (LQ d q).2.1 szl
  .exact abp (dh d q) szl
 .subst q
  exact kI (o6 x.apart (mem_of_lookup hy) (mem_of_lookup hz))
 .exact abB (x.above _ _ (mem_of_lookup hy))
 .have lt:=(LQ a (EV y st a hy ha)).2.1
  exact⟨abb lt,λz c hc=>abB (abp lt (x.above _ _ (mem_of_lookup hc))),aad _ (EV y st a hy ha),(LQ a (EV y st a hy ha)).2.2⟩
noncomputable def gw(scope:Scope)(bs:acv):Bool:=
 scope.kind==.function && !scope.isCoroutine && !scope.isGenerator&&decide (bs.Nodup)&&decide ((e9 scope).Nodup)&&(scope.names.all λx=>x.2 !=.free) &&
 (scope.names.all λx=>x.2 !=.cell||(e9 scope).contains x.1)&&bs.all λx=>scope.names.lookup x==some .local||scope.names.lookup x==some .cell
structure v8(vs:aC)(Wx:acq):Prop where
 ft:∀x st a,vs.lookup x=some st->a∈foot st->a∈Wx
 own:∀x y st jg a,vs.lookup x=some st->vs.lookup y=some jg->a∈foot st->a∈foot jg->x=y
theorem v8.EW{bs:acj}{Wx:acq}:v8 (dX bs) Wx:=by
 have key:∀{x st}{a:Addr}{P:Prop},(dX bs).lookup x=some st->a∈foot st->P:=λhy ha=>by obtain⟨m,rfl,_⟩:=uA hy;cases ha
 exact⟨λ_ _ _=>key,λ_ _ _ _ _ h _ g=>key h g⟩
theorem v8.one{x:Str}{st:VS}{vs:aC}(h:∀p∈vs,foot p.2=[]\/p=(x,st)):v8 vs (foot st):=by
 have key:∀y jg a,vs.lookup y=some jg->a∈foot jg->(y,jg)=(x,st):=λy jg a hy ha=>(h _ (mem_of_lookup hy)).resolve_left λe=>by replace ha:=(show foot jg=[] from e)▸ha;cases ha
 exact⟨λy jg a hy ha=>by cases key y jg a hy ha;exact ha,λy z jg st'' a hy hz ha hb=>(aaJ Prod.fst (key y jg a hy ha)).trans (aaJ Prod.fst (key z st'' a hz hb)).symm⟩
theorem qo{A:Around}{D:acq}{vs:aC}{f:Addr}{name qual:Str}{params:Arguments}{body:acr}{scope:Scope}{dV kV doc pm bh ct oc:Value}{an od:acn}{kJ:Array (Option Value)}{Wx:acq}{vals:acp}{eG binds:aci}{R:Result->Shared->Prop}
 (G:Good (k+1) A) (I:Inv C s) (dt:∀d∈C.tabs,d∈D) (dh:∀d∈D,d<s.heap.objs.size)
 (ho:C.K.lookup f=some ⟨oc,od,.func (fnOf name qual params body scope dV kV doc pm an bh ct),kJ⟩) (h_:codeIn C.K bh qual=true)
 (Ex:BindsTo s (fnOf name qual params body scope dV kV doc pm an bh ct) ⟨vals,eG⟩ binds) (db:sD s.heap (Wx++D) Wx binds vs)
 (LQ:∀d∈Wx,C.H.objs.size<=d/\d<s.heap.objs.size/\d∉D) (ow:v8 vs Wx)
 (hs:gw scope (vs.map (·.1))=true)
 (H:∀(L:Addr)(s':Shared)(W:acq),L=s.heap.objs.size->Good k (A.deeper (envOfC qual scope L f bh))->Inv C s'->Fm C (gF k qual scope L f bh D) W s'.heap vs->bL C [] s s'->(∀d∈W,d∈Wx\/s.heap.objs.size<=d)->
  wpAny (model P0 C.w) (A.deeper (envOfC qual scope L f bh)) (execs body (envOfC qual scope L f bh)) (λfl gp=>R (.ok (.ret (match fl with |.ret v=>v |_=>.none))) gp) (λe av=>wpAny (model P0 C.w) (A.deeper (envOfC qual scope L f bh)) (leaving (envOfC qual scope L f bh) e) (λ_ gp=>R (.error e) gp) (λe' gp=>R (.error e') gp) av) s') :
 codeAny (model P0 C.w) A (.call (.ref f) ⟨vals,eG⟩) R s:=by
 simp only[gw,Bool.and_eq_true,beq_iff_eq,decide_eq_true_eq,Bool.not_eq_true'] at hs;refine nb λnn=>?_;obtain⟨⟨⟨⟨⟨⟨⟨hk,hco⟩,hgen⟩,kj⟩,hnd⟩,hnf⟩,hck⟩,hloc⟩:=hs;have names:∀n,(cellsFrom n scope.names []).map (·.1)=e9 scope:=λn=>cellsFrom_names scope.names _ _ [] [] J;have P6:∀x,scope.names.lookup x=some .cell->x∈e9 scope:=λx hx=>by have:=abq.mp hck (x,.cell) (mem_of_lookup hx);simpa using this
 have WK:∀x,scope.names.lookup x≠some .free:=λx hx=>by have:=abq.mp hnf (x,.free) (mem_of_lookup hx);simp at this
 refine nn<|codeAny_call_function G.room (I.om f _ ho) J hco hgen J (codeRec_of I.om h_) (Ex _ _ _ _ ?_)
 refine wpAny_newFunctionEnv_cells hk (λx hx=>?_) λenv' he s' x=>?_
 .have hx':x.1∈vs.map (·.1):=by exact rs db.names ((abG hx))
  have z:=abq.mp hloc x.1 hx';simp only[Bool.or_eq_true,beq_iff_eq] at z;rcases z with z |z
  .exact .inl z
  .obtain⟨c,hc⟩:=cX (l:=cellsFrom (s.heap.objs.size+1) scope.names []) (x:=x.1) (by exact rl (names ..) ((P6 _ z)))
   exact .inr ⟨z,by refine rl hc ?_;rfl⟩
 .refine nb λnn=>?_
  subst he;obtain⟨F,t,I'⟩:=Fm.enter (kk:=k) I dt dh db LQ ow.ft ow.own hk kj hnd P6 WK x;have G':Good k (A.deeper (envOfC qual scope s.heap.objs.size f bh)):=⟨G.handled,by have:=G.depth;show A.depth+1+5*k+5<_;exact YR this,by have:=G.units;show A.units+3+40*k+40<_;exact Z4 this⟩;refine nn<|⟨I'.nolimit,codeAny_func (H s.heap.objs.size s' _ J G' I' F t λd hd=>?_)⟩
  rcases aag.mp hd with hd |hd
  .cases hd with
   |head=>exact .inr (aaq _)
   |tail _ q=>
    obtain⟨p,hp,rfl⟩:=aan.mp q;exact .inr (aaO (x.above _ _ hp))
  .exact .inl hd
theorem jR{A:Around}{D:acq}{vs:aC}{f:Addr}{name qual:Str}{params:Arguments}{body:acr}{scope:Scope}{dV kV doc pm bh ct oc:Value}{an od:acn}{kJ:Array (Option Value)}{Wx:acq}{vals:acp}{eG binds:aci}{R:Result->Shared->Prop}
 (G:Good (k+1) A) (I:Inv C s) (dk:lg C D s.heap)
 (ho:C.K.lookup f=some ⟨oc,od,.func (fnOf name qual params body scope dV kV doc pm an bh ct),kJ⟩) (h_:codeIn C.K bh qual=true)
 (Ex:BindsTo s (fnOf name qual params body scope dV kV doc pm an bh ct) ⟨vals,eG⟩ binds) (db:sD s.heap (Wx++D) Wx binds vs)
 (LQ:∀d∈Wx,C.H.objs.size<=d/\d<s.heap.objs.size/\d∉D) (ow:v8 vs Wx)
 (hs:gw scope (vs.map (·.1))=true)
 (H:∀(L:Addr)(s':Shared)(W:acq),L=s.heap.objs.size->Good k (A.deeper (envOfC qual scope L f bh))->Inv C s'->Fm C (gF k qual scope L f bh D) W s'.heap vs->bL C [] s s'->(∀d∈W,d∈Wx\/s.heap.objs.size<=d)->
  wpAny (model P0 C.w) (A.deeper (envOfC qual scope L f bh)) (execs body (envOfC qual scope L f bh)) (λfl gp=>R (.ok (.ret (match fl with |.ret v=>v |_=>.none))) gp) ig s') :
 codeAny (model P0 C.w) A (.call (.ref f) ⟨vals,eG⟩) R s:=
 qo G I dk.tabs dk.hi ho h_ Ex db LQ ow hs λL s' W a b c d e f=>cS (H L s' W a b c d e f) λ_ _ q=>q
theorem fJ{name qual:Str}{params:Arguments}{body:acr}{scope:Scope}{dV kV doc pm bh ct oc:Value}{an od:acn}{kJ:Array (Option Value)}{f:Addr}{args:acw}{kw bs:acj}{v:MV}
 (ho:C.K.lookup f=some ⟨oc,od,.func (fnOf name qual params body scope dV kV doc pm an bh ct),kJ⟩) (h_:codeIn C.K bh qual=true)
 (hb:Binds C (fnOf name qual params body scope dV kV doc pm an bh ct) args kw bs) (hs:gw scope (bs.map (·.1))=true)
 (H:∀L D,Body C (gF k qual scope L f bh D) (dX bs) body v):bJ C (k+1) (.ref f) args kw v:=λA s D vals eG G I dk ds P7=>by
 obtain⟨binds,Ex,db⟩:=hb s D vals eG I ds P7;refine jR (Wx:=[]) G I dk ho h_ Ex db.toV n0 .EW (by simpa [dX,Function.comp_def] using hs) λL s' W hL G' I' F t hW=>cS (H L D _ s' _ G' I' F) λfl gp h=>?_;obtain⟨h1,h2,h3⟩:=h;have t2:bL C [] s gp:=t.trans h2 n0 λd hd=>(hW d hd).imp id id;cases fl with
 |ret a=>exact⟨a,J,h1,t2,h3⟩
 |next=>subst h1;exact⟨.none,J,.none,t2,h3⟩
 |brk=>cases h1
 |cont=>cases h1
end
noncomputable def jJ(K:Frag):Value->Bool
 |.ref a=>keepIn K (.ref a)
 |.builtin _=>true
 |.type _=>true
 |_=>false
noncomputable def OU(C:Cx)(mf:MV):Prop:=∀s D a,Inv C s->Den s.heap D a mf->∃k,Looks (model P0 C.w) s.heap (keeperOf a) k
noncomputable def xN(C:Cx)(k:Nat)(mf:MV)(args:acw)(kw:acj)(v:MV):Prop:=
 ∀A s D a vals eG,Good k A->Inv C s->lg C D s.heap->Den s.heap D a mf->bD s.heap D vals args->dF s.heap D eG kw->codeAny (model P0 C.w) A (.call a ⟨vals,eG⟩) (EP C D s v) s
section
variable{C:Cx}{Γ:Gm}{W D:acq}{s s':Shared}{vs vs' d7:aC}{A:Around}{E:ach}{e:Expr}{v:MV}{k:Nat}
theorem bJ.toV{f:Value}{args:acw}{kw:acj}(H:bJ C k f args kw v):xN C k (.bZ f) args kw v:=λA s D a vals eG G I dk d ds WL=>by cases d;exact H A s D vals eG G I dk ds WL
theorem bJ.mono{f:Value}{args:acw}{kw:acj}{k':Nat}(H:bJ C k f args kw v)(h:k<=k'):bJ C k' f args kw v:=λA s D vals eG G=>H A s D vals eG (G.le h)
theorem cQ{f:Value}(h:jJ C.K f=true):OU C (.bZ f):=λs D a I d=>by
 obtain⟨q,_⟩:=d.oZ;cases q.symm;cases f with
 |ref x=>obtain⟨k,_,L⟩:=looks_keep (M:=model P0 C.w) (show keepIn C.K (.ref x)=true from h) I.om;exact⟨k,L⟩
 |builtin x=>exact⟨.machine,Looks.of_pure J⟩
 |type x=>exact⟨.machine,Looks.of_pure J⟩
 |_=>cases h
theorem cJ{x?:acn}{Cc:Addr}{fs:acj}:OU C (.inst x? Cc fs):=λs D a I d=>by
 cases d.eU with
 |mk x dx es n vals ex hi nx nd df=>exact⟨.caller,(Looks.ld (part:=none) hi.1).andThen .now⟩
theorem eO{pos:Pos}{f:Value}{first:acp}{args:List (Bool×Sem Value)}{keywords:List (Option Str×Sem Value)}{Q:ach}(hplain:(args.any (·.1)||keywords.any (·.1.isNone))=false)
 (h:wpAny (model P0 C.w) A (evalArgs f true args keywords) (λa aq=>(∃k,Looks (model P0 C.w) aq.heap (keeperOf f) k)/\wpAny (model P0 C.w) A (call f (first++a.pos) a.kw) Q E aq) E s):wpAny (model P0 C.w) A (callWith pos f first args keywords) Q E s:=by
 unfold callWith;refine aal (abL (aaQ h (λa aq jy=>aal (aaY ?_)) λ_ _ x=>x));refine nb λnn=>?_;obtain⟨⟨k,L⟩,jy⟩:=jy;refine nn<|aal (L.here ?_)
 generalize (args.any (·.1)||keywords.any (·.1.isNone))=b at hplain ⊢;subst hplain;have tail:∀{t:Sem Value},wpAny (model P0 C.w) A t Q E aq->wpAny (model P0 C.w) A (t>>=λr=>holding [r] point>>=λ_=>pure r) Q E aq:=
  λht=>aal (aaQ ht (λr av hr=>aal (abL (wpAny_point (aat hr)))) λ_ _ x=>x)
 have marked (mk:Value):wpAny (model P0 C.w) A (callMarked mk f (first++a.pos) a.kw) Q E aq:=by unfold callMarked;exact Calls.wpAny_keep jy
 cases k with
 |frame=>exact wpAny_ite_split (λ_=>tail jy) λ_=>tail (marked _)
 |boundFrame=>exact wpAny_ite_split (λ_=>tail jy) λ_=>tail (marked _)
 |machine=>exact tail jy
 |_=>exact tail (wpAny_operateT jy)
structure rP(C:Cx)(Γ:Gm)(vs:aC)(es:acs)(ms:acw):Prop where
 plain:∀pos,(backTo pos (starEach es Γ.env)).any (·.1)=false
 none:starEach es Γ.env=[]->ms=[]
 run:∀A s W pos,Good Γ.k A->Inv C s->Fm C Γ W s.heap vs->wpAny (model P0 C.w) A (spliced (backTo pos (starEach es Γ.env))) (λvals s'=>bD s'.heap (W++Γ.Do) vals ms/\bL C [] s s'/\Inv C s') ig s
theorem ak:rP C Γ vs [] []:=⟨λ_=>rfl,λ_=>rfl,λA s W pos G I F=>wpAny_items_nil ⟨.nil,bL.refl _ _ _,I⟩⟩
noncomputable abbrev C_(e:Expr):Bool:=!Nat.beq e.ctorIdx 22
theorem xO{es:acs}{env:Env}(h:C_ e=true):starEach (e::es) env=(false,eval e env)::starEach es env:=by cases e<;>first |rfl |exact nomatch h
theorem aj{es:acs}{ms:acw}(H:Ev C Γ vs e v)(T:rP C Γ vs es ms)(he:C_ e=true:=by rfl):rP C Γ vs (e::es) (v::ms):=
 have he:=xO he
 ⟨λpos=>by exact rl he ((T.plain pos)),(λq=>by replace q:=he▸q;cases q),λA s W pos G I F=>acf (H.use G I F λa aq bx a_ aF aU=>cS (T.run A aq W pos G aF aU) λvals av ⟨bG,aY,bu⟩=>
  ⟨.cons (bx.dJ aF aY aU.cj) bG,a_.then aY,bu⟩) he⟩
theorem rP.args{es:acs}{ms:acw}(T:rP C Γ vs es ms){f:Value}{pos:Pos}(G:Good Γ.k A)(I:Inv C s)(F:Fm C Γ W s.heap vs){Q:Args->Shared->Prop}
 (h:∀vals s',bD s'.heap (W++Γ.Do) vals ms->bL C [] s s'->Inv C s'->Q ⟨vals,[]⟩ s'):wpAny (model P0 C.w) A (evalArgs f true (backTo pos (starEach es Γ.env)) []) Q E s:=by
 have hp:=T.plain pos;have hr:=cS (E:=E) (T.run A s W pos G I F) (Q':=λvals s'=>Q ⟨vals,[]⟩ s') λvals s' bI=>by obtain⟨a,b,c⟩:=bI;exact h vals s' a b c
 have hn:=T.none;generalize starEach es Γ.env=l at hp hr hn ⊢;cases l with
 |nil=>cases hn J;exact evalArgs_nil3 (h [] s .nil (bL.refl _ _ _) I)
 |cons p r=>
  obtain⟨b,x⟩:=p;cases b with
  |true=>simp[backTo] at hp
  |false=>exact evalArgs_plain hr
end
structure Meth(C:Cx)(Cc:Addr)(name:Str)(f:Addr):Prop where
 get:plainGet C.K Cc name=true
 find:findIn C.K (.ref Cc) name=some (some (.ref f))
 fn:isFn C.K (.ref f)=true
 fi:fnIn C.K f=true
theorem Jz{K:Frag}{f:Addr}:fnIn K f=true->keepIn K (.ref f)=true:=by
 delta fnIn keepIn;dsimp only;cases List.lookup f K with
 |none=>exactλh=>nomatch h
 |some m=>
  obtain⟨c,d,dt,sl⟩:=m;cases dt<;>first |exactλ_=>rfl |exactλh=>nomatch h
theorem Meth.kps{C:Cx}{Cc:Addr}{name:Str}{f:Addr}(M:Meth C Cc name f):OU C (.bZ (.ref f)):=cQ (Jz M.fi)
structure Bh(C:Cx)(Cc:Addr)(name:Str):Prop where
 get:plainGet C.K Cc name=true
 find:findIn C.K (.ref Cc) name=some none
 dict:hasDictIn C.K Cc=true
noncomputable def lu:MV->Bool
 |.bZ (.builtin _)=>false
 |_=>true
section
variable{C:Cx}{Γ:Gm}{W D:acq}{s s':Shared}{vs vs' d7:aC}{A:Around}{E:ach}{e:Expr}{v:MV}{k:Nat}
theorem Den.handed{h:Heap}{a:Value}{m:MV}(d:Den h D a m)(hm:lu m=true):handedIn a=true:=by
 cases d with
 |bZ a e=>cases a<;>first |rfl |(cases hm)
 |_=>rfl
theorem fW.at{h:Heap}{x dx Cc:Addr}{es:acm}{n:Nat}{vals:aci}(i:fW h x dx Cc es n vals):InstAt h x (instObj Cc dx) Cc (some (dictOf es n)):=⟨i.1,J,J,i.2.1⟩
theorem dF.lookup_none{h:Heap}{vals:aci}{l:acj}(d:dF h D vals l){x:Str}(e:l.lookup x=none):vals.lookup x=none:=by
 induction vals generalizing l with
 |nil=>rfl
 |cons p r ih=>
  cases d with
  |cons dv dr=>
   rw[aaF] at e ⊢;generalize (x==_)=b at e ⊢;cases b with
   |true=>cases e
   |false=>exact ih dr e
theorem xP{x?:acn}{Cc f:Addr}{fs:acj}{name:Str}{pl:Sem Bool}{a:Value}{Q:Value×List Value->Shared->Prop}(M:Meth C Cc name f)(hl:fs.lookup name=none)(I:Inv C s)(d:Den s.heap D a (.inst x? Cc fs))
 (h:Q (.ref f,[a]) s):wpAny (model P0 C.w) A (getMethod a name pl) Q E s:=by
 cases d.eU with
 |mk x dx es n vals ex hi nx nd df=>
  refine method_fn I.om hi.at (plainGet_of M.get).1 (plainGet_of M.get).2 M.find (aa3.mp M.fn) ?_ h;show(lookIn name (dictOf es n)).map _=_;refine rl (lookIn_dict ..) (rl (hi.2.2.1 name ..) (rl (df.lookup_none hl ..) ?_));rfl
theorem EX{x?:acn}{Cc:Addr}{fs:acj}{name:Str}{m:MV}{a:Value}{b:Bool}{Q:ach}(M:Bh C Cc name)(hl:fs.lookup name=some m)(hm:lu m=true)(I:Inv C s)(d:Den s.heap D a (.inst x? Cc fs))
 (h:∀v,Den s.heap D v m->Q v {s with toks:=s.toks+1}):wpAny (model P0 C.w) A (getAttr a name b) Q E s:=by
 cases d.eU with
 |mk x dx es n vals ex hi nx nd df=>
  obtain⟨w,hw,dw⟩:=df.lookup hl;refine get_value I.om hi.at (plainGet_of M.get).1 (findObj_own M.dict M.find J (v:=w) ?_) (dw.handed hm) (h w dw);exact rl (lookIn_dict ..) (rl (hi.2.2.1 name ..) (rl hw J))
theorem MU{x?:acn}{Cc:Addr}{fs:acj}{name:Str}{m:MV}{pl:Sem Bool}{a:Value}{Q:Value×List Value->Shared->Prop}(M:Bh C Cc name)(hl:fs.lookup name=some m)(hm:lu m=true)(I:Inv C s)(d:Den s.heap D a (.inst x? Cc fs))
 (h:∀v,Den s.heap D v m->Q (v,[]) {s with toks:=s.toks+1}):wpAny (model P0 C.w) A (getMethod a name pl) Q E s:=by
 have d':=d;cases d.eU with
 |mk x dx es n vals ex hi nx nd df=>
  exact method_usual I.om hi.at (plainGet_of M.get).1 (plainGet_of M.get).2 M.find J (EX M hl hm I d' h)
theorem aV{o:Expr}{name:Str}{pos:Pos}{x?:acn}{Cc:Addr}{fs:acj}{m:MV}(Ho:Ev C Γ vs o (.inst x? Cc fs))(M:Bh C Cc name)(hl:fs.lookup name=some m)(hm:lu m=true)
 (he:eval (.Attribute o name pos) Γ.env=(do
  let ov <- eval o Γ.env
  standAt pos.atName
  let r <- holding [ov] (getAttr ov name true)
  letTemporaryGo o ov r
  pure r)):Ev C Γ vs (.Attribute o name pos) m:=λA s W G I F=>
 Attribute_any_ (Ho.use G I F λa aq bx a_ aF aU=>EX M hl hm aF bx λv d=>⟨d,a_.then (tok_stp _),tok_inv aF _⟩) he
noncomputable abbrev gX(o:Expr)(name:Str)(env:Env)(apos pos:Pos)(n:Nat):Prop:=(attributeBase o name env (eval o env),Nat.blt n 29,apos.endLine)=(eval o env,true,pos.line)
theorem gx{o:Expr}{name:Str}{apos pos:Pos}{args:acs}{kws:List Keyword}{env:Env}{Q:ach}(he:gX o name env apos pos (args.length+kws.length))(hp:(backTo pos (starEach args env)).any (·.1)=false)(hk:(backToKw pos (keywordEach kws env)).all (·.1.isSome)=true)
 (h:∀pl,wpAny (model P0 C.w) A (eval o env) (λov aq=>wpAny (model P0 C.w) A (getMethod ov name pl) (λfx av=>wpAny (model P0 C.w) A (callWith pos fx.1 fx.2 (backTo pos (starEach args env)) (backToKw pos (keywordEach kws env))) Q E av) E aq) E s) :
 wpAny (model P0 C.w) A (eval (.Call (.Attribute o name apos) args kws pos) env) Q E s:=by
 have h1:attributeBase o name env (eval o env)=eval o env:=aaJ (·.1) he;have h2:Nat.blt (args.length+kws.length) 29=true:=aaJ (·.2.1) he;have h3:apos.endLine=pos.line:=aaJ (·.2.2) he;refine methodCall_KW (h (do return (<- importBound o env).getD true)) ?_;have hm:methodCallForm (args.length+kws.length) (backTo pos (starEach args env)) (backToKw pos (keywordEach kws env))=true:=by
  have hl:=aae h2;unfold methodCallForm;rw[hk,List.all_eq_not_any_not,aaK]
  .simp only[Bool.not_not,hp];rfl
  .exact aaC (aau (m:=1) (by cases(backToKw pos (keywordEach kws env)).isEmpty<;>decide) _) (Nat.succ_lt_succ hl)
 show(do
  let ov <- attributeBase o name env (eval o env)
  standAt apos.atName
  methodCall o name apos pos env ov (args.length+kws.length) (backTo pos (starEach args env)) (backToKw pos (keywordEach kws env)))=_
 refine rl h1 ?_;delta methodCall methodCallPos;refine rl hm (rl h3 (rl (beq_self_eq_true ..) ?_));rfl
theorem cR{id:Str}{p pos:Pos}{args:acs}{ms:acw}{mf:MV}(Hf:Ev C Γ vs (.Name id p) mf)(Ha:rP C Γ vs args ms)(hk:OU C mf)(Hc:xN C Γ.k mf ms [] v):Ev C Γ vs (.Call (.Name id p) args [] pos) v:=λA s W G I F=>
 wpAny_Call_ofName (Hf.use G I F λa aq bx a_ aF aU=>eO (by refine rl (Ha.plain ..) ?_;rfl) (Ha.args G aF aU λvals av bG aY bu=>
  ⟨hk av _ a bu (bx.dJ aF aY aU.cj),g8 (Hc A av _ a vals [] G bu (aU.dJ aF aY).mw (bx.dJ aF aY aU.cj) bG .nil) λr bH x=>x.trans (a_.then aY)⟩))
theorem bl{o:Expr}{name:Str}{apos pos:Pos}{args:acs}{ms:acw}{x?:acn}{Cc f:Addr}{fs:acj}(Ho:Ev C Γ vs o (.inst x? Cc fs))(M:Meth C Cc name f)(hl:fs.lookup name=none)
 (Ha:rP C Γ vs args ms) (Hc:bJ C Γ.k (.ref f) (.inst x? Cc fs::ms) [] v) (he:gX o name Γ.env apos pos args.length):Ev C Γ vs (.Call (.Attribute o name apos) args [] pos) v:=λA s W G I F=>
 gx he (Ha.plain _) J λpl=>(Ho.use G I F λa aq bx a_ aF aU=>xP M hl aF bx (eO (by refine rl (Ha.plain ..) ?_;rfl) (Ha.args G aF aU λvals av bG aY bu=>
  ⟨M.kps av (W++Γ.Do) _ bu (.bZ _ J),g8 (Hc A av _ (a::vals) [] G bu (aU.dJ aF aY).mw (.cons (bx.dJ aF aY aU.cj) bG) .nil) λr bH x=>x.trans (a_.then aY)⟩)))
theorem fB{o:Expr}{name:Str}{apos pos:Pos}{args:acs}{ms:acw}{x?:acn}{Cc:Addr}{fs:acj}{mf:MV}(Ho:Ev C Γ vs o (.inst x? Cc fs))(M:Bh C Cc name)(hl:fs.lookup name=some mf)(hm:lu mf=true)
 (Ha:rP C Γ vs args ms) (hk:OU C mf) (Hc:xN C Γ.k mf ms [] v) (he:gX o name Γ.env apos pos args.length):Ev C Γ vs (.Call (.Attribute o name apos) args [] pos) v:=λA s W G I F=>
 gx he (Ha.plain _) J λpl=>(Ho.use G I F λa aq bx a_ aF aU=>MU M hl hm aF bx λb db=>eO (by refine rl (Ha.plain ..) ?_;rfl) (Ha.args G (tok_inv aF _) (aU.dJ aF (tok_stp _)) λvals av bG aY bu=>by have db':=Den.dJ (tok_inv aF _) aY aU.cj (show Den ({aq with toks:=aq.toks+1}:Shared).heap _ _ _ from db);exact⟨hk av _ b bu db',g8 (Hc A av _ b vals [] G bu ((aU.dJ aF (tok_stp _)).dJ (tok_inv aF _) aY).mw db' bG .nil) λr bH x=>x.trans ((a_.then (tok_stp _)).then aY)⟩))
theorem bQ{x?:acn}{Cc f:Addr}{fs:acj}{ms:acw}{kw:acj}(M:Meth C Cc "__call__" f)(Hc:bJ C k (.ref f) (.inst x? Cc fs::ms) kw v):xN C k (.inst x? Cc fs) ms kw v:=λA s D a vals eG G I dk d ds P7=>by
 have d':=d;cases d.eU with
 |mk x dx es n vals' ex hi nx nd df=>
  exact kco_code I.om hi.at J M.find M.fn M.fi (Hc A s D (.ref x::vals) eG G I dk (.cons d' ds) P7)
end
section
variable{C:Cx}{Γ:Gm}{W D:acq}{s s':Shared}{vs vs' d7:aC}{A:Around}{E:ach}{e:Expr}{v:MV}{k:Nat}
theorem Den.xQ{h:Heap}{a:Value}{m:MV}(d:Den h D a m):a≠.notImplemented:=by
 intro q;subst q;cases d with
 |bZ _ e=>cases e
theorem j0{Q:ach}{a:Value}(h:a≠.notImplemented)(q:Q a s):PySem.W.CmpBack Q a s:=by
 unfold PySem.W.CmpBack;split
 .exact h J
 .exact q
structure EY(C:Cx)(Cc:Addr):Prop where
 first:selfFirst C.K Cc=true
theorem e_{op:Operator}{x? y?:acn}{Cc f:Addr}{fs gs:acj}(M:Meth C Cc (PySem.dunder op.info.2) f)(K:EY C Cc)(H:bJ C k (.ref f) [.inst x? Cc fs,.inst y? Cc gs] [] v):uR C k op (.inst x? Cc fs) (.inst y? Cc gs) v:=λA s D a b G I dk bx bG=>by
 obtain⟨L,m,F,X⟩:=dk.frame I;have d1:=bx;have d2:=bG;cases bx.eU with
 |mk x dx es n vals ex hi nx nd df=>
  cases bG.eU with
  |mk y dy es' n' vals' ey hj ny ne LS=>
   exact binop_K F X hi.at (InstAt.type hj.at) K.first M.find M.fn (g8 (H A s D [.ref x,.ref y] [] G I dk (.cons d1 (.cons d2 .nil)) .nil) λr s' x=>j0 x.1.xQ x)
structure xR(C:Cx)(Cc:Addr)(op:Operator):Prop where
 r:∃rc,findIn C.K (.ref Cc) (dunderR op.info.2)=some rc/\(rc=none\/∃g:Addr,rc=some (.ref g))
 i1:∃fo,findIn C.K (.type "int") (PySem.dunder op.info.2)=some fo
 i2:∃ro,findIn C.K (.type "int") (dunderR op.info.2)=some ro
 sub:subIn C.K (.type "int") (.ref Cc)=some false
theorem mL{op:Operator}{x?:acn}{Cc f:Addr}{fs:acj}{i:Int}(M:Meth C Cc (PySem.dunder op.info.2) f)(K:EY C Cc)(aa:xR C Cc op)(H:bJ C k (.ref f) [.inst x? Cc fs,.int i] [] v):uR C k op (.inst x? Cc fs) (.int i) v:=λA s D a b G I dk bx bG=>by
 refine nb λnn=>?_;obtain⟨L,m,F,X⟩:=dk.frame I;have d1:=bx;have d2:=bG;obtain⟨rc,hr,hp⟩:=aa.r;obtain⟨fo,h1⟩:=aa.i1;obtain⟨ro,h2⟩:=aa.i2;cases bx.eU with
 |mk x dx es n vals ex hi nx nd df=>
  cases bG.eL with
  |mk t=>
   exact nn<|ksp_binT (T:="int") F X hi.at J K.first M.find M.fn hr hp h1 h2 aa.sub (g8 (H A s D [.ref x,.int i t] [] G I dk (.cons d1 (.cons d2 .nil)) .nil) λr s' x=>j0 x.1.xQ x)
theorem JA{x?:acn}{Cc f:Addr}{fs:acj}(M:Meth C Cc "__neg__" f)(H:bJ C k (.ref f) [.inst x? Cc fs] [] v):SG C k .USub (.inst x? Cc fs) v:=λA s D a G I dk bx=>by
 obtain⟨L,m,F,X⟩:=dk.frame I;have d1:=bx;cases bx.eU with
 |mk x dx es n vals ex hi nx nd df=>exact ksp_neg F X hi.at M.find M.fn (g8 (H A s D [.ref x] [] G I dk (.cons d1 .nil) .nil) λr s' x=>x)
theorem o7{op:Operator}{x? y?:acn}{Cc f:Addr}{fs gs:acj}(M:Meth C Cc (dunderI op.info.2) f)(K:EY C Cc)(H:bJ C k (.ref f) [.inst x? Cc fs,.inst y? Cc gs] [] v):ou C k op (.inst x? Cc fs) (.inst y? Cc gs) v:=λA s D a b G I dk bx bG=>by
 obtain⟨L,m,F,X⟩:=dk.frame I;have d1:=bx;have d2:=bG;cases bx.eU with
 |mk x dx es n vals ex hi nx nd df=>
  cases bG.eU with
  |mk y dy es' n' vals' ey hj ny ne LS=>
   exact ksp_inplace F X hi.at K.first M.find M.fn (g8 (H A s D [.ref x,.ref y] [] G I dk (.cons d1 (.cons d2 .nil)) .nil) λr s' x=>j0 x.1.xQ x)
theorem o8{op:CmpOp}{x? y?:acn}{Cc f:Addr}{fs gs:acj}(M:Meth C Cc (cmpInfo op).2.1 f)(hn:notFirst C.K Cc (.ref Cc)=true)(H:bJ C k (.ref f) [.inst x? Cc fs,.inst y? Cc gs] [] v)
 (hop:∀a b,compareOp op a b=richCompare op a b:=by intro _ _;rfl):iZ C k op (.inst x? Cc fs) (.inst y? Cc gs) v:=λA s D a b G I dk bx bG=>by
 obtain⟨L,m,F,X⟩:=dk.frame I;have d1:=bx;have d2:=bG;refine rl (hop ..) ?_;cases bx.eU with
 |mk x dx es n vals ex hi nx nd df=>
  cases bG.eU with
  |mk y dy es' n' vals' ey hj ny ne LS=>
   exact cmp_K G.MS F X hi.at (InstAt.type hj.at) hn M.find M.fn (g8 (H A s D [.ref x,.ref y] [] G I dk (.cons d1 (.cons d2 .nil)) .nil) λr s' x=>j0 x.1.xQ x)
theorem bD.length{h:Heap}{vals:acp}{ms:acw}(d:bD h D vals ms):vals.length=ms.length:=by
 induction vals generalizing ms with
 |nil=>cases d;rfl
 |cons a r ih=>cases d with |cons _ t=>exact aaJ (·+1) (ih t)
theorem bD.get{h:Heap}{vals:acp}{ms:acw}(d:bD h D vals ms){i:Nat}{m:MV}(e:ms[i]?=some m):∃a,vals[i]?=some a/\Den h D a m:=by
 induction vals generalizing ms i with
 |nil=>cases d;simp at e
 |cons a r ih=>cases d with
  |cons dv dr=>cases i with
   |zero=>simp only[List.getElem?_cons_zero,Option.some.injEq] at e;subst e;exact⟨a,J,dv⟩
   |succ i=>simp only[List.getElem?_cons_succ] at e ⊢;exact ih dr e
theorem f_(h:Heap)(o:Obj):Kept [] h (h.push o):=λb o' _ e=>aaW _ e
theorem iu(o:Obj):bL C [] s {s with heap:=s.heap.push o}:=bL.heap (tk:=s.toks) (by exact rl (aaI ..) ((aa0 _))) (f_ _ _)
theorem iw(I:Inv C s)(o:Obj):Inv C {s with heap:=s.heap.push o}:=I.step (tk:=s.toks) (W:=[]) (by exact rl (aaI ..) ((aa0 _))) (f_ _ _) n0
theorem bD.push{vals:acp}{ms:acw}(d:bD s.heap D vals ms)(o:Obj):bD (s.heap.push o) D vals ms:=d.kept (f_ _ _) n0 (λ_ q=>.inl q)
theorem o9(I:Inv C s)(dk:lg C D s.heap){vals:acp}{ms:acw}(d:bD s.heap D vals ms):nj C D s (.lst ms) (.ref s.heap.objs.size) {s with heap:=s.heap.push {cls:=.type "list",data:=.seq vals.toArray}}:=
 ⟨.lst _ vals.toArray 0 _ (aa4 _ J) (λq=>absurd (dk.hi _ q) (aa8 _)) (d.push _),iu _,iw I _⟩
theorem EZ(I:Inv C s)(dk:lg C D s.heap){vals:acp}{ms:acw}(d:bD s.heap D vals ms):nj C D s (.tup ms) (.ref s.heap.objs.size) {s with heap:=s.heap.push {cls:=.type "tuple",data:=.seq vals.toArray}}:=
 ⟨.tup _ vals.toArray 0 _ (aa4 _ J) (λq=>absurd (dk.hi _ q) (aa8 _)) (d.push _),iu _,iw I _⟩
theorem eF{es:acs}{pos:Pos}{ms:acw}(H:rP C Γ vs es ms)(hl:ms.length<=1000):Ev C Γ vs (.List es pos) (.lst ms):=λA s W G I F=>
 wpAny_List_spliced (cS (H.run A s W pos G I F) λvals aq bI=>by obtain⟨d,t,aF⟩:=bI;exact⟨by rw[d.length,sizeLine];omega,(o9 aF ((F.dJ I t).mw) d).trans t⟩)
theorem bW{es:acs}{x}{pos:Pos}{ms:acw}(H:rP C Γ vs es ms)(hl:ms.length<=1000):Ev C Γ vs (.Tuple es x pos) (.tup ms):=λA s W G I F=>
 wpAny_Tuple_spliced (cS (H.run A s W pos G I F) λvals aq bI=>by obtain⟨d,t,aF⟩:=bI;exact⟨by rw[d.length,sizeLine];omega,(EZ aF ((F.dJ I t).mw) d).trans t⟩)
theorem bC{o i:Expr}{pos:Pos}{l:acw}{j:Int}(Ho:Ev C Γ vs o (.lst l))(Hi:Ev C Γ vs i (.int j))(h0:0<=j)(h1:j<2^63)(hx:l[j.toNat]?=some v)
 (hs:∀a b,subscripted i false a b=operate [a,b] (getItem a b)):Ev C Γ vs (.Subscript o i pos) v:=λA s W G I F=>
 Subscript_ (Ho.use G I F λa aq bx a_ aF aU=>Hi.use G aF aU λb av bG aY bu bO=>by
  have n5:=bx.dJ aF aY aU.cj;cases bG.eL with
  |mk t=>
   cases n5.jW with
   |mk a items n hg na ds=>
    obtain⟨x,hx',dx⟩:=ds.get hx;have il:av.heap.IsList a items:=⟨_,hg,J,n,J⟩;refine tail_any il.typeIs slot_list_getitem.lookup (wpAny_getItem_list il h0 h1 (by simpa using hx') ⟨dx,a_.then aY,bu⟩) (hs _ _))
theorem j_{o i:Expr}{pos:Pos}{l:acw}{j:Int}(Ho:Ev C Γ vs o (.tup l))(Hi:Ev C Γ vs i (.int j))(h0:0<=j)(h1:j<2^63)(hx:l[j.toNat]?=some v)
 (hs:∀a b,subscripted i false a b=operate [a,b] (getItem a b)):Ev C Γ vs (.Subscript o i pos) v:=λA s W G I F=>
 Subscript_ (Ho.use G I F λa aq bx a_ aF aU=>Hi.use G aF aU λb av bG aY bu bO=>by
  have n5:=bx.dJ aF aY aU.cj;cases bG.eL with
  |mk t=>
   cases n5.EL with
   |mk a items n hg na ds=>
    obtain⟨x,hx',dx⟩:=ds.get hx;have hlt:j.toNat<items.toList.length:=(abx.mp hx').1;refine item_tupleT (l:=items.toList) ⟨_,hg,J,n,J⟩ (by exact Tv h0) h1 (j:=j.toNat) ?_ hx' ⟨dx,a_.then aY,bu⟩ (hs _ _);have hn:¬j<0:=by exact YX h0
    simp only[seqIndex?,if_neg hn];exact rl (aaN (by simp only[Bool.and_eq_true,decide_eq_true_eq];exact Tw h0 hlt)) J)
theorem bP{o i:Expr}{pos:Pos}{x?:acn}{Cc f:Addr}{fs:acj}{m:MV}(M:Meth C Cc "__getitem__" f)(Ho:Ev C Γ vs o (.inst x? Cc fs))(Hi:Ev C Γ vs i m)(H:bJ C j (.ref f) [.inst x? Cc fs,m] [] v)(hj:j+1<=Γ.k)
 (hs:∀a b,subscripted i true a b=runValue (.builtin "lifetime.subscript" ⟨[a,b],[]⟩)):Ev C Γ vs (.Subscript o i pos) v:=λA s W G I F=>
 Subscript_ (Ho.use G I F λa aq bx a_ aF aU=>Hi.use G aF aU λb av bG aY bu bO=>by
  have n5:=bx.dJ aF aY aU.cj;have d1:=n5;obtain⟨L,mm,Fr,X⟩:=bO.mw.frame bu;cases n5.eU with
  |mk x dx es n vals ex hi nx nd df=>
   have G':Good j A.in1:=⟨G.handled,by have:=G.depth;show A.depth+5*j+5<_;exact Tz hj this,by have:=G.units;show A.units+1+40*j+40<_;exact TA hj this⟩;exact sub_K Fr X hi.at M.find M.fi M.fn (g8 (H A.in1 av _ [.ref x,b] [] G' bu bO.mw (.cons d1 (.cons bG .nil)) .nil) λr s' x=>x.trans (a_.then aY)) (hs _ _))
end
structure Bj(C:Cx)(f:Addr)(name qual:Str)(params:Arguments)(body:acr)(scope:Scope)(dV:Value):Prop where
 at_:∃oc od kJ kV doc pm an bh ct,C.K.lookup f=some ⟨oc,od,.func (fnOf name qual params body scope dV kV doc pm an bh ct),kJ⟩/\codeIn C.K bh qual=true
section
variable{C:Cx}{Γ:Gm}{W D:acq}{s s':Shared}{vs vs' d7:aC}{A:Around}{E:ach}{e:Expr}{v:MV}{k:Nat}
theorem Fm.get(F:Fm C Γ W s.heap vs){x:Str}{st:VS}(hx:vs.lookup x=some st)(hk:Γ.env.kindOf x=some .local\/Γ.env.kindOf x=some .cell):∃a,fX s.heap (W++Γ.Do) W a st:=by
 rcases hk with hk |hk
 .obtain⟨m,hn,hv⟩:=F.ns
  obtain⟨a,_,d⟩:=hv x st hx hk;exact⟨a,d⟩
 .obtain⟨c,a,_,_,d⟩:=F.cell x st hx (.inl hk)
  exact⟨a,d⟩
noncomputable def zT(C:Cx)(fd:FuncData)(args:acw)(kw bs:acj):Prop:=
 ∀s D x vals eG,Inv C s->bD s.heap D vals args->dF s.heap D eG kw->∃binds,BindsTo s fd ⟨.ref x::vals,eG⟩ (("self",.ref x)::binds)/\dF s.heap D binds bs
theorem nk{Cc f:Addr}{args:acw}{kw bs fs:acj}{name qual:Str}{params:Arguments}{body:acr}{scope:Scope}{dV kV doc pm bh ct oc:Value}{an od:acn}{kJ:Array (Option Value)}
 (hm:makesIn C.K Cc=true) (hi:findIn C.K (.ref Cc) "__init__"=some (some (.ref f))) (hf:typeIn C.K (.ref f)=some (.type "function"))
 (ho:C.K.lookup f=some ⟨oc,od,.func (fnOf name qual params body scope dV kV doc pm an bh ct),kJ⟩) (h_:codeIn C.K bh qual=true)
 (hb:zT C (fnOf name qual params body scope dV kV doc pm an bh ct) args kw bs) (hs:gw scope ("self"::bs.map (·.1))=true) (hself:scope.names.lookup ("self":Str)=some .local\/scope.names.lookup ("self":Str)=some .cell)
 (vf:Addr->Addr->aC) (H:∀x dx L D,mz C (gF k qual scope L f bh D) (("self",VS.obj x dx Cc [])::dX bs) body .next (vf x dx)) (H2:∀x dx,(vf x dx).lookup ("self":Str)=some (VS.obj x dx Cc fs)):bJ C (k+2) (.ref Cc) args kw (.inst none Cc fs):=λA s D vals eG G I dk ds P7=>by
 obtain⟨h,g,d,tt,os⟩:=s;refine make_core (makes_of I.om hm) (looks_findIn I.om hi) (λself=>bind_fn I.om self hf) (.inl (by simp)) ?_;have I1:=iw I emptyDict;have I2:=iw I1 (instObj Cc h.objs.size);have uy:bL C [] ⟨h,g,d,tt,os⟩ ⟨(h.push emptyDict).push (instObj Cc h.objs.size),g,d,tt,os⟩:=(iu emptyDict).then (iu (s:=⟨h.push emptyDict,g,d,tt,os⟩) _);have dk2:=dk.dJ I uy;have new:∀d∈[h.objs.size+1,h.objs.size]++D,d∈D\/h.objs.size<=d:=MM (LO (.inr (aa0 _)) (sy (.inr (aaq _)))) λd q=>.inl q;have Zh:Kept C.tabs h ((h.push emptyDict).push (instObj Cc h.objs.size)):=λb o hb e=>uy.keep b o (by simpa using hb) e;have P8:=ds.kept (D':=[h.objs.size+1,h.objs.size]++D) Zh dk.tabs new;have WM:=P7.kept (D':=[h.objs.size+1,h.objs.size]++D) Zh dk.tabs new;have sz:(h.push emptyDict).objs.size=h.objs.size+1:=aaI _ _;have sz2:((h.push emptyDict).push (instObj Cc h.objs.size)).objs.size=h.objs.size+2:=by exact rl (aaI ..) (rl sz J)
 have g1:((h.push emptyDict).push (instObj Cc h.objs.size)).get? h.objs.size=some emptyDict:=aaW _ (aa4 _ J);have g2:((h.push emptyDict).push (instObj Cc h.objs.size)).get? (h.objs.size+1)=some (instObj Cc h.objs.size):=by exact rs sz ((aa4 _ J))
 obtain⟨binds,Ex,db⟩:=hb ⟨(h.push emptyDict).push (instObj Cc h.objs.size),g,d,tt,os⟩ ([h.objs.size+1,h.objs.size]++D) (h.objs.size+1) vals eG I2 P8 WM;have G':Good (k+1) (A.under (.builtin "type.__call__" ⟨.ref Cc::vals,eG⟩)):=⟨G.handled,by have:=G.depth;show A.depth+1+5*(k+1)+5<_;exact TF this,by have:=G.units;show A.units+1+40*(k+1)+40<_;exact TG this⟩;have nD:∀z,h.objs.size<=z->z∉D:=λz hz q=>absurd (dk.hi z q) (aaw.mpr hz);have l2:∀d∈[h.objs.size+1,h.objs.size],h.objs.size<=d:=m2 (aa0 _) (aaq _);refine jR (k:=k) (D:=D) (Wx:=[h.objs.size+1,h.objs.size]) (vs:=("self",VS.obj (h.objs.size+1) h.objs.size Cc [])::dX bs) G' I2 dk2 ho h_ Ex (.cons ⟨J,.head _,.tail _ (.head _),Nat.succ_ne_self _,[],0,[],⟨g2,g1,λnm=>rfl,Nat.zero_le _⟩,aaq _,.nil⟩ (dF.toV db))
  (λd hd=>⟨aaf I.size (l2 d hd),by refine rl sz2 ?_;revert d;exact m2 (aaS _) (aa5 (aaS _)),nD d (l2 d hd)⟩) (v8.one (st:=.obj _ _ Cc []) (mc (.inr J) λp hp=>.inl (by obtain⟨_,_,rfl⟩:=aan.mp hp;rfl))) (by simpa [dX,Function.comp_def] using hs)
  λL s' W hL WN I' F t hW=>cS (H _ _ L D _ s' W WN I' F) λfl gp bI=>?_
 refine nb λnn=>?_;obtain⟨W',h1,h2,F',t',I3⟩:=bI;cases Bg.ji h2;obtain⟨a,e,_,_,_,es,n,vals',hin,_,df⟩:=F'.get (H2 _ _) hself;refine nn<|⟨J,_,J,.inst none _ _ Cc es n vals' fs (λ_ q=>nomatch q) hin (nD _ (aa0 _)) (nD _ (aaq _)) (df.kept (W:=[]) (λ_ _ _ e=>e) n0 λd hd=>.inl (aad _ hd)),?_,I3⟩
 exact(uy.then t).trans t' n0 λd hd=>.inr ((hW d hd).elim (l2 d) λq=>aaf uy.size q)
end
section
set_option tactic.hygienic true
noncomputable def qp{α:Type}:List (Str×α)->Str->α->List (Str×α)
 |[],x,v=>[(x,v)]
 |(y,w)::r,x,v=>if y==x then(y,v)::r else(y,w)::qp r x v
theorem JB{α:Type}{x z:Str}{v:α}{l:List (Str×α)}(h:(x==z)=true):((z,v)::l).lookup x=some v:=by exact rl aaF (rl h J)
theorem E0{α:Type}{x z:Str}{v:α}{l:List (Str×α)}(h:(x==z)=false):((z,v)::l).lookup x=l.lookup x:=by exact rl aaF (rl h J)
theorem qN{α:Type}(l:List (Str×α))(x:Str)(v:α)(y:Str):(qp l x v).lookup y=if y=x then some v else l.lookup y:=by
 induction l with
 |nil=>
  show[(x,v)].lookup y=_;cases h:(y==x) with
  |true=>exact rl (JB h) (rl (aaN (aa3.mp h)) J)
  |false=>exact rl (E0 h) (rl (aaD (ne_of_beq_false h)) J)
 |cons p r ih=>
  obtain⟨z,t⟩:=p;show(if(z==x)=true then(z,v)::r else(z,t)::qp r x v).lookup y=_;cases hz:(z==x) with
  |true=>
   obtain rfl:=aa3.mp hz;show((z,v)::r).lookup y=_;cases h:(y==z) with
   |true=>exact rl (JB h) (rl (aaN (aa3.mp h)) J)
   |false=>exact rl (E0 h) (rl (E0 h) (rl (aaD (ne_of_beq_false h)) J))
  |false=>
   show((z,t)::qp r x v).lookup y=_;cases h:(y==z) with
   |true=>
    obtain rfl:=aa3.mp h;exact rl (JB h) (rl (JB h) (rl (aaD (ne_of_beq_false hz)) J))
   |false=>exact rl (E0 h) (rl (E0 h) (rl ih J))
theorem dF.put{h:Heap}{D:acq}{vals:aci}{fs:acj}{a:Value}{m:MV}(d:dF h D vals fs)(x:Str)(da:Den h D a m):dF h D (qp vals x a) (qp fs x m):=by
 induction vals generalizing fs with
 |nil=>cases d;exact .cons da .nil
 |cons p r ih=>
  cases d with
  | @cons n _ _ _ _ dv dr=>
   show dF h D (if(n==x)=true then _ else _) (if(n==x)=true then _ else _);cases(n==x)
   .exact .cons dv (ih dr)
   .exact .cons da dr
theorem xS{α:Type}(l:List (Str×α))(x:Str)(v:α):(qp l x v).length=if x∈l.map (·.1) then l.length else l.length+1:=by
 induction l with
 |nil=>rfl
 |cons p r ih=>
  obtain⟨z,t⟩:=p;show(if(z==x)=true then(z,v)::r else(z,t)::qp r x v).length=if x∈z::r.map (·.1) then r.length+1 else r.length+1+1
  cases hz:(z==x) with
  |true=>
   obtain rfl:=aa3.mp hz;exact(aaN (c:=z∈z::r.map (·.1)) (List.mem_cons_self ..)).symm
  |false=>
   show(qp r x v).length+1=_;refine rl ih ?_;by_cases hm:x∈r.map (·.1)
   .exact rl (aaN hm) (rl (aaN (List.mem_cons_of_mem _ hm)) J)
   .exact rl (aaD hm) (rl (aaD λq=>(aap.mp q).elim (λe=>ne_of_beq_false hz e.symm) hm) J)
theorem Dc{v:Value}{n:Str}:v.isStr n=true↔∃t,v = .str n t:=by cases v<;>simp[Value.isStr]
theorem uB(name:Str)(hsh:Int)(t:Tok)(v:Value)(nm:Str):∀es:acm,((putL name hsh (.str name t) v es).find? (·.key.isStr nm)).map (·.val)=if nm=name then some v else(es.find? (·.key.isStr nm)).map (·.val):=by
 intro ll
 induction ll with
 |nil=>
  by_cases h:nm=name
  .subst h;simp[putL,Value.isStr]
  .have:(name==nm)=false:=by simpa using abw h
   simp[putL,Value.isStr,h,this]
 |cons e r ih=>
  unfold putL;by_cases hq:e.key.isStr name=true
  .refine rl (aaN hq) ?_
   obtain⟨t',ht⟩:=Dc.mp hq;by_cases h:nm=name
   .subst h;simp[ht,Value.isStr]
   .have:(name==nm)=false:=by simpa using abw h
    simp[ht,Value.isStr,h,this]
  .refine rl (aaD hq) ?_
   by_cases h:nm=name
   .subst h
    have:=ih;replace this:=(aaN J)▸this;refine rl List.find?_cons ?_;have hq':e.key.isStr nm=false:=by simpa using hq
    refine rl hq' ?_;simpa using this
   .have:=ih
    replace this:=(aaD h)▸this;refine rl (aaD h) (rl List.find?_cons (rl List.find?_cons ?_));cases e.key.isStr nm with
    |true=>rfl
    |false=>exact this
theorem xT(name:Str)(hsh:Int)(t:Tok)(v:Value):∀es:acm,(putL name hsh (.str name t) v es).any (·.refKey)=es.any (·.refKey)
 |[]=>rfl
 |e::r=>by
  unfold putL;split
  .rfl
  .simp only[List.any_cons,xT name hsh t v r]
theorem Bk(nm:Str)(es:acm):getL nm es=match(es.find? (·.key.isStr nm)).map (·.val) with |some v=>some (some v) |none=>if es.any (·.refKey) then none else some none:=by unfold getL;cases es.find? (·.key.isStr nm)<;>rfl
theorem xU(name:Str)(hsh:Int)(t:Tok)(v:Value)(es:acm)(nm:Str):getL nm (putL name hsh (.str name t) v es)=if nm=name then some (some v) else getL nm es:=by
 refine rl (Bk ..) (rl (uB ..) (rl (xT ..) ?_));by_cases h:nm=name
 .exact rl (aaN h ..) (rl (aaN h ..) J)
 .exact rl (aaD h ..) (rl (aaD h ..) (rl (Bk ..) J))
theorem o_(name:Str)(hsh:Int)(k v:Value):∀es:acm,(putL name hsh k v es).length=if es.any (·.key.isStr name) then es.length else es.length+1:=by
 intro ll
 induction ll with
 |nil=>
  exact J
 |cons e r ih=>
  unfold putL;cases hq:e.key.isStr name with
  |true=>simp[hq]
  |false=>
   have ih:=ih;simp only[Bool.false_eq_true,if_false,List.length_cons,ih,List.any_cons,hq,Bool.false_or];split<;>rfl
theorem n6{name:Str}{es:acm}{o:Option Value}(h:getL name es=some o):es.any (·.key.isStr name)=o.isSome:=by
 unfold getL at h;cases q:es.find? (·.key.isStr name) with
 |some e=>
  replace h:=q▸h;cases h;exact ace.mpr ⟨e,List.mem_of_find?_eq_some q,List.find?_some (p:=λx:DictEntry=>x.key.isStr name) q⟩
 |none=>
  replace h:=q▸h;have h':(if es.any (·.refKey) then none else some none)=some o:=h;split at h'
  .cases h'
  .cases h'
   have:=List.find?_eq_none.mp q;cases z:es.any (·.key.isStr name) with
   |false=>rfl
   |true=>
    obtain⟨e,he,hh⟩:=ace.mp z;exact absurd hh (this e he)
structure sF(C:Cx)(Cc:Addr)(name:Str):Prop where
 set:findIn C.K (.ref Cc) "__setattr__"=some (some (.builtin "object.__setattr__"))
 over:plainOver C.K Cc=true
 P9:takerIn C.K Cc name=some none
 dict:hasDictIn C.K Cc=true
section
variable{C:Cx}{Γ:Gm}{W D:acq}{s s':Shared}{vs vs' d7:aC}{A:Around}{E:ach}{e:Expr}{v:MV}{k:Nat}
theorem xV{x dx Cc:Addr}{es:acm}{n:Nat}{name:Str}{v:Value}{Q:Unit->Shared->Prop}(M:sF C Cc name)(I:Inv C s)(hI:InstAt s.heap x (instObj Cc dx) Cc (some (dictOf es n)))(hl:(getL name es).isSome=true)(hz:es.length<=1000)
 (h:∀h',h'.get? dx=some (dictOf (putL name (PyData.keyHash C.w.params name) (.str name (s.toks+1)) v es) (putN name es n))->Heap.SameBut dx s.heap h'->Q () {s with heap:=h',toks:=s.toks+2}) :
 wpAny (model P0 C.w) A (setAttr (.ref x) name v) Q E s:=by
 refine set_plain I.om hI M.set (osa_open (s:={s with toks:=s.toks+1}) I.om hI M.over M.P9 λb=>?_);refine nb λnn=>?_;obtain⟨cd,hc,hd'⟩:=any_some M.dict;obtain⟨hx,hcl,hn,hdd⟩:=hI;have hdx:s.heap.get? dx=some (dictOf es n):=hdd;have X:C.K.In ({s with toks:=s.toks+1}:Shared).heap:=I.om;refine nn<|aal (aat (aal (aal (wpAny_loadPart hx (aal ((looks_clsIn X hc).here ?_))))))
 refine rl hd' ?_;refine aat (a:=some dx) (aal (aat (aal ?_)));unfold nsSet;refine aal (aal (wpAny_askSetting (aat (aal (wpAny_mkText (aal (wpAny_loadPart hdx ?_)))))));dsimp only[dictOf];have c:(!es.toArray.any (·.key.isStr name)&&es.toArray.any (·.refKey))=false:=by
  refine rl List.any_toArray (rl List.any_toArray ?_);unfold getL at hl;split at hl
  .rename_i en he
   refine rl (ace.mpr ⟨en,List.mem_of_find?_eq_some he,List.find?_some (p:=λx:DictEntry=>x.key.isStr name) he⟩) ?_;rfl
  .split at hl
   .cases hl
   .rename_i z;replace z:=(Bool.not_eq_true ..)▸z;exact rl z (rl (Bool.and_false ..) J)
 refine rl (aRefKeyMayBeTheName_at ..) (rl c ?_);have hp:=putName_dict name (PyData.keyHash C.w.params name) (.str name (s.toks+1)) v es n;have hg:(s.heap.update dx (Obj.putName name (PyData.keyHash C.w.params name) (.str name (s.toks+1)) v)).get? dx=some (dictOf (putL name (PyData.keyHash C.w.params name) (.str name (s.toks+1)) v es) (putN name es n)):=by refine rs hp ?_;exact ab9 _ hdx (by rw[hp];rfl)
 refine wpAny_updatePart hdx ?_;refine aal (wpAny_lookBehind hg (pastItsLine_dict (by refine rl (List.size_toArray ..) (rl (o_ ..) (rl (sizeLine_eq ..) ?_));split<;>omega)) ?_);exact aat (h _ hg (Heap.SameBut.update ..))
theorem gY{self name:Str}{sp p p':Pos}{e:Expr}{m:MV}{x dx Cc:Addr}{fs:acj}(M:sF C Cc name)(H:Ev C Γ vs e m)(hv:vs.lookup self=some (.obj x dx Cc fs))(hk:Γ.env.kindOf self=some .local)
 (hlen:fs.length<=100) (hd:(self==("__debug__":Str))=false) (hs:swapsWith e (some (.Attribute (.Name self sp) name p')) p.line Γ.env=pure false) :
 gq C Γ vs (.Assign [.Attribute (.Name self sp) name p'] e p) .next (aG vs self (.obj x dx Cc (qp fs name m))):=λA s W G I F=>by
 refine plainObj_wpAny_Assign_Attribute (H.use G I F λb aq bx a_ aF aU=>?_) hs;obtain⟨mm,hn,hl⟩:=aU.ns;obtain⟨a,ha,hD⟩:=hl self _ hv hk;refine wpAny_Name (wpAny_loadName_local aU.kind hk hn ha ?_) hd;refine nb λnn=>?_;obtain⟨rfl,hx,hdx,kI,es,n,vals,hin,hle,df⟩:=hD;have gl:=hin.2.2.1 name;refine nn<|xV M aF hin.at (by refine rl gl ?_;rfl) (by exact YY hlen hle) λh' g' kq=>?_
 have dD:dx∈W++Γ.Do:=aah _ hdx;have kp:Kept [dx] aq.heap h':=gK kq;have sub:∀z∈[dx],z∈W++Γ.Do:=m1 (dD);have lC:∀y c,Γ.env.cells.lookup y=some c->c≠dx:=λy c hc=>(aU.gH self _ dx hv (.tail _ (.head _))).2.1 y c hc;have lL:Γ.env.locals≠dx:=abw (aU.gH self _ dx hv (.tail _ (.head _))).1;have other:∀y st,vs.lookup y=some st->y≠self->∀b∈foot st,b≠dx:=λy st hy hys b hb q=>hys (aU.iY y self st _ dx hy hv (q▸hb) (.tail _ (.head _)));have own':fX h' (W++Γ.Do) W (.ref x) (.obj x dx Cc (qp fs name m)):=by
  refine⟨J,hx,hdx,kI,_,_,qp vals name b,⟨(kq.2 x kI).trans hin.1,g',λnm=>?_,?_⟩,?_,(dF.put df name bx).kept kp sub (λ_ q=>.inl q)⟩
  .refine rl (xU ..) (rl (qN ..) (rl (hin.2.2.1 nm ..) ?_))
   split<;>rfl
  .refine rl (o_ ..) ?_;split<;>(first |exact YY hlen hle |exact TH hlen hle)
  .refine rl (o_ ..) (rl (xS ..) (rl (n6 gl ..) ?_))
   have hnm:(vals.lookup name).isSome=decide (name∈fs.map (·.1)):=by
    refine rs df.names ?_;by_cases q:name∈vals.map (·.1)
    .obtain⟨c,hc⟩:=cX q
     refine rl hc ?_;simp[q]
    .refine rl (f9 q) ?_;simp[q]
   refine rl hnm ?_;by_cases q:name∈fs.map (·.1)<;>simp[q]<;>omega
 refine⟨W,λd q=>.inl q,trivial,?_,a_.up.trans (bL.same kq hdx) (λd q=>.inl q) (λd q=>.inl q),aF.same kq (aU.lo _ hdx)⟩;refine⟨aU.kind,aU.glob,aU.bi,⟨mm,hn.sameBut kq lL,λy st hy jP=>?_⟩,λy st hy jP=>?_,λy hy=>?_,aU.lW,aU.tabs,aU.lo,λz hz=>by show z<h'.objs.size;exact rl kq.1 ((aU.hi z hz)),aU.apart,aU.cI,aU.fY,λy st c hy hc=>?_,λy z st jg c hy hz hc jV=>?_⟩
 .replace hy:=(au ..)▸hy
  refine nb λnn=>?_;by_cases q:y=self
  .subst q
   replace hy:=(aaN J)▸hy;obtain rfl:=aax hy;refine nn ?_;rw[ha] at *;exact⟨_,J,own'⟩
  .replace hy:=(aaD q)▸hy
   obtain⟨c,hc,dc⟩:=hl y st hy jP;exact nn<|⟨c,hc,dc.same kq dD (other y st hy q)⟩
 .replace hy:=(au ..)▸hy
  refine nb λnn=>?_;by_cases q:y=self
  .subst q;replace jP:=hk▸jP;rcases jP with q |q<;>cases q
  .replace hy:=(aaD q)▸hy
   obtain⟨c,a',hc,hi,dc⟩:=aU.cell y st hy jP;exact nn<|⟨c,a',hc,hi.sameBut kq (lC y c hc),dc.same kq dD (other y st hy q)⟩
 .obtain⟨c,v,hc,hW,hi⟩:=aU.zS y hy
  exact⟨c,v,hc,hW,hi.sameBut kq (lC y c hc)⟩
 .replace hy:=(au ..)▸hy
  by_cases q:y=self
  .subst q
   replace hy:=(aaN J)▸hy;obtain rfl:=aax hy;exact aU.gH y _ c hv hc
  .replace hy:=(aaD q)▸hy;exact aU.gH y st c hy hc
 .rw[au] at hy hz
  by_cases q:y=self
  .by_cases q':z=self
   .exact rl q (rl q' J)
   .replace hy:=(aaN q)▸hy;obtain rfl:=aax hy
    replace hz:=(aaD q')▸hz;exact q.trans (aU.iY self z _ jg c hv hz hc jV)
  .by_cases q':z=self
   .replace hz:=(aaN q')▸hz;obtain rfl:=aax hz
    replace hy:=(aaD q)▸hy;exact(aU.iY y self st _ c hy hv hc jV).trans q'.symm
   .replace hy:=(aaD q)▸hy;replace hz:=(aaD q')▸hz;exact aU.iY y z st jg c hy hz hc jV
end
end
noncomputable def oz:MV->Bool
 |.int _=>true
 |_=>false
noncomputable def E4:MV->Bool
 |.int _=>true
 |.bool _=>true
 |.none=>true
 |.lst l=>l.all oz
 |_=>false
section
variable{C:Cx}{Γ:Gm}{W D D':acq}{s s':Shared}{vs vs' d7:aC}{A:Around}{E:ach}{e:Expr}{v:MV}{k:Nat}
theorem bD.ints{h:Heap}{vals:acp}{ms:acw}(d:bD h D vals ms)(hi:ms.all oz=true):bD h D' vals ms:=by
 induction vals generalizing ms with
 |nil=>cases d;exact .nil
 |cons a r ih=>
  cases d with
  |cons dv dr=>
   replace hi:=(List.all_cons ..)▸hi;replace hi:=(acd ..)▸hi;refine .cons ?_ (ih dr hi.2);cases dv<;>first |exact .int _ _ |cases hi.1
theorem Den.Zi{h:Heap}{a:Value}(d:Den h D' a v)(hf:E4 v=true)(hD:∀x∈D,x∈D'\/∀items n,h.get? x≠some {cls:=.type "list",data:=.seq items n}):Den h D a v:=by
 cases d with
 |int i t=>exact .int i t
 |bool b=>exact .bool b
 |none=>exact .none
 |lst a items n l hg na ds=>exact .lst a items n l hg (λq=>(hD a q).elim na λz=>z items n hg) (ds.ints hf)
 |_=>cases hf
noncomputable def P_(D:acq)(x dx:Addr):acq:=D.filter λd=>d !=x&&d !=dx
theorem lz{D:acq}{x dx d:Addr}:d∈P_ D x dx↔d∈D/\d≠x/\d≠dx:=by simp[P_]
theorem lg.nd{h:Heap}{x dx:Addr}(dk:lg C D h)(tx:x∉C.tabs)(JC:dx∉C.tabs):lg C (P_ D x dx) h:=⟨λd hd=>lz.mpr ⟨dk.tabs d hd,λq=>tx (q▸hd),λq=>JC (q▸hd)⟩,λd hd=>dk.hi d (lz.mp hd).1,dk.fr⟩
theorem Bl{h:Heap}{x?:acn}{x dx Cc:Addr}{es:acm}{n:Nat}{vals:aci}{fs:acj}(ex:∀y,x?=some y->y=x)(hin:fW h x dx Cc es n vals)(df:dF h D vals fs):Den h (P_ D x dx) (.ref x) (.inst x? Cc fs):=
 .inst x? x dx Cc es n vals fs ex hin (λq=>(lz.mp q).2.1 J) (λq=>(lz.mp q).2.2 J) (df.kept (W:=[]) (λ_ _ _ e=>e) n0 λd hd=>.inl (lz.mp hd).1)
theorem qO{self name:Str}{sp apos pos:Pos}{args:acs}{ms:acw}{x dx Cc f:Addr}{fs:acj}(hv:vs.lookup self=some (.obj x dx Cc fs))(hk:Γ.env.kindOf self=some .local)(hd:(self==("__debug__":Str))=false)
 (M:Meth C Cc name f) (hl:fs.lookup name=none) (Ha:rP C Γ vs args ms) (Hc:bJ C Γ.k (.ref f) (.inst none Cc fs::ms) [] v) (hf:E4 v=true) (he:gX (.Name self sp) name Γ.env apos pos args.length) :
 Ev C Γ vs (.Call (.Attribute (.Name self sp) name apos) args [] pos) v:=λA s W G I F=>by
 refine nb λnn=>?_;obtain⟨mm,hn,hll⟩:=F.ns;obtain⟨a,ha,hD⟩:=hll self _ hv hk;obtain⟨rfl,hx,hdx,kI,es,n,vals,hin,hle,df⟩:=hD;refine nn<|gx he (Ha.plain _) J λpl=>wpAny_Name (wpAny_loadName_local F.kind hk hn ha ?_) hd
 have tx:=aX I (F.lo x hx);have JC:=aX I (F.lo dx hdx);have self':=Bl (D:=W++Γ.Do) (x?:=none) (λ_ q=>nomatch q) hin df;refine xP M hl I self' (eO (by refine rl (Ha.plain ..) ?_;rfl) (Ha.args G I F λvals av bG aY bu=>⟨M.kps av (W++Γ.Do) _ bu (.bZ _ J),?_⟩));have bO:=F.dJ I aY;have dk:=bO.mw.nd tx JC;refine g8 (Hc A av _ (.ref x::vals) [] G bu dk (.cons (self'.dJ I aY dk.tabs) (bG.kept (W:=[]) (λ_ _ _ e=>e) n0 λd hd=>.inl (lz.mp hd).1)) .nil) λr bH bI=>?_;obtain⟨d₃,cW,ez⟩:=bI;have t:=aY.then cW;have kx:bH.heap.get? x=some (instObj Cc dx):=t.keep x _ tx hin.1;have kd:bH.heap.get? dx=some (dictOf es n):=t.keep dx _ JC hin.2.1;refine⟨d₃.Zi hf λd hd=>?_,t,ez⟩;by_cases e1:d=x
 .subst e1;exact .inr λitems n q=>by replace q:=kx▸q;cases q
 .by_cases e2:d=dx
  .subst e2;exact .inr λitems n q=>by replace q:=kd▸q;exact absurd (Value.type.inj (aaJ Obj.cls (aax q))) (by decide)
  .exact .inl (aaG.mpr ⟨hd,by simp[e1,e2]⟩)
end
section
set_option tactic.hygienic true
theorem nq{M:Model}{Γ:Ctx}{p:Pos}{t:Sem Fin}{fs:List Frame}{s s':Shared}{e:End}(h:Runs M Γ p t fs s e s'):s.heap.objs.size<=s'.heap.objs.size:=by
 induction h<;>first
  |exact aaq _
  |assumption
  |(rename_i ih;exact aaf (aa1 (Heap.size_update _ _ _).symm) ih)
  |(rename_i ih;exact aaf (by exact rl (aaI ..) ((aa0 _))) ih)
  |(rename_i a b;exact aaf a b)
theorem zU{M:Model}{Γ:Ctx}{p:Pos}{g:Nat}{r:Resume}{s s':Shared}{res:GenResult}(h:Wakes M Γ p g r s res s'):s.heap.objs.size<=s'.heap.objs.size:=by
 unfold Wakes at h;split at h
 .exact h.elim
 .split at h
  .obtain⟨e,aq,hr,_,_,rfl⟩:=h
   have z:=nq hr;exact z
  .exact rl h.2 ((aaq _))
  .exact rl h.2 ((aaq _))
 .obtain⟨e,aq,hr,_,_,rfl⟩:=h
  have z:=nq hr;exact z
 .exact rl h.2 ((aaq _))
 .exact rl h.2 ((aaq _))
theorem JD{α:Type}{M:Model}{Γ:Ctx}{Q:α->Pos->Shared->Prop}{E:Value->Pos->Shared->Prop}{n:Nat}(t:Sem α):∀{p:Pos}{s:Shared},n<=s.heap.objs.size->Sem.wp M Γ t Q E p s->
 Sem.wp M Γ t (λa p' s'=>Q a p' s'/\n<=s'.heap.objs.size) (λe p' s'=>E e p' s'/\n<=s'.heap.objs.size) p s:=by
 induction t with
 |pure a=>intro p s hn h;exact⟨h,hn⟩
 |raise e=>intro p s hn h;exact⟨h,hn⟩
 |unsupported |finish |yield |fork |await |register=>intro p s hn h;exact h
 |rule _ k ih | «at» _ k ih |loadIfAlive _ k ih |point _ k ih |fresh k ih |ask k ih |os _ _ k ih |handled _ k ih |newGen _ k ih |stack k ih |thread k ih=>intro p s hn h;exact ih _ hn h
 |alloc o k ih=>intro p s hn h;exact ih _ (aaf hn (by show _<=(s.heap.push o).objs.size;exact rl (aaI ..) ((aa0 _)))) h
 |load a _ k ih |genState a k ih=>intro p s hn ⟨o,ho,h⟩;exact⟨o,ho,ih _ hn h⟩
 |update a _ f k ih=>intro p s hn ⟨ha,h⟩;exact⟨ha,ih _ (aaf hn (aa1 (Heap.size_update _ _ _).symm)) h⟩
 |choose _ _ k ih=>intro p s hn ⟨ha,h⟩;exact⟨ha,ih _ hn h⟩
 |call c h g l k ih=>intro p s hn ⟨r,s',hr,h⟩;exact⟨r,s',hr,ih r (aaf hn (nq hr)) h⟩
 |resume g r l k ih=>intro p s hn ⟨res,s',hw,h⟩;exact⟨res,s',hw,ih _ (aaf hn (zU hw)) h⟩
theorem fQ{α:Type}{M:Model}{A:Around}{t:Sem α}{Q Q':α->Shared->Prop}{E:ach}{s:Shared}(h:wpAny M A t Q E s)(hQ:∀a s',s.heap.objs.size<=s'.heap.objs.size->Q a s'->Q' a s'):wpAny M A t Q' E s:=λΓ p hΓ=>
 Sem.wp_mono M Γ t (λa p' s' x=>hQ a s' x.2 x.1) (λe p' s' x=>x.1) p s (JD t (aaq _) (h Γ p hΓ))
theorem v_{M:Model}{A:Around}{c:Code}{R R':Result->Shared->Prop}{s:Shared}(h:codeAny M A c R s)(hR:∀r s',s.heap.objs.size<=s'.heap.objs.size->R r s'->R' r s'):codeAny M A c R' s:=λΓ p hc hΓ=>
 let⟨r,s',hr,x⟩:=h Γ p hc hΓ;⟨r,s',hr,hR r s' (nq hr) x⟩
end
noncomputable def Bd(C:Cx)(Γ:Gm)(t:Expr)(m:MV)(vs vs':aC):Prop:=
 ∀A s W a,Good Γ.k A->Inv C s->Fm C Γ W s.heap vs->Den s.heap (W++Γ.Do) a m->wpAny (model P0 C.w) A (assign t Γ.env a) (λ_ s'=>Fm C Γ W s'.heap vs'/\bL C W s s'/\Inv C s') ig s
structure SH(C:Cx)(Γ:Gm)(ts:acs)(ms:acw)(vs vs':aC):Prop where
 len:(assignEach ts Γ.env).length=ms.length
 star:(assignEach ts Γ.env).findIdx? (·.1)=none
 run:∀A s W vals,Good Γ.k A->Inv C s->Fm C Γ W s.heap vs->bD s.heap (W++Γ.Do) vals ms->wpAny (model P0 C.w) A (assignInOrder ((assignEach ts Γ.env).map (·.2)) vals) (λ_ s'=>Fm C Γ W s'.heap vs'/\bL C W s s'/\Inv C s') ig s
section
variable{C:Cx}{Γ:Gm}{W D D':acq}{s s':Shared}{vs vs' d7:aC}{A:Around}{E:ach}{e:Expr}{v m:MV}{k:Nat}{ms:acw}{fl:Fl}
theorem bD.MW(F:Fm C Γ W s.heap vs)(t:bL C W s s'){a:acp}(d:bD s.heap (W++Γ.Do) a ms):bD s'.heap (W++Γ.Do) a ms:=
 d.kept t.keep (λx hx=>by
  rcases aag.mp hx with q |q
  .exact aah _ q
  .exact F.cj x q) (λ_ q=>.inl q)
theorem bL.eS(a:bL C W s s'){gp:Shared}(b:bL C W s' gp):bL C W s gp:=a.trans b (λd q=>.inl q) (λd q=>.inl q)
theorem cH{x:Str}{p:Pos}(hx:rG Γ x):Bd C Γ (.Name x p) m vs (aG vs x (.v m)):=λA s W a G I F d=>
 wpAny_assign_Name (jQ hx G I F d λs' F' t' I'=>⟨F',t',I'⟩)
theorem wc:SH C Γ [] [] vs vs:=⟨J,J,λA s W vals G I F d=>by obtain rfl:=d.g7;exact wpAny_assignInOrder_none ⟨F,bL.refl _ _ _,I⟩⟩
theorem iy{t:Expr}{ts:acs}(H:Bd C Γ t m vs vs')(T:SH C Γ ts ms vs' d7)(he:assignEach (t::ts) Γ.env=(false,assign t Γ.env)::assignEach ts Γ.env:=by rfl):SH C Γ (t::ts) (m::ms) vs d7:=
 ⟨by exact rl he ((aaJ (·+1) T.len)),by refine rl he (rl List.findIdx?_cons (rl T.star ?_));rfl,λA s W vals G I F d=>by
  cases d.d8 with
  |mk dv dr=>
   refine rl he ?_;exact abD (cS (H A s W _ G I F dv) λ_ aq bI=>by obtain⟨aU,a_,aF⟩:=bI;exact cS (T.run A aq W _ G aF aU (dr.MW F a_)) λ_ av ⟨bO,aY,bu⟩=>⟨bO,a_.eS aY,bu⟩)⟩
theorem we{h':Heap}(hx:Heap.ExtBut s.heap.objs.size s.heap h')(hs:s.heap.objs.size<=h'.objs.size):bL C [] s {s with heap:=h'}:=
 bL.heap (tk:=s.toks) hs (λb o _ e=>hx b o (abb (aaB e)) e)
theorem wg(I:Inv C s){h':Heap}(hx:Heap.ExtBut s.heap.objs.size s.heap h')(hs:s.heap.objs.size<=h'.objs.size):Inv C {s with heap:=h'}:=
 I.step (tk:=s.toks) (W:=[]) hs (λb o _ e=>hx b o (abb (aaB e)) e) n0
theorem sG{ts:acs}{x1:Nat}{p:Pos}(H:SH C Γ ts ms vs vs'):Bd C Γ (.Tuple ts x1 p) (.tup ms) vs vs':=λA s W a G I F d=>by
 cases d.EL with
 |mk a items n hg na ds=>
  have ht:s.heap.IsTuple a items:=⟨_,hg,J,n,J⟩;refine rl (arm_assign_Tuple ..) ?_;refine aal (aaY ?_);unfold unpack;rw[show(assignEach ts Γ.env).length=items.size from by refine rl H.len (rs ds.length ?_);simp,H.star];refine aal (abL (fQ (Q:=λvals s'=>∃h',Heap.ExtBut s.heap.objs.size s.heap h'/\vals=items.toList/\s'={s with heap:=h'}) (wpAny_unpackItems_tuple G.handled ht λh' hx=>⟨h',hx,J,J⟩) ?_));rintro vals s' hs ⟨h',hx,rfl,rfl⟩;have t1:=we (C:=C) hx hs;have I1:=wg I hx hs;exact cS (H.run A _ W _ G I1 (F.dJ I t1) (bD.dJ I t1 F.cj ds)) λ_ av bI=>by obtain⟨bO,aY,bu⟩:=bI;exact⟨bO,t1.up.eS aY,bu⟩
theorem cy{t e:Expr}{p:Pos}(H:Ev C Γ vs e m)(B:Bd C Γ t m vs vs')(hs:swapsWith e (some t) p.line Γ.env=pure false)(hw:swappedStores [t] e Γ.env=pure none)(he:(assignEach [t] Γ.env).map (·.2)=[assign t Γ.env]:=by rfl) :
 gq C Γ vs (.Assign [t] e p) .next vs':=λA s W G I F=>
 wpAny_Assign_stores (H.use G I F λa aq bx a_ aF aU=>by refine rl he ?_;exact cS (B A aq W a G aF aU bx) λ_ av bI=>by obtain⟨bO,aY,bu⟩:=bI;exact⟨W,λd q=>.inl q,trivial,bO,a_.up.eS aY,bu⟩) hs hw
noncomputable def WO(Γ:Gm):acv->acw->aC->aC->Prop
 |[],[],vs,vs'=>vs'=vs
 |x::xs,m::ms,vs,vs'=>rG Γ x/\WO Γ xs ms (aG vs x (.v m)) vs'
 |_,_,_,_=>False
theorem Bm:∀{xs:acv}{ms:acw}{vs:aC}{s:Shared}{vals:acp},WO Γ xs ms vs vs'->Good Γ.k A->Inv C s->Fm C Γ W s.heap vs->bD s.heap (W++Γ.Do) vals ms->
 wpAny (model P0 C.w) A (assignInOrder (xs.map λn=>bindName Γ.env n) vals) (λ_ s'=>Fm C Γ W s'.heap vs'/\bL C W s s'/\Inv C s') ig s
 |[],[],vs,s,vals,h,G,I,F,d=>by cases h;cases d;exact wpAny_assignInOrder_none ⟨F,bL.refl _ _ _,I⟩
 |x::xs,m::ms,vs,s,vals,⟨hx,h⟩,G,I,F,d=>by
  cases d.d8 with
  |mk dv dr=>
   exact abD (wpAny_bindName (jQ hx G I F dv λaq aU a_ aF=>cS (Bm h G aF aU (dr.MW F a_)) λ_ av bI=>by obtain⟨bO,aY,bu⟩:=bI;exact⟨bO,a_.eS aY,bu⟩))
 |[],_::_,_,_,_,h,_,_,_,_=>h.elim
 |_::_,[],_,_,_,h,_,_,_,_=>h.elim
theorem j3{t e:Expr}{p:Pos}{names:acv}(H:Ev C Γ vs e (.tup ms))(hlen:ms.length=names.length)(B:WO Γ names.reverse ms.reverse vs vs')(hs:swapsWith e (some t) p.line Γ.env=pure false)(hw:swappedStores [t] e Γ.env=pure (some names)) :
 gq C Γ vs (.Assign [t] e p) .next vs':=λA s W G I F=>by
 refine rl (exec_Assign_arm ..) ?_;refine aal (aaY ?_);refine rl (show swapsWithSole [t] e p.line Γ.env=pure false from hs) ?_;refine aal (aat ?_);refine rl (aaD (by decide)) ?_;refine aal (H.use G I F λa aq bx a_ aF aU=>?_);refine rl hw ?_;refine aal (aat ?_);unfold assignStores;cases bx.EL with
 |mk a items n hg na ds=>
  have ht:aq.heap.IsTuple a items:=⟨_,hg,J,n,J⟩;refine aal (abR ?_);rw[show names.length=items.size from by refine rs hlen (rs ds.length ?_);simp];refine aal (fQ (Q:=λvals s'=>∃h',Heap.ExtBut aq.heap.objs.size aq.heap h'/\vals=items.toList/\s'={aq with heap:=h'}) (wpAny_unpackItems_tuple G.handled ht λh' hx=>⟨h',hx,J,J⟩) ?_);rintro vals s' kq ⟨h',hx,rfl,rfl⟩;have t2:=we (C:=C) hx kq;have I2:=wg aF hx kq;have P8:=bD.dJ aF t2 aU.cj ds;have rev:bD h' (W++Γ.Do) items.toList.reverse ms.reverse:=by
   have:∀{a:acp}{b:acw},bD h' (W++Γ.Do) a b->∀{c:acp}{d:acw},bD h' (W++Γ.Do) c d->bD h' (W++Γ.Do) (a.reverse++c) (b.reverse++d):=by
    intro a
    induction a with
    |nil=>intro b hb c d hd;cases hb;exact hd
    |cons x r ih=>intro b hb c d hd;cases hb with |cons hx hr=>simpa using ih hr (.cons hx hd)
   simpa using this P8 .nil
  refine rl List.map_reverse ?_;refine rs List.map_reverse ?_;refine aal (cS (Bm B G I2 (aU.dJ aF t2) rev) λ_ bH bI=>by obtain⟨iz,cW,ez⟩:=bI;exact aat ⟨W,λd q=>.inl q,trivial,iz,(a_.then t2).up.eS cW,ez⟩)
end
section
set_option tactic.hygienic true
inductive jz(lo:Nat)(h:Heap)(D X:acq):Bool->acq->Value->acw->Prop
 |list {it l:Addr} {i n:Nat} {items:aco} {ms:acw}:h.IsListIter it l i->h.get? l=some {cls:=.type "list",data:=.seq items n}->l∉X->bD h D (items.toList.drop i) ms->lo<=it->it≠l->jz lo h D X false [it] (.ref it) ms
 |range {it:Addr} {x left step:Int} {ms:acw}:IsRangeIter h it x left step->left.toNat=ms.length->(∀(j:Nat)(m:MV),ms[j]?=some m->m=MV.int (x+j*step))->lo<=it->jz lo h D X false [it] (.ref it) ms
 |zip {z TI TO i1 i2 l1 l2:Addr} {k1 k2 n1 n2:Nat} {xs ys:aco} {a b:Value} {as bs:acw}:ZipApart z TI TO i1 i2 l1 l2->IsZip h z TI TO .none->IsPair h TI (.ref i1) (.ref i2)->IsPair h TO a b->h.IsListIter i1 l1 k1->h.IsListIter i2 l2 k2->
  h.get? l1=some {cls:=.type "list",data:=.seq xs n1}->h.get? l2=some {cls:=.type "list",data:=.seq ys n2}->l1∉X->l2∉X->bD h D (xs.toList.drop k1) as->bD h D (ys.toList.drop k2) bs->
  lo<=z->lo<=TI->lo<=TO->lo<=i1->lo<=i2->jz lo h D X true [z,TI,TO,i1,i2] (.ref z) (List.zipWith (λa b=>MV.tup [a,b]) as bs)
 |enum {e it l:Addr} {i n:Nat} {items:aco} {old:Value} {ms:acw}:IsEnum h e it i old->h.IsListIter it l i->h.get? l=some {cls:=.type "list",data:=.seq items n}->l∉X->bD h D (items.toList.drop i) ms->lo<=e->lo<=it->e≠it->e≠l->it≠l->
  jz lo h D X true [e,it] (.ref e) (ms.mapIdx λj m=>MV.tup [MV.int (i+j),m])
section
variable{C:Cx}{Γ:Gm}{W D D' X X' Z:acq}{s s':Shared}{vs vs' d7:aC}{A:Around}{E:ach}{e:Expr}{v m:MV}{k:Nat}{ms:acw}{fl:Fl}{pr:Bool}{it:Value}
theorem Qa{α:Type}{a:α}{l:List α}:a∈a::l:=.head _
theorem SI{α:Type}{a b:α}{l:List α}:b∈a::b::l:=.tail _ (.head _)
theorem WQ{α:Type}{a b c:α}{l:List α}:c∈a::b::c::l:=.tail _ SI
theorem WR{α:Type}{a b c d:α}{l:List α}:d∈a::b::c::d::l:=.tail _ WQ
theorem Zj{α:Type}{a b c d e:α}{l:List α}:e∈a::b::c::d::e::l:=.tail _ WR
theorem MX{α:Type}{x a:α}{l:List α}(h:x∉a::l):x≠a:=λq=>h (q▸Qa)
theorem Zk{α:Type}{x a b:α}{l:List α}(h:x∉a::b::l):x≠b:=λq=>h (q▸SI)
theorem Zl{α:Type}{x a b c:α}{l:List α}(h:x∉a::b::c::l):x≠c:=λq=>h (q▸WQ)
theorem Zm{α:Type}{x a b c d:α}{l:List α}(h:x∉a::b::c::d::l):x≠d:=λq=>h (q▸WR)
theorem Zn{α:Type}{x a b c d e:α}{l:List α}(h:x∉a::b::c::d::e::l):x≠e:=λq=>h (q▸Zj)
theorem MY{α:Type}{P:α->Prop}{a:α}{l:List α}(h:P a)(H:∀x∈l,P x):∀x∈a::l,P x:=λx hx=>(aap.mp hx).elim (λq=>by exact rl q h) (H x)
theorem WS{α:Type}{P:α->Prop}{a b:α}(h1:P a)(h2:P b):∀x∈[a,b],P x:=MY h1 (MY h2 λ_ q=>nomatch q)
theorem Zo{α:Type}{P:α->Prop}{a b c d e:α}(h1:P a)(h2:P b)(h3:P c)(h4:P d)(h5:P e):∀x∈[a,b,c,d,e],P x:=MY h1 (MY h2 (MY h3 (WS h4 h5)))
theorem kK{h h':Heap}{W:acq}(hk:Kept W h h'){it l:Addr}{i:Nat}(x:h.IsListIter it l i)(hn:it∉W):h'.IsListIter it l i:=let⟨o,ho,r⟩:=x;⟨o,hk it o hn ho,r⟩
theorem sH{h h':Heap}{d it l:Addr}{i:Nat}(x:h.IsListIter it l i)(hs:Heap.SameBut d h h')(hn:it≠d):h'.IsListIter it l i:=let⟨o,ho,r⟩:=x;⟨o,(hs.2 it hn).trans ho,r⟩
theorem jz.kept{lo:Nat}{h h':Heap}{W:acq}(hk:Kept W h h')(sub:∀d∈W,d∈D)(WT:∀d∈W,d∈X)(hD:∀d∈D',d∈D\/h.objs.size<=d)(hX:∀d∈X',d∈X\/h.objs.size<=d)(hZ:∀z∈Z,z∉W)(x:jz lo h D X pr Z it ms):jz lo h' D' X' pr Z it ms:=by
 have nD:∀{l o},h.get? l=some o->l∉X->l∉X':=λ{l o} e hn q=>(hX l q).elim hn λz=>absurd (aaB e) (aaw.mpr z);have nW:∀{l},l∉X->l∉W:=λ{l} hn q=>hn (WT l q)
 induction x with
 |list h1 h2 h3 h4 h5 h6=>exact .list (kK hk h1 (hZ _ (.head _))) (hk _ _ (nW h3) h2) (nD h2 h3) (h4.kept hk sub hD) h5 h6
 |range h1 h2 h3 h4=>exact .range (hk _ _ (hZ _ (.head _)) h1) h2 h3 h4
 |zip a1 a2 a3 a4 a5 a6 a7 a8 a9 uP xH Bc zO v5 zP zQ zJ=>
  exact .zip a1 (hk _ _ (hZ _ Qa) a2) (hk _ _ (hZ _ SI) a3) (hk _ _ (hZ _ WQ) a4) (kK hk a5 (hZ _ WR)) (kK hk a6 (hZ _ Zj)) (hk _ _ (nW a9) a7) (hk _ _ (nW uP) a8) (nD a7 a9) (nD a8 uP) (xH.kept hk sub hD) (Bc.kept hk sub hD) zO v5 zP zQ zJ
 |enum a1 a2 a3 a4 a5 a6 a7 a8 a9 uP=>
  exact .enum (hk _ _ (hZ _ Qa) a1) (kK hk a2 (hZ _ SI)) (hk _ _ (nW a4) a3) (nD a3 a4) (a5.kept hk sub hD) a6 a7 a8 a9 uP
theorem mO{P:Sem Unit->Prop}(h1:P (pure ()))(t:Expr)(it v:Value)(h2:∀r a,it = .ref r->v = .ref a->P (letOwnedTupleGo (.List [] ⟨0,0,0,0⟩) (.ref r) (.ref a))):P (letOwnedTupleGo t it v):=by
 have h3:P (letOwnedTupleGo (.List [] ⟨0,0,0,0⟩) it v):=by
  cases it with
  |ref r=>cases v with
   |ref a=>exact h2 r a J J
   |_=>exact h1
  |_=>exact h1
 cases t with
 |List=>exact h3
 |Tuple=>exact h3
 |_=>exact h1
theorem wh{t:Expr}{it v:Value}{Q:Unit->Shared->Prop}(hv:∀a,v≠.ref a)(h:Q () s):wpAny (model P0 C.w) A (letOwnedTupleGo t it v) Q E s:=
 mO (P:=λx=>wpAny (model P0 C.w) A x Q E s) (aat h) t it v λ_ a _ e=>absurd e (hv a)
theorem uC{t:Expr}{it l:Addr}{i:Nat}{v:Value}{Q:Unit->Shared->Prop}(hi:s.heap.IsListIter it l i)(h:Q () s):wpAny (model P0 C.w) A (letOwnedTupleGo t (.ref it) v) Q E s:=
 mO (P:=λx=>wpAny (model P0 C.w) A x Q E s) (aat h) t (.ref it) v λr a e _=>by cases e;obtain⟨o,ho,hc,hd⟩:=hi;refine aal (wpAny_load ho ?_);refine rl hc (rl hd ?_);exact wpAny_ite_false J (aat h)
theorem xW{α:Type}{l:List α}{i:Nat}{a:α}{r:List α}(h:l.drop i=a::r):l[i]?=some a/\l.drop (i+1)=r:=by
 have:(l.drop i)[0]?=some a:=by rw[h];rfl
 rw[List.getElem?_drop] at this;refine⟨by simpa using this,?_⟩;have:(l.drop i).drop 1=r:=by rw[h];rfl
 rwa [List.drop_drop] at this
theorem drop_nil{α:Type}{l:List α}{i:Nat}(h:l.drop i=[]):l[i]?=none:=List.getElem?_eq_none (List.drop_eq_nil_iff.mp h)
theorem Dd{α:Type}{P:List α->Prop}{l:List α}{i:Nat}(f:∀r,P r->∃a q,r=a::q)(h:P (l.drop i)):∃a,l[i]?=some a/\P (a::l.drop (i+1)):=by refine nb λnn=>?_;obtain⟨a,q,e⟩:=f _ h;obtain⟨g1,g2⟩:=xW e;exact nn<|⟨a,g1,by exact rl g2 (rs e h)⟩
theorem nu{xs:aco}{i:Nat}{h:Heap}(d:bD h D (xs.toList.drop i) (m::ms)):∃a,xs[i]?=some a/\Den h D a m/\bD h D (xs.toList.drop (i+1)) ms:=by obtain⟨a,g,d⟩:=Dd (P:=λr=>bD h D r (m::ms)) (λr hr=>by cases hr.d8 with |mk d1 d2=>exact⟨_,_,J⟩) d;cases d with |cons d1 d2=>exact⟨a,by exact rs Array.getElem?_toList g,d1,d2⟩
theorem pe{xs:aco}{i:Nat}{h:Heap}(d:bD h D (xs.toList.drop i) []):xs[i]?=none:=by exact rs Array.getElem?_toList ((drop_nil d.g7))
theorem De{lo:Nat}{it l:Addr}{i n:Nat}{items:aco}(h1:s.heap.IsListIter it l i)(h2:s.heap.get? l=some {cls:=.type "list",data:=.seq items n})(h3:l∉X)(h4:bD s.heap D (items.toList.drop i) (m::ms))(h5:lo<=it)(h6:it≠l)(hD:∀z∈[it],z∈D)(I:Inv C s)(hlo:C.H.objs.size<=lo){t:Expr}
 {Q:Option Value->Shared->Prop} (h:∀a aq,wpAny (model P0 C.w) A (letOwnedTupleGo t (.ref it) a) (λ_ s'=>Den s'.heap D a m/\jz lo s'.heap D X false [it] (.ref it) ms/\bL C [it] s s'/\Inv C s') ig aq->Q (some a) aq):wpAny (model P0 C.w) A (pyNext (.ref it)) Q E s:=by
 obtain⟨va,g,d1,d2⟩:=nu h4;refine wpAny_pyNext_list_item h1 ⟨_,h2,J,n,J⟩ g λh' a1 a2=>h _ _ ?_;have kp:Kept [it] s.heap h':=gK a2;exact uC a1 ⟨d1.kept kp hD (λ_ q=>.inl q),.list a1 ((a2.2 l (abw h6)).trans h2) h3 (d2.kept kp hD (λ_ q=>.inl q)) h5 h6,bL.heap (tk:=s.toks) (aa1 a2.1.symm) kp,I.same (tk:=s.toks) a2 (aaf hlo h5)⟩
theorem WU{x:Int}{n:Nat}(h:x.toNat=n+1):0<x:=by exact TJ h
theorem WV{x:Int}{n:Nat}(h:x.toNat=n+1):(x-1).toNat=n:=by exact TL h
theorem WW{x:Int}(h:x.toNat=0):x<=0:=by exact TM h
theorem zV{lo:Nat}{it:Addr}{x left step:Int}(h1:IsRangeIter s.heap it x left step)(h2:left.toNat=(m::ms).length)(h3:∀(j:Nat) (m':MV),(m::ms)[j]?=some m'->m'=MV.int (x+j*step))(h4:lo<=it)(I:Inv C s)(hlo:C.H.objs.size<=lo){t:Expr}
 {Q:Option Value->Shared->Prop} (h:∀a aq,wpAny (model P0 C.w) A (letOwnedTupleGo t (.ref it) a) (λ_ s'=>Den s'.heap D a m/\jz lo s'.heap D X false [it] (.ref it) ms/\bL C [it] s s'/\Inv C s') ig aq->Q (some a) aq):wpAny (model P0 C.w) A (pyNext (.ref it)) Q E s:=by
 replace h2:=abr▸h2;refine wpAny_pyNext_range_item h1 (WU h2) λh' a1 a2=>h _ _ ?_;have kp:Kept [it] s.heap h':=gK a2;refine wh (λa q=>nomatch q) ⟨?_,.range a1 (WV h2) (λj m' hj=>?_) h4,bL.heap (aa1 a2.1.symm) kp,I.same a2 (aaf hlo h4)⟩
 .have e0:m = .int x:=by exact rl (h3 0 m J ..) (rl (Int.natCast_zero ..) (rl (Int.zero_mul ..) (rl (Int.add_zero ..) J)))
  exact rl e0 ((Den.int x s.toks))
 .exact rl (h3 (j+1) m' hj ..) (rl (Int.natCast_add ..) (rl (Int.add_mul ..) (rl (Int.natCast_one ..) (rl (Int.one_mul ..) (rl (Int.add_assoc ..) (rl (Int.add_comm step ..) J))))))
theorem E5{lo:Nat}{z TI TO i1 i2 l1 l2:Addr}{k1 k2 n1 n2:Nat}{xs ys:aco}{a b:Value}{m1 m2:MV}{as bs:acw}(a1:ZipApart z TI TO i1 i2 l1 l2)(a2:IsZip s.heap z TI TO .none)(a3:IsPair s.heap TI (.ref i1) (.ref i2))(a4:IsPair s.heap TO a b)(a5:s.heap.IsListIter i1 l1 k1)(a6:s.heap.IsListIter i2 l2 k2)
 (a7:s.heap.get? l1=some {cls:=.type "list",data:=.seq xs n1}) (a8:s.heap.get? l2=some {cls:=.type "list",data:=.seq ys n2}) (a9:l1∉X) (uP:l2∉X) (xH:bD s.heap D (xs.toList.drop k1) (m1::as)) (Bc:bD s.heap D (ys.toList.drop k2) (m2::bs)) (zO:lo<=z) (v5:lo<=TI) (zP:lo<=TO) (zQ:lo<=i1) (zJ:lo<=i2)
 (hD:∀z'∈[z,TI,TO,i1,i2],z'∈D) (hhi:∀d∈D,d<s.heap.objs.size) (I:Inv C s) (hlo:C.H.objs.size<=lo) {es:acs} {x1:Nat} {p:Pos}
 {Q:Option Value->Shared->Prop} (h:∀a aq,wpAny (model P0 C.w) A (letOwnedTupleGo (.Tuple es x1 p) (.ref z) a) (λ_ s'=>Den s'.heap D a (.tup [m1,m2])/\jz lo s'.heap D X true [z,TI,TO,i1,i2] (.ref z) (List.zipWith (λa b=>MV.tup [a,b]) as bs)/\bL C [z,TI,TO,i1,i2] s s'/\Inv C s') ig aq->Q (some a) aq):wpAny (model P0 C.w) A (pyNext (.ref z)) Q E s:=by
 refine nb λnn=>?_;obtain⟨va,g1,da1,da2⟩:=nu xH;obtain⟨vb,g3,db1,db2⟩:=nu Bc;refine nn<|wpAny_pyNext_zip_item a1 a2 a3 a4 a5 a6 ⟨_,a7,J,n1,J⟩ ⟨_,a8,J,n2,J⟩ g1 g3 λh' b1 b2 b3 b4 b5 b6 b7=>h _ _ (wpAny_letOwnedTupleGo_zip b1 λh'' c1 c2=>?_)
 have kp:Kept [z,TI,TO,i1,i2] s.heap h'':=λc o hc e=>(c2.2 c (MX hc)).trans (b7 c o (MX hc) (Zl hc) (Zm hc) (Zn hc) e);have sz:s.heap.objs.size<=h''.objs.size:=by exact rl (c2.1.trans b6) ((aa0 _))
 have rf:∀x∈D,x∈D\/s.heap.objs.size<=x:=λ_ q=>.inl q;refine⟨?_,?_,bL.heap (tk:=s.toks) sz kp,I.step (tk:=s.toks) sz kp (Zo (aaf hlo zO) (aaf hlo v5) (aaf hlo zP) (aaf hlo zQ) (aaf hlo zJ))⟩
 .exact .tup _ #[va,vb] 0 _ ((c2.2 _ (abB (hhi z (hD z Qa)))).trans b5) (λq=>absurd (hhi _ q) (aa8 _)) (.cons (da1.kept kp hD rf) (.cons (db1.kept kp hD rf) .nil))
 .exact .zip (n1:=n1) (n2:=n2) a1 c1 ((c2.2 _ a1.TIz).trans (b7 TI _ a1.TIz a1.TITO a1.TIi1 a1.TIi2 a3)) ((c2.2 _ a1.TOz).trans b2) (sH b3 c2 a1.i1z) (sH b4 c2 a1.i2z) ((c2.2 _ a1.l1z).trans (b7 l1 _ a1.l1z a1.l1TO a1.l1i1 a1.l1i2 a7)) ((c2.2 _ a1.l2z).trans (b7 l2 _ a1.l2z a1.l2TO a1.l2i1 a1.l2i2 a8)) a9 uP (da2.kept kp hD rf) (db2.kept kp hD rf) zO v5 zP zQ zJ
theorem Df{lo:Nat}{e it l:Addr}{i n:Nat}{items:aco}{old:Value}(a1:IsEnum s.heap e it i old)(a2:s.heap.IsListIter it l i)(a3:s.heap.get? l=some {cls:=.type "list",data:=.seq items n})(a4:l∉X)(a5:bD s.heap D (items.toList.drop i) (m::ms))(a6:lo<=e)(a7:lo<=it)(a8:e≠it)(a9:e≠l)(uP:it≠l)
 (hD:∀z'∈[e,it],z'∈D) (hhi:∀d∈D,d<s.heap.objs.size) (I:Inv C s) (hlo:C.H.objs.size<=lo) {es:acs} {x1:Nat} {p:Pos}
 {Q:Option Value->Shared->Prop} (h:∀a aq,wpAny (model P0 C.w) A (letOwnedTupleGo (.Tuple es x1 p) (.ref e) a) (λ_ s'=>Den s'.heap D a (.tup [.int i,m])/\jz lo s'.heap D X true [e,it] (.ref e) (ms.mapIdx λj m=>MV.tup [MV.int (i+1+j),m])/\bL C [e,it] s s'/\Inv C s') ig aq->Q (some a) aq):wpAny (model P0 C.w) A (pyNext (.ref e)) Q E s:=by
 obtain⟨va,g1,d1,d2⟩:=nu a5;refine wpAny_pyNext_enum_item a1 a2 ⟨_,a3,J,n,J⟩ g1 a8 λh' b1 b2 b3 b4 b5=>h _ _ (wpAny_letOwnedTupleGo_enum b1 λh'' c1 c2=>?_);have kp:Kept [e,it] s.heap h'':=λc o hc e'=>(c2.2 c (MX hc)).trans (b5 c o (MX hc) (Zk hc) e');have sz:s.heap.objs.size<=h''.objs.size:=by exact rl (c2.1.trans b4) ((aa0 _))
 have rf:∀x∈D,x∈D\/s.heap.objs.size<=x:=λ_ q=>.inl q;refine⟨?_,?_,bL.heap sz kp,I.step sz kp (WS (aaf hlo a6) (aaf hlo a7))⟩
 .exact .tup _ #[.int i s.toks,va] 0 _ ((c2.2 _ (abB (hhi e (hD e Qa)))).trans b3) (λq=>absurd (hhi _ q) (aa8 _)) (.cons (Den.int (i:Int) s.toks) (.cons (d1.kept kp hD rf) .nil))
 .exact .enum (i:=i+1) (old:=va) (by simpa using c1) (sH b2 c2 (abw a8)) ((c2.2 l (abw a9)).trans (b5 l _ (abw a9) (abw uP) a3)) a4 (d2.kept kp hD rf) a6 a7 a8 a9 uP
theorem jz.next{lo:Nat}(x:jz lo s.heap D X pr Z it (m::ms))(hD:∀z∈Z,z∈D)(hhi:∀d∈D,d<s.heap.objs.size)(I:Inv C s)(hlo:C.H.objs.size<=lo){t:Expr}(ht:pr=true->∃es x1 p,t = .Tuple es x1 p)
 {Q:Option Value->Shared->Prop} (h:∀a aq,wpAny (model P0 C.w) A (letOwnedTupleGo t it a) (λ_ s'=>Den s'.heap D a m/\jz lo s'.heap D X pr Z it ms/\bL C Z s s'/\Inv C s') ig aq->Q (some a) aq):wpAny (model P0 C.w) A (pyNext it) Q E s:=by
 generalize hms:m::ms=mm at x
 induction x with
 |list h1 h2 h3 h4 h5 h6=>subst hms;exact De h1 h2 h3 h4 h5 h6 hD I hlo h
 |range h1 h2 h3 h4=>subst hms;exact zV h1 h2 h3 h4 I hlo h
 | @zip z TI TO i1 i2 l1 l2 k1 k2 n1 n2 xs ys a b as bs a1 a2 a3 a4 a5 a6 a7 a8 a9 uP xH Bc zO v5 zP zQ zJ=>
  refine nb λnn=>?_;cases as with
  |nil=>cases hms
  |cons ma as=>
  cases bs with
  |nil=>cases hms
  |cons mb bs=>
   refine nn ?_;injection hms with e1 e2
   refine nb λnn=>?_;subst e1;subst e2;obtain⟨es,x1,p,rfl⟩:=ht J;exact nn<|E5 a1 a2 a3 a4 a5 a6 a7 a8 a9 uP xH Bc zO v5 zP zQ zJ hD hhi I hlo h
 | @enum e it l i n items old ms' a1 a2 a3 a4 a5 a6 a7 a8 a9 uP=>
  refine nb λnn=>?_;cases ms' with
  |nil=>cases hms
  |cons mv mr=>
   replace hms:=List.mapIdx_cons▸hms;refine nn ?_;injection hms with e1 e2
   refine nb λnn=>?_;subst e1;subst e2;obtain⟨es,x1,p,rfl⟩:=ht J;refine nn<|Df a1 a2 a3 a4 a5 a6 a7 a8 a9 uP hD hhi I hlo λa aq hw=>h a aq (cS hw λ_ s' bI=>?_)
   refine nb λnn=>?_;obtain⟨d,x,tt,ii⟩:=bI;refine nn<|⟨by exact rl (Int.natCast_zero ..) (rl (Int.add_zero ..) d),?_,tt,ii⟩
   have:(mr.mapIdx λj m=>MV.tup [MV.int ((i:Int)+((j+1:Nat):Int)),m])=mr.mapIdx λj m=>MV.tup [MV.int ((i:Int)+1+j),m]:=by congr 1;funext j m;exact rl (Int.natCast_add ..) (rl (Int.natCast_one ..) (rl (Int.add_comm (j:Int) 1 ..) (rl (Int.add_assoc ..) J)))
   refine rl this ?_;exact x
theorem rQ(hz:∀z∈Z,C.H.objs.size<=z)(I:Inv C s){Q:Option Value->Shared->Prop}(h:∀s',bL C Z s s'->Inv C s'->Q none s')
 (hw:∀Q':Option Value->Shared->Prop,(∀h',Kept Z s.heap h'->Q' none {s with heap:=h'})->wpAny (model P0 C.w) A (pyNext it) Q' E s):wpAny (model P0 C.w) A (pyNext it) Q E s:=
 fQ (hw (λr s'=>r=none/\∃h',Kept Z s.heap h'/\s'={s with heap:=h'}) λh' k=>⟨J,h',k,J⟩) λr s' hs q=>by obtain⟨rfl,h',k,rfl⟩:=q;exact h _ (bL.heap (tk:=s.toks) hs k) (I.step (tk:=s.toks) hs k hz)
theorem jz.done{lo:Nat}(x:jz lo s.heap D X pr Z it [])(hh:A.handled=none)(I:Inv C s)(hlo:C.H.objs.size<=lo){Q:Option Value->Shared->Prop}(h:∀s',bL C Z s s'->Inv C s'->Q none s'):wpAny (model P0 C.w) A (pyNext it) Q E s:=by
 generalize hms:([]:acw)=mm at x
 induction x with
 | @list it l i n items _ h1 h2 h3 h4 h5 h6=>
  subst hms;exact rQ (MY (aaf hlo h5) n0) I h λQ' hq=>wpAny_pyNext_list_end hh h1 ⟨_,h2,J,n,J⟩ (pe h4) λh' hx=>hq h' λb o hb e=>hx b o (MX hb) e
 |range h1 h2 h3 h4=>
  subst hms;exact rQ (MY (aaf hlo h4) n0) I h λQ' hq=>wpAny_pyNext_range_end hh h1 (WW h2) λh' hx=>hq h' λb o hb e=>hx b o (MX hb) e
 | @zip z TI TO i1 i2 l1 l2 k1 k2 n1 n2 xs ys a b as bs a1 a2 a3 a4 a5 a6 a7 a8 a9 uP xH Bc zO v5 zP zQ zJ=>
  have he:xs[k1]?=none\/ys[k2]?=none:=by
   cases as with
   |nil=>exact .inl (pe xH)
   |cons _ _=>cases bs with
    |nil=>exact .inr (pe Bc)
    |cons _ _=>cases hms
  exact rQ (Zo (aaf hlo zO) (aaf hlo v5) (aaf hlo zP) (aaf hlo zQ) (aaf hlo zJ)) I h λQ' hq=>wpAny_pyNext_zip_end hh a1 a2 a3 a4 a5 a6 ⟨_,a7,J,n1,J⟩ ⟨_,a8,J,n2,J⟩ he λh' hx=>hq h' λc o hc e=>hx c o (MX hc) (Zl hc) (Zm hc) (Zn hc) e
 | @enum e it l i n items old ms' a1 a2 a3 a4 a5 a6 a7 a8 a9 uP=>
  have e0:items[i]?=none:=by
   cases ms' with
   |nil=>exact pe a5
   |cons _ _=>replace hms:=List.mapIdx_cons▸hms;cases hms
  exact rQ (WS (aaf hlo a6) (aaf hlo a7)) I h λQ' hq=>wpAny_pyNext_enum_end hh a1 a2 ⟨_,a3,J,n,J⟩ e0 λh' hx=>hq h' λc o hc e'=>hx c o (Zk hc) e'
end
end
section
set_option tactic.hygienic true
noncomputable def cz(Γ:Gm)(Do:acq):Gm:=⟨Γ.k,Γ.env,Γ.S,Do⟩
section
variable{C:Cx}{Γ:Gm}{W D D' X X' Z iU Wk:acq}{s s':Shared}{vs vs' d7:aC}{A:Around}{E:ach}{e:Expr}{v m:MV}{k:Nat}{ms:acw}{fl:Fl}{pr:Bool}{it:Value}{h h':Heap}
theorem fX.change{W':acq}(hk:Kept Wk h h')(sub:∀d∈Wk,d∈D)(nW:∀d∈Wk,d∉W)(hD:∀d∈D',d∈D\/h.objs.size<=d){a:Value}{st:VS}(x:fX h D W a st):fX h' D' W a st:=by
 refine nb λnn=>?_;cases st with
 |v m=>exact nn<|Den.kept hk sub hD x
 |own b l=>
  obtain⟨e,hb,items,n,hg,ds⟩:=x;exact nn<|⟨e,hb,items,n,hk _ _ (λq=>nW _ q hb) hg,ds.kept hk sub hD⟩
 |obj x dx Cc fs=>
  obtain⟨e,hx,hdx,kI,es,n,vals,⟨h1,h2,h3⟩,hle,df⟩:=x;exact nn<|⟨e,hx,hdx,kI,es,n,vals,⟨hk _ _ (λq=>nW _ q hx) h1,hk _ _ (λq=>nW _ q hdx) h2,h3⟩,hle,df.kept hk sub hD⟩
theorem Fm.change(F:Fm C Γ W h vs)(hk:Kept Wk h h')(hs:h.objs.size<=h'.objs.size)(sub:∀d∈Wk,d∈W++Γ.Do)(nW:∀d∈Wk,d∉W)(nc:∀x c,Γ.env.cells.lookup x=some c->c∉Wk)
 (hD₀:∀d∈iU,d∈Γ.Do\/h.objs.size<=d) (ht:∀d∈C.tabs,d∈iU) (hhi:∀d∈iU,d<h'.objs.size) (hc:∀x c,Γ.env.cells.lookup x=some c->c∈W++iU):Fm C (cz Γ iU) W h' vs:=by
 have hD:∀d∈iU,d∈W++Γ.Do\/h.objs.size<=d:=λd hd=>(hD₀ d hd).imp_left λq=>aad _ q;have Zp:∀d∈W++iU,d∈W++Γ.Do\/h.objs.size<=d:=λd hd=>by
  rcases aag.mp hd with q |q
  .exact .inl (aah _ q)
  .exact hD d q
 have kc:∀{c v},c∉Wk->h.IsCell c v->h'.IsCell c v:=λ{c v} hn ⟨o,ho,hd⟩=>⟨o,hk c o hn ho,hd⟩;refine⟨F.kind,F.glob,F.bi,?_,?_,?_,F.lW,ht,F.lo,λd hd=>?_,F.apart,λx c h=>⟨hc x c h,(F.cI x c h).2⟩,F.fY,λy st b hy hb=>⟨(F.gH y st b hy hb).1,(F.gH y st b hy hb).2.1,(F.gH y st b hy hb).2.2.1,λq=>(hD₀ b q).elim (F.gH y st b hy hb).2.2.2 λz=>absurd (F.hi b (aah _ (F.gH y st b hy hb).2.2.1)) (aaw.mpr z)⟩,F.iY⟩
 .obtain⟨mm,hn,hv⟩:=F.ns
  refine⟨mm,abY hn λo e=>hk _ o (λq=>nW _ q F.lW) e,λx st hx jP=>?_⟩;obtain⟨a,ha,d⟩:=hv x st hx jP;exact⟨a,ha,d.change (W':=W) hk sub nW Zp⟩
 .intro x st hx jP
  obtain⟨c,a,jV,hi,d⟩:=F.cell x st hx jP;exact⟨c,a,jV,kc (nc x c jV) hi,d.change (W':=W) hk sub nW Zp⟩
 .intro x hx
  obtain⟨c,v,jV,hW,hi⟩:=F.zS x hx;exact⟨c,v,jV,hW,kc (nc x c jV) hi⟩
 .rcases aag.mp hd with q |q
  .exact aao (F.hi d (aah _ q)) hs
  .exact hhi d q
inductive Zq(C:Cx)(Γ:Gm)(W:acq)(s:Shared)(pr:Bool)(ms:acw)(it:Value)(av:Shared):Prop
 |mk (Z:acq):(∀z∈Z,s.heap.objs.size<=z/\z<av.heap.objs.size)->jz C.H.objs.size av.heap (W++(Z++Γ.Do)) (W++(Z++Γ.Do)) pr Z it ms->bL C [] s av->Inv C av->Zq C Γ W s pr ms it av
noncomputable def rR(C:Cx)(Γ:Gm)(vs:aC)(e:Expr)(pr:Bool)(ms:acw):Prop:=
 ∀A s W,Good Γ.k A->Inv C s->Fm C Γ W s.heap vs->wpAny (model P0 C.w) A (eval e Γ.env) (λx aq=>wpAny (model P0 C.w) A (pyIter x) (Zq C Γ W s pr ms) ig aq) ig s
inductive Qc(C:Cx)(Γ:Gm)(t:Expr)(body:acr)(m:MV)(vs:aC)(K:Fl->aC->Prop):Prop
 |mk (fK dG:aC) (Ey:Fl):(∀Do,Bd C (cz Γ Do) t m vs fK)->(∀Do,mz C (cz Γ Do) fK body Ey dG)->K Ey dG->Qc C Γ t body m vs K
noncomputable def xX(C:Cx)(Γ:Gm)(t:Expr)(body:acr):acw->aC->Fl->aC->Prop
 |[],vs,fl,vs'=>fl = .next/\vs'=vs
 |m::ms,vs,fl,vs'=>Qc C Γ t body m vs λEy dG=>match Ey with |.next=>xX C Γ t body ms dG fl vs' |.cont=>xX C Γ t body ms dG fl vs' |.brk=>fl = .next/\vs'=dG |.ret v=>fl = .ret v/\vs'=dG
theorem Fm.jj(F:Fm C Γ W s.heap vs)(I:Inv C s)(t:bL C Z s s')(hZ:∀z∈Z,z∈Γ.Do)(hW:∀z∈Z,z∉W)(hc:∀x c,Γ.env.cells.lookup x=some c->c∉Z):Fm C Γ W s'.heap vs:=by
 have WX:=F.change (iU:=Γ.Do) (Wk:=Z++C.tabs) t.keep t.size (λd hd=>?_) (λd hd q=>?_) (λx c h q=>?_) (λd hd=>.inl hd) F.tabs (λd hd=>aao (F.hi d (aad _ hd)) t.size) (λx c hc=>(F.cI x c hc).1)
 .exact WX
 .rcases aag.mp hd with q |q
  .exact aad _ (hZ d q)
  .exact F.cj d q
 .rcases aag.mp hd with z |z
  .exact hW d z q
  .exact aX I (F.lo d q) z
 .rcases aag.mp q with z |z
  .exact hc x c h z
  .exact aX I (F.cI x c h).2 z
theorem Fm.fresh(F:Fm C Γ W s.heap vs)(I:Inv C s)(t:bL C [] s s')(hX:∀d∈X,s.heap.objs.size<=d/\d<s'.heap.objs.size):Fm C (cz Γ (X++Γ.Do)) W s'.heap vs:=by
 refine F.change (Wk:=C.tabs) (λb o hb e=>t.keep b o (by simpa using hb) e) t.size F.cj (λz hz q=>aX I (F.lo z q) hz) (λx c hc=>aX I (F.cI x c hc).2) (λz hz=>?_) (λz hz=>aad _ (F.tabs z hz)) (λz hz=>?_) (λx c hc=>?_)
 .rcases aag.mp hz with q |q
  .exact .inr (hX z q).1
  .exact .inl q
 .rcases aag.mp hz with q |q
  .exact(hX z q).2
  .exact aao (F.hi z (aad _ q)) t.size
 .rcases aag.mp (F.cI x c hc).1 with q |q
  .exact aah _ q
  .exact aad _ (aad _ q)
noncomputable abbrev Qd(C:Cx)(Γ:Gm)(W:acq)(s:Shared)(Y:acq):Prop:=∀L∈Y,L∈Γ.Do/\L∉W/\L<s.heap.objs.size/\C.H.objs.size<=L
inductive WY(C:Cx)(Γ:Gm)(Y W:acq)(s:Shared)(T:Flow->aC->acq->acq->Shared->Prop)(f:Flow)(s':Shared):Prop
 |mk {W':acq} {vs':aC}:(∀d∈W',d∈W\/s.heap.objs.size<=d)->Fm C Γ W' s'.heap vs'->bL C (Y++W) s s'->Inv C s'->T f vs' W' Γ.Do s'->WY C Γ Y W s T f s'
inductive WZ{σ:Type}(C:Cx)(Γ:Gm)(Y W Z:acq)(s av:Shared)(pr:Bool)(it:Value)(mk:σ->MV)(S:List σ->aC->Prop)(Ψ:List σ->acq->Shared->Prop)(n:Nat)(s':Shared):Prop
 |mk {W':acq} {vs':aC} {ms:List σ}:n=ms.length+1->(∀d∈W',d∈W\/s.heap.objs.size<=d)->(∀z∈Z,z∉W')->(∀L∈Y,L∉W')->Fm C (cz Γ (Z++Γ.Do)) W' s'.heap vs'->jz C.H.objs.size s'.heap (W'++(Z++Γ.Do)) (W'++(Z++Γ.Do)) pr Z it (ms.map mk)->
  S ms vs'->bL C (Y++W) s s'->Inv C s'->av.heap.objs.size<=s'.heap.objs.size->Ψ ms (W'++(Z++Γ.Do)) s'->WZ C Γ Y W Z s av pr it mk S Ψ n s'
noncomputable def LpT{σ:Type}(S:List σ->aC->Prop)(Ψ:List σ->acq->Shared->Prop)(En:Flow->aC->acq->acq->Shared->Prop)(ms:List σ)(f:Flow)(vs:aC)(W D:acq)(s:Shared):Prop:=match f with
 |.next=>S ms vs/\Ψ ms (W++D) s
 |.cont=>S ms vs/\Ψ ms (W++D) s
 |.brk=>En .next vs W D s
 |.ret a=>En (.ret a) vs W D s
theorem wj{σ:Type}{mk:σ->MV}{Y:acq}{t iter:Expr}{body:acr}{pos:Pos}{ms:List σ}{S:List σ->aC->Prop}{Ψ:List σ->acq->Shared->Prop}{En:Flow->aC->acq->acq->Shared->Prop}{P:Flow->Shared->Prop}
 (hst:∀ms D D' Wk s s',Ψ ms D s->Inv C s->bL C Wk s s'->(∀d∈C.tabs,d∈D)->(∀d∈Wk,d∈D\/s.heap.objs.size<=d)->(∀L∈Y,L∉Wk/\L∉C.tabs)->(∀d∈D',d∈D\/s.heap.objs.size<=d)->Ψ ms D' s')
 (Hi:rR C Γ vs iter pr (ms.map mk)) (ht:pr=true->∃es x1 p,t = .Tuple es x1 p) (hs:∀x,foldedSetIterable iter Γ.env x=pure x) (G:Good Γ.k A) (I:Inv C s) (F:Fm C Γ W s.heap vs) (hY:Qd C Γ W s Y) (hS:S ms vs) (OV:Ψ ms (W++Γ.Do) s)
 (HB:∀m ms vs,S (m::ms) vs->∃fK,(∀Do,Bd C (cz Γ Do) t (mk m) vs fK)/\∀Do s W,Inv C s->Fm C (cz Γ Do) W s.heap fK->Qd C (cz Γ Do) W s Y->Ψ (m::ms) (W++Do) s->wpAny (model P0 C.w) A (execs body Γ.env) (WY C (cz Γ Do) Y W s (LpT S Ψ En ms)) ig s)
 (h0:∀vs W D s,S [] vs->Ψ [] (W++D) s->En .next vs W D s) (hEn:∀f vs W D D' s,Inv C s->En f vs W D s->(∀d∈C.tabs,d∈D)->(∀d∈D',d∈D)->En f vs W D' s) (hP:∀f s',WY C Γ Y W s En f s'->P f s') :
 wpAny (model P0 C.w) A (exec (.For t iter body [] pos) Γ.env) P ig s:=by
 refine wpAny_For (cS (Hi A s W G I F) λx aq jy=>cS jy λit av bI=>?_) hs;obtain⟨Z,hZ,hit,aY,bu⟩:=bI;have cl:∀x c,Γ.env.cells.lookup x=some c->c∉Z:=λx c hc q=>absurd (F.hi c (F.cI x c hc).1) (aaw.mpr (hZ c q).1);have W2:∀z∈Z,z∉C.tabs:=λz hz=>aX I (aaf I.size (hZ z hz).1);have zY:∀z∈Z,z∉Y:=λz hz q=>absurd (hY z q).2.2.1 (aaw.mpr (hZ z hz).1);have JE:∀L∈Y,L∉C.tabs:=λL hL=>aX I (hY L hL).2.2.2;have Zr:∀{W':acq}{s' gp:Shared}{vv:aC},Inv C s'->(∀z∈Z,z∉W')->Fm C (cz Γ (Z++Γ.Do)) W' s'.heap vv->bL C Z s' gp->Fm C (cz Γ (Z++Γ.Do)) W' gp.heap vv:=λ{W' s' gp vv} I' JF F' t'=>
  Fm.jj (Γ:=cz Γ (Z++Γ.Do)) F' I' t' (λz hz=>aah _ hz) JF cl
 have h₂:Ψ ms (W++(Z++Γ.Do)) av:=hst ms (W++Γ.Do) _ [] s av OV I aY F.cj n0 (λL hL=>⟨(λq=>nomatch q),JE L hL⟩) λd hd=>by
  rcases aag.mp hd with q |q
  .exact .inl (aah _ q)
  .rcases aag.mp q with q |q
   .exact .inr (hZ d q).1
   .exact .inl (aad _ q)
 refine codeAny_forLoop_any (R:=λr s'=>match r with |.ok f=>P f s' |.error e=>cameBackBy (model P0 C.w) A Γ.env ig e s') (WZ C Γ Y W Z s av pr it mk S Ψ) ?_ (ms.length+1)
  (.mk J (λd q=>.inl q) (λz hz q=>absurd (F.hi z (aah _ q)) (aaw.mpr (hZ z hz).1)) (λL hL=>(hY L hL).2.1) (F.fresh I aY hZ) hit hS aY.up bu (aaq _) h₂)
 intro n s' hI;cases hI with |mk hn hW' JF W3 F' xY hS' t' I' hsz h'=>
 rename_i W' vs' ms';have zD:∀z∈Z,z∈W'++(Z++Γ.Do):=λz hz=>aad _ (aah _ hz);have zt:∀{gp:Shared},bL C Z s' gp->bL C (Y++W) s gp:=λt2=>t'.trans t2 (λd q=>.inl q) λd q=>.inr (hZ d q).1;have out:∀{fP:acq}{aq:Shared}{vv:aC}{f:Flow},(∀d∈fP,d∈W\/s.heap.objs.size<=d)->Fm C (cz Γ (Z++Γ.Do)) fP aq.heap vv->bL C (Y++W) s aq->Inv C aq->En f vv fP (Z++Γ.Do) aq->P f aq:=λ{fP aq vv f} h1 aU a_ aF h=>hP f aq (.mk h1
  (aU.change (iU:=Γ.Do) (Wk:=[]) (h':=aq.heap) (λ_ _ _ e=>e) (aaq _) n0 n0 (λ_ _ _ q=>nomatch q) (λd hd=>.inl (aad _ hd)) F.tabs (λd hd=>aU.hi d (aad _ (aad _ hd))) (λx c hc=>by
   rcases aag.mp (aU.cI x c hc).1 with q |q
   .exact aah _ q
   .exact(aag.mp q).elim (λq=>(cl x c hc q).elim) (aad _))) a_ aF (hEn _ _ _ _ _ _ aF h (λd hd=>aad _ (F.tabs d hd)) λd hd=>aad _ hd))
 refine nb λnn=>?_;cases ms' with
 |nil=>exact nn<|jz.done xY G.handled I' (aaq _) λbH cW ez=>abv (out hW' (Zr I' JF F' cW) (zt cW) ez (h0 _ _ _ _ hS' (hst [] _ _ Z s' bH h' I' cW F'.cj (λd hd=>.inl (zD d hd)) (λL hL=>⟨λq=>zY L q hL,JE L hL⟩) λd hd=>.inl hd)))
 |cons m ms'=>
  obtain⟨fK,hb,hx⟩:=HB m ms' vs' hS';refine nn<|jz.next xY zD F'.hi I' (aaq _) ht λa bH h₃=>cS h₃ λ_ fF bI=>?_
  refine nb λnn=>?_;obtain⟨zW,sJ,jh,jZ⟩:=bI;have jA:=Zr I' JF F' jh;have h₄:=hst _ _ (W'++(Z++Γ.Do)) Z s' fF h' I' jh F'.cj (λd hd=>.inl (zD d hd)) (λL hL=>⟨λq=>zY L q hL,JE L hL⟩) λd hd=>.inl hd;refine nn<|cS (hb (Z++Γ.Do) A fF W' a G jZ jA zW) λ_ gG bI=>?_
  refine nb λnn=>?_;obtain⟨Dg,jK,pg⟩:=bI;have MZ:av.heap.objs.size<=gG.heap.objs.size:=aaf hsz (aaf jh.size jK.size);refine nn<|cS (hx (Z++Γ.Do) gG W' pg Dg (λL hL=>⟨aad _ (hY L hL).1,W3 L hL,aao (hY L hL).2.2.1 (aaf aY.size MZ),(hY L hL).2.2.2⟩)
   (hst _ _ (W'++(Z++Γ.Do)) W' fF gG h₄ jZ jK jA.cj (λd hd=>.inl (aah _ hd)) (λL hL=>⟨W3 L hL,JE L hL⟩) λd hd=>.inl hd)) λf s₆ bI=>?_
  cases bI with |mk Bo zX qq uD hT=>
  rename_i M0 Qe;have Zs:bL C (Y++W') fF s₆:=(jK.weak λd q=>aad _ q).eS qq;have T6:bL C (Y++W) s s₆:=(zt jh).trans Zs (λd q=>.inl q) λd hd=>(aag.mp hd).elim (λq=>.inl (aah _ q)) λq=>(hW' d q).imp (λz=>aad _ z) id;have W4:∀d∈M0,d∈W\/s.heap.objs.size<=d:=λd hd=>(Bo d hd).elim (hW' d) λq=>.inr (aaf (aaf aY.size MZ) q);have again:S ms' Qe/\Ψ ms' (M0++(Z++Γ.Do)) s₆->∃n',n'<n/\WZ C Γ Y W Z s av pr it mk S Ψ n' s₆:=λhN=>
   ⟨ms'.length+1,by exact rl hn ((aaS _)),.mk J W4 (λz hz q=>(Bo z q).elim (JF z hz) λq=>absurd (aao (hZ z hz).2 MZ) (aaw.mpr q))
    (λL hL q=>(Bo L q).elim (W3 L hL) λq=>absurd (aao (hY L hL).2.2.1 (aaf aY.size MZ)) (aaw.mpr q)) zX
    (by
     have sub:∀d∈(Y++W')++C.tabs,d∈W'++(Z++Γ.Do):=λd hd=>by
      rcases aag.mp hd with q |q
      .rcases aag.mp q with q |q
       .exact aad _ (aad _ (hY d q).1)
       .exact aah _ q
      .exact aad _ (aad _ (F.tabs d q))
     have gr:∀d∈M0++(Z++Γ.Do),d∈W'++(Z++Γ.Do)\/fF.heap.objs.size<=d:=λd hd=>by
      rcases aag.mp hd with q |q
      .exact(Bo d q).imp (λz=>aah _ z) λz=>aaf jK.size z
      .exact .inl (aad _ q)
     exact sJ.kept Zs.keep sub sub gr gr λz hz q=>(aag.mp q).elim (λq=>(aag.mp q).elim (zY z hz) (JF z hz)) (W2 z hz))
    hN.1 T6 uD (aaf MZ qq.size) hN.2⟩
  cases f with
  |next=>exact again hT
  |cont=>exact again hT
  |brk=>exact out W4 zX T6 uD hT
  |ret a=>exact out W4 zX T6 uD hT
noncomputable def Qf(fl:Fl)(vs':aC)(f:Flow)(vs:aC)(_ D:acq)(s:Shared):Prop:=vs=vs'/\Bg s.heap D f fl
theorem qs{t iter:Expr}{body:acr}{pos:Pos}(Hi:rR C Γ vs iter pr ms)(H:xX C Γ t body ms vs fl vs')(ht:pr=true->∃es x1 p,t = .Tuple es x1 p)(hs:∀x,foldedSetIterable iter Γ.env x=pure x) :
 gq C Γ vs (.For t iter body [] pos) fl vs':=λA s W G I F=>by
 refine wj (mk:=id) (Y:=[]) (S:=λms vs=>xX C Γ t body ms vs fl vs') (Ψ:=λ_ _ _=>True) (En:=Qf fl vs') (λ_ _ _ _ _ _ _ _ _ _ _ _ _=>trivial) (by exact rl (List.map_id ..) Hi) ht hs G I F (λ_ q=>nomatch q) H trivial ?_ ?_ ?_ ?_
 .intro m ms vs HF
  obtain⟨fK,dG,Ey,HB,HX,HN⟩:=HF;refine⟨fK,HB,λDo s W I F _ _=>cS (HX Do A s W G I F) λf s' bI=>?_⟩;obtain⟨W',h1,hf,h3,h4,h5⟩:=bI;refine .mk h1 h3 h4 h5 ?_;cases f with
  |next=>cases Ey<;>first |(cases hf;done) |exact⟨HN,trivial⟩
  |cont=>cases Ey<;>first |(cases hf;done) |exact⟨HN,trivial⟩
  |brk=>cases Ey<;>first |(cases hf;done) |exact⟨HN.2.symm,by refine rl HN.1 ?_;trivial⟩
  |ret a=>cases Ey<;>first |(cases hf;done) |exact⟨HN.2.symm,by exact rl HN.1 hf⟩
 .intro vs W D s h _
  obtain⟨rfl,rfl⟩:=h;exact⟨J,trivial⟩
 .intro f vs W D D' s _ h _ hD
  refine⟨h.1,?_⟩;have h2:=h.2;cases f<;>cases fl<;>first |exact h2 |exact Den.kept (W:=[]) (λ_ _ _ e=>e) n0 (λd hd=>.inl (hD d hd)) h2
 .intro f s' h
  cases h with |mk h1 h2 h3 h4 h5=>
  obtain⟨rfl,h5⟩:=h5;exact⟨_,h1,h5,h2,h3,h4⟩
end
end
noncomputable def SJ(C:Cx)(Γ:Gm)(test:Expr)(body:acr):Nat->aC->aC->Prop
 |0,vs,vs'=>Ts C Γ vs test false/\vs'=vs
 |n+1,vs,vs'=>Ts C Γ vs test true/\∃dG,mz C Γ vs body .next dG/\SJ C Γ test body n dG vs'
section
variable{C:Cx}{Γ:Gm}{W D D' X X' Z iU Wk:acq}{s s':Shared}{vs vs' d7:aC}{A:Around}{E:ach}{e:Expr}{v m:MV}{k:Nat}{ms:acw}{fl:Fl}{pr:Bool}{it:Value}{h h':Heap}
inductive Zt(C:Cx)(Γ:Gm)(W:acq)(s:Shared)(test:Expr)(body:acr)(vs':aC)(n:Nat)(s':Shared):Prop
 |mk (cG:aC) (W':acq):(∀d∈W',d∈W\/s.heap.objs.size<=d)->Fm C Γ W' s'.heap cG->SJ C Γ test body n cG vs'->bL C W s s'->Inv C s'->Zt C Γ W s test body vs' n s'
theorem E6{test:Expr}{body:acr}{pos:Pos}{n:Nat}(H:SJ C Γ test body n vs vs'):gq C Γ vs (.While test body [] pos) .next vs':=λA s W G I F=>by
 refine wpAny_While (codeAny_whileLoop (R:=λr s'=>match r with |.ok f=>Ew C Γ W s .next vs' f s' |.error e=>cameBackBy (model P0 C.w) A Γ.env ig e s') (Zt C Γ W s test body vs') ?_ n ⟨vs,W,λd q=>.inl q,F,H,bL.refl _ _ _,I⟩);intro n s' h;refine nb λnn=>?_;cases h with
 |mk cG W' hW' F' HF t' I'=>
  cases n with
  |zero=>
   obtain⟨T,rfl⟩:=HF;refine nn<|cS (T A s' W' G I' F') λb aq bI=>?_
   refine nb λnn=>?_;obtain⟨hb,a_,aF⟩:=bI;subst hb;exact nn<|abv ⟨W',hW',trivial,F'.dJ I' a_,t'.trans a_ (λd q=>.inl q) n0,aF⟩
  |succ n=>
   obtain⟨T,dG,HX,HN⟩:=HF;refine nn<|cS (T A s' W' G I' F') λb aq bI=>?_
   obtain⟨hb,a_,aF⟩:=bI;subst hb;refine cS (HX A aq W' G aF (F'.dJ I' a_)) λf av bI=>?_;cases bI with
   |mk rH xZ hf bO aY bu=>
    cases Bg.ji hf;exact⟨n,aaS _,dG,rH,λd hd=>(xZ d hd).elim (hW' d) λq=>.inr (aaf (aaf t'.size a_.size) q),bO,HN,(t'.trans a_ (λd q=>.inl q) n0).trans aY (λd q=>.inl q) hW',bu⟩
theorem bK(H:Ev C Γ vs e (.lst ms)):rR C Γ vs e false ms:=λA s W G I F=>
 H.use G I F λa aq bx a_ aF aU=>by
  cases bx.jW with
  |mk a items n hg na ds=>
   refine wpAny_pyIter_list ⟨_,hg,J,n,J⟩ ?_;have alt:a<aq.heap.objs.size:=aaB hg;have nz:aq.heap.objs.size≠a:=abw (abb alt);have mem:∀{d},d∈W++([aq.heap.objs.size]++Γ.Do)->d∈W++Γ.Do\/aq.heap.objs.size<=d:=λ{d} hd=>by
    rcases aag.mp hd with q |q
    .exact .inl (aah _ q)
    .rcases aag.mp q with q |q
     .exact .inr (aa1 (aam.mp q).symm)
     .exact .inl (aad _ q)
   refine⟨[aq.heap.objs.size],sy ⟨a_.size,by show _<(aq.heap.push _).objs.size;exact rl (aaI ..) ((aaS _))⟩,.list (i:=0) (n:=n) (items:=items) ⟨_,aa4 _ J,J,J⟩ (aaW _ hg) (λq=>(mem q).elim na λz=>absurd alt (aaw.mpr z)) ?_ aF.size nz,a_.then (iu _),iw aF _⟩
   .refine rl ab0 ?_
    exact ds.kept (f_ _ _) n0 λd hd=>mem hd
noncomputable def OW(C:Cx)(Γ:Gm)(vs:aC)(e:Expr)(a b:Int):Prop:=
 ∀A s W,Good Γ.k A->Inv C s->Fm C Γ W s.heap vs->wpAny (model P0 C.w) A (eval e Γ.env) (λx aq=>∃r t u tc,x = .ref r/\IsRange aq.heap r a b 1 t u tc/\bL C [] s aq/\Inv C aq) ig s
theorem Dh{a b:Int}(H:OW C Γ vs e a b)(hs:Builtin.Range.small a b 1=true)(hl:(Builtin.Range.rangeSize a b 1).toNat=ms.length)(hm:∀(j:Nat) (m:MV),ms[j]?=some m->m=MV.int (a+j)):rR C Γ vs e false ms:=λA s W G I F=>
 cS (H A s W G I F) λx aq bI=>by
  refine nb λnn=>?_;obtain⟨r,t,u,tc,hx,hr,a_,aF⟩:=bI;subst hx;refine nn<|wpAny_pyIter_range hr hs ?_
  exact⟨[aq.heap.objs.size],sy ⟨a_.size,by show _<(aq.heap.push _).objs.size;exact rl (aaI ..) ((aaS _))⟩,.range (x:=a) (left:=Builtin.Range.rangeSize a b 1) (step:=1) (aa4 _ J) hl (λj m hj=>by exact rl (hm j m hj ..) (rl (Int.mul_one ..) J)) aF.size,a_.then (iu _),iw aF _⟩
end
section
variable{C:Cx}{Γ:Gm}{W D D' X X' Z iU Wk:acq}{s s':Shared}{vs vs' d7:aC}{A:Around}{E:ach}{e:Expr}{v m:MV}{k:Nat}{ms:acw}{fl:Fl}{pr:Bool}{it:Value}{h h':Heap}
theorem iO{id:Str}{p pos:Pos}{args:acs}{f:Value}{Q:ach}(Hf:Ev C Γ vs (.Name id p) (.bZ f))(Ha:rP C Γ vs args ms)(hk:jJ C.K f=true)(G:Good Γ.k A)(I:Inv C s)(F:Fm C Γ W s.heap vs)
 (h:∀vals s',bD s'.heap (W++Γ.Do) vals ms->bL C [] s s'->Inv C s'->Fm C Γ W s'.heap vs->wpAny (model P0 C.w) A (call f vals) Q E s'):wpAny (model P0 C.w) A (eval (.Call (.Name id p) args [] pos) Γ.env) Q E s:=
 wpAny_Call_ofName (Hf.use G I F λa aq bx a_ aF aU=>by obtain⟨q,hs⟩:=bx.oZ;cases q.symm;exact eO (by refine rl (Ha.plain ..) ?_;rfl) (Ha.args G aF aU λvals av bG aY bu=>⟨cQ hk av (W++Γ.Do) f bu (.bZ f hs),h vals av bG (a_.then aY) bu (aU.dJ aF aY)⟩))
theorem dH{id:Str}{p pos:Pos}{a:Expr}{n:Int}(Hf:Ev C Γ vs (.Name id p) (.bZ (.type "range")))(Ha:rP C Γ vs [a] [.int n]):OW C Γ vs (.Call (.Name id p) [a] [] pos) 0 n:=λA s W G I F=>
 iO Hf Ha J G I F λvals aq d t aF aU=>by
  cases d.d8 with
  |mk d1 d2=>
   obtain rfl:=d2.g7;cases d1.eL with
   |mk tk=>
    refine call_range_1 ⟨_,_,_,_,J,IsRange.new _ _ _ _ _ _ _,t.then ?_,?_⟩
    .exact bL.heap (by exact rl (aaI ..) ((aa0 _))) (f_ _ _)
    .exact aF.step (W:=[]) (by exact rl (aaI ..) ((aa0 _))) (f_ _ _) n0
theorem zZ{id:Str}{p pos:Pos}{a b:Expr}{m n:Int}(Hf:Ev C Γ vs (.Name id p) (.bZ (.type "range")))(Ha:rP C Γ vs [a,b] [.int m,.int n]):OW C Γ vs (.Call (.Name id p) [a,b] [] pos) m n:=λA s W G I F=>
 iO Hf Ha J G I F λvals aq d t aF aU=>by
  cases d.d8 with
  |mk d1 e1=>cases e1.d8 with
   |mk d2 e2=>
    obtain rfl:=e2.g7;cases d1.eL with
    |mk tk=>cases d2.eL with
     |mk tk'=>
      refine call_range_2 ⟨_,_,_,_,J,IsRange.new _ _ _ _ _ _ _,t.then ?_,?_⟩
      .exact bL.heap (by exact rl (aaI ..) ((aa0 _))) (f_ _ _)
      .exact aF.step (W:=[]) (by exact rl (aaI ..) ((aa0 _))) (f_ _ _) (λ_ q=>nomatch q)
noncomputable def bz(a:Int)(n:Nat):acw:=(List.range n).map λ(j:Nat)=>MV.int (a+(j:Int))
theorem E7{a b:Int}(ha : -(2^40)<=a)(hb:b<=2^40)(ha':a<=2^40)(hb' : -(2^40)<=b):Builtin.Range.small a b 1=true:=by
 have hs:=rangeSize_one a b;unfold Builtin.Range.small;have rs : -(2^41)<=Builtin.Range.rangeSize a b 1/\Builtin.Range.rangeSize a b 1<=2^41:=by refine rl hs ?_;split<;>omega
 have fl:∀x:Int,-(2^42)<=x->x<=2^42->Builtin.Range.rangeFitsLong x=true:=λx h1 h2=>by unfold Builtin.Range.rangeFitsLong;simp only[Bool.and_eq_true,decide_eq_true_eq];exact TN h1 h2
 refine rl (fl a (by exact YZ ha) (by exact Y0 ha')) (rl (fl b (by exact YZ hb') (by exact Y0 hb)) (rl (fl 1 (by omega) (by omega)) (rl (fl _ (by exact TP rs) (by exact TQ rs)) ?_)));simp only[Bool.and_self,Bool.true_and,Bool.or_eq_true];exact .inr (by exact rl (aaN (by decide)) ((fl _ (by exact TS hb') (by exact TU hb))))
theorem W5(a b:Int):(if a<b then b-a else 0)=((b-a).toNat:Int):=by
 by_cases h:a<b
 .exact rl (aaN h) (rl (Int.toNat_of_nonneg (Int.sub_nonneg_of_le (ab2 h))) J)
 .refine rl (aaD h) (rl (Int.toNat_of_nonpos (Int.sub_nonpos_of_le (Int.not_lt.mp h))) ?_);rfl
theorem jB{a b:Int}(H:OW C Γ vs e a b)(n:Nat)(hab:(b-a).toNat=n)(ha : -(2^40)<=a)(hb:b<=2^40)(ha':a<=2^40)(hb' : -(2^40)<=b):rR C Γ vs e false (bz a n):=
 Dh H (E7 ha hb ha' hb') (by rw[rangeSize_one,W5,hab,bz,aai,aa6,aaV]) λj m hj=>by
  simp only[bz,List.getElem?_map,Option.map_eq_some_iff] at hj;obtain⟨i,hi,rfl⟩:=hj;rw[abZ] at hi
  .obtain rfl:=aax hi;rfl
  .have:=(abx.mp hi).1;simpa using this
theorem nv{Z:acq}{n:Nat}(hZ:∀z∈Z,n<=z){d:Addr}(hd:d∈W++(Z++D)):d∈W++D\/n<=d:=by
 rcases aag.mp hd with q |q
 .exact .inl (aah _ q)
 .rcases aag.mp q with q |q
  .exact .inr (hZ d q)
  .exact .inl (aad _ q)
theorem I9(n:Nat){a b:Nat}(h:a≠b):n+a≠n+b:=λq=>h (Nat.add_left_cancel q)
theorem LU{x n:Nat}(hx:x<n)(a:Nat):x≠n+a:=abb (aao hx (aay _ _))
theorem Di{x y n:Nat}(hx:x<n)(hy:y<n):ZipApart (n+4) (n+2) (n+3) n (n+1) x y:=
 ⟨I9 n (by decide),I9 n (by decide),I9 n (a:=0) (by decide),I9 n (by decide),I9 n (by decide),I9 n (b:=0) (by decide),I9 n (by decide),I9 n (b:=0) (by decide),I9 n (by decide),I9 n (a:=0) (by decide),LU hx 4,LU hx 3,LU hx 0,LU hx 1,LU hy 4,LU hy 3,LU hy 0,LU hy 1⟩
theorem M1{n:Nat}(b:Nat):∀{l:List Nat},(∀i∈l,i<b)->∀z∈l.map (n+·),n<=z/\z<n+b:=λh z hz=>by obtain⟨i,hi,rfl⟩:=aan.mp hz;exact⟨aay _ _,Nat.add_lt_add_left (h i hi) _⟩
theorem pn{id:Str}{p pos:Pos}{a b:Expr}{l₁ l₂:acw}(Hf:Ev C Γ vs (.Name id p) (.bZ (.type "zip")))(Ha:rP C Γ vs [a,b] [.lst l₁,.lst l₂]):rR C Γ vs (.Call (.Name id p) [a,b] [] pos) true (List.zipWith (λa b=>MV.tup [a,b]) l₁ l₂):=λA s W G I F=>
 iO Hf Ha J G I F λvals aq d t aF aU=>by
  cases d.d8 with
  |mk d1 d2=>
   cases d2.d8 with
   |mk d2_ d3=>
    obtain rfl:=d3.g7;cases d1.jW with
    |mk x xs n1 hx nx dx=>
     cases d2_.jW with
     |mk y ys n2 hy ny dy=>
      refine call_zip_2 ⟨_,hx,J,n1,J⟩ ⟨_,hy,J,n2,J⟩ λh' a1 a2 a3 a4 a5 a6 a7=>?_;have JG:=aaB hx;have hyl:=aaB hy;have ts:=t.size;have sz:=aF.size;have kp:Kept [] aq.heap h':=λb o _ e=>a7 b o e;have le:aq.heap.objs.size<=h'.objs.size:=by exact rl a6 ((aay _ _))
      generalize hn:aq.heap.objs.size=n at *;have yg:∀z∈[n+4,n+2,n+3,n,n+1],n<=z/\z<n+5:=M1 5 (l:=[4,2,3,0,1]) (by decide);refine wpAny_pyIter_zip a1 ⟨[n+4,n+2,n+3,n,n+1],λz hz=>⟨aaf ts (yg z hz).1,a6▸(yg z hz).2⟩,?_,t.then (bL.heap (tk:=aq.toks) (hn▸le) kp),aF.step (tk:=aq.toks) (W:=[]) (hn▸le) kp n0⟩
      .have fr:∀{d},d∈W++([n+4,n+2,n+3,n,n+1]++Γ.Do)->d∈W++Γ.Do\/n<=d:=nv λz hz=>(yg z hz).1
       have nx':∀{l:Addr},l<n->l∉W++Γ.Do->l∉W++([n+4,n+2,n+3,n,n+1]++Γ.Do):=λ{l} hl hn q=>(fr q).elim hn (Nat.not_le.mpr hl);exact jz.zip (l1:=x) (l2:=y) (k1:=0) (k2:=0) (n1:=n1) (n2:=n2) (Di JG hyl) a1 a2 a3 a4 a5 (a7 _ _ hx) (a7 _ _ hy) (nx' JG nx) (nx' hyl ny) (by exact rl ab0 ((dx.kept kp n0 λd hd=>hn▸fr hd))) (by exact rl ab0 ((dy.kept kp n0 λd hd=>hn▸fr hd))) (aaf sz (aay _ _)) (aaf sz (aay _ _)) (aaf sz (aay _ _)) sz (aaf sz (aay _ _))
theorem x7{id:Str}{p pos:Pos}{a:Expr}{l:acw}(Hf:Ev C Γ vs (.Name id p) (.bZ (.type "enumerate")))(Ha:rP C Γ vs [a] [.lst l]):rR C Γ vs (.Call (.Name id p) [a] [] pos) true (l.mapIdx λj m=>MV.tup [MV.int (j:Int),m]):=λA s W G I F=>
 iO Hf Ha J G I F λvals aq d t aF aU=>by
  cases d.d8 with
  |mk d1 d2=>
   obtain rfl:=d2.g7;cases d1.jW with
   |mk x xs n1 hx nx dx=>
    refine call_enumerate_list ⟨_,hx,J,n1,J⟩ λh' a1 a4 a6 a7=>?_;have JG:=aaB hx;refine wpAny_pyIter_enum a1 ⟨[aq.heap.objs.size+1,aq.heap.objs.size],λz hz=>?_,?_,t.then ?_,?_⟩
    .have ts:=t.size
     show s.heap.objs.size<=z/\z<h'.objs.size;refine rl a6 ?_;simp only[List.mem_cons,List.not_mem_nil,or_false] at hz;rcases hz with rfl |rfl<;>constructor<;>first |exact aaf ts (aay _ _) |exact ts |exact Nat.add_lt_add_left (by decide) _ |exact Nat.lt_add_of_pos_right (by decide)
    .have fr:∀z∈[aq.heap.objs.size+1,aq.heap.objs.size],aq.heap.objs.size<=z:=λz hz=>by
      simp only[List.mem_cons,List.not_mem_nil,or_false] at hz;rcases hz with rfl |rfl<;>first |exact aay _ _ |exact aaq _
     have kp:Kept [] aq.heap h':=λb o _ e=>a7 b o e;have sz:=aF.size;have z:jz C.H.objs.size h' (W++([aq.heap.objs.size+1,aq.heap.objs.size]++Γ.Do)) (W++([aq.heap.objs.size+1,aq.heap.objs.size]++Γ.Do)) true [aq.heap.objs.size+1,aq.heap.objs.size] (.ref (aq.heap.objs.size+1)) (l.mapIdx λj m=>MV.tup [MV.int (((0:Nat):Int)+j),m]):=
      jz.enum (l:=x) (i:=0) (n:=n1) (old:=.none) a1 a4 (a7 _ _ hx) (λq=>(nv fr q).elim nx λz=>absurd JG (aaw.mpr z)) (by exact rl ab0 ((dx.kept kp n0 λd hd=>nv fr hd)))
       (aaf sz (aay _ _)) sz (Nat.succ_ne_self _) (abB (aa5 JG)) (abB JG)
     simpa using z
    .exact bL.heap (tk:=aq.toks) (by exact rl a6 ((aay _ _))) (λb o _ e=>a7 b o e)
    .exact aF.step (tk:=aq.toks) (W:=[]) (by exact rl a6 ((aay _ _))) (λb o _ e=>a7 b o e) n0
end
noncomputable def gU(env:Env):List (Str×NameKind)->List (Str×Addr)->List (Str×Addr)
 |[],acc=>acc
 |(n,k)::r,acc=>if k==.free then gU env r ((n,(env.cells.lookup n).getD 0)::acc) else gU env r acc
theorem nC(env:Env):∀(names:List (Str×NameKind))(acc:List (Str×Addr)),gU env names acc=(((names.filter λp=>p.2==.free).map λp=>(p.1,(env.cells.lookup p.1).getD 0)).reverse)++acc:=by
 intro ll
 induction ll with
 |nil=>
  intro acc;exact J
 |cons pp r ih=>
  obtain⟨n,k⟩:=pp;intro acc;unfold gU;cases hk:k==NameKind.free with
  |true=>simp only[if_true,ih,List.filter_cons,hk,List.map_cons,List.reverse_cons,List.append_assoc,List.singleton_append]
  |false=>simp only[Bool.false_eq_true,if_false,ih,List.filter_cons,hk]
theorem wk(env:Env)(f:Str×NameKind->List (Str×Addr)->Sem (ForInStep (List (Str×Addr))))
 (hf:∀name kind cs,f (name,kind) cs=if kind==NameKind.free then(do let a <- cellOf env name;pure (.yield ((name,a)::cs))) else pure (.yield cs)) :
 ∀(names:List (Str×NameKind))(acc:List (Str×Addr)),(∀p∈names,p.2 = .free->(env.cells.lookup p.1).isSome=true)->(forIn names acc f:Sem (List (Str×Addr)))=pure (gU env names acc):=by
 intro ll
 induction ll with
 |nil=>
  intro acc _;exact J
 |cons pp r ih=>
  obtain⟨n,k⟩:=pp;intro acc h;rw[List.forIn_cons,hf];have hr:∀p∈r,p.2 = .free->(env.cells.lookup p.1).isSome=true:=λp hp=>h p (.tail _ hp);unfold gU;cases hk:k==NameKind.free with
  |true=>
   have jP:k = .free:=aa3.mp hk;refine nb λnn=>?_;obtain⟨c,hc⟩:=aa_.mp (h (n,k) (.head _) jP);have jV:cellOf env n=pure c:=by unfold cellOf;exact rl (show env.cells.lookup n=some c from hc) J
   refine nn ?_;simp only[jV,if_true];have ih:=ih ((n,c)::acc) hr;rw[show(env.cells.lookup n).getD 0=c from by refine rl (show env.cells.lookup n=some c from hc) ?_;rfl,<- ih];rfl
  |false=>
   simp only[Bool.false_eq_true,if_false];exact ih acc hr
theorem sM{scope:Scope}{env:Env}(h:∀p∈scope.names,p.2 = .free->(env.cells.lookup p.1).isSome=true):closureFor scope env=pure (gU env scope.names []):=by have key:=wk env (λx cs=>match x with |(name,kind)=>if(kind==NameKind.free)=true then(do let a <- cellOf env name;pure (ForInStep.yield ((name,a)::cs))) else pure (ForInStep.yield cs)) (λ_ _ _=>rfl) scope.names [] h;exact(aaJ (λt:Sem (List (Str×Addr))=>t>>=λcs=>pure cs) key).trans J
theorem gM:∀(names:List (Str×NameKind))(n:Nat)(acc:List (Str×Addr)),cellsFrom n names acc=cellsFrom n names []++acc:=by
 intro ll
 induction ll with
 |nil=>
  intro _ _;exact J
 |cons pp r ih=>
  obtain⟨x,k⟩:=pp;intro n acc;unfold cellsFrom;split
  .refine rl (ih (n+1) ((x,n)::acc) ..) (rl (ih (n+1) [(x,n)] ..) (rl (abU ..) ?_));rfl
  .exact ih n acc
theorem sN:∀(names:List (Str×NameKind))(n:Nat){x:Str}{c:Addr},(x,c)∈cellsFrom n names []->(x,NameKind.cell)∈names:=by
 intro ll
 induction ll with
 |nil=>
  intro _ _ _ h;exact nomatch h
 |cons pp r ih=>
  obtain⟨y,k⟩:=pp;intro n x c h;unfold cellsFrom at h;split at h
  .rename_i hk
   replace h:=(gM ..)▸h;rcases aag.mp h with q |q
   .exact .tail _ (ih _ q)
   .refine nb λnn=>?_
    cases q with
    |head=>refine nn ?_;exact rl (aa3.mp hk) ((.head _))
    |tail _ q=>cases q
  .exact .tail _ (ih _ h)
theorem lookup_append{α:Type}(l r:List (Str×α))(x:Str):(l++r).lookup x=(l.lookup x).or (r.lookup x):=by
 induction l with
 |nil=>rfl
 |cons p l ih=>
  refine rl List.cons_append (rl aaF (rl aaF ?_));cases x==p.1<;>simp[ih]
theorem gy{names:List (Str×NameKind)}{x:Str}{k:NameKind}(hn:(names.map (·.1)).Nodup)(h:(x,k)∈names):names.lookup x=some k:=by
 induction names with
 |nil=>cases h
 |cons p r ih=>
  have hn':=ab5.mp hn;refine rl aaF ?_;refine nb λnn=>?_;cases h with
  |head=>refine nn ?_;simp
  |tail _ h=>
   have:x≠p.1:=λq=>hn'.1 (by show p.1∈_;exact rs q ((abG (f:=(·.1)) h)));have:(x==p.1)=false:=by simpa using this
   refine nn ?_;refine rl this ?_;exact ih hn'.2 h
theorem x8(g:Str->NameKind->NameKind)(x:Str):∀l:List (Str×NameKind),(l.map λp=>(p.1,g p.1 p.2)).lookup x=(l.lookup x).map (g x):=by
 intro ll
 induction ll with
 |nil=>
  exact J
 |cons pp r ih=>
  obtain⟨n,k⟩:=pp;refine rl ab8 (rl aaF (rl aaF ?_));by_cases h:x=n
  .subst h;simp
  .have e:(x==n)=false:=by simpa using h
   simp only[e];exact ih
theorem sO(scope:Scope)(env:Env)(x:Str):(relabel scope env).names.lookup x=(scope.names.lookup x).map λk=>if(k==.free&&env.scope.kind==.function&&env.kindOf x==some .cell)=true then .cell else k:=by rw[<- x8 (λn k=>if(k==.free&&env.scope.kind==.function&&env.kindOf n==some .cell)=true then .cell else k)];show(scope.names.map _).lookup x=_;congr 2;funext p;obtain⟨n,k⟩:=p;simp only[];split<;>rfl
noncomputable def iA(scope:Scope):aC->aC
 |[]=>[]
 |(x,.v m)::r=>if scope.names.lookup x==some .free then(x,.v m)::iA scope r else iA scope r
 |(_,_)::r=>iA scope r
theorem dK{scope:Scope}:∀{vs:aC}{x:Str}{st:VS},(vs.map (·.1)).Nodup->(iA scope vs).lookup x=some st->vs.lookup x=some st/\scope.names.lookup x=some .free/\∃m,st = .v m
 |[],_,_,_,h=>nomatch h
 |(y,.v m)::r,x,st,hn,h=>by
  have hn':=ab5.mp hn;unfold iA at h;refine rl aaF ?_;split at h
  .rename_i hq
   rw[aaF] at h;by_cases q:x=y
   .subst q
    simp only[BEq.rfl] at h ⊢;cases h;exact⟨J,aa3.mp hq,m,J⟩
   .have e:(x==y)=false:=by simpa using q
    rw[e] at h ⊢;exact dK hn'.2 h
  .have ih:=dK hn'.2 h
   have q:x≠y:=λq=>hn'.1 (by
    subst q;by_cases z:x∈r.map (·.1)
    .exact z
    .replace ih:=(f9 z)▸ih;cases ih.1)
   have e:(x==y)=false:=by simpa using q
   exact rl e ih
 |(y,.own a l)::r,x,st,hn,h=>by
  have hn':=ab5.mp hn;have ih:=dK (vs:=r) hn'.2 h;refine rl aaF ?_;have q:x≠y:=λq=>hn'.1 (by
   subst q;by_cases z:x∈r.map (·.1)
   .exact z
   .replace ih:=(f9 z)▸ih;cases ih.1)
  have e:(x==y)=false:=by simpa using q
  exact rl e ih
 |(y,.obj a b c d)::r,x,st,hn,h=>by
  have hn':=ab5.mp hn;have ih:=dK (vs:=r) hn'.2 h;refine rl aaF ?_;have q:x≠y:=λq=>hn'.1 (by
   subst q;by_cases z:x∈r.map (·.1)
   .exact z
   .replace ih:=(f9 z)▸ih;cases ih.1)
  have e:(x==y)=false:=by simpa using q
  exact rl e ih
noncomputable def qt(scope:Scope)(env:Env)(L:Addr):Env:=compEnvC scope (cellsFrom (L+1) scope.names (gU env scope.names [])) L env
noncomputable def sQ(scope:Scope):acv:=(scope.names.filter λp=>p.2==.cell).map (·.1)
noncomputable def gC(Γ:Gm)(scope:Scope)(L:Addr)(Do:acq):Gm:=⟨Γ.k,qt scope Γ.env L,sQ scope,Do⟩
noncomputable def ic(scope:Scope):Bool:=scope.kind==.function&&decide ((scope.names.map (·.1)).Nodup)
noncomputable def gI(scope:Scope)(env:Env)(vs:aC):Bool:=scope.names.all λp=>p.2 !=.free||(((vs.lookup p.1).isSome)&&(env.kindOf p.1==some .cell||env.kindOf p.1==some .free))
section
variable{C:Cx}{Γ:Gm}{W D D' X X' Z iU Wk:acq}{s s':Shared}{vs vs' d7:aC}{A:Around}{E:ach}{e:Expr}{v m:MV}{k:Nat}{ms:acw}{fl:Fl}{pr:Bool}{it:Value}{h h':Heap}{scope:Scope}
theorem sR:∀(names:List (Str×NameKind))(h:Heap),h.objs.size<=(pushCells h names).objs.size:=by
 intro ll
 induction ll with
 |nil=>
  intro _;exact aaq _
 |cons pp r ih=>
  obtain⟨_,k⟩:=pp;intro h;unfold pushCells;split
  .exact aaf (by exact rl (aaI ..) ((aa0 _))) (ih _)
  .exact ih h
noncomputable def gb(h:Heap)(scope:Scope):Heap:=pushCells (h.push {cls:=.type "dict",data:=.dict #[]}) scope.names
theorem qP(h:Heap)(scope:Scope)(b:Addr)(o:Obj)(e:h.get? b=some o):(gb h scope).get? b=some o:=pushCells_keeps _ _ _ _ (aaW _ e)
theorem sS(h:Heap)(scope:Scope):h.objs.size<(gb h scope).objs.size:=aao (by exact rl (aaI ..) ((aaS _))) (sR _ _)
theorem newBlock{scope:Scope}{cl:List (Str×Addr)}{env:Env}{bi:Addr}{Q:Env->Shared->Prop}{M:Model}(hk:scope.kind = .function)
 (h:Q (newEnv scope s.heap.objs.size env.globals (cellsFrom (s.heap.objs.size+1) scope.names cl) env.qual none .none (some env) bi) {s with heap:=gb s.heap scope}) :
 wpAny M A (newFunctionEnv scope env.globals cl [] env.qual none .none (some env) bi) Q E s:=by
 simp only[newFunctionEnv,Option.isSome_some,if_true];refine aal (wpAny_alloc ?_);refine aal (wpAny_layCells _ (λname kind cells=>by cases hkc:kind==NameKind.cell<;>simp[hkc]) _ _ _ _ ?_);refine rl (show({s with heap:=s.heap.push {cls:=.type "dict",data:=.dict #[]}}:Shared).heap.objs.size=s.heap.objs.size+1 from aaI ..) ?_;exact aal (aat (aat h))
theorem Dj{x:Str}{names:List (Str×NameKind)}{n:Nat}(h:(x,NameKind.cell)∈names):x∈(cellsFrom n names []).map (·.1):=by
 induction names generalizing n with
 |nil=>cases h
 |cons q r ih=>
  obtain⟨y,k⟩:=q;unfold cellsFrom;split
  .refine rl (gM ..) (rl (aa2 ..) ?_)
   rcases aap.mp h with h |h
   .cases h;exact aad _ (.head _)
   .exact aah _ (ih h)
  .rename_i jP
   rcases aap.mp h with h |h
   .cases h;exact(jP J).elim
   .exact ih h
theorem Fm.block(F:Fm C Γ W s.heap vs)(I:Inv C s)(hc:ic scope=true)(hcl:gI scope Γ.env vs=true)(hnd:(vs.map (·.1)).Nodup){av:Shared}(t:bL C [] s av){iU:acq}
 (Qg:∀d∈W++Γ.Do,d∈iU) (M3:∀d∈iU,d∈W++Γ.Do\/s.heap.objs.size<=d) (hhi:∀d∈iU,d<av.heap.objs.size) :
 Fm C ⟨Γ.k,qt scope Γ.env av.heap.objs.size,sQ scope,iU⟩ (av.heap.objs.size::(cellsFrom (av.heap.objs.size+1) scope.names []).map (·.2)) (gb av.heap scope) (iA scope vs)/\
 (∀p∈scope.names,p.2 = .free->(Γ.env.cells.lookup p.1).isSome=true):=by
 simp only[ic,Bool.and_eq_true,beq_iff_eq,decide_eq_true_eq] at hc;refine nb λnn=>?_;obtain⟨hk,hn⟩:=hc;have hfree:∀p∈scope.names,p.2 = .free->∃st,vs.lookup p.1=some st/\(Γ.env.kindOf p.1=some .cell\/Γ.env.kindOf p.1=some .free):=λp hp hf=>by
  have z:=abq.mp hcl p hp;simp only[Bool.or_eq_true,bne_iff_ne,ne_eq,Bool.and_eq_true,beq_iff_eq] at z;rcases z with z |⟨z1,z2⟩
  .exact absurd hf z
  .obtain⟨st,hst⟩:=aa_.mp z1
   exact⟨st,hst,z2⟩
 have wm:∀p∈scope.names,p.2 = .free->∃c,Γ.env.cells.lookup p.1=some c:=λp hp hf=>by obtain⟨st,h1,h2⟩:=hfree p hp hf;obtain⟨c,a,h3,_⟩:=F.cell p.1 st h1 h2;exact⟨c,h3⟩
 refine nn<|⟨?_,λp hp hf=>by obtain⟨c,h⟩:=wm p hp hf;rw[h];rfl⟩
 have ok:=cellsFrom_ok scope.names (av.heap.push {cls:=.type "dict",data:=.dict #[]}) (av.heap.objs.size+1) [] ⟨λ_ _ hm=>(nomatch hm),List.Pairwise.nil⟩ (by refine rl (aaI ..) ?_;exact aaq _);rw[aaI] at ok;have Dk:∀{x c},(x,c)∈cellsFrom (av.heap.objs.size+1) scope.names []->scope.names.lookup x=some .cell:=λhm=>gy hn (sN _ _ hm);have sU:∀{x c},(x,c)∈gU Γ.env scope.names []->scope.names.lookup x=some .free/\Γ.env.cells.lookup x=some c:=λ{x c} hm=>by rw[nC,aaU,ab1] at hm;obtain⟨p,hp,e⟩:=aan.mp hm;obtain⟨hp1,hp2⟩:=aaG.mp hp;cases e;have z7:p.2 = .free:=aa3.mp hp2;obtain⟨c,hc⟩:=wm p hp1 z7;exact⟨gy hn (by exact rs z7 hp1),by rw[hc];rfl⟩
 have look:∀{x c},(qt scope Γ.env av.heap.objs.size).cells.lookup x=some c->(x,c)∈cellsFrom (av.heap.objs.size+1) scope.names []\/(scope.names.lookup x=some .free/\Γ.env.cells.lookup x=some c):=λ{x c} e=>by
  have e':(cellsFrom (av.heap.objs.size+1) scope.names (gU Γ.env scope.names [])).lookup x=some c:=e;replace e':=(gM ..)▸e';rcases aag.mp (mem_of_lookup e') with q |q
  .exact .inl q
  .exact .inr (sU q)
 have E8:∀{x c},scope.names.lookup x=some .free->Γ.env.cells.lookup x=some c->(qt scope Γ.env av.heap.objs.size).cells.lookup x=some c:=λ{x c} h1 h2=>by
  show(cellsFrom (av.heap.objs.size+1) scope.names (gU Γ.env scope.names [])).lookup x=some c;refine rl (gM ..) (rl (lookup_append ..) ?_);have n1:(cellsFrom (av.heap.objs.size+1) scope.names []).lookup x=none:=by
   cases q:(cellsFrom (av.heap.objs.size+1) scope.names []).lookup x with
   |none=>rfl
   |some c'=>replace h1:=(Dk (mem_of_lookup q))▸h1;cases h1
  refine rl n1 (rl Option.none_or ?_);have hm:x∈(gU Γ.env scope.names []).map (·.1):=by rw[nC,aaU,List.map_reverse,ab1,aar];exact aan.mpr ⟨(x,.free),aaG.mpr ⟨mem_of_lookup h1,J⟩,J⟩
  obtain⟨c',jV⟩:=cX hm;have:=(sU (mem_of_lookup jV)).2;replace this:=h2▸this;cases this;exact jV
 have lE:∀{x c},(x,c)∈cellsFrom (av.heap.objs.size+1) scope.names []->(gb av.heap scope).IsCell c none/\av.heap.objs.size+1<=c:=λ{x c} hm=>ok.empty x c hm;have E9:C.H.objs.size<=av.heap.objs.size:=aaf I.size t.size;have bs:=sS av.heap scope;have kp:Kept C.tabs s.heap (gb av.heap scope):=λb o hb e=>qP _ _ _ _ (t.keep b o (by simpa using hb) e);have cm:∀d∈av.heap.objs.size::(cellsFrom (av.heap.objs.size+1) scope.names []).map (·.2),av.heap.objs.size<=d/\d<(gb av.heap scope).objs.size:=LO ⟨aaq _,bs⟩ (aaM.mpr λp hp=>⟨abo (lE (x:=p.1) (c:=p.2) hp).2,(lE (x:=p.1) (c:=p.2) hp).1.lt⟩);have M4:∀d∈(av.heap.objs.size::(cellsFrom (av.heap.objs.size+1) scope.names []).map (·.2))++iU,d∈W++Γ.Do\/s.heap.objs.size<=d:=MM (λd q=>.inr (aaf t.size (cm d q).1)) M3;have JH:∀x c,Γ.env.cells.lookup x=some c->c<s.heap.objs.size:=λx c hc=>F.hi c (F.cI x c hc).1;refine⟨hk,F.glob,F.bi,⟨λ_=>none,(Heap.Ns.new av.heap (.type "dict")).keeps (pushCells_keeps _ _),λx st hx hl=>?_⟩,λx st hx hl=>?_,λx hx=>?_,.head _,λd hd=>Qg d (F.cj d hd),λd hd=>?_,λd hd=>?_,λx y c c' hx hy kI q=>?_,λx c hx=>?_,λx c hx=>?_,λx st a hx ha=>?_,λx y st jg a hx hy ha=>?_⟩
 .obtain⟨_,h2,_⟩:=dK hnd hx
  have hl':(relabel scope Γ.env).names.lookup x=some .local:=hl;replace hl':=(sO ..)▸hl';replace hl':=h2▸hl';replace hl':=(Option.map_some ..)▸hl';split at hl'<;>cases hl'
 .refine nb λnn=>?_
  obtain⟨h1,h2,m,rfl⟩:=dK hnd hx;obtain⟨st,hst,hkind⟩:=hfree (x,.free) (mem_of_lookup h2) J;have W6:vs.lookup x=some (.v m):=h1;obtain⟨c,a,hc,⟨o,ho,hd⟩,d⟩:=F.cell x (.v m) W6 hkind;have nt:=aX I (F.cI x c hc).2;exact nn<|⟨c,a,E8 h2 hc,⟨o,kp c o nt ho,hd⟩,Den.kept (D:=W++Γ.Do) kp F.cj M4 d⟩
 .obtain⟨p,hp,rfl⟩:=aan.mp hx
  obtain⟨hp1,hp2⟩:=aaG.mp hp;have z7:p.2 = .cell:=aa3.mp hp2;have hm:p.1∈(cellsFrom (av.heap.objs.size+1) scope.names []).map (·.1):=Dj (by exact rs z7 hp1);obtain⟨c,hc⟩:=cX hm;have SM:=mem_of_lookup hc;refine⟨c,none,?_,.tail _ (aan.mpr ⟨_,SM,J⟩),(lE SM).1⟩;show(cellsFrom (av.heap.objs.size+1) scope.names (gU Γ.env scope.names [])).lookup p.1=some c;refine rl (gM ..) (rl (lookup_append ..) (rl hc ?_));rfl
 .exact aaf E9 (cm d hd).1
 .exact(aag.mp hd).elim (λq=>(cm d q).2) λq=>abp (hhi d q) bs
 .subst q
  rcases look hx with q |⟨q1,q2⟩
  .rcases look hy with r |⟨r1,r2⟩
   .exact kI (o6 ok.apart q r)
   .exact absurd (JH y c r2) (aaw.mpr (aaf t.size (abo (lE q).2)))
  .rcases look hy with r |⟨r1,r2⟩
   .exact absurd (JH x c q2) (aaw.mpr (aaf t.size (abo (lE r).2)))
   .exact F.apart x y c c q2 r2 kI J
 .rcases look hx with q |⟨q1,q2⟩
  .exact⟨aah _ (.tail _ (aan.mpr ⟨_,q,J⟩)),aaf E9 (abo (lE q).2)⟩
  .exact⟨aad _ (Qg c (F.cI x c q2).1),(F.cI x c q2).2⟩
 .rcases look hx with q |⟨q1,q2⟩
  .exact abB (lE q).2
  .exact abb (aao (JH x c q2) t.size)
 .refine nb λnn=>?_
  obtain⟨_,_,m,rfl⟩:=dK hnd hx;cases ha
 .obtain⟨_,_,m,rfl⟩:=dK hnd hx;cases ha
end
noncomputable def Zu(C:Cx)(Γ:Gm)(vs:aC):acs->Bool->Prop
 |[],b=>b=true
 |[c],b=>Ts C Γ vs c b
 |_,_=>False
noncomputable def x9(C:Cx)(Γ:Gm)(t:Expr)(ifs:acs)(elt:Expr):acw->aC->acw->Prop
 |[],_,out=>out=[]
 |m::ms,vs,out=>∃fK,Bd C Γ t m vs fK/\∃b,Zu C Γ fK ifs b/\(match b with |true=>∃r iE,Ev C Γ fK elt r/\out=r::iE/\x9 C Γ t ifs elt ms fK iE |false=>x9 C Γ t ifs elt ms fK out)
section
variable{C:Cx}{Γ:Gm}{W D D' X X' Z iU Wk:acq}{s s':Shared}{vs vs' d7:aC}{A:Around}{E:ach}{e:Expr}{v m:MV}{k:Nat}{ms:acw}{fl:Fl}{pr:Bool}{it:Value}{h h':Heap}{scope:Scope}
theorem jz.iter{lo:Nat}(x:jz lo s.heap D X pr Z it ms){Q:ach}(h:Q it s):wpAny (model P0 C.w) A (pyIter it) Q E s:=by
 cases x with
 |list h1 h2 h3 h4 h5 h6=>exact wpAny_pyIter_listiter h1 h
 |range h1 h2 h3 h4=>exact wpAny_pyIter_rangeiter h1 h
 |zip a1 a2=>exact wpAny_pyIter_zip a2 h
 |enum a1=>exact wpAny_pyIter_enum a1 h
theorem Dl{ifs:acs}{b:Bool}(H:Zu C Γ vs ifs b)(G:Good Γ.k A)(I:Inv C s)(F:Fm C Γ W s.heap vs){Q:Bool->Shared->Prop}(h:∀s',bL C [] s s'->Inv C s'->Q b s') :
 wpAny (model P0 C.w) A (forIn ifs true λc r=>if r=true then do let ok <- isTrue c Γ.env (eval c Γ.env);pure (ForInStep.yield ok) else pure (ForInStep.yield r)) Q E s:=by
 match ifs,H with
 |[],H=>cases H;exact wpAny_tests_nil (h s (bL.refl _ _ _) I)
 |[c],H=>exact wpAny_tests_one (cS (H A s W G I F) λr s' ⟨h1,h2,h3⟩=>by subst h1;exact h s' h2 h3)
theorem sV(elt target iter:Expr)(ifs:acs)(scope:Scope)(pos:Pos)(it acc:Value)(env:Env) :
 compTurn (.ListComp elt [⟨target,iter,ifs,0⟩] scope pos) 0 it acc env=(do
  standAt iter.pos
  match <- pyNext it with
  |none=>pure (.done .next)
  |some v=>
   letOwnedTupleGo target it v
   assign target env v
   let mut ok:=true
   for c in ifs do
    if ok then ok <- isTrue c env (eval c env)
   if ok then
    (do let _ <- call (.builtin "list.append") [acc,<- eval elt env])
   again (.compLoop (.ListComp elt [⟨target,iter,ifs,0⟩] scope pos) 0 it acc env)):=compTurn_list ..
structure oA(C:Cx)(Γ:Gm)(W Z:acq)(acc:Addr):Prop where
 hZ:∀z∈Z,z∈Γ.Do
 JF:∀z∈Z,z∉W
 hZc:∀x c,Γ.env.cells.lookup x=some c->c∉Z
 Zv:acc∉Z
 hZt:∀z∈Z,z∉C.tabs
 haD:acc∈Γ.Do
 ql:acc∉W
 haC:∀x c,Γ.env.cells.lookup x=some c->c≠acc
 W7:C.H.objs.size<=acc
structure CB(C:Cx)(Γ:Gm)(W Z:acq)(acc:Addr)(vs:aC)(pre:acw)(bM s:Shared):Prop where
 fm:Fm C Γ W s.heap vs
 box:∃items n,s.heap.get? acc=some {cls:=.type "list",data:=.seq items n}/\bD s.heap (W++Γ.Do) items.toList pre
 dJ:bL C (acc::(W++Z)) bM s
 inv:Inv C s
noncomputable abbrev wo(C:Cx)(Γ:Gm)(W Z:acq)(acc:Addr)(pr:Bool)(it:Value)(ms:acw)(s:Shared):Prop:=jz C.H.objs.size s.heap (W++Γ.Do) (acc::(W++C.tabs)) pr Z it ms
theorem oA.zD{acc:Addr}(E:oA C Γ W Z acc):∀z∈Z,z∈W++Γ.Do:=λz hz=>aad _ (E.hZ z hz)
theorem oA.xE{acc:Addr}{Wk:acq}(E:oA C Γ W Z acc)(F:Fm C Γ W h vs)(hi:jz C.H.objs.size h (W++Γ.Do) (acc::(W++C.tabs)) pr Z it ms)(t:Kept (Wk++C.tabs) h h')(h2:∀d∈Wk,d∈acc::W):jz C.H.objs.size h' (W++Γ.Do) (acc::(W++C.tabs)) pr Z it ms:=
 hi.kept t (λd hd=>(aag.mp hd).elim (λq=>(aap.mp (h2 d q)).elim (λe=>by exact rl e ((aad _ E.haD))) λq=>aah _ q) λq=>aad _ (F.tabs d q))
  (λd hd=>(aag.mp hd).elim (λq=>(aap.mp (h2 d q)).elim (λe=>by exact rl e ((.head _))) λq=>.tail _ (aah _ q)) (λq=>.tail _ (aad _ q)))
  (λ_ q=>.inl q) (λ_ q=>.inl q) (λz hz q=>(aag.mp q).elim (λq=>(aap.mp (h2 z q)).elim (λe=>E.Zv (e▸hz)) (E.JF z hz)) (E.hZt z hz))
theorem oA.keep{acc:Addr}{Wk:acq}{o:Obj}(E:oA C Γ W Z acc)(I:Inv C s)(t:bL C Wk s s')(hn:acc∉Wk)(e:s.heap.get? acc=some o):s'.heap.get? acc=some o:=
 t.keep acc _ (λq=>(aag.mp q).elim hn (aX I E.W7)) e
theorem CB.iter{acc:Addr}{pre:acw}{bM:Shared}(E:oA C Γ W Z acc)(B:CB C Γ W Z acc vs pre bM s)(t:bL C Z s s')(I:Inv C s'):CB C Γ W Z acc vs pre bM s':=by obtain⟨items,n,ha,hd⟩:=B.box;exact⟨B.fm.jj B.inv t E.hZ E.JF E.hZc,⟨items,n,E.keep B.inv t E.Zv ha,hd.kept t.keep (λd hd=>(aag.mp hd).elim (E.zD d) (B.fm.cj d)) (λ_ q=>.inl q)⟩,B.dJ.eS (t.weak λd hd=>.tail _ (aad _ hd)),I⟩
theorem CB.frame{acc:Addr}{pre:acw}{bM:Shared}(E:oA C Γ W Z acc)(B:CB C Γ W Z acc vs pre bM s)(F:Fm C Γ W s'.heap vs')(t:bL C W s s')(I:Inv C s'):CB C Γ W Z acc vs' pre bM s':=by obtain⟨items,n,ha,hd⟩:=B.box;exact⟨F,⟨items,n,E.keep B.inv t E.ql ha,hd.MW B.fm t⟩,B.dJ.eS (t.weak λd hd=>.tail _ (aah _ hd)),I⟩
theorem CB.step{acc:Addr}{pre:acw}{bM:Shared}(E:oA C Γ W Z acc)(B:CB C Γ W Z acc vs pre bM s)(t:bL C [] s s')(I:Inv C s'):CB C Γ W Z acc vs pre bM s':=B.frame E (B.fm.dJ B.inv t) t.up I
theorem bD.Qh{a:acp}{b:acw}{x:Value}{r:MV}(d:bD h D a b)(dx:Den h D x r):bD h D (a++[x]) (b++[r]):=by
 induction a generalizing b with
 |nil=>cases d;exact .cons dx .nil
 |cons y l ih=>cases d with |cons h1 h2=>exact .cons h1 (ih h2)
theorem CB.push{acc:Addr}{pre:acw}{bM:Shared}{x:Value}{r:MV}{Q:ach}(E:oA C Γ W Z acc)(B:CB C Γ W Z acc vs pre bM s)(hit:wo C Γ W Z acc pr it ms s)(d:Den s.heap (W++Γ.Do) x r)(hl:pre.length<=1000)
 (h:∀v s',CB C Γ W Z acc vs (pre++[r]) bM s'->wo C Γ W Z acc pr it ms s'->Q v s') {EE:ach}:wpAny (model P0 C.w) A (call (.builtin "list.append") [.ref acc,x]) Q EE s:=by
 refine nb λnn=>?_;obtain⟨items,n,ha,hd⟩:=B.box;have hsz:items.size=pre.length:=by exact rs hd.length (Array.length_toList.symm)
 refine nn<|wpAny_list_append_plain ⟨n,ha⟩ (λh' hp_ hs=>?_) (by rw[hsz,sizeLine];exact aaf hl (aae J))
 obtain⟨k',hp⟩:=hp_;have t:bL C [acc] s {s with heap:=h'}:=bL.same (tk:=s.toks) hs (.head _);have kp:Kept [acc] s.heap h':=gK hs;have sub:∀d∈[acc],d∈W++Γ.Do:=m1 (aad _ E.haD);have F:Fm C Γ W h' vs:=B.fm.jj B.inv t (m1 E.haD) (m1 E.ql) (λx c hc q=>E.haC x c hc (aam.mp q));refine h _ _ ⟨F,⟨items.push x,k',hp,?_⟩,B.dJ.eS (t.weak (m1 (.head _))),B.inv.same (tk:=s.toks) hs E.W7⟩ (E.xE B.fm hit t.keep (m1 (.head _)));refine rl Array.toList_push ?_;exact(hd.kept (D':=W++Γ.Do) kp sub λ_ q=>.inl q).Qh (d.kept (D':=W++Γ.Do) kp sub λ_ q=>.inl q)
inductive Qi(C:Cx)(Γ:Gm)(W Z:acq)(acc:Addr)(pr:Bool)(it:Value)(R:acw->aC->acw->Prop)(bM:Shared)(n:Nat)(s:Shared):Prop
 |mk (ms:acw) (vs:aC) (pre:acw):n=ms.length+1->R ms vs pre->CB C Γ W Z acc vs pre bM s->wo C Γ W Z acc pr it ms s->Qi C Γ W Z acc pr it R bM n s
theorem sW{bM:Shared}{e0 t:Expr}{d:Nat}{ipos:Pos}{acc:Addr}{body:Sem Fin}{R:acw->aC->acw->Prop}{pre:acw}
 (hq:(Code.compLoop e0 d it (.ref acc) Γ.env).quiet=true) (hun:A.under (Code.compLoop e0 d it (.ref acc) Γ.env)=A)
 (Dm:(model P0 C.w).den (.compLoop e0 d it (.ref acc) Γ.env)=(compTurn e0 d it (.ref acc) Γ.env).onRaise (λx=>do noteFrame x Γ.env;theTreesLotGoes x))
 (OX:compTurn e0 d it (.ref acc) Γ.env=(standAt ipos>>=λ_=>pyNext it>>=λr=>match r with
  |none=>pure (.done .next)
  |some v=>letOwnedTupleGo t it v>>=λ_=>assign t Γ.env v>>=λ_=>body))
 (ht:pr=true->∃es x1 p,t = .Tuple es x1 p) (G:Good Γ.k A) (E:oA C Γ W Z acc)
 (HB:∀m ms vs pre,R (m::ms) vs pre->∃fK,Bd C Γ t m vs fK/\∀s {Q:Fin->Shared->Prop} {EE:ach},CB C Γ W Z acc fK pre bM s->wo C Γ W Z acc pr it ms s->
  (∀s' vs' pre',R ms vs' pre'->CB C Γ W Z acc vs' pre' bM s'->wo C Γ W Z acc pr it ms s'->Q (.again (.compLoop e0 d it (.ref acc) Γ.env)) s')->wpAny (model P0 C.w) A body Q EE s)
 (h0:R ms vs pre) (B:CB C Γ W Z acc vs pre bM bM) (hit:wo C Γ W Z acc pr it ms bM) {P:Result->Shared->Prop} (hP:∀s' vs' pre',R [] vs' pre'->CB C Γ W Z acc vs' pre' bM s'->P (.ok .next) s') :
 codeAny (model P0 C.w) A (.compLoop e0 d it (.ref acc) Γ.env) P bM:=by
 refine codeAny_loop hq (Qi C Γ W Z acc pr it R bM) ?_ (ms.length+1) (.mk ms vs pre J h0 B hit);intro n aq hI;cases hI with |mk ms vs pre hn hR B hit=>
 refine rl hun (rl Dm ?_);refine wpAny_noted ?_;refine rl OX ?_;refine nb λnn=>?_;cases ms with
 |nil=>exact nn<|aal (aaY (aal (jz.done hit G.handled B.inv (aaq _) λav aY bu=>aat (hP av vs pre hR (B.iter E aY bu)))))
 |cons m ms=>
  obtain⟨fK,hb,H⟩:=HB m ms vs pre hR;refine nn<|aal (aaY (aal (jz.next hit E.zD B.fm.hi B.inv (aaq _) ht λa av h₂=>aal (cS h₂ λ_ bH bI=>?_))))
  refine nb λnn=>?_;obtain⟨d₃,sX,cW,ez⟩:=bI;have M5:=B.iter E cW ez;refine nn<|aal (cS (hb A bH W a G ez M5.fm d₃) λ_ fF bI=>?_)
  refine nb λnn=>?_;obtain⟨jA,jh,jZ⟩:=bI;exact nn<|H fF (M5.frame E jA jh jZ) (E.xE M5.fm sX jh.keep (λd hd=>.tail _ hd)) λs' vs' pre' hR' B' xY=>⟨J,ms.length+1,by exact rl hn ((aaS _)),.mk ms vs' pre' J hR' B' xY⟩
inductive Bp(C:Cx)(Γ:Gm)(W Z:acq)(acc:Addr)(out:acw)(bM:Shared)(r:Result)(s':Shared):Prop
 |mk (hr:r = .ok .next) (items:aco) (n:Nat) (vs':aC):s'.heap.get? acc=some {cls:=.type "list",data:=.seq items n}->bD s'.heap (W++Γ.Do) items.toList out->Fm C Γ W s'.heap vs'->bL C (acc::(W++Z)) bM s'->Inv C s'->Bp C Γ W Z acc out bM r s'
theorem CB.done{acc:Addr}{pre:acw}{bM:Shared}(B:CB C Γ W Z acc vs pre bM s):Bp C Γ W Z acc pre bM (.ok .next) s:=by obtain⟨items,n,ha,hd⟩:=B.box;exact .mk J items n _ ha hd B.fm B.dJ B.inv
theorem Dn{elt t iter:Expr}{ifs:acs}{pos:Pos}{acc:Addr}{out:acw}(H:x9 C Γ t ifs elt ms vs out)(ht:pr=true->∃es x1 p,t = .Tuple es x1 p)(hlen:ms.length<=1000)
 (G:Good Γ.k A) (E:oA C Γ W Z acc) (B:CB C Γ W Z acc vs [] s s) (hit:wo C Γ W Z acc pr it ms s) :
 codeAny (model P0 C.w) A (.compLoop (.ListComp elt [⟨t,iter,ifs,0⟩] scope pos) 0 it (.ref acc) Γ.env) (Bp C Γ W Z acc out s) s:=by
 refine sW (R:=λms vs pre=>∃iE,pre++iE=out/\pre.length+ms.length<=1000/\x9 C Γ t ifs elt ms vs iE) J J J (sV ..) ht G E ?_ ⟨out,J,by exact rl (List.length_nil ..) (rl (Nat.zero_add ..) hlen),H⟩ B hit ?_
 .rintro m ms vs pre ⟨iE,xF,hl,fK,hb,b,HT,HN⟩
  refine⟨fK,hb,λs Q EE B hit h=>?_⟩;refine aal (Dl HT G B.inv B.fm λgG jK pg=>?_);have JI:=B.step E jK pg;have E_:=E.xE B.fm hit jK.keep n0;replace hl:=abr▸hl;refine nb λnn=>?_;cases b with
  |false=>exact nn<|aat (h gG fK pre ⟨iE,xF,abo hl,HN⟩ JI E_)
  |true=>
   obtain⟨r,Fc,HE,rfl,HN⟩:=HN;refine nn<|aal (aal (HE.use G pg JI.fm λx s₆ M6 qq uD zX=>?_))
   refine aal (CB.push E (JI.step E qq uD) (E.xE JI.fm E_ qq.keep n0) M6 (aaf (aay _ _) hl) λv s' B' xY=>?_);exact aat (aat (h s' fK (pre++[r]) ⟨Fc,by refine rs (xF ..) (rl (abU ..) ?_);rfl,by exact rl (aaX ..) (rl (List.length_singleton ..) (rl (abC ..) (rl (abj 1 ..) hl))),HN⟩ B' xY))
 .rintro s' vs' pre' ⟨iE,xF,_,rfl⟩ B'
  replace xF:=(aaU ..)▸xF;subst xF;exact B'.done
end
noncomputable def kL(C:Cx)(Γ:Gm)(e0:Expr)(pr:Bool)(ms:acw)(vs:aC)(out:acw):Prop:=
 ∀A s W Z it acc,Good Γ.k A->oA C Γ W Z acc->CB C Γ W Z acc vs [] s s->wo C Γ W Z acc pr it ms s->codeAny (model P0 C.w) A (.compLoop e0 0 it (.ref acc) Γ.env) (Bp C Γ W Z acc out s) s
noncomputable def OY(C:Cx)(Γ:Gm)(vs:aC)(e:Expr)(pr:Bool)(ms:acw):Prop:=
 ∀A s W,Good Γ.k A->Inv C s->Fm C Γ W s.heap vs->wpAny (model P0 C.w) A (eval e Γ.env) (λx aq=>wpAny (model P0 C.w) A (pyIter x) (λit av=>
  ∃Z,(∀z∈Z,s.heap.objs.size<=z/\z<av.heap.objs.size)/\jz C.H.objs.size av.heap (W++(Z++Γ.Do)) C.tabs pr Z it ms/\bL C [] s av/\Inv C av) ig aq) ig s
section
variable{C:Cx}{Γ:Gm}{W D D' X X' Z iU Wk:acq}{s s':Shared}{vs vs' d7:aC}{A:Around}{E:ach}{e:Expr}{v m:MV}{k:Nat}{ms:acw}{fl:Fl}{pr:Bool}{it:Value}{h h':Heap}{scope:Scope}
theorem rR.toC(H:rR C Γ vs e pr ms):OY C Γ vs e pr ms:=λA s W G I F=>
 cS (H A s W G I F) λx aq jy=>cS jy λit av ⟨Z,hZ,hit,aY,bu⟩=>⟨Z,hZ,hit.kept (W:=[]) (λ_ _ _ e=>e) (λ_ q=>nomatch q) (λ_ q=>nomatch q) (λ_ q=>.inl q) (λd hd=>.inl (aad _ (aad _ (F.tabs d hd)))) (λ_ _ q=>nomatch q),aY,bu⟩
theorem kL.one{elt t iter:Expr}{ifs:acs}{pos:Pos}{out:acw}(H:x9 C Γ t ifs elt ms vs out)(ht:pr=true->∃es x1 p,t = .Tuple es x1 p)(hlen:ms.length<=1000):kL C Γ (.ListComp elt [⟨t,iter,ifs,0⟩] scope pos) pr ms vs out:=
 λA s W Z it acc G E B hit=>Dn H ht hlen G E B hit
theorem oB{elt t iter:Expr}{ifs:acs}{pos:Pos}{out:acw}{use:Option (Value->Sem Unit)}{Q:ach}{gs:List Comprehension}(Hi:OY C Γ vs iter pr ms)
 (H:∀L Do,kL C ⟨Γ.k,qt scope Γ.env L,sQ scope,Do⟩ (.ListComp elt (⟨t,iter,ifs,0⟩::gs) scope pos) pr ms (iA scope vs) out) (eN:ic scope=true) (hcl:gI scope Γ.env vs=true) (hnd:(vs.map (·.1)).Nodup)
 (hs:∀x,foldedSetIterable iter Γ.env x=pure x) (G:Good Γ.k A) (I:Inv C s) (F:Fm C Γ W s.heap vs)
 (W8:∀s' acc L m,Den s'.heap (L::(W++Γ.Do)) (.ref acc) (.lst out)->bL C [] s s'->Inv C s'->s'.heap.Ns L m->s.heap.objs.size<=L->s.heap.objs.size<=acc/\acc≠L->compPost (model P0 C.w) A E use Q (.ref acc) L (.ok .next) s') :
 wpAny (model P0 C.w) A (comprehension (.ListComp elt (⟨t,iter,ifs,0⟩::gs) scope pos) scope Γ.env (firstIterPos (⟨t,iter,ifs,0⟩::gs) pos) (newList []) false (eval iter Γ.env) use) Q E s:=by
 have z8:=eN;simp only[ic,Bool.and_eq_true,beq_iff_eq,decide_eq_true_eq] at z8;obtain⟨hk,hn⟩:=z8;have cells:∀p∈scope.names,p.2 = .free->(Γ.env.cells.lookup p.1).isSome=true:=
  (F.block I eN hcl hnd (bL.refl C [] s) (iU:=W++Γ.Do) (λ_ q=>q) (λ_ q=>.inl q) F.hi).2
 refine wpAny_comprehension_free (g:=⟨t,iter,ifs,0⟩) (gs:=gs) J hs (sM cells) hk (λx hx hl=>gy hn (by exact rs hl hx)) (cS (Hi A s W G I F) λx aq jy=>cS jy λit av ⟨Z,hZ,hit,aY,bu⟩=>wpAny_newList (newBlock hk ?_));have Dz:∀z∈Z,s.heap.objs.size<=z:=λz hz=>(hZ z hz).1;have cW:bL C [] s {av with heap:=av.heap.push {cls:=.type "list",data:=.seq #[]}}:=aY.then (iu _);have ez:=iw bu {cls:=.type "list",data:=.seq #[]};have uT:(av.heap.push {cls:=.type "list",data:=.seq #[]}).objs.size=av.heap.objs.size+1:=aaI _ _;have JJ:∀d∈av.heap.objs.size::(Z++(W++Γ.Do)),d∈W++Γ.Do\/s.heap.objs.size<=d:=λd hd=>by
  rcases aap.mp hd with q |q
  .exact rl q ((.inr aY.size))
  .rcases aag.mp q with q |q
   .exact .inr (Dz d q)
   .exact .inl q
 have Fb:=(F.block I eN hcl hnd cW (iU:=av.heap.objs.size::(Z++(W++Γ.Do))) (λd hd=>.tail _ (aad _ hd)) JJ (λd hd=>by
  show d<(av.heap.push {cls:=.type "list",data:=.seq #[]}).objs.size;refine rl uT ?_;rcases aap.mp hd with q |q
  .exact rl q ((aaS _))
  .rcases aag.mp q with q |q
   .exact aa5 (hZ d q).2
   .exact aa5 (aao (F.hi d q) aY.size))).1
 have bs:=sS (av.heap.push {cls:=.type "list",data:=.seq #[]}) scope;have bk:=qP (av.heap.push {cls:=.type "list",data:=.seq #[]}) scope;have jh:bL C [] {av with heap:=av.heap.push {cls:=.type "list",data:=.seq #[]}} {av with heap:=gb (av.heap.push {cls:=.type "list",data:=.seq #[]}) scope}:=bL.heap (s:={av with heap:=av.heap.push {cls:=.type "list",data:=.seq #[]}}) (tk:=av.toks) (aaO bs) (λb o _ e=>bk b o e);have jZ:Inv C {av with heap:=gb (av.heap.push {cls:=.type "list",data:=.seq #[]}) scope}:=ez.step (tk:=av.toks) (W:=[]) (aaO bs) (λb o _ e=>bk b o e) (λ_ q=>nomatch q);have W9:(gb (av.heap.push {cls:=.type "list",data:=.seq #[]}) scope).get? av.heap.objs.size=some {cls:=.type "list",data:=.seq #[]}:=bk _ _ (aa4 _ J);have OZ:∀{d},d∈(av.heap.push {cls:=.type "list",data:=.seq #[]}).objs.size::(cellsFrom ((av.heap.push {cls:=.type "list",data:=.seq #[]}).objs.size+1) scope.names []).map (·.2)->av.heap.objs.size<d:=λ{d} hd=>by
  cases hd with
  |head=>exact rl uT ((aaS _))
  |tail _ q=>
   obtain⟨p,hp,rfl⟩:=aan.mp q;have ok:=cellsFrom_ok scope.names ((av.heap.push {cls:=.type "list",data:=.seq #[]}).push {cls:=.type "dict",data:=.dict #[]}) ((av.heap.push {cls:=.type "list",data:=.seq #[]}).objs.size+1) [] ⟨λ_ _ hm=>(nomatch hm),List.Pairwise.nil⟩ (by exact rl (aaI _ {cls:=Value.type "dict",data:=Data.dict #[]}) ((aaq _)));replace ok:=(aaI _ {cls:=Value.type "dict",data:=Data.dict #[]})▸ok;have:=(ok.empty p.1 p.2 hp).2;replace this:=uT▸this;exact aao (aa5 (aaS _)) this
 have W_:∀z∈Z,z<av.heap.objs.size:=λz hz=>(hZ z hz).2;have zlo:∀z∈Z,C.H.objs.size<=z:=λz hz=>aaf I.size (Dz z hz);have itb:jz C.H.objs.size (gb (av.heap.push {cls:=.type "list",data:=.seq #[]}) scope) (((av.heap.push {cls:=.type "list",data:=.seq #[]}).objs.size::(cellsFrom ((av.heap.push {cls:=.type "list",data:=.seq #[]}).objs.size+1) scope.names []).map (·.2))++(av.heap.objs.size::(Z++(W++Γ.Do))))
  (av.heap.objs.size::(((av.heap.push {cls:=.type "list",data:=.seq #[]}).objs.size::(cellsFrom ((av.heap.push {cls:=.type "list",data:=.seq #[]}).objs.size+1) scope.names []).map (·.2))++C.tabs)) pr Z it ms:=by
  refine hit.kept (W:=[]) (λb o _ e=>bk b o (aaW _ e)) (λ_ q=>nomatch q) (λ_ q=>nomatch q) (λd hd=>?_) (λd hd=>?_) (λ_ _ q=>nomatch q)
  .rcases aag.mp hd with q |q
   .exact .inr (aaO (OZ q))
   .rcases aap.mp q with q |q
    .exact rl q ((.inr (aaq _)))
    .rcases aag.mp q with q |q
     .exact .inl (aad _ (aah _ q))
     .rcases aag.mp q with q |q
      .exact .inl (aah _ q)
      .exact .inl (aad _ (aad _ q))
  .rcases aap.mp hd with q |q
   .exact rl q ((.inr (aaq _)))
   .rcases aag.mp q with q |q
    .exact .inr (aaO (OZ q))
    .exact .inl q
 have fresh:∀d∈av.heap.objs.size::(((av.heap.push {cls:=.type "list",data:=.seq #[]}).objs.size::(cellsFrom ((av.heap.push {cls:=.type "list",data:=.seq #[]}).objs.size+1) scope.names []).map (·.2))++Z),s.heap.objs.size<=d:=λd hd=>by
  rcases aap.mp hd with q |q
  .refine rl q ?_;exact aY.size
  .rcases aag.mp q with q |q
   .exact aaf aY.size (aaO (OZ q))
   .exact Dz d q
 have Bq:∀x c,(qt scope Γ.env (av.heap.push {cls:=.type "list",data:=.seq #[]}).objs.size).cells.lookup x=some c->c∉Z/\c≠av.heap.objs.size:=λx c hc=>by
  have jV:(cellsFrom ((av.heap.push {cls:=.type "list",data:=.seq #[]}).objs.size+1) scope.names (gU Γ.env scope.names [])).lookup x=some c:=hc;replace jV:=(gM ..)▸jV;refine nb λnn=>?_;rcases aag.mp (mem_of_lookup jV) with q |q
  .have w:=OZ (d:=c) (.tail _ (aan.mpr ⟨_,q,J⟩))
   exact nn<|⟨λz=>absurd (W_ c z) (aaw.mpr (aaO w)),abB w⟩
  .rw[nC,aaU,ab1] at q
   obtain⟨p,hp,e⟩:=aan.mp q;obtain⟨hp1,hp2⟩:=aaG.mp hp;cases e;obtain⟨c',hc2⟩:=aa_.mp (cells p hp1 (aa3.mp hp2));have lt:=F.hi c' (F.cI p.1 c' hc2).1;have e2:(List.lookup p.1 Γ.env.cells).getD 0=c':=by refine rl hc2 ?_;rfl
   refine nn ?_;refine rl e2 ?_;exact⟨λz=>absurd (Dz c' z) (Nat.not_le.mpr lt),abb (aao lt aY.size)⟩
 have loop:=H (av.heap.push {cls:=.type "list",data:=.seq #[]}).objs.size _ A _ _ Z it av.heap.objs.size G
  ⟨λz hz=>.tail _ (aah _ hz),λz hz q=>absurd (W_ z hz) (aaw.mpr (aaO (OZ q))),λx c hc=>(Bq x c hc).1,λq=>absurd (W_ _ q) (aa8 _),λz hz=>aX I (zlo z hz),.head _,λq=>absurd (OZ q) (aa8 _),λx c hc=>(Bq x c hc).2,bu.size⟩ ⟨Fb,⟨_,_,W9,.nil⟩,bL.refl _ _ _,jZ⟩ itb
 have fin:=abm loop (R':=compPost (model P0 C.w) A E use Q (.ref av.heap.objs.size) (av.heap.push {cls:=.type "list",data:=.seq #[]}).objs.size) λr gG ⟨hr,items,n,vs5,ha,hd,Dg,jK,pg⟩=>by
  subst hr;obtain⟨mm,hm,_⟩:=Dg.ns;have tt:bL C [] s gG:=(cW.then jh).trans jK (λ_ q=>nomatch q) λd hd=>.inr (fresh d hd);refine W8 gG _ _ mm (.lst _ items n out ha (λq=>?_) ?_) tt pg hm (aaf aY.size (by exact rl uT ((aa0 _)))) ⟨aY.size,by exact rl uT ((abb (aaS _)))⟩
  .rcases aap.mp q with q |q
   .replace q:=uT▸q;exact absurd q (abb (aaS _))
   .exact absurd (F.hi _ q) (aaw.mpr aY.size)
  .refine hd.kept (W:=[]) (λ_ _ _ e=>e) (λ_ q=>nomatch q) λd hd=>.inl ?_
   rcases aap.mp hd with q |q
   .exact rl q ((.head _))
   .exact aad _ (.tail _ (aad _ q))
 exact codeAny_compStart_list fin (jz.iter itb fin)
theorem pq{elt t iter:Expr}{ifs:acs}{pos:Pos}{out:acw}{gs:List Comprehension}(Hi:OY C Γ vs iter pr ms)
 (H:∀L Do,kL C (gC Γ scope L Do) (.ListComp elt (⟨t,iter,ifs,0⟩::gs) scope pos) pr ms (iA scope vs) out) (eN:ic scope=true) (hcl:gI scope Γ.env vs=true) (hnd:(vs.map (·.1)).Nodup)
 (hs:∀x,foldedSetIterable iter Γ.env x=pure x):Ev C Γ vs (.ListComp elt (⟨t,iter,ifs,0⟩::gs) scope pos) (.lst out):=λA s W G I F=>by
 refine rl (eval_ListComp ..) ?_;refine oB Hi H eN hcl hnd hs G I F λs' acc L m d t' I' hn hL hac=>⟨m,hn,λh' kq=>⟨?_,t'.trans (bL.same (W:=[L]) (tk:=s'.toks) kq (.head _)) (λ_ q=>nomatch q) (sy (.inr hL)),?_⟩⟩
 .exact d.kept (W:=[L]) (gK kq) (sy (.head _)) (λz hz=>.inl (.tail _ hz))
 .exact I'.same (tk:=s'.toks) kq (aaf I.size hL)
theorem l_{elt t iter:Expr}{ifs:acs}{pos spos py:Pos}{y:Str}{out:acw}{gs:List Comprehension}(Hi:OY C Γ vs iter pr ms)
 (H:∀L Do,kL C (gC Γ scope L Do) (.ListComp elt (⟨t,iter,ifs,0⟩::gs) scope pos) pr ms (iA scope vs) out) (eN:ic scope=true) (hcl:gI scope Γ.env vs=true) (hnd:(vs.map (·.1)).Nodup)
 (hs:∀x,foldedSetIterable iter Γ.env x=pure x) (hy:rG Γ y) (hsw:EU scope y py pos Γ.env) :
 gq C Γ vs (.Assign [.Name y py] (.ListComp elt (⟨t,iter,ifs,0⟩::gs) scope pos) spos) .next (aG vs y (.v (.lst out))):=λA s W G I F=>by
 refine rl (exec_Assign_Name_used _ _ _ _ (Zg hsw)) ?_;refine aal (aaY (aal ?_));show wpAny _ A (do let _ <- comprehension (.ListComp elt (⟨t,iter,ifs,0⟩::gs) scope pos) scope Γ.env _ (newList []) false (eval iter Γ.env) (some (assign (.Name y py) Γ.env))) _ _ s;refine aal (aaQ (oB (use:=some (assign (.Name y py) Γ.env)) (Q:=λ_ s'=>Ew C Γ W s .next (aG vs y (.v (.lst out))) .next s') (E:=ig) Hi H eN hcl hnd hs G I F λs' acc L m d t' I' hn hL hac=>?_) (λ_ s' hq=>aat (aat hq)) λ_ _ e=>e)
 .have F':=F.dJ I t'
  have Lf:∀d∈W++Γ.Do,d≠L:=λd hd q=>absurd (F.hi d hd) (by exact rl q ((aaw.mpr hL)));have nL:∀b o,s.heap.get? b=some o->b≠L:=λb o e q=>absurd (aaB e) (by exact rl q ((aaw.mpr hL)));have d0:Den s'.heap (W++Γ.Do) (.ref acc) (.lst out):=d.kept (W:=[]) (λ_ _ _ e=>e) (λ_ q=>nomatch q) λz hz=>.inl (.tail _ hz);have FL:Fm C (cz Γ (L::Γ.Do)) W s'.heap vs:=by
   have kp:Kept C.tabs s.heap s'.heap:=λb o hb e=>t'.keep b o (by simpa using hb) e;refine F.change kp t'.size F.cj (λz hz q=>aX I (F.lo z q) hz) (λx c hc=>aX I (F.cI x c hc).2) (λz hz=>?_) (λz hz=>.tail _ (F.tabs z hz)) (λz hz=>?_) (λx c hc=>?_)
   .rcases aap.mp hz with q |q
    .exact rl q ((.inr hL))
    .exact .inl q
   .rcases aap.mp hz with q |q
    .exact rl q (hn.lt)
    .exact aao (F.hi z (aad _ q)) t'.size
   .rcases aag.mp (F.cI x c hc).1 with q |q
    .exact aah _ q
    .exact aad _ (.tail _ q)
  have dL:Den s'.heap (W++(L::Γ.Do)) (.ref acc) (.lst out):=d.kept (W:=[]) (λ_ _ _ e=>e) (λ_ q=>nomatch q) λz hz=>.inl (by
   rcases aag.mp hz with q |q
   .exact .tail _ (aah _ q)
   .rcases aap.mp q with q |q
    .exact rl q ((.head _))
    .exact .tail _ (aad _ q))
  show wpAny _ A (assign (.Name y py) Γ.env (.ref acc)) _ _ _;refine wpAny_assign_Name (jQ (Γ:=cz Γ (L::Γ.Do)) hy G I' FL dL λav bO aY bu=>?_);have LW:L∉W:=λq=>Lf L (aah _ q) J;have hn₂:av.heap.Ns L m:=abY hn λo e=>aY.keep L o (λq=>(aag.mp q).elim LW (aX I (aaf I.size hL))) e;refine⟨m,hn₂,λh' kq=>?_⟩;have cW:bL C [L] av {av with heap:=h'}:=bL.same (tk:=av.toks) kq (.head _);have cL:∀x c,Γ.env.cells.lookup x=some c->c∉[L]:=λx c hc q=>Lf c (F.cI x c hc).1 (aam.mp q);have iz:=bO.jj bu cW (sy (.head _)) (sy LW) cL;have jA:=iz.change (Wk:=[]) (iU:=Γ.Do) (h':=h') (λ_ _ _ e=>e) (aaq _) (λ_ q=>nomatch q) (λ_ q=>nomatch q) (λ_ _ _ q=>nomatch q) (λz hz=>.inl (.tail _ hz)) F.tabs (λz hz=>iz.hi z (aad _ (.tail _ hz))) (λx c hc=>(F.cI x c hc).1);refine⟨W,λz q=>.inl q,trivial,jA,?_,bu.same (tk:=av.toks) kq (aaf I.size hL)⟩;exact(t'.up.eS aY).trans cW (λz q=>.inl q) (sy (.inr hL))
theorem aZ{elt t iter:Expr}{ifs:acs}{pos:Pos}{out:acw}(Hi:rR C Γ vs iter pr ms)
 (H:∀L Do,x9 C (gC Γ scope L Do) t ifs elt ms (iA scope vs) out) (ht:pr=true->∃es x1 p,t = .Tuple es x1 p) (eN:ic scope=true) (hcl:gI scope Γ.env vs=true) (hnd:(vs.map (·.1)).Nodup) (hlen:ms.length<=1000)
 (hs:∀x,foldedSetIterable iter Γ.env x=pure x):Ev C Γ vs (.ListComp elt [⟨t,iter,ifs,0⟩] scope pos) (.lst out):=pq Hi.toC (λL Do=>kL.one (H L Do) ht hlen) eN hcl hnd hs
theorem cY{elt t iter:Expr}{ifs:acs}{pos spos py:Pos}{y:Str}{out:acw}(Hi:rR C Γ vs iter pr ms)
 (H:∀L Do,x9 C (gC Γ scope L Do) t ifs elt ms (iA scope vs) out) (ht:pr=true->∃es x1 p,t = .Tuple es x1 p) (eN:ic scope=true) (hcl:gI scope Γ.env vs=true) (hnd:(vs.map (·.1)).Nodup) (hlen:ms.length<=1000)
 (hs:∀x,foldedSetIterable iter Γ.env x=pure x) (hy:rG Γ y) (hsw:EU scope y py pos Γ.env) :
 gq C Γ vs (.Assign [.Name y py] (.ListComp elt [⟨t,iter,ifs,0⟩] scope pos) spos) .next (aG vs y (.v (.lst out))):=l_ Hi.toC (λL Do=>kL.one (H L Do) ht hlen) eN hcl hnd hs hy hsw
end
structure ku(C:Cx)(g:Nat)(W:acq)(s s':Shared):Prop where
 size:s.heap.objs.size<=s'.heap.objs.size
 keep:Kept (W++C.tabs) s.heap s'.heap
 gens:∀(g':Nat)(x:GenState),g'≠g->s.gens[g']?=some x->s'.gens[g']?=some x
theorem ku.trans{C:Cx}{g:Nat}{W:acq}{s s' gp:Shared}(a:ku C g W s s')(b:ku C g W s' gp):ku C g W s gp:=
 ⟨aaf a.size b.size,λx o hx e=>b.keep x o hx (a.keep x o hx e),λg' x h e=>b.gens g' x h (a.gens g' x h e)⟩
theorem ku.weak{C:Cx}{g:Nat}{W W':acq}{s s':Shared}(a:ku C g W s s')(h:∀d∈W,d∈W'):ku C g W' s s':=
 ⟨a.size,λx o hx e=>a.keep x o (λq=>hx (by
  rcases aag.mp q with q |q
  .exact aah _ (h x q)
  .exact aad _ q)) e,a.gens⟩
theorem bL.toG{C:Cx}{g:Nat}{W:acq}{s s':Shared}(a:bL C W s s'):ku C g W s s':=⟨a.size,a.keep,λg' x _ e=>a.gens g' x e⟩
theorem ku.back{C:Cx}{g:Nat}{W W':acq}{bM s s':Shared}(t:bL C W' bM s)(a:ku C g W s s')(hW:∀d∈W,bM.heap.objs.size<=d)(hg:bM.gens.size<=g):bL C W' bM s':=by
 refine⟨aaf t.size a.size,λx o hx e=>a.keep x o (λq=>?_) (t.keep x o hx e),λg' x e=>a.gens g' x (λq=>?_) (t.gens g' x e)⟩
 .rcases aag.mp q with q |q
  .exact absurd (aaB e) (aaw.mpr (hW x q))
  .exact hx (aad _ q)
 .have:=(abP.mp e).1
  exact Y3 hg q this
noncomputable def LV(C:Cx)(A:Around)(a:Addr)(g B:Nat)(O D:acq):acw->Shared->Prop
 |[],s=>∀aq N,Inv C aq->s.heap.objs.size<=aq.heap.objs.size->Kept (N++C.tabs) s.heap aq.heap->(∀x,s.gens[g]?=some x->aq.gens[g]?=some x)->(∀d∈N,B<=d/\d∈D/\d∉O)->
  wpAny (model P0 C.w) A (pyNext (.ref a)) (λo s'=>ku C g O aq s'/\Inv C s'/\o=none) ig aq
 |r::rest,s=>∀aq N,Inv C aq->s.heap.objs.size<=aq.heap.objs.size->Kept (N++C.tabs) s.heap aq.heap->(∀x,s.gens[g]?=some x->aq.gens[g]?=some x)->(∀d∈N,B<=d/\d∈D/\d∉O)->
  wpAny (model P0 C.w) A (pyNext (.ref a)) (λo s'=>ku C g O aq s'/\Inv C s'/\∃v,o=some v/\Den s'.heap D v r/\LV C A a g B O D rest s') ig aq
noncomputable def Xa(C:Cx)(k:Nat)(a:Addr)(g B:Nat)(O D:acq)(outs:acw)(s:Shared):Prop:=
 ∀A aq D₁,Good (k+1) A->Inv C aq->s.heap.objs.size<=aq.heap.objs.size->Kept C.tabs s.heap aq.heap->(∀x,s.gens[g]?=some x->aq.gens[g]?=some x)->(∀d∈D₁,d<aq.heap.objs.size)->(∀d∈D₁,d∈D\/s.heap.objs.size<=d)->(∀d∈D,d∈D₁)->LV C A a g B O D₁ outs aq
structure rI(C:Cx)(g B:Nat)(s s':Shared):Prop where
 size:s.heap.objs.size<=s'.heap.objs.size
 keep:∀b o,b<B->b∉C.tabs->s.heap.get? b=some o->s'.heap.get? b=some o
 gens:∀(g':Nat)(x:GenState),g'≠g->s.gens[g']?=some x->s'.gens[g']?=some x
theorem rI.trans{C:Cx}{g B:Nat}{s s' gp:Shared}(a:rI C g B s s')(b:rI C g B s' gp):rI C g B s gp:=
 ⟨aaf a.size b.size,λx o h1 h2 e=>b.keep x o h1 h2 (a.keep x o h1 h2 e),λg' x h e=>b.gens g' x h (a.gens g' x h e)⟩
theorem rI.back{C:Cx}{g B:Nat}{W':acq}{bM s s':Shared}(t:bL C W' bM s)(a:rI C g B s s')(hB:bM.heap.objs.size<=B)(hg:bM.gens.size<=g):bL C W' bM s':=by refine⟨aaf t.size a.size,λx o hx e=>a.keep x o (aao (aaB e) hB) (λq=>hx (aad _ q)) (t.keep x o hx e),λg' x e=>a.gens g' x (λq=>?_) (t.gens g' x e)⟩;have:=(abP.mp e).1;exact Y3 hg q this
theorem ku.toB{C:Cx}{g B:Nat}{W:acq}{s s':Shared}(a:ku C g W s s')(h:∀d∈W,B<=d):rI C g B s s':=
 ⟨a.size,λb o h1 h2 e=>a.keep b o (λq=>(aag.mp q).elim (λq=>absurd h1 (aaw.mpr (h b q))) h2) e,a.gens⟩
noncomputable def Fd(C:Cx)(A:Around)(a:Addr)(g B:Nat):List Bool->Shared->Prop
 |[],s=>Inv C s->wpAny (model P0 C.w) A (pyNext (.ref a)) (λo s'=>rI C g B s s'/\Inv C s'/\o=none) ig s
 |b::bs,s=>Inv C s->wpAny (model P0 C.w) A (pyNext (.ref a)) (λo s'=>rI C g B s s'/\Inv C s'/\o=some (.bool b)/\Fd C A a g B bs s') ig s
structure sY(C:Cx)(D O:acq)(h:Heap):Prop where
 tabs:∀d∈C.tabs,d∈D
 hi:∀d∈D,d<h.objs.size
 fr:∃L m,C.H.objs.size<=L/\L∉O/\h.Ns L m
theorem sY.mw{C:Cx}{D O:acq}{h:Heap}(x:sY C D O h):lg C D h:=⟨x.tabs,x.hi,let⟨L,m,h1,_,h3⟩:=x.fr;⟨L,m,h1,h3⟩⟩
theorem sY.dJ{C:Cx}{D O:acq}{s s':Shared}(x:sY C D O s.heap)(I:Inv C s){g:Nat}(t:ku C g O s s'):sY C D O s'.heap:=
 ⟨x.tabs,λd hd=>aao (x.hi d hd) t.size,let⟨L,m,h1,h2,h3⟩:=x.fr;⟨L,m,h1,h2,abY h3 λo e=>t.keep _ o (λq=>(aag.mp q).elim h2 (aX I h1)) e⟩⟩
theorem sY.grow{C:Cx}{D D' O O':acq}{h h':Heap}(x:sY C D O h)(hk:∀b o,h.get? b=some o->h'.get? b=some o)(hD:∀d∈C.tabs,d∈D')(hhi:∀d∈D',d<h'.objs.size)(hO:∀d∈O',d∈O\/h.objs.size<=d):sY C D' O' h':=
 ⟨hD,hhi,let⟨L,m,h1,h2,h3⟩:=x.fr;⟨L,m,h1,λq=>(hO L q).elim h2 (λz=>absurd h3.lt (aaw.mpr z)),abY h3 λo e=>hk _ o e⟩⟩
inductive Zw(C:Cx)(D₀:acq)(s:Shared)(k:Nat)(outs:acw)(it:Value)(av:Shared):Prop
 |mk (a:Addr) (O:acq) (g:Nat) (D:acq):it = .ref a->Xa C k a g av.heap.objs.size O D outs av->bL C [] s av->Inv C av->s.gens.size<=g->(∀d∈O,s.heap.objs.size<=d/\d∈D)->(∀d∈D,d∈D₀\/s.heap.objs.size<=d)->(∀d∈D₀,d∈D)->sY C D O av.heap->Zw C D₀ s k outs it av
inductive Zx(C:Cx)(s:Shared)(k:Nat)(bs:List Bool)(it:Value)(av:Shared):Prop
 |mk (a:Addr) (g:Nat):it = .ref a->(∀A,Good (k+1) A->Fd C A a g s.heap.objs.size bs av)->bL C [] s av->Inv C av->s.gens.size<=g->Zx C s k bs it av
inductive Xb(C:Cx)(P:ach)(s:Shared)(x:Value)(aq:Shared):Prop
 |mk:handedIn x=true->bL C [] s aq->Inv C aq->(∀A',A'.handled=none->wpAny (model P0 C.w) A' (pyIter x) P ig aq)->Xb C P s x aq
noncomputable def LX(C:Cx)(Γ:Gm)(vs:aC)(k:Nat)(e:Expr)(outs:acw):Prop:=
 ∀A s W,Good Γ.k A->Inv C s->Fm C Γ W s.heap vs->wpAny (model P0 C.w) A (eval e Γ.env) (Xb C (Zw C (W++Γ.Do) s k outs) s) ig s
noncomputable def M7(C:Cx)(Γ:Gm)(vs:aC)(k:Nat)(e:Expr)(bs:List Bool):Prop:=
 ∀A s W,Good Γ.k A->Inv C s->Fm C Γ W s.heap vs->wpAny (model P0 C.w) A (eval e Γ.env) (Xb C (Zx C s k bs) s) ig s
section
variable{C:Cx}{Γ:Gm}{W D D' X X' Z iU Wk O:acq}{s s':Shared}{vs vs' d7:aC}{A:Around}{E:ach}{e:Expr}{v m:MV}{k:Nat}{ms outs:acw}{a:Addr}{g B:Nat}
theorem Good.in1(G:Good (k+1) A):Good k A.in1:=⟨G.handled,by have:=G.depth;simp only[Around.in1];exact TV this,by have:=G.units;simp only[Around.in1];exact TX this⟩
theorem JK:∀(bs:List Bool){s:Shared}{A:Around},Inv C s->Fd C A.in1 a g B bs s->
 codeAny (model P0 C.w) A (.builtin "all.loop" ⟨[.ref a],[]⟩) (λr s'=>r = .ok (.ret (.bool (bs.all id)))/\rI C g B s s'/\Inv C s') s:=by
 intro ll
 induction ll with
 |nil=>
  intro s A I P;refine codeAny_builtin F.entry_all_loop ?_;refine rl (Around.under_plainId F.plain_all_loop _) ?_;show wpAny _ A.in1 (pyNext (.ref a)>>=_) _ _ s;refine aal (cS (P I) λo s' bI=>?_);obtain⟨t,I',h⟩:=bI;subst h;exact aal (abR (aat ⟨J,t,I'⟩))
 |cons b bs ih=>
  intro s A I P;refine codeAny_builtin F.entry_all_loop ?_;refine rl (Around.under_plainId F.plain_all_loop _) ?_;show wpAny _ A.in1 (pyNext (.ref a)>>=_) _ _ s;refine aal (cS (P I) λo aq bI=>?_);obtain⟨t,aF,ho,P'⟩:=bI;subst ho;refine aal (abL (ab' ?_));refine aal (wpAny_letGo ?_);cases b with
  |true=>
   refine aat ⟨plainId_quiet F.plain_all_loop _,abm (ih aF P') λr av ⟨hr,aY,bu⟩=>⟨?_,t.trans aY,bu⟩⟩;refine rl hr ?_;rfl
  |false=>exact aal (abR (aat ⟨J,t,aF⟩))
theorem LV.toB{B':Nat}(hO:∀d∈O,B'<=d):∀(bs:List Bool){s:Shared},LV C A a g B O D (bs.map .bool) s->Fd C A a g B' bs s:=by
 intro ll
 induction ll with
 |nil=>
  intro s P
  exactλI=>cS (P s [] I (aaq _) (λ_ _ _ e=>e) (λ_ e=>e) n0) λo s' bI=>by obtain⟨t,I',h⟩:=bI;exact⟨t.toB hO,I',h⟩
 |cons b bs ih=>
  intro s P
  exactλI=>cS (P s [] I (aaq _) (λ_ _ _ e=>e) (λ_ e=>e) n0) λo s' bI=>by refine nb λnn=>?_;obtain⟨t,I',v,h,d,P'⟩:=bI;obtain rfl:=d.EK;exact nn<|⟨t.toB hO,I',h,ih P'⟩
theorem LX.toB{bs:List Bool}(H:LX C Γ vs k e (bs.map .bool)):M7 C Γ vs k e bs:=λA s W G I F=>cS (H A s W G I F) λx aq jy=>by obtain⟨hx,a_,aF,h⟩:=jy;refine⟨hx,a_,aF,λA' hh=>cS (h A' hh) λit av h₂=>?_⟩;obtain⟨a,O,g,D,hit,P,aY,bu,hg,hO,hD,Zy,dk⟩:=h₂;exact⟨a,g,hit,λA'' Fe=>LV.toB (λd hd=>(hO d hd).1) bs (P A'' av D Fe bu (aaq _) (λ_ _ _ e=>e) (λ_ e=>e) dk.hi (λ_ q=>.inl q) λ_ q=>q),aY,bu,hg⟩
end
noncomputable def x_(C:Cx)(k:Nat):acw->MV->MV->Prop
 |[],t,r=>r=t
 |.int b::os,t,r=>∃a,t = .int a/\x_ C k os (.int (a+b)) r
 |.inst x Cc fs::os,t,r=>((∃a,t = .int a)\/∃y rJ fs',t = .inst y rJ fs')/\∃y rJ fs',uR C k .Add t (.inst x Cc fs) (.inst y rJ fs')/\x_ C k os (.inst y rJ fs') r
 |_,_,_=>False
section
variable{C:Cx}{Γ:Gm}{W D D' X X' Z iU Wk O:acq}{s s':Shared}{vs vs' d7:aC}{A:Around}{E:ach}{e:Expr}{v m:MV}{k:Nat}{ms outs:acw}{a:Addr}{g B:Nat}
theorem JL{f:Value}{pos:Pos}{Q:Args->Shared->Prop}(he:starEach [e] Γ.env=[(false,eval e Γ.env)])(h:wpAny (model P0 C.w) A (eval e Γ.env) (λx s'=>Q ⟨[x],[]⟩ s') E s) :
 wpAny (model P0 C.w) A (evalArgs f true (backTo pos (starEach [e] Γ.env)) []) Q E s:=by
 have hr:wpAny (model P0 C.w) A (spliced (backTo pos (starEach [e] Γ.env))) (λvals s'=>Q ⟨vals,[]⟩ s') E s:=
  acf (aaQ h (λx s' q=>wpAny_items_nil q) λ_ _ x=>x) he
 rw[he] at hr ⊢;exact evalArgs_plain hr
theorem jk{id:Str}{p pos:Pos}{f:Value}{Q:ach}(Hf:Ev C Γ vs (.Name id p) (.bZ f))(hk:jJ C.K f=true)(he:starEach [e] Γ.env=[(false,eval e Γ.env)])(G:Good Γ.k A)(I:Inv C s)(F:Fm C Γ W s.heap vs)
 (h:∀aq,bL C [] s aq->Inv C aq->Fm C Γ W aq.heap vs->wpAny (model P0 C.w) A (eval e Γ.env) (λx av=>Inv C av/\wpAny (model P0 C.w) A (call f [x]) Q E av) E aq):wpAny (model P0 C.w) A (eval (.Call (.Name id p) [e] [] pos) Γ.env) Q E s:=
 wpAny_Call_ofName (Hf.use G I F λa aq bx a_ aF aU=>by obtain⟨q,hs⟩:=bx.oZ;cases q.symm;exact eO (by refine rl he ?_;rfl) (JL he (aaQ (h aq a_ aF aU) (λx av ⟨bu,q⟩=>⟨cQ hk av (W++Γ.Do) f bu (.bZ f hs),q⟩) λ_ _ x=>x)))
theorem wu{fn:Str}{p pos:Pos}{bs:List Bool}(Hf:Ev C Γ vs (.Name fn p) (.bZ (.builtin "all")))(He:M7 C Γ vs k e bs)(hk:k+3<=Γ.k)(he:C_ e=true:=by rfl) :
 Ev C Γ vs (.Call (.Name fn p) [e] [] pos) (.bool (bs.all id)):=λA s W G I F=>
 jk Hf J (xO he) G I F λaq a_ aF aU=>cS (He A aq W G aF aU) λx av ⟨hx,aY,bu,h⟩=>⟨bu,by refine call_function_tree PySem.F.kind_all PySem.F.plain_all PySem.F.entry_all (PySem.F.args_all1 _) ?_;unfold Builtin.«all»;refine aal (m:=oneArg "all" _) (aat ?_);refine aal (cS (h A.in1 G.handled) λit bH bI=>?_);obtain⟨a,g,hit,P,cW,ez,hg⟩:=bI;subst hit;refine aat ⟨plainId_quiet PySem.F.plain_all_loop _,abm (JK bs ez (P A.in1 (Good.in1 (G.le (by exact Y4 hk))))) λr fF ⟨hr,jh,jZ⟩=>?_⟩;subst hr;exact⟨.bool _,a_.then (rI.back cW jh (aaq _) hg),jZ⟩⟩
theorem JM{op:Operator}{m₁ m₂:MV}(H:uR C k op m₁ m₂ v){x y:Value}(G:Good k A)(I:Inv C s)(dk:lg C D s.heap)(bx:Den s.heap D x m₁)(bG:Den s.heap D y m₂){Q:ach}(h:∀r s',nj C D s v r s'->Q r s'):wpAny (model P0 C.w) A (binaryOp op x y) Q E s:=cS (H A s D x y G I dk bx bG) h
theorem Dp{S:Addr}{f:Obj->Obj}(I:Inv C s)(hS:C.H.objs.size<=S):bL C [S] s {s with heap:=s.heap.update S f}/\Inv C {s with heap:=s.heap.update S f}:=by
 have hk:Kept [S] s.heap (s.heap.update S f):=λb o hb e=>(Heap.get?_update_other _ _ (λh:S=b=>hb (h▸.head _))).trans e;have hz:s.heap.objs.size<=(s.heap.update S f).objs.size:=by exact rl (Heap.size_update ..) ((aaq _))
 exact⟨⟨hz,λb o hb e=>hk b o (λq=>hb (aah _ q)) e,λ_ _ e=>e⟩,I.step (tk:=s.toks) hz hk (m1 (hS))⟩
inductive JN(C:Cx)(g:Nat)(S:Addr)(O D:acq)(r:MV)(s:Shared)(q:Result)(s':Shared):Prop
 |mk {x:Value}:q = .ok (.ret x)->Den s'.heap D x r->ku C g (S::O) s s'->Inv C s'->JN C g S O D r s q s'
noncomputable def M8(C:Cx)(A:Around)(P:Result->Shared->Prop)(fin:Fin)(s':Shared):Prop:=match fin with |.done f=>P (.ok f) s' |.again c'=>c'.quiet=true/\codeAny (model P0 C.w) A c' P s'
noncomputable def FinE(P:Result->Shared->Prop)(e:Value)(s':Shared):Prop:=P (.error e) s'
noncomputable def pC(a S:Addr)(st:Int):Code:=.builtin "sum.loop" ⟨[.ref a,.ref S,rawInt st,rawInt 0],[]⟩
noncomputable def lG(S:Addr)(y:Value)(s:Shared):Prop:=∃c,s.heap.get? S=some {cls:=.type "list",data:=.seq #[y] c}
noncomputable def Br(C:Cx)(A:Around)(P:Result->Shared->Prop)(a S:Addr)(D:acq)(aq:Shared)(tot':MV)(next:Int):Prop:=
 ∀{y:Value}{av bH:Shared},bL C [] aq av->Inv C av->Den av.heap D y tot'->bL C [S] av bH->Inv C bH->lG S y bH->codeAny (model P0 C.w) A (pC a S next) P bH
noncomputable def pD(a S:Addr)(tv x:Value)(nx:Value->Int):Sem Fin:=do
 match <- (holding [x] (binaryOp .Add tv x)).attempt with
 |.ok r=>updateSeq S λ_=>#[r];letGo [tv,x];(do updateSeq S λ_=>#[r];again (pC a S (nx r)):Sem Fin)
 |.error e=>updateSeq S λ_=>#[];letGo [tv,x] [e];throw e
noncomputable def Bs(a S:Addr)(i:Int):Sem Fin:=do
 let v <- mkInt i
 updateSeq S λ_=>#[v]
 again (pC a S 0)
theorem wz{y y':Value}{S:Addr}(hS:lG S y' s)(I:Inv C s)(hH:C.H.objs.size<=S){R:Unit->Shared->Prop}(h:∀s',bL C [S] s s'->Inv C s'->lG S y s'->R () s'):wpAny (model P0 C.w) A (updateSeq S λ_=>#[y]) R E s:=by refine nb λnn=>?_;obtain⟨c,hS⟩:=hS;obtain⟨u,aa⟩:=Dp (f:=Obj.mapSeq λ_=>#[y]) I hH;exact nn<|wpAny_updateSeq hS J (h _ u aa ⟨_,ab9 (Obj.mapSeq λ_=>#[y]) hS J⟩)
theorem mP{P:Result->Shared->Prop}{S:Addr}{o tot tot':MV}{tv x:Value}{nx:Value->Int}(Xc:∀y h,Den h D y tot'->nx y=2)(HO:uR C k .Add tot o tot')(G:Good k A.in1)(I:Inv C s)(dk:lg C D s.heap)(dt:Den s.heap D tv tot)(d:Den s.heap D x o)(hS:lG S tv s)(nt:S∉C.tabs)(hH:C.H.objs.size<=S)
 (K:Br C A P a S D s tot' 2):wpAny (model P0 C.w) A.in1 (pD a S tv x nx) (M8 C A P) (FinE P) s:=by
 refine aal (wpAny_attempt (abL (JM HO G I dk dt d λy av bI=>?_)));refine nb λnn=>?_;obtain⟨dy,aY,bu⟩:=bI;have Qj:lG S tv av:=hS.imp λc e=>aY.keep S _ (λq=>(aag.mp q).elim (λz=>nomatch z) nt) e;refine nn<|aal (wz Qj bu hH λbH u₁ M9 ya=>aal (wpAny_letGo (aal (wz ya M9 hH λfF u₂ Xd Qk=>?_))))
 refine rl (Xc y _ dy) ?_;exact aat ⟨plainId_quiet ab3 _,K aY bu dy (u₁.eS u₂) Xd Qk⟩
theorem Ff{P:Result->Shared->Prop}{S:Addr}{i:Int}{tv:Value}(I:Inv C s)(hS:lG S tv s)(hH:C.H.objs.size<=S)(K:Br C A P a S D s (.int i) 0):wpAny (model P0 C.w) A.in1 (Bs a S i) (M8 C A P) (FinE P) s:=
 aal (wpAny_mkInt (aal (wz (s:={s with toks:=s.toks+1}) hS (tok_inv I _) hH λbH u₁ M9 ya=>aat ⟨plainId_quiet ab3 _,K (tok_stp _) (tok_inv I _) (.int _ _) u₁ M9 ya⟩)))
theorem Dq(a S:Addr):∃K:Value->Int->Option Value->Sem Fin,
 (∀{A:Around}{P:Result->Shared->Prop}{s:Shared}{tv:Value}{st:Int}{Q:Option Value->Shared->Prop},lG S tv s->wpAny (model P0 C.w) A.in1 (pyNext (.ref a)) Q ig s->(∀o s',Q o s'->wpAny (model P0 C.w) A.in1 (K tv st o) (M8 C A P) (FinE P) s')->codeAny (model P0 C.w) A (pC a S st) P s)/\
 (∀i t st,K (.int i t) st none=pure (.done (.ret (.int i t))))/\(∀b st,K (.ref b) st none=pure (.done (.ret (.ref b))))/\
 (∀i t j u,∃(b:Bool)(r:String),K (.int i t) 0 (some (.int j u))=if b=true then Bs a S (i+j) else(do rule r;pD a S (.int i t) (.int j u) λ_=>2))/\
 (∀i t y,∃(r:String)(nx:Value->Int),(∀z,nx (.ref z)=2)/\K (.int i t) 0 (some (.ref y))=(do rule r;pD a S (.int i t) (.ref y) nx))/\
 (∀i t y,K (.int i t) 2 (some y)=pD a S (.int i t) y λ_=>2)/\
 (∀b st y,K (.ref b) st (some y)=pD a S (.ref b) y λ_=>2):=by
 apply Exists.intro;refine⟨λ{A P s tv st Q} hS hn h=>?_,?_⟩
 .obtain⟨c,hS⟩:=hS
  refine codeAny_builtin PySem.F.entry_sum_loop ?_;refine rl (Around.under_plainId ab3 _) ?_;show wpAny _ A.in1 (seqItems? (.ref S)>>=_) _ _ s;refine aal (wpAny_seqItems hS J ?_);show wpAny _ A.in1 (tryCatch (pyNext (.ref a)) _>>=_) _ _ s;exact aal (wpAny_tryCatch (cS hn h))
 .exact⟨λ_ _ _=>rfl,λ_ _=>rfl,λ_ _ _ _=>⟨_,_,J⟩,λ_ _ _=>⟨_,_,λ_=>rfl,J⟩,λ_ _ _=>rfl,λ_ _ _=>rfl⟩
theorem JO{S:Addr}{r:MV}(Ql:S∉O)(hB:B<=S)(hH:C.H.objs.size<=S):∀(outs:acw){D:acq}{s sP:Shared}{A:Around}{tot:MV}{tv:Value}{st:Int}{N:acq},x_ C k outs tot r->Good (k+3) A->Inv C s->sY C D (S::O) s.heap->(∀d∈O,d∈D)->S∈D->
 LV C A.in1 a g B O D outs sP->sP.heap.objs.size<=s.heap.objs.size->Kept (N++C.tabs) sP.heap s.heap->(∀x,sP.gens[g]?=some x->s.gens[g]?=some x)->(∀d∈N,d=S)->
 (st=0/\(∃i,tot = .int i)\/st=2/\((∃i,tot = .int i)\/∃y Cc fs,tot = .inst y Cc fs))->
 lG S tv s->Den s.heap D tv tot->codeAny (model P0 C.w) A (pC a S st) (JN C g S O D r s) s:=by
 refine nb λnn=>?_;obtain⟨K,hK,hn1,hn2,hs1,hs2,SN,hs4⟩:=Dq (C:=C) a S;refine nn ?_;intro outs
 induction outs with
 |nil=>
  intro D s sP A tot tv st N HS G I dk hO I_ P z1 z2 z3 hN ht hS dt;have JP:r=tot:=HS;subst JP;refine hK hS (P s N I z1 z2 z3 (λd hd=>by exact rl (hN d hd) (⟨hB,I_,Ql⟩))) λo s' bI=>?_;obtain⟨t,I',h⟩:=bI;subst h;have Fi:Den s'.heap D tv r:=dt.kept (D':=D) t.keep (λd hd=>(aag.mp hd).elim (hO d) (dk.tabs d)) (λ_ q=>.inl q);have t':ku C g (S::O) s s':=t.weak (λ_ q=>.tail _ q);have hv:(∃i t,tv = .int i t)\/∃b,tv = .ref b:=by
   refine nb λnn=>?_;rcases ht with⟨_,i,rfl⟩ |⟨_,⟨i,rfl⟩ |⟨y,Cc,fs,rfl⟩⟩
   .cases dt.eL;exact nn<|.inl ⟨_,_,J⟩
   .cases dt.eL;exact nn<|.inl ⟨_,_,J⟩
   .cases dt.eU;exact nn<|.inr ⟨_,J⟩
  rcases hv with⟨i,tt,rfl⟩ |⟨b,rfl⟩
  .rw[hn1];exact aat (.mk J Fi t' I')
  .rw[hn2];exact aat (.mk J Fi t' I')
 |cons o os ih=>
  intro D s sP A tot tv st N HS G I dk hO I_ P z1 z2 z3 hN ht hS dt;refine hK hS (P s N I z1 z2 z3 (λd hd=>by exact rl (hN d hd) (⟨hB,I_,Ql⟩))) λo' aq bI=>?_;obtain⟨t,aF,x,ho,d,P'⟩:=bI;subst ho;have nt:S∉C.tabs:=aX I hH;have uU:lG S tv aq:=hS.imp λc e=>t.keep S _ (λq=>(aag.mp q).elim Ql nt) e;have Fi:Den aq.heap D tv tot:=dt.kept (D':=D) t.keep (λd hd=>(aag.mp hd).elim (hO d) (dk.tabs d)) (λ_ q=>.inl q);have t':ku C g (S::O) s aq:=t.weak (λ_ q=>.tail _ q);have uV:=dk.dJ I t';have go:∀{tot':MV}{next:Int},x_ C k os tot' r->(next=0/\(∃i,tot' = .int i)\/next=2/\((∃i,tot' = .int i)\/∃y Cc fs,tot' = .inst y Cc fs))->Br C A (JN C g S O D r s) a S D aq tot' next:=by
   intro tot' next JP ht' y av bH aY bu dy cW ez ya
   have wA:ku C g (S::O) aq bH:=((aY.toG (g:=g)).weak n0).trans ((cW.toG (g:=g)).weak (m1 (.head _)));have Qm:Den bH.heap D y tot':=dy.kept (D':=D) cW.keep (λd hd=>(aag.mp hd).elim (λq=>by exact rl (aam.mp q) I_) (dk.tabs d)) (λ_ q=>.inl q);refine abm (ih (N:=[S]) JP G ez (uV.dJ aF wA) hO I_ P' wA.size (λb o hb e=>?_) (λx e=>cW.gens g x (aY.gens g x e)) (λd hd=>aam.mp hd) ht' ya Qm) λq s' bI=>?_
   .exact cW.keep b o hb (aY.keep b o (λq=>hb (aad _ ((aag.mp q).elim (λz=>nomatch z) λz=>z))) e)
   .cases bI with |mk h1 h2 h3 h4=>exact .mk h1 h2 ((t'.trans wA).trans h3) h4
  have G1:Good k A.in1:=G.in1.le (by exact TY);cases o with
  |int b=>
   obtain⟨i,rfl,JP⟩:=HS;cases d.eL with |mk tb=>
   cases Fi.eL with |mk ti=>
   rcases ht with⟨rfl,_⟩ |⟨rfl,_⟩
   .refine nb λnn=>?_
    obtain⟨bb,rr,e⟩:=hs1 i ti b tb;refine nn ?_;refine rl e ?_;split
    .exact Ff aF uU hH (go JP (.inl ⟨J,_,J⟩))
    .exact aal (abR (mP (λ_ _ _=>rfl) (fy i b) G1 aF uV.mw Fi d uU nt hH (go JP (.inr ⟨J,.inl ⟨_,J⟩⟩))))
   .rw[SN]
    exact mP (λ_ _ _=>rfl) (fy i b) G1 aF uV.mw Fi d uU nt hH (go JP (.inr ⟨J,.inl ⟨_,J⟩⟩))
  |inst x? Cc fs=>
   obtain⟨Xe,y,rJ,fs',HO,JP⟩:=HS;have gg:Br C A (JN C g S O D r s) a S D aq (.inst y rJ fs') 2:=go JP (.inr ⟨J,.inr ⟨_,_,_,J⟩⟩);cases d.eU with |mk x dx es n vals ex hi nx nd df=>
   rcases Xe with⟨i,rfl⟩ |⟨y',aaa,aab,rfl⟩
   .cases Fi.eL with |mk ti=>
    refine nb λnn=>?_;rcases ht with⟨rfl,_⟩ |⟨rfl,_⟩
    .obtain⟨rr,nx,Xc,e⟩:=hs2 i ti x
     refine nn ?_;refine rl e ?_;exact aal (abR (mP (λy h d=>by cases d.eU;exact Xc _) HO G1 aF uV.mw Fi d uU nt hH gg))
    .refine nn ?_
     rw[SN];exact mP (λ_ _ _=>rfl) HO G1 aF uV.mw Fi d uU nt hH gg
   .cases Fi.eU with |mk x dx es n vals ex hi nx nd df=>
    rw[hs4];exact mP (λ_ _ _=>rfl) HO G1 aF uV.mw Fi d uU nt hH gg
  |_=>exact HS.elim
end
section
variable{M:Model}{A:Around}{E:ach}{s:Shared}
theorem Qn{α:Type}{c:Prop}[Decidable c]{a b:Sem α}{Q:α->Shared->Prop}(hc:¬c)(H:wpAny M A b Q E s):wpAny M A (if c then a else b) Q E s:=by exact rl (aaD hc) H
theorem JQ{α:Type}{f:α->PUnit->Sem (ForInStep PUnit)}{Q:PUnit->Shared->Prop}(H:Q ⟨⟩ s):wpAny M A (forIn [] PUnit.unit f) Q E s:=aat H
theorem sZ{α:Type}{a:α}{l:List α}{b:Sem Bool}{X:Sem (ForInStep PUnit)}{f:α->PUnit->Sem (ForInStep PUnit)}{Q:PUnit->Shared->Prop}(hf:∀u:Unit,f a PUnit.unit=(do let r <- b;if r=true then X else pure (.yield PUnit.unit)))
 (hi:∀Q':Bool->Shared->Prop,Q' false s->wpAny M A b Q' E s) (H:wpAny M A (forIn l PUnit.unit f) Q E s):wpAny M A (forIn (a::l) PUnit.unit f) Q E s:=by
 refine rl (List.forIn_cons ..) (rl (hf () ..) ?_);exact aal (aal (hi _ (aat H)))
end
section
variable{C:Cx}{Γ:Gm}{W D D' X X' Z iU Wk O:acq}{s s':Shared}{vs vs' d7:aC}{A:Around}{E:ach}{e:Expr}{v m:MV}{k:Nat}{ms outs:acw}{a:Addr}{g B:Nat}
theorem wB{fn:Str}{p pos:Pos}{r:MV}(Hf:Ev C Γ vs (.Name fn p) (.bZ (.builtin "sum")))(He:LX C Γ vs k e outs)(HS:x_ C k outs (.int 0) r)(hk:k+3<=Γ.k)(he:C_ e=true:=by rfl) :
 Ev C Γ vs (.Call (.Name fn p) [e] [] pos) r:=λA s W G I F=>
 jk Hf J (xO he) G I F λaq a_ aF aU=>cS (He A aq W G aF aU) λx av ⟨hx,aY,bu,h⟩=>⟨bu,by
  refine call_function_tree PySem.F.kind_sum PySem.F.plain_sum PySem.F.entry_sum (PySem.F.args_sum1 _) ?_;delta Builtin.«sum»;dsimp only;refine Qn (c:=[x].length+([]:aci).length>2) (show¬(1>2) by decide) ?_;refine aal (wpAny_of_eq (show Builtin.Builtins.bindParams "sum" ["start"] 0 {}=pure [none] from rfl) ?_);refine aal (cS (h A.in1 G.handled) λit bH bI=>?_);obtain⟨a,O,g,D,hit,P,cW,ez,hg,hO,hD,Zy,dk⟩:=bI;subst hit;refine aal (wpAny_mkInt ?_);refine aal (aat ?_);refine aal (sZ (λ_=>rfl) (λ_ h=>wpAny_isInstance (T:="int") (b:=false) (typeIs_int _ _ _) PySem.sub_int_str h) (sZ (λ_=>rfl) (λ_ h=>wpAny_isInstance (T:="int") (b:=false) (typeIs_int _ _ _) PySem.sub_int_bytes h) (sZ (λ_=>rfl) (λ_ h=>wpAny_isInstance (T:="int") (b:=false) (typeIs_int _ _ _) PySem.sub_int_bytearray h) (JQ ?_))));refine aal (wpAny_newObj_type ?_);have hlt:∀d∈O,d<bH.heap.objs.size:=λd hd=>dk.hi d (hO d hd).2;have Ql:bH.heap.objs.size∉O:=λq=>aa8 _ (hlt _ q);have SN:aq.heap.objs.size<=bH.heap.objs.size:=cW.size;let fF:Shared:={bH with heap:=bH.heap.push {cls:=.type "list",data:=.seq #[.int 0 bH.toks]},toks:=bH.toks+1};have jZ:Inv C fF:=ez.step (h':=bH.heap.push {cls:=.type "list",data:=.seq #[.int 0 bH.toks]}) (W:=[]) (by exact rl (aaI ..) ((aa0 _))) (f_ _ _) n0;have sz:fF.heap.objs.size=bH.heap.objs.size+1:=aaI _ _;have gr:∀b o,bH.heap.get? b=some o->fF.heap.get? b=some o:=λb o e=>aaW _ e;have LY:sY C (bH.heap.objs.size::D) (bH.heap.objs.size::O) fF.heap:=dk.grow gr (λd hd=>.tail _ (dk.tabs d hd)) (sz▸LO (aaS _) λd q=>aa5 (dk.hi d q)) (LO (.inr (aaq _)) λd q=>.inl q);have hH:C.H.objs.size<=bH.heap.objs.size:=ez.size;refine aat ⟨plainId_quiet ab3 _,abm (JO (N:=[]) (S:=bH.heap.objs.size) Ql (aaq _) hH outs HS (G.le hk) jZ LY (λd hd=>.tail _ (hO d hd).2) (.head _) (P A.in1 fF _ (Good.in1 (G.le (by exact Y4 hk))) jZ (by exact rl sz ((aa0 _))) (λb o _ e=>gr b o e) (λ_ e=>e) LY.hi (LO (.inr (aaq _)) λd q=>.inl q) (λd hd=>.tail _ hd)) (aaq _) (λ_ _ _ e=>e) (λ_ e=>e) n0 (.inl ⟨J,0,J⟩)
   ⟨_,aa4 _ J⟩ (.int _ _)) λq gG bI=>?_⟩
  cases bI with |mk hq d t pg=>
  subst hq;refine⟨d.kept (h:=gG.heap) (W:=[]) (λ_ _ _ e=>e) n0 (λd hd=>.inl (.tail _ (Zy d hd))),?_,pg⟩;have jh:bL C [] aq fF:=cW.then (bL.heap (s:=bH) (tk:=bH.toks+1) (by exact rl (aaI ..) ((aa0 _))) (λb o _ e=>aaW _ e));exact a_.then (ku.back jh t (LO SN λd q=>(hO d q).1) hg)⟩
end
section
variable{C:Cx}{Γ:Gm}{W D D' X X' Z iU Wk O:acq}{s s':Shared}{vs vs' d7:aC}{A:Around}{E:ach}{e:Expr}{v m:MV}{k:Nat}{ms outs:acw}{a:Addr}{g B:Nat}
theorem Fj{it l:Addr}{items:aco}{n:Nat}(hlo:C.H.objs.size<=it)(kI:it≠l)(h3:l∉D)(h4:it∈D)(h5:∀d∈C.tabs,d∈D):∀(ms:acw){s:Shared}{i:Nat},s.heap.IsListIter it l i->s.heap.get? l=some {cls:=.type "list",data:=.seq items n}->bD s.heap D (items.toList.drop i) ms->A.handled=none->LV C A it g B [it] D ms s:=by
 have kept:∀{N:acq}{s aq:Shared}{i:Nat}{ms:acw},s.heap.IsListIter it l i->s.heap.get? l=some {cls:=.type "list",data:=.seq items n}->bD s.heap D (items.toList.drop i) ms->
  Inv C aq->Kept (N++C.tabs) s.heap aq.heap->(∀d∈N,B<=d/\d∈D/\d∉[it])->
  aq.heap.IsListIter it l i/\aq.heap.get? l=some {cls:=.type "list",data:=.seq items n}/\bD aq.heap D (items.toList.drop i) ms:=by
  intro N s aq i ms h1 h2 h6 aF hk hN;have sub:∀d∈N++C.tabs,d∈D:=λd hd=>(aag.mp hd).elim (λq=>(hN d q).2.1) (h5 d);exact⟨kK hk h1 (λq=>(aag.mp q).elim (λq=>(hN it q).2.2 (.head _)) (aX aF hlo)),hk l _ (λq=>h3 (sub l q)) h2,h6.kept hk sub (λ_ q=>.inl q)⟩
 intro ms
 induction ms with
 |nil=>
  intro s i h1 h2 h6 hh aq N I z1 z2 z3 z4;obtain⟨a1,a2,a4⟩:=kept h1 h2 h6 I z2 z4;exact jz.done (lo:=C.H.objs.size) (X:=D) (.list a1 a2 h3 a4 hlo kI) hh I (aaq _) λs' t I'=>⟨t.toG,I',J⟩
 |cons m ms ih=>
  intro s i h1 h2 h6 hh aq N I z1 z2 z3 z4;refine nb λnn=>?_;obtain⟨a1,a2,a4⟩:=kept h1 h2 h6 I z2 z4;refine nn ?_;generalize hdr:items.toList.drop i=dr at a4;refine nb λnn=>?_;cases a4 with
  | @cons va _ vr _ d1 d2=>
   obtain⟨g1,g2⟩:=xW hdr;refine nn<|wpAny_pyNext_list_item a1 ⟨_,a2,J,n,J⟩ (by simpa using g1) λh' b1 b2=>?_
   have kp:Kept [it] aq.heap h':=gK b2;have sub:∀z∈[it],z∈D:=m1 (h4);refine⟨(bL.heap (tk:=aq.toks) (aa1 b2.1.symm) kp).toG,I.same (tk:=aq.toks) b2 hlo,va,J,d1.kept kp sub (λ_ q=>.inl q),ih (s:={aq with heap:=h'}) b1 ((b2.2 l (abw kI)).trans a2) ?_ ?_⟩
   .refine rl g2 ?_
    exact d2.kept kp sub (λ_ q=>.inl q)
   .exact hh
theorem s8(H:Ev C Γ vs e (.lst ms)):LX C Γ vs k e ms:=λA s W G I F=>
 H.use G I F λx aq bx a_ aF aU=>by
  cases bx.jW with
  |mk b items n hg na ds=>
   refine⟨J,a_,aF,λA' hh=>wpAny_pyIter_list ⟨_,hg,J,n,J⟩ ?_⟩;have alt:b<aq.heap.objs.size:=aaB hg;have nz:aq.heap.objs.size≠b:=abw (abb alt);have mem:∀{d},d∈aq.heap.objs.size::(W++Γ.Do)->d∈W++Γ.Do\/aq.heap.objs.size<=d:=λ{d} hd=>LO (P:=λd=>d∈W++Γ.Do\/aq.heap.objs.size<=d) (.inr (aaq _)) (λd q=>.inl q) d hd;refine⟨aq.heap.objs.size,[aq.heap.objs.size],s.gens.size,aq.heap.objs.size::(W++Γ.Do),J,λA'' av D₁ Fe bu z1 z2 z3 z4 z5 z6=>Fj aF.size nz (λq=>(z5 b q).elim (λq=>(mem q).elim na λz=>absurd alt (aaw.mpr z)) λz=>absurd (aaB (aaW _ hg)) (aaw.mpr z)) (z6 _ (.head _)) (λd hd=>z6 d (.tail _ (aU.cj d hd))) ms (i:=0) (n:=n) (items:=items) (kK z2 (⟨_,aa4 _ J,J,J⟩:Heap.IsListIter _ aq.heap.objs.size b 0) (aX aF aF.size)) (z2 b _ (λq=>na (aU.cj b q)) (aaW _ hg)) ?_ Fe.handled,
    a_.then (iu _),iw aF _,aaq _,sy ⟨a_.size,.head _⟩,λd hd=>?_,λd hd=>.tail _ hd,?_⟩
   .refine rl ab0 ?_
    exact(ds.kept (D':=aq.heap.objs.size::(W++Γ.Do)) (W:=[]) (f_ _ _) n0 λd hd=>mem hd).kept z2 (λd hd=>.tail _ (aU.cj d hd)) z5
   .exact(mem hd).imp_right λz=>aaf a_.size z
   .refine nb λnn=>?_
    obtain⟨mm,hn,_⟩:=aU.ns;refine nn<|⟨λd hd=>.tail _ (aU.cj d hd),λd hd=>?_,Γ.env.locals,mm,aU.lo _ aU.lW,λq=>?_,hn.push _⟩
    .show d<(aq.heap.push _).objs.size
     refine rl (aaI ..) ?_;cases hd with
     |head=>exact aaS _
     |tail _ q=>exact aa5 (aU.hi d q)
    .have hq:=aU.hi _ (aah _ aU.lW)
     replace hq:=(aam.mp q)▸hq;exact aa8 _ hq
end
section
variable{C:Cx}{Γ:Gm}{W D D' X X' Z iU Wk O:acq}{s s':Shared}{vs vs' d7:aC}{A:Around}{E:ach}{e:Expr}{v m:MV}{k:Nat}{ms outs:acw}{a:Addr}{g B:Nat}
theorem Inv.code{c P:Addr}(I:Inv C s)(hq:(c,P)∈C.T){h':Heap}{tk:Nat}{ps':aco}(hx:Heap.ExtBut P s.heap h')(hs:s.heap.objs.size<=h'.objs.size)(h1:h'.IsCode c P ps')(h2:h'.TableAt c P ps'):Inv C {s with heap:=h',toks:=tk}:=by
 have hP:P∈C.tabs:=aan.mpr ⟨_,hq,J⟩;refine⟨I.ok,aaf I.size hs,λb o hb e=>hx b o (λq=>hb (q▸hP)) (I.old b o hb e),λq hq'=>?_,I.bare,I.os⟩;by_cases e:q.2=P
 .have e1:q.1=c:=I.ok.inj q hq' (c,P) hq e
  exact⟨ps',by exact rl e (rl e1 h1),by exact rl e (rl e1 h2)⟩
 .obtain⟨o,_,_,t1,t2,_,_⟩:=(I.tab q hq').objs
  obtain⟨_,_,_,_,_,_,u5⟩:=(I.tab (c,P) hq).objs;have n1:q.1≠P:=λz=>by replace t1:=z▸t1;cases(show some o=_ from t1.symm.trans u5);cases t2
  exact(I.tab q hq').move (λo e=>hx _ _ n1 e) λo i=>hx _ _ e i
theorem Fo{env:Env}{c P:Addr}{pos:Pos}{qn:Str}{scope:Scope}{Q:ach}(hc:env.code = .ref c)(hq:(c,P)∈C.T)(I:Inv C s)(h:∀c' s',bL C [] s s'->Inv C s'->s'.gens=s.gens->Q c' s') :
 wpAny (model P0 C.w) A (genexprCode env pos qn scope) Q E s:=by
 refine nb λnn=>?_;obtain⟨ps,h1,h2⟩:=I.tab (c,P) hq;have hP:P∈C.tabs:=aan.mpr ⟨_,hq,J⟩;cases hf:codeAmong pos ps.toList with
 |some c'=>exact nn<|wpAny_genexprCode_hit hc h1 hf (h c' s (bL.refl _ _ _) I J)
 |none=>
  refine nn<|wpAny_genexprCodeX hc h1 h2 hf λc' h' tk hx l1 l2 i1 _ i2 _=>?_
  have hs:s.heap.objs.size<=h'.objs.size:=aaf l1 (aaO l2);exact h _ _ ⟨hs,λb o hb e=>hx b o (λq=>hb (by exact rl q ((aad _ hP)))) e,λ_ _ e=>e⟩ (I.code hq hx hs i1 i2) J
theorem wC{running:Addr}{Q:Addr->Shared->Prop}(I:Inv C s)(h:Q builtinsNs s):wpAny (model P0 C.w) A (builtinsFor mainGlobals running) Q E s:=by
 refine nb λnn=>?_;obtain⟨bm,ob,h1,h2,h3,h4,h5,h6⟩:=I.ok.bmain;refine nn<|wpAny_builtinsFor I.top.g h1 h2 (I.old bm ob (λq=>?_) h3) h4 h5 h6 h
 obtain⟨q',hq,rfl⟩:=aan.mp q;obtain⟨_,t0⟩:=I.ok.code q' hq;replace h3:=t0.2▸h3;cases h3;cases h4
theorem Fm.gen{scope:Scope}{code:Value}{L:Addr}{h':Heap}{it:Value}(F:Fm C Γ W s.heap vs)(I:Inv C s)(hc:ic scope=true)(hcl:gI scope Γ.env vs=true)(hnd:(vs.map (·.1)).Nodup)(hcell:∀y∈scope.names,y.2≠.cell){av:Shared}(t:bL C [] s av)
 (hL:L=av.heap.objs.size) (hn:h'.Ns L (λy=>if y=".0" then some it else none)) (hs:Heap.SameBut L (av.heap.push {cls:=.type "frame",data:=.dict #[]}) h') {kk:Nat}
 (Qg:∀d∈W++Γ.Do,d∈iU) (M3:∀d∈iU,d∈W++Γ.Do\/s.heap.objs.size<=d) (hhi:∀d∈iU,d<h'.objs.size) :
 Fm C ⟨kk,genEnv scope (gU Γ.env scope.names []) L code builtinsNs Γ.env,[],iU⟩ [L] h' (iA scope vs):=by
 simp only[ic,Bool.and_eq_true,beq_iff_eq,decide_eq_true_eq] at hc;obtain⟨hk,kj⟩:=hc;have hfree:∀p∈scope.names,p.2 = .free->∃st,vs.lookup p.1=some st/\(Γ.env.kindOf p.1=some .cell\/Γ.env.kindOf p.1=some .free):=λp hp hf=>by
  have z:=abq.mp hcl p hp;simp only[Bool.or_eq_true,bne_iff_ne,ne_eq,Bool.and_eq_true,beq_iff_eq] at z;rcases z with z |⟨z1,z2⟩
  .exact absurd hf z
  .obtain⟨st,hst⟩:=aa_.mp z1
   exact⟨st,hst,z2⟩
 have wm:∀p∈scope.names,p.2 = .free->∃c,Γ.env.cells.lookup p.1=some c:=λp hp hf=>by obtain⟨st,h1,h2⟩:=hfree p hp hf;obtain⟨c,a,h3,_⟩:=F.cell p.1 st h1 h2;exact⟨c,h3⟩
 have sU:∀{x c},(x,c)∈gU Γ.env scope.names []->scope.names.lookup x=some .free/\Γ.env.cells.lookup x=some c:=λ{x c} hm=>by rw[nC,aaU,ab1] at hm;obtain⟨p,hp,e⟩:=aan.mp hm;obtain⟨hp1,hp2⟩:=aaG.mp hp;cases e;have z7:p.2 = .free:=aa3.mp hp2;obtain⟨c,hc⟩:=wm p hp1 z7;exact⟨gy kj (by exact rs z7 hp1),by refine rl hc ?_;rfl⟩
 have look:∀{x c},(gU Γ.env scope.names []).lookup x=some c->scope.names.lookup x=some .free/\Γ.env.cells.lookup x=some c:=λe=>sU (mem_of_lookup e);have E8:∀{x c},scope.names.lookup x=some .free->Γ.env.cells.lookup x=some c->(gU Γ.env scope.names []).lookup x=some c:=λ{x c} h1 h2=>by
  have hm:x∈(gU Γ.env scope.names []).map (·.1):=by rw[nC,aaU,List.map_reverse,ab1,aar];exact aan.mpr ⟨(x,.free),aaG.mpr ⟨mem_of_lookup h1,J⟩,J⟩
  obtain⟨c',jV⟩:=cX hm;have:=(sU (mem_of_lookup jV)).2;replace this:=h2▸this;cases this;exact jV
 have sz:h'.objs.size=av.heap.objs.size+1:=by exact rl hs.1 (rl (aaI ..) J)
 have kp:Kept C.tabs s.heap h':=λb o hb e=>by have e2:=t.keep b o (by simpa using hb) e;exact hs.extBut b o (λq=>absurd (aaB e2) (by exact rl q (rl hL ((aa8 _))))) (aaW _ e2)
 have Xf:s.heap.objs.size<=L:=by exact rl hL (t.size)
 have M4:∀d∈[L]++iU,d∈W++Γ.Do\/s.heap.objs.size<=d:=λd hd=>by
  rcases aag.mp hd with q |q
  .exact .inr (by exact rl (aam.mp q) Xf)
  .exact M3 d q
 have JH:∀x c,Γ.env.cells.lookup x=some c->c<s.heap.objs.size:=λx c hc=>F.hi c (F.cI x c hc).1;refine⟨hk,F.glob,J,⟨_,hn,λx st hx hl=>?_⟩,λx st hx hl=>?_,n0,.head _,λd hd=>Qg d (F.cj d hd),λd hd=>?_,λd hd=>?_,λx y c c' hx hy kI=>?_,λx c hx=>?_,λx c hx=>?_,λx st a hx ha=>?_,λx y st jg a hx hy ha hb=>?_⟩
 .refine nb λnn=>?_
  obtain⟨_,h2,_⟩:=dK hnd hx;have hl':scope.names.lookup x=some .local:=hl;replace hl':=h2▸hl';cases hl'
 .refine nb λnn=>?_
  obtain⟨h1,h2,m,rfl⟩:=dK hnd hx;obtain⟨st,hst,hkind⟩:=hfree (x,.free) (mem_of_lookup h2) J;obtain⟨c,a,hc,⟨o,ho,hd⟩,d⟩:=F.cell x (.v m) h1 hkind;have nt:=aX I (F.cI x c hc).2;exact nn<|⟨c,a,E8 h2 hc,⟨o,kp c o nt ho,hd⟩,Den.kept (D:=W++Γ.Do) kp F.cj M4 d⟩
 .exact rl (aam.mp hd) ((aaf I.size Xf))
 .rcases aag.mp hd with q |q
  .exact rl (aam.mp q) (rl sz (rl hL ((aaS _))))
  .exact hhi d q
 .exact F.apart x y c c' (look hx).2 (look hy).2 kI
 .exact⟨aad _ (Qg c (F.cI x c (look hx).2).1),(F.cI x c (look hx).2).2⟩
 .intro q
  have q':c=L:=q;have:=JH x c (look hx).2;replace this:=q'▸this;exact aa8 _ (aao this Xf)
 .refine nb λnn=>?_
  obtain⟨_,_,m,rfl⟩:=dK hnd hx;cases ha
 .obtain⟨_,_,m,rfl⟩:=dK hnd hx
  cases ha
end
inductive Zz(C:Cx)(Γ:Gm)(t elt:Expr)(m:MV)(vs:aC)(out:acw)(K:aC->acw->Prop):Prop
 |mk (fK:aC) (r:MV) (iE:acw):(∀Do,Bd C (cz Γ Do) t m vs fK)->(∀Do,Ev C (cz Γ Do) fK elt r)->out=r::iE->K fK iE->Zz C Γ t elt m vs out K
noncomputable def LZ(C:Cx)(Γ:Gm)(t elt:Expr):acw->aC->acw->aC->Prop
 |[],vs,out,vs'=>out=[]/\vs'=vs
 |m::ms,vs,out,vs'=>Zz C Γ t elt m vs out λfK iE=>LZ C Γ t elt ms fK iE vs'
structure yb(C:Cx)(Γ:Gm)(L:Addr)(Z:acq)(pr:Bool)(it:Value)(D:acq)(vs:aC)(ms:acw)(s:Shared):Prop where
 fm:Fm C (cz Γ D) [L] s.heap vs
 xE:jz C.H.objs.size s.heap D D pr Z it ms
 lD:L∈D
 zD:∀z∈Z,z∈D
 zL:∀z∈Z,z≠L
 zH:∀z∈Z,C.H.objs.size<=z
 zc:∀x c,Γ.env.cells.lookup x=some c->c∉Z
noncomputable def YG(C:Cx)(T af:Shared->Shared->Prop)(full:acw)(D:acq):Protocol:=λm bM v s κ=>
 ∃(St:Shared->Prop)(r:MV),full[full.length-1-m]?=some r/\Den s.heap D v r/\St s/\T bM s/\Inv C s/\(∀s s',St s->af s s'->Inv C s'->St s')/\∀gp,St gp->Inv C gp->κ (.send .none) gp
section
variable{C:Cx}{Γ:Gm}{W D D' X X' Z iU Wk O:acq}{s s':Shared}{vs vs' d7:aC}{A:Around}{E:ach}{e:Expr}{v m:MV}{k:Nat}{ms outs:acw}{a:Addr}{g B:Nat}
 {L:Addr} {pr:Bool} {it:Value} {T af:Shared->Shared->Prop} {full:acw} {R:GenEnd}
theorem yb.change{N:acq}{sI:Shared}(F:yb C Γ L Z pr it D vs ms s)(I:Inv C sI)(hs:s.heap.objs.size<=s'.heap.objs.size)(hk:Kept (N++C.tabs) s.heap s'.heap)(hD:∀d∈N,d∈D)(hL:L∉N)(hZ:∀z∈Z,z∉N)(hc:∀x c,Γ.env.cells.lookup x=some c->c∉N):yb C Γ L Z pr it D vs ms s':=by
 have sub:∀d∈N++C.tabs,d∈D:=λd hd=>(aag.mp hd).elim (hD d) (F.fm.tabs d);refine⟨?_,F.xE.kept hk sub sub (λ_ q=>.inl q) (λ_ q=>.inl q) (λz hz q=>(aag.mp q).elim (hZ z hz) (aX I (F.zH z hz))),F.lD,F.zD,F.zL,F.zH,F.zc⟩;have:=F.fm.change (iU:=D) hk hs (λd hd=>aad _ (sub d hd)) (λd hd q=>?_) (λx c hx q=>?_) (λd hd=>.inl hd) F.fm.tabs (λd hd=>aao (F.fm.hi d (aad _ hd)) hs) (λx c hx=>(F.fm.cI x c hx).1)
 .exact this
 .rw[aam.mp q] at hd
  exact(aag.mp hd).elim hL (aX I (F.fm.lo L (.head _)))
 .exact(aag.mp q).elim (hc x c hx) (aX I (F.fm.cI x c hx).2)
theorem yc{e0 t elt:Expr}{d:Nat}{ipos:Pos}{fs:List Frame}{aa:Shared->Prop}{P:Addr->Prop}{Hd:Value->Sem Unit}{rest:Nat}{mQ:acw}{D₀:acq}(hD₀:∀d∈D₀,d∈D)
 (Dm:(model P0 C.w).den (.compLoop e0 d it .none Γ.env)=(compTurn e0 d it .none Γ.env).onRaise Hd)
 (OX:compTurn e0 d it .none Γ.env=(do
  standAt ipos
  match <- pyNext it with
  |none=>pure (.done .next)
  |some v=>
   letOwnedTupleGo t it v
   assign t Γ.env v
   (do let v <- eval elt Γ.env;standAt elt.pos;let _ <- yieldOut Γ.env v)
   again (.compLoop e0 d it .none Γ.env)))
 (ht:pr=true->∃es x1 p,t = .Tuple es x1 p) (hA:Good Γ.k (A.over (.compLoop e0 d it .none Γ.env) fs)) (hco:Γ.env.scope.isCoroutine=false) (hfs:splitAtGen fs=none) (hgd:fs.any Frame.guarded=false)
 (hT:∀bM s s' Wk,T bM s->bL C Wk s s'->(∀d∈Wk,P d)->T bM s') (Xg:∀s,T s s) (hP:P L/\∀z∈Z,P z)
 (hU:∀s s' vs ms,af s s'->Inv C s'->yb C Γ L Z pr it D vs ms s->yb C Γ L Z pr it D vs ms s')
 (hJ:∀s s' Wk,aa s->Inv C s->bL C Wk s s'->Inv C s'->(∀d∈Wk,d=L\/d∈Z)->aa s') (hJU:∀s s',aa s->af s s'->Inv C s'->aa s')
 (cont:∀bM s,T bM s->Inv C s->Fm C (cz Γ D) [L] s.heap vs'->aa s->Seg (model P0 C.w) A R (YG C T af full D₀) rest bM (.compLoop e0 d it .none Γ.env) (leafOf (.ok .next)) fs s) :
 ∀(ms:acw){vs:aC}{outs:acw}{bM s:Shared},LZ C Γ t elt ms vs outs vs'->yb C Γ L Z pr it D vs ms s->aa s->T bM s->Inv C s->full.drop (full.length-(outs.length+rest))=outs++mQ->outs.length+rest<=full.length->
  Seg (model P0 C.w) A R (YG C T af full D₀) (outs.length+rest) bM (.compLoop e0 d it .none Γ.env) ((model P0 C.w).den (.compLoop e0 d it .none Γ.env)) fs s:=by
 intro ms
 induction ms with
 |nil=>
  intro vs outs bM s H F j tt I iP hle;obtain⟨rfl,rfl⟩:=H;refine rl (Dm ..) (rl (OX ..) (rl (abH ..) ?_));refine aaT (aaY ?_);refine aaT (jz.done F.xE hA.handled I (aaq _) λaq a_ aF=>?_);have ZA:bL C Z s aq:=a_;refine rl (List.length_nil ..) (rl (Nat.zero_add ..) ?_);refine cont bM aq (hT _ _ _ _ tt a_ λz hz=>hP.2 z hz) aF ?_ (hJ _ _ _ j I a_ aF λz hz=>.inr hz);exact Fm.jj (Γ:=cz Γ D) F.fm I a_ F.zD (λz hz q=>F.zL z hz (aam.mp q)) F.zc
 |cons m ms ih=>
  intro vs outs bM s H F j tt I iP hle;obtain⟨fK,r,iE,HB,HE,rfl,HN⟩:=H;refine rl (Dm ..) (rl (OX ..) (rl (abH ..) ?_));refine aaT (aaY ?_);refine aaT (jz.next F.xE F.zD (λd hd=>F.fm.hi d (aad _ hd)) I (aaq _) ht λa aq jy=>?_);refine aaT (cS jy λ_ av bI=>?_);refine nb λnn=>?_;obtain⟨bG,z9,aY,bu⟩:=bI;have bO:Fm C (cz Γ D) [L] av.heap vs:=Fm.jj (Γ:=cz Γ D) F.fm I aY F.zD (λz hz q=>F.zL z hz (aam.mp q)) F.zc;have Xh:=hJ _ _ _ j I aY bu (λz hz=>.inr hz);have Fp:=hT _ _ _ _ tt aY (λz hz=>hP.2 z hz);have Fq:Den av.heap ([L]++D) a m:=bG.kept (h:=av.heap) (W:=[]) (λ_ _ _ e=>e) n0 (λd hd=>.inl ((aag.mp hd).elim (λq=>by exact rl (aam.mp q) (F.lD)) λq=>q));refine nn<|aaT (cS (HB D _ av [L] a hA bu bO Fq) λ_ bH bI=>?_)
  obtain⟨iz,cW,ez⟩:=bI;have ik:∀{Wk:acq}{av bH:Shared},jz C.H.objs.size av.heap D D pr Z it ms->bL C Wk av bH->(∀d∈Wk,d=L)->jz C.H.objs.size bH.heap D D pr Z it ms:=λ{Wk av bH} hi t h1=>by have sub:∀d∈Wk++C.tabs,d∈D:=λd hd=>(aag.mp hd).elim (λq=>by exact rl (h1 d q) (F.lD)) (F.fm.tabs d);exact hi.kept t.keep sub sub (λ_ q=>.inl q) (λ_ q=>.inl q) (λz hz q=>(aag.mp q).elim (λq=>F.zL z hz (h1 z q)) (aX I (F.zH z hz)))
  have sX:=ik z9 cW (λd hd=>aam.mp hd);have Xi:=hJ _ _ _ Xh bu cW ez (λz hz=>.inl (aam.mp hz));have Ft:=hT _ _ _ _ Fp cW (λz hz=>by exact rl (aam.mp hz) (hP.1));have hy:∀v,yieldOut Γ.env v=yieldValue v:=λv=>by simp only[yieldOut,hco,Bool.false_eq_true,if_false]
  simp only[hy];refine rl (Sem.bind_eq_wrap' ..) (rl (Sem.bind_eq_wrap' ..) (rl (Sem.wrap_wrap ..) (rl (Sem.wrap_wrap ..) ?_)));refine seg_wrap ((HE D).use (Γ:=cz Γ D) hA ez iz λx fF zW jh jZ jA=>?_);have sJ:=ik sX jh n0;have Xj:=hJ _ _ _ Xi ez jh jZ n0;have Qo:=hT _ _ _ _ Ft jh n0;have Qp:yb C Γ L Z pr it D fK ms fF:=⟨jA,sJ,F.lD,F.zD,F.zL,F.zH,F.zc⟩;have hlen:(r::iE).length+rest=(iE.length+rest)+1:=by exact rl abr Z5
  rw[hlen] at iP hle ⊢;have hget:full[full.length-1-(iE.length+rest)]?=some r:=by
   have h0:(full.drop (full.length-(iE.length+rest+1)))[0]?=some r:=by refine rl iP ?_;rfl
   replace h0:=List.getElem?_drop▸h0;refine rs h0 ?_;congr 1;exact Z6
  have s_:full.drop (full.length-(iE.length+rest))=iE++mQ:=by
   have h1:(full.drop (full.length-(iE.length+rest+1))).drop 1=iE++mQ:=by refine rl iP ?_;rfl
   replace h1:=List.drop_drop▸h1;refine rs h1 ?_;congr 1;exact Z7 hle
  refine seg_at (seg_yield hfs J hgd ⟨λs=>yb C Γ L Z pr it D fK ms s/\aa s,r,hget,?_,⟨Qp,Xj⟩,Qo,jZ,λs s' ⟨h1,h2⟩ u I'=>⟨hU _ _ _ _ u I' h1,hJU _ _ h2 u I'⟩,λgp ⟨h1,h2⟩ I3=>?_⟩)
  .exact zW.kept (h:=fF.heap) (W:=[]) (λ_ _ _ e=>e) n0 (λd hd=>.inl (aad _ (hD₀ d hd)))
  .exact seg_again J (ih HN h1 h2 (Xg _) I3 s_ (by exact Y5 hle))
end
noncomputable def UL(C:Cx)(B:Nat)(O D:acq)(s s':Shared):Prop:=s.heap.objs.size<=s'.heap.objs.size/\∃N,Kept (N++C.tabs) s.heap s'.heap/\∀d∈N,B<=d/\d∈D/\d∉O
noncomputable def RG(C:Cx)(T:Shared->Shared->Prop):GenEnd:=λn bM r aq=>r = .ok .next/\(n=0/\T bM aq/\Inv C aq)
section
variable{C:Cx}{Γ:Gm}{W D D' X X' Z iU Wk O:acq}{s s':Shared}{vs vs' d7:aC}{A:Around}{E:ach}{e:Expr}{v m:MV}{k:Nat}{ms outs:acw}{a:Addr}{g B:Nat}
 {L:Addr} {pr:Bool} {it:Value} {T af:Shared->Shared->Prop} {full:acw} {R:GenEnd}
theorem Fv{gens:Array GenState}(h:AllBare gens){g:Nat}{x:GenState}(hx:x.bare=true):AllBare (gens.setIfInBounds g x):=by
 intro y hy;rcases Array.mem_or_eq_of_mem_setIfInBounds hy with q |q
 .exact h _ q
 .exact rl q hx
theorem Inv.setGen(I:Inv C s){g:Nat}{x:GenState}(hx:x.bare=true):Inv C (s.setGen g x):=⟨I.ok,I.size,I.old,I.tab,Fv I.bare hx,I.os⟩
theorem Inv.ext(I:Inv C s){h':Heap}(hk:∀b o,s.heap.get? b=some o->h'.get? b=some o)(hs:C.H.objs.size<=h'.objs.size):Inv C {s with heap:=h'}:=
 ⟨I.ok,hs,λb o hb e=>hk b o (I.old b o hb e),λq hq=>(I.tab q hq).move (λo=>hk _ o) λo=>hk _ o,I.bare,I.os⟩
theorem iJ(s:Shared)(g:Nat)(x:GenState){g':Nat}{y:GenState}(h:g'≠g)(e:s.gens[g']?=some y):(s.setGen g x).gens[g']?=some y:=by simp only[Shared.setGen];exact rl (Array.getElem?_setIfInBounds_ne (abw h)) e
theorem kM{N:acq}(hg:s.heap.IsGen a g)(hk:Kept N s.heap s'.heap)(ha:a∉N):s'.heap.IsGen a g:=
 let⟨o,nm,qn,ho,r⟩:=hg;⟨o,nm,qn,hk a o ha ho,r⟩
theorem JR(hh:A.handled=none)(hroom:A.depth<recursionLimit)(haO:a∉O)(aH:C.H.objs.size<=a)(aB:a<B) :
 ∀(rest:acw){s:Shared}{gs:GenState}{St:Shared->Prop},s.heap.IsGen a g->s.gens[g]?=some gs->full.drop (full.length-rest.length)=rest->rest.length<=full.length->St s->(∀s s',St s->UL C B O D s s'->Inv C s'->St s')->
  (∀gp,St gp->Inv C gp->gs.Goes (model P0 C.w) A.in1 (RG C (bL C O)) (YG C (bL C O) (UL C B O D) full D) rest.length (.send .none) gp)->LV C A a g B O D rest s:=by
 have start:∀{s aq:Shared}{St:Shared->Prop}{N:acq},St s->(∀s s',St s->UL C B O D s s'->Inv C s'->St s')->Inv C aq->s.heap.objs.size<=aq.heap.objs.size->Kept (N++C.tabs) s.heap aq.heap->(∀d∈N,B<=d/\d∈D/\d∉O)->St (aq.setGen g .running):=λhs st I z1 z2 z4=>
  st _ _ hs ⟨z1,_,z2,z4⟩ (I.setGen J)
 have aN:∀{aq:Shared}{N:acq},Inv C aq->(∀d∈N,B<=d/\d∈D/\d∉O)->a∉N++C.tabs:=λI z4 q=>(aag.mp q).elim (λq=>absurd aB (aaw.mpr (z4 a q).1)) (aX I aH);intro rest
 induction rest with
 |nil=>
  intro s gs St hg hgs iP hle hs st go aq N I z1 z2 z3 z4;refine fQ (Q:=λo s'=>o=none/\∃av h',bL C O (aq.setGen g .running) av/\Inv C av/\(∀b o,av.heap.get? b=some o->h'.get? b=some o)/\s'={av.setGen g .finished with heap:=h'}) ?_ ?_
  .refine wpAny_pyNext_genexpQ (P:=λn bM aq=>n=0/\bL C O bM aq/\Inv C aq) hh I.nolimit hroom (kM hg z2 (aN I z4)) (z3 gs hgs) (go _ (start hs st I z1 z2 z4) (I.setGen J)) (λv av gs' hb hv=>?_) (λav hp h' hk=>?_)
   .refine nb λnn=>?_
    obtain⟨Qq,r',hget,d,jg,tt,bu,z_,go'⟩:=hv;exact(go' av jg bu).elim
   .exact⟨J,av,h',hp.2.1,hp.2.2,hk,J⟩
  .rintro o s' hsz ⟨rfl,av,h',t,bu,hk,rfl⟩
   exact⟨⟨hsz,λb o hb e=>hk b o (t.keep b o hb e),λg' x h e=>iJ _ _ _ h (t.gens g' x (iJ _ _ _ h e))⟩,(bu.setGen (g:=g) (x:=.finished) J).ext hk (aaf I.size hsz),J⟩
 |cons r rest ih=>
  intro s gs St hg hgs iP hle hs st go aq N I z1 z2 z3 z4;refine wpAny_pyNext_genexpQ (P:=λn bM aq=>n=0/\bL C O bM aq/\Inv C aq) hh I.nolimit hroom (kM hg z2 (aN I z4)) (z3 gs hgs) (go _ (start hs st I z1 z2 z4) (I.setGen J)) (λv av gs' hb hv=>?_) (λav hp h' hk=>?_)
  .refine nb λnn=>?_
   obtain⟨Qq,r',hget,d,jg,tt,bu,z_,go'⟩:=hv;rw[abr] at iP hle hget;have hr:r'=r:=by
    have h0:(full.drop (full.length-(rest.length+1)))[0]?=some r:=by rw[iP];rfl
    rw[List.getElem?_drop] at h0;have e:full.length-(rest.length+1)+0=full.length-1-(rest.length+1-1):=by exact Y6
    rw[e,hget] at h0;obtain rfl:=aax h0;rfl
   subst hr;have s_:full.drop (full.length-rest.length)=rest:=by
    have h1:(full.drop (full.length-(rest.length+1))).drop 1=rest:=by rw[iP];rfl
    rw[List.drop_drop] at h1;have e:full.length-rest.length=full.length-(rest.length+1)+1:=by exact Y7 hle
    rw[e];exact h1
   have tG:ku C g O aq (av.setGen g gs'):=⟨tt.size,tt.keep,λg' x h e=>iJ _ _ _ h (tt.gens g' x (iJ _ _ _ h e))⟩;have Aa:av.gens[g]?=some .running:=tt.gens g _ (setGen_self (z3 gs hgs));refine nn<|⟨tG,bu.setGen hb,v,J,d,ih (s:=av.setGen g gs') (St:=Qq) (kM (kM hg z2 (aN I z4)) tG.keep (λq=>(aag.mp q).elim haO (aX I aH))) (setGen_self Aa) s_ (by exact Y8 hle) ?_ z_ go'⟩
   exact z_ _ _ jg ⟨aaq _,[],λ_ _ _ e=>e,n0⟩ (bu.setGen hb)
  .exact absurd hp.1 (Nat.succ_ne_zero _)
end
section
variable{C:Cx}{Γ:Gm}{W D D' X X' Z iU Wk O:acq}{s s':Shared}{vs vs' d7:aC}{A:Around}{E:ach}{e:Expr}{v m:MV}{k:Nat}{ms outs:acw}{a:Addr}{g B:Nat}
 {L:Addr} {pr:Bool} {it:Value} {T af:Shared->Shared->Prop} {full:acw} {R:GenEnd} {Y:Protocol}
theorem uW(b:Bool):(if b=true then 1 else 0)<=1:=by cases b<;>decide
theorem oE{elt:Expr}{gens:List Comprehension}{scope:Scope}{pos:Pos}{env:Env}(d:Nat)(it:Value):Code.weight (.compLoop (.GeneratorExp elt gens scope pos) d it .none env)<=3:=aaf (uW (Code.isFrame (.compLoop (.GeneratorExp elt gens scope pos) d it .none env))) (by decide)
theorem qu{elt:Expr}{gens:List Comprehension}{scope:Scope}{pos:Pos}{env:Env}(d:Nat)(it:Value):Code.cUnits (.compLoop (.GeneratorExp elt gens scope pos) d it .none env)<=6:=aaf (abe 3 (uW (Code.isFrame (.compLoop (.GeneratorExp elt gens scope pos) d it .none env)))) (by decide)
theorem uX{elt:Expr}{gens:List Comprehension}{scope:Scope}{pos:Pos}{env:Env}{d:Nat}(G:Good (k+1) A):Good k (A.in1.over (.compLoop (.GeneratorExp elt gens scope pos) d it .none env) []):=
 ⟨G.handled,TZ (oE d it) G.depth,T3 (qu d it) G.units⟩
theorem uY{elt t iter:Expr}{gs:List Comprehension}{scope:Scope}{pos:Pos}{env:Env}{n:Nat}{bM:Shared}{lo:Nat}(hit:jz lo s.heap D X pr Z it ms)
 (h:Seg (model P0 C.w) A R Y n bM (.compLoop (.GeneratorExp elt (⟨t,iter,[],0⟩::gs) scope pos) 0 it .none env) ((model P0 C.w).den (.compLoop (.GeneratorExp elt (⟨t,iter,[],0⟩::gs) scope pos) 0 it .none env)) [] s) :
 Seg (model P0 C.w) A R Y n bM (.compStart (.GeneratorExp elt (⟨t,iter,[],0⟩::gs) scope pos) 0 it .none env) ((model P0 C.w).den (.compStart (.GeneratorExp elt (⟨t,iter,[],0⟩::gs) scope pos) 0 it .none env)) [] s:=by
 show Seg _ A _ _ _ bM _ ((compStart (.GeneratorExp elt (⟨t,iter,[],0⟩::gs) scope pos) 0 it .none env).onRaise (leaving env)) [] s;unfold compStart;refine rl (abH ..) ?_;show Seg _ A _ _ _ bM _ ((ask>>=_).wrap _ _ _ _) [] s;refine aaT (wpAny_askSetting ?_);split
 .exact seg_again J h
 .refine aaT (abR ?_)
  show Seg _ A _ _ _ bM _ ((standAt iter.pos>>=_).wrap _ _ _ _) [] s;exact aaT (aaY (aaT (jz.iter hit (seg_again J h))))
end
section
variable{C:Cx}{Γ:Gm}{W D D' X X' Z iU Wk O:acq}{s s':Shared}{vs vs' d7:aC}{A:Around}{E:ach}{e:Expr}{v m:MV}{k:Nat}{ms outs:acw}{a:Addr}{g B:Nat}
 {L:Addr} {pr:Bool} {it:Value} {T af:Shared->Shared->Prop} {full:acw} {R:GenEnd} {Y:Protocol}
theorem Dr{M:Model}{env:Env}{elt t1 i1:Expr}{gs:List Comprehension}{scope:Scope}{cl:List (Str×Addr)}{pos:Pos}{Q:ach}
 (hco:scope.isCoroutine=false) (hclos:closureFor scope env=pure cl) (hcell:∀y∈scope.names,y.2≠.cell) (h0:scope.names.lookup (".0":Str)=some NameKind.local) (hkind:scope.kind = .function)
 (hroom:A.depth<recursionLimit)
 (h:wpAny M A (eval i1 env) (λxv aq=>wpAny M A (pyIter xv) (λit av=>av.heap.NoLimit/\
  wpAny M A (genexprCode env pos (env.qual++"<genexpr>") scope) (λcode bH=>wpAny M A (builtinsFor env.globals env.builtins) (λbi fF=>
   ∀h',h'.Ns fF.heap.objs.size (λy=>if y=".0" then some it else none)->Heap.SameBut fF.heap.objs.size (fF.heap.push {cls:=.type "frame",data:=.dict #[]}) h'->
    Q (.ref h'.objs.size) {fF with
     gens:=fF.gens.push (.fresh (.compStart (.GeneratorExp elt (⟨t1,i1,[],0⟩::gs) scope pos) 0 it .none (genEnv scope cl fF.heap.objs.size code bi env))),
     toks:=fF.toks+1+1+1,
     heap:=h'.push {cls:=.type "generator",data:=.fields #[.int fF.gens.size 0,.str "<genexpr>" (fF.toks+1),.str (env.qual++"<genexpr>") (fF.toks+1+1)]}}) E bH) E av) E aq) E s)
 (hs:∀x,genexprIterable false (clausesOf (.GeneratorExp elt (⟨t1,i1,[],0⟩::gs) scope pos)) env x=pure x) :
 wpAny M A (eval (.GeneratorExp elt (⟨t1,i1,[],0⟩::gs) scope pos) env) Q E s:=by
 refine rl (arm_eval_GeneratorExp ..) ?_;simp only[hco,hclos,Bool.false_eq_true,if_false];have hb:∀(it:Value),∀y∈([((".0":Str),it)]:aci),scope.names.lookup y.1=some NameKind.local:=λit y hy=>by exact rl (aam.mp hy) h0
 refine aal (aaQ h (λxv aq jy=>aal (aaY (aal (wpAny_of_eq (hs xv) (aal (abL (aaQ jy (λit av ⟨h2,h3⟩=>?_) λ_ _ e=>e))))))) λ_ _ e=>e);refine aal (wpAny_enterFrame h2 hroom (aal (aat (aal (aaQ h3 (λcode bH h₃=>aal (aaQ h₃ (λbi fF h₄=>?_) λ_ _ e=>e)) λ_ _ e=>e)))));refine aal (wpAny_newFunctionEnv hcell (hb it) (λh' hn Ja=>?_) hkind);have e:(λy:Str=>([((".0":Str),it)]:aci).reverse.lookup y)=λy:Str=>if y=(".0":Str) then some it else none:=by
  funext y;show List.lookup y [((".0":Str),it)]=_;refine rl aaF ?_;by_cases hy:y=".0"
  .subst hy;rfl
  .refine rl (aaD hy) (rl (show(y==(".0":Str))=false by simpa using hy) ?_);rfl
 replace hn:=e▸hn;simp only[newGenerator,newFields];exact aal (wpAny_newGen (aal (wpAny_mkText (aal (wpAny_mkText (wpAny_newObj_type (h₄ h' hn Ja) (by size_fits)))))))
structure Xk(C:Cx)(Γ:Gm)(vs:aC)(W:acq)(s:Shared)(scope:Scope)(k:Nat)(pr:Bool)(ms:acw)(e0:Expr)(it code:Value)(L a g:Nat)(Z:acq)(gG:Shared):Prop where
 SO:gG.heap.IsGen a g
 gs:gG.gens[g]?=some (.fresh (.compStart e0 0 it .none (genEnv scope (gU Γ.env scope.names []) L code builtinsNs Γ.env)))
 t:bL C [] s gG
 I:Inv C gG
 hg:s.gens.size<=g
 G:yb C ⟨k,genEnv scope (gU Γ.env scope.names []) L code builtinsNs Γ.env,[],[]⟩ L Z pr it (L::(Z++(W++Γ.Do))) (iA scope vs) ms gG
 O:∀d∈L::Z,s.heap.objs.size<=d/\d<a
 a0:s.heap.objs.size<=a
 a1:a+1=gG.heap.objs.size
 D:∀d∈L::(Z++(W++Γ.Do)),d∈W++Γ.Do\/s.heap.objs.size<=d
 cB:∀x c,(gU Γ.env scope.names []).lookup x=some c->c<s.heap.objs.size
theorem Bt{elt t iter:Expr}{gs:List Comprehension}{scope:Scope}{pos:Pos}{c P:Addr}(Hi:rR C Γ vs iter pr ms)
 (eN:ic scope=true) (hcl:gI scope Γ.env vs=true) (hnd:(vs.map (·.1)).Nodup) (hs:∀x,genexprIterable false (clausesOf (.GeneratorExp elt (⟨t,iter,[],0⟩::gs) scope pos)) Γ.env x=pure x)
 (hco:scope.isCoroutine=false) (hcell:(scope.names.all λy=>y.2 !=.cell)=true) (h0:scope.names.lookup (".0":Str)=some NameKind.local) (hc:Γ.env.code = .ref c) (hq:(c,P)∈C.T)
 {Q:ach} (G:Good Γ.k A) (I:Inv C s) (F:Fm C Γ W s.heap vs) (H:∀it code L a g Z gG,Xk C Γ vs W s scope k pr ms (.GeneratorExp elt (⟨t,iter,[],0⟩::gs) scope pos) it code L a g Z gG->Q (.ref a) gG) :
 wpAny (model P0 C.w) A (eval (.GeneratorExp elt (⟨t,iter,[],0⟩::gs) scope pos) Γ.env) Q ig s:=by
 have Fw:∀y∈scope.names,y.2≠.cell:=λy hy=>by have:=abq.mp hcell y hy;simpa using this
 have z8:=eN;simp only[ic,Bool.and_eq_true,beq_iff_eq,decide_eq_true_eq] at z8;have cells:∀p∈scope.names,p.2 = .free->(Γ.env.cells.lookup p.1).isSome=true:=
  (F.block I eN hcl hnd (bL.refl C [] s) (iU:=W++Γ.Do) (λ_ q=>q) (λ_ q=>.inl q) F.hi).2
 refine Dr hco (sM cells) Fw h0 z8.1 G.room (cS (Hi A s W G I F) λx aq jy=>cS jy λit av bI=>?_) hs;obtain⟨Z,hZ,hit,aY,bu⟩:=bI;refine⟨bu.nolimit,Fo hc hq bu λcode bH cW ez ZC=>?_⟩;refine rl F.glob ?_;refine wC ez ?_;intro h' hn Ja;have sz':h'.objs.size=bH.heap.objs.size+1:=by exact rl (Ja.1 ..) (rl (aaI ..) J)
 have Qs:∀b o,bH.heap.get? b=some o->h'.get? b=some o:=λb o e=>Ja.extBut b o (abb (aaB e)) (aaW _ e);have Qt:av.heap.objs.size<=bH.heap.objs.size:=cW.size;have SP:s.heap.objs.size<=bH.heap.objs.size:=aaf aY.size Qt;have JJ:∀d∈bH.heap.objs.size::(Z++(W++Γ.Do)),d∈W++Γ.Do\/s.heap.objs.size<=d:=mc (.inr SP) λd q=>(aag.mp q).elim (λq=>.inr (hZ d q).1) .inl;have Qu:∀d∈bH.heap.objs.size::(Z++(W++Γ.Do)),d<h'.objs.size:=by refine rl sz' ?_;exact mc (aaS _) λd q=>(aag.mp q).elim (λq=>aa5 (aao (hZ d q).2 Qt)) λq=>aa5 (aao (F.hi d q) SP)
 have Fg:Fm C ⟨k,genEnv scope (gU Γ.env scope.names []) bH.heap.objs.size code builtinsNs Γ.env,[],bH.heap.objs.size::(Z++(W++Γ.Do))⟩ [bH.heap.objs.size] h' (iA scope vs):=F.gen I eN hcl hnd Fw (aY.then cW) J hn Ja (λd hd=>.tail _ (aad _ hd)) JJ Qu;have zH:∀z∈Z,C.H.objs.size<=z:=λz hz=>aaf I.size (hZ z hz).1;have cB:∀x c,(gU Γ.env scope.names []).lookup x=some c->c<s.heap.objs.size:=λx c hx=>by replace hx:=(nC ..)▸hx;replace hx:=(aaU ..)▸hx;obtain⟨p,hp,e⟩:=aan.mp (ab1.mp (mem_of_lookup hx));obtain⟨hp1,hp2⟩:=aaG.mp hp;obtain⟨c',jV⟩:=aa_.mp (cells p hp1 (aa3.mp hp2));cases e;refine rl jV ?_;exact F.hi c' (F.cI _ _ jV).1
 generalize ho:({cls:=.type "generator",data:=.fields #[.int bH.gens.size 0,.str "<genexpr>" (bH.toks+1),.str (Γ.env.qual++"<genexpr>") (bH.toks+1+1)]}:Obj)=go;generalize ZD:GenState.fresh (.compStart (.GeneratorExp elt (⟨t,iter,[],0⟩::gs) scope pos) 0 it .none (genEnv scope (gU Γ.env scope.names []) bH.heap.objs.size code builtinsNs Γ.env))=SQ;have gr:∀b o,bH.heap.get? b=some o->(h'.push go).get? b=some o:=λb o e=>aaW _ (Qs b o e);have Bu:(h'.push go).objs.size=h'.objs.size+1:=aaI _ _;have up:bH.heap.objs.size<=(h'.push go).objs.size:=by exact rl Bu (rl sz' ((aay _ 2)))
 have jK:bL C [] s {bH with gens:=bH.gens.push SQ,toks:=bH.toks+1+1+1,heap:=h'.push go}:=(aY.then cW).then ⟨up,λb o _ e=>gr b o e,λg' x e=>(by show(bH.gens.push SQ)[g']?=some x;refine rl Array.getElem?_push (rl (aaD (abb (abP.mp e).1)) ?_);exact e)⟩
 have aa:=ez.ext (h':=h'.push go) gr (aaf ez.size up);refine H it code bH.heap.objs.size h'.objs.size bH.gens.size Z _ ⟨by subst ho;exact⟨_,_,_,aa4 _ J,J,J,J⟩,by refine rl ZD ?_;show(bH.gens.push SQ)[bH.gens.size]?=some SQ;simp,jK,⟨aa.ok,aa.size,aa.old,aa.tab,λy hy=>(Array.mem_push.mp hy).elim (ez.bare y) λq=>by refine rl q (rs ZD ?_);rfl,aa.os⟩,
  Nat.le_of_not_lt λh=>absurd (abP.mp ((aY.then cW).gens bH.gens.size s.gens[bH.gens.size] (Array.getElem?_eq_getElem h))).1 (aa8 _),?_,by exact rl sz' ((mc ⟨SP,aaS _⟩ λd q=>⟨(hZ d q).1,aa5 (aao (hZ d q).2 Qt)⟩)),by exact rl sz' ((Nat.le_succ_of_le SP)),Bu.symm,JJ,cB⟩
 have Qv:∀d∈bH.heap.objs.size::(Z++(W++Γ.Do)),d∈W++(Z++Γ.Do)\/av.heap.objs.size<=d:=mc (.inr Qt) λd q=>.inl (by
  rcases aag.mp q with q |q
  .exact aad _ (aah _ q)
  .exact(aag.mp q).elim (λq=>aah _ q) λq=>aad _ (aad _ q))
 have tabI:∀d∈C.tabs,d∈W++(Z++Γ.Do):=λd hd=>aad _ (aad _ (F.tabs d hd));exact⟨Fg.change (Wk:=[]) (f_ h' go) (by exact rl Bu ((aa0 _))) n0 n0 (λ_ _ _ q=>nomatch q) (λd hd=>.inl hd) Fg.tabs (λd hd=>by exact rl Bu ((aa5 (Qu d hd)))) (λx c hx=>(Fg.cI x c hx).1),
  hit.kept (W:=C.tabs) (λb o hb e=>gr b o (cW.keep b o (by simpa using hb) e)) tabI tabI Qv Qv (λz hz q=>aX I (zH z hz) q),.head _,λz hz=>.tail _ (aah _ hz),λz hz q=>absurd (hZ z hz).2 (by exact rl q ((aaw.mpr Qt))),zH,λx c hx q=>absurd (cB x c hx) (aaw.mpr (hZ c q).1)⟩
theorem rS{elt t iter:Expr}{scope:Scope}{pos:Pos}{c P:Addr}(Hi:rR C Γ vs iter pr ms)
 (H:∀L code,∃pF,LZ C ⟨k,genEnv scope (gU Γ.env scope.names []) L code builtinsNs Γ.env,[],[]⟩ t elt ms (iA scope vs) outs pF)
 (ht:pr=true->∃es x1 p,t = .Tuple es x1 p) (eN:ic scope=true) (hcl:gI scope Γ.env vs=true) (hnd:(vs.map (·.1)).Nodup) (hs:∀x,genexprIterable false (clausesOf (.GeneratorExp elt [⟨t,iter,[],0⟩] scope pos)) Γ.env x=pure x)
 (hco:scope.isCoroutine=false) (hcell:(scope.names.all λy=>y.2 !=.cell)=true) (h0:scope.names.lookup (".0":Str)=some NameKind.local) (hc:Γ.env.code = .ref c) (hq:(c,P)∈C.T) :
 LX C Γ vs k (.GeneratorExp elt [⟨t,iter,[],0⟩] scope pos) outs:=λA s W G I F=>by
 refine Bt (k:=k) Hi eN hcl hnd hs hco hcell h0 hc hq G I F λit code L a g Z gG N=>⟨J,N.t,N.I,λA' hh=>wpAny_pyIter_gen N.SO ?_⟩;have sL:s.heap.objs.size<=gG.heap.objs.size:=N.t.size;have bc:∀{c},c<s.heap.objs.size->¬gG.heap.objs.size<=c:=λh q=>absurd (aao h sL) (aaw.mpr q);have aH:C.H.objs.size<=a:=aaf I.size N.a0;have n8:=N.G.fm;refine⟨a,L::Z,g,L::(Z++(W++Γ.Do)),J,?_,N.t,N.I,N.hg,λd hd=>⟨(N.O d hd).1,(aap.mp hd).elim (λq=>by exact rl q ((.head _))) λq=>.tail _ (aah _ q)⟩,N.D,λd hd=>.tail _ (aad _ hd),?_⟩
 .intro A'' aq D₁ Fe aF z1 z2 z3 z4 z5 z6
  obtain⟨pF,HC⟩:=H L code;have G₁:yb C ⟨k,genEnv scope (gU Γ.env scope.names []) L code builtinsNs Γ.env,[],[]⟩ L Z pr it D₁ (iA scope vs) ms aq:=by refine⟨?_,N.G.xE.kept z2 n8.tabs n8.tabs z5 z5 (λz hz=>aX I (N.G.zH z hz)),z6 _ (.head _),λz hz=>z6 _ (.tail _ (aah _ hz)),N.G.zL,N.G.zH,N.G.zc⟩;exact n8.change (iU:=D₁) z2 z1 (λd hd=>aad _ (n8.tabs d hd)) (λd hd q=>aX aF (n8.lo d q) hd) (λx c hx=>aX aF (n8.cI x c hx).2) (λd hd=>z5 d hd) (λd hd=>z6 d (n8.tabs d hd)) z4 (λx c hx=>(aag.mp (n8.cI x c hx).1).elim (λq=>aah _ q) λq=>aad _ (z6 c q))
  have chg:∀{s s':Shared}{vs:aC}{ms:acw},UL C gG.heap.objs.size (L::Z) D₁ s s'->yb C ⟨k,genEnv scope (gU Γ.env scope.names []) L code builtinsNs Γ.env,[],[]⟩ L Z pr it D₁ vs ms s->yb C ⟨k,genEnv scope (gU Γ.env scope.names []) L code builtinsNs Γ.env,[],[]⟩ L Z pr it D₁ vs ms s':=λu h=>by refine nb λnn=>?_;obtain⟨u1,M,u2,u3⟩:=u;exact nn<|h.change aF u1 u2 (λd hd=>(u3 d hd).2.1) (λq=>(u3 L q).2.2 (.head _)) (λz hz q=>(u3 z q).2.2 (.tail _ hz)) λx c hx q=>bc (N.cB x c hx) (u3 c q).1
  refine JR (full:=outs) (g:=g) (St:=λs=>yb C ⟨k,genEnv scope (gU Γ.env scope.names []) L code builtinsNs Γ.env,[],[]⟩ L Z pr it D₁ (iA scope vs) ms s) Fe.handled Fe.room (λq=>aa8 _ (N.O a q).2) aH (by exact rs N.a1 ((aaS _))) outs (kM N.SO z2 (aX aF aH)) (z3 _ N.gs) (by refine rl (abt ..) ?_;rfl) (aaq _) G₁ (λs s' h u I'=>chg u h) λgp h'' I3=>⟨J,uY h''.xE ?_⟩;have:=yc (C:=C) (Γ:=⟨k,genEnv scope (gU Γ.env scope.names []) L code builtinsNs Γ.env,[],[]⟩) (A:=A''.in1) (L:=L) (D:=D₁) (Z:=Z) (pr:=pr) (it:=it) (e0:=.GeneratorExp elt [⟨t,iter,[],0⟩] scope pos) (t:=t) (elt:=elt) (d:=0) (ipos:=iter.pos) (fs:=[]) (aa:=λ_=>True) (P:=λd=>d∈L::Z) (rest:=0) (mQ:=[]) (full:=outs)
   (T:=bL C (L::Z)) (af:=UL C gG.heap.objs.size (L::Z) D₁) (R:=RG C (bL C (L::Z))) (Hd:=leaving (genEnv scope (gU Γ.env scope.names []) L code builtinsNs Γ.env)) (λ_ q=>q) J J ht (uX Fe) hco J J
   (λbM s s' Wk t1 t2 hW=>t1.eS (t2.weak hW)) (λs=>bL.refl _ _ _) ⟨.head _,λz hz=>.tail _ hz⟩ (λs s' vs ms u I' h=>chg u h) (λ_ _ _ _ _ _ _ _=>trivial) (λ_ _ _ _ _=>trivial) (λbM s tt I F _=>seg_end (.ok .next) ⟨J,J,tt,I⟩) ms HC h'' trivial (bL.refl _ _ _) I3 (by simp) (aaq _)
  exact this
 .obtain⟨mm,kj,_⟩:=F.ns
  refine⟨n8.tabs,λd hd=>n8.hi d (aad _ hd),Γ.env.locals,mm,F.lo _ F.lW,λq=>?_,abY kj λo e=>N.t.keep _ o (by simpa using aX I (F.lo _ F.lW)) e⟩;exact absurd (F.hi _ (aah _ F.lW)) (aaw.mpr (N.O _ q).1)
end
noncomputable def L0(C:Cx)(Γ:Gm)(vs:aC)(e:Expr)(l:acw):Prop:=
 ∀A s W,Good Γ.k A->Inv C s->Fm C Γ W s.heap vs->wpAny (model P0 C.w) A (eval e Γ.env) (λx s'=>nj C (W++Γ.Do) s (.lst l) x s'/\∃a,x = .ref a/\s.heap.objs.size<=a) ig s
section
variable{C:Cx}{Γ:Gm}{W D D' X X' Z iU Wk O:acq}{s s':Shared}{vs vs' d7:aC}{A:Around}{E:ach}{e:Expr}{v m:MV}{k:Nat}{ms outs l l':acw}{a:Addr}{g B:Nat}{x:Str}{fl:Fl}{st:Stmt}{ss:acr}{h h':Heap}
theorem L0.ev(H:L0 C Γ vs e l):Ev C Γ vs e (.lst l):=λA s W G I F=>cS (H A s W G I F) λ_ _ q=>q.1
theorem kP{es:acs}{pos:Pos}(H:rP C Γ vs es ms)(hl:ms.length<=1000):L0 C Γ vs (.List es pos) ms:=λA s W G I F=>
 wpAny_List_spliced (cS (H.run A s W pos G I F) λvals aq bI=>by obtain⟨d,t,aF⟩:=bI;exact⟨by rw[d.length,sizeLine];omega,(o9 aF ((F.dJ I t).mw) d).trans t,_,J,t.size⟩)
theorem fX.less{W':acq}{val:Value}{st:VS}(hD:∀d∈D',d∈D)(hW:∀d∈foot st,d∈W->d∈W')(x:fX h D W val st):fX h D' W' val st:=by
 refine nb λnn=>?_;cases st with
 |v m=>exact nn<|Den.kept (W:=[]) (λ_ _ _ e=>e) n0 (λd hd=>.inl (hD d hd)) x
 |own b l=>
  obtain⟨e,hb,items,n,hg,ds⟩:=x;exact nn<|⟨e,hW b (.head _) hb,items,n,hg,ds.kept (W:=[]) (λ_ _ _ e=>e) n0 (λd hd=>.inl (hD d hd))⟩
 |obj x dx Cc fs=>
  obtain⟨e,hx,hdx,kI,es,n,vals,hi,hle,df⟩:=x;exact nn<|⟨e,hW x (.head _) hx,hW dx (.tail _ (.head _)) hdx,kI,es,n,vals,hi,hle,df.kept (W:=[]) (λ_ _ _ e=>e) n0 (λd hd=>.inl (hD d hd))⟩
theorem Fm.freeze(F:Fm C Γ W h vs)(hv:vs.lookup x=some (.own a l))(hk:Γ.env.kindOf x=some .local):Fm C Γ (W.filter (· !=a)) h (aG vs x (.v (.lst l))):=by
 have sub:∀d∈W.filter (· !=a)++Γ.Do,d∈W++Γ.Do:=λd hd=>by
  rcases aag.mp hd with q |q
  .exact aah _ ((aaG.mp q).1)
  .exact aad _ q
 have Qw:∀{d},d∈W->d≠a->d∈W.filter (· !=a):=λh1 h2=>aaG.mpr ⟨h1,by simpa using h2⟩;have ZE:∀{y st},y≠x->vs.lookup y=some st->∀d∈foot st,d∈W->d∈W.filter (· !=a):=λ{y st} hy hs d hd hW=>Qw hW λq=>hy (F.iY y x st _ a hs hv (q▸hd) (.head _));have loc:=(F.gH x _ a hv (.head _)).1;refine⟨F.kind,F.glob,F.bi,?_,λy st hy jP=>?_,λy hy=>?_,Qw F.lW (abw loc),F.tabs,λd hd=>F.lo d ((aaG.mp hd).1),λd hd=>F.hi d (sub d hd),F.apart,λy c hc=>?_,F.fY,λy st b hy hb=>?_,λy z st jg b hy hz hb hb'=>?_⟩
 .obtain⟨mm,hn,hl⟩:=F.ns
  refine⟨mm,hn,λy st hy jP=>?_⟩;replace hy:=(au ..)▸hy;split at hy
  .rename_i e
   refine nb λnn=>?_;subst e;obtain rfl:=aax hy;obtain⟨w,hw,rfl,hW,items,n,hg,ds⟩:=hl _ _ hv jP;refine nn<|⟨_,hw,.lst a items n l hg (λq=>?_) (ds.kept (W:=[]) (λ_ _ _ e=>e) n0 (λd hd=>.inl (sub d hd)))⟩
   rcases aag.mp q with q |q
   .have:=(aaG.mp q).2;simp at this
   .exact(F.gH _ _ a hv (.head _)).2.2.2 q
  .rename_i e
   obtain⟨w,hw,d⟩:=hl y st hy jP;exact⟨w,hw,d.less sub (ZE e hy)⟩
 .replace hy:=(au ..)▸hy
  split at hy
  .rename_i e
   refine nb λnn=>?_;subst e;replace jP:=hk▸jP;rcases jP with q |q<;>cases q
  .rename_i e
   refine nb λnn=>?_;obtain⟨c,w,hc,hi,d⟩:=F.cell y st hy jP;exact nn<|⟨c,w,hc,hi,d.less sub (ZE e hy)⟩
 .obtain⟨c,w,hc,hW,hi⟩:=F.zS y hy
  exact⟨c,w,hc,Qw hW ((F.gH x _ a hv (.head _)).2.1 y c hc),hi⟩
 .refine⟨?_,(F.cI y c hc).2⟩
  rcases aag.mp (F.cI y c hc).1 with q |q
  .exact aah _ (Qw q ((F.gH x _ a hv (.head _)).2.1 y c hc))
  .exact aad _ q
 .replace hy:=(au ..)▸hy
  split at hy
  .refine nb λnn=>?_
   cases hy;cases hb
  .rename_i kI
   have o:=F.gH y st b hy hb;exact⟨o.1,o.2.1,Qw o.2.2.1 (λq=>kI (F.iY y x st _ a hy hv (q▸hb) (.head _))),o.2.2.2⟩
 .rw[au] at hy hz
  split at hy
  .cases hy
   refine nb λnn=>?_;cases hb
  .split at hz
   .cases hz;cases hb'
   .exact F.iY y z st jg b hy hz hb hb'
theorem Fm.Xl(F:Fm C (cz Γ (a::Γ.Do)) W s.heap vs){h':Heap}{mm:Str->Option Value}{items:aco}{n:Nat}(hx:Γ.env.kindOf x=some .local)
 (hm:s.heap.Ns Γ.env.locals mm) (hv:∀y st,vs.lookup y=some st->Γ.env.kindOf y=some .local->∃b,mm y=some b/\fX s.heap (W++(a::Γ.Do)) W b st)
 (hn:h'.Ns Γ.env.locals (λy=>if y=x then some (.ref a) else mm y)) (hs:Heap.SameBut Γ.env.locals s.heap h')
 (ha:s.heap.get? a=some {cls:=.type "list",data:=.seq items n}) (hD:a∉W++Γ.Do) (hH:C.H.objs.size<=a) (ds:∀D',bD s.heap D' items.toList l) (hc:∀y c,Γ.env.cells.lookup y=some c->c∈W++Γ.Do) (ye:∀d∈C.tabs,d∈Γ.Do):Fm C Γ (a::W) h' (aG vs x (.own a l)):=by
 have hlW:Γ.env.locals∈W++Γ.Do:=aah _ F.lW;have aL:a≠Γ.env.locals:=λq=>hD (q▸hlW);have ha':h'.get? a=some {cls:=.type "list",data:=.seq items n}:=(hs.2 a aL).trans ha;have perm:∀d∈(a::W)++Γ.Do,d∈W++(a::Γ.Do):=MM (LO (aad _ (.head _)) λd q=>aah _ q) λd q=>aad _ (.tail _ q);have same:∀{y st val},vs.lookup y=some st->fX s.heap (W++(a::Γ.Do)) W val st->fX h' ((a::W)++Γ.Do) (a::W) val st:=λ{y st val} hy d=>
  (fX.same hs (D:=W++(a::Γ.Do)) (aah _ F.lW) (λb hb=>(F.gH y st b hy hb).1) d).less perm (λd _ hW=>.tail _ hW)
 have Xm:a∉W:=λq=>hD (aah _ q);have Qx:∀{y st},vs.lookup y=some st->a∉foot st:=λ{y st} hy q=>Xm (F.gH y st a hy q).2.2.1;have kc:∀{c v},c≠Γ.env.locals->s.heap.IsCell c v->h'.IsCell c v:=λ{c v} hn ⟨o,ho,hd⟩=>⟨o,(hs.2 c hn).trans ho,hd⟩;refine⟨F.kind,F.glob,F.bi,⟨_,hn,λy st hy hk=>?_⟩,λy st hy hk=>?_,λy hy=>?_,.tail _ F.lW,ye,λd hd=>?_,λd hd=>?_,F.apart,λy c h=>⟨?_,(F.cI y c h).2⟩,F.fY,λy st b hy hb=>?_,λy z st jg b hy hz hb hb'=>?_⟩
 .replace hy:=(au ..)▸hy
  split at hy
  .rename_i e;subst e;cases hy
   exact⟨.ref a,by simp,J,.head _,items,n,ha',(ds ((Γ.env.locals)::((a::W)++Γ.Do))).kept (W:=[Γ.env.locals]) (gK hs) (λd hd=>by exact rl (aam.mp hd) ((.head _))) (λd hd=>.inl (.tail _ hd))⟩
  .rename_i e
   refine nb λnn=>?_;obtain⟨b,hb,d⟩:=hv y st hy hk;exact nn<|⟨b,by simp only[if_neg e];exact hb,same hy d⟩
 .replace hy:=(au ..)▸hy
  split at hy
  .rename_i e;subst e;replace hk:=hx▸hk;rcases hk with q |q<;>cases q
  .obtain⟨c,b,h1,h2,d⟩:=F.cell y st hy hk
   exact⟨c,b,h1,kc (F.fY y c h1) h2,same hy d⟩
 .obtain⟨c,b,h1,h2,h3⟩:=F.zS y hy
  exact⟨c,b,h1,.tail _ h2,kc (F.fY y c h1) h3⟩
 .cases hd with
  |head=>exact hH
  |tail _ q=>exact F.lo d q
 .have:=F.hi d (perm d hd)
  exact aao this (by exact rl hs.1 ((aaq _)))
 .rcases aag.mp (hc y c h) with q |q
  .exact aah _ (.tail _ q)
  .exact aad _ q
 .replace hy:=(au ..)▸hy
  split at hy
  .refine nb λnn=>?_
   cases hy;have hb':b=a:=aam.mp hb;refine nn ?_;refine rl hb' ?_;exact⟨aL,λz c h q=>hD (q▸hc z c h),.head _,λq=>hD (aad _ q)⟩
  .have o:=F.gH y st b hy hb
   exact⟨o.1,o.2.1,.tail _ o.2.2.1,λq=>o.2.2.2 (.tail _ q)⟩
 .rw[au] at hy hz
  split at hy
  .rename_i e;cases hy
   split at hz
   .rename_i e';exact e.trans e'.symm
   .replace hb':=(aam.mp hb)▸hb';exact(Qx hz hb').elim
  .split at hz
   .cases hz;replace hb:=(aam.mp hb')▸hb;exact(Qx hy hb).elim
   .exact F.iY y z st jg b hy hz hb hb'
end
inductive M_(C:Cx)(Γ:Gm)(W:acq)(s:Shared)(vs:aC)(x:Str)(l:acw)(f:Flow)(s':Shared):Prop
 |mk:f = .next->(a:Addr)->s.heap.objs.size<=a->Fm C Γ (a::W) s'.heap (aG vs x (.own a l))->bL C W s s'->Inv C s'->M_ C Γ W s vs x l f s'
noncomputable def uE(C:Cx)(Γ:Gm)(vs:aC)(st:Stmt)(x:Str)(l:acw):Prop:=
 ∀A s W,Good Γ.k A->Inv C s->Fm C Γ W s.heap vs->wpAny (model P0 C.w) A (exec st Γ.env) (M_ C Γ W s vs x l) ig s
section
variable{C:Cx}{Γ:Gm}{W D D' X X' Z iU Wk O:acq}{s s' aq:Shared}{vs vs' d7:aC}{A:Around}{E:ach}{e:Expr}{v m:MV}{k:Nat}{ms outs l l':acw}{a:Addr}{g B:Nat}{x:Str}{fl:Fl}{st:Stmt}{ss:acr}{h h':Heap}{pr:Bool}
theorem kR(F:Fm C (cz Γ (a::Γ.Do)) W s.heap vs)(I:Inv C s){items:aco}{n:Nat}(hx:Γ.env.kindOf x=some .local)
 (ha:s.heap.get? a=some {cls:=.type "list",data:=.seq items n}) (hD:a∉W++Γ.Do) (hH:C.H.objs.size<=a) (ds:∀D',bD s.heap D' items.toList l) (hc:∀y c,Γ.env.cells.lookup y=some c->c∈W++Γ.Do) (ye:∀d∈C.tabs,d∈Γ.Do) {Q:Unit->Shared->Prop}
 (h:∀s',Fm C Γ (a::W) s'.heap (aG vs x (.own a l))->bL C W s s'->Inv C s'->Q () s'):wpAny (model P0 C.w) A (storeName Γ.env x (.ref a)) Q E s:=by
 obtain⟨mm,hm,hv⟩:=F.ns;refine wpAny_storeName_local hx hm (λh' hn hs=>h _ (Fm.Xl F hx hm hv hn hs ha hD hH ds hc ye) (bL.same hs F.lW) (I.same hs (F.lo _ F.lW))) ?_;have:=F.kind;have k2:Γ.env.scope.kind = .function:=this;refine rl k2 ?_;rfl
theorem iG{p p':Pos}(H:L0 C Γ vs e l)(hf:l.all oz=true)(hx:Γ.env.kindOf x=some .local)(hs:swapsWith e (some (.Name x p')) p.line Γ.env=pure false):uE C Γ vs (.Assign [.Name x p'] e p) x l:=λA s W G I F=>
 ab_ (cS (H A s W G I F) λv aq bI=>by
  refine nb λnn=>?_;obtain⟨⟨d,t,aF⟩,a,hv,j9⟩:=bI;subst hv;cases d.jW with
  |mk _ items n hg na ds=>
   exact nn<|kR (F.fresh I t (X:=[a]) (λd hd=>by exact rl (aam.mp hd) (⟨j9,aaB hg⟩))) aF hx hg na (aaf I.size j9) (λD'=>ds.ints hf) (λy c hc=>(F.cI y c hc).1) F.tabs λav bO aY bu=>⟨J,a,j9,bO,t.up.eS aY,bu⟩) hs
theorem Ds{scope:Scope}{elt t iter:Expr}{ifs:acs}{pos spos py:Pos}{y:Str}{out:acw}{gs:List Comprehension}(Hi:OY C Γ vs iter pr ms)
 (H:∀L Do,kL C (gC Γ scope L Do) (.ListComp elt (⟨t,iter,ifs,0⟩::gs) scope pos) pr ms (iA scope vs) out) (eN:ic scope=true) (hcl:gI scope Γ.env vs=true) (hnd:(vs.map (·.1)).Nodup)
 (hs:∀x,foldedSetIterable iter Γ.env x=pure x) (hf:out.all oz=true) (hy:Γ.env.kindOf y=some .local) (hsw:EU scope y py pos Γ.env) :
 uE C Γ vs (.Assign [.Name y py] (.ListComp elt (⟨t,iter,ifs,0⟩::gs) scope pos) spos) y out:=λA s W G I F=>by
 refine rl (exec_Assign_Name_used _ _ _ _ (Zg hsw)) ?_;refine aal (aaY (aal ?_));show wpAny _ A (do let _ <- comprehension (.ListComp elt (⟨t,iter,ifs,0⟩::gs) scope pos) scope Γ.env _ (newList []) false (eval iter Γ.env) (some (assign (.Name y py) Γ.env))) _ _ s;refine aal (aaQ (oB (use:=some (assign (.Name y py) Γ.env)) (Q:=λ_=>M_ C Γ W s vs y out .next) (E:=ig) Hi H eN hcl hnd hs G I F λs' acc L m d t' I' hn hL hac=>?_) (λ_ s' hq=>aat (aat hq)) λ_ _ e=>e);have Lf:∀d∈W++Γ.Do,d≠L:=λd hd q=>absurd (F.hi d hd) (by exact rl q ((aaw.mpr hL)));refine nb λnn=>?_;cases d with
 |lst _ items n _ hg na ds=>
  have FL:Fm C (cz (cz Γ (L::Γ.Do)) (acc::(L::Γ.Do))) W s'.heap vs:=F.fresh I t' (X:=[acc,L]) (λd hd=>by
   rcases aap.mp hd with q |q
   .exact rl q (⟨hac.1,aaB hg⟩)
   .exact rl (aam.mp q) (⟨hL,hn.lt⟩))
  have naL:acc∉W++(L::Γ.Do):=λq=>by
   rcases aag.mp q with q |q
   .exact na (.tail _ (aah _ q))
   .rcases aap.mp q with q |q
    .exact hac.2 q
    .exact na (.tail _ (aad _ q))
  refine nn ?_;show wpAny _ A (assign (.Name y py) Γ.env (.ref acc)) _ _ _;refine wpAny_assign_Name (kR (Γ:=cz Γ (L::Γ.Do)) FL I' hy hg naL (aaf I.size hac.1) (λD'=>ds.ints hf) (λy c hc=>?_) (λd hd=>.tail _ (F.tabs d hd)) λav bO aY bu=>?_)
  .rcases aag.mp (F.cI y c hc).1 with q |q
   .exact aah _ q
   .exact aad _ (.tail _ q)
  have LW:L∉acc::W:=λq=>by
   rcases aap.mp q with q |q
   .exact hac.2 q.symm
   .exact Lf L (aah _ q) J
  have hn₂:av.heap.Ns L m:=abY hn λo e=>aY.keep L o (λq=>(aag.mp q).elim (λq=>LW (.tail _ q)) (aX I (aaf I.size hL))) e;refine⟨m,hn₂,λh' kq=>?_⟩;have cW:bL C [L] av {av with heap:=h'}:=bL.same (tk:=av.toks) kq (.head _);have cL:∀x c,Γ.env.cells.lookup x=some c->c∉[L]:=λx c hc q=>by replace hc:=(aam.mp q)▸hc;exact Lf L (F.cI x L hc).1 J
  have iz:=bO.jj bu cW (λz hz=>by exact rl (aam.mp hz) ((.head _))) (λz hz=>by exact rl (aam.mp hz) LW) cL;have jA:=iz.change (Wk:=[]) (iU:=Γ.Do) (h':=h') (λ_ _ _ e=>e) (aaq _) (λ_ q=>nomatch q) (λ_ q=>nomatch q) (λ_ _ _ q=>nomatch q) (λz hz=>.inl (.tail _ hz)) F.tabs (λz hz=>iz.hi z (aad _ (.tail _ hz))) (λx c hc=>?_)
  .refine⟨J,acc,hac.1,jA,?_,bu.same (tk:=av.toks) kq (aaf I.size hL)⟩
   exact(t'.up.eS aY).trans cW (λz q=>.inl q) (λz hz=>by exact rl (aam.mp hz) ((.inr hL)))
  .rcases aag.mp (F.cI x c hc).1 with q |q
   .exact aah _ (.tail _ q)
   .exact aad _ q
theorem Fx{scope:Scope}{elt t iter:Expr}{ifs:acs}{pos spos py:Pos}{y:Str}{out:acw}(Hi:rR C Γ vs iter pr ms)
 (H:∀L Do,x9 C (gC Γ scope L Do) t ifs elt ms (iA scope vs) out) (ht:pr=true->∃es x1 p,t = .Tuple es x1 p) (eN:ic scope=true) (hcl:gI scope Γ.env vs=true) (hnd:(vs.map (·.1)).Nodup) (hlen:ms.length<=1000)
 (hs:∀x,foldedSetIterable iter Γ.env x=pure x) (hf:out.all oz=true) (hy:Γ.env.kindOf y=some .local) (hsw:EU scope y py pos Γ.env) :
 uE C Γ vs (.Assign [.Name y py] (.ListComp elt [⟨t,iter,ifs,0⟩] scope pos) spos) y out:=Ds Hi.toC (λL Do=>kL.one (H L Do) ht hlen) eN hcl hnd hs hf hy hsw
end
section
variable{C:Cx}{Γ:Gm}{W D D' X X' Z iU Wk O:acq}{s s' aq:Shared}{vs vs' d7:aC}{A:Around}{E:ach}{e:Expr}{v m:MV}{k:Nat}{ms outs l l':acw}{a:Addr}{g B:Nat}{x:Str}{fl:Fl}{st:Stmt}{ss:acr}{h h':Heap}{pr:Bool}
theorem yf(H:uE C Γ vs st x l)(T:∀a,Body C Γ (aG vs x (.own a l)) ss v):Body C Γ vs (st::ss) v:=λA s W G I F=>
 aas (cS (H A s W G I F) λf aq bI=>by
  obtain⟨hf,a,j9,aU,a_,aF⟩:=bI;subst hf;exact cS (T a A aq (a::W) G aF aU) λf av q=>q.trans (λd hd=>by
   rcases aap.mp hd with z |z
   .exact rl z ((.inr j9))
   .exact .inl z) a_)
theorem Bv(H:uE C Γ vs st x l)(hx:Γ.env.kindOf x=some .local)(T:∀a,mz C Γ (aG vs x (.own a l)) ss fl (aG (aG vs x (.own a l)) x (.own a l'))):mz C Γ vs (st::ss) fl (aG vs x (.v (.lst l'))):=λA s W G I F=>
 aas (cS (H A s W G I F) λf aq bI=>by
  obtain⟨hf,a,j9,aU,a_,aF⟩:=bI;subst hf;have hW:∀d∈a::W,d∈W\/s.heap.objs.size<=d:=λd hd=>by
   rcases aap.mp hd with z |z
   .rw[z];exact .inr j9
   .exact .inl z
  refine cS (T a A aq (a::W) G aF aU) λf av q=>?_;obtain⟨rH,h1,h2,bO,aY,bu⟩:=q.trans hW a_;have iz:=bO.freeze (x:=x) (a:=a) (l:=l') (by exact rl (au ..) (rl (aaN J ..) J)) hx;refine⟨_,λd hd=>h1 d (aaG.mp hd).1,h2,iz.sub λy st hy=>?_,aY,bu⟩;replace hy:=(au ..)▸hy;refine rl (au ..) ?_;split at hy
  .rename_i he;exact rl (aaN he ..) hy
  .rename_i kI
   exact rl (aaD kI ..) (rl (au ..) (rl (aaD kI ..) (rl (au ..) (rl (aaD kI ..) hy)))))
theorem qQ(hv:vs.lookup x=some (.own a l))(hx:Γ.env.kindOf x=some .local)(T:Body C Γ (aG vs x (.v (.lst l))) ss v):Body C Γ vs ss v:=λA s W G I F=>
 cS (T A s _ G I (F.freeze hv hx)) λf s' bI=>by obtain⟨h1,h2,h3⟩:=bI;exact⟨h1,h2.weak λd hd=>(aaG.mp hd).1,h3⟩
theorem jq(hv:vs.lookup x=some (.own a l))(hx:Γ.env.kindOf x=some .local)(F:Fm C Γ W s.heap vs){p:Pos}(hd:(x==("__debug__":Str))=false){Q:ach}(h:Q (.ref a) s):wpAny (model P0 C.w) A (eval (.Name x p) Γ.env) Q E s:=by refine nb λnn=>?_;obtain⟨mm,hn,hl⟩:=F.ns;obtain⟨w,ha,d⟩:=hl x _ hv hx;obtain⟨rfl,_⟩:=d;exact nn<|wpAny_Name (wpAny_loadName_local F.kind hx hn ha h) hd
theorem iH(hv:vs.lookup x=some (.own a l))(hx:Γ.env.kindOf x=some .local)(F:Fm C Γ W s.heap vs):a∈W/\∃items n,s.heap.get? a=some {cls:=.type "list",data:=.seq items n}/\bD s.heap (W++Γ.Do) items.toList l:=by refine nb λnn=>?_;obtain⟨mm,hn,hl⟩:=F.ns;obtain⟨w,ha,d⟩:=hl x _ hv hx;exact nn<|d.2
theorem Fm.set_own(F:Fm C Γ W s.heap vs)(hv:vs.lookup x=some (.own a l))(hx:Γ.env.kindOf x=some .local){h':Heap}(hs:Heap.SameBut a s.heap h'){items:aco}{n:Nat}(ha:h'.get? a=some {cls:=.type "list",data:=.seq items n})(ds:bD s.heap (W++Γ.Do) items.toList l') :
 Fm C Γ W h' (aG vs x (.own a l')):=by
 have ql:=(iH hv hx F).1;have aD:a∈W++Γ.Do:=aah _ ql;have loc:=(F.gH x _ a hv (.head _)).1;have Xn:=(F.gH x _ a hv (.head _)).2.1;have Xo:=(F.gH x _ a hv (.head _)).2.2;have same:∀{y st val},y≠x->vs.lookup y=some st->fX s.heap (W++Γ.Do) W val st->fX h' (W++Γ.Do) W val st:=λ{y st val} kI hy d=>fX.same hs aD (λb hb q=>kI (F.iY y x st _ a hy hv (q▸hb) (.head _))) d;have kc:∀{c v},c≠a->s.heap.IsCell c v->h'.IsCell c v:=λ{c v} hn ⟨o,ho,hd⟩=>⟨o,(hs.2 c hn).trans ho,hd⟩;refine⟨F.kind,F.glob,F.bi,?_,λy st hy hk=>?_,λy hy=>?_,F.lW,F.tabs,F.lo,λd hd=>by exact rl hs.1 ((F.hi d hd)),F.apart,F.cI,F.fY,λy st b hy hb=>?_,λy z st jg b hy hz hb hb'=>?_⟩
 .obtain⟨mm,hn,hl⟩:=F.ns
  refine⟨mm,abY hn λo e=>(hs.2 _ (abw loc)).trans e,λy st hy hk=>?_⟩;replace hy:=(au ..)▸hy;split at hy
  .rename_i e;subst e;cases hy
   refine nb λnn=>?_;obtain⟨w,hw,rfl,_⟩:=hl _ _ hv hk;exact nn<|⟨_,hw,J,ql,items,n,ha,ds.kept (W:=[a]) (gK hs) (λd hd=>by exact rl (aam.mp hd) aD) (λ_ q=>.inl q)⟩
  .rename_i e
   obtain⟨w,hw,d⟩:=hl y st hy hk;exact⟨w,hw,same e hy d⟩
 .replace hy:=(au ..)▸hy
  split at hy
  .rename_i e;subst e;replace hk:=hx▸hk;rcases hk with q |q<;>cases q
  .rename_i e
   refine nb λnn=>?_;obtain⟨c,b,h1,h2,d⟩:=F.cell y st hy hk;exact nn<|⟨c,b,h1,kc (Xn y c h1) h2,same e hy d⟩
 .obtain⟨c,b,h1,h2,h3⟩:=F.zS y hy
  exact⟨c,b,h1,h2,kc (Xn y c h1) h3⟩
 .replace hy:=(au ..)▸hy
  split at hy
  .refine nb λnn=>?_
   cases hy;refine nn ?_;refine rl (aam.mp hb) ?_;exact⟨loc,Xn,Xo⟩
  .exact F.gH y st b hy hb
 .rw[au] at hy hz
  split at hy
  .rename_i e;cases hy
   split at hz
   .rename_i e';exact e.trans e'.symm
   .exact rl e ((F.iY x z _ jg b hv hz hb hb'))
  .split at hz
   .rename_i e';cases hz;exact rl e' ((F.iY y x st _ b hy hv hb hb'))
   .exact F.iY y z st jg b hy hz hb hb'
theorem bD.Xp{w:Value}(d:Den h D w m):∀{l:acw}{L:acp}{i:Nat},bD h D L l->bD h D (L.set i w) (l.set i m):=by
 intro ll
 induction ll with
 |nil=>
  intro _ _ e;exact rl e.g7 (.nil)
 |cons _ _ ih=>
  intro _ i e;cases e.d8 with
  |mk d1 d2=>cases i with
   |zero=>exact .cons d d2
   |succ i=>exact .cons d1 (ih d2)
theorem bD.set{items:aco}(ds:bD h D items.toList l){i:Nat}{w:Value}(d:Den h D w m):bD h D (items.setIfInBounds i w).toList (l.set i m):=by refine rl Array.toList_setIfInBounds ?_;exact bD.Xp d ds
theorem bD.snoc{w:Value}(d:Den h D w m):∀{l:acw}{L:acp},bD h D L l->bD h D (L++[w]) (l++[m]):=by
 intro ll
 induction ll with
 |nil=>
  intro _ e;exact rl e.g7 ((.cons d .nil))
 |cons _ _ ih=>
  intro _ e;exact by cases e.d8 with |mk d1 d2=>exact .cons d1 (ih d2)
theorem jr{i:Expr}{p pos:Pos}{j:Int}(hv:vs.lookup x=some (.own a l))(hx:Γ.env.kindOf x=some .local)(hd:(x==("__debug__":Str))=false)(Hi:Ev C Γ vs i (.int j))(h0:0<=j)(h1:j<2^63)(hl:l[j.toNat]?=some v)
 (hs:∀a b,subscripted i false a b=operate [a,b] (getItem a b)):Ev C Γ vs (.Subscript (.Name x p) i pos) v:=λA s W G I F=>
 Subscript_ (jq hv hx F hd (Hi.use G I F λb av bG aY bu bO=>by
  refine nb λnn=>?_;cases bG.eL with
  |mk t=>
   obtain⟨ql,items,n,hg,ds⟩:=iH hv hx bO;obtain⟨w,hx',dx⟩:=ds.get hl;have il:av.heap.IsList a items:=⟨_,hg,J,n,J⟩;exact nn<|tail_any il.typeIs slot_list_getitem.lookup (wpAny_getItem_list il h0 h1 (by simpa using hx') ⟨dx,aY,bu⟩) (hs _ _)))
end
section
variable{C:Cx}{Γ:Gm}{W D D' X X' Z iU Wk O:acq}{s s' aq:Shared}{vs vs' d7:aC}{A:Around}{E:ach}{e:Expr}{v m:MV}{k:Nat}{ms outs l l':acw}{a:Addr}{g B:Nat}{x:Str}{fl:Fl}{st:Stmt}{ss:acr}{h h':Heap}{pr:Bool}
theorem rT(F:Fm C Γ W s.heap vs)(I:Inv C s)(hv:vs.lookup x=some (.own a l))(hx:Γ.env.kindOf x=some .local){h':Heap}(hs:Heap.SameBut a s.heap h'){items:aco}{n:Nat}(ha:h'.get? a=some {cls:=.type "list",data:=.seq items n})(ds:bD s.heap (W++Γ.Do) items.toList l'){tk:Nat} :
 Ew C Γ W s .next (aG vs x (.own a l')) .next {s with heap:=h',toks:=tk}:=by
 have ql:=(iH hv hx F).1;exact⟨W,λd q=>.inl q,trivial,F.set_own hv hx hs ha ds,bL.same hs ql,I.same hs (F.lo a ql)⟩
theorem qR{i e:Expr}{p sp pos:Pos}{j:Int}(hv:vs.lookup x=some (.own a l))(hx:Γ.env.kindOf x=some .local)(hd:(x==("__debug__":Str))=false)(He:Ev C Γ vs e m)(Hi:Ev C Γ vs i (.int j))(h0:0<=j)(h1:j<2^63)(hl:j<l.length)
 (hs:swapsWith e (some (.Subscript (.Name x p) i sp)) pos.line Γ.env=pure false):gq C Γ vs (.Assign [.Subscript (.Name x p) i sp] e pos) .next (aG vs x (.own a (l.set j.toNat m))):=λA s W G I F=>
 wpAny_Assign_Subscript (He.use G I F λw aq bx a_ aF aU=>jq hv hx aU hd (Hi.use G aF aU λb av bG aY bu bO=>by
  refine nb λnn=>?_;cases bG.eL with
  |mk t=>
   obtain⟨ql,items,n,hg,ds⟩:=iH hv hx bO;have hn:j<items.size:=by have:=ds.length;simp only[Array.length_toList] at this;exact Y9 hl this
   refine nn<|ki_setAt hg h0 h1 hn ?_
   refine Ew.trans (λd q=>.inl q) (a_.then aY).up (rT (tk:=av.toks) bO bu hv hx (Heap.SameBut.update ..) (n:=_) (ab9 (Obj.mapSeq (·.setIfInBounds j.toNat w)) hg J) (ds.set (bx.dJ aF aY aU.cj))))) hs
theorem qS{i e:Expr}{op:Operator}{p sp pos:Pos}{j:Int}{m₀ m₁ m₂:MV}(hv:vs.lookup x=some (.own a l))(hx:Γ.env.kindOf x=some .local)(hd:(x==("__debug__":Str))=false)(He:Ev C Γ vs e m₁)(Hi:Ev C Γ vs i (.int j))(h0:0<=j)(h1:j<2^63)(hl:l[j.toNat]?=some m₀)
 (HO:ou C Γ.k op m₀ m₁ m₂) (hi:∀ov iv new,augStore i ov iv new=(do holding [new,ov,iv] (setItem ov iv new);release [new,ov,iv] [];pure .next):=by intros;rfl):gq C Γ vs (.AugAssign (.Subscript (.Name x p) i sp) op e pos) .next (aG vs x (.own a (l.set j.toNat m₂))):=λA s W G I F=>
 wpAny_AugAssign_SubscriptAny (jq hv hx F hd (Hi.use G I F λb av bG aY bu bO=>by
  refine nb λnn=>?_;cases bG.eL with
  |mk t=>
   obtain⟨ql,items,n,hg,ds⟩:=iH hv hx bO;obtain⟨w,hx',dx⟩:=ds.get hl;have il:av.heap.IsList a items:=⟨_,hg,J,n,J⟩;refine nn<|wpAny_getItem_list il h0 h1 (by simpa using hx') ?_
   refine He.use G bu bO λy bH d₃ cW ez iz=>cS (HO A bH _ w y G ez iz.mw (dx.dJ bu cW bO.cj) d₃) λz fF ⟨zW,jh,jZ⟩=>?_;have jA:=iz.dJ ez jh;refine nb λnn=>?_;obtain⟨_,items',n',hg',ds'⟩:=iH hv hx jA;have hlen:j<l.length:=by have:=(abx.mp hl).1;exact T4 this
   have hn:j<items'.size:=by have:=ds'.length;simp only[Array.length_toList] at this;exact Y9 hlen this
   refine nn<|ki_setAt hg' h0 h1 hn ?_
   exact Ew.trans (λd q=>.inl q) ((aY.then cW).then jh).up (rT (tk:=fF.toks) jA jZ hv hx (Heap.SameBut.update ..) (n:=_) (ab9 (Obj.mapSeq (·.setIfInBounds j.toNat z)) hg' J) (ds'.set zW)))) hi
theorem eX{elt:Expr}{p apos pos epos:Pos}(hv:vs.lookup x=some (.own a l))(hx:Γ.env.kindOf x=some .local)(hd:(x==("__debug__":Str))=false)(He:Ev C Γ vs elt m)(hlen:l.length<=1000)
 (hbase:attributeBase (.Name x p) "append" Γ.env (eval (.Name x p) Γ.env)=eval (.Name x p) Γ.env)
 (hfew:((backTo pos (starEach [elt] Γ.env)).all (λx=>!x.1)&&(backToKw pos (keywordEach [] Γ.env)).all (λx=>x.1.isSome)
  && decide (([elt]:acs).length+([]:List Keyword).length+(if([]:List Keyword).isEmpty then 0 else 1)<30))=true)
 (hline:(apos.endLine==pos.line)=true) (htrees:backTo pos (starEach [elt] Γ.env)=[(false,eval elt Γ.env)]) (hint:interactive Γ.env=false) (hs:swapsWith (.Call (.Attribute (.Name x p) "append" apos) [elt] [] pos) none epos.line Γ.env=pure false) :
 gq C Γ vs (.Expr (.Call (.Attribute (.Name x p) "append" apos) [elt] [] pos) epos) .next (aG vs x (.own a (l++[m]))):=λA s W G I F=>
 wpAny_Expr (wpAny_Call_append hbase hfew hline htrees (jq hv hx F hd (by
  refine nb λnn=>?_;obtain⟨ql,items,n,hg,ds⟩:=iH hv hx F;refine nn<|⟨a,items,J,⟨_,n,hg,J,J,J⟩,He.use G I F λy aq bx a_ aF aU=>?_⟩
  refine nb λnn=>?_;obtain⟨_,items',n',hg',ds'⟩:=iH hv hx aU;refine nn<|wpAny_list_append_plain ⟨n',hg'⟩ (λh' ⟨n₂,hp⟩ Ja=>?_) (by have:=ds'.length;simp only[Array.length_toList] at this;rw[sizeLine];exact Y_ hlen this)
  exact Ew.trans (λd q=>.inl q) a_.up (rT (tk:=aq.toks) aU aF hv hx Ja hp (by exact rl Array.toList_push ((bD.snoc bx ds'))))))) hint hs
noncomputable def JS:MV->Bool
 |.int _=>true
 |.bool _=>true
 |.none=>true
 |.str _=>true
 |_=>false
theorem Bw(hv:vs.lookup x=some (.own a l))(hx:Γ.env.kindOf x=some .local)(H:Ev C Γ (aG vs x (.v (.lst l))) e v)(hf:JS v=true):Ev C Γ vs e v:=λA s W G I F=>
 cS (H A s _ G I (F.freeze hv hx)) λy s' bI=>by obtain⟨d,t,I'⟩:=bI;exact⟨by cases d<;>first |(cases hf;done) |constructor,t,I'⟩
end
structure JT(C:Cx)(Cc:Addr):Prop where
 hg:plainGet C.K Cc "__class__"=true
 hdct:hasDictIn C.K Cc=true
 ha:findIn C.K (.ref Cc) "__class__"=some (some (.builtin "object.__class__"))
 hn:specialIn C.K (.builtin "object.__class__") "__get__"=some (some (.builtin "getset_descriptor.__get__"))
 htk:takesIn C.K (.builtin "object.__class__")=some true
 hm:mroIn C.K Cc (.type "object")=some true
noncomputable def BX(C:Cx)(k:Nat)(f:Value)(args:acw)(v:MV):Prop:=
 ∀A s D vals,Good k A->Inv C s->lg C D s.heap->bD s.heap D vals args->wpAny (model P0 C.w) A (call f vals) (nj C D s v) ig s
noncomputable def Xq:MV->Value
 |.int _=>.type "int"
 |.bool _=>.type "bool"
 |.none=>.type "NoneType"
 |.str _=>.type "str"
 |.lst _=>.type "list"
 |.tup _=>.type "tuple"
 |.inst _ Cc _=>.ref Cc
 |.bZ _=>.none
section
variable{C:Cx}{Γ:Gm}{W D D' X X' Z iU Wk O:acq}{s s' aq:Shared}{vs vs' d7:aC}{A:Around}{E:ach}{e:Expr}{v m:MV}{k:Nat}{ms outs l l':acw}{a:Addr}{g B:Nat}{x:Str}{fl:Fl}{st:Stmt}{ss:acr}{h h':Heap}{pr:Bool}
theorem bU{id:Str}{p pos:Pos}{args:acs}{f:Value}(Hf:Ev C Γ vs (.Name id p) (.bZ f))(Ha:rP C Γ vs args ms)(hk:jJ C.K f=true)(H:BX C Γ.k f ms v):Ev C Γ vs (.Call (.Name id p) args [] pos) v:=λA s W G I F=>
 iO Hf Ha hk G I F λvals aq d t aF aU=>cS (H A aq _ vals G aF aU.mw d) λr av x=>x.trans t
theorem iQ(hl:l.length<=1000):BX C k (.builtin "len") [.lst l] (.int l.length):=λA s D vals G I dk ds=>by
 cases ds.d8 with |mk d1 d2=>obtain rfl:=d2.g7;cases d1.jW with
 |mk b items n hg na dd=>
  have hz:items.size=l.length:=by have:=dd.length;simpa using this
  refine call_len_list ⟨_,hg,J,n,J⟩ (by exact rl hz ((Za hl))) ?_;refine rl hz ?_;exact⟨.int _ _,tok_stp _,tok_inv I _⟩
theorem JU(hl:l.length<=1000):∀A s D vals,Good k A->Inv C s->lg C D s.heap->bD s.heap D vals [.lst l]->wpAny (model P0 C.w) A (call (.type "list") vals) (λx s'=>nj C D s (.lst l) x s'/\∃a,x = .ref a/\s.heap.objs.size<=a) ig s:=λA s D vals G I dk ds=>by
 cases ds.d8 with |mk d1 d2=>obtain rfl:=d2.g7;cases d1.jW with
 |mk b items n hg na dd=>
  have hz:items.size=l.length:=by have:=dd.length;simpa using this
  refine fQ (Q:=λx s'=>∃h' c',(∀b o',s.heap.get? b=some o'->h'.get? b=some o')/\h'.get? s.heap.objs.size=some {cls:=.type "list",data:=.seq items c'}/\x = .ref s.heap.objs.size/\s'={s with heap:=h'})
   (call_list_seq b (.inl J) hg J J (λh' c' h1 h2=>⟨h',c',h1,h2,J,J⟩) (by rw[hz,sizeLine];omega)) ?_
  rintro x s' hsz ⟨h',c',h1,h2,rfl,rfl⟩;refine⟨⟨.lst _ items c' l h2 (λq=>absurd (dk.hi _ q) (aa8 _)) (dd.kept (W:=[]) (λb o _ e=>h1 b o e) n0 (λ_ q=>.inl q)),bL.heap (tk:=s.toks) hsz (λb o _ e=>h1 b o e),?_⟩,_,J,aaq _⟩;exact I.ext h1 (aaf I.size hsz)
theorem bR{c:Value}{b:Bool}(e:kitOne C.K (Xq m) c=some b)(hk:∀x? Cc fs,m = .inst x? Cc fs->JT C Cc)(hm:lu m=true)(hs:∀w,m≠.bZ w):BX C k (.builtin "isinstance") [m,.bZ c] (.bool b):=λA s D vals G I dk ds=>by
 cases ds.d8 with |mk d1 d2=>cases d2.d8 with |mk d3 d4=>
 obtain rfl:=d4.g7;obtain⟨q,hc⟩:=d3.oZ;cases q.symm;have fin:∀{x:Value}{t:Value}{H:Heap->Prop},KitX C.K x t H->H s.heap->kitOne C.K t c=some b->x≠.builtin "__main__.__loader__#opaque"->wpAny (model P0 C.w) A (call (.builtin "isinstance") [x,c]) (nj C D s (.bool b)) ig s:=
  λZ p e hx=>kia_one Z I.om p e hx λtk=>⟨.bool _,tok_stp _,tok_inv I _⟩
 cases d1 with
 |int i t=>exact fin kitx_int trivial e (λq=>nomatch q)
 |bool y=>exact fin kitx_bool trivial e (λq=>nomatch q)
 |none=>exact fin kitx_none trivial e (λq=>nomatch q)
 |str y t=>exact fin kitx_str trivial e (λq=>nomatch q)
 |bZ w _=>exact absurd J (hs _)
 |tup a items n l hg _ _=>exact fin kitx_tuple ⟨_,hg,J⟩ e (λq=>nomatch q)
 |lst a items n l hg _ _=>exact fin kitx_list ⟨_,hg,J⟩ e (λq=>nomatch q)
 |inst x? y dx Cc es n vals fs ex hi nx nd df=>
  have K:=hk _ _ _ J;exact fin (kitx_own K.hg K.hdct K.ha K.hn K.htk K.hm) hi.at e (λq=>nomatch q)
theorem eV{x?:acn}{Cc:Addr}{fs:acj}:BX C k (.type "type") [.inst x? Cc fs] (.bZ (.ref Cc)):=λA s D vals G I dk ds=>by
 cases ds.d8 with |mk d1 d2=>obtain rfl:=d2.g7;cases d1.eU with
 |mk y dx es n vals ex hi nx nd df=>
  exact call_type_obj (h:=s.heap) (g:=s.gens) (t:=s.toks) (os:=s.os) hi.1 J ⟨.bZ _ J,bL.refl _ _ _,I⟩
theorem Ab(hl:l.length+l'.length<=1000):∀A s D x y,Good k A->Inv C s->lg C D s.heap->Den s.heap D x (.lst l)->Den s.heap D y (.lst l')->wpAny (model P0 C.w) A (binaryOp .Add x y) (λx s'=>nj C D s (.lst (l++l')) x s'/\∃a,x = .ref a/\s.heap.objs.size<=a) ig s:=λA s D x y G I dk bx bG=>by
 cases bx.jW with
 |mk a items n hg na dd=>
 cases bG.jW with
 |mk b items2 n2 hg2 nb dd2=>
  have hz:items.size=l.length:=by have:=dd.length;simpa using this
  have hz2:items2.size=l'.length:=by have:=dd2.length;simpa using this
  have app:∀{L L2:acp}{M M2:acw},bD s.heap D L M->bD s.heap D L2 M2->bD s.heap D (L++L2) (M++M2):=by
   intro L
   induction L with
   |nil=>intro L2 M M2 h1 h2;cases h1;exact h2
   |cons q L ih=>intro L2 M M2 h1 h2;cases h1 with |cons p1 p2=>exact .cons p1 (ih p2 h2)
  refine PySem.P.add_list hg hg2 ?_ (by rw[hz,hz2,sizeLine];omega);have e:(items.toList++items2.toList).toArray=items++items2:=by rw[<- Array.toList_append]
  have:=o9 I dk (app dd dd2);rw[e] at this;exact⟨this,_,J,aaq _⟩
end
structure pG(op:Operator):Prop where
 ex:∃(id nm:String)(f:Int->Int->Sem Fin)(b:Bool),Slot "int" (PySem.dunder op.info.2) id/\entryFor table id=some (Builtin.Int.intBinary nm f b)/\(∀x y:Value,argsOk id ⟨[x,y],[]⟩)
section
variable{C:Cx}{Γ:Gm}{W D D' X X' Z iU Wk O:acq}{s s' aq:Shared}{vs vs' d7:aC}{A:Around}{E:ach}{e:Expr}{v m:MV}{k:Nat}{ms outs l l':acw}{a:Addr}{g B:Nat}{x:Str}{fl:Fl}{st:Stmt}{ss:acr}{h h':Heap}{pr:Bool}
theorem Dt:pG .Add:=⟨_,"__add__",_,false,PySem.F.slot_int_add,PySem.F.entry_int_add,PySem.F.args_int_add_2⟩
theorem Du:pG .Sub:=⟨_,"__sub__",_,false,PySem.F.slot_int_sub,PySem.F.entry_int_sub,PySem.F.args_int_sub_2⟩
theorem Dv:pG .Mult:=⟨_,"__mul__",_,false,PySem.F.slot_int_mul,PySem.F.entry_int_mul,PySem.F.args_int_mul_2⟩
theorem JV{op:Operator}(S:pG op){i:Int}{t:Tok}{y:Addr}{o:Obj}(hy:s.heap.get? y=some o)(hd:o.data = .plain){Q:Option Value->Shared->Prop}(h:Q none s):wpAny (model P0 C.w) A (tryMethod (.int i t) (PySem.dunder op.info.2) (.ref y)) Q E s:=by refine nb λnn=>?_;obtain⟨id,nm,f,b,slot,entry,args⟩:=S.ex;refine nn ?_;unfold tryMethod;refine aal (wpAny_callSpecial?_slot (T:="int") (typeIs_int _ _ _) slot (wpAny_call_entry (T:="int") slot (typeIs_int _ _ _) entry ?_ (args _ _)));unfold Builtin.Int.intBinary;refine aal (wpAny_of_eq (a:=(Value.int i t,[Value.ref y])) J ?_);refine aal (m:=Builtin.Int.intOfSelf _) (wpAny_of_eq (a:=i) J ?_);refine aal (m:=asInt? _) ?_;show wpAny _ _ (load y>>=_) _ _ _;refine aal (wpAny_load hy ?_);refine rl hd ?_;exact aat (aal (abR (aat ⟨_,J,aat h⟩)))
theorem JW{α:Type}{c:Prop}[Decidable c]{x y:Sem α}{Q:α->Shared->Prop}(hc:¬c)(h:wpAny (model P0 C.w) A y Q E s):wpAny (model P0 C.w) A (if c then x else y) Q E s:=by exact rl (aaD hc) h
theorem Qy{nm:String}{a b ta tb:Value}{p:Bool}{Q:Option Value->Shared->Prop}(L1:Looks (model P0 C.w) s.heap (typeOf a) ta)(L2:Looks (model P0 C.w) s.heap (typeOf b) tb)(kI:(ta==tb)=false)(L3:Looks (model P0 C.w) s.heap (fillsNumberSlot ta nm) true)(L4:Looks (model P0 C.w) s.heap (fillsNumberSlot tb nm) true)(L5:Looks (model P0 C.w) s.heap (isSubtype tb ta) false)
 (L6:Looks (model P0 C.w) s.heap (numberSlotInPython ta nm) p) (L7:p=true->Looks (model P0 C.w) s.heap (numberSlotInPython tb nm) true)
 (h:wpAny (model P0 C.w) A (tryMethod a (PySem.dunder nm) b) (λr aq=>(∃v,r=some v/\Q r aq)\/r=none/\p=false/\wpAny (model P0 C.w) A (tryMethod b (dunderR nm) a) (λr av=>∃v,r=some v/\Q r av) E aq) E s):wpAny (model P0 C.w) A (binaryOp1 nm a b) Q E s:=by
 unfold binaryOp1;refine aal (L1.at (aal (L2.at (aal (L3.at (JW (by refine rl kI ?_;decide) (aal (L4.at ?_))))))));cases p with
 |false=>
  ksp_lk
  refine aaQ h (λr aq bI=>?_) λ_ _ e=>e;rcases bI with⟨v,rfl,hq⟩ |⟨rfl,_,hq⟩
  .ksp_lk
   exact hq
  .ksp_lk
   refine aaQ hq (λr av bI=>?_) λ_ _ e=>e;obtain⟨v,rfl,hq⟩:=bI
   ksp_lk
   exact hq
 |true=>
  have L7:=L7 J
  ksp_lk
  refine aaQ h (λr aq bI=>?_) λ_ _ e=>e;rcases bI with⟨v,rfl,hq⟩ |⟨_,q,_⟩
  .ksp_lk
   exact hq
  .refine nb λnn=>?_
   cases q
theorem yh{op:Operator}{a b:Value}{Q:ach}(h:wpAny (model P0 C.w) A (binaryOp1 op.info.2 a b) (λr s'=>∃v,r=some v/\Q v s') E s):wpAny (model P0 C.w) A (binaryOp op a b) Q E s:=
 abL (aal (m:=binaryOp1 op.info.2 a b) (aaQ h (λr s' bI=>by refine nb λnn=>?_;obtain⟨v,rfl,hq⟩:=bI;exact nn<|aat hq) λ_ _ e=>e))
structure tn(C:Cx)(Cc:Addr)(op:Operator)(f:Addr):Prop where
 own:∃g:Addr,findIn C.K (.ref Cc) (PySem.dunder op.info.2)=some (some (.ref g))
 r:findIn C.K (.ref Cc) (dunderR op.info.2)=some (some (.ref f))
 fn:isFn C.K (.ref f)=true
 i1:∃fo,findIn C.K (.type "int") (PySem.dunder op.info.2)=some (some fo)/\isSeqSlot (some fo)=false
 i2:∃ro,findIn C.K (.type "int") (dunderR op.info.2)=some ro
 sub:subIn C.K (.ref Cc) (.type "int")=some false
theorem wD{op:Operator}{x?:acn}{Cc f:Addr}{fs:acj}{i:Int}(S:pG op)(K:EY C Cc)(aa:tn C Cc op f)(H:bJ C k (.ref f) [.inst x? Cc fs,.int i] [] v):uR C k op (.int i) (.inst x? Cc fs) v:=λA s D a b G I dk bx bG=>by
 have d1:=bx;have d2:=bG;refine nb λnn=>?_;cases bx.eL with
 |mk t=>
 cases bG.eU with
 |mk x dx es n vals ex hi nx nd df=>
  obtain⟨cd,rest,h_,hm⟩:=ksp_first K.first;have X:=I.om;obtain⟨g,hs⟩:=aa.own;obtain⟨fo,h1,hsq⟩:=aa.i1;obtain⟨ro,h2⟩:=aa.i2;have hr:=aa.r;have one:wpAny (model P0 C.w) A (tryMethod (.ref x) (dunderR op.info.2) (.int i t)) (λr s'=>∃y,r=some y/\nj C D s v y s') ig s:=
   ksp_try X hi.at hr aa.fn (g8 (H A s D [.ref x,.int i t] [] G I dk (.cons d2 (.cons d1 .nil)) .nil) λr s' q=>j0 q.1.xQ q)
  refine nn<|yh (Qy (p:=false) (Looks.of_pure J) hi.at.type (Bool.eq_false_iff.mpr λq=>nomatch aa3.mp q) (by have:=ksp_fillsT (M:=model P0 C.w) X h1 h2;simpa [hsq] using this) (fills_K X h_ hm hs) (looks_subIn X aa.sub) (Looks.of_pure J) (λq=>nomatch q) (JV S hi.1 J (.inr ⟨J,J,aaQ one (λr s' bI=>?_) λ_ _ e=>e⟩)))
  obtain⟨v,rfl,hq⟩:=bI;exact⟨v,J,v,J,hq⟩
end
section
structure wF(C:Cx)(Cc:Addr):Prop where
 at_:∀(h:Heap)(x:Addr)(o:Obj),C.K.In h->h.get? x=some o->o.cls = .ref Cc->h.CmpInst x Cc [.type "object"]
mutual
noncomputable def eW:Dat->MV
 |.none=>.none
 |.bool b=>.bool b
 |.int i=>.int i
 |.str x=>.str x
 |.bytes _=>.none
 |.tuple ds=>.tup (i0 ds)
 |.list ds=>.lst (i0 ds)
noncomputable def i0:List Dat->acw
 |[]=>[]
 |d::ds=>eW d::i0 ds
end
section
variable{C:Cx}{Γ:Gm}{W D D' X X' Z iU Wk O:acq}{s s' aq:Shared}{vs vs' d7:aC}{A:Around}{E:ach}{e:Expr}{v m:MV}{k:Nat}{ms outs l l':acw}{a b:Addr}{g B:Nat}{x:Str}{fl:Fl}{st:Stmt}{ss:acr}{h h':Heap}{pr:Bool}
theorem cM{Cc rJ:Addr}(M:wF C Cc)(M':wF C rJ){fs gs:acj}:iZ C k .NotEq (.inst (some a) Cc fs) (.inst (some b) rJ gs) (.bool (decide (a≠b))):=λA s D x y G I dk bx bG=>by
 cases bx.eU with
 |mk x dx es n vals ex hi nx nd df=>
  cases bG.eU with
  |mk y dy es' n' vals' ey hj ny ne LS=>
   have e1:=ex a J;have e2:=ey b J;subst e1 e2;have X:=M.at_ s.heap a _ I.om hi.1 J;have Y:=M'.at_ s.heap b _ I.om hj.1 J;have hu:A.units+1<cLine:=by have:=G.units;exact T5 this
   by_cases hab:a=b
   .subst hab
    exact compareOp_ne_same (h:=s.heap) (g:=s.gens) (d:=s.drawn) (t:=s.toks) (os:=s.os) PySem.F.cmp_object X hu (by simpa using nj.bool I false)
   .exact compareOp_ne_other (h:=s.heap) (g:=s.gens) (d:=s.drawn) (t:=s.toks) (os:=s.os) PySem.F.cmp_object PySem.F.cmp_object X Y hab hu (by simpa [hab] using nj.bool I true)
mutual
theorem i_:∀{v:Value}(d:Dat)(n:Nat),Den h D v (eW d)->kqdOk n d=true->∃as,Reads h v (kqdP d) as
 |_,.none,_,x,_=>by rw[eW] at x;cases x;exact⟨_,Reads.none⟩
 |_,.bool b,n,x,hk=>by cases n<;>simp[kqdOk] at hk
 |_,.int i,_,x,_=>by rw[eW] at x;cases x.eL;exact⟨_,Reads.int _ _⟩
 |_,.str y,_,x,_=>by rw[eW] at x;cases x;exact⟨_,Reads.str _ _⟩
 |_,.bytes _,n,x,hk=>by cases n<;>simp[kqdOk] at hk
 |_,.tuple ds,0,x,hk=>by simp[kqdOk] at hk
 |_,.list ds,0,x,hk=>by simp[kqdOk] at hk
 |_,.tuple ds,n+1,x,hk=>by
  rw[eW] at x;cases x.EL with
  |mk a items k hg na dd=>
   obtain⟨as,q⟩:=oF ds n dd (by simpa [kqdOk] using hk);exact⟨_,reads_tuple_at hg J J q⟩
 |_,.list ds,n+1,x,hk=>by
  rw[eW] at x;cases x.jW with
  |mk a items k hg na dd=>
   obtain⟨as,q⟩:=oF ds n dd (by simpa [kqdOk] using hk);exact⟨_,reads_list_at hg J J q⟩
theorem oF:∀{vs:acp}(ds:List Dat)(n:Nat),bD h D vs (i0 ds)->(∀d∈ds,kqdOk n d=true)->∃as,ReadsAll h vs (kqdPs ds) as
 |_,[],_,x,_=>by rw[i0] at x;obtain rfl:=x.g7;exact⟨_,ReadsAll.nil⟩
 |_,d::ds,n,x,hk=>by
  rw[i0] at x;cases x.d8 with
  |mk x1 x2=>
   obtain⟨as,q⟩:=i_ d n x1 (hk d (.head _));obtain⟨bs,r⟩:=oF ds n x2 (λe he=>hk e (.tail _ he));exact⟨_,ReadsAll.cons q r⟩
end
theorem lH{d:Dat}(hd:kqdOk 8 d=true):SeqAt.shaped (kqdP d)=true:=by have l:=kqd_lay 8 d hd;unfold SeqAt.shaped;exact rl l.1 (rl (Bool.true_and ..) ((aaK (aaf l.2 (by decide)))))
open Classical in
theorem Bx{d e:Dat}(hd:kqdOk 8 d=true)(he:kqdOk 8 e=true):PyData.eqv (kqdP d) (kqdP e)=decide (d=e):=by
 have q:=kqd_eqv 8 d e 8 hd he;by_cases hq:d=e
 .exact rl (aaK hq) ((q.mpr hq))
 .exact rl (aaH hq) ((Bool.eq_false_iff.mpr λx=>hq (q.mp x)))
open Classical in
theorem tu{d e:Dat}(hd:kqdOk 8 d=true)(he:kqdOk 8 e=true):iZ C (k+1) .Eq (eW d) (eW e) (.bool (decide (d=e))):=λA s D x y G I dk bx bG=>by obtain⟨as,ra⟩:=i_ d 8 bx hd;obtain⟨bs,rb⟩:=i_ e 8 bG he;exact eq_dataH ra rb (lH hd) (lH he) (by have:=G.units;exact S9 this) (by exact rl (Bx hd he) ((nj.bool I _)))
open Classical in
theorem lI{d e:Dat}(hd:kqdOk 8 d=true)(he:kqdOk 8 e=true):iZ C (k+1) .NotEq (eW d) (eW e) (.bool (decide (d≠e))):=λA s D x y G I dk bx bG=>by obtain⟨as,ra⟩:=i_ d 8 bx hd;obtain⟨bs,rb⟩:=i_ e 8 bG he;exact ne_dataH ra rb (lH hd) (lH he) (by have:=G.units;exact S9 this) (by refine rl (Bx hd he) ?_;simpa using nj.bool I (!decide (d=e)))
end
end
noncomputable def SR(C:Cx)(Γ:Gm)(vs:aC)(op:BoolOp):acs->Bool->Prop
 |[],b=>b=(op==.And)
 |x::r,b=>∃c,Ts C Γ vs x c/\(if c==(op==.And) then SR C Γ vs op r b else b=c)
section
variable{C:Cx}{Γ:Gm}{W D D' X X' Z iU Wk O:acq}{s s' aq:Shared}{vs vs' d7:aC}{A:Around}{E:ach}{e:Expr}{v m:MV}{k:Nat}{ms outs l l':acw}{a b:Addr}{g B:Nat}{x:Str}{fl:Fl}{st:Stmt}{ss:acr}{h h':Heap}{pr:Bool}
theorem JX{op:BoolOp}:∀(es:acs){s:Shared}{b:Bool},SR C Γ vs op es b->Good Γ.k A->Inv C s->Fm C Γ W s.heap vs->wpAny (model P0 C.w) A (allTrue op es Γ.env) (λr s'=>r=b/\bL C [] s s'/\Inv C s') ig s:=by
 intro ll
 induction ll with
 |nil=>
  intro s b H G I F;exact aat ⟨H.symm,bL.refl _ _ _,I⟩
 |cons x r ih=>
  intro s b Qz G I F;obtain⟨c,Hx,Hr⟩:=Qz;refine aal (cS (Hx A s W G I F) λc' aq bI=>?_);obtain⟨hc,t,aF⟩:=bI;subst hc;cases op<;>cases c'
  .exact aat ⟨Hr.symm,t,aF⟩
  .exact cS (ih Hr G aF (F.dJ I t)) λq av bI=>by obtain⟨h1,h2,h3⟩:=bI;exact⟨h1,t.then h2,h3⟩
  .exact cS (ih Hr G aF (F.dJ I t)) λq av bI=>by obtain⟨h1,h2,h3⟩:=bI;exact⟨h1,t.then h2,h3⟩
  .exact aat ⟨Hr.symm,t,aF⟩
theorem By{op:BoolOp}{es:acs}{pos:Pos}{b:Bool}(H:SR C Γ vs op es b):Ts C Γ vs (.BoolOp op es pos) b:=λA s W G I F=>wpAny_isTrue_BoolOp (JX es H G I F)
theorem tw{x y:Expr}{pos:Pos}{b c:Bool}(H:Ts C Γ vs x b)(H2:b=true->Ts C Γ vs y c):Ts C Γ vs (.BoolOp .And [x,y] pos) (b&&c):=
 By (by
  refine⟨b,H,?_⟩;cases b with
  |true=>exact⟨c,H2 J,by cases c<;>rfl⟩
  |false=>rfl)
theorem Fy{test b o:Expr}{p:Pos}{r:Bool}(T:Ts C Γ vs test true)(H:Ts C Γ vs b r):Ts C Γ vs (.IfExp test b o p) r:=λA s W G I F=>
 aal (cS (T A s W G I F) λc aq bI=>by obtain⟨hc,t,aF⟩:=bI;subst hc;exact cS (H A aq W G aF (F.dJ I t)) λq av bI=>by obtain⟨h1,h2,h3⟩:=bI;exact⟨h1,t.then h2,h3⟩)
theorem Fz{test b o:Expr}{p:Pos}{r:Bool}(T:Ts C Γ vs test false)(H:Ts C Γ vs o r):Ts C Γ vs (.IfExp test b o p) r:=λA s W G I F=>
 aal (cS (T A s W G I F) λc aq bI=>by obtain⟨hc,t,aF⟩:=bI;subst hc;exact cS (H A aq W G aF (F.dJ I t)) λq av bI=>by obtain⟨h1,h2,h3⟩:=bI;exact⟨h1,t.then h2,h3⟩)
theorem wG{l₁ l₂:acw}{x y:Expr}{pos:Pos}(gE:Ev C Γ vs x (.lst l₁))(iI:Ev C Γ vs y (.lst l₂))(hl:l₁.length+l₂.length<=1000):L0 C Γ vs (.BinOp x .Add y pos) (l₁++l₂):=λA s W G I F=>
 wpAny_BinOp (gE.use G I F λa aq bx a_ aF aU=>iI.use G aF aU λb av bG aY bu bO=>
  cS (Ab (C:=C) (k:=Γ.k) hl A av _ a b G bu bO.mw (bx.dJ aF aY aU.cj) bG) λc bH bI=>by obtain⟨x,z,hz,hl⟩:=bI;exact⟨x.trans (a_.then aY),z,hz,aaf (a_.then aY).size hl⟩)
theorem n_{id:Str}{p pos:Pos}(Hf:Ev C Γ vs (.Name id p) (.bZ (.type "list")))(Ha:rP C Γ vs [e] [.lst l])(hl:l.length<=1000):L0 C Γ vs (.Call (.Name id p) [e] [] pos) l:=λA s W G I F=>
 iO Hf Ha J G I F λvals aq d t aF aU=>cS (JU (C:=C) (k:=Γ.k) hl A aq _ vals G aF aU.mw d) λr av bI=>by obtain⟨x,z,hz,hl⟩:=bI;exact⟨x.trans t,z,hz,aaf t.size hl⟩
theorem yi{o:Expr}{apos pos:Pos}(H:Ev C Γ vs o (.lst l))(hl:l.length<=1000)(he:gX o "copy" Γ.env apos pos 0):L0 C Γ vs (.Call (.Attribute o "copy" apos) [] [] pos) l:=λA s W G I F=>by
 refine gx he J J λpl=>H.use G I F λa aq bx a_ aF aU=>?_;have d1:=bx;cases bx.jW with
 |mk _ items n hg na dd=>
  have hz:items.size=l.length:=by have:=dd.length;simpa using this
  refine(getMethod_list_of (items:=items) PySem.F.slot_list_copy PySem.F.type_list_copy ⟨_,hg,J,n,J⟩ ?_ ?_)
  .exact⟨_,hg,J⟩
  .exact PySem.P.copy_list hg ⟨(o9 aF aU.mw dd).trans a_,_,J,a_.size⟩ (by rw[hz,sizeLine];omega)
end
theorem iK(x:Str)(a b:VS):∀vs:aC,aG (aG vs x a) x b=aG vs x b
 |[]=>by simp[aG]
 |(y,t)::r=>by
  by_cases h:(y==x)=true
  .simp[aG,h]
  .have h':(y==x)=false:=by simpa using h
   simp[aG,h',iK x a b r]
theorem pH(x y:Str)(a b a' b':VS)(hxy:(x==y)=false):∀vs:aC,aG (aG (aG (aG vs x a) y b) x a') y b'=aG (aG vs x a') y b'
 |[]=>by simp[aG,hxy]
 |(z,t)::r=>by
  by_cases h:z=x
  .subst h
   have:=iK y b b' r;simp[aG,hxy,this]
  .by_cases h2:z=y
   .subst h2
    have:=iK x a a' r;simp[aG,h,this]
   .have:=pH x y a b a' b' hxy r
    simp[aG,h,h2,this]
section
variable{C:Cx}{Γ:Gm}{W D D' X X' Z iU Wk O:acq}{s s' aq:Shared}{vs vs' d7:aC}{A:Around}{E:ach}{e elt:Expr}{v m:MV}{k:Nat}{ms outs l l':acw}{a b:Addr}{g B:Nat}{x y:Str}{fl:Fl}{st:Stmt}{ss:acr}{h h':Heap}{pr:Bool}
theorem JY{p:Pos}(f:MV->MV)(hx:rG Γ x):∀(ms:acw)(vs:aC),(∀m∈ms,Ev C Γ (aG vs x (.v m)) elt (f m))->∀vs',(∀m,aG vs' x m=aG vs x m)->x9 C Γ (.Name x p) [] elt ms vs' (ms.map f):=by
 intro ll
 induction ll with
 |nil=>
  intro vs H vs' hv;exact J
 |cons m ms ih=>
  intro vs H vs' hv;refine⟨aG vs' x (.v m),cH hx,true,J,f m,ms.map f,?_,J,ih vs (λq hq=>H q (.tail _ hq)) _ λq=>?_⟩
  .rw[hv];exact H m (.head _)
  .exact rl (iK ..) ((hv q))
theorem bX{p:Pos}(f:MV->MV)(hx:rG Γ x)(H:∀m∈ms,Ev C Γ (aG vs x (.v m)) elt (f m)):x9 C Γ (.Name x p) [] elt ms vs (ms.map f):=JY f hx ms vs H vs λ_=>rfl
theorem gc{px py pt:Pos}{n:Nat}{m₁ m₂:MV}(hx:rG Γ x)(hy:rG Γ y):Bd C Γ (.Tuple [.Name x px,.Name y py] n pt) (.tup [m₁,m₂]) vs (aG (aG vs x (.v m₁)) y (.v m₂)):=
 sG (iy (cH hx) (iy (cH hy) wc))
theorem yj{px py pt:Pos}{n:Nat}(f:MV->MV->MV)(hx:rG Γ x)(hy:rG Γ y)(hxy:(x==y)=false):∀(ps:List (MV×MV))(vs:aC),(∀p∈ps,Ev C Γ (aG (aG vs x (.v p.1)) y (.v p.2)) elt (f p.1 p.2))->∀vs',(∀m m',aG (aG vs' x m) y m'=aG (aG vs x m) y m')->
 x9 C Γ (.Tuple [.Name x px,.Name y py] n pt) [] elt (ps.map λp=>MV.tup [p.1,p.2]) vs' (ps.map λp=>f p.1 p.2):=by
 intro ll
 induction ll with
 |nil=>
  intro vs H vs' hv;exact J
 |cons p ps ih=>
  intro vs H vs' hv;refine⟨_,gc hx hy,true,J,f p.1 p.2,ps.map λp=>f p.1 p.2,?_,J,ih vs (λq hq=>H q (.tail _ hq)) _ λq q'=>?_⟩
  .rw[hv];exact H p (.head _)
  .exact rl (pH x y _ _ _ _ hxy ..) ((hv q q'))
theorem pI{p:Pos}(f:MV->MV)(hx:∀Do,rG (cz Γ Do) x):∀(ms:acw)(vs:aC),(∀m∈ms,∀Do,Ev C (cz Γ Do) (aG vs x (.v m)) elt (f m))->∀vs',(∀m,aG vs' x m=aG vs x m)->∃pF,LZ C Γ (.Name x p) elt ms vs' (ms.map f) pF
 |[],vs,H,vs',hv=>⟨vs',J,J⟩
 |m::ms,vs,H,vs',hv=>by
  obtain⟨pF,ih⟩:=pI (p:=p) f hx ms vs (λq hq=>H q (.tail _ hq)) (aG vs' x (.v m)) λq=>by exact rl (iK ..) ((hv q))
  exact⟨pF,aG vs' x (.v m),f m,ms.map f,λDo=>cH (hx Do),λDo=>by rw[hv];exact H m (.head _) Do,J,ih⟩
end
noncomputable def aC.BA(l:aC)(x:Str):Option VS:=List.lookup x l
section
variable{C:Cx}{Γ:Gm}{W D D' X X' Z iU Wk O:acq}{s s' aq:Shared}{vs vs' d7:aC}{A:Around}{E:ach}{e elt t:Expr}{v m:MV}{k:Nat}{ms outs l l':acw}{x y:Str}{fl:Fl}{st:Stmt}{ss body:acr}{h h':Heap}{pr:Bool}
theorem wH(a b:Int):ou C k .Add (.int a) (.int b) (.int (a+b)):=λA s D x y G I _ bx bG=>by cases bx.eL;cases bG.eL;exact PyProof.Rows.iadd_int (.int I _ _ _)
theorem JZ(a b:Int):ou C k .Sub (.int a) (.int b) (.int (a-b)):=λA s D x y G I _ bx bG=>by cases bx.eL;cases bG.eL;exact PyProof.Rows.isub_int (.int I _ _ _)
theorem J0(a b:Int)(hm:IntMulOk a b):ou C k .Mult (.int a) (.int b) (.int (a*b)):=λA s D x y G I _ bx bG=>by cases bx.eL;cases bG.eL;exact PyProof.Rows.imul_int (.int I _ _ _) hm
theorem BB{σ:Type}(R:aC->σ->Prop)(upd:σ->MV->σ):∀(ms:acw)(vs:aC)(s:σ),R vs s->
 (∀vs s m,m∈ms->R vs s->∃fK dG,(∀Do,Bd C (cz Γ Do) t m vs fK)/\(∀Do,mz C (cz Γ Do) fK body .next dG)/\R dG (upd s m))->
 ∃vs',xX C Γ t body ms vs .next vs'/\R vs' (ms.foldl upd s):=by
 intro ll
 induction ll with
 |nil=>
  intro vs s h0 H;exact⟨vs,⟨J,J⟩,h0⟩
 |cons m ms ih=>
  intro vs s h0 H;refine nb λnn=>?_;obtain⟨fK,dG,h1,h2,h3⟩:=H vs s m (.head _) h0;obtain⟨vs',h4,h5⟩:=ih dG (upd s m) h3 λvs s m hm=>H vs s m (.tail _ hm);exact nn<|⟨vs',⟨fK,dG,.next,h1,h2,h4⟩,h5⟩
theorem wI(H:gq C Γ vs st fl vs'):mz C Γ vs [st] fl vs':=λA s W G I F=>
 aas (cS (H A s W G I F) λf aq bI=>by
  obtain⟨fP,h1,h2,aU,a_,aF⟩:=bI;cases f with
  |next=>
   cases fl with
   |next=>exact abv ⟨fP,h1,h2,aU,a_,aF⟩
   |_=>cases h2
  |brk=>exact⟨fP,h1,h2,aU,a_,aF⟩
  |cont=>exact⟨fP,h1,h2,aU,a_,aF⟩
  |ret a=>exact⟨fP,h1,h2,aU,a_,aF⟩)
theorem J1{Do:acq}:∀(ms:acw){vs:aC},xX C Γ t body ms vs fl vs'->xX C (cz Γ Do) t body ms vs fl vs':=by
 intro ll
 induction ll with
 |nil=>
  intro vs h;exact h
 |cons m ms ih=>
  intro vs pq1;obtain⟨fK,dG,Ey,h1,h2,h3⟩:=pq1;exact⟨fK,dG,Ey,h1,h2,by
   cases Ey with
   |next=>exact ih h3
   |cont=>exact ih h3
   |brk=>exact h3
   |ret v=>exact h3⟩
theorem gz{σ:Type}{iter:Expr}{pos:Pos}(R:aC->σ->Prop)(upd:σ->MV->σ)(s0:σ)(Hi:rR C Γ vs iter pr ms)(ht:pr=true->∃es x1 p,t = .Tuple es x1 p)(hs:∀x,foldedSetIterable iter Γ.env x=pure x)(hR:R vs s0)
 (H:∀vs s m,m∈ms->R vs s->∃fK dG,(∀Do,Bd C (cz Γ Do) t m vs fK)/\(∀Do,mz C (cz Γ Do) fK body .next dG)/\R dG (upd s m)) (T:∀vs',R vs' (ms.foldl upd s0)->Body C Γ vs' ss v):Body C Γ vs (.For t iter body [] pos::ss) v:=by
 obtain⟨vs',h1,h2⟩:=BB (Γ:=Γ) (t:=t) (body:=body) R upd ms vs s0 hR H;exact aQ (qs Hi h1 ht hs) (T vs' h2)
theorem pK{σ:Type}{iter:Expr}{pos:Pos}(R:aC->σ->Prop)(upd:σ->MV->σ)(s0:σ)(Hi:∀Do,rR C (cz Γ Do) vs iter pr ms)(ht:pr=true->∃es x1 p,t = .Tuple es x1 p)(hs:∀x,foldedSetIterable iter Γ.env x=pure x)(hR:R vs s0)
 (H:∀vs s m,m∈ms->R vs s->∃fK dG,(∀Do,Bd C (cz Γ Do) t m vs fK)/\(∀Do,mz C (cz Γ Do) fK body .next dG)/\R dG (upd s m)):∃dG,(∀Do,mz C (cz Γ Do) vs [.For t iter body [] pos] .next dG)/\R dG (ms.foldl upd s0):=by
 obtain⟨vs',h1,h2⟩:=BB (Γ:=Γ) (t:=t) (body:=body) R upd ms vs s0 hR H;exact⟨vs',λDo=>wI (qs (Hi Do) (J1 ms h1) ht hs),h2⟩
theorem pL(h:∀x st,vs'.lookup x=some st->vs.lookup x=some st)(T:Body C Γ vs' ss v):Body C Γ vs ss v:=λA s W G I F=>T A s W G I (F.sub h)
theorem Na{a b:Str}{p q:VS}(h1:vs.lookup a=some p)(h2:vs.lookup b=some q):∀x st,aC.BA [(a,p),(b,q)] x=some st->vs.lookup x=some st:=λx st h=>by
 unfold aC.BA at h;rw[aaF] at h;split at h
 .rename_i e;exact rl (aa3.mp e) (rl h1 h)
 .rw[aaF] at h
  split at h
  .rename_i e;exact rl (aa3.mp e) (rl h2 h)
  .cases h
end
section
variable{C:Cx}{Γ:Gm}{vs vs' d7:aC}{test:Expr}{v:MV}{ss body:acr}
theorem Dw{σ ρ:Type}(R:aC->σ->Prop)(wJ:σ->Nat)(go:σ->Bool)(Jb:σ->σ)(res:σ->ρ)(hm:∀s,go s=true->wJ (Jb s)<wJ s/\res (Jb s)=res s)
 (H:∀vs s,R vs s->Ts C Γ vs test (go s)/\(go s=true->∃dG,mz C Γ vs body .next dG/\R dG (Jb s))):∀(n:Nat)(s:σ)(vs:aC),wJ s=n->R vs s->∃N vs' s',SJ C Γ test body N vs vs'/\R vs' s'/\go s'=false/\res s'=res s:=by
 intro n
 induction n using Nat.strongRecOn with
 |ind n ih=>
  intro s vs hn hR;refine nb λnn=>?_;obtain⟨h1,h2⟩:=H vs s hR;cases hg:go s with
  |false=>rw[hg] at h1;exact nn<|⟨0,vs,s,⟨h1,J⟩,hR,hg,J⟩
  |true=>
   rw[hg] at h1;obtain⟨dG,h3,h4⟩:=h2 hg;obtain⟨h5,h6⟩:=hm s hg;obtain⟨N,vs',s',a1,a2,a3,a4⟩:=ih (wJ (Jb s)) (hn▸h5) (Jb s) dG J h4;exact nn<|⟨N+1,vs',s',⟨h1,dG,h3,a1⟩,a2,a3,a4.trans h6⟩
theorem mR{σ ρ:Type}{pos:Pos}(R:aC->σ->Prop)(wJ:σ->Nat)(go:σ->Bool)(Jb:σ->σ)(res:σ->ρ)(s0:σ)(hm:∀s,go s=true->wJ (Jb s)<wJ s/\res (Jb s)=res s)(hR:R vs s0)
 (H:∀vs s,R vs s->Ts C Γ vs test (go s)/\(go s=true->∃dG,mz C Γ vs body .next dG/\R dG (Jb s))) (T:∀vs' s',R vs' s'->go s'=false->res s'=res s0->Body C Γ vs' ss v):Body C Γ vs (.While test body [] pos::ss) v:=by
 refine nb λnn=>?_;obtain⟨N,vs',s',h1,h2,h3,h4⟩:=Dw (C:=C) (Γ:=Γ) (test:=test) (body:=body) R wJ go Jb res hm H (wJ s0) s0 vs J hR;exact nn<|aQ (E6 h1) (T vs' s' h2 h3 h4)
end
section
variable{C:Cx}{Γ:Gm}{W D D' X X' Z iU Wk O:acq}{s s' aq:Shared}{vs vs' d7:aC}{A:Around}{E:ach}{e elt t:Expr}{v m:MV}{k:Nat}{ms outs l l':acw}{x y:Str}{fl:Fl}{st:Stmt}{ss body:acr}{h h':Heap}{pr:Bool}
theorem rP.BC{es:acs}(T:rP C Γ vs es ms)(kI:ms≠[]){name:Str}{val:Expr}{kp:Pos}(H:Ev C Γ vs val m){f:Value}{pos:Pos}(G:Good Γ.k A)(I:Inv C s)(F:Fm C Γ W s.heap vs){Q:Args->Shared->Prop}
 (h:∀vals kv s',bD s'.heap (W++Γ.Do) vals ms->Den s'.heap (W++Γ.Do) kv m->bL C [] s s'->Inv C s'->Q ⟨vals,[(name,kv)]⟩ s'):wpAny (model P0 C.w) A (evalArgs f true (backTo pos (starEach es Γ.env)) (backToKw pos (keywordEach [⟨some name,val,kp⟩] Γ.env))) Q E s:=by
 have hp:=T.plain pos;have hr:=cS (E:=E) (T.run A s W pos G I F) (Q':=λvals s'=>wpAny (model P0 C.w) A (evalAll ((backToKw pos (keywordEach [⟨some name,val,kp⟩] Γ.env)).map (·.2))) (λks av=>Q ⟨vals,((backToKw pos (keywordEach [⟨some name,val,kp⟩] Γ.env)).filterMap (·.1)).zip ks⟩ av) E s') λvals aq bI=>by obtain⟨d,t,aF⟩:=bI;show wpAny _ A (evalAll [do let v <- eval val Γ.env;standAt pos;pure v]) _ _ _;exact wpAny_evalAll_cons (aal (H.use G aF (F.dJ I t) λkv av dk aY bu bO=>aal (aaY (aat (wpAny_evalAll_nil (h vals kv av (d.dJ aF aY (F.dJ I t).cj) dk (t.then aY) bu))))))
 have hn:=T.none;generalize starEach es Γ.env=l at hp hr hn ⊢;cases l with
 |nil=>exact absurd (hn J) kI
 |cons p r=>
  obtain⟨b,x⟩:=p;cases b with
  |true=>simp[backTo] at hp
  |false=>exact evalArgs_kw (by rfl) hr
theorem tC{id:Str}{p pos kp:Pos}{args:acs}{mf:MV}{name:Str}{val:Expr}(Hf:Ev C Γ vs (.Name id p) mf)(Ha:rP C Γ vs args ms)(kI:ms≠[])(Hv:Ev C Γ vs val m)(hk:OU C mf)(Hc:xN C Γ.k mf ms [(name,m)] v):Ev C Γ vs (.Call (.Name id p) args [⟨some name,val,kp⟩] pos) v:=λA s W G I F=>
 wpAny_Call_ofName (Hf.use G I F λa aq bx a_ aF aU=>eO (by refine rl (Ha.plain ..) ?_;rfl) (Ha.BC kI Hv G aF aU λvals kv av bG dk aY bu=>
  ⟨hk av _ a bu (bx.dJ aF aY aU.cj),g8 (Hc A av _ a vals [(name,kv)] G bu (aU.dJ aF aY).mw (bx.dJ aF aY aU.cj) bG (.cons dk .nil)) λr bH x=>x.trans (a_.then aY)⟩))
theorem pM{o:Expr}{mname:Str}{apos pos kp:Pos}{args:acs}{x?:acn}{Cc f:Addr}{fs:acj}{name:Str}{val:Expr}(Ho:Ev C Γ vs o (.inst x? Cc fs))(M:Meth C Cc mname f)(hl:fs.lookup mname=none)
 (Ha:rP C Γ vs args ms) (kI:ms≠[]) (Hv:Ev C Γ vs val m) (Hc:bJ C Γ.k (.ref f) (.inst x? Cc fs::ms) [(name,m)] v) (he:gX o mname Γ.env apos pos (args.length+1)):Ev C Γ vs (.Call (.Attribute o mname apos) args [⟨some name,val,kp⟩] pos) v:=λA s W G I F=>
 gx he (Ha.plain _) J λpl=>(Ho.use G I F λa aq bx a_ aF aU=>xP M hl aF bx (eO (by refine rl (Ha.plain ..) ?_;rfl) (Ha.BC kI Hv G aF aU λvals kv av bG dk aY bu=>
  ⟨M.kps av (W++Γ.Do) _ bu (.bZ _ J),g8 (Hc A av _ (a::vals) [(name,kv)] G bu (aU.dJ aF aY).mw (.cons (bx.dJ aF aY aU.cj) bG) (.cons dk .nil)) λr bH x=>x.trans (a_.then aY)⟩)))
theorem kT:∀is:acu,i0 (is.map Dat.int)=is.map .int:=by
 intro ll
 induction ll with
 |nil=>
  exact J
 |cons a r ih=>
  simp only[List.map_cons,i0,eW,ih]
theorem qT{a b:acu}(h:a.map Dat.int=b.map Dat.int):a=b:=by
 induction a generalizing b with
 |nil=>cases b with
  |nil=>rfl
  |cons c d=>cases h
 |cons x r ih=>cases b with
  |nil=>cases h
  |cons c d=>
   simp only[List.map_cons,List.cons.injEq,Dat.int.injEq] at h;exact rl h.1 (rl (ih h.2) J)
theorem mS(a b:acu):iZ C (k+1) .Eq (.lst (a.map .int)) (.lst (b.map .int)) (.bool (decide (a=b))):=by
 have:=tu (C:=C) (k:=k) (d:=.list (a.map Dat.int)) (e:=.list (b.map Dat.int)) (by simp[kqdOk]) (by simp[kqdOk]);rw[eW,eW,kT,kT] at this;have e:(decide (a=b))=(@decide (Dat.list (a.map Dat.int)=Dat.list (b.map Dat.int)) (Classical.propDecidable _)):=by apply abz.mpr;exact⟨λh=>by exact rl h J,λh=>qT (Dat.list.inj h)⟩
 exact rl e this
theorem fS(a b c d:Int):iZ C (k+1) .NotEq (.tup [.int a,.int b]) (.tup [.int c,.int d]) (.bool (decide ((a,b)≠(c,d)))):=by have:=lI (C:=C) (k:=k) (d:=.tuple [.int a,.int b]) (e:=.tuple [.int c,.int d]) (by simp[kqdOk]) (by simp[kqdOk]);simp only[eW,i0] at this;have e:∀inst:Decidable (Dat.tuple [.int a,.int b]≠Dat.tuple [.int c,.int d]),@decide _ inst=decide ((a,b)≠(c,d)):=λinst=>abz.mpr (by simp);rw[e] at this;exact this
theorem Ac(hl:l.length<=1000):BX C k (.builtin "len") [.tup l] (.int l.length):=λA s D vals G I dk ds=>by
 cases ds.d8 with |mk d1 d2=>obtain rfl:=d2.g7;cases d1.EL with
 |mk b items n hg na dd=>
  have hz:items.size=l.length:=by have:=dd.length;simpa using this
  refine call_len_meets (T:="tuple") (n:=(l.length:Int)) ⟨_,hg,J⟩ PySem.F.slot_tuple_len PySem.F.entry_tuple_len (PySem.F.args_tuple_len_1 _) (PySem.AutoSeq1.tuple___len___tuple_0 b items n) (by exact So) (by exact T7 hl) (λQ' hq=>⟨hg,by exact rl hz hq⟩) ⟨.int _ _,tok_stp _,tok_inv I _⟩
end
noncomputable abbrev FnAt(C:Cx)(f:Addr)(qual:Str)(dV:Value)(st:Stmt):Prop:=Bj C f (OT st) qual (Eu st) (o5 st) (mq st) dV
noncomputable def iv(cs:acu):MV:=.lst (cs.map .int)
noncomputable def ay(Cr:Addr)(x?:acn)(q n:Int):MV:=.inst x? Cr [("q",.int q),("n",.int n)]
noncomputable def eT(Cp:Addr)(r:MV)(cs:acu):MV:=.inst none Cp [("parent",r),("coeffs",iv cs)]
theorem wK(cs:acu):E4 (iv cs)=true:=by show((cs.map MV.int).all oz)=true;rw[abq];intro x hx;obtain⟨i,_,rfl⟩:=aan.mp hx;rfl
theorem wL(cs:acu):(cs.map MV.int).all oz=true:=wK cs
structure J2(C:Cx)(Cc init:Addr):Prop where
 makes:makesIn C.K Cc=true
 find:findIn C.K (.ref Cc) "__init__"=some (some (.ref init))
 ty:typeIn C.K (.ref init)=some (.type "function")
noncomputable def bf(ps:Arguments)(q:Str)(kV:Value)(vals:acp):Sem (aci):=bindArgs (fnOf "" q ps [] default .none kV .none .none none .none .none) ⟨vals,[]⟩
noncomputable def FA(F:acp->aci->Prop):acv->Prop
 |[]=>F [] []
 |n::ns=>∀v,FA (λvs bs=>F (v::vs) ((n,v)::bs)) ns
noncomputable abbrev yl(ps:Arguments)(ns:acv):Prop:=∀q kV,FA (λvs bs=>bf ps q kV vs=pure bs) ns
theorem uZ{h:Heap}{D:acq}:∀(bs:acj){F:acp->aci->Prop}{vals:acp},FA F (bs.map (·.1))->bD h D vals (bs.map (·.2))->∃binds,F vals binds/\dF h D binds bs:=by
 intro ll
 induction ll with
 |nil=>
  intro _ _ H d;obtain rfl:=d.g7;exact⟨[],H,.nil⟩
 |cons pp bs ih=>
  obtain⟨n,m⟩:=pp;intro _ _ H d;cases d.d8 with
  |mk d1 d2=>
   obtain⟨b,e,db⟩:=ih (H _) d2;exact⟨_,e,.cons d1 db⟩
theorem fh{C:Cx}{args:acw}{nm q:Str}{ps:Arguments}{b:acr}{sc:Scope}{kV doc pm bh ct:Value}{an:acn}{bs:acj}(ha:args=bs.map (·.2))(hp:yl ps (bs.map (·.1)):=by((repeat intro _);(show _=_);kernel_rfl)):Binds C (fnOf nm q ps b sc .none kV doc pm an bh ct) args [] bs:=λs D vals eG I ds dk=>by obtain rfl:=dk.g7;subst ha;obtain⟨b,e,d⟩:=uZ bs (hp q kV) ds;exact⟨b,.of_eq e,d⟩
theorem oG{C:Cx}{args:acw}{nm q:Str}{ps:Arguments}{b:acr}{sc:Scope}{kV doc pm bh ct:Value}{an:acn}{bs:acj}(ha:args=bs.map (·.2))(hp:yl ps ("self"::bs.map (·.1)):=by((repeat intro _);(show _=_);kernel_rfl)):zT C (fnOf nm q ps b sc .none kV doc pm an bh ct) args [] bs:=λs D x vals eG I ds dk=>by obtain rfl:=dk.g7;subst ha;obtain⟨b,e,d⟩:=uZ bs (hp q kV (.ref x)) ds;exact⟨b,.of_eq e,d⟩
section
variable{C:Cx}{k:Nat}{f:Addr}{qual:Str}{st:Stmt}{bs:acj}{v m1 m2 m3 m4:MV}{n1 n2 n3 n4:Str}{fd:FuncData}
theorem c8(F:FnAt C f qual .none st)(hs:gw (mq st) (bs.map (·.1))=true)
 (H:∀L D bh,Body C (gF k qual (mq st) L f bh D) (dX bs) (o5 st) v) (hp:yl (Eu st) (bs.map (·.1)):=by((repeat intro _);(show _=_);kernel_rfl)):bJ C (k+1) (.ref f) (bs.map (·.2)) [] v:=by
 refine nb λnn=>?_;obtain⟨oc,od,kJ,kV,doc,pm,an,bh,ct,ho,h_⟩:=F.at_;exact nn<|fJ ho h_ (fh J hp) hs λL D=>H L D bh
inductive D1(h:Heap)(D:acq)(m1:MV):acp->Prop
 |mk (v1:Value):Den h D v1 m1->D1 h D m1 [v1]
inductive D2(h:Heap)(D:acq)(m1 m2:MV):acp->Prop
 |mk (v1 v2:Value):Den h D v1 m1->Den h D v2 m2->D2 h D m1 m2 [v1,v2]
inductive D3(h:Heap)(D:acq)(m1 m2 m3:MV):acp->Prop
 |mk (v1 v2 v3:Value):Den h D v1 m1->Den h D v2 m2->Den h D v3 m3->D3 h D m1 m2 m3 [v1,v2,v3]
theorem QA{h:Heap}{D:acq}{vals:acp}(ds:bD h D vals [m1]):D1 h D m1 vals:=by cases ds.d8 with |mk d1 e=>obtain rfl:=e.g7;exact⟨_,d1⟩
theorem BD{h:Heap}{D:acq}{vals:acp}(ds:bD h D vals [m1,m2]):D2 h D m1 m2 vals:=by cases ds.d8 with |mk d1 e=>cases QA e with |mk _ d2=>exact⟨_,_,d1,d2⟩
theorem BE{h:Heap}{D:acq}{vals:acp}(ds:bD h D vals [m1,m2,m3]):D3 h D m1 m2 m3 vals:=by cases ds.d8 with |mk d1 e=>cases BD e with |mk _ _ d2 d3=>exact⟨_,_,_,d1,d2,d3⟩
theorem L8(h:∀s v1 v2 v3,Inv C s->BindsTo s fd ⟨[v1,v2,v3],[]⟩ [(n1,v1),(n2,v2),(n3,v3)]):Binds C fd [m1,m2,m3] [] [(n1,m1),(n2,m2),(n3,m3)]:=λs D vals eG I ds dk=>by obtain rfl:=dk.g7;cases BE ds with |mk _ _ _ d1 d2 d3=>exact⟨_,h _ _ _ _ I,.cons d1 (.cons d2 (.cons d3 .nil))⟩
theorem L_{b:Bool}(h:∀s v1 v2,Inv C s->BindsTo s fd ⟨[v1,v2],[]⟩ [(n1,v1),(n2,v2),(n3,.bool b)]):Binds C fd [m1,m2] [] [(n1,m1),(n2,m2),(n3,.bool b)]:=λs D vals eG I ds dk=>by obtain rfl:=dk.g7;cases BD ds with |mk _ _ d1 d2=>exact⟨_,h _ _ _ I,.cons d1 (.cons d2 (.cons (.bool b) .nil))⟩
theorem Ma(h:∀s v1 v2 v3,Inv C s->BindsTo s fd ⟨[v1,v2],[(n3,v3)]⟩ [(n1,v1),(n2,v2),(n3,v3)]):Binds C fd [m1,m2] [(n3,m3)] [(n1,m1),(n2,m2),(n3,m3)]:=λs D vals eG I ds dk=>by cases dk.d8 with |mk d3 e=>obtain rfl:=e.g7;cases BD ds with |mk _ _ d1 d2=>exact⟨_,h _ _ _ _ I,.cons d1 (.cons d2 (.cons d3 .nil))⟩
theorem QB(h:∀s (x:Addr) v1 v2 v3,Inv C s->BindsTo s fd ⟨[.ref x,v1,v2],[(n3,v3)]⟩ [("self",.ref x),(n1,v1),(n2,v2),(n3,v3)]):zT C fd [m1,m2] [(n3,m3)] [(n1,m1),(n2,m2),(n3,m3)]:=λs D x vals eG I ds dk=>by cases dk.d8 with |mk d3 e=>obtain rfl:=e.g7;cases BD ds with |mk _ _ d1 d2=>exact⟨_,h _ _ _ _ _ I,.cons d1 (.cons d2 (.cons d3 .nil))⟩
end
noncomputable def FD(k:Option NameKind):Bool:=match k with |some .local=>true |some .cell=>true |some .free=>true |_=>false
section
variable{C:Cx}{Γ:Gm}{vs:aC}
theorem cD{x:Str}{pos:Pos}{m:MV}(hx:FD (Γ.env.kindOf x)=true)(hv:vs.lookup x=some (.v m))(hd:(x==("__debug__":Str)||x==("__classdict__":Str))=false):Ev C Γ vs (.Name x pos) m:=by
 rw[Bool.or_eq_false_iff] at hd;refine fV ?_ hd.1;cases h:Γ.env.kindOf x with
 |none=>replace hx:=h▸hx;cases hx
 |some k=>
  replace hx:=h▸hx;cases k<;>first |(cases hx;done) |exact c6 h hv |exact Bf h hv |exact Jx h hv hd.2
theorem ao{x:Str}{pos:Pos}{m:MV}(h:(FD (Γ.env.kindOf x),vs.lookup x,(x==("__debug__":Str)||x==("__classdict__":Str)))=(true,some (.v m),false)):Ev C Γ vs (.Name x pos) m:=cD (aaJ (·.1) h) (aaJ (·.2.1) h) (aaJ (·.2.2) h)
end
structure QC(C:Cx)(f:Addr)(qual:Str)(dV:Value)(st:Stmt)(c:Addr):Prop where
 at_:∃oc od kJ kV doc pm an ct,C.K.lookup f=some ⟨oc,od,.func (fnOf (OT st) qual (Eu st) (o5 st) (mq st) dV kV doc pm an (.ref c) ct),kJ⟩/\codeIn C.K (.ref c) qual=true
 tab:∃P,(c,P)∈C.T
structure ym(C:Cx)(Cc rJ:Addr)(op:Operator):Prop where
 ne:Cc≠rJ
 own:∃g:Addr,findIn C.K (.ref rJ) (PySem.dunder op.info.2)=some (some (.ref g))
 r:findIn C.K (.ref Cc) (dunderR op.info.2)=some none
 r':findIn C.K (.ref rJ) (dunderR op.info.2)=some none
 sub:subIn C.K (.ref rJ) (.ref Cc)=some false
noncomputable def rgA(z:Bool):acs->acs
 |[.Constant (.int 0) k p,e]=>bif z then[.Constant (.int 0) k p,e] else[e]
 |as=>as
noncomputable def nE(f:Pos->Pos)(z:Bool):Nat->Expr->Expr
 |0,e=>e
 |n+1,e=>match e with
  |.BoolOp o vs p=>.BoolOp o (vs.map (nE f z n)) (f p)
  |.BinOp a o b p=>.BinOp (nE f z n a) o (nE f z n b) (f p)
  |.UnaryOp o a p=>.UnaryOp o (nE f z n a) (f p)
  |.ListComp e gs s p=>.ListComp (nE f z n e) (gs.map λg=>⟨nE f z n g.1,nE f z n g.2,g.3.map (nE f z n),g.4⟩) s (f p)
  |.Compare a os cs p=>.Compare (nE f z n a) os (cs.map (nE f z n)) (f p)
  |.Call g as ks p=>.Call (nE f z n g) ((rgA z as).map (nE f z n)) (ks.map λk=>⟨k.1,nE f z n k.2,f k.3⟩) (f p)
  |.FormattedValue v c s p=>.FormattedValue (nE f z n v) c s (f p)
  |.JoinedStr vs p=>.JoinedStr (vs.map (nE f z n)) (f p)
  |.Constant c k p=>.Constant c k (f p)
  |.Attribute v a p=>.Attribute (nE f z n v) a (f p)
  |.Subscript v s p=>.Subscript (nE f z n v) (nE f z n s) (f p)
  |.Name x p=>.Name x (f p)
  |.List es p=>.List (es.map (nE f z n)) (f p)
  |.Tuple es k p=>.Tuple (es.map (nE f z n)) k (f p)
  |e=>e
noncomputable def Mb(f:Pos->Pos)(z:Bool):Nat->Stmt->Stmt
 |0,s=>s
 |n+1,s=>match s with
  |.FunctionDef x a b ds r ts sc tc bd p=>.FunctionDef x {a with args:=a.args.map λz=>⟨z.1,z.2,f z.3⟩,defaults:=a.defaults.map (nE f z n)} (b.map (Mb f z n)) ds r ts sc tc bd (f p)
  |.Return v p=>.Return (v.map (nE f z n)) (f p)
  |.Assign ts v p=>.Assign (ts.map (nE f z n)) (nE f z n v) (f p)
  |.AugAssign t o v p=>.AugAssign (nE f z n t) o (nE f z n v) (f p)
  |.For t i b o p=>.For (nE f z n t) (nE f z n i) (b.map (Mb f z n)) (o.map (Mb f z n)) (f p)
  |.While t b o p=>.While (nE f z n t) (b.map (Mb f z n)) (o.map (Mb f z n)) (f p)
  |.If t b o p=>.If (nE f z n t) (b.map (Mb f z n)) (o.map (Mb f z n)) (f p)
  |.Raise e c p=>.Raise (e.map (nE f z n)) c (f p)
  |.Assert t m p=>.Assert (nE f z n t) (m.map (nE f z n)) (f p)
  |.Expr v p=>.Expr (nE f z n v) (f p)
  |s=>s
noncomputable def Mc(s:Stmt):Nat:=(OS s).2.2.2.line
noncomputable def FE(l:List (Nat×Nat))(i:Nat):Stmt:=match l.getD i (0,0) with |(a,b)=>Jl a b
structure Nm where
 CR:Addr
 CP:Addr
 CM:Addr
 CO:Addr
 XM:Addr
 a:Nat->Addr
 q:Nat->Str
 g:Nat->Str
 t:Nat->Stmt
 d:Nat->Nat
 c:Nat->Pos->Nat
 e:Nat->Pos->Nat
 z:Bool
noncomputable def Nm.f(N:Nm)(i:Nat)(p:Pos):Pos:=⟨p.1-N.d i,N.c i p,p.3-N.d i,N.e i p⟩
noncomputable def kt:Nat->Stmt:=FE [(14,0),(14,1),(14,2),(14,3),(14,4),(14,5),(14,6),(14,7),(14,8),(14,9),(14,10),(14,11),(14,12),(14,13),(14,14),(14,15),(14,16),(14,17),(14,18),(14,19),(14,20),(14,21),(13,0),(13,3),(16,0),(16,1),(16,2),(16,3),(16,6),(16,7),(16,8),(16,10),(16,11),(16,12),(16,13),(16,14),(17,0),(17,1),(17,2)]
noncomputable def Nm.T(N:Nm)(i:Nat):Stmt:=Mb (N.f i) N.z 30 (kt i)
noncomputable def kN:Nm where
 CR:=473
 CP:=634
 CM:=745
 CO:=789
 XM:=184
 a i:=([491,0,0,510,515,522,529,534,539,544,551,558,565,570,577,584,591,596,603,610,617,624,449,470,653,660,667,674,689,696,701,711,718,723,730,735,763,771,779,646,764,772,778,734]:List Nat).getD i 0
 q i:=Str.ofString ((["GenericPolynomial.__init__","GenericPolynomial.is_zero","GenericPolynomial.is_constant","GenericPolynomial._parse_coefficients","GenericPolynomial.reduce_coefficients","GenericPolynomial._add_mod_q","GenericPolynomial._sub_mod_q","GenericPolynomial._schoolbook_multiplication","GenericPolynomial.__neg__","GenericPolynomial._add_","GenericPolynomial.__add__","GenericPolynomial.__radd__","GenericPolynomial.__iadd__","GenericPolynomial._sub_","GenericPolynomial.__sub__","GenericPolynomial.__rsub__","GenericPolynomial.__isub__","GenericPolynomial.__mul__","GenericPolynomial.__rmul__","GenericPolynomial.__imul__","GenericPolynomial.__pow__","GenericPolynomial.__eq__","GenericPolynomialRing.__init__","GenericPolynomialRing.__call__","GenericMatrix.__init__","GenericMatrix.dim","GenericMatrix._check_dimensions","GenericMatrix.transpose","GenericMatrix.reduce_coefficients","GenericMatrix.__getitem__","GenericMatrix.__eq__","GenericMatrix.__add__","GenericMatrix.__iadd__","GenericMatrix.__sub__","GenericMatrix.__isub__","GenericMatrix.__matmul__","GenericModule.__init__","GenericModule.matrix_of","GenericModule.__call__"]:List String).getD i "")
 g i:=(["GenericPolynomial","GenericMatrix","GenericPolynomialRing","GenericModule"]:acv).getD i ""
 t:=kt
 d _:=0
 c _ p:=p.2
 e _ p:=p.4
 z:=true
noncomputable def dT:Nat->Stmt:=FE [(11,0),(11,1),(11,2),(11,3),(11,4),(11,5),(11,6),(11,7),(11,8),(11,9),(11,10),(11,11),(11,12),(11,13),(11,14),(11,15),(11,16),(11,17),(11,18),(11,19),(11,20),(11,21),(10,0),(10,3),(7,0),(7,2),(7,1),(7,3),(7,6),(7,7),(7,9),(7,11),(7,12),(7,13),(7,14),(7,15),(8,0),(8,1),(8,2)]
noncomputable def dN:Nm where
 CR:=270
 CP:=431
 CM:=184
 CO:=221
 XM:=745
 a i:=([288,0,0,307,312,319,326,331,336,341,348,355,362,367,374,381,388,393,400,407,414,421,239,260,78,90,83,97,112,119,133,143,150,155,162,167,202,210,218,71,203,211,217,166]:List Nat).getD i 0
 q i:=Str.ofString ((["PolynomialGeneric.__init__","PolynomialGeneric.is_zero","PolynomialGeneric.is_constant","PolynomialGeneric._parse_coefficients","PolynomialGeneric.reduce_coefficients","PolynomialGeneric._add_mod_q","PolynomialGeneric._sub_mod_q","PolynomialGeneric._schoolbook_multiplication","PolynomialGeneric.__neg__","PolynomialGeneric._add_","PolynomialGeneric.__add__","PolynomialGeneric.__radd__","PolynomialGeneric.__iadd__","PolynomialGeneric._sub_","PolynomialGeneric.__sub__","PolynomialGeneric.__rsub__","PolynomialGeneric.__isub__","PolynomialGeneric.__mul__","PolynomialGeneric.__rmul__","PolynomialGeneric.__imul__","PolynomialGeneric.__pow__","PolynomialGeneric.__eq__","PolynomialRingGeneric.__init__","PolynomialRingGeneric.__call__","MatrixGeneric.__init__","MatrixGeneric.dim","MatrixGeneric._check_dimensions","MatrixGeneric.transpose","MatrixGeneric.reduce_coefficients","MatrixGeneric.__getitem__","MatrixGeneric.__eq__","MatrixGeneric.__add__","MatrixGeneric.__iadd__","MatrixGeneric.__sub__","MatrixGeneric.__isub__","MatrixGeneric.__matmul__","ModuleGeneric.__init__","ModuleGeneric.matrix_of","ModuleGeneric.__call__"]:List String).getD i "")
 g i:=(["PolynomialGeneric","MatrixGeneric","PolynomialRingGeneric","ModuleGeneric"]:acv).getD i ""
 t:=dT
 d i:=Mc (kt i)-Mc (dT i)
 c i p:=bif Nat.beq i 7&&Nat.beq p.1 364&&Nat.ble 27 p.2 then p.2-3 else p.2
 e i p:=bif Nat.beq i 7&&Nat.beq p.3 364&&Nat.ble 28 p.4 then p.4-3 else p.4
 z:=false
noncomputable def SF(C:Cx)(N:Nm):Prop:=(((((((FnAt C (N.a 3) (N.q 3) .none (N.T 3))/\Bh C N.CP "parent")/\((Bh C N.CP "coeffs")/\Bh C N.CR "q"))/\(((Bh C N.CR "n")/\nsIn C.K mainGlobals "len"=some none)/\((nsIn C.K mainGlobals "range"=some none)/\J2 C N.CP (N.a 0))))/\((((FnAt C (N.a 0) (N.q 0) .none (N.T 0))/\Meth C N.CP "_parse_coefficients" (N.a 3))/\((sF C N.CP "parent")/\sF C N.CP "coeffs"))/\(((FnAt C (N.a 23) (N.q 23) .none (N.t 23))/\nsIn C.K mainGlobals "isinstance"=some none)/\((nsIn C.K mainGlobals "int"=some none)/\nsIn C.K mainGlobals "list"=some none))))/\(((((nsIn C.K mainGlobals (N.g 0)=some (some (.ref N.CP)))/\kitOne C.K (.type "list") (.type "int")=some false)/\((kitOne C.K (.type "list") (.type "list")=some true)/\kitOne C.K (.type "int") (.type "int")=some true))/\(((jJ C.K (.ref N.CP)=true)/\FnAt C (N.a 5) (N.q 5) .none (N.T 5))/\((FnAt C (N.a 6) (N.q 6) .none (N.T 6))/\FnAt C (N.a 8) (N.q 8) .none (N.T 8))))/\((((Meth C N.CR "__call__" (N.a 23))/\Meth C N.CP "_add_mod_q" (N.a 5))/\((Meth C N.CP "_sub_mod_q" (N.a 6))/\FnAt C (N.a 9) (N.q 9) .none (N.T 9)))/\(((FnAt C (N.a 13) (N.q 13) .none (N.T 13))/\FnAt C (N.a 10) (N.q 10) .none (N.T 10))/\((FnAt C (N.a 11) (N.q 11) .none (N.T 11))/\FnAt C (N.a 14) (N.q 14) .none (N.T 14))))))/\((((((FnAt C (N.a 15) (N.q 15) .none (N.T 15))/\Meth C N.CP "_add_" (N.a 9))/\((Meth C N.CP "_sub_" (N.a 13))/\Meth C N.CP "__add__" (N.a 10)))/\(((Meth C N.CP "__sub__" (N.a 14))/\Meth C N.CP "__neg__" (N.a 8))/\((nsIn C.K mainGlobals "type"=some none)/\nsIn C.K mainGlobals "zip"=some none)))/\((((kitOne C.K (.ref N.CP) (.ref N.CP)=some true)/\kitOne C.K (.type "int") (.ref N.CP)=some false)/\((JT C N.CP)/\FnAt C (N.a 17) (N.q 17) .none (N.T 17)))/\(((FnAt C (N.a 18) (N.q 18) .none (N.T 18))/\Meth C N.CP "__mul__" (N.a 17))/\((FnAt C (N.a 7) (N.q 7) .none (N.T 7))/\Meth C N.CP "_schoolbook_multiplication" (N.a 7)))))/\(((((FnAt C (N.a 20) (N.q 20) .none (N.T 20))/\EY C N.CP)/\((FnAt C (N.a 21) (N.q 21) .none (N.t 21))/\Meth C N.CP "__eq__" (N.a 21)))/\(((notFirst C.K N.CP (.ref N.CP)=true)/\FnAt C (N.a 29) (N.q 29) .none (N.T 29))/\((FnAt C (N.a 25) (N.q 25) .none (N.T 25))/\Bh C N.CM "_data")))/\((((Bh C N.CM "parent")/\Bh C N.CM "_transpose")/\((Meth C N.CM "dim" (N.a 25))/\Meth C N.CM "__getitem__" (N.a 29)))/\(((nsIn C.K mainGlobals "tuple"=some none)/\kitOne C.K (.type "tuple") (.type "tuple")=some true)/\((FnAt C (N.a 26) (N.q 26) .none (N.t 26))/\((FnAt C (N.a 24) (N.q 24) (.ref (N.a 39)) (N.T 24))/\C.K.lookup (N.a 39)=some {cls:=.type "tuple",data:=.seq #[.bool false] 0})))))))/\(((((((J2 C N.CM (N.a 24))/\sF C N.CM "parent")/\((sF C N.CM "_data")/\sF C N.CM "_transpose"))/\(((Meth C N.CM "_check_dimensions" (N.a 26))/\FnAt C (N.a 37) (N.q 37) (.ref (N.a 40)) (N.t 37))/\((QC C (N.a 38) (N.q 38) (.ref (N.a 41)) (N.t 38) (N.a 42))/\C.K.lookup (N.a 40)=some {cls:=.type "tuple",data:=.seq #[.bool false] 0})))/\((((C.K.lookup (N.a 41)=some {cls:=.type "tuple",data:=.seq #[.bool false] 0})/\Meth C N.CO "matrix_of" (N.a 37))/\((Meth C N.CO "__call__" (N.a 38))/\Bh C N.CO "ring"))/\(((jJ C.K (.ref N.CM)=true)/\nsIn C.K mainGlobals (N.g 1)=some (some (.ref N.CM)))/\((nsIn C.K mainGlobals "all"=some none)/\FnAt C (N.a 27) (N.q 27) .none (N.T 27)))))/\(((((FnAt C (N.a 31) (N.q 31) .none (N.t 31))/\FnAt C (N.a 33) (N.q 33) .none (N.t 33))/\((kitOne C.K (.ref N.CM) (.ref N.CM)=some true)/\JT C N.CM))/\(((wF C N.CO)/\FnAt C (N.a 32) (N.q 32) .none (N.t 32))/\((FnAt C (N.a 34) (N.q 34) .none (N.t 34))/\Meth C N.CM "__add__" (N.a 31))))/\((((Meth C N.CM "__sub__" (N.a 33))/\Meth C N.CM "__iadd__" (N.a 32))/\((Meth C N.CM "__isub__" (N.a 34))/\EY C N.CM))/\(((QC C (N.a 35) (N.q 35) .none (N.t 35) (N.a 43))/\nsIn C.K mainGlobals "sum"=some none)/\((tn C N.CP .Add (N.a 11))/\Meth C N.CM "__eq__" (N.a 30))))))/\((((((notFirst C.K N.CM (.ref N.CM)=true)/\kitOne C.K (.ref N.XM) (.ref N.CM)=some false)/\((JT C N.XM)/\EY C N.XM))/\(((nsIn C.K mainGlobals "TypeError"=some none)/\nsIn C.K mainGlobals "ValueError"=some none)/\((ym C N.CM N.XM .Add)/\ym C N.CM N.XM .Sub)))/\((((ym C N.CM N.XM .MatMult)/\Meth C N.CM "__matmul__" (N.a 35))/\((xR C N.CP .Mult)/\xR C N.CP .Add))/\(((xR C N.CP .Pow)/\tn C N.CP .Mult (N.a 18))/\((tn C N.CP .Sub (N.a 15))/\Meth C N.CP "__pow__" (N.a 20)))))/\(((((Meth C N.CM "transpose" (N.a 27))/\FnAt C (N.a 4) (N.q 4) .none (N.T 4))/\((Meth C N.CP "reduce_coefficients" (N.a 4))/\FnAt C (N.a 28) (N.q 28) .none (N.T 28)))/\(((Meth C N.CM "reduce_coefficients" (N.a 28))/\Bh C N.CM "_data")/\((J2 C N.CR (N.a 22))/\FnAt C (N.a 22) (N.q 22) .none (N.T 22))))/\((((sF C N.CR "q")/\sF C N.CR "n")/\((J2 C N.CO (N.a 36))/\FnAt C (N.a 36) (N.q 36) .none (N.T 36)))/\(((sF C N.CO "ring")/\nsIn C.K mainGlobals (N.g 2)=some (some (.ref N.CR)))/\((nsIn C.K mainGlobals (N.g 3)=some (some (.ref N.CO)))/\((jJ C.K (.ref N.CR)=true)/\jJ C.K (.ref N.CO)=true)))))))
section
variable{C:Cx}{N:Nm}(S:SF C N)
noncomputable def SF.parse:=S.1.1.1.1.1.1.1
noncomputable def SF.dP:=S.1.1.1.1.1.1.2
noncomputable def SF.eY:=S.1.1.1.1.1.2.1
noncomputable def SF.O0:=S.1.1.1.1.1.2.2
noncomputable def SF.O1:=S.1.1.1.1.2.1.1
noncomputable def SF.fU:=S.1.1.1.1.2.1.2
noncomputable def SF.b8:=S.1.1.1.1.2.2.1
noncomputable def SF.Ad:=S.1.1.1.1.2.2.2
noncomputable def SF.Dy:=S.1.1.1.2.1.1.1
noncomputable def SF.J3:=S.1.1.1.2.1.1.2
noncomputable def SF.FG:=S.1.1.1.2.1.2.1
noncomputable def SF.yo:=S.1.1.1.2.1.2.2
noncomputable def SF.nF:=S.1.1.1.2.2.1.1
noncomputable def SF.aR:=S.1.1.1.2.2.1.2
noncomputable def SF.mT:=S.1.1.1.2.2.2.1
noncomputable def SF.lJ:=S.1.1.1.2.2.2.2
noncomputable def SF.qv:=S.1.1.2.1.1.1.1
noncomputable def SF.QD:=S.1.1.2.1.1.1.2
noncomputable def SF.DA:=S.1.1.2.1.1.2.1
noncomputable def SF.wM:=S.1.1.2.1.1.2.2
noncomputable def SF.rU:=S.1.1.2.1.2.1.1
noncomputable def SF.add_mod:=S.1.1.2.1.2.1.2
noncomputable def SF.J4:=S.1.1.2.1.2.2.1
noncomputable def SF.neg:=S.1.1.2.1.2.2.2
noncomputable def SF.jC:=S.1.1.2.2.1.1.1
noncomputable def SF.u6:=S.1.1.2.2.1.1.2
noncomputable def SF.u7:=S.1.1.2.2.1.2.1
noncomputable def SF.QE:=S.1.1.2.2.1.2.2
noncomputable def SF.QF:=S.1.1.2.2.2.1.1
noncomputable def SF.add:=S.1.1.2.2.2.1.2
noncomputable def SF.Xr:=S.1.1.2.2.2.2.1
noncomputable def SF.sub:=S.1.1.2.2.2.2.2
noncomputable def SF.Xu:=S.1.2.1.1.1.1.1
noncomputable def SF.FH:=S.1.2.1.1.1.1.2
noncomputable def SF.FI:=S.1.2.1.1.1.2.1
noncomputable def SF.yp:=S.1.2.1.1.1.2.2
noncomputable def SF.FJ:=S.1.2.1.1.2.1.1
noncomputable def SF.QG:=S.1.2.1.1.2.1.2
noncomputable def SF.gf:=S.1.2.1.1.2.2.1
noncomputable def SF.tD:=S.1.2.1.1.2.2.2
noncomputable def SF.Ae:=S.1.2.1.2.1.1.1
noncomputable def SF.Nb:=S.1.2.1.2.1.1.2
noncomputable def SF.tE:=S.1.2.1.2.1.2.1
noncomputable def SF.mul:=S.1.2.1.2.1.2.2
noncomputable def SF.Xv:=S.1.2.1.2.2.1.1
noncomputable def SF.u9:=S.1.2.1.2.2.1.2
noncomputable def SF.Nc:=S.1.2.1.2.2.2.1
noncomputable def SF.FN:=S.1.2.1.2.2.2.2
noncomputable def SF.pow:=S.1.2.2.1.1.1.1
noncomputable def SF.j4:=S.1.2.2.1.1.1.2
noncomputable def SF.ZF:=S.1.2.2.1.1.2.1
noncomputable def SF.QH:=S.1.2.2.1.1.2.2
noncomputable def SF.QI:=S.1.2.2.1.2.1.1
noncomputable def SF.J5:=S.1.2.2.1.2.1.2
noncomputable def SF.dim:=S.1.2.2.1.2.2.1
noncomputable def SF.kB:=S.1.2.2.1.2.2.2
noncomputable def SF.bA:=S.1.2.2.2.1.1.1
noncomputable def SF.FO:=S.1.2.2.2.1.1.2
noncomputable def SF.d_:=S.1.2.2.2.1.2.1
noncomputable def SF.cT:=S.1.2.2.2.1.2.2
noncomputable def SF.J6:=S.1.2.2.2.2.1.1
noncomputable def SF.Xw:=S.1.2.2.2.2.1.2
noncomputable def SF.check:=S.1.2.2.2.2.2.1
noncomputable def SF.QJ:=S.1.2.2.2.2.2.2.1
noncomputable def SF.J7:=S.1.2.2.2.2.2.2.2
noncomputable def SF.FP:=S.2.1.1.1.1.1.1
noncomputable def SF.DB:=S.2.1.1.1.1.1.2
noncomputable def SF.Nd:=S.2.1.1.1.1.2.1
noncomputable def SF.Xx:=S.2.1.1.1.1.2.2
noncomputable def SF.J8:=S.2.1.1.1.2.1.1
noncomputable def SF.FQ:=S.2.1.1.1.2.1.2
noncomputable def SF.kU:=S.2.1.1.1.2.2.1
noncomputable def SF.QK:=S.2.1.1.1.2.2.2
noncomputable def SF.wN:=S.2.1.1.2.1.1.1
noncomputable def SF.QL:=S.2.1.1.2.1.1.2
noncomputable def SF.fk:=S.2.1.1.2.1.2.1
noncomputable def SF.Nf:=S.2.1.1.2.1.2.2
noncomputable def SF.FT:=S.2.1.1.2.2.1.1
noncomputable def SF.jt:=S.2.1.1.2.2.1.2
noncomputable def SF.BF:=S.2.1.1.2.2.2.1
noncomputable def SF.transpose:=S.2.1.1.2.2.2.2
noncomputable def SF.yq:=S.2.1.2.1.1.1.1
noncomputable def SF.yr:=S.2.1.2.1.1.1.2
noncomputable def SF.mC:=S.2.1.2.1.1.2.1
noncomputable def SF.iW:=S.2.1.2.1.1.2.2
noncomputable def SF.mod:=S.2.1.2.1.2.1.1
noncomputable def SF.BG:=S.2.1.2.1.2.1.2
noncomputable def SF.BH:=S.2.1.2.1.2.2.1
noncomputable def SF.jD:=S.2.1.2.1.2.2.2
noncomputable def SF.jE:=S.2.1.2.2.1.1.1
noncomputable def SF.rV:=S.2.1.2.2.1.1.2
noncomputable def SF.rW:=S.2.1.2.2.1.2.1
noncomputable def SF.dY:=S.2.1.2.2.1.2.2
noncomputable def SF.kC:=S.2.1.2.2.2.1.1
noncomputable def SF.qU:=S.2.1.2.2.2.1.2
noncomputable def SF.QM:=S.2.1.2.2.2.2.1
noncomputable def SF.Me:=S.2.1.2.2.2.2.2
noncomputable def SF.QN:=S.2.2.1.1.1.1.1
noncomputable def SF.DC:=S.2.2.1.1.1.1.2
noncomputable def SF.u_:=S.2.2.1.1.1.2.1
noncomputable def SF.vc:=S.2.2.1.1.1.2.2
noncomputable def SF.pN:=S.2.2.1.1.2.1.1
noncomputable def SF.yt:=S.2.2.1.1.2.1.2
noncomputable def SF.BI:=S.2.2.1.1.2.2.1
noncomputable def SF.BJ:=S.2.2.1.1.2.2.2
noncomputable def SF.BK:=S.2.2.1.2.1.1.1
noncomputable def SF.ju:=S.2.2.1.2.1.1.2
noncomputable def SF.QO:=S.2.2.1.2.1.2.1
noncomputable def SF.QS:=S.2.2.1.2.1.2.2
noncomputable def SF.QT:=S.2.2.1.2.2.1.1
noncomputable def SF.QU:=S.2.2.1.2.2.1.2
noncomputable def SF.QV:=S.2.2.1.2.2.2.1
noncomputable def SF.QW:=S.2.2.1.2.2.2.2
noncomputable def SF.qV:=S.2.2.2.1.1.1.1
noncomputable def SF.QX:=S.2.2.2.1.1.1.2
noncomputable def SF.Ng:=S.2.2.2.1.1.2.1
noncomputable def SF.QY:=S.2.2.2.1.1.2.2
noncomputable def SF.FU:=S.2.2.2.1.2.1.1
noncomputable def SF.J9:=S.2.2.2.1.2.1.2
noncomputable def SF.Af:=S.2.2.2.1.2.2.1
noncomputable def SF.DE:=S.2.2.2.1.2.2.2
noncomputable def SF.s_q:=S.2.2.2.2.1.1.1
noncomputable def SF.s_n:=S.2.2.2.2.1.1.2
noncomputable def SF.FW:=S.2.2.2.2.1.2.1
noncomputable def SF.FY:=S.2.2.2.2.1.2.2
noncomputable def SF.Nh:=S.2.2.2.2.2.1.1
noncomputable def SF.wO:=S.2.2.2.2.2.1.2
noncomputable def SF.BL:=S.2.2.2.2.2.2.1
noncomputable def SF.rX:=S.2.2.2.2.2.2.2.1
noncomputable def SF.wQ:=S.2.2.2.2.2.2.2.2
end
noncomputable def px(N:Nm)(r?:acn)(q n:Int)(cs:acu):MV:=eT N.CP (ay N.CR r? q n) cs
structure Ni(C:Cx):Prop where
 o:SF C kN
 BN:FnAt C 701 "GenericMatrix.__eq__" .none (Jl 16 8)
structure Mf(C:Cx):Prop where
 o:SF C dN
 Mg:nsIn C.K mainGlobals "set"=some none
 Mh:FnAt C 267 "PolynomialRingGeneric.is_element" .none (Jl 10 4)
 BO:Meth C 270 "is_element" 267
 BN:QC C 133 "MatrixGeneric.__eq__" .none (Jl 7 9) 132
theorem J_{C:Cx}{N:Nm}(S:SF C N){k:Nat}(r?:acn)(q:Int)(n:Nat)(cs:acu)(x?:acn)(fs:acj)(hf:fs.lookup ("parent":Str)=some (ay N.CR r? q n))(hn:n<=1000)(hc:cs.length<=n) :
 bJ C (k+6) (.ref (N.a 3)) [.inst x? N.CP fs,iv cs] [] (iv (cs++List.replicate (n-cs.length) 0)):=by
 refine c8 (bs:=[("self",.inst x? N.CP fs),("coefficients",iv cs)]) S.parse J λL D bh=>?_
 .refine aQ (aE (m:=.int cs.length) (bU (aM S.fU Boot.«len» rfl) (aj (ao J) ak) J ?_) (.inl J) J) ?_
  .have:=iQ (C:=C) (k:=k+5) (l:=cs.map .int) (by exact rl (aai ..) ((Z8 hn hc)))
   replace this:=(aai ..)▸this;exact this
  have nl:(n:Int)>=cs.length:=by exact Z9 hc
  rcases Nat.lt_or_ge cs.length n with hlt |hge
  .have hz:(List.map MV.int cs++(bz 0 (n-cs.length)).map λ_=>MV.int 0)=(cs++List.replicate (n-cs.length) 0).map MV.int:=by
    refine rl aa2 ?_;congr 1;unfold bz;simp[List.map_map,Function.comp_def,List.map_const']
   refine aQ (bq (bw (b:=false) (ao J) (aV (aV (ao J) S.dP hf J J) S.O1 J J J) ?_) (aK (c7 (bw (b:=true) (ao J) (aV (aV (ao J) S.dP hf J J) S.O1 J J J) ?_)
    (aK (aE (L0.ev (wG (l₁:=cs.map .int) (l₂:=(bz 0 (n-cs.length)).map λ_=>MV.int 0) (ao J) (aZ (jB (dH (aM S.b8 Boot.«range» rfl) (aj (aI (aV (aV (ao J) S.dP hf J J) S.O1 J J J) (ao J) (iN _ _)) ak)) (n-cs.length) ?_ ?_ ?_ ?_ ?_) (λL Do=>bX (λ_=>.int 0) (.inl J) (λ_ _=>aA)) (λq=>nomatch q) J J ?_ ?_ (λ_=>rfl)) ?_)) (.inl J) J) aJ)) aJ)) (bB (fV (c6 J ?_) J))
   .have:=cmp_gt (C:=C) (k:=k+5) (cs.length:Int) (n:Int)
    replace this:=(aaH (by exact Z_ hlt))▸this;exact this
   .have:=mJ (C:=C) (k:=k+5) (cs.length:Int) (n:Int)
    replace this:=(aaK (by exact a86 hlt))▸this;exact this
   .exact a87
   .decide
   .exact a88 hn
   .decide
   .exact a89 hlt
   .exact aaj J
   .simp[bz];exact a90 hn
   .simp[bz];exact a91 hn hlt
   .refine rl hz ?_;rfl
  .have h0:n-cs.length=0:=by exact a92 hge
   refine aQ (bq (bw (b:=false) (ao J) (aV (aV (ao J) S.dP hf J J) S.O1 J J J) ?_) (aK (bq (bw (b:=false) (ao J) (aV (aV (ao J) S.dP hf J J) S.O1 J J J) ?_) aJ) aJ)) (bB (fV (c6 J ?_) J))
   .have:=cmp_gt (C:=C) (k:=k+5) (cs.length:Int) (n:Int)
    replace this:=(aaH (by exact Zb hc))▸this;exact this
   .have:=mJ (C:=C) (k:=k+5) (cs.length:Int) (n:Int)
    replace this:=(aaH (by exact a94 hge))▸this;exact this
   .refine rl h0 (rl (aba ..) (rl (aaU ..) ?_));rfl
theorem wR{C:Cx}{N:Nm}(S:SF C N){k:Nat}(r?:acn)(q:Int)(n:Nat)(cs:acu)(hn:n<=1000)(hc:cs.length<=n) :
 bJ C (k+8) (.ref N.CP) [ay N.CR r? q n,iv cs] [] (px N r? q n (cs++List.replicate (n-cs.length) 0)):=by
 refine nb λnn=>?_;obtain⟨oc,od,kJ,kV,doc,pm,an,bh,ct,ho,h_⟩:=S.Dy.at_;refine nn<|nk (k:=k+6) (bs:=[("parent",ay N.CR r? q n),("coefficients",iv cs)]) S.Ad.makes S.Ad.find S.Ad.ty ho h_ (oG J) (by rfl) (.inl J) (λx dx=>aG (aG (("self",VS.obj x dx N.CP [])::dX [("parent",ay N.CR r? q n),("coefficients",iv cs)]) "self" (.obj x dx N.CP [("parent",ay N.CR r? q n)])) "self" (.obj x dx N.CP [("parent",ay N.CR r? q n),("coeffs",iv (cs++List.replicate (n-cs.length) 0))])) (λx dx L D=>?_) (λx dx=>?_)
 .exact aK (gY S.FG (ao J) J J (aae J) J J) (aK (gY S.yo (qO J J J S.J3 J (aj (ao J) ak) (J_ S r? q n cs none _ J hn hc) (wK _) J) J J (aae J) J J) aJ)
 .rfl
theorem yu{C:Cx}(S:SF C kN){k:Nat}(r?:acn)(q:Int)(n:Nat)(cs:acu)(hn:n<=1000)(hc:cs.length<=n) :
 bJ C (k+9) (.ref (kN.a 23)) [ay kN.CR r? q n,iv cs] [] (px kN r? q n (cs++List.replicate (n-cs.length) 0)):=by
 refine c8 (bs:=[("self",ay kN.CR r? q n),("coefficients",iv cs)]) S.nF J λL D bh=>?_
 .refine aQ (bq (bN (m:=.bool false) (bU (aM S.aR Boot.«isinstance» rfl) (aj (ao J) (aj (aM S.mT Boot.«int» rfl) ak)) J (bR S.QD (λ_ _ _ q=>nomatch q) J (λ_ q=>nomatch q))) (bE false)) aJ) ?_
  refine aQ (bq (cF (b:=true) (bN (m:=.bool true) (bU (aM S.aR Boot.«isinstance» rfl) (aj (ao J) (aj (aM S.lJ Boot.«list» rfl) ak)) J (bR S.DA (λ_ _ _ q=>nomatch q) J (λ_ q=>nomatch q))) (bE true))) aJ) ?_;exact bB (cR (bV J S.qv (λ_ _=>.bZ _ J) J) (aj (ao J) (aj (ao J) ak)) (cQ S.rU) (wR S r? q n cs hn hc).toV)
theorem Ag{C:Cx}(S:SF C kN){k:Nat}(r?:acn)(q c:Int)(n:Nat)(hn:n<=1000)(h1:1<=n) :
 bJ C (k+9) (.ref (kN.a 23)) [ay kN.CR r? q n,.int c] [] (px kN r? q n ([c]++List.replicate (n-1) 0)):=by
 refine c8 (bs:=[("self",ay kN.CR r? q n),("coefficients",.int c)]) S.nF J λL D bh=>?_
 .have hp:=wR S (k:=k) r? q n [c] hn h1
  exact fZ (c7 (bN (m:=.bool true) (bU (aM S.aR Boot.«isinstance» rfl) (aj (ao J) (aj (aM S.mT Boot.«int» rfl) ak)) J (bR S.wM (λ_ _ _ q=>nomatch q) J (λ_ q=>nomatch q))) (bE true))
   (ir (jX (cR (bV J S.qv (λ_ _=>.bZ _ J) J) (aj (ao J) (aj (eF (aj (ao J) ak) (aae J)) ak)) (cQ S.rU) hp.toV)) (by simp)))
theorem yv{C:Cx}(S:SF C dN){k:Nat}(r?:acn)(q:Int)(n:Nat)(cs:acu)(hn:n<=1000)(hc:cs.length<=n) :
 bJ C (k+9) (.ref (dN.a 23)) [ay dN.CR r? q n,iv cs] [] (px dN r? q n (cs++List.replicate (n-cs.length) 0)):=by
 refine c8 (bs:=[("self",ay dN.CR r? q n),("coefficients",iv cs)]) S.nF J λL D bh=>?_
 .refine aQ (bq (bN (m:=.bool false) (bU (aM S.aR Boot.«isinstance» rfl) (aj (ao J) (aj (aM S.mT Boot.«int» rfl) ak)) J (bR S.QD (λ_ _ _ q=>nomatch q) J (λ_ q=>nomatch q))) (bE false)) aJ) ?_
  refine aQ (bq (cF (b:=true) (bN (m:=.bool true) (bU (aM S.aR Boot.«isinstance» rfl) (aj (ao J) (aj (aM S.lJ Boot.«list» rfl) ak)) J (bR S.DA (λ_ _ _ q=>nomatch q) J (λ_ q=>nomatch q))) (bE true))) aJ) ?_;exact bB (cR (bV J S.qv (λ_ _=>.bZ _ J) J) (aj (ao J) (aj (ao J) ak)) (cQ S.rU) (wR S r? q n cs hn hc).toV)
theorem Ah{C:Cx}(S:SF C dN){k:Nat}(r?:acn)(q c:Int)(n:Nat)(hn:n<=1000)(h1:1<=n) :
 bJ C (k+9) (.ref (dN.a 23)) [ay dN.CR r? q n,.int c] [] (px dN r? q n ([c]++List.replicate (n-1) 0)):=by
 refine c8 (bs:=[("self",ay dN.CR r? q n),("coefficients",.int c)]) S.nF J λL D bh=>?_
 .have hp:=wR S (k:=k) r? q n [c] hn h1
  exact fZ (c7 (bN (m:=.bool true) (bU (aM S.aR Boot.«isinstance» rfl) (aj (ao J) (aj (aM S.mT Boot.«int» rfl) ak)) J (bR S.wM (λ_ _ _ q=>nomatch q) J (λ_ q=>nomatch q))) (bE true))
   (ir (jX (cR (bV J S.qv (λ_ _=>.bZ _ J) J) (aj (ao J) (aj (eF (aj (ao J) ak) (aae J)) ak)) (cQ S.rU) hp.toV)) (by simp)))
structure G0(C:Cx)(N:Nm):Prop where
 o:SF C N
 gh:∀{k:Nat}(r?:acn)(q:Int)(n:Nat)(cs:acu),n<=1000->cs.length<=n->bJ C (k+9) (.ref (N.a 23)) [ay N.CR r? q n,iv cs] [] (px N r? q n (cs++List.replicate (n-cs.length) 0))
 FZ:∀{k:Nat}(r?:acn)(q c:Int)(n:Nat),n<=1000->1<=n->bJ C (k+9) (.ref (N.a 23)) [ay N.CR r? q n,.int c] [] (px N r? q n ([c]++List.replicate (n-1) 0))
theorem Xy{C:Cx}(S:SF C kN):G0 C kN:=⟨S,yu S,Ag S⟩
theorem Xz{C:Cx}(S:SF C dN):G0 C dN:=⟨S,yv S,Ah S⟩
theorem pO:∀cs ds:acu,List.zipWith (λa b=>MV.tup [a,b]) (cs.map MV.int) (ds.map MV.int)=((cs.zip ds).map λp=>(MV.int p.1,MV.int p.2)).map λp=>MV.tup [p.1,p.2]
 |[],_=>by simp
 |_::_,[]=>by simp
 |a::cs,b::ds=>by simp[pO cs ds]
noncomputable def ie(q:Int)(cs ds:acu):acu:=(cs.zip ds).map λp=>(p.1+p.2).fmod q
noncomputable def iV(q:Int)(cs ds:acu):acu:=(cs.zip ds).map λp=>(p.1-p.2).fmod q
noncomputable def oH(q:Int)(cs:acu):acu:=cs.map λc=>(-c).fmod q
noncomputable def jL(q i:Int)(cs:acu):acu:=cs.map λc=>(c*i).fmod q
noncomputable def i1(f:Int->Int):MV->MV
 |.int x=>.int (f x)
 |m=>m
theorem Ai(f:Int->Int)(cs:acu):(cs.map MV.int).map (i1 f)=(cs.map f).map MV.int:=by refine rl aar (rl aar ?_);rfl
theorem vh{C:Cx}{N:Nm}(S:G0 C N){k:Nat}(r?:acn)(q n x y:Int)(cs:acu)(hq:q≠0):bJ C (k+1) (.ref (N.a 5)) [px N r? q n cs,.int x,.int y] [] (.int ((x+y).fmod q)):=by
 refine c8 (bs:=[("self",px N r? q n cs),("x",.int x),("y",.int y)]) S.o.add_mod J λL D bh=>?_
 .refine bB (aI (aI (ao J) (ao J) (fy _ _)) (aV (aV (ao J) S.o.dP J J J) S.o.O0 J J J) (b9 _ _ hq))
theorem vj{C:Cx}{N:Nm}(S:G0 C N){k:Nat}(r?:acn)(q n x y:Int)(cs:acu)(hq:q≠0):bJ C (k+1) (.ref (N.a 6)) [px N r? q n cs,.int x,.int y] [] (.int ((x-y).fmod q)):=by
 refine c8 (bs:=[("self",px N r? q n cs),("x",.int x),("y",.int y)]) S.o.J4 J λL D bh=>?_
 .refine bB (aI (aI (ao J) (ao J) (iN _ _)) (aV (aV (ao J) S.o.dP J J J) S.o.O0 J J J) (b9 _ _ hq))
theorem QZ{C:Cx}{N:Nm}(S:G0 C N){k:Nat}(r?:acn)(q:Int)(n:Nat)(cs:acu)(hq:q≠0)(hn:n<=1000)(hc:cs.length=n):bJ C (k+10) (.ref (N.a 8)) [px N r? q n cs] [] (px N r? q n (oH q cs)):=by
 refine c8 (bs:=[("self",px N r? q n cs)]) S.o.neg J λL D bh=>?_
 .have hl:(oH q cs).length=n:=by rw[oH,aai];exact hc
  have hz:((cs.map MV.int).map (i1 λc=>(-c).fmod q))=(oH q cs).map MV.int:=Ai _ _;have hr:=S.gh (k:=k) r? q n (oH q cs) hn (aa1 hl);rw[hl,abt,aba,aaU] at hr;refine aQ (cY (out:=(oH q cs).map MV.int) (bK (ms:=cs.map MV.int) (aV (ao J) S.o.eY J J J)) (λL Do=>hz▸bX (i1 λc=>(-c).fmod q) (.inl J) (aaM.mpr λc _=>?_)) (λq=>nomatch q) J J (aaj J) (by rw[aai];exact a3 hn hc) (λ_=>rfl) (.inl J) J)
   (bB (fB (ao J) S.o.dP J J (aj (ao J) ak) cJ (bQ S.o.jC hr) J))
  exact aI (Be (ao J) (ER _)) (aV (aV (ao J) S.o.dP J J J) S.o.O0 J J J) (b9 _ _ hq)
noncomputable def kW(q i:Int)(cs:acu):acu:=cs.set 0 ((cs[0]?.getD 0+i).fmod q)
noncomputable def lK(q i:Int)(cs:acu):acu:=cs.set 0 ((cs[0]?.getD 0-i).fmod q)
noncomputable def i2(f:Int->Int->Int):MV->MV->MV
 |.int x,.int y=>.int (f x y)
 |_,_=>.none
theorem F1(f:Int->Int->Int)(cs ds:acu):((cs.zip ds).map λp=>(MV.int p.1,MV.int p.2)).map (λp=>i2 f p.1 p.2)=((cs.zip ds).map λp=>f p.1 p.2).map MV.int:=by refine rl aar (rl aar ?_);rfl
theorem Mi{cs:acu}(h:0<cs.length):(cs.map MV.int)[(0:Int).toNat]?=some (.int (cs[0]?.getD 0)):=by
 cases cs with
 |nil=>cases h
 |cons a r=>rfl
theorem Nj{C:Cx}{N:Nm}(S:G0 C N){k:Nat}(r? qW:acn)(q q2:Int)(n n2:Int)(cs ds:acu)(hq:q≠0)(hc:cs.length<=1000):bJ C (k+3) (.ref (N.a 9)) [px N r? q n cs,px N qW q2 n2 ds] [] (iv (ie q cs ds)):=by
 refine c8 (bs:=[("self",px N r? q n cs),("other",px N qW q2 n2 ds)]) S.o.QE J λL D bh=>?_
 .have hz:((cs.zip ds).map λp=>(MV.int p.1,MV.int p.2)).map (λp=>i2 (λx y=>(x+y).fmod q) p.1 p.2)=(ie q cs ds).map MV.int:=F1 _ cs ds
  refine aQ (c7 (bN (m:=.bool true) (bU (aM S.o.aR Boot.«isinstance» rfl) (aj (ao J) (aj (bU (aM S.o.gf Boot.«type» rfl) (aj (ao J) ak) J eV) ak)) J (bR S.o.Ae (λ_ _ _ q=>by cases q;exact S.o.tE) J (λ_ q=>nomatch q))) (bE true))
   (aK (cY (out:=(ie q cs ds).map MV.int) (ms:=((cs.zip ds).map λp=>(MV.int p.1,MV.int p.2)).map λp=>MV.tup [p.1,p.2]) (pO cs ds▸pn (aM S.o.tD Boot.«zip» rfl) (aj (aV (ao J) S.o.eY J J J) (aj (aV (ao J) S.o.eY J J J) ak)))
    (λL Do=>hz▸yj (i2 λx y=>(x+y).fmod q) (.inl J) (.inl J) J _ _ (aaM.mpr λp _=>?_) _ (λ_ _=>rfl)) (λ_=>⟨_,_,_,J⟩) J J (aaj J) (by simp only[List.length_map,List.length_zip];exact a32 hc) (λ_=>rfl) (.inl J) J) aJ)) (bB (ao J))
  exact bl (ao J) S.o.u6 J (aj (ao J) (aj (ao J) ak)) (vh S r? q n p.1 p.2 cs hq) J
theorem F2{C:Cx}{N:Nm}(S:G0 C N){k:Nat}(r?:acn)(q i:Int)(n:Int)(cs:acu)(hq:q≠0)(hc:cs.length<=1000)(h0:0<cs.length):bJ C (k+3) (.ref (N.a 9)) [px N r? q n cs,.int i] [] (iv (kW q i cs)):=by
 refine c8 (bs:=[("self",px N r? q n cs),("other",.int i)]) S.o.QE J λL D bh=>?_
 .refine aQ (bq (bN (m:=.bool false) (bU (aM S.o.aR Boot.«isinstance» rfl) (aj (ao J) (aj (bU (aM S.o.gf Boot.«type» rfl) (aj (ao J) ak) J eV) ak)) J (bR S.o.Nb (λ_ _ _ q=>nomatch q) J (λ_ q=>nomatch q))) (bE false))
   (aK (c7 (bN (m:=.bool true) (bU (aM S.o.aR Boot.«isinstance» rfl) (aj (ao J) (aj (aM S.o.mT Boot.«int» rfl) ak)) J (bR S.o.wM (λ_ _ _ q=>nomatch q) J (λ_ q=>nomatch q))) (bE true))
    (Bv (l':=(kW q i cs).map MV.int) (iG (l:=cs.map MV.int) (yi (aV (ao J) S.o.eY J J J) (by exact rl (aai ..) hc) J) (wL cs) J J) J λa=>?_)) aJ)) (bB (ao J))
  have e:(kW q i cs).map MV.int=(cs.map MV.int).set (0:Int).toNat (.int ((cs[0]?.getD 0+i).fmod q)):=by rw[kW,List.map_set];rfl
  refine rl e ?_;exact aK (qR J J J (bl (ao J) S.o.u6 J (aj (jr J J J aA (by decide) (by decide) (Mi h0) (λ_ _=>rfl)) (aj (ao J) ak)) (vh S r? q n _ i cs hq) J) aA (by decide) (by decide) (by exact rl (aai ..) ((a1 h0))) J) aJ
theorem Nk{C:Cx}{N:Nm}(S:G0 C N){k:Nat}(r? qW:acn)(q q2:Int)(n n2:Int)(cs ds:acu)(hq:q≠0)(hc:cs.length<=1000):bJ C (k+3) (.ref (N.a 13)) [px N r? q n cs,px N qW q2 n2 ds] [] (iv (iV q cs ds)):=by
 refine c8 (bs:=[("self",px N r? q n cs),("other",px N qW q2 n2 ds)]) S.o.QF J λL D bh=>?_
 .have hz:((cs.zip ds).map λp=>(MV.int p.1,MV.int p.2)).map (λp=>i2 (λx y=>(x-y).fmod q) p.1 p.2)=(iV q cs ds).map MV.int:=F1 _ cs ds
  refine aQ (c7 (bN (m:=.bool true) (bU (aM S.o.aR Boot.«isinstance» rfl) (aj (ao J) (aj (bU (aM S.o.gf Boot.«type» rfl) (aj (ao J) ak) J eV) ak)) J (bR S.o.Ae (λ_ _ _ q=>by cases q;exact S.o.tE) J (λ_ q=>nomatch q))) (bE true))
   (aK (cY (out:=(iV q cs ds).map MV.int) (ms:=((cs.zip ds).map λp=>(MV.int p.1,MV.int p.2)).map λp=>MV.tup [p.1,p.2]) (pO cs ds▸pn (aM S.o.tD Boot.«zip» rfl) (aj (aV (ao J) S.o.eY J J J) (aj (aV (ao J) S.o.eY J J J) ak)))
    (λL Do=>hz▸yj (i2 λx y=>(x-y).fmod q) (.inl J) (.inl J) J _ _ (aaM.mpr λp _=>?_) _ (λ_ _=>rfl)) (λ_=>⟨_,_,_,J⟩) J J (aaj J) (by simp only[List.length_map,List.length_zip];exact a32 hc) (λ_=>rfl) (.inl J) J) aJ)) (bB (ao J))
  exact bl (ao J) S.o.u7 J (aj (ao J) (aj (ao J) ak)) (vj S r? q n p.1 p.2 cs hq) J
theorem F3{C:Cx}{N:Nm}(S:G0 C N){k:Nat}(r?:acn)(q i:Int)(n:Int)(cs:acu)(hq:q≠0)(hc:cs.length<=1000)(h0:0<cs.length):bJ C (k+3) (.ref (N.a 13)) [px N r? q n cs,.int i] [] (iv (lK q i cs)):=by
 refine c8 (bs:=[("self",px N r? q n cs),("other",.int i)]) S.o.QF J λL D bh=>?_
 .refine aQ (bq (bN (m:=.bool false) (bU (aM S.o.aR Boot.«isinstance» rfl) (aj (ao J) (aj (bU (aM S.o.gf Boot.«type» rfl) (aj (ao J) ak) J eV) ak)) J (bR S.o.Nb (λ_ _ _ q=>nomatch q) J (λ_ q=>nomatch q))) (bE false))
   (aK (c7 (bN (m:=.bool true) (bU (aM S.o.aR Boot.«isinstance» rfl) (aj (ao J) (aj (aM S.o.mT Boot.«int» rfl) ak)) J (bR S.o.wM (λ_ _ _ q=>nomatch q) J (λ_ q=>nomatch q))) (bE true))
    (Bv (l':=(lK q i cs).map MV.int) (iG (l:=cs.map MV.int) (yi (aV (ao J) S.o.eY J J J) (by exact rl (aai ..) hc) J) (wL cs) J J) J λa=>?_)) aJ)) (bB (ao J))
  have e:(lK q i cs).map MV.int=(cs.map MV.int).set (0:Int).toNat (.int ((cs[0]?.getD 0-i).fmod q)):=by rw[lK,List.map_set];rfl
  refine rl e ?_;exact aK (qR J J J (bl (ao J) S.o.u7 J (aj (jr J J J aA (by decide) (by decide) (Mi h0) (λ_ _=>rfl)) (aj (ao J) ak)) (vj S r? q n _ i cs hq) J) aA (by decide) (by decide) (by exact rl (aai ..) ((a1 h0))) J) aJ
theorem F4{C:Cx}{N:Nm}(S:G0 C N){k:Nat}(r? qW:acn)(q q2:Int)(n:Nat)(n2:Int)(cs ds:acu)(hq:q≠0)(hn:n<=1000)(hc:cs.length=n)(hd:ds.length=n):bJ C (k+10) (.ref (N.a 10)) [px N r? q n cs,px N qW q2 n2 ds] [] (px N r? q n (ie q cs ds)):=by
 refine c8 (bs:=[("self",px N r? q n cs),("other",px N qW q2 n2 ds)]) S.o.add J λL D bh=>?_
 .have hl:(ie q cs ds).length=n:=by rw[ie,aai,aaZ];exact a8 hc hd
  have hr:=S.gh (k:=k) r? q n (ie q cs ds) hn (aa1 hl);rw[hl,abt,aba,aaU] at hr;exact aQ (aE (bl (ao J) S.o.FH J (aj (ao J) ak) ((Nj S (k:=k) r? qW q q2 n n2 cs ds hq (by exact a3 hn hc)).mono (k':=k+9) (by exact a9)) J) (.inl J) J)
   (bB (fB (ao J) S.o.dP J J (aj (ao J) ak) cJ (bQ S.o.jC hr) J))
theorem BP{C:Cx}{N:Nm}(S:G0 C N){k:Nat}(r?:acn)(q i:Int)(n:Nat)(cs:acu)(hq:q≠0)(hn:n<=1000)(hc:cs.length=n)(h0:0<n):bJ C (k+10) (.ref (N.a 10)) [px N r? q n cs,.int i] [] (px N r? q n (kW q i cs)):=by
 refine c8 (bs:=[("self",px N r? q n cs),("other",.int i)]) S.o.add J λL D bh=>?_
 .have hl:(kW q i cs).length=n:=by rw[kW,abi];omega
  have hr:=S.gh (k:=k) r? q n (kW q i cs) hn (aa1 hl);rw[hl,abt,aba,aaU] at hr;exact aQ (aE (bl (ao J) S.o.FH J (aj (ao J) ak) ((F2 S (k:=k) r? q i n cs hq (by exact a3 hn hc) (by exact S8 hc h0)).mono (k':=k+9) (by exact a9)) J) (.inl J) J)
   (bB (fB (ao J) S.o.dP J J (aj (ao J) ak) cJ (bQ S.o.jC hr) J))
theorem Mj{C:Cx}{N:Nm}(S:G0 C N){k:Nat}(r? qW:acn)(q q2:Int)(n:Nat)(n2:Int)(cs ds:acu)(hq:q≠0)(hn:n<=1000)(hc:cs.length=n)(hd:ds.length=n):bJ C (k+10) (.ref (N.a 14)) [px N r? q n cs,px N qW q2 n2 ds] [] (px N r? q n (iV q cs ds)):=by
 refine c8 (bs:=[("self",px N r? q n cs),("other",px N qW q2 n2 ds)]) S.o.sub J λL D bh=>?_
 .have hl:(iV q cs ds).length=n:=by rw[iV,aai,aaZ];exact a8 hc hd
  have hr:=S.gh (k:=k) r? q n (iV q cs ds) hn (aa1 hl);rw[hl,abt,aba,aaU] at hr;exact aQ (aE (bl (ao J) S.o.FI J (aj (ao J) ak) ((Nk S (k:=k) r? qW q q2 n n2 cs ds hq (by exact a3 hn hc)).mono (k':=k+9) (by exact a9)) J) (.inl J) J)
   (bB (fB (ao J) S.o.dP J J (aj (ao J) ak) cJ (bQ S.o.jC hr) J))
theorem J'{C:Cx}{N:Nm}(S:G0 C N){k:Nat}(r?:acn)(q i:Int)(n:Nat)(cs:acu)(hq:q≠0)(hn:n<=1000)(hc:cs.length=n)(h0:0<n):bJ C (k+10) (.ref (N.a 14)) [px N r? q n cs,.int i] [] (px N r? q n (lK q i cs)):=by
 refine c8 (bs:=[("self",px N r? q n cs),("other",.int i)]) S.o.sub J λL D bh=>?_
 .have hl:(lK q i cs).length=n:=by rw[lK,abi];omega
  have hr:=S.gh (k:=k) r? q n (lK q i cs) hn (aa1 hl);rw[hl,abt,aba,aaU] at hr;exact aQ (aE (bl (ao J) S.o.FI J (aj (ao J) ak) ((F3 S (k:=k) r? q i n cs hq (by exact a3 hn hc) (by exact S8 hc h0)).mono (k':=k+9) (by exact a9)) J) (.inl J) J)
   (bB (fB (ao J) S.o.dP J J (aj (ao J) ak) cJ (bQ S.o.jC hr) J))
theorem F9{C:Cx}{N:Nm}(S:G0 C N){k:Nat}(r?:acn)(q i:Int)(n:Nat)(cs:acu)(hq:q≠0)(hn:n<=1000)(hc:cs.length=n)(h0:0<n):bJ C (k+11) (.ref (N.a 11)) [px N r? q n cs,.int i] [] (px N r? q n (kW q i cs)):=by
 refine c8 (bs:=[("self",px N r? q n cs),("other",.int i)]) S.o.Xr J λL D bh=>?_
 .exact bB (bl (ao J) S.o.yp J (aj (ao J) ak) (BP S r? q i n cs hq hn hc h0) J)
theorem F_{C:Cx}{N:Nm}(S:G0 C N){k:Nat}(r?:acn)(q i:Int)(n:Nat)(cs:acu)(hq:q≠0)(hn:n<=1000)(hc:cs.length=n)(h0:0<n):bJ C (k+11) (.ref (N.a 15)) [px N r? q n cs,.int i] [] (px N r? q n (oH q (lK q i cs))):=by
 refine c8 (bs:=[("self",px N r? q n cs),("other",.int i)]) S.o.Xu J λL D bh=>?_
 .have hl:(lK q i cs).length=n:=by rw[lK,abi];exact hc
  exact bB (Be (bl (ao J) S.o.FJ J (aj (ao J) ak) (J' S r? q i n cs hq hn hc h0) J) (JA S.o.QG (QZ S r? q n _ hq hn hl)))
theorem BQ{C:Cx}{N:Nm}(S:G0 C N){k:Nat}(r?:acn)(q i:Int)(n:Nat)(cs:acu)(hq:q≠0)(hn:n<=1000)(hc:cs.length=n)(hm:∀c∈cs,IntMulOk c i):bJ C (k+10) (.ref (N.a 17)) [px N r? q n cs,.int i] [] (px N r? q n (jL q i cs)):=by
 refine c8 (bs:=[("self",px N r? q n cs),("other",.int i)]) S.o.mul J λL D bh=>?_
 .have hl:(jL q i cs).length=n:=by rw[jL,aai];exact hc
  have hr:=S.gh (k:=k) r? q n (jL q i cs) hn (aa1 hl);rw[hl,abt,aba,aaU] at hr;have hz:((cs.map MV.int).map (i1 λc=>(c*i).fmod q))=(jL q i cs).map MV.int:=Ai _ _;refine aQ (bq (bN (m:=.bool false) (bU (aM S.o.aR Boot.«isinstance» rfl) (aj (ao J) (aj (bU (aM S.o.gf Boot.«type» rfl) (aj (ao J) ak) J eV) ak)) J (bR S.o.Nb (λ_ _ _ q=>nomatch q) J (λ_ q=>nomatch q))) (bE false))
   (aK (c7 (bN (m:=.bool true) (bU (aM S.o.aR Boot.«isinstance» rfl) (aj (ao J) (aj (aM S.o.mT Boot.«int» rfl) ak)) J (bR S.o.wM (λ_ _ _ q=>nomatch q) J (λ_ q=>nomatch q))) (bE true))
    (aK (cY (out:=(jL q i cs).map MV.int) (bK (ms:=cs.map MV.int) (aV (ao J) S.o.eY J J J)) (λL Do=>hz▸bX (i1 λc=>(c*i).fmod q) (.inl J) (aaM.mpr λc SM=>?_)) (λq=>nomatch q) J J (aaj J) (by rw[aai];exact a3 hn hc) (λ_=>rfl) (.inl J) J) aJ)) aJ))
   (bB (fB (ao J) S.o.dP J J (aj (ao J) ak) cJ (bQ S.o.jC hr) J))
  exact aI (aI (ao J) (ao J) (fz _ _ (hm c SM))) (aV (aV (ao J) S.o.dP J J J) S.o.O0 J J J) (b9 _ _ hq)
theorem Ga{C:Cx}{N:Nm}(S:G0 C N){k:Nat}(r?:acn)(q i:Int)(n:Nat)(cs:acu)(hq:q≠0)(hn:n<=1000)(hc:cs.length=n)(hm:∀c∈cs,IntMulOk c i):bJ C (k+11) (.ref (N.a 18)) [px N r? q n cs,.int i] [] (px N r? q n (jL q i cs)):=by
 refine c8 (bs:=[("self",px N r? q n cs),("other",.int i)]) S.o.Xv J λL D bh=>?_
 .exact bB (bl (ao J) S.o.u9 J (aj (ao J) ak) (BQ S r? q i n cs hq hn hc hm) J)
theorem mU{l:acu}{z:Int}{p:Nat}(hz:z=(p:Int))(hp:p<l.length):(l.map MV.int)[z.toNat]?=some (.int (l[p]?.getD 0)):=by subst hz;refine rl (aaV ..) (rl (aav ..) (rl (aak hp ..) ?_));rfl
noncomputable def yw(a b:acu)(i:Nat)(l:acu)(j:Nat):acu:=l.set (i+j) (l[i+j]?.getD 0+a[i]?.getD 0*b[j]?.getD 0)
noncomputable def yy(n:Nat)(a b:acu)(j:Nat)(l:acu)(i:Nat):acu:=l.set (i+j-n) (l[i+j-n]?.getD 0-a[i]?.getD 0*b[j]?.getD 0)
noncomputable def natOf:MV->Nat
 |.int i=>i.toNat
 |_=>0
noncomputable def Nl(n:Nat)(a b:acu)(l:acu)(i:Nat):acu:=(bz 0 (n-i)).foldl (λl m=>yw a b i l (natOf m)) l
noncomputable def Nn(n:Nat)(a b:acu)(l:acu)(j:Nat):acu:=(bz ((n:Int)-j) j).foldl (λl m=>yy n a b j l (natOf m)) l
noncomputable def iB(n:Nat)(a b:acu):acu:=(bz 1 (n-1)).foldl (λl m=>Nn n a b l (natOf m)) ((bz 0 n).foldl (λl m=>Nl n a b l (natOf m)) (List.replicate n 0))
noncomputable def gj(q:Int)(n:Nat)(a b:acu):acu:=(iB n a b).map λc=>c.fmod q
theorem BR{x:Int}{n:Nat}{m:MV}(h:m∈bz x n):∃j:Nat,j<n/\m = .int (x+j):=by obtain⟨j,hj,rfl⟩:=aan.mp h;exact⟨j,aa7.mp hj,J⟩
theorem yz{x:Int}{n:Nat}{P:MV->Prop}(H:∀j:Nat,j<n->P (.int (x+j))):∀m∈bz x n,P m:=λm h=>by obtain⟨j,hj,rfl⟩:=BR h;exact H j hj
theorem kg(j:Nat):natOf (.int (j:Int))=j:=rfl
theorem c_{n:Nat}{P:MV->Prop}(H:∀j:Nat,j<n->P (.int j)):∀m∈bz 0 n,P m:=λm h=>by obtain⟨j,hj,rfl⟩:=BR h;refine rl (Int.zero_add ..) ?_;exact H j hj
theorem getD_mem{α:Type}{l:List α}{i:Nat}{d:α}(h:i<l.length):l[i]?.getD d∈l:=by exact rl (aak h) ((aaE _))
theorem Ka(x:Int)(n:Nat):(bz x n).length=n:=by simp[bz]
theorem SS{i n:Nat}(h:i<n)(hn:n<=1000):(i:Int)<2^63:=by exact Zc h hn
theorem rgK{n:Nat}(hn:n<=1000):((n:Int)-0).toNat=n/\(n:Int)<=2^40/\-(2^40)<=(n:Int):=by exact T8 hn
theorem XA{n:Nat}(hn:n<=1000):((n:Int)-1).toNat=n-1:=by exact T9
theorem ZG{n i:Nat}(hn:n<=1000)(hi:i<n):(((n:Int)-i)-0).toNat=n-i/\(n:Int)-i<=2^40/\-(2^40)<=(n:Int)-i/\((n:Int)-((n:Int)-i)).toNat=i:=by exact T_ hn hi
theorem sc1{n i j:Nat}(hn:n<=1000)(hi:i<n)(hj:j<n-i):j<n/\i+j<n/\((i:Int)+j).toNat=i+j/\(0:Int)<=(i:Int)+j/\(i:Int)+j<2^63/\(i:Int)+j=((i+j:Nat):Int):=by exact Ua hn hj
theorem sc2{n j t:Nat}(hj:j<n)(ht:t<j):((n:Int)-j+t).toNat=n-j+t/\(n:Int)-j+t=((n-j+t:Nat):Int)/\n-j+t<n/\n<=n-j+t+j/\n-j+t+j-n<n:=by exact Ub hj ht
theorem sc3{n i j:Nat}(hn:n<=1000)(hi:i<n)(hj:j<n)(h:n<=i+j):((i:Int)+j-n).toNat=i+j-n/\(0:Int)<=(i:Int)+j-n/\(i:Int)+j-n<2^63/\(i:Int)+j-n=((i+j-n:Nat):Int):=by exact Uc hn hi hj h
theorem sc4{n t:Nat}(ht:t<n-1):(1+(t:Int)).toNat=1+t/\1+(t:Int)=((1+t:Nat):Int)/\1+t<n:=by exact Ud ht
theorem Np{C:Cx}{Γ:Gm}{vs:aC}{id:Str}{p pos:Pos}{g:Expr->Expr}{z:Bool}{a b:Expr}{n:Int}(Hf:Ev C Γ vs (.Name id p) (.bZ (.type "range")))(Ha:Ev C Γ vs (g a) (.int 0))(Hb:Ev C Γ vs (g b) (.int n))(ha:C_ (g a)=true:=by rfl)(hb:C_ (g b)=true:=by rfl):OW C Γ vs (.Call (.Name id p) (List.map g (bif z then[a,b] else[b])) [] pos) 0 n:=by
 cases z
 .exact dH Hf (aj Hb ak hb)
 .exact zZ Hf (aj Ha (aj Hb ak hb) ha)
theorem Gb{C:Cx}{N:Nm}(S:SF C N){k:Nat}(r? qW:acn)(q q2:Int)(n:Nat)(n2:Int)(cs ds:acu)(hq:q≠0)(hn:n<=1000)(hc:cs.length=n)(hd:ds.length=n)(hm:∀c∈cs,∀d∈ds,IntMulOk c d):bJ C (k+1) (.ref (N.a 7)) [px N r? q n cs,px N qW q2 n2 ds] [] (iv (gj q n cs ds)):=by
 refine c8 (bs:=[("self",px N r? q n cs),("other",px N qW q2 n2 ds)]) S.Nc J λL D bh=>?_
 .have h0:((bz 0 n).map λ_=>MV.int 0)=(List.replicate n (0:Int)).map MV.int:=by
   unfold bz;simp[List.map_map,Function.comp_def,List.map_const']
  refine nb λnn=>?_;obtain⟨g1,g2,g3⟩:=rgK hn;refine nn<|aQ (aE (aV (aV (ao J) S.dP J J J) S.O1 J J J) (.inl J) J)
   (aQ (aE (aV (ao J) S.eY J J J) (.inl J) J)
   (aQ (aE (aV (ao J) S.eY J J J) (.inl J) J)
   (yf (x:="new_coeffs") (l:=(List.replicate n (0:Int)).map MV.int) (Fx (out:=(List.replicate n (0:Int)).map MV.int) (jB (dH (aM S.b8 Boot.«range» rfl) (aj (ao J) ak)) n g1 (by decide) g2 (by decide) g3) (λL Do=>h0▸bX (λ_=>.int 0) (.inl J) (λ_ _=>aA)) (λq=>nomatch q) J J (aaj J) (by refine rl (Ka ..) ?_;exact hn) (λ_=>rfl) (wL _) J J) λad=>?_)))
  let R:aC->acu->Prop:=λvs l=>vs.lookup ("self":Str)=some (.v (px N r? q n cs))/\vs.lookup ("n":Str)=some (.v (.int n))/\vs.lookup ("a":Str)=some (.v (iv cs))/\vs.lookup ("b":Str)=some (.v (iv ds))/\vs.lookup ("new_coeffs":Str)=some (.own ad (l.map .int))/\l.length=n;refine gz R (λl m=>Nl n cs ds l (natOf m)) (List.replicate n 0) (jB (dH (aM S.b8 Boot.«range» rfl) (aj (ao J) ak)) n g1 (by decide) g2 (by decide) g3) (λq=>nomatch q) (λ_=>rfl) ⟨J,J,J,J,J,List.length_replicate ..⟩ (λvs l=>?_) (λvs hR=>?_)
  .refine c_ λi hi hR=>?_
   obtain⟨r1,r2,r3,r4,r5,r6⟩:=hR;rw[kg];have lk:∀(z:Str)(w:VS),(aG vs "i" w).lookup z=if z=("i":Str) then some w else vs.lookup z:=λz w=>au vs "i" w z
   have l1:(aG vs "i" (.v (.int i))).lookup ("n":Str)=some (.v (.int n)):=(lk _ _).trans r2;have l2:(aG vs "i" (.v (.int i))).lookup ("i":Str)=some (.v (.int i)):=lk _ _;obtain⟨ni,ni2,ni3,_⟩:=ZG hn hi;let R2:aC->acu->Prop:=λvs l=>R vs l/\vs.lookup ("i":Str)=some (.v (.int i));refine Exists.elim (pK (C:=C) (Γ:=(gF k (N.q 7) (mq (N.T 7)) L (N.a 7) bh D)) (vs:=aG vs "i" (.v (.int i))) (pr:=false) (ms:=bz 0 (n-i)) R2 (λl m=>yw cs ds i l (natOf m)) l
    (λDo=>jB (Np (aM S.b8 Boot.«range» rfl) aA (aI (cD J l1 J) (cD J l2 J) (iN _ _))) (n-i) ni (by decide) ni2 (by decide) ni3) (λq=>nomatch q) (λ_=>rfl)
    ⟨⟨(lk _ _).trans r1,(lk _ _).trans r2,(lk _ _).trans r3,(lk _ _).trans r4,(lk _ _).trans r5,r6⟩,lk _ _⟩ (λvs l=>?_)) (λdG h=>⟨_,dG,λDo=>cH (.inl J),h.1,h.2.1⟩)
   refine c_ λj hj XC=>?_;refine nb λnn=>?_;obtain⟨⟨s1,s2,s3,s4,s5,s6⟩,s7⟩:=XC;obtain⟨jn,ij,q1,q2,q3,q4⟩:=sc1 hn hi hj;refine nn ?_;rw[kg];have zK:∀(z:Str)(w:VS),(aG vs "j" w).lookup z=if z=("j":Str) then some w else vs.lookup z:=λz w=>au vs "j" w z
   have m1:(aG vs "j" (.v (.int j))).lookup ("a":Str)=some (.v (iv cs)):=(zK _ _).trans s3;have m2:(aG vs "j" (.v (.int j))).lookup ("b":Str)=some (.v (iv ds)):=(zK _ _).trans s4;have m3:(aG vs "j" (.v (.int j))).lookup ("i":Str)=some (.v (.int i)):=(zK _ _).trans s7;have m4:(aG vs "j" (.v (.int j))).lookup ("j":Str)=some (.v (.int j)):=zK _ _;have m5:(aG vs "j" (.v (.int j))).lookup ("new_coeffs":Str)=some (.own ad (l.map .int)):=(zK _ _).trans s5;have hic:i<cs.length:=hc▸hi;have Q0:j<ds.length:=hd▸jn;have ca:=getD_mem (d:=0) hic;have da:=getD_mem (d:=0) Q0;have e2:(l.map MV.int).set ((i:Int)+j).toNat (.int (l[i+j]?.getD 0+cs[i]?.getD 0*ds[j]?.getD 0))=(yw cs ds i l j).map MV.int:=by rw[q1,yw,List.map_set]
   refine⟨_,aG (aG vs "j" (.v (.int j))) "new_coeffs" (.own ad ((yw cs ds i l j).map .int)),λDo=>cH (.inl J),λDo=>wI (e2▸qS (m₀:=.int (l[i+j]?.getD 0)) (m₁:=.int (cs[i]?.getD 0*ds[j]?.getD 0)) m5 J J (aI (bC (cD J m1 J) (cD J m3 J) (aa9 _) (SS hi hn) (mU (p:=i) J hic) (λ_ _=>rfl)) (bC (cD J m2 J) (cD J m4 J) (aa9 _) (SS jn hn) (mU (p:=j) J Q0) (λ_ _=>rfl)) (fz _ _ (hm _ ca _ da))) (aI (cD J m3 J) (cD J m4 J) (fy _ _)) q2 q3 (mU (p:=i+j) q4 (s6▸ij)) (wH _ _)),?_⟩;have DF:∀(z:Str)(w:VS),(aG (aG vs "j" (.v (.int j))) "new_coeffs" w).lookup z=if z=("new_coeffs":Str) then some w else(aG vs "j" (.v (.int j))).lookup z:=λz w=>au _ "new_coeffs" w z
   exact⟨⟨(DF _ _).trans ((zK _ _).trans s1),(DF _ _).trans ((zK _ _).trans s2),(DF _ _).trans m1,(DF _ _).trans m2,DF _ _,by rw[yw,abi];exact s6⟩,(DF _ _).trans m3⟩
  .refine gz R (λl m=>Nn n cs ds l (natOf m)) _ (jB (zZ (m:=1) (aM S.b8 Boot.«range» rfl) (aj aA (aj (cD J hR.2.1 J) ak))) (n-1) (XA hn) (by decide) g2 (by decide) g3) (λq=>nomatch q) (λ_=>rfl) hR (λvs l=>?_) (λvs hR=>?_)
   .refine yz λt0 ht0 hR=>?_
    refine nb λnn=>?_;obtain⟨r1,r2,r3,r4,r5,r6⟩:=hR;obtain⟨hn1,hj0,hj1⟩:=sc4 ht0;refine nn ?_;rw[show natOf (.int (1+(t0:Int)))=1+t0 from hn1,hj0];generalize 1+t0=j at hj1;refine nb λnn=>?_;obtain⟨_,p2,p3,p4⟩:=ZG hn hj1;have lk:∀(z:Str)(w:VS),(aG vs "j" w).lookup z=if z=("j":Str) then some w else vs.lookup z:=λz w=>au vs "j" w z
    have l1:(aG vs "j" (.v (.int j))).lookup ("n":Str)=some (.v (.int n)):=(lk _ _).trans r2;have l2:(aG vs "j" (.v (.int j))).lookup ("j":Str)=some (.v (.int j)):=lk _ _;refine nn ?_;let R2:aC->acu->Prop:=λvs l=>R vs l/\vs.lookup ("j":Str)=some (.v (.int j));refine Exists.elim (pK (C:=C) (Γ:=(gF k (N.q 7) (mq (N.T 7)) L (N.a 7) bh D)) (vs:=aG vs "j" (.v (.int j))) (pr:=false) (ms:=bz ((n:Int)-j) j) R2 (λl m=>yy n cs ds j l (natOf m)) l
     (λDo=>jB (zZ (aM S.b8 Boot.«range» rfl) (aj (aI (cD J l1 J) (cD J l2 J) (iN _ _)) (aj (cD J l1 J) ak))) j p4 p3 g2 p2 g3) (λq=>nomatch q) (λ_=>rfl)
     ⟨⟨(lk _ _).trans r1,(lk _ _).trans r2,(lk _ _).trans r3,(lk _ _).trans r4,(lk _ _).trans r5,r6⟩,lk _ _⟩ (λvs l=>?_)) (λdG h=>⟨_,dG,λDo=>cH (.inl J),h.1,h.2.1⟩)
    refine yz λt1 ht1 XC=>?_;refine nb λnn=>?_;obtain⟨⟨s1,s2,s3,s4,s5,s6⟩,s7⟩:=XC;obtain⟨hni,hi0,hib,hij,hil⟩:=sc2 hj1 ht1;refine nn ?_;rw[show natOf (.int ((n:Int)-j+t1))=n-j+t1 from hni,hi0];generalize n-j+t1=i at hib hij hil;refine nb λnn=>?_;obtain⟨q1,q2,q3,q4⟩:=sc3 hn hib hj1 hij;have hic:i<cs.length:=hc▸hib;have Q0:j<ds.length:=hd▸hj1;have ca:=getD_mem (d:=0) hic;have da:=getD_mem (d:=0) Q0;have zK:∀(z:Str)(w:VS),(aG vs "i" w).lookup z=if z=("i":Str) then some w else vs.lookup z:=λz w=>au vs "i" w z
    have m1:(aG vs "i" (.v (.int i))).lookup ("a":Str)=some (.v (iv cs)):=(zK _ _).trans s3;have m2:(aG vs "i" (.v (.int i))).lookup ("b":Str)=some (.v (iv ds)):=(zK _ _).trans s4;have m3:(aG vs "i" (.v (.int i))).lookup ("j":Str)=some (.v (.int j)):=(zK _ _).trans s7;have m4:(aG vs "i" (.v (.int i))).lookup ("i":Str)=some (.v (.int i)):=zK _ _;have m5:(aG vs "i" (.v (.int i))).lookup ("new_coeffs":Str)=some (.own ad (l.map .int)):=(zK _ _).trans s5;have m6:(aG vs "i" (.v (.int i))).lookup ("n":Str)=some (.v (.int n)):=(zK _ _).trans s2;have e2:(l.map MV.int).set ((i:Int)+j-n).toNat (.int (l[i+j-n]?.getD 0-cs[i]?.getD 0*ds[j]?.getD 0))=(yy n cs ds j l i).map MV.int:=by rw[q1,yy,List.map_set]
    refine nn<|⟨_,aG (aG vs "i" (.v (.int i))) "new_coeffs" (.own ad ((yy n cs ds j l i).map .int)),λDo=>cH (.inl J),λDo=>wI (e2▸qS (m₀:=.int (l[i+j-n]?.getD 0)) (m₁:=.int (cs[i]?.getD 0*ds[j]?.getD 0)) m5 J J (aI (bC (cD J m1 J) (cD J m4 J) (aa9 _) (SS hib hn) (mU (p:=i) J hic) (λ_ _=>rfl)) (bC (cD J m2 J) (cD J m3 J) (aa9 _) (SS hj1 hn) (mU (p:=j) J Q0) (λ_ _=>rfl)) (fz _ _ (hm _ ca _ da))) (aI (aI (cD J m4 J) (cD J m3 J) (fy _ _)) (cD J m6 J) (iN _ _)) q2 q3 (mU (p:=i+j-n) q4 (s6▸hil)) (JZ _ _)),?_⟩
    have DF:∀(z:Str)(w:VS),(aG (aG vs "i" (.v (.int i))) "new_coeffs" w).lookup z=if z=("new_coeffs":Str) then some w else(aG vs "i" (.v (.int i))).lookup z:=λz w=>au _ "new_coeffs" w z
    exact⟨⟨(DF _ _).trans ((zK _ _).trans s1),(DF _ _).trans ((zK _ _).trans s2),(DF _ _).trans m1,(DF _ _).trans m2,DF _ _,by rw[yy,abi];exact s6⟩,(DF _ _).trans m3⟩
   .refine nb λnn=>?_
    obtain⟨r1,r2,r3,r4,r5,r6⟩:=hR;refine nn<|pL (Na r1 r5) (qQ (x:="new_coeffs") J J ?_)
    have hz:(((iB n cs ds).map MV.int).map (i1 λc=>c.fmod q))=(gj q n cs ds).map MV.int:=Ai _ _;refine bB (aZ (out:=(gj q n cs ds).map MV.int) (bK (ms:=(iB n cs ds).map MV.int) (ao J)) (λL Do=>hz▸bX (i1 λc=>c.fmod q) (.inl J) (aaM.mpr λc _=>?_)) (λq=>nomatch q) J J (aaj J) (by exact rl (aai ..) ((aaf (aa1 r6) hn))) (λ_=>rfl));exact aI (ao J) (aV (aV (ao J) S.dP J J J) S.O0 J J J) (b9 _ _ hq)
theorem Gd(a b:acu)(i:Nat)(l:acu)(j:Nat):(yw a b i l j).length=l.length:=by rw[yw,abi]
theorem Ge(n:Nat)(a b:acu)(j:Nat)(l:acu)(i:Nat):(yy n a b j l i).length=l.length:=by rw[yy,abi]
theorem nG{f:acu->MV->acu}(h:∀l m,(f l m).length=l.length):∀(ms:acw)(l:acu),(ms.foldl f l).length=l.length:=by
 intro ll
 induction ll with
 |nil=>
  intro _;exact J
 |cons m ms ih=>
  intro l;rw[ab6,ih,h]
theorem Gf(n:Nat)(a b l:acu)(i:Nat):(Nl n a b l i).length=l.length:=nG (λl m=>Gd ..) _ l
theorem Gg(n:Nat)(a b l:acu)(i:Nat):(Nn n a b l i).length=l.length:=nG (λl m=>Ge ..) _ l
theorem gJ(q:Int)(n:Nat)(a b:acu):(gj q n a b).length=n:=by rw[gj,aai,iB,nG (λl m=>Gg ..),nG (λl m=>Gf ..),List.length_replicate]
theorem BS{C:Cx}{N:Nm}(S:G0 C N){k:Nat}(r? qW:acn)(q q2:Int)(n:Nat)(n2:Int)(cs ds:acu)(hq:q≠0)(hn:n<=1000)(hc:cs.length=n)(hd:ds.length=n)(hm:∀c∈cs,∀d∈ds,IntMulOk c d):bJ C (k+10) (.ref (N.a 17)) [px N r? q n cs,px N qW q2 n2 ds] [] (px N r? q n (gj q n cs ds)):=by
 refine c8 (bs:=[("self",px N r? q n cs),("other",px N qW q2 n2 ds)]) S.o.mul J λL D bh=>?_
 .have hl:=gJ q n cs ds
  have hr:=S.gh (k:=k) r? q n (gj q n cs ds) hn (aa1 hl);rw[hl,abt,aba,aaU] at hr;exact aQ (c7 (bN (m:=.bool true) (bU (aM S.o.aR Boot.«isinstance» rfl) (aj (ao J) (aj (bU (aM S.o.gf Boot.«type» rfl) (aj (ao J) ak) J eV) ak)) J (bR S.o.Ae (λ_ _ _ q=>by cases q;exact S.o.tE) J (λ_ q=>nomatch q))) (bE true))
   (aK (aE (bl (ao J) S.o.FN J (aj (ao J) ak) ((Gb S.o (k:=k) r? qW q q2 n n2 cs ds hq hn hc hd hm).mono (k':=k+9) (by exact a96)) J) (.inl J) J) aJ))
   (bB (fB (ao J) S.o.dP J J (aj (ao J) ak) cJ (bQ S.o.jC hr) J))
theorem j5{a:Int}(h0:0<=a)(h:a<2^64):Builtin.Int.intBits a<=64:=intBits_le_64 (by exact Ue h0) h
noncomputable def Red(q:Int)(cs:acu):Prop:=∀c∈cs,0<=c/\c<q
theorem wU{q:Int}{cs ds:acu}(hq:q<=2^64)(h:Red q cs):∀c∈cs,∀d∈ds,IntMulOk c d:=λc hc d _=>.of_left (j5 (h c hc).1 (abO (h c hc).2 hq))
theorem jv{q:Int}(hq:0<q)(n:Nat)(a b:acu):Red q (gj q n a b):=λc hc=>by obtain⟨d,_,rfl⟩:=aan.mp hc;exact⟨abk _ hq,aby _ hq⟩
noncomputable def yC(mu:acu->acu->acu)(g f:acu)(e:Nat):acu:=if h:e=0 then g else yC mu (if e%2=1 then mu g f else g) (mu f f) (e/2)
termination_by e
decreasing_by exact zP h
theorem vn(mu:acu->acu->acu)(g f:acu):yC mu g f 0=g:=by rw[yC,dif_pos J]
theorem vo(mu:acu->acu->acu)(g f:acu){e:Nat}(h:e≠0):yC mu g f e=yC mu (if e%2=1 then mu g f else g) (mu f f) (e/2):=by rw[yC,dif_neg h]
noncomputable def oJ(q:Int)(n:Nat)(g f:acu)(e:Nat):acu:=yC (gj q n) g f e
theorem qw(q:Int)(n:Nat)(g f:acu):oJ q n g f 0=g:=vn ..
theorem qx(q:Int)(n:Nat)(g f:acu){e:Nat}(h:e≠0):oJ q n g f e=oJ q n (if e%2=1 then gj q n g f else g) (gj q n f f) (e/2):=vo _ _ _ h
theorem Gh{C:Cx}{N:Nm}(S:G0 C N){k:Nat}(r?:acn)(q:Int)(n e:Nat)(cs:acu)(hq:0<q)(hq2:q<=2^64)(hn:n<=1000)(h1:1<q)(h0:1<=n)(hc:cs.length=n)(hr:Red q cs)(he:e<1000):bJ C (k+12) (.ref (N.a 20)) [px N r? q n cs,.int e] [] (px N r? q n (oJ q n ([1]++List.replicate (n-1) 0) cs e)):=by
 refine c8 (bs:=[("self",px N r? q n cs),("n",.int e)]) S.o.pow J λL D bh=>?_
 .refine aQ (bq (cF (b:=true) (bN (m:=.bool true) (bU (aM S.o.aR Boot.«isinstance» rfl) (aj (ao J) (aj (aM S.o.mT Boot.«int» rfl) ak)) J (bR S.o.wM (λ_ _ _ q=>nomatch q) J (λ_ q=>nomatch q))) (bE true))) aJ) ?_
  have hlt:iZ C (k+11) .Lt (.int e) (.int 0) (.bool false):=by have:=mJ (C:=C) (k:=k+11) (e:Int) 0;rw[aaH (by exact So)] at this;exact this
  refine aQ (bq (bw (b:=false) (ao J) aA hlt) aJ) ?_;refine aQ (aE (ao J) (.inl J) J) ?_;refine aQ (aE (fB (ao J) S.o.dP J J (aj aA ak) cJ (bQ S.o.jC ((S.FZ (k:=k) r? q 1 n hn h0).mono (k':=k+11) (by exact a97))) J) (.inl J) J) ?_;let R:aC->acu×List Int×Nat->Prop:=λvs s=>vs.lookup ("g":Str)=some (.v (px N r? q n s.1))/\vs.lookup ("f":Str)=some (.v (px N r? q n s.2.1))/\vs.lookup ("n":Str)=some (.v (.int s.2.2))/\s.1.length=n/\s.2.1.length=n/\Red q s.1/\Red q s.2.1/\s.2.2<1000;refine mR R (λs=>s.2.2) (λs=>decide (0<s.2.2)) (λs=>(if s.2.2%2=1 then gj q n s.1 s.2.1 else s.1,gj q n s.2.1 s.2.1,s.2.2/2)) (λs=>oJ q n s.1 s.2.1 s.2.2) ([1]++List.replicate (n-1) 0,cs,e) (λs hs=>?_) ?_ (λvs s hR=>?_) (λvs s hR hg hres=>?_)
  .have kq:0<s.2.2:=aaj hs
   exact⟨Nat.div_lt_self kq (by decide),(qx q n s.1 s.2.1 (by exact a98 kq)).symm⟩
  .refine⟨J,J,J,?_,hc,?_,hr,he⟩
   .simp;exact Zd h0
   .intro c jV
    rcases aag.mp jV with h |h
    .refine rl (aam.mp h) ?_;omega
    .refine rl ((List.mem_replicate.mp h).2) ?_;omega
  .refine nb λnn=>?_
   obtain⟨r1,r2,r3,r4,r5,r6,r7,r8⟩:=hR;obtain⟨g,f,e'⟩:=s;have hgt:=cmp_gt (C:=C) (k:=k+11) (e':Int) 0;have hge:decide ((0:Int)<e')=decide (0<e'):=by simp
   replace hgt:=hge▸hgt;refine nn<|⟨bw (cD J r3 J) aA hgt,λhg=>?_⟩
   have Gi:∀{a b:acu},a.length=n->b.length=n->Red q a->uR C (k+11) .Mult (px N r? q n a) (px N r? q n b) (px N r? q n (gj q n a b)):=λ{a b} ha hb hra=>
    e_ S.o.u9 S.o.j4 ((BS S (k:=k) r? r? q q n n a b (by exact a4 h1) hn ha hb (wU hq2 hra)).mono (k':=k+11) (by exact Pd))
   have hmod:((e':Int).fmod 2)=((e'%2:Nat):Int):=by exact rl (aaA _ (by decide)) Ti
   have hdiv:((e':Int).fdiv 2)=((e'/2:Nat):Int):=by exact rl (abg _ (by decide)) Tj
   have BU:Builtin.divisionGoesByPylong (e':Int) 2=false:=abl (by decide);have turn:∀(XD:aC)(g2:acu),XD.lookup ("g":Str)=some (.v (px N r? q n g2))->XD.lookup ("f":Str)=some (.v (px N r? q n f))->XD.lookup ("n":Str)=some (.v (.int e'))->True:=λ_ _ _ _ _=>trivial;have zM:∀(V:aC)(z x:Str)(w:VS),(aG V x w).lookup z=if z=x then some w else V.lookup z:=λV z x w=>au V x w z
   by_cases hodd:e'%2=1
   .have heq:iZ C (k+11) .Eq (.int ((e':Int).fmod 2)) (.int 1) (.bool true):=by
     have:=gO (C:=C) (k:=k+11) ((e':Int).fmod 2) 1;have h:((e':Int).fmod 2==1)=true:=by refine rl hmod (rl hodd ?_);rfl
     replace this:=h▸this;exact this
    refine⟨_,aK (c7 (bw (b:=true) (aI (cD J r3 J) aA (b9 _ _ (by decide))) aA heq) (aK (aE (aI (cD J r1 J) (cD J r2 J) (Gi r4 r5 r6)) (.inl J) J) aJ)) (aK (aE (aI (fV (c6 J ((zM _ _ _ _).trans r2)) J) (fV (c6 J ((zM _ _ _ _).trans r2)) J) (Gi r5 r5 r7)) (.inl J) J) (aK (aE (aI (fV (c6 J ((zM _ _ _ _).trans ((zM _ _ _ _).trans r3))) J) aA (iF _ _ (by decide) BU)) (.inl J) J) aJ)),?_⟩;have e1:(if e'%2=1 then gj q n g f else g)=gj q n g f:=aaN hodd;show R _ (if e'%2=1 then gj q n g f else g,gj q n f f,e'/2);refine rl e1 ?_;refine⟨(zM _ _ _ _).trans ((zM _ _ _ _).trans (zM _ _ _ _)),(zM _ _ _ _).trans (zM _ _ _ _),?_,gJ ..,gJ ..,jv hq _ _ _,jv hq _ _ _,?_⟩
    .refine(zM _ _ _ _).trans ?_
     show some (VS.v (.int ((e':Int).fdiv 2)))=_;exact rl hdiv J
    .show e'/2<1000
     have:e'<1000:=r8;exact YS this
   .have heq:iZ C (k+11) .Eq (.int ((e':Int).fmod 2)) (.int 1) (.bool false):=by
     have:=gO (C:=C) (k:=k+11) ((e':Int).fmod 2) 1;have h:((e':Int).fmod 2==1)=false:=by
      refine rl hmod ?_;have:e'%2=0:=by exact Tn hodd
      refine rl this ?_;rfl
     replace this:=h▸this;exact this
    refine⟨_,aK (bq (bw (b:=false) (aI (cD J r3 J) aA (b9 _ _ (by decide))) aA heq) aJ) (aK (aE (aI (cD J r2 J) (cD J r2 J) (Gi r5 r5 r7)) (.inl J) J) (aK (aE (aI (fV (c6 J ((zM _ _ _ _).trans r3)) J) aA (iF _ _ (by decide) BU)) (.inl J) J) aJ)),?_⟩;have e1:(if e'%2=1 then gj q n g f else g)=g:=aaD hodd;show R _ (if e'%2=1 then gj q n g f else g,gj q n f f,e'/2);refine rl e1 ?_;refine⟨(zM _ _ _ _).trans ((zM _ _ _ _).trans r1),(zM _ _ _ _).trans (zM _ _ _ _),?_,r4,gJ ..,r6,jv hq _ _ _,?_⟩
    .refine(zM _ _ _ _).trans ?_
     show some (VS.v (.int ((e':Int).fdiv 2)))=_;exact rl hdiv J
    .show e'/2<1000
     have:e'<1000:=r8;exact YS this
  .refine nb λnn=>?_
   obtain⟨r1,r2,r3,r4,r5,r6,r7,r8⟩:=hR;have h0:s.2.2=0:=by simpa using hg
   have:s.1=oJ q n ([1]++List.replicate (n-1) 0) cs e:=by refine rs hres ?_;show s.1=oJ q n s.1 s.2.1 s.2.2;exact rl h0 (rl (qw ..) J)
   refine nn ?_;refine rs this ?_;exact bB (cD J r1 J)
theorem Q2{C:Cx}(S:SF C kN){k:Nat}(r? qW:acn)(q q2 n n2:Int)(cs ds:acu):bJ C (k+2) (.ref (kN.a 21)) [px kN r? q n cs,px kN qW q2 n2 ds] [] (.bool (decide (cs=ds))):=by
 refine c8 (bs:=[("self",px kN r? q n cs),("other",px kN qW q2 n2 ds)]) S.ZF J λL D bh=>?_
 .exact fZ (c7 (bN (m:=.bool true) (bU (aM S.aR Boot.«isinstance» rfl) (aj (ao J) (aj (bU (aM S.gf Boot.«type» rfl) (aj (ao J) ak) J eV) ak)) J (bR S.Ae (λ_ _ _ q=>by cases q;exact S.tE) J (λ_ q=>nomatch q))) (bE true))
   (ir (jX (kr (aV (ao J) S.eY J J J) (aV (ao J) S.eY J J J) (mS cs ds))) (by simp)))
theorem Q3{C:Cx}(S:SF C dN){k:Nat}(r? qW:acn)(q q2 n n2:Int)(cs ds:acu):bJ C (k+2) (.ref (dN.a 21)) [px dN r? q n cs,px dN qW q2 n2 ds] [] (.bool (decide (cs=ds))):=by
 refine c8 (bs:=[("self",px dN r? q n cs),("other",px dN qW q2 n2 ds)]) S.ZF J λL D bh=>?_
 .exact fZ (c7 (bN (m:=.bool true) (bU (aM S.aR Boot.«isinstance» rfl) (aj (ao J) (aj (bU (aM S.gf Boot.«type» rfl) (aj (ao J) ak) J eV) ak)) J (bR S.Ae (λ_ _ _ q=>by cases q;exact S.tE) J (λ_ q=>nomatch q))) (bE true))
   (ir (jX (kr (aV (ao J) S.eY J J J) (aV (ao J) S.eY J J J) (mS cs ds))) (by simp)))
noncomputable abbrev Rows:=List (ack)
noncomputable def ek(Cp:Addr)(ri:MV)(rows:Rows):acw:=rows.map λr=>MV.lst (r.map (eT Cp ri))
noncomputable def fT(Cm Cp:Addr)(mo ri:MV)(rows:Rows)(tr:Bool):MV:=.inst none Cm [("parent",mo),("_data",.lst (ek Cp ri rows)),("_transpose",.bool tr)]
noncomputable def cK(Co:Addr)(x?:acn)(ri:MV):MV:=.inst x? Co [("ring",ri)]
noncomputable def mr(N:Nm)(x?:acn)(ri:MV)(rows:Rows)(tr:Bool):MV:=fT N.CM N.CP (cK N.CO x? ri) ri rows tr
noncomputable def mD(rows:Rows)(i j:Nat):Option (acu):=(rows[i]?).bind λr=>r[j]?
noncomputable def jI(rows:Rows)(tr:Bool)(i j:Nat):Option (acu):=if tr then mD rows j i else mD rows i j
structure Shape(rows:Rows)(m n:Nat):Prop where
 hm:rows.length=m
 hn:∀r∈rows,r.length=n
 m0:0<m
 m9:m<=100
 n9:n<=100
theorem tF{rows:Rows}{i j:Nat}{cs:acu}(h:mD rows i j=some cs):∃r,rows[i]?=some r/\r[j]?=some cs:=by
 unfold mD at h;cases e:rows[i]? with
 |none=>replace h:=e▸h;cases h
 |some r=>replace h:=e▸h;exact⟨r,J,h⟩
theorem lM{Cp:Addr}{ri:MV}{rows:Rows}{i:Nat}{r:ack}(h:rows[i]?=some r):(ek Cp ri rows)[(i:Int).toNat]?=some (.lst (r.map (eT Cp ri))):=by rw[aaV,ek,aav,h];rfl
theorem Gj{Cp:Addr}{ri:MV}{r:ack}{j:Nat}{cs:acu}(h:r[j]?=some cs):(r.map (eT Cp ri))[(j:Int).toNat]?=some (eT Cp ri cs):=by refine rl (aaV ..) (rl (aav ..) (rl h ?_));rfl
theorem Shape.C4{rows:Rows}{m n:Nat}(h:Shape rows m n):∃r,rows[0]?=some r/\r.length=n:=by
 cases rows with
 |nil=>have:=h.hm;have:=h.m0;simp at *;exact Ug (by assumption) this
 |cons r _=>exact⟨r,J,h.hn r (.head _)⟩
theorem Shape.row{rows:Rows}{m n:Nat}(h:Shape rows m n){i:Nat}(hi:i<m):∃r,rows[i]?=some r/\r.length=n:=by
 have hl:i<rows.length:=by exact rl h.hm hi
 exact⟨rows[i],aak hl,h.hn _ (aaE hl)⟩
theorem Shape.mD{rows:Rows}{m n:Nat}(h:Shape rows m n){i j:Nat}(hi:i<m)(hj:j<n):∃cs,mD rows i j=some cs:=by obtain⟨r,hr,hl⟩:=h.row hi;exact⟨r[j]'(by exact Sp hj hl),by rw[Mine.mD,hr];exact aak _⟩
noncomputable def dm(m n:Nat)(tr:Bool):Nat:=if tr then n else m
noncomputable def dn(m n:Nat)(tr:Bool):Nat:=if tr then m else n
noncomputable def XE(m n:Nat)(tr:Bool):MV:=.tup [.int (dm m n tr),.int (dn m n tr)]
theorem cU{C:Cx}{N:Nm}(S:SF C N){k:Nat}(mo ri:MV)(rows:Rows)(tr:Bool)(i j:Nat)(cs:acu)(h:jI rows tr i j=some cs)(hi:i<1000)(hj:j<1000):bJ C (k+2) (.ref (N.a 29)) [fT N.CM N.CP mo ri rows tr,.tup [.int i,.int j]] [] (eT N.CP ri cs):=by
 refine c8 (bs:=[("self",fT N.CM N.CP mo ri rows tr),("idx",.tup [.int i,.int j])]) S.J5 J λL D bh=>?_
 .have hA:gq C (gF (k+1) (N.q 29) (mq (N.T 29)) L (N.a 29) bh D) (dX [("self",fT N.CM N.CP mo ri rows tr),("idx",.tup [.int i,.int j])]) ((o5 (N.T 29))[0]'(aae J)) .next (dX [("self",fT N.CM N.CP mo ri rows tr),("idx",.tup [.int i,.int j])]):=
   C9 (tw (b:=true) (c:=true) (bN (m:=.bool true) (bU (aM S.aR Boot.«isinstance» rfl) (aj (ao J) (aj (aM S.J6 Boot.«tuple» rfl) ak)) J (bR S.Xw (λ_ _ _ q=>nomatch q) J (λ_ q=>nomatch q))) (bE true)) λ_=>bw (bU (aM S.fU Boot.«len» rfl) (aj (ao J) ak) J (Ac (by simp))) aA (gO 2 2))
  refine aQ hA ?_;refine nb λnn=>?_;cases tr with
  |false=>
   obtain⟨r,h1,h2⟩:=tF (i:=i) (j:=j) (h:mD rows i j=some cs);exact nn<|fZ (c7 (cF (b:=false) (bN (m:=.bool false) (aV (ao J) S.FO J J J) (bE false))) (ir (jX (bC (bC (aV (ao J) S.kB J J J) (j_ (ao J) aA (by decide) (by decide) J (λ_ _=>rfl)) (by omega) (by exact uP hi) (lM h1) (λ_ _=>rfl)) (j_ (ao J) aA (by decide) (by decide) J (λ_ _=>rfl)) (by omega) (by exact uP hj) (Gj h2) (λ_ _=>rfl))) (by simp)))
  |true=>
   obtain⟨r,h1,h2⟩:=tF (i:=j) (j:=i) (h:mD rows j i=some cs);exact nn<|fZ (bq (cF (b:=true) (bN (m:=.bool true) (aV (ao J) S.FO J J J) (bE true))) (ir (jX (bC (bC (aV (ao J) S.kB J J J) (j_ (ao J) aA (by decide) (by decide) J (λ_ _=>rfl)) (by omega) (by exact uP hj) (lM h1) (λ_ _=>rfl)) (j_ (ao J) aA (by decide) (by decide) J (λ_ _=>rfl)) (by omega) (by exact uP hi) (Gj h2) (λ_ _=>rfl))) (by simp)))
theorem fL{C:Cx}{N:Nm}(S:SF C N){k:Nat}(mo ri:MV)(rows:Rows)(tr:Bool)(m n:Nat)(h:Shape rows m n):bJ C (k+2) (.ref (N.a 25)) [fT N.CM N.CP mo ri rows tr] [] (XE m n tr):=by
 refine c8 (bs:=[("self",fT N.CM N.CP mo ri rows tr)]) S.dim J λL D bh=>?_
 .obtain⟨r,h1,h2⟩:=h.C4
  have e1:((ek N.CP ri rows).length:Int)=m:=by rw[ek,aai,h.hm]
  have e2:((r.map (eT N.CP ri)).length:Int)=n:=by exact rl (aai ..) (rl h2 J)
  have l1:BX C (k+1) (.builtin "len") [.lst (ek N.CP ri rows)] (.int m):=e1▸iQ (by rw[ek,aai,h.hm];have:=h.m9;omega);have l2:BX C (k+1) (.builtin "len") [.lst (r.map (eT N.CP ri))] (.int n):=e2▸iQ (by refine rl (aai ..) (rl h2 ?_);have:=h.n9;omega);cases tr with
  |false=>
   exact fZ (c7 (cF (b:=false) (bN (m:=.bool false) (aV (ao J) S.FO J J J) (bE false))) (ir (jX (bW (aj (bU (aM S.fU Boot.«len» rfl) (aj (aV (ao J) S.kB J J J) ak) J l1) (aj (bU (aM S.fU Boot.«len» rfl) (aj (bC (aV (ao J) S.kB J J J) aA (by decide) (by decide) (lM h1) (λ_ _=>rfl)) ak) J l2) ak)) (by simp))) (by simp)))
  |true=>
   exact fZ (bq (cF (b:=true) (bN (m:=.bool true) (aV (ao J) S.FO J J J) (bE true))) (ir (jX (bW (aj (bU (aM S.fU Boot.«len» rfl) (aj (bC (aV (ao J) S.kB J J J) aA (by decide) (by decide) (lM h1) (λ_ _=>rfl)) ak) J l2) (aj (bU (aM S.fU Boot.«len» rfl) (aj (aV (ao J) S.kB J J J) ak) J l1) ak)) (by simp))) (by simp)))
theorem mV(f:Nat->Int)(c:Int):∀n:Nat,(∀i,i<n+1->f i=c)->PyProof.Rows.firstMet f (n+1)=[c]
 |0,h=>by refine rl (firstMet_succ ..) (rl (firstMet_zero ..) (rl (h 0 (by omega) ..) ?_));simp[step_dedup]
 |n+1,h=>by refine rl (firstMet_succ ..) (rl (mV f c n (λi hi=>h i (by exact Uh hi))) (rl (h (n+1) (by exact Ui) ..) ?_));simp[step_dedup]
section
variable{C:Cx}{Γ:Gm}{W D:acq}{s s' aq:Shared}{vs:aC}{A:Around}{E:ach}{e:Expr}{v m:MV}{k:Nat}
theorem Gk{h:Heap}{D:acq}:∀(is:acu){vals:acp},bD h D vals (is.map .int)->IntsAre vals is:=by
 intro ll
 induction ll with
 |nil=>
  intro vals d;obtain rfl:=d.g7;exact .nil
 |cons i is ih=>
  intro vals d;cases d.d8 with
  |mk d1 d2=>cases d1.eL;exact .cons _ _ (ih d2)
theorem Aj{id ZH:Str}{p p2 pos pos2:Pos}{c:Int}{n:Nat}(Hf:Ev C Γ vs (.Name id p) (.bZ (.builtin "len")))(Hg:Ev C Γ vs (.Name ZH p2) (.bZ (.type "set")))(He:Ev C Γ vs e (.lst ((List.replicate (n+1) c).map .int)))(hn:n<1000)
 (h2:C_ e=true:=by rfl) :
 Ev C Γ vs (.Call (.Name id p) [.Call (.Name ZH p2) [e] [] pos2] [] pos) (.int 1):=λA s W G I F=>by
 refine jk Hf J (xO J) G I F λaq a_ aF aU=>?_;refine iO Hg (aj He ak h2) J G aF aU λvals av d aY bu bO=>?_;cases d.d8 with |mk d1 d2=>obtain rfl:=d2.g7;cases d1.jW with
 |mk b items n' hg na dd=>
  have hz:items.size=n+1:=by have:=dd.length;simpa using this
  refine call_set_list (items:=items) (ns:=List.replicate (n+1) c) G.handled ⟨_,hg,J,n',J⟩ (Gk _ dd) (by refine rl hz ?_;unfold scanBound;exact Uj hn) λh' tk hS hk=>?_;have hfm:PyProof.Rows.firstMet (λi=>(List.replicate (n+1) c).getD i 0) items.size=[c]:=by refine rl hz ?_;refine mV _ c n λi hi=>?_;simp[List.getD,hi]
  replace hS:=hfm▸hS;have hlt:av.heap.objs.size<h'.objs.size:=by refine nb λnn=>?_;obtain⟨o,_,_,_,ho,_⟩:=hS;exact nn<|aaB ho
  have kp:∀b o,av.heap.get? b=some o->h'.get? b=some o:=λb o e=>hk b o (aaB e) e;have cW:bL C [] av {av with heap:=h',toks:=tk}:=bL.heap (aaO hlt) (λb o _ e=>kp b o e);have ez:Inv C {av with heap:=h',toks:=tk}:=bu.step (W:=[]) (aaO hlt) (λb o _ e=>kp b o e) n0;refine⟨ez,?_⟩;refine nb λnn=>?_;obtain⟨o,es,ep,t,ho,hex,hd,_,_,_,hf,hsz⟩:=hS;refine nn<|call_len_set ho hex hd hf (by refine rl hsz ?_;show(((1:Nat):Int))<2^63;decide) ?_
  refine rl hsz ?_;exact⟨.int _ _,(a_.then (aY.then cW)).then (tok_stp _),tok_inv ez _⟩
end
theorem pP{Cp:Addr}{ri:MV}{rows:Rows}{m:MV}(h:m∈ek Cp ri rows):∃r∈rows,m = .lst (r.map (eT Cp ri)):=by obtain⟨r,hr,rfl⟩:=aan.mp h;exact⟨r,hr,J⟩
theorem DG{Cp:Addr}{ri:MV}{rows:Rows}{m n:Nat}(h:Shape rows m n):((ek Cp ri rows).map λm=>match m with |.lst l=>MV.int l.length |m=>m)=(List.replicate (m-1+1) (n:Int)).map .int:=by
 have:m-1+1=rows.length:=by have:=h.m0;have:=h.hm;exact Uk (by assumption) this
 refine rl this ?_;have hn:=h.hn;clear this h;unfold ek
 induction rows with
 |nil=>rfl
 |cons r rs ih=>
  have h1:=hn r (.head _);simp only[List.map_cons,List.length_cons,List.replicate_succ,List.length_map];exact rl (ih (λr hr=>hn r (.tail _ hr))) (rl h1 J)
theorem Kc{C:Cx}(S:Ni C){k:Nat}(mo ri:MV)(rows:Rows)(tr:Bool)(m n:Nat)(h:Shape rows m n):bJ C (k+2) (.ref (kN.a 26)) [fT kN.CM kN.CP mo ri rows tr] [] (.bool true):=by
 refine c8 (bs:=[("self",fT kN.CM kN.CP mo ri rows tr)]) S.o.check J λL D bh=>?_
 .have lm:(ek kN.CP ri rows).length<=1000:=by rw[ek,aai,h.hm];have:=h.m9;omega
  obtain⟨r0,h1,h2⟩:=h.C4;refine gz (λvs (_:Unit)=>vs.lookup ("self":Str)=some (.v (fT kN.CM kN.CP mo ri rows tr))) (λ_ _=>()) () (bK (ms:=ek kN.CP ri rows) (aV (ao J) S.o.kB J J J)) (λq=>nomatch q) (λ_=>rfl) J (λvs _ mm hm hR=>?_) (λvs hR=>bB lq);obtain⟨r,hr,rfl⟩:=pP hm;have l1:(aG vs "row" (.v (.lst (r.map (eT kN.CP ri))))).lookup ("self":Str)=some (.v (fT kN.CM kN.CP mo ri rows tr)):=(au vs "row" _ "self").trans hR;have l2:(aG vs "row" (.v (.lst (r.map (eT kN.CP ri))))).lookup ("row":Str)=some (.v (.lst (r.map (eT kN.CP ri)))):=au vs "row" _ "row";have e1:((r.map (eT kN.CP ri)).length:Int)=n:=by exact rl (aai ..) (rl (h.hn r hr ..) J)
  have e2:((r0.map (eT kN.CP ri)).length:Int)=n:=by exact rl (aai ..) (rl h2 J)
  have b1:BX C (k+1) (.builtin "len") [.lst (r.map (eT kN.CP ri))] (.int n):=e1▸iQ (by refine rl (aai ..) (rl (h.hn r hr ..) ?_);have:=h.n9;omega);have b2:BX C (k+1) (.builtin "len") [.lst (r0.map (eT kN.CP ri))] (.int n):=e2▸iQ (by refine rl (aai ..) (rl h2 ?_);have:=h.n9;omega);have cn:=v7 (C:=C) (k:=k+1) (n:Int) n;replace cn:=(show((n:Int)!=n)=false from by simp)▸cn;exact⟨_,_,λDo=>cH (.inl J),λDo=>aK (bq (bw (b:=false) (bU (aM S.o.fU Boot.«len» rfl) (aj (cD J l2 J) ak) J b1) (bU (aM S.o.fU Boot.«len» rfl) (aj (bC (aV (cD J l1 J) S.o.kB J J J) aA (by decide) (by decide) (lM h1) (λ_ _=>rfl)) ak) J b2) cn) aJ) aJ,l1⟩
theorem Kd{C:Cx}(S:Mf C){k:Nat}(mo ri:MV)(rows:Rows)(tr:Bool)(m n:Nat)(h:Shape rows m n):bJ C (k+2) (.ref (dN.a 26)) [fT dN.CM dN.CP mo ri rows tr] [] (.bool true):=by
 refine c8 (bs:=[("self",fT dN.CM dN.CP mo ri rows tr)]) S.o.check J λL D bh=>?_
 .have lm:(ek dN.CP ri rows).length<=1000:=by rw[ek,aai,h.hm];have:=h.m9;omega
  have ce:=gO (C:=C) (k:=k+1) 1 1;replace ce:=(show((1:Int)==1)=true from rfl)▸ce;have hz:=DG (Cp:=dN.CP) (ri:=ri) h;refine bB (kr (Aj (n:=m-1) (c:=n) (aM S.o.fU Boot.«len» rfl) (aM S.Mg Boot.«set» rfl) (aZ (bK (ms:=ek dN.CP ri rows) (aV (ao J) S.o.kB J J J)) (λL Do=>hz▸bX (λm=>match m with |.lst l=>MV.int l.length |m=>m) (.inl J) (λmm hm=>?_)) (λq=>nomatch q) J J (aaj J) lm (λ_=>rfl)) (by have:=h.m9;omega)) aA ce);refine nb λnn=>?_;obtain⟨r,hr,rfl⟩:=pP hm;exact nn<|bU (aM S.o.fU Boot.«len» rfl) (aj (ao J) ak) J (iQ (by refine rl (aai ..) (rl (h.hn r hr ..) ?_);have:=h.n9;omega))
structure G2(C:Cx)(N:Nm):Prop extends G0 C N where
 XF:∀{k:Nat}(mo ri:MV)(rows:Rows)(tr:Bool)(m n:Nat),Shape rows m n->bJ C (k+2) (.ref (N.a 26)) [fT N.CM N.CP mo ri rows tr] [] (.bool true)
theorem jt{C:Cx}{N:Nm}(S:G2 C N){k:Nat}(mo ri:MV)(rows:Rows)(tr:Bool)(m n:Nat)(h:Shape rows m n)(hm:lu mo=true):bJ C (k+4) (.ref N.CM) [mo,.lst (ek N.CP ri rows)] [("transpose",.bool tr)] (fT N.CM N.CP mo ri rows tr):=by
 refine nb λnn=>?_;obtain⟨oc,od,kJ,kV,doc,pm,an,bh,ct,ho,h_⟩:=S.o.QJ.at_;refine nn<|nk (k:=k+2) (bs:=[("parent",mo),("matrix_data",.lst (ek N.CP ri rows)),("transpose",.bool tr)]) S.o.FP.makes S.o.FP.find S.o.FP.ty ho h_ (QB λ_ _ _ _ _ I=>.of_defaults J (I.om _ _ S.o.J7) J J J) (by rfl) (.inl J) (λx dx=>aG (aG (aG (("self",VS.obj x dx N.CM [])::dX [("parent",mo),("matrix_data",.lst (ek N.CP ri rows)),("transpose",.bool tr)]) "self" (.obj x dx N.CM [("parent",mo)])) "self" (.obj x dx N.CM [("parent",mo),("_data",.lst (ek N.CP ri rows))])) "self" (.obj x dx N.CM [("parent",mo),("_data",.lst (ek N.CP ri rows)),("_transpose",.bool tr)])) (λx dx L D=>?_) (λx dx=>?_)
 .exact aK (gY S.o.DB (ao J) J J (aae J) J J) (aK (gY S.o.Nd (ao J) J J (aae J) J J) (aK (gY S.o.Xx (ao J) J J (aae J) J J)
   (aK (bq (cF (b:=true) (bN (m:=.bool true) (qO J J J S.o.J8 J ak (S.XF (k:=k) mo ri rows tr m n h) J J) (bE true))) aJ) aJ)))
 .rfl
section
variable{C:Cx}{Γ:Gm}{vs vs':aC}{e:Expr}{v:MV}{b:Bool}{st:Stmt}{fl:Fl}
theorem Gl(h:∀x st,vs'.lookup x=some st->vs.lookup x=some st)(T:Ts C Γ vs' e b):Ts C Γ vs e b:=λA s W G I F=>T A s W G I (F.sub h)
noncomputable def Mk(vs:aC):List (Str×VS)->Prop
 |[]=>True
 |p::r=>vs.lookup p.1=some p.2/\Mk vs r
theorem fc:∀(vs':aC),Mk vs vs'->∀x st,vs'.lookup x=some st->vs.lookup x=some st:=by
 intro ll
 induction ll with
 |nil=>
  intro _ x st h;exact nomatch h
 |cons p r ih=>
  intro pq0 x st h;obtain⟨h1,h2⟩:=pq0;rw[aaF] at h;split at h
  .rename_i q
   cases h;rw[aa3] at q;exact rl q h1
  .exact ih h2 x st h
end
section
variable{C:Cx}{Γ:Gm}{vs vs':aC}{e:Expr}{v:MV}{b:Bool}{ss:acr}{fl:Fl}
theorem vp{test:Expr}{body orelse:acr}{p:Pos}(T:Ts C Γ vs test true)(H:Body C Γ vs body v)(hv:v≠.none):Body C Γ vs (.If test body orelse p::ss) v:=λA s W G I F=>
 aas (wpAny_If (cS (T A s W G I F) λr aq bI=>by
  obtain⟨h1,h2,h3⟩:=bI;subst h1;exact cS (H A aq W G h3 (F.dJ I h2)) λf av x=>by
   have x':=uS.trans (λd q=>.inl q) h2.up x;cases f with
   |ret a=>exact x'
   |next=>exact absurd x'.1 hv
   |brk=>exact x'.1.elim
   |cont=>exact x'.1.elim))
end
theorem all_true{α:Type}(l:List α):((l.map λ_=>true).all id)=true:=by
 induction l with
 |nil=>rfl
 |cons a r ih=>simp
theorem Gn{C:Cx}(S:G2 C kN){k:Nat}(mo ri:MV)(x?:acn)(hmo:mo=cK kN.CO x? ri)(rows:Rows)(tr:Bool)(m n:Nat)(h:Shape rows m n):bJ C (k+5) (.ref (kN.a 37)) [mo,.lst (ek kN.CP ri rows)] [("transpose",.bool tr)] (fT kN.CM kN.CP mo ri rows tr):=by
 refine nb λnn=>?_;obtain⟨oc,od,kJ,kV,doc,pm,an,bh,ct,ho,h_⟩:=S.o.FQ.at_;refine nn<|fJ (bs:=[("self",mo),("data",.lst (ek kN.CP ri rows)),("transpose",.bool tr)]) ho h_ (Ma λ_ _ _ _ I=>.of_defaults J (I.om _ _ S.o.QK) J J J) (by rfl) λL D=>?_
 .exact bB (tC (bV J S.o.jt (λ_ _=>.bZ _ J) J) (aj (ao J) (aj (ao J) ak)) (by simp) (ao J) (cQ S.o.FT) (jt S mo ri rows tr m n h (by refine rl hmo ?_;rfl)).toV)
theorem tH{C:Cx}(S:G2 C kN)(X:Ni C){k:Nat}(mo:MV)(x? r?:acn)(q:Int)(nn:Nat)(hmo:mo=cK kN.CO x? (ay kN.CR r? q nn))(rows:Rows)(tr:Bool)(m n:Nat)(h:Shape rows m n)(L:Addr)(D:acq) :
 Body C (gF (k+6) (kN.q 38) (mq (kN.t 38)) L (kN.a 38) (.ref (kN.a 42)) D) (dX [("self",mo),("matrix_elements",.lst (ek kN.CP (ay kN.CR r? q nn) rows)),("transpose",.bool tr)]) (o5 (kN.t 38)) (fT kN.CM kN.CP mo (ay kN.CR r? q nn) rows tr):=by
 subst hmo;obtain⟨P,hP⟩:=S.o.kU.tab;have lm:(ek kN.CP (ay kN.CR r? q nn) rows).length<=1000:=by rw[ek,aai,h.hm];have:=h.m9;omega
 obtain⟨r0,h1,h2⟩:=h.C4;let R:aC->Unit->Prop:=λvs _=>vs.lookup ("self":Str)=some (.v (cK kN.CO x? (ay kN.CR r? q nn)))/\vs.lookup ("matrix_elements":Str)=some (.v (.lst (ek kN.CP (ay kN.CR r? q nn) rows)))/\vs.lookup ("transpose":Str)=some (.v (.bool tr));refine aQ (bq (cF (b:=true) (bN (m:=.bool true) (bU (aM S.o.aR Boot.«isinstance» rfl) (aj (ao J) (aj (aM S.o.lJ Boot.«list» rfl) ak)) J (bR S.o.DA (λ_ _ _ q=>nomatch q) J (λ_ q=>nomatch q))) (bE true))) aJ) ?_;refine vp (bN (m:=.bool true) (bU (aM S.o.aR Boot.«isinstance» rfl) (aj (bC (ao J) aA (by decide) (by decide) (lM h1) (λ_ _=>rfl)) (aj (aM S.o.lJ Boot.«list» rfl) ak)) J (bR S.o.DA (λ_ _ _ q=>nomatch q) J (λ_ q=>nomatch q))) (bE true)) ?_ (by simp[fT]);refine gz R (λ_ _=>()) () (bK (ms:=ek kN.CP (ay kN.CR r? q nn) rows) (ao J)) (λq=>nomatch q) (λ_=>rfl) ⟨J,J,J⟩ (λvs _ mm hm hR=>?_) (λvs hR=>?_)
 .obtain⟨r,hr,rfl⟩:=pP hm
  obtain⟨r1,r2,r3⟩:=hR;have lk:∀(z:Str)(w:VS),(aG vs "element_list" w).lookup z=if z=("element_list":Str) then some w else vs.lookup z:=λz w=>au vs "element_list" w z
  refine⟨_,_,λDo=>cH (.inl J),λDo=>aK (bq (cF (b:=true) ?_) aJ) aJ,(lk _ _).trans r1,(lk _ _).trans r2,(lk _ _).trans r3⟩;refine Gl (vs':=[("self",.v (cK kN.CO x? (ay kN.CR r? q nn))),("element_list",.v (.lst (r.map (eT kN.CP (ay kN.CR r? q nn)))))]) (fc _ ⟨(lk _ _).trans r1,lk _ _,trivial⟩) ?_;have hz:((r.map (eT kN.CP (ay kN.CR r? q nn))).map λ_=>MV.bool true)=(r.map λ_=>true).map MV.bool:=by simp[List.map_map,Function.comp_def]
  refine bN (m:=.bool true) (all_true r▸wu (k:=k+3) (aM S.o.BF Boot.«all» rfl) (LX.toB (hz▸rS (P:=P) (bK (ms:=r.map (eT kN.CP (ay kN.CR r? q nn))) (ao J)) (λL' code=>pI (λ_=>.bool true) (λDo=>.inl J) _ _ (aaM.mpr λcs _ Do=>?_) _ (λ_=>rfl)) (λq=>nomatch q) J J (aaj J) (λ_=>rfl) J J J J hP)) (by show k+3+3<=k+6;omega)) (bE true);exact bU (aM S.o.aR Boot.«isinstance» rfl) (aj (ao J) (aj (bV J S.o.qv (λ_ _=>.bZ _ J) J) ak)) J (bR S.o.Ae (λ_ _ _ q=>by cases q;exact S.o.tE) J (λ_ q=>nomatch q))
 .obtain⟨r1,r2,r3⟩:=hR
  exact bB (pM (cD J r1 J) S.o.QL J (aj (cD J r2 J) ak) (by simp) (cD J r3 J) (Gn S (k:=k+1) _ (ay kN.CR r? q nn) x? J rows tr m n h) J)
theorem Ak{C:Cx}(S:G2 C kN)(X:Ni C){k:Nat}(x? r?:acn)(q:Int)(nn:Nat)(rows:Rows)(tr:Bool)(m n:Nat)(h:Shape rows m n):bJ C (k+7) (.ref (kN.a 38)) [cK kN.CO x? (ay kN.CR r? q nn),.lst (ek kN.CP (ay kN.CR r? q nn) rows),.bool tr] [] (mr kN x? (ay kN.CR r? q nn) rows tr):=by obtain⟨oc,od,kJ,kV,doc,pm,an,ct,ho,h_⟩:=S.o.kU.at_;exact fJ (bs:=[("self",cK kN.CO x? (ay kN.CR r? q nn)),("matrix_elements",.lst (ek kN.CP (ay kN.CR r? q nn) rows)),("transpose",.bool tr)]) ho h_ (L8 λ_ _ _ _ I=>.of_defaults J (I.om _ _ S.o.wN) J J J) (by rfl) λL D=>tH S X (k:=k) _ x? r? q nn J rows tr m n h L D
theorem Al{C:Cx}(S:G2 C kN)(X:Ni C){k:Nat}(x? r?:acn)(q:Int)(nn:Nat)(rows:Rows)(m n:Nat)(h:Shape rows m n):bJ C (k+7) (.ref (kN.a 38)) [cK kN.CO x? (ay kN.CR r? q nn),.lst (ek kN.CP (ay kN.CR r? q nn) rows)] [] (mr kN x? (ay kN.CR r? q nn) rows false):=by obtain⟨oc,od,kJ,kV,doc,pm,an,ct,ho,h_⟩:=S.o.kU.at_;exact fJ (bs:=[("self",cK kN.CO x? (ay kN.CR r? q nn)),("matrix_elements",.lst (ek kN.CP (ay kN.CR r? q nn) rows)),("transpose",.bool false)]) ho h_ (L_ λ_ _ _ I=>.of_defaults J (I.om _ _ S.o.wN) J J J) (by rfl) λL D=>tH S X (k:=k) _ x? r? q nn J rows false m n h L D
theorem Ke{C:Cx}(S:Mf C){k:Nat}(r?:acn)(q n:Int)(r:MV)(cs:acu):bJ C (k+1) (.ref 267) [ay dN.CR r? q n,eT dN.CP r cs] [] (.bool true):=by
 refine c8 (bs:=[("self",ay dN.CR r? q n),("value",eT dN.CP r cs)]) S.Mh J λL D bh=>?_
 .exact bB (bU (aM S.o.aR Boot.«isinstance» rfl) (aj (ao J) (aj (bV J S.o.qv (λ_ _=>.bZ _ J) J) ak)) J (bR S.o.Ae (λ_ _ _ q=>by cases q;exact S.o.tE) J (λ_ q=>nomatch q)))
theorem Gp{C:Cx}(S:G2 C dN){k:Nat}(mo ri:MV)(x?:acn)(hmo:mo=cK dN.CO x? ri)(rows:Rows)(tr:Bool)(m n:Nat)(h:Shape rows m n):bJ C (k+5) (.ref (dN.a 37)) [mo,.lst (ek dN.CP ri rows)] [("transpose",.bool tr)] (fT dN.CM dN.CP mo ri rows tr):=by
 refine nb λnn=>?_;obtain⟨oc,od,kJ,kV,doc,pm,an,bh,ct,ho,h_⟩:=S.o.FQ.at_;refine nn<|fJ (bs:=[("self",mo),("data",.lst (ek dN.CP ri rows)),("transpose",.bool tr)]) ho h_ (Ma λ_ _ _ _ I=>.of_defaults J (I.om _ _ S.o.QK) J J J) (by rfl) λL D=>?_
 .exact bB (tC (bV J S.o.jt (λ_ _=>.bZ _ J) J) (aj (ao J) (aj (ao J) ak)) (by simp) (ao J) (cQ S.o.FT) (jt S mo ri rows tr m n h (by refine rl hmo ?_;rfl)).toV)
theorem tK{C:Cx}(S:G2 C dN)(X:Mf C){k:Nat}(mo:MV)(x? r?:acn)(q:Int)(nn:Nat)(hmo:mo=cK dN.CO x? (ay dN.CR r? q nn))(rows:Rows)(tr:Bool)(m n:Nat)(h:Shape rows m n)(L:Addr)(D:acq) :
 Body C (gF (k+6) (dN.q 38) (mq (dN.t 38)) L (dN.a 38) (.ref (dN.a 42)) D) (dX [("self",mo),("matrix_elements",.lst (ek dN.CP (ay dN.CR r? q nn) rows)),("transpose",.bool tr)]) (o5 (dN.t 38)) (fT dN.CM dN.CP mo (ay dN.CR r? q nn) rows tr):=by
 subst hmo;obtain⟨P,hP⟩:=S.o.kU.tab;have lm:(ek dN.CP (ay dN.CR r? q nn) rows).length<=1000:=by rw[ek,aai,h.hm];have:=h.m9;omega
 obtain⟨r0,h1,h2⟩:=h.C4;let R:aC->Unit->Prop:=λvs _=>vs.lookup ("self":Str)=some (.v (cK dN.CO x? (ay dN.CR r? q nn)))/\vs.lookup ("matrix_elements":Str)=some (.v (.lst (ek dN.CP (ay dN.CR r? q nn) rows)))/\vs.lookup ("transpose":Str)=some (.v (.bool tr));refine aQ (bq (cF (b:=true) (bN (m:=.bool true) (bU (aM S.o.aR Boot.«isinstance» rfl) (aj (ao J) (aj (aM S.o.lJ Boot.«list» rfl) ak)) J (bR S.o.DA (λ_ _ _ q=>nomatch q) J (λ_ q=>nomatch q))) (bE true))) aJ) ?_;refine vp (bN (m:=.bool true) (bU (aM S.o.aR Boot.«isinstance» rfl) (aj (bC (ao J) aA (by decide) (by decide) (lM h1) (λ_ _=>rfl)) (aj (aM S.o.lJ Boot.«list» rfl) ak)) J (bR S.o.DA (λ_ _ _ q=>nomatch q) J (λ_ q=>nomatch q))) (bE true)) ?_ (by simp[fT]);refine gz R (λ_ _=>()) () (bK (ms:=ek dN.CP (ay dN.CR r? q nn) rows) (ao J)) (λq=>nomatch q) (λ_=>rfl) ⟨J,J,J⟩ (λvs _ mm hm hR=>?_) (λvs hR=>?_)
 .obtain⟨r,hr,rfl⟩:=pP hm
  obtain⟨r1,r2,r3⟩:=hR;have lk:∀(z:Str)(w:VS),(aG vs "element_list" w).lookup z=if z=("element_list":Str) then some w else vs.lookup z:=λz w=>au vs "element_list" w z
  refine⟨_,_,λDo=>cH (.inl J),λDo=>aK (bq (cF (b:=true) ?_) aJ) aJ,(lk _ _).trans r1,(lk _ _).trans r2,(lk _ _).trans r3⟩;refine Gl (vs':=[("self",.v (cK dN.CO x? (ay dN.CR r? q nn))),("element_list",.v (.lst (r.map (eT dN.CP (ay dN.CR r? q nn)))))]) (fc _ ⟨(lk _ _).trans r1,lk _ _,trivial⟩) ?_;have hz:((r.map (eT dN.CP (ay dN.CR r? q nn))).map λ_=>MV.bool true)=(r.map λ_=>true).map MV.bool:=by simp[List.map_map,Function.comp_def]
  refine bN (m:=.bool true) (all_true r▸wu (k:=k+3) (aM S.o.BF Boot.«all» rfl) (LX.toB (hz▸rS (P:=P) (bK (ms:=r.map (eT dN.CP (ay dN.CR r? q nn))) (ao J)) (λL' code=>pI (λ_=>.bool true) (λDo=>.inl J) _ _ (aaM.mpr λcs _ Do=>?_) _ (λ_=>rfl)) (λq=>nomatch q) J J (aaj J) (λ_=>rfl) J J J J hP)) (by show k+3+3<=k+6;omega)) (bE true);exact bl (aV (ao J) S.o.Nf J J J) X.BO J (aj (ao J) ak) (Ke X r? q nn _ cs) J
 .obtain⟨r1,r2,r3⟩:=hR
  exact bB (pM (cD J r1 J) S.o.QL J (aj (cD J r2 J) ak) (by simp) (cD J r3 J) (Gp S (k:=k+1) _ (ay dN.CR r? q nn) x? J rows tr m n h) J)
theorem Am{C:Cx}(S:G2 C dN)(X:Mf C){k:Nat}(x? r?:acn)(q:Int)(nn:Nat)(rows:Rows)(tr:Bool)(m n:Nat)(h:Shape rows m n):bJ C (k+7) (.ref (dN.a 38)) [cK dN.CO x? (ay dN.CR r? q nn),.lst (ek dN.CP (ay dN.CR r? q nn) rows),.bool tr] [] (mr dN x? (ay dN.CR r? q nn) rows tr):=by obtain⟨oc,od,kJ,kV,doc,pm,an,ct,ho,h_⟩:=S.o.kU.at_;exact fJ (bs:=[("self",cK dN.CO x? (ay dN.CR r? q nn)),("matrix_elements",.lst (ek dN.CP (ay dN.CR r? q nn) rows)),("transpose",.bool tr)]) ho h_ (L8 λ_ _ _ _ I=>.of_defaults J (I.om _ _ S.o.wN) J J J) (by rfl) λL D=>tK S X (k:=k) _ x? r? q nn J rows tr m n h L D
theorem An{C:Cx}(S:G2 C dN)(X:Mf C){k:Nat}(x? r?:acn)(q:Int)(nn:Nat)(rows:Rows)(m n:Nat)(h:Shape rows m n):bJ C (k+7) (.ref (dN.a 38)) [cK dN.CO x? (ay dN.CR r? q nn),.lst (ek dN.CP (ay dN.CR r? q nn) rows)] [] (mr dN x? (ay dN.CR r? q nn) rows false):=by obtain⟨oc,od,kJ,kV,doc,pm,an,ct,ho,h_⟩:=S.o.kU.at_;exact fJ (bs:=[("self",cK dN.CO x? (ay dN.CR r? q nn)),("matrix_elements",.lst (ek dN.CP (ay dN.CR r? q nn) rows)),("transpose",.bool false)]) ho h_ (L_ λ_ _ _ I=>.of_defaults J (I.om _ _ S.o.wN) J J J) (by rfl) λL D=>tK S X (k:=k) _ x? r? q nn J rows false m n h L D
structure G3(C:Cx)(N:Nm):Prop extends G2 C N where
 Jc:∀{k:Nat}(x? r?:acn)(q:Int)(nn:Nat)(rows:Rows)(m n:Nat),Shape rows m n->bJ C (k+7) (.ref (N.a 38)) [cK N.CO x? (ay N.CR r? q nn),.lst (ek N.CP (ay N.CR r? q nn) rows)] [] (mr N x? (ay N.CR r? q nn) rows false)
 Nq:∀{k:Nat}(x? r?:acn)(q:Int)(nn:Nat)(rows:Rows)(tr:Bool)(m n:Nat),Shape rows m n->bJ C (k+7) (.ref (N.a 38)) [cK N.CO x? (ay N.CR r? q nn),.lst (ek N.CP (ay N.CR r? q nn) rows),.bool tr] [] (mr N x? (ay N.CR r? q nn) rows tr)
structure SK(C:Cx):Prop extends G3 C kN where
 x:Ni C
theorem SK.of{C:Cx}(X:Ni C):SK C:=
 have s2:G2 C kN:={Xy X.o with XF:=Kc X}
 {s2 with Jc:=Al s2 X,Nq:=Ak s2 X,x:=X}
structure SD(C:Cx):Prop extends G3 C dN where
 x:Mf C
theorem SD.of{C:Cx}(X:Mf C):SD C:=
 have s2:G2 C dN:={Xz X.o with XF:=Kd X}
 {s2 with Jc:=An s2 X,Nq:=Am s2 X,x:=X}
structure oh(q:Int)(nn:Nat)(rows:Rows)(m n:Nat):Prop extends Shape rows m n where
 len:∀r∈rows,∀c∈r,c.length=nn
 red:∀r∈rows,∀c∈r,Red q c
noncomputable def cN(rows:Rows)(tr:Bool)(i j:Nat):acu:=(jI rows tr i j).getD []
theorem yD{rows:Rows}{i j:Nat}{cs:acu}(h:mD rows i j=some cs):∃r∈rows,cs∈r:=by obtain⟨r,h1,h2⟩:=tF h;exact⟨r,List.mem_of_getElem? h1,List.mem_of_getElem? h2⟩
theorem Shape.jI{rows:Rows}{m n:Nat}(h:Shape rows m n){tr:Bool}{i j:Nat}(hi:i<dm m n tr)(hj:j<dn m n tr):jI rows tr i j=some (cN rows tr i j):=by
 unfold cN;cases tr with
 |false=>obtain⟨cs,e⟩:=h.mD (i:=i) (j:=j) hi hj;show Mine.mD rows i j=some ((Mine.mD rows i j).getD []);refine rl e ?_;rfl
 |true=>obtain⟨cs,e⟩:=h.mD (i:=j) (j:=i) hj hi;show Mine.mD rows j i=some ((Mine.mD rows j i).getD []);refine rl e ?_;rfl
theorem Gq{rows:Rows}{m n:Nat}(h:Shape rows m n){tr:Bool}{i j:Nat}(hi:i<dm m n tr)(hj:j<dn m n tr):∃r∈rows,cN rows tr i j∈r:=by
 have e:=h.jI hi hj;cases tr with
 |false=>exact yD (i:=i) (j:=j) e
 |true=>exact yD (i:=j) (j:=i) e
theorem oh.ent{q:Int}{nn:Nat}{rows:Rows}{m n:Nat}(h:oh q nn rows m n){tr:Bool}{i j:Nat}(hi:i<dm m n tr)(hj:j<dn m n tr):(cN rows tr i j).length=nn/\Red q (cN rows tr i j):=by obtain⟨r,h1,h2⟩:=Gq h.toShape hi hj;exact⟨h.len r h1 _ h2,h.red r h1 _ h2⟩
noncomputable def fq(M N:Nat)(g:Nat->Nat->acu):Rows:=(List.range M).map λi=>(List.range N).map λj=>g i j
noncomputable def yE(Cp:Addr)(ri:MV)(g:Nat->acu)(m:MV):MV:=eT Cp ri (g (natOf m))
noncomputable def yF(Cp:Addr)(ri:MV)(N:Nat)(g:Nat->Nat->acu)(m:MV):MV:=.lst ((bz 0 N).map (yE Cp ri (g (natOf m))))
theorem jM(j:Nat):natOf (.int (0+(j:Int)))=j:=by simp[natOf]
theorem kX(Cp:Addr)(ri:MV)(M N:Nat)(g:Nat->Nat->acu):(bz 0 M).map (yF Cp ri N g)=ek Cp ri (fq M N g):=by unfold ek fq bz;refine rl aar (rl aar ?_);refine aaz λi _=>?_;simp only[Function.comp_def,yF,jM,bz,List.map_map];congr 1;refine aaz λj _=>?_;simp only[yE,jM]
theorem jc{M N:Nat}(g:Nat->Nat->acu)(h0:0<M)(h1:M<=100)(h2:N<=100):Shape (fq M N g) M N:=by refine⟨by simp[fq],λr hr=>?_,h0,h1,h2⟩;obtain⟨i,_,rfl⟩:=aan.mp hr;simp
theorem Kf{q:Int}{nn M N:Nat}{g:Nat->Nat->acu}(h0:0<M)(h1:M<=100)(h2:N<=100)(h:∀i j,i<M->j<N->(g i j).length=nn/\Red q (g i j)):oh q nn (fq M N g) M N:=by
 refine⟨jc g h0 h1 h2,λr hr c hc=>?_,λr hr c hc=>?_⟩
 all_goals
  obtain⟨i,hi,rfl⟩:=aan.mp hr;obtain⟨j,hj,rfl⟩:=aan.mp hc
 .exact(h i j (aa7.mp hi) (aa7.mp hj)).1
 .exact(h i j (aa7.mp hi) (aa7.mp hj)).2
noncomputable def Q4(Γ:Gm)(x:Str):Bool:=Γ.env.kindOf x==some .local||(Γ.env.kindOf x==some .cell&&Γ.S.contains x)
theorem az{Γ:Gm}{x:Str}(h:Q4 Γ x=true):rG Γ x:=by unfold Q4 at h;simp only[Bool.or_eq_true,beq_iff_eq,Bool.and_eq_true,List.contains_iff_mem] at h;exact h
section
variable{C:Cx}{k:Nat}
theorem Nr(b:Bool):SG C k .Not (.bool b) (.bool (!b)):=λA s D x G I _ d=>by obtain rfl:=d.EK;exact not_of (ab' (.bool I _))
end
theorem Shape.d9{rows:Rows}{m n:Nat}(h:Shape rows m n)(tr:Bool):dm m n tr<=100/\dn m n tr<=100:=by have:=h.m9;have:=h.n9;unfold dm dn;cases tr<;>simp<;>(first |exact Ul (by assumption) this |exact Um (by assumption) this)
theorem Ml{n:Nat}(h:n<=100):((n:Int)-0).toNat=n/\(-(2^40)<=(0:Int))/\(n:Int)<=2^40/\((0:Int)<=2^40)/\-(2^40)<=(n:Int):=⟨by exact Un,by decide,by omega,by decide,by exact Uo⟩
theorem eo{C:Cx}{Γ:Gm}{vs:aC}{e:Expr}{n:Nat}(H:OW C Γ vs e 0 n)(h:n<=100):rR C Γ vs e false (bz 0 n):=jB H n (Ml h).1 (Ml h).2.1 (Ml h).2.2.1 (Ml h).2.2.2.1 (Ml h).2.2.2.2
theorem nH{a b c d:Nat}(h1:a=c)(h2:b=d):decide (((a:Int),(b:Int))≠((c:Int),(d:Int)))=false:=by subst h1 h2;simp
theorem qX{C:Cx}{N:Nm}(S:G3 C N){k:Nat}(x? r?:acn)(q:Int)(nn:Nat)(rows:Rows)(tr:Bool)(m n:Nat)(h:Shape rows m n):bJ C (k+8) (.ref (N.a 27)) [mr N x? (ay N.CR r? q nn) rows tr] [] (mr N x? (ay N.CR r? q nn) rows (!tr)):=by
 refine c8 (bs:=[("self",mr N x? (ay N.CR r? q nn) rows tr)]) S.o.transpose J λL D bh=>?_
 .exact bB (fB (ao J) S.o.bA J J (aj (aV (ao J) S.o.kB J J J) (aj (Be (aV (ao J) S.o.FO J J J) (Nr tr)) ak)) cJ (bQ S.o.fk (S.Nq (k:=k) x? r? q nn rows (!tr) m n h)) J)
theorem Gr{C:Cx}(S:G3 C kN){k:Nat}(a:Addr)(r?:acn)(q:Int)(nn:Nat)(rA rB:Rows)(tA tB:Bool)(mA nA mB nB:Nat)(hq:q≠0)(kj:nn<=1000)(hA:oh q nn rA mA nA)(hB:oh q nn rB mB nB)(h1:dm mA nA tA=dm mB nB tB)(h2:dn mA nA tA=dn mB nB tB)(h0:0<dm mA nA tA) :
 bJ C (k+11) (.ref (kN.a 31)) [mr kN (some a) (ay kN.CR r? q nn) rA tA,mr kN (some a) (ay kN.CR r? q nn) rB tB] [] (mr kN (some a) (ay kN.CR r? q nn) (fq (dm mA nA tA) (dn mA nA tA) λi j=>ie q (cN rA tA i j) (cN rB tB i j)) false):=by
 refine c8 (bs:=[("self",mr kN (some a) (ay kN.CR r? q nn) rA tA),("other",mr kN (some a) (ay kN.CR r? q nn) rB tB)]) S.o.yq J λL D bh=>?_
 .have cm:=cM (C:=C) (k:=k+10) (a:=a) (b:=a) S.o.mod S.o.mod (fs:=[("ring",ay kN.CR r? q nn)]) (gs:=[("ring",ay kN.CR r? q nn)])
  rw[show decide (a≠a)=false from by simp] at cm;have cd:=fS (C:=C) (k:=k+9) (dm mA nA tA) (dn mA nA tA) (dm mB nB tB) (dn mB nB tB);rw[nH h1 h2] at cd;have d9:=hA.toShape.d9 tA;have sh:=jc (λi j=>ie q (cN rA tA i j) (cN rB tB i j)) h0 d9.1 d9.2;have pd:=fL S.o (k:=k+8) (cK kN.CO (some a) (ay kN.CR r? q nn)) (ay kN.CR r? q nn) rA tA mA nA hA.toShape;have pQ:=fL S.o (k:=k+8) (cK kN.CO (some a) (ay kN.CR r? q nn)) (ay kN.CR r? q nn) rB tB mB nB hB.toShape;refine aQ (bq (cF (b:=true) (bN (m:=.bool true) (bU (aM S.o.aR Boot.«isinstance» rfl) (aj (ao J) (aj (bU (aM S.o.gf Boot.«type» rfl) (aj (ao J) ak) J eV) ak)) J (bR S.o.mC (λ_ _ _ q=>by cases q;exact S.o.iW) J (λ_ q=>nomatch q))) (bE true))) aJ) ?_;refine aQ (bq (bw (b:=false) (aV (ao J) S.o.bA J J J) (aV (ao J) S.o.bA J J J) cm) aJ) ?_;refine aQ (bq (bw (b:=false) (bl (ao J) S.o.d_ J ak pd J) (bl (ao J) S.o.d_ J ak pQ J) cd) aJ) ?_;refine aQ (cy (bl (ao J) S.o.d_ J ak pd J) (gc (az J) (az J)) J J) ?_;refine bB (fB (ao J) S.o.bA J J (aj (aZ (out:=ek kN.CP (ay kN.CR r? q nn) (fq (dm mA nA tA) (dn mA nA tA) λi j=>ie q (cN rA tA i j) (cN rB tB i j))) (eo (dH (aM S.o.b8 Boot.«range» rfl) (aj (ao J) ak)) d9.1)
   (λL Do=>kX kN.CP _ _ _ _▸bX (yF kN.CP (ay kN.CR r? q nn) (dn mA nA tA) λi j=>ie q (cN rA tA i j) (cN rB tB i j)) (az J) (c_ λi hi=>?_)) (λq=>nomatch q) J J (aaj J) (by simp[bz];exact MH d9) (λ_=>rfl)) (aj lq ak)) cJ (bQ S.o.fk ((S.Nq (k:=k) (some a) r? q nn _ false _ _ sh).mono (k':=k+10) (by exact Sq))) J)
  refine aZ (eo (dH (aM S.o.b8 Boot.«range» rfl) (aj (ao J) ak)) d9.2) (λL Do=>bX _ (az J) (c_ λj hj=>?_)) (λq=>nomatch q) J J (aaj J) (by simp[bz];exact OQ d9) (λ_=>rfl);have eA:=hA.ent hi hj;have eB:=hB.ent (tr:=tB) (i:=i) (j:=j) (by exact a0 h1 hi) (by exact a0 h2 hj);exact aI (bP S.o.cT (ao J) (bW (aj (ao J) (aj (ao J) ak)) (aae J)) (cU S.o (k:=k) _ _ rA tA i j _ (hA.toShape.jI hi hj) (by exact a6 d9 hi) (by exact a2 d9 hj)) (by show k+2+1<=k+10;exact xH) (λ_ _=>rfl)) (bP S.o.cT (ao J) (bW (aj (ao J) (aj (ao J) ak)) (aae J)) (cU S.o (k:=k) _ _ rB tB i j _ (hB.toShape.jI (by exact a0 h1 hi) (by exact a0 h2 hj)) (by exact a6 d9 hi) (by exact a2 d9 hj)) (by show k+2+1<=k+10;exact xH) (λ_ _=>rfl))
   (e_ S.o.yp S.o.j4 (F4 S.toG0 (k:=k) r? r? q q nn nn _ _ hq kj eA.1 eB.1))
theorem Gu{C:Cx}(S:G3 C kN){k:Nat}(a:Addr)(r?:acn)(q:Int)(nn:Nat)(rA rB:Rows)(tA tB:Bool)(mA nA mB nB:Nat)(hq:q≠0)(kj:nn<=1000)(hA:oh q nn rA mA nA)(hB:oh q nn rB mB nB)(h1:dm mA nA tA=dm mB nB tB)(h2:dn mA nA tA=dn mB nB tB)(h0:0<dm mA nA tA) :
 bJ C (k+11) (.ref (kN.a 33)) [mr kN (some a) (ay kN.CR r? q nn) rA tA,mr kN (some a) (ay kN.CR r? q nn) rB tB] [] (mr kN (some a) (ay kN.CR r? q nn) (fq (dm mA nA tA) (dn mA nA tA) λi j=>iV q (cN rA tA i j) (cN rB tB i j)) false):=by
 refine c8 (bs:=[("self",mr kN (some a) (ay kN.CR r? q nn) rA tA),("other",mr kN (some a) (ay kN.CR r? q nn) rB tB)]) S.o.yr J λL D bh=>?_
 .have cm:=cM (C:=C) (k:=k+10) (a:=a) (b:=a) S.o.mod S.o.mod (fs:=[("ring",ay kN.CR r? q nn)]) (gs:=[("ring",ay kN.CR r? q nn)])
  rw[show decide (a≠a)=false from by simp] at cm;have cd:=fS (C:=C) (k:=k+9) (dm mA nA tA) (dn mA nA tA) (dm mB nB tB) (dn mB nB tB);rw[nH h1 h2] at cd;have d9:=hA.toShape.d9 tA;have sh:=jc (λi j=>iV q (cN rA tA i j) (cN rB tB i j)) h0 d9.1 d9.2;have pd:=fL S.o (k:=k+8) (cK kN.CO (some a) (ay kN.CR r? q nn)) (ay kN.CR r? q nn) rA tA mA nA hA.toShape;have pQ:=fL S.o (k:=k+8) (cK kN.CO (some a) (ay kN.CR r? q nn)) (ay kN.CR r? q nn) rB tB mB nB hB.toShape;refine aQ (bq (cF (b:=true) (bN (m:=.bool true) (bU (aM S.o.aR Boot.«isinstance» rfl) (aj (ao J) (aj (bU (aM S.o.gf Boot.«type» rfl) (aj (ao J) ak) J eV) ak)) J (bR S.o.mC (λ_ _ _ q=>by cases q;exact S.o.iW) J (λ_ q=>nomatch q))) (bE true))) aJ) ?_;refine aQ (bq (bw (b:=false) (aV (ao J) S.o.bA J J J) (aV (ao J) S.o.bA J J J) cm) aJ) ?_;refine aQ (bq (bw (b:=false) (bl (ao J) S.o.d_ J ak pd J) (bl (ao J) S.o.d_ J ak pQ J) cd) aJ) ?_;refine aQ (cy (bl (ao J) S.o.d_ J ak pd J) (gc (az J) (az J)) J J) ?_;refine bB (fB (ao J) S.o.bA J J (aj (aZ (out:=ek kN.CP (ay kN.CR r? q nn) (fq (dm mA nA tA) (dn mA nA tA) λi j=>iV q (cN rA tA i j) (cN rB tB i j))) (eo (dH (aM S.o.b8 Boot.«range» rfl) (aj (ao J) ak)) d9.1)
   (λL Do=>kX kN.CP _ _ _ _▸bX (yF kN.CP (ay kN.CR r? q nn) (dn mA nA tA) λi j=>iV q (cN rA tA i j) (cN rB tB i j)) (az J) (c_ λi hi=>?_)) (λq=>nomatch q) J J (aaj J) (by simp[bz];exact MH d9) (λ_=>rfl)) (aj lq ak)) cJ (bQ S.o.fk ((S.Nq (k:=k) (some a) r? q nn _ false _ _ sh).mono (k':=k+10) (by exact Sq))) J)
  refine aZ (eo (dH (aM S.o.b8 Boot.«range» rfl) (aj (ao J) ak)) d9.2) (λL Do=>bX _ (az J) (c_ λj hj=>?_)) (λq=>nomatch q) J J (aaj J) (by simp[bz];exact OQ d9) (λ_=>rfl);have eA:=hA.ent hi hj;have eB:=hB.ent (tr:=tB) (i:=i) (j:=j) (by exact a0 h1 hi) (by exact a0 h2 hj);exact aI (bP S.o.cT (ao J) (bW (aj (ao J) (aj (ao J) ak)) (aae J)) (cU S.o (k:=k) _ _ rA tA i j _ (hA.toShape.jI hi hj) (by exact a6 d9 hi) (by exact a2 d9 hj)) (by show k+2+1<=k+10;exact xH) (λ_ _=>rfl)) (bP S.o.cT (ao J) (bW (aj (ao J) (aj (ao J) ak)) (aae J)) (cU S.o (k:=k) _ _ rB tB i j _ (hB.toShape.jI (by exact a0 h1 hi) (by exact a0 h2 hj)) (by exact a6 d9 hi) (by exact a2 d9 hj)) (by show k+2+1<=k+10;exact xH) (λ_ _=>rfl))
   (e_ S.o.FJ S.o.j4 (Mj S.toG0 (k:=k) r? r? q q nn nn _ _ hq kj eA.1 eB.1))
theorem Gv{C:Cx}(S:G3 C dN){k:Nat}(a:Addr)(r?:acn)(q:Int)(nn:Nat)(rA rB:Rows)(tA tB:Bool)(mA nA mB nB:Nat)(hq:q≠0)(kj:nn<=1000)(hA:oh q nn rA mA nA)(hB:oh q nn rB mB nB)(h1:dm mA nA tA=dm mB nB tB)(h2:dn mA nA tA=dn mB nB tB)(h0:0<dm mA nA tA) :
 bJ C (k+11) (.ref (dN.a 31)) [mr dN (some a) (ay dN.CR r? q nn) rA tA,mr dN (some a) (ay dN.CR r? q nn) rB tB] [] (mr dN (some a) (ay dN.CR r? q nn) (fq (dm mA nA tA) (dn mA nA tA) λi j=>ie q (cN rA tA i j) (cN rB tB i j)) false):=by
 refine c8 (bs:=[("self",mr dN (some a) (ay dN.CR r? q nn) rA tA),("other",mr dN (some a) (ay dN.CR r? q nn) rB tB)]) S.o.yq J λL D bh=>?_
 .have cm:=cM (C:=C) (k:=k+10) (a:=a) (b:=a) S.o.mod S.o.mod (fs:=[("ring",ay dN.CR r? q nn)]) (gs:=[("ring",ay dN.CR r? q nn)])
  rw[show decide (a≠a)=false from by simp] at cm;have cd:=fS (C:=C) (k:=k+9) (dm mA nA tA) (dn mA nA tA) (dm mB nB tB) (dn mB nB tB);rw[nH h1 h2] at cd;have d9:=hA.toShape.d9 tA;have sh:=jc (λi j=>ie q (cN rA tA i j) (cN rB tB i j)) h0 d9.1 d9.2;have pd:=fL S.o (k:=k+8) (cK dN.CO (some a) (ay dN.CR r? q nn)) (ay dN.CR r? q nn) rA tA mA nA hA.toShape;have pQ:=fL S.o (k:=k+8) (cK dN.CO (some a) (ay dN.CR r? q nn)) (ay dN.CR r? q nn) rB tB mB nB hB.toShape;refine aQ (bq (cF (b:=true) (bN (m:=.bool true) (bU (aM S.o.aR Boot.«isinstance» rfl) (aj (ao J) (aj (bV J S.o.jt (λ_ _=>.bZ _ J) J) ak)) J (bR S.o.mC (λ_ _ _ q=>by cases q;exact S.o.iW) J (λ_ q=>nomatch q))) (bE true))) aJ) ?_;refine aQ (bq (bw (b:=false) (aV (ao J) S.o.bA J J J) (aV (ao J) S.o.bA J J J) cm) aJ) ?_;refine aQ (bq (bw (b:=false) (bl (ao J) S.o.d_ J ak pd J) (bl (ao J) S.o.d_ J ak pQ J) cd) aJ) ?_;refine aQ (cy (bl (ao J) S.o.d_ J ak pd J) (gc (az J) (az J)) J J) ?_;refine bB (fB (ao J) S.o.bA J J (aj (aZ (out:=ek dN.CP (ay dN.CR r? q nn) (fq (dm mA nA tA) (dn mA nA tA) λi j=>ie q (cN rA tA i j) (cN rB tB i j))) (eo (dH (aM S.o.b8 Boot.«range» rfl) (aj (ao J) ak)) d9.1)
   (λL Do=>kX dN.CP _ _ _ _▸bX (yF dN.CP (ay dN.CR r? q nn) (dn mA nA tA) λi j=>ie q (cN rA tA i j) (cN rB tB i j)) (az J) (c_ λi hi=>?_)) (λq=>nomatch q) J J (aaj J) (by simp[bz];exact MH d9) (λ_=>rfl)) (aj lq ak)) cJ (bQ S.o.fk ((S.Nq (k:=k) (some a) r? q nn _ false _ _ sh).mono (k':=k+10) (by exact Sq))) J)
  refine aZ (eo (dH (aM S.o.b8 Boot.«range» rfl) (aj (ao J) ak)) d9.2) (λL Do=>bX _ (az J) (c_ λj hj=>?_)) (λq=>nomatch q) J J (aaj J) (by simp[bz];exact OQ d9) (λ_=>rfl);have eA:=hA.ent hi hj;have eB:=hB.ent (tr:=tB) (i:=i) (j:=j) (by exact a0 h1 hi) (by exact a0 h2 hj);exact aI (bP S.o.cT (ao J) (bW (aj (ao J) (aj (ao J) ak)) (aae J)) (cU S.o (k:=k) _ _ rA tA i j _ (hA.toShape.jI hi hj) (by exact a6 d9 hi) (by exact a2 d9 hj)) (by show k+2+1<=k+10;exact xH) (λ_ _=>rfl)) (bP S.o.cT (ao J) (bW (aj (ao J) (aj (ao J) ak)) (aae J)) (cU S.o (k:=k) _ _ rB tB i j _ (hB.toShape.jI (by exact a0 h1 hi) (by exact a0 h2 hj)) (by exact a6 d9 hi) (by exact a2 d9 hj)) (by show k+2+1<=k+10;exact xH) (λ_ _=>rfl))
   (e_ S.o.yp S.o.j4 (F4 S.toG0 (k:=k) r? r? q q nn nn _ _ hq kj eA.1 eB.1))
theorem Gw{C:Cx}(S:G3 C dN){k:Nat}(a:Addr)(r?:acn)(q:Int)(nn:Nat)(rA rB:Rows)(tA tB:Bool)(mA nA mB nB:Nat)(hq:q≠0)(kj:nn<=1000)(hA:oh q nn rA mA nA)(hB:oh q nn rB mB nB)(h1:dm mA nA tA=dm mB nB tB)(h2:dn mA nA tA=dn mB nB tB)(h0:0<dm mA nA tA) :
 bJ C (k+11) (.ref (dN.a 33)) [mr dN (some a) (ay dN.CR r? q nn) rA tA,mr dN (some a) (ay dN.CR r? q nn) rB tB] [] (mr dN (some a) (ay dN.CR r? q nn) (fq (dm mA nA tA) (dn mA nA tA) λi j=>iV q (cN rA tA i j) (cN rB tB i j)) false):=by
 refine c8 (bs:=[("self",mr dN (some a) (ay dN.CR r? q nn) rA tA),("other",mr dN (some a) (ay dN.CR r? q nn) rB tB)]) S.o.yr J λL D bh=>?_
 .have cm:=cM (C:=C) (k:=k+10) (a:=a) (b:=a) S.o.mod S.o.mod (fs:=[("ring",ay dN.CR r? q nn)]) (gs:=[("ring",ay dN.CR r? q nn)])
  rw[show decide (a≠a)=false from by simp] at cm;have cd:=fS (C:=C) (k:=k+9) (dm mA nA tA) (dn mA nA tA) (dm mB nB tB) (dn mB nB tB);rw[nH h1 h2] at cd;have d9:=hA.toShape.d9 tA;have sh:=jc (λi j=>iV q (cN rA tA i j) (cN rB tB i j)) h0 d9.1 d9.2;have pd:=fL S.o (k:=k+8) (cK dN.CO (some a) (ay dN.CR r? q nn)) (ay dN.CR r? q nn) rA tA mA nA hA.toShape;have pQ:=fL S.o (k:=k+8) (cK dN.CO (some a) (ay dN.CR r? q nn)) (ay dN.CR r? q nn) rB tB mB nB hB.toShape;refine aQ (bq (cF (b:=true) (bN (m:=.bool true) (bU (aM S.o.aR Boot.«isinstance» rfl) (aj (ao J) (aj (bV J S.o.jt (λ_ _=>.bZ _ J) J) ak)) J (bR S.o.mC (λ_ _ _ q=>by cases q;exact S.o.iW) J (λ_ q=>nomatch q))) (bE true))) aJ) ?_;refine aQ (bq (bw (b:=false) (aV (ao J) S.o.bA J J J) (aV (ao J) S.o.bA J J J) cm) aJ) ?_;refine aQ (bq (bw (b:=false) (bl (ao J) S.o.d_ J ak pd J) (bl (ao J) S.o.d_ J ak pQ J) cd) aJ) ?_;refine aQ (cy (bl (ao J) S.o.d_ J ak pd J) (gc (az J) (az J)) J J) ?_;refine bB (fB (ao J) S.o.bA J J (aj (aZ (out:=ek dN.CP (ay dN.CR r? q nn) (fq (dm mA nA tA) (dn mA nA tA) λi j=>iV q (cN rA tA i j) (cN rB tB i j))) (eo (dH (aM S.o.b8 Boot.«range» rfl) (aj (ao J) ak)) d9.1)
   (λL Do=>kX dN.CP _ _ _ _▸bX (yF dN.CP (ay dN.CR r? q nn) (dn mA nA tA) λi j=>iV q (cN rA tA i j) (cN rB tB i j)) (az J) (c_ λi hi=>?_)) (λq=>nomatch q) J J (aaj J) (by simp[bz];exact MH d9) (λ_=>rfl)) (aj lq ak)) cJ (bQ S.o.fk ((S.Nq (k:=k) (some a) r? q nn _ false _ _ sh).mono (k':=k+10) (by exact Sq))) J)
  refine aZ (eo (dH (aM S.o.b8 Boot.«range» rfl) (aj (ao J) ak)) d9.2) (λL Do=>bX _ (az J) (c_ λj hj=>?_)) (λq=>nomatch q) J J (aaj J) (by simp[bz];exact OQ d9) (λ_=>rfl);have eA:=hA.ent hi hj;have eB:=hB.ent (tr:=tB) (i:=i) (j:=j) (by exact a0 h1 hi) (by exact a0 h2 hj);exact aI (bP S.o.cT (ao J) (bW (aj (ao J) (aj (ao J) ak)) (aae J)) (cU S.o (k:=k) _ _ rA tA i j _ (hA.toShape.jI hi hj) (by exact a6 d9 hi) (by exact a2 d9 hj)) (by show k+2+1<=k+10;exact xH) (λ_ _=>rfl)) (bP S.o.cT (ao J) (bW (aj (ao J) (aj (ao J) ak)) (aae J)) (cU S.o (k:=k) _ _ rB tB i j _ (hB.toShape.jI (by exact a0 h1 hi) (by exact a0 h2 hj)) (by exact a6 d9 hi) (by exact a2 d9 hj)) (by show k+2+1<=k+10;exact xH) (λ_ _=>rfl))
   (e_ S.o.FJ S.o.j4 (Mj S.toG0 (k:=k) r? r? q q nn nn _ _ hq kj eA.1 eB.1))
noncomputable def Kg(q:Int):ack->acu
 |[]=>[]
 |c::cs=>cs.foldl (ie q) (kW q 0 c)
theorem tL{q:Int}{n:Nat}{a b:acu}(ha:a.length=n)(hb:b.length=n):(ie q a b).length=n:=by rw[ie,aai,aaZ];exact a8 ha hb
theorem tM{q i:Int}{n:Nat}{a:acu}(ha:a.length=n):(kW q i a).length=n:=by rw[kW,abi];exact ha
theorem wV{q:Int}{n:Nat}:∀(l:ack)(a:acu),a.length=n->(∀b∈l,b.length=n)->(l.foldl (ie q) a).length=n:=by
 intro ll
 induction ll with
 |nil=>
  intro a h _;exact h
 |cons b l ih=>
  intro a h hl;exact ih _ (tL h (hl b (.head _))) λc hc=>hl c (.tail _ hc)
noncomputable def oK(q:Int)(nn:Nat)(rA rB:Rows)(tA tB:Bool)(N i j:Nat):acu:=Kg q ((List.range N).map λk=>gj q nn (cN rA tA i k) (cN rB tB k j))
theorem Kh{C:Cx}(S:G3 C kN){k:Nat}(a:Addr)(r?:acn)(q:Int)(nn:Nat)(rA rB:Rows)(tA tB:Bool)(mA nA mB nB:Nat)(hq:q≠0)(kj:nn<=1000)(hA:oh q nn rA mA nA)(hB:oh q nn rB mB nB)(h1:dm mA nA tA=dm mB nB tB)(h2:dn mA nA tA=dn mB nB tB)(h0:0<dm mA nA tA) :
 bJ C (k+12) (.ref (kN.a 32)) [mr kN (some a) (ay kN.CR r? q nn) rA tA,mr kN (some a) (ay kN.CR r? q nn) rB tB] [] (mr kN (some a) (ay kN.CR r? q nn) (fq (dm mA nA tA) (dn mA nA tA) λi j=>ie q (cN rA tA i j) (cN rB tB i j)) false):=by
 refine c8 (bs:=[("self",mr kN (some a) (ay kN.CR r? q nn) rA tA),("other",mr kN (some a) (ay kN.CR r? q nn) rB tB)]) S.o.BG J λL D bh=>?_
 .have E:=e_ (op:=.Add) S.o.jD S.o.dY (Gr S (k:=k) a r? q nn rA rB tA tB mA nA mB nB hq kj hA hB h1 h2 h0)
  exact aQ (aE (aI (ao J) (ao J) E) (.inl J) J) (bB (ao J))
theorem yG{C:Cx}(S:G3 C kN){k:Nat}(a:Addr)(r?:acn)(q:Int)(nn:Nat)(rA rB:Rows)(tA tB:Bool)(mA nA mB nB:Nat)(hq:q≠0)(kj:nn<=1000)(hA:oh q nn rA mA nA)(hB:oh q nn rB mB nB)(h1:dm mA nA tA=dm mB nB tB)(h2:dn mA nA tA=dn mB nB tB)(h0:0<dm mA nA tA) :
 ou C (k+12) .Add (mr kN (some a) (ay kN.CR r? q nn) rA tA) (mr kN (some a) (ay kN.CR r? q nn) rB tB) (mr kN (some a) (ay kN.CR r? q nn) (fq (dm mA nA tA) (dn mA nA tA) λi j=>ie q (cN rA tA i j) (cN rB tB i j)) false):=
 o7 S.o.rV S.o.dY (Kh S a r? q nn rA rB tA tB mA nA mB nB hq kj hA hB h1 h2 h0)
theorem Kl{C:Cx}(S:G3 C kN){k:Nat}(a:Addr)(r?:acn)(q:Int)(nn:Nat)(rA rB:Rows)(tA tB:Bool)(mA nA mB nB:Nat)(hq:q≠0)(kj:nn<=1000)(hA:oh q nn rA mA nA)(hB:oh q nn rB mB nB)(h1:dm mA nA tA=dm mB nB tB)(h2:dn mA nA tA=dn mB nB tB)(h0:0<dm mA nA tA) :
 bJ C (k+12) (.ref (kN.a 34)) [mr kN (some a) (ay kN.CR r? q nn) rA tA,mr kN (some a) (ay kN.CR r? q nn) rB tB] [] (mr kN (some a) (ay kN.CR r? q nn) (fq (dm mA nA tA) (dn mA nA tA) λi j=>iV q (cN rA tA i j) (cN rB tB i j)) false):=by
 refine c8 (bs:=[("self",mr kN (some a) (ay kN.CR r? q nn) rA tA),("other",mr kN (some a) (ay kN.CR r? q nn) rB tB)]) S.o.BH J λL D bh=>?_
 .have E:=e_ (op:=.Sub) S.o.jE S.o.dY (Gu S (k:=k) a r? q nn rA rB tA tB mA nA mB nB hq kj hA hB h1 h2 h0)
  exact aQ (aE (aI (ao J) (ao J) E) (.inl J) J) (bB (ao J))
theorem yH{C:Cx}(S:G3 C kN){k:Nat}(a:Addr)(r?:acn)(q:Int)(nn:Nat)(rA rB:Rows)(tA tB:Bool)(mA nA mB nB:Nat)(hq:q≠0)(kj:nn<=1000)(hA:oh q nn rA mA nA)(hB:oh q nn rB mB nB)(h1:dm mA nA tA=dm mB nB tB)(h2:dn mA nA tA=dn mB nB tB)(h0:0<dm mA nA tA) :
 ou C (k+12) .Sub (mr kN (some a) (ay kN.CR r? q nn) rA tA) (mr kN (some a) (ay kN.CR r? q nn) rB tB) (mr kN (some a) (ay kN.CR r? q nn) (fq (dm mA nA tA) (dn mA nA tA) λi j=>iV q (cN rA tA i j) (cN rB tB i j)) false):=
 o7 S.o.rW S.o.dY (Kl S a r? q nn rA rB tA tB mA nA mB nB hq kj hA hB h1 h2 h0)
theorem Km{C:Cx}(S:G3 C dN){k:Nat}(a:Addr)(r?:acn)(q:Int)(nn:Nat)(rA rB:Rows)(tA tB:Bool)(mA nA mB nB:Nat)(hq:q≠0)(kj:nn<=1000)(hA:oh q nn rA mA nA)(hB:oh q nn rB mB nB)(h1:dm mA nA tA=dm mB nB tB)(h2:dn mA nA tA=dn mB nB tB)(h0:0<dm mA nA tA) :
 bJ C (k+12) (.ref (dN.a 32)) [mr dN (some a) (ay dN.CR r? q nn) rA tA,mr dN (some a) (ay dN.CR r? q nn) rB tB] [] (mr dN (some a) (ay dN.CR r? q nn) (fq (dm mA nA tA) (dn mA nA tA) λi j=>ie q (cN rA tA i j) (cN rB tB i j)) false):=by
 refine c8 (bs:=[("self",mr dN (some a) (ay dN.CR r? q nn) rA tA),("other",mr dN (some a) (ay dN.CR r? q nn) rB tB)]) S.o.BG J λL D bh=>?_
 .have E:=e_ (op:=.Add) S.o.jD S.o.dY (Gv S (k:=k) a r? q nn rA rB tA tB mA nA mB nB hq kj hA hB h1 h2 h0)
  exact bB (aI (ao J) (ao J) E)
theorem yI{C:Cx}(S:G3 C dN){k:Nat}(a:Addr)(r?:acn)(q:Int)(nn:Nat)(rA rB:Rows)(tA tB:Bool)(mA nA mB nB:Nat)(hq:q≠0)(kj:nn<=1000)(hA:oh q nn rA mA nA)(hB:oh q nn rB mB nB)(h1:dm mA nA tA=dm mB nB tB)(h2:dn mA nA tA=dn mB nB tB)(h0:0<dm mA nA tA) :
 ou C (k+12) .Add (mr dN (some a) (ay dN.CR r? q nn) rA tA) (mr dN (some a) (ay dN.CR r? q nn) rB tB) (mr dN (some a) (ay dN.CR r? q nn) (fq (dm mA nA tA) (dn mA nA tA) λi j=>ie q (cN rA tA i j) (cN rB tB i j)) false):=
 o7 S.o.rV S.o.dY (Km S a r? q nn rA rB tA tB mA nA mB nB hq kj hA hB h1 h2 h0)
theorem Kn{C:Cx}(S:G3 C dN){k:Nat}(a:Addr)(r?:acn)(q:Int)(nn:Nat)(rA rB:Rows)(tA tB:Bool)(mA nA mB nB:Nat)(hq:q≠0)(kj:nn<=1000)(hA:oh q nn rA mA nA)(hB:oh q nn rB mB nB)(h1:dm mA nA tA=dm mB nB tB)(h2:dn mA nA tA=dn mB nB tB)(h0:0<dm mA nA tA) :
 bJ C (k+12) (.ref (dN.a 34)) [mr dN (some a) (ay dN.CR r? q nn) rA tA,mr dN (some a) (ay dN.CR r? q nn) rB tB] [] (mr dN (some a) (ay dN.CR r? q nn) (fq (dm mA nA tA) (dn mA nA tA) λi j=>iV q (cN rA tA i j) (cN rB tB i j)) false):=by
 refine c8 (bs:=[("self",mr dN (some a) (ay dN.CR r? q nn) rA tA),("other",mr dN (some a) (ay dN.CR r? q nn) rB tB)]) S.o.BH J λL D bh=>?_
 .have E:=e_ (op:=.Sub) S.o.jE S.o.dY (Gw S (k:=k) a r? q nn rA rB tA tB mA nA mB nB hq kj hA hB h1 h2 h0)
  exact bB (aI (ao J) (ao J) E)
theorem yJ{C:Cx}(S:G3 C dN){k:Nat}(a:Addr)(r?:acn)(q:Int)(nn:Nat)(rA rB:Rows)(tA tB:Bool)(mA nA mB nB:Nat)(hq:q≠0)(kj:nn<=1000)(hA:oh q nn rA mA nA)(hB:oh q nn rB mB nB)(h1:dm mA nA tA=dm mB nB tB)(h2:dn mA nA tA=dn mB nB tB)(h0:0<dm mA nA tA) :
 ou C (k+12) .Sub (mr dN (some a) (ay dN.CR r? q nn) rA tA) (mr dN (some a) (ay dN.CR r? q nn) rB tB) (mr dN (some a) (ay dN.CR r? q nn) (fq (dm mA nA tA) (dn mA nA tA) λi j=>iV q (cN rA tA i j) (cN rB tB i j)) false):=
 o7 S.o.rW S.o.dY (Kn S a r? q nn rA rB tA tB mA nA mB nB hq kj hA hB h1 h2 h0)
theorem Gx{C:Cx}{N:Nm}(S:G0 C N){k:Nat}(r?:acn)(q:Int)(nn:Nat)(hq:q≠0)(kj:nn<=1000):∀(l:ack)(a:acu),a.length=nn->(∀b∈l,b.length=nn)->x_ C (k+10) (l.map (eT N.CP (ay N.CR r? q nn))) (px N r? q nn a) (px N r? q nn (l.foldl (ie q) a))
 |[],a,ha,hl=>rfl
 |b::l,a,ha,hl=>⟨.inr ⟨_,_,_,J⟩,_,_,_,e_ S.o.yp S.o.j4 (F4 S (k:=k) r? r? q q nn nn a b hq kj ha (hl b (.head _))),Gx S (k:=k) r? q nn hq kj l _ (tL ha (hl b (.head _))) λc hc=>hl c (.tail _ hc)⟩
theorem qU{C:Cx}{N:Nm}(S:G0 C N){k:Nat}(r?:acn)(q:Int)(nn:Nat)(hq:q≠0)(kj:nn<=1000)(h1:0<nn)(l:ack)(h0:l≠[])(hl:∀b∈l,b.length=nn):x_ C (k+11) (l.map (eT N.CP (ay N.CR r? q nn))) (.int 0) (px N r? q nn (Kg q l)):=by
 cases l with
 |nil=>exact absurd J h0
 |cons c l=>
  exact⟨.inl ⟨_,J⟩,_,_,_,wD Dt S.o.j4 S.o.QM (F9 S (k:=k) r? q 0 nn c hq kj (hl c (.head _)) h1),Gx S (k:=k+1) r? q nn hq kj l _ (tM (hl c (.head _))) λb hb=>hl b (.tail _ hb)⟩
theorem Gy{C:Cx}(S:G3 C kN){k:Nat}(a:Addr)(r?:acn)(q:Int)(nn:Nat)(rA rB:Rows)(tA tB:Bool)(mA nA mB nB:Nat)(hq:0<q)(hq2:q<=2^64)(kj:nn<=1000)(Nt:0<nn)(hA:oh q nn rA mA nA)(hB:oh q nn rB mB nB)(h1:dn mA nA tA=dm mB nB tB)(h0:0<dm mA nA tA)(h0':0<dn mA nA tA) :
 bJ C (k+15) (.ref (kN.a 35)) [mr kN (some a) (ay kN.CR r? q nn) rA tA,mr kN (some a) (ay kN.CR r? q nn) rB tB] [] (mr kN (some a) (ay kN.CR r? q nn) (fq (dm mA nA tA) (dn mB nB tB) λi j=>oK q nn rA rB tA tB (dn mA nA tA) i j) false):=by
 obtain⟨oc,od,kJ,kV,doc,pm,an,ct,ho,h_⟩:=S.o.kC.at_;obtain⟨P,hP⟩:=S.o.kC.tab;have rY:q≠0:=by exact zQ hq
 refine fJ (bs:=[("self",mr kN (some a) (ay kN.CR r? q nn) rA tA),("other",mr kN (some a) (ay kN.CR r? q nn) rB tB)]) ho h_ (fh J) (by rfl) λL D=>?_
 .have cm:=cM (C:=C) (k:=k+14) (a:=a) (b:=a) S.o.mod S.o.mod (fs:=[("ring",ay kN.CR r? q nn)]) (gs:=[("ring",ay kN.CR r? q nn)])
  rw[show decide (a≠a)=false from by simp] at cm;have cd:=gO (C:=C) (k:=k+14) (dn mA nA tA) (dm mB nB tB);rw[show(((dn mA nA tA:Nat):Int)==((dm mB nB tB:Nat):Int))=true from by simp[h1]] at cd;have d9:=hA.toShape.d9 tA;have Ko:=hB.toShape.d9 tB;have sh:=jc (λi j=>oK q nn rA rB tA tB (dn mA nA tA) i j) h0 d9.1 Ko.2;have pd:=fL S.o (k:=k+12) (cK kN.CO (some a) (ay kN.CR r? q nn)) (ay kN.CR r? q nn) rA tA mA nA hA.toShape;have pQ:=fL S.o (k:=k+12) (cK kN.CO (some a) (ay kN.CR r? q nn)) (ay kN.CR r? q nn) rB tB mB nB hB.toShape;refine aQ (bq (cF (b:=true) (bN (m:=.bool true) (bU (aM S.o.aR Boot.«isinstance» rfl) (aj (ao J) (aj (bU (aM S.o.gf Boot.«type» rfl) (aj (ao J) ak) J eV) ak)) J (bR S.o.mC (λ_ _ _ q=>by cases q;exact S.o.iW) J (λ_ q=>nomatch q))) (bE true))) aJ) ?_;refine aQ (bq (bw (b:=false) (aV (ao J) S.o.bA J J J) (aV (ao J) S.o.bA J J J) cm) aJ) ?_;refine aQ (cy (bl (ao J) S.o.d_ J ak pd J) (gc (az J) (az J)) J J) ?_;refine aQ (cy (bl (ao J) S.o.d_ J ak pQ J) (gc (az J) (az J)) J J) ?_;refine aQ (bq (cF (b:=true) (bw (b:=true) (ao J) (ao J) cd)) aJ) ?_;refine bB (fB (ao J) S.o.bA J J (aj (aZ (out:=ek kN.CP (ay kN.CR r? q nn) (fq (dm mA nA tA) (dn mB nB tB) λi j=>oK q nn rA rB tA tB (dn mA nA tA) i j)) (eo (dH (aM S.o.b8 Boot.«range» rfl) (aj (ao J) ak)) d9.1)
   (λL Do=>kX kN.CP _ _ _ _▸bX (yF kN.CP (ay kN.CR r? q nn) (dn mB nB tB) λi j=>oK q nn rA rB tA tB (dn mA nA tA) i j) (az J) (c_ λi hi=>?_)) (λq=>nomatch q) J J (aaj J) (by simp[bz];exact MH d9) (λ_=>rfl)) ak) cJ (bQ S.o.fk ((S.Jc (k:=k) (some a) r? q nn _ _ _ sh).mono (k':=k+14) (by exact Pg))) J)
  refine aZ (eo (dH (aM S.o.b8 Boot.«range» rfl) (aj (ao J) ak)) (Ko.2)) (λL Do=>bX _ (az J) (c_ λj hj=>?_)) (λq=>nomatch q) J J (aaj J) (by simp[bz];exact OQ Ko) (λ_=>rfl);have hf:(bz 0 (dn mA nA tA)).map (yE kN.CP (ay kN.CR r? q nn) λk=>gj q nn (cN rA tA i k) (cN rB tB k j))=((List.range (dn mA nA tA)).map λk=>gj q nn (cN rA tA i k) (cN rB tB k j)).map (eT kN.CP (ay kN.CR r? q nn)):=by unfold bz;rw[aar,aar];refine aaz λk _=>?_;simp only[Function.comp_def,yE,jM]
  refine wB (k:=k+11) (outs:=(bz 0 (dn mA nA tA)).map (yE kN.CP (ay kN.CR r? q nn) λk=>gj q nn (cN rA tA i k) (cN rB tB k j))) (aM S.o.qU Boot.«sum» rfl) (rS (P:=P) (eo (dH (aM S.o.b8 Boot.«range» rfl) (aj (ao J) ak)) d9.2) (λL' code=>pI _ (λDo=>(az J)) _ _ (c_ λz hz Do=>?_) _ (λ_=>rfl)) (λq=>nomatch q) J J (aaj J) (λ_=>rfl) J J J J hP) (hf▸qU S.toG0 (k:=k) r? q nn rY kj Nt _ (by
   intro h;have:=aaJ List.length h;simp at this;exact Sz h0' this) (λb hb=>by
   obtain⟨_,_,rfl⟩:=aan.mp hb;exact gJ ..)) (by show k+11+3<=k+14;omega)
  have eA:=hA.ent (tr:=tA) (i:=i) (j:=z) hi hz;have eB:=hB.ent (tr:=tB) (i:=z) (j:=j) (by exact a0 h1 hz) (by omega);exact aI (bP S.o.cT (ao J) (bW (aj (ao J) (aj (ao J) ak)) (aae J)) (cU S.o (k:=k) _ _ rA tA i z _ (hA.toShape.jI hi hz) (by exact a6 d9 hi) (by exact a2 d9 hz)) (by show k+2+1<=k+11;exact Jj) (λ_ _=>rfl)) (bP S.o.cT (ao J) (bW (aj (ao J) (aj (ao J) ak)) (aae J)) (cU S.o (k:=k) _ _ rB tB z j _ (hB.toShape.jI (by exact a0 h1 hz) (by omega)) (by exact a2 d9 hz) (by exact a2 Ko hj)) (by show k+2+1<=k+11;exact Jj) (λ_ _=>rfl))
   (e_ S.o.u9 S.o.j4 ((BS S.toG0 (k:=k) r? r? q q nn nn _ _ rY kj eA.1 eB.1 (wU hq2 eA.2)).mono (k':=k+11) (by exact Pd)))
theorem Gz{C:Cx}(S:G3 C dN){k:Nat}(a:Addr)(r?:acn)(q:Int)(nn:Nat)(rA rB:Rows)(tA tB:Bool)(mA nA mB nB:Nat)(hq:0<q)(hq2:q<=2^64)(kj:nn<=1000)(Nt:0<nn)(hA:oh q nn rA mA nA)(hB:oh q nn rB mB nB)(h1:dn mA nA tA=dm mB nB tB)(h0:0<dm mA nA tA)(h0':0<dn mA nA tA) :
 bJ C (k+15) (.ref (dN.a 35)) [mr dN (some a) (ay dN.CR r? q nn) rA tA,mr dN (some a) (ay dN.CR r? q nn) rB tB] [] (mr dN (some a) (ay dN.CR r? q nn) (fq (dm mA nA tA) (dn mB nB tB) λi j=>oK q nn rA rB tA tB (dn mA nA tA) i j) false):=by
 obtain⟨oc,od,kJ,kV,doc,pm,an,ct,ho,h_⟩:=S.o.kC.at_;obtain⟨P,hP⟩:=S.o.kC.tab;have rY:q≠0:=by exact zQ hq
 refine fJ (bs:=[("self",mr dN (some a) (ay dN.CR r? q nn) rA tA),("other",mr dN (some a) (ay dN.CR r? q nn) rB tB)]) ho h_ (fh J) (by rfl) λL D=>?_
 .have cm:=cM (C:=C) (k:=k+14) (a:=a) (b:=a) S.o.mod S.o.mod (fs:=[("ring",ay dN.CR r? q nn)]) (gs:=[("ring",ay dN.CR r? q nn)])
  rw[show decide (a≠a)=false from by simp] at cm;have cd:=gO (C:=C) (k:=k+14) (dn mA nA tA) (dm mB nB tB);rw[show(((dn mA nA tA:Nat):Int)==((dm mB nB tB:Nat):Int))=true from by simp[h1]] at cd;have d9:=hA.toShape.d9 tA;have Ko:=hB.toShape.d9 tB;have sh:=jc (λi j=>oK q nn rA rB tA tB (dn mA nA tA) i j) h0 d9.1 Ko.2;have pd:=fL S.o (k:=k+12) (cK dN.CO (some a) (ay dN.CR r? q nn)) (ay dN.CR r? q nn) rA tA mA nA hA.toShape;have pQ:=fL S.o (k:=k+12) (cK dN.CO (some a) (ay dN.CR r? q nn)) (ay dN.CR r? q nn) rB tB mB nB hB.toShape;refine aQ (bq (cF (b:=true) (bN (m:=.bool true) (bU (aM S.o.aR Boot.«isinstance» rfl) (aj (ao J) (aj (bV J S.o.jt (λ_ _=>.bZ _ J) J) ak)) J (bR S.o.mC (λ_ _ _ q=>by cases q;exact S.o.iW) J (λ_ q=>nomatch q))) (bE true))) aJ) ?_;refine aQ (bq (bw (b:=false) (aV (ao J) S.o.bA J J J) (aV (ao J) S.o.bA J J J) cm) aJ) ?_;refine aQ (cy (bl (ao J) S.o.d_ J ak pd J) (gc (az J) (az J)) J J) ?_;refine aQ (cy (bl (ao J) S.o.d_ J ak pQ J) (gc (az J) (az J)) J J) ?_;refine aQ (bq (cF (b:=true) (bw (b:=true) (ao J) (ao J) cd)) aJ) ?_;refine bB (fB (ao J) S.o.bA J J (aj (aZ (out:=ek dN.CP (ay dN.CR r? q nn) (fq (dm mA nA tA) (dn mB nB tB) λi j=>oK q nn rA rB tA tB (dn mA nA tA) i j)) (eo (dH (aM S.o.b8 Boot.«range» rfl) (aj (ao J) ak)) d9.1)
   (λL Do=>kX dN.CP _ _ _ _▸bX (yF dN.CP (ay dN.CR r? q nn) (dn mB nB tB) λi j=>oK q nn rA rB tA tB (dn mA nA tA) i j) (az J) (c_ λi hi=>?_)) (λq=>nomatch q) J J (aaj J) (by simp[bz];exact MH d9) (λ_=>rfl)) ak) cJ (bQ S.o.fk ((S.Jc (k:=k) (some a) r? q nn _ _ _ sh).mono (k':=k+14) (by exact Pg))) J)
  refine aZ (eo (dH (aM S.o.b8 Boot.«range» rfl) (aj (ao J) ak)) (Ko.2)) (λL Do=>bX _ (az J) (c_ λj hj=>?_)) (λq=>nomatch q) J J (aaj J) (by simp[bz];exact OQ Ko) (λ_=>rfl);have hf:(bz 0 (dn mA nA tA)).map (yE dN.CP (ay dN.CR r? q nn) λk=>gj q nn (cN rA tA i k) (cN rB tB k j))=((List.range (dn mA nA tA)).map λk=>gj q nn (cN rA tA i k) (cN rB tB k j)).map (eT dN.CP (ay dN.CR r? q nn)):=by unfold bz;rw[aar,aar];refine aaz λk _=>?_;simp only[Function.comp_def,yE,jM]
  refine wB (k:=k+11) (outs:=(bz 0 (dn mA nA tA)).map (yE dN.CP (ay dN.CR r? q nn) λk=>gj q nn (cN rA tA i k) (cN rB tB k j))) (aM S.o.qU Boot.«sum» rfl) (rS (P:=P) (eo (dH (aM S.o.b8 Boot.«range» rfl) (aj (ao J) ak)) d9.2) (λL' code=>pI _ (λDo=>(az J)) _ _ (c_ λz hz Do=>?_) _ (λ_=>rfl)) (λq=>nomatch q) J J (aaj J) (λ_=>rfl) J J J J hP) (hf▸qU S.toG0 (k:=k) r? q nn rY kj Nt _ (by
   intro h;have:=aaJ List.length h;simp at this;exact Sz h0' this) (λb hb=>by
   obtain⟨_,_,rfl⟩:=aan.mp hb;exact gJ ..)) (by show k+11+3<=k+14;omega)
  have eA:=hA.ent (tr:=tA) (i:=i) (j:=z) hi hz;have eB:=hB.ent (tr:=tB) (i:=z) (j:=j) (by exact a0 h1 hz) (by omega);exact aI (bP S.o.cT (ao J) (bW (aj (ao J) (aj (ao J) ak)) (aae J)) (cU S.o (k:=k) _ _ rA tA i z _ (hA.toShape.jI hi hz) (by exact a6 d9 hi) (by exact a2 d9 hz)) (by show k+2+1<=k+11;exact Jj) (λ_ _=>rfl)) (bP S.o.cT (ao J) (bW (aj (ao J) (aj (ao J) ak)) (aae J)) (cU S.o (k:=k) _ _ rB tB z j _ (hB.toShape.jI (by exact a0 h1 hz) (by omega)) (by exact a2 d9 hz) (by exact a2 Ko hj)) (by show k+2+1<=k+11;exact Jj) (λ_ _=>rfl))
   (e_ S.o.u9 S.o.j4 ((BS S.toG0 (k:=k) r? r? q q nn nn _ _ rY kj eA.1 eB.1 (wU hq2 eA.2)).mono (k':=k+11) (by exact Pd)))
section
variable{C:Cx}{Γ:Gm}{W D D' X X' Z iU Wk:acq}{s s':Shared}{vs vs' d7:aC}{A:Around}{E:ach}{e:Expr}{v m:MV}{k:Nat}{ms:acw}{fl:Fl}{pr:Bool}{it:Value}{h h':Heap}{scope:Scope}
inductive GA(C:Cx)(Γ:Gm)(W Z:acq)(acc:Addr)(vs':aC)(out:acw)(bM:Shared)(r:Result)(s':Shared):Prop
 |mk (hr:r = .ok .next):CB C Γ W Z acc vs' out bM s'->GA C Γ W Z acc vs' out bM r s'
theorem Ao{e0 elt t:Expr}{d:Nat}{ipos:Pos}{acc:Addr}
 (hq:(Code.compLoop e0 d it (.ref acc) Γ.env).quiet=true) (hun:A.under (Code.compLoop e0 d it (.ref acc) Γ.env)=A)
 (Dm:(model P0 C.w).den (.compLoop e0 d it (.ref acc) Γ.env)=(compTurn e0 d it (.ref acc) Γ.env).onRaise (λx=>do noteFrame x Γ.env;theTreesLotGoes x))
 (OX:compTurn e0 d it (.ref acc) Γ.env=(standAt ipos>>=λ_=>pyNext it>>=λr=>match r with
  |none=>pure (.done .next)
  |some v=>letOwnedTupleGo t it v>>=λ_=>assign t Γ.env v>>=λ_=>
   (eval elt Γ.env>>=λx=>call (.builtin "list.append") [.ref acc,x]>>=λ_=>pure ())>>=λ_=>
    again (.compLoop e0 d it (.ref acc) Γ.env))) (ht:pr=true->∃es x1 p,t = .Tuple es x1 p) (G:Good Γ.k A) {Do:acq} (E:oA C (cz Γ Do) W Z acc)
 {ms:acw} {vs vs':aC} {out pre:acw} (H:LZ C Γ t elt ms vs out vs') (hlen:pre.length+ms.length<=1000) (B:CB C (cz Γ Do) W Z acc vs pre s s) (hit:wo C (cz Γ Do) W Z acc pr it ms s) :
 codeAny (model P0 C.w) A (.compLoop e0 d it (.ref acc) Γ.env) (GA C (cz Γ Do) W Z acc vs' (pre++out) s) s:=by
 refine sW (Γ:=cz Γ Do) (R:=λms vs pre'=>∃iE,pre'++iE=pre++out/\pre'.length+ms.length<=1000/\LZ C Γ t elt ms vs iE vs') hq hun Dm OX ht G E ?_ ⟨out,J,hlen,H⟩ B hit ?_
 .rintro m ms vs pre' ⟨iE,xF,hl,fK,r,Fc,HB,HE,rfl,HN⟩
  refine⟨fK,HB Do,λs Q EE B hit h=>?_⟩;replace hl:=abr▸hl;refine aal (aal ((HE Do).use G B.inv B.fm λx s₆ M6 qq uD zX=>?_));refine aal (CB.push E (B.step E qq uD) (E.xE B.fm hit qq.keep n0) M6 (aaf (aay _ _) hl) λv s' B' xY=>?_);exact aat (aat (h s' fK (pre'++[r]) ⟨Fc,by refine rs (xF ..) (rl (abU ..) ?_);rfl,by exact rl (aaX ..) (rl (List.length_singleton ..) (rl (abC ..) (rl (abj 1 ..) hl))),HN⟩ B' xY))
 .rintro s' cG pre' ⟨iE,xF,_,rfl,rfl⟩ B'
  replace xF:=(aaU ..)▸xF;subst xF;exact .mk J B'
theorem uF(elt t1 i1 t2 i2:Expr)(scope:Scope)(pos:Pos)(it acc:Value)(env:Env) :
 compTurn (.ListComp elt [⟨t1,i1,[],0⟩,⟨t2,i2,[],0⟩] scope pos) 0 it acc env=(standAt i1.pos>>=λ_=>pyNext it>>=λr=>match r with
  |none=>pure (.done .next)
  |some v=>letOwnedTupleGo t1 it v>>=λ_=>assign t1 env v>>=λ_=>
   (eval i2 env>>=λx=>standAt i2.pos>>=λ_=>foldedSetIterable i2 env x>>=λx=>holding [x] (pyIter x)>>=λJd=>runOwn (.compStart (.ListComp elt [⟨t1,i1,[],0⟩,⟨t2,i2,[],0⟩] scope pos) 1 Jd acc env) env>>=λ_=>
    again (.compLoop (.ListComp elt [⟨t1,i1,[],0⟩,⟨t2,i2,[],0⟩] scope pos) 0 it acc env))):=by rfl
theorem uG(elt t1 i1 t2 i2:Expr)(scope:Scope)(pos:Pos)(it acc:Value)(env:Env) :
 compTurn (.ListComp elt [⟨t1,i1,[],0⟩,⟨t2,i2,[],0⟩] scope pos) 1 it acc env=(standAt i2.pos>>=λ_=>pyNext it>>=λr=>match r with
  |none=>pure (.done .next)
  |some v=>letOwnedTupleGo t2 it v>>=λ_=>assign t2 env v>>=λ_=>
   (eval elt env>>=λx=>call (.builtin "list.append") [acc,x]>>=λ_=>pure ())>>=λ_=>
    again (.compLoop (.ListComp elt [⟨t1,i1,[],0⟩,⟨t2,i2,[],0⟩] scope pos) 1 it acc env)):=by rfl
end
section
variable{C:Cx}{Γ:Gm}{W D D' X X' Z iU Wk:acq}{s s':Shared}{vs vs' d7:aC}{A:Around}{E:ach}{e:Expr}{v m:MV}{k:Nat}{ms:acw}{fl:Fl}{pr:Bool}{it:Value}{h h':Heap}{scope:Scope}
inductive Q5(C:Cx)(Γ:Gm)(t1 i2 t2 elt:Expr)(m:MV)(vs:aC)(out:acw)(K:aC->acw->Prop):Prop
 |mk (fK:aC) (Nu:Bool) (ms2 rK:acw) (dG:aC) (mW:acw):(∀Do,Bd C (cz Γ Do) t1 m vs fK)->(∀Do,rR C (cz Γ Do) fK i2 Nu ms2)->(Nu=true->∃es x1 p,t2 = .Tuple es x1 p)->ms2.length<=30->LZ C Γ t2 elt ms2 fK rK dG->rK.length<=30->out=rK++mW->K dG mW->Q5 C Γ t1 i2 t2 elt m vs out K
noncomputable def O2(C:Cx)(Γ:Gm)(t1 i2 t2 elt:Expr):acw->aC->acw->Prop
 |[],_,out=>out=[]
 |m::ms,vs,out=>Q5 C Γ t1 i2 t2 elt m vs out λdG mW=>O2 C Γ t1 i2 t2 elt ms dG mW
theorem mE{elt t1 i1 t2 i2:Expr}{pos:Pos}{acc:Value}{env:Env}{R:Result->Shared->Prop}
 (h0:codeAny (model P0 C.w) A (.compLoop (.ListComp elt [⟨t1,i1,[],0⟩,⟨t2,i2,[],0⟩] scope pos) 1 it acc env) R s)
 (h:wpAny (model P0 C.w) A (pyIter it) (λit' s'=>codeAny (model P0 C.w) A (.compLoop (.ListComp elt [⟨t1,i1,[],0⟩,⟨t2,i2,[],0⟩] scope pos) 1 it' acc env) R s')
  (notedBy (model P0 C.w) A env λx s'=>R (.error x) s') s) :
 codeAny (model P0 C.w) A (.compStart (.ListComp elt [⟨t1,i1,[],0⟩,⟨t2,i2,[],0⟩] scope pos) 1 it acc env) R s:=by
 refine codeAny_of_tree ?_;show wpAny _ _ ((compStart (.ListComp elt [⟨t1,i1,[],0⟩,⟨t2,i2,[],0⟩] scope pos) 1 it acc env).onRaise (λx=>do noteFrame x env;standAt theWindowsPlace)) _ _ s;refine wpAny_notedAt ?_;unfold compStart;show wpAny _ _ (ask>>=_) _ _ s;refine aal (wpAny_askSetting (wpAny_ite ?_));split
 .first
   |exact aal (aat (aat (And.intro rfl h0)))
   |exact aat (And.intro rfl h0)
 .refine aal (abR ?_);show wpAny _ _ (standAt i2.pos>>=_) _ _ s;exact aal (aaY (aal (aaQ h (λit' s' h'=>aat (And.intro J h')) λ_ _ x=>x)))
theorem Nv{a b c:Nat}(h:a+30*(b+1)<=900)(h2:c<=30):a+c<=1000:=by exact Up h h2
theorem Kp{a b c:Nat}(h:a+30*(b+1)<=900)(h2:c<=30):a+c+30*b<=900:=by exact Uq h h2
theorem SV{z:Addr}:z∉([]:acq):=λq=>nomatch q
theorem kL.two{elt t1 i1 t2 i2:Expr}{pos:Pos}{out:acw}(H:O2 C Γ t1 i2 t2 elt ms vs out)(ht:pr=true->∃es x1 p,t1 = .Tuple es x1 p)(hlen:ms.length<=30)(hs2:∀x,foldedSetIterable i2 Γ.env x=pure x):kL C Γ (.ListComp elt [⟨t1,i1,[],0⟩,⟨t2,i2,[],0⟩] scope pos) pr ms vs out:=
 λA s W Z it acc G E B hit=>by
 refine sW (R:=λms vs pre=>∃iE,pre++iE=out/\pre.length+30*ms.length<=900/\O2 C Γ t1 i2 t2 elt ms vs iE) J J J (uF ..) ht G E ?_ ⟨out,J,by exact rl (List.length_nil ..) (rl (Nat.zero_add ..) ((abe 30 hlen))),H⟩ B hit ?_
 .rintro m ms vs pre ⟨iE,xF,hl,fK,Nu,ms2,rK,dG,mW,HB,HI,XG,hl2,HC,ho1,rfl,HN⟩
  refine⟨fK,HB Γ.Do,λfF Q EE oM sJ hQ=>?_⟩;refine aal (cS (HI Γ.Do A fF W G oM.inv oM.fm) λx gG h₅=>aal (aaY ?_));rw[hs2];refine aal (aat (aal (abL (cS h₅ λJd s₆ bI=>aal (wpAny_runOwn ?_)))));obtain⟨Z2,Ez,Kq,qq,uD⟩:=bI;show codeAny _ A _ _ _;replace hl:=abr▸hl;have Aq:∀d∈W++Γ.Do,d∉Z2:=λd hd q=>absurd (oM.fm.hi d hd) (aaw.mpr (Ez d q).1);have E2:oA C (cz Γ (Z2++Γ.Do)) W Z2 acc:=⟨λz hz=>aah _ hz,λz hz q=>Aq z (aah _ q) hz,λx c hc q=>Aq c (oM.fm.cI x c hc).1 q,λq=>Aq acc (aad _ E.haD) q,λz hz=>aX uD (aaf oM.inv.size (Ez z hz).1),aad _ E.haD,E.ql,E.haC,E.W7⟩;have XH:CB C (cz Γ (Z2++Γ.Do)) W Z2 acc fK pre s₆ s₆:=by
   refine nb λnn=>?_;obtain⟨items,n,ha,hd⟩:=oM.box;refine nn<|⟨oM.fm.fresh oM.inv qq Ez,⟨items,n,E.keep oM.inv qq SV ha,hd.kept qq.keep (λd hd=>(aag.mp hd).elim (λq=>nomatch q) (oM.fm.cj d)) λd hd=>?_⟩,bL.refl _ _ _,uD⟩
   rcases aag.mp hd with q |q
   .exact .inl (aah _ q)
   .rcases aag.mp q with q |q
    .exact .inr (Ez d q).1
    .exact .inl (aad _ q)
  have inner:=Ao (C:=C) (Γ:=Γ) (A:=A) (W:=W) (it:=Jd) (pr:=Nu) (Z:=Z2) (e0:=.ListComp elt [⟨t1,i1,[],0⟩,⟨t2,i2,[],0⟩] scope pos) (elt:=elt) (t:=t2) (d:=1) (ipos:=i2.pos) (acc:=acc) J J J (uG ..) XG G E2 HC (Nv hl hl2) XH
   (Kq.kept (W:=[]) (λ_ _ _ e=>e) (λ_ q=>nomatch q) (λ_ q=>nomatch q) (λ_ q=>.inl q) (λd hd=>by
    rcases aap.mp hd with q |q
    .exact rl q ((.inl (aad _ (aad _ E.haD))))
    .rcases aag.mp q with q |q
     .exact .inl (aah _ q)
     .exact .inl (aad _ (aad _ (oM.fm.tabs d q)))) (λ_ _ q=>nomatch q))
  refine(λ{R:Result->Shared->Prop}(h:∀r s',_->R r s')=>(mE (abm inner h) (jz.iter Kq (abm inner h)):codeAny (model P0 C.w) A (.compStart (.ListComp elt [⟨t1,i1,[],0⟩,⟨t2,i2,[],0⟩] scope pos) 1 Jd (.ref acc) Γ.env) R s₆)) λr s₇ bI=>?_;cases bI with |mk hr GB=>
  subst hr;have ZI:bL C (acc::W) fF s₇:=qq.trans GB.dJ (λ_ q=>nomatch q) λd hd=>by
   rcases aap.mp hd with q |q
   .exact rl q ((.inl (.head _)))
   .rcases aag.mp q with q |q
    .exact .inl (.tail _ q)
    .exact .inr (Ez d q).1
  refine aat (hQ s₇ dG (pre++rK) ⟨mW,by exact rs (xF ..) (rl (abU ..) J),by exact rl aaX ((Kp hl ho1)),HN⟩ ⟨?_,?_,?_,GB.inv⟩ (E.xE oM.fm sJ ZI.keep λd hd=>hd))
  .exact GB.fm.change (iU:=Γ.Do) (Wk:=[]) (h':=s₇.heap) (λ_ _ _ e=>e) (aaq _) (λ_ q=>nomatch q) (λ_ q=>nomatch q) (λ_ _ _ q=>nomatch q) (λd hd=>.inl (aad _ hd)) oM.fm.tabs (λd hd=>GB.fm.hi d (aad _ (aad _ hd))) (λx c hc=>(oM.fm.cI x c hc).1)
  .obtain⟨Nx,n7,Q6,Q7⟩:=GB.box
   refine⟨Nx,n7,Q6,Q7.kept (W:=[]) (λ_ _ _ e=>e) (λ_ q=>nomatch q) λd hd=>.inl ?_⟩;rcases aag.mp hd with q |q
   .exact aah _ q
   .exact aad _ (aad _ q)
  .exact oM.dJ.eS (ZI.weak λd hd=>by
    rcases aap.mp hd with q |q
    .exact rl q ((.head _))
    .exact .tail _ (aah _ q))
 .rintro s' cG pre' ⟨iE,xF,_,rfl⟩ B'
  replace xF:=(aaU ..)▸xF;subst xF;exact B'.done
end
theorem pR(elt t1 i1 t2 i2:Expr)(scope:Scope)(pos:Pos)(it acc:Value)(env:Env) :
 compTurn (.GeneratorExp elt [⟨t1,i1,[],0⟩,⟨t2,i2,[],0⟩] scope pos) 0 it acc env=(standAt i1.pos>>=λ_=>pyNext it>>=λr=>match r with
  |none=>pure (.done .next)
  |some v=>letOwnedTupleGo t1 it v>>=λ_=>assign t1 env v>>=λ_=>
   (eval i2 env>>=λx=>standAt i2.pos>>=λ_=>foldedSetIterable i2 env x>>=λx=>holding [x] (pyIter x)>>=λJd=>runOwn (.compStart (.GeneratorExp elt [⟨t1,i1,[],0⟩,⟨t2,i2,[],0⟩] scope pos) 1 Jd acc env) env>>=λ_=>
    again (.compLoop (.GeneratorExp elt [⟨t1,i1,[],0⟩,⟨t2,i2,[],0⟩] scope pos) 0 it acc env))):=by rfl
theorem wW(elt t1 i1 t2 i2:Expr)(scope:Scope)(pos:Pos)(it acc:Value)(env:Env) :
 compTurn (.GeneratorExp elt [⟨t1,i1,[],0⟩,⟨t2,i2,[],0⟩] scope pos) 1 it acc env=(do
  standAt i2.pos
  match <- pyNext it with
  |none=>pure (.done .next)
  |some v=>
   letOwnedTupleGo t2 it v
   assign t2 env v
   (do let v <- eval elt env;standAt elt.pos;let _ <- yieldOut env v)
   again (.compLoop (.GeneratorExp elt [⟨t1,i1,[],0⟩,⟨t2,i2,[],0⟩] scope pos) 1 it acc env)):=by rfl
section
variable{C:Cx}{Γ:Gm}{W D D' X X' Z iU Wk O:acq}{s s':Shared}{vs vs' d7:aC}{A:Around}{E:ach}{e:Expr}{v m:MV}{k:Nat}{ms outs:acw}{a:Addr}{g B:Nat}
 {L:Addr} {pr:Bool} {it:Value} {T af:Shared->Shared->Prop} {full:acw} {R:GenEnd} {Y:Protocol}
theorem Ar{elt:Expr}{gens:List Comprehension}{scope:Scope}{pos p:Pos}{env:Env}{d d':Nat}{it':Value}{kk:Result->Sem Fin}(G:Good (k+2) A) :
 Good k (A.in1.over (.compLoop (.GeneratorExp elt gens scope pos) d it .none env) [.ret kk none false [] (.compLoop (.GeneratorExp elt gens scope pos) d' it' .none env) p []]):=by
 refine⟨G.handled,?_,?_⟩
 .show A.in1.depth+frameCount [(Code.compLoop (.GeneratorExp elt gens scope pos) d' it' .none env,p)]+Code.weight (.compLoop (.GeneratorExp elt gens scope pos) d it .none env)+5*k+5<_
  refine rl (frameCount_cons ..) ?_;exact Ur G.depth (oE d it) (oE d' it')
 .exact Us G.units (qu d it) (qu d' it')
theorem As{elt t1 i1 t2 i2:Expr}{scope:Scope}{pos:Pos}{env:Env}{n:Nat}{bM:Shared}{lo:Nat}{fs:List Frame}(hit:jz lo s.heap D X pr Z it ms)
 (h:Seg (model P0 C.w) A R Y n bM (.compLoop (.GeneratorExp elt [⟨t1,i1,[],0⟩,⟨t2,i2,[],0⟩] scope pos) 1 it .none env) ((model P0 C.w).den (.compLoop (.GeneratorExp elt [⟨t1,i1,[],0⟩,⟨t2,i2,[],0⟩] scope pos) 1 it .none env)) fs s) :
 Seg (model P0 C.w) A R Y n bM (.compStart (.GeneratorExp elt [⟨t1,i1,[],0⟩,⟨t2,i2,[],0⟩] scope pos) 1 it .none env) ((model P0 C.w).den (.compStart (.GeneratorExp elt [⟨t1,i1,[],0⟩,⟨t2,i2,[],0⟩] scope pos) 1 it .none env)) fs s:=by
 show Seg _ A _ _ _ bM _ ((compStart (.GeneratorExp elt [⟨t1,i1,[],0⟩,⟨t2,i2,[],0⟩] scope pos) 1 it .none env).onRaise (λx=>do noteFrame x env;standAt theWindowsPlace)) fs s;unfold compStart;refine rl (abH ..) ?_;show Seg _ A _ _ _ bM _ ((ask>>=_).wrap _ _ _ _) fs s;refine aaT (wpAny_askSetting ?_);split
 .exact seg_again J h
 .refine aaT (abR ?_)
  show Seg _ A _ _ _ bM _ ((standAt i2.pos>>=_).wrap _ _ _ _) fs s;exact aaT (aaY (aaT (jz.iter hit (seg_again J h))))
theorem Kr{P:Addr->Prop}{N:Nat}{elt t1 i1 t2 i2:Expr}{scope:Scope}{pos:Pos}{D₀:acq}(hD₀:∀d∈D₀,d∈D)(ht:pr=true->∃es x1 p,t1 = .Tuple es x1 p)(G:Good (Γ.k+2) A)(hco:Γ.env.scope.isCoroutine=false)(hs2:∀x,foldedSetIterable i2 Γ.env x=pure x)
 (hT:∀bM s s' Wk,T bM s->bL C Wk s s'->(∀d∈Wk,P d)->T bM s') (Xg:∀s,T s s) (hB:P L/\∀z∈Z,P z) (hPN:∀d,N<=d->P d) (hU:∀s s',af s s'->s'.heap=s.heap) :
 ∀(ms:acw){vs:aC}{outs:acw}{bM s:Shared},O2 C Γ t1 i2 t2 elt ms vs outs->yb C Γ L Z pr it D vs ms s->N<=s.heap.objs.size->T bM s->Inv C s->full.drop (full.length-outs.length)=outs->outs.length<=full.length->
  Seg (model P0 C.w) A.in1 (RG C T) (YG C T af full D₀) outs.length bM (.compLoop (.GeneratorExp elt [⟨t1,i1,[],0⟩,⟨t2,i2,[],0⟩] scope pos) 0 it .none Γ.env) ((model P0 C.w).den (.compLoop (.GeneratorExp elt [⟨t1,i1,[],0⟩,⟨t2,i2,[],0⟩] scope pos) 0 it .none Γ.env)) [] s:=by
 have G1:Good Γ.k (A.in1.over (.compLoop (.GeneratorExp elt [⟨t1,i1,[],0⟩,⟨t2,i2,[],0⟩] scope pos) 0 it .none Γ.env) []):=uX (k:=Γ.k) (G.le (by exact Ut));intro ms
 induction ms with
 |nil=>
  intro vs outs bM s H F XI tt I iP hle;cases H;show Seg _ _ _ _ _ bM _ ((compTurn (.GeneratorExp elt [⟨t1,i1,[],0⟩,⟨t2,i2,[],0⟩] scope pos) 0 it .none Γ.env).onRaise (leaving Γ.env)) [] s;refine rl (pR ..) (rl (abH ..) ?_);refine aaT (aaY ?_);refine aaT (jz.done F.xE G1.handled I (aaq _) λaq a_ aF=>?_);exact seg_end (.ok .next) ⟨J,J,hT _ _ _ _ tt a_ λz hz=>hB.2 z hz,aF⟩
 |cons m ms ih=>
  intro vs outs bM s H F XI tt I iP hle;obtain⟨fK,Nu,ms2,rK,dG,mW,HB,HI,XG,_,HC,_,rfl,HN⟩:=H;show Seg _ _ _ _ _ bM _ ((compTurn (.GeneratorExp elt [⟨t1,i1,[],0⟩,⟨t2,i2,[],0⟩] scope pos) 0 it .none Γ.env).onRaise (leaving Γ.env)) [] s;refine rl (pR ..) (rl (abH ..) ?_);refine aaT (aaY ?_);refine aaT (jz.next F.xE F.zD (λd hd=>F.fm.hi d (aad _ hd)) I (aaq _) ht λa aq jy=>?_);refine aaT (cS jy λ_ av bI=>?_);refine nb λnn=>?_;obtain⟨bG,z9,aY,bu⟩:=bI;have bO:Fm C (cz Γ D) [L] av.heap vs:=Fm.jj (Γ:=cz Γ D) F.fm I aY F.zD (λz hz q=>F.zL z hz (aam.mp q)) F.zc;have Fp:=hT _ _ _ _ tt aY (λz hz=>hB.2 z hz);have Fq:Den av.heap ([L]++D) a m:=bG.kept (h:=av.heap) (W:=[]) (λ_ _ _ e=>e) n0 (λd hd=>.inl ((aag.mp hd).elim (λq=>by exact rl (aam.mp q) (F.lD)) λq=>q));refine nn<|aaT (cS (HB D _ av [L] a G1 bu bO Fq) λ_ bH bI=>?_)
  refine nb λnn=>?_;obtain⟨iz,cW,ez⟩:=bI;have ik:∀{Wk:acq}{av bH:Shared},jz C.H.objs.size av.heap D D pr Z it ms->bL C Wk av bH->(∀d∈Wk,d=L)->jz C.H.objs.size bH.heap D D pr Z it ms:=λ{Wk av bH} hi t h1=>by have sub:∀d∈Wk++C.tabs,d∈D:=λd hd=>(aag.mp hd).elim (λq=>by exact rl (h1 d q) (F.lD)) (F.fm.tabs d);exact hi.kept t.keep sub sub (λ_ q=>.inl q) (λ_ q=>.inl q) (λz hz q=>(aag.mp q).elim (λq=>F.zL z hz (h1 z q)) (aX I (F.zH z hz)))
  have sX:=ik z9 cW (λd hd=>aam.mp hd);have Ft:=hT _ _ _ _ Fp cW (λz hz=>by exact rl (aam.mp hz) (hB.1));refine nn<|aaT (cS (HI D _ bH [L] G1 ez iz) λx fF h₄=>aaT (aaY ?_))
  rw[hs2];refine aaT (aat (aaT (abL (cS h₄ λJd gG ⟨Z2,Ez,Kq,jK,pg⟩=>?_))));have ZJ:s.heap.objs.size<=bH.heap.objs.size:=aaf aY.size cW.size;have z2B:∀z∈Z2,P z:=λz hz=>hPN z (aaf XI (aaf ZJ (Ez z hz).1));have XJ:∀z∈Z2,C.H.objs.size<=z:=λz hz=>aaf ez.size (Ez z hz).1;have Aq:∀d∈[L]++D,d∉Z2:=λd hd q=>absurd (iz.hi d hd) (aaw.mpr (Ez d q).1);have Dg:Fm C (cz Γ (Z2++D)) [L] gG.heap fK:=Fm.fresh (Γ:=cz Γ D) iz ez jK Ez;have up:∀{hh:Heap},Kept C.tabs bH.heap hh->jz C.H.objs.size hh (Z2++D) (Z2++D) pr Z it ms:=λhk=>sX.kept hk F.fm.tabs F.fm.tabs
   (λd hd=>(aag.mp hd).elim (λq=>.inr (Ez d q).1) .inl) (λd hd=>(aag.mp hd).elim (λq=>.inr (Ez d q).1) .inl) (λz hz q=>aX I (F.zH z hz) q)
  have k35:Kept C.tabs bH.heap gG.heap:=λb o hb e=>jK.keep b o (by simpa using hb) e;have Q8:=hT _ _ _ _ Ft jK n0;have Mm:yb C Γ L Z2 Nu Jd (Z2++D) fK ms2 gG:=by
   refine⟨Dg,Kq.kept (W:=[]) (λ_ _ _ e=>e) n0 n0 ?_ ?_ (λ_ _ q=>nomatch q),aad _ F.lD,λz hz=>aah _ hz,λz hz q=>Aq L (.head _) (q▸hz),XJ,λx c hc q=>Aq c (iz.cI x c hc).1 q⟩
   .exactλd hd=>(aag.mp hd).elim (λq=>.inl (aad _ (aah _ q))) (λq=>.inl (aad _ (aad _ q)))
   .exactλd hd=>(aag.mp hd).elim (λq=>.inl (aad _ (aah _ q))) (λq=>.inl (aad _ (aad _ q)))
  refine seg_call (c':=.compStart (.GeneratorExp elt [⟨t1,i1,[],0⟩,⟨t2,i2,[],0⟩] scope pos) 1 Jd .none Γ.env) λp=>?_;refine As Mm.xE ?_;have hl:(rK++mW).length=rK.length+mW.length:=aaX;rw[hl] at iP hle ⊢;refine yc (C:=C) (Γ:=Γ) (A:=A.in1) (L:=L) (D:=Z2++D) (Z:=Z2) (pr:=Nu) (it:=Jd) (t:=t2) (elt:=elt) (d:=1) (ipos:=i2.pos) (aa:=λs=>jz C.H.objs.size s.heap (Z2++D) (Z2++D) pr Z it ms/\N<=s.heap.objs.size) (P:=P) (rest:=mW.length) (mQ:=mW) (full:=full) (T:=T) (af:=af) (R:=RG C T) (Hd:=_) (vs':=dG) (λd hd=>aad _ (hD₀ d hd)) J
   (wW ..) XG (Ar G) hco J J hT Xg ⟨hB.1,z2B⟩ ?_ ?_ ?_ ?_ ms2 HC Mm ⟨up k35,aaf XI (aaf ZJ jK.size)⟩ Q8 pg iP hle
  .exactλs s' vs ms u I' h=>⟨by exact rl (hU _ _ u) (h.fm),by exact rl (hU _ _ u) (h.xE),h.lD,h.zD,h.zL,h.zH,h.zc⟩
  .rintro s s' Wk ⟨j,jb⟩ I' t I3 hW
   have ZK:∀d∈Wk++C.tabs,d∈Z2++D:=λd hd=>(aag.mp hd).elim (λq=>(hW d q).elim (λe=>by exact rl e ((aad _ F.lD))) λq=>aah _ q) (λq=>aad _ (F.fm.tabs d q));refine⟨j.kept t.keep ZK ZK (λ_ q=>.inl q) (λ_ q=>.inl q) (λz hz q=>?_),aaf jb t.size⟩;rcases aag.mp q with q |q
   .rcases hW z q with q |q
    .exact F.zL z hz q
    .exact Aq z (aad _ (F.zD z hz)) q
   .exact aX I (F.zH z hz) q
  .exactλs s' ⟨j,jb⟩ u I'=>by exact rl (hU _ _ u) (⟨j,jb⟩)
  .rintro ZL s₈ Q9 XK Q_ ⟨XN,Ra⟩
   refine seg_leaf (.ok .next) ?_;have XO:Fm C (cz Γ D) [L] s₈.heap dG:=Q_.change (iU:=D) (Wk:=[]) (h':=s₈.heap) (λ_ _ _ e=>e) (aaq _) n0 n0 (λ_ _ _ q=>nomatch q) (λd hd=>.inl (aad _ hd)) F.fm.tabs (λd hd=>Q_.hi d (aad _ (aad _ hd))) (λx c hc=>(F.fm.cI x c hc).1);have XQ:yb C Γ L Z pr it D dG ms s₈:=⟨XO,XN.kept (W:=[]) (λ_ _ _ e=>e) n0 n0 (λd hd=>.inl (aad _ hd)) (λd hd=>.inl (aad _ hd)) (λ_ _ q=>nomatch q),F.lD,F.zD,F.zL,F.zH,F.zc⟩;have s_:full.drop (full.length-mW.length)=mW:=by
    have h1:(full.drop (full.length-(rK.length+mW.length))).drop rK.length=mW:=by refine rl iP ?_;simp
    replace h1:=List.drop_drop▸h1;have e:full.length-mW.length=full.length-(rK.length+mW.length)+rK.length:=by exact Uu hle
    exact rl e h1
   exact seg_again J (ih HN XQ Ra Q9 XK s_ (by exact Uv hle))
theorem GC(hh:A.handled=none)(hroom:A.depth<recursionLimit)(aH:C.H.objs.size<=a) :
 ∀(rest:List Bool){s:Shared}{gs:GenState}{St:Shared->Prop},s.heap.IsGen a g->s.gens[g]?=some gs->full.drop (full.length-rest.length)=rest.map .bool->rest.length<=full.length->St s->(∀s s',St s->s'.heap=s.heap->Inv C s'->St s')->
  (∀gp,St gp->Inv C gp->gs.Goes (model P0 C.w) A.in1 (RG C λbM s=>∃Wk,bL C Wk bM s/\∀d∈Wk,B<=d/\d≠a) (YG C (λbM s=>∃Wk,bL C Wk bM s/\∀d∈Wk,B<=d/\d≠a) (λs s'=>s'.heap=s.heap) full []) rest.length (.send .none) gp)->Fd C A a g B rest s:=by
 have tB:∀{aq av:Shared}{Wk:acq}{x x':GenState},bL C Wk (aq.setGen g x) av->(∀d∈Wk,B<=d/\d≠a)->rI C g B aq (av.setGen g x'):=λ{aq av Wk x x'} t hW=>
  ⟨t.size,λb o hb ht e=>t.keep b o (λq=>(aag.mp q).elim (λq=>absurd hb (aaw.mpr (hW b q).1)) ht) e,λg' y h e=>iJ _ _ _ h (t.gens g' y (iJ _ _ _ h e))⟩
 intro rest
 induction rest with
 |nil=>
  intro s gs St hg hgs iP hle hs st go I;refine fQ (Q:=λo s'=>o=none/\∃av h' Wk,bL C Wk (s.setGen g .running) av/\(∀d∈Wk,B<=d/\d≠a)/\Inv C av/\(∀b o,av.heap.get? b=some o->h'.get? b=some o)/\s'={av.setGen g .finished with heap:=h'}) ?_ ?_
  .refine wpAny_pyNext_genexpQ (P:=λn bM aq=>n=0/\(∃Wk,bL C Wk bM aq/\∀d∈Wk,B<=d/\d≠a)/\Inv C aq) hh I.nolimit hroom hg hgs (go _ (st _ _ hs J (I.setGen J)) (I.setGen J)) (λv av gs' hb hv=>?_) (λav hp h' hk=>?_)
   .refine nb λnn=>?_
    obtain⟨Qq,r',hget,d,jg,tt,bu,z_,go'⟩:=hv;exact(go' av jg bu).elim
   .refine nb λnn=>?_
    obtain⟨_,⟨Wk,t,hW⟩,bu⟩:=hp;exact nn<|⟨J,av,h',Wk,t,hW,bu,hk,J⟩
  .rintro o s' hsz ⟨rfl,av,h',Wk,t,hW,bu,hk,rfl⟩
   have q:=tB (x':=.finished) t hW;exact⟨⟨hsz,λb o hb ht e=>hk b o (q.keep b o hb ht e),q.gens⟩,(bu.setGen (g:=g) (x:=.finished) J).ext hk (aaf I.size hsz),J⟩
 |cons r rest ih=>
  intro s gs St hg hgs iP hle hs st go I;refine wpAny_pyNext_genexpQ (P:=λn bM aq=>n=0/\(∃Wk,bL C Wk bM aq/\∀d∈Wk,B<=d/\d≠a)/\Inv C aq) hh I.nolimit hroom hg hgs (go _ (st _ _ hs J (I.setGen J)) (I.setGen J)) (λv av gs' hb hv=>?_) (λav hp h' hk=>?_)
  .refine nb λnn=>?_
   obtain⟨Qq,r',hget,d,jg,⟨Wk,t,hW⟩,bu,z_,go'⟩:=hv;rw[abr] at iP hle hget;have hr:r' = .bool r:=by
    have h0:(full.drop (full.length-(rest.length+1)))[0]?=some (.bool r):=by refine rl iP ?_;rfl
    replace h0:=List.getElem?_drop▸h0;have e:full.length-(rest.length+1)+0=full.length-1-(rest.length+1-1):=by exact Y6
    replace h0:=e▸h0;replace h0:=hget▸h0;cases h0;rfl
   subst hr;have s_:full.drop (full.length-rest.length)=rest.map .bool:=by
    have h1:(full.drop (full.length-(rest.length+1))).drop 1=rest.map .bool:=by refine rl iP ?_;rfl
    replace h1:=List.drop_drop▸h1;have e:full.length-rest.length=full.length-(rest.length+1)+1:=by exact Y7 hle
    exact rl e h1
   have Aa:av.gens[g]?=some .running:=t.gens g _ (setGen_self hgs);cases d;refine nn<|⟨tB t hW,bu.setGen hb,J,ih (s:=av.setGen g gs') (St:=Qq) (kM hg t.keep (λq=>(aag.mp q).elim (λq=>(hW a q).2 J) (aX I aH))) (setGen_self Aa) s_ (by exact Y8 hle) ?_ z_ go'⟩
   exact z_ _ _ jg J (bu.setGen hb)
  .exact absurd hp.1 (Nat.succ_ne_zero _)
theorem GD{elt t iter i2 t2:Expr}{scope:Scope}{pos:Pos}{c P:Addr}{bs:List Bool}(Hi:rR C Γ vs iter pr ms)
 (H:∀L code,O2 C ⟨k,genEnv scope (gU Γ.env scope.names []) L code builtinsNs Γ.env,[],[]⟩ t i2 t2 elt ms (iA scope vs) (bs.map .bool))
 (hs2:∀L code x,foldedSetIterable i2 (genEnv scope (gU Γ.env scope.names []) L code builtinsNs Γ.env) x=pure x)
 (ht:pr=true->∃es x1 p,t = .Tuple es x1 p) (eN:ic scope=true) (hcl:gI scope Γ.env vs=true) (hnd:(vs.map (·.1)).Nodup) (hs:∀x,genexprIterable false (clausesOf (.GeneratorExp elt [⟨t,iter,[],0⟩,⟨t2,i2,[],0⟩] scope pos)) Γ.env x=pure x)
 (hco:scope.isCoroutine=false) (hcell:(scope.names.all λy=>y.2 !=.cell)=true) (h0:scope.names.lookup (".0":Str)=some NameKind.local) (hc:Γ.env.code = .ref c) (hq:(c,P)∈C.T) :
 M7 C Γ vs (k+1) (.GeneratorExp elt [⟨t,iter,[],0⟩,⟨t2,i2,[],0⟩] scope pos) bs:=λA s W G I F=>by
 refine Bt (k:=k) Hi eN hcl hnd hs hco hcell h0 hc hq G I F λit code L a g Z gG N=>⟨J,N.t,N.I,λA' hh=>wpAny_pyIter_gen N.SO ⟨a,g,J,λA'' Fe=>?_,N.t,N.I,N.hg⟩⟩;have hO:∀d∈L::Z,s.heap.objs.size<=d/\d≠a:=λd hd=>⟨(N.O d hd).1,abb (N.O d hd).2⟩;refine GC (full:=bs.map .bool) (g:=g) (St:=λs=>yb C ⟨k,genEnv scope (gU Γ.env scope.names []) L code builtinsNs Γ.env,[],[]⟩ L Z pr it (L::(Z++(W++Γ.Do))) (iA scope vs) ms s/\gG.heap.objs.size<=s.heap.objs.size) Fe.handled Fe.room (aaf I.size N.a0) bs N.SO N.gs (by refine rl (aai ..) (rl (abt ..) ?_);rfl) (by exact rl (aai ..) ((aaq _))) ⟨N.G,aaq _⟩ (λs s' bI u I'=>?_) λgp bI I3=>⟨J,?_⟩
 .obtain⟨h1,h2⟩:=bI
  exact⟨⟨by exact rl u (h1.fm),by exact rl u (h1.xE),h1.lD,h1.zD,h1.zL,h1.zH,h1.zc⟩,by exact rl u h2⟩
 .refine nb λnn=>?_
  obtain⟨h'',XR⟩:=bI;refine nn<|uY h''.xE ?_
  have:=Kr (C:=C) (Γ:=⟨k,genEnv scope (gU Γ.env scope.names []) L code builtinsNs Γ.env,[],[]⟩) (A:=A'') (L:=L) (D:=L::(Z++(W++Γ.Do))) (Z:=Z) (pr:=pr) (it:=it) (t1:=t) (i1:=iter) (t2:=t2) (i2:=i2) (elt:=elt) (scope:=scope) (pos:=pos) (D₀:=[]) (full:=bs.map .bool) (P:=λd=>s.heap.objs.size<=d/\d≠a) (N:=gG.heap.objs.size)
   (T:=λbM s'=>∃Wk,bL C Wk bM s'/\∀d∈Wk,s.heap.objs.size<=d/\d≠a) (af:=λs s'=>s'.heap=s.heap) n0 ht (Fe.le (by show k+2<=k+1+1;omega)) hco (hs2 L code)
   (λbM aq av Wk bI t2 h2=>by obtain⟨W1,t1,h1⟩:=bI;exact⟨W1++Wk,(t1.weak λd q=>aah _ q).eS (t2.weak λd q=>aad _ q),λd hd=>(aag.mp hd).elim (h1 d) (h2 d)⟩) (λs=>⟨[],bL.refl _ _ _,n0⟩)
   ⟨hO _ (.head _),λz hz=>hO z (.tail _ hz)⟩ (λd hd=>⟨aaf N.t.size hd,λq=>absurd hd (by exact rl q (rs N.a1 ((Nat.not_succ_le_self _))))⟩) (λs s' u=>u) ms (H L code) h'' XR ⟨[],bL.refl _ _ _,n0⟩ I3 (by simp) (aaq _)
  replace this:=(aai ..)▸this;exact this
end
theorem BV{C:Cx}{Γ:Gm}{x:Str}{elt:Expr}{p:Pos}(R:aC->Prop)(f:MV->MV)(hx:∀Do,rG (cz Γ Do) x)(hR:∀vs m,R vs->R (aG vs x (.v m))):∀(ms:acw)(vs:aC),R vs->(∀vs m,m∈ms->R vs->∀Do,Ev C (cz Γ Do) (aG vs x (.v m)) elt (f m))->∃pF,R pF/\LZ C Γ (.Name x p) elt ms vs (ms.map f) pF
 |[],vs,h,H=>⟨vs,h,J,J⟩
 |m::ms,vs,h,H=>by obtain⟨pF,h2,ih⟩:=BV (p:=p) R f hx hR ms (aG vs x (.v m)) (hR vs m h) λvs' m' hm' h'=>H vs' m' (.tail _ hm') h';exact⟨pF,h2,aG vs x (.v m),f m,ms.map f,λDo=>cH (hx Do),H vs m (.head _) h,J,ih⟩
theorem BW{C:Cx}{Γ:Gm}{x1 x2:Str}{i2 elt:Expr}{p1 p2:Pos}(R0:aC->Prop)(R1:MV->aC->Prop)(f:MV->MV->MV)(ms2:acw)(hl:ms2.length<=30)(hx1:∀Do,rG (cz Γ Do) x1)(XS:∀Do,rG (cz Γ Do) x2)
 (h01:∀vs m,R0 vs->R1 m (aG vs x1 (.v m))) (h11:∀vs m m2,R1 m vs->R1 m (aG vs x2 (.v m2))) (XT:∀vs m,R1 m vs->R0 vs):∀(ms:acw)(vs:aC),R0 vs->
 (∀vs m,m∈ms->R1 m vs->∀Do,rR C (cz Γ Do) vs i2 false ms2)->(∀vs m m2,m∈ms->m2∈ms2->R1 m vs->∀Do,Ev C (cz Γ Do) (aG vs x2 (.v m2)) elt (f m m2))->O2 C Γ (.Name x1 p1) i2 (.Name x2 p2) elt ms vs (ms.flatMap λm=>ms2.map (f m)):=by
 intro ll
 induction ll with
 |nil=>
  intro vs h HI HE;exact J
 |cons m ms ih=>
  intro vs h HI HE;obtain⟨pF,hv,hc⟩:=BV (C:=C) (Γ:=Γ) (elt:=elt) (p:=p2) (R1 m) (f m) XS (λvs m2 h=>h11 vs m m2 h) ms2 (aG vs x1 (.v m)) (h01 vs m h) λvs m2 hm2 h=>HE vs m m2 (.head _) hm2 h;exact⟨aG vs x1 (.v m),false,ms2,ms2.map (f m),pF,ms.flatMap λm=>ms2.map (f m),λDo=>cH (hx1 Do),HI _ m (.head _) (h01 vs m h),(λq=>nomatch q),hl,hc,by exact rl (aai ..) hl,by exact rl List.flatMap_cons J,
   ih pF (XT _ _ hv) (λvs m' hm'=>HI vs m' (.tail _ hm')) (λvs m' m2 hm' hm2=>HE vs m' m2 (.tail _ hm') hm2)⟩
noncomputable def Mn(rA rB:Rows)(tA tB:Bool)(M N:Nat):List Bool:=(List.range M).flatMap λi=>(List.range N).map λj=>decide (cN rA tA i j=cN rB tB i j)
noncomputable def SW(rA rB:Rows)(tA tB:Bool)(m m2:MV):MV:=.bool (decide (cN rA tA (natOf m) (natOf m2)=cN rB tB (natOf m) (natOf m2)))
theorem BY(rA rB:Rows)(tA tB:Bool)(M N:Nat):((bz 0 M).flatMap λm=>(bz 0 N).map (SW rA rB tA tB m))=(Mn rA rB tA tB M N).map .bool:=by unfold Mn bz;rw[List.flatMap_map,List.map_flatMap];congr 1;funext i;simp only[List.map_map];refine aaz λj _=>?_;simp only[Function.comp_def,SW,jM]
noncomputable def BN(rA rB:Rows)(tA tB:Bool)(mA nA mB nB:Nat):Bool:=if dm mA nA tA=dm mB nB tB/\dn mA nA tA=dn mB nB tB then(Mn rA rB tA tB (dm mA nA tA) (dn mA nA tA)).all id else false
theorem yK{n n':Nat}{P:MV->MV->Prop}(H:∀i j:Nat,i<n->j<n'->P (.int i) (.int j)):∀m m2,m∈bz 0 n->m2∈bz 0 n'->P m m2:=λm m2 h h'=>c_ (P:=λm=>P m m2) (λi hi=>c_ (P:=P (.int i)) (λj hj=>H i j hi hj) m2 h') m h
theorem kY{a b c d:Nat}(h:¬(a=c/\b=d)):decide (((a:Int),(b:Int))≠((c:Int),(d:Int)))=true:=by simp only[ne_eq,Prod.mk.injEq,decide_eq_true_eq];intro q;exact h ⟨by exact PK q,by exact Uw q⟩
theorem Rb{C:Cx}(S:G3 C kN)(X:Ni C){k:Nat}(mo ri:MV)(Rc:∃r? q nn,ri=ay kN.CR r? q nn)(rA rB:Rows)(tA tB:Bool)(mA nA mB nB:Nat)(hA:Shape rA mA nA)(hB:Shape rB mB nB)(h30:nA<=30/\mA<=30) :
 bJ C (k+12) (.ref (kN.a 30)) [fT kN.CM kN.CP mo ri rA tA,fT kN.CM kN.CP mo ri rB tB] [] (.bool (BN rA rB tA tB mA nA mB nB)):=by
 obtain⟨oc,od,kJ,kV,doc,pm,an,bh,ct,ho,h_⟩:=X.BN.at_;obtain⟨r?,q,nn,rfl⟩:=Rc;refine fJ (bs:=[("self",fT kN.CM kN.CP mo (ay kN.CR r? q nn) rA tA),("other",fT kN.CM kN.CP mo (ay kN.CR r? q nn) rB tB)]) ho h_ (fh J) (by rfl) λL D=>?_
 .have cd:=fS (C:=C) (k:=k+10) (dm mA nA tA) (dn mA nA tA) (dm mB nB tB) (dn mB nB tB)
  have pd:=fL S.o (k:=k+9) mo (ay kN.CR r? q nn) rA tA mA nA hA;have pQ:=fL S.o (k:=k+9) mo (ay kN.CR r? q nn) rB tB mB nB hB;by_cases hd:dm mA nA tA=dm mB nB tB/\dn mA nA tA=dn mB nB tB
  .replace cd:=(nH hd.1 hd.2)▸cd
   have d9:=hA.d9 tA;have EA:dm mA nA tA<=30/\dn mA nA tA<=30:=by unfold dm dn;cases tA<;>simp<;>omega
   refine rl (show BN rA rB tA tB mA nA mB nB=(Mn rA rB tA tB (dm mA nA tA) (dn mA nA tA)).all id from aaN hd) ?_;refine aQ (bq (bw (b:=false) (bl (ao J) S.o.d_ J ak pd J) (bl (ao J) S.o.d_ J ak pQ J) cd) aJ) ?_;refine aQ (cy (bl (ao J) S.o.d_ J ak pd J) (gc (az J) (az J)) J J) ?_;let R0:aC->Prop:=λvs=>vs.lookup ("self":Str)=some (.v (fT kN.CM kN.CP mo (ay kN.CR r? q nn) rA tA))/\vs.lookup ("other":Str)=some (.v (fT kN.CM kN.CP mo (ay kN.CR r? q nn) rB tB))/\vs.lookup ("n":Str)=some (.v (.int (dn mA nA tA)));let R1:MV->aC->Prop:=λm vs=>R0 vs/\vs.lookup ("i":Str)=some (.v m);have h01:∀vs m,R0 vs->R1 m (aG vs "i" (.v m)):=λvs m bI=>by obtain⟨r1,r2,r3⟩:=bI;exact⟨⟨(au vs "i" _ _).trans r1,(au vs "i" _ _).trans r2,(au vs "i" _ _).trans r3⟩,au vs "i" _ _⟩
   have h11:∀vs m m2,R1 m vs->R1 m (aG vs "j" (.v m2)):=λvs m m2 bI=>by obtain⟨⟨r1,r2,r3⟩,r4⟩:=bI;exact⟨⟨(au vs "j" _ _).trans r1,(au vs "j" _ _).trans r2,(au vs "j" _ _).trans r3⟩,(au vs "j" _ _).trans r4⟩
   refine bB (wu (k:=k+7) (aM S.o.BF Boot.«all» rfl) (LX.toB (s8 (pq (out:=(Mn rA rB tA tB (dm mA nA tA) (dn mA nA tA)).map .bool) (rR.toC (eo (dH (aM S.o.b8 Boot.«range» rfl) (aj (ao J) ak)) d9.1)) (λL' Do=>kL.two (BY rA rB tA tB _ _▸BW R0 R1 (SW rA rB tA tB) (bz 0 (dn mA nA tA)) (by simp[bz];exact EA.2) (λDo=>(az J)) (λDo=>(az J)) h01 h11 (λvs m h=>h.1) _ _ ⟨J,J,J⟩ (λvs m hm hR Do=>?_) (λvs=>?_)) (λq=>nomatch q) (by simp[bz];exact EA.1) (λ_=>rfl)) J J (aaj J) (λ_=>rfl)))) (by show k+7+3<=k+11;exact Ux))
   .exact eo (dH (aM S.o.b8 Boot.«range» rfl) (aj (cD J hR.1.2.2 J) ak)) d9.2
   .refine yK λi j hi hj hR Do=>?_
    obtain⟨⟨r1,r2,r3⟩,r4⟩:=h11 vs _ (.int (j:Int)) hR;have r5:(aG vs "j" (.v (.int j))).lookup ("j":Str)=some (.v (.int j)):=(au vs "j" (.v (.int (j:Int))) "j").trans (aaN J);exact kr (bP S.o.cT (cD J r1 J) (bW (aj (cD J r4 J) (aj (cD J r5 J) ak)) (aae J)) (cU S.o (k:=k) _ _ rA tA i j _ (hA.jI hi hj) (by exact Pe EA hi) (by exact Ss EA hj)) (by show k+2+1<=k+11;(first |exact Jj |exact Jk)) (λ_ _=>rfl)) (bP S.o.cT (cD J r2 J) (bW (aj (cD J r4 J) (aj (cD J r5 J) ak)) (aae J)) (cU S.o (k:=k) _ _ rB tB i j _ (hB.jI (by exact Su hd hi) (by exact Sv hd hj)) (by exact Pe EA hi) (by exact Ss EA hj)) (by show k+2+1<=k+11;(first |exact Jj |exact Jk)) (λ_ _=>rfl)) (o8 S.o.QH S.o.QI ((Q2 S.o (k:=k) r? r? q q nn nn _ _).mono (k':=k+11) (by(first |exact PL |exact PN))))
  .replace cd:=(kY hd)▸cd
   refine rl (show BN rA rB tA tB mA nA mB nB=false from aaD hd) ?_;exact fZ (c7 (bw (b:=true) (bl (ao J) S.o.d_ J ak pd J) (bl (ao J) S.o.d_ J ak pQ J) cd) (ir (jX lq) (by simp)))
theorem Rd{C:Cx}(S:G3 C dN)(X:Mf C){k:Nat}(mo ri:MV)(Rc:∃r? q nn,ri=ay dN.CR r? q nn)(rA rB:Rows)(tA tB:Bool)(mA nA mB nB:Nat)(hA:Shape rA mA nA)(hB:Shape rB mB nB)(h30:nA<=30/\mA<=30) :
 bJ C (k+12) (.ref (dN.a 30)) [fT dN.CM dN.CP mo ri rA tA,fT dN.CM dN.CP mo ri rB tB] [] (.bool (BN rA rB tA tB mA nA mB nB)):=by
 obtain⟨oc,od,kJ,kV,doc,pm,an,ct,ho,h_⟩:=X.BN.at_;obtain⟨P,hP⟩:=X.BN.tab;obtain⟨r?,q,nn,rfl⟩:=Rc;refine fJ (bs:=[("self",fT dN.CM dN.CP mo (ay dN.CR r? q nn) rA tA),("other",fT dN.CM dN.CP mo (ay dN.CR r? q nn) rB tB)]) ho h_ (fh J) (by rfl) λL D=>?_
 .have cd:=fS (C:=C) (k:=k+10) (dm mA nA tA) (dn mA nA tA) (dm mB nB tB) (dn mB nB tB)
  have pd:=fL S.o (k:=k+9) mo (ay dN.CR r? q nn) rA tA mA nA hA;have pQ:=fL S.o (k:=k+9) mo (ay dN.CR r? q nn) rB tB mB nB hB;by_cases hd:dm mA nA tA=dm mB nB tB/\dn mA nA tA=dn mB nB tB
  .replace cd:=(nH hd.1 hd.2)▸cd
   have d9:=hA.d9 tA;have EA:dm mA nA tA<=30/\dn mA nA tA<=30:=by unfold dm dn;cases tA<;>simp<;>omega
   refine rl (show BN rA rB tA tB mA nA mB nB=(Mn rA rB tA tB (dm mA nA tA) (dn mA nA tA)).all id from aaN hd) ?_;refine aQ (bq (bw (b:=false) (bl (ao J) S.o.d_ J ak pd J) (bl (ao J) S.o.d_ J ak pQ J) cd) aJ) ?_;refine aQ (cy (bl (ao J) S.o.d_ J ak pd J) (gc (az J) (az J)) J J) ?_;let R0:aC->Prop:=λvs=>vs.lookup ("self":Str)=some (.v (fT dN.CM dN.CP mo (ay dN.CR r? q nn) rA tA))/\vs.lookup ("other":Str)=some (.v (fT dN.CM dN.CP mo (ay dN.CR r? q nn) rB tB))/\vs.lookup ("n":Str)=some (.v (.int (dn mA nA tA)));let R1:MV->aC->Prop:=λm vs=>R0 vs/\vs.lookup ("i":Str)=some (.v m);have h01:∀vs m,R0 vs->R1 m (aG vs "i" (.v m)):=λvs m bI=>by obtain⟨r1,r2,r3⟩:=bI;exact⟨⟨(au vs "i" _ _).trans r1,(au vs "i" _ _).trans r2,(au vs "i" _ _).trans r3⟩,au vs "i" _ _⟩
   have h11:∀vs m m2,R1 m vs->R1 m (aG vs "j" (.v m2)):=λvs m m2 bI=>by obtain⟨⟨r1,r2,r3⟩,r4⟩:=bI;exact⟨⟨(au vs "j" _ _).trans r1,(au vs "j" _ _).trans r2,(au vs "j" _ _).trans r3⟩,(au vs "j" _ _).trans r4⟩
   refine bB (wu (k:=k+8) (aM S.o.BF Boot.«all» rfl) (GD (k:=k+7) (P:=P) (eo (dH (aM S.o.b8 Boot.«range» rfl) (aj (ao J) ak)) d9.1) (λL' code=>(BY rA rB tA tB _ _▸BW R0 R1 (SW rA rB tA tB) (bz 0 (dn mA nA tA)) (by simp[bz];exact EA.2) (λDo=>(az J)) (λDo=>(az J)) h01 h11 (λvs m h=>h.1) _ _ ⟨J,J,J⟩ (λvs m hm hR Do=>?_) (λvs=>?_))) (λ_ _ _=>rfl) (λq=>nomatch q) J J (aaj J) (λ_=>rfl) J J J J hP) (by show k+8+3<=k+11;omega))
   .exact eo (dH (aM S.o.b8 Boot.«range» rfl) (aj (cD J hR.1.2.2 J) ak)) d9.2
   .refine yK λi j hi hj hR Do=>?_
    obtain⟨⟨r1,r2,r3⟩,r4⟩:=h11 vs _ (.int (j:Int)) hR;have r5:(aG vs "j" (.v (.int j))).lookup ("j":Str)=some (.v (.int j)):=(au vs "j" (.v (.int (j:Int))) "j").trans (aaN J);exact kr (bP S.o.cT (cD J r1 J) (bW (aj (cD J r4 J) (aj (cD J r5 J) ak)) (aae J)) (cU S.o (k:=k) _ _ rA tA i j _ (hA.jI hi hj) (by exact Pe EA hi) (by exact Ss EA hj)) (by show k+2+1<=k+7;(first |exact Jj |exact Jk)) (λ_ _=>rfl)) (bP S.o.cT (cD J r2 J) (bW (aj (cD J r4 J) (aj (cD J r5 J) ak)) (aae J)) (cU S.o (k:=k) _ _ rB tB i j _ (hB.jI (by exact Su hd hi) (by exact Sv hd hj)) (by exact Pe EA hi) (by exact Ss EA hj)) (by show k+2+1<=k+7;(first |exact Jj |exact Jk)) (λ_ _=>rfl)) (o8 S.o.QH S.o.QI ((Q3 S.o (k:=k) r? r? q q nn nn _ _).mono (k':=k+7) (by(first |exact PL |exact PN))))
  .replace cd:=(kY hd)▸cd
   refine rl (show BN rA rB tA tB mA nA mB nB=false from aaD hd) ?_;exact fZ (c7 (bw (b:=true) (bl (ao J) S.o.d_ J ak pd J) (bl (ao J) S.o.d_ J ak pQ J) cd) (ir (jX lq) (by simp)))
noncomputable def frs(l:List Env):acq:=l.filterMap (·.frame)
noncomputable def iC(C:Cx)(l:List Env)(h:Heap):Prop:=∀env∈l,env.scope.kind≠.module/\∃L o,env.frame=some L/\h.get? L=some o/\(∃es ep,o.data = .dict es ep)/\C.H.objs.size<=L
theorem oN{o:Obj}(h:∃es ep,o.data = .dict es ep):∀vs,o.data≠.fields vs:=λvs q=>by obtain⟨es,ep,e⟩:=h;replace q:=e▸q;cases q
structure Ks(C:Cx)(l:List Env)(X:String)(e:Addr)(s s':Shared):Prop where
 Mp:∃base a0,Heap.FlyingW base l e (.type X) a0 s'.heap/\(∀b o,s.heap.get? b=some o->b∉C.tabs->b∉frs l->base.get? b=some o)/\(∀q∈C.T,qm base q)
 size:s.heap.objs.size<=s'.heap.objs.size
 slots:∀L∈frs l,∀o,s.heap.get? L=some o->∃sl,s'.heap.get? L=some {o with slots:=sl}
 gens:∀(g:Nat)(x:GenState),s.gens[g]?=some x->s'.gens[g]?=some x
 inv:Inv C s'
noncomputable def fj(C:Cx)(k:Nat)(f:Value)(args:acw)(X:String):Prop:=
 ∀A s D vals l,Good k A->Inv C s->lg C D s.heap->bD s.heap D vals args->A.frames=some l->iC C l s.heap->codeAny (model P0 C.w) A (.call f ⟨vals,[]⟩) (λr s'=>∃e,r = .error (.ref e)/\Ks C l X e s s') s
inductive ZM(C:Cx)(Γ:Gm)(W:acq)(s:Shared)(X:String)(x:Value)(s':Shared):Prop
 |mk (av:Shared) (h':Heap) (e:Addr) (args:acp):x = .ref e->bL C W s av->Inv C av->(∃m,av.heap.Ns Γ.env.locals m)->Heap.MadeExc av.heap h' e X args->s'={av with heap:=h'}->ZM C Γ W s X x s'
inductive ZN(C:Cx)(W:acq)(s:Shared)(l:List Env)(X:String)(x:Value)(s':Shared):Prop
 |mk (e:Addr) (aq:Shared):x = .ref e->bL C W s aq->Ks C l X e aq s'->ZN C W s l X x s'
noncomputable def qY(C:Cx)(Γ:Gm)(vs:aC)(ss:acr)(X:String):Prop:=
 ∀A s W,Good Γ.k A->Inv C s->Fm C Γ W s.heap vs->wpAny (model P0 C.w) A (execs ss Γ.env) (λ_ _=>False)
  (ZM C Γ W s X) s
noncomputable def BZ(C:Cx)(Γ:Gm)(vs:aC)(ss:acr)(X:String):Prop:=
 ∀A s W l,Good Γ.k A->Inv C s->Fm C Γ W s.heap vs->A.frames=some l->iC C l s.heap->wpAny (model P0 C.w) A (execs ss Γ.env) (λ_ _=>False)
  (ZN C W s l X) s
section
variable{C:Cx}{Γ:Gm}{W D:acq}{s s' aq av:Shared}{vs:aC}{A:Around}{E:ach}{e:Expr}{v m:MV}{k:Nat}{l:List Env}{X:String}{h h' base:Heap}
theorem iC.lo(x:iC C l h){L:Addr}(hL:L∈frs l):C.H.objs.size<=L/\∃o,h.get? L=some o/\∀vs,o.data≠.fields vs:=by refine nb λnn=>?_;obtain⟨env,he,hf⟩:=List.mem_filterMap.mp hL;obtain⟨_,L',o,h1,h2,h3,h4⟩:=x env he;rw[hf] at h1;obtain rfl:=aax h1;exact nn<|⟨h4,o,h2,oN h3⟩
theorem iC.XU:∀{l:List Env},iC C l h->(∀L∈frs l,base.get? L=none)->h.FunFrames base l:=by
 intro ll
 induction ll with
 |nil=>
  intro _ _;exact trivial
 |cons env l ih=>
  intro x hb;obtain⟨h1,L,o,h2,h3,h4,h5⟩:=x env (.head _);have e:frs (env::l)=L::frs l:=by simp[frs,h2]
  exact⟨h1,⟨L,o,h2,hb L (by exact rl e ((.head _))),h3,oN h4⟩,ih (λenv' he=>x env' (.tail _ he)) λL' hL'=>hb L' (by exact rl e ((.tail _ hL')))⟩
theorem iC.kept(x:iC C l h)(hk:∀L∈frs l,∀o,h.get? L=some o->∃sl,h'.get? L=some {o with slots:=sl}):iC C l h':=λenv he=>by refine nb λnn=>?_;obtain⟨h1,L,o,h2,h3,h4,h5⟩:=x env he;obtain⟨sl,h6⟩:=hk L (List.mem_filterMap.mpr ⟨env,he,h2⟩) o h3;exact nn<|⟨h1,L,_,h2,h6,h4,h5⟩
theorem iC.dJ(x:iC C l s.heap)(I:Inv C s)(t:bL C W s s')(hW:∀L∈frs l,L∉W):iC C l s'.heap:=
 x.kept λL hL o ho=>⟨o.slots,t.keep L o (λq=>(aag.mp q).elim (hW L hL) (aX I (x.lo hL).1)) ho⟩
theorem Au(x:iC C l s.heap):∀L∈frs l,L<s.heap.objs.size:=λL hL=>by obtain⟨_,o,ho,_⟩:=x.lo hL;exact aaB ho
theorem Av(ok:MJ C)(hb:base.StaysIn h')(old:Kept C.tabs C.H base)(tab:∀q∈C.T,qm base q)(hs:C.H.objs.size<=h'.objs.size)(hbare:AllBare s.gens)(hos:s.os=C.os):Inv C {s with heap:=h'}:=
 ⟨ok,hs,λb o hb' e=>hb b o (old b o hb' e),λq hq=>(tab q hq).move (λo=>hb _ o) λo=>hb _ o,hbare,hos⟩
theorem vt(I:Inv C s){F:acq}(hF:∀L∈F,∀o,s.heap.get? L=some o->∀vs,o.data≠.fields vs):∀q∈C.T,qm (hideAll s.heap F) q:=λq hq=>by obtain⟨o,vs,ps,t1,_,t2,t3⟩:=(I.tab q hq).objs;exact(I.tab q hq).move (λo' e=>hideAll_get _ e λz=>hF _ z _ t1 _ t2) λo' e=>hideAll_get _ e λz=>hF _ z _ t3 _ J
theorem tN{name qual:Str}{params:Arguments}{body:acr}{scope:Scope}{dV kV doc pm bh ct oc:Value}{an od:acn}{kJ:Array (Option Value)}{f:Addr}{args:acw}{bs:acj}
 (ho:C.K.lookup f=some ⟨oc,od,.func (fnOf name qual params body scope dV kV doc pm an bh ct),kJ⟩) (h_:codeIn C.K bh qual=true)
 (hb:Binds C (fnOf name qual params body scope dV kV doc pm an bh ct) args [] bs) (hs:gw scope (bs.map (·.1))=true)
 (H:∀(A:Around)(s:Shared)(D:acq)(vals:acp)(l:List Env)(L:Addr)(s':Shared)(W:acq),Good k (A.deeper (envOfC qual scope L f bh))->Inv C s->Inv C s'->Fm C (gF k qual scope L f bh D) W s'.heap (dX bs)->bL C [] s s'->(∀d∈W,s.heap.objs.size<=d)->A.frames=some l->iC C l s.heap->L=s.heap.objs.size->
  wpAny (model P0 C.w) (A.deeper (envOfC qual scope L f bh)) (execs body (envOfC qual scope L f bh)) (λ_ _=>False) (λx av=>wpAny (model P0 C.w) (A.deeper (envOfC qual scope L f bh)) (leaving (envOfC qual scope L f bh) x) (λ_ gp=>∃e,x = .ref e/\(s.heap.objs.size<=gp.heap.objs.size->Ks C l X e s gp)) ig av) s'):fj C (k+1) (.ref f) args X:=λA s D vals l G I dk ds j9 eN=>by
 obtain⟨binds,Ex,db⟩:=hb s D vals [] I ds .nil;refine v_ (R:=λr s'=>∃e,r = .error (.ref e)/\(s.heap.objs.size<=s'.heap.objs.size->Ks C l X e s s')) ?_ λr s' hsz bI=>by obtain⟨e,h1,h2⟩:=bI;exact⟨e,h1,h2 hsz⟩
 refine qo (Wx:=[]) G I dk.tabs dk.hi ho h_ Ex db.toV n0 .EW (by simpa [dX,Function.comp_def] using hs) λL s' W hL G' I' F t hW=>?_;exact aaQ (H A s D vals l L s' W G' I I' F t (λd hd=>(hW d hd).elim (λq=>nomatch q) id) j9 eN hL) (λ_ _ x=>x.elim) λx av h₂=>aaQ h₂ (λ_ gp bI=>by obtain⟨e,h1,h3⟩:=bI;exact⟨e,by exact rl h1 J,h3⟩) λ_ _ x=>x.elim
theorem tP{name qual:Str}{params:Arguments}{body:acr}{scope:Scope}{dV kV doc pm bh ct oc:Value}{an od:acn}{kJ:Array (Option Value)}{f:Addr}{args:acw}{bs:acj}
 (ho:C.K.lookup f=some ⟨oc,od,.func (fnOf name qual params body scope dV kV doc pm an bh ct),kJ⟩) (h_:codeIn C.K bh qual=true)
 (hb:Binds C (fnOf name qual params body scope dV kV doc pm an bh ct) args [] bs) (hs:gw scope (bs.map (·.1))=true)
 (H:∀L D,qY C (gF k qual scope L f bh D) (dX bs) body X):fj C (k+1) (.ref f) args X:=by
 refine tN ho h_ hb hs λA s D vals l L s' W G I I' F t hW j9 eN hL=>?_;refine aaQ (H L D _ s' W G I' F) (λ_ _ x=>x) ?_;rintro x bH ⟨av,h',e,args',rfl,aY,bu,⟨mm,hns⟩,hx,rfl⟩;have hk:scope.kind = .function:=F.kind;have GF:bL C [] s av:=t.trans aY n0 λd hd=>.inr (hW d hd);have GG:iC C l av.heap:=eN.dJ I GF (λ_ _ q=>nomatch q);have SX:∃o,av.heap.get? L=some o/\∃es ep,o.data = .dict es ep:=by refine nb λnn=>?_;obtain⟨o,es,ep,ho,hd,_⟩:=hns;exact nn<|⟨o,ho,es,ep,hd⟩
 have hfo:∀L'∈L::frs l,∀o,av.heap.get? L'=some o->∀vs,o.data≠.fields vs:=λL' hL' o ho vs q=>by
  rcases aap.mp hL' with z |z
  .obtain⟨o',h1,h2⟩:=SX
   rw[z,h1] at ho;obtain rfl:=aax ho;exact oN h2 vs q
  .obtain⟨_,o',h1,h2⟩:=GG.lo z
   rw[h1] at ho;obtain rfl:=aax ho;exact h2 vs q
 have XW:iC C (envOfC qual scope L f bh::l) av.heap:=λenv he=>by
  refine nb λnn=>?_;rcases aap.mp he with rfl |he
  .obtain⟨o,h1,h2⟩:=SX
   exact nn<|⟨by show scope.kind≠.module;rw[hk];decide,L,o,J,h1,h2,by rw[hL];exact I.size⟩
  .exact nn<|GG env he
 refine wpAny_leaves_madeW (base:=hideAll av.heap (L::frs l)) (h:=av.heap) (outer:=l) (cls:=.type X) (by show Option.map _ A.frames=_;rw[j9];rfl) J (λb o q=>of_hideAll _ q) (XW.XU λL' hL'=>hideAll_none _ (by simpa [frs,envOfC] using hL')) (Heap.MadeExc.of hx) λh'' tt hfl htup Ex hup=>⟨e,J,λhsz=>?_⟩;have fl:∀b,b∈frs l->b<s.heap.objs.size:=λb hb=>Au eN b hb;refine⟨⟨_,.ref tt,hfl,λb o hb ht hf=>hideAll_get _ (GF.keep b o (by simpa using ht) hb) λq=>?_,vt bu hfo⟩,hsz,λL' hL' o ho=>?_,λg x hg=>aY.gens g x (t.gens g x hg),?_⟩
 .rcases aap.mp q with z |z
  .rw[z,hL] at hb;exact absurd (aaB hb) (aa8 _)
  .exact hf z
 .refine nb λnn=>?_
  obtain⟨c1,o',h1,h2⟩:=eN.lo hL';rw[h1] at ho;obtain rfl:=aax ho;have e2:=hx.keeps L' _ (GF.keep L' _ (λq=>(aag.mp q).elim (λq=>nomatch q) (aX I c1)) h1);exact nn<|hup L' _ e2 h2
 .refine Av (s:={av with heap:=h'}) I.ok hfl.1 (λb o hb ht=>?_) (vt bu hfo) (aaf I.size hsz) bu.bare bu.os
  refine hideAll_get _ (bu.old b o hb ht) λq=>?_;have lt:=aaB ht;rcases aap.mp q with z |z
  .rw[z,hL] at lt;exact absurd lt (aaw.mpr I.size)
  .exact absurd lt (aaw.mpr (eN.lo z).1)
theorem Aw{name qual:Str}{params:Arguments}{body:acr}{scope:Scope}{dV kV doc pm bh ct oc:Value}{an od:acn}{kJ:Array (Option Value)}{f:Addr}{args:acw}{bs:acj}
 (ho:C.K.lookup f=some ⟨oc,od,.func (fnOf name qual params body scope dV kV doc pm an bh ct),kJ⟩) (h_:codeIn C.K bh qual=true)
 (hb:Binds C (fnOf name qual params body scope dV kV doc pm an bh ct) args [] bs) (hs:gw scope (bs.map (·.1))=true)
 (H:∀L D,BZ C (gF k qual scope L f bh D) (dX bs) body X):fj C (k+1) (.ref f) args X:=by
 refine tN ho h_ hb hs λA s D vals l L s' W G I I' F t hW j9 eN hL=>?_;have hk:scope.kind = .function:=F.kind;have SX:∃o,s'.heap.get? L=some o/\∃es ep,o.data = .dict es ep:=by refine nb λnn=>?_;obtain⟨m,hn,_⟩:=F.ns;obtain⟨o,es,ep,ho,hd,_⟩:=hn;exact nn<|⟨o,ho,es,ep,hd⟩
 have z8:iC C (envOfC qual scope L f bh::l) s'.heap:=λenv he=>by
  rcases aap.mp he with rfl |he
  .obtain⟨o,h1,h2⟩:=SX
   exact⟨by show scope.kind≠.module;refine rl hk ?_;decide,L,o,J,h1,h2,by exact rl hL (I.size)⟩
  .exact eN.dJ I t (λ_ _ q=>nomatch q) env he
 refine aaQ (H L D _ s' W (envOfC qual scope L f bh::l) G I' F (by show Option.map _ A.frames=_;refine rl j9 ?_;rfl) z8) (λ_ _ x=>x) ?_;rintro x bH ⟨e,aq,rfl,a_,y⟩;refine nb λnn=>?_;obtain⟨base,a0,hfl,hb1,hb2⟩:=y.Mp;have B0:bL C [] s aq:=t.trans a_ n0 λd hd=>.inr (hW d hd);have fE:frs (envOfC qual scope L f bh::l)=L::frs l:=rfl;refine nn<|wpAny_leaves_onW (A:=A.deeper (envOfC qual scope L f bh)) (by show Option.map _ A.frames=_;refine rl j9 ?_;rfl) J hfl λh'' Rf hup=>⟨e,J,λhsz=>?_⟩
 refine⟨⟨base,a0,Rf,λb o hb ht hf=>hb1 b o (B0.keep b o (by simpa using ht) hb) ht λq=>?_,hb2⟩,hsz,λL' hL' o ho=>?_,λg x hg=>y.gens g x (B0.gens g x hg),?_⟩
 .replace q:=fE▸q
  refine nb λnn=>?_;rcases aap.mp q with z |z
  .replace hb:=z▸hb;replace hb:=hL▸hb;exact absurd (aaB hb) (aa8 _)
  .exact nn<|hf z
 .refine nb λnn=>?_
  obtain⟨c1,o',h1,h2⟩:=eN.lo hL';replace ho:=h1▸ho;cases ho;obtain⟨sl,h3⟩:=y.slots L' (by exact rl fE ((.tail _ hL'))) _ (B0.keep L' _ (λq=>(aag.mp q).elim (λq=>nomatch q) (aX I c1)) h1);obtain⟨Rg,h4⟩:=hup L' {o with slots:=sl} h3 h2;exact nn<|⟨Rg,h4⟩
 .refine Av (s:=bH) I.ok Rf.1 (λb o hb ht=>?_) hb2 (aaf I.size hsz) y.inv.bare y.inv.os
  have e1:=I.old b o hb ht;refine hb1 b o (B0.keep b o (by simpa using hb) e1) hb λq=>?_;have lt:=aaB ht;replace q:=fE▸q;rcases aap.mp q with z |z
  .replace lt:=z▸lt;replace lt:=hL▸lt;exact absurd lt (aaw.mpr I.size)
  .exact absurd lt (aaw.mpr (eN.lo z).1)
end
noncomputable def B3(C:Cx)(k:Nat)(op:Operator)(m₁ m₂:MV)(X:String):Prop:=
 ∀A s D a b l,Good k A->Inv C s->lg C D s.heap->Den s.heap D a m₁->Den s.heap D b m₂->A.frames=some l->iC C l s.heap->wpAny (model P0 C.w) A (binaryOp op a b) (λ_ _=>False) (λx s'=>∃e,x = .ref e/\Ks C l X e s s') s
noncomputable def Ax(C:Cx)(k:Nat)(op:Operator)(m₁ m₂:MV)(X:String):Prop:=
 ∀A s D a b l,Good k A->Inv C s->lg C D s.heap->Den s.heap D a m₁->Den s.heap D b m₂->A.frames=some l->iC C l s.heap->wpAny (model P0 C.w) A (inplaceOp op a b) (λ_ _=>False) (λx s'=>∃e,x = .ref e/\Ks C l X e s s') s
section
variable{C:Cx}{Γ:Gm}{W D:acq}{s s' aq av:Shared}{vs vs':aC}{A:Around}{E:ach}{e:Expr}{v m m₁ m₂:MV}{k:Nat}{l:List Env}{X:String}{h h' base:Heap}{st:Stmt}{ss:acr}{x? y?:acn}{Cc rJ f:Addr}{fs gs:acj}{op:Operator}{x:Str}
theorem tQ{f:Value}{vals:acp}{args:acw}{Q:ach}(H:fj C k f args X)(G:Good k A)(I:Inv C s)(dk:lg C D s.heap)(d:bD s.heap D vals args)(j9:A.frames=some l)(eN:iC C l s.heap) :
 wpAny (model P0 C.w) A (call f vals) Q (λx s'=>∃e,x = .ref e/\Ks C l X e s s') s:=
 wpAny_call (abm (H A s D vals l G I dk d j9 eN) λr s' bI=>by obtain⟨e,h1,h2⟩:=bI;subst h1;exact⟨e,J,h2⟩)
theorem eZ(M:Meth C Cc (PySem.dunder op.info.2) f)(K:EY C Cc)(H:fj C k (.ref f) [.inst x? Cc fs,.inst y? Cc gs] X):B3 C k op (.inst x? Cc fs) (.inst y? Cc gs) X:=λA s D a b l G I dk bx bG j9 eN=>by
 refine nb λnn=>?_;obtain⟨L,m,F,X⟩:=dk.frame I;have d1:=bx;have d2:=bG;cases bx.eU with
 |mk x dx es n vals ex hi nx nd df=>
  cases bG.eU with
  |mk y dy es' n' vals' ey hj ny ne LS=>exact nn<|binop_K F X hi.at (InstAt.type hj.at) K.first M.find M.fn (tQ H G I dk (.cons d1 (.cons d2 .nil)) j9 eN)
theorem nI(M:Meth C Cc (dunderI op.info.2) f)(K:EY C Cc)(H:fj C k (.ref f) [.inst x? Cc fs,.inst y? Cc gs] X):Ax C k op (.inst x? Cc fs) (.inst y? Cc gs) X:=λA s D a b l G I dk bx bG j9 eN=>by
 refine nb λnn=>?_;obtain⟨L,m,F,X⟩:=dk.frame I;have d1:=bx;have d2:=bG;cases bx.eU with
 |mk x dx es n vals ex hi nx nd df=>
  cases bG.eU with
  |mk y dy es' n' vals' ey hj ny ne LS=>exact nn<|ksp_inplace F X hi.at K.first M.find M.fn (tQ H G I dk (.cons d1 (.cons d2 .nil)) j9 eN)
theorem jS(M:Meth C Cc (PySem.dunder op.info.2) f)(K:EY C Cc)(K':EY C rJ)(aa:ym C Cc rJ op)(H:fj C k (.ref f) [.inst x? Cc fs,.inst y? rJ gs] X):B3 C k op (.inst x? Cc fs) (.inst y? rJ gs) X:=λA s D a b l G I dk bx bG j9 eN=>by
 have d1:=bx;have d2:=bG;refine nb λnn=>?_;cases bx.eU with
 |mk x dx es n vals ex hi nx nd df=>
  cases bG.eU with
  |mk y dy es' n' vals' ey hj ny ne LS=>
   obtain⟨cd,rest,h_,hm⟩:=ksp_first K.first;obtain⟨cd',rest',XX,hm'⟩:=ksp_first K'.first;have X:=I.om;obtain⟨g,ho⟩:=aa.own;have hs:=M.find;have hr:=aa.r;have hr':=aa.r';have one:∀{Q:Option Value->Shared->Prop},wpAny (model P0 C.w) A (tryMethod (.ref x) (PySem.dunder op.info.2) (.ref y)) Q (λx s'=>∃e,x = .ref e/\Ks C l _ e s s') s:=λ{Q}=>
    aaQ (ksp_try (Q:=λ_ _=>False) X hi.at M.find M.fn (aaQ (tQ (Q:=λ_ _=>False) H G I dk (.cons d1 (.cons d2 .nil)) j9 eN) (λ_ _ q=>q.elim) λ_ _ e=>e)) (λ_ _ bI=>by obtain⟨_,_,q⟩:=bI;exact q.elim) λ_ _ e=>e
   exact nn<|yh (Qy hi.at.type hj.at.type (Bool.eq_false_iff.mpr λq=>by cases aa3.mp q;exact aa.ne J) (fills_K X h_ hm hs) (fills_K X XX hm' ho) (looks_subIn X aa.sub) (ksp_inPy X hs hr (.inl J)) (λ_=>ksp_inPy X ho hr' (.inl J)) one)
theorem bY(gE:gq C Γ vs st .next vs')(iI:qY C Γ vs' ss X):qY C Γ vs (st::ss) X:=λA s W G I F=>
 aas (cS (gE A s W G I F) λf aq bI=>by obtain⟨fP,h1,h2,aU,a_,aF⟩:=bI;cases Bg.ji h2;refine aaQ (iI A aq fP G aF aU) (λ_ _ x=>x) ?_;rintro x bH ⟨av,h',e,args,h3,aY,r1,r2,r3,r4⟩;exact⟨av,h',e,args,h3,a_.trans aY (λd q=>.inl q) h1,r1,r2,r3,r4⟩)
theorem cP{test:Expr}{body orelse:acr}{p:Pos}(T:Ts C Γ vs test true)(H:qY C Γ vs body X):qY C Γ vs (.If test body orelse p::ss) X:=λA s W G I F=>
 aas (wpAny_If (cS (T A s W G I F) λr aq bI=>by obtain⟨h1,h2,h3⟩:=bI;subst h1;refine aaQ (H A aq W G h3 (F.dJ I h2)) (λ_ _ x=>x.elim) ?_;rintro x bH ⟨av,h',e,args,h4,aY,r1,r2,r3,r4⟩;exact⟨av,h',e,args,h4,h2.up.trans aY (λd q=>.inl q) (λd q=>.inl q),r1,r2,r3,r4⟩))
theorem cu{id:Str}{np cpos pos:Pos}{args:acs}{ms:acw}{newId initId:String}(F':ExcCallFacts X newId initId)(R:ExcRaiseFacts X)(Hn:Ev C Γ vs (.Name id np) (.bZ (.type X)))(Ha:rP C Γ vs args ms)(hl:ms.length<=100) :
 qY C Γ vs (.Raise (some (.Call (.Name id np) args [] cpos)) none pos::ss) X:=λA s W G I F=>by
 refine aas (wpAny_Raise_call F' R G.handled (Ha.plain cpos) (Hn.use G I F λa aq bx a_ aF aU=>?_));cases bx;refine⟨J,Ha.args G aF aU λvals av bG aY bu=>⟨J,?_,λh' e hm=>?_⟩⟩
 .refine rl bG.length ?_;show ms.length<=sizeLine;rw[sizeLine];omega
 .obtain⟨m,hn,_⟩:=(aU.dJ aF aY).ns
  exact⟨av,h',e,vals,J,(a_.then aY).up,bu,⟨m,hn⟩,hm,J⟩
theorem vz{l r:Expr}{pos p:Pos}(gE:Ev C Γ vs l m₁)(iI:Ev C Γ vs r m₂)(H:B3 C Γ.k op m₁ m₂ X):BZ C Γ vs (.Return (some (.BinOp l op r pos)) p::ss) X:=λA s W lf G I F j9 eN=>
 aas (abX (wpAny_BinOp (gE.use G I F λa aq bx a_ aF aU=>iI.use G aF aU λb av bG aY bu bO=>
  aaQ (H A av _ a b lf G bu bO.mw (bx.dJ aF aY aU.cj) bG j9 (eN.dJ I (a_.then aY) λ_ _ q=>nomatch q)) (λ_ _ q=>q.elim) λx bH bI=>by obtain⟨e,h1,h2⟩:=bI;exact⟨e,av,h1,(a_.then aY).up,h2⟩)))
theorem pS{l r:Expr}{pos p p':Pos}{x:Str}(gE:Ev C Γ vs l m₁)(iI:Ev C Γ vs r m₂)(H:B3 C Γ.k op m₁ m₂ X):BZ C Γ vs (.Assign [.Name x p'] (.BinOp l op r pos) p::ss) X:=λA s W lf G I F j9 eN=>
 aas (ab_ (wpAny_BinOp (gE.use G I F λa aq bx a_ aF aU=>iI.use G aF aU λb av bG aY bu bO=>
  aaQ (H A av _ a b lf G bu bO.mw (bx.dJ aF aY aU.cj) bG j9 (eN.dJ I (a_.then aY) λ_ _ q=>nomatch q)) (λ_ _ q=>q.elim) λx bH bI=>by obtain⟨e,h1,h2⟩:=bI;exact⟨e,av,h1,(a_.then aY).up,h2⟩)) J)
end
section
variable{C:Cx}{k:Nat}{f c:Addr}{qual:Str}{X:String}{st:Stmt}{bs:acj}
theorem jF(F:FnAt C f qual .none st)(hs:gw (mq st) (bs.map (·.1))=true)
 (H:∀L D bh,qY C (gF k qual (mq st) L f bh D) (dX bs) (o5 st) X) (hp:yl (Eu st) (bs.map (·.1)):=by((repeat intro _);(show _=_);kernel_rfl)):fj C (k+1) (.ref f) (bs.map (·.2)) X:=by
 refine nb λnn=>?_;obtain⟨oc,od,kJ,kV,doc,pm,an,bh,ct,ho,h_⟩:=F.at_;exact nn<|tP ho h_ (fh J hp) hs λL D=>H L D bh
theorem qy(F:QC C f qual .none st c)(hs:gw (mq st) (bs.map (·.1))=true)
 (H:∀L D,qY C (gF k qual (mq st) L f (.ref c) D) (dX bs) (o5 st) X) (hp:yl (Eu st) (bs.map (·.1)):=by((repeat intro _);(show _=_);kernel_rfl)):fj C (k+1) (.ref f) (bs.map (·.2)) X:=by
 refine nb λnn=>?_;obtain⟨oc,od,kJ,kV,doc,pm,an,ct,ho,h_⟩:=F.at_;exact nn<|tP ho h_ (fh J hp) hs H
theorem wX(F:FnAt C f qual .none st)(hs:gw (mq st) (bs.map (·.1))=true)
 (H:∀L D bh,BZ C (gF k qual (mq st) L f bh D) (dX bs) (o5 st) X) (hp:yl (Eu st) (bs.map (·.1)):=by((repeat intro _);(show _=_);kernel_rfl)):fj C (k+1) (.ref f) (bs.map (·.2)) X:=by
 refine nb λnn=>?_;obtain⟨oc,od,kJ,kV,doc,pm,an,bh,ct,ho,h_⟩:=F.at_;exact nn<|Aw ho h_ (fh J hp) hs λL D=>H L D bh
end
theorem yL{C:Cx}(S:G3 C kN){k:Nat}(a:Addr)(ri:MV)(rA rB:Rows)(tA tB:Bool)(mA nA mB nB:Nat)(hA:Shape rA mA nA)(hB:Shape rB mB nB)(hd:¬(dm mA nA tA=dm mB nB tB/\dn mA nA tA=dn mB nB tB)) :
 fj C (k+5) (.ref (kN.a 31)) [mr kN (some a) ri rA tA,mr kN (some a) ri rB tB] "ValueError":=by
 refine jF (bs:=[("self",mr kN (some a) ri rA tA),("other",mr kN (some a) ri rB tB)]) S.o.yq J λL D bh=>?_
 .have cm:=cM (C:=C) (k:=k+4) (a:=a) (b:=a) S.o.mod S.o.mod (fs:=[("ring",ri)]) (gs:=[("ring",ri)])
  rw[aaH (λh=>h J)] at cm;have cd:=fS (C:=C) (k:=k+3) (dm mA nA tA) (dn mA nA tA) (dm mB nB tB) (dn mB nB tB);rw[kY hd] at cd;have pd:=fL S.o (k:=k+2) (cK kN.CO (some a) ri) ri rA tA mA nA hA;have pQ:=fL S.o (k:=k+2) (cK kN.CO (some a) ri) ri rB tB mB nB hB;refine bY (bq (cF (b:=true) (bN (m:=.bool true) (bU (aM S.o.aR Boot.«isinstance» rfl) (aj (ao J) (aj (bU (aM S.o.gf Boot.«type» rfl) (aj (ao J) ak) J eV) ak)) J (bR S.o.mC (λ_ _ _ q=>by cases q;exact S.o.iW) J (λ_ q=>nomatch q))) (bE true))) aJ) ?_;refine bY (bq (bw (b:=false) (aV (ao J) S.o.bA J J J) (aV (ao J) S.o.bA J J J) cm) aJ) ?_;exact cP (bw (b:=true) (bl (ao J) S.o.d_ J ak pd J) (bl (ao J) S.o.d_ J ak pQ J) cd) (cu abh abf (aM S.o.yt Boot.«ValueError» rfl) (aj fH ak) (aae J))
theorem GH{C:Cx}(S:G3 C kN){k:Nat}(mA:acj)(y? z?:acn)(gs:acj):fj C (k+3) (.ref (kN.a 31)) [.inst y? kN.CM mA,.inst z? kN.XM gs] "TypeError":=by
 refine jF (bs:=[("self",.inst y? kN.CM mA),("other",.inst z? kN.XM gs)]) S.o.yq J λL D bh=>?_
 .exact cP (cF (b:=false) (bN (m:=.bool false) (bU (aM S.o.aR Boot.«isinstance» rfl) (aj (ao J) (aj (bU (aM S.o.gf Boot.«type» rfl) (aj (ao J) ak) J eV) ak)) J (bR S.o.DC (λ_ _ _ q=>by cases q;exact S.o.u_) J (λ_ q=>nomatch q))) (bE false))) (cu aaR aaP (aM S.o.pN Boot.«TypeError» rfl) (aj fH ak) (aae J))
theorem GI{C:Cx}(S:G3 C kN){k:Nat}(a b:Addr)(hab:a≠b)(ri nV:MV)(rA rB:Rows)(tA tB:Bool):fj C (k+3) (.ref (kN.a 31)) [mr kN (some a) ri rA tA,mr kN (some b) nV rB tB] "TypeError":=by
 refine jF (bs:=[("self",mr kN (some a) ri rA tA),("other",mr kN (some b) nV rB tB)]) S.o.yq J λL D bh=>?_
 .have cm:=cM (C:=C) (k:=k+2) (a:=a) (b:=b) S.o.mod S.o.mod (fs:=[("ring",ri)]) (gs:=[("ring",nV)])
  rw[aaK hab] at cm;refine bY (bq (cF (b:=true) (bN (m:=.bool true) (bU (aM S.o.aR Boot.«isinstance» rfl) (aj (ao J) (aj (bU (aM S.o.gf Boot.«type» rfl) (aj (ao J) ak) J eV) ak)) J (bR S.o.mC (λ_ _ _ q=>by cases q;exact S.o.iW) J (λ_ q=>nomatch q))) (bE true))) aJ) ?_;exact cP (bw (b:=true) (aV (ao J) S.o.bA J J J) (aV (ao J) S.o.bA J J J) cm) (cu aaR aaP (aM S.o.pN Boot.«TypeError» rfl) (aj fH ak) (aae J))
theorem yM{C:Cx}(S:G3 C kN){k:Nat}(a:Addr)(ri:MV)(rA rB:Rows)(tA tB:Bool)(mA nA mB nB:Nat)(hA:Shape rA mA nA)(hB:Shape rB mB nB)(hd:¬(dm mA nA tA=dm mB nB tB/\dn mA nA tA=dn mB nB tB)) :
 fj C (k+5) (.ref (kN.a 33)) [mr kN (some a) ri rA tA,mr kN (some a) ri rB tB] "ValueError":=by
 refine jF (bs:=[("self",mr kN (some a) ri rA tA),("other",mr kN (some a) ri rB tB)]) S.o.yr J λL D bh=>?_
 .have cm:=cM (C:=C) (k:=k+4) (a:=a) (b:=a) S.o.mod S.o.mod (fs:=[("ring",ri)]) (gs:=[("ring",ri)])
  rw[aaH (λh=>h J)] at cm;have cd:=fS (C:=C) (k:=k+3) (dm mA nA tA) (dn mA nA tA) (dm mB nB tB) (dn mB nB tB);rw[kY hd] at cd;have pd:=fL S.o (k:=k+2) (cK kN.CO (some a) ri) ri rA tA mA nA hA;have pQ:=fL S.o (k:=k+2) (cK kN.CO (some a) ri) ri rB tB mB nB hB;refine bY (bq (cF (b:=true) (bN (m:=.bool true) (bU (aM S.o.aR Boot.«isinstance» rfl) (aj (ao J) (aj (bU (aM S.o.gf Boot.«type» rfl) (aj (ao J) ak) J eV) ak)) J (bR S.o.mC (λ_ _ _ q=>by cases q;exact S.o.iW) J (λ_ q=>nomatch q))) (bE true))) aJ) ?_;refine bY (bq (bw (b:=false) (aV (ao J) S.o.bA J J J) (aV (ao J) S.o.bA J J J) cm) aJ) ?_;exact cP (bw (b:=true) (bl (ao J) S.o.d_ J ak pd J) (bl (ao J) S.o.d_ J ak pQ J) cd) (cu abh abf (aM S.o.yt Boot.«ValueError» rfl) (aj fH ak) (aae J))
theorem GJ{C:Cx}(S:G3 C kN){k:Nat}(mA:acj)(y? z?:acn)(gs:acj):fj C (k+3) (.ref (kN.a 33)) [.inst y? kN.CM mA,.inst z? kN.XM gs] "TypeError":=by
 refine jF (bs:=[("self",.inst y? kN.CM mA),("other",.inst z? kN.XM gs)]) S.o.yr J λL D bh=>?_
 .exact cP (cF (b:=false) (bN (m:=.bool false) (bU (aM S.o.aR Boot.«isinstance» rfl) (aj (ao J) (aj (bU (aM S.o.gf Boot.«type» rfl) (aj (ao J) ak) J eV) ak)) J (bR S.o.DC (λ_ _ _ q=>by cases q;exact S.o.u_) J (λ_ q=>nomatch q))) (bE false))) (cu aaR aaP (aM S.o.pN Boot.«TypeError» rfl) (aj fH ak) (aae J))
theorem GK{C:Cx}(S:G3 C kN){k:Nat}(a b:Addr)(hab:a≠b)(ri nV:MV)(rA rB:Rows)(tA tB:Bool):fj C (k+3) (.ref (kN.a 33)) [mr kN (some a) ri rA tA,mr kN (some b) nV rB tB] "TypeError":=by
 refine jF (bs:=[("self",mr kN (some a) ri rA tA),("other",mr kN (some b) nV rB tB)]) S.o.yr J λL D bh=>?_
 .have cm:=cM (C:=C) (k:=k+2) (a:=a) (b:=b) S.o.mod S.o.mod (fs:=[("ring",ri)]) (gs:=[("ring",nV)])
  rw[aaK hab] at cm;refine bY (bq (cF (b:=true) (bN (m:=.bool true) (bU (aM S.o.aR Boot.«isinstance» rfl) (aj (ao J) (aj (bU (aM S.o.gf Boot.«type» rfl) (aj (ao J) ak) J eV) ak)) J (bR S.o.mC (λ_ _ _ q=>by cases q;exact S.o.iW) J (λ_ q=>nomatch q))) (bE true))) aJ) ?_;exact cP (bw (b:=true) (aV (ao J) S.o.bA J J J) (aV (ao J) S.o.bA J J J) cm) (cu aaR aaP (aM S.o.pN Boot.«TypeError» rfl) (aj fH ak) (aae J))
theorem Ay{C:Cx}(S:G3 C kN){k:Nat}(a:Addr)(ri:MV)(rA rB:Rows)(tA tB:Bool)(mA nA mB nB:Nat)(hA:Shape rA mA nA)(hB:Shape rB mB nB)(hd:dn mA nA tA≠dm mB nB tB) :
 fj C (k+5) (.ref (kN.a 35)) [mr kN (some a) ri rA tA,mr kN (some a) ri rB tB] "ValueError":=by
 refine qy (bs:=[("self",mr kN (some a) ri rA tA),("other",mr kN (some a) ri rB tB)]) S.o.kC J λL D=>?_
 .have cm:=cM (C:=C) (k:=k+4) (a:=a) (b:=a) S.o.mod S.o.mod (fs:=[("ring",ri)]) (gs:=[("ring",ri)])
  rw[aaH (λh=>h J)] at cm;have cd:=gO (C:=C) (k:=k+4) (dn mA nA tA) (dm mB nB tB);rw[show(((dn mA nA tA:Nat):Int)==((dm mB nB tB:Nat):Int))=false from by simp;exact Ph hd] at cd;have pd:=fL S.o (k:=k+2) (cK kN.CO (some a) ri) ri rA tA mA nA hA;have pQ:=fL S.o (k:=k+2) (cK kN.CO (some a) ri) ri rB tB mB nB hB;refine bY (bq (cF (b:=true) (bN (m:=.bool true) (bU (aM S.o.aR Boot.«isinstance» rfl) (aj (ao J) (aj (bU (aM S.o.gf Boot.«type» rfl) (aj (ao J) ak) J eV) ak)) J (bR S.o.mC (λ_ _ _ q=>by cases q;exact S.o.iW) J (λ_ q=>nomatch q))) (bE true))) aJ) ?_;refine bY (bq (bw (b:=false) (aV (ao J) S.o.bA J J J) (aV (ao J) S.o.bA J J J) cm) aJ) ?_;refine bY (cy (bl (ao J) S.o.d_ J ak pd J) (gc (az J) (az J)) J J) ?_;refine bY (cy (bl (ao J) S.o.d_ J ak pQ J) (gc (az J) (az J)) J J) ?_;exact cP (cF (b:=false) (bw (b:=false) (ao J) (ao J) cd)) (cu abh abf (aM S.o.yt Boot.«ValueError» rfl) (aj fH ak) (aae J))
theorem Az{C:Cx}(S:G3 C kN){k:Nat}(mA:acj)(y? z?:acn)(gs:acj):fj C (k+3) (.ref (kN.a 35)) [.inst y? kN.CM mA,.inst z? kN.XM gs] "TypeError":=by
 refine qy (bs:=[("self",.inst y? kN.CM mA),("other",.inst z? kN.XM gs)]) S.o.kC J λL D=>?_
 .exact cP (cF (b:=false) (bN (m:=.bool false) (bU (aM S.o.aR Boot.«isinstance» rfl) (aj (ao J) (aj (bU (aM S.o.gf Boot.«type» rfl) (aj (ao J) ak) J eV) ak)) J (bR S.o.DC (λ_ _ _ q=>by cases q;exact S.o.u_) J (λ_ q=>nomatch q))) (bE false))) (cu aaR aaP (aM S.o.pN Boot.«TypeError» rfl) (aj fH ak) (aae J))
theorem AA{C:Cx}(S:G3 C kN){k:Nat}(a b:Addr)(hab:a≠b)(ri nV:MV)(rA rB:Rows)(tA tB:Bool):fj C (k+3) (.ref (kN.a 35)) [mr kN (some a) ri rA tA,mr kN (some b) nV rB tB] "TypeError":=by
 refine qy (bs:=[("self",mr kN (some a) ri rA tA),("other",mr kN (some b) nV rB tB)]) S.o.kC J λL D=>?_
 .have cm:=cM (C:=C) (k:=k+2) (a:=a) (b:=b) S.o.mod S.o.mod (fs:=[("ring",ri)]) (gs:=[("ring",nV)])
  rw[aaK hab] at cm;refine bY (bq (cF (b:=true) (bN (m:=.bool true) (bU (aM S.o.aR Boot.«isinstance» rfl) (aj (ao J) (aj (bU (aM S.o.gf Boot.«type» rfl) (aj (ao J) ak) J eV) ak)) J (bR S.o.mC (λ_ _ _ q=>by cases q;exact S.o.iW) J (λ_ q=>nomatch q))) (bE true))) aJ) ?_;exact cP (bw (b:=true) (aV (ao J) S.o.bA J J J) (aV (ao J) S.o.bA J J J) cm) (cu aaR aaP (aM S.o.pN Boot.«TypeError» rfl) (aj fH ak) (aae J))
theorem DH{C:Cx}(S:G3 C kN){k:Nat}(a:Addr)(ri:MV)(rA rB:Rows)(tA tB:Bool)(mA nA mB nB:Nat)(hA:Shape rA mA nA)(hB:Shape rB mB nB)(hd:¬(dm mA nA tA=dm mB nB tB/\dn mA nA tA=dn mB nB tB)) :
 fj C (k+6) (.ref (kN.a 32)) [mr kN (some a) ri rA tA,mr kN (some a) ri rB tB] "ValueError":=by
 refine wX (bs:=[("self",mr kN (some a) ri rA tA),("other",mr kN (some a) ri rB tB)]) S.o.BG J λL D bh=>?_
 .have E:=eZ (op:=.Add) S.o.jD S.o.dY (yL S (k:=k) a ri rA rB tA tB mA nA mB nB hA hB hd)
  exact pS (ao J) (ao J) E
theorem DI{C:Cx}(S:G3 C kN){k:Nat}(a:Addr)(ri:MV)(rA rB:Rows)(tA tB:Bool)(mA nA mB nB:Nat)(hA:Shape rA mA nA)(hB:Shape rB mB nB)(hd:¬(dm mA nA tA=dm mB nB tB/\dn mA nA tA=dn mB nB tB)) :
 fj C (k+6) (.ref (kN.a 34)) [mr kN (some a) ri rA tA,mr kN (some a) ri rB tB] "ValueError":=by
 refine wX (bs:=[("self",mr kN (some a) ri rA tA),("other",mr kN (some a) ri rB tB)]) S.o.BH J λL D bh=>?_
 .have E:=eZ (op:=.Sub) S.o.jE S.o.dY (yM S (k:=k) a ri rA rB tA tB mA nA mB nB hA hB hd)
  exact pS (ao J) (ao J) E
theorem yN{C:Cx}(S:G3 C dN){k:Nat}(a:Addr)(ri:MV)(rA rB:Rows)(tA tB:Bool)(mA nA mB nB:Nat)(hA:Shape rA mA nA)(hB:Shape rB mB nB)(hd:¬(dm mA nA tA=dm mB nB tB/\dn mA nA tA=dn mB nB tB)) :
 fj C (k+5) (.ref (dN.a 31)) [mr dN (some a) ri rA tA,mr dN (some a) ri rB tB] "ValueError":=by
 refine jF (bs:=[("self",mr dN (some a) ri rA tA),("other",mr dN (some a) ri rB tB)]) S.o.yq J λL D bh=>?_
 .have cm:=cM (C:=C) (k:=k+4) (a:=a) (b:=a) S.o.mod S.o.mod (fs:=[("ring",ri)]) (gs:=[("ring",ri)])
  rw[aaH (λh=>h J)] at cm;have cd:=fS (C:=C) (k:=k+3) (dm mA nA tA) (dn mA nA tA) (dm mB nB tB) (dn mB nB tB);rw[kY hd] at cd;have pd:=fL S.o (k:=k+2) (cK dN.CO (some a) ri) ri rA tA mA nA hA;have pQ:=fL S.o (k:=k+2) (cK dN.CO (some a) ri) ri rB tB mB nB hB;refine bY (bq (cF (b:=true) (bN (m:=.bool true) (bU (aM S.o.aR Boot.«isinstance» rfl) (aj (ao J) (aj (bV J S.o.jt (λ_ _=>.bZ _ J) J) ak)) J (bR S.o.mC (λ_ _ _ q=>by cases q;exact S.o.iW) J (λ_ q=>nomatch q))) (bE true))) aJ) ?_;refine bY (bq (bw (b:=false) (aV (ao J) S.o.bA J J J) (aV (ao J) S.o.bA J J J) cm) aJ) ?_;exact cP (bw (b:=true) (bl (ao J) S.o.d_ J ak pd J) (bl (ao J) S.o.d_ J ak pQ J) cd) (cu abh abf (aM S.o.yt Boot.«ValueError» rfl) (aj fH ak) (aae J))
theorem GL{C:Cx}(S:G3 C dN){k:Nat}(mA:acj)(y? z?:acn)(gs:acj):fj C (k+3) (.ref (dN.a 31)) [.inst y? dN.CM mA,.inst z? dN.XM gs] "TypeError":=by
 refine jF (bs:=[("self",.inst y? dN.CM mA),("other",.inst z? dN.XM gs)]) S.o.yq J λL D bh=>?_
 .exact cP (cF (b:=false) (bN (m:=.bool false) (bU (aM S.o.aR Boot.«isinstance» rfl) (aj (ao J) (aj (bV J S.o.jt (λ_ _=>.bZ _ J) J) ak)) J (bR S.o.DC (λ_ _ _ q=>by cases q;exact S.o.u_) J (λ_ q=>nomatch q))) (bE false))) (cu aaR aaP (aM S.o.pN Boot.«TypeError» rfl) (aj fH ak) (aae J))
theorem GN{C:Cx}(S:G3 C dN){k:Nat}(a b:Addr)(hab:a≠b)(ri nV:MV)(rA rB:Rows)(tA tB:Bool):fj C (k+3) (.ref (dN.a 31)) [mr dN (some a) ri rA tA,mr dN (some b) nV rB tB] "TypeError":=by
 refine jF (bs:=[("self",mr dN (some a) ri rA tA),("other",mr dN (some b) nV rB tB)]) S.o.yq J λL D bh=>?_
 .have cm:=cM (C:=C) (k:=k+2) (a:=a) (b:=b) S.o.mod S.o.mod (fs:=[("ring",ri)]) (gs:=[("ring",nV)])
  rw[aaK hab] at cm;refine bY (bq (cF (b:=true) (bN (m:=.bool true) (bU (aM S.o.aR Boot.«isinstance» rfl) (aj (ao J) (aj (bV J S.o.jt (λ_ _=>.bZ _ J) J) ak)) J (bR S.o.mC (λ_ _ _ q=>by cases q;exact S.o.iW) J (λ_ q=>nomatch q))) (bE true))) aJ) ?_;exact cP (bw (b:=true) (aV (ao J) S.o.bA J J J) (aV (ao J) S.o.bA J J J) cm) (cu aaR aaP (aM S.o.pN Boot.«TypeError» rfl) (aj fH ak) (aae J))
theorem yO{C:Cx}(S:G3 C dN){k:Nat}(a:Addr)(ri:MV)(rA rB:Rows)(tA tB:Bool)(mA nA mB nB:Nat)(hA:Shape rA mA nA)(hB:Shape rB mB nB)(hd:¬(dm mA nA tA=dm mB nB tB/\dn mA nA tA=dn mB nB tB)) :
 fj C (k+5) (.ref (dN.a 33)) [mr dN (some a) ri rA tA,mr dN (some a) ri rB tB] "ValueError":=by
 refine jF (bs:=[("self",mr dN (some a) ri rA tA),("other",mr dN (some a) ri rB tB)]) S.o.yr J λL D bh=>?_
 .have cm:=cM (C:=C) (k:=k+4) (a:=a) (b:=a) S.o.mod S.o.mod (fs:=[("ring",ri)]) (gs:=[("ring",ri)])
  rw[aaH (λh=>h J)] at cm;have cd:=fS (C:=C) (k:=k+3) (dm mA nA tA) (dn mA nA tA) (dm mB nB tB) (dn mB nB tB);rw[kY hd] at cd;have pd:=fL S.o (k:=k+2) (cK dN.CO (some a) ri) ri rA tA mA nA hA;have pQ:=fL S.o (k:=k+2) (cK dN.CO (some a) ri) ri rB tB mB nB hB;refine bY (bq (cF (b:=true) (bN (m:=.bool true) (bU (aM S.o.aR Boot.«isinstance» rfl) (aj (ao J) (aj (bV J S.o.jt (λ_ _=>.bZ _ J) J) ak)) J (bR S.o.mC (λ_ _ _ q=>by cases q;exact S.o.iW) J (λ_ q=>nomatch q))) (bE true))) aJ) ?_;refine bY (bq (bw (b:=false) (aV (ao J) S.o.bA J J J) (aV (ao J) S.o.bA J J J) cm) aJ) ?_;exact cP (bw (b:=true) (bl (ao J) S.o.d_ J ak pd J) (bl (ao J) S.o.d_ J ak pQ J) cd) (cu abh abf (aM S.o.yt Boot.«ValueError» rfl) (aj fH ak) (aae J))
theorem GO{C:Cx}(S:G3 C dN){k:Nat}(mA:acj)(y? z?:acn)(gs:acj):fj C (k+3) (.ref (dN.a 33)) [.inst y? dN.CM mA,.inst z? dN.XM gs] "TypeError":=by
 refine jF (bs:=[("self",.inst y? dN.CM mA),("other",.inst z? dN.XM gs)]) S.o.yr J λL D bh=>?_
 .exact cP (cF (b:=false) (bN (m:=.bool false) (bU (aM S.o.aR Boot.«isinstance» rfl) (aj (ao J) (aj (bV J S.o.jt (λ_ _=>.bZ _ J) J) ak)) J (bR S.o.DC (λ_ _ _ q=>by cases q;exact S.o.u_) J (λ_ q=>nomatch q))) (bE false))) (cu aaR aaP (aM S.o.pN Boot.«TypeError» rfl) (aj fH ak) (aae J))
theorem GP{C:Cx}(S:G3 C dN){k:Nat}(a b:Addr)(hab:a≠b)(ri nV:MV)(rA rB:Rows)(tA tB:Bool):fj C (k+3) (.ref (dN.a 33)) [mr dN (some a) ri rA tA,mr dN (some b) nV rB tB] "TypeError":=by
 refine jF (bs:=[("self",mr dN (some a) ri rA tA),("other",mr dN (some b) nV rB tB)]) S.o.yr J λL D bh=>?_
 .have cm:=cM (C:=C) (k:=k+2) (a:=a) (b:=b) S.o.mod S.o.mod (fs:=[("ring",ri)]) (gs:=[("ring",nV)])
  rw[aaK hab] at cm;refine bY (bq (cF (b:=true) (bN (m:=.bool true) (bU (aM S.o.aR Boot.«isinstance» rfl) (aj (ao J) (aj (bV J S.o.jt (λ_ _=>.bZ _ J) J) ak)) J (bR S.o.mC (λ_ _ _ q=>by cases q;exact S.o.iW) J (λ_ q=>nomatch q))) (bE true))) aJ) ?_;exact cP (bw (b:=true) (aV (ao J) S.o.bA J J J) (aV (ao J) S.o.bA J J J) cm) (cu aaR aaP (aM S.o.pN Boot.«TypeError» rfl) (aj fH ak) (aae J))
theorem AB{C:Cx}(S:G3 C dN){k:Nat}(a:Addr)(ri:MV)(rA rB:Rows)(tA tB:Bool)(mA nA mB nB:Nat)(hA:Shape rA mA nA)(hB:Shape rB mB nB)(hd:dn mA nA tA≠dm mB nB tB) :
 fj C (k+5) (.ref (dN.a 35)) [mr dN (some a) ri rA tA,mr dN (some a) ri rB tB] "ValueError":=by
 refine qy (bs:=[("self",mr dN (some a) ri rA tA),("other",mr dN (some a) ri rB tB)]) S.o.kC J λL D=>?_
 .have cm:=cM (C:=C) (k:=k+4) (a:=a) (b:=a) S.o.mod S.o.mod (fs:=[("ring",ri)]) (gs:=[("ring",ri)])
  rw[aaH (λh=>h J)] at cm;have cd:=gO (C:=C) (k:=k+4) (dn mA nA tA) (dm mB nB tB);rw[show(((dn mA nA tA:Nat):Int)==((dm mB nB tB:Nat):Int))=false from by simp;exact Ph hd] at cd;have pd:=fL S.o (k:=k+2) (cK dN.CO (some a) ri) ri rA tA mA nA hA;have pQ:=fL S.o (k:=k+2) (cK dN.CO (some a) ri) ri rB tB mB nB hB;refine bY (bq (cF (b:=true) (bN (m:=.bool true) (bU (aM S.o.aR Boot.«isinstance» rfl) (aj (ao J) (aj (bV J S.o.jt (λ_ _=>.bZ _ J) J) ak)) J (bR S.o.mC (λ_ _ _ q=>by cases q;exact S.o.iW) J (λ_ q=>nomatch q))) (bE true))) aJ) ?_;refine bY (bq (bw (b:=false) (aV (ao J) S.o.bA J J J) (aV (ao J) S.o.bA J J J) cm) aJ) ?_;refine bY (cy (bl (ao J) S.o.d_ J ak pd J) (gc (az J) (az J)) J J) ?_;refine bY (cy (bl (ao J) S.o.d_ J ak pQ J) (gc (az J) (az J)) J J) ?_;exact cP (cF (b:=false) (bw (b:=false) (ao J) (ao J) cd)) (cu abh abf (aM S.o.yt Boot.«ValueError» rfl) (aj fH ak) (aae J))
theorem AD{C:Cx}(S:G3 C dN){k:Nat}(mA:acj)(y? z?:acn)(gs:acj):fj C (k+3) (.ref (dN.a 35)) [.inst y? dN.CM mA,.inst z? dN.XM gs] "TypeError":=by
 refine qy (bs:=[("self",.inst y? dN.CM mA),("other",.inst z? dN.XM gs)]) S.o.kC J λL D=>?_
 .exact cP (cF (b:=false) (bN (m:=.bool false) (bU (aM S.o.aR Boot.«isinstance» rfl) (aj (ao J) (aj (bV J S.o.jt (λ_ _=>.bZ _ J) J) ak)) J (bR S.o.DC (λ_ _ _ q=>by cases q;exact S.o.u_) J (λ_ q=>nomatch q))) (bE false))) (cu aaR aaP (aM S.o.pN Boot.«TypeError» rfl) (aj fH ak) (aae J))
theorem AE{C:Cx}(S:G3 C dN){k:Nat}(a b:Addr)(hab:a≠b)(ri nV:MV)(rA rB:Rows)(tA tB:Bool):fj C (k+3) (.ref (dN.a 35)) [mr dN (some a) ri rA tA,mr dN (some b) nV rB tB] "TypeError":=by
 refine qy (bs:=[("self",mr dN (some a) ri rA tA),("other",mr dN (some b) nV rB tB)]) S.o.kC J λL D=>?_
 .have cm:=cM (C:=C) (k:=k+2) (a:=a) (b:=b) S.o.mod S.o.mod (fs:=[("ring",ri)]) (gs:=[("ring",nV)])
  rw[aaK hab] at cm;refine bY (bq (cF (b:=true) (bN (m:=.bool true) (bU (aM S.o.aR Boot.«isinstance» rfl) (aj (ao J) (aj (bV J S.o.jt (λ_ _=>.bZ _ J) J) ak)) J (bR S.o.mC (λ_ _ _ q=>by cases q;exact S.o.iW) J (λ_ q=>nomatch q))) (bE true))) aJ) ?_;exact cP (bw (b:=true) (aV (ao J) S.o.bA J J J) (aV (ao J) S.o.bA J J J) cm) (cu aaR aaP (aM S.o.pN Boot.«TypeError» rfl) (aj fH ak) (aae J))
theorem DJ{C:Cx}(S:G3 C dN){k:Nat}(a:Addr)(ri:MV)(rA rB:Rows)(tA tB:Bool)(mA nA mB nB:Nat)(hA:Shape rA mA nA)(hB:Shape rB mB nB)(hd:¬(dm mA nA tA=dm mB nB tB/\dn mA nA tA=dn mB nB tB)) :
 fj C (k+6) (.ref (dN.a 32)) [mr dN (some a) ri rA tA,mr dN (some a) ri rB tB] "ValueError":=by
 refine wX (bs:=[("self",mr dN (some a) ri rA tA),("other",mr dN (some a) ri rB tB)]) S.o.BG J λL D bh=>?_
 .have E:=eZ (op:=.Add) S.o.jD S.o.dY (yN S (k:=k) a ri rA rB tA tB mA nA mB nB hA hB hd)
  exact vz (ao J) (ao J) E
theorem DK{C:Cx}(S:G3 C dN){k:Nat}(a:Addr)(ri:MV)(rA rB:Rows)(tA tB:Bool)(mA nA mB nB:Nat)(hA:Shape rA mA nA)(hB:Shape rB mB nB)(hd:¬(dm mA nA tA=dm mB nB tB/\dn mA nA tA=dn mB nB tB)) :
 fj C (k+6) (.ref (dN.a 34)) [mr dN (some a) ri rA tA,mr dN (some a) ri rB tB] "ValueError":=by
 refine wX (bs:=[("self",mr dN (some a) ri rA tA),("other",mr dN (some a) ri rB tB)]) S.o.BH J λL D bh=>?_
 .have E:=eZ (op:=.Sub) S.o.jE S.o.dY (yO S (k:=k) a ri rA rB tA tB mA nA mB nB hA hB hd)
  exact vz (ao J) (ao J) E
inductive Rh(C:Cx)(Γ:Gm)(X W:acq)(s:Shared)(vs':aC)(Q:acq->Shared->Prop)(f:Flow)(s':Shared):Prop
 |mk:f = .next->(W':acq)->(∀d∈W',d∈W\/s.heap.objs.size<=d)->Fm C Γ W' s'.heap vs'->bL C (X++W) s s'->Inv C s'->Q W' s'->Rh C Γ X W s vs' Q f s'
noncomputable def Mq(C:Cx)(Γ:Gm)(X:acq)(Φ:Around->Shared->Prop)(vs:aC)(ss:acr)(O3:Around->Shared->Prop)(vs':aC):Prop:=
 ∀A s W,Good Γ.k A->Inv C s->Fm C Γ W s.heap vs->(∀L∈X,L∈Γ.Do/\L∉W/\L<s.heap.objs.size/\C.H.objs.size<=L)->Φ A s->wpAny (model P0 C.w) A (execs ss Γ.env)
  (Rh C Γ X W s vs' λ_=>O3 A) ig s
noncomputable def DL(C:Cx)(Γ:Gm)(X:acq)(Φ:Around->Shared->Prop)(vs:aC)(st:Stmt)(O3:Around->Shared->Prop)(vs':aC):Prop:=
 ∀A s W,Good Γ.k A->Inv C s->Fm C Γ W s.heap vs->(∀L∈X,L∈Γ.Do/\L∉W/\L<s.heap.objs.size/\C.H.objs.size<=L)->Φ A s->wpAny (model P0 C.w) A (exec st Γ.env)
  (Rh C Γ X W s vs' λ_=>O3 A) ig s
noncomputable def Ku(C:Cx)(X:acq)(Φ:Around->Shared->Prop):Prop:=∀A s s' Wk,Φ A s->Inv C s->bL C Wk s s'->(∀L∈X,L∉Wk)->Φ A s'
inductive Ny(C:Cx)(Γ:Gm)(t:Expr)(m:MV)(vs:aC)(B:aC->aC->Prop)(K:aC->Prop):Prop
 |mk (fK dG:aC):(∀Do,Bd C (cz Γ Do) t m vs fK)->B fK dG->K dG->Ny C Γ t m vs B K
noncomputable def Kv(C:Cx)(Γ:Gm)(X:acq)(t:Expr)(body:acr)(Φ:acw->Around->Shared->Prop):acw->aC->aC->Prop
 |[],vs,vs'=>vs'=vs
 |m::ms,vs,vs'=>Ny C Γ t m vs (λfK dG=>∀Do,Mq C (cz Γ Do) X (Φ (m::ms)) fK body (Φ ms) dG) λdG=>Kv C Γ X t body Φ ms dG vs'
noncomputable def B4(C:Cx)(env:Env)(l:List Env)(bM:Shared)(A:Around)(s:Shared):Prop:=
 A.frames=some (env::l)/\iC C l s.heap/\∀L∈frs l,∀o,bM.heap.get? L=some o->∃sl,s.heap.get? L=some {o with slots:=sl}
inductive ZO(C:Cx)(Γ:Gm)(l:List Env)(W:acq)(s:Shared)(X:String)(cG:aC)(x:Value)(s':Shared):Prop
 |mk (e:Addr) (aq:Shared) (fP:acq):x = .ref e->(∀d∈fP,d∈W\/s.heap.objs.size<=d)->Fm C Γ fP aq.heap cG->bL C W s aq->Inv C aq->Ks C (Γ.env::l) X e aq s'->ZO C Γ l W s X cG x s'
noncomputable def B5(C:Cx)(Γ:Gm)(l:List Env)(vs:aC)(ss:acr)(X:String)(cG:aC):Prop:=
 ∀A s W,Good Γ.k A->Inv C s->Fm C Γ W s.heap vs->A.frames=some (Γ.env::l)->iC C l s.heap->(∀L∈frs l,L∈Γ.Do/\L∉W)->wpAny (model P0 C.w) A (execs ss Γ.env) (λ_ _=>False)
  (ZO C Γ l W s X cG) s
section
variable{C:Cx}{Γ:Gm}{W D:acq}{s s' aq av:Shared}{vs vs' d7 cG:aC}{A:Around}{E:ach}{e:Expr}{v m m₁ m₂:MV}{k:Nat}{l:List Env}{X:String}{h h' base:Heap}{st:Stmt}{ss:acr}{op:Operator}{x:Str}{F₀:acq}
theorem Fm.slots(F:Fm C Γ W h vs)(hs:h.objs.size<=h'.objs.size)(hk:Kept (F₀++C.tabs) h h')(hF:∀d∈F₀,d=Γ.env.locals\/d∈Γ.Do)(hcell:∀c v,c∈F₀->¬h.IsCell c v)(htab:∀c v,c∈C.tabs->¬h.IsCell c v)
 (hL:∀m,h.Ns Γ.env.locals m->h'.Ns Γ.env.locals m) (ye:∀d∈C.tabs,d∉W):Fm C Γ W h' vs:=by
 have sub:∀d∈F₀++C.tabs,d∈W++Γ.Do:=λd hd=>(aag.mp hd).elim (λq=>(hF d q).elim (λz=>by exact rl z ((aah _ F.lW))) λz=>aad _ z) λq=>aad _ (F.tabs d q);have kc:∀{c v},h.IsCell c v->h'.IsCell c v:=λ{c v} hc=>by have n1:c∉F₀++C.tabs:=λq=>(aag.mp q).elim (λq=>hcell c v q hc) λq=>htab c v q hc;obtain⟨o,ho,hd⟩:=hc;exact⟨o,hk c o n1 ho,hd⟩
 have vd:∀{y:Str}{a:Value}{st:VS},vs.lookup y=some st->fX h (W++Γ.Do) W a st->fX h' (W++Γ.Do) W a st:=λ{y a st} hy x=>by
  have own:∀b∈foot st,b∉F₀++C.tabs:=λb hb q=>by
   obtain⟨o1,o2,o3,o4⟩:=F.gH y st b hy hb;rcases aag.mp q with q |q
   .exact(hF b q).elim o1 o4
   .exact ye b q o3
  refine nb λnn=>?_;cases st with
  |v m=>exact nn<|Den.kept hk sub (λd hd=>.inl hd) x
  |own b l=>
   obtain⟨e,hb,items,n,ho,ds⟩:=x;exact nn<|⟨e,hb,items,n,hk b _ (own b (.head _)) ho,bD.kept hk sub (λd hd=>.inl hd) ds⟩
  |obj x dx Cc fs=>
   obtain⟨e,hx,hd,kI,es,n,vals,⟨h1,h2,h3⟩,hle,df⟩:=x;exact nn<|⟨e,hx,hd,kI,es,n,vals,⟨hk x _ (own x (.head _)) h1,hk dx _ (own dx (.tail _ (.head _))) h2,h3⟩,hle,dF.kept hk sub (λd hd=>.inl hd) df⟩
 refine⟨F.kind,F.glob,F.bi,?_,?_,?_,F.lW,F.tabs,F.lo,λd hd=>aao (F.hi d hd) hs,F.apart,F.cI,F.fY,F.gH,F.iY⟩
 .obtain⟨m,hn,hv⟩:=F.ns
  exact⟨m,hL m hn,λy st hy jP=>let⟨a,ha,d⟩:=hv y st hy jP;⟨a,ha,vd hy d⟩⟩
 .intro y st hy jP
  obtain⟨c,a,hc,hi,d⟩:=F.cell y st hy jP;exact⟨c,a,hc,kc hi,vd hy d⟩
 .intro y hy
  obtain⟨c,v,hc,hW,hi⟩:=F.zS y hy;exact⟨c,v,hc,hW,kc hi⟩
theorem rZ{X:acq}{Φ:Around->Shared->Prop}(hs:Ku C X Φ)(H:gq C Γ vs st .next vs'):DL C Γ X Φ vs st Φ vs':=λA s W G I F hX yP=>
 cS (H A s W G I F) λf aq bI=>by obtain⟨W',h1,h2,aU,t,aF⟩:=bI;exact⟨Bg.ji h2,W',h1,aU,t.weak λd q=>aad _ q,aF,hs A s aq W yP I t λL hL=>(hX L hL).2.1⟩
theorem Kw{X:acq}{Φ:Around->Shared->Prop}:Mq C Γ X Φ vs [] Φ vs:=λA s W G I F hX yP=>abv ⟨J,W,λd q=>.inl q,F,bL.refl _ _ _,I,yP⟩
theorem pT{X:acq}{Φ Mr Ms:Around->Shared->Prop}(gE:DL C Γ X Φ vs st Mr vs')(iI:Mq C Γ X Mr vs' ss Ms d7):Mq C Γ X Φ vs (st::ss) Ms d7:=λA s W G I F hX yP=>
 aas (cS (gE A s W G I F hX yP) λf aq bI=>by
  obtain⟨hf,fP,kZ,aU,a_,aF,AF⟩:=bI;subst hf;refine cS (iI A aq fP G aF aU (λL hL=>?_) AF) λf av ⟨hf,rH,xZ,bO,aY,bu,AG⟩=>?_
  .obtain⟨a,b,c,d⟩:=hX L hL
   exact⟨a,λq=>(kZ L q).elim b λz=>absurd c (aaw.mpr z),aao c a_.size,d⟩
  .refine⟨hf,rH,λd hd=>?_,bO,a_.trans aY (λd q=>.inl q) λd hd=>?_,bu,AG⟩
   .rcases xZ d hd with q |q
    .exact kZ d q
    .exact .inr (aaf a_.size q)
   .rcases aag.mp hd with q |q
    .exact .inl (aah _ q)
    .exact(kZ d q).imp (λz=>aad _ z) id)
theorem GQ{env:Env}{bM:Shared}:Ku C (frs l) (B4 C env l bM):=λA s s' Wk ⟨h1,h2,h3⟩ I t hW=>
 ⟨h1,h2.dJ I t hW,λL hL o e=>by obtain⟨sl,h4⟩:=h3 L hL o e;exact⟨sl,t.keep L _ (λq=>(aag.mp q).elim (hW L hL) (aX I (h2.lo hL).1)) h4⟩⟩
theorem GR{X:acq}{Φ:acw->Around->Shared->Prop}{t iter:Expr}{body:acr}{pos:Pos}{pr:Bool}{ms:acw}(hst:∀ms,Ku C X (Φ ms))(Hi:rR C Γ vs iter pr ms)(H:Kv C Γ X t body Φ ms vs vs')(ht:pr=true->∃es x1 p,t = .Tuple es x1 p)(hs:∀x,foldedSetIterable iter Γ.env x=pure x) :
 DL C Γ X (Φ ms) vs (.For t iter body [] pos) (Φ []) vs':=λA s W G I F hX yP=>by
 refine wj (mk:=id) (Y:=X) (S:=λms vs=>Kv C Γ X t body Φ ms vs vs') (Ψ:=λms _ s=>Φ ms A s) (En:=λf vs _ _ s=>f = .next/\vs=vs'/\Φ [] A s) (λms D D' Wk s s' h I t _ _ hX _=>hst ms A s s' Wk h I t λL hL=>(hX L hL).1) (by exact rl (List.map_id ..) Hi) ht hs G I F hX H yP ?_ ?_ ?_ ?_
 .intro m ms vs HF
  obtain⟨fK,dG,HB,HX,HN⟩:=HF;refine⟨fK,HB,λDo s W I F hX yP=>cS (HX Do A s W G I F hX yP) λf s' bI=>?_⟩;obtain⟨hf,W',h1,h3,h4,h5,h6⟩:=bI;subst hf;exact .mk h1 h3 h4 h5 ⟨HN,h6⟩
 .exactλvs W D s h h'=>⟨J,Eq.symm h,h'⟩
 .exactλf vs W D D' s _ h _ _=>h
 .intro f s' h
  cases h with |mk h1 h2 h3 h4 h5=>
  obtain⟨rfl,rfl,h5⟩:=h5;exact⟨J,_,h1,h2,h3,h4,h5⟩
end
noncomputable def Ri(C:Cx)(Γ:Gm)(vs:aC)(ss:acr)(vs':aC):Prop:=
 ∀A s W,Inv C s->Fm C Γ W s.heap vs->wpAny (model P0 C.w) A (execs ss Γ.env) (λf s'=>f = .next/\Fm C Γ W s'.heap vs'/\bL C W s s'/\Inv C s') ig s
section
variable{C:Cx}{Γ:Gm}{W D:acq}{s s' aq av:Shared}{vs vs' d7 cG:aC}{A:Around}{E:ach}{e:Expr}{v m m₁ m₂:MV}{k:Nat}{l:List Env}{X:String}{h h' base:Heap}{st:Stmt}{ss:acr}{op:Operator}{x:Str}{F₀:acq}{a:Addr}{own:acw}
theorem qZ{y:Str}{c:Nat}{cpos p apos pos epos:Pos}(hv:vs.lookup x=some (.own a own))(hx:Γ.env.kindOf x=some .local)(hd:(x==("__debug__":Str))=false)(hlen:own.length<=1000)
 (hbase:attributeBase (.Name x p) "append" Γ.env (eval (.Name x p) Γ.env)=eval (.Name x p) Γ.env)
 (hfew:((backTo pos (starEach [.Constant (.str y) c cpos] Γ.env)).all (λx=>!x.1)&&(backToKw pos (keywordEach [] Γ.env)).all (λx=>x.1.isSome)
  && decide (([.Constant (.str y) c cpos]:acs).length+([]:List Keyword).length+(if([]:List Keyword).isEmpty then 0 else 1)<30))=true)
 (hline:(apos.endLine==pos.line)=true) (htrees:backTo pos (starEach [.Constant (.str y) c cpos] Γ.env)=[(false,eval (.Constant (.str y) c cpos) Γ.env)]) (hint:interactive Γ.env=false) (hs:swapsWith (.Call (.Attribute (.Name x p) "append" apos) [.Constant (.str y) c cpos] [] pos) none epos.line Γ.env=pure false) :
 Ri C Γ vs [.Expr (.Call (.Attribute (.Name x p) "append" apos) [.Constant (.str y) c cpos] [] pos) epos] (aG vs x (.own a (own++[.str y]))):=λA s W I F=>
 aas (wpAny_Expr (wpAny_Call_append hbase hfew hline htrees (jq hv hx F hd (by
  refine nb λnn=>?_;obtain⟨ql,items,n,hg,ds⟩:=iH hv hx F;refine nn<|⟨a,items,J,⟨_,n,hg,J,J,J⟩,wpAny_Constant_str ?_⟩
  have aU:Fm C Γ W s.heap vs:=F;refine wpAny_list_append_plain ⟨n,hg⟩ (λh' ⟨n₂,hp⟩ Ja=>?_) (by have:=ds.length;simp only[Array.length_toList] at this;rw[sizeLine];exact Y_ hlen this);refine nb λnn=>?_;obtain⟨W',h1,h2,h3,h4,h5⟩:=rT (tk:=s.toks+1) aU I hv hx Ja hp (l':=own++[.str y]) (by exact rl Array.toList_push ((bD.snoc (.str _ _) ds)));exact nn<|abv ⟨J,F.set_own hv hx Ja hp (by exact rl Array.toList_push ((bD.snoc (.str _ _) ds))),h4,h5⟩))) hint hs)
theorem pU(F:Fm C Γ W s.heap vs)(hf:Γ.env.frame=some Γ.env.locals)(eN:iC C l s.heap):iC C (Γ.env::l) s.heap:=λenv he=>by
 refine nb λnn=>?_;rcases aap.mp he with rfl |he
 .obtain⟨m,hn,_⟩:=F.ns
  obtain⟨o,es,ep,ho,hd,_⟩:=hn;exact nn<|⟨by refine rl F.kind ?_;decide,_,o,hf,ho,⟨es,ep,hd⟩,F.lo _ F.lW⟩
 .exact nn<|eN env he
theorem B6(gE:gq C Γ vs st .next vs')(iI:B5 C Γ l vs' ss X cG):B5 C Γ l vs (st::ss) X cG:=λA s W G I F j9 eN hl=>
 aas (cS (gE A s W G I F) λf aq bI=>by
  obtain⟨fP,h1,h2,aU,a_,aF⟩:=bI;cases Bg.ji h2;refine aaQ (iI A aq fP G aF aU j9 (eN.dJ I a_ λL hL=>(hl L hL).2) λL hL=>⟨(hl L hL).1,λq=>(h1 L q).elim (hl L hL).2 λz=>absurd (Au eN L hL) (aaw.mpr z)⟩) (λ_ _ x=>x) ?_;rintro x bH ⟨e,av,rH,h3,h4,bO,aY,r1,r2⟩;refine⟨e,av,rH,h3,λd hd=>?_,bO,a_.trans aY (λd q=>.inl q) h1,r1,r2⟩;rcases h4 d hd with q |q
  .exact h1 d q
  .exact .inr (aaf a_.size q))
theorem B7{test:Expr}{body orelse:acr}{p:Pos}(T:Ts C Γ vs test true)(H:B5 C Γ l vs body X cG):B5 C Γ l vs (.If test body orelse p::ss) X cG:=λA s W G I F j9 eN hl=>
 aas (wpAny_If (cS (T A s W G I F) λr aq bI=>by obtain⟨h1,h2,h3⟩:=bI;subst h1;refine aaQ (H A aq W G h3 (F.dJ I h2) j9 (eN.dJ I h2 λ_ _ q=>nomatch q) hl) (λ_ _ x=>x.elim) ?_;rintro x bH ⟨e,av,rH,h4,h5,bO,aY,r1,r2⟩;exact⟨e,av,rH,h4,λd hd=>(h5 d hd).imp id λq=>aaf h2.size q,bO,h2.up.trans aY (λd q=>.inl q) (λd q=>.inl q),r1,r2⟩))
theorem B8{test:Expr}{body orelse:acr}{p:Pos}(T:Ts C Γ vs test false)(H:B5 C Γ l vs orelse X cG):B5 C Γ l vs (.If test body orelse p::ss) X cG:=λA s W G I F j9 eN hl=>
 aas (wpAny_If (cS (T A s W G I F) λr aq bI=>by obtain⟨h1,h2,h3⟩:=bI;subst h1;refine aaQ (H A aq W G h3 (F.dJ I h2) j9 (eN.dJ I h2 λ_ _ q=>nomatch q) hl) (λ_ _ x=>x.elim) ?_;rintro x bH ⟨e,av,rH,h4,h5,bO,aY,r1,r2⟩;exact⟨e,av,rH,h4,λd hd=>(h5 d hd).imp id λq=>aaf h2.size q,bO,h2.up.trans aY (λd q=>.inl q) (λd q=>.inl q),r1,r2⟩))
theorem jT{lx rx:Expr}{pos p p':Pos}{x:Str}(hf:Γ.env.frame=some Γ.env.locals)(gE:Ev C Γ vs lx m₁)(iI:Ev C Γ vs rx m₂)(H:B3 C Γ.k op m₁ m₂ X)(hs:swapsWith (.BinOp lx op rx pos) (some (.Name x p')) p.line Γ.env=pure false):B5 C Γ l vs (.Assign [.Name x p'] (.BinOp lx op rx pos) p::ss) X vs:=λA s W G I F j9 eN hl=>
 aas (ab_ (wpAny_BinOp (gE.use G I F λa aq bx a_ aF aU=>iI.use G aF aU λb av bG aY bu bO=>
  aaQ (H A av _ a b (Γ.env::l) G bu bO.mw (bx.dJ aF aY aU.cj) bG j9 (pU bO hf (eN.dJ I (a_.then aY) λ_ _ q=>nomatch q))) (λ_ _ q=>q.elim) λx bH bI=>by obtain⟨e,h1,h2⟩:=bI;exact⟨e,av,W,h1,λd q=>.inl q,bO,(a_.then aY).up,bu,h2⟩)) hs)
theorem GS{rx:Expr}{p p':Pos}{x:Str}(hf:Γ.env.frame=some Γ.env.locals)(gE:Ld C Γ vs x m₁)(iI:Ev C Γ vs rx m₂)(H:Ax C Γ.k op m₁ m₂ X):B5 C Γ l vs (.AugAssign (.Name x p') op rx p::ss) X vs:=λA s W G I F j9 eN hl=>by
 refine aas (wpAny_AugAssign_Name ?_);refine cS (gE A s W G I F) λa aq ⟨bx,a_,aF⟩=>iI.use G aF (F.dJ I a_) λb av bG aY bu bO=>
  aaQ (H A av _ a b (Γ.env::l) G bu bO.mw (bx.dJ aF aY F.cj) bG j9 (pU bO hf (eN.dJ I (a_.then aY) λ_ _ q=>nomatch q))) (λ_ _ q=>q.elim) λx bH ⟨e,h1,h2⟩=>⟨e,av,W,h1,λd q=>.inl q,bO,(a_.then aY).up,bu,h2⟩
theorem DM{body:acr}{h₀:ExceptHandler}{hs:List ExceptHandler}{pos:Pos}(H:mz C Γ vs body .next vs'):gq C Γ vs (.Try body (h₀::hs) [] [] pos) .next vs':=λA s W G I F=>
 wpAny_Try_except (cS (H A s W G I F) λf aq bI=>by obtain⟨fP,h1,h2,aU,a_,aF⟩:=bI;cases Bg.ji h2;exact abv ⟨fP,h1,trivial,aU,a_,aF⟩)
structure Ky(C:Cx)(Γ:Gm)(l:List Env)(X:String)(e:Addr)(base:Heap)(a0:Value)(aq:Shared)(h:Heap):Prop where
 Mp:Heap.FlyingW base (Γ.env::l) e (.type X) a0 h
 size:aq.heap.objs.size<=h.objs.size
 slots:∀L∈frs (Γ.env::l),∀o,aq.heap.get? L=some o->∃sl,h.get? L=some {o with slots:=sl}
theorem Ky.step{a0:Value}{e:Addr}(c:Ky C Γ l X e base a0 aq h)(eN:iC C (Γ.env::l) aq.heap)(hfl:Heap.FlyingW base (Γ.env::l) e (.type X) a0 h')(hz:h.objs.size<=h'.objs.size)(hup:h.UpToSlots h'):Ky C Γ l X e base a0 aq h':=
 ⟨hfl,aaf c.size hz,λL hL o ho=>by refine nb λnn=>?_;obtain⟨sl,h1⟩:=c.slots L hL o ho;obtain⟨_,o',h2,h3⟩:=eN.lo hL;replace ho:=h2▸ho;cases ho;obtain⟨Rg,h4⟩:=hup L {o with slots:=sl} h1 h3;exact nn<|⟨Rg,h4⟩⟩
theorem Ky.use{a0:Value}{e:Addr}(c:Ky C Γ l X e base a0 aq h)(hf:Γ.env.frame=some Γ.env.locals)(aF:Inv C aq)(aU:Fm C Γ W aq.heap cG)(eN:iC C (Γ.env::l) aq.heap)(hl:∀L∈frs l,L∈Γ.Do)
 (hb1:∀b o,aq.heap.get? b=some o->b∉C.tabs->b∉frs (Γ.env::l)->base.get? b=some o) (hb2:∀q∈C.T,qm base q) (hbare:AllBare s'.gens) (hos:s'.os=C.os) :
 Inv C {s' with heap:=h}/\Fm C Γ W h cG/\Kept (frs (Γ.env::l)++C.tabs) aq.heap h:=by
 have fE:frs (Γ.env::l)=Γ.env.locals::frs l:=by simp[frs,hf]
 have hk:Kept (frs (Γ.env::l)++C.tabs) aq.heap h:=λb o hb e=>c.Mp.1 b o (hb1 b o e (λq=>hb (aad _ q)) (λq=>hb (aah _ q)));refine⟨Av (s:=s') aF.ok c.Mp.1 (λb o hb ht=>?_) hb2 (aaf aF.size c.size) hbare hos,?_,hk⟩
 .refine hb1 b o (aF.old b o hb ht) hb λq=>?_
  exact absurd (aaB ht) (aaw.mpr (eN.lo q).1)
 .refine aU.slots (F₀:=frs (Γ.env::l)) c.size hk (λd hd=>?_) (λc' v hc hi=>?_) (λc' v hc hi=>xJ aF hi hc) (λm hn=>?_) (λd hd q=>aX aF (aU.lo d q) hd)
  .replace hd:=fE▸hd
   rcases aap.mp hd with q |q
   .exact .inl q
   .exact .inr (hl d q)
  .obtain⟨env,he,hfe⟩:=List.mem_filterMap.mp hc
   obtain⟨_,L,o,h1,h2,h3,_⟩:=eN env he;replace h1:=hfe▸h1;obtain rfl:=aax h1;obtain⟨o',h4,h5⟩:=hi;obtain⟨es,ep,h6⟩:=h3;replace h4:=h2▸h4;obtain rfl:=aax h4;replace h5:=h6▸h5;cases h5
  .obtain⟨o,es,ep,ho,hd,r⟩:=hn
   obtain⟨sl,h1⟩:=c.slots Γ.env.locals (by exact rl fE ((.head _))) o ho;exact⟨_,es,ep,h1,hd,r⟩
theorem GU{y:Str}{pos:Pos}{c:Value}(I:Inv C s)(F:Fm C Γ W s.heap vs)(hx:Γ.env.kindOf y=some .globalImplicit)(e:nsIn C.K mainGlobals y=some none)(hb:bootBuiltins y=some c)(hn:y≠"__name__")(hd:(y==("__debug__":Str))=false){Q:ach}(h:Q c s) :
 wpAny (model P0 C.w) A (eval (.Name y pos) Γ.env) Q E s:=
 Name_function_global F.kind hx (loadGlobal_builtin (env:=Γ.env) (by exact rl F.glob (I.top.g)) (mg_none_of I.om I.top.g e) (by exact rl F.bi (I.top.b)) ((I.top.builtins y hn).trans hb) h) hd
theorem B9{y:Str}{np hp:Pos}{b₀:Stmt}{suite:acr}{rest:List ExceptHandler}{a0:Value}{e:Addr}{h:Heap}{T:String}
 (hexc:isSubtype (.type T) (.type "BaseException")=pure true) (hnt:isSubtype (.type ((Manifest.find? T).elim "type" λx=>x.metatype)) (.type "tuple")=pure false) (hsub:isSubtype (.type X) (.type T)=pure true)
 (hx:Γ.env.kindOf y=some .globalImplicit) (en:nsIn C.K mainGlobals y=some none) (hb:bootBuiltins y=some (.type T)) (hn:y≠"__name__") (hd:(y==("__debug__":Str))=false)
 (c:Ky C Γ l X e base a0 aq h) (hf:Γ.env.frame=some Γ.env.locals) (aF:Inv C aq) (aU:Fm C Γ W aq.heap cG) (eN:iC C (Γ.env::l) aq.heap) (hl:∀L∈frs l,L∈Γ.Do/\L∉W)
 (hb1:∀b o,aq.heap.get? b=some o->b∉C.tabs->b∉frs (Γ.env::l)->base.get? b=some o) (hb2:∀q∈C.T,qm base q) (hbare:AllBare s'.gens) (hos:s'.os=C.os) (hgens:∀(g:Nat)(x:GenState),aq.gens[g]?=some x->s'.gens[g]?=some x)
 (H:Ri C Γ cG (b₀::suite) vs') {Q:Flow->Shared->Prop} (hQ:∀gp,Fm C Γ W gp.heap vs'->bL C (frs l++W) aq gp->(∀L∈frs l,∀o,aq.heap.get? L=some o->∃sl,gp.heap.get? L=some {o with slots:=sl})->Inv C gp->Q .next gp) :
 wpAny (model P0 C.w) A (handleBy (.ref e) Γ.env (.ExceptHandler (some (.Name y np)) none (b₀::suite) hp::rest)) Q E {s' with heap:=h}:=by
 have fE:frs (Γ.env::l)=Γ.env.locals::frs l:=by simp[frs,hf]
 refine nb λnn=>?_;obtain⟨bu,bO,hk₂⟩:=c.use (s':=s') hf aF aU eN (λL hL=>(hl L hL).1) hb1 hb2 hbare hos;refine nn<|wpAny_handleBy_builtin (X:=X) (T:=T) (b:=true) hexc hnt hsub (GU bu bO hx en hb hn hd ⟨J,c.Mp.there,?_⟩)
 refine rl (aaN J) ?_;refine fQ (lands_againW c.Mp (Q:=λ_ gp=>∃h',gp={s' with heap:=h'}/\Heap.FlyingW base (Γ.env::l) e (.type X) a0 h'/\h.UpToSlots h') λh' h1 h2=>⟨h',J,h1,h2⟩) ?_;rintro _ gp hsz ⟨h',rfl,h1,h2⟩;have c':=c.step eN h1 hsz h2;refine nb λnn=>?_;obtain⟨ez,iz,Rj⟩:=c'.use (s':=s') hf aF aU eN (λL hL=>(hl L hL).1) hb1 hb2 hbare hos;refine nn<|cS (H _ {s' with heap:=h'} W ez iz) λf fF ⟨hfl,jA,jh,jZ⟩=>?_
 subst hfl;have Kz:bL C (frs l++W) aq {s' with heap:=h'}:=⟨c'.size,λb o hb ho=>Rj b o (λq=>hb ?_) ho,hgens⟩
 .refine hQ fF jA (Kz.eS (jh.weak λd q=>aad _ q)) (λL hL o ho=>?_) jZ
  obtain⟨sl,h4⟩:=c'.slots L (by exact rl fE ((.tail _ hL))) o ho;exact⟨sl,jh.keep L _ (λq=>(aag.mp q).elim (hl L hL).2 (aX aF (eN.lo (by exact rl fE ((.tail _ hL)))).1)) h4⟩
 .rcases aag.mp q with q |q
  .replace q:=fE▸q
   rcases aap.mp q with q |q
   .exact aah _ (aad _ (by exact rl q (aU.lW)))
   .exact aah _ (aah _ q)
  .exact aad _ q
theorem GV{y:Str}{np hp:Pos}{b₀:Stmt}{suite:acr}{rest:List ExceptHandler}{a0:Value}{e:Addr}{h:Heap}{T:String}
 (hexc:isSubtype (.type T) (.type "BaseException")=pure true) (hnt:isSubtype (.type ((Manifest.find? T).elim "type" λx=>x.metatype)) (.type "tuple")=pure false) (hsub:isSubtype (.type X) (.type T)=pure false)
 (hx:Γ.env.kindOf y=some .globalImplicit) (en:nsIn C.K mainGlobals y=some none) (hb:bootBuiltins y=some (.type T)) (hn:y≠"__name__") (hd:(y==("__debug__":Str))=false)
 (c:Ky C Γ l X e base a0 aq h) (bu:Inv C {s' with heap:=h}) (bO:Fm C Γ W h cG) {Q:Flow->Shared->Prop} (H:wpAny (model P0 C.w) A (handleBy (.ref e) Γ.env rest) Q E {s' with heap:=h}) :
 wpAny (model P0 C.w) A (handleBy (.ref e) Γ.env (.ExceptHandler (some (.Name y np)) none (b₀::suite) hp::rest)) Q E {s' with heap:=h}:=by
 refine wpAny_handleBy_builtin (X:=X) (T:=T) (b:=false) hexc hnt hsub (GU (s:={s' with heap:=h}) bu bO hx en hb hn hd ⟨J,c.Mp.there,?_⟩);refine rl (aaD (by decide)) ?_;exact H
theorem yQ{body:acr}{h₀:ExceptHandler}{hs:List ExceptHandler}{pos:Pos}{bM:Shared}(hf:Γ.env.frame=some Γ.env.locals)(H:B5 C Γ l vs body X cG)
 (HH:∀(A:Around)(aq s':Shared)(h:Heap)(base:Heap)(a0:Value)(e:Addr)(W:acq)(Q:Flow->Shared->Prop),Ky C Γ l X e base a0 aq h->Inv C aq->Fm C Γ W aq.heap cG->iC C (Γ.env::l) aq.heap->(∀L∈frs l,L∈Γ.Do/\L∉W)->
  (∀b o,aq.heap.get? b=some o->b∉C.tabs->b∉frs (Γ.env::l)->base.get? b=some o)->(∀q∈C.T,qm base q)->AllBare s'.gens->s'.os=C.os->(∀(g:Nat)(x:GenState),aq.gens[g]?=some x->s'.gens[g]?=some x)->
  (∀gp,Fm C Γ W gp.heap vs'->bL C (frs l++W) aq gp->(∀L∈frs l,∀o,aq.heap.get? L=some o->∃sl,gp.heap.get? L=some {o with slots:=sl})->Inv C gp->Q .next gp)->
  wpAny (model P0 C.w) A (handleBy (.ref e) Γ.env (h₀::hs)) Q ig {s' with heap:=h}) :
 DL C Γ (frs l) (B4 C Γ.env l bM) vs (.Try body (h₀::hs) [] [] pos) (B4 C Γ.env l bM) vs':=λA s W G I F hX bI=>by
 refine nb λnn=>?_;obtain⟨j9,eN,hsl⟩:=bI;refine nn<|wpAny_Try_except (aaQ (H A s W G I F j9 eN λL hL=>⟨(hX L hL).1,(hX L hL).2.1⟩) (λ_ _ x=>x.elim) ?_)
 rintro x s' ⟨e,aq,fP,rfl,kZ,aU,a_,aF,y⟩;refine nb λnn=>?_;obtain⟨base,a0,hfl,hb1,hb2⟩:=y.Mp;have lN:=pU aU hf (eN.dJ I a_ λL hL=>(hX L hL).2.1);have c:Ky C Γ l X e base a0 aq s'.heap:=⟨hfl,y.size,y.slots⟩;refine nn<|fQ (wpAny_looks_onW (s:=s') (E:=ig) j9 hf hfl (Q:=λ_ gp=>∃h',gp={s' with heap:=h'}/\Heap.HeldW base (Γ.env::l) e (.type X) a0 Γ.env.locals h'/\s'.heap.UpToSlots h') λh' h1 h2=>⟨h',J,h1,h2⟩) ?_
 rintro _ gp Rk ⟨jy,rfl,hheld,Nz⟩;refine fQ (wpAny_landsW (s:={s' with heap:=jy}) (E:=ig) hheld (Q:=λ_ gp=>∃h',gp={s' with heap:=h'}/\Heap.FlyingW base (Γ.env::l) e (.type X) a0 h'/\jy.UpToSlots h') λh' h1 h2=>⟨h',J,h1,h2⟩) ?_;rintro _ gp Rl ⟨h₂,rfl,NB,NC⟩;have c₂:=c.step lN NB (aaf Rk Rl) (Nz.trans NC);have hl₁:∀L∈frs l,L∈Γ.Do/\L∉fP:=λL hL=>⟨(hX L hL).1,λq=>(kZ L q).elim (hX L hL).2.1 λz=>absurd (hX L hL).2.2.1 (aaw.mpr z)⟩;refine HH A aq s' h₂ base a0 e fP _ c₂ aF aU lN hl₁ hb1 hb2 y.inv.bare y.inv.os y.gens λgp WX t'' Rm I3=>?_;have XY:iC C l aq.heap:=eN.dJ I a_ λL hL=>(hX L hL).2.1;refine⟨J,fP,kZ,WX,(a_.weak λd q=>aad _ q).trans t'' (λd q=>.inl q) (λd hd=>(aag.mp hd).elim (λq=>.inl (aah _ q)) λq=>(kZ d q).imp (λz=>aad _ z) id),I3,j9,XY.kept Rm,λL hL o ho=>?_⟩;obtain⟨sl,h1⟩:=hsl L hL o ho;obtain⟨Rg,h2⟩:=Rm L hL _ (a_.keep L _ (λq=>(aag.mp q).elim (hX L hL).2.1 (aX I (hX L hL).2.2.2)) h1);exact⟨Rg,h2⟩
end
structure dR where
 rows:Rows
 tr:Bool
 m:Nat
 n:Nat
noncomputable def dR.M(A:dR):Nat:=dm A.m A.n A.tr
noncomputable def dR.N(A:dR):Nat:=dn A.m A.n A.tr
noncomputable def dR.at(A:dR)(i j:Nat):acu:=cN A.rows A.tr i j
structure dR.ok(q:Int)(nn:Nat)(A:dR):Prop where
 jw:oh q nn A.rows A.m A.n
 n0:0<A.n
 Mt:A.m<=30/\A.n<=30
noncomputable def B_(M N:Nat)(g:Nat->Nat->acu):dR:=⟨fq M N g,false,M,N⟩
noncomputable def dR.val(Cm Cp:Addr)(mo ri:MV)(A:dR):MV:=fT Cm Cp mo ri A.rows A.tr
noncomputable def jd(nn:Nat):acu:=[1]++List.replicate (nn-1) 0
noncomputable def wY(q:Int)(nn:Nat)(small:Int)(a b:acu):acu:=kW q (small.fdiv 7) (oH q (lK q small (jL q 2 (gj q nn a (jL q 3 b)))))
theorem dR.pos{q:Int}{nn:Nat}{A:dR}(h:A.ok q nn):0<A.M/\0<A.N/\A.M<=30/\A.N<=30:=by have:=h.jw.m0;have:=h.n0;have:=h.Mt;unfold dR.M dR.N dm dn;cases A.tr<;>simp<;>(first |exact PO (by assumption) (by assumption) this |exact Uy (by assumption) (by assumption) this)
theorem dR.ent{q:Int}{nn:Nat}{A:dR}(h:A.ok q nn){i j:Nat}(hi:i<A.M)(hj:j<A.N):(A.at i j).length=nn/\Red q (A.at i j):=h.jw.ent hi hj
theorem dR.get{q:Int}{nn:Nat}{A:dR}(h:A.ok q nn){i j:Nat}(hi:i<A.M)(hj:j<A.N):jI A.rows A.tr i j=some (A.at i j):=h.jw.toShape.jI hi hj
theorem AH{q:Int}{nn M N:Nat}{g:Nat->Nat->acu}(h0:0<M)(h0':0<N)(h1:M<=30)(h2:N<=30)(h:∀i j,i<M->j<N->(g i j).length=nn/\Red q (g i j)):(B_ M N g).ok q nn:=
 ⟨Kf h0 (by show M<=100;omega) (by show N<=100;omega) h,h0',h1,h2⟩
theorem pX{q:Int}(hq:0<q){α:Type}(l:List α)(f:α->Int):Red q (l.map λx=>(f x).fmod q):=λc hc=>by obtain⟨d,_,rfl⟩:=aan.mp hc;exact⟨abk _ hq,aby _ hq⟩
theorem Ca{q:Int}(hq:0<q){cs:acu}(h:Red q cs)(i:Nat)(x:Int):Red q (cs.set i (x.fmod q)):=λc hc=>by
 rcases List.mem_or_eq_of_mem_set hc with z |z
 .exact h c z
 .exact rl z (⟨abk _ hq,aby _ hq⟩)
theorem yR{q:Int}(hq:0<q)(a b:acu):Red q (ie q a b):=pX hq _ _
theorem GW{q:Int}(hq:0<q)(a b:acu):Red q (iV q a b):=pX hq _ _
theorem GX{q:Int}(hq:0<q)(a:acu):Red q (oH q a):=pX hq _ _
theorem Cb{q:Int}(hq:1<q)(nn:Nat):Red q (jd nn):=λc hc=>by
 rcases aag.mp hc with h |h
 .refine rl (aam.mp h) ?_;omega
 .refine rl ((List.mem_replicate.mp h).2) ?_;omega
theorem nJ{nn:Nat}(h:0<nn):(jd nn).length=nn:=by simp[jd];exact Uz h
theorem GY{q:Int}{n:Nat}{a b:acu}(ha:a.length=n)(hb:b.length=n):(iV q a b).length=n:=by rw[iV,aai,aaZ];exact a8 ha hb
theorem Cd{q:Int}(hq:0<q){nn:Nat}:∀(e:Nat)(g f:acu),g.length=nn->f.length=nn->Red q g->Red q f->(oJ q nn g f e).length=nn/\Red q (oJ q nn g f e):=by
 intro e
 induction e using Nat.strongRecOn with
 |ind e ih=>
  intro g f h1 h2 h3 h4;by_cases h0:e=0
  .subst h0;exact rl (qw ..) (⟨h1,h3⟩)
  .refine rl (qx _ _ _ _ h0) ?_
   refine ih (e/2) (by exact zP h0) _ _ ?_ (gJ ..) ?_ (jv hq _ _ _)
   .split
    .exact gJ ..
    .exact h1
   .split
    .exact jv hq _ _ _
    .exact h3
theorem KA{q:Int}(hq:0<q){nn:Nat}(l:ack)(h0:l≠[])(hl:∀b∈l,b.length=nn/\Red q b):(Kg q l).length=nn/\Red q (Kg q l):=by
 cases l with
 |nil=>exact absurd J h0
 |cons c l=>
  refine⟨wV l _ (tM (hl c (.head _)).1) λb hb=>(hl b (.tail _ hb)).1,?_⟩;have h1:Red q (kW q 0 c):=Ca hq (hl c (.head _)).2 _ _;show Red q (l.foldl (ie q) (kW q 0 c));generalize kW q 0 c=a at h1;clear hl h0
  induction l generalizing a with
  |nil=>exact h1
  |cons b l ih=>exact ih _ (yR hq _ _)
theorem KC{q:Int}(hq:0<q){nn:Nat}(rA rB:Rows)(tA tB:Bool)(N i j:Nat)(h0:0<N):(oK q nn rA rB tA tB N i j).length=nn/\Red q (oK q nn rA rB tA tB N i j):=
 KA hq _ (λh=>by have:=aaJ List.length h;simp at this;exact Sz h0 this) λb hb=>by obtain⟨_,_,rfl⟩:=aan.mp hb;exact⟨gJ ..,jv hq _ _ _⟩
theorem Ce{q:Int}(hq:0<q){nn:Nat}(s:Int)(a b:acu):(wY q nn s a b).length=nn/\Red q (wY q nn s a b):=by
 have h1:(lK q s (jL q 2 (gj q nn a (jL q 3 b)))).length=nn:=by rw[lK,abi,jL,aai,gJ]
 have h2:(oH q (lK q s (jL q 2 (gj q nn a (jL q 3 b))))).length=nn:=by rw[oH,aai,h1]
 exact⟨tM h2,Ca hq (GX hq _) _ _⟩
structure gV where
 kind:Nat
 i:Nat
 j:Nat
 small:Nat
 power:Nat
noncomputable def fC(d:gV):MV:=.tup [.int d.kind,.int d.i,.int d.j,.int d.small,.int d.power]
inductive Out where
 |made (A:dR)
 |shape
 |kind
noncomputable def ff(q:Int)(nn:Nat)(A B:dR)(d:gV):Out:=
 if d.kind<2 then if A.N=B.M then .made (B_ A.M B.N λi j=>oK q nn A.rows B.rows A.tr B.tr A.N i j) else .shape
 else if d.kind=2\/d.kind=6 then if A.M=B.M/\A.N=B.N then .made (B_ A.M A.N λi j=>ie q (A.at i j) (B.at i j)) else .shape
 else if d.kind=3 then .made ⟨A.rows,!A.tr,A.m,A.n⟩
 else if d.kind=4 then .made ⟨[[wY q nn d.small (A.at 0 0) (B.at 0 0)]],false,1,1⟩
 else if d.kind=7 then .kind
 else if d.kind=8 then .made ⟨[[oJ q nn (jd nn) (A.at 0 0) d.power]],false,1,1⟩
 else if A.M=B.M/\A.N=B.N then .made (B_ A.M A.N λi j=>iV q (A.at i j) (B.at i j)) else .shape
theorem wZ{q:Int}{nn:Nat}{c:acu}(h:c.length=nn/\Red q c):(dR.mk [[c]] false 1 1).ok q nn:=by
 refine⟨⟨⟨J,λr hr=>?_,Nat.one_pos,aae J,aae J⟩,λr hr x hx=>?_,λr hr x hx=>?_⟩,Nat.one_pos,aae J,aae J⟩
 .refine rl (aam.mp hr) ?_;rfl
 all_goals
  replace hx:=(aam.mp hr)▸hx;refine rl (aam.mp hx) ?_
 .exact h.1
 .exact h.2
theorem Cf{q:Int}(hq:1<q){nn:Nat}(h0:0<nn){A B R:dR}{d:gV}(hA:A.ok q nn)(hB:B.ok q nn)(h:ff q nn A B d = .made R):R.ok q nn:=by
 have rY:0<q:=by exact a7 hq
 have pA:=dR.pos hA;have pB:=dR.pos hB;unfold ff at h;split at h
 .split at h
  .rename_i e;cases h
   exact AH pA.1 pB.2.1 pA.2.2.1 pB.2.2.2 λi j hi hj=>KC rY _ _ _ _ _ _ _ pA.2.1
  .cases h
 .split at h
  .split at h
   .rename_i e;cases h
    exact AH pA.1 pA.2.1 pA.2.2.1 pA.2.2.2 λi j hi hj=>⟨tL (dR.ent hA hi hj).1 (dR.ent hB (by exact Su e hi) (by exact Sv e hj)).1,yR rY _ _⟩
   .cases h
  .split at h
   .cases h
    exact⟨hA.jw,hA.n0,hA.Mt⟩
   .split at h
    .cases h;exact wZ (Ce rY _ _ _)
    .split at h
     .cases h
     .split at h
      .cases h;exact wZ (Cd rY _ _ _ (nJ h0) (dR.ent hA pA.1 pA.2.1).1 (Cb hq nn) (dR.ent hA pA.1 pA.2.1).2)
      .split at h
       .cases h
        exact AH pA.1 pA.2.1 pA.2.2.1 pA.2.2.2 λi j hi hj=>⟨GY (dR.ent hA hi hj).1 (dR.ent hB (by exact Su (by assumption) hi) (by exact Sv (by assumption) hj)).1,GW rY _ _⟩
       .cases h
section
variable{C:Cx}{k k':Nat}{op:Operator}{a b v:MV}{X:String}
theorem uR.mono(H:uR C k op a b v)(h:k<=k'):uR C k' op a b v:=λA s D x y G=>H A s D x y (G.le h)
theorem ou.mono(H:ou C k op a b v)(h:k<=k'):ou C k' op a b v:=λA s D x y G=>H A s D x y (G.le h)
theorem B3.mono(H:B3 C k op a b X)(h:k<=k'):B3 C k' op a b X:=λA s D x y l G=>H A s D x y l (G.le h)
theorem Ax.mono(H:Ax C k op a b X)(h:k<=k'):Ax C k' op a b X:=λA s D x y l G=>H A s D x y l (G.le h)
end
noncomputable def runFor:acr:=kS (((o5 (topS 21))[1]?).getD (.Pass ⟨0,0,0,0⟩)) 0
noncomputable def ND:acr:=kS ((runFor[3]?).getD (.Pass ⟨0,0,0,0⟩)) 0
noncomputable def Mu:Stmt:=(ND[0]?).getD (.Pass ⟨0,0,0,0⟩)
noncomputable def kD(k:Nat)(L:Addr)(bh:Value)(D:acq):Gm:=(gF k "_law_run" (mq (topS 21)) L 807 bh D)
noncomputable def uH(mo gv:MV)(aS aT:Addr)(sh td:acw)(d:gV)(A B g:MV):aC:=
 [("module",.v mo),("guests",.v gv),("shelf",.own aS sh),("told",.own aT td),("kind",.v (.int d.kind)),("i",.v (.int d.i)),("j",.v (.int d.j)),("small",.v (.int d.small)),("power",.v (.int d.power)),("a",.v A),("b",.v B),("guest",.v g)]
section
variable{C:Cx}{Γ:Gm}{vs:aC}
theorem gZ{x:Str}{k:Nat}{p q r:Pos}{n:Nat}{b:Bool}(c:Nat)(hn:Ev C Γ vs (.Name x p) (.int k))(hb:decide (k=c)=b):Ts C Γ vs (.Compare (.Name x p) [.Eq] [.Constant (.int c) n q] r) b:=by
 subst hb;have h:=gO (C:=C) (k:=Γ.k) (k:Int) c;have e:((k:Int)==(c:Int))=decide (k=c):=by rw[abd];simp;exact S_
 rw[e] at h;exact bw hn aA h
theorem AI{x:Str}{k:Nat}{p q r:Pos}{n:Nat}{b:Bool}(c:Nat)(hn:Ev C Γ vs (.Name x p) (.int k))(hb:decide (k<c)=b):Ts C Γ vs (.Compare (.Name x p) [.Lt] [.Constant (.int c) n q] r) b:=by
 subst hb;have h:=mJ (C:=C) (k:=Γ.k) (k:Int) c;have e:decide ((k:Int)<(c:Int))=decide (k<c):=by rw[abd];simp
 rw[e] at h;exact bw hn aA h
theorem yS{k s:Nat}{x y:Str}{p p1 p2 p3 p4 p5 p6 p7 p8:Pos}{n1 n2 n3:Nat}{b:Bool}(c:Nat)(hk:Ev C Γ vs (.Name x p1) (.int k))(hs:Ev C Γ vs (.Name y p4) (.int s))(hb:(decide (k=7)&&decide (s%3=c))=b) :
 Ts C Γ vs (.BoolOp .And [.Compare (.Name x p1) [.Eq] [.Constant (.int 7) n1 p2] p3,.Compare (.BinOp (.Name y p4) .Mod (.Constant (.int 3) n2 p5) p6) [.Eq] [.Constant (.int c) n3 p7] p8] p) b:=by
 subst hb;refine tw (gZ 7 hk J) λ_=>?_;have h:=gO (C:=C) (k:=Γ.k) ((s:Int).fmod 3) c;have e:((s:Int).fmod 3==(c:Int))=decide (s%3=c):=by rw[aaA _ (by decide),abd];simp;exact UA
 rw[e] at h;exact bw (aI hs aA (b9 _ _ (by decide))) aA h
end
noncomputable def ifT:acr->acr
 |s::_=>kS s 0
 |[]=>[]
noncomputable def ifO:acr->acr
 |s::_=>kS s 1
 |[]=>[]
noncomputable def NF:Nat->acr
 |0=>[Mu]
 |n+1=>ifO (NF n)
noncomputable abbrev oO(n:Nat):acr:=ifT (NF n)
noncomputable def KD(C:Cx)(Γ:Gm)(vs:aC)(st:Stmt)(ss:acr):Prop:=(∀vs',mz C Γ vs ss .next vs'->gq C Γ vs st .next vs')/\∀l X cG r,B5 C Γ l vs ss X cG->B5 C Γ l vs (st::r) X cG
section
variable{C:Cx}{Γ:Gm}{vs:aC}{st:Stmt}{ss body orelse:acr}{test:Expr}{p:Pos}{b:Bool}
theorem KG(T:Ts C Γ vs test b):KD C Γ vs (.If test body orelse p) (bif b then body else orelse):=by
 cases b
 .exact⟨λ_=>bq T,λ_ _ _ _=>B8 T⟩
 .exact⟨λ_=>c7 T,λ_ _ _ _=>B7 T⟩
theorem g9(T:Ts C Γ vs test b)(H:KD C Γ vs st ss):KD C Γ vs (.If test body [st] p) (bif b then body else ss):=by
 cases b
 .exact⟨λ_ h=>bq T (aK (H.1 _ h) aJ),λ_ _ _ _ h=>B8 T (H.2 _ _ _ _ h)⟩
 .exact⟨λ_=>c7 T,λ_ _ _ _=>B7 T⟩
end
noncomputable def pY(k r:Nat):acr:=
 bif decide (k<2) then oO 0 else bif decide (k=2) then oO 1 else bif decide (k=3) then oO 2 else bif decide (k=4) then oO 3 else bif decide (k=5) then oO 4 else bif decide (k=6) then oO 5 else
 bif decide (k=7)&&decide (r=0) then oO 6 else bif decide (k=7)&&decide (r=1) then oO 7 else bif decide (k=7) then oO 8 else bif decide (k=8) then oO 9 else NF 10
structure SY(q:Int)(nn:Nat):Prop where
 q1:1<q
 q2:q<=2^64
 n1:0<nn
 n9:nn<=1000
noncomputable def DN(C:Cx)(k:Nat)(mo:MV)(d:gV)(a b:MV)(ss:acr)(r:MV):Prop:=∀L bh D gv aS aT sh td g,mz C (kD k L bh D) (uH mo gv aS aT sh td d a b g) ss .next (aG (uH mo gv aS aT sh td d a b g) "made" (.v r))
structure O4(C:Cx)(k:Nat)(q:Int)(nn:Nat)(V:dR->MV)(mo:MV)(Gs:MV->Prop):Prop extends SY q nn where
 xm:∀{A B:dR},A.ok q nn->B.ok q nn->A.N=B.M->uR C k .MatMult (V A) (V B) (V (B_ A.M B.N λi j=>oK q nn A.rows B.rows A.tr B.tr A.N i j))
 xa:∀{A B:dR},A.ok q nn->B.ok q nn->A.M=B.M/\A.N=B.N->uR C k .Add (V A) (V B) (V (B_ A.M A.N λi j=>ie q (A.at i j) (B.at i j)))
 xs:∀{A B:dR},A.ok q nn->B.ok q nn->A.M=B.M/\A.N=B.N->uR C k .Sub (V A) (V B) (V (B_ A.M A.N λi j=>iV q (A.at i j) (B.at i j)))
 ia:∀{A B:dR},A.ok q nn->B.ok q nn->A.M=B.M/\A.N=B.N->ou C k .Add (V A) (V B) (V (B_ A.M A.N λi j=>ie q (A.at i j) (B.at i j)))
 is:∀{A B:dR},A.ok q nn->B.ok q nn->A.M=B.M/\A.N=B.N->ou C k .Sub (V A) (V B) (V (B_ A.M A.N λi j=>iV q (A.at i j) (B.at i j)))
 vm:∀{A B:dR},A.ok q nn->B.ok q nn->¬A.N=B.M->B3 C k .MatMult (V A) (V B) "ValueError"
 va:∀{A B:dR},A.ok q nn->B.ok q nn->¬(A.M=B.M/\A.N=B.N)->B3 C k .Add (V A) (V B) "ValueError"
 vs:∀{A B:dR},A.ok q nn->B.ok q nn->¬(A.M=B.M/\A.N=B.N)->B3 C k .Sub (V A) (V B) "ValueError"
 ja:∀{A B:dR},A.ok q nn->B.ok q nn->¬(A.M=B.M/\A.N=B.N)->Ax C k .Add (V A) (V B) "ValueError"
 js:∀{A B:dR},A.ok q nn->B.ok q nn->¬(A.M=B.M/\A.N=B.N)->Ax C k .Sub (V A) (V B) "ValueError"
 gm:∀(A:dR){g:MV},Gs g->B3 C k .MatMult (V A) g "TypeError"
 ga:∀(A:dR){g:MV},Gs g->B3 C k .Add (V A) g "TypeError"
 gs:∀(A:dR){g:MV},Gs g->B3 C k .Sub (V A) g "TypeError"
 tr:∀{A:dR} d b,A.ok q nn->DN C k mo d (V A) b (oO 2) (V ⟨A.rows,!A.tr,A.m,A.n⟩)
 four:∀{A B:dR} d,A.ok q nn->B.ok q nn->DN C k mo d (V A) (V B) (oO 3) (V ⟨[[wY q nn d.small (A.at 0 0) (B.at 0 0)]],false,1,1⟩)
 GZ:∀{A:dR} d b,A.ok q nn->d.power<1000->DN C k mo d (V A) b (oO 9) (V ⟨[[oJ q nn (jd nn) (A.at 0 0) d.power]],false,1,1⟩)
 ve:nsIn C.K mainGlobals "ValueError"=some none
 te:nsIn C.K mainGlobals "TypeError"=some none
section
variable{C:Cx}{k:Nat}{q:Int}{nn:Nat}{V:dR->MV}{mo:MV}{Gs:MV->Prop}{A B:dR}{d:gV}
theorem tR{L:Addr}{bh:Value}{D:acq}{gv:MV}{aS aT:Addr}{sh td:acw}{a b g:MV}:KD C (kD k L bh D) (uH mo gv aS aT sh td d a b g) Mu (pY d.kind (d.small%3)):=
 g9 (AI 2 (ao J) J) (g9 (gZ 2 (ao J) J) (g9 (gZ 3 (ao J) J) (g9 (gZ 4 (ao J) J) (g9 (gZ 5 (ao J) J) (g9 (gZ 6 (ao J) J) (g9 (yS 0 (ao J) (ao J) J) (g9 (yS 1 (ao J) (ao J) J) (g9 (gZ 7 (ao J) J) (KG (gZ 8 (ao J) J))))))))))
noncomputable def AJ(C:Cx)(k:Nat)(V:dR->MV)(mo:MV)(Gs:MV->Prop)(d:gV)(A B:dR):Out->Prop
 |.made R=>DN C k mo d (V A) (V B) (pY d.kind (d.small%3)) (V R)
 |.shape=>∀L bh gv aS aT sh td g l,∃cG,(∀D,B5 C (kD k L bh D) l (uH mo gv aS aT sh td d (V A) (V B) g) (pY d.kind (d.small%3)) "ValueError" cG)/\(cG=uH mo gv aS aT sh td d (V A) (V B) g\/cG=aG (uH mo gv aS aT sh td d (V A) (V B) g) "made" (.v (V A)))
 |.kind=>∀L bh gv aS aT sh td g l D,Gs g->B5 C (kD k L bh D) l (uH mo gv aS aT sh td d (V A) (V B) g) (pY d.kind (d.small%3)) "TypeError" (uH mo gv aS aT sh td d (V A) (V B) g)
theorem KH(P:O4 C k q nn V mo Gs)(hA:A.ok q nn)(hB:B.ok q nn)(hk:d.kind<10)(hp:d.power<1000):AJ C k V mo Gs d A B (ff q nn A B d):=by
 obtain⟨kd,di,dj,small,power⟩:=d
 suffices h:∀kd∈[0,1,2,3,4,5,6,7,8,9],AJ C k V mo Gs ⟨kd,di,dj,small,power⟩ A B (ff q nn A B ⟨kd,di,dj,small,power⟩) from h kd (aa7.mpr hk)
 refine mc ?_ (mc ?_ (mc ?_ (mc ?_ (mc ?_ (mc ?_ (mc ?_ (mc ?_ (mc ?_ (mc ?_ n0)))))))))
 iterate 2
  .show AJ _ _ _ _ _ _ _ _ (if A.N=B.M then _ else _)
   split
   .exactλ_ _ _ _ _ _ _ _ _=>aK (aE (aI (ao J) (ao J) (P.xm hA hB ‹_›)) (az J) J) aJ
   .exactλ_ _ _ _ _ _ _ _ _=>⟨_,λ_=>jT J (ao J) (ao J) (P.vm hA hB ‹_›) J,.inl J⟩
 .show AJ _ _ _ _ _ _ _ _ (if A.M=B.M/\A.N=B.N then _ else _)
  split
  .exactλ_ _ _ _ _ _ _ _ _=>aK (aE (aI (ao J) (ao J) (P.xa hA hB ‹_›)) (az J) J) aJ
  .exactλ_ _ _ _ _ _ _ _ _=>⟨_,λ_=>jT J (ao J) (ao J) (P.va hA hB ‹_›) J,.inl J⟩
 .exact P.tr _ _ hA
 .exact P.four _ hA hB
 .show AJ _ _ _ _ _ _ _ _ (if A.M=B.M/\A.N=B.N then _ else _)
  split
  .exactλ_ _ _ _ _ _ _ _ _=>aK (aE (ao J) (az J) J) (aK (sC (c6 J J) (ao J) (P.is hA hB ‹_›) (az J)) aJ)
  .exactλ_ _ _ _ _ _ _ _ _=>⟨_,λ_=>B6 (aE (ao J) (az J) J) (GS J (c6 J J) (ao J) (P.js hA hB ‹_›)),.inr J⟩
 .show AJ _ _ _ _ _ _ _ _ (if A.M=B.M/\A.N=B.N then _ else _)
  split
  .exactλ_ _ _ _ _ _ _ _ _=>aK (aE (ao J) (az J) J) (aK (sC (c6 J J) (ao J) (P.ia hA hB ‹_›) (az J)) aJ)
  .exactλ_ _ _ _ _ _ _ _ _=>⟨_,λ_=>B6 (aE (ao J) (az J) J) (GS J (c6 J J) (ao J) (P.ja hA hB ‹_›)),.inr J⟩
 .intro L bh gv aS aT sh td g l D hg
  show B5 _ _ _ _ (pY 7 (small%3)) _ _
  match small%3 with
  |0=>exact jT J (ao J) (ao J) (P.ga A hg) J
  |1=>exact jT J (ao J) (ao J) (P.gs A hg) J
  |_+2=>exact jT J (ao J) (ao J) (P.gm A hg) J
 .exact P.GZ _ _ hA hp
 .show AJ _ _ _ _ _ _ _ _ (if A.M=B.M/\A.N=B.N then _ else _)
  split
  .exactλ_ _ _ _ _ _ _ _ _=>aK (aE (aI (ao J) (ao J) (P.xs hA hB ‹_›)) (az J) J) aJ
  .exactλ_ _ _ _ _ _ _ _ _=>⟨_,λ_=>jT J (ao J) (ao J) (P.vs hA hB ‹_›) J,.inl J⟩
end
noncomputable abbrev oQ(N:Nm)(a:Addr)(r?:acn)(q:Int)(nn:Nat)(A:dR):MV:=A.val N.CM N.CP (cK N.CO (some a) (ay N.CR r? q nn)) (ay N.CR r? q nn)
noncomputable def r_(N:Nm)(C:Cx)(a:Addr)(g:MV):Prop:=(∃z? gs,g = .inst z? N.XM gs)\/∃b nV rows tr,a≠b/\g=mr N (some b) nV rows tr
section
variable{C:Cx}{N:Nm}(S:G3 C N){k:Nat}{q:Int}{nn:Nat}(P:SY q nn)(a:Addr)(r?:acn){A B:dR}(d:gV)
include S P
theorem G4(hA:A.ok q nn)(hB:B.ok q nn):DN C (k+16) (cK N.CO (some a) (ay N.CR r? q nn)) d (oQ N a r? q nn A) (oQ N a r? q nn B) (oO 3) (oQ N a r? q nn ⟨[[wY q nn d.small (A.at 0 0) (B.at 0 0)]],false,1,1⟩):=by
 intro L bh D gv aS aT sh td g;have hq:q≠0:=a4 P.q1;have rY:0<q:=a7 P.q1;have pA:=dR.pos hA;have pB:=dR.pos hB;have eA:=dR.ent hA pA.1 pA.2.1;have eB:=dR.ent hB pB.1 pB.2.1;have l3:(jL q 3 (B.at 0 0)).length=nn:=by rw[jL,aai];exact eB.1
 have l5:(gj q nn (A.at 0 0) (jL q 3 (B.at 0 0))).length=nn:=gJ ..;have l6:(jL q 2 (gj q nn (A.at 0 0) (jL q 3 (B.at 0 0)))).length=nn:=by rw[jL,aai];exact l5
 have l7:(oH q (lK q d.small (jL q 2 (gj q nn (A.at 0 0) (jL q 3 (B.at 0 0)))))).length=nn:=by rw[oH,aai,lK,abi];exact l6
 exact aK (aE (cR (ao J) (aj (eF (aj (eF (aj (aI (aI (ao J) (aI (aI (bP S.o.cT (ao J) (bW (aj aA (aj aA ak)) (aae J)) (cU S.o (k:=k) _ _ _ _ 0 0 _ (dR.get hA pA.1 pA.2.1) (by decide) (by decide)) (by show k+2+1<=k+16;exact Sn) (λ_ _=>rfl)) (aI aA (bP S.o.cT (ao J) (bW (aj aA (aj aA ak)) (aae J)) (cU S.o (k:=k) _ _ _ _ 0 0 _ (dR.get hB pB.1 pB.2.1) (by decide) (by decide)) (by show k+2+1<=k+16;exact Sn) (λ_ _=>rfl))
  ((wD (op:=.Mult) Dv S.o.j4 S.o.QU (Ga S.toG0 (k:=k) r? q 3 nn _ hq P.n9 eB.1 λc hc=>.of_left (j5 (eB.2 c hc).1 (abO (eB.2 c hc).2 P.q2)))).mono Bc))
  ((e_ (op:=.Mult) S.o.u9 S.o.j4 (BS S.toG0 (k:=k) r? r? q q nn nn _ _ hq P.n9 eA.1 l3 (wU P.q2 eA.2))).mono S6)) aA
  ((mL (op:=.Mult) S.o.u9 S.o.j4 S.o.QO (BQ S.toG0 (k:=k) r? q 2 nn _ hq P.n9 l5 λc hc=>.of_left (j5 (jv rY _ _ _ c hc).1 (abO (jv rY _ _ _ c hc).2 P.q2)))).mono S6))
  ((wD (op:=.Sub) Du S.o.j4 S.o.QV (F_ S.toG0 (k:=k) r? q d.small nn _ hq P.n9 l6 P.n1)).mono Bc)) (aI (ao J) aA (iF _ _ (by decide) (abl (by decide))))
  ((mL (op:=.Add) S.o.yp S.o.j4 S.o.QS (BP S.toG0 (k:=k) r? q ((d.small:Int).fdiv 7) nn _ hq P.n9 l7 P.n1)).mono S6)) ak) (aae J)) ak) (aae J)) ak) cJ (bQ S.o.fk ((S.Jc (k:=k) (some a) r? q nn [[wY q nn d.small (A.at 0 0) (B.at 0 0)]] 1 1 (wZ (Ce rY _ _ _)).jw.toShape).mono (k':=k+16) YT))) (az J) J) aJ
theorem Cg(b:MV)(hA:A.ok q nn)(hp:d.power<1000):DN C (k+16) (cK N.CO (some a) (ay N.CR r? q nn)) d (oQ N a r? q nn A) b (oO 9) (oQ N a r? q nn ⟨[[oJ q nn (jd nn) (A.at 0 0) d.power]],false,1,1⟩):=by
 intro L bh D gv aS aT sh td g;have pA:=dR.pos hA;have eA:=dR.ent hA pA.1 pA.2.1;have rY:0<q:=a7 P.q1;exact aK (aE (cR (ao J) (aj (eF (aj (eF (aj (aI (bP S.o.cT (ao J) (bW (aj aA (aj aA ak)) (aae J)) (cU S.o (k:=k) _ _ _ _ 0 0 _ (dR.get hA pA.1 pA.2.1) (by decide) (by decide)) (by show k+2+1<=k+16;exact Sn) (λ_ _=>rfl)) (ao J)
  ((mL (op:=.Pow) S.o.QW S.o.j4 S.o.QT (Gh S.toG0 (k:=k) r? q nn d.power _ rY P.q2 P.n9 P.q1 P.n1 eA.1 eA.2 hp)).mono Pc)) ak) (aae J)) ak) (aae J)) ak) cJ (bQ S.o.fk ((S.Jc (k:=k) (some a) r? q nn [[oJ q nn (jd nn) (A.at 0 0) d.power]] 1 1 (wZ (Cd rY _ _ _ (nJ P.n1) eA.1 (Cb P.q1 nn) eA.2)).jw.toShape).mono (k':=k+16) YT))) (az J) J) aJ
end
section
variable{C:Cx}(S:G3 C kN){k:Nat}{q:Int}{nn:Nat}(P:SY q nn)(a:Addr)(r?:acn)
include S P
theorem Rn:O4 C (k+16) q nn (oQ kN a r? q nn) (cK kN.CO (some a) (ay kN.CR r? q nn)) (r_ kN C a) where
 toSY:=P
 xm hA hB h:=(e_ S.o.ju S.o.dY (Gy S (k:=k) a r? q nn _ _ _ _ _ _ _ _ (a7 P.q1) P.q2 P.n9 P.n1 hA.jw hB.jw h (dR.pos hA).1 (dR.pos hA).2.1)).mono YU
 xa hA hB h:=(e_ S.o.jD S.o.dY (Gr S (k:=k) a r? q nn _ _ _ _ _ _ _ _ (a4 P.q1) P.n9 hA.jw hB.jw h.1 h.2 (dR.pos hA).1)).mono Bc
 ia hA hB h:=(yG S (k:=k) a r? q nn _ _ _ _ _ _ _ _ (a4 P.q1) P.n9 hA.jw hB.jw h.1 h.2 (dR.pos hA).1).mono Pc
 va hA hB h:=(eZ (op:=.Add) S.o.jD S.o.dY (yL S (k:=k) a _ _ _ _ _ _ _ _ _ hA.jw.toShape hB.jw.toShape h)).mono zO
 ja hA hB h:=(nI (op:=.Add) S.o.rV S.o.dY (DH S (k:=k) a _ _ _ _ _ _ _ _ _ hA.jw.toShape hB.jw.toShape h)).mono Sw
 xs hA hB h:=(e_ S.o.jE S.o.dY (Gu S (k:=k) a r? q nn _ _ _ _ _ _ _ _ (a4 P.q1) P.n9 hA.jw hB.jw h.1 h.2 (dR.pos hA).1)).mono Bc
 is hA hB h:=(yH S (k:=k) a r? q nn _ _ _ _ _ _ _ _ (a4 P.q1) P.n9 hA.jw hB.jw h.1 h.2 (dR.pos hA).1).mono Pc
 vs hA hB h:=(eZ (op:=.Sub) S.o.jE S.o.dY (yM S (k:=k) a _ _ _ _ _ _ _ _ _ hA.jw.toShape hB.jw.toShape h)).mono zO
 js hA hB h:=(nI (op:=.Sub) S.o.rW S.o.dY (DI S (k:=k) a _ _ _ _ _ _ _ _ _ hA.jw.toShape hB.jw.toShape h)).mono Sw
 vm hA hB h:=(eZ (op:=.MatMult) S.o.ju S.o.dY (Ay S (k:=k) a _ _ _ _ _ _ _ _ _ hA.jw.toShape hB.jw.toShape h)).mono zO
 gm A g hg:=by
  rcases hg with⟨z?,gs,rfl⟩ |⟨b,nV,rows,tr,hab,rfl⟩
  .exact(jS (op:=.MatMult) S.o.ju S.o.dY S.o.vc S.o.BK (Az S (k:=k) _ _ _ _)).mono Et
  .exact(eZ (op:=.MatMult) S.o.ju S.o.dY (AA S (k:=k) a b hab _ _ _ _ _ _)).mono Et
 ga A g hg:=by
  rcases hg with⟨z?,gs,rfl⟩ |⟨b,nV,rows,tr,hab,rfl⟩
  .exact(jS (op:=.Add) S.o.jD S.o.dY S.o.vc S.o.BI (GH S (k:=k) _ _ _ _)).mono Et
  .exact(eZ (op:=.Add) S.o.jD S.o.dY (GI S (k:=k) a b hab _ _ _ _ _ _)).mono Et
 gs A g hg:=by
  rcases hg with⟨z?,gs,rfl⟩ |⟨b,nV,rows,tr,hab,rfl⟩
  .exact(jS (op:=.Sub) S.o.jE S.o.dY S.o.vc S.o.BJ (GJ S (k:=k) _ _ _ _)).mono Et
  .exact(eZ (op:=.Sub) S.o.jE S.o.dY (GK S (k:=k) a b hab _ _ _ _ _ _)).mono Et
 tr d b hA:=λL bh D gv aS aT sh td g=>aK (aE (bl (ao J) S.o.qV J ak ((qX S (k:=k) (some a) r? q nn _ _ _ _ hA.jw.toShape).mono (k':=k+16) Pj) J) (az J) J) aJ
 four d:=G4 S P a r? d
 GZ d:=Cg S P a r? d
 ve:=S.o.yt
 te:=S.o.pN
end
section
variable{C:Cx}(S:G3 C dN){k:Nat}{q:Int}{nn:Nat}(P:SY q nn)(a:Addr)(r?:acn)
include S P
theorem Ro:O4 C (k+16) q nn (oQ dN a r? q nn) (cK dN.CO (some a) (ay dN.CR r? q nn)) (r_ dN C a) where
 toSY:=P
 xm hA hB h:=(e_ S.o.ju S.o.dY (Gz S (k:=k) a r? q nn _ _ _ _ _ _ _ _ (a7 P.q1) P.q2 P.n9 P.n1 hA.jw hB.jw h (dR.pos hA).1 (dR.pos hA).2.1)).mono YU
 xa hA hB h:=(e_ S.o.jD S.o.dY (Gv S (k:=k) a r? q nn _ _ _ _ _ _ _ _ (a4 P.q1) P.n9 hA.jw hB.jw h.1 h.2 (dR.pos hA).1)).mono Bc
 ia hA hB h:=(yI S (k:=k) a r? q nn _ _ _ _ _ _ _ _ (a4 P.q1) P.n9 hA.jw hB.jw h.1 h.2 (dR.pos hA).1).mono Pc
 va hA hB h:=(eZ (op:=.Add) S.o.jD S.o.dY (yN S (k:=k) a _ _ _ _ _ _ _ _ _ hA.jw.toShape hB.jw.toShape h)).mono zO
 ja hA hB h:=(nI (op:=.Add) S.o.rV S.o.dY (DJ S (k:=k) a _ _ _ _ _ _ _ _ _ hA.jw.toShape hB.jw.toShape h)).mono Sw
 xs hA hB h:=(e_ S.o.jE S.o.dY (Gw S (k:=k) a r? q nn _ _ _ _ _ _ _ _ (a4 P.q1) P.n9 hA.jw hB.jw h.1 h.2 (dR.pos hA).1)).mono Bc
 is hA hB h:=(yJ S (k:=k) a r? q nn _ _ _ _ _ _ _ _ (a4 P.q1) P.n9 hA.jw hB.jw h.1 h.2 (dR.pos hA).1).mono Pc
 vs hA hB h:=(eZ (op:=.Sub) S.o.jE S.o.dY (yO S (k:=k) a _ _ _ _ _ _ _ _ _ hA.jw.toShape hB.jw.toShape h)).mono zO
 js hA hB h:=(nI (op:=.Sub) S.o.rW S.o.dY (DK S (k:=k) a _ _ _ _ _ _ _ _ _ hA.jw.toShape hB.jw.toShape h)).mono Sw
 vm hA hB h:=(eZ (op:=.MatMult) S.o.ju S.o.dY (AB S (k:=k) a _ _ _ _ _ _ _ _ _ hA.jw.toShape hB.jw.toShape h)).mono zO
 gm A g hg:=by
  rcases hg with⟨z?,gs,rfl⟩ |⟨b,nV,rows,tr,hab,rfl⟩
  .exact(jS (op:=.MatMult) S.o.ju S.o.dY S.o.vc S.o.BK (AD S (k:=k) _ _ _ _)).mono Et
  .exact(eZ (op:=.MatMult) S.o.ju S.o.dY (AE S (k:=k) a b hab _ _ _ _ _ _)).mono Et
 ga A g hg:=by
  rcases hg with⟨z?,gs,rfl⟩ |⟨b,nV,rows,tr,hab,rfl⟩
  .exact(jS (op:=.Add) S.o.jD S.o.dY S.o.vc S.o.BI (GL S (k:=k) _ _ _ _)).mono Et
  .exact(eZ (op:=.Add) S.o.jD S.o.dY (GN S (k:=k) a b hab _ _ _ _ _ _)).mono Et
 gs A g hg:=by
  rcases hg with⟨z?,gs,rfl⟩ |⟨b,nV,rows,tr,hab,rfl⟩
  .exact(jS (op:=.Sub) S.o.jE S.o.dY S.o.vc S.o.BJ (GO S (k:=k) _ _ _ _)).mono Et
  .exact(eZ (op:=.Sub) S.o.jE S.o.dY (GP S (k:=k) a b hab _ _ _ _ _ _)).mono Et
 tr d b hA:=λL bh D gv aS aT sh td g=>aK (aE (bl (ao J) S.o.qV J ak ((qX S (k:=k) (some a) r? q nn _ _ _ _ hA.jw.toShape).mono (k':=k+16) Pj) J) (az J) J) aJ
 four d:=G4 S P a r? d
 GZ d:=Cg S P a r? d
 ve:=S.o.yt
 te:=S.o.pN
end
noncomputable def dZ:dR:=⟨[],false,0,0⟩
noncomputable def dB(q:Int)(nn:Nat)(st:List dR×List Str)(d:gV):List dR×List Str:=
 match ff q nn (st.1[d.i]?.getD dZ) (st.1[d.j]?.getD dZ) d with
 |.made R=>(st.1++[R],st.2++[("made":Str)])
 |.shape=>(st.1,st.2++[("shape":Str)])
 |.kind=>(st.1,st.2++[("kind":Str)])
noncomputable def jl(q:Int)(nn:Nat):List gV->List dR×List Str->Prop
 |[],_=>True
 |d::ds,st=>(d.kind<10/\d.power<1000/\d.i<st.1.length/\d.j<st.1.length/\st.1.length<=500/\st.2.length<=500)/\jl q nn ds (dB q nn st d)
theorem KI{C:Cx}{Γ:Gm}{X:acq}{Φ O3:Around->Shared->Prop}{vs vs' d7:aC}{ss:acr}(h:∀x st,vs'.lookup x=some st->vs.lookup x=some st)(H:Mq C Γ X Φ vs' ss O3 d7):Mq C Γ X Φ vs ss O3 d7:=λA s W G I F hX yP=>H A s W G I (F.sub h) hX yP
theorem yT(small:Nat):(((small:Int).fdiv 3).fmod 2)=((small/3%2:Nat):Int):=by exact rl (abg _ (by decide)) (rl (aaA _ (by decide)) UB)
theorem DO{g0 g1:MV}(small:Nat):∃g,(g=g0\/g=g1)/\[g0,g1][(((small:Int).fdiv 3).fmod 2).toNat]?=some g:=by
 refine rl (yT ..) (rl (aaV ..) ?_);have:small/3%2=0\/small/3%2=1:=by exact UC
 rcases this with h |h<;>rw[h]
 .exact⟨g0,.inl J,J⟩
 .exact⟨g1,.inr J,J⟩
theorem Ci{q:Int}{nn:Nat}{sh:List dR}(h:∀A∈sh,A.ok q nn){i:Nat}(hi:i<sh.length):(sh[i]?.getD dZ).ok q nn/\sh[i]?=some (sh[i]?.getD dZ):=by exact rl (aak hi) (⟨h _ (aaE hi),J⟩)
noncomputable def NG(mo gv:MV)(aS aT:Addr)(sh td:acw)(d:gV):aC:=
 [("module",.v mo),("guests",.v gv),("shelf",.own aS sh),("told",.own aT td),("kind",.v (.int d.kind)),("i",.v (.int d.i)),("j",.v (.int d.j)),("small",.v (.int d.small)),("power",.v (.int d.power))]
noncomputable def NH(mo gv:MV)(V:dR->MV)(aS aT:Addr)(vs:aC)(st:List dR×List Str):Prop:=
 vs.lookup ("module":Str)=some (.v mo)/\vs.lookup ("guests":Str)=some (.v gv)/\vs.lookup ("shelf":Str)=some (.own aS (st.1.map V))/\vs.lookup ("told":Str)=some (.own aT (st.2.map .str))
section
variable{C:Cx}{k:Nat}{q:Int}{nn:Nat}{V:dR->MV}{mo:MV}{Gs:MV->Prop}(P:O4 C k q nn V mo Gs)(L:Addr)(bh:Value)(g0 g1:MV)(hg:∀g,g=g0\/g=g1->Gs g)(aS aT:Addr)(l:List Env)(bM:Shared)
include P hg
theorem G5(st:List dR×List Str)(d:gV)(eN:∀A∈st.1,A.ok q nn)(hd:d.kind<10/\d.power<1000/\d.i<st.1.length/\d.j<st.1.length/\st.1.length<=500/\st.2.length<=500) :
 ∃dG,NH mo (.lst [g0,g1]) V aS aT dG (dB q nn st d)/\
  ∀D,Mq C (kD k L bh D) (frs l) (B4 C (kD k L bh D).env l bM) (NG mo (.lst [g0,g1]) aS aT (st.1.map V) (st.2.map .str) d) runFor (B4 C (kD k L bh D).env l bM) dG:=by
 obtain⟨hk,hp,hi,hj,hl,hl2⟩:=hd;obtain⟨okA,eA⟩:=Ci eN hi;obtain⟨okB,eB⟩:=Ci eN hj;obtain⟨g,hg',eg⟩:=DO (g0:=g0) (g1:=g1) d.small;have gi:=yT d.small;have e1:(st.1.map V)[((d.i:Nat):Int).toNat]?=some (V (st.1[d.i]?.getD dZ)):=by refine rl (aaV ..) (rl (aav ..) (rl eA ?_));rfl
 have e2:(st.1.map V)[((d.j:Nat):Int).toNat]?=some (V (st.1[d.j]?.getD dZ)):=by refine rl (aaV ..) (rl (aav ..) (rl eB ?_));rfl
 have sb:∀D bM,Ku C (frs l) (B4 C (kD k L bh D).env l bM):=λ_ _=>GQ;have ls:(st.1.map V).length<=1000:=by refine rl (aai ..) ?_;omega
 have lt:(st.2.map MV.str).length<=1000:=by refine rl (aai ..) ?_;omega
 have ro:=KH P okA okB hk hp;have pre:∀{dG} D,DL C (kD k L bh D) (frs l) (B4 C (kD k L bh D).env l bM) (uH mo (.lst [g0,g1]) aS aT (st.1.map V) (st.2.map .str) d (V (st.1[d.i]?.getD dZ)) (V (st.1[d.j]?.getD dZ)) g) ((runFor[3]?).getD (.Pass ⟨0,0,0,0⟩)) (B4 C (kD k L bh D).env l bM) dG->
  Mq C (kD k L bh D) (frs l) (B4 C (kD k L bh D).env l bM) (NG mo (.lst [g0,g1]) aS aT (st.1.map V) (st.2.map .str) d) runFor (B4 C (kD k L bh D).env l bM) dG:=λD H=>by
  refine pT (rZ (sb _ _) (aE (jr (x:="shelf") J J J (ao J) (by omega) (by exact YV hi hl) e1 (λ_ _=>rfl)) (az J) J)) ?_;refine pT (rZ (sb _ _) (aE (jr (x:="shelf") J J J (ao J) (by omega) (by exact YV hj hl) e2 (λ_ _=>rfl)) (az J) J)) ?_;refine pT (rZ (sb _ _) (aE (bC (ao J) (aI (aI (ao J) aA (iF _ _ (by decide) (abl (by decide)))) aA (b9 _ _ (by decide))) (by exact To gi) (by exact Tp gi) eg (λ_ _=>rfl)) (az J) J)) ?_;exact pT H Kw
 unfold dB;cases hd:ff q nn (st.1[d.i]?.getD dZ) (st.1[d.j]?.getD dZ) d with
 |made R=>
  replace ro:=hd▸ro;refine⟨_,?_,λD=>pre D (rZ (sb _ _) (DM (aK (tR.1 _ (ro L bh D _ _ _ _ _ _)) (aK (eX (x:="shelf") J J J (ao J) ls J J J J J J) (aK (eX (x:="told") J J J fH lt J J J J J J) aJ)))))⟩;exact⟨J,J,by refine rl aa2 ?_;rfl,by refine rl aa2 ?_;rfl⟩
 |shape=>
  replace ro:=hd▸ro;refine nb λnn=>?_;obtain⟨cG,E,hvs⟩:=ro L bh (.lst [g0,g1]) aS aT (st.1.map V) (st.2.map .str) g l;have lk:cG.lookup ("told":Str)=some (.own aT (st.2.map .str)):=by rcases hvs with rfl |rfl<;>rfl
  refine nn<|⟨aG cG "told" (.own aT (st.2.map .str++[.str "shape"])),?_,λD=>pre D (yQ J (tR.2 _ _ _ _ (E D)) λA aq s' h base a0 e W Q c aF aU lN hl₁ hb1 hb2 hbare hos hgens hQ=>?_)⟩
  .have lv:∀y,(aG cG "told" (.own aT (st.2.map .str++[.str "shape"]))).lookup y=if y=("told":Str) then some (.own aT (st.2.map .str++[.str "shape"])) else cG.lookup y:=λy=>au cG "told" _ y
   refine⟨(lv _).trans ?_,(lv _).trans ?_,(lv _).trans ?_,(lv _).trans ?_⟩
   .rcases hvs with rfl |rfl<;>rfl
   .rcases hvs with rfl |rfl<;>rfl
   .rcases hvs with rfl |rfl<;>rfl
   .refine rl aa2 ?_;rfl
  .exact B9 (T:="ValueError") PySem.F.isExc_ValueError PySem.F.notTuple_ValueError (by refine rl (isSubtype_type ..) ?_;kernel_rfl) J P.ve Boot.«ValueError» (by decide) J c J aF aU lN hl₁ hb1 hb2 hbare hos hgens (qZ (x:="told") lk J J lt J J J J J J) hQ
 |kind=>
  replace ro:=hd▸ro;refine⟨aG (uH mo (.lst [g0,g1]) aS aT (st.1.map V) (st.2.map .str) d (V (st.1[d.i]?.getD dZ)) (V (st.1[d.j]?.getD dZ)) g) "told" (.own aT (st.2.map .str++[.str "kind"])),⟨J,J,J,by refine rl aa2 ?_;rfl⟩,
   λD=>pre D (yQ J (tR.2 _ _ _ _ (ro L bh _ _ _ _ _ _ _ D (hg g hg'))) λA aq s' h base a0 e W Q c aF aU lN hl₁ hb1 hb2 hbare hos hgens hQ=>?_)⟩
  obtain⟨bu,bO,_⟩:=c.use (s':=s') J aF aU lN (λL hL=>(hl₁ L hL).1) hb1 hb2 hbare hos;refine GV (T:="ValueError") PySem.F.isExc_ValueError PySem.F.notTuple_ValueError (by refine rl (isSubtype_type ..) ?_;kernel_rfl) J P.ve Boot.«ValueError» (by decide) J c bu bO ?_;exact B9 (T:="TypeError") PySem.F.isExc_TypeError PySem.F.notTuple_TypeError (by refine rl (isSubtype_type ..) ?_;kernel_rfl) J P.te Boot.«TypeError» (by decide) J c J aF aU lN hl₁ hb1 hb2 hbare hos hgens (qZ (x:="told") J J J lt J J J J J J) hQ
end
section
set_option tactic.hygienic true
noncomputable def Rp(n:Nat):Stmt:=((o5 (topS 21))[n]?).getD (.Pass ⟨0,0,0,0⟩)
noncomputable def NI:Expr:=kE (((o5 (topS 21))[1]?).getD (.Pass ⟨0,0,0,0⟩)) 0
inductive NJ(C:Cx)(W D:acq)(aS:Addr)(v:MV)(l:acw)(T:Shared->Prop)(s:Shared):Result->Shared->Prop
 |mk {x:Value} {items:aco} {n:Nat} {s':Shared}:Den s'.heap (aS::D) x v->s'.heap.get? aS=some {cls:=.type "list",data:=.seq items n}->bD s'.heap (aS::D) items.toList l->bL C W s s'->T s'->Inv C s'->NJ C W D aS v l T s (.ok (.ret x)) s'
noncomputable def KJ(mo gv:MV)(aS:Addr)(sh:acw)(ds:List gV):aC:=[("module",.v mo),("guests",.v gv),("shelf",.own aS sh),("deeds",.v (.lst (ds.map fC)))]
theorem qz{a:Addr}{D W:acq}(h:a∈W):∀d∈a::D,d∈W++D:=mc (aah _ h) λ_ hd=>aad _ hd
section
variable{C:Cx}{k:Nat}{q:Int}{nn:Nat}{V:dR->MV}{mo:MV}{Gs:MV->Prop}(P:O4 C k q nn V mo Gs)(g0 g1:MV)(hg:∀g,g=g0\/g=g1->Gs g)(aS aT:Addr)(l:List Env)(bM:Shared)
include P hg
theorem AK{st:List dR×List Str}{d:gV}(eN:∀A∈st.1,A.ok q nn)(hi:d.i<st.1.length)(hj:d.j<st.1.length):∀A∈(dB q nn st d).1,A.ok q nn:=by
 unfold dB;split
 .rename_i R e
  exactλA hA=>(aag.mp hA).elim (eN A) λz=>by exact rl (aam.mp z) ((Cf P.q1 P.n1 (Ci eN hi).1 (Ci eN hj).1 e))
 .exact eN
 .exact eN
theorem KL(L:Addr)(bh:Value)(D:acq):∀(ds:List gV)(st:List dR×List Str)(vs:aC),NH mo (.lst [g0,g1]) V aS aT vs st->(∀A∈st.1,A.ok q nn)->jl q nn ds st->
 ∃vs',Kv C (kD k L bh D) (frs l) NI runFor (λ_=>B4 C (kD k L bh D).env l bM) (ds.map fC) vs vs'/\NH mo (.lst [g0,g1]) V aS aT vs' (ds.foldl (dB q nn) st):=by
 intro ll
 induction ll with
 |nil=>
  intro st vs hR eN hd;exact⟨vs,J,hR⟩
 |cons d ds ih=>
  intro st vs Qz eN pq4;obtain⟨r1,r2,r3,r4⟩:=Qz;obtain⟨h1,h2⟩:=pq4;obtain⟨dG,R1,E1⟩:=G5 P L bh g0 g1 hg aS aT l bM st d eN h1;obtain⟨vs',F',R'⟩:=ih (dB q nn st d) dG R1 (AK P g0 g1 hg eN h1.2.2.1 h1.2.2.2.1) h2;refine⟨vs',⟨_,dG,λDo=>sG (iy (cH (.inl J)) (iy (cH (.inl J)) (iy (cH (.inl J)) (iy (cH (.inl J)) (iy (cH (.inl J)) wc))))),λDo=>?_,F'⟩,R'⟩;have lk:∀(y:Str),(aG (aG (aG (aG (aG vs "kind" (.v (.int d.kind))) "i" (.v (.int d.i))) "j" (.v (.int d.j))) "small" (.v (.int d.small))) "power" (.v (.int d.power))).lookup y=if y="power" then some (.v (.int d.power)) else if y="small" then some (.v (.int d.small)) else if y="j" then some (.v (.int d.j)) else if y="i" then some (.v (.int d.i)) else if y="kind" then some (.v (.int d.kind)) else vs.lookup y:=λy=>by exact rl (au ..) (rl (au ..) (rl (au ..) (rl (au ..) (rl (au ..) J))))
  exact KI (fc (NG mo (.lst [g0,g1]) aS aT (st.1.map V) (st.2.map .str) d) ⟨(lk _).trans r1,(lk _).trans r2,(lk _).trans r3,(lk _).trans r4,lk _,lk _,lk _,lk _,lk _,trivial⟩) (E1 Do)
theorem KN(hfn:FnAt C 807 "_law_run" .none (topS 21))(ds:List gV)(sh:List dR)(hsh:∀A∈sh,A.ok q nn)(hds:jl q nn ds (sh,[]))
 {A:Around} {s:Shared} {D:acq} {vm vg vd:Value} {items:aco} {n:Nat} (G:Good (k+1) A) (I:Inv C s) (dk:lg C D s.heap) (dm:Den s.heap (aS::D) vm mo) (dg:Den s.heap (aS::D) vg (.lst [g0,g1])) (dd:Den s.heap (aS::D) vd (.lst (ds.map fC)))
 (hS:s.heap.get? aS=some {cls:=.type "list",data:=.seq items n}) (dS:bD s.heap (aS::D) items.toList (sh.map V)) (S1:C.H.objs.size<=aS) (I_:aS∉D) (j9:A.frames=some l) (eN:iC C l s.heap) (hl:∀L∈frs l,L∈D) :
 codeAny (model P0 C.w) A (.call (.ref 807) ⟨[vm,vg,.ref aS,vd],[]⟩) (NJ C (frs l++[aS]) D aS (.lst ((ds.foldl (dB q nn) (sh,[])).2.map .str)) ((ds.foldl (dB q nn) (sh,[])).1.map V) (λs'=>∀L∈frs l,∀o,s.heap.get? L=some o->∃sl,s'.heap.get? L=some {o with slots:=sl}) s) s:=by
 refine nb λnn=>?_;obtain⟨oc,od,kJ,kV,doc,pm,an,bh,ct,ho,h_⟩:=hfn.at_;refine nn<|jR (k:=k) (Wx:=[aS]) (vs:=KJ mo (.lst [g0,g1]) aS (sh.map V) ds) G I dk ho h_ (binds:=[("module",vm),("guests",vg),("shelf",.ref aS),("deeds",vd)]) (BindsTo.of_eq J)
  (.cons dm (.cons dg (.cons ⟨J,.head _,items,n,hS,dS⟩ (.cons dd .nil)))) (m1 ⟨S1,aaB hS,I_⟩) (v8.one (x:="shelf") (st:=.own aS (sh.map V)) (mc (.inl J) (mc (.inl J) (m2 (.inr J) (.inl J))))) (by rfl) λL aq W hL G' aF aU a_ hW=>?_
 have JH:=Au eN;have XZ:∀L'∈frs l,L'∉W:=λL' hL' q=>(hW L' q).elim (λz=>by replace hL':=(aam.mp z)▸hL';exact I_ (hl _ hL')) λz=>absurd (JH L' hL') (aaw.mpr z);have HO:uE C (kD k L bh D) (KJ mo (.lst [g0,g1]) aS (sh.map V) ds) (Rp 0) "told" []:=iG (kP ak (by simp)) J J J;refine aas (cS (HO _ aq W G' aF aU) λf av bI=>?_);refine nb λnn=>?_;obtain⟨hf,aT,S2,bO,aY,bu⟩:=bI;subst hf;have lN:iC C l aq.heap:=eN.dJ I a_ (λ_ _ q=>nomatch q);obtain⟨vs',hF,r1,r2,r3,r4⟩:=KL P g0 g1 hg aS aT l av L bh D ds (sh,[]) (aG (KJ mo (.lst [g0,g1]) aS (sh.map V) ds) "told" (.own aT [])) ⟨J,J,J,J⟩ hsh hds;have XS:∀L'∈frs l,L'∈D/\L'∉aT::W/\L'<av.heap.objs.size/\C.H.objs.size<=L':=λL' hL'=>⟨hl L' hL',λq=>(aap.mp q).elim (λz=>absurd (aao (JH L' hL') a_.size) (aaw.mpr (by exact rl z S2))) (XZ L' hL'),aao (JH L' hL') (aaf a_.size aY.size),(eN.lo hL').1⟩;have HF:DL C (kD k L bh D) (frs l) (B4 C (kD k L bh D).env l av) (aG (KJ mo (.lst [g0,g1]) aS (sh.map V) ds) "told" (.own aT [])) (Rp 1) (B4 C (kD k L bh D).env l av) vs':=GR (Φ:=λ_=>B4 C (kD k L bh D).env l av) (λ_=>GQ) (bK (ms:=ds.map fC) (ao J)) hF (λq=>nomatch q) (λ_=>rfl);refine nn<|aas (cS (HF _ av (aT::W) G' bu bO XS ⟨by show Option.map _ A.frames=_;refine rl j9 ?_;rfl,lN.dJ aF aY XZ,λL' _ o ho=>⟨o.slots,ho⟩⟩) λf bH bI=>?_)
 obtain⟨hf,W',hW',iz,cW,ez,_,_,hsl⟩:=bI;subst hf;refine aas (abX (jq (x:="told") r4 J iz J ?_));refine nb λnn=>?_;obtain⟨oT,itT,nT,gT,dT⟩:=iH (x:="told") r4 J iz;obtain⟨oS,itS,nS,gS,X0⟩:=iH (x:="shelf") r3 J iz;have sub:∀d∈aS::D,d∈W'++D:=qz oS;have up:∀d∈aS::D,d∈W'++D\/bH.heap.objs.size<=d:=λd hd=>.inl (sub d hd);have kp:Kept [] bH.heap bH.heap:=λ_ _ _ e=>e;refine nn<|.mk (.lst aT itT nT _ gT (λq=>?_) (dT.kept kp n0 up)) gS (X0.kept kp n0 up) ?_ (λL' hL' o ho=>?_) ez
 .exact(aap.mp q).elim (λz=>absurd (iz.iY "told" "shelf" _ _ aT r4 r3 (.head _) (by exact rl z ((.head _)))) (by decide)) (iz.gH "told" _ aT r4 (.head _)).2.2.2
 .refine a_.trans ((aY.weak λd q=>aad (frs l) (.tail aT q)).eS cW) n0 λd hd=>?_
  rcases aag.mp hd with q |q
  .exact .inl (aah _ q)
  .rcases aap.mp q with q |q
   .exact .inr (aaf a_.size (by exact rl q S2))
   .exact(hW d q).imp (λz=>aad _ z) id
 .exact hsl L' hL' o (aY.keep L' o (λq=>(aag.mp q).elim (XZ L' hL') (aX I (eN.lo hL').1)) (a_.keep L' o (λq=>(aag.mp q).elim (λq=>nomatch q) (aX I (eN.lo hL').1)) ho))
end
end
structure fN(C:Cx):Prop where
 number:FnAt C 800 "_law_number" .none (topS 20)
 run:FnAt C 807 "_law_run" .none (topS 21)
 plain:FnAt C 812 "_law_plain" .none (topS 22)
 digits:FnAt C 819 "_law_digits" .none (topS 23)
 rows:FnAt C 824 "_law_rows" .none (topS 24)
 fU:nsIn C.K mainGlobals "len"=some none
 b8:nsIn C.K mainGlobals "range"=some none
 aR:nsIn C.K mainGlobals "isinstance"=some none
 mT:nsIn C.K mainGlobals "int"=some none
 lJ:nsIn C.K mainGlobals "list"=some none
 qU:nsIn C.K mainGlobals "sum"=some none
 tD:nsIn C.K mainGlobals "zip"=some none
 mX:nsIn C.K mainGlobals "enumerate"=some none
 Gh:nsIn C.K mainGlobals "pow"=some none
 NK:∃t,nsIn C.K mainGlobals "_law_bits"=some (some (.int 2304 t))
 G6:nsIn C.K mainGlobals "_law_number"=some (some (.ref 800))
 DP:jJ C.K (.ref 800)=true
 wM:kitOne C.K (.type "int") (.type "int")=some true
 KO:nsIn C.K mainGlobals "_law_plain"=some (some (.ref 812))
 G7:jJ C.K (.ref 812)=true
 Rq:nsIn C.K mainGlobals "_law_run"=some (some (.ref 807))
 NL:jJ C.K (.ref 807)=true
 G8:nsIn C.K mainGlobals "_law_digits"=some (some (.ref 819))
 DQ:jJ C.K (.ref 819)=true
 G9:nsIn C.K mainGlobals "_law_rows"=some (some (.ref 824))
 Cj:jJ C.K (.ref 824)=true
 Rr:nsIn C.K mainGlobals "crt"=some (some (.ref 63))
 NN:jJ C.K (.ref 63)=true
section
variable{C:Cx}{Γ:Gm}{vs:aC}{k:Nat}
theorem KP{l:acw}(hl:l.length<=1000):WJ C k (.lst l) (!l.isEmpty):=λA s D a G I _ d=>by
 cases d.jW with
 |mk b items n hg na dd=>
  have hz:items.size=l.length:=by have:=dd.length;simpa using this
  refine wpAny_truthy_list ⟨_,hg,J,n,J⟩ (by exact rl hz ((Za hl))) ⟨?_,tok_stp _,tok_inv I _⟩;cases l with
  |nil=>
   have:items=#[]:=by apply Array.eq_empty_of_size_eq_zero;simpa using hz
   refine rl this ?_;rfl
  |cons a r=>
   have:items.isEmpty=false:=by rw[Array.isEmpty_eq_false_iff];intro q;replace hz:=q▸hz;simp at hz
   refine rl this ?_;rfl
theorem se{pos:Pos}(S:fN C)(hx:Γ.env.kindOf "_law_bits"=some .globalImplicit):Ev C Γ vs (.Name "_law_bits" pos) (.int 2304):=by obtain⟨t,h⟩:=S.NK;exact bV hx h (λ_ _=>.int _ _) J
end
noncomputable def gW(ah:acu)(place:Nat):Int:=(if ah=[] then 0 else ah[place%ah.length]?.getD 0)+7*place
theorem fu{a b:Int}(h0:0<=a)(h:a<2^64):IntMulOk a b:=.of_left (j5 h0 h)
theorem tS{a b:Int}(h0:0<=b)(h:b<2^64):IntMulOk a b:=.of_right (j5 h0 h)
theorem pZ(a b:Nat):((a:Int).fmod b)=((a%b:Nat):Int):=by exact rl (aaA _ (by omega)) UD
theorem G_(a b:Nat):((a:Int).fdiv b)=((a/b:Nat):Int):=by exact rl (abg _ (by omega)) UE
theorem AL{C:Cx}(S:fN C){k:Nat}(ah:acu)(place:Nat)(hl:ah.length<=63)(hp:place<1000):bJ C (k+1) (.ref 800) [iv ah,.int place] [] (.int (gW ah place)):=by
 refine c8 (bs:=[("script",iv ah),("place",.int place)]) S.number J λL D bh=>?_
 .have tl:=KP (C:=C) (k:=k) (l:=ah.map .int) (by refine rl (aai ..) ?_;omega)
  unfold gW;by_cases h:ah=[]
  .subst h
   exact bB (aI (mK (bN (m:=iv []) (ao J) tl) aA) (aI aA (ao J) (fz _ _ (fu (by decide) (by decide)))) (fy _ _))
  .have h0:0<ah.length:=List.length_pos_iff.mpr h
   have e:(!(ah.map MV.int).isEmpty)=true:=by
    cases ah with
    |nil=>exact absurd J h
    |cons a r=>rfl
   replace tl:=e▸tl;have lb:BX C k (.builtin "len") [iv ah] (.int ah.length):=by have:=iQ (C:=C) (k:=k) (l:=ah.map .int) (by refine rl (aai ..) ?_;omega);replace this:=(aai ..)▸this;exact this
   have hm:=pZ place ah.length;have hlt:place%ah.length<ah.length:=Nat.mod_lt _ h0;refine rl (aaD h) ?_;refine bB (aI (jY (bN (m:=iv ah) (ao J) tl) (bC (l:=ah.map .int) (ao J) (aI (ao J) (bU (aM S.fU Boot.«len» rfl) (aj (ao J) ak) J lb) (b9 _ _ (by exact zJ h0))) (by rw[hm];omega) (by refine rl hm ?_;exact UG hl hlt) ?_ (λ_ _=>rfl))) (aI aA (ao J) (fz _ _ (fu (by decide) (by decide)))) (fy _ _));refine rl hm ?_;exact mU (p:=place%ah.length) J hlt
noncomputable def half:Int:=2^((2304:Int)-1).toNat
noncomputable def big:Int:=2^(2304:Int).toNat
theorem w4:0<big:=Int.pow_pos (by decide)
theorem Hh:big≠0:=Int.ne_of_gt w4
theorem AM:big.natAbs<2^8000:=by
 have:big.natAbs=2^2304:=by unfold big;refine rl (Int.natAbs_pow ..) ?_;rfl
 refine rl this ?_;exact Nat.pow_lt_pow_right (by decide) (by decide)
theorem mY{x y:Int}(h:y.natAbs<2^8000):Builtin.divisionGoesByPylong x y=false:=by
 have hd:(if y==0 then 0 else y.natAbs.log2/30+1)<=300:=by
  split
  .omega
  .have:y.natAbs.log2<8000:=by
    rename_i q;have hy:y.natAbs≠0:=by intro z;exact q (by simpa using Int.natAbs_eq_zero.mp z)
    exact(Nat.log2_lt hy).mpr h
   exact UH this
 unfold Builtin.divisionGoesByPylong;have:decide ((if y==0 then 0 else y.natAbs.log2/30+1)>300)=false:=aaH (by exact UI hd);show(decide ((if y==0 then 0 else y.natAbs.log2/30+1)>300)&&_)=false;refine rl this ?_;rfl
noncomputable def mZ(v:Int):Int:=(v+half).fmod big-half
noncomputable def p9(v:Int):Int:=(v-mZ v).fdiv big
noncomputable def j8:Nat->Int->acu
 |0,_=>[]
 |n+1,v=>mZ v::j8 n (p9 v)
noncomputable def dU(whole v:Int):Int:=if 2*v>whole then v-whole else v
noncomputable def KQ(st:acu×Int)(_:MV):acu×Int:=(st.1++[mZ st.2],p9 st.2)
theorem DR:∀(ms:acw)(td:acu)(v:Int),(ms.foldl KQ (td,v)).1=td++j8 ms.length v:=by
 intro ll
 induction ll with
 |nil=>
  intro td v;simp[j8]
 |cons m ms ih=>
  intro td v;rw[ab6,KQ,ih];simp[j8]
theorem yU:∀(n:Nat)(v:Int),(j8 n v).length=n
 |0,_=>rfl
 |n+1,v=>by rw[j8,abr,yU n]
section
variable{C:Cx}{Γ:Gm}{vs:aC}
theorem Ck{p1 p2 p3 p4 p5:Pos}{n1 n2:Nat}(S:fN C)(hx:Γ.env.kindOf "_law_bits"=some .globalImplicit):Ev C Γ vs (.BinOp (.Constant (.int 2) n1 p1) .Pow (.BinOp (.Name "_law_bits" p2) .Sub (.Constant (.int 1) n2 p3) p4) p5) (.int half):=
 aI aA (aI (se S hx) aA (iN _ _)) (sA _ _ (by decide) (by decide))
theorem Hl{p1 p2 p3:Pos}{n1:Nat}(S:fN C)(hx:Γ.env.kindOf "_law_bits"=some .globalImplicit):Ev C Γ vs (.BinOp (.Constant (.int 2) n1 p1) .Pow (.Name "_law_bits" p2) p3) (.int big):=
 aI aA (se S hx) (sA _ _ (by decide) (by decide))
end
section
variable{C:Cx}{Γ:Gm}{vs vs':aC}{t:Expr}{body ss:acr}{v:MV}{pr:Bool}{fl:Fl}
theorem lQ(h:∀x st,vs'.lookup x=some st->vs.lookup x=some st){d7:aC}(T:mz C Γ vs' ss fl d7):mz C Γ vs ss fl d7:=λA s W G I F=>T A s W G I (F.sub h)
theorem AN{d7:aC}(h:∀x st,d7.lookup x=some st->vs'.lookup x=some st)(T:mz C Γ vs ss fl vs'):mz C Γ vs ss fl d7:=λA s W G I F=>cS (T A s W G I F) λf aq bI=>by obtain⟨fP,h1,h2,aU,a_,aF⟩:=bI;exact⟨fP,h1,h2,aU.sub h,a_,aF⟩
theorem tT{σ:Type}(R:acw->aC->σ->Prop)(upd:σ->MV->σ):∀(ms:acw)(vs:aC)(s:σ),R ms vs s->
 (∀vs s m r,R (m::r) vs s->∃fK dG,(∀Do,Bd C (cz Γ Do) t m vs fK)/\(∀Do,mz C (cz Γ Do) fK body .next dG)/\R r dG (upd s m))->∃vs',xX C Γ t body ms vs .next vs'/\R [] vs' (ms.foldl upd s):=by
 intro ll
 induction ll with
 |nil=>
  intro vs s h0 H;exact⟨vs,⟨J,J⟩,h0⟩
 |cons m ms ih=>
  intro vs s h0 H;refine nb λnn=>?_;obtain⟨fK,dG,h1,h2,h3⟩:=H vs s m ms h0;obtain⟨vs',h4,h5⟩:=ih dG (upd s m) h3 H;exact nn<|⟨vs',⟨fK,dG,.next,h1,h2,h4⟩,h5⟩
theorem uI{σ:Type}{iter:Expr}{pos:Pos}{ms:acw}(R:acw->aC->σ->Prop)(upd:σ->MV->σ)(s0:σ)(Hi:rR C Γ vs iter pr ms)(ht:pr=true->∃es x1 p,t = .Tuple es x1 p)(hs:∀x,foldedSetIterable iter Γ.env x=pure x)(hR:R ms vs s0)
 (H:∀vs s m r,R (m::r) vs s->∃fK dG,(∀Do,Bd C (cz Γ Do) t m vs fK)/\(∀Do,mz C (cz Γ Do) fK body .next dG)/\R r dG (upd s m)) (T:∀vs',R [] vs' (ms.foldl upd s0)->Body C Γ vs' ss v):Body C Γ vs (.For t iter body [] pos::ss) v:=by
 obtain⟨vs',h1,h2⟩:=tT (C:=C) (Γ:=Γ) R upd ms vs s0 hR H;exact aQ (qs Hi h1 ht hs) (T vs' h2)
end
theorem AO{C:Cx}(S:fN C){k:Nat}(value whole:Int)(n:Nat)(hn:n<=100):bJ C (k+1) (.ref 819) [.int value,.int whole,.int n] [] (iv (j8 n (dU whole value))):=by
 refine c8 (bs:=[("value",.int value),("whole",.int whole),("n",.int n)]) S.digits J λL D bh=>?_
 .refine nb λnn=>?_
  obtain⟨g1,g2,g3,g4,g5⟩:=Ml hn;refine nn<|yf (x:="told") (l:=[]) (iG (kP ak (Nat.zero_le _)) J J J) λad=>?_
  have cg:=cmp_gt (C:=C) (k:=k) (2*value) whole;have st:gq C (gF k "_law_digits" (mq (topS 23)) L 819 bh D) (aG (dX [("value",.int value),("whole",.int whole),("n",.int n)]) "told" (.own ad [])) (((o5 (topS 23))[1]?).getD (.Pass ⟨0,0,0,0⟩)) .next (aG (aG (dX [("value",.int value),("whole",.int whole),("n",.int n)]) "told" (.own ad [])) "value" (.v (.int (dU whole value)))):=by
   by_cases h:whole<2*value
   .replace cg:=(aaK h)▸cg
    refine rl (show dU whole value=value-whole from aaN h) ?_;exact aE (jY (bw (b:=true) (aI aA (ao J) (fz _ _ (fu (by decide) (by decide)))) (ao J) cg) (aI (ao J) (ao J) (iN _ _))) (az J) J
   .replace cg:=(aaH h)▸cg
    refine rl (show dU whole value=value from aaD h) ?_;exact aE (mK (bw (b:=false) (aI aA (ao J) (fz _ _ (fu (by decide) (by decide)))) (ao J) cg) (ao J)) (az J) J
  refine aQ st ?_;let R:acw->aC->acu×Int->Prop:=λr vs st=>vs.lookup ("told":Str)=some (.own ad (st.1.map .int))/\vs.lookup ("value":Str)=some (.v (.int st.2))/\st.1.length+r.length<=100;have hlen:(bz 0 n).length=n:=by simp[bz]
  refine uI R KQ ([],dU whole value) (jB (dH (aM S.b8 Boot.«range» rfl) (aj (ao J) ak)) n g1 g2 g3 g4 g5) (λq=>nomatch q) (λ_=>rfl) ⟨J,J,by refine rl hlen ?_;simpa using hn⟩ (λvs s m r hR=>?_) (λvs hR=>?_)
  .obtain⟨r1,r2,r3⟩:=hR
   have l1:∀z w,(aG vs "_" w).lookup z=if z=("_":Str) then some w else vs.lookup z:=λz w=>au vs "_" w z
   refine⟨_,aG (aG (aG [("told",.own ad (s.1.map .int)),("value",.v (.int s.2))] "digit" (.v (.int (mZ s.2)))) "told" (.own ad (s.1.map .int++[.int (mZ s.2)]))) "value" (.v (.int (p9 s.2))),λDo=>cH (.inl J),λDo=>?_,?_,J,?_⟩
   .refine lQ (vs':=[("told",.own ad (s.1.map .int)),("value",.v (.int s.2))]) (fc _ ⟨(l1 _ _).trans r1,(l1 _ _).trans r2,trivial⟩) ?_
    exact aK (aE (aI (aI (aI (ao J) (Ck S J) (fy _ _)) (Hl S J) (b9 _ _ Hh)) (Ck S J) (iN _ _)) (.inl J) J)
     (aK (eX (x:="told") J J J (ao J) (by refine rl (aai ..) ?_;have:(m::r).length=r.length+1:=rfl;exact UJ r3) J J J J J J)
     (aK (aE (aI (aI (ao J) (ao J) (iN _ _)) (Hl S J) (iF _ _ Hh (mY AM))) (.inl J) J) aJ))
   .show some (VS.own ad (s.1.map .int++[.int (mZ s.2)]))=some (VS.own ad ((s.1++[mZ s.2]).map .int))
    refine rl aa2 ?_;rfl
   .show(s.1++[mZ s.2]).length+r.length<=100
    refine rl aaX ?_;have:(m::r).length=r.length+1:=rfl;simp only[List.length_cons,List.length_nil];exact Pk r3 this
  .obtain⟨r1,r2,r3⟩:=hR
   have e:((bz 0 n).foldl KQ ([],dU whole value)).1=j8 n (dU whole value):=by exact rl (DR ..) (rl (hlen ..) (rl (List.nil_append ..) J))
   replace r1:=e▸r1;exact pL (fc [("told",.own ad ((j8 n (dU whole value)).map .int))] ⟨r1,trivial⟩) (qQ (x:="told") J J (bB (ao J)))
structure EG where
 a:Int
 b:Int
 x:Int
 y:Int
 lx:Int
 ly:Int
noncomputable def w5(s:EG):EG:=⟨s.b,s.a.fmod s.b,s.lx-s.a.fdiv s.b*s.x,s.ly-s.a.fdiv s.b*s.y,s.x,s.y⟩
theorem q_(a:Int){b:Int}(h:b≠0):(a.fmod b).natAbs<b.natAbs:=by
 rcases Int.lt_or_lt_of_ne h with h1 |h1
 .have e:a.fmod b = -((-a).fmod (-b)):=by
   have:=Int.neg_fmod_neg a b;exact UK this
  have h2:0 < -b:=by exact UM h1
  have h3:=abk (-a) h2;have h4:=aby (-a) h2;exact rl e ((UN h3 h4))
 .have h3:=abk a h1
  have h4:=aby a h1;exact UO h3 h4
noncomputable def p_(s:EG):EG:=if h:s.b=0 then s else p_ (w5 s)
termination_by s.b.natAbs
decreasing_by exact q_ s.a h
noncomputable def mh(oa ob:Int)(s:EG):Int×Int×Int:=(s.a,(if s.lx<0 then s.lx+ob else s.lx),(if s.ly<0 then s.ly+oa else s.ly))
noncomputable def oR(a b:Int):Int×Int×Int:=mh a b (p_ ⟨a,b,0,1,1,0⟩)
theorem tU{s:EG}(h:s.b≠0):p_ (w5 s)=p_ s:=by conv=>rhs;rw[p_,dif_neg h]
theorem qC{s:EG}(h:s.b=0):p_ s=s:=by rw[p_,dif_pos h]
theorem KR{a b:Int}(h0:0<=a)(h:a<2^64)(hb:0<=b):0<=a.fdiv b/\a.fdiv b<2^64:=by refine rl (abg _ hb) ?_;exact⟨Int.ediv_nonneg h0 hb,Int.lt_of_le_of_lt (Int.ediv_le_self b h0) h⟩
structure uJ(C:Cx):Prop where
 gcd:FnAt C 49 "extended_gcd" .none (topS 3)
 inverse:FnAt C 56 "inverse" .none (topS 4)
 DS:FnAt C 63 "crt" .none (topS 5)
 Rt:nsIn C.K mainGlobals "extended_gcd"=some (some (.ref 49))
 DT:nsIn C.K mainGlobals "inverse"=some (some (.ref 56))
 tD:nsIn C.K mainGlobals "zip"=some none
 NO:jJ C.K (.ref 49)=true
 AP:jJ C.K (.ref 56)=true
theorem KS{C:Cx}(S:uJ C){k:Nat}(a b:Int)(ha:0<=a)(ha2:a<2^64)(hb:0<=b)(hb2:b<2^64):bJ C (k+1) (.ref 49) [.int a,.int b] [] (.tup [.int (oR a b).1,.int (oR a b).2.1,.int (oR a b).2.2]):=by
 refine c8 (bs:=[("a",.int a),("b",.int b)]) S.gcd J λL D bh=>?_
 .refine aQ (aE aA (az J) J) (aQ (aE aA (az J) J) (aQ (aE aA (az J) J) (aQ (aE aA (az J) J) (aQ (aE (ao J) (az J) J) (aQ (aE (ao J) (az J) J) ?_)))))
  let R:aC->EG->Prop:=λvs s=>(vs.lookup ("a":Str)=some (.v (.int s.a))/\vs.lookup ("b":Str)=some (.v (.int s.b))/\vs.lookup ("x":Str)=some (.v (.int s.x))/\vs.lookup ("y":Str)=some (.v (.int s.y))/\vs.lookup ("lx":Str)=some (.v (.int s.lx))/\vs.lookup ("ly":Str)=some (.v (.int s.ly))/\vs.lookup ("oa":Str)=some (.v (.int a))/\vs.lookup ("ob":Str)=some (.v (.int b)))/\0<=s.a/\s.a<2^64/\0<=s.b/\s.b<2^64;refine mR R (λs=>s.b.natAbs) (λs=>decide (s.b≠0)) w5 p_ ⟨a,b,0,1,1,0⟩ (λs hs=>?_) ⟨⟨J,J,J,J,J,J,J,J⟩,ha,ha2,hb,hb2⟩ (λvs s hR=>?_) (λvs s hR hg hres=>?_)
  .have h0:s.b≠0:=by simpa using hs
   exact⟨q_ s.a h0,tU h0⟩
  .refine nb λnn=>?_
   obtain⟨⟨r1,r2,r3,r4,r5,r6,r7,r8⟩,b1,b2,b3,b4⟩:=hR;have cn:=v7 (C:=C) (k:=k) s.b 0;have ce:(s.b !=0)=decide (s.b≠0):=by rw[abd];simp
   replace cn:=ce▸cn;refine nn<|⟨bw (cD J r2 J) aA cn,λhg=>?_⟩
   have h0:s.b≠0:=by simpa using hg
   have hpos:0<s.b:=by exact UP b3 h0
   obtain⟨q1,q2⟩:=KR b1 b2 b3;have hm0:=abk s.a hpos;have hm1:=aby s.a hpos;have BU:Builtin.divisionGoesByPylong s.a s.b=false:=mY (abp (by exact UQ b4 hpos:s.b.natAbs<2^64) (Nat.pow_lt_pow_right (by decide) (by decide)));let V:aC:=[("a",.v (.int s.a)),("b",.v (.int s.b)),("x",.v (.int s.x)),("y",.v (.int s.y)),("lx",.v (.int s.lx)),("ly",.v (.int s.ly)),("oa",.v (.int a)),("ob",.v (.int b))];refine⟨[("a",.v (.int s.b)),("b",.v (.int (s.a.fmod s.b))),("x",.v (.int (s.lx-s.a.fdiv s.b*s.x))),("y",.v (.int (s.ly-s.a.fdiv s.b*s.y))),("lx",.v (.int s.x)),("ly",.v (.int s.y)),("oa",.v (.int a)),("ob",.v (.int b)),("q",.v (.int (s.a.fdiv s.b)))],lQ (vs':=V) (fc _ ⟨r1,r2,r3,r4,r5,r6,r7,r8,trivial⟩) ?_,⟨J,J,J,J,J,J,J,J⟩,b3,b4,hm0,Int.lt_trans hm1 b4⟩;refine aK (aE (aI (ao J) (ao J) (iF _ _ h0 BU)) (az J) J) ?_;refine aK (j3 (names:=["a","b"]) (bW (aj (ao J) (aj (aI (ao J) (ao J) (b9 _ _ h0)) ak)) (aae J)) J ⟨(az J),(az J),J⟩ J J) ?_;refine aK (j3 (names:=["x","lx"]) (bW (aj (aI (ao J) (aI (ao J) (ao J) (fz _ _ (fu q1 q2))) (iN _ _)) (aj (ao J) ak)) (aae J)) J ⟨(az J),(az J),J⟩ J J) ?_;exact aK (j3 (names:=["y","ly"]) (bW (aj (aI (ao J) (aI (ao J) (ao J) (fz _ _ (fu q1 q2))) (iN _ _)) (aj (ao J) ak)) (aae J)) J ⟨(az J),(az J),J⟩ J J) aJ
  .refine nb λnn=>?_
   obtain⟨⟨r1,r2,r3,r4,r5,r6,r7,r8⟩,b1,b2,b3,b4⟩:=hR;have h0:s.b=0:=by simpa using hg
   replace hres:=(qC h0)▸hres;have he:oR a b=mh a b s:=by unfold oR;exact rs hres J
   refine nn ?_;refine rl he ?_;let V:aC:=[("a",.v (.int s.a)),("lx",.v (.int s.lx)),("ly",.v (.int s.ly)),("oa",.v (.int a)),("ob",.v (.int b))];refine pL (vs':=V) (fc _ ⟨r1,r5,r6,r7,r8,trivial⟩) ?_;have c1:=mJ (C:=C) (k:=k) s.lx 0;have c2:=mJ (C:=C) (k:=k) s.ly 0;have e1:gq C (gF k "extended_gcd" (mq (topS 3)) L 49 bh D) V (((o5 (topS 3))[7]?).getD (.Pass ⟨0,0,0,0⟩)) .next (aG V "lx" (.v (.int (if s.lx<0 then s.lx+b else s.lx)))):=by
    refine nb λnn=>?_;by_cases h:s.lx<0
    .replace c1:=(aaK h)▸c1
     refine nn ?_;refine rl (aaN h) ?_;exact c7 (bw (b:=true) (ao J) aA c1) (aK (sC (c6 J J) (ao J) (wH _ _) (az J)) aJ)
    .replace c1:=(aaH h)▸c1
     refine nn ?_;refine rl (aaD h) ?_;exact bq (bw (b:=false) (ao J) aA c1) aJ
   have e2:gq C (gF k "extended_gcd" (mq (topS 3)) L 49 bh D) (aG V "lx" (.v (.int (if s.lx<0 then s.lx+b else s.lx)))) (((o5 (topS 3))[8]?).getD (.Pass ⟨0,0,0,0⟩)) .next (aG (aG V "lx" (.v (.int (if s.lx<0 then s.lx+b else s.lx)))) "ly" (.v (.int (if s.ly<0 then s.ly+a else s.ly)))):=by
    by_cases h:s.ly<0
    .replace c2:=(aaK h)▸c2;refine rl (aaN h) ?_
     exact c7 (bw (b:=true) (ao J) aA c2) (aK (sC (c6 J J) (ao J) (wH _ _) (az J)) aJ)
    .replace c2:=(aaH h)▸c2;refine rl (aaD h) ?_
     exact bq (bw (b:=false) (ao J) aA c2) aJ
   exact aQ e1 (aQ e2 (bB (bW (aj (ao J) (aj (ao J) (aj (ao J) ak))) (aae J))))
theorem yV{C:Cx}(S:uJ C){k:Nat}(x n:Int)(ha:0<=x)(ha2:x<2^64)(hb:0<=n)(hb2:n<2^64)(h1:(oR x n).1=1):bJ C (k+2) (.ref 56) [.int x,.int n] [] (.int (oR x n).2.1):=by
 refine c8 (bs:=[("x",.int x),("n",.int n)]) S.inverse J λL D bh=>?_
 .have g:=KS S (k:=k) x n ha ha2 hb hb2
  have cn:=v7 (C:=C) (k:=k+1) (oR x n).1 1;rw[show((oR x n).1 !=1)=false from by refine rl h1 ?_;rfl] at cn;exact aQ (cy (cR (bV J S.Rt (λ_ _=>.bZ _ J) J) (aj (ao J) (aj (ao J) ak)) (cQ S.NO) g.toV) (sG (iy (cH (az J)) (iy (cH (az J)) (iy (cH (az J)) wc)))) J J)
   (aQ (bq (bw (b:=false) (ao J) aA cn) aJ) (bB (ao J)))
noncomputable def kF(ms:acu):Int:=ms.foldl (λm x=>m*x) 1
noncomputable def jm(m:Int)(x:Int)(p:Int×Int):Int:=(x+p.2*m.fdiv p.1*(oR (m.fdiv p.1) p.1).2.1).fmod m
noncomputable def AQ(as ms:acu):Int:=(ms.zip as).foldl (jm (kF ms)) 0
structure Hp(m:Int)(p:Int×Int):Prop where
 n0:p.1≠0
 b1:0<=p.1
 b2:p.1<2^64
 c1:0<=m.fdiv p.1
 c2:m.fdiv p.1<2^64
 a1:0<=p.2
 a2:p.2<2^64
 g:(oR (m.fdiv p.1) p.1).1=1
 i1:0<=(oR (m.fdiv p.1) p.1).2.1
 i2:(oR (m.fdiv p.1) p.1).2.1<2^64
theorem KU{C:Cx}(S:uJ C){k:Nat}(as ms:acu)(hm:∀x∈ms,0<=x/\x<2^64)(h0:kF ms≠0)(hp:∀p∈ms.zip as,Hp (kF ms) p):bJ C (k+3) (.ref 63) [iv as,iv ms] [] (.int (AQ as ms)):=by
 refine c8 (bs:=[("a_values",iv as),("modulo_values",iv ms)]) S.DS J λL D bh=>?_
 .refine aQ (aE aA (az J) J) (aQ (aE aA (az J) J) ?_)
  let R:aC->Int->Prop:=λvs m=>vs.lookup ("m":Str)=some (.v (.int m))/\vs.lookup ("x":Str)=some (.v (.int 0))/\vs.lookup ("a_values":Str)=some (.v (iv as))/\vs.lookup ("modulo_values":Str)=some (.v (iv ms));refine gz R (λm v=>match v with |.int i=>m*i |_=>m) 1 (bK (ms:=ms.map .int) (ao J)) (λq=>nomatch q) (λ_=>rfl) ⟨J,J,J,J⟩ (λvs m v hv hR=>?_) (λvs hR=>?_)
  .refine nb λnn=>?_
   obtain⟨i,hi,rfl⟩:=aan.mp hv;obtain⟨r1,r2,r3,r4⟩:=hR;have l1:∀z w,(aG vs "modulo" w).lookup z=if z=("modulo":Str) then some w else vs.lookup z:=λz w=>au vs "modulo" w z
   exact nn<|⟨_,[("m",.v (.int (m*i))),("x",.v (.int 0)),("a_values",.v (iv as)),("modulo_values",.v (iv ms)),("modulo",.v (.int i))],λDo=>cH (.inl J),λDo=>lQ (vs':=[("m",.v (.int m)),("x",.v (.int 0)),("a_values",.v (iv as)),("modulo_values",.v (iv ms)),("modulo",.v (.int i))]) (fc _ ⟨(l1 _ _).trans r1,(l1 _ _).trans r2,(l1 _ _).trans r3,(l1 _ _).trans r4,l1 _ _,trivial⟩) (aK (sC (c6 J J) (ao J) (J0 _ _ (tS (hm i hi).1 (hm i hi).2)) (.inl J)) aJ),J,J,J,J⟩
  .have e:(ms.map MV.int).foldl (λm v=>match v with |.int i=>m*i |_=>m) 1=kF ms:=by
    unfold kF;exact rl List.foldl_map J
   replace hR:=e▸hR;refine nb λnn=>?_;obtain⟨r1,r2,r3,r4⟩:=hR;refine nn<|pL (vs':=[("m",.v (.int (kF ms))),("x",.v (.int 0)),("a_values",.v (iv as)),("modulo_values",.v (iv ms))]) (fc _ ⟨r1,r2,r3,r4,trivial⟩) ?_
   let R2:aC->Int->Prop:=λvs x=>vs.lookup ("m":Str)=some (.v (.int (kF ms)))/\vs.lookup ("x":Str)=some (.v (.int x));refine gz R2 (λx v=>match v with |.tup [.int a,.int b]=>jm (kF ms) x (a,b) |_=>x) 0 (pO ms as▸pn (aM S.tD Boot.«zip» rfl) (aj (ao J) (aj (ao J) ak))) (λ_=>⟨_,_,_,J⟩) (λ_=>rfl) ⟨J,J⟩ (λvs x v hv hR=>?_) (λvs hR=>?_)
   .refine nb λnn=>?_
    obtain⟨p,Jy,rfl⟩:=aan.mp hv;obtain⟨⟨mi,ai⟩,hq,rfl⟩:=aan.mp Jy;obtain⟨r1,r2⟩:=hR;have H:=hp _ hq;have iv':=yV S (k:=k) ((kF ms).fdiv mi) mi H.c1 H.c2 H.b1 H.b2 H.g;have l1:∀z,(aG (aG vs "m_i" (.v (.int mi))) "a_i" (.v (.int ai))).lookup z=if z=("a_i":Str) then some (.v (.int ai)) else if z=("m_i":Str) then some (.v (.int mi)) else vs.lookup z:=λz=>by exact rl (au ..) (rl (au ..) J)
    have BU:Builtin.divisionGoesByPylong (kF ms) mi=false:=mY (abp (by have:=H.b1;have:=H.b2;simp only at *;exact UR (by assumption) this:mi.natAbs<2^64) (Nat.pow_lt_pow_right (by decide) (by decide)));refine nn<|⟨_,[("m",.v (.int (kF ms))),("x",.v (.int (jm (kF ms) x (mi,ai))))],λDo=>gc (.inl J) (.inl J),λDo=>?_,J,J⟩
    refine AN (fc [("m",.v (.int (kF ms))),("x",.v (.int (jm (kF ms) x (mi,ai))))] ?_) (lQ (vs':=[("m",.v (.int (kF ms))),("x",.v (.int x)),("m_i",.v (.int mi)),("a_i",.v (.int ai))]) (fc _ ⟨(l1 _).trans r1,(l1 _).trans r2,l1 _,l1 _,trivial⟩)
     (aK (aE (aI (ao J) (ao J) (iF _ _ H.n0 BU)) (.inl J) J) (aK (aE (cR (bV J S.DT (λ_ _=>.bZ _ J) J) (aj (ao J) (aj (ao J) ak)) (cQ S.AP) iv'.toV) (.inl J) J)
     (aK (aE (aI (aI (ao J) (aI (aI (ao J) (ao J) (fz _ _ (fu H.a1 H.a2))) (ao J) (fz _ _ (tS H.i1 H.i2))) (fy _ _)) (ao J) (b9 _ _ h0)) (.inl J) J) aJ))))
    exact⟨J,J,trivial⟩
   .have e:(((ms.zip as).map λp=>(MV.int p.1,MV.int p.2)).map λp=>MV.tup [p.1,p.2]).foldl (λx v=>match v with |.tup [.int a,.int b]=>jm (kF ms) x (a,b) |_=>x) 0=AQ as ms:=by
     unfold AQ;exact rl List.foldl_map (rl List.foldl_map J)
    replace hR:=e▸hR;exact bB (cD J hR.2 J)
noncomputable def gn(rows:Rows):MV:=.lst (rows.map λr=>.lst (r.map iv))
noncomputable def Hq(g:Nat->acu)(m:MV):MV:=iv (g (natOf m))
noncomputable def Hs(N:Nat)(g:Nat->Nat->acu)(m:MV):MV:=.lst ((bz 0 N).map (Hq (g (natOf m))))
theorem vA(M N:Nat)(g:Nat->Nat->acu) : .lst ((bz 0 M).map (Hs N g))=gn (fq M N g):=by unfold gn fq bz;congr 1;refine rl aar (rl aar ?_);refine aaz λi _=>?_;simp only[Function.comp_def,Hs,jM,bz,List.map_map];congr 1;refine aaz λj _=>?_;simp only[Hq,jM]
theorem tV{C:Cx}{N:Nm}(S:SF C N)(Z:fN C){k:Nat}(mo ri:MV)(Rc:∃r? q nn,ri=ay N.CR r? q nn)(A:dR)(q:Int)(nn:Nat)(hA:A.ok q nn)(kj:nn<=1000) :
 bJ C (k+4) (.ref 824) [A.val N.CM N.CP mo ri] [] (gn (fq A.M A.N A.at)):=by
 refine nb λnn=>?_;obtain⟨oc,od,kJ,kV,doc,pm,an,bh,ct,ho,h_⟩:=Z.rows.at_;obtain⟨r?,q',ZP,rfl⟩:=Rc;refine nn<|fJ (bs:=[("matrix",A.val N.CM N.CP mo (ay N.CR r? q' ZP))]) ho h_ (fh J) (by rfl) λL D=>?_
 .have pd:=fL S (k:=k+1) mo (ay N.CR r? q' ZP) A.rows A.tr A.m A.n hA.jw.toShape
  refine nb λnn=>?_;obtain⟨p1,p2,p3,p4⟩:=dR.pos hA;obtain⟨g1,g2,g3,g4,g5⟩:=Ml (show A.M<=100 by omega);obtain⟨f1,f2,f3,f4,f5⟩:=Ml (show A.N<=100 by omega);refine nn<|aQ (cy (bl (ao J) S.d_ J ak pd J) (gc (az J) (az J)) J J) ?_
  refine rs (vA ..) ?_;refine bB (aZ (jB (dH (aM Z.b8 Boot.«range» rfl) (aj (ao J) ak)) A.M g1 g2 g3 g4 g5) (λL Do=>bX (Hs A.N A.at) (az J) (c_ λi hi=>?_)) (λq=>nomatch q) J J (aaj J) (by simp[bz];omega) (λ_=>rfl));refine aZ (jB (dH (aM Z.b8 Boot.«range» rfl) (aj (ao J) ak)) A.N f1 f2 f3 f4 f5) (λL Do=>bX _ (az J) (c_ λj hj=>?_)) (λq=>nomatch q) J J (aaj J) (by simp[bz];omega) (λ_=>rfl);have hz:((A.at i j).map MV.int).map (λm=>m)=(A.at i j).map MV.int:=List.map_id' _;have en:=dR.ent hA hi hj;have e1:Hq (A.at (natOf (.int (i:Int)))) (.int (j:Int)) = .lst (((A.at i j).map MV.int).map λm=>m):=by refine rl hz ?_;rfl
  refine rl e1 ?_;refine aZ (bK (ms:=(A.at i j).map MV.int) (aV (bP S.cT (ao J) (bW (aj (ao J) (aj (ao J) ak)) (aae J)) (cU S (k:=k) _ _ A.rows A.tr i j _ (dR.get hA hi hj) (by exact YW p3 hi) (by exact YW p4 hj)) (by show k+2+1<=k+3;omega) (λ_ _=>rfl)) S.eY J J J)) (λL Do=>bX _ (az J) (aaM.mpr λc hc=>?_)) (λq=>nomatch q) J J (aaj J) (by refine rl (aai ..) ?_;omega) (λ_=>rfl);exact jY (bN (m:=.bool true) (bU (aM Z.aR Boot.«isinstance» rfl) (aj (ao J) (aj (aM Z.mT Boot.«int» rfl) ak)) J (bR Z.wM (λ_ _ _ q=>nomatch q) J (λ_ q=>nomatch q))) (bE true)) (ao J)
theorem Ht:builtinKind "pow"=none:=by decide +kernel
theorem DU:plainId "pow"=true:=by decide +kernel
theorem DV:entryFor table "pow"=some Builtin.«pow»:=entryFor_of_fast (by kernel_rfl)
theorem DW(a b c:Value):argsOk "pow" ⟨[a,b,c],[]⟩:=by unfold argsOk;kernel_rfl
theorem tW:Slot "int" (Str.ofString "__pow__") "int.__pow__":=PySem.F.slot_int_pow
theorem vB(b e m:Nat):∀k:Nat,(List.range k).reverse.foldl (λp i=>if e.testBit i then p*p%m*b%m else p*p%m) (b^(e/2^k)%m)=b^e%m
 |0=>by simp
 |k+1=>by
  rw[List.range_succ,List.reverse_append,List.reverse_cons,List.reverse_nil,List.nil_append,List.singleton_append,ab6];have hstep:(if e.testBit k=true then b^(e/2^(k+1))%m*(b^(e/2^(k+1))%m)%m*b%m else b^(e/2^(k+1))%m*(b^(e/2^(k+1))%m)%m)=b^(e/2^k)%m:=by
   have hd:e/2^(k+1)=e/2^k/2:=by rw[Nat.pow_succ,Nat.div_div_eq_div_mul]
   have hb:e.testBit k=decide (e/2^k%2=1):=by exact rl (Nat.testBit_eq_decide_div_mod_eq ..) J
   refine rl hd (rl hb (rs (Nat.mul_mod ..) ?_));generalize e/2^k=f;by_cases h:f%2=1
   .refine rl (aaN (by simp[h])) ?_
    have:f=f/2+f/2+1:=by exact US h
    conv=>rhs;rw[this,Nat.pow_succ,Nat.pow_add]
    exact rl (Nat.mod_mul_mod ..) J
   .refine rl (aaD (by simp[h]) ..) ?_
    have:f=f/2+f/2:=by exact UT h
    conv=>rhs;rw[this,Nat.pow_add]
  refine rl hstep ?_;exact vB b e m k
theorem DX(b e m:Nat):Builtin.powMod b e m=b^e%m:=by
 unfold Builtin.powMod;have h:e/2^(Builtin.Int.intBits e)=0:=by
  apply Nat.div_eq_of_lt;unfold Builtin.Int.intBits;split
  .rename_i q
   have:e=0:=by simpa using q
   subst this;decide
  .have:((e:Int)).natAbs=e:=Int.natAbs_natCast e
   rw[this];exact Nat.lt_log2_self
 have:=vB b e m (Builtin.Int.intBits e);rw[h,Nat.pow_zero] at this;exact this
section
variable{prog:Program}{w:World}{A:Around}{E:ach}{s:Shared}{a n m:Int}{t u v:Tok}{Q:ach}
theorem uK(hn:0<=n)(hm:1<m)(h:Q (.int ((Builtin.powMod (a%m).toNat n.natAbs m.natAbs:Nat):Int) s.toks) {s with toks:=s.toks+1}) :
 wpAny (model prog w) A (call (.builtin "int.__pow__") [.int a t,.int n u,.int m v]) (λv s'=>v≠.notImplemented/\Q v s') E s:=by
 refine wpAny_call_entry tW (typeIs_int s a t) PySem.F.entry_int_pow ?_ (PySem.F.args_int_pow_3 _ _ _);show wpAny _ _ (if(m==0)=true then _ else _) _ _ s;refine rl (aaD (by simp;exact UU hm)) ?_;show wpAny _ _ (if(m.natAbs==1)=true then _ else _) _ _ s;refine rl (aaD (by simp;exact UW hm)) ?_;show wpAny _ _ (if n<0 then _ else _) _ _ s;refine rl (aaD (by exact YX hn)) ?_;have e:(m.natAbs:Int)=m:=by exact Pn hm
 have e2:(if(decide (m<0)&&((Builtin.powMod (a%(m.natAbs:Int)).toNat n.natAbs m.natAbs:Nat):Int)!=0)=true then((Builtin.powMod (a%(m.natAbs:Int)).toNat n.natAbs m.natAbs:Nat):Int)-m.natAbs else((Builtin.powMod (a%(m.natAbs:Int)).toNat n.natAbs m.natAbs:Nat):Int))=((Builtin.powMod (a%m).toNat n.natAbs m.natAbs:Nat):Int):=by refine rl (aaH (by exact UX e)) ?_;simp[e]
 show wpAny _ _ (retInt (if(decide (m<0)&&((Builtin.powMod (a%(m.natAbs:Int)).toNat n.natAbs m.natAbs:Nat):Int)!=0)=true then((Builtin.powMod (a%(m.natAbs:Int)).toNat n.natAbs m.natAbs:Nat):Int)-m.natAbs else((Builtin.powMod (a%(m.natAbs:Int)).toNat n.natAbs m.natAbs:Nat):Int))) _ _ s;refine rl e2 ?_
 repeat (first |refine aat ?_ |refine wpAny_mkInt ?_ |refine abR ?_ |refine aal ?_)
 exact⟨_,J,by simp,h⟩
theorem X3(hn:0<=n)(hm:1<m)(h:Q (.int ((Builtin.powMod (a%m).toNat n.natAbs m.natAbs:Nat):Int) s.toks) {s with toks:=s.toks+1}) :
 wpAny (model prog w) A (call (.builtin "pow") [.int a t,.int n u,.int m v]) Q E s:=by
 refine Calls.call_function_entry Ht DU DV (DW _ _ _) ?_;unfold Builtin.«pow»;refine aal (m:=Builtin.Builtins.bindParams "pow" ["base","exp","mod"] 2 ⟨[.int a t,.int n u,.int m v],[]⟩) (aat ?_);refine aal (m:=rule "pow.mod") (abR ?_);refine aal (m:=typeOf (.int a t)) (aat ?_);refine aal (m:=typeLookup (.type "int") (Str.ofString "__pow__")) ?_;refine rl tW.lookup ?_;refine aat ?_;refine aal (m:=callSpecial? (.int a t) (Str.ofString "__pow__") [.int n u,.int m v]) (wpAny_callSpecial?_slot (name:=Str.ofString "__pow__") (typeIs_int s a t) tW (aaQ (uK hn hm h) (λy s' ⟨h1,h2⟩=>?_) λ_ _ e=>e));show wpAny _ _ (if(y !=.notImplemented)=true then _ else _) _ _ s';refine rl (aaN (by simpa using h1)) ?_;exact aat ⟨_,J,h2⟩
end
section
variable{C:Cx}{Γ:Gm}{W D:acq}{s s':Shared}{vs vs':aC}{k:Nat}{x y:Str}{elt:Expr}{a:Addr}{l:acw}
theorem KV(a m:Int)(e:Nat)(h0:0<=a)(h1:a<m)(h2:1<m):BX C k (.builtin "pow") [.int a,.int e,.int m] (.int ((a^e).fmod m)):=λA s D vals G I dk ds=>by
 cases BE ds with |mk _ _ _ d1 d2 d3=>
 cases d1.eL with |mk t1=>
 cases d2.eL with |mk t2=>
 cases d3.eL with |mk t3=>
 have e1:((Builtin.powMod (a%m).toNat ((e:Int)).natAbs m.natAbs:Nat):Int)=(a^e).fmod m:=by
  refine rl (abV h0 h1 ..) (rl (DX ..) (rl (aaA _ (by exact Po h2) ..) (rl (Int.natAbs_natCast ..) ?_)));have ea:a=(a.toNat:Int):=by exact UY h0
  have em:(m.natAbs:Int)=m:=by exact Pn h2
  exact rl (Int.natCast_emod ..) (rl em (rl (Int.natCast_pow ..) (rs ea J)))
 exact X3 (by omega) h2 (by exact rl e1 ((.int I _ _ _)))
theorem tX{is:acu}{i:Int}:iZ C (k+1) .In (.int i) (.tup (is.map .int)) (.bool (decide (i∈is)))/\iZ C (k+1) .NotIn (.int i) (.tup (is.map .int)) (.bool (decide (i∉is))):=by
 have NP:∀is:acu,kqdPs (is.map Dat.int)=is.map .int:=λis=>by
  induction is with
  |nil=>rfl
  |cons a r ih=>simp only[List.map_cons,kqdPs,kqdP,ih]
 have Hu:((is.map PyData.int).any λz=>PyData.eqv z (.int i))=decide (i∈is):=by
  rw[abd,List.any_map,ace,abu];constructor
  .rintro⟨z,hz,h⟩
   have:z=i:=by simpa [PyData.eqv] using h
   refine rs this ?_;exact hz
  .intro h
   exact⟨i,h,by simp[PyData.eqv]⟩
 have ok:kqdOk 8 (.tuple (is.map Dat.int))=true:=by simp[kqdOk]
 have rd:∀{h:Heap}{D:acq}{y:Value},Den h D y (.tup (is.map .int))->∃as,Reads h y (.tuple (is.map .int)) as:=λ{h D y} d=>by
  have e:eW (.tuple (is.map Dat.int)) = .tup (is.map .int):=by rw[eW,kT]
  obtain⟨as,r⟩:=i_ (.tuple (is.map Dat.int)) 8 (e▸d) ok;rw[kqdP,NP] at r;exact⟨as,r⟩
 constructor
 .intro A s D x y G I dk bx bG
  obtain⟨as,r⟩:=rd bG;cases bx.eL with
  |mk t=>exact SeqAt.in_tuple_reads r (Reads.int i t) (ke_canLayAll0 is) J (by refine rl (ke_depthAll ..) ?_;have:=G.units;exact Sm this) (by exact rl Hu ((nj.bool I _)))
 .intro A s D x y G I dk bx bG
  obtain⟨as,r⟩:=rd bG;cases bx.eL with
  |mk t=>exact SeqAt.notIn_tuple_reads r (Reads.int i t) (ke_canLayAll0 is) J (by refine rl (ke_depthAll ..) ?_;have:=G.units;exact Sm this) (by refine rl Hu ?_;simpa using nj.bool I (!decide (i∈is)))
open Classical in
theorem AR(is:acu):iZ C (k+1) .NotEq (.lst (is.map .int)) (.lst []) (.bool (!is.isEmpty)):=by
 have h:=lI (C:=C) (k:=k) (d:=.list (is.map Dat.int)) (e:=.list []) (by simp[kqdOk]) (by simp[kqdOk]);have e1:eW (.list (is.map Dat.int)) = .lst (is.map .int):=by rw[eW,kT]
 have e2:eW (.list []) = .lst []:=rfl;have e3:decide (Dat.list (is.map Dat.int)≠Dat.list [])=!is.isEmpty:=by cases is<;>simp
 rw[e1,e2,e3] at h;exact h
theorem rj{px py pt:Pos}{n:Nat}{c:Expr}{σ:Type}(mk:σ->MV×MV)(f:σ->MV)(q:σ->Bool)(hx:rG Γ x)(hy:rG Γ y)(hxy:(x==y)=false):∀(ps:List σ)(vs:aC),(∀p∈ps,Ts C Γ (aG (aG vs x (.v (mk p).1)) y (.v (mk p).2)) c (q p)/\(q p=true->Ev C Γ (aG (aG vs x (.v (mk p).1)) y (.v (mk p).2)) elt (f p)))->∀vs',(∀m m',aG (aG vs' x m) y m'=aG (aG vs x m) y m')->
 x9 C Γ (.Tuple [.Name x px,.Name y py] n pt) [c] elt (ps.map λp=>MV.tup [(mk p).1,(mk p).2]) vs' ((ps.filter q).map f)
 |[],vs,H,vs',hv=>rfl
 |p::ps,vs,H,vs',hv=>by
  have ih:=rj (px:=px) (py:=py) (pt:=pt) (n:=n) mk f q hx hy hxy ps vs (λz hz=>H z (.tail _ hz)) (aG (aG vs' x (.v (mk p).1)) y (.v (mk p).2)) λm m'=>by exact rl (pH x y _ _ _ _ hxy ..) ((hv m m'))
  obtain⟨h1,h2⟩:=H p (.head _);refine⟨_,gc hx hy,q p,by rw[hv];exact h1,?_⟩;cases hq:q p with
  |true=>exact⟨f p,_,by rw[hv];exact h2 hq,by exact rl List.filter_cons (rl (aaN hq) (rl ab8 J)),ih⟩
  |false=>exact rl (List.filter_cons ..) (rl (aaD (by simp[hq]) ..) ih)
theorem w6{id:Str}{p pos p2:Pos}(Hf:Ev C Γ vs (.Name id p) (.bZ (.type "enumerate")))(hv:vs.lookup x=some (.own a l))(hx:Γ.env.kindOf x=some .local)(hd:(x==("__debug__":Str))=false):OY C Γ vs (.Call (.Name id p) [.Name x p2] [] pos) true (l.mapIdx λj m=>MV.tup [MV.int (j:Int),m]):=λA s W G I F=>by
 refine jk Hf J (xO J) G I F λaq a_ aF aU=>jq hv hx aU hd ⟨aF,?_⟩;refine nb λnn=>?_;obtain⟨ql,xs,n1,hg,dx⟩:=iH hv hx aU;refine nn<|call_enumerate_list ⟨_,hg,J,n1,J⟩ λh' a1 a4 a6 a7=>?_
 have JG:=aaB hg;refine wpAny_pyIter_enum a1 ⟨[aq.heap.objs.size+1,aq.heap.objs.size],λz hz=>?_,?_,a_.then ?_,?_⟩
 .have ts:=a_.size
  show s.heap.objs.size<=z/\z<h'.objs.size;refine rl a6 ?_;simp only[List.mem_cons,List.not_mem_nil,or_false] at hz;rcases hz with rfl |rfl<;>constructor<;>first |exact aaf ts (aay _ _) |exact ts |exact Nat.add_lt_add_left (by decide) _ |exact Nat.lt_add_of_pos_right (by decide)
 .have fr:∀z∈[aq.heap.objs.size+1,aq.heap.objs.size],aq.heap.objs.size<=z:=λz hz=>by
   simp only[List.mem_cons,List.not_mem_nil,or_false] at hz;rcases hz with rfl |rfl<;>first |exact aay _ _ |exact aaq _
  have kp:Kept [] aq.heap h':=λb o _ e=>a7 b o e;have sz:=aF.size;have z:jz C.H.objs.size h' (W++([aq.heap.objs.size+1,aq.heap.objs.size]++Γ.Do)) C.tabs true [aq.heap.objs.size+1,aq.heap.objs.size] (.ref (aq.heap.objs.size+1)) (l.mapIdx λj m=>MV.tup [MV.int (((0:Nat):Int)+j),m]):=
   jz.enum (l:=a) (i:=0) (n:=n1) (old:=.none) a1 a4 (a7 _ _ hg) (aX aF (aU.lo a ql)) (by exact rl ab0 ((dx.kept kp n0 λd hd=>nv fr hd)))
    (aaf sz (aay _ _)) sz (Nat.succ_ne_self _) (abB (aa5 JG)) (abB JG)
  simpa using z
 .exact bL.heap (tk:=aq.toks) (by exact rl a6 ((aay _ _))) (λb o _ e=>a7 b o e)
 .exact aF.step (tk:=aq.toks) (W:=[]) (by exact rl a6 ((aay _ _))) (λb o _ e=>a7 b o e) n0
theorem vC:∀(l:acu)(t:Int),x_ C k (l.map .int) (.int t) (.int (l.foldl (·+·) t)):=by
 intro ll
 induction ll with
 |nil=>
  intro t;exact J
 |cons b l ih=>
  intro t;exact⟨t,J,ih (t+b)⟩
end
theorem j6{a:Int}{n:Nat}(h:a.natAbs<2^n):Builtin.Int.intBits a<=n:=PyProof.Rows.intBits_le h
theorem KW{a b:Int}(ha:a.natAbs<2^30000)(hb:b.natAbs<2^30000):IntMulOk a b:=by
 have h1:=j6 ha;have h2:=j6 hb;unfold IntMulOk;have:Builtin.Int.intTooBig ((Builtin.Int.intBits a:Int)+(Builtin.Int.intBits b:Int))=false:=by unfold Builtin.Int.intTooBig;exact aaH (by unfold bitsLine;exact UZ h1 h2)
 intro q;simp only[Bool.and_eq_true] at q;rw[this] at q;exact absurd q.2 (by simp)
noncomputable abbrev PM:=ack
noncomputable def pV(P:PM):MV:=.lst (P.map iv)
noncomputable def pat(P:PM)(i j:Nat):Int:=((P[i]?.getD [])[j]?).getD 0
noncomputable def pW(P:PM):Nat:=(P[0]?.getD []).length
structure fD(whole:Int)(P:PM):Prop where
 m0:0<P.length
 n0:0<pW P
 m9:P.length<=30
 n9:pW P<=30
 row:∀r∈P,r.length=pW P
 ent:∀r∈P,∀x∈r,0<=x/\x<whole
noncomputable def qD(kind:Nat)(a b:PM):Bool:=if kind<2 then decide (pW a=b.length) else(decide (a.length=b.length)&&decide (pW a=pW b))
noncomputable def mF{α:Type}(l:List α):List (Nat×α):=l.mapIdx λj b=>(j,b)
noncomputable def rm(kind:Nat)(a:PM)(sh:List PM):List Nat:=((mF sh).filter λp=>qD kind a p.2).map (·.1)
noncomputable def AS(whole:Int)(row:acu)(b:PM)(c:Nat):Int:=((row.mapIdx λk x=>x*pat b k c).foldl (·+·) 0).fmod whole
noncomputable def iR(whole:Int)(a b:PM)(d:gV):PM:=
 if d.kind<2 then a.map λrow=>(List.range (pW b)).map λc=>AS whole row b c
 else if d.kind=3 then(List.range (pW a)).map λc=>a.map λrow=>row[c]?.getD 0
 else if d.kind=4 then[[((d.small:Int)-6*pat a 0 0*pat b 0 0+(d.small:Int).fdiv 7).fmod whole]]
 else if d.kind=8 then[[(pat a 0 0^d.power).fmod whole]]
 else(a.zip b).map λp=>(p.1.zip p.2).map λz=>(z.1+(if d.kind=2\/d.kind=6 then 1 else -1)*z.2).fmod whole
structure PS where
 sh:List PM
 ds:List gV
 td:acv
noncomputable def cE(st:PS)(drawn:Int):List Nat:=rm (drawn.fmod 10).toNat (st.sh[((drawn.fdiv 10).fmod st.sh.length).toNat]?.getD []) st.sh
noncomputable def pJ(st:PS)(drawn:Int):Nat:=
 if cE st drawn≠[]/\(drawn.fdiv 30).fmod 4≠3 then(cE st drawn)[((drawn.fdiv 30).fmod (cE st drawn).length).toNat]?.getD 0 else((drawn.fdiv 120).fmod st.sh.length).toNat
noncomputable def aW(st:PS)(drawn:Int):gV:=
 ⟨(drawn.fmod 10).toNat,((drawn.fdiv 10).fmod st.sh.length).toNat,pJ st drawn,((drawn.fdiv 3).fmod 1000).toNat,((drawn.fdiv 3).fmod 1000).toNat%(if st.ds.length=3 then 7 else 4)⟩
noncomputable def fG(whole:Int)(st:PS)(drawn:Int):PS:=
 if(aW st drawn).kind=7 then⟨st.sh,st.ds++[aW st drawn],st.td++[("kind":Str)]⟩
 else if(aW st drawn).j∉cE st drawn/\¬((aW st drawn).kind=3\/(aW st drawn).kind=4\/(aW st drawn).kind=8) then⟨st.sh,st.ds++[aW st drawn],st.td++[("shape":Str)]⟩
 else⟨st.sh++[iR whole (st.sh[(aW st drawn).i]?.getD []) (st.sh[(aW st drawn).j]?.getD []) (aW st drawn)],st.ds++[aW st drawn],st.td++[("made":Str)]⟩
theorem yW{α:Type}(l:List α)(f:α->MV):(l.map f).mapIdx (λj m=>MV.tup [MV.int (j:Int),m])=(mF l).map λp=>MV.tup [MV.int (p.1:Int),f p.2]:=by unfold mF;apply List.ext_getElem?;intro i;simp[List.getElem?_mapIdx];rfl
theorem bT(a:Int){b:Int}(h:0<b):0<=a.fmod b/\a.fmod b<b:=⟨abk _ h,aby _ h⟩
theorem jG(a:Int){b:Int}(h:0<b):(((a.fmod b).toNat:Nat):Int)=a.fmod b:=Int.toNat_of_nonneg (bT a h).1
noncomputable def yX:MV->acu
 |.lst l=>l.map λm=>match m with |.int i=>i |_=>0
 |_=>[]
theorem qa(cs:acu):yX (iv cs)=cs:=by show(cs.map MV.int).map _=cs;exact rl aar ((List.map_id' _))
theorem NQ(A:PM)(g:acu->acu):(A.map iv).map (λm=>iv (g (yX m)))=(A.map g).map iv:=by refine rl aar (rl aar ?_);refine aaz λr _=>?_;simp only[Function.comp_def,qa]
section
variable{C:Cx}{Γ:Gm}{vs:aC}{k:Nat}{e:Expr}
theorem sf(P:PM)(h:P.length<=30):BX C k (.builtin "len") [pV P] (.int P.length):=by have:=iQ (C:=C) (k:=k) (l:=P.map iv) (by refine rl (aai ..) ?_;omega);replace this:=(aai ..)▸this;exact this
theorem lR(r:acu)(h:r.length<=1000):BX C k (.builtin "len") [iv r] (.int r.length):=by have:=iQ (C:=C) (k:=k) (l:=r.map .int) (by refine rl (aai ..) ?_;omega);replace this:=(aai ..)▸this;exact this
theorem X4{P:PM}{i:Nat}(h:i<P.length):(P.map iv)[((i:Nat):Int).toNat]?=some (iv (P[i]?.getD [])):=by refine rl (aaV ..) (rl (aav ..) (rl (aak h ..) ?_));rfl
theorem jo{P:PM}{x:Expr}{pos:Pos}{i:Nat}(H:Ev C Γ vs e (pV P))(Hi:Ev C Γ vs x (.int (i:Nat)))(h:i<P.length)(h9:P.length<=30)(hs:∀a b,subscripted x false a b=operate [a,b] (getItem a b)):Ev C Γ vs (.Subscript e x pos) (iv (P[i]?.getD [])):=
 bC H Hi (by omega) (by exact U0 h h9) (X4 h) hs
theorem nK{r:acu}{x:Expr}{pos:Pos}{j:Nat}(H:Ev C Γ vs e (iv r))(Hj:Ev C Γ vs x (.int (j:Nat)))(h:j<r.length)(h9:r.length<=1000)(hs:∀a b,subscripted x false a b=operate [a,b] (getItem a b)):Ev C Γ vs (.Subscript e x pos) (.int (r[j]?.getD 0)):=
 bC (l:=r.map .int) H Hj (by omega) (by exact Zc h h9) (mU (p:=j) J h) hs
end
theorem fD.at{whole:Int}{P:PM}(h:fD whole P){i:Nat}(hi:i<P.length):(P[i]?.getD [])∈P/\(P[i]?.getD []).length=pW P:=by refine rl (aak hi) ?_;exact⟨aaE hi,h.row _ (aaE hi)⟩
theorem fD.pat{whole:Int}{P:PM}(h:fD whole P){i j:Nat}(hi:i<P.length)(hj:j<pW P):0<=pat P i j/\pat P i j<whole:=by
 obtain⟨h1,h2⟩:=h.at hi;unfold Mine.pat;have hj':j<(P[i]?.getD []).length:=by exact rl h2 hj
 refine rl (aak hj') ?_;exact h.ent _ h1 _ (aaE hj')
theorem KY{kind:Nat}{a:PM}{sh:List PM}{j:Nat}(h:j∈rm kind a sh):j<sh.length:=by obtain⟨p,hp,rfl⟩:=aan.mp h;have h1:=(aaG.mp hp).1;obtain⟨i,hi,rfl⟩:=List.mem_mapIdx.mp h1;exact hi
theorem Hw(F:List Nat){i:Nat}(hi:i<F.length):((F.map λ(j:Nat)=>(j:Int))[i]?.getD 0)=((F[i]?.getD 0:Nat):Int):=by refine rl aav (rl (aak hi) ?_);rfl
theorem Cn{st:PS}{drawn:Int}(h0:0<st.sh.length):pJ st drawn<st.sh.length:=by
 unfold pJ;split
 .rename_i h
  have hl:0<(cE st drawn).length:=List.length_pos_iff.mpr h.1;have hb:=bT (drawn.fdiv 30) (b:=(cE st drawn).length) (by exact a1 hl);have hi:((drawn.fdiv 30).fmod (cE st drawn).length).toNat<(cE st drawn).length:=by exact v5 hb
  refine rl (aak hi) ?_;exact KY (aaE hi)
 .have hb:=bT (drawn.fdiv 120) (b:=st.sh.length) (by exact a1 h0)
  exact v5 hb
noncomputable def AU:acr:=kS (((o5 (topS 22))[2]?).getD (.Pass ⟨0,0,0,0⟩)) 0
noncomputable def EB(n:Nat):Stmt:=(AU[n]?).getD (.Pass ⟨0,0,0,0⟩)
noncomputable def mG(k:Nat)(L:Addr)(bh:Value)(D:acq):Gm:=(gF k "_law_plain" (mq (topS 22)) L 812 bh D)
noncomputable def O5(whole:Int)(aS aD aT:Addr)(sh ds td:acw)(drawn:Int):aC:=[("whole",.v (.int whole)),("shelf",.own aS sh),("deeds",.own aD ds),("told",.own aT td),("drawn",.v (.int drawn))]
noncomputable def sj(whole:Int)(aS aD aT:Addr)(sh ds td:acw)(drawn:Int)(d:gV)(A B:PM)(F:List Nat):aC:=
 [("whole",.v (.int whole)),("shelf",.own aS sh),("deeds",.own aD ds),("told",.own aT td),("drawn",.v (.int drawn)),("kind",.v (.int d.kind)),("i",.v (.int d.i)),("a",.v (pV A)),("fits",.v (iv (F.map λ(j:Nat)=>(j:Int)))),("j",.v (.int d.j)),("b",.v (pV B)),("small",.v (.int d.small)),("power",.v (.int d.power))]
noncomputable def X5(whole:Int)(aS aD aT:Addr)(sh ds td:acw)(drawn kind i:Int)(A:PM):aC:=[("whole",.v (.int whole)),("shelf",.own aS sh),("deeds",.own aD ds),("told",.own aT td),("drawn",.v (.int drawn)),("kind",.v (.int kind)),("i",.v (.int i)),("a",.v (pV A))]
theorem tY{α:Type}{l:List α}{p:Nat×α}(h:p∈mF l):p.2∈l/\p.1<l.length:=by obtain⟨i,hi,rfl⟩:=List.mem_mapIdx.mp h;exact⟨aaE hi,hi⟩
theorem NR{C:Cx}(S:fN C){Γ:Gm}{whole:Int}{kind:Nat}{A B:PM}(hA:fD whole A)(hB:fD whole B){vs:aC}{e1 e2 e3 e4 e5 e6 e7:Expr}
 (H1:Ts C Γ vs e1 (decide (kind<2))) (H2:Ev C Γ vs e2 (.int (pW A))) (H3:Ev C Γ vs e3 (.int B.length)) (H4:Ev C Γ vs e4 (.int A.length)) (H5:Ev C Γ vs e5 (.int B.length)) (H6:Ev C Γ vs e6 (.int (pW A))) (H7:Ev C Γ vs e7 (.int (pW B))) {p1 p2 p3 p4 p5:Pos}
 (h3:behindInMarks .Eq e3=false) (h5:behindInMarks .Eq e5=false) (h7:behindInMarks .Eq e7=false) :
 Ts C Γ vs (.IfExp e1 (.Compare e2 [.Eq] [e3] p1) (.BoolOp .And [.Compare e4 [.Eq] [e5] p2,.Compare e6 [.Eq] [e7] p3] p4) p5) (qD kind A B):=by
 have Ru:∀a b:Nat,(((a:Int))==(b:Int))=decide (a=b):=λa b=>by rw[abd,aa3,abu];exact S_
 have cA:=gO (C:=C) (k:=Γ.k) (pW A) B.length;have cB:=gO (C:=C) (k:=Γ.k) A.length B.length;have cC:=gO (C:=C) (k:=Γ.k) (pW A) (pW B);rw[Ru] at cA cB cC;unfold qD;by_cases h:kind<2
 .replace H1:=(aaK h)▸H1
  refine rl (aaN h) ?_;exact Fy H1 (bw H2 H3 cA h3)
 .replace H1:=(aaH h)▸H1
  refine rl (aaD h) ?_;exact Fz H1 (tw (bw H4 H5 cB h5) λ_=>bw H6 H7 cC h7)
theorem w7{C:Cx}{Γ:Gm}{vs:aC}{x y:Str}{elt c:Expr}{px py pt:Pos}{n:Nat}{σ:Type}(mk:σ->MV×MV)(f:σ->MV)(q:σ->Bool)(hx:rG Γ x)(hy:rG Γ y)(hxy:(x==y)=false)(ps:List σ)(H:∀p∈ps,Ts C Γ (aG (aG vs x (.v (mk p).1)) y (.v (mk p).2)) c (q p)/\(q p=true->Ev C Γ (aG (aG vs x (.v (mk p).1)) y (.v (mk p).2)) elt (f p))) :
 x9 C Γ (.Tuple [.Name x px,.Name y py] n pt) [c] elt (ps.map λp=>MV.tup [(mk p).1,(mk p).2]) vs ((ps.filter q).map f):=rj mk f q hx hy hxy ps vs H vs λ_ _=>rfl
theorem KZ{C:Cx}(S:fN C){k:Nat}(L:Addr)(bh:Value)(whole:Int)(aS aD aT:Addr)(sh:List PM)(ds td:acw)(drawn i:Int)(kind:Nat)(A:PM)(hA:fD whole A)(h9:sh.length<=100)(eN:∀P∈sh,fD whole P)(D:acq) :
 gq C (mG (k+5) L bh D) (X5 whole aS aD aT (sh.map pV) ds td drawn kind i A) (EB 3) .next (aG (X5 whole aS aD aT (sh.map pV) ds td drawn kind i A) "fits" (.v (iv ((rm kind A sh).map λ(j:Nat)=>(j:Int))))):=by
 have e1:(iv ((rm kind A sh).map λ(j:Nat)=>(j:Int))) = .lst (((mF sh).filter λp=>qD kind A p.2).map λp=>.int (p.1:Int)):=by unfold rm iv;refine rl aar (rl aar ?_);rfl
 refine rl e1 ?_;refine l_ (w6 (x:="shelf") (aM S.mX Boot.«enumerate» rfl) J J J) (λL Do=>kL.one ?_ (λ_=>⟨_,_,_,J⟩) (by refine rl (List.length_mapIdx ..) (rl (aai ..) ?_);omega)) J J (aaj J) (λ_=>rfl) (az J) J;refine rl (yW ..) ?_;refine w7 (λp:Nat×PM=>(MV.int (p.1:Int),pV p.2)) (λp=>.int (p.1:Int)) (λp=>qD kind A p.2) ?_ ?_ ?_ (mF sh) (λp hp=>⟨?_,λ_=>?_⟩)
 iterate 2 exact(az J)
 .rfl
 rotate_left
 .exact(ao J)
 obtain⟨hp1,hp2⟩:=tY hp;have hB:=eN _ hp1;have a1:=(hA.at hA.m0).1;have b1:=(hB.at hB.m0).1;have lA:(A[0]?.getD []).length<=1000:=aaf hA.n9 (aae J);have lB:(p.2[0]?.getD []).length<=1000:=aaf hB.n9 (aae J);have c0:decide (kind<2)=decide ((kind:Int)<2):=abz.mpr (by exact U1);refine NR S hA hB (by exact rl c0 ((bw (ao J) aA (mJ _ _)))) (bU (aM S.fU Boot.«len» rfl) (aj (jo (i:=0) (ao J) aA hA.m0 hA.m9 (λ_ _=>rfl)) ak) J (lR _ lA)) (bU (aM S.fU Boot.«len» rfl) (aj (ao J) ak) J (sf _ hB.m9)) (bU (aM S.fU Boot.«len» rfl) (aj (ao J) ak) J (sf _ hA.m9)) (bU (aM S.fU Boot.«len» rfl) (aj (ao J) ak) J (sf _ hB.m9)) (bU (aM S.fU Boot.«len» rfl) (aj (jo (i:=0) (ao J) aA hA.m0 hA.m9 (λ_ _=>rfl)) ak) J (lR _ lA)) (bU (aM S.fU Boot.«len» rfl) (aj (jo (i:=0) (ao J) aA hB.m0 hB.m9 (λ_ _=>rfl)) ak) J (lR _ lB)) (by with_unfolding_all rfl) (by with_unfolding_all rfl) (by with_unfolding_all rfl)
noncomputable def NS(whole:Int)(aS aD aT:Addr)(sh ds td:acw)(drawn kind i:Int)(A:PM)(F:List Nat):aC:=[("whole",.v (.int whole)),("shelf",.own aS sh),("deeds",.own aD ds),("told",.own aT td),("drawn",.v (.int drawn)),("kind",.v (.int kind)),("i",.v (.int i)),("a",.v (pV A)),("fits",.v (iv (F.map λ(j:Nat)=>(j:Int))))]
theorem vD{C:Cx}(S:fN C){k:Nat}{L:Addr}{bh:Value}{D:acq}{vs:aC}{aS:Addr}{l:acw}(hv:vs.lookup ("shelf":Str)=some (.own aS l))(hl:l.length<=1000){p1 p2 p3:Pos}:Ev C (mG k L bh D) vs (.Call (.Name "len" p1) [.Name "shelf" p2] [] p3) (.int l.length):=
 Bw (x:="shelf") hv J (bU (aM S.fU Boot.«len» rfl) (aj (fV (c6 J (by exact rl (au ..) (rl (aaN J ..) J))) J) ak) J (iQ hl)) J
theorem vE{C:Cx}(S:fN C){k:Nat}{L:Addr}{bh:Value}{D:acq}{vs:aC}{aS:Addr}{l:acw}(hv:vs.lookup ("deeds":Str)=some (.own aS l))(hl:l.length<=1000){p1 p2 p3:Pos}:Ev C (mG k L bh D) vs (.Call (.Name "len" p1) [.Name "deeds" p2] [] p3) (.int l.length):=
 Bw (x:="deeds") hv J (bU (aM S.fU Boot.«len» rfl) (aj (fV (c6 J (by exact rl (au ..) (rl (aaN J ..) J))) J) ak) J (iQ hl)) J
theorem X6{C:Cx}(S:fN C){k:Nat}(L:Addr)(bh:Value)(whole:Int)(aS aD aT:Addr)(st:PS)(drawn:Int)(ds td:acw)(kind i:Int)(A:PM)(h0:0<st.sh.length)(h9:st.sh.length<=100)(D:acq) :
 gq C (mG (k+5) L bh D) (NS whole aS aD aT (st.sh.map pV) ds td drawn kind i A (cE st drawn)) (EB 4) .next (aG (NS whole aS aD aT (st.sh.map pV) ds td drawn kind i A (cE st drawn)) "j" (.v (.int (pJ st drawn:Nat)))):=by
 have BU:∀x y:Int,y.natAbs<1073741824->Builtin.divisionGoesByPylong x y=false:=λx y h=>abl h;have X7:(st.sh.map pV).length<=1000:=by refine rl (aai ..) ?_;omega
 have lF:(cE st drawn).length<=100:=by unfold cE rm;refine rl (aai ..) ?_;refine aaf (List.length_filter_le _ _) ?_;rw[mF,List.length_mapIdx];exact h9
 have S3:((cE st drawn).map λ(j:Nat)=>(j:Int)).length=(cE st drawn).length:=by exact rl (aai ..) J
 have c1:=AR (C:=C) (k:=k+4) ((cE st drawn).map λ(j:Nat)=>(j:Int));have c2:=v7 (C:=C) (k:=k+5) ((drawn.fdiv 30).fmod 4) 3;have e1:(!((cE st drawn).map λ(j:Nat)=>(j:Int)).isEmpty)=decide (cE st drawn≠[]):=by cases cE st drawn<;>simp
 have e2:(((drawn.fdiv 30).fmod 4)!=(3:Int))=decide ((drawn.fdiv 30).fmod 4≠3):=by rw[abd,bne_iff_ne,abu]
 replace c1:=e1▸c1;rw[e2] at c2;have Hy:∀{e1 e2 e3 e4:Expr}{p1 p2 p3:Pos},Ev C (mG (k+5) L bh D) (NS whole aS aD aT (st.sh.map pV) ds td drawn kind i A (cE st drawn)) e1 (iv ((cE st drawn).map λ(j:Nat)=>(j:Int)))->Ev C (mG (k+5) L bh D) (NS whole aS aD aT (st.sh.map pV) ds td drawn kind i A (cE st drawn)) e2 (.lst [])->Ev C (mG (k+5) L bh D) (NS whole aS aD aT (st.sh.map pV) ds td drawn kind i A (cE st drawn)) e3 (.int ((drawn.fdiv 30).fmod 4))->Ev C (mG (k+5) L bh D) (NS whole aS aD aT (st.sh.map pV) ds td drawn kind i A (cE st drawn)) e4 (.int 3)->behindInMarks .NotEq e2=false->behindInMarks .NotEq e4=false->
  Ts C (mG (k+5) L bh D) (NS whole aS aD aT (st.sh.map pV) ds td drawn kind i A (cE st drawn)) (.BoolOp .And [.Compare e1 [.NotEq] [e2] p1,.Compare e3 [.NotEq] [e4] p2] p3) (decide (cE st drawn≠[]/\(drawn.fdiv 30).fmod 4≠3)):=λ{e1 e2 e3 e4 p1 p2 p3} H1 H2 H3 H4 b2 b4=>by
  have:=tw (pos:=p3) (bw (pos:=p1) H1 H2 c1 b2) (λ_=>bw (pos:=p2) H3 H4 c2 b4);rw[<- Bool.decide_and] at this;exact this
 by_cases h:cE st drawn≠[]/\(drawn.fdiv 30).fmod 4≠3
 .rw[aaK h] at Hy
  have hl:0<(cE st drawn).length:=List.length_pos_iff.mpr h.1;have hb:=bT (drawn.fdiv 30) (b:=(cE st drawn).length) (by exact a1 hl);have hi:((drawn.fdiv 30).fmod (cE st drawn).length).toNat<(cE st drawn).length:=by exact v5 hb
  have ei:=jG (drawn.fdiv 30) (b:=(cE st drawn).length) (by exact a1 hl);have ej:((pJ st drawn:Nat):Int)=(((cE st drawn).map λ(j:Nat)=>(j:Int))[((drawn.fdiv 30).fmod (cE st drawn).length).toNat]?.getD 0):=by refine rl (Hw _ hi) ?_;unfold pJ;exact rl (aaN h) J
  refine rl ej ?_;have hlen:=lR (C:=C) (k:=k+5) ((cE st drawn).map λ(j:Nat)=>(j:Int)) (by rw[S3];omega);replace hlen:=S3▸hlen;refine aE (jY (Hy (ao J) (eF ak (Nat.zero_le _)) (aI (aI (ao J) aA (iF _ _ (by decide) (BU _ _ (by decide)))) aA (b9 _ _ (by decide))) aA (by with_unfolding_all rfl) (by with_unfolding_all rfl)) (nK (ao J) ?_ (by exact rl S3 hi) (by refine rl S3 ?_;omega) (λ_ _=>rfl))) (az J) J;refine rl ei ?_;exact aI (aI (ao J) aA (iF _ _ (by decide) (BU _ _ (by decide)))) (bU (aM S.fU Boot.«len» rfl) (aj (ao J) ak) J hlen) (b9 _ _ (by exact zJ hl))
 .rw[aaH h] at Hy
  have ei:=jG (drawn.fdiv 120) (b:=st.sh.length) (by exact a1 h0);have ej:((pJ st drawn:Nat):Int)=(drawn.fdiv 120).fmod (st.sh.map pV).length:=by unfold pJ;exact rl (aaD h ..) (rl ei (rl (aai ..) J))
  refine rl ej ?_;exact aE (mK (Hy (ao J) (eF ak (Nat.zero_le _)) (aI (aI (ao J) aA (iF _ _ (by decide) (BU _ _ (by decide)))) aA (b9 _ _ (by decide))) aA (by with_unfolding_all rfl) (by with_unfolding_all rfl)) (aI (aI (ao J) aA (iF _ _ (by decide) (BU _ _ (by decide)))) (vD S J X7) (b9 _ _ (by exact rl (aai ..) ((zJ h0)))))) (az J) J
noncomputable def X8(whole:Int)(aS aD aT:Addr)(sh ds td:acw)(drawn kind i:Int)(A:PM)(F:List Nat)(j:Int):aC:=[("whole",.v (.int whole)),("shelf",.own aS sh),("deeds",.own aD ds),("told",.own aT td),("drawn",.v (.int drawn)),("kind",.v (.int kind)),("i",.v (.int i)),("a",.v (pV A)),("fits",.v (iv (F.map λ(j:Nat)=>(j:Int)))),("j",.v (.int j))]
theorem NT{C:Cx}(S:fN C){k:Nat}(L:Addr)(bh:Value)(whole:Int)(aS aD aT:Addr)(st:PS)(drawn:Int)(h0:0<st.sh.length)(h9:st.sh.length<=100)(hd9:st.ds.length<=100)(eN:∀P∈st.sh,fD whole P){dG:aC}(D:acq)
 (T:mz C (mG (k+5) L bh D) (sj whole aS aD aT (st.sh.map pV) ((st.ds++[aW st drawn]).map fC) (st.td.map .str) drawn (aW st drawn) (st.sh[(aW st drawn).i]?.getD []) (st.sh[(aW st drawn).j]?.getD []) (cE st drawn)) [EB 9] .next dG) :
 mz C (mG (k+5) L bh D) (O5 whole aS aD aT (st.sh.map pV) (st.ds.map fC) (st.td.map .str) drawn) AU .next dG:=by
 have BU:∀x y:Int,y.natAbs<1073741824->Builtin.divisionGoesByPylong x y=false:=λx y h=>abl h;have e10:=jG drawn (b:=10) (by decide);have ei:=jG (drawn.fdiv 10) (b:=st.sh.length) (by exact a1 h0);have bi:=bT (drawn.fdiv 10) (b:=st.sh.length) (by exact a1 h0);have hi:((drawn.fdiv 10).fmod st.sh.length).toNat<st.sh.length:=by exact v5 bi
 have X7:(st.sh.map pV).length<=1000:=by refine rl (aai ..) ?_;omega
 have X_:(st.ds.map fC).length<=1000:=by refine rl (aai ..) ?_;omega
 have hlen:((st.sh.map pV).length:Int)=st.sh.length:=by exact rl (aai ..) J
 have hj:=Cn (drawn:=drawn) h0;have Qv:∀i,i<st.sh.length->(st.sh.map pV)[((i:Nat):Int).toNat]?=some (pV (st.sh[i]?.getD [])):=λi hi=>by refine rl (aaV ..) (rl (aav ..) (rl (aak hi ..) ?_));rfl
 have AV:∀i,i<st.sh.length->fD whole (st.sh[i]?.getD []):=λi hi=>by exact rl (aak hi) ((eN _ (aaE hi)))
 have A:=AV _ hi;have e3:=jG (drawn.fdiv 3) (b:=1000) (by decide);have s0:gq C (mG (k+5) L bh D) (O5 whole aS aD aT (st.sh.map pV) (st.ds.map fC) (st.td.map .str) drawn) (EB 0) .next (aG (O5 whole aS aD aT (st.sh.map pV) (st.ds.map fC) (st.td.map .str) drawn) "kind" (.v (.int ((aW st drawn).kind:Nat)))):=by show gq C _ _ _ _ (aG _ _ (.v (.int ((drawn.fmod 10).toNat:Nat))));refine rl e10 ?_;exact aE (aI (ao J) aA (b9 _ _ (by decide))) (az J) J
 refine aK s0 ?_;generalize ZQ:aG (O5 whole aS aD aT (st.sh.map pV) (st.ds.map fC) (st.td.map .str) drawn) "kind" (.v (.int ((aW st drawn).kind:Nat)))=V1;have s1:gq C (mG (k+5) L bh D) V1 (EB 1) .next (aG V1 "i" (.v (.int ((aW st drawn).i:Nat)))):=by show gq C _ _ _ _ (aG _ _ (.v (.int (((drawn.fdiv 10).fmod st.sh.length).toNat:Nat))));refine rl ei (rs hlen ?_);subst ZQ;exact aE (aI (aI (ao J) aA (iF _ _ (by decide) (BU _ _ (by decide)))) (vD S J X7) (b9 _ _ (by exact rl hlen ((zJ h0))))) (az J) J
 refine aK s1 ?_;subst ZQ;have s2:gq C (mG (k+5) L bh D) (aG (aG (O5 whole aS aD aT (st.sh.map pV) (st.ds.map fC) (st.td.map .str) drawn) "kind" (.v (.int ((aW st drawn).kind:Nat)))) "i" (.v (.int ((aW st drawn).i:Nat)))) (EB 2) .next (X5 whole aS aD aT (st.sh.map pV) (st.ds.map fC) (st.td.map .str) drawn (aW st drawn).kind (aW st drawn).i (st.sh[(aW st drawn).i]?.getD [])):=
  aE (jr (x:="shelf") J J J (ao J) (by omega) (by show((((drawn.fdiv 10).fmod st.sh.length).toNat:Nat):Int)<2^63;exact U3 h9 bi) (Qv _ hi) (λ_ _=>rfl)) (az J) J
 refine aK s2 ?_;have s3:=KZ S (k:=k) L bh whole aS aD aT st.sh (st.ds.map fC) (st.td.map .str) drawn (aW st drawn).i (aW st drawn).kind (st.sh[(aW st drawn).i]?.getD []) A h9 eN D;refine aK s3 ?_;have s4:=X6 S (k:=k) L bh whole aS aD aT st drawn (st.ds.map fC) (st.td.map .str) (aW st drawn).kind (aW st drawn).i (st.sh[(aW st drawn).i]?.getD []) h0 h9 D;refine aK s4 ?_;have s5:gq C (mG (k+5) L bh D) (X8 whole aS aD aT (st.sh.map pV) (st.ds.map fC) (st.td.map .str) drawn (aW st drawn).kind (aW st drawn).i (st.sh[(aW st drawn).i]?.getD []) (cE st drawn) (aW st drawn).j) (EB 5) .next (aG (X8 whole aS aD aT (st.sh.map pV) (st.ds.map fC) (st.td.map .str) drawn (aW st drawn).kind (aW st drawn).i (st.sh[(aW st drawn).i]?.getD []) (cE st drawn) (aW st drawn).j) "b" (.v (pV (st.sh[(aW st drawn).j]?.getD [])))):=
  aE (jr (x:="shelf") J J J (ao J) (by omega) (by show((pJ st drawn:Nat):Int)<2^63;exact U4 h9 hj) (Qv _ hj) (λ_ _=>rfl)) (az J) J
 refine aK s5 ?_;generalize Yb:aG (X8 whole aS aD aT (st.sh.map pV) (st.ds.map fC) (st.td.map .str) drawn (aW st drawn).kind (aW st drawn).i (st.sh[(aW st drawn).i]?.getD []) (cE st drawn) (aW st drawn).j) "b" (.v (pV (st.sh[(aW st drawn).j]?.getD [])))=V6;have s6:gq C (mG (k+5) L bh D) V6 (EB 6) .next (aG V6 "small" (.v (.int ((aW st drawn).small:Nat)))):=by show gq C _ _ _ _ (aG _ _ (.v (.int (((drawn.fdiv 3).fmod 1000).toNat:Nat))));refine rl e3 ?_;subst Yb;exact aE (aI (aI (ao J) aA (iF _ _ (by decide) (BU _ _ (by decide)))) aA (b9 _ _ (by decide))) (az J) J
 refine aK s6 ?_;have s7:gq C (mG (k+5) L bh D) (aG V6 "small" (.v (.int ((aW st drawn).small:Nat)))) (EB 7) .next (aG (aG V6 "small" (.v (.int ((aW st drawn).small:Nat)))) "power" (.v (.int ((aW st drawn).power:Nat)))):=by
  have ep:((aW st drawn).power:Nat)=(aW st drawn).small%(if st.ds.length=3 then 7 else 4):=rfl;have hq:(((st.ds.map fC).length:Int)==3)=decide (st.ds.length=3):=by rw[aai,abd,aa3,abu];exact U5
  have cq:=gO (C:=C) (k:=k+5) (st.ds.map fC).length 3;replace cq:=hq▸cq;subst Yb;refine rl ep ?_;by_cases h:st.ds.length=3
  .replace cq:=(aaK h)▸cq
   refine rl (aaN h ..) (rs (pZ ..) ?_);exact aE (aI (ao J) (jY (bw (b:=true) (vE S J X_) aA cq) aA) (b9 _ _ (by decide))) (az J) J
  .replace cq:=(aaH h)▸cq
   refine rl (aaD h ..) (rs (pZ ..) ?_);exact aE (aI (ao J) (mK (bw (b:=false) (vE S J X_) aA cq) aA) (b9 _ _ (by decide))) (az J) J
 refine aK s7 ?_;subst Yb;replace T:=aa2▸T;exact aK (eX (x:="deeds") J J J (bW (aj (ao J) (aj (ao J) (aj (ao J) (aj (ao J) (aj (ao J) ak))))) (aae J)) X_ J J J J J J) T
section
variable{C:Cx}{Γ:Gm}{vs:aC}{k:Nat}{elt:Expr}{x y:Str}
theorem nM{px py pt:Pos}{n:Nat}{σ:Type}(mk:σ->MV×MV)(f:σ->MV)(hx:rG Γ x)(hy:rG Γ y)(hxy:(x==y)=false)(ps:List σ)(H:∀p∈ps,Ev C Γ (aG (aG vs x (.v (mk p).1)) y (.v (mk p).2)) elt (f p)) :
 x9 C Γ (.Tuple [.Name x px,.Name y py] n pt) [] elt (ps.map λp=>MV.tup [(mk p).1,(mk p).2]) vs (ps.map f):=by
 have aux:∀(ps:List σ),(∀p∈ps,Ev C Γ (aG (aG vs x (.v (mk p).1)) y (.v (mk p).2)) elt (f p))->∀vs',(∀m m',aG (aG vs' x m) y m'=aG (aG vs x m) y m')->
  x9 C Γ (.Tuple [.Name x px,.Name y py] n pt) [] elt (ps.map λp=>MV.tup [(mk p).1,(mk p).2]) vs' (ps.map f):=λps=>by
  induction ps with
  |nil=>intro _ vs' hv;rfl
  |cons p ps ih=>
   intro H vs' hv;refine⟨_,gc hx hy,true,J,f p,ps.map f,?_,J,ih (λq hq=>H q (.tail _ hq)) _ λq q'=>?_⟩
   .rw[hv];exact H p (.head _)
   .exact rl (pH x y _ _ _ _ hxy ..) ((hv q q'))
 exact aux ps H vs λ_ _=>rfl
theorem AW{is:acu}{i:Int}:iZ C (k+1) .In (.int i) (.lst (is.map .int)) (.bool (decide (i∈is)))/\iZ C (k+1) .NotIn (.int i) (.lst (is.map .int)) (.bool (decide (i∉is))):=by
 have NP:∀is:acu,kqdPs (is.map Dat.int)=is.map .int:=λis=>by
  induction is with
  |nil=>rfl
  |cons a r ih=>simp only[List.map_cons,kqdPs,kqdP,ih]
 have Hu:((is.map PyData.int).any λz=>PyData.eqv z (.int i))=decide (i∈is):=by
  rw[abd,List.any_map,ace,abu];constructor
  .rintro⟨z,hz,h⟩
   have:z=i:=by simpa [PyData.eqv] using h
   refine rs this ?_;exact hz
  .intro h
   exact⟨i,h,by simp[PyData.eqv]⟩
 have ok:kqdOk 8 (.list (is.map Dat.int))=true:=by simp[kqdOk]
 have rd:∀{h:Heap}{D:acq}{y:Value},Den h D y (.lst (is.map .int))->∃as,Reads h y (.list (is.map .int)) as:=λ{h D y} d=>by
  have e:eW (.list (is.map Dat.int)) = .lst (is.map .int):=by rw[eW,kT]
  obtain⟨as,r⟩:=i_ (.list (is.map Dat.int)) 8 (e▸d) ok;rw[kqdP,NP] at r;exact⟨as,r⟩
 constructor
 .intro A s D x y G I dk bx bG
  obtain⟨as,r⟩:=rd bG;cases bx.eL with
  |mk t=>exact SeqAt.in_list_reads r (Reads.int i t) (ke_canLayAll0 is) J (by refine rl (ke_depthAll ..) ?_;have:=G.units;exact Sm this) (by exact rl Hu ((nj.bool I _)))
 .intro A s D x y G I dk bx bG
  obtain⟨as,r⟩:=rd bG;cases bx.eL with
  |mk t=>exact SeqAt.notIn_list_reads r (Reads.int i t) (ke_canLayAll0 is) J (by refine rl (ke_depthAll ..) ?_;have:=G.units;exact Sm this) (by refine rl Hu ?_;simpa using nj.bool I (!decide (i∈is)))
end
theorem K1{α β:Type}(l:List α)(f:Nat->α->β):(mF l).map (λp=>f p.1 p.2)=l.mapIdx f:=by unfold mF;apply List.ext_getElem?;intro i;simp[List.getElem?_mapIdx];rfl
noncomputable def NU:acr:=kS (((kS (EB 9) 1)[0]?).getD (.Pass ⟨0,0,0,0⟩)) 1
noncomputable def NV:Expr:=kE (((kS (EB 9) 1)[0]?).getD (.Pass ⟨0,0,0,0⟩)) 0
noncomputable def uL(n:Nat):Stmt:=match n with
 |0=>(NU[1]?).getD (.Pass ⟨0,0,0,0⟩)
 |n+1=>((kS (uL n) 1)[0]?).getD (.Pass ⟨0,0,0,0⟩)
noncomputable def w_(n:Nat):acr:=kS (uL n) 0
noncomputable def Hz:acr:=kS (uL 3) 1
noncomputable abbrev m7(whole:Int):Prop:=1<whole/\whole<2^30000
theorem tZ(n:Nat)(h:Nat->Int):iv ((List.range n).map h) = .lst ((bz 0 n).map λm=>.int (h (natOf m))):=by unfold iv bz;refine rl aar (rl aar ?_);congr 1;refine aaz λj _=>?_;simp only[Function.comp_def,jM]
theorem HA(n:Nat)(h:Nat->acu):pV ((List.range n).map h) = .lst ((bz 0 n).map λm=>iv (h (natOf m))):=by unfold pV bz;refine rl aar (rl aar ?_);congr 1;refine aaz λj _=>?_;simp only[Function.comp_def,jM]
theorem NW(A:PM)(g:acu->acu):pV (A.map g) = .lst ((A.map iv).map (λm=>iv (g (yX m)))):=by refine rl (NQ ..) ?_;rfl
theorem Cq(row:acu):(row.map MV.int).mapIdx (λj m=>MV.tup [MV.int (j:Int),m])=(mF row).map λp=>MV.tup [MV.int (p.1:Int),.int p.2]:=yW row MV.int
theorem NX{C:Cx}(S:fN C){k:Nat}(L:Addr)(bh:Value)(whole:Int)(hw:m7 whole)(aS aD aT:Addr)(sh ds td:acw)(drawn:Int)(d:gV)(A B:PM)(F:List Nat)(hA:fD whole A)(hB:fD whole B)(hfit:pW A=B.length)(D:acq) :
 mz C (mG (k+5) L bh D) (sj whole aS aD aT sh ds td drawn d A B F) (w_ 0) .next (aG (sj whole aS aD aT sh ds td drawn d A B F) "made" (.v (pV (A.map λrow=>(List.range (pW B)).map λc=>AS whole row B c)))):=by
 have n0:whole≠0:=a4 hw.1;refine rl (NW ..) ?_;refine aK (cY (bK (ao J)) (λL Do=>bX _ (az J) (aaM.mpr λrow t_=>?_)) (λq=>nomatch q) J J (aaj J) (by rw[aai];have:=hA.m9;omega) (λ_=>rfl) (az J) J) aJ;refine rl (qa ..) (rl (tZ ..) ?_);have hr:=hA.row _ t_;have b1:=(hB.at hB.m0).1;have lB:(B[0]?.getD []).length<=1000:=aaf hB.n9 (aae J);have hWb:pW B<=100:=aaf hB.n9 (aae J);have hn9:=hA.n9;refine aZ (eo (dH (aM S.b8 Boot.«range» rfl) (aj (bU (aM S.fU Boot.«len» rfl) (aj (jo (i:=0) (ao J) aA hB.m0 hB.m9 (λ_ _=>rfl)) ak) J (lR _ lB)) ak)) hWb) (λL Do=>bX _ (az J) (c_ λc hc=>?_)) (λq=>nomatch q) J J (aaj J) (by simp[bz];omega) (λ_=>rfl);refine rl (kg ..) ?_;unfold AS;refine rs (K1 row λk x=>x*Mine.pat B k c) ?_;refine aI (wB (k:=k+2) (outs:=(((mF row).map λp=>p.2*Mine.pat B p.1 c).map MV.int)) (aM S.qU Boot.«sum» rfl) (s8 (aZ (Cq row▸x7 (aM S.mX Boot.«enumerate» rfl) (aj (ao J) ak)) (λL Do=>?_) (λ_=>⟨_,_,_,J⟩) J J (aaj J) (by rw[aai,mF,List.length_mapIdx];exact U6 hr hn9) (λ_=>rfl))) (vC _ 0) (aaq _)) (ao J) (b9 _ _ n0);refine rl aar ?_;refine nM (λp:Nat×Int=>(MV.int (p.1:Int),MV.int p.2)) _ ?_ ?_ ?_ (mF row) (λp hp=>?_)
 iterate 2 exact(az J)
 .rfl
 obtain⟨p1,p2⟩:=tY hp;have hk:p.1<B.length:=by exact U7 hfit hr p2
 have q1:=(hB.at hk).2;have e0:=hA.ent _ t_ _ p1;have eb:=hB.pat hk hc;have w2:=hw.2;exact aI (ao J) (nK (jo (ao J) (ao J) hk hB.m9 (λ_ _=>rfl)) (ao J) (by exact rl q1 hc) (by refine rl q1 ?_;omega) (λ_ _=>rfl)) (fz _ _ (KW (by omega) (by have:Mine.pat B p.1 c=((B[p.1]?.getD [])[c]?).getD 0:=rfl;omega)))
theorem Rv{C:Cx}(S:fN C){k:Nat}(L:Addr)(bh:Value)(whole:Int)(aS aD aT:Addr)(sh ds td:acw)(drawn:Int)(d:gV)(A B:PM)(F:List Nat)(hA:fD whole A)(D:acq) :
 mz C (mG (k+5) L bh D) (sj whole aS aD aT sh ds td drawn d A B F) (w_ 1) .next (aG (sj whole aS aD aT sh ds td drawn d A B F) "made" (.v (pV ((List.range (pW A)).map λc=>A.map λrow=>row[c]?.getD 0)))):=by
 have lA:(A[0]?.getD []).length<=1000:=aaf hA.n9 (aae J);have ZR:pW A<=100:=aaf hA.n9 (aae J);refine rl (HA ..) ?_;refine aK (cY (eo (dH (aM S.b8 Boot.«range» rfl) (aj (bU (aM S.fU Boot.«len» rfl) (aj (jo (i:=0) (ao J) aA hA.m0 hA.m9 (λ_ _=>rfl)) ak) J (lR _ lA)) ak)) ZR) (λL Do=>bX _ (az J) (c_ λc hc=>?_)) (λq=>nomatch q) J J (aaj J) (by simp[bz];omega) (λ_=>rfl) (az J) J) aJ;refine rl (kg ..) ?_;have e1:iv (A.map λrow=>row[c]?.getD 0) = .lst ((A.map iv).map λm=>.int ((yX m)[c]?.getD 0)):=by unfold iv;refine rl aar (rl aar ?_);congr 1;refine aaz λr _=>?_;show _=MV.int ((yX (iv r))[c]?.getD 0);refine rl (qa ..) ?_;rfl
 refine rl e1 ?_;refine aZ (bK (ao J)) (λL Do=>bX _ (az J) (aaM.mpr λrow t_=>?_)) (λq=>nomatch q) J J (aaj J) (by refine rl (aai ..) ?_;have:=hA.m9;omega) (λ_=>rfl);refine rl (qa ..) ?_;have hr:=hA.row _ t_;exact nK (ao J) (ao J) (by exact Sp hc hr) (by exact U8 ZR hr) (λ_ _=>rfl)
theorem NY{a whole:Int}(h0:0<=a)(h1:a<whole)(hw:m7 whole):a.natAbs<2^30000:=by have:=hw.2;omega
theorem fD.one{whole:Int}{P:PM}(h:fD whole P):0<(P[0]?.getD []).length/\(P[0]?.getD []).length<=1000:=by have:=h.n0;have:=h.n9;unfold pW at *;exact U9 (by assumption) this
theorem NZ{C:Cx}(S:fN C){k:Nat}(L:Addr)(bh:Value)(whole:Int)(hw:m7 whole)(aS aD aT:Addr)(sh ds td:acw)(drawn:Int)(d:gV)(A B:PM)(F:List Nat)(hA:fD whole A)(hB:fD whole B)(D:acq) :
 mz C (mG (k+5) L bh D) (sj whole aS aD aT sh ds td drawn d A B F) (w_ 2) .next (aG (sj whole aS aD aT sh ds td drawn d A B F) "made" (.v (pV [[((d.small:Int)-6*Mine.pat A 0 0*Mine.pat B 0 0+(d.small:Int).fdiv 7).fmod whole]]))):=by
 have n0:whole≠0:=a4 hw.1;refine nb λnn=>?_;obtain⟨a1,a2⟩:=hA.pat hA.m0 hA.n0;obtain⟨b1,b2⟩:=hB.pat hB.m0 hB.n0;have hb:=NY b1 b2 hw;refine nn<|aK (aE (eF (aj (eF (aj (aI (aI (aI (ao J) (aI (aI aA (nK (jo (i:=0) (ao J) aA hA.m0 hA.m9 (λ_ _=>rfl)) (j:=0) aA hA.one.1 hA.one.2 (λ_ _=>rfl)) (fz _ _ (fu (by decide) (by decide)))) (nK (jo (i:=0) (ao J) aA hB.m0 hB.m9 (λ_ _=>rfl)) (j:=0) aA hB.one.1 hB.one.2 (λ_ _=>rfl)) (fz _ _ ?_)) (iN _ _)) (aI (ao J) aA (iF _ _ (by decide) (abl (by decide)))) (fy _ _)) (ao J) (b9 _ _ n0)) ak) (aae J)) ak) (aae J)) (az J) J) aJ
 have h6:(6*Mine.pat A 0 0).natAbs<2^30003:=by
  have:=hw.2;have e:(2:Int)^30003=8*2^30000:=by rw[show(30003:Nat)=30000+3 from rfl,Int.pow_add];omega
  have:((6*Mine.pat A 0 0).natAbs:Int)<(2:Int)^30003:=by rw[e];omega
  have e2:(((2:Nat)^30003:Nat):Int)=(2:Int)^30003:=Int.natCast_pow 2 30003;exact U_ this
 have q1:=j6 h6;have q2:=j6 hb;show IntMulOk (6*Mine.pat A 0 0) (Mine.pat B 0 0);unfold IntMulOk;have:Builtin.Int.intTooBig ((Builtin.Int.intBits (6*Mine.pat A 0 0):Int)+(Builtin.Int.intBits (Mine.pat B 0 0):Int))=false:=by unfold Builtin.Int.intTooBig;exact aaH (by unfold bitsLine;exact U' q1 q2)
 intro q;simp only[Bool.and_eq_true] at q;rw[this] at q;exact absurd q.2 (by simp)
theorem N1{C:Cx}(S:fN C){k:Nat}(L:Addr)(bh:Value)(whole:Int)(hw:m7 whole)(aS aD aT:Addr)(sh ds td:acw)(drawn:Int)(d:gV)(A B:PM)(F:List Nat)(hA:fD whole A)(D:acq) :
 mz C (mG (k+5) L bh D) (sj whole aS aD aT sh ds td drawn d A B F) (w_ 3) .next (aG (sj whole aS aD aT sh ds td drawn d A B F) "made" (.v (pV [[(Mine.pat A 0 0^d.power).fmod whole]]))):=by
 refine nb λnn=>?_;obtain⟨a1,a2⟩:=hA.pat hA.m0 hA.n0;exact nn<|aK (aE (eF (aj (eF (aj (bU (aM S.Gh Boot.«pow» rfl) (aj (nK (jo (i:=0) (ao J) aA hA.m0 hA.m9 (λ_ _=>rfl)) (j:=0) aA hA.one.1 hA.one.2 (λ_ _=>rfl)) (aj (ao J) (aj (ao J) ak))) J (KV _ _ _ a1 a2 hw.1)) ak) (aae J)) ak) (aae J)) (az J) J) aJ
noncomputable def qb(d:gV):Int:=if d.kind=2\/d.kind=6 then 1 else -1
theorem DY(A B:PM):List.zipWith (λa b=>MV.tup [a,b]) (A.map iv) (B.map iv)=(A.zip B).map λp=>MV.tup [iv p.1,iv p.2]:=by rw[List.zip,List.zipWith_map,List.map_zipWith]
theorem DZ(A B:acu):List.zipWith (λa b=>MV.tup [a,b]) (A.map MV.int) (B.map MV.int)=(A.zip B).map λp=>MV.tup [MV.int p.1,MV.int p.2]:=by rw[List.zip,List.zipWith_map,List.map_zipWith]
theorem Cs{α β:Type}{l:List α}{m:List β}{p:α×β}(h:p∈l.zip m):p.1∈l/\p.2∈m:=List.of_mem_zip h
theorem N2{C:Cx}(S:fN C){k:Nat}(L:Addr)(bh:Value)(whole:Int)(hw:m7 whole)(aS aD aT:Addr)(sh ds td:acw)(drawn:Int)(d:gV)(A B:PM)(F:List Nat)(hA:fD whole A)(hB:fD whole B)(D:acq) :
 mz C (mG (k+5) L bh D) (sj whole aS aD aT sh ds td drawn d A B F) Hz .next (aG (aG (sj whole aS aD aT sh ds td drawn d A B F) "sign" (.v (.int (qb d)))) "made" (.v (pV ((A.zip B).map λp=>(p.1.zip p.2).map λz=>(z.1+qb d*z.2).fmod whole)))):=by
 have n0:whole≠0:=a4 hw.1;have hs:qb d=1\/qb d = -1:=by unfold qb;split<;>simp
 have cin:=(tX (C:=C) (k:=k+4) (is:=[2,6]) (i:=(d.kind:Nat))).1;have ein:decide (((d.kind:Nat):Int)∈([2,6]:acu))=decide (d.kind=2\/d.kind=6):=abz.mpr (by simp;exact Vc);replace cin:=ein▸cin;have s1:gq C (mG (k+5) L bh D) (sj whole aS aD aT sh ds td drawn d A B F) ((Hz[0]?).getD (.Pass ⟨0,0,0,0⟩)) .next (aG (sj whole aS aD aT sh ds td drawn d A B F) "sign" (.v (.int (qb d)))):=by
  by_cases h:d.kind=2\/d.kind=6
  .replace cin:=(aaK h)▸cin
   unfold qb;refine rl (aaN h) ?_;exact aE (jY (bw (b:=true) (ao J) (bW (aj aA (aj aA ak)) (aae J)) cin) aA) (az J) J
  .replace cin:=(aaH h)▸cin
   unfold qb;refine rl (aaD h) ?_;exact aE (mK (bw (b:=false) (ao J) (bW (aj aA (aj aA ak)) (aae J)) cin) (Be aA (ER 1))) (az J) J
 refine aK s1 ?_;generalize qb d=sg at hs;have e1:pV ((A.zip B).map λp=>(p.1.zip p.2).map λz=>(z.1+sg*z.2).fmod whole) = .lst ((A.zip B).map λp=>iv ((p.1.zip p.2).map λz=>(z.1+sg*z.2).fmod whole)):=by unfold pV;refine rl aar ?_;rfl
 refine rl e1 ?_;refine aK (cY (DY A B▸pn (aM S.tD Boot.«zip» rfl) (aj (ao J) (aj (ao J) ak))) (λL Do=>?_) (λ_=>⟨_,_,_,J⟩) J J (aaj J) (by refine rl (aai ..) (rl (aaZ ..) ?_);have:=hA.m9;exact Vd this) (λ_=>rfl) (az J) J) aJ;refine nM (λp:acu×List Int=>(iv p.1,iv p.2)) _ ?_ ?_ ?_ (A.zip B) (λp hp=>?_)
 iterate 2 exact(az J)
 .rfl
 obtain⟨p1,p2⟩:=Cs hp;have l1:=hA.row _ p1;have n9:=hA.n9;have e2:iv ((p.1.zip p.2).map λz=>(z.1+sg*z.2).fmod whole) = .lst ((p.1.zip p.2).map λz=>.int ((z.1+sg*z.2).fmod whole)):=by unfold iv;refine rl aar ?_;rfl
 refine rl e2 ?_;refine aZ (DZ p.1 p.2▸pn (aM S.tD Boot.«zip» rfl) (aj (ao J) (aj (ao J) ak))) (λL Do=>?_) (λ_=>⟨_,_,_,J⟩) J J (aaj J) (by exact rl (aai ..) (rl (aaZ ..) ((Ve l1 n9)))) (λ_=>rfl);refine nM (λp:Int×Int=>(MV.int p.1,MV.int p.2)) _ ?_ ?_ ?_ (p.1.zip p.2) (λz hz=>?_)
 iterate 2 exact(az J)
 .rfl
 exact aI (aI (ao J) (aI (ao J) (ao J) (fz _ _ (by rcases hs with q |q<;>rw[q]<;>exact .of_left (by decide)))) (fy _ _)) (ao J) (b9 _ _ n0)
theorem fits_of{kind:Nat}{a:PM}{sh:List PM}{j:Nat}(h:j∈rm kind a sh):qD kind a (sh[j]?.getD [])=true:=by obtain⟨p,hp,rfl⟩:=aan.mp h;obtain⟨h1,h2⟩:=aaG.mp hp;obtain⟨i,hi,rfl⟩:=List.mem_mapIdx.mp h1;refine rl (aak hi) ?_;exact h2
theorem fD.nN{whole:Int}{P:PM}(w:Nat)(m0:0<P.length)(m9:P.length<=30)(w0:0<w)(w9:w<=30)(row:∀r∈P,r.length=w)(ent:∀r∈P,∀x∈r,0<=x/\x<whole):fD whole P:=by
 have e:pW P=w:=by unfold pW;refine rl (aak m0) ?_;exact row _ (aaE m0)
 exact⟨m0,by exact Tc w0 e,m9,by exact Vf w9 e,λr hr=>by exact rl e ((row r hr)),ent⟩
theorem yY{whole:Int}(hw:1<whole){A B:PM}{d:gV}(hA:fD whole A)(hB:fD whole B)(hf:(d.kind<2->pW A=B.length)/\(¬d.kind<2->d.kind=3\/d.kind=4\/d.kind=8\/A.length=B.length/\pW A=pW B)):fD whole (iR whole A B d):=by
 have bd:∀x:Int,0<=x.fmod whole/\x.fmod whole<whole:=λx=>bT x (by exact a7 hw);unfold iR;split
 .refine fD.nN (pW B) (by exact rl (aai ..) (hA.m0)) (by exact rl (aai ..) (hA.m9)) hB.n0 hB.n9 (λr hr=>?_) λr hr x hx=>?_
  .obtain⟨row,_,rfl⟩:=aan.mp hr
   exact rl (aai ..) (rl (aa6 ..) J)
  .obtain⟨row,_,rfl⟩:=aan.mp hr
   obtain⟨c,_,rfl⟩:=aan.mp hx;exact bd _
 split
 .refine fD.nN A.length (by exact rl (aai ..) (rl (aa6 ..) (hA.n0))) (by exact rl (aai ..) (rl (aa6 ..) (hA.n9))) hA.m0 hA.m9 (λr hr=>?_) λr hr x hx=>?_
  .obtain⟨c,_,rfl⟩:=aan.mp hr
   exact rl (aai ..) J
  .obtain⟨c,hc,rfl⟩:=aan.mp hr
   obtain⟨row,t_,rfl⟩:=aan.mp hx;have jV:c<row.length:=by exact rl (hA.row _ t_) ((aa7.mp hc))
   refine rl (aak jV) ?_;exact hA.ent _ t_ _ (aaE jV)
 split
 .refine fD.nN 1 (Nat.zero_lt_one) (aae J) (by decide) (by decide) (λr hr=>?_) λr hr x hx=>?_
  .simp only[List.mem_singleton] at hr;subst hr;rfl
  .simp only[List.mem_singleton] at hr;subst hr
   simp only[List.mem_singleton] at hx;subst hx;exact bd _
 split
 .refine fD.nN 1 (Nat.zero_lt_one) (aae J) (by decide) (by decide) (λr hr=>?_) λr hr x hx=>?_
  .simp only[List.mem_singleton] at hr;subst hr;rfl
  .simp only[List.mem_singleton] at hr;subst hr
   simp only[List.mem_singleton] at hx;subst hx;exact bd _
 .rename_i h1 h2 h3 h4
  refine nb λnn=>?_;obtain⟨q1,q2⟩:A.length=B.length/\pW A=pW B:=by have:=hf.2 h1;exact Vg h2 h3 h4 this
  refine nn<|fD.nN (pW A) (by refine rl (aai ..) (rl (aaZ ..) ?_);have:=hA.m0;exact Vh q1 this) (by refine rl (aai ..) (rl (aaZ ..) ?_);have:=hA.m9;exact Vi this) hA.n0 hA.n9 (λr hr=>?_) λr hr x hx=>?_
  .obtain⟨p,hp,rfl⟩:=aan.mp hr
   obtain⟨p1,p2⟩:=Cs hp;exact rl (aai ..) (rl (aaZ ..) (rl (hA.row _ p1 ..) (rl (hB.row _ p2 ..) ((Vj q2)))))
  .obtain⟨p,hp,rfl⟩:=aan.mp hr
   obtain⟨z,hz,rfl⟩:=aan.mp hx;exact bd _
structure rL(whole:Int)(n:Nat)(st:PS):Prop where
 s0:0<st.sh.length
 s9:st.sh.length+n<=100
 d9:st.ds.length+n<=100
 t9:st.td.length+n<=100
 ok:∀P∈st.sh,fD whole P
theorem vF{st:PS}{drawn:Int}(h:¬((aW st drawn).j∉cE st drawn/\¬((aW st drawn).kind=3\/(aW st drawn).kind=4\/(aW st drawn).kind=8))) :
 ((aW st drawn).kind<2->pW (st.sh[(aW st drawn).i]?.getD [])=(st.sh[(aW st drawn).j]?.getD []).length)/\(¬(aW st drawn).kind<2->(aW st drawn).kind=3\/(aW st drawn).kind=4\/(aW st drawn).kind=8\/(st.sh[(aW st drawn).i]?.getD []).length=(st.sh[(aW st drawn).j]?.getD []).length/\pW (st.sh[(aW st drawn).i]?.getD [])=pW (st.sh[(aW st drawn).j]?.getD [])):=by
 have key:(aW st drawn).j∈cE st drawn->qD (aW st drawn).kind (st.sh[(aW st drawn).i]?.getD []) (st.sh[(aW st drawn).j]?.getD [])=true:=λq=>fits_of q;generalize aW st drawn=d at *;generalize st.sh[d.i]?.getD []=A at *;generalize st.sh[d.j]?.getD []=B at *;constructor
 .intro hk
  refine nb λnn=>?_;by_cases hj:d.j∈cE st drawn
  .have:=key hj
   unfold qD at this;rw[aaN hk] at this;exact nn<|aaj this
  .exact absurd ⟨hj,by omega⟩ h
 .intro hk
  by_cases h3:d.kind=3\/d.kind=4\/d.kind=8
  .exact Vk h3
  .by_cases hj:d.j∈cE st drawn
   .have:=key hj
    unfold qD at this;rw[aaD hk,acd] at this;exact .inr (.inr (.inr ⟨aaj this.1,aaj this.2⟩))
   .exact absurd ⟨hj,h3⟩ h
theorem rL.step{whole:Int}(hw:1<whole){n:Nat}{st:PS}(h:rL whole (n+1) st)(drawn:Int):rL whole n (fG whole st drawn):=by
 have a:=h.s9;have b:=h.d9;have c:=h.t9;have e:=h.s0;unfold fG;split
 .exact⟨e,by simp only;exact Pp a,by simp only[List.length_append,List.length_cons,List.length_nil];exact MG b,by simp only[List.length_append,List.length_cons,List.length_nil];exact MG c,h.ok⟩
 split
 .exact⟨e,by simp only;exact Pp a,by simp only[List.length_append,List.length_cons,List.length_nil];exact MG b,by simp only[List.length_append,List.length_cons,List.length_nil];exact MG c,h.ok⟩
 .rename_i h7 hs
  refine⟨by simp only[List.length_append,List.length_cons,List.length_nil];exact Vl,by simp only[List.length_append,List.length_cons,List.length_nil];exact MG a,by simp only[List.length_append,List.length_cons,List.length_nil];exact MG b,by simp only[List.length_append,List.length_cons,List.length_nil];exact MG c,λP hP=>?_⟩;rcases aag.mp hP with q |q
  .exact h.ok _ q
  .simp only[List.mem_singleton] at q
   subst q;have AV:∀i,i<st.sh.length->fD whole (st.sh[i]?.getD []):=λi hi=>by exact rl (aak hi) ((h.ok _ (aaE hi)))
   have bi:=bT (drawn.fdiv 10) (b:=st.sh.length) (by exact a1 e);refine yY hw (AV _ ?_) (AV _ (Cn e)) (vF hs);show((drawn.fdiv 10).fmod st.sh.length).toNat<st.sh.length;exact v5 bi
theorem strs_snoc(l:acv)(x:Str):(l++[x]).map MV.str=l.map MV.str++[.str x]:=by refine rl aa2 ?_;rfl
noncomputable def Rw(whole:Int)(aS aD aT:Addr)(st:PS)(vs:aC):Prop:=vs.lookup ("whole":Str)=some (.v (.int whole))/\vs.lookup ("shelf":Str)=some (.own aS (st.sh.map pV))/\vs.lookup ("deeds":Str)=some (.own aD (st.ds.map fC))/\vs.lookup ("told":Str)=some (.own aT (st.td.map .str))
theorem HG{C:Cx}(S:fN C){k:Nat}(L:Addr)(bh:Value)(whole:Int)(hw:m7 whole)(aS aD aT:Addr)(sh ds td:acw)(drawn:Int)(d:gV)(A B:PM)(F:List Nat)(hA:fD whole A)(hB:fD whole B)(hf:d.kind<2->pW A=B.length):∃dG:aC,
 (dG.lookup ("whole":Str)=some (.v (.int whole))/\dG.lookup ("shelf":Str)=some (.own aS sh)/\dG.lookup ("deeds":Str)=some (.own aD ds)/\dG.lookup ("told":Str)=some (.own aT td)/\dG.lookup ("made":Str)=some (.v (pV (iR whole A B d))))/\
 ∀D,gq C (mG (k+5) L bh D) (sj whole aS aD aT sh ds td drawn d A B F) (uL 0) .next dG:=by
 unfold iR;have lt:=mJ (C:=C) (k:=k+5) (d.kind:Nat) 2;have q3:=gO (C:=C) (k:=k+5) (d.kind:Nat) 3;have q4:=gO (C:=C) (k:=k+5) (d.kind:Nat) 4;have q8:=gO (C:=C) (k:=k+5) (d.kind:Nat) 8;have Ru:∀n:Nat,((((d.kind:Nat):Int))==(n:Int))=decide (d.kind=n):=λn=>by rw[abd,aa3,abu];exact S_
 have ltd:decide (((d.kind:Nat):Int)<2)=decide (d.kind<2):=abz.mpr (by exact Vm);rw[ltd] at lt;rw[show(3:Int)=((3:Nat):Int) from rfl,Ru] at q3;rw[show(4:Int)=((4:Nat):Int) from rfl,Ru] at q4;rw[show(8:Int)=((8:Nat):Int) from rfl,Ru] at q8;by_cases h2:d.kind<2
 .rw[aaK h2] at lt
  rw[aaN h2];exact⟨_,⟨J,J,J,J,J⟩,λD=>c7 (bw (ao J) aA lt) (NX S L bh whole hw aS aD aT sh ds td drawn d A B F hA hB (hf h2) D)⟩
 rw[aaH h2] at lt;rw[aaD h2];have w1:∀{dG:aC}{D},gq C (mG (k+5) L bh D) (sj whole aS aD aT sh ds td drawn d A B F) (uL 1) .next dG->gq C (mG (k+5) L bh D) (sj whole aS aD aT sh ds td drawn d A B F) (uL 0) .next dG:=λH=>bq (bw (ao J) aA lt) (aK H aJ);by_cases h3:d.kind=3
 .rw[aaK h3] at q3
  rw[aaN h3];exact⟨_,⟨J,J,J,J,J⟩,λD=>w1 (c7 (bw (ao J) aA q3) (Rv S L bh whole aS aD aT sh ds td drawn d A B F hA D))⟩
 rw[aaH h3] at q3;rw[aaD h3];have w2:∀{dG:aC}{D},gq C (mG (k+5) L bh D) (sj whole aS aD aT sh ds td drawn d A B F) (uL 2) .next dG->gq C (mG (k+5) L bh D) (sj whole aS aD aT sh ds td drawn d A B F) (uL 0) .next dG:=λH=>w1 (bq (bw (ao J) aA q3) (aK H aJ));by_cases h4:d.kind=4
 .rw[aaK h4] at q4
  rw[aaN h4];exact⟨_,⟨J,J,J,J,J⟩,λD=>w2 (c7 (bw (ao J) aA q4) (NZ S L bh whole hw aS aD aT sh ds td drawn d A B F hA hB D))⟩
 rw[aaH h4] at q4;rw[aaD h4];have w3:∀{dG:aC}{D},gq C (mG (k+5) L bh D) (sj whole aS aD aT sh ds td drawn d A B F) (uL 3) .next dG->gq C (mG (k+5) L bh D) (sj whole aS aD aT sh ds td drawn d A B F) (uL 0) .next dG:=λH=>w2 (bq (bw (ao J) aA q4) (aK H aJ));by_cases h8:d.kind=8
 .rw[aaK h8] at q8
  rw[aaN h8];exact⟨_,⟨J,J,J,J,J⟩,λD=>w3 (c7 (bw (ao J) aA q8) (N1 S L bh whole hw aS aD aT sh ds td drawn d A B F hA D))⟩
 rw[aaH h8] at q8;rw[aaD h8];exact⟨_,⟨J,J,J,J,J⟩,λD=>w3 (bq (bw (ao J) aA q8) (N2 S L bh whole hw aS aD aT sh ds td drawn d A B F hA hB D))⟩
theorem K3{C:Cx}(S:fN C){k:Nat}(L:Addr)(bh:Value)(whole:Int)(hw:m7 whole)(aS aD aT:Addr)(st:PS)(drawn:Int)(n:Nat)(ok:rL whole (n+1) st):∃dG,Rw whole aS aD aT (fG whole st drawn) dG/\
 ∀D,mz C (mG (k+5) L bh D) (sj whole aS aD aT (st.sh.map pV) ((st.ds++[aW st drawn]).map fC) (st.td.map .str) drawn (aW st drawn) (st.sh[(aW st drawn).i]?.getD []) (st.sh[(aW st drawn).j]?.getD []) (cE st drawn)) [EB 9] .next dG:=by
 have hs0:=ok.s0;have hs9:=ok.s9;have ht9:=ok.t9;have AV:∀i,i<st.sh.length->fD whole (st.sh[i]?.getD []):=λi hi=>by exact rl (aak hi) ((ok.ok _ (aaE hi)))
 have bi:=bT (drawn.fdiv 10) (b:=st.sh.length) (by exact a1 hs0);have hA:=AV ((drawn.fdiv 10).fmod st.sh.length).toNat (by exact v5 bi);have hB:=AV _ (Cn (drawn:=drawn) hs0);have lt:(st.td.map MV.str).length<=1000:=by exact rl (aai ..) ((Pr ht9))
 have ls:(st.sh.map pV).length<=1000:=by exact rl (aai ..) ((Pr hs9))
 have q7:=gO (C:=C) (k:=k+5) ((aW st drawn).kind:Nat) 7;have e7:((((aW st drawn).kind:Nat):Int)==7)=decide ((aW st drawn).kind=7):=by rw[abd,aa3,abu];exact Vn
 replace q7:=e7▸q7;have c1:=(AW (C:=C) (k:=k+4) (is:=(cE st drawn).map λ(j:Nat)=>(j:Int)) (i:=((aW st drawn).j:Nat))).2;have c2:=(tX (C:=C) (k:=k+4) (is:=[3,4,8]) (i:=((aW st drawn).kind:Nat))).2;have e1:decide ((((aW st drawn).j:Nat):Int)∉(cE st drawn).map λ(j:Nat)=>(j:Int))=decide ((aW st drawn).j∉cE st drawn):=abz.mpr (by
  constructor
  .exactλh q=>h (aan.mpr ⟨_,q,J⟩)
  .intro h q
   obtain⟨j,hj,e⟩:=aan.mp q;have:j=(aW st drawn).j:=by exact Vo e
   exact h (this▸hj))
 have e2:decide ((((aW st drawn).kind:Nat):Int)∉([3,4,8]:acu))=decide (¬((aW st drawn).kind=3\/(aW st drawn).kind=4\/(aW st drawn).kind=8)):=abz.mpr (by simp;exact Vp);replace c1:=e1▸c1;replace c2:=e2▸c2;refine nb λnn=>?_;by_cases h7:(aW st drawn).kind=7
 .replace q7:=(aaK h7)▸q7
  refine nn<|⟨aG (sj whole aS aD aT (st.sh.map pV) ((st.ds++[aW st drawn]).map fC) (st.td.map .str) drawn (aW st drawn) (st.sh[(aW st drawn).i]?.getD []) (st.sh[(aW st drawn).j]?.getD []) (cE st drawn)) "told" (.own aT (st.td.map .str++[.str "kind"])),?_,λD=>aK (c7 (bw (ao J) aA q7) (aK (eX (x:="told") J J J fH lt J J J J J J) aJ)) aJ⟩
  unfold fG;refine rl (aaN h7) ?_;refine⟨J,J,J,?_⟩;show _=some (VS.own aT ((st.td++[("kind":Str)]).map MV.str));refine rl (strs_snoc ..) ?_;rfl
 replace q7:=(aaH h7)▸q7;have Hy:∀D,Ts C (mG (k+5) L bh D) (sj whole aS aD aT (st.sh.map pV) ((st.ds++[aW st drawn]).map fC) (st.td.map .str) drawn (aW st drawn) (st.sh[(aW st drawn).i]?.getD []) (st.sh[(aW st drawn).j]?.getD []) (cE st drawn)) NV (decide ((aW st drawn).j∉cE st drawn/\¬((aW st drawn).kind=3\/(aW st drawn).kind=4\/(aW st drawn).kind=8))):=λD=>by refine rl (Bool.decide_and ..) ?_;exact tw (bw (ao J) (ao J) c1) (λ_=>bw (ao J) (bW (aj aA (aj aA (aj aA ak))) (aae J)) c2)
 by_cases hs:(aW st drawn).j∉cE st drawn/\¬((aW st drawn).kind=3\/(aW st drawn).kind=4\/(aW st drawn).kind=8)
 .replace Hy:=(aaK hs)▸Hy
  refine nn<|⟨aG (sj whole aS aD aT (st.sh.map pV) ((st.ds++[aW st drawn]).map fC) (st.td.map .str) drawn (aW st drawn) (st.sh[(aW st drawn).i]?.getD []) (st.sh[(aW st drawn).j]?.getD []) (cE st drawn)) "told" (.own aT (st.td.map .str++[.str "shape"])),?_,λD=>aK (bq (bw (ao J) aA q7) (aK (c7 (Hy D) (aK (eX (x:="told") J J J fH lt J J J J J J) aJ)) aJ)) aJ⟩
  unfold fG;refine rl (aaD h7) (rl (aaN hs) ?_);refine⟨J,J,J,?_⟩;show _=some (VS.own aT ((st.td++[("shape":Str)]).map MV.str));refine rl (strs_snoc ..) ?_;rfl
 replace Hy:=(aaH hs)▸Hy;obtain⟨dG,⟨l1,l2,l3,l4,l5⟩,E⟩:=HG S (k:=k) L bh whole hw aS aD aT (st.sh.map pV) ((st.ds++[aW st drawn]).map fC) (st.td.map .str++[.str "made"]) drawn (aW st drawn) (st.sh[(aW st drawn).i]?.getD []) (st.sh[(aW st drawn).j]?.getD []) (cE st drawn) hA hB (vF hs).1;have lv:∀y,(aG dG "shelf" (.own aS (st.sh.map pV++[pV (iR whole (st.sh[(aW st drawn).i]?.getD []) (st.sh[(aW st drawn).j]?.getD []) (aW st drawn))]))).lookup y=if y=("shelf":Str) then some (.own aS (st.sh.map pV++[pV (iR whole (st.sh[(aW st drawn).i]?.getD []) (st.sh[(aW st drawn).j]?.getD []) (aW st drawn))])) else dG.lookup y:=λy=>au dG "shelf" _ y
 refine nn<|⟨aG dG "shelf" (.own aS (st.sh.map pV++[pV (iR whole (st.sh[(aW st drawn).i]?.getD []) (st.sh[(aW st drawn).j]?.getD []) (aW st drawn))])),?_,λD=>aK (bq (bw (ao J) aA q7) (aK (bq (Hy D) (aK (eX (x:="told") J J J fH lt J J J J J J) (aK (E D) (aK (eX (x:="shelf") l2 J J (cD J l5 J) ls J J J J J J) aJ)))) aJ)) aJ⟩
 unfold fG;refine rl (aaD h7) (rl (aaD hs) ?_);refine⟨(lv _).trans l1,(lv _).trans ?_,(lv _).trans l3,(lv _).trans (l4.trans ?_)⟩
 .show _=some (VS.own aS ((st.sh++[_]).map pV))
  refine rl aa2 ?_;rfl
 .show _=some (VS.own aT ((st.td++[("made":Str)]).map MV.str))
  refine rl aa2 ?_;rfl
noncomputable def O6:MV->Int
 |.int i=>i
 |_=>0
noncomputable def plR(whole:Int)(aS aD aT:Addr)(r:acw)(vs:aC)(st:PS):Prop:=Rw whole aS aD aT st vs/\rL whole r.length st/\∀x∈r,∃i,x = .int i
noncomputable def Yc:Stmt:=((o5 (topS 22))[2]?).getD (.Pass ⟨0,0,0,0⟩)
theorem K4{C:Cx}(S:fN C){k:Nat}(L:Addr)(bh:Value)(whole:Int)(hw:m7 whole)(aS aD aT:Addr)(st:PS)(draws:acu)(vs:aC)(D:acq)(hR:Rw whole aS aD aT st vs)(ok:rL whole draws.length st)(hv:vs.lookup ("draws":Str)=some (.v (iv draws))) :
 ∃vs',gq C (mG (k+5) L bh D) vs Yc .next vs'/\Rw whole aS aD aT (draws.foldl (fG whole) st) vs':=by
 have FF:=tT (C:=C) (Γ:=mG (k+5) L bh D) (t:=.Name "drawn" ⟨620,8,620,13⟩) (body:=AU) (plR whole aS aD aT) (λst m=>fG whole st (O6 m)) (draws.map .int) vs st ⟨hR,by exact rl (aai ..) ok,λx hx=>by obtain⟨i,_,rfl⟩:=aan.mp hx;exact⟨i,J⟩⟩ (λvs s m r hR=>by
  refine nb λnn=>?_;obtain⟨⟨r1,r2,r3,r4⟩,ok,hm⟩:=hR;obtain⟨drawn,rfl⟩:=hm _ (.head _);obtain⟨dG,R1,E1⟩:=K3 S (k:=k) L bh whole hw aS aD aT s drawn r.length ok;refine nn<|⟨_,dG,λDo=>cH (.inl J),λDo=>?_,R1,ok.step hw.1 drawn,λx hx=>hm x (.tail _ hx)⟩
  have l1:∀z w,(aG vs "drawn" w).lookup z=if z=("drawn":Str) then some w else vs.lookup z:=λz w=>au vs "drawn" w z
  refine lQ (vs':=O5 whole aS aD aT (s.sh.map pV) (s.ds.map fC) (s.td.map .str) drawn) (fc _ ⟨(l1 _ _).trans r1,(l1 _ _).trans r2,(l1 _ _).trans r3,(l1 _ _).trans r4,l1 _ _,trivial⟩) ?_;have a:=ok.s9;have b:=ok.d9;exact NT S (k:=k) L bh whole aS aD aT s drawn ok.s0 (by exact Td a) (by exact Td b) ok.ok Do (E1 Do))
 obtain⟨vs',F,R',_⟩:=FF
 .refine⟨vs',qs (bK (cD J hv J)) F (λq=>nomatch q) (λ_=>rfl),?_⟩
  have e:draws.foldl (fG whole) st=(draws.map MV.int).foldl (λst m=>fG whole st (O6 m)) st:=by refine rl List.foldl_map ?_;rfl
  exact rl e R'
noncomputable def Rx:Expr:=kE (((o5 (topS 22))[3]?).getD (.Pass ⟨0,0,0,0⟩)) 0
noncomputable def Mv(n:Nat):Stmt:=((o5 (topS 22))[n]?).getD (.Pass ⟨0,0,0,0⟩)
noncomputable def K5(whole:Int)(aS:Addr)(sh:List PM)(draws:acu):aC:=[("whole",.v (.int whole)),("shelf",.own aS (sh.map pV)),("draws",.v (iv draws))]
noncomputable def vG(whole:Int)(sh:List PM)(draws:acu):PS:=draws.foldl (fG whole) ⟨sh,[],[]⟩
noncomputable def HJ(E:PS):MV:=.tup [.lst (E.ds.map fC),.lst (E.td.map .str)]
theorem K6{W:acq}{a b c:Addr}(h:c∈W)(h1:a≠c)(h2:b≠c):c∈(W.filter (· !=a)).filter (· !=b):=
 aaG.mpr ⟨aaG.mpr ⟨h,bne_iff_ne.mpr h1.symm⟩,bne_iff_ne.mpr h2.symm⟩
theorem N3{C:Cx}{k:Nat}{L:Addr}{bh:Value}{D:acq}(vs:aC)(E:PS):Ev C (mG k L bh D) (aG (aG vs "deeds" (.v (.lst (E.ds.map fC)))) "told" (.v (.lst (E.td.map .str)))) Rx (HJ E):=
 bW (aj (fV (c6 J (by exact rl (au ..) (rl (aaD (by decide) ..) (rl (au ..) (rl (aaN J ..) J))))) J) (aj (fV (c6 J (by exact rl (au ..) (rl (aaN J ..) J))) J) ak)) (aae J)
theorem D0{C:Cx}(S:fN C){k:Nat}(whole:Int)(hw:m7 whole)(draws:acu)(sh:List PM)(ok:rL whole draws.length ⟨sh,[],[]⟩)(hdr:draws.length<=50)
 {A:Around} {s:Shared} {D:acq} {vw vd:Value} {aS:Addr} {items:aco} {n:Nat} (G:Good (k+6) A) (I:Inv C s) (dk:lg C D s.heap) (dw:Den s.heap (aS::D) vw (.int whole)) (dd:Den s.heap (aS::D) vd (iv draws))
 (hS:s.heap.get? aS=some {cls:=.type "list",data:=.seq items n}) (dS:bD s.heap (aS::D) items.toList (sh.map pV)) (S1:C.H.objs.size<=aS) (I_:aS∉D) :
 codeAny (model P0 C.w) A (.call (.ref 812) ⟨[vw,.ref aS,vd],[]⟩) (NJ C [aS] D aS (HJ (vG whole sh draws)) ((vG whole sh draws).sh.map pV) (λ_=>True) s) s:=by
 refine nb λnn=>?_;obtain⟨oc,od,kJ,kV,doc,pm,an,bh,ct,ho,h_⟩:=S.plain.at_;refine nn<|jR (k:=k+5) (Wx:=[aS]) (vs:=K5 whole aS sh draws) G I dk ho h_ (binds:=[("whole",vw),("shelf",.ref aS),("draws",vd)]) (BindsTo.of_eq J)
  (.cons dw (.cons ⟨J,.head _,items,n,hS,dS⟩ (.cons dd .nil))) (m1 ⟨S1,aaB hS,I_⟩) (v8.one (x:="shelf") (st:=.own aS (sh.map pV)) (mc (.inl J) (m2 (.inr J) (.inl J)))) (by rfl) λL aq W hL G' aF aU a_ hW=>?_
 have HO1:uE C (mG (k+5) L bh D) (K5 whole aS sh draws) (Mv 0) "deeds" []:=iG (kP ak (by simp)) J J J;refine aas (cS (HO1 _ aq W G' aF aU) λf av bI=>?_);obtain⟨hf,aD,haD,bO,aY,bu⟩:=bI;subst hf;have HO2:uE C (mG (k+5) L bh D) (aG (K5 whole aS sh draws) "deeds" (.own aD [])) (Mv 1) "told" []:=iG (kP ak (by simp)) J J J;refine aas (cS (HO2 _ av _ G' bu bO) λf bH bI=>?_);obtain⟨hf,aT,S2,iz,cW,ez⟩:=bI;subst hf;have lp:=K4 S (k:=k) L bh whole hw aS aD aT ⟨sh,[],[]⟩ draws (aG (aG (K5 whole aS sh draws) "deeds" (.own aD [])) "told" (.own aT [])) D ⟨J,J,J,J⟩ ok J;change ∃vs',_/\Rw _ _ _ _ (vG whole sh draws) vs' at lp;generalize vG whole sh draws=E at lp;refine nb λnn=>?_;obtain⟨vs',hF,r1,r2,r3,r4⟩:=lp;refine nn<|aas (cS (hF _ bH _ G' ez iz) λf fF bI=>?_)
 refine nb λnn=>?_;obtain⟨W',hW',hfl,jA,jh,jZ⟩:=bI;cases Bg.ji hfl;obtain⟨oS,itS,nS,gS,X0⟩:=iH (x:="shelf") r2 J jA;have Yd:aT≠aS:=λz=>absurd (jA.iY "told" "shelf" _ _ aT r4 r2 (.head _) (by refine rl z ?_;exact .head _)) (by decide);have Ye:aD≠aS:=λz=>absurd (jA.iY "deeds" "shelf" _ _ aD r3 r2 (.head _) (by exact rl z ((.head _)))) (by decide);have zX:=(jA.freeze (x:="deeds") r3 J).freeze (x:="told") (by exact rl (au ..) (rl (aaD (by decide) ..) r4)) J;refine nn<|aas (abX (cS (N3 vs' E _ fF _ G' jZ zX) λx gG bI=>?_))
 obtain⟨dx,jK,pg⟩:=bI;have kp:Kept [] gG.heap gG.heap:=λ_ _ _ e=>e;refine .mk (dx.kept kp n0 λd hd=>.inl (qz (K6 oS Ye Yd) d hd)) (jK.keep aS _ (λq=>(aag.mp q).elim (λq=>nomatch q) (aX I S1)) gS) ((X0.dJ jZ jK jA.cj).kept kp n0 λd hd=>.inl (qz oS d hd)) ?_ trivial pg;refine a_.trans (((aY.weak λd q=>List.Mem.tail aT (.tail aD q)).eS (cW.weak λd q=>.tail _ q)).eS (jh.eS jK.up)) n0 λd hd=>?_;rcases aap.mp hd with q |q
 .exact .inr (by exact rl q ((aaf a_.size (aaf aY.size S2))))
 rcases aap.mp q with q |q
 .exact .inr (by exact rl q ((aaf a_.size haD)))
 .exact hW d q
section
noncomputable def lS(CP:Addr)(h:Heap)(d:Addr):Prop:=h.get? d=none\/(∃dx,h.get? d=some (instObj CP dx))\/∃es n,h.get? d=some (dictOf es n)/\getL "coeffs" es≠some none
mutual
noncomputable def nX(CP:Addr):MV->Bool
 |.tup l=>qE CP l
 |.lst l=>qE CP l
 |.inst _ c fs=>(c !=CP)&&(fs.lookup ("coeffs":Str)).isNone&&yZ CP fs
 |_=>true
noncomputable def qE(CP:Addr):acw->Bool
 |[]=>true
 |m::r=>nX CP m&&qE CP r
noncomputable def yZ(CP:Addr):acj->Bool
 |[]=>true
 |p::r=>nX CP p.2&&yZ CP r
end
theorem m8{CP:Addr}:∀{l:acw},(∀m∈l,nX CP m=true)->qE CP l=true:=by
 intro ll
 induction ll with
 |nil=>
  intro _;exact J
 |cons m r ih=>
  intro h;exact abF.mpr ⟨h m (.head _),ih λz hz=>h z (.tail _ hz)⟩
section
variable{CP:Addr}{h:Heap}{D D':acq}
theorem HK(hD:∀d∈D',d∈D\/lS CP h d){a:Addr}{T:String}{items:aco}{n:Nat}(hT:T="tuple"\/T="list")(e:h.get? a=some {cls:=.type T,data:=.seq items n})(na:a∉D):a∉D':=λq=>(hD a q).elim na λz=>by
 rcases z with z |⟨dx,z⟩ |⟨es,n,z,_⟩<;>rw[e] at z
 .cases z
 .have:=aaJ Obj.cls (aax z);cases this
 .have:=Value.type.inj (aaJ Obj.cls (aax z));subst this;revert hT;decide
theorem D4(hD:∀d∈D',d∈D\/lS CP h d){x dx Cc:Addr}{es:acm}{n:Nat}{vals:aci}{fs:acj}(e:fW h x dx Cc es n vals)(nx:x∉D)(nd:dx∉D)(ds:dF h D vals fs)(hc:(Cc !=CP)=true)(hl:(fs.lookup ("coeffs":Str)).isNone=true):x∉D'/\dx∉D':=by
 obtain⟨e1,e2,e3,_⟩:=e;refine⟨λq=>(hD x q).elim nx λz=>?_,λq=>(hD dx q).elim nd λz=>?_⟩
 .rcases z with z |⟨O7,z⟩ |⟨es',n',z,_⟩<;>rw[e1] at z
  .cases z
  .have:=Value.ref.inj (aaJ Obj.cls (aax z));subst this;simp at hc
  .have:=aaJ Obj.cls (aax z);cases this
 .rcases z with z |⟨O7,z⟩ |⟨es',n',z,z2⟩<;>rw[e2] at z
  .cases z
  .have:=aaJ Obj.cls (aax z);cases this
  .have:=(Data.dict.inj (aaJ Obj.data (aax z))).1
   have ee:es=es':=by simpa using aaJ Array.toList this
   subst ee;rw[e3,ds.lookup_none (Option.isNone_iff_eq_none.mp hl)] at z2;exact z2 J
theorem Den.Mw(hD:∀d∈D',d∈D\/lS CP h d):(∀{v m},Den h D v m->nX CP m=true->Den h D' v m)/\(∀{vs ms},bD h D vs ms->qE CP ms=true->bD h D' vs ms)/\∀{vs ms},dF h D vs ms->yZ CP ms=true->dF h D' vs ms:=by refine Den.gen (P:=λm=>nX CP m=true) (Ps:=λm=>qE CP m=true) (Pf:=λm=>yZ CP m=true) (λ_ _ _ _ hT e na=>⟨e,HK hD hT e na⟩) (λ_ _ _ _ _ _ _ _ e nx nd ds hn=>⟨e,?_⟩) (λ_ p=>p) (λ_ p=>p) (λ_ _ _ p=>(abF.mp p).2) (λ_ _ p=>abF.mp p) (λ_ _ _ p=>abF.mp p);have hn:=abF.mp (abF.mp hn).1;exact D4 hD e nx nd ds hn.1 hn.2
theorem Den.AX(hD:∀d∈D',d∈D\/lS CP h d){v:Value}{m:MV}(d:Den h D v m):nX CP m=true->Den h D' v m:=(Den.Mw hD).1 d
theorem dF.AX(hD:∀d∈D',d∈D\/lS CP h d){vs:aci}{ms:acj}(d:dF h D vs ms):yZ CP ms=true->dF h D' vs ms:=(Den.Mw hD).2.2 d
end
noncomputable def kh(CP:Addr)(h:Heap):acq:=(List.range h.objs.size).filter λd=>@decide (lS CP h d) (Classical.propDecidable _)
theorem k6{CP:Addr}{h:Heap}{d:Addr}:d∈kh CP h↔d<h.objs.size/\lS CP h d:=by unfold kh;rw[aaG,aa7,@decide_eq_true_eq _ (Classical.propDecidable _)]
section
variable{C:Cx}{Γ:Gm}{W D X:acq}{s s' aq av:Shared}{vs vs':aC}{h:Heap}{CP:Addr}
theorem Fm.more(F:Fm C Γ W h vs)(hX:∀d∈X,d<h.objs.size)(hf:∀x st,vs.lookup x=some st->foot st=[])(hv:∀x st a,vs.lookup x=some st->fX h (W++Γ.Do) W a st->fX h (W++(X++Γ.Do)) W a st):Fm C (cz Γ (X++Γ.Do)) W h vs:=by
 have up:∀d∈W++Γ.Do,d∈W++(X++Γ.Do):=λd hd=>(aag.mp hd).elim (λq=>aah _ q) λq=>aad _ (aad _ q);refine⟨F.kind,F.glob,F.bi,?_,λy st hy jP=>?_,λx hx=>by obtain⟨c,v,a,b,d⟩:=F.zS x hx;exact⟨c,v,a,b,d⟩,F.lW,λd hd=>aad _ (F.tabs d hd),F.lo,λd hd=>?_,F.apart,λy c hc=>⟨up c (F.cI y c hc).1,(F.cI y c hc).2⟩,F.fY,λy st b hy hb=>?_,F.iY⟩
 .obtain⟨mm,hn,hl⟩:=F.ns
  refine⟨mm,hn,λy st hy jP=>?_⟩;obtain⟨a,h1,h2⟩:=hl y st hy jP;exact⟨a,h1,hv y st a hy h2⟩
 .obtain⟨c,a,h1,h2,h3⟩:=F.cell y st hy jP
  exact⟨c,a,h1,h2,hv y st a hy h3⟩
 .rcases aag.mp hd with q |q
  .exact F.hi d (aah _ q)
  .rcases aag.mp q with q |q
   .exact hX d q
   .exact F.hi d (aad _ q)
 .replace hb:=(hf y st hy)▸hb
  refine nb λnn=>?_;cases hb
theorem Fm.AX(F:Fm C Γ W s.heap vs)(hv:∀x st,vs.lookup x=some st->∃m,st = .v m/\nX CP m=true):Fm C (cz Γ (kh CP s.heap++Γ.Do)) W s.heap vs:=by
 refine F.more (λd hd=>(k6.mp hd).1) (λx st hx=>?_) λx st a hx d=>?_
 .obtain⟨m,rfl,_⟩:=hv x st hx;rfl
 .obtain⟨m,rfl,hn⟩:=hv x st hx
  exact Den.AX (CP:=CP) (λd hd=>by
   rcases aag.mp hd with q |q
   .exact .inl (aah _ q)
   .rcases aag.mp q with q |q
    .exact .inr (k6.mp q).2
    .exact .inl (aad _ q)) (show Den _ _ _ _ from d) hn
theorem AY{x dx:Addr}{es:acm}{n:Nat}{vals:aci}{fs:acj}(I:Inv C s)(t:bL C [] s s')(ht:∀d∈C.tabs,d∈D)(hp:∀d∈kh CP s.heap,d∈D)(hi:fW s'.heap x dx CP es n vals)(nx:x∉D)(nd:dx∉D)(df:dF s'.heap D vals fs)(hc:(fs.lookup ("coeffs":Str)).isSome=true):s.heap.objs.size<=x/\s.heap.objs.size<=dx:=by
 obtain⟨e1,e2,e3,_⟩:=hi;constructor
 .refine Nat.le_of_not_lt λq=>nx (hp x (k6.mpr ⟨q,?_⟩))
  cases e:s.heap.get? x with
  |none=>exact .inl e
  |some o=>
   have:=t.keep x o (λz=>nx (ht x (by simpa using z))) e;replace this:=e1▸this;exact .inr (.inl ⟨dx,by exact rl e (this.symm)⟩)
 .refine Nat.le_of_not_lt λq=>nd (hp dx (k6.mpr ⟨q,?_⟩))
  cases e:s.heap.get? dx with
  |none=>exact .inl e
  |some o=>
   have:=t.keep dx o (λz=>nd (ht dx (by simpa using z))) e;replace this:=e2▸this;refine .inr (.inr ⟨es,n,by exact rl e (this.symm),?_⟩);rw[e3];intro z;have hz:vals.lookup ("coeffs":Str)=none:=aax z;obtain⟨m,hm⟩:=aa_.mp hc;obtain⟨a,ha,_⟩:=df.lookup hm;replace ha:=hz▸ha;cases ha
end
end
noncomputable def gP(CP:Addr)(h:Heap)(D:acq)(ri:MV)(x dx:Addr)(cs:acu):Prop:=∃es n vals,fW h x dx CP es n vals/\dF h D vals [("parent",ri),("coeffs",iv cs)]
section
variable{C:Cx}{Γ:Gm}{W D X:acq}{s s' aq av:Shared}{vs vs':aC}{h:Heap}{CP:Addr}
theorem Fm.N4(F:Fm C Γ W h vs)(H:∀x jg,vs'.lookup x=some jg->foot jg=[]/\∃st,vs.lookup x=some st/\∀a,fX h (W++Γ.Do) W a st->fX h (W++Γ.Do) W a jg):Fm C Γ W h vs':=by
 refine⟨F.kind,F.glob,F.bi,?_,λy st hy jP=>?_,F.zS,F.lW,F.tabs,F.lo,F.hi,F.apart,F.cI,F.fY,λy st b hy hb=>?_,λy z st jg b hy hz hb hb'=>?_⟩
 .obtain⟨mm,hn,hl⟩:=F.ns
  refine⟨mm,hn,λy st hy jP=>?_⟩;obtain⟨_,Ct,h1,h2⟩:=H y st hy;obtain⟨a,h3,h4⟩:=hl y Ct h1 jP;exact⟨a,h3,h2 a h4⟩
 .refine nb λnn=>?_
  obtain⟨_,Ct,h1,h2⟩:=H y st hy;obtain⟨c,a,h3,h4,h5⟩:=F.cell y Ct h1 jP;exact nn<|⟨c,a,h3,h4,h2 a h5⟩
 .replace hb:=((H y st hy).1)▸hb
  refine nb λnn=>?_;cases hb
 .replace hb:=((H y st hy).1)▸hb;cases hb
theorem K7{x dx:Addr}{es:acm}{n:Nat}{vals:aci}(h1:fW h x dx CP es n vals):x≠dx:=λq=>by have a:=h1.1;rw[q,h1.2.1] at a;have:=aaJ Obj.cls (aax a);cases this
theorem fW.move{h':Heap}{x dx:Addr}{es:acm}{n:Nat}{vals:aci}{Wk:acq}(h1:fW h x dx CP es n vals)(k:Kept Wk h h')(n1:x∉Wk)(n2:dx∉Wk):fW h' x dx CP es n vals:=⟨k x _ n1 h1.1,k dx _ n2 h1.2.1,h1.2.2⟩
theorem ints_map(cs:acu)(q:Int):iv (cs.map λc=>c.fmod q) = .lst ((cs.map MV.int).map λm=>.int ((O6 m).fmod q)):=by unfold iv;refine rl aar (rl aar ?_);rfl
theorem qF{y:Str}{st Ct:VS}(h:List.lookup y [(("self":Str),Ct)]=some st):y="self"/\st=Ct:=by have:=mem_of_lookup h;simpa using this
noncomputable def HL(x CP:Addr)(ri:MV)(cs:acu):aC:=[("self",.v (.inst (some x) CP [("parent",ri),("coeffs",iv cs)]))]
noncomputable def HM(x:Addr):aC:=[("self",.v (.bZ (.ref x)))]
theorem Fm.K8{x dx:Addr}{ri:MV}{cs:acu}(F:Fm C Γ W h (HL x CP ri cs))(hx:x<h.objs.size)(hd:dx<h.objs.size):Fm C (cz Γ ([x,dx]++Γ.Do)) W h (HM x):=by
 have F':Fm C Γ W h (HM x):=F.N4 λy jg hy=>by
  obtain⟨rfl,rfl⟩:=qF hy;refine⟨J,_,J,λa d=>?_⟩;cases(show Den _ _ _ _ from d).eU with
  |mk y dy es n vals ex=>cases ex x J;exact(show Den _ _ _ _ from .bZ _ J)
 exact F'.more (m2 hx hd) (λy st hy=>by refine rl ((qF hy).2) ?_;rfl) λy st a hy d=>by rw[(qF hy).2] at d ⊢;exact rl ((show Den _ _ _ _ from d).oZ.1) ((show Den _ _ _ _ from .bZ _ J))
theorem fW.set{h h' h₅:Heap}{x dx CP:Addr}{es:acm}{n:Nat}{vals:aci}{nm:Str}{hv:Int}{tk:Tok}{b:Value}(hi:fW h x dx CP es n vals)(hsm:(vals.lookup nm).isSome=true)(kq:Heap.SameBut dx h h')(g':h'.get? dx=some (dictOf (putL nm hv (.str nm tk) b es) (putN nm es n)))
 (k1:∀o,h'.get? x=some o->h₅.get? x=some o) (k2:∀o,h'.get? dx=some o->h₅.get? dx=some o):fW h₅ x dx CP (putL nm hv (.str nm tk) b es) (putN nm es n) (qp vals nm b):=by
 refine⟨k1 _ ((kq.2 x (K7 hi)).trans hi.1),k2 _ g',λz=>?_,?_⟩
 .refine rl (xU ..) (rl (qN ..) (rl (hi.2.2.1 z ..) ?_))
  split<;>rfl
 .refine rl (o_ ..) (rl (n6 (hi.2.2.1 nm) ..) (rl (hsm ..) ?_))
  exact hi.2.2.2
theorem y9{fR:Addr}{qual:Str}{st:Stmt}{E:Expr}{p1 p2 p3 p4 p5:Pos}{ri:MV}{q:Int}{k:Nat}{cs:acu}(hfn:FnAt C fR qual .none st)(hB:o5 st=[.Assign [.Attribute (.Name "self" p1) "coeffs" p2] E p3,.Return (some (.Name "self" p4)) p5])(hsc:gw (mq st) ["self"]=true)
 (hps:yl (Eu st) ["self"]) (hk:(mq st).names.lookup ("self":Str)=some NameKind.cell) (hsw:∀L bh,swapsWith E (some (.Attribute (.Name "self" p1) "coeffs" p2)) p3.line (envOfC qual (mq st) L fR bh)=pure false) (hS:sF C CP "coeffs")
 (HE:∀x L bh D,Ev C (gF k qual (mq st) L fR bh D) (HL x CP ri cs) E (iv (cs.map λc=>c.fmod q))) {A:Around} {x dx:Addr} (G:Good (k+1) A) (I:Inv C s) (dk:lg C D s.heap)
 (hp:gP CP s.heap D ri x dx cs) (hx:C.H.objs.size<=x) (hdx:C.H.objs.size<=dx) (Ry:dx∈D) :
 codeAny (model P0 C.w) A (.call (.ref fR) ⟨[.ref x],[]⟩) (λr s'=>∃a,r = .ok (.ret a)/\gP CP s'.heap D ri x dx (cs.map λc=>c.fmod q)/\bL C [dx] s s'/\Inv C s') s:=by
 refine nb λnn=>?_;obtain⟨oc,od,kJ,kV,doc,pm,an,bh,ct,ho,h_⟩:=hfn.at_;obtain⟨es,m0,vals,hin,df⟩:=hp;have tx:=aX I hx;have JC:=aX I hdx;have WL:lg C (P_ D x dx) s.heap:=dk.nd tx JC;have self':=Bl (D:=D) (x?:=some x) (λ_ q=>(aax q).symm) hin df;have lx:=aaB hin.1;have ZS:=aaB hin.2.1;refine nn<|jR (k:=k) (Wx:=[]) (vs:=HL x CP ri cs) G I WL ho h_ (binds:=[("self",.ref x)]) (.of_eq (hps _ _ _)) (.cons self' .nil) n0 (.EW (bs:=[("self",_)])) hsc λL aq W hL G' aF aU a_ hW=>?_
 have W0:∀d∈W,s.heap.objs.size<=d:=λd hd=>(hW d hd).elim (λq=>nomatch q) id;have HS:∀Do (p:Pos),Ev C (gF k qual (mq st) L fR bh Do) (HM x) (.Name "self" p) (.bZ (.ref x)):=λDo p=>fV (Bf hk J) J;refine rl hB ?_;refine aas (plainObj_wpAny_Assign_Attribute ((HE x L bh _).use G' aF aU λb av bG aY bu bO=>?_) (hsw _ _));have uy:=a_.then aY;refine(HS _ _).use G' bu (bO.K8 (dx:=dx) (aao lx uy.size) (aao ZS uy.size)) λa bH d₃ cW ez iz=>?_;refine rl d₃.oZ.1 ?_;have N5:fW av.heap x dx CP es m0 vals:=hin.move uy.keep tx JC;have K9:fW bH.heap x dx CP es m0 vals:=N5.move cW.keep tx JC;have hsm:(vals.lookup ("coeffs":Str)).isSome=true:=by obtain⟨a,ha,_⟩:=df.lookup (x:="coeffs") J;refine rl ha ?_;rfl
 refine xV hS ez K9.at (by refine rl (K9.2.2.1 ..) ?_;rfl) K9.2.2.2 λh' g' kq=>?_;have nW:∀z∈[x,dx],z∉W:=m2 (λq=>absurd lx (aaw.mpr (W0 _ q))) λq=>absurd ZS (aaw.mpr (W0 _ q));have jA:=iz.jj (Z:=[x,dx]) ez (bL.same (tk:=bH.toks+2) kq (.tail _ (.head _))) (λz hz=>aah _ hz) nW λy c hc q=>(aag.mp (aU.cI y c hc).1).elim (nW c q) λz=>(aap.mp q).elim (lz.mp z).2.1 λq=>(lz.mp z).2.2 (aam.mp q);refine aas (abX ((HS _ _).use G' (ez.same (tk:=bH.toks+2) kq hdx) jA λa gG aac jK pg Dg=>?_));have ZT:bL C [dx] av gG:=(cW.up (W:=[dx])).eS ((bL.same (tk:=bH.toks+2) kq (.head _)).eS jK.up);have T:bL C [dx] s gG:=a_.trans ((aY.up (W:=[dx])).eS ZT) n0 λd q=>.inl q;refine⟨_,J,⟨_,_,_,K9.set hsm kq g' (λo=>jK.keep x o tx) (λo=>jK.keep dx o JC),?_⟩,T,pg⟩;refine dF.put (fs:=[("parent",ri),("coeffs",iv cs)]) (df.kept T.keep (λd hd=>(aag.mp hd).elim (λz=>by exact rl (aam.mp z) Ry) (dk.tabs d)) λd hd=>.inl hd) "coeffs" ?_;have db:Den av.heap ([dx]++(C.tabs++D)) b (iv (cs.map λc=>c.fmod q)):=bG.Zi (wK _) λd hd=>by
  by_cases e1:d=x
  .refine nb λnn=>?_
   subst e1;exact nn<|.inr λitems n q=>by replace q:=N5.1▸q;cases q
  by_cases e2:d=dx
  .subst e2;exact .inr λitems n q=>by replace q:=N5.2.1▸q;exact absurd (Value.type.inj (aaJ Obj.cls (aax q))) (by decide)
  refine .inl (aad _ (lz.mpr ⟨?_,e1,e2⟩));rcases aag.mp hd with z |z
  .exact absurd (aam.mp z) e2
  .exact(aag.mp z).elim (dk.tabs d) id
 exact db.kept ZT.keep (λd hd=>(aag.mp hd).elim (λz=>aah _ z) λz=>aad _ (aah _ z)) λd hd=>.inl (aad _ (aad _ hd))
end
noncomputable def N6(N:Nm)(n:Nat):Stmt:=((o5 (N.T 4))[n]?).getD (.Pass ⟨0,0,0,0⟩)
noncomputable def N7(N:Nm):Expr:=kE (N6 N 0) 0
theorem uM{C:Cx}{N:Nm}(S:SF C N){k:Nat}(r?:acn)(q:Int)(n:Nat)(hq:q≠0){A:Around}{s:Shared}{D:acq}{x dx:Addr}{cs:acu}(G:Good (k+1) A)(I:Inv C s)(dk:lg C D s.heap)
 (hp:gP N.CP s.heap D (ay N.CR r? q n) x dx cs) (hx:C.H.objs.size<=x) (hdx:C.H.objs.size<=dx) (hlen:cs.length<=900) (Ry:dx∈D) :
 codeAny (model P0 C.w) A (.call (.ref (N.a 4)) ⟨[.ref x],[]⟩) (λr s'=>∃a,r = .ok (.ret a)/\gP N.CP s'.heap D (ay N.CR r? q n) x dx (cs.map λc=>c.fmod q)/\bL C [dx] s s'/\Inv C s') s:=by
 refine y9 (E:=N7 N) S.QX J J (λ_ _ _=>rfl) J (λ_ _=>rfl) S.yo (λx L bh D=>?_) G I dk hp hx hdx Ry;refine rl (ints_map ..) ?_;refine aZ (bK (aV (ao J) S.eY J J J)) (λL Do=>bX _ (az J) (aaM.mpr λc _=>?_)) (λq=>nomatch q) J J (aaj J) (by rw[aai];omega) (λ_=>rfl);exact aI (ao J) (aV (aV (ao J) S.dP J J J) S.O0 J J J) (b9 _ _ hq)
noncomputable def N8(C:Cx)(Γ:Gm)(Y:acq)(Ψ:acq->Heap->Prop)(vs:aC)(st:Stmt)(Yg:acq->Heap->Prop)(vs':aC):Prop:=
 ∀A s W,Good Γ.k A->Inv C s->Fm C Γ W s.heap vs->Qd C Γ W s Y->Ψ (W++Γ.Do) s.heap->wpAny (model P0 C.w) A (exec st Γ.env)
  (Rh C Γ Y W s vs' λW' s'=>Yg (W'++Γ.Do) s'.heap) ig s
noncomputable def O8(C:Cx)(Γ:Gm)(Y:acq)(Ψ:acq->Heap->Prop)(vs:aC)(ss:acr)(Yg:acq->Heap->Prop)(vs':aC):Prop:=
 ∀A s W,Good Γ.k A->Inv C s->Fm C Γ W s.heap vs->Qd C Γ W s Y->Ψ (W++Γ.Do) s.heap->wpAny (model P0 C.w) A (execs ss Γ.env)
  (Rh C Γ Y W s vs' λW' s'=>Yg (W'++Γ.Do) s'.heap) ig s
noncomputable def Mx(C:Cx)(Y:acq)(Ψ:acq->Heap->Prop):Prop:=∀D D' Wk s s',Ψ D s.heap->Inv C s->bL C Wk s s'->(∀d∈C.tabs,d∈D)->(∀d∈Wk,d∈D\/s.heap.objs.size<=d)->(∀L∈Y,L∉Wk/\L∉C.tabs)->(∀d∈D',d∈D\/s.heap.objs.size<=d)->Ψ D' s'.heap
noncomputable def D5{σ:Type}(C:Cx)(Γ:Gm)(Y:acq)(t:Expr)(body:acr)(mk:σ->MV)(Ψ:List σ->acq->Heap->Prop):List σ->aC->aC->Prop
 |[],vs,vs'=>vs'=vs
 |m::ms,vs,vs'=>Ny C Γ t (mk m) vs (λfK dG=>∀Do,O8 C (cz Γ Do) Y (Ψ (m::ms)) fK body (Ψ ms) dG) λdG=>D5 C Γ Y t body mk Ψ ms dG vs'
section
variable{C:Cx}{Γ:Gm}{W D Y:acq}{s s' aq av:Shared}{vs vs' d7:aC}{A:Around}{st:Stmt}{ss:acr}
theorem bL.Yh{Wk D D':acq}(t:bL C Wk s s')(ht:∀d∈C.tabs,d∈D)(hW:∀d∈Wk,d∈D\/s.heap.objs.size<=d)(hD:∀d∈D',d∈D\/s.heap.objs.size<=d){vals:aci}{fs:acj}(d:dF s.heap D vals fs):dF s'.heap D' vals fs:=by
 refine d.kept (W:=(Wk++C.tabs).filter λd=>decide (d<s.heap.objs.size)) (λb o hb e=>t.keep b o (λq=>hb (aaG.mpr ⟨q,aaK (aaB e)⟩)) e) (λd hd=>?_) hD;obtain⟨h1,h2⟩:=aaG.mp hd;rcases aag.mp h1 with q |q
 .exact(hW d q).elim id λz=>absurd (aaj h2) (aaw.mpr z)
 .exact ht d q
theorem Cu{Ψ:acq->Heap->Prop}:O8 C Γ Y Ψ vs [] Ψ vs:=λA s W G I F hY OV=>abv ⟨J,W,λd q=>.inl q,F,bL.refl _ _ _,I,OV⟩
theorem y_{Ψ Cv za:acq->Heap->Prop}(gE:N8 C Γ Y Ψ vs st Cv vs')(iI:O8 C Γ Y Cv vs' ss za d7):O8 C Γ Y Ψ vs (st::ss) za d7:=λA s W G I F hX yP=>
 aas (cS (gE A s W G I F hX yP) λf aq bI=>by
  obtain⟨hf,fP,kZ,aU,a_,aF,AF⟩:=bI;subst hf;refine cS (iI A aq fP G aF aU (λL hL=>?_) AF) λf av ⟨hf,rH,xZ,bO,aY,bu,AG⟩=>?_
  .obtain⟨a,b,c,d⟩:=hX L hL
   exact⟨a,λq=>(kZ L q).elim b λz=>absurd c (aaw.mpr z),aao c a_.size,d⟩
  .refine⟨hf,rH,λd hd=>?_,bO,a_.trans aY (λd q=>.inl q) λd hd=>?_,bu,AG⟩
   .rcases xZ d hd with q |q
    .exact kZ d q
    .exact .inr (aaf a_.size q)
   .rcases aag.mp hd with q |q
    .exact .inl (aah _ q)
    .exact(kZ d q).imp (λz=>aad _ z) id)
theorem zb{σ:Type}{mk:σ->MV}{Ψ:List σ->acq->Heap->Prop}{t iter:Expr}{body:acr}{pos:Pos}{pr:Bool}{ms:List σ}(hst:∀ms,Mx C Y (Ψ ms))(Hi:rR C Γ vs iter pr (ms.map mk))(H:D5 C Γ Y t body mk Ψ ms vs vs')(ht:pr=true->∃es x1 p,t = .Tuple es x1 p)(hs:∀x,foldedSetIterable iter Γ.env x=pure x) :
 N8 C Γ Y (Ψ ms) vs (.For t iter body [] pos) (Ψ []) vs':=λA s W G I F hX yP=>by
 refine wj (mk:=mk) (Y:=Y) (S:=λms vs=>D5 C Γ Y t body mk Ψ ms vs vs') (Ψ:=λms D s=>Ψ ms D s.heap) (En:=λf vs W D s=>f = .next/\vs=vs'/\Ψ [] (W++D) s.heap) (λms D D' Wk s s' h I t h1 h2 h3 h4=>hst ms D D' Wk s s' h I t h1 h2 h3 h4) Hi ht hs G I F hX H yP ?_ ?_ ?_ ?_
 .intro m ms vs HF
  obtain⟨fK,dG,HB,HX,HN⟩:=HF;refine⟨fK,HB,λDo s W I F hX yP=>cS (HX Do A s W G I F hX yP) λf s' bI=>?_⟩;obtain⟨hf,W',h1,h3,h4,h5,h6⟩:=bI;subst hf;exact .mk h1 h3 h4 h5 ⟨HN,h6⟩
 .exactλvs W D s h h'=>⟨J,Eq.symm h,h'⟩
 .exactλf vs W D D' s I' h ht hD=>⟨h.1,h.2.1,hst [] (W++D) (W++D') [] s s h.2.2 I' (bL.refl _ _ _) (λd hd=>aad _ (ht d hd)) n0 (λL hL=>⟨(λq=>nomatch q),aX I (hX L hL).2.2.2⟩) λd hd=>.inl ((aag.mp hd).elim (aah _) λq=>aad _ (hD d q))⟩
 .intro f s' h
  cases h with |mk h1 h2 h3 h4 h5=>
  obtain⟨rfl,rfl,h5⟩:=h5;exact⟨J,_,h1,h2,h3,h4,h5⟩
end
noncomputable abbrev vH:=Addr×Addr×List Int
noncomputable def zd(t:vH):MV:=.bZ (.ref t.1)
noncomputable def lU(ts:List vH):MV:=.lst (ts.map zd)
noncomputable def qc(Cm:Addr)(mo:MV)(TR:List (List vH))(tr:Bool):MV:=.inst none Cm [("parent",mo),("_data",.lst (TR.map lU)),("_transpose",.bool tr)]
section
variable{C:Cx}{CP:Addr}{h h':Heap}{D Y:acq}{ri:MV}
theorem K_:∀{r:ack}{vals:acp},bD h D vals (r.map (eT CP ri))->∃ts:List vH,ts.map (λt=>t.2.2)=r/\bD h D vals (ts.map zd)/\∀t∈ts,gP CP h D ri t.1 t.2.1 t.2.2/\t.1∉D/\t.2.1∉D:=by
 intro ll
 induction ll with
 |nil=>
  intro _ d;obtain rfl:=d.g7;exact⟨[],J,.nil,n0⟩
 |cons cs r ih=>
  intro _ d;cases d.d8 with
  |mk d1 d2=>
   refine nb λnn=>?_;obtain⟨ts,h1,h2,h3⟩:=ih d2;cases d1.eU with
   |mk x dx es n vals ex hi nx nd df=>
    refine nn<|⟨(x,dx,cs)::ts,by exact rl ab8 (rl h1 J),.cons (.bZ _ J) h2,abT.mpr ⟨⟨⟨es,n,vals,hi,df⟩,nx,nd⟩,h3⟩⟩
theorem HP:∀{rows:Rows}{vals:acp},bD h D vals (ek CP ri rows)->∃TR:List (List vH),TR.map (λts=>ts.map λt=>t.2.2)=rows/\bD h D vals (TR.map lU)/\∀ts∈TR,∀t∈ts,gP CP h D ri t.1 t.2.1 t.2.2/\t.1∉D/\t.2.1∉D:=by
 intro ll
 induction ll with
 |nil=>
  intro _ d;obtain rfl:=d.g7;exact⟨[],J,.nil,n0⟩
 |cons r rows ih=>
  intro _ d;refine nb λnn=>?_;cases d.d8 with
  |mk d1 d2=>
   obtain⟨TR,h1,h2,h3⟩:=ih d2;cases d1.jW with
   |mk a items n hg na ds=>
    obtain⟨ts,g1,g2,g3⟩:=K_ ds;refine nn<|⟨ts::TR,by exact rl ab8 (rl h1 (rl g1 J)),.cons (.lst a items n _ hg na g2) h2,abT.mpr ⟨g3,h3⟩⟩
theorem La(g:acu->acu):∀{ts:List vH}{vals:acp},bD h D vals (ts.map zd)->(∀t∈ts,gP CP h D ri t.1 t.2.1 (g t.2.2)/\t.1∉D/\t.2.1∉D)->bD h D vals ((ts.map λt=>g t.2.2).map (eT CP ri)):=by
 intro ll
 induction ll with
 |nil=>
  intro _ d _;obtain rfl:=d.g7;exact .nil
 |cons t ts ih=>
  intro _ d H;refine nb λnn=>?_;cases d.d8 with
  |mk d1 d2=>
   have ih:=ih d2 λt ht=>H t (.tail _ ht);obtain⟨⟨es,n,vals,hi,df⟩,nx,nd⟩:=H t (.head _);obtain⟨rfl,_⟩:=d1.oZ;exact nn<|.cons (.inst none t.1 t.2.1 CP es n vals _ (λ_ q=>nomatch q) hi nx nd df) ih
theorem HQ(g:acu->acu):∀{TR:List (List vH)}{vals:acp},bD h D vals (TR.map lU)->(∀ts∈TR,∀t∈ts,gP CP h D ri t.1 t.2.1 (g t.2.2)/\t.1∉D/\t.2.1∉D)->bD h D vals (ek CP ri (TR.map λts=>ts.map λt=>g t.2.2)):=by
 intro ll
 induction ll with
 |nil=>
  intro _ d _;obtain rfl:=d.g7;exact .nil
 |cons ts TR ih=>
  intro _ d H;cases d.d8 with
  |mk d1 d2=>
   have ih:=ih d2 λt ht=>H t (.tail _ ht);cases d1.jW with
   |mk a items n hg na ds=>exact .cons (.lst a items n _ hg na (La g ds (H ts (.head _)))) ih
theorem bD.xd{h:Heap}{D D':acq}{vals:acp}{cs ds:acu}(d:bD h D vals (cs.map MV.int))(e:bD h D' vals (ds.map MV.int)):cs=ds:=by
 induction cs generalizing ds vals with
 |nil=>
  obtain rfl:=d.g7;cases ds with
  |nil=>rfl
  |cons=>exact nomatch e.d8
 |cons c cs ih=>cases ds with
  |nil=>obtain rfl:=e.g7;exact nomatch d.d8
  |cons c' ds=>
   cases d.d8 with |mk d1 d2=>
   cases e.d8 with |mk e1 e2=>
   refine rl (ih d2 e2) ?_;cases d1.eL with |mk t=>
   cases e1.eL;rfl
theorem Den.xd{h:Heap}{D D':acq}{v:Value}{cs ds:acu}(d:Den h D v (iv cs))(e:Den h D' v (iv ds)):cs=ds:=by
 cases d.jW with
 |mk a items n hg na ds1=>cases e.jW with
  |mk a' items' n' hg' na' P8=>
   replace hg':=hg▸hg';have:=aaJ Obj.data (aax hg');have:=(Data.seq.inj this).1;subst this;exact ds1.xd P8
theorem gP.Rz{D D':acq}{nV:MV}{x x' dx:Addr}{cs ds:acu}(a:gP CP h D ri x dx cs)(b:gP CP h D' nV x' dx ds):cs=ds:=by
 refine nb λnn=>?_;obtain⟨es,n,vals,hi,df⟩:=a;obtain⟨es',n',vals',hi',LS⟩:=b;obtain⟨v,hv,dv⟩:=df.lookup (x:="coeffs") J;obtain⟨v',hv',dv'⟩:=LS.lookup (x:="coeffs") J;have e:dictOf es n=dictOf es' n':=aax (hi.2.1.symm.trans hi'.2.1);have ee:es=es':=by have:=aaJ Obj.data e;have:=(Data.dict.inj this).1;simpa using aaJ Array.toList this
 subst ee;have:=(hi.2.2.1 "coeffs").symm.trans (hi'.2.2.1 "coeffs");replace this:=hv▸this;replace this:=hv'▸this;have:v=v':=aax (aax this);subst this;exact nn<|dv.xd dv'
end
noncomputable def b_(q:Int)(cs:acu):acu:=cs.map λc=>c.fmod q
theorem D6{q:Int}(hq:0<q)(cs:acu):b_ q (b_ q cs)=b_ q cs:=by unfold b_;refine rl aar ?_;refine aaz λc _=>?_;show(c.fmod q).fmod q=c.fmod q;have:=bT c hq;exact rl (aaA (c.fmod q) (by exact a5 hq)) (rl (abV this.1 this.2) J)
noncomputable def Je(CP:Addr)(ri:MV)(q:Int)(all todo:List vH)(D:acq)(h:Heap):Prop:=∀t∈all,(gP CP h D ri t.1 t.2.1 t.2.2\/gP CP h D ri t.1 t.2.1 (b_ q t.2.2))/\(t∉todo->gP CP h D ri t.1 t.2.1 (b_ q t.2.2))
section
variable{C:Cx}{CP:Addr}{h h':Heap}{D D' Y Wk:acq}{ri:MV}{s s':Shared}
theorem gP.dJ{x dx:Addr}{cs:acu}(p:gP CP s.heap D ri x dx cs)(t:bL C Wk s s')(ht:∀d∈C.tabs,d∈D)(hW:∀d∈Wk,d∈D\/s.heap.objs.size<=d)(h1:x∉Wk/\x∉C.tabs)(h2:dx∉Wk/\dx∉C.tabs)(hD:∀d∈D',d∈D\/s.heap.objs.size<=d):gP CP s'.heap D' ri x dx cs:=by refine nb λnn=>?_;obtain⟨es,n,vals,hi,df⟩:=p;exact nn<|⟨es,n,vals,hi.move t.keep (λq=>(aag.mp q).elim h1.1 h1.2) (λq=>(aag.mp q).elim h2.1 h2.2),t.Yh ht hW hD df⟩
theorem ua{q:Int}{all todo:List vH}(hY:∀t∈all,t.1∈Y/\t.2.1∈Y):Mx C Y (Je CP ri q all todo):=λD D' Wk s s' H I t ht hW hX hD x hx=>by obtain⟨h1,h2⟩:=H x hx;have a:=hX _ (hY x hx).1;have b:=hX _ (hY x hx).2;exact⟨h1.imp (λp=>p.dJ t ht hW a b hD) λp=>p.dJ t ht hW a b hD,λq=>(h2 q).dJ t ht hW a b hD⟩
theorem ze{Γ:Gm}{t:Expr}{body:acr}{σ:Type}{mk:σ->MV}{Ψ:List σ->acq->Heap->Prop}(R:aC->Prop):∀(ms:List σ)(vs:aC),R vs->(∀vs m ms',R vs->(∃pre,ms=pre++m::ms')->∃fK dG,(∀Do,Bd C (cz Γ Do) t (mk m) vs fK)/\(∀Do,O8 C (cz Γ Do) Y (Ψ (m::ms')) fK body (Ψ ms') dG)/\R dG)->∃vs',D5 C Γ Y t body mk Ψ ms vs vs'/\R vs':=by
 intro ll
 induction ll with
 |nil=>
  intro vs h0 H;exact⟨vs,J,h0⟩
 |cons m ms ih=>
  intro vs h0 H;refine nb λnn=>?_;obtain⟨fK,dG,h1,h2,h3⟩:=H vs m ms h0 ⟨[],J⟩;obtain⟨vs',h4,h5⟩:=ih dG h3 λvs m' ms' hR bI=>by obtain⟨pre,e⟩:=bI;exact H vs m' ms' hR ⟨m::pre,by refine rl e ?_;rfl⟩
  exact nn<|⟨vs',⟨fK,dG,h1,h2,h4⟩,h5⟩
end
noncomputable def RA(C:Cx)(CP fR:Addr)(ri:MV)(q:Int)(k:Nat):Prop:=∀{A:Around}{s:Shared}{D:acq}{x dx:Addr}{cs:acu},Good (k+1) A->Inv C s->lg C D s.heap->gP CP s.heap D ri x dx cs->C.H.objs.size<=x->C.H.objs.size<=dx->cs.length<=900->dx∈D->
 codeAny (model P0 C.w) A (.call (.ref fR) ⟨[.ref x],[]⟩) (λr s'=>∃a,r = .ok (.ret a)/\gP CP s'.heap D ri x dx (b_ q cs)/\bL C [dx] s s'/\Inv C s') s
section
variable{C:Cx}{CP fR:Addr}{ri:MV}{q:Int}{k:Nat}{Γ:Gm}{p1 p2 p3 p4:Pos}{h:Heap}{D:acq}
theorem gP.ne{x dx x' O7:Addr}{cs cs':acu}(p:gP CP h D ri x dx cs)(p':gP CP h D ri x' O7 cs'):x'≠dx:=λq=>by obtain⟨_,_,_,hi2,_⟩:=p;obtain⟨_,_,_,hi',_⟩:=p';have hz:=hi'.1;rw[q,hi2.2.1] at hz;have:=aaJ Obj.cls (aax hz);cases this
theorem gP.at{x dx:Addr}{cs:acu}(p:gP CP h D ri x dx cs):h.get? x=some (instObj CP dx):=by refine nb λnn=>?_;obtain⟨_,_,_,hi,_⟩:=p;exact nn<|hi.1
theorem gP.other{x x' dx O7:Addr}{cs:acu}(p:gP CP h D ri x dx cs)(e:O7=dx)(hx:h.get? x'=some (instObj CP dx)):gP CP h D ri x' O7 cs:=by obtain⟨es,n,vals,hi,df⟩:=p;exact⟨es,n,vals,⟨by exact rl e hx,by exact rl e (hi.2.1),hi.2.2⟩,df⟩
theorem HU(M:Meth C CP "reduce_coefficients" fR)(PR:RA C CP fR ri q k)(hq:0<q)(hk:Γ.k=k+1)(hel:Γ.env.kindOf "ele"=some .local)(hcl:∀y,Γ.env.cells.lookup y=none)
 (hf:gX (.Name "ele" p1) "reduce_coefficients" Γ.env p2 p3 0) (hint:interactive Γ.env=false) (hsw:swapsWith (.Call (.Attribute (.Name "ele" p1) "reduce_coefficients" p2) [] [] p3) none p4.line Γ.env=pure false) (Y:acq) (all:List vH)
 (hY:∀t∈all,t.1∈Y/\t.2.1∈Y) (hcs:∀t∈all,∀t'∈all,t.2.1=t'.2.1->t.2.2=t'.2.2) (hlen:∀t∈all,t.2.2.length<=900) (t:vH) (ht:t∈all) (todo:List vH) (vs:aC) (hv:vs.lookup ("ele":Str)=some (.v (zd t))) :
 O8 C Γ Y (Je CP ri q all (t::todo)) vs [.Expr (.Call (.Attribute (.Name "ele" p1) "reduce_coefficients" p2) [] [] p3) p4] (Je CP ri q all todo) vs:=by
 refine y_ (λA s W G I F hYk OV=>?_) Cu;have hn:Ev C Γ vs (.Name "ele" p1) (zd t):=fV (c6 hel hv) J;refine wpAny_Expr_any (gx hf J J λpl=>(hn.use G I F λa aq bx a_ aF aU=>?_)) hint hsw;refine rl bx.oZ.1 ?_;refine nb λnn=>?_;obtain⟨h1,h2⟩:=OV t ht;have yx:=hYk _ (hY t ht).1;have yd:=hYk _ (hY t ht).2;have nt:∀{z},C.H.objs.size<=z->z∉C.tabs:=λh=>aX I h;obtain⟨cs',Yi,hl',hp⟩:∃cs',b_ q cs'=b_ q t.2.2/\cs'.length<=900/\gP CP s.heap (W++Γ.Do) ri t.1 t.2.1 cs':=by
  rcases h1 with h1 |h1
  .exact⟨_,J,hlen t ht,h1⟩
  .exact⟨_,D6 hq _,by rw[b_,aai];exact hlen t ht,h1⟩
 have Ct:∀{av:Shared},bL C [] s av->∀(t:vH)(cs:acu),t∈all->gP CP s.heap (W++Γ.Do) ri t.1 t.2.1 cs->gP CP av.heap (W++Γ.Do) ri t.1 t.2.1 cs:=λts t cs ht p=>
  p.dJ ts F.cj n0 ⟨(λq=>nomatch q),nt (hYk _ (hY t ht).1).2.2.2⟩ ⟨(λq=>nomatch q),nt (hYk _ (hY t ht).2).2.2.2⟩ λd hd=>.inl hd
 have dn:Den aq.heap [] (.ref t.1) (.inst none CP ([("parent",ri),("coeffs",iv cs')])):=by refine nb λnn=>?_;obtain⟨es,m0,vals,hi,df⟩:=Ct a_ _ _ ht hp;exact nn<|.inst none t.1 t.2.1 CP es m0 vals _ (λ_ q=>nomatch q) hi (λq=>nomatch q) (λq=>nomatch q) (df.kept (W:=[]) (D':=[]) (λ_ _ _ e=>e) n0 n0)
 refine nn<|xP (D:=[]) M J aF dn (eO (by rfl) (ak.args G aF aU λvals av bG aY bu=>⟨M.kps av (W++Γ.Do) _ bu (.bZ _ J),?_⟩))
 obtain rfl:=bG.g7;have uy:=a_.then aY;have bO:=F.dJ I uy;have p2:=Ct uy _ _ ht hp;refine wpAny_call (abm (PR (hk▸G) bu bO.mw p2 yx.2.2.2 yd.2.2.2 hl' (aad _ yd.1)) λr bH bI=>?_);refine nb λnn=>?_;obtain⟨b,e,p3,cW,ez⟩:=bI;subst e;replace p3:=Yi▸p3;refine nn<|⟨J,W,λd q=>.inl q,bO.jj (Z:=[t.2.1]) bu cW (m1 yd.1) (m1 yd.2.1) (λy c hc=>by replace hc:=(hcl ..)▸hc;cases hc),(uy.up.eS cW).weak (m1 (aah _ (hY t ht).2)),ez,λt' ht'=>?_⟩
 obtain⟨g1,g2⟩:=OV t' ht';have nx':=nt (hYk _ (hY t' ht').1).2.2.2;have nd':=nt (hYk _ (hY t' ht').2).2.2.2;by_cases hd:t'.2.1=t.2.1
 .have done:gP CP bH.heap (W++Γ.Do) ri t'.1 t'.2.1 (b_ q t'.2.2):=by
   refine rl (hcs t' ht' t ht hd) ?_;have at2:t'.1≠t.2.1/\av.heap.get? t'.1=some (instObj CP t'.2.1):=g1.elim (λp=>⟨p2.ne (Ct uy _ _ ht' p),(Ct uy _ _ ht' p).at⟩) λp=>⟨p2.ne (Ct uy _ _ ht' p),(Ct uy _ _ ht' p).at⟩;exact p3.other hd (hd▸cW.keep _ _ (λq=>(aag.mp q).elim (λz=>at2.1 (aam.mp z)) nx') at2.2)
  exact⟨.inr done,λ_=>done⟩
 .have mv:∀{cs},gP CP s.heap (W++Γ.Do) ri t'.1 t'.2.1 cs->gP CP bH.heap (W++Γ.Do) ri t'.1 t'.2.1 cs:=λ{cs} p=>by
   have p':=Ct uy _ _ ht' p;exact p'.dJ cW F.cj (m1 (.inl (aad _ yd.1))) ⟨λq=>p2.ne p' (aam.mp q),nx'⟩ ⟨λq=>hd (aam.mp q),nd'⟩ λd hd=>.inl hd
  exact⟨g1.imp mv mv,λq=>mv (g2 λz=>(aap.mp z).elim (λz=>hd (by exact rl z J)) q)⟩
end
theorem Lb{σ:Type}{C:Cx}{Γ:Gm}{Do Y:acq}{t:Expr}{body:acr}{mk:σ->MV}{Ψ:List σ->acq->Heap->Prop}:∀{ms:List σ}{vs vs':aC},D5 C Γ Y t body mk Ψ ms vs vs'->D5 C (cz Γ Do) Y t body mk Ψ ms vs vs':=by
 intro ll
 induction ll with
 |nil=>
  intro _ _ h;exact h
 |cons m ms ih=>
  intro vs vs' Qz;obtain⟨fK,dG,h1,h2,h3⟩:=Qz;exact⟨fK,dG,h1,h2,ih h3⟩
noncomputable def N9(C:Cx)(CM CP CR fR:Addr)(k:Nat):Prop:=∀(mo:MV)(r?:acn)(q:Int)(n:Nat)(hq:0<q)(TR:List (List vH))(tr:Bool)(Y:acq)(hY:∀t∈TR.flatten,t.1∈Y/\t.2.1∈Y)(hcs:∀t∈TR.flatten,∀t'∈TR.flatten,t.2.1=t'.2.1->t.2.2=t'.2.2)(hlen:∀t∈TR.flatten,t.2.2.length<=900){A:Around}{s:Shared}{D:acq}{vm:Value}(G:Good (k+2) A)(I:Inv C s)(dk:lg C D s.heap)(My:∀L∈Y,L∈D/\C.H.objs.size<=L)(dm:Den s.heap D vm (qc CM mo TR tr))(hP:∀t∈TR.flatten,gP CP s.heap D (ay CR r? q n) t.1 t.2.1 t.2.2),
 codeAny (model P0 C.w) A (.call (.ref fR) ⟨[vm],[]⟩) (λr s'=>∃a,r = .ok (.ret a)/\Den s'.heap D a (qc CM mo TR tr)/\(∀t∈TR.flatten,gP CP s'.heap D (ay CR r? q n) t.1 t.2.1 (b_ q t.2.2))/\bL C Y s s'/\Inv C s') s
theorem AZ{C:Cx}{CM CP CR fR fM:Addr}{qual:Str}{st:Stmt}{k:Nat}{p1 p2 p3 p4 q1 q2 q3 q4 q5 q6 q7 q8 q9:Pos}(hfn:FnAt C fM qual .none st)
 (hB:o5 st=[.For (.Name "row" q1) (.Attribute (.Name "self" q2) "_data" q3) [.For (.Name "ele" q4) (.Name "row" q5) [.Expr (.Call (.Attribute (.Name "ele" p1) "reduce_coefficients" p2) [] [] p3) p4] [] q6] [] q7,.Return (some (.Name "self" q8)) q9]) (hsc:gw (mq st) ["self"]=true)
 (hps:yl (Eu st) ["self"]) (hk:∀x:Str,x="self"\/x="row"\/x="ele"->(mq st).names.lookup x=some NameKind.local) (hcl:∀L,cellsFrom (L+1) (mq st).names []=[])
 (hf:∀env,gX (.Name "ele" p1) "reduce_coefficients" env p2 p3 0) (hint:∀L bh,interactive (envOfC qual (mq st) L fM bh)=false) (hsw:∀L bh,swapsWith (.Call (.Attribute (.Name "ele" p1) "reduce_coefficients" p2) [] [] p3) none p4.line (envOfC qual (mq st) L fM bh)=pure false)
 (M:Meth C CP "reduce_coefficients" fR) (fd:Bh C CM "_data") (PR:∀(r?:acn)(q:Int)(n:Nat),0<q->RA C CP fR (ay CR r? q n) q k):N9 C CM CP CR fM k:=by
 intro mo r? q n hq TR tr Y hY hcs hlen A s D vm G I dk My dm hP;refine nb λnn=>?_;obtain⟨oc,od,kJ,kV,doc,pm,an,bh,ct,ho,h_⟩:=hfn.at_;have nt:∀{z},C.H.objs.size<=z->z∉C.tabs:=λh=>aX I h;refine nn<|jR (k:=k+1) (Wx:=[]) (vs:=[("self",.v (qc CM mo TR tr))]) G I dk ho h_ (binds:=[("self",vm)]) (.of_eq (hps _ _ _)) (.cons dm .nil) n0 (.EW (bs:=[("self",_)])) hsc λL aq W hL G' aF aU a_ hW=>?_
 refine rl hB ?_;have W0:∀d∈W,s.heap.objs.size<=d:=λd hd=>(hW d hd).elim (λq=>nomatch q) id;generalize hΓ:((gF (k+1) qual (mq st) L fM bh D):Gm)=Γ at aU;have eD:Γ.Do=D:=by subst hΓ;rfl
 have loc:∀x:Str,x="self"\/x="row"\/x="ele"->Γ.env.kindOf x=some .local:=λx h=>by subst hΓ;exact hk x h
 have rs:=λDo ts=>HU (Γ:=cz Γ Do) (p1:=p1) (p2:=p2) (p3:=p3) (p4:=p4) M (PR r? q n hq) hq (by subst hΓ;rfl) (loc "ele" (.inr (.inr J))) (λy=>by subst hΓ;show(cellsFrom (L+1) (mq st).names []).lookup y=none;refine rl (hcl ..) ?_;rfl) (hf _) (by subst hΓ;exact hint L bh) (by subst hΓ;exact hsw L bh) Y TR.flatten hY hcs hlen ts;have yk:Qd C Γ W aq Y:=λz hz=>⟨by exact rl eD (((My z hz).1)),λq=>absurd (dk.hi z (My z hz).1) (aaw.mpr (W0 z q)),aao (dk.hi z (My z hz).1) a_.size,(My z hz).2⟩;have Cv:Je CP (ay CR r? q n) q TR.flatten TR.flatten (W++Γ.Do) aq.heap:=ua hY D (W++Γ.Do) [] s aq (λt ht=>⟨.inl (hP t ht),λq=>absurd ht q⟩) I a_ dk.tabs n0 (λz hz=>⟨(λq=>nomatch q),nt (My z hz).2⟩) λd hd=>(aag.mp hd).elim (λq=>.inr (W0 d q)) λq=>.inl (by replace q:=eD▸q;exact q);refine nb λnn=>?_;obtain⟨vs',HF,R'⟩:=ze (C:=C) (Y:=Y) (Γ:=Γ) (t:=.Name "row" q1) (body:=[.For (.Name "ele" q4) (.Name "row" q5) [.Expr (.Call (.Attribute (.Name "ele" p1) "reduce_coefficients" p2) [] [] p3) p4] [] q6]) (mk:=lU) (Ψ:=λrows=>Je CP (ay CR r? q n) q TR.flatten rows.flatten) (λvs=>vs.lookup ("self":Str)=some (.v (qc CM mo TR tr))) TR [("self",.v (qc CM mo TR tr))] J (λvs ts rest hR bI=>by
  obtain⟨pre,e⟩:=bI;have hsub:∀t∈ts,t∈TR.flatten:=λt ht=>List.mem_flatten.mpr ⟨ts,by exact rl e ((aad _ (.head _))),ht⟩;have l0:∀z w,(aG vs "row" w).lookup z=if z=("row":Str) then some w else vs.lookup z:=λz w=>au vs "row" w z
  obtain⟨dG,H1,R1⟩:=ze (C:=C) (Y:=Y) (Γ:=Γ) (t:=.Name "ele" q4) (body:=[.Expr (.Call (.Attribute (.Name "ele" p1) "reduce_coefficients" p2) [] [] p3) p4]) (mk:=zd) (Ψ:=λts'=>Je CP (ay CR r? q n) q TR.flatten (ts'++rest.flatten)) (λvs=>vs.lookup ("self":Str)=some (.v (qc CM mo TR tr))) ts (aG vs "row" (.v (lU ts))) ((l0 _ _).trans hR) (λvs t ts' hR bI=>by
   obtain⟨pre,e⟩:=bI;have l1:∀z w,(aG vs "ele" w).lookup z=if z=("ele":Str) then some w else vs.lookup z:=λz w=>au vs "ele" w z
   exact⟨aG vs "ele" (.v (zd t)),aG vs "ele" (.v (zd t)),λDo=>cH (.inl (loc "ele" (.inr (.inr J)))),λDo=>rs Do t (hsub t (by exact rl e ((aad _ (.head _))))) (ts'++rest.flatten) _ ((l1 _ _).trans (aaN J)),(l1 _ _).trans hR⟩)
  refine⟨aG vs "row" (.v (lU ts)),dG,λDo=>cH (.inl (loc "row" (.inr (.inl J)))),λDo=>y_ (zb (C:=C) (Γ:=cz Γ Do) (Ψ:=λts'=>Je CP (ay CR r? q n) q TR.flatten (ts'++rest.flatten)) (λms=>ua hY) (bK (fV (c6 (loc "row" (.inr (.inl J))) ((l0 _ _).trans (aaN J))) J)) (Lb H1) (λq=>nomatch q) (λ_=>rfl)) Cu,R1⟩)
 have HX:N8 C Γ Y (Je CP (ay CR r? q n) q TR.flatten TR.flatten) [("self",.v (qc CM mo TR tr))] (.For (.Name "row" q1) (.Attribute (.Name "self" q2) "_data" q3) [.For (.Name "ele" q4) (.Name "row" q5) [.Expr (.Call (.Attribute (.Name "ele" p1) "reduce_coefficients" p2) [] [] p3) p4] [] q6] [] q7) (Je CP (ay CR r? q n) q TR.flatten []) vs':=
  zb (Ψ:=λrows=>Je CP (ay CR r? q n) q TR.flatten rows.flatten) (λms=>ua hY) (bK (aV (fV (c6 (loc "self" (.inl J)) J) J) fd J J J)) HF (λq=>nomatch q) (λ_=>rfl)
 have e1:envOfC qual (mq st) L fM bh=Γ.env:=by subst hΓ;rfl
 have G₁:Good Γ.k (A.deeper Γ.env):=by subst hΓ;exact G'
 refine nn ?_;refine rl e1 ?_;refine aas (cS (HX _ aq W G₁ aF aU yk Cv) λf av bI=>?_);obtain⟨hf,W',hW',bO,aY,bu,za⟩:=bI;subst hf;have HR:Ev C Γ vs' (.Name "self" q8) (qc CM mo TR tr):=fV (c6 (loc "self" (.inl J)) R') J;refine aas (abX (HR.use G₁ bu bO λa bH d₃ cW ez iz=>?_));have T:bL C Y s bH:=a_.trans (aY.eS cW.up) n0 λd hd=>(aag.mp hd).imp id (W0 d);rw[eD] at d₃ za;have dt:∀d∈C.tabs,d∈W'++D:=eD▸bO.cj;refine⟨a,J,d₃.kept (W:=[]) (λ_ _ _ e=>e) n0 (λd hd=>.inl (aad _ hd)),λt ht=>?_,T,ez⟩;exact((za t ht).2 (λq=>nomatch q)).dJ cW dt n0 ⟨(λq=>nomatch q),nt (My _ (hY t ht).1).2⟩ ⟨(λq=>nomatch q),nt (My _ (hY t ht).2).2⟩ λd hd=>.inl (aad _ hd)
theorem qd{C:Cx}{N:Nm}(S:SF C N){k:Nat}:N9 C N.CM N.CP N.CR (N.a 28) k:=by
 refine AZ S.QY J J (λ_ _ _=>rfl) ?a ?b ?c ?d ?e S.Ng S.J9 λr? q n hq {A s D x dx cs} G I dk hp hx hdx hl Ry=>uM S r? q n (zQ hq) G I dk hp hx hdx hl Ry
 case c=>exactλ_=>rfl
 case a=>
  intro x h;rcases h with rfl |rfl |rfl<;>rfl
 case b=>intro L;rfl
 case d=>intro L bh;rfl
 case e=>intro L bh;rfl
theorem A0{CP:Addr}(cs:acu):nX CP (iv cs)=true:=show qE CP _=true from m8 (aaM.mpr λ_ _=>rfl)
theorem Cw{CP:Addr}(TR:List (List vH)):qE CP (TR.map lU)=true:=m8 (aaM.mpr λts _=>show qE CP _=true from m8 (aaM.mpr λ_ _=>rfl))
inductive RB(h:Heap)(D:acq)(CM:Addr)(mo:MV)(L:acw)(tr:Bool):Value->Prop
 |mk (m:Addr) (items:acp):bD h D items L->(∀L',bD h D items L'->Den h D (.ref m) (.inst none CM [("parent",mo),("_data",.lst L'),("_transpose",.bool tr)]))->RB h D CM mo L tr (.ref m)
theorem Cy{h:Heap}{D:acq}{CM:Addr}{mo:MV}{L:acw}{tr:Bool}{a:Value}(d:Den h D a (.inst none CM [("parent",mo),("_data",.lst L),("_transpose",.bool tr)])):RB h D CM mo L tr a:=by
 cases d.eU with
 |mk m dm es n0 vals ex hi nx nd df=>
  cases df.d8 with |mk dp df1=>
  cases df1.d8 with |mk dd df2=>
  cases df2.d8 with |mk dt df3=>
  obtain rfl:=df3.g7;cases dd.jW with
  |mk la items n1 hg na ds=>exact⟨m,items.toList,ds,λL' e=>.inst none m dm CM es n0 _ _ (λ_ q=>nomatch q) hi nx nd (.cons dp (.cons (.lst la items n1 _ hg na e) (.cons dt .nil)))⟩
theorem uc{C:Cx}{CM CP CR fR:Addr}(MR:Meth C CM "reduce_coefficients" fR)(RC:∀{mo:MV},nX CP mo=true->∀TR tr,nX CP (qc CM mo TR tr)=true)(RD:∀r? q n cs,yZ CP [("parent",ay CR r? q n),("coeffs",iv cs)]=true){Γ:Gm}{k:Nat}(Yj:N9 C CM CP CR fR k)(hk:Γ.k=k+2){vs vs':aC}{o:Expr}{apos pos:Pos}(mo:MV)(hmo:nX CP mo=true)(r?:acn)(q:Int)(n:Nat)(hq:0<q)(rows:Rows)(tr:Bool)(hlen:∀r∈rows,∀cs∈r,cs.length<=900)
 (hsub:∀x st,vs'.lookup x=some st->vs.lookup x=some st) (hnp:∀x st,vs'.lookup x=some st->∃m,st = .v m/\nX CP m=true) (H:∀Do,Ev C (cz Γ Do) vs' o (fT CM CP mo (ay CR r? q n) rows tr)) (he:gX o "reduce_coefficients" Γ.env apos pos 0) :
 Ev C Γ vs (.Call (.Attribute o "reduce_coefficients" apos) [] [] pos) (fT CM CP mo (ay CR r? q n) (rows.map λr=>r.map (b_ q)) tr):=λA s W G I F=>by
 have F':=(F.sub hsub).AX (CP:=CP) hnp;refine gx he J J λpl=>((H (kh CP s.heap++Γ.Do)).use G I F' λa aq bx a_ aF aU=>xP MR J aF bx (eO (by rfl) (ak.args (Γ:=cz Γ (kh CP s.heap++Γ.Do)) G aF aU λvals av bG aY bu=>⟨MR.kps av (W++Γ.Do) _ bu (.bZ _ J),?_⟩)));obtain rfl:=bG.g7;have uy:=a_.then aY;have bO:=F'.dJ I uy;have bG:Den av.heap (W++(kh CP s.heap++Γ.Do)) a (fT CM CP mo (ay CR r? q n) rows tr):=bx.dJ aF aY aU.cj;refine nb λnn=>?_;cases Cy bG with
 |mk m items ds re=>
 obtain⟨TR,e1,e2,e3⟩:=HP ds;have mem:∀{t},t∈TR.flatten->∃ts∈TR,t∈ts:=λh=>List.mem_flatten.mp h;have P2:∀t∈TR.flatten,gP CP av.heap (W++(kh CP s.heap++Γ.Do)) (ay CR r? q n) t.1 t.2.1 t.2.2/\t.1∉W++(kh CP s.heap++Γ.Do)/\t.2.1∉W++(kh CP s.heap++Γ.Do):=λt ht=>by obtain⟨ts,h1,h2⟩:=mem ht;exact e3 ts h1 t h2
 have fr:∀t∈TR.flatten,s.heap.objs.size<=t.1/\s.heap.objs.size<=t.2.1:=λt ht=>by obtain⟨⟨es,n,vals,hi,df⟩,nx,nd⟩:=P2 t ht;exact AY I uy F'.cj (λd hd=>aad _ (aah _ hd)) hi nx nd df J
 refine nn ?_;have PA:∀d∈(TR.flatten.map λt=>t.1)++TR.flatten.map λt=>t.2.1,d<av.heap.objs.size/\lS CP av.heap d/\s.heap.objs.size<=d:=λd hd=>by
  refine nb λnn=>?_;rcases aag.mp hd with q |q
  .obtain⟨t,ht,rfl⟩:=aan.mp q
   obtain⟨⟨es,n,vals,hi,df⟩,_⟩:=P2 t ht;exact nn<|⟨aaB hi.1,.inr (.inl ⟨_,hi.1⟩),(fr t ht).1⟩
  .obtain⟨t,ht,rfl⟩:=aan.mp q
   obtain⟨⟨es,n,vals,hi,df⟩,_⟩:=P2 t ht;refine nn<|⟨aaB hi.2.1,.inr (.inr ⟨es,n,hi.2.1,?_⟩),(fr t ht).2⟩
   rw[hi.2.2.1];obtain⟨v,hv,_⟩:=df.lookup (x:="coeffs") J;refine rl hv ?_
   exactλq=>nomatch q
 generalize hYd:((TR.flatten.map λt=>t.1)++TR.flatten.map λt=>t.2.1)=Y at PA;have hY:∀t∈TR.flatten,t.1∈Y/\t.2.1∈Y:=λt ht=>by refine rs hYd ?_;exact⟨aah _ (abG ht),aad _ (abG (f:=λt:vH=>t.2.1) ht)⟩
 have more:∀d∈Y++(W++Γ.Do),d∈W++(kh CP s.heap++Γ.Do)\/lS CP av.heap d:=λd hd=>by
  rcases aag.mp hd with q |q
  .exact .inr (PA d q).2.1
  .rcases aag.mp q with q |q
   .exact .inl (aah _ q)
   .exact .inl (aad _ (aad _ q))
 have dk:lg C (Y++(W++Γ.Do)) av.heap:=by obtain⟨h1,h2,h3⟩:=(F.dJ I uy).mw;exact⟨λd hd=>aad _ (h1 d hd),λd hd=>(aag.mp hd).elim (λq=>(PA d q).1) (h2 d),h3⟩
 have draw:Den av.heap (Y++(W++Γ.Do)) (.ref m) (qc CM mo TR tr):=
  Den.AX (CP:=CP) more (m:=qc CM mo TR tr) (re _ e2) (RC hmo TR tr)
 have Yk:∀t∈TR.flatten,gP CP av.heap (Y++(W++Γ.Do)) (ay CR r? q n) t.1 t.2.1 t.2.2:=λt ht=>by refine nb λnn=>?_;obtain⟨⟨es,n,vals,hi,df⟩,_⟩:=P2 t ht;exact nn<|⟨es,n,vals,hi,dF.AX (CP:=CP) more df (RD r? q _ _)⟩
 have hl:∀t∈TR.flatten,t.2.2.length<=900:=λt ht=>by obtain⟨ts,h1,h2⟩:=mem ht;exact hlen (ts.map λt=>t.2.2) (by exact rs e1 ((abG (f:=λts:List vH=>ts.map λt=>t.2.2) h1))) _ (abG (f:=λt:vH=>t.2.2) h2)
 have G2:Good (k+2) A:=hk▸G;refine wpAny_call (abm (Yj mo r? q n hq TR tr Y hY (λt ht t' ht' e=>(P2 t ht).1.Rz (e▸(P2 t' ht').1)) hl G2 bu dk (λz hz=>⟨aah _ hz,aaf I.size (PA z hz).2.2⟩) draw Yk) λr bH bI=>?_);obtain⟨b,e,d₃,p₃,cW,ez⟩:=bI;subst e;have T:bL C [] s bH:=uy.trans cW (λ_ q=>nomatch q) λd hd=>.inr (PA d hd).2.2;have less:∀d∈W++Γ.Do,d∈Y++(W++Γ.Do)\/bH.heap.objs.size<=d:=λd hd=>.inl (aad _ hd);have zW:Den bH.heap (W++Γ.Do) b (qc CM mo TR tr):=d₃.kept (W:=[]) (λ_ _ _ e=>e) (λ_ q=>nomatch q) less;refine⟨?_,T,ez⟩;cases Cy zW with
 |mk m items ds re=>
 have ee:(rows.map λr=>r.map (b_ q))=TR.map λts=>ts.map λt=>b_ q t.2.2:=by refine rs e1 (rl aar ?_);refine aaz λts _=>?_;show(ts.map λt=>t.2.2).map (b_ q)=_;refine rl aar ?_;rfl
 refine rl ee ?_;refine re _ (HQ (b_ q) ds λts hts t ht=>?_);have ht':=List.mem_flatten.mpr ⟨ts,hts,ht⟩;refine⟨?_,λq=>absurd (F.hi _ q) (aaw.mpr (fr t ht').1),λq=>absurd (F.hi _ q) (aaw.mpr (fr t ht').2)⟩;refine nb λnn=>?_;obtain⟨es,n,vals,hi,df⟩:=p₃ t ht';exact nn<|⟨es,n,vals,hi,df.kept (W:=[]) (λ_ _ _ e=>e) (λ_ q=>nomatch q) less⟩
theorem D7(r?:acn)(q n:Int):nX kN.CP (ay kN.CR r? q n)=true:=rfl
theorem zf(a:acn)(r?:acn)(q n:Int):nX kN.CP (cK kN.CO a (ay kN.CR r? q n))=true:=rfl
theorem HV{mo:MV}(hmo:nX kN.CP mo=true)(TR:List (List vH))(tr:Bool):nX kN.CP (qc kN.CM mo TR tr)=true:=by show(true&&(nX kN.CP mo&&(qE kN.CP (TR.map lU)&&true)))=true;refine rl (hmo ..) (rl (Cw ..) ?_);rfl
theorem HW(r?:acn)(q n:Int)(cs:acu):yZ kN.CP [("parent",ay kN.CR r? q n),("coeffs",iv cs)]=true:=by show(true&&(nX kN.CP (iv cs)&&true))=true;refine rl (A0 ..) ?_;rfl
theorem xe{C:Cx}(S:SF C kN){Γ:Gm}{k:Nat}(hk:Γ.k=k+2){vs vs':aC}{o:Expr}{apos pos:Pos}(mo:MV)(hmo:nX kN.CP mo=true)(r?:acn)(q:Int)(n:Nat)(hq:0<q)(rows:Rows)(tr:Bool)(hlen:∀r∈rows,∀cs∈r,cs.length<=900)
 (hsub:∀x st,vs'.lookup x=some st->vs.lookup x=some st) (hnp:∀x st,vs'.lookup x=some st->∃m,st = .v m/\nX kN.CP m=true) (H:∀Do,Ev C (cz Γ Do) vs' o (fT kN.CM kN.CP mo (ay kN.CR r? q n) rows tr)) (he:gX o "reduce_coefficients" Γ.env apos pos 0) :
 Ev C Γ vs (.Call (.Attribute o "reduce_coefficients" apos) [] [] pos) (fT kN.CM kN.CP mo (ay kN.CR r? q n) (rows.map λr=>r.map (b_ q)) tr):=
 uc S.FU (λh=>HV h) HW (qd S) hk mo hmo r? q n hq rows tr hlen hsub hnp H he
theorem D8(r?:acn)(q n:Int):nX dN.CP (ay dN.CR r? q n)=true:=rfl
theorem zg(a:acn)(r?:acn)(q n:Int):nX dN.CP (cK dN.CO a (ay dN.CR r? q n))=true:=rfl
theorem HY{mo:MV}(hmo:nX dN.CP mo=true)(TR:List (List vH))(tr:Bool):nX dN.CP (qc dN.CM mo TR tr)=true:=by show(true&&(nX dN.CP mo&&(qE dN.CP (TR.map lU)&&true)))=true;refine rl (hmo ..) (rl (Cw ..) ?_);rfl
theorem HZ(r?:acn)(q n:Int)(cs:acu):yZ dN.CP [("parent",ay dN.CR r? q n),("coeffs",iv cs)]=true:=by show(true&&(nX dN.CP (iv cs)&&true))=true;refine rl (A0 ..) ?_;rfl
theorem xg{C:Cx}(S:SF C dN){Γ:Gm}{k:Nat}(hk:Γ.k=k+2){vs vs':aC}{o:Expr}{apos pos:Pos}(mo:MV)(hmo:nX dN.CP mo=true)(r?:acn)(q:Int)(n:Nat)(hq:0<q)(rows:Rows)(tr:Bool)(hlen:∀r∈rows,∀cs∈r,cs.length<=900)
 (hsub:∀x st,vs'.lookup x=some st->vs.lookup x=some st) (hnp:∀x st,vs'.lookup x=some st->∃m,st = .v m/\nX dN.CP m=true) (H:∀Do,Ev C (cz Γ Do) vs' o (fT dN.CM dN.CP mo (ay dN.CR r? q n) rows tr)) (he:gX o "reduce_coefficients" Γ.env apos pos 0) :
 Ev C Γ vs (.Call (.Attribute o "reduce_coefficients" apos) [] [] pos) (fT dN.CM dN.CP mo (ay dN.CR r? q n) (rows.map λr=>r.map (b_ q)) tr):=
 uc S.FU (λh=>HY h) HZ (qd S) hk mo hmo r? q n hq rows tr hlen hsub hnp H he
noncomputable def eH(P:Around->Prop)(C:Cx)(Γ:Gm)(vs:aC)(ss:acr)(v:MV):Prop:=
 ∀A s W,P A->Good Γ.k A->Inv C s->Fm C Γ W s.heap vs->wpAny (model P0 C.w) A (execs ss Γ.env) (uS C Γ W s v) ig s
section
variable{C:Cx}{Γ:Gm}{W D X:acq}{s s' aq av:Shared}{vs vs' fK:aC}{h:Heap}{P:Around->Prop}{st:Stmt}{ss:acr}{v:MV}{x:Str}{l:acw}{a:Addr}{fl:Fl}
theorem Body.toA(H:Body C Γ vs ss v):eH P C Γ vs ss v:=λA s W _ G I F=>H A s W G I F
theorem bS(gE:gq C Γ vs st .next vs')(iI:eH P C Γ vs' ss v):eH P C Γ vs (st::ss) v:=λA s W p G I F=>
 aas (cS (gE A s W G I F) λf aq bI=>by obtain⟨fP,kZ,hf,aU,a_,aF⟩:=bI;have:=Bg.ji hf;subst this;exact cS (iI A aq fP p G aF aU) λf av x=>x.trans kZ a_)
theorem D9(H:uE C Γ vs st x l)(T:∀a,eH P C Γ (aG vs x (.own a l)) ss v):eH P C Γ vs (st::ss) v:=λA s W p G I F=>
 aas (cS (H A s W G I F) λf aq bI=>by obtain⟨hf,a,ha,aU,a_,aF⟩:=bI;subst hf;exact cS (T a A aq _ p G aF aU) λf av x=>x.trans (λd hd=>(aap.mp hd).elim (λq=>.inr (by exact rl q ha)) .inl) a_)
theorem jN(hv:vs.lookup x=some (.own a l))(hx:Γ.env.kindOf x=some .local)(T:eH P C Γ (aG vs x (.v (.lst l))) ss v):eH P C Γ vs ss v:=λA s W p G I F=>
 cS (T A s _ p G I (F.freeze hv hx)) λf aq bI=>by obtain⟨h1,h2,h3⟩:=bI;exact⟨h1,h2.weak λd hd=>(aaG.mp hd).1,h3⟩
theorem k7(hs:∀x st,vs'.lookup x=some st->vs.lookup x=some st)(T:eH P C Γ vs' ss v):eH P C Γ vs ss v:=λA s W p G I F=>T A s W p G I (F.sub hs)
theorem Fm.tag{Cc:Addr}{fs:acj}(F:Fm C Γ W h vs)(hv:vs.lookup x=some (.v (.inst none Cc fs)))(hk:Γ.env.kindOf x=some .local):∃b,Fm C Γ W h (aG vs x (.v (.inst (some b) Cc fs))):=by
 refine nb λnn=>?_;obtain⟨mm,hn,hl⟩:=F.ns;obtain⟨a,ha,d⟩:=hl x _ hv hk;have d':Den h (W++Γ.Do) a (.inst none Cc fs):=d;cases d'.eU with
 |mk b dx es n vals ex hi nx nd df=>
  refine nn<|⟨b,?_⟩
  have dt:Den h (W++Γ.Do) (.ref b) (.inst (some b) Cc fs):=.inst (some b) b dx Cc es n vals fs (λ_ q=>(aax q).symm) hi nx nd df;refine⟨F.kind,F.glob,F.bi,⟨mm,hn,λy st hy jP=>?_⟩,λy st hy jP=>?_,F.zS,F.lW,F.tabs,F.lo,F.hi,F.apart,F.cI,F.fY,λy st c hy hc=>?_,λy z st jg c hy hz hc jV=>?_⟩
  .replace hy:=(au ..)▸hy
   split at hy
   .rename_i q;subst q;cases hy;exact⟨_,ha,dt⟩
   .exact hl y st hy jP
  .replace hy:=(au ..)▸hy
   split at hy
   .rename_i q;subst q;replace jP:=hk▸jP;rcases jP with q |q<;>cases q
   .exact F.cell y st hy jP
  .replace hy:=(au ..)▸hy
   split at hy
   .refine nb λnn=>?_
    cases hy;cases hc
   .exact F.gH y st c hy hc
  .rw[au] at hy hz
   split at hy
   .cases hy
    refine nb λnn=>?_;cases hc
   .split at hz
    .cases hz;cases jV
    .exact F.iY y z st jg c hy hz hc jV
theorem vI{Cc:Addr}{fs:acj}(hv:vs.lookup x=some (.v (.inst none Cc fs)))(hk:Γ.env.kindOf x=some .local)(T:∀b,eH P C Γ (aG vs x (.v (.inst (some b) Cc fs))) ss v):eH P C Γ vs ss v:=λA s W p G I F=>by obtain⟨b,F'⟩:=F.tag hv hk;exact T b A s W p G I F'
theorem qe{Cc b0:Addr}{fs gs:acj}{e:Expr}{y:Str}{p p':Pos}(hy:vs.lookup y=some (.v (.inst (some b0) Cc gs)))(hyk:Γ.env.kindOf y=some .local)(hk:Γ.env.kindOf x=some .local)(hsub:∀x st,fK.lookup x=some st->vs.lookup x=some st)(hnp:∀x st,fK.lookup x=some st->∃m,st = .v m/\nX Cc m=true)
 (H:∀Do,Ev C (cz Γ Do) fK e (.inst none Cc fs)) (hs:swapsWith e (some (.Name x p')) p.line Γ.env=pure false) (T:∀b,b≠b0->eH P C Γ (aG vs x (.v (.inst (some b) Cc fs))) ss v):eH P C Γ vs (.Assign [.Name x p'] e p::ss) v:=λA s W pA G I F=>by
 have F':=(F.sub hsub).AX (CP:=Cc) hnp;have hb0:b0∈kh Cc s.heap:=by
  obtain⟨mm,hn,hl⟩:=F.ns;obtain⟨a,ha,d⟩:=hl y _ hy hyk;have d':Den s.heap (W++Γ.Do) a (.inst (some b0) Cc gs):=d;cases d'.eU with
  |mk b dx es n vals ex hi nx nd df=>
   have:=ex b0 J;subst this;exact k6.mpr ⟨aaB hi.1,.inr (.inl ⟨_,hi.1⟩)⟩
 refine aas (ab_ ((H (kh Cc s.heap++Γ.Do)).use G I F' λa aq bx a_ aF aU=>?_) hs);cases bx.eU with
 |mk b dx es n vals ex hi nx nd df=>
 have nb:b≠b0:=λq=>nx (aad _ (aah _ (q▸hb0)));have up:∀d∈W++Γ.Do,d∈W++(kh Cc s.heap++Γ.Do):=λd hd=>(aag.mp hd).elim (λq=>aah _ q) λq=>aad _ (aad _ q);have dt:Den aq.heap (W++Γ.Do) (.ref b) (.inst (some b) Cc fs):=.inst (some b) b dx Cc es n vals fs (λ_ q=>(aax q).symm) hi (λq=>nx (up _ q)) (λq=>nd (up _ q)) (df.kept (W:=[]) (λ_ _ _ e=>e) n0 λd hd=>.inl (up d hd));refine jQ (.inl hk) G aF (F.dJ I a_) dt λav bO aY bu=>?_;exact cS (T b nb A av W pA G bu bO) λf bH z=>z.trans (λd q=>.inl q) (a_.up.eS aY)
end
theorem lV{C:Cx}{N:Nm}(S:SF C N){k:Nat}(q n:Int):bJ C (k+2) (.ref N.CR) [.int q,.int n] [] (ay N.CR none q n):=by
 refine nb λnn=>?_;obtain⟨oc,od,kJ,kV,doc,pm,an,bh,ct,ho,h_⟩:=S.DE.at_;refine nn<|nk (k:=k) (bs:=[("q",.int q),("n",.int n)]) S.Af.makes S.Af.find S.Af.ty ho h_ (oG J) (by rfl) (.inl J) (λx dx=>aG (aG (("self",VS.obj x dx N.CR [])::dX [("q",.int q),("n",.int n)]) "self" (.obj x dx N.CR [("q",.int q)])) "self" (.obj x dx N.CR [("q",.int q),("n",.int n)])) (λx dx L D=>?_) (λx dx=>?_)
 .exact aK (gY S.s_q (ao J) J J (aae J) J J) (aK (gY S.s_n (ao J) J J (aae J) J J) aJ)
 .rfl
theorem nO{C:Cx}{N:Nm}(S:SF C N){k:Nat}(ri:MV):bJ C (k+2) (.ref N.CO) [ri] [] (cK N.CO none ri):=by
 refine nb λnn=>?_;obtain⟨oc,od,kJ,kV,doc,pm,an,bh,ct,ho,h_⟩:=S.FY.at_;refine nn<|nk (k:=k) (bs:=[("ring",ri)]) S.FW.makes S.FW.find S.FW.ty ho h_ (oG J) (by rfl) (.inl J) (λx dx=>aG (("self",VS.obj x dx N.CO [])::dX [("ring",ri)]) "self" (.obj x dx N.CO [("ring",ri)])) (λx dx L D=>?_) (λx dx=>?_)
 .exact aK (gY S.Nh (ao J) J J (aae J) J J) aJ
 .rfl
section
set_option tactic.hygienic true
section
variable{C:Cx}{Γ:Gm}{W D X:acq}{s s' aq av:Shared}{vs vs' fK:aC}{h:Heap}{P:Around->Prop}{st:Stmt}{ss:acr}{v:MV}{x:Str}{l:acw}{a:Addr}{fl:Fl}
theorem nP(I:Inv C s){Wk:acq}(t:bL C Wk s s'){b:Addr}{o:Obj}(hg:s.heap.get? b=some o)(hb:C.H.objs.size<=b)(hW:b∉Wk):s'.heap.get? b=some o:=
 t.keep b o (λq=>(aag.mp q).elim hW (aX I hb)) hg
inductive oU(C:Cx)(s s':Shared)(a:Addr):Prop
 |mk {i:aco} {c:Nat} {D:acq}:s.heap.objs.size<=a->s'.heap.get? a=some {cls:=.type "list",data:=.seq i c}->bD s'.heap D i.toList []->bL C [] s s'->Inv C s'->oU C s s' a
inductive RE(C:Cx)(s s':Shared)(x:Value):Prop
 |mk {aq av bH:Shared} {tp:Addr} {items:aco} {a1 a2 a3:Addr}:x = .ref tp->s'.heap.IsTuple tp items->items.toList=[Value.ref a1,.ref a2,.ref a3]->oU C s aq a1->oU C aq av a2->oU C av bH a3->bL C [] bH s'->Inv C s'->RE C s s' x
theorem oU.dJ(h:oU C s s' a):bL C [] s s':=by cases h;assumption
theorem oU.inv(h:oU C s s' a):Inv C s':=by cases h;assumption
theorem oU.ge(h:oU C s s' a):s.heap.objs.size<=a:=by cases h;assumption
theorem oU.lt(h:oU C s s' a):a<s'.heap.objs.size:=by cases h with |mk _ g _ _ _=>exact aaB g
theorem xh{A:Around}{p:Pos}(W:acq)(G:Good Γ.k A)(I:Inv C s)(F:Fm C Γ W s.heap vs):wpAny (model P0 C.w) A (eval (.List [] p) Γ.env) (λx s'=>∃a,x = .ref a/\oU C s s' a) ig s:=
 cS (kP ak (Nat.zero_le _) A s W G I F) λx aq bI=>by obtain⟨⟨d,t,I1⟩,a,e,h⟩:=bI;subst e;cases d.jW with |mk _ i c g na ds=>exact⟨_,J,.mk h g ds t I1⟩
theorem Lc{A:Around}{p1 p2 p3 pos:Pos}{xx:Nat}(G:Good Γ.k A)(I:Inv C s)(F:Fm C Γ W s.heap vs):wpAny (model P0 C.w) A (eval (.Tuple [.List [] p1,.List [] p2,.List [] p3] xx pos) Γ.env) (λx s'=>RE C s s' x) ig s:=by refine wpAny_Tuple_spliced (acf (cS (xh W G I F) λx1 aq h1=>?_) J);obtain⟨a1,rfl,h1⟩:=h1;have F:=F.dJ I h1.dJ;refine acf (cS (xh W G h1.inv F) λx2 av h2=>?_) J;obtain⟨a2,rfl,h2⟩:=h2;have F:=F.dJ h1.inv h2.dJ;refine acf (cS (xh W G h2.inv F) λx3 bH h3=>?_) J;obtain⟨a3,rfl,h3⟩:=h3;exact wpAny_items_nil ⟨by show(3:Nat)<=_;rw[sizeLine];exact aae J,.mk J ⟨_,aa4 _ J,J,_,J⟩ J h1 h2 h3 (iu _) (iw h3.inv _)⟩
theorem Yl{z a:Addr}(h:z≠a):z∉[a]:=λq=>(aap.mp q).elim h (λq=>nomatch q)
theorem ZU{z a b:Addr}(h:z≠a)(h':z≠b):z∉[a,b]:=λq=>(aap.mp q).elim h (Yl h')
theorem A1(F:Fm C Γ W h vs){z:Addr}(hz:h.objs.size<=z){W' E:acq}(h2:z∉W')(h3:z∉E):z∉(W'++W)++(E++Γ.Do):=λq=>by
 rcases aag.mp q with q |q
 .exact(aag.mp q).elim h2 λq=>aaw.mpr hz (F.hi _ (aah _ q))
 .exact(aag.mp q).elim h3 λq=>aaw.mpr hz (F.hi _ (aad _ q))
theorem ud(F:Fm C Γ W h vs){W' E:acq}:∀y c,Γ.env.cells.lookup y=some c->c∈(W'++W)++(E++Γ.Do):=λy c hc=>
 (aag.mp (F.cI y c hc).1).elim (λq=>aah _ (aad _ q)) λq=>aad _ (aad _ q)
inductive H8(C:Cx)(Γ:Gm)(W:acq)(s:Shared)(vs:aC)(n1 n2 n3:Str)(s':Shared):Prop
 |mk {a1 a2 a3:Addr}:s.heap.objs.size<=a1->s.heap.objs.size<=a2->s.heap.objs.size<=a3->Fm C Γ (a1::a2::a3::W) s'.heap (aG (aG (aG vs n3 (.own a3 [])) n2 (.own a2 [])) n1 (.own a1 []))->bL C W s s'->Inv C s'->H8 C Γ W s vs n1 n2 n3 s'
noncomputable abbrev Cz(h:Heap)(a:Addr)(c:Nat):Prop:=h.get? a=some {cls:=.type "list",data:=.seq #[] c}
theorem oU.emp(h:oU C s aq a)(t:bL C [] aq av)(hH:C.H.objs.size<=s.heap.objs.size):∃c,Cz av.heap a c:=by
 cases h with |mk l g ds t1 I1=>
 rename_i i c D;have e:i=#[]:=by
  cases i with |mk l=>cases l with
  |nil=>rfl
  |cons x xs=>cases ds
 subst e;exact⟨c,nP I1 t g (aaf hH l) SV⟩
theorem H9{A:Around}{n1 n2 n3:Str}(k1:Γ.env.kindOf n1=some .local)(k2:Γ.env.kindOf n2=some .local)(k3:Γ.env.kindOf n3=some .local)(G:Good Γ.k A)(I:Inv C s)(F:Fm C Γ W s.heap vs)(ZV:bL C [] s aq)(I5:Inv C aq)
 {a1 a2 a3:Addr} {c1 c2 c3:Nat} (h1:s.heap.objs.size<=a1) (h12:a1<a2) (h23:a2<a3) (l3:a3<aq.heap.objs.size) (e1:Cz aq.heap a1 c1) (e2:Cz aq.heap a2 c2) (e3:Cz aq.heap a3 c3) :
 wpAny (model P0 C.w) A (assignInOrder [bindName Γ.env n3,bindName Γ.env n2,bindName Γ.env n1] [.ref a3,.ref a2,.ref a1]) (λ_ s'=>H8 C Γ W s vs n1 n2 n3 s') ig aq:=by
 have h2:=aaO (aaC h1 h12);have h3:=aaO (aaC h2 h23);have f1:=aaf I.size h1;have f2:=aaf I.size h2;have f3:=aaf I.size h3;have ZW:=abb h12;have ZX:=abb h23;have Ym:=abb (abp h12 h23);have F5:Fm C (cz Γ ([a3,a2,a1]++Γ.Do)) W aq.heap vs:=F.fresh I ZV (X:=[a3,a2,a1]) λd hd=>by
  rcases aap.mp hd with q |hd
  .exact rl q (⟨h3,l3⟩)
  rcases aap.mp hd with q |hd
  .exact rl q (⟨h2,abp h23 l3⟩)
  rcases aap.mp hd with q |hd
  .exact rl q (⟨h1,abp h12 (abp h23 l3)⟩)
  .exact nomatch hd
 refine abD (wpAny_bindName (kR (Γ:=cz Γ ([a2,a1]++Γ.Do)) F5 I5 k3 e3 (A1 (W':=[]) F h3 SV (ZU (abw ZX) (abw Ym))) f3 (λ_=>.nil) (ud (W':=[]) F) (λd hd=>aad _ (F.tabs d hd)) λs₆ F6 t6 I6=>?_));have nW:∀{z:Addr},s.heap.objs.size<=z->z∉W:=λhz q=>aaw.mpr hz (F.hi _ (aah _ q));have e2:=nP I5 t6 e2 f2 (nW h2);have e1:=nP I5 t6 e1 f1 (nW h1);refine abD (wpAny_bindName (kR (Γ:=cz Γ ([a1]++Γ.Do)) F6 I6 k2 e2 (A1 (W':=[a3]) F h2 (Yl ZX) (Yl (abw ZW))) f2 (λ_=>.nil) (ud (W':=[a3]) F) (λd hd=>aad _ (F.tabs d hd)) λs₇ F7 t7 I7=>?_));have e1:=nP I6 t7 e1 f1 (λq=>(aap.mp q).elim Ym (nW h1));refine abD (wpAny_bindName (kR (Γ:=Γ) F7 I7 k1 e1 (A1 (W':=[a2,a3]) (E:=[]) F h1 (ZU ZW Ym) SV) f1 (λ_=>.nil) (ud (W':=[a2,a3]) (E:=[]) F) F.tabs λs₈ F8 t8 I8=>?_));refine wpAny_assignInOrder_none (.mk h1 h2 h3 F8 ?_ I8);have T1:bL C (a2::a3::W) s s₈:=ZV.up.eS (((t6.weak λd q=>.tail _ (.tail _ q)).eS (t7.weak λd q=>.tail _ q)).eS t8);exact T1.trans (bL.refl C W _) (λd hd=>by
  rcases aap.mp hd with q |q
  .exact .inr (by exact rl q h2)
  rcases aap.mp q with q |q
  .exact .inr (by exact rl q h3)
  .exact .inl q) λd q=>.inl q
theorem Le{A:Around}{n1 n2 n3:Str}{t:Expr}{p p1 p2 p3 pos:Pos}{xx:Nat}(k1:Γ.env.kindOf n1=some .local)(k2:Γ.env.kindOf n2=some .local)(k3:Γ.env.kindOf n3=some .local)
 (hs:swapsWithSole [t] (.Tuple [.List [] p1,.List [] p2,.List [] p3] xx pos) p.line Γ.env=pure false) (hw:swappedStores [t] (.Tuple [.List [] p1,.List [] p2,.List [] p3] xx pos) Γ.env=pure (some [n1,n2,n3])) (G:Good Γ.k A) (I:Inv C s) (F:Fm C Γ W s.heap vs) :
 wpAny (model P0 C.w) A (exec (.Assign [t] (.Tuple [.List [] p1,.List [] p2,.List [] p3] xx pos) p) Γ.env) (λf s'=>f = .next/\H8 C Γ W s vs n1 n2 n3 s') ig s:=by
 refine rl (exec_Assign_arm ..) ?_;refine aal (aaY ?_);refine rl hs ?_;refine aal (aat ?_);refine rl (aaD (by decide)) ?_;refine aal (cS (Lc G I F) λx fF bI=>?_);cases bI with |mk e ht hit h1 h2 h3 t4 I4=>
 subst e;refine rl hw ?_;refine aal (aat ?_);unfold assignStores;refine aal (abR ?_);refine rl (show[n1,n2,n3].length=_ from(aaJ List.length hit.symm).trans Array.length_toList) ?_;refine aal (fQ (Q:=λvals s'=>∃h',Heap.ExtBut fF.heap.objs.size fF.heap h'/\vals=_/\s'={fF with heap:=h'}) (wpAny_unpackItems_tuple G.handled ht λh' hx=>⟨h',hx,hit,J⟩) ?_);rintro vals s' kq ⟨h',hx,rfl,rfl⟩;have Yn:=t4.then (we (C:=C) hx kq);have Yo:=h3.dJ.then Yn;have z1:=aaf I.size h1.dJ.size;refine nb λnn=>?_;obtain⟨c1,e1⟩:=h1.emp (h2.dJ.then Yo) I.size;obtain⟨c2,e2⟩:=h2.emp Yo z1;obtain⟨c3,e3⟩:=h3.emp Yn (aaf z1 h2.dJ.size);exact nn<|aal (cS (H9 k1 k2 k3 G I F (h1.dJ.then (h2.dJ.then Yo)) (wg I4 hx kq) h1.ge (aao h1.lt h2.ge) (aao h2.lt h3.ge) (aao h3.lt Yn.size) e1 e2 e3) λ_ s₈ h=>aat ⟨J,h⟩)
theorem A2{n1 n2 n3:Str}{t:Expr}{p p1 p2 p3 pos:Pos}{xx:Nat}(k1:Γ.env.kindOf n1=some .local)(k2:Γ.env.kindOf n2=some .local)(k3:Γ.env.kindOf n3=some .local)
 (hs:swapsWith (.Tuple [.List [] p1,.List [] p2,.List [] p3] xx pos) (some t) p.line Γ.env=pure false) (hw:swappedStores [t] (.Tuple [.List [] p1,.List [] p2,.List [] p3] xx pos) Γ.env=pure (some [n1,n2,n3]))
 (T:∀a1 a2 a3,eH P C Γ (aG (aG (aG vs n3 (.own a3 [])) n2 (.own a2 [])) n1 (.own a1 [])) ss v):eH P C Γ vs (.Assign [t] (.Tuple [.List [] p1,.List [] p2,.List [] p3] xx pos) p::ss) v:=λA s W pA G I F=>by
 refine aas (cS (Le k1 k2 k3 hs hw G I F) λf aq bI=>?_);obtain⟨hf,bI⟩:=bI;cases bI with |mk h1 h2 h3 aU a_ aF=>
 subst hf;refine cS (T _ _ _ A aq _ pA G aF aU) λf av x=>x.trans (λd hd=>?_) a_;rcases aap.mp hd with q |q
 .exact .inr (by exact rl q h1)
 rcases aap.mp q with q |q
 .exact .inr (by exact rl q h2)
 rcases aap.mp q with q |q
 .exact .inr (by exact rl q h3)
 .exact .inl q
end
end
noncomputable def S4(P:Around->Prop)(C:Cx)(Γ:Gm)(vs:aC)(e:Expr)(m:MV)(cG:aC):Prop:=
 ∀A s W,P A->Good Γ.k A->Inv C s->Fm C Γ W s.heap vs->wpAny (model P0 C.w) A (eval e Γ.env) (λa aq=>Den aq.heap (W++Γ.Do) a m/\Fm C Γ W aq.heap cG/\bL C W s aq/\Inv C aq) ig s
noncomputable def RH(P:Around->Prop)(C:Cx)(Γ:Gm)(vs:aC)(e:Expr)(b:Bool)(cG:aC):Prop:=
 ∀A s W,P A->Good Γ.k A->Inv C s->Fm C Γ W s.heap vs->wpAny (model P0 C.w) A (isTrue e Γ.env (eval e Γ.env)) (λr aq=>r=b/\Fm C Γ W aq.heap cG/\bL C W s aq/\Inv C aq) ig s
section
variable{C:Cx}{Γ:Gm}{W D X:acq}{s s' aq av:Shared}{vs vs' d7 cG vs₂:aC}{h h':Heap}{P:Around->Prop}{st:Stmt}{ss:acr}{v m m₁ m₂:MV}{x:Str}{l l':acw}{a:Addr}{fl:Fl}{e:Expr}
theorem D_{t e:Expr}{p:Pos}(H:S4 P C Γ vs e m cG)(B:Bd C Γ t m cG vs')(hs:swapsWith e (some t) p.line Γ.env=pure false)(hw:swappedStores [t] e Γ.env=pure none)(T:eH P C Γ vs' ss v)(he:(assignEach [t] Γ.env).map (·.2)=[assign t Γ.env]:=by rfl):eH P C Γ vs (.Assign [t] e p::ss) v:=λA s W pA G I F=>
 aas (wpAny_Assign_stores (cS (H A s W pA G I F) λa aq bI=>by refine nb λnn=>?_;obtain⟨bx,aU,a_,aF⟩:=bI;refine nn ?_;refine rl he ?_;exact cS (B A aq W a G aF aU bx) λ_ av bI=>by obtain⟨bO,aY,bu⟩:=bI;exact cS (T A av W pA G bu bO) λf bH x=>x.trans (λd q=>.inl q) (a_.eS aY)) hs hw)
theorem CA{l r:Expr}{op:CmpOp}{pos:Pos}{b:Bool}(gE:S4 P C Γ vs l m₁ cG)(iI:Ev C Γ cG r m₂)(H:iZ C Γ.k op m₁ m₂ (.bool b))(hm:behindInMarks op r=false:=by with_unfolding_all rfl):RH P C Γ vs (.Compare l [op] [r] pos) b cG:=λA s W pA G I F=>
 wpAny_isTrue_Compare1 (cS (gE A s W pA G I F) λa aq ⟨bx,aU,a_,aF⟩=>iI.use G aF aU λc av bG aY bu bO=>
  cS (H A av _ a c G bu bO.mw (bx.dJ aF aY aU.cj) bG) λx bH ⟨d₃,cW,ez⟩=>by cases d₃;exact ab' ⟨J,bO.dJ bu cW,a_.eS (aY.then cW).up,ez⟩) hm
theorem Ea{x y:Expr}{pos:Pos}(H:RH P C Γ vs x false cG)(H2:RH P C Γ cG y false vs₂):RH P C Γ vs (.BoolOp .Or [x,y] pos) false vs₂:=λA s W pA G I F=>by
 refine wpAny_isTrue_BoolOp ?_;refine aal (cS (H A s W pA G I F) λr aq bI=>?_);refine nb λnn=>?_;obtain⟨hr,aU,a_,aF⟩:=bI;subst hr;refine nn<|aal (cS (H2 A aq W pA G aF aU) λr av bI=>?_)
 refine nb λnn=>?_;obtain⟨hr,bO,aY,bu⟩:=bI;subst hr;exact nn<|aat ⟨J,bO,a_.eS aY,bu⟩
theorem zh{test:Expr}{body:acr}{p:Pos}(H:RH P C Γ vs test false cG)(T:eH P C Γ cG ss v):eH P C Γ vs (.If test body [] p::ss) v:=λA s W pA G I F=>
 aas (wpAny_If (cS (H A s W pA G I F) λr aq bI=>by refine nb λnn=>?_;obtain⟨hr,aU,a_,aF⟩:=bI;subst hr;exact nn<|abv (cS (T A aq W pA G aF aU) λf bH x=>x.trans (λd q=>.inl q) a_)))
theorem Eb{e:Expr}{p:Pos}(H:Ev C Γ vs e v):eH P C Γ vs (.Return (some e) p::ss) v:=(bB H).toA
theorem Ev.own{p:Pos}(hv:vs.lookup x=some (.own a l))(hx:Γ.env.kindOf x=some .local)(hd:(x==("__debug__":Str))=false):Ev C Γ vs (.Name x p) (.bZ (.ref a)):=λA s W G I F=>jq hv hx F hd ⟨.bZ _ J,bL.refl _ _ _,I⟩
theorem Fm.zj(F:Fm C Γ W s.heap vs)(I:Inv C s)(hs:s.heap.objs.size<=h'.objs.size)(hk:Kept (Γ.env.locals::a::C.tabs) s.heap h')(hL:∀m,s.heap.Ns Γ.env.locals m->h'.Ns Γ.env.locals m)(hv:vs.lookup x=some (.own a l))(hx:Γ.env.kindOf x=some .local)
 {items:aco} {n:Nat} (ha:h'.get? a=some {cls:=.type "list",data:=.seq items n}) (ds:bD h' (W++Γ.Do) items.toList l'):Fm C Γ W h' (aG vs x (.own a l')):=by
 obtain⟨haL,hac,ql,haD⟩:=F.gH x _ a hv (.head _);have sub:∀d∈Γ.env.locals::a::C.tabs,d∈W++Γ.Do:=λd hd=>by
  rcases aap.mp hd with rfl |hd
  .exact aah _ F.lW
  rcases aap.mp hd with rfl |hd
  .exact aah _ ql
  .exact F.cj d hd
 have out:∀{b:Addr},b≠Γ.env.locals->b≠a->C.H.objs.size<=b->b∉Γ.env.locals::a::C.tabs:=λh1 h2 h3 q=>by
  rcases aap.mp q with q |q
  .exact h1 q
  rcases aap.mp q with q |q
  .exact h2 q
  .exact aX I h3 q
 have kc:∀{y c v},Γ.env.cells.lookup y=some c->s.heap.IsCell c v->h'.IsCell c v:=λ{y c v} hy hc=>by obtain⟨o,ho,hd⟩:=hc;exact⟨o,hk c o (out (F.fY y c hy) (hac y c hy) (F.cI y c hy).2) ho,hd⟩
 have vd:∀{y:Str}{b:Value}{st:VS},y≠x->vs.lookup y=some st->fX s.heap (W++Γ.Do) W b st->fX h' (W++Γ.Do) W b st:=λ{y b st} hyx hy d=>by
  have own:∀z∈foot st,z∉Γ.env.locals::a::C.tabs:=λz hz=>by obtain⟨o1,o2,o3,o4⟩:=F.gH y st z hy hz;exact out o1 (λq=>hyx (F.iY y x st _ a hy hv (q▸hz) (.head _))) (F.lo z o3)
  refine nb λnn=>?_;cases st with
  |v m=>exact nn<|Den.kept hk sub (λd hd=>.inl hd) d
  |own b l=>
   obtain⟨e,hb,items,n,ho,ds⟩:=d;exact nn<|⟨e,hb,items,n,hk b _ (own b (.head _)) ho,bD.kept hk sub (λd hd=>.inl hd) ds⟩
  |obj z dz Cc fs=>
   obtain⟨e,hx,hd,kI,es,n,vals,⟨h1,h2,h3⟩,hle,df⟩:=d;exact nn<|⟨e,hx,hd,kI,es,n,vals,⟨hk z _ (own z (.head _)) h1,hk dz _ (own dz (.tail _ (.head _))) h2,h3⟩,hle,dF.kept hk sub (λd hd=>.inl hd) df⟩
 refine⟨F.kind,F.glob,F.bi,?_,?_,?_,F.lW,F.tabs,F.lo,λd hd=>aao (F.hi d hd) hs,F.apart,F.cI,F.fY,λy st c hy hc=>?_,λy z st jg c hy hz hc jV=>?_⟩
 .obtain⟨m,hn,hl⟩:=F.ns
  refine⟨m,hL m hn,λy st hy jP=>?_⟩;replace hy:=(au ..)▸hy;split at hy
  .rename_i q;subst q;cases hy
   obtain⟨b,hb,d⟩:=hl y _ hv jP;obtain⟨e,_⟩:=d;exact⟨b,hb,e,ql,items,n,ha,ds⟩
  .rename_i q
   obtain⟨b,hb,d⟩:=hl y st hy jP;exact⟨b,hb,vd q hy d⟩
 .intro y st hy jP
  replace hy:=(au ..)▸hy;split at hy
  .rename_i q
   refine nb λnn=>?_;subst q;replace jP:=hx▸jP;rcases jP with q |q<;>cases q
  .rename_i q
   refine nb λnn=>?_;obtain⟨c,b,hc,hi,d⟩:=F.cell y st hy jP;exact nn<|⟨c,b,hc,kc hc hi,vd q hy d⟩
 .intro y hy
  obtain⟨c,v,hc,hW,hi⟩:=F.zS y hy;exact⟨c,v,hc,hW,kc hc hi⟩
 .replace hy:=(au ..)▸hy
  split at hy
  .rename_i q
   refine nb λnn=>?_;subst q;cases hy;exact nn<|F.gH y _ c hv hc
  .exact F.gH y st c hy hc
 .rw[au] at hy hz
  split at hy
  .rename_i q;cases hy
   split at hz
   .rename_i q';exact q.trans q'.symm
   .exact q.trans (F.iY x z _ jg c hv hz hc jV)
  .split at hz
   .rename_i q';cases hz
    exact(F.iY y x st _ c hy hv hc jV).trans q'.symm
   .exact F.iY y z st jg c hy hz hc jV
theorem Mz{a:Addr}(F:Fm C Γ W s.heap vs)(I:Inv C s)(hv:vs.lookup x=some (.own a l)):(a∉W.filter (· !=a)++Γ.Do)/\(∀d,d∈a::(W.filter (· !=a)++Γ.Do)↔d∈W++Γ.Do)/\lg C (W.filter (· !=a)++Γ.Do) s.heap:=by
 obtain⟨haL,hac,ql,haD⟩:=F.gH x _ a hv (.head _);refine⟨λq=>?_,λd=>⟨λq=>?_,λq=>?_⟩,⟨λd hd=>aad _ (F.tabs d hd),λd hd=>?_,?_⟩⟩
 .rcases aag.mp q with q |q
  .have:=(aaG.mp q).2;simp at this
  .exact haD q
 .rcases aap.mp q with rfl |q
  .exact aah _ ql
  rcases aag.mp q with q |q
  .exact aah _ (aaG.mp q).1
  .exact aad _ q
 .by_cases e:d=a
  .subst e;exact .head _
  .refine .tail _ ?_
   rcases aag.mp q with q |q
   .exact aah _ (aaG.mpr ⟨q,by simpa using e⟩)
   .exact aad _ q
 .rcases aag.mp hd with q |q
  .exact F.hi d (aah _ (aaG.mp q).1)
  .exact F.hi d (aad _ q)
 .obtain⟨m,hn,_⟩:=F.ns
  exact⟨_,m,F.lo _ F.lW,hn⟩
theorem bD.mj{D D':acq}{vals:acp}{ms:acw}(d:bD h D vals ms)(hD:∀z∈D',z∈D):bD h D' vals ms:=d.kept (W:=[]) (λ_ _ _ e=>e) n0 λz hz=>.inl (hD z hz)
theorem Den.mj{D D':acq}{a:Value}{m:MV}(d:Den h D a m)(hD:∀z∈D',z∈D):Den h D' a m:=d.kept (W:=[]) (λ_ _ _ e=>e) n0 λz hz=>.inl (hD z hz)
end
section
variable{C:Cx}{Γ:Gm}{W D X:acq}{s s' aq av:Shared}{vs vs' d7 cG vs₂:aC}{h h':Heap}{P:Around->Prop}{x:Str}{l l':acw}{a:Addr}
theorem Fm.H_(F:Fm C Γ W s.heap vs)(I:Inv C s)(t:bL C [a] s s')(hv:vs.lookup x=some (.own a l))(hx:Γ.env.kindOf x=some .local){items:aco}{n:Nat}(ha:s'.heap.get? a=some {cls:=.type "list",data:=.seq items n})(ds:bD s'.heap (W++Γ.Do) items.toList l'):Fm C Γ W s'.heap (aG vs x (.own a l')):=by
 refine nb λnn=>?_;obtain⟨haL,hac,ql,haD⟩:=F.gH x _ a hv (.head _);refine nn<|F.zj I t.size (λb o hb e=>t.keep b o (λq=>hb (.tail _ q)) e) (λm hn=>abY hn λo e=>t.keep _ o (λq=>?_) e) hv hx ha ds
 rcases aap.mp q with q |q
 .exact haL q.symm
 .exact aX I (F.lo _ F.lW) q
theorem Ns.slots{L:Addr}{m}(hn:h.Ns L m)(hs:∀o,h.get? L=some o->∃sl,h'.get? L=some {o with slots:=sl}):h'.Ns L m:=by obtain⟨o,es,ep,ho,hd,r⟩:=hn;obtain⟨sl,h1⟩:=hs o ho;exact⟨{o with slots:=sl},es,ep,h1,hd,r⟩
theorem zk{D:acq}{v w:Value}(d:Den h D w (.bZ v)):w=v:=d.oZ.1
end
theorem Ec{C:Cx}(S:fN C){P:Around->Prop}{Γ:Gm}{k:Nat}(hk:Γ.k=k+6)(hP:Γ.env.kindOf "plain"=some .local)(hF:Γ.env.kindOf "_law_plain"=some .globalImplicit)(whole:Int)(hw:m7 whole)(draws:acu)(sh:List PM)(ok:rL whole draws.length ⟨sh,[],[]⟩)(hdr:draws.length<=50){vs:aC}{aP:Addr}(hv:vs.lookup ("plain":Str)=some (.own aP (sh.map pV)))
 {e1 e3:Expr} {p1 p2 p:Pos} (H1:Ev C Γ vs e1 (.int whole)) (H3:Ev C Γ vs e3 (iv draws)) (he:C_ e1=true) (Lg:C_ e3=true) :
 S4 P C Γ vs (.Call (.Name "_law_plain" p1) [e1,.Name "plain" p2,e3] [] p) (HJ (vG whole sh draws)) (aG vs "plain" (.own aP ((vG whole sh draws).sh.map pV))):=λA s W pA G I F=>by
 refine iO (bV hF S.KO (λ_ _=>.bZ _ J) J) (aj H1 (aj (Ev.own hv hP J) (aj H3 ak Lg)) he) S.G7 G I F λvals aq d t aF aU=>?_;cases BE d with |mk _ _ _ d1 d2 d3=>
 refine nb λnn=>?_;obtain rfl:=zk d2;obtain⟨o1,o2,o3⟩:=Mz aU aF hv;obtain⟨ql,items,n,hg,ds⟩:=iH hv hP aU;have G':Good (k+6) A:=hk▸G;refine nn<|wpAny_call (abm (D0 S (k:=k) whole hw draws sh ok hdr G' aF o3 (d1.mj λz hz=>(o2 z).mp hz) (d3.mj λz hz=>(o2 z).mp hz) hg (ds.mj λz hz=>(o2 z).mp hz) (aU.lo _ ql) o1) λr av bI=>?_)
 obtain⟨dx,hg',ds',t',_,I'⟩:=bI;refine⟨dx.mj λz hz=>(o2 z).mpr hz,aU.H_ aF t' hv hP hg' (ds'.mj λz hz=>(o2 z).mpr hz),t.up.eS (t'.weak λd hd=>by exact rl (aam.mp hd) ql),I'⟩
theorem CC{C:Cx}{k:Nat}{q:Int}{nn:Nat}{V:dR->MV}{mo:MV}{Gs:MV->Prop}(Pq:O4 C k q nn V mo Gs)(Z:fN C){Γ:Gm}(hk:Γ.k=k+1){y:Str}(hy:Γ.env.kindOf y=some .local)(hyd:(y==("__debug__":Str))=false)(hF:Γ.env.kindOf "_law_run"=some .globalImplicit)(j9:Γ.env.frame=some Γ.env.locals)(g0 g1:MV)(hg:∀g,g=g0\/g=g1->Gs g)(ds:List gV)(sh:List dR)(hsh:∀A∈sh,A.ok q nn)(hds:jl q nn ds (sh,[]))
 {vs:aC} {aS:Addr} (hv:vs.lookup y=some (.own aS (sh.map V))) {e1 e2 e4:Expr} {p1 p2 p:Pos} (H1:Ev C Γ vs e1 mo) (H2:Ev C Γ vs e2 (.lst [g0,g1])) (H4:Ev C Γ vs e4 (.lst (ds.map fC)))
 (he:C_ e1=true) (Lg:C_ e2=true) (RI:C_ e4=true) :
 S4 (λA=>A.frames=some [Γ.env]) C Γ vs (.Call (.Name "_law_run" p1) [e1,e2,.Name y p2,e4] [] p) (.lst ((ds.foldl (dB q nn) (sh,[])).2.map .str)) (aG vs y (.own aS ((ds.foldl (dB q nn) (sh,[])).1.map V))):=λA s W pA G I F=>by
 refine iO (bV hF Z.Rq (λ_ _=>.bZ _ J) J) (aj H1 (aj H2 (aj (Ev.own hv hy hyd) (aj H4 ak RI)) Lg) he) Z.NL G I F λvals aq d t aF aU=>?_;cases d.d8 with |mk d1 e=>
 cases BE e with |mk _ _ _ d2 d3 d4=>
 refine nb λnn=>?_;obtain rfl:=zk d3;obtain⟨o1,o2,o3⟩:=Mz aU aF hv;obtain⟨ql,items,n,hgt,dsS⟩:=iH hv hy aU;obtain⟨haL,hac,_,haD⟩:=aU.gH y _ aS hv (.head _);have G':Good (k+1) A:=hk▸G;have eN:iC C [Γ.env] aq.heap:=pU aU j9 n0;have hfs:frs [Γ.env]=[Γ.env.locals]:=by unfold frs;refine rl List.filterMap_cons (rl j9 ?_);rfl
 have hl:∀L∈frs [Γ.env],L∈W.filter (· !=aS)++Γ.Do:=λL hL=>by replace hL:=hfs▸hL;refine rl (aam.mp hL) ?_;exact aah _ (aaG.mpr ⟨aU.lW,by simpa using abw haL⟩)
 refine nn<|wpAny_call (abm (KN Pq g0 g1 hg aS _ Z.run ds sh hsh hds G' aF o3 (d1.mj λz hz=>(o2 z).mp hz) (d2.mj λz hz=>(o2 z).mp hz) (d4.mj λz hz=>(o2 z).mp hz) hgt (dsS.mj λz hz=>(o2 z).mp hz) (aU.lo _ ql) o1 pA eN hl) λr av bI=>?_)
 obtain⟨dx,hg',ds',t',hsl,I'⟩:=bI;rw[hfs] at t' hsl;refine⟨dx.mj λz hz=>(o2 z).mpr hz,aU.zj aF t'.size (λb o hb e=>t'.keep b o hb e) (λm hn=>Ns.slots hn (hsl _ (.head _))) hv hy hg' (ds'.mj λz hz=>(o2 z).mpr hz),t.up.eS (t'.weak λd hd=>?_),I'⟩;rcases aap.mp hd with q |q
 .exact rl q (aU.lW)
 .exact rl (aam.mp q) ql
section
variable{C:Cx}{Γ:Gm}{W D X:acq}{s s' aq av:Shared}{vs vs':aC}{A:Around}{l:acw}{o i:Expr}{h:Heap}
theorem bD.drop:∀{vals:acp}{ms:acw}(n:Nat),bD h D vals ms->bD h D (vals.drop n) (ms.drop n)
 |_,_,0,d=>d
 |[],_,n+1,d=>by cases d;exact .nil
 |v::vals,_,n+1,d=>by cases d with |cons d1 d2=>exact bD.drop n d2
theorem bD.take:∀{vals:acp}{ms:acw}(n:Nat),bD h D vals ms->bD h D (vals.take n) (ms.take n)
 |_,_,0,d=>.nil
 |[],_,n+1,d=>by cases d;exact .nil
 |v::vals,_,n+1,d=>by cases d with |cons d1 d2=>exact .cons d1 (bD.take n d2)
theorem zl(I:Inv C s)(dk:lg C D s.heap)(o:Obj){vals:acp}{ms:acw}(d:bD s.heap D vals ms):nj C D s (.lst ms) (.ref (s.heap.objs.size+1)) {s with heap:=(s.heap.push o).push {cls:=.type "list",data:=.seq vals.toArray}}:=by have t1:bL C [] s {s with heap:=s.heap.push o}:=iu o;have I1:=iw I o;have x:=o9 I1 (dk.dJ I t1) (d.push (s:=s) o);have e:(s.heap.push o).objs.size=s.heap.objs.size+1:=aaI _ _;have x':=x.trans t1;rw[show({s with heap:=s.heap.push o}:Shared).heap.objs.size=s.heap.objs.size+1 from e] at x';exact x'
theorem A3(j n:Nat):kms_lo (some (j:Int)) n=min j n:=by show(if(j:Int)<0 then n-(-(j:Int)).toNat else min (j:Int).toNat n)=_;refine rl (aaD (by exact So)) ?_;rfl
theorem A4(j n:Nat):kms_hi (some (j:Int)) n=min j n:=by show(if(j:Int)<0 then n-(-(j:Int)).toNat else min (j:Int).toNat n)=_;refine rl (aaD (by exact So)) ?_;rfl
theorem oi{p pos:Pos}{j:Nat}(Ho:Ev C Γ vs o (.lst l))(Hi:Ev C Γ vs i (.int j))(hl:l.length<=1000)(ht:∀a r,letTemporaryGo o a r=pure ():=by intro _ _;rfl):Ev C Γ vs (.Subscript o (.Slice (some i) none none p) pos) (.lst (l.drop j)):=λA s W G I F=>by
 refine wpAny_Subscript_list_slice (Ho.use G I F λa aq bx a_ aF aU=>?_) ht;show wpAny _ A (eval i Γ.env) _ _ aq;refine Hi.use G aF aU λb av bG aY bu bO=>?_;show wpAny _ A (pure Value.none) _ _ av;refine aat ?_;have n5:=bx.dJ aF aY aU.cj;cases bG.eL with
 |mk tk=>
 cases n5.jW with
 |mk a items n hg na ds=>
 have hz:items.size=l.length:=by have:=ds.length;simpa using this
 refine⟨a,items,some (j:Int),none,J,⟨_,hg,J,n,J⟩,by rw[hz,sizeLine];omega,.int _ _,.none,?_⟩;have e:slicePick items (some (j:Int)) none none=(items.toList.drop j).toArray:=by refine rl (kms_pick_eq ..) ?_;unfold kms_pick;refine rl (A3 ..) (rl (kmk_drop_min ..) (rl (show kms_hi none items.toList.length=items.toList.length from rfl) ?_));congr 1;rw[List.take_of_length_le];refine rl List.length_drop ?_;exact Vq
 refine rl e ?_;exact(zl bu bO.mw _ (ds.drop j)).trans (a_.then aY)
theorem rt{p pos:Pos}{j:Nat}(Ho:Ev C Γ vs o (.lst l))(Hi:Ev C Γ vs i (.int j))(hl:l.length<=1000)(ht:∀a r,letTemporaryGo o a r=pure ():=by intro _ _;rfl):Ev C Γ vs (.Subscript o (.Slice none (some i) none p) pos) (.lst (l.take j)):=λA s W G I F=>by
 refine wpAny_Subscript_list_slice (Ho.use G I F λa aq bx a_ aF aU=>?_) ht;show wpAny _ A (pure Value.none) _ _ aq;refine aat ?_;show wpAny _ A (eval i Γ.env) _ _ aq;refine Hi.use G aF aU λb av bG aY bu bO=>?_;have n5:=bx.dJ aF aY aU.cj;cases bG.eL with
 |mk tk=>
 cases n5.jW with
 |mk a items n hg na ds=>
 have hz:items.size=l.length:=by have:=ds.length;simpa using this
 refine⟨a,items,none,some (j:Int),J,⟨_,hg,J,n,J⟩,by rw[hz,sizeLine];omega,.none,.int _ _,?_⟩;have e:slicePick items none (some (j:Int)) none=(items.toList.take j).toArray:=by
  rw[kms_pick_eq];unfold kms_pick;refine rl (A4 ..) (rl (show kms_lo none items.toList.length=0 from rfl) (rl (ab0 ..) (rl (Nat.sub_zero ..) ?_)));congr 1;by_cases h:j<=items.toList.length
  .exact rl (Nat.min_eq_left h ..) J
  .exact rl (Nat.min_eq_right (by exact Pu h) ..) (rl (List.take_of_length_le (aaq _) ..) (rl (List.take_of_length_le (by exact Pu h) ..) J))
 refine rl e ?_;exact(zl bu bO.mw _ (ds.take j)).trans (a_.then aY)
end
noncomputable def oV(n:Nat):Stmt:=((o5 (topS 25))[n]?).getD (.Pass ⟨0,0,0,0⟩)
noncomputable def iL(k:Nat)(L:Addr)(bh:Value)(D:acq):Gm:=(gF (k+40) "law" (mq (topS 25)) L 829 bh D)
noncomputable def c5(ah:acu):Nat:=1+((gW ah 0+2).fmod 4).toNat
noncomputable def wholeOf(n:Nat):Int:=2^(2304*n)+1
noncomputable def jO(ah:acu)(m:Nat):Nat:=((gW ah (1+m)).fmod 4).toNat
noncomputable def sq(ah:acu)(m:Nat):Nat:=1+jO ah m%2
noncomputable def oY(ah:acu)(m:Nat):Nat:=1+jO ah m/2
noncomputable def zm(ah:acu)(m r c x:Nat):Int:=(gW ah (10+16*m+8*r+4*c+x)+2048).fmod 4096-2048
noncomputable def iD(ah:acu)(m:Nat):Rows:=fq (sq ah m) (oY ah m) λr c=>(List.range (c5 ah)).map λx=>zm ah m r c x
theorem je(ah:acu):1<=c5 ah/\c5 ah<=4:=by have:=bT (gW ah 0+2) (b:=4) (by decide);unfold c5;exact Vr this
theorem jf(ah:acu)(m:Nat):jO ah m<4:=by have:=bT (gW ah (1+m)) (b:=4) (by decide);unfold jO;exact Vs this
theorem RJ(M N:Nat)(g:Nat->Nat->acu):gn (fq M N g) = .lst ((bz 0 M).map λm=>.lst ((bz 0 N).map λm2=>iv (g (natOf m) (natOf m2)))):=by refine rs (vA ..) ?_;rfl
noncomputable def RK:acr:=kS (oV 7) 0
noncomputable def A5(n:Nat):Stmt:=(RK[n]?).getD (.Pass ⟨0,0,0,0⟩)
noncomputable abbrev kQ:Int:=3329
noncomputable abbrev dQ:Int:=8380417
noncomputable def gu(ah:acu):MV:=ay 473 none kQ (c5 ah)
noncomputable def gR(ah:acu):MV:=ay 270 none dQ (c5 ah)
noncomputable def Lh(ah:acu)(a b aP aT aO:Addr)(lP lT lO:acw):aC:=[("script",.v (iv ah)),("n",.v (.int (c5 ah))),("whole",.v (.int (wholeOf (c5 ah)))),("small_ring",.v (gu ah)),("great_ring",.v (gR ah)),("first",.v (cK 789 (some a) (gu ah))),("second",.v (cK 221 (some b) (gR ah))),("plain",.own aP lP),("twos",.own aT lT),("ones",.own aO lO)]
noncomputable def vM(ah:acu)(a b aP aT aO:Addr)(lP lT lO:acw)(m:Nat):aC:=[("script",.v (iv ah)),("n",.v (.int (c5 ah))),("whole",.v (.int (wholeOf (c5 ah)))),("small_ring",.v (gu ah)),("great_ring",.v (gR ah)),("first",.v (cK 789 (some a) (gu ah))),("second",.v (cK 221 (some b) (gR ah))),("plain",.own aP lP),("twos",.own aT lT),("ones",.own aO lO),("m",.v (.int m))]
noncomputable def vS(ah:acu)(a b aP aT aO:Addr)(lP lT lO:acw)(m:Nat):aC:=[("script",.v (iv ah)),("n",.v (.int (c5 ah))),("whole",.v (.int (wholeOf (c5 ah)))),("small_ring",.v (gu ah)),("great_ring",.v (gR ah)),("first",.v (cK 789 (some a) (gu ah))),("second",.v (cK 221 (some b) (gR ah))),("plain",.own aP lP),("twos",.own aT lT),("ones",.own aO lO),("m",.v (.int m)),("shape",.v (.int (jO ah m)))]
noncomputable abbrev O9(ah:acu)(n:Nat):aC:=[("script",.v (iv ah)),("n",.v (.int n)),("whole",.v (.int (wholeOf n)))]
section
variable{C:Cx}(S:fN C){k:Nat}(L:Addr)(bh:Value)(D:acq)(ah:acu)(hl:ah.length<=63)
include S hl
theorem kG{Γ:Gm}{vs:aC}{e:Expr}{p1 p2 p3:Pos}{k:Nat}{place:Nat}(hk:Γ.k=k+1)(hF:Γ.env.kindOf "_law_number"=some .globalImplicit)(H1:Ev C Γ vs (.Name "script" p1) (iv ah))(H2:Ev C Γ vs e (.int place))(hp:place<1000)(Lg:C_ e=true) :
 Ev C Γ vs (.Call (.Name "_law_number" p2) [.Name "script" p1,e] [] p3) (.int (gW ah place)):=by
 have h:=AL S (k:=k) ah place hl hp;exact cR (bV hF S.G6 (λ_ _=>.bZ _ J) J) (aj H1 (aj H2 ak Lg)) (cQ S.DP) (hk▸h.toV)
theorem Yp:gq C (iL k L bh D) [("script",.v (iv ah))] (oV 0) .next [("script",.v (iv ah)),("n",.v (.int (c5 ah)))]:=by
 have b:=jG (gW ah 0+2) (b:=4) (by decide);have e:((c5 ah:Nat):Int)=1+(gW ah 0+2).fmod 4:=by unfold c5;exact rs b Vt
 refine rl e ?_;exact aE (aI aA (aI (aI (kG S ah hl (k:=k+39) (place:=0) J J (ao J) aA (by decide) J) aA (fy _ _)) aA (b9 _ _ (by decide))) (fy _ _)) (az J) J
omit hl in
theorem Yq(n:Nat)(hn:n<=4):gq C (iL k L bh D) [("script",.v (iv ah)),("n",.v (.int n))] (oV 1) .next (O9 ah n):=by
 have e:(2304*(n:Int)).toNat=2304*n:=by exact Pw
 have hb:(Builtin.Int.intBits 2:Int)*(2304*(n:Int))<=2^27:=by
  have:Builtin.Int.intBits 2=2:=by decide
  refine rl this ?_;omega
 have hp:=sA (C:=C) (k:=k+40) 2 (2304*n) (by exact Px) hb;replace hp:=e▸hp;exact aE (aI (aI aA (aI (se S J) (ao J) (fz _ _ (fu (by decide) (by decide)))) hp) aA (fy _ _)) (az J) J
theorem A6(m:Nat)(hm:m<3)(a b aP aT aO:Addr)(lP lT lO:acw) :
 gq C (iL k L bh D) (vS ah a b aP aT aO lP lT lO m) (A5 1) .next (aG (vS ah a b aP aT aO lP lT lO m) "numbers" (.v (gn (iD ah m)))):=by
 have hs:=jf ah m;obtain⟨n1,n4⟩:=je ah;have e1:(((sq ah m:Nat):Int))=1+(((jO ah m:Nat):Int)).fmod 2:=by refine rl (show(2:Int)=((2:Nat):Int) from rfl) (rl (pZ ..) ?_);unfold sq;exact Vu
 have e2:(((oY ah m:Nat):Int))=1+(((jO ah m:Nat):Int)).fdiv 2:=by refine rl (show(2:Int)=((2:Nat):Int) from rfl) (rl (G_ ..) ?_);unfold oY;exact Vv
 have r9:sq ah m<=100:=by unfold sq;exact Py
 have c9:oY ah m<=100:=by unfold oY;omega
 have rr:sq ah m<=2:=by unfold sq;exact Sx
 have cc:oY ah m<=2:=by unfold oY;omega
 unfold iD;refine rl (RJ ..) ?_;refine cY (eo (dH (aM S.b8 Boot.«range» rfl) (aj (e1▸aI aA (aI (ao J) aA (b9 _ _ (by decide))) (fy _ _)) ak)) r9) (λL Do=>bX _ (az J) (c_ λr hr=>?_)) (λq=>nomatch q) J J (aaj J) (by simp[bz];omega) (λ_=>rfl) (az J) J;refine rl (kg ..) ?_;refine aZ (eo (dH (aM S.b8 Boot.«range» rfl) (aj (e2▸aI aA (aI (ao J) aA (iF _ _ (by decide) (abl (by decide)))) (fy _ _)) ak)) c9) (λL Do=>bX _ (az J) (c_ λc hc=>?_)) (λq=>nomatch q) J J (aaj J) (by simp[bz];omega) (λ_=>rfl);refine rl (kg ..) (rl (tZ ..) ?_);refine aZ (eo (dH (aM S.b8 Boot.«range» rfl) (aj (ao J) ak)) (show c5 ah<=100 by omega)) (λL Do=>bX _ (az J) (c_ λx hx=>?_)) (λq=>nomatch q) J J (aaj J) (by simp[bz];omega) (λ_=>rfl);refine rl (kg ..) ?_;have pl:((10+16*m+8*r+4*c+x:Nat):Int)=10+16*(m:Int)+8*(r:Int)+4*(c:Int)+(x:Int):=by exact Vw
 have ml:∀(u:Int)(v:Int),0<=u->u<2^64->IntMulOk u v:=λu v h0 h1=>fu h0 h1;refine aI (aI (aI (kG S ah hl (k:=k+39) (place:=10+16*m+8*r+4*c+x) J J (ao J) (pl▸aI (aI (aI (aI aA (aI aA (ao J) (fz _ _ (ml _ _ (by decide) (by decide)))) (fy _ _)) (aI aA (ao J) (fz _ _ (ml _ _ (by decide) (by decide)))) (fy _ _)) (aI aA (ao J) (fz _ _ (ml _ _ (by decide) (by decide)))) (fy _ _)) (ao J) (fy _ _)) (by exact Vx (by assumption) n4 rr cc hr hc hx) J) aA (fy _ _)) aA (b9 _ _ (by decide))) aA (iN _ _)
end
section
variable{C:Cx}{Γ:Gm}{vs:aC}{k:Nat}{elt:Expr}{x:Str}
theorem dW{px:Pos}{σ:Type}(mk f:σ->MV)(hx:rG Γ x)(ps:List σ)(H:∀p∈ps,Ev C Γ (aG vs x (.v (mk p))) elt (f p)):x9 C Γ (.Name x px) [] elt (ps.map mk) vs (ps.map f):=by
 have aux:∀(ps:List σ),(∀p∈ps,Ev C Γ (aG vs x (.v (mk p))) elt (f p))->∀vs',(∀m,aG vs' x m=aG vs x m)->x9 C Γ (.Name x px) [] elt (ps.map mk) vs' (ps.map f):=λps=>by
  induction ps with
  |nil=>intro _ vs' hv;rfl
  |cons p ps ih=>
   intro H vs' hv;refine⟨_,cH hx,true,J,f p,ps.map f,?_,J,ih (λq hq=>H q (.tail _ hq)) _ λq=>?_⟩
   .rw[hv];exact H p (.head _)
   .exact rl (iK ..) ((hv q))
 exact aux ps H vs λ_=>rfl
end
noncomputable def ru(whole:Int)(one:acu):Int:=(((mF one).map λ(p:Nat×Int)=>p.2*2^(2304*p.1)).foldl (·+·) 0).fmod whole
noncomputable def zo(whole:Int)(rows:Rows):PM:=rows.map λr=>r.map (ru whole)
theorem CD(ah:acu)(m r c x:Nat) : -2048<=zm ah m r c x/\zm ah m r c x<2048:=by have:=bT (gW ah (10+16*m+8*r+4*c+x)+2048) (b:=4096) (by decide);unfold zm;exact Vy this
theorem jU{ah:acu}{m:Nat}{r:ack}(hr:r∈iD ah m):r.length=oY ah m/\∀cs∈r,cs.length=c5 ah/\∀c∈cs,-2048<=c/\c<2048:=by unfold iD fq at hr;obtain⟨i,hi,rfl⟩:=aan.mp hr;refine⟨by exact rl (aai ..) (rl (aa6 ..) J),λcs hcs=>?_⟩;obtain⟨j,hj,rfl⟩:=aan.mp hcs;refine⟨by exact rl (aai ..) (rl (aa6 ..) J),λc hc=>?_⟩;obtain⟨x,_,rfl⟩:=aan.mp hc;exact CD ah m i j x
theorem jx(ah:acu)(m:Nat):Shape (iD ah m) (sq ah m) (oY ah m):=by have:=jf ah m;exact⟨by unfold iD fq;exact rl (aai ..) (rl (aa6 ..) J),λr hr=>(jU hr).1,by unfold sq;exact Te,by unfold sq;exact Py,by unfold oY;omega⟩
noncomputable def vR(ring mod:Str)(ri mo:MV)(rows:Rows):aC:=[(ring,.v ri),(mod,.v mo),("numbers",.v (gn rows))]
theorem Ed{C:Cx}(K:G3 C kN)(S:fN C){k:Nat}(L:Addr)(bh:Value)(D:acq)(a:Addr)(q:Int)(n:Nat)(hn:n<=4)(rows:Rows)(M N:Nat)(hsh:Shape rows M N)(hN:N<=100)(hM:M<=100)(hr:∀r∈rows,∀cs∈r,cs.length=n){o:Expr}
 (ho:o=eK (eK (eK (kE (A5 2) 0) 1) 0) 0) :
 Ev C (iL k L bh D) (vR "small_ring" "first" (ay kN.CR none q n) (cK kN.CO (some a) (ay kN.CR none q n)) rows) o (mr kN (some a) (ay kN.CR none q n) rows false):=by
 subst ho;refine cR (ao J) (aj (v:=.lst (ek kN.CP (ay kN.CR none q n) rows)) ?_ ak) cJ (bQ K.o.fk ((K.Jc (k:=k+33) (some a) none q n rows M N hsh)));refine aZ (bK (ao J)) (λL Do=>dW (λr=>.lst (r.map iv)) (λr=>.lst (r.map (eT kN.CP (ay kN.CR none q n)))) (az J) rows (λr hr'=>?_)) (λq=>nomatch q) J J (aaj J) (by rw[aai,hsh.hm];omega) (λ_=>rfl);refine aZ (bK (ao J)) (λL Do=>dW iv (eT kN.CP (ay kN.CR none q n)) (az J) r (λcs hcs=>?_)) (λq=>nomatch q) J J (aaj J) (by rw[aai,hsh.hn r hr'];omega) (λ_=>rfl);have hl:=hr r hr' cs hcs;have key:=K.gh (k:=k+31) none q n cs (by omega) (by exact Pz hl);rw[hl,abt,aba,aaU] at key;exact cR (ao J) (aj (n_ (l:=cs.map .int) (aM S.lJ Boot.«list» rfl) (aj (ao J) ak) (by rw[aai];exact PB hn hl)).ev ak) cJ (bQ K.o.jC key)
theorem Ef{C:Cx}(K:G3 C dN)(S:fN C){k:Nat}(L:Addr)(bh:Value)(D:acq)(a:Addr)(q:Int)(n:Nat)(hn:n<=4)(rows:Rows)(M N:Nat)(hsh:Shape rows M N)(hN:N<=100)(hM:M<=100)(hr:∀r∈rows,∀cs∈r,cs.length=n){o:Expr}
 (ho:o=eK (eK (eK (kE (A5 3) 0) 1) 0) 0) :
 Ev C (iL k L bh D) (vR "great_ring" "second" (ay dN.CR none q n) (cK dN.CO (some a) (ay dN.CR none q n)) rows) o (mr dN (some a) (ay dN.CR none q n) rows false):=by
 subst ho;refine cR (ao J) (aj (v:=.lst (ek dN.CP (ay dN.CR none q n) rows)) ?_ ak) cJ (bQ K.o.fk ((K.Jc (k:=k+33) (some a) none q n rows M N hsh)));refine aZ (bK (ao J)) (λL Do=>dW (λr=>.lst (r.map iv)) (λr=>.lst (r.map (eT dN.CP (ay dN.CR none q n)))) (az J) rows (λr hr'=>?_)) (λq=>nomatch q) J J (aaj J) (by rw[aai,hsh.hm];omega) (λ_=>rfl);refine aZ (bK (ao J)) (λL Do=>dW iv (eT dN.CP (ay dN.CR none q n)) (az J) r (λcs hcs=>?_)) (λq=>nomatch q) J J (aaj J) (by rw[aai,hsh.hn r hr'];omega) (λ_=>rfl);have hl:=hr r hr' cs hcs;have key:=K.gh (k:=k+31) none q n cs (by omega) (by exact Pz hl);rw[hl,abt,aba,aaU] at key;exact cR (ao J) (aj (n_ (l:=cs.map .int) (aM S.lJ Boot.«list» rfl) (aj (ao J) ak) (by rw[aai];exact PB hn hl)).ev ak) cJ (bQ K.o.jC key)
noncomputable def iS(q:Int)(ah:acu)(m:Nat):dR:=⟨(iD ah m).map λr=>r.map (b_ q),false,sq ah m,oY ah m⟩
noncomputable def rM(ah:acu)(m:Nat):PM:=zo (wholeOf (c5 ah)) (iD ah m)
noncomputable def vN(ah:acu)(a b aP aT aO:Addr)(lP lT lO:acw)(m:Nat):aC:=[("script",.v (iv ah)),("n",.v (.int (c5 ah))),("whole",.v (.int (wholeOf (c5 ah)))),("small_ring",.v (gu ah)),("great_ring",.v (gR ah)),("first",.v (cK 789 (some a) (gu ah))),("second",.v (cK 221 (some b) (gR ah))),("plain",.own aP lP),("twos",.own aT lT),("ones",.own aO lO),("m",.v (.int m)),("shape",.v (.int (jO ah m))),("numbers",.v (gn (iD ah m)))]
noncomputable def vJ(ah:acu)(a:Addr)(A:dR):MV:=oQ kN a none kQ (c5 ah) A
noncomputable def xj(ah:acu)(b:Addr)(A:dR):MV:=oQ dN b none dQ (c5 ah) A
section
variable{C:Cx}(K:SK C)(K2:SD C)(S:fN C){k:Nat}(L:Addr)(bh:Value)(D:acq)(ah:acu)(hl:ah.length<=63)(m:Nat)(hm:m<3)(a b aP aT aO:Addr)(lP lT lO:acw)(hP:lP.length<=100)(hT:lT.length<=100)(hO:lO.length<=100)
theorem ry:∀r∈iD ah m,∀cs∈r,cs.length<=900:=λr hr cs hcs=>by have:=((jU hr).2 cs hcs).1;have:=je ah;exact Vz (by assumption) this
theorem Li{CP:Addr}(rows:Rows):nX CP (gn rows)=true:=show qE CP _=true from m8 (aaM.mpr λr _=>show qE CP _=true from m8 (aaM.mpr λcs _=>A0 cs))
theorem MA{CP:Addr}{ring mod:Str}{ri mo:MV}{rows:Rows}(h1:nX CP ri=true)(h2:nX CP mo=true):∀x st,(vR ring mod ri mo rows).lookup x=some st->∃m,st = .v m/\nX CP m=true:=λx st hx=>by
 have:=mem_of_lookup hx;unfold vR at this;simp only[List.mem_cons,Prod.mk.injEq,List.not_mem_nil,or_false] at this;rcases this with⟨_,rfl⟩ |⟨_,rfl⟩ |⟨_,rfl⟩
 .exact⟨_,J,h1⟩
 .exact⟨_,J,h2⟩
 .exact⟨_,J,Li rows⟩
include K S hO in
theorem Lj:gq C (iL k L bh D) (vN ah a b aP aT aO lP lT lO m) (A5 2) .next (aG (vN ah a b aP aT aO lP lT lO m) "ones" (.own aO (lO++[vJ ah a (iS kQ ah m)]))):=by have sh:=jx ah m;have n4:=je ah;exact eX (x:="ones") J J J (xe K.o (k:=k+38) J (cK 789 (some a) (gu ah)) (zf _ _ _ _) none kQ (c5 ah) (by decide) (iD ah m) false (ry ah m) (vs':=vR "small_ring" "first" (gu ah) (cK 789 (some a) (gu ah)) (iD ah m)) (fc _ ⟨J,J,J,trivial⟩) (MA (D7 _ _ _) (zf _ _ _ _)) (λDo=>Ed K.toG3 S L bh Do a kQ (c5 ah) n4.2 (iD ah m) _ _ sh sh.n9 sh.m9 (λr hr cs hcs=>((jU hr).2 cs hcs).1) J) J) (by omega) J J J J J J
include K2 S hT in
theorem Lk:gq C (iL k L bh D) (vN ah a b aP aT aO lP lT lO m) (A5 3) .next (aG (vN ah a b aP aT aO lP lT lO m) "twos" (.own aT (lT++[xj ah b (iS dQ ah m)]))):=by have sh:=jx ah m;have n4:=je ah;exact eX (x:="twos") J J J (xg K2.o (k:=k+38) J (cK 221 (some b) (gR ah)) (zg _ _ _ _) none dQ (c5 ah) (by decide) (iD ah m) false (ry ah m) (vs':=vR "great_ring" "second" (gR ah) (cK 221 (some b) (gR ah)) (iD ah m)) (fc _ ⟨J,J,J,trivial⟩) (MA (D8 _ _ _) (zg _ _ _ _)) (λDo=>Ef K2.toG3 S L bh Do b dQ (c5 ah) n4.2 (iD ah m) _ _ sh sh.n9 sh.m9 (λr hr cs hcs=>((jU hr).2 cs hcs).1) J) J) (by omega) J J J J J J
include S hP in
theorem Ia:gq C (iL k L bh D) (vN ah a b aP aT aO lP lT lO m) (A5 4) .next (aG (vN ah a b aP aT aO lP lT lO m) "plain" (.own aP (lP++[pV (rM ah m)]))):=by
 have sh:=jx ah m;have n4:=je ah;have m9:=sh.m9;have w0:wholeOf (c5 ah)≠0:=by have:(0:Int)<2^(2304*c5 ah):=Int.pow_pos (by decide);unfold wholeOf;exact VA this
 have e1:pV (rM ah m) = .lst ((iD ah m).map λr=>iv (r.map (ru (wholeOf (c5 ah))))):=by unfold pV rM zo;refine rl aar ?_;rfl
 refine rl e1 ?_;refine eX (x:="plain") J J J (aZ (bK (ao J)) (λL Do=>dW (λr=>.lst (r.map iv)) _ (az J) (iD ah m) (λr hr=>?_)) (λq=>nomatch q) J J (aaj J) (by refine rl (aai ..) (rl (sh.hm ..) ?_);omega) (λ_=>rfl)) (by omega) J J J J J J;have n9:=sh.n9;have e2:iv (r.map (ru (wholeOf (c5 ah)))) = .lst (r.map λcs=>.int (ru (wholeOf (c5 ah)) cs)):=by unfold iv;refine rl aar ?_;rfl
 refine rl e2 ?_;refine aZ (bK (ao J)) (λL Do=>dW iv _ (az J) r (λcs hcs=>?_)) (λq=>nomatch q) J J (aaj J) (by refine rl (aai ..) (rl (sh.hn r hr ..) ?_);omega) (λ_=>rfl);obtain⟨hlen,hb⟩:=(jU hr).2 cs hcs;refine aI (wB (k:=k+37) (outs:=(((mF cs).map λ(p:Nat×Int)=>p.2*2^(2304*p.1)).map MV.int)) (aM S.qU Boot.«sum» rfl) (s8 (aZ (Cq cs▸x7 (aM S.mX Boot.«enumerate» rfl) (aj (ao J) ak)) (λL Do=>?_) (λ_=>⟨_,_,_,J⟩) J J (aaj J) (by rw[aai,mF,List.length_mapIdx];exact VB n4 hlen) (λ_=>rfl))) (vC _ 0) (aaq _)) (ao J) (b9 _ _ w0);refine rl aar ?_;refine nM (λp:Nat×Int=>(MV.int (p.1:Int),MV.int p.2)) _ ?_ ?_ ?_ (mF cs) (λp hp=>?_)
 iterate 2 exact(az J)
 .rfl
 obtain⟨p1,p2⟩:=tY hp;have e:(2304*(p.1:Int)).toNat=2304*p.1:=by exact Pw
 have Yr:(Builtin.Int.intBits 2:Int)*(2304*(p.1:Int))<=2^27:=by
  have:Builtin.Int.intBits 2=2:=by decide
  exact rl this ((VC n4 hlen p2))
 have Jy:=sA (C:=C) (k:=k+40) 2 (2304*p.1) (by exact Px) Yr;replace Jy:=e▸Jy;have b1:=hb _ p1;exact aI (ao J) (aI aA (aI (se S J) (ao J) (fz _ _ (fu (by decide) (by decide)))) Jy) (fz _ _ (.of_left (j6 (n:=64) (by exact VD b1))))
end
noncomputable def lX(ah:acu)(a:Addr)(i:Nat):acw:=(List.range i).map λm=>vJ ah a (iS kQ ah m)
noncomputable def lY(ah:acu)(b:Addr)(i:Nat):acw:=(List.range i).map λm=>xj ah b (iS dQ ah m)
noncomputable def mH(ah:acu)(i:Nat):acw:=(List.range i).map λm=>pV (rM ah m)
section
variable{C:Cx}(K:SK C)(K2:SD C)(S:fN C){k:Nat}(L:Addr)(bh:Value)(D:acq)(ah:acu)(hl:ah.length<=63)(a b aP aT aO:Addr)
include S hl in
theorem Ib(m:Nat)(hm:m<3)(lP lT lO:acw):gq C (iL k L bh D) (vM ah a b aP aT aO lP lT lO m) (A5 0) .next (vS ah a b aP aT aO lP lT lO m):=by
 have b:=jG (gW ah (1+m)) (b:=4) (by decide);have e:((jO ah m:Nat):Int)=(gW ah (1+m)).fmod 4:=b;unfold vS;refine rl e ?_;have pl:((1+m:Nat):Int)=1+(m:Int):=by exact VE
 exact aE (aI (kG S ah hl (k:=k+39) (place:=1+m) J J (ao J) (pl▸aI aA (ao J) (fy _ _)) (by omega) J) aA (b9 _ _ (by decide))) (az J) J
noncomputable abbrev zp(vs vs':aC):Prop:=∀x st,vs'.lookup x=some st->vs.lookup x=some st
theorem oW{α:Type}(f:Nat->α)(i:Nat):(List.range (i+1)).map f=(List.range i).map f++[f i]:=by refine rl List.range_succ (rl aa2 ?_);rfl
include K K2 S hl in
theorem xo(m:Nat)(hm:m<3)(vs:aC)(hv:zp vs (Lh ah a b aP aT aO (mH ah m) (lY ah b m) (lX ah a m))) :
 ∃dG,zp dG (Lh ah a b aP aT aO (mH ah (m+1)) (lY ah b (m+1)) (lX ah a (m+1)))/\∀D,mz C (iL k L bh D) (aG vs "m" (.v (.int m))) RK .next dG:=by
 have lv:∀z w,(aG vs "m" w).lookup z=if z=("m":Str) then some w else vs.lookup z:=λz w=>au vs "m" w z
 have l1:(mH ah m).length<=100:=by unfold mH;refine rl (aai ..) (rl (aa6 ..) ?_);omega
 have l2:(lY ah b m).length<=100:=by unfold lY;refine rl (aai ..) (rl (aa6 ..) ?_);omega
 have l3:(lX ah a m).length<=100:=by unfold lX;refine rl (aai ..) (rl (aa6 ..) ?_);omega
 refine⟨vN ah a b aP aT aO (mH ah (m+1)) (lY ah b (m+1)) (lX ah a (m+1)) m,fc _ ⟨J,J,J,J,J,J,J,J,J,J,trivial⟩,λD=>?_⟩;refine lQ (vs':=vM ah a b aP aT aO (mH ah m) (lY ah b m) (lX ah a m) m) (fc _ ⟨(lv _ _).trans (hv _ _ J),(lv _ _).trans (hv _ _ J),(lv _ _).trans (hv _ _ J),(lv _ _).trans (hv _ _ J),(lv _ _).trans (hv _ _ J),(lv _ _).trans (hv _ _ J),(lv _ _).trans (hv _ _ J),(lv _ _).trans (hv _ _ J),(lv _ _).trans (hv _ _ J),(lv _ _).trans (hv _ _ J),lv _ _,trivial⟩) ?_;have e1:mH ah (m+1)=mH ah m++[pV (rM ah m)]:=oW _ m;have e2:lY ah b (m+1)=lY ah b m++[xj ah b (iS dQ ah m)]:=oW _ m;have e3:lX ah a (m+1)=lX ah a m++[vJ ah a (iS kQ ah m)]:=oW _ m;refine rl e1 (rl e2 (rl e3 ?_));have s0:=Ib S (k:=k) L bh D ah hl a b aP aT aO m hm (mH ah m) (lY ah b m) (lX ah a m);have s1:=A6 S (k:=k) L bh D ah hl m hm a b aP aT aO (mH ah m) (lY ah b m) (lX ah a m);have s2:=Lj K S (k:=k) L bh D ah m a b aP aT aO (mH ah m) (lY ah b m) (lX ah a m) l3;have s3:=Lk K2 S (k:=k) L bh D ah m a b aP aT aO (mH ah m) (lY ah b m) (lX ah a m++[vJ ah a (iS kQ ah m)]) l2;have s4:=Ia S (k:=k) L bh D ah m a b aP aT aO (mH ah m) (lY ah b m++[xj ah b (iS dQ ah m)]) (lX ah a m++[vJ ah a (iS kQ ah m)]) l1;exact aK s0 (aK s1 (aK s2 (aK s3 (aK s4 aJ))))
include K K2 S hl in
theorem N_(vs:aC)(hv:zp vs (Lh ah a b aP aT aO [] [] [])):∃vs',gq C (iL k L bh D) vs (oV 7) .next vs'/\zp vs' (Lh ah a b aP aT aO (mH ah 3) (lY ah b 3) (lX ah a 3)):=by refine nb λnn=>?_;obtain⟨v1,h1,E1⟩:=xo K K2 S (k:=k) L bh ah hl a b aP aT aO 0 (by decide) vs hv;obtain⟨v2,h2,E2⟩:=xo K K2 S (k:=k) L bh ah hl a b aP aT aO 1 (by decide) v1 h1;obtain⟨v3,h3,E3⟩:=xo K K2 S (k:=k) L bh ah hl a b aP aT aO 2 (by decide) v2 h2;refine nn<|⟨v3,qs (ms:=bz 0 3) (jB (dH (aM S.b8 Boot.«range» rfl) (aj aA ak)) 3 J (by decide) (by decide) (by decide) (by decide)) ⟨_,v1,.next,λDo=>cH (by exact(az J)),E1,_,v2,.next,λDo=>cH (by exact(az J)),E2,_,v3,.next,λDo=>cH (by exact(az J)),E3,J,J⟩ (λq=>nomatch q) (λ_=>rfl),h3⟩
end
noncomputable def iT(n:Nat):acr:=(o5 (topS 25)).drop n
section
variable{C:Cx}(K:SK C)(K2:SD C)(S:fN C){k:Nat}(L:Addr)(bh:Value)(D:acq)(ah:acu)(hl:ah.length<=63){P:Around->Prop}{v:MV}
include K K2 S hl in
theorem Ll(T:∀a b aP aT aO vs',zp vs' (Lh ah a b aP aT aO (mH ah 3) (lY ah b 3) (lX ah a 3))->eH P C (iL k L bh D) vs' (iT 8) v):eH P C (iL k L bh D) [("script",.v (iv ah))] (o5 (topS 25)) v:=by
 have n4:=je ah;refine bS (Yp S L bh D ah hl) ?_;refine bS (Yq S L bh D ah (c5 ah) n4.2) ?_;have s2:gq C (iL k L bh D) (O9 ah (c5 ah)) (oV 2) .next (aG (O9 ah (c5 ah)) "small_ring" (.v (gu ah))):=aE (cR (bV J K.o.wO (λ_ _=>.bZ _ J) J) (aj aA (aj (ao J) ak)) (cQ K.o.rX) ((lV K.o (k:=k+38) 3329 (c5 ah))).toV) (az J) J;refine bS s2 ?_;have s3:gq C (iL k L bh D) (aG (O9 ah (c5 ah)) "small_ring" (.v (gu ah))) (oV 3) .next (aG (aG (O9 ah (c5 ah)) "small_ring" (.v (gu ah))) "great_ring" (.v (gR ah))):=aE (cR (bV J K2.o.wO (λ_ _=>.bZ _ J) J) (aj aA (aj (ao J) ak)) (cQ K2.o.rX) ((lV K2.o (k:=k+38) 8380417 (c5 ah))).toV) (az J) J;refine bS s3 ?_;generalize hV:aG (aG (O9 ah (c5 ah)) "small_ring" (.v (gu ah))) "great_ring" (.v (gR ah))=V;have s4:gq C (iL k L bh D) V (oV 4) .next (aG V "first" (.v (cK 789 none (gu ah)))):=by subst hV;exact aE (cR (bV J K.o.BL (λ_ _=>.bZ _ J) J) (aj (ao J) ak) (cQ K.o.wQ) ((nO K.o (k:=k+38) (gu ah))).toV) (az J) J
 refine bS s4 (vI (x:="first") (by refine rl (au ..) (rl (aaN J ..) ?_);rfl) J λa=>?_);refine rl (iK ..) ?_;generalize ZY:aG V "first" (.v (.inst (some a) 789 [("ring",gu ah)]))=V';have s5:gq C (iL k L bh D) V' (oV 5) .next (aG V' "second" (.v (cK 221 none (gR ah)))):=by subst ZY;subst hV;exact aE (cR (bV J K2.o.BL (λ_ _=>.bZ _ J) J) (aj (ao J) ak) (cQ K2.o.wQ) ((nO K2.o (k:=k+38) (gR ah))).toV) (az J) J
 refine bS s5 (vI (x:="second") (by refine rl (au ..) (rl (aaN J ..) ?_);rfl) J λb=>?_);refine rl (iK ..) ?_;refine A2 (n1:="ones") (n2:="twos") (n3:="plain") J J J J J λaO aT aP=>?_;obtain⟨vs',E,hv⟩:=N_ K K2 S (k:=k) L bh D ah hl a b aP aT aO (aG (aG (aG (aG V' "second" (.v (.inst (some b) 221 [("ring",gR ah)]))) "plain" (.own aP [])) "twos" (.own aT [])) "ones" (.own aO [])) (fc (Lh ah a b aP aT aO [] [] []) (by subst ZY;subst hV;exact⟨J,J,J,J,J,J,J,J,J,J,trivial⟩));exact bS E (T a b aP aT aO vs' hv)
end
noncomputable def rN(ah:acu):acu:=(List.range 4).map λd=>gW ah (58+d)
noncomputable def rO(ah:acu):List PM:=(List.range 3).map (rM ah)
noncomputable def cV(ah:acu):PS:=(rN ah).foldl (fG (wholeOf (c5 ah))) ⟨rO ah,[],[]⟩
theorem qG{n:Nat}(h:n<=4):m7 (wholeOf n):=by
 have h1:(2:Nat)^(2304*n)<=2^9216:=abW (by decide) (by omega);have h2:(2:Nat)^9217<=2^30000:=abW (by decide) (by decide);have h3:(2:Nat)^9217=2^9216*2:=Nat.pow_succ 2 9216;have h0:0<(2:Nat)^(2304*n):=Nat.pow_pos (by decide);have h4:1<(2:Nat)^9216:=Nat.one_lt_two_pow (by decide);have e:wholeOf n=(((2:Nat)^(2304*n)+1:Nat):Int):=by unfold wholeOf;refine rl (Int.natCast_add ..) (rl (Int.natCast_pow ..) ?_);rfl
 have e2:(2:Int)^30000=(((2:Nat)^30000:Nat):Int):=by refine rl (Int.natCast_pow ..) ?_;rfl
 constructor
 .exact rl e ((VF h0))
 .exact rl e (rl e2 ((VG h1)))
theorem CE(ah:acu)(m:Nat):fD (wholeOf (c5 ah)) (rM ah m):=by
 have sh:=jx ah m;have hs:=jf ah m;have hw:=(qG (je ah).2).1;have r9:sq ah m<=2:=by unfold sq;exact Sx
 have c9:oY ah m<=2:=by unfold oY;omega
 have c0:0<oY ah m:=by unfold oY;exact Sy
 refine fD.nN (oY ah m) (by unfold rM zo;exact rl (aai ..) (rl (sh.hm ..) (sh.m0))) (by unfold rM zo;refine rl (aai ..) (rl (sh.hm ..) ?_);omega) c0 (by omega) (λr hr=>?_) λr hr x hx=>?_
 .obtain⟨r',hr',rfl⟩:=aan.mp hr
  exact rl (aai ..) (rl (sh.hn r' hr' ..) J)
 .obtain⟨r',hr',rfl⟩:=aan.mp hr
  obtain⟨cs,_,rfl⟩:=aan.mp hx;exact bT _ (by exact a7 hw)
theorem CF(ah:acu):rL (wholeOf (c5 ah)) (rN ah).length ⟨rO ah,[],[]⟩:=by refine⟨by simp[rO],by simp[rO,rN],by simp[rN],by simp[rN],λP hP=>?_⟩;obtain⟨m,_,rfl⟩:=aan.mp hP;exact CE ah m
noncomputable def v9(ah:acu)(a b aP aT aO:Addr)(lP lT lO:acw)(E:PS):aC:=[("script",.v (iv ah)),("n",.v (.int (c5 ah))),("whole",.v (.int (wholeOf (c5 ah)))),("small_ring",.v (gu ah)),("great_ring",.v (gR ah)),("first",.v (cK 789 (some a) (gu ah))),("second",.v (cK 221 (some b) (gR ah))),("plain",.own aP lP),("twos",.own aT lT),("ones",.own aO lO),("deeds",.v (.lst (E.ds.map fC))),("due",.v (.lst (E.td.map .str)))]
section
variable{C:Cx}(K:SK C)(K2:SD C)(S:fN C){k:Nat}(L:Addr)(bh:Value)(D:acq)(ah:acu)(hl:ah.length<=63){P:Around->Prop}{v:MV}
include S hl in
theorem Ys(a b aP aT aO:Addr)(lT lO:acw)(T:eH P C (iL k L bh D) (v9 ah a b aP aT aO ((cV ah).sh.map pV) lT lO (cV ah)) (iT 9) v):eH P C (iL k L bh D) (Lh ah a b aP aT aO (mH ah 3) lT lO) (iT 8) v:=by
 have hw:=qG (je ah).2;have e3:mH ah 3=(rO ah).map pV:=by unfold mH rO;refine rl aar ?_;rfl
 refine rl e3 ?_;have HD:Ev C (iL k L bh D) (Lh ah a b aP aT aO ((rO ah).map pV) lT lO) (eK (kE (oV 8) 0) 3) (iv (rN ah)):=by
  unfold rN;refine rl (tZ ..) ?_;refine aZ (jB (dH (aM S.b8 Boot.«range» rfl) (aj aA ak)) 4 J (by decide) (by decide) (by decide) (by decide)) (λL Do=>bX _ (az J) (c_ λd hd=>?_)) (λq=>nomatch q) J J (aaj J) (by simp[bz]) (λ_=>rfl);refine rl (kg ..) ?_;have pl:((58+d:Nat):Int)=58+(d:Int):=by exact VH
  exact kG S ah hl (k:=k+39) (place:=58+d) J J (ao J) (pl▸aI aA (ao J) (fy _ _)) (by omega) J
 exact D_ (Ec S (P:=P) (Γ:=iL k L bh D) (k:=k+34) J J J (wholeOf (c5 ah)) hw (rN ah) (rO ah) (CF ah) (by simp[rN]) (vs:=Lh ah a b aP aT aO ((rO ah).map pV) lT lO) (aP:=aP) J (ao J) HD J J) (gc (.inl J) (.inl J)) J J T
end
noncomputable def Jf(n:Nat):MV:=ay 473 none 7681 n
noncomputable def Jg(n:Nat):MV:=ay 270 none 7681 n
noncomputable def qH(n:Nat)(c:Addr):MV:=fT 745 634 (cK 789 (some c) (Jf n)) (Jf n) [[jd n]] false
noncomputable def xq(n:Nat)(c:Addr):MV:=fT 184 431 (cK 221 (some c) (Jg n)) (Jg n) [[jd n]] false
noncomputable def Oa(ah:acu)(a b aP aT aO c d:Addr)(lP lT lO:acw)(g h:MV)(E:PS):aC:=[("script",.v (iv ah)),("n",.v (.int (c5 ah))),("whole",.v (.int (wholeOf (c5 ah)))),("first",.v (cK 789 (some a) (gu ah))),("second",.v (cK 221 (some b) (gR ah))),("plain",.own aP lP),("twos",.own aT lT),("ones",.own aO lO),("deeds",.v (.lst (E.ds.map fC))),("due",.v (.lst (E.td.map .str))),("left_guests",.v (.lst [g,qH (c5 ah) c])),("right_guests",.v (.lst [h,xq (c5 ah) d]))]
theorem vK(n:Nat):Shape [[jd n]] 1 1:=⟨J,λr hr=>by simp only[List.mem_singleton] at hr;subst hr;rfl,by decide,by decide,by decide⟩
section
variable{C:Cx}(K:SK C)(K2:SD C)(S:fN C){k:Nat}(L:Addr)(bh:Value)(D:acq)(ah:acu){P:Around->Prop}{v:MV}
include K K2 S in
theorem Yt(a b aP aT aO:Addr)(lP lT lO:acw)(g h:MV)(hg:lT[0]?=some g)(hh:lO[0]?=some h)(E:PS)(T:∀c d,c≠a->d≠b->eH P C (iL k L bh D) (Oa ah a b aP aT aO c d lP lT lO g h E) (iT 15) v):eH P C (iL k L bh D) (v9 ah a b aP aT aO lP lT lO E) (iT 9) v:=by
 have n4:=je ah;generalize Lm:v9 ah a b aP aT aO lP lT lO E=V9;have s9:gq C (iL k L bh D) V9 (oV 9) .next (aG V9 "third_ring" (.v (Jf (c5 ah)))):=by refine nb λnn=>?_;subst Lm;exact nn<|aE (cR (bV J K.o.wO (λ_ _=>.bZ _ J) J) (aj aA (aj (ao J) ak)) (cQ K.o.rX) ((lV K.o (k:=k+38) 7681 (c5 ah))).toV) (az J) J
 refine bS s9 ?_;generalize MB:aG V9 "third_ring" (.v (Jf (c5 ah)))=Va;have s10:gq C (iL k L bh D) Va (oV 10) .next (aG Va "fourth_ring" (.v (Jg (c5 ah)))):=by subst MB;subst Lm;exact aE (cR (bV J K2.o.wO (λ_ _=>.bZ _ J) J) (aj aA (aj (ao J) ak)) (cQ K2.o.rX) ((lV K2.o (k:=k+38) 7681 (c5 ah))).toV) (az J) J
 refine bS s10 ?_;refine qe (x:="other_left") (y:="first") (Cc:=789) (b0:=a) (fs:=[("ring",Jf (c5 ah))]) (gs:=[("ring",gu ah)]) (fK:=[("third_ring",.v (Jf (c5 ah)))]) (by subst MB;subst Lm;rfl) J J (fc _ (by subst MB;subst Lm;exact⟨J,trivial⟩)) (λx st hx=>?_) (λDo=>?_) J λc hc=>?_
 .have:=mem_of_lookup hx
  simp only[List.mem_cons,Prod.mk.injEq,List.not_mem_nil,or_false] at this;exact⟨_,this.2,J⟩
 .exact cR (bV J K.o.BL (λ_ _=>.bZ _ J) J) (aj (ao J) ak) (cQ K.o.wQ) ((nO K.o (k:=k+38) (Jf (c5 ah)))).toV
 refine qe (x:="other_right") (y:="second") (Cc:=221) (b0:=b) (fs:=[("ring",Jg (c5 ah))]) (gs:=[("ring",gR ah)]) (fK:=[("fourth_ring",.v (Jg (c5 ah)))]) (by subst MB;subst Lm;rfl) J J (fc _ (by subst MB;subst Lm;exact⟨J,trivial⟩)) (λx st hx=>?_) (λDo=>?_) J λd hd=>?_
 .have:=mem_of_lookup hx
  simp only[List.mem_cons,Prod.mk.injEq,List.not_mem_nil,or_false] at this;exact⟨_,this.2,J⟩
 .exact cR (bV J K2.o.BL (λ_ _=>.bZ _ J) J) (aj (ao J) ak) (cQ K2.o.wQ) ((nO K2.o (k:=k+38) (Jg (c5 ah)))).toV
 generalize Yu:aG (aG (aG Va "fourth_ring" (.v (Jg (c5 ah)))) "other_left" (.v (.inst (some c) 789 [("ring",Jf (c5 ah))]))) "other_right" (.v (.inst (some d) 221 [("ring",Jg (c5 ah))]))=Vb;have rk:=K.gh (k:=k+31) none 7681 (c5 ah) [1] (by exact OR n4) n4.1;have rd:=K2.gh (k:=k+31) none 7681 (c5 ah) [1] (by exact OR n4) n4.1;have s13:gq C (iL k L bh D) Vb (oV 13) .next (aG Vb "left_guests" (.v (.lst [g,qH (c5 ah) c]))):=by refine nb λnn=>?_;subst Yu;subst MB;subst Lm;exact nn<|aE (eF (aj (jr (x:="twos") J J J aA (by decide) (by decide) hg (λ_ _=>rfl)) (aj (cR (ao J) (aj (v:=.lst (ek 634 (Jf (c5 ah)) [[jd (c5 ah)]])) (eF (aj (eF (aj (cR (ao J) (aj (eF (aj aA ak) (aae J)) ak) cJ (bQ K.o.jC rk)) ak) (aae J)) ak) (aae J)) ak) cJ (bQ K.o.fk ((K.Jc (k:=k+33) (some c) none 7681 (c5 ah) [[jd (c5 ah)]] 1 1 (vK _))))) ak)) (aae J)) (az J) J
 refine bS s13 ?_;have s14:gq C (iL k L bh D) (aG Vb "left_guests" (.v (.lst [g,qH (c5 ah) c]))) (oV 14) .next (aG (aG Vb "left_guests" (.v (.lst [g,qH (c5 ah) c]))) "right_guests" (.v (.lst [h,xq (c5 ah) d]))):=by subst Yu;subst MB;subst Lm;exact aE (eF (aj (jr (x:="ones") J J J aA (by decide) (by decide) hh (λ_ _=>rfl)) (aj (cR (ao J) (aj (v:=.lst (ek 431 (Jg (c5 ah)) [[jd (c5 ah)]])) (eF (aj (eF (aj (cR (ao J) (aj (eF (aj aA ak) (aae J)) ak) cJ (bQ K2.o.jC rd)) ak) (aae J)) ak) (aae J)) ak) cJ (bQ K2.o.fk ((K2.Jc (k:=k+33) (some d) none 7681 (c5 ah) [[jd (c5 ah)]] 1 1 (vK _))))) ak)) (aae J)) (az J) J
 refine bS s14 ?_;refine k7 (fc (Oa ah a b aP aT aO c d lP lT lO g h E) (by subst Yu;subst MB;subst Lm;exact⟨J,J,J,J,J,J,J,J,J,J,J,J,trivial⟩)) (T c d hc hd)
end
theorem Ic(l:acv):i0 (l.map Dat.str)=l.map MV.str:=by
 induction l with
 |nil=>rfl
 |cons a r ih=>simp only[List.map_cons,i0,eW,ih]
open Classical in
theorem zq{C:Cx}{k:Nat}(l:acv)(hl:∀x∈l,PyData.strOk x=true):iZ C (k+1) .NotEq (.lst (l.map .str)) (.lst (l.map .str)) (.bool false):=by
 have h:=lI (C:=C) (k:=k) (d:=.list (l.map Dat.str)) (e:=.list (l.map Dat.str)) (by simpa [kqdOk] using hl) (by simpa [kqdOk] using hl);have e1:eW (.list (l.map Dat.str)) = .lst (l.map .str):=by rw[eW,Ic]
 have e3:decide (Dat.list (l.map Dat.str)≠Dat.list (l.map Dat.str))=false:=by simp
 rw[e1,e3] at h;exact h
theorem Ie{whole:Int}{st:PS}{drawn:Int}(h:∀x∈st.td,PyData.strOk x=true):∀x∈(fG whole st drawn).td,PyData.strOk x=true:=λx hx=>by
 unfold fG at hx;split at hx
 .refine nb λnn=>?_
  rcases aag.mp hx with q |q
  .exact nn<|h x q
  .refine nn ?_
   refine rl (aam.mp q) ?_;decide +kernel
 split at hx
 .rcases aag.mp hx with q |q
  .exact h x q
  .refine rl (aam.mp q) ?_;decide +kernel
 .rcases aag.mp hx with q |q
  .exact h x q
  .refine rl (aam.mp q) ?_;decide +kernel
theorem Eg{whole:Int}:∀(ds:acu){st:PS},(∀x∈st.td,PyData.strOk x=true)->∀x∈(ds.foldl (fG whole) st).td,PyData.strOk x=true:=by
 intro ll
 induction ll with
 |nil=>
  intro st h;exact h
 |cons d ds ih=>
  intro st h;exact ih (Ie h)
theorem Ig(ah:acu):∀x∈(cV ah).td,PyData.strOk x=true:=Eg _ n0
noncomputable def Ih(ah:acu):List dR:=(List.range 3).map (iS kQ ah)
noncomputable def EC(ah:acu):List dR:=(List.range 3).map (iS dQ ah)
noncomputable def qf(ah:acu):List dR×List Str:=(cV ah).ds.foldl (dB kQ (c5 ah)) (Ih ah,[])
noncomputable def qI(ah:acu):List dR×List Str:=(cV ah).ds.foldl (dB dQ (c5 ah)) (EC ah,[])
theorem Ii{q:Int}(hq:0<q)(cs:acu):Red q (b_ q cs):=pX hq cs λc=>c
theorem ue(ah:acu)(m:Nat){q:Int}(hq:0<q):(iS q ah m).ok q (c5 ah):=by
 have sh:=jx ah m;have hs:=jf ah m;have r9:sq ah m<=2:=by unfold sq;exact Sx
 have c9:oY ah m<=2:=by unfold oY;omega
 have c0:0<oY ah m:=by unfold oY;exact Sy
 refine⟨⟨⟨?_,λr hr=>?_,sh.m0,sh.m9,sh.n9⟩,λr hr cs hcs=>?_,λr hr cs hcs=>?_⟩,c0,by show sq ah m<=30/\oY ah m<=30;exact VI r9 c9⟩
 .show((iD ah m).map _).length=_
  exact rl (aai ..) (sh.hm)
 .obtain⟨r',hr',rfl⟩:=aan.mp hr
  exact rl (aai ..) ((sh.hn r' hr'))
 .obtain⟨r',hr',rfl⟩:=aan.mp hr
  obtain⟨c',jV,rfl⟩:=aan.mp hcs;show(b_ q c').length=_;rw[b_,aai];exact((jU hr').2 c' jV).1
 .obtain⟨r',hr',rfl⟩:=aan.mp hr
  obtain⟨c',jV,rfl⟩:=aan.mp hcs;exact Ii hq c'
section
variable{C:Cx}(K:SK C)(K2:SD C)(S:fN C){k:Nat}(L:Addr)(bh:Value)(D:acq)(ah:acu){v:MV}
include K K2 S in
theorem RL(a b aP aT aO c d:Addr)(hc:c≠a)(hd:d≠b)(lP:acw)(g h:MV)(hg:g=xj ah b (iS dQ ah 0))(hh:h=vJ ah a (iS kQ ah 0))
 (dk:jl kQ (c5 ah) (cV ah).ds (Ih ah,[])) (dd:jl dQ (c5 ah) (cV ah).ds (EC ah,[])) (tk:(qf ah).2=(cV ah).td) (td:(qI ah).2=(cV ah).td)
 (T:eH (λA=>A.frames=some [(iL k L bh D).env]) C (iL k L bh D) (Oa ah a b aP aT aO c d lP ((qI ah).1.map (xj ah b)) ((qf ah).1.map (vJ ah a)) g h (cV ah)) (iT 16) v) :
 eH (λA=>A.frames=some [(iL k L bh D).env]) C (iL k L bh D) (Oa ah a b aP aT aO c d lP (lY ah b 3) (lX ah a 3) g h (cV ah)) (iT 15) v:=by
 have n4:=je ah;have eK:lX ah a 3=(Ih ah).map (oQ kN a none kQ (c5 ah)):=by unfold lX Ih;rw[aar];rfl
 have eD:lY ah b 3=(EC ah).map (oQ dN b none dQ (c5 ah)):=by unfold lY EC;rw[aar];rfl
 rw[eK,eD];have gk:∀z,z=g\/z=qH (c5 ah) c->r_ kN C a z:=λz hz=>by
  rcases hz with rfl |rfl
  .rw[hg];exact .inl ⟨_,_,J⟩
  .exact .inr ⟨c,Jf (c5 ah),[[jd (c5 ah)]],false,abw hc,J⟩
 have gd:∀z,z=h\/z=xq (c5 ah) d->r_ dN C b z:=λz hz=>by
  rcases hz with rfl |rfl
  .rw[hh];exact .inl ⟨_,_,J⟩
  .exact .inr ⟨d,Jg (c5 ah),[[jd (c5 ah)]],false,abw hd,J⟩
 have pk:=Rn K.toG3 (k:=k+23) (q:=kQ) ⟨by decide,by decide,PC n4,OR n4⟩ a none;have pd:=Ro K2.toG3 (k:=k+23) (q:=dQ) ⟨by decide,by decide,PC n4,OR n4⟩ b none;have ck:=zq (C:=C) (k:=k+39) (cV ah).td (Ig ah);have r1:=λ(e1 e2 e4:Expr) p1 p2 p H1 H2 H4 he Lg RI=>CC pk S (Γ:=iL k L bh D) J (y:="ones") J J J J g (qH (c5 ah) c) gk (cV ah).ds (Ih ah) (λA hA=>by obtain⟨m,_,rfl⟩:=aan.mp hA;exact ue ah m (by decide)) dk (vs:=Oa ah a b aP aT aO c d lP ((EC ah).map (oQ dN b none dQ (c5 ah))) ((Ih ah).map (oQ kN a none kQ (c5 ah))) g h (cV ah)) (aS:=aO) J (e1:=e1) (e2:=e2) (e4:=e4) (p1:=p1) (p2:=p2) (p:=p) H1 H2 H4 he Lg RI;have r2:=λ(e1 e2 e4:Expr) p1 p2 p H1 H2 H4 he Lg RI=>CC pd S (Γ:=iL k L bh D) J (y:="twos") J J J J h (xq (c5 ah) d) gd (cV ah).ds (EC ah) (λA hA=>by obtain⟨m,_,rfl⟩:=aan.mp hA;exact ue ah m (by decide)) dd (vs:=Oa ah a b aP aT aO c d lP ((EC ah).map (oQ dN b none dQ (c5 ah))) ((qf ah).1.map (oQ kN a none kQ (c5 ah))) g h (cV ah)) (aS:=aT) J (e1:=e1) (e2:=e2) (e4:=e4) (p1:=p1) (p2:=p2) (p:=p) H1 H2 H4 he Lg RI;change ((cV ah).ds.foldl (dB kQ (c5 ah)) (Ih ah,[])).2=_ at tk;change ((cV ah).ds.foldl (dB dQ (c5 ah)) (EC ah,[])).2=_ at td;rw[tk] at r1;rw[td] at r2;exact zh (Ea (CA (r1 _ _ _ _ _ _ (ao J) (ao J) (ao J) J J J) (ao J) ck) (CA (r2 _ _ _ _ _ _ (ao J) (ao J) (ao J) J J J) (ao J) ck)) T
end
noncomputable abbrev qg:=List Rows
noncomputable def dI(l:qg):MV:=.lst (l.map gn)
noncomputable def g_(ah:acu):qg:=(cV ah).sh.map λP=>P.map λrow=>row.map λx=>j8 (c5 ah) (dU (wholeOf (c5 ah)) x)
noncomputable def qh(q:Int)(l:qg):qg:=l.map λR=>R.map λr=>r.map (b_ q)
noncomputable def RM(ah:acu)(lP lT lO:acw):aC:=[("script",.v (iv ah)),("n",.v (.int (c5 ah))),("whole",.v (.int (wholeOf (c5 ah)))),("plain",.v (.lst lP)),("twos",.v (.lst lT)),("ones",.v (.lst lO))]
noncomputable def Jh(ah:acu)(lP lT lO:acw)(e l r:MV):aC:=[("script",.v (iv ah)),("n",.v (.int (c5 ah))),("whole",.v (.int (wholeOf (c5 ah)))),("plain",.v (.lst lP)),("twos",.v (.lst lT)),("ones",.v (.lst lO)),("exact",.v e),("lefts",.v l),("rights",.v r)]
noncomputable def Ij(l:qg):Prop:=l.length<=100/\∀R∈l,R.length<=100/\∀r∈R,r.length<=100/\∀cs∈r,cs.length<=100
theorem vL(q:Int)(l:qg):dI (qh q l) = .lst (l.map λR=>.lst (R.map λr=>.lst (r.map λcs=>iv (b_ q cs)))):=by unfold dI qh gn;refine rl aar ?_;congr 1;refine aaz λR _=>?_;simp only[Function.comp_def,List.map_map]
section
variable{C:Cx}(S:fN C){k:Nat}(L:Addr)(bh:Value)(D:acq)(ah:acu){v:MV}{P:Around->Prop}
include S in
theorem RN(sh:List PM)(hsh:sh.length<=100)(eN:∀P∈sh,fD (wholeOf (c5 ah)) P)(lT lO:acw)(ex:qg)(hex:ex=sh.map λP=>P.map λrow=>row.map λx=>j8 (c5 ah) (dU (wholeOf (c5 ah)) x))(hsm:Ij ex)
 (T:eH P C (iL k L bh D) (Jh ah (sh.map pV) lT lO (dI ex) (dI (qh kQ ex)) (dI (qh dQ ex))) (iT 19) v):eH P C (iL k L bh D) (RM ah (sh.map pV) lT lO) (iT 16) v:=by
 have n4:=je ah;have s16:gq C (iL k L bh D) (RM ah (sh.map pV) lT lO) (oV 16) .next (aG (RM ah (sh.map pV) lT lO) "exact" (.v (dI ex))):=by
  have e1:dI ex = .lst (sh.map λP=>.lst (P.map λrow=>.lst (row.map λx=>iv (j8 (c5 ah) (dU (wholeOf (c5 ah)) x))))):=by refine rl hex ?_;unfold dI gn;refine rl aar ?_;congr 1;refine aaz λR _=>?_;simp only[Function.comp_def,List.map_map]
  refine rl e1 ?_;refine cY (bK (ao J)) (λL Do=>dW pV _ (az J) sh (λM hM=>?_)) (λq=>nomatch q) J J (aaj J) (by refine rl (aai ..) ?_;omega) (λ_=>rfl) (az J) J;have hm:=eN M hM;refine aZ (bK (ao J)) (λL Do=>dW iv _ (az J) M (λr hr=>?_)) (λq=>nomatch q) J J (aaj J) (by refine rl (aai ..) ?_;have:=hm.m9;omega) (λ_=>rfl);refine aZ (bK (ao J)) (λL Do=>dW MV.int _ (az J) r (λx hx=>?_)) (λq=>nomatch q) J J (aaj J) (by refine rl (aai ..) (rl (hm.row r hr ..) ?_);have:=hm.n9;omega) (λ_=>rfl);exact cR (bV J S.G8 (λ_ _=>.bZ _ J) J) (aj (ao J) (aj (ao J) (aj (ao J) ak))) (cQ S.DQ) (AO S (k:=k+39) x (wholeOf (c5 ah)) (c5 ah) (by exact VJ n4)).toV
 refine bS s16 ?_;generalize hV:aG (RM ah (sh.map pV) lT lO) "exact" (.v (dI ex))=V;have s17:gq C (iL k L bh D) V (oV 17) .next (aG V "lefts" (.v (dI (qh kQ ex)))):=by
  refine nb λnn=>?_;subst hV;refine nn ?_;refine rl (vL ..) ?_;refine cY (bK (ao J)) (λL Do=>dW gn _ (az J) ex (λM hM=>?_)) (λq=>nomatch q) J J (aaj J) (by rw[aai];have:=hsm.1;omega) (λ_=>rfl) (az J) J;refine aZ (bK (ao J)) (λL Do=>dW (λr=>.lst (r.map iv)) _ (az J) M (λr hr=>?_)) (λq=>nomatch q) J J (aaj J) (by refine rl (aai ..) ?_;have:=(hsm.2 M hM).1;omega) (λ_=>rfl);refine aZ (bK (ao J)) (λL Do=>dW iv _ (az J) r (λcs hcs=>?_)) (λq=>nomatch q) J J (aaj J) (by refine rl (aai ..) ?_;have:=((hsm.2 M hM).2 r hr).1;omega) (λ_=>rfl);have e2:iv (b_ kQ cs) = .lst (cs.map λc=>.int (c.fmod kQ)):=by unfold iv b_;refine rl aar ?_;rfl
  refine rl e2 ?_;refine aZ (bK (ao J)) (λL Do=>dW MV.int _ (az J) cs (λc hc=>?_)) (λq=>nomatch q) J J (aaj J) (by refine rl (aai ..) ?_;have:=((hsm.2 M hM).2 r hr).2 cs hcs;omega) (λ_=>rfl);exact aI (ao J) aA (b9 _ _ (by decide))
 refine bS s17 ?_;generalize Ob:aG V "lefts" (.v (dI (qh kQ ex)))=V2;have s18:gq C (iL k L bh D) V2 (oV 18) .next (aG V2 "rights" (.v (dI (qh dQ ex)))):=by
  subst Ob;subst hV;refine rl (vL dQ ..) ?_;refine cY (bK (ao J)) (λL Do=>dW gn _ (az J) ex (λM hM=>?_)) (λq=>nomatch q) J J (aaj J) (by rw[aai];have:=hsm.1;omega) (λ_=>rfl) (az J) J;refine aZ (bK (ao J)) (λL Do=>dW (λr=>.lst (r.map iv)) _ (az J) M (λr hr=>?_)) (λq=>nomatch q) J J (aaj J) (by refine rl (aai ..) ?_;have:=(hsm.2 M hM).1;omega) (λ_=>rfl);refine aZ (bK (ao J)) (λL Do=>dW iv _ (az J) r (λcs hcs=>?_)) (λq=>nomatch q) J J (aaj J) (by refine rl (aai ..) ?_;have:=((hsm.2 M hM).2 r hr).1;omega) (λ_=>rfl);have e2:iv (b_ dQ cs) = .lst (cs.map λc=>.int (c.fmod dQ)):=by unfold iv b_;refine rl aar ?_;rfl
  refine rl e2 ?_;refine aZ (bK (ao J)) (λL Do=>dW MV.int _ (az J) cs (λc hc=>?_)) (λq=>nomatch q) J J (aaj J) (by refine rl (aai ..) ?_;have:=((hsm.2 M hM).2 r hr).2 cs hcs;omega) (λ_=>rfl);exact aI (ao J) aA (b9 _ _ (by decide))
 refine bS s18 ?_;subst Ob;subst hV;exact T
end
noncomputable def qi(R:Rows):Dat:=.list (R.map λr=>.list (r.map λcs=>.list (cs.map .int)))
noncomputable def vO(l:qg):Dat:=.list (l.map qi)
theorem oX:∀ds:List Dat,i0 ds=ds.map eW:=by
 intro ll
 induction ll with
 |nil=>
  exact J
 |cons d ds ih=>
  rw[i0,ih];rfl
theorem uf(R:Rows):eW (qi R)=gn R:=by unfold qi gn;rw[eW,oX,aar];congr 1;refine aaz λr _=>?_;show eW (.list _)=_;rw[eW,oX,aar];congr 1;refine aaz λcs _=>?_;show eW (.list _)=_;rw[eW,kT];rfl
theorem Ik(l:qg):eW (vO l)=dI l:=by unfold vO dI;rw[eW,oX,aar];congr 1;exact aaz λR _=>uf R
theorem ug(R:Rows){n:Nat}:kqdOk (n+3) (qi R)=true:=by simp[qi,kqdOk]
theorem zu(l:qg){n:Nat}:kqdOk (n+4) (vO l)=true:=by simp only[vO,kqdOk,List.all_eq_true];intro d hd;obtain⟨R,_,rfl⟩:=aan.mp hd;exact ug R
theorem Eh{R R':Rows}(h:qi R=qi R'):R=R':=by
 have h1:=Dat.list.inj h;have Yv:∀{r r':ack},(r.map λcs=>Dat.list (cs.map .int))=(r'.map λcs=>Dat.list (cs.map .int))->r=r':=λ{r r'} h=>by refine(List.map_inj_right λx y hxy=>?_).mp h;exact qT (Dat.list.inj hxy)
 exact(List.map_inj_right λx y hxy=>Yv (Dat.list.inj hxy)).mp h1
section
variable{C:Cx}{k:Nat}{Γ:Gm}{vs:aC}
theorem zv{x y:Expr}{pos:Pos}(H:Ts C Γ vs x false)(H2:Ts C Γ vs y false):Ts C Γ vs (.BoolOp .Or [x,y] pos) false:=
 By ⟨false,H,by show SR C Γ vs .Or [y] false;exact⟨false,H2,J⟩⟩
open Classical in
theorem rz(l:qg):iZ C (k+1) .NotEq (dI l) (dI l) (.bool false):=by
 have h:=lI (C:=C) (k:=k) (zu l (n:=4)) (zu l (n:=4));have e3:decide (vO l≠vO l)=false:=by simp
 rw[Ik,e3] at h;exact h
open Classical in
theorem rC(R R':Rows):iZ C (k+1) .Eq (gn R) (gn R') (.bool (decide (R=R'))):=by have h:=tu (C:=C) (k:=k) (ug R (n:=5)) (ug R' (n:=5));rw[uf,uf] at h;have e:(decide (qi R=qi R'))=decide (R=R'):=abz.mpr ⟨Eh,λq=>by rw[q]⟩;rw[e] at h;exact h
theorem rD(a b:Bool):iZ C (k+1) .NotEq (.bool a) (.bool b) (.bool (a !=b)):=λA s D x y G I dk bx bG=>by
 cases bx with |bool a=>cases bG with |bool b=>
 refine ne_dataH (Reads.bool (b:=a)) (Reads.bool (b:=b)) (by rfl) (by rfl) (by have:=G.units;exact S9 this) ?_;have e:(!PyData.eqv (.bool a) (.bool b))=(a !=b):=by cases a<;>cases b<;>decide +kernel
 refine rl e ?_;exact nj.bool I _
end
noncomputable def g6(A:dR):Rows:=fq A.M A.N A.at
section
variable{C:Cx}(K:SK C)(K2:SD C)(S:fN C){k:Nat}(L:Addr)(bh:Value)(D:acq)(ah:acu)(hl:ah.length<=63){v:MV}{P:Around->Prop}
include K K2 S in
theorem RO(a b:Addr)(lP:acw)(mk md:List dR)(hk:mk.length<=100/\∀A∈mk,A.ok kQ (c5 ah))(hd:md.length<=100/\∀A∈md,A.ok dQ (c5 ah))(e:MV)(l r:qg)(hl:mk.map g6=l)(hr:md.map g6=r) :
 gq C (iL k L bh D) (Jh ah lP (md.map (xj ah b)) (mk.map (vJ ah a)) e (dI l) (dI r)) (oV 19) .next (Jh ah lP (md.map (xj ah b)) (mk.map (vJ ah a)) e (dI l) (dI r)):=by
 have n4:=je ah;have E1:Ev C (iL k L bh D) (Jh ah lP (md.map (xj ah b)) (mk.map (vJ ah a)) e (dI l) (dI r)) (eK (eK (kE (oV 19) 0) 0) 0) (dI l):=by
  have ee:dI l = .lst (mk.map λA=>gn (g6 A)):=by refine rs hl ?_;unfold dI;refine rl aar ?_;rfl
  refine rl ee ?_;refine aZ (bK (ao J)) (λL Do=>dW (vJ ah a) _ (az J) mk (λA hA=>?_)) (λq=>nomatch q) J J (aaj J) (by refine rl (aai ..) ?_;omega) (λ_=>rfl);exact cR (bV J S.G9 (λ_ _=>.bZ _ J) J) (aj (ao J) ak) (cQ S.Cj) (tV K.o S (k:=k+36) (cK 789 (some a) (gu ah)) (gu ah) ⟨none,kQ,c5 ah,J⟩ A kQ (c5 ah) (hk.2 A hA) (by exact OR n4)).toV
 have E2:Ev C (iL k L bh D) (Jh ah lP (md.map (xj ah b)) (mk.map (vJ ah a)) e (dI l) (dI r)) (eK (eK (kE (oV 19) 0) 1) 0) (dI r):=by
  have ee:dI r = .lst (md.map λA=>gn (g6 A)):=by refine rs hr ?_;unfold dI;refine rl aar ?_;rfl
  refine rl ee ?_;refine aZ (bK (ao J)) (λL Do=>dW (xj ah b) _ (az J) md (λA hA=>?_)) (λq=>nomatch q) J J (aaj J) (by refine rl (aai ..) ?_;omega) (λ_=>rfl);exact cR (bV J S.G9 (λ_ _=>.bZ _ J) J) (aj (ao J) ak) (cQ S.Cj) (tV K2.o S (k:=k+36) (cK 221 (some b) (gR ah)) (gR ah) ⟨none,dQ,c5 ah,J⟩ A dQ (c5 ah) (hd.2 A hA) (by exact OR n4)).toV
 have c1:=rz (C:=C) (k:=k+39) l;have c2:=rz (C:=C) (k:=k+39) r;exact bq (zv (bw E1 (ao J) c1) (bw E2 (ao J) c2)) aJ
end
noncomputable def Yw(ah:acu)(n:Nat):Nat:=((gW ah 4).fmod n).toNat
noncomputable def Yx(ah:acu)(n:Nat):Nat:=((gW ah 5).fmod n).toNat
section
variable{C:Cx}(S:fN C){k:Nat}(L:Addr)(bh:Value)(D:acq)(ah:acu)(hl:ah.length<=63){v:MV}{P:Around->Prop}
include S hl in
theorem RS(lP lT lO:acw)(h0:0<lP.length)(h9:lP.length<=100)(e l r:MV):gq C (iL k L bh D) (Jh ah lP lT lO e l r) (oV 20) .next (aG (Jh ah lP lT lO e l r) "i" (.v (.int (Yw ah lP.length:Nat)))):=by have b:=jG (gW ah 4) (b:=lP.length) (by exact a1 h0);have e1:((Yw ah lP.length:Nat):Int)=(gW ah 4).fmod lP.length:=b;refine rl e1 ?_;exact aE (aI (kG S ah hl (k:=k+39) (place:=4) J J (ao J) aA (by decide) J) (bU (aM S.fU Boot.«len» rfl) (aj (ao J) ak) J (iQ (by omega))) (b9 _ _ (by exact zJ h0))) (az J) J
include S hl in
theorem RT(lP lT lO:acw)(h0:0<lP.length)(h9:lP.length<=100)(e l r:MV)(i:Int):gq C (iL k L bh D) (aG (Jh ah lP lT lO e l r) "i" (.v (.int i))) (oV 21) .next (aG (aG (Jh ah lP lT lO e l r) "i" (.v (.int i))) "j" (.v (.int (Yx ah lP.length:Nat)))):=by have b:=jG (gW ah 5) (b:=lP.length) (by exact a1 h0);have e1:((Yx ah lP.length:Nat):Int)=(gW ah 5).fmod lP.length:=b;refine rl e1 ?_;exact aE (aI (kG S ah hl (k:=k+39) (place:=5) J J (ao J) aA (by decide) J) (bU (aM S.fU Boot.«len» rfl) (aj (ao J) ak) J (iQ (by omega))) (b9 _ _ (by exact zJ h0))) (az J) J
end
theorem lZ{α:Type}{N N':Nat}{g g':Nat->α}(h:(List.range N).map g=(List.range N').map g'):N=N'/\∀j,j<N->g j=g' j:=by have hl:=aaJ List.length h;simp only[List.length_map,List.length_range] at hl;subst hl;refine⟨J,λj hj=>?_⟩;have:=aaJ (λl=>l[j]?) h;simp only[List.getElem?_map,List.getElem?_range hj,Option.map_some,Option.some.injEq] at this;exact this
theorem zw{M N M' N':Nat}{g g':Nat->Nat->acu}(h0:0<M):fq M N g=fq M' N' g'↔(M=M'/\N=N')/\∀i,i<M->∀j,j<N->g i j=g' i j:=by
 constructor
 .intro h
  obtain⟨h1,h2⟩:=lZ (g:=λi=>(List.range N).map (g i)) (g':=λi=>(List.range N').map (g' i)) h;exact⟨⟨h1,(lZ (h2 0 h0)).1⟩,λi hi j hj=>(lZ (h2 i hi)).2 j hj⟩
 .rintro⟨⟨rfl,rfl⟩,h⟩
  unfold fq;refine aaz λi hi=>aaz λj hj=>?_;exact h i (aa7.mp hi) j (aa7.mp hj)
noncomputable def RU(A B:dR):Bool:=BN A.rows B.rows A.tr B.tr A.m A.n B.m B.n
theorem CG{q:Int}{nn:Nat}{A B:dR}(hA:A.ok q nn):RU A B=decide (g6 A=g6 B):=by
 have p:=dR.pos hA;have key:=zw (M:=A.M) (N:=A.N) (M':=B.M) (N':=B.N) (g:=A.at) (g':=B.at) p.1;rw[abd,abu];unfold g6;rw[key];unfold RU BN;show(if A.M=B.M/\A.N=B.N then(Mn A.rows B.rows A.tr B.tr A.M A.N).all id else false)=true↔_;by_cases hd:A.M=B.M/\A.N=B.N
 .refine rl (aaN hd) ?_
  unfold Mn;simp only[List.all_eq_true,List.mem_flatMap,List.mem_map,List.mem_range,id];constructor
  .intro h
   refine⟨hd,λi hi j hj=>?_⟩;exact aaj (h _ ⟨i,hi,j,hj,J⟩)
  .rintro⟨_,h⟩ x ⟨i,hi,j,hj,rfl⟩
   exact aaK (h i hi j hj)
 .refine rl (aaD hd) ?_
  constructor
  .intro h
   refine nb λnn=>?_;cases h
  .rintro⟨h,_⟩;exact absurd h hd
section
variable{C:Cx}(K:SK C)(K2:SD C)(S:fN C){k:Nat}(L:Addr)(bh:Value)(D:acq)(ah:acu){v:MV}{P:Around->Prop}
include K in
theorem Oc(a:Addr)(A B:dR)(hA:A.ok kQ (c5 ah))(hB:B.ok kQ (c5 ah)):iZ C (k+40) .Eq (vJ ah a A) (vJ ah a B) (.bool (decide (g6 A=g6 B))):=by refine rs (CG hA) ?_;exact o8 K.o.Me K.o.QN (Rb K.toG3 K.x (k:=k+28) (cK 789 (some a) (gu ah)) (gu ah) ⟨none,kQ,c5 ah,J⟩ A.rows B.rows A.tr B.tr A.m A.n B.m B.n hA.jw.toShape hB.jw.toShape ⟨hA.Mt.2,hA.Mt.1⟩)
include K2 in
theorem Od(a:Addr)(A B:dR)(hA:A.ok dQ (c5 ah))(hB:B.ok dQ (c5 ah)):iZ C (k+40) .Eq (xj ah a A) (xj ah a B) (.bool (decide (g6 A=g6 B))):=by refine rs (CG hA) ?_;exact o8 K2.o.Me K2.o.QN (Rd K2.toG3 K2.x (k:=k+28) (cK 221 (some a) (gR ah)) (gR ah) ⟨none,dQ,c5 ah,J⟩ A.rows B.rows A.tr B.tr A.m A.n B.m B.n hA.jw.toShape hB.jw.toShape ⟨hA.Mt.2,hA.Mt.1⟩)
include K K2 S in
theorem RV(a b:Addr)(lP:acw)(mk md:List dR)(hk:mk.length<=100/\∀A∈mk,A.ok kQ (c5 ah))(hd:md.length<=100/\∀A∈md,A.ok dQ (c5 ah))(e:MV)(i j:Nat)(hik:i<mk.length)(hjk:j<mk.length)(hid:md.length=mk.length){vs:aC}
 (hvs:vs=aG (aG (Jh ah lP (md.map (xj ah b)) (mk.map (vJ ah a)) e (dI (mk.map g6)) (dI (md.map g6))) "i" (.v (.int i))) "j" (.v (.int j))) :
 gq C (iL k L bh D) vs (oV 22) .next vs:=by
 have gk:∀z,(hz:z<mk.length)->(mk.map (vJ ah a))[((z:Nat):Int).toNat]?=some (vJ ah a mk[z]):=λz hz=>by refine rl (aaV ..) (rl (aav ..) (rl (aak hz ..) ?_));rfl
 have gd:∀z,(hz:z<md.length)->(md.map (xj ah b))[((z:Nat):Int).toNat]?=some (xj ah b md[z]):=λz hz=>by refine rl (aaV ..) (rl (aav ..) (rl (aak hz ..) ?_));rfl
 have rk:∀z,(hz:z<mk.length)->((mk.map g6).map gn)[((z:Nat):Int).toNat]?=some (gn (g6 mk[z])):=λz hz=>by refine rl (aaV ..) (rl (aav ..) (rl (aav ..) (rl (aak hz ..) ?_)));rfl
 have rd:∀z,(hz:z<md.length)->((md.map g6).map gn)[((z:Nat):Int).toNat]?=some (gn (g6 md[z])):=λz hz=>by refine rl (aaV ..) (rl (aav ..) (rl (aav ..) (rl (aak hz ..) ?_)));rfl
 have hidx:i<md.length:=by exact Sp hik hid
 have Oe:j<md.length:=by exact Sp hjk hid
 have c1:=Oc K (k:=k) ah a mk[i] mk[j] (hk.2 _ (aaE hik)) (hk.2 _ (aaE hjk));have c2:=Od K2 (k:=k) ah b md[i] md[j] (hd.2 _ (aaE hidx)) (hd.2 _ (aaE Oe));have q1:=rC (C:=C) (k:=k+39) (g6 mk[i]) (g6 mk[j]);have q2:=rC (C:=C) (k:=k+39) (g6 md[i]) (g6 md[j]);have b1:=rD (C:=C) (k:=k+39) (decide (g6 mk[i]=g6 mk[j])) (decide (g6 mk[i]=g6 mk[j]));have b2:=rD (C:=C) (k:=k+39) (decide (g6 md[i]=g6 md[j])) (decide (g6 md[i]=g6 md[j]));rw[bne_self_eq_false] at b1 b2;subst hvs;exact bq (zv
  (bw (kr (bC (ao J) (ao J) (by omega) (by omega) (gk i hik) (λ_ _=>rfl)) (bC (ao J) (ao J) (by omega) (by omega) (gk j hjk) (λ_ _=>rfl)) c1) (kr (bC (ao J) (ao J) (by omega) (by omega) (rk i hik) (λ_ _=>rfl)) (bC (ao J) (ao J) (by omega) (by omega) (rk j hjk) (λ_ _=>rfl)) q1) b1)
  (bw (kr (bC (ao J) (ao J) (by omega) (by omega) (gd i hidx) (λ_ _=>rfl)) (bC (ao J) (ao J) (by omega) (by omega) (gd j Oe) (λ_ _=>rfl)) c2) (kr (bC (ao J) (ao J) (by omega) (by omega) (rd i hidx) (λ_ _=>rfl)) (bC (ao J) (ao J) (by omega) (by omega) (rd j Oe) (λ_ _=>rfl)) q2) b2)) aJ
end
noncomputable def eu(sh:List PM):PM:=sh[sh.length-1]?.getD []
noncomputable def l8(ah:acu)(P:PM):Nat:=((gW ah 6).fmod P.length).toNat
noncomputable def nY(ah:acu)(P:PM):Nat:=((gW ah 7).fmod (pW P)).toNat
noncomputable def O_(ah:acu):Nat:=((gW ah 8).fmod 40).toNat
noncomputable def bF(ah:acu):Int:=2^O_ ah
noncomputable def dM(ah:acu):Nat:=((gW ah 9).fmod 3).toNat
noncomputable def iX(ah:acu):acu:=[3329,8380417,bF ah]
noncomputable def RX(ah:acu)(sh:List PM)(e:MV):aC:=[("script",.v (iv ah)),("plain",.v (.lst (sh.map pV))),("exact",.v e)]
noncomputable def RY(ah:acu)(sh:List PM)(e:MV):aC:=[("script",.v (iv ah)),("plain",.v (.lst (sh.map pV))),("exact",.v e),("last",.v (.int (sh.length-1:Nat))),("r",.v (.int (l8 ah (eu sh)))),("c",.v (.int (nY ah (eu sh)))),("third",.v (.int (bF ah))),("turn",.v (.int (dM ah))),("moduli",.v (iv (iX ah)))]
section
variable{C:Cx}(S:fN C){k:Nat}(L:Addr)(bh:Value)(D:acq)(ah:acu)(hl:ah.length<=63){v:MV}{P:Around->Prop}
include S hl in
theorem RZ(sh:List PM)(h0:0<sh.length)(h9:sh.length<=100)(w:Int)(eN:fD w (eu sh))(e:MV)(T:eH P C (iL k L bh D) (RY ah sh e) (iT 29) v):eH P C (iL k L bh D) (RX ah sh e) (iT 23) v:=by
 have ls:(sh.map pV).length<=1000:=by refine rl (aai ..) ?_;omega
 have s23:gq C (iL k L bh D) (RX ah sh e) (oV 23) .next (aG (RX ah sh e) "last" (.v (.int (sh.length-1:Nat)))):=by
  have e1:((sh.length-1:Nat):Int)=((sh.map pV).length:Int)-1:=by exact rl (aai ..) ((VK h0))
  refine rl e1 ?_;exact aE (aI (bU (aM S.fU Boot.«len» rfl) (aj (ao J) ak) J (iQ ls)) aA (iN _ _)) (az J) J
 refine bS s23 ?_;generalize hV:aG (RX ah sh e) "last" (.v (.int (sh.length-1:Nat)))=V;have g1:(sh.map pV)[((sh.length-1:Nat):Int).toNat]?=some (pV (eu sh)):=by refine rl (aaV ..) (rl (aav ..) ?_);unfold eu;refine rl (aak (by exact Tf h0)) ?_;rfl
 have one:=eN.one;have ZZ:=eN.m0;have b24:=jG (gW ah 6) (b:=(eu sh).length) (by have:=eN.m0;exact a1 ZZ);have b25:=jG (gW ah 7) (b:=pW (eu sh)) (by have:=eN.n0;exact a1 this);have s24:gq C (iL k L bh D) V (oV 24) .next (aG V "r" (.v (.int (l8 ah (eu sh))))):=by refine nb λnn=>?_;subst hV;refine nn ?_;unfold l8;refine rl b24 ?_;exact aE (aI (kG S ah hl (k:=k+39) (place:=6) J J (ao J) aA (by decide) J) (bU (aM S.fU Boot.«len» rfl) (aj (bC (ao J) (ao J) (by omega) (by omega) g1 (λ_ _=>rfl)) ak) J (sf _ eN.m9)) (b9 _ _ (by exact zJ ZZ))) (az J) J
 refine bS s24 ?_;generalize Ob:aG V "r" (.v (.int (l8 ah (eu sh))))=V2;have MZ:gq C (iL k L bh D) V2 (oV 25) .next (aG V2 "c" (.v (.int (nY ah (eu sh))))):=by subst Ob;subst hV;unfold nY;refine rl b25 ?_;exact aE (aI (kG S ah hl (k:=k+39) (place:=7) J J (ao J) aA (by decide) J) (bU (aM S.fU Boot.«len» rfl) (aj (jo (i:=0) (bC (ao J) (ao J) (by omega) (by omega) g1 (λ_ _=>rfl)) aA eN.m0 eN.m9 (λ_ _=>rfl)) ak) J (lR _ one.2)) (b9 _ _ (by have:=eN.n0;unfold pW at this;exact VL one))) (az J) J
 refine bS MZ ?_;generalize Yy:aG V2 "c" (.v (.int (nY ah (eu sh))))=V3;have s26:gq C (iL k L bh D) V3 (oV 26) .next (aG V3 "third" (.v (.int (bF ah)))):=by
  have bt:=bT (gW ah 8) (b:=40) (by decide);have Yr:(Builtin.Int.intBits 2:Int)*(gW ah 8).fmod 40<=2^27:=by
   have:Builtin.Int.intBits 2=2:=by decide
   exact rl this ((VM bt))
  have hp:=sA (C:=C) (k:=k+40) 2 ((gW ah 8).fmod 40) bt.1 Yr;subst Yy;subst Ob;refine nb λnn=>?_;subst hV;exact nn<|aE (aI aA (aI (kG S ah hl (k:=k+39) (place:=8) J J (ao J) aA (by decide) J) aA (b9 _ _ (by decide))) hp) (az J) J
 refine bS s26 ?_;generalize Z0:aG V3 "third" (.v (.int (bF ah)))=V4;have s27:gq C (iL k L bh D) V4 (oV 27) .next (aG V4 "turn" (.v (.int (dM ah)))):=by have bt:=jG (gW ah 9) (b:=3) (by decide);unfold dM;refine rl bt ?_;subst Z0;subst Yy;subst Ob;subst hV;exact aE (aI (kG S ah hl (k:=k+39) (place:=9) J J (ao J) aA (by decide) J) aA (b9 _ _ (by decide))) (az J) J
 refine bS s27 ?_;subst Z0;subst Yy;subst Ob;subst hV;exact bS (aE (eF (aj aA (aj aA (aj (ao J) ak))) (aae J)) (az J) J) T
end
noncomputable def xr(t:Nat)(l:acu):acu:=l.drop t++l.take t
noncomputable def gA(ah:acu)(x:Int):acu:=[x.fmod 3329,x.fmod 8380417,x.fmod (bF ah)]
noncomputable def oj(ah:acu)(x:Int):Int:=AQ (xr (dM ah) (gA ah x)) (xr (dM ah) (iX ah))
structure uh(ah:acu):Prop where
 small:∀x∈xr (dM ah) (iX ah),0<=x/\x<2^64
 m0:kF (xr (dM ah) (iX ah))≠0
 ok:∀x,∀p∈(xr (dM ah) (iX ah)).zip (xr (dM ah) (gA ah x)),Hp (kF (xr (dM ah) (iX ah))) p
 val:∀x,oj ah x=x.fmod (3329*8380417*bF ah)
theorem Il(t:Nat)(l:acu):(l.map MV.int).drop t++(l.map MV.int).take t=(xr t l).map MV.int:=by unfold xr;exact rl aa2 (rl List.map_drop (rl List.map_take J))
noncomputable def xu:acr:=kS (oV 30) 0
noncomputable def v30(ah:acu)(sh:List PM)(e:MV)(aT:Addr)(l:acu)(x:Int):aC:=[("exact",.v e),("last",.v (.int (sh.length-1:Nat))),("r",.v (.int (l8 ah (eu sh)))),("c",.v (.int (nY ah (eu sh)))),("third",.v (.int (bF ah))),("turn",.v (.int (dM ah))),("moduli",.v (iv (iX ah))),("told",.own aT (l.map .int)),("x",.v (.int x))]
section
variable{C:Cx}(S:fN C)(Z:uJ C){k:Nat}(L:Addr)(bh:Value)(D:acq)(ah:acu)(hc:uh ah)
include S Z hc in
theorem R3(sh:List PM)(e:MV)(aT:Addr)(l:acu)(x:Int)(hl:l.length<=100):∃dG:aC,(∀y,dG.lookup y=if y=("told":Str) then some (.own aT ((l++[oj ah x]).map .int)) else if y=("rests":Str) then some (.v (iv (gA ah x))) else(v30 ah sh e aT l x).lookup y)/\∀D,mz C (iL k L bh D) (v30 ah sh e aT l x) xu .next dG:=by
 have t0:bF ah≠0:=by have:(0:Int)<2^O_ ah:=Int.pow_pos (by decide);unfold bF;exact zQ this
 have key:=KU Z (k:=k+37) (xr (dM ah) (gA ah x)) (xr (dM ah) (iX ah)) hc.small hc.m0 (hc.ok x);have lr:((gA ah x).map MV.int).length<=1000:=by simp[gA]
 have lm:((iX ah).map MV.int).length<=1000:=by simp[iX]
 have sm:∀{l:acw}{t:Nat},l.length<=500->(l.drop t).length+(l.take t).length<=1000:=λ{l t} h=>by exact rl List.length_drop (rl List.length_take ((abc (b:=500) (d:=500) (aaf (Nat.sub_le _ _) h) (aaf (Nat.min_le_right _ _) h))))
 have e1:iv (xr (dM ah) (gA ah x)) = .lst (((gA ah x).map MV.int).drop (dM ah)++((gA ah x).map MV.int).take (dM ah)):=by refine rl (Il ..) ?_;rfl
 have e2:iv (xr (dM ah) (iX ah)) = .lst (((iX ah).map MV.int).drop (dM ah)++((iX ah).map MV.int).take (dM ah)):=by refine rl (Il ..) ?_;rfl
 replace key:=e1▸key;replace key:=e2▸key;have s0:∀D,gq C (iL k L bh D) (v30 ah sh e aT l x) ((xu[0]?).getD (.Pass ⟨0,0,0,0⟩)) .next (aG (v30 ah sh e aT l x) "rests" (.v (iv (gA ah x)))):=λD=>
  aE (eF (aj (aI (ao J) aA (b9 _ _ (by decide))) (aj (aI (ao J) aA (b9 _ _ (by decide))) (aj (aI (ao J) (ao J) (b9 _ _ t0)) ak))) (aae J)) (az J) J
 refine⟨aG (aG (v30 ah sh e aT l x) "rests" (.v (iv (gA ah x)))) "told" (.own aT (l.map .int++[.int (oj ah x)])),λy=>?_,λD=>aK (s0 D) (aK (eX (x:="told") J J J (cR (bV J S.Rr (λ_ _=>.bZ _ J) J) (aj (wG (oi (ao J) (ao J) lr) (rt (ao J) (ao J) lr) (sm (by simp[gA]))).ev (aj (wG (oi (ao J) (ao J) lm) (rt (ao J) (ao J) lm) (sm (by simp[iX]))).ev ak)) (cQ S.NN) key.toV) (by refine rl (aai ..) ?_;omega) J J J J J J) aJ)⟩;refine rl (au ..) (rl (au ..) (rl (aa2 ..) ?_));rfl
end
noncomputable def fR(ah:acu)(sh:List PM)(e:MV)(aT:Addr)(r:acw)(vs:aC)(l:acu):Prop:=(vs.lookup ("exact":Str)=some (.v e)/\vs.lookup ("last":Str)=some (.v (.int (sh.length-1:Nat)))/\vs.lookup ("r":Str)=some (.v (.int (l8 ah (eu sh))))/\vs.lookup ("c":Str)=some (.v (.int (nY ah (eu sh))))/\vs.lookup ("third":Str)=some (.v (.int (bF ah)))/\vs.lookup ("turn":Str)=some (.v (.int (dM ah)))/\vs.lookup ("moduli":Str)=some (.v (iv (iX ah)))/\vs.lookup ("told":Str)=some (.own aT (l.map .int)))/\l.length+r.length<=100/\∀x∈r,∃i,x = .int i
noncomputable def R4(ah:acu)(sh:List PM)(e:MV)(l:acu):aC:=[("exact",.v e),("last",.v (.int (sh.length-1:Nat))),("r",.v (.int (l8 ah (eu sh)))),("c",.v (.int (nY ah (eu sh)))),("third",.v (.int (bF ah))),("told",.v (iv l))]
section
variable{C:Cx}(S:fN C)(Z:uJ C){k:Nat}(L:Addr)(bh:Value)(D:acq)(ah:acu)(hc:uh ah){P:Around->Prop}
include S in
theorem R5(sh:List PM)(h9:sh.length<=100)(ex:qg)(R:Rows)(row:ack)(cs:acu)(g1:(ex.map gn)[((sh.length-1:Nat):Int).toNat]?=some (gn R))(g2:(R.map λr=>MV.lst (r.map iv))[((l8 ah (eu sh):Nat):Int).toNat]?=some (.lst (row.map iv)))(g3:(row.map iv)[((nY ah (eu sh):Nat):Int).toNat]?=some (iv cs))(b1:l8 ah (eu sh)<=100)(b2:nY ah (eu sh)<=100)(hl:cs.length<=100) :
 eH P C (iL k L bh D) (R4 ah sh (dI ex) (cs.map λ(x:Int)=>x.fmod (3329*8380417*bF ah))) (iT 31) (.bool true):=by
 have t0:bF ah≠0:=by have:(0:Int)<2^O_ ah:=Int.pow_pos (by decide);unfold bF;exact zQ this
 have cq:=mS (C:=C) (k:=k+39) (cs.map λ(x:Int)=>x.fmod (3329*8380417*bF ah)) (cs.map λ(x:Int)=>x.fmod (3329*8380417*bF ah));rw[aaK J] at cq;refine Eb (kr (m₁:=iv (cs.map λ(x:Int)=>x.fmod (3329*8380417*bF ah))) (m₂:=iv (cs.map λ(x:Int)=>x.fmod (3329*8380417*bF ah))) ?_ ?_ cq)
 .have hz:((cs.map λ(x:Int)=>x.fmod (3329*8380417*bF ah)).map MV.int).map (λm=>m)=(cs.map λ(x:Int)=>x.fmod (3329*8380417*bF ah)).map MV.int:=List.map_id' _
  have e1:iv (cs.map λ(x:Int)=>x.fmod (3329*8380417*bF ah)) = .lst (((cs.map λ(x:Int)=>x.fmod (3329*8380417*bF ah)).map MV.int).map λm=>m):=by refine rl hz ?_;rfl
  refine rl e1 ?_;refine aZ (bK (ms:=(cs.map λ(x:Int)=>x.fmod (3329*8380417*bF ah)).map MV.int) (ao J)) (λL Do=>bX _ (az J) (aaM.mpr λc hc=>?_)) (λq=>nomatch q) J J (aaj J) (by refine rl (aai ..) (rl (aai ..) ?_);omega) (λ_=>rfl);exact jY (bN (m:=.bool true) (bU (aM S.aR Boot.«isinstance» rfl) (aj (ao J) (aj (aM S.mT Boot.«int» rfl) ak)) J (bR S.wM (λ_ _ _ q=>nomatch q) J (λ_ q=>nomatch q))) (bE true)) (ao J)
 .have e1:iv (cs.map λ(x:Int)=>x.fmod (3329*8380417*bF ah)) = .lst (cs.map λx=>.int (x.fmod (3329*8380417*bF ah))):=by unfold iv;refine rl aar ?_;rfl
  refine rl e1 ?_;refine aZ (bK (bC (bC (bC (ao J) (ao J) (by omega) (by omega) g1 (λ_ _=>rfl)) (ao J) (by omega) (by omega) g2 (λ_ _=>rfl)) (ao J) (by omega) (by omega) g3 (λ_ _=>rfl))) (λL Do=>dW MV.int _ (az J) cs (λx hx=>?_)) (λq=>nomatch q) J J (aaj J) (by refine rl (aai ..) ?_;omega) (λ_=>rfl);have m1:IntMulOk 3329 8380417:=fu (by decide) (by decide);exact aI (ao J) (aI (aI aA aA (fz _ _ m1)) (ao J) (fz _ _ (fu (by decide) (by decide)))) (b9 _ _ (by exact VN t0))
end
section
variable{C:Cx}(S:fN C)(Z:uJ C){k:Nat}(L:Addr)(bh:Value)(D:acq)(ah:acu)(hc:uh ah){P:Around->Prop}
include S Z hc in
theorem R6(sh:List PM)(h9:sh.length<=100)(ex:qg)(R:Rows)(row:ack)(cs:acu)(g1:(ex.map gn)[((sh.length-1:Nat):Int).toNat]?=some (gn R))(g2:(R.map λr=>MV.lst (r.map iv))[((l8 ah (eu sh):Nat):Int).toNat]?=some (.lst (row.map iv)))(g3:(row.map iv)[((nY ah (eu sh):Nat):Int).toNat]?=some (iv cs))(b1:l8 ah (eu sh)<=100)(b2:nY ah (eu sh)<=100)(hl:cs.length<=100) :
 eH P C (iL k L bh D) (RY ah sh (dI ex)) (iT 29) (.bool true):=by
 have HO:uE C (iL k L bh D) (RY ah sh (dI ex)) (oV 29) "told" []:=iG (kP ak (Nat.zero_le _)) J J J;refine D9 HO λaT=>?_;have FF:=tT (C:=C) (Γ:=iL k L bh D) (t:=kE (oV 30) 0) (body:=xu) (fR ah sh (dI ex) aT) (λl m=>l++[oj ah (O6 m)]) (cs.map .int) (aG (RY ah sh (dI ex)) "told" (.own aT [])) [] ⟨⟨J,J,J,J,J,J,J,J⟩,by refine rl (aai ..) ?_;simpa using hl,λx hx=>by obtain⟨i,_,rfl⟩:=aan.mp hx;exact⟨i,J⟩⟩ (λvs l m r hR=>by
  refine nb λnn=>?_;obtain⟨⟨r1,r2,r3,r4,r5,r6,r7,r8⟩,hlen,hm⟩:=hR;obtain⟨x,rfl⟩:=hm _ (.head _);have hl1:(MV.int x::r).length=r.length+1:=rfl;obtain⟨dG,lk,E⟩:=R3 S Z (k:=k) L bh ah hc sh (dI ex) aT l x (by exact Td hlen);have lv:∀z w,(aG vs "x" w).lookup z=if z=("x":Str) then some w else vs.lookup z:=λz w=>au vs "x" w z
  refine nn<|⟨_,dG,λDo=>cH (by exact(az J)),λDo=>?_,⟨(lk _).trans J,(lk _).trans J,(lk _).trans J,(lk _).trans J,(lk _).trans J,(lk _).trans J,(lk _).trans J,(lk _).trans J⟩,by refine rl aaX ?_;simp only[List.length_cons,List.length_nil];exact Pk hlen hl1,λy hy=>hm y (.tail _ hy)⟩
  refine lQ (vs':=v30 ah sh (dI ex) aT l x) (fc _ ⟨(lv _ _).trans r1,(lv _ _).trans r2,(lv _ _).trans r3,(lv _ _).trans r4,(lv _ _).trans r5,(lv _ _).trans r6,(lv _ _).trans r7,(lv _ _).trans r8,lv _ _,trivial⟩) (E Do))
 refine nb λnn=>?_;obtain⟨vs',F,⟨⟨r1,r2,r3,r4,r5,r6,r7,r8⟩,_,_⟩⟩:=FF;have ef:(cs.map MV.int).foldl (λl m=>l++[oj ah (O6 m)]) []=cs.map λ(x:Int)=>x.fmod (3329*8380417*bF ah):=by
  have aux:∀(cs:acu)(acc:acu),(cs.map MV.int).foldl (λl m=>l++[oj ah (O6 m)]) acc=acc++cs.map λ(x:Int)=>x.fmod (3329*8380417*bF ah):=λcs=>by
   induction cs with
   |nil=>intro acc;simp
   |cons c cs ih=>
    intro acc;rw[ab8,ab6,ih,ab8,abU];show acc++([oj ah c]++_)=_;refine rl (hc.val ..) ?_;rfl
  refine rl (aux ..) ?_;rfl
 replace r8:=ef▸r8;have Mt:gq C (iL k L bh D) (aG (RY ah sh (dI ex)) "told" (.own aT [])) (oV 30) .next vs':=qs (bK (bC (bC (bC (ao J) (ao J) (by omega) (by omega) g1 (λ_ _=>rfl)) (ao J) (by omega) (by omega) g2 (λ_ _=>rfl)) (ao J) (by omega) (by omega) g3 (λ_ _=>rfl))) F (λq=>nomatch q) (λ_=>rfl);refine nn<|bS Mt (jN (x:="told") r8 J ?_)
 have lv:∀z w,(aG vs' "told" w).lookup z=if z=("told":Str) then some w else vs'.lookup z:=λz w=>au vs' "told" w z
 refine k7 (fc (R4 ah sh (dI ex) (cs.map λ(x:Int)=>x.fmod (3329*8380417*bF ah))) ⟨(lv _ _).trans r1,(lv _ _).trans r2,(lv _ _).trans r3,(lv _ _).trans r4,(lv _ _).trans r5,lv _ _,trivial⟩) ?_;exact R5 S L bh D ah sh h9 ex R row cs g1 g2 g3 b1 b2 hl
end
structure Im(ah:acu):Prop where
 dk:jl kQ (c5 ah) (cV ah).ds (Ih ah,[])
 dd:jl dQ (c5 ah) (cV ah).ds (EC ah,[])
 tk:(qf ah).2=(cV ah).td
 td:(qI ah).2=(cV ah).td
 rk:(qf ah).1.map g6=qh kQ (g_ ah)
 rd:(qI ah).1.map g6=qh dQ (g_ ah)
 ok:∀A∈(qf ah).1,A.ok kQ (c5 ah)
 od:∀A∈(qI ah).1,A.ok dQ (c5 ah)
 small:Ij (g_ ah)
 DS:uh ah
 s0:0<(cV ah).sh.length
 s9:(cV ah).sh.length<=100
 Z1:∀P∈(cV ah).sh,fD (wholeOf (c5 ah)) P
section
variable{C:Cx}(K:SK C)(K2:SD C)(S:fN C)(Z:uJ C){k:Nat}(L:Addr)(bh:Value)(D:acq)(ah:acu)(hl:ah.length<=63)(H:Im ah)
include K K2 S Z hl H in
theorem Ln(a b aP aT aO c d:Addr)(g h:MV):eH (λA=>A.frames=some [(iL k L bh D).env]) C (iL k L bh D) (Oa ah a b aP aT aO c d ((cV ah).sh.map pV) ((qI ah).1.map (xj ah b)) ((qf ah).1.map (vJ ah a)) g h (cV ah)) (iT 16) (.bool true):=by
 refine jN (x:="plain") J J (jN (x:="twos") J J (jN (x:="ones") J J ?_));refine k7 (fc (RM ah ((cV ah).sh.map pV) ((qI ah).1.map (xj ah b)) ((qf ah).1.map (vJ ah a))) ⟨J,J,J,J,J,J,trivial⟩) ?_;refine RN S L bh D ah (cV ah).sh H.s9 H.Z1 _ _ (g_ ah) J H.small ?_;have lk:(qf ah).1.length=(cV ah).sh.length:=by have:=aaJ List.length H.rk;simpa [qh,g_] using this
 have ld:(qI ah).1.length=(cV ah).sh.length:=by have:=aaJ List.length H.rd;simpa [qh,g_] using this
 have s0:=H.s0;have s9:=H.s9;have hk:(qf ah).1.length<=100/\∀A∈(qf ah).1,A.ok kQ (c5 ah):=⟨by exact MI lk s9,H.ok⟩;have hd:(qI ah).1.length<=100/\∀A∈(qI ah).1,A.ok dQ (c5 ah):=⟨by exact MI ld s9,H.od⟩;refine rs H.rk (rs H.rd ?_);refine bS (RO K K2 S L bh D ah a b _ _ _ hk hd (dI (g_ ah)) _ _ J J) ?_;have lp:((cV ah).sh.map pV).length=(cV ah).sh.length:=aai ..;refine bS (RS S L bh D ah hl _ _ _ (by exact Tc s0 lp) (by exact PD s9 lp) _ _ _) ?_;refine bS (RT S L bh D ah hl _ _ _ (by exact Tc s0 lp) (by exact PD s9 lp) _ _ _ _) ?_;have bi:=bT (gW ah 4) (b:=((cV ah).sh.map pV).length) (by exact PE s0 lp);have bj:=bT (gW ah 5) (b:=((cV ah).sh.map pV).length) (by exact PE s0 lp);refine bS (RV K K2 S L bh D ah a b _ _ _ hk hd _ _ _ (by unfold Yw;exact PF lk lp bi) (by unfold Yx;exact PF lk lp bj) (by exact Tg lk ld) J) ?_;refine k7 (fc (RX ah (cV ah).sh (dI (g_ ah))) ⟨J,J,J,trivial⟩) ?_;have Io:eu (cV ah).sh∈(cV ah).sh:=by unfold eu;refine rl (aak (by exact Tf s0)) ?_;exact aaE _
 have Of:=H.Z1 _ Io;refine RZ S L bh D ah hl (cV ah).sh s0 s9 _ Of _ ?_;generalize hP:eu (cV ah).sh=P at Of Io;have br:=bT (gW ah 6) (b:=P.length) (by have:=Of.m0;exact a1 this);have bc:=bT (gW ah 7) (b:=pW P) (by have:=Of.n0;exact a1 this);have hr:l8 ah P<P.length:=by unfold l8;exact v5 br
 have t_:=Of.row _ (aaE hr);have hcw:nY ah P<pW P:=by unfold nY;exact v5 bc
 have hcc:nY ah P<(P[l8 ah P]).length:=t_.symm▸hcw;have m9:=Of.m9;have n9:=Of.n9;let f:Int->acu:=λx=>j8 (c5 ah) (dU (wholeOf (c5 ah)) x);have mem:P.map (λrow=>row.map f)∈g_ ah:=aan.mpr ⟨P,Io,J⟩;have Yz:(P[l8 ah P]).map f∈P.map (λrow=>row.map f):=aan.mpr ⟨_,aaE hr,J⟩;have YA:f (P[l8 ah P])[nY ah P]∈(P[l8 ah P]).map f:=aan.mpr ⟨_,aaE hcc,J⟩;have hcl:=((H.small.2 _ mem).2 _ Yz).2 _ YA;have hl1:(cV ah).sh[(cV ah).sh.length-1]?=some P:=by refine rs hP ?_;unfold eu;refine rl (aak (by exact Tf s0)) ?_;rfl
 refine R6 S Z L bh D ah H.DS (cV ah).sh s9 (g_ ah) (P.map λrow=>row.map f) ((P[l8 ah P]).map f) (f (P[l8 ah P])[nY ah P]) ?_ ?_ ?_ (by exact rl hP ((aaf (aaO hr) (aaf m9 (aae J))))) (by exact rl hP ((aaf (aaO hcw) (aaf n9 (aae J))))) hcl
 .refine rl (aaV ..) (rl (aav ..) ?_)
  unfold g_;refine rl aav (rl hl1 ?_);rfl
 .refine rl hP (rl (aaV ..) (rl (aav ..) (rl (aav ..) (rl (aak hr ..) ?_))));rfl
 .refine rl hP (rl (aaV ..) (rl (aav ..) (rl (aav ..) (rl (aak hcc ..) ?_))));rfl
end
section
variable{C:Cx}(K:SK C)(K2:SD C)(S:fN C)(Z:uJ C){k:Nat}(L:Addr)(bh:Value)(D:acq)(ah:acu)(hl:ah.length<=63)(H:Im ah)
include K K2 S Z hl H in
theorem Og:eH (λA=>A.frames=some [(iL k L bh D).env]) C (iL k L bh D) [("script",.v (iv ah))] (o5 (topS 25)) (.bool true):=by refine Ll K K2 S L bh D ah hl λa b aP aT aO vs' hv=>?_;refine k7 hv (Ys S L bh D ah hl a b aP aT aO (lY ah b 3) (lX ah a 3) ?_);refine Yt K K2 S L bh D ah a b aP aT aO _ _ _ (xj ah b (iS dQ ah 0)) (vJ ah a (iS kQ ah 0)) J J (cV ah) λc d hc hd=>?_;exact RL K K2 S L bh D ah a b aP aT aO c d hc hd _ _ _ J J H.dk H.dd H.tk H.td (Ln K K2 S Z L bh D ah hl H a b aP aT aO c d _ _)
end
noncomputable def um:Nat->EG->EG
 |0,s=>s
 |n+1,s=>if s.b=0 then s else um n (w5 s)
theorem uo:∀(n:Nat)(s:EG),(um n s).b=0->p_ s=um n s
 |0,s,h=>qC h
 |n+1,s,h=>by
  unfold um at h ⊢;by_cases hb:s.b=0
  .rw[aaN hb] at h ⊢
   exact qC hb
  .rw[aaD hb] at h ⊢
   refine rs (tU hb) ?_;exact uo n _ h
noncomputable def CH(a b:Int):EG:=um 100 ⟨a,b,0,1,1,0⟩
theorem CI{a b:Int}(h:(CH a b).b=0):oR a b=mh a b (CH a b):=by unfold oR CH at *;exact rl (uo 100 _ h) J
noncomputable def rF(m x:Int):Bool:=decide ((CH (m.fdiv x) x).b=0)&&decide (x≠0)&&decide (0<=x)&&decide (x<2^64)&&decide (0<=m.fdiv x)&&decide (m.fdiv x<2^64)&&decide ((mh (m.fdiv x) x (CH (m.fdiv x) x)).1=1)&&decide (0<=(mh (m.fdiv x) x (CH (m.fdiv x) x)).2.1)&&decide ((mh (m.fdiv x) x (CH (m.fdiv x) x)).2.1<2^64)&&decide (m.fdiv x*x=m)
noncomputable def iM(m x:Int):Int:=m.fdiv x*(mh (m.fdiv x) x (CH (m.fdiv x) x)).2.1
noncomputable def MC(t:Nat):Bool:=
 let z:Int:=2^t;let m:Int:=3329*8380417*z
 rF m 3329&&rF m 8380417&&rF m z&&decide ((iM m 3329+iM m 8380417+iM m z-1).fmod m=0)&&decide (m≠0)
theorem R7:(List.range 40).all MC=true:=by decide +kernel
structure kH(m x:Int):Prop where
 e:(CH (m.fdiv x) x).b=0
 n0:x≠0
 b1:0<=x
 b2:x<2^64
 c1:0<=m.fdiv x
 c2:m.fdiv x<2^64
 g:(mh (m.fdiv x) x (CH (m.fdiv x) x)).1=1
 i1:0<=(mh (m.fdiv x) x (CH (m.fdiv x) x)).2.1
 i2:(mh (m.fdiv x) x (CH (m.fdiv x) x)).2.1<2^64
 d:m.fdiv x*x=m
theorem xw{m x:Int}(h:rF m x=true):kH m x:=by simp only[rF,Bool.and_eq_true,decide_eq_true_eq] at h;obtain⟨⟨⟨⟨⟨⟨⟨⟨⟨h1,h2⟩,h3⟩,h4⟩,h5⟩,h6⟩,h7⟩,h8⟩,h9⟩,XT⟩:=h;exact⟨h1,h2,h3,h4,h5,h6,h7,h8,h9,XT⟩
theorem kH.DS{m x:Int}(h:kH m x)(y:Int):Hp m (x,y.fmod x):=by have b:=bT y (b:=x) (by have:=h.n0;have:=h.b1;exact VO (by assumption) this);have e:=CI h.e;exact⟨h.n0,h.b1,h.b2,h.c1,h.c2,b.1,Int.lt_trans b.2 h.b2,by exact rl e (h.g),by exact rl e (h.i1),by exact rl e (h.i2)⟩
theorem kH.step{m x:Int}(h:kH m x)(u y:Int):jm m u (x,y.fmod x)=(u+y.fmod x*iM m x).fmod m:=by unfold jm iM;exact rl (CI h.e ..) (rl (Int.mul_assoc ..) J)
theorem kH.part{m x:Int}(h:kH m x)(y:Int):∃w,y.fmod x*iM m x=y*iM m x+m*w:=by
 refine⟨-(y.fdiv x*(mh (m.fdiv x) x (CH (m.fdiv x) x)).2.1),?_⟩;have e:y.fmod x=y-x*y.fdiv x:=by have:=Int.fmod_def y x;exact this
 have d:=h.d;refine rl e ?_;unfold iM;generalize m.fdiv x=M at *;generalize y.fdiv x=q;generalize (mh M x (CH M x)).2.1=i;subst d;grind
theorem qJ{m a b c:Int}(hm:0<m)(ha:kH m a)(hb:kH m b)(hc:kH m c)(hs:(iM m a+iM m b+iM m c-1).fmod m=0)(x:Int) :
 jm m (jm m (jm m 0 (a,x.fmod a)) (b,x.fmod b)) (c,x.fmod c)=x.fmod m:=by
 rw[ha.step,hb.step,hc.step];refine nb λnn=>?_;obtain⟨w1,e1⟩:=ha.part x;obtain⟨w2,e2⟩:=hb.part x;obtain⟨w3,e3⟩:=hc.part x;refine nn ?_;refine rl e1 (rl e2 (rl e3 ?_));replace hs:=(aaA _ (by exact a5 hm))▸hs;obtain⟨w,e⟩:=Int.dvd_of_emod_eq_zero hs;refine rl (aaA _ (by exact a5 hm) ..) (rl (aaA _ (by exact a5 hm) ..) (rl (aaA _ (by exact a5 hm) ..) (rl (aaA _ (by exact a5 hm) ..) (rl (Int.emod_add_emod ..) (rl (Int.add_assoc (_%m) ..) (rl (Int.emod_add_emod ..) ?_))))));have:0+(x*iM m a+m*w1)+((x*iM m b+m*w2)+(x*iM m c+m*w3))=x+m*(x*w+w1+w2+w3):=by
  have e':iM m a=1+m*w-iM m b-iM m c:=by exact VP e
  refine rl e' ?_;grind
 exact rl (this ..) (rl (abQ ..) J)
theorem Oh(ah:acu):O_ ah<40:=by have:=bT (gW ah 8) (b:=40) (by decide);unfold O_;exact VQ this
theorem Ei(ah:acu):dM ah<3:=by have:=bT (gW ah 9) (b:=3) (by decide);unfold dM;exact VR this
theorem Lo(ah:acu):uh ah:=by
 have ht:=abq.mp R7 (O_ ah) (aa7.mpr (Oh ah));have z0:(0:Int)<bF ah:=Int.pow_pos (by decide);unfold MC at ht;simp only[Bool.and_eq_true,decide_eq_true_eq] at ht;obtain⟨⟨⟨⟨h1,h2⟩,h3⟩,h4⟩,h5⟩:=ht;change rF (3329*8380417*bF ah) 3329=true at h1;change rF (3329*8380417*bF ah) 8380417=true at h2;change rF (3329*8380417*bF ah) (bF ah)=true at h3;change (iM (3329*8380417*bF ah) 3329+iM (3329*8380417*bF ah) 8380417+iM (3329*8380417*bF ah) (bF ah)-1).fmod (3329*8380417*bF ah)=0 at h4;have p1:=xw h1;have p2:=xw h2;have p3:=xw h3;have hm:0<3329*8380417*bF ah:=Int.mul_pos (by decide) z0;have tt:=Ei ah;have Oi:dM ah=0\/dM ah=1\/dM ah=2:=(show∀n<3,n=0\/n=1\/n=2 by decide) _ tt;rcases Oi with q |q |q
 .have em:xr (dM ah) (iX ah)=[3329,8380417,bF ah]:=by refine rl q ?_;rfl
  have er:∀x,xr (dM ah) (gA ah x)=[x.fmod 3329,x.fmod 8380417,x.fmod (bF ah)]:=λx=>by refine rl q ?_;rfl
  have ec:kF [3329,8380417,bF ah]=3329*8380417*bF ah:=by show((1:Int)*3329)*8380417*bF ah=_;exact VT
  refine⟨λx hx=>?_,by exact rl em (rl ec ((Th z0))),λx p hp=>?_,λx=>?_⟩
  .replace hx:=em▸hx
   simp only[List.mem_cons,List.not_mem_nil,or_false] at hx;rcases hx with rfl |rfl |rfl
   .decide
   .decide
   .exact⟨p3.b1,p3.b2⟩
  .rw[em,er] at hp
   refine rl em (rl ec ?_);simp only[List.zip_cons_cons,List.zip_nil_right,List.mem_cons,List.not_mem_nil,or_false] at hp;rcases hp with rfl |rfl |rfl
   .exact p1.DS x
   .exact p2.DS x
   .exact p3.DS x
  .unfold oj AQ
   rw[em,er,ec];exact qJ hm p1 p2 p3 h4 x
 .have em:xr (dM ah) (iX ah)=[8380417,bF ah,3329]:=by refine rl q ?_;rfl
  have er:∀x,xr (dM ah) (gA ah x)=[x.fmod 8380417,x.fmod (bF ah),x.fmod 3329]:=λx=>by refine rl q ?_;rfl
  have ec:kF [8380417,bF ah,3329]=3329*8380417*bF ah:=by show((1:Int)*8380417)*bF ah*3329=_;exact VU
  refine⟨λx hx=>?_,by exact rl em (rl ec ((Th z0))),λx p hp=>?_,λx=>?_⟩
  .replace hx:=em▸hx
   simp only[List.mem_cons,List.not_mem_nil,or_false] at hx;rcases hx with rfl |rfl |rfl
   .decide
   .exact⟨p3.b1,p3.b2⟩
   .decide
  .rw[em,er] at hp
   refine rl em (rl ec ?_);simp only[List.zip_cons_cons,List.zip_nil_right,List.mem_cons,List.not_mem_nil,or_false] at hp;rcases hp with rfl |rfl |rfl
   .exact p2.DS x
   .exact p3.DS x
   .exact p1.DS x
  .unfold oj AQ
   rw[em,er,ec];exact qJ hm p2 p3 p1 (by rw[<- h4];congr 1;exact PT) x
 .have em:xr (dM ah) (iX ah)=[bF ah,3329,8380417]:=by refine rl q ?_;rfl
  have er:∀x,xr (dM ah) (gA ah x)=[x.fmod (bF ah),x.fmod 3329,x.fmod 8380417]:=λx=>by refine rl q ?_;rfl
  have ec:kF [bF ah,3329,8380417]=3329*8380417*bF ah:=by show((1:Int)*bF ah)*3329*8380417=_;exact VV
  refine⟨λx hx=>?_,by exact rl em (rl ec ((Th z0))),λx p hp=>?_,λx=>?_⟩
  .replace hx:=em▸hx
   simp only[List.mem_cons,List.not_mem_nil,or_false] at hx;rcases hx with rfl |rfl |rfl
   .exact⟨p3.b1,p3.b2⟩
   .decide
   .decide
  .rw[em,er] at hp
   refine rl em (rl ec ?_);simp only[List.zip_cons_cons,List.zip_nil_right,List.mem_cons,List.not_mem_nil,or_false] at hp;rcases hp with rfl |rfl |rfl
   .exact p3.DS x
   .exact p1.DS x
   .exact p2.DS x
  .unfold oj AQ
   rw[em,er,ec];exact qJ hm p3 p1 p2 (by rw[<- h4];congr 1;exact VW) x
theorem CJ(a0 b0:Int):iB 1 [a0] [b0]=[0+a0*b0]:=by kernel_rfl
theorem CK(a0 a1 b0 b1:Int):iB 2 [a0,a1] [b0,b1]=[0+a0*b0-a1*b1,0+a0*b1+a1*b0]:=by kernel_rfl
theorem CL(a0 a1 a2 b0 b1 b2:Int):iB 3 [a0,a1,a2] [b0,b1,b2]=[0+a0*b0-a2*b1-a1*b2,0+a0*b1+a1*b0-a2*b2,0+a0*b2+a1*b1+a2*b0]:=by kernel_rfl
theorem CN(a0 a1 a2 a3 b0 b1 b2 b3:Int):iB 4 [a0,a1,a2,a3] [b0,b1,b2,b3]=[0+a0*b0-a3*b1-a2*b2-a1*b3,0+a0*b1+a1*b0-a3*b2-a2*b3,0+a0*b2+a1*b1+a2*b0-a3*b3,0+a0*b3+a1*b2+a2*b1+a3*b0]:=by kernel_rfl
noncomputable def cZ(q x y:Int):Prop:=∃w,x=y+q*w
theorem cZ.refl(q x:Int):cZ q x x:=⟨0,by grind⟩
theorem cZ.symm{q x y:Int}(h:cZ q x y):cZ q y x:=by obtain⟨w,rfl⟩:=h;exact⟨-w,by grind⟩
theorem cZ.trans{q x y z:Int}(h:cZ q x y)(g:cZ q y z):cZ q x z:=by obtain⟨w,rfl⟩:=h;obtain⟨u,rfl⟩:=g;exact⟨u+w,by grind⟩
theorem cZ.add{q x y u v:Int}(h:cZ q x y)(g:cZ q u v):cZ q (x+u) (y+v):=by obtain⟨w,rfl⟩:=h;obtain⟨z,rfl⟩:=g;exact⟨w+z,by grind⟩
theorem cZ.sub{q x y u v:Int}(h:cZ q x y)(g:cZ q u v):cZ q (x-u) (y-v):=by obtain⟨w,rfl⟩:=h;obtain⟨z,rfl⟩:=g;exact⟨w-z,by grind⟩
theorem cZ.mul{q x y u v:Int}(h:cZ q x y)(g:cZ q u v):cZ q (x*u) (y*v):=by obtain⟨w,rfl⟩:=h;obtain⟨z,rfl⟩:=g;exact⟨w*v+y*z+q*w*z,by grind⟩
theorem cZ.neg{q x y:Int}(h:cZ q x y):cZ q (-x) (-y):=by obtain⟨w,rfl⟩:=h;exact⟨-w,by grind⟩
theorem cZ.fm(q x:Int):cZ q (x.fmod q) x:=⟨-(x.fdiv q),by refine rl (Int.fmod_def ..) ?_;grind⟩
theorem cZ.eq{q x y:Int}(hq:0<q)(h:cZ q x y):x.fmod q=y.fmod q:=by obtain⟨w,rfl⟩:=h;exact rl (aaA _ (by exact a5 hq) ..) (rl (aaA _ (by exact a5 hq) ..) (rl (abQ ..) J))
theorem Ip{α:Type}{n:Nat}{l:List α}(h:l.length=n+1):∃a r,l=a::r/\r.length=n:=by
 cases l with
 |nil=>cases h
 |cons a r=>exact⟨a,r,J,Nat.succ.inj h⟩
theorem Oj{α:Type}{l:List α}(h:l.length=2):∃a b,l=[a,b]:=by obtain⟨a,r,rfl,g⟩:=Ip h;obtain⟨b,rfl⟩:=ab4.mp g;exact⟨a,b,J⟩
theorem Ol{α:Type}{l:List α}(h:l.length=3):∃a b c,l=[a,b,c]:=by refine nb λnn=>?_;obtain⟨a,r,rfl,g⟩:=Ip h;obtain⟨b,c,rfl⟩:=Oj g;exact nn<|⟨a,b,c,J⟩
theorem R8{α:Type}{l:List α}(h:l.length=4):∃a b c d,l=[a,b,c,d]:=by refine nb λnn=>?_;obtain⟨a,r,rfl,g⟩:=Ip h;obtain⟨b,c,d,rfl⟩:=Ol g;exact nn<|⟨a,b,c,d,J⟩
theorem uq{P:Nat->acu->acu->Prop}(p1:∀a0 b0,P 1 [a0] [b0])(p2:∀a0 a1 b0 b1,P 2 [a0,a1] [b0,b1])(p3:∀a0 a1 a2 b0 b1 b2,P 3 [a0,a1,a2] [b0,b1,b2])(p4:∀a0 a1 a2 a3 b0 b1 b2 b3,P 4 [a0,a1,a2,a3] [b0,b1,b2,b3])
 {n:Nat} (h1:1<=n) (h4:n<=4) {a b:acu} (ha:a.length=n) (hb:b.length=n):P n a b:=by
 have:n=1\/n=2\/n=3\/n=4:=by exact VX h1 h4
 rcases this with rfl |rfl |rfl |rfl
 .obtain⟨a0,rfl⟩:=ab4.mp ha
  obtain⟨b0,rfl⟩:=ab4.mp hb;exact p1 ..
 .obtain⟨a0,a1,rfl⟩:=Oj ha
  obtain⟨b0,b1,rfl⟩:=Oj hb;exact p2 ..
 .obtain⟨a0,a1,a2,rfl⟩:=Ol ha
  obtain⟨b0,b1,b2,rfl⟩:=Ol hb;exact p3 ..
 .obtain⟨a0,a1,a2,a3,rfl⟩:=R8 ha
  obtain⟨b0,b1,b2,b3,rfl⟩:=R8 hb;exact p4 ..
theorem Ji{q x x':Int}{l l':acu}(h:x.fmod q=x'.fmod q)(t:b_ q l=b_ q l'):b_ q (x::l)=b_ q (x'::l'):=by show x.fmod q::b_ q l=x'.fmod q::b_ q l';exact rl h (rl t J)
theorem nQ{q:Int}(hq:0<q){n:Nat}(h1:1<=n)(h4:n<=4){a b:acu}(ha:a.length=n)(hb:b.length=n):gj q n (b_ q a) (b_ q b)=b_ q (iB n a b):=by
 have f:=λx=>cZ.fm q x;have z:=cZ.refl q 0;refine uq (P:=λn a b=>gj q n (b_ q a) (b_ q b)=b_ q (iB n a b)) (λa0 b0=>?_) (λa0 a1 b0 b1=>?_) (λa0 a1 a2 b0 b1 b2=>?_) (λa0 a1 a2 a3 b0 b1 b2 b3=>?_) h1 h4 ha hb
 .exact((aaJ (b_ q) (CJ ..)).trans (Ji ((z.add ((f a0).mul (f b0))).eq hq) (J))).trans (aaJ (b_ q) (CJ ..)).symm
 .exact((aaJ (b_ q) (CK ..)).trans (Ji (((z.add ((f a0).mul (f b0))).sub ((f a1).mul (f b1))).eq hq) (Ji (((z.add ((f a0).mul (f b1))).add ((f a1).mul (f b0))).eq hq) (J)))).trans (aaJ (b_ q) (CK ..)).symm
 .exact((aaJ (b_ q) (CL ..)).trans (Ji ((((z.add ((f a0).mul (f b0))).sub ((f a2).mul (f b1))).sub ((f a1).mul (f b2))).eq hq) (Ji ((((z.add ((f a0).mul (f b1))).add ((f a1).mul (f b0))).sub ((f a2).mul (f b2))).eq hq) (Ji ((((z.add ((f a0).mul (f b2))).add ((f a1).mul (f b1))).add ((f a2).mul (f b0))).eq hq) (J))))).trans (aaJ (b_ q) (CL ..)).symm
 .exact((aaJ (b_ q) (CN ..)).trans (Ji (((((z.add ((f a0).mul (f b0))).sub ((f a3).mul (f b1))).sub ((f a2).mul (f b2))).sub ((f a1).mul (f b3))).eq hq) (Ji (((((z.add ((f a0).mul (f b1))).add ((f a1).mul (f b0))).sub ((f a3).mul (f b2))).sub ((f a2).mul (f b3))).eq hq) (Ji (((((z.add ((f a0).mul (f b2))).add ((f a1).mul (f b1))).add ((f a2).mul (f b0))).sub ((f a3).mul (f b3))).eq hq) (Ji (((((z.add ((f a0).mul (f b3))).add ((f a1).mul (f b2))).add ((f a2).mul (f b1))).add ((f a3).mul (f b0))).eq hq) (J)))))).trans (aaJ (b_ q) (CN ..)).symm
noncomputable def gB(B:Int):acu->Int
 |[]=>0
 |c::r=>c+B*gB B r
theorem CQ(k:Nat):(2:Int)^(2304*k)=big^k:=by unfold big;exact rl (show(2304:Int).toNat=2304 from rfl) (rl Int.pow_mul J)
theorem ki(n:Nat):wholeOf n=big^n+1:=by unfold wholeOf;exact rl (CQ ..) J
theorem Lp(B:Int):∀(l:acu)(k:Nat)(t:Int),((l.mapIdx λj b=>(j,b)).map λ(p:Nat×Int)=>p.2*B^(k+p.1)).foldl (·+·) t=t+B^k*gB B l:=by
 intro ll
 induction ll with
 |nil=>
  intro k t;simp[gB]
 |cons c r ih=>
  intro k t;have ih:=ih (k+1) (t+c*B^k);have e:((c::r).mapIdx λj b=>(j,b)).map (λ(p:Nat×Int)=>p.2*B^(k+p.1))=(c*B^k)::(r.mapIdx λj b=>(j,b)).map (λ(p:Nat×Int)=>p.2*B^(k+1+p.1)):=by
   refine rl (List.mapIdx_cons ..) (rl (ab8 ..) ?_);congr 1;apply List.ext_getElem?;intro i;simp only[List.getElem?_map,List.getElem?_mapIdx,Option.map_map];cases r[i]? with
   |none=>rfl
   |some v=>simp only[Option.map_some,Function.comp];exact rl (show k+(i+1)=k+1+i by exact VY) J
  refine rl e (rl (ab6 ..) (rl ih (rl (abK ..) ?_)));show _=t+B^k*(c+B*gB B r);grind
theorem Iq(whole:Int)(l:acu):ru whole l=(gB big l).fmod whole:=by
 unfold ru mF;have h:=Lp big l 0 0;simp only[Nat.zero_add,Int.pow_zero,Int.one_mul,Int.zero_add] at h;have e:(λ(p:Nat×Int)=>p.2*2^(2304*p.1))=λ(p:Nat×Int)=>p.2*big^p.1:=funext λp=>by exact rl (CQ ..) J
 exact rl e (rl h J)
theorem xy{B:Int}{n:Nat}(h1:1<=n)(h4:n<=4){a b:acu}(ha:a.length=n)(hb:b.length=n):cZ (B^n+1) (gB B (iB n a b)) (gB B a*gB B b):=by
 refine uq (P:=λn a b=>cZ (B^n+1) (gB B (iB n a b)) (gB B a*gB B b)) (λa0 b0=>?_) (λa0 a1 b0 b1=>?_) (λa0 a1 a2 b0 b1 b2=>?_) (λa0 a1 a2 a3 b0 b1 b2 b3=>?_) h1 h4 ha hb
 .refine rl (CJ ..) ?_
  exact⟨0,by simp only[gB];grind⟩
 .refine rl (CK ..) ?_
  exact⟨-(a1*b1),by simp only[gB];grind⟩
 .refine rl (CL ..) ?_
  exact⟨-(a1*b2+a2*b1+B*(a2*b2)),by simp only[gB];grind⟩
 .refine rl (CN ..) ?_
  exact⟨-(a1*b3+a2*b2+a3*b1+B*(a2*b3+a3*b2)+B*B*(a3*b3)),by simp only[gB];grind⟩
noncomputable def uN(a b:acu):acu:=(a.zip b).map λp=>p.1+p.2
noncomputable def xA(a b:acu):acu:=(a.zip b).map λp=>p.1-p.2
noncomputable def nZ(i:Int)(a:acu):acu:=a.map λc=>c*i
noncomputable def A7(a:acu):acu:=a.map λc=>-c
noncomputable def ng(z:Int)(a:acu):acu:=a.set 0 (a[0]?.getD 0+z)
noncomputable def qj(n:Nat)(small:Int)(a b:acu):acu:=ng (small.fdiv 7) (A7 (ng (-small) (nZ 2 (iB n a (nZ 3 b)))))
noncomputable def xB(n:Nat)(g f:acu)(e:Nat):acu:=yC (iB n) g f e
theorem nR(n:Nat)(g f:acu):xB n g f 0=g:=vn ..
theorem nU(n:Nat)(g f:acu){e:Nat}(h:e≠0):xB n g f e=xB n (if e%2=1 then iB n g f else g) (iB n f f) (e/2):=vo _ _ _ h
theorem gD(n:Nat)(a b:acu):(iB n a b).length=n:=by
 have:=gJ 1 n a b
 rwa [gj,aai] at this
theorem zx{n:Nat}{a b:acu}(ha:a.length=n)(hb:b.length=n):(uN a b).length=n:=by rw[uN,aai,aaZ];exact a8 ha hb
theorem Ir{n:Nat}{a b:acu}(ha:a.length=n)(hb:b.length=n):(xA a b).length=n:=by rw[xA,aai,aaZ];exact a8 ha hb
theorem nh(i:Int)(a:acu):(nZ i a).length=a.length:=aai ..
theorem zy(a:acu):(A7 a).length=a.length:=aai ..
theorem qK(z:Int)(a:acu):(ng z a).length=a.length:=abi ..
theorem Ej(n:Nat)(s:Int)(a b:acu):(qj n s a b).length=n:=by rw[qj,qK,zy,qK,nh,gD]
theorem Iu{n:Nat}:∀(e:Nat)(g f:acu),g.length=n->(xB n g f e).length=n:=by
 intro e
 induction e using Nat.strongRecOn with
 |ind e ih=>
  intro g f h;by_cases h0:e=0
  .subst h0;exact rl (nR ..) h
  .refine rl (nU _ _ _ h0) ?_
   refine ih (e/2) (by exact zP h0) _ _ ?_;split
   .exact gD ..
   .exact h
section
variable{q:Int}(hq:0<q)
include hq
theorem qL:∀(a b:acu),ie q (b_ q a) (b_ q b)=b_ q (uN a b)
 |[],_=>rfl
 |_::_,[]=>rfl
 |x::a,y::b=>by have ih:=qL a b;unfold ie b_ uN at ih ⊢;simp only[List.map_cons,List.zip_cons_cons];exact rl ih (rl (((cZ.fm q x).add (cZ.fm q y)).eq hq) J)
theorem vP:∀(a b:acu),iV q (b_ q a) (b_ q b)=b_ q (xA a b)
 |[],_=>rfl
 |_::_,[]=>rfl
 |x::a,y::b=>by have ih:=vP a b;unfold iV b_ xA at ih ⊢;simp only[List.map_cons,List.zip_cons_cons];exact rl ih (rl (((cZ.fm q x).sub (cZ.fm q y)).eq hq) J)
theorem vQ(i:Int):∀(a:acu),jL q i (b_ q a)=b_ q (nZ i a):=by
 intro ll
 induction ll with
 |nil=>
  exact J
 |cons x a ih=>
  have ih:=ih;unfold jL b_ nZ at ih ⊢;simp only[List.map_cons];exact rl ih (rl (((cZ.fm q x).mul (cZ.refl q i)).eq hq) J)
theorem Ek:∀(a:acu),oH q (b_ q a)=b_ q (A7 a):=by
 intro ll
 induction ll with
 |nil=>
  exact J
 |cons x a ih=>
  have ih:=ih;unfold oH b_ A7 at ih ⊢;simp only[List.map_cons];exact rl ih (rl (((cZ.fm q x).neg).eq hq) J)
theorem qM(z:Int):∀(a:acu),kW q z (b_ q a)=b_ q (ng z a)
 |[]=>rfl
 |x::a=>by unfold kW b_ ng;simp only[List.map_cons,List.set_cons_zero,List.getElem?_cons_zero,Option.getD_some];exact rl (((cZ.fm q x).add (cZ.refl q z)).eq hq) J
theorem El(z:Int):∀(a:acu),lK q z (b_ q a)=b_ q (ng (-z) a)
 |[]=>rfl
 |x::a=>by unfold lK b_ ng;simp only[List.map_cons,List.set_cons_zero,List.getElem?_cons_zero,Option.getD_some];exact rl (((cZ.fm q x).sub (cZ.refl q z)).eq hq) (rl Int.sub_eq_add_neg J)
theorem Em{n:Nat}(h1:1<=n)(h4:n<=4){a b:acu}(ha:a.length=n)(hb:b.length=n)(s:Int):wY q n s (b_ q a) (b_ q b)=b_ q (qj n s a b):=by unfold wY qj;rw[vQ hq,nQ hq h1 h4 ha (by exact rl (nh ..) hb),vQ hq,El hq,Ek hq,qM hq]
theorem Eo{n:Nat}(h1:1<=n)(h4:n<=4):∀(e:Nat)(g f:acu),g.length=n->f.length=n->oJ q n (b_ q g) (b_ q f) e=b_ q (xB n g f e):=by
 intro e
 induction e using Nat.strongRecOn with
 |ind e ih=>
  intro g f hg hf;by_cases h0:e=0
  .subst h0;exact rl (nR ..) (rl (qw ..) J)
  .refine rl (nU _ _ _ h0) (rl (qx _ _ _ _ h0) (rl (nQ hq h1 h4 hf hf) (rl (nQ hq h1 h4 hg hf) ?_)))
   refine rs (ih (e/2) (by exact zP h0) _ _ (by split;exact gD ..;exact hg) (gD ..)) ?_;split<;>rfl
end
theorem Iv{q:Int}(hq:1<q)(n:Nat):b_ q (jd n)=jd n:=by
 unfold b_ jd;refine rl aa2 (rl List.map_replicate ?_);have:(1:Int).fmod q=1:=by exact rl (aaA _ (by exact Po hq)) (rl (abV (by decide) hq) J)
 simp[this]
theorem A8(B:Int):∀(a b:acu),a.length=b.length->gB B (uN a b)=gB B a+gB B b
 |[],[],_=>rfl
 |x::a,y::b,h=>by have ih:=A8 B a b (by simpa using h);show(x+y)+B*gB B (uN a b)=(x+B*gB B a)+(y+B*gB B b);refine rl ih ?_;grind
theorem CS(B:Int):∀(a b:acu),a.length=b.length->gB B (xA a b)=gB B a-gB B b
 |[],[],_=>rfl
 |x::a,y::b,h=>by have ih:=CS B a b (by simpa using h);show(x-y)+B*gB B (xA a b)=(x+B*gB B a)-(y+B*gB B b);refine rl ih ?_;grind
theorem Iw(B i:Int):∀(a:acu),gB B (nZ i a)=gB B a*i:=by
 intro ll
 induction ll with
 |nil=>
  simp[nZ,gB]
 |cons x a ih=>
  have ih:=ih;show x*i+B*gB B (nZ i a)=(x+B*gB B a)*i;refine rl ih ?_;grind
theorem Om(B:Int):∀(a:acu),gB B (A7 a) = -gB B a:=by
 intro ll
 induction ll with
 |nil=>
  exact J
 |cons x a ih=>
  have ih:=ih;show -x+B*gB B (A7 a) = -(x+B*gB B a);refine rl ih ?_;grind
theorem CT(B z:Int):∀(a:acu),0<a.length->gB B (ng z a)=gB B a+z
 |x::a,_=>by show(x+z)+B*gB B a=(x+B*gB B a)+z;grind
theorem Oo(B:Int)(n:Nat):gB B (jd n)=1:=by
 have:∀k,gB B (List.replicate k 0)=0:=λk=>by
  induction k with
  |zero=>rfl
  |succ k ih=>show 0+B*gB B (List.replicate k 0)=0;refine rl ih ?_;grind
 show 1+B*gB B (List.replicate (n-1) 0)=1;refine rl (this ..) ?_;grind
theorem Lq{B:Int}{n:Nat}(h1:1<=n)(h4:n<=4){a b:acu}(ha:a.length=n)(hb:b.length=n)(s:Int):cZ (B^n+1) (gB B (qj n s a b)) (s-6*gB B a*gB B b+s.fdiv 7):=by
 have h:=xy (B:=B) h1 h4 ha (b:=nZ 3 b) (by refine rl (nh ..) ?_;exact hb);unfold qj;have l1:0<(nZ 2 (iB n a (nZ 3 b))).length:=by exact rl (nh ..) (rl (gD ..) ((VZ h1)))
 rw[CT _ _ _ (by exact rl (zy ..) (rl (qK ..) l1)),Om,CT _ _ _ l1,Iw];replace h:=(Iw ..)▸h;obtain⟨w,h⟩:=h;refine rl h ?_;exact⟨-(2*w),by grind⟩
theorem Oq{B:Int}{n:Nat}(h1:1<=n)(h4:n<=4):∀(e:Nat)(g f:acu),g.length=n->f.length=n->cZ (B^n+1) (gB B (xB n g f e)) (gB B g*gB B f^e):=by
 intro e
 induction e using Nat.strongRecOn with
 |ind e ih=>
  intro g f hg hf;by_cases h0:e=0
  .subst h0;exact rl (nR ..) (rl (Int.pow_zero ..) (rl (Int.mul_one ..) ((cZ.refl _ _))))
  .refine rl (nU _ _ _ h0) ?_
   refine(ih (e/2) (by exact zP h0) _ _ (by split;exact gD ..;exact hg) (gD ..)).trans ?_;have hp:∀k:Nat,cZ (B^n+1) (gB B (iB n f f)^k) ((gB B f*gB B f)^k):=λk=>by
    induction k with
    |zero=>exact rl (Int.pow_zero ..) (rl (Int.pow_zero ..) ((cZ.refl _ _)))
    |succ k ihk=>exact rl (abK ..) (rl (abK ..) ((ihk.mul (xy h1 h4 hf hf))))
   have e2:(gB B f*gB B f)^(e/2)=gB B f^(2*(e/2)):=by exact rl (Int.pow_mul ..) (rl (abK ..) (rl (abK ..) (rl (Int.pow_zero ..) (rl (Int.one_mul ..) J))))
   split
   .rename_i ho
    refine((xy h1 h4 hg hf).mul (hp _)).trans ?_;refine rl e2 ?_;have e3:gB B f^e=gB B f^(2*(e/2))*gB B f:=by refine rs (abK ..) ?_;congr 1;exact PG ho
    refine rl e3 ?_;exact⟨0,by grind⟩
   .rename_i ho
    refine((cZ.refl _ _).mul (hp _)).trans ?_;refine rl e2 ?_;have e3:2*(e/2)=e:=by exact PI ho
    refine rl e3 ?_;exact cZ.refl _ _
noncomputable def k_(b:Nat)(l:acu):Prop:=∀c∈l,c.natAbs<=b
theorem k_.mono{b b':Nat}{l:acu}(h:k_ b l)(hb:b<=b'):k_ b' l:=λc hc=>aaf (h c hc) hb
theorem k_.cons{b:Nat}{c:Int}{l:acu}(h:c.natAbs<=b)(g:k_ b l):k_ b (c::l):=λx hx=>by
 cases hx with
 |head=>exact h
 |tail _ hx=>exact g x hx
theorem k_.nil{b:Nat}:k_ b []:=λc hc=>nomatch hc
theorem qk{x y:Int}{a b:Nat}(hx:x.natAbs<=a)(hy:y.natAbs<=b):(x*y).natAbs<=a*b:=by exact rl (Int.natAbs_mul ..) ((Nat.mul_le_mul hx hy))
theorem jH{a b:Int}{x y:Nat}(h:a.natAbs<=x)(g:b.natAbs<=y):(a+b).natAbs<=x+y:=aaf (Int.natAbs_add_le a b) (abc h g)
theorem j7{a b:Int}{x y:Nat}(h:a.natAbs<=x)(g:b.natAbs<=y):(a-b).natAbs<=x+y:=aaf (Int.natAbs_sub_le a b) (abc h g)
theorem uO{a:Int}{x:Nat}(h:a.natAbs<=x):(0+a).natAbs<=x:=(Int.zero_add a).symm▸h
theorem YB{z:Nat}:z<=4*z/\z+z<=4*z/\z+z+z<=4*z/\z+z+z+z<=4*z:=by exact V0
theorem ur{n:Nat}(h1:1<=n)(h4:n<=4){a b:acu}(ha:a.length=n)(hb:b.length=n){x y:Nat}(ba:k_ x a)(bb:k_ y b):k_ (4*(x*y)) (iB n a b):=by
 obtain⟨l1,l2,l3,l4⟩:=YB (z:=x*y);refine uq (P:=λn a b=>k_ x a->k_ y b->k_ (4*(x*y)) (iB n a b)) (λa0 b0 ba bb=>?_) (λa0 a1 b0 b1 ba bb=>?_) (λa0 a1 a2 b0 b1 b2 ba bb=>?_) (λa0 a1 a2 a3 b0 b1 b2 b3 ba bb=>?_) h1 h4 ha hb ba bb
 .have m:=qk (ba a0 (.head _)) (bb b0 (.head _))
  refine rl (CJ ..) ?_;exact .cons (aaf (uO m) l1) .nil
 .have m:=λ{u v:Int}(hu:u∈[a0,a1])(hv:v∈[b0,b1])=>qk (ba u hu) (bb v hv)
  have u0:a0∈[a0,a1]:=.head _;have u1:a1∈[a0,a1]:=.tail _ (.head _);have v0:b0∈[b0,b1]:=.head _;have v1:b1∈[b0,b1]:=.tail _ (.head _);refine rl (CK ..) ?_;exact .cons (aaf (j7 (uO (m u0 v0)) (m u1 v1)) l2) (.cons (aaf (jH (uO (m u0 v1)) (m u1 v0)) l2) .nil)
 .have m:=λ{u v:Int}(hu:u∈[a0,a1,a2])(hv:v∈[b0,b1,b2])=>qk (ba u hu) (bb v hv)
  have u0:a0∈[a0,a1,a2]:=.head _;have u1:a1∈[a0,a1,a2]:=.tail _ (.head _);have u2:a2∈[a0,a1,a2]:=.tail _ (.tail _ (.head _));have v0:b0∈[b0,b1,b2]:=.head _;have v1:b1∈[b0,b1,b2]:=.tail _ (.head _);have v2:b2∈[b0,b1,b2]:=.tail _ (.tail _ (.head _));refine rl (CL ..) ?_;exact .cons (aaf (j7 (j7 (uO (m u0 v0)) (m u2 v1)) (m u1 v2)) l3) (.cons (aaf (j7 (jH (uO (m u0 v1)) (m u1 v0)) (m u2 v2)) l3) (.cons (aaf (jH (jH (uO (m u0 v2)) (m u1 v1)) (m u2 v0)) l3) .nil))
 .have m:=λ{u v:Int}(hu:u∈[a0,a1,a2,a3])(hv:v∈[b0,b1,b2,b3])=>qk (ba u hu) (bb v hv)
  have u0:a0∈[a0,a1,a2,a3]:=.head _;have u1:a1∈[a0,a1,a2,a3]:=.tail _ (.head _);have u2:a2∈[a0,a1,a2,a3]:=.tail _ (.tail _ (.head _));have u3:a3∈[a0,a1,a2,a3]:=.tail _ (.tail _ (.tail _ (.head _)));have v0:b0∈[b0,b1,b2,b3]:=.head _;have v1:b1∈[b0,b1,b2,b3]:=.tail _ (.head _);have v2:b2∈[b0,b1,b2,b3]:=.tail _ (.tail _ (.head _));have v3:b3∈[b0,b1,b2,b3]:=.tail _ (.tail _ (.tail _ (.head _)));refine rl (CN ..) ?_;exact .cons (aaf (j7 (j7 (j7 (uO (m u0 v0)) (m u3 v1)) (m u2 v2)) (m u1 v3)) l4) (.cons (aaf (j7 (j7 (jH (uO (m u0 v1)) (m u1 v0)) (m u3 v2)) (m u2 v3)) l4) (.cons (aaf (j7 (jH (jH (uO (m u0 v2)) (m u1 v1)) (m u2 v0)) (m u3 v3)) l4) (.cons (aaf (jH (jH (jH (uO (m u0 v3)) (m u1 v2)) (m u2 v1)) (m u3 v0)) l4) .nil)))
theorem Iz{x y:Nat}{a b:acu}(ba:k_ x a)(bb:k_ y b):k_ (x+y) (uN a b):=λc hc=>by obtain⟨p,hp,rfl⟩:=aan.mp hc;exact jH (ba _ (List.of_mem_zip hp).1) (bb _ (List.of_mem_zip hp).2)
theorem Ot{x y:Nat}{a b:acu}(ba:k_ x a)(bb:k_ y b):k_ (x+y) (xA a b):=λc hc=>by obtain⟨p,hp,rfl⟩:=aan.mp hc;exact j7 (ba _ (List.of_mem_zip hp).1) (bb _ (List.of_mem_zip hp).2)
theorem IA{x:Nat}{a:acu}(i:Nat)(ba:k_ x a):k_ (x*i) (nZ i a):=λc hc=>by obtain⟨p,hp,rfl⟩:=aan.mp hc;exact qk (ba p hp) (aa1 (Int.natAbs_natCast i))
theorem Ou{x:Nat}{a:acu}(ba:k_ x a):k_ x (A7 a):=λc hc=>by obtain⟨p,hp,rfl⟩:=aan.mp hc;exact rl (Int.natAbs_neg ..) ((ba p hp))
theorem CU{x z:Nat}{i:Int}{a:acu}(ba:k_ x a)(hi:i.natAbs<=z):k_ (x+z) (ng i a):=by
 cases a with
 |nil=>exact .nil
 |cons v a=>exact .cons (jH (ba v (.head _)) hi) λc hc=>aaf (ba c (.tail _ hc)) (aay _ _)
theorem Ov{n:Nat}:k_ 1 (jd n):=λc hc=>by
 rcases aag.mp hc with h |h
 .refine rl (aam.mp h) ?_;decide
 .refine rl ((List.mem_replicate.mp h).2) ?_;decide
theorem Ow{n:Nat}(h1:1<=n)(h4:n<=4):∀(e:Nat)(g f:acu)(G F:Nat),g.length=n->f.length=n->k_ G g->k_ F f->k_ (G*(4*F)^e) (xB n g f e):=by
 intro e
 induction e using Nat.strongRecOn with
 |ind e ih=>
  intro g f G F hg hf bg bf;by_cases h0:e=0
  .subst h0;exact rl (nR ..) (rl (Nat.pow_zero ..) (rl (Nat.mul_one ..) bg))
  .refine rl (nU _ _ _ h0) ?_
   have e2:(4*(4*(F*F)))^(e/2)=(4*F)^(2*(e/2)):=by refine rl (Nat.pow_mul ..) ?_;congr 1;refine rl (Nat.pow_two ..) ?_;grind
   split
   .have:=ih (e/2) (by exact V5 (by assumption)) (iB n g f) (iB n f f) _ _ (gD ..) (gD ..) (ur h1 h4 hg hf bg bf) (ur h1 h4 hf hf bf bf)
    replace this:=e2▸this;refine this.mono (aa1 ?_);have e3:(4*F)^e=(4*F)^(2*(e/2))*(4*F):=by refine rs (Nat.pow_succ ..) ?_;congr 1;exact PG (by assumption)
    refine rl e3 ?_;generalize (4*F)^(2*(e/2))=Z;grind
   .have:=ih (e/2) (by exact zP h0) g (iB n f f) _ _ hg (gD ..) bg (ur h1 h4 hf hf bf bf)
    replace this:=e2▸this;have e3:2*(e/2)=e:=by exact PI (by assumption)
    rwa [e3] at this
theorem Lr{n:Nat}(h1:1<=n)(h4:n<=4){a b:acu}(ha:a.length=n)(hb:b.length=n){x y:Nat}(ba:k_ x a)(bb:k_ y b){s:Nat}(hs:s<1000):k_ (24*(x*y)+1142) (qj n s a b):=by
 have h3:k_ (y*3) (nZ 3 b):=IA 3 bb;have hp:=ur h1 h4 ha (b:=nZ 3 b) (by exact rl (nh ..) hb) ba h3;have h2:k_ (4*(x*(y*3))*2) (nZ 2 (iB n a (nZ 3 b))):=IA 2 hp;have hd:((s:Int).fdiv 7).natAbs<=142:=by exact rl (abg _ (by decide) ..) ((V7 hs))
 have:=CU (Ou (CU (z:=1000) (i:=-(s:Int)) h2 (by exact V8 hs))) hd;refine this.mono ?_;refine rs (Nat.mul_assoc x y 3) ?_;exact V_
theorem zA:big=2*half:=by unfold big half;exact rl (show(2304:Int).toNat=2303+1 from rfl) (rl (show((2304:Int)-1).toNat=2303 from rfl) (rl (abK ..) (rl (Int.mul_comm ..) J)))
theorem IB{c w:Int}(hc : -half<=c/\c<half):mZ (c+big*w)=c/\p9 (c+big*w)=w:=by
 have hb:=w4;have e:mZ (c+big*w)=c:=by
  unfold mZ;have:(c+big*w+half).fmod big=c+half:=by rw[aaA _ (by exact a5 hb),show c+big*w+half=(c+half)+big*w by exact Wa,abQ,abV (by exact Wb hc) (by exact rl zA ((Wc hc)))]
  exact rl this PU
 refine⟨e,?_⟩;unfold p9;refine rl e (rl (show c+big*w-c=big*w by exact Wd) (rl (abg _ (by exact a5 hb)) ?_));exact Int.mul_ediv_cancel_left _ (by exact zQ hb)
theorem Ox:∀(l:acu),(∀c∈l,-half<=c/\c<half)->j8 l.length (gB big l)=l:=by
 intro ll
 induction ll with
 |nil=>
  intro _;exact J
 |cons c r ih=>
  intro h;have⟨h1,h2⟩:=IB (w:=gB big r) (h c (.head _));show j8 (r.length+1) (c+big*gB big r)=c::r;rw[j8,h1,h2,ih λx hx=>h x (.tail _ hx)]
theorem IC{b:Nat}(hb:4*(b:Int)+1<=big):∀(l:acu),k_ b l->4*(gB big l).natAbs+1<=big^l.length:=by
 intro ll
 induction ll with
 |nil=>
  intro _;decide
 |cons c r ih=>
  intro h;have ih:=ih λx hx=>h x (.tail _ hx);have hc:=h c (.head _);have hB:=w4;have e1:(gB big (c::r)).natAbs<=c.natAbs+(big*gB big r).natAbs:=by show(c+big*gB big r).natAbs<=_;exact Int.natAbs_add_le ..
  have e2:(((big*gB big r).natAbs:Nat):Int)=big*((gB big r).natAbs:Int):=by refine rl (Int.natAbs_mul ..) (rl (Int.natCast_mul ..) ?_);congr 1
  refine rl (abr ..) (rl (abK ..) ?_);have e3:(4*((gB big r).natAbs:Int)+1)*big<=big^r.length*big:=Int.mul_le_mul_of_nonneg_right ih (by exact a5 hB);rw[Int.add_mul,Int.one_mul] at e3;have e4:4*((gB big r).natAbs:Int)*big=4*(big*((gB big r).natAbs:Int)):=by grind
  rw[e4,<- e2] at e3;exact We hb hc e1 e3
theorem ID{v w z:Int}(e:4*(v.natAbs:Int)+1<=z)(ew:w=z+1):dU w (v.fmod w)=v:=by
 subst ew;unfold dU;by_cases h0:0<=v
 .exact rl (aaA _ (by exact PJ e)) (rl (abV h0 (by exact Wf e)) (rl (aaD (by exact Wg e)) J))
 .have:v.fmod (z+1)=v+(z+1):=by
   exact rl (aaA _ (by exact PJ e) ..) (rs (abQ v (z+1) 1 ..) (rl (Int.mul_one ..) (rl (abV (by exact Wh e) (by exact Wi h0) ..) J)))
  exact rl this (rl (aaN (by exact Wj e)) Wl)
theorem Ls{b:Nat}{c h g:Int}(hb:4*(b:Int)+1<=g)(e:g=2*h)(hc:c.natAbs<=b) : -h<=c/\c<h:=by exact Wm hb e hc
theorem IE{b n:Nat}(hb:4*(b:Int)+1<=big){l:acu}(hl:l.length=n)(h:k_ b l):j8 n (dU (wholeOf n) ((gB big l).fmod (wholeOf n)))=l:=by have e:=IC hb l h;replace e:=hl▸e;exact rl (ID e (ki n)) (rs hl (rl (Ox l λc hc=>Ls hb zA (h c hc)) J))
structure XM where
 M:Nat
 N:Nat
 g:Nat->Nat->acu
structure xG(n b:Nat)(X:XM):Prop where
 m0:0<X.M
 n0:0<X.N
 m2:X.M<=2
 n2:X.N<=2
 ent:∀i j,i<X.M->j<X.N->(X.g i j).length=n/\k_ b (X.g i j)
structure RQ(q:Int)(n:Nat)(X:XM)(A:dR):Prop where
 ok:A.ok q n
 hM:A.M=X.M
 hN:A.N=X.N
 ent:∀i j,i<X.M->j<X.N->A.at i j=b_ q (X.g i j)
noncomputable def xC(n:Nat)(X Y:XM)(i j:Nat):acu:=if X.N=1 then iB n (X.g i 0) (Y.g 0 j) else uN (iB n (X.g i 0) (Y.g 0 j)) (iB n (X.g i 1) (Y.g 1 j))
noncomputable def gQ(n:Nat)(X Y:XM)(d:gV):XM:=
 if d.kind<2 then⟨X.M,Y.N,xC n X Y⟩
 else if d.kind=2\/d.kind=6 then⟨X.M,X.N,λi j=>uN (X.g i j) (Y.g i j)⟩
 else if d.kind=3 then⟨X.N,X.M,λi j=>X.g j i⟩
 else if d.kind=4 then⟨1,1,λ_ _=>qj n d.small (X.g 0 0) (Y.g 0 0)⟩
 else if d.kind=8 then⟨1,1,λ_ _=>xB n (jd n) (X.g 0 0) d.power⟩
 else⟨X.M,X.N,λi j=>xA (X.g i j) (Y.g i j)⟩
noncomputable def Fits(X Y:XM)(d:gV):Prop:=(d.kind<2->X.N=Y.M)/\(¬d.kind<2->d.kind=3\/d.kind=4\/d.kind=8\/X.M=Y.M/\X.N=Y.N)
theorem A9{M N:Nat}{g:Nat->Nat->acu}{i j:Nat}(hi:i<M)(hj:j<N):(B_ M N g).at i j=g i j:=by unfold dR.at cN jI mD B_ fq;simp[hi,hj]
theorem R9(A:dR)(i j:Nat):(dR.mk A.rows (!A.tr) A.m A.n).at i j=A.at j i:=by obtain⟨rows,tr,m,n⟩:=A;cases tr<;>rfl
theorem vU(a:acu):ng 0 a=a:=by
 cases a with
 |nil=>rfl
 |cons c r=>unfold ng;simp
theorem CV{n:Nat}(h0:0<n)(h2:n<=2):n=1\/n=2:=by exact Wn h0 h2
theorem IF{q:Int}(hq:0<q){n b b':Nat}(h1:1<=n)(h4:n<=4){X Y:XM}{A B:dR}(hX:xG n b X)(hY:xG n b' Y)(rA:RQ q n X A)(rB:RQ q n Y B)(hN:X.N=Y.M){i j:Nat}(hi:i<X.M)(hj:j<Y.N):oK q n A.rows B.rows A.tr B.tr A.N i j=b_ q (xC n X Y i j):=by
 have e:∀k,k<X.N->gj q n (A.at i k) (B.at k j)=b_ q (iB n (X.g i k) (Y.g k j)):=λk hk=>by refine rl (rA.ent i k hi hk) (rl (rB.ent k j (hN▸hk) hj) ?_);exact nQ hq h1 h4 (hX.ent i k hi hk).1 (hY.ent k j (hN▸hk) hj).1
 unfold oK xC;refine rl rA.hN ?_;rcases CV hX.n0 hX.n2 with h |h
 .refine rl (aaN h) (rl h ?_)
  show kW q 0 (gj q n (A.at i 0) (B.at 0 j))=_;exact rl (e 0 hX.n0 ..) (rl (qM hq ..) (rl (vU ..) J))
 .rw[aaD (by refine rl h ?_;decide),h]
  show ie q (kW q 0 (gj q n (A.at i 0) (B.at 0 j))) (gj q n (A.at i 1) (B.at 1 j))=_;exact rl (e 0 hX.n0 ..) (rl (e 1 (h▸by decide)) (rl (qM hq ..) (rl (vU ..) (rl (qL hq ..) J))))
theorem IG{c:acu}:(dR.mk [[c]] false 1 1).at 0 0=c:=rfl
theorem l9(k:Nat):k<2\/(k=2\/k=6)\/k=3\/k=4\/k=8\/(¬k<2/\¬(k=2\/k=6)/\k≠3/\k≠4/\k≠8):=by
 by_cases a:k<2
 .exact .inl a
 by_cases b:k=2\/k=6
 .exact .inr (.inl b)
 by_cases c:k=3
 .exact .inr (.inr (.inl c))
 by_cases e:k=4
 .exact .inr (.inr (.inr (.inl e)))
 by_cases f:k=8
 .exact .inr (.inr (.inr (.inr (.inl f))))
 exact .inr (.inr (.inr (.inr (.inr ⟨a,b,c,e,f⟩))))
theorem Pa{k:Nat}(h:k=2\/k=6):¬k<2/\k≠3/\k≠4/\k≠8:=by rcases h with h |h<;>(subst h;decide)
theorem k9{k:Nat}{P:Prop}(h:k=3\/k=4\/k=8\/P)(a:k≠3)(b:k≠4)(c:k≠8):P:=((h.resolve_left a).resolve_left b).resolve_left c
section
variable{q:Int}{n:Nat}{A B:dR}{X Y:XM}{d:gV}
theorem Oz(h:d.kind=3):ff q n A B d = .made ⟨A.rows,!A.tr,A.m,A.n⟩/\gQ n X Y d=⟨X.N,X.M,λi j=>X.g j i⟩:=by unfold ff gQ;exact rl h (⟨J,J⟩)
theorem OA(h:d.kind=4):ff q n A B d = .made ⟨[[wY q n d.small (A.at 0 0) (B.at 0 0)]],false,1,1⟩/\gQ n X Y d=⟨1,1,λ_ _=>qj n d.small (X.g 0 0) (Y.g 0 0)⟩:=by unfold ff gQ;exact rl h (⟨J,J⟩)
theorem OB(h:d.kind=8):ff q n A B d = .made ⟨[[oJ q n (jd n) (A.at 0 0) d.power]],false,1,1⟩/\gQ n X Y d=⟨1,1,λ_ _=>xB n (jd n) (X.g 0 0) d.power⟩:=by unfold ff gQ;exact rl h (⟨J,J⟩)
theorem CW(h:d.kind<2):ff q n A B d=(if A.N=B.M then .made (B_ A.M B.N λi j=>oK q n A.rows B.rows A.tr B.tr A.N i j) else .shape)/\gQ n X Y d=⟨X.M,Y.N,xC n X Y⟩:=by unfold ff gQ;exact rl (aaN h) (rl (aaN h) (⟨J,J⟩))
theorem CX(h:d.kind=2\/d.kind=6):ff q n A B d=(if A.M=B.M/\A.N=B.N then .made (B_ A.M A.N λi j=>ie q (A.at i j) (B.at i j)) else .shape)/\gQ n X Y d=⟨X.M,X.N,λi j=>uN (X.g i j) (Y.g i j)⟩:=by unfold ff gQ;exact rl (aaD (Pa h).1) (rl (aaD (Pa h).1) (rl (aaN h) (rl (aaN h) (⟨J,J⟩))))
theorem sr(h:¬d.kind<2/\¬(d.kind=2\/d.kind=6)/\d.kind≠3/\d.kind≠4/\d.kind≠8)(h7:d.kind≠7):ff q n A B d=(if A.M=B.M/\A.N=B.N then .made (B_ A.M A.N λi j=>iV q (A.at i j) (B.at i j)) else .shape)/\gQ n X Y d=⟨X.M,X.N,λi j=>xA (X.g i j) (Y.g i j)⟩:=by refine nb λnn=>?_;obtain⟨a,b,c,e,f⟩:=h;refine nn ?_;unfold ff gQ;exact rl (aaD a) (rl (aaD a) (rl (aaD b) (rl (aaD b) (rl (aaD c) (rl (aaD c) (rl (aaD e) (rl (aaD e) (rl (aaD h7) (rl (aaD f) (rl (aaD f) (⟨J,J⟩)))))))))))
theorem zB(h7:d.kind=7):ff q n A B d = .kind:=by unfold ff;refine rl h7 ?_;rfl
theorem zz{i:Nat}(h:i<1):i=0:=Nat.lt_one_iff.mp h
theorem zC{b b':Nat}(hq:1<q)(h1:1<=n)(h4:n<=4)(hX:xG n b X)(hY:xG n b' Y)(rA:RQ q n X A)(rB:RQ q n Y B)(h7:d.kind≠7)(hf:Fits X Y d):∃R,ff q n A B d = .made R/\RQ q n (gQ n X Y d) R:=by
 have rY:0<q:=Int.lt_trans (by decide) hq;have fin:∀{R:dR}{Z:XM},ff q n A B d = .made R->gQ n X Y d=Z->R.M=Z.M->R.N=Z.N->(∀i j,i<Z.M->j<Z.N->R.at i j=b_ q (Z.g i j))->∃R,ff q n A B d = .made R/\RQ q n (gQ n X Y d) R:=
  λ{R Z} e z a1 a2 a3=>⟨R,e,z▸⟨Cf hq h1 rA.ok rB.ok e,a1,a2,a3⟩⟩
 have m0:=hX.m0;have n0:=hX.n0;have dims:X.M=Y.M/\X.N=Y.N->A.M=B.M/\A.N=B.N:=λe=>by exact rl rA.hM (rl rA.hN (rl rB.hM (rl rB.hN e)))
 refine nb λnn=>?_;rcases l9 d.kind with h |h |h |h |h |h
 .have e:=hf.1 h
  obtain⟨x,y⟩:=CW (q:=q) (n:=n) (A:=A) (B:=B) (X:=X) (Y:=Y) h;rw[aaN (by exact rl rA.hN (rl rB.hM e))] at x;exact nn<|fin x y rA.hM rB.hN λi j hi hj=>(A9 (rA.hM.symm▸hi) (rB.hN.symm▸hj)).trans (IF rY h1 h4 hX hY rA rB e hi hj)
 .obtain⟨k2,k3,k4,k8⟩:=Pa h
  have e:=k9 (hf.2 k2) k3 k4 k8;obtain⟨x,y⟩:=CX (q:=q) (n:=n) (A:=A) (B:=B) (X:=X) (Y:=Y) h;replace x:=(aaN (dims e))▸x;exact nn<|fin x y rA.hM rA.hN λi j hi hj=>(A9 (rA.hM.symm▸hi) (rA.hN.symm▸hj)).trans (by exact rl (rA.ent i j hi hj) (rl (rB.ent i j (e.1▸hi) (e.2▸hj)) ((qL rY _ _))))
 .obtain⟨x,y⟩:=Oz (q:=q) (n:=n) (A:=A) (B:=B) (X:=X) (Y:=Y) h
  refine nn<|fin x y ?_ ?_ λi j hi hj=>(R9 A i j).trans (rA.ent j i hj hi)
  .refine Eq.trans ?_ rA.hN
   show dm A.m A.n (!A.tr)=dn A.m A.n A.tr;cases A.tr<;>rfl
  .refine Eq.trans ?_ rA.hM
   show dn A.m A.n (!A.tr)=dm A.m A.n A.tr;cases A.tr<;>rfl
 .obtain⟨x,y⟩:=OA (q:=q) (n:=n) (A:=A) (B:=B) (X:=X) (Y:=Y) h
  refine nn<|fin x y J J λi j hi hj=>?_
  refine rl (zz hi) (rl (zz hj) (rl IG (rl (rA.ent 0 0 m0 n0) (rl (rB.ent 0 0 hY.m0 hY.n0) ?_))));exact Em rY h1 h4 (hX.ent 0 0 m0 n0).1 (hY.ent 0 0 hY.m0 hY.n0).1 _
 .obtain⟨x,y⟩:=OB (q:=q) (n:=n) (A:=A) (B:=B) (X:=X) (Y:=Y) h
  refine nn<|fin x y J J λi j hi hj=>?_
  refine rl (zz hi) (rl (zz hj) (rl IG (rl (rA.ent 0 0 m0 n0) ?_)));have:=Eo rY h1 h4 d.power (jd n) (X.g 0 0) (nJ h1) (hX.ent 0 0 m0 n0).1;replace this:=(Iv hq ..)▸this;exact this
 .have e:=k9 (hf.2 h.1) h.2.2.1 h.2.2.2.1 h.2.2.2.2
  obtain⟨x,y⟩:=sr (q:=q) (n:=n) (A:=A) (B:=B) (X:=X) (Y:=Y) h h7;replace x:=(aaN (dims e))▸x;exact nn<|fin x y rA.hM rA.hN λi j hi hj=>(A9 (rA.hM.symm▸hi) (rA.hN.symm▸hj)).trans (by exact rl (rA.ent i j hi hj) (rl (rB.ent i j (e.1▸hi) (e.2▸hj)) ((vP rY _ _))))
theorem vV(rA:RQ q n X A)(rB:RQ q n Y B)(h7:d.kind≠7)(h3:¬(d.kind=3\/d.kind=4\/d.kind=8))(hf:¬Fits X Y d):ff q n A B d = .shape:=by
 have dims:A.M=B.M/\A.N=B.N->X.M=Y.M/\X.N=Y.N:=λe=>by exact rs rA.hM (rs rA.hN (rs rB.hM (rs rB.hN e)))
 rcases l9 d.kind with h |h |h |h |h |h
 .rw[(CW (X:=X) (Y:=Y) h).1,aaD λe=>hf ⟨λ_=>by exact rs rA.hN (rs rB.hM e),λq=>absurd h q⟩]
 .exact rl ((CX (X:=X) (Y:=Y) h).1) (rl (aaD λe=>hf ⟨λq=>absurd q (Pa h).1,λ_=>.inr (.inr (.inr (dims e)))⟩) J)
 .exact absurd (.inl h) h3
 .exact absurd (.inr (.inl h)) h3
 .exact absurd (.inr (.inr h)) h3
 .exact rl ((sr (X:=X) (Y:=Y) h h7).1) (rl (aaD λe=>hf ⟨λq=>absurd q h.1,λ_=>.inr (.inr (.inr (dims e)))⟩) J)
end
theorem R_{b p:Nat}(hb:11<=b)(hp:3<=p):2*b+6<=p*(b+2)/\b+1<=p*(b+2):=by have hpb:3*(b+2)<=p*(b+2):=Nat.mul_le_mul_right _ hp;exact Wo hpb
theorem YC{z w:Nat}(h:z*64<=w)(g:2^11<=z):4*z<=w/\4*z+4*z<=w/\24*z+1142<=w:=by exact Wq h g
theorem Sa{n b p:Nat}(h1:1<=n)(h4:n<=4)(hb:11<=b)(hp:3<=p){X Y:XM}(hX:xG n (2^b) X)(hY:xG n (2^b) Y){d:gV}(hs:d.small<1000)(YD:d.power<=p)(h7:d.kind≠7)(hf:Fits X Y d):xG n (2^(p*(b+2))) (gQ n X Y d):=by
 have m0:=hX.m0;have n0:=hX.n0;refine nb λnn=>?_;obtain⟨q1,q2⟩:=R_ hb hp;have up:∀{k:Nat},k<=p*(b+2)->2^k<=2^(p*(b+2)):=λh=>abW (by decide) h;have e2:(2:Nat)^b*2^b=2^(2*b):=by exact rs (Nat.pow_add ..) (rl (Nat.two_mul ..) J)
 obtain⟨u1,u2,u3⟩:=YC (z:=2^b*2^b) (w:=2^(p*(b+2))) (by exact rl e2 ((Nat.pow_add 2 (2*b) 6▸up q1))) (by exact rl e2 ((abW (by decide) (aaf hb (Nat.le_mul_of_pos_left b (by decide))))));have sum:2^b+2^b<=2^(p*(b+2)):=by
  have u:=up q2
  rwa [Nat.pow_succ,Nat.mul_two] at u
 have one:1<=2:=by decide
 obtain⟨l1,b1⟩:=hX.ent 0 0 m0 n0;rcases l9 d.kind with h |h |h |h |h |h
 .have e:=hf.1 h
  refine nn ?_;refine rl ((CW (q:=1) (n:=n) (A:=dZ) (B:=dZ) (X:=X) (Y:=Y) h).2) ?_;refine⟨m0,hY.n0,hX.m2,hY.n2,λi j hi hj=>?_⟩;have hi:i<X.M:=hi;have hj:j<Y.N:=hj;have s:∀k,k<X.N->k_ (4*(2^b*2^b)) (iB n (X.g i k) (Y.g k j)):=λk hk=>ur h1 h4 (hX.ent i k hi hk).1 (hY.ent k j (e▸hk) hj).1 (hX.ent i k hi hk).2 (hY.ent k j (e▸hk) hj).2;show(xC n X Y i j).length=n/\k_ _ (xC n X Y i j);unfold xC;split
  .exact⟨gD ..,(s 0 n0).mono u1⟩
  .rename_i h2
   exact⟨zx (gD ..) (gD ..),(Iz (s 0 n0) (s 1 (Nat.lt_of_le_of_ne n0 λq=>h2 q.symm))).mono u2⟩
 .obtain⟨k2,k3,k4,k8⟩:=Pa h
  have e:=k9 (hf.2 k2) k3 k4 k8;refine nn ?_;refine rl ((CX (q:=1) (n:=n) (A:=dZ) (B:=dZ) (X:=X) (Y:=Y) h).2) ?_;refine⟨m0,n0,hX.m2,hX.n2,λi j hi hj=>?_⟩;obtain⟨l1,b1⟩:=hX.ent i j hi hj;obtain⟨l2,b2⟩:=hY.ent i j (e.1▸hi) (e.2▸hj);exact⟨zx l1 l2,(Iz b1 b2).mono sum⟩
 .refine nn ?_
  refine rl ((Oz (q:=1) (n:=n) (A:=dZ) (B:=dZ) (X:=X) (Y:=Y) h).2) ?_;exact⟨n0,m0,hX.n2,hX.m2,λi j hi hj=>⟨(hX.ent j i hj hi).1,(hX.ent j i hj hi).2.mono (up (aaf (aa0 b) q2))⟩⟩
 .obtain⟨l2,b2⟩:=hY.ent 0 0 hY.m0 hY.n0
  refine nn ?_;refine rl ((OA (q:=1) (n:=n) (A:=dZ) (B:=dZ) (X:=X) (Y:=Y) h).2) ?_;exact⟨Nat.one_pos,Nat.one_pos,one,one,λi j hi hj=>⟨Ej ..,(Lr h1 h4 l1 l2 b1 b2 hs).mono u3⟩⟩
 .refine nn ?_
  refine rl ((OB (q:=1) (n:=n) (A:=dZ) (B:=dZ) (X:=X) (Y:=Y) h).2) ?_;refine⟨Nat.one_pos,Nat.one_pos,one,one,λi j hi hj=>⟨Iu _ _ _ (nJ h1),(Ow h1 h4 d.power (jd n) (X.g 0 0) 1 (2^b) (nJ h1) l1 Ov b1).mono ?_⟩⟩;rw[Nat.one_mul,show 4*2^b=2^(b+2) by exact rl (Nat.pow_add ..) (rl (Nat.mul_comm ..) J),<- Nat.pow_mul,Nat.mul_comm];exact up (Nat.mul_le_mul_right _ YD)
 .have e:=k9 (hf.2 h.1) h.2.2.1 h.2.2.2.1 h.2.2.2.2
  refine nn ?_;refine rl ((sr (q:=1) (n:=n) (A:=dZ) (B:=dZ) (X:=X) (Y:=Y) h h7).2) ?_;refine⟨m0,n0,hX.m2,hX.n2,λi j hi hj=>?_⟩;obtain⟨l1,b1⟩:=hX.ent i j hi hj;obtain⟨l2,b2⟩:=hY.ent i j (e.1▸hi) (e.2▸hj);exact⟨Ir l1 l2,(Ot b1 b2).mono sum⟩
theorem xG.mono{n b b':Nat}{X:XM}(h:xG n b X)(hb:b<=b'):xG n b' X:=⟨h.m0,h.n0,h.m2,h.n2,λi j hi hj=>⟨(h.ent i j hi hj).1,(h.ent i j hi hj).2.mono hb⟩⟩
theorem cZ.pow{q x y:Int}(h:cZ q x y):∀(e:Nat),cZ q (x^e) (y^e)
 |0=>by exact rl (Int.pow_zero ..) (rl (Int.pow_zero ..) ((cZ.refl _ _)))
 |e+1=>by exact rl (abK ..) (rl (abK ..) (((cZ.pow h e).mul h)))
structure RP(n:Nat)(X:XM)(P:PM):Prop where
 ok:fD (wholeOf n) P
 hM:P.length=X.M
 hN:pW P=X.N
 ent:∀i j,i<X.M->j<X.N->pat P i j=(gB big (X.g i j)).fmod (wholeOf n)
theorem Lu{P:PM}{f:acu->acu}{i j:Nat}(hi:i<P.length):pat (P.map f) i j=((f (P[i]?.getD []))[j]?).getD 0:=by unfold pat;refine rl aav (rl (aak hi) ?_);rfl
theorem OC{P:PM}{f:acu->acu}(h:0<P.length){w:Nat}(hw:∀r∈P,(f r).length=w):pW (P.map f)=w:=by unfold pW;refine rl aav (rl (aak h) ?_);exact hw _ (aaE h)
theorem Sb{P:PM}{n:Nat}(h:0<pW P)(e:P.length=n):pW ((List.range (pW P)).map λc=>P.map λrow=>row[c]?.getD 0)=n:=by generalize pW P=k at h;unfold pW;refine rl aav (rl (abZ h) ?_);exact(aai ..).trans e
theorem OD{whole:Int}{P Q:PM}{f:Int×Int->Int}{n:Nat}(hP:fD whole P)(hQ:fD whole Q)(h0:0<P.length)(h1:0<Q.length)(e1:pW P=n)(e2:pW Q=n):pW ((P.zip Q).map λp=>(p.1.zip p.2).map f)=n:=by have l1:=hP.row _ (aaE h0);have l2:=hQ.row _ (aaE h1);replace l1:=e1▸l1;replace l2:=e2▸l2;unfold pW;rw[aav,aak (by exact rl aaZ ((Nat.lt_min.mpr ⟨h0,h1⟩))),List.getElem_zip];show((P[0].zip Q[0]).map f).length=n;exact rl (aai ..) (rl (aaZ ..) (rl l1 (rl l2 (rl (Nat.min_self ..) J))))
theorem Sd{whole:Int}{x:Int}{b:PM}{c:Nat}:AS whole [x] b c=(0+x*pat b 0 c).fmod whole:=rfl
theorem Se{whole:Int}{x y:Int}{b:PM}{c:Nat}:AS whole [x,y] b c=(0+x*pat b 0 c+y*pat b 1 c).fmod whole:=rfl
theorem xD{P:PM}{i k:Nat}:((P[i]?.getD [])[k]?).getD 0=pat P i k:=rfl
theorem Lv{r:acu}(h:r.length=1):r=[(r[0]?).getD 0]:=by obtain⟨a,rfl⟩:=ab4.mp h;rfl
theorem Lw{r:acu}(h:r.length=2):r=[(r[0]?).getD 0,(r[1]?).getD 0]:=by
 match r,h with
 |[a,b],_=>rfl
section
variable{n b b':Nat}{X Y:XM}{P Q:PM}
theorem uu(h4:n<=4):1<wholeOf n:=(qG h4).1
theorem vW{x y:Int}(h4:n<=4)(h:cZ (wholeOf n) x y):x.fmod (wholeOf n)=y.fmod (wholeOf n):=h.eq (Int.lt_trans (by decide) (uu h4))
theorem Lx(h1:1<=n)(h4:n<=4){a c:acu}(ha:a.length=n)(hc:c.length=n):cZ (wholeOf n) (gB big a*gB big c) (gB big (iB n a c)):=by exact rl (ki ..) (((xy h1 h4 ha hc).symm))
theorem Ep(h1:1<=n)(h4:n<=4)(hX:xG n b X)(hY:xG n b' Y)(rA:RP n X P)(rB:RP n Y Q)(hN:X.N=Y.M){i j:Nat}(hi:i<X.M)(hj:j<Y.N):AS (wholeOf n) (P[i]?.getD []) Q j=(gB big (xC n X Y i j)).fmod (wholeOf n):=by
 have e:∀k,k<X.N->cZ (wholeOf n) (pat P i k*pat Q k j) (gB big (iB n (X.g i k) (Y.g k j))):=λk hk=>by refine rl (rA.ent i k hi hk) (rl (rB.ent k j (hN▸hk) hj) ?_);exact((cZ.fm _ _).mul (cZ.fm _ _)).trans (Lx h1 h4 (hX.ent i k hi hk).1 (hY.ent k j (hN▸hk) hj).1)
 have hl:(P[i]?.getD []).length=X.N:=(rA.ok.at (rA.hM.symm▸hi)).2.trans rA.hN;unfold xC;rcases CV hX.n0 hX.n2 with h |h
 .refine rl (aaN h ..) (rl (Lv (hl.trans h) ..) (rl (xD ..) (rl (Sd ..) (rl (Int.zero_add ..) ?_))))
  exact vW h4 (e 0 hX.n0)
 .rw[aaD (by refine rl h ?_;decide),Lw (hl.trans h),xD,xD,Se,Int.zero_add,A8 _ _ _ ((gD ..).trans (gD ..).symm)]
  exact vW h4 ((e 0 hX.n0).add (e 1 (h▸by decide)))
section
variable{w:Int}{d:gV}
theorem Sf(h:d.kind<2):iR w P Q d=P.map λrow=>(List.range (pW Q)).map λc=>AS w row Q c:=by unfold iR;exact rl (aaN h) J
theorem YE(h:d.kind=3):iR w P Q d=(List.range (pW P)).map λc=>P.map λrow=>row[c]?.getD 0:=by unfold iR;refine rl h ?_;rfl
theorem YF(h:d.kind=4):iR w P Q d=[[((d.small:Int)-6*pat P 0 0*pat Q 0 0+(d.small:Int).fdiv 7).fmod w]]:=by unfold iR;refine rl h ?_;rfl
theorem YH(h:d.kind=8):iR w P Q d=[[(pat P 0 0^d.power).fmod w]]:=by unfold iR;refine rl h ?_;rfl
theorem CY(a:¬d.kind<2)(b:d.kind≠3)(c:d.kind≠4)(e:d.kind≠8):iR w P Q d=(P.zip Q).map λp=>(p.1.zip p.2).map λz=>(z.1+(if d.kind=2\/d.kind=6 then 1 else -1)*z.2).fmod w:=by unfold iR;exact rl (aaD a) (rl (aaD b) (rl (aaD c) (rl (aaD e) J)))
end
theorem OE{whole:Int}(hP:fD whole P)(hQ:fD whole Q)(f:Int×Int->Int)(e1:P.length=Q.length)(e2:pW P=pW Q){i j:Nat}(hi:i<P.length)(hj:j<pW P):pat ((P.zip Q).map λp=>(p.1.zip p.2).map f) i j=f (pat P i j,pat Q i j):=by
 have hi':i<Q.length:=e1▸hi;have l1:=hP.row _ (aaE hi);have l2:=hQ.row _ (aaE hi');have hz:i<(P.zip Q).length:=by exact rl aaZ ((Nat.lt_min.mpr ⟨hi,hi'⟩))
 unfold pat;refine rl aav (rl (aak hz) (rl List.getElem_zip (rl (aak hi) (rl (aak hi') ?_))));show((((P[i].zip Q[i]).map f)[j]?).getD 0)=f ((P[i][j]?).getD 0,(Q[i][j]?).getD 0);have a1:j<P[i].length:=l1▸hj;have a2:j<Q[i].length:=l2▸e2▸hj;rw[aav,aak (by exact rl aaZ ((Nat.lt_min.mpr ⟨a1,a2⟩))),List.getElem_zip,aak a1,aak a2];rfl
theorem zE(h4:n<=4)(rA:RP n X P)(rB:RP n Y Q)(e1:X.M=Y.M)(e2:X.N=Y.N)(m0:0<X.M)(f:Int×Int->Int){g:Nat->Nat->acu}(hv:∀i j,i<X.M->j<X.N->f (pat P i j,pat Q i j)=(gB big (g i j)).fmod (wholeOf n))(ok:fD (wholeOf n) ((P.zip Q).map λp=>(p.1.zip p.2).map f)):RP n ⟨X.M,X.N,g⟩ ((P.zip Q).map λp=>(p.1.zip p.2).map f):=by
 have l:P.length=Q.length:=rA.hM.trans (e1.trans rB.hM.symm);have w:pW P=pW Q:=rA.hN.trans (e2.trans rB.hN.symm);refine⟨ok,?_,OD rA.ok rB.ok (rA.hM.symm▸m0) (l▸rA.hM.symm▸m0) rA.hN (w▸rA.hN),λi j hi hj=>?_⟩
 .exact rl (aai ..) (rl (aaZ ..) (rs l (rl (Nat.min_self ..) (rA.hM))))
 .refine rl (OE rA.ok rB.ok f l w (rA.hM.symm▸hi) (rA.hN.symm▸hj)) ?_
  exact hv i j hi hj
theorem A_(h1:1<=n)(h4:n<=4)(hX:xG n b X)(hY:xG n b' Y)(rA:RP n X P)(rB:RP n Y Q){d:gV}(h7:d.kind≠7)(hf:Fits X Y d):RP n (gQ n X Y d) (iR (wholeOf n) P Q d):=by
 have m0:=hX.m0;have n0:=hX.n0;have ok:=yY (uu h4) rA.ok rB.ok (by exact rl rA.hM (rl rA.hN (rl rB.hM (rl rB.hN hf))));rcases l9 d.kind with h |h |h |h |h |h
 .have e:=hf.1 h
  rw[Sf h] at ok ⊢;refine rl ((CW (q:=1) (n:=n) (A:=dZ) (B:=dZ) (X:=X) (Y:=Y) h).2) ?_;refine⟨ok,(aai ..).trans rA.hM,OC (rA.hM.symm▸m0) λr hr=>by refine rl (aai ..) (rl (aa6 ..) ?_);exact rB.hN,λi j hi hj=>?_⟩;refine rl (Lu (rA.hM.symm▸hi)) (rl aav (rl (abZ (rB.hN.symm▸hj)) ?_));exact Ep h1 h4 hX hY rA rB e hi hj
 .obtain⟨k2,k3,k4,k8⟩:=Pa h
  have e:=k9 (hf.2 k2) k3 k4 k8;rw[CY k2 k3 k4 k8,aaN h] at ok ⊢;refine rl ((CX (q:=1) (n:=n) (A:=dZ) (B:=dZ) (X:=X) (Y:=Y) h).2) ?_;refine zE h4 rA rB e.1 e.2 m0 _ (λi j hi hj=>?_) ok;show(pat P i j+1*pat Q i j).fmod (wholeOf n)=_;refine rl (rA.ent i j hi hj ..) (rl (rB.ent i j (e.1▸hi) (e.2▸hj)) (rl (A8 _ _ _ ((hX.ent i j hi hj).1.trans (hY.ent i j (e.1▸hi) (e.2▸hj)).1.symm)) (rl (Int.one_mul ..) ?_)));exact vW h4 ((cZ.fm _ _).add (cZ.fm _ _))
 .rw[YE h] at ok ⊢
  refine rl ((Oz (q:=1) (n:=n) (A:=dZ) (B:=dZ) (X:=X) (Y:=Y) h).2) ?_;refine⟨ok,((aai ..).trans (aa6 ..)).trans rA.hN,Sb (rA.hN.symm▸n0) rA.hM,λi j hi hj=>?_⟩;have hj':j<P.length:=rA.hM.symm▸hj;unfold pat;refine rl aav (rl (abZ (rA.hN.symm▸hi)) ?_);show(((P.map λrow=>row[i]?.getD 0)[j]?).getD 0)=_;refine rl aav (rs (rA.ent j i hj hi) ?_);unfold pat;refine rl (aak hj') ?_;rfl
 .rw[YF h] at ok ⊢
  refine rl ((OA (q:=1) (n:=n) (A:=dZ) (B:=dZ) (X:=X) (Y:=Y) h).2) ?_;refine⟨ok,J,J,λi j hi hj=>?_⟩;refine rl (zz hi) (rl (zz hj) ?_);show((d.small:Int)-6*pat P 0 0*pat Q 0 0+(d.small:Int).fdiv 7).fmod (wholeOf n)=_;have r:=Lq (B:=big) h1 h4 (hX.ent 0 0 m0 n0).1 (hY.ent 0 0 hY.m0 hY.n0).1 d.small;replace r:=(ki ..).symm▸r;refine rl (rA.ent 0 0 m0 n0) (rl (rB.ent 0 0 hY.m0 hY.n0) ?_);exact vW h4 ((((cZ.refl _ _).sub (((cZ.refl _ 6).mul (cZ.fm _ _)).mul (cZ.fm _ _))).add (cZ.refl _ _)).trans r.symm)
 .rw[YH h] at ok ⊢
  refine rl ((OB (q:=1) (n:=n) (A:=dZ) (B:=dZ) (X:=X) (Y:=Y) h).2) ?_;refine⟨ok,J,J,λi j hi hj=>?_⟩;refine rl (zz hi) (rl (zz hj) ?_);show(pat P 0 0^d.power).fmod (wholeOf n)=_;have r:=Oq (B:=big) h1 h4 d.power (jd n) (X.g 0 0) (nJ h1) (hX.ent 0 0 m0 n0).1;replace r:=(ki ..).symm▸r;replace r:=(Oo ..)▸r;replace r:=(Int.one_mul ..)▸r;refine rl (rA.ent 0 0 m0 n0) ?_;exact vW h4 ((cZ.pow (cZ.fm _ _) _).trans r.symm)
 .have e:=k9 (hf.2 h.1) h.2.2.1 h.2.2.2.1 h.2.2.2.2
  rw[CY h.1 h.2.2.1 h.2.2.2.1 h.2.2.2.2,aaD h.2.1] at ok ⊢;refine rl ((sr (q:=1) (n:=n) (A:=dZ) (B:=dZ) (X:=X) (Y:=Y) h h7).2) ?_;refine zE h4 rA rB e.1 e.2 m0 _ (λi j hi hj=>?_) ok;show(pat P i j + -1*pat Q i j).fmod (wholeOf n)=_;refine rl (rA.ent i j hi hj ..) (rl (rB.ent i j (e.1▸hi) (e.2▸hj)) (rl (CS _ _ _ ((hX.ent i j hi hj).1.trans (hY.ent i j (e.1▸hi) (e.2▸hj)).1.symm)) (rl (Int.neg_mul ..) (rl (Int.one_mul ..) (rs (Int.sub_eq_add_neg ..) ?_)))));exact vW h4 ((cZ.fm _ _).sub (cZ.fm _ _))
end
structure Rel(n b:Nat)(Xs:List XM)(sh:List PM)(sk sd:List dR):Prop where
 lp:sh.length=Xs.length
 lk:sk.length=Xs.length
 ld:sd.length=Xs.length
 at_:∀(i:Nat)(X:XM),Xs[i]?=some X->xG n b X/\RP n X (sh[i]?.getD [])/\RQ kQ n X (sk[i]?.getD dZ)/\RQ dQ n X (sd[i]?.getD dZ)
theorem uv{α:Type}(l:List α)(x d:α){i:Nat}(h:i<l.length):(l++[x])[i]?.getD d=l[i]?.getD d:=by exact rl (List.getElem?_append_left h) J
theorem uw{α:Type}(l:List α)(x d:α){i:Nat}(h:i=l.length):(l++[x])[i]?.getD d=x:=by subst h;simp
theorem Rel.mono{n b b':Nat}{Xs:List XM}{sh:List PM}{sk sd:List dR}(R:Rel n b Xs sh sk sd)(hb:b<=b'):Rel n b' Xs sh sk sd:=⟨R.lp,R.lk,R.ld,λi X e=>⟨(R.at_ i X e).1.mono hb,(R.at_ i X e).2⟩⟩
theorem OF{α:Type}{l:List α}{x y:α}{i:Nat}(e:(l++[x])[i]?=some y):(i<l.length/\l[i]?=some y)\/(i=l.length/\x=y):=by
 by_cases h:i<l.length
 .rw[List.getElem?_append_left h] at e;exact .inl ⟨h,e⟩
 .have hi:i<(l++[x]).length:=(abx.mp e).1
  rw[aaX] at hi;have hi:i=l.length:=Nat.le_antisymm (abS hi) (aaw.mp h);rw[hi,List.getElem?_append_right (aaq _),abt] at e;exact .inr ⟨hi,aax e⟩
theorem Rel.app{n b b':Nat}{Xs:List XM}{sh:List PM}{sk sd:List dR}(R:Rel n b Xs sh sk sd)(hb:b<=b'){X:XM}{P:PM}{A B:dR}(hX:xG n b' X)(hP:RP n X P)(hA:RQ kQ n X A)(hB:RQ dQ n X B):Rel n b' (Xs++[X]) (sh++[P]) (sk++[A]) (sd++[B]):=by
 have l1:=R.lp;have l2:=R.lk;have l3:=R.ld;refine⟨by refine rl aaX (rl aaX (rl l1 ?_));rfl,by refine rl aaX (rl aaX (rl l2 ?_));rfl,by refine rl aaX (rl aaX (rl l3 ?_));rfl,λi Y e=>?_⟩;rcases OF e with⟨h,e⟩ |⟨h,rfl⟩
 .refine rl (uv _ _ _ (l1▸h)) (rl (uv _ _ _ (l2▸h)) (rl (uv _ _ _ (l3▸h)) ?_))
  exact⟨(R.at_ i Y e).1.mono hb,(R.at_ i Y e).2⟩
 .refine rl (uw _ _ _ (l1▸h)) (rl (uw _ _ _ (l2▸h)) (rl (uw _ _ _ (l3▸h)) ?_))
  exact⟨hX,hP,hA,hB⟩
theorem II{kind:Nat}{a:PM}{sh:List PM}{j:Nat}(hj:j<sh.length):j∈rm kind a sh↔qD kind a (sh[j]?.getD [])=true:=by refine⟨fits_of,λh=>?_⟩;refine aan.mpr ⟨(j,sh[j]),aaG.mpr ⟨List.mem_mapIdx.mpr ⟨j,hj,J⟩,?_⟩,J⟩;replace h:=(aak hj)▸h;exact h
noncomputable def eb:Nat->Nat
 |0=>11
 |t+1=>(if t=3 then 6 else 3)*(eb t+2)
theorem MD:∀t,11<=eb t
 |0=>aaq _
 |t+1=>by have:=MD t;show 11<=(if t=3 then 6 else 3)*(eb t+2);split<;>(first |exact Wr |exact Ws this)
theorem Ly:eb 4=2262:=by decide
theorem IJ(st:PS)(drawn:Int)(h0:0<st.sh.length):(aW st drawn).kind<10/\(aW st drawn).power<1000/\(aW st drawn).i<st.sh.length/\(aW st drawn).j<st.sh.length/\(aW st drawn).small<1000:=by
 have lt:∀(a:Int){m:Nat},0<m->(a.fmod m).toNat<m:=λa m h=>by have:=bT a (b:=(m:Int)) (by exact a1 h);exact v5 this
 refine⟨lt _ (m:=10) (by decide),aaC (Nat.mod_le _ _) (lt _ (m:=1000) (by decide)),lt _ h0,Cn h0,lt _ (m:=1000) (by decide)⟩
theorem OG(st:PS)(drawn:Int):(aW st drawn).power<=(if st.ds.length=3 then 6 else 3):=by
 show((drawn.fdiv 3).fmod 1000).toNat%(if st.ds.length=3 then 7 else 4)<=_;split
 .exact abS (Nat.mod_lt _ (by decide))
 .exact abS (Nat.mod_lt _ (by decide))
theorem Lz(w:Int)(st:PS)(drawn:Int):(fG w st drawn).ds=st.ds++[aW st drawn]:=by
 unfold fG;split
 .rfl
 .split<;>rfl
theorem OH{P a b c:Prop}:(P\/a\/b\/c)↔(a\/b\/c\/P):=
 ⟨λh=>h.elim (λp=>.inr (.inr (.inr p))) λh=>h.imp_right λh=>h.imp_right .inl,λh=>h.elim (λa=>.inr (.inl a)) λh=>h.elim (λb=>.inr (.inr (.inl b))) λh=>h.elim (λc=>.inr (.inr (.inr c))) .inl⟩
theorem IK{n:Nat}{X Y:XM}{P Q:PM}(rp:RP n X P)(rp':RP n Y Q)(d:gV):(qD d.kind P Q=true\/d.kind=3\/d.kind=4\/d.kind=8)↔Fits X Y d:=by
 unfold qD Fits;refine rl rp.hM (rl rp.hN (rl rp'.hM (rl rp'.hN ?_)));by_cases k2:d.kind<2
 .rw[aaN k2,decide_eq_true_iff]
  refine⟨λh=>⟨λ_=>h.elim id λh=>absurd k2 ?_,λq=>absurd k2 q⟩,λh=>.inl (h.1 k2)⟩;rcases h with h |h |h<;>(rw[h];decide)
 .rw[aaD k2,acd,decide_eq_true_iff,decide_eq_true_iff]
  exact OH.trans ⟨λh=>⟨λq=>absurd q k2,λ_=>h⟩,λh=>h.2 k2⟩
section
variable{n:Nat}(h1:1<=n)(h4:n<=4)
include h1 h4
theorem IL{b p:Nat}(hb:11<=b)(hp:3<=p){Xs:List XM}{st:PS}{sk sd:List dR×List Str}(R:Rel n (2^b) Xs st.sh sk.1 sd.1)(tk:sk.2=st.td)(td:sd.2=st.td)(h0:0<st.sh.length)(drawn:Int)(YD:(aW st drawn).power<=p) :
 ∃Sg,Rel n (2^(p*(b+2))) Sg (fG (wholeOf n) st drawn).sh (dB kQ n sk (aW st drawn)).1 (dB dQ n sd (aW st drawn)).1/\(dB kQ n sk (aW st drawn)).2=(fG (wholeOf n) st drawn).td/\(dB dQ n sd (aW st drawn)).2=(fG (wholeOf n) st drawn).td:=by
 refine nb λnn=>?_;obtain⟨_,_,hi,hj,hs⟩:=IJ st drawn h0;have lp:=R.lp;have hl:2^b<=2^(p*(b+2)):=abW (by decide) (aaf (aa0 b) (R_ hb hp).2);obtain⟨hX,rp,rk,rd⟩:=R.at_ _ _ (aak (lp▸hi));obtain⟨hY,rp',YI,YJ⟩:=R.at_ _ _ (aak (lp▸hj));refine nn ?_;generalize Xs[(aW st drawn).i]=X at hX rp rk rd;generalize Xs[(aW st drawn).j]=Y at hY rp' YI YJ;have hfx:=IK rp rp' (aW st drawn);have hm:(aW st drawn).j∈cE st drawn↔qD (aW st drawn).kind (st.sh[(aW st drawn).i]?.getD []) (st.sh[(aW st drawn).j]?.getD [])=true:=II hj;rw[<- hm] at hfx;clear hi hj lp h0 hm;unfold fG dB;generalize aW st drawn=d at *;generalize cE st drawn=F at *;by_cases h7:d.kind=7
 .refine rl (aaN h7) (rl (zB h7) (rl (zB h7) ?_))
  exact⟨Xs,R.mono hl,by rw[tk],by rw[td]⟩
 refine rl (aaD h7) ?_;by_cases kq:d.j∉F/\¬(d.kind=3\/d.kind=4\/d.kind=8)
 .refine rl (aaN kq) ?_
  have nf:¬Fits X Y d:=λq=>(hfx.mpr q).elim kq.1 kq.2;refine rl (vV rk YI h7 kq.2 nf) (rl (vV rd YJ h7 kq.2 nf) ?_);exact⟨Xs,R.mono hl,by rw[tk],by rw[td]⟩
 .refine rl (aaD kq) ?_
  have ft:Fits X Y d:=hfx.mp (Classical.byContradiction λz=>kq (not_or.mp z));refine nb λnn=>?_;obtain⟨A,eA,qA⟩:=zC (q:=kQ) (by decide) h1 h4 hX hY rk YI h7 ft;obtain⟨B,eB,qB⟩:=zC (q:=dQ) (by decide) h1 h4 hX hY rd YJ h7 ft;refine nn ?_;refine rl eA (rl eB ?_);exact⟨Xs++[gQ n X Y d],R.app hl (Sa h1 h4 hb hp hX hY hs YD h7 ft) (A_ h1 h4 hX hY rp rp' h7 ft) qA qB,by rw[tk],by exact rl td J⟩
theorem IM:∀(L:acu)(st:PS)(sk sd:List dR×List Str)(Xs:List XM),Rel n (2^eb st.ds.length) Xs st.sh sk.1 sd.1->sk.2=st.td->sd.2=st.td->rL (wholeOf n) L.length st->
 ∃ds Sg,(L.foldl (fG (wholeOf n)) st).ds=st.ds++ds/\jl kQ n ds sk/\jl dQ n ds sd/\rL (wholeOf n) 0 (L.foldl (fG (wholeOf n)) st)/\
  Rel n (2^eb (st.ds.length+L.length)) Sg (L.foldl (fG (wholeOf n)) st).sh (ds.foldl (dB kQ n) sk).1 (ds.foldl (dB dQ n) sd).1/\(ds.foldl (dB kQ n) sk).2=(L.foldl (fG (wholeOf n)) st).td/\(ds.foldl (dB dQ n) sd).2=(L.foldl (fG (wholeOf n)) st).td:=by
 intro ll
 induction ll with
 |nil=>
  intro st sk sd Xs R tk td ok;exact⟨[],Xs,(aaU _).symm,trivial,trivial,ok,R,tk,td⟩
 |cons x L ih=>
  intro st sk sd Xs R tk td ok;refine nb λnn=>?_;obtain⟨Z3,R1,t1,t2⟩:=IL h1 h4 (MD st.ds.length) (p:=if st.ds.length=3 then 6 else 3) (by split<;>decide) R tk td ok.s0 x (OG st x);obtain⟨a1,a2,a3,a4,_⟩:=IJ st x ok.s0;have e:=Lz (wholeOf n) st x;have s5:st.sh.length<=500/\st.td.length<=500:=⟨aaf (aaf (aay _ _) ok.s9) (by decide),aaf (aaf (aay _ _) ok.t9) (by decide)⟩;have lk:st.sh.length=sk.1.length:=R.lp.trans R.lk.symm;have ld:st.sh.length=sd.1.length:=R.lp.trans R.ld.symm;have e':(fG (wholeOf n) st x).ds.length=st.ds.length+1:=by rw[e,aaX];rfl
  have R1':Rel n (2^eb (fG (wholeOf n) st x).ds.length) Z3 (fG (wholeOf n) st x).sh (dB kQ n sk (aW st x)).1 (dB dQ n sd (aW st x)).1:=by rw[e'];exact R1
  obtain⟨ds,Sg,f1,f3,f4,f5,f6,f7,f8⟩:=ih (fG (wholeOf n) st x) _ _ Z3 R1' t1 t2 (ok.step (uu h4) x);refine nn<|⟨aW st x::ds,Sg,?_,⟨⟨a1,a2,lk▸a3,lk▸a4,lk▸s5.1,tk▸s5.2⟩,f3⟩,⟨⟨a1,a2,ld▸a3,ld▸a4,ld▸s5.1,td▸s5.2⟩,f4⟩,f5,?_,f7,f8⟩
  .rw[ab6,f1,e,abU];rfl
  .rw[e',abC,abj 1] at f6
   exact f6
end
theorem LA{whole:Int}{P:PM}(h:fD whole P):P=(List.range P.length).map λi=>(List.range (pW P)).map λj=>pat P i j:=by apply List.ext_getElem (by simp);intro i hi _;refine rl (List.getElem_map ..) (rl (List.getElem_range ..) ?_);have hr:=h.row _ (aaE hi);apply List.ext_getElem (by simp[hr]);intro j hj _;refine rl (List.getElem_map ..) (rl (List.getElem_range ..) ?_);unfold pat;refine rl (aak hi) ?_;show _=(P[i][j]?).getD 0;refine rl (aak hj) ?_;rfl
theorem CZ{q:Int}{n:Nat}{X:XM}{A:dR}(r:RQ q n X A):g6 A=fq X.M X.N λi j=>b_ q (X.g i j):=by unfold g6 fq;refine rl r.hM (rl r.hN ?_);refine aaz λi hi=>aaz λj hj=>?_;exact r.ent i j (aa7.mp hi) (aa7.mp hj)
theorem IP{n b:Nat}{X:XM}{P:PM}(hX:xG n b X)(r:RP n X P)(hb:4*(b:Int)+1<=big):(P.map λrow=>row.map λx=>j8 n (dU (wholeOf n) x))=fq X.M X.N X.g:=by have e:=LA r.ok;replace e:=r.hM▸e;replace e:=r.hN▸e;refine rl e ?_;unfold fq;refine rl aar ?_;refine aaz λi hi=>?_;show((List.range X.N).map λj=>pat P i j).map _=_;refine rl aar ?_;refine aaz λj hj=>?_;have hi:=aa7.mp hi;have hj:=aa7.mp hj;show j8 n (dU (wholeOf n) (pat P i j))=_;refine rl (r.ent i j hi hj) ?_;exact IE hb (hX.ent i j hi hj).1 (hX.ent i j hi hj).2
theorem C0(q:Int)(M N:Nat)(g:Nat->Nat->acu):((fq M N g).map λr=>r.map (b_ q))=fq M N λi j=>b_ q (g i j):=by unfold fq;refine rl aar ?_;refine aaz λi _=>?_;show((List.range N).map λj=>g i j).map _=_;refine rl aar ?_;rfl
theorem LB{n b:Nat}{Xs:List XM}{sh:List PM}{sk sd:List dR}(R:Rel n b Xs sh sk sd)(hb:4*(b:Int)+1<=big) :
 sk.map g6=qh kQ (sh.map λP=>P.map λrow=>row.map λx=>j8 n (dU (wholeOf n) x))/\sd.map g6=qh dQ (sh.map λP=>P.map λrow=>row.map λx=>j8 n (dU (wholeOf n) x)):=by
 have l1:=R.lp;have l2:=R.lk;have l3:=R.ld;unfold qh;refine rl aar (rl aar ?_);constructor
 all_goals
  apply List.ext_getElem (by simp;(first |exact Tg l1 l2 |exact Tg l1 l3));intro i hi hi';have hx:i<Xs.length:=by simp at hi;(first |exact a0 l2 hi |exact a0 l3 hi)
  refine nb λnn=>?_;obtain⟨hX,rp,rk,rd⟩:=R.at_ i _ (aak hx);rw[aak (by(first |exact S7 l1 hx |exact S7 l2 hx |exact S7 l3 hx))] at rp rk rd;simp only[Option.getD_some] at rp rk rd;refine nn ?_;refine rl (List.getElem_map ..) (rl (List.getElem_map ..) ?_);show _=(sh[i].map λrow=>row.map λx=>j8 n (dU (wholeOf n) x)).map _;refine rl (IP hX rp hb ..) (rl (C0 ..) ?_)
  first |exact CZ rk |exact CZ rd
theorem LC:4*(((2:Nat)^2262:Nat):Int)+1<=big:=by
 unfold big;have e:(2:Int)^(2304:Int).toNat=(((2:Nat)^2304:Nat):Int):=by refine rl (Int.natCast_pow ..) ?_;rfl
 refine rl e ?_;have h:(2:Nat)^2304=2^2262*2^42:=by exact rs (Nat.pow_add ..) J
 have h0:0<(2:Nat)^2262:=Nat.pow_pos (by decide);have h2:(2:Nat)^42=4398046511104:=by decide
 refine rl h (rl h2 ?_);exact Wt
noncomputable def zN(ah:acu)(m:Nat):XM:=⟨sq ah m,oY ah m,λr c=>(List.range (c5 ah)).map λx=>zm ah m r c x⟩
theorem vX(ah:acu)(m:Nat):iD ah m=fq (sq ah m) (oY ah m) (zN ah m).g:=rfl
theorem OI(ah:acu)(m:Nat):xG (c5 ah) (2^11) (zN ah m):=by
 have hs:=jf ah m;refine⟨by unfold zN sq;simp only;exact Te,by unfold zN oY;simp only;exact Sy,by unfold zN sq;simp only;exact Sx,by unfold zN oY;simp only;omega,λi j _ _=>⟨?_,λc hc=>?_⟩⟩
 .unfold zN;simp
 .obtain⟨x,_,rfl⟩:=aan.mp hc
  have:=CD ah m i j x;exact Wu this
theorem OJ{α:Type}(M N:Nat)(g:Nat->Nat->α){i j:Nat}(hi:i<M)(hj:j<N)(d:α):((((List.range M).map λi=>(List.range N).map λj=>g i j)[i]?.getD [])[j]?).getD d=g i j:=by simp[hi,hj]
theorem IQ(ah:acu):Rel (c5 ah) (2^11) ((List.range 3).map (zN ah)) (rO ah) (Ih ah) (EC ah):=by
 refine⟨by simp[rO],by simp[Ih],by simp[EC],λi X e=>?_⟩;have hi:i<3:=by have:=(abx.mp e).1;simpa using this
 have get:∀{α:Type}(f:Nat->α)(d:α),((List.range 3).map f)[i]?.getD d=f i:=λf d=>by simp[hi]
 replace e:=aav▸e;replace e:=(abZ hi)▸e;obtain rfl:zN ah i=X:=by simpa using e
 have hs:=jf ah i;have rq:∀{q:Int},0<q->RQ q (c5 ah) (zN ah i) (iS q ah i):=λ{q} hq=>by refine⟨ue ah i hq,J,J,λa c ha hc=>?_⟩;show cN ((iD ah i).map λr=>r.map (b_ q)) false a c=_;refine rl (vX ..) (rl (C0 ..) ?_);unfold cN jI mD fq;have ha:a<sq ah i:=ha;have hc:c<oY ah i:=hc;simp[ha,hc]
 refine⟨OI ah i,?_,?_,?_⟩
 .show RP _ _ (((List.range 3).map (rM ah))[i]?.getD [])
  refine rl (get ..) ?_;have r0:0<sq ah i:=by unfold sq;exact Te
  have c0:0<oY ah i:=by unfold oY;exact Sy
  have e:rM ah i=(List.range (sq ah i)).map λa=>(List.range (oY ah i)).map λc=>ru (wholeOf (c5 ah)) ((zN ah i).g a c):=by unfold rM zo;refine rl (vX ..) ?_;unfold fq;refine rl aar ?_;refine aaz λa _=>?_;show((List.range (oY ah i)).map λc=>(zN ah i).g a c).map _=_;refine rl (aar ..) ?_;rfl
  refine⟨CE ah i,?_,?_,λa c ha hc=>?_⟩
  .rw[e];simp[zN]
  .refine rl e ?_;unfold pW;simp[zN,r0]
  .refine rl e ?_
   unfold pat;exact(OJ _ _ (λa c=>ru (wholeOf (c5 ah)) ((zN ah i).g a c)) ha hc 0).trans (Iq _ _)
 .show RQ _ _ _ (((List.range 3).map (iS kQ ah))[i]?.getD dZ)
  exact rl (get ..) ((rq (by decide)))
 .show RQ _ _ _ (((List.range 3).map (iS dQ ah))[i]?.getD dZ)
  exact rl (get ..) ((rq (by decide)))
theorem OL(ah:acu):Im ah:=by
 obtain⟨n1,n4⟩:=je ah;obtain⟨ds,Xs,f1,f3,f4,f5,f6,f7,f8⟩:=IM n1 n4 (rN ah) ⟨rO ah,[],[]⟩ (Ih ah,[]) (EC ah,[]) ((List.range 3).map (zN ah)) (IQ ah) J J (CF ah);have Sh:(cV ah).ds=ds:=f1;have el:(rN ah).length=4:=by simp[rN]
 have Pb:Rel (c5 ah) (2^2262) Xs (cV ah).sh (qf ah).1 (qI ah).1:=by have:=f6;replace this:=el▸this;refine rs Ly ?_;unfold qf qI;refine rl Sh ?_;exact this
 have S5:rL (wholeOf (c5 ah)) 0 (cV ah):=f5;have l1:=Pb.lp;have l2:=Pb.lk;have l3:=Pb.ld;obtain⟨r1,r2⟩:=LB Pb LC;have s9:=S5.s9;refine⟨by exact rl Sh f3,by exact rl Sh f4,by unfold qf;exact rl Sh f7,by unfold qI;exact rl Sh f8,r1,r2,λA hA=>?_,λA hA=>?_,⟨?_,λR hR=>?_⟩,Lo ah,S5.s0,by omega,S5.ok⟩
 .obtain⟨i,hi,rfl⟩:=List.mem_iff_getElem.mp hA
  have:=(Pb.at_ i _ (aak (by exact a0 l2 hi))).2.2.1;replace this:=(aak hi)▸this;exact this.ok
 .obtain⟨i,hi,rfl⟩:=List.mem_iff_getElem.mp hA
  have:=(Pb.at_ i _ (aak (by exact a0 l3 hi))).2.2.2;replace this:=(aak hi)▸this;exact this.ok
 .unfold g_;refine rl (aai ..) ?_;omega
 .unfold g_ at hR
  obtain⟨P,hP,rfl⟩:=aan.mp hR;have YK:=S5.ok P hP;have:=YK.m9;have:=YK.n9;refine⟨by refine rl (aai ..) ?_;omega,λr hr=>?_⟩;obtain⟨row,t_,rfl⟩:=aan.mp hr;refine⟨by refine rl (aai ..) (rl (YK.row _ t_ ..) ?_);omega,λcs hcs=>?_⟩;obtain⟨x,_,rfl⟩:=aan.mp hcs;refine rl (yU ..) ?_;omega
theorem LD:opening PR=plainProg PR.main.scope.names:=by kernel_rfl
theorem IS(s:Shared):fenceModules? PR s=some s:=by kernel_rfl
theorem Er(w:World):((boot_heap w.params).isNs mainGlobals&&(#[]:Array GenState).size==0,(boot_heap w.params).objs.size,(boot_heap w.params).nsMap mainGlobals "__annotations__")=(true,11,some (.ref 6)):=by kernel_rfl
theorem LF{p q:Program}{loose:acv}{Xt:Shared->Bool}{α:Type}{Yf:Shared->α}{Ya:World->α}{N:Nat}{H₀:Params->Heap}{gs₀:Array GenState}{d₀:Drawn}{k₀ m₀:Nat}{ann:Option Value}
 (open_:∀w:World,(fencedOpening treeTable p w N).map (λs=>(s.heap,s.gens,s.drawn,s.toks))=some (H₀ w.params,gs₀,d₀,k₀))
 (size:∀w:World,((H₀ w.params).isNs mainGlobals&&gs₀.size==0,(H₀ w.params).objs.size,(H₀ w.params).nsMap mainGlobals "__annotations__")=(true,m₀,ann))
 (run:∀(w:World)(os:OsState),∃aq:Shared,topRun treeTable p w m₀ ann N ⟨H₀ w.params,gs₀,d₀,k₀,os⟩ (topStub p)=some aq/\
  (staticsOk (importedModules p.main.body) (H₀ w.params) aq.heap&&namesBound p aq.heap&&gensDone aq&&laidKept (H₀ w.params) aq.heap)=true/\openSeen q loose (importedModules p.main.body) Xt true aq=openGood q loose/\Yf aq=Ya w):LeftO p q loose Xt Yf Ya N:=λw=>by
 obtain⟨⟨h,gs,d,k,os⟩,e,e'⟩:=Option.map_eq_some_iff.mp (open_ w);obtain⟨rfl,rfl,rfl,rfl⟩:h=H₀ w.params/\gs=gs₀/\d=d₀/\k=k₀:=by simpa using e'
 obtain⟨z1,z2,z3⟩:_/\_/\_:=by simpa only[Prod.mk.injEq] using size w
 obtain⟨aq,r,l1,l2,l3⟩:=run w os;have t:topFrom treeTable p w N ⟨H₀ w.params,gs,d,k,os⟩=some aq:=by unfold topFrom;dsimp only;refine rl z1 (rl z2 (rl z3 (rl r ?_)));show(match staticsOk (importedModules p.main.body) (H₀ w.params) aq.heap&&namesBound p aq.heap&&gensDone aq&&laidKept (H₀ w.params) aq.heap with |true=>_ |false=>_)=_;exact rl l1 J
 unfold openEnds;refine rl e ?_;show(topFrom treeTable p w N _).map _=_;refine rl t ?_;exact aaJ some (Prod.ext l2 l3)
theorem LG{p:Program}{w:World}{N:Nat}{s0:SharedT}{S0:Shared}{t:Thread}{β:Type}{g:SharedT->β}{r:β}(h:(EM p w N s0 t).map g=some r)(ha:s0.abs=S0):∃s1:SharedT,topRun treeTable p w 11 (some (.ref 6)) N S0 t=some s1.abs/\g s1=r:=by obtain⟨s1,e,hs⟩:=Option.map_eq_some_iff.mp h;exact⟨s1,ha▸uQ e,hs⟩
theorem Si(s:SharedT)(a:Nat):s.abs.heap.get? a=Jp s a:=by
 show(absHeap s.tree s.n s.life).get? a=_;unfold Jp;cases h:Nat.blt a s.n with
 |false=>exact abs_get_none λq=>Bool.noConfusion (h.symm.trans (Nat.ble_eq.mpr q))
 |true=>
  have q:a<s.n:=Nat.ble_eq.mp h;unfold Heap.get?;rw[absHeap_at,aaN q];generalize (s.tree.get a).getD default=o;obtain⟨_,_,d,_⟩:=o;cases d<;>rfl
theorem Sj(s:SharedT):Jo s.abs=MN s:=by unfold Jo MN;rw[funext (Si s)]
theorem LH:LeftO PR vq oq (λ_=>true) Jo Jq 10606:=
 LF (boot_open (p:=PR) (N:=10606) LD (by decide) IS) Er λw os=>by obtain⟨s1,e,hs⟩:=LG (p:=PR) (w:=w) (N:=10606) (s0:=Ww w os) (g:=seenQ w) (r:=((true,openGood vq oq),Jq w)) (ab7 (top_check w) os) (Jm w os);have h1:=aaJ (λx=>x.1.1) hs;have h2:=aaJ (λx=>x.1.2) hs;have h3:=aaJ (λx=>x.2) hs;exact⟨s1.abs,e,h1,(ab7 (ab7 (ab7 (ab7 (ab7 (ab7 PySem.W.Fast.te4187177175401517315 _) _) _) _) _) _).trans h2,(Sj s1).trans h3⟩
noncomputable def C1(w:World)(h:Heap):Prop:=(K0 w.params).In h/\∀q∈T0,h.get? q.2=some C5
theorem LI(w:World)(s:Shared)(e:Jo s=Jq w):C1 w s.heap:=by refine⟨Frag.in_of (Jr _) (aaJ Prod.fst e),λq hq=>?_⟩;have h:T0.map (λq=>s.heap.get? q.2)=T0.map λ_=>some C5:=aaJ Prod.snd e;exact List.map_inj_left.mp h q hq
theorem Ba(w:World)(h h':Heap)(x:C1 w h)(k:∀b o,h.get? b=some o->h'.get? b=some o):C1 w h':=⟨x.1.keeps k,λq hq=>k _ _ (x.2 q hq)⟩
noncomputable def Sk:Option Obj->Value
 |some ⟨_,_,.func F,_⟩=>F.pyModule
 |_=>.none
noncomputable def ME:Option (Option Value)->Bool
 |some none=>true
 |some (some (.ref _))=>true
 |_=>false
noncomputable def IT:Option (Option Value)->Bool
 |some (some (.ref _))=>true
 |_=>false
noncomputable def MF:Option (Option Value)->Bool
 |some (some v)=>!isSeqSlot (some v)
 |_=>false
section
variable{C:Cx}
theorem ux{f:Addr}{name qual:Str}{params:Arguments}{body:acr}{scope:Scope}{dV:Value}(h:C.K.lookup f=some ⟨.type "function",none,.func (fnOf name qual params body scope dV .none .none (Sk (C.K.lookup f)) none (.ref (f-1)) .none),#[]⟩)(hc:codeIn C.K (.ref (f-1)) qual=true):Bj C f name qual params body scope dV:=⟨_,_,_,_,_,_,_,_,_,h,hc⟩
theorem IU{β:Type}{a:Addr}{b:β}:∀{l:List (Addr×β)},l.lookup a=some b->(a,b)∈l:=by
 intro ll
 induction ll with
 |nil=>
  intro h;cases h
 |cons pp r ih=>
  obtain⟨x,y⟩:=pp;intro h;rw[aaF] at h;split at h
  .rename_i q;cases h;rw[aa3.mp q];exact .head _
  .exact .tail _ (ih h)
theorem Bb{f:Addr}{qual:Str}{dV:Value}{st:Stmt}{c:Addr}(h:C.K.lookup f=some ⟨.type "function",none,.func (fnOf (OT st) qual (Eu st) (o5 st) (mq st) dV .none .none (Sk (C.K.lookup f)) none (.ref c) .none),#[]⟩)(hc:codeIn C.K (.ref c) qual=true)(ht:(C.T.lookup c).isSome=true):QC C f qual dV st c:=
 ⟨⟨_,_,_,_,_,_,_,_,h,hc⟩,by obtain⟨P,e⟩:=aa_.mp ht;exact⟨P,IU e⟩⟩
theorem OM{P:Prop}(h:false=true):P:=nomatch h
theorem IV{o:Option (Option Value)}(h:ME o=true):∃rc,o=some rc/\(rc=none\/∃g:Addr,rc=some (.ref g)):=by
 cases o with
 |none=>exact OM h
 |some o=>cases o with
  |none=>exact⟨_,J,.inl J⟩
  |some v=>cases v with
   |ref g=>exact⟨_,J,.inr ⟨_,J⟩⟩
   |_=>exact OM h
theorem zF{o:Option (Option Value)}(h:IT o=true):∃g:Addr,o=some (some (.ref g)):=by
 cases o with
 |none=>exact OM h
 |some o=>cases o with
  |none=>exact OM h
  |some v=>cases v with
   |ref g=>exact⟨_,J⟩
   |_=>exact OM h
theorem IW{o:Option (Option Value)}(h:MF o=true):∃fo,o=some (some fo)/\isSeqSlot (some fo)=false:=by
 cases o with
 |none=>exact OM h
 |some o=>cases o with
  |none=>exact OM h
  |some v=>exact⟨_,J,(Bool.not_eq_true' _).mp h⟩
theorem some_of{α:Type}{o:Option α}(h:o.isSome=true):∃x,o=some x:=aa_.mp h
theorem zG{Cc:Addr}{op:Operator}(a:ME (findIn C.K (.ref Cc) (dunderR op.info.2))=true)(b:(findIn C.K (.type "int") (PySem.dunder op.info.2)).isSome=true)(c:(findIn C.K (.type "int") (dunderR op.info.2)).isSome=true)(d:subIn C.K (.type "int") (.ref Cc)=some false):xR C Cc op:=⟨IV a,some_of b,some_of c,d⟩
theorem vY{Cc:Addr}{op:Operator}{f:Addr}(a:IT (findIn C.K (.ref Cc) (PySem.dunder op.info.2))=true)(r:findIn C.K (.ref Cc) (dunderR op.info.2)=some (some (.ref f)))(fn:isFn C.K (.ref f)=true)(b:MF (findIn C.K (.type "int") (PySem.dunder op.info.2))=true)(c:(findIn C.K (.type "int") (dunderR op.info.2)).isSome=true)(d:subIn C.K (.ref Cc) (.type "int")=some false):tn C Cc op f:=⟨zF a,r,fn,IW b,some_of c,d⟩
theorem zI{Cc rJ:Addr}{op:Operator}(n:Nat.beq Cc rJ=false)(a:IT (findIn C.K (.ref rJ) (PySem.dunder op.info.2))=true)(r:findIn C.K (.ref Cc) (dunderR op.info.2)=some none)(r':findIn C.K (.ref rJ) (dunderR op.info.2)=some none)(d:subIn C.K (.ref rJ) (.ref Cc)=some false):ym C Cc rJ op:=⟨Nat.ne_of_beq_eq_false n,zF a,r,r',d⟩
theorem vZ{Cc:Addr}(nm:Str)(t u:Nat)(h:C.K.lookup Cc=some (excClassObj nm nm Cc (Cc-1) [.type "object"] [.type "object"] true [] [] false none none none none (some (.str nm t)) (some (.str nm u)) (some (.bool true)) "object.__new__"))(a:nsOkIn C.K (Cc-1)=true)(b:nsIn C.K (Cc-1) "__eq__"=some none)(c:nsIn C.K (Cc-1) "__ne__"=some none):wF C Cc:=
 ⟨λ_ _ o X hx hc=>⟨o,nm,nm,Cc-1,_,_,_,_,_,_,_,_,_,_,_,_,_,_,hx,hc,X _ _ h,.of_isNs (isNs_of_in X a),nsMap_none_of_in X a b,nsMap_none_of_in X a c⟩⟩
end
section
variable{w:World}{P:Params}{p:Program}{loose:acv}{mg mb:Str->Option Value}{H:Heap}{os:OsState}
noncomputable abbrev LJ(w:World)(P:Params)(p:Program)(loose:acv)(mg mb:Str->Option Value)(H:Heap)(os:OsState):Cx:=⟨w,K0 P,p,loose,mg,mb,H,T0,os⟩
theorem ON:uJ (LJ w P p loose mg mb H os):=by
 constructor
 all_goals first |kernel_rfl |exact ux (by kernel_rfl) (by kernel_rfl)
theorem Sl:fN (LJ w P p loose mg mb H os):=by
 constructor
 all_goals first |kernel_rfl |exact ux (by kernel_rfl) (by kernel_rfl) |exact⟨1186,by kernel_rfl⟩
theorem YL:SF (LJ w P p loose mg mb H os) kN:=by
 delta SF;and_intros
 all_goals first |kernel_rfl |exact ux (by kernel_rfl) (by kernel_rfl) |exact⟨by kernel_rfl,by kernel_rfl,by kernel_rfl⟩ |exact⟨by kernel_rfl,by kernel_rfl,by kernel_rfl,by kernel_rfl⟩ |exact Bb (by kernel_rfl) (by kernel_rfl) (by kernel_rfl) |exact⟨by kernel_rfl⟩ |exact⟨by kernel_rfl,by kernel_rfl,by kernel_rfl,by kernel_rfl,by kernel_rfl,by kernel_rfl⟩ |exact zG (by kernel_rfl) (by kernel_rfl) (by kernel_rfl) (by kernel_rfl) |exact vY (by kernel_rfl) (by kernel_rfl) (by kernel_rfl) (by kernel_rfl) (by kernel_rfl) (by kernel_rfl) |exact zI (by kernel_rfl) (by kernel_rfl) (by kernel_rfl) (by kernel_rfl) (by kernel_rfl) |exact vZ "GenericModule" 1128 1136 (by kernel_rfl) (by kernel_rfl) (by kernel_rfl) (by kernel_rfl)
theorem YM:SK (LJ w P p loose mg mb H os):=.of ⟨YL,ux (by kernel_rfl) (by kernel_rfl)⟩
theorem YN:SF (LJ w P p loose mg mb H os) dN:=by
 delta SF;and_intros
 all_goals first |kernel_rfl |exact ux (by kernel_rfl) (by kernel_rfl) |exact⟨by kernel_rfl,by kernel_rfl,by kernel_rfl⟩ |exact⟨by kernel_rfl,by kernel_rfl,by kernel_rfl,by kernel_rfl⟩ |exact Bb (by kernel_rfl) (by kernel_rfl) (by kernel_rfl) |exact⟨by kernel_rfl⟩ |exact⟨by kernel_rfl,by kernel_rfl,by kernel_rfl,by kernel_rfl,by kernel_rfl,by kernel_rfl⟩ |exact zG (by kernel_rfl) (by kernel_rfl) (by kernel_rfl) (by kernel_rfl) |exact vY (by kernel_rfl) (by kernel_rfl) (by kernel_rfl) (by kernel_rfl) (by kernel_rfl) (by kernel_rfl) |exact zI (by kernel_rfl) (by kernel_rfl) (by kernel_rfl) (by kernel_rfl) (by kernel_rfl) |exact vZ "ModuleGeneric" 427 435 (by kernel_rfl) (by kernel_rfl) (by kernel_rfl) (by kernel_rfl)
theorem YO:SD (LJ w P p loose mg mb H os):=.of {o:=YN,Mg:=by kernel_rfl,Mh:=ux (by kernel_rfl) (by kernel_rfl),BO:=⟨by kernel_rfl,by kernel_rfl,by kernel_rfl,by kernel_rfl⟩,BN:=Bb (by kernel_rfl) (by kernel_rfl) (by kernel_rfl)}
end
section
variable{C:Cx}{k:Nat}
theorem Es{name qual:Str}{params:Arguments}{body:acr}{scope:Scope}{dV kV doc pm bh ct oc:Value}{an od:acn}{kJ:Array (Option Value)}{f:Addr}{args:acw}{bs:acj}{v:MV}{A:Around}
 (ho:C.K.lookup f=some ⟨oc,od,.func (fnOf name qual params body scope dV kV doc pm an bh ct),kJ⟩) (h_:codeIn C.K bh qual=true)
 (hb:Binds C (fnOf name qual params body scope dV kV doc pm an bh ct) args [] bs) (hs:gw scope (bs.map (·.1))=true) (hA:A.frames=some []) (G:Good (k+1) A)
 (H:∀L D,eH (λA=>A.frames=some [envOfC qual scope L f bh]) C (gF k qual scope L f bh D) (dX bs) body v) {s:Shared} {D:acq} {vals:acp} (I:Inv C s) (dt:∀d∈C.tabs,d∈D) (dh:∀d∈D,d<s.heap.objs.size) (ds:bD s.heap D vals args) :
 codeAny (model P0 C.w) A (.call (.ref f) ⟨vals,[]⟩) (EP C D s v) s:=by
 obtain⟨binds,Ex,db⟩:=hb s D vals [] I ds .nil;refine qo (Wx:=[]) G I dt dh ho h_ Ex db.toV n0 .EW (by simpa [dX,Function.comp_def] using hs) λL s' W hL G' I' F t hW=>cS (H L D _ s' _ ?_ G' I' F) λfl gp bI=>?_
 .show A.frames.map (_::·)=_
  refine rl hA ?_;rfl
 .obtain⟨h1,h2,h3⟩:=bI
  have t2:bL C [] s gp:=t.trans h2 n0 hW;cases fl with
  |ret a=>exact⟨a,J,h1,t2,h3⟩
  |next=>subst h1;exact⟨.none,J,.none,t2,h3⟩
  |brk=>cases h1
  |cont=>cases h1
end
theorem IX{C:Cx}(K:SK C)(K2:SD C)(S:fN C)(Z:uJ C)(F0:FnAt C 829 "law" .none (topS 25))(ah:acu)(hl:ah.length<=63){s:Shared}{D:acq}{v:Value}(I:Inv C s)(dt:∀d∈C.tabs,d∈D)(dh:∀d∈D,d<s.heap.objs.size)(dv:Den s.heap D v (iv ah)) :
 codeAny (model P0 C.w) callerA (.call (.ref 829) ⟨[v],[]⟩) (EP C D s (.bool true)) s:=by
 refine nb λnn=>?_;obtain⟨oc,od,kJ,kV,doc,pm,an,bh,ct,ho,h_⟩:=F0.at_;exact nn<|Es (k:=40) (bs:=[("script",iv ah)]) ho h_ (fh J) (by kernel_rfl) J ⟨J,by decide,by decide⟩ (λL D=>Og K K2 S Z (k:=0) L bh D ah hl (OL ah)) I dt dh (.cons dv .nil)
theorem OO{w:World}{P:Params}{p:Program}{loose:acv}{mg mb:Str->Option Value}{H:Heap}{os:OsState}:FnAt (LJ w P p loose mg mb H os) 829 "law" .none (topS 25):=ux (by kernel_rfl) (by kernel_rfl)
theorem LK{args:List WData}(h:RW.claim.pre args=true):∃ah:acu,args=[.list (ah.map .int)]/\ah.length<=63:=by
 obtain⟨a,b⟩:=pre_splitW h;obtain⟨d,r,rfl,h1,h2⟩:=hasAllW_cons (e:=.list .int) (es:=[]) a;obtain rfl:=hasAllW_nil h2;obtain⟨xs,rfl,h3⟩:=hasW_list h1;obtain⟨ah,rfl⟩:=items_int h3;refine⟨ah,J,?_⟩
 w_cond b
 rename_i q _;rw[aai] at q;omega
theorem LL{P:Params}{h:Heap}{D:acq}{vals:acp}{ah:acu}(w:WellAll P h vals [.list (ah.map .int)])(hD:∀a o,h.get? a=some o->o.cls = .type "list"->a∉D):∃v,vals=[v]/\Den h D v (iv ah):=by
 cases w with
 |cons x r=>
  cases r;cases x with
  | @list a vs xs ho ws=>
   refine⟨_,J,.lst a vs.toArray 0 _ ho (hD a _ ho J) ?_⟩;clear ho;have:∀(vs:acp)(l:acu),WellAll P h vs (l.map .int)->bD h D vs (l.map .int):=λvs l=>by
    induction l generalizing vs with
    |nil=>intro w;cases w;exact .nil
    |cons i l ih=>
     intro w;cases w with
     |cons x r=>cases x;exact .cons (.int _ _) (ih _ r)
   exact this vs ah ws
theorem OP:∀q∈T0,q.1≠q.2:=by decide
theorem IY(P:Params):∀q∈T0,∃st m u k,(K0 P).lookup q.1=some (cO st m u k q.1)/\q.2=q.1-2-(if k==3 then 0 else 2):=λq hq=>by
 simp only[T0,List.mem_cons,List.not_mem_nil,or_false] at hq;rcases hq with rfl |rfl |rfl |rfl |rfl
 .exact⟨C2 (C3 7) "__eq__","MatrixGeneric.__eq__",347,9,by kernel_rfl,J⟩
 .exact⟨C2 (C3 7) "__matmul__","MatrixGeneric.__matmul__",393,3,by kernel_rfl,J⟩
 .exact⟨C2 (C3 8) "__call__","ModuleGeneric.__call__",456,8,by kernel_rfl,J⟩
 .exact⟨C2 (C3 16) "__matmul__","GenericMatrix.__matmul__",1102,3,by kernel_rfl,J⟩
 .exact⟨C2 (C3 17) "__call__","GenericModule.__call__",1157,7,by kernel_rfl,J⟩
theorem IZ(P:Params):∀b∈T0.map (·.2),(K0 P).lookup b=none:=λb hb=>by
 have h:((T0.map (·.2)).all λb=>((K0 P).lookup b).isNone)=true:=by kernel_rfl
 exact Option.isNone_iff_eq_none.mp (abq.mp h b hb)
theorem I0:mainGlobals∉T0.map (·.2)/\builtinsNs∉T0.map (·.2)/\cStatics∉T0.map (·.2):=by decide
theorem LM:∀q∈T0,∀q'∈T0,q.2=q'.2->q.1=q'.1:=by decide
theorem code_at{h:Heap}{st:Stmt}{m:Str}{u k c P:Nat}(g:h.get? c=some (cO st m u k c))(e:P=c-2-(if k==3 then 0 else 2))(t:h.get? P=some C5)(n:c≠P):h.IsCode c P #[]/\h.TableAt c P #[]:=by subst e;exact⟨⟨_,_,_,_,_,_,_,_,_,_,g,J,J,J,J,J,J,t,J,trivial,n⟩,⟨_,_,g,J,J,J⟩,t⟩
theorem LN:WalkO vq oq (λ_ _=>True) C1 RW zR [] λf vs=>PySem.call f vs:=by
 intro w bM aq mg mb G Y fa o pm cd doc dV kV ho hd h_ hD hmg hg args vals as hpre hlay hrd hwl hlo;have KX:(K0 w.params).In aq.heap:=Y.1;have e8:mg "law"=some (.ref 829):=mg_of KX G.T.g (by kernel_rfl);refine nb λnn=>?_;obtain rfl:fa=829:=by have:some (Value.ref fa)=some (.ref 829):=hmg.symm.trans e8;cases this;rfl
 obtain⟨ah,rfl,hl⟩:=LK hpre;have tab:∀q∈T0,aq.heap.IsCode q.1 q.2 #[]/\aq.heap.TableAt q.1 q.2 #[]:=λq hq=>by refine nb λnn=>?_;obtain⟨st,m,u,k,l,e⟩:=IY w.params q hq;exact nn<|code_at (KX _ _ l) e (Y.2 q hq) (OP q hq)
 have tabs:∀d∈T0.map (·.2),aq.heap.get? d=some C5:=λd hd=>by obtain⟨q,hq,rfl⟩:=aan.mp hd;exact Y.2 q hq
 obtain⟨v,rfl,dv⟩:=LL (D:=T0.map (·.2)) hwl λa o e hc hd=>by replace e:=(tabs a hd)▸e;cases e;cases hc
 obtain⟨bm,ob,b0,b1,b2,b3,b4,b5⟩:=G.T.bmain;have ok:MJ (LJ w w.params vq (looseW vq oq) mg mb aq.heap aq.os):=⟨KX,topRead_of G.T,IZ w.params,I0,tab,LM,⟨bm,ob,b0,b1,b2,b3,b4,b5⟩⟩;have I:Inv (LJ w w.params vq (looseW vq oq) mg mb aq.heap aq.os) aq:=⟨ok,aaq _,λ_ _ _ e=>e,λq hq=>⟨_,(tab q hq).1,(tab q hq).2⟩,.of_eq hg,J⟩;refine nn<|wpAny_call (abm (IX YM YO Sl ON OO ah hl I (λ_ q=>q) (λd hd=>aaB (tabs d hd)) dv) λr s' ⟨a,e,d,t,I'⟩=>?_)
 subst e;obtain rfl:=d.EK;refine⟨.inl ⟨_,.bool true,[],J,λ_=>rfl,.bool true,C6 _,λ_=>⟨.nil,λ_ q=>nomatch q⟩⟩,⟨λb o e=>?_,λb o e=>?_⟩,I'.os,I'.bare⟩
 .by_cases hb:b∈T0.map (·.2)
  .obtain⟨q,hq,rfl⟩:=aan.mp hb
   obtain⟨ps,_,tt⟩:=I'.tab q hq;have e1:=e.symm.trans (Y.2 q hq);cases e1;exact .inr (.inl ⟨(tab q hq).2.isCodeTable,J,#[],ps,J,by simpa [C5] using tt.2⟩)
  .exact .inl (I'.old b o hb e)
 .by_cases hb:b∈T0.map (·.2)
  .obtain⟨q,hq,rfl⟩:=aan.mp hb
   obtain⟨ps,_,tt⟩:=I'.tab q hq;exact⟨_,tt.2⟩
  .exact⟨o,I'.old b o hb e⟩
theorem YQ:PySem.Challenge.rw_jp0035_01.Holds:=by refine holds_law Jv λsaid=>?_;exact holds_open (r:=PySem.Challenge.rw_jp0035_01.row) (d:=zR) (kwd:=[]) LH LI Ba (XP:=λ_ _=>True) (λ_ _=>trivial) (λ_ _ _ _ _=>trivial) MO (by kernel_rfl) J (λ_ _=>recFacts_nil J) J said (by kernel_rfl) Jw ⟨[.list []],by kernel_rfl,by kernel_rfl⟩ LN
end Mine
theorem PySem.Challenge.cw_jp0035_01_holds : PySem.Challenge.rw_jp0035_01.Holds :=
 Mine.YQ
