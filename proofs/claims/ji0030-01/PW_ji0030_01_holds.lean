import PyProof.Rows.All
import Wide.All
import OpenK.AllK
import Wide.FinOn
import KE.BytesMake
import KE.KIsBytes
import PyProof.ExcBaseAll.Exception
import PySem.Challenge.RW_ji0030_01
set_option Elab.async false
set_option autoImplicit false
set_option tactic.hygienic false
set_option maxRecDepth 100000
set_option maxHeartbeats 4000000
set_option bootstrap.genMatcherCode false
set_option genSizeOf false
set_option genInjectivity false
set_option linter.unusedVariables false
set_option linter.unusedSimpArgs false
set_option compiler.extract_closed false
namespace Internal
open PySem renaming Shared->aC,Value->aD,wpAny_bind->aF,wpAny_mono->aG,Expr->aL,Addr->aN,wpAny_pure->aV,NameKind->aY,Around->bA,wpAny_Constant_int->cC,World->cF,Stmt->cI,sizeLine_eq->cO,Heap->cZ,Program->dC,wpAny_holding->dH,wpAny_assign_Name->dL,wpAny_of_eq->dM,wpAny_Name->dR,wpAny_loadName_local->dW,wpAny_truthy_bool->dY,wpAny_Compare1->eI,wpAny_storeName_local->eN,wpAny_standAt->eY,pairTrees_cons_walk->eZ,builtinLookup_eq_fast->fM,wpAny_execs_nil->gD,wpAny_list_append_plain->gL
open Option renaming isSome_iff_exists->aH,map_eq_some_iff->aW,isNone_iff_eq_none->cD,map_some->dN,bind_eq_some_iff->gK
open List renaming length_cons->aI,length_append->aK,mem_cons->aO,toArray->aQ,map_cons->aS,mem_append->aU,getElem?_eq_getElem->aZ,append_assoc->bH,getD_eq_getElem?_getD->bL,lookup_cons->bO,not_mem_nil->bP,length_map->bQ,mem_singleton->bR,all_eq_true->bS,mem_cons_of_mem->bU,append_nil->bV,length_nil->bY,isEmpty_iff->bZ,mem_map->cG,flatMap_cons->cR,length->cS,getElem?_map->cV,mem_of_mem_take->cW,map_append->cX,drop_eq_getElem_cons->dA,take_succ_cons->dB,getElem?_eq_none->dF,getElem_mem->dP,take_zero->dU,range->eB,filterMap_cons->eC,map_nil->eG,take_of_length_le->eH,getElem?_append_right->eJ,replicate->eM,nodup_cons->eT,mem_of_mem_drop->eU,mem_of_getElem?->eW,mapM_cons->fC,drop_of_length_le->fE,zip_cons_cons->fG,foldl_cons->fH,length_set->fI,nil_append->fJ,sum_cons->fL,contains_iff_mem->fN,eq_nil_or_concat->fO,concat_eq_append->fP,pairwise_map->fR,length_drop->fX,mem_flatMap->fY,cons_append->fZ,mem_filter->gF
open Bool renaming false_ne_true->aJ,and_eq_true->bB,not_eq_true'->cA,false_eq_true->dI,and_eq_true_iff->dX,eq_iff_iff->eP,or_eq_true->eQ
open LawfulBEq renaming eq_of_beq->aR
open PySem.Str renaming ofString->bC
open PySem.Heap renaming get?_push_of_some->bG,get?_push_size->bI,lt_size->bW,SameBut->dS
open List.cons renaming inj->bJ
open Option.some renaming inj->bN,injEq->fQ
open Int renaming ofNat_lt->cH,cast_ofNat_Int->cN,natCast_add->fK,ofNat_le->gA,natCast_nonneg->gH
open UInt8 renaming ofNat->cK
open PySem.W renaming typeIs_bytes->cL
open Ne renaming symm->cQ
open Nat renaming lt_succ_self->cU,le_trans->cY,le_refl->dD,lt_irrefl->dG,ne_of_lt->fF,min_eq_right->gB,min_eq_left->gE
open PySem.Calls renaming spliced_cons->dJ
open Prod.mk renaming inj->dK
open PySem.MeetsSeq renaming EqGives->dO
open Eq renaming mpr->dQ
open PyProof.Rows renaming Call_Name->eA
open Classical renaming byContradiction->eO
open ForInStep renaming yield->eR
open PySem.Builtin.Bytes renaming joined->eV,containsIn->eX,order->fA,takeBufferQuiet?->fB,occurrences->gC
open Prod renaming fst->fD
open PySem.W.Fast renaming tw14082659384304107361->fS,tw14364793385576792824->fT
open PySem.Value renaming bool->fV
open PySem.Builtin.Range renaming rangeSize->gJ
theorem clr {α:Type} {a:α} {C:Prop} (h:a = a) (c:C):C:=c
local macro_rules | `(tactic| rewrite [$h:term])=>`(tactic| first | refine Eq.substr $h ?_ | refine Eq.substr ($h ..) ?_ | rewrite (config:={}) [$h:term]) | `(tactic| rewrite [<- $h:term])=>`(tactic| first | refine Eq.substr (Eq.symm $h) ?_ | rewrite (config:={}) [<- $h:term]) | `(tactic| rewrite [$h,$hs,*])=>`(tactic| (rewrite [$h]; rewrite [$hs,*]))
local macro_rules | `(tactic| cases $h:ident)=>`(tactic| first | subst $h | (with_reducible refine Internal.clr $h ?_; clear $h) | (injection $h; done) | (injection $h with e1 e2; cases e1; cases e2) | (injection $h with e1; cases e1) | cases ($h))
local macro_rules | `(tactic| show $t:term)=>`(tactic| refine (?_:$t))
theorem cutA {k n C D:Nat} (h:n <= D) (hD:D <= C):min k n+(n - (k+1)) <= C:=by omega
theorem cutB {k n C D:Nat} (h:n <= D) (hD:D+1 <= C):min k n+1+(n - (k+1)) <= C:=by omega
theorem cutC {k n C D:Nat} (h:n <= D) (hD:D+1 <= C):min k n+1+(n - k) <= C:=by omega
theorem cutD {k n C D:Nat} (h:n <= D) (hD:D <= C):min k n <= C:=cY (Nat.min_le_right _ _) (cY h hD)
theorem cutE {k n C D:Nat} (h:n <= D) (hD:D <= C):n - k <= C:=cY (Nat.sub_le _ _) (cY h hD)
theorem prd {n a:Nat} (h:a < n):n = n - 1+1:=(Nat.sub_add_cancel (Nat.lt_of_le_of_lt (Nat.zero_le _) h)).symm
theorem cutF {k n:Nat} (h:1 < n):min k n+(n - (k+1)) ≠ 0:=by omega
local macro_rules | `(tactic| omega)=>`(tactic| first | with_reducible assumption | with_reducible exact Nat.le_trans (by assumption) (by decide) | with_reducible exact Nat.le_of_lt (by assumption) | exact Internal.cutA (by assumption) (by decide) | exact Internal.cutB (by assumption) (by decide) | exact Internal.cutC (by assumption) (by decide) | exact Internal.cutD (by assumption) (by decide) | exact Internal.cutE (by assumption) (by decide) | exact Internal.prd (by assumption) | exact (Nat.add_sub_cancel' (by assumption)).symm | exact (Nat.sub_add_cancel (by assumption)).symm | exact Nat.sub_add_cancel (by assumption) | exact (Int.toNat_of_nonneg (by assumption)).symm | exact Int.toNat_add_nat (by assumption) _ | lia)
section
set_option genCtorIdx false
inductive Ex2.{u1,u2} {α1:Sort u1} {α2:Sort u2} (p:α1->α2->Prop):Prop where
 | intro (x1:α1) (x2:α2) (h:p x1 x2):Ex2 p
inductive Ex3.{u1,u2,u3} {α1:Sort u1} {α2:Sort u2} {α3:Sort u3} (p:α1->α2->α3->Prop):Prop where
 | intro (x1:α1) (x2:α2) (x3:α3) (h:p x1 x2 x3):Ex3 p
inductive Ex4.{u1,u2,u3,u4} {α1:Sort u1} {α2:Sort u2} {α3:Sort u3} {α4:Sort u4} (p:α1->α2->α3->α4->Prop):Prop where
 | intro (x1:α1) (x2:α2) (x3:α3) (x4:α4) (h:p x1 x2 x3 x4):Ex4 p
inductive Ex5.{u1,u2,u3,u4,u5} {α1:Sort u1} {α2:Sort u2} {α3:Sort u3} {α4:Sort u4} {α5:Sort u5} (p:α1->α2->α3->α4->α5->Prop):Prop where
 | intro (x1:α1) (x2:α2) (x3:α3) (x4:α4) (x5:α5) (h:p x1 x2 x3 x4 x5):Ex5 p
inductive Ex6.{u1,u2,u3,u4,u5,u6} {α1:Sort u1} {α2:Sort u2} {α3:Sort u3} {α4:Sort u4} {α5:Sort u5} {α6:Sort u6} (p:α1->α2->α3->α4->α5->α6->Prop):Prop where
 | intro (x1:α1) (x2:α2) (x3:α3) (x4:α4) (x5:α5) (x6:α6) (h:p x1 x2 x3 x4 x5 x6):Ex6 p
inductive Ex7.{u1,u2,u3,u4,u5,u6,u7} {α1:Sort u1} {α2:Sort u2} {α3:Sort u3} {α4:Sort u4} {α5:Sort u5} {α6:Sort u6} {α7:Sort u7} (p:α1->α2->α3->α4->α5->α6->α7->Prop):Prop where
 | intro (x1:α1) (x2:α2) (x3:α3) (x4:α4) (x5:α5) (x6:α6) (x7:α7) (h:p x1 x2 x3 x4 x5 x6 x7):Ex7 p
inductive Ex8.{u1,u2,u3,u4,u5,u6,u7,u8} {α1:Sort u1} {α2:Sort u2} {α3:Sort u3} {α4:Sort u4} {α5:Sort u5} {α6:Sort u6} {α7:Sort u7} {α8:Sort u8} (p:α1->α2->α3->α4->α5->α6->α7->α8->Prop):Prop where
 | intro (x1:α1) (x2:α2) (x3:α3) (x4:α4) (x5:α5) (x6:α6) (x7:α7) (x8:α8) (h:p x1 x2 x3 x4 x5 x6 x7 x8):Ex8 p
inductive Ex9.{u1,u2,u3,u4,u5,u6,u7,u8,u9} {α1:Sort u1} {α2:Sort u2} {α3:Sort u3} {α4:Sort u4} {α5:Sort u5} {α6:Sort u6} {α7:Sort u7} {α8:Sort u8} {α9:Sort u9} (p:α1->α2->α3->α4->α5->α6->α7->α8->α9->Prop):Prop where
 | intro (x1:α1) (x2:α2) (x3:α3) (x4:α4) (x5:α5) (x6:α6) (x7:α7) (x8:α8) (x9:α9) (h:p x1 x2 x3 x4 x5 x6 x7 x8 x9):Ex9 p
inductive Ex10.{u1,u2,u3,u4,u5,u6,u7,u8,u9,u10} {α1:Sort u1} {α2:Sort u2} {α3:Sort u3} {α4:Sort u4} {α5:Sort u5} {α6:Sort u6} {α7:Sort u7} {α8:Sort u8} {α9:Sort u9} {α10:Sort u10} (p:α1->α2->α3->α4->α5->α6->α7->α8->α9->α10->Prop):Prop where
 | intro (x1:α1) (x2:α2) (x3:α3) (x4:α4) (x5:α5) (x6:α6) (x7:α7) (x8:α8) (x9:α9) (x10:α10) (h:p x1 x2 x3 x4 x5 x6 x7 x8 x9 x10):Ex10 p
inductive Ex13.{u1,u2,u3,u4,u5,u6,u7,u8,u9,u10,u11,u12,u13} {α1:Sort u1} {α2:Sort u2} {α3:Sort u3} {α4:Sort u4} {α5:Sort u5} {α6:Sort u6} {α7:Sort u7} {α8:Sort u8} {α9:Sort u9} {α10:Sort u10} {α11:Sort u11} {α12:Sort u12} {α13:Sort u13} (p:α1->α2->α3->α4->α5->α6->α7->α8->α9->α10->α11->α12->α13->Prop):Prop where
 | intro (x1:α1) (x2:α2) (x3:α3) (x4:α4) (x5:α5) (x6:α6) (x7:α7) (x8:α8) (x9:α9) (x10:α10) (x11:α11) (x12:α12) (x13:α13) (h:p x1 x2 x3 x4 x5 x6 x7 x8 x9 x10 x11 x12 x13):Ex13 p
inductive Ex17.{u1,u2,u3,u4,u5,u6,u7,u8,u9,u10,u11,u12,u13,u14,u15,u16,u17} {α1:Sort u1} {α2:Sort u2} {α3:Sort u3} {α4:Sort u4} {α5:Sort u5} {α6:Sort u6} {α7:Sort u7} {α8:Sort u8} {α9:Sort u9} {α10:Sort u10} {α11:Sort u11} {α12:Sort u12} {α13:Sort u13} {α14:Sort u14} {α15:Sort u15} {α16:Sort u16} {α17:Sort u17} (p:α1->α2->α3->α4->α5->α6->α7->α8->α9->α10->α11->α12->α13->α14->α15->α16->α17->Prop):Prop where
 | intro (x1:α1) (x2:α2) (x3:α3) (x4:α4) (x5:α5) (x6:α6) (x7:α7) (x8:α8) (x9:α9) (x10:α10) (x11:α11) (x12:α12) (x13:α13) (x14:α14) (x15:α15) (x16:α16) (x17:α17) (h:p x1 x2 x3 x4 x5 x6 x7 x8 x9 x10 x11 x12 x13 x14 x15 x16 x17):Ex17 p
inductive Ex20.{u1,u2,u3,u4,u5,u6,u7,u8,u9,u10,u11,u12,u13,u14,u15,u16,u17,u18,u19,u20} {α1:Sort u1} {α2:Sort u2} {α3:Sort u3} {α4:Sort u4} {α5:Sort u5} {α6:Sort u6} {α7:Sort u7} {α8:Sort u8} {α9:Sort u9} {α10:Sort u10} {α11:Sort u11} {α12:Sort u12} {α13:Sort u13} {α14:Sort u14} {α15:Sort u15} {α16:Sort u16} {α17:Sort u17} {α18:Sort u18} {α19:Sort u19} {α20:Sort u20} (p:α1->α2->α3->α4->α5->α6->α7->α8->α9->α10->α11->α12->α13->α14->α15->α16->α17->α18->α19->α20->Prop):Prop where
 | intro (x1:α1) (x2:α2) (x3:α3) (x4:α4) (x5:α5) (x6:α6) (x7:α7) (x8:α8) (x9:α9) (x10:α10) (x11:α11) (x12:α12) (x13:α13) (x14:α14) (x15:α15) (x16:α16) (x17:α17) (x18:α18) (x19:α19) (x20:α20) (h:p x1 x2 x3 x4 x5 x6 x7 x8 x9 x10 x11 x12 x13 x14 x15 x16 x17 x18 x19 x20):Ex20 p
inductive And3 (a1 a2 a3:Prop):Prop where
 | intro (x1:a1) (x2:a2) (x3:a3):And3 a1 a2 a3
inductive And4 (a1 a2 a3 a4:Prop):Prop where
 | intro (x1:a1) (x2:a2) (x3:a3) (x4:a4):And4 a1 a2 a3 a4
inductive And5 (a1 a2 a3 a4 a5:Prop):Prop where
 | intro (x1:a1) (x2:a2) (x3:a3) (x4:a4) (x5:a5):And5 a1 a2 a3 a4 a5
inductive And6 (a1 a2 a3 a4 a5 a6:Prop):Prop where
 | intro (x1:a1) (x2:a2) (x3:a3) (x4:a4) (x5:a5) (x6:a6):And6 a1 a2 a3 a4 a5 a6
inductive And7 (a1 a2 a3 a4 a5 a6 a7:Prop):Prop where
 | intro (x1:a1) (x2:a2) (x3:a3) (x4:a4) (x5:a5) (x6:a6) (x7:a7):And7 a1 a2 a3 a4 a5 a6 a7
inductive And10 (a1 a2 a3 a4 a5 a6 a7 a8 a9 a10:Prop):Prop where
 | intro (x1:a1) (x2:a2) (x3:a3) (x4:a4) (x5:a5) (x6:a6) (x7:a7) (x8:a8) (x9:a9) (x10:a10):And10 a1 a2 a3 a4 a5 a6 a7 a8 a9 a10
inductive And11 (a1 a2 a3 a4 a5 a6 a7 a8 a9 a10 a11:Prop):Prop where
 | intro (x1:a1) (x2:a2) (x3:a3) (x4:a4) (x5:a5) (x6:a6) (x7:a7) (x8:a8) (x9:a9) (x10:a10) (x11:a11):And11 a1 a2 a3 a4 a5 a6 a7 a8 a9 a10 a11
inductive And9 (a1 a2 a3 a4 a5 a6 a7 a8 a9:Prop):Prop where
 | intro (x1:a1) (x2:a2) (x3:a3) (x4:a4) (x5:a5) (x6:a6) (x7:a7) (x8:a8) (x9:a9):And9 a1 a2 a3 a4 a5 a6 a7 a8 a9
inductive And13 (a1 a2 a3 a4 a5 a6 a7 a8 a9 a10 a11 a12 a13:Prop):Prop where
 | intro (x1:a1) (x2:a2) (x3:a3) (x4:a4) (x5:a5) (x6:a6) (x7:a7) (x8:a8) (x9:a9) (x10:a10) (x11:a11) (x12:a12) (x13:a13):And13 a1 a2 a3 a4 a5 a6 a7 a8 a9 a10 a11 a12 a13
inductive And8 (a1 a2 a3 a4 a5 a6 a7 a8:Prop):Prop where
 | intro (x1:a1) (x2:a2) (x3:a3) (x4:a4) (x5:a5) (x6:a6) (x7:a7) (x8:a8):And8 a1 a2 a3 a4 a5 a6 a7 a8
inductive And12 (a1 a2 a3 a4 a5 a6 a7 a8 a9 a10 a11 a12:Prop):Prop where
 | intro (x1:a1) (x2:a2) (x3:a3) (x4:a4) (x5:a5) (x6:a6) (x7:a7) (x8:a8) (x9:a9) (x10:a10) (x11:a11) (x12:a12):And12 a1 a2 a3 a4 a5 a6 a7 a8 a9 a10 a11 a12
inductive Ey2.{u1,u2} {α1:Sort u1} {α2:Sort u2} (p q:α1->α2->Prop):Prop where
 | intro (x1:α1) (x2:α2) (h1:p x1 x2) (h2:q x1 x2):Ey2 p q
inductive Ey3.{u1,u2,u3} {α1:Sort u1} {α2:Sort u2} {α3:Sort u3} (p q:α1->α2->α3->Prop):Prop where
 | intro (x1:α1) (x2:α2) (x3:α3) (h1:p x1 x2 x3) (h2:q x1 x2 x3):Ey3 p q
inductive Ey4.{u1,u2,u3,u4} {α1:Sort u1} {α2:Sort u2} {α3:Sort u3} {α4:Sort u4} (p q:α1->α2->α3->α4->Prop):Prop where
 | intro (x1:α1) (x2:α2) (x3:α3) (x4:α4) (h1:p x1 x2 x3 x4) (h2:q x1 x2 x3 x4):Ey4 p q
inductive Ey5.{u1,u2,u3,u4,u5} {α1:Sort u1} {α2:Sort u2} {α3:Sort u3} {α4:Sort u4} {α5:Sort u5} (p q:α1->α2->α3->α4->α5->Prop):Prop where
 | intro (x1:α1) (x2:α2) (x3:α3) (x4:α4) (x5:α5) (h1:p x1 x2 x3 x4 x5) (h2:q x1 x2 x3 x4 x5):Ey5 p q
inductive Ey6.{u1,u2,u3,u4,u5,u6} {α1:Sort u1} {α2:Sort u2} {α3:Sort u3} {α4:Sort u4} {α5:Sort u5} {α6:Sort u6} (p q:α1->α2->α3->α4->α5->α6->Prop):Prop where
 | intro (x1:α1) (x2:α2) (x3:α3) (x4:α4) (x5:α5) (x6:α6) (h1:p x1 x2 x3 x4 x5 x6) (h2:q x1 x2 x3 x4 x5 x6):Ey6 p q
inductive Ey7.{u1,u2,u3,u4,u5,u6,u7} {α1:Sort u1} {α2:Sort u2} {α3:Sort u3} {α4:Sort u4} {α5:Sort u5} {α6:Sort u6} {α7:Sort u7} (p q:α1->α2->α3->α4->α5->α6->α7->Prop):Prop where
 | intro (x1:α1) (x2:α2) (x3:α3) (x4:α4) (x5:α5) (x6:α6) (x7:α7) (h1:p x1 x2 x3 x4 x5 x6 x7) (h2:q x1 x2 x3 x4 x5 x6 x7):Ey7 p q
inductive Ey8.{u1,u2,u3,u4,u5,u6,u7,u8} {α1:Sort u1} {α2:Sort u2} {α3:Sort u3} {α4:Sort u4} {α5:Sort u5} {α6:Sort u6} {α7:Sort u7} {α8:Sort u8} (p q:α1->α2->α3->α4->α5->α6->α7->α8->Prop):Prop where
 | intro (x1:α1) (x2:α2) (x3:α3) (x4:α4) (x5:α5) (x6:α6) (x7:α7) (x8:α8) (h1:p x1 x2 x3 x4 x5 x6 x7 x8) (h2:q x1 x2 x3 x4 x5 x6 x7 x8):Ey8 p q
inductive Ey9.{u1,u2,u3,u4,u5,u6,u7,u8,u9} {α1:Sort u1} {α2:Sort u2} {α3:Sort u3} {α4:Sort u4} {α5:Sort u5} {α6:Sort u6} {α7:Sort u7} {α8:Sort u8} {α9:Sort u9} (p q:α1->α2->α3->α4->α5->α6->α7->α8->α9->Prop):Prop where
 | intro (x1:α1) (x2:α2) (x3:α3) (x4:α4) (x5:α5) (x6:α6) (x7:α7) (x8:α8) (x9:α9) (h1:p x1 x2 x3 x4 x5 x6 x7 x8 x9) (h2:q x1 x2 x3 x4 x5 x6 x7 x8 x9):Ey9 p q
inductive Ey10.{u1,u2,u3,u4,u5,u6,u7,u8,u9,u10} {α1:Sort u1} {α2:Sort u2} {α3:Sort u3} {α4:Sort u4} {α5:Sort u5} {α6:Sort u6} {α7:Sort u7} {α8:Sort u8} {α9:Sort u9} {α10:Sort u10} (p q:α1->α2->α3->α4->α5->α6->α7->α8->α9->α10->Prop):Prop where
 | intro (x1:α1) (x2:α2) (x3:α3) (x4:α4) (x5:α5) (x6:α6) (x7:α7) (x8:α8) (x9:α9) (x10:α10) (h1:p x1 x2 x3 x4 x5 x6 x7 x8 x9 x10) (h2:q x1 x2 x3 x4 x5 x6 x7 x8 x9 x10):Ey10 p q
inductive Ey17.{u1,u2,u3,u4,u5,u6,u7,u8,u9,u10,u11,u12,u13,u14,u15,u16,u17} {α1:Sort u1} {α2:Sort u2} {α3:Sort u3} {α4:Sort u4} {α5:Sort u5} {α6:Sort u6} {α7:Sort u7} {α8:Sort u8} {α9:Sort u9} {α10:Sort u10} {α11:Sort u11} {α12:Sort u12} {α13:Sort u13} {α14:Sort u14} {α15:Sort u15} {α16:Sort u16} {α17:Sort u17} (p q:α1->α2->α3->α4->α5->α6->α7->α8->α9->α10->α11->α12->α13->α14->α15->α16->α17->Prop):Prop where
 | intro (x1:α1) (x2:α2) (x3:α3) (x4:α4) (x5:α5) (x6:α6) (x7:α7) (x8:α8) (x9:α9) (x10:α10) (x11:α11) (x12:α12) (x13:α13) (x14:α14) (x15:α15) (x16:α16) (x17:α17) (h1:p x1 x2 x3 x4 x5 x6 x7 x8 x9 x10 x11 x12 x13 x14 x15 x16 x17) (h2:q x1 x2 x3 x4 x5 x6 x7 x8 x9 x10 x11 x12 x13 x14 x15 x16 x17):Ey17 p q
inductive Ey20.{u1,u2,u3,u4,u5,u6,u7,u8,u9,u10,u11,u12,u13,u14,u15,u16,u17,u18,u19,u20} {α1:Sort u1} {α2:Sort u2} {α3:Sort u3} {α4:Sort u4} {α5:Sort u5} {α6:Sort u6} {α7:Sort u7} {α8:Sort u8} {α9:Sort u9} {α10:Sort u10} {α11:Sort u11} {α12:Sort u12} {α13:Sort u13} {α14:Sort u14} {α15:Sort u15} {α16:Sort u16} {α17:Sort u17} {α18:Sort u18} {α19:Sort u19} {α20:Sort u20} (p q:α1->α2->α3->α4->α5->α6->α7->α8->α9->α10->α11->α12->α13->α14->α15->α16->α17->α18->α19->α20->Prop):Prop where
 | intro (x1:α1) (x2:α2) (x3:α3) (x4:α4) (x5:α5) (x6:α6) (x7:α7) (x8:α8) (x9:α9) (x10:α10) (x11:α11) (x12:α12) (x13:α13) (x14:α14) (x15:α15) (x16:α16) (x17:α17) (x18:α18) (x19:α19) (x20:α20) (h1:p x1 x2 x3 x4 x5 x6 x7 x8 x9 x10 x11 x12 x13 x14 x15 x16 x17 x18 x19 x20) (h2:q x1 x2 x3 x4 x5 x6 x7 x8 x9 x10 x11 x12 x13 x14 x15 x16 x17 x18 x19 x20):Ey20 p q
theorem byC {p:Prop} (h:¬p->False):p:=eO h
end
section
open PySem PySem.W PyProof.Rows
inductive V where
 | none | bool (b:Bool) | int (i:Int) | bytes (b:List Nat) | tup (l:List V) | lst (l:List V)
 deriving Inhabited
noncomputable def toB (b:List Nat):Array UInt8:=(b.map cK).toArray
mutual
noncomputable def Rep (X:aN->Prop) (h:cZ):V->aD->Prop
 | .none,v=>v = .none
 | .bool b,v=>v = .bool b
 | .int i,v=>∃ t,v = .int i t
 | .bytes b,v=>(∀ x ∈ b,x < 256)/\∃ t,v = .bytes (toB b) t
 | .tup l,v=>Ex2 fun a vs=>And4 (v = .ref a) (¬ X a) (IsTup h a (aQ vs)) (RepL X h l vs)
 | .lst l,v=>Ex2 fun a vs=>And4 (v = .ref a) (¬ X a) (h.IsList a (aQ vs)) (RepL X h l vs)
noncomputable def RepL (X:aN->Prop) (h:cZ):List V->List aD->Prop
 | [],vs=>vs = []
 | d :: l,vs=>Ex2 fun v r=>And3 (vs = v :: r) (Rep X h d v) (RepL X h l r)
end
section
variable {X X':aN->Prop} {h h':cZ}
mutual
theorem Rep.mono (hX:∀ a,X' a->X a) (hk:∀ b o,¬ X b->h.get? b = some o->h'.get? b = some o):∀ {d:V} {v:aD},Rep X h d v->Rep X' h' d v
 | .none,O,r=>r
 | .bool O,O1,r=>r
 | .int O,O1,r=>r
 | .bytes O,O1,r=>r
 | .tup O,O1,⟨a,vs,e,x,⟨o,ho,q⟩,r⟩=>⟨a,vs,e,fun y=>x (hX _ y),⟨o,hk _ _ x ho,q⟩,RepL.mono hX hk r⟩
 | .lst O,O1,⟨a,vs,e,x,⟨o,ho,q⟩,r⟩=>⟨a,vs,e,fun y=>x (hX _ y),⟨o,hk _ _ x ho,q⟩,RepL.mono hX hk r⟩
theorem RepL.mono (hX:∀ a,X' a->X a) (hk:∀ b o,¬ X b->h.get? b = some o->h'.get? b = some o):∀ {l:List V} {vs:List aD},RepL X h l vs->RepL X' h' l vs
 | [],O,r=>r
 | O :: O1,O2,⟨v,r,e,a,b⟩=>⟨v,r,e,Rep.mono hX hk a,RepL.mono hX hk b⟩
end
theorem RepL.length:∀ {l:List V} {vs:List aD},RepL X h l vs->vs.length = l.length
 | [],O,r=>by cases r; rfl
 | O :: O1,O2,⟨v,r,e,O3,b⟩=>by cases e; simp only [aI,RepL.length b]
theorem RepL.append:∀ {l l':List V} {vs vs':List aD},RepL X h l vs->RepL X h l' vs'->RepL X h (l++l') (vs++vs')
 | [],O,O1,O2,r,r'=>by cases r; exact r'
 | O :: O1,O2,O3,O4,⟨v,r,e,a,b⟩,r'=>by cases e; exact ⟨v,r++_,rfl,a,RepL.append b r'⟩
theorem RepL.get:∀ {l:List V} {vs:List aD} {i:Nat} {d:V},RepL X h l vs->l[i]? = some d->∃ v,vs[i]? = some v/\Rep X h d v
 | O :: O1,O2,0,O3,⟨v,r,e,a,b⟩,q=>by cases e; cases q; exact ⟨v,rfl,a⟩
 | O :: O1,O2,i+1,O3,⟨v,r,e,a,b⟩,q=>by
  cases e
  obtain ⟨v',h1,h2⟩:=RepL.get (i:=i) b (by simpa using q);exact ⟨v',by simpa using h1,h2⟩
theorem RepL.drop:∀ {l:List V} {vs:List aD} (n:Nat),RepL X h l vs->RepL X h (l.drop n) (vs.drop n)
 | O,O1,0,r=>r
 | [],O,O1+1,r=>by cases r; exact rfl
 | O :: O1,O2,n+1,⟨v,r,e,a,b⟩=>by cases e; exact RepL.drop n b
theorem RepL.take:∀ {l:List V} {vs:List aD} (n:Nat),RepL X h l vs->RepL X h (l.take n) (vs.take n)
 | O,O1,0,r=>rfl
 | [],O,O1+1,r=>by cases r; exact rfl
 | O :: O1,O2,n+1,⟨v,r,e,a,b⟩=>by cases e; exact ⟨v,_,rfl,a,RepL.take n b⟩
theorem RepL.one {d:V} {v:aD} (r:Rep X h d v):RepL X h [d] [v]:=⟨v,[],rfl,r,rfl⟩
theorem RepL.set:∀ {l:List V} {vs:List aD} {d:V} {v:aD} (n:Nat),RepL X h l vs->Rep X h d v->RepL X h (l.set n d) (vs.set n v)
 | [],O,O1,O2,O3,r,O4=>by cases r; exact rfl
 | O :: O1,O2,O3,v,0,⟨v',r,e,a,b⟩,q=>by cases e; exact ⟨v,r,rfl,q,b⟩
 | O :: O1,O2,O3,v,n+1,⟨v',r,e,a,b⟩,q=>by cases e; exact ⟨v',_,rfl,a,RepL.set n b q⟩
end
theorem zcq {h:cZ} {c P:aN} {ps:Array aD} (x:h.IsCode c P ps):TriplesOk ps.toList:=by
 obtain ⟨_,_,_,_,_,_,_,_,_,_,_,_,_,_,_,_,_,_,_,h,_⟩:=x;exact h
theorem zic {h h':cZ} {c P:aN} {ps0 ps:Array aD} (x:h.IsCode c P ps0) (hc:∀ o,c ≠ P->h.get? c = some o->h'.get? c = some o) {op:Obj} (hP:h'.get? P = some op) (hd:op.data = .fields ps) (hps:TriplesOk ps.toList):h'.IsCode c P ps/\c ≠ P:=by
 refine byC fun hG=>?_;obtain ⟨o,vs,file,tf,flags,tg,inF,text,tt,_,ho,hd0,h11,h2,h7,h9,h10,_,_,_,hne⟩:=x;refine hG ?_;exact ⟨⟨o,vs,file,tf,flags,tg,inF,text,tt,op,hc o hne ho,hd0,h11,h2,h7,h9,h10,hP,hd,hps,hne⟩,hne⟩
noncomputable def IsTab (h:cZ) (P:aN):Prop:=∃ ps:{ ps:Array aD // TriplesOk ps.toList },h.get? P = some { cls:=.none,data:=.fields ps.1 }
structure Gr (P:aN) (s s':aC):Prop where
 ext:∀ b o,b ≠ P->s.heap.get? b = some o->s'.heap.get? b = some o
 live:∀ b,(s.heap.get? b).isSome = true->(s'.heap.get? b).isSome = true
 tab:IsTab s.heap P->IsTab s'.heap P
 os:s'.os = s.os
 gens:AllBare s.gens->AllBare s'.gens
namespace Gr
variable {P:aN} {s s' s'':aC}
theorem refl (s:aC):Gr P s s:=⟨fun O O O e=>e,fun O h=>h,id,rfl,id⟩
theorem trans (a:Gr P s s') (b:Gr P s' s''):Gr P s s'' :=
 ⟨fun x o h e=>b.ext x o h (a.ext x o h e),fun x h=>b.live x (a.live x h),fun t=>b.tab (a.tab t),b.os.trans a.os,fun g=>b.gens (a.gens g)⟩
theorem keep {h':cZ} {k:Nat} (hk:∀ b o,s.heap.get? b = some o->h'.get? b = some o):Gr P s { s with heap:=h',toks:=k } :=
 ⟨fun b o O e=>hk b o e,fun b h=>by obtain ⟨o,e⟩:=aH.mp h; exact aH.mpr ⟨o,hk _ _ e⟩,fun ⟨ps,e⟩=>⟨ps,hk _ _ e⟩,rfl,id⟩
theorem toks {k:Nat}:Gr P s { s with toks:=k }:=keep fun O O e=>e
theorem push {o:Obj} {k:Nat}:Gr P s { s with heap:=s.heap.push o,toks:=k }:=keep fun O O e=>bG _ e
theorem push' {o:Obj}:Gr P s { s with heap:=s.heap.push o }:=push (k:=s.toks)
end Gr
theorem Rep.gr {P:aN} {X:aN->Prop} {s s':aC} {d:V} {v:aD} (hX:X P) (g:Gr P s s') (r:Rep X s.heap d v):Rep X s'.heap d v :=
 r.mono (fun O x=>x) fun b o hb e=>g.ext b o (fun q=>hb (q ▸ hX)) e
theorem RepL.gr {P:aN} {X:aN->Prop} {s s':aC} {d:List V} {v:List aD} (hX:X P) (g:Gr P s s') (r:RepL X s.heap d v):RepL X s'.heap d v :=
 r.mono (fun O x=>x) fun b o hb e=>g.ext b o (fun q=>hb (q ▸ hX)) e
noncomputable def XOk (X:aN->Prop) (h:cZ):Prop:=∀ a,X a->(h.get? a).isSome = true
theorem XOk.lt {X:aN->Prop} {h:cZ} (x:XOk X h) {a:aN} (ha:X a):a < h.objs.size:=by
 obtain ⟨o,e⟩:=aH.mp (x a ha);exact bW e
theorem XOk.gr {P:aN} {X:aN->Prop} {s s':aC} (x:XOk X s.heap) (g:Gr P s s'):XOk X s'.heap:=fun a ha=>g.live a (x a ha)
noncomputable abbrev Post (P:aN) (X:aN->Prop) (s:aC) (d:V):aD->aC->Prop:=fun v s'=>Gr P s s'/\Rep X s'.heap d v
theorem zfz (a b:List Nat):toB a++toB b = toB (a++b):=by simp [toB]
theorem zam (a:List Nat):(toB a).size = a.length:=by simp [toB]
theorem ofNat_inj {a b:Nat} (ha:a < 256) (hb:b < 256):cK a = cK b ↔ a = b:=by
 constructor
 ·intro h;have:=congrArg UInt8.toNat h;simp only [UInt8.toNat_ofNat'] at this;omega
 ·rintro rfl; rfl
theorem zmf:∀ {a b:List Nat},(∀ x ∈ a,x < 256)->(∀ x ∈ b,x < 256)->((a.map cK = b.map cK) ↔ a = b)
 | [],[],O,O1=>by simp
 | [],O :: O1,O2,O3=>by simp
 | O :: O1,[],O2,O3=>by simp
 | x :: a,y :: b,ha,hb=>by
  simp only [aS,List.cons.injEq];rw [ofNat_inj (ha x (by simp)) (hb y (by simp)),zmf (fun z hz=>ha z (by simp [hz])) (fun z hz=>hb z (by simp [hz]))]
theorem zgl {a b:List Nat} (ha:∀ x ∈ a,x < 256) (hb:∀ x ∈ b,x < 256):((toB a).toList == (toB b).toList) = decide (a = b):=by
 rw [eP];simp only [toB,beq_iff_eq,decide_eq_true_eq];exact zmf ha hb
section
variable {prog:dC} {w:cF} {A:bA} {E:aD->aC->Prop} {s:aC} {P:aN} {X:aN->Prop}
noncomputable def kdI:V->Option Int | .int i=>some i | _=>none
noncomputable def kdB:V->Option (List Nat) | .bytes b=>some b | _=>none
noncomputable def kdL:V->Option (List V) | .lst l=>some l | _=>none
noncomputable def kdO:V->Option Bool | .bool b=>some b | _=>none
theorem zbz {a:V} {x:Int} (h:kdI a = some x):a = .int x:=by cases a <;> cases h; rfl
theorem zem {a:V} {x:List Nat} (h:kdB a = some x):a = .bytes x:=by cases a <;> cases h; rfl
theorem zee {a:V} {x:List V} (h:kdL a = some x):a = .lst x:=by cases a <;> cases h; rfl
theorem zmx {a:V} {x:Bool} (h:kdO a = some x):a = .bool x:=by cases a <;> cases h; rfl
noncomputable def two {α β:Type} (p:V->Option α) (f:α->α->Option β) (a b:V):Option β:=(p a).bind fun x=>(p b).bind fun y=>f x y
theorem bind_inv {α β:Type} {o:Option α} {f:α->Option β} {d:β} (h:o.bind f = some d):∃ x,o = some x/\f x = some d:=by
 cases o with
 | none=>cases h
 | some x=>exact ⟨x,rfl,h⟩
theorem zb7 {α β:Type} {p:V->Option α} {f:α->α->Option β} {a b:V} {d:β} (h:two p f a b = some d):Ex2 fun x y=>And3 (p a = some x) (p b = some y) (f x y = some d):=by
 refine byC fun hG=>?_;obtain ⟨x,h1,h2⟩:=bind_inv h;obtain ⟨y,h3,h4⟩:=bind_inv h2;refine hG ?_;exact ⟨x,y,h1,h3,h4⟩
theorem zes {α:Type} {a:α} {C:Prop} (e:(none:Option α) = some a):C:=by cases e
theorem zdx {α:Type} {o o':Option α} {d:α} (h:o.or o' = some d):o = some d \/ o' = some d:=by
 cases o with
 | none=>exact .inr h
 | some x=>exact .inl h
noncomputable def iff? {α:Type} (p:Prop) [Decidable p] (d:α):Option α:=if p then some d else none
theorem zat {α:Type} {p:Prop} [Decidable p] {d e:α} (h:iff? p d = some e):p/\d = e:=by
 unfold iff? at h
 by_cases q:p
 ·rw [if_pos q] at h; exact ⟨q,bN h⟩
 ·rw [if_neg q] at h; cases h
theorem zas {α:Type} {p:Prop} [Decidable p] {d:α} (h:p):iff? p d = some d:=if_pos h
theorem za1 {β:Type} {f:Int->Int->Option β} {C:aD->aD->β->Prop} {a b:V} {d:β} {va vb:aD} (ra:Rep X s.heap a va) (rb:Rep X s.heap b vb) (h:two kdI f a b = some d) (k:∀ x y t u,f x y = some d->C (.int x t) (.int y u) d):C va vb d:=by
 obtain ⟨x,y,h1,h2,h3⟩:=zb7 h;rw [zbz h1] at ra;rw [zbz h2] at rb;obtain ⟨t,e1⟩:=ra;obtain ⟨u,e2⟩:=rb;rw [e1,e2];exact k x y t u h3
theorem znw {β:Type} {f:List Nat->List Nat->Option β} {C:aD->aD->β->Prop} {a b:V} {d:β} {va vb:aD} (ra:Rep X s.heap a va) (rb:Rep X s.heap b vb) (h:two kdB f a b = some d)
  (k:∀ x y t u,(∀ z ∈ x,z < 256)->(∀ z ∈ y,z < 256)->f x y = some d->C (.bytes (toB x) t) (.bytes (toB y) u) d):C va vb d:=by
 obtain ⟨x,y,h1,h2,h3⟩:=zb7 h;rw [zem h1] at ra;rw [zem h2] at rb;obtain ⟨ha,t,e1⟩:=ra;obtain ⟨hb,u,e2⟩:=rb;rw [e1,e2];exact k x y t u ha hb h3
theorem zja {β:Type} {f:Bool->Bool->Option β} {C:aD->aD->β->Prop} {a b:V} {d:β} {va vb:aD} (ra:Rep X s.heap a va) (rb:Rep X s.heap b vb) (h:two kdO f a b = some d) (k:∀ x y,f x y = some d->C (.bool x) (.bool y) d):C va vb d:=by
 obtain ⟨x,y,h1,h2,h3⟩:=zb7 h;rw [zmx h1] at ra;rw [zmx h2] at rb;rw [show va = .bool x from ra,show vb = .bool y from rb];exact k x y h3
noncomputable def vadd (a b:V):Option V:=(two kdI (fun a b=>some (.int (a+b))) a b).or ((two kdB (fun a b=>iff? (a.length+b.length <= 16777216) (.bytes (a++b))) a b).or (two kdL (fun a b=>iff? (a.length+b.length <= 16777216) (.lst (a++b))) a b))
theorem zd5 {a b d:V} (h:vadd a b = some d):(Ex2 fun x y=>And3 (a = .int x) (b = .int y) (d = .int (x+y))) \/ (Ex2 fun x y=>And4 (a = .bytes x) (b = .bytes y) (x.length+y.length <= 16777216) (d = .bytes (x++y))) \/
  (Ex2 fun x y=>And4 (a = .lst x) (b = .lst y) (x.length+y.length <= 16777216) (d = .lst (x++y))):=by
 refine byC fun hG=>?_;rcases zdx h with h | h
 ·obtain ⟨x,y,h1,h2,h3⟩:=zb7 h;refine hG ?_;exact .inl ⟨x,y,zbz h1,zbz h2,(bN h3).symm⟩
 rcases zdx h with h | h
 ·obtain ⟨x,y,h1,h2,h3⟩:=zb7 h;obtain ⟨hz,h3⟩:=zat h3;refine hG ?_;exact .inr (.inl ⟨x,y,zem h1,zem h2,hz,h3.symm⟩)
 ·obtain ⟨x,y,h1,h2,h3⟩:=zb7 h;obtain ⟨hz,h3⟩:=zat h3;refine hG ?_;exact .inr (.inr ⟨x,y,zee h1,zee h2,hz,h3.symm⟩)
theorem ze0 {o:Obj} {vs:List aD} {l:List V} (hX:XOk X s.heap) (hr:RepL X s.heap l vs) (hfo:o.isFreed = false) (hc:o.cls = .type "list") (hd:∃ n,o.data = .seq vs.toArray n) :
  Rep X (s.heap.push o) (.lst l) (.ref s.heap.objs.size) :=
 ⟨_,vs,rfl,fun x=>absurd (hX.lt x) (dG _),⟨o,bI _ hfo,hc,hd⟩,hr.mono (fun O x=>x) fun O O O e=>bG _ e⟩
theorem zmd {o:Obj} {vs:List aD} {l:List V} (hX:XOk X s.heap) (hr:RepL X s.heap l vs) (hfo:o.isFreed = false) (hc:o.cls = .type "tuple") (hd:∃ n,o.data = .seq vs.toArray n) :
  Rep X (s.heap.push o) (.tup l) (.ref s.heap.objs.size) :=
 ⟨_,vs,rfl,fun x=>absurd (hX.lt x) (dG _),⟨o,bI _ hfo,hc,hd⟩,hr.mono (fun O x=>x) fun O O O e=>bG _ e⟩
theorem zkk {x y:List V} {va vb:aD} {Q:aD->aC->Prop} (ra:Rep X s.heap (.lst x) va) (rb:Rep X s.heap (.lst y) vb) (hz:x.length+y.length <= 16777216)
  (hQ:∀ vs k,RepL X s.heap (x++y) vs->Q (.ref s.heap.objs.size) { s with heap:=s.heap.push { cls:=.type "list",data:=.seq (aQ vs) k } }):wpAny (model prog w) A (binaryOp .Add va vb) Q E s:=by
 refine byC fun hG=>?_;obtain ⟨p,vs,rfl,hx,hl,rl⟩:=ra;obtain ⟨q,ws,rfl,hy,hm,rm⟩:=rb;obtain ⟨⟨cls,dd,data,sl⟩,ho,hc,n,hd⟩:=hl;obtain ⟨⟨cls2,dd2,data2,sl2⟩,ho2,hc2,n2,hd2⟩:=hm;simp only at hc hd hc2 hd2;subst hc hd hc2 hd2;have e:vs.toArray++ws.toArray = (vs++ws).toArray:=by simp
 refine hG ?_;clear hG;refine concat_meets ⟨_,ho,rfl⟩ ⟨_,ho2,rfl⟩ noFill_list_add seq_list_add PySem.F.slot_list_add PySem.F.entry_list_add (PySem.F.args_list_add_2 _ _)
  (list_addW p q vs.toArray ws.toArray n n2 dd dd2 sl sl2 (by rw [cO,List.size_toArray,List.size_toArray,rl.length,rm.length]; exact hz)) ⟨ho,ho2,?_⟩
 rw [e];exact hQ _ _ (rl.append rm)
theorem zqk {a b d:V} {va vb:aD} (hX:XOk X s.heap) (ra:Rep X s.heap a va) (rb:Rep X s.heap b vb) (h:vadd a b = some d) :
  wpAny (model prog w) A (binaryOp .Add va vb) (Post P X s d) E s:=by
 rcases zd5 h with ⟨x,y,rfl,rfl,rfl⟩ | ⟨x,y,rfl,rfl,hz,rfl⟩ | ⟨x,y,rfl,rfl,hz,rfl⟩
 ·obtain ⟨t,rfl⟩:=ra;obtain ⟨u,rfl⟩:=rb;exact PySem.P.add_int ⟨.toks,_,rfl⟩
 ·obtain ⟨ha,t,rfl⟩:=ra;obtain ⟨hb,u,rfl⟩:=rb;refine KBy.add_bytes (by rw [zam,zam]; exact hz) fun t' k=>⟨.toks,fun x hx=>(aU.mp hx).elim (ha x) (hb x),t',?_⟩;rw [zfz]
 ·exact zkk ra rb hz fun vs k r=>⟨.push',ze0 hX r rfl rfl ⟨_,rfl⟩⟩
noncomputable def vsub:V->V->Option V:=two kdI fun a b=>some (.int (a - b))
theorem zva {a b d:V} {va vb:aD} (ra:Rep X s.heap a va) (rb:Rep X s.heap b vb) (h:vsub a b = some d) :
  wpAny (model prog w) A (binaryOp .Sub va vb) (Post P X s d) E s :=
 za1 (C:=fun va vb d=>wpAny (model prog w) A (binaryOp .Sub va vb) (Post P X s d) E s) ra rb h fun x y t u h3=>bN h3 ▸ PySem.P.sub_int ⟨.toks,_,rfl⟩
noncomputable def small (a:Int):Bool:=decide (-(2 ^ 62) <= a) && decide (a < 2 ^ 62)
noncomputable def vmul:V->V->Option V:=two kdI fun a b=>iff? (small a = true) (.int (a * b))
theorem zuc {a b d:V} {va vb:aD} (ra:Rep X s.heap a va) (rb:Rep X s.heap b vb) (h:vmul a b = some d) :
  wpAny (model prog w) A (binaryOp .Mult va vb) (Post P X s d) E s:=by
 refine za1 (C:=fun va vb d=>wpAny (model prog w) A (binaryOp .Mult va vb) (Post P X s d) E s) ra rb h fun x y t u h3=>?_;obtain ⟨hs,h3⟩:=zat h3;simp only [small,bB,decide_eq_true_eq] at hs;exact h3 ▸ PySem.P.mul_int ⟨.toks,_,rfl⟩ (IntMulOk.of_left (intBits_le_64 (by omega) (by omega)))
noncomputable def vdiv:V->V->Option V:=two kdI fun a b=>iff? (0 < b/\b <= 1000000000) (.int (a.fdiv b))
theorem zui {a b d:V} {va vb:aD} (ra:Rep X s.heap a va) (rb:Rep X s.heap b vb) (h:vdiv a b = some d) :
  wpAny (model prog w) A (binaryOp .FloorDiv va vb) (Post P X s d) E s:=by
 refine za1 (C:=fun va vb d=>wpAny (model prog w) A (binaryOp .FloorDiv va vb) (Post P X s d) E s) ra rb h fun x y t u h3=>?_;obtain ⟨hs,h3⟩:=zat h3;exact h3 ▸ floordiv_int (by omega) ⟨.toks,_,rfl⟩ (.inl (PyProof.noPylong_small (by omega)))
noncomputable def vmod:V->V->Option V:=two kdI fun a b=>iff? (0 < b/\b <= 1000000000) (.int (a.fmod b))
theorem zv3 {a b d:V} {va vb:aD} (ra:Rep X s.heap a va) (rb:Rep X s.heap b vb) (h:vmod a b = some d) :
  wpAny (model prog w) A (binaryOp .Mod va vb) (Post P X s d) E s:=by
 refine za1 (C:=fun va vb d=>wpAny (model prog w) A (binaryOp .Mod va vb) (Post P X s d) E s) ra rb h fun x y t u h3=>?_;obtain ⟨hs,h3⟩:=zat h3;exact h3 ▸ mod_int' (by omega) ⟨.toks,_,rfl⟩
inductive Op where | add | sub | mul | div | mod
 deriving DecidableEq
noncomputable def Op.py:Op->Operator
 | .add=>.Add | .sub=>.Sub | .mul=>.Mult | .div=>.FloorDiv | .mod=>.Mod
noncomputable def vbin:Op->V->V->Option V
 | .add=>vadd | .sub=>vsub | .mul=>vmul | .div=>vdiv | .mod=>vmod
theorem zvr {o:Op} {a b d:V} {va vb:aD} (hX:XOk X s.heap) (ra:Rep X s.heap a va) (rb:Rep X s.heap b vb) (h:vbin o a b = some d) :
  wpAny (model prog w) A (binaryOp o.py va vb) (Post P X s d) E s:=by
 cases o
 ·exact zqk hX ra rb h
 ·exact zva ra rb h
 ·exact zuc ra rb h
 ·exact zui ra rb h
 ·exact zv3 ra rb h
noncomputable def vscal (a b:V):Option Bool:=(two kdI (fun a b=>some (decide (a = b))) a b).or ((two kdB (fun a b=>some (decide (a = b))) a b).or (two kdO (fun a b=>some (decide (a = b))) a b))
noncomputable def veq (a b:V):Option Bool:=(vscal a b).or (two kdL (fun a b=>iff? ((a.isEmpty || b.isEmpty) = true) (a.isEmpty && b.isEmpty)) a b)
theorem zep {α:Type} [BEq α] [LawfulBEq α] [DecidableEq α] (a b:α):(a == b) = decide (a = b):=by
 rw [eP]; simp
theorem zgq {α:Type} [BEq α] [LawfulBEq α] [DecidableEq α] (a b:α):(a != b) = !decide (a = b):=by
 rw [bne,zep]
theorem ze4 {α:Type} {l:List α}:l.isEmpty = decide (l.length = 0):=by cases l <;> simp
theorem zjs {C:aD->aD->Bool->Prop} {a b:V} {r:Bool} {va vb:aD} (ra:Rep X s.heap a va) (rb:Rep X s.heap b vb) (h:veq a b = some r) (k1:∀ x y t u,C (.int x t) (.int y u) (decide (x = y)))
  (k2:∀ x y t u,(∀ z ∈ x,z < 256)->(∀ z ∈ y,z < 256)->C (.bytes (toB x) t) (.bytes (toB y) u) (decide (x = y))) (k3:∀ x y:Bool,C (.bool x) (.bool y) (decide (x = y)))
  (k4:∀ p q,s.heap.IsList p #[]->s.heap.IsList q #[]->C (.ref p) (.ref q) true) (k5:∀ p q (vs ws:List aD),s.heap.IsList p vs.toArray->s.heap.IsList q ws.toArray->vs.length ≠ ws.length->C (.ref p) (.ref q) false):C va vb r:=by
 rcases zdx h with h | h
 ·rcases zdx h with h | h
  ·exact za1 ra rb h fun x y t u h3=>bN h3 ▸ k1 x y t u
  rcases zdx h with h | h
  ·exact znw ra rb h fun x y t u ha hb h3=>bN h3 ▸ k2 x y t u ha hb
  ·exact zja ra rb h fun x y h3=>bN h3 ▸ k3 x y
 ·obtain ⟨x,y,h1,h2,h3⟩:=zb7 h;obtain ⟨he,h3⟩:=zat h3;rw [zee h1] at ra;rw [zee h2] at rb;clear h h1 h2;rw [<- h3];clear h3;obtain ⟨p,vs,e1,_,hl,rl⟩:=ra;obtain ⟨q,ws,e2,_,hm,rm⟩:=rb;rw [e1,e2];clear e1 e2
  cases x with
  | nil =>
   rw [show vs = [] from rl] at hl;clear he h3
   cases y with
   | nil=>rw [show ws = [] from rm] at hm; exact k4 p q hl hm
   | cons c y=>exact k5 p q [] ws hl hm fun e=>by rw [rm.length] at e; cases e
  | cons c x =>
   clear h3
   cases y with
   | nil=>rw [show ws = [] from rm] at hm; exact k5 p q vs [] hl hm fun e=>by rw [rl.length] at e; cases e
   | cons c y=>exact absurd he aJ
theorem zwe {a b:V} {r:Bool} {va vb:aD} (hu:A.units < cLine) (ra:Rep X s.heap a va) (rb:Rep X s.heap b vb) (h:veq a b = some r) :
  wpAny (model prog w) A (compareOp .Eq va vb) (Post P X s (.bool r)) E s :=
 zjs (C:=fun va vb r=>wpAny (model prog w) A (compareOp .Eq va vb) (Post P X s (.bool r)) E s) ra rb h (fun x y t u=>PySem.P.eq_int (by rw [zep]; exact ⟨.refl _,rfl⟩)) (fun x y t u ha hb=>eq_bytes (by rw [zgl ha hb]; exact ⟨.refl _,rfl⟩))
  (fun x y=>eq_bool (by rw [zep]; exact ⟨.refl _,rfl⟩)) (fun p q hl hm=>SeqAt.RcAt.lists (e:=fun O=>true) hl hm rfl hu (fun j h1 h2=>absurd h1 (Nat.not_lt_zero _)) prog w E _ ⟨.refl _,rfl⟩)
  (fun p q vs ws hl hm hz=>SeqAt.RcAt.lists_lengths hl hm (bne_iff_ne.mpr hz) hu prog w E _ ⟨.refl _,rfl⟩)
theorem zu2 {a b:V} {r:Bool} {va vb:aD} (hu:A.units < cLine) (ra:Rep X s.heap a va) (rb:Rep X s.heap b vb) (h:veq a b = some r) :
  wpAny (model prog w) A (compareOp .NotEq va vb) (Post P X s (.bool (!r))) E s :=
 zjs (C:=fun va vb r=>wpAny (model prog w) A (compareOp .NotEq va vb) (Post P X s (.bool (!r))) E s) ra rb h (fun x y t u=>PySem.P.ne_int (by rw [zgq]; exact ⟨.refl _,rfl⟩)) (fun x y t u ha hb=>ne_bytes (by rw [bne,zgl ha hb]; exact ⟨.refl _,rfl⟩))
  (fun x y=>ne_bool (by rw [zgq]; exact ⟨.refl _,rfl⟩)) (fun p q hl hm=>SeqAt.RcNeAt.lists (e:=fun O=>true) hl hm rfl hu (fun j h1 h2=>absurd h1 (Nat.not_lt_zero _)) prog w E _ ⟨.refl _,rfl⟩)
  (fun p q vs ws hl hm hz=>SeqAt.RcNeAt.lists_lengths hl hm (bne_iff_ne.mpr hz) hu prog w E _ ⟨.refl _,rfl⟩)
inductive Cm where | eq | ne | lt | le | gt | ge
 deriving DecidableEq
noncomputable def Cm.py:Cm->CmpOp
 | .eq=>.Eq | .ne=>.NotEq | .lt=>.Lt | .le=>.LtE | .gt=>.Gt | .ge=>.GtE
noncomputable def vcmp:Cm->V->V->Option Bool
 | .eq=>veq
 | .ne=>fun a b=>(veq a b).map (!·)
 | .lt=>two kdI fun a b=>some (decide (a < b))
 | .le=>two kdI fun a b=>some (decide (a <= b))
 | .gt=>two kdI fun a b=>some (decide (b < a))
 | .ge=>two kdI fun a b=>some (decide (b <= a))
theorem zgx {o:Cm} {a b:V} {r:Bool} {va vb:aD} (hu:A.units < cLine) (ra:Rep X s.heap a va) (rb:Rep X s.heap b vb) (h:vcmp o a b = some r) :
  wpAny (model prog w) A (compareOp o.py va vb) (Post P X s (.bool r)) E s:=by
 cases o
 ·exact zwe hu ra rb h
 ·obtain ⟨r',h1,rfl⟩:=aW.mp h;exact zu2 hu ra rb h1
 ·exact za1 (C:=fun va vb r=>wpAny (model prog w) A (compareOp .Lt va vb) (Post P X s (.bool r)) E s) ra rb h fun x y t u h3=>bN h3 ▸ PySem.P.lt_int ⟨.refl _,rfl⟩
 ·exact za1 (C:=fun va vb r=>wpAny (model prog w) A (compareOp .LtE va vb) (Post P X s (.bool r)) E s) ra rb h fun x y t u h3=>bN h3 ▸ PySem.P.le_int ⟨.refl _,rfl⟩
 ·exact za1 (C:=fun va vb r=>wpAny (model prog w) A (compareOp .Gt va vb) (Post P X s (.bool r)) E s) ra rb h fun x y t u h3=>bN h3 ▸ PySem.P.gt_int ⟨.refl _,rfl⟩
 ·exact za1 (C:=fun va vb r=>wpAny (model prog w) A (compareOp .GtE va vb) (Post P X s (.bool r)) E s) ra rb h fun x y t u h3=>bN h3 ▸ PySem.P.ge_int ⟨.refl _,rfl⟩
noncomputable def isNoneV:V->Bool
 | .none=>true
 | _=>false
theorem znz {a:V} {va:aD} (ra:Rep X s.heap a va) :
  wpAny (model prog w) A (compareOp .Is va .none) (Post P X s (.bool (isNoneV a))) E s:=by
 induction a using V.casesOn with
 | none=>cases ra; exact is_none_none ⟨.refl _,rfl⟩
 | bool b=>cases ra; exact is_none_ne (fun e=>nomatch e) ⟨.refl _,rfl⟩
 | int i=>obtain ⟨t,rfl⟩:=ra; exact is_none_ne (fun e=>nomatch e) ⟨.refl _,rfl⟩
 | bytes b=>obtain ⟨_,t,rfl⟩:=ra; exact is_none_ne (fun e=>nomatch e) ⟨.refl _,rfl⟩
 | tup l=>obtain ⟨x,vs,rfl,_⟩:=ra; exact is_none_ne (fun e=>nomatch e) ⟨.refl _,rfl⟩
 | lst l=>obtain ⟨x,vs,rfl,_⟩:=ra; exact is_none_ne (fun e=>nomatch e) ⟨.refl _,rfl⟩
theorem zg8 {a:V} {va:aD} (ra:Rep X s.heap a va) :
  wpAny (model prog w) A (compareOp .IsNot va .none) (Post P X s (.bool (!isNoneV a))) E s:=by
 induction a using V.casesOn with
 | none=>cases ra; exact isnot_none_none ⟨.refl _,rfl⟩
 | bool b=>cases ra; exact isnot_none_ne (fun e=>nomatch e) ⟨.refl _,rfl⟩
 | int i=>obtain ⟨t,rfl⟩:=ra; exact isnot_none_ne (fun e=>nomatch e) ⟨.refl _,rfl⟩
 | bytes b=>obtain ⟨_,t,rfl⟩:=ra; exact isnot_none_ne (fun e=>nomatch e) ⟨.refl _,rfl⟩
 | tup l=>obtain ⟨x,vs,rfl,_⟩:=ra; exact isnot_none_ne (fun e=>nomatch e) ⟨.refl _,rfl⟩
 | lst l=>obtain ⟨x,vs,rfl,_⟩:=ra; exact isnot_none_ne (fun e=>nomatch e) ⟨.refl _,rfl⟩
end
end
section
open PySem PySem.W PyProof.Rows
section
variable {prog:dC} {w:cF} {A:bA} {E:aD->aC->Prop} {s:aC} {P:aN} {X:aN->Prop}
noncomputable def eqV:aD->aD->Bool
 | .int a O,.int b O1=>a == b
 | .bytes a O,.bytes b O1=>a.toList == b.toList
 | .bool a,.bool b=>a == b
 | O,O1=>false
theorem EqGives.bytes (x y:Array UInt8) (t u:Tok):dO (.bytes x t) (.bytes y u) (x.toList == y.toList):=by
 intro prog w A E s Q h;unfold eqBool;refine dH ?_;refine wpAny_ite_split (fun hab=>?_) (fun hab=>?_)
 ·have e:x = y:=by have:=aR hab; injection this
  clear hab;subst e;exact aF (wpAny_rule (aV (by simpa using h)))
 ·exact aF (richCompare_gives (cL s x t) (cL s y u) FB.slot_bytes_eq FB.entry_bytes_eq (FB.args_bytes_eq_2 _ _) (gives_bytes_eq x y t u) (by simp [Made.takes]) (dY h))
theorem EqGives.bool (x y:Bool):dO (.bool x) (.bool y) (x == y):=by
 intro prog w A E s Q h;unfold eqBool;refine dH ?_;refine wpAny_ite_split (fun hab=>?_) (fun hab=>?_)
 ·have e:x = y:=by have:=aR hab; injection this
  subst e;exact aF (wpAny_rule (aV (by simpa using h)))
 ·exact aF (SeqAt.RcAt.bool_bool (A:=A) (s:=s) x y prog w E (fun v s'=>wpAny (model prog w) A (truthOfDropped v) Q E s') (by exact dY h))
theorem zk4 {a b:V} {r:Bool} {va vb:aD} (ra:Rep X s.heap a va) (rb:Rep X s.heap b vb) (h:vscal a b = some r):dO va vb (eqV va vb)/\eqV va vb = r:=by
 rcases zdx h with h | h
 ·exact za1 (C:=fun va vb r=>dO va vb (eqV va vb)/\eqV va vb = r) ra rb h fun x y t u h3=>⟨dO.int _ _ _ _,(zep _ _).trans (bN h3)⟩
 rcases zdx h with h | h
 ·exact znw (C:=fun va vb r=>dO va vb (eqV va vb)/\eqV va vb = r) ra rb h fun x y t u ha hb h3=>⟨EqGives.bytes _ _ _ _,(zgl ha hb).trans (bN h3)⟩
 ·exact zja (C:=fun va vb r=>dO va vb (eqV va vb)/\eqV va vb = r) ra rb h fun x y h3=>⟨EqGives.bool _ _,(zep _ _).trans (bN h3)⟩
noncomputable def vany (x:V):List V->Option Bool
 | []=>some false
 | y :: r=>(vscal y x).bind fun a=>(vany x r).bind fun b=>some (a || b)
theorem va_n {x:V}:vany x [] = some false:=rfl
theorem va_c {x y:V} {r:List V}:vany x (y :: r) = (vscal y x).bind fun a=>(vany x r).bind fun b=>some (a || b):=rfl
theorem zlw {x:V} {vx:aD} (rx:Rep X s.heap x vx):∀ {l:List V} {vs:List aD} {r:Bool},RepL X s.heap l vs->vany x l = some r ->
  (∀ y ∈ vs,dO y vx (eqV y vx))/\vs.any (fun y=>eqV y vx) = r
 | [],O,O1,rl=>by intro h; cases rl; cases h; exact ⟨fun O q=>(nomatch q),rfl⟩
 | y :: l,O,r,⟨v,vs,e,ry,rl⟩=>by
  intro h
  cases e
  obtain ⟨a,h1,h⟩:=bind_inv (o:=vscal y x) h;obtain ⟨b,h2,h⟩:=bind_inv h
  ·cases h
   obtain ⟨g,e⟩:=zk4 ry rx h1;obtain ⟨g',e'⟩:=zlw rx rl h2;exact ⟨fun z hz=>by rcases aO.mp hz with rfl | hz; exact g; exact g' z hz,by rw [List.any_cons,e,e']⟩
theorem zfd (b:Array UInt8) (i:Int) (t u:Tok) (h0:0 <= i) (h1:i < 256) :
  Meets (Builtin.«bytes.__contains__» ⟨[.bytes b t,.int i u],[]⟩) (fun O R s=>R (.ok (.ret (.bool (b.contains i.toNat.toUInt8)))) s) :=
 .of_wp fun prog w A R s h=>by
  have hi':¬ ((decide (i < 0) || decide (i >= 256)) = true):=by simp; omega
  show wpAny _ _ (eX "bytes.__contains__" (.bytes b t) (.int i u) >>= fun r=>ret (.bool r)) _ _ s;refine aF ?_;unfold eX;refine aF (wpAny_attempt (dM (a:=i) rfl ?_));refine aF (dM (KBy.buffer_eq) ?_);show wpAny _ _ (if (decide (i < 0) || decide (i >= 256)) = true then _ else pure _) _ _ _;rw [if_neg hi'];exact aV (aV ⟨_,rfl,h⟩)
theorem zd4:typeLookup (.type "bytes") "__index__" = pure none:=by rw [typeLookup_type,fM]; kernel_rfl
theorem zij (b:Array UInt8) (t:Tok):asInt? (.bytes b t) = pure none:=by kernel_rfl
theorem zej (b c:Array UInt8) (t u:Tok) :
  Meets (Builtin.«bytes.__contains__» ⟨[.bytes b t,.bytes c u],[]⟩) (fun A R s=>A.handled = none/\(∀ h' k,(∀ b o,s.heap.get? b = some o->h'.get? b = some o)->R (.ok (.ret (.bool (Builtin.Bytes.find? b c 0 b.size).isSome))) { s with heap:=h',toks:=k })) :=
 .of_wp fun prog w A R s h=>by
  show wpAny _ _ (eX "bytes.__contains__" (.bytes b t) (.bytes c u) >>= fun r=>ret (.bool r)) _ _ s;refine aF ?_;unfold eX;refine aF (wpAny_attempt ?_);unfold asIndex;refine aF (dM (zij c u) ?_);refine aF (wpAny_callSpecial?_none (name:=bC "__index__") (cL s c u) zd4 ?_);refine aF (dM (a := "bytes") (by kernel_rfl) ?_);refine wpAny_raiseTypeError h.1 (fun h' tk e hx=>?_) (by decide);refine aF (dM (KBy.buffer_eq) ?_);refine aF (dM (KBy.buffer_eq) ?_);exact aF (wpAny_rule (aV (aV ⟨_,rfl,h.2 _ _ hx.keeps⟩)))
theorem zo1 (b:List UInt8) (c:UInt8):(Builtin.Bytes.find? b.toArray #[c] 0 b.length).isSome = decide (c ∈ b):=by
 rw [eP];unfold Builtin.Bytes.find?;simp only [List.find?_isSome,List.size_toArray,aI,bY,cG,List.mem_range,beq_iff_eq,decide_eq_true_eq,Nat.add_zero,Nat.zero_add];constructor
 ·rintro ⟨x,⟨i,hi,rfl⟩,h⟩;have hlt:i < b.length:=by omega
  have:=congrArg (fun a:Array UInt8=>a[0]?) h;simp at this;rw [aZ hlt] at this
  cases this
  exact dP hlt
 ·intro h;obtain ⟨i,hi,rfl⟩:=List.getElem_of_mem h;refine ⟨i,⟨i,by omega,rfl⟩,?_⟩;apply Array.ext';have e:b.drop i = b[i] :: b.drop (i+1):=dA hi;simp;rw [e];rfl
theorem zcd {x:Nat} {b:List Nat} (hx:x < 256) (hb:∀ y ∈ b,y < 256):cK x ∈ b.map cK ↔ x ∈ b:=by
 rw [cG];constructor
 ·rintro ⟨y,hy,e⟩;rw [ofNat_inj (hb y hy) hx] at e;exact e ▸ hy
 ·exact fun h=>⟨x,h,rfl⟩
noncomputable def one?:List Nat->Option Nat
 | [c]=>some c
 | _=>none
theorem zs6 {l:List Nat} {c:Nat} (h:one? l = some c):l = [c]:=by
 rcases l with _ | ⟨x,_ | ⟨y,r⟩⟩
 ·cases h
 ·cases h; rfl
 ·cases h
noncomputable def vin (x:V):V->Option Bool
 | .lst l=>vany x l
 | .tup l=>vany x l
 | .bytes b=>((kdI x).bind fun i=>iff? (0 <= i/\i < 256) (decide (i.toNat ∈ b))).or ((kdB x).bind fun l=>(one? l).map fun c=>decide (c ∈ b))
 | _=>none
theorem zvd {x c:V} {r:Bool} {vx vc:aD} (hh:A.handled = none) (rx:Rep X s.heap x vx) (rc:Rep X s.heap c vc) (h:vin x c = some r) :
  wpAny (model prog w) A (compareOp .In vx vc) (Post P X s (.bool r)) E s:=by
 induction c using V.casesOn with
 | lst l =>
  obtain ⟨a,vs,rfl,_,hl,rl⟩:=rc;obtain ⟨g,e⟩:=zlw rx rl h;exact SeqInW.in_listW (fun y=>eqV y vx) (fun y hy=>g y (by simpa using hy)) hl ⟨.refl _,by rw [<- e]; simp [Rep]⟩
 | tup l =>
  obtain ⟨a,vs,rfl,_,hl,rl⟩:=rc;obtain ⟨g,e⟩:=zlw rx rl h;obtain ⟨⟨cls,dd,data,sl⟩,ho,hc,n,hd⟩:=id hl;simp only at hc hd;subst hc hd;refine SeqRoads2.in_meets ⟨_,ho,rfl⟩ F.slot_tuple_contains F.entry_tuple_contains (F.args_tuple_contains_2 _ _) (SeqAt.tuple_containsAt _ _ n dd sl vx (fun y=>eqV y vx))
   ⟨ho,fun y hy=>(g y (by simpa using hy)).at _ _,_,rfl,.refl _,?_⟩
  rw [<- e]; simp [Rep]
 | bytes b =>
  obtain ⟨hb,u,rfl⟩:=rc;rcases zdx h with h | h
  ·obtain ⟨i,h1,h4⟩:=bind_inv h;obtain ⟨hi,h5⟩:=zat h4;clear h h4
   cases zbz h1; cases h5
   ·obtain ⟨t,rfl⟩:=rx;refine SeqRoads2.in_meets (cL s _ _) FB.slot_bytes_contains FB.entry_bytes_contains (FB.args_bytes_contains_2 _ _) (zfd _ _ _ _ hi.1 hi.2) ⟨_,rfl,.refl _,?_⟩;show fV _ = fV _
    congr 1
    rw [eP];simp only [toB,decide_eq_true_eq,List.contains_toArray,fN];exact zcd (by omega) hb
  ·obtain ⟨l,h1,h4⟩:=bind_inv h;obtain ⟨c,h2,h5⟩:=aW.mp h4;clear h h4
   cases zem h1; cases zs6 h2; cases h5
   obtain ⟨hx,t,rfl⟩:=rx;refine SeqRoads2.in_meets (cL s _ _) FB.slot_bytes_contains FB.entry_bytes_contains (FB.args_bytes_contains_2 _ _) (zej _ _ _ _) ⟨hh,fun h' k hk=>⟨_,rfl,.keep hk,?_⟩⟩;show fV _ = fV _
   congr 1
   rw [zam,toB,toB];simp only [aS,eG];have e:=zo1 (b.map cK) (cK c);rw [bQ] at e;rw [e,decide_eq_decide];exact zcd (hx _ (by simp)) hb
 | _=>cases h
theorem zex {M:Model} {x c:aD} {Q:aD->aC->Prop} (h:wpAny M A (compareOp .In x c) Q E s):wpAny M A (compareOp .NotIn x c) (fun v s'=>∃ b,v = .bool (!b)/\Q (.bool b) s') E s:=by
 have h':wpAny M A (contains c x) (fun b s'=>Q (.bool b) s') E s:=fun Γ p hΓ=>by
  have:=h Γ p hΓ;rw [show compareOp .In x c = (contains c x >>= fun b=>pure (fV b)) from rfl,Sem.wp_bind'] at this
  simpa only [Sem.wp_pure'] using this
 show wpAny M A (contains c x >>= fun b=>pure (fV (!b))) _ E s;exact aF (aG h' (fun b s' q=>aV ⟨b,rfl,q⟩) fun O O e=>e)
theorem zpq {x c:V} {r:Bool} {vx vc:aD} (hh:A.handled = none) (rx:Rep X s.heap x vx) (rc:Rep X s.heap c vc) (h:vin x c = some r) :
  wpAny (model prog w) A (compareOp .NotIn vx vc) (Post P X s (.bool (!r))) E s:=by
 refine aG (zex (zvd (P:=P) (prog:=prog) (w:=w) (A:=A) (E:=E) hh rx rc h)) (fun v s' q=>?_) fun O O e=>e;obtain ⟨b,rfl,g,e⟩:=q
 cases (show fV b = fV r from e)
 exact ⟨g,rfl⟩
noncomputable def vtruth:V->Option Bool
 | .none=>some false
 | .bool b=>some b
 | .int i=>some (decide (i ≠ 0))
 | .bytes b=>if b.length <= 16777216 then some (!b.isEmpty) else none
 | .lst l=>if l.length <= 16777216 then some (!l.isEmpty) else none
 | .tup O=>none
theorem zeb {a:V} {r:Bool} {va:aD} (ra:Rep X s.heap a va) (h:vtruth a = some r):wpAny (model prog w) A (truthy va) (fun b s'=>b = r/\Gr P s s') E s:=by
 induction a using V.casesOn with
 | none=>cases h; cases ra; exact aV ⟨rfl,.refl _⟩
 | bool b=>cases h; cases ra; exact dY ⟨rfl,.refl _⟩
 | int i =>
  cases h
  obtain ⟨t,rfl⟩:=ra;refine PySem.P.truthy_int ⟨?_,.refl _⟩;rw [zgq]; simp
 | bytes b =>
  obtain ⟨hz,h⟩:=zat h
  cases h
  obtain ⟨_,t,rfl⟩:=ra;refine truthy_bytes (by rw [zam]; omega) ⟨?_,.toks⟩;rw [zam,zgq,ze4];simp
 | lst l =>
  obtain ⟨hz,h⟩:=zat h
  cases h
  obtain ⟨x,vs,rfl,_,hl,rl⟩:=ra;have:=rl.length;refine wpAny_truthy_list hl (by simp; omega) ⟨?_,.toks⟩;simp only [List.isEmpty_toArray,ze4,this]
 | tup l=>cases h
noncomputable def vlen:V->Option V
 | .bytes b=>iff? (b.length <= 16777216) (.int b.length)
 | .lst l=>iff? (l.length <= 16777216) (.int l.length)
 | _=>none
theorem zu3 {a d:V} {va:aD} (ra:Rep X s.heap a va) (h:vlen a = some d):wpAny (model prog w) A (call (.builtin "len") [va]) (Post P X s d) E s:=by
 cases a with
 | bytes b =>
  obtain ⟨hz,h⟩:=zat h
  cases h
  obtain ⟨_,t,rfl⟩:=ra;exact len_bytes (by rw [zam]; omega) ⟨.toks,s.toks+1,by rw [zam]⟩
 | lst l =>
  obtain ⟨hz,h⟩:=zat h
  cases h
  obtain ⟨x,vs,rfl,_,hl,rl⟩:=ra;have:=rl.length;exact PySem.Calls.call_len_list hl (by simp; omega) ⟨.toks,s.toks+1,by simp [this]⟩
 | _=>cases h
theorem za0 (slice:aL) (o i:aD):∃ ops,subscripted slice false o i = operate ops (getItem o i):=by
 cases slice with
 | Slice lo hi st p=>cases st <;> exact ⟨_,rfl⟩
 | _=>exact ⟨_,rfl⟩
noncomputable def vat (i:Int) (n:Nat):Option Nat:=if 0 <= i then (if i < n then some i.toNat else none) else if -(n:Int) <= i then some (i+n).toNat else none
theorem zmr {i:Int} {n k:Nat} (h:vat i n = some k):(0 <= i/\i < n/\k = i.toNat) \/ (i < 0/\-(n:Int) <= i/\k = (i+n).toNat):=by
 unfold vat at h
 by_cases h0:0 <= i
 ·rw [if_pos h0] at h
  by_cases h1:i < n
  ·rw [if_pos h1] at h; cases h; exact .inl ⟨h0,h1,rfl⟩
  ·rw [if_neg h1] at h; cases h
 ·rw [if_neg h0] at h
  by_cases h1:-(n:Int) <= i
  ·rw [if_pos h1] at h; cases h; exact .inr ⟨by omega,h1,rfl⟩
  ·rw [if_neg h1] at h; cases h
noncomputable def ifo? {α:Type} (p:Prop) [Decidable p] (o:Option α):Option α:=if p then o else none
theorem zf1 {α:Type} {p:Prop} [Decidable p] {o:Option α} {e:α} (h:ifo? p o = some e):p/\o = some e:=by
 unfold ifo? at h
 by_cases q:p
 ·rw [if_pos q] at h; exact ⟨q,h⟩
 ·rw [if_neg q] at h; cases h
noncomputable def vidx (a i:V):Option V:=(kdI i).bind fun i=>match a with
 | .bytes b=>iff? (b.length <= 16777216/\0 <= i/\i < b.length) (.int (b.getD i.toNat 0))
 | .lst l=>ifo? (l.length <= 16777216) ((vat i l.length).bind (l[·]?))
 | .tup l=>ifo? (l.length <= 16777216) ((vat i l.length).bind (l[·]?))
 | _=>none
theorem zu7 {value slice:aL} {a i d:V} {va vi:aD} (ra:Rep X s.heap a va) (ri:Rep X s.heap i vi) (h:vidx a i = some d) :
  wpAny (model prog w) A (subscriptTail value slice va vi) (Post P X s d) E s:=by
 obtain ⟨i,h1,h2⟩:=bind_inv h;clear h
 cases zbz h1
 obtain ⟨u,rfl⟩:=ri;obtain ⟨ops,hops⟩:=za0 slice va (.int i u);induction a using V.casesOn with
 | bytes b =>
  obtain ⟨hz,h⟩:=zat h2;clear h2
  cases h
  obtain ⟨hb,t,rfl⟩:=ra;refine tail_any (cL s _ t) FB.slot_bytes_getitem.lookup (getItem_bytes (l:=b.map cK) (by simp; omega) hz.2.1 (by simpa using hz.2.2) ⟨.toks,s.toks,?_⟩) hops;have hlt:i.toNat < b.length:=by omega
  simp only [bL,cV,aZ hlt,dN,Option.getD_some];have:=hb _ (dP hlt);simp;omega
 | lst l =>
  obtain ⟨hz,h⟩:=zf1 h2;obtain ⟨x,vs,rfl,_,hl,rl⟩:=ra;obtain ⟨k,hk,hd⟩:=bind_inv h;obtain ⟨v,hv,rv⟩:=rl.get hd;have e:=rl.length;clear hd;rcases zmr hk with ⟨h3,h4,rfl⟩ | ⟨h3,h4,rfl⟩
  ·exact tail_any hl.typeIs slot_list_getitem.lookup (wpAny_getItem_list hl h3 (by omega) (by simpa using hv) ⟨.refl _,rv⟩) hops
  ·exact tail_any hl.typeIs slot_list_getitem.lookup (wpAny_getItem_list_neg hl (by omega) (by simp; omega) (by omega) (by simpa [e] using hv) ⟨.refl _,rv⟩) hops
 | tup l =>
  obtain ⟨hz,h⟩:=zf1 h2;obtain ⟨x,vs,rfl,_,hl,rl⟩:=ra;obtain ⟨k,hk,hd⟩:=bind_inv h;obtain ⟨v,hv,rv⟩:=rl.get hd;have e:=rl.length;have hk:=zmr hk;have hs:seqIndex? i vs.length = some k:=by
   unfold seqIndex?;rw [e];clear hd hv;rcases hk with ⟨h3,h4,rfl⟩ | ⟨h3,h4,rfl⟩
   ·have:¬ i < 0:=by omega
    simp [this]; omega
   ·simp [h3]; omega
  exact tail_any hl.typeIs slot_tuple_getitem.lookup (getItem_tuple hl (by omega) (by omega) (by simpa using hs) (by simpa using hv) ⟨.refl _,rv⟩) hops
 | _=>cases h2
end
end
section
open PySem PySem.W PyProof.Rows
section
variable {prog:dC} {w:cF} {A:bA} {E:aD->aC->Prop} {s:aC} {P:aN} {X:aN->Prop}
noncomputable def vcut {α:Type} (lo hi:Option Int) (l:List α):List α :=
 (l.drop (lo.elim 0 (clipAt l.length))).take (hi.elim l.length (clipAt l.length) - lo.elim 0 (clipAt l.length))
theorem RepL.cut {h:cZ} {l:List V} {vs:List aD} (r:RepL X h l vs) (lo hi:Option Int):RepL X h (vcut lo hi l) (vcut lo hi vs):=by
 unfold vcut;rw [r.length];exact (r.drop _).take _
theorem zpw {α:Type} {lo hi:Option Int} {l:List α} {x:α} (h:x ∈ vcut lo hi l):x ∈ l:=eU (cW h)
theorem zir {α:Type} (lo hi:Option Int) (l:List α):(vcut lo hi l).length <= l.length:=by
 unfold vcut;rw [List.length_take,fX];omega
theorem zjr {α β:Type} (f:α->β) (lo hi:Option Int) (l:List α):vcut lo hi (l.map f) = (vcut lo hi l).map f:=by
 unfold vcut;rw [bQ,List.map_take,List.map_drop]
noncomputable def vslice (lo hi:Option Int):V->Option V
 | .bytes b=>iff? (b.length <= 16777216) (.bytes (vcut lo hi b))
 | .lst l=>iff? (l.length <= 16777216) (.lst (vcut lo hi l))
 | _=>none
theorem zpc {value slice:aL} {a d:V} {va vl vu:aD} {sl:aN} {lo hi:Option Int} (hX:XOk X s.heap) (ra:Rep X s.heap a va) (hs:s.heap.IsSliceOf sl vl vu .none)
  (pl:IsPart vl lo) (pu:IsPart vu hi) (h:vslice lo hi a = some d) :
  wpAny (model prog w) A (subscriptTail value slice va (.ref sl)) (Post P X s d) E s:=by
 cases a with
 | bytes b =>
  obtain ⟨hz,h⟩:=zat h
  ·cases h
   obtain ⟨hb,t,rfl⟩:=ra;obtain ⟨ops,hops⟩:=za0 slice (.bytes (toB b) t) (.ref sl);refine tail_any (cL s _ t) FB.slot_bytes_getitem.lookup ?_ hops;refine getItem_meets (cL _ _ _) (by decide) FB.slot_bytes_getitem FB.entry_bytes_getitem (FB.args_bytes_getitem_2 _ _) (KBc.meets_slice2 _ t sl pl pu)
    ⟨hs,cY (KBc.size_picked_le _ lo hi) (by rw [zam,cO]; omega),fun t' k=>⟨.toks,fun x hx=>hb x (zpw hx),t',?_⟩⟩
   rw [KBc.picked_eq]
   congr 1
   show _ = ((vcut lo hi b).map cK).toArray;rw [<- zjr];simp [vcut,toB]
 | lst l =>
  obtain ⟨hz,h⟩:=zat h
  ·cases h
   obtain ⟨x,vs,rfl,_,hl,rl⟩:=ra;obtain ⟨ops,hops⟩:=za0 slice (.ref x) (.ref sl);have e:=rl.length;refine tail_any hl.typeIs slot_list_getitem.lookup (wpAny_getItem_list_slice hl hs pl pu .none (by simp) ?_ (by rw [cO]; simp; omega)) hops;rw [slicePick_plain];refine ⟨.push',ze0 hX (vs:=vcut lo hi vs) (rl.cut lo hi) rfl rfl ⟨0,?_⟩⟩;simp [vcut]
 | _=>cases h
noncomputable def vmin:V->V->Option V:=two kdI fun a b=>some (.int (if b < a then b else a))
theorem zt4 {a b d:V} {va vb:aD} (hh:A.handled = none) (ra:Rep X s.heap a va) (rb:Rep X s.heap b vb) (h:vmin a b = some d) :
  wpAny (model prog w) A (call (.builtin "min") [va,vb]) (Post P X s d) E s:=by
 refine za1 (C:=fun va vb d=>wpAny (model prog w) A (call (.builtin "min") [va,vb]) (Post P X s d) E s) ra rb h fun x y t u h3=>?_;exact bN h3 ▸ min_two_ints hh fun h' tk hk=>by split <;> exact ⟨.keep hk,_,rfl⟩
noncomputable def vmax:V->V->Option V:=two kdI fun a b=>some (.int (if b > a then b else a))
theorem ztt {a b d:V} {va vb:aD} (hh:A.handled = none) (ra:Rep X s.heap a va) (rb:Rep X s.heap b vb) (h:vmax a b = some d) :
  wpAny (model prog w) A (call (.builtin "max") [va,vb]) (Post P X s d) E s:=by
 refine za1 (C:=fun va vb d=>wpAny (model prog w) A (call (.builtin "max") [va,vb]) (Post P X s d) E s) ra rb h fun x y t u h3=>?_;exact bN h3 ▸ max_two_ints hh fun h' tk hk=>by split <;> exact ⟨.keep hk,_,rfl⟩
noncomputable def vdivmod:V->V->Option V:=two kdI fun a b=>iff? (0 < b/\b <= 1000000000) (.tup [.int (a.fdiv b),.int (a.fmod b)])
theorem znc {a b d:V} {va vb:aD} (hX:XOk X s.heap) (ra:Rep X s.heap a va) (rb:Rep X s.heap b vb) (h:vdivmod a b = some d) :
  wpAny (model prog w) A (call (.builtin "divmod") [va,vb]) (Post P X s d) E s:=by
 refine za1 (C:=fun va vb d=>wpAny (model prog w) A (call (.builtin "divmod") [va,vb]) (Post P X s d) E s) ra rb h fun x y t u h3=>?_;obtain ⟨hs,h4⟩:=zat h3;rw [<- h4];refine divmod_int (by omega) ?_ (.inl (PyProof.noPylong_small (by omega)));exact ⟨.push,zmd hX (vs:=[_,_]) ⟨_,_,rfl,⟨_,rfl⟩,_,_,rfl,⟨_,rfl⟩,rfl⟩ rfl rfl ⟨_,rfl⟩⟩
noncomputable def vislist:V->Option Bool
 | .lst O=>some true
 | .tup O=>some false
 | _=>none
theorem zmq {a:V} {r:Bool} {va:aD} (ra:Rep X s.heap a va) (h:vislist a = some r) :
  wpAny (model prog w) A (call (.builtin "isinstance") [va,.type "list"]) (Post P X s (.bool r)) E s:=by
 cases a with
 | lst l =>
  cases h
  obtain ⟨x,vs,rfl,_,hl,rl⟩:=ra;exact IsiPair.isList_list hl (fun O O e=>e) ⟨.refl _,rfl⟩
 | tup l =>
  cases h
  obtain ⟨x,vs,rfl,_,hl,rl⟩:=ra;obtain ⟨o,ho,hc,_⟩:=hl;exact IsiPair.tuple_list ho hc ⟨.toks,rfl⟩
 | _=>cases h
noncomputable def visbytes:V->Option Bool
 | .bytes O=>some true
 | _=>none
theorem zlf {a:V} {r:Bool} {va:aD} (ra:Rep X s.heap a va) (h:visbytes a = some r) :
  wpAny (model prog w) A (call (.builtin "isinstance") [va,.type "bytes"]) (Post P X s (.bool r)) E s:=by
 cases a with
 | bytes b =>
  cases h
  obtain ⟨_,t,rfl⟩:=ra;exact call_isinstance_yes (cL s _ _) (by kernel_rfl) (by rw [isSubtype_type]; kernel_rfl) ⟨.refl _,rfl⟩
 | _=>cases h
noncomputable def octs:List V->Option (List Nat)
 | []=>some []
 | .int i :: r=>ifo? (0 <= i/\i < 256) ((octs r).map (i.toNat :: ·))
 | O :: O1=>none
theorem oc_i {i:Int} {r:List V}:octs (.int i :: r) = ifo? (0 <= i/\i < 256) ((octs r).map (i.toNat :: ·)):=rfl
theorem oc_n:octs [] = some []:=rfl
theorem zmu {d:V} {r:List V} {b:List Nat} (e:octs (d :: r) = some b):Ex2 fun i b'=>And4 (d = .int i) (0 <= i/\i < 256) (octs r = some b') (i.toNat :: b' = b):=by
 cases d with
 | int i =>
  obtain ⟨hi,e⟩:=zf1 (show ifo? (0 <= i/\i < 256) ((octs r).map (i.toNat :: ·)) = some b from e);obtain ⟨b',h1,h2⟩:=aW.mp e;exact ⟨i,b',rfl,hi,h1,h2⟩
 | _=>exact zes e
theorem zhj {h:cZ}:∀ {l:List V} {vs:List aD} {b:List Nat},RepL X h l vs->octs l = some b->∃ ns:List Int,And4 (IntsAre vs ns) ((∀ n ∈ ns,0 <= n/\n < 256)) (byteArr ns = toB b) (∀ x ∈ b,x < 256)
 | [],O,O1,rl=>by intro e; cases rl; cases e; exact ⟨[],.nil,fun O q=>(nomatch q),rfl,fun O q=>(nomatch q)⟩
 | d :: r,O,b,⟨v,vs,e1,rv,rl⟩=>by
  intro e;obtain ⟨i,b',hd,hi,hb,e⟩:=zmu e;rw [hd] at rv;obtain ⟨t,e2⟩:=rv;rw [e1,e2,<- e];obtain ⟨ns,h1,h2,h3,h4⟩:=zhj rl hb;refine ⟨i :: ns,.cons _ _ h1,fun n hn=>(aO.mp hn).elim (fun q=>q ▸ hi) (h2 n),?_,fun x hx=>(aO.mp hx).elim (fun q=>by rw [q]; omega) (h4 x)⟩;have h5:ns.map (fun n=>n.toNat.toUInt8) = b'.map cK:=by
   have:=congrArg Array.toList h3
   simpa [byteArr,toB] using this
  simp only [byteArr,toB,aS,h5]
noncomputable def vbytes:V->Option V
 | .lst l=>ifo? (l.length <= 16777216) ((octs l).map .bytes)
 | _=>none
theorem zn8 {a d:V} {va:aD} (hh:A.handled = none) (ra:Rep X s.heap a va) (h:vbytes a = some d) :
  wpAny (model prog w) A (call (.type "bytes") [va]) (Post P X s d) E s:=by
 cases a with
 | lst l =>
  obtain ⟨hz,h⟩:=zf1 h
  ·obtain ⟨b,hb,rfl⟩:=aW.mp h;obtain ⟨x,vs,rfl,_,hl,rl⟩:=ra;obtain ⟨ns,h1,h2,h3,h4⟩:=zhj rl hb;have e:=rl.length;exact call_bytes_ints hl h1 h2 (by rw [cO]; omega) hh fun h' t k hk=>⟨.keep hk,h4,t,by rw [h3]⟩
 | _=>cases h
noncomputable def vlist:V->Option V
 | .lst l=>iff? (l.length <= 16777216) (.lst l)
 | _=>none
theorem zq0 {a d:V} {va:aD} (hX:XOk X s.heap) (ra:Rep X s.heap a va) (h:vlist a = some d) :
  wpAny (model prog w) A (call (.type "list") [va]) (Post P X s d) E s:=by
 cases a with
 | lst l =>
  obtain ⟨hz,h⟩:=zat h
  ·cases h
   obtain ⟨x,vs,rfl,_,hl,rl⟩:=ra;obtain ⟨o,ho,hc,n,hd⟩:=id hl;have e:=rl.length;refine call_list_seq x (.inl rfl) ho hc hd (fun h' c' hk hs=>⟨.keep (k:=s.toks) hk,_,vs,rfl,fun z=>absurd (hX.lt z) (dG _),⟨_,hs,rfl,_,rfl⟩,rl.mono (fun O q=>q) fun b o O e=>hk b o e⟩) (by rw [cO]; simp; omega)
 | _=>cases h
noncomputable def vints (a b:Int):List V:=(eB (b - a).toNat).map fun i:Nat=>.int (a+(i:Int))
noncomputable def vrange:V->V->Option V:=two kdI fun a b=>iff? (small a = true/\small b = true/\b - a <= 16777216) (.lst (vints a b))
theorem zps {a b:Int} (h:small a = true/\small b = true/\b - a <= 16777216):vrange (.int a) (.int b) = some (.lst (vints a b)):=zas h
theorem RepL.of_get {h:cZ}:∀ {l:List V} {vs:List aD},vs.length = l.length->(∀ (i:Nat) (d:V) (v:aD),l[i]? = some d->vs[i]? = some v->Rep X h d v)->RepL X h l vs
 | [],[]=>fun O O=>rfl
 | [],O :: O1=>by intro e _; cases e
 | O :: O1,[]=>by intro e _; cases e
 | d :: l,v :: vs=>fun e h=>⟨v,vs,rfl,h 0 d v rfl rfl,RepL.of_get (by simpa using e) fun i d' v' h1 h2=>h (i+1) d' v' (by simpa using h1) (by simpa using h2)⟩
theorem zp6 {a b d:V} {va vb:aD} {Q:aD->aC->Prop} (hh:A.handled = none) (hX:XOk X s.heap) (ra:Rep X s.heap a va) (rb:Rep X s.heap b vb) (h:vrange a b = some d)
  (hQ:∀ r s',Gr P s s'->(∀ A':bA,A'.handled = none->wpAny (model prog w) A' (call (.type "list") [r]) (Post P X s d) E s')->Q r s') :
  wpAny (model prog w) A (call (.type "range") [va,vb]) Q E s:=by
 obtain ⟨a,b,h1,h2,h3⟩:=zb7 h;obtain ⟨hs,h4⟩:=zat h3;clear h h3
 cases zbz h1; cases zbz h2; cases h4
 ·simp only [small,bB,decide_eq_true_eq] at hs;obtain ⟨t,rfl⟩:=ra;obtain ⟨u,rfl⟩:=rb;refine call_range_2 (hQ _ _ .push fun A' hh'=>?_);have hn:gJ a b 1 = ((b - a).toNat:Nat):=by rw [rangeSize_one]; split <;> omega
  have hsm:Builtin.Range.small a b 1 = true:=small_one (by omega) (by omega) (by omega) (by omega);refine call_list_range (s:={ s with heap:=_,toks:=_ }) hh' (IsRange.new _ a b 1 t u _) hsm hn (by omega) fun h' tk acc' c' hk hnew hit=>?_;have hk':∀ b o,s.heap.get? b = some o->h'.get? b = some o:=fun b o e=>hk b o (bG _ e);refine ⟨.keep hk',_,acc'.toList,rfl,fun z=>?_,⟨_,hnew,rfl,c',by simp⟩,.of_get ?_ ?_⟩
  ·have h1:_ < s.heap.objs.size:=hX.lt z;have h2:(s.heap.push { cls:=.type "range",data:=.fields #[.int a t,.int b u,.int 1 s.toks] }).objs.size = s.heap.objs.size+1:=Heap.size_push ..;exact dG _ (Nat.lt_of_succ_lt (h2 ▸ h1))
  ·have:=hit.1;simp [vints,this]
  ·intro i d v h1 h2;obtain ⟨t',e⟩:=hit.2 i v (by simpa using h2);subst e;have hlt:i < (vints a b).length:=by
    by_cases q:i < (vints a b).length
    ·exact q
    ·rw [dF (by omega)] at h1; cases h1
   rw [aZ hlt] at h1;simp only [vints,List.getElem_map,List.getElem_range,fQ] at h1;subst h1;exact ⟨t',by simp⟩
end
end
section
open PySem PySem.W PyProof.Rows
namespace F
theorem slot_bytes_join:Slot "bytes" "join" "bytes.join" :=
 .of (owner := "bytes") (n := "join") (by rw [typeLookup_type,fM]; kernel_rfl) (by decide +kernel) (by decide +kernel) (by decide +kernel)
  (by first | exact .inl (by decide +kernel) | exact .inr (by decide +kernel)) (by rw [isSubtype_type]; kernel_rfl)
theorem type_bytes_join:typeOf (.builtin "bytes.join") = pure (.type "method_descriptor"):=by show builtinType _ = _; rw [builtinType_eq_fast]; kernel_rfl
theorem entry_bytes_join:entryFor table "bytes.join" = some Builtin.«bytes.join»:=entryFor_of_tree (by kernel_rfl)
theorem args_bytes_join_2 (a b:aD):argsOk "bytes.join" ⟨[a,b],[]⟩:=by
 unfold argsOk; rw [signature?_of (id := "bytes.join") (n:=['n','i','o','j']) (o:=['s','e','t','y','b']) (by kernel_rfl) FB.owner_bytes]; kernel_rfl
theorem slot_bytes_split:Slot "bytes" "split" "bytes.split" :=
 .of (owner := "bytes") (n := "split") (by rw [typeLookup_type,fM]; kernel_rfl) (by decide +kernel) (by decide +kernel) (by decide +kernel)
  (by first | exact .inl (by decide +kernel) | exact .inr (by decide +kernel)) (by rw [isSubtype_type]; kernel_rfl)
theorem type_bytes_split:typeOf (.builtin "bytes.split") = pure (.type "method_descriptor"):=by show builtinType _ = _; rw [builtinType_eq_fast]; kernel_rfl
theorem entry_bytes_split:entryFor table "bytes.split" = some Builtin.«bytes.split»:=entryFor_of_tree (by kernel_rfl)
theorem args_bytes_split_2 (a b:aD):argsOk "bytes.split" ⟨[a,b],[]⟩:=by
 unfold argsOk; rw [signature?_of (id := "bytes.split") (n:=['t','i','l','p','s']) (o:=['s','e','t','y','b']) (by kernel_rfl) FB.owner_bytes]; kernel_rfl
end F
theorem zuj {id:String} {b:Array UInt8} {t:Tok} {full:Bool}:Builtin.Bytes.buffer? id (.bytes b t) full = pure (some b):=by
 unfold Builtin.Bytes.buffer?;rw [KBy.special_eq KBy.look_buffer,KBy.own_buffer,KBy.own_release]
 kernel_rfl
theorem zsi {id:String} {b:Array UInt8} {t:Tok} {fl:Int}:Builtin.Bytes.takeBuffer? id (.bytes b t) fl = pure (some (b,none)):=by
 unfold Builtin.Bytes.takeBuffer?;rw [KBy.special_eq KBy.look_buffer,KBy.own_buffer];refine Eq.trans (b:=(Builtin.Bytes.buffer? id (.bytes b t) (fl == Builtin.Bytes.fullReadOnly) >>= fun r=>pure (r.map (·,none)))) (by kernel_rfl) ?_;rw [zuj];rfl
theorem zp0 {M:Model} {A:bA} {E:aD->aC->Prop} {s:aC} {id:String} {b:Array UInt8} {t:Tok} {fl:Int} {Q:Option (Array UInt8 × Option aD)->aC->Prop} (h:Q (some (b,none)) s) :
  wpAny M A (fB id (.bytes b t) fl) Q E s:=by
 unfold fB;exact aF (wpAny_attempt (dM zsi (aV h)))
noncomputable def BsAre:List aD->List (Array UInt8)->Prop
 | [],bs=>bs = []
 | v :: vs,bs=>Ex3 fun b r t=>And3 (bs = b :: r) (v = .bytes b t) (BsAre vs r)
theorem zb8 {M:Model} {A:bA} {E:aD->aC->Prop} {keep:List aD}:∀ (l:List (aD × Option aD)) (s:aC) (Q:Unit->aC->Prop),(∀ x ∈ l,x.2 = none)->Q () s ->
  wpAny M A (Builtin.Bytes.joinLetGo l keep) Q E s
 | []=>by intro s Q _ h; exact aV h
 | (x,w) :: r=>by
  intro s Q hn h;obtain rfl:w = none:=hn (x,w) (by simp);show wpAny _ _ (letGo _ _ >>= fun O=>_) _ _ _;exact aF (wpAny_letGo (zb8 r s Q (fun y hy=>hn y (bU _ hy)) h))
theorem BsAre.len:∀ {vs:List aD} {bs:List (Array UInt8)},BsAre vs bs->vs.length = bs.length
 | [],O,h=>by cases h; rfl
 | O :: O1,O2,⟨b,r,t,e,O3,h⟩=>by cases e; simp only [aI,BsAre.len h]
theorem BsAre.get:∀ {vs:List aD} {bs:List (Array UInt8)} {i:Nat},BsAre vs bs->i < vs.length->Ey2 (fun b t=>vs[i]? = some (.bytes b t)) (fun b t=>bs[i]? = some b)
 | [],O,O1,O2=>by intro hi; simp at hi
 | O :: O1,O2,0,⟨b,r,t,e,e2,h⟩=>by intro _; cases e; cases e2; exact ⟨b,t,rfl,rfl⟩
 | O :: O1,O2,i+1,⟨b,r,t,e,e2,h⟩=>by
  intro hi
  cases e
  obtain ⟨b',t',h1,h2⟩:=BsAre.get (i:=i) h (by simpa using hi);exact ⟨b',t',by simpa using h1,by simpa using h2⟩
theorem BsAre.one {bs:List (Array UInt8)} {x:aD} (h:BsAre [x] bs):Ey2 (fun b t=>x = .bytes b t) (fun b t=>bs = [b]):=by
 obtain ⟨b,r,t,e,e2,h⟩:=h
 cases e; cases e2; cases h; exact ⟨b,t,rfl,rfl⟩
theorem zby {M:Model} {A:bA} {E:aD->aC->Prop} {s:aC} {a:aN} {xs:Array aD} {Q:Option (Array aD)->aC->Prop} (hl:s.heap.IsList a xs) (h:Q (some xs) s):wpAny M A (seqItems? (.ref a)) Q E s:=by
 obtain ⟨o,ho,hc,n,hd⟩:=hl;exact wpAny_seqItems ho hd h
theorem zhb (sep:Array UInt8) (parts:List (Array UInt8)):eV sep parts = parts.zipIdx.foldl (fun out x=>(if x.2 > 0 then out++sep else out)++x.1) #[]:=rfl
theorem zkt (sep b:Array UInt8):eV sep [b] = b:=by
 rw [zhb];simp
theorem zs5 {α:Type} {prog:dC} {w:cF} {A:bA} {Q:α->aC->Prop} {E:aD->aC->Prop} {s:aC} {l:List aD} {A1:aD->Sem α} {B1:Array aD->Sem α}
  (h1:∀ x,l = [x]->wpAny (model prog w) A (A1 x) Q E s) (h2:wpAny (model prog w) A (B1 l.toArray) Q E s):wpAny (model prog w) A (match l.toArray with | #[x]=>A1 x | y=>B1 y) Q E s:=by
 rcases l with _ | ⟨x,_ | ⟨y,r⟩⟩
 ·exact h2
 ·exact h1 x rfl
 ·exact h2
theorem wif {α:Type} {M:Model} {A:bA} {E:aD->aC->Prop} {s:aC} {Q:α->aC->Prop} {c:Prop} [Decidable c] {a b:Sem α} (hc:c) (h:wpAny M A a Q E s):wpAny M A (if c then a else b) Q E s:=by rw [if_pos hc]; exact h
theorem wifn {α:Type} {M:Model} {A:bA} {E:aD->aC->Prop} {s:aC} {Q:α->aC->Prop} {c:Prop} [Decidable c] {a b:Sem α} (hc:¬ c) (h:wpAny M A b Q E s):wpAny M A (if c then a else b) Q E s:=by rw [if_neg hc]; exact h
theorem zo2 {M:Model} {A:bA} {E:aD->aC->Prop} {s:aC} {id:String} {v:aD} {b:Array UInt8} {fl:Int} {Q:Option (Array UInt8 × Option aD)->aC->Prop} (hv:∃ t,v = .bytes b t) (h:Q (some (b,none)) s) :
  wpAny M A (fB id v fl) Q E s:=by
 obtain ⟨t,e⟩:=hv;rw [e];exact zp0 h
noncomputable def JInv (vs:List aD) (bs:List (Array UInt8)) (s:aC) (rest:List Nat) (st:Array (Array UInt8) × List (aD × Option aD)) (s':aC):Prop :=
 s' = s/\∃ i,And4 (rest = List.range' i (vs.length - i)) (i <= vs.length) (st.1 = (bs.take i).toArray) ((∀ x ∈ st.2,x.2 = none/\x.1.onHeap = false))
theorem zlp {n j i:Nat} {rest:List Nat} (h:i :: rest = List.range' j (n - j)):And3 (j = i) (i < n) (rest = List.range' (i+1) (n - (i+1))):=by
 have hj:j < n:=(Nat.lt_or_ge j n).elim id fun q=>by rw [Nat.sub_eq_zero_of_le q] at h; cases h
 obtain ⟨m,rfl⟩:=Nat.exists_eq_add_of_lt hj;rw [show j+m+1 - j = m+1 by omega,List.range'_succ] at h;obtain ⟨e1,e2⟩:=bJ h;subst e1;exact ⟨rfl,hj,e2.trans (by rw [show i+m+1 - (i+1) = m by omega])⟩
theorem JInv.step {vs:List aD} {bs:List (Array UInt8)} {s s':aC} {i:Nat} {rest:List Nat} {st:Array (Array UInt8) × List (aD × Option aD)} (hb:BsAre vs bs) (h:JInv vs bs s (i :: rest) st s') :
  s' = s/\(∃ t,vs.toArray.getD i .none = .bytes (bs.getD i #[]) t)/\(st.2.any fun x=>x.1.onHeap) = false/\∀ v,v = vs.toArray.getD i .none->JInv vs bs s rest (st.1.push (bs.getD i #[]),st.2++[(v,none)]) s':=by
 refine byC fun hG=>?_;obtain ⟨e,j,h1,h2,h3,h4⟩:=h;obtain ⟨q1,q2,q3⟩:=zlp h1;clear h1;subst q1;obtain ⟨b',t',e1,e2⟩:=hb.get q2;have e3:vs.toArray.getD j .none = .bytes b' t':=by simp [Array.getD_eq_getD_getElem?,e1]
 have e4:bs.getD j #[] = b':=by rw [bL,e2]; rfl
 refine hG ?_;clear hG;refine ⟨e,⟨t',by rw [e3,e4]⟩,List.any_eq_false.mpr fun x hx=>by rw [(h4 x hx).2]; exact aJ,fun v hv=>⟨e,j+1,q3,q2,?_,fun x hx=>?_⟩⟩
 ·rw [e4,h3,List.take_add_one,e2]; simp
 ·rcases aU.mp hx with hx | hx
  ·exact h4 x hx
  ·obtain rfl:=bR.mp hx;rw [hv,e3];exact ⟨rfl,rfl⟩
theorem JInv.done {vs:List aD} {bs:List (Array UInt8)} {s s':aC} {st:Array (Array UInt8) × List (aD × Option aD)} (hb:BsAre vs bs) (h:JInv vs bs s [] st s'):s' = s/\st.1 = bs.toArray/\∀ x ∈ st.2,x.2 = none:=by
 obtain ⟨e,j,h1,h2,h3,h4⟩:=h;have h5:=congrArg cS h1;rw [List.length_range'] at h5;exact ⟨e,by rw [h3,eH]; rw [<- hb.len]; exact Nat.le_of_sub_eq_zero h5.symm,fun x hx=>(h4 x hx).1⟩
theorem zln (b:Array UInt8) (t:Tok) (a:aN):Meets (Builtin.«bytes.join» ⟨[.bytes b t,.ref a],[]⟩) (fun O R s =>
  Ex2 fun vs bs=>And5 (s.heap.IsList a (aQ vs)) (BsAre vs bs) (bs.foldl (·+·.size) (b.size * (bs.length - 1)) <= 16777216) ((eV b bs).size <= 16777216) (∀ t' k,R (.ok (.ret (.bytes (eV b bs) t'))) { s with toks:=k })) :=
 .of_wp fun prog w A R s h=>by
  obtain ⟨vs,bs,hl,hb,hz,hz',hR⟩:=h;refine aF (dM (a:=(Value.bytes b t,Value.ref a)) rfl ?_);refine aF (aF (wpAny_typeOf hl.typeIs ?_));refine wif (by decide) (aV ?_);refine aF (zby hl ?_);refine wif rfl ?_;refine zs5 (fun x hv=>?_) ?_
  ·clear hl;subst hv;clear hz hz';obtain ⟨b',t',rfl,rfl⟩:=hb.one;refine aF (wpAny_typeOf (cL s b' t') ?_);refine wif rfl (aF (wpAny_rule (aF (aV ?_))));exact aV ⟨_,rfl,zkt b b' ▸ hR t' s.toks⟩
  refine aF ?_;rw [Std.Legacy.Range.forIn_eq_forIn_range'];refine wpAny_forIn_list _ (JInv vs bs s) _ (fun i rest st s' h=>?_) (fun st s' h=>?_) _ _ ⟨rfl,0,?_,Nat.zero_le _,by simp,fun O q=>nomatch q⟩
  ·have k:=h.step hb;clear h;have hl':s'.heap.IsList a vs.toArray:=k.1 ▸ hl;refine aF (zby hl' ?_);refine wifn (c:=_ = true) (fun q=>absurd (k.2.2.1.symm.trans q) aJ) ?_;refine aF (dH (zo2 k.2.1 ?_));refine aF (zby hl' ?_);refine wifn (by simp) ?_;exact aV (k.2.2.2 _ rfl)
  ·have k:=h.done hb;clear h;refine aF (dM (a:=b) rfl ?_);refine wifn (by rw [k.2.1,KBy.tooLong_not (by simpa using hz)]; exact aJ) ?_;refine aF (wpAny_mkBytes ?_ (by rw [k.2.1,cO]; exact hz'));refine aF (dH (wpAny_point ?_));refine aF (zb8 _ _ _ k.2.2 (aV ⟨_,rfl,?_⟩));rw [k.1,k.2.1];exact hR _ _
  ·simp [Std.Legacy.Range.size]
theorem znh (sep:Array UInt8):∀ (bs:List (Array UInt8)) (acc:Array UInt8) (k:Nat),0 < k ->
  (bs.zipIdx k).foldl (fun out (p,i)=>(if i > 0 then out++sep else out)++p) acc = acc++(bs.flatMap fun p=>(sep++p).toList).toArray
 | []=>by intro acc k _; simp
 | p :: r=>by
  intro acc k hk;rw [List.zipIdx_cons,fH];dsimp only;rw [if_pos hk,znh sep r _ (k+1) (by omega)];apply Array.ext';simp
noncomputable def joinL (sep:List Nat):List (List Nat)->List Nat
 | []=>[]
 | p :: r=>p++r.flatMap fun q=>sep++q
theorem zjn (sep:List Nat) (ps:List (List Nat)):eV (toB sep) (ps.map toB) = toB (joinL sep ps):=by
 cases ps with
 | nil=>rfl
 | cons p r =>
  rw [zhb,aS,List.zipIdx_cons,fH];dsimp only;rw [if_neg (by omega),znh _ _ _ _ (by omega)];apply Array.ext';simp [toB,joinL,List.flatMap_map,List.map_flatMap]
theorem zjz (sep:List Nat):∀ (ps:List (List Nat)) (n:Nat),(ps.map toB).foldl (·+·.size) n = n+(ps.map cS).sum
 | []=>by intro n; simp
 | p :: r=>by
  intro n;rw [aS,fH,zjz sep r,zam];simp;omega
theorem zbh (sep:List Nat) (ps:List (List Nat)):(joinL sep ps).length = sep.length * (ps.length - 1)+(ps.map cS).sum:=by
 cases ps with
 | nil=>simp [joinL]
 | cons p r =>
  simp only [joinL,aK,List.length_flatMap,aS,fL,aI,Nat.add_sub_cancel];have:∀ r:List (List Nat),(r.map fun q=>sep.length+q.length).sum = sep.length * r.length+(r.map cS).sum:=by
   intro r;induction r with
   | nil=>simp
   | cons q r ih=>simp only [aS,fL,aI,ih,Nat.mul_add]; omega
  have:=this r;omega
noncomputable def bts:List V->Option (List (List Nat))
 | []=>some []
 | .bytes b :: r=>(bts r).map (b :: ·)
 | O :: O1=>none
theorem bt_b {b:List Nat} {r:List V}:bts (.bytes b :: r) = (bts r).map (b :: ·):=rfl
theorem zf7 {d:V} {r:List V} {ps:List (List Nat)} (e:bts (d :: r) = some ps):Ex2 fun b ps'=>And3 (d = .bytes b) (bts r = some ps') (b :: ps' = ps):=by
 cases d with
 | bytes b =>
  obtain ⟨ps',h1,h2⟩:=aW.mp (show (bts r).map (b :: ·) = some ps from e);exact ⟨b,ps',rfl,h1,h2⟩
 | _=>exact zes e
theorem znt {X:aN->Prop} {h:cZ}:∀ {l:List V} {vs:List aD} {ps:List (List Nat)},RepL X h l vs->bts l = some ps->BsAre vs (ps.map toB)/\∀ p ∈ ps,∀ x ∈ p,x < 256
 | [],O,O1,rl=>by intro e; cases rl; cases e; exact ⟨rfl,fun O q=>nomatch q⟩
 | d :: r,O,O1,⟨v,vs,e1,rv,rl⟩=>by
  intro e;obtain ⟨b,ps,hd,hp,e⟩:=zf7 e;rw [hd] at rv;obtain ⟨hb,t,e2⟩:=rv;obtain ⟨h1,h2⟩:=znt rl hp;rw [e1,<- e];exact ⟨⟨toB b,_,t,rfl,e2,h1⟩,fun p hp=>(aO.mp hp).elim (fun q=>q ▸ hb) (h2 p)⟩
noncomputable def vjoin (sep:List Nat):V->Option V
 | .lst l=>match bts l with
  | some ps=>if (joinL sep ps).length <= 16777216 then some (.bytes (joinL sep ps)) else none
  | none=>none
 | _=>none
section
variable {prog:dC} {w:cF} {A:bA} {E:aD->aC->Prop} {s:aC} {P:aN} {X:aN->Prop}
set_option tactic.hygienic true in
theorem zq5 {sep:List Nat} {a d:V} {va vs:aD} (hs:∀ x ∈ sep,x < 256) (ra:Rep X s.heap a va) {t:Tok} (h:vjoin sep a = some d) (hv:vs = .bytes (toB sep) t) :
  wpAny (model prog w) A (call (.builtin "bytes.join") [vs,va]) (Post P X s d) E s:=by
 subst hv;unfold vjoin at h
 split at h
 ·split at h
  ·split at h
   ·cases h
    rename_i ps hps hz;obtain ⟨x,vs,rfl,_,hl,rl⟩:=ra;obtain ⟨h1,h2⟩:=znt rl hps;have hz2:=hz;rw [zbh] at hz2;refine call_meets F.slot_bytes_join (cL _ _ _) F.entry_bytes_join (F.args_bytes_join_2 _ _) (zln _ _ _)
     ⟨vs,ps.map toB,hl,h1,by rw [zjz sep,zam,bQ]; exact hz2,by rw [zjn,zam]; exact hz,fun t' k=>⟨.toks,?_,t',by rw [zjn]⟩⟩
    intro y hy;clear h1
    cases ps with
    | nil=>simp [joinL] at hy
    | cons p r =>
     simp only [joinL,aU,fY] at hy;rcases hy with hy | ⟨q,hq,hy | hy⟩
     ·exact h2 p (by simp) y hy
     ·exact hs y hy
     ·exact h2 q (by simp [hq]) y hy
   ·cases h
  ·cases h
 ·cases h
end
end
section
open PySem PySem.W PyProof.Rows
section
variable {α:Type} [DecidableEq α]
noncomputable def splitL (c:α):List α->List (List α)
 | []=>[[]]
 | x :: r=>if x = c then [] :: splitL c r else match splitL c r with
  | p :: ps=>(x :: p) :: ps
  | []=>[[x]]
theorem sp_n {c:α}:splitL c [] = [[]]:=rfl
theorem sp_c {c x:α} {r:List α}:splitL c (x :: r) = if x = c then [] :: splitL c r else match splitL c r with
  | p :: ps=>(x :: p) :: ps
  | []=>[[x]]:=rfl
theorem zcb (c:α):∀ l:List α,splitL c l ≠ []
 | []=>by simp [sp_n]
 | x :: r=>by
  rw [sp_c]
  split
  ·simp
  ·split <;> simp
noncomputable def occ (c:α):List α->Nat->List Nat
 | [],O=>[]
 | x :: r,k=>if x = c then k :: occ c r (k+1) else occ c r (k+1)
theorem ok_n {c:α} {k:Nat}:occ c [] k = []:=rfl
theorem ok_c {c x:α} {r:List α} {k:Nat}:occ c (x :: r) k = if x = c then k :: occ c r (k+1) else occ c r (k+1):=rfl
noncomputable def glue (p:List α):List (List α)->List (List α)
 | q :: qs=>(p++q) :: qs
 | []=>[p]
end
theorem zgw (l:List UInt8) (i j:Nat):l.toArray.extract i j = ((l.drop i).take (j - i)).toArray:=by
 simp [List.extract_eq_take_drop]
theorem zm0 (c:UInt8) (l:List UInt8):∀ (n k m:Nat) (acc:List Nat),k+n = l.length->m <= k ->
  (((List.range' k n).foldl (fun (acc:List Nat × Nat) i=>if (decide (i >= acc.2) && l.toArray.extract i (i+#[c].size) == #[c]) = true then (i :: acc.1,i+#[c].size) else acc) (acc,m)).1).reverse = acc.reverse++occ c (l.drop k) k
 | 0,k,m,acc,hk,O=>by
  rw [fE (by omega)];simp [ok_n]
 | n+1,k,m,acc,hk,hm=>by
  have hlt:k < l.length:=by omega
  rw [List.range'_succ,fH,dA hlt,zgw];have e:(l.drop k).take (k+#[c].size - k) = [l[k]]:=by
   rw [show k+#[c].size - k = 1 by simp,dA hlt];rfl
  rw [e];rw [ok_c]
  by_cases hc:l[k] = c
  ·rw [if_pos (by simp [hc]; omega),if_pos hc,zm0 c l n (k+1) _ _ (by omega) (by simp)];simp
  ·rw [if_neg (by simp [hc]),if_neg hc,zm0 c l n (k+1) _ _ (by omega) (by omega)]
theorem zvm (c:UInt8) (l:List UInt8):gC l.toArray #[c] 0 l.toArray.size = occ c l 0:=by
 unfold gC;have:=zm0 c l l.length 0 0 [] (by omega) (dD _);rw [<- List.range_eq_range'] at this
 simpa using this
theorem zj4 {α:Type} {ps:List (List α)} (h:ps ≠ []):glue [] ps = ps:=by cases ps with | nil=>exact absurd rfl h | cons p r=>rfl
theorem zi3 (c:UInt8) (l:List UInt8):∀ (n k last:Nat) (parts:Array (Array UInt8)),k+n = l.length->last <= k ->
  (let r:=(occ c (l.drop k) k).foldl (fun (x:Array (Array UInt8) × Nat) p=>(x.1.push (l.toArray.extract x.2 p),p+1)) (parts,last)
   (r.1.push (l.toArray.extract r.2 l.length)).toList) = parts.toList++(glue ((l.drop last).take (k - last)) (splitL c (l.drop k))).map aQ
 | 0,k,last,parts,hk,hm=>by
  rw [fE (i:=k) (by omega)];simp only [ok_n,List.foldl_nil,sp_n,glue,bV,aS,eG,Array.toList_push,zgw];rw [show l.length = k by omega]
 | n+1,k,last,parts,hk,hm=>by
  have hlt:k < l.length:=by omega
  rw [dA hlt];rw [ok_c,sp_c];have e1:(l.drop last).take (k+1 - last) = (l.drop last).take (k - last)++[l[k]]:=by
   rw [show k+1 - last = (k - last)+1 by omega,List.take_add_one]
   congr 1
   rw [List.getElem?_drop,show last+(k - last) = k by omega,aZ hlt];rfl
  by_cases hc:l[k] = c
  ·rw [if_pos hc,if_pos hc,fH,zi3 c l n (k+1) (k+1) _ (by omega) (by omega)];rw [Nat.sub_self,dU,zj4 (zcb c _)];simp [zgw,glue]
  ·rw [if_neg hc,if_neg hc,zi3 c l n (k+1) last _ (by omega) (by omega),e1]
   congr 2
   cases h:splitL c (l.drop (k+1)) with
   | nil=>exact absurd h (zcb c _)
   | cons p r=>simp [glue]
theorem zks (c:UInt8) (l:List UInt8):Builtin.Bytes.between l.toArray #[c].size (occ c l 0) = (splitL c l).map aQ:=by
 unfold Builtin.Bytes.between;have:=zi3 c l l.length 0 0 #[] (by omega) (dD _);simp only [List.drop_zero,Nat.sub_self,dU,zj4 (zcb c l)] at this
 simpa using this
set_option tactic.hygienic true in
theorem zkh {c:UInt8}:∀ {l:List UInt8} {k:Nat},occ c l k = []->splitL c l = [l]
 | [],O,O1=>rfl
 | x :: r,k,h=>by
  rw [ok_c] at h;rw [sp_c]
  split at h
  ·cases h
  ·rename_i hc;rw [if_neg hc,zkh h]
theorem znn {c:UInt8}:∀ {l:List UInt8} {k:Nat},(occ c l k).length <= l.length
 | [],O=>by simp [ok_n]
 | x :: r,k=>by
  have:=znn (c:=c) (l:=r) (k:=k+1);rw [ok_c]
  split <;> simp <;> omega
theorem ze3 {c:UInt8}:∀ {l:List UInt8},(splitL c l).length <= l.length+1
 | []=>by simp [sp_n]
 | y :: r=>by
  have:=ze3 (c:=c) (l:=r);rw [sp_c]
  split
  ·simp; omega
  ·cases h:splitL c r with
   | nil=>simp
   | cons q qs=>rw [h] at this; simp at this |-; omega
theorem zbi {c:UInt8}:∀ {l:List UInt8} {p:List UInt8},p ∈ splitL c l->p.length <= l.length
 | [],O,hp=>by
  simp only [sp_n,bR] at hp;subst hp; simp
 | y :: r,p,hp=>by
  rw [sp_c] at hp
  split at hp
  ·rcases aO.mp hp with rfl | hp
   ·simp
   ·have:=zbi hp; simp; omega
  ·cases h:splitL c r with
   | nil=>exact absurd h (zcb c r)
   | cons q qs =>
    rw [h] at hp;rcases aO.mp hp with rfl | hp
    ·have:=zbi (c:=c) (l:=r) (p:=q) (by rw [h]; simp);simp; omega
    ·have:=zbi (c:=c) (l:=r) (p:=p) (by rw [h]; simp [hp]);simp; omega
theorem zfw {c:Nat} (hc:c < 256):∀ {l:List Nat},(∀ x ∈ l,x < 256)->splitL (cK c) (l.map cK) = (splitL c l).map (·.map cK)
 | [],O=>rfl
 | x :: r,h=>by
  rw [aS];rw [sp_c,sp_c];rw [zfw hc fun y hy=>h y (by simp [hy])]
  by_cases e:x = c
  ·rw [if_pos e,if_pos (by rw [e])];rfl
  ·rw [if_neg e,if_neg (by rw [ofNat_inj (h x (by simp)) hc]; exact e)]
   cases splitL c r <;> rfl
theorem zck {c:Nat}:∀ {l:List Nat} {p:List Nat} {x:Nat},p ∈ splitL c l->x ∈ p->x ∈ l
 | [],O,O1,hp,hx=>by
  simp only [sp_n,bR] at hp;subst hp; exact hx
 | y :: r,p,x,hp,hx=>by
  rw [sp_c] at hp
  split at hp
  ·rcases aO.mp hp with rfl | hp
   ·cases hx
   ·exact bU _ (zck hp hx)
  ·cases h:splitL c r with
   | nil=>exact absurd h (zcb c r)
   | cons q qs =>
    rw [h] at hp;rcases aO.mp hp with rfl | hp
    ·clear hp;rcases aO.mp hx with rfl | hx
     ·simp
     ·exact bU _ (zck (c:=c) (by rw [h]; simp) hx)
    ·exact bU _ (zck (c:=c) (by rw [h]; simp [hp]) hx)
noncomputable def vsplit (c:Nat):V->Option V
 | .bytes b=>if b.length <= 1000000 then some (.lst ((splitL c b).map .bytes)) else none
 | _=>none
theorem zcs {M:Model} {A:bA} {E:aD->aC->Prop}:∀ (l:List (Array UInt8)) (s:aC) (Q:List aD->aC->Prop),(∀ b ∈ l,b.size <= 16777216) ->
  (∀ vs k,BsAre vs l->Q vs { s with toks:=k })->wpAny M A (l.mapM Builtin.Bytes.Kind.bytes.new) Q E s
 | [],s,Q,O,h=>by rw [List.mapM_nil]; exact aV (h [] s.toks rfl)
 | b :: r,s,Q,hz,h=>by
  rw [fC];show wpAny _ _ (mkBytes b >>= fun r=>_) _ _ _;refine aF (wpAny_mkBytes ?_ (by rw [cO]; exact hz b (by simp)));refine aF (zcs r _ _ (fun b' hb=>hz b' (by simp [hb])) fun vs k hv=>?_);exact aV (h _ _ ⟨b,r,_,rfl,rfl,hv⟩)
theorem zi4 (b:List UInt8) (c:UInt8) (t u:Tok):Meets (Builtin.«bytes.split» ⟨[.bytes b.toArray t,.bytes #[c] u],[]⟩) (fun O R s =>
  b.length <= 1000000/\∀ vs k,BsAre vs ((splitL c b).map aQ)->vs.length <= 1000001->R (.ok (.ret (.ref s.heap.objs.size))) { s with heap:=s.heap.push { cls:=.type "list",data:=.seq vs.toArray },toks:=k }) :=
 .of_wp fun prog w A R s h=>by
  obtain ⟨hz,hR⟩:=h;refine aF (dM (a:=[some (Value.bytes #[c] u),none]) (by kernel_rfl) ?_);refine aF (aV ?_);refine aF (dM (a:=b.toArray) rfl ?_);refine aF (dM KBd.like_eq ?_);refine wifn aJ ?_;have hp:(if false = true then Builtin.Bytes.occurrencesFromRight b.toArray #[c] (if (-1:Int) < 0 then b.toArray.size+1 else (-1:Int).toNat) else List.take (if (-1:Int) < 0 then b.toArray.size+1 else (-1:Int).toNat) (gC b.toArray #[c] 0 b.toArray.size)) = occ c b 0:=by
   rw [if_neg aJ,if_pos (by decide),zvm,eH];have:=znn (c:=c) (l:=b) (k:=0);simp;omega
  by_cases he:occ c b 0 = []
  ·refine wif (by rw [hp,he]; rfl) (aF (wpAny_rule (aF ?_)));unfold Builtin.Bytes.Kind.same;refine wif (by decide) ?_;refine aF (wpAny_typeOf (cL s _ t) ?_);refine wif (by decide) ?_;refine aV (aF (wpAny_newObj_type (aV ⟨_,rfl,?_⟩) (by show 1 <= sizeLine; rw [cO]; omega)));exact hR [_] s.toks (by rw [zkh he]; exact ⟨_,_,t,rfl,rfl,rfl⟩) (by simp)
  ·refine wifn (by rw [hp]; simpa using he) ?_;rw [hp,zks];refine aF (zcs _ _ _ (fun p hp=>?_) fun vs k hv=>?_)
   ·obtain ⟨q,hq,rfl⟩:=cG.mp hp;have:=zbi hq;simp;omega
   ·have hl:=hv.len;rw [bQ] at hl;have h1:=ze3 (c:=c) (l:=b);exact aF (wpAny_newObj_type (aV ⟨_,rfl,hR vs k hv (by omega)⟩) (by
     show vs.toArray.size <= _;rw [cO]; simp; omega))
section
variable {prog:dC} {w:cF} {A:bA} {E:aD->aC->Prop} {s:aC} {P:aN} {X:aN->Prop}
theorem BsAre.rep {h:cZ}:∀ {vs:List aD} {ps:List (List Nat)},BsAre vs (ps.map toB)->(∀ p ∈ ps,∀ x ∈ p,x < 256)->RepL X h (ps.map .bytes) vs
 | vs,[],hb,O=>by
  cases vs with
  | nil=>rfl
  | cons v vs=>obtain ⟨b,r,t,e,_⟩:=hb; cases e
 | [],O :: O1,hb,O2=>by cases hb
 | v :: vs,p :: ps,⟨b,r,t,e,e2,hb⟩,hm=>by
  cases e
  exact ⟨v,vs,rfl,⟨hm p (by simp),t,e2⟩,BsAre.rep hb fun q hq=>hm q (by simp [hq])⟩
set_option tactic.hygienic true in
theorem zo7 {c:Nat} {a d:V} {va vs:aD} {t:Tok} (hX:XOk X s.heap) (hc:c < 256) (ra:Rep X s.heap a va) (h:vsplit c a = some d) (hv:vs = .bytes #[cK c] t) :
  wpAny (model prog w) A (call (.builtin "bytes.split") [va,vs]) (Post P X s d) E s:=by
 subst hv;unfold vsplit at h
 split at h
 ·split at h
  ·cases h
   rename_i b hz;obtain ⟨hb,u,rfl⟩:=ra;refine call_meets F.slot_bytes_split (cL _ _ _) F.entry_bytes_split (F.args_bytes_split_2 _ _) (zi4 (b.map cK) (cK c) u t)
    ⟨by simpa using hz,fun vs k hv O=>?_⟩
   rw [zfw hc hb,List.map_map] at hv;have hr:∀ h,RepL X h ((splitL c b).map .bytes) vs:=fun h=>BsAre.rep (ps:=splitL c b) hv fun p hp x hx=>hb x (zck hp hx);exact ⟨.push,ze0 hX (hr _) rfl rfl ⟨_,rfl⟩⟩
  ·cases h
 ·cases h
end
end
section
open PySem PySem.W PyProof.Rows
inductive R (α:Type) where
 | ok (a:α) | ex | st
namespace R
variable {α β:Type}
noncomputable def bind (r:R α) (f:α->R β):R β:=match r with | .ok a=>f a | .ex=>.ex | .st=>.st
noncomputable def ofO (o:Option α):R α:=match o with | some a=>.ok a | none=>.st
@[simp] theorem bind_ok (a:α) (f:α->R β):(R.ok a).bind f = f a:=rfl
@[simp] theorem zwb (f:α->R β):(R.ex:R α).bind f = .ex:=rfl
@[simp] theorem zw0 (f:α->R β):(R.st:R α).bind f = .st:=rfl
@[simp] theorem ofO_some (a:α):ofO (some a) = .ok a:=rfl
@[simp] theorem zv6:ofO (none:Option α) = .st:=rfl
end R
inductive B1 where | len | isl | isb | byt | lst
 deriving DecidableEq
inductive B2 where | min | max | dm
 deriving DecidableEq
set_option genCtorIdx false in
mutual
inductive ME where
 | nm (i:Nat) | gl (k:Nat) | cst (d:V)
 | bin (o:Op) (a b:ME) | cmp (o:Cm) (a b:ME) | cmp3 (a b c:ME)
 | isn (a:ME) | isnn (a:ME) | inn (a b:ME) | nin (a b:ME)
 | npx (a:ME) | px (a:ME)
 | bool (conj:Bool) (a:ME) (l:MEs)
 | nt (a:ME) | ife (c a b:ME)
 | idx (a i:ME) | sl2 (a lo hi:ME) | slL (a lo:ME) | slH (a hi:ME)
 | tup (l:MEs) | lsd (l:MEs)
 | call (f:Nat) (l:MEs) | bi1 (b:B1) (a:ME) | bi2 (b:B2) (a c:ME)
 | rng (a b:ME) | join (sep:List Nat) (a:ME) | split (c:Nat) (a:ME) | getd (a:ME) | allE (a:ME)
 | lc (elt:ME) (k:Nat) (iter:ME) (cond:MEs) | lc2 (a:ME)
inductive MEs where
 | nil | cons (e:ME) (l:MEs)
end
noncomputable def vb1:B1->V->Option V
 | .len=>vlen
 | .isl=>fun d=>(vislist d).map .bool
 | .isb=>fun d=>(visbytes d).map .bool
 | .byt=>vbytes
 | .lst=>vlist
noncomputable def vb2:B2->V->V->Option V
 | .min=>vmin | .max=>vmax | .dm=>vdivmod
noncomputable def bs (s:String):List Nat:=s.toList.map Char.toNat
noncomputable def rg (a b:Int):V:=.tup [.int a,.int b]
noncomputable def posix:List (List Nat × List Nat):=[
 (bs "alnum",bs "0-9A-Za-z"),(bs "alpha",bs "A-Za-z"),(bs "blank",bs "\\t "),(bs "cntrl",bs "\\x00-\\x1f\\x7f"),(bs "digit",bs "0-9"),(bs "graph",bs "!-.0-~"),
 (bs "lower",bs "a-z"),(bs "print",bs " -.0-~"),(bs "punct",bs "!-.:-@\\[-`{-~"),(bs "space",bs "\\t\\n\\r "),(bs "upper",bs "A-Z"),(bs "xdigit",bs "0-9A-Fa-f")]
noncomputable def members:List (List Nat × List (Int × Int)):=[
 (bs "a",[(97,97)]),(bs "a-c",[(97,99)]),(bs "c-a",[(99,99)]),(bs "+-9",[(43,57)]),(bs "/",[(47,47)]),(bs "\\]",[(93,93)]),(bs "\\-",[(45,45)]),(bs "\\\\",[(92,92)]),
 (bs "\\a-\\c",[(97,99)]),(bs "a-c-x",[(97,99),(45,45),(120,120)]),(bs "[:digit:]-z",[(48,57),(45,45),(122,122)]),(bs "x^!",[(120,120),(94,94),(33,33)]),
 ([128,45,255],[(128,255)]),(bs "*?",[(42,42),(63,63)]),(bs "[:alnum:]",[(48,57),(65,90),(97,122)]),(bs "[:alpha:]",[(65,90),(97,122)]),(bs "[:blank:]",[(9,9),(32,32)]),
 (bs "[:cntrl:]",[(0,31),(127,127)]),(bs "[:digit:]",[(48,57)]),(bs "[:graph:]",[(33,126)]),(bs "[:lower:]",[(97,122)]),(bs "[:print:]",[(32,126)]),
 (bs "[:punct:]",[(33,47),(58,64),(91,96),(123,126)]),(bs "[:space:]",[(9,10),(13,13),(32,32)]),(bs "[:upper:]",[(65,90)]),(bs "[:xdigit:]",[(48,57),(65,70),(97,102)])]
noncomputable def firsts:List (List Nat × List (Int × Int)):=[([],[]),(bs "]",[(93,93)]),(bs "]-a",[(93,97)])]
noncomputable def lasts:List (List Nat × List (Int × Int)):=[([],[]),(bs "-",[(45,45)]),(bs "[:",[(91,91),(58,58)]),(bs "[:x",[(91,91),(58,58),(120,120)])]
noncomputable def palette:List Int:=[97,98,46,45,93,55,122,32,195,9,64]
noncomputable def pairV (p:List Nat × List (Int × Int)):V:=.tup [.bytes p.1,.lst (p.2.map fun r=>rg r.1 r.2)]
noncomputable def gtab:List (String × V):=[("_SLASH",.int 47),("_law_members",.lst (members.map pairV)),("_law_first",.lst (firsts.map pairV)),("_law_last",.lst (lasts.map pairV)),("_law_palette",.lst (palette.map .int))]
noncomputable def inPosix:V->Option Bool
 | .bytes b=>some ((posix.lookup b).isSome)
 | _=>none
noncomputable def atPosix:V->Option V
 | .bytes b=>(posix.lookup b).map .bytes
 | _=>none
noncomputable def signOf:V->Option V
 | .int i=>some (.int (if i = 116 then 9 else if i = 110 then 10 else if i = 118 then 11 else if i = 102 then 12 else if i = 114 then 13 else i))
 | _=>none
noncomputable def allEmpty (l:List V):Option Bool:=(bts l).map fun ps=>ps.all (fun O=>O.isEmpty)
noncomputable def vallE:V->Option V
 | .lst l=>if l.length <= 16777216 then (allEmpty l).map .bool else none
 | _=>none
noncomputable def tests:List V->Option Bool
 | []=>some true
 | [d]=>vtruth d
 | _=>none
noncomputable def bindT (k:Nat) (d:V):Option (List (Option V)) :=
 if k = 0 then some [some d] else match d with
  | .tup l=>if l.length = k then some (l.map some) else none
  | _=>none
noncomputable def compL (f:V->R (Option V)):List V->R (List V)
 | []=>.ok []
 | x :: r=>match f x with
  | .ok (some y)=>(compL f r).bind fun l=>.ok (y :: l)
  | .ok none=>compL f r
  | _=>.st
theorem cL_n {f:V->R (Option V)}:compL f [] = .ok []:=rfl
theorem cL_c {f:V->R (Option V)} {x:V} {r:List V}:compL f (x :: r) = match f x with
  | .ok (some y)=>(compL f r).bind fun l=>.ok (y :: l)
  | .ok none=>compL f r
  | _=>.st:=rfl
noncomputable def flat2:List V->Option (List V)
 | []=>some []
 | .tup l :: r=>(flat2 r).map (l++·)
 | O :: O1=>none
theorem f2_t {l r:List V}:flat2 (.tup l :: r) = (flat2 r).map (l++·):=rfl
noncomputable def vflat2:V->Option V
 | .lst l=>match flat2 l with
  | some r=>if l.length+r.length <= 1000000 then some (.lst r) else none
  | none=>none
 | _=>none
noncomputable def ivs (o:Option V):Option (Option Int):=match o with
 | none=>some none
 | some v=>(kdI v).map some
noncomputable def vsl (lo hi:Option V) (d:V):Option V:=(ivs lo).bind fun a=>(ivs hi).bind fun b=>vslice a b d
theorem zgn {v:V} {a:Option Int} (h:ivs (some v) = some a):∃ x,v = .int x/\a = some x:=by
 obtain ⟨x,h1,h2⟩:=aW.mp h;exact ⟨x,zbz h1,h2.symm⟩
theorem R.ofO_inv {α:Type} {o:Option α} {r:R α} (h:R.ofO o = r) (hn:r ≠ .st):∃ d,o = some d/\r = .ok d:=by
 cases o with
 | none=>exact absurd h.symm hn
 | some d=>exact ⟨d,rfl,h.symm⟩
noncomputable def dispL (f:List V->V) (l:List V):R V:=if l.length <= 1000000 then .ok (f l) else .st
mutual
noncomputable def ev (cf:Nat->List V->R V):ME->List (Option V)->R V
 | .nm i,ρ=>match ρ[i]? with | some (some d)=>.ok d | _=>.st
 | .gl k,O=>match gtab[k]? with | some p=>.ok p.2 | none=>.st
 | .cst d,O=>.ok d
 | .bin o a b,ρ=>(ev cf a ρ).bind fun x=>(ev cf b ρ).bind fun y=>.ofO (vbin o x y)
 | .cmp o a b,ρ=>(ev cf a ρ).bind fun x=>(ev cf b ρ).bind fun y=>.ofO ((vcmp o x y).map .bool)
 | .cmp3 a b c,ρ=>(ev cf a ρ).bind fun x=>(ev cf b ρ).bind fun y=>match vcmp .le x y with
  | some true=>(ev cf c ρ).bind fun z=>.ofO ((vcmp .le y z).map .bool)
  | some false=>.ok (.bool false)
  | none=>.st
 | .isn a,ρ=>(ev cf a ρ).bind fun x=>.ok (.bool (isNoneV x))
 | .isnn a,ρ=>(ev cf a ρ).bind fun x=>.ok (.bool (!isNoneV x))
 | .inn a b,ρ=>(ev cf a ρ).bind fun x=>(ev cf b ρ).bind fun y=>.ofO ((vin x y).map .bool)
 | .nin a b,ρ=>(ev cf a ρ).bind fun x=>(ev cf b ρ).bind fun y=>.ofO ((vin x y).map fun r=>.bool (!r))
 | .npx a,ρ=>(ev cf a ρ).bind fun x=>.ofO ((inPosix x).map fun r=>.bool (!r))
 | .px a,ρ=>(ev cf a ρ).bind fun x=>.ofO (atPosix x)
 | .bool conj a l,ρ=>(ev cf a ρ).bind fun d=>evR cf conj l d ρ
 | .nt a,ρ=>(ev cf a ρ).bind fun x=>.ofO ((vtruth x).map fun r=>.bool (!r))
 | .ife c a b,ρ=>(ev cf c ρ).bind fun x=>match vtruth x with
  | some true=>ev cf a ρ
  | some false=>ev cf b ρ
  | none=>.st
 | .idx a i,ρ=>(ev cf a ρ).bind fun x=>(ev cf i ρ).bind fun y=>.ofO (vidx x y)
 | .sl2 a lo hi,ρ=>(ev cf a ρ).bind fun x=>(ev cf lo ρ).bind fun y=>(ev cf hi ρ).bind fun z=>.ofO (vsl (some y) (some z) x)
 | .slL a lo,ρ=>(ev cf a ρ).bind fun x=>(ev cf lo ρ).bind fun y=>.ofO (vsl (some y) none x)
 | .slH a hi,ρ=>(ev cf a ρ).bind fun x=>(ev cf hi ρ).bind fun z=>.ofO (vsl none (some z) x)
 | .tup l,ρ=>(evs cf l ρ).bind (dispL .tup)
 | .lsd l,ρ=>(evs cf l ρ).bind (dispL .lst)
 | .call f l,ρ=>(evs cf l ρ).bind (cf f)
 | .bi1 b a,ρ=>(ev cf a ρ).bind fun x=>.ofO (vb1 b x)
 | .bi2 b a c,ρ=>(ev cf a ρ).bind fun x=>(ev cf c ρ).bind fun y=>.ofO (vb2 b x y)
 | .rng a b,ρ=>(ev cf a ρ).bind fun x=>(ev cf b ρ).bind fun y=>.ofO (vrange x y)
 | .join sep a,ρ=>(ev cf a ρ).bind fun x=>.ofO (vjoin sep x)
 | .split c a,ρ=>(ev cf a ρ).bind fun x=>.ofO (vsplit c x)
 | .getd a,ρ=>(ev cf a ρ).bind fun x=>.ofO (signOf x)
 | .allE a,ρ=>(ev cf a ρ).bind fun x=>.ofO (vallE x)
 | .lc elt k iter cond,ρ=>(ev cf iter ρ).bind fun d=>match d with
  | .lst items=>if items.length <= 1000000 then (compL (fun it=>match bindT k it with
    | some l=>(evs cf cond (ρ++l)).bind fun ts=>match tests ts with
     | some true=>(ev cf elt (ρ++l)).bind fun y=>.ok (some y)
     | some false=>.ok none
     | none=>.st
    | none=>.st) items).bind fun l=>.ok (.lst l) else .st
  | _=>.st
 | .lc2 a,ρ=>(ev cf a ρ).bind fun x=>.ofO (vflat2 x)
noncomputable def evR (cf:Nat->List V->R V) (conj:Bool):MEs->V->List (Option V)->R V
 | .nil,d,O=>.ok d
 | .cons b l,d,ρ=>match vtruth d with
  | some t=>if t = conj then (ev cf b ρ).bind fun d'=>evR cf conj l d' ρ else .ok d
  | none=>.st
noncomputable def evs (cf:Nat->List V->R V):MEs->List (Option V)->R (List V)
 | .nil,O=>.ok []
 | .cons e l,ρ=>(ev cf e ρ).bind fun d=>(evs cf l ρ).bind fun ds=>.ok (d :: ds)
end
mutual
noncomputable def nms:ME->List Nat
 | .nm i=>[i]
 | .gl O=>[] | .cst O=>[]
 | .bin O a b=>nms a++nms b | .cmp O a b=>nms a++nms b | .cmp3 a b c=>nms a++nms b++nms c
 | .isn a=>nms a | .isnn a=>nms a | .inn a b=>nms a++nms b | .nin a b=>nms a++nms b
 | .npx a=>nms a | .px a=>nms a
 | .bool O a l=>nms a++nmss l
 | .nt a=>nms a | .ife c a b=>nms c++nms a++nms b
 | .idx a i=>nms a++nms i | .sl2 a lo hi=>nms a++nms lo++nms hi | .slL a lo=>nms a++nms lo | .slH a hi=>nms a++nms hi
 | .tup l=>nmss l | .lsd l=>nmss l
 | .call O l=>nmss l | .bi1 O a=>nms a | .bi2 O a c=>nms a++nms c
 | .rng a b=>nms a++nms b | .join O a=>nms a | .split _ a=>nms a | .getd a=>nms a | .allE a=>nms a
 | .lc elt O iter cond=>nms elt++nms iter++nmss cond
 | .lc2 a=>nms a
noncomputable def nmss:MEs->List Nat
 | .nil=>[]
 | .cons e l=>nms e++nmss l
end
noncomputable def fresh:ME->Bool
 | .lsd O=>true
 | .bin .add O O1=>true
 | _=>false
noncomputable abbrev Slot:=Option (Bool × V)
set_option genCtorIdx false in
mutual
inductive MS where
 | asg (x:Nat) (e:ME) | asgl (x:Nat) (elt:ME) (k:Nat) (iter:ME) (cond:MEs)
 | unp (xs:List Nat) (e:ME) | asg2 (x y:Nat) (e:ME) | last (x:Nat) (e:ME) | aug (x:Nat) (e:ME)
 | ite (c:ME) (a b:MSs) | whl (c:ME) (b:MSs)
 | for1 (x:Nat) (e:ME) (b:MSs) | forT (xs:List Nat) (e:ME) (b:MSs) | forR (x:Nat) (n:Nat) (b:MSs) | forE (x y:Nat) (e:ME) (b:MSs)
 | ret (e:ME) | rse (e:ME) | app (x:Nat) (e:ME) | brk | cnt
 | psx (x y:Nat) (a1 a2:ME) (m c:Nat) | init3 (x y z:Nat)
inductive MSs where
 | nil | cons (s:MS) (l:MSs)
end
inductive F where
 | nx (σ:List Slot) | bk (σ:List Slot) | ct (σ:List Slot) | rt (d:V) (σ:List Slot) | ex | st
noncomputable def flat:V->Bool
 | .lst O=>false
 | .tup O=>false
 | _=>true
noncomputable def isL:V->Bool
 | .lst O=>true
 | _=>false
noncomputable def see (is:List Nat) (i:Nat):Slot->Option V
 | some (true,d)=>match is.contains i with
  | true=>some d
  | false=>none
 | some (false,d)=>some d
 | none=>none
noncomputable def ρgo (is:List Nat):Nat->List Slot->List (Option V)
 | O,[]=>[]
 | k,s :: r=>see is k s :: ρgo is (k+1) r
theorem rg_n {is:List Nat} {k:Nat}:ρgo is k [] = []:=rfl
theorem rg_c {is:List Nat} {k:Nat} {s:Slot} {r:List Slot}:ρgo is k (s :: r) = see is k s :: ρgo is (k+1) r:=rfl
noncomputable def ρm (is:List Nat) (σ:List Slot):List (Option V):=ρgo is 0 σ
noncomputable def frz (is:List Nat) (i:Nat):Slot->Slot
 | some (o,d)=>some (o && !is.contains i,d)
 | none=>none
noncomputable def fzgo (is:List Nat):Nat->List Slot->List Slot
 | O,[]=>[]
 | k,s :: r=>frz is k s :: fzgo is (k+1) r
theorem fg_n {is:List Nat} {k:Nat}:fzgo is k [] = []:=rfl
theorem fg_c {is:List Nat} {k:Nat} {s:Slot} {r:List Slot}:fzgo is k (s :: r) = frz is k s :: fzgo is (k+1) r:=rfl
noncomputable def fzs (is:List Nat) (σ:List Slot):List Slot:=fzgo is 0 σ
noncomputable def fz (is:List Nat) (d:V) (σ:List Slot):List Slot:=if flat d then σ else fzs is σ
noncomputable def setAll:List Nat->List V->List Slot->List Slot
 | x :: xs,d :: ds,σ=>setAll xs ds (σ.set x (some (false,d)))
 | O,O1,σ=>σ
theorem sA_c {x:Nat} {xs:List Nat} {d:V} {ds:List V} {σ:List Slot}:setAll (x :: xs) (d :: ds) σ = setAll xs ds (σ.set x (some (false,d))):=rfl
theorem sA_n {ds:List V} {σ:List Slot}:setAll [] ds σ = σ:=rfl
theorem sA_d {x:Nat} {xs:List Nat} {σ:List Slot}:setAll (x :: xs) [] σ = σ:=rfl
noncomputable def forL (f:V->List Slot->F):List V->List Slot->F
 | [],σ=>.nx σ
 | d :: r,σ=>match f d σ with
  | .nx σ'=>forL f r σ'
  | .ct σ'=>forL f r σ'
  | .bk σ'=>.nx σ'
  | .rt v σ'=>.rt v σ'
  | .ex=>.ex
  | .st=>.st
theorem zgp {f:V->List Slot->F} {d:V} {r:List V} {σ:List Slot}:forL f (d :: r) σ = (match f d σ with
  | .nx σ'=>forL f r σ'
  | .ct σ'=>forL f r σ'
  | .bk σ'=>.nx σ'
  | .rt v σ'=>.rt v σ'
  | .ex=>.ex
  | .st=>.st):=rfl
theorem zjh {f:V->List Slot->F} {σ:List Slot}:forL f [] σ = .nx σ:=rfl
noncomputable def whileN (t:List Slot->R Bool) (f:List Slot->F):Nat->List Slot->F
 | 0,O=>.st
 | n+1,σ=>match t σ with
  | .ok true=>match f σ with
   | .nx σ'=>whileN t f n σ'
   | .ct σ'=>whileN t f n σ'
   | .bk σ'=>.nx σ'
   | .rt v σ'=>.rt v σ'
   | .ex=>.ex
   | .st=>.st
  | .ok false=>.nx σ
  | _=>.st
theorem wN_s {t:List Slot->R Bool} {f:List Slot->F} {n:Nat} {σ:List Slot}:whileN t f (n+1) σ = match t σ with
  | .ok true=>match f σ with
   | .nx σ'=>whileN t f n σ'
   | .ct σ'=>whileN t f n σ'
   | .bk σ'=>.nx σ'
   | .rt v σ'=>.rt v σ'
   | .ex=>.ex
   | .st=>.st
  | .ok false=>.nx σ
  | _=>.st:=rfl
noncomputable def withV (r:R V) (f:V->F):F:=match r with | .ok d=>f d | .ex=>.ex | .st=>.st
noncomputable def iterD:V->Option (List V)
 | .lst l=>if l.length <= 1000000 then some l else none
 | .tup l=>if l.length <= 1000000 then some l else none
 | .bytes b=>if b.length <= 1000000 then some (b.map fun x:Nat=>.int x) else none
 | _=>none
noncomputable def seqF (a:F) (f:List Slot->F):F:=match a with | .nx σ=>f σ | r=>r
noncomputable def ownL (σ:List Slot) (x:Nat):Option (List V):=σ[x]?.bind fun s=>s.bind fun p=>bif p.1 then kdL p.2 else none
noncomputable def tst (r:R V):R Bool:=r.bind fun d=>.ofO (vtruth d)
mutual
noncomputable def ex1 (N:Nat) (cf:Nat->List V->R V) (pc:V->V->List V->List V->R (V × List V × List V)):MS->List Slot->F
 | .asg x e,σ=>withV (ev cf e (ρm (nms e) σ)) fun d=>.nx ((fz (nms e) d σ).set x (some (fresh e && isL d,d)))
 | .asgl x elt k iter cond,σ=>withV (ev cf (.lc elt k iter cond) (ρm (nms (.lc elt k iter cond)) σ)) fun d=>.nx ((fz (nms (.lc elt k iter cond)) d σ).set x (some (false,d)))
 | .unp xs e,σ=>withV (ev cf e (ρm (nms e) σ)) fun d=>match d with
  | .tup ds=>if ds.length = xs.length then .nx (setAll xs ds (fz (nms e) d σ)) else .st
  | _=>.st
 | .asg2 x y e,σ=>withV (ev cf e (ρm (nms e) σ)) fun d=>if flat d then .nx ((σ.set x (some (false,d))).set y (some (false,d))) else .st
 | .last x e,σ=>withV (ev cf e (ρm (nms e) σ)) fun d=>match ownL σ x with
  | some l=>if (nms e).contains x || l.isEmpty || !decide (l.length <= 1000000) then .st else .nx ((fz (nms e) d σ).set x (some (true,.lst (l.dropLast++[d]))))
  | none=>.st
 | .aug x e,σ=>match σ[x]? with
  | some (some (O,a))=>withV (ev cf e (ρm (nms e) σ)) fun d=>match vadd a d with
   | some r=>if flat r then .nx (σ.set x (some (false,r))) else .st
   | none=>.st
  | _=>.st
 | .ite c a b,σ=>match tst (ev cf c (ρm (nms c) σ)) with
  | .ok true=>exs N cf pc a σ
  | .ok false=>exs N cf pc b σ
  | .ex=>.ex
  | .st=>.st
 | .whl c b,σ=>whileN (fun σ=>tst (ev cf c (ρm (nms c) σ))) (exs N cf pc b) N σ
 | .for1 x e b,σ=>withV (ev cf e (ρm (nms e) σ)) fun d=>match iterD d with
  | some l=>forL (fun it σ=>exs N cf pc b (σ.set x (some (false,it)))) l (fz (nms e) d σ)
  | none=>.st
 | .forT xs e b,σ=>withV (ev cf e (ρm (nms e) σ)) fun d=>match iterD d with
  | some l=>forL (fun it σ=>match it with
   | .tup ds=>if ds.length = xs.length then exs N cf pc b (setAll xs ds σ) else .st
   | _=>.st) l (fz (nms e) d σ)
  | none=>.st
 | .forR x n b,σ=>forL (fun it σ=>exs N cf pc b (σ.set x (some (false,it)))) ((eB n).map fun i:Nat=>.int i) σ
 | .forE x y e b,σ=>withV (ev cf e (ρm (nms e) σ)) fun d=>match d with
  | .lst l=>if l.length <= 1000000 then forL (fun it σ=>match it with
   | .tup [i,v]=>exs N cf pc b ((σ.set x (some (false,i))).set y (some (false,v)))
   | _=>.st) (l.zipIdx.map fun p=>.tup [.int p.2,p.1]) (fz (nms e) d σ) else .st
  | _=>.st
 | .ret e,σ=>withV (ev cf e (ρm (nms e) σ)) fun d=>.rt d (fz (nms e) d σ)
 | .rse e,σ=>withV (ev cf e (ρm (nms e) σ)) fun d=>if flat d then .ex else .st
 | .app x e,σ=>match ownL σ x with
  | some l=>withV (ev cf e (ρm (nms e) σ)) fun d=>if (!flat d && (nms e).contains x) || !decide (l.length <= 1000000) then .st else .nx ((fz (nms e) d σ).set x (some (true,.lst (l++[d]))))
  | none=>.st
 | .brk,σ=>.bk σ
 | .cnt,σ=>.ct σ
 | .psx x y a1 a2 m c,σ=>withV (ev cf a1 (ρm (nms a1) σ)) fun d1=>withV (ev cf a2 (ρm (nms a2) σ)) fun d2=>if flat d1 && flat d2 && m != c && x != m && x != c && y != m && y != c then match ownL σ m,ownL σ c with
  | some lm,some lc=>match pc d1 d2 lm lc with
   | .ok (.tup [r1,r2],lm',lc')=>.nx ((((σ.set m (some (true,.lst lm'))).set c (some (true,.lst lc'))).set x (some (false,r1))).set y (some (false,r2)))
   | .ok O=>.st
   | .ex=>.ex
   | .st=>.st
  | O,O1=>.st else .st
 | .init3 x y z,σ=>.nx (((σ.set x (some (true,.lst []))).set y (some (true,.lst []))).set z (some (false,.bytes [])))
noncomputable def exs (N:Nat) (cf:Nat->List V->R V) (pc:V->V->List V->List V->R (V × List V × List V)):MSs->List Slot->F
 | .nil,σ=>.nx σ
 | .cons s l,σ=>seqF (ex1 N cf pc s σ) (exs N cf pc l)
end
structure MFun where
 name:String
 np:Nat
 vars:List String
 body:MSs
noncomputable def initS (fd:MFun) (own:List Bool) (args:List V):List Slot :=
 (eB fd.vars.length).map fun i=>match args[i]? with
  | some d=>some (own.getD i false,d)
  | none=>none
noncomputable def retOf (r:F):R V:=match r with
 | .rt d O=>.ok d
 | .nx O=>.ok .none
 | .ex=>.ex
 | _=>.st
noncomputable def posOf (r:F):R (V × List V × List V):=match r with
 | .rt d σ=>match ownL σ 2,ownL σ 3 with
  | some a,some b=>.ok (d,a,b)
  | O,O1=>.st
 | .ex=>.ex
 | _=>.st
noncomputable def callF (N:Nat) (fs:List MFun) (pi:Nat):Nat->Nat->List V->R V
 | 0,O,O1=>.st
 | n+1,f,args=>match fs[f]? with
  | some fd=>if args.length = fd.np then retOf (exs N (callF N fs pi n) (fun d1 d2 l1 l2=>match n with
    | 0=>.st
    | k+1=>match fs[pi]? with
     | some pd=>posOf (exs N (callF N fs pi k) (fun O O O O=>.st) pd.body (initS pd [false,false,true,true] [d1,d2,.lst l1,.lst l2]))
     | none=>.st) fd.body (initS fd [] args)) else .st
  | none=>.st
end
section
variable {cf:Nat->List V->R V} {ρ:List (Option V)}
theorem zu6 {i:Nat}:ev cf (.nm i) ρ = match ρ[i]? with | some (some d)=>.ok d | _=>.st:=rfl
theorem zwr {k:Nat}:ev cf (.gl k) ρ = match gtab[k]? with | some p=>.ok p.2 | none=>.st:=rfl
theorem zt9 {o:Op} {a:ME} {b:ME}:ev cf (.bin o a b) ρ = (ev cf a ρ).bind fun x=>(ev cf b ρ).bind fun y=>.ofO (vbin o x y):=rfl
theorem zq9 {a:ME} {b:ME} {c:ME}:ev cf (.cmp3 a b c) ρ = (ev cf a ρ).bind fun x=>(ev cf b ρ).bind fun y=>match vcmp .le x y with
  | some true=>(ev cf c ρ).bind fun z=>.ofO ((vcmp .le y z).map .bool)
  | some false=>.ok (.bool false)
  | none=>.st:=rfl
theorem ztj {conj:Bool} {a:ME} {l:MEs}:ev cf (.bool conj a l) ρ = (ev cf a ρ).bind fun d=>evR cf conj l d ρ:=rfl
theorem zw9 {a:ME}:ev cf (.nt a) ρ = (ev cf a ρ).bind fun x=>.ofO ((vtruth x).map fun r=>.bool (!r)):=rfl
theorem zqh {c:ME} {a:ME} {b:ME}:ev cf (.ife c a b) ρ = (ev cf c ρ).bind fun x=>match vtruth x with
  | some true=>ev cf a ρ
  | some false=>ev cf b ρ
  | none=>.st:=rfl
theorem ztz {l:MEs}:ev cf (.lsd l) ρ = (evs cf l ρ).bind (dispL .lst):=rfl
theorem zqo {b:B1} {a:ME}:ev cf (.bi1 b a) ρ = (ev cf a ρ).bind fun x=>.ofO (vb1 b x):=rfl
theorem zta {a:ME}:ev cf (.getd a) ρ = (ev cf a ρ).bind fun x=>.ofO (signOf x):=rfl
theorem zts {elt:ME} {k:Nat} {iter:ME} {cond:MEs}:ev cf (.lc elt k iter cond) ρ = (ev cf iter ρ).bind fun d=>match d with
  | .lst items=>if items.length <= 1000000 then (compL (fun it=>match bindT k it with
    | some l=>(evs cf cond (ρ++l)).bind fun ts=>match tests ts with
     | some true=>(ev cf elt (ρ++l)).bind fun y=>.ok (some y)
     | some false=>.ok none
     | none=>.st
    | none=>.st) items).bind fun l=>.ok (.lst l) else .st
  | _=>.st:=rfl
theorem ziv {conj:Bool} {d:V}:evR cf conj .nil d ρ = .ok d:=rfl
theorem zd8 {conj:Bool} {b:ME} {l:MEs} {d:V}:evR cf conj (.cons b l) d ρ = match vtruth d with
  | some t=>if t = conj then (ev cf b ρ).bind fun d'=>evR cf conj l d' ρ else .ok d
  | none=>.st:=rfl
end
theorem it2 {a b:V}:iterD (.tup [a,b]) = some [a,b]:=rfl
section
variable {N:Nat} {cf:Nat->List V->R V} {pc:V->V->List V->List V->R (V × List V × List V)} {σ:List Slot}
theorem x0_asg {x:Nat} {e:ME}:ex1 N cf pc (.asg x e) σ = (withV (ev cf e (ρm (nms e) σ)) fun d=>.nx ((fz (nms e) d σ).set x (some (fresh e && isL d,d)))):=rfl
theorem x0_asgl {x:Nat} {elt:ME} {k:Nat} {iter:ME} {cond:MEs}:ex1 N cf pc (.asgl x elt k iter cond) σ = (withV (ev cf (.lc elt k iter cond) (ρm (nms (.lc elt k iter cond)) σ)) fun d=>.nx ((fz (nms (.lc elt k iter cond)) d σ).set x (some (false,d)))):=rfl
theorem x0_unp {xs:List Nat} {e:ME}:ex1 N cf pc (.unp xs e) σ = (withV (ev cf e (ρm (nms e) σ)) fun d=>match d with
  | .tup ds=>if ds.length = xs.length then .nx (setAll xs ds (fz (nms e) d σ)) else .st
  | _=>.st):=rfl
theorem x0_asg2 {x y:Nat} {e:ME}:ex1 N cf pc (.asg2 x y e) σ = (withV (ev cf e (ρm (nms e) σ)) fun d=>if flat d then .nx ((σ.set x (some (false,d))).set y (some (false,d))) else .st):=rfl
theorem x0_last {x:Nat} {e:ME}:ex1 N cf pc (.last x e) σ = (withV (ev cf e (ρm (nms e) σ)) fun d=>match ownL σ x with
  | some l=>if (nms e).contains x || l.isEmpty || !decide (l.length <= 1000000) then .st else .nx ((fz (nms e) d σ).set x (some (true,.lst (l.dropLast++[d]))))
  | none=>.st):=rfl
theorem x0_aug {x:Nat} {e:ME}:ex1 N cf pc (.aug x e) σ = (match σ[x]? with
  | some (some (O,a))=>withV (ev cf e (ρm (nms e) σ)) fun d=>match vadd a d with
   | some r=>if flat r then .nx (σ.set x (some (false,r))) else .st
   | none=>.st
  | _=>.st):=rfl
theorem zvu {c:ME} {a b:MSs}:ex1 N cf pc (.ite c a b) σ = (match tst (ev cf c (ρm (nms c) σ)) with
  | .ok true=>exs N cf pc a σ
  | .ok false=>exs N cf pc b σ
  | .ex=>.ex
  | .st=>.st):=rfl
theorem zvt {c:ME} {b:MSs}:ex1 N cf pc (.whl c b) σ = (whileN (fun σ=>tst (ev cf c (ρm (nms c) σ))) (exs N cf pc b) N σ):=rfl
theorem zs0 {x:Nat} {n:Nat} {b:MSs}:ex1 N cf pc (.forR x n b) σ = (forL (fun it σ=>exs N cf pc b (σ.set x (some (false,it)))) ((eB n).map fun i:Nat=>.int i) σ):=rfl
theorem x0_forE {x y:Nat} {e:ME} {b:MSs}:ex1 N cf pc (.forE x y e b) σ = (withV (ev cf e (ρm (nms e) σ)) fun d=>match d with
  | .lst l=>if l.length <= 1000000 then forL (fun it σ=>match it with
   | .tup [i,v]=>exs N cf pc b ((σ.set x (some (false,i))).set y (some (false,v)))
   | _=>.st) (l.zipIdx.map fun p=>.tup [.int p.2,p.1]) (fz (nms e) d σ) else .st
  | _=>.st):=rfl
theorem x0_ret {e:ME}:ex1 N cf pc (.ret e) σ = (withV (ev cf e (ρm (nms e) σ)) fun d=>.rt d (fz (nms e) d σ)):=rfl
theorem x0_rse {e:ME}:ex1 N cf pc (.rse e) σ = (withV (ev cf e (ρm (nms e) σ)) fun d=>if flat d then .ex else .st):=rfl
theorem x0_app {x:Nat} {e:ME}:ex1 N cf pc (.app x e) σ = (match ownL σ x with
  | some l=>withV (ev cf e (ρm (nms e) σ)) fun d=>if (!flat d && (nms e).contains x) || !decide (l.length <= 1000000) then .st else .nx ((fz (nms e) d σ).set x (some (true,.lst (l++[d]))))
  | none=>.st):=rfl
theorem zoz {x y z:Nat}:ex1 N cf pc (.init3 x y z) σ = (.nx (((σ.set x (some (true,.lst []))).set y (some (true,.lst []))).set z (some (false,.bytes [])))):=rfl
theorem zrs {s:MS} {l:MSs}:exs N cf pc (.cons s l) σ = seqF (ex1 N cf pc s σ) (exs N cf pc l):=rfl
end
section
open PySem PySem.W PyProof.Rows
theorem zaa {a b:Bool} (h:(a && b) = true):a = true/\b = true:=by
 cases a
 ·exact absurd h aJ
 ·exact ⟨rfl,h⟩
theorem zac {a1 a2 a3:Bool} (h:(a1 && a2 && a3) = true):And3 (a1 = true) (a2 = true) (a3 = true) :=
 ⟨(zaa (zaa h).1).1,(zaa (zaa h).1).2,(zaa h).2⟩
theorem za9 {a1 a2 a3 a4:Bool} (h:(a1 && a2 && a3 && a4) = true):And4 (a1 = true) (a2 = true) (a3 = true) (a4 = true) :=
 ⟨(zaa (zaa (zaa h).1).1).1,(zaa (zaa (zaa h).1).1).2,(zaa (zaa h).1).2,(zaa h).2⟩
theorem zpo {a1 a2 a3 a4 a5:Bool} (h:(a1 && a2 && a3 && a4 && a5) = true):And5 (a1 = true) (a2 = true) (a3 = true) (a4 = true) (a5 = true) :=
 ⟨(zaa (zaa (zaa (zaa h).1).1).1).1,(zaa (zaa (zaa (zaa h).1).1).1).2,(zaa (zaa (zaa h).1).1).2,(zaa (zaa h).1).2,(zaa h).2⟩
theorem zi7 {a1 a2 a3 a4 a5 a6:Bool} (h:(a1 && a2 && a3 && a4 && a5 && a6) = true):And6 (a1 = true) (a2 = true) (a3 = true) (a4 = true) (a5 = true) (a6 = true) :=
 ⟨(zaa (zaa (zaa (zaa (zaa h).1).1).1).1).1,(zaa (zaa (zaa (zaa (zaa h).1).1).1).1).2,(zaa (zaa (zaa (zaa h).1).1).1).2,(zaa (zaa (zaa h).1).1).2,(zaa (zaa h).1).2,(zaa h).2⟩
theorem zoa {a1 a2 a3 a4 a5 a6 a7 a8:Bool} (h:(a1 && a2 && a3 && a4 && a5 && a6 && a7 && a8) = true):And8 (a1 = true) (a2 = true) (a3 = true) (a4 = true) (a5 = true) (a6 = true) (a7 = true) (a8 = true) :=
 ⟨(zaa (zaa (zaa (zaa (zaa (zaa (zaa h).1).1).1).1).1).1).1,(zaa (zaa (zaa (zaa (zaa (zaa (zaa h).1).1).1).1).1).1).2,(zaa (zaa (zaa (zaa (zaa (zaa h).1).1).1).1).1).2,(zaa (zaa (zaa (zaa (zaa h).1).1).1).1).2,(zaa (zaa (zaa (zaa h).1).1).1).2,(zaa (zaa (zaa h).1).1).2,(zaa (zaa h).1).2,(zaa h).2⟩
theorem zpl {a1 a2 a3 a4 a5 a6 a7 a8 a9:Bool} (h:(a1 && a2 && a3 && a4 && a5 && a6 && a7 && a8 && a9) = true):And9 (a1 = true) (a2 = true) (a3 = true) (a4 = true) (a5 = true) (a6 = true) (a7 = true) (a8 = true) (a9 = true) :=
 ⟨(zaa (zaa (zaa (zaa (zaa (zaa (zaa (zaa h).1).1).1).1).1).1).1).1,(zaa (zaa (zaa (zaa (zaa (zaa (zaa (zaa h).1).1).1).1).1).1).1).2,(zaa (zaa (zaa (zaa (zaa (zaa (zaa h).1).1).1).1).1).1).2,(zaa (zaa (zaa (zaa (zaa (zaa h).1).1).1).1).1).2,(zaa (zaa (zaa (zaa (zaa h).1).1).1).1).2,(zaa (zaa (zaa (zaa h).1).1).1).2,(zaa (zaa (zaa h).1).1).2,(zaa (zaa h).1).2,(zaa h).2⟩
theorem zls {a1 a2 a3 a4 a5 a6 a7 a8 a9 a10:Bool} (h:(a1 && a2 && a3 && a4 && a5 && a6 && a7 && a8 && a9 && a10) = true):And10 (a1 = true) (a2 = true) (a3 = true) (a4 = true) (a5 = true) (a6 = true) (a7 = true) (a8 = true) (a9 = true) (a10 = true) :=
 ⟨(zaa (zaa (zaa (zaa (zaa (zaa (zaa (zaa (zaa h).1).1).1).1).1).1).1).1).1,(zaa (zaa (zaa (zaa (zaa (zaa (zaa (zaa (zaa h).1).1).1).1).1).1).1).1).2,(zaa (zaa (zaa (zaa (zaa (zaa (zaa (zaa h).1).1).1).1).1).1).1).2,(zaa (zaa (zaa (zaa (zaa (zaa (zaa h).1).1).1).1).1).1).2,(zaa (zaa (zaa (zaa (zaa (zaa h).1).1).1).1).1).2,(zaa (zaa (zaa (zaa (zaa h).1).1).1).1).2,(zaa (zaa (zaa (zaa h).1).1).1).2,(zaa (zaa (zaa h).1).1).2,(zaa (zaa h).1).2,(zaa h).2⟩
theorem znx {a1 a2 a3 a4 a5 a6 a7 a8 a9 a10 a11 a12:Bool} (h:(a1 && a2 && a3 && a4 && a5 && a6 && a7 && a8 && a9 && a10 && a11 && a12) = true):And12 (a1 = true) (a2 = true) (a3 = true) (a4 = true) (a5 = true) (a6 = true) (a7 = true) (a8 = true) (a9 = true) (a10 = true) (a11 = true) (a12 = true) :=
 ⟨(zaa (zaa (zaa (zaa (zaa (zaa (zaa (zaa (zaa (zaa (zaa h).1).1).1).1).1).1).1).1).1).1).1,(zaa (zaa (zaa (zaa (zaa (zaa (zaa (zaa (zaa (zaa (zaa h).1).1).1).1).1).1).1).1).1).1).2,(zaa (zaa (zaa (zaa (zaa (zaa (zaa (zaa (zaa (zaa h).1).1).1).1).1).1).1).1).1).2,(zaa (zaa (zaa (zaa (zaa (zaa (zaa (zaa (zaa h).1).1).1).1).1).1).1).1).2,(zaa (zaa (zaa (zaa (zaa (zaa (zaa (zaa h).1).1).1).1).1).1).1).2,(zaa (zaa (zaa (zaa (zaa (zaa (zaa h).1).1).1).1).1).1).2,(zaa (zaa (zaa (zaa (zaa (zaa h).1).1).1).1).1).2,(zaa (zaa (zaa (zaa (zaa h).1).1).1).1).2,(zaa (zaa (zaa (zaa h).1).1).1).2,(zaa (zaa (zaa h).1).1).2,(zaa (zaa h).1).2,(zaa h).2⟩
noncomputable def onSome {α:Type} (o:Option α) (f:α->Bool):Bool:=match o with | some x=>f x | none=>false
theorem zar {α:Type} {o:Option α} {f:α->Bool} (h:onSome o f = true):∃ x,o = some x/\f x = true:=by
 cases o <;> first | exact ⟨_,rfl,h⟩ | exact absurd h aJ
theorem za2 {α:Type} {o:Option α} {f:α->Bool} {P:Option α->Prop} (h:onSome o f = true) (k:∀ x,f x = true->P (some x)):P o:=by
 rcases o with _ | x <;> first | exact k _ h | exact absurd h aJ
theorem zcl {α:Type} {P:List α->Prop} {l:List α} (h:l.isEmpty = true) (k:P []):P l:=dQ (congrArg P (bZ.mp h)) k
noncomputable def dE:aL:=.Name default default
structure WE where
 tag:Nat
 w0:Str
 w1:Pos
 w2:Const
 w3:Nat
 w4:aL
 w5:aL
 w6:aL
 w7:Operator
 w8:UnaryOp
 w9:List CmpOp
 w10:List aL
 w11:PySem.BoolOp
 w12:Option aL
 w13:Option aL
 w14:Option aL
 w15:List Keyword
 w16:List (Option aL)
 w17:List Comprehension
 w18:Scope
noncomputable def d0:WE:=⟨0,default,default,.none,0,dE,dE,dE,.Add,.Not,[],[],.And,none,none,none,[],[],[],default⟩
noncomputable def vwE (e:aL):WE:=@Expr.casesOn (fun O=>WE) e
 (fun op es p=>⟨7,default,p,.none,0,dE,dE,dE,.Add,.Not,[],es,op,none,none,none,[],[],[],default⟩) (fun O O O=>d0) (fun l op r p=>⟨3,default,p,.none,0,l,r,dE,op,.Not,[],[],.And,none,none,none,[],[],[],default⟩) (fun op x p=>⟨4,default,p,.none,0,x,dE,dE,.Add,op,[],[],.And,none,none,none,[],[],[],default⟩) (fun O O O O=>d0) (fun t x y p=>⟨8,default,p,.none,0,t,x,y,.Add,.Not,[],[],.And,none,none,none,[],[],[],default⟩) (fun ks vs p=>⟨14,default,p,.none,0,dE,dE,dE,.Add,.Not,[],vs,.And,none,none,none,[],ks,[],default⟩) (fun O O O=>d0) (fun el gs sc p=>⟨16,default,p,.none,0,el,dE,dE,.Add,.Not,[],[],.And,none,none,none,[],[],gs,sc⟩) (fun el gs sc p=>⟨17,default,p,.none,0,el,dE,dE,.Add,.Not,[],[],.And,none,none,none,[],[],gs,sc⟩) (fun k el gs sc p=>⟨17,default,p,.none,0,el,dE,dE,.Add,.Not,[],[],.And,none,none,none,[],[],gs,sc⟩) (fun el gs sc p=>⟨15,default,p,.none,0,el,dE,dE,.Add,.Not,[],[],.And,none,none,none,[],[],gs,sc⟩) (fun O O=>d0) (fun O O=>d0) (fun O O=>d0) (fun l ops rs p=>⟨5,default,p,.none,0,l,dE,dE,.Add,.Not,ops,rs,.And,none,none,none,[],[],[],default⟩) (fun fn args kws p=>⟨12,default,p,.none,0,fn,dE,dE,.Add,.Not,[],args,.And,none,none,none,kws,[],[],default⟩) (fun O O O O=>d0) (fun O O=>d0) (fun c k p=>⟨2,default,p,c,k,dE,dE,dE,.Add,.Not,[],[],.And,none,none,none,[],[],[],default⟩) (fun o at1 ap=>⟨13,at1,ap,.none,0,o,dE,dE,.Add,.Not,[],[],.And,none,none,none,[],[],[],default⟩) (fun v s p=>⟨6,default,p,.none,0,v,s,dE,.Add,.Not,[],[],.And,none,none,none,[],[],[],default⟩) (fun v p=>⟨18,default,default,.none,0,dE,dE,dE,.Add,.Not,[],[],.And,none,none,none,[],[],[],default⟩) (fun id p=>⟨1,id,p,.none,0,dE,dE,dE,.Add,.Not,[],[],.And,none,none,none,[],[],[],default⟩) (fun es p=>⟨11,default,p,.none,0,dE,dE,dE,.Add,.Not,[],es,.And,none,none,none,[],[],[],default⟩) (fun es k p=>⟨10,default,p,.none,k,dE,dE,dE,.Add,.Not,[],es,.And,none,none,none,[],[],[],default⟩) (fun lo hi st p=>⟨9,default,p,.none,0,dE,dE,dE,.Add,.Not,[],[],.And,lo,hi,st,[],[],[],default⟩)
noncomputable def rbE (w:WE) (e:aL) (n:Nat):aL:=List.getD [e,.Name w.w0 w.w1,.Constant w.w2 w.w3 w.w1,.BinOp w.w4 w.w7 w.w5 w.w1,.UnaryOp w.w8 w.w4 w.w1,.Compare w.w4 w.w9 w.w10 w.w1,.Subscript w.w4 w.w5 w.w1,.BoolOp w.w11 w.w10 w.w1,.IfExp w.w4 w.w5 w.w6 w.w1,.Slice w.w12 w.w13 w.w14 w.w1,.Tuple w.w10 w.w3 w.w1,.List w.w10 w.w1,.Call w.w4 w.w10 w.w15 w.w1,.Attribute w.w4 w.w0 w.w1,.Dict w.w16 w.w10 w.w1,.GeneratorExp w.w4 w.w17 w.w18 w.w1,.ListComp w.w4 w.w17 w.w18 w.w1] n e
theorem zub:(e:aL)->e = rbE (vwE e) e (vwE e).tag:=by
 intro e; cases e <;> rfl
theorem zal {e:aL} {n:Nat} (h:((vwE e).tag == n) = true):e = rbE (vwE e) e n:=(zub e).trans (congrArg (rbE (vwE e) e) (aR h))
noncomputable def onName (e:aL) (f:Str->Bool):Bool:=(vwE e).tag == 1 && f (vwE e).w0
theorem zbc {e:aL} {f:Str->Bool} (h:onName e f = true):Ey2 (fun id p=>e = .Name id p) (fun id p=>f id = true) :=
 ⟨(vwE e).w0,(vwE e).w1,zal (zaa h).1,(zaa h).2⟩
theorem zad {e:aL} {f:Str->Bool} {P:aL->Prop} (h:onName e f = true) (k:∀ id p,f id = true->P (.Name id p)):P e :=
 dQ (congrArg P (zal (zaa h).1)) (k _ _ (zaa h).2)
noncomputable def onConst (e:aL) (f:Const->Bool):Bool:=(vwE e).tag == 2 && f (vwE e).w2
theorem zb0 {e:aL} {f:Const->Bool} (h:onConst e f = true):Ey3 (fun c k p=>e = .Constant c k p) (fun c k p=>f c = true) :=
 ⟨(vwE e).w2,(vwE e).w3,(vwE e).w1,zal (zaa h).1,(zaa h).2⟩
theorem zht {e:aL} {f:Const->Bool} {P:aL->Prop} (h:onConst e f = true) (k:∀ c k p,f c = true->P (.Constant c k p)):P e :=
 dQ (congrArg P (zal (zaa h).1)) (k _ _ _ (zaa h).2)
noncomputable def onBin (e:aL) (f:aL->Operator->aL->Bool):Bool:=(vwE e).tag == 3 && f (vwE e).w4 (vwE e).w7 (vwE e).w5
theorem zno {e:aL} {f:aL->Operator->aL->Bool} (h:onBin e f = true):Ey4 (fun l op r p=>e = .BinOp l op r p) (fun l op r p=>f l op r = true) :=
 ⟨(vwE e).w4,(vwE e).w7,(vwE e).w5,(vwE e).w1,zal (zaa h).1,(zaa h).2⟩
theorem zfg {e:aL} {f:aL->Operator->aL->Bool} {P:aL->Prop} (h:onBin e f = true) (k:∀ l op r p,f l op r = true->P (.BinOp l op r p)):P e :=
 dQ (congrArg P (zal (zaa h).1)) (k _ _ _ _ (zaa h).2)
noncomputable def onUn (e:aL) (f:UnaryOp->aL->Bool):Bool:=(vwE e).tag == 4 && f (vwE e).w8 (vwE e).w4
theorem zot {e:aL} {f:UnaryOp->aL->Bool} (h:onUn e f = true):Ey3 (fun op x p=>e = .UnaryOp op x p) (fun op x p=>f op x = true) :=
 ⟨(vwE e).w8,(vwE e).w4,(vwE e).w1,zal (zaa h).1,(zaa h).2⟩
theorem zhc {e:aL} {f:UnaryOp->aL->Bool} {P:aL->Prop} (h:onUn e f = true) (k:∀ op x p,f op x = true->P (.UnaryOp op x p)):P e :=
 dQ (congrArg P (zal (zaa h).1)) (k _ _ _ (zaa h).2)
noncomputable def onCmp (e:aL) (f:aL->List CmpOp->List aL->Bool):Bool:=(vwE e).tag == 5 && f (vwE e).w4 (vwE e).w9 (vwE e).w10
theorem zng {e:aL} {f:aL->List CmpOp->List aL->Bool} (h:onCmp e f = true):Ey4 (fun l ops rs p=>e = .Compare l ops rs p) (fun l ops rs p=>f l ops rs = true) :=
 ⟨(vwE e).w4,(vwE e).w9,(vwE e).w10,(vwE e).w1,zal (zaa h).1,(zaa h).2⟩
theorem zdg {e:aL} {f:aL->List CmpOp->List aL->Bool} {P:aL->Prop} (h:onCmp e f = true) (k:∀ l ops rs p,f l ops rs = true->P (.Compare l ops rs p)):P e :=
 dQ (congrArg P (zal (zaa h).1)) (k _ _ _ _ (zaa h).2)
noncomputable def onSub (e:aL) (f:aL->aL->Bool):Bool:=(vwE e).tag == 6 && f (vwE e).w4 (vwE e).w5
theorem zb5 {e:aL} {f:aL->aL->Bool} (h:onSub e f = true):Ey3 (fun v s p=>e = .Subscript v s p) (fun v s p=>f v s = true) :=
 ⟨(vwE e).w4,(vwE e).w5,(vwE e).w1,zal (zaa h).1,(zaa h).2⟩
theorem zbd {e:aL} {f:aL->aL->Bool} {P:aL->Prop} (h:onSub e f = true) (k:∀ v s p,f v s = true->P (.Subscript v s p)):P e :=
 dQ (congrArg P (zal (zaa h).1)) (k _ _ _ (zaa h).2)
noncomputable def onBool (e:aL) (f:PySem.BoolOp->List aL->Bool):Bool:=(vwE e).tag == 7 && f (vwE e).w11 (vwE e).w10
theorem ze9 {e:aL} {f:PySem.BoolOp->List aL->Bool} {P:aL->Prop} (h:onBool e f = true) (k:∀ op es p,f op es = true->P (.BoolOp op es p)):P e :=
 dQ (congrArg P (zal (zaa h).1)) (k _ _ _ (zaa h).2)
noncomputable def onIf (e:aL) (f:aL->aL->aL->Bool):Bool:=(vwE e).tag == 8 && f (vwE e).w4 (vwE e).w5 (vwE e).w6
theorem zg2 {e:aL} {f:aL->aL->aL->Bool} {P:aL->Prop} (h:onIf e f = true) (k:∀ t x y p,f t x y = true->P (.IfExp t x y p)):P e :=
 dQ (congrArg P (zal (zaa h).1)) (k _ _ _ _ (zaa h).2)
noncomputable def onSl (e:aL) (f:Option aL->Option aL->Option aL->Bool):Bool:=(vwE e).tag == 9 && f (vwE e).w12 (vwE e).w13 (vwE e).w14
theorem zet {e:aL} {f:Option aL->Option aL->Option aL->Bool} {P:aL->Prop} (h:onSl e f = true) (k:∀ lo hi st p,f lo hi st = true->P (.Slice lo hi st p)):P e :=
 dQ (congrArg P (zal (zaa h).1)) (k _ _ _ _ (zaa h).2)
noncomputable def onTup (e:aL) (f:List aL->Bool):Bool:=(vwE e).tag == 10 && f (vwE e).w10
theorem zhn {e:aL} {f:List aL->Bool} (h:onTup e f = true):Ey3 (fun es k p=>e = .Tuple es k p) (fun es k p=>f es = true) :=
 ⟨(vwE e).w10,(vwE e).w3,(vwE e).w1,zal (zaa h).1,(zaa h).2⟩
theorem za3 {e:aL} {f:List aL->Bool} {P:aL->Prop} (h:onTup e f = true) (k:∀ es k p,f es = true->P (.Tuple es k p)):P e :=
 dQ (congrArg P (zal (zaa h).1)) (k _ _ _ (zaa h).2)
noncomputable def onLst (e:aL) (f:List aL->Bool):Bool:=(vwE e).tag == 11 && f (vwE e).w10
theorem zha {e:aL} {f:List aL->Bool} (h:onLst e f = true):Ey2 (fun es p=>e = .List es p) (fun es p=>f es = true) :=
 ⟨(vwE e).w10,(vwE e).w1,zal (zaa h).1,(zaa h).2⟩
theorem zfy {e:aL} {f:List aL->Bool} {P:aL->Prop} (h:onLst e f = true) (k:∀ es p,f es = true->P (.List es p)):P e :=
 dQ (congrArg P (zal (zaa h).1)) (k _ _ (zaa h).2)
noncomputable def onCall (e:aL) (f:aL->List aL->List Keyword->Pos->Bool):Bool:=(vwE e).tag == 12 && f (vwE e).w4 (vwE e).w10 (vwE e).w15 (vwE e).w1
theorem zfu {e:aL} {f:aL->List aL->List Keyword->Pos->Bool} (h:onCall e f = true):Ey4 (fun fn args kws p=>e = .Call fn args kws p) (fun fn args kws p=>f fn args kws p = true) :=
 ⟨(vwE e).w4,(vwE e).w10,(vwE e).w15,(vwE e).w1,zal (zaa h).1,(zaa h).2⟩
theorem zez {e:aL} {f:aL->List aL->List Keyword->Pos->Bool} {P:aL->Prop} (h:onCall e f = true) (k:∀ fn args kws p,f fn args kws p = true->P (.Call fn args kws p)):P e :=
 dQ (congrArg P (zal (zaa h).1)) (k _ _ _ _ (zaa h).2)
noncomputable def onAttr (e:aL) (f:aL->Str->Pos->Bool):Bool:=(vwE e).tag == 13 && f (vwE e).w4 (vwE e).w0 (vwE e).w1
theorem zk0 {e:aL} {f:aL->Str->Pos->Bool} (h:onAttr e f = true):Ey3 (fun o at1 ap=>e = .Attribute o at1 ap) (fun o at1 ap=>f o at1 ap = true) :=
 ⟨(vwE e).w4,(vwE e).w0,(vwE e).w1,zal (zaa h).1,(zaa h).2⟩
theorem zix {e:aL} {f:aL->Str->Pos->Bool} {P:aL->Prop} (h:onAttr e f = true) (k:∀ o at1 ap,f o at1 ap = true->P (.Attribute o at1 ap)):P e :=
 dQ (congrArg P (zal (zaa h).1)) (k _ _ _ (zaa h).2)
noncomputable def onDict (e:aL) (f:List (Option aL)->List aL->Bool):Bool:=(vwE e).tag == 14 && f (vwE e).w16 (vwE e).w10
theorem zi0 {e:aL} {f:List (Option aL)->List aL->Bool} {P:aL->Prop} (h:onDict e f = true) (k:∀ ks vs p,f ks vs = true->P (.Dict ks vs p)):P e :=
 dQ (congrArg P (zal (zaa h).1)) (k _ _ _ (zaa h).2)
noncomputable def onGen (e:aL) (f:aL->List Comprehension->Scope->Bool):Bool:=(vwE e).tag == 15 && f (vwE e).w4 (vwE e).w17 (vwE e).w18
theorem zle {e:aL} {f:aL->List Comprehension->Scope->Bool} {P:aL->Prop} (h:onGen e f = true) (k:∀ el gs sc p,f el gs sc = true->P (.GeneratorExp el gs sc p)):P e :=
 dQ (congrArg P (zal (zaa h).1)) (k _ _ _ _ (zaa h).2)
noncomputable def onLc (e:aL) (f:aL->List Comprehension->Scope->Bool):Bool:=(vwE e).tag == 16 && f (vwE e).w4 (vwE e).w17 (vwE e).w18
theorem zjf {e:aL} {f:aL->List Comprehension->Scope->Bool} (h:onLc e f = true):Ey4 (fun el gs sc p=>e = .ListComp el gs sc p) (fun el gs sc p=>f el gs sc = true) :=
 ⟨(vwE e).w4,(vwE e).w17,(vwE e).w18,(vwE e).w1,zal (zaa h).1,(zaa h).2⟩
theorem zew {e:aL} {f:aL->List Comprehension->Scope->Bool} {P:aL->Prop} (h:onLc e f = true) (k:∀ el gs sc p,f el gs sc = true->P (.ListComp el gs sc p)):P e :=
 dQ (congrArg P (zal (zaa h).1)) (k _ _ _ _ (zaa h).2)
noncomputable def onNameP (e:aL) (f:Str->Pos->Bool):Bool:=(vwE e).tag == 1 && f (vwE e).w0 (vwE e).w1
theorem zdw {e:aL} {f:Str->Pos->Bool} {P:aL->Prop} (h:onNameP e f = true) (k:∀ id p,f id p = true->P (.Name id p)):P e :=
 dQ (congrArg P (zal (zaa h).1)) (k _ _ (zaa h).2)
structure WS where
 tag:Nat
 w0:List aL
 w1:aL
 w2:aL
 w3:Pos
 w4:Operator
 w5:List cI
 w6:List cI
 w7:Option aL
 w8:Option aL
 w9:List ExceptHandler
noncomputable def d1:WS:=⟨0,[],dE,dE,default,.Add,[],[],none,none,[]⟩
noncomputable def d2:WS:=⟨12,[],dE,dE,default,.Add,[],[],none,none,[]⟩
noncomputable def vwS (e:cI):WS:=@Stmt.casesOn (fun O=>WS) e
 (fun O O O O O O O O O O=>d2) (fun O O O O O O O O O O=>d1) (fun O O O O O O O O O O O=>d2) (fun o p=>⟨6,[],dE,dE,p,.Add,[],[],o,none,[]⟩) (fun O O=>d1) (fun ts e1 p=>⟨1,ts,e1,dE,p,.Add,[],[],none,none,[]⟩) (fun O O O O O O O=>d1) (fun t op e1 p=>⟨2,[],t,e1,p,op,[],[],none,none,[]⟩) (fun O O O O O=>d1) (fun t i a b p=>⟨5,[],t,i,p,.Add,a,b,none,none,[]⟩) (fun O O O O O=>d1) (fun c a b p=>⟨4,[],c,dE,p,.Add,a,b,none,none,[]⟩) (fun c a b p=>⟨3,[],c,dE,p,.Add,a,b,none,none,[]⟩) (fun O O O=>d1) (fun O O O=>d1) (fun O O O=>d1) (fun o c p=>⟨7,[],dE,dE,p,.Add,[],[],o,c,[]⟩) (fun b hs a f p=>⟨11,[],dE,dE,p,.Add,b,[],none,none,hs⟩) (fun O O O O O=>d1) (fun O O O=>d1) (fun O O=>d1) (fun O O O O=>d1) (fun O O=>d1) (fun O O=>d1) (fun e1 p=>⟨8,[],e1,dE,p,.Add,[],[],none,none,[]⟩) (fun O=>d1) (fun p=>⟨9,[],dE,dE,p,.Add,[],[],none,none,[]⟩) (fun p=>⟨10,[],dE,dE,p,.Add,[],[],none,none,[]⟩)
noncomputable def rbS (w:WS) (e:cI) (n:Nat):cI:=List.getD [e,.Assign w.w0 w.w1 w.w3,.AugAssign w.w1 w.w4 w.w2 w.w3,.If w.w1 w.w5 w.w6 w.w3,.While w.w1 w.w5 w.w6 w.w3,.For w.w1 w.w2 w.w5 w.w6 w.w3,.Return w.w7 w.w3,.Raise w.w7 w.w8 w.w3,.Expr w.w1 w.w3,.Break w.w3,.Continue w.w3] n e
theorem zu5:(e:cI)->e = rbS (vwS e) e (vwS e).tag:=by
 intro e; cases e <;> rfl
theorem zcu {e:cI} {n:Nat} (h:((vwS e).tag == n) = true):e = rbS (vwS e) e n:=(zu5 e).trans (congrArg (rbS (vwS e) e) (aR h))
noncomputable def onAssign (e:cI) (f:List aL->aL->Pos->Bool):Bool:=(vwS e).tag == 1 && f (vwS e).w0 (vwS e).w1 (vwS e).w3
theorem zap {e:cI} {f:List aL->aL->Pos->Bool} {P:cI->Prop} (h:onAssign e f = true) (k:∀ ts e1 p,f ts e1 p = true->P (.Assign ts e1 p)):P e :=
 dQ (congrArg P (zcu (zaa h).1)) (k _ _ _ (zaa h).2)
noncomputable def onAug (e:cI) (f:aL->Operator->aL->Bool):Bool:=(vwS e).tag == 2 && f (vwS e).w1 (vwS e).w4 (vwS e).w2
theorem zky {e:cI} {f:aL->Operator->aL->Bool} {P:cI->Prop} (h:onAug e f = true) (k:∀ t op e1 p,f t op e1 = true->P (.AugAssign t op e1 p)):P e :=
 dQ (congrArg P (zcu (zaa h).1)) (k _ _ _ _ (zaa h).2)
noncomputable def onIfS (e:cI) (f:aL->List cI->List cI->Bool):Bool:=(vwS e).tag == 3 && f (vwS e).w1 (vwS e).w5 (vwS e).w6
theorem zlb {e:cI} {f:aL->List cI->List cI->Bool} {P:cI->Prop} (h:onIfS e f = true) (k:∀ c a b p,f c a b = true->P (.If c a b p)):P e :=
 dQ (congrArg P (zcu (zaa h).1)) (k _ _ _ _ (zaa h).2)
noncomputable def onWhile (e:cI) (f:aL->List cI->List cI->Bool):Bool:=(vwS e).tag == 4 && f (vwS e).w1 (vwS e).w5 (vwS e).w6
theorem zhx {e:cI} {f:aL->List cI->List cI->Bool} {P:cI->Prop} (h:onWhile e f = true) (k:∀ c a b p,f c a b = true->P (.While c a b p)):P e :=
 dQ (congrArg P (zcu (zaa h).1)) (k _ _ _ _ (zaa h).2)
noncomputable def onFor (e:cI) (f:aL->aL->List cI->List cI->Bool):Bool:=(vwS e).tag == 5 && f (vwS e).w1 (vwS e).w2 (vwS e).w5 (vwS e).w6
theorem zco {e:cI} {f:aL->aL->List cI->List cI->Bool} {P:cI->Prop} (h:onFor e f = true) (k:∀ t i a b p,f t i a b = true->P (.For t i a b p)):P e :=
 dQ (congrArg P (zcu (zaa h).1)) (k _ _ _ _ _ (zaa h).2)
noncomputable def onRet (e:cI) (f:Option aL->Bool):Bool:=(vwS e).tag == 6 && f (vwS e).w7
theorem zlh {e:cI} {f:Option aL->Bool} {P:cI->Prop} (h:onRet e f = true) (k:∀ o p,f o = true->P (.Return o p)):P e :=
 dQ (congrArg P (zcu (zaa h).1)) (k _ _ (zaa h).2)
noncomputable def onRaise (e:cI) (f:Option aL->Option aL->Bool):Bool:=(vwS e).tag == 7 && f (vwS e).w7 (vwS e).w8
theorem zhw {e:cI} {f:Option aL->Option aL->Bool} {P:cI->Prop} (h:onRaise e f = true) (k:∀ o c p,f o c = true->P (.Raise o c p)):P e :=
 dQ (congrArg P (zcu (zaa h).1)) (k _ _ _ (zaa h).2)
noncomputable def onExprS (e:cI) (f:aL->Bool):Bool:=(vwS e).tag == 8 && f (vwS e).w1
theorem zg1 {e:cI} {f:aL->Bool} {P:cI->Prop} (h:onExprS e f = true) (k:∀ e1 p,f e1 = true->P (.Expr e1 p)):P e :=
 dQ (congrArg P (zcu (zaa h).1)) (k _ _ (zaa h).2)
noncomputable def onBrk (e:cI) (f:Bool):Bool:=(vwS e).tag == 9 && f 
theorem zkm {e:cI} {f:Bool} {P:cI->Prop} (h:onBrk e f = true) (k:∀ p,f  = true->P (.Break p)):P e :=
 dQ (congrArg P (zcu (zaa h).1)) (k _ (zaa h).2)
noncomputable def onCnt (e:cI) (f:Bool):Bool:=(vwS e).tag == 10 && f 
theorem zk6 {e:cI} {f:Bool} {P:cI->Prop} (h:onCnt e f = true) (k:∀ p,f  = true->P (.Continue p)):P e :=
 dQ (congrArg P (zcu (zaa h).1)) (k _ (zaa h).2)
noncomputable def onMNm (e:ME) (f:Nat->Bool):Bool:=match e with | .nm i=>f i | _=>false
theorem znr {e:ME} {f:Nat->Bool} (h:onMNm e f = true):∃ i,e = .nm i/\f i = true:=by
 cases e <;> first | exact ⟨_,rfl,h⟩ | exact absurd h aJ
noncomputable def isNameE (e:aL):Bool:=onName e fun O=>true
noncomputable def on1 {α:Type} (l:List α) (f:α->Bool):Bool:=match l with | [x]=>f x | _=>false
theorem zl8 {α:Type} {l:List α} {f:α->Bool} (h:on1 l f = true):∃ x,l = [x]/\f x = true:=by
 rcases l with _ | ⟨x,_ | ⟨_,_⟩⟩ <;> first | exact ⟨_,rfl,h⟩ | exact absurd h aJ
theorem zah {α:Type} {l:List α} {f:α->Bool} {P:List α->Prop} (h:on1 l f = true) (k:∀ x,f x = true->P ([x])):P l:=by
 rcases l with _ | ⟨x,_ | ⟨_,_⟩⟩ <;> first | exact k _ h | exact absurd h aJ
noncomputable def on2 {α:Type} (l:List α) (f:α->α->Bool):Bool:=match l with | [x,y]=>f x y | _=>false
theorem zba {α:Type} {l:List α} {f:α->α->Bool} {P:List α->Prop} (h:on2 l f = true) (k:∀ x y,f x y = true->P ([x,y])):P l:=by
 rcases l with _ | ⟨x,_ | ⟨y,_ | ⟨_,_⟩⟩⟩ <;> first | exact k _ _ h | exact absurd h aJ
noncomputable def on3 {α:Type} (l:List α) (f:α->α->α->Bool):Bool:=match l with | [x,y,z]=>f x y z | _=>false
theorem zo4 {α:Type} {l:List α} {f:α->α->α->Bool} {P:List α->Prop} (h:on3 l f = true) (k:∀ x y z,f x y z = true->P ([x,y,z])):P l:=by
 rcases l with _ | ⟨x,_ | ⟨y,_ | ⟨z,_ | ⟨_,_⟩⟩⟩⟩ <;> first | exact k _ _ _ h | exact absurd h aJ
noncomputable def on4 {α:Type} (l:List α) (f:α->α->α->α->Bool):Bool:=match l with | [x,y,z,u]=>f x y z u | _=>false
theorem zpx {α:Type} {l:List α} {f:α->α->α->α->Bool} {P:List α->Prop} (h:on4 l f = true) (k:∀ x y z u,f x y z u = true->P ([x,y,z,u])):P l:=by
 rcases l with _ | ⟨x,_ | ⟨y,_ | ⟨z,_ | ⟨u,_ | ⟨_,_⟩⟩⟩⟩⟩ <;> first | exact k _ _ _ _ h | exact absurd h aJ
noncomputable def onCons {α:Type} (l:List α) (f:α->List α->Bool):Bool:=match l with | x :: r=>f x r | []=>false
theorem zla {α:Type} {l:List α} {f:α->List α->Bool} (h:onCons l f = true):Ey2 (fun x r=>l = x :: r) (fun x r=>f x r = true):=by
 cases l <;> first | exact ⟨_,_,rfl,h⟩ | exact absurd h aJ
theorem zaw {α:Type} {l:List α} {f:α->List α->Bool} {P:List α->Prop} (h:onCons l f = true) (k:∀ x r,f x r = true->P (x :: r)):P l:=by
 rcases l with _ | ⟨x,r⟩ <;> first | exact k _ _ h | exact absurd h aJ
noncomputable def onCmp1 (e:aL) (f:aL->CmpOp->aL->Bool):Bool:=onCmp e fun l ops rs=>on1 ops fun op=>on1 rs fun r=>f l op r
theorem zbe {e:aL} {f:aL->CmpOp->aL->Bool} (h:onCmp1 e f = true):Ey4 (fun l op r p=>e = .Compare l [op] [r] p) (fun l op r p=>f l op r = true):=by
 obtain ⟨l,ops,rs,p,rfl,h⟩:=zng h;obtain ⟨op,rfl,h⟩:=zl8 h;obtain ⟨r,rfl,h⟩:=zl8 h;exact ⟨_,_,_,_,rfl,h⟩
theorem zax {e:aL} {f:aL->CmpOp->aL->Bool} {P:aL->Prop} (h:onCmp1 e f = true) (k:∀ l op r p,f l op r = true->P (.Compare l [op] [r] p)):P e :=
 zdg h fun l ops rs p h=>zah (P:=fun ops=>P (.Compare l ops rs p)) h fun op h=>zah (P:=fun rs=>P (.Compare l [op] rs p)) h fun r h=>k l op r p h
noncomputable def onCallN (e:aL) (f:Str->List aL->Bool):Bool:=onCall e fun fn args kws O=>kws.isEmpty && onName fn fun id=>f id args
theorem zbg {e:aL} {f:Str->List aL->Bool} (h:onCallN e f = true):Ey4 (fun id np args p=>e = .Call (.Name id np) args [] p) (fun id np args p=>f id args = true):=by
 obtain ⟨fn,args,kws,p,rfl,h⟩:=zfu h;obtain ⟨h0,h⟩:=zaa h;obtain rfl:=bZ.mp h0;clear h0;obtain ⟨id,np,rfl,h⟩:=zbc h;exact ⟨_,_,_,_,rfl,h⟩
theorem zak {e:aL} {f:Str->List aL->Bool} {P:aL->Prop} (h:onCallN e f = true) (k:∀ id np args p,f id args = true->P (.Call (.Name id np) args [] p)):P e :=
 zez h fun fn args kws p h=>zcl (P:=fun kws=>P (.Call fn args kws p)) (zaa h).1 (zad (P:=fun fn=>P (.Call fn args [] p)) (zaa h).2 fun id np h=>k id np args p h)
noncomputable def onCallA (e:aL) (f:aL->Str->List aL->Bool):Bool:=onCall e fun fn args kws p=>kws.isEmpty && onAttr fn fun o at' ap=>ap.endLine == p.line && f o at' args
theorem zc0 {e:aL} {f:aL->Str->List aL->Bool} (h:onCallA e f = true):Ex5 fun o at' ap args p=>And3 (e = .Call (.Attribute o at' ap) args [] p) ((ap.endLine == p.line) = true) (f o at' args = true):=by
 obtain ⟨fn,args,kws,p,rfl,h⟩:=zfu h;obtain ⟨h0,h⟩:=zaa h;obtain rfl:=bZ.mp h0;clear h0;obtain ⟨o,at',ap,rfl,h⟩:=zk0 h;obtain ⟨h1,h⟩:=zaa h;exact ⟨_,_,_,_,_,rfl,h1,h⟩
theorem zbk {e:aL} {f:aL->Str->List aL->Bool} {P:aL->Prop} (h:onCallA e f = true) (k:∀ o at' ap args p,(ap.endLine == p.line) = true->f o at' args = true->P (.Call (.Attribute o at' ap) args [] p)):P e :=
 zez h fun fn args kws p h=>zcl (P:=fun kws=>P (.Call fn args kws p)) (zaa h).1 (zix (P:=fun fn=>P (.Call fn args [] p)) (zaa h).2 fun o a ap h=>k o a ap args p (zaa h).1 (zaa h).2)
noncomputable def onG (g:Comprehension) (f:aL->aL->List aL->Bool):Bool:=decide (g.is_async = 0) && f g.target g.iter g.ifs
theorem ztn {g:Comprehension} {f:aL->aL->List aL->Bool} (h:onG g f = true):Ey3 (fun t i c=>g = ⟨t,i,c,0⟩) (fun t i c=>f t i c = true):=by
 obtain ⟨t,i,c,a⟩:=g;obtain ⟨h0,h⟩:=zaa h;obtain rfl:a = 0:=of_decide_eq_true h0;exact ⟨_,_,_,rfl,h⟩
theorem zc7 {g:Comprehension} {f:aL->aL->List aL->Bool} {P:Comprehension->Prop} (h:onG g f = true) (k:∀ t i c,f t i c = true->P (⟨t,i,c,0⟩)):P g:=by
 obtain ⟨t,i,c,rfl,h⟩:=ztn h;exact k _ _ _ h
theorem getD_some {α:Type} {l:List (Option α)} {i:Nat} {x:α} (h:l.getD i none = some x):l[i]? = some (some x):=by
 rw [bL] at h
 cases e:l[i]? with
 | none=>rw [e] at h; cases h
 | some o=>rw [e] at h; exact congrArg some h
end
section
open PySem PySem.W PyProof.Rows
noncomputable def cEq (c:Const) (d:V):Bool:=match d with
 | .none=>decide (c = .none)
 | .bool b=>decide (c = .bool b)
 | .int i=>decide (c = .int i)
 | .bytes l=>decide (c = .bytes (l.map cK)) && l.all (· < 256)
 | _=>false
noncomputable def isI (d:V) (f:Int->Bool):Bool:=match d with
 | .int i=>f i
 | _=>false
noncomputable def chkC (d:V) (e:aL):Bool:=onConst e (fun c=>cEq c d) || onUn e fun op x=>op == .USub && onConst x fun c=>isI d fun j=>decide (c = .int (-j))
theorem zc4 {d:V} {e:aL} (h:chkC d e = true):(Ey3 (fun c k p=>e = .Constant c k p) (fun c k p=>cEq c d = true)) \/ Ey4 (fun j k p p'=>e = .UnaryOp .USub (.Constant (.int (-j)) k p) p') (fun j k p p'=>d = .int j):=by
 rcases (eQ _ _).mp h with h | h
 ·exact .inl (zb0 h)
 ·replace h:=zot h;obtain ⟨op,x,p,rfl,h⟩:=h;obtain ⟨h1,h⟩:=zaa h;obtain rfl:=aR h1;replace h:=zb0 h;clear h1;obtain ⟨c,k,p,rfl,h⟩:=h
  cases d with
  | int j =>
   obtain rfl:=of_decide_eq_true h;exact .inr ⟨_,_,_,_,rfl,rfl⟩
  | _=>exact absurd h aJ
noncomputable def nmIs (s:String) (e:aL):Bool:=onName e fun id=>id == (s:Str)
theorem zc3 {s:String} {e:aL} (h:nmIs s e = true):∃ p,e = .Name (s:Str) p:=by
 replace h:=zbc h;obtain ⟨id,p,rfl,h⟩:=h;obtain rfl:=aR h;exact ⟨p,rfl⟩
noncomputable def relN (K:Str->Option aY) (names:List (Str × aY)):List (Str × aY):=names.map fun (n,k)=>if (k == .free && K n == some .cell) then (n,.cell) else (n,k)
noncomputable def scOk (K:Str->Option aY) (sc:Scope):Bool :=
 sc.kind == .function && sc.names.lookup ("remaining" : Str) != some .local && sc.names.all fun x=>x.2 != .cell && (x.2 != .local || sc.names.lookup x.1 == some .local) && (x.2 != .free || K x.1 == some .cell)
noncomputable def inK (K:Str->Option aY) (sc:Scope):Str->Option aY:=fun x=>(relN K sc.names).lookup x
noncomputable def mask (K:Str->Option aY) (names:List (Option Str)):List (Option Str):=names.map fun o=>match o with
 | some n=>if K n == some .cell then some n else none
 | none=>none
noncomputable def nameOf (e:aL):Option Str:=if (vwE e).tag == 1 then some (vwE e).w0 else none
noncomputable def tgtNames (k:Nat) (t:aL):Option (List Str) :=
 if k = 0 then (nameOf t).map fun x=>[x]
 else if (vwE t).tag == 10 then ((vwE t).w10.mapM nameOf).bind fun xs=>if xs.length = k then some xs else none
 else none
noncomputable def b2Is:B2->String
 | .min => "min" | .max => "max" | .dm => "divmod"
noncomputable def constInt (i:Int) (e:aL):Bool:=onConst e fun c=>decide (c = .int i)
theorem zhs {i:Int} {e:aL} (h:constInt i e = true):Ex2 fun k p=>e = .Constant (.int i) k p:=by
 replace h:=zb0 h;obtain ⟨c,k,p,rfl,h⟩:=h;obtain rfl:=of_decide_eq_true h;exact ⟨k,p,rfl⟩
noncomputable def onInt (l:List Int) (es:List aL):Bool:=match l,es with
 | [],es=>es.isEmpty
 | i :: l,es=>onCons es fun e er=>constInt i e && onInt l er
noncomputable def unS (es:List (Option aL)):Option (List aL):=match es with
 | []=>some []
 | some e :: r=>(unS r).map (e :: ·)
 | none :: O=>none
noncomputable def signDict (ks:List (Option aL)) (vs:List aL):Bool:=onSome (unS ks) fun l=>onInt [116,110,118,102,114] l && onInt [9,10,11,12,13] vs
noncomputable def isB0E (r:aL):Bool:=onConst r fun c=>decide (c = .bytes [])
theorem zhr {e:aL} (h:isB0E e = true):Ex2 fun k p=>e = .Constant (.bytes []) k p:=by
 replace h:=zb0 h;obtain ⟨c,k,p,rfl,h⟩:=h;obtain rfl:=of_decide_eq_true h;exact ⟨k,p,rfl⟩
noncomputable def allEOk (x y:Str) (op:CmpOp) (r it:aL) (ifs:List aL) (sc:Scope):Bool:=op == .Eq && isB0E r && ifs.isEmpty && x == y && isNameE it && sc.kind == .function && sc.isCoroutine == false && sc.names.all (fun z=>z.2 == .local) && sc.names.lookup x == some .local && sc.names.lookup (".0" : Str) == some .local && !(x == (".0" : Str)) && !(x == ("__debug__" : Str))
noncomputable def lc2Ok (K:Str->Option aY) (x y p q:Str) (ifs ifs2:List aL) (sc:Scope):Bool:=ifs.isEmpty && ifs2.isEmpty && x == y && p == q && !(x == p) && scOk K sc && sc.names.lookup x == some .local && sc.names.lookup p == some .local && !(x == ("__debug__" : Str)) && !(p == ("__debug__" : Str))
mutual
noncomputable def chk (fns:List String):ME->(Str->Option aY)->List (Option Str)->aL->Bool
 | .nm i,K,names,e=>onName e fun id=>onSome (names.getD i none) (fun x=>x == id) && (K id == some .local || K id == some .cell) && !(id == ("__debug__" : Str))
 | .gl k,K,O,e=>onName e fun id=>onSome gtab[k]? (fun p=>id == (p.1:Str)) && K id == some .globalImplicit && !(id == ("__debug__" : Str))
 | .cst d,O,O1,e=>chkC d e
 | .bin o a b,K,names,e=>onBin e fun l op r=>op == o.py && chk fns a K names l && chk fns b K names r
 | .cmp o a b,K,names,e=>onCmp1 e fun l op r=>op == o.py && chk fns a K names l && chk fns b K names r
 | .cmp3 a b c,K,names,e=>onCmp e fun l ops rs=>ops == [.LtE,.LtE] && on2 rs fun m r=>chk fns a K names l && chk fns b K names m && chk fns c K names r
 | .isn a,K,names,e=>onCmp1 e fun l op r=>op == .Is && chk fns a K names l && chkC .none r
 | .isnn a,K,names,e=>onCmp1 e fun l op r=>op == .IsNot && chk fns a K names l && chkC .none r
 | .inn a b,K,names,e=>onCmp1 e fun l op r=>op == .In && chk fns a K names l && chk fns b K names r
 | .nin a b,K,names,e=>onCmp1 e fun l op r=>op == .NotIn && chk fns a K names l && chk fns b K names r
 | .npx a,K,names,e=>onCmp1 e fun l op r=>op == .NotIn && chk fns a K names l && nmIs "_POSIX_CLASSES" r && K ("_POSIX_CLASSES" : Str) == some .globalImplicit
 | .px a,K,names,e=>onSub e fun v s=>nmIs "_POSIX_CLASSES" v && K ("_POSIX_CLASSES" : Str) == some .globalImplicit && chk fns a K names s
 | .bool conj a l,K,names,e=>onBool e fun op es=>op == (if conj then .And else .Or) && onCons es fun e0 er=>chk fns a K names e0 && chks fns l K names er
 | .nt a,K,names,e=>onUn e fun op x=>op == .Not && chk fns a K names x
 | .ife c a b,K,names,e=>onIf e fun t x y=>chk fns c K names t && chk fns a K names x && chk fns b K names y
 | .idx a i,K,names,e=>onSub e fun v s=>chk fns a K names v && chk fns i K names s
 | .sl2 a lo hi,K,names,e=>onSub e fun v s=>chk fns a K names v && onSl s fun ol oh os=>os.isNone && onSome ol fun l=>onSome oh fun u=>chk fns lo K names l && chk fns hi K names u
 | .slL a lo,K,names,e=>onSub e fun v s=>chk fns a K names v && onSl s fun ol oh os=>os.isNone && oh.isNone && onSome ol fun l=>chk fns lo K names l
 | .slH a hi,K,names,e=>onSub e fun v s=>chk fns a K names v && onSl s fun ol oh os=>os.isNone && ol.isNone && onSome oh fun u=>chk fns hi K names u
 | .tup l,K,names,e=>onTup e fun es=>chks fns l K names es
 | .lsd l,K,names,e=>onLst e fun es=>chks fns l K names es
 | .call f l,K,names,e=>onCallN e fun id args=>onSome fns[f]? (fun x=>id == (x:Str)) && K id == some .globalImplicit && !(id == ("__debug__" : Str)) && chks fns l K names args
 | .bi1 b a,K,names,e=>onCallN e fun id args=>K id == some .globalImplicit && match b with
    | .isl=>id == ("isinstance" : Str) && on2 args fun x t=>chk fns a K names x && nmIs "list" t && K ("list" : Str) == some .globalImplicit
    | .isb=>id == ("isinstance" : Str) && on2 args fun x t=>chk fns a K names x && nmIs "bytes" t && K ("bytes" : Str) == some .globalImplicit
    | .len=>id == ("len" : Str) && on1 args fun x=>chk fns a K names x
    | .byt=>id == ("bytes" : Str) && on1 args fun x=>chk fns a K names x
    | .lst=>id == ("list" : Str) && on1 args fun x=>chk fns a K names x
 | .bi2 b a c,K,names,e=>onCallN e fun id args=>K id == some .globalImplicit && id == (b2Is b:Str) && on2 args fun x y=>chk fns a K names x && chk fns c K names y
 | .rng a b,K,names,e=>onCallN e fun id args=>id == ("list" : Str) && K ("list" : Str) == some .globalImplicit && on1 args fun e2=>onCallN e2 fun id2 zhz=>id2 == ("range" : Str) && K ("range" : Str) == some .globalImplicit && on2 zhz fun x y=>chk fns a K names x && chk fns b K names y
 | .join sep a,K,names,e=>onCallA e fun o at1 args=>chkC (.bytes sep) o && at1 == ("join" : Str) && on1 args fun x=>chk fns a K names x
 | .split c a,K,names,e=>onCallA e fun o at1 args=>chk fns a K names o && isNameE o && at1 == ("split" : Str) && on1 args fun x=>chkC (.bytes [c]) x
 | .getd a,K,names,e=>onCallA e fun o at1 args=>at1 == ("get" : Str) && onDict o (fun ks vs=>signDict ks vs) && onMNm a fun i=>on2 args fun x y=>onName x fun id=>onName y fun id' =>
     onSome (names.getD i none) (fun n=>n == id && n == id') && (K id == some .local || K id == some .cell) && !(id == ("__debug__" : Str))
 | .allE a,K,names,e=>onCallN e fun id args=>id == ("all" : Str) && K ("all" : Str) == some .globalImplicit && K ("remaining" : Str) == some .local && on1 args fun e2=>onGen e2 fun elt gens sc=>onCmp1 elt fun l op r=>on1 gens fun g=>onG g fun t it ifs =>
     onName l fun x=>onName t fun y=>allEOk x y op r it ifs sc && chk fns a K names it
 | .lc elt k iter cond,K,names,e=>onLc e fun ee gens sc=>on1 gens fun g=>onG g fun tgt it ifs=>scOk K sc && chk fns iter K names it && onSome (tgtNames k tgt) fun xs =>
     xs.all (fun x=>sc.names.lookup x == some .local) && decide xs.Nodup && chk fns elt (inK K sc) (mask (inK K sc) names++xs.map some) ee && chks fns cond (inK K sc) (mask (inK K sc) names++xs.map some) ifs
 | .lc2 a,K,names,e=>onLc e fun ee gens sc=>on2 gens fun g g2=>onG g fun t it ifs=>onG g2 fun t2 it2 ifs2=>onName ee fun x=>onName t fun p=>onName t2 fun y=>onName it2 fun q =>
     lc2Ok K x y p q ifs ifs2 sc && chk fns a K names it
noncomputable def chks (fns:List String):MEs->(Str->Option aY)->List (Option Str)->List aL->Bool
 | .nil,O,O1,es=>es.isEmpty
 | .cons a l,K,names,es=>onCons es fun e er=>chk fns a K names e && chks fns l K names er
end
theorem zcm {fs:List String} {K:Str->Option aY} {names:List (Option Str)} {es:List aL} (h:chks fs .nil K names es = true):es = []:=bZ.mp h
end
section
open PySem PySem.W PyProof.Rows PySem.Calls
structure GrX (P:aN) (W:aN->Prop) (s s':aC):Prop where
 ext:∀ b o,¬ W b->s.heap.get? b = some o->s'.heap.get? b = some o
 live:∀ b,(s.heap.get? b).isSome = true->(s'.heap.get? b).isSome = true
 tab:IsTab s.heap P->IsTab s'.heap P
 os:s'.os = s.os
 gens:AllBare s.gens->AllBare s'.gens
namespace GrX
variable {P:aN} {W W':aN->Prop} {s s' s'':aC}
theorem refl (s:aC):GrX P W s s:=⟨fun O O O e=>e,fun O h=>h,id,rfl,id⟩
theorem trans (a:GrX P W s s') (b:GrX P W s' s''):GrX P W s s'' :=
 ⟨fun x o h e=>b.ext x o h (a.ext x o h e),fun x h=>b.live x (a.live x h),fun t=>b.tab (a.tab t),b.os.trans a.os,fun g=>b.gens (a.gens g)⟩
theorem mono (h:∀ b,W b->W' b) (a:GrX P W s s'):GrX P W' s s':=⟨fun b o hb e=>a.ext b o (fun x=>hb (h b x)) e,a.live,a.tab,a.os,a.gens⟩
theorem trans' (a:GrX P W s s') (b:GrX P W' s' s'') (h:∀ b,W' b->W b \/ s.heap.get? b = none):GrX P W s s'' :=
 ⟨fun x o hx e=>b.ext x o (fun y=>(h x y).elim hx fun z=>by rw [e] at z; cases z) (a.ext x o hx e),fun x h=>b.live x (a.live x h),fun t=>b.tab (a.tab t),b.os.trans a.os,fun g=>b.gens (a.gens g)⟩
theorem of (g:Gr P s s') (hW:W P):GrX P W s s':=⟨fun b o hb e=>g.ext b o (fun q=>hb (q ▸ hW)) e,g.live,g.tab,g.os,g.gens⟩
theorem toGr (g:GrX P W s s') (hW:∀ b,W b->b = P):Gr P s s':=⟨fun b o hb e=>g.ext b o (fun q=>hb (hW b q)) e,g.live,g.tab,g.os,g.gens⟩
theorem keep {h':cZ} {k:Nat} (hk:∀ b o,s.heap.get? b = some o->h'.get? b = some o):GrX P W s { s with heap:=h',toks:=k } :=
 ⟨fun b o O e=>hk b o e,fun b h=>by obtain ⟨o,e⟩:=aH.mp h; exact aH.mpr ⟨o,hk _ _ e⟩,fun ⟨ps,e⟩=>⟨ps,hk _ _ e⟩,rfl,id⟩
theorem xok {X:aN->Prop} (g:GrX P W s s') (x:XOk X s.heap):XOk X s'.heap:=fun a ha=>g.live a (x a ha)
theorem one {a:aN} {h':cZ} {k:Nat} (hs:dS a s.heap h') (hl:(s.heap.get? a).isSome = true->(h'.get? a).isSome = true) (hP:IsTab s.heap P->a ≠ P) (hW:W a):GrX P W s { s with heap:=h',toks:=k } :=
 ⟨fun b o hb e=>(hs.2 b (fun q=>hb (q ▸ hW))).trans e,fun b h=>by
  by_cases q:b = a
  ·subst q; exact hl h
  ·show (h'.get? b).isSome = true;rw [hs.2 b q]; exact h,fun ⟨ps,e⟩=>⟨ps,(hs.2 P (fun q=>hP ⟨ps,e⟩ q.symm)).trans e⟩,rfl,id⟩
end GrX
theorem Rep.grx {P:aN} {W X:aN->Prop} {s s':aC} {d:V} {v:aD} (hX:∀ b,W b->X b) (g:GrX P W s s') (r:Rep X s.heap d v):Rep X s'.heap d v :=
 r.mono (fun O x=>x) fun b o hb e=>g.ext b o (fun q=>hb (hX b q)) e
theorem RepL.grx {P:aN} {W X:aN->Prop} {s s':aC} {d:List V} {v:List aD} (hX:∀ b,W b->X b) (g:GrX P W s s') (r:RepL X s.heap d v):RepL X s'.heap d v :=
 r.mono (fun O x=>x) fun b o hb e=>g.ext b o (fun q=>hb (hX b q)) e
section
variable {X X':aN->Prop} {h:cZ}
mutual
theorem Rep.avoid (hX:∀ a,X' a->(h.get? a).isSome = true->X a):∀ {d:V} {v:aD},Rep X h d v->Rep X' h d v
 | .none,O,r=>r
 | .bool O,O1,r=>r
 | .int O,O1,r=>r
 | .bytes O,O1,r=>r
 | .tup O,O1,⟨a,vs,e,x,⟨o,ho,q⟩,r⟩=>⟨a,vs,e,fun y=>x (hX _ y (by rw [ho]; rfl)),⟨o,ho,q⟩,RepL.avoid hX r⟩
 | .lst O,O1,⟨a,vs,e,x,⟨o,ho,q⟩,r⟩=>⟨a,vs,e,fun y=>x (hX _ y (by rw [ho]; rfl)),⟨o,ho,q⟩,RepL.avoid hX r⟩
theorem RepL.avoid (hX:∀ a,X' a->(h.get? a).isSome = true->X a):∀ {l:List V} {vs:List aD},RepL X h l vs->RepL X' h l vs
 | [],O,r=>r
 | O :: O1,O2,⟨v,r,e,a,b⟩=>⟨v,r,e,Rep.avoid hX a,RepL.avoid hX b⟩
end
end
theorem Rep.flat {X X':aN->Prop} {h h':cZ} {d:V} {v:aD} (hf:flat d = true) (r:Rep X h d v):Rep X' h' d v:=by
 cases d <;> first | exact r | exact absurd hf aJ
noncomputable def IsCls (h:cZ) (C:aN):Prop:=Ey17 (fun nm qn N bs bm hdct sn sub ab col dd k0 k1 k2 k3 k5 newId=>h.get? C = some (excClassObj nm qn C N bs bm hdct sn sub ab col dd k0 k1 k2 k3 k5 newId)) (fun nm qn N bs bm hdct sn sub ab col dd k0 k1 k2 k3 k5 newId=>bm.contains (.type "BaseException") = true)
structure Wd where
 pp:dC
 w:cF
 P:aN
 c0:aN
 C:aN
 D:aN
 sB:aC
 fs:List MFun
 fa:Nat->aN
 mg:Str->Option aD
 mb:Str->Option aD
noncomputable def fns (fs:List MFun):List String:=fs.map (fun O=>O.name)
noncomputable def btab:List (String × aD):=[("len",.builtin "len"),("min",.builtin "min"),("max",.builtin "max"),("divmod",.builtin "divmod"),("isinstance",.builtin "isinstance"),("bytes",.type "bytes"),
 ("list",.type "list"),("range",.type "range"),("enumerate",.type "enumerate"),("all",.builtin "all")]
structure Bs (W:Wd):Prop where
 g:W.sB.heap.Ns mainGlobals W.mg
 b:W.sB.heap.Ns builtinsNs W.mb
 nolimit:W.sB.heap.NoLimit
 tab:IsTab W.sB.heap W.P
 bt:∀ p ∈ btab,W.mg (p.1:Str) = none/\W.mb (p.1:Str) = some p.2
 gt:∀ (k:Nat) (p:String × V),gtab[k]? = some p->∃ v,W.mg (p.1:Str) = some v/\Rep (fun O=>O = W.P) W.sB.heap p.2 v
 fn:∀ (f:Nat) (fd:MFun),W.fs[f]? = some fd->W.mg (fd.name:Str) = some (.ref (W.fa f))/\Ey2 (fun o q=>W.sB.heap.get? (W.fa f) = some o) (fun o q=>o.data = .func q)
 cls:W.mg ("MalformedPattern" : Str) = some (.ref W.C)/\IsCls W.sB.heap W.C
 code0:∃ ps,W.sB.heap.IsCode W.c0 W.P ps/\W.sB.heap.TableAt W.c0 W.P ps
 bmod:W.sB.heap.BuiltinsAt W.mg W.P
 low:(W.sB.heap.get? sysModules).isSome = true
 dct:W.mg ("_POSIX_CLASSES" : Str) = some (.ref W.D)
 pin:∀ (A:bA) (E:aD->aC->Prop) (s:aC) (b:List Nat) (t:Tok) (Q:aD->aC->Prop),Gr W.P W.sB s->(∀ x ∈ b,x < 256)->(∀ s',Gr W.P s s'->Q (.bool (!(posix.lookup b).isSome)) s') ->
  wpAny (model W.pp W.w) A (compareOp .NotIn (.bytes (toB b) t) (.ref W.D)) Q E s
 pat:∀ (A:bA) (E:aD->aC->Prop) (s:aC) (b c:List Nat) (t:Tok) (value slice:aL) (Q:aD->aC->Prop),Gr W.P W.sB s->(∀ x ∈ b,x < 256)->posix.lookup b = some c->(∀ u s',Gr W.P s s'->Q (.bytes (toB c) u) s') ->
  wpAny (model W.pp W.w) A (subscriptTail value slice (.ref W.D) (.bytes (toB b) t)) Q E s
section
variable (W:Wd)
noncomputable def isFld (d:Data):Bool:=match d with
 | .fields O=>true
 | _=>false
theorem zbl {h:cZ} {P a:aN} {o:Obj} (t:IsTab h P) (ho:h.get? a = some o) (hd:isFld o.data = false):a ≠ P:=fun z=>by
 obtain ⟨ps,e⟩:=t;rw [z,e] at ho;exact absurd (congrArg (fun o:Option Obj=>o.map fun o=>isFld o.data) ho) (by rw [dN,dN,hd]; exact fun q=>Bool.noConfusion (bN q))
theorem zb1 {h:cZ} {P a:aN} (t:IsTab h P) (ho:h.get? a = none):a ≠ P:=fun z=>by
 obtain ⟨ps,e⟩:=t;rw [z,e] at ho
 cases ho
theorem zaq {h:cZ} {P a:aN} {m:Str->Option aD} (t:IsTab h P) (n:h.Ns a m):a ≠ P:=by
 rintro rfl;obtain ⟨ps,e⟩:=t;obtain ⟨o,es,ep,ho,hd,_⟩:=n;rw [e] at ho
 cases ho
 cases hd
theorem zhf {P:aN} {s s':aC} {a:aN} {m:Str->Option aD} (g:Gr P s s') (n:s.heap.Ns a m) (h:a ≠ P):s'.heap.Ns a m :=
 n.at' fun o e=>g.ext a o h e
theorem zcn {P:aN} {s s':aC} (t:IsTab s.heap P) (g:Gr P s s') (n:s.heap.NoLimit):s'.heap.NoLimit:=by
 obtain ⟨mc,a,b⟩:=n;exact ⟨mc,zhf g a (zaq t a),b⟩
theorem zhy {h h' B B':cZ} {l:List Env} (hk:∀ L o,L ∈ l.filterMap (fun O=>O.frame)->B.get? L = none->h.get? L = some o->(∀ vs,o.data ≠ .fields vs)->B'.get? L = none/\∃ o',h'.get? L = some o'/\∀ vs,o'.data ≠ .fields vs) (hf:h.FunFrames B l):h'.FunFrames B' l:=by
 induction l with
 | nil=>trivial
 | cons e r ih =>
  obtain ⟨hq,⟨L,o,hl,hn,ho,hd⟩,hr⟩:=hf;rw [eC,hl] at hk;obtain ⟨h1,o',h2,h3⟩:=hk L o List.mem_cons_self hn ho hd;exact ⟨hq,⟨L,o',hl,h1,h2,h3⟩,ih (fun L o hm=>hk L o (bU _ hm)) hr⟩
theorem zca {P:aN} {s s':aC} (t:IsTab s.heap P) (g:Gr P s s') {B:cZ} {l:List Env} (f:s.heap.FunFrames B l):s'.heap.FunFrames B l :=
 zhy (fun L o O hn ho hd=>⟨hn,o,g.ext L o (fun q=>by
  obtain ⟨ps,e⟩:=t;exact hd _ (congrArg Obj.data (bN (ho.symm.trans (q ▸ e))))) ho,hd⟩) f
noncomputable def hp0:cZ:={ objs:=#[] }
theorem zp4 (a:aN):hp0.get? a = none:=by
 cases h:hp0.get? a with
 | none=>rfl
 | some o=>exact absurd (bW h) (by simp [hp0])
noncomputable def Exc (Wr:aN->Prop) (l:List Env) (s:aC) (e:aD) (s':aC):Prop :=
 Ex3 fun x B a0=>And7 (e = .ref x) (Heap.FlyingW B l x (.ref W.C) a0 s'.heap) ((∀ b o,¬ Wr b->b ∉ l.filterMap (fun O=>O.frame)->s.heap.get? b = some o->B.get? b = some o)) (IsTab B W.P) ((∀ b o,¬ Wr b->s.heap.get? b = some o->(∀ vs,o.data ≠ .fields vs)->∃ sl,s'.heap.get? b = some { o with slots:=sl })) (s'.os = s.os) ((AllBare s.gens->AllBare s'.gens))
theorem Exc.back {W:Wd} {Wr Wr':aN->Prop} {l:List Env} {s s1:aC} {e:aD} {s':aC} (g:GrX W.P Wr s s1) (h:∀ b,Wr' b->Wr b \/ s.heap.get? b = none) (x:Exc W Wr' l s1 e s'):Exc W Wr l s e s':=by
 obtain ⟨x,B,a0,h1,h2,h3,h4,h5,h6,h7⟩:=x;have hn:∀ b o,¬ Wr b->s.heap.get? b = some o->¬ Wr' b:=fun b o hb e q=>(h b q).elim hb fun z=>by rw [e] at z; cases z
 exact ⟨x,B,a0,h1,h2,fun b o hb hl e=>h3 b o (hn b o hb e) hl (g.ext b o hb e),h4,fun b o hb e hd=>h5 b o (hn b o hb e) (g.ext b o hb e) hd,h6.trans g.os,fun q=>h7 (g.gens q)⟩
noncomputable def VarAt (env:Env) (X:aN->Prop) (s:aC) (n:Str) (d:V):Prop :=
 ∃ v,Rep X s.heap d v/\((env.kindOf n = some .local/\∃ m,s.heap.Ns env.locals m/\m n = some v) \/ (env.kindOf n = some .cell/\∃ c,And3 (env.cells.lookup n = some c) (c ≠ W.P) (s.heap.IsCell c (some v))))
structure EvV (env:Env) (names:List (Option Str)) (ρ:List (Option V)) (X:aN->Prop) (s:aC):Prop where
 len:names.length = ρ.length
 val:∀ (i:Nat) (n:Str) (d:V),names[i]? = some (some n)->ρ[i]? = some (some d)->VarAt W env X s n d
structure Cx (env:Env) (l:List Env) (A:bA) (n:Nat) (X:aN->Prop) (s:aC):Prop where
 hh:A.handled = none
 dep:A.depth+n < 1000
 un:A.units+3 * n <= 9000
 st:A.frames = some l
 fr:s.heap.FunFrames hp0 l
 base:Gr W.P W.sB s
 xok:XOk X s.heap
 xp:X W.P
 xb:∀ a,X a->a = W.P \/ W.sB.heap.get? a = none
 eg:env.globals = mainGlobals
 eb:env.builtins = builtinsNs
 ek:env.scope.kind = .function
 eq:env.kindOf ("remaining" : Str) = some .local->env.code = .ref W.c0
 ec:∀ x,env.kindOf x = some .cell->(env.cells.lookup x).isSome = true
variable {W}
theorem VarAt.gr {env:Env} {X:aN->Prop} {s s':aC} {n:Str} {d:V} (t:IsTab s.heap W.P) (hX:X W.P) (g:Gr W.P s s') (h:VarAt W env X s n d):VarAt W env X s' n d:=by
 obtain ⟨v,r,q⟩:=h;refine ⟨v,r.gr hX g,q.imp ?_ ?_⟩
 ·rintro ⟨hk,m,hm,hv⟩;exact ⟨hk,m,zhf g hm (zaq t hm),hv⟩
 ·rintro ⟨hk,c,hc,hne,o,ho,hd⟩;exact ⟨hk,c,hc,hne,o,g.ext c o hne ho,hd⟩
theorem EvV.gr {env:Env} {names:List (Option Str)} {ρ:List (Option V)} {X:aN->Prop} {s s':aC} (t:IsTab s.heap W.P) (hX:X W.P) (g:Gr W.P s s') (h:EvV W env names ρ X s):EvV W env names ρ X s' :=
 ⟨h.len,fun i n d h1 h2=>(h.val i n d h1 h2).gr t hX g⟩
theorem Cx.tab {env:Env} {l:List Env} {A:bA} {n:Nat} {X:aN->Prop} {s:aC} (B:Bs W) (c:Cx W env l A n X s):IsTab s.heap W.P:=c.base.tab B.tab
theorem Cx.gr {env:Env} {l:List Env} {A:bA} {n:Nat} {X:aN->Prop} {s s':aC} (B:Bs W) (g:Gr W.P s s') (c:Cx W env l A n X s):Cx W env l A n X s' :=
 ⟨c.hh,c.dep,c.un,c.st,zca (c.tab B) g c.fr,c.base.trans g,c.xok.gr g,c.xp,c.xb,c.eg,c.eb,c.ek,c.eq,c.ec⟩
theorem VarAt.load {env:Env} {A:bA} {E:aD->aC->Prop} {X:aN->Prop} {s:aC} {n:Str} {d:V} (hk:env.scope.kind = .function) (h:VarAt W env X s n d) :
  wpAny (model W.pp W.w) A (loadName env n) (fun v s'=>s' = s/\Rep X s.heap d v) E s:=by
 refine byC fun hG=>?_;obtain ⟨v,r,⟨hl,m,hm,hv⟩ | ⟨hl,c,hc,hne,hcell⟩⟩:=h
 ·refine hG ?_;exact dW hk hl hm hv ⟨rfl,r⟩
 ·refine hG ?_;exact wpAny_loadName_cell hk hl hc hcell ⟨rfl,r⟩
theorem Cx.g {env:Env} {l:List Env} {A:bA} {n:Nat} {X:aN->Prop} {s:aC} (B:Bs W) (c:Cx W env l A n X s):s.heap.Ns env.globals W.mg:=by
 rw [c.eg];exact zhf c.base B.g (zaq B.tab B.g)
theorem Cx.b {env:Env} {l:List Env} {A:bA} {n:Nat} {X:aN->Prop} {s:aC} (B:Bs W) (c:Cx W env l A n X s):s.heap.Ns env.builtins W.mb:=by
 rw [c.eb];exact zhf c.base B.b (zaq B.tab B.b)
theorem Cx.baseRep {env:Env} {l:List Env} {A:bA} {n:Nat} {X:aN->Prop} {s:aC} (c:Cx W env l A n X s) {d:V} {v:aD} (r:Rep (fun O=>O = W.P) W.sB.heap d v):Rep X s.heap d v:=by
 have r':Rep X W.sB.heap d v:=r.avoid fun a ha hl=>(c.xb a ha).elim id fun hge=>by
  rw [hge] at hl
  cases hl
 exact r'.gr c.xp c.base
section
variable {env:Env} {l:List Env} {A:bA} {n:Nat} {X:aN->Prop} {s:aC} {E:aD->aC->Prop}
theorem Cx.name_b (B:Bs W) (c:Cx W env l A n X s) {x:String} {v:aD} {pos:Pos} {Q:aD->aC->Prop} (hk:env.kindOf (x:Str) = some .globalImplicit) (hm:(x,v) ∈ btab) (h:Q v s) (hd:((x:Str) == ("__debug__" : Str)) = false) :
  wpAny (model W.pp W.w) A (eval (.Name (x:Str) pos) env) Q E s:=by
 refine dR ?_ hd;rw [loadName_read c.ek hk];obtain ⟨h1,h2⟩:=B.bt _ hm;exact loadGlobal_builtin (c.g B) h1 (c.b B) h2 h
theorem Cx.name_g (B:Bs W) (c:Cx W env l A n X s) {x:Str} {v:aD} {pos:Pos} {Q:aD->aC->Prop} (hk:env.kindOf x = some .globalImplicit) (hm:W.mg x = some v) (h:Q v s) (hd:(x == ("__debug__" : Str)) = false) :
  wpAny (model W.pp W.w) A (eval (.Name x pos) env) Q E s:=by
 refine dR ?_ hd;rw [loadName_read c.ek hk];exact loadGlobal_global (c.g B) hm h
end
end
noncomputable def SE (W:Wd) (l:List Env) (A:bA) (E:aD->aC->Prop) (X:aN->Prop) (s:aC) (t:Sem aD) (r:R V):Prop :=
 r ≠ .st->(r = .ex->∀ e s',Exc W (fun O=>O = W.P) l s e s'->E e s')->wpAny (model W.pp W.w) A t (fun v s'=>∃ d,And3 (r = .ok d) (Gr W.P s s') (Rep X s'.heap d v)) E s
noncomputable def SB (W:Wd) (l:List Env) (A:bA) (E:aD->aC->Prop) (s:aC) (t:Sem Bool) (r:R Bool):Prop :=
 r ≠ .st->(r = .ex->∀ e s',Exc W (fun O=>O = W.P) l s e s'->E e s')->wpAny (model W.pp W.w) A t (fun b s'=>r = .ok b/\Gr W.P s s') E s
noncomputable def SL (W:Wd) (l:List Env) (A:bA) (E:aD->aC->Prop) (X:aN->Prop) (s:aC) (t:Sem (List aD)) (r:R (List V)):Prop :=
 r ≠ .st->(r = .ex->∀ e s',Exc W (fun O=>O = W.P) l s e s'->E e s')->wpAny (model W.pp W.w) A t (fun v s'=>∃ d,And3 (r = .ok d) (Gr W.P s s') (RepL X s'.heap d v)) E s
section
variable {W:Wd} {l:List Env} {A:bA} {E:aD->aC->Prop} {X:aN->Prop} {s:aC}
theorem Exc.gr {s1 s':aC} {e:aD} (g:Gr W.P s s1) (x:Exc W (fun O=>O = W.P) l s1 e s'):Exc W (fun O=>O = W.P) l s e s' :=
 x.back (.of g rfl) fun O h=>.inl h
theorem exE {α:Type} {r:R α} {s1:aC} (g:Gr W.P s s1) (h:r = .ex->∀ e s',Exc W (fun O=>O = W.P) l s e s'->E e s'):r = .ex->∀ e s',Exc W (fun O=>O = W.P) l s1 e s'->E e s' :=
 fun q e s' x=>h q e s' (x.gr g)
theorem SE.one {α:Type} {t:Sem aD} {r:R V} {k:aD->Sem α} {f:V->R α} {Q:α->aC->Prop} (h:SE W l A E X s t r) (hn:r.bind f ≠ .st) (hE:r.bind f = .ex->∀ e s',Exc W (fun O=>O = W.P) l s e s'->E e s')
  (hk:∀ d v s1,r = .ok d->Gr W.P s s1->Rep X s1.heap d v->wpAny (model W.pp W.w) A (k v) Q E s1):wpAny (model W.pp W.w) A t (fun v s1=>wpAny (model W.pp W.w) A (k v) Q E s1) E s:=by
 refine aG (h (fun q=>hn (by rw [q]; rfl)) fun q=>hE (by rw [q]; rfl)) (fun v s1 ⟨d,hr,g,rp⟩=>hk d v s1 hr g rp) fun O O x=>x
theorem SE.to {β:Type} {t:Sem aD} {r:R V} {f:V->R β} {Q:aD->aC->Prop} (h:SE W l A E X s t r) (hn:r.bind f ≠ .st) (hE:r.bind f = .ex->∀ e s',Exc W (fun O=>O = W.P) l s e s'->E e s')
  (hk:∀ d v s1,r = .ok d->Gr W.P s s1->Rep X s1.heap d v->Q v s1):wpAny (model W.pp W.w) A t Q E s:=by
 refine aG (h (fun q=>hn (by rw [q]; rfl)) fun q=>hE (by rw [q]; rfl)) (fun v s1 ⟨d,hr,g,rp⟩=>hk d v s1 hr g rp) fun O O x=>x
theorem SB.to {β:Type} {t:Sem Bool} {r:R Bool} {f:Bool->R β} {Q:Bool->aC->Prop} (h:SB W l A E s t r) (hn:r.bind f ≠ .st) (hE:r.bind f = .ex->∀ e s',Exc W (fun O=>O = W.P) l s e s'->E e s')
  (hk:∀ v s1,r = .ok v->Gr W.P s s1->Q v s1):wpAny (model W.pp W.w) A t Q E s:=by
 refine aG (h (fun q=>hn (by rw [q]; rfl)) fun q=>hE (by rw [q]; rfl)) (fun v s1 ⟨hr,g⟩=>hk v s1 hr g) fun O O x=>x
theorem SL.to {β:Type} {t:Sem (List aD)} {r:R (List V)} {f:List V->R β} {Q:List aD->aC->Prop} (h:SL W l A E X s t r) (hn:r.bind f ≠ .st) (hE:r.bind f = .ex->∀ e s',Exc W (fun O=>O = W.P) l s e s'->E e s')
  (hk:∀ d v s1,r = .ok d->Gr W.P s s1->RepL X s1.heap d v->Q v s1):wpAny (model W.pp W.w) A t Q E s:=by
 refine aG (h (fun q=>hn (by rw [q]; rfl)) fun q=>hE (by rw [q]; rfl)) (fun v s1 ⟨d,hr,g,rp⟩=>hk d v s1 hr g rp) fun O O x=>x
theorem SE.go {β:Type} {t:Sem aD} {r:R V} {f:V->R β} {R0:R β} {Q:aD->aC->Prop} (h:SE W l A E X s t r) (hR:r.bind f = R0) (hn:R0 ≠ .st) (hE:R0 = .ex->∀ e s',Exc W (fun O=>O = W.P) l s e s'->E e s')
  (hk:∀ d v s1,f d = R0->Gr W.P s s1->Rep X s1.heap d v->Q v s1):wpAny (model W.pp W.w) A t Q E s:=by
 subst hR;exact SE.to h hn hE fun d v s1 hr g rp=>hk d v s1 (by rw [hr]; rfl) g rp
theorem SB.go {β:Type} {t:Sem Bool} {r:R Bool} {f:Bool->R β} {R0:R β} {Q:Bool->aC->Prop} (h:SB W l A E s t r) (hR:r.bind f = R0) (hn:R0 ≠ .st) (hE:R0 = .ex->∀ e s',Exc W (fun O=>O = W.P) l s e s'->E e s')
  (hk:∀ v s1,f v = R0->Gr W.P s s1->Q v s1):wpAny (model W.pp W.w) A t Q E s:=by
 subst hR;exact SB.to h hn hE fun v s1 hr g=>hk v s1 (by rw [hr]; rfl) g
theorem SL.go {β:Type} {t:Sem (List aD)} {r:R (List V)} {f:List V->R β} {R0:R β} {Q:List aD->aC->Prop} (h:SL W l A E X s t r) (hR:r.bind f = R0) (hn:R0 ≠ .st) (hE:R0 = .ex->∀ e s',Exc W (fun O=>O = W.P) l s e s'->E e s')
  (hk:∀ d v s1,f d = R0->Gr W.P s s1->RepL X s1.heap d v->Q v s1):wpAny (model W.pp W.w) A t Q E s:=by
 subst hR;exact SL.to h hn hE fun d v s1 hr g rp=>hk d v s1 (by rw [hr]; rfl) g rp
theorem SE.two {ta tb:Sem aD} {ra rb:R V} {f:V->V->Option V} {k:aD->aD->Sem aD} (ha:SE W l A E X s ta ra) (hb:∀ s1,Gr W.P s s1->SE W l A E X s1 tb rb) (hX:X W.P)
  (op:∀ x y d va vb s2,Gr W.P s s2->Rep X s2.heap x va->Rep X s2.heap y vb->f x y = some d->wpAny (model W.pp W.w) A (k va vb) (Post W.P X s2 d) E s2)
  (hn:(ra.bind fun x=>rb.bind fun y=>R.ofO (f x y)) ≠ .st) (hE:(ra.bind fun x=>rb.bind fun y=>R.ofO (f x y)) = .ex->∀ e s',Exc W (fun O=>O = W.P) l s e s'->E e s') :
  wpAny (model W.pp W.w) A ta (fun va s1=>wpAny (model W.pp W.w) A tb (fun vb s2=>wpAny (model W.pp W.w) A (k va vb) (fun v s'=>∃ d,And3 ((ra.bind fun x=>rb.bind fun y=>R.ofO (f x y)) = .ok d) (Gr W.P s s') (Rep X s'.heap d v)) E s2) E s1) E s:=by
 refine aG (ha (fun q=>hn (by rw [q]; rfl)) fun q=>hE (by rw [q]; rfl)) (fun va s1 ⟨x,hx,g1,rx⟩=>?_) fun O O x=>x;clear ha;subst hx;simp only [R.bind_ok] at hn hE |-;refine aG (hb s1 g1 (fun q=>hn (by rw [q]; rfl)) (exE g1 fun q=>hE (by rw [q]; rfl))) (fun vb s2 ⟨y,hy,g2,ry⟩=>?_) fun O O x=>x;clear hE hb;subst hy;simp only [R.bind_ok] at hn |-
 cases hf:f x y with
 | none=>rw [hf] at hn; exact absurd rfl hn
 | some d =>
  refine aG (op x y d va vb s2 (g1.trans g2) (rx.gr hX g2) ry hf) (fun v s' q=>⟨d,rfl,(g1.trans g2).trans q.1,q.2⟩) fun O O x=>x
theorem SE.op1 {ta:Sem aD} {ra:R V} {f:V->Option V} {k:aD->Sem aD} (ha:SE W l A E X s ta ra)
  (op:∀ x d va s2,Gr W.P s s2->Rep X s2.heap x va->f x = some d->wpAny (model W.pp W.w) A (k va) (Post W.P X s2 d) E s2)
  (hn:(ra.bind fun x=>R.ofO (f x)) ≠ .st) (hE:(ra.bind fun x=>R.ofO (f x)) = .ex->∀ e s',Exc W (fun O=>O = W.P) l s e s'->E e s') :
  wpAny (model W.pp W.w) A ta (fun va s1=>wpAny (model W.pp W.w) A (k va) (fun v s'=>∃ d,And3 ((ra.bind fun x=>R.ofO (f x)) = .ok d) (Gr W.P s s') (Rep X s'.heap d v)) E s1) E s:=by
 refine aG (ha (fun q=>hn (by rw [q]; rfl)) fun q=>hE (by rw [q]; rfl)) (fun va s1 ⟨x,hx,g1,rx⟩=>?_) fun O O x=>x;clear ha hE;subst hx;simp only [R.bind_ok] at hn |-
 cases hf:f x with
 | none=>rw [hf] at hn; exact absurd rfl hn
 | some d=>exact aG (op x d va s1 g1 rx hf) (fun v s' q=>⟨d,rfl,g1.trans q.1,q.2⟩) fun O O x=>x
theorem SE.of_post {t:Sem aD} {r:R V} {d:V} (hr:r = .ok d) (h:wpAny (model W.pp W.w) A t (Post W.P X s d) E s):SE W l A E X s t r:=fun O O =>
 aG h (fun O O q=>⟨d,hr,q.1,q.2⟩) fun O O x=>x
theorem SE.truth {t:Sem aD} {r:R V} {e:aL} {env:Env} (h:SE W l A E X s t r) (he:isTrue e env t = (do let v <- t; standAt e.pos; holding [v] (truthy v))):SB W l A E s (isTrue e env t) (tst r):=fun hn hE=>by
 refine isTrue_plain ?_ he;refine SE.one (f:=fun d=>R.ofO (vtruth d)) h hn hE fun d v s1 hr g rp=>?_;clear h hE;subst hr;unfold tst at hn |-;simp only [R.bind_ok] at hn |-
 cases hv:vtruth d with
 | none=>rw [hv] at hn; exact absurd rfl hn
 | some b=>exact aG (zeb rp hv) (fun b' s' q=>⟨by rw [q.1]; rfl,g.trans q.2⟩) fun O O x=>x
theorem SE.truthC {lx r:aL} {op:CmpOp} {pos:Pos} {env:Env} {t:Sem aD} {rr:R V} (h:SE W l A E X s (eval (.Compare lx [op] [r] pos) env) rr) :
  SB W l A E s (isTrue (.Compare lx [op] [r] pos) env t) (tst rr):=fun hn hE=>by
 have h1:wpAny (model W.pp W.w) A (eval (.Compare lx [op] [r] pos) env) (fun v s1=>wpAny (model W.pp W.w) A (truthy v) (fun b s'=>tst rr = .ok b/\Gr W.P s s') E s1) E s:=by
  refine SE.one (f:=fun d=>R.ofO (vtruth d)) h hn hE fun d v s1 hr g rp=>?_;clear h hE;subst hr;unfold tst at hn |-;simp only [R.bind_ok] at hn |-
  cases hv:vtruth d with
  | none=>rw [hv] at hn; exact absurd rfl hn
  | some b=>exact aG (zeb rp hv) (fun b' s' q=>⟨by rw [q.1]; rfl,g.trans q.2⟩) fun O O x=>x
 intro Γ p hΓ;have h2:=h1 Γ p hΓ;rw [eval_Compare1] at h2;rw [isTrue_Compare1];simp only [Sem.wp_bind',Sem.wp_holding,Sem.wp_cmd_standAt,Sem.wp_operate] at h2 |-;refine Sem.wp_mono _ Γ _ (fun a p₁ s₁ h₁=>Sem.wp_mono _ Γ _ (fun b p2 s₂ h₂=>Sem.wp_mono _ Γ _ (fun c p3 s₃ h₃=>?_) (fun O O O h'=>h') _ _ h₂) (fun O O O h'=>h') _ _ h₁) (fun O O O h'=>h') _ _ h2;exact h₃ Γ _ hΓ
end
noncomputable def CallOk (W:Wd) (n:Nat) (cf:Nat->List V->R V):Prop :=
 ∀ (f:Nat) (fd:MFun) (ds:List V) (vs:List aD) (A:bA) (X:aN->Prop) (s:aC) (l:List Env) (Q:aD->aC->Prop) (E:aD->aC->Prop),W.fs[f]? = some fd->A.handled = none->A.depth+n < 1000->A.units+3 * n <= 9000 ->
  A.frames = some l->s.heap.FunFrames hp0 l->Gr W.P W.sB s->XOk X s.heap->X W.P->(∀ a,X a->a = W.P \/ W.sB.heap.get? a = none)->RepL X s.heap ds vs->cf f ds ≠ .st ->
  (∀ d v s',cf f ds = .ok d->Gr W.P s s'->Rep X s'.heap d v->Q v s')->(∀ e s',cf f ds = .ex->Exc W (fun O=>O = W.P) l s e s'->E e s') ->
  wpAny (model W.pp W.w) A (call (.ref (W.fa f)) vs) Q E s
noncomputable def Snd (W:Wd) (n:Nat) (cf:Nat->List V->R V) (me:ME):Prop :=
 ∀ (K:Str->Option aY) (names:List (Option Str)) (e:aL) (env:Env) (l:List Env) (A:bA) (E:aD->aC->Prop) (X:aN->Prop) (s:aC) (ρ:List (Option V)),
  chk (fns W.fs) me K names e = true->(∀ x,env.kindOf x = K x)->Cx W env l A n X s->EvV W env names ρ X s->SE W l A E X s (eval e env) (ev cf me ρ)
noncomputable def SndT (W:Wd) (n:Nat) (cf:Nat->List V->R V) (me:ME):Prop :=
 ∀ (K:Str->Option aY) (names:List (Option Str)) (e:aL) (env:Env) (l:List Env) (A:bA) (E:aD->aC->Prop) (X:aN->Prop) (s:aC) (ρ:List (Option V)),
  chk (fns W.fs) me K names e = true->(∀ x,env.kindOf x = K x)->Cx W env l A n X s->EvV W env names ρ X s->SB W l A E s (isTrue e env (eval e env)) (tst (ev cf me ρ))
noncomputable def SndL (W:Wd) (n:Nat) (cf:Nat->List V->R V) (ms:MEs):Prop :=
 ∀ (K:Str->Option aY) (names:List (Option Str)) (es:List aL) (env:Env) (l:List Env) (A:bA) (E:aD->aC->Prop) (X:aN->Prop) (s:aC) (ρ:List (Option V)) (pos:Pos),
  chks (fns W.fs) ms K names es = true->(∀ x,env.kindOf x = K x)->Cx W env l A n X s->EvV W env names ρ X s->SL W l A E X s (spliced (backTo pos (starEach es env))) (evs cf ms ρ)
theorem zp5 {fs:List String} {me:ME} {K:Str->Option aY} {names:List (Option Str)} {e:aL} {p:Pos}:chk fs me K names (.Starred e p) = false:=by
 cases me <;> first | rfl | (unfold chk; rfl)
theorem zae {fs:List String} {me:ME} {K:Str->Option aY} {names:List (Option Str)} {e:aL} {es:List aL} {env:Env} (h:chk fs me K names e = true):starEach (e :: es) env = (false,eval e env) :: starEach es env:=by
 cases e <;> first | rfl | (rw [zp5] at h; cases h)
theorem zhd {fs:List String} {me:ME} {K:Str->Option aY} {names:List (Option Str)} {es:List aL} {k:Nat} {p:Pos}:chk fs me K names (.Set es k p) = false:=by
 cases me <;> first | rfl | (unfold chk; rfl)
theorem zb9 {fs:List String} {me:ME} {K:Str->Option aY} {names:List (Option Str)} {e:aL} {op:CmpOp} (h:chk fs me K names e = true):behindInMarks op e = false:=by
 cases e <;> first | rfl | (rw [zhd] at h; cases h)
theorem zdn {fs:List String} {me:ME} {K:Str->Option aY} {names:List (Option Str)} {e:aL} {env:Env} (h:chk fs me K names e = true) (x:aD):foldedSetIterable e env x = pure x:=by
 cases e <;> first | rfl | (rw [zhd] at h; cases h)
section
variable {W:Wd} {l:List Env} {A:bA} {E:aD->aC->Prop} {X:aN->Prop} {s:aC} {env:Env} {n:Nat}
theorem zbv {P':aN} {d:V} {e:aL} (h:chkC d e = true):wpAny (model W.pp W.w) A (eval e env) (Post P' X s d) E s:=by
 rcases zc4 h with ⟨c,k,p,rfl,h'⟩ | ⟨j,k,p,p',rfl,rfl⟩
 ·clear h;induction d using V.casesOn with
  | none =>
   obtain rfl:=of_decide_eq_true h';exact Constant_none ⟨.refl _,rfl⟩
  | bool b =>
   obtain rfl:=of_decide_eq_true h';exact Constant_bool ⟨.refl _,rfl⟩
  | int i =>
   obtain rfl:=of_decide_eq_true h';exact cC ⟨.toks,_,rfl⟩
  | bytes l =>
   obtain ⟨h1,h2⟩:=zaa h';clear h';obtain rfl:=of_decide_eq_true h1;exact wpAny_mkTextBytes ⟨.toks,fun x hx=>of_decide_eq_true (bS.mp h2 x hx),_,rfl⟩
  | _=>exact absurd h' aJ
 ·exact UnaryOp_ (cC (PySem.P.neg_int ⟨.toks,_,by rw [Int.neg_neg]⟩))
theorem zft {e:aL} (h:chkC .none e = true):Ex2 fun k p=>e = .Constant .none k p:=by
 rcases zc4 h with ⟨c,k,p,rfl,h'⟩ | ⟨j,k,p,p',rfl,h'⟩
 ·obtain rfl:=of_decide_eq_true h';exact ⟨_,_,rfl⟩
 ·cases h'
theorem Cx.fobj (B:Bs W) (c:Cx W env l A n X s) {f:Nat} {fd:MFun} (hf:W.fs[f]? = some fd):W.mg (fd.name:Str) = some (.ref (W.fa f))/\Ey2 (fun o q=>s.heap.get? (W.fa f) = some o) (fun o q=>o.data = .func q):=by
 obtain ⟨h1,o,q,ho,hd⟩:=B.fn f fd hf;exact ⟨h1,o,q,c.base.ext _ o (zbl B.tab ho (by rw [hd]; rfl)) ho,hd⟩
end
theorem zct {α β:Type} [BEq α] [LawfulBEq α]:∀ {l:List (α × β)} {n:α} {c:β},l.lookup n = some c->(n,c) ∈ l
 | (k,v) :: r,n,c,h=>by
  rw [bO] at h
  cases hb:n == k with
  | true=>rw [hb] at h; cases h; rw [beq_iff_eq.mp hb]; exact List.mem_cons_self
  | false=>rw [hb] at h; exact bU _ (zct h)
section
variable {W:Wd} {cf:Nat->List V->R V} {n:Nat}
set_option tactic.hygienic true in
theorem zp9 {i:Nat}:Snd W n cf (.nm i):=by
 intro K names e env l A E X s ρ hc hK c hv hn hE;apply zad hc;clear hc;intro id pos hc
 ·skip
  replace hc:=zac hc;obtain ⟨h1,h2,h3⟩:=hc
  try simp only [cA] at h1 h2 h3
  replace h1:=zar h1;obtain ⟨x,hx,h1⟩:=h1
  ·replace hx:=getD_some hx
   cases aR h1
   simp only [zu6] at hn |-
   split at hn
   ·rename_i d hd;have hl:=(hv.val i id d hx hd).load (A:=A) (E:=E) c.ek;refine dR ?_ h3;exact aG hl (fun v s' q=>⟨d,rfl,q.1 ▸ .refl _,q.1 ▸ q.2⟩) fun O O x=>x
   ·exact absurd rfl hn
theorem zqd (B:Bs W) {k:Nat}:Snd W n cf (.gl k):=by
 intro K names e env l A E X s ρ hc hK c hv hn hE;apply zad hc;clear hc;intro id pos hc
 ·skip
  replace hc:=zac hc;obtain ⟨h1,h2,h3⟩:=hc
  try simp only [cA] at h1 h2 h3
  replace h1:=zar h1;obtain ⟨p,hp,h1⟩:=h1
  ·skip
   cases aR h1
   obtain ⟨v,hv1,hv2⟩:=B.gt k p hp;refine c.name_g B (by rw [hK]; exact aR h2) hv1 ?_ h3;exact ⟨p.2,by simp only [zwr,hp],.refl _,c.baseRep hv2⟩
theorem zmw {d:V}:Snd W n cf (.cst d):=by
 intro K names e env l A E X s ρ hc hK c hv;exact .of_post rfl (zbv hc)
theorem zrk (B:Bs W) {o:Op} {a b:ME} (ha:Snd W n cf a) (hb:Snd W n cf b):Snd W n cf (.bin o a b):=by
 intro K names e env l A E X s ρ hc hK c hv hn hE;apply zfg hc;clear hc;intro _ _ _ _ hc
 ·replace hc:=zac hc;obtain ⟨hq0,h1,h2⟩:=hc;obtain rfl:=aR hq0
  try simp only [beq_iff_eq] at h1 h2
  refine wpAny_BinOp ?_;exact SE.two (k:=binaryOp o.py) (ha K names _ env l A E X s ρ h1 hK c hv) (fun s1 g=>hb K names _ env l A E X s1 ρ h2 hK (c.gr B g) (hv.gr (c.tab B) c.xp g)) c.xp
   (fun x y d va vb s2 g rx ry hf=>zvr (c.xok.gr g) rx ry hf) hn hE
theorem zde {A:bA} (c:A.units+3 * n <= 9000):A.units < cLine:=by have:cLine = 9900:=rfl; omega
theorem zsy (B:Bs W) {o:Cm} {a b:ME} (ha:Snd W n cf a) (hb:Snd W n cf b):Snd W n cf (.cmp o a b):=by
 intro K names e env l A E X s ρ hc hK c hv hn hE;apply zax hc;clear hc;intro _ _ _ _ hc
 ·skip
  ·replace hc:=zac hc;obtain ⟨hq0,h1,h2⟩:=hc;obtain rfl:=aR hq0
   try simp only [beq_iff_eq] at h1 h2
   refine eI ?_ (zb9 h2);exact SE.two (f:=fun x y=>(vcmp o x y).map .bool) (k:=compareOp o.py) (ha K names _ env l A E X s ρ h1 hK c hv) (fun s1 g=>hb K names _ env l A E X s1 ρ h2 hK (c.gr B g) (hv.gr (c.tab B) c.xp g)) c.xp
    (fun x y d va vb s2 g rx ry hf=>by
     obtain ⟨r,hr,rfl⟩:=aW.mp hf;exact zgx (zde c.un) rx ry hr) hn hE
theorem zre (B:Bs W) {a b:ME} (ha:Snd W n cf a) (hb:Snd W n cf b):Snd W n cf (.inn a b):=by
 intro K names e env l A E X s ρ hc hK c hv hn hE;apply zax hc;clear hc;intro _ _ _ _ hc
 ·skip
  ·replace hc:=zac hc;obtain ⟨hq0,h1,h2⟩:=hc;obtain rfl:=aR hq0
   try simp only [beq_iff_eq] at h1 h2
   refine eI ?_ (zb9 h2);exact SE.two (f:=fun x y=>(vin x y).map .bool) (k:=compareOp .In) (ha K names _ env l A E X s ρ h1 hK c hv) (fun s1 g=>hb K names _ env l A E X s1 ρ h2 hK (c.gr B g) (hv.gr (c.tab B) c.xp g)) c.xp
    (fun x y d va vb s2 g rx ry hf=>by
     obtain ⟨r,hr,rfl⟩:=aW.mp hf;exact zvd c.hh rx ry hr) hn hE
theorem zse (B:Bs W) {a b:ME} (ha:Snd W n cf a) (hb:Snd W n cf b):Snd W n cf (.nin a b):=by
 intro K names e env l A E X s ρ hc hK c hv hn hE;apply zax hc;clear hc;intro _ _ _ _ hc
 ·skip
  ·replace hc:=zac hc;obtain ⟨hq0,h1,h2⟩:=hc;obtain rfl:=aR hq0
   try simp only [beq_iff_eq] at h1 h2
   refine eI ?_ (zb9 h2);exact SE.two (f:=fun x y=>(vin x y).map fun r=>.bool (!r)) (k:=compareOp .NotIn) (ha K names _ env l A E X s ρ h1 hK c hv) (fun s1 g=>hb K names _ env l A E X s1 ρ h2 hK (c.gr B g) (hv.gr (c.tab B) c.xp g)) c.xp
    (fun x y d va vb s2 g rx ry hf=>by
     obtain ⟨r,hr,rfl⟩:=aW.mp hf;exact zpq c.hh rx ry hr) hn hE
theorem zqw (B:Bs W) {a:ME} (ha:Snd W n cf a):Snd W n cf (.isn a):=by
 intro K names e env l A E X s ρ hc hK c hv hn hE;generalize hR:ev cf (.isn a) ρ = R0 at hn hE |-;apply zax hc;clear hc;intro _ _ _ _ hc
 ·skip
  ·replace hc:=zac hc;obtain ⟨hq0,h1,h2⟩:=hc;obtain rfl:=aR hq0
   try simp only [beq_iff_eq] at h1 h2
   obtain ⟨k,p,rfl⟩:=zft h2;refine eI ?_ rfl;refine (ha K names _ env l A E X s ρ h1 hK c hv).go hR hn hE fun d v s1 hR1 g rp=>Constant_none ?_;exact aG (znz (P:=W.P) (X:=X) rp) (fun v s' q=>⟨_,hR1.symm,g.trans q.1,q.2⟩) fun O O x=>x
theorem zn9 (B:Bs W) {a:ME} (ha:Snd W n cf a):Snd W n cf (.isnn a):=by
 intro K names e env l A E X s ρ hc hK c hv hn hE;generalize hR:ev cf (.isnn a) ρ = R0 at hn hE |-;apply zax hc;clear hc;intro _ _ _ _ hc
 ·skip
  ·replace hc:=zac hc;obtain ⟨hq0,h1,h2⟩:=hc;obtain rfl:=aR hq0
   try simp only [beq_iff_eq] at h1 h2
   obtain ⟨k,p,rfl⟩:=zft h2;refine eI ?_ rfl;refine (ha K names _ env l A E X s ρ h1 hK c hv).go hR hn hE fun d v s1 hR1 g rp=>Constant_none ?_;exact aG (zg8 (P:=W.P) (X:=X) rp) (fun v s' q=>⟨_,hR1.symm,g.trans q.1,q.2⟩) fun O O x=>x
theorem zq8 (B:Bs W) {a:ME} (ha:Snd W n cf a):Snd W n cf (.npx a):=by
 intro K names e env l A E X s ρ hc hK c hv hn hE;generalize hR:ev cf (.npx a) ρ = R0 at hn hE |-;apply zax hc;clear hc;intro _ _ r _ hc
 ·skip
  ·skip
   replace hc:=za9 hc;obtain ⟨hq0,h1,h2,h3⟩:=hc;obtain rfl:=aR hq0
   try simp only [beq_iff_eq] at h1 h2 h3
   obtain ⟨_,rfl⟩:=zc3 h2
   ·skip
    refine eI ?_ rfl;refine (ha K names _ env l A E X s ρ h1 hK c hv).go hR hn hE fun d v s1 hR1 g rp=>?_;refine (c.gr B g).name_g B (by rw [hK]; exact h3) B.dct ?_ (by decide);unfold inPosix at hR1
    split at hR1
    ·obtain ⟨hb,t,rfl⟩:=rp;exact B.pin A E s1 _ t _ (c.base.trans g) hb fun s' g'=>⟨_,hR1.symm,g.trans g',rfl⟩
    ·exact absurd hR1.symm hn
set_option tactic.hygienic true in
theorem zuk (B:Bs W) {a:ME} (ha:Snd W n cf a):Snd W n cf (.px a):=by
 intro K names e env l A E X s ρ hc hK c hv hn hE;generalize hR:ev cf (.px a) ρ = R0 at hn hE |-;apply zbd hc;clear hc;intro v sl pos hc
 ·skip
  replace hc:=zac hc;obtain ⟨h2,h3,h1⟩:=hc
  try simp only [beq_iff_eq] at h2 h3 h1
  obtain ⟨_,rfl⟩:=zc3 h2
  ·skip
   refine Subscript_ (c.name_g B (by rw [hK]; exact h3) B.dct ?_ (by decide));refine (ha K names _ env l A E X s ρ h1 hK c hv).go hR hn hE fun d v s1 hR1 g rp=>?_;unfold atPosix at hR1
   split at hR1
   ·obtain ⟨hb,t,rfl⟩:=rp;rename_i b
    cases hp:posix.lookup b with
    | none=>rw [hp] at hR1; exact absurd hR1.symm hn
    | some q =>
     rw [hp] at hR1;refine B.pat A E s1 _ q t _ _ _ (c.base.trans g) hb hp fun u s' g'=>⟨.bytes q,hR1.symm,g.trans g',?_,u,rfl⟩;intro x hx;have:∀ p ∈ posix,∀ x ∈ p.2,x < 256:=by decide
     exact this (b,q) (zct hp) x hx
   ·exact absurd hR1.symm hn
end
section
variable {W:Wd} {cf:Nat->List V->R V} {n:Nat}
theorem zor:SndL W n cf .nil:=by
 intro K names es env l A E X s ρ pos hc hK c hv hn hE;obtain rfl:=zcm hc;exact spliced_nil ⟨[],rfl,.refl _,rfl⟩
theorem zm5 (B:Bs W) {a:ME} {ms:MEs} (ha:Snd W n cf a) (hl:SndL W n cf ms):SndL W n cf (.cons a ms):=by
 intro K names es env l A E X s ρ pos hc hK c hv hn hE;generalize hR:evs cf (.cons a ms) ρ = R0 at hn hE |-;apply zaw hc;clear hc;intro e er hc
 ·skip
  replace hc:=zaa hc;obtain ⟨h1,h2⟩:=hc;rw [zae h1];show wpAny _ _ (spliced ((false,eval e env) :: backTo pos (starEach er env))) _ _ _;refine spliced_cons ?_;refine (ha K names _ env l A E X s ρ h1 hK c hv).go hR hn hE fun d v s1 hR1 g rp=>?_;refine (hl K names _ env l A E X s1 ρ pos h2 hK (c.gr B g) (hv.gr (c.tab B) c.xp g)).go hR1 hn (exE g hE) fun ds vs s2 hR2 g2 rp2=>?_;exact ⟨_,hR2.symm,g.trans g2,v,vs,rfl,rp.gr c.xp g2,rp2⟩
set_option tactic.hygienic true in
theorem zra {ms:MEs} (hl:SndL W n cf ms):Snd W n cf (.tup ms):=by
 intro K names e env l A E X s ρ hc hK c hv hn hE;generalize hR:ev cf (.tup ms) ρ = R0 at hn hE |-;apply za3 hc;clear hc;intro _ _ _ hc
 ·refine wpAny_Tuple_spliced ?_;refine (hl K names _ env l A E X s ρ _ hc hK c hv).go hR hn hE fun ds vs s1 hR1 g rp=>?_;unfold dispL at hR1
  split at hR1
  ·rename_i hz;have e:=rp.length;exact ⟨by rw [cO]; omega,_,hR1.symm,g.trans .push',zmd (c.xok.gr g) rp rfl rfl ⟨_,rfl⟩⟩
  ·exact absurd hR1.symm hn
set_option tactic.hygienic true in
theorem zrt {ms:MEs} (hl:SndL W n cf ms):Snd W n cf (.lsd ms):=by
 intro K names e env l A E X s ρ hc hK c hv hn hE;generalize hR:ev cf (.lsd ms) ρ = R0 at hn hE |-;apply zfy hc;clear hc;intro _ _ hc
 ·refine wpAny_List_spliced ?_;refine (hl K names _ env l A E X s ρ _ hc hK c hv).go hR hn hE fun ds vs s1 hR1 g rp=>?_;unfold dispL at hR1
  split at hR1
  ·rename_i hz;have e:=rp.length;exact ⟨by rw [cO]; omega,_,hR1.symm,g.trans .push',ze0 (c.xok.gr g) rp rfl rfl ⟨_,rfl⟩⟩
  ·exact absurd hR1.symm hn
theorem zu9 {a:ME} (ha:Snd W n cf a):Snd W n cf (.nt a):=by
 intro K names e env l A E X s ρ hc hK c hv hn hE;apply zhc hc;clear hc;intro _ _ _ hc
 ·replace hc:=zaa hc;obtain ⟨hq0,h1⟩:=hc;obtain rfl:=aR hq0
  try simp only [beq_iff_eq] at h1
  refine UnaryOp_ (SE.op1 (f:=fun x=>(vtruth x).map fun r=>.bool (!r)) (k:=unaryOp .Not) (ha K names _ env l A E X s ρ h1 hK c hv) (fun x d va s2 g rx hf=>?_) hn hE);obtain ⟨r,hr,rfl⟩:=aW.mp hf;exact not_of (aG (zeb (P:=W.P) rx hr) (fun b s' q=>⟨q.2,by rw [q.1]; rfl⟩) fun O O x=>x)
theorem zq4 {a:ME} (ha:SndT W n cf a):SndT W n cf (.nt a):=by
 intro K names e env l A E X s ρ hc hK c hv hn hE;apply zhc hc;clear hc;intro _ _ _ hc
 ·replace hc:=zaa hc;obtain ⟨hq0,h1⟩:=hc;obtain rfl:=aR hq0
  try simp only [beq_iff_eq] at h1
  have e1:tst (ev cf (.nt a) ρ) = (tst (ev cf a ρ)).bind fun b=>.ok (!b):=by
   simp only [tst,zw9];induction ev cf a ρ using R.casesOn with
   | ok x =>
    simp only [R.bind_ok]
    cases vtruth x <;> rfl
   | ex=>rfl
   | st=>rfl
  rw [e1] at hn hE |-;refine isTrue_not ((ha K names _ env l A E X s ρ h1 hK c hv).to hn hE fun b s1 hr g=>?_);rw [hr];exact ⟨rfl,g⟩
theorem zrj (B:Bs W) {t a b:ME} (ht:SndT W n cf t) (ha:Snd W n cf a) (hb:Snd W n cf b):Snd W n cf (.ife t a b):=by
 intro K names e env l A E X s ρ hc hK c hv hn hE;apply zg2 hc;clear hc;intro _ _ _ _ hc
 ·replace hc:=zac hc;obtain ⟨h0,h1,h2⟩:=hc;have e1:ev cf (.ife t a b) ρ = (tst (ev cf t ρ)).bind fun r=>if r then ev cf a ρ else ev cf b ρ:=by
   simp only [tst,zqh];induction ev cf t ρ using R.casesOn with
   | ok x =>
    simp only [R.bind_ok]
    cases vtruth x with
    | none=>rfl
    | some r=>cases r <;> rfl
   | ex=>rfl
   | st=>rfl
  rw [e1] at hn hE |-;refine IfExp_ ((ht K names _ env l A E X s ρ h0 hK c hv).to hn hE fun r s1 hr g=>?_);rw [hr] at hn hE |-;simp only [R.bind_ok] at hn hE |-
  cases r with
  | true =>
   simp only [if_true] at hn hE |-;exact aG (ha K names _ env l A E X s1 ρ h1 hK (c.gr B g) (hv.gr (c.tab B) c.xp g) hn (exE g hE)) (fun v s' ⟨d,q1,q2,q3⟩=>⟨d,q1,g.trans q2,q3⟩) fun O O x=>x
  | false =>
   simp only [dI,if_false] at hn hE |-;exact aG (hb K names _ env l A E X s1 ρ h2 hK (c.gr B g) (hv.gr (c.tab B) c.xp g) hn (exE g hE)) (fun v s' ⟨d,q1,q2,q3⟩=>⟨d,q1,g.trans q2,q3⟩) fun O O x=>x
theorem zov (B:Bs W) {t a b:ME} (ht:SndT W n cf t) (ha:SndT W n cf a) (hb:SndT W n cf b):SndT W n cf (.ife t a b):=by
 intro K names e env l A E X s ρ hc hK c hv hn hE;apply zg2 hc;clear hc;intro _ _ _ _ hc
 ·replace hc:=zac hc;obtain ⟨h0,h1,h2⟩:=hc;have e1:tst (ev cf (.ife t a b) ρ) = (tst (ev cf t ρ)).bind fun r=>if r then tst (ev cf a ρ) else tst (ev cf b ρ):=by
   simp only [tst,zqh];induction ev cf t ρ using R.casesOn with
   | ok x =>
    simp only [R.bind_ok]
    cases vtruth x with
    | none=>rfl
    | some r=>cases r <;> rfl
   | ex=>rfl
   | st=>rfl
  rw [e1] at hn hE |-;refine isTrue_IfExp ((ht K names _ env l A E X s ρ h0 hK c hv).to hn hE fun r s1 hr g=>?_);rw [hr] at hn hE |-;simp only [R.bind_ok] at hn hE |-
  cases r with
  | true =>
   simp only [if_true] at hn hE |-;exact aG (ha K names _ env l A E X s1 ρ h1 hK (c.gr B g) (hv.gr (c.tab B) c.xp g) hn (exE g hE)) (fun v s' ⟨q1,q2⟩=>⟨q1,g.trans q2⟩) fun O O x=>x
  | false =>
   simp only [dI,if_false] at hn hE |-;exact aG (hb K names _ env l A E X s1 ρ h2 hK (c.gr B g) (hv.gr (c.tab B) c.xp g) hn (exE g hE)) (fun v s' ⟨q1,q2⟩=>⟨q1,g.trans q2⟩) fun O O x=>x
theorem zrz (B:Bs W) {a b:ME} (ha:Snd W n cf a) (hb:Snd W n cf b):Snd W n cf (.idx a b):=by
 intro K names e env l A E X s ρ hc hK c hv hn hE;apply zbd hc;clear hc;intro _ _ _ hc
 ·replace hc:=zaa hc;obtain ⟨h1,h2⟩:=hc;exact Subscript_ (SE.two (f:=vidx) (k:=subscriptTail _ _) (ha K names _ env l A E X s ρ h1 hK c hv) (fun s1 g=>hb K names _ env l A E X s1 ρ h2 hK (c.gr B g) (hv.gr (c.tab B) c.xp g)) c.xp
   (fun x y d va vb s2 g rx ry hf=>zu7 rx ry hf) hn hE)
theorem ze5 {value slice:aL} {l:List Env} {A:bA} {E:aD->aC->Prop} {X:aN->Prop} {s s1:aC} {env:Env} (c:Cx W env l A n X s) (g:Gr W.P s s1) {a d:V} {va vl vu:aD} {lo hi:Option Int} (ra:Rep X s1.heap a va)
  (pl:IsPart vl lo) (pu:IsPart vu hi) (h:vslice lo hi a = some d) :
  wpAny (model W.pp W.w) A (subscriptTail value slice va (.ref s1.heap.objs.size)) (fun v s'=>Gr W.P s s'/\Rep X s'.heap d v) E { s1 with heap:=s1.heap.push { cls:=.type "slice",data:=.fields #[vl,vu,.none] } }:=by
 have g1:Gr W.P s1 { s1 with heap:=s1.heap.push { cls:=.type "slice",data:=.fields #[vl,vu,.none] } }:=.push';exact aG (zpc (P:=W.P) (c.xok.gr (g.trans g1)) (ra.gr c.xp g1) (Heap.IsSliceOf.new _ _ _ _) pl pu h) (fun v s' q=>⟨(g.trans g1).trans q.1,q.2⟩) fun O O x=>x
theorem zd7 {X:aN->Prop} {h:cZ} {a:Int} {v:aD} (r:Rep X h (.int a) v):IsPart v (some a):=by
 obtain ⟨t,rfl⟩:=r;constructor
theorem zrx (B:Bs W) {a lo hi:ME} (ha:Snd W n cf a) (hlo:Snd W n cf lo) (hhi:Snd W n cf hi):Snd W n cf (.sl2 a lo hi):=by
 intro K names e env l A E X s ρ hc hK c hv hn hE;generalize hR:ev cf (.sl2 a lo hi) ρ = R0 at hn hE |-;apply zbd hc;clear hc;intro _ _ _ hc
 ·replace hc:=zaa hc;obtain ⟨h1,h2⟩:=hc;apply zet h2;clear h2;intro _ _ _ _ h2;replace h2:=zaa h2;refine byC fun hG=>?_;obtain ⟨h0,h2⟩:=h2;obtain rfl:=cD.mp h0;refine hG ?_;clear hG;apply za2 h2;clear h2;intro _ h2;apply za2 h2;clear h2;intro _ h2
  ·obtain ⟨h2,h3⟩:=zaa h2;refine Subscript_ ((ha K names _ env l A E X s ρ h1 hK c hv).go hR hn hE fun d v s1 hR1 g rp=>wpAny_Slice ?_);rw [evalPart_some,evalPart_some,evalPart_none];refine (hlo K names _ env l A E X s1 ρ h2 hK (c.gr B g) (hv.gr (c.tab B) c.xp g)).go hR1 hn (exE g hE) fun dl vl s2 hR2 g2 rp2=>?_;have g02:=g.trans g2;refine (hhi K names _ env l A E X s2 ρ h3 hK (c.gr B g02) (hv.gr (c.tab B) c.xp g02)).go hR2 hn (exE g02 hE) fun dh vh s3 hR3 g3 rp3=>aV ?_;refine byC fun hG=>?_;obtain ⟨r,h4,hR4⟩:=R.ofO_inv hR3 hn;obtain ⟨_,h5,h6⟩:=bind_inv h4;obtain ⟨_,h7,hs⟩:=bind_inv h6;obtain ⟨x,e1,rfl⟩:=zgn h5;obtain ⟨y,e2,rfl⟩:=zgn h7;refine hG ?_;exact aG (ze5 c (g02.trans g3) (rp.gr c.xp (g2.trans g3)) (zd7 (e1 ▸ rp2.gr c.xp g3)) (zd7 (e2 ▸ rp3)) hs) (fun v s' q=>⟨_,hR4,q.1,q.2⟩) fun O O x=>x
theorem zsp (B:Bs W) {a lo:ME} (ha:Snd W n cf a) (hlo:Snd W n cf lo):Snd W n cf (.slL a lo):=by
 intro K names e env l A E X s ρ hc hK c hv hn hE;generalize hR:ev cf (.slL a lo) ρ = R0 at hn hE |-;apply zbd hc;clear hc;intro _ _ _ hc
 ·replace hc:=zaa hc;obtain ⟨h1,h2⟩:=hc;apply zet h2;clear h2;intro _ _ _ _ h2;replace h2:=zaa h2;refine byC fun hG=>?_;obtain ⟨h0,h2⟩:=h2;replace h0:=zaa h0;obtain ⟨h0,h00⟩:=h0;obtain rfl:=cD.mp h0;obtain rfl:=cD.mp h00;refine hG ?_;clear hG;apply za2 h2;clear h2;intro _ h2
  ·refine Subscript_ ((ha K names _ env l A E X s ρ h1 hK c hv).go hR hn hE fun d v s1 hR1 g rp=>wpAny_Slice ?_);rw [evalPart_some,evalPart_none];refine (hlo K names _ env l A E X s1 ρ h2 hK (c.gr B g) (hv.gr (c.tab B) c.xp g)).go hR1 hn (exE g hE) fun dl vl s2 hR2 g2 rp2=>aV (aV ?_);refine byC fun hG=>?_;obtain ⟨r,h4,hR4⟩:=R.ofO_inv hR2 hn;obtain ⟨_,h5,hs⟩:=bind_inv h4;obtain ⟨x,e1,rfl⟩:=zgn h5;refine hG ?_;exact aG (ze5 c (g.trans g2) (rp.gr c.xp g2) (zd7 (e1 ▸ rp2)) .none hs) (fun v s' q=>⟨_,hR4,q.1,q.2⟩) fun O O x=>x
theorem zrg (B:Bs W) {a hi:ME} (ha:Snd W n cf a) (hhi:Snd W n cf hi):Snd W n cf (.slH a hi):=by
 intro K names e env l A E X s ρ hc hK c hv hn hE;generalize hR:ev cf (.slH a hi) ρ = R0 at hn hE |-;apply zbd hc;clear hc;intro _ _ _ hc
 ·replace hc:=zaa hc;obtain ⟨h1,h2⟩:=hc;apply zet h2;clear h2;intro _ _ _ _ h2;replace h2:=zaa h2;refine byC fun hG=>?_;obtain ⟨h0,h2⟩:=h2;replace h0:=zaa h0;obtain ⟨h0,h00⟩:=h0;obtain rfl:=cD.mp h0;obtain rfl:=cD.mp h00;refine hG ?_;clear hG;apply za2 h2;clear h2;intro _ h2
  ·refine Subscript_ ((ha K names _ env l A E X s ρ h1 hK c hv).go hR hn hE fun d v s1 hR1 g rp=>wpAny_Slice ?_);rw [evalPart_some,evalPart_none];refine aV ?_;refine (hhi K names _ env l A E X s1 ρ h2 hK (c.gr B g) (hv.gr (c.tab B) c.xp g)).go hR1 hn (exE g hE) fun dl vl s2 hR2 g2 rp2=>aV ?_;refine byC fun hG=>?_;obtain ⟨r,h4,hR4⟩:=R.ofO_inv hR2 hn;obtain ⟨_,h5,hs⟩:=bind_inv (o:=ivs (some dl)) h4;obtain ⟨x,e1,rfl⟩:=zgn h5;refine hG ?_;exact aG (ze5 c (g.trans g2) (rp.gr c.xp g2) .none (zd7 (e1 ▸ rp2)) hs) (fun v s' q=>⟨_,hR4,q.1,q.2⟩) fun O O x=>x
end
noncomputable def AllS (W:Wd) (n:Nat) (cf:Nat->List V->R V):MEs->Prop
 | .nil=>True
 | .cons e l=>Snd W n cf e/\SndT W n cf e/\AllS W n cf l
section
variable {W:Wd} {cf:Nat->List V->R V} {n:Nat}
noncomputable def bop (conj:Bool):BoolOp:=if conj then .And else .Or
theorem ziw {pos:Pos} {conj:Bool} {x y:Sem aD} {rest:List (Sem aD)} {M:Model} {A:bA} {E:aD->aC->Prop} {s:aC} {Q:aD->aC->Prop}
  (h:wpAny M A x (fun v s1=>wpAny M A (truthy v) (fun t s2=>if t = conj then wpAny M A (boolOp pos (bop conj) (y :: rest)) Q E s2 else Q v s2) E s1) E s) :
  wpAny M A (boolOp pos (bop conj) (x :: y :: rest)) Q E s:=by
 show wpAny M A (do
  let v <- x
  standAt pos
  let c <- holding [v] (truthy v)
  match bop conj,c with
  | .And,false | .Or,true=>pure v
  | O,O1=>boolOp pos (bop conj) (y :: rest)) Q E s
 refine aF (aG h (fun v s₁ h₁=>aF (eY (aF (dH (aG h₁ (fun c s₂ h₂=>?_) fun O O x=>x))))) fun O O x=>x);clear h₁ h
 cases conj <;> cases c <;> first | exact aV (by simpa using h₂) | (simp at h₂; exact h₂)
theorem SE.of {l:List Env} {A:bA} {E:aD->aC->Prop} {X:aN->Prop} {s:aC} {t:Sem aD} {r:R V} (h:∀ R0,r = R0->R0 ≠ .st->(R0 = .ex->∀ e s',Exc W (fun O=>O = W.P) l s e s'->E e s')->wpAny (model W.pp W.w) A t (fun v s'=>∃ d,And3 (R0 = .ok d) (Gr W.P s s') (Rep X s'.heap d v)) E s):SE W l A E X s t r:=fun hn hE=>h _ rfl hn hE
theorem SB.of {l:List Env} {A:bA} {E:aD->aC->Prop} {s:aC} {t:Sem Bool} {r:R Bool} (h:∀ R0,r = R0->R0 ≠ .st->(R0 = .ex->∀ e s',Exc W (fun O=>O = W.P) l s e s'->E e s')->wpAny (model W.pp W.w) A t (fun b s'=>R0 = .ok b/\Gr W.P s s') E s):SB W l A E s t r:=fun hn hE=>h _ rfl hn hE
theorem SE.at {l:List Env} {A:bA} {E:aD->aC->Prop} {X:aN->Prop} {s:aC} {t:Sem aD} {r R0:R V} (h:SE W l A E X s t r) (hR:r = R0) (hn:R0 ≠ .st) (hE:R0 = .ex->∀ e s',Exc W (fun O=>O = W.P) l s e s'->E e s'):wpAny (model W.pp W.w) A t (fun v s'=>∃ d,And3 (R0 = .ok d) (Gr W.P s s') (Rep X s'.heap d v)) E s:=by
 subst hR; exact h hn hE
theorem SB.at {l:List Env} {A:bA} {E:aD->aC->Prop} {s:aC} {t:Sem Bool} {r R0:R Bool} (h:SB W l A E s t r) (hR:r = R0) (hn:R0 ≠ .st) (hE:R0 = .ex->∀ e s',Exc W (fun O=>O = W.P) l s e s'->E e s'):wpAny (model W.pp W.w) A t (fun b s'=>R0 = .ok b/\Gr W.P s s') E s:=by
 subst hR; exact h hn hE
theorem SB.goh {β:Type} {l:List Env} {A:bA} {E:aD->aC->Prop} {s:aC} {t:Sem Bool} {r:R Bool} {f:Bool->R β} {R0:R β} {Q:Bool->aC->Prop} (h:SB W l A E s t r) (hR:r.bind f = R0) (hn:R0 ≠ .st) (hE:R0 = .ex->∀ e s',Exc W (fun O=>O = W.P) l s e s'->E e s')
  (hk:∀ v s1,r = .ok v->f v = R0->Gr W.P s s1->Q v s1):wpAny (model W.pp W.w) A t Q E s:=by
 subst hR;exact SB.to h hn hE fun v s1 hr g=>hk v s1 hr (by rw [hr]; rfl) g
theorem ifP {c:Prop} [Decidable c] {p q:Prop} (hc:c) (h:p):if c then p else q:=by rw [if_pos hc]; exact h
theorem ifN {c:Prop} [Decidable c] {p q:Prop} (hc:¬ c) (h:q):if c then p else q:=by rw [if_neg hc]; exact h
theorem zu8 {β:Type} {o:Option Bool} {g:Bool->R β} {R0:R β} (h:(match o with
  | some t=>g t
  | none=>.st) = R0) (hn:R0 ≠ .st):∃ t,o = some t/\g t = R0:=by
 cases o with
 | none=>exact absurd h.symm hn
 | some t=>exact ⟨t,rfl,h⟩
theorem zsq {r:R V} {b:Bool} (h:tst r = .ok b):∃ d,r = .ok d/\vtruth d = some b:=by
 induction r using R.casesOn with
 | ok d =>
  refine ⟨d,rfl,?_⟩
  cases ht:vtruth d with
  | none=>rw [tst,R.bind_ok,ht] at h; cases h
  | some t=>rw [tst,R.bind_ok,ht] at h; cases h; rfl
 | ex=>cases h
 | st=>cases h
theorem zpu {conj:Bool} {a:ME} {ms:MEs} {d:V} {ρ:List (Option V)} (hd:vtruth d = some conj):tst (evR cf conj (.cons a ms) d ρ) = (tst (ev cf a ρ)).bind fun b=>if b = conj then (ev cf a ρ).bind fun d'=>tst (evR cf conj ms d' ρ) else .ok b:=by
 simp only [zd8,hd,if_true,tst];induction ev cf a ρ using R.casesOn with
 | ok d' =>
  simp only [R.bind_ok]
  cases ht:vtruth d' with
  | none =>
   cases ms with
   | nil=>simp only [ziv,R.bind_ok,ht]; rfl
   | cons m ms=>simp only [zd8,ht]; rfl
  | some b =>
   simp only [R.ofO_some,R.bind_ok]
   by_cases hb:b = conj
   ·rw [if_pos hb]
   ·rw [if_neg hb]
    cases ms with
    | nil=>simp only [ziv,R.bind_ok,ht]; rfl
    | cons m ms=>simp only [zd8,ht,if_neg hb,R.bind_ok]; rfl
 | ex=>rfl
 | st=>rfl
theorem zdt (B:Bs W) {conj:Bool} {pos:Pos}:∀ (ms:MEs),AllS W n cf ms->∀ (K:Str->Option aY) (names:List (Option Str)) (es:List aL) (env:Env) (l:List Env) (A:bA) (E:aD->aC->Prop) (X:aN->Prop) (s:aC) (ρ:List (Option V)) (t0:Sem aD) (r0:R V),
  chks (fns W.fs) ms K names es = true->(∀ x,env.kindOf x = K x)->Cx W env l A n X s->EvV W env names ρ X s->SE W l A E X s t0 r0->SE W l A E X s (boolOp pos (bop conj) (t0 :: evalEach es env)) (r0.bind fun d=>evR cf conj ms d ρ)
 | .nil,O=>by
  intro K names es env l A E X s ρ t0 r0 hc hK c hv h0;obtain rfl:=zcm hc;have e1:(r0.bind fun d=>evR cf conj .nil d ρ) = r0:=by cases r0 <;> rfl
  rw [e1];exact h0
 | .cons a ms,⟨ha,O,hms⟩=>by
  intro K names es env l A E X s ρ t0 r0 hc hK c hv h0;apply zaw hc;clear hc;intro e er hc
  ·skip
   replace hc:=zaa hc;refine SE.of fun R0 hR hn hE=>ziw (h0.go hR hn hE fun d v s1 hR g rp=>?_);refine byC fun hG=>?_;obtain ⟨t,ht,hR⟩:=zu8 hR hn;refine hG ?_;clear hG;refine aG (zeb (P:=W.P) rp ht) (fun b s2 q=>?_) fun O O x=>x;refine byC fun hG=>?_;obtain ⟨rfl,g2⟩:=q;have g02:=g.trans g2
   by_cases hb:b = conj
   ·refine hG ?_;exact ifP hb (aG ((zdt B ms hms K names er env l A E X s2 ρ (eval e env) (ev cf a ρ) hc.2 hK (c.gr B g02) (hv.gr (c.tab B) c.xp g02) (ha K names e env l A E X s2 ρ hc.1 hK (c.gr B g02) (hv.gr (c.tab B) c.xp g02))).at ((if_pos hb).symm.trans hR) hn (exE g02 hE)) (fun v s' ⟨d,q1,q2,q3⟩=>⟨d,q1,g02.trans q2,q3⟩) fun O O x=>x)
   ·refine hG ?_;exact ifN hb ⟨d,hR.symm.trans (if_neg hb),g02,rp.gr c.xp g2⟩
theorem zoy (B:Bs W) {conj:Bool} {a:ME} {ms:MEs} (ha:Snd W n cf a) (hl:AllS W n cf ms):Snd W n cf (.bool conj a ms):=by
 intro K names e env l A E X s ρ hc hK c hv hn hE;apply ze9 hc;clear hc;intro _ _ _ hc
 ·replace hc:=zaa hc;obtain ⟨hq0,h1⟩:=hc;obtain rfl:=aR hq0
  try simp only [beq_iff_eq] at h1
  apply zaw h1;clear h1;intro _ _ h1
  ·simp only [bB] at h1;exact zdt B ms hl K names _ env l A E X s ρ _ _ h1.2 hK c hv (ha K names _ env l A E X s ρ h1.1 hK c hv) hn hE
theorem zdd (B:Bs W) {conj:Bool}:∀ (ms:MEs),AllS W n cf ms->∀ (K:Str->Option aY) (names:List (Option Str)) (es:List aL) (env:Env) (l:List Env) (A:bA) (E:aD->aC->Prop) (X:aN->Prop) (s:aC) (ρ:List (Option V)) (d:V),
  chks (fns W.fs) ms K names es = true->(∀ x,env.kindOf x = K x)->Cx W env l A n X s->EvV W env names ρ X s->vtruth d = some conj->SB W l A E s (allTrue (bop conj) es env) (tst (evR cf conj ms d ρ))
 | .nil,O=>by
  intro K names es env l A E X s ρ d hc hK c hv hd;obtain rfl:=zcm hc;intro hn hE;refine aV ⟨?_,.refl _⟩;simp only [ziv,tst,R.bind_ok,hd];clear hn hd hE
  cases conj <;> rfl
 | .cons a ms,⟨O,ha,hms⟩=>by
  intro K names es env l A E X s ρ d hc hK c hv hd;apply zaw hc;clear hc;intro e er hc
  ·skip
   replace hc:=zaa hc;refine SB.of fun R0 hR hn hE=>?_;show wpAny _ _ (do
    match bop conj,<- isTrue e env (eval e env) with
    | .And,false=>pure false
    | .Or,true=>pure true
    | O,O1=>allTrue (bop conj) er env) _ _ _
   refine aF ((ha K names e env l A E X s ρ hc.1 hK c hv).goh ((zpu hd).symm.trans hR) hn hE fun b s1 hr hR g=>?_)
   by_cases hb:b = conj
   ·obtain ⟨d',hx,hd'⟩:=zsq hr;replace hR:=(if_pos hb).symm.trans hR;rw [hx] at hR;have h3:=aG ((zdd B ms hms K names er env l A E X s1 ρ d' hc.2 hK (c.gr B g) (hv.gr (c.tab B) c.xp g) (hb ▸ hd')).at hR hn (exE g hE)) (fun b s' q=>(⟨q.1,g.trans q.2⟩:R0 = R.ok b/\Gr W.P s s')) fun O O x=>x;clear hd hd' hr
    cases (conj) <;> subst hb <;> exact h3
   ·have h3:=hR.symm.trans (if_neg hb);clear hR hd hr
    cases conj <;> cases b <;> first | exact absurd rfl hb | exact aV ⟨h3,g⟩
theorem zm3 (B:Bs W) {conj:Bool} {a:ME} {ms:MEs} (ha:Snd W n cf a) (ha':SndT W n cf a) (hl:AllS W n cf ms):SndT W n cf (.bool conj a ms):=by
 intro K names e env l A E X s ρ hc hK c hv hn hE;apply ze9 hc;clear hc;intro _ _ _ hc
 ·replace hc:=zaa hc;obtain ⟨hq0,h1⟩:=hc;obtain rfl:=aR hq0
  try simp only [beq_iff_eq] at h1
  apply zaw h1;clear h1;intro e0 er h1
  ·skip
   simp only [bB] at h1;have h:=zdd B (.cons a ms) ⟨ha,ha',hl⟩ K names (e0 :: er) env l A E X s ρ (.bool conj) (show (chk _ _ _ _ _ && chks _ _ _ _ _) = true by rw [h1.1,h1.2]; rfl) hK c hv rfl;have e1:tst (evR cf conj (.cons a ms) (.bool conj) ρ) = tst (ev cf (.bool conj a ms) ρ):=by
    simp only [zd8,vtruth,if_true,ztj]
   rw [e1] at h;exact h hn hE
end
section
variable {M:Model} {A:bA} {E:aD->aC->Prop} {s:aC} {env:Env} {pos:Pos} {Q:aD->aC->Prop}
inductive Plainly:aD->Prop
 | b (id:String):Plainly (.builtin id)
 | t (T:String):Plainly (.type T)
theorem zb4 {f:aD} (hf:Plainly f) {args:List (Bool × Sem aD)} (hp:args.any (fun O=>O.1) = false) (h:wpAny M A (evalArgs f true args []) (fun a s₁=>wpAny M A (call f a.pos a.kw) Q E s₁) E s):wpAny M A (callWith pos f [] args []) Q E s:=by
 cases hf with
 | b id=>exact Calls.callWith_builtin hp (by simpa using h)
 | t T=>exact PySem.callWith_type hp (by simpa using h)
theorem zik {f:aD} (hf:Plainly f) {x:aL} (hs:starEach [x] env = [(false,eval x env)]) (h:wpAny M A (eval x env) (fun v s1=>wpAny M A (call f [v]) Q E s1) E s) :
  wpAny M A (callWith pos f [] (backTo pos (starEach [x] env)) []) Q E s:=by
 rw [hs];exact zb4 hf rfl (evalArgs_plain (spliced_cons (aG h (fun v s1 h1=>spliced_nil h1) fun O O x=>x)))
theorem zhz {f:aD} (hf:Plainly f) {x y:aL} (hs:starEach [x,y] env = [(false,eval x env),(false,eval y env)])
  (h:wpAny M A (eval x env) (fun v s1=>wpAny M A (eval y env) (fun u s2=>wpAny M A (call f [v,u]) Q E s2) E s1) E s) :
  wpAny M A (callWith pos f [] (backTo pos (starEach [x,y] env)) []) Q E s:=by
 rw [hs];exact zb4 hf rfl (evalArgs_plain (spliced_cons (aG h (fun v s1 h1=>spliced_cons (aG h1 (fun u s2 h2=>spliced_nil h2) fun O O x=>x)) fun O O x=>x)))
theorem zfc {f:aD} {trees:List (Bool × Sem aD)} {Q:Args->aC->Prop} (ht:trees.all fun x=>!x.1) (h:wpAny M A (spliced trees) (fun vs s'=>Q ⟨vs,[]⟩ s') E s):wpAny M A (evalArgs f true trees []) Q E s:=by
 cases trees with
 | nil =>
  intro Γ p hΓ;have h1:=h Γ p hΓ;simp only [spliced,Sem.wp_pure'] at h1;exact PyProof.Rows.evalArgs_none h1 Γ p hΓ
 | cons x r =>
  obtain ⟨b,t⟩:=x;simp only [List.all_cons,bB,cA] at ht;obtain ⟨rfl,_⟩:=ht;exact evalArgs_plain h
end
section
variable {W:Wd} {cf:Nat->List V->R V} {n:Nat}
theorem zr5:(("len" : String),(.builtin "len" : aD)) ∈ btab:=.head _
theorem ztl:(("min" : String),(.builtin "min" : aD)) ∈ btab:=.tail _ (.head _)
theorem zsu:(("max" : String),(.builtin "max" : aD)) ∈ btab:=.tail _ (.tail _ (.head _))
theorem zku:(("divmod" : String),(.builtin "divmod" : aD)) ∈ btab:=.tail _ (.tail _ (.tail _ (.head _)))
theorem zcv:(("isinstance" : String),(.builtin "isinstance" : aD)) ∈ btab:=.tail _ (.tail _ (.tail _ (.tail _ (.head _))))
theorem zru:(("all" : String),(.builtin "all" : aD)) ∈ btab:=.tail _ (.tail _ (.tail _ (.tail _ (.tail _ (.tail _ (.tail _ (.tail _ (.tail _ (.head _)))))))))
theorem zhv:(("bytes" : String),(.type "bytes" : aD)) ∈ btab:=.tail _ (.tail _ (.tail _ (.tail _ (.tail _ (.head _)))))
theorem zf8:(("list" : String),(.type "list" : aD)) ∈ btab:=.tail _ (.tail _ (.tail _ (.tail _ (.tail _ (.tail _ (.head _))))))
theorem mem_range:(("range" : String),(.type "range" : aD)) ∈ btab:=.tail _ (.tail _ (.tail _ (.tail _ (.tail _ (.tail _ (.tail _ (.head _)))))))
theorem zgm:(("enumerate" : String),(.type "enumerate" : aD)) ∈ btab:=.tail _ (.tail _ (.tail _ (.tail _ (.tail _ (.tail _ (.tail _ (.tail _ (.head _))))))))
theorem zhu {fs:List String} {pos:Pos} {env:Env}:∀ {ms:MEs} {K:Str->Option aY} {names:List (Option Str)} {es:List aL},chks fs ms K names es = true->(backTo pos (starEach es env)).all (fun x=>!x.1) = true
 | .nil,O,O1,es,h=>by
  obtain rfl:=zcm h;rfl
 | .cons a ms,K,names,es,h=>by
  apply zaw h;clear h;intro _ _ h
  ·simp only [bB] at h;rw [zae h.1];show (!false && (backTo pos _).all _) = true;rw [zhu h.2];rfl
theorem ztb {fs:List MFun} {f:Nat} {x:String} (h:(fns fs)[f]? = some x):∃ fd,fs[f]? = some fd/\fd.name = x:=by
 unfold fns at h;rw [cV] at h;exact aW.mp h
theorem zox (B:Bs W) (hcf:CallOk W n cf) {f:Nat} {ms:MEs} (hl:SndL W n cf ms):Snd W n cf (.call f ms):=by
 intro K names e env l A E X s ρ hc hK c hv hn hE;generalize hR:ev cf (.call f ms) ρ = R0 at hn hE |-;apply zak hc;clear hc;intro id np args pos hc
 ·skip
  ·skip
   replace hc:=za9 hc;obtain ⟨h1,h2,h3,h4⟩:=hc
   try simp only [beq_iff_eq,cA] at h1 h2 h3 h4
   replace h1:=zar h1;obtain ⟨x,hx,h1⟩:=h1
   ·skip
    obtain rfl:=aR h1;obtain ⟨fd,hfd,rfl⟩:=ztb hx;obtain ⟨hm,o,q,ho,hd⟩:=c.fobj B hfd;refine eA rfl (c.name_g B (by rw [hK]; exact h2) hm ?_ h3);refine Calls.callWith_function (o:=o) (fd:=q) (zfc (zhu h4) ?_);refine (hl K names args env l A E X s ρ pos h4 hK c hv).go hR hn hE fun ds vs s1 hR1 g rp=>?_;replace hR1:cf f ds = R0:=hR1;subst hR1;have c1:=c.gr B g;refine ⟨⟨?_,hd⟩,hcf f fd ds vs A X s1 l _ E hfd c1.hh c1.dep c1.un c1.st c1.fr c1.base c1.xok c1.xp c1.xb rp hn (fun d v s' h g' r=>⟨d,h,g.trans g',r⟩) (fun e s' h x=>exE g hE h e s' x)⟩;obtain ⟨_,o',q',ho',_⟩:=c1.fobj B hfd;obtain ⟨_,o2,_,h2',h3'⟩:=B.fn f fd hfd;have hne:W.fa f ≠ W.P:=zbl B.tab h2' (by rw [h3']; rfl);exact g.ext _ o hne ho
theorem zms (B:Bs W) {l:List Env} {A:bA} {E:aD->aC->Prop} {X:aN->Prop} {s:aC} {env:Env} (c:Cx W env l A n X s) {K:Str->Option aY} (hK:∀ x,env.kindOf x = K x) {x:String} {v:aD} {e:aL} {Q:aD->aC->Prop} (h1:nmIs x e = true) (h2:K (x:Str) = some .globalImplicit) (hm:(x,v) ∈ btab)
  (hd:((x:Str) == ("__debug__" : Str)) = false) (h:Q v s):wpAny (model W.pp W.w) A (eval e env) Q E s:=by
 obtain ⟨_,rfl⟩:=zc3 h1
 ·skip
  exact c.name_b B (by rw [hK]; exact h2) hm h hd
theorem zsm (B:Bs W) {b:B1} {a:ME} (ha:Snd W n cf a):Snd W n cf (.bi1 b a):=by
 intro K names e env l A E X s ρ hc hK c hv hn hE;apply zak hc;clear hc;intro id np args pos hc
 ·skip
  ·skip
   replace hc:=zaa hc;obtain ⟨h1,h2⟩:=hc
   try simp only [beq_iff_eq] at h1 h2
   cases b with
   | isl =>
    replace h2:=zaa h2;obtain ⟨hq0,h2⟩:=h2;obtain rfl:=aR hq0
    try simp only [beq_iff_eq] at h2
    apply zba h2;clear h2;intro x t h2
    ·skip
     replace h2:=zac h2;obtain ⟨h3,h4,h5⟩:=h2
     try simp only [beq_iff_eq] at h3 h4 h5
     have hs:starEach [x,t] env = [(false,eval x env),(false,eval t env)]:=by
      rw [zae h3];obtain ⟨_,rfl⟩:=zc3 h4;rfl
     refine eA rfl (c.name_b B (by rw [hK]; exact h1) zcv (zhz (.b _) hs ?_) (by decide));refine (ha K names x env l A E X s ρ h3 hK c hv).to hn hE fun d v s1 hr g rp=>zms B (c.gr B g) hK h4 h5 zf8 (by decide) ?_;simp only [zqo,hr,R.bind_ok,vb1] at hn |-
     cases hf:vislist d with
     | none=>rw [hf] at hn; exact absurd rfl hn
     | some r=>exact aG (zmq (P:=W.P) rp hf) (fun v s' q=>⟨_,rfl,g.trans q.1,q.2⟩) fun O O x=>x
   | isb =>
    replace h2:=zaa h2;obtain ⟨hq0,h2⟩:=h2;obtain rfl:=aR hq0
    try simp only [beq_iff_eq] at h2
    apply zba h2;clear h2;intro x t h2
    ·skip
     replace h2:=zac h2;obtain ⟨h3,h4,h5⟩:=h2
     try simp only [beq_iff_eq] at h3 h4 h5
     have hs:starEach [x,t] env = [(false,eval x env),(false,eval t env)]:=by
      rw [zae h3];obtain ⟨_,rfl⟩:=zc3 h4;rfl
     refine eA rfl (c.name_b B (by rw [hK]; exact h1) zcv (zhz (.b _) hs ?_) (by decide));refine (ha K names x env l A E X s ρ h3 hK c hv).to hn hE fun d v s1 hr g rp=>zms B (c.gr B g) hK h4 h5 zhv (by decide) ?_;simp only [zqo,hr,R.bind_ok,vb1] at hn |-
     cases hf:visbytes d with
     | none=>rw [hf] at hn; exact absurd rfl hn
     | some r=>exact aG (zlf (P:=W.P) rp hf) (fun v s' q=>⟨_,rfl,g.trans q.1,q.2⟩) fun O O x=>x
   | len =>
    replace h2:=zaa h2;obtain ⟨hq0,h2⟩:=h2;obtain rfl:=aR hq0
    try simp only [beq_iff_eq] at h2
    apply zah h2;clear h2;intro x h2;have hs:starEach [x] env = [(false,eval x env)]:=zae h2;refine eA rfl (c.name_b B (by rw [hK]; exact h1) zr5 (zik (.b _) hs ?_) (by decide));exact SE.op1 (f:=vlen) (k:=fun v=>call (.builtin "len") [v]) (ha K names x env l A E X s ρ h2 hK c hv) (fun x d va s2 g rx hf=>zu3 rx hf) hn hE
   | byt =>
    replace h2:=zaa h2;obtain ⟨hq0,h2⟩:=h2;obtain rfl:=aR hq0
    try simp only [beq_iff_eq] at h2
    apply zah h2;clear h2;intro x h2;have hs:starEach [x] env = [(false,eval x env)]:=zae h2;refine eA rfl (c.name_b B (by rw [hK]; exact h1) zhv (zik (.t _) hs ?_) (by decide));exact SE.op1 (f:=vbytes) (k:=fun v=>call (.type "bytes") [v]) (ha K names x env l A E X s ρ h2 hK c hv) (fun x d va s2 g rx hf=>zn8 c.hh rx hf) hn hE
   | lst =>
    replace h2:=zaa h2;obtain ⟨hq0,h2⟩:=h2;obtain rfl:=aR hq0
    try simp only [beq_iff_eq] at h2
    apply zah h2;clear h2;intro x h2;have hs:starEach [x] env = [(false,eval x env)]:=zae h2;refine eA rfl (c.name_b B (by rw [hK]; exact h1) zf8 (zik (.t _) hs ?_) (by decide));exact SE.op1 (f:=vlist) (k:=fun v=>call (.type "list") [v]) (ha K names x env l A E X s ρ h2 hK c hv) (fun x d va s2 g rx hf=>zq0 (c.xok.gr g) rx hf) hn hE
theorem zrb (B:Bs W) {b:B2} {a a2:ME} (ha:Snd W n cf a) (hb:Snd W n cf a2):Snd W n cf (.bi2 b a a2):=by
 intro K names e env l A E X s ρ hc hK c hv hn hE;apply zak hc;clear hc;intro id np args pos hc
 ·skip
  ·skip
   replace hc:=zac hc;obtain ⟨h1,hq1,h2⟩:=hc;obtain rfl:=aR hq1
   try simp only [beq_iff_eq] at h1 h2
   apply zba h2;clear h2;intro x y h2
   ·skip
    replace h2:=zaa h2;obtain ⟨h3,h4⟩:=h2;have hs:starEach [x,y] env = [(false,eval x env),(false,eval y env)]:=by rw [zae h3,zae h4]; rfl
    clear hq1
    cases b with
    | min =>
     refine eA rfl (c.name_b B (by rw [hK]; exact h1) ztl (zhz (.b _) hs ?_) (by decide));exact SE.two (f:=vmin) (k:=fun v u=>call (.builtin "min") [v,u]) (ha K names x env l A E X s ρ h3 hK c hv) (fun s1 g=>hb K names y env l A E X s1 ρ h4 hK (c.gr B g) (hv.gr (c.tab B) c.xp g)) c.xp
      (fun x y d va vb s2 g rx ry hf=>zt4 c.hh rx ry hf) hn hE
    | max =>
     refine eA rfl (c.name_b B (by rw [hK]; exact h1) zsu (zhz (.b _) hs ?_) (by decide));exact SE.two (f:=vmax) (k:=fun v u=>call (.builtin "max") [v,u]) (ha K names x env l A E X s ρ h3 hK c hv) (fun s1 g=>hb K names y env l A E X s1 ρ h4 hK (c.gr B g) (hv.gr (c.tab B) c.xp g)) c.xp
      (fun x y d va vb s2 g rx ry hf=>ztt c.hh rx ry hf) hn hE
    | dm =>
     refine eA rfl (c.name_b B (by rw [hK]; exact h1) zku (zhz (.b _) hs ?_) (by decide));exact SE.two (f:=vdivmod) (k:=fun v u=>call (.builtin "divmod") [v,u]) (ha K names x env l A E X s ρ h3 hK c hv) (fun s1 g=>hb K names y env l A E X s1 ρ h4 hK (c.gr B g) (hv.gr (c.tab B) c.xp g)) c.xp
      (fun x y d va vb s2 g rx ry hf=>znc (c.xok.gr g) rx ry hf) hn hE
theorem zs9 (B:Bs W) {a b:ME} (ha:Snd W n cf a) (hb:Snd W n cf b):Snd W n cf (.rng a b):=by
 intro K names e env l A E X s ρ hc hK c hv hn hE;generalize hR:ev cf (.rng a b) ρ = R0 at hn hE |-;apply zak hc;clear hc;intro id1 p1 args pos hc
 ·skip
  ·replace hc:=zac hc;obtain ⟨hq0,h2,h5⟩:=hc;obtain rfl:=aR hq0
   try simp only [beq_iff_eq] at h2 h5
   apply zah h5;clear h5;intro e2 h5;apply zak h5;clear h5;intro id3 p3 ag2 pos2 h5;replace h5:=zac h5;obtain ⟨hq0,h4,h5⟩:=h5;obtain rfl:=aR hq0
   try simp only [beq_iff_eq] at h4 h5
   apply zba h5;clear h5;intro x y h5
   ·skip
    replace h5:=zaa h5;obtain ⟨h6,h7⟩:=h5;have hs:starEach [x,y] env = [(false,eval x env),(false,eval y env)]:=by rw [zae h6,zae h7]; rfl
    ·skip
     ·skip
      refine eA rfl (c.name_b B (by rw [hK]; exact h2) zf8 (zik (.t _) rfl ?_) (by decide));refine eA rfl (c.name_b B (by rw [hK]; exact h4) mem_range (zhz (.t _) hs ?_) (by decide));refine (ha K names x env l A E X s ρ h6 hK c hv).go hR hn hE fun d v s1 hR1 g rp=>?_;refine (hb K names y env l A E X s1 ρ h7 hK (c.gr B g) (hv.gr (c.tab B) c.xp g)).go hR1 hn (exE g hE) fun d2 v2 s2 hR2 g2 rp2=>?_
      cases hf:vrange d d2 with
      | none=>rw [hf] at hR2; exact absurd hR2.symm hn
      | some r =>
       rw [hf] at hR2;refine zp6 (P:=W.P) c.hh (c.xok.gr (g.trans g2)) (rp.gr c.xp g2) rp2 hf fun rv s3 g3 hq=>?_;exact aG (hq A c.hh) (fun v s' q=>⟨_,hR2.symm,(g.trans g2).trans q.1,q.2⟩) fun O O x=>x
theorem zom (B:Bs W) {sep:List Nat} {a:ME} (ha:Snd W n cf a):Snd W n cf (.join sep a):=by
 intro K names e env l A E X s ρ hc hK c hv hn hE;apply zbk hc;clear hc;intro o at' ap args pos h3 hc
 ·skip
  ·skip
   replace hc:=zac hc;obtain ⟨h1,hq1,h4⟩:=hc;obtain rfl:=aR hq1
   try simp only [beq_iff_eq] at h1 h4
   replace h3:=aR h3;apply zah h4;clear h4;intro x h4
   ·skip
    have hb:attributeBase o ("join" : Str) env (eval o env) = eval o env:=by
     rcases zc4 h1 with ⟨_,_,_,rfl,_⟩ | ⟨_,_,_,_,rfl,_⟩ <;> rfl
    refine Call_method1 hb (zae h4) (by simp [h3]) (aG (zbv (P':=W.P) (X:=X) h1) (fun ov s1 ⟨g,rp⟩=>?_) fun O O x=>x);obtain ⟨hs,t,rfl⟩:=rp;refine ⟨"bytes","bytes.join",FB.plainAttrs_bytes,F.slot_bytes_join,F.type_bytes_join,cL _ _ _,(fun O q=>nomatch q),?_⟩;refine Calls.callWith_builtin rfl (evalArgs_plain (spliced_cons ?_));refine aG (SE.op1 (f:=vjoin sep) (k:=fun v=>call (.builtin "bytes.join") [.bytes (toB sep) t,v]) (ha K names x env l A E X s1 ρ h4 hK (c.gr B g) (hv.gr (c.tab B) c.xp g)) (fun x d va s2 g' rx hf=>zq5 hs rx hf rfl) hn (exE g hE)) (fun v s' q=>spliced_nil (aG q (fun v s'' ⟨d,q1,q2,q3⟩=>⟨d,q1,g.trans q2,q3⟩) fun O O x=>x)) fun O O x=>x
set_option tactic.hygienic true in
theorem znb (B:Bs W) {ch:Nat} {a:ME} (ha:Snd W n cf a):Snd W n cf (.split ch a):=by
 intro K names e env l A E X s ρ hc hK c hv hn hE;generalize hR:ev cf (.split ch a) ρ = R0 at hn hE |-;apply zbk hc;clear hc;intro o at' ap args pos h3 hc
 ·skip
  ·skip
   replace hc:=za9 hc;obtain ⟨h1,h2,hq2,h4⟩:=hc;obtain rfl:=aR hq2
   try simp only [beq_iff_eq] at h1 h2 h4
   replace h3:=aR h3;apply zah h4;clear h4;intro x h4
   ·skip
    have hb:attributeBase o ("split" : Str) env (eval o env) = eval o env:=by
     clear h1;obtain ⟨_,_,rfl,_⟩:=zbc h2;rfl
    have hs:starEach [x] env = [(false,eval x env)]:=by
     rcases zc4 h4 with ⟨_,_,_,rfl,_⟩ | ⟨_,_,_,_,rfl,_⟩ <;> rfl
    refine Call_method1 hb hs (by simp [h3]) ((ha K names o env l A E X s ρ h1 hK c hv).go hR hn hE fun d v s1 hR1 g rp=>?_);unfold vsplit at hR1
    split at hR1
    ·split at hR1
     ·rename_i b hz;obtain ⟨hbm,t,rfl⟩:=id rp;refine ⟨"bytes","bytes.split",FB.plainAttrs_bytes,F.slot_bytes_split,F.type_bytes_split,cL _ _ _,(fun O q=>nomatch q),?_⟩;refine Calls.callWith_builtin rfl (evalArgs_plain (spliced_cons (aG (zbv (P':=W.P) (X:=X) h4) (fun u s2 ⟨g2,rp2⟩=>spliced_nil ?_) fun O O x=>x)));obtain ⟨hc2,t2,rfl⟩:=rp2;exact aG (zo7 (P:=W.P) (c.xok.gr (g.trans g2)) (hc2 ch (by simp)) (rp.gr c.xp g2) (by simp only [vsplit,if_pos hz]) rfl) (fun v s' q=>⟨_,hR1.symm,(g.trans g2).trans q.1,q.2⟩) fun O O x=>x
     ·exact absurd hR1.symm hn
    ·exact absurd hR1.symm hn
end
section
variable {W:Wd} {cf:Nat->List V->R V} {n:Nat}
theorem zbs {P:List aL->Prop} {i:Int} {l:List Int} {es:List aL} (h:onInt (i :: l) es = true) (k:∀ c q r,onInt l r = true->P (.Constant (.int i) c q :: r)):P es:=by
 cases es with
 | nil=>exact absurd h aJ
 | cons e r =>
  obtain ⟨h1,h2⟩:=zaa h;clear h;obtain ⟨c,q,rfl⟩:=zhs h1;exact k c q r h2
theorem zqm {a b c d e:Int} {es:List aL} (h:onInt [a,b,c,d,e] es = true):Ex10 fun k1 k2 k3 k4 k5 q1 q2 q3 q4 q5=>es = [.Constant (.int a) k1 q1,.Constant (.int b) k2 q2,.Constant (.int c) k3 q3,.Constant (.int d) k4 q4,.Constant (.int e) k5 q5]:=by
 apply zbs h;intro c1 q1 r h;apply zbs h;intro c2 q2 r h;apply zbs h;intro c3 q3 r h;apply zbs h;intro c4 q4 r h;apply zbs h;intro c5 q5 r h;obtain rfl:=bZ.mp (show List.isEmpty r = true from h);exact ⟨_,_,_,_,_,_,_,_,_,_,rfl⟩
theorem zqa:∀ {ks:List (Option aL)} {l:List aL},unS ks = some l->ks = l.map some
 | [],O,h=>by cases h; rfl
 | none :: O,O1,h=>nomatch h
 | some e :: r,l,h=>by
  obtain ⟨l',h1,rfl⟩:=aW.mp h;rw [zqa h1]; rfl
theorem zii {ks:List (Option aL)} {vs:List aL} (h:signDict ks vs = true):Ey20 (fun k1 k2 k3 k4 k5 v1 v2 v3 v4 v5 q1 q2 q3 q4 q5 r1 r2 r3 r4 r5=>ks = [some (.Constant (.int 116) k1 q1),some (.Constant (.int 110) k2 q2),some (.Constant (.int 118) k3 q3),some (.Constant (.int 102) k4 q4),some (.Constant (.int 114) k5 q5)]) (fun k1 k2 k3 k4 k5 v1 v2 v3 v4 v5 q1 q2 q3 q4 q5 r1 r2 r3 r4 r5=>vs = [.Constant (.int 9) v1 r1,.Constant (.int 10) v2 r2,.Constant (.int 11) v3 r3,.Constant (.int 12) v4 r4,.Constant (.int 13) v5 r5]):=by
 replace h:=zar h;refine byC fun hG=>?_;obtain ⟨l,h0,h⟩:=h;replace h:=zaa h;obtain ⟨h1,h2⟩:=h;obtain ⟨_,_,_,_,_,_,_,_,_,_,rfl⟩:=zqm h1;obtain ⟨_,_,_,_,_,_,_,_,_,_,rfl⟩:=zqm h2;refine hG ?_;exact ⟨_,_,_,_,_,_,_,_,_,_,_,_,_,_,_,_,_,_,_,_,zqa h0,rfl⟩
noncomputable def signKv (t:Nat):List (Int × aD):=[(116,.int 9 (t+1)),(110,.int 10 (t+3)),(118,.int 11 (t+5)),(102,.int 12 (t+7)),(114,.int 13 (t+9))]
theorem zkz (t:Nat) (i:Int) (v:aD) {u:Tok} (hv:v = .int i u):∃ t',(valueAt (signKv t) i).getD v = .int (if i = 116 then 9 else if i = 110 then 10 else if i = 118 then 11 else if i = 102 then 12 else if i = 114 then 13 else i) t':=by
 subst hv;unfold valueAt signKv
 by_cases h1:i = 116
 ·subst h1; exact ⟨_,rfl⟩
 by_cases h2:i = 110
 ·subst h2; exact ⟨_,rfl⟩
 by_cases h3:i = 118
 ·clear h1 h2;subst h3; exact ⟨_,rfl⟩
 by_cases h4:i = 102
 ·clear h1 h2 h3;subst h4; exact ⟨_,rfl⟩
 by_cases h5:i = 114
 ·clear h1 h4 h2 h3;subst h5; exact ⟨_,rfl⟩
 rw [if_neg h1,if_neg h2,if_neg h3,if_neg h4,if_neg h5];have e1:(116 = i) = False:=by simp; omega
 have e2:(110 = i) = False:=by simp; omega
 have e3:(118 = i) = False:=by simp; omega
 have e4:(102 = i) = False:=by simp; omega
 have e5:(114 = i) = False:=by simp; omega
 exact ⟨u,by simp [List.find?,e1,e2,e3,e4,e5]⟩
theorem zns {prog:dC} {w:cF} {A:bA} {E:aD->aC->Prop} {s:aC} {env:Env} {pos:Pos} {k1 k2 k3 k4 k5 v1 v2 v3 v4 v5:Nat} {q1 q2 q3 q4 q5 r1 r2 r3 r4 r5:Pos} {Q:aD->aC->Prop}
  (h:∀ h',h'.DictOf (intKind prog w) s.heap.objs.size (signKv s.toks)->(∀ b o,s.heap.get? b = some o->h'.get? b = some o)->∀ tk,Q (.ref s.heap.objs.size) { s with heap:=h',toks:=tk }) :
  wpAny (model prog w) A (eval (.Dict [some (.Constant (.int 116) k1 q1),some (.Constant (.int 110) k2 q2),some (.Constant (.int 118) k3 q3),some (.Constant (.int 102) k4 q4),some (.Constant (.int 114) k5 q5)]
   [.Constant (.int 9) v1 r1,.Constant (.int 10) v2 r2,.Constant (.int 11) v3 r3,.Constant (.int 12) v4 r4,.Constant (.int 13) v5 r5] pos) env) Q E s:=by
 refine wpAny_Dict_walk (knd:=intKind prog w) ?_ ?_ ?_ ?_ ?_
 ·rfl
 ·rfl
 ·simp
 ·simp
 refine eZ (cC (cC ?_));refine eZ (cC (cC ?_));refine eZ (cC (cC ?_));refine eZ (cC (cC ?_));refine eZ (cC (cC ?_));refine pairTrees_nil_walk ?_;refine display_done_int rfl (by simp [intKeyPairs]) (Heap.DictOf.new _) fun h' hd hs=>?_;exact h h' hd (fun b o e=>(hs.2 b (fF (bW e))).trans (bG _ e)) _
set_option maxHeartbeats 4000000 in
set_option tactic.hygienic true in
theorem zkc (B:Bs W) {a:ME}:Snd W n cf (.getd a):=by
 intro K names e env l A E X s ρ hc hK c hv hn hE;apply zbk hc;clear hc;intro o at' ap args pos h3 hc
 ·skip
  ·skip
   replace hc:=zac hc;obtain ⟨hq0,h1,h4⟩:=hc;obtain rfl:=aR hq0
   try simp only [beq_iff_eq] at h1 h4
   replace h3:=aR h3;apply zi0 h1;clear h1;intro ks vs dp h1
   ·skip
    obtain ⟨k1,k2,k3,k4,k5,v1,v2,v3,v4,v5,q1,q2,q3,q4,q5,r1,r2,r3,r4,r5,rfl,rfl⟩:=zii h1;clear hE;obtain ⟨i,rfl,h4⟩:=znr h4;apply zba h4;clear h4;intro x y h4;apply zad h4;clear h4;intro id p1 h4;apply zad h4;clear h4;intro id' p2 h4
    ·skip
     ·replace h4:=zac h4;obtain ⟨h5,h6,h7⟩:=h4
      try simp only [cA] at h5 h6 h7
      replace h5:=zar h5;obtain ⟨nm,hnm,h5⟩:=h5
      ·replace hnm:=getD_some hnm;replace h5:=zaa h5;obtain ⟨z1,z2⟩:=h5
       cases aR z1
       cases aR z2
       simp only [zta,zu6] at hn |-
       split at hn
       ·rename_i d hd;have hva:=hv.val i _ d hnm hd;simp only [R.bind_ok] at hn |-;unfold signOf at hn |-
        split at hn
        ·rename_i z;have key:∀ s1:aC,Gr W.P s s1->∀ Q:aD->aC->Prop,(∀ u,Q (.int z u) s1)->wpAny (model W.pp W.w) A (eval (.Name id p1) env) Q E s1:=fun s1 g Q h=>by
          refine dR (aG ((hva.gr (c.tab B) c.xp g).load c.ek) (fun v s' q=>?_) fun O O x=>x) h7;clear g;obtain ⟨rfl,u,rfl⟩:=q;exact h u
         have key2:∀ s1:aC,Gr W.P s s1->∀ Q:aD->aC->Prop,(∀ u,Q (.int z u) s1)->wpAny (model W.pp W.w) A (eval (.Name id p2) env) Q E s1:=fun s1 g Q h=>by
          refine dR (aG ((hva.gr (c.tab B) c.xp g).load c.ek) (fun v s' q=>?_) fun O O x=>x) h7;clear g;obtain ⟨rfl,u,rfl⟩:=q;exact h u
         refine Call_method2 ?_ ?_ ?_ ?_
         ·rfl
         ·rfl
         ·simp [h3]
         refine @zns W.pp W.w A E s env dp k1 k2 k3 k4 k5 v1 v2 v3 v4 v5 q1 q2 q3 q4 q5 r1 r2 r3 r4 r5 _ ?_;intro h' hd hk tk;have g1:Gr W.P s { s with heap:=h',toks:=tk }:=.keep hk;have hds:(s.heap.objs.size == sysModules) = false:=by
          obtain ⟨o,e⟩:=aH.mp (c.base.live _ B.low);exact beq_eq_false_iff_ne.mpr (Nat.ne_of_gt (bW e))
         refine ⟨"dict","dict.get",F.plainAttrs_dict,F.slot_dict_get,F.type_dict_get,hd.typeIs,hd.mapOf.noDict,?_⟩;refine wpAny_dict_get2 (knd:=intKind W.pp W.w) hds ?_;refine key _ g1 _ ?_;intro u;refine key2 _ g1 _ ?_;intro u';refine ⟨z,_,intKind_is _ _ z u,hd.mapOf,?_⟩;obtain ⟨t',e⟩:=zkz s.toks z (.int z u') rfl;rw [e];exact ⟨_,rfl,g1.trans .toks,t',rfl⟩
        ·exact absurd rfl hn
       ·exact absurd rfl hn
end
noncomputable def plainE (e:aL):Bool:=(vwE e).tag != 7 && (vwE e).tag != 8 && (vwE e).tag != 5 && ((vwE e).tag != 4 || (vwE e).w8 != .Not)
theorem zlg {e:aL} {env:Env} {t:Sem aD} (h:plainE e = true):isTrue e env t = (do let v <- t; standAt e.pos; holding [v] (truthy v)):=by
 cases e with
 | UnaryOp op x p=>cases op <;> first | rfl | cases h
 | BoolOp=>cases h
 | IfExp=>cases h
 | Compare=>cases h
 | _=>rfl
section
variable {W:Wd} {cf:Nat->List V->R V} {n:Nat}
theorem zai {me:ME} (hs:Snd W n cf me) (hp:∀ (K:Str->Option aY) (names:List (Option Str)) (e:aL),chk (fns W.fs) me K names e = true->plainE e = true \/ Ex4 fun l op r pos=>e = .Compare l [op] [r] pos):SndT W n cf me:=by
 intro K names e env l A E X s ρ hc hK c hv;have h:=hs K names e env l A E X s ρ hc hK c hv;rcases hp K names e hc with q | ⟨l,op,r,pos,rfl⟩
 ·exact h.truth (zlg q)
 ·exact h.truthC
theorem zuh {fs:List String} {d:V} {K:Str->Option aY} {names:List (Option Str)} {e:aL} (h:chk fs (.cst d) K names e = true):plainE e = true:=by
 rcases zc4 h with ⟨_,_,_,rfl,_⟩ | ⟨_,_,_,_,rfl,_⟩ <;> rfl
theorem zp1 (B:Bs W) {a b d:ME} (ha:Snd W n cf a) (hb:Snd W n cf b) (hd:Snd W n cf d):Snd W n cf (.cmp3 a b d):=by
 intro K names e env l A E X s ρ hc hK c hv hn hE;generalize hR:ev cf (.cmp3 a b d) ρ = R0 at hn hE |-;apply zdg hc;clear hc;intro l0 ops rs p0 hc;replace hc:=zaa hc;obtain ⟨h0,hc⟩:=hc;obtain rfl:=aR h0;apply zba hc;clear hc;intro m r hc
 ·skip
  ·replace hc:=zac hc;obtain ⟨h1,h2,h3⟩:=hc;refine Compare_chain (rs:=[]) ?_ (by simp only [lastMarks]; exact zb9 h3);refine (ha K names _ env l A E X s ρ h1 hK c hv).go hR hn hE fun x v s1 hR1 g rp=>chain_link ?_;refine (hb K names _ env l A E X s1 ρ h2 hK (c.gr B g) (hv.gr (c.tab B) c.xp g)).go hR1 hn (exE g hE) fun y v2 s2 hR2 g2 rp2=>?_;have g02:=g.trans g2;have rp':=rp.gr c.xp g2
   cases hx:vcmp .le x y with
   | none=>rw [hx] at hR2; exact absurd hR2.symm hn
   | some t =>
    rw [hx] at hR2;refine aG (zgx (o:=.le) (P:=W.P) (zde c.un) rp' rp2 hx) (fun cv s3 q=>?_) fun O O x=>x;obtain ⟨g3,rfl⟩:=q;refine dY ?_;have g03:=g02.trans g3
    cases t with
    | false =>
     rw [if_neg aJ];exact ⟨_,hR2.symm,g03,rfl⟩
    | true =>
     rw [if_pos rfl];replace hR2:(ev cf d ρ).bind (fun z=>R.ofO ((vcmp .le y z).map .bool)) = R0:=hR2;clear hR1;subst hR2;refine chain_last (SE.op1 (f:=fun z=>(vcmp .le y z).map .bool) (k:=compareOp .LtE v2) (hd K names _ env l A E X s3 ρ h3 hK (c.gr B g03) (hv.gr (c.tab B) c.xp g03)) (fun z dd va s4 g4 rz hf=>?_) hn (exE g03 hE) |> fun h=>aG h (fun v s' q=>aG q (fun v s' ⟨d,q1,q2,q3⟩=>⟨d,q1,g03.trans q2,q3⟩) fun O O x=>x) fun O O x=>x);obtain ⟨r,hr,rfl⟩:=aW.mp hf;exact zgx (o:=.le) (zde c.un) (rp2.gr c.xp (g3.trans g4)) rz hr
theorem zma (B:Bs W) {a b d:ME} (ha:Snd W n cf a) (hb:Snd W n cf b) (hd:Snd W n cf d):SndT W n cf (.cmp3 a b d):=by
 intro K names e env l A E X s ρ hc hK c hv hn hE;apply zdg hc;clear hc;intro l0 ops rs p0 hc;replace hc:=zaa hc;obtain ⟨h0,hc⟩:=hc;obtain rfl:=aR h0;apply zba hc;clear hc;intro m r hc
 ·skip
  ·replace hc:=zac hc;obtain ⟨h1,h2,h3⟩:=hc;refine isTrue_chain (rs:=[]) ?_ (by simp only [lastMarks]; exact zb9 h3);unfold tst at hn hE |-;have hn1:ev cf (.cmp3 a b d) ρ ≠ .st:=fun q=>hn (by rw [q]; rfl);have hE1:ev cf (.cmp3 a b d) ρ = .ex->∀ e s',Exc W (fun O=>O = W.P) l s e s'->E e s':=fun q=>hE (by rw [q]; rfl);refine (ha K names _ env l A E X s ρ h1 hK c hv).to hn1 hE1 fun x v s1 hr g rp=>test_link ?_;simp only [zq9,hr,R.bind_ok] at hn1 hE1 |-;refine (hb K names _ env l A E X s1 ρ h2 hK (c.gr B g) (hv.gr (c.tab B) c.xp g)).to hn1 (exE g hE1) fun y v2 s2 hr2 g2 rp2=>?_;simp only [hr2,R.bind_ok] at hn1 hE1 |-;have g02:=g.trans g2;have rp':=rp.gr c.xp g2
   cases hx:vcmp .le x y with
   | none=>rw [hx] at hn1; exact absurd rfl hn1
   | some t =>
    rw [hx] at hn1 hE1;refine aG (zgx (o:=.le) (P:=W.P) (zde c.un) rp' rp2 hx) (fun cv s3 q=>?_) fun O O x=>x;obtain ⟨g3,rfl⟩:=q;refine dY ?_;have g03:=g02.trans g3
    cases t with
    | false =>
     rw [if_neg aJ];exact ⟨rfl,g03⟩
    | true =>
     rw [if_pos rfl];dsimp only at hn1 hE1 |-;refine test_last ((hd K names _ env l A E X s3 ρ h3 hK (c.gr B g03) (hv.gr (c.tab B) c.xp g03)).to hn1 (exE g03 hE1) fun z va s4 hr4 g4 rz=>?_);simp only [hr4,R.bind_ok] at hn1 |-
     cases hf:vcmp .le y z with
     | none=>rw [hf] at hn1; exact absurd rfl hn1
     | some r =>
      refine aG (zgx (o:=.le) (P:=W.P) (zde c.un) (rp2.gr c.xp (g3.trans g4)) rz hf) (fun cv s5 q=>?_) fun O O x=>x;obtain ⟨g5,rfl⟩:=q;exact dY ⟨rfl,(g03.trans g4).trans g5⟩
end
noncomputable def Xd (X:aN->Prop) (s₀:aC):aN->Prop:=fun b=>X b \/ s₀.heap.get? b = none
noncomputable def Itr (W:Wd) (X:aN->Prop) (s₀:aC) (tg:aL) (I:aN) (fp:List aN):List V->cZ->Prop
 | [],h=>∀ (A:bA) (E:aD->aC->Prop) (Q:Option aD->aC->Prop) (s':aC),A.handled = none->GrX W.P (Xd X s₀) s₀ s'->(∀ b ∈ fp,∀ o,h.get? b = some o->s'.heap.get? b = some o) ->
   (∀ h' tk,(∀ b o,b ∉ fp->s'.heap.get? b = some o->h'.get? b = some o)->Q none { s' with heap:=h',toks:=tk })->wpAny (model W.pp W.w) A (pyNext (.ref I)) Q E s'
 | d :: r,h=>∀ (A:bA) (E:aD->aC->Prop) (Q:Option aD->aC->Prop) (s':aC) (X':aN->Prop),A.handled = none->GrX W.P (Xd X s₀) s₀ s'->(∀ b ∈ fp,∀ o,h.get? b = some o->s'.heap.get? b = some o) ->
   (∀ a,X' a->Xd X s₀ a)->XOk X' s'.heap ->
   (∀ v s'',GrX W.P (· ∈ fp) s' s''->Rep X' s''.heap d v->Itr W X s₀ tg I fp r s''.heap->Q (some v) s'') ->
   wpAny (model W.pp W.w) A (pyNext (.ref I)) (fun o s1=>∃ v,o = some v/\wpAny (model W.pp W.w) A (letOwnedTupleGo tg (.ref I) v) (fun O s2=>Q (some v) s2) E s1) E s'
section
variable {W:Wd}
theorem zc2 {X:aN->Prop} {s₀:aC} {tg:aL} {I:aN} {fpw wr:List aN} {n:Nat} {Pn:Nat->aD->Prop} {St:Nat->cZ->Prop} {ds:List V}
  (Wk:∀ A:bA,A.handled = none->Walks W.pp W.w A I fpw wr n Pn St) (hwr:∀ b ∈ wr,b = I) (hI:s₀.heap.get? I = none) (ht:IsTab s₀.heap W.P)
  (hfp:∀ b ∈ fpw,b ≠ I->¬ X b/\(s₀.heap.get? b).isSome = true) (hn:ds.length = n) (hlv:∀ i h,St i h->(h.get? I).isSome = true)
  (hP:∀ (i:Nat) v d,Pn i v->ds[i]? = some d->Rep X s₀.heap d v)
  (hlet:∀ (i:Nat) (s:aC) (A:bA) (E:aD->aC->Prop) (Q:Unit->aC->Prop) v,St i s.heap->Q () s->wpAny (model W.pp W.w) A (letOwnedTupleGo tg (.ref I) v) Q E s) :
  ∀ (m k:Nat) (h:cZ),k+m = n->St k h->(∀ b ∈ fpw,b ≠ I->h.get? b = s₀.heap.get? b)->Itr W X s₀ tg I [I] (ds.drop k) h:=by
 have hIP:I ≠ W.P:=zb1 ht hI;have step:∀ (A:bA),A.handled = none->∀ (k:Nat) (h:cZ) (s':aC),St k h->(∀ b ∈ fpw,b ≠ I->h.get? b = s₀.heap.get? b)->GrX W.P (Xd X s₀) s₀ s'->(∀ b ∈ [I],∀ o,h.get? b = some o->s'.heap.get? b = some o)->St k s'.heap/\∀ b ∈ fpw,b ≠ I->s'.heap.get? b = s₀.heap.get? b:=by
  intro A hh k h s' hst hs g hkeep;have h2:∀ b ∈ fpw,b ≠ I->s'.heap.get? b = s₀.heap.get? b:=fun b hb q=>by
   obtain ⟨h1,h2⟩:=hfp b hb q;obtain ⟨o',e'⟩:=aH.mp h2;rw [e',g.ext b o' (fun z=>z.elim h1 fun z=>by rw [e'] at z; cases z) e']
  refine ⟨(Wk A hh).frame _ _ _ hst fun b hb o e=>?_,h2⟩
  by_cases q:b = I
  ·exact hkeep b (by simp [q]) o e
  ·rw [h2 b hb q,<- hs b hb q]; exact e
 intro m;induction m with
 | zero =>
  intro k h hk hst hs;rw [fE (by omega)];intro A E Q s' hh g hkeep hQ;obtain ⟨hst',h2⟩:=step A hh k h s' hst hs g hkeep;obtain rfl:k = n:=by omega
  exact (Wk A hh).done s' Q E hst' fun h' tk hk'=>hQ h' tk fun b o hb e=>hk' b o (fun z=>hb (by simp [hwr b z])) e
 | succ m ih =>
  intro k h hk hst hs;have hlt:k < ds.length:=by omega
  rw [dA hlt];intro A E Q s' X' hh g hkeep hX' hXo hQ;obtain ⟨hst',h2⟩:=step A hh k h s' hst hs g hkeep;refine (Wk A hh).item k s' _ E (by omega) hst' fun v h' tk hPv hst1 hk'=>⟨v,rfl,hlet (k+1) _ A E _ v hst1 ?_⟩;have gI:GrX W.P (· ∈ [I]) s' { s' with heap:=h',toks:=tk }:=by
   refine ⟨fun b o hb e=>hk' b o (fun z=>hb (by simp [hwr b z])) e,fun b hl=>?_,fun ⟨ps,e⟩=>⟨ps,hk' _ _ (fun z=>hIP (hwr _ z).symm) e⟩,rfl,id⟩
   by_cases q:b = I
   ·rw [q]; exact hlv _ _ hst1
   ·obtain ⟨o,e⟩:=aH.mp hl;exact aH.mpr ⟨o,hk' b o (fun z=>q (hwr b z)) e⟩
  have hk2:∀ b ∈ fpw,b ≠ I->h'.get? b = s₀.heap.get? b:=fun b hb q=>by
   obtain ⟨_,h3⟩:=hfp b hb q;obtain ⟨o',e'⟩:=aH.mp h3;have e2:=h2 b hb q;rw [e'] at e2 |-;exact hk' b o' (fun z=>q (hwr b z)) e2
  refine hQ v _ gI ?_ (ih (k+1) h' (by omega) hst1 hk2);have r0:=hP k v ds[k] hPv (aZ hlt);have gall:GrX W.P (Xd X s₀) s₀ { s' with heap:=h',toks:=tk }:=g.trans (gI.mono fun b hb=>.inr (by simp at hb; rw [hb]; exact hI));have r1:Rep (Xd X s₀) s₀.heap ds[k] v:=r0.avoid fun a ha hl=>ha.elim id fun z=>by rw [z] at hl; cases hl
  exact (r1.grx (fun O q=>q) gall).mono (fun a ha=>hX' a ha) fun b o O e=>e
theorem zig (tg:aL) (r v:aD):letOwnedTupleGo tg r v = pure () \/ letOwnedTupleGo tg r v = letOwnedTupleGo (.Tuple [] 0 default) r v:=by
 cases tg <;> first | exact .inr rfl | exact .inl rfl
theorem zhk (I:aN) (v:aD):letOwnedTupleGo (.Tuple [] 0 default) (.ref I) v = pure () \/ ∃ a,v = .ref a:=by
 cases v <;> first | exact .inr ⟨_,rfl⟩ | exact .inl rfl
theorem za8 {M:Model} {A:bA} {E:aD->aC->Prop} {s:aC} {tg:aL} {I:aN} {v:aD} {o:Obj} {nm:String} {vs:Array aD} {Q:Unit->aC->Prop} (ho:s.heap.get? I = some o) (hc:o.cls = .type nm) (hd:o.data = .fields vs)
  (hn:(["enumerate","zip","dict_itemiterator","dict_reverseitemiterator","odict_iterator","itertools.zip_longest","itertools.pairwise"].contains nm) = false) (h:Q () s):wpAny M A (letOwnedTupleGo tg (.ref I) v) Q E s:=by
 rcases zig tg (.ref I) v with e | e
 ·rw [e]; exact aV h
 rw [e];rcases zhk I v with e | ⟨a,e⟩
 ·rw [e]; exact aV h
 rw [e];refine aF (wpAny_load ho ?_);rw [hc,hd];exact wifn (by rw [hn]; exact aJ) (aV h)
theorem zan (h:cZ):h.get? h.objs.size = none:=by
 cases e:h.get? h.objs.size with
 | none=>rfl
 | some o=>exact absurd (bW e) (dG _)
theorem zga {X:aN->Prop} {s₀:aC} {tg:aL} {ax:aN} {vs:List aD} {ds:List V} (ht:IsTab s₀.heap W.P) (hx:¬ X ax) (hl:s₀.heap.IsList ax vs.toArray) (hr:RepL X s₀.heap ds vs) :
  Itr W X s₀ tg s₀.heap.objs.size [s₀.heap.objs.size] ds (s₀.heap.push { cls:=.type "list_iterator",data:=.fields #[.ref ax,.int 0 0] }):=by
 have hlt:ax < s₀.heap.objs.size:=by obtain ⟨_,e,_⟩:=hl; exact bW e
 have hne:ax ≠ s₀.heap.objs.size:=fF hlt;have h:=zc2 (W:=W) (X:=X) (s₀:=s₀) (tg:=tg) (ds:=ds) (fun A hh=>Walks.list (prog:=W.pp) (w:=W.w) (A:=A) hh s₀.heap.objs.size ax hne vs.toArray) (fun b hb=>by simpa using hb) (zan _) ht
  (fun b hb q=>by
   simp at hb;rcases hb with rfl | rfl
   ·exact absurd rfl q
   ·obtain ⟨o,e,_⟩:=hl;exact ⟨hx,by rw [e]; rfl⟩) (by simp [hr.length]) (fun i h st=>by obtain ⟨⟨o,e,_⟩,_⟩:=st; rw [e]; rfl)
  (fun i v d hv hd=>by
   obtain ⟨v',h1,h2⟩:=hr.get hd;have:vs[i]? = some v:=by simpa using hv
   rw [h1] at this
   cases this
   exact h2)
  (fun i s A E Q v st h=>by
   obtain ⟨⟨o,ho,hc,hd⟩,_⟩:=st;exact za8 ho hc hd (by decide) h)
  ds.length 0 (s₀.heap.push { cls:=.type "list_iterator",data:=.fields #[.ref ax,.int 0 0] }) (by simp [hr.length]) ⟨⟨_,bI _ rfl,rfl,rfl⟩,hl.push _⟩
  (fun b hb q=>by
   simp at hb;rcases hb with rfl | rfl
   ·exact absurd rfl q
   ·obtain ⟨o,e,_⟩:=hl;rw [e];exact bG _ e)
 simpa using h
theorem zh1 {X:aN->Prop} {s₀:aC} {tg:aL} {ax:aN} {vs:List aD} {ds:List V} (ht:IsTab s₀.heap W.P) (hx:¬ X ax) (hl:s₀.heap.IsTuple ax vs.toArray) (hr:RepL X s₀.heap ds vs) :
  Itr W X s₀ tg s₀.heap.objs.size [s₀.heap.objs.size] ds (s₀.heap.push { cls:=.type "tuple_iterator",data:=.fields #[.ref ax,.int 0 0] }):=by
 have hlt:ax < s₀.heap.objs.size:=by obtain ⟨_,e,_⟩:=hl; exact bW e
 have hne:ax ≠ s₀.heap.objs.size:=fF hlt;have h:=zc2 (W:=W) (X:=X) (s₀:=s₀) (tg:=tg) (ds:=ds) (fun A hh=>Walks.tuple (prog:=W.pp) (w:=W.w) (A:=A) hh s₀.heap.objs.size ax hne vs.toArray) (fun b hb=>by simpa using hb) (zan _) ht
  (fun b hb q=>by
   simp at hb;rcases hb with rfl | rfl
   ·exact absurd rfl q
   ·obtain ⟨o,e,_⟩:=hl;exact ⟨hx,by rw [e]; rfl⟩) (by simp [hr.length]) (fun i h st=>by obtain ⟨⟨o,e,_⟩,_⟩:=st; rw [e]; rfl)
  (fun i v d hv hd=>by
   obtain ⟨v',h1,h2⟩:=hr.get hd;have:vs[i]? = some v:=by simpa using hv
   rw [h1] at this
   cases this
   exact h2)
  (fun i s A E Q v st h=>by
   obtain ⟨⟨o,ho,hc,hd⟩,_⟩:=st;exact za8 ho hc hd (by decide) h)
  ds.length 0 (s₀.heap.push { cls:=.type "tuple_iterator",data:=.fields #[.ref ax,.int 0 0] }) (by simp [hr.length]) ⟨⟨_,bI _ rfl,rfl,rfl⟩,hl.push _⟩
  (fun b hb q=>by
   simp at hb;rcases hb with rfl | rfl
   ·exact absurd rfl q
   ·obtain ⟨o,e,_⟩:=hl;rw [e];exact bG _ e)
 simpa using h
theorem zn2 {X:aN->Prop} {s₀:aC} {tg:aL} {b:List Nat} {t:Tok} (ht:IsTab s₀.heap W.P) (hb:∀ x ∈ b,x < 256) :
  Itr W X s₀ tg s₀.heap.objs.size [s₀.heap.objs.size] (b.map fun x:Nat=>.int x) (s₀.heap.push { cls:=.type "bytes_iterator",data:=.fields #[.bytes (toB b) t,.int 0 0] }):=by
 have h:=zc2 (W:=W) (X:=X) (s₀:=s₀) (tg:=tg) (ds:=b.map fun x:Nat=>.int x) (fun A hh=>KBw.walks (prog:=W.pp) (w:=W.w) (A:=A) hh s₀.heap.objs.size (toB b) t) (fun b hb=>by simpa using hb) (zan _) ht
  (fun b hb q=>by
   simp at hb;exact absurd hb q) (by simp [zam]) (fun i h st=>by obtain ⟨o,e,_⟩:=st; rw [e]; rfl)
  (fun i v d hv hd=>by
   obtain ⟨c,u,h1,rfl⟩:=hv;have h2:(b.map cK)[i]? = some c:=by simpa [toB] using h1
   rw [cV] at h2 hd;clear h1;obtain ⟨x,hx,rfl⟩:=aW.mp h2;rw [hx] at hd
   cases hd
   have:=hb x (eW hx);exact ⟨u,by simp; omega⟩)
  (fun i s A E Q v st h=>by
   obtain ⟨o,ho,hc,hd⟩:=st;exact za8 ho hc hd (by decide) h)
  b.length 0 (s₀.heap.push { cls:=.type "bytes_iterator",data:=.fields #[.bytes (toB b) t,.int 0 0] }) (by simp [zam]) ⟨_,bI _ rfl,rfl,rfl⟩
  (fun b hb q=>by
   simp at hb;exact absurd hb q)
 simpa using h
theorem zlc {X:aN->Prop} {s:aC} {tg:aL} {A:bA} {E:aD->aC->Prop} {d:V} {ds:List V} {v:aD} {Q:aD->aC->Prop} (ht:IsTab s.heap W.P) (r:Rep X s.heap d v) (h:iterD d = some ds)
  (hQ:∀ o,o.isFreed = false->Itr W X s tg s.heap.objs.size [s.heap.objs.size] ds (s.heap.push o)->Q (.ref s.heap.objs.size) { s with heap:=s.heap.push o }):wpAny (model W.pp W.w) A (pyIter v) Q E s:=by
 unfold iterD at h
 split at h
 ·split at h
  ·cases h
   obtain ⟨x,vs,rfl,hx,hl,rl⟩:=r;exact wpAny_pyIter_list hl (hQ _ rfl (zga ht hx hl rl))
  ·cases h
 ·split at h
  ·cases h
   obtain ⟨x,vs,rfl,hx,hl,rl⟩:=r;exact wpAny_pyIter_tuple hl (hQ _ rfl (zh1 ht hx hl rl))
  ·cases h
 ·split at h
  ·cases h
   obtain ⟨hb,t,rfl⟩:=r;exact KBw.pyIter_bytes (hQ _ rfl (zn2 ht hb))
  ·cases h
 ·cases h
end
theorem zdk {env:Env} (f:Str × aY->List (Str × aN)->Sem (ForInStep (List (Str × aN))))
  (hf:∀ n k cs,f (n,k) cs = if k == .free then (do let a <- cellOf env n; pure (.yield ((n,a) :: cs))) else pure (.yield cs)) :
  ∀ (names:List (Str × aY)) (acc:List (Str × aN)),(∀ x ∈ names,x.2 = .free->(env.cells.lookup x.1).isSome = true)->(∀ n c,acc.lookup n = some c->env.cells.lookup n = some c) ->
   ∃ cl,And4 (forIn names acc f = pure cl) ((∀ n c,cl.lookup n = some c->env.cells.lookup n = some c)) ((∀ n,(acc.lookup n).isSome = true->(cl.lookup n).isSome = true)) (∀ x ∈ names,x.2 = .free->(cl.lookup x.1).isSome = true)
 | [],acc,O,ha=>⟨acc,rfl,ha,fun O h=>h,fun O h=>nomatch h⟩
 | (n,k) :: r,acc,h,ha=>by
  rw [List.forIn_cons,hf]
  by_cases hk:(k == NameKind.free) = true
  ·rw [if_pos hk];have hk':k = .free:=aR hk;obtain ⟨a,e⟩:=aH.mp (h (n,k) (by simp) hk');have e1:cellOf env n = pure a:=by unfold cellOf; rw [show env.cells.lookup n = some a from e]
   rw [e1];obtain ⟨cl,h1,h2,h3,h4⟩:=zdk f hf r ((n,a) :: acc) (fun x hx=>h x (by simp [hx])) (fun n' c' hl=>by
    rw [bO] at hl
    cases hb:n' == n with
    | true=>rw [hb] at hl; cases hl; rw [aR hb]; exact e
    | false=>rw [hb] at hl; exact ha _ _ hl)
   have hn:(cl.lookup n).isSome = true:=h3 n (by simp [bO]);refine ⟨cl,by simpa using h1,h2,fun m hm=>h3 m ?_,fun x hx hf'=>?_⟩
   ·rw [bO]
    cases m == n with
    | true=>rfl
    | false=>exact hm
   ·rcases aO.mp hx with rfl | hx
    ·exact hn
    ·exact h4 x hx hf'
  ·rw [if_neg hk];obtain ⟨cl,h1,h2,h3,h4⟩:=zdk f hf r acc (fun x hx=>h x (by simp [hx])) ha;refine ⟨cl,by simpa using h1,h2,h3,fun x hx hf'=>?_⟩;rcases aO.mp hx with rfl | hx
   ·exact absurd (beq_iff_eq.mpr (show k = .free from hf')) hk
   ·exact h4 x hx hf'
theorem zfp {env:Env} {sc:Scope} (h:∀ x ∈ sc.names,x.2 = .free->(env.cells.lookup x.1).isSome = true) :
  ∃ cl,And3 (closureFor sc env = pure cl) ((∀ n c,cl.lookup n = some c->env.cells.lookup n = some c)) (∀ x ∈ sc.names,x.2 = .free->(cl.lookup x.1).isSome = true):=by
 obtain ⟨cl,h1,h2,_,h4⟩:=zdk (env:=env) (fun x r=>do
   if x.2 == .free then
    let a <- cellOf env x.1
    pure (eR ((x.1,a) :: r))
   else pure (eR r)) (fun n k cs=>by dsimp only) sc.names [] h (fun O O h=>by cases h)
 refine ⟨cl,?_,h2,h4⟩;unfold closureFor;rw [<- h1];simp only [bind_pure]
theorem zay {env:Env} {sc:Scope} {cl:List (Str × aN)} {C:aN} {K:Str->Option aY} (hK:∀ x,env.kindOf x = K x) (hk:env.scope.kind = .function) (x:Str):(compEnvC sc cl C env).kindOf x = inK K sc x:=by
 show ((relabel sc env).names).lookup x = (relN K sc.names).lookup x;unfold relabel relN
 congr 1
 apply List.map_congr_left;rintro ⟨n,k⟩ _;dsimp only;rw [hK,hk];simp
theorem zc8 {K:Str->Option aY}:∀ {names:List (Str × aY)} {x:Str},(∀ y ∈ names,y.2 ≠ .cell)->(relN K names).lookup x = some .cell->(x,.free) ∈ names/\K x = some .cell
 | [],O,O1,h=>by simp [relN] at h
 | (n,k) :: r,x,hc,h=>by
  unfold relN at h;rw [aS] at h;dsimp only at h
  by_cases hb:(k == NameKind.free && K n == some .cell) = true
  ·rw [if_pos hb,bO] at h;simp only [bB,beq_iff_eq] at hb
   cases hx:x == n with
   | true =>
    clear hc;obtain rfl:=aR hx;obtain ⟨rfl,h2⟩:=hb;exact ⟨by simp,h2⟩
   | false =>
    rw [hx] at h;obtain ⟨h1,h2⟩:=zc8 (fun y hy=>hc y (by simp [hy])) h;exact ⟨by simp [h1],h2⟩
  ·rw [if_neg hb,bO] at h
   cases hx:x == n with
   | true =>
    rw [hx] at h
    cases h
    exact absurd rfl (hc (n,.cell) (by simp))
   | false =>
    rw [hx] at h;obtain ⟨h1,h2⟩:=zc8 (fun y hy=>hc y (by simp [hy])) h;exact ⟨by simp [h1],h2⟩
theorem zbo {K:Str->Option aY}:∀ {names:List (Str × aY)} {x:Str},names.lookup x = some .local->(relN K names).lookup x = some .local
 | [],O,h=>by simp at h
 | (n,k) :: r,x,h=>by
  unfold relN;rw [aS];dsimp only;rw [bO] at h
  cases hx:x == n with
  | true =>
   rw [hx] at h
   cases h
   rw [if_neg (by simp),bO,hx]
  | false =>
   rw [hx] at h;have ih:=zbo (K:=K) h
   split
   ·rw [bO,hx]; exact ih
   ·rw [bO,hx]; exact ih
theorem zcx {K:Str->Option aY}:∀ {names:List (Str × aY)} {x:Str},(relN K names).lookup x = some .local->names.lookup x = some .local
 | [],O,h=>by simp [relN] at h
 | (n,k) :: r,x,h=>by
  unfold relN at h;rw [aS] at h;dsimp only at h;rw [bO]
  by_cases hb:(k == NameKind.free && K n == some .cell) = true
  ·rw [if_pos hb,bO] at h
   cases hx:x == n with
   | true=>rw [hx] at h; cases h
   | false=>rw [hx] at h; exact zcx h
  ·rw [if_neg hb,bO] at h
   cases hx:x == n with
   | true=>rw [hx] at h; exact h
   | false=>rw [hx] at h; exact zcx h
noncomputable def setM (m:Str->Option aD):List Str->List aD->Str->Option aD
 | x :: xs,v :: vs=>setM (fun y=>if y = x then some v else m y) xs vs
 | O,O1=>m
theorem sM_c {m:Str->Option aD} {x:Str} {xs:List Str} {v:aD} {vs:List aD}:setM m (x :: xs) (v :: vs) = setM (fun y=>if y = x then some v else m y) xs vs:=rfl
theorem zfe:∀ {xs:List Str} {vs:List aD} {m:Str->Option aD} {y:Str},y ∉ xs->setM m xs vs y = m y
 | [],O,O1,O2,O3=>rfl
 | O :: O1,[],O2,O3,O4=>rfl
 | x :: xs,v :: vs,m,y,h=>by
  rw [sM_c];rw [zfe (fun q=>h (by simp [q]))];rw [if_neg (fun q=>h (by simp [q]))]
theorem zjy:∀ {xs:List Str} {vs:List aD} {m:Str->Option aD} {i:Nat} {y:Str} {v:aD},xs.Nodup->xs[i]? = some y->vs[i]? = some v->setM m xs vs y = some v
 | [],O,O1,O2,O3,O4,O5,h,O6=>by simp at h
 | O :: O1,[],O2,O3,O4,O5,O6,O7,h=>by simp at h
 | x :: xs,w :: vs,m,0,y,v,hn,h1,h2=>by
  cases h1; cases h2
  rw [sM_c];rw [zfe (eT.mp hn).1,if_pos rfl]
 | x :: xs,w :: vs,m,i+1,y,v,hn,h1,h2=>by
  rw [sM_c];exact zjy (eT.mp hn).2 (by simpa using h1) (by simpa using h2)
section
variable {prog:dC} {w:cF} {A:bA} {E:aD->aC->Prop} {R:Result->aC->Prop} {s:aC}
set_option tactic.hygienic true in
theorem zcp {elt target iter:aL} {ifs:List aL} {scope:Scope} {pos:Pos} {it acc:aD} {env:Env} (I:Nat->aC->Prop)
  (turn:∀ (E:aD->aC->Prop) n s,I n s->wpAny (model prog w) A (pyNext it) (fun r s₁=>match r with
   | none=>R (.ok .next) s₁
   | some v=>wpAny (model prog w) A (letOwnedTupleGo target it v) (fun O s₂=>wpAny (model prog w) A (assign target env v) (fun O s₂ =>
     wpAny (model prog w) A (forIn ifs true fun c r=>if r = true then do let ok <- isTrue c env (eval c env); pure (eR ok) else pure (eR r)) (fun ok s₃ =>
      if ok = true then wpAny (model prog w) A (eval elt env) (fun x s₄ =>
       wpAny (model prog w) A (call (.builtin "list.append") [acc,x]) (fun O s₅=>∃ m,m < n/\I m s₅) E s₄) E s₃
      else ∃ m,m < n/\I m s₃) E s₂) E s₂) E s₁) E s)
  (n:Nat) (h:I n s) :
  codeAny (model prog w) A (.compLoop (.ListComp elt [⟨target,iter,ifs,0⟩] scope pos) 0 it acc env) R s:=by
 refine codeAny_loop rfl I (fun n s hI=>?_) n h;show wpAny _ A ((compTurn (.ListComp elt [⟨target,iter,ifs,0⟩] scope pos) 0 it acc env).onRaise (fun x=>do noteFrame x env; theTreesLotGoes x)) _ _ s;refine wpAny_noted ?_;rw [compTurn_list];refine aF (eY (aF (aG (turn _ n s hI) (fun r s₁ h₁=>?_) fun O O h'=>h')))
 cases r with
 | none=>exact aV h₁
 | some v =>
  refine aF (aG h₁ (fun O s₂ h₁=>?_) fun O O h'=>h');refine aF (aG h₁ (fun O s₂ h₂=>aF (aG h₂ (fun ok s₃ h₃=>?_) fun O O h'=>h')) fun O O h'=>h')
  cases ok with
  | false=>exact aV ⟨rfl,h₃⟩
  | true =>
   exact aF (aF (aG h₃ (fun x s₄ h₄=>aF (aG h₄ (fun O s₅ h₅=>aV (aV ⟨rfl,h₅⟩)) fun O O h'=>h')) fun O O h'=>h'))
end
theorem zgz {e:aL} {x:Str} (h:nameOf e = some x):∃ p,e = .Name x p:=by
 by_cases t:((vwE e).tag == 1) = true
 ·exact ⟨(vwE e).w1,(bN ((if_pos t).symm.trans h)) ▸ zal t⟩
 ·exact zes ((if_neg t).symm.trans h)
theorem zqy {k:Nat} {t:aL} {xs:List Str} (h:tgtNames k t = some xs):Or (Ex2 fun x p=>And3 (k = 0) (t = .Name x p) (xs = [x])) (Ex3 fun es q p=>And4 (¬ k = 0) (t = .Tuple es q p) (es.mapM nameOf = some xs) (xs.length = k)):=by
 refine byC fun hG=>?_
 by_cases h0:k = 0
 ·obtain ⟨x,e,q⟩:=aW.mp ((if_pos h0).symm.trans h);obtain ⟨p,e⟩:=zgz e;refine hG ?_;exact .inl ⟨x,p,h0,e,q.symm⟩
 ·have h:=(if_neg h0).symm.trans h
  by_cases t:((vwE t).tag == 10) = true
  ·obtain ⟨ys,e,q⟩:=gK.mp ((if_pos t).symm.trans h)
   by_cases l:ys.length = k
   ·refine hG ?_;exact .inr ⟨_,_,_,h0,zal t,e.trans ((if_pos l).symm.trans q),(bN ((if_pos l).symm.trans q)) ▸ l⟩
   ·refine hG ?_;exact zes ((if_neg l).symm.trans q)
  ·refine hG ?_;exact zes ((if_neg t).symm.trans h)
theorem zeg:∀ {elts:List aL} {xs:List Str},elts.mapM nameOf = some xs->∃ ps:List Pos,ps.length = xs.length/\elts = (xs.zip ps).map fun p=>Expr.Name p.1 p.2
 | [],xs,h=>by
  simp at h;subst h;exact ⟨[],rfl,rfl⟩
 | e :: es,xs,h=>by
  rw [fC] at h
  cases he:nameOf e with
  | none=>rw [he] at h; simp at h
  | some x =>
   rw [he] at h
   cases hr:es.mapM nameOf with
   | none=>rw [hr] at h; simp at h
   | some ys =>
    rw [hr] at h;simp at h;subst h;obtain ⟨ps,h1,h2⟩:=zeg hr;obtain ⟨p,rfl⟩:=zgz he;exact ⟨p :: ps,by simp [h1],by simp [h2]⟩
theorem za6 {env:Env}:∀ (l:List (Str × Pos)),(assignEach (l.map fun p=>Expr.Name p.1 p.2) env).length = l.length/\(assignEach (l.map fun p=>Expr.Name p.1 p.2) env).findIdx? (fun O=>O.1) = none /\
  (assignEach (l.map fun p=>Expr.Name p.1 p.2) env).map (fun O=>O.2) = l.map fun p=>assign (.Name p.1 p.2) env
 | []=>⟨rfl,rfl,rfl⟩
 | p :: l=>by
  obtain ⟨h1,h2,h3⟩:=za6 (env:=env) l;rw [aS];show ((false,assign (.Name p.1 p.2) env) :: assignEach _ env).length = _/\List.findIdx? _ ((false,assign (.Name p.1 p.2) env) :: assignEach _ env) = none/\((false,assign (.Name p.1 p.2) env) :: assignEach _ env).map (fun O=>O.2) = _;refine ⟨by rw [aI,h1,aI],?_,by rw [aS,h3,aS]⟩;rw [List.findIdx?_cons,h2];rfl
theorem zdu {M:Model} {A:bA} {E:aD->aC->Prop} {env:Env} (hk:env.scope.kind = .function):∀ (l:List (Str × Pos)) (vs:List aD) (s:aC) (m:Str->Option aD) (Q:Unit->aC->Prop),(∀ p ∈ l,env.kindOf p.1 = some .local)->l.length = vs.length->s.heap.Ns env.locals m ->
  (∀ h' tk,h'.Ns env.locals (setM m (l.map (fun O=>O.1)) vs)->dS env.locals s.heap h'->Q () { s with heap:=h',toks:=tk })->wpAny M A (assignInOrder (l.map fun p=>assign (.Name p.1 p.2) env) vs) Q E s
 | [],[],s,m,Q,O,O1,hn,hQ=>aV (hQ s.heap s.toks hn (.refl ..))
 | [],O :: O1,O2,O3,O4,O5,h,O6,O7=>by simp at h
 | O :: O1,[],O2,O3,O4,O5,h,O6,O7=>by simp at h
 | p :: l,v :: vs,s,m,Q,hl,h,hn,hQ=>by
  show wpAny M A (holding vs (assign (.Name p.1 p.2) env v) >>= fun O=>assignInOrder _ vs) Q E s;refine aF (dH (dL (eN (hl p (by simp)) hn (fun h1 hn1 hs1=>?_) (by rw [hk]; rfl))));refine zdu hk l vs _ _ Q (fun q hq=>hl q (by simp [hq])) (by simpa using h) hn1 fun h' tk hn' hs'=>?_;exact hQ h' tk hn' (hs1.trans hs')
section
variable {W:Wd}
theorem Ns.live {h:cZ} {a:aN} {m:Str->Option aD} (n:h.Ns a m):(h.get? a).isSome = true:=by
 obtain ⟨o,_,_,ho,_⟩:=n;rw [ho]; rfl
set_option tactic.hygienic true in
theorem zil {A:bA} {E:aD->aC->Prop} {s:aC} {X:aN->Prop} {env:Env} {k:Nat} {tgt:aL} {xs:List Str} {d:V} {l:List (Option V)} {v:aD} {m:Str->Option aD} {Q:Unit->aC->Prop} (hh:A.handled = none)
  (hk:env.scope.kind = .function) (ht:tgtNames k tgt = some xs) (hx:∀ x ∈ xs,env.kindOf x = some .local) (hnd:xs.Nodup) (hb:bindT k d = some l) (r:Rep X s.heap d v) (hC:X env.locals) (hCP:env.locals ≠ W.P) (hn:s.heap.Ns env.locals m)
  (hQ:∀ s' m',GrX W.P (fun O=>O = env.locals) s s'->s'.heap.Ns env.locals m'->l.length = xs.length->(∀ (i:Nat) (y:Str) (d':V),xs[i]? = some y->l[i]? = some (some d')->∃ v',m' y = some v'/\Rep X s'.heap d' v')->Q () s') :
  wpAny (model W.pp W.w) A (assign tgt env v) Q E s:=by
 rcases zqy ht with ⟨x,p,h0,rfl,rfl⟩ | ⟨elts,tk,tp,h0,rfl,hys,hlen⟩
 ·unfold bindT at hb;rw [if_pos h0] at hb
  cases hb
  refine dL (eN (hx x (by simp)) hn (fun h1 hn1 hs1=>?_) (by rw [hk]; rfl));have g:GrX W.P (fun O=>O = env.locals) s { s with heap:=h1,toks:=s.toks+1 }:=.one hs1 (fun O=>Ns.live hn1) (fun O=>hCP) rfl;refine hQ _ _ g hn1 rfl fun i y d' h1' h2'=>?_
  cases i with
  | zero=>cases h1'; cases h2'; exact ⟨v,if_pos rfl,Rep.grx (W:=(fun O=>O = env.locals)) (fun b (q:b = env.locals)=>by rw [q]; exact hC) g r⟩
  | succ i=>simp at h1'
 ·unfold bindT at hb;rw [if_neg h0] at hb
  split at hb
  ·rename_i l'
   split at hb
   ·cases (hb)
    rename_i hlen';obtain ⟨a,vs,rfl,hXa,hT,rl⟩:=r;clear ht;obtain ⟨ps,hps,rfl⟩:=zeg hys;obtain ⟨e1,e2,e3⟩:=za6 (env:=env) (xs.zip ps);have hvl:=rl.length;have hz:(xs.zip ps).length = xs.length:=by simp [hps]
    refine assign_Tuple_tuple hh hT (by rw [e1,hz]; simp; omega) e2 fun h1 he1=>?_;have hk1:∀ b o,s.heap.get? b = some o->h1.get? b = some o:=fun b o e=>he1 b o (fF (bW e)) e;rw [e3];refine zdu hk _ _ _ _ _ (fun p hp=>hx p.1 (List.of_mem_zip hp).1) (by rw [hz]; simp; omega) (hn.keeps hk1) fun h' tk hn' hs'=>?_;have g1:GrX W.P (fun O=>O = env.locals) s { s with heap:=h1 }:=.keep (k:=s.toks) hk1;have g2:GrX W.P (fun O=>O = env.locals) { s with heap:=h1 } { s with heap:=h',toks:=tk }:=.one hs' (fun O=>Ns.live hn') (fun O=>hCP) rfl;have em:(xs.zip ps).map (fun O=>O.1) = xs:=by rw [List.map_fst_zip]; omega
    rw [em] at hn';refine hQ _ _ (g1.trans g2) hn' (by simp; omega) fun i y d' h1' h2'=>?_;rw [cV] at h2';obtain ⟨d2,hd2,hd3⟩:=aW.mp h2'
    cases hd3
    obtain ⟨v',hv',rv'⟩:=rl.get hd2;exact ⟨v',zjy hnd h1' (by simpa using hv'),Rep.grx (W:=(fun O=>O = env.locals)) (fun b (q:b = env.locals)=>by rw [q]; exact hC) (g1.trans g2) rv'⟩
   ·cases hb
  ·cases hb
noncomputable def turnR (cf:Nat->List V->R V) (elt:ME) (k:Nat) (cond:MEs) (ρ:List (Option V)) (it:V):R (Option V) :=
 match bindT k it with
 | some l=>(evs cf cond (ρ++l)).bind fun ts=>match tests ts with
  | some true=>(ev cf elt (ρ++l)).bind fun y=>.ok (some y)
  | some false=>.ok none
  | none=>.st
 | none=>.st
theorem zwh {cf:Nat->List V->R V} {elt iter:ME} {k:Nat} {cond:MEs} {ρ:List (Option V)}:ev cf (.lc elt k iter cond) ρ = (ev cf iter ρ).bind fun d=>match d with
  | .lst items=>if items.length <= 1000000 then (compL (turnR cf elt k cond ρ) items).bind fun l=>.ok (.lst l) else .st
  | _=>.st:=by
 rw [zts];rfl
end
theorem Gr.andX {P:aN} {Wr:aN->Prop} {s₀ s s':aC} (g:Gr P s₀ s) (g2:GrX P Wr s s') (h:∀ b,Wr b->b = P \/ s₀.heap.get? b = none):Gr P s₀ s' :=
 ⟨fun b o hb e=>g2.ext b o (fun q=>(h b q).elim hb fun z=>by rw [e] at z; cases z) (g.ext b o hb e),fun b hl=>g2.live b (g.live b hl),fun t=>g2.tab (g.tab t),g2.os.trans g.os,fun q=>g2.gens (g.gens q)⟩
section
variable {W:Wd} {cf:Nat->List V->R V} {n:Nat}
set_option tactic.hygienic true in
theorem zpb {f:V->R (Option V)} {d:V} {r ys:List V} (h:compL f (d :: r) = .ok ys):(Ex2 fun y ys'=>And3 (f d = .ok (some y)) (compL f r = .ok ys') (ys = y :: ys')) \/ (f d = .ok none/\compL f r = .ok ys):=by
 rw [cL_c] at h
 split at h
 ·rename_i y hy;induction hr:compL f r using R.casesOn with
  | ok ys'=>rw [hr] at h; cases h; exact .inl ⟨y,ys',hy,rfl,rfl⟩
  | ex=>rw [hr] at h; cases h
  | st=>rw [hr] at h; cases h
 ·rename_i hy;exact .inr ⟨hy,h⟩
 ·cases h
theorem zce {K:Str->Option aY} {sc:Scope} (h:scOk K sc = true):sc.kind = .function/\(∀ y ∈ sc.names,y.2 ≠ .cell)/\(∀ y ∈ sc.names,y.2 = .local->sc.names.lookup y.1 = some .local)/\(∀ y ∈ sc.names,y.2 = .free->K y.1 = some .cell):=by
 unfold scOk at h;simp only [bB,beq_iff_eq,bS,bne_iff_ne,eQ] at h;obtain ⟨⟨h1,_⟩,h2⟩:=h;refine ⟨h1,fun y hy=>(h2 y hy).1.1,fun y hy q=>?_,fun y hy q=>?_⟩
 ·rcases (h2 y hy).1.2 with z | z
  ·exact absurd q z
  ·exact z
 ·rcases (h2 y hy).2 with z | z
  ·exact absurd q z
  ·exact z
theorem zos {K:Str->Option aY} {sc:Scope} (h:scOk K sc = true):sc.names.lookup ("remaining" : Str) ≠ some .local:=by
 unfold scOk at h;simp only [bB,bne_iff_ne] at h;exact h.1.2
theorem ztc {env:Env} {l:List Env} {A:bA} {X X':aN->Prop} {s₀ s:aC} {K:Str->Option aY} {sc:Scope} {cl:List (Str × aN)} {C:aN} (B:Bs W) (hK:∀ x,env.kindOf x = K x) (hsc:scOk K sc = true) (c:Cx W env l A n X s₀) (g:Gr W.P s₀ s)
  (hcl:∀ x ∈ sc.names,x.2 = .free->(cl.lookup x.1).isSome = true) (hX:∀ a,X' a->X a \/ s₀.heap.get? a = none) (hXo:XOk X' s.heap) (hP:X' W.P):Cx W (compEnvC sc cl C env) l A n X' s:=by
 obtain ⟨h1,h2,h3,h4⟩:=zce hsc;refine ⟨c.hh,c.dep,c.un,c.st,zca (c.tab B) g c.fr,c.base.trans g,hXo,hP,fun a ha=>?_,c.eg,c.eb,h1,fun hx=>?_,fun x hx=>?_⟩
 ·rcases hX a ha with q | q
  ·exact c.xb a q
  ·by_cases hp:a = W.P
   ·exact .inl hp
   ·right
    cases e:W.sB.heap.get? a with
    | none=>rfl
    | some o=>have:=c.base.ext a o hp e; rw [q] at this; cases this
 ·rw [zay hK c.ek] at hx;exact absurd (zcx hx) (zos hsc)
 ·rw [zay hK c.ek] at hx;exact hcl _ (zc8 h2 hx).1 rfl
set_option tactic.hygienic true in
theorem zqt {env:Env} {l:List Env} {A:bA} {X X':aN->Prop} {s₀ s:aC} {K:Str->Option aY} {sc:Scope} {cl:List (Str × aN)} {C:aN} {names:List (Option Str)} {ρ:List (Option V)} {xs:List Str} {lv:List (Option V)} {m:Str->Option aD} (B:Bs W) (hK:∀ x,env.kindOf x = K x) (hsc:scOk K sc = true)
  (c:Cx W env l A n X s₀) (hv:EvV W env names ρ X s₀) (g:Gr W.P s₀ s) (hcl:∀ n c,cl.lookup n = some c->env.cells.lookup n = some c) (hcl2:∀ x ∈ sc.names,x.2 = .free->(cl.lookup x.1).isSome = true) (hX:∀ a,X' a->X a \/ s₀.heap.get? a = none)
  (hxl:∀ x ∈ xs,sc.names.lookup x = some .local) (hn:s.heap.Ns C m) (hlen:lv.length = xs.length) (hval:∀ (i:Nat) (y:Str) (d':V),xs[i]? = some y->lv[i]? = some (some d')->∃ v',m y = some v'/\Rep X' s.heap d' v') :
  EvV W (compEnvC sc cl C env) (mask (inK K sc) names++xs.map some) (ρ++lv) X' s:=by
 obtain ⟨h1,h2,h3,h4⟩:=zce hsc;have hml:(mask (inK K sc) names).length = ρ.length:=by unfold mask; rw [bQ]; exact hv.len
 refine ⟨by rw (config:={}) [aK,aK,bQ,hml,hlen],fun i x d hi hd=>?_⟩;rcases Nat.lt_or_ge i ρ.length with hlt | hge
 ·rw [List.getElem?_append_left (by omega)] at hi hd;unfold mask at hi;rw [cV] at hi;obtain ⟨o,ho,hi⟩:=aW.mp hi
  cases o with
  | none=>cases hi
  | some x' =>
   dsimp only at hi
   split at hi
   ·rename_i hcell
    cases (hi)
    have hcell':=aR hcell;have hf:=zc8 h2 hcell';obtain ⟨v,r,q⟩:=hv.val i x d ho hd;have hkx:env.kindOf x = some .cell:=by rw [hK]; exact hf.2
    rcases q with ⟨z,_⟩ | ⟨_,ca,hca,hne,o,ho',hdat⟩
    ·rw [hkx] at z; cases z
    ·refine ⟨v,?_,.inr ⟨by rw [zay hK c.ek]; exact hcell',ca,?_,hne,o,g.ext ca o hne ho',hdat⟩⟩
     ·have r1:Rep (fun a=>X a \/ s₀.heap.get? a = none) s₀.heap d v:=r.avoid fun a ha hl=>ha.elim id fun z=>by rw [z] at hl; cases hl
      exact (r1.gr (.inl c.xp) g).mono hX fun b o O e=>e
     ·show cl.lookup x = some ca;obtain ⟨c2,e2⟩:=aH.mp (hcl2 _ hf.1 rfl);have:=hcl _ _ e2;rw [hca] at this
      cases this
      exact e2
   ·cases hi
 ·rw [eJ (by omega)] at hi hd;rw [hml,cV] at hi;obtain ⟨y,hy,hi⟩:=aW.mp hi
  cases hi
  obtain ⟨v',hm,rv⟩:=hval _ _ _ hy hd;refine ⟨v',rv,.inl ⟨?_,m,hn,hm⟩⟩;rw [zay hK c.ek];exact zbo (hxl _ (eW hy))
end
section
variable {W:Wd} {cf:Nat->List V->R V} {n:Nat}
theorem zaz {h:cZ} {a b:aN} (ha:h.get? a = none) (hb:(h.get? b).isSome = true):b ≠ a:=fun e=>by rw [e,ha] at hb; cases hb
set_option tactic.hygienic true in
theorem Itr.next {X:aN->Prop} {s₀:aC} {tg:aL} {I:aN} {fp:List aN} {d:V} {r:List V} {h:cZ} (i:Itr W X s₀ tg I fp (d :: r) h) {A:bA} {E:aD->aC->Prop} {s':aC} {X':aN->Prop} {Qn:aC->Prop} {Q:aD->aC->Prop}
  (hh:A.handled = none) (g:GrX W.P (Xd X s₀) s₀ s') (hk:∀ b ∈ fp,∀ o,h.get? b = some o->s'.heap.get? b = some o) (hX:∀ a,X' a->Xd X s₀ a) (hXo:XOk X' s'.heap)
  (hQ:∀ v s'',GrX W.P (· ∈ fp) s' s''->Rep X' s''.heap d v->Itr W X s₀ tg I fp r s''.heap->Q v s'') :
  wpAny (model W.pp W.w) A (pyNext (.ref I)) (fun o s1=>match o with | none=>Qn s1 | some v=>wpAny (model W.pp W.w) A (letOwnedTupleGo tg (.ref I) v) (fun O s2=>Q v s2) E s1) E s':=by
 refine aG (i A E (fun o s=>∃ v,o = some v/\Q v s) s' X' hh g hk hX hXo fun v s'' a b c=>⟨v,rfl,hQ v s'' a b c⟩) (fun o s1 q=>?_) fun O O x=>x;obtain ⟨v,rfl,q⟩:=q;exact aG q (fun O s2 ⟨v',e,h2⟩=>by cases e; exact h2) fun O O x=>x
theorem R.bind_inv {α β:Type} {r:R α} {f:α->R β} {y:β} (h:r.bind f = .ok y):Ey2 (fun x (_:Unit)=>r = .ok x) (fun x O=>f x = .ok y):=by
 induction r using R.casesOn with
 | ok x=>exact ⟨x,(),rfl,h⟩
 | ex=>cases h
 | st=>cases h
theorem zmp {ts:List V} {d:V} {b:Bool} (h:tests (d :: ts) = some b):ts = []/\vtruth d = some b:=by
 cases ts with
 | nil=>exact ⟨rfl,h⟩
 | cons x r=>cases h
theorem zow {l:MEs} {ρ:List (Option V)} (h:evs cf l ρ = .ok []):l = .nil:=by
 cases l with
 | nil=>rfl
 | cons e l =>
  obtain ⟨d,_,_,h2⟩:=R.bind_inv h;obtain ⟨ds,_,_,h3⟩:=R.bind_inv h2
  cases h3
theorem zkr {c0:ME} {cr:MEs} {ρ:List (Option V)} {ts:List V} {b:Bool} (h1:evs cf (.cons c0 cr) ρ = .ok ts) (h2:tests ts = some b):cr = .nil/\tst (ev cf c0 ρ) = .ok b:=by
 obtain ⟨d,_,h3,h4⟩:=R.bind_inv h1;obtain ⟨ds,_,h5,h6⟩:=R.bind_inv h4;clear h4 h1
 cases h6
 obtain ⟨rfl,h7⟩:=zmp h2;refine ⟨zow h5,?_⟩;rw [h3];show R.ofO (vtruth d) = _;rw [h7];rfl
theorem zio (B:Bs W) {cond:MEs} (hl:AllS W n cf cond) {K:Str->Option aY} {names:List (Option Str)} {ifs:List aL} {env:Env} {l:List Env} {A:bA} {E:aD->aC->Prop} {X:aN->Prop} {s:aC} {ρ:List (Option V)} {ts:List V} {b:Bool}
  (hc:chks (fns W.fs) cond K names ifs = true) (hK:∀ x,env.kindOf x = K x) (c:Cx W env l A n X s) (hv:EvV W env names ρ X s) (h1:evs cf cond ρ = .ok ts) (h2:tests ts = some b) :
  wpAny (model W.pp W.w) A (forIn ifs true fun c r=>if r = true then do let ok <- isTrue c env (eval c env); pure (eR ok) else pure (eR r)) (fun ok s'=>ok = b/\Gr W.P s s') E s:=by
 cases cond with
 | nil =>
  obtain rfl:=zcm hc
  cases h1
  cases h2
  exact wpAny_tests_nil ⟨rfl,.refl _⟩
 | cons c0 cr =>
  apply zaw hc;clear hc;intro e0 er hc;obtain ⟨hc1,h3⟩:=zaa hc;clear hc;obtain ⟨rfl,ht⟩:=zkr h1 h2;obtain rfl:=zcm h3;refine wpAny_tests_one (aG (hl.2.1 K names e0 env l A E X s ρ hc1 hK c hv (by rw [ht]; exact fun q=>nomatch q) (by rw [ht]; exact fun q=>nomatch q)) (fun ok s' q=>?_) fun O O x=>x);obtain ⟨q1,q2⟩:=q;rw [ht] at q1
  cases q1
  exact ⟨rfl,q2⟩
theorem zmv {o:Option Bool} {r:R V} {z:Option V} (h:(match o with
  | some true=>r.bind fun y=>.ok (some y)
  | some false=>.ok none
  | none=>.st:R (Option V)) = .ok z):∃ b,o = some b/\(if b = true then Ey2 (fun y (_:Unit)=>r = .ok y) (fun y O=>z = some y) else z = none):=by
 rcases o with _ | _ | _
 ·cases h
 ·cases h; exact ⟨false,rfl,rfl⟩
 ·obtain ⟨y,u,h1,h2⟩:=R.bind_inv h
  cases h2
  exact ⟨true,rfl,y,u,h1,rfl⟩
theorem zjv {elt:ME} {k:Nat} {cond:MEs} {ρ:List (Option V)} {d:V} {z:Option V} (h:turnR cf elt k cond ρ d = .ok z) :
  Ex3 fun lv ts b=>And4 (bindT k d = some lv) (evs cf cond (ρ++lv) = .ok ts) (tests ts = some b) (if b = true then Ey2 (fun y (_:Unit)=>ev cf elt (ρ++lv) = .ok y) (fun y O=>z = some y) else z = none):=by
 unfold turnR at h
 cases hb:bindT k d with
 | none=>rw [hb] at h; cases h
 | some lv =>
  rw [hb] at h;obtain ⟨ts,_,h1,h2⟩:=R.bind_inv h;obtain ⟨b,h3,h4⟩:=zmv h2;exact ⟨lv,ts,b,rfl,h1,h3,h4⟩
theorem zlq {elt:ME} {k:Nat} {cond:MEs} {ρ:List (Option V)} {d:V} {r ys:List V} (h:compL (turnR cf elt k cond ρ) (d :: r) = .ok ys) :
  Ex3 fun lv ts b=>And4 (bindT k d = some lv) (evs cf cond (ρ++lv) = .ok ts) (tests ts = some b) (if b = true then Ex2 fun y ys'=>And3 (ev cf elt (ρ++lv) = .ok y) (compL (turnR cf elt k cond ρ) r = .ok ys') (ys = y :: ys') else compL (turnR cf elt k cond ρ) r = .ok ys):=by
 refine byC fun hG=>?_;rcases zpb h with ⟨y,ys',q,q2,q3⟩ | ⟨q,q2⟩
 ·obtain ⟨lv,ts,b,h1,h2,h3,h4⟩:=zjv q;refine hG ?_;clear hG
  cases b with
  | false=>cases h4
  | true =>
   obtain ⟨y',_,h5,h6⟩:=h4
   cases h6
   exact ⟨lv,ts,true,h1,h2,h3,y,ys',h5,q2,q3⟩
 ·obtain ⟨lv,ts,b,h1,h2,h3,h4⟩:=zjv q;refine hG ?_;clear hG
  cases b with
  | false=>exact ⟨lv,ts,false,h1,h2,h3,q2⟩
  | true=>obtain ⟨_,_,_,h6⟩:=h4; cases h6
noncomputable def CInv (W:Wd) (cf:Nat->List V->R V) (elt:ME) (k:Nat) (cond:MEs) (ρ:List (Option V)) (tgt:aL) (X Y:aN->Prop) (C D I:aN) (ys:List V) (s₀:aC) (kk:Nat) (s':aC):Prop :=
 Ex6 fun r ys₀ ys₁ vs₀ m h=>And11 (kk = r.length+1) (Gr W.P s₀ s') (s'.heap.PlainList D (aQ vs₀)) (RepL Y s'.heap ys₀ vs₀) (s'.heap.Ns C m) ((s'.heap.get? I).isSome = true) (Itr W X s₀ tgt I [I] r h) ((∀ o,h.get? I = some o->s'.heap.get? I = some o)) (compL (turnR cf elt k cond ρ) r = .ok ys₁) (ys = ys₀++ys₁) (ys₀.length+r.length <= 1000000)
set_option tactic.hygienic true in
theorem zl1 (B:Bs W) {elt:ME} {k:Nat} {cond:MEs} (he:Snd W n cf elt) (hcd:AllS W n cf cond) {K:Str->Option aY} {names:List (Option Str)} {ρ:List (Option V)} {env:Env} {l:List Env} {A:bA} {X:aN->Prop} {s₀ s₁:aC}
  {sc:Scope} {cl:List (Str × aN)} {C D I:aN} {tgt ee it:aL} {ifs:List aL} {pos:Pos} {xs:List Str} {ds ys:List V} {Rr:Result->aC->Prop} {m₁:Str->Option aD} {h₁:cZ}
  (hc:chk (fns W.fs) elt (inK K sc) (mask (inK K sc) names++xs.map some) ee = true) (hcs:chks (fns W.fs) cond (inK K sc) (mask (inK K sc) names++xs.map some) ifs = true)
  (htg:tgtNames k tgt = some xs) (hxl:∀ x ∈ xs,sc.names.lookup x = some .local) (hnd:xs.Nodup) (hsc:scOk K sc = true) (hK:∀ x,env.kindOf x = K x) (c:Cx W env l A n X s₀) (hv:EvV W env names ρ X s₀)
  (hcl:∀ n c,cl.lookup n = some c->env.cells.lookup n = some c) (hcl2:∀ x ∈ sc.names,x.2 = .free->(cl.lookup x.1).isSome = true)
  (hC:s₀.heap.get? C = none) (hD:s₀.heap.get? D = none) (hI:s₀.heap.get? I = none) (hCD:C ≠ D) (hCI:C ≠ I) (hDI:D ≠ I)
  (g₁:Gr W.P s₀ s₁) (hD₁:s₁.heap.PlainList D #[]) (hC₁:s₁.heap.Ns C m₁) (hI₁:(s₁.heap.get? I).isSome = true) (hitr:Itr W X s₀ tgt I [I] ds h₁) (hk₁:∀ o,h₁.get? I = some o->s₁.heap.get? I = some o)
  (hys:compL (turnR cf elt k cond ρ) ds = .ok ys) (hsz:ds.length <= 1000000)
  (hR:∀ s' vs m,Gr W.P s₀ s'->s'.heap.PlainList D (aQ vs)->RepL (fun a=>X a \/ a = C \/ a = D \/ a = I) s'.heap ys vs->s'.heap.Ns C m->ys.length <= 1000000->Rr (.ok .next) s') :
  codeAny (model W.pp W.w) A (.compLoop (.ListComp ee [⟨tgt,it,ifs,0⟩] sc pos) 0 (.ref I) (.ref D) (compEnvC sc cl C env)) Rr s₁:=by
 have tabs:IsTab s₀.heap W.P:=c.tab B;have hPl:(s₀.heap.get? W.P).isSome = true:=by obtain ⟨ps,e⟩:=tabs; rw [e]; rfl
 have hPC:W.P ≠ C:=zaz hC hPl;have hPD:W.P ≠ D:=zaz hD hPl;have hPI:W.P ≠ I:=zaz hI hPl;have hXdead:∀ a,(X a \/ a = C \/ a = D \/ a = I)->X a \/ s₀.heap.get? a = none:=fun a ha =>
  ha.imp_right fun ha=>ha.elim (fun q=>q ▸ hC) fun ha=>ha.elim (fun q=>q ▸ hD) fun q=>q ▸ hI
 refine byC fun hG=>?_;obtain ⟨Y,yE,yC,yD,yI,yP⟩:∃ Y:aN->Prop,And5 ((fun a=>X a \/ a = C \/ a = D \/ a = I) = Y) (Y C) (Y D) (Y I) (Y W.P):=⟨_,rfl,.inr (.inl rfl),.inr (.inr (.inl rfl)),.inr (.inr (.inr rfl)),.inl c.xp⟩;have hXo:∀ {s':aC} {m vs₀},Gr W.P s₀ s'->s'.heap.Ns C m->s'.heap.PlainList D vs₀->(s'.heap.get? I).isSome = true->XOk Y s'.heap:=fun {s' m vs₀} g hns hpl hIl=>yE ▸ fun a ha =>
  ha.elim (fun q=>g.live a (c.xok a q)) fun ha=>ha.elim (fun q=>q ▸ Ns.live hns) fun ha=>ha.elim (fun q=>q ▸ (by obtain ⟨nn,e⟩:=hpl; rw [e]; rfl)) fun q=>q ▸ hIl
 replace hXdead:∀ a,Y a->X a \/ s₀.heap.get? a = none:=yE ▸ hXdead;have hcxY:∀ {s3:aC},Gr W.P s₀ s3->XOk Y s3.heap->Cx W (compEnvC sc cl C env) l A n Y s3:=fun gs3 hXo3=>ztc B hK hsc c gs3 hcl2 hXdead hXo3 yP;rw [yE] at hR;clear yE;obtain ⟨J,hJ⟩:∃ J:Nat->aC->Prop,CInv W cf elt k cond ρ tgt X Y C D I ys s₀ = J:=⟨_,rfl⟩;have hin:∀ {kk s'},CInv W cf elt k cond ρ tgt X Y C D I ys s₀ kk s'->J kk s':=fun h=>hJ ▸ h;refine hG ?_;clear hG;refine zcp J ?_ (ds.length+1) (hin ⟨ds,[],ys,[],m₁,h₁,rfl,g₁,hD₁,rfl,hC₁,hI₁,hitr,hk₁,hys,rfl,by simpa using hsz⟩);intro E kk s' hJ';rw [<- hJ] at hJ';clear hJ;obtain ⟨r,ys₀,ys₁,vs₀,m,h,hkk,g,hpl,rys,hns,hIl,hitr',hkeep,hcomp,hyy,hlen⟩:=hJ';subst hkk;have hvl:=rys.length;have kI:∀ b ∈ [I],∀ o,h.get? b = some o->s'.heap.get? b = some o:=fun b hb o e=>by
  cases bR.mp hb
  exact hkeep o e
 cases r with
 | nil =>
  refine hitr' A _ _ s' c.hh (.of g (.inl c.xp)) kI fun h' tk hk'=>?_;have hx:∀ b o,b ≠ I->s'.heap.get? b = some o->h'.get? b = some o:=fun b o hb e=>hk' b o (by simpa using hb) e;have g2:Gr W.P s₀ { s' with heap:=h',toks:=tk }:=by
   refine ⟨fun b o hb e=>hx b o (zaz hI (by rw [e]; rfl)) (g.ext b o hb e),fun b hl=>?_,fun t=>?_,g.os,g.gens⟩
   ·obtain ⟨o,e⟩:=aH.mp (g.live b hl);exact aH.mpr ⟨o,hx b o (zaz hI hl) e⟩
   ·obtain ⟨ps,e⟩:=g.tab t;exact ⟨ps,hx _ _ hPI e⟩
  have e1:ys = ys₀:=by cases hcomp; rw [hyy,bV]
  clear hvl hyy;subst e1;exact hR _ vs₀ m g2 (hpl.at fun o e=>hx D o hDI e) (rys.mono (fun O q=>q) fun b o hb e=>hx b o (fun q=>hb (q ▸ yI)) e) (hns.at' fun o e=>hx C o hCI e) hlen
 | cons d r =>
  obtain ⟨lv,ts,bb,hb,hts,htb,hcomp⟩:=zlq hcomp;refine hitr'.next c.hh (.of g (.inl c.xp)) kI hXdead (hXo g hns hpl hIl) fun v s2 g2 rv hitr2=>?_;have gs2:Gr W.P s₀ s2:=g.andX g2 fun b hb=>.inr (bR.mp hb ▸ hI);have k2:∀ b o,b ≠ I->s'.heap.get? b = some o->s2.heap.get? b = some o:=fun b o hb e=>g2.ext b o (fun q=>hb (bR.mp q)) e;have hns2:s2.heap.Ns C m:=hns.at' fun o e=>k2 C o hCI e;have hloc:∀ x ∈ xs,(compEnvC sc cl C env).kindOf x = some .local:=fun x hx=>by rw [zay hK c.ek]; exact zbo (hxl x hx)
  refine zil (m:=m) c.hh (zce hsc).1 htg hloc hnd hb rv yC (cQ hPC) hns2 fun s3 m3 g3 hns3 hlv hval=>?_;have gs3:Gr W.P s₀ s3:=gs2.andX g3 fun b (hb:b = C)=>.inr (hb ▸ hC);have k3:∀ b o,b ≠ C->s2.heap.get? b = some o->s3.heap.get? b = some o:=fun b o hb e=>g3.ext b o hb e;have hpl3:s3.heap.PlainList D vs₀.toArray:=hpl.at fun o e=>k3 D o (cQ hCD) (k2 D o hDI e);have rys3:RepL Y s3.heap ys₀ vs₀:=rys.mono (fun O q=>q) fun b o hb e=>k3 b o (fun q=>hb (q ▸ yC)) (k2 b o (fun q=>hb (q ▸ yI)) e);have hI3:(s3.heap.get? I).isSome = true:=g3.live I (g2.live I hIl);have hcx:=hcxY gs3 (hXo gs3 hns3 hpl3 hI3);have hev:EvV W (compEnvC sc cl C env) (mask (inK K sc) names++xs.map some) (ρ++lv) Y s3:=zqt B hK hsc c hv gs3 hcl hcl2 hXdead hxl hns3 hlv hval;have hKc:=zay (sc:=sc) (cl:=cl) (C:=C) hK c.ek;have hIx:∀ o,s2.heap.get? I = some o->s3.heap.get? I = some o:=fun o e=>k3 I o (cQ hCI) e;refine aG (zio B hcd hcs hKc hcx hev hts htb) (fun ok s4 q=>?_) fun O O x=>x;obtain ⟨rfl,g4⟩:=q;have gs4:=gs3.trans g4;clear htb
  cases ok with
  | false =>
   rw [if_neg aJ] at hcomp |-;exact ⟨r.length+1,cU _,hin ⟨r,ys₀,ys₁,vs₀,m3,s2.heap,rfl,gs4,hpl3.at fun o e=>g4.ext D o (cQ hPD) e,rys3.gr yP g4,zhf g4 hns3 (cQ hPC),g4.live I hI3,hitr2,fun o e=>g4.ext I o (cQ hPI) (hIx o e),hcomp,hyy,by simp at hlen |-; omega⟩⟩
  | true =>
   rw [if_pos rfl] at hcomp |-;obtain ⟨y,ys',hy,hcomp3,hy1⟩:=hcomp;have hcx4:=hcx.gr B g4;have hev4:=hev.gr (gs3.tab tabs) yP g4;refine aG (he (inK K sc) _ ee _ l A _ _ s4 _ hc hKc hcx4 hev4 (by rw [hy]; exact fun q=>nomatch q) (by rw [hy]; exact fun q=>nomatch q)) (fun yv s5 q=>?_) fun O O x=>x;obtain ⟨y',e5,g5,ry⟩:=q;rw [hy] at e5
   cases e5
   have g35:=g4.trans g5;have hpl5:s5.heap.PlainList D vs₀.toArray:=hpl3.at fun o e=>g35.ext D o (cQ hPD) e;refine gL hpl5 (fun h6 hl6 hs6=>?_) (by rw [cO]; simp at hlen |-; omega);have g6:GrX W.P (fun O=>O = D) s5 { s5 with heap:=h6,toks:=s5.toks }:=.one hs6 (fun O=>by obtain ⟨nn,e⟩:=hl6; rw [e]; rfl) (fun O=>cQ hPD) rfl;have gs6:Gr W.P s₀ { s5 with heap:=h6,toks:=s5.toks }:=(gs4.trans g5).andX g6 fun b (hb:b = D)=>.inr (hb ▸ hD);have k6:∀ b o,b ≠ D->s5.heap.get? b = some o->h6.get? b = some o:=fun b o hb e=>g6.ext b o hb e;exact ⟨r.length+1,cU _,hin ⟨r,ys₀++[y],ys',vs₀++[yv],m3,s2.heap,rfl,gs6,by simpa using hl6,((rys3.gr yP g35).append (.one ry)).mono (fun O q=>q) fun b o hb e=>k6 b o (fun q=>hb (q ▸ yD)) e,(zhf g35 hns3 (cQ hPC)).at' fun o e=>k6 C o hCD e,g6.live I (g35.live I hI3),hitr2,fun o e=>k6 I o (cQ hDI) (g35.ext I o (cQ hPI) (hIx o e)),hcomp3,by rw [hyy,hy1]; simp,by simp at hlen |-; omega⟩⟩
end
section
variable {W:Wd} {cf:Nat->List V->R V} {n:Nat}
theorem Gr.but {P C:aN} {s s':aC} {h':cZ} (g:Gr P s s') (hs:dS C s'.heap h') (hC:s.heap.get? C = none) (t:IsTab s.heap P):Gr P s { s' with heap:=h' }:=by
 have hx:∀ b,(s.heap.get? b).isSome = true->b ≠ C:=fun b hb q=>by rw [q,hC] at hb; cases hb
 have hP:P ≠ C:=hx P (by obtain ⟨ps,e⟩:=t; rw [e]; rfl);refine ⟨fun b o hb e=>(hs.2 b (hx b (by rw [e]; rfl))).trans (g.ext b o hb e),fun b hl=>?_,fun t'=>?_,g.os,g.gens⟩
 ·show (h'.get? b).isSome = true;rw [hs.2 b (hx b hl)];exact g.live b hl
 ·obtain ⟨ps,e⟩:=g.tab t';exact ⟨ps,(hs.2 P hP).trans e⟩
set_option tactic.hygienic true in
theorem zqc (B:Bs W) {elt iter:ME} {k:Nat} {cond:MEs} (he:Snd W n cf elt) (hi:Snd W n cf iter) (hcd:AllS W n cf cond) {K:Str->Option aY} {names:List (Option Str)} {ρ:List (Option V)} {env:Env} {l:List Env} {A:bA} {E:aD->aC->Prop} {X:aN->Prop} {s:aC}
  {sc:Scope} {tgt ee it:aL} {ifs:List aL} {pos:Pos} {xs:List Str} {use:Option (aD->Sem Unit)} {Q:aD->aC->Prop}
  (hit:chk (fns W.fs) iter K names it = true) (hc:chk (fns W.fs) elt (inK K sc) (mask (inK K sc) names++xs.map some) ee = true) (hcs:chks (fns W.fs) cond (inK K sc) (mask (inK K sc) names++xs.map some) ifs = true)
  (htg:tgtNames k tgt = some xs) (hxl:∀ x ∈ xs,sc.names.lookup x = some .local) (hnd:xs.Nodup) (hsc:scOk K sc = true) (hK:∀ x,env.kindOf x = K x) (c:Cx W env l A n X s) (hv:EvV W env names ρ X s)
  (hn:ev cf (.lc elt k iter cond) ρ ≠ .st) (hE:ev cf (.lc elt k iter cond) ρ = .ex->∀ e s',Exc W (fun O=>O = W.P) l s e s'->E e s')
  (hfin:∀ s' ys vs C D m,ev cf (.lc elt k iter cond) ρ = .ok (.lst ys)->Gr W.P s s'->s.heap.get? C = none->s.heap.get? D = none->C ≠ D->s'.heap.PlainList D (aQ vs)->RepL (fun a=>X a \/ a = C \/ a = D) s'.heap ys vs->s'.heap.Ns C m->ys.length <= 1000000 ->
   compPost (model W.pp W.w) A E use Q (.ref D) C (.ok .next) s') :
  wpAny (model W.pp W.w) A (comprehension (.ListComp ee [⟨tgt,it,ifs,0⟩] sc pos) sc env (firstIterPos [⟨tgt,it,ifs,0⟩] pos) (newList []) false (eval it env) use) Q E s:=by
 refine byC fun hG=>?_;obtain ⟨h1,h2,h3,h4⟩:=zce hsc;obtain ⟨cl,hclos,hcl,hcl2⟩:=zfp (env:=env) (sc:=sc) fun x hx hf=>c.ec _ (by rw [hK]; exact h4 x hx hf);rw [zwh] at hn hE hfin;refine hG ?_;clear hG;refine wpAny_comprehension_free (g:=⟨tgt,it,ifs,0⟩) (gs:=[]) rfl (zdn hit) hclos h1 h3 ?_;refine (hi K names it env l A E X s ρ hit hK c hv).to hn hE fun d v s1 hr g rp=>?_;rw [hr] at hn hE hfin;simp only [R.bind_ok] at hn hE hfin
 split at hn
 ·rename_i items
  split at hn
  ·rename_i hz;dsimp only at hE hfin;rw [if_pos hz] at hE hfin;have c1:=c.gr B g;have hv1:=hv.gr (c.tab B) c.xp g;induction hys:compL (turnR cf elt k cond ρ) items using R.casesOn with
   | st=>rw [hys] at hn; exact absurd rfl hn
   | ex =>
    exfalso;have:∀ l:List V,compL (turnR cf elt k cond ρ) l ≠ .ex:=by
     intro l;induction l with
     | nil=>rw [cL_n]; exact fun q=>nomatch q
     | cons x r ih =>
      rw [cL_c]
      split
      ·intro q;induction hr:compL (turnR cf elt k cond ρ) r using R.casesOn with
       | ok z=>rw [hr] at q; cases q
       | ex=>exact ih hr
       | st=>rw [hr] at q; cases q
      ·exact ih
      ·exact fun q=>nomatch q
    exact this _ hys
   | ok ys =>
    rw [hys] at hfin;simp only [R.bind_ok] at hfin;obtain ⟨ax,vs,rfl,hax,hl,rl⟩:=rp;refine wpAny_pyIter_list hl ?_;have hitr:=zga (tg:=tgt) (c1.tab B) hax hl rl;generalize hI:s1.heap.objs.size = I at hitr |-;have hId:s1.heap.get? I = none:=hI ▸ zan _;refine wpAny_newObj_type (wpAny_newFunctionEnv h2 (by intro y hy; simp at hy) (fun h5 hns5 hsb5=>?_) h1);dsimp only at hns5 hsb5 |-;generalize hH2:s1.heap.push { cls:=.type "list_iterator",data:=.fields #[.ref ax,.int 0 0] } = H2 at hitr hns5 hsb5 |-;have hsz2:H2.objs.size = I+1:=by rw [<- hH2,Heap.size_push,hI]
    generalize hH3:H2.push { cls:=.type "list",data:=.seq (aQ []) } = H3 at hns5 hsb5 |-;have hsz3:H3.objs.size = I+2:=by rw [<- hH3,Heap.size_push,hsz2]
    have dead:∀ a,I <= a->s1.heap.get? a = none:=fun a ha=>by
     cases e:s1.heap.get? a with
     | none=>rfl
     | some o=>have:=bW e; rw [hI] at this; exact absurd this (Nat.not_lt.mpr ha)
    have hDd:s1.heap.get? H2.objs.size = none:=dead _ (by rw [hsz2]; exact Nat.le_succ _);have hCd:s1.heap.get? H3.objs.size = none:=dead _ (by rw [hsz3]; exact Nat.le_add_right _ _);have hCD:H3.objs.size ≠ H2.objs.size:=by rw [hsz3,hsz2]; omega
    have hCI:H3.objs.size ≠ I:=by rw [hsz3]; omega
    have hDI:H2.objs.size ≠ I:=by rw [hsz2]; omega
    have k25:∀ b o,H2.get? b = some o->h5.get? b = some o:=fun b o e=>(hsb5.2 b (fun q=>by
     have h9:=bW e;rw [q] at h9;exact dG _ (Nat.lt_trans h9 (by rw [hsz3,hsz2]; exact cU _)))).trans (bG _ (hH3 ▸ bG _ e))
    have k15:∀ b o,s1.heap.get? b = some o->h5.get? b = some o:=fun b o e=>k25 b o (hH2 ▸ bG _ e);have hpl5:h5.PlainList H2.objs.size #[]:=by
     refine ⟨_,(hsb5.2 _ (cQ hCD)).trans (bG _ (hH3 ▸ bI _ rfl))⟩
    obtain ⟨oi,hoi⟩:∃ oi,H2.get? I = some oi:=⟨_,by rw [<- hH2,<- hI]; exact bI _ rfl⟩;have loop:∀ s6:aC,s6 = { s1 with heap:=h5,toks:=s1.toks+([]:List (Str × aD)).length } ->
      codeAny (model W.pp W.w) A (.compLoop (.ListComp ee [⟨tgt,it,ifs,0⟩] sc pos) 0 (.ref I) (.ref H2.objs.size) (compEnvC sc cl H3.objs.size env)) (compPost (model W.pp W.w) A E use Q (.ref H2.objs.size) H3.objs.size) s6:=by
     rintro s6 rfl;refine zl1 B he hcd (ρ:=ρ) (names:=names) (K:=K) (s₀:=s1) (ds:=items) (ys:=ys) hc hcs htg hxl hnd hsc hK c1 hv1 hcl hcl2 hCd hDd hId hCD hCI hDI (.keep k15) hpl5 hns5 (by show (h5.get? I).isSome = true; rw [k25 I oi hoi]; rfl) hitr (fun o e=>k25 I o e) hys hz ?_;intro s' vs' m' g' hpl' rys' hns' hlen';refine hfin s' ys vs' _ _ m' rfl (g.trans g') ?_ ?_ hCD hpl' (rys'.mono (fun a q=>by rcases q with q | q | q; exact .inl q; exact .inr (.inl q); exact .inr (.inr (.inl q))) fun b o O e=>e) hns' hlen'
     ·cases e:s.heap.get? H3.objs.size with
      | none=>rfl
      | some o =>
       obtain ⟨o',e'⟩:=aH.mp (g.live _ (by rw [e]; rfl));rw [hCd] at e'
       cases e'
     ·cases e:s.heap.get? H2.objs.size with
      | none=>rfl
      | some o =>
       obtain ⟨o',e'⟩:=aH.mp (g.live _ (by rw [e]; rfl));rw [hDd] at e'
       cases e'
    refine codeAny_compStart_list (loop _ rfl) ?_;have hit5:h5.IsListIter I ax 0:=by
     rw [<- hH2,<- hI] at hoi;rw [bI _ rfl] at hoi
     cases hoi
     exact ⟨_,k25 I _ (by rw [<- hH2,<- hI]; exact bI _ rfl),rfl,rfl⟩
    exact wpAny_pyIter_listiter hit5 (loop _ rfl)
  ·exact absurd rfl hn
 ·exact absurd rfl hn
theorem zvf (B:Bs W) {elt iter:ME} {k:Nat} {cond:MEs} (he:Snd W n cf elt) (hi:Snd W n cf iter) (hcd:AllS W n cf cond):Snd W n cf (.lc elt k iter cond):=by
 intro K names e env l A E X s ρ hc hK c hv hn hE;apply zew hc;clear hc;intro ee gens sc pos hc;apply zah hc;clear hc;intro g hc;apply zc7 hc;clear hc;intro tgt it ifs hc
 ·skip
  ·skip
   replace hc:=zac hc;obtain ⟨h1,h2,h3⟩:=hc;replace h3:=zar h3;obtain ⟨xs,hxs,h3⟩:=h3
   ·skip
    replace h3:=za9 h3;obtain ⟨h4,h5,h6,h7⟩:=h3
    try simp only [bS,beq_iff_eq,decide_eq_true_eq] at h4 h5 h6 h7
    rw [eval_ListComp];refine zqc B he hi hcd h2 h6 h7 hxs h4 h5 h1 hK c hv hn hE ?_;intro s' ys vs C D m hev g hC hD hCD hpl rl hns hlen;refine ⟨m,hns,fun h' hs'=>⟨_,hev,?_,_,vs,rfl,fun q=>?_,(hpl.at fun o e=>(hs'.2 D (cQ hCD)).trans e).isList,?_⟩⟩
    ·exact g.but hs' hC (c.tab B)
    ·have:=c.xok D q;rw [hD] at this
     cases this
    ·exact rl.mono (fun a q=>.inl q) fun b o hb e=>(hs'.2 b (fun q=>hb (.inr (.inl q)))).trans e
end
set_option tactic.hygienic true in
theorem zrh (elt t0 i0 t1 i1:aL) (scope:Scope) (pos:Pos) (it acc:aD) (env:Env) :
  compTurn (.ListComp elt [⟨t0,i0,[],0⟩,⟨t1,i1,[],0⟩] scope pos) 0 it acc env = (do
   standAt i0.pos
   match <- pyNext it with
   | none=>pure (.done .next)
   | some v =>
    letOwnedTupleGo t0 it v
    assign t0 env v
    let x <- eval i1 env
    standAt i1.pos
    let x <- foldedSetIterable i1 env x
    let _ <- runOwn (.compStart (.ListComp elt [⟨t0,i0,[],0⟩,⟨t1,i1,[],0⟩] scope pos) 1 (<- holding [x] (pyIter x)) acc env) env
    again (.compLoop (.ListComp elt [⟨t0,i0,[],0⟩,⟨t1,i1,[],0⟩] scope pos) 0 it acc env)):=by rfl
set_option tactic.hygienic true in
theorem zrq (elt t0 i0 t1 i1:aL) (scope:Scope) (pos:Pos) (it acc:aD) (env:Env) :
  compTurn (.ListComp elt [⟨t0,i0,[],0⟩,⟨t1,i1,[],0⟩] scope pos) 1 it acc env = (do
   standAt i1.pos
   match <- pyNext it with
   | none=>pure (.done .next)
   | some v =>
    letOwnedTupleGo t1 it v
    assign t1 env v
    (do let _ <- call (.builtin "list.append") [acc,<- eval elt env])
    again (.compLoop (.ListComp elt [⟨t0,i0,[],0⟩,⟨t1,i1,[],0⟩] scope pos) 1 it acc env)):=by rfl
section
variable {prog:dC} {w:cF} {A:bA} {R:Result->aC->Prop} {s:aC} {elt t0 i0 t1 i1:aL} {scope:Scope} {pos:Pos} {it acc:aD} {env:Env}
set_option tactic.hygienic true in
theorem ztg (I:Nat->aC->Prop)
  (turn:∀ n s,I n s->wpAny (model prog w) A (pyNext it) (fun r s₁=>match r with
   | none=>R (.ok .next) s₁
   | some v=>wpAny (model prog w) A (letOwnedTupleGo t0 it v) (fun O s₂=>wpAny (model prog w) A (assign t0 env v) (fun O s₂ =>
     wpAny (model prog w) A (eval i1 env) (fun x s₃=>wpAny (model prog w) A (pyIter x) (fun iv s₄=>codeAny (model prog w) A (.compStart (.ListComp elt [⟨t0,i0,[],0⟩,⟨t1,i1,[],0⟩] scope pos) 1 iv acc env) (fun r s'=>match r with | .ok O=>∃ m,m < n/\I m s' | .error O=>False) s₄)
      (notedBy (model prog w) A env fun e s'=>R (.error e) s') s₃) (notedBy (model prog w) A env fun e s'=>R (.error e) s') s₂) (notedBy (model prog w) A env fun e s'=>R (.error e) s') s₂) (notedBy (model prog w) A env fun e s'=>R (.error e) s') s₁) (notedBy (model prog w) A env fun e s'=>R (.error e) s') s)
  (hs:∀ x,foldedSetIterable i1 env x = pure x) (n:Nat) (h:I n s) :
  codeAny (model prog w) A (.compLoop (.ListComp elt [⟨t0,i0,[],0⟩,⟨t1,i1,[],0⟩] scope pos) 0 it acc env) R s:=by
 refine codeAny_loop rfl I (fun n s hI=>?_) n h;show wpAny _ A ((compTurn (.ListComp elt [⟨t0,i0,[],0⟩,⟨t1,i1,[],0⟩] scope pos) 0 it acc env).onRaise (fun x=>do noteFrame x env; theTreesLotGoes x)) _ _ s;refine wpAny_noted ?_;rw [zrh];refine aF (eY (aF (aG (turn n s hI) (fun r s₁ h₁=>?_) fun O O h'=>h')))
 cases r with
 | none=>exact aV h₁
 | some v =>
  refine aF (aG h₁ (fun O s₂ h₁=>?_) fun O O h'=>h');refine aF (aG h₁ (fun O s₂ h₂=>?_) fun O O h'=>h');refine aF (aG h₂ (fun x s₃ h₃=>?_) fun O O h'=>h');refine aF (eY (aF (dM (hs x) ?_)));refine aF (dH (aG h₃ (fun iv s₄ h₄=>?_) fun O O h'=>h'));refine aF (wpAny_runOwn (h:=none) (codeAny_mono (by rw [Around.mark_none]; exact h₄) fun r s' q=>?_) (fun q=>nomatch q))
  cases r with
  | ok f=>exact aV ⟨rfl,q⟩
  | error e=>exact q.elim
set_option tactic.hygienic true in
theorem zri (I:Nat->aC->Prop)
  (turn:∀ n s,I n s->wpAny (model prog w) A (pyNext it) (fun r s₁=>match r with
   | none=>R (.ok .next) s₁
   | some v=>wpAny (model prog w) A (letOwnedTupleGo t1 it v) (fun O s₂=>wpAny (model prog w) A (assign t1 env v) (fun O s₂ =>
     wpAny (model prog w) A (eval elt env) (fun x s₃=>wpAny (model prog w) A (call (.builtin "list.append") [acc,x]) (fun O s₄=>∃ m,m < n/\I m s₄)
      (notedBy (model prog w) A env fun e s'=>R (.error e) s') s₃) (notedBy (model prog w) A env fun e s'=>R (.error e) s') s₂) (notedBy (model prog w) A env fun e s'=>R (.error e) s') s₂) (notedBy (model prog w) A env fun e s'=>R (.error e) s') s₁) (notedBy (model prog w) A env fun e s'=>R (.error e) s') s)
  (n:Nat) (h:I n s) :
  codeAny (model prog w) A (.compLoop (.ListComp elt [⟨t0,i0,[],0⟩,⟨t1,i1,[],0⟩] scope pos) 1 it acc env) R s:=by
 refine codeAny_loop rfl I (fun n s hI=>?_) n h;show wpAny _ A ((compTurn (.ListComp elt [⟨t0,i0,[],0⟩,⟨t1,i1,[],0⟩] scope pos) 1 it acc env).onRaise (fun x=>do noteFrame x env; theTreesLotGoes x)) _ _ s;refine wpAny_noted ?_;rw [zrq];refine aF (eY (aF (aG (turn n s hI) (fun r s₁ h₁=>?_) fun O O h'=>h')))
 cases r with
 | none=>exact aV h₁
 | some v =>
  refine aF (aG h₁ (fun O s₂ h₁=>?_) fun O O h'=>h');refine aF (aG h₁ (fun O s₂ h₂=>?_) fun O O h'=>h');exact aF (aF (aG h₂ (fun x s₄ h₄=>aF (aG h₄ (fun O s₅ h₅=>aV (aV ⟨rfl,h₅⟩)) fun O O h'=>h')) fun O O h'=>h'))
theorem zpm
  (h0:codeAny (model prog w) A (.compLoop (.ListComp elt [⟨t0,i0,[],0⟩,⟨t1,i1,[],0⟩] scope pos) 1 it acc env) R s)
  (h:wpAny (model prog w) A (pyIter it) (fun it' s'=>codeAny (model prog w) A (.compLoop (.ListComp elt [⟨t0,i0,[],0⟩,⟨t1,i1,[],0⟩] scope pos) 1 it' acc env) R s') (notedBy (model prog w) A env fun x s'=>R (.error x) s') s) :
  codeAny (model prog w) A (.compStart (.ListComp elt [⟨t0,i0,[],0⟩,⟨t1,i1,[],0⟩] scope pos) 1 it acc env) R s:=by
 refine codeAny_of_tree ?_;show wpAny _ _ ((compStart (.ListComp elt [⟨t0,i0,[],0⟩,⟨t1,i1,[],0⟩] scope pos) 1 it acc env).onRaise (fun x=>do noteFrame x env; standAt theWindowsPlace)) _ _ s;refine wpAny_notedAt ?_;unfold compStart;show wpAny _ _ (ask >>= _) _ _ s;refine aF (wpAny_askSetting (wpAny_ite ?_))
 split
 ·first
   | exact aF (aV (aV (And.intro rfl h0)))
   | exact aV (And.intro rfl h0)
 ·first
   | exact aF (wpAny_rule (aF (eY (aF (aG h (fun it' s' h'=>aV (And.intro rfl h')) fun O O x=>x)))))
   | (refine aF (wpAny_rule ?_); show wpAny _ _ (standAt i1.pos >>= _) _ _ s; exact aF (eY (aF (aG h (fun it' s' h'=>aV (And.intro rfl h')) fun O O x=>x))))
end
section
variable {W:Wd}
noncomputable def FInv (W:Wd) (X Y Z:aN->Prop) (C D I:aN) (tg:aL) (ys:List V) (s₀:aC) (kk:Nat) (s':aC):Prop :=
 Ex5 fun r ys₀ vs₀ m h=>And10 (kk = r.length+1) (GrX W.P Z s₀ s') (s'.heap.PlainList D (aQ vs₀)) (RepL Y s'.heap ys₀ vs₀) (s'.heap.Ns C m) ((s'.heap.get? I).isSome = true) (Itr W X s₀ tg I [I] r h) (∀ o,h.get? I = some o->s'.heap.get? I = some o) (ys = ys₀++r) (ys₀.length+r.length <= 1000000)
set_option tactic.hygienic true in
theorem zkq {A:bA} {env':Env} {X:aN->Prop} {s₀ s₁:aC} {D I:aN} {t0 i0 i1:aL} {x:Str} {p1 p2:Pos} {scope:Scope} {pos:Pos} {ds ys:List V} {vs:List aD} {Rr:Result->aC->Prop} {m₁:Str->Option aD} {h₁:cZ}
  (hh:A.handled = none) (hk:env'.scope.kind = .function) (hx:env'.kindOf x = some .local) (hxd:(x == ("__debug__" : Str)) = false) (hPX:X W.P) (hDX:X D) (hCX:X env'.locals)
  (hXl:XOk X s₀.heap) (hI:s₀.heap.get? I = none) (hCD:env'.locals ≠ D) (hCP:env'.locals ≠ W.P) (hDP:D ≠ W.P)
  (g₁:GrX W.P (fun b=>b = env'.locals \/ b = D \/ s₀.heap.get? b = none) s₀ s₁) (hD₁:s₁.heap.PlainList D vs.toArray) (hr₁:RepL (fun a=>X a \/ a = I) s₁.heap ys vs) (hC₁:s₁.heap.Ns env'.locals m₁) (hI₁:(s₁.heap.get? I).isSome = true)
  (hitr:Itr W X s₀ (.Name x p1) I [I] ds h₁) (hk₁:∀ o,h₁.get? I = some o->s₁.heap.get? I = some o) (hsz:ys.length+ds.length <= 1000000) (hCl:(s₀.heap.get? env'.locals).isSome = true) (hDl:(s₀.heap.get? D).isSome = true)
  (hR:∀ s' vs' m,GrX W.P (fun b=>b = env'.locals \/ b = D \/ s₀.heap.get? b = none) s₀ s'->s'.heap.PlainList D (aQ vs')->RepL X s'.heap (ys++ds) vs'->s'.heap.Ns env'.locals m->Rr (.ok .next) s') :
  codeAny (model W.pp W.w) A (.compLoop (.ListComp (.Name x p2) [⟨t0,i0,[],0⟩,⟨.Name x p1,i1,[],0⟩] scope pos) 1 (.ref I) (.ref D) env') Rr s₁:=by
 have hCI:env'.locals ≠ I:=fun q=>by rw [q,hI] at hCl; cases hCl
 have hDI:D ≠ I:=fun q=>by rw [q,hI] at hDl; cases hDl
 refine byC fun hG=>?_;obtain ⟨Y,yE,yI⟩:∃ Y:aN->Prop,(fun a=>X a \/ a = I) = Y/\Y I:=⟨_,rfl,.inr rfl⟩;have yX:∀ a,X a->Y a:=yE ▸ fun a h=>.inl h;have yd:∀ a,Y a->Xd X s₀ a:=yE ▸ fun a (h:X a \/ a = I)=>Or.imp_right (fun q:a = I=>(by rw [q]; exact hI)) h;have hXo:∀ {s':aC},(∀ b,(s₀.heap.get? b).isSome = true->(s'.heap.get? b).isSome = true)->(s'.heap.get? I).isSome = true->XOk Y s'.heap:=yE ▸ fun h1 h2 a ha=>ha.elim (fun q=>h1 a (hXl a q)) fun (q:a = I)=>q ▸ h2;rw [yE] at hr₁;clear yE;obtain ⟨Z,zE,zC,zD,zN⟩:∃ Z:aN->Prop,And4 ((fun b=>b = env'.locals \/ b = D \/ s₀.heap.get? b = none) = Z) (Z env'.locals) (Z D) (∀ b,s₀.heap.get? b = none->Z b):=⟨_,rfl,.inl rfl,.inr (.inl rfl),fun O h=>.inr (.inr h)⟩;have hWX:∀ b,Z b->Xd X s₀ b:=zE ▸ fun b hb=>hb.elim (fun q=>.inl (q ▸ hCX)) fun q=>q.elim (fun q=>.inl (q ▸ hDX)) .inr;rw [zE] at g₁ hR;clear zE;obtain ⟨J,hJ⟩:∃ J:Nat->aC->Prop,FInv W X Y Z env'.locals D I (.Name x p1) (ys++ds) s₀ = J:=⟨_,rfl⟩;have hin:∀ {kk s'},FInv W X Y Z env'.locals D I (.Name x p1) (ys++ds) s₀ kk s'->J kk s':=fun h=>hJ ▸ h;refine hG ?_;clear hG;refine zri J ?_ (ds.length+1) (hin ⟨ds,ys,vs,m₁,h₁,rfl,g₁,hD₁,hr₁,hC₁,hI₁,hitr,hk₁,rfl,hsz⟩);intro kk s' hJ';rw [<- hJ] at hJ';clear hJ;obtain ⟨r,ys₀,vs₀,m,h,hkk,g,hpl,rys,hns,hIl,hitr',hkeep,hys,hlen⟩:=hJ';subst hkk;have hvl:=rys.length;have kI:∀ b ∈ [I],∀ o,h.get? b = some o->s'.heap.get? b = some o:=fun b hb o e=>by
  cases bR.mp hb
  exact hkeep o e
 cases r with
 | nil =>
  refine hitr' A _ _ s' hh (g.mono hWX) kI fun h' tk hk'=>?_;have hx:∀ b o,b ≠ I->s'.heap.get? b = some o->h'.get? b = some o:=fun b o hb e=>hk' b o (by simpa using hb) e;rw [bV] at hys;rw [hys] at hR;have hne:∀ {b},(s₀.heap.get? b).isSome = true->b ≠ I:=fun hl q=>by rw [q,hI] at hl; cases hl
  refine hR _ vs₀ m ⟨fun b o hb e=>hx b o (hne (by rw [e]; rfl)) (g.ext b o hb e),fun b hl=>?_,fun t=>?_,g.os,g.gens⟩ (hpl.at fun o e=>hx D o hDI e) ?_ (hns.at' fun o e=>hx _ o hCI e)
  ·obtain ⟨o,e⟩:=aH.mp (g.live b hl);exact aH.mpr ⟨o,hx b o (hne hl) e⟩
  ·obtain ⟨ps,e⟩:=g.tab t;obtain ⟨ps0,e0⟩:=t;exact ⟨ps,hx _ _ (hne (by rw [e0]; rfl)) e⟩
  ·exact rys.mono yX fun b o hb e=>hx b o (fun q=>hb (q ▸ yI)) e
 | cons d r =>
  refine hitr'.next (X':=Y) hh (g.mono hWX) kI yd (hXo g.live hIl) fun v s2 g2 rv hitr2=>?_;have k2:∀ b o,b ≠ I->s'.heap.get? b = some o->s2.heap.get? b = some o:=fun b o hb e=>g2.ext b o (fun q=>hb (bR.mp q)) e;have hns2:s2.heap.Ns env'.locals m:=hns.at' fun o e=>k2 _ o hCI e;refine dL (eN hx hns2 (fun h3 hn3 hs3=>?_) (by rw [hk]; rfl));have g3:GrX W.P (fun O=>O = env'.locals) s2 { s2 with heap:=h3,toks:=s2.toks+1 }:=.one hs3 (fun O=>Ns.live hn3) (fun O=>hCP) rfl;have k3:∀ b o,b ≠ env'.locals->s2.heap.get? b = some o->h3.get? b = some o:=fun b o hb e=>g3.ext b o hb e;refine dR (dW hk hx hn3 (if_pos rfl) ?_) hxd;have hpl3:h3.PlainList D vs₀.toArray:=hpl.at fun o e=>k3 D o (cQ hCD) (k2 D o hDI e);refine gL (s:={ s2 with heap:=h3,toks:=s2.toks+1 }) hpl3 (fun h4 hl4 hs4=>?_) (by rw [cO]; simp at hlen |-; omega);have g4:GrX W.P (fun O=>O = D) { s2 with heap:=h3,toks:=s2.toks+1 } { s2 with heap:=h4,toks:=s2.toks+1 }:=.one hs4 (fun O=>by obtain ⟨nn,e⟩:=hl4; rw [e]; rfl) (fun O=>hDP) rfl;have k4:∀ b o,b ≠ D->h3.get? b = some o->h4.get? b = some o:=fun b o hb e=>g4.ext b o hb e;have gall:GrX W.P Z s₀ { s2 with heap:=h4,toks:=s2.toks+1 } :=
   ((g.trans (g2.mono fun b hb=>zN b (by rw [bR.mp hb]; exact hI))).trans (g3.mono fun b hb=>(show b = env'.locals from hb) ▸ zC)).trans (g4.mono fun b hb=>(show b = D from hb) ▸ zD)
  have r2:RepL Y s2.heap (ys₀++[d]) (vs₀++[v]):=(rys.mono (fun O q=>q) fun b o hb e=>k2 b o (fun q=>hb (q ▸ yI)) e).append (.one rv);exact ⟨r.length+1,cU _,hin ⟨r,ys₀++[d],vs₀++[v],_,s2.heap,rfl,gall,by simpa using hl4,r2.mono (fun O q=>q) fun b o hb e=>k4 b o (fun q=>hb (yX b (q ▸ hDX))) (k3 b o (fun q=>hb (yX b (q ▸ hCX))) e),hn3.at' fun o e=>k4 _ o hCD e,g4.live I (g3.live I (g2.live I hIl)),hitr2,fun o e=>k4 I o (cQ hDI) (k3 I o (cQ hCI) e),by rw [hys]; simp,by simp at hlen |-; omega⟩⟩
end
theorem zkp {d:V} {r ys:List V} (h:flat2 (d :: r) = some ys):Ex2 fun l ys'=>And3 (d = .tup l) (flat2 r = some ys') (ys = l++ys'):=by
 induction d using V.casesOn with
 | tup l =>
  obtain ⟨ys',h1,rfl⟩:=aW.mp (show (flat2 r).map (l++·) = some ys from h);exact ⟨_,ys',rfl,h1,rfl⟩
 | none=>exact nomatch h
 | bool O=>exact nomatch h
 | int O=>exact nomatch h
 | bytes O=>exact nomatch h
 | lst O=>exact nomatch h
section
variable {W:Wd}
theorem ziu {prog:dC} {w:cF} {A:bA} {R:Result->aC->Prop} {s:aC} {elt t0 i0 t1 i1:aL} {scope:Scope} {pos:Pos} {acc:aD} {I t:aN} {i:Nat} {env:Env} (hi:s.heap.IsTupleIter I t i)
  (h0:codeAny (model prog w) A (.compLoop (.ListComp elt [⟨t0,i0,[],0⟩,⟨t1,i1,[],0⟩] scope pos) 1 (.ref I) acc env) R s) :
  codeAny (model prog w) A (.compStart (.ListComp elt [⟨t0,i0,[],0⟩,⟨t1,i1,[],0⟩] scope pos) 1 (.ref I) acc env) R s:=zpm h0 (wpAny_pyIter_tupleiter hi h0)
theorem zsd {P a:aN} {s s':aC} (g:Gr P s s') (h:s'.heap.get? a = none):s.heap.get? a = none:=by
 cases e:s.heap.get? a with
 | none=>rfl
 | some o =>
  have:=g.live a (by rw [e]; rfl);rw [h] at this
  cases this
noncomputable def OInv (W:Wd) (X Y:aN->Prop) (C D I:aN) (tg:aL) (ys:List V) (s₀:aC) (kk:Nat) (s':aC):Prop :=
 Ex6 fun r ys₀ ys₁ vs₀ m h=>And10 (kk = r.length+1) (Gr W.P s₀ s') (s'.heap.PlainList D (aQ vs₀)) (RepL Y s'.heap ys₀ vs₀) (s'.heap.Ns C m) ((s'.heap.get? I).isSome = true) (Itr W X s₀ tg I [I] r h) (∀ o,h.get? I = some o->s'.heap.get? I = some o) (flat2 r = some ys₁) (ys = ys₀++ys₁)
set_option tactic.hygienic true in
theorem zkv {A:bA} {env':Env} {X:aN->Prop} {s₀ s₁:aC} {D I:aN} {i0:aL} {x p:Str} {p0 p1 p2 p3:Pos} {scope:Scope} {pos:Pos} {ds ys:List V} {Rr:Result->aC->Prop} {m₁:Str->Option aD} {h₁:cZ}
  (hh:A.handled = none) (hk:env'.scope.kind = .function) (hx:env'.kindOf x = some .local) (hp:env'.kindOf p = some .local) (hxd:(x == ("__debug__" : Str)) = false) (hpd:(p == ("__debug__" : Str)) = false) (hPX:X W.P) (ht:IsTab s₀.heap W.P)
  (hXl:XOk X s₀.heap) (hI:s₀.heap.get? I = none) (hC:s₀.heap.get? env'.locals = none) (hD:s₀.heap.get? D = none) (hCD:env'.locals ≠ D) (hCI:env'.locals ≠ I) (hDI:D ≠ I)
  (g₁:Gr W.P s₀ s₁) (hD₁:s₁.heap.PlainList D #[]) (hC₁:s₁.heap.Ns env'.locals m₁) (hI₁:(s₁.heap.get? I).isSome = true)
  (hitr:Itr W X s₀ (.Name p p0) I [I] ds h₁) (hk₁:∀ o,h₁.get? I = some o->s₁.heap.get? I = some o) (hys:flat2 ds = some ys) (hsz:ds.length+ys.length <= 1000000)
  (hR:∀ s' vs m,Gr W.P s₀ s'->s'.heap.PlainList D (aQ vs)->RepL (fun a=>X a \/ a = env'.locals \/ a = D \/ a = I) s'.heap ys vs->s'.heap.Ns env'.locals m->ys.length <= 1000000->Rr (.ok .next) s') :
  codeAny (model W.pp W.w) A (.compLoop (.ListComp (.Name x p3) [⟨.Name p p0,i0,[],0⟩,⟨.Name x p1,.Name p p2,[],0⟩] scope pos) 0 (.ref I) (.ref D) env') Rr s₁:=by
 have hPl:(s₀.heap.get? W.P).isSome = true:=by obtain ⟨ps,e⟩:=ht; rw [e]; rfl
 have hPC:W.P ≠ env'.locals:=zaz hC hPl;have hPD:W.P ≠ D:=zaz hD hPl;have hPI:W.P ≠ I:=zaz hI hPl;have hne:∀ {a b:aN} {s:aC},s.heap.get? a = none->(s.heap.get? b).isSome = true->b ≠ a:=fun h h' q=>by rw [q,h] at h'; cases h'
 refine byC fun hG=>?_;obtain ⟨Y,yE,yC,yD,yI,yP⟩:∃ Y:aN->Prop,And5 ((fun a=>X a \/ a = env'.locals \/ a = D \/ a = I) = Y) (Y env'.locals) (Y D) (Y I) (Y W.P):=⟨_,rfl,.inr (.inl rfl),.inr (.inr (.inl rfl)),.inr (.inr (.inr rfl)),.inl hPX⟩;have yd:∀ a,Y a->Xd X s₀ a:=yE ▸ fun a (h:X a \/ a = env'.locals \/ a = D \/ a = I)=>Or.imp_right (fun q=>Or.elim q (fun q=>(by rw [q]; exact hC)) fun q=>Or.elim q (fun q=>(by rw [q]; exact hD)) fun q=>(by rw [q]; exact hI)) h;have hXo:∀ {s':aC} {m vs₀},Gr W.P s₀ s'->s'.heap.Ns env'.locals m->s'.heap.PlainList D vs₀->(s'.heap.get? I).isSome = true->XOk Y s'.heap:=fun {s' m vs₀} g hns hpl hIl=>yE ▸ fun a ha =>
  ha.elim (fun q=>g.live a (hXl a q)) fun ha=>ha.elim (fun q=>q ▸ Ns.live hns) fun ha=>ha.elim (fun q=>q ▸ (by obtain ⟨nn,e⟩:=hpl; rw [e]; rfl)) fun q=>q ▸ hIl
 rw [yE] at hR;clear yE;obtain ⟨J,hJ⟩:∃ J:Nat->aC->Prop,OInv W X Y env'.locals D I (.Name p p0) ys s₀ = J:=⟨_,rfl⟩;have hin:∀ {kk s'},OInv W X Y env'.locals D I (.Name p p0) ys s₀ kk s'->J kk s':=fun h=>hJ ▸ h;refine hG ?_;clear hG;refine ztg J ?_ (fun O=>rfl) (ds.length+1) (hin ⟨ds,[],ys,[],m₁,h₁,rfl,g₁,hD₁,rfl,hC₁,hI₁,hitr,hk₁,hys,rfl⟩);intro kk s' hJ';rw [<- hJ] at hJ';clear hJ;obtain ⟨r,ys₀,ys₁,vs₀,m,h,hkk,g,hpl,rys,hns,hIl,hitr',hkeep,hfl,hyy⟩:=hJ';subst hkk;have hvl:=rys.length;have kI:∀ b ∈ [I],∀ o,h.get? b = some o->s'.heap.get? b = some o:=fun b hb o e=>by
  cases bR.mp hb
  exact hkeep o e
 cases r with
 | nil =>
  refine hitr' A _ _ s' hh (.of g (.inl hPX)) kI fun h' tk hk'=>?_;have hx:∀ b o,b ≠ I->s'.heap.get? b = some o->h'.get? b = some o:=fun b o hb e=>hk' b o (by simpa using hb) e;have g2:Gr W.P s₀ { s' with heap:=h',toks:=tk }:=by
   refine ⟨fun b o hb e=>hx b o (hne hI (by rw [e]; rfl)) (g.ext b o hb e),fun b hl=>?_,fun t=>?_,g.os,g.gens⟩
   ·obtain ⟨o,e⟩:=aH.mp (g.live b hl);exact aH.mpr ⟨o,hx b o (hne hI hl) e⟩
   ·obtain ⟨ps,e⟩:=g.tab t;exact ⟨ps,hx _ _ hPI e⟩
  have e1:ys = ys₀:=by cases hfl; rw [hyy,bV]
  rw [<- e1] at rys;exact hR _ vs₀ m g2 (hpl.at fun o e=>hx D o hDI e) (rys.mono (fun O q=>q) fun b o hb e=>hx b o (fun q=>hb (q ▸ yI)) e) (hns.at' fun o e=>hx _ o hCI e) (by omega)
 | cons d r =>
  obtain ⟨dl,ys',hd,hfl2,hy1⟩:=zkp hfl;refine hitr'.next hh (.of g (.inl hPX)) kI yd (hXo g hns hpl hIl) fun v s2 g2 rv hitr2=>?_;have gs2:Gr W.P s₀ s2:=g.andX g2 fun b hb=>.inr (by rw [bR.mp hb]; exact hI);have k2:∀ b o,b ≠ I->s'.heap.get? b = some o->s2.heap.get? b = some o:=fun b o hb e=>g2.ext b o (fun q=>hb (bR.mp q)) e;have hns2:s2.heap.Ns env'.locals m:=hns.at' fun o e=>k2 _ o hCI e;refine dL (eN hp hns2 (fun h3 hn3 hs3=>?_) (by rw [hk]; rfl));obtain ⟨s3,hs3'⟩:∃ s3:aC,({ s2 with heap:=h3,toks:=s2.toks+1 }:aC) = s3:=⟨_,rfl⟩;have hh3:s3.heap = h3:=by rw [<- hs3']
  have g3:GrX W.P (fun O=>O = env'.locals) s2 s3:=hs3' ▸ .one hs3 (fun O=>Ns.live hn3) (fun O=>cQ hPC) rfl;rw [hs3'];rw [<- hh3] at hn3;clear hs3 hs3' hh3;have gs3:Gr W.P s₀ s3:=gs2.andX g3 fun b (hb:b = env'.locals)=>.inr (by rw [hb]; exact hC);have k3:∀ b o,b ≠ env'.locals->s2.heap.get? b = some o->s3.heap.get? b = some o:=fun b o hb e=>g3.ext b o hb e;refine dR (dW hk hp hn3 (if_pos rfl) ?_) hpd;rw [hd] at rv;obtain ⟨ax,vt,hv,hax,hT,rl⟩:=rv;subst hv;have hT3:IsTup s3.heap ax vt.toArray:=by
   refine byC fun hG=>?_;obtain ⟨o,ho,q⟩:=hT;refine hG ?_;exact ⟨o,k3 ax o (fun q=>hax (q ▸ yC)) ho,q⟩
  have rl3:RepL Y s3.heap dl vt:=rl.mono (fun O q=>q) fun b o hb e=>k3 b o (fun q=>hb (q ▸ yC)) e;have hpl3:s3.heap.PlainList D vs₀.toArray:=hpl.at fun o e=>k3 D o (cQ hCD) (k2 D o hDI e);have rys3:RepL Y s3.heap ys₀ vs₀:=rys.mono (fun O q=>q) fun b o hb e=>k3 b o (fun q=>hb (q ▸ yC)) (k2 b o (fun q=>hb (q ▸ yI)) e);have hI3:(s3.heap.get? I).isSome = true:=g3.live I (g2.live I hIl);have tab3:IsTab s3.heap W.P:=gs3.tab ht;have hX3:=hXo gs3 hn3 hpl3 hI3;refine iter_tuple hT3 ?_;have hitr4:=zh1 (W:=W) (X:=Y) (s₀:=s3) (tg:=.Name x p1) tab3 hax hT3 rl3;generalize hI2:s3.heap.objs.size = I2 at hitr4 |-;have hI2d:s3.heap.get? I2 = none:=hI2 ▸ zan _;generalize hs4:({ s3 with heap:=s3.heap.push { cls:=.type "tuple_iterator",data:=.fields #[.ref ax,.int 0 0] } }:aC) = s4;have hh4:s4.heap = s3.heap.push { cls:=.type "tuple_iterator",data:=.fields #[.ref ax,.int 0 0] }:=by rw [<- hs4]
  have k4:∀ b o,s3.heap.get? b = some o->s4.heap.get? b = some o:=fun b o e=>by rw [hh4]; exact bG _ e
  have g4:GrX W.P (fun b=>b = env'.locals \/ b = D \/ s3.heap.get? b = none) s3 s4:=by rw [<- hs4]; exact .keep (k:=s3.toks) fun b o e=>bG _ e
  have hI4:s4.heap.get? I2 = some { cls:=.type "tuple_iterator",data:=.fields #[.ref ax,.int 0 0] }:=by rw [hh4,<- hI2]; exact bI _ rfl
  refine ziu (t:=ax) (i:=0) ⟨_,hI4,rfl,rfl⟩ ?_;refine zkq (X:=Y) (s₀:=s3) (ds:=dl) (ys:=ys₀) (vs:=vs₀) (h₁:=s3.heap.push { cls:=.type "tuple_iterator",data:=.fields #[.ref ax,.int 0 0] }) hh hk hx hxd yP yD yC hX3 hI2d hCD (cQ hPC) (cQ hPD) g4 (hpl3.at fun o e=>k4 D o e) ?_ (hn3.at' (h':=s4.heap) fun o e=>k4 _ o e) (by rw [hI4]; rfl) hitr4 (fun o e=>by rw [hh4]; exact e) ?_ (hX3 _ yC) (hX3 _ yD) ?_
  ·have r0:RepL (fun a=>Y a \/ a = I2) s3.heap ys₀ vs₀:=rys3.avoid fun a ha hl=>ha.elim id fun q=>by
    rw [q,hI2d] at hl
    cases hl
   exact r0.mono (fun O q=>q) fun b o O e=>k4 b o e
  ·rw [hyy,hy1] at hsz;simp at hsz |-; omega
  ·intro s5 vs5 m5 g5 hpl5 r5 hns5;have gs5:Gr W.P s₀ s5:=gs3.andX g5 fun b hb=>hb.elim (fun q=>.inr (by rw [q]; exact hC)) fun hb=>hb.elim (fun q=>.inr (by rw [q]; exact hD)) fun q=>.inr (zsd gs3 q);have hIk:∀ o,s3.heap.get? I = some o->s5.heap.get? I = some o:=fun o e=>g5.ext I o (fun hb=>hb.elim (fun q=>hCI q.symm) fun hb=>hb.elim (fun q=>hDI q.symm) fun q=>by rw [e] at q; cases q) e;exact ⟨r.length+1,cU _,hin ⟨r,ys₀++dl,ys',vs5,m5,s2.heap,rfl,gs5,hpl5,r5,hns5,g5.live I hI3,hitr2,fun o e=>hIk o (k3 I o (cQ hCI) e),hfl2,by rw [hyy,hy1,bH]⟩⟩
end
section
variable {W:Wd} {cf:Nat->List V->R V} {n:Nat}
theorem zk3 {d:V} {R0:R V} (h:R.ofO (vflat2 d) = R0) (hn:R0 ≠ .st):Ex2 fun items ys=>And4 (d = .lst items) (flat2 items = some ys) (items.length+ys.length <= 1000000) (R0 = .ok (.lst ys)):=by
 subst h
 cases d with
 | lst items =>
  unfold vflat2 at hn |-;dsimp only at hn |-
  cases hf:flat2 items with
  | none=>rw [hf] at hn; exact absurd rfl hn
  | some ys =>
   rw [hf] at hn;dsimp only at hn |-
   by_cases hz:items.length+ys.length <= 1000000
   ·exact ⟨_,_,rfl,hf,hz,by rw [if_pos hz]; rfl⟩
   ·rw [if_neg hz] at hn; exact absurd rfl hn
 | _=>exact absurd rfl hn
theorem zsz (B:Bs W) {a:ME} (ha:Snd W n cf a):Snd W n cf (.lc2 a):=by
 intro K names e env l A E X s ρ hc hK c hv hn hE;generalize hR:ev cf (.lc2 a) ρ = R0 at hn hE |-;apply zew hc;clear hc;intro ee gens sc pos hc;apply zba hc;clear hc;intro g g2 hc;apply zc7 hc;clear hc;intro t it ifs hc;apply zc7 hc;clear hc;intro t2 it2 ifs2 hc;apply zad hc;clear hc;intro x p3 hc;apply zad hc;clear hc;intro p p0 hc;apply zad hc;clear hc;intro y p1 hc;apply zad hc;clear hc;intro q p2 hc
 ·skip
  ·skip
   replace hc:=zaa hc;refine byC fun hG=>?_;obtain ⟨hc,hit⟩:=hc;replace hc:=zls hc;obtain ⟨hi1,hi2,q1,q2,hxp,hsc,hlx,hlp,hxd,hpd⟩:=hc;obtain rfl:=aR q1;obtain rfl:=aR q2;simp only [beq_iff_eq,cA,beq_eq_false_iff_ne] at hxp hlx hlp hxd hpd;obtain rfl:=bZ.mp hi1;obtain rfl:=bZ.mp hi2;obtain ⟨h1,h2,h3,h4⟩:=zce hsc;obtain ⟨cl,hclos,hcl,hcl2⟩:=zfp (env:=env) (sc:=sc) fun x hx hf=>c.ec _ (by rw [hK]; exact h4 x hx hf);refine hG ?_;clear hG;rw [eval_ListComp];refine wpAny_comprehension_free (use:=none) (g:=⟨.Name p p0,it,[],0⟩) (gs:=[⟨.Name x p1,.Name p p2,[],0⟩]) rfl (zdn hit) hclos h1 h3 ?_;refine (ha K names it env l A E X s ρ hit hK c hv).go hR hn hE fun d v s1 hR1 g rp=>?_;clear hE;refine byC fun hG=>?_;obtain ⟨items,ys,rfl,hys,hz,rfl⟩:=zk3 hR1 hn
   ·skip
    ·skip
     ·skip
      have c1:=c.gr B g;refine byC fun hG=>?_;obtain ⟨ax,vs,rfl,hax,hl,rl⟩:=rp;refine hG ?_;clear hG;refine wpAny_pyIter_list hl ?_;have hitr:=zga (tg:=.Name p p0) (c1.tab B) hax hl rl;generalize hI:s1.heap.objs.size = I at hitr |-;have hId:s1.heap.get? I = none:=hI ▸ zan _;refine wpAny_newObj_type (wpAny_newFunctionEnv h2 (by intro y hy; simp at hy) (fun h5 hns5 hsb5=>?_) h1);dsimp only at hns5 hsb5 |-;generalize hH2:s1.heap.push { cls:=.type "list_iterator",data:=.fields #[.ref ax,.int 0 0] } = H2 at hitr hns5 hsb5 |-;have hsz2:H2.objs.size = I+1:=by rw [<- hH2,Heap.size_push,hI]
      generalize hH3:H2.push { cls:=.type "list",data:=.seq (aQ []) } = H3 at hns5 hsb5 |-;have hsz3:H3.objs.size = I+2:=by rw [<- hH3,Heap.size_push,hsz2]
      have dead:∀ a,I <= a->s1.heap.get? a = none:=fun a ha=>by
       cases e:s1.heap.get? a with
       | none=>rfl
       | some o=>have:=bW e; rw [hI] at this; exact absurd this (Nat.not_lt.mpr ha)
      have hDd:s1.heap.get? H2.objs.size = none:=dead _ (by rw [hsz2]; exact Nat.le_succ _);have hCd:s1.heap.get? H3.objs.size = none:=dead _ (by rw [hsz3]; exact Nat.le_add_right _ _);have hCD:H3.objs.size ≠ H2.objs.size:=by rw [hsz3,hsz2]; omega
      have hCI:H3.objs.size ≠ I:=by rw [hsz3]; omega
      have hDI:H2.objs.size ≠ I:=by rw [hsz2]; omega
      have k25:∀ b o,H2.get? b = some o->h5.get? b = some o:=fun b o e=>(hsb5.2 b (fun q=>by
       have h9:=bW e;rw [q] at h9;exact dG _ (Nat.lt_trans h9 (by rw [hsz3,hsz2]; exact cU _)))).trans (bG _ (hH3 ▸ bG _ e))
      have k15:∀ b o,s1.heap.get? b = some o->h5.get? b = some o:=fun b o e=>k25 b o (hH2 ▸ bG _ e);have hpl5:h5.PlainList H2.objs.size #[]:=by
       refine ⟨_,(hsb5.2 _ (cQ hCD)).trans (bG _ (hH3 ▸ bI _ rfl))⟩
      obtain ⟨oi,hoi⟩:∃ oi,H2.get? I = some oi:=⟨_,by rw [<- hH2,<- hI]; exact bI _ rfl⟩;have hKc:=zay (sc:=sc) (cl:=cl) (C:=H3.objs.size) hK c.ek;have deadS:∀ a,s1.heap.get? a = none->s.heap.get? a = none:=fun a ha=>by
       cases e:s.heap.get? a with
       | none=>rfl
       | some o =>
        obtain ⟨o',e'⟩:=aH.mp (g.live _ (by rw [e]; rfl));rw [ha] at e'
        cases e'
      have hit5:h5.IsListIter I ax 0:=⟨_,k25 I _ (by rw [<- hH2,<- hI]; exact bI _ rfl),rfl,rfl⟩;have key:∀ {s6:aC},s6.heap = h5->s6.gens = s1.gens->s6.os = s1.os->codeAny (model W.pp W.w) A (.compLoop (.ListComp (.Name x p3) [⟨.Name p p0,it,[],0⟩,⟨.Name x p1,.Name p p2,[],0⟩] sc pos) 0 (.ref I) (.ref H2.objs.size) (compEnvC sc cl H3.objs.size env))
        (compPost (model W.pp W.w) A E none (fun v s'=>∃ d,And3 (R.ok (V.lst ys) = R.ok d) (Gr W.P s s') (Rep X s'.heap d v)) (.ref H2.objs.size) H3.objs.size) s6:=by
       intro s6 hh6 hg6 ho6;have g6:Gr W.P s1 s6:=⟨fun b o O e=>hh6 ▸ k15 b o e,fun b hb=>by obtain ⟨o,e⟩:=aH.mp hb; rw [hh6,k15 b o e]; rfl,fun ⟨ps,e⟩=>⟨ps,hh6 ▸ k15 _ _ e⟩,ho6,fun q=>by rw [hg6]; exact q⟩;refine zkv (s₀:=s1) (X:=X) (ds:=items) (ys:=ys) (h₁:=H2) c.hh h1 (by rw [hKc]; exact zbo hlx) (by rw [hKc]; exact zbo hlp) (beq_eq_false_iff_ne.mpr hxd) (beq_eq_false_iff_ne.mpr hpd) c.xp (c1.tab B) c1.xok hId hCd hDd hCD hCI hDI g6 (hh6 ▸ hpl5) (hh6 ▸ hns5) (by rw [hh6,k25 I oi hoi]; rfl) hitr (fun o e=>hh6 ▸ k25 I o e) hys hz ?_;intro s' vs' m' g' hpl' rys' hns' hlen';refine ⟨m',hns',fun h' hs'=>⟨_,rfl,?_,_,vs',rfl,fun q=>?_,(hpl'.at fun o e=>(hs'.2 _ (cQ hCD)).trans e).isList,?_⟩⟩
       ·exact (g.trans g').but hs' (deadS _ hCd) (c.tab B)
       ·have:=c1.xok _ q;rw [hDd] at this
        cases this
       ·exact rys'.mono (fun a q=>.inl q) fun b o hb e=>(hs'.2 b (fun q=>hb (.inr (.inl q)))).trans e
      exact codeAny_compStart_list (key rfl rfl rfl) (wpAny_pyIter_listiter hit5 (key rfl rfl rfl))
end
section
variable {W:Wd} {cf:Nat->List V->R V} {n:Nat}
theorem zl9 {X:aN->Prop} {h:cZ}:∀ {l:List V} {vs:List aD} {ps:List (List Nat)} {i:Nat} {v:aD},RepL X h l vs->bts l = some ps->vs[i]? = some v->Ex2 fun p t=>And3 (ps[i]? = some p) (v = .bytes (toB p) t) (∀ x ∈ p,x < 256)
 | [],O,O1,O2,O3,rl,O4,hv=>by cases rl; simp at hv
 | d :: r,O,ps,i,v,⟨w,vs,e1,rv,rl⟩,e,hv=>by
  obtain ⟨b,ps',hd,h1,e⟩:=zf7 e;rw [hd] at rv;rw [e1] at hv;rw [<- e];obtain ⟨hb,t,e2⟩:=rv
  cases i with
  | zero=>exact ⟨b,t,rfl,(bN hv).symm.trans e2,hb⟩
  | succ i=>exact zl9 (i:=i) (v:=v) rl h1 hv
theorem zl7:∀ {l:List V} {ps:List (List Nat)},bts l = some ps->ps.length = l.length
 | [],O,e=>by cases e; rfl
 | d :: r,O,e=>by
  obtain ⟨b,ps',_,h1,e⟩:=zf7 e;rw [<- e];exact congrArg Nat.succ (zl7 h1)
theorem zo3 (B:Bs W) {env:Env} {l:List Env} {A:bA} {E:aD->aC->Prop} {X:aN->Prop} {s:aC} {pos:Pos} {q:Str} {sc:Scope} {Q:aD->aC->Prop} (c:Cx W env l A n X s) (hcode:env.code = .ref W.c0)
  (hQ:∀ code h' tk,Gr W.P s { s with heap:=h',toks:=tk }->Q code { s with heap:=h',toks:=tk }):wpAny (model W.pp W.w) A (genexprCode env pos q sc) Q E s:=by
 refine byC fun hG=>?_;obtain ⟨ps0,hc0,ht0⟩:=B.code0;obtain ⟨⟨ps,hps⟩,e⟩:=c.tab B;obtain ⟨hcode1,hne⟩:=zic hc0 (fun o hne ho=>c.base.ext _ o hne ho) e rfl hps;obtain ⟨⟨o',vs',ho',hc',hd',h11'⟩,_⟩:=ht0;have htab1:s.heap.TableAt W.c0 W.P ps:=⟨⟨o',vs',c.base.ext _ o' hne ho',hc',hd',h11'⟩,e⟩;refine hG ?_;clear hG
 cases hf:codeAmong pos ps.toList with
 | some cv=>exact wpAny_genexprCode_hit hcode hcode1 hf (hQ cv s.heap s.toks (.refl _))
 | none =>
  refine wpAny_genexprCodeX hcode hcode1 htab1 hf fun c' h' tk hx hge hlt hcode2 O htab2 O=>hQ _ h' tk ?_;obtain ⟨_,e2⟩:=htab2;have htr3:TriplesOk (ps++#[rawInt pos.line,rawInt pos.col,.ref c']).toList:=zcq hcode2;exact ⟨fun b o hb e=>hx b o hb e,fun b hb=>by
   by_cases hp:b = W.P
   ·show (h'.get? b).isSome = true;rw [hp,e2]; rfl
   ·obtain ⟨o,e⟩:=aH.mp hb;exact aH.mpr ⟨o,hx b o hp e⟩,fun O=>⟨⟨_,htr3⟩,e2⟩,rfl,id⟩
theorem ex8i {α1 α2 α3 α4 α5 α6 α7 α8:Type} {p:α1->α2->α3->α4->α5->α6->α7->α8->Prop} (x1:α1) (x2:α2) (x3:α3) (x4:α4) (x5:α5) (x6:α6) (x7:α7) (x8:α8) (h:p x1 x2 x3 x4 x5 x6 x7 x8):∃ x1 x2 x3 x4 x5 x6 x7 x8,p x1 x2 x3 x4 x5 x6 x7 x8:=⟨x1,x2,x3,x4,x5,x6,x7,x8,h⟩
theorem znk {d:V} {R0:R V} (h:R.ofO (vallE d) = R0) (hn:R0 ≠ .st):Ex2 fun items ps=>And4 (d = .lst items) (bts items = some ps) (items.length <= 16777216) (R0 = .ok (.bool (ps.all (fun O=>O.isEmpty)))):=by
 subst h
 cases d with
 | lst items =>
  unfold vallE allEmpty at hn |-;dsimp only at hn |-
  by_cases hz:items.length <= 16777216
  ·rw [if_pos hz] at hn |-
   cases hf:bts items with
   | none=>rw [hf] at hn; exact absurd rfl hn
   | some ps=>exact ⟨_,_,rfl,hf,hz,rfl⟩
  ·rw [if_neg hz] at hn; exact absurd rfl hn
 | _=>exact absurd rfl hn
theorem zoq (ps:List (List Nat)):((eB ps.length).all fun j=>(ps.getD j []).isEmpty) = ps.all (fun O=>O.isEmpty):=by
 rw [eP,bS,bS];constructor
 ·intro h p hp;obtain ⟨j,hj,rfl⟩:=List.getElem_of_mem hp;have:=h j (List.mem_range.mpr hj)
  simpa [bL,aZ hj] using this
 ·intro h j hj;have hj':=List.mem_range.mp hj
  simpa [bL,aZ hj'] using h _ (dP hj')
theorem zoh (B:Bs W) {a:ME} (ha:Snd W n cf a):Snd W n cf (.allE a):=by
 intro K names e env l A E X s ρ hc hK c hv hn hE;generalize hR:ev cf (.allE a) ρ = R0 at hn hE |-;apply zak hc;clear hc;intro id ip args pos hc
 ·skip
  ·replace hc:=za9 hc;obtain ⟨hq0,h2,hrem,h3⟩:=hc;obtain rfl:=aR hq0
   try simp only [beq_iff_eq] at h2 hrem h3
   apply zah h3;clear h3;intro e2 h3;apply zle h3;clear h3;intro elt gens sc gpos h3;apply zax h3;clear h3;intro l0 op0 r0 cmpp h3;apply zah h3;clear h3;intro g h3;apply zc7 h3;clear h3;intro t it ifs h3;apply zad h3;clear h3;intro x xp h3;apply zad h3;clear h3;intro y yp h3
   ·skip
    replace h3:=zaa h3;obtain ⟨h3,hit⟩:=h3;replace h3:=znx h3;obtain ⟨hq0,hr0,hi0,hq3,hnm,hk,hco,hloc,hlx,hl0,hx0,hxd⟩:=h3;obtain rfl:=aR hq0;obtain rfl:=aR hq3
    try simp only [beq_iff_eq,cA,bS] at hr0 hi0 hnm hk hco hloc hlx hl0 hx0 hxd
    obtain ⟨ck,cp,rfl⟩:=zhr hr0;obtain rfl:=bZ.mp hi0
    ·skip
     have hcode:=c.eq (by rw [hK]; exact hrem);have hclos:closureFor sc env = pure []:=closureFor_none fun z hz q=>by rw [hloc z hz] at q; cases q
     have hroom:A.depth < recursionLimit:=by have:=c.dep; have h9:recursionLimit = 1000:=rfl; omega
     refine eA rfl (c.name_b B (by rw [hK]; exact h2) zru (zik (.b _) rfl ?_) (by decide));refine wpAny_GeneratorExp_walksQ c.hh hco hclos (fun z hz q=>by rw [hloc z hz] at q; cases q) hl0 hlx hk hroom ?_ ?_
     ·refine (ha K names it env l A E X s ρ hit hK c hv).go hR hn hE fun d v s1 hR1 g rp=>?_;refine eO fun hG=>?_;obtain ⟨items,ps,hd,hps,hz,hR0⟩:=znk hR1 hn;rw [hd] at rp;obtain ⟨ax,vs,hvv,hax,hl,rl⟩:=rp;obtain ⟨bm,ob,q1,q2,q3,q4,q5,q6,q7,q8⟩:=B.bmod;refine hG ?_;clear hG;subst hvv
      ·skip
       ·skip
        ·skip
         have c1:=c.gr B g;have hlt:ax < s1.heap.objs.size:=by obtain ⟨_,e,_⟩:=hl; exact bW e
         refine wpAny_pyIter_list hl ?_;generalize hI:s1.heap.objs.size = I at hlt |-;have hId:s1.heap.get? I = none:=hI ▸ zan _;have hne:ax ≠ I:=fF hlt;generalize hs2:({ s1 with heap:=s1.heap.push { cls:=.type "list_iterator",data:=.fields #[.ref ax,.int 0 0] } }:aC) = s2;have g12:Gr W.P s1 s2:=by rw [<- hs2]; exact .push'
         have c2:=c1.gr B g12;have hoI:s2.heap.get? I = some { cls:=.type "list_iterator",data:=.fields #[.ref ax,.int 0 0] }:=by rw [<- hs2,<- hI]; exact bI _ rfl
         have hIP:I ≠ W.P:=fun z=>by
          obtain ⟨q,e⟩:=c1.tab B;rw [z,e] at hId
          cases hId
         have haP:ax ≠ W.P:=fun z=>hax (z ▸ c.xp);refine ⟨zcn B.tab c2.base B.nolimit,zo3 B c2 hcode fun code h3 tk3 g23=>?_⟩;have c3:=c2.gr B g23;refine wpAny_builtinsFor (c3.g B) q1 q2 (c3.base.ext bm ob q4 q5) q6 q7 q8 ?_;have hit3:(Heap.IsListIter h3 I ax 0):=⟨_,g23.ext I _ hIP hoI,rfl,rfl⟩;have hl3:Heap.IsList h3 ax vs.toArray:=by
          obtain ⟨o,ho,r⟩:=hl;exact ⟨o,g23.ext ax o haP (g12.ext ax o haP ho),r⟩
         have hnl:h3.NoLimit:=zcn B.tab c3.base B.nolimit;have hcs:cStatics ∉ [I]:=fun q=>by
          simp at q;obtain ⟨mc,hm,_⟩:=zcn B.tab c1.base B.nolimit;have:=hm.lt;rw [q,hI] at this;exact dG _ this
         have hpl:=zl7 hps;have hvl:=rl.length;have hpass:passing (fun O=>true) vs.toArray.size 0 = eB vs.length:=by simp [passing]
         refine ex8i I [I,ax] [I] vs.toArray.size _ _ (fun O=>true) (fun i y=>y = .bool ((ps.getD i []).isEmpty)) ⟨rfl,fun A' hA'=>Walks.list hA' I ax hne vs.toArray,⟨hit3,hl3⟩,?_,hnl,hcs,?_,?_⟩
         ·intro b hb;simp at hb;clear hl hne hId hcs hlt hax hit3 haP;rcases hb with rfl | rfl
          ·exact bW (g23.ext b _ hIP hoI)
          ·obtain ⟨o,ho,_⟩:=hl3;exact bW ho
         ·intro href hhref;refine ⟨fun A' E' i v s2 m2 hA hP hns hm hkp=>wpAny_tests_nil ⟨rfl,s2.heap,s2.toks,rfl,fun O O e=>e⟩,fun A' E' i v s2 m2 hA hP hpz hns hm hkp=>?_⟩;obtain ⟨p,t,hp,rfl,hpb⟩:=zl9 (i:=i) (v:=v) rl hps (by simpa using hP);refine eI (dR (dW hk hlx hns hm ?_) hxd) rfl;refine wpAny_mkTextBytes ?_;refine eq_bytes ?_;refine ⟨?_,s2.heap,s2.toks+1,rfl,fun O O e=>e⟩;have e1:ps.getD i [] = p:=by simp [bL,hp]
          rw [e1]
          congr 1
          clear hpb hp hm hP e1
          cases p with
          | nil=>rfl
          | cons z p=>simp [toB]
         ·intro ga h5 tk5 gs hbare hlt5 hsz5 hk5 WS hst;have WS':=WS.in4_1;refine call_all_walkS (WS'.self 0 _ _ _ hst (ex8i ga _ _ _ _ _ _ (fun j=>(ps.getD j []).isEmpty) ⟨rfl,WS',hst,?_,fun s' hm=>?_⟩))
          ·intro j v s6 Q6 E6 hv6 hQ6;obtain ⟨i,hi,rfl⟩:=hv6;rw [hpass] at hi;have:i = j:=by
            rcases Nat.lt_or_ge j vs.length with q | q
            ·rw [List.getElem?_range q] at hi; cases hi; rfl
            ·rw [dF (by simpa using q)] at hi; cases hi
           subst this;exact dY hQ6
          ·have gend:Gr W.P s1 s':=by
            have hx:∀ b o,b ≠ W.P->s1.heap.get? b = some o->s'.heap.get? b = some o:=fun b o hb e=>hm.heap b o (fun q=>by
             simp at q;rcases q with q | q
             ·have:=bW (g23.ext b o hb (g12.ext b o hb e));rw [q] at this;exact dG _ this
             ·rw [q,hId] at e; cases e) (hk5 b o (g23.ext b o hb (g12.ext b o hb e)))
            have hP3:∀ q:IsTab s1.heap W.P,IsTab s'.heap W.P:=fun q=>by
             obtain ⟨q3,e3⟩:=g23.tab (g12.tab q);refine ⟨q3,hm.heap _ _ (fun z=>?_) (hk5 _ _ e3)⟩;simp at z;rcases z with z | z
             ·have:=bW e3;rw [z] at this;exact dG _ this
             ·exact hIP z.symm
            refine ⟨hx,fun b hb=>?_,hP3,hm.os.trans (g23.os.trans g12.os),fun q=>?_⟩
            ·by_cases hp:b = W.P
             ·obtain ⟨q3,e3⟩:=hP3 (c1.tab B);rw [hp,e3]; rfl
             ·obtain ⟨o,e⟩:=aH.mp hb;exact aH.mpr ⟨o,hx b o hp e⟩
            ·exact ((g23.gens (g12.gens q)).push hbare).moved hm.gens
           refine ⟨.bool (ps.all (fun O=>O.isEmpty)),hR0,g.trans gend,?_⟩;exact congrArg fV (by rw [hpass,List.length_range,hvl,<- hpl]; exact zoq ps)
     ·intro z;clear hit;obtain ⟨_,_,rfl,_⟩:=zbc hnm;rfl
end
section
variable {W:Wd} {cf:Nat->List V->R V} {n:Nat}
mutual
theorem zab (B:Bs W) (hcf:CallOk W n cf):(me:ME)->Snd W n cf me/\SndT W n cf me
 | .nm i=>⟨zp9,zai zp9 fun K names e h=>by obtain ⟨_,_,rfl,_⟩:=zbc h; exact .inl rfl⟩
 | .gl k=>⟨zqd B,zai (zqd B) fun K names e h=>by obtain ⟨_,_,rfl,_⟩:=zbc h; exact .inl rfl⟩
 | .cst d=>⟨zmw,zai zmw fun K names e h=>.inl (zuh h)⟩
 | .bin o a b =>
  have s:=zrk B (o:=o) (zab B hcf a).1 (zab B hcf b).1
  ⟨s,zai s fun K names e h=>by obtain ⟨_,_,_,_,rfl,_⟩:=zno h; exact .inl rfl⟩
 | .cmp o a b =>
  have s:=zsy B (o:=o) (zab B hcf a).1 (zab B hcf b).1
  ⟨s,zai s fun K names e h=>by
   obtain ⟨_,_,_,_,rfl,_⟩:=zbe h;exact .inr ⟨_,_,_,_,rfl⟩⟩
 | .cmp3 a b c=>⟨zp1 B (zab B hcf a).1 (zab B hcf b).1 (zab B hcf c).1,zma B (zab B hcf a).1 (zab B hcf b).1 (zab B hcf c).1⟩
 | .isn a =>
  have s:=zqw B (zab B hcf a).1
  ⟨s,zai s fun K names e h=>by
   obtain ⟨_,_,_,_,rfl,_⟩:=zbe h;exact .inr ⟨_,_,_,_,rfl⟩⟩
 | .isnn a =>
  have s:=zn9 B (zab B hcf a).1
  ⟨s,zai s fun K names e h=>by
   obtain ⟨_,_,_,_,rfl,_⟩:=zbe h;exact .inr ⟨_,_,_,_,rfl⟩⟩
 | .inn a b =>
  have s:=zre B (zab B hcf a).1 (zab B hcf b).1
  ⟨s,zai s fun K names e h=>by
   obtain ⟨_,_,_,_,rfl,_⟩:=zbe h;exact .inr ⟨_,_,_,_,rfl⟩⟩
 | .nin a b =>
  have s:=zse B (zab B hcf a).1 (zab B hcf b).1
  ⟨s,zai s fun K names e h=>by
   obtain ⟨_,_,_,_,rfl,_⟩:=zbe h;exact .inr ⟨_,_,_,_,rfl⟩⟩
 | .npx a =>
  have s:=zq8 B (zab B hcf a).1
  ⟨s,zai s fun K names e h=>by
   obtain ⟨_,_,_,_,rfl,_⟩:=zbe h;exact .inr ⟨_,_,_,_,rfl⟩⟩
 | .px a =>
  have s:=zuk B (zab B hcf a).1
  ⟨s,zai s fun K names e h=>by obtain ⟨_,_,_,rfl,_⟩:=zb5 h; exact .inl rfl⟩
 | .bool conj a l=>⟨zoy B (zab B hcf a).1 (za4 B hcf l).2,zm3 B (zab B hcf a).1 (zab B hcf a).2 (za4 B hcf l).2⟩
 | .nt a=>⟨zu9 (zab B hcf a).1,zq4 (zab B hcf a).2⟩
 | .ife c a b=>⟨zrj B (zab B hcf c).2 (zab B hcf a).1 (zab B hcf b).1,zov B (zab B hcf c).2 (zab B hcf a).2 (zab B hcf b).2⟩
 | .idx a i =>
  have s:=zrz B (zab B hcf a).1 (zab B hcf i).1
  ⟨s,zai s fun K names e h=>by obtain ⟨_,_,_,rfl,_⟩:=zb5 h; exact .inl rfl⟩
 | .sl2 a lo hi =>
  have s:=zrx B (zab B hcf a).1 (zab B hcf lo).1 (zab B hcf hi).1
  ⟨s,zai s fun K names e h=>by obtain ⟨_,_,_,rfl,_⟩:=zb5 h; exact .inl rfl⟩
 | .slL a lo =>
  have s:=zsp B (zab B hcf a).1 (zab B hcf lo).1
  ⟨s,zai s fun K names e h=>by obtain ⟨_,_,_,rfl,_⟩:=zb5 h; exact .inl rfl⟩
 | .slH a hi =>
  have s:=zrg B (zab B hcf a).1 (zab B hcf hi).1
  ⟨s,zai s fun K names e h=>by obtain ⟨_,_,_,rfl,_⟩:=zb5 h; exact .inl rfl⟩
 | .tup l =>
  have s:=zra (za4 B hcf l).1
  ⟨s,zai s fun K names e h=>by obtain ⟨_,_,_,rfl,_⟩:=zhn h; exact .inl rfl⟩
 | .lsd l =>
  have s:=zrt (za4 B hcf l).1
  ⟨s,zai s fun K names e h=>by obtain ⟨_,_,rfl,_⟩:=zha h; exact .inl rfl⟩
 | .call f l =>
  have s:=zox B hcf (f:=f) (za4 B hcf l).1
  ⟨s,zai s fun K names e h=>by obtain ⟨_,_,_,_,rfl,_⟩:=zbg h; exact .inl rfl⟩
 | .bi1 b a =>
  have s:=zsm B (b:=b) (zab B hcf a).1
  ⟨s,zai s fun K names e h=>by obtain ⟨_,_,_,_,rfl,_⟩:=zbg h; exact .inl rfl⟩
 | .bi2 b a c =>
  have s:=zrb B (b:=b) (zab B hcf a).1 (zab B hcf c).1
  ⟨s,zai s fun K names e h=>by obtain ⟨_,_,_,_,rfl,_⟩:=zbg h; exact .inl rfl⟩
 | .rng a b =>
  have s:=zs9 B (zab B hcf a).1 (zab B hcf b).1
  ⟨s,zai s fun K names e h=>by obtain ⟨_,_,_,_,rfl,_⟩:=zbg h; exact .inl rfl⟩
 | .join sep a =>
  have s:=zom B (sep:=sep) (zab B hcf a).1
  ⟨s,zai s fun K names e h=>by obtain ⟨_,_,_,_,_,rfl,_,_⟩:=zc0 h; exact .inl rfl⟩
 | .split c a =>
  have s:=znb B (ch:=c) (zab B hcf a).1
  ⟨s,zai s fun K names e h=>by obtain ⟨_,_,_,_,_,rfl,_,_⟩:=zc0 h; exact .inl rfl⟩
 | .getd a=>⟨zkc B,zai (zkc B) fun K names e h=>by obtain ⟨_,_,_,_,_,rfl,_,_⟩:=zc0 h; exact .inl rfl⟩
 | .allE a =>
  have s:=zoh B (zab B hcf a).1
  ⟨s,zai s fun K names e h=>by obtain ⟨_,_,_,_,rfl,_⟩:=zbg h; exact .inl rfl⟩
 | .lc elt k iter cond =>
  have s:=zvf B (k:=k) (zab B hcf elt).1 (zab B hcf iter).1 (za4 B hcf cond).2
  ⟨s,zai s fun K names e h=>by obtain ⟨_,_,_,_,rfl,_⟩:=zjf h; exact .inl rfl⟩
 | .lc2 a =>
  have s:=zsz B (zab B hcf a).1
  ⟨s,zai s fun K names e h=>by obtain ⟨_,_,_,_,rfl,_⟩:=zjf h; exact .inl rfl⟩
theorem za4 (B:Bs W) (hcf:CallOk W n cf):(ms:MEs)->SndL W n cf ms/\AllS W n cf ms
 | .nil=>⟨zor,trivial⟩
 | .cons e l=>⟨zm5 B (zab B hcf e).1 (za4 B hcf l).1,(zab B hcf e).1,(zab B hcf e).2,(za4 B hcf l).2⟩
end
end
noncomputable def Lc (env:Env) (a:aN):Prop:=a = env.locals \/ ∃ n,(n,a) ∈ env.cells
noncomputable def Ow (oa:Nat->aN) (σ:List Slot) (a:aN):Prop:=Ey2 (fun (i:Nat) (d:V)=>σ[i]? = some (some (true,d))) (fun (i:Nat) (d:V)=>a = oa i)
noncomputable def Bd (h:cZ) (env:Env) (x:Str) (ov:Option aD):Prop :=
 (env.kindOf x = some .local/\∃ m,h.Ns env.locals m/\m x = ov) \/ (env.kindOf x = some .cell/\∃ c,env.cells.lookup x = some c/\h.IsCell c ov)
noncomputable def SlotOk (X:aN->Prop) (h:cZ) (a:aN) (ov:Option aD):Slot->Prop
 | none=>True
 | some (false,d)=>∃ v,ov = some v/\Rep X h d v
 | some (true,.lst l)=>∃ vs,And3 (ov = some (.ref a)) (h.PlainList a (aQ vs)) (RepL X h l vs)
 | some (true,O)=>False
structure Fm (W:Wd) (env:Env) (l:List Env) (A:bA) (n:Nat) (vars:List Str) (X0 W0:aN->Prop) (s0:aC) (oa:Nat->aN) (σ:List Slot) (s:aC):Prop where
 hh:A.handled = none
 dep:A.depth+n < 1000
 un:A.units+3 * n <= 9000
 st:A.frames = some l
 fr:s.heap.FunFrames hp0 l
 base:Gr W.P W.sB s
 base0:Gr W.P W.sB s0
 eg:env.globals = mainGlobals
 eb:env.builtins = builtinsNs
 ek:env.scope.kind = .function
 eq:env.kindOf ("remaining" : Str) = some .local->env.code = .ref W.c0
 ec:∀ x,env.kindOf x = some .cell->(env.cells.lookup x).isSome = true
 len:vars.length = σ.length
 nod:vars.Nodup
 kinds:∀ x ∈ vars,env.kindOf x = some .local \/ env.kindOf x = some .cell
 g:GrX W.P W0 s0 s
 wp:W0 W.P
 lo:∀ a,Lc env a->s0.heap.get? a = none
 ll:∀ a,Lc env a->(s.heap.get? a).isSome = true
 ns:∃ m,s.heap.Ns env.locals m
 apart:env.cells.Pairwise fun x y=>x.2 ≠ y.2
 lc:∀ n c,(n,c) ∈ env.cells->c ≠ env.locals
 x0:XOk X0 s.heap
 xp:X0 W.P
 xb:∀ a,X0 a->a = W.P \/ W.sB.heap.get? a = none
 inj:∀ (i j:Nat) di dj,σ[i]? = some (some (true,di))->σ[j]? = some (some (true,dj))->oa i = oa j->i = j
 own:∀ (i:Nat) d,σ[i]? = some (some (true,d))->¬ Lc env (oa i)/\¬ X0 (oa i)/\(W0 (oa i) \/ s0.heap.get? (oa i) = none)/\(W.sB.heap.get? (oa i) = none)
 val:∀ (i:Nat) (x:Str) (sl:Slot),vars[i]? = some x->σ[i]? = some sl->∃ ov,Bd s.heap env x ov/\SlotOk (fun a=>X0 a \/ Lc env a \/ Ow oa σ a) s.heap (oa i) ov sl
section
variable {W:Wd} {env:Env} {l:List Env} {A:bA} {n:Nat} {vars:List Str} {X0 W0:aN->Prop} {s0 s s':aC} {oa:Nat->aN} {σ:List Slot}
theorem Bd.keep {h h':cZ} {x:Str} {ov:Option aD} (b:Bd h env x ov) (hk:∀ a,Lc env a->∀ o,h.get? a = some o->h'.get? a = some o):Bd h' env x ov:=by
 rcases b with ⟨hl,m,hm,hv⟩ | ⟨hl,c,hc,o,ho,hd⟩
 ·exact .inl ⟨hl,m,hm.at' fun o e=>hk _ (.inl rfl) o e,hv⟩
 ·exact .inr ⟨hl,c,hc,o,hk c (.inr ⟨x,mem_of_lookup hc⟩) o ho,hd⟩
theorem SlotOk.mono {X X':aN->Prop} {h h':cZ} {a:aN} {ov:Option aD} {sl:Slot} (q:SlotOk X h a ov sl) (hX:∀ b,X' b->X b) (hk:∀ b o,¬ X b->h.get? b = some o->h'.get? b = some o) (ha:∀ d,sl = some (true,d)->∀ o,h.get? a = some o->h'.get? a = some o):SlotOk X' h' a ov sl:=by
 rcases sl with _ | ⟨b,d⟩
 ·trivial
 ·cases b with
  | false=>obtain ⟨v,e,r⟩:=q; exact ⟨v,e,r.mono hX hk⟩
  | true =>
   induction d using V.casesOn with
   | lst dl=>obtain ⟨vs,e,hp,r⟩:=q; exact ⟨vs,e,hp.at fun o z=>ha _ rfl o z,r.mono hX hk⟩
   | none=>exact q
   | bool O=>exact q
   | int O=>exact q
   | bytes O=>exact q
   | tup O=>exact q
theorem Fm.tab (B:Bs W) (f:Fm W env l A n vars X0 W0 s0 oa σ s):IsTab s.heap W.P:=f.base.tab B.tab
theorem Fm.neP (B:Bs W) (f:Fm W env l A n vars X0 W0 s0 oa σ s) {a:aN} (ha:Lc env a):a ≠ W.P:=by
 rintro rfl;obtain ⟨ps,e⟩:=f.base0.tab B.tab;rw [f.lo _ ha] at e
 cases e
theorem Fm.ownP (B:Bs W) (f:Fm W env l A n vars X0 W0 s0 oa σ s) {i:Nat} {d:V} (h:σ[i]? = some (some (true,d))):oa i ≠ W.P:=zb1 B.tab (f.own i d h).2.2.2
theorem ρgo_get (is:List Nat):∀ (σ:List Slot) (k i:Nat),(ρgo is k σ)[i]? = (σ[i]?).map (see is (k+i))
 | [],O,O1=>by simp [rg_n]
 | s :: r,k,0=>by simp [rg_c]
 | s :: r,k,i+1=>by
  simp only [rg_c,List.getElem?_cons_succ];rw [ρgo_get is r (k+1) i,show k+1+i = k+(i+1) by omega]
theorem ρm_get (is:List Nat) (σ:List Slot) (i:Nat):(ρm is σ)[i]? = (σ[i]?).map (see is i):=by
 have:=ρgo_get is σ 0 i;rwa [Nat.zero_add] at this
theorem ρgo_len (is:List Nat):∀ (σ:List Slot) (k:Nat),(ρgo is k σ).length = σ.length
 | []=>fun O=>rfl
 | O :: r=>by intro k; simp [rg_c,ρgo_len is r]
theorem zj2 (is:List Nat):∀ (σ:List Slot) (k i:Nat),(fzgo is k σ)[i]? = (σ[i]?).map (frz is (k+i))
 | [],O,O1=>by simp [fg_n]
 | s :: r,k,0=>by simp [fg_c]
 | s :: r,k,i+1=>by
  simp only [fg_c,List.getElem?_cons_succ];rw [zj2 is r (k+1) i,show k+1+i = k+(i+1) by omega]
theorem zmn (is:List Nat) (σ:List Slot) (i:Nat):(fzs is σ)[i]? = (σ[i]?).map (frz is i):=by
 have:=zj2 is σ 0 i;rwa [Nat.zero_add] at this
theorem zj9 (is:List Nat):∀ (σ:List Slot) (k:Nat),(fzgo is k σ).length = σ.length
 | []=>fun O=>rfl
 | O :: r=>by intro k; simp [fg_c,zj9 is r]
theorem fzs_own {is:List Nat} {σ:List Slot} {i:Nat} {d:V}:(fzs is σ)[i]? = some (some (true,d)) ↔ σ[i]? = some (some (true,d))/\is.contains i = false:=by
 rw [zmn];rcases h:σ[i]? with _ | _ | ⟨b,d'⟩
 ·simp
 ·simp [frz]
 ·simp only [dN,frz,fQ,Prod.mk.injEq,bB,cA];constructor
  ·rintro ⟨⟨h1,h2⟩,h3⟩;exact ⟨⟨h1,h3⟩,h2⟩
  ·rintro ⟨⟨h1,h3⟩,h2⟩;exact ⟨⟨h1,h2⟩,h3⟩
noncomputable def Xe (env:Env) (X0:aN->Prop) (oa:Nat->aN) (σ:List Slot) (is:List Nat):aN->Prop:=fun a=>X0 a \/ Lc env a \/ Ow oa (fzs is σ) a
theorem zeo {is:List Nat} {a:aN} (h:Ow oa (fzs is σ) a):Ow oa σ a:=by
 obtain ⟨i,d,h1,h2⟩:=h;exact ⟨i,d,(fzs_own.mp h1).1,h2⟩
theorem Fm.xok (f:Fm W env l A n vars X0 W0 s0 oa σ s):XOk (fun a=>X0 a \/ Lc env a \/ Ow oa σ a) s.heap:=by
 intro a ha;rcases ha with q | q | ⟨i,d,h1,rfl⟩
 ·exact f.x0 a q
 ·exact f.ll a q
 ·have hlt:i < vars.length:=by
   rw [f.len]
   by_cases q:i < σ.length
   ·exact q
   ·rw [dF (by omega)] at h1; cases h1
  obtain ⟨ov,_,q⟩:=f.val i _ _ (aZ hlt) h1;clear h1;induction d using V.casesOn with
  | lst dl=>obtain ⟨vs,_,⟨nn,e⟩,_⟩:=q; rw [e]; rfl
  | none=>exact q.elim
  | bool O=>exact q.elim
  | int O=>exact q.elim
  | bytes O=>exact q.elim
  | tup O=>exact q.elim
theorem Fm.xbAv (f:Fm W env l A n vars X0 W0 s0 oa σ s) (a:aN) (ha:X0 a \/ Lc env a \/ Ow oa σ a):a = W.P \/ W.sB.heap.get? a = none:=by
 rcases ha with q | q | ⟨i,d,h1,rfl⟩
 ·exact f.xb a q
 ·by_cases hp:a = W.P
  ·exact .inl hp
  ·right
   cases e:W.sB.heap.get? a with
   | none=>rfl
   | some o=>have:=f.base0.ext a o hp e; rw [f.lo a q] at this; cases this
 ·exact .inr (f.own i d h1).2.2.2
theorem Fm.cx (B:Bs W) (f:Fm W env l A n vars X0 W0 s0 oa σ s) (is:List Nat):Cx W env l A n (Xe env X0 oa σ is) s :=
 ⟨f.hh,f.dep,f.un,f.st,f.fr,f.base,fun a ha=>f.xok a (ha.imp id (Or.imp id zeo)),.inl f.xp,fun a ha=>f.xbAv a (ha.imp id (Or.imp id zeo)),f.eg,f.eb,f.ek,f.eq,f.ec⟩
set_option tactic.hygienic true in
theorem Fm.evv (B:Bs W) (f:Fm W env l A n vars X0 W0 s0 oa σ s) (is:List Nat):EvV W env (vars.map some) (ρm is σ) (Xe env X0 oa σ is) s:=by
 refine ⟨by rw [bQ,f.len]; exact (ρgo_len is σ 0).symm,fun i x d hx hd=>?_⟩;rw [cV] at hx;refine byC fun hG=>?_;obtain ⟨x',hx',e⟩:=aW.mp hx
 cases (e)
 rw [ρm_get] at hd;obtain ⟨sl,hsl,e⟩:=aW.mp hd;obtain ⟨ov,hb,q⟩:=f.val i x sl hx' hsl;have fin:∀ v,ov = some v->Rep (Xe env X0 oa σ is) s.heap d v->VarAt W env (Xe env X0 oa σ is) s x d:=by
  rintro v rfl r;refine ⟨v,r,?_⟩;refine byC fun hG=>?_;rcases hb with ⟨hl,m,hm,hv⟩ | ⟨hl,c,hc,hcell⟩
  ·refine hG ?_;exact .inl ⟨hl,m,hm,hv⟩
  ·refine hG ?_;exact .inr ⟨hl,c,hc,f.neP B (.inr ⟨x,mem_of_lookup hc⟩),hcell⟩
 rcases sl with _ | ⟨b,d'⟩
 ·cases e
 ·refine hG ?_;clear hG
  cases b with
  | false =>
   cases e
   obtain ⟨v,e,r⟩:=q;exact fin v e (r.mono (fun a ha=>ha.imp id (Or.imp id zeo)) fun b o O e=>e)
  | true =>
   simp only [see] at e
   split at e
   rotate_left
   ·cases e
   ·rename_i hc
    cases (e)
    induction d using V.casesOn with
    | lst dl =>
     obtain ⟨vs,e,hp,r⟩:=q;refine fin _ e ⟨_,vs,rfl,fun ha=>?_,hp.isList,r.mono (fun a ha=>ha.imp id (Or.imp id zeo)) fun b o O e=>e⟩;obtain ⟨h1,h2,_,_⟩:=f.own i _ hsl;rcases ha with q | q | ⟨j,dj,hj,ej⟩
     ·exact h2 q
     ·exact h1 q
     ·obtain ⟨hj1,hj2⟩:=fzs_own.mp hj;have:=f.inj i j _ _ hsl hj1 ej;subst this;rw [hj2] at hc
      cases hc
    | none=>exact q.elim
    | bool O=>exact q.elim
    | int O=>exact q.elim
    | bytes O=>exact q.elim
    | tup O=>exact q.elim
theorem Fm.gr (B:Bs W) (f:Fm W env l A n vars X0 W0 s0 oa σ s) (g:Gr W.P s s'):Fm W env l A n vars X0 W0 s0 oa σ s':=by
 have hkL:∀ a,Lc env a->∀ o,s.heap.get? a = some o->s'.heap.get? a = some o:=fun a ha o e=>g.ext a o (f.neP B ha) e;refine { f with
  fr:=zca (f.tab B) g f.fr
  base:=f.base.trans g
  g:=f.g.trans (.of g f.wp)
  ll:=fun a ha=>g.live a (f.ll a ha)
  ns:=by obtain ⟨m,hm⟩:=f.ns; exact ⟨m,hm.at' fun o e=>hkL _ (.inl rfl) o e⟩
  x0:=f.x0.gr g
  val:=fun i x sl hx hs=>?_ }
 obtain ⟨ov,hb,q⟩:=f.val i x sl hx hs;exact ⟨ov,hb.keep hkL,q.mono (fun O z=>z) (fun b o hb e=>g.ext b o (fun z=>hb (.inl (z ▸ f.xp))) e) fun d e o z=>g.ext _ o (f.ownP B (by rw [hs,e])) z⟩
theorem Fm.fzs (f:Fm W env l A n vars X0 W0 s0 oa σ s) (is:List Nat):Fm W env l A n vars X0 W0 s0 oa (fzs is σ) s:=by
 refine { f with
  len:=by rw [f.len]; exact (zj9 is σ 0).symm
  inj:=fun i j di dj h1 h2=>f.inj i j di dj (fzs_own.mp h1).1 (fzs_own.mp h2).1
  own:=fun i d h=>f.own i d (fzs_own.mp h).1
  val:=fun i x sl hx hs=>?_ }
 rw [zmn] at hs;obtain ⟨sl0,hs0,rfl⟩:=aW.mp hs;obtain ⟨ov,hb,q⟩:=f.val i x sl0 hx hs0;refine ⟨ov,hb,?_⟩;have q2:=q.mono (X':=fun a=>X0 a \/ Lc env a \/ Ow oa (Internal.fzs is σ) a) (fun a ha=>ha.imp id (Or.imp id zeo)) (fun b o O e=>e) (fun d e o z=>z);clear hs q;rcases sl0 with _ | ⟨b,d⟩
 ·trivial
 ·cases b with
  | false=>exact q2
  | true =>
   simp only [frz,Bool.true_and]
   cases hc:is.contains i with
   | false=>exact q2
   | true =>
    induction d using V.casesOn with
    | lst dl =>
     obtain ⟨vs,e,hp,r⟩:=q2;refine ⟨_,e,_,vs,rfl,fun ha=>?_,hp.isList,r⟩;obtain ⟨h1,h2,_,_⟩:=f.own i _ hs0;rcases ha with q | q | ⟨j,dj,hj,ej⟩
     ·exact h2 q
     ·exact h1 q
     ·obtain ⟨hj1,hj2⟩:=fzs_own.mp hj;have:=f.inj i j _ _ hs0 hj1 ej;clear hj1 ej hj;subst this;rw [hj2] at hc
      cases hc
    | none=>exact q2.elim
    | bool O=>exact q2.elim
    | int O=>exact q2.elim
    | bytes O=>exact q2.elim
    | tup O=>exact q2.elim
end
section
variable {W:Wd} {env:Env} {l:List Env} {A:bA} {n:Nat} {vars:List Str} {X0 W0:aN->Prop} {s0 s s':aC} {oa:Nat->aN} {σ:List Slot} {E:aD->aC->Prop}
theorem zjl {nm:Str} {v:aD} {Q:Unit->aC->Prop} (ek:env.scope.kind = .function) (ns:∃ m,s.heap.Ns env.locals m) (apart:env.cells.Pairwise fun x y=>x.2 ≠ y.2) (lc:∀ n c,(n,c) ∈ env.cells->c ≠ env.locals) {ov0:Option aD} (hb:Bd s.heap env nm ov0)
  (hQ:∀ a h' tk,Lc env a->(s.heap.get? a).isSome = true->(h'.get? a).isSome = true->dS a s.heap h'->Bd h' env nm (some v)->(∀ y ov,y ≠ nm->Bd s.heap env y ov->Bd h' env y ov)->(∃ m,h'.Ns env.locals m)->(∀ o,s.heap.get? a = some o->∀ vs,o.data ≠ .fields vs)->(∀ o,h'.get? a = some o->∀ vs,o.data ≠ .fields vs)->Q () { s with heap:=h',toks:=tk }) :
  wpAny (model W.pp W.w) A (storeName env nm v) Q E s:=by
 rcases hb with ⟨hl,m,hm,hv⟩ | ⟨hl,c,hc,hcell⟩
 ·refine eN hl hm (fun h1 hn1 hs1=>?_) (by rw [ek]; rfl);have dd:∀ {h:cZ} {m:Str->Option aD},h.Ns env.locals m->∀ o,h.get? env.locals = some o->∀ vs,o.data ≠ .fields vs:=fun hn o ho vs hd=>by
   obtain ⟨o',es,ep,ho',hd',_⟩:=hn;rw [ho] at ho'
   cases ho'
   rw [hd] at hd'
   cases hd'
  refine hQ env.locals h1 _ (.inl rfl) (Ns.live hm) (Ns.live hn1) hs1 (.inl ⟨hl,_,hn1,if_pos rfl⟩) (fun y ov hy hby=>?_) ⟨_,hn1⟩ (dd hm) (dd hn1);rcases hby with ⟨hl',m',hm',hv'⟩ | ⟨hl',c,hc,hcell⟩
  ·refine .inl ⟨hl',_,hn1,?_⟩;rw [if_neg hy,hm.agree hm' y];exact hv'
  ·exact .inr ⟨hl',c,hc,hcell.sameBut hs1 (lc y c (mem_of_lookup hc))⟩
 ·refine wpAny_storeName_cell ek hl hc hcell fun h1 hc1 hs1=>?_;have hcl:∀ {h:cZ} {ov},h.IsCell c ov->(h.get? c).isSome = true:=fun q=>by obtain ⟨o,e,_⟩:=q; rw [e]; rfl
  have dd:∀ {h:cZ} {ov},h.IsCell c ov->∀ o,h.get? c = some o->∀ vs,o.data ≠ .fields vs:=fun q o ho vs hd=>by
   obtain ⟨o',ho',hd'⟩:=q;rw [ho] at ho'
   cases ho'
   rw [hd] at hd'
   cases hd'
  obtain ⟨m,hm⟩:=ns;have hLc:env.locals ≠ c:=fun q=>lc nm c (mem_of_lookup hc) q.symm;refine hQ c h1 s.toks (.inr ⟨nm,mem_of_lookup hc⟩) (hcl hcell) (hcl hc1) hs1 (.inr ⟨hl,c,hc,hc1⟩) (fun y ov hy hby=>?_) ⟨m,hm.sameBut hs1 hLc⟩ (dd hcell) (dd hc1);rcases hby with ⟨hl',m',hm',hv'⟩ | ⟨hl',c',hc',hcell'⟩
  ·exact .inl ⟨hl',m',hm'.sameBut hs1 hLc,hv'⟩
  ·exact .inr ⟨hl',c',hc',hcell'.sameBut hs1 fun q=>hy (name_of_addr apart (mem_of_lookup hc') (q ▸ mem_of_lookup hc))⟩
theorem zau {x:Nat} {sl:Slot} (h:x < σ.length):(σ.set x sl)[x]? = some sl:=by rw [List.getElem?_set_self h]
theorem zaf {x i:Nat} {sl:Slot} (h:x ≠ i):(σ.set x sl)[i]? = σ[i]?:=by rw [List.getElem?_set_ne h]
theorem zbm {h h':cZ} {a:aN} (hs:dS a h h') (hd:∀ o,h'.get? a = some o->∀ vs,o.data ≠ .fields vs) (hl:(h'.get? a).isSome = true) {Bh:cZ} {l:List Env} (f:h.FunFrames Bh l):h'.FunFrames Bh l :=
 zhy (fun L o O hn ho hdo=>⟨hn,by
  by_cases q:L = a
  ·obtain ⟨o',e'⟩:=aH.mp hl;exact ⟨o',by rw [q]; exact e',hd o' e'⟩
  ·exact ⟨o,(hs.2 L q).trans ho,hdo⟩⟩) f
theorem zfi {x:Nat} {d:V} {a:aN} (h:Ow oa (σ.set x (some (false,d))) a):Ow oa σ a:=by
 obtain ⟨i,di,h1,h2⟩:=h
 by_cases q:x = i
 ·subst q
  by_cases hlt:x < σ.length
  ·rw [zau hlt] at h1; cases h1
  ·rw [dF (by simpa using hlt)] at h1; cases h1
 ·rw [zaf q] at h1;exact ⟨i,di,h1,h2⟩
theorem Fm.store (B:Bs W) (f:Fm W env l A n vars X0 W0 s0 oa σ s) {x:Nat} {nm:Str} {d:V} {v:aD} {Q:Unit->aC->Prop} (hx:vars[x]? = some nm) (r:Rep (fun a=>X0 a \/ Lc env a \/ Ow oa σ a) s.heap d v)
  (hQ:∀ s',Fm W env l A n vars X0 W0 s0 oa (σ.set x (some (false,d))) s'->GrX W.P (Lc env) s s'->Q () s'):wpAny (model W.pp W.w) A (storeName env nm v) Q E s:=by
 have hxl:x < σ.length:=by
  rw [<- f.len]
  by_cases q:x < vars.length
  ·exact q
  ·rw [dF (by omega)] at hx; cases hx
 obtain ⟨ov0,hb0,_⟩:=f.val x nm _ hx (aZ hxl);refine zjl f.ek f.ns f.apart f.lc hb0 fun a h' tk ha hal hal' hs hb hoth hns hd1 hd2=>?_;have haP:=f.neP B ha;have gx:GrX W.P (Lc env) s { s with heap:=h',toks:=tk }:=.one hs (fun O=>hal') (fun O=>haP) ha;have gb:Gr W.P W.sB { s with heap:=h',toks:=tk }:=f.base.andX gx fun b hb=>by
  right
  cases e:W.sB.heap.get? b with
  | none=>rfl
  | some o=>have:=f.base0.ext b o (f.neP B hb) e; rw [f.lo b hb] at this; cases this
 have hAv:∀ b,(X0 b \/ Lc env b \/ Ow oa (σ.set x (some (false,d))) b)->(X0 b \/ Lc env b \/ Ow oa σ b):=fun b hb=>hb.imp id (Or.imp id zfi);have hk:∀ b o,¬ (X0 b \/ Lc env b \/ Ow oa σ b)->s.heap.get? b = some o->h'.get? b = some o:=fun b o hb e=>(hs.2 b (fun q=>hb (.inr (.inl (q ▸ ha))))).trans e;refine hQ _ { f with
  fr:=zbm hs hd2 hal' f.fr
  base:=gb
  len:=by rw [fI]; exact f.len
  g:=f.g.trans' gx fun b hb=>.inr (f.lo b hb)
  ll:=fun b hb=>gx.live b (f.ll b hb)
  ns:=hns
  x0:=fun b hb=>gx.live b (f.x0 b hb)
  inj:=fun i j di dj h1 h2=>?_
  own:=fun i di h=>?_
  val:=fun i y sl hy hsl=>?_ } gx
 ·have h3:σ[i]? = some (some (true,di)):=by
   by_cases q:x = i
   ·subst q; rw [zau hxl] at h1; cases h1
   ·rwa [zaf q] at h1
  have h4:σ[j]? = some (some (true,dj)):=by
   by_cases q:x = j
   ·subst q; rw [zau hxl] at h2; cases h2
   ·rwa [zaf q] at h2
  exact f.inj i j di dj h3 h4
 ·have h3:σ[i]? = some (some (true,di)):=by
   by_cases q:x = i
   ·subst q; rw [zau hxl] at h; cases h
   ·rwa [zaf q] at h
  exact f.own i di h3
 ·by_cases q:x = i
  ·subst q;rw [hx] at hy
   cases hy
   rw [zau hxl] at hsl
   cases hsl
   exact ⟨some v,hb,v,rfl,r.mono hAv hk⟩
  ·rw [zaf q] at hsl;obtain ⟨ov,hby,qq⟩:=f.val i y sl hy hsl;have hyn:y ≠ nm:=fun e=>by
    clear hb hb0 hoth;subst e;exact q ((List.getElem?_inj (by
     by_cases z:x < vars.length
     ·exact z
     ·rw [dF (by omega)] at hx; cases hx) f.nod).mp (hx.trans hy.symm))
   refine ⟨ov,hoth y ov hyn hby,qq.mono hAv hk fun dd e o z=>(hs.2 _ (fun w=>?_)).trans z⟩;clear qq;subst e;exact (f.own i dd hsl).1 (w ▸ ha)
end
section
variable {W:Wd} {env:Env} {l:List Env} {A:bA} {n:Nat} {vars:List Str} {X0 W0:aN->Prop} {s0 s s':aC} {oa:Nat->aN} {σ:List Slot} {E:aD->aC->Prop}
theorem Gr.dead {P a:aN} {s s':aC} (g:Gr P s s') (h:s'.heap.get? a = none):s.heap.get? a = none:=by
 cases e:s.heap.get? a with
 | none=>rfl
 | some o =>
  have:=g.live a (by rw [e]; rfl);rw [h] at this
  cases this
theorem GrX.dead {P a:aN} {Wr:aN->Prop} {s s':aC} (g:GrX P Wr s s') (h:s'.heap.get? a = none):s.heap.get? a = none:=by
 cases e:s.heap.get? a with
 | none=>rfl
 | some o =>
  have:=g.live a (by rw [e]; rfl);rw [h] at this
  cases this
theorem Fm.addX (B:Bs W) (f:Fm W env l A n vars X0 W0 s0 oa σ s) (g:Gr W.P s s') {a:aN} (ha:s.heap.get? a = none) (ha':(s'.heap.get? a).isSome = true):Fm W env l A n vars (fun b=>X0 b \/ b = a) W0 s0 oa σ s':=by
 have f':=f.gr B g;have hne:∀ b,(s.heap.get? b).isSome = true->b ≠ a:=fun b hb q=>by rw [q,ha] at hb; cases hb
 refine { f' with
  x0:=fun b hb=>hb.elim (f'.x0 b) fun q=>q ▸ ha'
  xp:=.inl f.xp
  xb:=fun b hb=>hb.elim (f.xb b) fun q=>.inr (f.base.dead (q ▸ ha))
  own:=fun i d h=>?_
  val:=fun i x sl hx hs=>?_ }
 ·obtain ⟨h1,h2,h3⟩:=f.own i d h;exact ⟨h1,fun q=>q.elim h2 fun q=>hne _ (f.xok _ (.inr (.inr ⟨i,d,h,rfl⟩))) q,h3⟩
 ·obtain ⟨ov,hb,q⟩:=f.val i x sl hx hs;have hkL:∀ b,Lc env b->∀ o,s.heap.get? b = some o->s'.heap.get? b = some o:=fun b hb o e=>g.ext b o (f.neP B hb) e;refine ⟨ov,hb.keep hkL,?_⟩;have q1:SlotOk (fun b=>(X0 b \/ b = a) \/ Lc env b \/ Ow oa σ b) s.heap (oa i) ov sl:=by
   have hav:∀ b,((X0 b \/ b = a) \/ Lc env b \/ Ow oa σ b)->(s.heap.get? b).isSome = true->(X0 b \/ Lc env b \/ Ow oa σ b):=fun b hb hl=>by
    rcases hb with (q | q) | q
    ·exact .inl q
    ·exact absurd q (hne b hl)
    ·exact .inr q
   clear hs;rcases sl with _ | ⟨bb,d⟩
   ·trivial
   ·cases bb with
    | false=>obtain ⟨v,e,r⟩:=q; exact ⟨v,e,r.avoid hav⟩
    | true =>
     induction d using V.casesOn with
     | lst dl=>obtain ⟨vs,e,hp,r⟩:=q; exact ⟨vs,e,hp,r.avoid hav⟩
     | none=>exact q
     | bool O=>exact q
     | int O=>exact q
     | bytes O=>exact q
     | tup O=>exact q
  exact q1.mono (fun O z=>z) (fun b o hb e=>g.ext b o (fun z=>hb (.inl (.inl (z ▸ f.xp)))) e) fun d e o z=>g.ext _ o (f.ownP B (by rw [hs,e])) z
noncomputable def upd (oa:Nat->aN) (x:Nat) (a:aN):Nat->aN:=fun i=>if i = x then a else oa i
theorem zjk {x:Nat} {d:V} {a b:aN} (h:Ow (upd oa x a) (σ.set x (some (true,d))) b):b = a \/ Ow oa σ b:=by
 obtain ⟨i,di,h1,h2⟩:=h
 by_cases q:x = i
 ·clear h1;subst q;left;rw [h2];exact if_pos rfl
 ·rw [zaf q] at h1;right;refine ⟨i,di,h1,?_⟩;rw [h2];exact if_neg (cQ q)
theorem zav {α:Type} {xs:List α} {i:Nat} {y:α} (h:xs[i]? = some y):i < xs.length:=by
 by_cases q:i < xs.length
 ·exact q
 ·rw [dF (by omega)] at h; cases h
theorem Fm.storeOwn (B:Bs W) {a:aN} (f:Fm W env l A n vars (fun b=>X0 b \/ b = a) W0 s0 oa σ s) (hx0:¬ X0 a) (hlc:¬ Lc env a) (hxP:X0 W.P) (hs0:s0.heap.get? a = none) (hsB:W.sB.heap.get? a = none) {x:Nat} {nm:Str} {dl:List V} {vs:List aD} {Q:Unit->aC->Prop} (hx:vars[x]? = some nm)
  (hp:s.heap.PlainList a (aQ vs)) (r:RepL (fun b=>(X0 b \/ b = a) \/ Lc env b \/ Ow oa σ b) s.heap dl vs)
  (hQ:∀ s',Fm W env l A n vars X0 W0 s0 (upd oa x a) (σ.set x (some (true,.lst dl))) s'->GrX W.P (Lc env) s s'->Q () s'):wpAny (model W.pp W.w) A (storeName env nm (.ref a)) Q E s:=by
 have hxl:x < σ.length:=by rw [<- f.len]; exact zav hx
 obtain ⟨ov0,hb0,_⟩:=f.val x nm _ hx (aZ hxl);have haP:a ≠ W.P:=zb1 B.tab hsB;refine zjl f.ek f.ns f.apart f.lc hb0 fun c h' tk hc hal hal' hs hb hoth hns hd1 hd2=>?_;have hcP:=f.neP B hc;have gx:GrX W.P (Lc env) s { s with heap:=h',toks:=tk }:=.one hs (fun O=>hal') (fun O=>hcP) hc;have gb:Gr W.P W.sB { s with heap:=h',toks:=tk }:=f.base.andX gx fun b hb=>.inr (by
  cases e:W.sB.heap.get? b with
  | none=>rfl
  | some o=>have:=f.base0.ext b o (f.neP B hb) e; rw [f.lo b hb] at this; cases this)
 have hAv:∀ b,(X0 b \/ Lc env b \/ Ow (upd oa x a) (σ.set x (some (true,.lst dl))) b)->((X0 b \/ b = a) \/ Lc env b \/ Ow oa σ b):=fun b hb=>by
  rcases hb with q | q | q
  ·exact .inl (.inl q)
  ·exact .inr (.inl q)
  ·rcases zjk q with q | q
   ·exact .inl (.inr q)
   ·exact .inr (.inr q)
 have hk:∀ b o,¬ ((X0 b \/ b = a) \/ Lc env b \/ Ow oa σ b)->s.heap.get? b = some o->h'.get? b = some o:=fun b o hb e=>(hs.2 b (fun q=>hb (.inr (.inl (q ▸ hc))))).trans e;have hne:∀ i di,σ[i]? = some (some (true,di))->oa i ≠ a:=fun i di h q=>(f.own i di h).2.1 (.inr q);refine hQ _ { f with
  fr:=zbm hs hd2 hal' f.fr
  base:=gb
  len:=by rw [fI]; exact f.len
  g:=f.g.trans' gx fun b hb=>.inr (f.lo b hb)
  ll:=fun b hb=>gx.live b (f.ll b hb)
  ns:=hns
  x0:=fun b hb=>gx.live b (f.x0 b (.inl hb))
  xp:=hxP
  xb:=fun b hb=>f.xb b (.inl hb)
  inj:=fun i j di dj h1 h2 he=>?_
  own:=fun i di h=>?_
  val:=fun i y sl hy hsl=>?_ } gx
 ·by_cases q1:x = i
  ·by_cases q2:x = j
   ·omega
   ·rw [zaf q2] at h2;unfold upd at he;rw [if_pos q1.symm,if_neg (cQ q2)] at he;exact absurd he.symm (hne j dj h2)
  ·rw [zaf q1] at h1
   by_cases q2:x = j
   ·unfold upd at he;rw [if_neg (cQ q1),if_pos q2.symm] at he;exact absurd he (hne i di h1)
   ·rw [zaf q2] at h2;unfold upd at he;rw [if_neg (cQ q1),if_neg (cQ q2)] at he;exact f.inj i j di dj h1 h2 he
 ·by_cases q1:x = i
  ·unfold upd;rw [if_pos q1.symm];exact ⟨hlc,hx0,.inr hs0,hsB⟩
  ·rw [zaf q1] at h;unfold upd;rw [if_neg (cQ q1)];obtain ⟨h1,h2,h3⟩:=f.own i di h;exact ⟨h1,fun q=>h2 (.inl q),h3⟩
 ·by_cases q:x = i
  ·subst q;rw [hx] at hy
   cases hy
   rw [zau hxl] at hsl
   cases hsl
   refine ⟨some (.ref a),hb,vs,?_,?_,r.mono hAv hk⟩
   ·unfold upd; rw [if_pos rfl]
   ·unfold upd; rw [if_pos rfl];exact hp.at fun o e=>(hs.2 a (fun q=>hlc (q ▸ hc))).trans e
  ·rw [zaf q] at hsl;obtain ⟨ov,hby,qq⟩:=f.val i y sl hy hsl;have hyn:y ≠ nm:=fun e=>by
    clear hb0 hoth hb;subst e;exact q ((List.getElem?_inj (zav hx) f.nod).mp (hx.trans hy.symm))
   refine ⟨ov,hoth y ov hyn hby,?_⟩;have eu:upd oa x a i = oa i:=if_neg (cQ q);rw [eu];refine qq.mono hAv hk fun dd e o z=>(hs.2 _ (fun w=>?_)).trans z;clear qq;subst e;exact (f.own i dd hsl).1 (w ▸ hc)
theorem Fm.write (f:Fm W env l A n vars X0 W0 s0 oa σ s) (B:Bs W) {x:Nat} {d0:V} {dl:List V} {vs:List aD} {h':cZ} {tk:Nat} (hx:σ[x]? = some (some (true,d0))) (hs:dS (oa x) s.heap h') (hp:h'.PlainList (oa x) (aQ vs))
  (r:RepL (fun b=>X0 b \/ Lc env b \/ Ow oa σ b) s.heap dl vs):Fm W env l A n vars X0 W0 s0 oa (σ.set x (some (true,.lst dl))) { s with heap:=h',toks:=tk }/\GrX W.P (Ow oa σ) s { s with heap:=h',toks:=tk }:=by
 have hxl:=zav hx;obtain ⟨o1,o2,o3,o4⟩:=f.own x d0 hx;have haP:=f.ownP B hx;have hOw:Ow oa σ (oa x):=⟨x,d0,hx,rfl⟩;have hlive:(h'.get? (oa x)).isSome = true:=by obtain ⟨nn,e⟩:=hp; rw [e]; rfl
 have gx:GrX W.P (Ow oa σ) s { s with heap:=h',toks:=tk }:=.one hs (fun O=>hlive) (fun O=>haP) hOw;have gx1:GrX W.P (fun O=>O = oa x) s { s with heap:=h',toks:=tk }:=.one hs (fun O=>hlive) (fun O=>haP) rfl;have hownset:∀ (i:Nat) (di:V),(σ.set x (some (true,.lst dl)))[i]? = some (some (true,di))->∃ di',σ[i]? = some (some (true,di')):=fun i di h=>by
  by_cases q:x = i
  ·clear h;subst q; exact ⟨d0,hx⟩
  ·rw [zaf q] at h; exact ⟨di,h⟩
 have hAv:∀ b,(X0 b \/ Lc env b \/ Ow oa (σ.set x (some (true,.lst dl))) b)->(X0 b \/ Lc env b \/ Ow oa σ b):=fun b hb=>hb.imp id (Or.imp id fun ⟨i,di,h1,h2⟩=>by
  obtain ⟨di',h3⟩:=hownset i di h1;exact ⟨i,di',h3,h2⟩)
 have hk:∀ b o,¬ (X0 b \/ Lc env b \/ Ow oa σ b)->s.heap.get? b = some o->h'.get? b = some o:=fun b o hb e=>(hs.2 b (fun q=>hb (.inr (.inr (q ▸ hOw))))).trans e;have hseq:∀ o,h'.get? (oa x) = some o->∀ vs,o.data ≠ .fields vs:=fun o ho vs hd=>by
  obtain ⟨nn,e⟩:=hp;rw [e] at ho
  cases ho
  cases hd
 refine ⟨{ f with
  fr:=zbm hs hseq hlive f.fr
  base:=f.base.andX gx1 fun b (hb:b = oa x)=>.inr (hb ▸ o4)
  len:=by rw [fI]; exact f.len
  g:=f.g.trans' gx1 fun b (hb:b = oa x)=>by rw [hb]; exact o3
  ll:=fun b hb=>gx.live b (f.ll b hb)
  ns:=by
   obtain ⟨m,hm⟩:=f.ns;exact ⟨m,hm.at' fun o e=>(hs.2 _ (fun q=>o1 (.inl q.symm))).trans e⟩
  x0:=fun b hb=>gx.live b (f.x0 b hb)
  inj:=fun i j di dj h1 h2=>by
   obtain ⟨_,h3⟩:=hownset i di h1;obtain ⟨_,h4⟩:=hownset j dj h2;exact f.inj i j _ _ h3 h4
  own:=fun i di h=>by
   obtain ⟨di',h3⟩:=hownset i di h;exact f.own i di' h3
  val:=fun i y sl hy hsl=>?_ },gx⟩
 have hkL:∀ b,Lc env b->∀ o,s.heap.get? b = some o->h'.get? b = some o:=fun b hb o e=>(hs.2 b (fun q=>o1 (q ▸ hb))).trans e
 by_cases q:x = i
 ·subst q;rw [zau hxl] at hsl
  cases hsl
  obtain ⟨ov,hby,qq⟩:=f.val x y _ hy hx;refine ⟨ov,hby.keep hkL,vs,?_,hp,r.mono hAv hk⟩;clear hx;induction d0 using V.casesOn with
  | lst dl0=>obtain ⟨vs0,e,_⟩:=qq; exact e
  | none=>exact qq.elim
  | bool O=>exact qq.elim
  | int O=>exact qq.elim
  | bytes O=>exact qq.elim
  | tup O=>exact qq.elim
 ·rw [zaf q] at hsl;obtain ⟨ov,hby,qq⟩:=f.val i y sl hy hsl;refine ⟨ov,hby.keep hkL,qq.mono hAv hk fun dd e o z=>(hs.2 _ (fun w=>?_)).trans z⟩;clear qq;subst e;exact q (f.inj x i _ _ hx hsl w.symm)
end
section
variable {prog:dC} {w:cF} {A:bA} {E:aD->aC->Prop} {s:aC} {P:aN} {X:aN->Prop}
theorem zgc:typeLookup (.type "bytes") (dunderI "add") = pure none:=by rw [typeLookup_type,fM]; kernel_rfl
theorem zs8 {a b d:V} {va vb:aD} (ra:Rep X s.heap a va) (rb:Rep X s.heap b vb) (h:vadd a b = some d) (hf:flat d = true):wpAny (model prog w) A (inplaceOp .Add va vb) (Post P X s d) E s:=by
 rcases zd5 h with ⟨x,y,rfl,rfl,rfl⟩ | ⟨x,y,rfl,rfl,hz,rfl⟩ | ⟨x,y,rfl,rfl,hz,rfl⟩
 ·clear h;obtain ⟨t,rfl⟩:=ra;obtain ⟨u,rfl⟩:=rb;exact PySem.wpAny_iadd_int ⟨.toks,_,rfl⟩
 ·clear h
  ·skip
   obtain ⟨ha,t,rfl⟩:=ra;obtain ⟨hb,u,rfl⟩:=rb;have h9:∀ t' k,Post P X s (V.bytes (x++y)) (Value.bytes (toB x++toB y) t') { s with toks:=k }:=fun t' k=>⟨.toks,fun z hx=>(aU.mp hx).elim (ha z) (hb z),t',by rw [zfz]⟩;have hl:Builtin.Bytes.tooLong ((toB x).size+(toB y).size) = false:=KBy.tooLong_not (by rw [zam,zam]; exact hz);refine wpAny_inplaceOp_concat (cL s _ _) (cL s _ _) zgc KBy.noFill_bytes_add KBy.seq_bytes_add ?_;refine call_gives FB.slot_bytes_add (cL s _ _) FB.entry_bytes_add (FB.args_bytes_add_2 _ _) (KBy.gives_bytes_add hl) ?_
   by_cases hb':(toB x).isEmpty = true
   ·rw [if_pos hb'];have e:toB x = #[]:=Array.isEmpty_iff.1 hb';have h':=h9 u s.toks;rw [e,Array.empty_append] at h';exact h'
   ·rw [if_neg hb']
    by_cases hc:(toB y).isEmpty = true
    ·rw [if_pos hc];have e:toB y = #[]:=Array.isEmpty_iff.1 hc;have h':=h9 t s.toks;rw [e,Array.append_empty] at h';exact h'
    ·rw [if_neg hc];exact ⟨by rw [Array.size_append,cO,zam,zam]; exact hz,h9 s.toks (s.toks+1)⟩
 ·cases hf
theorem zg3 {l:aN} {items:Array aD} {t:Tok} {v:aD} {Q:Unit->aC->Prop} (hl:s.heap.PlainList l items) (hn:0 < items.size)
  (hQ:∀ h',h'.PlainList l (items.setIfInBounds (items.size - 1) v)->dS l s.heap h'->Q () { s with heap:=h' }) :
  wpAny (model prog w) A (setItem (.ref l) (.int (-1) t) v) Q E s:=by
 obtain ⟨n,ho⟩:=id hl;have hil:=hl.isList;unfold setItem
 try with_reducible refine dH ?_
 first | refine aF (aV ?_) | skip
 refine aF (wpAny_sequenceKey hil.typeIs (by decide) ?_);refine aF (wpAny_callSpecial?_slot (name:=bC "__setitem__") hil.typeIs slot_list_setitem
  (wpAny_call_entry slot_list_setitem hil.typeIs entry_list_setitem ?_ (args_list_setitem _ _ _)))
 show wpAny _ _ (Builtin.List.listSubscript? (.int (-1) t) >>= _) _ _ s;refine aF (wpAny_listSubscript_int (fitsIndex_neg (by decide) (by decide)) ?_);have hidx:=seqIndex_neg (k:=-1) (n:=items.size) (by decide) (by omega);show wpAny _ _ ((Builtin.List.listItems (.ref l) >>= fun xs=>pure ((seqIndex? (Int.negSucc 0) xs.size).bind fun i=>xs[i]?.map (i,·))) >>= _) _ _ s;refine aF (aF ?_);show wpAny _ _ (seqItems? (.ref l) >>= _) _ _ s;refine aF (wpAny_seqItems ho rfl (aV (aV ?_)));have e1:(-1+(items.size:Int)).toNat = items.size - 1:=by omega
 have hx:items[items.size - 1]? = some items[items.size - 1]:=Array.getElem?_eq_getElem (by omega);rw [show seqIndex? (Int.negSucc 0) items.size = some (items.size - 1) by rw [<- e1]; exact hidx];simp only [Option.bind_some,hx,dN];show wpAny _ _ (setSeqItemAt l (items.size - 1) v >>= _) _ _ s;have e2:Obj.mapSeq (·.setIfInBounds (items.size - 1) v) { cls:=.type "list",data:=.seq items n } = { cls:=.type "list",data:=.seq (items.setIfInBounds (items.size - 1) v) (Obj.mapSeq (·.setIfInBounds (items.size - 1) v) { cls:=.type "list",data:=.seq items n } |>.data |> fun d=>match d with | .seq O k=>k | _=>0) }:=by rfl
 have hfin:(s.heap.update l (Obj.mapSeq (·.setIfInBounds (items.size - 1) v))).PlainList l (items.setIfInBounds (items.size - 1) v) :=
  ⟨_,by rw [Heap.get?_update_self _ ho (by rw [e2]; rfl)]; exact congrArg some e2⟩
 refine aF (wpAny_setSeqItemAt ho rfl ?_)
 first
  | exact aF (aV (aV ⟨.none,rfl,aV (hQ _ hfin (dS.update ..))⟩))
  | exact aV ⟨.none,rfl,aV (hQ _ hfin (dS.update ..))⟩
end
section
variable {W:Wd} {cf:Nat->List V->R V} {n:Nat}
noncomputable def FreshPost (P:aN) (X:aN->Prop) (s:aC) (d:V) (v:aD) (s':aC):Prop :=
 Gr P s s'/\Rep X s'.heap d v/\∀ dl,d = .lst dl->Ex2 fun a vs=>And4 (v = .ref a) (s.heap.get? a = none) (s'.heap.PlainList a (aQ vs)) (RepL (fun b=>X b \/ b = a) s'.heap dl vs)
theorem zfv {P:aN} {X:aN->Prop} {s:aC} {dl:List V} {vs:List aD} {k:Nat} (hX:XOk X s.heap) (r:RepL X s.heap dl vs) :
  FreshPost P X s (.lst dl) (.ref s.heap.objs.size) { s with heap:=s.heap.push { cls:=.type "list",data:=.seq (aQ vs) k } }:=by
 refine ⟨.push',ze0 hX r rfl rfl ⟨_,rfl⟩,fun dl' e=>?_⟩
 cases e
 refine ⟨_,vs,rfl,zan _,⟨k,bI _ rfl⟩,?_⟩;have r1:RepL (fun b=>X b \/ b = s.heap.objs.size) s.heap dl vs:=r.avoid fun a ha hl=>ha.elim id fun q=>by
  rw [q,zan] at hl
  cases hl
 exact r1.mono (fun O z=>z) fun b o O e=>bG _ e
theorem zrf {prog:dC} {w:cF} {A:bA} {E:aD->aC->Prop} {s:aC} {P:aN} {X:aN->Prop} {a b d:V} {va vb:aD} (hX:XOk X s.heap) (ra:Rep X s.heap a va) (rb:Rep X s.heap b vb) (h:vadd a b = some d) :
  wpAny (model prog w) A (binaryOp .Add va vb) (FreshPost P X s d) E s:=by
 by_cases hf:isL d = true
 ·refine byC fun hG=>?_;rcases zd5 h with ⟨x,y,rfl,rfl,rfl⟩ | ⟨x,y,rfl,rfl,hz,rfl⟩ | ⟨x,y,rfl,rfl,hz,rfl⟩
  ·cases hf
  ·cases hf
  ·refine hG ?_;exact zkk ra rb hz fun vs k r=>zfv hX r
 ·refine aG (zqk (P:=P) hX ra rb h) (fun v s' q=>⟨q.1,q.2,fun dl e=>?_⟩) fun O O x=>x;clear q h;subst e;exact absurd rfl hf
theorem zml {P:ME->Prop} {me:ME} (h:fresh me = true) (k1:∀ ms,P (.lsd ms)) (k2:∀ a b,P (.bin .add a b)):P me:=by
 cases me with
 | lsd ms=>exact k1 _
 | bin o a b=>cases o <;> first | exact k2 _ _ | exact absurd h aJ
 | _=>exact absurd h aJ
set_option tactic.hygienic true in
theorem zph (B:Bs W) (hcf:CallOk W n cf) {me:ME} (hfr:fresh me = true) {K:Str->Option aY} {names:List (Option Str)} {e:aL} {env:Env} {l:List Env} {A:bA} {E:aD->aC->Prop} {X:aN->Prop} {s:aC} {ρ:List (Option V)}
  (hc:chk (fns W.fs) me K names e = true) (hK:∀ x,env.kindOf x = K x) (c:Cx W env l A n X s) (hv:EvV W env names ρ X s) (hn:ev cf me ρ ≠ .st) (hE:ev cf me ρ = .ex->∀ e s',Exc W (fun O=>O = W.P) l s e s'->E e s') :
  wpAny (model W.pp W.w) A (eval e env) (fun v s'=>∃ d,ev cf me ρ = .ok d/\FreshPost W.P X s d v s') E s:=by
 have lift:∀ {s s1:aC} {d:V} {v:aD} {s':aC},Gr W.P s s1->FreshPost W.P X s1 d v s'->FreshPost W.P X s d v s':=fun g q =>
  ⟨g.trans q.1,q.2.1,fun dl e=>by
   obtain ⟨a,vs,h1,h2,h3,h4⟩:=q.2.2 dl e;exact ⟨a,vs,h1,g.dead h2,h3,h4⟩⟩
 revert hc hn hE
 apply zml hfr
 ·intro ms hc hn hE;apply zfy hc;clear hc;intro _ _ hc
  ·refine wpAny_List_spliced ?_;refine ((za4 B hcf ms).1 K names _ env l A E X s ρ _ hc hK c hv).to hn hE fun ds vs s1 hr g rp=>?_;simp only [ztz,hr,R.bind_ok] at hn |-;unfold dispL at hn |-
   split at hn
   ·rename_i hz;have e:=rp.length;rw [if_pos hz];exact ⟨by rw [cO]; omega,_,rfl,lift g (zfv (c.xok.gr g) rp)⟩
   ·exact absurd rfl hn
 ·intro a b hc hn hE
  ·apply zfg hc;clear hc;intro _ _ _ _ hc
   ·replace hc:=zac hc;obtain ⟨hq0,h1,h2⟩:=hc;obtain rfl:=aR hq0
    try simp only [beq_iff_eq] at h1 h2
    refine wpAny_BinOp ?_;refine ((zab B hcf a).1 K names _ env l A E X s ρ h1 hK c hv).to hn hE fun x va s1 hr g rx=>?_;simp only [zt9,hr,R.bind_ok] at hn hE |-;have hv1:=hv.gr (c.tab B) c.xp g;refine ((zab B hcf b).1 K names _ env l A E X s1 ρ h2 hK (c.gr B g) hv1).to hn (exE g hE) fun y vb s2 hr2 g2 ry=>?_;simp only [hr2,R.bind_ok] at hn |-
    cases hf:vbin .add x y with
    | none=>rw [hf] at hn; exact absurd rfl hn
    | some d =>
     refine aG (zrf (P:=W.P) ((c.xok.gr g).gr g2) (rx.gr c.xp g2) ry hf) (fun v s' q=>⟨d,rfl,lift (g.trans g2) q⟩) fun O O x=>x
end
structure St (W:Wd) (env:Env) (kp:List Nat) (oa:Nat->aN) (σ:List Slot) (s:aC) (oa':Nat->aN) (σ':List Slot) (s':aC):Prop where
 g:GrX W.P (fun a=>a = W.P \/ Lc env a \/ Ow oa σ a) s s'
 o:∀ a,Ow oa' σ' a->Ow oa σ a \/ s.heap.get? a = none
 k:∀ i ∈ kp,oa' i = oa i
section
variable {W:Wd} {env:Env} {kp:List Nat} {oa oa1 oa2:Nat->aN} {σ σ1 σ2:List Slot} {s s1 s2:aC}
theorem St.refl:St W env kp oa σ s oa σ s:=⟨.refl _,fun O h=>.inl h,fun O O=>rfl⟩
theorem St.trans (a:St W env kp oa σ s oa1 σ1 s1) (b:St W env kp oa1 σ1 s1 oa2 σ2 s2):St W env kp oa σ s oa2 σ2 s2 :=
 ⟨a.g.trans' b.g fun x hx=>by
  rcases hx with q | q | q
  ·exact .inl (.inl q)
  ·exact .inl (.inr (.inl q))
  ·exact (a.o x q).imp (fun z=>.inr (.inr z)) id,
  fun x hx=>(b.o x hx).elim (a.o x) fun z=>.inr (a.g.dead z),fun i hi=>(b.k i hi).trans (a.k i hi)⟩
theorem St.gr (g:Gr W.P s s1):St W env kp oa σ s oa σ s1:=⟨.of g (.inl rfl),fun O h=>.inl h,fun O O=>rfl⟩
theorem St.lc (g:GrX W.P (Lc env) s s1) (h:∀ a,Ow oa σ1 a->Ow oa σ a):St W env kp oa σ s oa σ1 s1:=⟨g.mono fun O q=>.inr (.inl q),fun a q=>.inl (h a q),fun O O=>rfl⟩
theorem St.fzs {is:List Nat}:St W env kp oa σ s oa (fzs is σ) s:=⟨.refl _,fun O h=>.inl (zeo h),fun O O=>rfl⟩
end
noncomputable def FlowOk (W:Wd) (env:Env) (l:List Env) (A:bA) (n:Nat) (vars:List Str) (X0 W0:aN->Prop) (s0:aC) (kp:List Nat) (oa:Nat->aN) (σ:List Slot) (s:aC):F->Flow->aC->Prop
 | .nx σ',.next,s'=>∃ oa',Fm W env l A n vars X0 W0 s0 oa' σ' s'/\St W env kp oa σ s oa' σ' s'
 | .bk σ',.brk,s'=>∃ oa',Fm W env l A n vars X0 W0 s0 oa' σ' s'/\St W env kp oa σ s oa' σ' s'
 | .ct σ',.cont,s'=>∃ oa',Fm W env l A n vars X0 W0 s0 oa' σ' s'/\St W env kp oa σ s oa' σ' s'
 | .rt d σ',.ret v,s'=>∃ oa',And3 (Fm W env l A n vars X0 W0 s0 oa' σ' s') (St W env kp oa σ s oa' σ' s') (Rep (fun a=>X0 a \/ Lc env a \/ Ow oa' σ' a) s'.heap d v)
 | O,O1,O2=>False
structure EOk (W:Wd) (l:List Env) (W0:aN->Prop) (s0:aC) (E:aD->aC->Prop):Prop where
 fly:∀ e s',Exc W W0 l s0 e s'->E e s'
 made:∀ s1 h' e args,GrX W.P W0 s0 s1->s1.heap.FunFrames hp0 l->IsTab s1.heap W.P->Heap.MadeExcOf s1.heap h' e (.ref W.C) args->E (.ref e) { s1 with heap:=h' }
noncomputable def SS (W:Wd) (env:Env) (l:List Env) (A:bA) (n:Nat) (vars:List Str) (X0 W0:aN->Prop) (s0:aC) (kp:List Nat) (E:aD->aC->Prop) (t:Sem Flow) (f:List Slot->F):Prop :=
 ∀ oa σ s,Fm W env l A n vars X0 W0 s0 oa σ s->f σ ≠ .st->(f σ = .ex->EOk W l W0 s0 E)->wpAny (model W.pp W.w) A t (FlowOk W env l A n vars X0 W0 s0 kp oa σ s (f σ)) E s
section
variable {W:Wd} {cf:Nat->List V->R V} {env:Env} {l:List Env} {A:bA} {n:Nat} {vars:List Str} {X0 W0:aN->Prop} {s0 s s':aC} {oa oa1:Nat->aN} {σ σ1:List Slot} {E:aD->aC->Prop} {kp:List Nat}
theorem FlowOk.after {r:F} {f:Flow} {s1 s2:aC} (st:St W env kp oa σ s oa1 σ1 s1) (h:FlowOk W env l A n vars X0 W0 s0 kp oa1 σ1 s1 r f s2):FlowOk W env l A n vars X0 W0 s0 kp oa σ s r f s2:=by
 cases r <;> cases f <;> first | exact h.elim | (obtain ⟨oa',a,b⟩:=h; exact ⟨oa',a,st.trans b⟩) | (obtain ⟨oa',a,b,q⟩:=h; exact ⟨oa',a,st.trans b,q⟩)
theorem Fm.exc (f:Fm W env l A n vars X0 W0 s0 oa σ s) {e:aD} (x:Exc W (fun O=>O = W.P) l s e s'):Exc W W0 l s0 e s' :=
 Exc.back (Wr:=W0) (Wr':=(fun O=>O = W.P)) f.g (fun b (hb:b = W.P)=>.inl (hb ▸ f.wp)) x
theorem Fm.after (B:Bs W) (f:Fm W env l A n vars X0 W0 s0 oa σ s) {is:List Nat} {d:V} {v:aD} (g:Gr W.P s s') (r:Rep (Xe env X0 oa σ is) s'.heap d v) :
  Fm W env l A n vars X0 W0 s0 oa (fz is d σ) s'/\Rep (fun a=>X0 a \/ Lc env a \/ Ow oa (fz is d σ) a) s'.heap d v/\St W env kp oa σ s oa (fz is d σ) s':=by
 unfold fz
 by_cases hf:flat d = true
 ·rw [if_pos hf];exact ⟨f.gr B g,r.flat hf,.gr g⟩
 ·rw [if_neg hf];exact ⟨(f.gr B g).fzs is,r,(St.gr g).trans .fzs⟩
theorem zgd {r:R V} {k:V->F} {d:V} (h:r = .ok d):withV r k = k d:=by rw [h]; rfl
theorem Fm.expr (B:Bs W) (hcf:CallOk W n cf) (f:Fm W env l A n vars X0 W0 s0 oa σ s) {K:Str->Option aY} {me:ME} {e:aL} {k:V->F} {Q:aD->aC->Prop} (hK:∀ x,env.kindOf x = K x) (hc:chk (fns W.fs) me K (vars.map some) e = true)
  (hn:withV (ev cf me (ρm (nms me) σ)) k ≠ .st) (hE:withV (ev cf me (ρm (nms me) σ)) k = .ex->EOk W l W0 s0 E)
  (hk:∀ d v s',ev cf me (ρm (nms me) σ) = .ok d->Gr W.P s s'->Rep (Xe env X0 oa σ (nms me)) s'.heap d v->Q v s'):wpAny (model W.pp W.w) A (eval e env) Q E s:=by
 refine aG ((zab B hcf me).1 K (vars.map some) e env l A E (Xe env X0 oa σ (nms me)) s (ρm (nms me) σ) hc hK (f.cx B _) (f.evv B _) (fun q=>hn (by rw [q]; rfl)) fun q e s' x=>(hE (by rw [q]; rfl)).fly e s' (f.exc x)) (fun v s' ⟨d,h1,h2,h3⟩=>hk d v s' h1 h2 h3) fun O O x=>x
theorem zpr {o1 o2:Option (List V)} {g:List V->List V->F} {R0:F} (h:(match o1,o2 with
  | some lm,some lc=>g lm lc
  | O,O1=>.st) = R0) (hn:R0 ≠ .st):Ex2 fun lm lc=>And3 (o1 = some lm) (o2 = some lc) (g lm lc = R0):=by
 cases o1 with
 | none=>exact absurd h.symm hn
 | some lm =>
  cases o2 with
  | none=>exact absurd h.symm hn
  | some lc=>exact ⟨lm,lc,rfl,rfl,h⟩
theorem zg0 {c:Prop} [Decidable c] {a R0:F} (h:(if c then a else .st) = R0) (hn:R0 ≠ .st):c/\a = R0:=by
 by_cases q:c
 ·rw [if_pos q] at h; exact ⟨q,h⟩
 ·rw [if_neg q] at h; exact absurd h.symm hn
theorem zqp {c:Prop} [Decidable c] {a R0:F} (h:(if c then .st else a) = R0) (hn:R0 ≠ .st):¬ c/\a = R0:=by
 by_cases q:c
 ·rw [if_pos q] at h; exact absurd h.symm hn
 ·rw [if_neg q] at h; exact ⟨q,h⟩
theorem zib {o:Option (List V)} {g:List V->F} {R0:F} (h:(match o with
  | some l=>g l
  | none=>.st) = R0) (hn:R0 ≠ .st):∃ l,o = some l/\g l = R0:=by
 cases o with
 | none=>exact absurd h.symm hn
 | some l=>exact ⟨l,rfl,h⟩
theorem zu4 {o:Option V} {g:V->F} {R0:F} (h:(match o with
  | some l=>g l
  | none=>.st) = R0) (hn:R0 ≠ .st):∃ l,o = some l/\g l = R0:=by
 cases o with
 | none=>exact absurd h.symm hn
 | some l=>exact ⟨l,rfl,h⟩
theorem ziq {d:V} {g:List V->F} {R0:F} (h:(match d with
  | .tup ds=>g ds
  | _=>.st) = R0) (hn:R0 ≠ .st):∃ l,d = .tup l/\g l = R0:=by
 cases d with
 | tup l=>exact ⟨l,rfl,h⟩
 | _=>exact absurd h.symm hn
theorem zsv {d:V} {g:List V->F} {R0:F} (h:(match d with
  | .lst ds=>g ds
  | _=>.st) = R0) (hn:R0 ≠ .st):∃ l,d = .lst l/\g l = R0:=by
 cases d with
 | lst l=>exact ⟨l,rfl,h⟩
 | _=>exact absurd h.symm hn
theorem zog {o:Option Slot} {g:V->F} {R0:F} (h:(match o with
  | some (some (O,a))=>g a
  | _=>.st) = R0) (hn:R0 ≠ .st):Ex2 fun b a=>o = some (some (b,a))/\g a = R0:=by
 rcases o with _ | _ | ⟨b,a⟩
 ·exact absurd h.symm hn
 ·exact absurd h.symm hn
 ·exact ⟨b,a,rfl,h⟩
theorem zka {r:R V} {k:V->F} (h:r = .st):withV r k = .st:=by rw [h]; rfl
theorem zki {r:R V} {k:V->F} (h:r = .ex):withV r k = .ex:=by rw [h]; rfl
theorem SS.of {t:Sem Flow} {f:List Slot->F} (h:∀ oa σ s R0,f σ = R0->Fm W env l A n vars X0 W0 s0 oa σ s->R0 ≠ .st->(R0 = .ex->EOk W l W0 s0 E)->wpAny (model W.pp W.w) A t (FlowOk W env l A n vars X0 W0 s0 kp oa σ s R0) E s):SS W env l A n vars X0 W0 s0 kp E t f :=
 fun oa σ s f hn hE=>h oa σ s _ rfl f hn hE
theorem Fm.exprR (B:Bs W) (hcf:CallOk W n cf) (f:Fm W env l A n vars X0 W0 s0 oa σ s) {K:Str->Option aY} {me:ME} {e:aL} {k:V->F} {R0:F} {Q:aD->aC->Prop} (hK:∀ x,env.kindOf x = K x) (hc:chk (fns W.fs) me K (vars.map some) e = true)
  (hW:withV (ev cf me (ρm (nms me) σ)) k = R0) (hn:R0 ≠ .st) (hE:R0 = .ex->EOk W l W0 s0 E)
  (hk:∀ d v s',k d = R0->Gr W.P s s'->Rep (Xe env X0 oa σ (nms me)) s'.heap d v->Q v s'):wpAny (model W.pp W.w) A (eval e env) Q E s:=by
 subst hW;exact f.expr B hcf hK hc hn hE fun d v s' h g r=>hk d v s' (zgd h).symm g r
theorem Fm.storeS (B:Bs W) (f:Fm W env l A n vars X0 W0 s0 oa σ s) {x:Nat} {nm:Str} {d:V} {v:aD} {Q:Unit->aC->Prop} (hx:vars[x]? = some nm) (r:Rep (fun a=>X0 a \/ Lc env a \/ Ow oa σ a) s.heap d v)
  (hQ:∀ s',Fm W env l A n vars X0 W0 s0 oa (σ.set x (some (false,d))) s'->St W env kp oa σ s oa (σ.set x (some (false,d))) s'->Q () s'):wpAny (model W.pp W.w) A (storeName env nm v) Q E s :=
 f.store B hx r fun s' f' g=>hQ s' f' (.lc g fun O q=>zfi q)
theorem zu1 (B:Bs W) (hcf:CallOk W n cf) {K:Str->Option aY} {me:ME} {e:aL} {x:Nat} {nm:Str} {p pos:Pos} (hK:∀ x,env.kindOf x = K x) (hc:chk (fns W.fs) me K (vars.map some) e = true) (hx:vars[x]? = some nm)
  (hkp:fresh me = true->kp.contains x = false) (hs:swapsWith e (some (.Name nm p)) pos.line env = pure false) {N:Nat} {pc:V->V->List V->List V->R (V × List V × List V)} :
  SS W env l A n vars X0 W0 s0 kp E (exec (.Assign [.Name nm p] e pos) env) (ex1 N cf pc (.asg x me)):=by
 refine SS.of fun oa σ s R0 hR f hn hE=>?_;replace hR:=x0_asg.symm.trans hR;refine wpAny_Assign_Name ?_ hs
 by_cases hfr:fresh me = true
 ·refine aG (zph B hcf hfr hc hK (f.cx B (nms me)) (f.evv B (nms me)) (fun q=>hn (hR.symm.trans (zka q))) fun q e s' x=>(hE (hR.symm.trans (zki q))).fly e s' (f.exc x)) (fun v s1 ⟨d,h1,g,r,hl⟩=>?_) fun O O x=>x;have e0:=(zgd h1).symm.trans hR;clear h1
  by_cases hd:isL d = true
  ·have hdl:∃ dl,d = .lst dl:=by cases d <;> first | exact ⟨_,rfl⟩ | cases hd
   clear r hd;obtain ⟨dl,rfl⟩:=hdl;obtain ⟨a,vs,rfl,ha,hp,rl⟩:=hl dl rfl;have ha':(s1.heap.get? a).isSome = true:=by obtain ⟨nn,e⟩:=hp; rw [e]; rfl
   have hne:∀ b,(s.heap.get? b).isSome = true->b ≠ a:=fun b hb q=>by rw [q,ha] at hb; cases hb
   have f1:=(f.addX B g ha ha').fzs (nms me);rw [hfr] at e0;replace e0:F.nx ((fzs (nms me) σ).set x (some (true,.lst dl))) = R0:=e0;refine f1.storeOwn B (fun q=>hne a (f.x0 a q) rfl) (fun q=>hne a (f.ll a q) rfl) f.xp (f.g.dead ha) (f.base.dead ha) hx hp (rl.mono (fun b q=>?_) fun b o O e=>e) fun s' f' g'=>e0 ▸ ⟨_,f',?_⟩
   ·rcases q with (q | q) | q | q
    ·exact .inl (.inl q)
    ·exact .inr q
    ·exact .inl (.inr (.inl q))
    ·exact .inl (.inr (.inr q))
   ·refine ⟨(GrX.of g (.inl rfl)).trans (g'.mono fun b q=>.inr (.inl q)),fun b q=>?_,fun i hi=>if_neg fun q=>?_⟩
    ·rcases zjk q with q | q
     ·exact .inr (q ▸ ha)
     ·exact .inl (zeo q)
    ·clear hx f' hR e0;subst q;have:=hkp hfr;rw [fN.mpr hi] at this
     cases this
  ·obtain ⟨f1,r1,st1⟩:=f.after (kp:=kp) B g r;rw [eq_false_of_ne_true hd,Bool.and_false] at e0;exact f1.storeS B hx r1 fun s' f' st'=>e0 ▸ ⟨oa,f',st1.trans st'⟩
 ·refine f.exprR B hcf hK hc hR hn hE fun d v s1 e0 g r=>?_;obtain ⟨f1,r1,st1⟩:=f.after (kp:=kp) B g r;rw [eq_false_of_ne_true hfr,Bool.false_and] at e0;exact f1.storeS B hx r1 fun s' f' st'=>e0 ▸ ⟨oa,f',st1.trans st'⟩
end
theorem zm2 {a b r:V} (h:vadd a b = some r) (hf:flat r = true):flat a = true/\flat b = true:=by
 rcases zd5 h with ⟨x,y,rfl,rfl,rfl⟩ | ⟨x,y,rfl,rfl,hz,rfl⟩ | ⟨x,y,rfl,rfl,hz,rfl⟩
 ·exact ⟨rfl,rfl⟩
 ·exact ⟨rfl,rfl⟩
 ·cases hf
section
variable {W:Wd} {cf:Nat->List V->R V} {env:Env} {l:List Env} {A:bA} {n:Nat} {vars:List Str} {X0 W0:aN->Prop} {s0 s s':aC} {oa oa1:Nat->aN} {σ σ1:List Slot} {E:aD->aC->Prop} {kp:List Nat}
 {N:Nat} {pc:V->V->List V->List V->R (V × List V × List V)} {K:Str->Option aY}
theorem zvw:SS W env l A n vars X0 W0 s0 kp E (execs [] env) (exs N cf pc .nil):=by
 intro oa σ s f hn hE;exact gD ⟨oa,f,.refl⟩
theorem zq7 {st:cI} {rest:List cI} {m:MS} {ms:MSs} (h1:SS W env l A n vars X0 W0 s0 kp E (exec st env) (ex1 N cf pc m)) (h2:SS W env l A n vars X0 W0 s0 kp E (execs rest env) (exs N cf pc ms)) :
  SS W env l A n vars X0 W0 s0 kp E (execs (st :: rest) env) (exs N cf pc (.cons m ms)):=by
 intro oa σ s f hn hE;simp only [zrs] at hn hE |-;refine wpAny_execs_cons (aG (h1 oa σ s f (fun q=>hn (by rw [q]; rfl)) fun q=>hE (by rw [q]; rfl)) (fun fl s1 h=>?_) fun O O x=>x)
 cases hr:ex1 N cf pc m σ <;> rw [hr] at h hn hE <;> cases fl <;> first | exact h.elim | skip
 ·obtain ⟨oa',f',st⟩:=h;simp only [seqF] at hn hE |-;exact aG (h2 oa' _ s1 f' hn hE) (fun O O q=>q.after st) fun O O x=>x
 ·exact h
 ·exact h
 ·exact h
theorem zv4 (B:Bs W) (hcf:CallOk W n cf) {c:ME} {a b:MSs} {ce:aL} {ba bb:List cI} {pos:Pos} (hK:∀ x,env.kindOf x = K x) (hc:chk (fns W.fs) c K (vars.map some) ce = true)
  (h1:SS W env l A n vars X0 W0 s0 kp E (execs ba env) (exs N cf pc a)) (h2:SS W env l A n vars X0 W0 s0 kp E (execs bb env) (exs N cf pc b)) :
  SS W env l A n vars X0 W0 s0 kp E (exec (.If ce ba bb pos) env) (ex1 N cf pc (.ite c a b)):=by
 intro oa σ s f hn hE;simp only [zvu] at hn hE |-;refine wpAny_If (aG ((zab B hcf c).2 K (vars.map some) ce env l A E (Xe env X0 oa σ (nms c)) s (ρm (nms c) σ) hc hK (f.cx B _) (f.evv B _) (fun q=>hn (by rw [q])) fun q e s' x=>(hE (by rw [q])).fly e s' (f.exc x)) (fun t s1 ⟨hr,g⟩=>?_) fun O O x=>x);rw [hr] at hn hE |-
 cases t
 ·exact aG (h2 oa σ s1 (f.gr B g) hn hE) (fun O O q=>q.after (.gr g)) fun O O x=>x
 ·exact aG (h1 oa σ s1 (f.gr B g) hn hE) (fun O O q=>q.after (.gr g)) fun O O x=>x
theorem zur (B:Bs W) (hcf:CallOk W n cf) {me:ME} {e:aL} {pos:Pos} (hK:∀ x,env.kindOf x = K x) (hc:chk (fns W.fs) me K (vars.map some) e = true) :
  SS W env l A n vars X0 W0 s0 kp E (exec (.Return (some e) pos) env) (ex1 N cf pc (.ret me)):=by
 refine SS.of fun oa σ s R0 hR f hn hE=>?_;refine wpAny_Return_some (f.exprR B hcf hK hc (x0_ret.symm.trans hR) hn hE fun d v s1 e0 g r=>?_);obtain ⟨f1,r1,st1⟩:=f.after (kp:=kp) B g r;exact e0 ▸ ⟨oa,f1,st1,r1⟩
theorem zt0 {pos:Pos}:SS W env l A n vars X0 W0 s0 kp E (exec (.Break pos) env) (ex1 N cf pc .brk):=by
 intro oa σ s f hn hE;exact wpAny_Break ⟨oa,f,.refl⟩
theorem zt5 {pos:Pos}:SS W env l A n vars X0 W0 s0 kp E (exec (.Continue pos) env) (ex1 N cf pc .cnt):=by
 intro oa σ s f hn hE;exact wpAny_Continue ⟨oa,f,.refl⟩
theorem ztw (B:Bs W) (hcf:CallOk W n cf) {me:ME} {e:aL} {x:Nat} {nm:Str} {p pos:Pos} (hK:∀ x,env.kindOf x = K x) (hc:chk (fns W.fs) me K (vars.map some) e = true) (hx:vars[x]? = some nm) :
  SS W env l A n vars X0 W0 s0 kp E (exec (.AugAssign (.Name nm p) .Add e pos) env) (ex1 N cf pc (.aug x me)):=by
 refine SS.of fun oa σ s R0 hR f hn hE=>?_;refine byC fun hG=>?_;obtain ⟨o,a,hsl,hR⟩:=zog (x0_aug.symm.trans hR) hn;have hvx:VarAt W env (Xe env X0 oa σ [x]) s nm a:=(f.evv B [x]).val x nm a (by rw [cV,hx]; rfl) (by rw [ρm_get,hsl]; cases o <;> simp [see]);refine hG ?_;clear hG;refine wpAny_AugAssign_Name (aG (hvx.load f.ek) (fun va s1 ⟨e1,ra⟩=>?_) fun O O x=>x);clear hvx;subst e1;refine f.exprR B hcf hK hc hR hn hE fun d v s1 e0 g r=>?_;refine byC fun hG=>?_;obtain ⟨rr,hr,e0⟩:=zu4 e0 hn;obtain ⟨hf,e0⟩:=zg0 e0 hn;obtain ⟨fa,fd⟩:=zm2 hr hf;refine hG ?_;clear hG;refine aG (zs8 (P:=W.P) (X:=fun a=>X0 a \/ Lc env a \/ Ow oa σ a) (ra.flat fa) (r.flat fd) hr hf) (fun u s2 q=>?_) fun O O x=>x;have f2:=f.gr B (g.trans q.1);exact f2.storeS B hx q.2 fun s' f' st'=>e0 ▸ ⟨oa,f',(St.gr (g.trans q.1)).trans st'⟩
theorem zsx (B:Bs W) (hcf:CallOk W n cf) {me:ME} {e:aL} {x y:Nat} {nx ny:Str} {p1 p2 pos:Pos} (hK:∀ x,env.kindOf x = K x) (hc:chk (fns W.fs) me K (vars.map some) e = true) (hx:vars[x]? = some nx) (hy:vars[y]? = some ny) :
  SS W env l A n vars X0 W0 s0 kp E (exec (.Assign [.Name nx p1,.Name ny p2] e pos) env) (ex1 N cf pc (.asg2 x y me)):=by
 refine SS.of fun oa σ s R0 hR f hn hE=>?_;refine wpAny_Assign_two ?_;refine f.exprR B hcf hK hc (x0_asg2.symm.trans hR) hn hE fun d v s1 e0 g r=>?_;obtain ⟨hf,e0⟩:=zg0 e0 hn;exact dL ((f.gr B g).storeS (kp:=kp) B hx (r.flat hf) fun s2 f2 st2=>dL (f2.storeS (kp:=kp) B hy (r.flat hf) fun s3 f3 st3=>e0 ▸ ⟨oa,f3,((St.gr g).trans st2).trans st3⟩))
end
section
variable {W:Wd} {cf:Nat->List V->R V} {env:Env} {l:List Env} {A:bA} {n:Nat} {vars:List Str} {X0 W0:aN->Prop} {s0 s s':aC} {oa oa1:Nat->aN} {σ σ1:List Slot} {E:aD->aC->Prop} {kp:List Nat}
 {N:Nat} {pc:V->V->List V->List V->R (V × List V × List V)} {K:Str->Option aY}
theorem zbn {x:Nat} {dl:List V} (h:ownL σ x = some dl):σ[x]? = some (some (true,.lst dl)):=by
 obtain ⟨s,h1,h⟩:=bind_inv h;obtain ⟨⟨b,d⟩,h2,h⟩:=bind_inv h;rw [h1,h2]
 cases b
 ·cases h
 ·have e:d = .lst dl:=zee h;rw [e]
theorem Fm.ownAt (f:Fm W env l A n vars X0 W0 s0 oa σ s) {x:Nat} {nm:Str} {dl:List V} (hx:vars[x]? = some nm) (h:σ[x]? = some (some (true,.lst dl))) :
  ∃ vs,And3 (s.heap.PlainList (oa x) (aQ vs)) (RepL (fun a=>X0 a \/ Lc env a \/ Ow oa σ a) s.heap dl vs) (Bd s.heap env nm (some (.ref (oa x)))):=by
 refine byC fun hG=>?_;obtain ⟨ov,hb,q⟩:=f.val x nm _ hx h;obtain ⟨vs,e,hp,r⟩:=q;subst e;refine hG ?_;exact ⟨vs,hp,r,hb⟩
theorem Bd.load {M:Model} {nm:Str} {v:aD} {Q:aD->aC->Prop} (ek:env.scope.kind = .function) (h:Bd s.heap env nm (some v)) (hQ:Q v s):wpAny M A (loadName env nm) Q E s:=by
 rcases h with ⟨hl,m,hm,hv⟩ | ⟨hl,c,hc,hcell⟩
 ·exact dW ek hl hm hv hQ
 ·exact wpAny_loadName_cell ek hl hc hcell hQ
theorem zqi {is:List Nat} {d:V} {x:Nat} {dl:List V} (h:σ[x]? = some (some (true,.lst dl))) (hq:flat d = true \/ is.contains x = false):(fz is d σ)[x]? = some (some (true,.lst dl)):=by
 unfold fz
 by_cases hf:flat d = true
 ·rw [if_pos hf]; exact h
 ·rw [if_neg hf];exact fzs_own.mpr ⟨h,hq.resolve_left hf⟩
theorem zh2 (ek:env.scope.kind = .function):interactive env = false:=by
 unfold interactive;rw [ek];rfl
theorem Ow.set {x:Nat} {dl dl':List V} (h:σ[x]? = some (some (true,.lst dl))) {a:aN} (q:Ow oa (σ.set x (some (true,.lst dl'))) a):Ow oa σ a:=by
 obtain ⟨i,d,h1,h2⟩:=q
 by_cases e:x = i
 ·subst e;exact ⟨x,_,h,h2⟩
 ·rw [zaf e] at h1;exact ⟨i,d,h1,h2⟩
theorem Fm.writeS (f:Fm W env l A n vars X0 W0 s0 oa σ s) (B:Bs W) {x:Nat} {dl0 dl:List V} {vs:List aD} {h':cZ} {tk:Nat} (hx:σ[x]? = some (some (true,.lst dl0))) (hs:dS (oa x) s.heap h') (hp:h'.PlainList (oa x) (aQ vs))
  (r:RepL (fun b=>X0 b \/ Lc env b \/ Ow oa σ b) s.heap dl vs):Fm W env l A n vars X0 W0 s0 oa (σ.set x (some (true,.lst dl))) { s with heap:=h',toks:=tk }/\St W env kp oa σ s oa (σ.set x (some (true,.lst dl))) { s with heap:=h',toks:=tk }:=by
 obtain ⟨a,b⟩:=f.write B hx hs hp r (tk:=tk);exact ⟨a,b.mono fun O q=>.inr (.inr q),fun O q=>.inl (q.set hx),fun O O=>rfl⟩
set_option tactic.hygienic true in
theorem zvo (B:Bs W) (hcf:CallOk W n cf) {me:ME} {e:aL} {x:Nat} {nm:Str} {p ap cpos pos:Pos} (hK:∀ x,env.kindOf x = K x) (hc:chk (fns W.fs) me K (vars.map some) e = true) (hx:vars[x]? = some nm) (hd:(nm == ("__debug__" : Str)) = false)
  (hline:(ap.endLine == cpos.line) = true) :
  SS W env l A n vars X0 W0 s0 kp E (exec (.Expr (.Call (.Attribute (.Name nm p) "append" ap) [e] [] cpos) pos) env) (ex1 N cf pc (.app x me)):=by
 refine SS.of fun oa σ s R0 hR f hn hE=>?_;have hse:starEach [e] env = [(false,eval e env)]:=zae hc;obtain ⟨dl,ho,hR⟩:=zib (x0_app.symm.trans hR) hn;have hsl:=zbn ho;obtain ⟨vs0,hp0,_,hb0⟩:=f.ownAt hx hsl;have hcall:wpAny (model W.pp W.w) A (eval (.Call (.Attribute (.Name nm p) "append" ap) [e] [] cpos) env) (fun v s'=>v = .none/\FlowOk W env l A n vars X0 W0 s0 kp oa σ s R0 .next s') E s:=?_
 ·exact wpAny_Expr (aG hcall (fun v s' q=>q.1 ▸ q.2) fun O O x=>x) (zh2 f.ek) rfl
 refine wpAny_Call_append (o:=.Name nm p) (elt:=e) rfl (by rw [hse]; rfl) hline (by rw [hse]; rfl) ?_;refine dR ?_ hd;refine hb0.load f.ek ?_;refine ⟨oa x,aQ vs0,rfl,?_,?_⟩
 ·obtain ⟨nn,e⟩:=hp0;exact ⟨_,nn,e,rfl,rfl,rfl⟩
 ·refine f.exprR B hcf hK hc hR hn hE fun d v s1 e0 g r=>?_;obtain ⟨hq,e0⟩:=zqp e0 hn;simp only [Bool.not_eq_true,Bool.or_eq_false_iff,Bool.and_eq_false_iff,Bool.not_eq_false',decide_eq_true_eq] at hq;obtain ⟨hq1,hq2⟩:=hq;obtain ⟨f1,r1,st1⟩:=f.after (kp:=kp) B g r;have hsl1:=zqi (is:=nms me) (d:=d) hsl hq1;obtain ⟨vs,hp,rl,hb⟩:=f1.ownAt hx hsl1;refine gL hp (fun h2 hp2 hs2=>?_) (by rw [cO]; have:=rl.length; simp; omega);have hp3:h2.PlainList (oa x) (aQ (vs++[v])):=by
   have e:(aQ vs).push v = aQ (vs++[v]):=by simp
   rwa [e] at hp2
  obtain ⟨f2,st2⟩:=f1.writeS (kp:=kp) B hsl1 hs2 hp3 (rl.append (.one r1)) (tk:=s1.toks);exact ⟨rfl,e0 ▸ ⟨oa,f2,st1.trans st2⟩⟩
theorem zrp (B:Bs W) (hcf:CallOk W n cf) {me:ME} {e ie:aL} {x:Nat} {nm:Str} {p sp pos:Pos} (hK:∀ x,env.kindOf x = K x) (hc:chk (fns W.fs) me K (vars.map some) e = true) (hx:vars[x]? = some nm) (hd:(nm == ("__debug__" : Str)) = false)
  (hi:chkC (.int (-1)) ie = true) (hs:swapsWith e (some (.Subscript (.Name nm p) ie sp)) pos.line env = pure false) :
  SS W env l A n vars X0 W0 s0 kp E (exec (.Assign [.Subscript (.Name nm p) ie sp] e pos) env) (ex1 N cf pc (.last x me)):=by
 refine SS.of fun oa σ s R0 hR f hn hE=>?_;refine wpAny_Assign_Subscript ?_ hs;refine f.exprR B hcf hK hc (x0_last.symm.trans hR) hn hE fun d v s1 e0 g r=>?_;refine byC fun hG=>?_;obtain ⟨dl,ho,e0⟩:=zib e0 hn;obtain ⟨hq,e0⟩:=zqp e0 hn;simp only [Bool.not_eq_true,Bool.or_eq_false_iff,Bool.not_eq_false',decide_eq_true_eq] at hq;obtain ⟨⟨hq1,hq3⟩,hq2⟩:=hq;have hsl:=zbn ho;obtain ⟨f1,r1,st1⟩:=f.after (kp:=kp) B g r;have hsl1:=zqi (is:=nms me) (d:=d) hsl (.inr hq1);obtain ⟨vs,hp,rl,hb⟩:=f1.ownAt hx hsl1;refine hG ?_;clear hG;refine dR (hb.load f1.ek ?_) hd;refine aG (zbv (P':=W.P) (X:=fun a=>X0 a \/ Lc env a \/ Ow oa (fz (nms me) d σ) a) (env:=env) hi) (fun iv s2 ⟨g2,t,hiv⟩=>?_) fun O O x=>x;subst hiv;refine byC fun hG=>?_;have f2:=f1.gr B g2;obtain ⟨vs,hp,rl,hb⟩:=f2.ownAt hx hsl1;have hlen:=rl.length;have hne:vs ≠ []:=fun q=>by
  rw [q] at hlen;clear ho hq2 hsl1 rl hsl e0
  cases dl with
  | nil=>cases hq3
  | cons a b=>simp at hlen
 refine hG ?_;clear hG;refine zg3 hp (by simp; exact List.length_pos_iff.mpr hne) fun h3 hp3 hs3=>?_;have e:(aQ vs).setIfInBounds ((aQ vs).size - 1) v = aQ (vs.dropLast++[v]):=by
  have h5:0 < vs.length:=List.length_pos_iff.mpr hne;apply Array.ext';simp only [Array.toList_setIfInBounds,List.size_toArray]
  conv=>lhs; rw [<- List.dropLast_concat_getLast hne]
  rw [List.set_append_right _ _ (by simp)];simp
 rw [e] at hp3;obtain ⟨f3,st3⟩:=f2.writeS (kp:=kp) (tk:=s2.toks) B hsl1 hs3 hp3 (dl:=dl.dropLast++[d]) (by
  rw [List.dropLast_eq_take,List.dropLast_eq_take,hlen];exact (rl.take _).append (.one (r1.gr (.inl f1.xp) g2)))
 exact e0 ▸ ⟨oa,f3,(st1.trans (.gr g2)).trans st3⟩
end
theorem zfk {x:Nat} {d:V}:∀ {xs:List Nat} {ds:List V} {σ:List Slot},x ∉ xs->setAll xs ds (σ.set x (some (false,d))) = (setAll xs ds σ).set x (some (false,d))
 | [],O,O1,O2=>by simp [sA_n]
 | O :: O1,[],O2,O3=>by simp [sA_d]
 | y :: ys,e :: es,σ,h=>by
  simp only [aO,not_or] at h;simp only [sA_c];rw [<- zfk h.2,List.set_comm _ _ h.1]
theorem zdb {x:Nat} {d:V}:∀ {xs:List Nat} {ds:List V} {σ:List Slot},xs.length = ds.length->setAll (xs++[x]) (ds++[d]) σ = (setAll xs ds σ).set x (some (false,d))
 | [],[],O,O1=>by simp [sA_c,sA_n]
 | [],O :: O1,O2,h=>by simp at h
 | O :: O1,[],O2,h=>by simp at h
 | y :: ys,e :: es,σ,h=>by
  simp only [fZ,sA_c];exact zdb (by simpa using h)
theorem zcr:∀ {xs:List Nat} {ds:List V} {σ:List Slot},xs.Nodup->xs.length = ds.length->setAll xs.reverse ds.reverse σ = setAll xs ds σ
 | [],[],O,O1,O2=>rfl
 | [],O :: O1,O2,O3,h=>by simp at h
 | O :: O1,[],O2,O3,h=>by simp at h
 | y :: ys,e :: es,σ,hn,h=>by
  obtain ⟨h1,h2⟩:=eT.mp hn;rw [List.reverse_cons,List.reverse_cons,zdb (by simpa using h),zcr h2 (by simpa using h)];simp only [sA_c];rw [zfk h1]
section
variable {W:Wd} {cf:Nat->List V->R V} {env:Env} {l:List Env} {A:bA} {n:Nat} {vars:List Str} {X0 W0:aN->Prop} {s0 s s':aC} {oa oa1:Nat->aN} {σ σ1:List Slot} {E:aD->aC->Prop} {kp:List Nat}
 {N:Nat} {pc:V->V->List V->List V->R (V × List V × List V)} {K:Str->Option aY}
noncomputable def Stores (W:Wd) (A:bA) (E:aD->aC->Prop) (env:Env) (vars:List Str):List (aD->Sem Unit)->List Nat->Prop
 | [],[]=>True
 | t :: ts,x :: xs=>(∃ nm,vars[x]? = some nm/\∀ v (Q:Unit->aC->Prop) s,wpAny (model W.pp W.w) A (storeName env nm v) Q E s->wpAny (model W.pp W.w) A (t v) Q E s)/\Stores W A E env vars ts xs
 | O,O1=>False
theorem Stores.append:∀ {ts ts':List (aD->Sem Unit)} {xs xs':List Nat},Stores W A E env vars ts xs->Stores W A E env vars ts' xs'->Stores W A E env vars (ts++ts') (xs++xs')
 | [],O,[],O1,O2,h=>h
 | [],O,O1 :: O2,O3,h,O4=>h.elim
 | O :: O1,O2,[],O3,h,O4=>h.elim
 | O :: O1,O2,O3 :: O4,O5,h,h'=>⟨h.1,h.2.append h'⟩
theorem Stores.reverse:∀ {ts:List (aD->Sem Unit)} {xs:List Nat},Stores W A E env vars ts xs->Stores W A E env vars ts.reverse xs.reverse
 | [],[],h=>h
 | [],O :: O1,h=>h.elim
 | O :: O1,[],h=>h.elim
 | t :: ts,x :: xs,h=>by
  rw [List.reverse_cons,List.reverse_cons];exact h.2.reverse.append ⟨h.1,trivial⟩
theorem Fm.storeAll (B:Bs W):∀ (ts:List (aD->Sem Unit)) (xs:List Nat) (ds:List V) (vs:List aD) (σ:List Slot) (s:aC) (Q:Unit->aC->Prop),Fm W env l A n vars X0 W0 s0 oa σ s->Stores W A E env vars ts xs->ds.length = xs.length->RepL (fun a=>X0 a \/ Lc env a \/ Ow oa σ a) s.heap ds vs ->
  (∀ s',Fm W env l A n vars X0 W0 s0 oa (setAll xs ds σ) s'->St W env kp oa σ s oa (setAll xs ds σ) s'->Q () s')->wpAny (model W.pp W.w) A (assignInOrder ts vs) Q E s
 | [],[],[],vs,σ,s,Q,f,O,O1,r,hQ=>by
  simp only [sA_n] at hQ;exact aV (hQ s f .refl)
 | [],[],O :: O1,O2,O3,O4,O5,O6,O7,h,O8,O9=>by simp at h
 | [],O :: O1,O2,O3,O4,O5,O6,O7,h,O8,O9,O10=>h.elim
 | O :: O1,[],O2,O3,O4,O5,O6,O7,h,O8,O9,O10=>h.elim
 | O :: O1,O2 :: O3,[],O4,O5,O6,O7,O8,O9,h,O10,O11=>by simp at h
 | t :: ts,x :: xs,d :: ds,vs,σ,s,Q,f,hs,hl,r,hQ=>by
  obtain ⟨⟨nm,hx,ht⟩,hs⟩:=hs;obtain ⟨v,vr,rfl,r1,r2⟩:=r;show wpAny _ _ (holding vr (t v) >>= fun O=>assignInOrder ts vr) Q E s;refine aF (dH (ht v _ s (f.store B hx r1 fun s1 f1 g1=>?_)));have r3:RepL (fun a=>X0 a \/ Lc env a \/ Ow oa (σ.set x (some (false,d))) a) s1.heap ds vr:=r2.mono (fun a q=>q.imp id (Or.imp id zfi)) fun b o hb e=>g1.ext b o (fun q=>hb (.inr (.inl q))) e;refine Fm.storeAll B ts xs ds vr _ s1 Q f1 hs (by simpa using hl) r3 fun s' f' st'=>?_;exact hQ s' f' ((St.lc g1 fun a q=>zfi q).trans st')
theorem zds:∀ {l:List (Str × Pos)} {xs:List Nat},xs.mapM (fun i=>vars[i]?) = some (l.map (fun O=>O.1))->Stores W A E env vars (l.map fun p=>assign (.Name p.1 p.2) env) xs
 | [],[],O=>trivial
 | [],x :: xs,h=>by
  rw [fC] at h
  cases hx:vars[x]? with
  | none=>rw [hx] at h; simp at h
  | some y =>
   rw [hx] at h
   cases hr:xs.mapM (fun i=>vars[i]?) with
   | none=>rw [hr] at h; simp at h
   | some ys=>rw [hr] at h; simp at h
 | O :: O1,[],h=>by simp at h
 | p :: l,x :: xs,h=>by
  rw [fC] at h
  cases hx:vars[x]? with
  | none=>rw [hx] at h; simp at h
  | some y =>
   rw [hx] at h
   cases hr:xs.mapM (fun i=>vars[i]?) with
   | none=>rw [hr] at h; simp at h
   | some ys =>
    rw [hr] at h;simp at h;obtain ⟨rfl,h2⟩:=h;exact ⟨⟨_,hx,fun v Q s q=>assign_Name q⟩,zds (by rw [hr,h2])⟩
theorem zey:∀ {ns:List Str} {xs:List Nat},xs.mapM (fun i=>vars[i]?) = some ns->Stores W A E env vars (ns.map fun y=>bindName env y) xs
 | [],[],O=>trivial
 | [],x :: xs,h=>by
  rw [fC] at h
  cases hx:vars[x]? with
  | none=>rw [hx] at h; simp at h
  | some y =>
   rw [hx] at h
   cases hr:xs.mapM (fun i=>vars[i]?) with
   | none=>rw [hr] at h; simp at h
   | some ys=>rw [hr] at h; simp at h
 | O :: O1,[],h=>by simp at h
 | p :: l,x :: xs,h=>by
  rw [fC] at h
  cases hx:vars[x]? with
  | none=>rw [hx] at h; simp at h
  | some y =>
   rw [hx] at h
   cases hr:xs.mapM (fun i=>vars[i]?) with
   | none=>rw [hr] at h; simp at h
   | some ys =>
    rw [hr] at h;simp at h;obtain ⟨rfl,h2⟩:=h;exact ⟨⟨_,hx,fun v Q s q=>wpAny_bindName q⟩,zey (by rw [hr,h2])⟩
theorem zch {elts:List aL} {k} {tp:Pos} {value:aL} {ln:Nat} {env:Env}:swapsWithSole [.Tuple elts k tp] value ln env = pure false:=by
 cases value <;> rfl
end
noncomputable def isTupE (e:aL):Bool:=onTup e fun O=>true
theorem zdq {elts:List aL} {k} {tp:Pos} {value:aL} {env:Env} (h:isTupE value = false):swappedStores [.Tuple elts k tp] value env = pure none:=by
 cases value <;> first | rfl | cases h
noncomputable def swNames (K:Str->Option aY) (ts:List aL):List Str:=ts.filterMap fun e=>swappedStores.match_8 (fun O=>Option Str) e (fun id pos=>if K id == some .local && pos.line == (ts.head?.map (fun O=>O.pos.line)).getD 0 then some id else none) fun O=>none
noncomputable def isSt (e:aL):Bool:=swappedStores.match_5 (fun O=>Bool) e (fun O O=>true) fun O=>false
noncomputable def swOk (K:Str->Option aY) (ts:List aL) (ns:List Str) (vs:List aL):Bool :=
 ((ts.length == 2 || ts.length == 3) && vs.length == ts.length) && swNames K ts == ns && (swNames K ts).length == ts.length && (swNames K ts).eraseDups.length == (swNames K ts).length &&
  !vs.all (foldedForSure 8) && !vs.all (constantsAlone 8)
theorem nbne {a b:Nat} (h:(a == b) = true):(a != b) = false:=by rw [bne,h]; rfl
theorem zdr {K:Str->Option aY} {ts vs:List aL} {k k'} {tp tp':Pos} {env:Env} {ns:List Str} (ek:env.scope.kind = .function) (hK:∀ x,env.kindOf x = K x) (hst:vs.any isSt = false) (h:swOk K ts ns vs = true) :
  swappedStores [.Tuple ts k tp] (.Tuple vs k' tp') env = pure (some ns):=by
 obtain rfl:env.kindOf = K:=funext hK;obtain ⟨h1,h2,h3,h4,h5,h6⟩:=zi7 h;have hb:env.blockKind = .function:=by unfold Env.blockKind; rw [ek]; rfl
 obtain ⟨a1,a2⟩:=zaa h1;have c1:¬ (!(ts.length == 2 || ts.length == 3) || vs.length != ts.length || env.blockKind != .function) = true:=by rw [hb,a1,nbne a2]; decide
 have c3:¬ ((swNames env.kindOf ts).length != ts.length || (swNames env.kindOf ts).eraseDups.length != (swNames env.kindOf ts).length) = true:=by rw [nbne h3,nbne h4]; decide
 refine (if_neg c1).trans ((if_neg fun q=>?_).trans ((if_neg c3).trans ((if_neg fun q=>?_).trans ((if_neg fun q=>?_).trans (congrArg (fun x=>(pure (some x):Sem (Option (List Str)))) (aR h2))))))
 ·exact aJ (hst.symm.trans q)
 ·rw [q] at h5; exact aJ h5
 ·rw [q] at h6; exact aJ h6
theorem zgo {α:Type} {g:Nat->Option α}:∀ {xs:List Nat} {ns:List α},xs.mapM g = some ns->ns.length = xs.length
 | [],ns,h=>by simp at h; rw [h]; rfl
 | t :: ts,ns,h=>by
  rw [fC] at h;obtain ⟨y,_,h⟩:=gK.mp h;obtain ⟨ys,hy,h⟩:=gK.mp h
  cases h
  exact congrArg Nat.succ (zgo hy)
section
variable {W:Wd} {cf:Nat->List V->R V} {env:Env} {l:List Env} {A:bA} {n:Nat} {vars:List Str} {X0 W0:aN->Prop} {s0 s s':aC} {oa oa1:Nat->aN} {σ σ1:List Slot} {E:aD->aC->Prop} {kp:List Nat}
 {N:Nat} {pc:V->V->List V->List V->R (V × List V × List V)} {K:Str->Option aY}
theorem Fm.unpackTo (B:Bs W) (f:Fm W env l A n vars X0 W0 s0 oa σ s) {elts:List aL} {k} {tp:Pos} {xs:List Nat} {ns:List Str} {ds:List V} {v:aD} {Q:Unit->aC->Prop} (hm:elts.mapM nameOf = some ns) (hxs:xs.mapM (fun i=>vars[i]?) = some ns)
  (hl:ds.length = xs.length) (r:Rep (fun a=>X0 a \/ Lc env a \/ Ow oa σ a) s.heap (.tup ds) v)
  (hQ:∀ s',Fm W env l A n vars X0 W0 s0 oa (setAll xs ds σ) s'->St W env kp oa σ s oa (setAll xs ds σ) s'->Q () s'):wpAny (model W.pp W.w) A (assign (.Tuple elts k tp) env v) Q E s:=by
 obtain ⟨a,vs,rfl,hXa,hT,rl⟩:=r;obtain ⟨ps,hps,rfl⟩:=zeg hm;obtain ⟨e1,e2,e3⟩:=za6 (env:=env) (ns.zip ps);have hnl:=zgo hxs;have hvl:=rl.length;have hz:(ns.zip ps).length = xs.length:=by simp [hps,hnl]
 refine assign_Tuple_tuple f.hh hT (by rw [e1,hz]; simp; omega) e2 fun h1 he1=>?_;have hk1:∀ b o,s.heap.get? b = some o->h1.get? b = some o:=fun b o e=>he1 b o (fF (bW e)) e;have g1:Gr W.P s { s with heap:=h1 }:=.keep (k:=s.toks) hk1;rw [e3];have em:(ns.zip ps).map (fun O=>O.1) = ns:=by rw [List.map_fst_zip]; omega
 refine Fm.storeAll (kp:=kp) B _ xs ds vs σ _ Q (f.gr B g1) (zds (by rw [em]; exact hxs)) hl (rl.gr (.inl f.xp) g1) fun s' f' st'=>hQ s' f' ((St.gr g1).trans st')
theorem zup (B:Bs W) (hcf:CallOk W n cf) {me:ME} {e:aL} {xs:List Nat} {elts:List aL} {k} {ns:List Str} {tp pos:Pos} (hK:∀ x,env.kindOf x = K x) (hc:chk (fns W.fs) me K (vars.map some) e = true) (hm:elts.mapM nameOf = some ns) (hxs:xs.mapM (fun i=>vars[i]?) = some ns)
  (ht:isTupE e = false):SS W env l A n vars X0 W0 s0 kp E (exec (.Assign [.Tuple elts k tp] e pos) env) (ex1 N cf pc (.unp xs me)):=by
 refine SS.of fun oa σ s R0 hR f hn hE=>?_;refine Assign_Tuple ?_ zch (zdq ht);refine f.exprR B hcf hK hc (x0_unp.symm.trans hR) hn hE fun d v s1 e0 g r=>?_;refine byC fun hG=>?_;obtain ⟨ds,hd,e0⟩:=ziq e0 hn;obtain ⟨hl,e0⟩:=zg0 e0 hn;obtain ⟨f1,r1,st1⟩:=f.after (kp:=kp) B g r;rw [hd] at f1 r1 st1 e0;refine hG ?_;exact f1.unpackTo (kp:=kp) B hm hxs hl r1 fun s' f' st'=>e0 ▸ ⟨oa,f',st1.trans st'⟩
theorem zsa (B:Bs W) (hcf:CallOk W n cf) {me:ME} {vse:List aL} {k'} {vp:Pos} {xs:List Nat} {elts:List aL} {k} {ns:List Str} {tp pos:Pos} (hK:∀ x,env.kindOf x = K x) (hc:chk (fns W.fs) me K (vars.map some) (.Tuple vse k' vp) = true) (hm:elts.mapM nameOf = some ns) (hxs:xs.mapM (fun i=>vars[i]?) = some ns)
  (hnd:xs.Nodup) (hst:vse.any isSt = false) (hsw:swOk K elts ns vse = true):SS W env l A n vars X0 W0 s0 kp E (exec (.Assign [.Tuple elts k tp] (.Tuple vse k' vp) pos) env) (ex1 N cf pc (.unp xs me)):=by
 refine SS.of fun oa σ s R0 hR f hn hE=>?_;refine Assign_Tuple_swapped (names:=ns) ?_ zch (zdr f.ek hK hst hsw);clear hst hsw;refine f.exprR B hcf hK hc (x0_unp.symm.trans hR) hn hE fun d v s1 e0 g r=>?_;obtain ⟨ds,hd,e1⟩:=ziq e0 hn;clear e0;obtain ⟨hl,e0⟩:=zg0 e1 hn;clear e1;obtain ⟨f1,r1,st1⟩:=f.after (kp:=kp) B g r;rw [hd] at f1 r1 st1 e0;clear r;obtain ⟨a,vs,rfl,hXa,hT,rl⟩:=r1;have hnl:=zgo hxs;have hvl:=rl.length;have e9:ns.length = (aQ vs).size:=by simp; omega
 rw [e9];refine unpackItems_tuple f1.hh hT fun h2 he2=>?_;have hk1:∀ b o,s1.heap.get? b = some o->h2.get? b = some o:=fun b o e=>he2 b o (fF (bW e)) e;have g2:Gr W.P s1 { s1 with heap:=h2 }:=.keep (k:=s1.toks) hk1;have rr:RepL (fun a=>X0 a \/ Lc env a \/ Ow oa (fz (nms me) (.tup ds) σ) a) h2 ds.reverse vs.reverse:=by
  refine RepL.of_get (by simp [hvl]) fun i d v h3 h4=>?_;have hi:i < ds.length:=by have:=zav h3; simpa using this
  rw [List.getElem?_reverse (by omega)] at h4;rw [List.getElem?_reverse hi] at h3;rw [hvl] at h4;obtain ⟨v',hv',rv'⟩:=(rl.gr (.inl f1.xp) g2).get h3;rw [h4] at hv'
  cases hv'
  exact rv'
 have hrs:=(zey (W:=W) (A:=A) (E:=E) (env:=env) hxs).reverse;rw [<- List.map_reverse] at hrs;refine Fm.storeAll (kp:=kp) B _ xs.reverse ds.reverse vs.reverse _ _ _ (f1.gr B g2) hrs (by simp [hl]) rr fun s' f' st'=>?_;rw [zcr hnd hl.symm] at f' st';exact e0 ▸ ⟨oa,f',st1.trans ((St.gr g2).trans st')⟩
end
section
variable {W:Wd} {cf:Nat->List V->R V} {env:Env} {l:List Env} {A:bA} {n:Nat} {vars:List Str} {X0 W0:aN->Prop} {s0 s s':aC} {oa oa1:Nat->aN} {σ σ1:List Slot} {E:aD->aC->Prop} {kp:List Nat}
 {N:Nat} {pc:V->V->List V->List V->R (V × List V × List V)} {K:Str->Option aY}
theorem zhi {h h' B:cZ} {Z:aN->Prop} (hk:∀ b o,¬ Z b->h.get? b = some o->h'.get? b = some o) {l:List Env} (hI:∀ a ∈ l.filterMap (fun O=>O.frame),¬ Z a) (f:h.FunFrames B l):h'.FunFrames B l :=
 zhy (fun L o hm hn ho hd=>⟨hn,o,hk L o (hI L hm) ho,hd⟩) f
theorem Fm.but {X0' Z:aN->Prop} (f:Fm W env l A n vars X0 W0 s0 oa σ s) (hZ:∀ a,Z a->X0 a/\¬ Lc env a/\a ≠ W.P/\s0.heap.get? a = none/\a ∉ l.filterMap (fun O=>O.frame)) (hk:∀ b o,¬ Z b->s.heap.get? b = some o->s'.heap.get? b = some o) (hos:s'.os = s.os)
  (hg:AllBare s.gens->AllBare s'.gens) (hX:∀ a,X0' a->X0 a) (hXP:X0' W.P) (hl:XOk X0' s'.heap):Fm W env l A n vars X0' W0 s0 oa σ s':=by
 have hZB:∀ a,Z a->W.sB.heap.get? a = none:=fun a h=>(f.xb a (hZ a h).1).resolve_left (hZ a h).2.2.1;have hkl:∀ b,¬ Z b->(s.heap.get? b).isSome = true->(s'.heap.get? b).isSome = true:=fun b hb q=>by
  obtain ⟨o,e⟩:=aH.mp q;exact aH.mpr ⟨o,hk b o hb e⟩
 have hPZ:¬ Z W.P:=fun q=>(hZ _ q).2.2.1 rfl;have htab:IsTab s.heap W.P->IsTab s'.heap W.P:=fun ⟨ps,e⟩=>⟨ps,hk _ _ hPZ e⟩;have dl:∀ {h:cZ} {b:aN},(∀ a,Z a->h.get? a = none)->(h.get? b).isSome = true->¬ Z b:=fun hd q e=>by rw [hd _ e] at q; cases q
 have hZ0:∀ a,Z a->s0.heap.get? a = none:=fun a h=>(hZ a h).2.2.2.1;have hkL:∀ a,Lc env a->∀ o,s.heap.get? a = some o->s'.heap.get? a = some o:=fun a ha o e=>hk a o (fun q=>(hZ a q).2.1 ha) e;refine { f with
  fr:=zhi hk (fun a h q=>(hZ a q).2.2.2.2 h) f.fr
  base:=⟨fun b o hb e=>hk b o (dl hZB (by rw [e]; rfl)) (f.base.ext b o hb e),fun b hb=>hkl b (dl hZB hb) (f.base.live b hb),fun t=>htab (f.base.tab t),hos.trans f.base.os,fun q=>hg (f.base.gens q)⟩
  g:=⟨fun b o hb e=>hk b o (dl hZ0 (by rw [e]; rfl)) (f.g.ext b o hb e),fun b hb=>hkl b (dl hZ0 hb) (f.g.live b hb),fun t=>htab (f.g.tab t),hos.trans f.g.os,fun q=>hg (f.g.gens q)⟩
  ll:=fun a ha=>hkl a (fun q=>(hZ a q).2.1 ha) (f.ll a ha)
  ns:=by obtain ⟨m,hm⟩:=f.ns; exact ⟨m,hm.at' fun o e=>hkL _ (.inl rfl) o e⟩
  x0:=hl
  xp:=hXP
  xb:=fun a ha=>f.xb a (hX a ha)
  own:=fun i d h=>by
   obtain ⟨h1,h2,h3⟩:=f.own i d h;exact ⟨h1,fun q=>h2 (hX _ q),h3⟩
  val:=fun i x sl hx hs=>?_ }
 obtain ⟨ov,hb,q⟩:=f.val i x sl hx hs;exact ⟨ov,hb.keep hkL,q.mono (fun a ha=>ha.imp (hX a) id) (fun b o hb e=>hk b o (fun z=>hb (.inl (hZ b z).1)) e) fun d e o z=>hk _ o (fun y=>(f.own i d (by rw [hs,e])).2.1 (hZ _ y).1) z⟩
theorem FlowOk.drop {X0':aN->Prop} {r:F} {fl:Flow} {s1:aC} {oa:Nat->aN} (h:FlowOk W env l A n vars X0' W0 s0 kp oa σ s r fl s1) (hX:∀ a,X0 a->X0' a) (hXP:X0 W.P):FlowOk W env l A n vars X0 W0 s0 kp oa σ s r fl s1:=by
 have dr:∀ {oa' σ'},Fm W env l A n vars X0' W0 s0 oa' σ' s1->Fm W env l A n vars X0 W0 s0 oa' σ' s1:=fun f=>{ f with
  x0:=fun a ha=>f.x0 a (hX a ha)
  xp:=hXP
  xb:=fun a ha=>f.xb a (hX a ha)
  own:=fun i d h=>by
   obtain ⟨h1,h2,h3⟩:=f.own i d h;exact ⟨h1,fun q=>h2 (hX _ q),h3⟩
  val:=fun i x sl hx hs=>by
   obtain ⟨ov,hb,q⟩:=f.val i x sl hx hs;exact ⟨ov,hb,q.mono (fun a ha=>ha.imp (hX a) id) (fun b o O e=>e) fun d e o z=>z⟩ }
 cases r <;> cases fl <;> first | exact h.elim | skip
 ·obtain ⟨oa',a,b⟩:=h; exact ⟨oa',dr a,b⟩
 ·obtain ⟨oa',a,b⟩:=h; exact ⟨oa',dr a,b⟩
 ·obtain ⟨oa',a,b⟩:=h; exact ⟨oa',dr a,b⟩
 ·obtain ⟨oa',a,b,c⟩:=h; exact ⟨oa',dr a,b,c.mono (fun a ha=>ha.imp (hX a) id) fun b o O e=>e⟩
theorem zv1 (B:Bs W) (hcf:CallOk W n cf) (hP:PassesOwn (model W.pp W.w) A env E) {c:ME} {b:MSs} {ce:aL} {body:List cI} {pos:Pos} (hK:∀ x,env.kindOf x = K x) (hc:chk (fns W.fs) c K (vars.map some) ce = true)
  (hb:SS W env l A n vars X0 W0 s0 kp E (execs body env) (exs N cf pc b)):SS W env l A n vars X0 W0 s0 kp E (exec (.While ce body [] pos) env) (ex1 N cf pc (.whl c b)):=by
 intro oa σ s f hn hE;simp only [zvt] at hn hE |-;generalize hr:whileN (fun σ=>tst (ev cf c (ρm (nms c) σ))) (exs N cf pc b) N σ = res at hn hE |-;refine wpAny_While (codeAny_whileLoop (fun k s'=>Ex2 fun oa' σ'=>And3 (Fm W env l A n vars X0 W0 s0 oa' σ' s') (St W env kp oa σ s oa' σ' s') (whileN (fun σ=>tst (ev cf c (ρm (nms c) σ))) (exs N cf pc b) k σ' = res)) ?_ N ⟨oa,σ,f,.refl,hr⟩);rintro k s1 ⟨oa1,σ1,f1,st1,hr1⟩
 cases k with
 | zero=>exact absurd hr1.symm hn
 | succ k =>
  rw [wN_s] at hr1;refine wpAny_passesOwn hP (aG ((zab B hcf c).2 K (vars.map some) ce env l A E (Xe env X0 oa1 σ1 (nms c)) s1 (ρm (nms c) σ1) hc hK (f1.cx B _) (f1.evv B _) (fun q=>hn (by rw [q] at hr1; exact hr1.symm)) fun q e s' x=>?_) (fun t s2 ⟨ht,g⟩=>?_) fun O O x=>x)
  ·rw [q] at hr1;exact absurd hr1.symm hn
  ·rw [ht] at hr1
   cases t with
   | false =>
    rw [if_neg (by decide)];dsimp only at hr1;clear hE hn;subst hr1;exact gD ⟨oa1,f1.gr B g,st1.trans (.gr g)⟩
   | true =>
    rw [if_pos rfl];dsimp only at hr1;refine wpAny_passesOwn hP (aG (hb oa1 σ1 s2 (f1.gr B g) (fun q=>hn (by rw [q] at hr1; exact hr1.symm)) fun q=>hE (by rw [q] at hr1; exact hr1.symm)) (fun fl s3 h=>?_) fun O O x=>x);have st2:=st1.trans (.gr g)
    cases hx:exs N cf pc b σ1 <;> rw [hx] at h hr1 <;> cases fl <;> first | exact h.elim | skip
    ·obtain ⟨oa',f',st'⟩:=h;exact ⟨k,cU _,oa',_,f',st2.trans st',hr1⟩
    ·obtain ⟨oa',f',st'⟩:=h;dsimp only at hr1;clear hE hn;subst hr1;exact ⟨oa',f',st2.trans st'⟩
    ·obtain ⟨oa',f',st'⟩:=h;exact ⟨k,cU _,oa',_,f',st2.trans st',hr1⟩
    ·obtain ⟨oa',f',st',r'⟩:=h;dsimp only at hr1;clear hE hn;subst hr1;exact ⟨oa',f',st2.trans st',r'⟩
end
section
variable {W:Wd} {cf:Nat->List V->R V} {env:Env} {l:List Env} {A:bA} {n:Nat} {vars:List Str} {X0 W0:aN->Prop} {s0 s s':aC} {oa oa1:Nat->aN} {σ σ1:List Slot} {E:aD->aC->Prop} {kp:List Nat}
 {N:Nat} {pc:V->V->List V->List V->R (V × List V × List V)} {K:Str->Option aY}
theorem Fm.addZ (B:Bs W) (f:Fm W env l A n vars X0 W0 s0 oa σ s) (g:Gr W.P s s') {Z:aN->Prop} (hZ:∀ a,Z a->s.heap.get? a = none/\(s'.heap.get? a).isSome = true):Fm W env l A n vars (fun b=>X0 b \/ Z b) W0 s0 oa σ s':=by
 have f':=f.gr B g;have hne:∀ b,(s.heap.get? b).isSome = true->¬ Z b:=fun b hb q=>by rw [(hZ b q).1] at hb; cases hb
 refine { f' with
  x0:=fun b hb=>hb.elim (f'.x0 b) fun q=>(hZ b q).2
  xp:=.inl f.xp
  xb:=fun b hb=>hb.elim (f.xb b) fun q=>.inr (f.base.dead (hZ b q).1)
  own:=fun i d h=>?_
  val:=fun i x sl hx hs=>?_ }
 ·obtain ⟨h1,h2,h3⟩:=f.own i d h;exact ⟨h1,fun q=>q.elim h2 fun q=>hne _ (f.xok _ (.inr (.inr ⟨i,d,h,rfl⟩))) q,h3⟩
 ·obtain ⟨ov,hb,q⟩:=f.val i x sl hx hs;have hkL:∀ b,Lc env b->∀ o,s.heap.get? b = some o->s'.heap.get? b = some o:=fun b hb o e=>g.ext b o (f.neP B hb) e;refine ⟨ov,hb.keep hkL,?_⟩;have q1:SlotOk (fun b=>(X0 b \/ Z b) \/ Lc env b \/ Ow oa σ b) s.heap (oa i) ov sl:=by
   have hav:∀ b,((X0 b \/ Z b) \/ Lc env b \/ Ow oa σ b)->(s.heap.get? b).isSome = true->(X0 b \/ Lc env b \/ Ow oa σ b):=fun b hb hl=>by
    rcases hb with (q | q) | q
    ·exact .inl q
    ·exact absurd q (hne b hl)
    ·exact .inr q
   clear hs;rcases sl with _ | ⟨bb,d⟩
   ·trivial
   ·cases bb with
    | false=>obtain ⟨v,e,r⟩:=q; exact ⟨v,e,r.avoid hav⟩
    | true =>
     induction d using V.casesOn with
     | lst dl=>obtain ⟨vs,e,hp,r⟩:=q; exact ⟨vs,e,hp,r.avoid hav⟩
     | none=>exact q
     | bool O=>exact q
     | int O=>exact q
     | bytes O=>exact q
     | tup O=>exact q
  exact q1.mono (fun O z=>z) (fun b o hb e=>g.ext b o (fun z=>hb (.inl (.inl (z ▸ f.xp)))) e) fun d e o z=>g.ext _ o (f.ownP B (by rw [hs,e])) z
noncomputable def BodyOk (W:Wd) (env:Env) (l:List Env) (A:bA) (n:Nat) (vars:List Str) (X0 W0:aN->Prop) (s0:aC) (kp:List Nat) (E:aD->aC->Prop) (tg:aL) (body:List cI) (step:V->List Slot->F):Prop :=
 ∀ d v oa σ s,Fm W env l A n vars X0 W0 s0 oa σ s->Rep (fun a=>X0 a \/ Lc env a \/ Ow oa σ a) s.heap d v->step d σ ≠ .st->(step d σ = .ex->EOk W l W0 s0 E) ->
  wpAny (model W.pp W.w) A (assign tg env v) (fun O s2=>wpAny (model W.pp W.w) A (execs body env) (FlowOk W env l A n vars X0 W0 s0 kp oa σ s (step d σ)) E s2) E s
set_option tactic.hygienic true in
theorem zge (B:Bs W) (hP:PassesOwn (model W.pp W.w) A env E) {tg:aL} {body:List cI} {step:V->List Slot->F} {s1 s2:aC} {I:aN} {fp:List aN} {ds:List V}
  (f:Fm W env l A n vars X0 W0 s0 oa σ s1) (g12:Gr W.P s1 s2) (hfp:∀ b ∈ fp,s1.heap.get? b = none/\(s2.heap.get? b).isSome = true) (itr:Itr W (fun a=>X0 a \/ Lc env a \/ Ow oa σ a) s1 tg I fp ds s2.heap)
  (hb:BodyOk W env l A n vars (fun b=>X0 b \/ b ∈ fp) W0 s0 kp E tg body step) (hn:forL step ds σ ≠ .st) (hE:forL step ds σ = .ex->EOk W l W0 s0 E) :
  codeAny (model W.pp W.w) A (.forLoop tg (.ref I) body [] env) (fun r s'=>match r with | .ok fl=>FlowOk W env l A n vars X0 W0 s0 kp oa σ s1 (forL step ds σ) fl s' | .error e=>cameBackBy (model W.pp W.w) A env E e s') s2:=by
 have f2:Fm W env l A n vars (fun b=>X0 b \/ b ∈ fp) W0 s0 oa σ s2:=f.addZ B g12 hfp;have hdead:∀ b ∈ fp,∀ c,(s1.heap.get? c).isSome = true->c ≠ b:=fun b hb c hc q=>by rw [q,(hfp b hb).1] at hc; cases hc
 have hZ:∀ b,b ∈ fp->(X0 b \/ b ∈ fp)/\¬ Lc env b/\b ≠ W.P/\s0.heap.get? b = none/\b ∉ l.filterMap (fun O=>O.frame):=fun b hb =>
  ⟨.inr hb,fun q=>hdead b hb b (f.ll b q) rfl,fun q=>hdead b hb b (by obtain ⟨ps,e⟩:=f.tab B; rw [q,e]; rfl) rfl,f.g.dead (hfp b hb).1,fun q=>by
   obtain ⟨_,o,ho,_⟩:=f.fr.mem q;exact hdead b hb b (by rw [ho]; rfl) rfl⟩
 generalize hr:forL step ds σ = res at hn hE |-;refine codeAny_forLoop_any (fun k s'=>Ex4 fun ds' oa' σ' h=>And6 (ds'.length = k) (Fm W env l A n vars (fun b=>X0 b \/ b ∈ fp) W0 s0 oa' σ' s') (St W env kp oa σ s1 oa' σ' s') (Itr W (fun a=>X0 a \/ Lc env a \/ Ow oa σ a) s1 tg I fp ds' h) ((∀ b ∈ fp,∀ o,h.get? b = some o->s'.heap.get? b = some o)) (forL step ds' σ' = res)) ?_ ds.length ⟨ds,oa,σ,s2.heap,rfl,f2,.gr g12,itr,fun O O O e=>e,hr⟩;rintro k s' ⟨ds',oa',σ',h,rfl,f',st',itr',hkeep,hr'⟩;have gXd:GrX W.P (Xd (fun a=>X0 a \/ Lc env a \/ Ow oa σ a) s1) s1 s':=st'.g.mono fun b q=>by
  rcases q with q | q | q
  ·exact .inl (.inl (q ▸ f.xp))
  ·exact .inl (.inr (.inl q))
  ·exact .inl (.inr (.inr q))
 cases ds' with
 | nil =>
  rw [zjh] at hr';clear hE hn;subst hr';refine itr' A _ _ s' f'.hh gXd hkeep fun h' tk hk=>gD ?_;have hk2:∀ b o,¬ (b ∈ fp)->s'.heap.get? b = some o->h'.get? b = some o:=fun b o hb e=>hk b o hb e;have hlive:∀ b,¬ b ∈ fp->(s'.heap.get? b).isSome = true->(h'.get? b).isSome = true:=fun b hb q=>by
   obtain ⟨o,e⟩:=aH.mp q;exact aH.mpr ⟨o,hk2 b o hb e⟩
  have hx0:∀ b,X0 b->¬ b ∈ fp:=fun b hb q=>hdead b q b (f.x0 b hb) rfl;refine ⟨oa',f'.but (s':={ s' with heap:=h',toks:=tk }) (Z:=(· ∈ fp)) hZ hk2 rfl id (fun a ha=>.inl ha) f.xp (fun a ha=>hlive a (hx0 a ha) (f'.x0 a (.inl ha))),?_⟩;refine ⟨⟨fun b o hb e=>hk2 b o (fun q=>hdead b q b (by rw [e]; rfl) rfl) (st'.g.ext b o hb e),fun b hb=>hlive b (fun q=>hdead b q b hb rfl) (st'.g.live b hb),fun t=>?_,st'.g.os,st'.g.gens⟩,st'.o,st'.k⟩;obtain ⟨ps,e⟩:=st'.g.tab t;exact ⟨ps,hk2 _ _ (fun q=>(hZ _ q).2.2.1 rfl) e⟩
 | cons d r =>
  rw [zgp] at hr';have hX':∀ a,((X0 a \/ a ∈ fp) \/ Lc env a \/ Ow oa' σ' a)->Xd (fun a=>X0 a \/ Lc env a \/ Ow oa σ a) s1 a:=fun a q=>by
   rcases q with (q | q) | q | q
   ·exact .inl (.inl q)
   ·exact .inr (hfp a q).1
   ·exact .inl (.inr (.inl q))
   ·exact (st'.o a q).imp (fun z=>.inr (.inr z)) id
  refine aG (itr'.next (Qn:=fun O=>False) (X':=fun a=>(X0 a \/ a ∈ fp) \/ Lc env a \/ Ow oa' σ' a) f'.hh gXd hkeep hX' f'.xok fun v s'' gI rv itr2=>?_) (fun o s3 h=>by cases o <;> first | exact h.elim | exact h) fun O O x=>x;have hkI:∀ b o,¬ b ∈ fp->s'.heap.get? b = some o->s''.heap.get? b = some o:=fun b o hb e=>gI.ext b o hb e;have f4:Fm W env l A n vars (fun b=>X0 b \/ b ∈ fp) W0 s0 oa' σ' s'':=f'.but (Z:=(· ∈ fp)) hZ hkI gI.os gI.gens (fun O h=>h) (.inl f.xp) fun a ha=>gI.live a (f'.x0 a ha);have st4:St W env kp oa σ s1 oa' σ' s'':=⟨st'.g.trans' gI fun b hb=>.inr (hfp b hb).1,st'.o,st'.k⟩;refine wpAny_passesOwn hP (aG (hb d v oa' σ' s'' f4 rv (fun q=>hn (by rw [q] at hr'; exact hr'.symm)) fun q=>hE (by rw [q] at hr'; exact hr'.symm)) (fun O s5 h5=>wpAny_passesOwn hP (aG h5 (fun fl s6 h=>?_) fun O O x=>x)) fun O O x=>x);have hkb:∀ {oa2 σ2},St W env kp oa' σ' s'' oa2 σ2 s6->∀ b ∈ fp,∀ o,s''.heap.get? b = some o->s6.heap.get? b = some o:=fun st b hb o e=>st.g.ext b o (fun q=>by
   clear e;rcases q with q | q | ⟨i,di,q,rfl⟩
   ·exact (hZ b hb).2.2.1 q
   ·exact (hZ b hb).2.1 q
   ·exact (f4.own i di q).2.1 (.inr hb)) e
  cases hx:step d σ' <;> rw [hx] at h hr' <;> cases fl <;> first | exact h.elim | skip
  ·obtain ⟨oa2,f6,st6⟩:=h;exact ⟨r.length,cU _,r,oa2,_,s''.heap,rfl,f6,st4.trans st6,itr2,hkb st6,hr'⟩
  ·obtain ⟨oa2,f6,st6⟩:=h;dsimp only at hr';clear hE hn;subst hr';exact FlowOk.drop (r:=.nx _) (fl:=.next) ⟨oa2,f6,st4.trans st6⟩ (fun a ha=>.inl ha) f.xp
  ·obtain ⟨oa2,f6,st6⟩:=h;exact ⟨r.length,cU _,r,oa2,_,s''.heap,rfl,f6,st4.trans st6,itr2,hkb st6,hr'⟩
  ·obtain ⟨oa2,f6,st6,r6⟩:=h;dsimp only at hr';clear hE hn;subst hr';exact FlowOk.drop (r:=.rt _ _) (fl:=.ret _) ⟨oa2,f6,st4.trans st6,r6⟩ (fun a ha=>.inl ha) f.xp
end
section
variable {W:Wd} {cf:Nat->List V->R V} {env:Env} {l:List Env} {A:bA} {n:Nat} {vars:List Str} {X0 W0:aN->Prop} {s0 s s':aC} {oa oa1:Nat->aN} {σ σ1:List Slot} {E:aD->aC->Prop} {kp:List Nat}
 {N:Nat} {pc:V->V->List V->List V->R (V × List V × List V)} {K:Str->Option aY}
theorem zh5 (B:Bs W) {x:Nat} {nm:Str} {p:Pos} {body:List cI} {b:MSs} (hx:vars[x]? = some nm) (hb:SS W env l A n vars X0 W0 s0 kp E (execs body env) (exs N cf pc b)) :
  BodyOk W env l A n vars X0 W0 s0 kp E (.Name nm p) body (fun it σ=>exs N cf pc b (σ.set x (some (false,it)))):=by
 intro d v oa σ s f r hn hE;refine dL (f.storeS (kp:=kp) B hx r fun s2 f2 st2=>?_);exact aG (hb oa _ s2 f2 hn hE) (fun O O q=>q.after st2) fun O O x=>x
theorem zff (B:Bs W) {xs:List Nat} {elts:List aL} {k} {ns:List Str} {tp:Pos} {body:List cI} {b:MSs} (hm:elts.mapM nameOf = some ns) (hxs:xs.mapM (fun i=>vars[i]?) = some ns) (hb:SS W env l A n vars X0 W0 s0 kp E (execs body env) (exs N cf pc b)) :
  BodyOk W env l A n vars X0 W0 s0 kp E (.Tuple elts k tp) body (fun it σ=>match it with
   | .tup ds=>if ds.length = xs.length then exs N cf pc b (setAll xs ds σ) else .st
   | _=>.st):=by
 intro d v oa σ s f r hn hE;obtain ⟨R0,hR⟩:∃ R0,(match d with
   | .tup ds=>if ds.length = xs.length then exs N cf pc b (setAll xs ds σ) else .st
   | _=>.st) = R0:=⟨_,rfl⟩
 dsimp only at hn hE |-;rw [hR] at hn hE |-;obtain ⟨ds,hd,hR⟩:=ziq hR hn;obtain ⟨hl,hR⟩:=zg0 hR hn;rw [hd] at r;refine f.unpackTo (kp:=kp) B hm hxs hl r fun s2 f2 st2=>?_;exact aG (hR ▸ hb oa _ s2 f2 (hR ▸ hn) (hR ▸ hE)) (fun O O q=>q.after st2) fun O O x=>x
theorem zmb (B:Bs W) (hcf:CallOk W n cf) (hP:PassesOwn (model W.pp W.w) A env E) {me:ME} {e tg:aL} {body:List cI} {pos:Pos} {step:V->List Slot->F} (hK:∀ x,env.kindOf x = K x) (hc:chk (fns W.fs) me K (vars.map some) e = true)
  (hb:∀ X0,BodyOk W env l A n vars X0 W0 s0 kp E tg body step):SS W env l A n vars X0 W0 s0 kp E (exec (.For tg e body [] pos) env) (fun σ=>withV (ev cf me (ρm (nms me) σ)) fun d=>match iterD d with
  | some l=>forL step l (fz (nms me) d σ)
  | none=>.st):=by
 refine SS.of fun oa σ s R0 hR f hn hE=>?_;refine wpAny_For ?_ (zdn hc);refine f.exprR B hcf hK hc hR hn hE fun d v s1 hR g r=>?_;obtain ⟨ds,hi,hR⟩:=zib hR hn;obtain ⟨f1,r1,st1⟩:=f.after (kp:=kp) B g r;refine zlc (tg:=tg) (f1.tab B) r1 hi fun o ho itr=>?_;refine codeAny_mono (zge (kp:=kp) B hP f1 (.push' (o:=o)) (fun b hb=>?_) itr (hb _) (hR ▸ hn) (hR ▸ hE)) fun r s' h=>?_
 ·simp only [bR] at hb;subst hb;exact ⟨zan _,by rw [bI _ ho]; rfl⟩
 ·rw [hR] at h
  cases r with
  | ok fl=>exact h.after st1
  | error e=>exact h
theorem zs2 (B:Bs W) (hcf:CallOk W n cf) (hP:PassesOwn (model W.pp W.w) A env E) {me:ME} {e:aL} {x:Nat} {nm:Str} {p pos:Pos} {body:List cI} {b:MSs} (hK:∀ x,env.kindOf x = K x) (hc:chk (fns W.fs) me K (vars.map some) e = true) (hx:vars[x]? = some nm)
  (hb:∀ X0,SS W env l A n vars X0 W0 s0 kp E (execs body env) (exs N cf pc b)):SS W env l A n vars X0 W0 s0 kp E (exec (.For (.Name nm p) e body [] pos) env) (ex1 N cf pc (.for1 x me b)):=by
 have h:=zmb (X0:=X0) (pos:=pos) B hcf hP hK hc (fun X0=>zh5 (p:=p) B hx (hb X0));exact h
theorem zqv (B:Bs W) (hcf:CallOk W n cf) (hP:PassesOwn (model W.pp W.w) A env E) {me:ME} {e:aL} {xs:List Nat} {elts:List aL} {k} {ns:List Str} {tp pos:Pos} {body:List cI} {b:MSs} (hK:∀ x,env.kindOf x = K x) (hc:chk (fns W.fs) me K (vars.map some) e = true)
  (hm:elts.mapM nameOf = some ns) (hxs:xs.mapM (fun i=>vars[i]?) = some ns)
  (hb:∀ X0,SS W env l A n vars X0 W0 s0 kp E (execs body env) (exs N cf pc b)):SS W env l A n vars X0 W0 s0 kp E (exec (.For (.Tuple elts k tp) e body [] pos) env) (ex1 N cf pc (.forT xs me b)):=by
 have h:=zmb (X0:=X0) (pos:=pos) B hcf hP hK hc (fun X0=>zff (k:=k) (tp:=tp) B hm hxs (hb X0));exact h
end
section
variable {W:Wd}
noncomputable def numd (l:List V):List V:=l.zipIdx.map fun p=>.tup [.int p.2,p.1]
theorem zn7 {l:List V} {k:Nat} {d:V} (h:l[k]? = some d):(numd l)[k]? = some (.tup [.int k,d]):=by
 simp [numd,List.getElem?_zipIdx,h]
theorem zjj {l:List V}:(numd l).length = l.length:=by simp [numd]
theorem zpp {X:aN->Prop} {s₀:aC} {elts:List aL} {kk} {tp:Pos} {e it ax:aN} {vs:List aD} {ds:List V} (ht:IsTab s₀.heap W.P) (hx:¬ X ax) (hl:s₀.heap.IsList ax vs.toArray) (hr:RepL X s₀.heap ds vs)
  (he0:s₀.heap.get? e = none) (hi0:s₀.heap.get? it = none) (hei:e ≠ it):∀ (m k:Nat) (h:cZ) (old:aD),k+m = ds.length->IsEnum h e it k old->h.IsListIter it ax k->Itr W X s₀ (.Tuple elts kk tp) e [e,it] ((numd ds).drop k) h:=by
 have hPe:e ≠ W.P:=fun z=>by obtain ⟨ps,q⟩:=ht; rw [z,q] at he0; cases he0
 have hPi:it ≠ W.P:=fun z=>by obtain ⟨ps,q⟩:=ht; rw [z,q] at hi0; cases hi0
 have hlist:∀ {s':aC},GrX W.P (Xd X s₀) s₀ s'->s'.heap.IsList ax vs.toArray:=fun g=>by
  obtain ⟨o,ho,q⟩:=hl;exact ⟨o,g.ext ax o (fun z=>z.elim hx fun z=>by rw [ho] at z; cases z) ho,q⟩
 intro m;induction m with
 | zero =>
  intro k h old hk he hit;rw [fE (by rw [zjj]; omega)];intro A E Q s' hh g hkeep hQ;have hn:vs.toArray[k]? = none:=by simp [hr.length]; omega
  exact wpAny_pyNext_enum_end hh (hkeep e (by simp) _ he) (hit.at fun o q=>hkeep it (by simp) o q) (hlist g) hn fun h' hx'=>hQ h' s'.toks fun b o hb q=>hx' b o (fun z=>hb (by simp [z])) q
 | succ m ih =>
  intro k h old hk he hit;have hlt:k < ds.length:=by omega
  have hd:ds[k]? = some ds[k]:=aZ hlt;have hnd:=zn7 hd;have hlt2:k < (numd ds).length:=by rw [zjj]; exact hlt
  rw [dA hlt2];rw [aZ hlt2] at hnd;rw [bN hnd];intro A E Q s' X' hh g hkeep hX' hXo hQ;obtain ⟨v,hv,rv⟩:=hr.get hd;have he':IsEnum s'.heap e it k old:=hkeep e (by simp) _ he;have hit':s'.heap.IsListIter it ax k:=hit.at fun o q=>hkeep it (by simp) o q;have heH:e < s'.heap.objs.size:=bW he';refine wpAny_pyNext_enum_item he' hit' (hlist g) (x:=v) (by simpa using hv) hei fun h1 heo hit1 ht1 hz1 hk1=>⟨_,rfl,wpAny_letOwnedTupleGo_enum heo fun h2 he2 hs2=>?_⟩;replace hs2:dS e h1 h2:=hs2;have hk2:∀ b o,b ≠ e->b ≠ it->s'.heap.get? b = some o->h2.get? b = some o:=fun b o q1 q2 q=>(hs2.2 b q1).trans (hk1 b o q1 q2 q);have hit2:h2.IsListIter it ax (k+1):=hit1.at fun o q=>(hs2.2 it (cQ hei)).trans q;have gI:GrX W.P (· ∈ [e,it]) s' { s' with heap:=h2,toks:=s'.toks+1 }:=by
   refine ⟨fun b o hb q=>hk2 b o (fun z=>hb (by simp [z])) (fun z=>hb (by simp [z])) q,fun b hb=>?_,fun ⟨ps,q⟩=>⟨ps,hk2 _ _ (cQ hPe) (cQ hPi) q⟩,rfl,id⟩;show (h2.get? b).isSome = true
   by_cases q1:b = e
   ·rw [q1,he2]; rfl
   ·by_cases q2:b = it
    ·obtain ⟨o,q,_⟩:=hit2;rw [q2,q]; rfl
    ·obtain ⟨o,q⟩:=aH.mp hb;rw [hk2 b o q1 q2 q]; rfl
  have gall:GrX W.P (Xd X s₀) s₀ { s' with heap:=h2,toks:=s'.toks+1 }:=g.trans (gI.mono fun b hb=>.inr (by
   simp only [aO,bP,or_false] at hb;rcases hb with q | q
   ·rw [q]; exact he0
   ·rw [q]; exact hi0))
  have r1:Rep (Xd X s₀) s₀.heap ds[k] v:=rv.avoid fun a ha hl=>ha.elim id fun z=>by rw [z] at hl; cases hl
  have r2:Rep X' h2 ds[k] v:=(r1.grx (fun O q=>q) gall).mono (fun a ha=>hX' a ha) fun b o O q=>q;refine hQ _ _ gI ⟨_,[.int k s'.toks,v],rfl,fun q=>?_,⟨_,(hs2.2 _ (Nat.ne_of_gt heH)).trans ht1,rfl,_,rfl⟩,⟨_,[v],rfl,⟨_,rfl⟩,.one r2⟩⟩ ?_
  ·have:=hXo _ q;rw [zan] at this
   cases this
  ·have e9:((k:Nat):Int)+1 = ((k+1:Nat):Int):=by push_cast; rfl
   rw [e9] at he2;exact ih (k+1) h2 v (by omega) he2 hit2
end
section
variable {W:Wd} {cf:Nat->List V->R V} {env:Env} {l:List Env} {A:bA} {n:Nat} {vars:List Str} {X0 W0:aN->Prop} {s0 s s':aC} {oa oa1:Nat->aN} {σ σ1:List Slot} {E:aD->aC->Prop} {kp:List Nat}
 {N:Nat} {pc:V->V->List V->List V->R (V × List V × List V)} {K:Str->Option aY}
theorem zwc {d:V} {g:V->V->F} (h:(match d with
   | .tup [i,v]=>g i v
   | _=>.st) ≠ .st):Ex2 fun i v=>d = .tup [i,v]:=by
 induction d using V.casesOn with
 | tup l=>rcases l with _ | ⟨i,_ | ⟨v,_ | ⟨_,_⟩⟩⟩ <;> first | exact ⟨_,_,rfl⟩ | exact absurd rfl h
 | none=>exact absurd rfl h
 | bool O=>exact absurd rfl h
 | int O=>exact absurd rfl h
 | bytes O=>exact absurd rfl h
 | lst O=>exact absurd rfl h
theorem zsl (B:Bs W) (hcf:CallOk W n cf) (hP:PassesOwn (model W.pp W.w) A env E) {me:ME} {e:aL} {x y:Nat} {elts:List aL} {k} {ns:List Str} {tp np cpos pos:Pos} {body:List cI} {b:MSs} (hK:∀ x,env.kindOf x = K x) (hc:chk (fns W.fs) me K (vars.map some) e = true)
  (hke:K ("enumerate" : Str) = some .globalImplicit) (hm:elts.mapM nameOf = some ns) (hxs:[x,y].mapM (fun i=>vars[i]?) = some ns)
  (hb:∀ X0,SS W env l A n vars X0 W0 s0 kp E (execs body env) (exs N cf pc b)) :
  SS W env l A n vars X0 W0 s0 kp E (exec (.For (.Tuple elts k tp) (.Call (.Name "enumerate" np) [e] [] cpos) body [] pos) env) (ex1 N cf pc (.forE x y me b)):=by
 refine SS.of fun oa σ s R0 hR f hn hE=>?_;have hs:starEach [e] env = [(false,eval e env)]:=zae hc;refine wpAny_For ?_ (fun O=>rfl);refine eA rfl ((f.cx B []).name_b B (by rw [hK]; exact hke) zgm (zik (.t _) hs ?_) (by decide));refine f.exprR B hcf hK hc (x0_forE.symm.trans hR) hn hE fun d v s1 hR g r=>?_;refine byC fun hG=>?_;obtain ⟨dl,hd,hR⟩:=zsv hR hn;obtain ⟨hl,hR⟩:=zg0 hR hn;obtain ⟨f1,r1,st1⟩:=f.after (kp:=kp) B g r;rw [hd] at f1 r1 st1 hR;replace hR:forL _ (numd dl) _ = R0:=hR;obtain ⟨ax,vs,hv,hax,hL,rl⟩:=r1;clear r;subst hv;refine hG ?_;clear hG;refine call_enumerate_list hL fun h2 he hit hz hk=>wpAny_pyIter_enum he ?_;have g2:Gr W.P s1 { s1 with heap:=h2 }:=.keep (k:=s1.toks) hk;have d1:s1.heap.get? (s1.heap.objs.size+1) = none:=by
  cases q:s1.heap.get? (s1.heap.objs.size+1) with
  | none=>rfl
  | some o=>exact absurd (bW q) (Nat.not_lt.mpr (Nat.le_succ _))
 have itr:=zpp (W:=W) (elts:=elts) (kk:=k) (tp:=tp) (f1.tab B) hax hL rl d1 (zan _) (Nat.ne_of_gt (cU _)) dl.length 0 h2 .none (by simp) he hit;rw [List.drop_zero] at itr;refine codeAny_mono (zge (kp:=kp) (s2:={ s1 with heap:=h2 }) B hP f1 g2 (fun b hb=>?_) itr (fun d v oa σ s f' r hn hE=>?_) (hR ▸ hn) (hR ▸ hE)) fun r s' h=>?_
 ·simp only [aO,bP,or_false] at hb;rcases hb with q | q
  ·subst q;exact ⟨d1,by show (h2.get? _).isSome = true; rw [he]; rfl⟩
  ·refine byC fun hG=>?_;subst q;obtain ⟨o,q,_⟩:=hit;refine hG ?_;exact ⟨zan _,by show (h2.get? _).isSome = true; rw [q]; rfl⟩
 ·obtain ⟨i,vv,e⟩:=zwc hn;subst e;exact zff (k:=k) (tp:=tp) (xs:=[x,y]) B hm hxs (hb _) (.tup [i,vv]) v oa σ s f' r hn hE
 ·rw [hR] at h
  cases r with
  | ok fl=>exact h.after st1
  | error e=>exact h
theorem zkn {X:aN->Prop} {s₀:aC} {tg:aL} (ht:IsTab s₀.heap W.P) :
  Itr W X s₀ tg s₀.heap.objs.size [s₀.heap.objs.size] ((eB 2).map fun i:Nat=>.int i) (s₀.heap.push { cls:=.type "range_iterator",data:=.fields #[rawInt 0,rawInt (gJ 0 2 1),rawInt 1] }):=by
 have h:=zc2 (W:=W) (X:=X) (s₀:=s₀) (tg:=tg) (ds:=(eB 2).map fun i:Nat=>.int i) (fun A hh=>Walks.range (prog:=W.pp) (w:=W.w) (A:=A) hh s₀.heap.objs.size 0 1 2) (fun b hb=>by simpa using hb) (zan _) ht
  (fun b hb q=>by
   simp at hb;exact absurd hb q) (by simp) (fun i h st=>by
    have st':h.get? s₀.heap.objs.size = _:=st;rw [st']; rfl)
  (fun i v d hv hd=>by
   obtain ⟨u,rfl⟩:=hv;rw [cV] at hd;obtain ⟨x,hx,rfl⟩:=aW.mp hd;obtain ⟨hx1,hx2⟩:=List.getElem?_eq_some_iff.mp hx;rw [List.getElem_range] at hx2;exact ⟨u,by subst hx2; simp⟩)
  (fun i s A E Q v st h=>za8 st rfl rfl (by decide) h)
  2 0 (s₀.heap.push { cls:=.type "range_iterator",data:=.fields #[rawInt 0,rawInt (gJ 0 2 1),rawInt 1] }) (by simp) (bI _ rfl)
  (fun b hb q=>by
   simp at hb;exact absurd hb q)
 simpa using h
theorem zq6 (B:Bs W) (hP:PassesOwn (model W.pp W.w) A env E) {x:Nat} {nm:Str} {p np cp cpos pos:Pos} {kd} {body:List cI} {b:MSs} (hK:∀ x,env.kindOf x = K x)
  (hke:K ("range" : Str) = some .globalImplicit) (hx:vars[x]? = some nm)
  (hb:∀ X0,SS W env l A n vars X0 W0 s0 kp E (execs body env) (exs N cf pc b)) :
  SS W env l A n vars X0 W0 s0 kp E (exec (.For (.Name nm p) (.Call (.Name "range" np) [.Constant (.int 2) kd cp] [] cpos) body [] pos) env) (ex1 N cf pc (.forR x 2 b)):=by
 intro oa σ s f hn hE;simp only [zs0] at hn hE |-;refine wpAny_For ?_ (fun O=>rfl);refine eA rfl ((f.cx B []).name_b B (by rw [hK]; exact hke) mem_range (zik (.t _) rfl ?_) (by decide));refine cC (call_range_1 ?_);refine wpAny_pyIter_range (IsRange.new ..) (by decide) ?_;have g1:Gr W.P s { s with heap:=s.heap.push { cls:=.type "range",data:=.fields #[.int 0 (s.toks+1),.int 2 s.toks,.int 1 (s.toks+1+1)] },toks:=s.toks+1+1+1 }:=.push;have f1:=f.gr B g1;have itr:=zkn (W:=W) (X:=fun a=>X0 a \/ Lc env a \/ Ow oa σ a) (tg:=.Name nm p) (f1.tab B);refine codeAny_mono (zge (kp:=kp) B hP f1 (.push' (o:=_)) (fun b hb=>?_) itr (zh5 (p:=p) B hx (hb _)) hn hE) fun r s' h=>?_
 ·simp only [bR] at hb;subst hb;exact ⟨zan _,by rw [bI _ rfl]; rfl⟩
 ·cases r with
  | ok fl=>exact h.after (.gr g1)
  | error e=>exact h
end
noncomputable def excMro:List aD:=[.type "Exception",.type "BaseException",.type "object"]
noncomputable def ClsAt (W:Wd):Prop:=Ex17 fun bm N nm q bs hdct sn sub ab col dd k0 k1 k2 k3 k5 mN=>And4 (W.sB.heap.get? W.C = some (excClassObj nm q W.C N bs bm hdct sn sub ab col dd k0 k1 k2 k3 k5 "Exception.__new__")) (W.sB.heap.Ns N mN) (mN "__init__" = none) (OwnTail W.sB.heap excMro bm)
theorem zk2 {P:aN} {s s':aC} {bm tl:List aD} (t:IsTab s.heap P) (g:Gr P s s') (T:OwnTail s.heap bm tl):OwnTail s'.heap bm tl:=by
 induction T with
 | base=>exact .base
 | @own A c0 dd cd sl mA tl hA hN hni O ih =>
  exact .own (g.ext _ _ (zbl t hA rfl) hA) (zhf g hN (zaq t hN)) hni ih
section
variable {W:Wd} {cf:Nat->List V->R V} {env:Env} {l:List Env} {A:bA} {n:Nat} {vars:List Str} {X0 W0:aN->Prop} {s0 s s':aC} {oa oa1:Nat->aN} {σ σ1:List Slot} {E:aD->aC->Prop} {kp:List Nat}
 {N:Nat} {pc:V->V->List V->List V->R (V × List V × List V)} {K:Str->Option aY}
theorem zvp (B:Bs W) (hcf:CallOk W n cf) (hC:ClsAt W) {me:ME} {e:aL} {np cpos pos:Pos} (hK:∀ x,env.kindOf x = K x) (hc:chk (fns W.fs) me K (vars.map some) e = true)
  (hke:K ("MalformedPattern" : Str) = some .globalImplicit) :
  SS W env l A n vars X0 W0 s0 kp E (exec (.Raise (some (.Call (.Name "MalformedPattern" np) [e] [] cpos)) none pos) env) (ex1 N cf pc (.rse me)):=by
 refine SS.of fun oa σ s R0 hR f hn hE=>?_;have hs:starEach [e] env = [(false,eval e env)]:=zae hc;obtain ⟨bm,NN,nm,q,bs,hdct,sn,sub,ab,col,dd,k0,k1,k2,k3,k5,mN,hg,hns,hni,T⟩:=hC;have hne:W.C ≠ W.P:=zbl B.tab hg rfl;refine wpAny_Raise_call_subT (C:=W.C) (nm:=nm) (q:=q) (N:=NN) (bs:=bs) (bm:=bm) (hdct:=hdct) (sn:=sn) (sub:=sub) (ab:=ab) (col:=col) (dd:=dd) (k0:=k0) (k1:=k1) (k2:=k2) (k3:=k3) (k5:=k5)
  PySem.F.excBase_Exception (mN:=mN) (T.hasType PySem.F.excBase_Exception.hasBase) f.hh (by rw [hs]; rfl) hni ((f.cx B []).name_g B (by rw [hK]; exact hke) B.cls.1 ⟨rfl,?_⟩ (by decide))
 rw [hs];refine Calls.evalArgs_plain (dJ ?_);refine f.exprR B hcf hK hc (x0_rse.symm.trans hR) hn hE fun d v s1 hR g r=>Calls.spliced_nil ?_;obtain ⟨hfl,hR⟩:=zg0 hR hn;have f1:=f.gr B g;refine ⟨rfl,?_,f1.base.ext _ _ hne hg,zhf f1.base hns (zaq B.tab hns),zk2 B.tab f1.base T,fun h' e hm=>?_⟩
 ·show 1 <= sizeLine;rw [cO]; omega
 ·exact (hE hR.symm).made s1 h' e _ f1.g f1.fr (f1.tab B) hm
end
section
variable {W:Wd} {cf:Nat->List V->R V} {env:Env} {l:List Env} {A:bA} {n:Nat} {vars:List Str} {X0 W0:aN->Prop} {s0 s s':aC} {oa oa1:Nat->aN} {σ σ1:List Slot} {E:aD->aC->Prop} {kp:List Nat}
 {N:Nat} {pc:V->V->List V->List V->R (V × List V × List V)} {K:Str->Option aY}
theorem zsg (B:Bs W) (hcf:CallOk W n cf) {elt iter:ME} {k:Nat} {cond:MEs} {e:aL} {x:Nat} {nm:Str} {p pos:Pos} (hK:∀ x,env.kindOf x = K x) (hc:chk (fns W.fs) (.lc elt k iter cond) K (vars.map some) e = true) (hx:vars[x]? = some nm)
  (hs:swapsWith e (some (.Name nm p)) pos.line env = pure true) :
  SS W env l A n vars X0 W0 s0 kp E (exec (.Assign [.Name nm p] e pos) env) (ex1 N cf pc (.asgl x elt k iter cond)):=by
 refine SS.of fun oa σ s R0 hR f hn hE=>?_;replace hR:=x0_asgl.symm.trans hR;rw [exec_Assign_Name_used _ _ _ _ hs];refine aF (eY (aF ?_));generalize his:nms (.lc elt k iter cond) = is at hR;apply zew hc;clear hc;intro ee gens sc cpos hc;apply zah hc;clear hc;intro g hc;apply zc7 hc;clear hc;intro tgt it ifs hc
 ·skip
  ·skip
   replace hc:=zac hc;obtain ⟨h1,h2,h3⟩:=hc;replace h3:=zar h3;obtain ⟨xs,hxs,h3⟩:=h3
   ·skip
    replace h3:=za9 h3;obtain ⟨h4,h5,h6,h7⟩:=h3
    try simp only [bS,beq_iff_eq,decide_eq_true_eq] at h4 h5 h6 h7
    have hcx:=f.cx B is;show wpAny _ _ (comprehension (.ListComp ee [⟨tgt,it,ifs,0⟩] sc cpos) sc env (firstIterPos [⟨tgt,it,ifs,0⟩] cpos) (newList []) false (eval it env) (some (assign (.Name nm p) env)) >>= fun O=>_) _ _ _;refine aF (zqc B (zab B hcf elt).1 (zab B hcf iter).1 (za4 B hcf cond).2 (X:=Xe env X0 oa σ is) h2 h6 h7 hxs h4 h5 h1 hK hcx (f.evv B is) (fun q=>hn (hR.symm.trans (zka q))) (fun q e s' x=>(hE (hR.symm.trans (zki q))).fly e s' (f.exc x)) ?_);intro s1 ys vs C D m hev g hC hD hCD hpl rl hns hlen;replace hR:=(zgd hev).symm.trans hR;have hCl:(s1.heap.get? C).isSome = true:=Ns.live hns;have hDl:(s1.heap.get? D).isSome = true:=by obtain ⟨nn,e⟩:=hpl; rw [e]; rfl
    have hne:∀ {a b:aN},(s.heap.get? b).isSome = true->s.heap.get? a = none->b ≠ a:=fun hb ha q=>by rw [q,ha] at hb; cases hb
    have f1:=(f.addX B g hC hCl).fzs is;have hav:∀ a,((X0 a \/ a = C) \/ Lc env a \/ Ow oa (fzs is σ) a)->(Xe env X0 oa σ is a \/ a = C \/ a = D):=fun a q=>by
     rcases q with (q | q) | q | q
     ·exact .inl (.inl q)
     ·exact .inr (.inl q)
     ·exact .inl (.inr (.inl q))
     ·exact .inl (.inr (.inr q))
    have r1:Rep (fun a=>(X0 a \/ a = C) \/ Lc env a \/ Ow oa (fzs is σ) a) s1.heap (.lst ys) (.ref D):=by
     refine ⟨D,vs,rfl,fun q=>?_,hpl.isList,rl.mono hav fun b o O e=>e⟩;rcases q with (q | q) | q | q
     ·exact hne (f.x0 D q) hD rfl
     ·exact hCD q.symm
     ·exact hne (f.ll D q) hD rfl
     ·exact hne (hcx.xok D (.inr (.inr q))) hD rfl
    show wpAny _ _ (assign (.Name nm p) env (.ref D)) _ _ _;refine dL (f1.store B hx r1 fun s2 f2 g2=>?_);have hCL:¬ Lc env C:=fun q=>hne (f.ll C q) hC rfl;obtain ⟨o0,hC0⟩:=aH.mp hCl;refine ⟨m,hns.at' fun o e=>g2.ext C o hCL e,fun h' hs'=>?_⟩;have hPC:W.P ≠ C:=hne (by obtain ⟨ps,e⟩:=f.tab B; rw [e]; rfl) hC;have fzeq:fz is (.lst ys) σ = fzs is σ:=by unfold fz; rw [if_neg (by simp [flat])]
    rw [fzeq] at hR;refine aV (aV (hR ▸ ⟨oa,f2.but (s':={ s2 with heap:=h' }) (Z:=(fun O=>O = C)) (fun a (ha:a = C)=>?_) (fun b o (hb:b ≠ C) e=>(hs'.2 b hb).trans e) rfl id (fun a ha=>.inl ha) f.xp (fun a ha=>?_),?_⟩))
    ·clear hC0 rl hCl f1 r1 hav hCD hns hs' f2;subst ha;exact ⟨.inr rfl,hCL,fun q=>hPC q.symm,f.g.dead hC,fun q=>by
      obtain ⟨_,o,ho,_⟩:=f.fr.mem q;exact hne (by rw [ho]; rfl) hC rfl⟩
    ·have hl2:=f2.x0 a (.inl ha);show (h'.get? a).isSome = true;rw [hs'.2 a (hne (f.x0 a ha) hC)];exact hl2
    ·have st0:St W env kp oa σ s oa ((fzs is σ).set x (some (false,.lst ys))) s2:=(St.gr g).trans (St.fzs.trans (St.lc g2 fun a q=>zfi q));refine ⟨⟨fun b o hb e=>(hs'.2 b (hne (by rw [e]; rfl) hC)).trans (st0.g.ext b o hb e),fun b hb=>?_,fun t=>?_,st0.g.os,st0.g.gens⟩,st0.o,st0.k⟩
     ·show (h'.get? b).isSome = true;rw [hs'.2 b (hne hb hC)];exact st0.g.live b hb
     ·obtain ⟨ps,e⟩:=st0.g.tab t;exact ⟨ps,(hs'.2 _ hPC).trans e⟩
end
noncomputable def PosOk (W:Wd) (n pi:Nat) (pc:V->V->List V->List V->R (V × List V × List V)):Prop :=
 ∀ (d1 d2:V) (lm lc:List V) (v1 v2:aD) (vm vc:List aD) (am ac:aN) (A:bA) (X:aN->Prop) (s:aC) (l:List Env) (Q:aD->aC->Prop) (E:aD->aC->Prop),A.handled = none->A.depth+n < 1000->A.units+3 * n <= 9000 ->
  A.frames = some l->s.heap.FunFrames hp0 l->Gr W.P W.sB s->XOk X s.heap->X W.P->(∀ a,X a->a = W.P \/ W.sB.heap.get? a = none)->flat d1 = true->flat d2 = true->Rep X s.heap d1 v1->Rep X s.heap d2 v2 ->
  am ≠ ac->X am->X ac->am ≠ W.P->ac ≠ W.P->s.heap.PlainList am (aQ vm)->s.heap.PlainList ac (aQ vc)->RepL X s.heap lm vm->RepL X s.heap lc vc->pc d1 d2 lm lc ≠ .st ->
  (∀ d lm' lc' v vm' vc' s',pc d1 d2 lm lc = .ok (d,lm',lc')->GrX W.P (fun a=>a = W.P \/ a = am \/ a = ac) s s'->Rep X s'.heap d v->s'.heap.PlainList am (aQ vm')->s'.heap.PlainList ac (aQ vc')->RepL X s'.heap lm' vm'->RepL X s'.heap lc' vc'->Q v s') ->
  (∀ e s',pc d1 d2 lm lc = .ex->Exc W (fun a=>a = W.P \/ a = am \/ a = ac) l s e s'->E e s') ->
  wpAny (model W.pp W.w) A (call (.ref (W.fa pi)) [v1,v2,.ref am,.ref ac]) Q E s
section
variable {W:Wd} {cf:Nat->List V->R V} {env:Env} {l:List Env} {A:bA} {n:Nat} {vars:List Str} {X0 W0:aN->Prop} {s0 s s':aC} {oa oa1:Nat->aN} {σ σ1:List Slot} {E:aD->aC->Prop} {kp:List Nat}
 {N:Nat} {pc:V->V->List V->List V->R (V × List V × List V)} {K:Str->Option aY}
theorem zd0 {h h' Bh:cZ} (hk:∀ b o,h.get? b = some o->(∀ vs,o.data ≠ .fields vs)->∃ o',h'.get? b = some o'/\∀ vs,o'.data ≠ .fields vs) {l:List Env} (f:h.FunFrames Bh l):h'.FunFrames Bh l :=
 zhy (fun L o O hn ho hd=>⟨hn,hk L o ho hd⟩) f
theorem Fm.write2 (f:Fm W env l A n vars X0 W0 s0 oa σ s) (B:Bs W) {m c:Nat} {lm lc lm' lc':List V} {vm vc:List aD} (hm:σ[m]? = some (some (true,.lst lm))) (hc:σ[c]? = some (some (true,.lst lc))) (hmc:m ≠ c)
  (g:GrX W.P (fun a=>a = W.P \/ a = oa m \/ a = oa c) s s') (hp1:s'.heap.PlainList (oa m) (aQ vm)) (hp2:s'.heap.PlainList (oa c) (aQ vc))
  (r1:RepL (fun a=>X0 a \/ Lc env a \/ Ow oa σ a) s'.heap lm' vm) (r2:RepL (fun a=>X0 a \/ Lc env a \/ Ow oa σ a) s'.heap lc' vc) :
  Fm W env l A n vars X0 W0 s0 oa ((σ.set m (some (true,.lst lm'))).set c (some (true,.lst lc'))) s'/\St W env kp oa σ s oa ((σ.set m (some (true,.lst lm'))).set c (some (true,.lst lc'))) s' /\
   (∀ a,Ow oa ((σ.set m (some (true,.lst lm'))).set c (some (true,.lst lc'))) a->Ow oa σ a):=by
 have hml:=zav hm;have hcl:=zav hc;refine byC fun hG=>?_;obtain ⟨m1,m2,m3,m4⟩:=f.own m _ hm;obtain ⟨c1,c2,c3,c4⟩:=f.own c _ hc;have hmP:=f.ownP B hm;have hcP:=f.ownP B hc;have hOm:Ow oa σ (oa m):=⟨m,_,hm,rfl⟩;have hOc:Ow oa σ (oa c):=⟨c,_,hc,rfl⟩;have hownset:∀ (i:Nat) (di:V),((σ.set m (some (true,.lst lm'))).set c (some (true,.lst lc')))[i]? = some (some (true,di))->∃ di',σ[i]? = some (some (true,di')):=fun i di h=>by
  by_cases q:c = i
  ·clear h;subst q; exact ⟨_,hc⟩
  ·rw [zaf q] at h
   by_cases q:m = i
   ·subst q; exact ⟨_,hm⟩
   ·rw [zaf q] at h; exact ⟨di,h⟩
 have hOw:∀ a,Ow oa ((σ.set m (some (true,.lst lm'))).set c (some (true,.lst lc'))) a->Ow oa σ a:=fun a ⟨i,di,h1,h2⟩=>by
  obtain ⟨di',h3⟩:=hownset i di h1;exact ⟨i,di',h3,h2⟩
 have hAv:∀ b,(X0 b \/ Lc env b \/ Ow oa ((σ.set m (some (true,.lst lm'))).set c (some (true,.lst lc'))) b)->(X0 b \/ Lc env b \/ Ow oa σ b):=fun b hb=>hb.imp id (Or.imp id (hOw b));have hk:∀ b o,¬ (X0 b \/ Lc env b \/ Ow oa σ b)->s.heap.get? b = some o->s'.heap.get? b = some o:=fun b o hb e=>g.ext b o (fun q=>by
  rcases q with q | q | q
  ·exact hb (.inl (q ▸ f.xp))
  ·exact hb (.inr (.inr (q ▸ hOm)))
  ·exact hb (.inr (.inr (q ▸ hOc)))) e
 have hkL:∀ b,Lc env b->∀ o,s.heap.get? b = some o->s'.heap.get? b = some o:=fun b hb o e=>g.ext b o (fun q=>by
  rcases q with q | q | q
  ·exact f.neP B hb q
  ·exact m1 (q ▸ hb)
  ·exact c1 (q ▸ hb)) e
 refine hG ?_;clear hG;refine ⟨{ f with
  fr:=zd0 (fun b o e hd=>?_) f.fr
  base:=f.base.andX g fun b hb=>?_
  len:=by rw [fI,fI]; exact f.len
  g:=f.g.trans' g fun b hb=>?_
  ll:=fun b hb=>g.live b (f.ll b hb)
  ns:=by obtain ⟨mm,hmm⟩:=f.ns; exact ⟨mm,hmm.at' fun o e=>hkL _ (.inl rfl) o e⟩
  x0:=fun b hb=>g.live b (f.x0 b hb)
  inj:=fun i j di dj h1 h2=>by
   refine byC fun hG=>?_;obtain ⟨_,h3⟩:=hownset i di h1;obtain ⟨_,h4⟩:=hownset j dj h2;refine hG ?_;exact f.inj i j _ _ h3 h4
  own:=fun i di h=>by
   obtain ⟨di',h3⟩:=hownset i di h;exact f.own i di' h3
  val:=fun i y sl hy hsl=>?_ },⟨g.mono fun b hb=>?_,fun a q=>.inl (hOw a q),fun O O=>rfl⟩,hOw⟩
 ·by_cases q1:b = oa m
  ·obtain ⟨nn,e'⟩:=hp1;exact ⟨_,q1 ▸ e',fun vs q=>by cases q⟩
  ·by_cases q2:b = oa c
   ·obtain ⟨nn,e'⟩:=hp2;exact ⟨_,q2 ▸ e',fun vs q=>by cases q⟩
   ·refine ⟨o,g.ext b o (fun q=>?_) e,hd⟩;rcases q with q | q | q
    ·obtain ⟨ps,e9⟩:=f.tab B;rw [q,e9] at e
     cases e
     exact hd _ rfl
    ·exact q1 q
    ·exact q2 q
 ·rcases hb with q | q | q
  ·exact .inl q
  ·exact .inr (q ▸ m4)
  ·exact .inr (q ▸ c4)
 ·rcases hb with q | q | q
  ·exact .inl (q ▸ f.wp)
  ·exact q ▸ m3
  ·exact q ▸ c3
 ·by_cases q:c = i
  ·subst q;rw [zau (by rw [fI]; exact hcl)] at hsl
   cases hsl
   refine byC fun hG=>?_;obtain ⟨vs0,_,_,hb⟩:=f.ownAt hy hc;refine hG ?_;exact ⟨_,hb.keep hkL,vc,rfl,hp2,r2.mono hAv fun b o O e=>e⟩
  ·rw [zaf q] at hsl
   by_cases q':m = i
   ·subst q';rw [zau hml] at hsl
    cases hsl
    refine byC fun hG=>?_;obtain ⟨vs0,_,_,hb⟩:=f.ownAt hy hm;refine hG ?_;exact ⟨_,hb.keep hkL,vm,rfl,hp1,r1.mono hAv fun b o O e=>e⟩
   ·rw [zaf q'] at hsl;refine byC fun hG=>?_;obtain ⟨ov,hby,qq⟩:=f.val i y sl hy hsl;refine hG ?_;clear hG;refine ⟨ov,hby.keep hkL,qq.mono hAv hk fun dd e o z=>g.ext _ o (fun w=>?_) z⟩;clear qq;subst e;rcases w with w | w | w
    ·exact f.ownP B hsl w
    ·exact q' (f.inj m i _ _ hm hsl w.symm)
    ·exact q (f.inj c i _ _ hc hsl w.symm)
 ·rcases hb with q | q | q
  ·exact .inl q
  ·exact .inr (.inr (q ▸ hOm))
  ·exact .inr (.inr (q ▸ hOc))
theorem zo5 {r:R (V × List V × List V)} {g:V->V->List V->List V->F} {R0:F} (h:(match r with
   | .ok (.tup [r1,r2],lm',lc')=>g r1 r2 lm' lc'
   | .ok O=>.st
   | .ex=>.ex
   | .st=>.st) = R0) (hn:R0 ≠ .st):And3 (r = .ex->R0 = .ex) (r ≠ .st) (∀ d lm' lc',r = .ok (d,lm',lc')->Ex2 fun r1 r2=>d = .tup [r1,r2]/\R0 = g r1 r2 lm' lc'):=by
 subst h;refine ⟨fun h=>by subst h; rfl,fun h=>hn (by subst h; rfl),fun d lm' lc' h=>?_⟩;subst h
 cases d with
 | tup l=>rcases l with _ | ⟨r1,_ | ⟨r2,_ | ⟨_,_⟩⟩⟩ <;> first | exact absurd rfl hn | exact ⟨r1,r2,rfl,rfl⟩
 | _=>exact absurd rfl hn
theorem zv2 (B:Bs W) (hcf:CallOk W n cf) {pi:Nat} {pd:MFun} (hpd:W.fs[pi]? = some pd) (hpc:PosOk W n pi pc) {a1 a2:ME} {e1 e2:aL} {x y m c:Nat} {nm nc:Str} {ns:List Str} {elts:List aL} {k} {tp np p1 p2 cpos pos:Pos} (hK:∀ x,env.kindOf x = K x)
  (h1:chk (fns W.fs) a1 K (vars.map some) e1 = true) (h2:chk (fns W.fs) a2 K (vars.map some) e2 = true) (hke:K (pd.name:Str) = some .globalImplicit) (hde:((pd.name:Str) == ("__debug__" : Str)) = false) (hm:vars[m]? = some nm) (hc:vars[c]? = some nc) (hdm:(nm == ("__debug__" : Str)) = false) (hdc:(nc == ("__debug__" : Str)) = false)
  (hxy:elts.mapM nameOf = some ns) (hxs:[x,y].mapM (fun i=>vars[i]?) = some ns) :
  SS W env l A n vars X0 W0 s0 kp E (exec (.Assign [.Tuple elts k tp] (.Call (.Name pd.name np) [e1,e2,.Name nm p1,.Name nc p2] [] cpos) pos) env) (ex1 N cf pc (.psx x y a1 a2 m c)):=by
 refine SS.of fun oa σ s R0 hR f hn hE=>?_;have hse:starEach [e1,e2,.Name nm p1,.Name nc p2] env = [(false,eval e1 env),(false,eval e2 env),(false,eval (.Name nm p1) env),(false,eval (.Name nc p2) env)]:=by
  rw [zae h1,zae h2]; rfl
 refine Assign_Tuple ?_ zch (zdq rfl);refine byC fun hG=>?_;obtain ⟨hmg,o,q,ho,hd⟩:=(f.cx B []).fobj B hpd;refine hG ?_;clear hG;refine eA rfl ((f.cx B []).name_g B (by rw [hK]; exact hke) hmg ?_ hde);have hneP:W.fa pi ≠ W.P:=zbl (f.tab B) ho (by rw [hd]; rfl);rw [hse];refine Calls.callWith_function (o:=o) (fd:=q) (Calls.evalArgs_plain (dJ ?_));refine f.exprR B hcf hK h1 hR hn hE fun d1 v1 s1 hR g1 r1=>?_;have f1:=f.gr B g1;refine dJ (f1.exprR B hcf hK h2 hR hn hE fun d2 v2 s2 hR g2 r2=>?_);have f2:=f1.gr B g2;refine eO fun hG=>?_;refine byC fun hG=>?_;obtain ⟨hq,hR⟩:=zg0 hR hn;obtain ⟨lm,lc,hom,hoc,hR⟩:=zpr hR hn;obtain ⟨hex,hst,hok⟩:=zo5 hR hn;clear hR;obtain ⟨q1,q2,q3⟩:And3 (flat d1 = true) (flat d2 = true) (m ≠ c):=⟨(zaa (zaa (zaa (zaa (zaa (zaa hq).1).1).1).1).1).1,(zaa (zaa (zaa (zaa (zaa (zaa hq).1).1).1).1).1).2,bne_iff_ne.mp (zaa (zaa (zaa (zaa (zaa hq).1).1).1).1).2⟩;have sm:=zbn hom;have sc:=zbn hoc;obtain ⟨vm,pm,rm,bm⟩:=f2.ownAt hm sm;obtain ⟨vc,pcl,rc,bc⟩:=f2.ownAt hc sc;refine hG ?_;clear hG;refine hG ?_;clear hG;refine dJ (dR (bm.load f2.ek ?_) hdm);refine dJ (dR (bc.load f2.ek ?_) hdc);refine Calls.spliced_nil ⟨⟨(f.base.trans (g1.trans g2)).ext _ _ hneP ?_ ,hd⟩,?_⟩
 ·refine byC fun hG=>?_;obtain ⟨_,o2,q2',ho2,hd2⟩:=B.fn pi pd hpd;refine hG ?_;clear hG;rw [bN (ho.symm.trans (f.base.ext _ o2 hneP ho2))];exact ho2
 refine hpc d1 d2 lm lc v1 v2 vm vc (oa m) (oa c) A (fun a=>X0 a \/ Lc env a \/ Ow oa σ a) s2 l _ E f2.hh f2.dep f2.un f2.st f2.fr f2.base f2.xok (.inl f2.xp) f2.xbAv q1 q2 (r1.flat q1) (r2.flat q2)
  (fun z=>q3 (f2.inj m c _ _ sm sc z)) (.inr (.inr ⟨m,_,sm,rfl⟩)) (.inr (.inr ⟨c,_,sc,rfl⟩)) (f2.ownP B sm) (f2.ownP B sc) pm pcl rm rc hst ?_ ?_
 ·intro d lm' lc' v vm' vc' s3 hr g3 rv pm' pc' rm' rc';refine byC fun hG=>?_;obtain ⟨f3,st3,hOw⟩:=f2.write2 (kp:=kp) B sm sc q3 g3 pm' pc' rm' rc';obtain ⟨_,_,e1,e2⟩:=hok d lm' lc' hr;rw [e1] at rv;refine hG ?_;clear hG;rw [e2];refine f3.unpackTo (kp:=kp) (ds:=[_,_]) B hxy hxs rfl (rv.mono (fun a q=>q.imp id (Or.imp id (hOw a))) fun b o O e=>e) fun s4 f4 st4=>?_;exact ⟨oa,f4,((St.gr g1).trans (.gr g2)).trans (st3.trans st4)⟩
 ·intro e s3 hr hx;refine (hE (hex hr)).fly e s3 (hx.back f2.g fun b hb=>?_);rcases hb with q | q | q
  ·exact .inl (q ▸ f2.wp)
  ·exact q ▸ (f2.own m _ sm).2.2.1
  ·exact q ▸ (f2.own c _ sc).2.2.1
end
section
variable {W:Wd} {cf:Nat->List V->R V} {env:Env} {l:List Env} {A:bA} {n:Nat} {vars:List Str} {X0 W0:aN->Prop} {s0 s s':aC} {oa oa1:Nat->aN} {σ σ1:List Slot} {E:aD->aC->Prop} {kp:List Nat}
 {N:Nat} {pc:V->V->List V->List V->R (V × List V × List V)} {K:Str->Option aY}
theorem zjt {p:Pos}:wpAny (model W.pp W.w) A (eval (.List [] p) env) (fun v s'=>∃ a,And4 (v = .ref a) (Gr W.P s s') (s.heap.get? a = none) (s'.heap.PlainList a (aQ []))) E s :=
 wpAny_List_spliced (Calls.spliced_nil ⟨Nat.zero_le _,_,rfl,.push',zan _,⟨0,bI _ rfl⟩⟩)
theorem zpn (B:Bs W) {x y z:Nat} {nx ny nz:Str} {elts:List aL} {k k'} {p1 p2 p3 tp vp pos:Pos} {kc} (hK:∀ x,env.kindOf x = K x)
  (hm:elts.mapM nameOf = some [nx,ny,nz]) (hx:vars[x]? = some nx) (hy:vars[y]? = some ny) (hz:vars[z]? = some nz) (hxy:x ≠ y) (hxz:x ≠ z) (hyz:y ≠ z)
  (hkp:kp.contains x = false) (hkp2:kp.contains y = false) (hsw:swOk K elts [nx,ny,nz] [.List [] p1,.List [] p2,.Constant (.bytes []) kc p3] = true) :
  SS W env l A n vars X0 W0 s0 kp E (exec (.Assign [.Tuple elts k tp] (.Tuple [.List [] p1,.List [] p2,.Constant (.bytes []) kc p3] k' vp) pos) env) (ex1 N cf pc (.init3 x y z)):=by
 intro oa σ s f hn hE;simp only [zoz] at hn hE |-;refine Assign_Tuple_swapped (names:=[nx,ny,nz]) ?_ zch (zdr f.ek hK rfl hsw);refine wpAny_Tuple_spliced ?_;show wpAny _ _ (spliced [(false,eval (.List [] p1) env),(false,eval (.List [] p2) env),(false,eval (.Constant (.bytes []) kc p3) env)]) _ _ _;refine dJ (aG zjt (fun v1 s1 ⟨a1,e1,g1,d1,l1⟩=>?_) fun O O x=>x);refine dJ (aG zjt (fun v2 s2 ⟨a2,e2,g2,d2,l2⟩=>?_) fun O O x=>x);subst e1 e2;have lv1:(s1.heap.get? a1).isSome = true:=by obtain ⟨nn,e⟩:=l1; rw [e]; rfl
 have lv2:(s2.heap.get? a2).isSome = true:=by obtain ⟨nn,e⟩:=l2; rw [e]; rfl
 have hne:∀ {h:cZ} {a b:aN},(h.get? b).isSome = true->h.get? a = none->b ≠ a:=fun hb ha q=>by rw [q,ha] at hb; cases hb
 have ha12:a1 ≠ a2:=hne lv1 d2;have a1P:a1 ≠ W.P:=fun q=>by obtain ⟨ps,e⟩:=f.tab B; rw [<- q,d1] at e; cases e
 have f1:=f.addX B g1 d1 lv1;have f2:=f1.addX B g2 d2 lv2;have l12:s2.heap.PlainList a1 (aQ []):=l1.at fun o e=>g2.ext a1 o a1P e;refine dJ (wpAny_mkTextBytes (Calls.spliced_nil ⟨by show 3 <= sizeLine; rw [cO]; omega,?_⟩));generalize hs3:({ s2 with toks:=s2.toks+1 }:aC) = s3;have g3:Gr W.P s2 s3:=hs3 ▸ .toks;have hT:IsTup ({ s3 with heap:=s3.heap.push { cls:=.type "tuple",data:=.seq (aQ [.ref a1,.ref a2,.bytes (aQ []) s2.toks]) } }:aC).heap s3.heap.objs.size (aQ [.ref a1,.ref a2,.bytes (aQ []) s2.toks]) :=
  ⟨_,bI _ rfl,rfl,_,rfl⟩
 refine unpackItems_tuple (items:=aQ [.ref a1,.ref a2,.bytes (aQ []) s2.toks]) f.hh hT fun h5 he5=>?_;have k5:∀ b o,s3.heap.get? b = some o->h5.get? b = some o:=fun b o e=>by
  have e':=bG { cls:=.type "tuple",data:=.seq (aQ [.ref a1,.ref a2,.bytes (aQ []) s2.toks]) } e;exact he5 b o (fF (bW e')) e'
 have g5:Gr W.P s2 { s3 with heap:=h5 }:=g3.trans (.keep (k:=s3.toks) k5);have f5:=f2.gr B g5;generalize hs5:({ s3 with heap:=h5 }:aC) = s5 at f5 g5;have a2P:a2 ≠ W.P:=fun q=>by obtain ⟨ps,e⟩:=f1.tab B; rw [<- q,d2] at e; cases e
 have l15:s5.heap.PlainList a1 (aQ []):=l12.at fun o e=>g5.ext a1 o a1P e;have l25:s5.heap.PlainList a2 (aQ []):=l2.at fun o e=>g5.ext a2 o a2P e;show wpAny _ _ (assignInOrder [fun v=>bindName env nz v,fun v=>bindName env ny v,fun v=>bindName env nx v] [.bytes (aQ []) s2.toks,.ref a2,.ref a1]) _ _ _;have lcn1:¬ Lc env a1:=fun q=>hne (f.ll _ q) d1 rfl;have lcn2:¬ Lc env a2:=fun q=>hne (f1.ll _ q) d2 rfl;show wpAny _ _ (holding _ _ >>= fun O=>_) _ _ _;refine aF (dH (wpAny_bindName (f5.store B hz (d:=.bytes []) ⟨fun O q=>(nomatch q),s2.toks,rfl⟩ fun s6 f6 g6=>?_)));show wpAny _ _ (holding _ _ >>= fun O=>_) _ _ _;refine aF (dH (wpAny_bindName (f6.storeOwn (dl:=[]) (vs:=[]) B (fun q=>?_) lcn2 f1.xp (f1.g.dead d2) (f1.base.dead d2) hy (l25.at fun o e=>g6.ext a2 o lcn2 e) rfl fun s7 f7 g7=>?_)))
 ·exact q.elim (fun q=>hne (f1.x0 a2 (.inl q)) d2 rfl) fun q=>ha12 q.symm
 show wpAny _ _ (holding _ _ >>= fun O=>_) _ _ _;refine aF (dH (wpAny_bindName (f7.storeOwn (dl:=[]) (vs:=[]) B (fun q=>hne (f.x0 _ q) d1 rfl) lcn1 f.xp (f.g.dead d1) (f.base.dead d1) hx ((l15.at fun o e=>g6.ext a1 o lcn1 e).at fun o e=>g7.ext a1 o lcn1 e) rfl fun s8 f8 g8=>?_)));have eσ:(((σ.set z (some (false,.bytes []))).set y (some (true,.lst []))).set x (some (true,.lst []))) = ((σ.set x (some (true,.lst []))).set y (some (true,.lst []))).set z (some (false,.bytes [])):=by
  rw [List.set_comm (i:=z) (j:=y) _ _ hyz.symm,List.set_comm (i:=z) (j:=x) _ _ hxz.symm,List.set_comm (i:=y) (j:=x) _ _ hxy.symm]
 rw [eσ] at f8;refine aV ⟨_,f8,?_⟩;refine ⟨?_,fun a q=>?_,fun i hi=>?_⟩
 ·have h1:GrX W.P (Lc env) s5 s8:=(g6.trans g7).trans g8;have h2:GrX W.P (fun a=>a = W.P \/ Lc env a \/ Ow oa σ a) s s5:=.of ((g1.trans g2).trans g5) (.inl rfl);exact h2.trans (h1.mono fun b q=>.inr (.inl q))
 ·rw [<- eσ] at q;rcases zjk q with q | q
  ·exact .inr (q ▸ d1)
  ·rcases zjk q with q | q
   ·exact .inr (q ▸ g1.dead d2)
   ·exact .inl (zfi q)
 ·have hix:i ≠ x:=fun q=>by
   rw [<- q,fN.mpr hi] at hkp
   cases hkp
  have hiy:i ≠ y:=fun q=>by
   rw [<- q,fN.mpr hi] at hkp2
   cases hkp2
  unfold upd;rw [if_neg hix,if_neg hiy]
end
noncomputable def swB (K:Str->Option aY) (e:aL) (t:Str) (pos:Pos):Bool:=((vwE e).tag == 16 || (vwE e).tag == 17) && (K t == some .local && pos.line == (vwE e).w1.line && !((vwE e).w18.names.any fun (n,k)=>n == t && (k == .local || k == .cell)))
theorem zl2 {K:Str->Option aY} {e:aL} {t:Str} {pos:Pos} {ln:Nat} {env:Env} (ek:env.scope.kind = .function) (hK:∀ x,env.kindOf x = K x):swapsWith e (some (.Name t pos)) ln env = pure (swB K e t pos):=by
 have hb:env.blockKind = .function:=by unfold Env.blockKind; rw [ek]; rfl
 cases e <;> first | rfl | (unfold swapsWith swB; simp only [pure_bind,hb,hK]; rfl)
theorem zvg {o i e:aL} {sp:Pos} {ln:Nat} {env:Env}:swapsWith e (some (.Subscript o i sp)) ln env = pure false:=by cases e <;> rfl
noncomputable def noStar (vs:List aL):Bool:=vs.any isSt == false
noncomputable def isL0 (e:aL):Bool:=onLst e fun es=>es.isEmpty
theorem zji {e:aL} (h:isL0 e = true):∃ p,e = .List [] p:=by
 replace h:=zha h;obtain ⟨es,p,rfl,h⟩:=h;obtain rfl:=bZ.mp h;exact ⟨p,rfl⟩
noncomputable def namesAre (names:List Str) (xs:List Nat) (elts:List aL):Bool:=(elts.mapM nameOf).isSome && xs.mapM (fun i=>names[i]?) == elts.mapM nameOf
theorem zb2 {names:List Str} {xs:List Nat} {elts:List aL} (h:namesAre names xs elts = true):∃ ns,elts.mapM nameOf = some ns/\xs.mapM (fun i=>names[i]?) = some ns:=by
 obtain ⟨a,h1⟩:=aH.mp (zaa h).1;exact ⟨a,h1,(aR (zaa h).2).trans h1⟩
noncomputable def dbg:Str:=("__debug__" : Str)
noncomputable def psxOk (pn:String) (K:Str->Option aY) (vars:List Str) (x y m c:Nat) (fn nm nc:Str) (elts:List aL):Bool:=fn == (pn:Str) && K (pn:Str) == some .globalImplicit && !((pn:Str) == dbg) && namesAre vars [x,y] elts && vars[m]? == some nm && vars[c]? == some nc && !(nm == dbg) && !(nc == dbg)
noncomputable def i3Ok (K:Str->Option aY) (vars:List Str) (kp:List Nat) (x y z:Nat) (elts:List aL) (v1 v2 v3:aL):Bool:=isL0 v1 && isL0 v2 && isB0E v3 && (onSome vars[x]? fun nx=>onSome vars[y]? fun ny=>onSome vars[z]? fun nz=>elts.mapM nameOf == some [nx,ny,nz] && swOk K elts [nx,ny,nz] [v1,v2,v3]) &&
   x != y && x != z && y != z && !kp.contains x && !kp.contains y
mutual
noncomputable def chkS (fs:List String) (pn:String) (K:Str->Option aY) (vars:List Str) (kp:List Nat):MS->cI->Bool
 | .asg x me,st=>onAssign st fun ts e O=>on1 ts fun t=>onNameP t fun nm p=>vars[x]? == some nm && chk fs me K (vars.map some) e && !(fresh me && kp.contains x) && !swB K e nm p
 | .asgl x elt k iter cond,st=>onAssign st fun ts e O=>on1 ts fun t=>onNameP t fun nm p=>vars[x]? == some nm && chk fs (.lc elt k iter cond) K (vars.map some) e && swB K e nm p
 | .unp xs me,st=>onAssign st fun ts e O=>on1 ts fun t=>onTup t fun elts=>namesAre vars xs elts && chk fs me K (vars.map some) e && (!isTupE e || decide xs.Nodup && noStar (vwE e).w10 && onSome (elts.mapM nameOf) fun ns=>swOk K elts ns (vwE e).w10)
 | .asg2 x y me,st=>onAssign st fun ts e O=>on2 ts fun t u=>onName t fun nx=>onName u fun ny=>vars[x]? == some nx && vars[y]? == some ny && chk fs me K (vars.map some) e
 | .last x me,st=>onAssign st fun ts e O=>on1 ts fun t=>onSub t fun o ie=>onName o fun nm=>vars[x]? == some nm && !(nm == dbg) && chkC (.int (-1)) ie && chk fs me K (vars.map some) e
 | .aug x me,st=>onAug st fun t op e=>op == .Add && onName t fun nm=>vars[x]? == some nm && chk fs me K (vars.map some) e
 | .ite c a b,st=>onIfS st fun ce ba bb=>chk fs c K (vars.map some) ce && chkSs fs pn K vars kp a ba && chkSs fs pn K vars kp b bb
 | .whl c b,st=>onWhile st fun ce body els=>els.isEmpty && chk fs c K (vars.map some) ce && chkSs fs pn K vars kp b body
 | .for1 x me b,st=>onFor st fun t e body els=>els.isEmpty && onName t fun nm=>vars[x]? == some nm && chk fs me K (vars.map some) e && chkSs fs pn K vars kp b body
 | .forT xs me b,st=>onFor st fun t e body els=>els.isEmpty && onTup t fun elts=>namesAre vars xs elts && chk fs me K (vars.map some) e && chkSs fs pn K vars kp b body
 | .forE x y me b,st=>onFor st fun t e0 body els=>els.isEmpty && onTup t fun elts=>onCallN e0 fun en args=>on1 args fun e=>en == ("enumerate" : Str) && K ("enumerate" : Str) == some .globalImplicit && namesAre vars [x,y] elts && chk fs me K (vars.map some) e && chkSs fs pn K vars kp b body
 | .forR x n b,st=>onFor st fun t e0 body els=>els.isEmpty && onName t fun nm=>onCallN e0 fun rn args=>on1 args fun e=>onConst e fun c=>n == 2 && decide (c = .int 2) && rn == ("range" : Str) && K ("range" : Str) == some .globalImplicit && vars[x]? == some nm && chkSs fs pn K vars kp b body
 | .ret me,st=>onRet st fun o=>onSome o fun e=>chk fs me K (vars.map some) e
 | .rse me,st=>onRaise st fun o c=>c.isNone && onSome o fun x=>onCallN x fun cn args=>on1 args fun e=>cn == ("MalformedPattern" : Str) && K ("MalformedPattern" : Str) == some .globalImplicit && chk fs me K (vars.map some) e
 | .app x me,st=>onExprS st fun x0=>onCallA x0 fun o at1 args=>onName o fun nm=>on1 args fun e=>at1 == ("append" : Str) && vars[x]? == some nm && !(nm == dbg) && chk fs me K (vars.map some) e
 | .brk,st=>onBrk st true
 | .cnt,st=>onCnt st true
 | .psx x y a1 a2 m c,st=>onAssign st fun ts e O=>on1 ts fun t=>onTup t fun elts=>onCallN e fun fn args=>on4 args fun e1 e2 n1 n2=>onName n1 fun nm=>onName n2 fun nc =>
   psxOk pn K vars x y m c fn nm nc elts && chk fs a1 K (vars.map some) e1 && chk fs a2 K (vars.map some) e2
 | .init3 x y z,st=>onAssign st fun ts e O=>on1 ts fun t=>onTup t fun elts=>onTup e fun vs=>on3 vs fun v1 v2 v3=>i3Ok K vars kp x y z elts v1 v2 v3
noncomputable def chkSs (fs:List String) (pn:String) (K:Str->Option aY) (vars:List Str) (kp:List Nat):MSs->List cI->Bool
 | .nil,l=>l.isEmpty
 | .cons m ms,l=>onCons l fun st r=>chkS fs pn K vars kp m st && chkSs fs pn K vars kp ms r
end
section
variable {fs:List String} {pn:String} {K:Str->Option aY} {vars:List Str} {kp:List Nat} {st:cI}
theorem zvl {x:Nat} {me:ME}:chkS fs pn K vars kp (.asg x me) st = (onAssign st fun ts e O=>on1 ts fun t=>onNameP t fun nm p=>vars[x]? == some nm && chk fs me K (vars.map some) e && !(fresh me && kp.contains x) && !swB K e nm p):=rfl
theorem zsc {x:Nat} {elt:ME} {k:Nat} {iter:ME} {cond:MEs}:chkS fs pn K vars kp (.asgl x elt k iter cond) st = (onAssign st fun ts e O=>on1 ts fun t=>onNameP t fun nm p=>vars[x]? == some nm && chk fs (.lc elt k iter cond) K (vars.map some) e && swB K e nm p):=rfl
theorem zvn {xs:List Nat} {me:ME}:chkS fs pn K vars kp (.unp xs me) st = (onAssign st fun ts e O=>on1 ts fun t=>onTup t fun elts=>namesAre vars xs elts && chk fs me K (vars.map some) e && (!isTupE e || decide xs.Nodup && noStar (vwE e).w10 && onSome (elts.mapM nameOf) fun ns=>swOk K elts ns (vwE e).w10)):=rfl
theorem zr3 {x y:Nat} {me:ME}:chkS fs pn K vars kp (.asg2 x y me) st = (onAssign st fun ts e O=>on2 ts fun t u=>onName t fun nx=>onName u fun ny=>vars[x]? == some nx && vars[y]? == some ny && chk fs me K (vars.map some) e):=rfl
theorem zsf {x:Nat} {me:ME}:chkS fs pn K vars kp (.last x me) st = (onAssign st fun ts e O=>on1 ts fun t=>onSub t fun o ie=>onName o fun nm=>vars[x]? == some nm && !(nm == dbg) && chkC (.int (-1)) ie && chk fs me K (vars.map some) e):=rfl
theorem zve {x:Nat} {me:ME}:chkS fs pn K vars kp (.aug x me) st = (onAug st fun t op e=>op == .Add && onName t fun nm=>vars[x]? == some nm && chk fs me K (vars.map some) e):=rfl
theorem ztu {c:ME} {a b:MSs}:chkS fs pn K vars kp (.ite c a b) st = (onIfS st fun ce ba bb=>chk fs c K (vars.map some) ce && chkSs fs pn K vars kp a ba && chkSs fs pn K vars kp b bb):=rfl
theorem zut {c:ME} {b:MSs}:chkS fs pn K vars kp (.whl c b) st = (onWhile st fun ce body els=>els.isEmpty && chk fs c K (vars.map some) ce && chkSs fs pn K vars kp b body):=rfl
theorem zqu {x:Nat} {me:ME} {b:MSs}:chkS fs pn K vars kp (.for1 x me b) st = (onFor st fun t e body els=>els.isEmpty && onName t fun nm=>vars[x]? == some nm && chk fs me K (vars.map some) e && chkSs fs pn K vars kp b body):=rfl
theorem zqz {xs:List Nat} {me:ME} {b:MSs}:chkS fs pn K vars kp (.forT xs me b) st = (onFor st fun t e body els=>els.isEmpty && onTup t fun elts=>namesAre vars xs elts && chk fs me K (vars.map some) e && chkSs fs pn K vars kp b body):=rfl
theorem zr7 {x y:Nat} {me:ME} {b:MSs}:chkS fs pn K vars kp (.forE x y me b) st = (onFor st fun t e0 body els=>els.isEmpty && onTup t fun elts=>onCallN e0 fun en args=>on1 args fun e=>en == ("enumerate" : Str) && K ("enumerate" : Str) == some .globalImplicit && namesAre vars [x,y] elts && chk fs me K (vars.map some) e && chkSs fs pn K vars kp b body):=rfl
theorem zrm {x:Nat} {n:Nat} {b:MSs}:chkS fs pn K vars kp (.forR x n b) st = (onFor st fun t e0 body els=>els.isEmpty && onName t fun nm=>onCallN e0 fun rn args=>on1 args fun e=>onConst e fun c=>n == 2 && decide (c = .int 2) && rn == ("range" : Str) && K ("range" : Str) == some .globalImplicit && vars[x]? == some nm && chkSs fs pn K vars kp b body):=rfl
theorem zul {me:ME}:chkS fs pn K vars kp (.ret me) st = (onRet st fun o=>onSome o fun e=>chk fs me K (vars.map some) e):=rfl
theorem zvz {me:ME}:chkS fs pn K vars kp (.rse me) st = (onRaise st fun o c=>c.isNone && onSome o fun x=>onCallN x fun cn args=>on1 args fun e=>cn == ("MalformedPattern" : Str) && K ("MalformedPattern" : Str) == some .globalImplicit && chk fs me K (vars.map some) e):=rfl
theorem zus {x:Nat} {me:ME}:chkS fs pn K vars kp (.app x me) st = (onExprS st fun x0=>onCallA x0 fun o at1 args=>onName o fun nm=>on1 args fun e=>at1 == ("append" : Str) && vars[x]? == some nm && !(nm == dbg) && chk fs me K (vars.map some) e):=rfl
theorem zum  : chkS fs pn K vars kp (.brk) st = (onBrk st true):=rfl
theorem zun  : chkS fs pn K vars kp (.cnt) st = (onCnt st true):=rfl
theorem zvc {x y:Nat} {a1 a2:ME} {m c:Nat}:chkS fs pn K vars kp (.psx x y a1 a2 m c) st = (onAssign st fun ts e O=>on1 ts fun t=>onTup t fun elts=>onCallN e fun fn args=>on4 args fun e1 e2 n1 n2=>onName n1 fun nm=>onName n2 fun nc =>
   psxOk pn K vars x y m c fn nm nc elts && chk fs a1 K (vars.map some) e1 && chk fs a2 K (vars.map some) e2):=rfl
theorem zpt {x y z:Nat}:chkS fs pn K vars kp (.init3 x y z) st = (onAssign st fun ts e O=>on1 ts fun t=>onTup t fun elts=>onTup e fun vs=>on3 vs fun v1 v2 v3=>i3Ok K vars kp x y z elts v1 v2 v3):=rfl
theorem zo8 {m:MS} {ms:MSs} {l:List cI}:chkSs fs pn K vars kp (.cons m ms) l = (onCons l fun st r=>chkS fs pn K vars kp m st && chkSs fs pn K vars kp ms r):=rfl
end
section
variable {W:Wd} {cf:Nat->List V->R V} {env:Env} {l:List Env} {A:bA} {n:Nat} {vars:List Str} {W0:aN->Prop} {s0:aC} {E:aD->aC->Prop} {kp:List Nat}
 {N:Nat} {pc:V->V->List V->List V->R (V × List V × List V)} {K:Str->Option aY} {pi:Nat} {pd:MFun}
theorem zao {α:Type} [BEq α] [LawfulBEq α] {o:Option α} {a:α} (h:(o == some a) = true):o = some a:=aR h
theorem opq {α:Type} {P:α->Prop} {a:α} (h:∀ G:α->Prop,(∀ x,P x->G x)->G a):P a:=h P fun O h=>h
mutual
theorem zue (B:Bs W) (hcf:CallOk W n cf) (hC:ClsAt W) (hP:PassesOwn (model W.pp W.w) A env E) (hpd:W.fs[pi]? = some pd) (hpc:PosOk W n pi pc) (ek:env.scope.kind = .function) (hK:∀ x,env.kindOf x = K x):(ms:MS)->(st:cI)->chkS (fns W.fs) pd.name K vars kp ms st = true ->
  ∀ X0,SS W env l A n vars X0 W0 s0 kp E (exec st env) (ex1 N cf pc ms)
 | .asg x me=>by
  intro st h;apply opq (a:=st);intro G hG;rw [zvl] at h;apply zap h;clear h;intro ts e pos h;apply zah h;clear h;intro t h;apply zdw h;clear h;intro nm p h
  ·replace h:=za9 h;obtain ⟨h1,h2,h3,h4⟩:=h
   try simp only [cA] at h1 h2 h3 h4
   refine hG _ fun X0=>zu1 B hcf hK h2 (zao h1) (fun hf=>?_) (by rw [zl2 ek hK,h4]);rw [hf,Bool.true_and] at h3;exact h3
 | .asgl x elt k iter cond=>by
  intro st h;apply opq (a:=st);intro G hG;rw [zsc] at h;apply zap h;clear h;intro ts e pos h;apply zah h;clear h;intro t h;apply zdw h;clear h;intro nm p h
  ·replace h:=zac h;obtain ⟨h1,h2,h4⟩:=h;exact hG _ fun X0=>zsg B hcf hK h2 (zao h1) (by rw [zl2 ek hK,h4])
 | .unp xs me=>by
  intro st h;apply opq (a:=st);intro G hG;rw [zvn] at h;apply zap h;clear h;intro ts e pos h;apply zah h;clear h;intro t h;apply za3 h;clear h;intro elts k tp h
  ·replace h:=zac h;obtain ⟨h1,h2,h3⟩:=h;obtain ⟨ns,hm,hxs⟩:=zb2 h1
   by_cases ht:isTupE e = true
   ·obtain ⟨vse,k',vp,rfl,_⟩:=zhn ht;obtain ⟨h4,h5,h6⟩:=zac h3;rw [hm] at h6;exact hG _ fun X0=>zsa B hcf hK h2 hm hxs (of_decide_eq_true h4) (aR h5) h6
   ·exact hG _ fun X0=>zup B hcf hK h2 hm hxs (by simpa using ht)
 | .asg2 x y me=>by
  intro st h;apply opq (a:=st);intro G hG;rw [zr3] at h;apply zap h;clear h;intro ts e pos h;apply zba h;clear h;intro t u h;apply zad h;clear h;intro nx px h;apply zad h;clear h;intro ny py h
  ·replace h:=zac h;obtain ⟨h1,h2,h3⟩:=h;exact hG _ fun X0=>zsx B hcf hK h3 (zao h1) (zao h2)
 | .last x me=>by
  intro st h;apply opq (a:=st);intro G hG;rw [zsf] at h;apply zap h;clear h;intro ts e pos h;apply zah h;clear h;intro t h;apply zbd h;clear h;intro o ie sp h;apply zad h;clear h;intro nm np h
  ·replace h:=za9 h;obtain ⟨h1,h2,h3,h4⟩:=h
   try simp only [cA] at h1 h2 h3 h4
   exact hG _ fun X0=>zrp B hcf hK h4 (zao h1) h2 h3 zvg
 | .aug x me=>by
  intro st h;apply opq (a:=st);intro G hG;rw [zve] at h;apply zky h;clear h;intro t op e pos h;replace h:=zaa h;obtain ⟨h0,h⟩:=h;obtain rfl:=aR h0;apply zad h;clear h;intro nm p h
  ·simp only [bB] at h;exact hG _ fun X0=>ztw B hcf hK h.2 (zao h.1)
 | .ite c a b=>by
  intro st h;apply opq (a:=st);intro G hG;rw [ztu] at h;apply zlb h;clear h;intro _ _ _ _ h
  ·replace h:=zac h;obtain ⟨h1,h2,h3⟩:=h;exact hG _ fun X0=>zv4 B hcf hK h1 (zbf B hcf hC hP hpd hpc ek hK a _ h2 X0) (zbf B hcf hC hP hpd hpc ek hK b _ h3 X0)
 | .whl c b=>by
  intro st h;apply opq (a:=st);intro G hG;rw [zut] at h;apply zhx h;clear h;intro ce body els pos h
  ·replace h:=zac h;obtain ⟨h0,h1,h2⟩:=h;obtain rfl:=bZ.mp h0;exact hG _ fun X0=>zv1 B hcf hP hK h1 (zbf B hcf hC hP hpd hpc ek hK b _ h2 X0)
 | .for1 x me b=>by
  intro st h;apply opq (a:=st);intro G hG;rw [zqu] at h;apply zco h;clear h;intro t e body els pos h;replace h:=zaa h;obtain ⟨h0,h⟩:=h;apply zcl h0;clear h0;apply zad h;clear h;intro nm p h
  ·replace h:=zac h;obtain ⟨h1,h2,h3⟩:=h;exact hG _ fun X0=>zs2 B hcf hP hK h2 (zao h1) fun X0=>zbf B hcf hC hP hpd hpc ek hK b _ h3 X0
 | .forT xs me b=>by
  intro st h;apply opq (a:=st);intro G hG;rw [zqz] at h;apply zco h;clear h;intro t e body els pos h;replace h:=zaa h;obtain ⟨h0,h⟩:=h;apply zcl h0;clear h0;apply za3 h;clear h;intro elts k tp h
  ·replace h:=zac h;obtain ⟨h1,h2,h3⟩:=h;obtain ⟨ns,hm,hxs⟩:=zb2 h1;exact hG _ fun X0=>zqv B hcf hP hK h2 hm hxs fun X0=>zbf B hcf hC hP hpd hpc ek hK b _ h3 X0
 | .forE x y me b=>by
  intro st h;apply opq (a:=st);intro G hG;rw [zr7] at h;apply zco h;clear h;intro t e0 body els pos h;replace h:=zaa h;obtain ⟨h0,h⟩:=h;apply zcl h0;clear h0;apply za3 h;clear h;intro elts k tp h;apply zak h;clear h;intro en np args cp h;apply zah h;clear h;intro e h
  ·replace h:=zpo h;obtain ⟨h0,h4,h1,h2,h3⟩:=h;obtain rfl:=aR h0;obtain ⟨ns,hm,hxs⟩:=zb2 h1;exact hG _ fun X0=>zsl B hcf hP hK h2 (zao h4) hm hxs fun X0=>zbf B hcf hC hP hpd hpc ek hK b _ h3 X0
 | .forR x n b=>by
  intro st h;apply opq (a:=st);intro G hG;rw [zrm] at h;apply zco h;clear h;intro t e0 body els pos h;replace h:=zaa h;obtain ⟨h0,h⟩:=h;apply zcl h0;clear h0;apply zad h;clear h;intro nm p h;apply zak h;clear h;intro rn np args cp h;apply zah h;clear h;intro e h;apply zht h;clear h;intro c ck kp0 h
  ·replace h:=zi7 h;obtain ⟨h0,h00,h4,h1,h2,h3⟩:=h;obtain rfl:=aR h0;obtain rfl:=of_decide_eq_true h00;obtain rfl:=aR h4;exact hG _ fun X0=>zq6 B hP hK (zao h1) (zao h2) fun X0=>zbf B hcf hC hP hpd hpc ek hK b _ h3 X0
 | .ret me=>by
  intro st h;apply opq (a:=st);intro G hG;rw [zul] at h;apply zlh h;clear h;intro o pos h;apply za2 h;clear h;intro e h
  ·exact hG _ fun X0=>zur B hcf hK h
 | .rse me=>by
  intro st h;apply opq (a:=st);intro G hG;rw [zvz] at h;apply zhw h;clear h;intro o c pos h;replace h:=zaa h;obtain ⟨h0,h⟩:=h;obtain rfl:=cD.mp h0;apply za2 h;clear h;intro x h;apply zak h;clear h;intro cn np args cp h;apply zah h;clear h;intro e h
  ·replace h:=zac h;obtain ⟨h1,h2,h3⟩:=h;obtain rfl:=aR h1;exact hG _ fun X0=>zvp B hcf hC hK h3 (zao h2)
 | .app x me=>by
  intro st h;apply opq (a:=st);intro G hG;rw [zus] at h;apply zg1 h;clear h;intro x0 pos h;apply zbk h;clear h;intro o at' ap args cpos h4 h;apply zad h;clear h;intro nm np h;apply zah h;clear h;intro e h;replace h4:=aR h4
  ·replace h:=za9 h;obtain ⟨h1,h2,h3,h5⟩:=h
   try simp only [cA] at h1 h2 h3 h5
   obtain rfl:=aR h1;exact hG _ fun X0=>zvo B hcf hK h5 (zao h2) h3 (by simp [h4])
 | .brk=>by
  intro st h;apply opq (a:=st);intro G hG;rw [zum] at h;apply zkm h;clear h;intro _ _
  ·exact hG _ fun X0=>zt0
 | .cnt=>by
  intro st h;apply opq (a:=st);intro G hG;rw [zun] at h;apply zk6 h;clear h;intro _ _
  ·exact hG _ fun X0=>zt5
 | .psx x y a1 a2 m c=>by
  intro st h;apply opq (a:=st);intro G hG;rw [zvc] at h;apply zap h;clear h;intro ts e pos h;apply zah h;clear h;intro t h;apply za3 h;clear h;intro elts k tp h;apply zak h;clear h;intro fn fp args cp h;apply zpx h;clear h;intro e1 e2 n1 n2 h;apply zad h;clear h;intro nm np1 h;apply zad h;clear h;intro nc np2 h
  ·replace h:=zac h;obtain ⟨h,h9,h10⟩:=h;replace h:=zoa h;obtain ⟨h1,h2,h3,h4,h5,h6,h7,h8⟩:=h
   try simp only [cA] at h3 h7 h8
   obtain rfl:=aR h1;obtain ⟨ns,hm,hxs⟩:=zb2 h4;exact hG _ fun X0=>zv2 B hcf hpd hpc hK h9 h10 (zao h2) h3 (zao h5) (zao h6) h7 h8 hm hxs
 | .init3 x y z=>by
  intro st h;apply opq (a:=st);intro G hG;rw [zpt] at h;apply zap h;clear h;intro ts e pos h;apply zah h;clear h;intro t h;apply za3 h;clear h;intro elts k tp h;apply za3 h;clear h;intro vs k' vp h;apply zo4 h;clear h;intro v1 v2 v3 h
  ·replace h:=zpl h;obtain ⟨h1,h2,h3,h4,h5,h6,h7,h8,h9⟩:=h
   try simp only [cA,bne_iff_ne] at h1 h2 h3 h4 h5 h6 h7 h8 h9
   replace h4:=zar h4;obtain ⟨nx,hx,h4⟩:=h4;replace h4:=zar h4;obtain ⟨ny,hy,h4⟩:=h4;replace h4:=zar h4;obtain ⟨nz,hz,h4⟩:=h4;obtain ⟨h10,h11⟩:=zaa h4;clear h4;obtain ⟨_,rfl⟩:=zji h1;obtain ⟨_,rfl⟩:=zji h2;obtain ⟨_,_,rfl⟩:=zhr h3;exact hG _ fun X0=>zpn B hK (zao h10) hx hy hz h5 h6 h7 h8 h9 h11
theorem zbf (B:Bs W) (hcf:CallOk W n cf) (hC:ClsAt W) (hP:PassesOwn (model W.pp W.w) A env E) (hpd:W.fs[pi]? = some pd) (hpc:PosOk W n pi pc) (ek:env.scope.kind = .function) (hK:∀ x,env.kindOf x = K x):(ms:MSs)->(sts:List cI)->chkSs (fns W.fs) pd.name K vars kp ms sts = true ->
  ∀ X0,SS W env l A n vars X0 W0 s0 kp E (execs sts env) (exs N cf pc ms)
 | .nil=>by
  intro sts h X0;obtain rfl:=bZ.mp (show sts.isEmpty = true from h);exact zvw
 | .cons m ms=>by
  intro sts h X0;rw [zo8] at h;replace h:=zla h;obtain ⟨_,_,rfl,h⟩:=h
  ·simp only [bB] at h;exact zq7 (zue B hcf hC hP hpd hpc ek hK m _ h.1 X0) (zbf B hcf hC hP hpd hpc ek hK ms _ h.2 X0)
end
end
noncomputable def minus (h:cZ) (l:List aN):cZ:=⟨h.objs.mapIdx fun i o=>if i ∈ l then ⟨.none,none,.freed,#[]⟩ else o,h.life⟩
theorem zjg {h:cZ} {l:List aN} {a:aN} (ha:a ∈ l):(minus h l).get? a = none:=by
 unfold Heap.get? minus;simp only [Array.getElem?_mapIdx]
 cases h.objs[a]? with
 | none=>rfl
 | some o=>rw [dN,if_pos ha]
theorem ze6 {h:cZ} {l:List aN} {a:aN} (ha:a ∉ l):(minus h l).get? a = h.get? a:=by
 unfold Heap.get? minus;simp only [Array.getElem?_mapIdx]
 cases h.objs[a]? with
 | none=>rfl
 | some o=>rw [dN,if_neg ha]
theorem zfb {h B:cZ} {l:List Env} (fr:List aN) (hs:∀ a ∈ l.filterMap (fun O=>O.frame),a ∈ fr) (f:h.FunFrames B l):h.FunFrames (minus h fr) l :=
 zhy (fun L o hm O ho hd=>⟨zjg (hs L hm),o,ho,hd⟩) f
set_option tactic.hygienic true in
theorem za5 {x:Str}:∀ (names:List (Str × aY)) (n:Nat) (acc:List (Str × aN)),((acc.lookup x).isSome = true \/ (x,NameKind.cell) ∈ names)->((cellsFrom n names acc).lookup x).isSome = true
 | []=>by
  intro n acc h;unfold cellsFrom;rcases h with h | h
  ·exact h
  ·cases h
 | (y,k) :: r=>by
  intro n acc h;unfold cellsFrom
  split
  ·rename_i hk;refine za5 r _ _ ?_;rw [bO]
   cases hb:x == y with
   | true=>exact .inl rfl
   | false =>
    rcases h with h | h
    ·exact .inl h
    ·rcases aO.mp h with e | h
     ·clear h
      cases e
      simp at hb
     ·exact .inr h
  ·rename_i hk;refine za5 r _ _ ?_;rcases h with h | h
   ·exact .inl h
   ·rcases aO.mp h with e | h
    ·clear h
     cases e
     exact absurd rfl hk
    ·exact .inr h
theorem zbw {x:Str} {a:aN}:∀ (names:List (Str × aY)) (n:Nat) (acc:List (Str × aN)),(names.map (fun O=>O.1)).Nodup->(∀ p ∈ names,∀ y ∈ acc,y.1 ≠ p.1)->(∀ y b,(y,b) ∈ acc->acc.lookup y = some b) ->
  (x,a) ∈ cellsFrom n names acc->(cellsFrom n names acc).lookup x = some a
 | []=>fun O acc O O h hm=>h x a hm
 | (y,k) :: r=>by
  intro n acc hn hd h hm;rw [aS] at hn;obtain ⟨h1,h2⟩:=eT.mp hn;unfold cellsFrom at hm |-
  by_cases hk:(k == NameKind.cell) = true
  ·rw [if_pos hk] at hm |-;refine zbw r _ _ h2 (fun p hp z hz=>?_) (fun z b hz=>?_) hm
   ·rcases aO.mp hz with e | hz
    ·rw [e];exact fun e=>h1 (by rw [show y = p.1 from e]; exact cG.mpr ⟨p,hp,rfl⟩)
    ·exact hd p (bU _ hp) z hz
   ·rw [bO];rcases aO.mp hz with e | hz
    ·clear hz hd h1
     cases e; simp
    ·have hne:(z == y) = false:=by
      have:=hd (y,k) (by simp) (z,b) hz
      simpa using this
     rw [hne];exact h z b hz
  ·rw [if_neg hk] at hm |-;exact zbw r _ _ h2 (fun p hp z hz=>hd p (bU _ hp) z hz) h hm
theorem zef {kindOf:Str->Option aY} {x:Str}:∀ (l:List (Str × aD)) (m:Str->Option aD),(∀ p ∈ l,p.1 ≠ x)->bindL kindOf l m x = m x
 | []=>fun O O=>rfl
 | (y,v) :: r=>by
  intro m h;unfold bindL;rw [zef r _ fun p hp=>h p (bU _ hp)]
  split
  ·exact if_neg fun e=>h (y,v) (by simp) e.symm
  ·rfl
theorem zho {kindOf:Str->Option aY} {x:Str} (hx:kindOf x = some .local):∀ (ns:List Str) (vs:List aD) (m:Str->Option aD) (i:Nat) (v:aD),ns.Nodup->ns[i]? = some x->vs[i]? = some v->bindL kindOf (ns.zip vs) m x = some v
 | [],O=>by intro _ _ _ _ h _; simp at h
 | O :: O1,[]=>by intro _ _ _ _ _ h; simp at h
 | y :: ns,u :: vs=>by
  intro m i v hn h1 h2;obtain ⟨h3,h4⟩:=eT.mp hn;rw [fG];unfold bindL
  cases i with
  | zero =>
   simp only [List.getElem?_cons_zero,fQ] at h1 h2;subst h1 h2;rw [if_pos hx,zef _ _ fun p hp e=>h3 (by rw [<- e]; exact (List.of_mem_zip hp).1)];exact if_pos rfl
  | succ i=>exact zho hx ns vs _ i v h4 (by simpa using h1) (by simpa using h2)
theorem zfa {kindOf:Str->Option aY} {x:Str}:∀ (l:List (Str × aD)) (m:Str->Option aD),(∀ p ∈ l,p.1 ≠ x)->bindC kindOf l m x = m x
 | []=>fun O O=>rfl
 | (y,v) :: r=>by
  intro m h;unfold bindC;rw [zfa r _ fun p hp=>h p (bU _ hp)]
  split
  ·rfl
  ·exact if_neg fun e=>h (y,v) (by simp) e.symm
theorem zh6 {kindOf:Str->Option aY} {x:Str} (hx:kindOf x ≠ some .local):∀ (ns:List Str) (vs:List aD) (m:Str->Option aD) (i:Nat) (v:aD),ns.Nodup->ns[i]? = some x->vs[i]? = some v->bindC kindOf (ns.zip vs) m x = some v
 | [],O=>by intro _ _ _ _ h _; simp at h
 | O :: O1,[]=>by intro _ _ _ _ _ h; simp at h
 | y :: ns,u :: vs=>by
  intro m i v hn h1 h2;obtain ⟨h3,h4⟩:=eT.mp hn;rw [fG];unfold bindC
  cases i with
  | zero =>
   simp only [List.getElem?_cons_zero,fQ] at h1 h2;subst h1 h2;rw [if_neg hx,zfa _ _ fun p hp e=>h3 (by rw [<- e]; exact (List.of_mem_zip hp).1)];exact if_pos rfl
  | succ i=>exact zh6 hx ns vs _ i v h4 (by simpa using h1) (by simpa using h2)
structure FnIn (W:Wd) (fa:aN) (fd:MFun) (q:FuncData) (body:List cI):Prop where
 obj:∃ o,W.sB.heap.get? fa = some o/\o.data = .func q
 clo:q.closure = []
 bd:q.body = .stmts body
 gl:q.globals = mainGlobals
 bi:q.builtins = builtinsNs
 ki:q.scope.kind = .function
 co:q.scope.isCoroutine = false
 ge:q.scope.isGenerator = false
 cd:Ex4 fun c oc vs t=>And5 (q.code = .ref c) (c ≠ W.P) (W.sB.heap.get? c = some oc) (oc.data = .fields vs) (vs[1]? = some (.str q.qualname t))
 rem:q.scope.names.lookup ("remaining" : Str) = some .local->q.code = .ref W.c0
 bind:∀ vals:List aD,vals.length = fd.np->bindArgs q ⟨vals,[]⟩ = pure ((fd.vars.map bC).zip vals)
 np:fd.np <= fd.vars.length
 nod:(fd.vars.map bC).Nodup
 nmd:(q.scope.names.map (fun O=>O.1)).Nodup
 kinds:∀ x ∈ fd.vars.map bC,q.scope.names.lookup x = some .local \/ q.scope.names.lookup x = some .cell
structure FnOk (W:Wd) (pn:String) (f:Nat) (fd:MFun) (kp:List Nat) (q:FuncData) (body:List cI):Prop extends FnIn W (W.fa f) fd q body where
 chk:chkSs (fns W.fs) pn (fun x=>q.scope.names.lookup x) (fd.vars.map bC) kp fd.body body = true
theorem ze8 {fd:MFun} {own:List Bool} {ds:List V} {i:Nat} (h:i < fd.vars.length):(initS fd own ds)[i]? = some (match ds[i]? with | some d=>some (own.getD i false,d) | none=>none):=by
 unfold initS;rw [cV,List.getElem?_range h];rfl
theorem zhe {fd:MFun} {own:List Bool} {ds:List V}:(initS fd own ds).length = fd.vars.length:=by simp [initS]
section
variable {W:Wd} {cf:Nat->List V->R V} {n:Nat} {N:Nat} {pc:V->V->List V->List V->R (V × List V × List V)} {pi:Nat} {pd:MFun}
theorem zt8 {env:Env} {l:List Env} {A:bA} {W0:aN->Prop} {s0:aC} {E:aD->aC->Prop} {R:aD->aC->Prop} {L:aN} (hP:s0.heap.get? W.P ≠ none) (hf:env.frame = some L) (hL:s0.heap.get? L = none) (hfr:A.frames = some (env :: l))
  (hR:∀ e s',Exc W W0 l s0 e s'->R e s'):EOk W (env :: l) W0 s0 (fun e s'=>wpAny (model W.pp W.w) A (leaving env e) (fun O s''=>R e s'') E s'):=by
 have efm:(env :: l).filterMap (fun O=>O.frame) = L :: l.filterMap (fun O=>O.frame):=by rw [eC,hf]
 refine ⟨fun e s' x=>?_,fun s1 h' e args g fr tb hm=>?_⟩
 ·obtain ⟨x,B,a0,rfl,hfl,hk,htb,hsl,hos,hg⟩:=x;refine wpAny_leaves_onW hfr hf hfl fun h'' hfl' hup=>hR _ _ ⟨x,B,a0,rfl,hfl',fun b o hb hl e=>hk b o hb (fun q=>?_) e,htb,fun b o hb e hd=>?_,hos,hg⟩
  ·rw [efm] at q;rcases aO.mp q with q | q
   ·rw [q,hL] at e; cases e
   ·exact hl q
  ·obtain ⟨sl,e1⟩:=hsl b o hb e hd;obtain ⟨sl',e2⟩:=hup b _ e1 hd;exact ⟨sl',e2⟩
 ·have hbase:(minus s1.heap (L :: l.filterMap (fun O=>O.frame))).StaysIn s1.heap:=fun b o e=>by
   by_cases q:b ∈ L :: l.filterMap (fun O=>O.frame)
   ·rw [zjg q] at e; cases e
   ·rwa [ze6 q] at e
  have hPn:W.P ∉ L :: l.filterMap (fun O=>O.frame):=fun q=>by
   obtain ⟨ps,e9⟩:=tb;rw [<- efm] at q;obtain ⟨_,o,ho,hd⟩:=fr.mem q;rw [e9] at ho
   cases ho
   exact hd _ rfl
  refine wpAny_leaves_madeW (base:=minus s1.heap (L :: l.filterMap (fun O=>O.frame))) (h:=s1.heap) hfr hf hbase (zfb _ (fun a ha=>by rw [<- efm]; exact ha) fr) hm fun h'' t hfl O O hup=>hR _ _ ⟨e,_,_,rfl,hfl,fun b o hb hl e1=>?_,?_,fun b o hb e1 hd=>?_,g.os,g.gens⟩
  ·rw (config:={}) [ze6 fun q=>?_]
   ·exact g.ext b o hb e1
   ·rcases aO.mp q with q | q
    ·rw [q,hL] at e1; cases e1
    ·exact hl q
  ·obtain ⟨ps,e9⟩:=tb;exact ⟨ps,by rw [ze6 hPn]; exact e9⟩
  ·obtain ⟨sl,e2⟩:=hup b o (hm.keeps b o (g.ext b o hb e1)) hd;exact ⟨sl,e2⟩
theorem zj5 (B:Bs W) {fa:aN} {fd:MFun} {q:FuncData} {body:List cI} (hF:FnIn W fa fd q body)
  {ds:List V} {vs:List aD} {own:List Bool} {oaI:Nat->aN} {A:bA} {X0 W0:aN->Prop} {s:aC} {l:List Env} {Q:aD->aC->Prop} {E:aD->aC->Prop} (hdl:ds.length = fd.np) (hvl:vs.length = fd.np)
  (hh:A.handled = none) (dep:A.depth+(n+1) < 1000) (un:A.units+3 * (n+1) <= 9000) (st:A.frames = some l) (fr:s.heap.FunFrames hp0 l) (base:Gr W.P W.sB s) (x0:XOk X0 s.heap) (xp:X0 W.P) (xb:∀ a,X0 a->a = W.P \/ W.sB.heap.get? a = none)
  (wp:W0 W.P) (hown:∀ i d,ds[i]? = some d->own.getD i false = true->¬ X0 (oaI i)/\W0 (oaI i)/\W.sB.heap.get? (oaI i) = none/\(s.heap.get? (oaI i)).isSome = true)
  (hinj:∀ i j di dj,ds[i]? = some di->ds[j]? = some dj->own.getD i false = true->own.getD j false = true->oaI i = oaI j->i = j)
  (hsl:∀ i d v,ds[i]? = some d->vs[i]? = some v->SlotOk (fun a=>X0 a \/ Ex2 fun i d=>And3 (ds[i]? = some d) (own.getD i false = true) (a = oaI i)) s.heap (oaI i) (some v) (some (own.getD i false,d)))
  (hbody:∀ env s1,Fm W env (env :: l) (A.deeper env) n (fd.vars.map bC) X0 W0 s oaI (initS fd own ds) s1->env.frame = some env.locals->(∀ x,env.kindOf x = q.scope.names.lookup x)->env.scope = q.scope->(∀ a,Lc env a->s.heap.get? a = none) ->
   wpAny (model W.pp W.w) (A.deeper env) (execs body env) (fun f s'=>Q (match f with | .ret v=>v | _=>.none) s') (fun e s'=>wpAny (model W.pp W.w) (A.deeper env) (leaving env e) (fun O s''=>E e s'') (fun e' s''=>E e' s'') s') s1) :
  wpAny (model W.pp W.w) A (call (.ref fa) vs) Q E s:=by
 refine byC fun hG=>?_;obtain ⟨o,hob,hdat⟩:=hF.obj;have htab:IsTab s.heap W.P:=base.tab B.tab;have hneP:fa ≠ W.P:=zbl B.tab hob (by rw [hdat]; rfl);have hcode:s.heap.CodeRec q.code q.qualname:=by
  refine byC fun hG=>?_;obtain ⟨c,oc,ws,t,h1,h2,h3,h4,h5⟩:=hF.cd;refine hG ?_;exact ⟨c,oc,ws,t,h1,base.ext c oc h2 h3,h4,h5⟩
 have hlk:∀ x ∈ fd.vars.map bC,q.scope.names.lookup x = some .local \/ (q.scope.names.lookup x = some .cell/\((cellsFrom (s.heap.objs.size+1) q.scope.names []).lookup x).isSome = true):=fun x hx=>by
  rcases hF.kinds x hx with h | h
  ·exact .inl h
  ·exact .inr ⟨h,za5 _ _ _ (.inr (mem_of_lookup h))⟩
 refine hG ?_;clear hG;refine wpAny_call (codeAny_call_cells (o:=o) (fd:=q) (body:=body) (binds:=(fd.vars.map bC).zip vs) (by clear hbody; show A.depth < 1000; omega) (base.ext _ o hneP hob) hdat (zcn B.tab base B.nolimit) hcode hF.bd (hF.bind vs hvl) hF.clo
  (fun x hx=>hlk x.1 (List.of_mem_zip hx).1) ?_ hF.co hF.ge hF.ki)
 intro s1 IC;generalize henv:callEnvC q s.heap.objs.size (fa) = env at IC |-;have eL:env.locals = s.heap.objs.size:=by rw [<- henv]; rfl
 have ef:env.frame = some env.locals:=by rw [<- henv]; rfl
 have eK:∀ x,env.kindOf x = q.scope.names.lookup x:=fun x=>by rw [<- henv]; rfl
 have eS:env.scope = q.scope:=by rw [<- henv]; rfl
 have ecl:env.cells = cellsFrom (s.heap.objs.size+1) q.scope.names []:=by rw [<- henv]; rfl
 have ecd:env.code = q.code:=by rw [<- henv]; rfl
 have egl:env.globals = q.globals:=by rw [<- henv]; rfl
 have ebi:env.builtins = q.builtins:=by rw [<- henv]; rfl
 clear henv;refine byC fun hG=>?_;obtain ⟨⟨hsame,hns,hkeep,hfresh⟩,hcell,happ,habove⟩:=IC;obtain ⟨h1,tk1,rfl⟩:=hsame;dsimp only at hns hkeep hcell;have hsd:∀ a,s.heap.objs.size <= a->s.heap.get? a = none:=fun a ha=>by
  cases e:s.heap.get? a with
  | none=>rfl
  | some o=>exact absurd (bW e) (Nat.not_lt.mpr ha)
 have hlcd:∀ a,Lc env a->s.heap.get? a = none:=fun a ha=>by
  rcases ha with q | ⟨nm,q⟩
  ·exact hsd a (by rw [q,eL]; exact dD _)
  ·exact hsd a (by have:=habove nm a q; rw [eL] at this; exact Nat.le_of_lt this)
 have g1:Gr W.P s { s with heap:=h1,toks:=tk1 }:=.keep hkeep;have hlen:∀ i d,ds[i]? = some d->i < fd.vars.length:=fun i d h=>Nat.lt_of_lt_of_le (hdl ▸ zav h) hF.np;have hslot:∀ i d,(initS fd own ds)[i]? = some (some (true,d))->ds[i]? = some d/\own.getD i false = true:=fun i d h=>by
  have hi:i < fd.vars.length:=by have:=zav h; rwa [zhe] at this
  rw [ze8 hi] at h
  cases hd:ds[i]? with
  | none=>rw [hd] at h; cases h
  | some d' =>
   rw [hd] at h;simp only [fQ,Prod.mk.injEq] at h;exact ⟨by rw [h.2],h.1⟩
 have hslot':∀ i d,ds[i]? = some d->own.getD i false = true->(initS fd own ds)[i]? = some (some (true,d)):=fun i d h1 h2=>by
  rw [ze8 (hlen i d h1),h1,h2]
 have F1:Fm W env (env :: l) (A.deeper env) n (fd.vars.map bC) X0 W0 s oaI (initS fd own ds) { s with heap:=h1,toks:=tk1 } :=
  {hh:=hh
   dep:=by clear hbody hG; show A.depth+1+n < 1000; omega
   un:=by rw [Around.deeper_units]; clear hbody hG; omega
   st:=by show A.frames.map _ = _; rw [st]; rfl
   fr:=.cons (by rw [eS,hF.ki]; decide) ef hns (zp4 _) (zd0 (fun b o e hd=>⟨o,hkeep b o e,hd⟩) fr)
   base:=base.trans g1
   base0:=base
   eg:=by rw [egl,hF.gl]
   eb:=by rw [ebi,hF.bi]
   ek:=by rw [eS,hF.ki]
   eq:=fun h=>by rw [ecd]; exact hF.rem (by rw [<- eK]; exact h)
   ec:=fun x h=>by rw [ecl]; exact za5 _ _ _ (.inr (mem_of_lookup (by rw [<- eK]; exact h)))
   len:=by rw [zhe,bQ]
   nod:=hF.nod
   kinds:=fun x hx=>by rw [eK]; exact hF.kinds x hx
   g:=.of g1 wp
   wp:=wp
   lo:=hlcd
   ll:=fun a ha=>by
    rcases ha with z | ⟨nm,z⟩
    ·rw [z]; exact Ns.live hns
    ·have hc:env.cells.lookup nm = some a:=by
      rw [ecl] at z |-;exact zbw _ _ _ hF.nmd (fun O O O h=>nomatch h) (fun O O h=>nomatch h) z
     refine byC fun hG=>?_;obtain ⟨o,ho,_⟩:=hcell nm a hc;refine hG ?_;clear hG;show (h1.get? a).isSome = true;rw [ho]; rfl
   ns:=⟨_,hns⟩
   apart:=happ
   lc:=fun nm c hc e=>by have:=habove nm c hc; rw [e] at this; exact dG _ this
   x0:=fun a ha=>g1.live a (x0 a ha)
   xp:=xp
   xb:=xb
   inj:=fun i j di dj h1 h2=>by
    refine byC fun hG=>?_;obtain ⟨a1,a2⟩:=hslot i di h1;obtain ⟨b1,b2⟩:=hslot j dj h2;refine hG ?_;exact hinj i j di dj a1 b1 a2 b2
   own:=fun i d h=>by
    refine byC fun hG=>?_;obtain ⟨a1,a2⟩:=hslot i d h;obtain ⟨c1,c2,c3,c4⟩:=hown i d a1 a2;refine hG ?_;clear hG;refine ⟨fun z=>?_,c1,.inl c2,c3⟩;rw [hlcd _ z] at c4
    cases c4
   val:=fun i x sl hx hsl'=>by
    have hi:i < fd.vars.length:=by have:=zav hx; rwa [bQ] at this
    rw [ze8 hi] at hsl';have hk:=hlk x (eW hx);have hbd:∀ ov,(q.scope.names.lookup x = some .local->bindL env.kindOf ((fd.vars.map bC).zip vs) (fun O=>none) x = ov)->(q.scope.names.lookup x ≠ some .local->bindC env.kindOf ((fd.vars.map bC).zip vs) (fun O=>none) x = ov)->Bd h1 env x ov:=fun ov b1 b2=>by
     rcases hk with h | ⟨h,hc⟩
     ·exact .inl ⟨by rw [eK]; exact h,_,hns,b1 h⟩
     ·obtain ⟨c,hc⟩:=aH.mp hc;refine .inr ⟨by rw [eK]; exact h,c,by rw [ecl]; exact hc,?_⟩;rw [<- b2 (by rw [h]; decide)];exact hcell x c (by rw [ecl]; exact hc)
    cases hd:ds[i]? with
    | none =>
     rw [hd] at hsl'
     cases hsl'
     by_cases hloc:q.scope.names.lookup x = some .local
     ·exact ⟨_,hbd _ (fun O=>rfl) (fun z=>absurd hloc z),trivial⟩
     ·exact ⟨_,hbd _ (fun z=>absurd z hloc) (fun O=>rfl),trivial⟩
    | some d =>
     rw [hd] at hsl'
     cases hsl'
     have hiv:i < vs.length:=by rw [hvl,<- hdl]; exact zav hd
     have hv:vs[i]? = some vs[i]:=aZ hiv;refine ⟨some vs[i],hbd _ (fun z=>zho (by rw [eK]; exact z) _ _ _ i _ hF.nod hx hv) (fun z=>zh6 (by rw [eK]; exact z) _ _ _ i _ hF.nod hx hv),?_⟩;have hq:=hsl i d _ hd hv;have hq1:SlotOk (fun a=>X0 a \/ Lc env a \/ Ow oaI (initS fd own ds) a) s.heap (oaI i) (some vs[i]) (some (own.getD i false,d)):=by
      have hav:∀ a,(X0 a \/ Lc env a \/ Ow oaI (initS fd own ds) a)->(s.heap.get? a).isSome = true->(X0 a \/ Ex2 fun i d=>And3 (ds[i]? = some d) (own.getD i false = true) (a = oaI i)):=fun a ha hl=>by
       refine byC fun hG=>?_;rcases ha with z | z | ⟨j,dj,z1,z2⟩
       ·refine hG ?_;exact .inl z
       ·rw [hlcd a z] at hl; cases hl
       ·obtain ⟨a1,a2⟩:=hslot j dj z1;refine hG ?_;exact .inr ⟨j,dj,a1,a2,z2⟩
      generalize own.getD i false = bo at hq |-
      cases bo with
      | false=>obtain ⟨v,e,r⟩:=hq; exact ⟨v,e,r.avoid hav⟩
      | true =>
       clear hd;induction d using V.casesOn with
       | lst dl=>obtain ⟨vs',e,hp,r⟩:=hq; exact ⟨vs',e,hp,r.avoid hav⟩
       | none=>exact hq
       | bool O=>exact hq
       | int O=>exact hq
       | bytes O=>exact hq
       | tup O=>exact hq
     exact hq1.mono (fun O z=>z) (fun b o O e=>hkeep b o e) fun d e o z=>hkeep _ o z }
 refine hG ?_;exact hbody env _ F1 ef eK eS hlcd
theorem zqg (B:Bs W) (hC:ClsAt W) (hcf:CallOk W n cf) (hpd:W.fs[pi]? = some pd) (hpc:PosOk W n pi pc) {f:Nat} {fd:MFun} {kp:List Nat} {q:FuncData} {body:List cI} (hF:FnOk W pd.name f fd kp q body)
  {ds:List V} {vs:List aD} {own:List Bool} {oaI:Nat->aN} {A:bA} {X0 W0:aN->Prop} {s:aC} {l:List Env} {Q:aD->aC->Prop} {E:aD->aC->Prop} (hdl:ds.length = fd.np) (hvl:vs.length = fd.np)
  (hh:A.handled = none) (dep:A.depth+(n+1) < 1000) (un:A.units+3 * (n+1) <= 9000) (st:A.frames = some l) (fr:s.heap.FunFrames hp0 l) (base:Gr W.P W.sB s) (x0:XOk X0 s.heap) (xp:X0 W.P) (xb:∀ a,X0 a->a = W.P \/ W.sB.heap.get? a = none)
  (wp:W0 W.P) (hown:∀ i d,ds[i]? = some d->own.getD i false = true->¬ X0 (oaI i)/\W0 (oaI i)/\W.sB.heap.get? (oaI i) = none/\(s.heap.get? (oaI i)).isSome = true)
  (hinj:∀ i j di dj,ds[i]? = some di->ds[j]? = some dj->own.getD i false = true->own.getD j false = true->oaI i = oaI j->i = j)
  (hsl:∀ i d v,ds[i]? = some d->vs[i]? = some v->SlotOk (fun a=>X0 a \/ Ex2 fun i d=>And3 (ds[i]? = some d) (own.getD i false = true) (a = oaI i)) s.heap (oaI i) (some v) (some (own.getD i false,d)))
  (hr:retOf (exs N cf pc fd.body (initS fd own ds)) ≠ .st)
  (hQ:∀ env oa' σ' s' d v A',((exs N cf pc fd.body (initS fd own ds) = .rt d σ'/\Rep (fun a=>X0 a \/ Lc env a \/ Ow oa' σ' a) s'.heap d v) \/ (exs N cf pc fd.body (initS fd own ds) = .nx σ'/\d = .none/\v = .none)) ->
   Fm W env (env :: l) A' n (fd.vars.map bC) X0 W0 s oa' σ' s'->(∀ i ∈ kp,oa' i = oaI i)->Q v s')
  (hE:exs N cf pc fd.body (initS fd own ds) = .ex->∀ e s',Exc W W0 l s e s'->E e s'):wpAny (model W.pp W.w) A (call (.ref (W.fa f)) vs) Q E s:=by
 have htab:IsTab s.heap W.P:=base.tab B.tab;refine zj5 B hF.toFnIn hdl hvl hh dep un st fr base x0 xp xb wp hown hinj hsl fun env s1 F1 ef eK eS hlcd=>?_;have hP0:s.heap.get? W.P ≠ none:=fun z=>by obtain ⟨ps,e⟩:=htab; rw [z] at e; cases e
 have hst:(A.deeper env).frames = some (env :: l):=by show A.frames.map _ = _; rw [st]; rfl
 have hfin:=zbf (W:=W) (cf:=cf) (env:=env) (l:=env :: l) (A:=A.deeper env) (n:=n) (vars:=fd.vars.map bC) (W0:=W0) (s0:=s) (kp:=kp) (N:=N) (pc:=pc)
  (E:=fun e s'=>wpAny (model W.pp W.w) (A.deeper env) (leaving env e) (fun O s''=>E e s'') (fun e' s''=>E e' s'') s') B hcf hC PassesOwn.leaving hpd hpc (by rw [eS]; exact hF.ki) eK fd.body body hF.chk X0 oaI _ _ F1
  (fun z=>hr (by rw [z]; rfl)) fun z=>zt8 hP0 ef (hlcd _ (.inl rfl)) hst (hE z)
 refine aG hfin (fun fl s' h=>?_) fun e s' h=>h
 cases hx:exs N cf pc fd.body (initS fd own ds) <;> rw [hx] at h hr <;> cases fl <;> first | exact h.elim | skip
 ·obtain ⟨oa',f',st'⟩:=h;exact hQ env oa' _ s' .none .none _ (.inr ⟨hx,rfl,rfl⟩) f' st'.k
 ·exact absurd rfl hr
 ·exact absurd rfl hr
 ·obtain ⟨oa',f',st',r'⟩:=h;exact hQ env oa' _ s' _ _ _ (.inl ⟨hx,r'⟩) f' st'.k
end
noncomputable def pcOf (N:Nat) (fs:List MFun) (pi n:Nat):V->V->List V->List V->R (V × List V × List V):=fun d1 d2 l1 l2=>match n with
 | 0=>.st
 | k+1=>match fs[pi]? with
  | some pd=>posOf (exs N (callF N fs pi k) (fun O O O O=>.st) pd.body (initS pd [false,false,true,true] [d1,d2,.lst l1,.lst l2]))
  | none=>.st
theorem callF_succ {N:Nat} {fs:List MFun} {pi n f:Nat} {args:List V}:callF N fs pi (n+1) f args = match fs[f]? with
  | some fd=>if args.length = fd.np then retOf (exs N (callF N fs pi n) (pcOf N fs pi n) fd.body (initS fd [] args)) else .st
  | none=>.st:=by
 cases n <;> kernel_rfl
structure TextOk (W:Wd) (pi:Nat) (pd:MFun):Prop where
 here:W.fs[pi]? = some pd
 np:pd.np = 4
 fn:∀ f fd,W.fs[f]? = some fd->Ex2 fun q body=>FnOk W pd.name f fd (if f = pi then [2,3] else []) q body
section
variable {W:Wd} {N pi:Nat} {pd:MFun}
theorem zkb {n:Nat}:PosOk W n pi (fun O O O O=>.st):=by
 intro d1 d2 lm lc v1 v2 vm vc am ac A X s l Q E _ _ _ _ _ _ _ _ _ _ _ _ _ _ _ _ _ _ _ _ _ _ h;exact absurd rfl h
set_option tactic.hygienic true in
theorem zj6 (B:Bs W) (hC:ClsAt W) (T:TextOk W pi pd) {k:Nat} (hcf:CallOk W k (callF N W.fs pi k)):PosOk W (k+1) pi (pcOf N W.fs pi (k+1)):=by
 intro d1 d2 lm lc v1 v2 vm vc am ac A X s l Q E hh dep un st fr base xok xp xb f1 f2 r1 r2 hac Xm Xc mP cP pm pcl rm rc hn hQ hE;have hpc:pcOf N W.fs pi (k+1) d1 d2 lm lc = posOf (exs N (callF N W.fs pi k) (fun O O O O=>.st) pd.body (initS pd [false,false,true,true] [d1,d2,.lst lm,.lst lc])):=by
  unfold pcOf;rw [T.here]
 rw [hpc] at hn hQ hE;obtain ⟨q,body,hF⟩:=T.fn pi pd T.here;rw [if_pos rfl] at hF;have hB:∀ a,X a->a ≠ W.P->W.sB.heap.get? a = none:=fun a ha hp=>(xb a ha).resolve_left hp;have cases4:∀ {i:Nat} {d:V},([d1,d2,.lst lm,.lst lc]:List V)[i]? = some d->(i = 0/\d = d1) \/ (i = 1/\d = d2) \/ (i = 2/\d = .lst lm) \/ (i = 3/\d = .lst lc):=fun {i d} h=>by
  match i,h with
  | 0,h=>cases h; exact .inl ⟨rfl,rfl⟩
  | 1,h=>cases h; exact .inr (.inl ⟨rfl,rfl⟩)
  | 2,h=>cases h; exact .inr (.inr (.inl ⟨rfl,rfl⟩))
  | 3,h=>cases h; exact .inr (.inr (.inr ⟨rfl,rfl⟩))
  | i+4,h=>simp at h
 have own2:∀ {i:Nat} {d:V},([d1,d2,.lst lm,.lst lc]:List V)[i]? = some d->([false,false,true,true]:List Bool).getD i false = true->(i = 2/\d = .lst lm) \/ (i = 3/\d = .lst lc):=fun {i d} h o=>by
  rcases cases4 h with ⟨rfl,_⟩ | ⟨rfl,_⟩ | q | q
  ·exact absurd o aJ
  ·exact absurd o aJ
  ·exact .inl q
  ·exact .inr q
 have hav:∀ a,((X a/\a ≠ am/\a ≠ ac) \/ Ex2 fun i d=>And3 (([d1,d2,.lst lm,.lst lc]:List V)[i]? = some d) (([false,false,true,true]:List Bool).getD i false = true) (a = (if i = 2 then am else ac)))->X a:=fun a h=>by
  rcases h with h | ⟨i,d,_,_,e⟩
  ·exact h.1
  ·rw [e]; split
   ·exact Xm
   ·exact Xc
 refine zqg (cf:=callF N W.fs pi k) (n:=k) (N:=N) (pc:=fun O O O O=>.st) (ds:=[d1,d2,.lst lm,.lst lc]) (own:=[false,false,true,true]) (oaI:=fun i=>if i = 2 then am else ac) (X0:=fun a=>X a/\a ≠ am/\a ≠ ac) (W0:=fun a=>a = W.P \/ a = am \/ a = ac)
  B hC hcf T.here zkb hF (by rw [T.np]; rfl) (by rw [T.np]; rfl) hh dep un st fr base (fun a ha=>xok a ha.1) ⟨xp,mP.symm,cP.symm⟩ (fun a ha=>xb a ha.1) (.inl rfl) ?_ ?_ ?_ ?_ ?_ ?_
 ·intro i d h1 h2;rcases own2 h1 h2 with ⟨rfl,rfl⟩ | ⟨rfl,rfl⟩
  ·exact ⟨fun z=>z.2.1 rfl,.inr (.inl rfl),hB _ Xm mP,by obtain ⟨nn,e⟩:=pm; rw [if_pos rfl,e]; rfl⟩
  ·exact ⟨fun z=>z.2.2 rfl,.inr (.inr rfl),hB _ Xc cP,by obtain ⟨nn,e⟩:=pcl; rw [if_neg (by decide),e]; rfl⟩
 ·intro i j di dj h1 h2 o1 o2 e;rcases own2 h1 o1 with ⟨rfl,_⟩ | ⟨rfl,_⟩ <;> rcases own2 h2 o2 with ⟨rfl,_⟩ | ⟨rfl,_⟩ <;>
   first | rfl | exact absurd e hac | exact absurd e.symm hac
 ·intro i d v h1 h2;clear hpc own2;rcases cases4 h1 with ⟨rfl,rfl⟩ | ⟨rfl,rfl⟩ | ⟨rfl,rfl⟩ | ⟨rfl,rfl⟩
  ·cases h2; exact ⟨v1,rfl,r1.flat f1⟩
  ·cases h2; exact ⟨v2,rfl,r2.flat f2⟩
  ·cases h2; exact ⟨vm,rfl,pm,rm.mono hav fun b o O e=>e⟩
  ·cases h2; exact ⟨vc,rfl,pcl,rc.mono hav fun b o O e=>e⟩
 ·intro z;apply hn;generalize exs N (callF N W.fs pi k) (fun O O O O=>.st) pd.body (initS pd [false,false,true,true] [d1,d2,.lst lm,.lst lc]) = r at z |-
  cases r <;> first | rfl | (cases z)
 ·intro env oa' σ' s' d v A' h f' hk;rcases h with ⟨hx,rv⟩ | ⟨hx,_,_⟩
  ·rw [hx] at hn hQ;unfold posOf at hn hQ;dsimp only at hn hQ
   split at hn
   ·rename_i a b ha hb;have sa:=zbn ha;have sb:=zbn hb;have hlen:4 <= pd.vars.length:=by have:=hF.np; rw [T.np] at this; exact this
    have hv:∀ i,i < 4->∃ nm,(pd.vars.map bC)[i]? = some nm:=fun i hi=>⟨_,aZ (by rw [bQ]; omega)⟩;obtain ⟨n2,hn2⟩:=hv 2 (by decide);obtain ⟨n3,hn3⟩:=hv 3 (by decide);obtain ⟨vm',pm',rm',_⟩:=f'.ownAt hn2 sa;obtain ⟨vc',pc',rc',_⟩:=f'.ownAt hn3 sb;rw [hk 2 (by simp)] at pm';rw [hk 3 (by simp)] at pc';rw [if_pos rfl] at pm';rw [if_neg (by decide)] at pc';have hX:∀ c,X c->((X c/\c ≠ am/\c ≠ ac) \/ Lc env c \/ Ow oa' σ' c):=fun c hc=>by
     by_cases q1:c = am
     ·exact .inr (.inr ⟨2,_,sa,by rw [hk 2 (by simp),if_pos rfl,q1]⟩)
     ·by_cases q2:c = ac
      ·exact .inr (.inr ⟨3,_,sb,by rw [hk 3 (by simp),if_neg (by decide),q2]⟩)
      ·exact .inl ⟨hc,q1,q2⟩
    refine hQ d a b v vm' vc' s' ?_ f'.g (rv.mono hX fun b o O e=>e) pm' pc' (rm'.mono hX fun b o O e=>e) (rc'.mono hX fun b o O e=>e);simp only [ha,hb]
   ·exact absurd rfl hn
  ·rw [hx] at hn;exact absurd rfl hn
 ·intro hx e s' hexc;exact hE e s' (by rw [hx]; rfl) hexc
set_option tactic.hygienic true in
theorem zbr (B:Bs W) (hC:ClsAt W) (T:TextOk W pi pd):∀ n m,m <= n->CallOk W m (callF N W.fs pi m)
 | 0=>by
  intro m hm;obtain rfl:m = 0:=Nat.le_zero.mp hm;intro f fd ds vs A X s l Q E _ _ _ _ _ _ _ _ _ _ _ hn;exact absurd rfl hn
 | n+1=>by
  intro m hm;rcases Nat.lt_or_ge m (n+1) with h | h
  ·exact zbr B hC T n m (Nat.le_of_lt_succ h)
  obtain rfl:m = n+1:=Nat.le_antisymm hm h;intro f fd ds vs A X s l Q E hf hh dep un st fr base xok xp xb rl hn hQ hE;rw [callF_succ,hf] at hn hQ hE;dsimp only at hn hQ hE
  split at hn
  ·rename_i hlen;rw [if_pos hlen] at hQ hE;have hcf:=zbr B hC T n n (dD _);have hpc:PosOk W n pi (pcOf N W.fs pi n):=by
    clear hm dep h hcf un
    cases n with
    | zero=>exact zkb
    | succ k=>exact zj6 B hC T (zbr B hC T (k+1) k (Nat.le_succ _))
   obtain ⟨q,body,hF⟩:=T.fn f fd hf;have rll:=rl.length;refine zqg (own:=[]) (oaI:=fun O=>0) (X0:=X) (W0:=(fun O=>O = W.P)) B hC hcf T.here hpc hF hlen (by omega) hh dep un st fr base xok xp xb rfl ?_ ?_ ?_ hn ?_ ?_
   ·intro i d _ h; simp at h
   ·intro i j di dj _ _ h; simp at h
   ·intro i d v h1 h2;obtain ⟨v',hv',rv⟩:=rl.get h1;rw [h2] at hv'
    cases hv'
    refine ⟨v,rfl,rv.mono (fun a h=>?_) fun b o O e=>e⟩;rcases h with h | ⟨_,_,_,h,_⟩
    ·exact h
    ·simp at h
   ·intro env oa' σ' s' d v A' h f' hk;rcases h with ⟨hx,rv⟩ | ⟨hx,rfl,rfl⟩
    ·rw [hx] at hQ;exact hQ d v s' rfl (f'.g.toGr fun b h=>h) (rv.mono (fun a h=>.inl h) fun b o O e=>e)
    ·rw [hx] at hQ;exact hQ .none .none s' rfl (f'.g.toGr fun b h=>h) rfl
   ·intro hx e s' hexc;exact hE e s' (by rw [hx]; rfl) hexc
  ·exact absurd rfl hn
end
end
noncomputable def q_escape_1:MSs:=(.cons (.ite (.inn (.nm 2) (.cst (.bytes [40,41,91,93,123,125,63,42,43,45,124,94,36,92,46,38,126,35,32,9,10,13,11,12]))) (.cons (.aug 1 (.cst (.bytes [92])))
  .nil) .nil)
  (.cons (.aug 1 (.bi1 .byt (.lsd (.cons (.nm 2) .nil))))
  .nil))
noncomputable def b_escape:MSs:=(.cons (.asg 1 (.cst (.bytes [])))
  (.cons (.for1 2 (.nm 0) q_escape_1)
  (.cons (.ret (.nm 1))
  .nil)))
noncomputable def q_render_2:MSs:=(.cons (.ite (.cmp .gt (.nm 4) (.nm 5)) (.cons .cnt
  .nil) .nil)
  (.cons (.asg 6 (.call 0 (.cons (.bi1 .byt (.lsd (.cons (.nm 4) .nil))) .nil)))
  (.cons (.ite (.cmp .ne (.nm 4) (.nm 5)) (.cons (.aug 6 (.bin .add (.cst (.bytes [45])) (.call 0 (.cons (.bi1 .byt (.lsd (.cons (.nm 5) .nil))) .nil))))
  .nil) .nil)
  (.cons (.app 1 (.nm 6))
  .nil))))
noncomputable def q_render_1:MSs:=(.cons (.forT [4,5] (.tup (.cons (.tup (.cons (.nm 2) (.cons (.bi2 .min (.nm 3) (.bin .sub (.gl 0) (.cst (.int 1)))) .nil))) (.cons (.tup (.cons (.bi2 .max (.nm 2) (.bin .add (.gl 0) (.cst (.int 1)))) (.cons (.nm 3) .nil))) .nil))) q_render_2)
  .nil)
noncomputable def b_render:MSs:=(.cons (.asg 1 (.lsd .nil))
  (.cons (.forT [2,3] (.nm 0) q_render_1)
  (.cons (.ret (.join [] (.nm 1)))
  .nil)))
noncomputable def c_posix_class_1:ME:=(.bool true (.cmp .lt (.nm 5) (.bi1 .len (.nm 0))) (.cons (.cmp .ne (.sl2 (.nm 0) (.nm 5) (.bin .add (.nm 5) (.cst (.int 1)))) (.cst (.bytes [93]))) .nil))
noncomputable def q_posix_class_1:MSs:=(.cons (.aug 5 (.cst (.int 1)))
  .nil)
noncomputable def b_posix_class:MSs:=(.cons (.asg 4 (.bin .add (.nm 1) (.cst (.int 2))))
  (.cons (.asg 5 (.nm 4))
  (.cons (.whl c_posix_class_1 q_posix_class_1)
  (.cons (.ite (.cmp .ge (.nm 5) (.bi1 .len (.nm 0))) (.cons (.rse (.nm 0))
  .nil) .nil)
  (.cons (.ite (.bool false (.cmp .eq (.nm 5) (.nm 4)) (.cons (.cmp .ne (.sl2 (.nm 0) (.bin .sub (.nm 5) (.cst (.int 1))) (.nm 5)) (.cst (.bytes [58]))) .nil)) (.cons (.app 2 (.tup (.cons (.cst (.int 91)) (.cons (.cst (.int 91)) .nil))))
  (.cons (.ret (.tup (.cons (.bin .sub (.nm 4) (.cst (.int 2))) (.cons (.cst (.int 91)) .nil))))
  .nil)) .nil)
  (.cons (.ite (.npx (.sl2 (.nm 0) (.nm 4) (.bin .sub (.nm 5) (.cst (.int 1))))) (.cons (.rse (.nm 0))
  .nil) .nil)
  (.cons (.app 3 (.px (.sl2 (.nm 0) (.nm 4) (.bin .sub (.nm 5) (.cst (.int 1))))))
  (.cons (.ret (.tup (.cons (.nm 5) (.cons (.cst .none) .nil))))
  .nil))))))))
noncomputable def ctranslate_bracket_expression_1:ME:=(.cst (.bool true))
noncomputable def qtranslate_bracket_expression_1:MSs:=(.cons (.ite (.cmp .ge (.nm 1) (.nm 2)) (.cons (.rse (.nm 0))
  .nil) .nil)
  (.cons (.asg 8 (.sl2 (.nm 0) (.nm 1) (.bin .add (.nm 1) (.cst (.int 1)))))
  (.cons (.ite (.bool true (.cmp .eq (.nm 8) (.cst (.bytes [93]))) (.cons (.nt (.nm 7)) .nil)) (.cons .brk
  .nil) .nil)
  (.cons (.asg 7 (.cst (.bool false)))
  (.cons (.ite (.cmp .eq (.nm 8) (.cst (.bytes [92]))) (.cons (.aug 1 (.cst (.int 1)))
  (.cons (.ite (.cmp .ge (.nm 1) (.nm 2)) (.cons (.rse (.nm 0))
  .nil) .nil)
  (.cons (.asg 6 (.idx (.nm 0) (.nm 1)))
  (.cons (.app 4 (.tup (.cons (.nm 6) (.cons (.nm 6) .nil))))
  .nil)))) (.cons (.ite (.bool true (.cmp .eq (.nm 8) (.cst (.bytes [45]))) (.cons (.isnn (.nm 6)) (.cons (.cmp .lt (.bin .add (.nm 1) (.cst (.int 1))) (.nm 2)) (.cons (.cmp .ne (.sl2 (.nm 0) (.bin .add (.nm 1) (.cst (.int 1))) (.bin .add (.nm 1) (.cst (.int 2)))) (.cst (.bytes [93]))) .nil)))) (.cons (.aug 1 (.cst (.int 1)))
  (.cons (.ite (.cmp .eq (.sl2 (.nm 0) (.nm 1) (.bin .add (.nm 1) (.cst (.int 1)))) (.cst (.bytes [92]))) (.cons (.aug 1 (.cst (.int 1)))
  (.cons (.ite (.cmp .ge (.nm 1) (.nm 2)) (.cons (.rse (.nm 0))
  .nil) .nil)
  .nil)) .nil)
  (.cons (.ite (.cmp .le (.nm 6) (.idx (.nm 0) (.nm 1))) (.cons (.last 4 (.tup (.cons (.nm 6) (.cons (.idx (.nm 0) (.nm 1)) .nil))))
  .nil) .nil)
  (.cons (.asg 6 (.cst .none))
  .nil)))) (.cons (.ite (.bool true (.cmp .eq (.nm 8) (.cst (.bytes [91]))) (.cons (.cmp .eq (.sl2 (.nm 0) (.bin .add (.nm 1) (.cst (.int 1))) (.bin .add (.nm 1) (.cst (.int 2)))) (.cst (.bytes [58]))) .nil)) (.cons (.psx 1 6 (.nm 0) (.nm 1) 4 5)
  .nil) (.cons (.asg 6 (.idx (.nm 0) (.nm 1)))
  (.cons (.app 4 (.tup (.cons (.nm 6) (.cons (.nm 6) .nil))))
  .nil)))
  .nil))
  .nil))
  (.cons (.aug 1 (.cst (.int 1)))
  .nil))))))
noncomputable def btranslate_bracket_expression:MSs:=(.cons (.asg 2 (.bi1 .len (.nm 0)))
  (.cons (.asg 3 (.inn (.sl2 (.nm 0) (.nm 1) (.bin .add (.nm 1) (.cst (.int 1)))) (.tup (.cons (.cst (.bytes [33])) (.cons (.cst (.bytes [94])) .nil)))))
  (.cons (.ite (.nm 3) (.cons (.aug 1 (.cst (.int 1)))
  .nil) .nil)
  (.cons (.asg 4 (.lsd .nil))
  (.cons (.asg 5 (.lsd .nil))
  (.cons (.asg 6 (.cst .none))
  (.cons (.asg 7 (.cst (.bool true)))
  (.cons (.whl ctranslate_bracket_expression_1 qtranslate_bracket_expression_1)
  (.cons (.asg 9 (.bin .add (.call 1 (.cons (.nm 4) .nil)) (.join [] (.nm 5))))
  (.cons (.ite (.nm 3) (.cons (.ret (.tup (.cons (.bin .add (.nm 1) (.cst (.int 1))) (.cons (.bin .add (.bin .add (.cst (.bytes [91,94,47])) (.nm 9)) (.cst (.bytes [93]))) .nil))))
  .nil) .nil)
  (.cons (.ite (.nt (.nm 9)) (.cons (.ret (.tup (.cons (.bin .add (.nm 1) (.cst (.int 1))) (.cons (.cst (.bytes [40,63,33,41])) .nil))))
  .nil) .nil)
  (.cons (.ret (.tup (.cons (.bin .add (.nm 1) (.cst (.int 1))) (.cons (.bin .add (.bin .add (.cst (.bytes [91])) (.nm 9)) (.cst (.bytes [93]))) .nil))))
  .nil))))))))))))
noncomputable def c_translate_segment_1:ME:=(.cmp .lt (.nm 2) (.nm 3))
noncomputable def c_translate_segment_2:ME:=(.bool true (.cmp .lt (.nm 2) (.nm 3)) (.cons (.cmp .eq (.sl2 (.nm 0) (.nm 2) (.bin .add (.nm 2) (.cst (.int 1)))) (.cst (.bytes [42]))) .nil))
noncomputable def q_translate_segment_2:MSs:=(.cons (.aug 2 (.cst (.int 1)))
  .nil)
noncomputable def q_translate_segment_1:MSs:=(.cons (.asg 4 (.sl2 (.nm 0) (.nm 2) (.bin .add (.nm 2) (.cst (.int 1)))))
  (.cons (.aug 2 (.cst (.int 1)))
  (.cons (.ite (.cmp .eq (.nm 4) (.cst (.bytes [42]))) (.cons (.whl c_translate_segment_2 q_translate_segment_2)
  (.cons (.aug 1 (.cst (.bytes [91,94,47,93,42])))
  .nil)) (.cons (.ite (.cmp .eq (.nm 4) (.cst (.bytes [63]))) (.cons (.aug 1 (.cst (.bytes [91,94,47,93])))
  .nil) (.cons (.ite (.cmp .eq (.nm 4) (.cst (.bytes [92]))) (.cons (.ite (.cmp .lt (.nm 2) (.nm 3)) (.cons (.aug 1 (.call 0 (.cons (.sl2 (.nm 0) (.nm 2) (.bin .add (.nm 2) (.cst (.int 1)))) .nil)))
  (.cons (.aug 2 (.cst (.int 1)))
  .nil)) (.cons (.aug 1 (.call 0 (.cons (.nm 4) .nil)))
  .nil))
  .nil) (.cons (.ite (.cmp .eq (.nm 4) (.cst (.bytes [91]))) (.cons (.unp [2,5] (.call 3 (.cons (.nm 0) (.cons (.nm 2) .nil))))
  (.cons (.aug 1 (.nm 5))
  .nil)) (.cons (.aug 1 (.call 0 (.cons (.nm 4) .nil)))
  .nil))
  .nil))
  .nil))
  .nil))
  .nil)))
noncomputable def b_translate_segment:MSs:=(.cons (.ite (.cmp .eq (.nm 0) (.cst (.bytes [42]))) (.cons (.ret (.cst (.bytes [91,94,47,93,43])))
  .nil) .nil)
  (.cons (.asg 1 (.cst (.bytes [])))
  (.cons (.unp [2,3] (.tup (.cons (.cst (.int 0)) (.cons (.bi1 .len (.nm 0)) .nil))))
  (.cons (.whl c_translate_segment_1 q_translate_segment_1)
  (.cons (.ret (.nm 1))
  .nil)))))
noncomputable def c_split_segments_1:ME:=(.cmp .lt (.nm 3) (.bi1 .len (.nm 0)))
noncomputable def q_split_segments_1:MSs:=(.cons (.asg 4 (.sl2 (.nm 0) (.nm 3) (.bin .add (.nm 3) (.cst (.int 1)))))
  (.cons (.ite (.bool true (.cmp .eq (.nm 4) (.cst (.bytes [92]))) (.cons (.cmp .lt (.bin .add (.nm 3) (.cst (.int 1))) (.bi1 .len (.nm 0))) .nil)) (.cons (.aug 3 (.cst (.int 2)))
  .nil) (.cons (.ite (.cmp .eq (.nm 4) (.cst (.bytes [91]))) (.cons (.unp [3,5] (.call 3 (.cons (.nm 0) (.cons (.bin .add (.nm 3) (.cst (.int 1))) .nil))))
  .nil) (.cons (.ite (.cmp .eq (.nm 4) (.cst (.bytes [47]))) (.cons (.app 1 (.sl2 (.nm 0) (.nm 2) (.nm 3)))
  (.cons (.asg 2 (.bin .add (.nm 3) (.cst (.int 1))))
  .nil)) .nil)
  (.cons (.aug 3 (.cst (.int 1)))
  .nil)))
  .nil))
  .nil))
noncomputable def b_split_segments:MSs:=(.cons (.ite (.nin (.cst (.bytes [91])) (.nm 0)) (.cons (.ret (.split 47 (.nm 0)))
  .nil) .nil)
  (.cons (.asg 1 (.lsd .nil))
  (.cons (.asg2 2 3 (.cst (.int 0)))
  (.cons (.whl c_split_segments_1 q_split_segments_1)
  (.cons (.app 1 (.slL (.nm 0) (.nm 2)))
  (.cons (.ret (.nm 1))
  .nil))))))
noncomputable def b_translate_double_asterisk:MSs:=(.cons (.asg 2 (.slL (.nm 0) (.bin .add (.nm 1) (.cst (.int 1)))))
  (.cons (.ite (.allE (.nm 2)) (.cons (.ite (.nm 2) (.cons (.ret (.cst (.bytes [46,42,47])))
  .nil) .nil)
  (.cons (.ret (.cst (.bytes [46,42])))
  .nil)) .nil)
  (.cons (.ite (.cmp .eq (.nm 1) (.cst (.int 0))) (.cons (.ret (.cst (.bytes [40,63,58,46,42,47,41,63,63])))
  .nil) .nil)
  (.cons (.ret (.cst (.bytes [40,63,58,91,94,47,93,43,47,41,42])))
  .nil))))
noncomputable def q_collapse_double_asterisks_1:MSs:=(.cons (.ite (.bool true (.cmp .eq (.nm 2) (.cst (.bytes [42,42]))) (.cons (.nm 1) (.cons (.cmp .eq (.idx (.nm 1) (.cst (.int (-1)))) (.cst (.bytes [42,42]))) .nil))) (.cons .cnt
  .nil) .nil)
  (.cons (.app 1 (.nm 2))
  .nil))
noncomputable def b_collapse_double_asterisks:MSs:=(.cons (.asg 1 (.lsd .nil))
  (.cons (.for1 2 (.nm 0) q_collapse_double_asterisks_1)
  (.cons (.ret (.nm 1))
  .nil)))
noncomputable def c_translate_1:ME:=(.cmp .lt (.nm 3) (.bi1 .len (.nm 2)))
noncomputable def q_translate_1:MSs:=(.cons (.asg 4 (.idx (.nm 2) (.nm 3)))
  (.cons (.ite (.bool true (.cmp .gt (.nm 3) (.cst (.int 0))) (.cons (.cmp .ne (.idx (.nm 2) (.bin .sub (.nm 3) (.cst (.int 1)))) (.cst (.bytes [42,42]))) .nil)) (.cons (.aug 1 (.call 0 (.cons (.cst (.bytes [47])) .nil)))
  .nil) .nil)
  (.cons (.ite (.cmp .eq (.nm 4) (.cst (.bytes [42,42]))) (.cons (.asg 5 (.call 6 (.cons (.nm 2) (.cons (.nm 3) .nil))))
  (.cons (.aug 1 (.nm 5))
  (.cons (.ite (.cmp .eq (.nm 5) (.cst (.bytes [46,42]))) (.cons .brk
  .nil) .nil)
  .nil))) (.cons (.aug 1 (.call 4 (.cons (.nm 4) .nil)))
  .nil))
  (.cons (.aug 3 (.cst (.int 1)))
  .nil))))
noncomputable def b_translate:MSs:=(.cons (.ite (.cmp .eq (.nm 0) (.cst (.bytes [42,42]))) (.cons (.ret (.cst (.bytes [46,42])))
  .nil) .nil)
  (.cons (.asg 1 (.cst (.bytes [])))
  (.cons (.asg 2 (.call 7 (.cons (.call 5 (.cons (.nm 0) .nil)) .nil)))
  (.cons (.asg 3 (.cst (.int 0)))
  (.cons (.whl c_translate_1 q_translate_1)
  (.cons (.ret (.nm 1))
  .nil))))))
noncomputable def btranslate:MSs:=(.cons (.ret (.call 8 (.cons (.nm 0) .nil)))
  .nil)
noncomputable def b_law_letters:MSs:=(.cons (.ret (.lsd (.cons (.tup (.cons (.cst (.bytes [97])) (.cons (.cst (.int 97)) .nil))) (.cons (.tup (.cons (.cst (.bytes [98])) (.cons (.cst (.int 98)) .nil))) (.cons (.tup (.cons (.cst (.bytes [99])) (.cons (.cst (.int 99)) .nil))) (.cons (.tup (.cons (.cst (.bytes [120])) (.cons (.cst (.int 120)) .nil))) (.cons (.tup (.cons (.cst (.bytes [46])) (.cons (.cst (.int 46)) .nil))) (.cons (.tup (.cons (.cst (.bytes [43])) (.cons (.cst (.int 43)) .nil))) (.cons (.tup (.cons (.cst (.bytes [45])) (.cons (.cst (.int 45)) .nil))) (.cons (.tup (.cons (.cst (.bytes [93])) (.cons (.cst (.int 93)) .nil))) (.cons (.tup (.cons (.cst (.bytes [40])) (.cons (.cst (.int 40)) .nil))) (.cons (.tup (.cons (.cst (.bytes [124])) (.cons (.cst (.int 124)) .nil))) (.cons (.tup (.cons (.cst (.bytes [36])) (.cons (.cst (.int 36)) .nil))) (.cons (.tup (.cons (.cst (.bytes [94])) (.cons (.cst (.int 94)) .nil))) (.cons (.tup (.cons (.cst (.bytes [33])) (.cons (.cst (.int 33)) .nil))) (.cons (.tup (.cons (.cst (.bytes [32])) (.cons (.cst (.int 32)) .nil))) (.cons (.tup (.cons (.cst (.bytes [195])) (.cons (.cst (.int 195)) .nil))) (.cons (.tup (.cons (.cst (.bytes [55])) (.cons (.cst (.int 55)) .nil))) (.cons (.tup (.cons (.cst (.bytes [92,42])) (.cons (.cst (.int 42)) .nil))) (.cons (.tup (.cons (.cst (.bytes [92,63])) (.cons (.cst (.int 63)) .nil))) (.cons (.tup (.cons (.cst (.bytes [92,91])) (.cons (.cst (.int 91)) .nil))) (.cons (.tup (.cons (.cst (.bytes [92,92])) (.cons (.cst (.int 92)) .nil))) (.cons (.tup (.cons (.cst (.bytes [92,97])) (.cons (.cst (.int 97)) .nil))) (.cons (.tup (.cons (.cst (.bytes [35])) (.cons (.cst (.int 35)) .nil))) (.cons (.tup (.cons (.cst (.bytes [123])) (.cons (.cst (.int 123)) .nil))) (.cons (.tup (.cons (.cst (.bytes [38])) (.cons (.cst (.int 38)) .nil))) (.cons (.tup (.cons (.cst (.bytes [41])) (.cons (.cst (.int 41)) .nil))) .nil)))))))))))))))))))))))))))
  .nil)
noncomputable def b_law_tails:MSs:=(.cons (.ret (.lsd (.cons (.cst (.bytes [91])) (.cons (.cst (.bytes [91,97])) (.cons (.cst (.bytes [91,93])) (.cons (.cst (.bytes [91,33,93])) (.cons (.cst (.bytes [91,94])) (.cons (.cst (.bytes [91,97,45])) (.cons (.cst (.bytes [91,97,92])) (.cons (.cst (.bytes [91,97,45,92])) (.cons (.cst (.bytes [91,91,58])) (.cons (.cst (.bytes [91,91,58,97,108,112,104,97,58,93])) (.cons (.cst (.bytes [91,91,58,97,108,112,104,58,93,93])) (.cons (.cst (.bytes [91,91,58,65,108,112,104,97,58,93,120,93])) (.cons (.cst (.bytes [91,91,58,58,93,93])) .nil)))))))))))))))
  .nil)
noncomputable def b_law_behind:MSs:=(.cons (.ret (.lsd (.cons (.cst (.bytes [])) (.cons (.cst (.bytes [47,97])) (.cons (.cst (.bytes [120,47,42,42])) (.cons (.cst (.bytes [45,98,47,63])) .nil))))))
  .nil)
noncomputable def b_law_turned:MSs:=(.cons (.ret (.lsd (.cons (.cst (.int 97)) (.cons (.cst (.int 98)) (.cons (.cst (.int 46)) (.cons (.cst (.int 45)) (.cons (.cst (.int 93)) (.cons (.cst (.int 55)) (.cons (.cst (.int 122)) (.cons (.cst (.int 32)) (.cons (.cst (.int 195)) (.cons (.cst (.int 9)) (.cons (.cst (.int 64)) (.cons (.cst (.int 100)) (.cons (.cst (.int 96)) (.cons (.cst (.int 58)) (.cons (.cst (.int 91)) (.cons (.cst (.int 123)) (.cons (.cst (.int 71)) (.cons (.cst (.int 103)) (.cons (.cst (.int 11)) (.cons (.cst (.int 12)) (.cons (.cst (.int 31)) (.cons (.cst (.int 127)) (.cons (.cst (.int 128)) (.cons (.cst (.int 42)) .nil))))))))))))))))))))))))))
  .nil)
noncomputable def q_law_set_1:MSs:=(.cons (.ite (.bool true (.cmp .lt (.bi1 .len (.nm 8)) (.cst (.int 6))) (.cons (.cmp .ne (.nm 9) (.cst (.int 47))) (.cons (.cmp .ne (.nm 9) (.cst (.int 10))) (.cons (.call 17 (.cons (.nm 9) (.cons (.cmp .ne (.nm 1) (.cst (.int 0))) (.cons (.nm 5) .nil)))) .nil)))) (.cons (.app 8 (.nm 9))
  .nil) .nil)
  .nil)
noncomputable def q_law_set_2:MSs:=(.cons (.ite (.bool true (.bool false (.cmp .eq (.nm 0) (.cst (.int 0))) (.cons (.cmp .eq (.nm 0) (.cst (.int (-1)))) .nil)) (.cons (.cmp .ne (.nm 4) (.cst (.bytes []))) .nil)) (.cons .brk
  .nil) .nil)
  (.cons (.unp [0,7] (.bi2 .dm (.nm 0) (.cst (.int 26))))
  (.cons (.unp [4,5] (.tup (.cons (.bin .add (.nm 4) (.idx (.idx (.gl 1) (.nm 7)) (.cst (.int 0)))) (.cons (.bin .add (.nm 5) (.idx (.idx (.gl 1) (.nm 7)) (.cst (.int 1)))) .nil))))
  .nil)))
noncomputable def b_law_set:MSs:=(.cons (.unp [0,1] (.bi2 .dm (.nm 0) (.cst (.int 3))))
  (.cons (.unp [0,2] (.bi2 .dm (.nm 0) (.cst (.int 3))))
  (.cons (.unp [0,3] (.bi2 .dm (.nm 0) (.cst (.int 4))))
  (.cons (.unp [4,5] (.idx (.gl 2) (.nm 2)))
  (.cons (.forR 6 2 q_law_set_2)
  (.cons (.asg 5 (.bin .add (.nm 5) (.idx (.idx (.gl 3) (.nm 3)) (.cst (.int 1)))))
  (.cons (.asg 8 (.lsd .nil))
  (.cons (.for1 9 (.ife (.cmp .ne (.nm 1) (.cst (.int 0))) (.gl 4) (.bin .add (.lc2 (.slH (.nm 5) (.cst (.int 4)))) (.gl 4))) q_law_set_1)
  (.cons (.ret (.tup (.cons (.bin .add (.bin .add (.bin .add (.bin .add (.cst (.bytes [91])) (.idx (.lsd (.cons (.cst (.bytes [])) (.cons (.cst (.bytes [33])) (.cons (.cst (.bytes [94])) .nil)))) (.nm 1))) (.nm 4)) (.idx (.idx (.gl 3) (.nm 3)) (.cst (.int 0)))) (.cst (.bytes [93]))) (.cons (.cst (.bool false)) (.cons (.cmp .ne (.nm 1) (.cst (.int 0))) (.cons (.nm 5) (.cons (.nm 8) .nil)))))))
  .nil)))))))))
noncomputable def q_law_pattern_1:MSs:=(.cons (.unp [5,6] (.bi2 .dm (.nm 4) (.cst (.int 16))))
  (.cons (.ite (.bool false (.cmp .eq (.nm 6) (.cst (.int 12))) (.cons (.cmp .eq (.nm 6) (.cst (.int 13))) (.cons (.cmp .eq (.nm 6) (.cst (.int 14))) .nil))) (.cons (.ite (.cmp .ne (.nm 2) (.lsd .nil)) (.cons (.app 1 (.nm 2))
  .nil) .nil)
  (.cons (.asg 2 (.lsd .nil))
  (.cons (.ite (.cmp .eq (.nm 6) (.cst (.int 14))) (.cons (.app 1 (.lsd .nil))
  .nil) .nil)
  .nil))) (.cons (.ite (.bool false (.cmp .eq (.nm 6) (.cst (.int 5))) (.cons (.cmp .eq (.nm 6) (.cst (.int 6))) .nil)) (.cons (.app 2 (.tup (.cons (.cst (.bytes [63])) (.cons (.cst (.bool false)) (.cons (.cst (.bool true)) (.cons (.lsd .nil) (.cons (.gl 4) .nil)))))))
  .nil) (.cons (.ite (.bool false (.cmp .eq (.nm 6) (.cst (.int 7))) (.cons (.cmp .eq (.nm 6) (.cst (.int 8))) .nil)) (.cons (.app 2 (.tup (.cons (.ife (.cmp .eq (.bin .mod (.nm 5) (.cst (.int 3))) (.cst (.int 2))) (.cst (.bytes [42,42])) (.cst (.bytes [42]))) (.cons (.cst (.bool true)) (.cons (.cst (.bool true)) (.cons (.lsd .nil) (.cons (.lsd .nil) .nil)))))))
  .nil) (.cons (.ite (.bool false (.cmp .eq (.nm 6) (.cst (.int 9))) (.cons (.cmp .eq (.nm 6) (.cst (.int 10))) (.cons (.cmp .eq (.nm 6) (.cst (.int 11))) .nil))) (.cons (.app 2 (.call 14 (.cons (.nm 5) .nil)))
  .nil) (.cons (.ite (.bool true (.cmp .eq (.nm 6) (.cst (.int 15))) (.cons (.cmp .eq (.bin .mod (.nm 5) (.cst (.int 3))) (.cst (.int 1))) .nil)) (.cons (.asg 3 (.bin .add (.idx (.call 11 .nil) (.bin .mod (.bin .div (.nm 5) (.cst (.int 3))) (.cst (.int 13)))) (.idx (.call 12 .nil) (.bin .mod (.bin .div (.nm 5) (.cst (.int 39))) (.cst (.int 4))))))
  .nil) (.cons (.unp [7,8] (.idx (.call 10 .nil) (.bin .mod (.nm 5) (.cst (.int 25)))))
  (.cons (.app 2 (.tup (.cons (.nm 7) (.cons (.cst (.bool false)) (.cons (.cst (.bool false)) (.cons (.lsd (.cons (.tup (.cons (.nm 8) (.cons (.nm 8) .nil))) .nil)) (.cons (.lsd (.cons (.nm 8) .nil)) .nil)))))))
  .nil)))
  .nil))
  .nil))
  .nil))
  .nil))
  .nil))
noncomputable def b_law_pattern:MSs:=(.cons (.init3 1 2 3)
  (.cons (.for1 4 (.nm 0) q_law_pattern_1)
  (.cons (.ite (.bool false (.cmp .ne (.nm 2) (.lsd .nil)) (.cons (.cmp .eq (.nm 1) (.lsd .nil)) .nil)) (.cons (.app 1 (.ife (.cmp .ne (.nm 2) (.lsd .nil)) (.nm 2) (.lsd (.cons (.tup (.cons (.cst (.bytes [97])) (.cons (.cst (.bool false)) (.cons (.cst (.bool false)) (.cons (.lsd (.cons (.tup (.cons (.cst (.int 97)) (.cons (.cst (.int 97)) .nil))) .nil)) (.cons (.lsd (.cons (.cst (.int 97)) .nil)) .nil)))))) .nil))))
  .nil) .nil)
  (.cons (.ret (.tup (.cons (.nm 1) (.cons (.nm 3) .nil))))
  .nil))))
noncomputable def b_law_text:MSs:=(.cons (.ite (.cmp .eq (.nm 0) (.lsd .nil)) (.cons (.ret (.cst (.bytes [42,42])))
  .nil) .nil)
  (.cons (.ite (.nin (.cst (.bool false)) (.lc (.nm 2) 5 (.nm 0) .nil)) (.cons (.ret (.cst (.bytes [42])))
  .nil) .nil)
  (.cons (.ret (.join [] (.lc (.nm 1) 5 (.nm 0) .nil)))
  .nil)))
noncomputable def b_law_holds:MSs:=(.cons (.ret (.cmp .ne (.nm 1) (.inn (.cst (.bool true)) (.lc (.cmp3 (.nm 3) (.nm 0) (.nm 4)) 2 (.nm 2) .nil))))
  .nil)
noncomputable def q_law_part_1:MSs:=(.cons (.ite (.nm 4) (.cons (.asg 2 (.ife (.nm 2) (.rng (.idx (.nm 2) (.cst (.int 0))) (.bin .add (.bi1 .len (.nm 1)) (.cst (.int 1)))) (.lsd .nil)))
  .nil) (.cons (.asgl 2 (.bin .add (.nm 8) (.cst (.int 1))) 0 (.nm 2) (.cons (.bool true (.cmp .lt (.nm 8) (.bi1 .len (.nm 1))) (.cons (.call 17 (.cons (.idx (.nm 1) (.nm 8)) (.cons (.nm 5) (.cons (.nm 6) .nil)))) .nil)) .nil))
  .nil))
  .nil)
noncomputable def b_law_part:MSs:=(.cons (.asg 2 (.lsd (.cons (.cst (.int 0)) .nil)))
  (.cons (.forT [3,4,5,6,7] (.nm 0) q_law_part_1)
  (.cons (.ret (.inn (.bi1 .len (.nm 1)) (.nm 2)))
  .nil)))
noncomputable def q_law_fits_1:MSs:=(.cons (.ite (.cmp .ne (.nm 4) (.lsd .nil)) (.cons (.asgl 2 (.bin .add (.nm 5) (.cst (.int 1))) 0 (.nm 2) (.cons (.bool true (.cmp .lt (.nm 5) (.bi1 .len (.nm 1))) (.cons (.call 18 (.cons (.nm 4) (.cons (.idx (.nm 1) (.nm 5)) .nil))) .nil)) .nil))
  .nil) (.cons (.ite (.cmp .eq (.nm 3) (.bin .sub (.bi1 .len (.nm 0)) (.cst (.int 1)))) (.cons (.asg 2 (.ife (.bool true (.nm 2) (.cons (.cmp .lt (.idx (.nm 2) (.cst (.int 0))) (.bi1 .len (.nm 1))) .nil)) (.lsd (.cons (.bi1 .len (.nm 1)) .nil)) (.lsd .nil)))
  .nil) (.cons (.asg 2 (.ife (.nm 2) (.rng (.idx (.nm 2) (.cst (.int 0))) (.bin .add (.bi1 .len (.nm 1)) (.cst (.int 1)))) (.lsd .nil)))
  .nil))
  .nil))
  .nil)
noncomputable def b_law_fits:MSs:=(.cons (.asg 2 (.lsd (.cons (.cst (.int 0)) .nil)))
  (.cons (.forE 3 4 (.nm 0) q_law_fits_1)
  (.cons (.ret (.inn (.bi1 .len (.nm 1)) (.nm 2)))
  .nil)))
noncomputable def q_law_sample_2:MSs:=(.cons (.ite (.nm 7) (.cons (.asg 5 (.bin .add (.nm 5) (.slH (.lsd (.cons (.cst (.int 120)) (.cons (.cst (.int 97)) .nil))) (.bin .mod (.nm 4) (.cst (.int 3))))))
  .nil) (.cons (.app 5 (.ife (.nm 10) (.idx (.nm 10) (.bin .mod (.bin .add (.nm 4) (.bi1 .len (.nm 5))) (.bi1 .len (.nm 10)))) (.cst (.int 97))))
  .nil))
  .nil)
noncomputable def q_law_sample_1:MSs:=(.cons (.unp [1,4] (.bi2 .dm (.nm 1) (.cst (.int 12))))
  (.cons (.ite (.cmp .eq (.nm 3) (.lsd .nil)) (.cons (.asg 2 (.bin .add (.nm 2) (.slH (.lsd (.cons (.lsd (.cons (.cst (.int 97)) .nil)) (.cons (.lsd (.cons (.cst (.int 98)) (.cons (.cst (.int 46)) .nil))) .nil))) (.ife (.cmp .lt (.bi1 .len (.nm 2)) (.cst (.int 3))) (.bin .mod (.nm 4) (.cst (.int 3))) (.bin .mod (.nm 4) (.cst (.int 2)))))))
  .nil) (.cons (.asg 5 (.lsd .nil))
  (.cons (.forT [6,7,8,9,10] (.nm 3) q_law_sample_2)
  (.cons (.app 2 (.ife (.cmp .ne (.nm 5) (.lsd .nil)) (.nm 5) (.lsd (.cons (.cst (.int 98)) .nil))))
  .nil))))
  .nil))
noncomputable def b_law_sample:MSs:=(.cons (.asg 2 (.lsd .nil))
  (.cons (.for1 3 (.nm 0) q_law_sample_1)
  (.cons (.ret (.ife (.cmp .ne (.nm 2) (.lsd .nil)) (.nm 2) (.lsd (.cons (.lsd (.cons (.cst (.int 97)) .nil)) .nil))))
  .nil)))
noncomputable def b_law_name:MSs:=(.cons (.unp [1,2] (.bi2 .dm (.nm 1) (.cst (.int 6))))
  (.cons (.unp [1,3] (.bi2 .dm (.nm 1) (.cst (.int 7))))
  (.cons (.unp [1,4] (.bi2 .dm (.nm 1) (.cst (.int 13))))
  (.cons (.unp [1,5] (.bi2 .dm (.nm 1) (.cst (.int 512))))
  (.cons (.asg 6 (.call 20 (.cons (.nm 0) (.cons (.nm 1) .nil))))
  (.cons (.asg 7 (.bin .mod (.nm 3) (.bi1 .len (.nm 6))))
  (.cons (.asg 8 (.idx (.nm 6) (.nm 7)))
  (.cons (.asg 9 (.bin .mod (.nm 4) (.bi1 .len (.nm 8))))
  (.cons (.asg 10 (.ife (.cmp .lt (.nm 5) (.cst (.int 256))) (.idx (.call 13 .nil) (.bin .mod (.nm 5) (.cst (.int 24)))) (.bin .sub (.nm 5) (.cst (.int 256)))))
  (.cons (.ite (.bool false (.cmp .eq (.nm 10) (.cst (.int 47))) (.cons (.cmp .eq (.nm 10) (.cst (.int 10))) .nil)) (.cons (.asg 10 (.cst (.int 98)))
  .nil) .nil)
  (.cons (.ite (.cmp .eq (.nm 2) (.cst (.int 1))) (.cons (.asg 8 (.bin .add (.bin .add (.slH (.nm 8) (.nm 9)) (.lsd (.cons (.nm 10) .nil))) (.slL (.nm 8) (.bin .add (.nm 9) (.cst (.int 1))))))
  .nil) (.cons (.ite (.cmp .eq (.nm 2) (.cst (.int 2))) (.cons (.asg 8 (.bin .add (.bin .add (.slH (.nm 8) (.nm 9)) (.lsd (.cons (.nm 10) .nil))) (.slL (.nm 8) (.nm 9))))
  .nil) (.cons (.ite (.bool true (.cmp .eq (.nm 2) (.cst (.int 3))) (.cons (.cmp .gt (.bi1 .len (.nm 8)) (.cst (.int 1))) .nil)) (.cons (.asg 8 (.bin .add (.slH (.nm 8) (.nm 9)) (.slL (.nm 8) (.bin .add (.nm 9) (.cst (.int 1))))))
  .nil) .nil)
  .nil))
  .nil))
  (.cons (.asg 6 (.bin .add (.bin .add (.slH (.nm 6) (.nm 7)) (.lsd (.cons (.nm 8) .nil))) (.slL (.nm 6) (.bin .add (.nm 7) (.cst (.int 1))))))
  (.cons (.ite (.cmp .eq (.nm 2) (.cst (.int 4))) (.cons (.asg 6 (.bin .add (.bin .add (.slH (.nm 6) (.nm 7)) (.lsd (.cons (.lsd (.cons (.nm 10) .nil)) .nil))) (.slL (.nm 6) (.nm 7))))
  .nil) (.cons (.ite (.bool true (.cmp .eq (.nm 2) (.cst (.int 5))) (.cons (.cmp .gt (.bi1 .len (.nm 6)) (.cst (.int 1))) .nil)) (.cons (.asg 6 (.bin .add (.slH (.nm 6) (.nm 7)) (.slL (.nm 6) (.bin .add (.nm 7) (.cst (.int 1))))))
  .nil) .nil)
  .nil))
  (.cons (.ret (.lc (.bi1 .byt (.nm 11)) 0 (.nm 6) .nil))
  .nil))))))))))))))
noncomputable def b_law_hex:MSs:=(.cons (.ret (.ife (.cmp .lt (.nm 0) (.cst (.int 58))) (.bin .sub (.nm 0) (.cst (.int 48))) (.bin .sub (.nm 0) (.cst (.int 87)))))
  .nil)
noncomputable def b_law_sign:MSs:=(.cons (.ite (.cmp .ne (.idx (.nm 0) (.nm 1)) (.cst (.int 92))) (.cons (.ret (.tup (.cons (.idx (.nm 0) (.nm 1)) (.cons (.bin .add (.nm 1) (.cst (.int 1))) .nil))))
  .nil) .nil)
  (.cons (.asg 2 (.idx (.nm 0) (.bin .add (.nm 1) (.cst (.int 1)))))
  (.cons (.ite (.cmp .eq (.nm 2) (.cst (.int 120))) (.cons (.ret (.tup (.cons (.bin .add (.bin .mul (.cst (.int 16)) (.call 22 (.cons (.idx (.nm 0) (.bin .add (.nm 1) (.cst (.int 2)))) .nil))) (.call 22 (.cons (.idx (.nm 0) (.bin .add (.nm 1) (.cst (.int 3)))) .nil))) (.cons (.bin .add (.nm 1) (.cst (.int 4))) .nil))))
  .nil) .nil)
  (.cons (.ret (.tup (.cons (.getd (.nm 2)) (.cons (.bin .add (.nm 1) (.cst (.int 2))) .nil))))
  .nil))))
noncomputable def c_law_class_1:ME:=(.cmp .ne (.idx (.nm 0) (.nm 1)) (.cst (.int 93)))
noncomputable def q_law_class_1:MSs:=(.cons (.unp [4,1] (.call 23 (.cons (.nm 0) (.cons (.nm 1) .nil))))
  (.cons (.asg 5 (.nm 4))
  (.cons (.ite (.cmp .eq (.idx (.nm 0) (.nm 1)) (.cst (.int 45))) (.cons (.unp [5,1] (.call 23 (.cons (.nm 0) (.cons (.bin .add (.nm 1) (.cst (.int 1))) .nil))))
  .nil) .nil)
  (.cons (.app 3 (.tup (.cons (.nm 4) (.cons (.nm 5) .nil))))
  .nil))))
noncomputable def b_law_class:MSs:=(.cons (.asg 2 (.cmp .eq (.idx (.nm 0) (.nm 1)) (.cst (.int 94))))
  (.cons (.ite (.nm 2) (.cons (.aug 1 (.cst (.int 1)))
  .nil) .nil)
  (.cons (.asg 3 (.lsd .nil))
  (.cons (.whl c_law_class_1 q_law_class_1)
  (.cons (.ret (.tup (.cons (.tup (.cons (.nm 2) (.cons (.nm 3) .nil))) (.cons (.bin .add (.nm 1) (.cst (.int 1))) .nil))))
  .nil)))))
noncomputable def c_law_items_1:ME:=(.bool true (.cmp .lt (.nm 1) (.bi1 .len (.nm 0))) (.cons (.cmp .ne (.idx (.nm 0) (.nm 1)) (.cst (.int 41))) .nil))
noncomputable def q_law_items_1:MSs:=(.cons (.ite (.cmp .eq (.sl2 (.nm 0) (.nm 1) (.bin .add (.nm 1) (.cst (.int 4)))) (.cst (.bytes [40,63,33,41]))) (.cons (.unp [3,1] (.tup (.cons (.cst .none) (.cons (.bin .add (.nm 1) (.cst (.int 4))) .nil))))
  .nil) (.cons (.ite (.cmp .eq (.idx (.nm 0) (.nm 1)) (.cst (.int 40))) (.cons (.unp [3,1] (.call 25 (.cons (.nm 0) (.cons (.bin .add (.nm 1) (.ife (.cmp .eq (.sl2 (.nm 0) (.nm 1) (.bin .add (.nm 1) (.cst (.int 3)))) (.cst (.bytes [40,63,58]))) (.cst (.int 3)) (.cst (.int 1)))) .nil))))
  (.cons (.aug 1 (.cst (.int 1)))
  .nil)) (.cons (.ite (.cmp .eq (.idx (.nm 0) (.nm 1)) (.cst (.int 91))) (.cons (.unp [3,1] (.call 24 (.cons (.nm 0) (.cons (.bin .add (.nm 1) (.cst (.int 1))) .nil))))
  .nil) (.cons (.ite (.cmp .eq (.idx (.nm 0) (.nm 1)) (.cst (.int 46))) (.cons (.unp [3,1] (.tup (.cons (.tup (.cons (.cst (.bool true)) (.cons (.lsd .nil) .nil))) (.cons (.bin .add (.nm 1) (.cst (.int 1))) .nil))))
  .nil) (.cons (.unp [4,1] (.call 23 (.cons (.nm 0) (.cons (.nm 1) .nil))))
  (.cons (.asg 3 (.tup (.cons (.cst (.bool false)) (.cons (.lsd (.cons (.tup (.cons (.nm 4) (.cons (.nm 4) .nil))) .nil)) .nil))))
  .nil)))
  .nil))
  .nil))
  .nil))
  (.cons (.asg 5 (.ife (.cmp .lt (.nm 1) (.bi1 .len (.nm 0))) (.idx (.nm 0) (.nm 1)) (.cst (.int 0))))
  (.cons (.asg 6 (.bool false (.cmp .eq (.nm 5) (.cst (.int 42))) (.cons (.cmp .eq (.nm 5) (.cst (.int 43))) .nil)))
  (.cons (.ite (.bool false (.nm 6) (.cons (.cmp .eq (.nm 5) (.cst (.int 63))) .nil)) (.cons (.aug 1 (.cst (.int 1)))
  (.cons (.ite (.bool true (.cmp .lt (.nm 1) (.bi1 .len (.nm 0))) (.cons (.cmp .eq (.idx (.nm 0) (.nm 1)) (.cst (.int 63))) .nil)) (.cons (.aug 1 (.cst (.int 1)))
  .nil) .nil)
  .nil)) .nil)
  (.cons (.app 2 (.tup (.cons (.nm 3) (.cons (.bool false (.cmp .eq (.nm 5) (.cst (.int 42))) (.cons (.cmp .eq (.nm 5) (.cst (.int 63))) .nil)) (.cons (.nm 6) .nil)))))
  .nil)))))
noncomputable def b_law_items:MSs:=(.cons (.asg 2 (.lsd .nil))
  (.cons (.whl c_law_items_1 q_law_items_1)
  (.cons (.ret (.tup (.cons (.nm 2) (.cons (.nm 1) .nil))))
  .nil)))
noncomputable def b_law_step:MSs:=(.cons (.ite (.isn (.nm 0)) (.cons (.ret (.lsd .nil))
  .nil) .nil)
  (.cons (.ite (.bi1 .isl (.nm 0)) (.cons (.ret (.call 27 (.cons (.nm 0) (.cons (.nm 1) (.cons (.nm 2) .nil)))))
  .nil) .nil)
  (.cons (.ret (.lc (.bin .add (.nm 3) (.cst (.int 1))) 0 (.nm 2) (.cons (.bool true (.cmp .lt (.nm 3) (.bi1 .len (.nm 1))) (.cons (.call 17 (.cons (.idx (.nm 1) (.nm 3)) (.cons (.idx (.nm 0) (.cst (.int 0))) (.cons (.idx (.nm 0) (.cst (.int 1))) .nil)))) .nil)) .nil)))
  .nil)))
noncomputable def c_law_reach_2:ME:=(.nm 7)
noncomputable def q_law_reach_2:MSs:=(.cons (.asgl 7 (.nm 8) 0 (.call 26 (.cons (.nm 3) (.cons (.nm 1) (.cons (.nm 7) .nil)))) (.cons (.nin (.nm 8) (.nm 6)) .nil))
  (.cons (.asg 6 (.bin .add (.nm 6) (.nm 7)))
  (.cons (.ite (.nt (.nm 5)) (.cons .brk
  .nil) .nil)
  .nil)))
noncomputable def q_law_reach_1:MSs:=(.cons (.asg 6 (.ife (.nm 4) (.bi1 .lst (.nm 2)) (.lsd .nil)))
  (.cons (.asg 7 (.nm 2))
  (.cons (.whl c_law_reach_2 q_law_reach_2)
  (.cons (.asg 2 (.nm 6))
  .nil))))
noncomputable def b_law_reach:MSs:=(.cons (.forT [3,4,5] (.nm 0) q_law_reach_1)
  (.cons (.ret (.nm 2))
  .nil))
noncomputable def b_lawA:MSs:=(.cons (.asg 1 (.slH (.nm 0) (.cst (.int 8))))
  (.cons (.unp [2,3] (.call 15 (.cons (.nm 1) .nil)))
  (.cons (.asg 4 (.bin .add (.join [47] (.lc (.call 16 (.cons (.nm 11) .nil)) 0 (.nm 2) .nil)) (.nm 3)))
  .nil)))
noncomputable def qlawD_1:MSs:=(.cons (.asg 9 (.call 21 (.cons (.nm 2) (.cons (.nm 8) .nil))))
  (.cons (.asg 10 (.join [47] (.nm 9)))
  (.cons (.ite (.cmp .ne (.inn (.bi1 .len (.nm 10)) (.call 27 (.cons (.nm 6) (.cons (.nm 10) (.cons (.lsd (.cons (.cst (.int 0)) .nil)) .nil))))) (.call 19 (.cons (.nm 2) (.cons (.nm 9) .nil)))) (.cons (.ret (.cst (.bool false)))
  .nil) .nil)
  .nil)))
noncomputable def b_lawD:MSs:=(.cons (.ite (.bool false (.cmp .ne (.nm 3) (.cst (.bytes []))) (.cons (.nt (.bi1 .isb (.nm 5))) .nil)) (.cons (.ret (.cst (.bool false)))
  .nil) .nil)
  (.cons (.unp [6,7] (.call 25 (.cons (.nm 5) (.cons (.cst (.int 0)) .nil))))
  (.cons (.ite (.cmp .ne (.nm 7) (.bi1 .len (.nm 5))) (.cons (.ret (.cst (.bool false)))
  .nil) .nil)
  (.cons (.for1 8 (.bin .add (.lsd (.cons (.cst (.int 0)) (.cons (.cst (.int 75885229056)) .nil))) (.slL (.nm 1) (.cst (.int (-3))))) qlawD_1)
  (.cons (.ret (.cst (.bool true)))
  .nil)))))
noncomputable def f_escape:MFun:=⟨"_escape",1,["octets","out","octet"],b_escape⟩
noncomputable def f_render:MFun:=⟨"_render",1,["members","out","low","high","a","b","piece"],b_render⟩
noncomputable def f_posix_class:MFun:=⟨"_posix_class",4,["pattern","i","members","classes","start","j"],b_posix_class⟩
noncomputable def ftranslate_bracket_expression:MFun:=⟨"translate_bracket_expression",2,["pattern","i","n","negated","members","classes","prev","first","c","body"],btranslate_bracket_expression⟩
noncomputable def f_translate_segment:MFun:=⟨"_translate_segment",1,["segment","res","i","n","c","bracket"],b_translate_segment⟩
noncomputable def f_split_segments:MFun:=⟨"_split_segments",1,["pat","segments","start","i","c","_bracket"],b_split_segments⟩
noncomputable def f_translate_double_asterisk:MFun:=⟨"_translate_double_asterisk",2,["segments","i","remaining"],b_translate_double_asterisk⟩
noncomputable def f_collapse_double_asterisks:MFun:=⟨"_collapse_double_asterisks",1,["segments","collapsed","segment"],b_collapse_double_asterisks⟩
noncomputable def f_translate:MFun:=⟨"_translate",1,["pat","res","segments","i","segment","regex_part"],b_translate⟩
noncomputable def ftranslate:MFun:=⟨"translate",1,["pattern"],btranslate⟩
noncomputable def f_law_letters:MFun:=⟨"_law_letters",0,[],b_law_letters⟩
noncomputable def f_law_tails:MFun:=⟨"_law_tails",0,[],b_law_tails⟩
noncomputable def f_law_behind:MFun:=⟨"_law_behind",0,[],b_law_behind⟩
noncomputable def f_law_turned:MFun:=⟨"_law_turned",0,[],b_law_turned⟩
noncomputable def f_law_set:MFun:=⟨"_law_set",1,["rest","sign","first","last","text","ranges","turn","part","fit","octet"],b_law_set⟩
noncomputable def f_law_pattern:MFun:=⟨"_law_pattern",1,["numbers","comps","part","tail","number","rest","kind","text","octet"],b_law_pattern⟩
noncomputable def f_law_text:MFun:=⟨"_law_text",1,["comp"],b_law_text⟩
noncomputable def f_law_holds:MFun:=⟨"_law_holds",3,["octet","negated","ranges"],b_law_holds⟩
noncomputable def f_law_part:MFun:=⟨"_law_part",2,["comp","part","places","text","many","negated","ranges","fit"],b_law_part⟩
noncomputable def f_law_fits:MFun:=⟨"_law_fits",2,["comps","parts","places","turn","comp"],b_law_fits⟩
noncomputable def f_law_sample:MFun:=⟨"_law_sample",2,["comps","number","parts","comp","draw","part","text","many","negated","ranges","fit"],b_law_sample⟩
noncomputable def f_law_name:MFun:=⟨"_law_name",2,["comps","number","way","spot","draw","turned","parts","k","part","place","octet"],b_law_name⟩
noncomputable def f_law_hex:MFun:=⟨"_law_hex",1,["octet"],b_law_hex⟩
noncomputable def f_law_sign:MFun:=⟨"_law_sign",2,["regex","place","sign"],b_law_sign⟩
noncomputable def f_law_class:MFun:=⟨"_law_class",2,["regex","place","negated","ranges","low","high"],b_law_class⟩
noncomputable def f_law_items:MFun:=⟨"_law_items",2,["regex","place","items","item","low","follow","many"],b_law_items⟩
noncomputable def f_law_step:MFun:=⟨"_law_step",3,["item","name","places"],b_law_step⟩
noncomputable def f_law_reach:MFun:=⟨"_law_reach",3,["items","name","places","item","none","many","told","fresh"],b_law_reach⟩
noncomputable def lawA:MSs:=b_lawA
noncomputable def lawD:MSs:=b_lawD
noncomputable def lawVars:List String:=["script","numbers","comps","tail","pattern","regex","items","place","number","parts","name"]
noncomputable def fsAll:List MFun:=[f_escape,f_render,f_posix_class,ftranslate_bracket_expression,f_translate_segment,f_split_segments,f_translate_double_asterisk,f_collapse_double_asterisks,f_translate,ftranslate,f_law_letters,f_law_tails,f_law_behind,f_law_turned,f_law_set,f_law_pattern,f_law_text,f_law_holds,f_law_part,f_law_fits,f_law_sample,f_law_name,f_law_hex,f_law_sign,f_law_class,f_law_items,f_law_step,f_law_reach]
section
open PySem PySem.W PyProof.Rows PySem.Calls
section
variable {p:dC} {w:cF} {n₀:Nat} {ann:Option aD} {b:List cI} {env:Env} {q:Pos}
noncomputable def Go (p:dC) (w:cF) (n₀:Nat) (ann:Option aD) (k:Nat) (s:aC) (t:Thread) (s':aC) (t':Thread):Prop:=∃ n,n <= k/\topGo treeTable p w n₀ ann n s t = some (s',t')
theorem zh4:∀ {n m:Nat} {s s' s'':aC} {t t' t'':Thread},topGo treeTable p w n₀ ann n s t = some (s',t')->topGo treeTable p w n₀ ann m s' t' = some (s'',t'')->topGo treeTable p w n₀ ann (n+m) s t = some (s'',t'')
 | 0,m,s,s',s'',t,t',t'',h,k=>by
  obtain ⟨rfl,rfl⟩:s = s'/\t = t':=by simpa [topGo] using h
  rw [Nat.zero_add]; exact k
 | n+1,m,s,s',s'',t,t',t'',h,k=>by
  rw [show n+1+m = n+m+1 by omega];unfold topGo at h |-
  cases ht:through t with
  | true=>rw [ht] at h; cases h
  | false =>
   rw [ht] at h
   cases hk:stepOk n₀ ann t with
   | false=>rw [hk] at h; cases h
   | true =>
    rw [hk] at h
    cases hs:step (denote treeTable) p w s t with
    | halt o s₂=>rw [hs] at h; cases h
    | go s₂ t₂=>rw [hs] at h; exact zh4 h k
theorem Go.refl {s:aC} {t:Thread}:Go p w n₀ ann 0 s t s t:=⟨0,dD _,rfl⟩
theorem Go.trans {j k:Nat} {s s' s'':aC} {t t' t'':Thread}:Go p w n₀ ann j s t s' t'->Go p w n₀ ann k s' t' s'' t''->Go p w n₀ ann (j+k) s t s'' t'':=fun ⟨n,a,h⟩ ⟨m,b,k⟩=>⟨n+m,Nat.add_le_add a b,zh4 h k⟩
theorem Go.one {s s':aC} {t t':Thread} (h1:through t = false) (h2:stepOk n₀ ann t = true) (h3:step (denote treeTable) p w s t = .go s' t'):Go p w n₀ ann 1 s t s' t':=⟨1,dD _,by simp only [topGo,h1,h2,h3]⟩
noncomputable def Rn (p:dC) (w:cF) (n₀:Nat) (ann:Option aD) (b:List cI) (env:Env) (q:Pos) (k:Nat) {α:Type} (m:Sem α) (s:aC) (pos:Pos) (a:α) (s':aC) (pos':Pos):Prop :=
 ∀ (K:α->Sem Fin) (H:aD->Sem Fin) (gd:Bool->Bool) (lv:List aD->List aD),Go p w n₀ ann k s ⟨m.wrap K H gd lv,.body b env,pos,[topFrame q]⟩ s' ⟨K a,.body b env,pos',[topFrame q]⟩
section
variable {α β:Type} {s s' s'':aC} {pos pos' pos'':Pos}
theorem Rn.le {j k:Nat} {m:Sem α} {a:α} (h:Rn p w n₀ ann b env q j m s pos a s' pos') (e:j <= k):Rn p w n₀ ann b env q k m s pos a s' pos':=fun K H gd lv=>let ⟨n,x,y⟩:=h K H gd lv; ⟨n,cY x e,y⟩
theorem Rn.pure {k:Nat} {a:α}:Rn p w n₀ ann b env q k (Pure.pure a:Sem α) s pos a s pos:=fun O O O O=>⟨0,Nat.zero_le _,rfl⟩
theorem Rn.bind {k:Nat} (i:Nat) {m:Sem α} {f:α->Sem β} {a:α} {r:β} (h:Rn p w n₀ ann b env q i m s pos a s' pos') (g:Rn p w n₀ ann b env q (k - i) (f a) s' pos' r s'' pos'') (hk:i <= k:=by omega):Rn p w n₀ ann b env q k (m >>= f) s pos r s'' pos'':=fun K H gd lv=>by
 have e:(m >>= f).wrap K H gd lv = m.wrap (fun a=>(f a).wrap K H gd lv) H gd lv:=by
  rw [Sem.bind_eq_wrap',Sem.wrap_wrap];rfl
 rw [e];have:=(h (fun a=>(f a).wrap K H gd lv) H gd lv).trans (g K H gd lv);rwa [show i+(k - i) = k by omega] at this
theorem Rn.keep {i:Nat} {m:Sem α} {a:α} {vs:List aD} (h:Rn p w n₀ ann b env q i m s pos a s' pos'):Rn p w n₀ ann b env q i (m.keep vs) s pos a s' pos':=fun K H gd lv=>by
 have e:(m.keep vs).wrap K H gd lv = m.wrap K H gd (fun l=>lv (vs++l)):=by
  rw [Sem.keep_eq_wrap,Sem.wrap_wrap];rfl
 rw [e];exact h _ _ _ _
theorem Rn.holding {i:Nat} {m:Sem α} {a:α} {vs:List aD} (h:Rn p w n₀ ann b env q i m s pos a s' pos'):Rn p w n₀ ann b env q i (holding vs m) s pos a s' pos':=by
 unfold PySem.holding
 split
 ·exact h
 ·exact h.keep
theorem Rn.rule {k:Nat} {t:String} (hk:1 <= k:=by omega):Rn p w n₀ ann b env q k (PySem.rule t) s pos () s pos:=Rn.le (fun O O O O=>.one rfl rfl rfl) hk
theorem Rn.ask {k:Nat} (hk:1 <= k:=by omega):Rn p w n₀ ann b env q k (PySem.ask) s pos ⟨p,w.params⟩ s pos:=Rn.le (fun O O O O=>.one rfl rfl rfl) hk
theorem Rn.loadPart {k:Nat} {a:aN} {part:Option aD} {o:Obj} (h:s.heap.get? a = some o) (hk:1 <= k:=by omega):Rn p w n₀ ann b env q k (PySem.loadPart a part) s pos o s pos:=Rn.le (j:=1) (fun O O O O=>by
 obtain ⟨heap,gens,drawn,toks,os⟩:=s;refine .one rfl rfl ?_;show step _ _ _ _ ⟨.load a part _,_,_,_⟩ = _;simp only [step,h];rfl) hk
theorem Rn.updatePart {k:Nat} {a:aN} {part:Option aD} {f:Obj->Obj} {o:Obj} (h:s.heap.get? a = some o) (ha:n₀ <= a) (hk:1 <= k:=by omega):Rn p w n₀ ann b env q k (PySem.updatePart a part f) s pos () { s with heap:=s.heap.update a f } pos:=Rn.le (j:=1) (fun O O O O=>by
 obtain ⟨heap,gens,drawn,toks,os⟩:=s;refine .one rfl ?_ ?_
 ·show stepOk _ _ ⟨.update a part f _,_,_,_⟩ = true;unfold stepOk;simp only [bB,eQ,Nat.ble_eq];exact ⟨rfl,.inl (.inl (.inl ha))⟩
 ·show step _ _ _ _ ⟨.update a part f _,_,_,_⟩ = _;have h':(heap.get? a).isSome = true:=by rw [show heap.get? a = some o from h]; rfl
  simp only [step,h',if_true];rfl) hk
theorem Rn.standAt {k:Nat} {p':Pos} (hk:1 <= k:=by omega):Rn p w n₀ ann b env q k (PySem.standAt p') s pos () s p':=Rn.le (fun O O O O=>.one rfl rfl rfl) hk
end
end
noncomputable def bh (P:Params) (b:Array UInt8):Int:=PyData.keyHash P ⟨b.map (fun O=>O.toNat)⟩
set_option tactic.hygienic true in
theorem zd3 (i:Int):-(2 ^ 63:Int) <= reduceHash i/\reduceHash i < 2 ^ 63/\reduceHash i ≠ -1:=by
 unfold reduceHash
 split
 ·rename_i h;simp only [bB,decide_eq_true_eq] at h
  by_cases h1:i = -1
  ·rw [if_pos (by rw [h1]; rfl)]; decide
  ·rw [if_neg (by simpa using h1)]; exact ⟨h.1,h.2,h1⟩
 ·dsimp only;have h1:0 <= (i.natAbs:Int) % (2 ^ 61 - 1):=Int.emod_nonneg _ (by decide);have h2:(i.natAbs:Int) % (2 ^ 61 - 1) < 2 ^ 61 - 1:=Int.emod_lt_of_pos _ (by decide);generalize (i.natAbs:Int) % (2 ^ 61 - 1) = m at h1 h2;have h3:-(2 ^ 63:Int) <= (if i < 0 then -m else m)/\(if i < 0 then -m else m) < 2 ^ 63:=by split <;> omega
  generalize (if i < 0 then -m else m) = k at h3
  by_cases h4:k = -1
  ·rw [if_pos (by rw [h4]; rfl)]; decide
  ·rw [if_neg (by simpa using h4)]; exact ⟨h3.1,h3.2,h4⟩
theorem zjo (P:Params) (b:Array UInt8):-(2 ^ 63:Int) <= bh P b/\bh P b < 2 ^ 63/\bh P b ≠ -1:=by
 unfold bh PyData.keyHash
 split
 ·decide
 ·exact zd3 _
section
variable {p:dC} {w:cF} {n₀:Nat} {ann:Option aD} {bd:List cI} {env:Env} {q:Pos} {s:aC} {pos:Pos}
theorem zlo {P:Params} {b:Array UInt8}:pyHashByItsType.reduced (bh P b) = pure (bh P b):=by
 obtain ⟨h1,h2,h3⟩:=zjo P b;unfold pyHashByItsType.reduced;have e1:(decide (-(2 ^ 63:Int) <= bh P b) && decide (bh P b < 2 ^ 63)) = true:=by simp only [bB,decide_eq_true_eq]; exact ⟨h1,h2⟩
 have e2:(bh P b == -1) = false:=by simpa using h3
 rw [if_pos e1,e2];rfl
theorem Rn.hashCall {b:Array UInt8} {t:Tok}:Rn p w n₀ ann bd env q 5 (call (.builtin "bytes.__hash__") [.bytes b t]) s pos (.int (bh w.params b) s.toks) { s with toks:=s.toks+1 } pos:=fun K H gd lv=>by
 obtain ⟨heap,gens,drawn,toks,os⟩:=s;exact ⟨5,dD _,by kernel_rfl⟩
theorem zme {b:Array UInt8} {t:Tok}:∃ f:Setting->Sem (Option (aD × List aD)),bindSpecialIfBound? (.bytes b t) "__hash__" = (PySem.ask >>= f)/\∀ x,f x = pure (some (.builtin "bytes.__hash__",[.bytes b t])):=by
 refine ⟨_,rfl,fun x=>?_⟩
 cases h:x.params.followText "special-get-raises" with
 | true=>rw [if_pos rfl]; kernel_rfl
 | false=>rw [if_neg (by decide)]; kernel_rfl
theorem zte {b:Array UInt8} {t:Tok}:Rn p w n₀ ann bd env q 6 (pyHash (.bytes b t)) s pos (bh w.params b) { s with toks:=s.toks+1 } pos:=by
 show Rn p w n₀ ann bd env q 6 (pyHashByItsType (.bytes b t)) s pos _ _ _;unfold pyHashByItsType;refine .bind 0 (a:=()) (s':=s) (pos':=pos) .pure ?_;have e:specialOf (.bytes b t) "__hash__" = pure (some (.builtin "bytes.__hash__")):=by kernel_rfl
 rw [e];refine .bind 0 .pure ?_;rw [if_neg (by decide)];refine .bind 0 .pure ?_;rw [if_neg (by decide)];refine .bind 6 (a:=some (.int (bh w.params b) s.toks)) (s':={ s with toks:=s.toks+1 }) (pos':=pos) ?_ ?_
 ·unfold callSpecialIfBoundUnlessNone?;obtain ⟨f,h1,h2⟩:=zme (b:=b) (t:=t);rw [h1];refine .holding (.bind 1 (.bind 1 .ask (by rw [h2]; exact .pure)) ?_);dsimp only;rw [if_neg (by decide)];exact .bind 5 .hashCall .pure
 ·dsimp only;rw [zlo];exact .pure
end
set_option tactic.hygienic true in
theorem zje:∀ {a b:List UInt8},fA a b = .eq->a = b
 | [],[]=>fun O=>rfl
 | [],O :: O1=>by intro h; cases h
 | O :: O1,[]=>by intro h; cases h
 | x :: a,y :: b=>by
  intro h;unfold fA at h
  split at h
  ·cases h
  ·split at h
   ·cases h
   ·rename_i h1 h2;have:x = y:=by
     apply UInt8.le_antisymm
     ·exact UInt8.not_lt.mp h2
     ·exact UInt8.not_lt.mp h1
    rw [this,zje h]
theorem zpg {a b:List UInt8} (h:a ≠ b):Builtin.Bytes.holds "__eq__" (fA a b) = false:=by
 unfold Builtin.Bytes.holds
 cases e:fA a b with
 | eq=>exact absurd (zje e) h
 | lt=>rfl
 | gt=>rfl
section
variable {p:dC} {w:cF} {n₀:Nat} {ann:Option aD} {bd:List cI} {env:Env} {q:Pos} {s:aC} {pos:Pos}
theorem zn1 {a b:Array UInt8} {t u:Tok}:Rn p w n₀ ann bd env q 3 (call (.builtin "bytes.__eq__") [.bytes a t,.bytes b u]) s pos (.bool (Builtin.Bytes.holds "__eq__" (fA a.toList b.toList))) s pos:=fun K H gd lv=>by
 obtain ⟨heap,gens,drawn,toks,os⟩:=s;exact ⟨3,dD _,by kernel_rfl⟩
theorem zpy {b:Array UInt8} {t:Tok}:∃ f:Setting->Sem (Option (aD × List aD)),bindSpecialIfBound? (.bytes b t) "__eq__" = (PySem.ask >>= f)/\∀ x,f x = pure (some (.builtin "bytes.__eq__",[.bytes b t])):=by
 refine ⟨_,rfl,fun x=>?_⟩
 cases h:x.params.followText "special-get-raises" with
 | true=>rw [if_pos rfl]; kernel_rfl
 | false=>rw [if_neg (by decide)]; kernel_rfl
theorem zvq {a b:Array UInt8} {t u:Tok} (h:a.toList ≠ b.toList):Rn p w n₀ ann bd env q 4 (eqBool (.bytes a t) (.bytes b u)) s pos false s pos:=by
 unfold eqBool;refine .holding ?_;have hne:((Value.bytes a t) == (Value.bytes b u)) = false:=by
  rw [beq_eq_false_iff_ne];intro e
  cases e
  exact h rfl
 rw [hne,if_neg (by decide)];refine .bind 4 (a:=.bool false) (s':=s) (pos':=pos) ?_ .pure;unfold richCompare;refine .holding (.bind 0 (a:=()) (s':=s) (pos':=pos) .pure ?_);have e1:oneThing? .Eq (.bytes a t) (.bytes b u) = none:=rfl;rw [e1];have e2:∀ (x:Array UInt8) (t:Tok),typeOf (.bytes x t) = pure (.type "bytes"):=fun O O=>by kernel_rfl
 dsimp only [cmpInfo];rw [e2,e2];refine .bind 0 .pure (.bind 0 .pure ?_);rw [if_neg (by decide)];refine .bind 0 .pure ?_;rw [if_neg (by decide)];refine .bind 4 (a:=some (.bool false)) (s':=s) (pos':=pos) ?_ .pure;unfold tryCompare;refine .bind 4 (a:=some (.bool false)) (s':=s) (pos':=pos) ?_ .pure;unfold callSpecialIfBound?;obtain ⟨f,h1,h2⟩:=zpy (b:=a) (t:=t);refine .holding ?_;rw [h1];refine .bind 1 (.bind 1 .ask (by rw [h2]; exact .pure)) ?_;have h3:=zn1 (p:=p) (w:=w) (n₀:=n₀) (ann:=ann) (bd:=bd) (env:=env) (q:=q) (s:=s) (pos:=pos) (a:=a) (b:=b) (t:=t) (u:=u);rw [zpg h] at h3;exact .bind 3 h3 .pure
noncomputable abbrev dobj (es:Array DictEntry) (n:Nat):Obj:={ cls:=.type "dict",data:=.dict es n }
theorem zsj {d:aN} {es:Array DictEntry} {n:Nat} {b:Array UInt8} {t:Tok} {h:Int} (hd:s.heap.get? d = some (dobj es n)) (hk:∀ e ∈ es,Ey2 (fun a u=>e.key = .bytes a u) (fun a u=>a.toList ≠ b.toList)) (places:List Nat) :
  Rn p w n₀ ann bd env q (7 * places.length) (dictWalkPlain d (.bytes b t) h es places) s pos none s pos:=by
 unfold dictWalkPlain;have ep:∀ part,Rn p w n₀ ann bd env q 1 (dictEpoch d part) s pos n s pos:=fun part=>by
  unfold dictEpoch;exact .bind 1 (.loadPart hd) .pure
 refine .bind (7 * places.length) (a:=(none,())) (s':=s) (pos':=pos) ?_ .pure;induction places with
 | nil=>rw [List.forIn_nil]; exact .pure
 | cons i r ih =>
  rw [List.forIn_cons];refine Rn.bind 7 (a:=eR (none,())) (s':=s) (pos':=pos) ?_ ?_ (by simp; omega)
  rotate_left
  ·exact Rn.le ih (by simp; omega)
  cases he:es[i]? with
  | none=>exact .pure
  | some e =>
   obtain ⟨a,u,e1,e2⟩:=hk e (Array.mem_of_getElem? he);dsimp only
   by_cases hh:(e.hash == h) = true
   ·rw [if_pos hh,e1];refine .bind 1 (ep _) (.bind 4 (zvq e2) (.bind 1 (ep _) ?_));rw [if_neg (by simp)];exact .bind 1 .rule .pure
   ·rw [if_neg hh];exact .pure
theorem zs3 {d:aN} {es:Array DictEntry} {n:Nat} {b:Array UInt8} {t:Tok} {h:Int} (hd:s.heap.get? d = some (dobj es n)) (hk:∀ e ∈ es,Ey2 (fun a u=>e.key = .bytes a u) (fun a u=>a.toList ≠ b.toList)) :
  Rn p w n₀ ann bd env q (1+7 * es.size) (dictFind d (.bytes b t) h) s pos none s pos:=by
 unfold dictFind;refine .holding (.bind 1 (a:=es) (s':=s) (pos':=pos) (by unfold dictEntries; exact .bind 1 (.loadPart hd) .pure) ?_);dsimp only;rw [if_pos]
 ·refine Rn.le (zsj hd hk _) ?_;have h1:(placesWithHash es.size (fun i=>es[i]?.map (fun O=>O.hash)) h).length <= es.size:=by
   unfold placesWithHash;exact cY (List.length_filter_le _ _) (by simp)
  omega
 ·simp only [List.all_cons,bB,bS,List.mem_filterMap];refine ⟨rfl,fun x ⟨i,O,hx⟩=>?_⟩;obtain ⟨e,he,rfl⟩:=aW.mp hx;obtain ⟨a,u,e1,_⟩:=hk e (Array.mem_of_getElem? he);rw [e1];rfl
end
noncomputable abbrev Pg:dC:=PySem.Challenge.pw_ji0030_01
noncomputable def stm:List cI:=behindTheImports Pg
noncomputable def benv:Env:={ scope:=Pg.main.scope,locals:=mainNs,globals:=mainNs,cells:=[],code:=.ref 13,frame:=some 14 }
noncomputable def sNil:aC:=(start Pg).1
noncomputable def fstS (o:Option (aC × Thread)):aC:=match o with
 | some x=>x.1
 | none=>sNil
noncomputable def fstF (o:Option (Flow × aC × Code × Pos)):aC:=match o with
 | some x=>x.2.1
 | none=>sNil
noncomputable def annT:Option aD:=some (.ref 6)
noncomputable def s0 (w:cF):aC:=(fencedOpening treeTable Pg w 20000).getD sNil
theorem zwj (w:cF):fencedOpening treeTable Pg w 20000 = some (s0 w):=by kernel_rfl
theorem zrr (w:cF):((s0 w).heap.isNs mainGlobals && (s0 w).gens.size == 0,(s0 w).heap.objs.size,(s0 w).heap.nsMap mainGlobals "__annotations__") = (true,11,annT):=by kernel_rfl
noncomputable def sP (w:cF):aC:=fstS (topGo treeTable Pg w 11 annT 12 (s0 w) (topStub Pg))
theorem pre (w:cF):topGo treeTable Pg w 11 annT 12 (s0 w) (topStub Pg) = some (sP w,⟨denote treeTable (.body stm benv),.body stm benv,default,[topFrame default]⟩):=by kernel_rfl
noncomputable abbrev cB:Code:=.body stm benv
noncomputable abbrev frB:List Frame:=[topFrame default]
noncomputable def st (i:Nat):cI:=stm.getD i (.Pass default)
noncomputable def pp (l c el ec:Nat):Pos:={ line:=l,col:=c,endLine:=el,endCol:=ec }
noncomputable def p0:Pos:=pp 1 0 1 8
noncomputable def p1:Pos:=pp 2 0 8 14
noncomputable def p2:Pos:=pp 9 0 9 6
noncomputable def sBl (w:cF):aC:=fstF (segRun treeTable Pg w 11 annT 1 1 (sP w) (blockOf stm benv cB default frB))
set_option tactic.hygienic true in
theorem blk (w:cF):segRun treeTable Pg w 11 annT 1 1 (sP w) (blockOf stm benv cB default frB) = some (.next,sBl w,cB,default):=by kernel_rfl
noncomputable def s1 (w:cF):aC:=fstF (segRun treeTable Pg w 11 annT 1 10 (sBl w) (pieceOf (st 0) benv cB default frB))
set_option tactic.hygienic true in
theorem pc0 (w:cF):segRun treeTable Pg w 11 annT 1 10 (sBl w) (pieceOf (st 0) benv cB default frB) = some (.next,s1 w,cB,p0):=by kernel_rfl
noncomputable def s2 (w:cF):aC:=fstF (segRun treeTable Pg w 11 annT 1 32 (s1 w) (pieceOf (st 1) benv cB p0 frB))
set_option tactic.hygienic true in
theorem pc1 (w:cF):segRun treeTable Pg w 11 annT 1 32 (s1 w) (pieceOf (st 1) benv cB p0 frB) = some (.next,s2 w,cB,p1):=by kernel_rfl
noncomputable def s3 (w:cF):aC:=fstF (segRun treeTable Pg w 11 annT 1 10 (s2 w) (pieceOf (st 2) benv cB p1 frB))
set_option tactic.hygienic true in
theorem pc2 (w:cF):segRun treeTable Pg w 11 annT 1 10 (s2 w) (pieceOf (st 2) benv cB p1 frB) = some (.next,s3 w,cB,p2):=by kernel_rfl
theorem zlx:stm = st 0 :: st 1 :: st 2 :: st 3 :: stm.drop 4:=by kernel_rfl
theorem zwv (w:cF):(s3 w).heap.objs.size = 22/\(s3 w).toks = 200:=⟨by kernel_rfl,by kernel_rfl⟩
section
variable {p:dC} {w:cF} {n₀:Nat} {ann:Option aD} {bd:List cI} {env:Env} {q:Pos} {s:aC} {pos:Pos}
theorem zi6 {f:Option (Sem aD) × Sem aD->Option aN × List (Sem aD × Sem aD)->Sem (ForInStep (Option aN × List (Sem aD × Sem aD)))}
  (hf:∀ k v r,r.length+1 < 17->f (some k,v) (none,r) = pure (.yield (none,r++[(k,v)]))):∀ (prs:List (Sem aD × Sem aD)) (r:List (Sem aD × Sem aD)),r.length+prs.length < 17 ->
  Rn p w n₀ ann bd env q 0 (forIn (prs.map fun kv=>(some kv.1,kv.2)) ((none,r):Option aN × List (Sem aD × Sem aD)) f) s pos (none,r++prs) s pos
 | []=>by intro r _; rw [eG,List.forIn_nil,bV]; exact .pure
 | (k,v) :: prs=>by
  intro r h;rw [aS,List.forIn_cons,hf k v r (by simp at h; omega)];refine Rn.bind 0 .pure ?_;have:=zi6 hf prs (r++[(k,v)]) (by simp at h |-; omega);rw [bH] at this;exact this
theorem zk7 {k:Nat} {prs:List (Sem aD × Sem aD)} {d:aN} {s':aC} {pos':Pos} (hl:prs.length < 17) (hn:prs ≠ []) (h:Rn p w n₀ ann bd env q k (subDict prs) s pos d s' pos') :
  Rn p w n₀ ann bd env q k (dictDisplay (prs.map fun kv=>(some kv.1,kv.2))) s pos (.ref d) s' pos':=by
 unfold dictDisplay;refine Rn.bind 0 (zi6 (fun k v r hr=>?_) prs [] (by simpa using hl)) ?_
 ·dsimp only;rw [if_neg (by simp; omega)]
 ·dsimp only;rw [fJ,if_neg (by simpa using hn)];exact Rn.bind k (Rn.bind k h .pure) .pure
noncomputable def laid (w:cF) (d:aN) (s:aC) (b:Array UInt8) (t:Tok) (v:aD):aC :=
 {s with heap:=s.heap.update d (Obj.mapDictKeys (·.push ⟨bh w.params b,.bytes b t,v⟩)),toks:=s.toks+1 }
theorem zkj {d:aN} {es:Array DictEntry} {n:Nat} {b:Array UInt8} {t:Tok} {v:aD} (hd:s.heap.get? d = some (dobj es n)):(laid w d s b t v).heap.get? d = some (dobj (es.push ⟨bh w.params b,.bytes b t,v⟩) (n+1)) :=
 Heap.get?_update_self _ hd rfl
theorem zux {d:aN} {es:Array DictEntry} {n:Nat} {b:Array UInt8} {t:Tok} {v:aD} (hd:s.heap.get? d = some (dobj es n)) (hn:n₀ <= d) (hk:∀ e ∈ es,Ey2 (fun a u=>e.key = .bytes a u) (fun a u=>a.toList ≠ b.toList)) (hz:es.size <= 100) :
  Rn p w n₀ ann bd env q 1000 (dictSet d (.bytes b t) v) s pos () (laid w d s b t v) pos:=by
 unfold dictSet;refine .holding (.bind 6 zte ?_);unfold dictSetHashed;have hd':({ s with toks:=s.toks+1 }:aC).heap.get? d = some (dobj es n):=hd;refine .holding (.bind (1+7 * es.size) (zs3 hd' hk) ?_);dsimp only;refine .bind 1 .rule ?_;unfold updateDictKeys;refine .bind 1 (.loadPart hd') ?_;dsimp only;refine .bind 1 (.updatePart hd' hn) ?_;unfold lookBehind;refine .bind 1 (.loadPart (zkj hd)) ?_;have e:(dobj (es.push ⟨bh w.params b,.bytes b t,v⟩) (n+1)).data.pastItsLine = none:=by
  show (if _ then _ else _) = _;rw [if_neg];rw [Array.size_push,cO];omega
 rw [e];exact .pure
end
section
variable {p:dC} {w:cF} {n₀:Nat} {ann:Option aD} {bd:List cI} {env:Env} {q:Pos} {s:aC} {pos:Pos}
noncomputable abbrev KV:=Array UInt8 × Tok × aD
noncomputable def kvV (x:KV):aD × aD:=(.bytes x.1 x.2.1,x.2.2)
noncomputable def laidAll (w:cF) (d:aN) (kvs:List KV) (s:aC):aC:=kvs.foldl (fun s x=>laid w d s x.1 x.2.1 x.2.2) s
noncomputable def entries (w:cF) (kvs:List KV) (es:Array DictEntry):Array DictEntry:=kvs.foldl (fun es x=>es.push ⟨bh w.params x.1,.bytes x.1 x.2.1,x.2.2⟩) es
theorem znu {d:aN} {f:aD × aD->PUnit->Sem (ForInStep PUnit)} (hf:∀ k v u,f (k,v) u = (do dictSet d k v; pure (.yield ⟨⟩))) (hn:n₀ <= d):∀ (kvs:List KV) (s:aC) (es:Array DictEntry) (n:Nat),s.heap.get? d = some (dobj es n) ->
  (∀ e ∈ es,Ey2 (fun a u=>e.key = .bytes a u) (fun a u=>∀ x ∈ kvs,a.toList ≠ x.1.toList))->(kvs.Pairwise fun x y=>x.1.toList ≠ y.1.toList)->es.size+kvs.length <= 100 ->
  Rn p w n₀ ann bd env q (1000 * kvs.length) (forIn (kvs.map kvV) (⟨⟩:PUnit) f) s pos ⟨⟩ (laidAll w d kvs s) pos
 | []=>by intro s es n _ _ _ _; rw [eG,List.forIn_nil]; exact .pure
 | (b,t,v) :: kvs=>by
  intro s es n hd hk hp hz;obtain ⟨h1,h2⟩:=List.pairwise_cons.mp hp;rw [aS,List.forIn_cons];show Rn p w n₀ ann bd env q _ (f (.bytes b t,v) ⟨⟩ >>= _) _ _ _ _ _;rw [hf];simp only [aI] at hz;refine Rn.bind 1000 (Rn.bind 1000 (zux hd hn (fun e he=>?_) (by omega)) .pure) ?_ (by simp; omega)
  ·obtain ⟨a,u,e1,e2⟩:=hk e he;exact ⟨a,u,e1,e2 (b,t,v) (by simp)⟩
  ·refine Rn.le (j:=1000 * kvs.length) ?_ (by simp; omega);refine znu hf hn kvs _ _ _ (zkj hd) (fun e he=>?_) h2 (by rw [Array.size_push]; omega);rcases Array.mem_push.mp he with he | rfl
   ·obtain ⟨a,u,e1,e2⟩:=hk e he;exact ⟨a,u,e1,fun x hx=>e2 x (by simp [hx])⟩
   ·exact ⟨b,t,rfl,fun x hx=>h1 x hx⟩
theorem zvj {prs:List (Sem aD × Sem aD)} {kvs:List KV} {pos':Pos} {s':aC} (hl:prs.length <= 15) (hn:n₀ <= s.heap.objs.size) (hp:kvs.Pairwise fun x y=>x.1.toList ≠ y.1.toList) (hz:kvs.length <= 100)
  (h:Rn p w n₀ ann bd env q 36 (evalPairs prs) { s with heap:=s.heap.push (dobj #[] 0) } pos (kvs.map kvV) s' pos') (hs:s'.heap.get? s.heap.objs.size = some (dobj #[] 0)) :
  Rn p w n₀ ann bd env q (37+1000 * kvs.length) (subDict prs) s pos s.heap.objs.size (laidAll w s.heap.objs.size kvs s') pos':=by
 unfold subDict;refine Rn.bind 1 (a:=s.heap.objs.size) (s':={ s with heap:=s.heap.push (dobj #[] 0) }) (pos':=pos) (fun K H gd lv=>?_) ?_
 ·obtain ⟨heap,gens,drawn,toks,os⟩:=s;exact .one rfl rfl rfl
 ·refine Rn.bind (36+1000 * kvs.length) (a:=()) (s':=laidAll w s.heap.objs.size kvs s') (pos':=pos') (.holding ?_) .pure;rw [if_pos hl];refine Rn.bind 36 h (.holding ?_);exact Rn.bind (1000 * kvs.length) (znu (fun O O O=>rfl) hn kvs s' _ _ hs (fun e he=>by simp at he) hp (by simpa using hz)) .pure
end
noncomputable def pkvs (k:Tok):List KV:=posix.zipIdx.map fun x=>(toB x.1.1,k+2 * x.2,.bytes (toB x.1.2) (k+2 * x.2+1))
theorem zk8 (k:Tok):(pkvs k).Pairwise fun x y=>x.1.toList ≠ y.1.toList:=by
 have h:(posix.map fun x=>(toB x.1).toList).Pairwise (· ≠ ·):=by decide +kernel
 unfold pkvs;rw [fR];have e:posix.zipIdx.map (fun x=>(toB x.1.1).toList) = posix.map fun x=>(toB x.1).toList:=by decide +kernel
 rw [<- e,fR] at h;exact h
noncomputable def asgV (s:cI):aL:=(vwS s).w1
noncomputable def asgP (s:cI):Pos:=(vwS s).w3
noncomputable def dctK (e:aL):List (Option aL):=(vwE e).w16
noncomputable def dctV (e:aL):List aL:=(vwE e).w10
noncomputable def asgN (s:cI):Pos:=((vwS s).w0.headD dE).pos
theorem zuv:st 3 = .Assign [.Name "_POSIX_CLASSES" (asgN (st 3))] (.Dict (dctK (asgV (st 3))) (dctV (asgV (st 3))) (asgV (st 3)).pos) (asgP (st 3)):=by kernel_rfl
noncomputable def prs3:List (Sem aD × Sem aD):=(((evalEachOpt (dctK (asgV (st 3))) benv).zip ((evalEach (dctV (asgV (st 3))) benv).map fun v=>do let x <- v; standAt (asgV (st 3)).pos; pure x))).map fun kv=>(kv.1.getD (pure .none),kv.2)
theorem zgv:prs3.length = 12:=by kernel_rfl
theorem zsh:(evalEachOpt (dctK (asgV (st 3))) benv).zip ((evalEach (dctV (asgV (st 3))) benv).map fun v=>do let x <- v; standAt (asgV (st 3)).pos; pure x) = prs3.map fun kv=>(some kv.1,kv.2):=by kernel_rfl
theorem zoj (w:cF) (s:aC) (pos:Pos):Rn Pg w 11 annT stm benv default 36 (evalPairs prs3) s pos ((pkvs s.toks).map kvV) { s with toks:=s.toks+24 } (asgV (st 3)).pos:=fun K H gd lv=>by
 obtain ⟨heap,gens,drawn,toks,os⟩:=s;exact ⟨36,dD _,by kernel_rfl⟩
noncomputable def p3:Pos:=pp 10 0 10 14
noncomputable def sD (w:cF):aC:=laidAll w 22 (pkvs 200) { s3 w with heap:=(s3 w).heap.push (dobj #[] 0),toks:=224 }
noncomputable def s4 (w:cF):aC:=fstS (topGo treeTable Pg w 11 annT 7 (sD w) ⟨(assignStores benv (.ref 22) none ((assignEach [.Name "_POSIX_CLASSES" (asgN (st 3))] benv).map (fun O=>O.2))).wrap doneF deadEnd id id,cB,(asgV (st 3)).pos,frB⟩)
set_option tactic.hygienic true in
theorem zpj (w:cF):Rn Pg w 11 annT stm benv default 7 (assignStores benv (.ref 22) none ((assignEach [.Name "_POSIX_CLASSES" (asgN (st 3))] benv).map (fun O=>O.2))) (sD w) (asgV (st 3)).pos .next (s4 w) p3:=fun K H gd lv=>⟨7,dD _,by kernel_rfl⟩
theorem zsr (w:cF) (s:aC) (pos:Pos) (z1:s.heap.objs.size = 22) (z2:s.toks = 200) :
  Rn Pg w 11 annT stm benv default 12100 (subDict prs3) s pos 22 (laidAll w 22 (pkvs 200) { s with heap:=s.heap.push (dobj #[] 0),toks:=224 }) (asgV (st 3)).pos:=by
 obtain ⟨heap,gens,drawn,toks,os⟩:=s;dsimp only at z1 z2;subst z2;have h1:=zoj w ⟨heap.push (dobj #[] 0),gens,drawn,200,os⟩ pos;have h:=zvj (p:=Pg) (w:=w) (n₀:=11) (ann:=annT) (bd:=stm) (env:=benv) (q:=default) (s:=⟨heap,gens,drawn,200,os⟩) (pos:=pos) (prs:=prs3) (kvs:=pkvs 200) (by rw [zgv]; decide) (by rw [z1]; decide) (zk8 200) (by decide) h1 (bI _ rfl);dsimp only at h;rw [z1] at h;exact Rn.le h (by decide)
theorem zpe (w:cF):Rn Pg w 11 annT stm benv default 12500 (eval (.Dict (dctK (asgV (st 3))) (dctV (asgV (st 3))) (asgV (st 3)).pos) benv) (s3 w) (asgP (st 3)) (.ref 22) (sD w) (asgV (st 3)).pos:=by
 obtain ⟨z1,z2⟩:=zwv w;refine Rn.bind 1 .standAt ?_;rw [zsh];refine zk7 (by rw [zgv]; decide) (fun h=>by have:=zgv; rw [h] at this; cases this) ?_;unfold sD;exact Rn.le (zsr w (s3 w) _ z1 z2) (by decide)
set_option tactic.hygienic true in
theorem zop (w:cF):Rn Pg w 11 annT stm benv default 13000 (exec (st 3) benv) (s3 w) p2 .next (s4 w) p3:=by
 rw [zuv];refine Rn.bind 1 .standAt ?_;have e1:swapsWithSole [.Name "_POSIX_CLASSES" (asgN (st 3))] (.Dict (dctK (asgV (st 3))) (dctV (asgV (st 3))) (asgV (st 3)).pos) (asgP (st 3)).line benv = pure false:=rfl;rw [e1];refine Rn.bind 0 .pure ?_;rw [if_neg (by decide)];refine Rn.bind 12500 (zpe w) ?_;have e2:swappedStores [.Name "_POSIX_CLASSES" (asgN (st 3))] (.Dict (dctK (asgV (st 3))) (dctV (asgV (st 3))) (asgV (st 3)).pos) benv = pure none:=rfl;rw [e2];exact Rn.bind 0 .pure (Rn.le (zpj w) (by decide))
noncomputable def restQ:Thread:=⟨(Fast.tw12563942051412417395 (stm.drop 4) benv).wrap doneF (leaveH benv) id id,cB,p3,frB⟩
theorem zq1:restOf (stm.drop 4) benv cB p3 frB = restQ:=by
 unfold restOf restQ;rw [Fast.te12563942051412417395]
noncomputable def sE (w:cF):aC:=(fS fT Pg w 11 annT 1700 (s4 w) restQ).getD sNil
noncomputable def isFC (s:cI):Bool:=(vwS s).tag == 12
noncomputable def qV:dC:={ Pg with main:={ Pg.main with body:=stm.filter isFC } }
noncomputable def looseN:List Str:=(["__name__","_SLASH","_POSIX_CLASSES","_law_members","_law_first","_law_last","_law_palette"]:List String).map bC
theorem zrn {α:Type} {p q:dC} {w:cF} {N m:Nat} {ann:Option aD} {s t:aC} {good:α} {f:aC->α} (h1:fencedOpening treeTable p w N = some s) (h2:(s.heap.isNs mainGlobals && s.gens.size == 0) = true) (h3:s.heap.objs.size = m) (h4:s.heap.nsMap mainGlobals "__annotations__" = ann)
  (h5:topRun treeTable p w m ann N s (topStub p) = some t) (h6:(staticsOk (importedModules p.main.body) s.heap t.heap && namesBound p t.heap && gensDone t && laidKept s.heap t.heap) = true) (h7:f t = good) :
  (openEnds treeTable p w N).map (fun s=>(f s,s.heap)) = some (good,t.heap):=by
 have k:topFrom treeTable p w N s = some t:=by
  unfold topFrom;rw [h2,h3,h4,h5];show (match staticsOk (importedModules p.main.body) s.heap t.heap && namesBound p t.heap && gensDone t && laidKept s.heap t.heap with | true=>some t | false=>none) = _;rw [h6]
 unfold openEnds;rw [h1];show (topFrom treeTable p w N s).map _ = _;rw [k];exact congrArg some (Prod.ext h7 rfl)
noncomputable def isB (b:Array UInt8):aD->Bool
 | .bytes c O=>c == b
 | _=>false
theorem zbp {b:Array UInt8} {v:aD} (h:isB b v = true):∃ t,v = .bytes b t:=by
 cases v <;> simp_all [isB]
theorem zmm {P:Params} {b:Array UInt8}:reduceHash (bh P b) = bh P b:=by
 obtain ⟨h1,h2,h3⟩:=zjo P b;unfold reduceHash;rw [if_pos (by simp only [bB,decide_eq_true_eq]; exact ⟨h1,h2⟩),if_neg (by simpa using h3)]
theorem zif {prog:dC} {w:cF} {A:bA} {E:aD->aC->Prop} {s:aC} {b:Array UInt8} {t:Tok} {Q:Int->aC->Prop} (h:Q (bh w.params b) { s with toks:=s.toks+1 }) :
  wpAny (model prog w) A (pyHash (.bytes b t)) Q E s:=by
 refine pyHash_slot (T := "bytes") rfl FB.slot_bytes_hash FB.entry_bytes_hash (FB.args_bytes_hash_1 _) (beq_builtin_none _) (.inl rfl) ?_;show wpAny _ _ (strHash ⟨b.map (fun O=>O.toNat)⟩ >>= fun i=>(do ret (<- mkInt i))) _ _ s;unfold strHash;refine aF (aF (wpAny_askSetting (aV (aF (wpAny_mkInt (aV ⟨_,_,rfl,?_⟩))))));have e:reduceHash (bh w.params b) = bh w.params b:=zmm;rw [<- e] at h;exact h
noncomputable def kindB (prog:dC) (w:cF):KeyKind prog w (Array UInt8) where
 is:=isB
 hash:=bh w.params
 inj:=fun v a b ha hb=>by
  obtain ⟨t,rfl⟩:=zbp ha;obtain ⟨u,h⟩:=zbp hb
  injection h
 byValue:=fun k v h=>by obtain ⟨t,rfl⟩:=zbp h; rfl
 pyHash:=fun hv h=>by obtain ⟨t,rfl⟩:=zbp hv; exact zif h
 eqBool:=fun {A E s a b u v Q} hu hv h=>by
  obtain ⟨t,rfl⟩:=zbp hu;obtain ⟨x,rfl⟩:=zbp hv;refine EqGives.bytes a b t x _ _ _ _ _ _ ?_;have e:(a.toList == b.toList) = decide (a = b):=by
   rw [eP,beq_iff_eq,decide_eq_true_eq];exact Array.toList_inj
  rw [e];exact h
 «strs»:=fun k x t v h=>by simp [isB] at h
noncomputable def vEl (fi:Int->Bool) (fb:Array UInt8->Bool) (fr:aN->Bool) (v:aD):Bool :=
 v.casesOn (motive:=fun O=>Bool) false false false (fun O=>false) (fun i O=>fi i) (fun O O=>false) (fun O O=>false) (fun b O=>fb b) (fun O=>false) (fun O=>false) fr
theorem zju {M:aD->Prop} {fi:Int->Bool} {fb:Array UInt8->Bool} {fr:aN->Bool} {v:aD} (e:vEl fi fb fr v = true) (hi:∀ i t,fi i = true->M (.int i t)) (hb:∀ b t,fb b = true->M (.bytes b t)) (hr:∀ a,fr a = true->M (.ref a)):M v:=by
 cases v with
 | int i t=>exact hi i t e
 | bytes b t=>exact hb b t e
 | ref a=>exact hr a e
 | _=>exact absurd e aJ
noncomputable def seqD (f:List aD->Bool) (d:Data):Bool :=
 d.casesOn (motive:=fun O=>Bool) false (fun O=>false) (fun xs O=>f xs.toList) (fun O O=>false) (fun O O O=>false) (fun O O=>false) (fun O=>false) (fun O=>false) (fun O=>false) (fun O=>false) false
theorem zti {M:Data->Prop} {f:List aD->Bool} {d:Data} (e:seqD f d = true) (g:∀ xs n,f xs.toList = true->M (.seq xs n)):M d:=by
 cases d with
 | seq xs n=>exact g xs n e
 | _=>exact absurd e aJ
noncomputable def seqB (k:String) (f:List aD->Bool) (o:Obj):Bool:=o.cls == .type k && seqD f o.data
theorem zn3 {k:String} {f:List aD->Bool} {c:Option Obj} (e:c.any (seqB k f) = true):Ex2 fun o vs=>And4 (c = some o) (o.cls = .type k) (∃ n,o.data = .seq (aQ vs) n) (f vs = true):=by
 cases c with
 | none=>exact absurd e aJ
 | some o =>
  have h:=dX.mp e;obtain ⟨xs,n,q,e⟩:=zti (M:=fun d=>∃ xs n,d = .seq xs n/\f xs.toList = true) h.2 fun xs n e=>⟨xs,n,rfl,e⟩;exact ⟨o,xs.toList,rfl,aR h.1,⟨n,q⟩,e⟩
theorem zwg {M:List aD->Prop} {f:aD->List aD->Bool} {vs:List aD} (e:List.casesOn (motive:=fun O=>Bool) vs false f = true) (g:∀ v r,f v r = true->M (v :: r)):M vs:=by
 cases vs with
 | nil=>exact absurd e aJ
 | cons v r=>exact g v r e
mutual
noncomputable def repB (h:cZ):V->aD->Bool
 | .int i=>vEl (· == i) (fun O=>false) (fun O=>false)
 | .bytes b=>vEl (fun O=>false) (fun c=>c == toB b && b.all (· < 256)) (fun O=>false)
 | .tup l=>vEl (fun O=>false) (fun O=>false) (fun a=>(h.get? a).any (seqB "tuple" (repLB h l)))
 | .lst l=>vEl (fun O=>false) (fun O=>false) (fun a=>(h.get? a).any (seqB "list" (repLB h l)))
 | _=>fun O=>false
noncomputable def repLB (h:cZ):List V->List aD->Bool
 | []=>List.isEmpty
 | d :: l=>fun vs=>vs.casesOn (motive:=fun O=>Bool) false (fun v r=>repB h d v && repLB h l r)
end
section
variable {h h':cZ} {P:aN}
theorem zm6 {a:aN} {o:Obj} (t:IsTab h' P) (ho:h'.get? a = some o) (hd:∃ xs n,o.data = .seq xs n):¬ a = P:=fun q=>by
 obtain ⟨ps,e9⟩:=t;obtain ⟨xs,n,hd⟩:=hd;rw [q,e9] at ho
 cases ho
 cases hd
mutual
theorem znj (U:∀ b o,h.get? b = some o->h'.get? b = some o) (t:IsTab h' P):∀ {d:V} {v:aD},repB h d v = true->Rep (fun O=>O = P) h' d v
 | .int i=>fun e=>zju e (fun j t e=>⟨t,by rw [aR e]⟩) (fun O O e=>nomatch e) (fun O e=>nomatch e)
 | .bytes b=>fun e=>zju e (fun O O e=>nomatch e) (fun c t e=>⟨by simpa only [bS,decide_eq_true_eq] using (dX.mp e).2,t,by rw [aR (dX.mp e).1]⟩) (fun O e=>nomatch e)
 | .tup l=>fun e=>zju e (fun O O e=>nomatch e) (fun O O e=>nomatch e) (fun a e=>by
  obtain ⟨o,vs,ho,hc,⟨n,hd⟩,e⟩:=zn3 e;exact ⟨a,vs,rfl,zm6 t (U a o ho) ⟨_,n,hd⟩,⟨o,U a o ho,hc,n,hd⟩,zf5 U t e⟩)
 | .lst l=>fun e=>zju e (fun O O e=>nomatch e) (fun O O e=>nomatch e) (fun a e=>by
  obtain ⟨o,vs,ho,hc,⟨n,hd⟩,e⟩:=zn3 e;exact ⟨a,vs,rfl,zm6 t (U a o ho) ⟨_,n,hd⟩,⟨o,U a o ho,hc,n,hd⟩,zf5 U t e⟩)
 | .none=>fun e=>nomatch e
 | .bool O=>fun e=>nomatch e
theorem zf5 (U:∀ b o,h.get? b = some o->h'.get? b = some o) (t:IsTab h' P):∀ {l:List V} {vs:List aD},repLB h l vs = true->RepL (fun O=>O = P) h' l vs
 | []=>fun e=>bZ.mp e
 | d :: l=>fun e=>zwg e fun v r e=>⟨v,r,rfl,znj U t (dX.mp e).1,zf5 U t (dX.mp e).2⟩
end
end
noncomputable def btabOk (h:cZ):Bool:=btab.all fun p=>(h.nsMap mainGlobals (p.1:Str)).isNone && h.nsMap builtinsNs (p.1:Str) == some p.2
noncomputable def gtabOk (h:cZ):Bool:=gtab.all fun p=>match h.nsMap mainGlobals (p.1:Str) with
 | some v=>repB h p.2 v
 | none=>false
theorem all3 (w:cF):((fS fT Pg w 11 annT 1700 (s4 w) restQ).isSome,(staticsOk (importedModules Pg.main.body) (s0 w).heap (sE w).heap && namesBound Pg (sE w).heap && gensDone (sE w) && laidKept (s0 w).heap (sE w).heap,openSeen qV looseN (importedModules Pg.main.body) (fun O=>true) true (sE w)),((sE w).heap.get? 22,(sE w).heap.nsMap mainGlobals "_POSIX_CLASSES",btabOk (sE w).heap && gtabOk (sE w).heap && ((sE w).heap.get? sysModules).isSome && (sE w).heap.isNs mainGlobals && (sE w).heap.isNs builtinsNs)) = (true,(true,openGood qV looseN),(some (dobj (entries w (pkvs 200) #[]) 12),some (.ref 22),true)):=by kernel_rfl
theorem zr4 {α:Type} {o:Option α} {d:α} (h:o.isSome = true):o = some (o.getD d):=by
 cases o with
 | none=>cases h
 | some x=>rfl
theorem zwo (w:cF):topRun treeTable Pg w 11 annT 1700 (s4 w) (restOf (stm.drop 4) benv cB p3 frB) = some (sE w):=by
 have h:=(dK (all3 w)).1;rw [Fast.te14082659384304107361,Fast.te14364793385576792824,zq1];unfold sE;generalize fS fT Pg w 11 annT 1700 (s4 w) restQ = o at h |-;exact zr4 h
set_option tactic.hygienic true in
theorem run0 (w:cF):topRun treeTable Pg w 11 annT 20000 (s0 w) (topStub Pg) = some (sE w):=by
 obtain ⟨n,hn,h3⟩:=zop w (fun f=>match f with | .next=>(execs (stm.drop 4) benv).wrap doneF (leaveH benv) id id | f=>doneF f) (leaveH benv) id id;have r3:topRun treeTable Pg w 11 annT (n+1700) (s3 w) (restOf (st 3 :: stm.drop 4) benv cB p2 frB) = some (sE w):=by
  unfold restOf;rw [execs_cons_wrap];exact go_top h3 (zwo w)
 have r2:=piece_cons (pc2 w) r3;have r1:=piece_cons (pc1 w) r2;have r0:=piece_cons (pc0 w) r1;have rb:=piece_block (b:=stm) (blk w) (by rw [zlx]; exact r0);have rp:=go_top (pre w) rb;have hk:12+(1+(10+(32+(10+(n+1700))))) <= 20000:=by omega
 have:=topRun_mono (20000 - (12+(1+(10+(32+(10+(n+1700))))))) _ _ _ _ rp;rwa [show 12+(1+(10+(32+(10+(n+1700)))))+(20000 - (12+(1+(10+(32+(10+(n+1700))))))) = 20000 by omega] at this
theorem zu0 (w:cF):(staticsOk (importedModules Pg.main.body) (s0 w).heap (sE w).heap && namesBound Pg (sE w).heap && gensDone (sE w) && laidKept (s0 w).heap (sE w).heap,openSeen qV looseN (importedModules Pg.main.body) (fun O=>true) true (sE w)) = (true,openGood qV looseN):=(dK (dK (all3 w)).2).1
theorem zwt (w:cF):((sE w).heap.get? 22,(sE w).heap.nsMap mainGlobals "_POSIX_CLASSES",btabOk (sE w).heap && gtabOk (sE w).heap && ((sE w).heap.get? sysModules).isSome && (sE w).heap.isNs mainGlobals && (sE w).heap.isNs builtinsNs) = (some (dobj (entries w (pkvs 200) #[]) 12),some (.ref 22),true):=(dK (dK (all3 w)).2).2
theorem left (w:cF):(openEnds treeTable Pg w 20000).map (fun s=>(openSeen qV looseN (importedModules Pg.main.body) (fun O=>true) true s,s.heap)) = some (openGood qV looseN,(sE w).heap) :=
 zrn (q:=qV) (zwj w) (dK (zrr w)).1 (dK (dK (zrr w)).2).1 (dK (dK (zrr w)).2).2 (run0 w) (dK (zu0 w)).1 (dK (zu0 w)).2
section
variable {nm:Str} {body:List cI} {sc:Scope} {pm cd doc:aD} {kd:List (Option aL)} {a1 a2 a3 a4:Arg} {v1 v2 v3 v4:aD}
theorem zei:∀ {ns:List Str} {vs:List aD} {n:Str},n ∈ ns->ns.length = vs.length->((ns.zip vs).lookup n).isNone = false
 | a :: ns,v :: vs,n,h,hl=>by
  rw [fG,bO]
  cases hb:n == a with
  | true=>rfl
  | false =>
   refine zei ?_ (Nat.succ.inj hl);rcases aO.mp h with q | q
   ·rw [q,beq_self_eq_true] at hb; cases hb
   ·exact q
 | O :: O1,[],O2,O3,hl=>nomatch hl
 | [],O,O1,h,O2=>nomatch h
theorem zj7 {α β:Type} {f g:α->Option β}:∀ {l:List α},(∀ a ∈ l,f a = g a)->l.filterMap f = l.filterMap g
 | [],O=>rfl
 | a :: l,h=>by rw [eC,eC,h a List.mem_cons_self,zj7 fun b hb=>h b (bU _ hb)]
theorem zql:∀ {ns:List Str} {vs:List aD},ns.Nodup->ns.length = vs.length->ns.filterMap (fun n=>((ns.zip vs).lookup n).map fun x=>(n,x)) = ns.zip vs
 | [],O,O1,O2=>rfl
 | a :: ns,v :: vs,h,hl=>by
  obtain ⟨h1,h2⟩:=eT.mp h;rw [fG,eC,bO,beq_self_eq_true];have e:ns.filterMap (fun n=>(((a,v) :: ns.zip vs).lookup n).map fun x=>(n,x)) = ns.filterMap (fun n=>((ns.zip vs).lookup n).map fun x=>(n,x)) :=
   zj7 fun n hn=>by rw [bO,show (n == a) = false from beq_eq_false_iff_ne.mpr fun q:n = a=>h1 (q ▸ hn)]
  exact congrArg ((a,v) :: ·) (e.trans (zql h2 (Nat.succ.inj hl)))
 | O :: O1,[],O2,hl=>nomatch hl
theorem zoo {α δ β γ:Type} {a:List α} {d:List δ} (h:d = []) {b:β} {f:α × δ->β->Sem (ForInStep β)} {g:β->Sem γ} {r:Sem γ} (hr:g b = r):(forIn (a.zip d) b f >>= g) = r:=by
 subst h; cases a <;> exact hr
theorem zof {ps:List Arg} {vals:List aD} (h:ps.length = vals.length) (hn:(ps.map (fun O=>O.arg)).Nodup):bindArgs (docDef nm ⟨[],ps,none,[],kd,none,[]⟩ body sc pm cd doc) ⟨vals,[]⟩ = pure ((ps.map (fun O=>O.arg)).zip vals):=by
 have hl:(ps.map (fun O=>O.arg)).length = vals.length:=(bQ _).trans h;have h1:¬ (decide (vals.length > (ps.map (fun O=>O.arg)).length) && true) = true:=by rw [hl,decide_eq_false (dG _)]; exact aJ
 have hm:∀ k,¬ (!(((ps.map (fun O=>O.arg)).take k).filter fun n=>(((ps.map (fun O=>O.arg)).zip vals).lookup n).isNone).isEmpty) = true:=fun k=>by
  rw [List.filter_eq_nil_iff.mpr fun n hn=>by rw [zei (cW hn) hl]; exact aJ]; exact aJ
 refine (if_neg h1).trans ?_;refine (if_neg (hm _)).trans ?_;refine zoo List.drop_nil ?_;have e:=(congrArg (fun l=>List.filterMap (fun n=>(((ps.map (fun O=>O.arg)).zip vals).lookup n).map fun x=>(n,x)) l) (bV (ps.map (fun O=>O.arg)))).trans (zql hn hl);exact congrArg (pure:List (Str × aD)->Sem (List (Str × aD))) e
end
noncomputable def okRec (pn:String) (pi i:Nat) (fd:MFun) (d:DefRec):Bool :=
 d.name == (fd.name:Str) && d.params.posonlyargs.isEmpty && d.params.vararg.isNone && d.params.kwonlyargs.isEmpty && d.params.kwarg.isNone && d.params.defaults.isEmpty && d.params.args.map (fun O=>O.arg) == (fd.vars.map bC).take fd.np && decide (fd.np <= 4) &&
 d.scope.kind == .function && d.scope.isCoroutine == false && d.scope.isGenerator == false && decide (fd.np <= fd.vars.length) && decide (fd.vars.map bC).Nodup && decide (d.scope.names.map (fun O=>O.1)).Nodup &&
 (fd.vars.map bC).all (fun x=>d.scope.names.lookup x == some .local || d.scope.names.lookup x == some .cell) && (d.scope.names.lookup ("remaining" : Str) != some .local || fd.name == "_translate_double_asterisk") &&
 chkSs (fns fsAll) pn (fun x=>d.scope.names.lookup x) (fd.vars.map bC) (if i = pi then [2,3] else []) fd.body d.body
noncomputable def okAll:Bool:=fsAll.zipIdx.all fun x=>(recsOf qV).any fun d=>okRec "_posix_class" 2 x.2 x.1 d
theorem zk9:okAll = true:=by kernel_rfl
theorem zjc {d:DefRec} {pm cd doc:aD} {fd:MFun} (h1:d.params.posonlyargs.isEmpty = true) (h2:d.params.vararg.isNone = true) (h3:d.params.kwonlyargs.isEmpty = true) (h4:d.params.kwarg.isNone = true) (h5:d.params.defaults.isEmpty = true)
  (h6:d.params.args.map (fun O=>O.arg) = (fd.vars.map bC).take fd.np) (h7:fd.np <= 4) (h8:fd.np <= fd.vars.length) (h9:(fd.vars.map bC).Nodup) (vals:List aD) (hv:vals.length = fd.np) :
  bindArgs (docDef d.name d.params d.body d.scope pm cd doc) ⟨vals,[]⟩ = pure ((fd.vars.map bC).zip vals):=by
 have hz:(fd.vars.map bC).zip vals = ((fd.vars.map bC).take fd.np).zip vals:=by
  have zz:∀ (l:List Str) (vs:List aD),l.zip vs = (l.take vs.length).zip vs:=by
   intro l;induction l with
   | nil=>intro vs; simp
   | cons x l ih =>
    intro vs
    cases vs with
    | nil=>simp
    | cons v vs=>simp only [fG,aI,dB]; rw [<- ih vs]
  rw [<- hv];exact zz _ _
 rw [hz,<- h6];have hl:d.params.args.length = fd.np:=by
  have:=congrArg cS h6;simp only [bQ,List.length_take] at this;omega
 have hn:(d.params.args.map (fun O=>O.arg)).Nodup:=by rw [h6]; exact List.Nodup.sublist (List.take_sublist _ _) h9
 obtain ⟨dn,⟨po,ar,va,ko,kd,kw,df⟩,db,ds,dp⟩:=d;dsimp only at h1 h2 h3 h4 h5 hl hn |-;clear h6;obtain rfl:=bZ.mp h1;obtain rfl:=cD.mp h2;obtain rfl:=bZ.mp h3;obtain rfl:=cD.mp h4;obtain rfl:=bZ.mp h5;exact zof (hl.trans hv.symm) hn
noncomputable def Up (w:cF) (h:cZ):Prop:=∀ b o,(sE w).heap.get? b = some o->h.get? b = some o
noncomputable def mkE (w:cF) (x:(List Nat × List Nat) × Nat):DictEntry:=⟨bh w.params (toB x.1.1),.bytes (toB x.1.1) (200+2 * x.2),.bytes (toB x.1.2) (200+2 * x.2+1)⟩
theorem zfr (w:cF):∀ (kvs:List KV) (es:Array DictEntry),(entries w kvs es).toList = es.toList++kvs.map fun x=>⟨bh w.params x.1,.bytes x.1 x.2.1,x.2.2⟩
 | []=>by intro es; simp [entries]
 | x :: r=>by
  intro es;have:=zfr w r (es.push ⟨bh w.params x.1,.bytes x.1 x.2.1,x.2.2⟩);unfold entries at this |-;rw [fH,this];simp
theorem zfj (w:cF):(entries w (pkvs 200) #[]).toList = posix.zipIdx.map (mkE w):=by
 rw [zfr];simp [pkvs,mkE]
theorem zfn (w:cF) {b:List Nat} (hb:∀ x ∈ b,x < 256):∀ (l:List (List Nat × List Nat)) (i:Nat),(∀ p ∈ l,∀ x ∈ p.1,x < 256) ->
  ∃ t,(((l.zipIdx i).map (mkE w)).find? fun e=>isB (toB b) e.key).map (fun O=>O.val) = (l.lookup b).map fun c=>.bytes (toB c) t
 | []=>fun i O=>⟨0,rfl⟩
 | (k,v) :: r=>by
  intro i h;have hk:=h (k,v) (by simp);have e:isB (toB b) (.bytes (toB k) (200+2 * i)) = decide (k = b):=by
   show (toB k == toB b) = _;rw [<- zgl hk hb,eP,beq_iff_eq,beq_iff_eq,Array.toList_inj]
  rw [List.zipIdx_cons,aS,List.find?_cons,bO];have e':isB (toB b) (mkE w ((k,v),i)).key = decide (k = b):=e;rw [e']
  by_cases q:k = b
  ·clear e' hb e;subst q;exact ⟨200+2 * i+1,by simp [mkE]⟩
  ·obtain ⟨t,ht⟩:=zfn w hb r (i+1) fun p hp=>h p (by simp [hp]);refine ⟨t,?_⟩;have q2:(b == k) = false:=by simpa using fun z=>q z.symm
   rw [q2];simp only [q,decide_false];exact ht
theorem zim:∀ p ∈ posix,(∀ x ∈ p.1,x < 256)/\∀ x ∈ p.2,x < 256:=by decide
theorem zfs (w:cF) {b:List Nat} (hb:∀ x ∈ b,x < 256):∃ t,findBy isB (entries w (pkvs 200) #[]) (toB b) = (posix.lookup b).map fun c=>.bytes (toB c) t:=by
 obtain ⟨t,h⟩:=zfn w hb posix 0 fun p hp=>(zim p hp).1;refine ⟨t,?_⟩;unfold findBy;rw [<- Array.find?_toList,zfj];exact h
theorem zhp {prog:dC} {w:cF} {h:cZ} {D:aN} (hD:h.get? D = some (dobj (entries w (pkvs 200) #[]) 12)):h.MapOf (kindB prog w) D (fun k=>findBy isB (entries w (pkvs 200) #[]) k) :=
 ⟨_,_,_,hD,⟨rfl,rfl,rfl⟩,rfl,fun e he=>by
  have h1:e ∈ (entries w (pkvs 200) #[]).toList:=Array.mem_toList_iff.mpr he;rw [zfj] at h1;obtain ⟨x,_,rfl⟩:=cG.mp h1;exact ⟨toB x.1.1,by simp [mkE,kindB,isB],rfl⟩,fun O=>rfl⟩
section
variable {prog:dC} {w:cF} {A:bA} {E:aD->aC->Prop} {s:aC} {P D:aN}
theorem zl4 (hD:s.heap.get? D = some (dobj (entries w (pkvs 200) #[]) 12)) (hs:(D == sysModules) = false) {b:List Nat} {t:Tok} {Q:aD->aC->Prop} (hb:∀ x ∈ b,x < 256) (hQ:∀ s',Gr P s s'->Q (.bool (!(posix.lookup b).isSome)) s') :
  wpAny (model prog w) A (compareOp .NotIn (.bytes (toB b) t) (.ref D)) Q E s:=by
 obtain ⟨u,hu⟩:=zfs w hb;refine aG (zex (Q:=fun v s'=>v = .bool (posix.lookup b).isSome/\Gr P s s') (wpAny_in_of (knd:=kindB prog w) (k:=toB b) (by simp [kindB,isB]) hs (zhp hD) ⟨?_,.toks⟩)) (fun v s' ⟨c,e,e2,g⟩=>?_) fun O O e=>e
 ·rw [hu,Option.isSome_map]
 ·subst e
  cases e2
  exact hQ s' g
theorem zmj (hD:s.heap.get? D = some (dobj (entries w (pkvs 200) #[]) 12)) {b c:List Nat} {t:Tok} {value slice:aL} {Q:aD->aC->Prop} (hb:∀ x ∈ b,x < 256) (hc:posix.lookup b = some c) (hQ:∀ u s',Gr P s s'->Q (.bytes (toB c) u) s') :
  wpAny (model prog w) A (subscriptTail value slice (.ref D) (.bytes (toB b) t)) Q E s:=by
 obtain ⟨u,hu⟩:=zfs w hb;rw [hc] at hu;have hm:=zhp (prog:=prog) hD;obtain ⟨ops,hops⟩:=za0 slice (.ref D) (.bytes (toB b) t);exact tail_any hm.typeIs slot_dict_getitem.lookup (wpAny_getItem_of (knd:=kindB prog w) (k:=toB b) (by simp [kindB,isB]) hm hu (hQ u _ .toks)) hops
end
theorem zmo:((ownsOf qV).any fun o=>o.name == ("MalformedPattern" : Str) && o.bm == excMro && o.newId == "Exception.__new__") = true:=by kernel_rfl
theorem zmg:((recsOf qV).any fun d=>d.name == ("_translate_double_asterisk" : Str)) = true:=by kernel_rfl
section
variable {w:cF} {s₀ s₁:aC} {mg mb:Str->Option aD} {R:WRecords} {XP:(Str->Option aD)->cZ->Prop}
theorem zuz {f:Nat} {fd:MFun} (h:fsAll[f]? = some fd):∃ d ∈ recsOf qV,okRec "_posix_class" 2 f fd d = true:=by
 have h1:=zk9;unfold okAll at h1;rw [bS] at h1;have h2:=h1 (fd,f) (by
  rw [List.mem_iff_getElem?];exact ⟨f,by rw [List.getElem?_zipIdx,h]; simp⟩)
 rw [List.any_eq_true] at h2;exact h2
noncomputable def wdOf (w:cF) (P c0 C:aN) (s₁:aC) (mg mb:Str->Option aD):Wd :=
 {pp:=Pg,w:=w,P:=P,c0:=c0,C:=C,D:=22,sB:=s₁,fs:=fsAll,fa:=fun f=>match fsAll[f]? with
   | some fd=>(match mg (fd.name:Str) with | some (.ref a)=>a | _=>0)
   | none=>0
  mg:=mg,mb:=mb }
set_option tactic.hygienic true in
theorem zrv (T:Top qV (looseW qV looseN) (ExcName.means s₀.heap) mg mb s₁.heap) (U:Up w s₁.heap):Ex3 fun P c0 C=>And4 (Bs (wdOf w P c0 C s₁ mg mb)) (ClsAt (wdOf w P c0 C s₁ mg mb)) (TextOk (wdOf w P c0 C s₁ mg mb) 2 f_posix_class) (s₁.heap.TableAt c0 P #[]):=by
 refine byC fun hG=>?_;obtain ⟨f1,f2⟩:=dK (zwt w);obtain ⟨f2,f3⟩:=dK f2;simp only [bB] at f3;obtain ⟨⟨⟨⟨f3,f4⟩,f5⟩,f6⟩,f7⟩:=f3;have eg:∀ x,mg x = (sE w).heap.nsMap mainGlobals x:=fun x=>T.g.agree ((Heap.Ns.of_isNs f6).keeps U) x;have eb:∀ x,mb x = (sE w).heap.nsMap builtinsNs x:=fun x=>T.b.agree ((Heap.Ns.of_isNs f7).keeps U) x;obtain ⟨dT,hdT,hnT⟩:=List.any_eq_true.mp zmg;obtain ⟨aT,oT,fdT,c0,P,hT1,hT2,hT3,hT4,hT5,hT6⟩:=T.tab dT hdT;rw [aR hnT] at hT1;have htri:TriplesOk (#[]:Array aD).toList:=zcq hT5;have htab:IsTab s₁.heap P:=⟨⟨#[],htri⟩,hT6.2⟩;have neP:∀ {a:aN} {o:Obj},s₁.heap.get? a = some o->(∀ ps,o.data ≠ .fields ps)->a ≠ P:=fun {a o} h hd e=>by
  rw [e,hT6.2] at h
  cases h
  exact hd _ rfl
 obtain ⟨oS,hoS,hoS2⟩:=List.any_eq_true.mp zmo;simp only [bB] at hoS2;obtain ⟨⟨n1,n2⟩,n3⟩:=hoS2;obtain ⟨C,hC,_⟩:=T.own oS hoS;rw [aR n1,aR n2,aR n3] at hC;obtain ⟨bm,N,nm,q,bs,hdct,sn,sub,ab,col,dd,k0,k1,k2,k3,k5,mN,hCo,hN,hq,hTl⟩:=hC.obj;have hfn:∀ (f:Nat) (fd:MFun),fsAll[f]? = some fd->∃ d ∈ recsOf qV,okRec "_posix_class" 2 f fd d = true/\Ex4 fun o pm code doc=>And4 (mg (fd.name:Str) = some (.ref ((wdOf w P c0 C s₁ mg mb).fa f))) (s₁.heap.get? ((wdOf w P c0 C s₁ mg mb).fa f) = some o) (o.data = .func (docDef d.name d.params d.body d.scope pm code doc)) (s₁.heap.CodeRec code d.name):=fun f fd hf=>by
  refine byC fun hG=>?_;obtain ⟨d,hd,hok⟩:=zuz hf;obtain ⟨a,o,pm,code,doc,h1,h2,h3,h4⟩:=T.fn d hd;have hnm:d.name = (fd.name:Str):=by
   unfold okRec at hok
   iterate 16 (replace hok:=(dX.mp hok).1)
   exact aR hok
  rw [hnm] at h1;have hfa:(wdOf w P c0 C s₁ mg mb).fa f = a:=by
   show (match fsAll[f]? with | some fd=>(match mg (fd.name:Str) with | some (.ref a)=>a | _=>0) | none=>0) = a;rw [hf];dsimp only;rw [h1]
  refine hG ?_;exact ⟨d,hd,hok,o,pm,code,doc,by rw [hfa]; exact h1,by rw [hfa]; exact h2,h3,h4⟩
 have hD:s₁.heap.get? 22 = some (dobj (entries w (pkvs 200) #[]) 12):=U _ _ f1;have hDP:(22:aN) ≠ P:=neP hD fun ps e=>by cases e
 have B:Bs (wdOf w P c0 C s₁ mg mb):={
  g:=T.g
  b:=T.b
  nolimit:=T.nolimit
  tab:=htab
  bt:=fun p hp=>by
   unfold btabOk at f3;have h:=bS.mp f3 p hp;simp only [bB] at h;exact ⟨(eg _).trans (cD.mp h.1),(eb _).trans (aR h.2)⟩
  gt:=fun k p hk=>by
   unfold gtabOk at f4;have h:=bS.mp f4 p (eW hk)
   split at h
   ·rename_i v hv;exact ⟨v,(eg _).trans hv,znj U htab h⟩
   ·cases h
  fn:=fun f fd hf=>by
   refine byC fun hG=>?_;obtain ⟨d,hd,hok,o,pm,code,doc,h1,h2,h3,h4⟩:=hfn f fd hf;refine hG ?_;exact ⟨h1,o,_,h2,h3⟩
  cls:=⟨hC.bound,nm,q,N,bs,bm,hdct,sn,sub,ab,col,dd,k0,k1,k2,k3,k5,_,hCo,hTl.tail.hasType rfl⟩
  code0:=⟨#[],hT5,hT6⟩
  bmod:=by
   refine byC fun hG=>?_;obtain ⟨bm',ob,b1,b2,b3,b4,b5,b6⟩:=T.bmain;refine hG ?_;clear hG;refine ⟨bm',ob,b1,b2,fun e=>?_,neP b3 (fun ps e=>by rw [b6] at e; cases e),b3,b4,b5,b6⟩;obtain ⟨og,es,ep,g1,g2,_⟩:=T.g;rw [e,g1] at b3;clear b5 b4
   cases b3
   rw [b6] at g2
   cases g2
  low:=by
   obtain ⟨o,ho⟩:=aH.mp f5;show (s₁.heap.get? sysModules).isSome = true;rw [U _ _ ho]; rfl
  dct:=(eg _).trans f2
  pin:=fun A E s b t Q g hb hQ=>zl4 (P:=P) (g.ext 22 _ hDP hD) (by decide) hb hQ
  pat:=fun A E s b c t value slice Q g hb hc hQ=>zmj (P:=P) (g.ext 22 _ hDP hD) hb hc hQ }
 refine hG ?_;clear hG;refine ⟨P,c0,C,B,⟨bm,N,nm,q,bs,hdct,sn,sub,ab,col,dd,k0,k1,k2,k3,k5,mN,hCo,hN,hq _ (.head _),hTl.tail⟩,⟨rfl,rfl,fun f fd hf=>?_⟩,hT6⟩;refine byC fun hG=>?_;obtain ⟨d,hd,hok,o,pm,code,doc,h1,h2,h3,h4⟩:=hfn f fd hf;unfold okRec at hok;simp only [bB,decide_eq_true_eq,beq_iff_eq,eQ,bne_iff_ne] at hok;obtain ⟨⟨⟨⟨⟨⟨⟨⟨⟨⟨⟨⟨⟨⟨⟨⟨m1,m2⟩,m3⟩,m4⟩,m5⟩,m6⟩,m7⟩,m8⟩,m9⟩,m10⟩,m11⟩,m12⟩,m13⟩,m14⟩,m15⟩,m16⟩,m17⟩:=hok;refine hG ?_;clear hG;refine ⟨docDef d.name d.params d.body d.scope pm code doc,d.body,{
  obj:=⟨o,h2,h3⟩
  clo:=rfl
  bd:=rfl
  gl:=rfl
  bi:=rfl
  ki:=m9
  co:=m10
  ge:=m11
  cd:=?_
  rem:=fun h=>?_
  bind:=fun vals hv=>zjc m2 m3 m4 m5 m6 m7 m8 m12 m13 vals hv
  np:=m12
  nod:=m13
  nmd:=m14
  kinds:=fun x hx=>?_
  chk:=m17 }⟩
 ·refine byC fun hG=>?_;obtain ⟨c,oc,vs,t,e1,e2,e3,e4⟩:=h4;refine hG ?_;clear hG;refine ⟨c,oc,vs,t,e1,fun e=>?_,e2,e3,e4⟩;have e':c = P:=e;rw [e',hT6.2] at e2
  cases e2
  cases e3
  simp at e4
 ·have h5:fd.name = "_translate_double_asterisk" := m16.resolve_left fun z=>z h;rw [h5,hT1] at h1;have h6:aT = (wdOf w P c0 C s₁ mg mb).fa f:=by cases (h1); rfl
  rw [h6,h2] at hT2
  cases (hT2)
  rw [h3] at hT3
  cases (hT3)
  exact hT4
 ·have h9:=bS.mp m15 x hx;simp only [eQ,beq_iff_eq] at h9;exact h9
end
noncomputable def bigN:Nat:=1000000
noncomputable def fuel:Nat:=100
noncomputable def lcf:Nat->List V->R V:=callF bigN fsAll 2 fuel
noncomputable def lpc:V->V->List V->List V->R (V × List V × List V):=pcOf bigN fsAll 2 fuel
noncomputable def lawFn:MFun:=⟨"law",1,lawVars,.nil⟩
structure Left (P:aN) (s s':aC):Prop where
 ext:∀ b o,b ≠ P->s.heap.get? b = some o->s'.heap.get? b = some o
 tab:IsTab s'.heap P
 os:s'.os = s.os
 gens:AllBare s.gens->AllBare s'.gens
structure LawBody (fs:List String) (K:Str->Option aY) (body:List cI):Prop where
 is:Ex13 fun sA sD e rp p hp hr tp np cE kE cp ep=>And5 (body = sA++(Stmt.Try [.Assign [.Name "regex" rp] e p] [.ExceptHandler (some (.Name "MalformedPattern" np)) none [.Return (some (.Compare (.Name "tail" cp) [.NotEq] [.Constant (.bytes []) kE cE] ep)) hr] hp] [] [] tp :: sD)) (chkSs fs "_posix_class" K (lawVars.map bC) [] lawA sA = true) (chkSs fs "_posix_class" K (lawVars.map bC) [] lawD sD = true) (chk fs (.call 9 (.cons (.nm 4) .nil)) K ((lawVars.map bC).map some) e = true) (swB K e "regex" rp = false)
 kt:K ("tail" : Str) = some .local
 km:K ("MalformedPattern" : Str) = some .globalImplicit
set_option tactic.hygienic true in
theorem zqn {M:Model} {Γ:Ctx} {env:Env} {rest:List cI} {Q:Flow->Pos->aC->Prop} {E:aD->Pos->aC->Prop}:∀ (l:List cI) (p:Pos) (s:aC),Sem.wp M Γ (execs l env) (fun f p' s'=>match f with | .next=>Sem.wp M Γ (execs rest env) Q E p' s' | f=>Q f p' s') E p s->Sem.wp M Γ (execs (l++rest) env) Q E p s
 | []=>by
  intro p s h;rw [show execs [] env = pure Flow.next from rfl,Sem.wp_pure'] at h;exact h
 | st :: l=>by
  intro p s h;rw [fZ,execs_cons,Sem.wp_bind'];rw [execs_cons,Sem.wp_bind'] at h;refine Sem.wp_mono M Γ _ (fun f p' s' h'=>?_) (fun O O O h'=>h') _ _ h
  cases f with
  | next=>exact zqn l p' s' h'
  | brk=>exact h'
  | cont=>exact h'
  | ret v=>exact h'
set_option tactic.hygienic true in
theorem zn6 {M:Model} {A:bA} {E:aD->aC->Prop} {env:Env} {rest:List cI} {Q:Flow->aC->Prop} {l:List cI} {s:aC} (h:wpAny M A (execs l env) (fun f s1=>match f with | .next=>wpAny M A (execs rest env) Q E s1 | f=>Q f s1) E s):wpAny M A (execs (l++rest) env) Q E s:=fun Γ p hΓ =>
 zqn l p s (Sem.wp_mono M Γ _ (fun f p' s' h'=>by cases f <;> first | exact h' Γ p' hΓ | exact h') (fun O O O h'=>h') _ _ (h Γ p hΓ))
section
variable {W:Wd} {env:Env} {A:bA} {n:Nat} {vars:List Str} {X0 W0:aN->Prop} {s0 s s':aC} {oa:Nat->aN} {σ:List Slot} {E:aD->aC->Prop}
theorem zkw (B:Bs W) (f:Fm W env [env] A n (lawVars.map bC) (fun O=>O = W.P) (fun O=>O = W.P) W.sB oa σ s) {K:Str->Option aY} (hK:∀ x,env.kindOf x = K x) (kt:K ("tail" : Str) = some .local) (km:K ("MalformedPattern" : Str) = some .globalImplicit) (ef:env.frame = some env.locals)
  {tb:List Nat} (htl:σ[3]? = some (some (false,.bytes tb))) (htb:tb ≠ []) {e:aD} (hx:Exc W (fun O=>O = W.P) [env] s e s') {np hp hr cp ep cE:Pos} {kE} {Q:Flow->aC->Prop} (hQ:∀ s'',Left W.P W.sB s''->Q (.ret (.bool true)) s'') :
  wpAny (model W.pp W.w) A (noteFrame e env) (fun O s₂=>wpAny (model W.pp W.w) A (setFlight e none) (fun O s₃ =>
   wpAny (model W.pp W.w) A (handleBy e env [.ExceptHandler (some (.Name "MalformedPattern" np)) none [.Return (some (.Compare (.Name "tail" cp) [.NotEq] [.Constant (.bytes []) kE cE] ep)) hr] hp]) Q E s₃) E s₂) E s':=by
 refine eO fun hG=>?_;obtain ⟨x,Bh,a0,he,hfl,hk,htb',hsl,hos,hg⟩:=hx;have hL0:W.sB.heap.get? env.locals = none:=f.lo _ (.inl rfl);have hfm:([env]:List Env).filterMap (fun O=>O.frame) = [env.locals]:=by rw [eC,ef]; rfl
 have old:∀ b o,b ≠ W.P->W.sB.heap.get? b = some o->Bh.get? b = some o:=fun b o hb e=>hk b o hb (by
  rw [hfm];intro q;rw [bR] at q;rw [q,hL0] at e
  cases e) (f.g.ext b o hb e)
 have hLP:env.locals ≠ W.P:=f.neP B (.inl rfl);obtain ⟨hCb,nm,q,N,bs,bm,hdct,sn,sub,ab,col,dd,k0,k1,k2,k3,k5,newId,hCo,hbase⟩:=B.cls;have hCP:W.C ≠ W.P:=zbl B.tab hCo rfl;obtain ⟨ov,hbd,hv⟩:=f.val 3 "tail" _ rfl htl;obtain ⟨v,rfl,hb256,t,rfl⟩:=hv;have hns:∃ m,s.heap.Ns env.locals m/\m ("tail" : Str) = some (.bytes (toB tb) t):=by
  rcases hbd with ⟨_,m,h1,h2⟩ | ⟨h1,_⟩
  ·exact ⟨m,h1,h2⟩
  ·rw [hK,kt] at h1; cases h1
 obtain ⟨m,hm1,hm2⟩:=hns;have hm':s'.heap.Ns env.locals m:=by
  obtain ⟨o,es,en,ho,hd,r⟩:=hm1;obtain ⟨sl,h1⟩:=hsl _ o hLP ho fun vs q=>absurd (congrArg isFld (hd.symm.trans q)) aJ;exact ⟨_,es,en,h1,hd,r⟩
 refine hG ?_;clear hG;subst he;refine wpAny_looks_onW f.st ef hfl fun h₄ hheld₄ hup₄=>?_;refine wpAny_landsW hheld₄ fun h₅ hfl₅ hup₅=>?_;obtain ⟨ob,hob,hobc⟩:=hfl₅.there;have hm5:h₅.Ns env.locals m:=hup₅.ns (hup₄.ns hm');refine wpAny_handleBy_cons (codeAny_handlers_test ?_) (by intro q; cases q);refine dR ?_ (by decide);rw [loadName_read f.ek (by rw [hK]; exact km)];refine loadGlobal_global (mg:=W.mg) ?_ hCb ?_
 ·rw [f.eg];exact B.g.at' fun o e=>hfl₅.1 _ _ (old _ o (zaq B.tab B.g) e)
 refine wpAny_excMatches_sub_self (hfl₅.1 _ _ (old _ _ hCP hCo)) hob hobc hbase (codeAny_handlers_suite ?_);refine lands_againW hfl₅ fun h₆ hfl₆ hup₆=>?_;have hm6:h₆.Ns env.locals m:=hup₆.ns hm5;refine wpAny_execs_cons (wpAny_Return_some (eI ?_ rfl));refine dR (dW f.ek (by rw [hK]; exact kt) hm6 hm2 ?_) (by decide);refine wpAny_mkTextBytes ?_;have hun:A.units < 9900:=by have:=f.un; omega
 refine aG (zu2 (E:=fun O O=>False) (P:=W.P) (X:=fun O=>False) (a:=.bytes tb) (b:=.bytes []) (r:=decide (tb = [])) hun ⟨hb256,t,rfl⟩ ⟨fun O q=>(nomatch q),_,rfl⟩ rfl) (fun v s9 ⟨g9,r9⟩=>?_) fun O O h=>h.elim
 ·cases (show v = .bool (!decide (tb = [])) from r9)
  rw [decide_eq_false htb];obtain ⟨ps,htb2⟩:=htb';exact hQ s9 ⟨fun b o hb e=>g9.ext b o hb (hfl₆.1 _ _ (old b o hb e)),g9.tab ⟨ps,hfl₆.1 _ _ htb2⟩,(g9.os.trans hos).trans f.g.os,fun q=>g9.gens (hg (f.g.gens q))⟩
end
noncomputable def trME:ME:=.call 9 (.cons (.nm 4) .nil)
noncomputable def lawσ (ns:List Int):List Slot:=initS lawFn [] [.lst (ns.map .int)]
noncomputable def LawTrue (ns:List Int):Prop:=∃ σ1,exs bigN lcf lpc lawA (lawσ ns) = .nx σ1 /\
 ((Ey2 (fun d σ'=>ev lcf trME (ρm (nms trME) σ1) = .ok d) (fun d σ'=>exs bigN lcf lpc lawD ((fz (nms trME) d σ1).set 5 (some (false,d))) = .rt (.bool true) σ')) \/
  (ev lcf trME (ρm (nms trME) σ1) = .ex/\∃ tb,σ1[3]? = some (some (false,.bytes tb))/\tb ≠ []))
section
variable {W:Wd}
theorem zpd (B:Bs W) (hC:ClsAt W) (T:TextOk W 2 f_posix_class) (hfs:W.fs = fsAll) {fa:aN} {q:FuncData} {body:List cI} (hF:FnIn W fa lawFn q body) (hL:LawBody (fns fsAll) (fun x=>q.scope.names.lookup x) body)
  {A:bA} {la:aN} {vs:List aD} {ns:List Int} {E:aD->aC->Prop} (hh:A.handled = none) (dep:A.depth+(fuel+1) < 1000) (un:A.units+3 * (fuel+1) <= 9000) (st:A.frames = some [])
  (hl:W.sB.heap.IsList la (aQ vs)) (hr:RepL (fun O=>O = W.P) W.sB.heap (ns.map .int) vs) (hlaw:LawTrue ns) :
  wpAny (model W.pp W.w) A (call (.ref fa) [.ref la]) (fun v s'=>v = .bool true/\Left W.P W.sB s') E W.sB:=by
 refine byC fun hG=>?_;obtain ⟨σ1,hA,hcase⟩:=hlaw;obtain ⟨⟨sA,sD,e,rp,p,hp,hr2,tp,np,cE,kE,cp,ep,hb,chA,chD,chE,hsw⟩,kt,km⟩:=hL;have hcf:CallOk W fuel lcf:=by
  have:=zbr (N:=bigN) B hC T fuel fuel (dD _);rw [hfs] at this;exact this
 have hpc:PosOk W fuel 2 lpc:=by
  have:=zj6 (N:=bigN) B hC T (k:=99) (zbr (N:=bigN) B hC T 99 99 (dD _));rw [hfs] at this;exact this
 have hneP:la ≠ W.P:=by
  refine byC fun hG=>?_;obtain ⟨o,ho,_,n,hd⟩:=hl;refine hG ?_;exact zbl B.tab ho (by rw [hd]; rfl)
 refine hG ?_;clear hG;refine zj5 (n:=fuel) (ds:=[.lst (ns.map .int)]) (own:=[]) (oaI:=fun O=>0) (X0:=(fun O=>O = W.P)) (W0:=(fun O=>O = W.P)) B hF rfl rfl hh dep un st trivial (.refl _) (fun a h=>by obtain ⟨ps,e⟩:=B.tab; rw [show a = W.P from h,e]; rfl) rfl (fun a h=>.inl h) rfl
  (fun i d O h=>by simp at h) (fun i j di dj O O h=>by simp at h) (fun i d v h1 h2=>?_) fun env s1 F1 ef eK eS hlcd=>?_
 ·match i,h1,h2 with
  | 0,h1,h2 =>
   cases h1; cases h2
   refine ⟨_,rfl,la,vs,rfl,fun q=>?_,hl,hr.mono (fun a h=>?_) fun b o O e=>e⟩
   ·rcases q with q | ⟨_,_,_,q,_⟩
    ·exact hneP q
    ·simp at q
   ·rcases h with h | ⟨_,_,_,h,_⟩
    ·exact h
    ·simp at h
  | i+1,h1,h2=>simp at h1
 rw [hb];have hst:(A.deeper env).frames = some [env]:=by show A.frames.map _ = _; rw [st]; rfl
 have ek:env.scope.kind = .function:=by rw [eS]; exact hF.ki
 have hpd:W.fs[2]? = some f_posix_class:=T.here;refine zn6 (aG (zbf (W:=W) (cf:=lcf) (env:=env) (l:=[env]) (A:=A.deeper env) (n:=fuel) (vars:=lawVars.map bC) (W0:=(fun O=>O = W.P)) (s0:=W.sB) (kp:=[]) (N:=bigN) (pc:=lpc) (pi:=2) (pd:=f_posix_class)
  (E:=fun e s'=>wpAny (model W.pp W.w) (A.deeper env) (leaving env e) (fun O s''=>E e s'') (fun e' s''=>E e' s'') s') B hcf hC PassesOwn.leaving hpd hpc ek eK lawA sA (by rw [hfs]; exact chA) (fun O=>O = W.P) (fun O=>0) (lawσ ns) s1 F1
  (by rw [hA]; exact fun z=>nomatch z) (by rw [hA]; exact fun z=>nomatch z)) (fun fl s2 h=>?_) fun O O z=>z)
 rw [hA] at h
 cases fl <;> first | exact h.elim | skip
 refine byC fun hG=>?_;obtain ⟨oa2,f2,st2⟩:=h;refine hG ?_;clear hG;dsimp only;refine wpAny_execs_cons (wpAny_Try_except ?_);refine wpAny_execs_cons (wpAny_Assign_Name ?_ (by rw [zl2 ek eK,hsw]));refine aG ((zab B hcf trME).1 (fun x=>q.scope.names.lookup x) ((lawVars.map bC).map some) e env [env] (A.deeper env) _ (Xe env (fun O=>O = W.P) oa2 σ1 (nms trME)) s2 (ρm (nms trME) σ1) (by rw [hfs]; exact chE) eK (f2.cx B _) (f2.evv B _) ?_ ?_) (fun v s3 ⟨d,hd,g3,r3⟩=>?_) fun O O z=>z
 ·refine byC fun hG=>?_;rcases hcase with ⟨d,σ',hd,_⟩ | ⟨hd,_⟩
  ·refine hG ?_;clear hG;rw [hd]; exact fun z=>nomatch z
  ·refine hG ?_;clear hG;rw [hd]; exact fun z=>nomatch z
 ·intro hex e' s' hx;refine byC fun hG=>?_;rcases hcase with ⟨d,σ',hd,_⟩ | ⟨_,tb,htl,htb⟩
  ·rw [hd] at hex; cases hex
  ·refine hG ?_;exact zkw B f2 eK kt km ef htl htb hx fun s'' hl''=>⟨rfl,hl''⟩
 ·refine byC fun hG=>?_;rcases hcase with ⟨d',σ',hd',hD⟩ | ⟨hex,_⟩
  ·rw [hd] at hd'
   cases hd'
   obtain ⟨f3,r3',st3⟩:=f2.after (kp:=[]) B g3 r3;refine hG ?_;clear hG;refine f3.storeS (kp:=[]) B (x:=5) rfl r3' fun s4 f4 st4=>?_;refine gD (gD ?_);dsimp only;refine aG (zbf (W:=W) (cf:=lcf) (env:=env) (l:=[env]) (A:=A.deeper env) (n:=fuel) (vars:=lawVars.map bC) (W0:=(fun O=>O = W.P)) (s0:=W.sB) (kp:=[]) (N:=bigN) (pc:=lpc) (pi:=2) (pd:=f_posix_class)
    (E:=fun e s'=>wpAny (model W.pp W.w) (A.deeper env) (leaving env e) (fun O s''=>E e s'') (fun e' s''=>E e' s'') s') B hcf hC PassesOwn.leaving hpd hpc ek eK lawD sD (by rw [hfs]; exact chD) (fun O=>O = W.P) oa2 _ s4 f4
    (by rw [hD]; exact fun z=>nomatch z) (by rw [hD]; exact fun z=>nomatch z)) (fun fl s5 h5=>?_) fun O O z=>z
   rw [hD] at h5
   cases fl <;> first | exact h5.elim | skip
   refine byC fun hG=>?_;obtain ⟨oa5,f5,st5,r5⟩:=h5;refine hG ?_;clear hG;refine ⟨r5,fun b o hb e=>f5.g.ext b o hb e,f5.tab B,f5.g.os,f5.g.gens⟩
  ·rw [hex] at hd; cases hd
end
noncomputable def nilDef:DefRec:=⟨bC "",⟨[],[],none,[],[],none,[]⟩,[],Pg.main.scope,default⟩
noncomputable def lawDef:DefRec:=((recsOf qV)[28]?).getD nilDef
theorem zly:(recsOf qV)[28]? = some lawDef:=by kernel_rfl
noncomputable def okLaw (fd:MFun) (d:DefRec):Bool :=
 d.name == (fd.name:Str) && d.params.posonlyargs.isEmpty && d.params.vararg.isNone && d.params.kwonlyargs.isEmpty && d.params.kwarg.isNone && d.params.defaults.isEmpty && d.params.args.map (fun O=>O.arg) == (fd.vars.map bC).take fd.np && decide (fd.np <= 4) &&
 d.scope.kind == .function && d.scope.isCoroutine == false && d.scope.isGenerator == false && decide (fd.np <= fd.vars.length) && decide (fd.vars.map bC).Nodup && decide (d.scope.names.map (fun O=>O.1)).Nodup &&
 (fd.vars.map bC).all (fun x=>d.scope.names.lookup x == some .local || d.scope.names.lookup x == some .cell) && d.scope.names.lookup ("remaining" : Str) != some .local &&
 d.scope.names.lookup ("tail" : Str) == some .local && d.scope.names.lookup ("MalformedPattern" : Str) == some .globalImplicit
theorem zld:okLaw lawFn lawDef = true:=by kernel_rfl
noncomputable def tryS:cI:=lawDef.body.getD 3 (.Pass default)
noncomputable def tryA:WS:=vwS ((vwS tryS).w5.headD (.Pass default))
noncomputable def tryE:aL:=tryA.w1
noncomputable def tryRP:Pos:=(tryA.w0.headD dE).pos
noncomputable def tryAP:Pos:=tryA.w3
noncomputable def tryP:Pos:=(vwS tryS).w3
noncomputable def hdl:Option aL × List cI × Pos:=((vwS tryS).w9.head?.map fun | .ExceptHandler t O b p=>(t,b,p)).getD (none,[],default)
noncomputable def hdNP:Pos:=(hdl.1.getD dE).pos
noncomputable def hdP:Pos:=hdl.2.2
noncomputable def hdR:WS:=vwS (hdl.2.1.headD (.Pass default))
noncomputable def hdRP:Pos:=hdR.w3
noncomputable def hdC:WE:=vwE (hdR.w7.getD dE)
noncomputable def hdCP:Pos:=hdC.w4.pos
noncomputable def hdEP:Pos:=hdC.w1
noncomputable def hdKP:Pos:=(hdC.w10.headD dE).pos
theorem znd:lawDef.body = lawDef.body.take 3++(Stmt.Try [.Assign [.Name "regex" tryRP] tryE tryAP] [.ExceptHandler (some (.Name "MalformedPattern" hdNP)) none [.Return (some (.Compare (.Name "tail" hdCP) [.NotEq] [.Constant (.bytes []) 0 hdKP] hdEP)) hdRP] hdP] [] [] tryP :: lawDef.body.drop 4):=by kernel_rfl
theorem zk5:(chkSs (fns fsAll) "_posix_class" (fun x=>lawDef.scope.names.lookup x) (lawVars.map bC) [] lawA (lawDef.body.take 3) && chkSs (fns fsAll) "_posix_class" (fun x=>lawDef.scope.names.lookup x) (lawVars.map bC) [] lawD (lawDef.body.drop 4) &&
 chk (fns fsAll) (.call 9 (.cons (.nm 4) .nil)) (fun x=>lawDef.scope.names.lookup x) ((lawVars.map bC).map some) tryE && !swB (fun x=>lawDef.scope.names.lookup x) tryE "regex" tryRP) = true:=by kernel_rfl
section
variable {w:cF} {s₀ s₁:aC} {mg mb:Str->Option aD}
theorem zna {X:aN->Prop} {h:cZ} {vs:List aD} {ns:List Int} (hi:IntsAre vs ns):RepL X h (ns.map .int) vs:=by
 induction hi with
 | nil=>exact rfl
 | cons i t r ih=>exact ⟨_,_,rfl,⟨t,rfl⟩,ih⟩
theorem zrw (T:Top qV (looseW qV looseN) (ExcName.means s₀.heap) mg mb s₁.heap) (U:Up w s₁.heap) (hg:s₁.gens = #[]) {fa la:aN} {vs:List aD} {ns:List Int} {E:aD->aC->Prop} (hmg:mg ("law" : Str) = some (.ref fa))
  (hL:s₁.heap.IsList la (aQ vs)) (hI:IntsAre vs ns) (hlaw:LawTrue ns) :
  wpAny (model Pg w) callerA (call (.ref fa) [.ref la]) (fun v s'=>v = .bool true/\OldK s₁.heap s'.heap/\s'.os = s₁.os/\AllBare s'.gens) E s₁:=by
 refine byC fun hG=>?_;obtain ⟨P,c0,C,B,hC,TO,hT⟩:=zrv T U;have hok:=zld;unfold okLaw at hok;simp only [bB,decide_eq_true_eq,beq_iff_eq,bne_iff_ne] at hok;obtain ⟨⟨⟨⟨⟨⟨⟨⟨⟨⟨⟨⟨⟨⟨⟨⟨⟨m1,m2⟩,m3⟩,m4⟩,m5⟩,m6⟩,m7⟩,m8⟩,m9⟩,m10⟩,m11⟩,m12⟩,m13⟩,m14⟩,m15⟩,m16⟩,m17⟩,m18⟩:=hok;obtain ⟨a,o,pm,code,doc,h1,h2,h3,h4⟩:=T.fn lawDef (eW zly);have hfa:a = fa:=by
  rw [m1] at h1;rw [show mg (lawFn.name:Str) = mg ("law" : Str) from rfl,hmg] at h1;clear h2
  cases h1; rfl
 clear hmg;subst hfa;have hF:FnIn (wdOf w P c0 C s₁ mg mb) a lawFn (docDef lawDef.name lawDef.params lawDef.body lawDef.scope pm code doc) lawDef.body:={
  obj:=⟨o,h2,h3⟩
  clo:=rfl
  bd:=rfl
  gl:=rfl
  bi:=rfl
  ki:=m9
  co:=m10
  ge:=m11
  cd:=by
   refine byC fun hG=>?_;obtain ⟨c,oc,vs,t,e1,e2,e3,e4⟩:=h4;refine hG ?_;clear hG;refine ⟨c,oc,vs,t,e1,fun e=>?_,e2,e3,e4⟩;have e':c = P:=e;rw [e',hT.2] at e2
   cases e2
   cases e3
   simp at e4
  rem:=fun h=>absurd h m16
  bind:=fun vals hv=>zjc m2 m3 m4 m5 m6 m7 m8 m12 m13 vals hv
  np:=m12
  nod:=m13
  nmd:=m14
  kinds:=fun x hx=>by
   have h9:=bS.mp m15 x hx;simp only [eQ,beq_iff_eq] at h9;exact h9 }
 have hck:=zk5;simp only [bB,cA] at hck;obtain ⟨⟨⟨k1,k2⟩,k3⟩,k4⟩:=hck;have hLB:LawBody (fns fsAll) (fun x=>(docDef lawDef.name lawDef.params lawDef.body lawDef.scope pm code doc).scope.names.lookup x) lawDef.body :=
  ⟨⟨_,_,_,_,_,_,_,_,_,_,_,_,_,znd,k1,k2,k3,k4⟩,m17,m18⟩
 refine hG ?_;clear hG;refine aG (zpd (W:=wdOf w P c0 C s₁ mg mb) (A:=callerA) B hC TO rfl hF hLB rfl (by decide) (by decide) rfl hL (zna hI) hlaw) (fun v s' ⟨e,l⟩=>⟨e,?_,l.os,l.gens (by show AllBare s₁.gens; rw [hg]; intro y hy; simp at hy)⟩) fun O O e=>e;obtain ⟨ps,hp⟩:=l.tab;have hold:∀ b o,s₁.heap.get? b = some o->asItWas s₁.heap s'.heap b o/\∃ o',s'.heap.get? b = some o':=fun b o e=>by
  by_cases hb:b = P
  ·clear TO hF hC l B;subst hb;rw [hT.2] at e
   cases e
   refine ⟨.inr (.inl ⟨hT.isCodeTable,rfl,#[],ps.1,rfl,?_⟩),_,hp⟩;rw [show s'.heap.get? b = _ from hp];simp
  ·exact ⟨.inl (l.ext b o hb e),o,l.ext b o hb e⟩
 exact ⟨fun b o e=>(hold b o e).1,fun b o e=>(hold b o e).2⟩
end
section
open PySem PySem.W PyProof.Rows
end
set_option maxHeartbeats 8000000 in
set_option tactic.hygienic true in
theorem zo6 (hlaw:∀ ns:List Int,ns.length <= 63->LawTrue ns):PySem.Challenge.rw_ji0030_01.Holds:=by
 w_on
 refine holds_law (by (repeat refine look_both ?_ (by (try rw [Fast.te17119622794617984870]); (try rw [Fast.te17868728402115742887]); (try rw [Fast.te8377067652309620493]); (try rw [Fast.named_eq]); (try rw [Fast.te8326940854005059898]); (try rw [Fast.te8179353310426384613]); (try rw [Fast.te16286561074155671207]); decide +kernel)); decide +kernel) fun said=>?_;refine holds_open (q:=qV) (loose:=looseN) (Xt:=fun O=>true) (XP:=fun O O=>True) (Yf:=fun s=>s.heap) (Ya:=fun w=>(sE w).heap) (YP:=Up) (N:=20000) left (fun w s e=>by intro b o h; rw [show s.heap = _ from e]; exact h) (fun w h h' y k b o e=>k b o (y b o e)) (fun O O=>trivial) (fun O O O O O=>trivial) (by rfl) (by rfl) (by rfl) (fun s e=>recFacts_nil rfl) (by rfl) (by first | assumption | decide +kernel) (by decide +kernel) ⟨rfl,rfl,rfl,rfl,rfl,by decide +kernel⟩ ?hw ?hc
 case hw=>w_witness2
 intro w s₀ s₁ mg mb G U fa o pm cd doc dV kV ho hd hcd hD hmg hg args vals as hpre hlay hrd hwl hlo;clear hd hcd hD ho
 wrow_args hpre hlay hrd hwl hlo
 rename_i ns _ _ _ _ _ _ _ la vs _ hL _ _ _ hI _ hlen _;have hT:=G.T;refine aG (zrw (s₀:=s₀) (E:=fun O O=>False) hT U hg hmg hL hI (hlaw ns (by omega))) (fun v s' h=>?_) fun O O h=>h.elim;obtain ⟨rfl,h1,h2,h3⟩:=h;refine ⟨.inl ⟨.bool true,.bool true,[],rfl,fun cls=>rfl,.bool _,?_,fun h=>?_⟩,h1,h2,h3⟩
 ·wrow_post
 ·exact ⟨.nil,fun a ha=>nomatch ha⟩
end
section
variable {cf:Nat->List V->R V} {N:Nat} {pc:V->V->List V->List V->R (V × List V × List V)} {σ:List Slot}
noncomputable def sqF (k:List Slot->F) (a:F):F:=seqF a k
theorem zlu {s:MS} {l:MSs}:exs N cf pc (.cons s l) σ = sqF (exs N cf pc l) (ex1 N cf pc s σ):=rfl
noncomputable def bF (N:Nat) (cf:Nat->List V->R V) (pc:V->V->List V->List V->R (V × List V × List V)) (x:Nat) (b:MSs) (it:V) (σ:List Slot):F:=exs N cf pc b (σ.set x (some (false,it)))
noncomputable def bT (N:Nat) (cf:Nat->List V->R V) (pc:V->V->List V->List V->R (V × List V × List V)) (xs:List Nat) (b:MSs) (it:V) (σ:List Slot):F:=match it with
 | .tup ds=>if ds.length = xs.length then exs N cf pc b (setAll xs ds σ) else .st
 | _=>.st
noncomputable def bE (N:Nat) (cf:Nat->List V->R V) (pc:V->V->List V->List V->R (V × List V × List V)) (x y:Nat) (b:MSs) (it:V) (σ:List Slot):F:=match it with
 | .tup [i,v]=>exs N cf pc b ((σ.set x (some (false,i))).set y (some (false,v)))
 | _=>.st
noncomputable def wt (cf:Nat->List V->R V) (c:ME) (σ:List Slot):R Bool:=tst (ev cf c (ρm (nms c) σ))
noncomputable def iteK (N:Nat) (cf:Nat->List V->R V) (pc:V->V->List V->List V->R (V × List V × List V)) (a b:MSs) (σ:List Slot) (r:R Bool):F:=match r with
  | .ok true=>exs N cf pc a σ
  | .ok false=>exs N cf pc b σ
  | .ex=>.ex
  | .st=>.st
theorem zwm {c:ME} {a b:MSs}:ex1 N cf pc (.ite c a b) σ = iteK N cf pc a b σ (tst (ev cf c (ρm (nms c) σ))):=rfl
theorem zne {f:List Slot->F}:sqF f (.nx σ) = f σ:=rfl
noncomputable def ns (o:Option V):Slot:=o.map fun d=>(false,d)
theorem fz_b {is:List Nat} {b:List Nat}:fz is (.bytes b) σ = σ:=rfl
theorem zss {a b:Int}:vbin .sub (.int a) (.int b) = some (.int (a - b)):=rfl
theorem zdh {a b:List Nat} (h:a.length+b.length <= 16777216):vbin .add (.bytes a) (.bytes b) = some (.bytes (a++b)):=by
 show (iff? _ (V.bytes (a++b))).or _ = _;rw [zas h]; rfl
theorem zg4 {a b:List V} (h:a.length+b.length <= 16777216):vbin .add (.lst a) (.lst b) = some (.lst (a++b)):=zas h
theorem zqq {a b:Int}:vadd (.int a) (.int b) = some (.int (a+b)):=rfl
theorem zb3 {a b:List Nat} (h:a.length+b.length <= 16777216):vadd (.bytes a) (.bytes b) = some (.bytes (a++b)):=by
 show (iff? _ (V.bytes (a++b))).or _ = _;rw [zas h]; rfl
theorem zww {a b:Int} (h:small a = true):vbin .mul (.int a) (.int b) = some (.int (a * b)):=zas h
theorem ztx {a b:Int} (h:0 < b/\b <= 1000000000):vbin .div (.int a) (.int b) = some (.int (a.fdiv b)):=zas h
theorem zd2 {a b:Int} (h:0 < b/\b <= 1000000000):vbin .mod (.int a) (.int b) = some (.int (a.fmod b)):=zas h
theorem dm_i {a b:Int} (h:0 < b/\b <= 1000000000):vb2 .dm (.int a) (.int b) = some (.tup [.int (a.fdiv b),.int (a.fmod b)]):=zas h
theorem zb6 {b:List Nat} (h:b.length <= 16777216):vb1 .len (.bytes b) = some (.int b.length):=zas h
theorem zd1 {l:List V} (h:l.length <= 16777216):vb1 .len (.lst l) = some (.int l.length):=zas h
theorem znv {x:Nat} (h:x < 256):vb1 .byt (.lst [.int (x:Int)]) = some (.bytes [x]):=by
 have h1:(0:Int) <= x/\(x:Int) < 256:=by omega
 simp [vb1,vbytes,oc_i,oc_n,ifo?,h1]
theorem zw5 {l:List V} (h:l.length <= 16777216):vb1 .lst (.lst l) = some (.lst l):=zas h
theorem in_b {x:Nat} {b:List Nat} (h:x < 256):vin (.int (x:Int)) (.bytes b) = some (decide (x ∈ b)):=by
 have h1:(0:Int) <= x/\(x:Int) < 256:=by omega
 simp [vin,kdI,iff?,h1]
theorem it_b {b:List Nat} (h:b.length <= 1000000):iterD (.bytes b) = some (b.map fun x:Nat=>.int x):=by simp [iterD,h]
theorem it_l {l:List V} (h:l.length <= 1000000):iterD (.lst l) = some l:=by simp [iterD,h]
theorem zwf {a b:Nat}:vb2 .min (.int a) (.int b) = some (.int (min a b:Nat)):=by
 show some (V.int _) = _
 split <;> congr 2 <;> omega
theorem zv9 {a b:Nat}:vb2 .max (.int a) (.int b) = some (.int (max a b:Nat)):=by
 show some (V.int _) = _
 split <;> congr 2 <;> omega
noncomputable def Nx (f:F) (σ:List Slot):Prop:=f = .nx σ \/ f = .ct σ
theorem zed {f:V->List Slot->F} {d:V} {r:List V} {σ':List Slot} (h:Nx (f d σ) σ'):forL f (d :: r) σ = forL f r σ':=by
 rw [zgp];rcases h with h | h <;> rw [h]
theorem zv7 {t:List Slot->R Bool} {f:List Slot->F} {n:Nat} {σ':List Slot} (h1:t σ = .ok true) (h2:Nx (f σ) σ'):whileN t f (n+1) σ = whileN t f n σ':=by
 conv=>lhs; rw [wN_s]
 rw [h1];rcases h2 with h | h <;> dsimp only <;> rw [h]
theorem wl_t {t:List Slot->R Bool} {f:List Slot->F} {n:Nat} {σ':List Slot} (h1:t σ = .ok true) (h2:f σ = .nx σ'):whileN t f (n+1) σ = whileN t f n σ':=by
 conv=>lhs; rw [wN_s]
 rw [h1]; dsimp only; rw [h2]
theorem wl_b {t:List Slot->R Bool} {f:List Slot->F} {n:Nat} {σ':List Slot} (h1:t σ = .ok true) (h2:f σ = .bk σ'):whileN t f (n+1) σ = .nx σ':=by
 conv=>lhs; rw [wN_s]
 rw [h1]; dsimp only; rw [h2]
theorem wl_x {t:List Slot->R Bool} {f:List Slot->F} {n:Nat} (h1:t σ = .ok true) (h2:f σ = .ex):whileN t f (n+1) σ = .ex:=by
 conv=>lhs; rw [wN_s]
 rw [h1]; dsimp only; rw [h2]
theorem wl_f {t:List Slot->R Bool} {f:List Slot->F} {n:Nat} (h1:t σ = .ok false):whileN t f (n+1) σ = .nx σ:=by
 conv=>lhs; rw [wN_s]
 rw [h1]
end
noncomputable def spec:List Nat:=[40,41,91,93,123,125,63,42,43,45,124,94,36,92,46,38,126,35,32,9,10,13,11,12]
noncomputable def esc1 (o:Nat):List Nat:=if o ∈ spec then [92,o] else [o]
noncomputable def esc (b:List Nat):List Nat:=b.flatMap esc1
noncomputable def pairN (p:Nat × Nat):V:=.tup [.int p.1,.int p.2]
noncomputable def piece (a b:Nat):List Nat:=if a = b then esc1 a else esc1 a++([45]++esc1 b)
noncomputable def cut (a b:Nat):List (List Nat):=if b < a then [] else [piece a b]
noncomputable def rend1 (p:Nat × Nat):List (List Nat):=cut p.1 (min p.2 46)++cut (max p.1 48) p.2
noncomputable def render (ms:List (Nat × Nat)):List (List Nat):=ms.flatMap rend1
theorem zbj (o:Nat):(esc1 o).length <= 2:=by unfold esc1; split <;> simp
theorem zl0 (a b:Nat):(piece a b).length <= 5:=by
 unfold piece;have:=zbj a;have:=zbj b
 split <;> simp <;> omega
theorem zgf (x:Nat):esc [x] = esc1 x:=by simp [esc]
inductive Stop {α:Type} (r:α):Prop where | mk
noncomputable abbrev OO (α:Type):=Nat->(α->Nat->Prop)->Prop
noncomputable def OS {α:Type} (o:OO α) (r:α):Prop:=∀ n K,(∀ m,K r m)->o n K
noncomputable def sel (n:Nat) (a b c:Prop):Prop:=match n with
 | 0=>a
 | 1=>b
 | _=>c
theorem zp3 {a b c:Prop} (ha:a) (hb:b) (hc:c):(n:Nat)->sel n a b c
 | 0=>ha
 | 1=>hb
 | O+2=>hc
noncomputable def askR {α:Type} (r:α) (n:Nat) (f:α->Nat->Prop):Prop:=sel (n % 4) (f r (n / 4)) (∀ {z:α},r = z->f z (n / 4)) (Stop r)
noncomputable def isJ {α:Type} (r:Option α) (f:α->Prop):Prop:=match r with | some z=>f z | none=>True
noncomputable def ask {α:Type} (r:Option α) (n:Nat) (f:α->Nat->Prop):Prop:=sel (n % 4) (isJ r fun z=>f z (n / 4)) (∀ {z:α},r = some z->f z (n / 4)) (Stop r)
noncomputable def askP (p:Prop) [Decidable p] (n:Nat) (f:Nat->Prop):Prop:=sel (n % 4) (if p then f (n / 4) else True) (p->f (n / 4)) (Stop (decide p))
theorem zcw {α:Type} {r:α} {n:Nat} {f:α->Nat->Prop} (h:∀ m,f r m):askR r n f:=zp3 (h _) (fun {_} e=>e ▸ h _) ⟨⟩ _
theorem zg7 {α:Type} {r:Option α} {f:α->Prop} (h:∀ z,r = some z->f z):isJ r f:=by
 cases r with
 | none=>trivial
 | some z=>exact h z rfl
noncomputable def isF (b:Bool) (p:Prop):Prop:=match b with | true=>True | false=>p
theorem zmk {b:Bool} {p:Prop} (h:b = false->p):isF b p:=by
 cases b
 ·exact h rfl
 ·trivial
theorem ziy {α:Type} {r:Option α} {n:Nat} {f:α->Nat->Prop} (h:∀ z m,r = some z->f z m):ask r n f:=zp3 (zg7 fun z e=>h z _ e) (fun {_} e=>h _ _ e) ⟨⟩ _
theorem zl5 {p:Prop} [d:Decidable p] {n:Nat} {f:Nat->Prop} (h:p->∀ m,f m):askP p n f:=zp3 (match d with | isTrue q=>h q _ | isFalse O=>trivial) (fun q=>h q _) ⟨⟩ _
section
variable {α β:Type}
noncomputable def okK (f:α->OO (R β)) (K:R β->Nat->Prop) (r:R α) (m:Nat):Prop:=match r with
 | .ok a=>f a m K
 | .ex=>K .ex m
 | .st=>True
noncomputable def oB (o:OO (R α)) (f:α->OO (R β)):OO (R β):=fun n K=>o n (okK f K)
noncomputable def oA (r:Option α) (g:α->β):OO (R β):=fun n K=>ask r n fun z m=>K (.ok (g z)) m
noncomputable def oK (r:α):OO α:=fun n K=>K r n
theorem oK_s {r:α}:OS (oK r) r:=fun n O h=>h n
theorem oA_s {r:Option α} {g:α->β}:OS (oA r g) (.ofO (r.map g)):=fun n K h=>ziy fun z m e=>by subst e; exact h m
noncomputable def oI (r:Option α):OO (R α):=fun n K=>ask r n fun z m=>K (.ok z) m
theorem oA_i {r:Option α}:OS (oI r) (.ofO r):=fun n K h=>ziy fun z m e=>by subst e; exact h m
theorem oB_s {o:OO (R α)} {f:α->OO (R β)} {r:R α} {g:α->R β} (h1:OS o r) (h2:∀ a,OS (f a) (g a)):OS (oB o f) (r.bind g):=fun n K h=>h1 n _ fun m=>by
 clear h1;induction r using R.casesOn with
 | st=>trivial
 | ex=>exact h m
 | ok a=>exact h2 a m K h
noncomputable def o2 (a b:OO (R V)) (u:V->V->Option α) (g:α->V):OO (R V):=oB a fun x=>oB b fun y=>oA (u x y) g
theorem o2_s {a b:OO (R V)} {u:V->V->Option α} {g:α->V} {ra rb:R V} (h1:OS a ra) (h2:OS b rb):OS (o2 a b u g) (ra.bind fun x=>rb.bind fun y=>.ofO ((u x y).map g)):=oB_s h1 fun O=>oB_s h2 fun O=>oA_s
noncomputable def o2i (a b:OO (R V)) (u:V->V->Option V):OO (R V):=oB a fun x=>oB b fun y=>oI (u x y)
theorem o2_i {a b:OO (R V)} {u:V->V->Option V} {ra rb:R V} (h1:OS a ra) (h2:OS b rb):OS (o2i a b u) (ra.bind fun x=>rb.bind fun y=>.ofO (u x y)):=oB_s h1 fun O=>oB_s h2 fun O=>oA_i
noncomputable def oIf (o:Option Bool) (a b:OO (R V)):OO (R V):=fun n K=>ask o n fun t m=>match t with
 | true=>a m K
 | false=>b m K
theorem zvy {o:Option Bool} {a b:OO (R V)} {ra rb:R V} (h1:OS a ra) (h2:OS b rb):OS (oIf o a b) (match o with | some true=>ra | some false=>rb | none=>.st):=fun n K h=>ziy fun z m e=>by
 subst e
 cases z
 ·exact h2 m K h
 ·exact h1 m K h
end
section
variable (cf:Nat->List V->R V)
noncomputable def oCl (f:Nat) (vs:List V):OO (R V):=askR (cf f vs)
noncomputable def oLc (elt:ME) (k:Nat) (cond:MEs) (ρ:List (Option V)) (d:V):OO (R V):=fun n K=>match d with
 | .lst items=>askP (items.length <= 1000000) n fun n=>askR (compL (turnR cf elt k cond ρ) items) n (okK (fun l=>oK (.ok (.lst l))) K)
 | _=>True
noncomputable def oCmp3 (y:V) (z:OO (R V)) (o:Option Bool):OO (R V):=oIf o (oB z fun z=>oA (vcmp .le y z) .bool) (oK (.ok (.bool false)))
noncomputable def oNm (o:Option (Option V)):OO (R V):=fun n K=>isJ o fun o=>isJ o fun d=>K (.ok d) n
noncomputable def oGl (o:Option (String × V)):OO (R V):=fun n K=>isJ o fun p=>K (.ok p.2) n
noncomputable def oR (o:Option Bool) (conj:Bool) (d:V) (r:OO (R V)):OO (R V):=fun n K=>ask o n fun t n=>if t = conj then r n K else K (.ok d) n
mutual
noncomputable def oev:ME->List (Option V)->OO (R V)
 | .nm i,ρ=>oNm ρ[i]?
 | .gl k,O=>oGl gtab[k]?
 | .cst d,O=>oK (.ok d)
 | .bin o a b,ρ=>o2i (oev a ρ) (oev b ρ) (vbin o)
 | .cmp o a b,ρ=>o2 (oev a ρ) (oev b ρ) (vcmp o) .bool
 | .cmp3 a b c,ρ=>oB (oev a ρ) fun x=>oB (oev b ρ) fun y=>oCmp3 y (oev c ρ) (vcmp .le x y)
 | .isn a,ρ=>oB (oev a ρ) fun x=>oA (some (isNoneV x)) .bool
 | .isnn a,ρ=>oB (oev a ρ) fun x=>oA (some (isNoneV x)) fun b=>.bool (!b)
 | .inn a b,ρ=>o2 (oev a ρ) (oev b ρ) vin .bool
 | .nin a b,ρ=>o2 (oev a ρ) (oev b ρ) vin fun r=>.bool (!r)
 | .npx a,ρ=>oB (oev a ρ) fun x=>oA (inPosix x) fun r=>.bool (!r)
 | .px a,ρ=>oB (oev a ρ) fun x=>oI (atPosix x)
 | .bool conj a l,ρ=>oB (oev a ρ) fun d=>oevR conj l d ρ
 | .nt a,ρ=>oB (oev a ρ) fun x=>oA (vtruth x) fun r=>.bool (!r)
 | .ife c a b,ρ=>oB (oev c ρ) fun x=>oIf (vtruth x) (oev a ρ) (oev b ρ)
 | .idx a i,ρ=>o2i (oev a ρ) (oev i ρ) vidx
 | .sl2 a lo hi,ρ=>oB (oev a ρ) fun x=>o2i (oev lo ρ) (oev hi ρ) (fun y z=>vsl (some y) (some z) x)
 | .slL a lo,ρ=>o2i (oev a ρ) (oev lo ρ) (fun x y=>vsl (some y) none x)
 | .slH a hi,ρ=>o2i (oev a ρ) (oev hi ρ) (fun x z=>vsl none (some z) x)
 | .tup l,ρ=>oB (oevs l ρ) fun vs=>oK (dispL .tup vs)
 | .lsd l,ρ=>oB (oevs l ρ) fun vs=>oK (dispL .lst vs)
 | .call f l,ρ=>oB (oevs l ρ) (oCl cf f)
 | .bi1 b a,ρ=>oB (oev a ρ) fun x=>oI (vb1 b x)
 | .bi2 b a c,ρ=>o2i (oev a ρ) (oev c ρ) (vb2 b)
 | .rng a b,ρ=>o2i (oev a ρ) (oev b ρ) vrange
 | .join sep a,ρ=>oB (oev a ρ) fun x=>oI (vjoin sep x)
 | .split c a,ρ=>oB (oev a ρ) fun x=>oI (vsplit c x)
 | .getd a,ρ=>oB (oev a ρ) fun x=>oI (signOf x)
 | .allE a,ρ=>oB (oev a ρ) fun x=>oI (vallE x)
 | .lc elt k iter cond,ρ=>oB (oev iter ρ) (oLc cf elt k cond ρ)
 | .lc2 a,ρ=>oB (oev a ρ) fun x=>oI (vflat2 x)
noncomputable def oevR (conj:Bool):MEs->V->List (Option V)->OO (R V)
 | .nil,d,O=>oK (.ok d)
 | .cons b l,d,ρ=>oR (vtruth d) conj d (oB (oev b ρ) fun d'=>oevR conj l d' ρ)
noncomputable def oevs:MEs->List (Option V)->OO (R (List V))
 | .nil,O=>oK (.ok [])
 | .cons e l,ρ=>oB (oev e ρ) fun d=>oB (oevs l ρ) fun ds=>oK (.ok (d :: ds))
end
end
section
variable {cf:Nat->List V->R V}
theorem zwk {f:Nat} {vs:List V}:OS (oCl cf f vs) (cf f vs):=fun n K h=>zcw h
theorem zw6 {elt:ME} {k:Nat} {cond:MEs} {ρ:List (Option V)} {d:V}:OS (oLc cf elt k cond ρ d) (match d with
  | .lst items=>if items.length <= 1000000 then (compL (turnR cf elt k cond ρ) items).bind fun l=>.ok (.lst l) else .st
  | _=>.st):=fun n K h=>by
 cases d with
 | lst items =>
  refine zl5 fun p m=>zcw fun m=>?_;dsimp only at h;rw [if_pos p] at h;induction e:compL (turnR cf elt k cond ρ) items using R.casesOn with
  | ok l=>rw [e] at h; exact h m
  | ex=>rw [e] at h; exact h m
  | st=>trivial
 | _=>trivial
set_option tactic.hygienic true in
theorem oR_s {o:Option Bool} {conj:Bool} {d:V} {r:OO (R V)} {r':R V} (h1:OS r r'):OS (oR o conj d r) (match o with
  | some t=>if t = conj then r' else .ok d
  | none=>.st):=fun n K h=>ziy fun t m e=>by
 subst e;dsimp only at h
 split
 ·rename_i q;rw [if_pos q] at h;exact h1 m K h
 ·rename_i q;rw [if_neg q] at h;exact h m
theorem zwx {o:Option (Option V)}:OS (oNm o) (match o with | some (some d)=>.ok d | _=>.st):=fun n K h=>by
 rcases o with _ | _ | d
 ·trivial
 ·trivial
 ·exact h n
theorem zv8 {o:Option (String × V)}:OS (oGl o) (match o with | some p=>.ok p.2 | none=>.st):=fun n K h=>by
 cases o with
 | none=>trivial
 | some p=>exact h n
mutual
theorem zag:(e:ME)->(ρ:List (Option V))->OS (oev cf e ρ) (ev cf e ρ)
 | .nm i,ρ=>zwx
 | .gl k,ρ=>zv8
 | .cst d,O=>oK_s
 | .bin o a b,ρ=>o2_i (zag a ρ) (zag b ρ)
 | .cmp o a b,ρ=>o2_s (zag a ρ) (zag b ρ)
 | .cmp3 a b c,ρ=>oB_s (zag a ρ) fun x=>oB_s (zag b ρ) fun y=>zvy (oB_s (zag c ρ) fun z=>oA_s) oK_s
 | .isn a,ρ=>oB_s (zag a ρ) fun O=>oA_s
 | .isnn a,ρ=>oB_s (zag a ρ) fun O=>oA_s
 | .inn a b,ρ=>o2_s (zag a ρ) (zag b ρ)
 | .nin a b,ρ=>o2_s (zag a ρ) (zag b ρ)
 | .npx a,ρ=>oB_s (zag a ρ) fun O=>oA_s
 | .px a,ρ=>oB_s (zag a ρ) fun O=>oA_i
 | .bool conj a l,ρ=>oB_s (zag a ρ) fun d=>zqb conj l d ρ
 | .nt a,ρ=>oB_s (zag a ρ) fun O=>oA_s
 | .ife c a b,ρ=>oB_s (zag c ρ) fun x=>zvy (zag a ρ) (zag b ρ)
 | .idx a i,ρ=>o2_i (zag a ρ) (zag i ρ)
 | .sl2 a lo hi,ρ=>oB_s (zag a ρ) fun x=>o2_i (zag lo ρ) (zag hi ρ)
 | .slL a lo,ρ=>o2_i (zag a ρ) (zag lo ρ)
 | .slH a hi,ρ=>o2_i (zag a ρ) (zag hi ρ)
 | .tup l,ρ=>oB_s (zh3 l ρ) fun O=>oK_s
 | .lsd l,ρ=>oB_s (zh3 l ρ) fun O=>oK_s
 | .call f l,ρ=>oB_s (zh3 l ρ) fun O=>zwk
 | .bi1 b a,ρ=>oB_s (zag a ρ) fun O=>oA_i
 | .bi2 b a c,ρ=>o2_i (zag a ρ) (zag c ρ)
 | .rng a b,ρ=>o2_i (zag a ρ) (zag b ρ)
 | .join sep a,ρ=>oB_s (zag a ρ) fun O=>oA_i
 | .split c a,ρ=>oB_s (zag a ρ) fun O=>oA_i
 | .getd a,ρ=>oB_s (zag a ρ) fun O=>oA_i
 | .allE a,ρ=>oB_s (zag a ρ) fun O=>oA_i
 | .lc elt k iter cond,ρ=>oB_s (zag iter ρ) fun O=>zw6
 | .lc2 a,ρ=>oB_s (zag a ρ) fun O=>oA_i
theorem zqb (conj:Bool):(l:MEs)->(d:V)->(ρ:List (Option V))->OS (oevR cf conj l d ρ) (evR cf conj l d ρ)
 | .nil,d,O=>oK_s
 | .cons b l,d,ρ=>oR_s (oB_s (zag b ρ) fun d'=>zqb conj l d' ρ)
theorem zh3:(l:MEs)->(ρ:List (Option V))->OS (oevs cf l ρ) (evs cf l ρ)
 | .nil,O=>oK_s
 | .cons e l,ρ=>oB_s (zag e ρ) fun O=>oB_s (zh3 l ρ) fun O=>oK_s
end
end
noncomputable def oT (o:OO (R V)):OO (R Bool):=oB o fun d=>oI (vtruth d)
theorem oT_s {o:OO (R V)} {r:R V} (h:OS o r):OS (oT o) (tst r):=oB_s h fun O=>oA_i
noncomputable def wK2 (f:V->OO F) (K:F->Nat->Prop) (r:R V) (m:Nat):Prop:=match r with
 | .ok d=>f d m K
 | .ex=>K .ex m
 | .st=>True
noncomputable def oW (o:OO (R V)) (f:V->OO F):OO F:=fun n K=>o n (wK2 f K)
theorem oW_s {o:OO (R V)} {f:V->OO F} {r:R V} {g:V->F} (h1:OS o r) (h2:∀ d,OS (f d) (g d)):OS (oW o f) (withV r g):=fun n K h=>h1 n _ fun m=>by
 induction r using R.casesOn with
 | st=>trivial
 | ex=>exact h m
 | ok d=>exact h2 d m K h
noncomputable def iK2 (a b:OO F) (K:F->Nat->Prop) (r:R Bool) (m:Nat):Prop:=match r with
 | .ok true=>a m K
 | .ok false=>b m K
 | .ex=>K .ex m
 | .st=>True
noncomputable def sK2 (f:List Slot->OO F) (K:F->Nat->Prop) (r:F) (m:Nat):Prop:=match r with
 | .nx σ=>f σ m K
 | r=>K r m
noncomputable def oS (o:OO F) (f:List Slot->OO F):OO F:=fun n K=>o n (sK2 f K)
theorem oS_s {o:OO F} {f:List Slot->OO F} {r:F} {g:List Slot->F} (h1:OS o r) (h2:∀ σ,OS (f σ) (g σ)):OS (oS o f) (seqF r g):=fun n K h=>h1 n _ fun m=>by
 clear h1
 cases r with
 | nx σ=>exact h2 σ m K h
 | bk σ=>exact h m
 | ct σ=>exact h m
 | rt d σ=>exact h m
 | ex=>exact h m
 | st=>exact h m
noncomputable def oL (it:Option (List V)) (f:List V->F):OO F:=fun n K=>ask it n fun l n=>askR (f l) n K
theorem oL_s {it:Option (List V)} {f:List V->F}:OS (oL it f) (match it with | some l=>f l | none=>.st):=fun n K h=>ziy fun z m e=>by
 subst e;exact zcw h
noncomputable def fzG (is:List Nat):Nat->List Slot->(List Slot->Prop)->Prop
 | O,[],k=>k []
 | i,s :: r,k=>match is.contains i with
  | true=>match s with
   | some (O,d)=>fzG is (i+1) r fun r'=>k (some (false,d) :: r')
   | none=>fzG is (i+1) r fun r'=>k (none :: r')
  | false=>fzG is (i+1) r fun r'=>k (s :: r')
noncomputable def fzC (is:List Nat) (d:V) (σ:List Slot) (k:List Slot->Prop):Prop:=match flat d with
 | true=>k σ
 | false=>fzG is 0 σ k
noncomputable def setC:Nat->Slot->List Slot->(List Slot->Prop)->Prop
 | 0,s,O :: r,k=>k (s :: r)
 | x+1,s,a :: r,k=>setC x s r fun r'=>k (a :: r')
 | O,O1,[],k=>k []
noncomputable def slC (o:Bool) (d:V) (k:Slot->Prop):Prop:=match o with
 | true=>k (some (true,d))
 | false=>k (some (false,d))
noncomputable def setAllC:List Nat->List V->List Slot->(List Slot->Prop)->Prop
 | x :: xs,d :: ds,σ,k=>setC x (some (false,d)) σ fun σ=>setAllC xs ds σ k
 | O,O1,σ,k=>k σ
theorem zpf {is:List Nat}:∀ {i:Nat} {σ:List Slot} {k:List Slot->Prop},k (fzgo is i σ)->fzG is i σ k
 | O,[],O1,h=>h
 | i,s :: r,k,h=>by
  rcases s with _ | ⟨o,d⟩
  ·replace h:k (none :: fzgo is (i+1) r):=h;show (match (generalizing:=false) is.contains i with
    | true=>fzG is (i+1) r fun r'=>k (none :: r')
    | false=>fzG is (i+1) r fun r'=>k (none :: r'):Prop)
   cases is.contains i <;> exact zpf (σ:=r) h
  ·replace h:k (some (o && !is.contains i,d) :: fzgo is (i+1) r):=h;show (match (generalizing:=false) is.contains i with
    | true=>fzG is (i+1) r fun r'=>k (some (false,d) :: r')
    | false=>fzG is (i+1) r fun r'=>k (some (o,d) :: r'):Prop)
   cases hc:is.contains i <;> rw [hc] at h
   ·rw [Bool.not_false,Bool.and_true] at h;exact zpf (σ:=r) h
   ·rw [Bool.not_true,Bool.and_false] at h;exact zpf (σ:=r) h
theorem zf3 {is:List Nat} {d:V} {σ:List Slot} {k:List Slot->Prop} (h:k (fz is d σ)):fzC is d σ k:=by
 unfold fz at h;unfold fzC
 cases hf:flat d <;> rw [hf] at h
 ·exact zpf h
 ·exact h
theorem za7:∀ {x:Nat} {s:Slot} {σ:List Slot} {k:List Slot->Prop},k (σ.set x s)->setC x s σ k
 | 0,O,O1 :: O2,O3,h=>h
 | x+1,s,a :: r,k,h=>za7 (x:=x) (s:=s) (σ:=r) (k:=fun r'=>k (a :: r')) h
 | 0,O,[],O1,h=>h
 | O+1,O1,[],O2,h=>h
theorem zw1 {o:Bool} {d:V} {k:Slot->Prop} (h:k (some (o,d))):slC o d k:=by
 cases o <;> exact h
theorem zg6:∀ {xs:List Nat} {ds:List V} {σ:List Slot} {k:List Slot->Prop},k (setAll xs ds σ)->setAllC xs ds σ k
 | x :: xs,d :: ds,σ,k,h=>za7 (x:=x) (σ:=σ) (zg6 (xs:=xs) (ds:=ds) h)
 | [],O,O1,O2,h=>h
 | O :: O1,[],O2,O3,h=>h
section
variable (N:Nat) (cf:Nat->List V->R V) (pc:V->V->List V->List V->R (V × List V × List V))
noncomputable def oE (d:V) (f:List V->F):OO F:=fun n K=>match d with
 | .lst l=>askP (l.length <= 1000000) n fun n=>askR (f l) n K
 | _=>True
noncomputable def oLast (x:Nat) (e:ME) (σ:List Slot) (d:V):OO F:=fun n K=>isJ (ownL σ x) fun l =>
 askR ((nms e).contains x || l.isEmpty || !decide (l.length <= 1000000)) n fun b n=>isF b (askR (l.dropLast++[d]) n fun l' n=>fzC (nms e) d σ fun σ=>setC x (some (true,.lst l')) σ fun σ=>K (.nx σ) n)
noncomputable def oAug (x:Nat) (σ:List Slot) (o:OO (R V)):OO F:=fun n K=>isJ σ[x]? fun s=>isJ s fun p=>oW o (fun d n K=>ask (vadd p.2 d) n fun r n=>isF (!flat r) (setC x (some (false,r)) σ fun σ=>K (.nx σ) n)) n K
noncomputable def oApp (x:Nat) (e:ME) (σ:List Slot) (o:OO (R V)):OO F:=fun n K=>isJ (ownL σ x) fun l=>oW o (fun d n K=>isF (!flat d && (nms e).contains x)
 (askP (l.length <= 1000000) n fun n=>askR (l++[d]) n fun l' n=>fzC (nms e) d σ fun σ=>setC x (some (true,.lst l')) σ fun σ=>K (.nx σ) n)) n K
noncomputable def pK2 (x y m c:Nat) (σ:List Slot) (K:F->Nat->Prop) (r:R (V × List V × List V)) (n:Nat):Prop:=match r with
 | .ok (.tup [r1,r2],lm',lc')=>setC m (some (true,.lst lm')) σ fun σ=>setC c (some (true,.lst lc')) σ fun σ=>setC x (some (false,r1)) σ fun σ=>setC y (some (false,r2)) σ fun σ=>K (.nx σ) n
 | .ex=>K .ex n
 | _=>True
noncomputable def oPsx (x y m c:Nat) (σ:List Slot) (d1 d2:V):OO F:=fun n K=>isF (!(flat d1 && flat d2 && m != c && x != m && x != c && y != m && y != c)) (isJ (ownL σ m) fun lm=>isJ (ownL σ c) fun lc=>askR (pc d1 d2 lm lc) n (pK2 x y m c σ K))
noncomputable def oUnp (xs:List Nat) (is:List Nat) (σ:List Slot) (d:V):OO F:=fun n K=>match d with
 | .tup ds=>if ds.length = xs.length then fzC is d σ fun σ=>setAllC xs ds σ fun σ=>K (.nx σ) n else True
 | _=>True
noncomputable def askE (r:F) (o:OO F):OO F:=fun n K=>sel (n % 4) (o (n / 4) K) (∀ {z:F},r = z->K z (n / 4)) (Stop r)
mutual
noncomputable def oex:MS->List Slot->OO F
 | .asg x e,σ=>oW (oev cf e (ρm (nms e) σ)) fun d n K=>fzC (nms e) d σ fun σ=>slC (fresh e && isL d) d fun s=>setC x s σ fun σ=>K (.nx σ) n
 | .asgl x elt k iter cond,σ=>oW (oev cf (.lc elt k iter cond) (ρm (nms (.lc elt k iter cond)) σ)) fun d n K=>fzC (nms (.lc elt k iter cond)) d σ fun σ=>setC x (some (false,d)) σ fun σ=>K (.nx σ) n
 | .unp xs e,σ=>oW (oev cf e (ρm (nms e) σ)) (oUnp xs (nms e) σ)
 | .asg2 x y e,σ=>oW (oev cf e (ρm (nms e) σ)) fun d n K=>isF (!flat d) (setC x (some (false,d)) σ fun σ=>setC y (some (false,d)) σ fun σ=>K (.nx σ) n)
 | .last x e,σ=>oW (oev cf e (ρm (nms e) σ)) (oLast x e σ)
 | .aug x e,σ=>oAug x σ (oev cf e (ρm (nms e) σ))
 | .ite c a b,σ=>fun n K=>oT (oev cf c (ρm (nms c) σ)) n (iK2 (oexs a σ) (oexs b σ) K)
 | .whl c b,σ=>askR (whileN (wt cf c) (exs N cf pc b) N σ)
 | .for1 x e b,σ=>oW (oev cf e (ρm (nms e) σ)) fun d n K=>fzC (nms e) d σ fun σ=>oL (iterD d) (fun l=>forL (bF N cf pc x b) l σ) n K
 | .forT xs e b,σ=>oW (oev cf e (ρm (nms e) σ)) fun d n K=>fzC (nms e) d σ fun σ=>oL (iterD d) (fun l=>forL (bT N cf pc xs b) l σ) n K
 | .forR x m b,σ=>askR (forL (bF N cf pc x b) ((eB m).map fun i:Nat=>.int i) σ)
 | .forE x y e b,σ=>oW (oev cf e (ρm (nms e) σ)) fun d n K=>fzC (nms e) d σ fun σ=>oE d (fun l=>forL (bE N cf pc x y b) (l.zipIdx.map fun p=>.tup [.int p.2,p.1]) σ) n K
 | .ret e,σ=>oW (oev cf e (ρm (nms e) σ)) fun d n K=>fzC (nms e) d σ fun σ=>K (.rt d σ) n
 | .rse e,σ=>oW (oev cf e (ρm (nms e) σ)) fun d=>oK (if flat d then .ex else .st)
 | .app x e,σ=>oApp x e σ (oev cf e (ρm (nms e) σ))
 | .brk,σ=>oK (.bk σ)
 | .cnt,σ=>oK (.ct σ)
 | .psx x y a1 a2 m c,σ=>oW (oev cf a1 (ρm (nms a1) σ)) fun d1=>oW (oev cf a2 (ρm (nms a2) σ)) fun d2=>oPsx pc x y m c σ d1 d2
 | .init3 x y z,σ=>fun n K=>setC x (some (true,.lst [])) σ fun σ=>setC y (some (true,.lst [])) σ fun σ=>setC z (some (false,.bytes [])) σ fun σ=>K (.nx σ) n
noncomputable def oexs:MSs->List Slot->OO F
 | .nil,σ=>oK (.nx σ)
 | .cons s l,σ=>oS (askE (ex1 N cf pc s σ) (oex s σ)) (oexs l)
end
end
section
variable {N:Nat} {cf:Nat->List V->R V} {pc:V->V->List V->List V->R (V × List V × List V)}
theorem zro {b:Bool} (h:(!b) = false):b = true:=by
 cases b
 ·cases h
 ·rfl
theorem zsn {x:Nat} {e:ME} {σ:List Slot} {d:V}:OS (oLast x e σ d) (match ownL σ x with
  | some l=>if (nms e).contains x || l.isEmpty || !decide (l.length <= 1000000) then .st else .nx ((fz (nms e) d σ).set x (some (true,.lst (l.dropLast++[d]))))
  | none=>.st):=fun n K h=>zg7 fun l e1=>zcw fun m=>zmk fun q=>zcw fun m=>zf3 (za7 (by
 rw [e1] at h;dsimp only at h;rw [q] at h;exact h m))
theorem zt7 {x:Nat} {σ:List Slot} {o:OO (R V)} {r:R V} (h1:OS o r):OS (oAug x σ o) (match σ[x]? with
  | some (some (O,a))=>withV r fun d=>match vadd a d with
   | some r=>if flat r then .nx (σ.set x (some (false,r))) else .st
   | none=>.st
  | _=>.st):=fun n K h=>zg7 fun s e1=>zg7 fun p e2=>by
 subst e2;rw [e1] at h;refine oW_s (g:=fun d=>match vadd p.2 d with
   | some r=>if flat r then .nx (σ.set x (some (false,r))) else .st
   | none=>.st) h1 (fun d n K h=>ziy fun z m e=>zmk fun q=>za7 ?_) n K h
 rw [e] at h;dsimp only at h;rw [zro q] at h;exact h m
theorem ztp {x:Nat} {e:ME} {σ:List Slot} {o:OO (R V)} {r:R V} (h1:OS o r):OS (oApp x e σ o) (match ownL σ x with
  | some l=>withV r fun d=>if (!flat d && (nms e).contains x) || !decide (l.length <= 1000000) then .st else .nx ((fz (nms e) d σ).set x (some (true,.lst (l++[d]))))
  | none=>.st):=fun n K h=>zg7 fun l e1=>by
 rw [e1] at h;refine oW_s (g:=fun d=>if (!flat d && (nms e).contains x) || !decide (l.length <= 1000000) then .st else .nx ((fz (nms e) d σ).set x (some (true,.lst (l++[d]))))) h1 (fun d n K h=>zmk fun q=>zl5 fun p m=>zcw fun m=>zf3 (za7 ?_)) n K h;rw [q,decide_eq_true p] at h;exact h m
set_option tactic.hygienic true in
theorem zwl {x y m c:Nat} {σ:List Slot} {K:F->Nat->Prop} {r:R (V × List V × List V)} {n:Nat} (h:K (match r with
   | .ok (.tup [r1,r2],lm',lc')=>.nx ((((σ.set m (some (true,.lst lm'))).set c (some (true,.lst lc'))).set x (some (false,r1))).set y (some (false,r2)))
   | .ok O=>.st
   | .ex=>.ex
   | .st=>.st) n):pK2 x y m c σ K r n:=by
 rcases r with ⟨d,lm',lc'⟩ | _ | _
 ·rcases d with _ | _ | _ | _ | l | _
  case tup =>
   rcases l with _ | ⟨a,_ | ⟨b,_ | _⟩⟩
   ·trivial
   ·trivial
   ·exact za7 (za7 (za7 (za7 h)))
   ·trivial
  all_goals trivial
 ·exact h
 ·trivial
theorem zto {x y m c:Nat} {σ:List Slot} {d1 d2:V}:OS (oPsx pc x y m c σ d1 d2) (if flat d1 && flat d2 && m != c && x != m && x != c && y != m && y != c then match ownL σ m,ownL σ c with
  | some lm,some lc=>match pc d1 d2 lm lc with
   | .ok (.tup [r1,r2],lm',lc')=>.nx ((((σ.set m (some (true,.lst lm'))).set c (some (true,.lst lc'))).set x (some (false,r1))).set y (some (false,r2)))
   | .ok O=>.st
   | .ex=>.ex
   | .st=>.st
  | O,O1=>.st else .st):=fun n K h=>by
 refine zmk fun q=>zg7 fun lm e1=>zg7 fun lc e2=>zcw fun m=>zwl ?_;rw [if_pos (zro q),e1,e2] at h;exact h m
theorem oE_s {d:V} {f:List V->F}:OS (oE d f) (match d with
  | .lst l=>if l.length <= 1000000 then f l else .st
  | _=>.st):=fun n K h=>by
 cases d with
 | lst l =>
  refine zl5 fun p m=>zcw fun m=>?_;dsimp only at h;rw [if_pos p] at h;exact h m
 | _=>trivial
set_option tactic.hygienic true in
theorem zud {xs is:List Nat} {σ:List Slot} {d:V}:OS (oUnp xs is σ d) (match d with
  | .tup ds=>if ds.length = xs.length then .nx (setAll xs ds (fz is d σ)) else .st
  | _=>.st):=fun n K h=>by
 cases d with
 | tup ds =>
  show ite _ _ _
  split
  ·rename_i p;dsimp only at h;rw [if_pos p] at h;exact zf3 (zg6 (h n))
  ·trivial
 | _=>trivial
theorem zv5 {r:F} {o:OO F} (h:OS o r):OS (askE r o) r:=fun n K q=>zp3 (h _ K q) (fun {_} e=>e ▸ q _) ⟨⟩ _
mutual
theorem zuf:(s:MS)->(σ:List Slot)->OS (oex N cf pc s σ) (ex1 N cf pc s σ)
 | .asg x e,σ=>oW_s (zag e _) fun O n O h=>zf3 (zw1 (za7 (h n)))
 | .asgl x elt k iter cond,σ=>oW_s (zag (.lc elt k iter cond) _) fun O n O h=>zf3 (za7 (h n))
 | .unp xs e,σ=>oW_s (zag e _) fun O=>zud
 | .asg2 x y e,σ=>oW_s (zag e _) fun d n K h=>zmk fun q=>za7 (za7 (by rw [zro q] at h; exact h n))
 | .last x e,σ=>oW_s (zag e _) fun O=>zsn
 | .aug x e,σ=>zt7 (zag e _)
 | .ite c a b,σ=>fun n K h=>oT_s (zag c _) n _ fun m=>by
  rw [zwm] at h;induction e:tst (ev cf c (ρm (nms c) σ)) using R.casesOn with
  | ok t =>
   rw [e] at h
   cases t
   ·exact zfq b σ m K h
   ·exact zfq a σ m K h
  | ex=>rw [e] at h; exact h m
  | st=>trivial
 | .whl c b,σ=>fun n K h=>zcw h
 | .for1 x e b,σ=>oW_s (zag e _) fun O n K h=>zf3 (oL_s n K h)
 | .forT xs e b,σ=>oW_s (zag e _) fun O n K h=>zf3 (oL_s n K h)
 | .forR x m b,σ=>fun n K h=>zcw h
 | .forE x y e b,σ=>oW_s (zag e _) fun d n K h=>zf3 (oE_s n K h)
 | .ret e,σ=>oW_s (zag e _) fun O n O h=>zf3 (h n)
 | .rse e,σ=>oW_s (zag e _) fun O=>oK_s
 | .app x e,σ=>ztp (zag e _)
 | .brk,σ=>oK_s
 | .cnt,σ=>oK_s
 | .psx x y a1 a2 m c,σ=>oW_s (zag a1 _) fun O=>oW_s (zag a2 _) fun O=>zto
 | .init3 x y z,σ=>fun n K h=>za7 (za7 (za7 (h n)))
theorem zfq:(l:MSs)->(σ:List Slot)->OS (oexs N cf pc l σ) (exs N cf pc l σ)
 | .nil,O=>oK_s
 | .cons s l,σ=>oS_s (zv5 (zuf s σ)) fun σ=>zfq l σ
end
theorem pre2 {a b:MS} {X:MSs} {σ σ':List Slot} (h:exs N cf pc (.cons a (.cons b .nil)) σ = .nx σ'):exs N cf pc (.cons a (.cons b X)) σ = exs N cf pc X σ':=by
 revert h
 show seqF (ex1 N cf pc a σ) (fun σ=>seqF (ex1 N cf pc b σ) .nx) = .nx σ'->seqF (ex1 N cf pc a σ) (fun σ=>seqF (ex1 N cf pc b σ) (exs N cf pc X)) = _
 cases ex1 N cf pc a σ with
 | nx σ2 =>
  show seqF (ex1 N cf pc b σ2) .nx = .nx σ'->seqF (ex1 N cf pc b σ2) (exs N cf pc X) = _
  cases ex1 N cf pc b σ2 <;> intro h <;> cases h
  rfl
 | _=>intro h; cases h
theorem gx {q:MSs} {σ:List Slot} {r:F} (n:Nat) (h:oexs N cf pc q σ n (fun z O=>exs N cf pc q σ = z)->exs N cf pc q σ = r):exs N cf pc q σ = r:=h (zfq _ _ n _ fun O=>rfl)
theorem go1 {q:MS} {σ:List Slot} {r:F} (n:Nat) (h:oex N cf pc q σ n (fun z O=>ex1 N cf pc q σ = z)->ex1 N cf pc q σ = r):ex1 N cf pc q σ = r:=h (zuf q σ n _ fun O=>rfl)
theorem goT {c:ME} {σ:List Slot} {r:R Bool} (n:Nat) (h:oT (oev cf c (ρm (nms c) σ)) n (fun z O=>wt cf c σ = z)->wt cf c σ = r):wt cf c σ = r:=h (oT_s (zag c _) n _ fun O=>rfl)
theorem goE {e:ME} {ρ:List (Option V)} {r:R V} (n:Nat) (h:oev cf e ρ n (fun z O=>ev cf e ρ = z)->ev cf e ρ = r):ev cf e ρ = r:=h (zag e ρ n _ fun O=>rfl)
noncomputable def bodyO:Option MFun->MSs
 | some fd=>fd.body
 | none=>.nil
noncomputable def argsO:Option MFun->List Bool->List V->List Slot
 | some fd,own,args=>initS fd own args
 | none,O,O1=>[]
noncomputable def okO:Option MFun->List V->Bool
 | some fd,args=>args.length == fd.np
 | none,O=>false
noncomputable abbrev bodyOf (f:Nat):MSs:=bodyO fsAll[f]?
noncomputable abbrev argsOf (f:Nat) (args:List V):List Slot:=argsO fsAll[f]? [] args
noncomputable abbrev okC (f:Nat) (args:List V):Bool:=okO fsAll[f]? args
theorem ztk {k:Nat} {args:List V}:(o:Option MFun)->okO o args = true->(match o with
  | some fd=>if args.length = fd.np then retOf (exs N (callF N fsAll 2 k) (pcOf N fsAll 2 k) fd.body (initS fd [] args)) else .st
  | none=>.st) = retOf (exs N (callF N fsAll 2 k) (pcOf N fsAll 2 k) (bodyO o) (argsO o [] args))
 | some O,h=>if_pos (aR h)
 | none,h=>by cases h
theorem zr1 {k f:Nat} {args:List V} (h:okC f args = true):callF N fsAll 2 (k+1) f args = retOf (exs N (callF N fsAll 2 k) (pcOf N fsAll 2 k) (bodyOf f) (argsOf f args)):=callF_succ.trans (ztk _ h)
theorem goC {k f:Nat} {args:List V} {r:R V} (n:Nat) (hc:okC f args = true) (h:oexs N (callF N fsAll 2 k) (pcOf N fsAll 2 k) (bodyOf f) (argsOf f args) n (fun z O=>callF N fsAll 2 (k+1) f args = retOf z)->callF N fsAll 2 (k+1) f args = r):callF N fsAll 2 (k+1) f args = r :=
 h (zfq _ _ n _ fun O=>zr1 hc)
noncomputable abbrev posA (args:List V):List Slot:=argsO fsAll[2]? [false,false,true,true] args
theorem goP {k:Nat} {a b:V} {l1 l2:List V} {r:R (V × List V × List V)} (n:Nat) (h:oexs N (callF N fsAll 2 k) (fun O O O O=>.st) (bodyOf 2) (posA [a,b,.lst l1,.lst l2]) n (fun z O=>pcOf N fsAll 2 (k+1) a b l1 l2 = posOf z)->pcOf N fsAll 2 (k+1) a b l1 l2 = r):pcOf N fsAll 2 (k+1) a b l1 l2 = r :=
 h (zfq _ _ n _ fun O=>rfl)
noncomputable def oT1 (cf:Nat->List V->R V) (elt:ME) (cond:MEs) (ρ:List (Option V)):OO (R (Option V)):=oB (oevs cf cond ρ) fun ts n K=>ask (tests ts) n fun t n=>match t with
  | true=>oB (oev cf elt ρ) (fun y=>oK (.ok (some y))) n K
  | false=>K (.ok none) n
noncomputable def oTr (elt:ME) (k:Nat) (cond:MEs) (ρ:List (Option V)) (it:V):OO (R (Option V)):=fun n K=>isJ (bindT k it) fun l=>oT1 cf elt cond (ρ++l) n K
theorem zwq {elt:ME} {cond:MEs} {ρ:List (Option V)}:OS (oT1 cf elt cond ρ) ((evs cf cond ρ).bind fun ts=>match tests ts with
  | some true=>(ev cf elt ρ).bind fun y=>.ok (some y)
  | some false=>.ok none
  | none=>.st):=oB_s (zh3 cond _) fun ts n K h=>ziy fun t m e2=>by
 rw [e2] at h
 cases t
 ·exact h m
 ·exact oB_s (zag elt _) (fun y=>oK_s) m K h
theorem zwd {elt:ME} {k:Nat} {cond:MEs} {ρ:List (Option V)} {it:V}:OS (oTr (cf:=cf) elt k cond ρ it) (turnR cf elt k cond ρ it):=fun n K h=>zg7 fun l e=>by
 replace h:∀ m,K (match bindT k it with
  | some l=>(evs cf cond (ρ++l)).bind fun ts=>match tests ts with
   | some true=>(ev cf elt (ρ++l)).bind fun y=>.ok (some y)
   | some false=>.ok none
   | none=>.st
  | none=>.st) m:=h
 rw [e] at h;exact zwq n K h
theorem goI {elt:ME} {k:Nat} {cond:MEs} {ρ:List (Option V)} {it:V} {r:R (Option V)} (n:Nat) (h:oTr (cf:=cf) elt k cond ρ it n (fun z O=>turnR cf elt k cond ρ it = z)->turnR cf elt k cond ρ it = r):turnR cf elt k cond ρ it = r:=h (zwd n _ fun O=>rfl)
end
theorem fl_q {f:V->List Slot->F} {d:V} {r:List V} {σ σ':List Slot} (h:f d σ = .nx σ'):forL f (d :: r) σ = forL f r σ':=by rw [zgp,h]
theorem zvx {f:V->List Slot->F} {d:V} {r:List V} {σ σ':List Slot} (h:f d σ = .bk σ'):forL f (d :: r) σ = .nx σ':=by rw [zgp,h]
noncomputable def nthS:Nat->MSs->MS
 | 0,.cons s O=>s
 | n+1,.cons O l=>nthS n l
 | O,.nil=>.brk
noncomputable abbrev turnX (cf:Nat->List V->R V) (elt:ME) (k:Nat) (iter:ME) (cond:MEs) (σ:List Slot) (it:V):R (Option V):=turnR cf elt k cond (ρm (nms (.lc elt k iter cond)) σ) it
theorem sm {α:Type} {a b:α} (h:a = b):some a = some b:=congrArg some h
theorem sT {p:Prop} [Decidable p] (h:p):some (decide p) = some true:=sm (decide_eq_true h)
theorem sF {p:Prop} [Decidable p] (h:¬ p):some (decide p) = some false:=sm (decide_eq_false h)
theorem sN {a b:Bool} (h:a = b):some (!a) = some (!b):=h ▸ rfl
theorem nT {p:Prop} [Decidable p] (h:p):some (!decide p) = some false:=sN (decide_eq_true h)
theorem nF {p:Prop} [Decidable p] (h:¬ p):some (!decide p) = some true:=sN (decide_eq_false h)
theorem zaj {α β:Type} {f:α->β} {l:List α} {a:α}:l.map f++[f a] = (l++[a]).map f:=by rw [cX]; rfl
theorem lF {c d:Nat} (h:¬ c = d):some (decide ([c] = [d])) = some false:=sF fun q=>h (bJ q).1
theorem lN {c d:Nat} (h:¬ c = d):some (!decide ([c] = [d])) = some true:=nF fun q=>h (bJ q).1
section
open PySem PySem.W PyProof.Rows
noncomputable def posixN:List (List Nat × List Nat):=[([97,108,110,117,109],[48,45,57,65,45,90,97,45,122]),([97,108,112,104,97],[65,45,90,97,45,122]),([98,108,97,110,107],[92,116,32]),([99,110,116,114,108],[92,120,48,48,45,92,120,49,102,92,120,55,102]),([100,105,103,105,116],[48,45,57]),([103,114,97,112,104],[33,45,46,48,45,126]),([108,111,119,101,114],[97,45,122]),([112,114,105,110,116],[32,45,46,48,45,126]),([112,117,110,99,116],[33,45,46,58,45,64,92,91,45,96,123,45,126]),([115,112,97,99,101],[92,116,92,110,92,114,32]),([117,112,112,101,114],[65,45,90]),([120,100,105,103,105,116],[48,45,57,65,45,70,97,45,102])]
theorem zf9:posix = posixN:=by decide
noncomputable def membersN:List (List Nat × List (Int × Int)):=[([97],[(97,97)]),([97,45,99],[(97,99)]),([99,45,97],[(99,99)]),([43,45,57],[(43,57)]),([47],[(47,47)]),([92,93],[(93,93)]),([92,45],[(45,45)]),([92,92],[(92,92)]),([92,97,45,92,99],[(97,99)]),([97,45,99,45,120],[(97,99),(45,45),(120,120)]),([91,58,100,105,103,105,116,58,93,45,122],[(48,57),(45,45),(122,122)]),([120,94,33],[(120,120),(94,94),(33,33)]),([128,45,255],[(128,255)]),([42,63],[(42,42),(63,63)]),([91,58,97,108,110,117,109,58,93],[(48,57),(65,90),(97,122)]),([91,58,97,108,112,104,97,58,93],[(65,90),(97,122)]),([91,58,98,108,97,110,107,58,93],[(9,9),(32,32)]),([91,58,99,110,116,114,108,58,93],[(0,31),(127,127)]),([91,58,100,105,103,105,116,58,93],[(48,57)]),([91,58,103,114,97,112,104,58,93],[(33,126)]),([91,58,108,111,119,101,114,58,93],[(97,122)]),([91,58,112,114,105,110,116,58,93],[(32,126)]),([91,58,112,117,110,99,116,58,93],[(33,47),(58,64),(91,96),(123,126)]),([91,58,115,112,97,99,101,58,93],[(9,10),(13,13),(32,32)]),([91,58,117,112,112,101,114,58,93],[(65,90)]),([91,58,120,100,105,103,105,116,58,93],[(48,57),(65,70),(97,102)])]
theorem zlk:members = membersN:=by decide
noncomputable def firstsN:List (List Nat × List (Int × Int)):=[([],[]),([93],[(93,93)]),([93,45,97],[(93,97)])]
theorem zn4:firsts = firstsN:=by decide
noncomputable def lastsN:List (List Nat × List (Int × Int)):=[([],[]),([45],[(45,45)]),([91,58],[(91,91),(58,58)]),([91,58,120],[(91,91),(58,58),(120,120)])]
theorem zou:lasts = lastsN:=by decide
noncomputable def lettersN:List (List Nat × Nat):=[([97],97),([98],98),([99],99),([120],120),([46],46),([43],43),([45],45),([93],93),([40],40),([124],124),([36],36),([94],94),([33],33),([32],32),([195],195),([55],55),([92,42],42),([92,63],63),([92,91],91),([92,92],92),([92,97],97),([35],35),([123],123),([38],38),([41],41)]
noncomputable def tailsN:List (List Nat):=[[91],[91,97],[91,93],[91,33,93],[91,94],[91,97,45],[91,97,92],[91,97,45,92],[91,91,58],[91,91,58,97,108,112,104,97,58,93],[91,91,58,97,108,112,104,58,93,93],[91,91,58,65,108,112,104,97,58,93,120,93],[91,91,58,58,93,93]]
noncomputable def behindN:List (List Nat):=[[],[47,97],[120,47,42,42],[45,98,47,63]]
noncomputable def At (p:List Nat) (i:Int) (s:List Nat):Prop:=∃ u:List Nat,p = u++s/\i = u.length
namespace At
variable {p s:List Nat} {i:Int} {c:Nat}
theorem zero:At p 0 p:=⟨[],rfl,rfl⟩
theorem app {w:List Nat} (h:At p i (w++s)):At p (i+w.length) s:=by
 obtain ⟨u,e1,e2⟩:=h;exact ⟨u++w,by rw [e1,bH],by rw [e2,aK]; rfl⟩
set_option tactic.hygienic true in
theorem next (h:At p i (c :: s)):At p (i+1) s:=app (w:=[c]) h
theorem len (h:At p i s):i = p.length - s.length:=by
 obtain ⟨u,e1,e2⟩:=h;rw [e2,e1,aK,fK,Int.add_sub_cancel]
theorem le' (h:At p i s):s.length <= p.length:=by
 obtain ⟨u,e1,e2⟩:=h;rw [e1,aK];exact Nat.le_add_left _ _
theorem len' (h:At p i s):(s.length:Int) <= p.length:=gA.mpr h.le'
theorem nn (h:At p i s):0 <= i:=by
 obtain ⟨u,e1,e2⟩:=h;rw [e2]; exact gH _
theorem lt (h:At p i (c :: s)):i < p.length:=by
 obtain ⟨u,e1,e2⟩:=h;rw [e2,e1,aK];exact cH.mpr (Nat.lt_add_of_pos_right (Nat.succ_pos _))
theorem end' (h:At p i []):i = p.length:=by
 obtain ⟨u,e1,e2⟩:=h;rw [e2,e1,bV]
theorem dlt (h:At p i (c :: s)):decide (i < (p.length:Int)) = true:=decide_eq_true h.lt
theorem dle (h:At p i (c :: s)):decide ((p.length:Int) <= i) = false:=decide_eq_false (Int.not_le.mpr h.lt)
theorem dlt0 (h:At p i []):decide (i < (p.length:Int)) = false:=by rw [h.end']; exact decide_eq_false (Int.lt_irrefl _)
theorem dle0 (h:At p i []):decide ((p.length:Int) <= i) = true:=by rw [h.end']; exact decide_eq_true (Int.le_refl _)
theorem nat (h:At p i s):∃ n:Nat,i = n/\p.drop n = s:=by
 obtain ⟨u,e1,e2⟩:=h;exact ⟨u.length,e2,by rw [e1,List.drop_left]⟩
theorem zea (L a:Nat):clipAt L (a:Int) = min a L:=by
 unfold clipAt;rw [if_neg (Int.not_lt.mpr (gH a))];rcases Nat.le_total a L with h | h
 ·rw [Int.min_eq_left (gA.mpr h),Int.max_eq_right (gH a),gE h]; rfl
 ·rw [Int.min_eq_right (gA.mpr h),Int.max_eq_right (gH L),gB h]; rfl
theorem cut_lo {α:Type} (l:List α) (n:Nat):vcut (some (n:Int)) none l = l.drop n:=by
 have e:vcut (some (n:Int)) none l = (l.drop (min n l.length)).take (l.length - min n l.length):=by rw [<- zea]; rfl
 rw [e,eH (by rw [fX]; exact dD _)];rcases Nat.le_total n l.length with h | h
 ·rw [gE h]
 ·rw [gB h,List.drop_length,List.drop_eq_nil_of_le h]
theorem cut_hi {α:Type} (l:List α) (k:Nat):vcut none (some (k:Int)) l = l.take k:=by
 have e:vcut none (some (k:Int)) l = (l.drop 0).take (min k l.length - 0):=by rw [<- zea]; rfl
 rw [e,List.drop_zero,Nat.sub_zero];rcases Nat.le_total k l.length with h | h
 ·rw [gE h]
 ·rw [gB h,List.take_length,eH h]
theorem zs4 (p:List Nat) (a b:Nat):(p.drop (min a p.length)).take (min b p.length - min a p.length) = (p.take b).drop a:=by
 have e:p.take b = p.take (min b p.length):=by
  rcases Nat.le_total b p.length with h | h
  ·rw [gE h]
  ·rw [gB h,eH h,List.take_length]
 rw [<- List.drop_take,<- e];rcases Nat.le_total a p.length with h | h
 ·rw [gE h]
 ·rw [gB h,List.drop_eq_nil_of_le (List.length_take_le' b p),List.drop_eq_nil_of_le (cY (List.length_take_le' b p) h)]
theorem cut (h:At p i s) (hp:p.length <= 1000000) {k m:Nat}:vsl (some (.int (i+k))) (some (.int (i+m))) (.bytes p) = some (.bytes ((s.take m).drop k)):=by
 obtain ⟨n,rfl,h2⟩:=h.nat;refine (zas (d:=V.bytes (vcut (some ((n:Int)+k)) (some ((n:Int)+m)) p)) (cY hp (by decide))).trans ?_;have e:vcut (some ((n:Int)+k)) (some ((n:Int)+m)) p = (p.drop (min (n+k) p.length)).take (min (n+m) p.length - min (n+k) p.length):=by
  rw [<- zea,<- zea]; rfl
 rw [e,zs4,<- h2,List.drop_take,List.drop_take,List.drop_drop,Nat.add_sub_add_left]
theorem sl (h:At p i (c :: s)) (hp:p.length <= 1000000):vsl (some (.int i)) (some (.int (i+1))) (.bytes p) = some (.bytes [c]):=by
 have:=h.cut hp (k:=0) (m:=1)
 simpa using this
theorem sl0 (h:At p i []) (hp:p.length <= 1000000):vsl (some (.int i)) (some (.int (i+1))) (.bytes p) = some (.bytes []):=by
 have:=h.cut hp (k:=0) (m:=1)
 simpa using this
theorem sl2 (h:At p i (c :: s)) (hp:p.length <= 1000000):vsl (some (.int (i+1))) (some (.int (i+2))) (.bytes p) = some (.bytes (s.take 1)):=by
 have:=h.cut hp (k:=1) (m:=2)
 simpa using this
theorem ix (h:At p i (c :: s)) (hp:p.length <= 1000000):vidx (.bytes p) (.int i) = some (.int c):=by
 refine (zas ⟨cY hp (by decide),h.nn,h.lt⟩).trans ?_;obtain ⟨u,e1,e2⟩:=h;have e:p.getD i.toNat 0 = c:=by rw [e2,Int.toNat_natCast,e1,bL,eJ (dD _),Nat.sub_self]; rfl
 rw [e]
theorem mem (h:At p i s) {x:Nat} (hx:x ∈ s):x ∈ p:=by
 obtain ⟨u,e1,e2⟩:=h;rw [e1]; exact List.mem_append_right _ hx
end At
end
section
variable {cf:Nat->List V->R V} {N:Nat} {pc:V->V->List V->List V->R (V × List V × List V)}
theorem zda:∀ (b out:List Nat) (old:Slot) (l0:List Nat),(∀ x ∈ b,x < 256)->out.length+2 * b.length <= 16000000 ->
  ∃ o',forL (bF N cf pc 2 q_escape_1)
   (b.map fun x:Nat=>.int x) [some (false,.bytes l0),some (false,.bytes out),old] = .nx [some (false,.bytes l0),some (false,.bytes (out++esc b)),o']
 | []=>fun out old l0 O O=>⟨old,by simp [zjh,esc]⟩
 | x :: b=>by
  intro out old l0 hb hz;have hx:=hb x (by simp);simp only [aI] at hz;obtain ⟨o',h⟩:=zda b (out++esc1 x) (some (false,.int x)) l0 (fun y hy=>hb y (by simp [hy])) (by have:=zbj x; simp; omega);refine ⟨o',?_⟩;have e9:out++esc (x :: b) = out++esc1 x++esc b:=by simp [esc]
  rw [e9];refine (zed (.inl ?_)).trans h
  by_cases hs:x ∈ spec
  ·have e1:vadd (.bytes out) (.bytes [92]) = some (.bytes (out++[92])):=zb3 (by simp; omega);have e2:vadd (.bytes (out++[92])) (.bytes [x]) = some (.bytes (out++esc1 x)):=by rw [zb3 (by simp; omega),esc1,if_pos hs,bH]; rfl
   exact gx 0x5104 fun r=>r ((in_b hx).trans (sT hs)) e1 (znv hx) e2
  ·have e3:vadd (.bytes out) (.bytes [x]) = some (.bytes (out++esc1 x)):=by rw [zb3 (by simp; omega),esc1,if_neg hs]
   exact gx 0x504 fun r=>r ((in_b hx).trans (sF hs)) (znv hx) e3
theorem zgr {k:Nat} {b:List Nat} (hb:∀ x ∈ b,x < 256) (hz:b.length <= 400000):callF N fsAll 2 (k+1) 0 [.bytes b] = .ok (.bytes (esc b)):=by
 obtain ⟨o',h⟩:=zda (cf:=callF N fsAll 2 k) (pc:=pcOf N fsAll 2 k) (N:=N) b [] none b hb (by simp; omega);exact goC 0x50 rfl fun r=>r (it_b (show b.length <= 1000000 by omega)) h
theorem zfx (hcf:∀ b:List Nat,(∀ x ∈ b,x < 256)->b.length <= 400000->cf 0 [.bytes b] = .ok (.bytes (esc b))) {a b:Nat} {out:List V} {s0 s2 s3 s6:Option V} (hb:b < 256) (ho:out.length <= 1000000) :
  ∃ s6',Nx (exs N cf pc q_render_2 [ns s0,some (true,.lst out),ns s2,ns s3,some (false,.int a),some (false,.int b),ns s6]) [ns s0,some (true,.lst (out++(cut a b).map .bytes)),ns s2,ns s3,some (false,.int a),some (false,.int b),ns s6']:=by
 by_cases h:b < a
 ·refine ⟨s6,.inr ?_⟩;rw [cut,if_pos h,eG,bV];exact gx 4 fun r=>r (sT (cH.mpr h))
 ·have ha:a < 256:=by omega
  have e1:cf 0 [.bytes [a]] = .ok (.bytes (esc1 a)):=by rw [hcf _ (by simpa using ha) (by simp),zgf]
  have e2:cf 0 [.bytes [b]] = .ok (.bytes (esc1 b)):=by rw [hcf _ (by simpa using hb) (by simp),zgf]
  have l1:=zbj a;have l2:=zbj b;rw [cut,if_neg h];have h:=mt cH.mp h;have e3:vbin .add (.bytes [45]) (.bytes (esc1 b)) = some (.bytes ([45]++esc1 b)):=zdh (by simp; omega);have e4:vadd (.bytes (esc1 a)) (.bytes (45 :: esc1 b)) = some (.bytes (esc1 a++(45 :: esc1 b))):=zb3 (by simp; omega);refine ⟨some (.bytes (piece a b)),.inl ?_⟩
  by_cases he:a = b
  ·clear e4 hb l2 e3 e2;subst he;rw [piece,if_pos rfl];exact gx 0x104504 fun r=>r (sF h) (znv ha) e1 (nT rfl) ho
  ·have he':¬ (a:Int) = b:=mt Int.ofNat_inj.mp he;rw [piece,if_neg he];exact gx 0x45504504 fun r=>r (sF h) (znv ha) e1 (nF he') (znv hb) e2 e3 e4 ho
theorem zkx (hcf:∀ b:List Nat,(∀ x ∈ b,x < 256)->b.length <= 400000->cf 0 [.bytes b] = .ok (.bytes (esc b))) {p:Nat × Nat} {out:List V} {s0 s2 s3 s4 s5 s6:Option V} (hp:p.2 < 256) (ho:out.length <= 999999) :
  Ex3 fun s4' s5' s6'=>exs N cf pc q_render_1 [ns s0,some (true,.lst out),ns (some (.int p.1)),ns (some (.int p.2)),ns s4,ns s5,ns s6] = .nx [ns s0,some (true,.lst (out++(rend1 p).map .bytes)),ns (some (.int p.1)),ns (some (.int p.2)),ns s4',ns s5',ns s6']:=by
 obtain ⟨lo,hi⟩:=p;dsimp only at hp |-;obtain ⟨s6',h1⟩:=zfx (cf:=cf) (N:=N) (pc:=pc) hcf (a:=lo) (b:=min hi 46) (out:=out) (s0:=s0) (s2:=some (.int lo)) (s3:=some (.int hi)) (s6:=s6) (by omega) (by omega);obtain ⟨s6'',h2⟩:=zfx (cf:=cf) (N:=N) (pc:=pc) hcf (a:=max lo 48) (b:=hi) (out:=out++(cut lo (min hi 46)).map .bytes) (s0:=s0) (s2:=some (.int lo)) (s3:=some (.int hi)) (s6:=s6') (by omega) (by have:(cut lo (min hi 46)).length <= 1:=by { unfold cut; split <;> simp }; simp; omega);refine ⟨some (.int (max lo 48:Nat)),some (.int hi),s6'',?_⟩;have m1:vb2 .min (.int hi) (.int 46) = some (.int (min hi 46:Nat)):=zwf (a:=hi) (b:=46);have m2:vb2 .max (.int lo) (.int 48) = some (.int (max lo 48:Nat)):=zv9 (a:=lo) (b:=48);have h3:forL (bT N cf pc [4,5] q_render_2) [.tup [.int lo,.int (min hi 46:Nat)],.tup [.int (max lo 48:Nat),.int hi]] [ns s0,some (true,.lst out),ns (some (.int lo)),ns (some (.int hi)),ns s4,ns s5,ns s6] = _:=(zed h1).trans ((zed h2).trans rfl);rw [rend1,cX,<- bH];exact gx 0x1110 fun r=>r m1 m2 h3
theorem zc1 (hcf:∀ b:List Nat,(∀ x ∈ b,x < 256)->b.length <= 400000->cf 0 [.bytes b] = .ok (.bytes (esc b))):∀ (ms:List (Nat × Nat)) (out:List V) (s0 s2 s3 s4 s5 s6:Option V),(∀ p ∈ ms,p.2 < 256)->out.length+2 * ms.length <= 999999 ->
  Ex5 fun s2' s3' s4' s5' s6'=>forL (bT N cf pc [2,3] q_render_1) (ms.map pairN) [ns s0,some (true,.lst out),ns s2,ns s3,ns s4,ns s5,ns s6]
   = .nx [ns s0,some (true,.lst (out++(render ms).map .bytes)),ns s2',ns s3',ns s4',ns s5',ns s6']
 | []=>fun out s0 s2 s3 s4 s5 s6 O O=>⟨s2,s3,s4,s5,s6,by simp [zjh,render]⟩
 | p :: ms=>by
  intro out s0 s2 s3 s4 s5 s6 hb hz;simp only [aI] at hz;obtain ⟨s4',s5',s6',h1⟩:=zkx (cf:=cf) (N:=N) (pc:=pc) hcf (p:=p) (out:=out) (s0:=s0) (s2:=s2) (s3:=s3) (s4:=s4) (s5:=s5) (s6:=s6) (hb p (by simp)) (by omega);obtain ⟨t2,t3,t4,t5,t6,h2⟩:=zc1 hcf ms (out++(rend1 p).map .bytes) s0 (some (.int p.1)) (some (.int p.2)) s4' s5' s6' (fun q hq=>hb q (by simp [hq])) (by
   have:(rend1 p).length <= 2:=by { unfold rend1 cut; split <;> split <;> simp }
   simp; omega)
  refine ⟨t2,t3,t4,t5,t6,?_⟩;rw [show out++(render (p :: ms)).map V.bytes = out++(rend1 p).map .bytes++(render ms).map .bytes by simp [render]];exact (zed (.inl h1)).trans h2
theorem zit:∀ (l:List (List Nat)),bts (l.map .bytes) = some l
 | []=>rfl
 | b :: r=>by simp [bt_b,zit r]
theorem zhg {sep:List Nat} {l:List (List Nat)} (h:(joinL sep l).length <= 16777216):vjoin sep (.lst (l.map .bytes)) = some (.bytes (joinL sep l)):=by
 simp [vjoin,zit,h]
theorem zcc:∀ (l:List (List Nat)),joinL [] l = l.flatten
 | []=>rfl
 | p :: r=>by simp [joinL,List.flatMap_id']
theorem zeh (ms:List (Nat × Nat)):(render ms).flatten.length <= 10 * ms.length:=by
 induction ms with
 | nil=>simp [render]
 | cons p ms ih =>
  have h1:∀ a b,(cut a b).flatten.length <= 5:=fun a b=>by
   unfold cut
   split
   ·simp
   ·simpa using zl0 a b
  have:=h1 p.1 (min p.2 46);have:=h1 (max p.1 48) p.2;simp only [render,cR,List.flatten_append,rend1,aK,aI] at ih |-;omega
theorem zol {k:Nat} {ms:List (Nat × Nat)} (hb:∀ p ∈ ms,p.2 < 256) (hz:ms.length <= 100000):callF N fsAll 2 (k+2) 1 [.lst (ms.map pairN)] = .ok (.bytes (render ms).flatten):=by
 obtain ⟨t2,t3,t4,t5,t6,h2⟩:=zc1 (cf:=callF N fsAll 2 (k+1)) (N:=N) (pc:=pcOf N fsAll 2 (k+1)) (fun b h1 h2=>zgr h1 h2) ms [] (some (.lst (ms.map pairN))) none none none none none hb (by simp; omega);have hl:=zeh ms;have hj:=zhg (l:=render ms) (sep:=[]) (by rw [zcc]; omega);rw [zcc] at hj;exact goC 0x450 rfl fun r=>r (it_l (l:=ms.map pairN) (by simp; omega)) h2 hj
end

noncomputable def scan:List Nat->Option (List Nat × List Nat)
 | []=>none
 | c :: s=>if c = 93 then some ([],s) else match scan s with
  | some (w,u)=>some (c :: w,u)
  | none=>none
theorem sc_n:scan [] = none:=rfl
theorem sc_c {c:Nat} {s:List Nat}:scan (c :: s) = if c = 93 then some ([],s) else match scan s with
  | some (w,u)=>some (c :: w,u)
  | none=>none:=rfl
inductive Px where
 | ex | lit | cls (c:List Nat) (u:List Nat)
noncomputable def pxOf (s:List Nat):Px:=match scan s with
 | none=>.ex
 | some (w,u)=>match w.reverse with
  | []=>.lit
  | x :: r=>if x = 58 then match posixN.lookup r.reverse with
   | some c=>.cls c u
   | none=>.ex
   else .lit
set_option tactic.hygienic true in
theorem ze7:∀ {s w u:List Nat},scan s = some (w,u)->s = w++93 :: u
 | [],O,O1,h=>by cases h
 | c :: s,w,u,h=>by
  rw [sc_c] at h
  split at h
  ·cases h; simp_all
  ·split at h
   ·rename_i w' u' h'
    cases h
    simp [ze7 h']
   ·cases h
section
variable {cf:Nat->List V->R V} {N:Nat} {pc:V->V->List V->List V->R (V × List V × List V)} {p:List Nat}
set_option tactic.hygienic true in
theorem zqs (hp:p.length <= 1000000) {lm lc:List V} {i st:V}:∀ (n:Nat) (s:List Nat) (j:Int),At p j s->s.length < n ->
  ∃ j',whileN (wt cf c_posix_class_1) (exs N cf pc q_posix_class_1) n [ns (some (.bytes p)),ns (some i),some (true,.lst lm),some (true,.lst lc),ns (some st),ns (some (.int j))]
   = .nx [ns (some (.bytes p)),ns (some i),some (true,.lst lm),some (true,.lst lc),ns (some st),ns (some (.int j'))] /\
   match scan s with | none=>At p j' [] | some (w,u)=>At p j' (93 :: u)/\j' = j+w.length
 | 0,O,O1,O2,h=>by omega
 | n+1,[],j,h,O=>by
  refine ⟨j,?_,by simpa [sc_n,sc_c] using h⟩;rw [wl_f];have h1:=h.dlt0;exact goT 5 fun r=>r (zb6 (show p.length <= 16777216 by omega)) (sm h1)
 | n+1,c :: s,j,h,hn=>by
  have h1:=h.dlt;have h2:=h.sl hp;have h3:=zb6 (b:=p) (by omega)
  by_cases hc:c = 93
  ·subst hc;refine ⟨j,?_,by simpa [sc_n,sc_c] using h⟩;rw [wl_f];exact goT 0x105 fun r=>r h3 (sm h1) h2
  ·obtain ⟨j',e,r⟩:=zqs hp n s (j+1) h.next (by simp at hn; omega);refine ⟨j',?_,?_⟩
   ·refine (zv7 (σ':=[ns (some (.bytes p)),ns (some i),some (true,.lst lm),some (true,.lst lc),ns (some st),ns (some (.int (j+1)))]) ?_ (.inl ?_)).trans e
    ·exact goT 0x505 fun r=>r h3 (sm h1) h2 (lN hc)
    ·exact gx 0 fun r=>r
   ·rw [sc_c];rw [if_neg hc]
    cases hs:scan s with
    | none=>rw [hs] at r; exact r
    | some q =>
     obtain ⟨w,u⟩:=q;rw [hs] at r;refine ⟨r.1,?_⟩;have:=r.2;simp only [aI];omega
set_option tactic.hygienic true in
theorem zq3 {k:Nat} (hp:p.length <= 999990) (hN:p.length < N) {s:List Nat} {i:Int} {lm lc:List V} (h:At p i (91 :: 58 :: s)) (hm:lm.length <= 1000000) (hc:lc.length <= 1000000):match pxOf s with
  | .ex=>pcOf N fsAll 2 (k+1) (.bytes p) (.int i) lm lc = .ex
  | .lit=>pcOf N fsAll 2 (k+1) (.bytes p) (.int i) lm lc = .ok (.tup [.int i,.int 91],lm++[pairN (91,91)],lc)
  | .cls c u=>∃ j,At p j (93 :: u)/\pcOf N fsAll 2 (k+1) (.bytes p) (.int i) lm lc = .ok (.tup [.int j,.none],lm,lc++[.bytes c]):=by
 have h2:At p (i+2) s:=by have:=h.next.next; rwa [show i+1+1 = i+2 by omega] at this
 have hl:s.length < N:=by have:=h2.len'; omega
 obtain ⟨j,e,r⟩:=zqs (cf:=callF N fsAll 2 k) (N:=N) (pc:=fun O O O O=>.st) (p:=p) (by omega) (lm:=lm) (lc:=lc) (i:=.int i) (st:=.int (i+2)) N s (i+2) h2 hl;have h3:=zb6 (b:=p) (by omega);unfold pxOf
 cases hs:scan s with
 | none =>
  rw [hs] at r;have d1:=r.dle0;show pcOf _ _ _ _ _ _ _ _ = _;exact goP 0x5100 fun r=>r e h3 (sm d1)
 | some q =>
  obtain ⟨w,u⟩:=q;rw [hs] at r;obtain ⟨r1,r2⟩:=r;have d1:=r1.dle;have hw:=ze7 hs;rcases fO w with rfl | ⟨nm,x,rfl⟩
  ·have r3:j = i+2:=by simpa using r2
   subst r3;have e9:vbin .sub (.int (i+2)) (.int 2) = some (.int i):=by rw [zss,Int.add_sub_cancel]
   show pcOf _ _ _ _ _ _ _ _ = _;exact goP 0x410105100 fun r=>r e h3 (sm d1) (sT rfl) hm e9
  ·have dq:decide (j = i+2) = false:=by simp at r2 |-; omega
   have c1:vsl (some (.int (j - 1))) (some (.int j)) (.bytes p) = some (.bytes [x]):=by
    have:=h2.cut (p:=p) (by omega) (k:=nm.length) (m:=nm.length+1);simp only [hw,fP,aK,aI,bY] at this r2 |-;rw [show i+2+(nm.length:Int) = j - 1 by omega,show i+2+((nm.length+1:Nat):Int) = j by omega] at this;rw [this];simp [List.drop_take]
   have c2:vsl (some (.int (i+2))) (some (.int (j - 1))) (.bytes p) = some (.bytes nm):=by
    have:=h2.cut (p:=p) (by omega) (k:=0) (m:=nm.length);simp only [hw,fP,aK,aI,bY] at this r2 |-;rw [show i+2+((0:Nat):Int) = i+2 by omega,show i+2+(nm.length:Int) = j - 1 by omega] at this;rw [this];simp
   have ew:(nm.concat x).reverse = x :: nm.reverse:=by simp
   dsimp only;rw [ew];dsimp only
   by_cases hx:x = 58
   ·subst hx;rw [if_pos rfl,List.reverse_reverse]
    cases hk:posixN.lookup nm with
    | none =>
     have g1:inPosix (.bytes nm) = some false:=by simp [inPosix,zf9,hk]
     show pcOf _ _ _ _ _ _ _ _ = _;exact goP 0x5004105100 fun r=>r e h3 (sm d1) (sm dq) c1 c2 g1
    | some c =>
     have g1:inPosix (.bytes nm) = some true:=by simp [inPosix,zf9,hk]
     have g2:atPosix (.bytes nm) = some (.bytes c):=by simp [atPosix,zf9,hk]
     refine ⟨j,r1,?_⟩;exact goP 0x5405004105100 fun r=>r e h3 (sm d1) (sm dq) c1 c2 g1 c2 g2 hc
   ·have e9:vbin .sub (.int (i+2)) (.int 2) = some (.int i):=by rw [zss,Int.add_sub_cancel]
    rw [if_neg hx];show pcOf _ _ _ _ _ _ _ _ = _;exact goP 0x10414105100 fun r=>r e h3 (sm d1) (sm dq) c1 (lN hx) hm e9
end

noncomputable def isR (c:Nat) (pv:Option Nat) (s:List Nat):Bool:=match pv,s with
 | some O,x :: O1=>decide (c = 45) && !decide (x = 93)
 | O,O1=>false
noncomputable def brk:Nat->List Nat->List (Nat × Nat)->List (List Nat)->Option Nat->Bool->R (List Nat × List (Nat × Nat) × List (List Nat))
 | 0,O,O1,O2,O3,O4=>.st
 | O+1,[],O1,O2,O3,O4=>.ex
 | n+1,c :: s,ms,cs,pv,f =>
  if c = 93/\f = false then .ok (s,ms,cs)
  else if c = 92 then match s with
   | []=>.ex
   | x :: s'=>brk n s' ((x,x) :: ms) cs (some x) false
  else if isR c pv s = true then match (if s.head? = some 92 then s.tail else s),pv,ms with
   | [],O,O1=>.ex
   | y :: s2,some lo,m :: ms'=>brk n s2 (if lo <= y then (lo,y) :: ms' else m :: ms') cs none false
   | O,O1,O2=>.st
  else if c = 91/\s.head? = some 58 then match pxOf s.tail with
   | .ex=>.ex
   | .lit=>brk n s ((91,91) :: ms) cs (some 91) false
   | .cls t u=>brk n u ms (t :: cs) none false
  else brk n s ((c,c) :: ms) cs (some c) false
noncomputable def pvV:Option Nat->V
 | none=>.none
 | some x=>.int x
noncomputable def bσ (p:List Nat) (neg:V) (i:Int) (ms:List (Nat × Nat)) (cs:List (List Nat)) (pv:Option Nat) (f:Bool) (o8:Option V):List Slot :=
 [ns (some (.bytes p)),ns (some (.int i)),ns (some (.int p.length)),ns (some neg),some (true,.lst (ms.reverse.map pairN)),some (true,.lst (cs.reverse.map .bytes)),ns (some (pvV pv)),ns (some (.bool f)),ns o8,ns none]
section
variable {cf:Nat->List V->R V} {N:Nat} {pc:V->V->List V->List V->R (V × List V × List V)} {p:List Nat} {neg:V}
noncomputable def PcGood (p:List Nat) (pc:V->V->List V->List V->R (V × List V × List V)):Prop:=∀ (s:List Nat) (i:Int) (lm lc:List V),At p i (91 :: 58 :: s)->lm.length <= 1000000->lc.length <= 1000000->match pxOf s with
  | .ex=>pc (.bytes p) (.int i) lm lc = .ex
  | .lit=>pc (.bytes p) (.int i) lm lc = .ok (.tup [.int i,.int 91],lm++[pairN (91,91)],lc)
  | .cls c u=>∃ j,At p j (93 :: u)/\pc (.bytes p) (.int i) lm lc = .ok (.tup [.int j,.none],lm,lc++[.bytes c])
theorem zon {c:Nat} {pv:Option Nat} {s:List Nat} (h:isR c pv s = true):c = 45/\Ex3 fun lo x s'=>And3 (pv = some lo) (s = x :: s') (x ≠ 93):=by
 unfold isR at h
 split at h
 ·simp at h; exact ⟨h.1,_,_,_,rfl,rfl,h.2⟩
 ·cases h
theorem zpz {s w u:List Nat} (h:scan s = some (w,u)):u.length < s.length:=by
 have:=ze7 h;rw [this]; simp; omega
set_option tactic.hygienic true in
theorem zo0 {s c u:List Nat} (h:pxOf s = .cls c u):u.length < s.length:=by
 unfold pxOf at h
 split at h
 ·cases h
 ·rename_i w u' hs;have:=zpz hs
  split at h
  ·cases h
  ·split at h
   ·split at h
    ·cases h; exact this
    ·cases h
   ·cases h
theorem zq2 {ms:List (Nat × Nat)} {q:Nat × Nat}:ms.reverse.map pairN++[pairN q] = (q :: ms).reverse.map pairN:=by simp
theorem zwa {cs:List (List Nat)} {q:List Nat}:cs.reverse.map V.bytes++[.bytes q] = (q :: cs).reverse.map .bytes:=by simp
theorem zvv {l:List V} (h1:l.isEmpty = false) (h2:l.length <= 1000000):(false || l.isEmpty || !decide (l.length <= 1000000)) = false:=by rw [h1,decide_eq_true h2]; rfl
noncomputable def Turn (p:List Nat) (N:Nat) (cf:Nat->List V->R V) (pc:V->V->List V->List V->R (V × List V × List V)) (neg:V) (i:Int) (ms:List (Nat × Nat)) (cs:List (List Nat)) (pv:Option Nat) (f:Bool) (o8:Option V) (s2:List Nat) (ms2:List (Nat × Nat)) (cs2:List (List Nat)) (pv2:Option Nat):Prop :=
 Ey2 (fun i2 o8'=>At p i2 s2) (fun i2 o8'=>exs N cf pc qtranslate_bracket_expression_1 (bσ p neg i ms cs pv f o8) = .nx (bσ p neg i2 ms2 cs2 pv2 false o8'))
set_option tactic.hygienic true in
theorem zwn (hp:p.length <= 999990) {c:Nat} {s:List Nat} {ms:List (Nat × Nat)} {cs:List (List Nat)} {pv:Option Nat} {f:Bool} {i:Int} {o8:Option V} (h:At p i (92 :: c :: s)) (hm:ms.length <= 1000000) :
  Turn p N cf pc neg i ms cs pv f o8 s ((c,c) :: ms) cs (some c):=by
 have d1:=h.dle;have d2:=h.next.dle;have e1:=h.sl (by omega);have e2:=h.next.ix (by omega);have lm:(ms.reverse.map pairN).length <= 1000000:=by simpa using hm
 refine ⟨i+1+1,some (.bytes [92]),h.next.next,?_⟩;have rv:=zq2 (ms:=ms) (q:=(c,c));exact gx 0x510400000404 fun r=>r (sm d1) e1 (sm d2) e2 lm rv
set_option tactic.hygienic true in
theorem zxa (hp:p.length <= 999990) {c:Nat} {s:List Nat} {ms:List (Nat × Nat)} {cs:List (List Nat)} {pv:Option Nat} {f:Bool} {i:Int} {o8:Option V} (h:At p i (c :: s)) (hm:ms.length <= 1000000)
  (h1:¬ (c = 93/\f = false)) (h2:¬ c = 92) (h3:isR c pv s = false) (h4:¬ (c = 91/\s.head? = some 58)):Turn p N cf pc neg i ms cs pv f o8 s ((c,c) :: ms) cs (some c):=by
 have d1:=h.dle;have e1:=h.sl (by omega);have e2:=h.ix (by omega);have e3:=h.sl2 (by omega);have hlen:=zb6 (b:=p) (by omega);have lm:(ms.reverse.map pairN).length <= 1000000:=by simpa using hm
 refine ⟨i+1,some (.bytes [c]),h.next,?_⟩;have g1:(c = 93/\f = true) \/ ¬ c = 93:=by
  by_cases hc:c = 93
  ·cases f
   ·exact absurd ⟨hc,rfl⟩ h1
   ·exact .inl ⟨hc,rfl⟩
  ·exact .inr hc
 have g3:¬ c = 45 \/ (pv = none/\c = 45) \/ (∃ lo,And3 (pv = some lo) (c = 45) ((s = [] \/ ∃ r,s = 93 :: r))):=by
  unfold isR at h3;clear h4 h e3
  split at h3
  ·simp at h3
   by_cases hc:c = 45
   ·exact .inr (.inr ⟨_,rfl,hc,.inr ⟨_,by rw [h3 hc]⟩⟩)
   ·exact .inl hc
  ·by_cases hc:c = 45
   ·rename_i hh
    cases pv with
    | none=>exact .inr (.inl ⟨rfl,hc⟩)
    | some lo=>cases s with
     | nil=>exact .inr (.inr ⟨_,rfl,hc,.inl rfl⟩)
     | cons x s'=>exact absurd rfl (hh lo x s' rfl)
   ·exact .inl hc
 have g4:¬ c = 91 \/ (c = 91/\(s = [] \/ Ey2 (fun x r=>s = x :: r) (fun x r=>¬ x = 58))):=by
  by_cases hc:c = 91
  ·refine .inr ⟨hc,?_⟩;clear g3 h e3 h3
   cases s with
   | nil=>exact .inl rfl
   | cons x r=>exact .inr ⟨x,r,rfl,fun z=>h4 ⟨hc,by simp [z]⟩⟩
  ·exact .inl hc
 have rv:=zq2 (ms:=ms) (q:=(c,c));clear h4 h1 h3;rcases g1 with ⟨rfl,rfl⟩ | g1
 ·exact gx 0x51000000000404 fun r=>r (sm d1) e1 e2 lm rv
 ·rcases g3 with g3 | ⟨rfl,rfl⟩ | ⟨lo,rfl,rfl,rfl | ⟨r,rfl⟩⟩
  ·clear h;rcases g4 with g4 | ⟨rfl,rfl | ⟨x,r,rfl,g4⟩⟩
   ·exact gx 0x14404041004404 fun r=>r (sm d1) e1 (lF g1) (lF h2) (lF g3) (lF g4) e2 lm rv
   ·simp only [List.take_nil] at e3;exact gx 0x1440400000000404 fun r=>r (sm d1) e1 e3 e2 lm rv
   ·simp only [dB,dU] at e3;exact gx 0x1441400000000404 fun r=>r (sm d1) e1 e3 (lF g4) e2 lm rv
  ·exact gx 0x144000000000404 fun r=>r (sm d1) e1 e2 lm rv
  ·have d2:=h.next.dlt0;exact gx 0x5100010000000404 fun r=>r (sm d1) e1 (sm d2) e2 lm rv
  ·have d2:=h.next.dlt;simp only [dB,dU] at e3;exact gx 0x510001010000000404 fun r=>r (sm d1) e1 (sm d2) e3 e2 lm rv
set_option tactic.hygienic true in
theorem zvi (hp:p.length <= 999990) {lo x:Nat} {s s2:List Nat} {m:Nat × Nat} {ms:List (Nat × Nat)} {cs:List (List Nat)} {f:Bool} {i:Int} {o8:Option V} {y:Nat} (h:At p i (45 :: x :: s)) (hm:ms.length <= 999990) (hx:x ≠ 93)
  (hs:(x = 92/\s = y :: s2) \/ (x ≠ 92/\y = x/\s2 = s)):Turn p N cf pc neg i (m :: ms) cs (some lo) f o8 s2 (if lo <= y then (lo,y) :: ms else m :: ms) cs none:=by
 have d1:=h.dle;have d2:=h.next.dlt;have e1:=h.sl (by omega);have e3:=h.sl2 (by omega);have e4:=h.next.sl (by omega);have hlen:=zb6 (b:=p) (by omega);have lm:((m :: ms).reverse.map pairN).length <= 1000000:=by simp; omega
 have k1:((m :: ms).reverse.map pairN).isEmpty = false:=by simp
 have k3:((m :: ms).reverse.map pairN).dropLast++[pairN (lo,y)] = ((lo,y) :: ms).reverse.map pairN:=by simp
 simp only [dB,dU] at e3;refine byC fun hG=>?_;rcases hs with ⟨rfl,rfl⟩ | ⟨hx2,rfl,rfl⟩
 ·have d3:=h.next.next.dle;have e5:=h.next.next.ix (by omega);refine hG ?_;clear hG;refine ⟨i+1+1+1,some (.bytes [45]),h.next.next.next,?_⟩
  by_cases hl:lo <= y
  ·rw [if_pos hl];have hl:=gA.mpr hl;exact gx 0x150504004001010000000404 fun r=>r (sm d1) e1 (sm d2) e3 e4 (sm d3) e5 (sT hl) e5 (zvv k1 lm) k3
  ·rw [if_neg hl];have hl:=mt gA.mp hl;exact gx 0x504004001010000000404 fun r=>r (sm d1) e1 (sm d2) e3 e4 (sm d3) e5 (sF hl)
 ·have e5:=h.next.ix (by omega);refine hG ?_;clear hG;refine ⟨i+1+1,some (.bytes [45]),h.next.next,?_⟩
  by_cases hl:lo <= y
  ·rw [if_pos hl];have hl:=gA.mpr hl;exact gx 0x541414005010000000404 fun r=>r (sm d1) e1 (sm d2) e3 (lN hx) e4 (lF hx2) e5 (sT hl) e5 (zvv k1 lm) k3
  ·rw [if_neg hl];have hl:=mt gA.mp hl;exact gx 0x1414005010000000404 fun r=>r (sm d1) e1 (sm d2) e3 (lN hx) e4 (lF hx2) e5 (sF hl)
set_option tactic.hygienic true in
theorem zwy (hp:p.length <= 999990) (hpc:PcGood p pc) {s:List Nat} {ms:List (Nat × Nat)} {cs:List (List Nat)} {pv:Option Nat} {f:Bool} {i:Int} {o8:Option V} (h:At p i (91 :: 58 :: s)) (hm:ms.length <= 1000000) (hc:cs.length <= 1000000) :
  match pxOf s with
  | .ex=>exs N cf pc qtranslate_bracket_expression_1 (bσ p neg i ms cs pv f o8) = .ex
  | .lit=>Turn p N cf pc neg i ms cs pv f o8 (58 :: s) ((91,91) :: ms) cs (some 91)
  | .cls c u=>Turn p N cf pc neg i ms cs pv f o8 u ms (c :: cs) none:=by
 have d1:=h.dle;have e1:=h.sl (by omega);have e3:=h.sl2 (by omega);simp only [dB,dU] at e3;have lm:(ms.reverse.map pairN).length <= 1000000:=by simpa using hm
 have lc:(cs.reverse.map V.bytes).length <= 1000000:=by simpa using hc
 have hq:=hpc s i _ _ h lm lc
 cases hx:pxOf s with
 | ex =>
  rw [hx] at hq;dsimp only at hq |-;exact gx 0x40400000000404 fun r=>r (sm d1) e1 e3 hq
 | lit =>
  rw [hx] at hq;dsimp only at hq |-;refine ⟨i+1,some (.bytes [91]),h.next,?_⟩;rw [zq2] at hq;exact gx 0x40400000000404 fun r=>r (sm d1) e1 e3 hq
 | cls c u =>
  rw [hx] at hq;dsimp only at hq |-;obtain ⟨j,hj,hq⟩:=hq;refine ⟨j+1,some (.bytes [91]),hj.next,?_⟩;rw [zwa] at hq;exact gx 0x40400000000404 fun r=>r (sm d1) e1 e3 hq
end

section
variable {cf:Nat->List V->R V} {N:Nat} {pc:V->V->List V->List V->R (V × List V × List V)} {p:List Nat} {neg:V}
noncomputable abbrev brkW (N:Nat) (cf:Nat->List V->R V) (pc:V->V->List V->List V->R (V × List V × List V)) (n:Nat) (σ:List Slot):F:=whileN (wt cf ctranslate_bracket_expression_1) (exs N cf pc qtranslate_bracket_expression_1) n σ
noncomputable def BrkRes (p:List Nat) (neg:V) (w:F):R (List Nat × List (Nat × Nat) × List (List Nat))->Prop
 | .ok (s',ms',cs')=>Ex3 fun i' pv' o8'=>And4 (At p i' (93 :: s')) (ms'.length <= 999980) (cs'.length <= 999980) (w = .nx (bσ p neg i' ms' cs' pv' false o8'))
 | .ex=>w = .ex
 | .st=>True
theorem zec {α:Type} {P:α->Prop} {c:Prop} [Decidable c] {a b:α} (h1:c->P a) (h2:¬ c->P b):P (if c then a else b):=by
 by_cases h:c
 ·rw [if_pos h]; exact h1 h
 ·rw [if_neg h]; exact h2 h
theorem zoe {C:Nat->List Nat->List (Nat × Nat)->Option Nat->Bool->R (List Nat × List (Nat × Nat) × List (List Nat))->Prop} {n c:Nat} {s:List Nat} {ms:List (Nat × Nat)} {cs:List (List Nat)} {pv:Option Nat} {f:Bool}
  (k0:∀ c s ms pv f,C c s ms pv f .st) (k1:∀ s ms pv,C 93 s ms pv false (.ok (s,ms,cs))) (k2:∀ ms pv f,C 92 [] ms pv f .ex) (k3:∀ x s ms pv f,C 92 (x :: s) ms pv f (brk n s ((x,x) :: ms) cs (some x) false))
  (k4:∀ ms lo f,C 45 [92] ms (some lo) f .ex) (k5:∀ y s lo m ms f,C 45 (92 :: y :: s) (m :: ms) (some lo) f (brk n s (if lo <= y then (lo,y) :: ms else m :: ms) cs none false))
  (k6:∀ x s lo m ms f,x ≠ 92->x ≠ 93->C 45 (x :: s) (m :: ms) (some lo) f (brk n s (if lo <= x then (lo,x) :: ms else m :: ms) cs none false))
  (k7:∀ s ms pv f,C 91 (58 :: s) ms pv f (match pxOf s with
   | .ex=>.ex
   | .lit=>brk n (58 :: s) ((91,91) :: ms) cs (some 91) false
   | .cls t u=>brk n u ms (t :: cs) none false))
  (k8:∀ c s ms pv f,¬ (c = 93/\f = false)->¬ c = 92->isR c pv s = false->¬ (c = 91/\s.head? = some 58)->C c s ms pv f (brk n s ((c,c) :: ms) cs (some c) false)):C c s ms pv f (brk (n+1) (c :: s) ms cs pv f):=by
 refine zec (P:=C c s ms pv f) (fun h1=>?_) fun h1=>zec (P:=C c s ms pv f) (fun h2=>?_) fun h2=>zec (P:=C c s ms pv f) (fun h3=>?_) fun h3=>zec (P:=C c s ms pv f) (fun h4=>?_) fun h4=>k8 c s ms pv f h1 h2 (eq_false_of_ne_true h3) h4
 ·obtain ⟨rfl,rfl⟩:=h1; exact k1 s ms pv
 ·clear h1;subst h2
  cases s with
  | nil=>exact k2 ms pv f
  | cons x s=>exact k3 x s ms pv f
 ·clear h2 h1;obtain ⟨rfl,lo,x,s',rfl,rfl,hx⟩:=zon h3
  by_cases hx2:x = 92
  ·clear h3 hx;subst hx2
   cases s' with
   | nil=>exact k4 ms lo f
   | cons y s2 =>
    cases ms with
    | nil=>exact k0 _ _ _ _ _
    | cons m ms=>exact k5 y s2 lo m ms f
  ·rw [if_neg (show ¬ (x :: s').head? = some 92 from fun e=>hx2 (bN e))]
   cases ms with
   | nil=>exact k0 _ _ _ _ _
   | cons m ms=>exact k6 x s' lo m ms f hx2 hx
 ·clear h2 h1 h3;obtain ⟨rfl,h4⟩:=h4
  cases s with
  | nil=>cases h4
  | cons x s =>
   obtain rfl:x = 58:=bN h4;exact k7 s ms pv f
set_option tactic.hygienic true in
theorem zt1 (hp:p.length <= 999990) (hpc:PcGood p pc):∀ (n:Nat) (s:List Nat) (ms:List (Nat × Nat)) (cs:List (List Nat)) (pv:Option Nat) (f:Bool) (i:Int) (o8:Option V),At p i s->ms.length+s.length <= 999980->cs.length+s.length <= 999980 ->
  BrkRes p neg (brkW N cf pc n (bσ p neg i ms cs pv f o8)) (brk n s ms cs pv f)
 | 0,O=>fun O O O O O O O O O=>trivial
 | n+1,[]=>by
  intro ms cs pv f i o8 h h1 h2;have d1:=h.dle0;refine wl_x (by exact goT 0 fun r=>r) ?_;exact gx 4 fun r=>r (sm d1)
 | n+1,c :: s=>by
  intro ms cs pv f i o8 h h1 h2;have ht:∀ σ,wt cf ctranslate_bracket_expression_1 σ = .ok true:=fun σ=>by exact goT 0 fun r=>r
  have go:∀ {ms:List (Nat × Nat)} {pv:Option Nat} {f:Bool} {s2:List Nat} {ms2:List (Nat × Nat)} {cs2:List (List Nat)} {pv2:Option Nat},Turn p N cf pc neg i ms cs pv f o8 s2 ms2 cs2 pv2->ms2.length+s2.length <= 999980->cs2.length+s2.length <= 999980->BrkRes p neg (brkW N cf pc (n+1) (bσ p neg i ms cs pv f o8)) (brk n s2 ms2 cs2 pv2 false):=by
   intro ms pv f s2 ms2 cs2 pv2 ⟨i2,o8',a2,e2⟩ b1 b2;have:=zt1 hp hpc n s2 ms2 cs2 pv2 false i2 o8' a2 b1 b2;rw [brkW,wl_t (ht _) e2];exact this
  revert h h1 h2
  refine zoe (C:=fun c s ms pv f r=>At p i (c :: s)->ms.length+(s.length+1) <= 999980->cs.length+(s.length+1) <= 999980->BrkRes p neg (brkW N cf pc (n+1) (bσ p neg i ms cs pv f o8)) r) ?_ ?_ ?_ ?_ ?_ ?_ ?_ ?_ ?_
  ·intro c s ms pv f h h1 h2
   trivial
  ·intro s ms pv h h1 h2;refine ⟨i,pv,some (.bytes [93]),h,by omega,by omega,wl_b (ht _) ?_⟩;have d1:=h.dle;have e1:=h.sl (by omega);exact gx 0x404 fun r=>r (sm d1) e1
  ·intro ms pv f h h1 h2;refine wl_x (ht _) ?_;have d1:=h.dle;have e1:=h.sl (by omega);have d2:=h.next.dle0;exact gx 0x400000404 fun r=>r (sm d1) e1 (sm d2)
  ·intro x s ms pv f h h1 h2;exact go (zwn hp h (by omega)) (by simp at h1 |-; omega) (by simp at h2 |-; omega)
  ·intro ms lo f h h1 h2;refine wl_x (ht _) ?_;have d1:=h.dle;have e1:=h.sl (by omega);have e3:=h.sl2 (by omega);simp only [dB,dU] at e3;have e4:=h.next.sl (by omega);have d2:=h.next.dlt;have d3:=h.next.next.dle0;have hlen:=zb6 (b:=p) (by omega);exact gx 0x4004001010000000404 fun r=>r (sm d1) e1 (sm d2) e3 e4 (sm d3)
  ·intro y s lo m ms f h h1 h2;exact go (zvi hp h (by simp at h1; omega) (by decide) (.inl ⟨rfl,rfl⟩)) (by simp at h1 |-; split <;> simp <;> omega) (by simp at h2 |-; omega)
  ·intro x s lo m ms f hx2 hx h h1 h2;exact go (zvi hp h (by simp at h1; omega) hx (.inr ⟨hx2,rfl,rfl⟩)) (by simp at h1 |-; split <;> simp <;> omega) (by simp at h2 |-; omega)
  ·intro s ms pv f h h1 h2;have h3:=zwy (N:=N) (cf:=cf) (neg:=neg) (cs:=cs) (ms:=ms) (pv:=pv) (f:=f) (o8:=o8) hp hpc h (by omega) (by omega);simp only [aI] at h1 h2
   cases hx:pxOf s with
   | ex=>rw [hx] at h3; exact wl_x (ht _) h3
   | lit=>rw [hx] at h3; exact go h3 (by simp only [aI]; omega) (by simp only [aI]; omega)
   | cls t u =>
    rw [hx] at h3;have:=zo0 hx;exact go h3 (by omega) (by simp only [aI]; omega)
  ·intro c s ms pv f hc1 hc2 hc3 hc4 h h1 h2;exact go (zxa hp h (by omega) hc1 hc2 hc3 hc4) (by simp only [aI]; omega) (by omega)
noncomputable def negOf:List Nat->Bool
 | c :: O=>decide (c = 33) || decide (c = 94)
 | []=>false
noncomputable def wrap (neg:Bool) (body:List Nat):List Nat:=if neg then [91,94,47]++body++[93] else if body = [] then [40,63,33,41] else [91]++body++[93]
noncomputable def brkT (n:Nat) (s:List Nat):R (List Nat × List Nat):=match brk n (if negOf s then s.tail else s) [] [] none true with
 | .ok (s',ms,cs)=>.ok (s',wrap (negOf s) ((render ms.reverse).flatten++cs.reverse.flatten))
 | .ex=>.ex
 | .st=>.st
theorem vany_sign {l:List Nat}:vany (.bytes l) [.bytes [33],.bytes [94]] = some (decide ([33] = l) || decide ([94] = l)):=by
 simp [va_c,va_n,vscal,two,kdI,kdB,kdO]
set_option tactic.hygienic true in
theorem zhh {k:Nat} (hp:p.length <= 100000) (hb:∀ x ∈ p,x < 256) (hpN:p.length < N) {s:List Nat} {i:Int} (h:At p i s)
  (hsz:∀ s' ms cs,brk N (if negOf s then s.tail else s) [] [] none true = .ok (s',ms,cs)->(∀ q ∈ ms,q.2 < 256)/\ms.length <= 90000/\cs.flatten.length <= 900000/\cs.length <= 100000) :
  match brkT N s with
  | .ok (s',t)=>∃ i',At p i' s'/\callF N fsAll 2 (k+3) 3 [.bytes p,.int i] = .ok (.tup [.int i',.bytes t])
  | .ex=>callF N fsAll 2 (k+3) 3 [.bytes p,.int i] = .ex
  | .st=>True:=by
 have hpc:PcGood p (pcOf N fsAll 2 (k+2)):=by
  intro s i lm lc h h1 h2;exact zq3 (k:=k+1) (by omega) hpN h h1 h2
 have hlen:=zb6 (b:=p) (by omega);obtain ⟨i1,hi1,hsgn⟩:∃ i1,At p i1 (if negOf s then s.tail else s)/\∃ sl,And3 (vsl (some (.int i)) (some (.int (i+1))) (.bytes p) = some (.bytes sl)) ((decide ([33] = sl) || decide ([94] = sl)) = negOf s) (i1 = if negOf s then i+1 else i):=by
  clear hsz
  cases s with
  | nil=>exact ⟨i,by simpa [negOf] using h,[],h.sl0 (by omega),by simp [negOf],by simp [negOf]⟩
  | cons c s' =>
   refine ⟨if negOf (c :: s') then i+1 else i,?_,[c],h.sl (by omega),?_,rfl⟩
   ·cases negOf (c :: s')
    ·exact h
    ·exact h.next
   ·simp [negOf,eq_comm]
 obtain ⟨sl,hsl,hneg,hi⟩:=hsgn;have hin:vin (.bytes sl) (.tup [.bytes [33],.bytes [94]]) = some (negOf s):=vany_sign.trans (sm hneg);have hl:=hi1.len';have key:=zt1 (N:=N) (cf:=callF N fsAll 2 (k+2)) (neg:=.bool (negOf s)) (by omega) hpc N (if negOf s then s.tail else s) [] [] none true i1 none hi1 (by simp; omega) (by simp; omega);unfold brkT;induction hr:brk N (if negOf s then s.tail else s) [] [] none true using R.casesOn with
 | st=>trivial
 | ex =>
  rw [hr] at key;dsimp only [BrkRes] at key |-
  cases hn:negOf s <;> rw [hn] at hin hi key
  ·subst hi;exact goC 0x4000504 rfl fun r=>r hlen hsl hin key
  ·subst hi;exact goC 0x40000504 rfl fun r=>r hlen hsl hin key
 | ok q =>
  obtain ⟨s',ms,cs⟩:=q;rw [hr] at key;dsimp only [BrkRes] at key |-;obtain ⟨i',pv',o8',hat,l1,l2,key⟩:=key;obtain ⟨z1,z2,z3,z4⟩:=hsz _ _ _ hr;refine ⟨i'+1,hat.next,?_⟩;have c1:callF N fsAll 2 (k+2) 1 [.lst (ms.reverse.map pairN)] = .ok (.bytes (render ms.reverse).flatten):=zol (fun q hq=>z1 q (by simpa using hq)) (by simp; omega);have z5:(render ms.reverse).flatten.length <= 900000:=by have:=zeh ms.reverse; simp at this |-; omega
  have z6:cs.reverse.flatten.length = cs.flatten.length:=by simp [List.length_flatten]
  have c2:vjoin [] (.lst (cs.reverse.map .bytes)) = some (.bytes cs.reverse.flatten):=by rw [zhg (by rw [zcc]; omega),zcc]
  have c3:vbin .add (.bytes (render ms.reverse).flatten) (.bytes cs.reverse.flatten) = some (.bytes ((render ms.reverse).flatten++cs.reverse.flatten)):=zdh (by omega);generalize hB:(render ms.reverse).flatten++cs.reverse.flatten = B at c3 |-;have zB:B.length <= 1800000:=by rw [<- hB,aK]; omega
  have c4:vbin .add (.bytes [91,94,47]) (.bytes B) = some (.bytes (91 :: 94 :: 47 :: B)):=zdh (by simp; omega);have c5:vbin .add (.bytes (91 :: 94 :: 47 :: B)) (.bytes [93]) = some (.bytes (91 :: 94 :: 47 :: (B++[93]))):=zdh (by simp; omega);have c6:vbin .add (.bytes [91]) (.bytes B) = some (.bytes (91 :: B)):=zdh (by simp; omega);have c7:vbin .add (.bytes (91 :: B)) (.bytes [93]) = some (.bytes (91 :: (B++[93]))):=zdh (by simp; omega);have c8:vtruth (.bytes B) = some (!B.isEmpty):=by simp only [vtruth,show B.length <= 16777216 by omega,if_true]
  cases hn:negOf s <;> rw [hn] at hin hi key
  ·subst hi
   cases hB2:B with
   | nil =>
    rw [hB2] at c3 c8;exact goC 0x44544004504 rfl fun r=>r hlen hsl hin c8 key c1 c2 c3 c8 c8
   | cons b B' =>
    rw [hB2] at c3 c6 c7 c8;exact goC 0x14040544000504 rfl fun r=>r hlen hsl hin key c1 c2 c3 c8 c6 c7
  ·subst hi;exact goC 0x5005440000504 rfl fun r=>r hlen hsl hin key c1 c2 c3 c4 c5
end

noncomputable def Bset (N:Nat) (s s' t:List Nat):Prop:=Ex2 fun ms cs=>And7 (brk N (if negOf s then s.tail else s) [] [] none true = .ok (s',ms,cs)) ((∀ q ∈ ms,q.2 < 256)) (ms.length <= 90000) (cs.flatten.length <= 900000) (cs.length <= 100000) (t = wrap (negOf s) ((render ms.reverse).flatten++cs.reverse.flatten)) (s'.length < s.length)
noncomputable def Bex (N:Nat) (s:List Nat):Prop:=brk N (if negOf s then s.tail else s) [] [] none true = .ex
section
variable {cf:Nat->List V->R V} {N:Nat} {pc:V->V->List V->List V->R (V × List V × List V)} {p:List Nat} {neg:V}
theorem zw8 {k:Nat} (hp:p.length <= 100000) (hb:∀ x ∈ p,x < 256) (hpN:p.length < N) {s s' t:List Nat} {i:Int} (h:At p i s) (hs:Bset N s s' t) :
  ∃ i',At p i' s'/\callF N fsAll 2 (k+3) 3 [.bytes p,.int i] = .ok (.tup [.int i',.bytes t]):=by
 obtain ⟨ms,cs,h1,h2,h3,h4,h5,rfl,_⟩:=hs;have:=zhh (k:=k) hp hb hpN h (fun s' ms' cs' e=>by rw [h1] at e; cases e; exact ⟨h2,h3,h4,h5⟩);simp only [brkT,h1] at this;exact this
theorem ztv {k:Nat} (hp:p.length <= 100000) (hb:∀ x ∈ p,x < 256) (hpN:p.length < N) {s:List Nat} {i:Int} (h:At p i s) (hs:Bex N s) :
  callF N fsAll 2 (k+3) 3 [.bytes p,.int i] = .ex:=by
 have:=zhh (k:=k) hp hb hpN h (fun s' ms' cs' e=>by rw [hs] at e; cases e);rw [brkT,hs] at this;exact this
structure CfOk (N:Nat) (cf:Nat->List V->R V):Prop where
 esc:∀ b:List Nat,(∀ x ∈ b,x < 256)->b.length <= 400000->cf 0 [.bytes b] = .ok (.bytes (Internal.esc b))
 set:∀ {p s s' t:List Nat} {i:Int},p.length <= 100000->(∀ x ∈ p,x < 256)->p.length < N->At p i s->Bset N s s' t->∃ i',At p i' s'/\cf 3 [.bytes p,.int i] = .ok (.tup [.int i',.bytes t])
 setx:∀ {p s:List Nat} {i:Int},p.length <= 100000->(∀ x ∈ p,x < 256)->p.length < N->At p i s->Bex N s->cf 3 [.bytes p,.int i] = .ex
theorem cfOk {k:Nat}:CfOk N (callF N fsAll 2 (k+3)):=⟨fun b h1 h2=>zgr h1 h2,fun a b c d e=>zw8 a b c d e,fun a b c d e=>ztv a b c d e⟩
set_option tactic.hygienic true in
theorem zmc (hp:p.length <= 999990) {o1 o4 o5:Option V}:∀ (k n:Nat) (s:List Nat) (i:Int),At p i (eM k 42++s)->s.head? ≠ some 42->k < n ->
  ∃ i',At p i' s/\whileN (wt cf c_translate_segment_2) (exs N cf pc q_translate_segment_2) n [ns (some (.bytes p)),ns o1,ns (some (.int i)),ns (some (.int p.length)),ns o4,ns o5]
   = .nx [ns (some (.bytes p)),ns o1,ns (some (.int i')),ns (some (.int p.length)),ns o4,ns o5]
 | O,0=>by intro _ _ _ _ h; omega
 | 0,n+1=>by
  intro s i h hh _;simp only [List.replicate_zero,fJ] at h;refine ⟨i,h,wl_f ?_⟩
  cases s with
  | nil =>
   have d1:=h.dlt0;exact goT 1 fun r=>r (sm d1)
  | cons c s =>
   have hc:¬ c = 42:=fun z=>hh (by simp [z]);have d1:=h.dlt;have e1:=h.sl (by omega);exact goT 0x141 fun r=>r (sm d1) e1 (lF hc)
 | k+1,n+1=>by
  intro s i h hh hn;rw [List.replicate_succ,fZ] at h;obtain ⟨i',h1,h2⟩:=zmc hp k n s (i+1) h.next hh (by omega);refine ⟨i',h1,?_⟩;have d1:=h.dlt;have e1:=h.sl (by omega);refine (wl_t (σ':=[ns (some (.bytes p)),ns o1,ns (some (.int (i+1))),ns (some (.int p.length)),ns o4,ns o5]) ?_ ?_).trans h2
  ·exact goT 0x41 fun r=>r (sm d1) e1
  ·exact gx 0 fun r=>r
inductive Seg (N:Nat):List Nat->List Nat->Prop where
 | nil:Seg N [] []
 | star (k:Nat) {s out:List Nat}:s.head? ≠ some 42->Seg N s out->Seg N (42 :: (eM k 42++s)) ([91,94,47,93,42]++out)
 | any {s out:List Nat}:Seg N s out->Seg N (63 :: s) ([91,94,47,93]++out)
 | esc (c:Nat) {s out:List Nat}:Seg N s out->Seg N (92 :: c :: s) (esc1 c++out)
 | set {s s' t out:List Nat}:Bset N s s' t->Seg N s' out->Seg N (91 :: s) (t++out)
 | lit (c:Nat) {s out:List Nat}:c ≠ 42->c ≠ 63->c ≠ 92->c ≠ 91->Seg N s out->Seg N (c :: s) (esc1 c++out)
noncomputable abbrev segσ (p acc:List Nat) (i:Int) (o4 o5:Option V):List Slot:=[ns (some (.bytes p)),ns (some (.bytes acc)),ns (some (.int i)),ns (some (.int p.length)),ns o4,ns o5]
set_option tactic.hygienic true in
theorem zli (C:CfOk N cf) (hp:p.length <= 100000) (hb:∀ x ∈ p,x < 256) (hpN:p.length < N) {s out:List Nat} (hs:Seg N s out):∀ (n:Nat) (i:Int) (acc:List Nat) (o4 o5:Option V),At p i s->s.length < n->acc.length+out.length <= 1000000 ->
  Ex3 fun i' o4' o5'=>whileN (wt cf c_translate_segment_1) (exs N cf pc q_translate_segment_1) n (segσ p acc i o4 o5) = .nx (segσ p (acc++out) i' o4' o5'):=by
 have turn:∀ {c:Nat} {s s2 out t acc:List Nat} {i i2:Int} {n:Nat} {o4 o5 o4' o5':Option V},At p i (c :: s)->At p i2 s2->exs N cf pc q_translate_segment_1 (segσ p acc i o4 o5) = .nx (segσ p (acc++t) i2 o4' o5') ->
   (Ex3 fun i' o4'' o5''=>whileN (wt cf c_translate_segment_1) (exs N cf pc q_translate_segment_1) n (segσ p (acc++t) i2 o4' o5') = .nx (segσ p (acc++t++out) i' o4'' o5'')) ->
   Ex3 fun i' o4' o5'=>whileN (wt cf c_translate_segment_1) (exs N cf pc q_translate_segment_1) (n+1) (segσ p acc i o4 o5) = .nx (segσ p (acc++(t++out)) i' o4' o5'):=by
  intro c s s2 out t acc i i2 n o4 o5 o4' o5' h h2 he ⟨i',q4,q5,hw⟩;refine ⟨i',q4,q5,?_⟩;have d1:=h.dlt;rw [wl_t (by exact goT 1 fun r=>r (sm d1)) he,hw,bH]
 induction hs with
 | nil =>
  intro n i acc o4 o5 h hn _;obtain ⟨n,rfl⟩:∃ m,n = m+1:=⟨n - 1,by simp at hn; omega⟩;have d1:=h.dlt0;exact ⟨i,o4,o5,by rw [wl_f (by exact goT 1 fun r=>r (sm d1)),bV]⟩
 | star k hh hs ih =>
  rename_i s out;intro n i acc o4 o5 h hn hz;obtain ⟨n,rfl⟩:∃ m,n = m+1:=⟨n - 1,by omega⟩;simp only [aI,aK,List.length_replicate,bY] at hn hz;have hl:=h.next.len';simp only [aK,List.length_replicate] at hl;obtain ⟨i',hi',hw⟩:=zmc (cf:=cf) (N:=N) (pc:=pc) (o1:=some (.bytes acc)) (o4:=some (.bytes [42])) (o5:=o5) (p:=p) (by omega) k N s (i+1) h.next hh (by omega);refine turn (o4':=some (.bytes [42])) (o5':=o5) h hi' ?_ (ih n i' _ _ _ hi' (by omega) (by simp; omega));have e1:=h.sl (by omega);have e2:vadd (.bytes acc) (.bytes [91,94,47,93,42]) = some (.bytes (acc++[91,94,47,93,42])):=zb3 (by simp; omega);exact gx 0x440010 fun r=>r e1 hw e2
 | any hs ih =>
  rename_i s out;intro n i acc o4 o5 h hn hz;obtain ⟨n,rfl⟩:∃ m,n = m+1:=⟨n - 1,by omega⟩;simp only [aI,aK,bY] at hn hz;refine turn (o4':=some (.bytes [63])) (o5':=o5) h h.next ?_ (ih n _ _ _ _ h.next (by omega) (by simp; omega));have e1:=h.sl (by omega);have e2:vadd (.bytes acc) (.bytes [91,94,47,93]) = some (.bytes (acc++[91,94,47,93])):=zb3 (by simp; omega);exact gx 0x1000010 fun r=>r e1 e2
 | esc c hs ih =>
  rename_i s out;intro n i acc o4 o5 h hn hz;obtain ⟨n,rfl⟩:∃ m,n = m+1:=⟨n - 1,by omega⟩;have l1:=zbj c;simp only [aI,aK,bY] at hn hz;refine turn (o4':=some (.bytes [92])) (o5':=o5) h h.next.next ?_ (ih n _ _ _ _ h.next.next (by omega) (by simp; omega));have hc:=hb c (h.mem (by simp));have e1:=h.sl (by omega);have e3:=h.next.sl (by omega);have d1:=h.next.dlt;have e4:cf 0 [.bytes [c]] = .ok (.bytes (esc1 c)):=by rw [C.esc _ (by simpa using hc) (by simp),zgf]
  have e2:vadd (.bytes acc) (.bytes (esc1 c)) = some (.bytes (acc++esc1 c)):=zb3 (by omega);exact gx 0x54040000010 fun r=>r e1 (sm d1) e3 e4 e2
 | set hB hs ih =>
  rename_i s s' t out;intro n i acc o4 o5 h hn hz;obtain ⟨n,rfl⟩:∃ m,n = m+1:=⟨n - 1,by omega⟩;simp only [aI,aK,bY] at hn hz;obtain ⟨i',hi',hc⟩:=C.set hp hb hpN h.next hB;have hl:s'.length < s.length:=by obtain ⟨_,_,_,_,_,_,_,_,h9⟩:=hB; exact h9
  refine turn (o4':=some (.bytes [91])) (o5':=some (.bytes t)) h hi' ?_ (ih n _ _ _ _ hi' (by omega) (by simp; omega));have e1:=h.sl (by omega);have e2:vadd (.bytes acc) (.bytes t) = some (.bytes (acc++t)):=zb3 (by omega);exact gx 0x11000000010 fun r=>r e1 hc e2
 | lit c h1 h2 h3 h4 hs ih =>
  rename_i s out;intro n i acc o4 o5 h hn hz;obtain ⟨n,rfl⟩:∃ m,n = m+1:=⟨n - 1,by omega⟩;have l1:=zbj c;simp only [aI,aK,bY] at hn hz;refine turn (o4':=some (.bytes [c])) (o5':=o5) h h.next ?_ (ih n _ _ _ _ h.next (by omega) (by simp; omega));have hc:=hb c (h.mem (by simp));have e1:=h.sl (by omega);have e4:cf 0 [.bytes [c]] = .ok (.bytes (esc1 c)):=by rw [C.esc _ (by simpa using hc) (by simp),zgf]
  have e2:vadd (.bytes acc) (.bytes (esc1 c)) = some (.bytes (acc++esc1 c)):=zb3 (by omega);exact gx 0x5041041010 fun r=>r e1 (lF h1) (lF h2) (lF h3) (lF h4) e4 e2
noncomputable def SegT (N:Nat) (s out:List Nat):Prop:=if s = [42] then out = [91,94,47,93,43] else Seg N s out
set_option tactic.hygienic true in
theorem zw2 {k:Nat} {s out:List Nat} (hp:s.length <= 100000) (hb:∀ x ∈ s,x < 256) (hpN:s.length < N) (h:SegT N s out) (ho:out.length <= 1000000):callF N fsAll 2 (k+4) 4 [.bytes s] = .ok (.bytes out):=by
 unfold SegT at h
 split at h
 ·rename_i h1;clear hpN ho hb hp;subst h1 h;exact goC 0 rfl fun r=>r
 ·rename_i h1;obtain ⟨i',o4,o5,hw⟩:=zli (cfOk (k:=k)) (pc:=pcOf N fsAll 2 (k+3)) hp hb hpN h N 0 [] none none At.zero hpN (by simpa using ho);have hlen:=zb6 (b:=s) (by omega);exact goC 0x4404 rfl fun r=>r (sF h1) hlen hw
end

open PySem PySem.W PyProof.Rows in
theorem At.toEnd {p s:List Nat} {i:Int} (h:At p i s) (hp:p.length <= 1000000):vsl (some (.int i)) none (.bytes p) = some (.bytes s):=by
 obtain ⟨n,rfl,h2⟩:=h.nat;show vslice (some (n:Int)) none (.bytes p) = _;rw [vslice,zas (cY hp (by decide)),At.cut_lo,h2]
inductive Spl (N:Nat):List Nat->List Nat->Option (List (List Nat))->Prop where
 | nil {cur:List Nat}:Spl N [] cur (some [cur])
 | esc (c:Nat) {s cur:List Nat} {r:Option (List (List Nat))}:c ≠ 47->Spl N s (cur++[92,c]) r->Spl N (92 :: c :: s) cur r
 | set {w s' t cur:List Nat} {r:Option (List (List Nat))}:Bset N (w++s') s' t->Spl N s' (cur++91 :: w) r->Spl N (91 :: (w++s')) cur r
 | bad {s cur:List Nat}:Bex N s->Spl N (91 :: s) cur none
 | slash {s cur:List Nat} {r:Option (List (List Nat))}:Spl N s [] r->Spl N (47 :: s) cur (r.map (cur :: ·))
 | lit (c:Nat) {s cur:List Nat} {r:Option (List (List Nat))}:c ≠ 92->c ≠ 91->c ≠ 47->Spl N s (cur++[c]) r->Spl N (c :: s) cur r
section
variable {cf:Nat->List V->R V} {N:Nat} {pc:V->V->List V->List V->R (V × List V × List V)} {p:List Nat} {neg:V}
noncomputable abbrev splσ (p:List Nat) (acc:List (List Nat)) (st i:Int) (o4 o5:Option V):List Slot:=[ns (some (.bytes p)),some (true,.lst (acc.map .bytes)),ns (some (.int st)),ns (some (.int i)),ns o4,ns o5]
noncomputable def SplRes (p:List Nat) (acc:List (List Nat)) (w:F):Option (List (List Nat))->Prop
 | some l=>Ex6 fun init last st i o4 o5=>And5 (l = init++[last]) (init.length <= 999990) (At p st last) (acc.length+init.length <= 999990) (w = .nx (splσ p (acc++init) st i o4 o5))
 | none=>w = .ex
theorem SplRes.cons {p:List Nat} {acc:List (List Nat)} {cur:List Nat} {w:F} {r:Option (List (List Nat))} (h:SplRes p (acc++[cur]) w r):SplRes p acc w (r.map (cur :: ·)):=by
 cases r with
 | none=>exact h
 | some l =>
  obtain ⟨init,last,st,i,o4,o5,rfl,h2,h3,h4,h5⟩:=h;refine ⟨cur :: init,last,st,i,o4,o5,rfl,?_,h3,?_,by rw [h5]; simp⟩
  ·simp at h4 |-; omega
  ·simp at h4 |-; omega
set_option tactic.hygienic true in
theorem zkl (C:CfOk N cf) (hp:p.length <= 100000) (hb:∀ x ∈ p,x < 256) (hpN:p.length < N) {s cur:List Nat} {r:Option (List (List Nat))} (hs:Spl N s cur r):∀ (n:Nat) (st i:Int) (acc:List (List Nat)) (o4 o5:Option V),At p st (cur++s)->At p i s->i = st+cur.length->s.length < n->acc.length+s.length <= 999980 ->
  SplRes p acc (whileN (wt cf c_split_segments_1) (exs N cf pc q_split_segments_1) n (splσ p acc st i o4 o5)) r:=by
 have hlen:=zb6 (b:=p) (by omega);have ht:∀ {c:Nat} {s:List Nat} {acc:List (List Nat)} {st i:Int} {o4 o5:Option V},At p i (c :: s)->wt cf c_split_segments_1 (splσ p acc st i o4 o5) = .ok true:=by
  intro c s acc st i o4 o5 h;have d1:=h.dlt;exact goT 5 fun r=>r hlen (sm d1)
 induction hs with
 | nil =>
  intro n st i acc o4 o5 h1 h2 h3 h4 h5;obtain ⟨n,rfl⟩:∃ m,n = m+1:=⟨n - 1,by simp at h4; omega⟩;have d1:=h2.dlt0;refine ⟨[],_,st,i,o4,o5,rfl,by simp,by simpa using h1,by simp at h5 |-; omega,?_⟩;rw [wl_f (by exact goT 5 fun r=>r hlen (sm d1)),bV]
 | esc c hc hs ih =>
  rename_i s cur r;intro n st i acc o4 o5 h1 h2 h3 h4 h5;simp only [aI] at h4 h5;obtain ⟨n,rfl⟩:∃ m,n = m+1:=⟨n - 1,by omega⟩;have a2:At p (i+2) s:=by have:=h2.next.next; rwa [show i+1+1 = i+2 by omega] at this
  rw (config:={}) [wl_t (σ':=splσ p acc st (i+2) (some (.bytes [92])) o5) (ht h2) ?_]
  ·exact ih n st (i+2) acc _ _ (by simpa using h1) a2 (by simp; omega) (by omega) (by omega)
  ·have e1:=h2.sl (by omega);have d1:=h2.next.dlt;exact gx 0x14010 fun r=>r e1 hlen (sm d1)
 | set hB hs ih =>
  rename_i w s' t cur r;intro n st i acc o4 o5 h1 h2 h3 h4 h5;simp only [aI,aK] at h4 h5;obtain ⟨n,rfl⟩:∃ m,n = m+1:=⟨n - 1,by omega⟩;obtain ⟨i',hi',hc⟩:=C.set hp hb hpN h2.next hB;have hl:=hi'.len;have hl2:=h2.next.len;simp only [aK] at hl2;rw (config:={}) [wl_t (σ':=splσ p acc st i' (some (.bytes [91])) (some (.bytes t))) (ht h2) ?_]
  ·exact ih n st i' acc _ _ (by simpa using h1) hi' (by simp; omega) (by omega) (by omega)
  ·have e1:=h2.sl (by omega);exact gx 0x1000010 fun r=>r e1 hc
 | bad hB =>
  intro n st i acc o4 o5 h1 h2 h3 h4 h5;simp only [aI] at h4 h5;obtain ⟨n,rfl⟩:∃ m,n = m+1:=⟨n - 1,by omega⟩;have hc:=C.setx hp hb hpN h2.next hB;have e1:=h2.sl (by omega);refine wl_x (ht h2) ?_;exact gx 0x1000010 fun r=>r e1 hc
 | slash hs ih =>
  rename_i s cur r;intro n st i acc o4 o5 h1 h2 h3 h4 h5;simp only [aI] at h4 h5;obtain ⟨n,rfl⟩:∃ m,n = m+1:=⟨n - 1,by omega⟩;refine SplRes.cons ?_;rw (config:={}) [wl_t (σ':=splσ p (acc++[cur]) (i+1) (i+1) (some (.bytes [47])) o5) (ht h2) ?_]
  ·exact ih n (i+1) (i+1) _ _ _ h2.next h2.next (by simp) (by omega) (by simp; omega)
  ·have e1:=h2.sl (by omega);have e2:vsl (some (.int st)) (some (.int i)) (.bytes p) = some (.bytes cur):=by
    have:=h1.cut (p:=p) (by omega) (k:=0) (m:=cur.length);rw [<- h3] at this
    simpa using this
   have lm:(acc.map V.bytes).length <= 1000000:=by simp; omega
   have rv:=zaj (f:=V.bytes) (l:=acc) (a:=cur);exact gx 0x150000010 fun r=>r e1 e2 lm rv
 | lit c hc1 hc2 hc3 hs ih =>
  rename_i s cur r;intro n st i acc o4 o5 h1 h2 h3 h4 h5;simp only [aI] at h4 h5;obtain ⟨n,rfl⟩:∃ m,n = m+1:=⟨n - 1,by omega⟩;rw (config:={}) [wl_t (σ':=splσ p acc st (i+1) (some (.bytes [c])) o5) (ht h2) ?_]
  ·exact ih n st (i+1) acc _ _ (by simpa using h1) h2.next (by simp; omega) (by omega) (by omega)
  ·have e1:=h2.sl (by omega);exact gx 0x410110 fun r=>r e1 (lF hc1) (lF hc2) (lF hc3)
theorem zw7 {s cur:List Nat} {r:Option (List (List Nat))} (hs:Spl N s cur r) (h:91 ∉ s):Ey2 (fun q l=>splitL 47 s = q :: l) (fun q l=>r = some ((cur++q) :: l)):=by
 induction hs with
 | nil=>exact ⟨[],[],rfl,by simp⟩
 | esc c hc hs ih =>
  simp only [aO,not_or] at h;obtain ⟨q,l,h1,h2⟩:=ih h.2.2;refine ⟨92 :: c :: q,l,?_,by simpa using h2⟩;simp [sp_c,h1,hc]
 | set=>simp at h
 | bad=>simp at h
 | slash hs ih =>
  simp only [aO,not_or] at h;obtain ⟨q,l,h1,h2⟩:=ih h.2;refine ⟨[],q :: l,by simp [sp_c,h1],by simp [h2]⟩
 | lit c hc1 hc2 hc3 hs ih =>
  simp only [aO,not_or] at h;obtain ⟨q,l,h1,h2⟩:=ih h.2;refine ⟨c :: q,l,by simp [sp_c,h1,hc3],by simpa using h2⟩
theorem zm9 {k:Nat} (hp:p.length <= 100000) (hb:∀ x ∈ p,x < 256) (hpN:p.length < N) {r:Option (List (List Nat))} (hs:Spl N p [] r) :
  callF N fsAll 2 (k+4) 5 [.bytes p] = (match r with | some l=>.ok (.lst (l.map .bytes)) | none=>.ex):=by
 by_cases h:91 ∈ p
 ·have key:=zkl (cfOk (k:=k)) (pc:=pcOf N fsAll 2 (k+3)) hp hb hpN hs N 0 0 [] none none (by simpa using At.zero) At.zero (by simp) hpN (by simp; omega);have hin:vin (.bytes [91]) (.bytes p) = some true:=sm (decide_eq_true h)
  cases r with
  | none =>
   exact (show callF _ _ _ _ _ _ = R.ex by exact goC 0x1004 rfl fun r=>r hin key)
  | some l =>
   obtain ⟨init,last,st,i,o4,o5,rfl,h2,h3,h4,key⟩:=key;have e1:=h3.toEnd (by omega);have lm:(init.map V.bytes).length <= 1000000:=by simp; omega
   have rv:=zaj (f:=V.bytes) (l:=init) (a:=last);exact (show callF _ _ _ _ _ _ = R.ok (.lst ((init++[last]).map .bytes)) by exact goC 0x151004 rfl fun r=>r hin key e1 lm rv)
 ·obtain ⟨q,l,h1,rfl⟩:=zw7 hs h;have hin:vin (.bytes [91]) (.bytes p) = some false:=sm (decide_eq_false h);have hsp:vsplit 47 (.bytes p) = some (.lst ((q :: l).map .bytes)):=by simp [vsplit,h1]; omega
  exact goC 0x104 rfl fun r=>r hin hsp
end

noncomputable def coll:Bool->List (List Nat)->List (List Nat)
 | O,[]=>[]
 | b,s :: r=>if s = [42,42]/\b = true then coll true r else s :: coll (decide (s = [42,42])) r
theorem co_n {b:Bool}:coll b [] = []:=rfl
theorem co_c {b:Bool} {s:List Nat} {r:List (List Nat)}:coll b (s :: r) = if s = [42,42]/\b = true then coll true r else s :: coll (decide (s = [42,42])) r:=rfl
noncomputable def prevS:List (List Nat)->Bool
 | acc=>decide (acc.getLast? = some [42,42])
section
variable {cf:Nat->List V->R V} {N:Nat} {pc:V->V->List V->List V->R (V × List V × List V)} {p:List Nat} {neg:V}
theorem zvs {acc:List (List Nat)} {x:List Nat} (h:(acc++[x]).length <= 1000000):vidx (.lst ((acc++[x]).map .bytes)) (.int (-1)) = some (.bytes x):=by
 show ifo? (((acc++[x]).map V.bytes).length <= 16777216) ((vat (-1) ((acc++[x]).map V.bytes).length).bind _) = _;simp only [ifo?,bQ,show (acc++[x]).length <= 16777216 by omega,if_true,vat];have hn:(acc++[x]).length = acc.length+1:=by simp
 rw [if_neg (by omega),if_pos (by rw [hn]; omega),hn];show ((acc++[x]).map V.bytes)[((-1:Int)+((acc.length+1:Nat):Int)).toNat]? = _;rw [show ((-1:Int)+((acc.length+1:Nat):Int)).toNat = acc.length by omega];simp
theorem zcy {o0:Option V}:∀ (l acc:List (List Nat)) (o2:Option V),acc.length+l.length <= 999990 ->
  ∃ o2',forL (bF N cf pc 2 q_collapse_double_asterisks_1) (l.map .bytes) [ns o0,some (true,.lst (acc.map .bytes)),ns o2] = .nx [ns o0,some (true,.lst ((acc++coll (prevS acc) l).map .bytes)),ns o2']
 | []=>fun acc o2 O=>⟨o2,by simp [zjh,co_n]⟩
 | s :: r=>by
  intro acc o2 hz;simp only [aI] at hz;have vt:vtruth (.lst (acc.map V.bytes)) = some (!acc.isEmpty):=by simp [vtruth]; omega
  have lm:(acc.map V.bytes).length <= 1000000:=by simp; omega
  by_cases hs:s = [42,42]/\prevS acc = true
  ·obtain ⟨rfl,hp⟩:=hs;obtain ⟨acc',x,rfl⟩:Ex2 fun a x=>acc = a++[x]:=by
    clear lm vt hz;rcases fO acc with rfl | ⟨a,x,rfl⟩
    ·simp [prevS] at hp
    ·exact ⟨a,x,by simp⟩
   have hx:x = [42,42]:=by simpa [prevS] using hp
   clear lm;subst hx;obtain ⟨o',h⟩:=zcy r (acc'++[[42,42]]) (some (.bytes [42,42])) (by omega);refine ⟨o',?_⟩;have e1:=zvs (acc:=acc') (x:=[42,42]) (by omega);have e2:(acc'++[[42,42]]).isEmpty = false:=by simp
   refine (zed (σ':=[ns o0,some (true,.lst ((acc'++[[42,42]]).map .bytes)),ns (some (.bytes [42,42]))]) (.inr ?_)).trans (h.trans ?_)
   ·have vt2:vtruth (.lst ((acc'++[[42,42]]).map V.bytes)) = some true:=by rw [vt,e2]; rfl
    exact gx 0x140 fun r=>r vt2 e1
   ·rw [show coll (prevS (acc'++[[42,42]])) ([42,42] :: r) = coll true r by rw [hp]; simp [co_c],hp]
  ·obtain ⟨o',h⟩:=zcy r (acc++[s]) (some (.bytes s)) (by simp; omega);refine ⟨o',?_⟩;have rv:=zaj (f:=V.bytes) (l:=acc) (a:=s);refine (zed (σ':=[ns o0,some (true,.lst ((acc++[s]).map .bytes)),ns (some (.bytes s))]) (.inl ?_)).trans (h.trans ?_)
   ·by_cases h1:s = [42,42]
    ·clear h;subst h1;rcases fO acc with rfl | ⟨a,x,rfl⟩
     ·exact gx 0x4000 fun r=>r rv
     ·rw [fP] at *;have e1:=zvs (acc:=a) (x:=x) (by simp at hz |-; omega);have e2:(a++[x]).isEmpty = false:=by simp
      have h2:¬ x = [42,42]:=fun z=>hs ⟨rfl,by simp [prevS,z]⟩;have vt2:vtruth (.lst ((a++[x]).map V.bytes)) = some true:=by rw [vt,e2]; rfl
      exact gx 0x50540 fun r=>r vt2 e1 (sF h2) lm rv
    ·exact gx 0x1404 fun r=>r (sF h1) lm rv
   ·have e3:prevS (acc++[s]) = decide (s = [42,42]):=by simp [prevS]
    rw [e3]
    conv=>rhs; rw [co_c]
    rw [if_neg hs];simp
theorem zuq {k:Nat} {l:List (List Nat)} (hl:l.length <= 100000):callF N fsAll 2 (k+1) 7 [.lst (l.map .bytes)] = .ok (.lst ((coll false l).map .bytes)):=by
 obtain ⟨o',h⟩:=zcy (cf:=callF N fsAll 2 k) (N:=N) (pc:=pcOf N fsAll 2 k) (o0:=some (.lst (l.map .bytes))) l [] none (by simp; omega);have e:prevS [] = false:=rfl;rw [e] at h;exact goC 0x50 rfl fun r=>r (it_l (l:=l.map V.bytes) (by simp; omega)) h
open PySem PySem.W PyProof.Rows in
theorem zlt {l:List V} {i:Nat} (hl:l.length <= 1000000) (hi:i <= l.length):vsl (some (.int (i:Int))) none (.lst l) = some (.lst (l.drop i)):=by
 show vslice (some (i:Int)) none (.lst l) = _;rw [vslice,zas (cY hl (by decide)),At.cut_lo]
noncomputable def dstar (i:Nat) (last:Bool):List Nat:=if last then [46,42] else if i = 0 then [40,63,58,46,42,47,41,63,63] else [40,63,58,91,94,47,93,43,47,41,42]
theorem zsk {k:Nat} {l:List (List Nat)} {i:Nat} (hl:l.length <= 100000) (hi:i < l.length) (hne:∀ s ∈ l,s ≠ []):callF N fsAll 2 (k+1) 6 [.lst (l.map .bytes),.int i] = .ok (.bytes (dstar i (decide (i+1 = l.length)))):=by
 have e1:vsl (some (.int ((i:Int)+1))) none (.lst (l.map V.bytes)) = some (.lst ((l.drop (i+1)).map V.bytes)):=by
  have:=zlt (l:=l.map V.bytes) (i:=i+1) (by rw [bQ]; omega) (by rw [bQ]; omega);rw [<- List.map_drop] at this;exact this
 have e2:vallE (.lst ((l.drop (i+1)).map V.bytes)) = some (.bool ((l.drop (i+1)).all (fun O=>O.isEmpty))):=by
  have:((l.drop (i+1)).map V.bytes).length <= 16777216:=by rw [bQ,fX]; omega
  simp only [vallE,this,if_true,allEmpty,zit,dN]
 by_cases h:i+1 = l.length
 ·have e3:l.drop (i+1) = []:=by rw [h]; simp
  rw [e3] at e1 e2;simp only [eG,List.all_nil] at e1 e2;rw [dstar,decide_eq_true h];exact goC 0x110 rfl fun r=>r e1 e2
 ·obtain ⟨x,r,hx⟩:Ex2 fun x r=>l.drop (i+1) = x :: r:=by
   cases hd:l.drop (i+1) with
   | nil=>have:=congrArg cS hd; simp at this; omega
   | cons x r=>exact ⟨x,r,rfl⟩
  have hxn:x.isEmpty = false:=by
   have:x ∈ l:=eU (i:=i+1) (by rw [hx]; simp);have:=hne x this;clear hx
   cases x
   ·exact absurd rfl this
   ·rfl
  rw [hx] at e1 e2;simp only [List.all_cons,hxn,Bool.false_and] at e2
  by_cases h0:i = 0
  ·subst h0;simp only [cN,Int.reduceAdd] at e1;rw [dstar,decide_eq_false h];exact goC 0x110 rfl fun r=>r e1 e2
  ·have h0':¬ (i:Int) = 0:=by omega
   rw [dstar,decide_eq_false h,if_neg aJ,if_neg h0];exact goC 0x4110 rfl fun r=>r e1 e2 (sF h0')
inductive Tr (N:Nat):Bool->Bool->List (List Nat)->List Nat->Prop where
 | nil {f b:Bool}:Tr N f b [] []
 | star {f b:Bool} {r:List (List Nat)} {out:List Nat}:Tr N false true r out ->
   Tr N f b ([42,42] :: r) ((if f || b then [] else [47])++((if r = [] then [46,42] else if f then [40,63,58,46,42,47,41,63,63] else [40,63,58,91,94,47,93,43,47,41,42])++out))
 | seg {f b:Bool} {s:List Nat} {r:List (List Nat)} {t out:List Nat}:s ≠ [42,42]->SegT N s t->Tr N false false r out->Tr N f b (s :: r) ((if f || b then [] else [47])++(t++out))
structure CfTr (N:Nat) (cf:Nat->List V->R V):Prop where
 esc:∀ b:List Nat,(∀ x ∈ b,x < 256)->b.length <= 400000->cf 0 [.bytes b] = .ok (.bytes (Internal.esc b))
 seg:∀ {s out:List Nat},s.length <= 100000->(∀ x ∈ s,x < 256)->s.length < N->SegT N s out->out.length <= 1000000->cf 4 [.bytes s] = .ok (.bytes out)
 dst:∀ {l:List (List Nat)} {i:Nat},l.length <= 100000->i < l.length->(∀ s ∈ l,s ≠ [])->cf 6 [.lst (l.map .bytes),.int i] = .ok (.bytes (dstar i (decide (i+1 = l.length))))
theorem cfTr {k:Nat}:CfTr N (callF N fsAll 2 (k+4)):=⟨fun b h1 h2=>zgr h1 h2,fun a b c d e=>zw2 a b c d e,fun a b c=>zsk a b c⟩
theorem zbu {l:List V} {i:Nat} {d:V} (hl:l.length <= 1000000) (h:l[i]? = some d):vidx (.lst l) (.int i) = some d:=by
 obtain ⟨hi,he⟩:=List.getElem?_eq_some_iff.mp h;simp [vidx,kdI,ifo?,vat,show l.length <= 16777216 by omega,hi,he]
noncomputable abbrev trσ (p:List Nat) (acc:List Nat) (l:List (List Nat)) (i:Nat) (o4 o5:Option V):List Slot:=[ns (some (.bytes p)),ns (some (.bytes acc)),ns (some (.lst (l.map .bytes))),ns (some (.int i)),ns o4,ns o5]
set_option tactic.hygienic true in
theorem znp (C:CfTr N cf) {l:List (List Nat)} (hl:l.length <= 100000) (hne:∀ s ∈ l,s ≠ []) (hb:∀ s ∈ l,s.length <= 100000/\s.length < N/\∀ x ∈ s,x < 256) {f b:Bool} {r:List (List Nat)} {out:List Nat} (h:Tr N f b r out) :
  ∀ (n:Nat) (pre:List (List Nat)) (acc:List Nat) (o4 o5:Option V),l = pre++r->f = decide (pre = [])->b = prevS pre->r.length < n->acc.length+out.length <= 900000 ->
   Ex3 fun i' o4' o5'=>whileN (wt cf c_translate_1) (exs N cf pc q_translate_1) n (trσ p acc l pre.length o4 o5) = .nx (trσ p (acc++out) l i' o4' o5'):=by
 have hlen:vb1 .len (.lst (l.map V.bytes)) = some (.int l.length):=by rw [zd1 (by simp; omega)]; simp
 have ht:∀ {pre r:List (List Nat)} {s:List Nat} {acc:List Nat} {o4 o5:Option V},l = pre++s :: r->wt cf c_translate_1 (trσ p acc l pre.length o4 o5) = .ok true:=by
  intro pre r s acc o4 o5 h;have d1:decide ((pre.length:Int) < (l.length:Int)) = true:=by rw [h]; simp; omega
  exact goT 5 fun r=>r hlen (sm d1)
 have e47:cf 0 [.bytes [47]] = .ok (.bytes [47]):=by rw [C.esc [47] (by simp) (by simp)]; rfl
 have step:∀ {pre r:List (List Nat)} {s:List Nat} {acc:List Nat} {o4 o5:Option V} {X:MSs},l = pre++s :: r->acc.length+1 <= 1000000 ->
   exs N cf pc (.cons (.asg 4 (.idx (.nm 2) (.nm 3))) (.cons (.ite (.bool true (.cmp .gt (.nm 3) (.cst (.int 0))) (.cons (.cmp .ne (.idx (.nm 2) (.bin .sub (.nm 3) (.cst (.int 1)))) (.cst (.bytes [42,42]))) .nil)) (.cons (.aug 1 (.call 0 (.cons (.cst (.bytes [47])) .nil))) .nil) .nil) X)) (trσ p acc l pre.length o4 o5)
    = exs N cf pc X (trσ p (acc++if decide (pre = []) || prevS pre then [] else [47]) l pre.length (some (.bytes s)) o5):=by
  intro pre r s acc o4 o5 X h hz;have e1:vidx (.lst (l.map V.bytes)) (.int pre.length) = some (.bytes s):=zbu (by simp; omega) (by rw [h]; simp);refine pre2 ?_;rcases fO pre with rfl | ⟨a,x,rfl⟩
  ·simp only [bY,cN] at e1;rw [show (decide (([]:List (List Nat)) = []) || prevS []) = true from rfl,if_pos rfl,bV];exact gx 4 fun r=>r e1
  ·rw [fP] at *;have e2:vidx (.lst (l.map V.bytes)) (.int (((a++[x]).length:Int) - 1)) = some (.bytes x):=by
    rw [show (((a++[x]).length:Nat):Int) - 1 = (a.length:Nat) by simp];exact zbu (by simp; omega) (by rw [h]; simp)
   have d1:decide ((0:Int) < ((a++[x]).length:Int)) = true:=by simp
   have d2:¬ (a++[x] = []):=by simp
   have e3:vadd (.bytes acc) (.bytes [47]) = some (.bytes (acc++[47])):=zb3 (by simp; omega);generalize hq:a++[x] = q at *
   by_cases hx:x = [42,42]
   ·have e4:prevS q = true:=by rw [<- hq]; simp [prevS,hx]
    subst hx;rw [e4,Bool.or_true,if_pos rfl,bV];exact gx 0x1044 fun r=>r e1 (sm d1) e2
   ·have e4:prevS q = false:=by rw [<- hq]; simp [prevS,hx]
    rw [e4,Bool.or_false,if_neg (by simpa using d2)];exact gx 0x505044 fun r=>r e1 (sm d1) e2 (nF hx) e47 e3
 induction h with
 | nil =>
  intro n pre acc o4 o5 h1 h2 h3 h4 h5;obtain ⟨n,rfl⟩:∃ m,n = m+1:=⟨n - 1,by simp at h4; omega⟩;have d1:decide ((pre.length:Int) < (l.length:Int)) = false:=by rw [h1]; simp
  exact ⟨pre.length,o4,o5,by rw [wl_f (by exact goT 5 fun r=>r hlen (sm d1)),bV]⟩
 | star hr ih =>
  rename_i f b r out;intro n pre acc o4 o5 h1 h2 h3 h4 h5;simp only [aI] at h4;obtain ⟨n,rfl⟩:∃ m,n = m+1:=⟨n - 1,by omega⟩;subst h2 h3;generalize hsp:(if (decide (pre = []) || prevS pre) = true then ([]:List Nat) else [47]) = sp at *;have hsp1:sp.length <= 1:=by rw [<- hsp]; split <;> simp
  have hd:=C.dst (l:=l) (i:=pre.length) hl (by rw [h1]; simp) hne;have hdec:decide (pre.length+1 = l.length) = decide (r = []):=by
   rw [h1]; cases r <;> simp
  rw [hdec] at hd;have hde:dstar pre.length (decide (r = [])) = (if r = [] then [46,42] else if decide (pre = []) = true then [40,63,58,46,42,47,41,63,63] else [40,63,58,91,94,47,93,43,47,41,42]):=by
   unfold dstar
   by_cases hr:r = [] <;> by_cases hp:pre = [] <;> simp [hr,hp]
  rw [<- hde] at h5 |-;generalize hD:dstar pre.length (decide (r = [])) = D at *;simp only [aK] at h5;have e3:vadd (.bytes (acc++sp)) (.bytes D) = some (.bytes (acc++sp++D)):=zb3 (by simp; omega)
  by_cases hr0:r = []
  ·clear ih h4;subst hr0
   cases hr
   have hD2:D = [46,42]:=by rw [<- hD]; rfl
   clear hD hde;subst hD2;refine ⟨pre.length,some (.bytes [42,42]),some (.bytes [46,42]),?_⟩;rw (config:={}) [wl_b (σ':=trσ p (acc++(sp++([46,42]++[]))) l pre.length (some (.bytes [42,42])) (some (.bytes [46,42]))) (ht h1) ?_];refine (step h1 (by omega)).trans ?_;rw [hsp];rw [bH] at e3;exact gx 0x1100 fun r=>r hd e3
  ·have hD2:¬ D = [46,42]:=by
    rw [<- hD,dstar];simp only [hr0]
    by_cases hp:pre.length = 0 <;> simp [hp]
   obtain ⟨i',q4,q5,hw⟩:=ih n (pre++[[42,42]]) (acc++sp++D) (some (.bytes [42,42])) (some (.bytes D)) (by rw [h1]; simp) (by simp) (by simp [prevS]) (by omega) (by simp; omega);refine ⟨i',q4,q5,?_⟩;rw (config:={}) [wl_t (σ':=trσ p (acc++sp++D) l (pre++[[42,42]]).length (some (.bytes [42,42])) (some (.bytes D))) (ht h1) ?_,hw]
   ·simp only [bH]
   ·refine (step h1 (by omega)).trans ?_;rw [hsp];have ei:vadd (.int pre.length) (.int 1) = some (.int (pre++[[42,42]]).length):=by rw [zqq,aK]; rfl
    exact gx 0x411100 fun r=>r hd e3 (sF hD2) ei
 | seg hs hT hr ih =>
  rename_i f b s r t out;intro n pre acc o4 o5 h1 h2 h3 h4 h5;simp only [aI] at h4;obtain ⟨n,rfl⟩:∃ m,n = m+1:=⟨n - 1,by omega⟩;subst h2 h3;generalize hsp:(if (decide (pre = []) || prevS pre) = true then ([]:List Nat) else [47]) = sp at *;have hsp1:sp.length <= 1:=by rw [<- hsp]; split <;> simp
  simp only [aK] at h5;have e3:vadd (.bytes (acc++sp)) (.bytes t) = some (.bytes (acc++sp++t)):=zb3 (by simp; omega);obtain ⟨b1,b2,b3⟩:=hb s (by rw [h1]; simp);have e4:=C.seg b1 b3 b2 hT (by omega);obtain ⟨i',q4,q5,hw⟩:=ih n (pre++[s]) (acc++sp++t) (some (.bytes s)) o5 (by rw [h1]; simp) (by simp) (by simp [prevS,hs]) (by omega) (by simp; omega);refine ⟨i',q4,q5,?_⟩;rw (config:={}) [wl_t (σ':=trσ p (acc++sp++t) l (pre++[s]).length (some (.bytes s)) o5) (ht h1) ?_,hw]
  ·simp only [bH]
  ·refine (step h1 (by omega)).trans ?_;rw [hsp];have ei:vadd (.int pre.length) (.int 1) = some (.int (pre++[s]).length):=by rw [zqq,aK]; rfl
   exact gx 0x4504 fun r=>r (sF hs) e4 e3 ei
theorem zis {k:Nat} {p:List Nat} (hp:p.length <= 100000) (hb:∀ x ∈ p,x < 256) (hpN:p.length < N) (h2:p ≠ [42,42]) {l:List (List Nat)} {out:List Nat} (hs:Spl N p [] (some l)) (hl:l.length <= 100000) (hlN:l.length < N) (hne:∀ s ∈ l,s ≠ [])
  (hlb:∀ s ∈ l,s.length <= 100000/\s.length < N/\∀ x ∈ s,x < 256) (ht:Tr N true false (coll false l) out) (ho:out.length <= 900000) (hc:∀ s ∈ coll false l,s ∈ l) (hcl:(coll false l).length <= l.length) :
  callF N fsAll 2 (k+6) 9 [.bytes p] = .ok (.bytes out):=by
 have e1:callF N fsAll 2 (k+4+1) 8 [.bytes p] = .ok (.bytes out):=by
  have e5:=zm9 (k:=k) hp hb hpN hs;have e7:callF N fsAll 2 (k+3+1) 7 [.lst (l.map .bytes)] = .ok (.lst ((coll false l).map .bytes)):=zuq hl;obtain ⟨i',q4,q5,hw⟩:=znp (cf:=callF N fsAll 2 (k+4)) (pc:=pcOf N fsAll 2 (k+4)) (p:=p) cfTr (l:=coll false l) (by omega) (fun s hs=>hne s (hc s hs)) (fun s hs=>hlb s (hc s hs)) ht N [] [] none none rfl rfl rfl (by omega) (by simpa using ho);exact goC 0x41404 rfl fun r=>r (sF h2) e5 e7 hw
 exact goC 4 rfl fun r=>r e1
theorem zh0 {k:Nat}:callF N fsAll 2 (k+6) 9 [.bytes [42,42]] = .ok (.bytes [46,42]):=by
 have e1:callF N fsAll 2 (k+4+1) 8 [.bytes [42,42]] = .ok (.bytes [46,42]):=by
  exact goC 0 rfl fun r=>r
 exact goC 4 rfl fun r=>r e1
theorem zhl {k:Nat} {p:List Nat} (hp:p.length <= 100000) (hb:∀ x ∈ p,x < 256) (hpN:p.length < N) (h2:p ≠ [42,42]) (hs:Spl N p [] none):callF N fsAll 2 (k+6) 9 [.bytes p] = .ex:=by
 have e1:callF N fsAll 2 (k+4+1) 8 [.bytes p] = .ex:=by
  have e5:=zm9 (k:=k) hp hb hpN hs;exact goC 0x404 rfl fun r=>r (sF h2) e5
 exact goC 4 rfl fun r=>r e1
end

set_option tactic.hygienic true in
theorem At.next2 {p s:List Nat} {i:Int} {a b:Nat} (h:At p i (a :: b :: s)):At p (i+2) s:=by have:=h.next.next; rwa [show i+1+1 = i+2 by omega] at this
set_option tactic.hygienic true in
theorem At.next3 {p s:List Nat} {i:Int} {a b c:Nat} (h:At p i (a :: b :: c :: s)):At p (i+3) s:=by have:=h.next2.next; rwa [show i+2+1 = i+3 by omega] at this
set_option tactic.hygienic true in
theorem At.next4 {p s:List Nat} {i:Int} {a b c d:Nat} (h:At p i (a :: b :: c :: d :: s)):At p (i+4) s:=by have:=h.next3.next; rwa [show i+3+1 = i+4 by omega] at this
noncomputable def hx (a:Nat):Int:=if a < 58 then (a:Int) - 48 else (a:Int) - 87
noncomputable def sgn (a:Nat):Int:=if a = 116 then 9 else if a = 110 then 10 else if a = 118 then 11 else if a = 102 then 12 else if a = 114 then 13 else a
inductive Sg:List Nat->Int->List Nat->Prop where
 | lit (c:Nat) {r:List Nat}:c ≠ 92->Sg (c :: r) c r
 | hex (a b:Nat) {r:List Nat}:Sg (92 :: 120 :: a :: b :: r) (16 * hx a+hx b) r
 | esc (x:Nat) {r:List Nat}:x ≠ 120->Sg (92 :: x :: r) (sgn x) r
inductive Cl:List Nat->List (Int × Int)->List Nat->Prop where
 | nil {r:List Nat}:Cl (93 :: r) [] r
 | one {a:Nat} {s:List Nat} {c:Int} {d:Nat} {r u:List Nat} {l:List (Int × Int)}:a ≠ 93->Sg (a :: s) c (d :: r)->d ≠ 45->Cl (d :: r) l u->Cl (a :: s) ((c,c) :: l) u
 | rng {a:Nat} {s:List Nat} {c d:Int} {r r2 u:List Nat} {l:List (Int × Int)}:a ≠ 93->Sg (a :: s) c (45 :: r)->Sg r d r2->Cl r2 l u->Cl (a :: s) ((c,d) :: l) u
inductive Cls:List Nat->Bool->List (Int × Int)->List Nat->Prop where
 | neg {s:List Nat} {l:List (Int × Int)} {u:List Nat}:Cl s l u->Cls (94 :: s) true l u
 | pos {a:Nat} {s:List Nat} {l:List (Int × Int)} {u:List Nat}:a ≠ 94->Cl (a :: s) l u->Cls (a :: s) false l u
noncomputable def rgV (p:Int × Int):V:=.tup [.int p.1,.int p.2]
inductive A where
 | none | cls (neg:Bool) (rs:List (Int × Int))
noncomputable def clsV (neg:Bool) (rs:List (Int × Int)):V:=.tup [.bool neg,.lst (rs.map rgV)]
noncomputable def A.v:A->V
 | .none=>.none
 | .cls neg rs=>clsV neg rs
noncomputable abbrev It1:=A × Bool × Bool
noncomputable def It1.v (t:It1):V:=.tup [t.1.v,.bool t.2.1,.bool t.2.2]
inductive B where
 | a (x:A) | grp (l:List It1)
noncomputable def B.v:B->V
 | .a x=>x.v
 | .grp l=>.lst (l.map It1.v)
noncomputable abbrev It2:=B × Bool × Bool
noncomputable def It2.v (t:It2):V:=.tup [t.1.v,.bool t.2.1,.bool t.2.2]
inductive PA:List Nat->A->List Nat->Prop where
 | none {r:List Nat}:PA (40 :: 63 :: 33 :: 41 :: r) .none r
 | cls {s:List Nat} {neg:Bool} {rs:List (Int × Int)} {r:List Nat}:Cls s neg rs r->PA (91 :: s) (.cls neg rs) r
 | dot {r:List Nat}:PA (46 :: r) (.cls true []) r
 | lit {a:Nat} {s:List Nat} {c:Int} {r:List Nat}:a ≠ 40->a ≠ 41->a ≠ 91->a ≠ 46->Sg (a :: s) c r->PA (a :: s) (.cls false [(c,c)]) r
inductive Fo:List Nat->Bool->Bool->List Nat->Prop where
 | none {r:List Nat}:r.head? ≠ some 42->r.head? ≠ some 43->r.head? ≠ some 63->Fo r false false r
 | star {r:List Nat}:r.head? ≠ some 63->Fo (42 :: r) true true r
 | plus {r:List Nat}:r.head? ≠ some 63->Fo (43 :: r) false true r
 | opt {r:List Nat}:Fo (63 :: 63 :: r) true false r
inductive P1:List Nat->List It1->List Nat->Prop where
 | nil {s:List Nat}:s = [] \/ s.head? = some 41->P1 s [] s
 | cons {s r r' u:List Nat} {a:A} {o m:Bool} {l:List It1}:PA s a r->Fo r o m r'->P1 r' l u->P1 s ((a,o,m) :: l) u
inductive P2:List Nat->List It2->List Nat->Prop where
 | nil {s:List Nat}:s = [] \/ s.head? = some 41->P2 s [] s
 | atom {s r r' u:List Nat} {a:A} {o m:Bool} {l:List It2}:PA s a r->Fo r o m r'->P2 r' l u->P2 s ((.a a,o,m) :: l) u
 | grp {s r r' u:List Nat} {g:List It1} {o m:Bool} {l:List It2}:s.head? ≠ some 33->P1 s g (41 :: r)->Fo r o m r'->P2 r' l u->P2 (40 :: 63 :: 58 :: s) ((.grp g,o,m) :: l) u
section
variable {cf:Nat->List V->R V} {N:Nat} {pc:V->V->List V->List V->R (V × List V × List V)} {p:List Nat}
theorem zt6 {k a:Nat}:callF N fsAll 2 (k+1) 22 [.int a] = .ok (.int (hx a)):=by
 by_cases h:a < 58
 ·rw [hx,if_pos h];have d:(a:Int) < 58:=cH.mpr h;exact goC 4 rfl fun r=>r (sT d)
 ·rw [hx,if_neg h];have d:¬ (a:Int) < 58:=mt cH.mp h;exact goC 4 rfl fun r=>r (sF d)
set_option tactic.hygienic true in
theorem zl3 {k:Nat} {s r:List Nat} {c:Int} {i:Int} (hp:p.length <= 999990) (h:At p i s) (hs:Sg s c r) :
  ∃ i',At p i' r/\callF N fsAll 2 (k+2) 23 [.bytes p,.int i] = .ok (.tup [.int c,.int i']):=by
 cases hs with
 | lit c hc =>
  refine ⟨i+1,h.next,?_⟩;have e1:=h.ix (by omega);have hc':¬ (c:Int) = 92:=by omega
  exact goC 0x414 rfl fun r=>r e1 (nF hc') e1
 | hex a b =>
  refine ⟨i+4,h.next4,?_⟩;have e1:=h.ix (by omega);have e2:=h.next.ix (by omega);have e3:=h.next2.ix (by omega);have e4:=h.next3.ix (by omega);have c1:=zt6 (N:=N) (k:=k) (a:=a);have c2:=zt6 (N:=N) (k:=k) (a:=b);have m1:vbin .mul (.int 16) (.int (hx a)) = some (.int (16 * hx a)):=zww (by decide);exact goC 0x515001004 rfl fun r=>r e1 e2 e3 c1 m1 e4 c2
 | esc x hx =>
  refine ⟨i+2,h.next2,?_⟩;have e1:=h.ix (by omega);have e2:=h.next.ix (by omega);have hx':¬ (x:Int) = 120:=by omega
  have g:signOf (.int x) = some (.int (sgn x)):=by
   unfold signOf sgn;have q:∀ n:Nat,((x:Int) = (n:Int)) ↔ x = n:=fun n=>by omega
   have q1:=q 116; have q2:=q 110; have q3:=q 118; have q4:=q 102; have q5:=q 114;simp only [cN] at q1 q2 q3 q4 q5;simp only [q1,q2,q3,q4,q5]
  exact goC 0x411004 rfl fun r=>r e1 e2 (sF hx') g
theorem Sg.len {s r:List Nat} {c:Int} (h:Sg s c r):r.length < s.length:=by
 cases h <;> simp <;> omega
noncomputable def SgOk (p:List Nat) (cf:Nat->List V->R V):Prop:=∀ {s r:List Nat} {c i:Int},At p i s->Sg s c r->∃ i',At p i' r/\cf 23 [.bytes p,.int i] = .ok (.tup [.int c,.int i'])
set_option tactic.hygienic true in
theorem zdv (C:SgOk p cf) (hp:p.length <= 999990) {neg:V} {s u:List Nat} {l:List (Int × Int)} (hs:Cl s l u):∀ (n:Nat) (i:Int) (acc:List (Int × Int)) (o4 o5:Option V),At p i s->s.length <= n->acc.length+s.length <= 999990 ->
  Ey3 (fun i' o4' o5'=>At p i' (93 :: u)) (fun i' o4' o5'=>whileN (wt cf c_law_class_1) (exs N cf pc q_law_class_1) n [ns (some (.bytes p)),ns (some (.int i)),ns (some neg),some (true,.lst (acc.map rgV)),ns o4,ns o5]
   = .nx [ns (some (.bytes p)),ns (some (.int i')),ns (some neg),some (true,.lst ((acc++l).map rgV)),ns o4',ns o5']):=by
 induction hs with
 | nil =>
  intro n i acc o4 o5 h hn hz;obtain ⟨n,rfl⟩:∃ m,n = m+1:=⟨n - 1,by simp at hn; omega⟩;have e1:=h.ix (by omega);exact ⟨i,o4,o5,h,by rw [wl_f (by exact goT 1 fun r=>r e1),bV]⟩
 | one ha hs hd hl ih =>
  rename_i a s c d r u l;intro n i acc o4 o5 h hn hz;have hlen:=hs.len;obtain ⟨n,rfl⟩:∃ m,n = m+1:=⟨n - 1,by simp at hn; omega⟩;obtain ⟨i2,h2,c2⟩:=C h hs;obtain ⟨i',q4,q5,h3,hw⟩:=ih n i2 (acc++[(c,c)]) (some (.int c)) (some (.int c)) h2 (by simp at hn hlen |-; omega) (by simp at hz hlen |-; omega);refine ⟨i',q4,q5,h3,?_⟩;have e1:=h.ix (by omega);have e2:=h2.ix (by omega);have ha':¬ (a:Int) = 93:=by omega
  have hd':¬ (d:Int) = 45:=by omega
  have lm:(acc.map rgV).length <= 1000000:=by simp; omega
  refine (wl_t (σ':=[ns (some (.bytes p)),ns (some (.int i2)),ns (some neg),some (true,.lst ((acc++[(c,c)]).map rgV)),ns (some (.int c)),ns (some (.int c))]) ?_ ?_).trans (hw.trans (by rw [bH]; rfl))
  ·exact goT 5 fun r=>r e1 (nF ha')
  ·have rv:=zaj (f:=rgV) (l:=acc) (a:=(c,c));exact gx 0x50504 fun r=>r c2 e2 (sF hd') lm rv
 | rng ha hs hs2 hl ih =>
  rename_i a s c d r r2 u l;intro n i acc o4 o5 h hn hz;have hlen:=hs.len;have hlen2:=hs2.len;simp only [aI] at hlen;obtain ⟨n,rfl⟩:∃ m,n = m+1:=⟨n - 1,by simp at hn; omega⟩;obtain ⟨i2,h2,c2⟩:=C h hs;obtain ⟨i3,h3,c3⟩:=C h2.next hs2;obtain ⟨i',q4,q5,h4,hw⟩:=ih n i3 (acc++[(c,d)]) (some (.int c)) (some (.int d)) h3 (by simp at hn hlen |-; omega) (by simp at hz hlen |-; omega);refine ⟨i',q4,q5,h4,?_⟩;have e1:=h.ix (by omega);have e2:=h2.ix (by omega);have ha':¬ (a:Int) = 93:=by omega
  have lm:(acc.map rgV).length <= 1000000:=by simp; omega
  refine (wl_t (σ':=[ns (some (.bytes p)),ns (some (.int i3)),ns (some neg),some (true,.lst ((acc++[(c,d)]).map rgV)),ns (some (.int c)),ns (some (.int d))]) ?_ ?_).trans (hw.trans (by rw [bH]; rfl))
  ·exact goT 5 fun r=>r e1 (nF ha')
  ·have rv:=zaj (f:=rgV) (l:=acc) (a:=(c,d));exact gx 0x1440104 fun r=>r c2 e2 c3 lm rv
set_option tactic.hygienic true in
theorem znl {k:Nat} (hp:p.length <= 999990) (hpN:p.length < N) {s u:List Nat} {neg:Bool} {l:List (Int × Int)} {i:Int} (h:At p i s) (hs:Cls s neg l u) :
  ∃ i',At p i' u/\callF N fsAll 2 (k+3) 24 [.bytes p,.int i] = .ok (.tup [clsV neg l,.int i']):=by
 have C:SgOk p (callF N fsAll 2 (k+2)):=fun h hs=>zl3 hp h hs;have hl:=h.len'
 cases hs with
 | neg hs =>
  rename_i s;obtain ⟨i',q4,q5,h3,hw⟩:=zdv (N:=N) C (pc:=pcOf N fsAll 2 (k+2)) hp (neg:=.bool true) hs N (i+1) [] none none h.next (by simp at hl; omega) (by simp at hl |-; omega);refine ⟨i'+1,h3.next,?_⟩;have e1:=h.ix (by omega);exact goC 0x40004 rfl fun r=>r e1 hw
 | pos ha hs =>
  rename_i a s;obtain ⟨i',q4,q5,h3,hw⟩:=zdv (N:=N) C (pc:=pcOf N fsAll 2 (k+2)) hp (neg:=.bool false) hs N i [] none none h (by simp at hl |-; omega) (by simp at hl |-; omega);refine ⟨i'+1,h3.next,?_⟩;have e1:=h.ix (by omega);have ha':¬ (a:Int) = 94:=by omega
  exact goC 0x4014 rfl fun r=>r e1 (sF ha') hw
end

noncomputable def it_ch:MS:=match q_law_items_1 with | .cons s O=>s | .nil=>.brk
noncomputable def it_tl:MSs:=match q_law_items_1 with | .cons O X=>X | .nil=>.nil
theorem zth:q_law_items_1 = .cons it_ch it_tl:=rfl
section
variable {cf:Nat->List V->R V} {N:Nat} {pc:V->V->List V->List V->R (V × List V × List V)} {p:List Nat}
theorem At.four {s:List Nat} {i:Int} {a:Nat} (h:At p i (a :: s)) (hp:p.length <= 1000000):vsl (some (.int i)) (some (.int (i+4))) (.bytes p) = some (.bytes (a :: s.take 3)):=by
 have:=h.cut hp (k:=0) (m:=4)
 simpa using this
theorem At.three {s:List Nat} {i:Int} {a:Nat} (h:At p i (a :: s)) (hp:p.length <= 1000000):vsl (some (.int i)) (some (.int (i+3))) (.bytes p) = some (.bytes (a :: s.take 2)):=by
 have:=h.cut hp (k:=0) (m:=3)
 simpa using this
noncomputable def ClsOk (p:List Nat) (cf:Nat->List V->R V):Prop:=∀ {s r:List Nat} {neg:Bool} {l:List (Int × Int)} {i:Int},At p i s->Cls s neg l r->∃ i',At p i' r/\cf 24 [.bytes p,.int i] = .ok (.tup [clsV neg l,.int i'])
noncomputable def GrpOk (p:List Nat) (cf:Nat->List V->R V):Prop:=∀ {s r:List Nat} {g:List It1} {i:Int},At p i s->P1 s g (41 :: r)->∃ i',At p i' (41 :: r)/\cf 25 [.bytes p,.int i] = .ok (.tup [.lst (g.map It1.v),.int i'])
noncomputable abbrev itσ (p:List Nat) (i:Int) (acc:List V) (o3 o4 o5 o6:Option V):List Slot:=[ns (some (.bytes p)),ns (some (.int i)),some (true,.lst acc),ns o3,ns o4,ns o5,ns o6]
set_option tactic.hygienic true in
theorem zqj (S:SgOk p cf) (C:ClsOk p cf) (hp:p.length <= 999990) {s r:List Nat} {a:A} (hs:PA s a r) {i:Int} {acc:List V} {o3 o4 o5 o6:Option V} (h:At p i s) :
  Ey2 (fun i' o4'=>At p i' r) (fun i' o4'=>ex1 N cf pc it_ch (itσ p i acc o3 o4 o5 o6) = .nx (itσ p i' acc (some a.v) o4' o5 o6)):=by
 cases hs with
 | none =>
  refine ⟨i+4,o4,h.next4,?_⟩;have e1:=h.four (by omega);simp only [dB,dU] at e1;exact go1 4 fun r=>r e1
 | cls hs =>
  rename_i s neg rs;obtain ⟨i',h',c⟩:=C h.next hs;refine ⟨i',o4,h',?_⟩;have e1:=h.four (by omega);have d1:decide (91 :: s.take 3 = [40,63,33,41]) = false:=by simp
  have e2:=h.ix (by omega);exact go1 0x10040404 fun r=>r e1 e2 e2 c
 | dot =>
  refine ⟨i+1,o4,h.next,?_⟩;have e1:=h.four (by omega);have d1:decide (46 :: r.take 3 = [40,63,33,41]) = false:=by simp
  have e2:=h.ix (by omega);exact go1 0x4040404 fun r=>r e1 e2 e2 e2
 | lit h1 h2 h3 h4 hs =>
  rename_i a s c;obtain ⟨i',h',c1⟩:=S h hs;refine ⟨i',some (.int c),h',?_⟩;have e1:=h.four (by omega);have d1:decide (a :: s.take 3 = [40,63,33,41]) = false:=by simp [h1]
  have e2:=h.ix (by omega);have g1:¬ (a:Int) = 40:=by omega
  have g2:¬ (a:Int) = 91:=by omega
  have g3:¬ (a:Int) = 46:=by omega
  exact go1 0x414141414 fun r=>r e1 (sm d1) e2 (sF g1) e2 (sF g2) e2 (sF g3) c1
set_option tactic.hygienic true in
theorem zsw (G:GrpOk p cf) (hp:p.length <= 999990) {s r:List Nat} {g:List It1} (hh:s.head? ≠ some 33) (hs:P1 s g (41 :: r)) {i:Int} {acc:List V} {o3 o4 o5 o6:Option V} (h:At p i (40 :: 63 :: 58 :: s)) :
  Ey2 (fun i' o4'=>At p i' r) (fun i' o4'=>ex1 N cf pc it_ch (itσ p i acc o3 o4 o5 o6) = .nx (itσ p i' acc (some (B.grp g).v) o4' o5 o6)):=by
 refine byC fun hG=>?_;obtain ⟨i',h',c⟩:=G h.next3 hs;refine hG ?_;clear hG;refine ⟨i'+1,o4,h'.next,?_⟩;have e1:=h.four (by omega);have e3:=h.three (by omega);have d1:decide (40 :: (63 :: 58 :: s).take 3 = [40,63,33,41]) = false:=by simp
 have e2:=h.ix (by omega);simp only [dB,dU] at e3;exact go1 0x10100404 fun r=>r e1 e2 e3 c
set_option tactic.hygienic true in
theorem zgh (hp:p.length <= 999990) {s r:List Nat} {o m:Bool} (hs:Fo s o m r) {i:Int} {acc:List V} {it:V} {o4 o5 o6:Option V} (h:At p i s) (hz:acc.length <= 1000000) :
  Ey3 (fun i' o5' o6'=>At p i' r) (fun i' o5' o6'=>exs N cf pc it_tl (itσ p i acc (some it) o4 o5 o6) = .nx (itσ p i' (acc++[.tup [it,.bool o,.bool m]]) (some it) o4 o5' o6')):=by
 have hlen:=zb6 (b:=p) (by omega)
 cases hs with
 | none h1 h2 h3 =>
  cases s with
  | nil =>
   refine ⟨i,some (.int 0),some (.bool false),h,?_⟩;have d1:=h.dlt0;exact gx 0x100000014 fun r=>r hlen (sm d1) hz
  | cons c s =>
   refine ⟨i,some (.int c),some (.bool false),h,?_⟩;have d1:=h.dlt;have e1:=h.ix (by omega);have g1:¬ (c:Int) = 42:=fun z=>h1 (by simp; omega);have g2:¬ (c:Int) = 43:=fun z=>h2 (by simp; omega);have g3:¬ (c:Int) = 63:=fun z=>h3 (by simp; omega);exact gx 0x510411114 fun r=>r hlen (sm d1) e1 (sF g1) (sF g2) (sF g3) (sF g1) (sF g3) hz
 | star h1 =>
  have d1:=h.dlt;have e1:=h.ix (by omega);refine ⟨i+1,some (.int 42),some (.bool true),h.next,?_⟩
  cases r with
  | nil =>
   have d2:=h.next.dlt0;exact gx 0x40050000114 fun r=>r hlen (sm d1) e1 hlen (sm d2) hz
  | cons c r =>
   have d2:=h.next.dlt;have e2:=h.next.ix (by omega);have g3:¬ (c:Int) = 63:=fun z=>h1 (by simp; omega);exact gx 0x401450000114 fun r=>r hlen (sm d1) e1 hlen (sm d2) e2 (sF g3) hz
 | plus h1 =>
  have d1:=h.dlt;have e1:=h.ix (by omega);refine ⟨i+1,some (.int 43),some (.bool true),h.next,?_⟩
  cases r with
  | nil =>
   have d2:=h.next.dlt0;exact gx 0x400140000114 fun r=>r hlen (sm d1) e1 hlen (sm d2) hz
  | cons c r =>
   have d2:=h.next.dlt;have e2:=h.next.ix (by omega);have g3:¬ (c:Int) = 63:=fun z=>h1 (by simp; omega);exact gx 0x4005140000114 fun r=>r hlen (sm d1) e1 hlen (sm d2) e2 (sF g3) hz
 | opt =>
  have d1:=h.dlt;have e1:=h.ix (by omega);have d2:=h.next.dlt;have e2:=h.next.ix (by omega);refine ⟨i+1+1,some (.int 63),some (.bool false),h.next.next,?_⟩;exact gx 0x100004500000114 fun r=>r hlen (sm d1) e1 hlen (sm d2) e2 hz
theorem PA.len {s r:List Nat} {a:A} (h:PA s a r):Ey2 (fun c s'=>s = c :: s') (fun c s'=>c ≠ 41):=by
 cases h with
 | none=>exact ⟨_,_,rfl,by decide⟩
 | cls=>exact ⟨_,_,rfl,by decide⟩
 | dot=>exact ⟨_,_,rfl,by decide⟩
 | lit h1 h2=>exact ⟨_,_,rfl,h2⟩
theorem zrd (hp:p.length <= 999990) {c:Nat} {s:List Nat} {i:Int} {acc:List V} {o3 o4 o5 o6:Option V} (h:At p i (c :: s)) (hc:c ≠ 41):wt cf c_law_items_1 (itσ p i acc o3 o4 o5 o6) = .ok true:=by
 have hlen:=zb6 (b:=p) (by omega);have d1:=h.dlt;have e1:=h.ix (by omega);have g1:¬ (c:Int) = 41:=by omega
 exact goT 0x145 fun r=>r hlen (sm d1) e1 (nF g1)
theorem zvh (hp:p.length <= 999990) {s:List Nat} {i:Int} {acc:List V} {o3 o4 o5 o6:Option V} (h:At p i s) (hs:s = [] \/ s.head? = some 41):wt cf c_law_items_1 (itσ p i acc o3 o4 o5 o6) = .ok false:=by
 have hlen:=zb6 (b:=p) (by omega);rcases hs with rfl | hs
 ·have d1:=h.dlt0;exact goT 5 fun r=>r hlen (sm d1)
 ·cases s with
  | nil=>cases hs
  | cons c s =>
   obtain rfl:c = 41:=by simpa using hs
   have d1:=h.dlt;have e1:=h.ix (by omega);exact goT 0x45 fun r=>r hlen (sm d1) e1
set_option tactic.hygienic true in
theorem zgb (S:SgOk p cf) (C:ClsOk p cf) (hp:p.length <= 999990) {s u:List Nat} {l:List It1} (hs:P1 s l u):∀ (n:Nat) (i:Int) (acc:List V) (o3 o4 o5 o6:Option V),At p i s->l.length < n->acc.length+l.length <= 999990 ->
  Ey5 (fun i' o3' o4' o5' o6'=>At p i' u) (fun i' o3' o4' o5' o6'=>whileN (wt cf c_law_items_1) (exs N cf pc q_law_items_1) n (itσ p i acc o3 o4 o5 o6) = .nx (itσ p i' (acc++l.map It1.v) o3' o4' o5' o6')):=by
 induction hs with
 | nil hs =>
  intro n i acc o3 o4 o5 o6 h hn hz;obtain ⟨n,rfl⟩:∃ m,n = m+1:=⟨n - 1,by simp at hn; omega⟩;exact ⟨i,o3,o4,o5,o6,h,by rw [wl_f (zvh hp h hs)]; simp⟩
 | cons ha hf hl ih =>
  rename_i s r r' u a o m l;intro n i acc o3 o4 o5 o6 h hn hz;simp only [aI] at hn hz;obtain ⟨n,rfl⟩:∃ m,n = m+1:=⟨n - 1,by omega⟩;obtain ⟨c,s',rfl,hc⟩:=ha.len;obtain ⟨i1,q4,h1,e1⟩:=zqj (N:=N) (pc:=pc) (acc:=acc) (o3:=o3) (o4:=o4) (o5:=o5) (o6:=o6) S C hp ha h;obtain ⟨i2,q5,q6,h2,e2⟩:=zgh (N:=N) (pc:=pc) (cf:=cf) (acc:=acc) (it:=a.v) (o4:=q4) (o5:=o5) (o6:=o6) hp hf h1 (by omega);obtain ⟨i3,z3,z4,z5,z6,h3,e3⟩:=ih n i2 (acc++[.tup [a.v,.bool o,.bool m]]) (some a.v) q4 q5 q6 h2 (by omega) (by simp; omega);refine ⟨i3,z3,z4,z5,z6,h3,?_⟩;rw [wl_t (zrd hp h hc) (by rw [zth,zlu,e1,zne,e2]),e3];simp [It1.v]
set_option tactic.hygienic true in
theorem zf6 (S:SgOk p cf) (C:ClsOk p cf) (G:GrpOk p cf) (hp:p.length <= 999990) {s u:List Nat} {l:List It2} (hs:P2 s l u):∀ (n:Nat) (i:Int) (acc:List V) (o3 o4 o5 o6:Option V),At p i s->l.length < n->acc.length+l.length <= 999990 ->
  Ey5 (fun i' o3' o4' o5' o6'=>At p i' u) (fun i' o3' o4' o5' o6'=>whileN (wt cf c_law_items_1) (exs N cf pc q_law_items_1) n (itσ p i acc o3 o4 o5 o6) = .nx (itσ p i' (acc++l.map It2.v) o3' o4' o5' o6')):=by
 induction hs with
 | nil hs =>
  intro n i acc o3 o4 o5 o6 h hn hz;obtain ⟨n,rfl⟩:∃ m,n = m+1:=⟨n - 1,by simp at hn; omega⟩;exact ⟨i,o3,o4,o5,o6,h,by rw [wl_f (zvh hp h hs)]; simp⟩
 | atom ha hf hl ih =>
  rename_i s r r' u a o m l;intro n i acc o3 o4 o5 o6 h hn hz;simp only [aI] at hn hz;obtain ⟨n,rfl⟩:∃ m,n = m+1:=⟨n - 1,by omega⟩;obtain ⟨c,s',rfl,hc⟩:=ha.len;obtain ⟨i1,q4,h1,e1⟩:=zqj (N:=N) (pc:=pc) (acc:=acc) (o3:=o3) (o4:=o4) (o5:=o5) (o6:=o6) S C hp ha h;obtain ⟨i2,q5,q6,h2,e2⟩:=zgh (N:=N) (pc:=pc) (cf:=cf) (acc:=acc) (it:=a.v) (o4:=q4) (o5:=o5) (o6:=o6) hp hf h1 (by omega);obtain ⟨i3,z3,z4,z5,z6,h3,e3⟩:=ih n i2 (acc++[.tup [a.v,.bool o,.bool m]]) (some a.v) q4 q5 q6 h2 (by omega) (by simp; omega);refine ⟨i3,z3,z4,z5,z6,h3,?_⟩;rw [wl_t (zrd hp h hc) (by rw [zth,zlu,e1,zne,e2]),e3];simp [It2.v,B.v]
 | grp hh hg hf hl ih =>
  rename_i s r r' u g o m l;intro n i acc o3 o4 o5 o6 h hn hz;simp only [aI] at hn hz;obtain ⟨n,rfl⟩:∃ m,n = m+1:=⟨n - 1,by omega⟩;obtain ⟨i1,q4,h1,e1⟩:=zsw (N:=N) (pc:=pc) (acc:=acc) (o3:=o3) (o4:=o4) (o5:=o5) (o6:=o6) G hp hh hg h;obtain ⟨i2,q5,q6,h2,e2⟩:=zgh (N:=N) (pc:=pc) (cf:=cf) (acc:=acc) (it:=(B.grp g).v) (o4:=q4) (o5:=o5) (o6:=o6) hp hf h1 (by omega);obtain ⟨i3,z3,z4,z5,z6,h3,e3⟩:=ih n i2 (acc++[.tup [(B.grp g).v,.bool o,.bool m]]) (some (B.grp g).v) q4 q5 q6 h2 (by omega) (by simp; omega);refine ⟨i3,z3,z4,z5,z6,h3,?_⟩;rw [wl_t (zrd hp h (by decide)) (by rw [zth,zlu,e1,zne,e2]),e3];simp [It2.v]
theorem Cl.len {s u:List Nat} {l:List (Int × Int)} (h:Cl s l u):u.length < s.length:=by
 induction h with
 | nil=>simp
 | one O hs O1 O2 ih=>have:=hs.len; omega
 | rng O hs hs2 O1 ih=>have:=hs.len; have:=hs2.len; simp at *; omega
theorem PA.lt {s r:List Nat} {a:A} (h:PA s a r):r.length < s.length:=by
 cases h with
 | none=>simp; omega
 | cls h=>cases h with
  | neg h=>have:=h.len; simp; omega
  | pos O h=>have:=h.len; simp at *; omega
 | dot=>simp
 | lit O O1 O2 O3 h=>exact h.len
theorem Fo.le {s r:List Nat} {o m:Bool} (h:Fo s o m r):r.length <= s.length:=by
 cases h <;> simp; omega
theorem P1.len {s u:List Nat} {l:List It1} (h:P1 s l u):l.length+u.length <= s.length:=by
 induction h with
 | nil=>simp
 | cons ha hf O ih=>have:=ha.lt; have:=hf.le; simp; omega
theorem P2.len {s u:List Nat} {l:List It2} (h:P2 s l u):l.length+u.length <= s.length:=by
 induction h with
 | nil=>simp
 | atom ha hf O ih=>have:=ha.lt; have:=hf.le; simp; omega
 | grp O hg hf O1 ih=>have:=hg.len; have:=hf.le; simp at *; omega
theorem zp7 {k:Nat} (hp:p.length <= 900000) (hpN:p.length < N) {s u:List Nat} {l:List It1} {i:Int} (h:At p i s) (hs:P1 s l u) :
  ∃ i',At p i' u/\callF N fsAll 2 (k+4) 25 [.bytes p,.int i] = .ok (.tup [.lst (l.map It1.v),.int i']):=by
 have hl:=h.len';have hl2:=hs.len;obtain ⟨i',z3,z4,z5,z6,h3,e3⟩:=zgb (cf:=callF N fsAll 2 (k+3)) (N:=N) (pc:=pcOf N fsAll 2 (k+3)) (fun h hs=>zl3 (by omega) h hs) (fun h hs=>znl (by omega) hpN h hs) (by omega) hs N i [] none none none none h (by omega) (by simp; omega);refine ⟨i',h3,?_⟩;exact goC 0x10 rfl fun r=>r e3
theorem zr9 {k:Nat} (hp:p.length <= 900000) (hpN:p.length < N) {s u:List Nat} {l:List It2} {i:Int} (h:At p i s) (hs:P2 s l u) :
  ∃ i',At p i' u/\callF N fsAll 2 (k+5) 25 [.bytes p,.int i] = .ok (.tup [.lst (l.map It2.v),.int i']):=by
 have hl:=h.len';have hl2:=hs.len;obtain ⟨i',z3,z4,z5,z6,h3,e3⟩:=zf6 (cf:=callF N fsAll 2 (k+4)) (N:=N) (pc:=pcOf N fsAll 2 (k+4)) (fun h hs=>zl3 (by omega) h hs) (fun h hs=>znl (by omega) hpN h hs) (fun h hs=>zp7 hp hpN h hs) (by omega) hs N i [] none none none none h (by omega) (by simp; omega);refine ⟨i',h3,?_⟩;exact goC 0x10 rfl fun r=>r e3
end

noncomputable def holds (o:Int) (neg:Bool) (rs:List (Int × Int)):Bool:=neg != rs.any fun r=>decide (r.1 <= o) && decide (o <= r.2)
theorem zc9 {α β:Type} {f:V->R (Option V)} {g:α->V} {h:β->V} (P:α->Bool) (c:α->β):∀ (l:List α),(∀ x ∈ l,(P x = true/\f (g x) = .ok (some (h (c x)))) \/ (P x = false/\f (g x) = .ok none))->compL f (l.map g) = .ok (((l.filter P).map c).map h)
 | []=>fun O=>rfl
 | x :: r=>by
  intro H;have h1:=H x (by simp);have h2:=zc9 P c r fun y hy=>H y (by simp [hy]);rcases h1 with ⟨hp,h1⟩ | ⟨hp,h1⟩
  ·rw [aS,cL_c,h1,List.filter_cons_of_pos hp];exact congrArg (·.bind fun l=>R.ok (h (c x) :: l)) h2
  ·rw [aS,cL_c,h1,List.filter_cons_of_neg (by rw [hp]; exact aJ)];exact h2
theorem zbq {α β:Type} {f:V->R (Option V)} {g:α->V} {h:β->V} (c:α->β):∀ (l:List α),(∀ x ∈ l,f (g x) = .ok (some (h (c x))))->compL f (l.map g) = .ok ((l.map c).map h)
 | []=>fun O=>rfl
 | x :: r=>by
  intro H;have h1:=H x (by simp);have h2:=zbq c r fun y hy=>H y (by simp [hy]);rw [aS,cL_c,h1];exact congrArg (·.bind fun l=>R.ok (h (c x) :: l)) h2
theorem zgy:∀ (l:List Bool),vany (.bool true) (l.map .bool) = some (l.any id)
 | []=>rfl
 | b :: l=>by simp [va_c,vscal,two,kdI,kdB,kdO,zgy l]
noncomputable def natV (q:Nat):V:=.int q
theorem zc6 {q:Nat}:∀ (l:List Nat),vany (.int q) (l.map natV) = some (decide (q ∈ l))
 | []=>rfl
 | b :: l=>by
  have e:decide ((b:Int) = (q:Int)) = decide (q = b):=by simp; omega
  have:(decide (q ∈ b :: l)) = (decide (q = b) || decide (q ∈ l)):=by simp
  rw [this,aS,va_c,zc6 l,<- e]; rfl
theorem zc5:∀ (n:Nat) (l:List Nat),l.Nodup->(∀ x ∈ l,x < n)->l.length <= n
 | 0=>by intro l _ h; cases l with
  | nil=>simp
  | cons x l=>exact absurd (h x (by simp)) (by omega)
 | n+1=>by
  intro l hn h
  by_cases hm:n ∈ l
  ·have:=zc5 n (l.erase n) (hn.erase n) (fun x hx=>by
    have h1:=h x (List.mem_of_mem_erase hx);have h2:x ≠ n:=fun z=>by subst z; exact absurd hx (hn.not_mem_erase)
    omega)
   rw [List.length_erase_of_mem hm] at this;omega
  ·have:=zc5 n l hn (fun x hx=>by
    have:=h x hx;have h2:x ≠ n:=fun z=>hm (z ▸ hx);omega)
   omega
structure Pl (L:Nat) (ps:List Nat):Prop where
 nd:ps.Nodup
 le:∀ q ∈ ps,q <= L
theorem Pl.len {L:Nat} {ps:List Nat} (h:Pl L ps):ps.length <= L+1:=zc5 (L+1) ps h.nd fun x hx=>by have:=h.le x hx; omega
inductive Plus (T:Nat->Nat->Prop):Nat->Nat->Prop where
 | one {p q:Nat}:T p q->Plus T p q
 | more {p r q:Nat}:T p r->Plus T r q->Plus T p q
theorem Plus.snoc {T:Nat->Nat->Prop} {p r q:Nat} (h:Plus T p r) (h2:T r q):Plus T p q:=by
 induction h with
 | one h=>exact .more h (.one h2)
 | more h O ih=>exact .more h (ih h2)
noncomputable def Rel (o m:Bool) (T:Nat->Nat->Prop) (p q:Nat):Prop:=(o = true/\p = q) \/ (if m then Plus T p q else T p q)
structure Gi where
 v:V
 o:Bool
 m:Bool
 T:Nat->Nat->Prop
noncomputable def Gi.V (g:Gi):Internal.V:=.tup [g.v,.bool g.o,.bool g.m]
noncomputable def RelL:List Gi->Nat->Nat->Prop
 | [],p,q=>p = q
 | g :: l,p,q=>∃ r,Rel g.o g.m g.T p r/\RelL l r q
theorem RL_n {p q:Nat}:RelL [] p q = (p = q):=rfl
theorem RL_c {g:Gi} {l:List Gi} {p q:Nat}:RelL (g :: l) p q = ∃ r,Rel g.o g.m g.T p r/\RelL l r q:=rfl
section
variable {cf:Nat->List V->R V} {N:Nat} {pc:V->V->List V->List V->R (V × List V × List V)} {p:List Nat}
theorem zi2 {k:Nat} {o:Int} {neg:Bool} {rs:List (Int × Int)} (hz:rs.length <= 1000000):callF N fsAll 2 (k+1) 17 [.int o,.bool neg,.lst (rs.map rgV)] = .ok (.bool (holds o neg rs)):=by
 have lm:(rs.map rgV).length <= 1000000:=by simpa using hz
 have key:=fun f=>zbq (f:=f) (g:=rgV) (h:=V.bool) (fun r=>decide (r.1 <= o) && decide (o <= r.2)) rs;have e:vin (.bool true) (.lst ((rs.map fun r=>decide (r.1 <= o) && decide (o <= r.2)).map V.bool)) = some (rs.any fun r=>decide (r.1 <= o) && decide (o <= r.2)):=by
  rw [vin,zgy,List.any_map]; rfl
 have e2:vcmp .ne (.bool neg) (.bool (rs.any fun r=>decide (r.1 <= o) && decide (o <= r.2))) = some (holds o neg rs):=by
  unfold holds
  cases neg <;> cases (rs.any fun r=>decide (r.1 <= o) && decide (o <= r.2)) <;> rfl
 refine goC 0x154 rfl fun r=>r lm (key _ ?_) e e2;intro r _
 by_cases h:r.1 <= o
 ·rw [decide_eq_true h,Bool.true_and];exact goI 4 fun r=>r (sT h)
 ·rw [decide_eq_false h,Bool.false_and];exact goI 4 fun r=>r (sF h)
noncomputable def HoldsOk (cf:Nat->List V->R V):Prop:=∀ {o:Int} {neg:Bool} {rs:List (Int × Int)},rs.length <= 1000000->cf 17 [.int o,.bool neg,.lst (rs.map rgV)] = .ok (.bool (holds o neg rs))
noncomputable def TA (name:List Nat):A->Nat->Nat->Prop
 | .none,O,O1=>False
 | .cls neg rs,p,q=>q = p+1/\p < name.length/\holds (name.getD p 0) neg rs = true
noncomputable def A.ok:A->Prop
 | .none=>True
 | .cls O rs=>rs.length <= 1000000
theorem zmz {name:List Nat} {q:Nat} (hn:name.length <= 1000000) (h:q < name.length):vidx (.bytes name) (.int q) = some (.int (name.getD q 0:Nat)):=by
 show iff? (name.length <= 16777216/\(0:Int) <= (q:Int)/\(q:Int) < name.length) (V.int (name.getD (q:Int).toNat 0)) = _;rw [zas (by omega),Int.toNat_natCast]
noncomputable def StepOk (name:List Nat) (cf:Nat->List V->R V) (g:Gi):Prop:=∀ ps:List Nat,Pl name.length ps->∃ ps',And3 (cf 26 [g.v,.bytes name,.lst (ps.map natV)] = .ok (.lst (ps'.map natV))) (Pl name.length ps') (∀ q,q ∈ ps' ↔ ∃ p ∈ ps,g.T p q)
theorem zny {k:Nat} {name:List Nat} (hn:name.length <= 900000) {a:A} (ha:a.ok) {o m:Bool}:StepOk name (callF N fsAll 2 (k+2)) ⟨a.v,o,m,TA name a⟩:=by
 intro ps hp;have hlen:=hp.len
 cases a with
 | none =>
  refine ⟨[],?_,⟨by simp,by simp⟩,by simp [TA]⟩;exact goC 0 rfl fun r=>r
 | cls neg rs =>
  refine ⟨(ps.filter fun q=>decide (q < name.length) && holds (name.getD q 0) neg rs).map (·+1),?_,⟨?_,?_⟩,?_⟩
  ·have lm:(ps.map natV).length <= 1000000:=by simp; omega
   have li:vb1 .isl (clsV neg rs) = some (.bool false):=rfl;have h0:vidx (clsV neg rs) (.int 0) = some (.bool neg):=rfl;have h1:vidx (clsV neg rs) (.int 1) = some (.lst (rs.map rgV)):=rfl;have hl:=zb6 (b:=name) (by omega);have hn0:isNoneV (clsV neg rs) = false:=rfl;have key:=fun f=>zc9 (f:=f) (l:=ps) (g:=natV) (h:=natV) (P:=fun q=>decide (q < name.length) && holds (name.getD q 0) neg rs) (c:=(·+1));refine goC 0x14100 rfl fun r=>r li lm (key _ ?_);intro q hq
   by_cases h:q < name.length
   ·have e2:=zmz (q:=q) (by omega) h;have e3:=zi2 (N:=N) (k:=k) (o:=(name.getD q 0:Nat)) (neg:=neg) (rs:=rs) ha;have h':=cH.mpr h
    cases hh:holds (name.getD q 0) neg rs
    ·rw [hh] at e3;refine .inr ⟨by rw [Bool.and_false],?_⟩;exact goI 0x1545 fun r=>r hl (sT h') e2 h0 h1 e3
    ·rw [hh] at e3;refine .inl ⟨by rw [Bool.and_true,decide_eq_true h],?_⟩;exact goI 0x1545 fun r=>r hl (sT h') e2 h0 h1 e3
   ·have h':=mt cH.mp h;refine .inr ⟨by rw [decide_eq_false h,Bool.false_and],?_⟩;exact goI 5 fun r=>r hl (sF h')
  ·have:(ps.filter fun q=>decide (q < name.length) && holds (name.getD q 0) neg rs).Nodup:=hp.nd.filter _;exact (fR).mpr (this.imp fun h h2=>h (by omega))
  ·intro q hq;simp only [cG,gF,bB,decide_eq_true_eq] at hq;obtain ⟨x,⟨_,h,_⟩,rfl⟩:=hq;omega
  ·intro q;simp only [cG,gF,bB,decide_eq_true_eq,TA];constructor
   ·rintro ⟨x,⟨h1,h2,h3⟩,rfl⟩; exact ⟨x,h1,rfl,h2,h3⟩
   ·rintro ⟨x,h1,rfl,h2,h3⟩; exact ⟨x,⟨h1,h2,h3⟩,rfl⟩
end

noncomputable def lessL (ps told:List Nat):List Nat:=ps.filter fun q=>!decide (q ∈ told)
theorem lessL_mem {ps told:List Nat} {q:Nat}:q ∈ lessL ps told ↔ q ∈ ps/\q ∉ told:=by simp [lessL]
section
variable {cf:Nat->List V->R V} {N:Nat} {pc:V->V->List V->List V->R (V × List V × List V)} {name:List Nat}
noncomputable abbrev rσ (items:V) (name ps:List Nat) (g:Gi) (b6:Bool) (told fr:List Nat):List Slot :=
 [ns (some items),ns (some (.bytes name)),ns (some (.lst (ps.map natV))),ns (some g.v),ns (some (.bool g.o)),ns (some (.bool g.m)),some (b6,.lst (told.map natV)),ns (some (.lst (fr.map natV)))]
theorem zdy {items:V} {ps:List Nat} {g:Gi} {told fr ps':List Nat} {b6:Bool} (hc:cf 26 [g.v,.bytes name,.lst (fr.map natV)] = .ok (.lst (ps'.map natV))) (h1:ps'.length <= 1000000) (h2:told.length <= 1000000) :
  exs N cf pc q_law_reach_2 (rσ items name ps g b6 told fr) = (if g.m then F.nx else F.bk) (rσ items name ps g true (told++lessL ps' told) (lessL ps' told)):=by
 have lm:(ps'.map natV).length <= 1000000:=by simpa using h1
 have hl:(lessL ps' told).length <= ps'.length:=List.length_filter_le _ _;have e1:vbin .add (.lst (told.map natV)) (.lst ((lessL ps' told).map natV)) = some (.lst ((told++lessL ps' told).map natV)):=by rw [cX]; exact zg4 (by simp; omega)
 have key:∀ f:V->R (Option V),(∀ q ∈ ps',((!decide (q ∈ told)) = true/\f (natV q) = .ok (some (natV q))) \/ ((!decide (q ∈ told)) = false/\f (natV q) = .ok none))->compL f (ps'.map natV) = .ok ((lessL ps' told).map natV):=fun f H=>by
  rw [zc9 (l:=ps') (g:=natV) (h:=natV) (P:=fun q=>!decide (q ∈ told)) (c:=id) H,List.map_id]; rfl
 have item:∀ q ∈ ps',((!decide (q ∈ told)) = true/\turnX cf (.nm 8) 0 (.call 26 (.cons (.nm 3) (.cons (.nm 1) (.cons (.nm 7) .nil)))) (.cons (.nin (.nm 8) (.nm 6)) .nil) (rσ items name ps g b6 told fr) (natV q) = .ok (some (natV q))) \/ ((!decide (q ∈ told)) = false/\turnX cf (.nm 8) 0 (.call 26 (.cons (.nm 3) (.cons (.nm 1) (.cons (.nm 7) .nil)))) (.cons (.nin (.nm 8) (.nm 6)) .nil) (rσ items name ps g b6 told fr) (natV q) = .ok none):=by
  intro q _;have e3:=zc6 (q:=q) told
  cases hd:decide (q ∈ told)
  ·rw [hd] at e3;refine .inl ⟨rfl,?_⟩
   cases b6
   ·exact goI 1 fun r=>r e3
   ·exact goI 1 fun r=>r e3
  ·rw [hd] at e3;refine .inr ⟨rfl,?_⟩
   cases b6
   ·exact goI 1 fun r=>r e3
   ·exact goI 1 fun r=>r e3
 cases b6
 ·cases hm:g.m
  ·show exs _ _ _ _ _ = F.bk _;exact gx 0x4454 fun r=>r hc lm (key _ item) e1 (sm hm)
  ·show exs _ _ _ _ _ = F.nx _;exact gx 0x4454 fun r=>r hc lm (key _ item) e1 (sm hm)
 ·cases hm:g.m
  ·show exs _ _ _ _ _ = F.bk _;exact gx 0x4454 fun r=>r hc lm (key _ item) e1 (sm hm)
  ·show exs _ _ _ _ _ = F.nx _;exact gx 0x4454 fun r=>r hc lm (key _ item) e1 (sm hm)
theorem Pl.less {L:Nat} {ps told:List Nat} (h:Pl L ps):Pl L (lessL ps told):=⟨h.nd.filter _,fun q hq=>h.le q (lessL_mem.mp hq).1⟩
theorem Pl.app {L:Nat} {a b:List Nat} (ha:Pl L a) (hb:Pl L b):Pl L (a++lessL b a) :=
 ⟨List.nodup_append.mpr ⟨ha.nd,hb.less.nd,fun x hx y hy e=>(lessL_mem.mp hy).2 (e ▸ hx)⟩,fun q hq=>by
  rcases aU.mp hq with h | h
  ·exact ha.le q h
  ·exact hb.less.le q h⟩
theorem zdz {items:V} {ps:List Nat} {g:Gi} (hn:name.length <= 400000) (hs:StepOk name cf g) (hm:g.m = true) (hT:∀ p q,g.T p q->p < q):∀ (n j:Nat) (told fr:List Nat) (b6:Bool),1 <= n->name.length+1 < n+j->Pl name.length told->Pl name.length fr->(∀ x ∈ fr,j <= x) ->
  (∀ x ∈ fr,x ∈ ps \/ ∃ p ∈ ps,Plus g.T p x)->(∀ x ∈ told,(g.o = true/\x ∈ ps) \/ ∃ p ∈ ps,Plus g.T p x)->(∀ x,x ∈ told \/ x ∈ ps->x ∈ fr \/ ∀ y,g.T x y->y ∈ told)->(g.o = true->∀ x ∈ ps,x ∈ told) ->
  Ex2 fun b' told'=>And3 (whileN (wt cf c_law_reach_2) (exs N cf pc q_law_reach_2) n (rσ items name ps g b6 told fr) = .nx (rσ items name ps g b' told' [])) (Pl name.length told') (∀ q,q ∈ told' ↔ ∃ p ∈ ps,Rel g.o g.m g.T p q)
 | 0,O,O1,O2=>by intro _ h _ _ _ _ _ _ _ _; omega
 | n+1,j,told,[]=>by
  intro b6 _ _ ht _ _ _ hst hJ ho;refine ⟨b6,told,wl_f ?_,ht,fun q=>?_⟩
  ·exact goT 0 fun r=>r
  ·constructor
   ·intro hq;rcases hst q hq with ⟨h1,h2⟩ | ⟨p,h1,h2⟩
    ·exact ⟨q,h2,.inl ⟨h1,rfl⟩⟩
    ·exact ⟨p,h1,.inr (by rw [hm]; exact h2)⟩
   ·rintro ⟨p,h1,h2⟩;rcases h2 with ⟨h2,rfl⟩ | h2
    ·exact ho h2 p h1
    ·rw [if_pos hm] at h2;have:∀ {a b:Nat},Plus g.T a b->(a ∈ told \/ a ∈ ps)->b ∈ told:=by
      intro a b h;induction h with
      | one h=>intro ha; exact ((hJ _ ha).resolve_left (by simp)) _ h
      | more h O ih=>intro ha; exact ih (.inl (((hJ _ ha).resolve_left (by simp)) _ h))
     exact this h2 (.inr h1)
 | n+1,j,told,x :: fr=>by
  intro b6 _ hj ht hf hlo hsf hst hJ ho;obtain ⟨ps',hc,hp',hmem⟩:=hs (x :: fr) hf;have hx1:=hlo x (by simp);have hx2:=hf.le x (by simp);have l1:=hp'.len;have l2:=ht.len;obtain ⟨b',told',e,h1,h2⟩:=zdz (items:=items) hn hs hm hT n (j+1) (told++lessL ps' told) (lessL ps' told) true (by omega) (by omega) (ht.app hp') hp'.less (fun y hy=>by
    obtain ⟨z,hz,hzy⟩:=(hmem y).mp (lessL_mem.mp hy).1;have:=hT _ _ hzy;have:=hlo z hz;omega) (fun y hy=>by
    obtain ⟨z,hz,hzy⟩:=(hmem y).mp (lessL_mem.mp hy).1;rcases hsf z hz with h | ⟨p,h,h'⟩
    ·exact .inr ⟨z,h,.one hzy⟩
    ·exact .inr ⟨p,h,h'.snoc hzy⟩) (fun y hy=>by
    rcases aU.mp hy with hy | hy
    ·exact hst y hy
    ·obtain ⟨z,hz,hzy⟩:=(hmem y).mp (lessL_mem.mp hy).1;rcases hsf z hz with h | ⟨p,h,h'⟩
     ·exact .inr ⟨z,h,.one hzy⟩
     ·exact .inr ⟨p,h,h'.snoc hzy⟩) (fun y hy=>by
    by_cases hyf:y ∈ lessL ps' told
    ·exact .inl hyf
    ·refine .inr fun z hyz=>?_;have hy':y ∈ told \/ y ∈ ps:=by
      rcases hy with hy | hy
      ·rcases aU.mp hy with hy | hy
       ·exact .inl hy
       ·exact absurd hy hyf
      ·exact .inr hy
     rcases hJ y hy' with h | h
     ·have:z ∈ ps':=(hmem z).mpr ⟨y,h,hyz⟩
      by_cases hz:z ∈ told
      ·exact List.mem_append_left _ hz
      ·exact List.mem_append_right _ (lessL_mem.mpr ⟨this,hz⟩)
     ·exact List.mem_append_left _ (h z hyz)) (fun h y hy=>List.mem_append_left _ (ho h y hy))
  refine ⟨b',told',?_,h1,h2⟩;have hturn:=zdy (N:=N) (pc:=pc) (items:=items) (ps:=ps) (told:=told) (b6:=b6) hc (by omega) (by omega);rw [hm] at hturn;have l3:=hf.len;have e9:vtruth (.lst ((x :: fr).map natV)) = some true:=if_pos (by simp at l3 |-; omega);refine (wl_t ?_ hturn).trans e;exact goT 1 fun r=>r e9
set_option tactic.hygienic true in
theorem zg5 {items:V} {ps:List Nat} {g:Gi} {o6 o7:Option V} (hn:name.length <= 400000) (hN:name.length+3 <= N) (hp:Pl name.length ps) (hs:StepOk name cf g) (hT:g.m = true->∀ p q,g.T p q->p < q) :
  Ex3 fun ps' o6' o7'=>And3 (exs N cf pc q_law_reach_1 [ns (some items),ns (some (.bytes name)),ns (some (.lst (ps.map natV))),ns (some g.v),ns (some (.bool g.o)),ns (some (.bool g.m)),ns o6,ns o7]
   = .nx [ns (some items),ns (some (.bytes name)),ns (some (.lst (ps'.map natV))),ns (some g.v),ns (some (.bool g.o)),ns (some (.bool g.m)),ns o6',ns o7']) (Pl name.length ps') (∀ q,q ∈ ps' ↔ ∃ p ∈ ps,Rel g.o g.m g.T p q):=by
 have l0:=hp.len;have start:Ex3 fun b told fr=>And3 (whileN (wt cf c_law_reach_2) (exs N cf pc q_law_reach_2) N (rσ items name ps g false (if g.o then ps else []) ps) = .nx (rσ items name ps g b told fr)) (Pl name.length told) (∀ q,q ∈ told ↔ ∃ p ∈ ps,Rel g.o g.m g.T p q):=by
  have ht0:Pl name.length (if g.o then ps else []):=by
   split
   ·exact hp
   ·exact ⟨by simp,by simp⟩
  cases hm:g.m
  ·cases ps with
   | nil =>
    refine ⟨false,[],[],?_,⟨by simp,by simp⟩,by simp⟩;obtain ⟨n,rfl⟩:∃ n,N = n+1:=⟨N - 1,by omega⟩;have:(if g.o = true then ([]:List Nat) else []) = []:=by split <;> rfl
    rw [this,wl_f];exact goT 0 fun r=>r
   | cons x ps =>
    obtain ⟨ps',hc,hp',hmem⟩:=hs (x :: ps) hp;have l1:=hp'.len;have l2:=ht0.len;have hturn:=zdy (N:=N) (pc:=pc) (items:=items) (ps:=x :: ps) (told:=if g.o then x :: ps else []) (b6:=false) hc (by omega) (by omega);rw [hm] at hturn;refine ⟨true,_,lessL ps' (if g.o then x :: ps else []),?_,ht0.app hp',fun q=>?_⟩
    ·obtain ⟨n,rfl⟩:∃ n,N = n+1:=⟨N - 1,by omega⟩;have e9:vtruth (.lst ((x :: ps).map natV)) = some true:=if_pos (by simp at l0 |-; omega);refine wl_b ?_ hturn;exact goT 1 fun r=>r e9
    ·rw [aU,lessL_mem,hmem];unfold Rel;simp only [dI,if_false]
     cases ho:g.o
     ·simp only [dI,if_false];constructor
      ·rintro (h | ⟨⟨p,h1,h2⟩,_⟩)
       ·cases h
       ·exact ⟨p,h1,.inr h2⟩
      ·rintro ⟨p,h1,⟨h,_⟩ | h2⟩
       ·exact absurd h (by simp)
       ·exact .inr ⟨⟨p,h1,h2⟩,by simp⟩
     ·simp only [if_true];constructor
      ·rintro (h | ⟨⟨p,h1,h2⟩,_⟩)
       ·exact ⟨q,h,.inl (by simp)⟩
       ·exact ⟨p,h1,.inr h2⟩
      ·rintro ⟨p,h1,⟨_,rfl⟩ | h2⟩
       ·exact .inl h1
       ·by_cases hq:q ∈ x :: ps
        ·exact .inl hq
        ·exact .inr ⟨⟨p,h1,h2⟩,hq⟩
  ·obtain ⟨b',told',e,h1,h2⟩:=zdz (N:=N) (pc:=pc) (items:=items) (ps:=ps) hn hs hm (hT hm) N 0 (if g.o then ps else []) ps false (by omega) (by omega) ht0 hp (by simp) (fun x hx=>.inl hx) (fun x hx=>by
     split at hx
     ·rename_i h; exact .inl ⟨h,hx⟩
     ·cases hx) (fun x hx=>by
     rcases hx with hx | hx
     ·split at hx
      ·exact .inl hx
      ·cases hx
     ·exact .inl hx) (fun h x hx=>by rw [if_pos h]; exact hx)
   rw [hm] at h2;exact ⟨b',told',[],e,h1,h2⟩
 obtain ⟨b,told,fr,e,h1,h2⟩:=start;refine ⟨told,some (.lst (told.map natV)),some (.lst (fr.map natV)),?_,h1,h2⟩;have el:=zw5 (l:=ps.map natV) (by simp; omega);dsimp only [rσ] at e
 cases ho:g.o
 ·rw [ho] at e
  cases b
  ·exact gx 0x100 fun r=>r e
  ·exact gx 0x100 fun r=>r e
 ·rw [ho] at e
  cases b
  ·exact gx 0x410 fun r=>r el e
  ·exact gx 0x410 fun r=>r el e
theorem zdp {items:V} (hn:name.length <= 400000) (hN:name.length+3 <= N):∀ (l:List Gi) (ps:List Nat) (o3 o4 o5 o6 o7:Option V),Pl name.length ps->(∀ g ∈ l,StepOk name cf g/\(g.m = true->∀ p q,g.T p q->p < q)) ->
  Ex6 fun ps' o3' o4' o5' o6' o7'=>And3 (forL (bT N cf pc [3,4,5] q_law_reach_1) (l.map Gi.V) [ns (some items),ns (some (.bytes name)),ns (some (.lst (ps.map natV))),ns o3,ns o4,ns o5,ns o6,ns o7]
   = .nx [ns (some items),ns (some (.bytes name)),ns (some (.lst (ps'.map natV))),ns o3',ns o4',ns o5',ns o6',ns o7']) (Pl name.length ps') (∀ q,q ∈ ps' ↔ ∃ p ∈ ps,RelL l p q)
 | []=>fun ps o3 o4 o5 o6 o7 hp O=>⟨ps,o3,o4,o5,o6,o7,rfl,hp,fun q=>by simp [RL_n]⟩
 | g :: l=>by
  intro ps o3 o4 o5 o6 o7 hp H;obtain ⟨ps1,q6,q7,e1,h1,m1⟩:=zg5 (N:=N) (pc:=pc) (items:=items) (o6:=o6) (o7:=o7) hn hN hp (H g (by simp)).1 (H g (by simp)).2;obtain ⟨ps2,z3,z4,z5,z6,z7,e2,h2,m2⟩:=zdp hn hN l ps1 (some g.v) (some (.bool g.o)) (some (.bool g.m)) q6 q7 h1 fun g hg=>H g (by simp [hg]);refine ⟨ps2,z3,z4,z5,z6,z7,?_,h2,fun q=>?_⟩
  ·exact (zed (.inl e1)).trans e2
  ·rw [m2];simp only [RL_c];constructor
   ·rintro ⟨r,h,h'⟩;obtain ⟨p,hp,hr⟩:=(m1 r).mp h;exact ⟨p,hp,r,hr,h'⟩
   ·rintro ⟨p,hp,r,hr,h'⟩;exact ⟨r,(m1 r).mpr ⟨p,hp,hr⟩,h'⟩
theorem znf {k:Nat} (hn:name.length <= 400000) (hN:name.length+3 <= N) {l:List Gi} {ps:List Nat} (hl:l.length <= 1000000) (hp:Pl name.length ps) (H:∀ g ∈ l,StepOk name (callF N fsAll 2 k) g/\(g.m = true->∀ p q,g.T p q->p < q)) :
  ∃ ps',And3 (callF N fsAll 2 (k+1) 27 [.lst (l.map Gi.V),.bytes name,.lst (ps.map natV)] = .ok (.lst (ps'.map natV))) (Pl name.length ps') (∀ q,q ∈ ps' ↔ ∃ p ∈ ps,RelL l p q):=by
 refine byC fun hG=>?_;obtain ⟨ps',z3,z4,z5,z6,z7,e,h1,h2⟩:=zdp (N:=N) (pc:=pcOf N fsAll 2 k) (items:=.lst (l.map Gi.V)) hn hN l ps none none none none none hp H;refine hG ?_;clear hG;refine ⟨ps',?_,h1,h2⟩;have lm:(l.map Gi.V).length <= 1000000:=by simpa using hl
 exact goC 0x14 rfl fun r=>r (it_l lm) e
noncomputable def It1.gi (name:List Nat) (t:It1):Gi:=⟨t.1.v,t.2.1,t.2.2,TA name t.1⟩
noncomputable def TB (name:List Nat):B->Nat->Nat->Prop
 | .a x=>TA name x
 | .grp l=>RelL (l.map (It1.gi name))
noncomputable def It2.gi (name:List Nat) (t:It2):Gi:=⟨t.1.v,t.2.1,t.2.2,TB name t.1⟩
noncomputable def It1.ok (t:It1):Prop:=t.1.ok
noncomputable def It2.ok (t:It2):Prop:=match t.1 with
 | .a x=>x.ok
 | .grp l=>l.length <= 1000000/\∀ t ∈ l,It1.ok t
theorem zm1 {name:List Nat} {a:A} {p q:Nat} (h:TA name a p q):p < q:=by
 cases a with
 | none=>exact h.elim
 | cls neg rs=>have:=h.1; omega
theorem zs7 {k:Nat} (hn:name.length <= 400000) (hN:name.length+3 <= N) {l:List It1} {o m:Bool} (hl:l.length <= 1000000) (H:∀ t ∈ l,It1.ok t):StepOk name (callF N fsAll 2 (k+4)) ⟨(B.grp l).v,o,m,TB name (.grp l)⟩:=by
 intro ps hp;obtain ⟨ps',e,h1,h2⟩:=znf (N:=N) (k:=k+2) (l:=l.map (It1.gi name)) hn hN (by simpa using hl) hp (fun g hg=>by
  obtain ⟨t,ht,rfl⟩:=cG.mp hg;exact ⟨zny (by omega) (H t ht),fun O p q h=>zm1 h⟩)
 refine ⟨ps',?_,h1,h2⟩;have hEv:(l.map (It1.gi name)).map Gi.V = l.map It1.v:=by simp [It1.gi,Gi.V,It1.v]
 rw [hEv] at e;have li:vb1 .isl (.lst (l.map It1.v)) = some (.bool true):=rfl;exact goC 0x4100 rfl fun r=>r li e
theorem zr6 {k:Nat} (hn:name.length <= 400000) (hN:name.length+3 <= N) {l:List It2} (hl:l.length <= 1000000) (H:∀ t ∈ l,It2.ok t) (hG:∀ t ∈ l,t.2.2 = true->∀ p q,TB name t.1 p q->p < q) {ps:List Nat} (hp:Pl name.length ps) :
  ∃ ps',And3 (callF N fsAll 2 (k+5) 27 [.lst (l.map It2.v),.bytes name,.lst (ps.map natV)] = .ok (.lst (ps'.map natV))) (Pl name.length ps') (∀ q,q ∈ ps' ↔ ∃ p ∈ ps,RelL (l.map (It2.gi name)) p q):=by
 obtain ⟨ps',e,h1,h2⟩:=znf (N:=N) (k:=k+4) (l:=l.map (It2.gi name)) hn hN (by simpa using hl) hp (fun g hg=>by
  obtain ⟨t,ht,rfl⟩:=cG.mp hg;refine ⟨?_,hG t ht⟩;have h:=H t ht;obtain ⟨b,o,m⟩:=t;clear ht hg
  cases b with
  | a x=>exact zny (k:=k+2) (by omega) h
  | grp l=>exact zs7 hn hN h.1 h.2)
 have hEv:(l.map (It2.gi name)).map Gi.V = l.map It2.v:=by simp [It2.gi,Gi.V,It2.v]
 rw [hEv] at e;exact ⟨ps',e,h1,h2⟩
end

structure El where
 txt:List Nat
 many:Bool
 neg:Bool
 rs:List (Int × Int)
 fit:List Nat
noncomputable def El.v (e:El):V:=.tup [.bytes e.txt,.bool e.many,.bool e.neg,.lst (e.rs.map rgV),.lst (e.fit.map natV)]
structure FitOk (fit:List Nat):Prop where
 len:fit.length <= 100
 oct:∀ x ∈ fit,x < 256/\x ≠ 47
noncomputable abbrev Pc:=List Nat × List (Int × Int)
noncomputable def Pc.v (p:Pc):V:=.tup [.bytes p.1,.lst (p.2.map rgV)]
structure SetP where
 sign:List Nat
 first:Pc
 mid:List Pc
 last:Pc
structure SetOk (s:SetP):Prop where
 sign:s.sign ∈ [[],[33],[94]]
 first:s.first ∈ firstsN
 mid:∀ m ∈ s.mid,m ∈ membersN
 len:s.mid.length <= 2
 some:s.first.1 = []->s.mid ≠ []
 last:s.last ∈ lastsN
noncomputable def SetP.txt (s:SetP):List Nat:=91 :: (s.sign++(s.first.1++(s.mid.flatMap fD++(s.last.1++[93]))))
noncomputable def SetP.rs (s:SetP):List (Int × Int):=s.first.2++(s.mid.flatMap Prod.snd++s.last.2)
inductive Good:El->Prop where
 | any (fit:List Nat):FitOk fit->Good ⟨[63],false,true,[],fit⟩
 | star (t:List Nat):t = [42] \/ t = [42,42]->Good ⟨t,true,true,[],[]⟩
 | lit (t:List Nat) (o:Nat):(t,o) ∈ lettersN->Good ⟨t,false,false,[((o:Int),(o:Int))],[o]⟩
 | set (s:SetP) (fit:List Nat):SetOk s->FitOk fit->Good ⟨s.txt,false,!s.sign.isEmpty,s.rs,fit⟩
theorem zbx {α:Type} {f:α->V} {l:List α} {r n:Int} {d:α} (hl:l.length <= 1000000) (h0:0 < n) (hn:n = l.length):∃ x ∈ l,vidx (.lst (l.map f)) (.int (r.fmod n)) = some (f x):=by
 have h1:0 <= r.fmod n:=Int.fmod_nonneg_of_pos r h0;have h2:r.fmod n < n:=Int.fmod_lt_of_pos r h0;obtain ⟨j,hj⟩:∃ j:Nat,r.fmod n = j:=⟨(r.fmod n).toNat,by omega⟩;rw [hj];have hj2:j < l.length:=by omega
 exact ⟨l[j],dP hj2,zbu (by simpa using hl) (by simp [hj2])⟩
theorem zin (r:Int):r.fmod 3 = 0 \/ r.fmod 3 = 1 \/ r.fmod 3 = 2:=by
 have h1:0 <= r.fmod 3:=Int.fmod_nonneg_of_pos r (by omega);have h2:r.fmod 3 < 3:=Int.fmod_lt_of_pos r (by omega);omega
noncomputable def PcOk (p:Pc):Prop:=p.1.length <= 12/\p.2.length <= 4/\(∀ x ∈ p.1,x < 256)/\∀ r ∈ p.2,0 <= r.1/\r.1 < 256/\0 <= r.2/\r.2 < 256
theorem zbt:∀ m ∈ membersN,PcOk m:=by unfold PcOk; decide
theorem zh7:∀ m ∈ firstsN,PcOk m:=by unfold PcOk; decide
theorem zjx:∀ m ∈ lastsN,PcOk m:=by unfold PcOk; decide
section
variable {cf:Nat->List V->R V} {N:Nat} {pc:V->V->List V->List V->R (V × List V × List V)}
theorem zfh {rest:Int} {text:List Nat} {rs:List (Int × Int)} {s1 s2 s3 o6 o7:Option V} (ht:text.length <= 1000) (hr:rs.length <= 1000) :
  (text ≠ []/\exs N cf pc q_law_set_2 [ns (some (.int rest)),ns s1,ns s2,ns s3,ns (some (.bytes text)),ns (some (.lst (rs.map rgV))),ns o6,ns o7,ns none,ns none] = .bk [ns (some (.int rest)),ns s1,ns s2,ns s3,ns (some (.bytes text)),ns (some (.lst (rs.map rgV))),ns o6,ns o7,ns none,ns none]) \/
  ∃ m ∈ membersN,Ex2 fun rest' o7'=>exs N cf pc q_law_set_2 [ns (some (.int rest)),ns s1,ns s2,ns s3,ns (some (.bytes text)),ns (some (.lst (rs.map rgV))),ns o6,ns o7,ns none,ns none] = .nx [ns (some (.int rest')),ns s1,ns s2,ns s3,ns (some (.bytes (text++m.1))),ns (some (.lst ((rs++m.2).map rgV))),ns o6,ns o7',ns none,ns none]:=by
 by_cases hb:(rest = 0 \/ rest = -1)/\text ≠ []
 ·refine .inl ⟨hb.2,?_⟩;have hd:=hb.2;rcases hb.1 with rfl | rfl
  ·exact gx 0x100 fun r=>r (nF hd)
  ·exact gx 0x400 fun r=>r (nF hd)
 ·refine .inr ?_;refine byC fun hG=>?_;obtain ⟨m,hm,e1⟩:=zbx (f:=Pc.v) (l:=membersN) (r:=rest) (n:=26) (d:=default) (by decide) (by decide) (by decide);refine hG ?_;clear hG;refine ⟨m,hm,rest.fdiv 26,some (.int (rest.fmod 26)),?_⟩;refine byC fun hG=>?_;obtain ⟨k1,k2,k3,k4⟩:=zbt m hm;rw [show membersN.map Pc.v = members.map pairV by rw [zlk]; rfl] at e1;have e2:vb2 .dm (.int rest) (.int 26) = some (.tup [.int (rest.fdiv 26),.int (rest.fmod 26)]):=dm_i (by decide);have e3:vidx (Pc.v m) (.int 0) = some (.bytes m.1):=rfl;have e4:vidx (Pc.v m) (.int 1) = some (.lst (m.2.map rgV)):=rfl;have e5:vbin .add (.bytes text) (.bytes m.1) = some (.bytes (text++m.1)):=zdh (by omega);have e6:vbin .add (.lst (rs.map rgV)) (.lst (m.2.map rgV)) = some (.lst ((rs++m.2).map rgV)):=by rw [cX]; exact zg4 (by simp; omega)
  by_cases h1:rest = 0
  ·have ht:text = []:=by
    by_cases h:text = []
    ·exact h
    ·exact absurd ⟨.inl h1,h⟩ hb
   clear hb;subst h1 ht;simp only [fJ] at e5;refine hG ?_;exact gx 0x15544000 fun r=>r e2 e1 e3 e5 e1 e4 e6
  ·by_cases h2:rest = -1
   ·have ht:text = []:=by
     by_cases h:text = []
     ·exact h
     ·exact absurd ⟨.inr h2,h⟩ hb
    clear h1 hb;subst h2 ht;simp only [fJ] at e5;refine hG ?_;exact gx 0x55510000 fun r=>r e2 e1 e3 e5 e1 e4 e6
   ·refine hG ?_;exact gx 0x15544044 fun r=>r (sF h1) (sF h2) e2 e1 e3 e5 e1 e4 e6
theorem ziz {rest:Int} {f:Pc} {s1 s2 s3:Option V} (hf:f ∈ firstsN):Ex4 fun (ms:List Pc) (rest':Int) (o6 o7:Option V)=>And4 ((∀ m ∈ ms,m ∈ membersN)) (ms.length <= 2) ((f.1 = []->ms ≠ [])) (forL (bF N cf pc 6 q_law_set_2) ((eB 2).map fun i:Nat=>.int i) [ns (some (.int rest)),ns s1,ns s2,ns s3,ns (some (.bytes f.1)),ns (some (.lst (f.2.map rgV))),ns none,ns none,ns none,ns none]
   = .nx [ns (some (.int rest')),ns s1,ns s2,ns s3,ns (some (.bytes (f.1++ms.flatMap fD))),ns (some (.lst ((f.2++ms.flatMap Prod.snd).map rgV))),ns o6,ns o7,ns none,ns none]):=by
 refine byC fun hG=>?_;obtain ⟨f1,f2,f3,f4⟩:=zh7 f hf;have hr:((eB 2).map fun i:Nat=>V.int i) = [.int (0:Nat),.int (1:Nat)]:=rfl;refine hG ?_;clear hG;rw [hr];refine byC fun hG=>?_;rcases zfh (N:=N) (cf:=cf) (pc:=pc) (rest:=rest) (text:=f.1) (rs:=f.2) (s1:=s1) (s2:=s2) (s3:=s3) (o6:=some (.int (0:Nat))) (o7:=none) (by omega) (by omega) with ⟨h1,e1⟩ | ⟨m,hm,rest1,o7,e1⟩
 ·refine hG ?_;clear hG;refine ⟨[],rest,some (.int (0:Nat)),none,by simp,by simp,fun h=>absurd h h1,?_⟩;simp only [List.flatMap_nil,bV];exact zvx e1
 ·obtain ⟨k1,k2,k3,k4⟩:=zbt m hm;rcases zfh (N:=N) (cf:=cf) (pc:=pc) (rest:=rest1) (text:=f.1++m.1) (rs:=f.2++m.2) (s1:=s1) (s2:=s2) (s3:=s3) (o6:=some (.int (1:Nat))) (o7:=o7) (by simp; omega) (by simp; omega) with ⟨h1,e2⟩ | ⟨m',hm',rest2,o7',e2⟩
  ·refine hG ?_;clear hG;refine ⟨[m],rest1,some (.int (1:Nat)),o7,by simpa using hm,by simp,by simp,?_⟩;simp only [cR,List.flatMap_nil,bV];exact Eq.trans (fl_q e1) (zvx e2)
  ·refine hG ?_;clear hG;refine ⟨[m,m'],rest2,some (.int (1:Nat)),o7',by simp [hm,hm'],by simp,by simp,?_⟩;simp only [cR,List.flatMap_nil,bV,<- bH];exact Eq.trans (fl_q e1) (fl_q e2)
theorem zci (H:HoldsOk cf) {sign:Int} {rs:List (Int × Int)} (hr:rs.length <= 1000) {s0 s2 s3 s4 o6 o7:Option V}:∀ (l:List Nat) (fit:List Nat) (o9:Option V),(∀ x ∈ l,x < 256)->FitOk fit->fit.length <= 6 ->
  Ex2 fun fit' o9'=>And3 (FitOk fit') (fit'.length <= 6) (forL (bF N cf pc 9 q_law_set_1) (l.map natV) [ns s0,ns (some (.int sign)),ns s2,ns s3,ns s4,ns (some (.lst (rs.map rgV))),ns o6,ns o7,some (true,.lst (fit.map natV)),ns o9]
   = .nx [ns s0,ns (some (.int sign)),ns s2,ns s3,ns s4,ns (some (.lst (rs.map rgV))),ns o6,ns o7,some (true,.lst (fit'.map natV)),ns o9'])
 | []=>fun fit o9 O hf hl=>⟨fit,o9,hf,hl,rfl⟩
 | x :: l=>by
  intro fit o9 hx hf hl;have hx0:=hx x (by simp);have stay:Nx (bF N cf pc 9 q_law_set_1 (natV x) [ns s0,ns (some (.int sign)),ns s2,ns s3,ns s4,ns (some (.lst (rs.map rgV))),ns o6,ns o7,some (true,.lst (fit.map natV)),ns o9]) [ns s0,ns (some (.int sign)),ns s2,ns s3,ns s4,ns (some (.lst (rs.map rgV))),ns o6,ns o7,some (true,.lst (fit.map natV)),ns (some (natV x))] ->
    Ex2 fun fit' o9'=>And3 (FitOk fit') (fit'.length <= 6) (forL (bF N cf pc 9 q_law_set_1) ((x :: l).map natV) [ns s0,ns (some (.int sign)),ns s2,ns s3,ns s4,ns (some (.lst (rs.map rgV))),ns o6,ns o7,some (true,.lst (fit.map natV)),ns o9]
     = .nx [ns s0,ns (some (.int sign)),ns s2,ns s3,ns s4,ns (some (.lst (rs.map rgV))),ns o6,ns o7,some (true,.lst (fit'.map natV)),ns o9']):=by
   intro h;obtain ⟨fit',o9',h1,h2,e⟩:=zci H hr l fit (some (natV x)) (fun y hy=>hx y (by simp [hy])) hf hl;exact ⟨fit',o9',h1,h2,(zed h).trans e⟩
  have e1:vb1 .len (.lst (fit.map natV)) = some (.int fit.length):=by rw [zd1 (by simp; omega)]; simp
  have e2:cf 17 [.int x,.bool (!decide (sign = 0)),.lst (rs.map rgV)] = .ok (.bool (holds x (!decide (sign = 0)) rs)):=H (by omega)
  by_cases h1:fit.length < 6
  ·have d1:decide ((fit.length:Int) < 6) = true:=by simp; omega
   by_cases h2:x = 47
   ·refine stay (.inl ?_);clear e2 hx hx0 stay;subst h2;exact gx 0x14 fun r=>r e1 (sm d1)
   ·have h2':¬ (x:Int) = 47:=by omega
    by_cases h3:x = 10
    ·refine stay (.inl ?_);clear e2 hx h2 h2' hx0 stay;subst h3;exact gx 0x14 fun r=>r e1 (sm d1)
    ·have h3':¬ (x:Int) = 10:=by omega
     cases h4:holds x (!decide (sign = 0)) rs
     ·rw [h4] at e2;refine stay (.inl ?_);exact gx 0x41114 fun r=>r e1 (sm d1) (nF h2') (nF h3') e2
     ·rw [h4] at e2;obtain ⟨fit',o9',k1,k2,e⟩:=zci H hr l (fit++[x]) (some (natV x)) (fun y hy=>hx y (by simp [hy])) ⟨by simp; omega,fun y hy=>by
       rcases aU.mp hy with hy | hy
       ·exact hf.oct y hy
       ·clear h4 h3 hx h2' h3' stay;obtain rfl:y = x:=by simpa using hy
        exact ⟨hx0,h2⟩⟩ (by simp; omega)
      refine ⟨fit',o9',k1,k2,?_⟩;have lm:(fit.map natV).length <= 1000000:=by simp; omega
      have rv:=zaj (f:=natV) (l:=fit) (a:=x);refine (zed (.inl ?_)).trans e;exact gx 0x5041114 fun r=>r e1 (sm d1) (nF h2') (nF h3') e2 lm rv
  ·have d1:decide ((fit.length:Int) < 6) = false:=by simp; omega
   refine stay (.inl ?_);exact gx 0x14 fun r=>r e1 (sm d1)
theorem zkg:∀ (rs:List (Int × Int)),(∀ r ∈ rs,0 <= r.1/\r.1 < 256/\0 <= r.2/\r.2 < 256)->∃ l:List Nat,And3 (flat2 (rs.map rgV) = some (l.map natV)) (l.length = 2 * rs.length) (∀ x ∈ l,x < 256)
 | []=>fun O=>⟨[],rfl,rfl,by simp⟩
 | r :: rs=>by
  intro h;obtain ⟨l,h1,h2,h3⟩:=zkg rs fun q hq=>h q (by simp [hq]);obtain ⟨a,b,c,d⟩:=h r (by simp);refine ⟨r.1.toNat :: r.2.toNat :: l,?_,by simp [h2]; omega,fun x hx=>?_⟩
  ·have e1:natV r.1.toNat = .int r.1:=by rw [natV,Int.toNat_of_nonneg a]
   have e2:natV r.2.toNat = .int r.2:=by rw [natV,Int.toNat_of_nonneg c]
   rw [aS,rgV,f2_t,h1,aS,aS,e1,e2]; rfl
  ·simp only [aO] at hx;rcases hx with rfl | rfl | hx
   ·omega
   ·omega
   ·exact h3 x hx
theorem SetOk.small {s:SetP} (h:SetOk s):s.txt.length <= 100/\s.rs.length <= 100/\(∀ x ∈ s.txt,x < 256)/\∀ r ∈ s.rs,0 <= r.1/\r.1 < 256/\0 <= r.2/\r.2 < 256:=by
 obtain ⟨sign,first,mid,last⟩:=s;obtain ⟨h1,h2,h3,h4,h5,h6⟩:=h;dsimp only at h1 h2 h3 h4 h5 h6;obtain ⟨f1,f2,f3,f4⟩:=zh7 _ h2;obtain ⟨l1,l2,l3,l4⟩:=zjx _ h6;have m1:(mid.flatMap fD).length <= 12 * mid.length/\(mid.flatMap Prod.snd).length <= 4 * mid.length:=by
  clear h4 h5;induction mid with
  | nil=>simp
  | cons m mid ih =>
   obtain ⟨k1,k2,_,_⟩:=zbt m (h3 m (by simp));have:=ih fun q hq=>h3 q (by simp [hq]);simp only [cR,aK,aI];omega
 have hs:sign.length <= 1/\∀ x ∈ sign,x < 256:=by
  simp only [aO,bP,or_false] at h1;rcases h1 with rfl | rfl | rfl <;> simp
 unfold SetP.txt SetP.rs;refine ⟨by simp only [aK,aI,bY]; omega,by simp only [aK]; omega,fun x hx=>?_,fun r hr=>?_⟩
 ·simp only [aO,aU,fY,bP,or_false] at hx;rcases hx with rfl | hx | hx | ⟨m,hm,hx⟩ | hx | rfl
  ·omega
  ·exact hs.2 x hx
  ·exact f3 x hx
  ·exact (zbt m (h3 m hm)).2.2.1 x hx
  ·exact l3 x hx
  ·omega
 ·simp only [aU,fY] at hr;rcases hr with hr | ⟨m,hm,hr⟩ | hr
  ·exact f4 r hr
  ·exact (zbt m (h3 m hm)).2.2.2 r hr
  ·exact l4 r hr
theorem zeu:palette.map V.int = ([97,98,46,45,93,55,122,32,195,9,64]:List Nat).map natV:=rfl
theorem zmy {k:Nat} {rest:Int}:∃ e,Good e/\callF N fsAll 2 (k+2) 14 [.int rest] = .ok e.v:=by
 have d3:∀ r:Int,vb2 .dm (.int r) (.int 3) = some (.tup [.int (r.fdiv 3),.int (r.fmod 3)]):=fun r=>dm_i (by decide);have d4:∀ r:Int,vb2 .dm (.int r) (.int 4) = some (.tup [.int (r.fdiv 4),.int (r.fmod 4)]):=fun r=>dm_i (by decide);obtain ⟨f,hf,ef⟩:=zbx (f:=Pc.v) (l:=firstsN) (r:=rest.fdiv 3) (n:=3) (d:=default) (by decide) (by decide) (by decide);obtain ⟨la,hla,ela⟩:=zbx (f:=Pc.v) (l:=lastsN) (r:=(rest.fdiv 3).fdiv 3) (n:=4) (d:=default) (by decide) (by decide) (by decide);obtain ⟨sg,hsg,esg⟩:=zbx (f:=V.bytes) (l:=[[],[33],[94]]) (r:=rest) (n:=3) (d:=default) (by decide) (by decide) (by decide);have hsign:(!decide (rest.fmod 3 = 0)) = !sg.isEmpty:=by
  rcases zin rest with h | h | h <;> rw [h] at esg |-
  ·have:vidx (.lst ([[],[33],[94]].map V.bytes)) (.int 0) = some (.bytes []):=rfl;rw [this] at esg; cases esg; rfl
  ·have:vidx (.lst ([[],[33],[94]].map V.bytes)) (.int 1) = some (.bytes [33]):=rfl;rw [this] at esg; cases esg; rfl
  ·have:vidx (.lst ([[],[33],[94]].map V.bytes)) (.int 2) = some (.bytes [94]):=rfl;rw [this] at esg; cases esg; rfl
 rw [show firstsN.map Pc.v = firsts.map pairV by rw [zn4]; rfl] at ef;rw [show lastsN.map Pc.v = lasts.map pairV by rw [zou]; rfl] at ela;have d3a:=d3 rest;generalize hsgn:rest.fmod 3 = sgn at *;obtain ⟨ms,rest',o6,o7,hms,hml,hmn,eturn⟩:=ziz (N:=N) (cf:=callF N fsAll 2 (k+1)) (pc:=pcOf N fsAll 2 (k+1)) (rest:=((rest.fdiv 3).fdiv 3).fdiv 4) (f:=f) (s1:=some (.int sgn)) (s2:=some (.int ((rest.fdiv 3).fmod 3))) (s3:=some (.int (((rest.fdiv 3).fdiv 3).fmod 4))) hf;have hset:SetOk ⟨sg,f,ms,la⟩:=⟨hsg,hf,hms,hml,hmn,hla⟩;obtain ⟨z1,z2,z3,z4⟩:=hset.small;obtain ⟨k1,k2,k3,k4⟩:=zjx la hla;have z2':(f.2++ms.flatMap Prod.snd).length <= 100:=by simp only [SetP.rs,aK] at z2 |-; omega
 have z1':sg.length+f.1.length+(ms.flatMap fD).length+la.1.length <= 100:=by simp only [SetP.txt,aK,aI,bY] at z1 |-; omega
 have hrs:(f.2++ms.flatMap Prod.snd)++la.2 = SetP.rs ⟨sg,f,ms,la⟩:=by simp [SetP.rs]
 have htx:SetP.txt ⟨sg,f,ms,la⟩ = 91 :: (sg++(f.1++ms.flatMap fD)++la.1++[93]):=by simp [SetP.txt]
 generalize hR:SetP.rs ⟨sg,f,ms,la⟩ = Rg at *;have hpal:∀ x ∈ ([97,98,46,45,93,55,122,32,195,9,64]:List Nat),x < 256:=by decide
 have z5:∀ r ∈ Rg.take 4,0 <= r.1/\r.1 < 256/\0 <= r.2/\r.2 < 256:=fun r hr=>z4 r (cW hr);obtain ⟨fl,fl1,fl2,fl3⟩:=zkg (Rg.take 4) z5;have H:HoldsOk (callF N fsAll 2 (k+1)):=fun h=>zi2 h;have e0:vidx (Pc.v la) (.int 0) = some (.bytes la.1):=rfl;have e1:vidx (Pc.v la) (.int 1) = some (.lst (la.2.map rgV)):=rfl;have a1:vbin .add (.lst ((f.2++ms.flatMap Prod.snd).map rgV)) (.lst (la.2.map rgV)) = some (.lst (Rg.map rgV)):=by rw [zg4 (by simp only [bQ]; omega),<- cX,hrs]
 generalize hT:f.1++ms.flatMap fD = T at *;have zT:sg.length+T.length+la.1.length <= 100:=by rw [<- hT,aK]; omega
 have b1:vbin .add (.bytes [91]) (.bytes sg) = some (.bytes (91 :: sg)):=zdh (by simp; omega);have b2:vbin .add (.bytes (91 :: sg)) (.bytes T) = some (.bytes (91 :: (sg++T))):=zdh (by simp; omega);have b3:vbin .add (.bytes (91 :: (sg++T))) (.bytes la.1) = some (.bytes (91 :: (sg++T++la.1))):=zdh (by simp; omega);have b4:vbin .add (.bytes (91 :: (sg++T++la.1))) (.bytes [93]) = some (.bytes (91 :: (sg++T++la.1++[93]))):=zdh (by simp; omega)
 by_cases h0:sgn = 0
 ·have c1:vsl none (some (.int 4)) (.lst (Rg.map rgV)) = some (.lst ((Rg.take 4).map rgV)):=by
   show vslice none (some ((4:Nat):Int)) (.lst (Rg.map rgV)) = _;rw [vslice,zas (by simp; omega),At.cut_hi,List.map_take]
  have c2:vflat2 (.lst ((Rg.take 4).map rgV)) = some (.lst (fl.map natV)):=by
   have:(Rg.take 4).length <= 4:=by simp; omega
   simp only [vflat2,fl1];rw [if_pos (by simp; omega)]
  have c3:vbin .add (.lst (fl.map natV)) (.lst (palette.map V.int)) = some (.lst ((fl++[97,98,46,45,93,55,122,32,195,9,64]).map natV)):=by
   have:(Rg.take 4).length <= 4:=by simp; omega
   rw [zeu,zg4 (by simp; omega),cX]
  obtain ⟨fit,o9,q1,q2,efit⟩:=zci (N:=N) (cf:=callF N fsAll 2 (k+1)) (pc:=pcOf N fsAll 2 (k+1)) H (sign:=sgn) (rs:=Rg) (by omega) (s0:=some (.int rest')) (s2:=some (.int ((rest.fdiv 3).fmod 3))) (s3:=some (.int (((rest.fdiv 3).fdiv 3).fmod 4))) (s4:=some (.bytes T)) (o6:=o6) (o7:=o7) (fl++[97,98,46,45,93,55,122,32,195,9,64]) [] none (fun x hx=>by
   rcases aU.mp hx with hx | hx
   ·exact fl3 x hx
   ·exact hpal x hx) ⟨by simp,by simp⟩ (by simp)
  refine ⟨_,.set ⟨sg,f,ms,la⟩ fit hset q1,?_⟩;have lm:((fl++[97,98,46,45,93,55,122,32,195,9,64]).map natV).length <= 1000000:=by
   have:(Rg.take 4).length <= 4:=by simp; omega
   simp; omega
  rw [decide_eq_true h0] at hsign;rw [El.v,htx,hR,<- hsign];exact goC 0x5555155105444444 rfl fun r=>r d3a (d3 _) (d4 _) ef eturn ela e1 a1 (nT h0) c1 c2 c3 (it_l lm) efit esg b1 b2 ela e0 b3 b4 (nT h0)
 ·obtain ⟨fit,o9,q1,q2,efit⟩:=zci (N:=N) (cf:=callF N fsAll 2 (k+1)) (pc:=pcOf N fsAll 2 (k+1)) H (sign:=sgn) (rs:=Rg) (by omega) (s0:=some (.int rest')) (s2:=some (.int ((rest.fdiv 3).fmod 3))) (s3:=some (.int (((rest.fdiv 3).fdiv 3).fmod 4))) (s4:=some (.bytes T)) (o6:=o6) (o7:=o7) [97,98,46,45,93,55,122,32,195,9,64] [] none hpal ⟨by simp,by simp⟩ (by simp);refine ⟨_,.set ⟨sg,f,ms,la⟩ fit hset q1,?_⟩;have lm:(palette.map V.int).length <= 1000000:=by decide
  rw [<- zeu] at efit;rw [decide_eq_false h0] at hsign;rw [El.v,htx,hR,<- hsign];exact goC 0x155545105444444 rfl fun r=>r d3a (d3 _) (d4 _) ef eturn ela e1 a1 (nF h0) (it_l lm) efit esg b1 b2 ela e0 b3 b4 (nF h0)
end

noncomputable abbrev Comp:=List El
noncomputable def compV (c:Comp):V:=.lst (c.map El.v)
noncomputable def letV (p:List Nat × Nat):V:=.tup [.bytes p.1,.int p.2]
noncomputable def TailOk (tb:List Nat):Prop:=tb = [] \/ ∃ t ∈ tailsN,∃ b ∈ behindN,tb = t++b
noncomputable def GoodC (c:Comp):Prop:=∀ e ∈ c,Good e
structure PS (m:Nat) (cs:List Comp) (part:Comp) (tail:List Nat):Prop where
 gc:∀ c ∈ cs,GoodC c
 gp:GoodC part
 gt:TailOk tail
 n1:cs.length+part.length <= m
 n2:(cs.map cS).sum+part.length <= m
section
variable {cf:Nat->List V->R V} {N:Nat} {pc:V->V->List V->List V->R (V × List V × List V)}
theorem zm7 {k:Nat}:callF N fsAll 2 (k+1) 10 [] = .ok (.lst (lettersN.map letV)):=by rw [callF_succ]; rfl
theorem zs1 {k:Nat}:callF N fsAll 2 (k+1) 11 [] = .ok (.lst (tailsN.map V.bytes)):=by rw [callF_succ]; rfl
theorem zod {k:Nat}:callF N fsAll 2 (k+1) 12 [] = .ok (.lst (behindN.map V.bytes)):=by rw [callF_succ]; rfl
theorem zok {k:Nat}:callF N fsAll 2 (k+1) 13 [] = .ok (.lst (([97,98,46,45,93,55,122,32,195,9,64,100,96,58,91,123,71,103,11,12,31,127,128,42]:List Nat).map natV)):=by rw [callF_succ]; rfl
theorem zer:∀ t ∈ tailsN,t.length <= 20/\t ≠ []/\∀ x ∈ t,x < 256:=by decide
theorem zdf:∀ t ∈ behindN,t.length <= 20/\∀ x ∈ t,x < 256:=by decide
noncomputable abbrev pσ (o0:Option V) (cs:List Comp) (part:Comp) (tail:List Nat) (o4 o5 o6 o7 o8:Option V):List Slot :=
 [ns o0,some (true,.lst (cs.map compV)),some (true,.lst (part.map El.v)),ns (some (.bytes tail)),ns o4,ns o5,ns o6,ns o7,ns o8]
theorem zlm (H10:cf 10 [] = .ok (.lst (lettersN.map letV))) (H11:cf 11 [] = .ok (.lst (tailsN.map V.bytes))) (H12:cf 12 [] = .ok (.lst (behindN.map V.bytes))) (H14:∀ r:Int,∃ e,Good e/\cf 14 [.int r] = .ok e.v)
  {m:Nat} {cs:List Comp} {part:Comp} {tail:List Nat} (P:PS m cs part tail) (hm:m <= 100000) {num:Int} {o0 o5 o6 o7 o8:Option V} :
  Ey7 (fun cs' part' tail' o5' o6' o7' o8'=>PS (m+1) cs' part' tail') (fun cs' part' tail' o5' o6' o7' o8'=>exs N cf pc q_law_pattern_1 (pσ o0 cs part tail (some (.int num)) o5 o6 o7 o8) = .nx (pσ o0 cs' part' tail' (some (.int num)) o5' o6' o7' o8')):=by
 refine byC fun hG=>?_;obtain ⟨p1,p2,p3,p4,p5⟩:=P;have d16:vb2 .dm (.int num) (.int 16) = some (.tup [.int (num.fdiv 16),.int (num.fmod 16)]):=dm_i (by decide);refine hG ?_;clear hG;generalize hkind:num.fmod 16 = kind at *;generalize hrest:num.fdiv 16 = rest at *;have lc:(cs.map compV).length <= 1000000:=by simp; omega
 have lp:(part.map El.v).length <= 1000000:=by simp; omega
 have more:∀ (e:El) (o7' o8':Option V),Good e->exs N cf pc q_law_pattern_1 (pσ o0 cs part tail (some (.int num)) o5 o6 o7 o8) = .nx (pσ o0 cs (part++[e]) tail (some (.int num)) (some (.int rest)) (some (.int kind)) o7' o8') ->
   Ey7 (fun cs' part' tail' o5' o6' o7' o8'=>PS (m+1) cs' part' tail') (fun cs' part' tail' o5' o6' o7' o8'=>exs N cf pc q_law_pattern_1 (pσ o0 cs part tail (some (.int num)) o5 o6 o7 o8) = .nx (pσ o0 cs' part' tail' (some (.int num)) o5' o6' o7' o8')) :=
  fun e o7' o8' he h=>⟨cs,part++[e],tail,_,_,o7',o8',⟨p1,fun x hx=>by
   rcases aU.mp hx with hx | hx
   ·exact p2 x hx
   ·clear h;obtain rfl:x = e:=by simpa using hx
    exact he,p3,by simp; omega,by simp; omega⟩,h⟩
 by_cases h14:kind = 14
 ·clear more;subst h14;clear lp
  cases part with
  | nil =>
   refine ⟨cs++[[]],[],tail,some (.int rest),some (.int 14),o7,o8,⟨fun c hc=>?_,p2,p3,by simp at p4 |-; omega,by simp at p5 |-; omega⟩,?_⟩
   ·rcases aU.mp hc with hc | hc
    ·exact p1 c hc
    ·obtain rfl:c = []:=by simpa using hc
     exact fun e he=>nomatch he
   ·have rv:=zaj (f:=compV) (l:=cs) (a:=[]);exact gx 0x1400000004 fun r=>r d16 lc rv
  | cons e part =>
   refine ⟨cs++[e :: part,[]],[],tail,some (.int rest),some (.int 14),o7,o8,⟨fun c hc=>?_,fun e he=>(nomatch he),p3,by simp at p4 |-; omega,by simp at p5 |-; omega⟩,?_⟩
   ·simp only [aU,aO,bP,or_false] at hc;rcases hc with hc | rfl | rfl
    ·exact p1 c hc
    ·exact p2
    ·exact fun e he=>nomatch he
   ·have lc2:((cs++[e :: part]).map compV).length <= 1000000:=by simp; omega
    have rv:=zaj (f:=compV) (l:=cs) (a:=e :: part);have rv2:=zaj (f:=compV) (l:=cs++[e :: part]) (a:=[]);rw [bH] at rv2;exact gx 0x50014000004 fun r=>r d16 lc rv lc2 rv2
 ·by_cases h12:kind = 12 \/ kind = 13
  ·clear more lp
   cases part with
   | nil =>
    refine ⟨cs,[],tail,some (.int rest),some (.int kind),o7,o8,⟨p1,p2,p3,by simp at p4 |-; omega,by simp at p5 |-; omega⟩,?_⟩;clear h14;rcases h12 with rfl | rfl
    ·exact gx 4 fun r=>r d16
    ·exact gx 4 fun r=>r d16
   | cons e part =>
    refine ⟨cs++[e :: part],[],tail,some (.int rest),some (.int kind),o7,o8,⟨fun c hc=>?_,fun e he=>(nomatch he),p3,by simp at p4 |-; omega,by simp at p5 |-; omega⟩,?_⟩
    ·simp only [aU,aO,bP,or_false] at hc;rcases hc with hc | rfl
     ·exact p1 c hc
     ·exact p2
    ·have rv:=zaj (f:=compV) (l:=cs) (a:=e :: part);clear h14;rcases h12 with rfl | rfl
     ·exact gx 0x500004 fun r=>r d16 lc rv
     ·exact gx 0x5000004 fun r=>r d16 lc rv
  ·refine byC fun hG=>?_;obtain ⟨h12,h13⟩:¬ kind = 12/\¬ kind = 13:=by omega
   by_cases h5:kind = 5 \/ kind = 6
   ·refine hG ?_;clear hG;refine more ⟨[63],false,true,[],[97,98,46,45,93,55,122,32,195,9,64]⟩ o7 o8 (.any _ ⟨by simp,by decide⟩) ?_;have rv:=zaj (f:=El.v) (l:=part) (a:=⟨[63],false,true,[],[97,98,46,45,93,55,122,32,195,9,64]⟩);clear more h13 h14 h12;rcases h5 with rfl | rfl
    ·exact gx 0x50000004 fun r=>r d16 lp rv
    ·exact gx 0x140000004 fun r=>r d16 lp rv
   ·obtain ⟨h5,h6⟩:¬ kind = 5/\¬ kind = 6:=by omega
    by_cases h7:kind = 7 \/ kind = 8
    ·have m3:vbin .mod (.int rest) (.int 3) = some (.int (rest.fmod 3)):=zd2 (by decide)
     by_cases hr:rest.fmod 3 = 2
     ·refine hG ?_;clear hG;refine more ⟨[42,42],true,true,[],[]⟩ o7 o8 (.star _ (.inr rfl)) ?_;have rv:=zaj (f:=El.v) (l:=part) (a:=⟨[42,42],true,true,[],[]⟩);clear h5 more h13 h14 h12 h6;rcases h7 with rfl | rfl
      ·exact gx 0x514000000004 fun r=>r d16 m3 (sT hr) lp rv
      ·exact gx 0x1450000000004 fun r=>r d16 m3 (sT hr) lp rv
     ·refine hG ?_;clear hG;refine more ⟨[42],true,true,[],[]⟩ o7 o8 (.star _ (.inl rfl)) ?_;have rv:=zaj (f:=El.v) (l:=part) (a:=⟨[42],true,true,[],[]⟩);clear h5 more h13 h14 h12 h6;rcases h7 with rfl | rfl
      ·exact gx 0x514000000004 fun r=>r d16 m3 (sF hr) lp rv
      ·exact gx 0x1450000000004 fun r=>r d16 m3 (sF hr) lp rv
    ·obtain ⟨h7,h8⟩:¬ kind = 7/\¬ kind = 8:=by omega
     by_cases h9:kind = 9 \/ kind = 10 \/ kind = 11
     ·obtain ⟨e,he,ce⟩:=H14 rest;refine hG ?_;clear hG;refine more e o7 o8 he ?_;have rv:=zaj (f:=El.v) (l:=part) (a:=e);clear h5 h7 more h13 h14 h12 h8 h6;rcases h9 with rfl | rfl | rfl
      ·exact gx 0x15000000000004 fun r=>r d16 ce lp rv
      ·exact gx 0x150000000000004 fun r=>r d16 ce lp rv
      ·exact gx 0x540000000000004 fun r=>r d16 ce lp rv
     ·obtain ⟨h9,h10,h11⟩:¬ kind = 9/\¬ kind = 10/\¬ kind = 11:=by omega
      have m3:vbin .mod (.int rest) (.int 3) = some (.int (rest.fmod 3)):=zd2 (by decide)
      by_cases h15:kind = 15/\rest.fmod 3 = 1
      ·clear h5 h7 h13 more h10 h14 h11 h12 h9 h8 h6;obtain ⟨rfl,hr⟩:=h15;have v3:vbin .div (.int rest) (.int 3) = some (.int (rest.fdiv 3)):=ztx (by decide);have v39:vbin .div (.int rest) (.int 39) = some (.int (rest.fdiv 39)):=ztx (by decide);have m13:vbin .mod (.int (rest.fdiv 3)) (.int 13) = some (.int ((rest.fdiv 3).fmod 13)):=zd2 (by decide);have m4:vbin .mod (.int (rest.fdiv 39)) (.int 4) = some (.int ((rest.fdiv 39).fmod 4)):=zd2 (by decide);obtain ⟨t,ht,e1⟩:=zbx (f:=V.bytes) (l:=tailsN) (r:=rest.fdiv 3) (n:=13) (d:=default) (by decide) (by decide) (by decide);obtain ⟨b,hb,e2⟩:=zbx (f:=V.bytes) (l:=behindN) (r:=rest.fdiv 39) (n:=4) (d:=default) (by decide) (by decide) (by decide);have k1:=(zer t ht).1;have k2:=(zdf b hb).1;have a1:vbin .add (.bytes t) (.bytes b) = some (.bytes (t++b)):=zdh (by omega);refine hG ?_;clear hG;refine ⟨cs,part,t++b,some (.int rest),some (.int 15),o7,o8,⟨p1,p2,.inr ⟨t,ht,b,hb,rfl⟩,by omega,by omega⟩,?_⟩;exact gx 0x555541400000000000004 fun r=>r d16 m3 (sT hr) H11 v3 m13 e1 H12 v39 m4 e2 a1
      ·have m25:vbin .mod (.int rest) (.int 25) = some (.int (rest.fmod 25)):=zd2 (by decide);obtain ⟨t,ht,e1⟩:=zbx (f:=letV) (l:=lettersN) (r:=rest) (n:=25) (d:=default) (by decide) (by decide) (by decide);refine hG ?_;clear hG;refine more ⟨t.1,false,false,[((t.2:Int),(t.2:Int))],[t.2]⟩ (some (.bytes t.1)) (some (.int t.2)) (.lit _ _ ht) ?_;have rv:=zaj (f:=El.v) (l:=part) (a:=⟨t.1,false,false,[((t.2:Int),(t.2:Int))],[t.2]⟩)
       by_cases hk:kind = 15
       ·clear h5 h7 h13 more h10 h14 h11 h12 h9 h8 h6;subst hk;have hr:¬ rest.fmod 3 = 1:=fun z=>h15 ⟨rfl,z⟩;exact gx 0x14541400000000000004 fun r=>r d16 m3 (sF hr) H10 m25 e1 lp rv
       ·exact gx 0x1454041110441104444 fun r=>r d16 (sF h12) (sF h13) (sF h14) (sF h5) (sF h6) (sF h7) (sF h8) (sF h9) (sF h10) (sF h11) (sF hk) H10 m25 e1 lp rv
theorem zfo (H10:cf 10 [] = .ok (.lst (lettersN.map letV))) (H11:cf 11 [] = .ok (.lst (tailsN.map V.bytes))) (H12:cf 12 [] = .ok (.lst (behindN.map V.bytes))) (H14:∀ r:Int,∃ e,Good e/\cf 14 [.int r] = .ok e.v) {o0:Option V} :
  ∀ (ns':List Int) (m:Nat) (cs:List Comp) (part:Comp) (tail:List Nat) (o4 o5 o6 o7 o8:Option V),PS m cs part tail->m+ns'.length <= 100000 ->
  Ey8 (fun cs' part' tail' o4' o5' o6' o7' o8'=>PS (m+ns'.length) cs' part' tail') (fun cs' part' tail' o4' o5' o6' o7' o8'=>forL (bF N cf pc 4 q_law_pattern_1) (ns'.map .int) (pσ o0 cs part tail o4 o5 o6 o7 o8) = .nx (pσ o0 cs' part' tail' o4' o5' o6' o7' o8'))
 | []=>fun m cs part tail o4 o5 o6 o7 o8 P O=>⟨cs,part,tail,o4,o5,o6,o7,o8,P,rfl⟩
 | x :: l=>by
  intro m cs part tail o4 o5 o6 o7 o8 P hm;simp only [aI] at hm |-;obtain ⟨cs1,part1,tail1,q5,q6,q7,q8,P1,e1⟩:=zlm (N:=N) (pc:=pc) H10 H11 H12 H14 P (by omega) (num:=x) (o0:=o0) (o5:=o5) (o6:=o6) (o7:=o7) (o8:=o8);obtain ⟨cs2,part2,tail2,z4,z5,z6,z7,z8,P2,e2⟩:=zfo H10 H11 H12 H14 l (m+1) cs1 part1 tail1 (some (.int x)) q5 q6 q7 q8 P1 (by omega);refine ⟨cs2,part2,tail2,z4,z5,z6,z7,z8,by rw [show m+(l.length+1) = m+1+l.length by omega]; exact P2,?_⟩;rw [aS,zed (.inl (by rw [bF]; exact e1)),e2]
structure PatOk (m:Nat) (cs:List Comp) (tail:List Nat):Prop where
 gc:∀ c ∈ cs,GoodC c
 gt:TailOk tail
 ne:cs ≠ []
 n1:cs.length <= m+1
 n2:(cs.map cS).sum <= m+1
noncomputable def elA:El:=⟨[97],false,false,[(97,97)],[97]⟩
theorem zpa:Good elA:=.lit [97] 97 (by decide)
theorem zmt {k:Nat} {ns':List Int} (hn:ns'.length <= 1000):Ey2 (fun cs tail=>PatOk ns'.length cs tail) (fun cs tail=>callF N fsAll 2 (k+3) 15 [.lst (ns'.map .int)] = .ok (.tup [.lst (cs.map compV),.bytes tail])):=by
 obtain ⟨cs,part,tail,o4,o5,o6,o7,o8,P,e⟩:=zfo (N:=N) (cf:=callF N fsAll 2 (k+2)) (pc:=pcOf N fsAll 2 (k+2)) zm7 zs1 zod (fun r=>zmy) (o0:=some (.lst (ns'.map .int))) ns' 0 [] [] [] none none none none none ⟨by simp,fun e he=>(nomatch he),.inl rfl,by simp,by simp⟩ (by omega);rw [Nat.zero_add] at P;obtain ⟨p1,p2,p3,p4,p5⟩:=P;have lm:(ns'.map V.int).length <= 1000000:=by simp; omega
 have lc:(cs.map compV).length <= 1000000:=by simp; omega
 cases part with
 | nil =>
  clear lc
  cases cs with
  | nil =>
   refine ⟨[[elA]],tail,⟨fun c hc=>?_,p3,by simp,by simp,by simp⟩,?_⟩
   ·obtain rfl:c = [elA]:=by simpa using hc
    intro e he;obtain rfl:e = elA:=by simpa using he
    exact zpa
   ·exact goC 0x50 rfl fun r=>r (it_l lm) e
  | cons c cs =>
   refine ⟨c :: cs,tail,⟨p1,p3,by simp,by simp at p4 |-; omega,by simp at p5 |-; omega⟩,?_⟩;exact goC 0x50 rfl fun r=>r (it_l lm) e
 | cons x part =>
  refine ⟨cs++[x :: part],tail,⟨fun c hc=>?_,p3,by simp,by simp at p4 |-; omega,by simp at p5 |-; omega⟩,?_⟩
  ·simp only [aU,aO,bP,or_false] at hc;rcases hc with hc | rfl
   ·exact p1 c hc
   ·exact p2
  ·have rv:=zaj (f:=compV) (l:=cs) (a:=x :: part);exact goC 0x1400050 rfl fun r=>r (it_l lm) e lc rv
end

noncomputable def textOf (c:Comp):List Nat:=if c = [] then [42,42] else if c.all (fun O=>O.many) then [42] else c.flatMap (fun O=>O.txt)
theorem zfm:∀ (l:List Bool),vany (.bool false) (l.map .bool) = some (!l.all id)
 | []=>rfl
 | b :: l=>by simp [va_c,vscal,two,kdI,kdB,kdO,zfm l]
noncomputable def rangeN (a b:Nat):List Nat:=(eB (b - a)).map (a+·)
theorem rangeN_mem {a b q:Nat}:q ∈ rangeN a b ↔ a <= q/\q < b:=by
 simp only [rangeN,cG,List.mem_range];constructor
 ·rintro ⟨x,h,rfl⟩; omega
 ·rintro ⟨h1,h2⟩; exact ⟨q - a,by omega,by omega⟩
theorem zmh {a b:Nat} (ha:a <= 1000000) (hb:b <= 1000000):vrange (.int a) (.int b) = some (.lst ((rangeN a b).map natV)):=by
 have s1:small a = true:=by unfold small; simp; omega
 have s2:small b = true:=by unfold small; simp; omega
 have e:vints (a:Int) (b:Int) = (rangeN a b).map natV:=by
  unfold vints rangeN;rw [List.map_map,show ((b:Int) - (a:Int)).toNat = b - a by omega];rfl
 rw [zps ⟨s1,s2,by omega⟩,e]
structure Sl (L:Nat) (ps:List Nat):Prop where
 so:ps.Pairwise (· < ·)
 le:∀ q ∈ ps,q <= L
theorem Sl.len {L:Nat} {ps:List Nat} (h:Sl L ps):ps.length <= L+1 :=
 zc5 (L+1) ps (h.so.imp fun h=>by omega) fun x hx=>by have:=h.le x hx; omega
theorem Sl.min {L p:Nat} {ps:List Nat} (h:Sl L (p :: ps)):∀ q ∈ p :: ps,p <= q:=by
 intro q hq;rcases aO.mp hq with rfl | hq
 ·omega
 ·have:=(List.pairwise_cons.mp h.so).1 q hq; omega
theorem Sl.range {L a:Nat} (h:a <= L):Sl L (rangeN a (L+1)):=by
 refine ⟨?_,fun q hq=>by have:=rangeN_mem.mp hq; omega⟩;unfold rangeN;rw [fR];exact List.pairwise_lt_range.imp fun h=>by omega
theorem Sl.step {L:Nat} {ps:List Nat} {P:Nat->Bool} (h:Sl L ps) (hP:∀ q,P q = true->q < L):Sl L ((ps.filter P).map (·+1)):=by
 refine ⟨?_,fun q hq=>?_⟩
 ·rw [fR];exact (h.so.filter _).imp fun h=>by omega
 ·simp only [cG,gF] at hq;obtain ⟨x,⟨_,h2⟩,rfl⟩:=hq;have:=hP x h2;omega
noncomputable def EM (part:List Nat) (e:El) (p q:Nat):Prop:=if e.many then p <= q/\q <= part.length else q = p+1/\p < part.length/\holds (part.getD p 0) e.neg e.rs = true
noncomputable def EMs (part:List Nat):Comp->Nat->Nat->Prop
 | [],p,q=>p = q
 | e :: c,p,q=>∃ r,EM part e p r/\EMs part c r q
theorem EM_n {part:List Nat} {p q:Nat}:EMs part [] p q = (p = q):=rfl
theorem EM_c {part:List Nat} {e:El} {c:Comp} {p q:Nat}:EMs part (e :: c) p q = ∃ r,EM part e p r/\EMs part c r q:=rfl
section
variable {cf:Nat->List V->R V} {N:Nat} {pc:V->V->List V->List V->R (V × List V × List V)}
theorem zv0 {k:Nat} {c:Comp} (hc:c.length <= 100000) (ht:(c.flatMap (fun O=>O.txt)).length <= 1000000):callF N fsAll 2 (k+1) 16 [compV c] = .ok (.bytes (textOf c)):=by
 have lm:(c.map El.v).length <= 1000000:=by simp; omega
 cases c with
 | nil=>exact goC 0 rfl fun r=>r
 | cons e c =>
  have key:∀ f:V->R (Option V),(∀ x ∈ e :: c,f (El.v x) = .ok (some (.bool x.many)))->compL f ((e :: c).map El.v) = .ok (((e :: c).map (fun O=>O.many)).map .bool):=fun f H=>zbq (g:=El.v) (h:=V.bool) (fun x:El=>x.many) _ H;have key2:∀ f:V->R (Option V),(∀ x ∈ e :: c,f (El.v x) = .ok (some (.bytes x.txt)))->compL f ((e :: c).map El.v) = .ok (((e :: c).map (fun O=>O.txt)).map .bytes):=fun f H=>zbq (g:=El.v) (h:=V.bytes) (fun x:El=>x.txt) _ H;have e1:vin (.bool false) (.lst (((e :: c).map (fun O=>O.many)).map V.bool)) = some (!(e :: c).all (fun O=>O.many)):=by rw [vin,zfm,List.all_map]; rfl
  have e2:vjoin [] (.lst (((e :: c).map (fun O=>O.txt)).map .bytes)) = some (.bytes ((e :: c).flatMap (fun O=>O.txt))):=by
   have e3:joinL [] ((e :: c).map (fun O=>O.txt)) = (e :: c).flatMap (fun O=>O.txt):=by rw [zcc,List.flatMap_def]
   rw [zhg (by rw [e3]; omega),e3]
  cases ha:(e :: c).all (fun O=>O.many)
  ·rw [ha] at e1;rw [show textOf (e :: c) = (e :: c).flatMap (fun O=>O.txt) by rw [textOf,if_neg (by simp),if_neg (by rw [ha]; exact aJ)]];refine goC 0x541500 rfl fun r=>r lm (key _ ?_) e1 lm (key2 _ ?_) e2
   ·intro x _;exact goI 0 fun r=>r
   ·intro x _;exact goI 0 fun r=>r
  ·rw [ha] at e1;rw [show textOf (e :: c) = [42] by rw [textOf,if_neg (by simp),if_pos ha]];refine goC 0x1500 rfl fun r=>r lm (key _ ?_) e1;intro x _;exact goI 0 fun r=>r
noncomputable abbrev paσ (c:V) (part ps:List Nat) (b:Bool) (o3 o4 o5 o6 o7:Option V):List Slot:=[ns (some c),ns (some (.bytes part)),some (b,.lst (ps.map natV)),ns o3,ns o4,ns o5,ns o6,ns o7]
theorem zie (H:HoldsOk cf) {part:List Nat} (hp:part.length <= 400000) {c:V} {ps:List Nat} {b:Bool} {e:El} (hr:e.rs.length <= 1000000) (hs:Sl part.length ps) :
  ∃ ps',And3 (exs N cf pc q_law_part_1 (paσ c part ps b (some (.bytes e.txt)) (some (.bool e.many)) (some (.bool e.neg)) (some (.lst (e.rs.map rgV))) (some (.lst (e.fit.map natV)))) = .nx (paσ c part ps' false (some (.bytes e.txt)) (some (.bool e.many)) (some (.bool e.neg)) (some (.lst (e.rs.map rgV))) (some (.lst (e.fit.map natV))))) (Sl part.length ps') (∀ q,q ∈ ps' ↔ ∃ p ∈ ps,EM part e p q):=by
 have hl:=zb6 (b:=part) (by omega);have l0:=hs.len
 cases hm:e.many
 ·refine ⟨(ps.filter fun q=>decide (q < part.length) && holds (part.getD q 0) e.neg e.rs).map (·+1),?_,hs.step (fun q h=>by simp at h; exact h.1),fun q=>?_⟩
  ·have lm:(ps.map natV).length <= 1000000:=by simp; omega
   have key:=fun f=>zc9 (f:=f) (g:=natV) (h:=natV) (fun q=>decide (q < part.length) && holds (part.getD q 0) e.neg e.rs) (·+1) ps;have item:∀ q ∈ ps,((decide (q < part.length) && holds (part.getD q 0) e.neg e.rs) = true/\turnX cf (.bin .add (.nm 8) (.cst (.int 1))) 0 (.nm 2) (.cons (.bool true (.cmp .lt (.nm 8) (.bi1 .len (.nm 1))) (.cons (.call 17 (.cons (.idx (.nm 1) (.nm 8)) (.cons (.nm 5) (.cons (.nm 6) .nil)))) .nil)) .nil) (paσ c part ps b (some (.bytes e.txt)) (some (.bool false)) (some (.bool e.neg)) (some (.lst (e.rs.map rgV))) (some (.lst (e.fit.map natV)))) (natV q) = .ok (some (natV (q+1)))) \/ ((decide (q < part.length) && holds (part.getD q 0) e.neg e.rs) = false/\turnX cf (.bin .add (.nm 8) (.cst (.int 1))) 0 (.nm 2) (.cons (.bool true (.cmp .lt (.nm 8) (.bi1 .len (.nm 1))) (.cons (.call 17 (.cons (.idx (.nm 1) (.nm 8)) (.cons (.nm 5) (.cons (.nm 6) .nil)))) .nil)) .nil) (paσ c part ps b (some (.bytes e.txt)) (some (.bool false)) (some (.bool e.neg)) (some (.lst (e.rs.map rgV))) (some (.lst (e.fit.map natV)))) (natV q) = .ok none):=by
    intro q _
    by_cases h:q < part.length
    ·have e2:=zmz (q:=q) (by omega) h;have e3:=H hr (o:=(part.getD q 0:Nat)) (neg:=e.neg);have h':=cH.mpr h;rw [decide_eq_true h,Bool.true_and]
     cases hh:holds (part.getD q 0) e.neg e.rs
     ·rw [hh] at e3;refine .inr ⟨rfl,?_⟩;exact goI 0x145 fun r=>r hl (sT h') e2 e3
     ·rw [hh] at e3;refine .inl ⟨rfl,?_⟩;exact goI 0x145 fun r=>r hl (sT h') e2 e3
    ·have h':=mt cH.mp h;refine .inr ⟨by rw [decide_eq_false h]; rfl,?_⟩;exact goI 5 fun r=>r hl (sF h')
   cases b
   ·exact gx 0x140 fun r=>r lm (key _ item)
   ·exact gx 0x140 fun r=>r lm (key _ item)
  ·simp only [EM,hm,cG,gF,bB,decide_eq_true_eq,dI,if_false];constructor
   ·rintro ⟨x,⟨h1,h2,h3⟩,rfl⟩; exact ⟨x,h1,rfl,h2,h3⟩
   ·rintro ⟨x,h1,rfl,h2,h3⟩; exact ⟨x,⟨h1,h2,h3⟩,rfl⟩
 ·cases ps with
  | nil =>
   refine ⟨[],?_,hs,fun q=>by simp⟩
   cases b
   ·exact gx 0 fun r=>r
   ·exact gx 0 fun r=>r
  | cons p ps =>
   have hp1:=hs.le p (by simp);refine ⟨rangeN p (part.length+1),?_,Sl.range hp1,fun q=>?_⟩
   ·have e1:vtruth (.lst ((p :: ps).map natV)) = some true:=by simp only [vtruth]; rw [if_pos (by simp at l0 |-; omega)]; rfl
    have e2:=zbu (i:=0) (l:=(p :: ps).map natV) (d:=.int p) (by simp at l0 |-; omega) rfl;have e3:=zmh (a:=p) (b:=part.length+1) (by omega) (by omega);simp only [fK,cN] at e2 e3
    cases b
    ·exact gx 0x4540 fun r=>r e1 e2 hl e3
    ·exact gx 0x4540 fun r=>r e1 e2 hl e3
   ·simp only [EM,hm,if_true,rangeN_mem];constructor
    ·rintro ⟨h1,h2⟩; exact ⟨p,by simp,h1,by omega⟩
    ·rintro ⟨x,hx,h1,h2⟩; have:=hs.min x hx; exact ⟨by omega,by omega⟩
theorem zev (H:HoldsOk cf) {part:List Nat} (hp:part.length <= 400000) {c0:V}:∀ (c:Comp) (ps:List Nat) (b:Bool) (o3 o4 o5 o6 o7:Option V),(∀ e ∈ c,e.rs.length <= 1000000)->Sl part.length ps ->
  Ex7 fun ps' b' o3' o4' o5' o6' o7'=>And3 (forL (bT N cf pc [3,4,5,6,7] q_law_part_1) (c.map El.v) (paσ c0 part ps b o3 o4 o5 o6 o7) = .nx (paσ c0 part ps' b' o3' o4' o5' o6' o7')) (Sl part.length ps') (∀ q,q ∈ ps' ↔ ∃ p ∈ ps,EMs part c p q)
 | []=>fun ps b o3 o4 o5 o6 o7 O hs=>⟨ps,b,o3,o4,o5,o6,o7,rfl,hs,fun q=>by simp [EM_n]⟩
 | e :: c=>by
  intro ps b o3 o4 o5 o6 o7 hr hs;obtain ⟨ps1,e1,h1,m1⟩:=zie (N:=N) (pc:=pc) H hp (c:=c0) (b:=b) (hr e (by simp)) hs;obtain ⟨ps2,b',z3,z4,z5,z6,z7,e2,h2,m2⟩:=zev H hp c ps1 false _ _ _ _ _ (fun x hx=>hr x (by simp [hx])) h1;refine ⟨ps2,b',z3,z4,z5,z6,z7,?_,h2,fun q=>?_⟩
  ·exact Eq.trans (fl_q e1) e2
  ·rw [m2];simp only [EM_c];constructor
   ·rintro ⟨r,h,h'⟩;obtain ⟨p,hp,hr⟩:=(m1 r).mp h;exact ⟨p,hp,r,hr,h'⟩
   ·rintro ⟨p,hp,r,hr,h'⟩;exact ⟨r,(m1 r).mpr ⟨p,hp,hr⟩,h'⟩
theorem zty {k:Nat} {c:Comp} {part:List Nat} (hp:part.length <= 400000) (hc:c.length <= 1000000) (hr:∀ e ∈ c,e.rs.length <= 1000000):∃ b,callF N fsAll 2 (k+2) 18 [compV c,.bytes part] = .ok (.bool b)/\(b = true ↔ EMs part c 0 part.length):=by
 refine byC fun hG=>?_;obtain ⟨ps',b',o3,o4,o5,o6,o7,e,h1,h2⟩:=zev (N:=N) (cf:=callF N fsAll 2 (k+1)) (pc:=pcOf N fsAll 2 (k+1)) (fun h=>zi2 h) hp (c0:=compV c) c [0] true none none none none none hr ⟨by simp,by simp⟩;refine hG ?_;clear hG;refine ⟨decide (part.length ∈ ps'),?_,by simp [h2]⟩;have lm:(c.map El.v).length <= 1000000:=by simpa using hc
 have hl:=zb6 (b:=part) (by omega);have e3:=zc6 (q:=part.length) ps'
 cases b'
 ·exact goC 0x1450 rfl fun r=>r (it_l lm) e hl e3
 ·exact goC 0x1450 rfl fun r=>r (it_l lm) e hl e3
noncomputable def FM (parts:List (List Nat)) (last:Bool) (c:Comp) (p q:Nat):Prop :=
 if c ≠ [] then q = p+1/\p < parts.length/\EMs (parts.getD p []) c 0 (parts.getD p []).length
 else if last then p < parts.length/\q = parts.length else p <= q/\q <= parts.length
noncomputable def FMs (parts:List (List Nat)):List Comp->Nat->Nat->Prop
 | [],p,q=>p = q
 | c :: r,p,q=>∃ m,FM parts r.isEmpty c p m/\FMs parts r m q
theorem FM_n {parts:List (List Nat)} {p q:Nat}:FMs parts [] p q = (p = q):=rfl
theorem FM_c {parts:List (List Nat)} {c:Comp} {r:List Comp} {p q:Nat}:FMs parts (c :: r) p q = ∃ m,FM parts r.isEmpty c p m/\FMs parts r m q:=rfl
noncomputable abbrev fiσ (cs:List Comp) (parts:List (List Nat)) (ps:List Nat) (b:Bool) (o3 o4:Option V):List Slot:=[ns (some (.lst (cs.map compV))),ns (some (.lst (parts.map .bytes))),some (b,.lst (ps.map natV)),ns o3,ns o4]
noncomputable def PartOk (cf:Nat->List V->R V):Prop:=∀ {c:Comp} {part:List Nat},part.length <= 400000->c.length <= 1000000->(∀ e ∈ c,e.rs.length <= 1000000)->∃ b,cf 18 [compV c,.bytes part] = .ok (.bool b)/\(b = true ↔ EMs part c 0 part.length)
theorem zih (H:PartOk cf) {cs:List Comp} {parts:List (List Nat)} (hcs:cs.length <= 100000) (hp:parts.length <= 100000) (hpl:∀ p ∈ parts,p.length <= 400000) {c:Comp} (hc:c.length <= 1000000) (hr:∀ e ∈ c,e.rs.length <= 1000000) {t:Nat} {last:Bool} (hl:decide ((t:Int) = (cs.length:Int) - 1) = last) {ps:List Nat} {b:Bool} (hs:Sl parts.length ps) :
  ∃ ps',And3 (exs N cf pc q_law_fits_1 (fiσ cs parts ps b (some (.int t)) (some (compV c))) = .nx (fiσ cs parts ps' false (some (.int t)) (some (compV c)))) (Sl parts.length ps') (∀ q,q ∈ ps' ↔ ∃ p ∈ ps,FM parts last c p q):=by
 have hlen:vb1 .len (.lst (parts.map V.bytes)) = some (.int parts.length):=by rw [zd1 (by simp; omega)]; simp
 have hlc:vb1 .len (.lst (cs.map compV)) = some (.int cs.length):=by rw [zd1 (by simp; omega)]; simp
 have l0:=hs.len
 cases c with
 | cons e c =>
  obtain ⟨f,hf⟩:∃ f:Nat->Bool,∀ q,q < parts.length->cf 18 [compV (e :: c),.bytes (parts.getD q [])] = .ok (.bool (f q))/\(f q = true ↔ EMs (parts.getD q []) (e :: c) 0 (parts.getD q []).length):=by
   have:∀ q,∃ b,q < parts.length->cf 18 [compV (e :: c),.bytes (parts.getD q [])] = .ok (.bool b)/\(b = true ↔ EMs (parts.getD q []) (e :: c) 0 (parts.getD q []).length):=by
    intro q
    by_cases hq:q < parts.length
    ·obtain ⟨b,h⟩:=H (c:=e :: c) (part:=parts.getD q []) (hpl _ (by rw [bL,aZ hq]; exact dP hq)) hc hr;exact ⟨b,fun O=>h⟩
    ·exact ⟨true,fun h=>absurd h hq⟩
   exact ⟨fun q=>(this q).choose,fun q hq=>(this q).choose_spec hq⟩
  refine ⟨(ps.filter fun q=>decide (q < parts.length) && f q).map (·+1),?_,hs.step (fun q h=>by simp at h; exact h.1),fun q=>?_⟩
  ·have lm:(ps.map natV).length <= 1000000:=by simp; omega
   have key:=fun g=>zc9 (f:=g) (g:=natV) (h:=natV) (fun q=>decide (q < parts.length) && f q) (·+1) ps;have item:∀ q ∈ ps,((decide (q < parts.length) && f q) = true/\turnX cf (.bin .add (.nm 5) (.cst (.int 1))) 0 (.nm 2) (.cons (.bool true (.cmp .lt (.nm 5) (.bi1 .len (.nm 1))) (.cons (.call 18 (.cons (.nm 4) (.cons (.idx (.nm 1) (.nm 5)) .nil))) .nil)) .nil) (fiσ cs parts ps b (some (.int t)) (some (compV (e :: c)))) (natV q) = .ok (some (natV (q+1)))) \/ ((decide (q < parts.length) && f q) = false/\turnX cf (.bin .add (.nm 5) (.cst (.int 1))) 0 (.nm 2) (.cons (.bool true (.cmp .lt (.nm 5) (.bi1 .len (.nm 1))) (.cons (.call 18 (.cons (.nm 4) (.cons (.idx (.nm 1) (.nm 5)) .nil))) .nil)) .nil) (fiσ cs parts ps b (some (.int t)) (some (compV (e :: c)))) (natV q) = .ok none):=by
    intro q _
    by_cases h:q < parts.length
    ·have e2:vidx (.lst (parts.map V.bytes)) (.int q) = some (.bytes (parts.getD q [])):=zbu (by simp; omega) (by simp [h]);have e3:=(hf q h).1;have h':=cH.mpr h;rw [decide_eq_true h,Bool.true_and]
     cases hh:f q
     ·rw [hh] at e3;refine .inr ⟨rfl,?_⟩;exact goI 0x145 fun r=>r hlen (sT h') e2 e3
     ·rw [hh] at e3;refine .inl ⟨rfl,?_⟩;exact goI 0x145 fun r=>r hlen (sT h') e2 e3
    ·have h':=mt cH.mp h;refine .inr ⟨by rw [decide_eq_false h]; rfl,?_⟩;exact goI 5 fun r=>r hlen (sF h')
   cases b
   ·exact gx 0x500 fun r=>r lm (key _ item)
   ·exact gx 0x500 fun r=>r lm (key _ item)
  ·simp only [FM,cG,gF,bB,decide_eq_true_eq,ne_eq,reduceCtorEq,not_false_eq_true,if_true];constructor
   ·rintro ⟨x,⟨h1,h2,h3⟩,rfl⟩; exact ⟨x,h1,rfl,h2,(hf x h2).2.mp h3⟩
   ·rintro ⟨x,h1,rfl,h2,h3⟩; exact ⟨x,⟨h1,h2,(hf x h2).2.mpr h3⟩,rfl⟩
 | nil =>
  cases ps with
  | nil =>
   refine ⟨[],?_,hs,fun q=>by simp⟩
   cases (last) <;> cases (b)
   ·exact gx 0x1100 fun r=>r hlc (sm hl)
   ·exact gx 0x1100 fun r=>r hlc (sm hl)
   ·exact gx 0x1100 fun r=>r hlc (sm hl)
   ·exact gx 0x1100 fun r=>r hlc (sm hl)
  | cons p ps =>
   have hp1:=hs.le p (by simp);have e1:vtruth (.lst ((p :: ps).map natV)) = some true:=by simp only [vtruth]; rw [if_pos (by simp at l0 |-; omega)]; rfl
   have e2:=zbu (i:=0) (l:=(p :: ps).map natV) (d:=.int p) (by simp at l0 |-; omega) rfl;simp only [cN] at e2
   cases (last)
   ·refine ⟨rangeN p (parts.length+1),?_,Sl.range hp1,fun q=>?_⟩
    ·have e3:=zmh (a:=p) (b:=parts.length+1) (by omega) (by omega);simp only [fK,cN] at e3
     cases (b)
     ·exact gx 0x4541100 fun r=>r hlc (sm hl) e1 e2 hlen e3
     ·exact gx 0x4541100 fun r=>r hlc (sm hl) e1 e2 hlen e3
    ·simp only [FM,ne_eq,not_true_eq_false,if_false,dI,rangeN_mem];constructor
     ·rintro ⟨h1,h2⟩; exact ⟨p,by simp,h1,by omega⟩
     ·rintro ⟨x,hx,h1,h2⟩; have:=hs.min x hx; exact ⟨by omega,by omega⟩
   ·by_cases h:p < parts.length
    ·refine ⟨[parts.length],?_,⟨by simp,by simp⟩,fun q=>?_⟩
     ·have h':=cH.mpr h
      cases (b)
      ·exact gx 0x11541100 fun r=>r hlc (sm hl) e1 e2 hlen (sT h') hlen
      ·exact gx 0x11541100 fun r=>r hlc (sm hl) e1 e2 hlen (sT h') hlen
     ·simp only [FM,ne_eq,not_true_eq_false,if_false,if_true,aO,bP,or_false];constructor
      ·rintro rfl; exact ⟨p,.inl rfl,h,rfl⟩
      ·rintro ⟨x,hx,h1,h2⟩; exact h2
    ·refine ⟨[],?_,⟨by simp,by simp⟩,fun q=>?_⟩
     ·have h':=mt cH.mp h
      cases (b)
      ·exact gx 0x1541100 fun r=>r hlc (sm hl) e1 e2 hlen (sF h')
      ·exact gx 0x1541100 fun r=>r hlc (sm hl) e1 e2 hlen (sF h')
     ·simp only [FM,ne_eq,not_true_eq_false,if_false,if_true,bP,false_iff];rintro ⟨x,hx,h1,h2⟩;have:=hs.min x hx;omega
theorem zek (H:PartOk cf) {cs:List Comp} {parts:List (List Nat)} (hcs:cs.length <= 100000) (hp:parts.length <= 100000) (hpl:∀ p ∈ parts,p.length <= 400000):∀ (r:List Comp) (t:Nat) (ps:List Nat) (b:Bool) (o3 o4:Option V),(∀ c ∈ r,c.length <= 1000000/\∀ e ∈ c,e.rs.length <= 1000000)->t+r.length = cs.length->Sl parts.length ps ->
  Ex4 fun ps' b' o3' o4'=>And3 (forL (bE N cf pc 3 4 q_law_fits_1) ((r.map compV).zipIdx t |>.map fun p=>.tup [.int p.2,p.1]) (fiσ cs parts ps b o3 o4) = .nx (fiσ cs parts ps' b' o3' o4')) (Sl parts.length ps') (∀ q,q ∈ ps' ↔ ∃ p ∈ ps,FMs parts r p q)
 | []=>fun t ps b o3 o4 O O hs=>⟨ps,b,o3,o4,rfl,hs,fun q=>by simp [FM_n]⟩
 | c :: r=>by
  intro t ps b o3 o4 hr ht hs;simp only [aI] at ht;have hl:decide ((t:Int) = (cs.length:Int) - 1) = r.isEmpty:=by cases r <;> simp at ht |- <;> omega
  refine byC fun hG=>?_;obtain ⟨ps1,e1,h1,m1⟩:=zih (N:=N) (pc:=pc) H hcs hp hpl (hr c (by simp)).1 (hr c (by simp)).2 hl (b:=b) hs;obtain ⟨ps2,b',z3,z4,e2,h2,m2⟩:=zek H hcs hp hpl r (t+1) ps1 false (some (.int t)) (some (compV c)) (fun x hx=>hr x (by simp [hx])) (by omega) h1;refine hG ?_;clear hG;refine ⟨ps2,b',z3,z4,?_,h2,fun q=>?_⟩
  ·exact Eq.trans (fl_q e1) e2
  ·rw [m2];simp only [FM_c];constructor
   ·rintro ⟨r,h,h'⟩;refine byC fun hG=>?_;obtain ⟨p,hp,hr⟩:=(m1 r).mp h;refine hG ?_;exact ⟨p,hp,r,hr,h'⟩
   ·rintro ⟨p,hp,r,hr,h'⟩;exact ⟨r,(m1 r).mpr ⟨p,hp,hr⟩,h'⟩
theorem zt2 {k:Nat} {cs:List Comp} {parts:List (List Nat)} (hcs:cs.length <= 100000) (hp:parts.length <= 100000) (hpl:∀ p ∈ parts,p.length <= 400000) (hr:∀ c ∈ cs,c.length <= 1000000/\∀ e ∈ c,e.rs.length <= 1000000) :
  ∃ b,callF N fsAll 2 (k+3) 19 [.lst (cs.map compV),.lst (parts.map .bytes)] = .ok (.bool b)/\(b = true ↔ FMs parts cs 0 parts.length):=by
 refine byC fun hG=>?_;obtain ⟨ps',b',o3,o4,e,h1,h2⟩:=zek (N:=N) (cf:=callF N fsAll 2 (k+2)) (pc:=pcOf N fsAll 2 (k+2)) (fun h1 h2 h3=>zty h1 h2 h3) hcs hp hpl cs 0 [0] true none none hr (by simp) ⟨by simp,by simp⟩;refine hG ?_;clear hG;refine ⟨decide (parts.length ∈ ps'),?_,by simp [h2]⟩;have lm:(cs.map compV).length <= 1000000:=by simp; omega
 have hlen:vb1 .len (.lst (parts.map V.bytes)) = some (.int parts.length):=by rw [zd1 (by simp; omega)]; simp
 have e3:=zc6 (q:=parts.length) ps'
 cases b'
 ·exact goC 0x1450 rfl fun r=>r lm e hlen e3
 ·exact goC 0x1450 rfl fun r=>r lm e hlen e3
end

noncomputable def octV (p:List Nat):V:=.lst (p.map natV)
structure GoodP (p:List Nat):Prop where
 ne:p ≠ []
 len:p.length <= 300
 oct:∀ x ∈ p,x < 256/\x ≠ 47
open PySem PySem.W PyProof.Rows in
theorem zsb {l:List V} {k:Nat} (hl:l.length <= 1000000):vsl none (some (.int k)) (.lst l) = some (.lst (l.take k)):=by
 show vslice none (some (k:Int)) (.lst l) = _;rw [vslice,zas (cY hl (by decide)),At.cut_hi]
theorem zi9:∀ (p:List Nat),(∀ x ∈ p,x < 256)->octs (p.map natV) = some p
 | []=>fun O=>rfl
 | x :: p=>by
  intro h;have h1:=h x (by simp);have h2:=zi9 p fun y hy=>h y (by simp [hy]);rw [aS,natV,oc_i,ifo?,if_pos (by omega),h2]; simp
theorem zwu {p:List Nat} (hl:p.length <= 1000000) (h:∀ x ∈ p,x < 256):vb1 .byt (octV p) = some (.bytes p):=by
 have:(p.map natV).length <= 16777216:=by simp; omega
 simp only [vb1,vbytes,ifo?,octV,this,if_true,zi9 p h,dN]
theorem zcf {r:Int} {n:Nat} (h:0 < n):∃ j:Nat,r.fmod n = j/\j < n:=by
 have h1:0 <= r.fmod n:=Int.fmod_nonneg_of_pos r (by omega);have h2:r.fmod n < n:=Int.fmod_lt_of_pos r (by omega);exact ⟨(r.fmod n).toNat,by omega,by omega⟩
structure SemiP (p:List Nat) (n:Nat):Prop where
 len:p.length <= n
 oct:∀ x ∈ p,x < 256/\x ≠ 47
theorem Good.fit {e:El} (h:Good e):FitOk e.fit:=by
 cases h with
 | any fit h=>exact h
 | star t h=>exact ⟨by simp,by simp⟩
 | lit t o h =>
  have key:∀ p ∈ lettersN,p.2 < 256/\p.2 ≠ 47:=by decide
  exact ⟨by simp,by simpa using key (t,o) h⟩
 | set s fit h h2=>exact h2
section
variable {cf:Nat->List V->R V} {N:Nat} {pc:V->V->List V->List V->R (V × List V × List V)}
noncomputable abbrev saσ (o0 o1 o2 o3:Slot) (draw:Int) (part:List Nat) (o6 o7 o8 o9 o10:Option V):List Slot:=[o0,o1,o2,o3,ns (some (.int draw)),some (true,.lst (part.map natV)),ns o6,ns o7,ns o8,ns o9,ns o10]
theorem zko {parts:List V} {o0 o1 o3:Option V} {draw:Int} {part:List Nat} {n:Nat} (hn:n <= 10000) {e:El} (he:Good e) (hp:SemiP part n) :
  ∃ part',SemiP part' (n+2)/\exs N cf pc q_law_sample_2 (saσ (ns o0) (ns o1) (some (true,.lst parts)) (ns o3) draw part (some (.bytes e.txt)) (some (.bool e.many)) (some (.bool e.neg)) (some (.lst (e.rs.map rgV))) (some (.lst (e.fit.map natV))))
   = .nx (saσ (ns o0) (ns o1) (some (true,.lst parts)) (ns o3) draw part' (some (.bytes e.txt)) (some (.bool e.many)) (some (.bool e.neg)) (some (.lst (e.rs.map rgV))) (some (.lst (e.fit.map natV)))):=by
 obtain ⟨p1,p2⟩:=hp;have hf:=he.fit;have f1:=hf.len
 cases hm:e.many
 ·have hl:vb1 .len (.lst (part.map natV)) = some (.int part.length):=by rw [zd1 (by simp; omega)]; simp
  have hlf:vb1 .len (.lst (e.fit.map natV)) = some (.int e.fit.length):=by rw [zd1 (by simp; omega)]; simp
  have lm:(part.map natV).length <= 1000000:=by simp; omega
  cases hfit:e.fit with
  | nil =>
   refine ⟨part++[97],⟨by simp; omega,fun x hx=>?_⟩,?_⟩
   ·rcases aU.mp hx with hx | hx
    ·exact p2 x hx
    ·obtain rfl:x = 97:=by simpa using hx
     decide
   ·have rv:=zaj (f:=natV) (l:=part) (a:=97);exact gx 0x500 fun r=>r lm rv
  | cons y fit =>
   have hpos:0 < e.fit.length:=by rw [hfit]; simp
   obtain ⟨x,hx,ex⟩:=zbx (f:=natV) (l:=e.fit) (r:=draw+part.length) (n:=e.fit.length) (d:=(0:Nat)) (by omega) (by omega) rfl;have vt:vtruth (.lst (e.fit.map natV)) = some true:=by
    simp only [vtruth];rw [if_pos (by simp; omega)];rw [hfit]; rfl
   have mm:vbin .mod (.int (draw+part.length)) (.int e.fit.length) = some (.int ((draw+part.length).fmod e.fit.length)):=zd2 (by omega);rw [<- hfit];refine ⟨part++[x],⟨by simp; omega,fun z hz=>?_⟩,?_⟩
   ·rcases aU.mp hz with hz | hz
    ·exact p2 z hz
    ·clear ex;obtain rfl:z = x:=by simpa using hz
     exact hf.oct z hx
   ·have rv:=zaj (f:=natV) (l:=part) (a:=x);exact gx 0x155140 fun r=>r vt hl hlf mm ex lm rv
 ·obtain ⟨j,hj,hj2⟩:=zcf (r:=draw) (n:=3) (by omega);have m3:vbin .mod (.int draw) (.int 3) = some (.int j):=by rw [zd2 (by decide)]; exact congrArg (fun z=>some (V.int z)) hj
  have s1:vsl none (some (.int j)) (.lst [.int 120,.int 97]) = some (.lst (([120,97].take j).map natV)):=by rw [zsb (by decide),List.map_take]; rfl
  have hlt:([120,97].take j).length <= 2:=by simp; omega
  have a1:vbin .add (.lst (part.map natV)) (.lst (([120,97].take j).map natV)) = some (.lst ((part++[120,97].take j).map natV)):=by rw [zg4 (by simp; omega),cX]
  refine ⟨part++[120,97].take j,⟨by rw [aK]; omega,fun x hx=>?_⟩,?_⟩
  ·rcases aU.mp hx with hx | hx
   ·exact p2 x hx
   ·have:=cW hx;simp only [aO,bP,or_false] at this;clear hx;rcases this with rfl | rfl <;> decide
  ·exact gx 0x540 fun r=>r m3 s1 a1
theorem zfl {parts:List V} {o0 o1 o3:Option V} {draw:Int}:∀ (c:Comp) (part:List Nat) (n:Nat) (o6 o7 o8 o9 o10:Option V),(∀ e ∈ c,Good e)->n+2 * c.length <= 10000->SemiP part n ->
  Ey6 (fun part' o6' o7' o8' o9' o10'=>SemiP part' (n+2 * c.length)) (fun part' o6' o7' o8' o9' o10'=>forL (bT N cf pc [6,7,8,9,10] q_law_sample_2) (c.map El.v) (saσ (ns o0) (ns o1) (some (true,.lst parts)) (ns o3) draw part o6 o7 o8 o9 o10)
   = .nx (saσ (ns o0) (ns o1) (some (true,.lst parts)) (ns o3) draw part' o6' o7' o8' o9' o10'))
 | []=>fun part n o6 o7 o8 o9 o10 O O hp=>⟨part,o6,o7,o8,o9,o10,by simpa using hp,rfl⟩
 | e :: c=>by
  intro part n o6 o7 o8 o9 o10 hg hn hp;simp only [aI] at hn |-;obtain ⟨part1,h1,e1⟩:=zko (N:=N) (cf:=cf) (pc:=pc) (parts:=parts) (o0:=o0) (o1:=o1) (o3:=o3) (draw:=draw) (by omega) (hg e (by simp)) hp;obtain ⟨part2,z6,z7,z8,z9,z10,h2,e2⟩:=zfl c part1 (n+2) _ _ _ _ _ (fun x hx=>hg x (by simp [hx])) (by omega) h1;refine ⟨part2,z6,z7,z8,z9,z10,by rw [show n+2 * (c.length+1) = n+2+2 * c.length by omega]; exact h2,?_⟩;exact Eq.trans (fl_q e1) e2
structure PartsOk (ps:List (List Nat)) (n:Nat):Prop where
 len:ps.length <= n
 good:∀ p ∈ ps,GoodP p
theorem zid {o0:Option V} {num:Int} {parts:List (List Nat)} {c:Comp} {o4 o5 o6 o7 o8 o9 o10:Option V} {n:Nat} (hn:n <= 10000) (hc:∀ e ∈ c,Good e) (hcl:c.length <= 100) (hp:PartsOk parts n) :
  Ey9 (fun num' parts' o4' o5' o6' o7' o8' o9' o10'=>PartsOk parts' (n+2)) (fun num' parts' o4' o5' o6' o7' o8' o9' o10'=>exs N cf pc q_law_sample_1 [ns o0,ns (some (.int num)),some (true,.lst (parts.map octV)),ns (some (compV c)),ns o4,ns o5,ns o6,ns o7,ns o8,ns o9,ns o10]
   = .nx [ns o0,ns (some (.int num')),some (true,.lst (parts'.map octV)),ns (some (compV c)),ns o4',ns o5',ns o6',ns o7',ns o8',ns o9',ns o10']):=by
 refine byC fun hG=>?_;obtain ⟨p1,p2⟩:=hp;have d12:vb2 .dm (.int num) (.int 12) = some (.tup [.int (num.fdiv 12),.int (num.fmod 12)]):=dm_i (by decide);refine hG ?_;clear hG;generalize num.fmod 12 = draw at *;generalize num.fdiv 12 = num' at *;have lm:(parts.map octV).length <= 1000000:=by simp; omega
 cases c with
 | nil =>
  have hl:vb1 .len (.lst (parts.map octV)) = some (.int parts.length):=by rw [zd1 (by simp; omega)]; simp
  obtain ⟨j,jd,hj⟩:∃ j:Nat,(∀ is,(if decide ((parts.length:Int) < 3) = true then vbin .mod (.int draw) (.int 3) else vbin .mod (.int draw) (.int 2)) = some (.int j) \/ is = 0)/\True:=by
   refine byC fun hG=>?_
   by_cases h:(parts.length:Int) < 3
   ·obtain ⟨j,hj,_⟩:=zcf (r:=draw) (n:=3) (by omega);refine hG ?_;exact ⟨j,fun O=>.inl (by rw [if_pos (by simpa using h),zd2 (by decide)]; exact congrArg (fun z=>some (V.int z)) hj),trivial⟩
   ·obtain ⟨j,hj,_⟩:=zcf (r:=draw) (n:=2) (by omega);refine hG ?_;exact ⟨j,fun O=>.inl (by rw [if_neg (by simpa using h),zd2 (by decide)]; exact congrArg (fun z=>some (V.int z)) hj),trivial⟩
  have jd:=(jd 1).resolve_right (by decide);have s1:vsl none (some (.int j)) (.lst [.lst [.int 97],.lst [.int 98,.int 46]]) = some (.lst ((([[97],[98,46]]:List (List Nat)).take j).map octV)):=by rw [zsb (by decide),List.map_take]; rfl
  have hlt:(([[97],[98,46]]:List (List Nat)).take j).length <= 2:=by simp; omega
  generalize hT:([[97],[98,46]]:List (List Nat)).take j = T at *;have a1:vbin .add (.lst (parts.map octV)) (.lst (T.map octV)) = some (.lst ((parts++T).map octV)):=by rw [zg4 (by simp; omega),cX]
  refine ⟨num',parts++T,some (.int draw),o5,o6,o7,o8,o9,o10,⟨by simp; omega,fun p hp=>?_⟩,?_⟩
  ·rcases aU.mp hp with hp | hp
   ·exact p2 p hp
   ·rw [<- hT] at hp;have:=cW hp;simp only [aO,bP,or_false] at this;rcases this with rfl | rfl
    ·exact ⟨by simp,by simp,by decide⟩
    ·exact ⟨by simp,by simp,by decide⟩
  ·by_cases h:(parts.length:Int) < 3
   ·rw [if_pos (by simpa using h)] at jd;exact gx 0x545004 fun r=>r d12 hl (sT h) jd s1 a1
   ·rw [if_neg (by simpa using h)] at jd;exact gx 0x545004 fun r=>r d12 hl (sF h) jd s1 a1
 | cons e c =>
  obtain ⟨part,z6,z7,z8,z9,z10,h2,e2⟩:=zfl (N:=N) (cf:=cf) (pc:=pc) (parts:=parts.map octV) (o0:=o0) (o1:=some (.int num')) (o3:=some (compV (e :: c))) (draw:=draw) (e :: c) [] 0 o6 o7 o8 o9 o10 hc (by omega) ⟨by simp,by simp⟩;obtain ⟨q1,q2⟩:=h2;have lmc:((e :: c).map El.v).length <= 1000000:=by rw [bQ]; omega
  cases part with
  | nil =>
   refine ⟨num',parts++[[98]],some (.int draw),some (.lst []),z6,z7,z8,z9,z10,⟨by simp; omega,fun p hp=>?_⟩,?_⟩
   ·rcases aU.mp hp with hp | hp
    ·exact p2 p hp
    ·obtain rfl:p = [98]:=by simpa using hp
     exact ⟨by simp,by simp,by decide⟩
   ·have rv:=zaj (f:=octV) (l:=parts) (a:=[98]);exact gx 0x5014004 fun r=>r d12 (it_l lmc) e2 lm rv
  | cons x part =>
   refine ⟨num',parts++[x :: part],some (.int draw),some (.lst ((x :: part).map natV)),z6,z7,z8,z9,z10,⟨by simp; omega,fun p hp=>?_⟩,?_⟩
   ·rcases aU.mp hp with hp | hp
    ·exact p2 p hp
    ·obtain rfl:p = x :: part:=by simpa using hp
     exact ⟨by simp,by omega,q2⟩
   ·have rv:=zaj (f:=octV) (l:=parts) (a:=x :: part);exact gx 0x5014004 fun r=>r d12 (it_l lmc) e2 lm rv
theorem zel {o0:Option V}:∀ (cs:List Comp) (num:Int) (parts:List (List Nat)) (n:Nat) (o3 o4 o5 o6 o7 o8 o9 o10:Option V),(∀ c ∈ cs,(∀ e ∈ c,Good e)/\c.length <= 100)->n+2 * cs.length <= 10000->PartsOk parts n ->
  Ey10 (fun num' parts' o3' o4' o5' o6' o7' o8' o9' o10'=>PartsOk parts' (n+2 * cs.length)) (fun num' parts' o3' o4' o5' o6' o7' o8' o9' o10'=>forL (bF N cf pc 3 q_law_sample_1) (cs.map compV) [ns o0,ns (some (.int num)),some (true,.lst (parts.map octV)),ns o3,ns o4,ns o5,ns o6,ns o7,ns o8,ns o9,ns o10]
   = .nx [ns o0,ns (some (.int num')),some (true,.lst (parts'.map octV)),ns o3',ns o4',ns o5',ns o6',ns o7',ns o8',ns o9',ns o10'])
 | []=>fun num parts n o3 o4 o5 o6 o7 o8 o9 o10 O O hp=>⟨num,parts,o3,o4,o5,o6,o7,o8,o9,o10,by simpa using hp,rfl⟩
 | c :: cs=>by
  intro num parts n o3 o4 o5 o6 o7 o8 o9 o10 hc hn hp;simp only [aI] at hn |-;obtain ⟨num1,parts1,q4,q5,q6,q7,q8,q9,q10,h1,e1⟩:=zid (N:=N) (cf:=cf) (pc:=pc) (o0:=o0) (num:=num) (o4:=o4) (o5:=o5) (o6:=o6) (o7:=o7) (o8:=o8) (o9:=o9) (o10:=o10) (by omega) (hc c (by simp)).1 (hc c (by simp)).2 hp;obtain ⟨num2,parts2,z3,z4,z5,z6,z7,z8,z9,z10,h2,e2⟩:=zel cs num1 parts1 (n+2) (some (compV c)) q4 q5 q6 q7 q8 q9 q10 (fun x hx=>hc x (by simp [hx])) (by omega) h1;refine ⟨num2,parts2,z3,z4,z5,z6,z7,z8,z9,z10,by rw [show n+2 * (cs.length+1) = n+2+2 * cs.length by omega]; exact h2,?_⟩;exact Eq.trans (fl_q e1) e2
theorem zoc {k:Nat} {cs:List Comp} {num:Int} (hc:∀ c ∈ cs,(∀ e ∈ c,Good e)/\c.length <= 100) (hn:cs.length <= 100):∃ parts,And3 (PartsOk parts 300) (parts ≠ []) (callF N fsAll 2 (k+1) 20 [.lst (cs.map compV),.int num] = .ok (.lst (parts.map octV))):=by
 obtain ⟨num',parts,o3,o4,o5,o6,o7,o8,o9,o10,h1,e⟩:=zel (N:=N) (cf:=callF N fsAll 2 k) (pc:=pcOf N fsAll 2 k) (o0:=some (.lst (cs.map compV))) cs num [] 0 none none none none none none none none hc (by omega) ⟨by simp,by simp⟩;have lm:(cs.map compV).length <= 1000000:=by simp; omega
 cases parts with
 | nil =>
  refine ⟨[[97]],⟨by simp,fun p hp=>?_⟩,by simp,?_⟩
  ·obtain rfl:p = [97]:=by simpa using hp
   exact ⟨by simp,by simp,by decide⟩
  ·exact goC 0x50 rfl fun r=>r (it_l lm) e
 | cons p parts =>
  refine ⟨p :: parts,⟨by have:=h1.len; omega,h1.good⟩,by simp,?_⟩;exact goC 0x50 rfl fun r=>r (it_l lm) e
end

noncomputable def way1 (way:Int) (p:List Nat) (o k:Nat):List Nat :=
 if way = 1 then p.take k++[o]++p.drop (k+1) else if way = 2 then p.take k++[o]++p.drop k else if way = 3/\1 < p.length then p.take k++p.drop (k+1) else p
noncomputable def way2 (way:Int) (ps:List (List Nat)) (o k:Nat):List (List Nat) :=
 if way = 4 then ps.take k++[[o]]++ps.drop k else if way = 5/\1 < ps.length then ps.take k++ps.drop (k+1) else ps
theorem zbb {α:Type} {l:List α} {k m:Nat} {x:α} {mid:List α} (h:x ∈ l.take k++mid++l.drop m):x ∈ l \/ x ∈ mid:=by
 rcases aU.mp h with h | h
 ·rcases aU.mp h with h | h
  ·exact .inl (cW h)
  ·exact .inr h
 ·exact .inl (eU h)
set_option tactic.hygienic true in
theorem zm8 {way:Int} {p:List Nat} {o k:Nat} (hp:GoodP p) (ho:o < 256/\o ≠ 47) (hk:k < p.length):way1 way p o k ≠ []/\(way1 way p o k).length <= 301/\∀ x ∈ way1 way p o k,x < 256/\x ≠ 47:=by
 have l:=hp.len;have mid:∀ x ∈ ([o]:List Nat),x < 256/\x ≠ 47:=fun x hx=>by
  obtain rfl:x = o:=by simpa using hx
  exact ho
 unfold way1
 split
 ·exact ⟨by simp,by simp; omega,fun x hx=>(zbb hx).elim (hp.oct x) (mid x)⟩
 ·split
  ·exact ⟨by simp,by simp; omega,fun x hx=>(zbb hx).elim (hp.oct x) (mid x)⟩
  ·split
   ·rename_i h;refine ⟨fun z=>?_,by simp; omega,fun x hx=>?_⟩
    ·have:=congrArg cS z;rw [aK,List.length_take,fX,bY] at this;exact absurd this (cutF h.2)
    ·rcases aU.mp hx with hx | hx
     ·exact hp.oct x (cW hx)
     ·exact hp.oct x (eU hx)
   ·exact ⟨hp.ne,by omega,hp.oct⟩
structure NameOk (ps:List (List Nat)):Prop where
 ne:ps ≠ []
 len:ps.length <= 310
 good:∀ p ∈ ps,p ≠ []/\p.length <= 301/\∀ x ∈ p,x < 256/\x ≠ 47
section
variable {cf:Nat->List V->R V} {N:Nat} {pc:V->V->List V->List V->R (V × List V × List V)}
noncomputable abbrev nmS (n:Nat):MS:=nthS n (bodyOf 21)
theorem zeq {α:Type} {f:α->V} {l:List α} {k:Nat} (hl:l.length <= 100000) (hk:k <= l.length):vsl (some (.int k)) none (.lst (l.map f)) = some (.lst ((l.drop k).map f)):=by
 have:=zlt (l:=l.map f) (i:=k) (by simp; omega) (by simpa using hk);rwa [<- List.map_drop] at this
theorem zgj {α:Type} {f:α->V} {l:List α} {k:Nat} (hl:l.length <= 100000):vsl none (some (.int k)) (.lst (l.map f)) = some (.lst ((l.take k).map f)):=by
 rw [zsb (by simp; omega),List.map_take]
theorem zgi {α:Type} {f:α->V} {a b:List α} (h:a.length+b.length <= 1000000):vbin .add (.lst (a.map f)) (.lst (b.map f)) = some (.lst ((a++b).map f)):=by rw [zg4 (by simp; omega),cX]
noncomputable abbrev naσ (o0 o1:Option V) (way:Int) (o3 o4 o5:Option V) (b6:Bool) (ps:V) (k:Nat) (b8:Bool) (p:V) (place:Nat) (o:Nat):List Slot:=[ns o0,ns o1,ns (some (.int way)),ns o3,ns o4,ns o5,some (b6,ps),ns (some (.int k)),some (b8,p),ns (some (.int place)),ns (some (.int o))]
theorem ztq {o0 o1 o3 o4 o5:Option V} {way:Int} {ps:V} {k o place:Nat} {p:List Nat} (hp:p.length <= 1000) (hk:place < p.length) :
  ∃ b8,ex1 N cf pc (nmS 10) (naσ o0 o1 way o3 o4 o5 false ps k false (.lst (p.map natV)) place o) = .nx (naσ o0 o1 way o3 o4 o5 false ps k b8 (.lst ((way1 way p o place).map natV)) place o):=by
 have h1:=zgj (f:=natV) (l:=p) (k:=place) (by omega);have h2:=zeq (f:=natV) (l:=p) (k:=place) (by omega) (by omega);have h3:=zeq (f:=natV) (l:=p) (k:=place+1) (by omega) (by omega);simp only [fK,cN] at h3;have hl:vb1 .len (.lst (p.map natV)) = some (.int p.length):=by rw [zd1 (by simp; omega)]; simp
 have a1:=zgi (f:=natV) (a:=p.take place) (b:=[o]) (by simp; omega);have a2:=zgi (f:=natV) (a:=p.take place++[o]) (b:=p.drop (place+1)) (by simp; omega);have a3:=zgi (f:=natV) (a:=p.take place++[o]) (b:=p.drop place) (by simp; omega);have a4:=zgi (f:=natV) (a:=p.take place) (b:=p.drop (place+1)) (by simp; omega);unfold way1
 by_cases w1:way = 1
 ·refine ⟨true,?_⟩;subst w1;rw [if_pos rfl];exact go1 0x5140 fun r=>r h1 a1 h3 a2
 ·by_cases w2:way = 2
  ·refine ⟨true,?_⟩;subst w2;rw [if_neg w1,if_pos rfl];exact go1 0x55000 fun r=>r h1 a1 h2 a3
  ·by_cases w3:way = 3
   ·subst w3;rw [if_neg w1,if_neg w2]
    by_cases w4:1 < p.length
    ·refine ⟨true,?_⟩;have d:(1:Int) < p.length:=cH.mpr w4;rw [if_pos ⟨rfl,w4⟩];exact go1 0x51050000 fun r=>r hl (sT d) h1 h3 a4
    ·refine ⟨false,?_⟩;have d:¬ (1:Int) < p.length:=mt cH.mp w4;rw [if_neg (fun z=>w4 z.2)];exact go1 0x50000 fun r=>r hl (sF d)
   ·refine ⟨false,?_⟩;rw [if_neg w1,if_neg w2,if_neg (fun z=>w3 z.1)];exact go1 0x1041 fun r=>r (sF w1) (sF w2) (sF w3)
theorem zvk {o0 o1 o3 o4 o5:Option V} {way:Int} {p:V} {k o place:Nat} {ps:List (List Nat)} {b8:Bool} (hp:ps.length <= 301) (hk:k < ps.length) :
  ∃ b6,ex1 N cf pc (nmS 12) (naσ o0 o1 way o3 o4 o5 true (.lst (ps.map octV)) k b8 p place o) = .nx (naσ o0 o1 way o3 o4 o5 b6 (.lst ((way2 way ps o k).map octV)) k b8 p place o):=by
 have h1:=zgj (f:=octV) (l:=ps) (k:=k) (by omega);have h2:=zeq (f:=octV) (l:=ps) (k:=k) (by omega) (by omega);have h3:=zeq (f:=octV) (l:=ps) (k:=k+1) (by omega) (by omega);simp only [fK,cN] at h3;have hl:vb1 .len (.lst (ps.map octV)) = some (.int ps.length):=by rw [zd1 (by simp; omega)]; simp
 have a1:=zgi (f:=octV) (a:=ps.take k) (b:=[[o]]) (by simp; omega);have a2:=zgi (f:=octV) (a:=ps.take k++[[o]]) (b:=ps.drop k) (by simp; omega);have a4:=zgi (f:=octV) (a:=ps.take k) (b:=ps.drop (k+1)) (by simp; omega);unfold way2
 by_cases w1:way = 4
 ·refine ⟨true,?_⟩;subst w1;rw [if_pos rfl]
  cases b8
  ·exact go1 0x1540 fun r=>r h1 a1 h2 a2
  ·exact go1 0x1540 fun r=>r h1 a1 h2 a2
 ·by_cases w3:way = 5
  ·subst w3;rw [if_neg w1]
   by_cases w4:1 < ps.length
   ·refine ⟨true,?_⟩;have d:(1:Int) < ps.length:=cH.mpr w4;rw [if_pos ⟨rfl,w4⟩]
    cases b8
    ·exact go1 0x1441400 fun r=>r hl (sT d) h1 h3 a4
    ·exact go1 0x1441400 fun r=>r hl (sT d) h1 h3 a4
   ·refine ⟨true,?_⟩;have d:¬ (1:Int) < ps.length:=mt cH.mp w4;rw [if_neg (fun z=>w4 z.2)]
    cases b8
    ·exact go1 0x1400 fun r=>r hl (sF d)
    ·exact go1 0x1400 fun r=>r hl (sF d)
  ·refine ⟨true,?_⟩;rw [if_neg w1,if_neg (fun z=>w3 z.1)]
   cases b8
   ·exact go1 0x41 fun r=>r (sF w1) (sF w3)
   ·exact go1 0x41 fun r=>r (sF w1) (sF w3)
noncomputable def turnedN:List Nat:=[97,98,46,45,93,55,122,32,195,9,64,100,96,58,91,123,71,103,11,12,31,127,128,42]
set_option tactic.hygienic true in
theorem zvb {k0:Nat} {cs:List Comp} {num:Int} (hc:∀ c ∈ cs,(∀ e ∈ c,Good e)/\c.length <= 100) (hn:cs.length <= 100):∃ ps,NameOk ps/\callF N fsAll 2 (k0+2) 21 [.lst (cs.map compV),.int num] = .ok (.lst (ps.map .bytes)):=by
 have d6:vb2 .dm (.int num) (.int 6) = some (.tup [.int (num.fdiv 6),.int (num.fmod 6)]):=dm_i (by decide);generalize num.fmod 6 = way at *;generalize num.fdiv 6 = n1 at *;have d7:vb2 .dm (.int n1) (.int 7) = some (.tup [.int (n1.fdiv 7),.int (n1.fmod 7)]):=dm_i (by decide);generalize n1.fmod 7 = spot at *;generalize n1.fdiv 7 = n2 at *;have d13:vb2 .dm (.int n2) (.int 13) = some (.tup [.int (n2.fdiv 13),.int (n2.fmod 13)]):=dm_i (by decide);generalize n2.fmod 13 = draw at *;generalize n2.fdiv 13 = n3 at *;have d512:vb2 .dm (.int n3) (.int 512) = some (.tup [.int (n3.fdiv 512),.int (n3.fmod 512)]):=dm_i (by decide);refine byC fun hG=>?_;obtain ⟨turned,ht,ht2⟩:=zcf (r:=n3) (n:=512) (by omega);have ht':n3.fmod 512 = (turned:Int):=ht;rw [ht'] at d512;refine hG ?_;clear hG;generalize n3.fdiv 512 = n4 at *;refine byC fun hG=>?_;obtain ⟨ps,hps,hpn,eps⟩:=zoc (N:=N) (k:=k0) (num:=n4) hc hn;have lps:=hps.len;have hpl:0 < ps.length:=by cases ps; exact absurd rfl hpn; simp
 have hl6:vb1 .len (.lst (ps.map octV)) = some (.int ps.length):=by rw [zd1 (by simp; omega)]; simp
 obtain ⟨k,hk,hk2⟩:=zcf (r:=spot) hpl;have mk:vbin .mod (.int spot) (.int ps.length) = some (.int k):=by rw [zd2 (by omega),hk]
 have ix8:vidx (.lst (ps.map octV)) (.int k) = some (octV ps[k]):=zbu (by simp; omega) (by simp [hk2]);have hgp:=hps.good ps[k] (dP hk2);refine hG ?_;clear hG;generalize ps[k] = p at *;have lp:=hgp.len;have hpl8:0 < p.length:=by cases p; exact absurd rfl hgp.ne; simp
 have hl8:vb1 .len (octV p) = some (.int p.length):=by rw [octV,zd1 (by simp; omega)]; simp
 refine byC fun hG=>?_;obtain ⟨place,hpl9,hpl92⟩:=zcf (r:=draw) hpl8;have mp:vbin .mod (.int draw) (.int p.length) = some (.int place):=by rw [zd2 (by omega),hpl9]
 obtain ⟨o1,ho1,eo1⟩:∃ o1:Nat,o1 < 256/\∀ {s0 s1 s2 s3 s4 s6 s7 s8 s9 s10:Slot},ex1 N (callF N fsAll 2 (k0+1)) (pcOf N fsAll 2 (k0+1)) (nmS 8)
   [s0,s1,s2,s3,s4,ns (some (.int turned)),s6,s7,s8,s9,s10] = .nx [s0,s1,s2,s3,s4,ns (some (.int turned)),s6,s7,s8,s9,ns (some (.int o1))]:=by
  by_cases h:turned < 256
  ·have dt:(turned:Int) < 256:=cH.mpr h;refine byC fun hG=>?_;obtain ⟨x,hx,ex⟩:=zbx (f:=natV) (l:=turnedN) (r:=turned) (n:=24) (d:=(0:Nat)) (by decide) (by decide) (by decide);have m24:vbin .mod (.int turned) (.int 24) = some (.int ((turned:Int).fmod 24)):=zd2 (by decide);have wt':=zok (N:=N) (k:=k0);refine hG ?_;clear hG;refine ⟨x,?_,?_⟩
   ·have:∀ x ∈ turnedN,x < 256:=by decide
    exact this x hx
   ·intros
    have wt'':callF N fsAll 2 (k0+1) 13 [] = .ok (.lst (turnedN.map natV)):=wt';exact go1 0x151 fun r=>r (sT dt) wt'' m24 ex
  ·have dt:¬ (turned:Int) < 256:=mt cH.mp h;refine ⟨turned - 256,by omega,?_⟩
   intros
   have e:vbin .sub (.int turned) (.int 256) = some (.int ((turned - 256:Nat):Int)):=by rw [zss]; congr 2; omega
   exact go1 0x11 fun r=>r (sF dt) e
 obtain ⟨o,ho,eo⟩:∃ o:Nat,(o < 256/\o ≠ 47)/\∀ {s0 s1 s2 s3 s4 s6 s7 s8 s9:Slot},ex1 N (callF N fsAll 2 (k0+1)) (pcOf N fsAll 2 (k0+1)) (nmS 9)
   [s0,s1,s2,s3,s4,ns (some (.int turned)),s6,s7,s8,s9,ns (some (.int o1))] = .nx [s0,s1,s2,s3,s4,ns (some (.int turned)),s6,s7,s8,s9,ns (some (.int o))]:=by
  by_cases h1:o1 = 47
  ·clear eo1 ho1;subst h1;refine ⟨98,by decide,?_⟩
   intros
   exact go1 0 fun r=>r
  ·by_cases h2:o1 = 10
   ·clear eo1 ho1 h1;subst h2;refine ⟨98,by decide,?_⟩
    intros
    exact go1 0 fun r=>r
   ·have h1':¬ (o1:Int) = 47:=by omega
    have h2':¬ (o1:Int) = 10:=by omega
    refine ⟨o1,⟨ho1,h1⟩,?_⟩
    intros
    exact go1 0x11 fun r=>r (sF h1') (sF h2')
 obtain ⟨b8,e1⟩:=ztq (N:=N) (cf:=callF N fsAll 2 (k0+1)) (pc:=pcOf N fsAll 2 (k0+1)) (o0:=some (.lst (cs.map compV))) (o1:=some (.int n4)) (o3:=some (.int spot)) (o4:=some (.int draw)) (o5:=some (.int turned)) (way:=way) (ps:=.lst (ps.map octV)) (k:=k) (o:=o) (by omega) hpl92;obtain ⟨g1,g2,g3⟩:=zm8 (way:=way) hgp ho hpl92;refine hG ?_;clear hG;generalize hp':way1 way p o place = p' at *;have h1:=zgj (f:=octV) (l:=ps) (k:=k) (by omega);have h3:=zeq (f:=octV) (l:=ps) (k:=k+1) (by omega) (by omega);simp only [fK,cN] at h3;have a1:=zgi (f:=octV) (a:=ps.take k) (b:=[p']) (by simp; omega);have a2:=zgi (f:=octV) (a:=ps.take k++[p']) (b:=ps.drop (k+1)) (by simp; omega);have hq1:(ps.take k++[p']++ps.drop (k+1)).length = ps.length:=by simp; omega
 have hq3:(ps.take k++[p']++ps.drop (k+1)).length <= 300:=hq1 ▸ lps;have hq2:∀ x ∈ ps.take k++[p']++ps.drop (k+1),x ≠ []/\x.length <= 301/\∀ y ∈ x,y < 256/\y ≠ 47:=fun x hx=>by
  rcases zbb hx with hx | hx
  ·have:=hps.good x hx;exact ⟨this.ne,by have:=this.len; omega,this.oct⟩
  ·clear a2 a1 hq1 e1 hq3;obtain rfl:x = p':=by simpa using hx
   exact ⟨g1,g2,g3⟩
 generalize hQ:ps.take k++[p']++ps.drop (k+1) = qs at *;have e2:ex1 N (callF N fsAll 2 (k0+1)) (pcOf N fsAll 2 (k0+1)) (nmS 11)
   (naσ (some (.lst (cs.map compV))) (some (.int n4)) way (some (.int spot)) (some (.int draw)) (some (.int turned)) false (.lst (ps.map octV)) k b8 (.lst (p'.map natV)) place o)
   = .nx (naσ (some (.lst (cs.map compV))) (some (.int n4)) way (some (.int spot)) (some (.int draw)) (some (.int turned)) true (.lst (qs.map octV)) k false (.lst (p'.map natV)) place o):=by
  clear e1
  cases b8
  ·exact go1 0x145 fun r=>r h1 a1 h3 a2
  ·exact go1 0x145 fun r=>r h1 a1 h3 a2
 obtain ⟨b6,e3⟩:=zvk (N:=N) (cf:=callF N fsAll 2 (k0+1)) (pc:=pcOf N fsAll 2 (k0+1)) (o0:=some (.lst (cs.map compV))) (o1:=some (.int n4)) (o3:=some (.int spot)) (o4:=some (.int draw)) (o5:=some (.int turned)) (way:=way) (p:=.lst (p'.map natV)) (k:=k) (o:=o) (place:=place) (ps:=qs) (b8:=false) (by omega) (by omega);have hr:(way2 way qs o k) ≠ []/\(way2 way qs o k).length <= 310/\∀ x ∈ way2 way qs o k,x ≠ []/\x.length <= 301/\∀ y ∈ x,y < 256/\y ≠ 47:=by
  unfold way2
  split
  ·refine ⟨by simp,by simp; omega,fun x hx=>?_⟩;rcases zbb hx with hx | hx
   ·exact hq2 x hx
   ·obtain rfl:x = [o]:=by simpa using hx
    exact ⟨by simp,by simp,by simpa using ho⟩
  ·split
   ·rename_i h;refine ⟨fun z=>?_,by simp; omega,fun x hx=>?_⟩
    ·have:=congrArg cS z;rw [aK,List.length_take,fX,bY] at this;exact absurd this (cutF h.2)
    ·rcases aU.mp hx with hx | hx
     ·exact hq2 x (cW hx)
     ·exact hq2 x (eU hx)
   ·refine ⟨fun z=>?_,by omega,hq2⟩;rw [z] at hq1; simp at hq1; omega
 generalize hR:way2 way qs o k = rs at *;refine ⟨rs,⟨hr.1,hr.2.1,hr.2.2⟩,?_⟩;have lm:(rs.map octV).length <= 1000000:=by simp; omega
 have key:∀ f:V->R (Option V),(∀ x ∈ rs,f (octV x) = .ok (some (.bytes x)))->compL f (rs.map octV) = .ok (rs.map .bytes):=fun f H=>by
  rw [zbq (g:=octV) (h:=V.bytes) id rs H,List.map_id]
 have item:∀ x ∈ rs,turnX (callF N fsAll 2 (k0+1)) (.bi1 .byt (.nm 11)) 0 (.nm 6) .nil (naσ (some (.lst (cs.map compV))) (some (.int n4)) way (some (.int spot)) (some (.int draw)) (some (.int turned)) b6 (.lst (rs.map octV)) k false (.lst (p'.map natV)) place o) (octV x) = .ok (some (.bytes x)):=by
  intro x hx;refine byC fun hG=>?_;obtain ⟨z1,z2,z3⟩:=hr.2.2 x hx;have bt:=zwu (p:=x) (by omega) (fun y hy=>(z3 y hy).1);refine hG ?_;exact goI 4 fun r=>r bt
 cases b6
 ·exact goC 0x5155511444444 rfl fun r=>r d6 d7 d13 d512 eps hl6 mk ix8 hl8 mp eo1 eo e1 e2 e3 lm (key _ item)
 ·exact goC 0x5155511444444 rfl fun r=>r d6 d7 d13 d512 eps hl6 mk ix8 hl8 mp eo1 eo e1 e2 e3 lm (key _ item)
end

structure Plain (cs:List Comp) (rx:List Nat) (l:List It2):Prop where
 p2:P2 rx l []
 small:rx.length <= 400000
 ok:∀ t ∈ l,It2.ok t
 inc:∀ name,∀ t ∈ l,t.2.2 = true->∀ p q,TB name t.1 p q->p < q
 law:∀ parts,NameOk parts->(RelL (l.map (It2.gi (joinL [47] parts))) 0 (joinL [47] parts).length ↔ FMs parts cs 0 parts.length)
noncomputable def patOf (cs:List Comp) (tail:List Nat):List Nat:=joinL [47] (cs.map textOf)++tail
theorem Good.small {e:El} (h:Good e):e.txt.length <= 100/\e.rs.length <= 100/\∀ x ∈ e.txt,x < 256:=by
 cases h with
 | any fit h=>exact ⟨by simp,by simp,by simp⟩
 | star t h=>rcases h with rfl | rfl <;> exact ⟨by simp,by simp,by simp⟩
 | lit t o h =>
  have key:∀ p ∈ lettersN,p.1.length <= 100/\∀ x ∈ p.1,x < 256:=by decide
  exact ⟨(key (t,o) h).1,by simp,(key (t,o) h).2⟩
 | set s fit h h2=>exact ⟨h.small.1,h.small.2.1,h.small.2.2.1⟩
theorem zn0 {c:Comp} (h:GoodC c):(c.flatMap (fun O=>O.txt)).length <= 100 * c.length:=by
 induction c with
 | nil=>simp
 | cons e c ih =>
  have h1:=(h e (by simp)).small.1;have h2:=ih fun x hx=>h x (by simp [hx]);simp only [cR,aK,aI];omega
theorem zlr {c:Comp} (h:GoodC c):(textOf c).length <= 100 * c.length+2:=by
 have:=zn0 h;unfold textOf
 split
 ·simp
 ·split
  ·simp
  ·omega
theorem zp8 {cs:List Comp}:∀ c ∈ cs,c.length <= (cs.map cS).sum:=by
 induction cs with
 | nil=>simp
 | cons d cs ih =>
  intro c hc;rcases aO.mp hc with rfl | hc
  ·simp
  ·have:=ih c hc; simp; omega
theorem zm4 {cs:List Comp} (h:∀ c ∈ cs,GoodC c):((cs.map textOf).map cS).sum <= 100 * (cs.map cS).sum+2 * cs.length:=by
 induction cs with
 | nil=>simp
 | cons c cs ih =>
  have h1:=zlr (h c (by simp));have h2:=ih fun x hx=>h x (by simp [hx]);simp only [aS,fL,aI] at h2 |-;omega
open PySem PySem.W PyProof.Rows in
theorem zdi {cs:List Comp} {tail:List Nat} {m:Nat} (hm:m <= 20) (P:PatOk m cs tail):(joinL [47] (cs.map textOf)).length <= 3000/\tail.length <= 40:=by
 have h1:=zm4 P.gc;have h2:=P.n1;have h3:=P.n2;refine ⟨?_,?_⟩
 ·rw [zbh];simp only [bQ,aI,bY] at h1 |-;omega
 ·rcases P.gt with h | ⟨t,ht,b,hb,h⟩
  ·rw [h]; simp
  ·have:=(zer t ht).1;have:=(zdf b hb).1;rw [h,aK]; omega
theorem zob {ps:List (List Nat)} (h:NameOk ps):(joinL [47] ps).length <= 200000:=by
 have h1:(ps.map cS).sum <= 301 * ps.length:=by
  have:=h.good;clear h;induction ps with
  | nil=>simp
  | cons p ps ih =>
   have h2:=(this p (by simp)).2.1;have h3:=ih fun x hx=>this x (by simp [hx]);simp only [aS,fL,aI];omega
 have h2:=h.len;rw [zbh];simp only [aI,bY];omega
section
variable {N k:Nat}
noncomputable abbrev lwσ (script nums:V) (cs:List Comp) (tail pat rx:V) (items:List It2) (place:V) (o8 o9 o10:Option V):List Slot :=
 [ns (some script),ns (some nums),ns (some (.lst (cs.map compV))),ns (some tail),ns (some pat),ns (some rx),ns (some (.lst (items.map It2.v))),ns (some place),ns o8,ns o9,ns o10]
noncomputable abbrev CF (N k:Nat):Nat->List V->R V:=callF N fsAll 2 (k+10)
noncomputable abbrev PC (N k:Nat):V->V->List V->List V->R (V × List V × List V):=pcOf N fsAll 2 (k+10)
theorem zpv (hN:400003 <= N) {script nums tail pat rxv place:V} {cs:List Comp} {rx:List Nat} {l:List It2} {m:Nat} {tl:List Nat} (hm:m <= 20) (P:PatOk m cs tl) (L:Plain cs rx l) {num:Int} {o9 o10:Option V} :
  Ex2 fun o9' o10'=>exs N (CF N k) (PC N k) qlawD_1 (lwσ script nums cs tail pat rxv l place (some (.int num)) o9 o10) = .nx (lwσ script nums cs tail pat rxv l place (some (.int num)) o9' o10'):=by
 have hc:∀ c ∈ cs,(∀ e ∈ c,Good e)/\c.length <= 100:=fun c hc=>⟨P.gc c hc,by have:=zp8 c hc; have:=P.n2; omega⟩;have hcl:=P.n1;refine byC fun hG=>?_;obtain ⟨ps,hps,e21⟩:=zvb (N:=N) (k0:=k+8) (num:=num) hc (by omega);have hnl:=zob hps;have hpl:=hps.len;obtain ⟨b,e19,hb⟩:=zt2 (N:=N) (k:=k+7) (cs:=cs) (parts:=ps) (by omega) (by omega) (fun p hp=>by have:=(hps.good p hp).2.1; omega) (fun c h=>⟨by have:=(hc c h).2; omega,fun e he=>by have:=((hc c h).1 e he).small.2.1; omega⟩);have hj:vjoin [47] (.lst (ps.map .bytes)) = some (.bytes (joinL [47] ps)):=zhg (by omega);have hl2:=L.p2.len;obtain ⟨qs,e27,q1,q2⟩:=zr6 (N:=N) (k:=k+5) (name:=joinL [47] ps) (by omega) (by omega) (l:=l) (by have:=L.small; omega) L.ok (fun t ht hm=>L.inc _ t ht hm) (ps:=[0]) ⟨by simp,by simp⟩;have hlen:=zb6 (b:=joinL [47] ps) (by omega);have hv:=zc6 (q:=(joinL [47] ps).length) qs;have hdec:decide ((joinL [47] ps).length ∈ qs) = b:=by
  have h1:(joinL [47] ps).length ∈ qs ↔ b = true:=by
   rw [q2,hb,<- L.law ps hps];simp
  clear hb e19
  cases (b)
  ·simpa using h1
  ·simpa using h1
 rw [hdec] at hv;refine hG ?_;clear hG;refine ⟨some (.lst (ps.map .bytes)),some (.bytes (joinL [47] ps)),?_⟩;simp only [aS,eG,natV,cN] at e27;generalize joinL [47] ps = nm at *;clear hb
 cases (b)
 ·exact gx 0x15444 fun r=>r e21 hj hlen e27 hv e19
 ·exact gx 0x15444 fun r=>r e21 hj hlen e27 hv e19
theorem zke (hN:400003 <= N) {script nums tail pat rxv place:V} {cs:List Comp} {rx:List Nat} {l:List It2} {m:Nat} {tl:List Nat} (hm:m <= 20) (P:PatOk m cs tl) (L:Plain cs rx l):∀ (ks:List Int) (o8 o9 o10:Option V),
  Ex3 fun o8' o9' o10'=>forL (bF N (CF N k) (PC N k) 8 qlawD_1) (ks.map .int) (lwσ script nums cs tail pat rxv l place o8 o9 o10) = .nx (lwσ script nums cs tail pat rxv l place o8' o9' o10')
 | []=>fun o8 o9 o10=>⟨o8,o9,o10,rfl⟩
 | x :: ks=>by
  intro o8 o9 o10;obtain ⟨q9,q10,e1⟩:=zpv (k:=k) hN hm P L (script:=script) (nums:=nums) (tail:=tail) (pat:=pat) (rxv:=rxv) (place:=place) (num:=x) (o9:=o9) (o10:=o10);obtain ⟨z8,z9,z10,e2⟩:=zke hN hm P L ks (some (.int x)) q9 q10;refine ⟨z8,z9,z10,?_⟩;rw [aS,zed (.inl (by rw [bF]; exact e1)),e2]
open PySem PySem.W PyProof.Rows in
theorem zuo {l:List Int} (hl:l.length <= 1000):∃ l':List Int,l'.length <= 1000/\vsl (some (.int (-3))) none (.lst (l.map V.int)) = some (.lst (l'.map V.int)):=by
 refine ⟨vcut (some (-3)) none l,by have:=zir (some (-3)) none l; omega,?_⟩;show vslice (some (-3)) none (.lst (l.map V.int)) = _;have:(l.map V.int).length <= 16777216:=by simp; omega
 simp only [vslice,iff?,this,if_true,zjr]
noncomputable abbrev laσ (script nums:V) (cs:List Comp) (tail pat:V):List Slot :=
 [ns (some script),ns (some nums),ns (some (.lst (cs.map compV))),ns (some tail),ns (some pat),none,none,none,none,none,none]
theorem zl6 (hN:400003 <= N) {xs:List Int} (hx:xs.length <= 63):Ey2 (fun cs tail=>PatOk (xs.take 8).length cs tail) (fun cs tail=>exs N (CF N k) (PC N k) lawA [some (false,.lst (xs.map .int)),none,none,none,none,none,none,none,none,none,none] = .nx (laσ (.lst (xs.map .int)) (.lst ((xs.take 8).map .int)) cs (.bytes tail) (.bytes (patOf cs tail)))):=by
 have h8:(xs.take 8).length <= 8:=by simp; omega
 obtain ⟨cs,tail,P,e15⟩:=zmt (N:=N) (k:=k+7) (ns':=xs.take 8) (by omega);refine ⟨cs,tail,P,?_⟩;have hs:=zgj (f:=V.int) (l:=xs) (k:=8) (by omega);simp only [cN] at hs;obtain ⟨j1,j2⟩:=zdi (by omega) P;have hcl:=P.n1;have lm:(cs.map compV).length <= 1000000:=by simp; omega
 have hj:vjoin [47] (.lst ((cs.map textOf).map .bytes)) = some (.bytes (joinL [47] (cs.map textOf))):=zhg (by omega);have ha:vbin .add (.bytes (joinL [47] (cs.map textOf))) (.bytes tail) = some (.bytes (patOf cs tail)):=zdh (by omega);have key:∀ f:V->R (Option V),(∀ c ∈ cs,f (compV c) = .ok (some (.bytes (textOf c))))->compL f (cs.map compV) = .ok ((cs.map textOf).map .bytes):=fun f H=>zbq textOf cs H;refine gx 0x15444 fun r=>r hs e15 lm (key _ ?_) hj ha;intro c hc;have h1:=zp8 c hc;have h2:=P.n2;have h3:=zn0 (P.gc c hc);have e16:=zv0 (N:=N) (k:=k+9) (c:=c) (by omega) (by omega);exact goI 4 fun r=>r e16
theorem zlz (hN:400003 <= N) {xs:List Int} (hx:xs.length <= 63) {cs:List Comp} (P:PatOk (xs.take 8).length cs []) {rx:List Nat} {l:List It2} (L:Plain cs rx l) :
  ∃ σ',exs N (CF N k) (PC N k) lawD ((laσ (.lst (xs.map .int)) (.lst ((xs.take 8).map .int)) cs (.bytes []) (.bytes (patOf cs []))).set 5 (some (false,.bytes rx))) = .rt (.bool true) σ':=by
 have h8:(xs.take 8).length <= 8:=by simp; omega
 have hs:=L.small;refine byC fun hG=>?_;obtain ⟨i',hi,e25⟩:=zr9 (N:=N) (k:=k+5) (p:=rx) (by omega) (by omega) At.zero L.p2;have hi':i' = rx.length:=by have:=hi.len; simpa using this
 subst hi';have hlen:=zb6 (b:=rx) (by omega);obtain ⟨l',h1,e3⟩:=zuo (l:=xs.take 8) (by omega);have ha:vbin .add (.lst [.int 0,.int 75885229056]) (.lst (l'.map V.int)) = some (.lst ((0 :: 75885229056 :: l').map V.int)):=by rw [zg4 (by simp; omega)]; rfl
 have lm:((0 :: 75885229056 :: l').map V.int).length <= 1000000:=by simp; omega
 obtain ⟨z8,z9,z10,ef⟩:=zke (k:=k) hN (by omega) P L (script:=.lst (xs.map .int)) (nums:=.lst ((xs.take 8).map .int)) (tail:=.bytes []) (pat:=.bytes (patOf cs [])) (rxv:=.bytes rx) (place:=.int rx.length) (0 :: 75885229056 :: l') none none none;have hbb:vb1 .isb (.bytes rx) = some (.bool true):=rfl;refine hG ?_;clear hG;generalize (0 :: 75885229056 :: l').map V.int = KS at *;refine ⟨lwσ (.lst (xs.map .int)) (.lst ((xs.take 8).map .int)) cs (.bytes []) (.bytes (patOf cs [])) (.bytes rx) l (.int rx.length) z8 z9 z10,?_⟩;have e25':CF N k 25 [.bytes rx,.int 0] = .ok (.tup [.lst (l.map It2.v),.int rx.length]):=e25;exact gx 0x154144040 fun r=>r hbb e25' hlen (nT rfl) e3 ha (it_l lm) ef
end

noncomputable abbrev Row:=List Nat × Nat × List (Nat × Nat) × List (List Nat) × List (Int × Int) × List (Int × Int)
noncomputable def mTab:List Row:=[([97],1,[(97,97)],[],[(97,97)],[]),
 ([97,45,99],2,[(97,99)],[],[(97,99)],[]),
 ([99,45,97],2,[(99,99)],[],[(99,99)],[]),
 ([43,45,57],2,[(43,57)],[],[(43,46),(48,57)],[]),
 ([47],1,[(47,47)],[],[],[]),
 ([92,93],1,[(93,93)],[],[(93,93)],[]),
 ([92,45],1,[(45,45)],[],[(45,45)],[]),
 ([92,92],1,[(92,92)],[],[(92,92)],[]),
 ([92,97,45,92,99],2,[(97,99)],[],[(97,99)],[]),
 ([97,45,99,45,120],4,[(120,120),(45,45),(97,99)],[],[(97,99),(45,45),(120,120)],[]),
 ([91,58,100,105,103,105,116,58,93,45,122],3,[(122,122),(45,45)],[[48,45,57]],[(45,45),(122,122)],[(48,57)]),
 ([120,94,33],3,[(33,33),(94,94),(120,120)],[],[(120,120),(94,94),(33,33)],[]),
 ([128,45,255],2,[(128,255)],[],[(128,255)],[]),
 ([42,63],2,[(63,63),(42,42)],[],[(42,42),(63,63)],[]),
 ([91,58,97,108,110,117,109,58,93],1,[],[[48,45,57,65,45,90,97,45,122]],[],[(48,57),(65,90),(97,122)]),
 ([91,58,97,108,112,104,97,58,93],1,[],[[65,45,90,97,45,122]],[],[(65,90),(97,122)]),
 ([91,58,98,108,97,110,107,58,93],1,[],[[92,116,32]],[],[(9,9),(32,32)]),
 ([91,58,99,110,116,114,108,58,93],1,[],[[92,120,48,48,45,92,120,49,102,92,120,55,102]],[],[(0,31),(127,127)]),
 ([91,58,100,105,103,105,116,58,93],1,[],[[48,45,57]],[],[(48,57)]),
 ([91,58,103,114,97,112,104,58,93],1,[],[[33,45,46,48,45,126]],[],[(33,46),(48,126)]),
 ([91,58,108,111,119,101,114,58,93],1,[],[[97,45,122]],[],[(97,122)]),
 ([91,58,112,114,105,110,116,58,93],1,[],[[32,45,46,48,45,126]],[],[(32,46),(48,126)]),
 ([91,58,112,117,110,99,116,58,93],1,[],[[33,45,46,58,45,64,92,91,45,96,123,45,126]],[],[(33,46),(58,64),(91,96),(123,126)]),
 ([91,58,115,112,97,99,101,58,93],1,[],[[92,116,92,110,92,114,32]],[],[(9,9),(10,10),(13,13),(32,32)]),
 ([91,58,117,112,112,101,114,58,93],1,[],[[65,45,90]],[],[(65,90)]),
 ([91,58,120,100,105,103,105,116,58,93],1,[],[[48,45,57,65,45,70,97,45,102]],[],[(48,57),(65,70),(97,102)])]
noncomputable def fTab:List Row:=[([],0,[],[],[],[]),
 ([93],1,[(93,93)],[],[(93,93)],[]),
 ([93,45,97],2,[(93,97)],[],[(93,97)],[])]
noncomputable def lTab:List Row:=[([],0,[],[],[],[]),
 ([45],1,[(45,45)],[],[(45,45)],[]),
 ([91,58],2,[(58,58),(91,91)],[],[(91,91),(58,58)],[]),
 ([91,58,120],3,[(120,120),(58,58),(91,91)],[],[(91,91),(58,58),(120,120)],[])]
noncomputable def all8 {β:Type} (F:List Nat->Option Nat->Bool->β) (c:Nat) (u:List Nat) (x:Nat):List β:=[F [] none false,F [] none true,F [] (some x) false,F [] (some x) true,F (c :: u) none false,F (c :: u) none true,F (c :: u) (some x) false,F (c :: u) (some x) true]
theorem zi1 {β:Type} {F G:List Nat->Option Nat->Bool->β} (h:∀ c u x,all8 F c u x = all8 G c u x):∀ u pv f,F u pv f = G u pv f
 | u,pv,f=>by
  have h:=fun c u x=>bJ (h c u x);rcases u with _ | ⟨c,u⟩ <;> rcases pv with _ | x <;> cases f
  ·exact (h 0 [] 0).1
  ·exact (bJ (h 0 [] 0).2).1
  ·exact (bJ (bJ (h 0 [] x).2).2).1
  ·exact (bJ (bJ (bJ (h 0 [] x).2).2).2).1
  ·exact (bJ (bJ (bJ (bJ (h c u 0).2).2).2).2).1
  ·exact (bJ (bJ (bJ (bJ (bJ (h c u 0).2).2).2).2).2).1
  ·exact (bJ (bJ (bJ (bJ (bJ (bJ (h c u x).2).2).2).2).2).2).1
  ·exact (bJ (bJ (bJ (bJ (bJ (bJ (bJ (h c u x).2).2).2).2).2).2).2).1
noncomputable def wOf (t:Row):Option Nat:=if [[97],[47],[92,93],[92,45],[92,92],[97,45,99,45,120],[91,58,100,105,103,105,116,58,93,45,122],[120,94,33],[42,63]].elem t.1 then t.1.getLast? else none
theorem zw3 (t:Row) (ht:t ∈ mTab) (n:Nat) (u:List Nat) (ms:List (Nat × Nat)) (cs:List (List Nat)) (pv:Option Nat) (f:Bool):∃ pv',brk (n+t.2.1) (t.1++u) ms cs pv f = brk n u (t.2.2.1++ms) (t.2.2.2.1++cs) pv' false:=by
 have h:mTab.map (fun t n ms cs=>all8 fun u pv f=>brk (n+t.2.1) (t.1++u) ms cs pv f) = mTab.map (fun t n ms cs=>all8 fun u O O=>brk n u (t.2.2.1++ms) (t.2.2.2.1++cs) (wOf t) false):=by kernel_rfl
 exact ⟨wOf t,zi1 (fun c u x=>congrFun (congrFun (congrFun (congrFun (congrFun (congrFun (List.map_inj_left.mp h t ht) n) ms) cs) c) u) x) u pv f⟩
theorem zwp (t:Row) (ht:t ∈ fTab) (hn:t.1 ≠ []) (n:Nat) (u:List Nat) (ms:List (Nat × Nat)) (cs:List (List Nat)) (pv:Option Nat):∃ pv',brk (n+t.2.1) (t.1++u) ms cs pv true = brk n u (t.2.2.1++ms) (t.2.2.2.1++cs) pv' false:=by
 have h:fTab.tail.map (fun t n ms cs=>all8 fun u pv O=>brk (n+t.2.1) (t.1++u) ms cs pv true) = fTab.tail.map (fun t n ms cs=>all8 fun u O O=>brk n u (t.2.2.1++ms) (t.2.2.2.1++cs) (if t.2.1 = 1 then some 93 else none) false):=by kernel_rfl
 have ht:t ∈ fTab.tail:=(aO.mp ht).elim (fun e=>absurd (congrArg fD e) hn) id;exact ⟨_,zi1 (fun c u x=>congrFun (congrFun (congrFun (congrFun (congrFun (congrFun (List.map_inj_left.mp h t ht) n) ms) cs) c) u) x) u pv true⟩
theorem ztr (t:Row) (ht:t ∈ lTab) (n:Nat) (u:List Nat) (ms:List (Nat × Nat)) (cs:List (List Nat)) (pv:Option Nat):brk (n+t.2.1+1) (t.1++93 :: u) ms cs pv false = .ok (u,t.2.2.1++ms,t.2.2.2.1++cs):=by
 have h:lTab.map (fun t n ms cs=>all8 fun u pv O=>brk (n+t.2.1+1) (t.1++93 :: u) ms cs pv false) = lTab.map (fun t n ms cs=>all8 fun u O O=>R.ok (u,t.2.2.1++ms,t.2.2.2.1++cs)):=by kernel_rfl
 exact zi1 (fun c u x=>congrFun (congrFun (congrFun (congrFun (congrFun (congrFun (List.map_inj_left.mp h t ht) n) ms) cs) c) u) x) u pv true
noncomputable def sgF:List Nat->Option (Int × List Nat)
 | []=>none
 | c :: s=>if c = 92 then match s with
  | []=>none
  | x :: s=>if x = 120 then match s with
   | a :: b :: r=>some (16 * hx a+hx b,r)
   | _=>none
   else some (sgn x,s)
  else some (c,s)
noncomputable def pcl:Nat->List Nat->Option (List (Int × Int))
 | 0,O=>none
 | O+1,[]=>some []
 | n+1,a :: s=>if a = 45 \/ a = 93 \/ a = 94 then none else match sgF (a :: s) with
  | none=>none
  | some (c,r)=>match r with
   | 45 :: r'=>match sgF r' with
    | none=>none
    | some (d,r2)=>match pcl n r2 with
     | some l=>some ((c,d) :: l)
     | none=>none
   | r=>match pcl n r with
    | some l=>some ((c,c) :: l)
    | none=>none
set_option tactic.hygienic true in
theorem zqf {s r u:List Nat} {c:Int} (h:sgF s = some (c,r)):Sg (s++u) c (r++u):=by
 unfold sgF at h
 split at h
 ·cases h
 ·split at h
  ·rename_i hc;subst hc
   split at h
   ·cases h
   ·split at h
    ·rename_i hx;subst hx
     split at h
     ·cases h; exact .hex _ _
     ·cases h
    ·rename_i hx
     cases h
     exact .esc _ hx
  ·rename_i hc
   cases h
   exact .lit _ hc
noncomputable def HdOk (u:List Nat):Prop:=Ex2 fun d u'=>And3 (u = d :: u') (d ≠ 45) (d ≠ 94)
set_option tactic.hygienic true in
theorem zlv {n:Nat} {t u:List Nat} {rs:List (Int × Int)} (h:pcl n t = some rs) (hu:HdOk u):HdOk (t++u):=by
 cases n with
 | zero=>cases h
 | succ n =>
  cases t with
  | nil=>exact hu
  | cons a s =>
   rw [pcl] at h
   split at h
   ·cases h
   ·rename_i ha;exact ⟨a,s++u,rfl,fun z=>ha (.inl z),fun z=>ha (.inr (.inr z))⟩
set_option tactic.hygienic true in
theorem zi5:∀ {n:Nat} {t:List Nat} {rs:List (Int × Int)},pcl n t = some rs->∀ {u w:List Nat} {l:List (Int × Int)},HdOk u->Cl u l w->Cl (t++u) (rs++l) w
 | 0,O,O1,h,O2,O3,O4,O5,O6=>by cases h
 | n+1,[],O,h,u,w,l,O1,hc=>by cases h; exact hc
 | n+1,a :: s,rs,h,u,w,l,hu,hc=>by
  rw [pcl] at h
  split at h
  ·cases h
  ·rename_i ha;have ha3:a ≠ 93:=fun z=>ha (.inr (.inl z))
   split at h
   ·cases h
   ·rename_i c r hs;have h1:=zqf (u:=u) hs
    split at h
    ·rename_i r'
     split at h
     ·cases h
     ·rename_i d r2 hs2;have h2:=zqf (u:=u) hs2
      split at h
      ·rename_i l' hl
       cases h
       exact .rng ha3 h1 h2 (zi5 hl hu hc)
      ·cases h
    ·rename_i r hne
     split at h
     ·rename_i l' hl
      cases h
      have h3:=zi5 hl hu hc;obtain ⟨d,u',e,hd,_⟩:=zlv hl hu;rw [e] at h1 h3;exact .one ha3 h1 hd h3
     ·cases h
noncomputable def rowOk (t:Row):Bool:=(pcl 40 (render t.2.2.1.reverse).flatten == some t.2.2.2.2.1) && (pcl 40 t.2.2.2.1.reverse.flatten == some t.2.2.2.2.2)
theorem zr0:∀ t ∈ mTab++fTab++lTab,rowOk t = true:=by decide +kernel
noncomputable def inR (o:Nat) (rs:List (Int × Int)):Bool:=rs.any fun r=>decide (r.1 <= (o:Int)) && decide ((o:Int) <= r.2)
noncomputable def rowSem (p:Pc) (t:Row):Bool:=(eB 256).all fun o=>if o = 47 then !(inR o t.2.2.2.2.1 || inR o t.2.2.2.2.2) else (inR o t.2.2.2.2.1 || inR o t.2.2.2.2.2) == inR o p.2
theorem zwz:∀ p ∈ membersN,∃ t ∈ mTab,t.1 = p.1/\rowSem p t = true:=by decide +kernel
theorem zws:∀ p ∈ firstsN,∃ t ∈ fTab,t.1 = p.1/\rowSem p t = true:=by decide +kernel
theorem zwi:∀ p ∈ lastsN,∃ t ∈ lTab,t.1 = p.1/\rowSem p t = true:=by decide +kernel

theorem zdl {o:Nat} {a b:List (Int × Int)}:inR o (a++b) = (inR o a || inR o b):=by simp [inR]
theorem zk1 (a b:List (Nat × Nat)):(render (a++b)).flatten = (render a).flatten++(render b).flatten:=by simp [render]
structure Part (b:Nat) (ms:List (Nat × Nat)) (cs:List (List Nat)) (R1 R2 rs:List (Int × Int)):Prop where
 p1:∀ (u w:List Nat) (l:List (Int × Int)),HdOk u->Cl u l w->Cl ((render ms.reverse).flatten++u) (R1++l) w/\HdOk ((render ms.reverse).flatten++u)
 p2:∀ (u w:List Nat) (l:List (Int × Int)),HdOk u->Cl u l w->Cl (cs.reverse.flatten++u) (R2++l) w/\HdOk (cs.reverse.flatten++u)
 sem:∀ o,o < 256->(o ≠ 47->(inR o R1 || inR o R2) = inR o rs)/\(o = 47->inR o R1 = false/\inR o R2 = false)
 n1:∀ q ∈ ms,q.2 < 256
 n2:ms.length <= b
 n3:cs.length <= b
 n4:cs.flatten.length <= 100 * b
 n5:R1.length+R2.length <= 10 * b
theorem Part.nil:Part 0 [] [] [] [] [] :=
 ⟨fun u w l h1 h2=>⟨by simpa [render] using h2,by simpa [render] using h1⟩,fun u w l h1 h2=>⟨by simpa using h2,by simpa using h1⟩,fun o O=>⟨fun O=>rfl,fun O=>⟨rfl,rfl⟩⟩,by simp,by simp,by simp,by simp,by simp⟩
theorem Part.app {b b':Nat} {ms ms':List (Nat × Nat)} {cs cs':List (List Nat)} {R1 R2 rs R1' R2' rs':List (Int × Int)} (A:Part b ms cs R1 R2 rs) (B:Part b' ms' cs' R1' R2' rs') :
  Part (b+b') (ms'++ms) (cs'++cs) (R1++R1') (R2++R2') (rs++rs'):=by
 refine ⟨fun u w l h1 h2=>?_,fun u w l h1 h2=>?_,fun o ho=>⟨fun h=>?_,fun h=>?_⟩,fun q hq=>?_,?_,?_,?_,?_⟩
 ·obtain ⟨c1,d1⟩:=B.p1 u w l h1 h2;obtain ⟨c2,d2⟩:=A.p1 _ w _ d1 c1;rw [List.reverse_append,zk1];simp only [bH] at c2 d2 |-;exact ⟨c2,d2⟩
 ·obtain ⟨c1,d1⟩:=B.p2 u w l h1 h2;obtain ⟨c2,d2⟩:=A.p2 _ w _ d1 c1;rw [List.reverse_append,List.flatten_append];simp only [bH] at c2 d2 |-;exact ⟨c2,d2⟩
 ·have h1:=(A.sem o ho).1 h;have h2:=(B.sem o ho).1 h;rw [zdl,zdl,zdl,<- h1,<- h2]
  cases inR o R1 <;> cases inR o R2 <;> cases inR o R1' <;> cases inR o R2' <;> rfl
 ·have h1:=(A.sem o ho).2 h;have h2:=(B.sem o ho).2 h;rw [zdl,zdl,h1.1,h1.2,h2.1,h2.2];exact ⟨rfl,rfl⟩
 ·rcases aU.mp hq with hq | hq
  ·exact B.n1 q hq
  ·exact A.n1 q hq
 ·have:=A.n2; have:=B.n2; rw [aK]; omega
 ·have:=A.n3; have:=B.n3; rw [aK]; omega
 ·have:=A.n4; have:=B.n4; rw [List.flatten_append,aK]; omega
 ·have:=A.n5; have:=B.n5; rw [aK,aK]; omega
theorem zcg:∀ t ∈ mTab++fTab++lTab,(∀ q ∈ t.2.2.1,q.2 < 256)/\t.2.2.1.length <= 10/\t.2.2.2.1.length <= 10/\t.2.2.2.1.flatten.length <= 1000/\t.2.2.2.2.1.length+t.2.2.2.2.2.length <= 100/\t.2.1 <= 10:=by decide +kernel
theorem Part.row {t:Row} {p:Pc} (ht:t ∈ mTab++fTab++lTab) (hs:rowSem p t = true):Part 10 t.2.2.1 t.2.2.2.1 t.2.2.2.2.1 t.2.2.2.2.2 p.2:=by
 have h1:=zr0 t ht;simp only [rowOk,bB,beq_iff_eq] at h1;obtain ⟨s1,s2,s3,s4,s5,_⟩:=zcg t ht;refine ⟨fun u w l a b=>⟨zi5 h1.1 a b,zlv h1.1 a⟩,fun u w l a b=>⟨zi5 h1.2 a b,zlv h1.2 a⟩,fun o ho=>?_,s1,s2,s3,by omega,by omega⟩;have:=bS.mp hs o (List.mem_range.mpr ho);constructor
 ·intro h;rw [if_neg h] at this;exact beq_iff_eq.mp this
 ·intro h;rw [if_pos h] at this
  simpa using this
theorem zjw:∀ (mid:List Pc),(∀ m ∈ mid,m ∈ membersN)->Ex5 fun (K:Nat) (ms':List (Nat × Nat)) (cs':List (List Nat)) (R1 R2:List (Int × Int))=>And3 (K <= 10 * mid.length) (Part (10 * mid.length) ms' cs' R1 R2 (mid.flatMap Prod.snd)) (∀ n u ms cs pv f,∃ pv',brk (n+K) (mid.flatMap fD++u) ms cs pv f = brk n u (ms'++ms) (cs'++cs) pv' (if mid = [] then f else false))
 | []=>fun O=>⟨0,[],[],[],[],by simp,.nil,fun n u ms cs pv f=>⟨pv,rfl⟩⟩
 | m :: mid=>by
  intro h;refine byC fun hG=>?_;obtain ⟨t,ht,e,hs⟩:=zwz m (h m (by simp));have hmem:t ∈ mTab++fTab++lTab:=by simp [ht]
  obtain ⟨_,_,_,_,_,hk⟩:=zcg t hmem;obtain ⟨K,ms',cs',R1,R2,h1,h2,h3⟩:=zjw mid fun x hx=>h x (by simp [hx]);refine hG ?_;clear hG;refine ⟨K+t.2.1,_,_,_,_,by simp; omega,by have:=(Part.row hmem hs).app h2; rw [show 10 * (m :: mid).length = 10+10 * mid.length by simp; omega]; exact this,fun n u ms cs pv f=>?_⟩;refine byC fun hG=>?_;obtain ⟨pv1,e1⟩:=zw3 t ht (n+K) (mid.flatMap fD++u) ms cs pv f;obtain ⟨pv2,e2⟩:=h3 n u (t.2.2.1++ms) (t.2.2.2.1++cs) pv1 false;refine hG ?_;clear hG;refine ⟨pv2,?_⟩;rw [cR,<- e,bH,<- Nat.add_assoc,e1,e2];simp
noncomputable def SetP.inner (s:SetP) (u:List Nat):List Nat:=s.first.1++(s.mid.flatMap fD++(s.last.1++93 :: u))
noncomputable def headB (l:List Nat):Bool:=match l with
 | d :: O=>!(d == 33) && !(d == 94)
 | []=>false
theorem zi8 {l:List Nat} (h:headB l = true):Ex2 fun d r=>And3 (l = d :: r) (d ≠ 33) (d ≠ 94):=by
 cases l with
 | nil=>exact absurd h aJ
 | cons d r =>
  obtain ⟨h1,h2⟩:=zaa h;exact ⟨d,r,rfl,fun e=>by subst e; exact absurd h1 aJ,fun e=>by subst e; exact absurd h2 aJ⟩
theorem zry:membersN.all (fun p=>headB p.1) = true:=by decide +kernel
theorem zrc:firstsN.all (fun p=>p.1 == [] || headB p.1) = true:=by decide +kernel
theorem zlj {s:SetP} (h:SetOk s) (u:List Nat):Ex2 fun d r=>And3 (s.inner u = d :: r) (d ≠ 33) (d ≠ 94):=by
 unfold SetP.inner;rcases (eQ _ _).mp (bS.mp zrc s.first h.first) with h1 | h1
 ·replace h1:s.first.1 = []:=aR h1
  cases hm:s.mid with
  | nil=>exact absurd hm (h.some h1)
  | cons m mid =>
   obtain ⟨d,r,e,h2,h3⟩:=zi8 (bS.mp zry m (h.mid m (by rw [hm]; simp)));refine ⟨d,r++(mid.flatMap fD++(s.last.1++93 :: u)),?_,h2,h3⟩;rw [h1,cR,e];simp
 ·obtain ⟨d,r,h1,h2,h3⟩:=zi8 h1;exact ⟨d,r++(s.mid.flatMap fD++(s.last.1++93 :: u)),by rw [h1]; rfl,h2,h3⟩
theorem znm {s:SetP} (h:SetOk s):Ey4 (fun (ms:List (Nat × Nat)) (cs:List (List Nat)) (R1 R2:List (Int × Int))=>Part 40 ms cs R1 R2 s.rs) (fun (ms:List (Nat × Nat)) (cs:List (List Nat)) (R1 R2:List (Int × Int))=>∀ N u,100 <= N->brk N (s.inner u) [] [] none true = .ok (u,ms,cs)):=by
 refine byC fun hG=>?_;obtain ⟨tf,htf,ef,hsf⟩:=zws s.first h.first
 obtain ⟨tl,htl,el,hsl⟩:=zwi s.last h.last;obtain ⟨K,ms',cs',R1,R2,h1,h2,h3⟩:=zjw s.mid h.mid;have hmf:tf ∈ mTab++fTab++lTab:=by simp [htf]
 have hml:tl ∈ mTab++fTab++lTab:=by simp [htl]
 obtain ⟨_,_,_,_,_,kf⟩:=zcg tf hmf;obtain ⟨_,_,_,_,_,kl⟩:=zcg tl hml;have hlen:=h.len;have P:=((Part.row hmf hsf).app h2).app (Part.row hml hsl);refine hG ?_;clear hG;refine ⟨_,_,_,_,⟨P.p1,P.p2,?_,P.n1,by have:=P.n2; omega,by have:=P.n3; omega,by have:=P.n4; omega,by have:=P.n5; omega⟩,fun N u hN=>?_⟩
 ·have:=P.sem
  simpa only [SetP.rs,bH] using this
 ·obtain ⟨n,rfl⟩:∃ n,N = n+tl.2.1+1+K+tf.2.1:=⟨N - (tl.2.1+1+K+tf.2.1),by omega⟩;unfold SetP.inner;rw [<- ef,<- el]
  by_cases hf:tf.1 = []
  ·have hm:s.mid ≠ []:=h.some (by rw [<- ef]; exact hf);have htf0:tf.2.1 = 0/\tf.2.2.1 = []/\tf.2.2.2.1 = []:=by
    have key:∀ t ∈ fTab,t.1 = []->t.2.1 = 0/\t.2.2.1 = []/\t.2.2.2.1 = []:=by decide
    exact key tf htf hf
   rw [hf,htf0.1,htf0.2.1,htf0.2.2];obtain ⟨pv,e2⟩:=h3 (n+tl.2.1+1) (tl.1++93 :: u) [] [] none true;rw [fJ,Nat.add_zero,e2,if_neg hm,ztr tl htl]
   try simp
  ·refine byC fun hG=>?_;obtain ⟨pv1,e1⟩:=zwp tf htf hf (n+tl.2.1+1+K) (s.mid.flatMap fD++(tl.1++93 :: u)) [] [] none;obtain ⟨pv,e2⟩:=h3 (n+tl.2.1+1) (tl.1++93 :: u) (tf.2.2.1++[]) (tf.2.2.2.1++[]) pv1 false;have e3:(if s.mid = [] then false else false) = false:=by split <;> rfl
   refine hG ?_;clear hG;rw [e1,e2,e3,ztr tl htl]
   try simp
theorem zuy {s:SetP} (h:SetOk s):Ex2 fun (t:List Nat) (a:A)=>And7 (t ≠ []) (t.length <= 8000) ((∀ N u,100 <= N->Bset N (s.sign++s.inner u) u t)) ((∀ w,PA (t++w) a w)) ((Ey2 (fun d r=>t = d :: r) (fun d r=>(d = 91 \/ d = 40)))) (a.ok) (∀ name p,p < name.length->name.getD p 0 < 256->((∃ q,TA name a p q) ↔ (name.getD p 0 ≠ 47/\holds (name.getD p 0) (!s.sign.isEmpty) s.rs = true))):=by
 obtain ⟨ms,cs,R1,R2,P,run⟩:=znm h;have hsg:=h.sign;have hneg:∀ u,negOf (s.sign++s.inner u) = !s.sign.isEmpty/\(if negOf (s.sign++s.inner u) then (s.sign++s.inner u).tail else s.sign++s.inner u) = s.inner u:=by
  intro u;simp only [aO,bP,or_false] at hsg;rcases hsg with e | e | e
  ·obtain ⟨d,r,e1,d1,d2⟩:=zlj h u;rw [e,fJ,e1];simp [negOf,d1,d2]
  ·rw [e]; simp [negOf]
  ·rw [e]; simp [negOf]
 generalize hbody:(render ms.reverse).flatten++cs.reverse.flatten = body;have hbl:body.length <= 1900 * 3:=by
  have h1:=zeh ms.reverse;have h2:cs.reverse.flatten.length = cs.flatten.length:=by simp [List.length_flatten]
  have:=P.n2;have:=P.n4;rw [<- hbody,aK,h2];rw [List.length_reverse] at h1;omega
 have hcl:∀ w,Cl (body++93 :: w) (R1++(R2++[])) w/\HdOk (body++93 :: w):=by
  intro w;obtain ⟨c2,d2⟩:=P.p2 (93 :: w) w [] ⟨93,w,rfl,by decide,by decide⟩ .nil;obtain ⟨c1,d1⟩:=P.p1 _ w _ d2 c2;rw [<- hbody,bH];exact ⟨c1,d1⟩
 have hho:∀ (o:Nat) (n:Bool) (rs:List (Int × Int)),holds o n rs = (n != inR o rs):=fun O O O=>rfl;have hlu:∀ u,u.length < (s.sign++s.inner u).length:=fun u=>by simp only [SetP.inner,aK,aI]; omega
 have hB:∀ N u,100 <= N->Bset N (s.sign++s.inner u) u (wrap (!s.sign.isEmpty) body):=fun N u hN =>
  ⟨ms,cs,by rw [(hneg u).2]; exact run N u hN,P.n1,by have:=P.n2; omega,by have:=P.n4; omega,by have:=P.n3; omega,by rw [(hneg u).1,hbody],hlu u⟩
 have hR:(R1++(R2++[])).length <= 400:=by have:=P.n5; simp; omega
 have hin:∀ o,inR o (R1++(R2++[])) = (inR o R1 || inR o R2):=fun o=>by rw [bV,zdl]
 have sem:∀ o,o < 256->(o ≠ 47->inR o (R1++(R2++[])) = inR o s.rs)/\(o = 47->inR o (R1++(R2++[])) = false):=fun o ho=>by
  have:=P.sem o ho;rw [hin];exact ⟨this.1,fun h=>by rw [(this.2 h).1,(this.2 h).2]; rfl⟩
 generalize R1++(R2++[]) = R at *;have hTA:∀ name p n rs,p < name.length->((∃ q,TA name (.cls n rs) p q) ↔ holds (name.getD p 0) n rs = true):=fun name p n rs hp =>
  ⟨fun ⟨q,O,O1,h⟩=>h,fun h=>⟨p+1,rfl,hp,h⟩⟩
 cases hs:s.sign.isEmpty
 ·
  rw [hs] at hB;refine ⟨_,.cls true ((47,47) :: R),?_,?_,hB,fun w=>?_,?_,?_,fun name p hp ho=>?_⟩
  ·simp [wrap]
  ·simp [wrap]; omega
  ·obtain ⟨c,d,r,e,h1,h2⟩:=hcl w;have:wrap (!false) body++w = 91 :: (94 :: (47 :: (body++93 :: w))):=by simp [wrap]
   rw [this];refine .cls (.neg ?_);rw [e] at c |-;exact .one (by decide) (.lit 47 (by decide)) h1 c
  ·exact ⟨_,_,rfl,.inl rfl⟩
  ·show _ <= _;simp; omega
  ·rw [hTA name p _ _ hp,hho,hho];generalize name.getD p 0 = o at *;have h47:inR o ((47,47) :: R) = (decide (o = 47) || inR o R):=by
    have:(decide ((47:Int) <= (o:Int)) && decide ((o:Int) <= 47)) = decide (o = 47):=by
     by_cases h:o = 47
     ·clear ho;subst h; rfl
     ·simp [h]; omega
    simp only [inR,List.any_cons,this]
   rw [h47]
   by_cases h:o = 47
   ·simp [h]
   ·rw [(sem o ho).1 h];simp [h]
 ·rw [hs] at hB
  by_cases hb:body = []
  ·have hR0:R = []:=by
    have:=(hcl []).1;rw [hb] at this;clear hcl sem hin hR
    cases this with
    | nil=>rfl
    | one h O O1 O2=>exact absurd rfl h
    | rng h O O1 O2=>exact absurd rfl h
   refine ⟨_,.none,?_,?_,hB,fun w=>?_,?_,trivial,fun name p hp ho=>?_⟩
   ·simp [wrap,hb]
   ·simp [wrap,hb]
   ·have:wrap (!true) body++w = 40 :: 63 :: 33 :: 41 :: w:=by simp [wrap,hb]
    rw [this]; exact .none
   ·exact ⟨40,[63,33,41],by simp [wrap,hb],.inr rfl⟩
   ·rw [hho];generalize name.getD p 0 = o at *;constructor
    ·rintro ⟨q,h⟩; exact h.elim
    ·rintro ⟨h1,h2⟩;rw [<- (sem o ho).1 h1,hR0] at h2;simp [inR] at h2
  ·refine ⟨_,.cls false R,?_,?_,hB,fun w=>?_,?_,?_,fun name p hp ho=>?_⟩
   ·simp [wrap,hb]
   ·simp [wrap,hb]; omega
   ·obtain ⟨c,d,r,e,h1,h2⟩:=hcl w;have:wrap (!true) body++w = 91 :: (body++93 :: w):=by simp [wrap,hb]
    rw [this];refine .cls ?_;rw [e] at c |-;exact .pos h2 c
   ·exact ⟨91,body++[93],by simp [wrap,hb],.inl rfl⟩
   ·show _ <= _;omega
   ·rw [hTA name p _ _ hp,hho,hho];generalize name.getD p 0 = o at *
    by_cases h:o = 47
    ·rw [(sem o ho).2 h];simp [h]
    ·rw [(sem o ho).1 h];simp [h]

structure Elem (e:El) (t:List Nat) (a:A):Prop where
 seg:∀ N s out,100 <= N->Seg N s out->Seg N (e.txt++s) (t++out)
 spl:∀ N s cur r,100 <= N->Spl N s (cur++e.txt) r->Spl N (e.txt++s) cur r
 pa:∀ w,PA (t++w) a w
 hd:Ex2 fun d r=>And4 (t = d :: r) (d ≠ 42) (d ≠ 43) (d ≠ 63)
 ok:a.ok
 sem:∀ name p,p < name.length->name.getD p 0 < 256->((∃ q,TA name a p q) ↔ (name.getD p 0 ≠ 47/\holds (name.getD p 0) e.neg e.rs = true))
 txt:Ey2 (fun d r=>e.txt = d :: r) (fun d r=>d ≠ 42)
 len:t.length <= 8000
theorem zmi (w:List Nat):Cls (94 :: 47 :: 93 :: w) true [(47,47)] w:=.neg (.one (by decide) (.lit 47 (by decide)) (by decide) .nil)
theorem ztd {name:List Nat} {n:Bool} {rs:List (Int × Int)} {p:Nat} (hp:p < name.length):(∃ q,TA name (.cls n rs) p q) ↔ holds (name.getD p 0) n rs = true :=
 ⟨fun ⟨q,O,O1,h⟩=>h,fun h=>⟨p+1,rfl,hp,h⟩⟩
theorem znq (o:Nat):holds o true [(47,47)] = !decide (o = 47):=by
 have:(decide ((47:Int) <= (o:Int)) && decide ((o:Int) <= 47)) = decide (o = 47):=by
  by_cases h:o = 47
  ·subst h; rfl
  ·simp [h]; omega
 simp [holds,this]
theorem zll:∀ p ∈ lettersN,((p.1 = [p.2]/\p.2 ≠ 42/\p.2 ≠ 63/\p.2 ≠ 92/\p.2 ≠ 91) \/ p.1 = [92,p.2])/\p.2 ≠ 47 /\
  (p.2 ∈ spec->p.2 ≠ 120/\sgn p.2 = p.2)/\(p.2 ∉ spec->p.2 ≠ 92/\p.2 ≠ 40/\p.2 ≠ 41/\p.2 ≠ 91/\p.2 ≠ 46/\p.2 ≠ 42/\p.2 ≠ 43/\p.2 ≠ 63):=by decide
set_option tactic.hygienic true in
theorem zso {e:El} (h:Good e) (hm:e.many = false):Ex2 fun t a=>Elem e t a:=by
 cases h with
 | any fit hf =>
  refine ⟨[91,94,47,93],.cls true [(47,47)],⟨fun N s out O h=>.any h,fun N s cur r O h=>.lit 63 (by decide) (by decide) (by decide) h,fun w=>.cls (zmi w),⟨91,_,rfl,by decide,by decide,by decide⟩,by show _ <= _; simp,fun name p hp ho=>?_,⟨63,[],rfl,by decide⟩,by simp⟩⟩;rw [ztd hp,znq];simp [holds]
 | star t h=>cases hm
 | lit t o hto =>
  obtain ⟨h1,h2,h3,h4⟩:=zll (t,o) hto;dsimp only at h1 h2 h3 h4;refine ⟨esc1 o,.cls false [((o:Int),(o:Int))],⟨fun N s out O h=>?_,fun N s cur r O h=>?_,fun w=>?_,?_,by show _ <= _; simp,fun name p hp ho=>?_,?_,by have:=zbj o; omega⟩⟩
  ·clear hto hm;rcases h1 with ⟨rfl,a,b,c,d⟩ | rfl
   ·exact .lit o a b c d h
   ·exact .esc o h
  ·clear hto hm;rcases h1 with ⟨rfl,a,b,c,d⟩ | rfl
   ·exact .lit o c d h2 h
   ·exact .esc o h2 h
  ·unfold esc1
   split
   ·rename_i hs;obtain ⟨k1,k2⟩:=h3 hs;have:=Sg.esc o (r:=w) k1;rw [k2] at this;exact .lit (by decide) (by decide) (by decide) (by decide) this
   ·rename_i hs;obtain ⟨k1,k2,k3,k4,k5,_⟩:=h4 hs;exact .lit k2 k3 k4 k5 (.lit o k1)
  ·unfold esc1
   split
   ·exact ⟨92,_,rfl,by decide,by decide,by decide⟩
   ·rename_i hs;obtain ⟨_,_,_,_,_,k6,k7,k8⟩:=h4 hs;exact ⟨o,_,rfl,k6,k7,k8⟩
  ·rw [ztd hp];constructor
   ·intro h;refine ⟨fun z=>?_,h⟩;rw [z] at h;simp [holds] at h;omega
   ·exact fun h=>h.2
  ·clear hto hm;rcases h1 with ⟨rfl,a,b,c,d⟩ | rfl
   ·exact ⟨o,[],rfl,a⟩
   ·exact ⟨92,[o],rfl,by decide⟩
 | set s fit hs hf =>
  obtain ⟨t,a,h1,h2,h3,h4,⟨d,r,e1,e2⟩,h6,h7⟩:=zuy hs;have hx:∀ u,s.txt++u = 91 :: (s.sign++s.inner u):=fun u=>by simp [SetP.txt,SetP.inner]
  refine ⟨t,a,⟨fun N s' out hN h=>?_,fun N s' cur r hN h=>?_,h4,⟨d,r,e1,by omega,by omega,by omega⟩,h6,h7,⟨91,_,rfl,by decide⟩,h2⟩⟩
  ·show Seg N (s.txt++s') _;rw [hx];exact .set (h3 N s' hN) h
  ·show Spl N (s.txt++s') _ _;have hB:=h3 N s' hN;have e:s.sign++s.inner s' = (s.sign++(s.first.1++(s.mid.flatMap fD++(s.last.1++[93]))))++s':=by simp [SetP.inner]
   rw [hx,e];rw [e] at hB;exact .set hB h
noncomputable def RestOk (w:List Nat):Prop:=w.head? ≠ some 42/\w.head? ≠ some 43/\w.head? ≠ some 63
theorem RestOk.cons {d:Nat} {r:List Nat} (h1:d ≠ 42) (h2:d ≠ 43) (h3:d ≠ 63):RestOk (d :: r):=⟨by simpa using h1,by simpa using h2,by simpa using h3⟩
noncomputable def Pr (out:List Nat) (its:List It2):Prop:=∀ rest l u,RestOk rest->P2 rest l u->P2 (out++rest) (its++l) u/\RestOk (out++rest)
theorem Pr.nil:Pr [] []:=fun rest l u h1 h2=>⟨h2,h1⟩
theorem Pr.app {a b:List Nat} {x y:List It2} (ha:Pr a x) (hb:Pr b y):Pr (a++b) (x++y):=fun rest l u h1 h2=>by
 obtain ⟨p,r⟩:=hb rest l u h1 h2;have:=ha _ _ _ r p
 simpa only [bH] using this
theorem Pr.elem {e:El} {t:List Nat} {a:A} (h:Elem e t a):Pr t [(.a a,false,false)]:=fun rest l u h1 h2=>by
 obtain ⟨d,r,e1,a1,a2,a3⟩:=h.hd;refine ⟨.atom (h.pa rest) (.none h1.1 h1.2.1 h1.2.2) h2,?_⟩;rw [e1];exact .cons a1 a2 a3
noncomputable def A47:A:=.cls true [(47,47)]
noncomputable def starIt:It2:=(.a A47,true,true)
noncomputable def plusIt:It2:=(.a A47,false,true)
theorem Pr.star:Pr [91,94,47,93,42] [starIt]:=fun rest l u h1 h2 =>
 ⟨.atom (r:=42 :: rest) (.cls (zmi _)) (.star h1.2.2) h2,.cons (by decide) (by decide) (by decide)⟩
theorem Pr.plus:Pr [91,94,47,93,43] [plusIt]:=fun rest l u h1 h2 =>
 ⟨.atom (r:=43 :: rest) (.cls (zmi _)) (.plus h1.2.2) h2,.cons (by decide) (by decide) (by decide)⟩
structure Ctx (part B:List Nat):Prop where
 oct:∀ x ∈ part,x < 256/\x ≠ 47
 nxt:B = [] \/ ∃ B',B = 47 :: B'
theorem zjm {A part B:List Nat} {p:Nat} (h:p < part.length):(A++part++B).getD (A.length+p) 0 = part.getD p 0:=by
 rw [bL,bL,bH,eJ (by omega),List.getElem?_append_left (by omega),Nat.add_sub_cancel_left]
theorem zgt {A part B':List Nat}:(A++part++47 :: B').getD (A.length+part.length) 0 = 47:=by
 rw [bL,eJ (by simp)];simp
theorem zjd {part:List Nat} {p:Nat} (h:p < part.length):part.getD p 0 ∈ part:=by
 rw [bL,aZ h]; exact dP h
theorem zqr {e:El} {t:List Nat} {a:A} (h:Elem e t a) {A part B:List Nat} (C:Ctx part B) {p q:Nat} (hp:p <= part.length) :
  TA (A++part++B) a (A.length+p) q ↔ q = A.length+(p+1)/\p < part.length/\holds (part.getD p 0) e.neg e.rs = true:=by
 have hq:∀ {q},TA (A++part++B) a (A.length+p) q->q = A.length+(p+1)/\A.length+p < (A++part++B).length:=by
  intro q h
  cases a with
  | none=>exact h.elim
  | cls n rs=>exact ⟨by have:=h.1; omega,h.2.1⟩
 by_cases hlt:p < part.length
 ·have hin:A.length+p < (A++part++B).length:=by simp; omega
  have hg:=zjm (A:=A) (B:=B) hlt;have ho:=C.oct _ (zjd hlt);have hs:=h.sem (A++part++B) (A.length+p) hin (by rw [hg]; exact ho.1);rw [hg] at hs;constructor
  ·intro hT;exact ⟨(hq hT).1,hlt,(hs.mp ⟨q,hT⟩).2⟩
  ·rintro ⟨rfl,_,hh⟩;obtain ⟨q',hT⟩:=hs.mpr ⟨ho.2,hh⟩;have:=(hq hT).1;rwa [this] at hT
 ·have hpe:p = part.length:=by omega
  clear hp hlt;subst hpe;constructor
  ·intro hT;exfalso;rcases C.nxt with rfl | ⟨B',rfl⟩
   ·have:=(hq hT).2;simp at this
   ·have hs:=h.sem (A++part++47 :: B') (A.length+part.length) (by simp) (by rw [zgt]; decide);rw [zgt] at hs;exact (hs.mp ⟨q,hT⟩).1 rfl
  ·rintro ⟨_,h,_⟩; omega
noncomputable def elQ:El:=⟨[63],false,true,[],[]⟩
theorem zw4:Elem elQ [91,94,47,93] A47 :=
 ⟨fun N s out O h=>.any h,fun N s cur r O h=>.lit 63 (by decide) (by decide) (by decide) h,fun w=>.cls (zmi w),⟨91,_,rfl,by decide,by decide,by decide⟩,by show _ <= _; simp,fun name p hp ho=>by
  rw [A47,ztd hp,znq];simp [holds,elQ],⟨63,[],rfl,by decide⟩,by simp⟩
theorem T47 {A part B:List Nat} (C:Ctx part B) {p q:Nat} (hp:p <= part.length):TA (A++part++B) A47 (A.length+p) q ↔ q = A.length+(p+1)/\p < part.length:=by
 rw [zqr zw4 C hp];have:holds (part.getD p 0) elQ.neg elQ.rs = true:=rfl;simp only [this,and_true]
theorem zkd {A part B:List Nat} (C:Ctx part B) {p q:Nat} (hp:p <= part.length):Plus (TA (A++part++B) A47) (A.length+p) q ↔ ∃ q',And3 (q = A.length+q') (p < q') (q' <= part.length):=by
 constructor
 ·intro h;generalize hs:A.length+p = x at h;induction h generalizing p with
  | one h =>
   subst hs;obtain ⟨h1,h2⟩:=(T47 C hp).mp h;exact ⟨p+1,h1,by omega,by omega⟩
  | more h O ih =>
   subst hs;obtain ⟨h1,h2⟩:=(T47 C hp).mp h;obtain ⟨q',e1,e2,e3⟩:=ih (p:=p+1) (by omega) h1.symm;exact ⟨q',e1,by omega,e3⟩
 ·rintro ⟨q',rfl,h1,h2⟩;obtain ⟨d,hd⟩:∃ d,q' = p+1+d:=⟨q' - (p+1),by omega⟩;subst hd;clear h1;induction d generalizing p with
  | zero=>exact .one ((T47 C hp).mpr ⟨rfl,by omega⟩)
  | succ d ih =>
   refine .more ((T47 C hp).mpr ⟨rfl,by omega⟩) ?_;have:=ih (p:=p+1) (by omega) (by omega);rwa [show p+1+1+d = p+1+(d+1) by omega] at this
theorem zuw {A part B:List Nat} (C:Ctx part B) {p q:Nat} (hp:p <= part.length):Rel true true (TA (A++part++B) A47) (A.length+p) q ↔ ∃ q',And3 (q = A.length+q') (p <= q') (q' <= part.length):=by
 unfold Rel;rw [if_pos rfl,zkd C hp];constructor
 ·rintro (⟨_,rfl⟩ | ⟨q',h1,h2,h3⟩)
  ·exact ⟨p,rfl,by omega,hp⟩
  ·exact ⟨q',h1,by omega,h3⟩
 ·rintro ⟨q',h1,h2,h3⟩
  by_cases h:p = q'
  ·exact .inl ⟨rfl,by rw [h1,h]⟩
  ·exact .inr ⟨q',h1,by omega,h3⟩
theorem zf2:∀ (l1 l2:List Gi) (p q:Nat),RelL (l1++l2) p q ↔ ∃ r,RelL l1 p r/\RelL l2 r q
 | []=>fun l2 p q=>⟨fun h=>⟨p,rfl,h⟩,fun ⟨r,h1,h2⟩=>by cases h1; exact h2⟩
 | g :: l1=>by
  intro l2 p q;simp only [fZ,RL_c];constructor
  ·rintro ⟨m,h1,h2⟩;obtain ⟨r,h3,h4⟩:=(zf2 l1 l2 m q).mp h2;exact ⟨r,⟨m,h1,h3⟩,h4⟩
  ·rintro ⟨r,⟨m,h1,h3⟩,h4⟩;exact ⟨m,h1,(zf2 l1 l2 m q).mpr ⟨r,h3,h4⟩⟩
noncomputable def Sem (c:Comp) (its:List It2):Prop:=∀ (A part B:List Nat),Ctx part B->∀ p,p <= part.length->∀ q,
 RelL (its.map (It2.gi (A++part++B))) (A.length+p) q ↔ ∃ q',And3 (q = A.length+q') (q' <= part.length) (EMs part c p q')
structure Comps (c:Comp) (k:Nat) (s0 out0:List Nat) (its0:List It2):Prop where
 txt:c.flatMap (fun O=>O.txt) = eM k 42++s0
 hd:s0.head? ≠ some 42
 seg:∀ N,100 <= N->Seg N s0 out0
 pr:Pr out0 its0
 ok:∀ t ∈ its0,It2.ok t
 atom:∀ t ∈ its0,∃ a,t.1 = .a a
 sem:Sem c (if k = 0 then its0 else starIt :: its0)
 some:c.all (fun O=>O.many) = false->s0 ≠ []
 len:out0.length <= 8005 * c.length
 spl:∀ N s cur r,100 <= N->Spl N s (cur++c.flatMap (fun O=>O.txt)) r->Spl N (c.flatMap (fun O=>O.txt)++s) cur r
noncomputable def outF (k:Nat) (out0:List Nat):List Nat:=if k = 0 then out0 else [91,94,47,93,42]++out0
noncomputable def itsF (k:Nat) (its0:List It2):List It2:=if k = 0 then its0 else starIt :: its0
theorem segF {N k:Nat} {s0 out0:List Nat} (hd:s0.head? ≠ some 42) (h:Seg N s0 out0):Seg N (eM k 42++s0) (outF k out0):=by
 unfold outF
 cases k with
 | zero=>exact h
 | succ k=>exact .star k hd h
theorem prF {k:Nat} {out0:List Nat} {its0:List It2} (h:Pr out0 its0):Pr (outF k out0) (itsF k its0):=by
 unfold outF itsF
 split
 ·exact h
 ·exact Pr.star.app h
theorem zj8 {N:Nat}:∀ (k:Nat) (s cur:List Nat) (r:Option (List (List Nat))),Spl N s (cur++eM k 42) r->Spl N (eM k 42++s) cur r
 | 0=>by intro s cur r h; simpa using h
 | k+1=>by
  intro s cur r h;rw [List.replicate_succ,fZ];refine .lit 42 (by decide) (by decide) (by decide) (zj8 k s _ r ?_)
  simpa [List.replicate_succ] using h
theorem zjp:∀ (c:Comp),GoodC c->Ex4 fun k s0 out0 its0=>Comps c k s0 out0 its0
 | []=>fun O=>⟨0,[],[],[],⟨rfl,by simp,fun N O=>.nil,.nil,by simp,by simp,fun A part B C p hp q=>by
   simp only [if_true,eG,RL_n,RL_c,EM_n,EM_c];constructor
   ·rintro rfl; exact ⟨p,rfl,hp,rfl⟩
   ·rintro ⟨q',rfl,_,rfl⟩; rfl,by simp,by simp,fun N s cur r O h=>by simpa using h⟩⟩
 | e :: c=>by
  intro hg;obtain ⟨k,s0,out0,its0,h⟩:=zjp c fun x hx=>hg x (by simp [hx]);have he:=hg e (by simp)
  cases hm:e.many
  ·obtain ⟨t,a,E⟩:=zso he hm;obtain ⟨d,r0,e1,e2⟩:=E.txt;refine ⟨0,e.txt++c.flatMap (fun O=>O.txt),t++outF k out0,(.a a,false,false) :: itsF k its0,⟨by simp,by rw [e1]; simpa using e2,fun N hN=>?_,(Pr.elem E).app (prF h.pr),?_,?_,?_,?_,?_,?_⟩⟩
   ·refine E.seg N _ _ hN ?_;rw [h.txt];exact segF h.hd (h.seg N hN)
   ·intro t ht;rcases aO.mp ht with rfl | ht
    ·exact E.ok
    ·unfold itsF at ht
     split at ht
     ·exact h.ok t ht
     ·rcases aO.mp ht with rfl | ht
      ·show _ <= _; simp
      ·exact h.ok t ht
   ·intro t ht;rcases aO.mp ht with rfl | ht
    ·exact ⟨a,rfl⟩
    ·unfold itsF at ht
     split at ht
     ·exact h.atom t ht
     ·rcases aO.mp ht with rfl | ht
      ·exact ⟨_,rfl⟩
      ·exact h.atom t ht
   ·intro A part B C p hp q;simp only [if_true,aS,RL_n,RL_c,EM_n,EM_c,EM,hm,dI,if_false];have hrel:∀ r,Rel false false (TA (A++part++B) a) (A.length+p) r ↔ r = A.length+(p+1)/\p < part.length/\holds (part.getD p 0) e.neg e.rs = true:=fun r=>by
     rw [<- zqr E C hp]; simp [Rel]
    constructor
    ·rintro ⟨r,h1,h2⟩;obtain ⟨rfl,k2,k3⟩:=(hrel r).mp h1;obtain ⟨q',f1,f2,f3⟩:=(h.sem A part B C (p+1) (by omega) q).mp h2;exact ⟨q',f1,f2,p+1,⟨rfl,k2,k3⟩,f3⟩
    ·rintro ⟨q',f1,f2,r,⟨rfl,k2,k3⟩,f3⟩;exact ⟨A.length+(p+1),(hrel _).mpr ⟨rfl,k2,k3⟩,(h.sem A part B C (p+1) (by omega) q).mpr ⟨q',f1,f2,f3⟩⟩
   ·intro _; rw [e1]; simp
   ·have:=h.len;have:=E.len;unfold outF
    split <;> simp <;> omega
   ·intro N s cur r hN hs;rw [cR,bH];refine E.spl N _ _ _ hN (h.spl N _ _ _ hN ?_)
    simpa using hs
  ·have hst:∃ j,e.txt = eM (j+1) 42:=by
    clear hg
    cases he with
    | any=>cases hm
    | star t ht=>rcases ht with rfl | rfl; exact ⟨0,rfl⟩; exact ⟨1,rfl⟩
    | lit=>cases hm
    | set=>cases hm
   obtain ⟨j,hj⟩:=hst;refine ⟨j+1+k,s0,out0,its0,⟨?_,h.hd,h.seg,h.pr,h.ok,h.atom,?_,?_,?_,?_⟩⟩
   ·rw [cR,hj,h.txt,<- bH,List.replicate_append_replicate]
   ·intro A part B C p hp q;rw [if_neg (by omega)];simp only [aS,RL_n,RL_c,EM_n,EM_c,EM,hm,if_true];have hsem:=h.sem A part B C;have hstar:∀ p',p' <= part.length->∀ r,Rel true true (TA (A++part++B) A47) (A.length+p') r ↔ ∃ q',And3 (r = A.length+q') (p' <= q') (q' <= part.length):=fun p' hp' r=>zuw C hp';constructor
    ·rintro ⟨r,h1,h2⟩;obtain ⟨r',rfl,a1,a2⟩:=(hstar p hp r).mp h1
     by_cases hk:k = 0
     ·rw [if_pos hk] at hsem;obtain ⟨q',f1,f2,f3⟩:=(hsem r' a2 q).mp h2;exact ⟨q',f1,f2,r',⟨a1,a2⟩,f3⟩
     ·rw [if_neg hk] at hsem;have h3:RelL ((starIt :: its0).map (It2.gi (A++part++B))) (A.length+r') q:=⟨A.length+r',(hstar r' a2 _).mpr ⟨r',rfl,by omega,a2⟩,h2⟩;obtain ⟨q',f1,f2,f3⟩:=(hsem r' a2 q).mp h3;exact ⟨q',f1,f2,r',⟨a1,a2⟩,f3⟩
    ·rintro ⟨q',f1,f2,r',⟨a1,a2⟩,f3⟩
     by_cases hk:k = 0
     ·rw [if_pos hk] at hsem;exact ⟨A.length+r',(hstar p hp _).mpr ⟨r',rfl,a1,a2⟩,(hsem r' a2 q).mpr ⟨q',f1,f2,f3⟩⟩
     ·rw [if_neg hk] at hsem;obtain ⟨m,h1,h2⟩:=(hsem r' a2 q).mpr ⟨q',f1,f2,f3⟩;obtain ⟨m',rfl,b1,b2⟩:=(hstar r' a2 m).mp h1;exact ⟨A.length+m',(hstar p hp _).mpr ⟨m',rfl,by omega,b2⟩,h2⟩
   ·intro ha;refine h.some ?_
    simpa [hm] using ha
   ·have:=h.len; simp; omega
   ·intro N s cur r hN hs;rw [cR,bH,hj];refine zj8 (j+1) _ _ _ (h.spl N _ _ _ hN ?_);rw [cR,hj] at hs
    simpa using hs

structure CS (c:Comp) (out:List Nat) (its:List It2):Prop where
 segT:∀ N,100 <= N->SegT N (textOf c) out
 pr:Pr out its
 ok:∀ t ∈ its,It2.ok t
 atom:∀ t ∈ its,∃ a,t.1 = .a a
 sem1:∀ (A part B:List Nat),Ctx part B->part ≠ []->(RelL (its.map (It2.gi (A++part++B))) A.length (A.length+part.length) ↔ EMs part c 0 part.length)
 sem2:∀ (A part B:List Nat),Ctx part B->∀ r,RelL (its.map (It2.gi (A++part++B))) A.length r->A.length <= r/\r <= A.length+part.length
 len:out.length <= 8005 * (c.length+1)
 spl:∀ N s cur r,100 <= N->Spl N s (cur++textOf c) r->Spl N (textOf c++s) cur r
 ne2:textOf c ≠ [42,42]
 ne:textOf c ≠ []
theorem zjq {part:List Nat}:∀ (c:Comp) (p:Nat),c ≠ []->c.all (fun O=>O.many) = true->p <= part.length->EMs part c p part.length
 | []=>fun O h O O=>absurd rfl h
 | [e]=>by
  intro p _ h hp;have hm:e.many = true:=by simpa using h
  exact ⟨part.length,by simp only [EM,hm,if_true]; omega,rfl⟩
 | e :: e' :: c=>by
  intro p _ h hp;have hm:e.many = true/\(e' :: c).all (fun O=>O.many) = true:=by simpa using h
  exact ⟨p,by simp only [EM,hm.1,if_true]; omega,zjq (e' :: c) p (by simp) hm.2 hp⟩
theorem zp2 {c:Comp} (hg:GoodC c) (hc:c ≠ []):Ex2 fun out its=>CS c out its:=by
 obtain ⟨k,s0,out0,its0,h⟩:=zjp c hg
 cases ha:c.all (fun O=>O.many)
 ·have hs:=h.some ha;have ht:textOf c = eM k 42++s0:=by unfold textOf; rw [if_neg hc,if_neg (by rw [ha]; decide),h.txt]
  obtain ⟨d,s1,rfl⟩:Ex2 fun d s1=>s0 = d :: s1:=by cases s0; exact absurd rfl hs; exact ⟨_,_,rfl⟩
  have hd:d ≠ 42:=by simpa using h.hd
  have hmem:d ∈ textOf c:=by rw [ht]; simp
  have hall:∀ l:List Nat,(∀ x ∈ l,x = 42)->textOf c ≠ l:=fun l hl e=>by
   rw [e] at hmem; exact hd (hl d hmem)
  have h42:textOf c ≠ [42]:=hall _ (by simp);have hitem:∀ t ∈ itsF k its0,It2.ok t/\∃ a,t.1 = .a a:=fun t ht=>by
   unfold itsF at ht
   split at ht
   ·exact ⟨h.ok t ht,h.atom t ht⟩
   ·rcases aO.mp ht with rfl | ht
    ·exact ⟨by show _ <= _; simp,_,rfl⟩
    ·exact ⟨h.ok t ht,h.atom t ht⟩
  refine ⟨outF k out0,itsF k its0,⟨fun N hN=>?_,prF h.pr,fun t ht=>(hitem t ht).1,fun t ht=>(hitem t ht).2,fun A part B C hp=>?_,fun A part B C r hr=>?_,?_,fun N s cur r hN hs=>?_,hall _ (by simp),hall _ (by simp)⟩⟩
  ·unfold SegT;rw [if_neg h42,ht];exact segF h.hd (h.seg N hN)
  ·have:=h.sem A part B C 0 (by omega) (A.length+part.length);rw [Nat.add_zero] at this;unfold itsF;rw [this];constructor
   ·rintro ⟨q',e1,e2,e3⟩;obtain rfl:q' = part.length:=by omega
    exact e3
   ·exact fun h=>⟨_,rfl,by omega,h⟩
  ·have:=h.sem A part B C 0 (by omega) r;rw [Nat.add_zero] at this;obtain ⟨q',e1,e2,e3⟩:=this.mp hr;omega
  ·have:=h.len;unfold outF
   split
   ·omega
   ·simp; omega
  ·have e:textOf c = c.flatMap (fun O=>O.txt):=by rw [ht,h.txt]
   rw [e] at hs |-;exact h.spl N s cur r hN hs
 ·have ht:textOf c = [42]:=by unfold textOf; rw [if_neg hc,if_pos ha]
  refine ⟨[91,94,47,93,43],[plusIt],⟨fun N hN=>?_,Pr.plus,?_,?_,fun A part B C hp=>?_,fun A part B C r hr=>?_,by simp; omega,fun N s cur r hN hs=>?_,by rw [ht]; decide,by rw [ht]; decide⟩⟩
  ·unfold SegT; rw [if_pos ht]
  ·intro t h; obtain rfl:t = plusIt:=by simpa using h
   show _ <= _; simp
  ·intro t h; obtain rfl:t = plusIt:=by simpa using h
   exact ⟨_,rfl⟩
  ·have hpos:0 < part.length:=by cases part; exact absurd rfl hp; simp
   refine ⟨fun O=>zjq c 0 hc ha (by omega),fun O=>⟨_,.inr ?_,rfl⟩⟩;show Plus (TA (A++part++B) A47) A.length (A.length+part.length);have:=(zkd (A:=A) C (p:=0) (q:=A.length+part.length) (by omega)).mpr ⟨_,rfl,hpos,by omega⟩
   simpa using this
  ·obtain ⟨m,h1,h2⟩:=hr
   cases (h2)
   rcases h1 with ⟨h1,_⟩ | h1
   ·cases (h1)
   ·have h1':Plus (TA (A++part++B) A47) A.length r:=h1;have:=(zkd (A:=A) C (p:=0) (q:=r) (by omega)).mp (by simpa using h1');obtain ⟨q',e1,e2,e3⟩:=this;omega
  ·rw [ht] at hs |-;exact zj8 1 s cur r hs
noncomputable def stp (parts:List (List Nat)) (i:Nat):Nat:=((parts.take i).map fun p=>p.length+1).sum
theorem zcz {parts:List (List Nat)} {i:Nat} (h:i < parts.length):stp parts (i+1) = stp parts i+(parts.getD i []).length+1:=by
 unfold stp;rw [List.take_add_one,aZ h,bL,aZ h];simp only [cX,List.sum_append,Option.toList,aS,eG,fL,List.sum_nil,Option.getD_some];omega
theorem zr8 {parts:List (List Nat)}:stp parts 0 = 0:=rfl
theorem zni {parts:List (List Nat)} {i j:Nat} (h:i < j) (hj:j <= parts.length):stp parts i < stp parts j:=by
 obtain ⟨d,rfl⟩:∃ d,j = i+1+d:=⟨j - (i+1),by omega⟩;clear h;induction d with
 | zero=>have:=zcz (parts:=parts) (i:=i) (by omega); simp only [Nat.add_zero]; omega
 | succ d ih =>
  have h1:=ih (by omega);have:=zcz (parts:=parts) (i:=i+1+d) (by omega);rw [show i+1+(d+1) = i+1+d+1 by omega];omega
theorem zqe {parts:List (List Nat)} {i j:Nat} (hi:i <= parts.length) (hj:j <= parts.length) (h:stp parts i = stp parts j):i = j:=by
 rcases Nat.lt_trichotomy i j with h1 | h1 | h1
 ·have:=zni h1 hj; omega
 ·exact h1
 ·have:=zni h1 hi; omega
theorem zst {p:List Nat} {r:List (List Nat)} {i:Nat}:stp (p :: r) (i+1) = p.length+1+stp r i:=by
 unfold stp; simp
theorem zh9:∀ (r:List (List Nat)),r ≠ []->(r.flatMap fun q=>[47]++q) = 47 :: joinL [47] r
 | []=>fun h=>absurd rfl h
 | q :: r=>by intro _; simp [joinL]
theorem zdm:∀ (parts:List (List Nat)) (i:Nat),i < parts.length->Ex2 fun A B=>And3 (joinL [47] parts = A++parts.getD i []++B) (A.length = stp parts i) (((B = []/\i+1 = parts.length) \/ ((∃ B',B = 47 :: B')/\i+1 < parts.length)))
 | [],O=>by intro h; simp at h
 | p :: r,0=>by
  intro _;refine ⟨[],r.flatMap fun q=>[47]++q,by simp [joinL],rfl,?_⟩
  cases r with
  | nil=>exact .inl ⟨rfl,rfl⟩
  | cons q r=>exact .inr ⟨⟨_,zh9 (q :: r) (by simp)⟩,by simp⟩
 | p :: r,i+1=>by
  intro h;have hr:r ≠ []:=by intro z; subst z; simp at h
  obtain ⟨A,B,e,hA,hB⟩:=zdm r i (by simpa using h);refine ⟨p++47 :: A,B,?_,?_,?_⟩
  ·have:joinL [47] (p :: r) = p++r.flatMap fun q=>[47]++q:=rfl;rw [this,zh9 r hr,e];simp
  ·rw [zst,<- hA]; simp only [aK,aI]; omega
  ·rcases hB with ⟨h1,h2⟩ | ⟨h1,h2⟩
   ·exact .inl ⟨h1,by simp; omega⟩
   ·exact .inr ⟨h1,by simp; omega⟩
theorem zt3 {parts:List (List Nat)} (h:parts ≠ []):stp parts parts.length = (joinL [47] parts).length+1:=by
 have h1:0 < parts.length:=by cases parts; exact absurd rfl h; simp
 obtain ⟨A,B,e,hA,hB⟩:=zdm parts (parts.length - 1) (by omega);have h2:=zcz (parts:=parts) (i:=parts.length - 1) (by omega);rw [show parts.length - 1+1 = parts.length by omega] at h2;rcases hB with ⟨rfl,_⟩ | ⟨_,h3⟩
 ·rw [e,h2,<- hA]; simp
 ·omega
structure Geo (parts:List (List Nat)) (name:List Nat):Prop where
 ok:NameOk parts
 eq:name = joinL [47] parts
theorem Geo.ctx {parts:List (List Nat)} {name:List Nat} (g:Geo parts name) {i:Nat} (h:i < parts.length):Ex2 fun A B=>And5 (name = A++parts.getD i []++B) (A.length = stp parts i) (Ctx (parts.getD i []) B) (parts.getD i [] ≠ []) (((B = []/\i+1 = parts.length) \/ ((∃ B',B = 47 :: B')/\i+1 < parts.length))):=by
 obtain ⟨A,B,e,hA,hB⟩:=zdm parts i h;have hm:parts.getD i [] ∈ parts:=by rw [bL,aZ h]; exact dP h
 obtain ⟨h1,_,h3⟩:=g.ok.good _ hm;refine ⟨A,B,by rw [g.eq,e],hA,⟨h3,?_⟩,h1,hB⟩;rcases hB with ⟨h,_⟩ | ⟨h,_⟩
 ·exact .inl h
 ·exact .inr h
theorem Geo.len {parts:List (List Nat)} {name:List Nat} (g:Geo parts name):stp parts parts.length = name.length+1:=by rw [g.eq,zt3 g.ok.ne]
noncomputable def isSl (name:List Nat) (p:Nat):Prop:=p < name.length/\name.getD p 0 = 47
theorem Geo.slash {parts:List (List Nat)} {name:List Nat} (g:Geo parts name) {j:Nat} (h1:1 <= j) (h2:j < parts.length) {p:Nat} (hp:p+1 = stp parts j):isSl name p:=by
 obtain ⟨A,B,e,hA,C,_,hB⟩:=g.ctx (i:=j - 1) (by omega);have h3:=zcz (parts:=parts) (i:=j - 1) (by omega);rw [show j - 1+1 = j by omega] at h3;have hp':p = A.length+(parts.getD (j - 1) []).length:=by omega
 clear C;rcases hB with ⟨_,h4⟩ | ⟨⟨B',rfl⟩,_⟩
 ·omega
 ·refine ⟨?_,?_⟩
  ·rw [e,hp']; simp
  ·rw [e,hp',zgt]
theorem Geo.in_part {parts:List (List Nat)} {name:List Nat} (g:Geo parts name) {i p:Nat} (h:i < parts.length) (h1:stp parts i <= p) (h2:p < stp parts i+(parts.getD i []).length):¬ isSl name p:=by
 obtain ⟨A,B,e,hA,C,_,_⟩:=g.ctx h;obtain ⟨d,rfl⟩:∃ d,p = A.length+d:=⟨p - A.length,by omega⟩;rintro ⟨_,h3⟩;rw [e,zjm (by omega)] at h3;exact (C.oct _ (zjd (by omega))).2 h3
theorem Geo.where' {parts:List (List Nat)} {name:List Nat} (g:Geo parts name):∀ (n:Nat),n <= parts.length->∀ p,p < stp parts n->∃ i,And3 (i < n) (stp parts i <= p) (p < stp parts (i+1))
 | 0=>by intro _ p h; rw [zr8] at h; omega
 | n+1=>by
  intro hn p h
  by_cases hp:stp parts n <= p
  ·exact ⟨n,by omega,hp,h⟩
  ·obtain ⟨i,h1,h2,h3⟩:=g.where' n (by omega) p (by omega);exact ⟨i,by omega,h2,h3⟩
theorem Geo.slash_iff {parts:List (List Nat)} {name:List Nat} (g:Geo parts name) {p:Nat}:isSl name p ↔ ∃ j,And3 (1 <= j) (j < parts.length) (p+1 = stp parts j):=by
 constructor
 ·intro h;have hl:=g.len;obtain ⟨i,h1,h2,h3⟩:=g.where' parts.length (by omega) p (by have:=h.1; omega);have h4:=zcz (parts:=parts) (i:=i) h1
  by_cases hp:p < stp parts i+(parts.getD i []).length
  ·exact absurd h (g.in_part h1 h2 hp)
  ·refine ⟨i+1,by omega,?_,by omega⟩;have:=h.1
   by_cases hi:i+1 = parts.length
   ·rw [hi] at h4; omega
   ·omega
 ·rintro ⟨j,h1,h2,h3⟩;exact g.slash h1 h2 h3

noncomputable def Asl:A:=.cls false [(47,47)]
noncomputable def Adot:A:=.cls true []
noncomputable def slashIt:It2:=(.a Asl,false,false)
noncomputable def dotIt:It2:=(.a Adot,true,true)
noncomputable def optG:List It1:=[(Adot,true,true),(Asl,false,false)]
noncomputable def manyG:List It1:=[(A47,false,true),(Asl,false,false)]
noncomputable def optIt:It2:=(.grp optG,true,false)
noncomputable def manyIt:It2:=(.grp manyG,true,true)
theorem zf4 (w:List Nat):PA (47 :: w) Asl w:=.lit (by decide) (by decide) (by decide) (by decide) (.lit 47 (by decide))
theorem Pr.slash:Pr [47] [slashIt]:=fun rest l u h1 h2=>⟨.atom (zf4 rest) (.none h1.1 h1.2.1 h1.2.2) h2,.cons (by decide) (by decide) (by decide)⟩
theorem Pr.dot:Pr [46,42] [dotIt]:=fun rest l u h1 h2=>⟨.atom (r:=42 :: rest) .dot (.star h1.2.2) h2,.cons (by decide) (by decide) (by decide)⟩
theorem zn5 {c:Nat} {w:List Nat} (h1:c ≠ 42) (h2:c ≠ 43) (h3:c ≠ 63):Fo (c :: w) false false (c :: w):=.none (by simpa using h1) (by simpa using h2) (by simpa using h3)
theorem Pr.opt:Pr [40,63,58,46,42,47,41,63,63] [optIt]:=fun rest l u h1 h2=>by
 refine ⟨.grp (s:=46 :: 42 :: 47 :: 41 :: 63 :: 63 :: rest) (r:=63 :: 63 :: rest) (by simp) ?_ .opt h2,.cons (by decide) (by decide) (by decide)⟩;exact .cons (r:=42 :: 47 :: 41 :: 63 :: 63 :: rest) .dot (.star (by simp)) (.cons (zf4 _) (zn5 (by decide) (by decide) (by decide)) (.nil (.inr rfl)))
theorem Pr.many:Pr [40,63,58,91,94,47,93,43,47,41,42] [manyIt]:=fun rest l u h1 h2=>by
 refine ⟨.grp (s:=91 :: 94 :: 47 :: 93 :: 43 :: 47 :: 41 :: 42 :: rest) (r:=42 :: rest) (by simp) ?_ (.star h1.2.2) h2,.cons (by decide) (by decide) (by decide)⟩;exact .cons (r:=43 :: 47 :: 41 :: 42 :: rest) (.cls (zmi _)) (.plus (by simp)) (.cons (zf4 _) (zn5 (by decide) (by decide) (by decide)) (.nil (.inr rfl)))
theorem TA_sl {name:List Nat} {p q:Nat}:TA name Asl p q ↔ q = p+1/\isSl name p:=by
 have:holds (name.getD p 0) false [(47,47)] = decide (name.getD p 0 = 47):=by
  have:(decide ((47:Int) <= (name.getD p 0:Nat)) && decide (((name.getD p 0:Nat):Int) <= 47)) = decide (name.getD p 0 = 47):=by
   by_cases h:name.getD p 0 = 47
   ·rw [h]; rfl
   ·simp only [h,decide_false,Bool.and_eq_false_iff,decide_eq_false_iff_not]; omega
  simp only [holds,List.any_cons,List.any_nil,this,Bool.or_false]
  cases decide (name.getD p 0 = 47) <;> rfl
 simp only [TA,Asl,isSl,this,decide_eq_true_eq]
theorem TA_dot {name:List Nat} {p q:Nat}:TA name Adot p q ↔ q = p+1/\p < name.length:=by
 have:holds (name.getD p 0) true [] = true:=rfl;simp only [TA,Adot,this,and_true]
theorem zgs {name:List Nat} {p q:Nat} (hp:p <= name.length):Rel true true (TA name Adot) p q ↔ p <= q/\q <= name.length:=by
 unfold Rel;rw [if_pos rfl];constructor
 ·rintro (⟨_,rfl⟩ | h)
  ·exact ⟨by omega,hp⟩
  ·induction h with
   | one h=>have:=TA_dot.mp h; omega
   | more h O ih=>have h1:=TA_dot.mp h; have:=ih (by omega); omega
 ·rintro ⟨h1,h2⟩
  by_cases h:p = q
  ·exact .inl ⟨rfl,h⟩
  ·refine .inr ?_;obtain ⟨d,rfl⟩:∃ d,q = p+1+d:=⟨q - (p+1),by omega⟩;clear h h1 hp;induction d generalizing p with
   | zero=>exact .one (TA_dot.mpr ⟨rfl,by omega⟩)
   | succ d ih =>
    refine .more (TA_dot.mpr ⟨rfl,by omega⟩) ?_;have:=ih (p:=p+1) (by omega);rwa [show p+1+1+d = p+1+(d+1) by omega] at this
theorem zuu {name:List Nat} {p q:Nat} (hp:p <= name.length):TB name (.grp optG) p q ↔ ∃ m,And3 (p <= m) (isSl name m) (q = m+1):=by
 show (∃ r,Rel true true (TA name Adot) p r/\∃ s,Rel false false (TA name Asl) r s/\s = q) ↔ _;constructor
 ·rintro ⟨r,h1,s,h2,rfl⟩;have h1:=(zgs hp).mp h1;rcases h2 with ⟨h2,_⟩ | h2
  ·cases h2
  ·obtain ⟨h3,h4⟩:=TA_sl.mp h2;exact ⟨r,h1.1,h4,h3⟩
 ·rintro ⟨m,h1,h2,rfl⟩;exact ⟨m,(zgs hp).mpr ⟨h1,by have:=h2.1; omega⟩,m+1,.inr (TA_sl.mpr ⟨rfl,h2⟩),rfl⟩
theorem zf0 {parts:List (List Nat)} {name:List Nat} (g:Geo parts name) {j q:Nat} (hj:j < parts.length):TB name (.grp manyG) (stp parts j) q ↔ j+1 < parts.length/\q = stp parts (j+1):=by
 obtain ⟨A,B,e,hA,C,hne,hB⟩:=g.ctx hj;have hpos:0 < (parts.getD j []).length:=by cases h:parts.getD j []; exact absurd h hne; simp
 have hs:=zcz hj;show (∃ r,Rel false true (TA name A47) (stp parts j) r/\∃ s,Rel false false (TA name Asl) r s/\s = q) ↔ _;have hp:∀ r,Rel false true (TA name A47) (stp parts j) r ↔ ∃ q',And3 (r = stp parts j+q') (0 < q') (q' <= (parts.getD j []).length):=by
  intro r;have:=zkd (A:=A) C (p:=0) (q:=r) (by omega);rw [Nat.add_zero,<- e,hA] at this;rw [<- this];simp [Rel]
 constructor
 ·rintro ⟨r,h1,s,h2,rfl⟩;obtain ⟨q',rfl,h3,h4⟩:=(hp r).mp h1;rcases h2 with ⟨h2,_⟩ | h2
  ·cases h2
  ·obtain ⟨h5,h6⟩:=TA_sl.mp h2;have:q' = (parts.getD j []).length:=by
    by_cases hlt:q' < (parts.getD j []).length
    ·exact absurd h6 (g.in_part hj (by omega) (by omega))
    ·omega
   refine ⟨?_,by omega⟩
   by_cases hl:j+1 = parts.length
   ·have h7:=g.len;rw [<- hl] at h7;have:=h6.1;omega
   ·omega
 ·rintro ⟨h1,rfl⟩;refine ⟨stp parts j+(parts.getD j []).length,(hp _).mpr ⟨_,rfl,hpos,by omega⟩,_,.inr (TA_sl.mpr ⟨by omega,g.slash (j:=j+1) (by omega) h1 (by omega)⟩),rfl⟩
theorem zpk {parts:List (List Nat)} {name:List Nat} (g:Geo parts name) {i q:Nat} (hi:i < parts.length):Rel true true (TB name (.grp manyG)) (stp parts i) q ↔ ∃ j,And3 (i <= j) (j < parts.length) (q = stp parts j):=by
 unfold Rel;rw [if_pos rfl];constructor
 ·rintro (⟨_,rfl⟩ | h)
  ·exact ⟨i,by omega,hi,rfl⟩
  ·generalize hs:stp parts i = p at h;induction h generalizing i with
   | one h =>
    subst hs;obtain ⟨h1,h2⟩:=(zf0 g hi).mp h;exact ⟨i+1,by omega,h1,h2⟩
   | more h O ih =>
    subst hs;obtain ⟨h1,h2⟩:=(zf0 g hi).mp h;obtain ⟨j,h3,h4,h5⟩:=ih h1 h2.symm;exact ⟨j,by omega,h4,h5⟩
 ·rintro ⟨j,h1,h2,rfl⟩
  by_cases h:i = j
  ·exact .inl ⟨rfl,by rw [h]⟩
  ·refine .inr ?_;obtain ⟨d,rfl⟩:∃ d,j = i+1+d:=⟨j - (i+1),by omega⟩;clear h h1;induction d generalizing i with
   | zero=>exact .one ((zf0 g hi).mpr ⟨by omega,rfl⟩)
   | succ d ih =>
    refine .more ((zf0 g hi).mpr ⟨by omega,rfl⟩) ?_;have:=ih (i:=i+1) (by omega) (by omega);rwa [show i+1+1+d = i+1+(d+1) by omega] at this
noncomputable def Col:Bool->List Comp->Prop
 | O,[]=>True
 | b,c :: r=>(b = true->c ≠ [])/\Col (decide (c = [])) r
structure TS (f b:Bool) (cs:List Comp) (out:List Nat) (its:List It2):Prop where
 tr:∀ N,100 <= N->Tr N f b (cs.map textOf) out
 pr:Pr out its
 ok:∀ t ∈ its,It2.ok t
 inc:∀ name,∀ t ∈ its,t.2.2 = true->∀ p q,TB name t.1 p q->p < q
 len:out.length <= 8100 * ((cs.map cS).sum+2 * cs.length)
 start:f = false->b = false->∀ name m,RelL (its.map (It2.gi name)) m name.length->m = name.length \/ isSl name m
 sem:∀ parts name,Geo parts name->∀ i p,(if f || b then i < parts.length/\p = stp parts i else 1 <= i/\i <= parts.length/\p+1 = stp parts i)->(f = true->i = 0) ->
  (RelL (its.map (It2.gi name)) p name.length ↔ FMs parts cs i parts.length)
noncomputable def sepIt (f b:Bool):List It2:=if f || b then [] else [slashIt]
noncomputable def sepT (f b:Bool):List Nat:=if f || b then [] else [47]
theorem Pr.sep (f b:Bool):Pr (sepT f b) (sepIt f b):=by
 unfold sepT sepIt
 split
 ·exact .nil
 ·exact .slash
set_option tactic.hygienic true in
theorem zia {f b:Bool} {parts:List (List Nat)} {name:List Nat} (g:Geo parts name) {its:List It2} {i p:Nat} (hp:if f || b then i < parts.length/\p = stp parts i else 1 <= i/\i <= parts.length/\p+1 = stp parts i) {q:Nat} :
  RelL ((sepIt f b++its).map (It2.gi name)) p q ↔ i < parts.length/\RelL (its.map (It2.gi name)) (stp parts i) q:=by
 unfold sepIt
 split
 ·rename_i h;rw [if_pos h] at hp;obtain ⟨h1,rfl⟩:=hp;simp [h1]
 ·rename_i h;rw [if_neg h] at hp;obtain ⟨h1,h2,h3⟩:=hp;show (∃ r,Rel false false (TA name Asl) p r/\RelL (its.map (It2.gi name)) r q) ↔ _;constructor
  ·rintro ⟨r,h4,h5⟩;rcases h4 with ⟨h4,_⟩ | h4
   ·cases h4
   ·obtain ⟨rfl,h6⟩:=TA_sl.mp h4;obtain ⟨j,j1,j2,j3⟩:=g.slash_iff.mp h6;have:i = j:=zqe h2 (by omega) (by omega);clear j3 j1;subst this;rw [h3] at h5;exact ⟨j2,h5⟩
  ·rintro ⟨h4,h5⟩;exact ⟨p+1,.inr (TA_sl.mpr ⟨rfl,g.slash h1 h4 h3⟩),by rw [h3]; exact h5⟩
theorem ze1 {f b:Bool} (hf:f = false) (hb:b = false) {its:List It2} {name:List Nat} {m:Nat} (h:RelL ((sepIt f b++its).map (It2.gi name)) m name.length):isSl name m:=by
 subst hf hb;obtain ⟨r,h4,h5⟩:=(show (∃ r,Rel false false (TA name Asl) m r/\RelL (its.map (It2.gi name)) r name.length) from h);rcases h4 with ⟨h4,_⟩ | h4
 ·cases h4
 ·exact (TA_sl.mp h4).2

theorem It2.inc_atom {its:List It2} (h:∀ t ∈ its,∃ a,t.1 = .a a):∀ name,∀ t ∈ its,t.2.2 = true->∀ p q,TB name t.1 p q->p < q:=by
 intro name t ht _ p q hT;obtain ⟨a,ha⟩:=h t ht;rw [ha] at hT;exact zm1 hT
theorem ztm {T:Nat->Nat->Prop} (hT:∀ p q,T p q->p < q) {p q:Nat} (h:Plus T p q):p < q:=by
 induction h with
 | one h=>exact hT _ _ h
 | more h O ih=>have:=hT _ _ h; omega
theorem zpi {name:List Nat} {p q:Nat} (h:TB name (.grp manyG) p q):p < q:=by
 obtain ⟨r,h1,s,h2,rfl⟩:=(show (∃ r,Rel false true (TA name A47) p r/\∃ s,Rel false false (TA name Asl) r s/\s = q) from h);have a:p < r:=by
  rcases h1 with ⟨h1,_⟩ | h1
  ·cases h1
  ·exact ztm (fun O O h=>zm1 h) h1
 rcases h2 with ⟨h2,_⟩ | h2
 ·cases h2
 ·have:=zm1 (show TA name Asl r s from h2); omega
theorem zdj:It2.ok slashIt:=by show _ <= _; simp
theorem zdo {f b:Bool} {t:It2} (h:t ∈ sepIt f b):t = slashIt:=by
 unfold sepIt at h
 split at h
 ·cases h
 ·simpa using h
theorem core {c:Comp} {out:List Nat} {itc:List It2} (S:CS c out itc) {r:List Comp} {outr:List Nat} {itr:List It2} (R:TS false false r outr itr) {parts:List (List Nat)} {name:List Nat} (g:Geo parts name) {i:Nat} (hi:i < parts.length) :
  RelL ((itc++itr).map (It2.gi name)) (stp parts i) name.length ↔ EMs (parts.getD i []) c 0 (parts.getD i []).length/\FMs parts r (i+1) parts.length:=by
 obtain ⟨A,B,e,hA,C,hne,hB⟩:=g.ctx hi;have hs:=zcz hi;have s1:=S.sem1 A _ B C hne;have s2:=S.sem2 A _ B C;rw [<- e,hA] at s1 s2;have hr:=R.sem parts name g (i+1) (stp parts i+(parts.getD i []).length) (by rw [if_neg (by simp)]; omega) (by intro h; cases h);have hend:stp parts i+(parts.getD i []).length <= name.length:=by rw [e,<- hA]; simp
 rw [cX,zf2,<- s1,<- hr];constructor
 ·rintro ⟨m,h1,h2⟩;have h3:=s2 m h1;have:m = stp parts i+(parts.getD i []).length:=by
   rcases R.start rfl rfl name m h2 with h4 | h4
   ·omega
   ·by_cases hlt:m < stp parts i+(parts.getD i []).length
    ·exact absurd h4 (g.in_part hi h3.1 hlt)
    ·omega
  clear h3;subst this;exact ⟨h1,h2⟩
 ·rintro ⟨h1,h2⟩;exact ⟨_,h1,h2⟩
theorem zd9 {parts:List (List Nat)} {c:Comp} {r:List Comp} {i:Nat} (hc:c ≠ []):FMs parts (c :: r) i parts.length ↔ i < parts.length/\EMs (parts.getD i []) c 0 (parts.getD i []).length/\FMs parts r (i+1) parts.length:=by
 simp only [FM_c,FM,if_pos hc];constructor
 ·rintro ⟨m,⟨rfl,h1,h2⟩,h3⟩; exact ⟨h1,h2,h3⟩
 ·rintro ⟨h1,h2,h3⟩; exact ⟨_,⟨rfl,h1,h2⟩,h3⟩
theorem zcj {parts:List (List Nat)} {c:Comp} {r:List Comp} {i:Nat}:FMs parts ([] :: c :: r) i parts.length ↔ ∃ m,And3 (i <= m) (m <= parts.length) (FMs parts (c :: r) m parts.length):=by
 rw [FM_c];simp only [FM,ne_eq,not_true_eq_false,if_false,List.isEmpty_cons,dI];constructor
 ·rintro ⟨m,⟨h1,h2⟩,h3⟩; exact ⟨m,h1,h2,h3⟩
 ·rintro ⟨m,h1,h2,h3⟩; exact ⟨m,⟨h1,h2⟩,h3⟩
theorem zgk {parts:List (List Nat)} {i:Nat}:FMs parts [[]] i parts.length ↔ i < parts.length:=by
 simp only [FM_c,FM_n,FM,ne_eq,not_true_eq_false,if_false,List.isEmpty_nil,if_true];constructor
 ·rintro ⟨m,⟨h1,_⟩,_⟩; exact h1
 ·intro h; exact ⟨_,⟨h,rfl⟩,rfl⟩
theorem TS.nil:TS false false [] [] [] :=
 ⟨fun N O=>.nil,.nil,by simp,by simp,by simp,fun O O name m h=>.inl h,fun parts name g i p hp O=>by
  rw [if_neg (by simp)] at hp;obtain ⟨h1,h2,h3⟩:=hp;have hl:=g.len;simp only [eG,RL_n,FM_n];constructor
  ·intro h; exact zqe h2 (by omega) (by omega)
  ·intro h; subst h; omega⟩
theorem TS.cons {f b:Bool} {c:Comp} {out:List Nat} {itc:List It2} (hc:c ≠ []) (S:CS c out itc) {r:List Comp} {outr:List Nat} {itr:List It2} (R:TS false false r outr itr) :
  TS f b (c :: r) (sepT f b++(out++outr)) (sepIt f b++(itc++itr)):=by
 refine ⟨fun N hN=>?_,(Pr.sep f b).app (S.pr.app R.pr),fun t ht=>?_,fun name t ht=>?_,?_,fun hf hb name m h=>.inr (ze1 hf hb h),fun parts name g i p hp hf0=>?_⟩
 ·exact .seg S.ne2 (S.segT N hN) (R.tr N hN)
 ·simp only [aU] at ht;rcases ht with ht | ht | ht
  ·rw [zdo ht]; exact zdj
  ·exact S.ok t ht
  ·exact R.ok t ht
 ·simp only [aU] at ht;rcases ht with ht | ht | ht
  ·rw [zdo ht]; intro h; cases h
  ·exact It2.inc_atom S.atom name t ht
  ·exact R.inc name t ht
 ·have h1:=S.len;have h2:=R.len;have h3:(sepT f b).length <= 1:=by unfold sepT; split <;> simp
  simp only [aS,fL,aI,aK];omega
 ·rw [zia g hp,zd9 hc];constructor
  ·rintro ⟨h1,h2⟩; exact ⟨h1,(core S R g h1).mp h2⟩
  ·rintro ⟨h1,h2⟩; exact ⟨h1,(core S R g h1).mpr h2⟩
theorem TS.last {f b:Bool}:TS f b [[]] (sepT f b++[46,42]) (sepIt f b++[dotIt]):=by
 refine ⟨fun N hN=>?_,(Pr.sep f b).app .dot,fun t ht=>?_,fun name t ht=>?_,?_,fun hf hb name m h=>.inr (ze1 hf hb h),fun parts name g i p hp hf0=>?_⟩
 ·exact .star (f:=f) (b:=b) (r:=[]) .nil
 ·simp only [aU,aO,bP,or_false] at ht;rcases ht with ht | rfl
  ·rw [zdo ht]; exact zdj
  ·show _ <= _; simp
 ·simp only [aU,aO,bP,or_false] at ht;rcases ht with ht | rfl
  ·rw [zdo ht]; intro h; cases h
  ·intro _ p q h; exact zm1 (show TA name Adot p q from h)
 ·have h3:(sepT f b).length <= 1:=by unfold sepT; split <;> simp
  simp only [aK,aI,bY];omega
 ·rw [zia g hp,zgk];constructor
  ·exact fun h=>h.1
  ·intro h;refine ⟨h,name.length,?_,rfl⟩;have hl:=g.len;have:=zni h (dD _);exact (zgs (by omega)).mpr ⟨by omega,by omega⟩
theorem TS.star {f b:Bool} {c:Comp} {r:List Comp} (hc:c ≠ []) {outr:List Nat} {itr:List It2} (R:TS false true (c :: r) outr itr) :
  TS f b ([] :: c :: r) (sepT f b++((if f then [40,63,58,46,42,47,41,63,63] else [40,63,58,91,94,47,93,43,47,41,42])++outr)) (sepIt f b++([if f then optIt else manyIt]++itr)):=by
 refine ⟨fun N hN=>?_,(Pr.sep f b).app (Pr.app (by cases f; exact .many; exact .opt) R.pr),fun t ht=>?_,fun name t ht=>?_,?_,fun hf hb name m h=>.inr (ze1 hf hb h),fun parts name g i p hp hf0=>?_⟩
 ·have:=Tr.star (f:=f) (b:=b) (R.tr N hN);simp only [aS,reduceCtorEq,if_false] at this |-;exact this
 ·simp only [aU,aO,bP,or_false] at ht;rcases ht with ht | rfl | ht
  ·rw [zdo ht]; exact zdj
  ·have h1:∀ t ∈ optG,It1.ok t:=by
    intro t ht;simp only [optG,aO,bP,or_false] at ht;rcases ht with rfl | rfl <;> (show _ <= _; simp)
   have h2:∀ t ∈ manyG,It1.ok t:=by
    intro t ht;simp only [manyG,aO,bP,or_false] at ht;rcases ht with rfl | rfl <;> (show _ <= _; simp)
   cases f
   ·exact ⟨by simp [manyG],h2⟩
   ·exact ⟨by simp [optG],h1⟩
  ·exact R.ok t ht
 ·simp only [aU,aO,bP,or_false] at ht;rcases ht with ht | rfl | ht
  ·rw [zdo ht]; intro h; cases h
  ·cases f
   ·intro _ p q h; exact zpi h
   ·intro h; cases h
  ·exact R.inc name t ht
 ·have h2:=R.len;have h3:(sepT f b).length <= 1:=by unfold sepT; split <;> simp
  have h4:(if f then ([40,63,58,46,42,47,41,63,63]:List Nat) else [40,63,58,91,94,47,93,43,47,41,42]).length <= 11:=by split <;> simp
  simp only [aS,fL,aI,aK] at h2 |-;simp only [bY] ;omega
 ·rw [zia g hp,zcj];have hl:=g.len;have grp:∀ i,i < parts.length->(f = true->i = 0)->∀ q,(∃ t,(if f then optIt else manyIt) = t/\Rel t.2.1 t.2.2 (TB name t.1) (stp parts i) q) ↔ ∃ j,And3 (i <= j) (j < parts.length) (q = stp parts j):=by
   intro i hi h0 q;clear hp hf0
   cases f
   ·have:=zpk g hi (q:=q);rw [<- this];constructor
    ·rintro ⟨t,rfl,h⟩; exact h
    ·intro h; exact ⟨_,rfl,h⟩
   ·have hi0:=h0 rfl;subst hi0;have hopt:=zuu (name:=name) (p:=0) (q:=q) (by omega);constructor
    ·rintro ⟨t,rfl,h⟩;rcases h with ⟨_,h⟩ | h
     ·exact ⟨0,by omega,hi,h.symm⟩
     ·obtain ⟨m,h1,h2,h3⟩:=hopt.mp h;obtain ⟨j,j1,j2,j3⟩:=g.slash_iff.mp h2;exact ⟨j,by omega,j2,by omega⟩
    ·rintro ⟨j,h1,h2,rfl⟩;refine ⟨_,rfl,?_⟩
     by_cases hj:j = 0
     ·clear h1 h2 hopt;subst hj; exact .inl ⟨rfl,rfl⟩
     ·refine .inr (hopt.mpr ⟨stp parts j - 1,by omega,?_,?_⟩)
      ·have:=zni (parts:=parts) (i:=0) (j:=j) (by omega) (by omega);exact g.slash (j:=j) (by omega) h2 (by omega)
      ·have:=zni (parts:=parts) (i:=0) (j:=j) (by omega) (by omega);omega
  have rest:∀ j,j < parts.length->(RelL (itr.map (It2.gi name)) (stp parts j) name.length ↔ FMs parts (c :: r) j parts.length):=fun j hj=>R.sem parts name g j (stp parts j) (by simp [hj]) (by intro h; cases h);constructor
  ·rintro ⟨h1,q,h2,h3⟩;have h0:f = true->i = 0:=hf0;obtain ⟨j,j1,j2,rfl⟩:=(grp i h1 h0 q).mp ⟨_,rfl,h2⟩;exact ⟨j,j1,by omega,(rest j j2).mp h3⟩
  ·rintro ⟨m,h1,h2,h3⟩;have hm:m < parts.length:=((zd9 hc).mp h3).1;have h0:f = true->i = 0:=hf0;obtain ⟨t,rfl,h4⟩:=(grp i (by omega) h0 (stp parts m)).mpr ⟨m,h1,hm,rfl⟩;exact ⟨by omega,stp parts m,h4,(rest m hm).mpr h3⟩
theorem zr2:∀ (cs:List Comp) (f b:Bool),(∀ c ∈ cs,GoodC c)->Col b cs->(f || b = true->cs ≠ [])->Ex2 fun out its=>TS f b cs out its
 | []=>by
  intro f b _ q h
  cases f
  ·clear q
   cases b
   ·exact ⟨_,_,.nil⟩
   ·exact absurd rfl (h rfl)
  ·exact absurd rfl (h rfl)
 | c :: r=>by
  intro f b hg hcol q
  by_cases hc:c = []
  ·clear q;subst hc
   cases r with
   | nil=>exact ⟨_,_,.last⟩
   | cons c' r =>
    have hcol2:=hcol.2;have hc':c' ≠ []:=hcol2.1 (by simp);obtain ⟨outr,itr,R⟩:=zr2 (c' :: r) false true (fun x hx=>hg x (by simp [hx])) (by simpa using hcol2) (by simp);exact ⟨_,_,R.star hc'⟩
  ·obtain ⟨out,itc,S⟩:=zp2 (hg c (by simp)) hc;obtain ⟨outr,itr,R⟩:=zr2 r false false (fun x hx=>hg x (by simp [hx])) (by have:=hcol.2; simpa [hc] using this) (by simp);exact ⟨_,_,R.cons hc S⟩

noncomputable def collC:Bool->List Comp->List Comp
 | O,[]=>[]
 | b,c :: r=>if c.isEmpty && b then collC true r else c :: collC c.isEmpty r
theorem cC_n {b:Bool}:collC b [] = []:=rfl
theorem cC_c {b:Bool} {c:Comp} {r:List Comp}:collC b (c :: r) = if c.isEmpty && b then collC true r else c :: collC c.isEmpty r:=rfl
theorem isE {c:Comp}:c.isEmpty = decide (c = []):=by cases c <;> simp
theorem zg9 {c:Comp} (hg:GoodC c):textOf c = [42,42] ↔ c = []:=by
 constructor
 ·intro h
  by_cases hc:c = []
  ·exact hc
  ·obtain ⟨out,its,S⟩:=zp2 hg hc;exact absurd h S.ne2
 ·rintro rfl; rfl
theorem zqx {c:Comp} (hg:GoodC c):textOf c ≠ []:=by
 by_cases hc:c = []
 ·subst hc; decide
 ·obtain ⟨out,its,S⟩:=zp2 hg hc;exact S.ne
theorem zkf:∀ (cs:List Comp) (b:Bool),(∀ c ∈ cs,GoodC c)->coll b (cs.map textOf) = (collC b cs).map textOf
 | []=>fun O O=>rfl
 | c :: r=>by
  intro b hg;have h1:=zg9 (hg c (by simp));have ih:=fun b=>zkf r b fun x hx=>hg x (by simp [hx]);rw [aS,co_c,cC_c,isE]
  by_cases hc:c = []
  ·clear h1 hg;subst hc
   cases b
   ·simp [textOf,ih]
   ·simp [textOf,ih]
  ·have h2:¬ textOf c = [42,42]:=fun z=>hc (h1.mp z);simp [hc,h2,ih]
set_option tactic.hygienic true in
theorem ze2:∀ (cs:List Comp) (b:Bool),Col b (collC b cs)
 | []=>fun O=>trivial
 | c :: r=>by
  intro b;rw [cC_c]
  split
  ·rename_i h;have hb:b = true:=by simp at h; exact h.2
   subst hb;exact ze2 r true
  ·rename_i h;refine ⟨fun hb hc=>h ?_,?_⟩
   ·subst hb hc; rfl
   ·rw [<- isE]; exact ze2 r _
theorem zdc:∀ (cs:List Comp) (b:Bool),(∀ c ∈ collC b cs,c ∈ cs)/\(collC b cs).length <= cs.length/\((collC b cs).map cS).sum <= (cs.map cS).sum
 | []=>fun O=>⟨by simp [cC_n],by simp [cC_n],by simp [cC_n]⟩
 | c :: r=>by
  intro b;rw [cC_c]
  split
  ·obtain ⟨h1,h2,h3⟩:=zdc r true;exact ⟨fun x hx=>bU _ (h1 x hx),by simp; omega,by simp; omega⟩
  ·obtain ⟨h1,h2,h3⟩:=zdc r c.isEmpty;refine ⟨fun x hx=>?_,by simp; omega,by simp; omega⟩;clear h3 h2;rcases aO.mp hx with rfl | hx
   ·simp
   ·exact bU _ (h1 x hx)
theorem ztf {parts:List (List Nat)} {X:List Comp} {i m:Nat} (h:i <= m) (hm:FMs parts ([] :: X) m parts.length):FMs parts ([] :: X) i parts.length:=by
 cases X with
 | nil=>rw [zgk] at hm |-; omega
 | cons c r =>
  rw [zcj] at hm |-;obtain ⟨q,h1,h2,h3⟩:=hm;exact ⟨q,by omega,h2,h3⟩
theorem zrl {parts:List (List Nat)} {X:List Comp} {m:Nat} (hm:FMs parts ([] :: X) m parts.length):m <= parts.length:=by
 cases X with
 | nil=>rw [zgk] at hm; omega
 | cons c r =>
  rw [zcj] at hm;obtain ⟨q,h1,h2,h3⟩:=hm;omega
theorem zj0 {parts:List (List Nat)}:∀ (cs:List Comp),(∀ i,FMs parts cs i parts.length ↔ FMs parts (collC false cs) i parts.length)/\∀ i,FMs parts ([] :: cs) i parts.length ↔ FMs parts ([] :: collC true cs) i parts.length
 | []=>⟨fun O=>.rfl,fun O=>.rfl⟩
 | c :: r=>by
  obtain ⟨h1,h2⟩:=zj0 (parts:=parts) r
  by_cases hc:c = []
  ·subst hc;have e1:collC false ([] :: r) = [] :: collC true r:=rfl;have e2:collC true ([] :: r) = collC true r:=rfl;rw [e1,e2];refine ⟨h2,fun i=>?_⟩;rw [zcj];constructor
   ·rintro ⟨m,a,b,h⟩;exact ztf a ((h2 m).mp h)
   ·intro h;exact ⟨i,by omega,zrl h,(h2 i).mpr h⟩
  ·have hE:c.isEmpty = false:=by rw [isE]; simpa using hc
   have e1:collC false (c :: r) = c :: collC false r:=by rw [cC_c,hE]; rfl
   have e2:collC true (c :: r) = c :: collC false r:=by rw [cC_c,hE]; rfl
   have h3:∀ i,FMs parts (c :: r) i parts.length ↔ FMs parts (c :: collC false r) i parts.length:=fun i=>by
    rw [zd9 hc,zd9 hc,h1]
   rw [e1,e2];refine ⟨h3,fun i=>?_⟩;rw [zcj,zcj];constructor
   ·rintro ⟨m,a,b,h⟩; exact ⟨m,a,b,(h3 m).mp h⟩
   ·rintro ⟨m,a,b,h⟩; exact ⟨m,a,b,(h3 m).mpr h⟩
theorem zd6 {c:Comp} (hg:GoodC c) {N:Nat} (hN:100 <= N) {s cur:List Nat} {r:Option (List (List Nat))} (h:Spl N s (cur++textOf c) r):Spl N (textOf c++s) cur r:=by
 by_cases hc:c = []
 ·subst hc;exact zj8 2 s cur r h
 ·obtain ⟨out,its,S⟩:=zp2 hg hc;exact S.spl N s cur r hN h
theorem zen (p q:List Nat) (r:List (List Nat)):joinL [47] (p :: q :: r) = p++47 :: joinL [47] (q :: r):=by
 show p++_ = _;rw [zh9 _ (by simp)]
theorem zj3 {N:Nat} (hN:100 <= N) {tail:List Nat} (ht:∀ cur,Spl N tail cur none):∀ (cs:List Comp),cs ≠ []->(∀ c ∈ cs,GoodC c)->Spl N (joinL [47] (cs.map textOf)++tail) [] none
 | []=>fun h O=>absurd rfl h
 | [c]=>by
  intro _ hg;have:joinL [47] ([c].map textOf)++tail = textOf c++tail:=by simp [joinL]
  rw [this];exact zd6 (hg c (by simp)) hN (ht _)
 | c :: c' :: r=>by
  intro _ hg;have ih:=zj3 hN ht (c' :: r) (by simp) fun x hx=>hg x (by simp only [aO] at hx |-; exact .inr hx);rw [aS,aS,zen,bH];refine zd6 (hg c (by simp)) hN ?_;exact .slash ih
theorem zjb {N:Nat} (hN:100 <= N):∀ (cs:List Comp),cs ≠ []->(∀ c ∈ cs,GoodC c)->Spl N (joinL [47] (cs.map textOf)) [] (some (cs.map textOf))
 | []=>fun h O=>absurd rfl h
 | [c]=>by
  intro _ hg;have h1:=zd6 (hg c (by simp)) hN (s:=[]) (cur:=[]) (r:=some [textOf c]) .nil;have:joinL [47] ([c].map textOf) = textOf c++[]:=by simp [joinL]
  rw [this];exact h1
 | c :: c' :: r=>by
  intro _ hg;have ih:=zjb hN (c' :: r) (by simp) fun x hx=>hg x (by simp only [aO] at hx |-; exact .inr hx);rw [aS,aS,zen];refine zd6 (hg c (by simp)) hN ?_;exact .slash ih
theorem zug:∀ t ∈ tailsN,∀ b ∈ behindN,∀ n,∃ x,t++b = 91 :: x/\Bex (n+100) x:=by
 simp only [tailsN,behindN,List.forall_mem_cons]
 and_intros
 all_goals first
  | (intro n; exact ⟨_,rfl,rfl⟩)
  | (intro t h; cases h)
theorem zoi {tail:List Nat} (h:TailOk tail) (hne:tail ≠ []) {N:Nat} (hN:100 <= N):(∀ cur,Spl N tail cur none)/\91 ∈ tail/\∀ x ∈ tail,x < 256:=by
 rcases h with h | ⟨t,ht,b,hb,rfl⟩
 ·exact absurd h hne
 ·obtain ⟨n,rfl⟩:∃ n,N = n+100:=⟨N - 100,by omega⟩;obtain ⟨x,e,hx⟩:=zug t ht b hb n;have h1:=(zer t ht).2.2;have h2:=(zdf b hb).2;refine ⟨fun cur=>?_,by rw [e]; simp,fun y hy=>?_⟩
  ·rw [e]; exact .bad hx
  ·rcases aU.mp hy with hy | hy
   ·exact h1 y hy
   ·exact h2 y hy
theorem zgu {c:Comp} (hg:GoodC c):∀ x ∈ textOf c,x < 256:=by
 intro x hx;unfold textOf at hx
 split at hx
 ·simp at hx; omega
 ·split at hx
  ·simp at hx; omega
  ·obtain ⟨e,he,hx⟩:=fY.mp hx;exact (hg e he).small.2.2 x hx
theorem zhq {x:Nat}:∀ {l:List (List Nat)},x ∈ joinL [47] l->x = 47 \/ ∃ p ∈ l,x ∈ p
 | []=>by intro h; cases h
 | p :: r=>by
  intro h;have h':x ∈ p++r.flatMap fun q=>[47]++q:=h;rcases aU.mp h' with h | h
  ·exact .inr ⟨p,by simp,h⟩
  ·obtain ⟨q,hq,h⟩:=fY.mp h;rcases aU.mp h with h | h
   ·exact .inl (by simpa using h)
   ·exact .inr ⟨q,by simp [hq],h⟩
theorem zhm {l:List (List Nat)}:∀ p ∈ l,p.length <= (joinL [47] l).length:=by
 intro p hp;rw [zbh];have:∀ l:List (List Nat),∀ p ∈ l,p.length <= (l.map cS).sum:=by
  intro l;induction l with
  | nil=>simp
  | cons q l ih =>
   intro p hp;rcases aO.mp hp with rfl | hp
   ·simp
   ·have:=ih p hp; simp; omega
 have:=this l p hp;omega
theorem zj1 {cs:List Comp} {m:Nat} (hm:m <= 8) (P:PatOk m cs []) {out:List Nat} {its:List It2} (S:TS true false (collC false cs) out its):Plain cs out its:=by
 obtain ⟨_,c2,c3⟩:=zdc cs false;refine ⟨?_,?_,S.ok,S.inc,fun parts hn=>?_⟩
 ·have:=(S.pr [] [] [] ⟨by simp,by simp,by simp⟩ (.nil (.inl rfl))).1
  simpa using this
 ·have h1:=S.len;have h2:=P.n1;have h3:=P.n2;omega
 ·have hpos:0 < parts.length:=by cases h:parts; exact absurd h hn.ne; simp
  have:=S.sem parts (joinL [47] parts) ⟨hn,rfl⟩ 0 0 (by rw [if_pos (by rfl)]; exact ⟨hpos,rfl⟩) (fun O=>rfl);rw [this,<- (zj0 cs).1 0]
theorem zh8 {N k m:Nat} (hN:500000 <= N) {cs:List Comp} (hm:m <= 8) (P:PatOk m cs []):Ey2 (fun rx its=>callF N fsAll 2 (k+6) 9 [.bytes (patOf cs [])] = .ok (.bytes rx)) (fun rx its=>Plain cs rx its):=by
 obtain ⟨j1,_⟩:=zdi (by omega) P;obtain ⟨c1,c2,c3⟩:=zdc cs false;have hpat:patOf cs [] = joinL [47] (cs.map textOf):=by simp [patOf]
 have hne:collC false cs ≠ []:=by
  have:=P.ne;clear c2 P c3 c1 j1 hpat
  cases cs with
  | nil=>exact absurd rfl this
  | cons c r=>simp [cC_c]
 obtain ⟨out,its,S⟩:=zr2 (collC false cs) true false (fun c hc=>P.gc c (c1 c hc)) (ze2 cs false) (fun O=>hne);have hpl:=zj1 hm P S
 by_cases h1:cs = [[]]
 ·clear c2 c3 hne c1 hpl S j1;subst h1;have:TS true false (collC false [[]]) (sepT true false++[46,42]) (sepIt true false++[dotIt]):=TS.last;exact ⟨_,_,by rw [hpat]; exact zh0,zj1 hm P this⟩
 ·refine ⟨out,its,?_,hpl⟩;rw [hpat];have hn2:joinL [47] (cs.map textOf) ≠ [42,42]:=by
   intro h
   match cs,P,h1,h with
   | [],P,O,O1=>exact P.ne rfl
   | [c],P,h1,h =>
    have:joinL [47] ([c].map textOf) = textOf c:=by simp [joinL]
    rw [this] at h;exact h1 (by rw [(zg9 (P.gc c (by simp))).mp h])
   | c :: c' :: r,P,h1,h =>
    rw [aS,aS,zen] at h;have:(47:Nat) ∈ ([42,42]:List Nat):=by rw [<- h]; simp
    simp at this
  have hcm:=zkf cs false P.gc;have htr:=S.tr N (by omega);rw [<- hcm] at htr;have hsmall:=hpl.small;have hcl:cs.length <= 9:=by have:=P.n1; omega
  refine zis (by omega) (fun x hx=>?_) (by omega) hn2 (zjb (by omega) cs P.ne P.gc) (by simp; omega) (by simp; omega) (fun s hs=>?_) (fun s hs=>?_) htr (by omega) (fun s hs=>?_) ?_
  ·rcases zhq hx with rfl | ⟨p,hp,hx⟩
   ·decide
   ·obtain ⟨c,hc,rfl⟩:=cG.mp hp;exact zgu (P.gc c hc) x hx
  ·obtain ⟨c,hc,rfl⟩:=cG.mp hs;exact zqx (P.gc c hc)
  ·have:=zhm s hs;obtain ⟨c,hc,rfl⟩:=cG.mp hs;exact ⟨by omega,by omega,zgu (P.gc c hc)⟩
  ·rw [hcm] at hs;obtain ⟨c,hc,rfl⟩:=cG.mp hs;exact cG.mpr ⟨c,c1 c hc,rfl⟩
  ·rw [hcm]; simpa using c2
theorem zgg {N k m:Nat} (hN:500000 <= N) {cs:List Comp} {tail:List Nat} (hm:m <= 8) (P:PatOk m cs tail) (hne:tail ≠ []):callF N fsAll 2 (k+6) 9 [.bytes (patOf cs tail)] = .ex:=by
 obtain ⟨j1,j2⟩:=zdi (by omega) P;obtain ⟨h1,h2,h3⟩:=zoi P.gt hne (N:=N) (by omega);have hl:(patOf cs tail).length <= 3040:=by rw [patOf,aK]; omega
 refine zhl (by omega) (fun x hx=>?_) (by omega) (fun h=>?_) (zj3 (by omega) h1 cs P.ne P.gc)
 ·rcases aU.mp hx with hx | hx
  ·rcases zhq hx with rfl | ⟨p,hp,hx⟩
   ·decide
   ·obtain ⟨c,hc,rfl⟩:=cG.mp hp;exact zgu (P.gc c hc) x hx
  ·exact h3 x hx
 ·have:(91:Nat) ∈ ([42,42]:List Nat):=by rw [<- h]; exact List.mem_append_right _ h2
  simp at this

theorem zua {N k:Nat} (hN:500000 <= N) {xs:List Int} (hx:xs.length <= 63):∃ σ1,exs N (CF N k) (PC N k) lawA [some (false,.lst (xs.map .int)),none,none,none,none,none,none,none,none,none,none] = .nx σ1 /\
  ((Ey2 (fun d σ'=>ev (CF N k) trME (ρm (nms trME) σ1) = .ok d) (fun d σ'=>exs N (CF N k) (PC N k) lawD ((fz (nms trME) d σ1).set 5 (some (false,d))) = .rt (.bool true) σ')) \/
   (ev (CF N k) trME (ρm (nms trME) σ1) = .ex/\∃ tb,σ1[3]? = some (some (false,.bytes tb))/\tb ≠ [])):=by
 obtain ⟨cs,tail,P,e⟩:=zl6 (N:=N) (k:=k) (by omega) hx;have h8:(xs.take 8).length <= 8:=by simp; omega
 refine ⟨_,e,?_⟩;have hev:∀ r,CF N k 9 [.bytes (patOf cs tail)] = r->ev (CF N k) trME (ρm (nms trME) (laσ (.lst (xs.map .int)) (.lst ((xs.take 8).map .int)) cs (.bytes tail) (.bytes (patOf cs tail)))) = r:=by
  intro r hr;exact goE 1 fun r=>r hr
 by_cases ht:tail = []
 ·clear e;subst ht;obtain ⟨rx,its,e9,L⟩:=zh8 (N:=N) (k:=k+4) hN h8 P;obtain ⟨σ',eD⟩:=zlz (N:=N) (k:=k) (by omega) hx P L;refine .inl ⟨.bytes rx,σ',hev _ e9,?_⟩;rw [fz_b];exact eD
 ·refine .inr ⟨hev _ (zgg (N:=N) (k:=k+4) hN h8 P ht),tail,rfl,ht⟩
theorem zo9 (xs:List Int) (hx:xs.length <= 63):LawTrue xs:=zua (N:=bigN) (k:=90) (by unfold bigN; omega) hx
theorem rw_holds:PySem.Challenge.rw_ji0030_01.Holds:=zo6 zo9
end Internal
theorem PySem.Challenge.cw_ji0030_01_holds : PySem.Challenge.rw_ji0030_01.Holds := by
  exact Internal.rw_holds
