import PyProof.Rows.All
import Wide.All
import OpenK.AllK
import Wide.FinOn
import PyProof.Rows.FactsExc_KeyError
import KE.KIntText
import Lean
import PySem.Challenge.RW_te0038_01
open Int renaming ofNat→dV,negSucc→DM,ofNat_eq_natCast→DN,neg_ofNat_le_natCast→Ey,natCast_nonneg→Fy,ofNat_lt→FP,not_lt→F9,ofNat_le→Gm,not_le→Gw,le_refl→GR
open Nat renaming le_trans→kV,beq→DI,eq_of_beq_eq_true→DK,succ_pos→DO,le_refl→DQ,lt_of_lt_of_le→DR,zero_le→DU,lt_of_le_of_lt→DY,le_add_left→D5,le_of_lt→D6,le_of_not_lt→D7,le_add_right→D8,ble_eq→Ef,le_of_ble_eq_true→El,not_lt_zero→Eo,le_of_eq→Eu,lt_of_succ_lt_succ→Ew,ble→Ex,lt_or_ge→Ez,lt_succ_self→EB,ne_of_beq_eq_false→EC,blt_eq→ED,add_le_add_left→EG,blt→EH,add_sub_cancel_left→EI,add_comm→EJ,le_of_succ_le_succ→EK,lt_succ_of_le→EL,not_succ_le_zero→EQ,le_of_lt_succ→ER,mul_le_mul_left→EU,lt_of_mul_lt_mul_right→EX,succ_le_succ→EY,lt_trans→E7,not_lt→Fc,le_antisymm→Fg,lt_of_sub_eq_succ→Fj,lt_irrefl→Fk,lt_of_not_le→Ft,succ_add→Fx,min_eq_left→Fz,add_right_comm→FB,not_le→FE,add_sub_of_le→FG,le_succ_of_le→FI,sub_self→FO,add_le_add_right→FW,sub_le→FY,sub_lt_right_of_lt_add→F4,ne_of_lt→F5,sub_add_cancel→F6,sub_lt_left_of_lt_add→F7,add_le_add→F8,zero_lt_of_lt→Ga,lt_succ_of_lt→Ge,le_of_succ_le→Gh,succ_ne_zero→Gk,eq_sub_of_add_eq'→Go,add_sub_add_right→Gp,zero_add→Gq,sub_le_of_le_add→Gx,le_add_of_sub_le→Gy,add_lt_add_right→Gz,le_succ→GB,add_lt_add_left→GC,add_sub_cancel'→GE,mul_two→GF,succ→GG,lt_or_gt_of_ne→GK,ne_of_gt→GO,sub_zero→GP,mul_zero→GQ
open List renaming length_append→pm,mem_cons_self→wj,getElem?_eq_getElem→DH,mem_cons_of_mem→DJ,all_eq_true→DL,length_set→DP,getElem?_eq_some_iff→DT,append_assoc→DV,lookup_cons→DW,getElem_mem→DX,length_cons→D0,mem_cons→D1,append_nil→D2,length_drop→D3,length_map→D4,drop_eq_getElem_cons→D9,length→Ea,getD_eq_getElem?_getD→Eb,takeWhile_cons→Ed,nodup_cons→Ej,map_cons→Em,getElem_of_mem→En,pairwise_iff_getElem→Er,getElem?_eq_none_iff→Es,mem_append_right→EA,drop_length→EF,size_toArray→EM,mem_singleton→EN,not_mem_nil→EO,cons_append→EP,nil_append→ES,map_append→ET,take_of_length_le→EV,getElem?_append_right→EW,length_take→EZ,getElem?_append_left→E8,nodup_nil→E9,mem_of_getElem?→Fa,forall_mem_cons→Fb,getElem?_set→Fd,getElem_cons_succ→Ff,mem_map→Fh,dropLast_eq_take→Fi,reverse_cons→Fm,drop_left→Fq,drop_zero→Fs,mem_map_of_mem→Fu,reverse_append→Fv,zip_cons_cons→FA,prefix_iff_eq_take→FC,eraseIdxIfInBounds_toArray→FF,getElem?_map→FH,takeWhile_append_dropWhile→FJ,prefix_of_prefix_length_le→FK,drop_drop→FM,mem_range→FN,take_append_drop→FQ,mem_toArray→FR,take_length→FS,eq_nil_of_length_eq_zero→FT,reverse_reverse→FU,dropWhile_cons→FZ,map_congr_left→F1,forIn_cons→F2,filterMap_cons→F3,range→Gb,drop→Gc,foldl_append→Gf,append_cancel_right→Gg,any_cons→Gi,range'→Gj,drop_eq_nil_of_le→Gl,foldl_cons→Gr,takeWhile_prefix→Gs,length_filter_le→Gv,drop_eq_nil_iff→GA,flatten_append→GD,zip_nil_right→GH,filter_append→GM,getElem?_drop→GN,lookup→GS,take→GT
open Option.some renaming inj→DZ
open Bool renaming false_ne_true→Ec,noConfusion→Eg,or_eq_true_iff→Ei,not_eq_true'→Ep,and_eq_true_iff→Et,and_eq_true→E5,and_false→Fp,or_eq_false_iff→FV,eq_false_iff→Gd,not_not→Gn,and_true→GJ
open Exists renaming intro→Ee
open Eq renaming symm→Eh,subst→FL
open ForInStep renaming yield→Ek
open List.cons renaming inj→E6
open Option renaming bind_some→Fe,isSome_iff_exists→Fw,map_eq_some_iff→FD
open Int.ofNat renaming inj→FX
open Nat.le renaming intro→Gu
open Nat.ToInt renaming of_diseq→GL
open PySem PySem.W PySem.Calls PyProof.Rows
set_option maxRecDepth 100000
set_option linter.all false
set_option Elab.async false
set_option genSizeOf false
set_option genInjectivity false
set_option bootstrap.genMatcherCode false
set_option backward.eqns.nonrecursive false
namespace Mine.Internal
structure Hid(p:Prop):Prop where
 it:p
@[elab_as_elim] theorem rK{α:Sort _}{a b:α}{p:α→Prop}(h:a=b)(k:p b):p a:=FL (Eh h) k
theorem o02{p0 p1:Prop}{P:Prop}(h:p0∧p1)(k:p0→p1→P):P:=by obtain⟨q0,q1⟩:=h;exact k q0 q1
theorem o03{p0 p1 p2:Prop}{P:Prop}(h:p0∧p1∧p2)(k:p0→p1→p2→P):P:=by obtain⟨q0,q1,q2⟩:=h;exact k q0 q1 q2
theorem o04{p0 p1 p2 p3:Prop}{P:Prop}(h:p0∧p1∧p2∧p3)(k:p0→p1→p2→p3→P):P:=by obtain⟨q0,q1,q2,q3⟩:=h;exact k q0 q1 q2 q3
theorem o05{p0 p1 p2 p3 p4:Prop}{P:Prop}(h:p0∧p1∧p2∧p3∧p4)(k:p0→p1→p2→p3→p4→P):P:=by obtain⟨q0,q1,q2,q3,q4⟩:=h;exact k q0 q1 q2 q3 q4
theorem o06{p0 p1 p2 p3 p4 p5:Prop}{P:Prop}(h:p0∧p1∧p2∧p3∧p4∧p5)(k:p0→p1→p2→p3→p4→p5→P):P:=by obtain⟨q0,q1,q2,q3,q4,q5⟩:=h;exact k q0 q1 q2 q3 q4 q5
theorem o07{p0 p1 p2 p3 p4 p5 p6:Prop}{P:Prop}(h:p0∧p1∧p2∧p3∧p4∧p5∧p6)(k:p0→p1→p2→p3→p4→p5→p6→P):P:=by obtain⟨q0,q1,q2,q3,q4,q5,q6⟩:=h;exact k q0 q1 q2 q3 q4 q5 q6
theorem o08{p0 p1 p2 p3 p4 p5 p6 p7:Prop}{P:Prop}(h:p0∧p1∧p2∧p3∧p4∧p5∧p6∧p7)(k:p0→p1→p2→p3→p4→p5→p6→p7→P):P:=by obtain⟨q0,q1,q2,q3,q4,q5,q6,q7⟩:=h;exact k q0 q1 q2 q3 q4 q5 q6 q7
theorem o11{α0:Sort _}{p0:α0→Prop}{P:Prop}(h: ∃(x0:α0),p0 x0)(k: ∀(x0:α0),p0 x0→P):P:=by obtain⟨x0,q0⟩:=h;exact k x0 q0
theorem o12{α0:Sort _}{p0 p1:α0→Prop}{P:Prop}(h: ∃(x0:α0),p0 x0∧p1 x0)(k: ∀(x0:α0),p0 x0→p1 x0→P):P:=by obtain⟨x0,q0,q1⟩:=h;exact k x0 q0 q1
theorem o13{α0:Sort _}{p0 p1 p2:α0→Prop}{P:Prop}(h: ∃(x0:α0),p0 x0∧p1 x0∧p2 x0)(k: ∀(x0:α0),p0 x0→p1 x0→p2 x0→P):P:=by obtain⟨x0,q0,q1,q2⟩:=h;exact k x0 q0 q1 q2
theorem o14{α0:Sort _}{p0 p1 p2 p3:α0→Prop}{P:Prop}(h: ∃(x0:α0),p0 x0∧p1 x0∧p2 x0∧p3 x0)(k: ∀(x0:α0),p0 x0→p1 x0→p2 x0→p3 x0→P):P:=by obtain⟨x0,q0,q1,q2,q3⟩:=h;exact k x0 q0 q1 q2 q3
theorem o16{α0:Sort _}{p0 p1 p2 p3 p4 p5:α0→Prop}{P:Prop}(h: ∃(x0:α0),p0 x0∧p1 x0∧p2 x0∧p3 x0∧p4 x0∧p5 x0)(k: ∀(x0:α0),p0 x0→p1 x0→p2 x0→p3 x0→p4 x0→p5 x0→P):P:=by obtain⟨x0,q0,q1,q2,q3,q4,q5⟩:=h;exact k x0 q0 q1 q2 q3 q4 q5
theorem o21{α0:Sort _}{α1:Sort _}{p0:α0→α1→Prop}{P:Prop}(h: ∃(x0:α0) (x1:α1),p0 x0 x1)(k: ∀(x0:α0) (x1:α1),p0 x0 x1→P):P:=by obtain⟨x0,x1,q0⟩:=h;exact k x0 x1 q0
theorem o22{α0:Sort _}{α1:Sort _}{p0 p1:α0→α1→Prop}{P:Prop}(h: ∃(x0:α0) (x1:α1),p0 x0 x1∧p1 x0 x1)(k: ∀(x0:α0) (x1:α1),p0 x0 x1→p1 x0 x1→P):P:=by obtain⟨x0,x1,q0,q1⟩:=h;exact k x0 x1 q0 q1
theorem o23{α0:Sort _}{α1:Sort _}{p0 p1 p2:α0→α1→Prop}{P:Prop}(h: ∃(x0:α0) (x1:α1),p0 x0 x1∧p1 x0 x1∧p2 x0 x1)(k: ∀(x0:α0) (x1:α1),p0 x0 x1→p1 x0 x1→p2 x0 x1→P):P:=by obtain⟨x0,x1,q0,q1,q2⟩:=h;exact k x0 x1 q0 q1 q2
theorem o24{α0:Sort _}{α1:Sort _}{p0 p1 p2 p3:α0→α1→Prop}{P:Prop}(h: ∃(x0:α0) (x1:α1),p0 x0 x1∧p1 x0 x1∧p2 x0 x1∧p3 x0 x1)(k: ∀(x0:α0) (x1:α1),p0 x0 x1→p1 x0 x1→p2 x0 x1→p3 x0 x1→P):P:=by obtain⟨x0,x1,q0,q1,q2,q3⟩:=h;exact k x0 x1 q0 q1 q2 q3
theorem o25{α0:Sort _}{α1:Sort _}{p0 p1 p2 p3 p4:α0→α1→Prop}{P:Prop}(h: ∃(x0:α0) (x1:α1),p0 x0 x1∧p1 x0 x1∧p2 x0 x1∧p3 x0 x1∧p4 x0 x1)(k: ∀(x0:α0) (x1:α1),p0 x0 x1→p1 x0 x1→p2 x0 x1→p3 x0 x1→p4 x0 x1→P):P:=by obtain⟨x0,x1,q0,q1,q2,q3,q4⟩:=h;exact k x0 x1 q0 q1 q2 q3 q4
theorem o31{α0:Sort _}{α1:Sort _}{α2:Sort _}{p0:α0→α1→α2→Prop}{P:Prop}(h: ∃(x0:α0) (x1:α1) (x2:α2),p0 x0 x1 x2)(k: ∀(x0:α0) (x1:α1) (x2:α2),p0 x0 x1 x2→P):P:=by obtain⟨x0,x1,x2,q0⟩:=h;exact k x0 x1 x2 q0
theorem o32{α0:Sort _}{α1:Sort _}{α2:Sort _}{p0 p1:α0→α1→α2→Prop}{P:Prop}(h: ∃(x0:α0) (x1:α1) (x2:α2),p0 x0 x1 x2∧p1 x0 x1 x2)(k: ∀(x0:α0) (x1:α1) (x2:α2),p0 x0 x1 x2→p1 x0 x1 x2→P):P:=by obtain⟨x0,x1,x2,q0,q1⟩:=h;exact k x0 x1 x2 q0 q1
theorem o33{α0:Sort _}{α1:Sort _}{α2:Sort _}{p0 p1 p2:α0→α1→α2→Prop}{P:Prop}(h: ∃(x0:α0) (x1:α1) (x2:α2),p0 x0 x1 x2∧p1 x0 x1 x2∧p2 x0 x1 x2)(k: ∀(x0:α0) (x1:α1) (x2:α2),p0 x0 x1 x2→p1 x0 x1 x2→p2 x0 x1 x2→P):P:=by obtain⟨x0,x1,x2,q0,q1,q2⟩:=h;exact k x0 x1 x2 q0 q1 q2
theorem o34{α0:Sort _}{α1:Sort _}{α2:Sort _}{p0 p1 p2 p3:α0→α1→α2→Prop}{P:Prop}(h: ∃(x0:α0) (x1:α1) (x2:α2),p0 x0 x1 x2∧p1 x0 x1 x2∧p2 x0 x1 x2∧p3 x0 x1 x2)(k: ∀(x0:α0) (x1:α1) (x2:α2),p0 x0 x1 x2→p1 x0 x1 x2→p2 x0 x1 x2→p3 x0 x1 x2→P):P:=by obtain⟨x0,x1,x2,q0,q1,q2,q3⟩:=h;exact k x0 x1 x2 q0 q1 q2 q3
theorem o36{α0:Sort _}{α1:Sort _}{α2:Sort _}{p0 p1 p2 p3 p4 p5:α0→α1→α2→Prop}{P:Prop}(h: ∃(x0:α0) (x1:α1) (x2:α2),p0 x0 x1 x2∧p1 x0 x1 x2∧p2 x0 x1 x2∧p3 x0 x1 x2∧p4 x0 x1 x2∧p5 x0 x1 x2)(k: ∀(x0:α0) (x1:α1) (x2:α2),p0 x0 x1 x2→p1 x0 x1 x2→p2 x0 x1 x2→p3 x0 x1 x2→p4 x0 x1 x2→p5 x0 x1 x2→P):P:=by obtain⟨x0,x1,x2,q0,q1,q2,q3,q4,q5⟩:=h;exact k x0 x1 x2 q0 q1 q2 q3 q4 q5
theorem o42{α0:Sort _}{α1:Sort _}{α2:Sort _}{α3:Sort _}{p0 p1:α0→α1→α2→α3→Prop}{P:Prop}(h: ∃(x0:α0) (x1:α1) (x2:α2) (x3:α3),p0 x0 x1 x2 x3∧p1 x0 x1 x2 x3)(k: ∀(x0:α0) (x1:α1) (x2:α2) (x3:α3),p0 x0 x1 x2 x3→p1 x0 x1 x2 x3→P):P:=by obtain⟨x0,x1,x2,x3,q0,q1⟩:=h;exact k x0 x1 x2 x3 q0 q1
theorem o43{α0:Sort _}{α1:Sort _}{α2:Sort _}{α3:Sort _}{p0 p1 p2:α0→α1→α2→α3→Prop}{P:Prop}(h: ∃(x0:α0) (x1:α1) (x2:α2) (x3:α3),p0 x0 x1 x2 x3∧p1 x0 x1 x2 x3∧p2 x0 x1 x2 x3)(k: ∀(x0:α0) (x1:α1) (x2:α2) (x3:α3),p0 x0 x1 x2 x3→p1 x0 x1 x2 x3→p2 x0 x1 x2 x3→P):P:=by obtain⟨x0,x1,x2,x3,q0,q1,q2⟩:=h;exact k x0 x1 x2 x3 q0 q1 q2
theorem o44{α0:Sort _}{α1:Sort _}{α2:Sort _}{α3:Sort _}{p0 p1 p2 p3:α0→α1→α2→α3→Prop}{P:Prop}(h: ∃(x0:α0) (x1:α1) (x2:α2) (x3:α3),p0 x0 x1 x2 x3∧p1 x0 x1 x2 x3∧p2 x0 x1 x2 x3∧p3 x0 x1 x2 x3)(k: ∀(x0:α0) (x1:α1) (x2:α2) (x3:α3),p0 x0 x1 x2 x3→p1 x0 x1 x2 x3→p2 x0 x1 x2 x3→p3 x0 x1 x2 x3→P):P:=by obtain⟨x0,x1,x2,x3,q0,q1,q2,q3⟩:=h;exact k x0 x1 x2 x3 q0 q1 q2 q3
inductive BF where
 | len | ord | chr | max | join | startswith | count | rfind | append | pop
noncomputable def BF.name:BF→String
 | .len=>"len" | .ord=>"ord" | .chr=>"chr" | .max=>"max" | .join=>"str.join" | .startswith=>"str.startswith" | .count=>"str.count" | .rfind=>"str.rfind" | .append=>"list.append" | .pop=>"list.pop"
inductive TF where
 | int | range | enumerate | keyError
noncomputable def TF.name:TF→String
 | .int=>"int" | .range=>"range" | .enumerate=>"enumerate" | .keyError=>"KeyError"
inductive V where
 | none
 | bool (b:Bool)
 | int (i:Int)
 | str (l:List Nat)
 | ref (i:Nat)
 | old (a:Addr)
 | bi (s:BF)
 | ty (s:TF)
 | meth (f:Addr) (i:Nat)
 | tup (l:List V)
 deriving Inhabited
structure Stm where
 chunk:List Nat
 off:Nat
 buf:Option Nat
 pl:Nat
 pc:Nat
noncomputable def bt (p:Nat×Nat) (c:Nat):Nat×Nat:=match DI c 10 with
 | true=>(p.1+1,0)
 | false=>(p.1,p.2+1)
noncomputable def db (l:List Nat):Nat×Nat:=l.foldl bt (0,0)
noncomputable def bS:Option Nat→List Nat
 | none=>[]
 | some _=>[10]
noncomputable def zf:Option Nat→V
 | none=> .none
 | some c=> .str [c]
structure SI(S:Stm)(m r:List Nat)(q:Bool):Prop where
 whole: ∃done,m=done++(S.chunk++bS S.buf)∧db done=(S.pl,S.pc)
 rest:r=S.chunk.drop S.off++bS S.buf
 off:S.off≤S.chunk.length
 buf:S.buf=none∨S.buf=some 13
 un:q=true→1≤S.off
 len:m.length≤1000
noncomputable def cA (f:Addr) (S:Stm) (ks:List Nat):List (Str×V):=match ks with
 | [a,b,c,d]=>[("reportCharacterErrors",.meth f a),("newLines",.ref b),("dataStream",.ref c),("chunk",.str S.chunk),("chunkSize",.int (dV S.chunk.length)),("chunkOffset",.int (dV S.off)),
  ("errors",.ref d),("prevNumLines",.int (dV S.pl)),("prevNumCols",.int (dV S.pc)),("_bufferedCharacter",zf S.buf)]
 | _=>[]
noncomputable def qt (t:List Nat):List (Str×V):=[("text",.str t),("place",.int (dV t.length))]
inductive AO where
 | fr (m:List (Str×V))
 | cell (v:Option V)
 | inst (C:Addr) (k:Nat)
 | cinst (C:Addr) (kvs:List (Str×V))
 | list (xs:List V)
 | dict (kvs:List (Str×V))
 | idict (kvs:List (Int×V))
 | tupl (xs:List V)
 | strm (f:Addr) (m r:List Nat) (q:Bool) (ks:List Nat)
 | src
 deriving Inhabited
noncomputable def V.at4 {α:Type} (n:α) (b:Bool→α) (i:Int→α) (s:List Nat→α) (d:α):V→α
 | .none=>n
 | .bool x=>b x
 | .int x=>i x
 | .str x=>s x
 | _=>d
noncomputable def bc (v:V):Option (List Nat):=v.at4 none (fun _=>none) (fun _=>none) some none
noncomputable def cj (v:V):Option Int:=v.at4 none (fun _=>none) some (fun _=>none) none
noncomputable def eT (v:V):Option Nat:=v.at4 none (fun _=>none) (fun i=>match i with | .ofNat n=>some n | .negSucc _=>none) (fun _=>none) none
noncomputable def V.at3 {α:Type} (r:Nat→α) (o:Addr→α) (t:List V→α) (d:α):V→α
 | .ref i=>r i
 | .old a=>o a
 | .tup l=>t l
 | _=>d
noncomputable def bC (v:V):Option Nat:=v.at3 some (fun _=>none) (fun _=>none) none
noncomputable def xT:V→Option Nat
 | .meth _ i=>some i
 | _=>none
noncomputable def rX (v:V):Option (List V):=v.at3 (fun _=>none) (fun _=>none) some none
noncomputable def xk (v:V):Option Addr:=v.at3 (fun _=>none) some (fun _=>none) none
noncomputable def vP:List Nat→Option Nat
 | []=>none
 | a::l=>match l with | []=>some a | _::_=>none
noncomputable def alt {α:Type} (a b:Option α):Option α:=match a with
 | some x=>some x
 | none=>b
noncomputable def de:Option AO→Option (List V)
 | some (.list xs)=>some xs
 | _=>none
noncomputable def lC:Option AO→Option (List (Str×V))
 | some (.dict xs)=>some xs
 | _=>none
noncomputable def yL:Option AO→Option (List (Int×V))
 | some (.idict xs)=>some xs
 | _=>none
noncomputable def mapR {α β:Type _} (g:α→β):List α→List β
 | []=>[]
 | a::l=>g a::mapR g l
theorem each{α β:Type _}{f g:α→β}: ∀{l:List α},l.map f=mapR g l→ ∀w∈l,f w=g w
 | a::l,h,w,hw=>(D1.mp hw).elim (fun e=>e▸(E6 h).1) (each (l:=l) (E6 h).2 w)
theorem ui{α β γ:Type _}{f g:α→β→γ}{l:List α}(h:l.map f=mapR g l): ∀w∈l,∀a,f w a=g w a:=fun w hw a=>congrFun (each h w hw) a
theorem pI{α β γ δ:Type _}{f g:α→β→γ→δ}{l:List α}(h:l.map f=mapR g l): ∀w∈l,∀a b,f w a b=g w a b:=fun w hw a b=>congrFun (ui h w hw a) b
theorem xJ{α β γ δ ε:Type _}{f g:α→β→γ→δ→ε}{l:List α}(h:l.map f=mapR g l): ∀w∈l,∀a b c,f w a b c=g w a b c:=fun w hw a b c=>congrFun (pI h w hw a b) c
theorem pH{α β γ δ ε ζ:Type _}{f g:α→β→γ→δ→ε→ζ}{l:List α}(h:l.map f=mapR g l): ∀w∈l,∀a b c d,f w a b c d=g w a b c d:=fun w hw a b c d=>congrFun (xJ h w hw a b c) d
theorem iW{α β γ δ ε ζ η:Type _}{f g:α→β→γ→δ→ε→ζ→η}{l:List α}(h:l.map f=mapR g l): ∀w∈l,∀a b c d e,f w a b c d e=g w a b c d e:=fun w hw a b c d e=>congrFun (pH h w hw a b c d) e
theorem kq{α β γ δ ε ζ η θ:Type _}{f g:α→β→γ→δ→ε→ζ→η→θ}{l:List α}(h:l.map f=mapR g l): ∀w∈l,∀a b c d e i,f w a b c d e i=g w a b c d e i:=fun w hw a b c d e i=>congrFun (iW h w hw a b c d e) i
theorem noE{α:Type}{a:α}{P:Prop}(h:none=some a):P:=nomatch h
theorem okE{α:Type}{P:α→Prop}{a b:α}(h:some a=some b)(k:P a):P b:=by cases h;exact k
theorem dB{α:Type}{P:Prop}{a b:Option α}{r:α}(h:alt a b=some r)(k1:a=some r→P)(k2:b=some r→P):P:=by
 induction a with
 | none=>exact k2 h
 | some x=>exact k1 h
theorem obK{α β:Type}{P:Prop}{o:Option α}{f:α→Option β}{b:β}(h:o.bind f=some b)(k: ∀a,o=some a→f a=some b→P):P:=by
 induction o with
 | none=>exact noE h
 | some a=>exact k a rfl h
theorem aO{P:Prop}{a b:Bool}(h:(a&&b)=true)(k:a=true→b=true→P):P:=k (Et.mp h).1 (Et.mp h).2
theorem k7{l:List Nat}{a:Nat}(h:vP l=some a):l=[a]:=by
 induction l with
 | nil=>exact noE h
 | cons b l=>induction l with
  | nil=>exact okE (P:=fun c=>[b]=[c]) h rfl
  | cons _ _=>exact noE h
theorem a7{o:Option AO}{xs:List V}(h:de o=some xs):o=some (.list xs):=by
 induction o with
 | none=>exact noE h
 | some o=>induction o<;>first | exact noE h | exact okE (P:=fun ys=>_=some (AO.list ys)) h rfl
theorem ci{o:Option AO}{xs:List (Str×V)}(h:lC o=some xs):o=some (.dict xs):=by
 induction o with
 | none=>exact noE h
 | some o=>induction o<;>first | exact noE h | exact okE (P:=fun ys=>_=some (AO.dict ys)) h rfl
theorem hX{o:Option AO}{xs:List (Int×V)}(h:yL o=some xs):o=some (.idict xs):=by
 induction o with
 | none=>exact noE h
 | some o=>induction o<;>first | exact noE h | exact okE (P:=fun ys=>_=some (AO.idict ys)) h rfl
noncomputable abbrev Ids:=Nat→Addr
structure Cx where
 prog:Program
 w:World
 h₀:Heap
 K:Frag
noncomputable abbrev Cx.P (c:Cx):Params:=c.w.params
noncomputable abbrev bJ (items:Array Value) (k:Nat):Obj:={cls:=.type "tuple",dict:=none,data:=.seq items k,slots:= #[]}
noncomputable abbrev bG (items:Array Value) (k:Nat):Obj:={cls:=.type "list",dict:=none,data:=.seq items k,slots:= #[]}
mutual
noncomputable def VR (n:Nat) (ρ:Ids) (h:Heap):V→Value→Prop
 | .none,x=>x=.none
 | .bool b,x=>x=.bool b
 | .int i,x=> ∃t,x=.int i t
 | .str l,x=> ∃t,x=.str ⟨l.toArray⟩ t
 | .ref i,x=>i<n∧x=.ref (ρ i)
 | .old a,x=>x=.ref a
 | .bi s,x=>x=.builtin s.name
 | .ty s,x=>x=.type s.name
 | .meth f i,x=>i<n∧ ∃a,x=.ref a∧h.get? a=some (methodObj (.ref f) (.ref (ρ i)))∧ ∀j,j<n→ρ j≠a
 | .tup l,x=> ∃a items k,x=.ref a∧h.get? a=some (bJ items k)∧(∀j,j<n→ρ j≠a)∧VRs n ρ h l items.toList
noncomputable def VRs (n:Nat) (ρ:Ids) (h:Heap):List V→List Value→Prop
 | [],ys=>ys=[]
 | v::vs,ys=> ∃x xs,ys=x::xs∧VR n ρ h v x∧VRs n ρ h vs xs
end
theorem vrS{n:Nat}{ρ:Ids}{h:Heap}{l:List Nat}{t:Tok}:VR n ρ h (.str l) (.str ⟨l.toArray⟩ t):=Ee t rfl
theorem vrI{n:Nat}{ρ:Ids}{h:Heap}{i:Int}{t:Tok}:VR n ρ h (.int i) (.int i t):=Ee t rfl
theorem vrR{n:Nat}{ρ:Ids}{h:Heap}{i:Nat}(hi:i<n):VR n ρ h (.ref i) (.ref (ρ i)):=And.intro hi rfl
theorem u5{n:Nat}{ρ:Ids}{h:Heap}{v:V}{x:Value}(r:VR n ρ h v x):VRs n ρ h [v] [x]:=Ee x (Ee [] (And.intro rfl (And.intro r rfl)))
noncomputable def PRs {κ:Type} (n:Nat) (ρ:Ids) (h:Heap):List (κ×V)→List (κ×Value)→Prop
 | [],ys=>ys=[]
 | (k,v)::vs,ys=> ∃x xs,ys=(k,x)::xs∧VR n ρ h v x∧PRs n ρ h vs xs
theorem ix{κ:Type}{n:Nat}{ρ:Ids}{h:Heap}:PRs (κ:=κ) n ρ h [] []:=rfl
noncomputable def jk (n:Nat) (ρ:Ids) (h:Heap) (m:List (Str×V)) (mm:Str→Option Value):Prop:=
 ∀x v,m.lookup x=some v→ ∃y,mm x=some y∧VR n ρ h v y
noncomputable def OR (cx:Cx) (n:Nat) (ρ:Ids) (h:Heap) (a:Addr):AO→Prop
 | .fr m=> ∃mm,h.Ns a mm∧jk n ρ h m mm
 | .cell (some v)=> ∃x,h.IsCell a (some x)∧VR n ρ h v x
 | .cell none=>h.IsCell a none
 | .inst C k=>k<n∧h.get? a=some (instObj C (ρ k))
 | .cinst C kvs=> ∃d ps,h.get? a=some (instObj C d)∧h.DictOf (strKind cx.prog cx.w) d ps∧PRs n ρ h kvs ps∧(∀j,j<n→ρ j≠d)∧ ∃o,cx.h₀.get? d=some o
 | .list xs=> ∃items k,h.get? a=some (bG items k)∧VRs n ρ h xs items.toList
 | .dict kvs=> ∃ps,h.DictOf (strKind cx.prog cx.w) a ps∧PRs n ρ h kvs ps
 | .idict kvs=> ∃ps,h.DictOf (intKind cx.prog cx.w) a ps∧PRs n ρ h kvs ps
 | .tupl xs=> ∃items k,h.get? a=some (bJ items k)∧VRs n ρ h xs items.toList
 | .strm f p r q ks=> ∃S,SI S (p.reverse++r) r q∧ ∃ps,h.DictOf (strKind cx.prog cx.w) a ps∧PRs n ρ h (cA f S ks) ps
 | .src=> ∃t,t.length≤1000∧ ∃ps,h.DictOf (strKind cx.prog cx.w) a ps∧PRs n ρ h (qt t) ps
section
variable{cx:Cx}{n:Nat}{ρ:Ids}{h:Heap}{a:Addr}{P:Prop}
theorem OR.listK{xs:List V}(r:OR cx n ρ h a (.list xs))(k: ∀items k,h.get? a=some (bG items k)→VRs n ρ h xs items.toList→P):P:=by
 obtain⟨i,j,g,v⟩:=r;exact k i j g v
theorem OR.tuplK{xs:List V}(r:OR cx n ρ h a (.tupl xs))(k: ∀items k,h.get? a=some (bJ items k)→VRs n ρ h xs items.toList→P):P:=by
 obtain⟨i,j,g,v⟩:=r;exact k i j g v
theorem OR.dictK{xs:List (Str×V)}(r:OR cx n ρ h a (.dict xs))(k: ∀ps,h.DictOf (strKind cx.prog cx.w) a ps→PRs n ρ h xs ps→P):P:=by
 obtain⟨i,g,v⟩:=r;exact k i g v
theorem OR.idictK{xs:List (Int×V)}(r:OR cx n ρ h a (.idict xs))(k: ∀ps,h.DictOf (intKind cx.prog cx.w) a ps→PRs n ρ h xs ps→P):P:=by
 obtain⟨i,g,v⟩:=r;exact k i g v
theorem OR.frK{m:List (Str×V)}(r:OR cx n ρ h a (.fr m))(k: ∀mm,h.Ns a mm→jk n ρ h m mm→P):P:=by
 obtain⟨i,g,v⟩:=r;exact k i g v
theorem OR.cinstK{C:Addr}{kvs:List (Str×V)}(r:OR cx n ρ h a (.cinst C kvs))(k: ∀d ps,h.get? a=some (instObj C d)→h.DictOf (strKind cx.prog cx.w) d ps→PRs n ρ h kvs ps→(∀j,j<n→ρ j≠d)→(∃o,cx.h₀.get? d=some o)→P):P:=by
 obtain⟨d,ps,h1,h2,h3,h4,h5⟩:=r;exact k d ps h1 h2 h3 h4 h5
theorem OR.strmK{f:Addr}{p r:List Nat}{q:Bool}{ks:List Nat}(o:OR cx n ρ h a (.strm f p r q ks))(k: ∀S ps,SI S (p.reverse++r) r q→h.DictOf (strKind cx.prog cx.w) a ps→PRs n ρ h (cA f S ks) ps→P):P:=by
 obtain⟨S,si,ps,h1,h2⟩:=o;exact k S ps si h1 h2
theorem OR.cellK{v:V}(r:OR cx n ρ h a (.cell (some v)))(k: ∀x,h.IsCell a (some x)→VR n ρ h v x→P):P:=by
 obtain⟨i,g,v⟩:=r;exact k i g v
end
structure Sat(cx:Cx)(σ:List AO)(ρ:Ids)(h:Heap):Prop where
 inj: ∀i j,i<σ.length→j<σ.length→ρ i=ρ j→i=j
 own: ∀i,i<σ.length→cx.h₀.get? (ρ i)=none
 live: ∀i,i<σ.length→ ∃o,h.get? (ρ i)=some o
 keep: ∀a o,cx.h₀.get? a=some o→h.get? a=some o
 obj: ∀i o,σ[i]?=some o→OR cx σ.length ρ h (ρ i) o
structure Ext(n:Nat)(ρ:Ids)(h:Heap)(n':Nat)(ρ':Ids)(h':Heap):Prop where
 le:n≤n'
 same: ∀i,i<n→ρ' i=ρ i
 fresh: ∀i,n≤i→i<n'→h.get? (ρ' i)=none
 keep: ∀a o,h.get? a=some o→(∀i,i<n→ρ i≠a)→h'.get? a=some o
theorem Ext.refl(n:Nat)(ρ:Ids)(h:Heap):Ext n ρ h n ρ h:=⟨DQ _,fun _ _=>rfl,fun i h1 h2=>absurd h2 (Fc.mpr h1),fun _ _ e _=>e⟩
theorem Ext.trans{n ρ h n' ρ' h' n'' ρ'' h''}(x:Ext n ρ h n' ρ' h')(y:Ext n' ρ' h' n'' ρ'' h'')(live: ∀i,i<n'→ ∃o,h'.get? (ρ' i)=some o):
  Ext n ρ h n'' ρ'' h'':=by
 refine⟨kV x.le y.le,fun i hi=>?_,fun i h1 h2=>?_,fun a o e ha=>?_⟩
 ·exact rK (y.same i (DR hi x.le) ..) (rK (x.same i hi ..) rfl)
 ·by_cases hi:i<n'
  ·refine rK (y.same i hi ..) ?_;exact x.fresh i h1 hi
  ·have hf:=y.fresh i (D7 hi) h2
   induction q:h.get? (ρ'' i)with
   | none=>rfl
   | some o=>
    exfalso
    by_cases hx: ∃j,j<n∧ρ j=ρ'' i
    ·refine o12 hx fun j hj ej=>?_
     refine o11 (live j (DR hj x.le)) fun o' ho'=>?_
     replace ho':=(hf ..)▸((ej ..)▸((x.same j hj ..)▸ho'))
     cases ho'
    ·have:=x.keep _ o q fun j hj ej=>hx ⟨j,hj,ej⟩
     replace this:=(hf ..)▸this;cases this
 ·refine y.keep a o (x.keep a o e ha) fun i hi ei=>?_
  by_cases hin:i<n
  ·exact ha i hin (by rw[←x.same i hin];exact ei)
  ·have:=x.fresh i (D7 hin) hi
   replace this:=(e ..)▸((ei ..)▸this);cases this
theorem VRs.k1{n:Nat}{ρ:Ids}{h:Heap}{v:V}{l:List V}{xs:List Value}{P:List Value→Prop}(e:VRs n ρ h (v::l) xs)(k: ∀x xs,VR n ρ h v x→VRs n ρ h l xs→P (x::xs)):P xs:=by
 obtain⟨x,xs',q,h1,h2⟩:=e;exact Eh q▸k x xs' h1 h2
theorem VRs.k0{n:Nat}{ρ:Ids}{h:Heap}{xs:List Value}{P:List Value→Prop}(e:VRs n ρ h [] xs)(k:P []):P xs:=Eh (e:xs=[])▸k
theorem bX{n:Nat}{ρ:Ids}{h:Heap}{v:V}{x:Value}{α:Type}{fn:Option α}{fb fi fs}{r:α}{P:V→Value→Prop}(hv:VR n ρ h v x)(e:v.at4 fn fb fi fs none=some r)
  (kn:fn=some r→P .none .none) (kb: ∀b,fb b=some r→P (.bool b) (.bool b)) (ki: ∀i t,fi i=some r→P (.int i) (.int i t)) (ks: ∀l t,fs l=some r→P (.str l) (.str ⟨l.toArray⟩ t)):P v x:=by
 cases v with
 | none=>exact Eh (hv:x=_)▸kn e
 | bool b=>exact Eh (hv:x=_)▸kb b e
 | int i=>exact let ⟨t,q⟩:=hv;Eh (q:x=_)▸ki i t e
 | str l=>exact let ⟨t,q⟩:=hv;Eh (q:x=_)▸ks l t e
 | _=>exact noE e
theorem gY{v:V}{α:Type}{fr fo ft}{r:α}{P:V→Prop}(e:v.at3 fr fo ft none=some r)(kr: ∀i,fr i=some r→P (.ref i))(ko: ∀a,fo a=some r→P (.old a))(kt: ∀l,ft l=some r→P (.tup l)):P v:=by
 cases v with
 | ref i=>exact kr i e
 | old i=>exact ko i e
 | tup i=>exact kt i e
 | _=>exact noE e
theorem uU{v:V}{α:Type}{fn:Option α}{fb fi fs}{r:α}{P:V→Prop}(e:v.at4 fn fb fi fs none=some r)
  (kn:fn=some r→P .none) (kb: ∀b,fb b=some r→P (.bool b)) (ki: ∀i,fi i=some r→P (.int i)) (ks: ∀l,fs l=some r→P (.str l)):P v:=by
 cases v with
 | none=>exact kn e
 | bool b=>exact kb b e
 | int i=>exact ki i e
 | str l=>exact ks l e
 | _=>exact noE e
theorem fz{v:V}{l:List Nat}(e:bc v=some l):v=.str l:=uU (P:=fun v=>v=.str l) e noE (fun _=>noE) (fun _=>noE) fun _ q=>okE (P:=fun a=>V.str _=.str a) q rfl
theorem r8{v:V}{i:Int}(e:cj v=some i):v=.int i:=uU (P:=fun v=>v=.int i) e noE (fun _=>noE) (fun _ q=>okE (P:=fun a=>V.int _=.int a) q rfl) fun _=>noE
theorem lP{v:V}{n:Nat}(e:eT v=some n):v=.int (.ofNat n):=uU (P:=fun v=>v=.int (.ofNat n)) e noE (fun _=>noE) (fun i q=>by
 induction i with
 | ofNat m=>exact okE (P:=fun a=>V.int (.ofNat m)=.int (.ofNat a)) q rfl
 | negSucc _=>exact noE q) fun _=>noE
theorem dN{v:V}{i:Nat}(e:bC v=some i):v=.ref i:=gY (P:=fun v=>v=.ref i) e (fun _ q=>okE (P:=fun a=>V.ref _=.ref a) q rfl) (fun _=>noE) fun _=>noE
theorem lO{v:V}{i:List V}(e:rX v=some i):v=.tup i:=gY (P:=fun v=>v=.tup i) e (fun _=>noE) (fun _=>noE) fun _ q=>okE (P:=fun a=>V.tup _=.tup a) q rfl
theorem rZ{v:V}{i:Addr}(e:xk v=some i):v=.old i:=gY (P:=fun v=>v=.old i) e (fun _=>noE) (fun _ q=>okE (P:=fun a=>V.old _=.old a) q rfl) fun _=>noE
section
variable{n:Nat}{ρ:Ids}{h:Heap}{v:V}{x:Value}
theorem cK{P:Value→Prop}{l:List Nat}(hv:VR n ρ h v x)(e:bc v=some l)(k: ∀t,P (.str ⟨l.toArray⟩ t)):P x:=by
 rw[fz e]at hv;exact let ⟨t,q⟩:=hv;Eh (q:x=_)▸k t
theorem gJ{P:Value→Prop}{i:Int}(hv:VR n ρ h v x)(e:cj v=some i)(k: ∀t,P (.int i t)):P x:=by
 rw[r8 e]at hv;exact let ⟨t,q⟩:=hv;Eh (q:x=_)▸k t
theorem r0{P:Value→Prop}{i:Nat}(hv:VR n ρ h v x)(e:eT v=some i)(k: ∀t,P (.int (.ofNat i) t)):P x:=by
 rw[lP e]at hv;exact let ⟨t,q⟩:=hv;Eh (q:x=_)▸k t
theorem eS{P:Value→Prop}{i:Nat}(hv:VR n ρ h v x)(e:bC v=some i)(k:i<n→P (.ref (ρ i))):P x:=by
 rw[dN e]at hv;exact let ⟨t,q⟩:=hv;Eh (q:x=_)▸k t
theorem p8{α:Type}{fr fo ft}{r:α}(hv:VR n ρ h v x)(e:v.at3 fr fo ft none=some r): ∃a,x=.ref a:=
 gY (P:=fun v=>VR n ρ h v x→ ∃a,x=.ref a) e (fun _ _ hv=>⟨_,hv.2⟩) (fun _ _ hv=>⟨_,hv⟩) (fun _ _ hv=>let ⟨a,_,_,q,_⟩:=hv;⟨a,q⟩) hv
end
theorem VR.tupK{n:Nat}{ρ:Ids}{h:Heap}{l:List V}{x:Value}{P:Value→Prop}(r:VR n ρ h (.tup l) x)(k: ∀a items m,h.get? a=some (bJ items m)→(∀j,j<n→ρ j≠a)→VRs n ρ h l items.toList→P (.ref a)):P x:=by
 refine o34 r fun a i m q g d v=>?_
 exact Eh q▸k a i m g d v
theorem Ext.apart{n ρ h n' ρ' h'}(x:Ext n ρ h n' ρ' h'){d:Addr}{o:Obj}(ho:h.get? d=some o)(hd: ∀j,j<n→ρ j≠d): ∀j,j<n'→ρ' j≠d:=fun j hj ej=>by
 by_cases hn:j<n
 ·exact hd j hn ((x.same j hn).symm.trans ej)
 ·have:=x.fresh j (D7 hn) hj
  replace this:=(ho ..)▸((ej ..)▸this);exact noE this.symm
mutual
theorem VR.ext{n ρ h n' ρ' h'}(x:Ext n ρ h n' ρ' h'): ∀(v:V) (y:Value),VR n ρ h v y→VR n' ρ' h' v y
 | .none,_,e=>e
 | .bool _,_,e=>e
 | .int _,_,e=>e
 | .str _,_,e=>e
 | .ref i,_,e=>⟨DR e.1 x.le,(x.same i e.1).symm▸e.2⟩
 | .old _,_,e=>e
 | .bi _,_,e=>e
 | .ty _,_,e=>e
 | .meth f i,_,e=>⟨DR e.1 x.le,e.2.imp fun _ r=>⟨r.1,(x.same i e.1).symm▸x.keep _ _ r.2.1 r.2.2,x.apart r.2.1 r.2.2⟩⟩
 | .tup l,_,e=>e.tupK (P:=VR n' ρ' h' (.tup l)) fun a i m g d v=>⟨a,i,m,rfl,x.keep _ _ g d,x.apart g d,VRs.ext x l _ v⟩
theorem VRs.ext{n ρ h n' ρ' h'}(x:Ext n ρ h n' ρ' h'): ∀(l:List V) (ys:List Value),VRs n ρ h l ys→VRs n' ρ' h' l ys
 | [],_,e=>e
 | v::vs,_,e=>e.k1 (P:=VRs n' ρ' h' (v::vs)) fun y ys h1 h2=>⟨y,ys,rfl,VR.ext x v y h1,VRs.ext x vs ys h2⟩
end
theorem PRs.k1{κ:Type}{n:Nat}{ρ:Ids}{h:Heap}{k:κ}{v:V}{l:List (κ×V)}{xs:List (κ×Value)}{P:List (κ×Value)→Prop}(e:PRs n ρ h ((k,v)::l) xs)(c: ∀x xs,VR n ρ h v x→PRs n ρ h l xs→P ((k,x)::xs)):P xs:=by
 obtain⟨x,xs',q,h1,h2⟩:=e;exact Eh q▸c x xs' h1 h2
theorem PRs.k0{κ:Type}{n:Nat}{ρ:Ids}{h:Heap}{xs:List (κ×Value)}{P:List (κ×Value)→Prop}(e:PRs n ρ h [] xs)(k:P []):P xs:=Eh (e:xs=[])▸k
theorem PRs.ext{κ:Type}{n ρ h n' ρ' h'}(x:Ext n ρ h n' ρ' h'): ∀(l:List (κ×V)) (ys:List (κ×Value)),PRs n ρ h l ys→PRs n' ρ' h' l ys
 | [],_,e=>e
 | (k,v)::vs,_,e=>e.k1 (P:=PRs n' ρ' h' ((k,v)::vs)) fun y ys h1 h2=>⟨y,ys,rfl,VR.ext x v y h1,PRs.ext x vs ys h2⟩
theorem jk.ext{n ρ h n' ρ' h'}(x:Ext n ρ h n' ρ' h'){m mm}(f:jk n ρ h m mm):jk n' ρ' h' m mm:=fun y v e=>by
 refine o12 (f y v e) fun z h1 h2=>?_
 exact⟨z,h1,VR.ext x v z h2⟩
theorem eo{κ:Type}[DecidableEq κ]{prog:Program}{w:World}{K:PySem.KeyKind prog w κ}{h h':Heap}{a:Addr}{ps:List (κ×Value)}(g:h.DictOf K a ps)(ha: ∀o,h.get? a=some o→h'.get? a=some o):h'.DictOf K a ps:=by
 obtain⟨o,es,ep,ho,r⟩:=g;exact⟨o,es,ep,ha _ ho,r⟩
theorem yr{h h':Heap}{a:Addr}{mm:Str→Option Value}(g:h.Ns a mm)(ha: ∀o,h.get? a=some o→h'.get? a=some o):h'.Ns a mm:=by
 obtain⟨o,es,ep,ho,r⟩:=g;exact⟨o,es,ep,ha _ ho,r⟩
theorem nj{h h':Heap}{a:Addr}{v:Option Value}(g:h.IsCell a v)(ha: ∀o,h.get? a=some o→h'.get? a=some o):h'.IsCell a v:=by
 obtain⟨o,ho,r⟩:=g;exact⟨o,ha _ ho,r⟩
theorem OR.ext{cx n ρ h n' ρ' h' a}(x:Ext n ρ h n' ρ' h')(ha: ∀o,h.get? a=some o→h'.get? a=some o)(o:AO)(e:OR cx n ρ h a o):OR cx n' ρ' h' a o:=by
 induction o with
 | fr m=>exact e.frK fun mm g f=>⟨mm,yr g ha,f.ext x⟩
 | cell v=>induction v with
  | none=>exact nj e ha
  | some v=>exact e.cellK fun y g r=>⟨y,nj g ha,VR.ext x _ _ r⟩
 | cinst C kvs=>
  exact e.cinstK fun d ps h1 g h2 hd h0=>⟨d,ps,ha _ h1,eo g fun o q=>x.keep _ o q hd,PRs.ext x _ _ h2,g.elim fun o ⟨_,_,ho,_⟩=>x.apart ho hd,h0⟩
 | inst C k=>exact⟨DR e.1 x.le,(x.same k e.1).symm▸ha _ e.2⟩
 | list xs=>exact e.listK fun i k g v=>⟨i,k,ha _ g,VRs.ext x _ _ v⟩
 | tupl xs=>exact e.tuplK fun i k g v=>⟨i,k,ha _ g,VRs.ext x _ _ v⟩
 | dict kvs=>exact e.dictK fun ps g v=>⟨ps,eo g ha,PRs.ext x _ _ v⟩
 | idict kvs=>exact e.idictK fun ps g v=>⟨ps,eo g ha,PRs.ext x _ _ v⟩
 | strm f m r q ks=>exact e.strmK fun S ps si g v=>⟨S,si,ps,eo g ha,PRs.ext x _ _ v⟩
 | src=>exact e.imp fun t ⟨ht,ps,g,v⟩=>⟨ht,ps,eo g ha,PRs.ext x _ _ v⟩
theorem Sat.grow{cx σ ρ h h'}(S:Sat cx σ ρ h)(k: ∀a o,h.get? a=some o→h'.get? a=some o):Sat cx σ ρ h'∧Ext σ.length ρ h σ.length ρ h':=by
 have x:Ext σ.length ρ h σ.length ρ h':=⟨DQ _,fun _ _=>rfl,fun i h1 h2=>absurd h2 (Fc.mpr h1),fun a o e _=>k a o e⟩
 refine⟨⟨S.inj,S.own,fun i hi=>?_,fun a o e=>k a o (S.keep a o e),fun i o e=>OR.ext x (k _) _ (S.obj i o e)⟩,x⟩
 refine o11 (S.live i hi) fun o ho=>?_
 exact⟨o,k _ _ ho⟩
noncomputable def put (ρ:Ids) (n:Nat) (a:Addr):Ids:=fun i=>if i=n then a else ρ i
theorem cn{ρ:Ids}{n:Nat}{a:Addr}:put ρ n a n=a:=by simp[put]
theorem dU{ρ:Ids}{n i:Nat}{a:Addr}(h:i<n):put ρ n a i=ρ i:=by simp[put,F5 h]
theorem iI{σ:List AO}{o:AO}{i:Nat}(h:i<(σ++[o]).length):i<σ.length∨i=σ.length:=Nat.lt_succ_iff_lt_or_eq.mp (by rwa[pm]at h)
theorem Sat.new{cx σ ρ h h'}(S:Sat cx σ ρ h){a:Addr}{o:AO}(hn:h.get? a=none)(k: ∀b ob,h.get? b=some ob→h'.get? b=some ob)(hl: ∃ob,h'.get? a=some ob)
  (ho: ∀ρ',Ext σ.length ρ h (σ.length+1) ρ' h'→ρ' σ.length=a→OR cx (σ.length+1) ρ' h' a o):
  ∃ρ',ρ'=put ρ σ.length a∧Sat cx (σ++[o]) ρ' h'∧Ext σ.length ρ h (σ.length+1) ρ' h':=by
 have x:Ext σ.length ρ h (σ.length+1) (put ρ σ.length a) h':=⟨GB _,fun i hi=>dU hi,fun i h1 h2=>by
  refine rK (Fg (ER h2) h1 ..) (rK (cn ..) ?_);exact hn,fun b ob e _=>k b ob e⟩
 have ne: ∀i,i<σ.length→ρ i≠a:=fun i hi e=>by
  refine o11 (S.live i hi) fun ob q=>?_
  replace q:=(hn ..)▸((e ..)▸q);exact noE q
 have all: ∀{P:Addr→Prop},P a→(∀i,i<σ.length→P (ρ i))→ ∀i,i<(σ++[o]).length→P (put ρ σ.length a i):=fun p0 p i hi=>
  (iI hi).elim (fun q=>(dU q).symm▸p i q) fun q=>by refine rK (q ..) (rK (cn ..) ?_);exact p0
 refine⟨_,rfl,⟨fun i j hi hj e=>?_,all (P:=fun a=>cx.h₀.get? a=none) ?_ S.own,all (P:=fun a=> ∃o,h'.get? a=some o) hl fun i hi=>(S.live i hi).imp fun _=>k _ _,fun b ob e=>k _ _ (S.keep b ob e),fun i ob e=>?_⟩,x⟩
 ·refine(iI hi).elim (fun h1=>(iI hj).elim (fun h2=>?_) fun h2=>?_) fun h1=>(iI hj).elim (fun h2=>?_) fun h2=>h1.trans h2.symm
  ·replace e:=(dU h2 ..)▸((dU h1 ..)▸e);exact S.inj i j h1 h2 e
  ·replace e:=(cn ..)▸((h2 ..)▸((dU h1 ..)▸e));exact absurd e (ne i h1)
  ·replace e:=(dU h2 ..)▸((cn ..)▸((h1 ..)▸e));exact absurd e.symm (ne j h2)
 ·induction q:cx.h₀.get? a with
  | none=>rfl
  | some ob=>exact noE (hn.symm.trans (S.keep _ _ q))
 ·refine rK (pm ..) ?_
  refine(iI (DT.mp e).1).elim (fun hi=>?_) fun hi=>?_
  ·replace e:=(E8 hi ..)▸e
   refine rK (dU hi ..) ?_
   exact OR.ext x (k _) _ (S.obj i ob e)
  ·replace e:=(FO ..)▸((EW (DQ _) ..)▸((hi ..)▸e))
   refine rK (hi ..) (rK (cn ..) ?_)
   exact okE (P:=OR cx _ _ _ _) e (ho _ x cn)
theorem Sat.set{cx σ ρ h h'}(S:Sat cx σ ρ h){i:Nat}{o:AO}(hi:i<σ.length)(hs: ∀b,b≠ρ i→h'.get? b=h.get? b)(hl: ∃ob,h'.get? (ρ i)=some ob)
  (ho:Ext σ.length ρ h σ.length ρ h'→OR cx σ.length ρ h' (ρ i) o):
  Sat cx (σ.set i o) ρ h'∧Ext σ.length ρ h σ.length ρ h':=by
 have x:Ext σ.length ρ h σ.length ρ h':=⟨DQ _,fun _ _=>rfl,fun i h1 h2=>absurd h2 (Fc.mpr h1),fun a ob e ha=>(hs a fun q=>ha i hi q.symm).trans e⟩
 have le:(σ.set i o).length=σ.length:=DP
 have ne: ∀{a},a<σ.length→a≠i→h'.get? (ρ a)=h.get? (ρ a):=fun ha q=>hs _ fun e=>q (S.inj _ _ ha hi e)
 refine⟨⟨fun a b ha hb=>S.inj a b (le▸ha) (le▸hb),fun a ha=>S.own a (le▸ha),fun a ha=>?_,fun a ob e=>(hs a fun q=>noE ((S.own i hi).symm.trans (q▸e))).trans (S.keep a ob e),fun j ob e=>?_⟩,x⟩
 ·by_cases q:a=i
  ·exact q▸hl
  ·refine rK (ne (le▸ha) q ..) ?_;exact S.live a (le▸ha)
 ·refine rK (le ..) ?_
  replace e:=(Fd ..)▸e
  by_cases q:i=j
  ·replace e:=(if_pos hi ..)▸((if_pos q ..)▸e)
   exact q▸okE (P:=OR cx _ _ _ _) e (ho x)
  ·replace e:=(if_neg q ..)▸e
   exact OR.ext x (fun ob q'=>(ne (DT.mp e).1 fun e'=>q e'.symm).trans q') _ (S.obj j ob e)
theorem m0{a b:Nat}(h:a<b):decide (dV a<dV b)=true:=decide_eq_true (FP.mpr h)
theorem eQ{a b:Nat}(h:b≤a):decide (dV a<dV b)=false:=decide_eq_false fun q=>Fc.mpr h (FP.mp q)
theorem dle{a b:Nat}(h:a≤b):decide (dV a≤dV b)=true:=decide_eq_true (Gm.mpr h)
theorem cu{a b:Nat}(h:b<a):decide (dV a≤dV b)=false:=decide_eq_false fun q=>FE.mpr h (Gm.mp q)
theorem oa{a b:Nat}(h:a=b):decide (dV a=dV b)=true:=decide_eq_true (congrArg dV h)
theorem eP{a b:Nat}(h:a≠b):decide (dV a=dV b)=false:=decide_eq_false fun q=>h (FX q)
theorem vY{b:Bool}(h:b=false):(!b)=true:=h▸rfl
theorem mA{b:Bool}(h:b=true):(!b)=false:=h▸rfl
section
open Builtin Builtin.Str
noncomputable def countIn (x y:List Nat) (a b:Nat):Nat:=(occurrences ⟨x.toArray⟩ ⟨y.toArray⟩ a (min b x.length) (x.length+1)).length
noncomputable def bF (x y:List Nat) (a b:Nat):Int:=match lastOccurrence ⟨x.toArray⟩ ⟨y.toArray⟩ a (min b x.length)with
 | some i=>(i:Int)
 | none=> -1
theorem hV(a:Nat)(n:Int):(max 0 (if(dV a)<0 then(dV a)+n else(dV a))).toNat=a:=by
 refine rK (if_neg (show¬dV a<0 from F9.mpr (Fy a)) ..) (rK (Int.max_eq_right (show 0≤dV a from Fy a) ..) ?_)
 rfl
theorem ly(x y:Str)(a b:Nat)(t u v w:Tok):Gives («str.count» ⟨[.str x t,.str y u,.int (dV a) v,.int (dV b) w],[]⟩) (.int (occurrences x y a (min b x.length) (x.length+1)).length):=by
 show Gives (retInt (occurrences x y (max 0 (if(dV a)<0 then(dV a)+x.length else(dV a))).toNat (min (max 0 (if(dV b)<0 then(dV b)+x.length else(dV b))).toNat x.length) (x.length+1)).length) _
 refine rK (hV ..) (rK (hV ..) ?_)
 exact .of_eq rfl
theorem lw(x y:Str)(a b:Nat)(t u v w:Tok):Gives («str.rfind» ⟨[.str x t,.str y u,.int (dV a) v,.int (dV b) w],[]⟩) (.int (match lastOccurrence x y a (min b x.length)with | some i=>(i:Int) | none=> -1)):=by
 show Gives (match lastOccurrence x y (max 0 (if(dV a)<0 then(dV a)+x.length else(dV a))).toNat (min (max 0 (if(dV b)<0 then(dV b)+x.length else(dV b))).toNat x.length)with | some i=>retInt i | none=>(do rule "str.rfind.not-found";retInt (-1))) _
 refine rK (hV ..) (rK (hV ..) ?_)
 induction lastOccurrence x y a (min b x.length)with
 | none=>exact .rule (.of_eq rfl)
 | some i=>exact .of_eq rfl
section
variable{prog:Program}{w:World}{A:Around}{E:Value→Shared→Prop}{s:Shared}{Q:Value→Shared→Prop}
theorem np{x y:List Nat}{a b:Nat}{t u v z:Tok}(h:Q (.int (countIn x y a b) s.toks) {s with toks:=s.toks+1}):wpAny (model prog w) A (call (.builtin "str.count") [.str ⟨x.toArray⟩ t,.str ⟨y.toArray⟩ u,.int (dV a) v,.int (dV b) z]) Q E s:=
 call_gives F.slot_str_count (typeIs_str _ _ _) F.entry_str_count (F.args_str_count_4 _ _ _ _) (ly _ _ a b t u v z) (show(Made.int _).post _ s from(by
  have e:(⟨x.toArray⟩:Str).length=x.length:=by simp[Str.length]
  refine rK (e ..) ?_;exact h))
theorem nl{x y:List Nat}{a b:Nat}{t u v z:Tok}(h:Q (.int (bF x y a b) s.toks) {s with toks:=s.toks+1}):wpAny (model prog w) A (call (.builtin "str.rfind") [.str ⟨x.toArray⟩ t,.str ⟨y.toArray⟩ u,.int (dV a) v,.int (dV b) z]) Q E s:=
 call_gives F.slot_str_rfind (typeIs_str _ _ _) F.entry_str_rfind (F.args_str_rfind_4 _ _ _ _) (lw _ _ a b t u v z) (show(Made.int _).post _ s from(by
  have e:(⟨x.toArray⟩:Str).length=x.length:=by simp[Str.length]
  refine rK (e ..) ?_;exact h))
noncomputable def b9 (c:Nat):Nat:=if c≤57 then c-48 else if 97≤c then c-87 else c-55
noncomputable def bz (base c:Nat):Bool:=(Ex 48 c&&Ex c 57&&EH (c-48) base) || (Ex 97 c&&Ex c 122&&EH (c-87) base) || (Ex 65 c&&Ex c 90&&EH (c-55) base)
noncomputable def aH (base n:Nat) (l:List Nat):Nat:=l.foldl (fun n c=>n*base+b9 c) n
end
open Builtin Builtin.Str PySem.NumText
theorem rA{b c:Nat}(h:bz b c=true):(48≤c∧c≤57)∨(97≤c∧c≤122)∨(65≤c∧c≤90):=
 (Ei.mp h).elim (fun h=>(Ei.mp h).elim (fun h=>aO h fun h _=>aO h fun h1 h2=> .inl ⟨El h1,El h2⟩) fun h=>aO h fun h _=>aO h fun h1 h2=> .inr (.inl ⟨El h1,El h2⟩)) fun h=>aO h fun h _=>aO h fun h1 h2=> .inr (.inr ⟨El h1,El h2⟩)
theorem um{b c:Nat}(h:bz b c=true):c<128:=(rA h).elim (fun h=>DY h.2 (by decide)) fun h=>h.elim (fun h=>DY h.2 (by decide)) fun h=>DY h.2 (by decide)
theorem ca{base c:Nat}(hb:base≤16)(h:bz base c=true):NumText.digit? c=some (b9 c)∧b9 c<base∧blank c=false∧c≠45∧c≠43∧c≠95∧c≠0∧c<128∧c≠120∧c≠88:=
 have key: ∀b:Fin 17,∀c:Fin 128,bz b.1 c.1=false∨(NumText.digit? c.1=some (b9 c.1)∧b9 c.1<b.1∧blank c.1=false∧c.1≠45∧c.1≠43∧c.1≠95∧c.1≠0∧c.1<128∧c.1≠120∧c.1≠88):=by decide+kernel
 (key ⟨base,EL hb⟩ ⟨c,um h⟩).elim (fun q=>absurd (h.symm.trans q) Eg) id
theorem dropWhile_none{p:Nat→Bool}: ∀{l:List Nat},(∀c∈l,p c=false)→l.dropWhile p=l
 | [],_=>rfl
 | c::l,h=>by refine rK (FZ ..) (rK (h c (wj ..) ..) ?_);rfl
theorem takeWhile_all{p:Nat→Bool}: ∀{l:List Nat},(∀c∈l,p c=true)→l.takeWhile p=l
 | [],_=>rfl
 | c::l,h=>by refine rK (Ed ..) (rK (h c (wj ..) ..) ?_);simp only[if_true];exact rK (takeWhile_all fun d hd=>h d (DJ _ hd) ..) rfl
theorem m5{base c:Nat}(hb:base≤16)(h:bz base c=true)(ds:Array Nat)(q:Bool):NumText.step base (ds,q) c=some (ds.push (b9 c),true):=by
 refine o07 (ca hb h) fun h1 h2 _ _ _ h6 _=>?_
 unfold NumText.step
 refine rK (if_neg (by simp[h6]) ..) (rK (h1 ..) ?_)
 simp[h2]
theorem rz{base:Nat}(hb:base≤16)(l:List Nat): ∀(ds:Array Nat),(∀c∈l,bz base c=true)→l.foldlM (NumText.step base) (ds,true)=some ((ds.toList++l.map b9).toArray,true):=by
 induction l with
 | nil=>intro ds _;simp
 | cons c l ih=>
  intro ds h
  refine rK (List.foldlM_cons ..) (rK (m5 hb (h c (by simp)) ds true ..) ?_)
  have:=ih (ds.push (b9 c)) fun d hd=>h d (DJ _ hd)
  simp only[Option.bind_eq_bind,Fe]
  refine rK (this ..) ?_
  simp
theorem nz(base:Nat)(l:List Nat)(n:Nat):(l.map b9).foldl (fun acc d=>acc*base+d) n=aH base n l:=List.foldl_map
theorem mq: ∀{l:List Nat},(∀c∈l,c≠120∧c≠88)→prefix? l≠some 16
 | [],_,h=>by cases h
 | [a],_,h=>by
  unfold prefix? at h
  split at h
  ·rename_i e;cases e
  ·cases h
 | a::c::r,hc,h=>by
  have q:=hc c (DJ _ (wj ..))
  unfold prefix? at h
  split at h
  ·rename_i e
   cases e
   rw[if_neg (by rw[beq_eq_false_iff_ne.mpr q.1,beq_eq_false_iff_ne.mpr q.2];exact Ec)]at h
   split at h
   ·cases h
   ·split at h<;>cases h
  ·cases h
theorem uR{b:Nat}(h0:b≠0){t:List Nat}(h:prefix? t≠some b):based b t=(b,false,t):=by
 have e0:(b==0)=false:=beq_eq_false_iff_ne.mpr h0
 unfold based
 refine rK (e0 ..) ?_
 induction e:prefix? t with
 | none=>rfl
 | some p=>
  show(if(b==p)=true then _ else _)=_
  exact if_neg fun q=>h (e.trans (congrArg some (beq_iff_eq.mp q).symm))
theorem ra{b:Nat}{ds:Array Nat}(h:ds.size≤6000):judge 0 false b false (some ds)=(int_private% "Numeral.value") ((ds.foldl (fun acc d=>acc*b+d) 0:Nat):Int):=by
 show(if(_&&false&&_)=true then _ else if(b==10&&decide (ds.size>6000))=true then _ else _)=_
 refine rK (decide_eq_false (Fc.mpr h) ..) (rK (Fp ..) (rK (Fp ..) ?_))
 rfl
theorem ry{base:Nat}(hb:base≤16): ∀{l:List Nat},l≠[]→(∀c∈l,bz base c=true)→digits? base l=some (l.map b9).toArray
 | [],h,_=>absurd rfl h
 | c::r,_,h=>by
  unfold digits?
  refine rK (List.foldlM_cons ..) (rK (m5 hb (h c (wj ..)) #[] false ..) ?_)
  exact congrArg (fun o:Option (Array Nat×Bool)=>o.bind fun p=>if p.2 then some p.1 else none) (rz hb r (#[].push (b9 c)) fun d hd=>h d (DJ _ hd))
theorem nH{base:Nat}(hb:base=10∨base=16){l:List Nat}(hne:l≠[])(h: ∀c∈l,bz base c=true)(hl:l.length≤640):(int_private% "readNumeral") 0 base l=(int_private% "Numeral.value") (aH base 0 l):=by
 have hb':base≤16:=hb.elim (fun e=>e▸(by decide)) fun e=>e▸DQ _
 have hbl: ∀c∈l,blank c=false:=fun c hc=>(ca hb' (h c hc)).2.2.1
 have hs:NumText.sign l=(false,l):=by
  induction l with
  | nil=>exact absurd rfl hne
  | cons c r=>exact sign_of (ca hb' (h c (wj ..))).2.2.2.1 (ca hb' (h c (wj ..))).2.2.2.2.1
 have hd:based base l=(base,false,l):=hb.elim (fun e=>e▸based_ten l) fun e=>e▸uR (by decide) (mq fun c hc=>(ca hb' (h c hc)).2.2.2.2.2.2.2.2)
 refine rK (readNumeral_eq ..) (rK (dropWhile_none hbl ..) (rK (hs ..) (rK (hd ..) ?_)))
 dsimp only
 exact rK (dropWhile_none fun c hc=>hbl c (List.mem_reverse.mp hc) ..) (rK (FU ..) (rK (ry hb' hne h ..) (rK (ra (by rw[EM,D4];exact kV hl (by decide)) ..) (rK (List.foldl_toArray ..) (rK (nz ..) rfl)))))
namespace KI
theorem typeCall_int_2(a b:Value):checkTypeCall "int" ⟨[a,b],[]⟩=pure ():=by kernel_rfl
theorem newCall_int_2(a b:Value):checkBuiltinCall "int.__new__" ⟨[.type "int",a,b],[]⟩=pure ():=by kernel_rfl
theorem args_object_init_3(a b c:Value):argsOk "object.__init__" ⟨[a,b,c],[]⟩:=by
 unfold argsOk;refine rK (signature?_of (id:="object.__init__") (n:=['_','_','t','i','n','i','_','_']) (o:=['t','c','e','j','b','o']) (by kernel_rfl) F.owner_object ..) ?_;kernel_rfl
end KI
open Builtin Builtin.Str PySem.NumText
theorem rV{M:Model}{A:Around}{E:Value→Shared→Prop}{s:Shared}{Q:Value→Shared→Prop}{v:Value}{text:List Nat}{n:Int}{base:Nat}
  (hs:(text.takeWhile (· !=0)).length≤640) (hr:(int_private% "readNumeral") 0 base (text.takeWhile (· !=0))=(int_private% "Numeral.value") n)
  (ha:((text.takeWhile (· !=0)).length==text.length)=true) (h:Q (.int n s.toks) {s with toks:=s.toks+1}):
  wpAny M A ((int_private% "intFromText") v text base) Q E s:=by
 obtain⟨hp,g,d,tk,os⟩:=s
 repeat (any_goals (first
  | assumption
  | (with_reducible refine wpAny_ite_true (decide_eq_true hs) ?_)
  | (with_reducible refine wpAny_ite_true (decide_eq_true ha) ?_)
  | wp_step))
 all_goals (try refine rK (hr ..) ?_)
 all_goals (try dsimp only)
 repeat (any_goals (first
  | assumption
  | (with_reducible refine wpAny_ite_true (decide_eq_true hs) ?_)
  | (with_reducible refine wpAny_ite_true (decide_eq_true ha) ?_)
  | wp_step))
set_option maxHeartbeats 4000000 in
theorem n4{l:List Nat}{u v:Tok}{base:Nat}(hb:base=10∨base=16)(hne:l≠[])(h: ∀c∈l,bz base c=true)(hl:l.length≤640):
  Gives (Builtin.«int.__new__» ⟨[.type "int",.str ⟨l.toArray⟩ u,.int (base:Int) v],[]⟩) (.int (aH base 0 l)):=
 .of_wp fun M A E s Q hq=>by
  obtain⟨hp,g,d,tk,os⟩:=s
  have f1:=F.conv_sub_int
  have f2:=F.madeHere_int
  have f6:typeOf (.str ⟨l.toArray⟩ u)=pure (.type "str"):=rfl
  have hb':base≤16:=by lia
  have t1:l.takeWhile (· !=0)=l:=takeWhile_all fun c hc=>by
   refine o08 (ca hb' (h c hc)) fun _ _ _ _ _ _ h7 _=>?_
   simpa using h7
  have hr:=nH hb hne h hl
  have ha:(⟨l.toArray⟩:Str).cps.all (· <128)=true:=by
   simp only[List.all_toArray,DL,decide_eq_true_eq]
   exact fun c hc=>(ca hb' (h c hc)).2.2.2.2.2.2.2.1
  have hk:=Hid.mk (And.intro t1 (And.intro hr (And.intro ha (And.intro hl hb))))
  clear t1 hr hl h hne ha hb hb'
  repeat (any_goals (first
   | assumption
   | wp_step))
  refine o05 hk.it fun t1 hr ha hl hb=>?_
  have e0:(int_private% "numeralText?") (Value.str ⟨l.toArray⟩ u)=pure (some l):=by
   show(pure (some (if(⟨l.toArray⟩:Str).cps.all (· <128)then(⟨l.toArray⟩:Str).cps.toList else Unicode.numberText (⟨l.toArray⟩:Str).cps.toList)):Sem _)=_
   refine rK (ha ..) ?_;rfl
  have e1:((base:Int) !=0&&decide ((base:Int)<2) || decide ((base:Int)>36))=false:=by rcases hb with rfl | rfl<;>rfl
  refine rK (e1 ..) (rK (if_neg Ec ..) ?_)
  refine wpAny_bind (wpAny_of_eq e0 ?_)
  show wpAny M A (((int_private% "intFromText") (Value.str ⟨l.toArray⟩ u) l (base:Int).toNat)>>=_) _ _ _
  refine rK (Int.toNat_natCast ..) ?_
  refine wpAny_bind (rV (n:=aH base 0 l) (by refine rK (t1 ..) ?_;exact hl) (by refine rK (t1 ..) ?_;exact hr) (by refine rK (t1 ..) ?_;exact beq_self_eq_true _) ?_)
  exact wpAny_pure ⟨_,rfl,hq⟩
section
variable{prog:Program}{w:World}{A:Around}{E:Value→Shared→Prop}{s:Shared}{Q:Value→Shared→Prop}
theorem rI{l:List Nat}{u v:Tok}{base:Nat}(hb:base=10∨base=16)(hne:l≠[])(h: ∀c∈l,bz base c=true)(hl:l.length≤640)
  (hq:Q (.int (aH base 0 l) s.toks) {s with toks:=s.toks+1}):wpAny (model prog w) A (call (.type "int") [.str ⟨l.toArray⟩ u,.int (base:Int) v]) Q E s:=
 callType_new F.called_int F.newNe_int (KI.typeCall_int_2 _ _) (KI.newCall_int_2 _ _) (fun obj=>KI.args_object_init_3 obj _ _) F.entry_int_new (n4 hb hne h hl).meets (show(Made.int _).post _ s from⟨rfl,hq⟩)
end
end
noncomputable abbrev Hp:=List AO
noncomputable def cw:List Prop→Prop
 | []=>True
 | [p]=>p
 | p::q::r=>p∧cw (q::r)
theorem rQ{p:Prop}{r:List Prop}:cw (p::r)→p∧cw r:=by
 induction r with
 | nil=>exact fun h=>⟨h,trivial⟩
 | cons _ _=>exact id
theorem cv: ∀{l m:List Prop},cw (l++m)→cw l∧cw m
 | [],_,h=>⟨trivial,h⟩
 | p::l,m,h=>by
  refine o02 (rQ h) fun h1 h2=>?_
  refine o02 (cv h2) fun h3 h4=>?_
  refine⟨?_,h4⟩
  induction l with
  | nil=>exact h1
  | cons _ _=>exact⟨h1,h3⟩
structure Out(α:Type) where
 v:α
 σ:Hp
 obs:List Prop
noncomputable def Out.ob {α:Type} (o:Out α):Prop:=cw o.obs
noncomputable abbrev M (α:Type):=Hp→Option (Out α)
noncomputable def ret {α:Type} (a:α):M α:=fun σ=>some ⟨a,σ,[]⟩
noncomputable def no {α:Type}:M α:=fun _=>none
noncomputable def bnd {α β:Type} (x:M α) (f:α→M β):M β:=fun σ=>(x σ).bind fun o=>(f o.v o.σ).bind fun o'=>some ⟨o'.v,o'.σ,o.obs++o'.obs⟩
noncomputable def ofO {α:Type} (x:Option α):M α:=fun σ=>x.bind fun a=>some ⟨a,σ,[]⟩
theorem fP{α:Type}{x:Option α}{σ:Hp}{o:Out α}(h:ofO x σ=some o):x=some o.v∧o.σ=σ:=
 obK h fun _ h1 h=>okE (P:=fun o=>x=some o.v∧o.σ=σ) h ⟨h1,rfl⟩
noncomputable def Gives {β:Type} (r:Option (Out β)) (P:β→Hp→Prop):Prop:= ∀o,r=some o→o.ob→P o.v o.σ
section
variable{α β:Type}{P Q:β→Hp→Prop}{r:Option (Out β)}{σ:Hp}
theorem ae{o:Option α}{f:α→Option (Out β)}(k: ∀a,o=some a→Gives (f a) P):Gives (o.bind f) P:=fun _ h ob=>obK h fun a q h=>k a q _ h ob
theorem cr{a b:Option (Out β)}(k1:Gives a P)(k2:Gives b P):Gives (alt a b) P:=fun _ h ob=>dB h (fun h=>k1 _ h ob) fun h=>k2 _ h ob
theorem af{v:β}{obs:List Prop}(k:cw obs→P v σ):Gives (some ⟨v,σ,obs⟩) P:=fun _ h ob=>okE (P:=fun o=>o.ob→P o.v o.σ) h k ob
theorem bq:Gives none P:=fun _ h _=>noE h
theorem Gives.mono(g:Gives r P)(k: ∀v σ,P v σ→Q v σ):Gives r Q:=fun o h ob=>k _ _ (g o h ob)
theorem pC{x:Option β}(k: ∀a,x=some a→P a σ):Gives (ofO x σ) P:=ae fun a q=>af fun _=>k a q
theorem f9{x:M α}{f:α→M β}(g:Gives (x σ) fun v1 σ1=>Gives (f v1 σ1) P):Gives (bnd x f σ) P:=fun _ h ob=>obK h fun o1 h1 h=>obK h fun o2 h2 h=>
 okE (P:=fun o=>o.ob→P o.v o.σ) h (fun ob=>g o1 h1 (cv ob).1 o2 h2 (cv ob).2) ob
end
noncomputable def oel {α β:Type} (o:Option α) (f:α→Option β) (b:Option β):Option β:=match o with
 | some a=>f a
 | none=>b
theorem eZ{α β:Type}{o:Option α}{f:α→Option (Out β)}{b:Option (Out β)}{P:β→Hp→Prop}(k1: ∀a,o=some a→Gives (f a) P)(k2:o=none→Gives b P):Gives (oel o f b) P:=by
 induction o with
 | some a=>exact k1 a rfl
 | none=>exact k2 rfl
noncomputable def aD {α:Type} (b:Bool) (x:Option α):Option α:=match b with
 | true=>x
 | false=>none
theorem au{β:Type}{b:Bool}{r:Option (Out β)}{P:β→Hp→Prop}(k:b=true→Gives r P):Gives (aD b r) P:=by
 induction b with
 | true=>exact k rfl
 | false=>exact bq
inductive Fl where
 | next | brk | cont
 | ret (v:V)
structure EE where
 fr:Nat
 cells:List (Str×Nat)
 scope:Scope
 d:Nat
structure Fn where
 pars:List Str
 dfl:List V
 body:List Stmt
 scope:Scope
structure Cl where
 meths:List (Str×Addr)
 vals:List (Str×V)
 flds:List Str
 init:Option Addr
structure Tab where
 glob:List (Str×V)
 fns:List (Addr×Fn)
 cls:List (Addr×Cl)
 cons:List (Addr×AO)
noncomputable def dW (x:Str) (v:V):List (Str×V)→List (Str×V)
 | []=>[(x,v)]
 | (y,w)::r=>if y==x then(y,v)::r else(y,w)::dW x v r
theorem dW.c{x y:Str}{v w:V}{r:List (Str×V)}:dW x v ((y,w)::r)=if y==x then(y,v)::r else(y,w)::dW x v r:=rfl
noncomputable def Tab.obj (T:Tab) (σ:Hp) (v:V):Option AO:=v.at3 (fun i=>σ[i]?) (fun a=>T.cons.lookup a) (fun _=>none) none
noncomputable def frA:Option AO→Option (List (Str×V))
 | some (.fr m)=>some m
 | _=>none
noncomputable def kc:Option AO→Option (Addr×Nat)
 | some (.inst C k)=>some (C,k)
 | _=>none
noncomputable def uI:Option AO→Option (Addr×List (Str×V))
 | some (.cinst C k)=>some (C,k)
 | _=>none
noncomputable def xq:Option AO→Option (Addr×List Nat)
 | some (.strm f _ _ _ ks)=>some (f,ks)
 | _=>none
theorem d8{o:Option AO}{m}(h:kc o=some m):o=some (.inst m.1 m.2):=by
 induction o with
 | none=>exact noE h
 | some o=>induction o<;>first | exact noE h | exact okE (P:=fun ys=>_=some (AO.inst ys.1 ys.2)) h rfl
theorem rG{o:Option AO}{m}(h:uI o=some m):o=some (.cinst m.1 m.2):=by
 induction o with
 | none=>exact noE h
 | some o=>induction o<;>first | exact noE h | exact okE (P:=fun ys=>_=some (AO.cinst ys.1 ys.2)) h rfl
theorem sx{o:Option AO}{m}(h:xq o=some m): ∃p r q,o=some (.strm m.1 p r q m.2):=by
 induction o with
 | none=>exact noE h
 | some o=>induction o<;>first | exact noE h | exact okE (P:=fun ys=> ∃p r q,_=some (AO.strm ys.1 p r q ys.2)) h ⟨_,_,_,rfl⟩
noncomputable def zd:Option AO→Option (Option V)
 | some (.cell v)=>some v
 | _=>none
theorem t9{o:Option AO}{m:List (Str×V)}(h:frA o=some m):o=some (.fr m):=by
 induction o with
 | none=>exact noE h
 | some o=>induction o<;>first | exact noE h | exact okE (P:=fun ys=>_=some (AO.fr ys)) h rfl
theorem pT{o:Option AO}{m:Option V}(h:zd o=some m):o=some (.cell m):=by
 induction o with
 | none=>exact noE h
 | some o=>induction o<;>first | exact noE h | exact okE (P:=fun ys=>_=some (AO.cell ys)) h rfl
noncomputable def ldC (ee:EE) (x:Str) (σ:Hp):Option (Out V):=if x==("__classdict__":Str)then none else(ee.cells.lookup x).bind fun i=>(zd σ[i]?).bind fun w=>w.bind fun v=>ret v σ
noncomputable def ld (T:Tab) (ee:EE) (x:Str):M V:=fun σ=>(ee.scope.names.lookup x).bind fun k=>match k with
 | .local=>(frA σ[ee.fr]?).bind fun m=>ofO (m.lookup x) σ
 | .cell=>ldC ee x σ
 | .free=>ldC ee x σ
 | .globalImplicit=>ofO (T.glob.lookup x) σ
 | _=>none
noncomputable def st (ee:EE) (x:Str) (v:V):M Unit:=fun σ=>(ee.scope.names.lookup x).bind fun k=>match k with
 | .local=>(frA σ[ee.fr]?).bind fun m=>some ⟨(),σ.set ee.fr (.fr (dW x v m)),[]⟩
 | .cell=>(ee.cells.lookup x).bind fun i=>(zd σ[i]?).bind fun _=>some ⟨(),σ.set i (.cell (some v)),[]⟩
 | _=>none
noncomputable def const:Const→Option V
 | .none=>some .none
 | .bool b=>some (.bool b)
 | .int i=>some (.int i)
 | .str s=>some (.str s.cps.toList)
 | _=>none
structure Base(cx:Cx)(K:Frag)(mg mb:Str→Option Value):Prop where
 X:K.In cx.h₀
 G:cx.h₀.Ns mainGlobals mg
 B:cx.h₀.Ns builtinsNs mb
 lim:cx.h₀.NoLimit
 sm: ∃o,cx.h₀.get? sysModules=some o
structure Aft(cx:Cx)(n:Nat)(ρ:Ids)(s:Shared)(σ':Hp)(ρ':Ids)(s':Shared):Prop where
 sat:Sat cx σ' ρ' s'.heap
 ext:Ext n ρ s.heap σ'.length ρ' s'.heap
 gens:s'.gens=s.gens
 os:s'.os=s.os
theorem Aft.refl{cx σ ρ s}(S:Sat cx σ ρ s.heap):Aft cx σ.length ρ s σ ρ s:=⟨S,Ext.refl _ _ _,rfl,rfl⟩
theorem Aft.trans{cx n ρ s σ1 ρ1 s1 σ2 ρ2 s2}(x:Aft cx n ρ s σ1 ρ1 s1)(y:Aft cx σ1.length ρ1 s1 σ2 ρ2 s2):Aft cx n ρ s σ2 ρ2 s2:=
 ⟨y.sat,x.ext.trans y.ext x.sat.live,y.gens.trans x.gens,y.os.trans x.os⟩
noncomputable def ag {α:Type} (cx:Cx) (n:Nat) (ρ:Ids) (s:Shared) (σ':Hp) (R:Nat→Ids→Heap→α→Prop) (a:α) (s':Shared):Prop:=
 ∃ρ',Aft cx n ρ s σ' ρ' s'∧R σ'.length ρ' s'.heap a
noncomputable def ak {α:Type} (cx:Cx) (A:Around) (σ:Hp) (ρ:Ids) (s:Shared) (t:Sem α) (σ':Hp) (R:Nat→Ids→Heap→α→Prop):Prop:=
 wpAny (model cx.prog cx.w) A t (ag cx σ.length ρ s σ' R) (fun _ _=>False) s
theorem ak.use{α:Type}{cx A σ ρ s}{t:Sem α}{σ' R}(h:ak cx A σ ρ s t σ' R){Q:α→Shared→Prop}{E:Value→Shared→Prop}
  (k: ∀a ρ' s',Aft cx σ.length ρ s σ' ρ' s'→R σ'.length ρ' s'.heap a→Q a s'):wpAny (model cx.prog cx.w) A t Q E s:=
 wpAny_mono h (fun a s' y2k=>o12 y2k fun ρ' x r=>k a ρ' s' x r) fun _ _ f=>f.elim
noncomputable abbrev IsV (v:V):Nat→Ids→Heap→Value→Prop:=fun n ρ h x=>VR n ρ h v x
theorem ag.same{α:Type}{cx:Cx}{σ:Hp}{ρ:Ids}{s:Shared}(S:Sat cx σ ρ s.heap){R:Nat→Ids→Heap→α→Prop}{a:α}{s':Shared}(e:s'.heap=s.heap)(g:s'.gens=s.gens)(o:s'.os=s.os)(r:R σ.length ρ s.heap a):
 ag cx σ.length ρ s σ R a s':=⟨ρ,⟨e▸S,e▸Ext.refl _ _ _,g,o⟩,e▸r⟩
structure aj(A:Around)(d:Nat):Prop where
 handled:A.handled=none
 depth:A.depth+d<recursionLimit
 units:A.units+50*d+50<cLine
theorem aj.lt{A d}(r:aj A d):A.depth<recursionLimit:=DY (D8 _ _) r.depth
theorem aj.u{A d}(r:aj A d):A.units<cLine:=DY (kV (D8 ..) (D8 ..)) r.units
structure ax(ee:EE)(n:Nat)(ρ:Ids)(env:Env):Prop where
 scope:env.scope=ee.scope
 kind:ee.scope.kind=.function
 fr:ee.fr<n
 loc:env.locals=ρ ee.fr
 glob:env.globals=mainGlobals
 bi:env.builtins=builtinsNs
 cells: ∀x i,ee.cells.lookup x=some i→i<n∧env.cells.lookup x=some (ρ i)
theorem ax.ext{ee n ρ env n' ρ' h h'}(e:ax ee n ρ env)(x:Ext n ρ h n' ρ' h'):ax ee n' ρ' env:=
 ⟨e.scope,e.kind,DR e.fr x.le,by refine rK (x.same _ e.fr ..) ?_;exact e.loc,e.glob,e.bi,fun y i hi=>by
  refine o02 (e.cells y i hi) fun h1 h2=>?_
  exact⟨DR h1 x.le,by refine rK (x.same _ h1 ..) ?_;exact h2⟩⟩
noncomputable def V.atom:V→Bool
 | .ref _=>false
 | .meth _ _=>false
 | .tup _=>false
 | _=>true
theorem VR.atom{n ρ h n' ρ' h'}{v:V}{y:Value}(e:v.atom=true)(r:VR n ρ h v y):VR n' ρ' h' v y:=by
 cases v with
 | ref _=>cases e
 | meth _ _=>cases e
 | tup _=>cases e
 | _=>exact r
noncomputable def zero:Ids:=fun _=>0
noncomputable def lK (T:Tab) (mg mb:Str→Option Value):Prop:= ∀x v,T.glob.lookup x=some v→v.atom=true∧ ∃y,VR 0 zero {} v y∧(mg x=some y∨(mg x=none∧mb x=some y))
section
variable{cx:Cx}{K:Frag}{mg mb:Str→Option Value}{T:Tab}{ee:EE}{A:Around}{σ:Hp}{ρ:Ids}{s:Shared}{env:Env}
theorem j0{α:Type}{l:List α}{i:Nat}{a:α}(h:l[i]?=some a):i<l.length:=(DT.mp h).1
theorem mH(e:ax ee σ.length ρ env)(S:Sat cx σ ρ s.heap){x:Str}{o:Out V}(h:ldC ee x σ=some o)
  (k: ∀i y,((x==("__classdict__":Str))=false)→env.cells.lookup x=some (ρ i)→s.heap.IsCell (ρ i) (some y)→ag cx σ.length ρ s σ (IsV o.v) y s→ak cx A σ ρ s (loadName env x) σ (IsV o.v)):
  o.σ=σ∧ak cx A σ ρ s (loadName env x) σ (IsV o.v):=by
 unfold ldC at h
 induction hcd:x==("__classdict__":Str)with
 | true=>rw[hcd]at h;exact noE h
 | false=>
  rw[hcd]at h
  refine obK h fun i hi h=>obK h fun w hw h=>obK h fun v hv h=>?_
  subst hv
  exact(S.obj _ _ (pT hw)).cellK fun y hy hr=>
   okE (P:=fun o=>(ag cx σ.length ρ s σ (IsV o.v) y s→ak cx A σ ρ s (loadName env x) σ (IsV o.v))→o.σ=σ∧ak cx A σ ρ s (loadName env x) σ (IsV o.v)) h (fun k=>⟨rfl,k (ag.same S rfl rfl rfl hr)⟩) (k i y hcd (e.cells x i hi).2 hy)
theorem ax.kindOf(e:ax ee n ρ env){x:Str}{k:NameKind}(h:ee.scope.names.lookup x=some k):env.kindOf x=some k:=by unfold Env.kindOf;refine rK (e.scope ..) ?_;exact h
theorem ax.kind'(e:ax ee n ρ env):env.scope.kind=.function:=e.scope▸e.kind
theorem pe(B:Base cx K mg mb)(g:lK T mg mb)(e:ax ee σ.length ρ env)(S:Sat cx σ ρ s.heap){x:Str}{o:Out V}(h:ld T ee x σ=some o):
  o.σ=σ∧ak cx A σ ρ s (loadName env x) σ (IsV o.v):=
 obK h fun kd hl h=>by
  have hl:=e.kindOf hl
  induction kd with
  | «local»=>
   exact obK h fun m hm h=>let ⟨h1,h2⟩:=fP h
    (S.obj _ _ (t9 hm)).frK fun mm hns hf=>
    let ⟨y,hy,hv⟩:=hf _ _ h1
    ⟨h2,wpAny_loadName_local e.kind' hl (Eh e.loc▸hns) hy (ag.same S rfl rfl rfl hv)⟩
  | cell=>exact mH e S h fun i y _ hc hy p=>wpAny_loadName_cell e.kind' hl hc hy p
  | free=>exact mH e S h fun i y hcd hc hy p=>wpAny_loadName_free e.kind' hl hc hy p hcd
  | globalImplicit=>
   refine o02 (fP h) fun h1 h2=>?_
   refine⟨h2,?_⟩
   obtain⟨ha,y,hv,hm⟩:=g _ _ h1
   have hv':ag cx σ.length ρ s σ (IsV o.v) y s:=ag.same S rfl rfl rfl (VR.atom ha hv)
   show wpAny _ _ (loadName env x) _ _ _
   unfold loadName
   refine rK (if_neg (by rw[e.kind'];exact Ec) ..) (rK (show env.blockKind=.function from by unfold Env.blockKind;rw[e.kind'];rfl) (rK (hl ..) ?_))
   exact hm.elim (fun hm=>loadGlobal_global (Eh e.glob▸B.G.keeps S.keep) hm hv') fun y0k=>o02 y0k fun hm hb=>loadGlobal_builtin (Eh e.glob▸B.G.keeps S.keep) hm (Eh e.bi▸B.B.keeps S.keep) hb hv'
  | globalExplicit=>exact noE h
theorem gP(x:Str)(v:V)(y:Str): ∀m:List (Str×V),(dW x v m).lookup y=if y=x then some v else m.lookup y
 | []=>by
  show([(x,v)]:List (Str×V)).lookup y=_
  simp only[DW,List.lookup_nil]
  by_cases h:y=x
  ·simp[h]
  ·have:(y==x)=false:=beq_eq_false_iff_ne.mpr h
   simp[this,h]
 | (z,w)::r=>by
  refine rK (dW.c ..) ?_
  by_cases hz:(z==x)=true
  ·have:=beq_iff_eq.mp hz
   subst this
   refine rK (if_pos hz ..) ?_
   simp only[DW]
   by_cases h:y=z
   ·simp[h]
   ·have:(y==z)=false:=beq_eq_false_iff_ne.mpr h
    simp[this,h]
  ·refine rK (if_neg hz ..) ?_
   simp only[DW]
   by_cases h:y=z
   ·subst h
    have: ¬y=x:=fun q=>hz (by refine rK (q ..) ?_;exact beq_self_eq_true x)
    simp[this]
   ·have:(y==z)=false:=beq_eq_false_iff_ne.mpr h
    simp only[this]
    exact gP x v y r
theorem kO(e:ax ee σ.length ρ env)(S:Sat cx σ ρ s.heap){x:Str}{v:V}{y:Value}(hv:VR σ.length ρ s.heap v y){o:Out Unit}(h:st ee x v σ=some o):
  ak cx A σ ρ s (storeName env x y) o.σ (fun _ _ _ _=>True):=
 obK h fun kd hl h=>by
 have hl:=e.kindOf hl
 induction kd with
 | «local»=>
  refine obK h fun m hm h=>okE (P:=fun o=>ak cx A σ ρ s (storeName env x y) o.σ (fun _ _ _ _=>True)) h ?_
  have hm:=t9 hm
  refine(S.obj _ _ hm).frK fun mm hns hf=>?_
  refine wpAny_storeName_local hl (Eh e.loc▸hns) (fun h' hn hs=>?_) (by refine rK (e.kind' ..) ?_;rfl)
  rw[e.loc]at hn hs
  obtain⟨S',x'⟩:=S.set (o:=.fr (dW x v m)) (j0 hm) (fun b hb=>hs.2 b hb) (o32 hn fun ob _ _ q _=>⟨ob,q⟩) fun xx=>⟨_,hn,fun z w hz=>by
   replace hz:=(gP ..)▸hz
   by_cases q:z=x
   ·replace hz:=(if_pos q ..)▸hz
    exact⟨y,if_pos q,okE (P:=fun w=>VR _ _ _ w y) hz (VR.ext xx _ _ hv)⟩
   ·replace hz:=(if_neg q ..)▸hz
    exact let ⟨u,h1,h2⟩:=hf z w hz
    ⟨u,(if_neg q).trans h1,VR.ext xx _ _ h2⟩⟩
  exact⟨ρ,⟨S',by refine rK (DP ..) ?_;exact x',rfl,rfl⟩,trivial⟩
 | cell=>
  refine obK h fun i hi h=>obK h fun u hu h=>okE (P:=fun o=>ak cx A σ ρ s (storeName env x y) o.σ (fun _ _ _ _=>True)) h ?_
  have hu:=pT hu
  have hw: ∃ob w,s.heap.get? (ρ i)=some ob∧ob.data=.cell w:=by
   have q:=S.obj _ _ hu
   induction u with
   | none=>exact o12 q fun ob h1 h2=>⟨ob,_,h1,h2⟩
   | some v=>exact let ⟨w,⟨ob,h1,h2⟩,_⟩:=q;⟨ob,_,h1,h2⟩
  refine o22 hw fun ob0 w hw hw2=>?_
  show wpAny _ _ (storeName env x y) _ _ _
  unfold storeName
  refine rK (hl ..) ?_
  show wpAny _ _ (if _ then _ else _) _ _ _
  refine rK (e.kind' ..) (rK (if_neg (by decide) ..) ?_)
  unfold cellOf
  refine rK ((e.cells x i hi).2) ?_
  refine wpAny_bind (wpAny_pure ?_)
  unfold cellSet
  refine wpAny_bind (wpAny_load hw ?_)
  refine rK (hw2 ..) ?_
  refine wpAny_update hw ?_
  have hg:(s.heap.update (ρ i) fun o=>{o with data:=.cell (some y)}).get? (ρ i)=some {ob0 with data:=.cell (some y)}:=Heap.get?_update_self _ hw rfl
  refine o02 (S.set (h':=s.heap.update (ρ i) fun o=>{o with data:=.cell (some y)}) (o:=.cell (some v)) (j0 hu) (fun b hb=>Heap.get?_update_ne _ _ _ _ hb) ⟨_,hg⟩ fun xx=>⟨y,⟨_,hg,rfl⟩,VR.ext xx _ _ hv⟩) fun S' x'=>?_
  exact⟨ρ,⟨S',by refine rK (DP ..) ?_;exact x',rfl,rfl⟩,trivial⟩
 | _=>exact noE h
theorem i3(S:Sat cx σ ρ s.heap){c:Const}{v:V}(h:const c=some v):ak cx A σ ρ s (constValue env c) σ (IsV v):=by
 induction c with
 | none=>cases h;exact wpAny_pure (ag.same S rfl rfl rfl (rfl))
 | bool b=>cases h;exact wpAny_pure (ag.same S rfl rfl rfl (rfl))
 | int i=>cases h;exact wpAny_mkInt (ag.same S rfl rfl rfl ⟨_,rfl⟩)
 | str x=>cases h;exact wpAny_mkText (ag.same S rfl rfl rfl ⟨_,rfl⟩)
 | _=>exact noE h
end
section
noncomputable def am:List Nat→List Nat→Bool
 | [],[]=>true
 | [],_::_=>false
 | _::_,[]=>false
 | a::x,b::y=>match DI a b with | true=>am x y | false=>false
theorem fV: ∀x y:List Nat,am x y=(x==y)
 | [],[]=>rfl
 | [],_::_=>rfl
 | _::_,[]=>rfl
 | a::x,b::y=>by
  show(match DI a b with | true=>am x y | false=>false)=_
  induction h:DI a b with
  | true=>
   have:=DK h
   subst this
   simp[fV x y]
  | false=>
   have:=EC h
   simp[this]
theorem str_beq(x y:List Nat):((⟨x.toArray⟩:Str)==⟨y.toArray⟩)=am x y:=by
 rw[fV]
 by_cases h:x=y
 ·subst h;simp
 ·have:(⟨x.toArray⟩:Str)≠⟨y.toArray⟩:=fun e=>h (by simpa using e)
  exact rK (beq_eq_false_iff_ne.mpr h ..) (rK (beq_eq_false_iff_ne.mpr this ..) rfl)
noncomputable def veq (a b:V):Option Bool:=a.at4
 (b.at4 (some true) (fun _=>some false) (fun _=>some false) (fun _=>some false) none)
 (fun x=>b.at4 (some false) (fun y=>some (x==y)) (fun _=>none) (fun _=>some false) none)
 (fun x=>b.at4 (some false) (fun _=>none) (fun y=>some (decide (x=y))) (fun _=>some false) none)
 (fun x=>b.at4 (some false) (fun _=>some false) (fun _=>some false) (fun y=>some (am x y)) none) none
noncomputable def cP:Value→Value→Bool
 | .none,.none=>true
 | .bool a,.bool b=>a==b
 | .int a _,.int b _=>decide (a=b)
 | .str a _,.str b _=>a==b
 | _,_=>false
open PySem.SeqAt
structure AtP(x y:Value)(r:Bool):Prop where
 rc: ∀A s,RcAt A s x y r
 eq: ∀A s,EqAt A s x y r
 ne: ∀A s,RcNeAt A s x y (!r)
 vl:cP x y=r
theorem kH{n:Nat}{ρ:Ids}{h:Heap}{a b:V}{x y:Value}{r:Bool}(ha:VR n ρ h a x)(hb:VR n ρ h b y)(e:veq a b=some r):AtP x y r:=
 bX (P:=fun _ x=>AtP x y r) ha e
  (fun e=>bX (P:=fun _ y=>AtP _ y r) hb e (fun q=>okE q ⟨fun _ _=>RcAt.none_none,fun _ _=>EqAt.same _,fun _ _=>RcNeAt.none_none,rfl⟩) (fun _ q=>okE q ⟨fun _ _=>RcAt.none_bool _,fun _ _=>EqAt.none_bool _,fun _ _=>RcNeAt.none_bool _,rfl⟩)
   (fun _ _ q=>okE q ⟨fun _ _=>RcAt.none_int _ _,fun _ _=>EqAt.none_int _ _,fun _ _=>RcNeAt.none_int _ _,rfl⟩) (fun _ _ q=>okE q ⟨fun _ _=>RcAt.none_str _ _,fun _ _=>EqAt.none_str _ _,fun _ _=>RcNeAt.none_str _ _,rfl⟩))
  (fun _ e=>bX (P:=fun _ y=>AtP _ y r) hb e (fun q=>okE q ⟨fun _ _=>RcAt.bool_none _,fun _ _=>EqAt.bool_none _,fun _ _=>RcNeAt.bool_none _,rfl⟩) (fun _ q=>okE q ⟨fun _ _=>RcAt.bool_bool _ _,fun _ _=>EqAt.bool_bool _ _,fun _ _=>RcNeAt.bool_bool _ _,rfl⟩)
   (fun _ _ q=>noE q) (fun _ _ q=>okE q ⟨fun _ _=>RcAt.bool_str _ _ _,fun _ _=>EqAt.bool_str _ _ _,fun _ _=>RcNeAt.bool_str _ _ _,rfl⟩))
  (fun _ _ e=>bX (P:=fun _ y=>AtP _ y r) hb e (fun q=>okE q ⟨fun _ _=>RcAt.int_none _ _,fun _ _=>EqAt.int_none _ _,fun _ _=>RcNeAt.int_none _ _,rfl⟩) (fun _ q=>noE q)
   (fun _ _ q=>okE q ⟨fun _ _=>RcAt.int_int _ _ _ _,fun _ _=>EqAt.int_int _ _ _ _,fun _ _=>RcNeAt.int_int _ _ _ _,rfl⟩) (fun _ _ q=>okE q ⟨fun _ _=>RcAt.int_str _ _ _ _,fun _ _=>EqAt.int_str _ _ _ _,fun _ _=>RcNeAt.int_str _ _ _ _,rfl⟩))
  (fun _ _ e=>bX (P:=fun _ y=>AtP _ y r) hb e (fun q=>okE q ⟨fun _ _=>RcAt.str_none _ _,fun _ _=>EqAt.str_none _ _,fun _ _=>RcNeAt.str_none _ _,rfl⟩) (fun _ q=>okE q ⟨fun _ _=>RcAt.str_bool _ _ _,fun _ _=>EqAt.str_bool _ _ _,fun _ _=>RcNeAt.str_bool _ _ _,rfl⟩)
   (fun _ _ q=>okE q ⟨fun _ _=>RcAt.str_int _ _ _ _,fun _ _=>EqAt.str_int _ _ _ _,fun _ _=>RcNeAt.str_int _ _ _ _,rfl⟩)
   (fun l _ q=>okE (P:=AtP _ _) ((congrArg some (str_beq _ _)).trans q) ⟨fun _ _=>RcAt.str_str _ _ _ _,fun _ _=>EqAt.str_str _ _ _ _,fun _ _=>RcNeAt.str_str _ _ _ _,rfl⟩))
section
variable{cx:Cx}{σ:Hp}{ρ:Ids}{h:Heap}
theorem VRs.length{n ρ h}: ∀{l:List V} {ys:List Value},VRs n ρ h l ys→l.length=ys.length
 | [],_,e=>VRs.k0 (P:=fun ys=>Ea ([]:List V)=ys.length) e rfl
 | _::_,_,e=>VRs.k1 (P:=fun ys=>Ea (_::_)=ys.length) e fun _ _ _ h2=>congrArg GG (VRs.length h2)
theorem VRs.get{n ρ h}: ∀{l:List V} {ys:List Value} (_:VRs n ρ h l ys) (j:Nat) (h1:j<l.length) (h2:j<ys.length),VR n ρ h l[j] ys[j]
 | [],_,_,_,h1,_=>absurd h1 (Eo _)
 | v::vs,_,e,j,h1,h2=>by
  refine o23 e fun y ys e2q e1 e2=>?_;subst e2q
  induction j with
  | zero=>exact e1
  | succ j=>exact VRs.get e2 j (Ew h1) (Ew h2)
end
end
noncomputable def aB (c:Nat):List Nat→Bool
 | []=>false
 | x::xs=>match DI x c with | true=>true | false=>aB c xs
theorem aB.c{c x:Nat}{xs:List Nat}:aB c (x::xs)=(match DI x c with | true=>true | false=>aB c xs):=rfl
theorem aN(c:Nat): ∀l,aB c l=decide (c∈l)
 | []=>(decide_eq_false EO).symm
 | x::xs=>by
  refine rK (aB.c ..) ?_
  induction h:DI x c with
  | true=>have:=DK h;subst this;simp
  | false=>
   have:=EC h
   have h2: ¬c=x:=fun e=>this e.symm
   simp[aN c xs,h2]
noncomputable def zz:Option AO→Option (List V)
 | some (.list xs)=>some xs
 | some (.tupl xs)=>some xs
 | _=>none
theorem vr{o:Option AO}{xs:List V}(h:zz o=some xs):o=some (.list xs)∨o=some (.tupl xs):=by
 induction o with
 | none=>exact noE h
 | some o=>induction o with
  | list ys=>exact okE (P:=fun zs=>some (AO.list ys)=some (.list zs)∨some (AO.list ys)=some (.tupl zs)) h (.inl rfl)
  | tupl ys=>exact okE (P:=fun zs=>some (AO.tupl ys)=some (.list zs)∨some (AO.tupl ys)=some (.tupl zs)) h (.inr rfl)
  | _=>exact noE h
noncomputable def l7 (T:Tab) (σ:Hp) (v:V):Option (List V):=v.at3 (fun i=>de σ[i]?) (fun a=>zz (T.cons.lookup a)) some none
noncomputable def u7 (x:V):List V→Option Bool
 | []=>some false
 | y::ys=>(veq y x).bind fun b=>(u7 x ys).bind fun r=>some (b || r)
noncomputable def xM (o:Option AO) (x:V):Option Bool:=x.at4 none (fun _=>none) (fun k=>(yL o).bind fun kvs=>some (kvs.lookup k).isSome) (fun k=>(lC o).bind fun kvs=>some (kvs.lookup ⟨k.toArray⟩).isSome) none
noncomputable def cont (T:Tab) (σ:Hp) (x c:V):Option Bool:=
 alt ((bc c).bind fun y=>((bc x).bind vP).bind fun a=>some (aB a y)) (alt ((l7 T σ c).bind fun ys=>u7 x ys) (xM (T.obj σ c) x))
noncomputable def ltN:List Nat→List Nat→Bool
 | [],[]=>false
 | [],_::_=>true
 | _::_,[]=>false
 | a::x,b::y=>match EH a b with
  | true=>true
  | false=>match DI a b with
   | true=>ltN x y
   | false=>false
theorem ltN.c{a b:Nat}{x y:List Nat}:ltN (a::x) (b::y)=(match EH a b with | true=>true | false=>match DI a b with | true=>ltN x y | false=>false):=rfl
noncomputable def isN (b:V):Option Bool:=b.at4 (some false) (fun _=>some false) (fun _=>none) (fun _=>none) none
noncomputable def tI (a b:V):Option Bool:=alt (a.at4 (b.at4 (some true) (fun _=>some false) (fun _=>some false) (fun _=>some false) none) (fun x=>b.at4 (some false) (fun y=>some (x==y)) (fun _=>none) (fun _=>none) none) (fun _=>isN b) (fun _=>isN b) none)
 (alt ((a.at3 (fun _=>some ()) (fun _=>some ()) (fun _=>some ()) none).bind fun _=>isN b) ((a.at4 (some ()) (fun _=>none) (fun _=>none) (fun _=>none) none).bind fun _=>b.at3 (fun _=>some false) (fun _=>some false) (fun _=>some false) none))
noncomputable def uD (f:Int→Int→Bool) (g:List Nat→List Nat→Bool) (a b:V):Option Bool:=alt ((cj a).bind fun x=>(cj b).bind fun y=>some (f x y)) ((bc a).bind fun x=>(bc b).bind fun y=>some (g x y))
noncomputable def vZ (x:Option Bool):Option Bool:=match x with
 | some b=>some (!b)
 | none=>none
noncomputable def noL {α:Type}:List α→Bool
 | []=>true
 | _::_=>false
noncomputable def zl (σ:Hp) (a b:V):Option Bool:=(bC a).bind fun i=>(bC b).bind fun j=>(de σ[i]?).bind fun xs=>(de σ[j]?).bind fun ys=>aD (noL ys) (some (noL xs))
noncomputable def zb (T:Tab) (σ:Hp) (op:CmpOp) (a b:V):Option Bool:=match op with
 | .Eq=>alt (veq a b) (zl σ a b)
 | .NotEq=>vZ (veq a b)
 | .Is=>tI a b
 | .IsNot=>vZ (tI a b)
 | .In=>cont T σ a b
 | .NotIn=>vZ (cont T σ a b)
 | .Lt=>uD (fun x y=>decide (x<y)) ltN a b
 | .LtE=>uD (fun x y=>decide (x≤y)) (fun x y=>!(ltN y x)) a b
 | .Gt=>uD (fun x y=>decide (y<x)) (fun x y=>ltN y x) a b
 | .GtE=>uD (fun x y=>decide (y≤x)) (fun x y=>!(ltN x y)) a b
noncomputable def bR {α:Type}:List α→Bool
 | []=>false
 | _::_=>true
noncomputable def Bs (o:Option AO):Option Bool:=alt ((de o).bind fun xs=>some (bR xs)) ((lC o).bind fun xs=>some (bR xs))
noncomputable def truth (T:Tab) (σ:Hp) (v:V):Option Bool:=
 alt (v.at4 (some false) some (fun i=>some (!(decide (i=0)))) (fun l=>some (bR l)) none) (alt ((bC v).bind fun i=>Bs σ[i]?) ((xT v).bind fun _=>some true))
noncomputable def yE (o:Option AO):List Prop:=match de o with
 | some xs=>[xs.length≤sizeLine]
 | none=>match lC o with
  | some xs=>[xs.length≤sizeLine]
  | none=>[]
noncomputable def kJ (σ:Hp) (v:V):List Prop:=match bc v with
 | some l=>[l.length≤sizeLine]
 | none=>match bC v with
  | some i=>yE σ[i]?
  | none=>[]
noncomputable def zr:Option AO→Option (List V)
 | some (.tupl xs)=>some xs
 | _=>none
theorem vc{o:Option AO}{xs:List V}(h:zr o=some xs):o=some (.tupl xs):=by
 induction o with
 | none=>exact noE h
 | some o=>induction o<;>first | exact noE h | exact okE (P:=fun ys=>_=some (AO.tupl ys)) h rfl
noncomputable def on2 {α β:Type} (p:V→Option α) (f:α→α→Option β) (a b:V):Option β:=(p a).bind fun x=>(p b).bind fun y=>f x y
noncomputable def u0 (σ:Hp) (x y:List Nat):Option (Out V):=some ⟨.str (x++y),σ,[x.length+y.length≤sizeLine]⟩
noncomputable def uO (T:Tab) (op:Operator) (a b:V):M V:=fun σ=>match op with
 | .Add=>alt (on2 cj (fun x y=>some ⟨.int (x+y),σ,[]⟩) a b) (alt (on2 bc (u0 σ) a b)
  (alt (on2 bC (fun i j=>(de σ[i]?).bind fun xs=>(de σ[j]?).bind fun ys=>some ⟨.ref σ.length,σ++[.list (xs++ys)],[xs.length+ys.length≤sizeLine]⟩) a b)
   ((rX a).bind fun xs=>(xk b).bind fun c=>(zr (T.cons.lookup c)).bind fun ys=>if bR xs&&bR ys then some ⟨.tup (xs++ys),σ,[xs.length+ys.length≤sizeLine]⟩else none)))
 | .Sub=>on2 cj (fun x y=>some ⟨.int (x-y),σ,[]⟩) a b
 | .Mult=>on2 cj (fun x y=>some ⟨.int (x*y),σ,[IntMulOk x y]⟩) a b
 | .Mod=>on2 cj (fun x y=>if decide (y=0)then none else some ⟨.int (x.fmod y),σ,[]⟩) a b
 | .FloorDiv=>on2 cj (fun x y=>if decide (y=0)then none else some ⟨.int (x.fdiv y),σ,[Builtin.divisionGoesByPylong x y=false]⟩) a b
 | _=>none
noncomputable def nt (op:Operator) (a b:V):M V:=fun σ=>match op with
 | .Add=>alt (on2 cj (fun x y=>some ⟨.int (x+y),σ,[]⟩) a b) (alt (on2 bc (u0 σ) a b)
  (on2 bC (fun i j=>if DI i j then none else(de σ[i]?).bind fun xs=>(de σ[j]?).bind fun ys=>some ⟨.ref i,σ.set i (.list (xs++ys)),[xs.length+ys.length≤sizeLine]⟩) a b))
 | .Sub=>alt (on2 eT (fun x y=>some ⟨.int (dV (x-y)),σ,[y≤x]⟩) a b) (on2 cj (fun x y=>some ⟨.int (x-y),σ,[]⟩) a b)
 | _=>none
noncomputable def zn (T:Tab) (op:UnaryOp) (a:V):M V:=fun σ=>match op with
 | .Not=>(truth T σ a).bind fun b=>some ⟨.bool (!b),σ,kJ σ a⟩
 | .USub=>(cj a).bind fun x=>some ⟨.int (-x),σ,[]⟩
 | _=>none
noncomputable def idx (i:Int) (n:Nat):Option Nat:=match i with
 | .ofNat k=>match EH k n with | true=>some k | false=>none
 | .negSucc k=>match EH k n with | true=>some (n-(k+1)) | false=>none
noncomputable def av (k:Int) (l:List Nat):Nat:=match k with
 | .ofNat j=>l.getD j 0
 | .negSucc j=>l.getD (l.length-(j+1)) 0
noncomputable def inR (k:Int) (n:Nat):Prop:=match k with
 | .ofNat j=>j<n
 | .negSucc j=>j<n
noncomputable abbrev an (k:Int):Prop:= -(2^63)≤k∧k<2^63
noncomputable def vQ {α:Type} (x:Option α) (p:Prop):M α:=fun σ=>x.bind fun a=>some ⟨a,σ,[p]⟩
noncomputable def C5 (T:Tab) (a:V) (k:Int):M V:=fun σ=>alt ((bc a).bind fun l=>some ⟨.str [av k l],σ,[an k,inR k l.length]⟩)
 (alt ((l7 T σ a).bind fun xs=>(idx k xs.length).bind fun j=>vQ xs[j]? (an k) σ) ((yL (T.obj σ a)).bind fun kvs=>ofO (kvs.lookup k) σ))
noncomputable def cg (T:Tab) (a i:V):M V:=fun σ=>alt ((cj i).bind fun k=>C5 T a k σ) ((bc i).bind fun k=>(lC (T.obj σ a)).bind fun kvs=>ofO (kvs.lookup ⟨k.toArray⟩) σ)
noncomputable def aX (cx:Cx) (T:Tab):Prop:= ∀a o,T.cons.lookup a=some o→OR cx 0 zero cx.h₀ a o
section
variable{cx:Cx}{K:Frag}{mg mb:Str→Option Value}{T:Tab}{A:Around}{σ:Hp}{ρ:Ids}{s:Shared}
theorem Sat.base{h:Heap}(S:Sat cx σ ρ h):Ext 0 zero cx.h₀ σ.length ρ h:=
 ⟨DU _,fun _ h=>absurd h (Eo _),fun i _ hi=>S.own i hi,fun a o e _=>S.keep a o e⟩
theorem aX.at{h:Heap}(C:aX cx T)(S:Sat cx σ ρ h){a:Addr}{o:AO}(e:T.cons.lookup a=some o):OR cx σ.length ρ h a o:=
 OR.ext S.base (fun ob q=>S.keep _ _ q) _ (C a o e)
theorem dp(C:aX cx T){h:Heap}(S:Sat cx σ ρ h){v:V}{o:AO}{x:Value}(e:T.obj σ v=some o)(r:VR σ.length ρ h v x): ∃a,x=.ref a∧OR cx σ.length ρ h a o:=
 gY (P:=fun v=>VR σ.length ρ h v x→ ∃a,x=.ref a∧OR cx σ.length ρ h a o) e (fun _ e r=>⟨_,r.2,S.obj _ _ e⟩) (fun _ e r=>⟨_,r,C.at S e⟩) (fun _=>noE) r
noncomputable def SeqAt (h:Heap) (n:Nat) (ρ:Ids) (xs:List V) (x:Value):Prop:= ∃a items k,x=.ref a∧(h.get? a=some (bG items k)∨h.get? a=some (bJ items k))∧VRs n ρ h xs items.toList
theorem nD(C:aX cx T){h:Heap}(S:Sat cx σ ρ h){v:V}{xs:List V}{x:Value}(e:l7 T σ v=some xs)(r:VR σ.length ρ h v x):SeqAt h σ.length ρ xs x:=
 gY (P:=fun v=>VR σ.length ρ h v x→SeqAt h σ.length ρ xs x) e
  (fun _ e r=>(S.obj _ _ (a7 e)).listK fun is k g vv=>⟨_,is,k,r.2,.inl g,vv⟩)
  (fun _ e r=>(vr e).elim (fun e=>(C.at S e).listK fun is k g vv=>⟨_,is,k,r,.inl g,vv⟩) (fun e=>(C.at S e).tuplK fun is k g vv=>⟨_,is,k,r,.inr g,vv⟩))
  (fun _ q r=>okE (P:=fun xs=>SeqAt h σ.length ρ xs x) q (r.tupK (P:=fun x=>SeqAt h σ.length ρ _ x) fun a is k g _ vv=>⟨a,is,k,rfl,.inr g,vv⟩)) r
open PySem.SeqAt
theorem nu{n:Nat}{h:Heap}{x:V}{y:Value}(hy:VR n ρ h x y){A':Around}: ∀{ys:List V} {zs:List Value} {r:Bool},VRs n ρ h ys zs→u7 x ys=some r→
  (∀z,z∈zs→EqAt A' s z y (cP z y))∧zs.any (fun z=>cP z y)=r
 | [],_,_,v,q=>v.k0 (P:=fun zs=>(∀z,z∈zs→EqAt A' s z y (cP z y))∧zs.any (fun z=>cP z y)=_) (okE (P:=fun r=>_∧_=r) q ⟨(fun z hz=>nomatch hz),rfl⟩)
 | w::ws,_,r,v,q=>v.k1 (P:=fun zs=>(∀z,z∈zs→EqAt A' s z y (cP z y))∧zs.any (fun z=>cP z y)=r) fun z zs v1 v2=>
  obK q fun b hb q=>obK q fun r' hr q=>
   have a:=kH v1 hy hb
   have⟨p1,p2⟩:=nu hy v2 hr
   okE (P:=fun r=>(∀z',z'∈z::zs→EqAt A' s z' y (cP z' y))∧(z::zs).any (fun z=>cP z y)=r) q
    ⟨fun z' hz=>(D1.mp hz).elim (fun e=>by refine rK (e ..) (rK (a.vl ..) ?_);exact a.eq _ _) (p1 z'),by exact rK (Gi ..) (rK (a.vl ..) (rK (p2 ..) rfl))⟩
end
section
open PySem.SeqAt
theorem iE: ∀x y:List Nat,ltN x y=decide (x<y)
 | [],[]=>(decide_eq_false (List.not_lt_nil _)).symm
 | [],_::_=>(decide_eq_true (List.nil_lt_cons _ _)).symm
 | _::_,[]=>(decide_eq_false (List.not_lt_nil _)).symm
 | a::x,b::y=>by
  refine rK (ltN.c ..) ?_
  refine rK (show decide (a::x<b::y)=decide (a<b∨a=b∧x<y)from decide_eq_decide.mpr List.cons_lt_cons_iff) ?_
  induction h:EH a b with
  | true=>
   have:a<b:=by simpa[ED]using h
   simp[this]
  | false=>
   have h1: ¬a<b:=fun q=>by replace h:=(ED.mpr q ..)▸h;cases h
   induction h2:DI a b with
   | true=>
    have:=DK h2
    subst this
    simp[iE x y]
   | false=>
    have:=EC h2
    simp[h1,this]
section
variable{cx:Cx}{K:Frag}{mg mb:Str→Option Value}{T:Tab}{A:Around}{σ:Hp}{ρ:Ids}{s:Shared}
theorem la(B:Base cx K mg mb){h:Heap}(S:Sat cx σ ρ h){i:Nat}(hi:i<σ.length):(ρ i==sysModules)=false:=by
 refine beq_eq_false_iff_ne.mpr fun e=>?_
 refine o11 B.sm fun o ho=>?_
 have:=S.own i hi
 replace this:=(ho ..)▸((e ..)▸this);cases this
noncomputable def eN (T:Tab):Prop:= ∀a o,T.cons.lookup a=some o→(a==sysModules)=false
theorem oX(B:Base cx K mg mb)(F:eN T){h:Heap}(S:Sat cx σ ρ h){v:V}{o:AO}{a:Addr}(e:T.obj σ v=some o)(r:VR σ.length ρ h v (.ref a)):(a==sysModules)=false:=
 gY (P:=fun v=>VR σ.length ρ h v (.ref a)→(a==sysModules)=false) e (fun _ _ y2k=>o02 y2k fun hi r=>by cases r;exact la B S hi) (fun _ e r=>by cases(r:Value.ref a=.ref _);exact F _ _ e) (fun _=>noE) r
theorem PRs.lookup{κ:Type}[DecidableEq κ]{n ρ h}{k:κ}: ∀{l:List (κ×V)} {ps:List (κ×Value)},PRs n ρ h l ps→(ps.lookup k).isSome=(l.lookup k).isSome∧(∀v,l.lookup k=some v→ ∃y,ps.lookup k=some y∧VR n ρ h v y)
 | [],ps,e=>by cases(e:ps=[]);exact⟨rfl,fun v q=>noE q⟩
 | (k',v')::l,ps,e=>by
  refine o23 e fun x xs e2q h1 h2=>?_;subst e2q
  refine o02 (PRs.lookup (k:=k) h2) fun p1 p2=>?_
  simp only[DW]
  induction q:k==k' with
  | true=>exact⟨rfl,fun v e=>by cases e;exact⟨x,rfl,h1⟩⟩
  | false=>exact⟨p1,p2⟩
theorem PRs.length{κ:Type}{n ρ h}: ∀{l:List (κ×V)} {ps:List (κ×Value)},PRs n ρ h l ps→ps.length=l.length
 | [],ps,e=>congrArg Ea e
 | (k',v')::l,ps,e=>by
  refine o23 e fun x xs e2q h1 h2=>?_;subst e2q
  exact congrArg GG (PRs.length h2)
theorem rY{n ρ h}{l:List Nat}{x:Value}(r:VR n ρ h (.str l) x): ∃t,x=.str ⟨l.toArray⟩ t:=r
theorem u6{n ρ h}{x:Value}(r:VR n ρ h .none x):x=.none:=r
theorem kG{n ρ h}{b:Bool}{x:Value}(r:VR n ρ h (.bool b) x):x=.bool b:=r
theorem ag.bool(S:Sat cx σ ρ s.heap)(b:Bool){n:Nat}:ag cx σ.length ρ s σ (IsV (.bool b)) (.bool b) {s with toks:=n}:=
 ag.same (R:=IsV (.bool b)) S rfl rfl rfl rfl
theorem ag.bool'(S:Sat cx σ ρ s.heap){b c:Bool}(h:c=b){n:Nat}:ag cx σ.length ρ s σ (IsV (.bool b)) (.bool c) {s with toks:=n}:=h▸ag.bool S c
theorem br{κ:Type}[DecidableEq κ]{k:κ}: ∀ps:List (κ×Value),valueAt ps k=ps.lookup k
 | []=>rfl
 | (k',v)::ps=>by
  have ih:=br (k:=k) ps
  unfold valueAt at ih ⊢
  simp only[List.find?_cons,DW]
  by_cases q:k'=k
  ·subst q;simp
  ·have q2: ¬k=k':=fun e=>q e.symm
   simp only[q,decide_false]
   refine rK (beq_eq_false_iff_ne.mpr q2 ..) ?_
   exact ih
theorem dict_str(C:aX cx T){h:Heap}(S:Sat cx σ ρ h){v:V}{x:Value}{kvs:List (Str×V)}(e:T.obj σ v=some (.dict kvs))(r:VR σ.length ρ h v x): ∃a ps,x=.ref a∧h.DictOf (strKind cx.prog cx.w) a ps∧PRs σ.length ρ h kvs ps:=by
 obtain⟨a,rfl,ps,h1,h2⟩:=dp C S e r
 exact⟨a,ps,rfl,h1,h2⟩
theorem dict_int(C:aX cx T){h:Heap}(S:Sat cx σ ρ h){v:V}{x:Value}{kvs:List (Int×V)}(e:T.obj σ v=some (.idict kvs))(r:VR σ.length ρ h v x): ∃a ps,x=.ref a∧h.DictOf (intKind cx.prog cx.w) a ps∧PRs σ.length ρ h kvs ps:=by
 obtain⟨a,rfl,ps,h1,h2⟩:=dp C S e r
 exact⟨a,ps,rfl,h1,h2⟩
noncomputable abbrev et (cx:Cx) (A:Around) (σ:Hp) (ρ:Ids) (s:Shared) (x y:Value) (r:Bool):Prop:=ak cx A σ ρ s (compareOp .In x y) σ (IsV (.bool r))∧ak cx A σ ρ s (compareOp .NotIn x y) σ (IsV (.bool (!r)))
theorem uu(S:Sat cx σ ρ s.heap){l:List Nat}{c:Nat}{t u:Tok}{r:Bool}(e:some (aB c l)=some r):et cx A σ ρ s (.str ⟨#[c]⟩ t) (.str ⟨l.toArray⟩ u) r:=by
 refine okE (P:=et cx A σ ρ s _ _) e ?_
 have hq:(!(Builtin.Str.occurrences ⟨l.toArray⟩ ⟨#[c]⟩ 0 (⟨l.toArray⟩:Str).length 1).isEmpty)=aB c l:=by
  refine rK (aN ..) ?_;exact PySem.StrLaws.found_one ⟨l.toArray⟩ c
 exact⟨PySem.P.in_str (ag.bool' S hq (n:=s.toks)),PySem.P.notIn_str (ag.bool' S (congrArg _ hq) (n:=s.toks))⟩
theorem uw(S:Sat cx σ ρ s.heap){ys:List V}{a:V}{x y:Value}(ha:VR σ.length ρ s.heap a x)(q:SeqAt s.heap σ.length ρ ys y){r:Bool}(e:u7 a ys=some r):et cx A σ ρ s x y r:=by
 refine o33 q fun p items k e3q g v=>?_;subst e3q
 obtain⟨h1,h2⟩:=nu (A':=A.in1) ha v e
 have h3: ∀z,z∈items→EqAt A.in1 s z x (cP z x):=fun z hz=>h1 z (Array.mem_toList_iff.mpr hz)
 have h4:items.any (fun z=>cP z x)=r:=by rw[←Array.any_toList];exact h2
 exact g.elim (fun g=>⟨in_listAt _ ⟨_,g,rfl,_,rfl⟩ h3 (ag.bool' S h4 (n:=s.toks)),notIn_listAt _ ⟨_,g,rfl,_,rfl⟩ h3 (ag.bool' S (congrArg _ h4) (n:=s.toks))⟩)
  fun g=>⟨in_tupleAt _ ⟨_,g,rfl,_,rfl⟩ h3 (ag.bool' S h4 (n:=s.toks)),notIn_tupleAt _ ⟨_,g,rfl,_,rfl⟩ h3 (ag.bool' S (congrArg _ h4) (n:=s.toks))⟩
theorem rD(B:Base cx K mg mb)(C:aX cx T)(F:eN T)(S:Sat cx σ ρ s.heap){a b:V}{x y:Value}(ha:VR σ.length ρ s.heap a x)(hb:VR σ.length ρ s.heap b y){r:Bool}(e:xM (T.obj σ b) a=some r):et cx A σ ρ s x y r:=
 bX (P:=fun _ x=>et cx A σ ρ s x y r) ha e noE (fun _=>noE)
  (fun k t e=>obK e fun kvs hd e=>by
   refine o23 (dict_int C S (hX hd) hb) fun p ps e2q g v=>?_;subst e2q
   have hq:(valueAt ps k).isSome=r:=by refine rK (br ..) (rK (v.lookup.1 ..) ?_);exact DZ e
   have hk:(intKind cx.prog cx.w).is k (.int k t)=true:=beq_self_eq_true k
   have hf:=oX B F S (hX hd) hb
   exact⟨wpAny_in_of hk hf g.mapOf (ag.bool' S hq (n:=s.toks+1)),wpAny_notIn_of hk hf g.mapOf (ag.bool' S (congrArg _ hq) (n:=s.toks+1))⟩)
  (fun k t e=>obK e fun kvs hd e=>by
   refine o23 (dict_str C S (ci hd) hb) fun p ps e2q g v=>?_;subst e2q
   have hq:(valueAt ps ⟨k.toArray⟩).isSome=r:=by refine rK (br ..) (rK (v.lookup.1 ..) ?_);exact DZ e
   have hk:(strKind cx.prog cx.w).is ⟨k.toArray⟩ (.str ⟨k.toArray⟩ t)=true:=PySem.strKind_is _ _ _ _
   have hf:=oX B F S (ci hd) hb
   exact⟨wpAny_in_of hk hf g.mapOf (ag.bool' S hq (n:=s.toks+1)),wpAny_notIn_of hk hf g.mapOf (ag.bool' S (congrArg _ hq) (n:=s.toks+1))⟩)
theorem kA(B:Base cx K mg mb)(C:aX cx T)(F:eN T)(S:Sat cx σ ρ s.heap){a b:V}{x y:Value}(ha:VR σ.length ρ s.heap a x)(hb:VR σ.length ρ s.heap b y){r:Bool}(e:cont T σ a b=some r):et cx A σ ρ s x y r:=
 dB e (fun e=>obK e fun l hl e=>obK e fun c hc e=>obK hc fun l' hl' hc=>cK (P:=fun y=>et cx A σ ρ s x y r) hb hl fun u=>cK (P:=fun x=>et cx A σ ρ s x _ r) ha hl' fun t=>k7 hc▸uu S e)
  fun e=>dB e (fun e=>obK e fun ys hy e=>uw S ha (nD C S hy hb) e) fun e=>rD B C F S ha hb e
noncomputable abbrev IsQ (x y:Value) (r:Bool):Prop:=plainIs x y=true∧(x==y)=r
theorem tL{a:Addr}{n:Nat}{ρ:Ids}{h:Heap}{b:V}{y:Value}{x:Value}(hx:(plainIs x .none=true∧(x==.none)=false)∧ ∀c,plainIs x (.bool c)=true∧(x==.bool c)=false)(hb:VR n ρ h b y){r:Bool}(e:isN b=some r):IsQ x y r:=
 bX (P:=fun _ y=>IsQ x y r) hb e (fun q=>okE (P:=IsQ x .none) q hx.1) (fun c q=>okE (P:=IsQ x (.bool c)) q (hx.2 c)) (fun _ _=>noE) fun _ _=>noE
theorem yJ{n:Nat}{ρ:Ids}{h:Heap}{a b:V}{x y:Value}(ha:VR n ρ h a x)(hb:VR n ρ h b y){r:Bool}(e:tI a b=some r):IsQ x y r:=
 dB e (fun e=>bX (P:=fun _ x=>IsQ x y r) ha e
   (fun e=>bX (P:=fun _ y=>IsQ .none y r) hb e (fun q=>okE (P:=IsQ _ _) q ⟨rfl,rfl⟩) (fun _ q=>okE (P:=IsQ _ _) q ⟨rfl,rfl⟩) (fun _ _ q=>okE (P:=IsQ _ _) q ⟨rfl,rfl⟩) fun _ _ q=>okE (P:=IsQ _ _) q ⟨rfl,rfl⟩)
   (fun c e=>bX (P:=fun _ y=>IsQ (.bool c) y r) hb e (fun q=>okE (P:=IsQ _ _) q ⟨rfl,rfl⟩) (fun d q=>okE (P:=IsQ _ _) q (by induction c<;>induction d<;>exact⟨rfl,rfl⟩)) (fun _ _=>noE) fun _ _=>noE)
   (fun _ _ e=>tL (a:=0) ⟨⟨rfl,rfl⟩,fun _=>⟨rfl,rfl⟩⟩ hb e) fun _ _ e=>tL (a:=0) ⟨⟨rfl,rfl⟩,fun _=>⟨rfl,rfl⟩⟩ hb e)
  fun e=>dB e (fun e=>obK e fun _ q e=>o11 (p8 ha q) fun _ p=>p▸tL (a:=0) ⟨⟨rfl,rfl⟩,fun _=>⟨rfl,rfl⟩⟩ hb e)
   fun e=>obK e fun _ q e=>bX (P:=fun _ x=>IsQ x y r) ha q (fun _=>o11 (p8 hb e) fun _ p=>p▸gY (P:=fun _=>IsQ .none (.ref _) r) e (fun _ q=>okE (P:=IsQ _ _) q ⟨rfl,rfl⟩) (fun _ q=>okE (P:=IsQ _ _) q ⟨rfl,rfl⟩) fun _ q=>okE (P:=IsQ _ _) q ⟨rfl,rfl⟩) (fun _=>noE) (fun _ _=>noE) fun _ _=>noE
theorem pn(S:Sat cx σ ρ s.heap){a b:V}{x y:Value}(ha:VR σ.length ρ s.heap a x)(hb:VR σ.length ρ s.heap b y){r:Bool}(e:tI a b=some r):
  ak cx A σ ρ s (compareOp .Is x y) σ (IsV (.bool r))∧ak cx A σ ρ s (compareOp .IsNot x y) σ (IsV (.bool (!r))):=
 have key:=yJ ha hb e
 ⟨wpAny_is_plain key.1 (ag.bool' S key.2 (n:=s.toks)),wpAny_isNot_plain key.1 (ag.bool' S (congrArg _ key.2) (n:=s.toks))⟩
theorem eI{n:Nat}{ρ:Ids}{h:Heap}{x y:Value}{a b:V}{f g}{r:Bool}(ha:VR n ρ h a x)(hb:VR n ρ h b y)(e:uD f g a b=some r){P:Value→Value→Bool→Prop}
  (k1: ∀i j t u,P (.int i t) (.int j u) (f i j)) (k2: ∀l m t u,P (.str ⟨l.toArray⟩ t) (.str ⟨m.toArray⟩ u) (g l m)):P x y r:=
 dB e (fun e=>obK e fun i hi e=>obK e fun j hj e=>gJ (P:=fun x=>P x y r) ha hi fun t=>gJ (P:=fun y=>P _ y r) hb hj fun u=>okE (P:=P _ _) e (k1 i j t u))
  fun e=>obK e fun i hi e=>obK e fun j hj e=>cK (P:=fun x=>P x y r) ha hi fun t=>cK (P:=fun y=>P _ y r) hb hj fun u=>okE (P:=P _ _) e (k2 i j t u)
theorem gA{x:Option Bool}{r:Bool}(e:vZ x=some r):x=some (!r):=by
 induction x with
 | none=>cases e
 | some b=>cases e;exact rK (Gn ..) rfl
theorem e8{α:Type}{P:Prop}{b:Bool}{x:Option α}{a:α}(h:aD b x=some a)(k:b=true→x=some a→P):P:=by
 induction b with
 | true=>exact k rfl h
 | false=>exact noE h
theorem qe(S:Sat cx σ ρ s.heap)(hu:A.units<cLine){a b:V}{x y:Value}(ha:VR σ.length ρ s.heap a x)(hb:VR σ.length ρ s.heap b y){r:Bool}(e:zl σ a b=some r):RcAt A s x y r:=
 obK e fun i hi e=>obK e fun j hj e=>obK e fun xs hx e=>obK e fun ys hy e=>e8 e fun hn e=>eS (P:=fun x=>RcAt A s x y r) ha hi fun _=>eS (P:=fun y=>RcAt A s _ y r) hb hj fun _=>
  (S.obj _ _ (a7 hx)).listK fun is k1 g1 v1=>(S.obj _ _ (a7 hy)).listK fun js k2 g2 v2=>okE (P:=fun r=>RcAt A s _ _ r) e (by
   have l1:xs.length=is.size:=v1.length.trans Array.length_toList
   have l2:ys.length=js.size:=v2.length.trans Array.length_toList
   induction ys with
   | cons _ _=>cases hn
   | nil=>induction xs with
    | nil=>
     have:=RcAt.lists (A:=A) (e:=fun _=>true) ⟨_,g1,rfl,_,rfl⟩ ⟨_,g2,rfl,_,rfl⟩ (l1.symm.trans l2) hu (fun j h1=>absurd (l1▸h1) (Eo _))
     replace this:=Eh (l1 ..)▸this
     exact this
    | cons _ _=>exact RcAt.lists_lengths ⟨_,g1,rfl,_,rfl⟩ ⟨_,g2,rfl,_,rfl⟩ (bne_iff_ne.mpr fun q=>nomatch (l1.trans q).trans l2.symm) hu)
theorem nh(B:Base cx K mg mb)(C:aX cx T)(F:eN T)(S:Sat cx σ ρ s.heap)(hu:A.units<cLine){op:CmpOp}{a b:V}{x y:Value}(ha:VR σ.length ρ s.heap a x)(hb:VR σ.length ρ s.heap b y){r:Bool}(e:zb T σ op a b=some r):
  ak cx A σ ρ s (compareOp op x y) σ (IsV (.bool r)):=by
 induction op with
 | Eq=>exact dB (P:=RcAt A s x y r) e (fun e=>(kH ha hb e).rc A s) (fun e=>qe S hu ha hb e) cx.prog cx.w _ _ (ag.bool S _)
 | NotEq=>exact(Gn r▸(kH ha hb (gA e)).ne A s) cx.prog cx.w _ _ (ag.bool S _)
 | Is=>exact(pn S ha hb e).1
 | IsNot=>exact Gn r▸(pn (A:=A) S ha hb (gA (x:=tI a b) e)).2
 | In=>exact(kA B C F S ha hb e).1
 | NotIn=>exact Gn r▸(kA (A:=A) B C F S ha hb (gA (x:=cont T σ a b) e)).2
 | Lt=>exact eI (P:=fun x y r=>ak cx A σ ρ s (compareOp .Lt x y) σ (IsV (.bool r))) ha hb e (fun _ _ _ _=>PySem.P.lt_int (ag.bool S _)) fun l m _ _=>PySem.P.lt_str (iE l m▸ag.bool S _)
 | LtE=>exact eI (P:=fun x y r=>ak cx A σ ρ s (compareOp .LtE x y) σ (IsV (.bool r))) ha hb e (fun _ _ _ _=>PySem.P.le_int (ag.bool S _)) fun l m _ _=>PySem.P.le_str (iE m l▸ag.bool S _)
 | Gt=>exact eI (P:=fun x y r=>ak cx A σ ρ s (compareOp .Gt x y) σ (IsV (.bool r))) ha hb e (fun _ _ _ _=>PySem.P.gt_int (ag.bool S _)) fun l m _ _=>PySem.P.gt_str (iE m l▸ag.bool S _)
 | GtE=>exact eI (P:=fun x y r=>ak cx A σ ρ s (compareOp .GtE x y) σ (IsV (.bool r))) ha hb e (fun _ _ _ _=>PySem.P.ge_int (ag.bool S _)) fun l m _ _=>PySem.P.ge_str (iE l m▸ag.bool S _)
theorem eC{n:Nat}(h:n≤sizeLine):(n:Int)<2^63:=by rw[sizeLine_eq]at h;lia
theorem jv:typeLookup (.type "method") (Str.ofString "__bool__")=pure none:=by kernel_rfl
theorem lg:typeLookup (.type "method") (Str.ofString "__len__")=pure none:=by kernel_rfl
theorem jn{prog:Program}{w:World}{E:Value→Shared→Prop}{s:Shared}{a:Addr}{f v:Value}{Q:Bool→Shared→Prop}(ho:s.heap.get? a=some (methodObj f v))(h:Q true s):wpAny (model prog w) A (truthy (.ref a)) Q E s:=by
 have ht:s.TypeIs (.ref a) "method":=⟨_,ho,rfl⟩
 unfold truthy
 refine wpAny_bind (wpAny_callSpecial?_none (name:=Str.ofString "__bool__") ht jv ?_)
 refine wpAny_bind (wpAny_specialOf (name:=Str.ofString "__len__") ht lg ?_)
 exact wpAny_pure h
theorem qi(S:Sat cx σ ρ s.heap){xs:List V}{i:Nat}(hi:i<σ.length)(hx:σ[i]?=some (.list xs))(ob:xs.length≤sizeLine):ak cx A σ ρ s (truthy (.ref (ρ i))) σ (fun _ _ _ b=>b=bR xs):=by
 refine(S.obj _ _ hx).listK fun items k g v=>?_
 have hl:xs.length=items.size:=v.length.trans Array.length_toList
 refine wpAny_truthy_list ⟨_,g,rfl,_,rfl⟩ (hl▸eC ob) (ag.same (R:=fun _ _ _ b=>b=bR xs) S rfl rfl rfl ?_)
 show(!Array.isEmpty items)=_
 rw[Array.isEmpty,←hl];induction xs<;>rfl
theorem qj(B:Base cx K mg mb)(S:Sat cx σ ρ s.heap){xs:List (Str×V)}{i:Nat}(hi:i<σ.length)(hx:σ[i]?=some (.dict xs))(ob:xs.length≤sizeLine):ak cx A σ ρ s (truthy (.ref (ρ i))) σ (fun _ _ _ b=>b=bR xs):=by
 refine(S.obj _ _ hx).dictK fun ps g v=>?_
 have hl:ps.length=xs.length:=v.length
 refine wpAny_truthy_dict (la B S hi) g (hl.symm▸eC ob) (ag.same (R:=fun _ _ _ b=>b=bR xs) S rfl rfl rfl ?_)
 induction ps with
 | nil=>induction xs with
  | nil=>rfl
  | cons _ _=>cases hl
 | cons _ _=>induction xs with
  | nil=>cases hl
  | cons _ _=>rfl
theorem ia(B:Base cx K mg mb)(S:Sat cx σ ρ s.heap){v:V}{x:Value}(hv:VR σ.length ρ s.heap v x){r:Bool}(e:truth T σ v=some r)(ob:cw (kJ σ v)):
  ak cx A σ ρ s (truthy x) σ (fun _ _ _ b=>b=r):=
 have same: ∀(n:Nat) (b:Bool),b=r→ag cx σ.length ρ s σ (fun _ _ _ b=>b=r) b {s with toks:=n}:=fun n b q=>ag.same (R:=fun _ _ _ b=>b=r) S rfl rfl rfl q
 dB e (fun e=>bX (P:=fun v x=>cw (kJ σ v)→ak cx A σ ρ s (truthy x) σ (fun _ _ _ b=>b=r)) hv e (fun e _=>PyProof.Rows.truthy_none (same s.toks _ (DZ e))) (fun b e _=>wpAny_truthy_bool (same s.toks _ (DZ e)))
   (fun i t e _=>PySem.P.truthy_int (same s.toks _ (DZ e)))
   (fun l t e ob=>by
    have hl:(⟨l.toArray⟩:Str).length=l.length:=EM ..
    refine PySem.P.truthy_str (by refine rK (hl ..) ?_;have:=eC (n:=l.length) ob;(exact Gw.mpr this)) (same _ _ ?_)
    refine rK (hl ..) (FL (DZ e ..) ?_)
    induction l<;>rfl) ob)
  fun e=>dB e (fun e=>obK e fun i hi e=>eS (P:=fun x=>ak cx A σ ρ s (truthy x) σ (fun _ _ _ b=>b=r)) hv hi fun hlt=>by
   replace ob:=(dN hi ..)▸ob
   refine dB e (fun e=>obK e fun xs hx e=>?_) fun e=>obK e fun xs hx e=>?_
   ·have hx:=a7 hx
    replace ob:cw (yE σ[i]?):=ob
    replace ob:=(hx ..)▸ob
    exact okE (P:=fun r=>ak cx A σ ρ s (truthy (.ref (ρ i))) σ (fun _ _ _ b=>b=r)) e (qi S hlt hx ob)
   ·have hx:=ci hx
    replace ob:cw (yE σ[i]?):=ob
    replace ob:=(hx ..)▸ob
    exact okE (P:=fun r=>ak cx A σ ρ s (truthy (.ref (ρ i))) σ (fun _ _ _ b=>b=r)) e (qj B S hlt hx ob))
  fun e=>obK e fun _ h e=>by
   cases v with
   | meth f i=>exact let ⟨_,a,q,ho,_⟩:=hv;(q:x=_)▸jn ho (same s.toks _ (DZ e))
   | _=>exact noE h
end
end
section
open PySem.SeqAt
theorem qM{α:Type}{x:Option α}{p:Prop}{σ:Hp}{o:Out α}(h:vQ x p σ=some o):x=some o.v∧o.σ=σ∧(o.ob→p):=
 obK h fun _ q h=>okE (P:=fun o=>x=some o.v∧o.σ=σ∧(o.ob→p)) h ⟨q,rfl,id⟩
theorem oK{m n:Nat}(h:m<n):seqIndex? (DM m) n=some (n-(m+1)):=by
 refine rK (PySem.seqIndex_neg (Int.negSucc_lt_zero m) (Int.neg_le_neg (Gm.mpr h): -(n:Int)≤ -((m+1:Nat):Int)) ..) ?_
 exact congrArg (fun i=>some (Int.toNat i)) (Int.subNatNat_of_le h:Int.subNatNat n (m+1)=_)
theorem oJ{m n:Nat}(h:m<n):seqIndex? (dV m) n=some m:=by
 show seqIndex? (m:Int) n=some m
 refine rK (PySem.seqIndex_of (Fy m) (FP.mpr h) ..) ?_;rfl
theorem wu{k:Int}{n j:Nat}(h:idx k n=some j):seqIndex? k n=some j∧j<n:=by
 induction k with
 | ofNat m=>
  replace h:(match EH m n with | true=>some m | false=>none)=some j:=h
  induction hb:EH m n with
  | true=>rw[hb]at h;exact okE (P:=fun j=>seqIndex? _ n=some j∧j<n) h ⟨oJ (ED.mp hb),ED.mp hb⟩
  | false=>rw[hb]at h;exact noE h
 | negSucc m=>
  replace h:(match EH m n with | true=>some (n-(m+1)) | false=>none)=some j:=h
  induction hb:EH m n with
  | true=>rw[hb]at h;exact okE (P:=fun j=>seqIndex? _ n=some j∧j<n) h ⟨oK (ED.mp hb),Nat.sub_lt (Ga (ED.mp hb)) (DO _)⟩
  | false=>rw[hb]at h;exact noE h
noncomputable def placeOf (k:Int) (n:Nat):Nat:=match k with
 | .ofNat j=>j
 | .negSucc j=>n-(j+1)
theorem getD_at{l:List Nat}{m:Nat}(h:m<l.length):l[m]?=some (l.getD m 0):=by refine rK (Eb ..) (rK (DH h ..) ?_);rfl
theorem nC{k:Int}{l:List Nat}(h:inR k l.length):seqIndex? k l.length=some (placeOf k l.length)∧l[placeOf k l.length]?=some (av k l):=by
 induction k with
 | ofNat m=>exact⟨oJ h,getD_at h⟩
 | negSucc m=>exact⟨oK h,getD_at (Nat.sub_lt (Ga h) (DO _))⟩
section
variable{cx:Cx}{K:Frag}{mg mb:Str→Option Value}{T:Tab}{A:Around}{σ:Hp}{ρ:Ids}{s:Shared}
theorem VRs.size{n ρ h}{l:List V}{items:Array Value}(v:VRs n ρ h l items.toList):l.length=items.size:=v.length.trans Array.length_toList
theorem VRs.at{n ρ h}{l:List V}{items:Array Value}(v:VRs n ρ h l items.toList){j:Nat}{a:V}(e:l[j]?=some a): ∃y,items[j]?=some y∧VR n ρ h a y:=by
 refine o11 (DT.mp e) fun hj e1q=>?_;subst e1q
 have hj':j<items.size:=v.size▸hj
 refine⟨items[j],by simp[hj'],?_⟩
 have:=v.get j hj (by simpa using hj')
 rwa[Array.getElem_toList]at this
noncomputable abbrev eM (cx:Cx) (A:Around) (σ:Hp) (ρ:Ids) (s:Shared) (x y:Value) (o:Out V):Prop:=o.σ=σ∧ak cx A σ ρ s (getItem x y) σ (IsV o.v)
theorem ag.stay{σ:Hp}{ρ:Ids}{s:Shared}(S:Sat cx σ ρ s.heap){v:V}{z:Value}(n:Nat)(hz:VR σ.length ρ s.heap v z):ag cx σ.length ρ s σ (IsV v) z {s with toks:=n}:=ag.same S rfl rfl rfl hz
theorem wx(S:Sat cx σ ρ s.heap){k:Int}{l:List Nat}{t u:Tok}(o1: -(2^63)≤k)(o2:k<2^63)(o3:inR k l.length):ak cx A σ ρ s (getItem (.str ⟨l.toArray⟩ u) (.int k t)) σ (IsV (.str [av k l])):=by
 refine o02 (nC o3) fun h1 hc=>?_
 refine PySem.P.getItem_str (c:=av k l) ?_ ?_ (ag.stay S _ ⟨_,rfl⟩)
 ·exact FV.mpr ⟨decide_eq_false (F9.mpr o1),decide_eq_false (Gw.mpr o2)⟩
 ·refine rK (show(⟨l.toArray⟩:Str).length=l.length from EM ..) (rK (h1 ..) ?_)
  exact(List.getElem?_toArray ..).trans hc
theorem wy(S:Sat cx σ ρ s.heap){k:Int}{t:Tok}{xs:List V}{x:Value}{j:Nat}{o:Out V}(q:SeqAt s.heap σ.length ρ xs x)(hj:idx k xs.length=some j)(e:vQ xs[j]? (an k) σ=some o)(ob:o.ob):eM cx A σ ρ s x (.int k t) o:=by
 refine o03 (qM e) fun e1 e2 e3=>?_
 refine o33 q fun p items m e3q g v=>?_;subst e3q
 refine o12 (v.at e1) fun z hz hv=>?_
 refine o02 (wu hj) fun h1 h2=>?_
 rw[v.size]at h1 h2
 refine o02 (e3 ob) fun o1 o2=>?_
 refine⟨e2,g.elim (fun g=>?_) fun g=>PySem.P.getItem_tuple g o1 o2 h1 hz (ag.stay S s.toks hv)⟩
 rcases Int.lt_or_le k 0 with h0 | h0
 ·have hk: -(items.size:Int)≤k:=F9.mp fun q=>by replace h1:=(PySem.seqIndex_below q ..)▸h1;exact noE h1
  exact wpAny_getItem_list_neg ⟨_,g,rfl,_,rfl⟩ h0 hk o1 (by refine rK (DZ ((PySem.seqIndex_neg h0 hk).symm.trans h1) ..) ?_;exact hz) (ag.stay S s.toks hv)
 ·have hk:k<(items.size:Int):=Gw.mp fun q=>by replace h1:=(PySem.MeetsSeq.seqIndex_none_hi q ..)▸h1;exact noE h1
  exact wpAny_getItem_list ⟨_,g,rfl,_,rfl⟩ h0 o2 (by refine rK (DZ ((PySem.seqIndex_of h0 hk).symm.trans h1) ..) ?_;exact hz) (ag.stay S s.toks hv)
theorem ga(C:aX cx T)(S:Sat cx σ ρ s.heap){a b:V}{x y:Value}(ha:VR σ.length ρ s.heap a x)(hb:VR σ.length ρ s.heap b y){o:Out V}(e:cg T a b σ=some o)(ob:o.ob):eM cx A σ ρ s x y o:=
 dB e (
   fun e=>obK e fun k hk e=>gJ (P:=fun y=>eM cx A σ ρ s x y o) hb hk fun t=>
   dB e (fun e=>obK e fun l hl e=>cK (P:=fun x=>eM cx A σ ρ s x (.int k t) o) ha hl fun u=>okE (P:=fun o=>o.ob→eM cx A σ ρ s _ (.int k t) o) e (fun ob=>⟨rfl,wx S ob.1.1 ob.1.2 ob.2⟩) ob)
    fun e=>dB e (fun e=>obK e fun xs hx e=>obK e fun j hj e=>wy S (nD C S hx ha) hj e ob)
     fun e=>obK e fun kvs hd e=>let ⟨e1,e2⟩:=fP e
      let ⟨_,_,p,g,v⟩:=dict_int C S (hX hd) ha
      let ⟨_,hz,hv⟩:=v.lookup.2 _ e1
      p▸⟨e2,wpAny_getItem_of (beq_self_eq_true k) g.mapOf ((br _).trans hz) (ag.stay S _ hv)⟩)
  fun e=>obK e fun k hk e=>cK (P:=fun y=>eM cx A σ ρ s x y o) hb hk fun t=>obK e fun kvs hd e=>
   let ⟨e1,e2⟩:=fP e
   let ⟨_,_,p,g,v⟩:=dict_str C S (ci hd) ha
   let ⟨_,hz,hv⟩:=v.lookup.2 _ e1
   p▸⟨e2,wpAny_getItem_of (PySem.strKind_is _ _ _ _) g.mapOf ((br _).trans hz) (ag.stay S _ hv)⟩
theorem VRs.append{n ρ h}: ∀{l m:List V} {xs ys:List Value},VRs n ρ h l xs→VRs n ρ h m ys→VRs n ρ h (l++m) (xs++ys)
 | [],m,_,ys,v,w=>v.k0 (P:=fun xs=>VRs n ρ h m (xs++ys)) w
 | a::l,m,_,ys,v,w=>v.k1 (P:=fun xs=>VRs n ρ h (a::(l++m)) (xs++ys)) fun z zs h1 h2=>⟨z,zs++ys,rfl,h1,VRs.append h2 w⟩
theorem ag.int(S:Sat cx σ ρ s.heap)(i:Int){n:Nat}{t:Tok}:ag cx σ.length ρ s σ (IsV (.int i)) (.int i t) {s with toks:=n}:=ag.same (R:=IsV _) S rfl rfl rfl ⟨_,rfl⟩
theorem ag.str(S:Sat cx σ ρ s.heap)(l:List Nat){n:Nat}{t:Tok}:ag cx σ.length ρ s σ (IsV (.str l)) (.str ⟨l.toArray⟩ t) {s with toks:=n}:=ag.same (R:=IsV _) S rfl rfl rfl ⟨_,rfl⟩
theorem ag.push(S:Sat cx σ ρ s.heap){o:AO}{ob:Obj}{n:Nat}(hf:ob.isFreed=false)
  (ho: ∀ρ',Ext σ.length ρ s.heap (σ.length+1) ρ' (s.heap.push ob)→ρ' σ.length=s.heap.objs.size→OR cx (σ.length+1) ρ' (s.heap.push ob) s.heap.objs.size o):
  ag cx σ.length ρ s (σ++[o]) (IsV (.ref σ.length)) (.ref s.heap.objs.size) {s with heap:=s.heap.push ob,toks:=n}:=by
 refine o13 (S.new (h':=s.heap.push ob) (Heap.get?_none_of_le (DQ _)) (fun b o' q=>Heap.get?_push_of_some ob q) ⟨ob,Heap.get?_push_size _ hf⟩ ho) fun ρ' e S' x=>?_
 refine⟨ρ',⟨S',by refine rK (pm ..) ?_;exact x,rfl,rfl⟩,?_⟩
 refine rK (pm ..) ?_
 exact⟨EB _,by exact rK (e ..) (rK (cn ..) rfl)⟩
theorem sZ{items:Array Value}(h:0<items.size): ¬items.isEmpty=true:=by
 intro e
 rw[Array.isEmpty_iff.mp e]at h;exact Fk _ h
theorem b7(l:List Nat):(⟨l.toArray⟩:Str).length=l.length:=EM ..
theorem kN(l m:List Nat):(⟨l.toArray⟩:Str)++⟨m.toArray⟩=⟨(l++m).toArray⟩:=by
 show Str.append _ _=_
 simp[Str.append]
theorem ag.tup(S:Sat cx σ ρ s.heap){l:List V}{items:Array Value}{n:Nat}(v:VRs σ.length ρ s.heap l items.toList):
  ag cx σ.length ρ s σ (IsV (.tup l)) (.ref s.heap.objs.size) {s with heap:=s.heap.push (bJ items 0),toks:=n}:=by
 refine o02 (S.grow (h':=s.heap.push (bJ items 0)) fun b o' q=>Heap.get?_push_of_some _ q) fun S' x=>?_
 refine⟨ρ,⟨S',x,rfl,rfl⟩,?_⟩
 refine⟨_,items,0,rfl,Heap.get?_push_size _ rfl,fun j hj e=>?_,VRs.ext x _ _ v⟩
 refine o11 (S.live j hj) fun o ho=>?_
 replace ho:=(Heap.get?_none_of_le (DQ _) ..)▸((e ..)▸ho);cases ho
theorem ag.list(S:Sat cx σ ρ s.heap){l:List V}{items:Array Value}{n:Nat}(v:VRs σ.length ρ s.heap l items.toList):
  ag cx σ.length ρ s (σ++[.list l]) (IsV (.ref σ.length)) (.ref s.heap.objs.size) {s with heap:=s.heap.push (bG items 0),toks:=n}:=
 ag.push S rfl fun _ x _=>⟨items,0,Heap.get?_push_size _ rfl,VRs.ext x _ _ v⟩
section
variable{P:Value→Value→Prop}{n:Nat}{h:Heap}{a b:V}{x y:Value}{β:Type}{r:β}
theorem ka{f:Int→Int→Option β}(ha:VR n ρ h a x)(hb:VR n ρ h b y)(e:on2 cj f a b=some r)(k: ∀i j t u,f i j=some r→P (.int i t) (.int j u)):P x y:=
 obK e fun i hi e=>obK e fun j hj e=>gJ (P:=fun x=>P x y) ha hi fun t=>gJ (P:=fun y=>P _ y) hb hj fun u=>k i j t u e
theorem zY{f:Nat→Nat→Option β}(ha:VR n ρ h a x)(hb:VR n ρ h b y)(e:on2 eT f a b=some r)(k: ∀i j t u,f i j=some r→P (.int (.ofNat i) t) (.int (.ofNat j) u)):P x y:=
 obK e fun i hi e=>obK e fun j hj e=>r0 (P:=fun x=>P x y) ha hi fun t=>r0 (P:=fun y=>P _ y) hb hj fun u=>k i j t u e
theorem xn{f:List Nat→List Nat→Option β}(ha:VR n ρ h a x)(hb:VR n ρ h b y)(e:on2 bc f a b=some r)(k: ∀i j t u,f i j=some r→P (.str ⟨i.toArray⟩ t) (.str ⟨j.toArray⟩ u)):P x y:=
 obK e fun i hi e=>obK e fun j hj e=>cK (P:=fun x=>P x y) ha hi fun t=>cK (P:=fun y=>P _ y) hb hj fun u=>k i j t u e
theorem xw{f:Nat→Nat→Option β}(ha:VR n ρ h a x)(hb:VR n ρ h b y)(e:on2 bC f a b=some r)(k: ∀i j,i<n→j<n→f i j=some r→P (.ref (ρ i)) (.ref (ρ j))):P x y:=
 obK e fun i hi e=>obK e fun j hj e=>eS (P:=fun x=>P x y) ha hi fun t=>eS (P:=fun y=>P _ y) hb hj fun u=>k i j t u e
end
theorem ifK{α:Type}{P:Prop}{c:Bool}{x:Option α}{a:α}(e:(if c then none else x)=some a)(k:c=false→x=some a→P):P:=by
 induction c with
 | true=>exact noE e
 | false=>exact k rfl e
noncomputable abbrev bH (cx:Cx) (A:Around) (σ:Hp) (ρ:Ids) (s:Shared) (op:Operator) (o:Out V) (x y:Value):Prop:=o.ob→ak cx A σ ρ s (binaryOp op x y) o.σ (IsV o.v)
theorem jK{xs:List V}{items:Array Value}(e:bR xs=true)(h:xs.length=items.size): ¬items.isEmpty=true:=by
 refine sZ (h▸?_)
 induction xs with
 | nil=>cases e
 | cons _ _=>exact DO _
theorem rM(S:Sat cx σ ρ s.heap){xs ys:List V}{p c:Addr}{is js:Array Value}{k1 k2:Nat}{o:Out V}(g1:s.heap.get? p=some (bJ is k1))(g2:s.heap.get? c=some (bJ js k2))(v1:VRs σ.length ρ s.heap xs is.toList)(v2:VRs σ.length ρ s.heap ys js.toList)
  (e:(if bR xs&&bR ys then some ⟨.tup (xs++ys),σ,[xs.length+ys.length≤sizeLine]⟩else none)=some o):bH cx A σ ρ s .Add o (.ref p) (.ref c):=by
 induction q:bR xs&&bR ys with
 | false=>rw[q]at e;exact noE e
 | true=>
  rw[q]at e
  exact okE (P:=fun o=>bH cx A σ ρ s .Add o (.ref p) (.ref c)) e fun ob=>PySem.P.add_tuple g1 g2 (jK (Et.mp q).1 v1.size) (jK (Et.mp q).2 v2.size) (ag.tup (n:=s.toks) S (by rw[Array.toList_append];exact VRs.append v1 v2)) (v1.size▸v2.size▸ob)
theorem uZ(C:aX cx T)(S:Sat cx σ ρ s.heap){a b:V}{x y:Value}(ha:VR σ.length ρ s.heap a x)(hb:VR σ.length ρ s.heap b y){o:Out V}(e:uO T .Add a b σ=some o):bH cx A σ ρ s .Add o x y:=
 dB e (
   fun e=>ka ha hb e fun _ _ _ _ e=>okE (P:=fun o=>bH cx A σ ρ s .Add o _ _) e fun _=>AutoIntOps.add_0 (ag.int S _))
  fun e=>dB e (fun e=>xn ha hb e fun l m _ _ e=>okE (P:=fun o=>bH cx A σ ρ s .Add o _ _) e fun ob=>PySem.SB.add (fun t' k=>(kN l m).symm▸ag.str S _) ((b7 l).symm▸(b7 m).symm▸ob))
  fun e=>dB e (fun e=>xw ha hb e fun i j _ _ e=>obK e fun xs hx e=>obK e fun ys hy e=>okE (P:=fun o=>bH cx A σ ρ s .Add o _ _) e fun ob=>
    (S.obj _ _ (a7 hx)).listK fun is k1 g1 v1=>(S.obj _ _ (a7 hy)).listK fun js k2 g2 v2=>
     PySem.P.add_list g1 g2 (ag.list (n:=s.toks) S (by refine rK (Array.toList_append ..) ?_;exact VRs.append v1 v2)) (v1.size▸v2.size▸ob))
  fun e=>obK e fun xs hx e=>obK e fun c hc e=>obK e fun ys hy e=>by
   replace ha:=(lO hx ..)▸ha
   replace hb:=(rZ hc ..)▸hb
   exact Eh (hb:y=_)▸ha.tupK (P:=fun x=>bH cx A σ ρ s .Add o x _) fun p is k1 g1 _ v1=>(C.at S (vc hy)).tuplK fun js k2 g2 v2=>rM S g1 g2 v1 v2 e
theorem ow(C:aX cx T)(S:Sat cx σ ρ s.heap){op:Operator}{a b:V}{x y:Value}(ha:VR σ.length ρ s.heap a x)(hb:VR σ.length ρ s.heap b y){o:Out V}(e:uO T op a b σ=some o):bH cx A σ ρ s op o x y:=by
 induction op with
 | Add=>exact uZ C S ha hb e
 | Sub=>exact ka ha hb e fun _ _ _ _ e=>okE (P:=fun o=>bH cx A σ ρ s .Sub o _ _) e fun _=>AutoIntOps.sub_0 (ag.int S _)
 | Mult=>exact ka ha hb e fun _ _ _ _ e=>okE (P:=fun o=>bH cx A σ ρ s .Mult o _ _) e fun ob=>AutoIntOps.mul_0 (ag.int S _) ob
 | Mod=>exact ka ha hb e fun _ _ _ _ e=>ifK e fun hy e=>okE (P:=fun o=>bH cx A σ ρ s .Mod o _ _) e fun _=>AutoIntOps.mod_1 (by simpa using hy) (ag.int S _)
 | FloorDiv=>exact ka ha hb e fun _ _ _ _ e=>ifK e fun hy e=>okE (P:=fun o=>bH cx A σ ρ s .FloorDiv o _ _) e fun ob=>AutoIntOps.floordiv_1 (by simpa using hy) (Eh (ob:_=false)▸Ec) (ag.int S _)
 | _=>exact noE e
theorem qf(B:Base cx K mg mb)(S:Sat cx σ ρ s.heap){op:UnaryOp}{a:V}{x:Value}(ha:VR σ.length ρ s.heap a x){o:Out V}(e:zn T op a σ=some o)(ob:o.ob):
  ak cx A σ ρ s (unaryOp op x) o.σ (IsV o.v):=by
 induction op with
 | Not=>
  refine obK e fun b hb e=>?_
  revert ob
  refine okE (P:=fun o=>o.ob→ak cx A σ ρ s (unaryOp .Not x) o.σ (IsV o.v)) e fun ob=>wpAny_holding (wpAny_bind ((ia B S ha hb ob).use fun c ρ' s' h1 h2=>wpAny_pure ⟨ρ',h1,?_⟩))
  exact congrArg (fun c=>Value.bool (!c)) h2
 | USub=>exact obK e fun i hi e=>gJ (P:=fun x=>ak cx A σ ρ s (unaryOp .USub x) o.σ (IsV o.v)) ha hi fun t=>okE (P:=fun o=>ak cx A σ ρ s (unaryOp .USub (.int i t)) o.σ (IsV o.v)) e (PySem.P.neg_int (ag.int S _))
 | _=>exact noE e
end
end
noncomputable def isNone (v:V):Bool:=match v.at4 (some ()) (fun _=>none) (fun _=>none) (fun _=>none) none with
 | some _=>true
 | none=>false
structure Ev where
 ex:EE→Expr→M V
 tst:EE→Expr→M Bool
 ss:EE→List Stmt→M Fl
 call:Nat→V→List V→List (Str×V)→M V
 adv:Pos→Option Bool:=fun _=>none
noncomputable def rR (q:Option Bool) (x:M Bool):M Bool:=match q with
 | none=>x
 | some b=>fun σ=>(x σ).bind fun o=>some ⟨b,o.σ,o.obs++[o.v=b]⟩
theorem tV{q:Option Bool}{x:M Bool}{σ:Hp}{P:Bool→Hp→Prop}(g:Gives (x σ) P):Gives (rR q x σ) P:=by
 induction q with
 | none=>exact g
 | some b=>exact ae fun o h=>af fun ob=>(cv ob).2▸g o h (cv ob).1
structure Orc where
 lp:EE→Stmt→M Fl
 lc:EE→Expr→M V
 cl:Addr→Option (Nat→List V→List (Str×V)→M V)
 sv:EE→Stmt→Option (M Fl):=fun _ _=>none
 xv:EE→Expr→Option (M V):=fun _ _=>none
 tb:Pos→Option Bool:=fun _=>none
noncomputable def yv (o:AO):M V:=fun σ=>some ⟨.ref σ.length,σ++[o],[]⟩
noncomputable def isStar (e:Expr):Bool:=by
 cases e with
 | Starred _ _=>exact true
 | _=>exact false
noncomputable def mN (e:Expr):Bool:=by
 cases e with
 | Set _ _ _=>exact true
 | _=>exact false
noncomputable def noStar:List Expr→Bool
 | []=>true
 | e::r=>match isStar e with
  | true=>false
  | false=>noStar r
noncomputable def exs (F:Ev) (ee:EE):List Expr→M (List V)
 | []=>ret []
 | e::r=>bnd (F.ex ee e) fun v=>bnd (exs F ee r) fun vs=>ret (v::vs)
noncomputable def yu:List Keyword→Bool
 | []=>true
 | _::_=>false
noncomputable def cp:List Expr→Bool
 | []=>true
 | e::r=>match mN e with
  | true=>false
  | false=>cp r
noncomputable def zc (T:Tab) (op:CmpOp) (a b:V):M Bool:=fun σ=>ofO (zb T σ op a b) σ
noncomputable def gq (T:Tab) (v:V):M Bool:=fun σ=>(truth T σ v).bind fun b=>some ⟨b,σ,kJ σ v⟩
noncomputable def w6 (T:Tab) (F:Ev) (ee:EE) (a:V):List CmpOp→List Expr→M Bool
 | [],_=>no
 | _::_,[]=>no
 | op::ops,r::rs=>bnd (F.ex ee r) fun b=>match ops with
  | []=>(match rs with
   | []=>zc T op a b
   | _::_=>no)
  | _::_=>bnd (rR (F.adv r.pos) (zc T op a b)) fun c=>match c with
   | true=>w6 T F ee b ops rs
   | false=>ret false
noncomputable def sC (op:BoolOp) (b:Bool):Bool:=match op with
 | .And=>!b
 | .Or=>b
noncomputable def pW (T:Tab) (F:Ev) (ee:EE) (op:BoolOp):List Expr→M V
 | []=>no
 | e::r=>match r with
  | []=>F.ex ee e
  | _::_=>bnd (F.ex ee e) fun v=>bnd (rR (F.adv e.pos) (gq T v)) fun b=>match sC op b with
   | true=>ret v
   | false=>pW T F ee op r
noncomputable def tests (F:Ev) (ee:EE) (op:BoolOp):List Expr→M Bool
 | []=>ret (match op with | .And=>true | .Or=>false)
 | e::r=>bnd (F.tst ee e) fun b=>match sC op b with
  | true=>ret b
  | false=>tests F ee op r
noncomputable def oh (e:Expr):Option Const:=by
 cases e with
 | Constant c _ _=>exact some c
 | _=>exact none
noncomputable def yc:Const→Option Str
 | .str k=>some k
 | _=>none
noncomputable def pJ (F:Ev) (ee:EE):List (Option Expr)→List Expr→M (List (Str×V))
 | [],[]=>ret []
 | [],_::_=>no
 | _::_,[]=>no
 | k::ks,v::vs=>fun σ=>((k.bind oh).bind yc).bind fun k=>bnd (F.ex ee v) (fun x=>bnd (pJ F ee ks vs) fun r=>ret ((k,x)::r)) σ
noncomputable def mn (acc:List (Str×V)):List (Str×V)→List (Str×V)
 | []=>acc
 | (k,v)::r=>mn (dW k v acc) r
noncomputable def uc (dv:V) (kvs:List (Str×V)):M V:=fun σ=>(bC dv).bind fun k=>(lC σ[k]?).bind fun l=>aD (noL l) (some ⟨.ref k,σ.set k (.dict kvs),[]⟩)
noncomputable def pV (e:Expr):Option (Expr×List Expr×List Keyword):=by
 cases e with
 | Call f a k _=>exact some (f,a,k)
 | _=>exact none
noncomputable def nameP (e:Expr):Option (Str×Pos):=by
 cases e with
 | Name x p=>exact some (x,p)
 | _=>exact none
noncomputable def pZ (e:Expr):Option (Expr×Str×Pos):=by
 cases e with
 | Attribute o x p=>exact some (o,x,p)
 | _=>exact none
noncomputable def nB (e:Expr):Option (Option Expr×Option Expr×Option Expr×Pos):=by
 cases e with
 | Slice l u s p=>exact some (l,u,s,p)
 | _=>exact none
noncomputable def tupP (e:Expr):Option (List Expr):=by
 cases e with
 | Tuple es _ _=>exact some es
 | _=>exact none
theorem fR{e:Expr}{x}(h:nameP e=some x):e=.Name x.1 x.2:=by
 cases e with
 | Name _ _=>exact okE (P:=fun x=>_=Expr.Name x.1 x.2) h rfl
 | _=>exact noE h
theorem jb{e:Expr}{x}(h:pZ e=some x):e=.Attribute x.1 x.2.1 x.2.2:=by
 cases e with
 | Attribute _ _ _=>exact okE (P:=fun x=>_=Expr.Attribute x.1 x.2.1 x.2.2) h rfl
 | _=>exact noE h
theorem qy{e:Expr}{x}(h:nB e=some x):e=.Slice x.1 x.2.1 x.2.2.1 x.2.2.2:=by
 cases e with
 | Slice _ _ _ _=>exact okE (P:=fun x=>_=Expr.Slice x.1 x.2.1 x.2.2.1 x.2.2.2) h rfl
 | _=>exact noE h
theorem vb{e:Expr}{x}(h:tupP e=some x): ∃c p,e=.Tuple x c p:=by
 cases e with
 | Tuple _ _ _=>exact okE (P:=fun x=> ∃c p,_=Expr.Tuple x c p) h ⟨_,_,rfl⟩
 | _=>exact noE h
theorem rE{e:Expr}{x}(h:oh e=some x): ∃k p,e=.Constant x k p:=by
 cases e with
 | Constant _ _ _=>exact okE (P:=fun x=> ∃k p,_=Expr.Constant x k p) h ⟨_,_,rfl⟩
 | _=>exact noE h
theorem vf{c:Const}{k:Str}(h:yc c=some k):c=.str k:=by
 induction c with
 | str _=>exact okE (P:=fun x=>_=Const.str x) h rfl
 | _=>exact noE h
noncomputable def aQ (e:Expr):Bool:=match pV e with
 | none=>true
 | some (f,as,ks)=>match nameP f with
  | none=>true
  | some _=>bR as || bR ks
noncomputable def fieldsOf (T:Tab) (σ:Hp) (v:V):Option (Addr×List (Str×V)):=
 alt ((kc (T.obj σ v)).bind fun p=>(lC σ[p.2]?).bind fun kvs=>some (p.1,kvs)) (uI (T.obj σ v))
noncomputable def jx (x:Str):List Str→Bool
 | []=>false
 | y::r=>match y==x with | true=>true | false=>jx x r
noncomputable def mT (T:Tab) (v:V) (x:Str):M V:=fun σ=>(fieldsOf T σ v).bind fun p=>(T.cls.lookup p.1).bind fun cl=>
 oel (p.2.lookup x) (fun y=>aD (jx x cl.flds) (some ⟨y,σ,[]⟩)) (oel (cl.vals.lookup x) (fun y=>some ⟨y,σ,[]⟩) ((cl.meths.lookup x).bind fun f=>(bC v).bind fun i=>some ⟨.meth f i,σ,[]⟩))
noncomputable def ik (T:Tab) (σ:Hp) (v:V):Option (Addr×List (Str×V)):=(kc (T.obj σ v)).bind fun p=>(xq σ[p.2]?).bind fun q=>some (p.1,cA q.1 ⟨[],0,none,0,0⟩ q.2)
noncomputable def lU (T:Tab) (v:V) (x:Str):M V:=fun σ=>(ik T σ v).bind fun p=>(T.cls.lookup p.1).bind fun cl=>(p.2.lookup x).bind fun y=>(bC y).bind fun i=>aD (jx x cl.flds) (some ⟨.ref i,σ,[]⟩)
noncomputable def lT (T:Tab) (v:V) (x:Str):M (V×List V):=fun σ=>(ik T σ v).bind fun p=>(T.cls.lookup p.1).bind fun cl=>oel (p.2.lookup x) (fun _=>none) ((cl.meths.lookup x).bind fun f=>some ⟨(.old f,[v]),σ,[]⟩)
noncomputable def getattr (T:Tab) (v:V) (x:Str):M V:=fun σ=>alt (mT T v x σ) (lU T v x σ)
noncomputable def oF (x:Str):Option BF:=[(("join":Str),BF.join),("startswith",.startswith),("count",.count),("rfind",.rfind)].lookup x
noncomputable def mG (x:Str):Option BF:=[(("append":Str),BF.append),("pop",.pop)].lookup x
noncomputable def xC (T:Tab) (v:V) (x:Str):M (V×List V):=fun σ=>
 alt ((bc v).bind fun _=>(oF x).bind fun f=>some ⟨(.bi f,[v]),σ,[]⟩) (alt ((de (T.obj σ v)).bind fun _=>(mG x).bind fun f=>some ⟨(.bi f,[v]),σ,[]⟩)
  ((fieldsOf T σ v).bind fun p=>(T.cls.lookup p.1).bind fun cl=>oel (p.2.lookup x) (fun y=>aD (jx x cl.flds) (some ⟨(y,[]),σ,[]⟩)) ((cl.meths.lookup x).bind fun f=>some ⟨(.old f,[v]),σ,[]⟩)))
noncomputable def meth (T:Tab) (v:V) (x:Str):M (V×List V):=fun σ=>alt (xC T v x σ) (lT T v x σ)
noncomputable def setattr (T:Tab) (v:V) (x:Str) (y:V):M Unit:=fun σ=>(bC v).bind fun i=>(kc σ[i]?).bind fun p=>(lC σ[p.2]?).bind fun kvs=>(T.cls.lookup p.1).bind fun cl=>
 aD (jx x cl.flds) (aD (Ex kvs.length 900) (some ⟨(),σ.set p.2 (.dict (dW x y kvs)),[]⟩))
noncomputable def bv (v:Option Int) (dflt n:Nat):Nat:=match v with
 | none=>dflt
 | some (.ofNat k)=>match Ex k n with | true=>k | false=>n
 | some (.negSucc k)=>n-(k+1)
noncomputable def ar {α:Type} (l:List α) (a b:Option Int):List α:=
 (l.drop (bv a 0 l.length)).take (bv b l.length l.length-bv a 0 l.length)
noncomputable def k6 (v:V):Option (Option Int):=v.at4 (some none) (fun _=>none) (fun i=>some (some i)) (fun _=>none) none
noncomputable def slice (a l u s:V):M V:=fun σ=>(k6 l).bind fun l=>(k6 u).bind fun u=>(k6 s).bind fun s=>oel s
 (fun _=>none)
 (alt ((bc a).bind fun x=>some ⟨.str (ar x l u),σ,[x.length≤sizeLine]⟩) ((bC a).bind fun i=>(de σ[i]?).bind fun xs=>some ⟨.ref σ.length,σ++[.list (ar xs l u)],[xs.length≤sizeLine]⟩))
noncomputable def ju (F:Ev) (ee:EE) (e:Option Expr):M V:=match e with
 | some e=>F.ex ee e
 | none=>ret .none
noncomputable def qo (T:Tab) (F:Ev) (ee:EE) (a:V) (i:Expr):M V:=fun σ=>oel (nB i) (fun q=>bnd (ju F ee q.1) (fun lv=>bnd (ju F ee q.2.1) fun uv=>bnd (ju F ee q.2.2.1) fun sv=>slice a lv uv sv) σ)
 (bnd (F.ex ee i) (fun iv=>cg T a iv) σ)
noncomputable def calleeOk (T:Tab):V→Bool
 | .old a=>match T.fns.lookup a with
  | some _=>true
  | none=>(T.cls.lookup a).isSome
 | .meth g _=>(T.fns.lookup g).isSome
 | .bi _=>true
 | .ty _=>true
 | _=>false
noncomputable def callC (T:Tab) (F:Ev) (d:Nat) (f:V) (vs:List V) (ks:List (Str×V)):M V:=fun σ=>aD (calleeOk T f) (F.call d f vs ks σ)
noncomputable def xP (T:Tab) (F:Ev) (ee:EE) (func:Expr) (as:List Expr) (kws:List Keyword) (cpos:Pos):M V:=fun σ=>aD (noStar as) (aD (yu kws)
 (alt ((pZ func).bind fun q=>aD (aQ q.1) (aD (EH (as.length+kws.length) 20) (aD (DI q.2.2.endLine cpos.line)
  (bnd (F.ex ee q.1) (fun ov=>bnd (meth T ov q.2.1) fun p=>bnd (exs F ee as) fun vs=>callC T F ee.d p.1 (p.2++vs) []) σ))))
 ((nameP func).bind fun _=>bnd (F.ex ee func) (fun f=>bnd (exs F ee as) fun vs=>callC T F ee.d f vs []) σ)))
noncomputable def lr (x:Str):Bool:=x==("__debug__":Str)
noncomputable def exF (T:Tab) (O:Orc) (F:Ev) (ee:EE):Expr→M V
 | .Constant c _ _=>ofO (const c)
 | .Name x _=>fun σ=>aD (!lr x) (ld T ee x σ)
 | .BoolOp op vs _=>pW T F ee op vs
 | .BinOp l op r _=>bnd (F.ex ee l) fun a=>bnd (F.ex ee r) fun b=>uO T op a b
 | .UnaryOp op x _=>bnd (F.ex ee x) fun a=>zn T op a
 | .IfExp t b o _=>bnd (F.tst ee t) fun c=>match c with | true=>F.ex ee b | false=>F.ex ee o
 | .Dict ks vs _=>fun σ=>aD (Ex ks.length 15) (aD (bR ks) (aD (ks.all (·.isSome)) (aD (DI ks.length vs.length) (bnd (yv (.dict [])) (fun dv=>bnd (pJ F ee ks vs) fun r=>uc dv (mn [] r)) σ))))
 | .ListComp e g sc p=>O.lc ee (.ListComp e g sc p)
 | .Compare l ops rs _=>fun σ=>aD (cp rs) (bnd (F.ex ee l) (fun a=>bnd (w6 T F ee a ops rs) fun b=>ret (.bool b)) σ)
 | .Call f as kws p=>xP T F ee f as kws p
 | .Attribute o x _=>fun σ=>aD (aQ o) (bnd (F.ex ee o) (fun v=>getattr T v x) σ)
 | .Subscript o i _=>bnd (F.ex ee o) fun a=>qo T F ee a i
 | .List es _=>fun σ=>aD (noStar es) (aD (Ex es.length 1000) (bnd (exs F ee es) (fun vs=>yv (.list vs)) σ))
 | .Tuple es _ _=>fun σ=>aD (noStar es) (aD (Ex es.length 1000) (bnd (exs F ee es) (fun vs=>ret (.tup vs)) σ))
 | _=>no
noncomputable def Ar:UnaryOp→Bool
 | .Not=>true
 | _=>false
noncomputable def xY (T:Tab) (F:Ev) (ee:EE):Expr→M Bool
 | .UnaryOp op x p=>match Ar op with
  | true=>bnd (F.tst ee x) fun b=>ret (!b)
  | false=>bnd (F.ex ee (.UnaryOp op x p)) fun v=>gq T v
 | .BoolOp op vs _=>tests F ee op vs
 | .Compare l ops rs _=>fun σ=>aD (cp rs) (bnd (F.ex ee l) (fun a=>w6 T F ee a ops rs) σ)
 | .IfExp _ _ _ _=>no
 | e=>bnd (F.ex ee e) fun v=>gq T v
noncomputable def lH (T:Tab) (F:Ev) (ee:EE) (t:Expr) (v:V):M Unit:=fun σ=>
 alt ((nameP t).bind fun q=>st ee q.1 v σ) ((pZ t).bind fun q=>bnd (F.ex ee q.1) (fun ov=>setattr T ov q.2.1 v) σ)
noncomputable def fC (T:Tab) (F:Ev) (ee:EE):List Expr→List V→M Unit
 | [],[]=>ret ()
 | [],_::_=>no
 | _::_,[]=>no
 | t::ts,v::vs=>bnd (lH T F ee t v) fun _=>fC T F ee ts vs
noncomputable def aF (T:Tab) (F:Ev) (ee:EE) (t:Expr) (v:V):M Unit:=fun σ=>oel (tupP t) (fun es=>(rX v).bind fun vs=>aD (noStar es) (aD (DI es.length vs.length) (fC T F ee es vs σ))) (lH T F ee t v σ)
noncomputable def Bj (T:Tab) (F:Ev) (ee:EE) (t:Expr) (op:Operator) (e:Expr):M Unit:=fun σ=>
 alt ((nameP t).bind fun q=>bnd (ld T ee q.1) (fun a=>bnd (F.ex ee e) fun b=>bnd (nt op a b) fun r=>st ee q.1 r) σ)
  ((pZ t).bind fun q=>bnd (F.ex ee q.1) (fun ov=>bnd (getattr T ov q.2.1) fun a=>bnd (F.ex ee e) fun b=>bnd (nt op a b) fun r=>setattr T ov q.2.1 r) σ)
noncomputable def kC (e:Expr):Bool:=by
 cases e with
 | ListComp _ _ _ _=>exact true
 | SetComp _ _ _ _=>exact true
 | DictComp _ _ _ _ _=>exact true
 | _=>exact false
noncomputable def CY (e:Expr):Bool:=by
 cases e with
 | Tuple _ _ _=>exact true
 | List _ _=>exact true
 | _=>exact false
noncomputable def yI (e:Expr):Bool:=by
 cases e with
 | Tuple _ _ _=>exact true
 | _=>exact false
noncomputable def gM (t e:Expr):Bool:=CY t&&yI e
noncomputable def zv (T:Tab) (O:Orc) (F:Ev) (ee:EE):Stmt→M Fl
 | .Return e _=>(match e with
  | none=>ret (.ret .none)
  | some e=>bnd (F.ex ee e) fun v=>ret (.ret v))
 | .Assign ts e p=>(match ts with
  | []=>no
  | t::r=>match r with
   | _::_=>no
   | []=>match kC e with
    | true=>O.lp ee (.Assign [t] e p)
    | false=>fun σ=>aD (!(isStar t || gM t e)) (bnd (F.ex ee e) (fun v=>bnd (aF T F ee t v) fun _=>ret .next) σ))
 | .AugAssign t op e _=>bnd (Bj T F ee t op e) fun _=>ret .next
 | .If t b o _=>bnd (F.tst ee t) fun c=>match c with | true=>F.ss ee b | false=>F.ss ee o
 | .Expr e p=>match kC e with | true=>O.lp ee (.Expr e p) | false=>bnd (F.ex ee e) fun v σ=>aD (isNone v) (ret .next σ)
 | .Pass _=>ret .next
 | .Break _=>ret .brk
 | .Continue _=>ret .cont
 | .Assert t m _=>(match m with
  | none=>bnd (F.tst ee t) fun c σ=>aD c (ret .next σ)
  | some _=>no)
 | .While t b o p=>O.lp ee (.While t b o p)
 | .For t i b o p=>O.lp ee (.For t i b o p)
 | .Try b h e f p=>O.lp ee (.Try b h e f p)
 | _=>no
noncomputable def vg (T:Tab) (O:Orc) (F:Ev) (ee:EE) (t:Stmt):M Fl:=match O.sv ee t with
 | some m=>m
 | none=>zv T O F ee t
noncomputable def tJ:Fl→Bool
 | .next=>true
 | _=>false
noncomputable def ssF (T:Tab) (O:Orc) (F:Ev) (ee:EE):List Stmt→M Fl
 | []=>ret .next
 | s::r=>bnd (vg T O F ee s) fun fl=>match tJ fl with
  | true=>F.ss ee r
  | false=>ret fl
noncomputable def xR:List Str→List V→Option (List (Str×V))
 | [],[]=>some []
 | [],_::_=>none
 | _::_,[]=>none
 | p::ps,v::vs=>(xR ps vs).bind fun r=>some ((p,v)::r)
noncomputable def noKw {β:Type} (kws:List (Str×V)) (x:Option β):Option β:=match kws with
 | []=>x
 | _::_=>none
noncomputable def bw (dfl:List V) (kws:List (Str×V)) (ps:List Str) (args:List V):Option (List (Str×V)):=
 noKw kws (aD (Ex args.length ps.length) (aD (Ex (ps.length-args.length) dfl.length) (xR ps (args++dfl.drop (dfl.length-(ps.length-args.length))))))
noncomputable def aU:List (Str×NameKind)→List Str
 | []=>[]
 | (x,.cell)::r=>x::aU r
 | _::r=>aU r
noncomputable def numbered (k:Nat):List Str→List (Str×Nat)
 | []=>[]
 | x::r=>(x,k)::numbered (k+1) r
noncomputable def bV (names:List (Str×NameKind)):List (Str×V)→List (Str×V)
 | []=>[]
 | (x,v)::r=>match names.lookup x with
  | some .local=>(x,v)::bV names r
  | _=>bV names r
noncomputable def enter (fn:Fn) (d:Nat) (bs:List (Str×V)):M EE:=fun σ=>
 let cs:=aU fn.scope.names
 some ⟨⟨σ.length,numbered (σ.length+1) cs,fn.scope,d⟩,σ++(.fr (bV fn.scope.names bs)::cs.map fun x=> .cell (bs.lookup x)),[]⟩
noncomputable def flV:Fl→Option V
 | .ret v=>some v
 | .next=>some .none
 | .brk=>none
 | .cont=>none
noncomputable def uM (F:Ev) (d:Nat) (fn:Fn) (args:List V) (kws:List (Str×V)):M V:=match d with
 | 0=>no
 | d+1=>bnd (ofO (bw fn.dfl kws fn.pars args)) fun bs=>bnd (enter fn d bs) fun ee=>bnd (F.ss ee fn.body) fun fl=>ofO (flV fl)
noncomputable def make (F:Ev) (d:Nat) (C:Addr) (cl:Cl) (args:List V) (kws:List (Str×V)):M V:=match d with
 | 0=>no
 | d+1=>fun σ=>cl.init.bind fun f=>bnd (F.call d (.old f) (.ref (σ.length+1)::args) kws) (fun r σ'=>aD (isNone r) (ret (.ref (σ.length+1)) σ')) (σ++[.dict []]++[.inst C σ.length])
noncomputable def strsOf:List V→Option (List (List Nat))
 | []=>some []
 | v::r=>(bc v).bind fun x=>(strsOf r).bind fun xs=>some (x::xs)
noncomputable def Bv (v:V):List Nat:=v.at4 [] (fun _=>[]) (fun _=>[]) id []
noncomputable def ay:List V→List (List Nat)
 | []=>[]
 | v::r=>Bv v::ay r
noncomputable def bD (sep:List Nat):List (List Nat)→List Nat
 | []=>[]
 | [x]=>x
 | x::r=>x++(sep++bD sep r)
noncomputable def eO:List (List Nat)→Nat
 | []=>0
 | x::r=>x.length+eO r
noncomputable def cf:List Nat→List Nat→Bool
 | _,[]=>true
 | [],_::_=>false
 | a::x,b::y=>match DI a b with | true=>cf x y | false=>false
noncomputable def intsOf:List V→Option (List Int)
 | []=>some []
 | v::r=>(cj v).bind fun x=>(intsOf r).bind fun xs=>some (x::xs)
noncomputable def mF (a:Int):List Int→Int
 | []=>a
 | b::r=>mF (if a<b then b else a) r
noncomputable def onA {α β:Type} (p:V→Option α) (k:α→List V→Option β):List V→Option β
 | []=>none
 | v::r=>(p v).bind fun a=>k a r
noncomputable def iU {β:Type} (x:Option β):List V→Option β
 | []=>x
 | _::_=>none
noncomputable def kP {α:Type} (σ:Hp) (xs:List α):Option (Out V):=some ⟨.int xs.length,σ,[xs.length≤sizeLine]⟩
noncomputable def Ap (T:Tab) (σ:Hp) (v:V):Option (Out V):=alt ((bc v).bind (kP σ)) (alt ((de (T.obj σ v)).bind (kP σ)) ((bC v).bind fun i=>(lC σ[i]?).bind (kP σ)))
noncomputable def ux {α:Type}:List α→Option (α×List α)
 | []=>none
 | v::r=>some (v,r)
noncomputable def CZ:Int→Bool
 | .ofNat n=>DI n 0
 | .negSucc _=>false
noncomputable def zR (σ:Hp) (i:Nat) (xs:List V):List V→Option (Out V)
 | []=>xs.getLast?.bind fun v=>some ⟨v,σ.set i (.list xs.dropLast),[xs.length≤sizeLine]⟩
 | a::r=>match r with
  | _::_=>none
  | []=>(cj a).bind fun k=>aD (CZ k) ((ux xs).bind fun q=>some ⟨q.1,σ.set i (.list q.2),[q.2.length<sizeLine]⟩)
noncomputable def yd (k:List Nat→List Nat→Nat→Nat→Option (Out V)):List V→Option (Out V):=onA bc fun x=>onA bc fun y=>onA eT fun a=>onA eT fun b=>iU (k x y a b)
noncomputable def uQ (T:Tab) (f:BF) (args:List V):M V:=fun σ=>match f with
 | .len=>onA some (fun v=>iU (Ap T σ v)) args
 | .ord=>onA bc (fun l=>iU ((vP l).bind fun c=>some ⟨.int c,σ,[]⟩)) args
 | .chr=>onA eT (fun c=>iU (some ⟨.str [c],σ,[c<1114112]⟩)) args
 | .join=>onA bc (fun sep=>onA bC fun i=>iU ((de σ[i]?).bind fun xs=>some ⟨.str (bD sep (ay xs)),σ,[strsOf xs=some (ay xs),eO (ay xs)+(ay xs).length*sep.length≤sizeLine]⟩)) args
 | .startswith=>onA bc (fun x=>onA bc fun y=>iU (some ⟨.bool (cf x y),σ,[]⟩)) args
 | .append=>onA bC (fun i=>onA some fun v=>iU ((de σ[i]?).bind fun xs=>some ⟨.none,σ.set i (.list (xs++[v])),[xs.length≤sizeLine]⟩)) args
 | .pop=>onA bC (fun i r=>(de σ[i]?).bind fun xs=>zR σ i xs r) args
 | .count=>yd (fun x y a b=>some ⟨.int (dV (countIn x y a b)),σ,[]⟩) args
 | .rfind=>yd (fun x y a b=>some ⟨.int (bF x y a b),σ,[]⟩) args
 | .max=>onA bC (fun i=>iU ((de σ[i]?).bind fun xs=>(intsOf xs).bind fun l=>(ux l).bind fun q=>some ⟨.int (mF q.1 q.2),σ,[]⟩)) args
noncomputable def sk (t:TF) (args:List V):M V:=fun σ=>match t with
 | .int=>onA bc (fun x=>onA eT fun b=>iU (some ⟨.int (dV (aH b 0 x)),σ,[b=10∨b=16,x≠[],∀c∈x,bz b c=true,x.length≤640]⟩)) args
 | _=>none
noncomputable def uN (T:Tab) (O:Orc) (F:Ev) (d:Nat) (f:V) (args:List V) (kws:List (Str×V)):M V:=match f with
 | .old a=>fun σ=>oel (O.cl a) (fun m=>m d args kws σ) (oel (T.fns.lookup a) (fun fn=>uM F d fn args kws σ) ((T.cls.lookup a).bind fun cl=>make F d a cl args kws σ))
 | .meth g i=>F.call d (.old g) (.ref i::args) kws
 | .bi f=>fun σ=>noKw kws (uQ T f args σ)
 | .ty t=>fun σ=>noKw kws (sk t args σ)
 | _=>no
noncomputable def bot:Ev:=⟨fun _ _=>no,fun _ _=>no,fun _ _=>no,fun _ _ _ _=>no,fun _=>none⟩
noncomputable def exO (T:Tab) (O:Orc) (F:Ev) (ee:EE) (e:Expr):M V:=match O.xv ee e with
 | some m=>m
 | none=>exF T O F ee e
noncomputable def zw (T:Tab) (O:Orc) (F:Ev):Ev:=⟨fun ee e=>exO T O F ee e,fun ee e=>rR (O.tb e.pos) (xY T F ee e),fun ee l=>ssF T O F ee l,fun d f a k=>uN T O F d f a k,O.tb⟩
noncomputable def evN (T:Tab) (O:Orc):Nat→Ev
 | 0=>bot
 | n+1=>zw T O (evN T O n)
theorem f7{x:Str}: ∀{l:List Str},jx x l=true→x∈l
 | [],h=>nomatch h
 | y::r,h=>by
  replace h:(match y==x with | true=>true | false=>jx x r)=true:=h
  induction e:y==x with
  | true=>exact beq_iff_eq.mp e▸wj
  | false=>replace h:=(e ..)▸h;exact DJ _ (f7 h)
theorem lookup_mem{κ α:Type}[BEq κ][LawfulBEq κ]{k:κ}{a:α}: ∀{l:List (κ×α)},l.lookup k=some a→(k,a)∈l
 | [],h=>noE h
 | (y,b)::r,h=>by
  rw[DW]at h
  induction e:k==y with
  | true=>rw[e]at h;exact okE (P:=fun a=>(k,a)∈(y,b)::r) h (beq_iff_eq.mp e▸wj)
  | false=>rw[e]at h;exact DJ _ (lookup_mem h)
structure e9(K:Frag)(C:Addr)(cl:Cl):Prop where
 get:plainGet K C ""=true
 dict:hasDictIn K C=true
 over:plainOver K C=true
 set:findIn K (.ref C) "__setattr__"=some (some (.builtin "object.__setattr__"))
 meth: ∀p∈cl.meths,findIn K (.ref C) p.1=some (some (.ref p.2))∧typeIn K (.ref p.2)=some (.type "function")∧specialIn K (.ref p.2) "__get__"=some (some (.builtin "function.__get__"))∧takesIn K (.ref p.2)=some false∧copiedNames.contains p.1=false
 val: ∀p∈cl.vals,∃y,findIn K (.ref C) p.1=some (some y)∧VR 0 zero {} p.2 y∧p.2.atom=true∧specialIn K y "__get__"=some none∧handedIn y=true∧copiedNames.contains p.1=false
 fld: ∀x∈cl.flds,∃attr,findIn K (.ref C) x=some attr∧noGet K attr=true∧takerIn K C x=some none∧
  attr.all (fun a=>(typeIn K a).any fun t=>t !=.type "function"&&t !=.type "method_descriptor"&&t !=.type "wrapper_descriptor")=true
 ini: ∀f,cl.init=some f→makesIn K C=true∧findIn K (.ref C) "__init__"=some (some (.ref f))∧typeIn K (.ref f)=some (.type "function")
noncomputable def ey (K:Frag) (T:Tab):Prop:= ∀C cl,T.cls.lookup C=some cl→e9 K C cl
section
variable{cx:Cx}{K:Frag}{mg mb:Str→Option Value}{T:Tab}{A:Around}{σ:Hp}{ρ:Ids}{s:Shared}
theorem m6{prog:Program}{w:World}{h:Heap}{d:Addr}{ps:List (Str×Value)}(D:h.DictOf (strKind prog w) d ps): ∃es n,h.get? d=some (dictOf es n)∧PySem.Pairs (strKind prog w) es ps∧PySem.KeysOf (strKind prog w) es.toArray∧(ps.map (·.1)).Nodup:=by
 refine o36 D fun n0q es ep ho n4q hd hk hp hn=>?_;obtain⟨oc,od,oda,osl⟩:=n0q;obtain⟨h1,h2,h3⟩:=n4q
 dsimp only at h1 h2 h3 hd
 subst h1 h2 h3 hd
 exact⟨es.toList,ep,by exact rK (ho ..) rfl,hp,by simpa using hk,hn⟩
theorem iN{prog:Program}{w:World}{x:Str}: ∀{es:List DictEntry} {ps:List (Str×Value)},PySem.Pairs (strKind prog w) es ps→getL x es=some (ps.lookup x)
 | _,_,.nil=>rfl
 | _,_,.cons (e:=e) (kv:=kv) (es:=es) (kvs:=ps) h1 h2 h3=>by
  have ih:=iN (x:=x) h3
  refine o11 (PySem.Value.isStrOf_shape (x:=kv.1) (v:=e.key) h1) fun t ht=>?_
  unfold getL at ih ⊢
  have hs:e.key.isStr x=(kv.1==x):=by refine rK (ht ..) ?_;rfl
  have hr:e.refKey=false:=by unfold DictEntry.refKey;exact rK (ht ..) rfl
  refine rK (List.find?_cons ..) (rK (hs ..) ?_)
  obtain⟨k,v⟩:=kv
  refine rK (DW ..) ?_
  induction q:k==x with
  | true=>refine rK (beq_iff_eq.mp q ..) ?_;simp only[beq_self_eq_true];exact rK (h2 ..) rfl
  | false=>
   have q2:(x==k)=false:=beq_eq_false_iff_ne.mpr fun e=>(beq_eq_false_iff_ne.mp q) e.symm
   refine rK (q2 ..) ?_
   simp only[Gi,hr,Bool.false_or]
   exact ih
theorem handed{n ρ h}{v:V}{x:Value}(r:VR n ρ h v x):handedIn x=true:=by
 cases v with
 | none=>exact Eh (r:x=_)▸rfl
 | bool=>exact Eh (r:x=_)▸rfl
 | int=>exact r.elim fun _ q=>q▸rfl
 | str=>exact r.elim fun _ q=>q▸rfl
 | ref=>exact r.2▸rfl
 | old=>exact Eh (r:x=_)▸rfl
 | bi f=>exact Eh (r:x=_)▸(by induction f<;>decide+kernel)
 | ty=>exact Eh (r:x=_)▸rfl
 | meth=>exact r.2.elim fun _ q=>q.1▸rfl
 | tup=>exact r.tupK (P:=fun x=>handedIn x=true) fun _ _ _ _ _ _=>rfl
inductive jl(n:Nat)(ρ:Ids)(h:Heap)(D:Addr)(Y:Str→V→Prop)(N:Str→Prop):Value→Prop
 | mk {a:Addr} {o od:Obj} {L:Str→Option Value}:InstAt h a o D (some od)→(∀x,lookIn x od=some (L x))→(∀x v,Y x v→ ∃y,L x=some y∧VR n ρ h v y)→(∀x,N x→L x=none)→jl n ρ h D Y N (.ref a)
noncomputable abbrev lkY (kvs:List (Str×V)):Str→V→Prop:=fun x v=>kvs.lookup x=some v
noncomputable abbrev lkN (kvs:List (Str×V)):Str→Prop:=fun x=>kvs.lookup x=none
noncomputable abbrev rfY (kvs:List (Str×V)):Str→V→Prop:=fun x v=> ∃i,v=.ref i∧kvs.lookup x=some (.ref i)
theorem PRs.no{n ρ h}{x:Str}{kvs:List (Str×V)}{ps:List (Str×Value)}(hp:PRs n ρ h kvs ps)(q:kvs.lookup x=none):ps.lookup x=none:=Option.isNone_iff_eq_none.mp (by
 have:=hp.lookup (k:=x) |>.1
 rw[q]at this
 rw[←Option.not_isSome,this];rfl)
theorem lz{h:Heap}{a d D:Addr}{kvs:List (Str×V)}{ps:List (Str×Value)}{Y N}(hi:h.get? a=some (instObj D d))(hd:h.DictOf (strKind cx.prog cx.w) d ps)(hp:PRs σ.length ρ h kvs ps)(hY: ∀x v,Y x v→kvs.lookup x=some v)(hN: ∀x,N x→kvs.lookup x=none):jl σ.length ρ h D Y N (.ref a):=by
 refine o24 (m6 hd) fun es n ho hps _ _=>?_
 exact⟨⟨hi,rfl,rfl,ho⟩,fun x=>(lookIn_dict x es n).trans (iN hps),fun x v q=>hp.lookup.2 v (hY x v q),fun x q=>hp.no (hN x q)⟩
theorem pr(C:aX cx T){h:Heap}(S:Sat cx σ ρ h){v:V}{x:Value}{p:Addr×List (Str×V)}(e:fieldsOf T σ v=some p)(r:VR σ.length ρ h v x):jl σ.length ρ h p.1 (lkY p.2) (lkN p.2) x:=
 dB e (fun e=>obK e fun q hq e=>obK e fun m hm e=>okE (P:=fun p=>jl σ.length ρ h p.1 (lkY p.2) (lkN p.2) x) e
   ((dp C S (d8 hq) r).elim fun _ y1k=>o03 y1k fun e _ hi=>e▸(S.obj _ _ (ci hm)).dictK fun ps hd hp=>lz hi hd hp (fun _ _ q=>q) fun _ q=>q))
  fun e=>(dp C S (rG e) r).elim fun _ q=>q.1▸q.2.cinstK fun d ps hi hd hp _ _=>lz hi hd hp (fun _ _ q=>q) fun _ q=>q
theorem mx{X:K.In s.heap}{D:Addr}{cl:Cl}(k:e9 K D cl){Y N}{x:Value}{name:Str}{v:V}{expr:Bool}(S:Sat cx σ ρ s.heap)(f:jl σ.length ρ s.heap D Y N x)(hm:jx name cl.flds=true)(hy:Y name v):ak cx A σ ρ s (getAttr x name expr) σ (IsV v):=by
 obtain⟨I,l,y,_⟩:=f
 refine o14 (k.fld _ (f7 hm)) fun attr f1 f2 _ _=>?_
 refine o12 (y _ _ hy) fun z hz hr=>?_
 exact get_value X I (plainGet_of k.get).1 (findObj_own k.dict f1 f2 ((l name).trans (congrArg _ hz))) (handed hr) (ag.stay S _ hr)
noncomputable abbrev u2 (cx:Cx) (A:Around) (σ:Hp) (ρ:Ids) (s:Shared) (x:Value) (name:Str) (expr:Bool):V→Hp→Prop:=fun v σ'=>σ'=σ∧ak cx A σ ρ s (getAttr x name expr) σ (IsV v)
theorem sf{X:K.In s.heap}{D:Addr}{cl:Cl}(k:e9 K D cl){Y N}{x:Value}{name:Str}{v:V}{expr:Bool}(S:Sat cx σ ρ s.heap)(f:jl σ.length ρ s.heap D Y N x)(hv:cl.vals.lookup name=some v)(hn:N name):ak cx A σ ρ s (getAttr x name expr) σ (IsV v):=by
 obtain⟨I,l,_,no⟩:=f
 refine o16 (k.val _ (lookup_mem hv)) fun z f1 f2 f3 f4 f5 f6=>?_
 exact get_value X I (plainGet_of k.get).1 (findObj_cls k.dict f1 f4 f5 f6 ((l name).trans (congrArg _ (no _ hn)))) f5 (ag.stay S _ (VR.atom f3 f2))
theorem ot{X:K.In s.heap}{D:Addr}{cl:Cl}(k:e9 K D cl){Y N}{i:Nat}{name:Str}{f:Addr}{expr:Bool}(S:Sat cx σ ρ s.heap)(hi:i<σ.length)(fl:jl σ.length ρ s.heap D Y N (.ref (ρ i)))(hm:cl.meths.lookup name=some f)(hn:N name):ak cx A σ ρ s (getAttr (.ref (ρ i)) name expr) σ (IsV (.meth f i)):=by
 obtain⟨I,l,_,no⟩:=fl
 rename_i od L _
 refine o05 (k.meth _ (lookup_mem hm)) fun f1 f2 f3 f4 f5=>?_
 have hfo:findObj K D (some od) name=some (.bind (.builtin "function.__get__") (.ref f)):=by
  refine o12 (any_some k.dict) fun cd hc hdd=>?_
  unfold findObj
  have hoo:PySem.W.ownOf cd (some od) name=some none:=by unfold PySem.W.ownOf;refine rK (if_pos hdd ..) ?_;exact(l name).trans (congrArg _ (no _ hn))
  refine rK (hc ..) (rK (Fe ..) (rK (f1 ..) (rK (Fe ..) ?_)))
  show(specialIn K (.ref f) (Str.ofString "__get__")).bind _=_
  refine rK (f3 ..) ?_
  show(takesIn K (.ref f)).bind _=_
  refine rK (f4 ..) ?_
  show(PySem.W.ownOf cd (some od) name).bind _=_
  refine rK (hoo ..) ?_
  show(if(copiedNames.contains name&&_)=true then none else some _)=_
  refine rK (f5 ..) ?_
  rfl
 refine get_bind X I (plainGet_of k.get).1 hfo (plainGet_of k.get).2 (wpAny_call (fn_get (s:={s with toks:=s.toks+1}) X f2 ?_))
 show wpAny _ A (handedOut (.ref s.heap.objs.size)) _ _ _
 refine rK (handedOut_of (by rfl) ..) ?_
 refine wpAny_pure ?_
 refine o02 (S.grow (h':=s.heap.push (methodObj (.ref f) (.ref (ρ i)))) fun b o' q=>Heap.get?_push_of_some _ q) fun S' xx=>?_
 exact⟨ρ,⟨S',xx,rfl,rfl⟩,hi,_,rfl,Heap.get?_push_size _ rfl,fun j hj ej=>(S.live j hj).elim fun _ ho'=>noE ((Heap.get?_none_of_le (DQ _)).symm.trans (ej▸ho'))⟩
theorem jy(B:Base cx K mg mb)(C:aX cx T)(L:ey K T)(S:Sat cx σ ρ s.heap){v:V}{x:Value}{name:Str}{expr:Bool}(hv:VR σ.length ρ s.heap v x):Gives (mT T v name σ) (u2 cx A σ ρ s x name expr):=
 ae fun _ hf=>ae fun _ hc=>
  have f:=pr C S hf hv
  have k:=L _ _ hc
  have X:=B.X.keeps S.keep
  eZ (fun _ hy=>au fun hm=>af fun _=>⟨rfl,mx (X:=X) k S f hm hy⟩)
   fun hn=>eZ (fun _ hv=>af fun _=>⟨rfl,sf (X:=X) k S f hv hn⟩)
    fun _=>ae fun _ hm=>ae fun i hi=>af fun _=>⟨rfl,by
     rw[dN hi]at hv
     refine o02 hv fun h1 h2=>?_
     exact h2▸ot (X:=X) k S h1 (h2▸f) hm hn⟩
noncomputable abbrev LkR (l l':List (Str×V)):Prop:= ∀x,(l.lookup x=none→l'.lookup x=none)∧ ∀i,l.lookup x=some (.ref i)→l'.lookup x=some (.ref i)
theorem LkR.cons{k:Str}{a b:V}{l l':List (Str×V)}(h:LkR l l')(e:a=b∨ ∀i,a≠ .ref i):LkR ((k,a)::l) ((k,b)::l'):=fun x=>by
 refine rK (DW ..) (rK (DW ..) ?_)
 induction x==k with
 | true=>exact⟨fun q=>noE q.symm,fun i q=>e.elim (fun e=>e▸q) fun e=>absurd (DZ q) (e i)⟩
 | false=>exact h x
theorem fE{f:Addr}{S:Stm}: ∀{ks:List Nat},LkR (cA f ⟨[],0,none,0,0⟩ ks) (cA f S ks)
 | [a,b,c,d]=> .cons (.cons (.cons (.cons (.cons (.cons (.cons (.cons (.cons (.cons (fun _=>⟨id,fun _=>id⟩) (.inr (fun _=>nofun))) (.inr (fun _=>nofun))) (.inr (fun _=>nofun))) (.inl rfl)) (.inr (fun _=>nofun))) (.inr (fun _=>nofun))) (.inr (fun _=>nofun))) (.inl rfl)) (.inl rfl)) (.inl rfl)
 | []=>fun _=>⟨id,fun _=>id⟩
 | [_]=>fun _=>⟨id,fun _=>id⟩
 | [_,_]=>fun _=>⟨id,fun _=>id⟩
 | [_,_,_]=>fun _=>⟨id,fun _=>id⟩
 | _::_::_::_::_::_=>fun _=>⟨id,fun _=>id⟩
theorem jG(C:aX cx T){h:Heap}(S:Sat cx σ ρ h){v:V}{x:Value}{p:Addr×List (Str×V)}(e:ik T σ v=some p)(r:VR σ.length ρ h v x):jl σ.length ρ h p.1 (rfY p.2) (lkN p.2) x:=
 obK e fun q hq e=>obK e fun m hm e=>okE (P:=fun p=>jl σ.length ρ h p.1 (rfY p.2) (lkN p.2) x) e
  ((dp C S (d8 hq) r).elim fun _ ⟨e,_,hi⟩=>e▸(sx hm).elim fun _ hm=>hm.elim fun _ hm=>hm.elim fun _ hm=>(S.obj _ _ hm).strmK fun _ _ _ hd hp=>lz hi hd hp (fun y _ ⟨i,e,q⟩=>e▸(fE y).2 i q) fun y q=>(fE y).1 q)
theorem jp(B:Base cx K mg mb)(C:aX cx T)(L:ey K T)(S:Sat cx σ ρ s.heap){v:V}{x:Value}{name:Str}{expr:Bool}(hv:VR σ.length ρ s.heap v x):Gives (lU T v name σ) (u2 cx A σ ρ s x name expr):=
 ae fun _ hf=>ae fun _ hc=>ae fun _ hy=>ae fun _ hi=>au fun hm=>af fun _=>⟨rfl,mx (X:=B.X.keeps S.keep) (L _ _ hc) S (jG C S hf hv) hm ⟨_,rfl,dN hi▸hy⟩⟩
theorem gb(B:Base cx K mg mb)(C:aX cx T)(L:ey K T)(S:Sat cx σ ρ s.heap){v:V}{x:Value}{name:Str}{expr:Bool}(hv:VR σ.length ρ s.heap v x):Gives (getattr T v name σ) (u2 cx A σ ρ s x name expr):=
 cr (jy B C L S hv) (jp B C L S hv)
end
noncomputable def dm (x:Str) (v:Value):List (Str×Value)→List (Str×Value)
 | []=>[(x,v)]
 | (y,w)::r=>if y==x then(y,v)::r else(y,w)::dm x v r
theorem dm.c{x y:Str}{v w:Value}{r:List (Str×Value)}:dm x v ((y,w)::r)=if y==x then(y,v)::r else(y,w)::dm x v r:=rfl
theorem PRs.put{n ρ h}{x:Str}{v:V}{y:Value}(r:VR n ρ h v y): ∀{l:List (Str×V)} {ps:List (Str×Value)},PRs n ρ h l ps→PRs n ρ h (dW x v l) (dm x y ps)
 | [],_,e=>e.k0 (P:=fun ps=>PRs n ρ h [(x,v)] (dm x y ps)) ⟨y,[],rfl,r,rfl⟩
 | (k,w)::l,_,e=>e.k1 (P:=fun ps=>PRs n ρ h (dW x v ((k,w)::l)) (dm x y ps)) fun z zs h1 h2=>by
  show PRs n ρ h (if k==x then(k,v)::l else(k,w)::dW x v l) (if k==x then(k,y)::zs else(k,z)::dm x y zs)
  induction k==x with
  | true=>exact⟨y,zs,rfl,r,h2⟩
  | false=>exact⟨z,_,rfl,h1,PRs.put r h2⟩
theorem gw{x:Str}{v:Value}: ∀{ps:List (Str×Value)},(ps.map (·.1)).Nodup→((dm x v ps).map (·.1)).Nodup∧ ∀z,z∈(dm x v ps).map (·.1)→z=x∨z∈ps.map (·.1)
 | [],_=>⟨Ej.mpr ⟨EO,E9⟩,fun z hz=> .inl (EN.mp hz)⟩
 | (k,w)::ps,h=>by
  rw[Em,Ej]at h
  refine rK (dm.c ..) ?_
  by_cases q:(k==x)=true
  ·refine rK (if_pos q ..) ?_
   exact⟨by rw[Em,Ej];exact h,fun z hz=> .inr hz⟩
  ·refine rK (if_neg q ..) ?_
   refine o02 (gw (x:=x) (v:=v) h.2) fun h1 h2=>?_
   refine⟨?_,fun z hz=>?_⟩
   ·rw[Em,Ej]
    refine⟨fun hm=>?_,h1⟩
    rcases h2 _ hm with e | e
    ·exact q (beq_iff_eq.mpr e)
    ·exact h.1 e
   ·replace hz:=(Em ..)▸hz
    rcases D1.mp hz with e | e
    ·exact .inr (by refine rK (Em ..) (rK (e ..) ?_);exact wj)
    ·rcases h2 _ e with e | e
     ·exact .inl e
     ·exact .inr (by refine rK (Em ..) ?_;exact DJ _ e)
theorem im{x:Str}{v:Value}: ∀{ps:List (Str×Value)},(ps.map (·.1)).Nodup→stored ps x v=dm x v ps
 | [],_=>rfl
 | (k,w)::ps,h=>by
  rw[Em,Ej]at h
  have ih:=im (x:=x) (v:=v) h.2
  refine rK (dm.c ..) ?_
  by_cases q:k=x
  ·subst q
   refine rK (if_pos (beq_self_eq_true k) ..) ?_
   unfold stored
   refine rK (if_pos (by simp) ..) ?_
   refine rK (Em ..) ?_
   simp only[if_true]
   congr 1
   refine F1 (g:=id) (fun p hp=>?_) |>.trans (List.map_id _)
   have: ¬p.1=k:=fun e=>h.1 (e▸Fh.mpr ⟨p,hp,rfl⟩)
   refine rK (if_neg this ..) ?_;rfl
  ·refine rK (if_neg (by simpa using q) ..) ?_
   unfold stored at ih ⊢
   refine rK (Gi ..) ?_
   simp only[q,decide_false,Bool.false_or,Em,if_false]
   rw[←ih]
   split<;>simp
theorem iw{prog:Program}{w:World}{x:Str}{t:Tok}{v:Value}: ∀{es:List DictEntry} {ps:List (Str×Value)},PySem.Pairs (strKind prog w) es ps→
  PySem.Pairs (strKind prog w) (putL x (PyData.keyHash w.params x) (.str x t) v es) (dm x v ps)
 | _,_,.nil=> .cons (PySem.strKind_is _ _ _ _) rfl .nil
 | _,_,.cons (e:=e) (kv:=kv) (es:=es) (kvs:=ps) h1 h2 h3=>by
  have ih:=iw (x:=x) (t:=t) (v:=v) h3
  refine o11 (PySem.Value.isStrOf_shape (x:=kv.1) (v:=e.key) h1) fun u hu=>?_
  obtain⟨k,w'⟩:=kv
  have hs:e.key.isStr x=(k==x):=by refine rK (hu ..) ?_;rfl
  unfold putL
  refine rK (dm.c ..) ?_
  by_cases q:(k==x)=true
  ·refine rK (hs ..) (rK (if_pos q ..) (rK (if_pos q ..) ?_));exact .cons h1 rfl h3
  ·refine rK (hs ..) (rK (if_neg q ..) (rK (if_neg q ..) ?_));exact .cons h1 h2 ih
theorem jP{prog:Program}{w:World}{x:Str}{t:Tok}{v:Value}: ∀{es:List DictEntry},(∀e∈es,∃k,(strKind prog w).is k e.key=true∧e.hash=(strKind prog w).hash k)→
  ∀e∈putL x (PyData.keyHash w.params x) (.str x t) v es,∃k,(strKind prog w).is k e.key=true∧e.hash=(strKind prog w).hash k
 | [],_,e,he=>by
  rcases EN.mp he with rfl
  exact⟨x,PySem.strKind_is _ _ _ _,rfl⟩
 | d::es,h,e,he=>by
  unfold putL at he
  split at he
  ·rcases D1.mp he with rfl | he
   ·exact h d wj
   ·exact h e (DJ _ he)
  ·rcases D1.mp he with rfl | he
   ·exact h e wj
   ·exact jP (fun e' he'=>h e' (DJ _ he')) e he
theorem gO(x:Str)(hs:Int)(k v:Value): ∀es:List DictEntry,(putL x hs k v es).length≤es.length+1
 | []=>DQ _
 | e::es=>by
  unfold putL
  split
  ·simp
  ·simp only[D0];have:=gO x hs k v es;exact EL (by assumption)
section
variable{cx:Cx}{K:Frag}{mg mb:Str→Option Value}{T:Tab}{A:Around}{σ:Hp}{ρ:Ids}{s:Shared}
theorem vO{C x dx:Addr}{R:Result→Shared→Prop}{prog:Program}{w:World}{ox:Obj}{name:Str}{tk:Tok}{v:Value}{es₀ es:List DictEntry}{n₀ n:Nat}(X:K.In s.heap)
  (I:InstAt s.heap x ox C (some (dictOf es₀ n₀))) (hd:ox.dict=some dx) (hp:plainOver K C=true) (ht:takerIn K C name=some none) (hh:(clsIn K C).any (·.hasDict)=true) (D:s.heap.get? dx=some (dictOf es₀ n₀))
  (c:(!es₀.toArray.any (·.key.isStr name)&&es₀.toArray.any (·.refKey))=false) {od':Obj}
  (D':(s.heap.update dx (Obj.putName name (PyData.keyHash w.params name) (.str name s.toks) v)).get? dx=some od') (e':od'.data=.dict es.toArray n) (hz:es.length≤1000)
  (h:R (.ok (.ret .none)) {s with heap:=s.heap.update dx (Obj.putName name (PyData.keyHash w.params name) (.str name s.toks) v),toks:=s.toks+1}):
  codeAny (model prog w) A (.call (.builtin "object.__setattr__") ⟨[.ref x,.str name tk,v],[]⟩) R s:=by
 refine osa_open X I hp ht fun b=>?_
 refine o12 (any_some hh) fun cd hc hd'=>?_
 obtain⟨hx,hcl,hn,-⟩:=I
 obtain⟨oc,odi,oda,osl⟩:=ox
 dsimp only at hcl hd
 subst hcl hd
 refine wpAny_bind (wpAny_pure (wpAny_bind (wpAny_bind (wpAny_loadPart hx (wpAny_bind ((looks_clsIn X hc).here ?_))))))
 refine rK (hd' ..) ?_
 refine wpAny_pure (a:=some dx) (wpAny_bind (wpAny_pure (wpAny_bind ?_)))
 refine wpAny_bind (wpAny_bind (wpAny_askSetting (wpAny_pure (wpAny_bind (wpAny_mkText (wpAny_bind (wpAny_loadPart D ?_)))))))
 dsimp only
 refine rK (aRefKeyMayBeTheName_at ..) (rK (c ..) ?_)
 refine wpAny_updatePart D ?_
 refine wpAny_bind (wpAny_lookBehind D' (by refine rK (e' ..) ?_;exact pastItsLine_dict (by refine rK (EM ..) (rK (sizeLine_eq ..) ?_);(exact kV (by assumption) (by decide)))) ?_)
 exact wpAny_pure h
theorem aI{i:Nat}{o:AO}(h:σ[i]?=some o):i<σ.length:=(DT.mp h).1
theorem gQ{prog:Program}{w:World}: ∀{es:List DictEntry} {ps:List (Str×Value)},PySem.Pairs (strKind prog w) es ps→es.any (·.refKey)=false
 | _,_,.nil=>rfl
 | _,_,.cons (e:=e) h1 _ h3=>by
  refine o11 (PySem.Value.isStrOf_shape h1) fun t ht=>?_
  refine rK (Gi ..) (rK (gQ h3 ..) (rK (Bool.or_false ..) ?_))
  unfold DictEntry.refKey;exact rK (ht ..) rfl
theorem set_own{X:K.In s.heap}{D:Addr}{cl:Cl}(kk:e9 K D cl)(S:Sat cx σ ρ s.heap){i k:Nat}{kvs:List (Str×V)}{u:V}{y:Value}{name:Str}(hu:VR σ.length ρ s.heap u y)(hi:s.heap.get? (ρ i)=some (instObj D (ρ k)))(hkl:k<σ.length)
  {ps:List (Str×Value)} (hd:s.heap.DictOf (strKind cx.prog cx.w) (ρ k) ps) (hp:PRs σ.length ρ s.heap kvs ps) (hm:jx name cl.flds=true) (hsz:kvs.length≤900):ak cx A σ ρ s (setAttr (.ref (ρ i)) name y) (σ.set k (.dict (dW name u kvs))) (fun _ _ _ _=>True):=by
 refine o24 (m6 hd) fun es n ho hps hks hnd=>?_
 refine o14 (kk.fld _ (f7 hm)) fun attr _ _ f3 _=>?_
 have hr:es.toArray.any (·.refKey)=false:=by refine rK (List.any_toArray ..) ?_;exact gQ hps
 have hsz:es.length≤900:=hps.length.trans hp.length▸hsz
 have I:InstAt s.heap (ρ i) (instObj D (ρ k)) D (some (dictOf es n)):=⟨hi,rfl,rfl,ho⟩
 have D':(s.heap.update (ρ k) (Obj.putName name (PyData.keyHash cx.P name) (.str name (s.toks+1)) y)).get? (ρ k)=some (dictOf (putL name (PyData.keyHash cx.P name) (.str name (s.toks+1)) y es) (putN name es n)):=by
  rw[←putName_dict]
  exact Heap.get?_update_self _ ho (by refine rK (putName_dict ..) ?_;rfl)
 refine set_plain X I kk.set (vO (s:={s with toks:=s.toks+1}) X I rfl kk.over f3 kk.dict ho (by exact rK (hr ..) (rK (Fp ..) rfl)) D' rfl (kV (gO ..) (kV (EY hsz) (by decide))) ?_)
 obtain⟨S',x'⟩:=S.set (h':=s.heap.update (ρ k) (Obj.putName name (PyData.keyHash cx.P name) (.str name (s.toks+1)) y)) (o:=.dict (dW name u kvs)) hkl (fun b hb=>Heap.get?_update_ne _ _ _ _ hb) ⟨_,D'⟩ fun xx=>
  ⟨dm name y ps,⟨_,_,_,D',⟨rfl,rfl,rfl⟩,rfl,fun e he=>jP (fun e' he'=>hks e' (FR.mpr he')) e (FR.mp he),iw hps,(gw hnd).1⟩,(PRs.ext xx _ _ hp).put (VR.ext xx _ _ hu)⟩
 exact⟨ρ,⟨S',by refine rK (DP ..) ?_;exact x',rfl,rfl⟩,trivial⟩
theorem fJ(B:Base cx K mg mb)(L:ey K T)(S:Sat cx σ ρ s.heap){v u:V}{x y:Value}{name:Str}(hv:VR σ.length ρ s.heap v x)(hu:VR σ.length ρ s.heap u y):
  Gives (setattr T v name u σ) fun _ σ'=>ak cx A σ ρ s (setAttr x name y) σ' (fun _ _ _ _=>True):=
 ae fun _ hi=>eS (P:=fun x=>Gives _ fun _ σ'=>ak cx A σ ρ s (setAttr x name y) σ' (fun _ _ _ _=>True)) hv hi fun _=>ae fun _ hi=>ae fun _ hk=>ae fun _ hc=>au fun hm=>au fun hsz=>af fun _=>
  (S.obj _ _ (ci hk)).dictK fun _ hd hp=>set_own (X:=B.X.keeps S.keep) (L _ _ hc) S hu (S.obj _ _ (d8 hi)).2 (aI (ci hk)) hd hp hm (Ef.mp hsz)
end
theorem lG(n:Nat)(v:Option Int)(d:Nat):bv v d n=v.elim d (clipAt n):=by
 induction v with
 | none=>rfl
 | some i=>
  induction i with
  | ofNat k=>
   show _=clipAt n (k:Int)
   refine rK (PySem.clipAt_nat ..) ?_
   unfold bv
   dsimp only
   induction h:Ex k n with
   | true=>have:=Ef.mp h;dsimp only;exact Eh (Fz this)
   | false=>
    have: ¬k≤n:=fun q=>by replace h:=(Ef.mpr q ..)▸h;cases h
    dsimp only;exact Eh (Std.LawfulOrderLeftLeaningMin.min_eq_right k n this)
  | negSucc k=>
   show _=clipAt n (DM k)
   refine rK (show DM k= -((k+1:Nat):Int)from rfl) (rK (PySem.clipAt_neg n (k+1) (by exact DO _) ..) ?_)
   rfl
theorem mw(items:Array Value)(l u:Option Int):(slicePick items l u none).toList=ar items.toList l u:=by
 refine rK (PySem.slicePick_plain ..) ?_
 unfold ar
 exact rK (lG ..) (rK (lG ..) (rK (Array.length_toList ..) rfl))
theorem pv(l u:Option Int)(n:Nat):Builtin.Str.strSliceIndices l u 1 n=(Gb (bv u n n-bv l 0 n)).map (bv l 0 n+ ·):=by
 refine FL (PySem.sliceRange_one ..) ?_
 unfold Builtin.Str.strSliceIndices
 have key: ∀(v:Option Int) (d:Nat),(match v with
   | none=>(d:Int)
   | some i=>let i:=if i<0 then i+(n:Int)else i;if(1:Int)>0 then max 0 (min i n)else max (-1) (min i ((n:Int)-1)))=((bv v d n:Nat):Int):=by
  intro v d
  refine rK (lG ..) ?_
  induction v with
  | none=>rfl
  | some i=>simp only[Option.elim,PySem.clipAt_cast];rfl
 rw[←key l 0,←key u n]
 rfl
theorem sp(x:List Nat)(l u:Option Int):((Builtin.Str.strSliceIndices l u 1 (⟨x.toArray⟩:Str).length).filterMap ((⟨x.toArray⟩:Str).cps[·]?))=ar x l u:=by
 refine rK (pv ..) (rK (PySem.pick_run ..) ?_)
 unfold ar
 exact rK (b7 ..) rfl
theorem uF(u:Option Int)(n:Nat):bv u n n≤n:=by
 induction u with
 | none=>exact DQ _
 | some i=>induction i with
  | ofNat k=>
   show(match Ex k n with | true=>k | false=>n)≤n
   induction q:Ex k n with
   | true=>exact Ef.mp q
   | false=>exact DQ _
  | negSucc k=>exact FY _ _
theorem wP{α:Type}(x:List α)(l u:Option Int)(h:bv u x.length x.length-bv l 0 x.length=x.length):ar x l u=x:=by
 unfold ar
 refine rK (h ..) ?_
 have hb:=uF u x.length
 induction q:bv l 0 x.length with
 | zero=>exact FS
 | succ k=>
  replace h:=(q ..)▸h
  have h0:x.length=0:=by omega
  refine rK (FT h0 ..) ?_;rfl
section
variable{cx:Cx}{K:Frag}{mg mb:Str→Option Value}{T:Tab}{A:Around}{σ:Hp}{ρ:Ids}{s:Shared}
theorem dY{n ρ h}{v:V}{x:Value}{r:Option Int}(hv:VR n ρ h v x)(e:k6 v=some r):IsPart x r∧ ∃p:Option (Int×Tok),x=partValue p∧p.map (·.1)=r:=
 bX (P:=fun _ x=>IsPart x r∧ ∃p:Option (Int×Tok),x=partValue p∧p.map (·.1)=r) hv e (fun q=>okE (P:=fun r=>IsPart _ r∧ ∃p:Option (Int×Tok),_=partValue p∧p.map (·.1)=r) q ⟨.none,none,rfl,rfl⟩) (fun _=>noE)
  (fun i t q=>okE (P:=fun r=>IsPart _ r∧ ∃p:Option (Int×Tok),_=partValue p∧p.map (·.1)=r) q ⟨.int _ _,some (i,t),rfl,rfl⟩) fun _ _=>noE
theorem VRs.drop{n ρ h}: ∀(k:Nat) {l:List V} {xs:List Value},VRs n ρ h l xs→VRs n ρ h (l.drop k) (xs.drop k)
 | 0,_,_,v=>v
 | k+1,[],_,v=>v.k0 (P:=fun xs=>VRs n ρ h [] (xs.drop (k+1))) rfl
 | k+1,_::l,_,v=>v.k1 (P:=fun xs=>VRs n ρ h (l.drop k) (xs.drop (k+1))) fun _ _ _ h2=>VRs.drop k h2
theorem VRs.take{n ρ h}: ∀(k:Nat) {l:List V} {xs:List Value},VRs n ρ h l xs→VRs n ρ h (l.take k) (xs.take k)
 | 0,_,_,v=>rfl
 | k+1,[],_,v=>v.k0 (P:=fun xs=>VRs n ρ h [] (xs.take (k+1))) rfl
 | k+1,a::l,_,v=>v.k1 (P:=fun xs=>VRs n ρ h (a::l.take k) (xs.take (k+1))) fun z zs h1 h2=>⟨z,_,rfl,h1,VRs.take k h2⟩
theorem VRs.cut{n ρ h}{l:List V}{xs:List Value}(v:VRs n ρ h l xs)(a b:Option Int):VRs n ρ h (ar l a b) (ar xs a b):=by
 unfold ar
 rw[←v.length]
 exact(v.drop _).take _
theorem qw(S:Sat cx σ ρ s.heap){y:List Nat}{t:Tok}{p1 p2:Option (Int×Tok)}{sl:Addr}(hs:s.heap.IsSliceOf sl (partValue p1) (partValue p2) .none)(ob:y.length≤sizeLine):
  ak cx A σ ρ s (getItem (.str ⟨y.toArray⟩ t) (.ref sl)) σ (IsV (.str (ar y (p1.map (·.1)) (p2.map (·.1))))):=by
 refine wpAny_getItem_str_slice (l:=p1) (u:=p2) (st:=none) hs rfl ?_
 have hp:((PySem.slicePicked ⟨y.toArray⟩ p1 p2 none).filterMap ((⟨y.toArray⟩:Str).cps[·]?))=ar y (p1.map (·.1)) (p2.map (·.1)):=sp y _ _
 unfold sliceMade
 split
 ·rename_i hw
  have h2:=(Et.mp hw).2
  have h3:(Builtin.Str.strSliceIndices (p1.map (·.1)) (p2.map (·.1)) 1 (⟨y.toArray⟩:Str).length).length=(⟨y.toArray⟩:Str).length:=beq_iff_eq.mp h2
  replace h3:=(b7 ..)▸((List.length_range ..)▸((D4 ..)▸((pv ..)▸h3)))
  refine rK (wP y _ _ h3 ..) ?_
  exact ag.str (n:=s.toks) S _
 ·refine rK (hp ..) ?_
  refine⟨?_,ag.str S _⟩
  refine rK (b7 ..) ?_
  exact kV (by unfold ar;refine rK (EZ ..) (rK (D3 ..) ?_);exact kV (Nat.min_le_right ..) (FY ..)) ob
theorem slice_list(S:Sat cx σ ρ s.heap){i:Nat}{xs ys:List V}{vl vu vs:Value}{l u c:Option Int}{sl:Addr}(hx:σ[i]?=some (.list xs))(hs:s.heap.IsSliceOf sl vl vu vs)(pl:IsPart vl l)(pu:IsPart vu u)(pc:IsPart vs c)(hc:c≠some 0)(ob:xs.length≤sizeLine)
  (hy: ∀items:Array Value,VRs σ.length ρ s.heap xs items.toList→VRs σ.length ρ s.heap ys (slicePick items l u c).toList):ak cx A σ ρ s (getItem (.ref (ρ i)) (.ref sl)) (σ++[.list ys]) (IsV (.ref σ.length)):=
 (S.obj _ _ hx).listK fun items k g v=>wpAny_getItem_list_slice ⟨_,g,rfl,_,rfl⟩ hs pl pu pc hc (ag.list (n:=s.toks) S (hy items v)) (v.size▸ob)
theorem nA(S:Sat cx σ ρ s.heap){a l u st:V}{x vl vu vs:Value}{sl:Addr}(ha:VR σ.length ρ s.heap a x)(hl:VR σ.length ρ s.heap l vl)(hu:VR σ.length ρ s.heap u vu)(hst:VR σ.length ρ s.heap st vs)
  (hs:s.heap.IsSliceOf sl vl vu vs):Gives (slice a l u st σ) fun v σ'=>ak cx A σ ρ s (getItem x (.ref sl)) σ' (IsV v):=
 ae fun l' el=>ae fun u' eu=>ae fun c ec=>
  have pl:=dY hl el
  have pu:=dY hu eu
  have pc:=dY hst ec
  eZ (fun _ _=>bq)
   fun hc=>cr (ae fun y hy=>cK (P:=fun x=>Gives _ fun v σ'=>ak cx A σ ρ s (getItem x (.ref sl)) σ' (IsV v)) ha hy fun t=>af fun ob=>by
     obtain⟨_,p1,e1,q1⟩:=pl
     obtain⟨_,p2,e2,q2⟩:=pu
     obtain⟨_,p3,e3,q3⟩:=pc
     rw[←q1,←q2]
     refine qw S ?_ ob
     rw[←e1,←e2]
     rw[hc]at q3
     rw[e3,Option.map_eq_none_iff.mp q3]at hs
     exact hs)
    (ae fun _ hi=>eS (P:=fun x=>Gives _ fun v σ'=>ak cx A σ ρ s (getItem x (.ref sl)) σ' (IsV v)) ha hi fun _=>ae fun _ hx=>af fun ob=>
     slice_list (c:=none) S (a7 hx) hs pl.1 pu.1 (hc▸pc.1) (fun q=>nomatch q) ob fun items v=>(mw items _ _).symm▸v.cut _ _)
end
section
variable{cx:Cx}{K:Frag}{mg mb:Str→Option Value}{T:Tab}{A:Around}{σ:Hp}{ρ:Ids}{s:Shared}
noncomputable abbrev IsP (p:V×List V):Nat→Ids→Heap→Value×List Value→Prop:=fun n ρ h x=>VR n ρ h p.1 x.1∧VRs n ρ h p.2 x.2
noncomputable abbrev g7 (U:String) (x:Str) (f:BF):Prop:=Slot U x f.name∧typeOf (.builtin f.name)=pure (.type "method_descriptor")
theorem j4{κ α:Type}[BEq κ][LawfulBEq κ]{k y:κ}{a b:α}{l:List (κ×α)}{P:κ→α→Prop}(h:((y,b)::l).lookup k=some a)(k1:P y b)(k2:l.lookup k=some a→P k a):P k a:=by
 rw[DW]at h
 induction e:k==y with
 | true=>rw[e]at h;rw[beq_iff_eq.mp e];exact okE (P:=P y) h k1
 | false=>rw[e]at h;exact k2 h
theorem fG{x:Str}{f:BF}(e:oF x=some f):g7 "str" x f:=
 j4 (P:=g7 "str") e ⟨F.slot_str_join,F.type_str_join⟩ fun e=>j4 (P:=g7 "str") e ⟨F.slot_str_startswith,F.type_str_startswith⟩ fun e=>j4 (P:=g7 "str") e ⟨F.slot_str_count,F.type_str_count⟩ fun e=>j4 (P:=g7 "str") e ⟨F.slot_str_rfind,F.type_str_rfind⟩ noE
theorem eY{x:Str}{f:BF}(e:mG x=some f):g7 "list" x f:=
 j4 (P:=g7 "list") e ⟨F.slot_list_append,F.type_list_append⟩ fun e=>j4 (P:=g7 "list") e ⟨F.slot_list_pop,F.type_list_pop⟩ noE
noncomputable abbrev MethP (cx:Cx) (A:Around) (σ:Hp) (ρ:Ids) (s:Shared) (x:Value) (name:Str) (pl:Sem Bool):V×List V→Hp→Prop:=fun v σ'=>σ'=σ∧ak cx A σ ρ s (getMethod x name pl) σ (IsP v)
theorem sX{n:Nat}{ρ:Ids}{h:Heap}{v w:V}{x y:Value}(h1:VR n ρ h w y)(hv:VR n ρ h v x):VR n ρ h w y∧VRs n ρ h [v] [x]:=⟨h1,_,_,rfl,hv,rfl⟩
theorem sW{X:K.In s.heap}{D:Addr}{cl:Cl}(k:e9 K D cl){Y N}{x:Value}{name:Str}{v:V}{pl:Sem Bool}(S:Sat cx σ ρ s.heap)(f:jl σ.length ρ s.heap D Y N x)(hm:jx name cl.flds=true)(hy:Y name v):ak cx A σ ρ s (getMethod x name pl) σ (IsP (v,[])):=by
 obtain⟨I,l,y,_⟩:=f
 refine o14 (k.fld _ (f7 hm)) fun attr f1 f2 f3 f4=>?_
 refine o12 (y _ _ hy) fun z hz hr=>?_
 exact method_usual X I (plainGet_of k.get).1 (plainGet_of k.get).2 f1 f4 (get_value X I (plainGet_of k.get).1 (findObj_own k.dict f1 f2 ((l name).trans (congrArg _ hz))) (handed hr) (ag.same (R:=IsP (v,[])) S rfl rfl rfl ⟨hr,rfl⟩))
theorem pF{X:K.In s.heap}{D:Addr}{cl:Cl}(k:e9 K D cl){Y N}{v:V}{x:Value}{name:Str}{f:Addr}{pl:Sem Bool}(S:Sat cx σ ρ s.heap)(hv:VR σ.length ρ s.heap v x)(fl:jl σ.length ρ s.heap D Y N x)(hm:cl.meths.lookup name=some f)(hn:N name):ak cx A σ ρ s (getMethod x name pl) σ (IsP (.old f,[v])):=by
 obtain⟨I,l,_,no⟩:=fl
 refine o03 (k.meth _ (lookup_mem hm)) fun f1 f2 _=>?_
 exact method_fn X I (plainGet_of k.get).1 (plainGet_of k.get).2 f1 f2 (by show(lookIn name _).map _=_;refine rK (l name ..) (rK (no _ hn ..) ?_);rfl) (ag.same (R:=IsP (.old f,[v])) S rfl rfl rfl (sX rfl hv))
theorem nU(B:Base cx K mg mb)(C:aX cx T)(L:ey K T)(S:Sat cx σ ρ s.heap){v:V}{x:Value}{name:Str}{pl:Sem Bool}(hv:VR σ.length ρ s.heap v x):Gives (xC T v name σ) (MethP cx A σ ρ s x name pl):=
 have fin: ∀{f:BF},IsP (.bi f,[v]) σ.length ρ s.heap (.builtin f.name,[x]):=sX rfl hv
 cr (ae fun _ hl=>ae fun f hf=>af fun _=>⟨rfl,cK (P:=fun x=>IsP (.bi f,[v]) σ.length ρ s.heap (.builtin f.name,[x])→ak cx A σ ρ s (getMethod x name pl) σ (IsP (.bi f,[v]))) hv hl (fun _ fin=>getMethod_builtin (T:="str") rfl F.plainAttrs_str (fG hf).1 (fG hf).2 (fun a e=>nomatch e) (ag.same (R:=IsP (.bi f,[v])) S rfl rfl rfl fin)) fin⟩)
  (cr (ae fun _ hl=>ae fun f hf=>af fun _=>⟨rfl,(dp C S (a7 hl) hv).elim fun a q=>q.2.listK fun items k g _=>by
    have fin:=fin (f:=f)
    rw[q.1]at fin ⊢
    exact getMethod_builtin (T:="list") ⟨_,g,rfl⟩ F.plainAttrs_list (eY hf).1 (eY hf).2 (fun a e=>⟨_,Value.ref.inj e▸g,rfl⟩) (ag.same (R:=IsP (.bi f,[v])) S rfl rfl rfl fin)⟩)
   (ae fun _ hf=>ae fun _ hc=>
    have f:=pr C S hf hv
    eZ (fun _ hy=>au fun hm=>af fun _=>⟨rfl,sW (X:=B.X.keeps S.keep) (L _ _ hc) S f hm hy⟩) fun hn=>ae fun _ hm=>af fun _=>⟨rfl,pF (X:=B.X.keeps S.keep) (L _ _ hc) S hv f hm hn⟩))
theorem jo(B:Base cx K mg mb)(C:aX cx T)(L:ey K T)(S:Sat cx σ ρ s.heap){v:V}{x:Value}{name:Str}{pl:Sem Bool}(hv:VR σ.length ρ s.heap v x):Gives (lT T v name σ) (MethP cx A σ ρ s x name pl):=
 ae fun _ hf=>ae fun _ hc=>eZ (fun _ _=>bq) fun hn=>ae fun _ hm=>af fun _=>⟨rfl,pF (X:=B.X.keeps S.keep) (L _ _ hc) S hv (jG C S hf hv) hm hn⟩
theorem jY(B:Base cx K mg mb)(C:aX cx T)(L:ey K T)(S:Sat cx σ ρ s.heap){v:V}{x:Value}{name:Str}{pl:Sem Bool}(hv:VR σ.length ρ s.heap v x):Gives (meth T v name σ) (MethP cx A σ ρ s x name pl):=
 cr (nU B C L S hv) (jo B C L S hv)
end
theorem jr:seqSlot? (.type "list") (dunderI "add")=pure (some (.builtin "list.__iadd__")):=PySem.seqSlot_of F.slot_list_iadd.lookup (by decide+kernel)
section
variable{cx:Cx}{K:Frag}{mg mb:Str→Option Value}{T:Tab}{A:Around}{σ:Hp}{ρ:Ids}{s:Shared}
theorem rh{prog:Program}{w:World}{E:Value→Shared→Prop}{l b:Addr}{items items2:Array Value}{n n2:Nat}{Q:Value→Shared→Prop}(hl:IsL s.heap l items n)(hb:IsL s.heap b items2 n2)
  (h:Q (.ref l) {s with heap:=s.heap.update l (Obj.mapSeq fun x=>x++items2)}) (hsz:items.size+items2.size≤sizeLine):wpAny (model prog w) A (inplaceOp .Add (.ref l) (.ref b)) Q E s:=by
 have ha:s.TypeIs (.ref l) "list":=⟨_,hl,rfl⟩
 have hb':s.TypeIs (.ref b) "list":=⟨_,hb,rfl⟩
 unfold inplaceOp
 refine wpAny_holding ?_
 have hfi:fillsInplaceSlot (.type "list") "add" (Operator.Add==.Add)=pure false:=by
  unfold fillsInplaceSlot
  show(typeLookup (.type "list") (dunderI "add")>>=fun fi=>pure (fi.isSome&&!isSeqSlot fi))=pure false
  refine rK (F.slot_list_iadd.lookup ..) ?_
  show(pure (true&&!isSeqSlot (some (.builtin "list.__iadd__"))):Sem Bool)=pure false
  refine rK (show isSeqSlot (some (.builtin "list.__iadd__"))=true from by decide+kernel) ?_;rfl
 refine wpAny_bind (wpAny_typeOf ha (wpAny_bind (wpAny_of_eq hfi ?_)))
 show wpAny _ A (if false=true then _ else _) Q E s
 refine rK (if_neg Ec ..) ?_
 refine wpAny_bind (wpAny_binaryOp1_none (nm:="add") ha hb' noFill_list_add ?_)
 refine wpAny_bind (wpAny_of_eq jr ?_)
 refine wpAny_bind (wpAny_rule ?_)
 refine call_meets F.slot_list_iadd ha F.entry_list_iadd (F.args_list_iadd_2 _ _) (AutoSeq1.list___iadd___list_list_0 l items n b items2 n2 ?_ (by exact kV (D8 ..) (by assumption)) (by exact kV (by assumption) (by decide))) ⟨hl,hb,h⟩
 refine rK (E5 ..) ?_
 rintro⟨_,q⟩
 unfold Builtin.List.listTooLong at q
 simp only[decide_eq_true_eq]at q
 lia
theorem ag.turn{α:Type}{R:Nat→Ids→Heap→α→Prop}(S:Sat cx σ ρ s.heap){i:Nat}{items:Array Value}{k:Nat}{f:Array Value→Array Value}{l:List V}(hi:i<σ.length)(g:s.heap.get? (ρ i)=some (bG items k))
  (v:VRs σ.length ρ s.heap l (f items).toList) {a:α} (hr: ∀h',Ext σ.length ρ s.heap σ.length ρ h'→R σ.length ρ h' a) {n:Nat}:
  ag cx σ.length ρ s (σ.set i (.list l)) R a {s with heap:=s.heap.update (ρ i) (Obj.mapSeq f),toks:=n}:=by
 have g':(s.heap.update (ρ i) (Obj.mapSeq f)).get? (ρ i)=some (bG (f items) (if(f items).size==items.size then k else k+1)):=Heap.get?_update_self _ g rfl
 refine o02 (S.set (h':=s.heap.update (ρ i) (Obj.mapSeq f)) (o:=.list l) hi (fun b hb=>Heap.get?_update_ne _ _ _ _ hb) ⟨_,g'⟩ fun xx=>⟨_,_,g',VRs.ext xx _ _ v⟩) fun S' x'=>?_
 refine⟨ρ,⟨S',by refine rK (DP ..) ?_;exact x',rfl,rfl⟩,?_⟩
 refine rK (DP ..) ?_
 exact hr _ x'
noncomputable abbrev lL (cx:Cx) (A:Around) (σ:Hp) (ρ:Ids) (s:Shared) (op:Operator) (x y:Value):V→Hp→Prop:=fun v σ'=>ak cx A σ ρ s (inplaceOp op x y) σ' (IsV v)
theorem tU{n:Nat}{h:Heap}{a b:V}{x y:Value}{f:Int→Int→Option (Out V)}{P:Value→Value→V→Hp→Prop}(ha:VR n ρ h a x)(hb:VR n ρ h b y)(k: ∀i j t u,Gives (f i j) (P (.int i t) (.int j u))):Gives (on2 cj f a b) (P x y):=
 fun o e ob=>ka (P:=fun x y=>P x y o.v o.σ) ha hb e fun i j t u e=>k i j t u o e ob
theorem ja(S:Sat cx σ ρ s.heap){op:Operator}{a b:V}{x y:Value}(ha:VR σ.length ρ s.heap a x)(hb:VR σ.length ρ s.heap b y):Gives (nt op a b σ) (lL cx A σ ρ s op x y):=by
 induction op with
 | Add=>
  exact cr (tU (P:=lL cx A σ ρ s .Add) ha hb fun _ _ _ _=>af fun _=>AutoIntOps.iadd_0 (ag.int S _))
   (cr (fun o e ob=>xn (P:=fun x y=>lL cx A σ ρ s .Add x y o.v o.σ) ha hb e fun l m _ _ e=>okE (P:=fun o=>o.ob→lL cx A σ ρ s .Add _ _ o.v o.σ) e (fun ob=>PySem.SB.iadd (fun t' k=>(kN l m).symm▸ag.str S _) ((b7 l).symm▸(b7 m).symm▸ob)) ob)
    (fun o e ob=>xw (P:=fun x y=>lL cx A σ ρ s .Add x y o.v o.σ) ha hb e fun i j hi _ e=>ifK e fun _ e=>obK e fun xs hx e=>obK e fun ys hy e=>okE (P:=fun o=>o.ob→lL cx A σ ρ s .Add _ _ o.v o.σ) e (fun ob=>
     (S.obj _ _ (a7 hx)).listK fun is k1 g1 v1=>(S.obj _ _ (a7 hy)).listK fun js k2 g2 v2=>
      rh g1 g2 (ag.turn (n:=s.toks) S hi g1 (by refine rK (Array.toList_append ..) ?_;exact VRs.append v1 v2) fun _ _=>⟨hi,rfl⟩) (v1.size▸v2.size▸ob)) ob))
 | Sub=>
  exact cr (fun o e ob=>zY (P:=fun x y=>lL cx A σ ρ s .Sub x y o.v o.σ) ha hb e fun i j _ _ e=>okE (P:=fun o=>o.ob→lL cx A σ ρ s .Sub _ _ o.v o.σ) e (fun ob=>AutoIntOps.isub_0 ((Int.ofNat_sub ob:dV (i-j)=dV i-dV j)▸ag.int S _)) ob)
   (tU (P:=lL cx A σ ρ s .Sub) ha hb fun _ _ _ _=>af fun _=>AutoIntOps.isub_0 (ag.int S _))
 | _=>exact bq
theorem jH: ∀x y:List Nat,cf x y=decide (y.length≤x.length∧x.take y.length=y)
 | _,[]=>by induction ‹List Nat›<;>rfl
 | [],_::_=>rfl
 | a::x,b::y=>by
  show(match DI a b with | true=>cf x y | false=>false)=_
  induction h:DI a b with
  | true=>
   refine rK (DK h ..) (rK (jH x y ..) ?_)
   exact decide_eq_decide.mpr ⟨fun q=>⟨EY q.1,congrArg _ q.2⟩,fun q=>⟨EK q.1,(E6 q.2).2⟩⟩
  | false=>exact(decide_eq_false fun q=>EC h (E6 q.2).1).symm
theorem gN{n ρ h}: ∀{l:List V} {xs:List Value} {r:List (List Nat)},VRs n ρ h l xs→strsOf l=some r→ ∃l':List (Str×Tok),xs=strValues l'∧l'.map (·.1)=r.map fun y=>⟨y.toArray⟩
 | [],_,r,v,e=>v.k0 (P:=fun xs=> ∃l':List (Str×Tok),xs=strValues l'∧l'.map (·.1)=r.map fun y=>⟨y.toArray⟩) (okE (P:=fun r:List (List Nat)=> ∃l':List (Str×Tok),[]=strValues l'∧l'.map (·.1)=r.map fun y=>⟨y.toArray⟩) e ⟨[],rfl,rfl⟩)
 | w::l,_,r,v,e=>v.k1 (P:=fun xs=> ∃l':List (Str×Tok),xs=strValues l'∧l'.map (·.1)=r.map fun y=>⟨y.toArray⟩) fun z zs h1 h2=>obK e fun y hy e=>obK e fun r' hr e=>
  cK (P:=fun z=> ∃l':List (Str×Tok),z::zs=strValues l'∧l'.map (·.1)=r.map fun y=>⟨y.toArray⟩) h1 hy fun t=>(gN h2 hr).elim fun l' q=>
   okE (P:=fun r:List (List Nat)=> ∃l':List (Str×Tok),_=strValues l'∧l'.map (·.1)=r.map fun y=>⟨y.toArray⟩) e ⟨(⟨y.toArray⟩,t)::l',congrArg _ q.1,congrArg _ q.2⟩
theorem pj(sep:List Nat): ∀r:List (List Nat),Str.join ⟨sep.toArray⟩ (r.map fun y=>⟨y.toArray⟩)=⟨(bD sep r).toArray⟩
 | []=>rfl
 | [x]=>rfl
 | x::y::r=>by
  have ih:=pj sep (y::r)
  show(⟨x.toArray⟩:Str)++⟨sep.toArray⟩++Str.join ⟨sep.toArray⟩ ((y::r).map fun y=>⟨y.toArray⟩)=_
  rw[ih,kN,kN,DV];rfl
theorem pb: ∀r:List (List Nat),((r.map fun y=>(⟨y.toArray⟩:Str)).map (·.length)).sum=eO r
 | []=>rfl
 | x::r=>congr (congrArg HAdd.hAdd (b7 x)) (pb r)
theorem eraseIdx_last(xs:Array Value)(h:0<xs.size):(xs.eraseIdxIfInBounds (xs.size-1)).toList=xs.toList.dropLast:=by
 obtain⟨l⟩:=xs
 simp only[FF,EM]
 refine rK (Fi ..) (rK (List.eraseIdx_eq_take_drop_succ ..) ?_)
 simp only[EM]at h
 exact rK (F6 h ..) (rK (EF ..) (rK (D2 ..) rfl))
theorem VRs.dropLast{n ρ h}: ∀{l:List V} {xs:List Value},VRs n ρ h l xs→VRs n ρ h l.dropLast xs.dropLast:=fun{l xs} v=>by
 rw[Fi,Fi,←v.length];exact v.take _
theorem VRs.last{n ρ h}{l:List V}{items:Array Value}(v:VRs n ρ h l items.toList){a:V}(e:l.getLast?=some a): ∃y,items[items.size-1]?=some y∧VR n ρ h a y:=by
 rw[List.getLast?_eq_getElem?]at e
 refine o12 (v.at e) fun y h1 h2=>?_
 exact⟨y,by rw[←v.size];exact h1,h2⟩
theorem jZ: ∀(a:Int) (r:List Int),mF a r∈a::r∧ ∀b∈a::r,b≤mF a r
 | a,[]=>⟨wj,fun b h=>Int.le_of_eq (EN.mp h)⟩
 | a,b::r=>by
  refine o02 (jZ (if a<b then b else a) r) fun h1 h2=>?_
  have h3:=h2 _ wj
  show mF (if a<b then b else a) r∈_∧ ∀c∈_,c≤mF (if a<b then b else a) r
  refine⟨(D1.mp h1).elim (fun h=>?_) fun h=>DJ _ (DJ _ h),fun c hc=>?_⟩
  ·refine rK (h ..) ?_;split
   ·exact DJ _ wj
   ·exact wj
  ·refine(D1.mp hc).elim (fun e=>Int.le_trans ?_ h3) fun hc=>(D1.mp hc).elim (fun e=>Int.le_trans ?_ h3) fun hc=>h2 _ (DJ _ hc)
   ·refine rK (e ..) ?_;split
    ·exact Int.le_of_lt ‹_›
    ·exact GR _
   ·refine rK (e ..) ?_;split
    ·exact GR _
    ·exact F9.mp ‹_›
theorem gT{n ρ h}: ∀{l:List V} {xs:List Value} {r:List Int},VRs n ρ h l xs→intsOf l=some r→ ∃l':List (Int×Tok),xs=l'.map (fun p=>Value.int p.1 p.2)∧l'.map (·.1)=r
 | [],_,r,v,e=>v.k0 (P:=fun xs=> ∃l':List (Int×Tok),xs=l'.map (fun p=>Value.int p.1 p.2)∧l'.map (·.1)=r) (okE (P:=fun r=> ∃l':List (Int×Tok),[]=l'.map (fun p=>Value.int p.1 p.2)∧l'.map (·.1)=r) e ⟨[],rfl,rfl⟩)
 | w::l,_,r,v,e=>v.k1 (P:=fun xs=> ∃l':List (Int×Tok),xs=l'.map (fun p=>Value.int p.1 p.2)∧l'.map (·.1)=r) fun z zs h1 h2=>obK e fun y hy e=>obK e fun r' hr e=>
  gJ (P:=fun z=> ∃l':List (Int×Tok),z::zs=l'.map (fun p=>Value.int p.1 p.2)∧l'.map (·.1)=r) h1 hy fun t=>(gT h2 hr).elim fun l' q=>
   okE (P:=fun r=> ∃l':List (Int×Tok),_=l'.map (fun p=>Value.int p.1 p.2)∧l'.map (·.1)=r) e ⟨(y,t)::l',congrArg _ q.1,congrArg _ q.2⟩
section
variable{α:Type}{n:Nat}{h:Heap}{args:List V}{xs:List Value}{Q:List Value→V→Hp→Prop}
theorem mS{p:V→Option α}{k:α→List V→Option (Out V)}(hv:VRs n ρ h args xs)(c: ∀v x a r xr,p v=some a→VR n ρ h v x→VRs n ρ h r xr→Gives (k a r) (Q (x::xr))):Gives (onA p k args) (Q xs):=by
 induction args with
 | nil=>exact bq
 | cons v r=>exact hv.k1 (P:=fun xs=>Gives (onA p k (v::r)) (Q xs)) fun x xr h1 h2=>ae fun a q=>c v x a r xr q h1 h2
theorem f8{x:Option (Out V)}(hv:VRs n ρ h args xs)(c:Gives x (Q [])):Gives (iU x args) (Q xs):=by
 induction args with
 | nil=>exact hv.k0 (P:=fun xs=>Gives (iU x []) (Q xs)) c
 | cons v r=>exact bq
theorem iJ{k:List Nat→List V→Option (Out V)}(hv:VRs n ρ h args xs)(c: ∀l t r xr,VRs n ρ h r xr→Gives (k l r) (Q (.str ⟨l.toArray⟩ t::xr))):Gives (onA bc k args) (Q xs):=
 mS hv fun _ _ a r xr e h1 h2=>cK (P:=fun x=>Gives (k a r) (Q (x::xr))) h1 e fun t=>c a t r xr h2
theorem pD{k:Nat→List V→Option (Out V)}(hv:VRs n ρ h args xs)(c: ∀l t r xr,VRs n ρ h r xr→Gives (k l r) (Q (.int (.ofNat l) t::xr))):Gives (onA eT k args) (Q xs):=
 mS hv fun _ _ a r xr e h1 h2=>r0 (P:=fun x=>Gives (k a r) (Q (x::xr))) h1 e fun t=>c a t r xr h2
theorem pB{k:Nat→List V→Option (Out V)}(hv:VRs n ρ h args xs)(c: ∀i r xr,i<n→VRs n ρ h r xr→Gives (k i r) (Q (.ref (ρ i)::xr))):Gives (onA bC k args) (Q xs):=
 mS hv fun _ _ a r xr e h1 h2=>eS (P:=fun x=>Gives (k a r) (Q (x::xr))) h1 e fun t=>c a r xr t h2
theorem tS{k:List Nat→List Nat→Nat→Nat→Option (Out V)}(hv:VRs n ρ h args xs)(c: ∀x t y u a v b w,Gives (k x y a b) (Q [.str ⟨x.toArray⟩ t,.str ⟨y.toArray⟩ u,.int (.ofNat a) v,.int (.ofNat b) w])):Gives (yd k args) (Q xs):=
 iJ hv fun x t _ _ hv=>iJ (Q:=fun xs=>Q (_::xs)) hv fun y u _ _ hv=>pD (Q:=fun xs=>Q (_::_::xs)) hv fun a v _ _ hv=>pD (Q:=fun xs=>Q (_::_::_::xs)) hv fun b w _ _ hv=>f8 (Q:=fun xs=>Q (_::_::_::_::xs)) hv (c x t y u a v b w)
end
noncomputable abbrev bj (cx:Cx) (A:Around) (σ:Hp) (ρ:Ids) (s:Shared) (f:BF):List Value→V→Hp→Prop:=fun xs v σ'=>ak cx A σ ρ s (call (.builtin f.name) xs) σ' (IsV v)
theorem na{α:Type}{l:List α}{q}(h:ux l=some q):l=q.1::q.2:=by
 induction l with
 | nil=>exact noE h
 | cons a r=>exact okE (P:=fun q=>a::r=q.1::q.2) h rfl
theorem qW(B:Base cx K mg mb)(C:aX cx T)(S:Sat cx σ ρ s.heap){v:V}{x:Value}(hv:VR σ.length ρ s.heap v x):Gives (Ap T σ v) (bj cx A σ ρ s .len [x]):=
 cr (ae fun l hl=>cK (P:=fun x=>Gives _ (bj cx A σ ρ s .len [x])) hv hl fun t=>af fun ob=>PySem.P.len_str (b7 l▸Gw.mpr (eC ob)) (b7 l▸ag.int S _))
  (cr (ae fun l hl=>af fun ob=>(dp C S (a7 hl) hv).elim fun a q=>q.2.listK fun items k g v=>Eh q.1▸call_len_list ⟨_,g,rfl,_,rfl⟩ (v.size▸eC ob) (v.size▸ag.int S _))
   (ae fun i hi=>eS (P:=fun x=>Gives _ (bj cx A σ ρ s .len [x])) hv hi fun hlt=>ae fun l hl=>af fun ob=>(S.obj _ _ (ci hl)).dictK fun ps g v=>call_len_dict (la B S hlt) g (v.length▸eC ob) (v.length▸ag.int S _)))
theorem rb(S:Sat cx σ ρ s.heap){sep:List Nat}{t:Tok}{i:Nat}{l:List V}(hl:σ[i]?=some (.list l))(hr:strsOf l=some (ay l))(ob:eO (ay l)+(ay l).length*sep.length≤sizeLine):
  bj cx A σ ρ s .join [.str ⟨sep.toArray⟩ t,.ref (ρ i)] (.str (bD sep (ay l))) σ:=by
 generalize ay l=r at hr ob ⊢
 refine(S.obj _ _ hl).listK fun items k g v=>?_
 refine o12 (gN v hr) fun l' e1 e2=>?_
 refine PySem.SC.join (l:=l') (texts:=r.map fun y=>⟨y.toArray⟩) ⟨_,g,rfl,k,by show Data.seq items k=_;rw[←e1]⟩ e2 ?_ fun t' k=>?_
 ·unfold JoinOk Builtin.Str.tooLong
  refine rK (PySem.StrLaws.joinTotal ..) (rK (pb ..) (rK (D4 ..) (rK (b7 ..) ?_)))
  exact(Ep _).mpr (decide_eq_false (Fc.mpr ob))
 ·show ag _ _ _ _ _ _ (Value.str (Txt.join _ _) t') _
  unfold Txt.join
  refine rK (PySem.StrLaws.glued_eq_join ..) (rK (pj ..) ?_)
  exact ag.str S _
theorem lY(S:Sat cx σ ρ s.heap){x y:List Nat}{t u:Tok}:bj cx A σ ρ s .startswith [.str ⟨x.toArray⟩ t,.str ⟨y.toArray⟩ u] (.bool (cf x y)) σ:=by
 refine PySem.SC.startswith (ag.bool' (n:=s.toks) S ?_)
 unfold Txt.startswith
 refine rK (PySem.StrLaws.subAt_eq ..) (rK (b7 ..) (rK (b7 ..) (rK (jH ..) ?_)))
 rw[Bool.eq_iff_iff]
 simp
theorem gZ(S:Sat cx σ ρ s.heap){i:Nat}{w:V}{z:Value}{l:List V}(hi:i<σ.length)(hl:σ[i]?=some (.list l))(h2:VR σ.length ρ s.heap w z)(ob:l.length≤sizeLine):bj cx A σ ρ s .append [.ref (ρ i),z] .none (σ.set i (.list (l++[w]))):=
 (S.obj _ _ hl).listK fun items k g v=>call_meets F.slot_list_append ⟨_,g,rfl⟩ F.entry_list_append (F.args_list_append_2 _ _) (AutoListH.list_append_list_val_0 (ρ i) items k z (v.size▸ob)) ⟨g,
  ag.turn (n:=s.toks) S hi g (by refine rK (Array.toList_push ..) ?_;exact VRs.append v ⟨z,[],rfl,h2,rfl⟩) fun _ _=>rfl⟩
theorem sU(S:Sat cx σ ρ s.heap){i:Nat}{l:List V}(hi:i<σ.length)(hl:σ[i]?=some (.list l)){args:List V}{xs:List Value}(hv:VRs σ.length ρ s.heap args xs):Gives (zR σ i l args) (bj cx A σ ρ s .pop (.ref (ρ i)::xs)):=by
 refine(S.obj _ _ hl).listK fun items k g v=>?_
 cases args with
 | nil=>exact hv.k0 (P:=fun xs=>Gives _ (bj cx A σ ρ s .pop (.ref (ρ i)::xs))) (ae fun w hw=>af fun ob=>(v.last hw).elim fun y q=>
   call_meets F.slot_list_pop ⟨_,g,rfl⟩ F.entry_list_pop (F.args_list_pop_1 _) (PySem.MeetsSeq.list_pop_last (ρ i) items k y q.1 (v.size▸ob)) ⟨g,
    ag.turn (n:=s.toks) S hi g (by refine rK (eraseIdx_last _ (Ga (Array.getElem?_eq_some_iff.mp q.1).1) ..) ?_;exact v.dropLast) fun _ xx=>VR.ext xx _ _ q.2⟩)
 | cons a r=>cases r with
  | cons _ _=>exact bq
  | nil=>exact hv.k1 (P:=fun xs=>Gives _ (bj cx A σ ρ s .pop (.ref (ρ i)::xs))) fun x xr h1 h2=>h2.k0 (P:=fun xr=>Gives _ (bj cx A σ ρ s .pop (.ref (ρ i)::x::xr))) (ae fun z hz=>gJ (P:=fun x=>Gives _ (bj cx A σ ρ s .pop [.ref (ρ i),x])) h1 hz fun u=>au fun h0=>ae fun q hq=>af fun ob=>by
    obtain⟨w,l'⟩:=q
    have el:=na hq
    dsimp only at el
    subst el
    have z0:z=0:=by
     cases z with
     | ofNat _=>refine rK (DK h0 ..) ?_;rfl
     | negSucc n=>cases h0
    subst z0
    obtain⟨its⟩:=items
    refine o23 ((v:VRs σ.length ρ s.heap (w::l') its)) fun y ys e2q v1 v2=>?_;subst e2q
    refine call_meets F.slot_list_pop ⟨_,g,rfl⟩ F.entry_list_pop (F.args_list_pop_2 _ _) (PySem.MeetsSeq.list_pop_at (ρ i) ⟨y::ys⟩ k 0 u 0 y (by decide) (PySem.seqIndex_of (GR 0) (FP.mpr (DO _))) rfl (kV (Eu (congrArg GG v2.length.symm)) ob)) ⟨g,
     ag.turn (n:=s.toks) S hi g ?_ fun _ xx=>VR.ext xx _ _ v1⟩
    refine rK (FF ..) ?_
    exact v2)
theorem tg(hA:A.handled=none)(S:Sat cx σ ρ s.heap){i:Nat}{l:List V}{a:Int}{r:List Int}(hl:σ[i]?=some (.list l))(hr:intsOf l=some (a::r)):bj cx A σ ρ s .max [.ref (ρ i)] (.int (mF a r)) σ:=by
 refine(S.obj _ _ hl).listK fun items k g v=>?_
 refine o12 (gT v hr) fun l' e1 e2=>?_
 have e3:items=intItems l'.toArray:=by
  apply Array.toList_inj.mp
  refine rK (e1 ..) ?_;simp[intItems]
 have hlen:l'.length=r.length+1:=by rw[←D4 (f:=(·.1)),e2];rfl
 refine max_intList hA (xs:=l'.toArray) ⟨_,g,rfl,k,by rw[←e3]⟩ (show 0<l'.length from hlen▸DO _) fun w h' tk hw hk=>?_
 refine o11 (intItems_at hw) fun t e1q=>?_;subst e1q
 have hs:l'.toArray.size-1=r.length:=by show l'.length-1=_;refine rK (hlen ..) ?_;rfl
 have hnum: ∀j,j<l'.length→(a::r)[j]?=some (numAt l'.toArray j):=fun j hj=>by
  rw[←e2]
  simp[numAt,hj]
 refine o02 (jZ a r) fun m1 m2=>?_
 refine o02 (argBest_gt (numAt l'.toArray) (l'.toArray.size-1)) fun q1 q2=>?_
 have hm:numAt l'.toArray (argBest (fun i j=>decide (numAt l'.toArray i>numAt l'.toArray j)) (l'.toArray.size-1))=mF a r:=by
  rw[hs]at q1 q2 ⊢
  refine Int.le_antisymm (m2 _ (Fa (hnum _ (hlen▸EL q1)))) ?_
  obtain⟨j,hj,ej⟩:=En m1
  have hj':=hnum j (hlen▸hj)
  replace hj':=(ej ..)▸((DH hj ..)▸hj')
  exact DZ hj'▸q2 j (ER hj)
 refine rK (hm ..) ?_
 refine o02 (S.grow (h':=h') hk) fun S' x'=>?_
 exact⟨ρ,⟨S',x',rfl,rfl⟩,_,rfl⟩
theorem nr(hA:A.handled=none)(B:Base cx K mg mb)(C:aX cx T)(S:Sat cx σ ρ s.heap){f:BF}{args:List V}{xs:List Value}(hv:VRs σ.length ρ s.heap args xs):Gives (uQ T f args σ) (bj cx A σ ρ s f xs):=by
 induction f with
 | len=>exact mS hv fun v x a r xr e h1 h2=>f8 (Q:=fun xr=>bj cx A σ ρ s .len (x::xr)) h2 (DZ e▸qW B C S h1)
 | ord=>exact iJ hv fun l t r xr h2=>f8 (Q:=fun xr=>bj cx A σ ρ s .ord (_::xr)) h2 (ae fun c e=>k7 e▸af fun _=>PySem.P.ord_of_char (ag.int S _))
 | chr=>exact pD hv fun c t r xr h2=>f8 (Q:=fun xr=>bj cx A σ ρ s .chr (_::xr)) h2 (af fun ob=>PySem.P.chr_of_int (FV.mpr ⟨decide_eq_false (F9.mpr (Fy _)),decide_eq_false (Gw.mpr (FP.mpr ob))⟩) (ag.str S [c]))
 | join=>exact iJ hv fun _ _ r xr h2=>pB (Q:=fun xr=>bj cx A σ ρ s .join (_::xr)) h2 fun i r xr hi h2=>f8 (Q:=fun xr=>bj cx A σ ρ s .join (_::_::xr)) h2 (ae fun l hl=>af fun ob=>rb S (a7 hl) ob.1 ob.2)
 | startswith=>exact iJ hv fun _ _ r xr h2=>iJ (Q:=fun xr=>bj cx A σ ρ s .startswith (_::xr)) h2 fun _ _ r xr h2=>f8 (Q:=fun xr=>bj cx A σ ρ s .startswith (_::_::xr)) h2 (af fun _=>lY S)
 | append=>exact pB hv fun i r xr hi h2=>mS (Q:=fun xr=>bj cx A σ ρ s .append (_::xr)) h2 fun v x a r xr e h1 h2=>f8 (Q:=fun xr=>bj cx A σ ρ s .append (_::_::xr)) h2 (ae fun l hl=>af fun ob=>gZ S hi (a7 hl) (DZ e▸h1) ob)
 | pop=>exact pB hv fun i r xr hi h2=>ae fun l hl=>sU S hi (a7 hl) h2
 | count=>exact tS (Q:=bj cx A σ ρ s .count) hv fun _ _ _ _ _ _ _ _=>af fun _=>np (ag.int S _)
 | rfind=>exact tS (Q:=bj cx A σ ρ s .rfind) hv fun _ _ _ _ _ _ _ _=>af fun _=>nl (ag.int S _)
 | max=>exact pB hv fun i r xr hi h2=>f8 (Q:=fun xr=>bj cx A σ ρ s .max (_::xr)) h2 (ae fun l hl=>ae fun l' hr=>ae fun q hq=>af fun _=>tg hA S (a7 hl) (hr.trans (congrArg _ (na hq))))
theorem lR(S:Sat cx σ ρ s.heap){t:TF}{args:List V}{xs:List Value}(hv:VRs σ.length ρ s.heap args xs):Gives (sk t args σ) fun v σ'=>ak cx A σ ρ s (call (.type t.name) xs) σ' (IsV v):=by
 induction t with
 | int=>exact iJ (Q:=fun xs v σ'=>ak cx A σ ρ s (call (.type "int") xs) σ' (IsV v)) hv fun _ _ r xr h2=>pD (Q:=fun xr v σ'=>ak cx A σ ρ s (call (.type "int") (_::xr)) σ' (IsV v)) h2 fun _ _ r xr h2=>f8 (Q:=fun xr v σ'=>ak cx A σ ρ s (call (.type "int") (_::_::xr)) σ' (IsV v)) h2 (af fun ob=>rI ob.1 ob.2.1 ob.2.2.1 ob.2.2.2 (ag.int S _))
 | _=>exact bq
end
noncomputable def ip:List (Str×Value)→List (Str×Value)→List (Str×Value)
 | [],s=>s
 | (n,d)::l,s=>ip l (if(s.lookup n).isNone=true then s++[(n,d)]else s)
theorem iP: ∀(l:List (Str×Value)) (slots:List (Str×Value)),
  (forIn l slots fun(x:Str×Value) (s:List (Str×Value))=>(if(s.lookup x.1).isNone=true then pure (Ek (s++[(x.1,x.2)]))else pure (Ek s):Sem _))=pure (ip l slots)
 | [],_=>rfl
 | (n,d)::l,slots=>by
  refine rK (F2 ..) ?_
  dsimp only
  show _=pure (ip l (if(slots.lookup n).isNone=true then slots++[(n,d)]else slots))
  split
  ·refine rK (pure_bind ..) ?_;exact iP l _
  ·refine rK (pure_bind ..) ?_;exact iP l _
theorem d0{n:Str}: ∀{l:List (Str×Value)},(∀p∈l,p.1≠n)→l.lookup n=none
 | [],_=>rfl
 | (k,v)::l,h=>by
  have:(n==k)=false:=beq_eq_false_iff_ne.mpr fun e=>h (k,v) wj e.symm
  refine rK (DW ..) (rK (this ..) ?_)
  exact d0 fun p hp=>h p (DJ _ hp)
theorem fa: ∀{P:List Str} {xs:List Value} {i:Nat} (_:P.Nodup) (h1:i<P.length) (h2:i<xs.length),(P.zip xs).lookup P[i]=some xs[i]
 | [],_,_,_,h1,_=>absurd h1 (Eo _)
 | _::_,[],_,_,_,h2=>absurd h2 (Eo _)
 | n::P,x::xs,0,_,_,_=>by simp
 | n::P,x::xs,i+1,hn,h1,h2=>by
  rw[Ej]at hn
  refine rK (FA ..) (rK (DW ..) ?_)
  have:((n::P)[i+1]==n)=false:=by
   refine rK (Ff ..) ?_
   exact beq_eq_false_iff_ne.mpr fun e=>hn.1 (e▸DX _)
  refine rK (this ..) ?_
  simp only[Ff]
  exact fa hn.2 (Ew h1) (Ew h2)
theorem rU{P:List Str}{xs:List Value}(hn:P.Nodup)(h1:xs.length<P.length):(P.zip xs).lookup P[xs.length]=none:=by
 refine d0 fun p hp e=>?_
 obtain⟨i,hi,ep⟩:=En hp
 rw[List.length_zip]at hi
 rw[List.getElem_zip]at ep
 subst ep
 have hlt:i<xs.length:=by lia
 have hP:i<P.length:=by exact E7 (by assumption) (by assumption)
 exact Er.mp hn i _ hP h1 hlt e
theorem rT{P:List Str}{xs:List Value}{d:Value}(hi:xs.length<P.length):P.zip xs++[(P[xs.length],d)]=P.zip (xs++[d]):=by
 have e1:(P.take xs.length++P.drop xs.length).zip (xs++[d])=(P.take xs.length).zip xs++(P.drop xs.length).zip [d]:=List.zip_append (by rw[EZ,Fz (D6 hi)])
 have e2:(P.take xs.length).zip xs=P.zip xs:=by
  have:=List.zip_eq_zip_take_min (l₁:=P) (l₂:=xs)
  rw[Nat.min_eq_right (D6 hi),FS]at this
  exact this.symm
 rw[FQ,e2,D9 hi,FA,GH]at e1
 exact e1.symm
theorem fk{P:List Str}(hn:P.Nodup): ∀(D:List Value) (i:Nat) (xs:List Value),D.length=P.length-i→i≤xs.length→xs.length≤P.length→ip ((P.drop i).zip D) (P.zip xs)=P.zip (xs++D.drop (xs.length-i))
 | [],i,xs,hD,h1,h2=>by refine rK (GH ..) (rK (List.drop_nil ..) (rK (D2 ..) ?_));rfl
 | d::D,i,xs,hD,h1,h2=>by
  have hi:i<P.length:=Nat.lt_of_sub_pos (hD▸DO _)
  have hD':D.length=P.length-(i+1):=congrArg Nat.pred hD
  refine rK (D9 hi ..) (rK (FA ..) ?_)
  show ip ((P.drop (i+1)).zip D) (if((P.zip xs).lookup P[i]).isNone=true then P.zip xs++[(P[i],d)]else P.zip xs)=_
  rcases Ez i xs.length with hx | hx
  ·refine rK (fa hn hi hx ..) (rK (if_neg (by exact Ec) ..) (rK (fk hn D (i+1) xs hD' hx h2 ..) (rK ((Nat.succ_pred_eq_of_pos (Nat.sub_pos_of_lt hx)).symm) (rK (List.drop_succ_cons ..) ?_))));rfl
  ·obtain rfl:i=xs.length:=Fg h1 hx
   rw[rU hn hi,if_pos (show(none:Option Value).isNone=true from rfl),rT hi,fk hn D (xs.length+1) (xs++[d]) hD' (by rw[pm];exact DQ _) (by rw[pm];exact hi),pm,FO,List.length_singleton,FO,DV];rfl
theorem eg{α β:Type}{f g:α→Option β}: ∀{l:List α},(∀m∈l,f m=g m)→l.filterMap f=l.filterMap g
 | [],_=>rfl
 | a::l,h=>by
  exact rK (F3 ..) (rK (F3 ..) (rK (h a wj ..) (rK (eg fun m hm=>h m (DJ _ hm) ..) rfl)))
theorem e5: ∀{P:List Str} {ys:List Value},P.Nodup→ys.length=P.length→P.filterMap (fun n=>((P.zip ys).lookup n).map fun v=>(n,v))=P.zip ys
 | [],_,_,_=>by simp
 | _::_,[],_,h=>by simp at h
 | n::P,y::ys,hn,h=>by
  rw[Ej]at hn
  refine rK (FA ..) (rK (F3 ..) ?_)
  simp only[DW,beq_self_eq_true,Option.map_some]
  congr 1
  refine Eq.trans ?_ (e5 (P:=P) (ys:=ys) hn.2 (by simpa using h))
  refine eg fun m hm=>?_
  have:(m==n)=false:=beq_eq_false_iff_ne.mpr fun e=>hn.1 (e▸hm)
  exact rK (this ..) rfl
theorem rN{R:Type}{P:List Str}(hn:P.Nodup){zs D:List Value}{given:Nat}{X Y:Sem R}{F:List (Str×Value)→Sem R}(hg:given≤P.length)(hz:zs.length≤P.length)(h1:D.length≤P.length)(h2:P.length-zs.length≤D.length):
  (if(decide (given>P.length)&&true)=true then X else if(!(List.filter (fun n=>(GS n (P.zip zs)).isNone) (GT (P.length-(Gc (D.length-P.length) D).length) P)).isEmpty)=true then Y else
   forIn ((Gc (P.length-(Gc (D.length-P.length) D).length) P).zip (Gc (D.length-P.length) D)) (P.zip zs) (fun x s=>if(GS x.1 s).isNone=true then pure (Ek (s++[(x.1,x.2)]))else pure (Ek s))>>=F)=
  F (P.zip (zs++D.drop (D.length-(P.length-zs.length)))):=by
 have hd:Gc (D.length-P.length) D=D:=by refine rK (Nat.sub_eq_zero_of_le h1 ..) ?_;rfl
 refine rK (hd ..) (rK (if_neg (by rw[GJ];exact fun q=>absurd (of_decide_eq_true q) (Fc.mpr hg)) ..) ?_)
 have hm:List.filter (fun n=>(GS n (P.zip zs)).isNone) (GT (P.length-D.length) P)=[]:=List.filter_eq_nil_iff.mpr fun n hnm=>by
  obtain⟨i,hi,rfl⟩:=En hnm
  rw[EZ]at hi
  have hiz:i<zs.length:=DR (DR hi (Nat.min_le_left ..)) (Gx (EJ .. ▸Gy h2))
  rw[List.getElem_take,fa hn (DR hiz hz) hiz]
  exact Ec
 rw[hm,if_neg (by exact Ec),iP,pure_bind,fk hn _ _ _ (Nat.sub_sub_self h1).symm (Gx (EJ .. ▸Gy h2)) hz,show zs.length-(P.length-D.length)=D.length-(P.length-zs.length)from(Nat.sub_sub_right _ h1).trans ((congrArg (· -P.length) (EJ ..)).trans (Nat.sub_sub_right _ hz).symm)]
theorem uP(fd:FuncData)(as:List Arg)(ds:List Expr)(hp:fd.params=⟨[],as,none,[],[],none,ds⟩)(hn:(as.map (·.arg)).Nodup)(xs:List Value)(hl:xs.length≤as.length):
  ∃k,bindArgs fd ⟨xs,[]⟩=seqItems? fd.defaults>>=k∧ ∀D:Option (Array Value),(D.getD #[]).toList.length≤as.length→as.length-xs.length≤(D.getD #[]).toList.length→
   k D=(pure ((as.map (·.arg)).zip (xs++(D.getD #[]).toList.drop ((D.getD #[]).toList.length-(as.length-xs.length)))):Sem _):=by
 have hP:(as.map (·.arg)).length=as.length:=D4 ..
 unfold bindArgs
 refine rK (hp ..) ?_
 dsimp only
 refine⟨_,(congrArg (fun(x:Sem (List (Str×Value)×List (Str×Value)))=>x>>=_) List.forIn_nil).trans (pure_bind _ _),fun D h1 h2=>?_⟩
 refine(rN (P:=as.map (·.arg)) hn (zs:=xs) (hP▸hl) (hP▸hl) (hP▸h1) (hP▸h2)).trans ?_
 refine rK (hP ..) ?_
 generalize hys:xs++(D.getD #[]).toList.drop ((D.getD #[]).toList.length-(as.length-xs.length))=ys
 have hy:ys.length=(as.map (·.arg)).length:=by rw[←hys,pm,D3,hP,Nat.sub_sub_self h2,FG hl]
 show(forIn ([]:List Str) _ _>>=_)=_
 refine rK (List.forIn_nil ..) (rK (pure_bind ..) ?_)
 show pure (List.filterMap _ (_++[]))=_
 refine rK (D2 ..) ?_
 exact congrArg pure (e5 hn hy)
structure FnAt(cx:Cx)(a:Addr)(fn:Fn)(o:Obj)(fd:FuncData):Prop where
 at_:cx.h₀.get? a=some o
 data:o.data=.func fd
 scope:fd.scope=fn.scope
 body:fd.body=.stmts fn.body
 globals:fd.globals=mainGlobals
 builtins:fd.builtins=builtinsNs
 closure:fd.closure=[]
 code:cx.h₀.CodeRec fd.code fd.qualname
 params: ∃as ds,fd.params=⟨[],as,none,[],[],none,ds⟩∧as.map (·.arg)=fn.pars
 dfl:(fd.defaults=.none∧fn.dfl=[])∨ ∃t items n,fd.defaults=.ref t∧cx.h₀.get? t=some (bJ items n)∧VRs 0 zero {} fn.dfl items.toList∧(∀v∈fn.dfl,v.atom=true)
 kind:fn.scope.kind=.function
 nodup:fn.pars.Nodup
 dlen:fn.dfl.length≤fn.pars.length
 cnodup:(aU fn.scope.names).Nodup
 cells: ∀x∈aU fn.scope.names,fn.scope.names.lookup x=some .cell
 kinds: ∀x∈fn.pars,fn.scope.names.lookup x=some .local∨fn.scope.names.lookup x=some .cell
structure rS(cx:Cx)(a:Addr)(fn:Fn)(o:Obj)(fd:FuncData):Prop extends FnAt cx a fn o fd where
 plain:fn.scope.isGenerator=false∧fn.scope.isCoroutine=false
structure Ok(cx:Cx)(K:Frag)(mg mb:Str→Option Value)(T:Tab):Prop where
 B:Base cx K mg mb
 G:lK T mg mb
 C:aX cx T
 F:eN T
 L:ey K T
 fns: ∀a fn,T.fns.lookup a=some fn→ ∃o fd,rS cx a fn o fd
 clk: ∀a cl,T.cls.lookup a=some cl→keepIn K (.ref a)=true
noncomputable def FlR (n:Nat) (ρ:Ids) (h:Heap):Fl→Flow→Prop
 | .next,f=>f=.next
 | .brk,f=>f=.brk
 | .cont,f=>f=.cont
 | .ret v,f=> ∃x,f=.ret x∧VR n ρ h v x
noncomputable def ah (cx:Cx) (A:Around) (σ:Hp) (ρ:Ids) (s:Shared) (x:Value) (xs:List Value) (ks:List (Str×Value)) (σ':Hp) (v:V):Prop:=
 codeAny (model cx.prog cx.w) A (.call x ⟨xs,ks⟩) (fun r s'=>match r with | .ok (.ret y)=>ag cx σ.length ρ s σ' (IsV v) y s' | _=>False) s
theorem ah.call{cx A σ ρ s x xs ks σ' v}(h:ah cx A σ ρ s x xs ks σ' v):ak cx A σ ρ s (call x xs ks) σ' (IsV v):=
 wpAny_call (codeAny_mono h fun r s' z=>by rcases r with e | (v | _ | _ | _)<;>first | exact z | exact z.elim)
noncomputable def V.own:V→Bool
 | .old _ | .meth _ _=>true
 | _=>false
structure aw(cx:Cx)(F:Ev):Prop where
 ex: ∀{A σ ρ s env ee e},aj A ee.d→ax ee σ.length ρ env→Sat cx σ ρ s.heap→Gives (F.ex ee e σ) fun v σ'=>ak cx A σ ρ s (eval e env) σ' (IsV v)
 tst: ∀{A σ ρ s env ee e},aj A ee.d→ax ee σ.length ρ env→Sat cx σ ρ s.heap→Gives (F.tst ee e σ) fun q σ'=>ak cx A σ ρ s (isTrue e env (eval e env)) σ' (fun _ _ _ b=>b=q)
 ss: ∀{A σ ρ s env ee l},aj A ee.d→ax ee σ.length ρ env→Sat cx σ ρ s.heap→Gives (F.ss ee l σ) fun fl σ'=>ak cx A σ ρ s (execs l env) σ' (fun n ρ h f=>FlR n ρ h fl f)
 call: ∀{A σ ρ s d f args kws x xs ks},aj A d→Sat cx σ ρ s.heap→VR σ.length ρ s.heap f x→VRs σ.length ρ s.heap args xs→PRs σ.length ρ s.heap kws ks→Gives (F.call d f args kws σ) fun v σ'=>ak cx A σ ρ s (call x xs ks) σ' (IsV v)
 code: ∀{A σ ρ s d f args kws x xs ks},f.own=true→aj A d→Sat cx σ ρ s.heap→VR σ.length ρ s.heap f x→VRs σ.length ρ s.heap args xs→PRs σ.length ρ s.heap kws ks→Gives (F.call d f args kws σ) fun v σ'=>ah cx A σ ρ s x xs ks σ' v
structure dC(cx:Cx)(O:Orc):Prop where
 lp: ∀{A σ ρ s env ee t},aj A ee.d→ax ee σ.length ρ env→Sat cx σ ρ s.heap→Gives (O.lp ee t σ) fun fl σ'=>ak cx A σ ρ s (exec t env) σ' (fun n ρ h f=>FlR n ρ h fl f)
 lc: ∀{A σ ρ s env ee e},aj A ee.d→ax ee σ.length ρ env→Sat cx σ ρ s.heap→Gives (O.lc ee e σ) fun v σ'=>ak cx A σ ρ s (eval e env) σ' (IsV v)
 cl: ∀{A σ ρ s d a m args kws xs ks},aj A d→Sat cx σ ρ s.heap→VRs σ.length ρ s.heap args xs→PRs σ.length ρ s.heap kws ks→O.cl a=some m→Gives (m d args kws σ) fun v σ'=>ah cx A σ ρ s (.ref a) xs ks σ' v
 sv: ∀{A σ ρ s env ee t m},aj A ee.d→ax ee σ.length ρ env→Sat cx σ ρ s.heap→O.sv ee t=some m→Gives (m σ) fun fl σ'=>ak cx A σ ρ s (exec t env) σ' (fun n ρ h f=>FlR n ρ h fl f)
 xv: ∀{A σ ρ s env ee e m},aj A ee.d→ax ee σ.length ρ env→Sat cx σ ρ s.heap→O.xv ee e=some m→Gives (m σ) fun v σ'=>ak cx A σ ρ s (eval e env) σ' (IsV v)
section
variable{cx:Cx}{K:Frag}{mg mb:Str→Option Value}{T:Tab}{A:Around}{σ:Hp}{ρ:Ids}{s:Shared}{F:Ev}{O:Orc}{ee:EE}{env:Env}
theorem ak.fin{α:Type}{t:Sem α}{n:Nat}{ρ0:Ids}{s0:Shared}{σ1 σ2:Hp}{ρ1:Ids}{s1:Shared}{R:Nat→Ids→Heap→α→Prop}(x:Aft cx n ρ0 s0 σ1 ρ1 s1)(h:ak cx A σ1 ρ1 s1 t σ2 R):
 wpAny (model cx.prog cx.w) A t (ag cx n ρ0 s0 σ2 R) (fun _ _=>False) s1:=h.use fun _ ρ2 _ y r=>⟨ρ2,x.trans y,r⟩
theorem ag.aft{α:Type}{n:Nat}{ρ0:Ids}{s0:Shared}{σ1 σ2:Hp}{ρ1:Ids}{s1 s2:Shared}{R:Nat→Ids→Heap→α→Prop}{a:α}(x:Aft cx n ρ0 s0 σ1 ρ1 s1)(p:ag cx σ1.length ρ1 s1 σ2 R a s2):ag cx n ρ0 s0 σ2 R a s2:=by
 refine o12 p fun ρ2 y r=>?_
 exact⟨ρ2,x.trans y,r⟩
theorem Aft.post{α:Type}{n:Nat}{ρ0:Ids}{s0:Shared}{σ1:Hp}{ρ1:Ids}{s1:Shared}{R:Nat→Ids→Heap→α→Prop}{a:α}(x:Aft cx n ρ0 s0 σ1 ρ1 s1)(r:R σ1.length ρ1 s1.heap a):ag cx n ρ0 s0 σ1 R a s1:=⟨ρ1,x,r⟩
theorem aG{α β γ:Type}{x:M α}{f:α→M β}{t:Sem γ}{R:α→Nat→Ids→Heap→γ→Prop}{Q:β→Hp→γ→Shared→Prop}{E:Value→Shared→Prop}(g:Gives (x σ) fun v1 σ1=>ak cx A σ ρ s t σ1 (R v1))
  (k: ∀v1 σ1 a ρ1 s1,Aft cx σ.length ρ s σ1 ρ1 s1→R v1 σ1.length ρ1 s1.heap a→Gives (f v1 σ1) fun v2 σ2=>Q v2 σ2 a s1):Gives (bnd x f σ) fun v2 σ2=>wpAny (model cx.prog cx.w) A t (Q v2 σ2) E s:=
 f9 fun o1 h1 b1 o2 h2 b2=>(g o1 h1 b1).use fun a ρ1 s1 x1 r1=>k o1.v o1.σ a ρ1 s1 x1 r1 o2 h2 b2
theorem Gives.fin{α γ:Type}{x:Option (Out α)}{t:Sem γ}{n:Nat}{ρ0:Ids}{s0:Shared}{σ1:Hp}{ρ1:Ids}{s1:Shared}{R:α→Nat→Ids→Heap→γ→Prop}(g:Gives x fun v σ'=>ak cx A σ1 ρ1 s1 t σ' (R v))(y:Aft cx n ρ0 s0 σ1 ρ1 s1):
 Gives x fun v σ'=>wpAny (model cx.prog cx.w) A t (ag cx n ρ0 s0 σ' (R v)) (fun _ _=>False) s1:=g.mono fun _ _ d=>ak.fin y d
theorem jI{e0:Expr}(h:isStar e0=false)(es:List Expr)(env:Env):starEach (e0::es) env=(false,eval e0 env)::starEach es env:=by
 cases e0<;>first | rfl | cases h
theorem bd{e0:Expr}{es:List Expr}(h:noStar (e0::es)=true):isStar e0=false∧noStar es=true:=by
 replace h:(match isStar e0 with | true=>false | false=>noStar es)=true:=h
 induction q:isStar e0 with
 | true=>replace h:=(q ..)▸h;cases h
 | false=>replace h:=(q ..)▸h;exact⟨rfl,h⟩
theorem c6{env:Env}: ∀{es:List Expr},noStar es=true→(starEach es env).any (·.1)=false
 | [],_=>rfl
 | e::es,h=>by refine rK (jI (bd h).1 ..) ?_;exact c6 (bd h).2
theorem di(H:aw cx F)(r:aj A ee.d){pos:Pos}: ∀{es:List Expr} {σ:Hp} {ρ:Ids} {s:Shared},noStar es=true→ax ee σ.length ρ env→Sat cx σ ρ s.heap→
  Gives (exs F ee es σ) fun vs σ'=>ak cx A σ ρ s (spliced (backTo pos (starEach es env))) σ' (fun n ρ h ys=>VRs n ρ h vs ys∧ys.length=es.length)
 | [],σ,ρ,s,_,e,S=>af fun _=>wpAny_pure ((Aft.refl S).post ⟨rfl,rfl⟩)
 | e0::es,σ,ρ,s,hs,e,S=>
  (aG (H.ex r e S) fun v1 σ1 a ρ1 s1 x1 r1=>aG (di H r (bd hs).2 (e.ext x1.ext) x1.sat) fun vs σ2 ys ρ2 s2 x2 r2=>af fun _=>
   (x1.trans x2).post (R:=fun n ρ h ys=>VRs n ρ h (v1::vs) ys∧ys.length=(e0::es).length) ⟨⟨a,ys,rfl,VR.ext x2.ext _ _ r1,r2.1⟩,congrArg _ r2.2⟩).mono fun _ _ h=>wpAny_items_cons h (jI (bd hs).1 es env)
theorem cF{E:Value→Shared→Prop}{M:Model}{f:Value}{first:List Value}{args:List (Bool×Sem Value)}{kws:List (Option Str×Sem Value)}{pos:Pos}{Q:Value→Shared→Prop}(hp:args.any (·.1)=false)(hk:kws.any (·.1.isNone)=false)
  (h:wpAny M A (evalArgs f true args kws) (fun a s₁=>(∃k,∀Q':Keeper→Shared→Prop,Q' k s₁→wpAny M A (keeperOf f) Q' E s₁)∧wpAny M A (call f (first++a.pos) a.kw) Q E s₁) E s):
  wpAny M A (callWith pos f first args kws) Q E s:=by
 unfold callWith
 refine wpAny_bind (wpAny_holding (wpAny_mono h (fun x s₁ h₁=>wpAny_bind (wpAny_standAt ?_)) fun _ _ x=>x))
 refine o02 h₁ fun n0q hc=>?_;obtain⟨k,hkp⟩:=n0q
 have tail: ∀{t:Sem Value},wpAny M A t Q E s₁→wpAny M A (t>>=fun r=>holding [r] point>>=fun _=>pure r) Q E s₁:=
  fun ht=>wpAny_bind (wpAny_mono ht (fun r s₂ hr=>wpAny_bind (wpAny_holding (wpAny_point (wpAny_pure hr)))) fun _ _ x=>x)
 have op: ∀{l:List Value} {t:Sem Value},wpAny M A t Q E s₁→wpAny M A (operate l t) Q E s₁:=fun ht=>by
  unfold operate
  exact wpAny_bind (wpAny_holding (wpAny_mono ht (fun r s₂ hr=>wpAny_bind (wpAny_release (wpAny_pure hr))) fun _ _ x=>x))
 refine rK (hp ..) (rK (hk ..) ?_)
 dsimp only
 refine wpAny_bind (hkp _ ?_)
 have km: ∀{m:Value},wpAny M A (callMarked m f (first++x.pos) x.kw) Q E s₁:=by intro m;unfold callMarked;exact wpAny_keep hc
 induction k
 case frame=>
  refine wpAny_ite ?_
  split
  ·exact tail hc
  ·exact tail km
 case boundFrame=>
  refine wpAny_ite ?_
  split
  ·exact tail hc
  ·exact tail km
 case machine=>exact tail hc
 case caller=>exact tail (op hc)
end
section
variable{cx:Cx}{K:Frag}{mg mb:Str→Option Value}{T:Tab}{A:Around}{σ:Hp}{ρ:Ids}{s:Shared}{F:Ev}{O:Orc}{ee:EE}{env:Env}
theorem cE{M:Model}{E:Value→Shared→Prop}{f:Value}{args:List (Bool×Sem Value)}{Q:Args→Shared→Prop}(hp:args.any (·.1)=false)
  (h:wpAny M A (spliced args) (fun vs s1=>Q ⟨vs,[]⟩ s1) E s):wpAny M A (evalArgs f true args []) Q E s:=by
 have key: ∀(vs:List Value) (s1:Shared),Q ⟨vs,[]⟩ s1→wpAny M A (do
   if([]:List (Option Str×Sem Value)).all (·.1.isSome)then
    let kw:=(([]:List (Option Str×Sem Value)).filterMap (·.1)).zip (←evalAll [])
    return(⟨←(pure vs:Sem (List Value)),kw⟩:Args)
   let d←mergedKeywords f []
   let pos←(pure vs:Sem (List Value))
   return⟨pos,←holding (.ref d::pos) (keywordsIn f d)⟩:Sem Args) Q E s1:=fun vs s1 hq=>wpAny_bind (wpAny_pure (wpAny_bind (wpAny_pure (wpAny_pure hq))))
 unfold evalArgs
 match args,hp,h with
 | [],_,h=>exact wpAny_bind (wpAny_mono h (fun vs s1 hv=>wpAny_holding (key vs s1 hv)) fun _ _ x=>x)
 | (false,x)::l,_,h=>exact wpAny_bind (wpAny_mono h (fun vs s1 hv=>wpAny_holding (key vs s1 hv)) fun _ _ x=>x)
theorem mE{M:Model}{E:Value→Shared→Prop}{f self a g:Addr}{o:Obj}{fd:FuncData}(h1:s.heap.get? a=some (methodObj (.ref g) (.ref self)))(h2:s.heap.get? g=some o)(h3:o.data=.func fd){Q':Keeper→Shared→Prop}
  (h:Q' .boundFrame s):wpAny M A (keeperOf (.ref a)) Q' E s:=by
 unfold keeperOf
 refine wpAny_bind (wpAny_load h1 ?_)
 dsimp only
 refine wpAny_ite ?_
 refine rK (if_neg (by decide) ..) ?_
 refine wpAny_bind (wpAny_load h2 ?_)
 refine rK (h3 ..) ?_
 exact wpAny_pure h
theorem gD(H:Ok cx K mg mb T)(S:Sat cx σ ρ s.heap){f:V}{x:Value}(r:VR σ.length ρ s.heap f x)(c:calleeOk T f=true){E:Value→Shared→Prop}:
  ∃k,∀Q':Keeper→Shared→Prop,Q' k s→wpAny (model cx.prog cx.w) A (keeperOf x) Q' E s:=by
 cases f with
 | old a=>
  refine rK (show x=.ref a from r) ?_
  replace c:(match T.fns.lookup a with | some _=>true | none=>(T.cls.lookup a).isSome)=true:=c
  induction hf:T.fns.lookup a with
  | some fn=>
   refine o21 (H.fns a fn hf) fun o fd k=>?_
   refine⟨.frame,fun Q' h=>wpAny_bind (wpAny_load (S.keep _ _ k.at_) ?_)⟩
   refine rK (k.data ..) ?_
   exact wpAny_pure h
  | none=>
   replace c:=(hf ..)▸c
   refine o11 (Fw.mp c) fun cl hc=>?_
   refine o12 (looks_keep (M:=model cx.prog cx.w) (H.clk a cl hc) (H.B.X.keeps S.keep)) fun k _ L=>?_
   exact⟨k,fun Q' h=>L.here h⟩
 | meth g i=>
  obtain⟨hi,a,q,ho,_⟩:=r
  refine o11 (Fw.mp c) fun fn hf=>?_
  refine o21 (H.fns g fn hf) fun o fd k=>?_
  exact q▸⟨.boundFrame,fun Q' h=>mE (f:=g) ho (S.keep _ _ k.at_) k.data h⟩
 | bi=>exact Eh (r:x=_)▸⟨.machine,fun Q' h=>wpAny_pure h⟩
 | ty=>exact Eh (r:x=_)▸⟨.machine,fun Q' h=>wpAny_pure h⟩
 | _=>cases c
theorem er{pos:Pos}(l:List (Bool×Sem Value)):(backTo pos l).any (·.1)=l.any (·.1):=by
 unfold backTo;refine rK (List.any_map ..) ?_;rfl
theorem e7(H:Ok cx K mg mb T)(HF:aw cx F)(r:aj A ee.d){pos:Pos}(e:ax ee σ.length ρ env)(S:Sat cx σ ρ s.heap){f:V}{first:List V}{x:Value}{xs:List Value}(hf:VR σ.length ρ s.heap f x)(hfs:VRs σ.length ρ s.heap first xs)
  {as:List Expr} (ha:noStar as=true):
  Gives ((bnd (exs F ee as) fun vs=>callC T F ee.d f (first++vs) []) σ) fun v σ'=>ak cx A σ ρ s (callWith pos x xs (backTo pos (starEach as env)) []) σ' (IsV v):=
 (aG (di HF r ha e S) fun vs σ1 ys ρ1 s1 x1 r1=>au fun hc=>
  have hf2:=VR.ext x1.ext _ _ hf
  ((
   HF.call r x1.sat hf2 (VRs.append (VRs.ext x1.ext _ _ hfs) r1.1) (ks:=[]) ix).fin x1).mono fun _ _ d=>And.intro (gD H x1.sat hf2 hc) d).mono fun _ _ h=>
   cF ((er _).trans (c6 ha)) rfl (cE ((er _).trans (c6 ha)) h)
theorem oo{o:Expr}(h:pV o=none)(x:Str)(whole:Sem Value):attributeBase o x env whole=whole:=by
 cases o<;>first | rfl | cases h
theorem nS{f:Expr}(h:nameP f=none)(as:List Expr)(ks:List Keyword)(p:Pos)(x:Str)(whole:Sem Value):attributeBase (.Call f as ks p) x env whole=whole:=by
 cases f<;>first | rfl | cases h
theorem uL{e:Expr}{x}(h:pV e=some x): ∃p,e=.Call x.1 x.2.1 x.2.2 p:=by
 cases e with
 | Call _ _ _ _=>exact okE (P:=fun x=> ∃p,_=Expr.Call x.1 x.2.1 x.2.2 p) h ⟨_,rfl⟩
 | _=>exact noE h
theorem dA{o:Expr}{x:Str}(h:aQ o=true)(whole:Sem Value):attributeBase o x env whole=whole:=by
 unfold aQ at h
 induction q:pV o with
 | none=>exact oo q x whole
 | some w=>
  replace h:=(q ..)▸h
  obtain⟨f,as,ks⟩:=w
  refine o11 (uL q) fun p e1q=>?_;subst e1q
  replace h:(match nameP f with | none=>true | some _=>bR as || bR ks)=true:=h
  induction q2:nameP f with
  | none=>exact nS q2 as ks p x whole
  | some n=>
   replace h:=(q2 ..)▸h
   refine rK (fR q2 ..) ?_
   induction as with
   | cons _ _=>rfl
   | nil=>induction ks with
    | cons _ _=>rfl
    | nil=>cases h
theorem few{pos:Pos}{as:List Expr}(ha:noStar as=true)(hn:as.length<20):methodCallForm as.length (backTo pos (starEach as env)) []=true:=by
 unfold methodCallForm
 refine rK (DL.mpr fun y hy=>Ep _ |>.mpr (Gd.mpr (List.any_eq_false.mp ((er (pos:=pos) _).trans (c6 (env:=env) ha)) y hy)) ..) ?_
 exact decide_eq_true (by split<;>lia)
theorem call_meth(H:Ok cx K mg mb T)(HF:aw cx F)(r:aj A ee.d){pos:Pos}(e:ax ee σ.length ρ env)(S:Sat cx σ ρ s.heap){obj:Expr}{name:Str}{ap:Pos}{as:List Expr}(ha:noStar as=true)(hb:aQ obj=true)(hn:as.length<20)(hl:(ap.endLine==pos.line)=true):
  Gives (bnd (F.ex ee obj) (fun ov=>bnd (meth T ov name) fun p=>bnd (exs F ee as) fun vs=>callC T F ee.d p.1 (p.2++vs) []) σ) fun v σ'=>ak cx A σ ρ s (eval (.Call (.Attribute obj name ap) as [] pos) env) σ' (IsV v):=by
 refine(aG (Q:=fun v σ' ov s1=>wpAny (model cx.prog cx.w) A (getMethod ov name (do return(←importBound obj env).getD true)) (fun p s2=>wpAny (model cx.prog cx.w) A (callWith pos p.1 p.2 (backTo pos (starEach as env)) []) (ag cx σ.length ρ s σ' (IsV v)) (fun _ _=>False) s2) (fun _ _=>False) s1) (E:=fun _ _=>False) (HF.ex r e S) fun v1 σ1 ov ρ1 s1 x1 r1=>(aG (R:=IsP) (jY (A:=A) (pl:=(do return(←importBound obj env).getD true)) H.B H.C H.L x1.sat r1 |>.mono fun _ _ q=>q.1▸q.2) fun p σ2 q ρ2 s2 x2 r2=>
  (e7 (pos:=pos) H HF r ((e.ext x1.ext).ext x2.ext) x2.sat r2.1 r2.2 ha).fin (x1.trans x2))).mono fun v σ' h=>?_
 refine rK (arm_eval_Call ..) (rK (dA hb ..) ?_)
 refine wpAny_bind (wpAny_mono h (fun ov s1 h=>wpAny_bind (wpAny_standAt ?_)) fun _ _ x=>x)
 unfold methodCall
 refine rK (show methodCallForm (as.length+([]:List Keyword).length) (backTo pos (starEach as env)) (backToKw pos (keywordEach [] env))=true from few ha hn) ?_
 refine wpAny_bind (wpAny_holding (wpAny_mono h (fun q s2 h=>?_) fun _ _ x=>x))
 obtain⟨f,first⟩:=q
 refine wpAny_bind ?_
 unfold methodCallPos
 refine rK (hl ..) ?_
 exact wpAny_pure h
theorem rJ(H:Ok cx K mg mb T)(HF:aw cx F)(r:aj A ee.d){pos:Pos}(e:ax ee σ.length ρ env)(S:Sat cx σ ρ s.heap){func:Expr}{as:List Expr}: ∀{kws:List Keyword},Gives (xP T F ee func as kws pos σ) fun v σ'=>ak cx A σ ρ s (eval (.Call func as kws pos) env) σ' (IsV v)
 | _::_=>au fun _=>bq
 | []=>au fun ha=>cr (ae fun q hq=>au fun hb=>au fun hn=>au fun hl=>jb hq▸call_meth H HF r e S ha hb (ED.mp hn) (beq_iff_eq.mpr (DK hl)))
  (ae fun q hq=>(aG (HF.ex r e S) fun v1 σ1 f ρ1 s1 x1 r1=>(e7 (pos:=pos) (first:=[]) (xs:=[]) H HF r (e.ext x1.ext) x1.sat r1 rfl ha).fin x1).mono fun v σ' h=>by
   rw[fR hq]at h ⊢
   exact wpAny_Call_Name_kw h)
end
section
variable{cx:Cx}{K:Frag}{mg mb:Str→Option Value}{T:Tab}{A:Around}{σ:Hp}{ρ:Ids}{s:Shared}{F:Ev}{O:Orc}{ee:EE}{env:Env}
theorem iA{e:Expr}{rs:List Expr}(h:cp (e::rs)=true):mN e=false∧cp rs=true:=by
 replace h:(match mN e with | true=>false | false=>cp rs)=true:=h
 induction q:mN e with
 | true=>replace h:=(q ..)▸h;cases h
 | false=>replace h:=(q ..)▸h;exact⟨rfl,h⟩
theorem qP{e:Expr}(h:mN e=false)(op:CmpOp):behindInMarks op e=false:=by
 cases e<;>first | rfl | cases h
theorem co: ∀{rs:List Expr} (ops:List CmpOp),cp rs=true→markedEach ops rs (evalEach rs env)=evalEach rs env
 | [],ops,_=>by cases ops with
  | nil=>rfl
  | cons o os=>cases os<;>rfl
 | r::rs,ops,h=>by
  cases ops with
  | nil=>cases rs<;>rfl
  | cons op ops=>
   cases rs with
   | nil=>
    cases ops with
    | nil=>
     show [markedBehindIn op r (eval r env)]=[eval r env]
     unfold markedBehindIn
     exact rK (qP (iA h).1 ..) rfl
    | cons op' ops=>cases ops<;>rfl
   | cons r' rs=>
    cases ops with
    | nil=>rfl
    | cons op' ops=>exact congrArg (eval r env:: ·) (co (rs:=r'::rs) (op'::ops) (iA h).2)
theorem fv{M:Model}{E:Value→Shared→Prop}{Q:Value→Shared→Prop}{l:List Value}{t:Sem Value}(h:wpAny M A t Q E s):wpAny M A (operate l t) Q E s:=by
 unfold operate
 exact wpAny_bind (wpAny_holding (wpAny_mono h (fun r s₂ hr=>wpAny_bind (wpAny_release (wpAny_pure hr))) fun _ _ x=>x))
theorem kD(H:Ok cx K mg mb T)(S:Sat cx σ ρ s.heap)(hu:A.units<cLine){op:CmpOp}{a b:V}{x y:Value}(ha:VR σ.length ρ s.heap a x)(hb:VR σ.length ρ s.heap b y):Gives (zc T op a b σ) fun q σ'=>ak cx A σ ρ s (compareOp op x y) σ' (IsV (.bool q)):=
 pC fun q e=>nh H.B H.C H.F S hu ha hb e
theorem Az{α:Type}{b:Bool}{x y:M α}{P:α→Hp→Prop}(h1:b=true→Gives (x σ) P)(h2:b=false→Gives (y σ) P):Gives ((match b with | true=>x | false=>y) σ) P:=by
 induction b with
 | true=>exact h1 rfl
 | false=>exact h2 rfl
noncomputable abbrev qc (cx:Cx) (A:Around) (n:Nat) (ρ0:Ids) (s0:Shared) (s:Shared) (pos:Pos) (x:Value) (ops:List CmpOp) (l:List (Sem Value)):Bool→Hp→Prop:=fun q σ'=>
 wpAny (model cx.prog cx.w) A (compareChain pos x ops l) (ag cx n ρ0 s0 σ' (IsV (.bool q))) (fun _ _=>False) s∧wpAny (model cx.prog cx.w) A (testChain pos x ops l) (ag cx n ρ0 s0 σ' (fun _ _ _ b=>b=q)) (fun _ _=>False) s
noncomputable abbrev Bk (cx:Cx) (A:Around) (s:Shared) (re:Sem Value) (op:CmpOp) (x:Value) (Q:Value→Bool→Shared→Prop):Prop:=
 wpAny (model cx.prog cx.w) A re (fun y s1=>wpAny (model cx.prog cx.w) A (compareOp op x y) (fun z s2=> ∃c,z=.bool c∧Q y c s2) (fun _ _=>False) s1) (fun _ _=>False) s
theorem rH{n:Nat}{ρ0:Ids}{s0:Shared}{re:Sem Value}{pos:Pos}{x:Value}{op:CmpOp}{q:Bool}{σ':Hp}(h:Bk cx A s re op x fun _ c s2=>c=q∧ ∃ρ',Aft cx n ρ0 s0 σ' ρ' s2):qc cx A n ρ0 s0 s pos x [op] [re] q σ':=
 ⟨wpAny_bind (wpAny_holding (wpAny_mono h (fun y s1 h=>wpAny_bind (wpAny_standAt (fv (wpAny_mono h (fun z s2 y2k=>y2k.elim fun c z0y2k=>z0y2k.elim fun e1 z1y2k=>z1y2k.elim fun e2 z2y2k=>z2y2k.elim fun ρ' x'=>⟨ρ',x',e2▸e1⟩) fun _ _ x=>x)))) fun _ _ x=>x)),
  wpAny_bind (wpAny_holding (wpAny_mono h (fun y s1 h=>wpAny_bind (wpAny_standAt (wpAny_bind (fv (wpAny_mono h (fun z s2 y2k=>y2k.elim fun c z0y2k=>z0y2k.elim fun e1 z1y2k=>z1y2k.elim fun e2 z2y2k=>z2y2k.elim fun ρ' x'=>e1▸wpAny_holding (wpAny_truthy_bool ⟨ρ',x',e2⟩)) fun _ _ x=>x))))) fun _ _ x=>x))⟩
theorem om{n:Nat}{ρ0:Ids}{s0:Shared}{re:Sem Value}{pos:Pos}{x:Value}{op op2:CmpOp}{ops:List CmpOp}{l:List (Sem Value)}{q:Bool}{σ':Hp}
  (h:Bk cx A s re op x fun y c s2=>(c=true→qc cx A n ρ0 s0 s2 pos y (op2::ops) l q σ')∧(c=false→q=false∧ ∃ρ',Aft cx n ρ0 s0 σ' ρ' s2)):qc cx A n ρ0 s0 s pos x (op::op2::ops) (re::l) q σ':=by
 refine⟨wpAny_bind (wpAny_holding (wpAny_mono h (fun y s1 h=>wpAny_bind (wpAny_standAt (wpAny_bind (wpAny_holding (wpAny_mono h (fun z s2 h=>wpAny_bind (wpAny_release (wpAny_bind (wpAny_holding ?_)))) fun _ _ x=>x))))) fun _ _ x=>x)),
  wpAny_bind (wpAny_holding (wpAny_mono h (fun y s1 h=>wpAny_bind (wpAny_standAt (wpAny_bind (wpAny_holding (wpAny_mono h (fun z s2 h=>wpAny_bind (wpAny_release (wpAny_bind (wpAny_holding ?_)))) fun _ _ x=>x))))) fun _ _ x=>x))⟩
 ·refine o13 h fun c e1q k1 k2=>?_;subst e1q
  refine wpAny_truthy_bool ?_
  induction c
  ·obtain⟨e,ρ',x'⟩:=k2 rfl;exact wpAny_pure ⟨ρ',x',e▸rfl⟩
  ·exact(k1 rfl).1
 ·refine o13 h fun c e1q k1 k2=>?_;subst e1q
  refine wpAny_truthy_bool ?_
  induction c
  ·obtain⟨e,ρ',x'⟩:=k2 rfl;exact wpAny_pure ⟨ρ',x',e.symm⟩
  ·exact(k1 rfl).2
theorem gG(H:Ok cx K mg mb T)(HF:aw cx F)(r:aj A ee.d){pos:Pos}: ∀{ops:List CmpOp} {rs:List Expr} {σ:Hp} {ρ:Ids} {s:Shared} {a:V} {x:Value},ax ee σ.length ρ env→Sat cx σ ρ s.heap→VR σ.length ρ s.heap a x→
  ∀{n:Nat} {ρ0:Ids} {s0:Shared},Aft cx n ρ0 s0 σ ρ s→Gives (w6 T F ee a ops rs σ) (qc cx A n ρ0 s0 s pos x ops (evalEach rs env))
 | [],_,_,_,_,_,_,_,_,_,_,_,_,_=>bq
 | _::_,[],_,_,_,_,_,_,_,_,_,_,_,_=>bq
 | [op],re::rs,σ,ρ,s,a,x,e,S,hx,n,ρ0,s0,x0=>by
  induction rs with
  | cons _ _=>exact f9 fun _ _ _=>bq
  | nil=>exact(aG (HF.ex r e S) fun b σ1 y ρ1 s1 x1 r1=>(kD H x1.sat r.u (VR.ext x1.ext _ _ hx) r1).mono fun q σ' d=>d.use fun z ρ2 s2 x2 r2=>⟨q,r2,⟨rfl,ρ2,x0.trans (x1.trans x2)⟩⟩).mono fun _ _ h=>rH h
 | op::op2::ops,re::rs,σ,ρ,s,a,x,e,S,hx,n,ρ0,s0,x0=>
  (aG (HF.ex r e S) fun b σ1 y ρ1 s1 x1 r1=>aG (tV (kD H x1.sat r.u (VR.ext x1.ext _ _ hx) r1)) fun c σ2 z ρ2 s2 x2 r2=>by
   have x3:=x0.trans (x1.trans x2)
   induction c
   ·exact af fun _=>⟨false,r2,⟨fun q=>Eg q,fun _=>⟨rfl,ρ2,x3⟩⟩⟩
   ·exact(gG H HF r (ops:=op2::ops) (e.ext (x1.trans x2).ext) x2.sat (VR.ext x2.ext _ _ r1) x3).mono fun q σ' h=>⟨true,r2,⟨fun _=>h,fun q=>Eg q⟩⟩).mono fun _ _ h=>om h
theorem gK(H:Ok cx K mg mb T)(S:Sat cx σ ρ s.heap){v:V}{x:Value}(hv:VR σ.length ρ s.heap v x):Gives (gq T v σ) fun q σ'=>ak cx A σ ρ s (truthy x) σ' (fun _ _ _ b=>b=q):=
 ae fun _ hb=>af fun ob=>ia H.B S hv hb ob
theorem i6(H:Ok cx K mg mb T)(HF:aw cx F)(r:aj A ee.d){pos:Pos}{op:BoolOp}: ∀{es:List Expr} {σ:Hp} {ρ:Ids} {s:Shared},ax ee σ.length ρ env→Sat cx σ ρ s.heap→Gives (pW T F ee op es σ) fun v σ'=>ak cx A σ ρ s (boolOp pos op (evalEach es env)) σ' (IsV v)
 | [],_,_,_,_,_=>bq
 | [e0],_,_,_,e,S=>HF.ex r e S
 | e0::e1::es,σ,ρ,s,e,S=>by
  show Gives ((bnd (F.ex ee e0) fun v=>bnd (rR (F.adv e0.pos) (gq T v)) fun b=>match sC op b with | true=>ret v | false=>pW T F ee op (e1::es)) σ) _
  refine(aG (Q:=fun v σ' x s1=>wpAny (model cx.prog cx.w) A (truthy x) (fun t s2=>wpAny (model cx.prog cx.w) A (match op,t with | .And,false | .Or,true=>pure x | _,_=>boolOp pos op (evalEach (e1::es) env)) (ag cx σ.length ρ s σ' (IsV v)) (fun _ _=>False) s2) (fun _ _=>False) s1) (E:=fun _ _=>False) (HF.ex r e S) fun v1 σ1 x ρ1 s1 x1 r1=>
   aG (tV (gK H x1.sat r1)) fun q σ2 b ρ2 s2 x2 r2=>?_).mono fun _ _ h=>wpAny_bind (wpAny_mono h (fun x s1 h=>wpAny_bind (wpAny_standAt (wpAny_bind (wpAny_holding h)))) fun _ _ x=>x)
  have go:=(i6 H HF r (op:=op) (pos:=pos) (es:=e1::es) (e.ext (x1.trans x2).ext) x2.sat).fin (x1.trans x2)
  have done:=(x1.trans x2).post (R:=IsV v1) (VR.ext x2.ext _ _ r1)
  subst r2
  induction op<;>induction b
  ·exact af fun _=>wpAny_pure done
  ·exact go
  ·exact go
  ·exact af fun _=>wpAny_pure done
theorem ic(HF:aw cx F)(r:aj A ee.d){op:BoolOp}: ∀{es:List Expr} {σ:Hp} {ρ:Ids} {s:Shared},ax ee σ.length ρ env→Sat cx σ ρ s.heap→Gives (tests F ee op es σ) fun q σ'=>ak cx A σ ρ s (allTrue op es env) σ' (fun _ _ _ b=>b=q)
 | [],σ,ρ,s,e,S=>af fun _=>by
  induction op
  ·exact wpAny_allTrue_And_nil ((Aft.refl S).post rfl)
  ·exact wpAny_allTrue_Or_nil ((Aft.refl S).post rfl)
 | e0::es,σ,ρ,s,e,S=>by
  have go: ∀{σ1 ρ1 s1},Aft cx σ.length ρ s σ1 ρ1 s1→Gives (tests F ee op es σ1) fun q σ'=>wpAny (model cx.prog cx.w) A (allTrue op es env) (ag cx σ.length ρ s σ' (fun _ _ _ b=>b=q)) (fun _ _=>False) s1:=fun x1=>(ic HF r (e.ext x1.ext) x1.sat).fin x1
  induction op
  ·refine(aG (HF.tst r e S) fun q σ1 b ρ1 s1 x1 r1=>?_).mono fun _ _ h=>wpAny_allTrue_And_cons h
   subst r1
   induction b
   ·exact af fun _=>x1.post (R:=fun _ _ _ b=>b=false) rfl
   ·exact go x1
  ·refine(aG (HF.tst r e S) fun q σ1 b ρ1 s1 x1 r1=>?_).mono fun _ _ h=>wpAny_allTrue_Or_cons h
   subst r1
   induction b
   ·exact go x1
   ·exact af fun _=>x1.post (R:=fun _ _ _ b=>b=true) rfl
end
noncomputable def iQ (acc:List (Str×Value)):List (Str×Value)→List (Str×Value)
 | []=>acc
 | (k,v)::r=>iQ (dm k v acc) r
theorem gd: ∀{r acc:List (Str×Value)},(acc.map (·.1)).Nodup→merged acc r=iQ acc r
 | [],acc,_=>rfl
 | (k,v)::r,acc,h=>by
  show merged (stored acc k v) r=iQ (dm k v acc) r
  refine rK (im h ..) ?_
  exact gd (gw h).1
theorem PRs.putAll{n ρ h}: ∀{l acc:List (Str×V)} {r ps:List (Str×Value)},PRs n ρ h acc ps→PRs n ρ h l r→PRs n ρ h (mn acc l) (iQ ps r)
 | [],acc,_,ps,ha,hl=>hl.k0 (P:=fun r=>PRs n ρ h acc (iQ ps r)) ha
 | (k,v)::l,acc,_,ps,ha,hl=>hl.k1 (P:=fun r=>PRs n ρ h (mn (dW k v acc) l) (iQ ps r)) fun x xs h1 h2=>(PRs.putAll (PRs.put h1 ha) h2:PRs n ρ h (mn (dW k v acc) l) (iQ (dm k x ps) xs))
section
variable{cx:Cx}{K:Frag}{mg mb:Str→Option Value}{T:Tab}{A:Around}{σ:Hp}{ρ:Ids}{s:Shared}{F:Ev}{O:Orc}{ee:EE}{env:Env}
theorem wq{k:Option Expr}{x:Str}(h:(k.bind oh).bind yc=some x): ∃a b,k=some (.Constant (.str x) a b):=
 obK h fun c hc hs=>obK hc fun e he hc=>o21 (rE hc) fun a b q=>⟨a,b,he.trans (congrArg some (q.trans (vf hs▸rfl)))⟩
theorem iZ(HF:aw cx F)(r:aj A ee.d){pos:Pos}: ∀{ks:List (Option Expr)} {vs:List Expr} {σ:Hp} {ρ:Ids} {s:Shared},ax ee σ.length ρ env→Sat cx σ ρ s.heap→
  Gives (pJ F ee ks vs σ) fun l σ'=>ak cx A σ ρ s (evalPairs (pairTrees ks vs env pos)) σ' (fun n ρ h ps=> ∃kvs,Carries (strKind cx.prog cx.w) ps kvs∧PRs n ρ h l kvs)
 | [],[],σ,ρ,s,e,S=>af fun _=>wpAny_pure ((Aft.refl S).post ⟨[],trivial,rfl⟩)
 | [],_::_,_,_,_,_,_=>bq
 | _::_,[],_,_,_,_,_=>bq
 | k::ks,v::vs,σ,ρ,s,e,S=>ae fun x hx=>by
  refine o21 (wq hx) fun a b e2q=>?_;subst e2q
  have S':Sat cx σ ρ ({s with toks:=s.toks+1}:Shared).heap:=S
  refine(aG (Q:=fun l σ' y s1=>wpAny (model cx.prog cx.w) A (evalPairs (pairTrees ks vs env pos)) (fun ps s2=>ag cx σ.length ρ {s with toks:=s.toks+1} σ' (fun n ρ h ps=> ∃kvs,Carries (strKind cx.prog cx.w) ps kvs∧PRs n ρ h l kvs) ((.str x s.toks,y)::ps) s2) (fun _ _=>False) s1) (E:=fun _ _=>False) (HF.ex (s:={s with toks:=s.toks+1}) r e S') fun v1 σ1 y ρ1 s1 x1 r1=>
   aG (iZ HF r (e.ext x1.ext) x1.sat) fun l σ2 ps ρ2 s2 x2 r2=>af fun _=>(x1.trans x2).post (R:=fun n ρ h ps=> ∃kvs,Carries (strKind cx.prog cx.w) ps kvs∧PRs n ρ h ((x,v1)::l) kvs) (r2.elim fun kvs q=>⟨(x,y)::kvs,⟨PySem.strKind_is _ _ _ _,rfl,q.1⟩,⟨y,kvs,rfl,VR.ext x2.ext _ _ r1,q.2⟩⟩)).mono fun l σ' h=>?_
  show wpAny _ A (constValue env (.str x)>>=fun kv=>holding [kv] (eval v env>>=fun x=>standAt pos>>=fun _=>pure x)>>=fun vv=>(holding [kv,vv] (evalPairs (pairTrees ks vs env pos)))>>=fun r=>pure ((kv,vv)::r)) _ _ s
  exact wpAny_bind (wpAny_mkText (wpAny_bind (wpAny_holding (wpAny_bind (wpAny_mono h (fun y s1 h=>wpAny_bind (wpAny_standAt (wpAny_pure (wpAny_bind (wpAny_holding (wpAny_mono h (fun ps s2 h=>wpAny_pure (h.elim fun ρ' q=>⟨ρ',⟨q.1.sat,q.1.ext,q.1.gens,q.1.os⟩,q.2⟩)) fun _ _ x=>x)))))) fun _ _ x=>x)))))
theorem n6{dv:V}{kvs:List (Str×V)}{D:Addr}{ps:List (Value×Value)}{ys:List (Str×Value)}{l:List (Str×V)}(hd:VR σ.length ρ s.heap dv (.ref D))(c1:Carries (strKind cx.prog cx.w) ps ys)(S:Sat cx σ ρ s.heap)(c2:PRs σ.length ρ s.heap l ys):
  Gives (uc dv (mn [] l) σ) fun v σ'=> ∃kvs,Carries (strKind cx.prog cx.w) ps kvs∧s.heap.DictOf (strKind cx.prog cx.w) D []∧ ∀h',h'.DictOf (strKind cx.prog cx.w) D (merged [] kvs)→Heap.SameBut D s.heap h'→ag cx σ.length ρ s σ' (IsV v) (.ref D) {s with heap:=h',toks:=s.toks+ps.length}:=
 ae fun k hk=>ae fun m hm=>au fun hn=>af fun _=>by
  have hx:=ci hm
  rw[dN hk]at hd
  refine o02 hd fun hlt e=>?_
  obtain rfl:D=ρ k:=Value.ref.inj e
  induction m with
  | cons _ _=>cases hn
  | nil=>exact(S.obj _ _ hx).dictK fun ps0 d1 d2=>d2.k0 (P:=fun ps0=>s.heap.DictOf (strKind cx.prog cx.w) (ρ k) ps0→_) (fun d1=>⟨ys,c1,d1,fun h' hd' hs=>by
   rw[gd (acc:=[]) E9]at hd'
   refine o02 (S.set (h':=h') (o:=.dict (mn [] l)) hlt (fun b hb=>hs.2 b hb) (hd'.elim fun ob q=>q.elim fun _ q=>q.elim fun _ q=>⟨ob,q.1⟩) fun xx=>⟨_,hd',PRs.putAll rfl (PRs.ext xx _ _ c2)⟩) fun S' x'=>?_
   exact⟨ρ,⟨S',by rw[DP];exact x',rfl,rfl⟩,by rw[DP];exact hlt,rfl⟩⟩) d1
theorem rB(HF:aw cx F)(r:aj A ee.d){pos:Pos}{ks:List (Option Expr)}{vs:List Expr}(e:ax ee σ.length ρ env)(S:Sat cx σ ρ s.heap)(hk:ks≠[])(hl:ks.length≤15)(hall:ks.all (·.isSome)=true)(hlen:ks.length=vs.length):
  Gives ((bnd (yv (.dict [])) fun dv=>bnd (pJ F ee ks vs) fun r=>uc dv (mn [] r)) σ) fun v σ'=>ak cx A σ ρ s (eval (.Dict ks vs pos) env) σ' (IsV v):=by
 refine o12 (ag.push (n:=s.toks) S (ob:={cls:=.type "dict",data:=.dict #[]}) (o:=.dict []) rfl fun ρ' x' hr=>⟨[],Heap.DictOf.new _,rfl⟩) fun ρ1 x1 r1=>?_
 exact(f9 (af fun _=>aG (iZ HF r (e.ext x1.ext) x1.sat) fun l σ2 ps ρ2 s2 x2 r2=>r2.elim fun ys q=>
  (n6 (kvs:=[]) (VR.ext x2.ext _ _ r1) q.1 x2.sat q.2).mono fun v σ' h=>h.elim fun kvs h=>Ee kvs ⟨h.1,h.2.1,fun h' a b=>ag.aft (x1.trans x2) (h.2.2 h' a b)⟩)).mono fun v σ' h=>wpAny_Dict_walk (knd:=strKind cx.prog cx.w) hall hlen hk hl h
end
section
variable{cx:Cx}{K:Frag}{mg mb:Str→Option Value}{T:Tab}{A:Around}{σ:Hp}{ρ:Ids}{s:Shared}{F:Ev}{O:Orc}{ee:EE}{env:Env}
noncomputable def Sub (s:Shared) (x:Value):Prop:= ∃U id,s.TypeIs x U∧typeLookup (.type U) "__getitem__"=pure (some (.builtin id))
theorem Sub.str{l:Str}{t:Tok}:Sub s (.str l t):=⟨"str",_,rfl,F.slot_str_getitem.lookup⟩
theorem Sub.list{a:Addr}{o:Obj}(h:s.heap.get? a=some o)(hc:o.cls=.type "list"):Sub s (.ref a):=⟨"list",_,⟨o,h,hc⟩,F.slot_list_getitem.lookup⟩
theorem Sub.tuple{a:Addr}{o:Obj}(h:s.heap.get? a=some o)(hc:o.cls=.type "tuple"):Sub s (.ref a):=⟨"tuple",_,⟨o,h,hc⟩,F.slot_tuple_getitem.lookup⟩
theorem Sub.dict{a:Addr}{o:Obj}(h:s.heap.get? a=some o)(hc:o.cls=.type "dict"):Sub s (.ref a):=⟨"dict",_,⟨o,h,hc⟩,F.slot_dict_getitem.lookup⟩
theorem Sub.gip{M:Model}{E:Value→Shared→Prop}{x:Value}(h:Sub s x){Q:Bool→Shared→Prop}(hq:Q false s):wpAny M A (getitemInPython x) Q E s:=by
 refine o22 h fun U id h1 h2=>?_
 unfold getitemInPython
 exact wpAny_bind (wpAny_specialOf h1 h2 (wpAny_pure hq))
theorem ez{M:Model}{E:Value→Shared→Prop}{sl:Expr}{x y:Value}{Q:Value→Shared→Prop}(h:wpAny M A (getItem x y) Q E s):wpAny M A (subscripted sl false x y) Q E s:=by
 cases sl
 case Slice l u st p=>induction st<;>exact fv h
 all_goals exact fv h
theorem gU(C:aX cx T)(S:Sat cx σ ρ s.heap){a b:V}{x:Value}(ha:VR σ.length ρ s.heap a x):Gives (cg T a b σ) fun _ _=>Sub s x:=
 cr (ae fun k _=>cr (ae fun l hl=>af fun _=>cK (P:=Sub s) ha hl fun _=>Sub.str)
   (cr (ae fun xs hx _ _ _=>o33 (nD C S hx ha) fun p items k e g _=>e▸g.elim (fun g=>Sub.list g rfl) fun g=>Sub.tuple g rfl)
    (ae fun kvs hd _ _ _=>(dp C S (hX hd) ha).elim fun a q=>q.1▸q.2.idictK fun ps g _=>o33 g fun o _ _ g c _=>Sub.dict g c.1)))
  (ae fun k _=>ae fun kvs hd _ _ _=>(dp C S (ci hd) ha).elim fun a q=>q.1▸q.2.dictK fun ps g _=>o33 g fun o _ _ g c _=>Sub.dict g c.1)
theorem qv(S:Sat cx σ ρ s.heap){a l u st:V}{x:Value}(ha:VR σ.length ρ s.heap a x):Gives (slice a l u st σ) fun _ _=>Sub s x:=
 have list: ∀{f:List V→Option (Out V)},Gives ((bC a).bind fun i=>(de σ[i]?).bind f) fun _ _=>Sub s x:=ae fun i hi=>eS (P:=fun x=>Gives _ fun _ _=>Sub s x) ha hi fun _=>ae fun xs hx _ _ _=>(S.obj _ _ (a7 hx)).listK fun _ _ g _=>Sub.list g rfl
 ae fun _ _=>ae fun _ _=>ae fun _ _=>eZ (fun _ _=>bq) fun _=>cr (ae fun l hl=>af fun _=>cK (P:=Sub s) ha hl fun _=>Sub.str) list
theorem gy(HF:aw cx F)(r:aj A ee.d){e0:Option Expr}(e:ax ee σ.length ρ env)(S:Sat cx σ ρ s.heap):Gives (ju F ee e0 σ) fun v σ'=>ak cx A σ ρ s (evalPart e0 env) σ' (IsV v):=by
 induction e0 with
 | none=>exact af fun _=>wpAny_pure ((Aft.refl S).post (R:=IsV .none) rfl)
 | some e0=>exact HF.ex r e S
theorem Gives.and{β:Type}{P Q:β→Hp→Prop}{r:Option (Out β)}(g1:Gives r P)(g2:Gives r Q):Gives r fun v σ'=>P v σ'∧Q v σ':=fun o h ob=>⟨g1 o h ob,g2 o h ob⟩
noncomputable abbrev zg (cx:Cx) (A:Around) (σ:Hp) (ρ:Ids) (s:Shared) (env:Env) (o0 i:Expr) (pos:Pos):V→Hp→Prop:=fun v σ'=>ak cx A σ ρ s (eval (.Subscript o0 i pos) env) σ' (IsV v)
theorem ql(H:Ok cx K mg mb T)(HF:aw cx F)(r:aj A ee.d){pos:Pos}{o0 i:Expr}(e:ax ee σ.length ρ env)(S:Sat cx σ ρ s.heap):Gives (bnd (F.ex ee o0) (fun a=>bnd (F.ex ee i) fun iv=>cg T a iv) σ) (zg cx A σ ρ s env o0 i pos):=
 (aG (Q:=fun v σ' x s1=>wpAny (model cx.prog cx.w) A (eval i env) (fun y s2=>Sub s2 x∧wpAny (model cx.prog cx.w) A (getItem x y) (ag cx σ.length ρ s σ' (IsV v)) (fun _ _=>False) s2) (fun _ _=>False) s1) (E:=fun _ _=>False) (HF.ex r e S) fun v1 σ1 x ρ1 s1 x1 r1=>aG (HF.ex r (e.ext x1.ext) x1.sat) fun v2 σ2 y ρ2 s2 x2 r2=>
  have hx:=VR.ext x2.ext _ _ r1
  (gU H.C x2.sat hx).and fun o h ob=>o02 (ga (A:=A) H.C x2.sat hx r2 h ob) fun q1 q2=>q1▸ak.fin (x1.trans x2) q2).mono fun v σ' h=>by
   show wpAny _ _ (eval (.Subscript o0 i pos) env) _ _ _
   refine rK (arm_eval_Subscript ..) ?_
   exact wpAny_bind (wpAny_mono h (fun x s1 h=>wpAny_bind (wpAny_holding (wpAny_mono h (fun y s2 h=>wpAny_bind (wpAny_standAt (wpAny_bind (h.1.gip (wpAny_bind (ez (wpAny_mono h.2 (fun z s3 h=>wpAny_bind (wpAny_letTemporaryGo (wpAny_pure h))) fun _ _ x=>x))))))) fun _ _ x=>x))) fun _ _ x=>x)
theorem qm(H:Ok cx K mg mb T)(HF:aw cx F)(r:aj A ee.d){pos p:Pos}{o0:Expr}{l u st:Option Expr}(e:ax ee σ.length ρ env)(S:Sat cx σ ρ s.heap):Gives (bnd (F.ex ee o0) (fun a=>bnd (ju F ee l) fun lv=>bnd (ju F ee u) fun uv=>bnd (ju F ee st) fun sv=>slice a lv uv sv) σ) (zg cx A σ ρ s env o0 (.Slice l u st p) pos):=
 (aG (Q:=fun v σ' x s1=>wpAny (model cx.prog cx.w) A (evalPart l env) (fun vl s2=>wpAny (model cx.prog cx.w) A (evalPart u env) (fun vu s3=>wpAny (model cx.prog cx.w) A (evalPart st env) (fun vs s4=>
   Sub {s4 with heap:=s4.heap.push {cls:=.type "slice",data:=.fields #[vl,vu,vs]}} x∧wpAny (model cx.prog cx.w) A (getItem x (.ref s4.heap.objs.size)) (ag cx σ.length ρ s σ' (IsV v)) (fun _ _=>False) {s4 with heap:=s4.heap.push {cls:=.type "slice",data:=.fields #[vl,vu,vs]}}) (fun _ _=>False) s3) (fun _ _=>False) s2) (fun _ _=>False) s1) (E:=fun _ _=>False) (HF.ex r e S) fun v1 σ1 x ρ1 s1 x1 r1=>
  aG (gy HF r (e.ext x1.ext) x1.sat) fun v2 σ2 vl ρ2 s2 x2 r2=>aG (gy HF r (e.ext (x1.trans x2).ext) x2.sat) fun v3 σ3 vu ρ3 s3 x3 r3=>aG (gy HF r (e.ext ((x1.trans x2).trans x3).ext) x3.sat) fun v4 σ4 vs ρ4 s4 x4 r4=>by
   refine o02 (x4.sat.grow (h':=s4.heap.push {cls:=.type "slice",data:=.fields #[vl,vu,vs]}) fun b o' q=>Heap.get?_push_of_some _ q) fun S5 x5=>?_
   have y5:Aft cx σ4.length ρ4 s4 σ4 ρ4 {s4 with heap:=s4.heap.push {cls:=.type "slice",data:=.fields #[vl,vu,vs]}}:=⟨S5,x5,rfl,rfl⟩
   have x35:=x4.trans y5
   have x25:=x3.trans x35
   have hx:=VR.ext (x2.trans x25).ext _ _ r1
   exact(qv S5 hx).and ((nA (A:=A) (s:={s4 with heap:=s4.heap.push {cls:=.type "slice",data:=.fields #[vl,vu,vs]}}) S5 hx (VR.ext x25.ext _ _ r2) (VR.ext x35.ext _ _ r3) (VR.ext x5 _ _ r4) (Heap.IsSliceOf.new _ _ _ _)).fin (x1.trans (x2.trans x25)))).mono fun v σ' h=>by
   show wpAny _ _ (eval (.Subscript o0 (.Slice l u st p) pos) env) _ _ _
   refine rK (arm_eval_Subscript ..) ?_
   exact wpAny_bind (wpAny_mono h (fun x s1 h=>wpAny_bind (wpAny_holding (wpAny_Slice (wpAny_mono h (fun vl s2 h=>wpAny_mono h (fun vu s3 h=>wpAny_mono h (fun vs s4 h=>wpAny_bind (wpAny_standAt (wpAny_bind (h.1.gip (wpAny_bind (ez (wpAny_mono h.2 (fun z s3 h=>wpAny_bind (wpAny_letTemporaryGo (wpAny_pure h))) fun _ _ x=>x))))))) fun _ _ x=>x) fun _ _ x=>x) fun _ _ x=>x)))) fun _ _ x=>x)
theorem su(H:Ok cx K mg mb T)(HF:aw cx F)(r:aj A ee.d){pos:Pos}{o0 i:Expr}(e:ax ee σ.length ρ env)(S:Sat cx σ ρ s.heap):Gives (bnd (F.ex ee o0) (fun a=>qo T F ee a i) σ) (zg cx A σ ρ s env o0 i pos):=by
 induction q:nB i with
 | none=>
  refine rK (show(fun a=>qo T F ee a i)=fun a=>bnd (F.ex ee i) fun iv=>cg T a iv from by funext a σ;unfold qo;rw[q];rfl) ?_
  exact ql H HF r e S
 | some w=>
  rw[show(fun a=>qo T F ee a i)=fun a=>bnd (ju F ee w.1) fun lv=>bnd (ju F ee w.2.1) fun uv=>bnd (ju F ee w.2.2.1) fun sv=>slice a lv uv sv from by funext a σ;unfold qo;rw[q];rfl,qy q]
  exact qm H HF r e S
theorem qN(H:Ok cx K mg mb T){x:Str}{pos:Pos}(e:ax ee σ.length ρ env)(S:Sat cx σ ρ s.heap):Gives (aD (!lr x) (ld T ee x σ)) fun v σ'=>ak cx A σ ρ s (eval (.Name x pos) env) σ' (IsV v):=
 au fun hd o h _=>by
  show wpAny _ _ (eval (.Name x pos) env) _ _ _
  refine rK (arm_eval_Name ..) ?_
  refine wpAny_bind (wpAny_standAt ?_)
  refine rK (if_neg (show¬(x==Str.ofString "__debug__")=true from fun q=>by rw[show lr x=true from q]at hd;cases hd) ..) ?_
  exact o02 (pe (A:=A) H.B H.G e S h) fun q1 q2=>q1▸q2
theorem rP(H:Ok cx K mg mb T)(HF:aw cx F)(r:aj A ee.d){o0:Expr}{x:Str}{p:Pos}(e:ax ee σ.length ρ env)(S:Sat cx σ ρ s.heap):Gives (aD (aQ o0) (bnd (F.ex ee o0) (fun v=>getattr T v x) σ)) fun v σ'=>ak cx A σ ρ s (eval (.Attribute o0 x p) env) σ' (IsV v):=
 au fun hn=>(aG (HF.ex r e S) fun v1 σ1 y ρ1 s1 x1 r1=>(gb (A:=A) (expr:=true) H.B H.C H.L x1.sat r1 |>.mono fun _ _ q=>q.1▸ak.fin x1 q.2)).mono fun v σ' h=>by
  show wpAny _ _ (eval (.Attribute o0 x p) env) _ _ _
  refine rK (arm_eval_Attribute ..) (rK (dA hn ..) ?_)
  exact wpAny_bind (wpAny_mono h (fun y s1 h=>wpAny_bind (wpAny_standAt (wpAny_bind (wpAny_holding (wpAny_mono h (fun z s2 h=>wpAny_bind (wpAny_letTemporaryGo (wpAny_pure h))) fun _ _ x=>x))))) fun _ _ x=>x)
theorem ng{M:Model}{E:Value→Shared→Prop}{l:Expr}{ops:List CmpOp}{rs:List Expr}{p:Pos}{Q:Value→Shared→Prop}(hn:cp rs=true)(h:wpAny M A (eval l env) (fun x s1=>wpAny M A (compareChain p x ops (evalEach rs env)) Q E s1) E s):wpAny M A (eval (.Compare l ops rs p) env) Q E s:=by
 refine rK (arm_eval_Compare ..) (rK (co ops hn ..) ?_)
 exact wpAny_bind h
theorem uC{M:Model}{E:Value→Shared→Prop}{l:Expr}{ops:List CmpOp}{rs:List Expr}{p:Pos}{w:Sem Value}{Q:Bool→Shared→Prop}(hn:cp rs=true)(h:wpAny M A (eval l env) (fun x s1=>wpAny M A (testChain p x ops (evalEach rs env)) Q E s1) E s):wpAny M A (isTrue (.Compare l ops rs p) env w) Q E s:=by
 refine rK (arm_isTrue_Compare ..) (rK (co ops hn ..) ?_)
 exact wpAny_bind h
theorem dR{n:Nat}(h:n≤1000):n≤sizeLine:=kV h (by refine rK (sizeLine_eq ..) ?_;decide)
theorem ue(H:Ok cx K mg mb T)(HF:aw cx F)(HO:dC cx O)(r:aj A ee.d){e0:Expr}(e:ax ee σ.length ρ env)(S:Sat cx σ ρ s.heap):Gives (exF T O F ee e0 σ) fun v σ'=>ak cx A σ ρ s (eval e0 env) σ' (IsV v):=by
 cases e0 with
 | Constant c kd p=>exact pC fun v h=>i3 S h
 | Name x p=>exact qN H e S
 | BoolOp op vs p=>exact i6 H HF r e S
 | BinOp l op rr p=>exact(aG (HF.ex r e S) fun v1 σ1 x ρ1 s1 x1 r1=>aG (HF.ex r (e.ext x1.ext) x1.sat) fun v2 σ2 y ρ2 s2 x2 r2=>Gives.fin (fun o h ob=>ow H.C x2.sat (VR.ext x2.ext _ _ r1) r2 h ob) (x1.trans x2)).mono fun _ _ h=>wpAny_BinOp h
 | UnaryOp op x p=>exact(aG (HF.ex r e S) fun v1 σ1 x ρ1 s1 x1 r1=>Gives.fin (fun o h ob=>qf H.B x1.sat r1 h ob) x1).mono fun _ _ h=>wpAny_UnaryOp h
 | IfExp t b c p=>
  show Gives (bnd (F.tst ee t) (fun q=>match q with | true=>F.ex ee b | false=>F.ex ee c) σ) _
  refine Gives.mono (aG (HF.tst r e S) fun v1 σ1 q ρ1 s1 x1 r1=>?_) fun v σ' h=>wpAny_IfExp (Q:=ag cx σ.length ρ s σ' (IsV v)) h
  subst r1
  induction q
  ·exact(HF.ex r (e.ext x1.ext) x1.sat).fin x1
  ·exact(HF.ex r (e.ext x1.ext) x1.sat).fin x1
 | Dict ks vs p=>exact au fun h1=>au fun h2=>au fun h3=>au fun h4=>rB HF r e S (fun q=>by replace h2:=(q ..)▸h2;cases h2) (Ef.mp h1) h3 (DK h4)
 | ListComp el g sc p=>exact HO.lc r e S
 | Compare l ops rs p=>exact au fun hn=>(aG (HF.ex r e S) fun v1 σ1 x ρ1 s1 x1 r1=>f9 ((gG H HF r (e.ext x1.ext) x1.sat r1 x1).mono fun _ _ h=>af fun _=>h.1)).mono fun _ _ h=>ng hn h
 | Call f as kws p=>exact rJ H HF r e S
 | Attribute o0 x p=>exact rP H HF r e S
 | Subscript o0 i p=>exact su H HF r e S
 | List es p=>exact au fun hs=>au fun hn=>(aG (di HF r hs e S) fun vs σ1 ys ρ1 s1 x1 r1=>af fun _=>⟨dR (r1.2▸Ef.mp hn),ag.aft x1 (ag.list (n:=s1.toks) x1.sat (l:=vs) (items:=ys.toArray) r1.1)⟩).mono fun _ _ h=>wpAny_List h
 | Tuple es k p=>exact au fun hs=>au fun hn=>(aG (di HF r hs e S) fun vs σ1 ys ρ1 s1 x1 r1=>af fun _=>⟨dR (r1.2▸Ef.mp hn),ag.aft x1 (ag.tup (n:=s1.toks) x1.sat (l:=vs) (items:=ys.toArray) r1.1)⟩).mono fun _ _ h=>wpAny_Tuple h
 | _=>exact bq
theorem jE(H:Ok cx K mg mb T)(HF:aw cx F)(r:aj A ee.d){e0:Expr}(e:ax ee σ.length ρ env)(S:Sat cx σ ρ s.heap)
  (he: ∀whole,isTrue e0 env whole=(do let v←whole;standAt e0.pos;holding [v] (truthy v))):Gives (bnd (F.ex ee e0) (fun v=>gq T v) σ) fun q σ'=>ak cx A σ ρ s (isTrue e0 env (eval e0 env)) σ' (fun _ _ _ b=>b=q):=
 (aG (HF.ex r e S) fun v1 σ1 x ρ1 s1 x1 r1=>(gK H x1.sat r1).fin x1).mono fun _ _ h=>wpAny_isTrue_value h (he _)
theorem qh(H:Ok cx K mg mb T)(HF:aw cx F)(r:aj A ee.d){e0:Expr}(e:ax ee σ.length ρ env)(S:Sat cx σ ρ s.heap):Gives (xY T F ee e0 σ) fun q σ'=>ak cx A σ ρ s (isTrue e0 env (eval e0 env)) σ' (fun _ _ _ b=>b=q):=by
 cases e0 with
 | UnaryOp op x p=>
  induction op with
  | Not=>
   show Gives (bnd (F.tst ee x) (fun b=>ret (!b)) σ) _
   refine Gives.mono (aG (HF.tst r e S) fun v1 σ1 b ρ1 s1 x1 r1=>af fun _=>?_) fun v σ' h=>wpAny_isTrue_Not (Q:=ag cx σ.length ρ s σ' (fun _ _ _ b=>b=v)) h
   exact x1.post (R:=fun _ _ _ b=>b=!v1) (congrArg not r1)
  | _=>exact jE H HF r e S fun _=>rfl
 | BoolOp op vs p=>exact(ic HF r e S).mono fun _ _ h=>wpAny_isTrue_BoolOp h
 | Compare l ops rs p=>exact au fun hn=>(aG (HF.ex r e S) fun v1 σ1 x ρ1 s1 x1 r1=>(gG H HF r (e.ext x1.ext) x1.sat r1 x1).mono fun _ _ h=>h.2).mono fun _ _ h=>uC hn h
 | IfExp=>exact bq
 | _=>exact jE H HF r e S fun _=>rfl
end
section
variable{cx:Cx}{K:Frag}{mg mb:Str→Option Value}{T:Tab}{A:Around}{σ:Hp}{ρ:Ids}{s:Shared}{F:Ev}{O:Orc}{ee:EE}{env:Env}
noncomputable abbrev IsU:Nat→Ids→Heap→Unit→Prop:=fun _ _ _ _=>True
noncomputable abbrev xj (cx:Cx) (A:Around) (σ:Hp) (ρ:Ids) (s:Shared) (t:Expr) (env:Env) (x:Value):Unit→Hp→Prop:=fun _ σ'=>ak cx A σ ρ s (assign t env x) σ' IsU
theorem uW(H:Ok cx K mg mb T)(HF:aw cx F)(r:aj A ee.d){o0:Expr}{n:Str}{p:Pos}{v:V}{x:Value}(e:ax ee σ.length ρ env)(S:Sat cx σ ρ s.heap)(hv:VR σ.length ρ s.heap v x):Gives (bnd (F.ex ee o0) (fun ov=>setattr T ov n v) σ) (xj cx A σ ρ s (.Attribute o0 n p) env x):=
 (aG (HF.ex r e S) fun v1 σ1 y ρ1 s1 x1 r1=>(fJ H.B H.L x1.sat r1 (VR.ext x1.ext _ _ hv)).fin x1).mono fun v σ' h=>by
  show wpAny _ _ (assign (.Attribute o0 n p) env x) _ _ _
  refine rK (arm_assign_Attribute ..) ?_
  exact wpAny_bind (wpAny_holding (wpAny_mono h (fun y s1 h=>wpAny_bind (wpAny_standAt (wpAny_bind (wpAny_holding (wpAny_mono h (fun _ s2 h=>wpAny_release h) fun _ _ x=>x))))) fun _ _ x=>x))
theorem gh(H:Ok cx K mg mb T)(HF:aw cx F)(r:aj A ee.d){t:Expr}{v:V}{x:Value}(e:ax ee σ.length ρ env)(S:Sat cx σ ρ s.heap)(hv:VR σ.length ρ s.heap v x):Gives (lH T F ee t v σ) (xj cx A σ ρ s t env x):=
 cr (ae fun q hq o h _=>fR hq▸wpAny_assign_Name (kO e S hv h)) (ae fun q hq=>jb hq▸uW H HF r e S hv)
theorem bY{t:Expr}(h:isStar t=false)(rest:List Expr)(env:Env):assignEach (t::rest) env=(false,assign t env)::assignEach rest env:=by
 cases t<;>first | rfl | cases h
theorem fy{env:Env}: ∀{ts:List Expr},noStar ts=true→(assignEach ts env).length=ts.length∧(assignEach ts env).findIdx? (·.1)=none
 | [],_=>⟨rfl,rfl⟩
 | t::ts,h=>by
  refine o02 (fy (env:=env) (bd h).2) fun a b=>?_
  refine rK (bY (bd h).1 ..) ?_
  exact⟨congrArg GG a,by refine rK (List.findIdx?_cons ..) (rK (b ..) ?_);rfl⟩
theorem fB(H:Ok cx K mg mb T)(HF:aw cx F)(r:aj A ee.d): ∀{ts:List Expr} {vs:List V} {xs:List Value} {σ:Hp} {ρ:Ids} {s:Shared},noStar ts=true→ax ee σ.length ρ env→Sat cx σ ρ s.heap→VRs σ.length ρ s.heap vs xs→
  Gives (fC T F ee ts vs σ) fun _ σ'=>ak cx A σ ρ s (assignInOrder ((assignEach ts env).map (·.2)) xs) σ' IsU
 | [],[],_,σ,ρ,s,_,e,S,hv=>af fun _=>wpAny_pure ((Aft.refl S).post trivial)
 | [],_::_,_,_,_,_,_,_,_,_=>bq
 | _::_,[],_,_,_,_,_,_,_,_=>bq
 | t::ts,v::vs,_,σ,ρ,s,hs,e,S,hv=>hv.k1 (P:=fun xs=>Gives (fC T F ee (t::ts) (v::vs) σ) fun _ σ'=>ak cx A σ ρ s (assignInOrder ((assignEach (t::ts) env).map (·.2)) xs) σ' IsU) fun y ys v1 v2=>
  (aG (R:=fun _=>IsU) (gh H HF r e S v1) fun _ σ1 _ ρ1 s1 x1 _=>(fB H HF r (bd hs).2 (e.ext x1.ext) x1.sat (VRs.ext x1.ext _ _ v2)).fin x1).mono fun _ σ' h=>by
   refine rK (bY (bd hs).1 ..) ?_
   exact wpAny_bind (wpAny_holding h)
theorem bg(H:Ok cx K mg mb T)(HF:aw cx F)(r:aj A ee.d){t:Expr}{v:V}{x:Value}(e:ax ee σ.length ρ env)(S:Sat cx σ ρ s.heap)(hv:VR σ.length ρ s.heap v x):Gives (aF T F ee t v σ) (xj cx A σ ρ s t env x):=
 eZ (fun es hq=>ae fun vs hvs=>au fun hs=>au fun hl=>by
   refine o21 (vb hq) fun c p e2q=>?_;subst e2q
   replace hv:=(lO hvs ..)▸hv
   exact hv.tupK (P:=fun x=>Gives (fC T F ee es vs σ) (xj cx A σ ρ s (.Tuple es c p) env x)) fun a items n g hd vv o h ob=>by
    show wpAny _ _ (assign (.Tuple es c p) env _) _ _ _
    refine rK (arm_assign_Tuple ..) ?_
    refine wpAny_bind (wpAny_standAt (wpAny_unpack_tuple r.handled ⟨_,g,rfl,_,rfl⟩ ((fy hs).1.trans ((DK hl).trans vv.size)) (fy hs).2 fun h' hx=>?_))
    refine o02 (S.grow (h':=h') fun b ob q=>hx b ob (fun e'=>noE ((Heap.get?_none_of_le (DQ _)).symm.trans (e'▸q))) q) fun S' x'=>?_
    exact ak.fin (⟨S',x',rfl,rfl⟩:Aft cx σ.length ρ s σ ρ {s with heap:=h'}) (fB H HF r hs (e.ext x') S' (VRs.ext x' _ _ vv) o h ob))
  fun _=>gh H HF r e S hv
noncomputable abbrev zi (cx:Cx) (A:Around) (σ:Hp) (ρ:Ids) (s:Shared) (t:Expr) (op:Operator) (e0:Expr) (pos:Pos) (env:Env):Unit→Hp→Prop:=fun _ σ'=>ak cx A σ ρ s (exec (.AugAssign t op e0 pos) env) σ' (fun _ _ _ f=>f=.next)
theorem uS(H:Ok cx K mg mb T)(HF:aw cx F)(r:aj A ee.d){e0:Expr}{n:Str}{p:Pos}{op:Operator}{pos:Pos}(e:ax ee σ.length ρ env)(S:Sat cx σ ρ s.heap):
  Gives (bnd (ld T ee n) (fun a=>bnd (F.ex ee e0) fun b=>bnd (nt op a b) fun r=>st ee n r) σ) (zi cx A σ ρ s (.Name n p) op e0 pos env):=
 (aG (R:=IsV) (fun o h _=>o02 (pe (A:=A) H.B H.G e S h) fun q1 q2=>q1▸q2) fun a σ1 y ρ1 s1 x1 r1=>aG (HF.ex r (e.ext x1.ext) x1.sat) fun b σ2 z ρ2 s2 x2 r2=>aG (R:=IsV) (ja x2.sat (VR.ext x2.ext _ _ r1) r2) fun c σ3 u ρ3 s3 x3 r3 o h _=>
  have x13:=(x1.trans x2).trans x3
  (kO (e.ext x13.ext) x3.sat r3 h).use fun _ ρ4 s4 x4 _=>(x13.trans x4).post rfl).mono fun _ _ h=>wpAny_AugAssign_Name h
theorem uT(H:Ok cx K mg mb T)(HF:aw cx F)(r:aj A ee.d){o0 e0:Expr}{n:Str}{p:Pos}{op:Operator}{pos:Pos}(e:ax ee σ.length ρ env)(S:Sat cx σ ρ s.heap):
  Gives (bnd (F.ex ee o0) (fun ov=>bnd (getattr T ov n) fun a=>bnd (F.ex ee e0) fun b=>bnd (nt op a b) fun r=>setattr T ov n r) σ) (zi cx A σ ρ s (.Attribute o0 n p) op e0 pos env):=
 (aG (HF.ex r e S) fun v1 σ1 y ρ1 s1 x1 r1=>aG (R:=IsV) (gb (A:=A) (expr:=true) H.B H.C H.L x1.sat r1 |>.mono fun _ _ q=>q.1▸q.2) fun v2 σ2 z ρ2 s2 x2 r2=>aG (HF.ex r (e.ext (x1.trans x2).ext) x2.sat) fun v3 σ3 u ρ3 s3 x3 r3=>aG (R:=IsV) (ja x3.sat (VR.ext x3.ext _ _ r2) r3) fun v4 σ4 w ρ4 s4 x4 r4=>
  have x24:=(x2.trans x3).trans x4
  (fJ H.B H.L x4.sat (VR.ext x24.ext _ _ r1) r4).mono fun _ _ d=>d.use fun _ ρ5 s5 x5 _=>((x1.trans x24).trans x5).post rfl).mono fun _ _ h=>wpAny_AugAssign_AttributeAny h
theorem rO(H:Ok cx K mg mb T)(HF:aw cx F)(r:aj A ee.d){t e0:Expr}{op:Operator}{pos:Pos}(e:ax ee σ.length ρ env)(S:Sat cx σ ρ s.heap):Gives (Bj T F ee t op e0 σ) (zi cx A σ ρ s t op e0 pos env):=
 cr (ae fun q hq=>fR hq▸uS H HF r e S) (ae fun q hq=>jb hq▸uT H HF r e S)
theorem j9{n:Nat}{ρ:Ids}{h:Heap}{v:V}{x:Value}(hv:VR n ρ h v x)(e:isNone v=true):x=.none:=by
 unfold isNone at e
 induction q:v.at4 (some ()) (fun _=>none) (fun _=>none) (fun _=>none) none with
 | none=>replace e:=(q ..)▸e;cases e
 | some _=>exact bX (P:=fun _ x=>x=.none) hv q (fun _=>rfl) (fun _=>noE) (fun _ _=>noE) fun _ _=>noE
theorem fh{e:Expr}(h:kC e=false)(t:Option Expr)(p:Nat):swapsWith e t p env=pure false:=by
 cases e<;>first | rfl | cases h
theorem eB{t e:Expr}(h:gM t e=false):swappedStores [t] e env=pure none:=by
 unfold gM at h
 cases t with
 | Tuple _ _ _=>cases e<;>first | rfl | cases h
 | List _ _=>cases e<;>first | rfl | cases h
 | _=>rfl
noncomputable abbrev xh (cx:Cx) (A:Around) (σ:Hp) (ρ:Ids) (s:Shared) (t:Stmt) (env:Env):Fl→Hp→Prop:=fun fl σ'=>ak cx A σ ρ s (exec t env) σ' (fun n ρ h f=>FlR n ρ h fl f)
theorem uV(H:Ok cx K mg mb T)(HF:aw cx F)(r:aj A ee.d){t e0:Expr}{p:Pos}(e:ax ee σ.length ρ env)(S:Sat cx σ ρ s.heap)(hc:kC e0=false)(hw:(!(isStar t || gM t e0))=true):Gives (bnd (F.ex ee e0) (fun v=>bnd (aF T F ee t v) fun _=>ret .next) σ) (xh cx A σ ρ s (.Assign [t] e0 p) env):=by
 have hw:=FV.mp ((Ep _).mp hw)
 exact(aG (HF.ex r e S) fun v1 σ1 x ρ1 s1 x1 r1=>aG (R:=fun _=>IsU) (bg H HF r (e.ext x1.ext) x1.sat r1) fun _ σ2 _ ρ2 s2 x2 _=>af fun _=>(x1.trans x2).post (R:=fun n ρ h f=>FlR n ρ h .next f) rfl).mono fun _ _ h=>
  wpAny_Assign_stores (by refine rK (bY hw.1 ..) ?_;exact h) (fh hc (some t) p.line) (eB hw.2)
theorem qr(H:Ok cx K mg mb T)(HF:aw cx F)(HO:dC cx O)(r:aj A ee.d){t:Stmt}(e:ax ee σ.length ρ env)(S:Sat cx σ ρ s.heap):Gives (zv T O F ee t σ) (xh cx A σ ρ s t env):=by
 cases t with
 | Return v p=>induction v with
  | none=>exact af fun _=>wpAny_Return_none ((Aft.refl S).post (R:=fun n ρ h f=>FlR n ρ h (.ret .none) f) ⟨_,rfl,rfl⟩)
  | some e0=>
   show Gives (bnd (F.ex ee e0) (fun v=>ret (Fl.ret v)) σ) _
   refine Gives.mono (aG (HF.ex r e S) fun v1 σ1 x ρ1 s1 x1 r1=>af fun _=>?_) fun v σ' h=>wpAny_Return_some (Q:=ag cx σ.length ρ s σ' (fun n ρ h f=>FlR n ρ h v f)) h
   exact x1.post (R:=fun n ρ h f=>FlR n ρ h (.ret v1) f) ⟨_,rfl,r1⟩
 | Assign ts e0 p=>induction ts with
  | nil=>exact bq
  | cons t ts=>induction ts with
   | cons _ _=>exact bq
   | nil=>exact Az (fun _=>HO.lp r e S) fun hc=>au fun hw=>uV H HF r e S hc hw
 | AugAssign t op e0 p=>exact f9 (P:=xh cx A σ ρ s (.AugAssign t op e0 p) env) ((rO (pos:=p) H HF r e S).mono fun _ σ1 d=>af (v:=Fl.next) fun _=>d)
 | If t b c p=>
  show Gives (bnd (F.tst ee t) (fun q=>match q with | true=>F.ss ee b | false=>F.ss ee c) σ) _
  refine Gives.mono (aG (HF.tst r e S) fun v1 σ1 q ρ1 s1 x1 r1=>?_) fun v σ' h=>wpAny_If (Q:=ag cx σ.length ρ s σ' (fun n ρ h f=>FlR n ρ h v f)) h
  subst r1
  induction q
  ·exact(HF.ss r (e.ext x1.ext) x1.sat).fin x1
  ·exact(HF.ss r (e.ext x1.ext) x1.sat).fin x1
 | Expr e0 p=>
  refine Az (fun _=>HO.lp r e S) fun hc=>Gives.mono (aG (HF.ex r e S) fun v1 σ1 x ρ1 s1 x1 r1=>au fun hn=>af fun _=>?_) fun v σ' h=>wpAny_Expr (Q:=ag cx σ.length ρ s σ' (fun n ρ h f=>FlR n ρ h v f)) h (by unfold interactive;refine rK (e.kind' ..) ?_;rfl) (fh hc none p.line)
  refine rK (j9 r1 hn ..) ?_
  exact x1.post (R:=fun n ρ h f=>FlR n ρ h .next f) rfl
 | Pass p=>exact af fun _=>wpAny_Pass ((Aft.refl S).post (R:=fun n ρ h f=>FlR n ρ h .next f) rfl)
 | Break p=>exact af fun _=>wpAny_Break ((Aft.refl S).post (R:=fun n ρ h f=>FlR n ρ h .brk f) rfl)
 | Continue p=>exact af fun _=>wpAny_Continue ((Aft.refl S).post (R:=fun n ρ h f=>FlR n ρ h .cont f) rfl)
 | Assert t m p=>induction m with
  | some _=>exact bq
  | none=>
   show Gives (bnd (F.tst ee t) (fun c σ=>aD c (ret Fl.next σ)) σ) _
   refine Gives.mono (aG (HF.tst r e S) fun v1 σ1 q ρ1 s1 x1 r1=>au fun hc=>af fun _=>?_) fun v σ' h=>wpAny_Assert_holds (Q:=ag cx σ.length ρ s σ' (fun n ρ h f=>FlR n ρ h v f)) h
   exact⟨r1.trans hc,x1.post (R:=fun n ρ h f=>FlR n ρ h .next f) rfl⟩
 | While t b c p=>exact HO.lp r e S
 | For t i b c p=>exact HO.lp r e S
 | Try b hs c f p=>exact HO.lp r e S
 | _=>exact bq
theorem qq(H:Ok cx K mg mb T)(HF:aw cx F)(HO:dC cx O)(r:aj A ee.d){t:Stmt}(e:ax ee σ.length ρ env)(S:Sat cx σ ρ s.heap):Gives (vg T O F ee t σ) (xh cx A σ ρ s t env):=by
 unfold vg
 induction hm:O.sv ee t with
 | some m=>exact HO.sv r e S hm
 | none=>exact qr H HF HO r e S
theorem ud(H:Ok cx K mg mb T)(HF:aw cx F)(HO:dC cx O)(r:aj A ee.d){e0:Expr}(e:ax ee σ.length ρ env)(S:Sat cx σ ρ s.heap):Gives (exO T O F ee e0 σ) fun v σ'=>ak cx A σ ρ s (eval e0 env) σ' (IsV v):=by
 unfold exO
 induction hm:O.xv ee e0 with
 | some m=>exact HO.xv r e S hm
 | none=>exact ue H HF HO r e S
theorem qg(H:Ok cx K mg mb T)(HF:aw cx F)(r:aj A ee.d){e0:Expr}{q:Option Bool}(e:ax ee σ.length ρ env)(S:Sat cx σ ρ s.heap):Gives (rR q (xY T F ee e0) σ) fun q σ'=>ak cx A σ ρ s (isTrue e0 env (eval e0 env)) σ' (fun _ _ _ b=>b=q):=
 tV (qh H HF r e S)
theorem sE(H:Ok cx K mg mb T)(HF:aw cx F)(HO:dC cx O)(r:aj A ee.d){l:List Stmt}(e:ax ee σ.length ρ env)(S:Sat cx σ ρ s.heap):Gives (ssF T O F ee l σ) fun fl σ'=>ak cx A σ ρ s (execs l env) σ' (fun n ρ h f=>FlR n ρ h fl f):=by
 induction l with
 | nil=>exact af fun _=>wpAny_execs_nil ((Aft.refl S).post (R:=fun n ρ h f=>FlR n ρ h .next f) rfl)
 | cons t l=>
  show Gives (bnd (vg T O F ee t) (fun fl=>match tJ fl with | true=>F.ss ee l | false=>ret fl) σ) _
  refine Gives.mono (aG (R:=fun fl n ρ h f=>FlR n ρ h fl f) (qq H HF HO r e S) fun fl σ1 f ρ1 s1 x1 r1=>?_) fun v σ' h=>wpAny_execs_cons (Q:=ag cx σ.length ρ s σ' (fun n ρ h f=>FlR n ρ h v f)) h
  have stay: ∀{f:Flow},FlR σ1.length ρ1 s1.heap fl f→ag cx σ.length ρ s σ1 (fun n ρ h f=>FlR n ρ h fl f) f s1:=fun q=>x1.post (R:=fun n ρ h f=>FlR n ρ h fl f) q
  induction fl with
  | next=>
   refine rK (show f=.next from r1) ?_
   exact(HF.ss r (e.ext x1.ext) x1.sat).fin x1
  | brk=>refine rK (show f=.brk from r1) ?_;exact af fun _=>stay rfl
  | cont=>refine rK (show f=.cont from r1) ?_;exact af fun _=>stay rfl
  | ret w=>obtain⟨x,rfl,hx⟩:=r1;exact af fun _=>stay ⟨x,rfl,hx⟩
end
theorem Sat.news{cx σ ρ h h'}(S:Sat cx σ ρ h)(L:List (Addr×AO))(hd:L.Pairwise fun x y=>x.1≠y.1)(hn: ∀p∈L,h.get? p.1=none)(k: ∀b ob,h.get? b=some ob→h'.get? b=some ob)(hl: ∀p∈L,∃ob,h'.get? p.1=some ob)
  (ho: ∀ρ',Ext σ.length ρ h (σ.length+L.length) ρ' h'→(∀j (hj:j<L.length),ρ' (σ.length+j)=L[j].1)→ ∀p∈L,OR cx (σ.length+L.length) ρ' h' p.1 p.2):
  ∃ρ',Sat cx (σ++L.map (·.2)) ρ' h'∧Ext σ.length ρ h (σ.length+L.length) ρ' h'∧ ∀j (hj:j<L.length),ρ' (σ.length+j)=L[j].1:=by
 let ρ':Ids:=fun i=>if i<σ.length then ρ i else(L[i-σ.length]?).elim 0 (·.1)
 have old: ∀i,i<σ.length→ρ' i=ρ i:=fun i hi=>if_pos hi
 have new: ∀j (hj:j<L.length),ρ' (σ.length+j)=L[j].1:=fun j hj=>by
  show(if σ.length+j<σ.length then _ else _)=_
  refine rK (if_neg (by lia) ..) (rK (EI ..) (rK (DH hj ..) ?_));rfl
 have pick: ∀i,σ.length≤i→i<σ.length+L.length→ ∃j,∃hj:j<L.length,i=σ.length+j∧ρ' i=L[j].1:=fun i h1 h2=>⟨i-σ.length,by(exact F7 h1 h2),by(exact Eh (FG h1)),by
  have:=new (i-σ.length) (by exact F7 h1 h2)
  rwa[show σ.length+(i-σ.length)=i from by(exact FG (by assumption))]at this⟩
 have x:Ext σ.length ρ h (σ.length+L.length) ρ' h':=⟨by(exact D8 ..),old,fun i h1 h2=>by
  obtain⟨j,hj,rfl,e⟩:=pick i h1 h2
  refine rK (e ..) ?_;exact hn _ (DX hj),fun b ob e _=>k b ob e⟩
 have ne: ∀i,i<σ.length→ ∀p∈L,ρ i≠p.1:=fun i hi p hp e=>by
  refine o11 (S.live i hi) fun ob q=>?_
  replace q:=(hn p hp ..)▸((e ..)▸q);cases q
 have len:(σ++L.map (·.2)).length=σ.length+L.length:=by simp
 refine⟨ρ',⟨fun i j hi hj e=>?_,fun i hi=>?_,fun i hi=>?_,fun b ob e=>k _ _ (S.keep _ _ e),fun i ob e=>?_⟩,x,new⟩
 ·rw[len]at hi hj
  by_cases h1:i<σ.length<;>by_cases h2:j<σ.length
  ·replace e:=(old j h2 ..)▸((old i h1 ..)▸e);exact S.inj i j h1 h2 e
  ·obtain⟨b,hb,rfl,e2⟩:=pick j (by exact D7 h2) hj
   replace e:=(e2 ..)▸((old i h1 ..)▸e)
   exact absurd e (ne i h1 _ (DX hb))
  ·obtain⟨b,hb,rfl,e2⟩:=pick i (by exact D7 h1) hi
   replace e:=(e2 ..)▸((old j h2 ..)▸e)
   exact absurd e.symm (ne j h2 _ (DX hb))
  ·obtain⟨a,ha,rfl,e1⟩:=pick i (by exact D7 h1) hi
   obtain⟨b,hb,rfl,e2⟩:=pick j (by exact D7 h2) hj
   replace e:=(e2 ..)▸((e1 ..)▸e)
   by_cases q:a=b
   ·exact rK (q ..) rfl
   ·exfalso
    rcases GK q with q | q
    ·exact Er.mp hd a b ha hb q e
    ·exact Er.mp hd b a hb ha q e.symm
 ·replace hi:=(len ..)▸hi
  by_cases h1:i<σ.length
  ·refine rK (old i h1 ..) ?_;exact S.own i h1
  ·obtain⟨b,hb,rfl,e2⟩:=pick i (by exact D7 h1) hi
   refine rK (e2 ..) ?_
   induction q:cx.h₀.get? L[b].1 with
   | none=>rfl
   | some ob=>have:=S.keep _ _ q;replace this:=(hn _ (DX hb) ..)▸this;cases this
 ·replace hi:=(len ..)▸hi
  by_cases h1:i<σ.length
  ·refine rK (old i h1 ..) ?_;obtain⟨ob,q⟩:=S.live i h1;exact⟨ob,k _ _ q⟩
  ·obtain⟨b,hb,rfl,e2⟩:=pick i (by exact D7 h1) hi
   refine rK (e2 ..) ?_;exact hl _ (DX hb)
 ·refine rK (len ..) ?_
  by_cases h1:i<σ.length
  ·replace e:=(E8 h1 ..)▸e
   refine rK (old i h1 ..) ?_
   exact OR.ext x (k _) _ (S.obj i ob e)
  ·replace e:=(FH ..)▸((EW (by exact D7 h1) ..)▸e)
   refine o12 (FD.mp e) fun p hp e2q=>?_;subst e2q
   refine o11 (DT.mp hp) fun hlt hpe=>?_
   obtain⟨b,hb,eb,e2⟩:=pick i (by exact D7 h1) (by lia)
   have:i-σ.length=b:=by exact Eh (Go (id (Eh eb)))
   subst this
   rw[e2,←hpe]
   exact ho ρ' x new _ (DX hb)
theorem cD: ∀(cs:List Str) (k j:Nat) (hj:j<cs.length),(numbered k cs)[j]?=some (cs[j],k+j)
 | c::cs,k,0,_=>rfl
 | c::cs,k,j+1,hj=>by
  show(numbered (k+1) cs)[j]?=_
  refine rK (cD cs (k+1) j (Ew hj) ..) ?_
  simp only[Ff]
  congr 2;exact FB ..
theorem bh: ∀(cs:List Str) (k:Nat),(numbered k cs).length=cs.length
 | [],_=>rfl
 | c::cs,k=>congrArg GG (bh cs (k+1))
theorem eW: ∀(cs:List Str) (k:Nat),(numbered k cs).map (·.1)=cs
 | [],_=>rfl
 | c::cs,k=>congrArg (c:: ·) (eW cs (k+1))
theorem bP: ∀(names:List (Str×NameKind)) (n:Nat) (acc:List (Str×Addr)),cellsFrom n names acc=(numbered n (aU names)).reverse++acc
 | [],_,_=>rfl
 | (x,k)::r,n,acc=>by
  induction k
  case cell=>
   show cellsFrom (n+1) r ((x,n)::acc)=((x,n)::numbered (n+1) (aU r)).reverse++acc
   rw[bP r];simp
  all_goals exact bP r n acc
theorem k9{cs:List Str}{k:Nat}{x:Str}{i:Nat}(h:(x,i)∈numbered k cs): ∃j,∃hj:j<cs.length,x=cs[j]∧i=k+j:=by
 obtain⟨j,hj,e⟩:=En h
 replace hj:=(bh ..)▸hj
 have:=cD cs k j hj
 rw[DH (by rw[bh];exact hj),e]at this
 cases this
 exact⟨j,hj,rfl,rfl⟩
theorem dy{names:List (Str×NameKind)}(hn:(aU names).Nodup)(n j:Nat)(hj:j<(aU names).length):(cellsFrom n names []).lookup (aU names)[j]=some (n+j):=by
 refine rK (bP ..) (rK (D2 ..) ?_)
 refine lookup_of_mem_nodup (by refine rK (List.map_reverse ..) (rK (eW ..) ?_);exact List.pairwise_reverse.mpr (hn.imp fun h=>h.symm)) ?_
 rw[List.mem_reverse]
 exact Fa (cD _ _ _ hj)
theorem gV{k:Str→Option NameKind}{x:Str}: ∀{l:List (Str×Value)} {m:Str→Option Value},(∀p∈l,p.1≠x)→bindL k l m x=m x
 | [],_,_=>rfl
 | (n,v)::l,m,h=>by
  unfold bindL
  rw[gV fun p hp=>h p (DJ _ hp)]
  split
  ·exact if_neg fun e=>h (n,v) wj e.symm
  ·rfl
theorem gX{k:Str→Option NameKind}{x:Str}: ∀{l:List (Str×Value)} {m:Str→Option Value},(∀p∈l,p.1≠x)→bindC k l m x=m x
 | [],_,_=>rfl
 | (n,v)::l,m,h=>by
  unfold bindC
  rw[gX fun p hp=>h p (DJ _ hp)]
  split
  ·rfl
  ·exact if_neg fun e=>h (n,v) wj e.symm
theorem eF{n ρ h}: ∀{bs:List (Str×V)} {ys:List (Str×Value)},PRs n ρ h bs ys→ys.map (·.1)=bs.map (·.1)
 | [],_,e=>e.k0 (P:=fun ys=>ys.map (·.1)=[]) rfl
 | (a,b)::bs,_,e=>e.k1 (P:=fun ys=>ys.map (·.1)=a::bs.map (·.1)) fun _ _ _ h2=>congrArg (a:: ·) (eF h2)
theorem gW{n ρ h}{k:Str→Option NameKind}{names:List (Str×NameKind)}(hk: ∀x,k x=names.lookup x): ∀{bs:List (Str×V)} {ys:List (Str×Value)} {m:Str→Option Value},(bs.map (·.1)).Nodup→PRs n ρ h bs ys→
  jk n ρ h (bV names bs) (bindL k ys m)
 | [],ys,m,_,_=>fun x v e=>noE e
 | (x,v)::bs,_,m,hn,hp=>hp.k1 (P:=fun ys=>jk n ρ h (bV names ((x,v)::bs)) (bindL k ys m)) fun y ys h1 h2 z w e=>by
  obtain⟨hn1,hn2⟩:=Ej.mp hn
  have ih:=gW (m:=if k x=some .local then fun z=>if z=x then some y else m z else m) hk hn2 h2 z w
  show∃u,bindL k ys (if k x=some .local then fun z=>if z=x then some y else m z else m) z=some u∧VR n ρ h w u
  replace e:(match names.lookup x with | some .local=>(x,v)::bV names bs | _=>bV names bs).lookup z=some w:=e
  induction hl:names.lookup x with
  | none=>rw[hl]at e;exact ih e
  | some kd=>
   rw[hl]at e
   induction kd with
   | «local»=>
    replace e:((x,v)::bV names bs).lookup z=some w:=e
    rw[DW]at e
    induction q:z==x with
    | true=>
     rw[q]at e
     have qx:=beq_iff_eq.mp q
     refine⟨y,?_,okE (P:=fun w=>VR n ρ h w y) e h1⟩
     rw[qx,gV fun p hp e=>hn1 (by rw[←eF h2,←e];exact Fu hp),if_pos ((hk x).trans hl),if_pos rfl]
    | false=>rw[q]at e;exact ih e
   | _=>exact ih e
theorem i9{n ρ h}{k:Str→Option NameKind}{x:Str}(hx:k x=some .cell): ∀{bs:List (Str×V)} {ys:List (Str×Value)} {m:Str→Option Value},(bs.map (·.1)).Nodup→PRs n ρ h bs ys→
  match bs.lookup x with | some v=> ∃y,bindC k ys m x=some y∧VR n ρ h v y | none=>bindC k ys m x=m x
 | [],ys,m,_,e=>by cases(e:ys=[]);rfl
 | (z,v)::bs,ys,m,hn,hp=>by
  refine o23 hp fun y ys e2q h1 h2=>?_;subst e2q
  rw[Em,Ej]at hn
  have ih:=i9 (m:=if k z=some .local then m else fun u=>if u=z then some y else m u) hx hn.2 h2
  refine rK (DW ..) ?_
  unfold bindC
  induction q:x==z with
  | true=>
   have:=beq_iff_eq.mp q
   subst this
   refine⟨y,?_,h1⟩
   rw[gX fun p hp e=>hn.1 (by rw[←eF h2,←e];exact Fu hp),if_neg (by rw[hx];simp),if_pos rfl]
  | false=>
   dsimp only
   have hxz:x≠z:=beq_eq_false_iff_ne.mp q
   induction hb:bs.lookup x with
   | some v'=>replace ih:=(hb ..)▸ih;exact ih
   | none=>
    replace ih:=(hb ..)▸ih
    dsimp only at ih ⊢
    refine rK (ih ..) ?_
    split
    ·rfl
    ·exact if_neg hxz
theorem jB{n ρ h}: ∀{P:List Str} {l:List V} {bs:List (Str×V)} {ys:List Value},xR P l=some bs→VRs n ρ h l ys→PRs n ρ h bs (P.zip ys)∧bs.map (·.1)=P
 | [],[],_,ys,e,v=>okE (P:=fun bs=>PRs n ρ h bs _∧bs.map (·.1)=[]) e ⟨by refine rK (List.zip_nil_left ..) ?_;rfl,rfl⟩
 | [],_::_,_,_,e,_=>noE e
 | _::_,[],_,_,e,_=>noE e
 | p::P,a::l,_,_,e,v=>obK e fun r hr e=>v.k1 (P:=fun ys=>PRs n ρ h _ ((p::P).zip ys)∧_=p::P) fun z zs h1 h2=>have q:=jB hr h2
  okE (P:=fun bs=>PRs n ρ h bs ((p,z)::P.zip zs)∧bs.map (·.1)=p::P) e ⟨⟨z,_,rfl,h1,q.1⟩,congrArg (p:: ·) q.2⟩
theorem VRs.atoms{n ρ h n' ρ' h'}: ∀{l:List V} {ys:List Value},(∀v∈l,v.atom=true)→VRs n ρ h l ys→VRs n' ρ' h' l ys
 | [],ys,_,e=>e
 | v::l,ys,ha,e=>by
  refine o23 e fun z zs e2q h1 h2=>?_;subst e2q
  exact⟨z,zs,rfl,VR.atom (ha v wj) h1,VRs.atoms (fun u hu=>ha u (DJ _ hu)) h2⟩
section
variable{cx:Cx}{K:Frag}{mg mb:Str→Option Value}{T:Tab}{A:Around}{σ:Hp}{ρ:Ids}{s:Shared}{F:Ev}{O:Orc}
theorem cb{a:Addr}{fn:Fn}{ob:Obj}{fd:FuncData}(k:FnAt cx a fn ob fd)(S:Sat cx σ ρ s.heap){args:List V}{kws bs:List (Str×V)}{xs:List Value}{ks:List (Str×Value)}(e:bw fn.dfl kws fn.pars args=some bs)
  (hv:VRs σ.length ρ s.heap args xs) (hk:PRs σ.length ρ s.heap kws ks): ∃ys,PRs σ.length ρ s.heap bs ys∧bs.map (·.1)=fn.pars∧BindsTo s fd ⟨xs,ks⟩ ys:=by
 induction kws with
 | cons _ _=>exact noE e
 | nil=>
 obtain rfl:ks=[]:=hk
 refine e8 e fun e2 e=>e8 e fun e3 e=>?_
 refine o22 k.params fun as ds hp hpa=>?_
 have e2:=Ef.mp e2
 have e3:=Ef.mp e3
 have hla:as.length=fn.pars.length:=(D4 ..).symm.trans (congrArg Ea hpa)
 have lx:=hv.length
 rw[lx]at e2 e3 e
 refine o12 (uP fd as ds hp (hpa▸k.nodup) xs (hla▸e2)) fun kk b1 b2=>?_
 have fin: ∀D:Option (Array Value),VRs σ.length ρ s.heap fn.dfl (D.getD #[]).toList→kk D=pure (fn.pars.zip (xs++(D.getD #[]).toList.drop ((D.getD #[]).toList.length-(as.length-xs.length))))∧PRs σ.length ρ s.heap bs (fn.pars.zip (xs++(D.getD #[]).toList.drop ((D.getD #[]).toList.length-(as.length-xs.length))))∧bs.map (·.1)=fn.pars:=fun D hD=>by
  have ld:=hD.length
  rw[ld]at e3 e
  refine⟨hpa▸b2 D (by rw[←ld,hla];exact k.dlen) (by rw[hla];exact e3),?_⟩
  refine rK (hla ..) ?_
  exact jB e (VRs.append hv (hD.drop _))
 rcases k.dfl with⟨d1,d2⟩ | ⟨t,items,n,d1,d2,d3,d4⟩
 ·obtain⟨f1,f2,f3⟩:=fin none (by refine rK (d2 ..) ?_;rfl)
  exact⟨_,f2,f3,BindsTo.of_eq (by refine rK (b1 ..) (rK (d1 ..) ?_);exact f1)⟩
 ·refine o03 (fin (some items) (VRs.atoms d4 d3)) fun f1 f2 f3=>?_
  exact⟨_,f2,f3,BindsTo.of_defaults d1 (S.keep _ _ d2) rfl b1 f1⟩
theorem eX{x:Str}: ∀{names:List (Str×NameKind)},names.lookup x=some .cell→x∈aU names
 | [],h=>by cases h
 | (y,k)::r,h=>by
  rw[DW]at h
  induction q:x==y with
  | true=>
   replace h:=(q ..)▸h
   refine rK (beq_iff_eq.mp q ..) (rK (DZ h ..) ?_)
   exact wj
  | false=>
   replace h:=(q ..)▸h
   have:=eX h
   induction k
   case cell=>exact DJ _ this
   all_goals exact this
theorem b8{a:Addr}{fn:Fn}{ob:Obj}{fd:FuncData}(k:FnAt cx a fn ob fd)(S:Sat cx σ ρ s.heap){bs:List (Str×V)}{ys:List (Str×Value)}{d:Nat}(hb:bs.map (·.1)=fn.pars)(hy:PRs σ.length ρ s.heap bs ys){o:Out EE}(e:enter fn d bs σ=some o):
  ak cx A σ ρ s (newFunctionEnv fd.scope fd.globals fd.closure ys (fd.qualname++".<locals>.") (some a) fd.code none fd.builtins) o.σ (fun n ρ h env=>ax o.v n ρ env∧env.frame=some env.locals)∧o.v.d=d:=by
 unfold enter at e
 dsimp only at e
 cases e
 refine⟨?_,rfl⟩
 refine rK (k.closure ..) (rK (k.scope ..) (rK (k.globals ..) (rK (k.builtins ..) ?_)))
 have hkey:ys.map (·.1)=fn.pars:=by exact rK (eF hy ..) (rK (hb ..) rfl)
 have hkinds: ∀x∈ys,fn.scope.names.lookup x.1=some .local∨(fn.scope.names.lookup x.1=some .cell∧((cellsFrom (s.heap.objs.size+1) fn.scope.names []).lookup x.1).isSome=true):=by
  intro x hx
  rcases k.kinds x.1 (hkey▸Fu hx)with h | h
  ·exact .inl h
  ·refine .inr ⟨h,?_⟩
   obtain⟨j,hj,ej⟩:=En (eX h)
   rw[←ej,dy k.cnodup _ j hj];rfl
 refine wpAny_newFunctionEnv_cells k.kind hkinds fun env henv s' x=>?_
 subst henv
 refine o22 x.done fun h₁ tk e2q hkeep=>?_;subst e2q
 let cs:=aU fn.scope.names
 let L:List (Addr×AO):=(s.heap.objs.size,.fr (bV fn.scope.names bs))::(numbered (s.heap.objs.size+1) cs).map fun p=>(p.2,.cell (bs.lookup p.1))
 have hLlen:L.length=cs.length+1:=by simp[L,bh]
 have hL2:L.map (·.2)=.fr (bV fn.scope.names bs)::cs.map fun x=> .cell (bs.lookup x):=by
  simp only[L,Em,List.map_map]
  congr 1
  have: ∀(c:List Str) (n:Nat),(numbered n c).map ((fun x:Addr×AO=>x.2) ∘ fun p=>(p.2,AO.cell (bs.lookup p.1)))=c.map fun x=> .cell (bs.lookup x):=by
   intro c
   induction c with
   | nil=>intro n;rfl
   | cons z c ih=>intro n;exact congrArg (_:: ·) (ih (n+1))
  exact this _ _
 have hL1: ∀j (hj:j<L.length),L[j].1=s.heap.objs.size+j:=by
  intro j hj
  induction j with
  | zero=>rfl
  | succ j=>
   have hj':j<cs.length:=by lia
   simp only[L,Ff,List.getElem_map]
   have:=cD cs (s.heap.objs.size+1) j hj'
   rw[DH (by rw[bh];exact hj')]at this
   refine rK (DZ this ..) ?_
   exact Fx s.heap.objs.size j
 have hge: ∀p∈L,s.heap.objs.size≤p.1:=by
  intro p hp
  obtain⟨j,hj,ej⟩:=En hp
  rw[←ej,hL1 j hj];exact D8 ..
 have hcell: ∀j (hj:j<cs.length),h₁.IsCell (s.heap.objs.size+1+j) (bindC (newEnv fn.scope s.heap.objs.size mainGlobals (cellsFrom (s.heap.objs.size+1) fn.scope.names []) (fd.qualname++".<locals>.") (some a) fd.code none builtinsNs).kindOf ys (fun _=>none) cs[j]):=
  fun j hj=>x.cell _ _ (dy k.cnodup (s.heap.objs.size+1) j hj)
 have hlive: ∀p∈L,∃ob,h₁.get? p.1=some ob:=by
  intro p hp
  obtain⟨j,hj,ej⟩:=En hp
  rw[←ej,hL1 j hj]
  induction j with
  | zero=>obtain⟨ob,_,_,q,_⟩:=x.toInCall.ns;exact⟨ob,q⟩
  | succ j=>obtain⟨ob,q,_⟩:=hcell j (by lia);exact⟨ob,by refine rK (show s.heap.objs.size+(j+1)=s.heap.objs.size+1+j from by(exact(Fx ..).symm)) ?_;exact q⟩
 have hbn:(bs.map (·.1)).Nodup:=hb▸k.nodup
 obtain⟨ρ',S',x',hρ⟩:=S.news (h':=h₁) L (Er.mpr fun i j hi hj hij=>by refine rK (hL1 i hi ..) (rK (hL1 j hj ..) ?_);exact F5 (GC hij _)) (fun p hp=>Heap.get?_none_of_le (hge p hp)) hkeep hlive fun ρ' xx hr p hp=>by
  obtain⟨j,hj,ej⟩:=En hp
  rw[←ej]
  induction j with
  | zero=>exact⟨_,x.toInCall.ns,gW (fun _=>rfl) hbn (by
    have: ∀{bs:List (Str×V)} {ys:List (Str×Value)},PRs σ.length ρ s.heap bs ys→PRs (σ.length+L.length) ρ' h₁ bs ys:=fun q=>PRs.ext xx _ _ q
    exact this hy)⟩
  | succ j=>
   have hj':j<cs.length:=by lia
   have hc:=hcell j hj'
   have hkc:fn.scope.names.lookup cs[j]=some .cell:=k.cells _ (DX hj')
   have hv:=i9 (k:=fun z=>fn.scope.names.lookup z) (m:=fun _=>none) hkc hbn (PRs.ext xx _ _ hy)
   have e1:L[j+1].1=s.heap.objs.size+1+j:=(hL1 _ hj).trans (Fx s.heap.objs.size j).symm
   have e2:L[j+1].2=.cell (bs.lookup cs[j]):=by
    have:(L.map (·.2))[j+1]?=some (.cell (bs.lookup cs[j])):=by
     refine rK (hL2 ..) (rK (List.getElem?_cons_succ ..) (rK (FH ..) (rK (DH hj' ..) ?_)));rfl
    replace this:=(DH hj ..)▸((FH ..)▸this)
    exact DZ this
   refine rK (e1 ..) (rK (e2 ..) ?_)
   induction hbl:bs.lookup cs[j]with
   | some v=>
    replace hv:=(hbl ..)▸hv
    refine o12 hv fun y hy1 hy2=>?_
    exact⟨y,by refine FL (hy1 ..) ?_;exact hc,hy2⟩
   | none=>
    replace hv:=(hbl ..)▸hv
    dsimp only at hv
    show h₁.IsCell _ none
    refine FL (hv ..) ?_;exact hc
 replace S':=(hL2 ..)▸S'
 have hlen2:(σ++(AO.fr (bV fn.scope.names bs)::cs.map fun x=> .cell (bs.lookup x))).length=σ.length+L.length:=by rw[←hL2];simp
 refine⟨ρ',⟨S',by refine rK (hlen2 ..) ?_;exact x',rfl,rfl⟩,?_⟩
 have h0:=hρ 0 (by exact DO _)
 replace h0:=(hL1 0 (by exact DO _) ..)▸h0
 refine⟨⟨rfl,k.kind,by simp,h0.symm,rfl,rfl,fun z i hz=>?_⟩,rfl⟩
 obtain⟨j,hj,rfl,rfl⟩:=k9 (lookup_mem hz)
 have hj':j+1<L.length:=by refine rK (hLlen ..) ?_;exact Nat.succ_lt_succ hj
 refine⟨by simp;lia,?_⟩
 have:=hρ (j+1) hj'
 replace this:=(show σ.length+(j+1)=σ.length+1+j from by(exact(Fx ..).symm))▸((hL1 _ hj' ..)▸this)
 refine rK (this ..) ?_
 show(cellsFrom (s.heap.objs.size+1) fn.scope.names []).lookup _=_
 refine rK (dy k.cnodup _ j hj ..) ?_
 congr 1;exact FB ..
end
section
variable{cx:Cx}{K:Frag}{mg mb:Str→Option Value}{T:Tab}{A:Around}{σ:Hp}{ρ:Ids}{s:Shared}{F:Ev}{O:Orc}
theorem aj.deeper{A d}{env:Env}(r:aj A (d+1)):aj (A.deeper env) d:=by
 refine⟨r.handled,?_,?_⟩
 ·show A.depth+1+d<recursionLimit
  have:=r.depth;lia
 ·show A.units+3+50*d+50<cLine
  have:=r.units;lia
theorem aj.in1{A d}(r:aj A (d+1)):aj A.in1 d:=by
 refine⟨r.handled,?_,?_⟩
 ·show A.depth+d<recursionLimit
  have:=r.depth;exact D6 (by assumption)
 ·show A.units+1+50*d+50<cLine
  have:=r.units;lia
theorem nq(H:Ok cx K mg mb T)(HF:aw cx F){d:Nat}(r:aj A d){a:Addr}{fn:Fn}{obj:Obj}{fd:FuncData}(k:rS cx a fn obj fd)(S:Sat cx σ ρ s.heap){args:List V}{kws:List (Str×V)}{xs:List Value}{ks:List (Str×Value)}
  (hv:VRs σ.length ρ s.heap args xs) (hk:PRs σ.length ρ s.heap kws ks):Gives (uM F d fn args kws σ) fun v σ'=>ah cx A σ ρ s (.ref a) xs ks σ' v:=by
 induction d with
 | zero=>exact bq
 | succ d=>
  refine f9 (pC fun bs hb=>f9 fun o3 h3 b3=>?_)
  refine o13 (cb k.toFnAt S hb hv hk) fun ys y1 y2 y3=>?_
  refine o02 (b8 (A:=A.in1) k.toFnAt S y2 y1 h3) fun z1 z2=>?_
  have hsc:=k.scope
  intro o h ob
  refine codeAny_call_function r.lt (S.keep _ _ k.at_) k.data (by refine rK (hsc ..) ?_;exact k.plain.2) (by refine rK (hsc ..) ?_;exact k.plain.1) k.body (k.code.keeps S.keep) (y3 _ _ _ _ ?_)
  refine wpAny_mono z1 (fun env s2 y2k=>o13 y2k fun ρ1 x1 e1 _=>⟨H.B.lim.keeps x1.sat.keep,codeAny_func ?_⟩) fun _ _ f=>f.elim
  have r2:aj (A.deeper env) o3.v.d:=z2.symm▸r.deeper
  refine wpAny_mono ((f9 (P:=fun v σ'=>wpAny (model cx.prog cx.w) (A.deeper env) (execs fn.body env) (fun fl s3=>ag cx σ.length ρ s σ' (IsV v) (match fl with | .ret y=>y | _=> .none) s3) (fun _ _=>False) s2) ((HF.ss r2 e1 x1.sat).mono fun fl σ4 d=>pC fun v hfl=>d.use fun f ρ2 s3 x2 f2=>?_)) o h ob) (fun _ _ x=>x) fun _ _ f=>f.elim
  induction fl with
  | next=>refine rK (show f=.next from f2) ?_;exact okE (P:=fun v=>ag cx σ.length ρ s σ4 (IsV v) .none s3) hfl ((x1.trans x2).post (R:=IsV .none) rfl)
  | brk=>exact noE hfl
  | cont=>exact noE hfl
  | ret w=>obtain⟨x,rfl,hx⟩:=f2;exact okE (P:=fun v=>ag cx σ.length ρ s σ4 (IsV v) x s3) hfl ((x1.trans x2).post (R:=IsV w) hx)
theorem aj.under{A d}(r:aj A (d+1))(C:Addr)(xs:List Value)(ks:List (Str×Value)):aj (A.under (.builtin "type.__call__" ⟨.ref C::xs,ks⟩)) d:=by
 refine⟨r.handled,?_,?_⟩
 ·show A.depth+1+d<recursionLimit
  have:=r.depth;lia
 ·show A.units+1+50*d+50<cLine
  have:=r.units;lia
theorem qQ(H:Ok cx K mg mb T)(HF:aw cx F){d:Nat}(r:aj A d){C:Addr}{cl:Cl}(hc:T.cls.lookup C=some cl)(S:Sat cx σ ρ s.heap){args:List V}{kws:List (Str×V)}{xs:List Value}{ks:List (Str×Value)}
  (hv:VRs σ.length ρ s.heap args xs) (hk:PRs σ.length ρ s.heap kws ks):Gives (make F d C cl args kws σ) fun v σ'=>ah cx A σ ρ s (.ref C) xs ks σ' v:=by
 have X:K.In s.heap:=H.B.X.keeps S.keep
 cases d with
 | zero=>exact bq
 | succ d=>
  refine ae fun f hi=>?_
  refine o03 ((H.L C cl hc).ini f hi) fun m1 m2 m3=>?_
  refine o12 (ag.push (n:=s.toks) S (ob:=emptyDict) (o:=.dict []) rfl fun ρ' x' hr=>⟨[],Heap.DictOf.new _,rfl⟩) fun ρ1 x1 r1=>?_
  refine o02 r1 fun l1 r1=>?_
  have hρ1:s.heap.objs.size=ρ1 σ.length:=Value.ref.inj r1
  obtain⟨ρ2,x2,r2⟩:=ag.push (n:=s.toks) x1.sat (ob:=instObj C s.heap.objs.size) (o:=.inst C σ.length) rfl fun ρ' x' hr=>⟨Ge l1,by
   rw[x'.same σ.length l1,←hρ1]
   exact Heap.get?_push_size _ rfl⟩
  obtain⟨hh,g,dd,t,os⟩:=s
  have x12:=x1.trans x2
  have r2':VR (σ++[AO.dict []]++[AO.inst C σ.length]).length ρ2 ((hh.push emptyDict).push (instObj C hh.objs.size)) (.ref (σ.length+1)) (.ref (hh.objs.size+1)):=by
   have r2:=r2
   dsimp only at r2
   replace r2:=(pm ..)▸((Heap.size_push ..)▸r2)
   exact r2
  refine(f9 (P:=fun v σ'=>codeAny (model cx.prog cx.w) (A.under (.builtin "type.__call__" ⟨.ref C::xs,ks⟩)) (.call (.ref f) ⟨.ref (hh.objs.size+1)::xs,ks⟩) (fun r s'=>match r with | .ok (.ret y)=>y=.none∧ag cx σ.length ρ ⟨hh,g,dd,t,os⟩ σ' (IsV v) (.ref (hh.objs.size+1)) s' | _=>False) ⟨(hh.push emptyDict).push (instObj C hh.objs.size),g,dd,t,os⟩) ((HF.code (x:=.ref f) (xs:=.ref (hh.objs.size+1)::xs) (ks:=ks) (f:=.old f) (args:=.ref (σ.length+1)::args) (s:=⟨(hh.push emptyDict).push (instObj C hh.objs.size),g,dd,t,os⟩) rfl (r.under C xs ks) x2.sat rfl ⟨_,_,rfl,r2',VRs.ext x12.ext _ _ hv⟩ (PRs.ext x12.ext _ _ hk)).mono fun v5 σ5 d5=>au fun hn=>af fun _=>codeAny_mono d5 fun rr s' z=>?_)).mono fun v σ' h=>make_core (makes_of X m1) (looks_findIn X m2) (fun self=>bind_fn X self m3) (.inl rfl) (codeAny_mono h fun rr s' z=>?_)
  ·rcases rr with e | (v | _ | _ | _)
   ·exact z
   ·exact z
   ·exact z
   ·exact z
   ·refine o12 z fun ρ3 x3 r3=>?_
    exact⟨j9 r3 hn,(x12.trans x3).post (R:=IsV (.ref (σ.length+1))) (VR.ext x3.ext _ _ r2')⟩
  ·rcases rr with e | (v | _ | _ | _)
   ·exact z.elim
   ·exact z.elim
   ·exact z.elim
   ·exact z.elim
   ·exact z
end
section
variable{cx:Cx}{K:Frag}{mg mb:Str→Option Value}{T:Tab}{A:Around}{σ:Hp}{ρ:Ids}{s:Shared}{F:Ev}{O:Orc}
theorem fx(H:Ok cx K mg mb T)(HF:aw cx F)(HO:dC cx O){d:Nat}(r:aj A d){f:V}(hf:f.own=true)(S:Sat cx σ ρ s.heap){args:List V}{kws:List (Str×V)}{x:Value}{xs:List Value}{ks:List (Str×Value)}
  (hx:VR σ.length ρ s.heap f x) (hv:VRs σ.length ρ s.heap args xs) (hk:PRs σ.length ρ s.heap kws ks):Gives (uN T O F d f args kws σ) fun v σ'=>ah cx A σ ρ s x xs ks σ' v:=by
 cases f with
 | old a=>
  refine rK (show x=.ref a from hx) ?_
  exact eZ (fun m h1=>HO.cl r S hv hk h1) fun _=>eZ (fun fn h2=>o21 (H.fns a fn h2) fun obj fd k=>nq H HF r k S hv hk) fun _=>ae fun cl h3=>qQ H HF r h3 S hv hk
 | meth g i=>
  obtain⟨hi,p,rfl,ho,_⟩:=hx
  exact(HF.code (x:=.ref g) (f:=.old g) (args:=.ref i::args) rfl r S rfl ⟨_,_,rfl,⟨hi,rfl⟩,hv⟩ hk).mono fun _ _ d=>method_call ho d
 | _=>cases hf
theorem tT{β:Type}{n:Nat}{ρ:Ids}{h:Heap}{kws:List (Str×V)}{ks:List (Str×Value)}{x:Option (Out β)}{P:List (Str×Value)→β→Hp→Prop}(hk:PRs n ρ h kws ks)(g:Gives x (P [])):Gives (noKw kws x) (P ks):=by
 induction kws with
 | nil=>exact hk.k0 (P:=fun ks=>Gives x (P ks)) g
 | cons _ _=>exact bq
theorem oq(H:Ok cx K mg mb T)(HF:aw cx F)(HO:dC cx O){d:Nat}(r:aj A d){f:V}(S:Sat cx σ ρ s.heap){args:List V}{kws:List (Str×V)}{x:Value}{xs:List Value}{ks:List (Str×Value)}
  (hx:VR σ.length ρ s.heap f x) (hv:VRs σ.length ρ s.heap args xs) (hk:PRs σ.length ρ s.heap kws ks):Gives (uN T O F d f args kws σ) fun v σ'=>ak cx A σ ρ s (call x xs ks) σ' (IsV v):=by
 cases f with
 | old a=>exact(fx H HF HO r rfl S hx hv hk).mono fun _ _ d=>d.call
 | meth g i=>exact(fx H HF HO r rfl S hx hv hk).mono fun _ _ d=>d.call
 | bi b=>
  refine rK (show x=.builtin b.name from hx) ?_
  exact tT (P:=fun ks v σ'=>ak cx A σ ρ s (call (.builtin b.name) xs ks) σ' (IsV v)) hk (nr r.handled H.B H.C S hv)
 | ty t=>
  refine rK (show x=.type t.name from hx) ?_
  exact tT (P:=fun ks v σ'=>ak cx A σ ρ s (call (.type t.name) xs ks) σ' (IsV v)) hk (lR S hv)
 | _=>exact bq
theorem rL:aw cx bot where
 ex:=fun _ _ _=>bq
 tst:=fun _ _ _=>bq
 ss:=fun _ _ _=>bq
 call:=fun _ _ _ _ _=>bq
 code:=fun _ _ _ _ _ _=>bq
theorem bu(H:Ok cx K mg mb T)(HO:dC cx O): ∀n,aw cx (evN T O n)
 | 0=>rL
 | n+1=>
  have HF:=bu H HO n
  ⟨fun r e S=>ud H HF HO r e S,fun r e S=>qg H HF r e S,fun r e S=>sE H HF HO r e S,fun r S hx hv hk=>oq H HF HO r S hx hv hk,fun ho r S hx hv hk=>fx H HF HO r ho S hx hv hk⟩
end
mutual
noncomputable def V.ren (r:Nat→Nat):V→V
 | .ref i=> .ref (r i)
 | .meth f i=> .meth f (r i)
 | .tup l=> .tup (dK r l)
 | .none=> .none
 | .bool b=> .bool b
 | .int i=> .int i
 | .str l=> .str l
 | .old a=> .old a
 | .bi f=> .bi f
 | .ty t=> .ty t
noncomputable def dK (r:Nat→Nat):List V→List V
 | []=>[]
 | v::l=>v.ren r::dK r l
end
mutual
noncomputable def V.In (g:Nat→Prop):V→Prop
 | .ref i=>g i
 | .meth _ i=>g i
 | .tup l=>dI g l
 | .none=>True
 | .bool _=>True
 | .int _=>True
 | .str _=>True
 | .old _=>True
 | .bi _=>True
 | .ty _=>True
noncomputable def dI (g:Nat→Prop):List V→Prop
 | []=>True
 | v::l=>v.In g∧dI g l
end
noncomputable def jt {κ:Type} (r:Nat→Nat):List (κ×V)→List (κ×V)
 | []=>[]
 | (k,v)::l=>(k,v.ren r)::jt r l
noncomputable def InP {κ:Type} (g:Nat→Prop):List (κ×V)→Prop
 | []=>True
 | (_,v)::l=>v.In g∧InP g l
noncomputable def AO.ren (r:Nat→Nat):AO→AO
 | .fr m=> .fr (jt r m)
 | .cell (some v)=> .cell (some (v.ren r))
 | .cell none=> .cell none
 | .inst C k=> .inst C (r k)
 | .cinst C kvs=> .cinst C (jt r kvs)
 | .list xs=> .list (dK r xs)
 | .dict kvs=> .dict (jt r kvs)
 | .idict kvs=> .idict (jt r kvs)
 | .tupl xs=> .tupl (dK r xs)
 | .strm f m r' q ks=> .strm f m r' q (ks.map r)
 | .src=> .src
noncomputable def AO.In (g:Nat→Prop):AO→Prop
 | .fr m=>InP g m
 | .cell (some v)=>v.In g
 | .cell none=>True
 | .inst _ k=>g k
 | .cinst _ kvs=>InP g kvs
 | .list xs=>dI g xs
 | .dict kvs=>InP g kvs
 | .idict kvs=>InP g kvs
 | .tupl xs=>dI g xs
 | .strm _ _ _ _ ks=> ∀k∈ks,g k
 | .src=>True
noncomputable abbrev Kept (sel:List Nat) (r:Nat→Nat) (i:Nat):Prop:=sel[r i]?=some i
section
variable{n:Nat}{ρ:Ids}{h:Heap}{sel:List Nat}{r:Nat→Nat}
noncomputable def aE (ρ:Ids) (sel:List Nat):Ids:=fun j=>match sel[j]? with
 | some i=>ρ i
 | none=>0
theorem fu(hk:Kept sel r i):aE ρ sel (r i)=ρ i:=by unfold aE;exact rK (hk ..) rfl
theorem ln(hk:Kept sel r i):r i<sel.length:=(DT.mp hk).1
theorem fq(hs: ∀i∈sel,i<n){a:Addr}(ha: ∀j,j<n→ρ j≠a): ∀j,j<sel.length→aE ρ sel j≠a:=fun j hj=>by
 unfold aE
 refine rK (DH hj ..) ?_
 exact ha _ (hs _ (DX hj))
mutual
theorem VR.pick(hs: ∀i∈sel,i<n): ∀(v:V) (x:Value),VR n ρ h v x→v.In (Kept sel r)→VR sel.length (aE ρ sel) h (v.ren r) x
 | .none,_,e,_=>e
 | .bool _,_,e,_=>e
 | .int _,_,e,_=>e
 | .str _,_,e,_=>e
 | .ref i,x,e,k=>by
  exact⟨ln k,by refine rK (fu k ..) ?_;exact e.2⟩
 | .old _,_,e,_=>e
 | .bi _,_,e,_=>e
 | .ty _,_,e,_=>e
 | .meth f i,x,e,k=>by
  obtain⟨hi,a,rfl,ho,hd⟩:=e
  exact⟨ln k,a,rfl,by refine rK (fu k ..) ?_;exact ho,fq hs hd⟩
 | .tup l,x,e,k=>by
  refine o34 e fun a items m e3q ho hd hl=>?_;subst e3q
  exact⟨a,items,m,rfl,ho,fq hs hd,VRs.pick hs l _ hl k⟩
theorem VRs.pick(hs: ∀i∈sel,i<n): ∀(l:List V) (xs:List Value),VRs n ρ h l xs→dI (Kept sel r) l→VRs sel.length (aE ρ sel) h (dK r l) xs
 | [],_,e,_=>e
 | v::l,_,e,k=>by
  refine o23 e fun y ys e2q h1 h2=>?_;subst e2q
  exact Ee y (Ee ys ⟨rfl,VR.pick hs v y h1 k.1,VRs.pick hs l ys h2 k.2⟩)
end
theorem PRs.pick{κ:Type}(hs: ∀i∈sel,i<n): ∀(l:List (κ×V)) (xs:List (κ×Value)),PRs n ρ h l xs→InP (Kept sel r) l→PRs sel.length (aE ρ sel) h (jt r l) xs
 | [],_,e,_=>e
 | (k,v)::l,_,e,q=>by
  refine o23 e fun y ys e2q h1 h2=>?_;subst e2q
  exact Ee y (Ee ys ⟨rfl,VR.pick hs v y h1 q.1,PRs.pick hs l ys h2 q.2⟩)
theorem dT{x:Str}: ∀{l:List (Str×V)},(jt r l).lookup x=(l.lookup x).map (V.ren r)
 | []=>rfl
 | (k,v)::l=>by
  show((k,v.ren r)::jt r l).lookup x=_
  refine rK (DW ..) (rK (DW ..) ?_)
  induction x==k with
  | true=>rfl
  | false=>exact dT
theorem jj{g:Nat→Prop}{x:Str}{v:V}: ∀{l:List (Str×V)},InP g l→l.lookup x=some v→v.In g
 | [],_,e=>by cases e
 | (k,w)::l,hi,e=>by
  rw[DW]at e
  induction q:x==k with
  | true=>rw[q]at e;exact okE (P:=fun v=>v.In g) e hi.1
  | false=>rw[q]at e;exact jj hi.2 e
theorem iS(r:Nat→Nat)(f:Addr)(S:Stm)(ks:List Nat):jt r (cA f S ks)=cA f S (ks.map r):=by
 match ks with
 | []=>rfl
 | [_]=>rfl
 | [_,_]=>rfl
 | [_,_,_]=>rfl
 | [a,b,c,d]=>
  obtain⟨_,_,bf,_,_⟩:=S
  induction bf<;>rfl
 | _::_::_::_::_::_=>rfl
theorem ro{g:Nat→Prop}(f:Addr)(S:Stm){ks:List Nat}(h: ∀k∈ks,g k):InP g (cA f S ks):=by
 have hb:(zf S.buf).In g:=by induction S.buf<;>trivial
 match ks,h with
 | [],_=>trivial
 | [_],_=>trivial
 | [_,_],_=>trivial
 | [_,_,_],_=>trivial
 | [a,b,c,d],h=>
  exact And.intro (h a (.head _)) (And.intro (h b (.tail _ (.head _))) (And.intro (h c (.tail _ (.tail _ (.head _)))) ⟨trivial,trivial,trivial,h d (.tail _ (.tail _ (.tail _ (.head _)))),trivial,trivial,hb,trivial⟩))
 | _::_::_::_::_::_,_=>trivial
theorem OR.pick{cx:Cx}{a:Addr}(hs: ∀i∈sel,i<n): ∀(o:AO),OR cx n ρ h a o→o.In (Kept sel r)→OR cx sel.length (aE ρ sel) h a (o.ren r)
 | .fr m,e,k=>by
  refine o12 e fun mm h1 h2=>?_
  refine⟨mm,h1,fun x v hv=>?_⟩
  replace hv:=(dT ..)▸hv
  refine o12 (FD.mp hv) fun w hw e2q=>?_;subst e2q
  refine o12 (h2 x w hw) fun y hy hr=>?_
  exact⟨y,hy,VR.pick hs w y hr (jj k hw)⟩
 | .cell (some v),e,k=>by
  refine o12 e fun y h1 h2=>?_
  exact⟨y,h1,VR.pick hs v y h2 k⟩
 | .cell none,e,_=>e
 | .inst C i,e,k=>by
  refine o02 e fun h1 h2=>?_
  exact⟨ln k,by refine rK (fu k ..) ?_;exact h2⟩
 | .cinst C kvs,e,k=>by
  refine o25 e fun d ps h1 h2 h3 h4 h5=>?_
  exact⟨d,ps,h1,h2,PRs.pick hs _ _ h3 k,fq hs h4,h5⟩
 | .list xs,e,k=>by
  refine o22 e fun items m h1 h2=>?_
  exact⟨items,m,h1,VRs.pick hs _ _ h2 k⟩
 | .dict kvs,e,k=>by
  refine o12 e fun ps h1 h2=>?_
  exact⟨ps,h1,PRs.pick hs _ _ h2 k⟩
 | .idict kvs,e,k=>by
  refine o12 e fun ps h1 h2=>?_
  exact⟨ps,h1,PRs.pick hs _ _ h2 k⟩
 | .tupl xs,e,k=>by
  refine o22 e fun items m h1 h2=>?_
  exact⟨items,m,h1,VRs.pick hs _ _ h2 k⟩
 | .src,e,k=>by
  obtain⟨t,ht,ps,h1,h2⟩:=e
  exact⟨t,ht,ps,h1,PRs.pick (r:=r) hs _ _ h2 ⟨trivial,trivial,trivial⟩⟩
 | .strm f m r' q ks,e,k=>by
  obtain⟨S,si,ps,h1,h2⟩:=e
  exact⟨S,si,ps,h1,iS r f S ks▸PRs.pick hs _ _ h2 (ro f S k)⟩
end
noncomputable def Picked (σ:List AO) (sel:List Nat) (r:Nat→Nat) (σ':List AO):Prop:=
 σ'.length=sel.length∧sel.Nodup∧ ∀(j i:Nat),sel[j]?=some i→ ∃o,σ[i]?=some o∧σ'[j]?=some (o.ren r)∧o.In (Kept sel r)
theorem Picked.lt{σ:List AO}{sel:List Nat}{r:Nat→Nat}{σ':List AO}(p:Picked σ sel r σ'): ∀i∈sel,i<σ.length:=fun i hi=>by
 obtain⟨j,hj,e⟩:=En hi
 refine o12 (p.2.2 j i (by exact rK (DH hj ..) (rK (e ..) rfl))) fun o ho _=>?_
 exact(DT.mp ho).1
theorem Sat.pick{cx σ ρ h}(S:Sat cx σ ρ h){sel:List Nat}{r:Nat→Nat}{σ':List AO}(p:Picked σ sel r σ'):Sat cx σ' (aE ρ sel) h:=by
 have at': ∀j,j<σ'.length→ ∃i,sel[j]?=some i∧aE ρ sel j=ρ i∧i<σ.length:=fun j hj=>by
  replace hj:=(p.1 ..)▸hj
  refine⟨sel[j],DH hj,?_,p.lt _ (DX hj)⟩
  unfold aE;exact rK (DH hj ..) rfl
 refine⟨fun a b ha hb e=>?_,fun j hj=>?_,fun j hj=>?_,S.keep,fun j o hj=>?_⟩
 ·refine o13 (at' a ha) fun i h1 h2 h3=>?_
  refine o13 (at' b hb) fun k g1 g2 g3=>?_
  rw[h2,g2]at e
  have:=S.inj i k h3 g3 e
  subst this
  refine o11 (DT.mp h1) fun ha' e1=>?_
  refine o11 (DT.mp g1) fun hb' e2=>?_
  by_cases q:a=b
  ·exact q
  ·exfalso
   rcases GK q with q | q
   ·exact Er.mp p.2.1 a b ha' hb' q (e1.trans e2.symm)
   ·exact Er.mp p.2.1 b a hb' ha' q (e2.trans e1.symm)
 ·refine o13 (at' j hj) fun i _ h2 h3=>?_
  rw[h2];exact S.own i h3
 ·refine o13 (at' j hj) fun i _ h2 h3=>?_
  rw[h2];exact S.live i h3
 ·refine o13 (at' j (DT.mp hj).1) fun i h1 h2 h3=>?_
  refine o13 (p.2.2 j i h1) fun o' q1 q2 q3=>?_
  rw[hj]at q2
  cases q2
  rw[h2,p.1]
  exact OR.pick p.lt o' (S.obj i o' q1) q3
theorem Ext.pick{n ρ h n' ρ' h'}(x:Ext n ρ h n' ρ' h'){sel:List Nat}(hn:n≤sel.length)(hp: ∀j,j<n→sel[j]?=some j)(hlt: ∀i∈sel,i<n')(hnd:sel.Nodup):Ext n ρ h sel.length (aE ρ' sel) h':=by
 refine⟨hn,fun i hi=>?_,fun j h1 h2=>?_,x.keep⟩
 ·unfold aE;refine rK (hp i hi ..) ?_;exact x.same i hi
 ·unfold aE
  refine rK (DH h2 ..) ?_
  refine x.fresh _ ?_ (hlt _ (DX h2))
  by_cases q:n≤sel[j]
  ·exact q
  ·exfalso
   have hq:sel[j]<n:=by exact Ft q
   have e:=hp _ hq
   obtain⟨hl,e2⟩:=DT.mp e
   exact Er.mp hnd sel[j] j hl h2 (by exact DR hq h1) e2
noncomputable def aK (n:Nat) (σ1:List AO) (sel:List Nat) (r:Nat→Nat) (σ':List AO):Prop:=Picked σ1 sel r σ'∧n≤sel.length∧ ∀j,j<n→sel[j]?=some j
section
variable{cx:Cx}{K:Frag}{mg mb:Str→Option Value}{T:Tab}{A:Around}{σ:Hp}{ρ:Ids}{s:Shared}{F:Ev}{O:Orc}{ee:EE}{env:Env}
theorem Aft.pick{n:Nat}{ρ0:Ids}{s0 s1:Shared}{σ1 σ':Hp}{ρ1:Ids}{sel:List Nat}{r:Nat→Nat}(x:Aft cx n ρ0 s0 σ1 ρ1 s1)(p:aK n σ1 sel r σ'):Aft cx n ρ0 s0 σ' (aE ρ1 sel) s1:=
 ⟨x.sat.pick p.1,by refine rK (p.1.1 ..) ?_;exact x.ext.pick p.2.1 p.2.2 p.1.lt p.1.2.1,x.gens,x.os⟩
theorem ah.pick{x:Value}{xs:List Value}{ks:List (Str×Value)}{σ1 σ':Hp}{v:V}{sel:List Nat}{r:Nat→Nat}(h:ah cx A σ ρ s x xs ks σ1 v)(p:aK σ.length σ1 sel r σ')(hv:v.In (Kept sel r)):ah cx A σ ρ s x xs ks σ' (v.ren r):=
 codeAny_mono h fun rr s' z=>by
  rcases rr with e | (_ | _ | _ | y)
  ·exact z.elim
  ·exact z.elim
  ·exact z.elim
  ·exact z.elim
  ·refine o12 z fun ρ1 x1 r1=>?_
   exact(x1.pick p).post (by refine rK (p.1.1 ..) ?_;exact VR.pick p.1.lt v y r1 hv)
noncomputable def TT (cx:Cx) (ee:EE) (t:Expr) (σ:Hp) (b:Bool) (σ':Hp):Prop:=Hid (∀(A:Around) (ρ:Ids) (s:Shared) (env:Env),aj A ee.d→ax ee σ.length ρ env→Sat cx σ ρ s.heap→ak cx A σ ρ s (isTrue t env (eval t env)) σ' (fun _ _ _ q=>q=b))
noncomputable def XX (cx:Cx) (ee:EE) (t:Expr) (σ:Hp) (v:V) (σ':Hp):Prop:=Hid (∀(A:Around) (ρ:Ids) (s:Shared) (env:Env),aj A ee.d→ax ee σ.length ρ env→Sat cx σ ρ s.heap→ak cx A σ ρ s (eval t env) σ' (IsV v))
noncomputable def SS (cx:Cx) (ee:EE) (l:List Stmt) (σ:Hp) (f:Fl) (σ':Hp):Prop:=Hid (∀(A:Around) (ρ:Ids) (s:Shared) (env:Env),aj A ee.d→ax ee σ.length ρ env→Sat cx σ ρ s.heap→ak cx A σ ρ s (execs l env) σ' (fun n ρ h x=>FlR n ρ h f x))
noncomputable def S1 (cx:Cx) (ee:EE) (t:Stmt) (σ:Hp) (f:Fl) (σ':Hp):Prop:=Hid (∀(A:Around) (ρ:Ids) (s:Shared) (env:Env),aj A ee.d→ax ee σ.length ρ env→Sat cx σ ρ s.heap→ak cx A σ ρ s (exec t env) σ' (fun n ρ h x=>FlR n ρ h f x))
theorem TT.ev(HF:aw cx F){t:Expr}{o:Out Bool}(h:F.tst ee t σ=some o)(ob:o.ob):TT cx ee t σ o.v o.σ:=.mk fun A ρ s env r e S=>HF.tst r e S _ h ob
theorem XX.ev(HF:aw cx F){t:Expr}{o:Out V}(h:F.ex ee t σ=some o)(ob:o.ob):XX cx ee t σ o.v o.σ:=.mk fun A ρ s env r e S=>HF.ex r e S _ h ob
theorem SS.ev(HF:aw cx F){l:List Stmt}{o:Out Fl}(h:F.ss ee l σ=some o)(ob:o.ob):SS cx ee l σ o.v o.σ:=.mk fun A ρ s env r e S=>HF.ss r e S _ h ob
theorem SS.nil:SS cx ee [] σ .next σ:=.mk fun A ρ s env _ _ S=>wpAny_execs_nil ((Aft.refl S).post rfl)
theorem SS.cons{t:Stmt}{l:List Stmt}{σ1 σ2:Hp}{f:Fl}(h1:S1 cx ee t σ .next σ1)(h2:SS cx ee l σ1 f σ2):SS cx ee (t::l) σ f σ2:=.mk fun A ρ s env r e S=>
 wpAny_execs_cons ((h1.it _ _ _ _ r e S).use fun x ρ1 s1 x1 r1=>by
  have r1:x=.next:=r1
  subst r1
  exact ak.fin x1 (h2.it _ _ _ _ r (e.ext x1.ext) x1.sat))
theorem SS.stop{t:Stmt}{l:List Stmt}{σ1:Hp}{f:Fl}(h1:S1 cx ee t σ f σ1)(hf:f≠ .next):SS cx ee (t::l) σ f σ1:=.mk fun A ρ s env r e S=>
 wpAny_execs_cons ((h1.it _ _ _ _ r e S).use fun x ρ1 s1 x1 r1=>by
  induction f
  ·exact absurd rfl hf
  ·have r1:x=.brk:=r1
   subst r1;exact x1.post rfl
  ·have r1:x=.cont:=r1
   subst r1;exact x1.post rfl
  ·refine o12 r1 fun y e1q hy=>?_;subst e1q
   exact x1.post ⟨y,rfl,hy⟩)
theorem S1.ite{t:Expr}{b c:List Stmt}{pos:Pos}{σ1 σ2:Hp}{q:Bool}{f:Fl}(h1:TT cx ee t σ q σ1)(h2:SS cx ee (match q with | true=>b | false=>c) σ1 f σ2):S1 cx ee (.If t b c pos) σ f σ2:=.mk fun A ρ s env r e S=>
 wpAny_If ((h1.it _ _ _ _ r e S).use fun x ρ1 s1 x1 r1=>by
  subst r1
  induction x
  ·exact ak.fin x1 (h2.it _ _ _ _ r (e.ext x1.ext) x1.sat)
  ·exact ak.fin x1 (h2.it _ _ _ _ r (e.ext x1.ext) x1.sat))
noncomputable def ji (n:Nat) (σ1 σ':Hp):Prop:=σ'=σ1∨ ∃sel r,aK n σ1 sel r σ'
theorem Aft.pickTo{n:Nat}{ρ0:Ids}{s0 s1:Shared}{σ1 σ':Hp}{ρ1:Ids}(x:Aft cx n ρ0 s0 σ1 ρ1 s1)(p:ji n σ1 σ'): ∃ρ',Aft cx n ρ0 s0 σ' ρ' s1:=
 p.elim (fun e=>⟨ρ1,e▸x⟩) fun h=>h.elim fun _ h=>h.elim fun _ h=>⟨_,x.pick h⟩
noncomputable def zh (f:Fl):Fl→Prop
 | .brk=>f=.next
 | .ret v=>f=.ret v
 | .next=>False
 | .cont=>False
noncomputable abbrev sY (G B:Prop) (R:Value→Prop) (x:Flow):Prop:=match x with | .next=>G | .cont=>G | .brk=>B | .ret v=>R v
theorem goK{G B:Prop}{R:Value→Prop}{n:Nat}{h:Heap}{fl:Fl}{x:Flow}(r:FlR n ρ h fl x)(g:fl=.next∨fl=.cont)(k:G):sY G B R x:=by
 induction g with
 | inl e=>subst e;cases(r:x=.next);exact k
 | inr e=>subst e;cases(r:x=.cont);exact k
theorem zS{G B:Prop}{R:Value→Prop}{n:Nat}{h:Heap}{fl f:Fl}{x:Flow}(r:FlR n ρ h fl x)(g:zh f fl)(h1:FlR n ρ h f .next→B)(h2: ∀y,FlR n ρ h f (.ret y)→R y):sY G B R x:=by
 induction fl with
 | brk=>cases(r:x=.brk);exact h1 (Eh (g:f=.next)▸rfl)
 | ret v=>obtain⟨y,rfl,hy⟩:=r;exact h2 y (Eh (g:f=.ret v)▸⟨y,rfl,hy⟩)
 | next=>exact g.elim
 | cont=>exact g.elim
noncomputable def WhB (cx:Cx) (ee:EE) (t:Expr) (b:List Stmt) (σ:Hp) (fl:Fl) (σ3:Hp):Prop:= ∃σ1,TT cx ee t σ true σ1∧SS cx ee b σ1 fl σ3
inductive Wh(cx:Cx)(ee:EE)(t:Expr)(b:List Stmt)(f:Fl)(σ2:Hp):Nat→Hp→Prop
 | fin {σ:Hp}:TT cx ee t σ false σ2→f=.next→Wh cx ee t b f σ2 0 σ
 | go {σ σ3:Hp} {fl:Fl} {σ':Hp} {n:Nat}:WhB cx ee t b σ fl σ3→(fl=.next∨fl=.cont)→ji σ.length σ3 σ'→Wh cx ee t b f σ2 n σ'→Wh cx ee t b f σ2 (n+1) σ
 | out {σ:Hp} {fl:Fl}:WhB cx ee t b σ fl σ2→zh f fl→Wh cx ee t b f σ2 0 σ
section
variable{t:Expr}{b:List Stmt}{σ1 σ3 σ' σ2:Hp}{fl f:Fl}{n:Nat}
theorem Wh.stop(h1:TT cx ee t σ false σ1):Wh cx ee t b .next σ1 0 σ:=.fin h1 rfl
theorem Wh.turn{sel:List Nat}{r:Nat→Nat}(h1:TT cx ee t σ true σ1)(h2:SS cx ee b σ1 fl σ3)(h3:fl=.next∨fl=.cont)(p:aK σ.length σ3 sel r σ')(w:Wh cx ee t b f σ2 n σ'):Wh cx ee t b f σ2 (n+1) σ:=.go ⟨_,h1,h2⟩ h3 (.inr ⟨_,_,p⟩) w
theorem Wh.turn0(h1:TT cx ee t σ true σ1)(h2:SS cx ee b σ1 fl σ3)(h3:fl=.next∨fl=.cont)(w:Wh cx ee t b f σ2 n σ3):Wh cx ee t b f σ2 (n+1) σ:=.go ⟨_,h1,h2⟩ h3 (.inl rfl) w
theorem Wh.brk(h1:TT cx ee t σ true σ1)(h2:SS cx ee b σ1 .brk σ3):Wh cx ee t b .next σ3 0 σ:=.out ⟨_,h1,h2⟩ rfl
theorem WhB.pre(h:WhB cx ee t b σ fl σ3)(r:aj A ee.d)(e:ax ee σ.length ρ env)(S:Sat cx σ ρ s.heap){Q:Flow→Shared→Prop}{E1 E2:Value→Shared→Prop}{N:Shared→Prop}
  (k: ∀x ρ3 s3,Aft cx σ.length ρ s σ3 ρ3 s3→FlR σ3.length ρ3 s3.heap fl x→Q x s3):wpAny (model cx.prog cx.w) A (isTrue t env (eval t env)) (fun q s2=>if q=true then wpAny (model cx.prog cx.w) A (execs b env) Q E2 s2 else N s2) E1 s:=
 h.elim fun _ h=>(h.1.it _ _ _ _ r e S).use fun _ ρ2 s2 x2 r2=>r2.symm▸(h.2.it _ _ _ _ r (e.ext x2.ext) x2.sat).use fun x ρ3 s3 x3 r3=>k x ρ3 s3 (x2.trans x3) r3
end
theorem a9{t:Expr}{b:List Stmt}{pos:Pos}{n:Nat}{f:Fl}{σ2:Hp}(w:Wh cx ee t b f σ2 n σ):S1 cx ee (.While t b [] pos) σ f σ2:=
 .mk fun A ρ s env r e S=>wpAny_While (codeAny_whileLoop (fun k s'=> ∃ρ1 σ1,Aft cx σ.length ρ s σ1 ρ1 s'∧Wh cx ee t b f σ2 k σ1) (fun k s1 y2k=>o22 y2k fun ρ1 σ1 x1 w=>by
  revert x1
  exact w.casesOn (fun h1 e1 x1=>(h1.it _ _ _ _ r (e.ext x1.ext) x1.sat).use fun q ρ2 s2 x2 r2=>r2.symm▸wpAny_execs_nil ((x1.trans x2).post (e1.symm▸rfl)))
   (fun h1 v2 p w x1=>h1.pre r (e.ext x1.ext) x1.sat fun x ρ3 s3 x3 r3=>(x3.pickTo p).elim fun ρ4 x4=>goK r3 v2 (by exact⟨_,EB _,ρ4,_,x1.trans x4,w⟩))
   (fun h1 v2 x1=>h1.pre r (e.ext x1.ext) x1.sat fun x ρ3 s3 x3 r3=>zS r3 v2 (by exact fun h=>(x1.trans x3).post h) (by exact fun y h=>(x1.trans x3).post h))) n ⟨ρ,σ,Aft.refl S,w⟩)
end
structure cH(a:Addr→Prop)(h h':Heap):Prop where
 keep: ∀b o,¬a b→h.get? b=some o→h'.get? b=some o
 tup: ∀b,a b→ ∀items k,h.get? b≠some (bJ items k)
 meth: ∀b,a b→ ∀f x,h.get? b≠some (methodObj f x)
section
variable{a:Addr→Prop}{h h':Heap}{n:Nat}{ρ:Ids}
mutual
theorem VR.side(x:cH a h h'): ∀(v:V) (y:Value),VR n ρ h v y→VR n ρ h' v y
 | .none,_,e=>e
 | .bool _,_,e=>e
 | .int _,_,e=>e
 | .str _,_,e=>e
 | .ref i,_,e=>e
 | .old _,_,e=>e
 | .bi _,_,e=>e
 | .ty _,_,e=>e
 | .meth f i,_,e=>by
  obtain⟨hi,b,rfl,ho,hd⟩:=e
  exact⟨hi,b,rfl,x.keep b _ (fun q=>x.meth b q _ _ ho) ho,hd⟩
 | .tup l,_,e=>by
  refine o34 e fun b items k e3q ho hd hl=>?_;subst e3q
  exact⟨b,items,k,rfl,x.keep b _ (fun q=>x.tup b q _ _ ho) ho,hd,VRs.side x l _ hl⟩
theorem VRs.side(x:cH a h h'): ∀(l:List V) (ys:List Value),VRs n ρ h l ys→VRs n ρ h' l ys
 | [],_,e=>e
 | v::vs,_,e=>by
  refine o23 e fun y ys e2q h1 h2=>?_;subst e2q
  exact⟨y,ys,rfl,VR.side x v y h1,VRs.side x vs ys h2⟩
end
theorem PRs.side{κ:Type}(x:cH a h h'): ∀(l:List (κ×V)) (ys:List (κ×Value)),PRs n ρ h l ys→PRs n ρ h' l ys
 | [],_,e=>e
 | (k,v)::vs,_,e=>by
  refine o23 e fun y ys e2q h1 h2=>?_;subst e2q
  exact⟨y,ys,rfl,VR.side x v y h1,PRs.side x vs ys h2⟩
theorem OR.side{cx:Cx}{b:Addr}(x:cH a h h')(h0: ∀c,a c→cx.h₀.get? c=none)(hb: ¬a b): ∀(o:AO),OR cx n ρ h b o→OR cx n ρ h' b o
 | .fr m,e=>by
  refine o12 e fun mm n1q f=>?_;obtain⟨o,es,ep,h1,h2⟩:=n1q
  refine⟨mm,⟨o,es,ep,x.keep _ _ hb h1,h2⟩,fun z v hz=>?_⟩
  refine o12 (f z v hz) fun y h3 h4=>?_
  exact⟨y,h3,VR.side x v y h4⟩
 | .cell (some v),e=>by
  refine o12 e fun y n1q h2=>?_;obtain⟨o,h1,h3⟩:=n1q
  exact⟨y,⟨o,x.keep _ _ hb h1,h3⟩,VR.side x _ _ h2⟩
 | .cell none,e=>by
  refine o12 e fun o h1 h3=>?_
  exact⟨o,x.keep _ _ hb h1,h3⟩
 | .inst C k,e=>⟨e.1,x.keep _ _ hb e.2⟩
 | .cinst C kvs,e=>by
  obtain⟨d,ps,h1,⟨o,es,ep,ho,r⟩,h2,hd,o',ho'⟩:=e
  exact⟨d,ps,x.keep _ _ hb h1,⟨o,es,ep,x.keep _ _ (fun q=>by replace ho':=(h0 _ q ..)▸ho';cases ho') ho,r⟩,PRs.side x _ _ h2,hd,o',ho'⟩
 | .list xs,e=>by
  refine o22 e fun items k h1 h2=>?_
  exact⟨items,k,x.keep _ _ hb h1,VRs.side x _ _ h2⟩
 | .dict kvs,e=>by
  refine o12 e fun ps n1q h2=>?_;obtain⟨o,es,ep,ho,r⟩:=n1q
  exact⟨ps,⟨o,es,ep,x.keep _ _ hb ho,r⟩,PRs.side x _ _ h2⟩
 | .idict kvs,e=>by
  refine o12 e fun ps n1q h2=>?_;obtain⟨o,es,ep,ho,r⟩:=n1q
  exact⟨ps,⟨o,es,ep,x.keep _ _ hb ho,r⟩,PRs.side x _ _ h2⟩
 | .src,e=>by
  obtain⟨t,ht,ps,⟨o,es,ep,ho,rr⟩,h2⟩:=e
  exact⟨t,ht,ps,⟨o,es,ep,x.keep _ _ hb ho,rr⟩,PRs.side x _ _ h2⟩
 | .strm f m r q ks,e=>by
  obtain⟨S,si,ps,⟨o,es,ep,ho,rr⟩,h2⟩:=e
  exact⟨S,si,ps,⟨o,es,ep,x.keep _ _ hb ho,rr⟩,PRs.side x _ _ h2⟩
 | .tupl xs,e=>by
  refine o22 e fun items k h1 h2=>?_
  exact⟨items,k,x.keep _ _ hb h1,VRs.side x _ _ h2⟩
theorem Sat.side{cx σ}(S:Sat cx σ ρ h)(x:cH a h h')(hn: ∀i,i<σ.length→ ¬a (ρ i))(h0: ∀c,a c→cx.h₀.get? c=none):Sat cx σ ρ h':=by
 refine⟨S.inj,S.own,fun i hi=>?_,fun b o e=>?_,fun i o e=>?_⟩
 ·refine o11 (S.live i hi) fun o ho=>?_
  exact⟨o,x.keep _ _ (hn i hi) ho⟩
 ·exact x.keep b o (fun q=>by replace e:=(h0 _ q ..)▸e;cases e) (S.keep b o e)
 ·exact OR.side x h0 (hn i (DT.mp e).1) o (S.obj i o e)
end
section
variable{cx:Cx}{K:Frag}{mg mb:Str→Option Value}{T:Tab}{A:Around}{σ:Hp}{ρ:Ids}{s:Shared}{F:Ev}{O:Orc}{ee:EE}{env:Env}
theorem Aft.side{n:Nat}{ρ0:Ids}{s0 s1 s2:Shared}{σ1:Hp}{ρ1:Ids}{P:Addr→Prop}(x:Aft cx n ρ0 s0 σ1 ρ1 s1)(hs:cH P s1.heap s2.heap)(hJ: ∀i,i<σ1.length→ ¬P (ρ1 i))(h0: ∀c,P c→s0.heap.get? c=none)
  (hb: ∀c o,cx.h₀.get? c=some o→s0.heap.get? c=some o) (g:s2.gens=s1.gens) (o:s2.os=s1.os):Aft cx n ρ0 s0 σ1 ρ1 s2:=by
 have hc: ∀c,P c→cx.h₀.get? c=none:=fun c p=>by
  induction q:cx.h₀.get? c with
  | none=>rfl
  | some ob=>have:=h0 c p;replace this:=(hb c ob q ..)▸this;cases this
 refine⟨x.sat.side hs hJ hc,⟨x.ext.le,x.ext.same,x.ext.fresh,fun a ob e ha=>hs.keep a ob (fun q=>by replace e:=(h0 a q ..)▸e;cases e) (x.ext.keep a ob e ha)⟩,g.trans x.gens,o.trans x.os⟩
structure jA(cx:Cx)(A:Around)(J:Addr)(P:Addr→Prop)(items:Nat→Option V)(At:Nat→Hp→Ids→Heap→Prop):Prop where
 next: ∀{k σ ρ s},Sat cx σ ρ s.heap→At k σ ρ s.heap→wpAny (model cx.prog cx.w) A (pyNext (.ref J)) (fun r s'=>
  (match items k with
   | some v=> ∃y,r=some y∧VR σ.length ρ s.heap v y∧At (k+1) σ ρ s'.heap
   | none=>r=none)∧cH P s.heap s'.heap∧s'.gens=s.gens∧s'.os=s.os) (fun _ _=>False) s
 self: ∀{k σ ρ} {s:Shared} {Q:Value→Shared→Prop} {E:Value→Shared→Prop},At k σ ρ s.heap→Q (.ref J) s→wpAny (model cx.prog cx.w) A (pyIter (.ref J)) Q E s
structure bp(W:Prop)(cx:Cx)(I:Hp→Prop)(σ:Hp)(ρ:Ids)(s s2:Shared)(P:Addr→Prop)(At:Nat→Hp→Ids→Heap→Prop):Prop where
 it:W
 move: ∀{k σ ρ s' σ' ρ' s''},At k σ ρ s'.heap→Aft cx σ.length ρ s' σ' ρ' s''→(∀i,i<σ.length→ ¬P (ρ i))→I σ→I σ'→At k σ' ρ' s''.heap
 live: ∀{k σ ρ h},At k σ ρ h→ ∀c,P c→ ∃o,h.get? c=some o
 at0:At 0 σ ρ s2.heap
 new: ∀c,P c→s.heap.get? c=none
 grow: ∀b o,s.heap.get? b=some o→s2.heap.get? b=some o
 gens:s2.gens=s.gens
 os:s2.os=s.os
 inv:I σ
inductive Bm(cx:Cx)(W:Addr→(Addr→Prop)→(Nat→Hp→Ids→Heap→Prop)→Prop)(I:Hp→Prop)(n:Nat)(ρ:Ids)(s:Shared)(σ1:Hp)(it:Value)(s2:Shared):Prop
 | mk (ρ1:Ids) (s1:Shared) (J:Addr) (P:Addr→Prop) (At:Nat→Hp→Ids→Heap→Prop) (e:it=.ref J) (x1:Aft cx n ρ s σ1 ρ1 s1) (st:bp (W J P At) cx I σ1 ρ1 s1 s2 P At)
noncomputable def IIW (W:Around→Addr→(Addr→Prop)→(Nat→Hp→Ids→Heap→Prop)→Prop) (cx:Cx) (ee:EE) (iter:Expr) (σ:Hp) (I:Hp→Prop) (σ1:Hp):Prop:=Hid (∀(A:Around) (ρ:Ids) (s:Shared) (env:Env),aj A ee.d→ax ee σ.length ρ env→Sat cx σ ρ s.heap→
 wpAny (model cx.prog cx.w) A (eval iter env) (fun x s'=>wpAny (model cx.prog cx.w) A (pyIter x) (fun it s2=>Bm cx (W A) I σ.length ρ s σ1 it s2) (fun _ _=>False) s') (fun _ _=>False) s)
noncomputable abbrev II (cx:Cx) (ee:EE) (iter:Expr) (σ:Hp) (items:Nat→Option V) (I:Hp→Prop) (σ1:Hp):Prop:=IIW (fun A J P At=>jA cx A J P items At) cx ee iter σ I σ1
structure Bes(cx:Cx)(I:Hp→Prop)(P:Addr→Prop)(At:Nat→Hp→Ids→Heap→Prop)(n0:Nat)(ρ0:Ids)(s0:Shared)(k:Nat)(σ:Hp)(ρ:Ids)(s:Shared):Prop where
 x:Aft cx n0 ρ0 s0 σ ρ s
 here:At k σ ρ s.heap
 far: ∀i,i<σ.length→ ¬P (ρ i)
 inv:I σ
theorem Aft.apart{P:Addr→Prop}{σ':Hp}{ρ':Ids}{s':Shared}(y:Aft cx σ.length ρ s σ' ρ' s')(hl: ∀c,P c→ ∃o,s.heap.get? c=some o)(hJ: ∀i,i<σ.length→ ¬P (ρ i)): ∀i,i<σ'.length→ ¬P (ρ' i):=
 fun i hi q=>(Ez i σ.length).elim (fun h=>hJ i h (y.ext.same i h▸q)) fun h=>(hl _ q).elim fun _ ho=>noE ((y.ext.fresh i h hi).symm.trans ho)
section
variable{W:Prop}{I:Hp→Prop}{P:Addr→Prop}{At:Nat→Hp→Ids→Heap→Prop}{s2 s3 s4 s':Shared}{k k':Nat}{σ3 σ':Hp}{ρ3 ρ':Ids}
theorem bp.begin{n:Nat}{ρ0:Ids}{s0:Shared}(st:bp W cx I σ ρ s s2 P At)(x1:Aft cx n ρ0 s0 σ ρ s):Bes cx I P At σ.length ρ s 0 σ ρ s2:=
 ⟨⟨(x1.sat.grow st.grow).1,(x1.sat.grow st.grow).2,st.gens,st.os⟩,st.at0,fun i hi q=>(x1.sat.live i hi).elim fun _ ho=>noE ((st.new _ q).symm.trans ho),st.inv⟩
theorem bp.on(st:bp W cx I σ ρ s s2 P At)(B:Bes cx I P At σ.length ρ s k σ3 ρ3 s3)(x4:Aft cx σ.length ρ s σ3 ρ3 s4)(at4:At k' σ3 ρ3 s4.heap)(y:Aft cx σ3.length ρ3 s4 σ' ρ' s')(i':I σ'):Bes cx I P At σ.length ρ s k' σ' ρ' s':=
 ⟨x4.trans y,st.move at4 y B.far B.inv i',y.apart (st.live at4) B.far,i'⟩
theorem bp.aft(st:bp W cx I σ ρ s s2 P At)(hb: ∀c o,cx.h₀.get? c=some o→s.heap.get? c=some o)(B:Bes cx I P At σ.length ρ s k σ3 ρ3 s3)(hs:cH P s3.heap s4.heap)(g:s4.gens=s3.gens)(o:s4.os=s3.os):Aft cx σ.length ρ s σ3 ρ3 s4:=
 B.x.side hs B.far st.new hb g o
end
noncomputable def FoB (cx:Cx) (T:Tab) (F:Ev) (ee:EE) (t:Expr) (b:List Stmt) (items:Nat→Option V) (k:Nat) (σ:Hp) (fl:Fl) (σ3:Hp):Prop:= ∃v o,items k=some v∧aF T F ee t v σ=some o∧o.ob∧SS cx ee b o.σ fl σ3
inductive Fo(cx:Cx)(T:Tab)(F:Ev)(ee:EE)(t:Expr)(b:List Stmt)(items:Nat→Option V)(I:Hp→Prop)(f:Fl)(σ2:Hp):Nat→Nat→Hp→Prop
 | fin {k:Nat}:items k=none→f=.next→Fo cx T F ee t b items I f σ2 0 k σ2
 | go {k:Nat} {σ:Hp} {fl:Fl} {σ3 σ':Hp} {n:Nat}:FoB cx T F ee t b items k σ fl σ3→(fl=.next∨fl=.cont)→ji σ.length σ3 σ'→I σ'→Fo cx T F ee t b items I f σ2 n (k+1) σ'→Fo cx T F ee t b items I f σ2 (n+1) k σ
 | out {k:Nat} {σ:Hp} {fl:Fl}:FoB cx T F ee t b items k σ fl σ2→zh f fl→Fo cx T F ee t b items I f σ2 0 k σ
section
variable{t:Expr}{b:List Stmt}{items:Nat→Option V}{I:Hp→Prop}{n k:Nat}{v:V}{o:Out Unit}{fl f:Fl}{σ3 σ' σ2:Hp}
theorem Fo.done(q:items k=none):Fo cx T F ee t b items I .next σ 0 k σ:=.fin q rfl
theorem Fo.turn0(q:items k=some v)(a:aF T F ee t v σ=some o)(b1:o.ob)(h:SS cx ee b o.σ fl σ3)(h3:fl=.next∨fl=.cont)(i:I σ3)(w:Fo cx T F ee t b items I f σ2 n (k+1) σ3):
 Fo cx T F ee t b items I f σ2 (n+1) k σ:=.go ⟨_,_,q,a,b1,h⟩ h3 (.inl rfl) i w
theorem Fo.ret{w:V}(q:items k=some v)(a:aF T F ee t v σ=some o)(b1:o.ob)(h:SS cx ee b o.σ (.ret w) σ3):Fo cx T F ee t b items I (.ret w) σ3 0 k σ:=.out ⟨_,_,q,a,b1,h⟩ rfl
end
section
variable{J:Addr}{P:Addr→Prop}{items:Nat→Option V}{At:Nat→Hp→Ids→Heap→Prop}{I:Hp→Prop}{s2 s3:Shared}{k:Nat}{σ3:Hp}{ρ3:Ids}
theorem Bes.fin(st:bp (jA cx A J P items At) cx I σ ρ s s2 P At)(hb: ∀c o,cx.h₀.get? c=some o→s.heap.get? c=some o)(B:Bes cx I P At σ.length ρ s k σ3 ρ3 s3)(q:items k=none){Q:Option Value→Shared→Prop}{E:Value→Shared→Prop}
  (K: ∀s4,Aft cx σ.length ρ s σ3 ρ3 s4→Q none s4):wpAny (model cx.prog cx.w) A (pyNext (.ref J)) Q E s3:=
 wpAny_mono (st.it.next B.x.sat B.here) (fun rr s4 hr=>by
  have h1:=hr.1
  rw[q]at h1
  exact h1.symm▸K s4 (st.aft hb B hr.2.1 hr.2.2.1 hr.2.2.2)) fun _ _ z=>z.elim
theorem FoB.pre(H:Ok cx K mg mb T)(HF:aw cx F)(r:aj A ee.d)(st:bp (jA cx A J P items At) cx I σ ρ s s2 P At)(hb: ∀c o,cx.h₀.get? c=some o→s.heap.get? c=some o)(B:Bes cx I P At σ.length ρ s k σ3 ρ3 s3)(e:ax ee σ.length ρ env){t:Expr}{b:List Stmt}{fl:Fl}{σ6:Hp}(h:FoB cx T F ee t b items k σ3 fl σ6)
  {Q:Flow→Shared→Prop} {E E1 E2:Value→Shared→Prop} {N:Shared→Prop} (K: ∀s4 x ρ6 s6,Aft cx σ.length ρ s σ3 ρ3 s4→At (k+1) σ3 ρ3 s4.heap→Aft cx σ3.length ρ3 s4 σ6 ρ6 s6→FlR σ6.length ρ6 s6.heap fl x→Q x s6):
  wpAny (model cx.prog cx.w) A (pyNext (.ref J)) (fun r s4=>match r with
   | none=>N s4
   | some y=>wpAny (model cx.prog cx.w) A (PySem.assign t env y) (fun _ s2=>wpAny (model cx.prog cx.w) A (execs b env) Q E2 s2) E1 s4) E s3:=
 h.elim fun v h=>h.elim fun o h=>wpAny_mono (st.it.next B.x.sat B.here) (fun rr s4 hr=>by
  have h1:=hr.1
  replace h1:=(h.1 ..)▸h1
  have x4:=st.aft hb B hr.2.1 hr.2.2.1 hr.2.2.2
  exact h1.elim fun y h1=>h1.1.symm▸(bg H HF r (e.ext x4.ext) x4.sat (VR.side hr.2.1 _ _ h1.2.1) _ h.2.1 h.2.2.1).use fun _ ρ2 s2 x2 _=>(h.2.2.2.it _ _ _ _ r ((e.ext x4.ext).ext x2.ext) x2.sat).use fun x ρ6 s6 x6 r6=>K s4 x ρ6 s6 x4 h1.2.2 (x2.trans x6) r6) fun _ _ z=>z.elim
end
theorem ua(H:Ok cx K mg mb T)(HF:aw cx F){t:Expr}{b:List Stmt}{J:Addr}{P:Addr→Prop}{items:Nat→Option V}{At:Nat→Hp→Ids→Heap→Prop}{I:Hp→Prop}{n:Nat}{f:Fl}{σ2:Hp}{s2:Shared}{R:Result→Shared→Prop}(r:aj A ee.d)(e:ax ee σ.length ρ env)
  (st:bp (jA cx A J P items At) cx I σ ρ s s2 P At) (S:Sat cx σ ρ s.heap) (w:Fo cx T F ee t b items I f σ2 n 0 σ) (ht: ∀v,letOwnedTupleGo t (.ref J) v=pure ()) (hR: ∀x ρ' s',Aft cx σ.length ρ s σ2 ρ' s'→FlR σ2.length ρ' s'.heap f x→R (.ok x) s'):
  codeAny (model cx.prog cx.w) A (.forLoop t (.ref J) b [] env) R s2:=
 codeAny_forLoop (fun m s'=> ∃k ρ3 σ3,Bes cx I P At σ.length ρ s k σ3 ρ3 s'∧Fo cx T F ee t b items I f σ2 m k σ3) (fun m s3 y2k=>o32 y2k fun k ρ3 σ3 B w=>by
  revert B
  exact w.casesOn (fun q e1 B=>B.fin st S.keep q fun s4 x4=>wpAny_execs_nil (hR _ _ _ x4 (e1.symm▸rfl)))
   (fun h v2 p i' w B=>h.pre H HF r st S.keep B e fun s4 x ρ6 s6 x4 at4 x6 r6=>(x6.pickTo p).elim fun ρ7 x7=>goK r6 v2 (by exact⟨_,EB _,_,ρ7,_,st.on B x4 at4 x7 i',w⟩))
   (fun h v2 B=>h.pre H HF r st S.keep B e fun s4 x ρ6 s6 x4 _ x6 r6=>zS r6 v2 (by exact fun h=>hR _ _ _ (x4.trans x6) h) (by exact fun y h=>hR _ _ _ (x4.trans x6) h))) n ⟨0,ρ,σ,st.begin (Aft.refl S),w⟩ ht
theorem gc(H:Ok cx K mg mb T)(HF:aw cx F){t it:Expr}{b:List Stmt}{pos:Pos}{items:Nat→Option V}{I:Hp→Prop}{n:Nat}{f:Fl}{σ1 σ2:Hp}
  (h1:II cx ee it σ items I σ1) (w:Fo cx T F ee t b items I f σ2 n 0 σ1)
  (hs: ∀env x,foldedSetIterable it env x=pure x) (ht: ∀J v,letOwnedTupleGo t (.ref J) v=pure ()):S1 cx ee (.For t it b [] pos) σ f σ2:=
 .mk fun A ρ s env r e S=>wpAny_For (wpAny_mono (h1.it _ _ _ _ r e S) (fun x s' hx=>wpAny_mono hx (fun itv s2 hst=>hst.casesOn fun ρ1 s1 J P At ei x1 st=>ei▸ua H HF r (e.ext x1.ext) st x1.sat w (ht J) fun x ρ' s' x2 r2=>ag.aft x1 (x2.post r2)) fun _ _ z=>z.elim) fun _ _ z=>z.elim) (hs env)
end
theorem cH.of{J:Addr}{h h':Heap}{ob:Obj}{U:String}(ho:h.get? J=some ob)(hc:ob.cls=.type U)(h1:U≠"tuple")(h2:U≠"method")(k: ∀b o,b≠J→h.get? b=some o→h'.get? b=some o):cH (· =J) h h':=by
 refine⟨k,fun b hb items n q=>?_,fun b hb f x q=>?_⟩
 ·subst hb;replace q:=(ho ..)▸q;cases q;injection hc with hc;exact h1 hc.symm
 ·subst hb;replace q:=(ho ..)▸q;cases q;injection hc with hc;exact h2 hc.symm
section
variable{cx:Cx}{K:Frag}{mg mb:Str→Option Value}{T:Tab}{A:Around}{σ:Hp}{ρ:Ids}{s:Shared}{F:Ev}{O:Orc}{ee:EE}{env:Env}
noncomputable def charAt (l:List Nat) (k:Nat):Option V:=match l[k]? with
 | some c=>some (.str [c])
 | none=>none
theorem sy(hh:A.handled=none){J:Addr}{l:List Nat}{t:Tok}:jA cx A J (· =J) (charAt l) (fun k _ _ h=>h.IsStrIter J (strIterType ⟨l.toArray⟩) ⟨l.toArray⟩ t k):=by
 refine⟨fun{k σ ρ s} S hat=>?_,fun{k σ ρ s Q E} hat hq=>?self⟩
 case self=>
  unfold strIterType at hat
  split at hat
  ·exact wpAny_pyIter_striter_ascii hat hq
  ·exact wpAny_pyIter_striter_wide hat hq
 refine o13 (id hat) fun ob ho hc hd=>?_
 have side: ∀h',(∀b o,b≠J→s.heap.get? b=some o→h'.get? b=some o)→cH (· =J) s.heap h':=fun h' kk=>by
  unfold strIterType at hc
  split at hc
  ·exact cH.of ho hc (by decide) (by decide) kk
  ·exact cH.of ho hc (by decide) (by decide) kk
 induction q:l[k]? with
 | some c=>
  have hx:(⟨l.toArray⟩:Str).cps[k]?=some c:=by simpa using q
  have goal: ∀h',h'.IsStrIter J (strIterType ⟨l.toArray⟩) ⟨l.toArray⟩ t (k+1)→Heap.SameBut J s.heap h'→ ∀tk,(match charAt l k with
    | some v=> ∃y,(some (.str ⟨#[c]⟩ tk):Option Value)=some y∧VR σ.length ρ s.heap v y∧h'.IsStrIter J (strIterType ⟨l.toArray⟩) ⟨l.toArray⟩ t (k+1)
    | none=>(some (.str ⟨#[c]⟩ tk):Option Value)=none)∧cH (· =J) s.heap h':=fun h' h1 h2 tk=>by
   refine⟨?_,side h' fun b o hb e=>(h2.2 b hb).trans e⟩
   unfold charAt
   refine rK (q ..) ?_
   exact⟨_,rfl,vrS,h1⟩
  by_cases ha:(⟨l.toArray⟩:Str).cps.all (· <128)=true
  ·have hT:strIterType ⟨l.toArray⟩="str_ascii_iterator":=by unfold strIterType;exact rK (if_pos ha ..) rfl
   replace hat:=(hT ..)▸hat
   refine wpAny_pyNext_ascii_item hat hx fun h' h1 h2=>?_
   refine o02 (goal h' (hT▸h1) h2 s.toks) fun g1 g2=>?_
   exact⟨g1,g2,rfl,rfl⟩
  ·have hT:strIterType ⟨l.toArray⟩="str_iterator":=by unfold strIterType;exact rK (if_neg ha ..) rfl
   replace hat:=(hT ..)▸hat
   refine wpAny_pyNext_wide_item hat hx fun h' h1 h2=>?_
   refine o02 (goal h' (hT▸h1) h2 s.toks) fun g1 g2=>?_
   exact⟨g1,g2,rfl,rfl⟩
 | none=>
  have hx:(⟨l.toArray⟩:Str).cps[k]?=none:=by simpa using q
  have e0:charAt l k=none:=by unfold charAt;exact rK (q ..) rfl
  by_cases ha:(⟨l.toArray⟩:Str).cps.all (· <128)=true
  ·have hT:strIterType ⟨l.toArray⟩="str_ascii_iterator":=by unfold strIterType;exact rK (if_pos ha ..) rfl
   replace hat:=(hT ..)▸hat
   refine wpAny_pyNext_ascii_end hh hat hx fun h' h1=>?_
   refine rK (e0 ..) ?_
   exact⟨rfl,side h' fun b o hb e=>h1 b o hb e,rfl,rfl⟩
  ·have hT:strIterType ⟨l.toArray⟩="str_iterator":=by unfold strIterType;exact rK (if_neg ha ..) rfl
   replace hat:=(hT ..)▸hat
   refine wpAny_pyNext_wide_end hh hat hx fun h' h1=>?_
   refine rK (e0 ..) ?_
   exact⟨rfl,side h' fun b o hb e=>h1 b o hb e,rfl,rfl⟩
theorem qU(hh:A.handled=none){J:Addr}{i:Nat}{xs:List V}:jA cx A J (· =J) (fun k=>xs[k]?) (fun k σ ρ h=>σ[i]?=some (.list xs)∧h.IsListIter J (ρ i) k):=by
 refine⟨fun{k σ ρ s} S hat=>?_,fun{k σ ρ s Q E} hat hq=>wpAny_pyIter_listiter hat.2 hq⟩
 refine o02 hat fun hi hat=>?_
 refine o13 (id hat) fun ob ho hc hd=>?_
 refine o22 (S.obj _ _ hi) fun items m g v=>?_
 have side: ∀h',(∀b o,b≠J→s.heap.get? b=some o→h'.get? b=some o)→cH (· =J) s.heap h':=fun h' kk=>cH.of ho hc (by decide) (by decide) kk
 induction q:xs[k]? with
 | some w=>
  refine o12 (v.at q) fun y hy hr=>?_
  refine wpAny_pyNext_list_item hat ⟨_,g,rfl,_,rfl⟩ hy fun h' h1 h2=>?_
  exact⟨⟨y,rfl,hr,hi,h1⟩,side h' fun b o hb e=>(h2.2 b hb).trans e,rfl,rfl⟩
 | none=>
  have hx:items[k]?=none:=by
   have hl:=v.size
   rw[Es]at q
   rw[Array.getElem?_eq_none_iff];exact le_of_eq_of_le (id (Eh hl)) q
  refine wpAny_pyNext_list_end hh hat ⟨_,g,rfl,_,rfl⟩ hx fun h' h1=>?_
  exact⟨rfl,side h' fun b o hb e=>h1 b o hb e,rfl,rfl⟩
theorem II.str{it:Expr}{l:List Nat}{σ1:Hp}(h:XX cx ee it σ (.str l) σ1):II cx ee it σ (charAt l) (fun _=>True) σ1:=by
 refine .mk ?_
 intro A ρ s env r e S
 refine(h.it _ _ _ _ r e S).use fun x ρ1 s1 x1 r1=>?_
 refine o11 (rY r1) fun tk e1q=>?_;subst e1q
 refine wpAny_pyIter_strU ⟨ρ1,s1,s1.heap.objs.size,(· =s1.heap.objs.size),fun k _ _ h=>h.IsStrIter s1.heap.objs.size (strIterType ⟨l.toArray⟩) ⟨l.toArray⟩ tk k,rfl,x1,sy r.handled,fun{k σ ρ s' σ' ρ' s''} hat y hj _ _=>?_,fun{k σ ρ h} y1k c hc=>o12 y1k fun o ho _=>⟨o,hc▸ho⟩,⟨_,Heap.get?_push_size _ rfl,rfl,rfl⟩,fun c hc=>?_,fun b o' q=>Heap.get?_push_of_some _ q,rfl,rfl,trivial⟩
 ·refine o12 hat fun o ho q=>?_
  exact⟨o,y.ext.keep _ _ ho hj,q⟩
 ·subst hc;exact Heap.get?_none_of_le (DQ _)
theorem II.list{it:Expr}{i:Nat}{xs:List V}{σ1:Hp}(h:XX cx ee it σ (.ref i) σ1)(hi:σ1[i]?=some (.list xs)):II cx ee it σ (fun k=>xs[k]?) (fun σ'=>σ'[i]?=some (.list xs)) σ1:=by
 refine .mk ?_
 intro A ρ s env r e S
 refine(h.it _ _ _ _ r e S).use fun x ρ1 s1 x1 r1=>?_
 refine o02 r1 fun hil e1q=>?_;subst e1q
 refine o22 (x1.sat.obj _ _ hi) fun items m g v=>?_
 refine wpAny_pyIter_list ⟨_,g,rfl,_,rfl⟩ ⟨ρ1,s1,s1.heap.objs.size,(· =s1.heap.objs.size),fun k σ ρ h=>σ[i]?=some (.list xs)∧h.IsListIter s1.heap.objs.size (ρ i) k,rfl,x1,qU r.handled,fun{k σ ρ s' σ' ρ' s''} hat y hj _ hI=>?_,fun{k σ ρ h} y1k c hc=>y1k.elim fun _ z0y1k=>z0y1k.elim fun o z1y1k=>z1y1k.elim fun ho _=>⟨o,hc▸ho⟩,⟨hi,_,Heap.get?_push_size _ rfl,rfl,rfl⟩,fun c hc=>?_,fun b o' q=>Heap.get?_push_of_some _ q,rfl,rfl,hi⟩
 ·obtain⟨hi0,o,ho,q⟩:=hat
  exact⟨hI,o,y.ext.keep _ _ ho hj,by refine rK (y.ext.same _ (aI hi0) ..) ?_;exact q⟩
 ·subst hc;exact Heap.get?_none_of_le (DQ _)
theorem i5(p l:List Nat):charAt (p++l) p.length=charAt l 0:=by
 unfold charAt
 exact rK (EW (DQ _) ..) (rK (FO ..) rfl)
theorem Fo.str{α:Type}{t:Expr}{b:List Stmt}{L:α→Option Nat→Hp}{step:α→Nat→α}{f:List Nat}(ha: ∀x c k,aF T F ee t (.str [k]) (L x c)=some ⟨(),L x (some k),[]⟩)(hb: ∀x k c,k∈f→ ∃σ3,SS cx ee b (L x (some k)) .next σ3∧ji (L x c).length σ3 (L (step x k) (some k)))(l:List Nat):
  ∀(p:List Nat) (x:α) (c:Option Nat),f=p++l→ ∃c',Fo cx T F ee t b (charAt f) (fun _=>True) .next (L (l.foldl step x) c') l.length p.length (L x c):=by
 induction l with
 | nil=>exact fun p x c e=>⟨c,.done (e▸i5 p [])⟩
 | cons k l ih=>exact fun p x c e=>(hb x k c (e▸EA _ (wj ..))).elim fun σ3 h=>(ih (p++[k]) (step x k) (some k) (by refine rK (e ..) (rK (DV ..) ?_);rfl)).imp fun c' w=> .go ⟨_,_,e▸i5 p (k::l),ha x c k,trivial,h.1⟩ (.inl rfl) h.2 trivial (pm (as:=p) (bs:=[k])▸w)
end
inductive TL(cx:Cx)(ee:EE):List Expr→Hp→Bool→Hp→Prop
 | nil {σ}:TL cx ee [] σ true σ
 | one {c σ b σ'}:TT cx ee c σ b σ'→TL cx ee [c] σ b σ'
section
variable{cx:Cx}{K:Frag}{mg mb:Str→Option Value}{T:Tab}{A:Around}{σ:Hp}{ρ:Ids}{s:Shared}{F:Ev}{O:Orc}{ee:EE}{env:Env}
inductive CpE(cx:Cx)(ee:EE)(elt:Expr)(D:Nat):Bool→Hp→Hp→Prop
 | skip {σ:Hp}:CpE cx ee elt D false σ σ
 | keep {σ:Hp} {v:V} {σ4:Hp} {ys:List V}:XX cx ee elt σ v σ4→σ4[D]?=some (.list ys)→ys.length≤sizeLine→CpE cx ee elt D true σ (σ4.set D (.list (ys++[v])))
noncomputable def CpB (cx:Cx) (T:Tab) (F:Ev) (ee:EE) (t:Expr) (ifs:List Expr) (elt:Expr) (D:Nat) (v:V) (σ σ4:Hp):Prop:= ∃o b σ3,aF T F ee t v σ=some o∧o.ob∧TL cx ee ifs o.σ b σ3∧CpE cx ee elt D b σ3 σ4
inductive Cp(cx:Cx)(T:Tab)(F:Ev)(ee:EE)(t:Expr)(ifs:List Expr)(elt:Expr)(items:Nat→Option V)(I:Hp→Prop)(D:Nat)(σ2:Hp):Nat→Nat→Hp→Prop
 | done {k:Nat}:items k=none→Cp cx T F ee t ifs elt items I D σ2 0 k σ2
 | next {k:Nat} {σ:Hp} {v:V} {σ4 σ':Hp} {n:Nat}:items k=some v→CpB cx T F ee t ifs elt D v σ σ4→ji σ.length σ4 σ'→I σ'→Cp cx T F ee t ifs elt items I D σ2 n (k+1) σ'→Cp cx T F ee t ifs elt items I D σ2 (n+1) k σ
section
variable{t:Expr}{ifs:List Expr}{elt:Expr}{items:Nat→Option V}{I:Hp→Prop}{D n k:Nat}{v v4:V}{o:Out Unit}{σ3 σ4 σ' σ2:Hp}{ys:List V}
theorem Cp.keep0(q:items k=some v)(a:aF T F ee t v σ=some o)(b:o.ob)(h:TL cx ee ifs o.σ true σ3)(x:XX cx ee elt σ3 v4 σ4)(hD:σ4[D]?=some (.list ys))(hz:ys.length≤sizeLine)(i:I (σ4.set D (.list (ys++[v4]))))
 (w:Cp cx T F ee t ifs elt items I D σ2 n (k+1) (σ4.set D (.list (ys++[v4])))):Cp cx T F ee t ifs elt items I D σ2 (n+1) k σ:=.next q ⟨_,_,_,a,b,h,.keep x hD hz⟩ (.inl rfl) i w
theorem Cp.skip0(q:items k=some v)(a:aF T F ee t v σ=some o)(b:o.ob)(h:TL cx ee ifs o.σ false σ3)(i:I σ3)(w:Cp cx T F ee t ifs elt items I D σ2 n (k+1) σ3):Cp cx T F ee t ifs elt items I D σ2 (n+1) k σ:=.next q ⟨_,_,_,a,b,h,.skip⟩ (.inl rfl) i w
end
theorem ax.move{m n':Nat}{ρ4 ρ':Ids}(e:ax ee m ρ4 env)(hm:m≤n')(same: ∀i,i<m→ρ' i=ρ4 i):ax ee n' ρ' env:=
 ⟨e.scope,e.kind,DR e.fr hm,by refine rK (same _ e.fr ..) ?_;exact e.loc,e.glob,e.bi,fun y i hi=>by
  refine o02 (e.cells y i hi) fun h1 h2=>?_
  exact⟨DR h1 hm,by refine rK (same _ h1 ..) ?_;exact h2⟩⟩
theorem TL.does(r:aj A ee.d){ifs:List Expr}{b:Bool}{σ':Hp}(e:ax ee σ.length ρ env)(S:Sat cx σ ρ s.heap)(h:TL cx ee ifs σ b σ'):
  ak cx A σ ρ s (forIn ifs true fun c r=>if r=true then do let ok←isTrue c env (eval c env);pure (Ek ok)else pure (Ek r)) σ' (fun _ _ _ q=>q=b):=by
 induction h with
 | nil=>exact wpAny_tests_nil ((Aft.refl S).post rfl)
 | one h=>exact wpAny_tests_one (h.it _ _ _ _ r e S)
theorem CpE.does(r:aj A ee.d){elt:Expr}{D:Nat}{b:Bool}{σ':Hp}{acc:Value}(e:ax ee σ.length ρ env)(S:Sat cx σ ρ s.heap)(hD:acc=.ref (ρ D))(hDn:D<σ.length)(h:CpE cx ee elt D b σ σ'){Q:Shared→Prop}{E1 E2:Value→Shared→Prop}
  (k: ∀ρ' s',Aft cx σ.length ρ s σ' ρ' s'→Q s'):if b=true then wpAny (model cx.prog cx.w) A (eval elt env) (fun x s4=>wpAny (model cx.prog cx.w) A (call (.builtin "list.append") [acc,x]) (fun _ s5=>Q s5) E2 s4) E1 s else Q s:=by
 induction h with
 | skip=>exact k ρ s (Aft.refl S)
 | keep h hD' hz=>
  exact(h.it _ _ _ _ r e S).use fun z ρ7 s7 x7 r7=>by
   rw[hD,←x7.ext.same D hDn]
   exact(gZ x7.sat (aI hD') hD' r7 hz).use fun _ ρ8 s8 x8 _=>k ρ8 s8 (x7.trans x8)
theorem CpB.does(H:Ok cx K mg mb T)(HF:aw cx F)(r:aj A ee.d){t elt:Expr}{ifs:List Expr}{D:Nat}{v:V}{σ':Hp}{acc y:Value}(e:ax ee σ.length ρ env)(S:Sat cx σ ρ s.heap)(hy:VR σ.length ρ s.heap v y)(hD:acc=.ref (ρ D))(hDn:D<σ.length)(h:CpB cx T F ee t ifs elt D v σ σ'){Q:Shared→Prop}{E0 E1 E2 E3:Value→Shared→Prop}
  (k: ∀ρ' s',Aft cx σ.length ρ s σ' ρ' s'→Q s'):wpAny (model cx.prog cx.w) A (PySem.assign t env y) (fun _ s2=>wpAny (model cx.prog cx.w) A (forIn ifs true fun c r=>if r=true then do let ok←isTrue c env (eval c env);pure (Ek ok)else pure (Ek r)) (fun ok s3=>
   if ok=true then wpAny (model cx.prog cx.w) A (eval elt env) (fun x s4=>wpAny (model cx.prog cx.w) A (call (.builtin "list.append") [acc,x]) (fun _ s5=>Q s5) E2 s4) E1 s3 else Q s3) E3 s2) E0 s:=
 h.elim fun o h=>h.elim fun b h=>h.elim fun σ3 h=>(bg H HF r e S hy _ h.1 h.2.1).use fun _ ρ5 s5 x5 _=>(h.2.2.1.does r (e.ext x5.ext) x5.sat).use fun ok ρ6 s6 x6 r6=>r6.symm▸
  h.2.2.2.does r ((e.ext x5.ext).ext x6.ext) x6.sat (by refine rK ((x5.trans x6).ext.same D hDn) ?_;exact hD) (DR hDn (x5.trans x6).ext.le) fun ρ8 s8 x8=>k ρ8 s8 ((x5.trans x6).trans x8)
end
noncomputable def a6 (scope out:Scope):Scope:=
 {scope with names:=scope.names.map fun(n,k)=>if(k==.free&&out.kind==.function&&out.names.lookup n==some .cell)then(n,.cell)else(n,k)}
noncomputable def dH (cells:List (Str×Nat)):List (Str×NameKind)→List (Str×Nat)→Option (List (Str×Nat))
 | [],acc=>some acc
 | (n,k)::r,acc=>match k==.free with
  | true=>(match cells.lookup n with
   | some i=>dH cells r ((n,i)::acc)
   | none=>none)
  | false=>dH cells r acc
section
variable{cx:Cx}{K:Frag}{mg mb:Str→Option Value}{T:Tab}{A:Around}{σ:Hp}{ρ:Ids}{s:Shared}{F:Ev}{O:Orc}{ee:EE}{env:Env}
theorem gH{n:Nat}(hc: ∀x i,ee.cells.lookup x=some i→i<n∧env.cells.lookup x=some (ρ i)): ∀(names:List (Str×NameKind)) (accE:List (Str×Nat)) (acc:List (Str×Addr)) (out:List (Str×Nat)),dH ee.cells names accE=some out→
  acc=accE.map (fun p=>(p.1,ρ p.2))→(∀p∈accE,p.2<n)→
  (forIn names acc fun(x:Str×NameKind) (cs:List (Str×Addr))=>(if(x.2==.free)=true then do let a←cellOf env x.1;pure (Ek ((x.1,a)::cs))else pure (Ek cs):Sem _))=pure (out.map fun p=>(p.1,ρ p.2))∧ ∀p∈out,p.2<n
 | [],accE,acc,out,h,ha,hl=>by
  cases h
  subst ha
  exact⟨by simp,hl⟩
 | (x,k)::r,accE,acc,out,h,ha,hl=>by
  replace h:(match k==.free with | true=>(match ee.cells.lookup x with | some i=>dH ee.cells r ((x,i)::accE) | none=>none) | false=>dH ee.cells r accE)=some out:=h
  refine rK (F2 ..) ?_
  dsimp only
  induction hk:k==.free with
  | true=>
   replace h:=(hk ..)▸h
   dsimp only at h
   induction hx:ee.cells.lookup x with
   | none=>replace h:=(hx ..)▸h;cases h
   | some i=>
    replace h:=(hx ..)▸h
    refine o02 (hc x i hx) fun h1 h2=>?_
    refine rK (if_pos rfl ..) ?_
    unfold cellOf
    refine rK (h2 ..) ?_
    simp only[pure_bind]
    exact gH hc r ((x,i)::accE) ((x,ρ i)::acc) out h (by refine rK (ha ..) ?_;rfl) fun p hp=>by
     rcases D1.mp hp with rfl | hp
     ·exact h1
     ·exact hl p hp
  | false=>
   replace h:=(hk ..)▸h
   refine rK (if_neg (by simp) ..) ?_
   simp only[pure_bind]
   exact gH hc r accE acc out h ha hl
theorem lF{n:Nat}(e:ax ee n ρ env){scope:Scope}{out:List (Str×Nat)}(h:dH ee.cells scope.names []=some out):closureFor scope env=pure (out.map fun p=>(p.1,ρ p.2))∧ ∀p∈out,p.2<n:=by
 refine o02 (gH e.cells scope.names [] [] out h rfl (fun p hp=>by cases hp)) fun h1 h2=>?_
 refine⟨?_,h2⟩
 unfold closureFor
 simp only[bind_pure]
 exact h1
theorem nV{out:List (Str×Nat)}{x:Str}{i:Nat}:out.lookup x=some i→(out.map fun p=>(p.1,ρ p.2)).lookup x=some (ρ i):=by
 induction out with
 | nil=>intro h;cases h
 | cons p out ih=>
  obtain⟨y,j⟩:=p
  intro h
  refine rK (Em ..) (rK (DW ..) ?_)
  rw[DW]at h
  dsimp only
  induction q:x==y with
  | true=>replace h:=(q ..)▸h;cases h;rfl
  | false=>replace h:=(q ..)▸h;exact ih h
end
noncomputable def AO.noT:AO→Bool
 | .tupl _=>false
 | _=>true
theorem OR.notTM{cx:Cx}{n:Nat}{ρ:Ids}{h:Heap}{a:Addr}: ∀{o:AO},o.noT=true→OR cx n ρ h a o→(∀items k,h.get? a≠some (bJ items k))∧ ∀f x,h.get? a≠some (methodObj f x)
 | .fr m,_,e=>by
  refine o12 e fun mm n1q _=>?_;obtain⟨o,es,ep,h1,h2,_⟩:=n1q
  exact⟨(fun _ _ q=>by replace q:=(h1 ..)▸q;cases q;cases h2),(fun _ _ q=>by replace q:=(h1 ..)▸q;cases q;cases h2)⟩
 | .cell (some v),_,e=>by
  refine o12 e fun y n1q _=>?_;obtain⟨o,h1,h2⟩:=n1q
  exact⟨(fun _ _ q=>by replace q:=(h1 ..)▸q;cases q;cases h2),(fun _ _ q=>by replace q:=(h1 ..)▸q;cases q;cases h2)⟩
 | .cell none,_,e=>by
  refine o12 e fun o h1 h2=>?_
  exact⟨(fun _ _ q=>by replace q:=(h1 ..)▸q;cases q;cases h2),(fun _ _ q=>by replace q:=(h1 ..)▸q;cases q;cases h2)⟩
 | .inst C k,_,e=>by
  refine o02 e fun _ h1=>?_
  exact⟨(fun _ _ q=>by replace q:=(h1 ..)▸q;cases q),(fun _ _ q=>by replace q:=(h1 ..)▸q;cases q)⟩
 | .cinst C kvs,_,e=>by
  refine o22 e fun d ps h1 _=>?_
  exact⟨(fun _ _ q=>by replace q:=(h1 ..)▸q;cases q),(fun _ _ q=>by replace q:=(h1 ..)▸q;cases q)⟩
 | .list xs,_,e=>by
  refine o22 e fun items k h1 _=>?_
  refine⟨fun _ _ q=>?_,fun _ _ q=>?_⟩
  ·replace q:=(h1 ..)▸q
   have:=congrArg Obj.cls (DZ q)
   injection this with this
   exact absurd this (by decide)
  ·replace q:=(h1 ..)▸q
   have:=congrArg Obj.cls (DZ q)
   injection this with this
   exact absurd this (by decide)
 | .dict kvs,_,e=>by
  refine o12 e fun ps n1q _=>?_;obtain⟨o,es,ep,h1,hc,h2,_⟩:=n1q
  exact⟨(fun _ _ q=>by replace q:=(h1 ..)▸q;cases q;cases h2),(fun _ _ q=>by replace q:=(h1 ..)▸q;cases q;cases h2)⟩
 | .idict kvs,_,e=>by
  refine o12 e fun ps n1q _=>?_;obtain⟨o,es,ep,h1,hc,h2,_⟩:=n1q
  exact⟨(fun _ _ q=>by replace q:=(h1 ..)▸q;cases q;cases h2),(fun _ _ q=>by replace q:=(h1 ..)▸q;cases q;cases h2)⟩
 | .tupl _,q,_=>by cases q
 | .src,_,e=>by
  obtain⟨t,ht,ps,⟨o,_,_,h1,hc,h2,_⟩,_⟩:=e
  exact⟨(fun _ _ q=>by replace q:=(h1 ..)▸q;cases q;cases h2),(fun _ _ q=>by replace q:=(h1 ..)▸q;cases q;cases h2)⟩
 | .strm f m r q ks,_,e=>by
  obtain⟨S,si,ps,⟨o,_,_,h1,hc,h2,_⟩,_⟩:=e
  exact⟨(fun _ _ q=>by replace q:=(h1 ..)▸q;cases q;cases h2),(fun _ _ q=>by replace q:=(h1 ..)▸q;cases q;cases h2)⟩
section
variable{n n':Nat}{ρ ρ':Ids}{h:Heap}{u:Nat→Nat}
structure Emb(n:Nat)(ρ:Ids)(n':Nat)(ρ':Ids)(h:Heap)(u:Nat→Nat):Prop where
 at_: ∀j,j<n→u j<n'∧ρ' (u j)=ρ j
 rest: ∀i,i<n'→(∃j,j<n∧u j=i)∨((∀items k,h.get? (ρ' i)≠some (bJ items k))∧ ∀f x,h.get? (ρ' i)≠some (methodObj f x))
mutual
theorem VR.emb(E:Emb n ρ n' ρ' h u): ∀(v:V) (x:Value),VR n ρ h v x→VR n' ρ' h (v.ren u) x
 | .none,_,e=>e
 | .bool _,_,e=>e
 | .int _,_,e=>e
 | .str _,_,e=>e
 | .ref i,x,e=>by
  refine o02 e fun hi e1q=>?_;subst e1q
  refine o02 (E.at_ i hi) fun h1 h2=>?_
  exact⟨h1,by exact rK (h2 ..) rfl⟩
 | .old _,_,e=>e
 | .bi _,_,e=>e
 | .ty _,_,e=>e
 | .meth f i,x,e=>by
  obtain⟨hi,a,rfl,ho,hd⟩:=e
  refine o02 (E.at_ i hi) fun h1 h2=>?_
  refine⟨h1,a,rfl,by refine rK (h2 ..) ?_;exact ho,fun j hj q=>?_⟩
  rcases E.rest j hj with⟨k,hk,rfl⟩ | ⟨_,h4⟩
  ·exact hd k hk (by rw[←(E.at_ k hk).2];exact q)
  ·exact h4 _ _ (q▸ho)
 | .tup l,x,e=>by
  refine o34 e fun a items m e3q ho hd hl=>?_;subst e3q
  refine⟨a,items,m,rfl,ho,fun j hj q=>?_,VRs.emb E l _ hl⟩
  rcases E.rest j hj with⟨k,hk,rfl⟩ | ⟨h3,_⟩
  ·exact hd k hk (by rw[←(E.at_ k hk).2];exact q)
  ·exact h3 _ _ (q▸ho)
theorem VRs.emb(E:Emb n ρ n' ρ' h u): ∀(l:List V) (xs:List Value),VRs n ρ h l xs→VRs n' ρ' h (dK u l) xs
 | [],_,e=>e
 | v::l,_,e=>by
  refine o23 e fun y ys e2q h1 h2=>?_;subst e2q
  exact Ee y (Ee ys ⟨rfl,VR.emb E v y h1,VRs.emb E l ys h2⟩)
end
theorem PRs.emb{κ:Type}(E:Emb n ρ n' ρ' h u): ∀(l:List (κ×V)) (xs:List (κ×Value)),PRs n ρ h l xs→PRs n' ρ' h (jt u l) xs
 | [],_,e=>e
 | (k,v)::l,_,e=>by
  refine o23 e fun y ys e2q h1 h2=>?_;subst e2q
  exact Ee y (Ee ys ⟨rfl,VR.emb E v y h1,PRs.emb E l ys h2⟩)
theorem OR.emb{cx:Cx}{a:Addr}(E:Emb n ρ n' ρ' h u): ∀(o:AO),(∀C kvs,o≠ .cinst C kvs)→OR cx n ρ h a o→OR cx n' ρ' h a (o.ren u)
 | .fr m,_,e=>by
  refine o12 e fun mm h1 h2=>?_
  refine⟨mm,h1,fun x v hv=>?_⟩
  replace hv:=(dT ..)▸hv
  refine o12 (FD.mp hv) fun w hw e2q=>?_;subst e2q
  refine o12 (h2 x w hw) fun y hy hr=>?_
  exact⟨y,hy,VR.emb E w y hr⟩
 | .cell (some v),_,e=>by
  refine o12 e fun y h1 h2=>?_
  exact⟨y,h1,VR.emb E v y h2⟩
 | .cell none,_,e=>e
 | .inst C i,_,e=>by
  refine o02 e fun h1 h2=>?_
  refine o02 (E.at_ i h1) fun g1 g2=>?_
  exact⟨g1,by refine rK (g2 ..) ?_;exact h2⟩
 | .cinst C kvs,q,_=>absurd rfl (q C kvs)
 | .list xs,_,e=>by
  refine o22 e fun items m h1 h2=>?_
  exact⟨items,m,h1,VRs.emb E _ _ h2⟩
 | .dict kvs,_,e=>by
  refine o12 e fun ps h1 h2=>?_
  exact⟨ps,h1,PRs.emb E _ _ h2⟩
 | .idict kvs,_,e=>by
  refine o12 e fun ps h1 h2=>?_
  exact⟨ps,h1,PRs.emb E _ _ h2⟩
 | .tupl xs,_,e=>by
  refine o22 e fun items m h1 h2=>?_
  exact⟨items,m,h1,VRs.emb E _ _ h2⟩
 | .src,_,e=>by
  obtain⟨t,ht,ps,h1,h2⟩:=e
  exact⟨t,ht,ps,h1,PRs.emb (u:=u) E _ _ h2⟩
 | .strm f m r' q ks,_,e=>by
  obtain⟨S,si,ps,h1,h2⟩:=e
  exact⟨S,si,ps,h1,iS u f S ks▸PRs.emb E _ _ h2⟩
end
structure Framed(σ:List AO)(sel:List Nat)(σs':List AO)(u:Nat→Nat)(σ':List AO):Prop where
 old: ∀j i,sel[j]?=some i→u j=i
 new: ∀j,sel.length≤j→u j=σ.length+(j-sel.length)
 len:σ'.length=σ.length+(σs'.length-sel.length)
 keep: ∀i,i<σ.length→i∉sel→σ'[i]?=σ[i]?∧ ∀o,σ[i]?=some o→o.noT=true
 part: ∀j o,σs'[j]?=some o→σ'[u j]?=some (o.ren u)∧ ∀C kvs,o≠ .cinst C kvs
theorem Aft.frame{cx:Cx}{σ σs σs' σ':List AO}{ρ ρs':Ids}{s s':Shared}{sel:List Nat}{r u:Nat→Nat}(S:Sat cx σ ρ s.heap)(p:Picked σ sel r σs)(x:Aft cx sel.length (aE ρ sel) s σs' ρs' s')(f:Framed σ sel σs' u σ'):
  ∃ρ',Aft cx σ.length ρ s σ' ρ' s'∧Emb σs'.length ρs' σ'.length ρ' s'.heap u:=by
 have hle:=x.ext.le
 let ρ':Ids:=fun i=>if i<σ.length then ρ i else ρs' (sel.length+(i-σ.length))
 have old: ∀i,i<σ.length→ρ' i=ρ i:=fun i hi=>if_pos hi
 have new: ∀i,σ.length≤i→ρ' i=ρs' (sel.length+(i-σ.length)):=fun i hi=>if_neg (by exact Fc.mpr (by assumption))
 have pid: ∀j (hj:j<sel.length),aE ρ sel j=ρ sel[j]:=fun j hj=>by unfold aE;rw[DH hj]
 have at': ∀j,j<σs'.length→u j<σ'.length∧ρ' (u j)=ρs' j:=fun j hj=>by
  by_cases c:j<sel.length
  ·have e1:=f.old j sel[j] (DH c)
   have hlt:=p.lt _ (DX c)
   rw[e1,f.len,old _ hlt,x.ext.same j c,pid j c]
   exact⟨by(exact Nat.lt_add_right (σs'.length-sel.length) hlt),rfl⟩
  ·rw[f.new j (by exact D7 c),f.len,new _ (by exact D8 ..)]
   refine⟨by lia,?_⟩
   congr 1;lia
 have raw: ∀i,i<σ.length→i∉sel→ ∀o,s.heap.get? (ρ i)=some o→s'.heap.get? (ρ i)=some o:=fun i hi hn o ho=>by
  refine x.ext.keep _ _ ho fun j hj q=>?_
  rw[pid j hj]at q
  have:=S.inj _ _ (p.lt _ (DX hj)) hi q
  exact hn (this▸DX hj)
 have ext:Ext σ.length ρ s.heap σ'.length ρ' s'.heap:=by
  refine⟨by rw[f.len];(exact D8 ..),old,fun i h1 h2=>?_,fun a o e ha=>?_⟩
  ·rw[new i h1]
   rw[f.len]at h2
   exact x.ext.fresh _ (by exact D8 ..) (by lia)
  ·exact x.ext.keep a o e fun j hj q=>by rw[pid j hj]at q;exact ha _ (p.lt _ (DX hj)) q
 have place: ∀i,i<σ'.length→(∃j,j<σs'.length∧u j=i)∨(i<σ.length∧i∉sel):=fun i hi=>by
  rw[f.len]at hi
  by_cases c:i<σ.length
  ·by_cases d:i∈sel
   ·obtain⟨j,hj,e⟩:=En d
    exact .inl ⟨j,by(exact kV (by assumption) (by assumption)),f.old j i (by rw[DH hj,e])⟩
   ·exact .inr ⟨c,d⟩
  ·refine .inl ⟨sel.length+(i-σ.length),by lia,?_⟩
   rw[f.new _ (by exact D8 ..)];lia
 have E:Emb σs'.length ρs' σ'.length ρ' s'.heap u:=⟨at',fun i hi=>by
  rcases place i hi with h | ⟨h1,h2⟩
  ·exact .inl h
  ·refine .inr ?_
   refine o11 (show∃o,σ[i]?=some o from⟨_,DH h1⟩) fun o ho=>?_
   refine o02 (OR.notTM ((f.keep i h1 h2).2 o ho) (S.obj i o ho)) fun t1 t2=>?_
   refine o11 (S.live i h1) fun ob hob=>?_
   have hr:=raw i h1 h2 ob hob
   rw[old i h1]
   exact⟨fun its k q=>t1 its k (by rw[hob,←hr];exact q),fun g y q=>t2 g y (by rw[hob,←hr];exact q)⟩⟩
 refine⟨ρ',⟨⟨fun a b ha hb q=>?_,fun i hi=>?_,fun i hi=>?_,x.sat.keep,fun i o hi=>?_⟩,ext,x.gens,x.os⟩,E⟩
 ·rcases place a ha with⟨j,hj,rfl⟩ | ⟨a1,a2⟩
  ·rcases place b hb with⟨k,hk,rfl⟩ | ⟨b1,b2⟩
   ·rw[(at' j hj).2,(at' k hk).2]at q
    exact rK (x.sat.inj j k hj hk q ..) rfl
   ·exfalso
    rw[(at' j hj).2,old b b1]at q
    by_cases c:j<sel.length
    ·rw[x.ext.same j c,pid j c]at q
     have:=S.inj _ _ (p.lt _ (DX c)) b1 q
     exact b2 (this▸DX c)
    ·have:=x.ext.fresh j (by exact D7 c) hj
     refine o11 (S.live b b1) fun o ho=>?_
     rw[q,ho]at this;cases this
  ·rcases place b hb with⟨k,hk,rfl⟩ | ⟨b1,b2⟩
   ·exfalso
    rw[(at' k hk).2,old a a1]at q
    by_cases c:k<sel.length
    ·rw[x.ext.same k c,pid k c]at q
     have:=S.inj _ _ a1 (p.lt _ (DX c)) q
     exact a2 (this▸DX c)
    ·have:=x.ext.fresh k (by exact D7 c) hk
     refine o11 (S.live a a1) fun o ho=>?_
     rw[←q,ho]at this;cases this
   ·rw[old a a1,old b b1]at q;exact S.inj a b a1 b1 q
 ·rcases place i hi with⟨j,hj,rfl⟩ | ⟨a1,_⟩
  ·rw[(at' j hj).2];exact x.sat.own j hj
  ·rw[old i a1];exact S.own i a1
 ·rcases place i hi with⟨j,hj,rfl⟩ | ⟨a1,a2⟩
  ·rw[(at' j hj).2];exact x.sat.live j hj
  ·rw[old i a1]
   refine o11 (S.live i a1) fun o ho=>?_
   exact⟨o,raw i a1 a2 o ho⟩
 ·have hil:=(DT.mp hi).1
  rcases place i hil with⟨j,hj,rfl⟩ | ⟨a1,a2⟩
  ·refine o02 (f.part j _ (DH hj)) fun g1 g2=>?_
   rw[g1]at hi
   cases hi
   rw[(at' j hj).2]
   exact OR.emb E _ g2 (x.sat.obj j _ (DH hj))
  ·rw[(f.keep i a1 a2).1]at hi
   rw[old i a1]
   exact OR.ext ext (raw i a1 a2) o (S.obj i o hi)
theorem ah.frame{cx:Cx}{A:Around}{σ σs σs' σ':List AO}{ρ:Ids}{s:Shared}{sel:List Nat}{r u:Nat→Nat}{x:Value}{xs:List Value}{ks:List (Str×Value)}{v:V}(S:Sat cx σ ρ s.heap)(p:Picked σ sel r σs)
  (h:ah cx A σs (aE ρ sel) s x xs ks σs' v) (f:Framed σ sel σs' u σ'):ah cx A σ ρ s x xs ks σ' (v.ren u):=
 codeAny_mono h fun rr s' z=>by
  rcases rr with e | (_ | _ | _ | y)
  ·exact z.elim
  ·exact z.elim
  ·exact z.elim
  ·exact z.elim
  ·refine o12 z fun ρs' x' r'=>?_
   replace x':=(p.1 ..)▸x'
   refine o12 (Aft.frame S p x' f) fun ρ' x2 E=>?_
   exact⟨ρ',x2,VR.emb E v y r'⟩
section
variable{cx:Cx}{K:Frag}{mg mb:Str→Option Value}{T:Tab}{A:Around}{σ:Hp}{ρ:Ids}{s:Shared}{F:Ev}{O:Orc}{ee:EE}{env:Env}
noncomputable def yR:Fl→Option V
 | .ret v=>some v
 | .next=>some .none
 | _=>none
theorem aR(H:Ok cx K mg mb T){d:Nat}(r:aj A (d+1)){a:Addr}{fn:Fn}{obj:Obj}{fd:FuncData}(k:rS cx a fn obj fd)(S:Sat cx σ ρ s.heap){args:List V}{kws bs:List (Str×V)}{xs:List Value}{ks:List (Str×Value)}
  (hv:VRs σ.length ρ s.heap args xs) (hk:PRs σ.length ρ s.heap kws ks) (hb:bw fn.dfl kws fn.pars args=some bs) {o:Out EE} (he:enter fn d bs σ=some o) {f:Fl} {σ2:Hp} {v:V} (hf:yR f=some v) (w:SS cx o.v fn.body o.σ f σ2):
  ah cx A σ ρ s (.ref a) xs ks σ2 v:=by
 refine o13 (cb k.toFnAt S hb hv hk) fun ys y1 y2 y3=>?_
 have hsc:=k.scope
 refine codeAny_call_function r.lt (S.keep _ _ k.at_) k.data (by refine rK (hsc ..) ?_;exact k.plain.2) (by refine rK (hsc ..) ?_;exact k.plain.1) k.body (k.code.keeps S.keep) (y3 _ _ _ _ ?_)
 refine o02 (b8 (A:=A.in1) k.toFnAt S y2 y1 he) fun z1 z2=>?_
 refine wpAny_mono z1 (fun env s2 y2k=>o13 y2k fun ρ1 x1 e1 _=>⟨H.B.lim.keeps x1.sat.keep,codeAny_func ?_⟩) fun _ _ f=>f.elim
 have r2:aj (A.deeper env) o.v.d:=by refine rK (z2 ..) ?_;exact r.deeper
 refine wpAny_mono (w.it _ _ _ _ r2 e1 x1.sat) (fun fl s3 y2k=>o12 y2k fun ρ2 x2 f2=>?_) fun _ _ f=>f.elim
 dsimp only
 induction f
 ·have f2:fl=.next:=f2
  subst f2
  cases hf
  exact(x1.trans x2).post (rfl)
 ·cases hf
 ·cases hf
 ·refine o12 f2 fun x e1q hx=>?_;subst e1q
  cases hf
  exact(x1.trans x2).post hx
theorem TT.known(HF:aw cx F){t:Expr}{o:Out Bool}{b:Bool}(h:F.tst ee t σ=some o)(hb:o.v=b)(ob:o.ob):TT cx ee t σ b o.σ:=hb▸TT.ev HF h ob
end
section
variable{cx:Cx}{K:Frag}{mg mb:Str→Option Value}{T:Tab}{A:Around}{σ σ1 σ2:Hp}{ρ:Ids}{s:Shared}{F:Ev}{O:Orc}{ee:EE}{env:Env}
theorem XX.cmpD{l rt:Expr}{op:CmpOp}{pos:Pos}{a b:V}{q:Bool}(hn:cp [rt]=true)(h1:XX cx ee l σ a σ1)(h2:XX cx ee rt σ1 b σ2)(k: ∀{A:Around} {ρ:Ids} {s:Shared} {x y:Value},aj A ee.d→Sat cx σ2 ρ s.heap→VR σ2.length ρ s.heap a x→VR σ2.length ρ s.heap b y→ak cx A σ2 ρ s (compareOp op x y) σ2 (IsV (.bool q))):
  XX cx ee (.Compare l [op] [rt] pos) σ (.bool q) σ2:=.mk fun A ρ s env r e S=>
 ng hn ((h1.it _ _ _ _ r e S).use fun x ρ1 s1 x1 r1=>wpAny_bind (wpAny_holding ((h2.it _ _ _ _ r (e.ext x1.ext) x1.sat).use fun y ρ2 s2 x2 r2=>wpAny_bind (wpAny_standAt (fv (ak.fin (x1.trans x2) (k r x2.sat (VR.ext x2.ext _ _ r1) r2)))))))
noncomputable def qa (l:List V):Prop:= ∀v∈l,veq v v=some true
theorem je: ∀l:List Nat,l.all (fun _=>true)=true
 | []=>rfl
 | _::l=>je l
theorem lS{A:Around}{n:Nat}{ρ:Ids}{s:Shared}{l:List V}{x y:Value}(hl:qa l)(hu:A.units<cLine)(ha:VR n ρ s.heap (.tup l) x)(hb:VR n ρ s.heap (.tup l) y):PySem.SeqAt.RcAt A s x y true∧PySem.SeqAt.EqAt A s x y true:=
 ha.tupK (P:=fun x=>PySem.SeqAt.RcAt A s x y true∧PySem.SeqAt.EqAt A s x y true) fun a is m g1 _ v1=>hb.tupK (P:=fun y=>PySem.SeqAt.RcAt A s _ y true∧PySem.SeqAt.EqAt A s _ y true) fun b js m2 g2 _ v2=>by
  have l1:=v1.size
  have l2:=v2.size
  have key:=PySem.SeqAt.RcAt.tuples (A:=A) (e:=fun _=>true) ⟨_,g1,rfl,_,rfl⟩ ⟨_,g2,rfl,_,rfl⟩ hu fun j h1 h2=>by
   have:=(kH (v1.get j (l1▸h1) h1) (v2.get j (l2▸h2) h2) (hl _ (DX _))).eq A.in1 s
   rwa[Array.getElem_toList,Array.getElem_toList]at this
  rw[je,show(is.size==js.size)=true from beq_iff_eq.mpr (l1.symm.trans l2)]at key
  by_cases q:a=b
  ·exact⟨key,q▸PySem.SeqAt.EqAt.same _⟩
  ·exact⟨key,PySem.SeqAt.EqAt.of_refs q key⟩
theorem XX.tupEq{l rt:Expr}{pos:Pos}{xs:List V}(hx:qa xs)(hn:cp [rt]=true)(h1:XX cx ee l σ (.tup xs) σ1)(h2:XX cx ee rt σ1 (.tup xs) σ2):XX cx ee (.Compare l [.Eq] [rt] pos) σ (.bool true) σ2:=
 .cmpD hn h1 h2 fun r S ha hb=>(lS hx r.u ha hb).1 _ _ _ _ (ag.bool S _)
theorem XX.listEq{l rt:Expr}{pos:Pos}{i j:Nat}{L:List V}(hL: ∀v∈L,∃l,v=.tup l∧qa l)(hi:σ2[i]?=some (.list L))(hj:σ2[j]?=some (.list L))(hn:cp [rt]=true)(h1:XX cx ee l σ (.ref i) σ1)(h2:XX cx ee rt σ1 (.ref j) σ2):XX cx ee (.Compare l [.Eq] [rt] pos) σ (.bool true) σ2:=
 .cmpD hn h1 h2 fun{A ρ s x y} r S ha hb=>by
  refine rK (ha.2 ..) (rK (hb.2 ..) ?_)
  refine(S.obj _ _ hi).listK fun is k1 g1 v1=>(S.obj _ _ hj).listK fun js k2 g2 v2=>?_
  have l1:=v1.size
  have l2:=v2.size
  have key:=PySem.SeqAt.RcAt.lists (A:=A) (e:=fun _=>true) ⟨_,g1,rfl,_,rfl⟩ ⟨_,g2,rfl,_,rfl⟩ (l1.symm.trans l2) r.u fun j h1 h2=>by
   refine o12 (hL _ (DX (l1▸h1:j<L.length))) fun l e hs=>?_
   have a1:=v1.get j (l1▸h1) h1
   have a2:=v2.get j (l2▸h2) h2
   rw[e]at a1 a2
   have:=(lS (A:=A.in1) hs (DY (F8 (D8 ..) (by decide:1≤50)) r.units) a1 a2).2
   rwa[Array.getElem_toList,Array.getElem_toList]at this
  replace key:=(je ..)▸key
  exact key _ _ _ _ (ag.bool S _)
theorem TT.cmp(H:Ok cx K mg mb T){l rt:Expr}{op:CmpOp}{pos:Pos}{a b:V}{q:Bool}(hn:cp [rt]=true)(h1:XX cx ee l σ a σ1)(h2:XX cx ee rt σ1 b σ2)(hq:zb T σ2 op a b=some q):TT cx ee (.Compare l [op] [rt] pos) σ q σ2:=by
 refine .mk ?_
 intro A ρ s env r e S
 refine rK (arm_isTrue_Compare ..) (rK (co [op] hn ..) ?_)
 refine wpAny_bind ((h1.it _ _ _ _ r e S).use fun x ρ1 s1 x1 r1=>?_)
 show wpAny _ A (holding [x] (eval rt env)>>=fun rv=>standAt pos>>=fun _=>operate [x,rv] (compareOp op x rv)>>=fun c=>holding [c] (truthy c)) _ _ _
 refine wpAny_bind (wpAny_holding ((h2.it _ _ _ _ r (e.ext x1.ext) x1.sat).use fun y ρ2 s2 x2 r2=>wpAny_bind (wpAny_standAt (wpAny_bind (fv ?_)))))
 refine(nh H.B H.C H.F x2.sat r.u (VR.ext x2.ext _ _ r1) r2 hq).use fun z ρ3 s3 x3 r3=>wpAny_holding ?_
 refine rK (kG r3 ..) ?_
 exact wpAny_truthy_bool (((x1.trans x2).trans x3).post rfl)
theorem XX.item(H:Ok cx K mg mb T){o0 i:Expr}{pos:Pos}{a iv:V}{o:Out V}(h1:XX cx ee o0 σ a σ1)(h2:XX cx ee i σ1 iv σ2)(hg:cg T a iv σ2=some o)(ob:o.ob):XX cx ee (.Subscript o0 i pos) σ o.v o.σ:=by
 refine .mk ?_
 intro A ρ s env r e S
 refine rK (arm_eval_Subscript ..) ?_
 refine wpAny_bind ((h1.it _ _ _ _ r e S).use fun x ρ1 s1 x1 r1=>wpAny_bind (wpAny_holding ?_))
 refine(h2.it _ _ _ _ r (e.ext x1.ext) x1.sat).use fun y ρ2 s2 x2 r2=>wpAny_bind (wpAny_standAt ?_)
 have hx:=VR.ext x2.ext _ _ r1
 refine wpAny_bind ((gU H.C x2.sat hx _ hg ob).gip (wpAny_bind (ez ?_)))
 refine o02 (ga (A:=A) H.C x2.sat hx r2 hg ob) fun q1 q2=>?_
 refine q2.use fun z ρ3 s3 x3 r3=>wpAny_bind (wpAny_letTemporaryGo (wpAny_pure ?_))
 refine rK (q1 ..) ?_
 exact((x1.trans x2).trans x3).post r3
end
section
variable{cx:Cx}{A:Around}
noncomputable def dl (a:Int) (n k:Nat):Option V:=match EH k n with
 | true=>some (.int (a+k))
 | false=>none
theorem nL(hh:A.handled=none){J:Addr}{a:Int}{n:Nat}:jA cx A J (· =J) (dl a n) (fun k _ _ h=>k≤n∧IsRangeIter h J (a+k) ((n:Int)-k) 1):=by
 refine⟨fun{k σ ρ s} S hat=>?_,fun{k σ ρ s Q E} hat hq=>wpAny_pyIter_rangeiter hat.2 hq⟩
 obtain⟨hk,hat⟩:=hat
 have side: ∀h',(∀b o,b≠J→s.heap.get? b=some o→h'.get? b=some o)→cH (· =J) s.heap h':=fun h' kk=>cH.of hat rfl (by decide) (by decide) kk
 unfold dl
 induction q:EH k n with
 | true=>
  have hlt:=ED.mp q
  refine wpAny_pyNext_range_item hat (by lia) fun h' h1 h2=>?_
  refine⟨⟨_,rfl,vrI,hlt,?_⟩,side h' fun b o hb e=>(h2.2 b hb).trans e,rfl,rfl⟩
  have e1:a+(k:Int)+1=a+((k+1:Nat):Int):=by lia
  have e2:(n:Int)-k-1=(n:Int)-((k+1:Nat):Int):=by lia
  rw[←e1,←e2];exact h1
 | false=>
  have hnl: ¬k<n:=fun h=>by replace q:=(ED.mpr h ..)▸q;cases q
  refine wpAny_pyNext_range_end hh hat (by lia) fun h' h1=>?_
  exact⟨rfl,side h' fun b o hb e=>h1 b o hb e,rfl,rfl⟩
end
section
variable{cx:Cx}{A:Around}{σ:Hp}{ρ:Ids}{s:Shared}
theorem Sat.openS{h:Heap}(S:Sat cx σ ρ h){k:Nat}{f:Addr}{m r:List Nat}{q:Bool}{ks:List Nat}(hk:σ[k]?=some (.strm f m r q ks)): ∃St,SI St (m.reverse++r) r q∧Sat cx (σ.set k (.dict (cA f St ks))) ρ h:=by
 obtain⟨St,si,ps,h1,h2⟩:=S.obj _ _ hk
 refine⟨St,si,⟨?_,?_,?_,S.keep,fun i o hi=>?_⟩⟩
 ·refine rK (DP ..) ?_;exact S.inj
 ·refine rK (DP ..) ?_;exact S.own
 ·refine rK (DP ..) ?_;exact S.live
 ·refine rK (DP ..) ?_
  replace hi:=(Fd ..)▸hi
  by_cases c:k=i
  ·subst c
   replace hi:=(if_pos (aI hk) ..)▸((if_pos rfl ..)▸hi)
   cases hi
   exact⟨ps,h1,h2⟩
  ·replace hi:=(if_neg c ..)▸hi
   exact S.obj i o hi
theorem Sat.closeS{h:Heap}(S:Sat cx σ ρ h){k:Nat}{f:Addr}{m r:List Nat}{q:Bool}{ks:List Nat}{St:Stm}(hk:σ[k]?=some (.dict (cA f St ks)))(si:SI St (m.reverse++r) r q):Sat cx (σ.set k (.strm f m r q ks)) ρ h:=by
 refine o12 (S.obj _ _ hk) fun ps h1 h2=>?_
 refine⟨?_,?_,?_,S.keep,fun i o hi=>?_⟩
 ·refine rK (DP ..) ?_;exact S.inj
 ·refine rK (DP ..) ?_;exact S.own
 ·refine rK (DP ..) ?_;exact S.live
 ·refine rK (DP ..) ?_
  replace hi:=(Fd ..)▸hi
  by_cases c:k=i
  ·subst c
   replace hi:=(if_pos (aI hk) ..)▸((if_pos rfl ..)▸hi)
   cases hi
   exact⟨St,si,ps,h1,h2⟩
  ·replace hi:=(if_neg c ..)▸hi
   exact S.obj i o hi
theorem Sat.openT{h:Heap}(S:Sat cx σ ρ h){k:Nat}(hk:σ[k]?=some .src): ∃t,t.length≤1000∧Sat cx (σ.set k (.dict (qt t))) ρ h:=by
 obtain⟨t,ht,ps,h1,h2⟩:=S.obj _ _ hk
 refine⟨t,ht,⟨?_,?_,?_,S.keep,fun i o hi=>?_⟩⟩
 ·refine rK (DP ..) ?_;exact S.inj
 ·refine rK (DP ..) ?_;exact S.own
 ·refine rK (DP ..) ?_;exact S.live
 ·refine rK (DP ..) ?_
  replace hi:=(Fd ..)▸hi
  by_cases c:k=i
  ·subst c
   replace hi:=(if_pos (aI hk) ..)▸((if_pos rfl ..)▸hi)
   cases hi
   exact⟨ps,h1,h2⟩
  ·replace hi:=(if_neg c ..)▸hi
   exact S.obj i o hi
theorem Sat.closeT{h:Heap}(S:Sat cx σ ρ h){k:Nat}{t:List Nat}(hk:σ[k]?=some (.dict (qt t)))(ht:t.length≤1000):Sat cx (σ.set k .src) ρ h:=by
 refine o12 (S.obj _ _ hk) fun ps h1 h2=>?_
 refine⟨?_,?_,?_,S.keep,fun i o hi=>?_⟩
 ·refine rK (DP ..) ?_;exact S.inj
 ·refine rK (DP ..) ?_;exact S.own
 ·refine rK (DP ..) ?_;exact S.live
 ·refine rK (DP ..) ?_
  replace hi:=(Fd ..)▸hi
  by_cases c:k=i
  ·subst c
   replace hi:=(if_pos (aI hk) ..)▸((if_pos rfl ..)▸hi)
   cases hi
   exact⟨t,ht,ps,h1,h2⟩
  ·replace hi:=(if_neg c ..)▸hi
   exact S.obj i o hi
theorem ah.openT{x:Value}{xs:List Value}{ks:List (Str×Value)}{σ':Hp}{v:V}{k:Nat}(S:Sat cx σ ρ s.heap)(hk:σ[k]?=some .src)
  (h: ∀t,t.length≤1000→Sat cx (σ.set k (.dict (qt t))) ρ s.heap→ah cx A (σ.set k (.dict (qt t))) ρ s x xs ks σ' v):ah cx A σ ρ s x xs ks σ' v:=by
 refine o12 (S.openT hk) fun t ht S'=>?_
 have:=h t ht S'
 unfold ah ag at this ⊢
 rwa[DP]at this
theorem ah.closeT{x:Value}{xs:List Value}{ks:List (Str×Value)}{σ':Hp}{v:V}{k:Nat}{t:List Nat}(h:ah cx A σ ρ s x xs ks σ' v)(hk:σ'[k]?=some (.dict (qt t)))(ht:t.length≤1000):
  ah cx A σ ρ s x xs ks (σ'.set k .src) v:=
 codeAny_mono h fun rr s' z=>by
  rcases rr with e | (_ | _ | _ | y)
  ·exact z.elim
  ·exact z.elim
  ·exact z.elim
  ·exact z.elim
  ·refine o12 z fun ρ1 x1 r1=>?_
   refine⟨ρ1,⟨x1.sat.closeT hk ht,by refine rK (DP ..) ?_;exact x1.ext,x1.gens,x1.os⟩,by refine rK (DP ..) ?_;exact r1⟩
theorem ah.openS{x:Value}{xs:List Value}{ks:List (Str×Value)}{σ':Hp}{v:V}{k:Nat}{f:Addr}{m r:List Nat}{q:Bool}{js:List Nat}(S:Sat cx σ ρ s.heap)(hk:σ[k]?=some (.strm f m r q js))
  (h: ∀St,SI St (m.reverse++r) r q→Sat cx (σ.set k (.dict (cA f St js))) ρ s.heap→ah cx A (σ.set k (.dict (cA f St js))) ρ s x xs ks σ' v):ah cx A σ ρ s x xs ks σ' v:=by
 refine o12 (S.openS hk) fun St si S'=>?_
 have:=h St si S'
 unfold ah ag at this ⊢
 rwa[DP]at this
theorem ah.closeS{x:Value}{xs:List Value}{ks:List (Str×Value)}{σ':Hp}{v:V}{k:Nat}{f:Addr}{m r:List Nat}{q:Bool}{js:List Nat}{St:Stm}(h:ah cx A σ ρ s x xs ks σ' v)(hk:σ'[k]?=some (.dict (cA f St js)))(si:SI St (m.reverse++r) r q):
  ah cx A σ ρ s x xs ks (σ'.set k (.strm f m r q js)) v:=
 codeAny_mono h fun rr s' z=>by
  rcases rr with e | (_ | _ | _ | y)
  ·exact z.elim
  ·exact z.elim
  ·exact z.elim
  ·exact z.elim
  ·refine o12 z fun ρ1 x1 r1=>?_
   refine⟨ρ1,⟨x1.sat.closeS hk si,by refine rK (DP ..) ?_;exact x1.ext,x1.gens,x1.os⟩,by refine rK (DP ..) ?_;exact r1⟩
end
noncomputable def inv:List Nat→Nat→Nat
 | [],_=>0
 | k::r,i=>match DI k i with
  | true=>0
  | false=>inv r i+1
theorem d7: ∀{ks:List Nat} {i:Nat},aB i ks=true→ks[inv ks i]?=some i
 | [],_,h=>by cases h
 | k::r,i,h=>by
  replace h:(match DI k i with | true=>true | false=>aB i r)=true:=h
  show(k::r)[match DI k i with | true=>0 | false=>inv r i+1]?=_
  induction q:DI k i with
  | true=>exact congrArg some (DK q)
  | false=>
   replace h:=(q ..)▸h
   exact d7 h
mutual
noncomputable def V.inB (ks:List Nat):V→Bool
 | .ref i=>aB i ks
 | .meth _ i=>aB i ks
 | .tup l=>rd ks l
 | .none=>true
 | .bool _=>true
 | .int _=>true
 | .str _=>true
 | .old _=>true
 | .bi _=>true
 | .ty _=>true
noncomputable def rd (ks:List Nat):List V→Bool
 | []=>true
 | v::l=>v.inB ks&&rd ks l
end
noncomputable def rf {κ:Type} (ks:List Nat):List (κ×V)→Bool
 | []=>true
 | (_,v)::l=>v.inB ks&&rf ks l
noncomputable def yK (ks:List Nat):List Nat→Bool
 | []=>true
 | k::l=>aB k ks&&yK ks l
noncomputable def AO.inB (ks:List Nat):AO→Bool
 | .fr m=>rf ks m
 | .cell (some v)=>v.inB ks
 | .cell none=>true
 | .inst _ k=>aB k ks
 | .cinst _ kvs=>rf ks kvs
 | .list xs=>rd ks xs
 | .dict kvs=>rf ks kvs
 | .idict kvs=>rf ks kvs
 | .tupl xs=>rd ks xs
 | .strm _ _ _ _ js=>yK ks js
 | .src=>true
mutual
theorem V.inB_in{ks:List Nat}: ∀{v:V},v.inB ks=true→v.In (Kept ks (inv ks))
 | .ref i,h=>d7 h
 | .meth _ i,h=>d7 h
 | .tup l,h=>fW h
 | .none,_=>trivial
 | .bool _,_=>trivial
 | .int _,_=>trivial
 | .str _,_=>trivial
 | .old _,_=>trivial
 | .bi _,_=>trivial
 | .ty _,_=>trivial
theorem fW{ks:List Nat}: ∀{l:List V},rd ks l=true→dI (Kept ks (inv ks)) l
 | [],_=>trivial
 | v::l,h=>aO h fun q h=>And.intro (V.inB_in q) (fW h)
end
theorem fX{κ:Type}{ks:List Nat}: ∀{l:List (κ×V)},rf ks l=true→InP (Kept ks (inv ks)) l
 | [],_=>trivial
 | (k,v)::l,h=>aO h fun q h=>And.intro (V.inB_in q) (fX h)
theorem pt{ks:List Nat}: ∀{l:List Nat},yK ks l=true→ ∀k∈l,Kept ks (inv ks) k
 | [],_,k,hk=>nomatch hk
 | a::l,h,k,hk=>aO h fun q h=>(D1.mp hk).elim (fun e=>e▸d7 q) (pt h k)
theorem AO.inB_in{ks:List Nat}{o:AO}(h:o.inB ks=true):o.In (Kept ks (inv ks)):=by
 induction o
 case fr m=>exact fX h
 case cell v=>induction v with
  | none=>trivial
  | some v=>exact V.inB_in h
 case inst C k=>exact d7 h
 case cinst C kvs=>exact fX h
 case list xs=>exact fW h
 case dict kvs=>exact fX h
 case idict kvs=>exact fX h
 case tupl xs=>exact fW h
 case strm f m r q js=>exact pt h
 case src=>trivial
noncomputable def cL (fl:List Nat) (σ:Hp) (ks:List Nat):List Nat→Option Hp
 | []=>some []
 | k::r=>σ[k]?.bind fun o=>aD (aB k fl || o.inB ks) ((cL fl σ ks r).bind fun l=>some ((bif aB k fl then o else o.ren (inv ks))::l))
theorem gx{fl:List Nat}{σ:Hp}{ks l:List Nat}: ∀{σs:Hp},cL fl σ ks l=some σs→σs.length=l.length∧ ∀(j i:Nat),l[j]?=some i→ ∃o:AO,σ[i]?=some o∧σs[j]?=some (bif aB i fl then o else o.ren (inv ks))∧(aB i fl || o.inB ks)=true:=by
 induction l with
 | nil=>exact fun h=>okE (P:=fun σs:Hp=>σs.length=0∧_) h ⟨rfl,fun j i q=>noE q⟩
 | cons k l ih=>
  exact fun h=>obK h fun o ho h=>e8 h fun hb h=>obK h fun l' hp h=>okE (P:=fun σs:Hp=>σs.length=(k::l).length∧ ∀(j i:Nat),(k::l)[j]?=some i→ ∃o:AO,σ[i]?=some o∧σs[j]?=some (bif aB i fl then o else o.ren (inv ks))∧(aB i fl || o.inB ks)=true) h
   ⟨congrArg GG (ih hp).1,fun j i q=>by
    induction j with
    | zero=>cases q;exact⟨o,ho,rfl,hb⟩
    | succ j=>exact(ih hp).2 j i q⟩
noncomputable def eV (σ:Hp) (ks l:List Nat):Option Hp:=cL [] σ ks l
noncomputable def nx (o:AO):Prop:=(∀g:Nat→Prop,o.In g)∧ ∀r,o.ren r=o
noncomputable def cY:List Nat→Bool
 | []=>true
 | k::r=>!aB k r&&cY r
theorem gC: ∀{l:List Nat},cY l=true→l.Nodup
 | [],_=>E9
 | k::r,h=>by
  exact aO h fun q h=>Ej.mpr ⟨fun m=>Ec (((Ep _).mp q).symm.trans ((aN k r).trans (decide_eq_true m))),gC h⟩
theorem fO{fl:List Nat}{σ σs:Hp}{ks:List Nat}(hf: ∀(k:Nat) (o:AO),aB k fl=true→σ[k]?=some o→nx o)(h:cL fl σ ks ks=some σs)(hn:cY ks=true):Picked σ ks (inv ks) σs:=
 ⟨(
  gx h).1,gC hn,fun j i q=>((gx h).2 j i q).imp fun o y1k=>o03 y1k fun h1 h2 h3=>by
  induction e:aB i fl with
  | true=>rw[e]at h2;exact⟨h1,((hf i o e h1).2 _).symm▸h2,(hf i o e h1).1 _⟩
  | false=>rw[e]at h2 h3;exact⟨h1,h2,AO.inB_in h3⟩⟩
theorem kY{σ σs:Hp}{ks:List Nat}(h:eV σ ks ks=some σs)(hn:cY ks=true):Picked σ ks (inv ks) σs:=fO (fl:=[]) (fun _ _ e=>Eg (show false=true from e)) h hn
noncomputable def AO.noC:AO→Bool
 | .cinst _ _=>false
 | _=>true
noncomputable def allB (p:AO→Bool):Hp→Bool
 | []=>true
 | o::r=>p o&&allB p r
theorem jf{p:AO→Bool}: ∀{l:Hp},allB p l=true→ ∀o∈l,p o=true
 | [],_,o,h=>nomatch h
 | a::r,h,o,ho=>aO h fun q h=>(D1.mp ho).elim (fun e=>e▸q) (jf h o)
noncomputable def upN (ks:List Nat) (n:Nat) (j:Nat):Nat:=match ks[j]? with
 | some i=>i
 | none=>n+(j-ks.length)
noncomputable def spread (u:Nat→Nat):List Nat→Hp→Hp→Option Hp
 | [],l,σ=>some (σ++l.map (AO.ren u))
 | k::ks,o::l,σ=>spread u ks l (σ.set k (o.ren u))
 | _::_,[],_=>none
structure Spr(u:Nat→Nat)(ks:List Nat)(l σ σ':Hp):Prop where
 len:σ'.length=σ.length+(l.length-ks.length)
 old: ∀i,i<σ.length→i∉ks→σ'[i]?=σ[i]?
 at_: ∀(j i:Nat) (o:AO),ks[j]?=some i→l[j]?=some o→σ'[i]?=some (o.ren u)
 new: ∀j (o:AO),ks.length≤j→l[j]?=some o→σ'[σ.length+(j-ks.length)]?=some (o.ren u)
theorem qu{u:Nat→Nat}{ks:List Nat}: ∀{l σ σ':Hp},spread u ks l σ=some σ'→ks.Nodup→(∀k∈ks,k<σ.length)→Spr u ks l σ σ':=by
 induction ks with
 | nil=>exact fun{l σ σ'} h _ _=>okE (P:=Spr u [] l σ) h ⟨by rw[pm,D4];rfl,fun i hi _=>E8 hi,fun j i o q=>noE q,fun j o _ hj=>by
   rw[EW (D8 ..),EI,FH]
   exact congrArg (Option.map _) hj⟩
 | cons k ks ih=>
  intro l σ σ' h hn hk
  induction l with
  | nil=>exact noE h
  | cons o l=>
   have⟨hn1,hn2⟩:=Ej.mp hn
   have p:=ih h hn2 fun i hi=>(DP ..).symm▸hk i (DJ _ hi)
   have e:(σ.set k (o.ren u)).length=σ.length:=DP ..
   have hkl:=hk k (wj ..)
   refine⟨?_,fun i hi hni=>?_,fun j i o' hj ho=>?_,fun j o' hj ho=>?_⟩
   ·rw[p.len,e,D0,D0,Gp]
   ·rw[p.old i (e.symm▸hi) (fun q=>hni (DJ _ q)),List.getElem?_set_ne (fun q:k=i=>hni (q▸wj ..))]
   ·induction j with
    | zero=>
     cases hj;cases ho
     exact rK (p.old _ (e.symm▸hkl) hn1 ..) (rK (List.getElem?_set_self hkl ..) rfl)
    | succ j=>exact p.at_ j i o' hj ho
   ·induction j with
    | zero=>exact absurd hj (EQ _)
    | succ j=>
     have:=p.new j o' (EK hj) ho
     rw[e]at this
     rw[D0,Gp]
     exact this
theorem jq{σ σs' σ':Hp}{ks:List Nat}(h:spread (upN ks σ.length) ks σs' σ=some σ')(hn:cY ks=true)(hk: ∀k∈ks,k<σ.length)(ht:allB AO.noT σ=true)(hc:allB AO.noC σs'=true):
  Framed σ ks σs' (upN ks σ.length) σ':=by
 obtain⟨p2,p3,p4,p5⟩:=qu h (gC hn) hk
 refine⟨fun j i q=>by unfold upN;rw[q],fun j hj=>?_,p2,fun i hi hni=>⟨p3 i hi hni,fun o ho=>jf ht o (Fa ho)⟩,fun j o ho=>⟨?_,fun C kvs q=>?_⟩⟩
 ·unfold upN
  exact rK (Es.mpr hj ..) rfl
 ·unfold upN
  by_cases c:j<ks.length
  ·rw[DH c]
   exact p4 j _ o (DH c) ho
  ·rw[Es.mpr (D7 c)]
   exact p5 j o (D7 c) ho
 ·have:=jf hc o (Fa ho)
  rw[q]at this;cases this
noncomputable def Told (cx:Cx) (a:Addr) (need:Nat) (small:List V→Hp→Option (Out V)):Prop:=Hid (∀{A:Around} {ρ:Ids} {s:Shared} {args:List V} {xs:List Value} {σs:Hp} {o:Out V} {d:Nat},aj A d→need≤d→Sat cx σs ρ s.heap→
 VRs σs.length ρ s.heap args xs→small args σs=some o→o.ob→ah cx A σs ρ s (.ref a) xs [] o.σ o.v)
noncomputable def v7 {α β:Type} (l:List α) (x:Option β):Option β:=match l with
 | []=>x
 | _::_=>none
theorem Ay{α β:Type}{l:List α}{x:Option (Out β)}{P:β→Hp→Prop}(k:l=[]→Gives x P):Gives (v7 l x) P:=by
 induction l with
 | nil=>exact k rfl
 | cons _ _=>exact bq
noncomputable def sd:V→Option (Nat×Int×List (List Nat)):=fun v=>alt (v.at4 (some (0,0,[])) (fun b=>some (1,cond b 1 0,[])) (fun i=>some (2,i,[])) (fun l=>some (3,0,[l])) none)
 (v.at3 (fun i=>some (4,dV i,[])) (fun i=>some (5,dV i,[])) (fun l=>(strsOf l).map fun x=>(6,0,x)) none)
noncomputable def r9 (x:Nat×Int×List (List Nat)):V:=match x.1 with
 | 0=> .none
 | 1=> .bool (x.2.1==1)
 | 2=> .int x.2.1
 | 3=> .str (x.2.2.headD [])
 | 4=> .ref x.2.1.toNat
 | 5=> .old x.2.1.toNat
 | _=> .tup (x.2.2.map .str)
theorem ij: ∀{l:List V} {x:List (List Nat)},strsOf l=some x→x.map V.str=l
 | [],_,h=>okE (P:=fun x=>x.map V.str=[]) h rfl
 | v::l,x,h=>obK h fun a h1 h=>obK h fun b h2 h=>okE (P:=fun x=>x.map V.str=v::l) h (by exact rK (Em ..) (rK (ij h2 ..) (rK (fz h1 ..) rfl)))
theorem jD{v:V}{x:Nat×Int×List (List Nat)}(h:sd v=some x):r9 x=v:=by
 cases v with
 | tup l=>exact obK (o:=strsOf l) (f:=fun x=>some (6,0,x)) (by induction q:strsOf l<;>(refine FL (h ..) ?_;show _=Option.map _ _;refine rK (q ..) ?_;rfl)) fun a h1 h=>okE (P:=fun x=>r9 x=_) h (congrArg V.tup (ij h1))
 | bool b=>induction b<;>exact okE (P:=fun x=>r9 x=_) h rfl
 | _=>first | exact okE (P:=fun x=>r9 x=_) h rfl | exact noE h
noncomputable def vB (v w:V):Bool:=((sd v).bind fun a=>(sd w).bind fun b=>aD (decide (a=b)) (some ())).isSome
theorem po{α:Type}{o:Option α}{P:Prop}(h:o.isSome=true)(k: ∀a,o=some a→P):P:=by
 induction o with
 | none=>cases h
 | some a=>exact k a rfl
theorem zm{v w:V}(h:vB v w=true):v=w:=
 po h fun _ h=>obK h fun _ h1 h=>obK h fun _ h2 h=>e8 h fun h3 _=>(jD h1).symm.trans ((congrArg r9 (of_decide_eq_true h3)).trans (jD h2))
inductive Pt where
 | s | n | b
 | k (v:V)
noncomputable abbrev Pt.T (p:Pt) (γ:Type):Type:=match p with
 | .s=>List Nat→γ
 | .n=>Nat→γ
 | .b=>Bool→γ
 | .k _=>γ
noncomputable def Pt.F (β:Type):List Pt→Type
 | []=>β
 | p::ps=>p.T (F β ps)
noncomputable def Pt.ap {γ:Type} (v:V):(p:Pt)→p.T γ→Option γ
 | .s,f=>(bc v).bind fun t=>some (f t)
 | .n,f=>(eT v).bind fun t=>some (f t)
 | .b,f=>(v.at4 none some (fun _=>none) (fun _=>none) none).bind fun t=>some (f t)
 | .k w,f=>aD (vB v w) (some f)
noncomputable def Pt.app {β:Type}:(ps:List Pt)→Pt.F β ps→List V→Option β
 | [],f,l=>v7 l (some f)
 | p::ps,f,l=>match l with
  | []=>none
  | v::l=>(Pt.ap v p f).bind fun g=>Pt.app ps g l
noncomputable def Pt.al {γ:Type} (Q:V→γ→Prop):(p:Pt)→p.T γ→Prop
 | .s,f=> ∀t,Q (.str t) (f t)
 | .n,f=> ∀n,Q (.int (.ofNat n)) (f n)
 | .b,f=> ∀t,Q (.bool t) (f t)
 | .k v,f=>Q v f
noncomputable def Pt.All {β:Type}:(ps:List Pt)→Pt.F β ps→(List V→β→Prop)→Prop
 | [],f,Q=>Q [] f
 | p::ps,f,Q=>Pt.al (fun v g=>Pt.All ps g fun l b=>Q (v::l) b) p f
theorem se{v:V}{b:Bool}(e:v.at4 none some (fun _=>none) (fun _=>none) none=some b):v=.bool b:=by
 cases v with
 | bool c=>exact okE (P:=fun b=>V.bool c=.bool b) e rfl
 | _=>exact noE e
theorem Pt.ap_al{γ:Type}{Q:V→γ→Prop}{v:V}{g:γ}:(p:Pt)→{f:p.T γ}→Pt.al Q p f→Pt.ap v p f=some g→Q v g
 | .s,f,h,e=>obK e fun t h1 e=>okE (P:=Q v) e (fz h1▸h t)
 | .n,f,h,e=>obK e fun t h1 e=>okE (P:=Q v) e (lP h1▸h t)
 | .b,f,h,e=>obK e fun t h1 e=>okE (P:=Q v) e (se h1▸h t)
 | .k w,f,h,e=>e8 e fun h1 e=>okE (P:=Q v) e (zm h1▸h)
theorem Pt.app_all{β:Type}{b:β}:(ps:List Pt)→{f:Pt.F β ps}→{l:List V}→{Q:List V→β→Prop}→Pt.All ps f Q→Pt.app ps f l=some b→Q l b
 | [],f,l,Q,h,e=>by
  induction l with
  | nil=>exact okE (P:=Q []) e h
  | cons _ _=>exact noE e
 | p::ps,f,l,Q,h,e=>by
  induction l with
  | nil=>exact noE e
  | cons v l=>exact obK e fun g h1 e=>Pt.app_all ps (Q:=fun l b=>Q (v::l) b) (Pt.ap_al (Q:=fun v g=>Pt.All ps g fun l b=>Q (v::l) b) p h h1) e
noncomputable def fnP (ps:List Pt) (f:Hp→Pt.F (Option (Out V)) ps) (args:List V) (σs:Hp):Option (Out V):=(Pt.app ps (f σs) args).bind id
noncomputable def p9 (cx:Cx) (a:Addr) (need:Nat) (σs:Hp) (args:List V) (o:Option (Out V)):Prop:=
 ∀{A:Around} {ρ:Ids} {s:Shared} {xs:List Value} {d:Nat},aj A (d+need)→Sat cx σs ρ s.heap→VRs σs.length ρ s.heap args xs→Gives o fun v σ'=>ah cx A σs ρ s (.ref a) xs [] σ' v
theorem Told.fn{cx:Cx}{a:Addr}{need:Nat}{ps:List Pt}{f:Hp→Pt.F (Option (Out V)) ps}(k: ∀σs,Pt.All ps (f σs) (p9 cx a need σs)):Told cx a need (fnP ps f):=
 ⟨fun{A ρ s args xs σs o d} r hd S hv e ob=>obK e fun g h1 e=>Pt.app_all (Q:=p9 cx a need σs) ps (k σs) h1 (A:=A) (d:=d-need) ((F6 hd).symm▸r) S hv o e ob⟩
noncomputable def d9 (ps:List Pt) (f:Pt.F (Option (Out V)) ps) (args:List V) (σs:Hp):Option (Out V):=v7 σs ((Pt.app ps f args).bind id)
theorem Told.fn0{cx:Cx}{a:Addr}{need:Nat}{ps:List Pt}{f:Pt.F (Option (Out V)) ps}(k:Pt.All ps f (p9 cx a need [])):Told cx a need (d9 ps f):=
 ⟨fun{A ρ s args xs σs o d} r hd S hv e ob=>by
  induction σs with
  | nil=>exact obK e fun g h1 e=>Pt.app_all (Q:=p9 cx a need []) ps k h1 (A:=A) (d:=d-need) ((F6 hd).symm▸r) S hv o e ob
  | cons _ _=>exact noE e⟩
theorem Told.or{cx:Cx}{a:Addr}{need:Nat}{f g:List V→Hp→Option (Out V)}(h1:Told cx a need f)(h2:Told cx a need g):Told cx a need (fun l σ=>alt (f l σ) (g l σ)):=
 ⟨fun r hd S hv e ob=>dB e (fun e=>h1.it r hd S hv e ob) fun e=>h2.it r hd S hv e ob⟩
noncomputable def lift (need:Nat) (sel:List V→Hp→Option (List Nat)) (small:List V→Hp→Option (Out V)) (d:Nat) (args:List V) (kws:List (Str×V)):M V:=fun σ=>v7 kws (aD (Ex need d) ((sel args σ).bind fun ks=>(eV σ ks ks).bind fun σs=>
 aD (cY ks&&(rd ks args&&allB AO.noT σ)) ((small (dK (inv ks) args) σs).bind fun o=>(spread (upN ks σ.length) ks o.σ σ).bind fun σ'=>aD (allB AO.noC o.σ) (some ⟨o.v.ren (upN ks σ.length),σ',o.obs⟩))))
theorem nY{cx:Cx}{a:Addr}{need:Nat}{sel:List V→Hp→Option (List Nat)}{small:List V→Hp→Option (Out V)}(h:Told cx a need small){A:Around}{σ:Hp}{ρ:Ids}{s:Shared}{d:Nat}{args:List V}{kws:List (Str×V)}{xs:List Value}{ks:List (Str×Value)}
  (r:aj A d) (S:Sat cx σ ρ s.heap) (hv:VRs σ.length ρ s.heap args xs) (hk:PRs σ.length ρ s.heap kws ks):Gives (lift need sel small d args kws σ) fun v σ'=>ah cx A σ ρ s (.ref a) xs ks σ' v:=
 Ay fun e=>au fun hd=>ae fun js _=>ae fun σs h1=>au fun h2=>aO h2 fun h2 h3=>aO h3 fun h3 h4=>ae fun o1 hs=>ae fun σ' h5=>au fun h6=>af fun ob=>by
  have p:=kY h1 h2
  have hk:ks=[]:=(e▸hk:)
  refine rK (hk ..) ?_
  exact ah.frame S p (h.it r (Ef.mp hd) (S.pick p) (p.1▸VRs.pick p.lt args xs hv (fW h3)) hs ob) (jq h5 h2 p.lt h4 h6)
structure Adv where
 tb:Pos→Option Bool:=fun _=>none
 sv:Pos→Option (Hp→Option (Fl×Hp)):=fun _=>none
 xv:Pos→Option (Hp→Option (V×Hp)):=fun _=>none
noncomputable def mkO (cx:Cx) (cl:Addr→Option (Nat→List V→List (Str×V)→M V)) (a:Adv):Orc where
 lp:=fun _ _=>no
 lc:=fun _ _=>no
 cl:=cl
 tb:=a.tb
 sv:=fun ee t=>(a.sv t.pos).bind fun f=>some fun σ=>(f σ).bind fun p=>some ⟨p.1,p.2,[S1 cx ee t σ p.1 p.2]⟩
 xv:=fun ee t=>(a.xv t.pos).bind fun f=>some fun σ=>(f σ).bind fun p=>some ⟨p.1,p.2,[XX cx ee t σ p.1 p.2]⟩
noncomputable def aa (cx:Cx) (cl:Addr→Option (Nat→List V→List (Str×V)→M V)):Prop:=Hid (∀{A:Around} {σ:Hp} {ρ:Ids} {s:Shared} {d:Nat} {a:Addr} {m:Nat→List V→List (Str×V)→M V} {args:List V} {kws:List (Str×V)} {xs:List Value} {ks:List (Str×Value)} {o:Out V},
 aj A d→Sat cx σ ρ s.heap→VRs σ.length ρ s.heap args xs→PRs σ.length ρ s.heap kws ks→cl a=some m→m d args kws σ=some o→o.ob→ah cx A σ ρ s (.ref a) xs ks o.σ o.v)
theorem bk{cx:Cx}{cl:Addr→Option (Nat→List V→List (Str×V)→M V)}(h:aa cx cl)(a:Adv):dC cx (mkO cx cl a) where
 lp:=fun _ _ _ h _=>nomatch h
 lc:=fun _ _ _ h _=>nomatch h
 cl:=fun r S hv hk e1 _ e2 ob=>h.it r S hv hk e1 e2 ob
 sv:=fun{A σ ρ s env ee t m} r e S h1=>by
  refine obK h1 fun f _ h1=>?_
  cases h1
  exact ae fun q _=>af fun ob=>(show S1 cx ee t σ q.1 q.2 from ob).it _ _ _ _ r e S
 xv:=fun{A σ ρ s env ee t m} r e S h1=>by
  refine obK h1 fun f _ h1=>?_
  cases h1
  exact ae fun q _=>af fun ob=>(show XX cx ee t σ q.1 q.2 from ob).it _ _ _ _ r e S
noncomputable def clT (l:List (Addr×(Nat→List V→List (Str×V)→M V))) (a:Addr):Option (Nat→List V→List (Str×V)→M V):=l.lookup a
noncomputable def oz (cx:Cx) (a:Addr) (m:Nat→List V→List (Str×V)→M V):Prop:=Hid (∀{A:Around} {σ:Hp} {ρ:Ids} {s:Shared} {d:Nat} {args:List V} {kws:List (Str×V)} {xs:List Value} {ks:List (Str×Value)} {o:Out V},
 aj A d→Sat cx σ ρ s.heap→VRs σ.length ρ s.heap args xs→PRs σ.length ρ s.heap kws ks→m d args kws σ=some o→o.ob→ah cx A σ ρ s (.ref a) xs ks o.σ o.v)
theorem aa.nil{cx:Cx}:aa cx (clT []):=⟨fun{A σ ρ s d a m args kws xs ks o} _ _ _ _ e _ _=>by cases e⟩
theorem aa.cons{cx:Cx}{a:Addr}{m:Nat→List V→List (Str×V)→M V}{l:List (Addr×(Nat→List V→List (Str×V)→M V))}(h:oz cx a m)(t:aa cx (clT l)):aa cx (clT ((a,m)::l)):=
 ⟨fun{A σ ρ s d b m' args kws xs ks o} r S hv hk e1 e2 ob=>by
  have e1:(match b==a with | true=>some m | false=>l.lookup b)=some m':=e1
  induction q:b==a with
  | true=>rw[q]at e1;exact beq_iff_eq.mp q▸h.it r S hv hk (DZ e1▸e2) ob
  | false=>rw[q]at e1;exact t.it r S hv hk e1 e2 ob⟩
theorem Told.tells{cx:Cx}{a:Addr}{need:Nat}{sel:List V→Hp→Option (List Nat)}{small:List V→Hp→Option (Out V)}(h:Told cx a need small):oz cx a (lift need sel small):=⟨fun r S hv hk e ob=>nY h r S hv hk _ e ob⟩
noncomputable def tokOf (y:Value):Tok:=by
 induction y with
 | int _ t=>exact t
 | str _ t=>exact t
 | _=>exact 0
noncomputable def valOf (t:Tok) (v:V):Option Value:=by
 cases v with
 | none=>exact some .none
 | bool b=>exact some (.bool b)
 | int i=>exact some (.int i t)
 | str l=>exact some (.str ⟨l.toArray⟩ t)
 | old a=>exact some (.ref a)
 | bi f=>exact some (.builtin f.name)
 | ty f=>exact some (.type f.name)
 | _=>exact none
theorem sj{n:Nat}{ρ:Ids}{h:Heap}{t:Tok}{v:V}{y:Value}(e:valOf t v=some y):v.atom=true∧VR n ρ h v y:=by
 cases v with
 | int i=>exact okE (P:=fun y=>V.atom (.int i)=true∧VR n ρ h (.int i) y) e ⟨rfl,_,rfl⟩
 | str l=>exact okE (P:=fun y=>V.atom (.str l)=true∧VR n ρ h (.str l) y) e ⟨rfl,_,rfl⟩
 | ref _=>exact noE e
 | meth _ _=>exact noE e
 | tup _=>exact noE e
 | _=>exact⟨rfl,(DZ e).symm⟩
noncomputable def vEq (v:V) (y:Value):Bool:=match valOf (tokOf y) v with
 | some z=>decide (z=y)
 | none=>false
theorem gn{v:V}{y:Value}(h:vEq v y=true):v.atom=true∧VR 0 zero {} v y:=by
 unfold vEq at h
 induction q:valOf (tokOf y) v with
 | none=>replace h:=(q ..)▸h;cases h
 | some z=>replace h:=(q ..)▸h;exact of_decide_eq_true h▸sj q
noncomputable def vOf (y:Value):Option V:=by
 induction y with
 | none=>exact some .none
 | bool b=>exact some (.bool b)
 | int i _=>exact some (.int i)
 | str s _=>exact some (.str s.cps.toList)
 | ref a=>exact some (.old a)
 | _=>exact none
theorem kI{y:Value}{v:V}(e:vOf y=some v):v.atom=true∧VR 0 zero {} v y:=by
 induction y with
 | none=>exact okE (P:=fun v=>v.atom=true∧VR 0 zero {} v _) e ⟨rfl,rfl⟩
 | bool b=>exact okE (P:=fun v=>v.atom=true∧VR 0 zero {} v _) e ⟨rfl,rfl⟩
 | int i _=>exact okE (P:=fun v=>v.atom=true∧VR 0 zero {} v _) e ⟨rfl,_,rfl⟩
 | str s _=>exact okE (P:=fun v=>v.atom=true∧VR 0 zero {} v _) e ⟨rfl,_,rfl⟩
 | ref a=>exact okE (P:=fun v=>v.atom=true∧VR 0 zero {} v _) e ⟨rfl,rfl⟩
 | _=>exact noE e
noncomputable def xS:List Value→Option (List V)
 | []=>some []
 | y::ys=>(vOf y).bind fun v=>(xS ys).bind fun vs=>some (v::vs)
noncomputable abbrev VsP (vs:List V) (ys:List Value):Prop:=VRs 0 zero {} vs ys∧ ∀v∈vs,v.atom=true
theorem h9: ∀{ys:List Value} {vs:List V},xS ys=some vs→VsP vs ys
 | [],_,h=>okE (P:=fun vs=>VsP vs []) h ⟨rfl,fun v h=>nomatch h⟩
 | y::ys,_,h=>obK h fun v hv h=>obK h fun vs hs h=>okE (P:=fun vs=>VsP vs (y::ys)) h
  ⟨⟨y,ys,rfl,(kI hv).2,(h9 hs).1⟩,fun w hw=>(D1.mp hw).elim (fun e=>e▸(kI hv).1) ((h9 hs).2 w)⟩
theorem qS(l:List Nat):am l l=true:=(fV l l).trans (beq_self_eq_true l)
noncomputable def tyN (v:Value):Option String:=by
 induction v with
 | type s=>exact some s
 | _=>exact none
theorem xX{v:Value}{s:String}(h:tyN v=some s):v=.type s:=by
 induction v with
 | type _=>exact okE (P:=fun s=>_=Value.type s) h rfl
 | _=>exact noE h
noncomputable def zy (d:Data):Option (Array Value×Nat):=by
 induction d with
 | seq a n=>exact some (a,n)
 | _=>exact none
noncomputable def xL (d:Data):Option (Array DictEntry×Nat):=by
 induction d with
 | dict a n=>exact some (a,n)
 | _=>exact none
theorem vq{d:Data}{q}(h:zy d=some q):d=.seq q.1 q.2:=by
 induction d with
 | seq _ _=>exact okE (P:=fun q=>_=Data.seq q.1 q.2) h rfl
 | _=>exact noE h
theorem uo{d:Data}{q}(h:xL d=some q):d=.dict q.1 q.2:=by
 induction d with
 | dict _ _=>exact okE (P:=fun q=>_=Data.dict q.1 q.2) h rfl
 | _=>exact noE h
noncomputable def noO {α:Type}:Option α→Bool
 | none=>true
 | some _=>false
theorem nP{α:Type}: ∀{o:Option α},noO o=true→o=none
 | none,_=>rfl
 | some _,h=>nomatch h
noncomputable def nM {α:Type} (f:Data→Option α) (o:Obj):Option (String×α):=(tyN o.cls).bind fun T=>aD (noO o.dict&&o.slots.isEmpty) ((f o.data).bind fun q=>some (T,q))
theorem jR{α:Type}{f:Data→Option α}{o:Obj}{q:String×α}(h:nM f o=some q):o={cls:=.type q.1,dict:=none,data:=o.data,slots:= #[]}∧f o.data=some q.2:=
 obK h fun T hT h=>e8 h fun hb h=>obK h fun a ha h=>okE (P:=fun q=>o={cls:=.type q.1,dict:=none,data:=o.data,slots:= #[]}∧f o.data=some q.2) h ⟨by
  obtain⟨c,d,dt,sl⟩:=o
  exact aO hb fun h1 h2=>by exact rK (show c=.type T from xX hT) (rK (show d=none from nP h1) (rK (show sl= #[]from Array.isEmpty_iff.mp h2) rfl)),ha⟩
noncomputable def vp (K:Frag) (a:Addr):Option AO:=(K.lookup a).bind fun o=>(nM zy o).bind fun q=>(xS q.2.1.toList).bind fun vs=>if q.1="tuple" then some (.tupl vs)else if q.1="list" then some (.list vs)else none
theorem oM{K:Frag}{a:Addr}{o:AO}(h:vp K a=some o): ∃items n vs,VsP vs items.toList∧((K.lookup a=some (bJ items n)∧o=.tupl vs)∨(K.lookup a=some (bG items n)∧o=.list vs)):=
 obK h fun ob hl h=>obK h fun q hq h=>obK h fun vs hv h=>by
  refine o02 (jR hq) fun e1 e2=>?_
  rw[vq e2]at e1
  refine⟨q.2.1,q.2.2,vs,h9 hv,?_⟩
  by_cases h1:q.1="tuple"
  ·rw[if_pos h1]at h
   rw[h1]at e1
   exact .inl ⟨hl.trans (congrArg some e1),(DZ h).symm⟩
  ·rw[if_neg h1]at h
   by_cases h2:q.1="list"
   ·rw[if_pos h2]at h
    rw[h2]at e1
    exact .inr ⟨hl.trans (congrArg some e1),(DZ h).symm⟩
   ·rw[if_neg h2]at h;exact noE h
theorem vo{cx:Cx}{K:Frag}(X:K.In cx.h₀){a:Addr}{o:AO}(h:vp K a=some o):OR cx 0 zero cx.h₀ a o:=by
 refine o32 (oM h) fun items n vs v q=>?_
 exact q.elim (fun q=>q.2▸⟨items,n,X _ _ q.1,VRs.atoms v.2 v.1⟩) fun q=>q.2▸⟨items,n,X _ _ q.1,VRs.atoms v.2 v.1⟩
noncomputable def oE (v:Value):Option Str:=by
 induction v with
 | str k _=>exact some k
 | _=>exact none
noncomputable def xG (v:Value):Option Int:=by
 induction v with
 | int k _=>exact some k
 | _=>exact none
theorem lW{v:Value}{k:Str}(h:oE v=some k): ∃t,v=.str k t:=by
 induction v with
 | str _ t=>exact okE (P:=fun k=> ∃t,_=Value.str k t) h ⟨_,rfl⟩
 | _=>exact noE h
theorem tQ{v:Value}{k:Int}(h:xG v=some k): ∃t,v=.int k t:=by
 induction v with
 | int _ t=>exact okE (P:=fun k=> ∃t,_=Value.int k t) h ⟨_,rfl⟩
 | _=>exact noE h
noncomputable def pairsOf {κ:Type} (f:Value→Option κ):List DictEntry→Option (List (κ×V))
 | []=>some []
 | e::r=>(f e.key).bind fun k=>(vOf e.val).bind fun v=>(pairsOf f r).bind fun l=>some ((k,v)::l)
noncomputable abbrev kZ:List DictEntry→Option (List (Str×V)):=pairsOf oE
noncomputable abbrev nO:List DictEntry→Option (List (Int×V)):=pairsOf xG
noncomputable def keysOf (es:List DictEntry):List Str:=es.map fun e=>(oE e.key).getD ""
noncomputable def px (w:World) (es:List DictEntry):Prop:=es.map (·.hash)=(keysOf es).map (hashStr w)
noncomputable def pz:List DictEntry→Bool
 | []=>true
 | e::r=>(match e.key with | .int k _=>decide (e.hash=hashInt k) | _=>false)&&pz r
noncomputable def iz:List (Str×V)→Bool
 | []=>true
 | (k,_)::r=>(r.all fun p=>!(p.1==k))&&iz r
noncomputable def lf:List (Int×V)→Bool
 | []=>true
 | (k,_)::r=>(r.all fun p=>!(p.1==k))&&lf r
theorem jW: ∀{l:List (Str×V)},iz l=true→(l.map (·.1)).Nodup
 | [],_=>E9
 | (k,v)::r,h=>aO h fun h1 h2=>Ej.mpr ⟨fun q=>(Fh.mp q).elim fun p e=>(by
  have:=DL.mp h1 p e.1
  replace this:=(show(p.1==k)=true from beq_iff_eq.mpr e.2)▸this;cases this),jW h2⟩
theorem jX: ∀{l:List (Int×V)},lf l=true→(l.map (·.1)).Nodup
 | [],_=>E9
 | (k,v)::r,h=>aO h fun h1 h2=>Ej.mpr ⟨fun q=>(Fh.mp q).elim fun p e=>(by
  have:=DL.mp h1 p e.1
  replace this:=(show(p.1==k)=true from beq_iff_eq.mpr e.2)▸this;cases this),jX h2⟩
noncomputable abbrev cQ {κ:Type} [DecidableEq κ] {prog:Program} {w:World} (kn:PySem.KeyKind prog w κ) (es:List DictEntry) (kvs:List (κ×V)):Prop:=
 (∀e∈es,∃k,kn.is k e.key=true∧e.hash=kn.hash k)∧ ∃ps,PySem.Pairs kn es ps∧PRs 0 zero {} kvs ps∧ps.map (·.1)=kvs.map (·.1)∧ ∀p∈kvs,p.2.atom=true
theorem cQ.cons{κ:Type}[DecidableEq κ]{prog:Program}{w:World}{kn:PySem.KeyKind prog w κ}{e:DictEntry}{es:List DictEntry}{kvs:List (κ×V)}{k:κ}{v:V}(hk:kn.is k e.key=true)(hh:e.hash=kn.hash k)(hv:vOf e.val=some v)(h:cQ kn es kvs):cQ kn (e::es) ((k,v)::kvs):=by
 obtain⟨a1,ps,a2,a3,a4,a5⟩:=h
 exact⟨fun e' he=>(D1.mp he).elim (fun q=>q▸⟨k,hk,hh⟩) (a1 e'),(k,e.val)::ps,.cons hk rfl a2,⟨_,_,rfl,(kI hv).2,a3⟩,congrArg (k:: ·) a4,fun p hp=>(D1.mp hp).elim (fun q=>q▸(kI hv).1) (a5 p)⟩
theorem cQ.nil{κ:Type}[DecidableEq κ]{prog:Program}{w:World}{kn:PySem.KeyKind prog w κ}:cQ kn [] []:=⟨fun e he=>(nomatch he),[],.nil,rfl,rfl,fun p hp=>(nomatch hp)⟩
theorem jT{cx:Cx}: ∀{es:List DictEntry} {kvs:List (Str×V)},kZ es=some kvs→px cx.w es→cQ (strKind cx.prog cx.w) es kvs
 | [],_,h,_=>okE (P:=fun kvs=>cQ (strKind cx.prog cx.w) [] kvs) h .nil
 | e::r,_,h,hh=>obK h fun k hk h=>obK h fun v hv h=>obK h fun l hl h=>okE (P:=fun kvs=>cQ (strKind cx.prog cx.w) (e::r) kvs) h (by
  obtain⟨h1,h2⟩:=E6 hh
  dsimp only at h1
  replace h1:=(hk ..)▸h1
  exact .cons ((lW hk).elim fun t q=>q▸PySem.strKind_is _ _ _ _) h1 hv (jT hl h2))
theorem jU{cx:Cx}: ∀{es:List DictEntry} {kvs:List (Int×V)},nO es=some kvs→pz es=true→cQ (intKind cx.prog cx.w) es kvs
 | [],_,h,_=>okE (P:=fun kvs=>cQ (intKind cx.prog cx.w) [] kvs) h .nil
 | e::r,_,h,hh=>obK h fun k hk h=>obK h fun v hv h=>obK h fun l hl h=>okE (P:=fun kvs=>cQ (intKind cx.prog cx.w) (e::r) kvs) h (aO hh fun h1 h2=>by
  refine o11 (tQ hk) fun t q=>?_
  replace h1:=(q ..)▸h1
  exact .cons (q▸beq_self_eq_true k) (of_decide_eq_true h1) hv (jU hl h2))
theorem PRs.atoms{κ:Type}{n ρ h n' ρ' h'}: ∀{vs:List (κ×V)} {ys:List (κ×Value)},(∀p∈vs,p.2.atom=true)→PRs n ρ h vs ys→PRs n' ρ' h' vs ys
 | [],_,_,e=>e
 | (k,v)::vs,_,a,e=>e.k1 (P:=PRs n' ρ' h' ((k,v)::vs)) fun y ys h1 h2=>⟨y,ys,rfl,VR.atom (a (k,v) wj) h1,PRs.atoms (fun w hw=>a w (DJ _ hw)) h2⟩
noncomputable def bW (K:Frag) (a:Addr):Option (List DictEntry):=(K.lookup a).bind fun o=>(nM xL o).bind fun q=>if q.1="dict" then some q.2.1.toList else none
theorem cV{K:Frag}{a:Addr}{es:List DictEntry}(h:bW K a=some es): ∃o ep,K.lookup a=some o∧o.ExactDict∧o.data=.dict es.toArray ep:=
 obK h fun ob hl h=>obK h fun q hq h=>by
  obtain⟨e1,e2⟩:=jR hq
  by_cases h1:q.1="dict"
  ·rw[if_pos h1]at h
   rw[h1]at e1
   exact okE (P:=fun es=> ∃o ep,K.lookup a=some o∧o.ExactDict∧o.data=.dict es.toArray ep) h ⟨ob,q.2.2,hl,by rw[e1];exact⟨rfl,rfl,rfl⟩,(uo e2).trans (by rw[Array.toArray_toList])⟩
  ·rw[if_neg h1]at h;exact noE h
theorem m7{cx:Cx}{K:Frag}(X:K.In cx.h₀){a:Addr}{es:List DictEntry}{kvs:List (Str×V)}(h:bW K a=some es)(hp:kZ es=some kvs)(hh:px cx.w es)(hn:iz kvs=true):OR cx 0 zero cx.h₀ a (.dict kvs):=by
 refine o23 (cV h) fun o ep h1 h2 h3=>?_
 obtain⟨a1,ps,a2,a3,a4,a5⟩:=jT (cx:=cx) hp hh
 exact⟨ps,⟨o,_,ep,X _ _ h1,h2,h3,fun e he=>a1 e (FR.mp he),a2,by refine rK (a4 ..) ?_;exact jW hn⟩,PRs.atoms a5 a3⟩
theorem rg{cx:Cx}{K:Frag}(X:K.In cx.h₀){a:Addr}{es:List DictEntry}{kvs:List (Int×V)}(h:bW K a=some es)(hp:nO es=some kvs)(hh:pz es=true)(hn:lf kvs=true):OR cx 0 zero cx.h₀ a (.idict kvs):=by
 refine o23 (cV h) fun o ep h1 h2 h3=>?_
 obtain⟨a1,ps,a2,a3,a4,a5⟩:=jU (cx:=cx) hp hh
 exact⟨ps,⟨o,_,ep,X _ _ h1,h2,h3,fun e he=>a1 e (FR.mp he),a2,by refine rK (a4 ..) ?_;exact jX hn⟩,PRs.atoms a5 a3⟩
theorem rF{cx:Cx}{K:Frag}(X:K.In cx.h₀){a C d:Addr}{es:List DictEntry}{kvs:List (Str×V)}(ha:K.lookup a=some (instObj C d))(h:bW K d=some es)(hp:kZ es=some kvs)(hh:px cx.w es)(hn:iz kvs=true):OR cx 0 zero cx.h₀ a (.cinst C kvs):=by
 refine o23 (cV h) fun o ep h1 h2 h3=>?_
 refine o12 (m7 X h hp hh hn) fun ps b1 b2=>?_
 exact⟨d,ps,X _ _ ha,b1,b2,fun j hj=>absurd hj (Eo _),o,X _ _ h1⟩
noncomputable def globB (es:Array DictEntry) (x:Str) (v:V):Bool:=match nsFind es x with
 | some y=>vEq v y
 | none=>match bootBuiltins x with
  | some y=>!(x==("__name__":Str))&&vEq v y
  | none=>false
noncomputable def iM (es:Array DictEntry):List (Str×V)→Bool
 | []=>true
 | (x,v)::r=>globB es x v&&iM es r
theorem iL{es:Array DictEntry}: ∀{l:List (Str×V)},iM es l=true→ ∀p∈l,globB es p.1 p.2=true
 | (x,v)::r,h,p,hp=>aO h fun h1 h2=>(D1.mp hp).elim (fun e=>e▸h1) (iL h2 p)
theorem ke{T:Tab}{K:Frag}{h:Heap}{mg mb:Str→Option Value}(X:K.In h)(G:h.Ns mainGlobals mg)(hb: ∀x:Str,x≠"__name__"→mb x=bootBuiltins x){es:List DictEntry}(he:bW K mainGlobals=some es)(hg:iM es.toArray T.glob=true):lK T mg mb:=by
 intro x v hx
 refine o23 (cV he) fun o ep h1 _ h3=>?_
 refine o34 G fun o' es' ep' g1 g2 _ g4=>?_
 obtain rfl:=DZ ((X _ _ h1).symm.trans g1)
 refine o02 (Data.dict.inj (h3.symm.trans g2)) fun e0q _=>?_;subst e0q
 have hm:=iL hg _ (lookup_mem hx)
 unfold globB at hm
 induction hy:nsFind es.toArray x with
 | some y=>replace hm:=(hy ..)▸hm;exact⟨(gn hm).1,y,(gn hm).2,.inl ((g4 x).symm.trans hy)⟩
 | none=>
  replace hm:=(hy ..)▸hm
  induction hz:bootBuiltins x with
  | some y=>
   replace hm:=(hz ..)▸hm
   exact aO hm fun m1 m2=>⟨(gn m2).1,y,(gn m2).2,.inr ⟨(g4 x).symm.trans hy,(hb x fun e=>by replace m1:=(e ..)▸m1;cases m1).trans hz⟩⟩
  | none=>replace hm:=(hz ..)▸hm;cases hm
noncomputable def xl:Option AO→Option (List V)
 | some (.tupl vs)=>some vs
 | _=>none
theorem sn{o:Option AO}{xs:List V}(h:xl o=some xs):o=some (.tupl xs):=by
 induction o with
 | none=>exact noE h
 | some o=>induction o<;>first | exact noE h | exact okE (P:=fun ys=>_=some (AO.tupl ys)) h rfl
noncomputable def pp (v:Value):Bool:=by
 induction v with
 | none=>exact true
 | _=>exact false
noncomputable def sM (v:Value):Option Addr:=by
 induction v with
 | ref a=>exact some a
 | _=>exact none
theorem md{v:Value}{a:Addr}(h:sM v=some a):v=.ref a:=by
 induction v with
 | ref _=>exact okE (P:=fun a=>_=Value.ref a) h rfl
 | _=>exact noE h
theorem n1{v:Value}(h:pp v=true):v=.none:=by
 induction v with
 | none=>rfl
 | _=>cases h
noncomputable def AI (K:Frag) (v:Value):Option (List V):=alt (aD (pp v) (some [])) ((sM v).bind fun t=>xl (vp K t))
noncomputable def xI (d:Data):Option FuncData:=by
 induction d with
 | func f=>exact some f
 | _=>exact none
noncomputable def pG (d:Data):Option (Array Value):=by
 induction d with
 | fields f=>exact some f
 | _=>exact none
theorem t7{d:Data}{q}(h:xI d=some q):d=.func q:=by
 induction d with
 | func _=>exact okE (P:=fun q=>_=Data.func q) h rfl
 | _=>exact noE h
theorem n8{d:Data}{q}(h:pG d=some q):d=.fields q:=by
 induction d with
 | fields _=>exact okE (P:=fun q=>_=Data.fields q) h rfl
 | _=>exact noE h
noncomputable def sD:FuncBody→Option (List Stmt)
 | .stmts b=>some b
 | .expr _=>none
theorem qp{b:FuncBody}{q}(h:sD b=some q):b=.stmts q:=by
 induction b with
 | stmts _=>exact okE (P:=fun q=>_=FuncBody.stmts q) h rfl
 | expr _=>exact noE h
noncomputable def fdK (K:Frag) (a:Addr):Option FuncData:=(K.lookup a).bind fun o=>xI o.data
noncomputable def fnO (K:Frag) (fd:FuncData):Option Fn:=(sD fd.body).bind fun b=>(AI K fd.defaults).bind fun dv=>some ⟨fd.params.args.map (·.arg),dv,b,fd.scope⟩
noncomputable def fnK (K:Frag) (a:Addr):Fn:=match(fdK K a).bind (fnO K)with
 | some f=>f
 | none=>⟨[],[],[],default⟩
noncomputable def xO (K:Frag) (cd:Value):Option Str:=(sM cd).bind fun c=>(K.lookup c).bind fun o=>(pG o.data).bind fun vs=>(vs[1]?).bind oE
noncomputable def codeB (K:Frag) (cd:Value) (q:Str):Bool:=match xO K cd with
 | some q'=>decide (q'=q)
 | none=>false
noncomputable def lb:List Str→Bool
 | []=>true
 | k::r=>(r.all fun p=>!(p==k))&&lb r
theorem gB: ∀{l:List Str},lb l=true→l.Nodup
 | [],_=>E9
 | k::r,h=>aO h fun h1 h2=>Ej.mpr ⟨fun q=>(by
  have:=DL.mp h1 k q
  rw[beq_self_eq_true]at this;cases this),gB h2⟩
noncomputable def tP:Option NameKind→Bool
 | none=>false
 | some k=>match k with
  | .cell=>true
  | _=>false
noncomputable def xE (o:Option NameKind):Bool:=tP o || match o with
 | none=>false
 | some k=>match k with
  | .local=>true
  | _=>false
theorem tO{o:Option NameKind}(h:tP o=true):o=some .cell:=by
 induction o with
 | none=>cases h
 | some k=>induction k<;>first | rfl | cases h
theorem tM{o:Option NameKind}(h:xE o=true):o=some .local∨o=some .cell:=by
 induction o with
 | none=>cases h
 | some k=>induction k<;>first | exact .inl rfl | exact .inr rfl | cases h
noncomputable def xF:ScopeKind→Bool
 | .function=>true
 | _=>false
theorem tN{k:ScopeKind}(h:xF k=true):k=.function:=by
 induction k<;>first | rfl | cases h
noncomputable def xy (p:Arguments):Bool:=noL p.posonlyargs&&(noO p.vararg&&(noL p.kwonlyargs&&(noL p.kw_defaults&&noO p.kwarg)))
theorem nQ{α:Type}{l:List α}(h:noL l=true):l=[]:=by
 induction l with
 | nil=>rfl
 | cons _ _=>cases h
theorem sV{p:Arguments}(h:xy p=true):p=⟨[],p.args,none,[],[],none,p.defaults⟩:=by
 obtain⟨a,b,c,d,e,f,g⟩:=p
 exact aO h fun h1 h=>aO h fun h2 h=>aO h fun h3 h=>aO h fun h4 h5=>by exact rK (show a=[]from nQ h1) (rK (show c=none from nP h2) (rK (show d=[]from nQ h3) (rK (show e=[]from nQ h4) (rK (show f=none from nP h5) rfl))))
noncomputable def fnC (K:Frag) (fd:FuncData) (fn:Fn):Bool:=xy fd.params&&(DI fd.globals mainGlobals&&(DI fd.builtins builtinsNs&&(fd.closure.isEmpty&&(codeB K fd.code fd.qualname&&(xF fn.scope.kind&&(lb fn.pars&&(Ex fn.dfl.length fn.pars.length
 &&(lb (aU fn.scope.names)&&((aU fn.scope.names).all (fun x=>tP (fn.scope.names.lookup x))&&(fn.pars.all (fun x=>xE (fn.scope.names.lookup x))&&!fn.scope.isCoroutine))))))))))
noncomputable def fnB (K:Frag) (a:Addr):Bool:=match fdK K a with
 | some fd=>(match fnO K fd with
  | some fn=>fnC K fd fn
  | none=>false)
 | none=>false
noncomputable def wz (K:Frag) (a:Addr):Bool:=match fdK K a with
 | some fd=>fd.scope.isGenerator
 | none=>false
theorem uz{cx:Cx}{K:Frag}(X:K.In cx.h₀){cd:Value}{q:Str}(h:codeB K cd q=true):cx.h₀.CodeRec cd q:=by
 unfold codeB at h
 induction e:xO K cd with
 | none=>replace h:=(e ..)▸h;cases h
 | some q'=>
  replace h:=(e ..)▸h
  exact obK e fun c hc e=>obK e fun o ho e=>obK e fun vs hv e=>obK e fun v h1 e=>(lW e).elim fun t q=>⟨c,o,vs,t,md hc,X _ _ ho,n8 hv,h1.trans (congrArg some (q.trans (of_decide_eq_true h▸rfl)))⟩
theorem wM{cx:Cx}{K:Frag}(X:K.In cx.h₀){v:Value}{l:List V}(h:AI K v=some l):(v=.none∧l=[])∨ ∃t items n,v=.ref t∧cx.h₀.get? t=some (bJ items n)∧VRs 0 zero {} l items.toList∧(∀v∈l,v.atom=true):=
 dB h (fun h=>e8 h fun h1 h2=> .inl ⟨n1 h1,(DZ h2).symm⟩) fun h=>obK h fun t ht h=>by
  refine o32 (oM (sn h)) fun items n vs v q=>?_
  rcases q with⟨q1,q2⟩ | ⟨_,q2⟩
  ·cases q2;exact .inr ⟨t,items,n,md ht,X _ _ q1,v.1,v.2⟩
  ·cases q2
theorem ub{cx:Cx}{K:Frag}(X:K.In cx.h₀){a:Addr}(h:fnB K a=true): ∃o fd,FnAt cx a (fnK K a) o fd∧(fnK K a).scope.isCoroutine=false∧wz K a=(fnK K a).scope.isGenerator:=by
 unfold fnB at h
 unfold fnK wz
 induction e1:fdK K a with
 | none=>replace h:=(e1 ..)▸h;cases h
 | some fd=>
  replace h:=(e1 ..)▸h
  dsimp only at h
  induction e2:fnO K fd with
  | none=>replace h:=(e2 ..)▸h;cases h
  | some fn=>
   replace h:=(e2 ..)▸h
   refine rK (Fe ..) (rK (e2 ..) ?_)
   exact obK e1 fun o hl hf=>obK e2 fun b hb e2=>obK e2 fun dv hd e2=>okE (P:=fun fn=>fnC K fd fn=true→ ∃o fd',FnAt cx a fn o fd'∧fn.scope.isCoroutine=false∧fd.scope.isGenerator=fn.scope.isGenerator) e2 (fun h=>
    aO h fun q0 h=>aO h fun q1 h=>aO h fun q2 h=>aO h fun q3 h=>aO h fun q4 h=>aO h fun q5 h=>aO h fun q6 h=>aO h fun q7 h=>aO h fun q8 h=>aO h fun q9 h=>aO h fun q10 q11=>
     ⟨o,fd,⟨X _ _ hl,t7 hf,rfl,qp hb,DK q1,DK q2,List.isEmpty_iff.mp q3,uz X q4,⟨fd.params.args,fd.params.defaults,sV q0,rfl⟩,wM X hd,tN q5,gB q6,Ef.mp q7,gB q8,fun x hx=>tO (DL.mp q9 x hx),fun x hx=>tM (DL.mp q10 x hx)⟩,(Ep _).mp q11,rfl⟩) h
noncomputable def wC (K:Frag):List Addr→Bool
 | []=>true
 | a::r=>fnB K a&&!(wz K a)&&wC K r
theorem nX{K:Frag}{l:List Addr}{a:Addr}{fn:Fn}(h:(l.map fun a=>(a,fnK K a)).lookup a=some fn):a∈l∧fn=fnK K a:=by
 refine o12 (Fh.mp (lookup_mem h)) fun b hb e=>?_
 refine o02 (Prod.mk.inj e) fun e0q e1q=>?_;subst e0q;subst e1q
 exact⟨hb,rfl⟩
theorem mW{K:Frag}: ∀{l:List Addr},wC K l=true→ ∀a∈l,fnB K a=true∧wz K a=false
 | b::l,h,a,ha=>aO h fun h h2=>aO h fun h1 h3=>(D1.mp ha).elim (fun e=>e▸⟨h1,(Ep _).mp h3⟩) (mW h2 a)
theorem yO{cx:Cx}{K:Frag}(X:K.In cx.h₀){l:List Addr}(h:wC K l=true): ∀a fn,(l.map fun a=>(a,fnK K a)).lookup a=some fn→ ∃o fd,rS cx a fn o fd:=by
 intro a fn hl
 refine o02 (nX hl) fun h1 e1q=>?_;subst e1q
 refine o02 (mW h a h1) fun h2 h3=>?_
 refine o23 (ub X h2) fun o fd k c g=>?_
 exact⟨o,fd,k,g.symm.trans h3,c⟩
noncomputable def xB (K:Frag) (C:Addr) (p:Str×Addr):Bool:=
 decide (findIn K (.ref C) p.1=some (some (.ref p.2)))&&decide (typeIn K (.ref p.2)=some (.type "function"))&&decide (specialIn K (.ref p.2) "__get__"=some (some (.builtin "function.__get__")))&&decide (takesIn K (.ref p.2)=some false)&&!(copiedNames.contains p.1)
noncomputable def yP (K:Frag) (C:Addr) (x:Str):Bool:=match findIn K (.ref C) x with
 | some attr=>noGet K attr&&decide (takerIn K C x=some none)&&attr.all (fun a=>(typeIn K a).any fun t=>t !=.type "function"&&t !=.type "method_descriptor"&&t !=.type "wrapper_descriptor")
 | none=>false
noncomputable def xU (K:Frag) (C:Addr) (p:Str×V):Bool:=match findIn K (.ref C) p.1 with
 | some (some y)=>vEq p.2 y&&decide (specialIn K y "__get__"=some none)&&handedIn y&&!(copiedNames.contains p.1)
 | _=>false
noncomputable def C1 (K:Frag) (C:Addr):Option Addr→Bool
 | none=>true
 | some f=>makesIn K C&&decide (findIn K (.ref C) "__init__"=some (some (.ref f)))&&decide (typeIn K (.ref f)=some (.type "function"))
noncomputable def A7 (K:Frag) (C:Addr) (cl:Cl):Bool:=
 plainGet K C ""&&hasDictIn K C&&plainOver K C&&decide (findIn K (.ref C) "__setattr__"=some (some (.builtin "object.__setattr__")))&&cl.meths.all (xB K C)&&cl.vals.all (xU K C)&&cl.flds.all (yP K C)&&C1 K C cl.init&&keepIn K (.ref C)
theorem te{K:Frag}{C:Addr}{p:Str×Addr}(h:xB K C p=true):findIn K (.ref C) p.1=some (some (.ref p.2))∧typeIn K (.ref p.2)=some (.type "function")∧specialIn K (.ref p.2) "__get__"=some (some (.builtin "function.__get__"))∧takesIn K (.ref p.2)=some false∧copiedNames.contains p.1=false:=
 aO h fun h a5=>aO h fun h a4=>aO h fun h a3=>aO h fun a1 a2=>⟨of_decide_eq_true a1,of_decide_eq_true a2,of_decide_eq_true a3,of_decide_eq_true a4,(Ep _).mp a5⟩
theorem u8{K:Frag}{C:Addr}{p:Str×V}(h:xU K C p=true): ∃y,findIn K (.ref C) p.1=some (some y)∧VR 0 zero {} p.2 y∧p.2.atom=true∧specialIn K y "__get__"=some none∧handedIn y=true∧copiedNames.contains p.1=false:=by
 unfold xU at h
 induction e:findIn K (.ref C) p.1 with
 | none=>replace h:=(e ..)▸h;cases h
 | some o=>induction o with
  | none=>replace h:=(e ..)▸h;cases h
  | some y=>
   replace h:=(e ..)▸h
   exact aO h fun h a4=>aO h fun h a3=>aO h fun a1 a2=>⟨y,rfl,(gn a1).2,(gn a1).1,of_decide_eq_true a2,a3,(Ep _).mp a4⟩
theorem wD{K:Frag}{C:Addr}{x:Str}(h:yP K C x=true): ∃attr,findIn K (.ref C) x=some attr∧noGet K attr=true∧takerIn K C x=some none∧
  attr.all (fun a=>(typeIn K a).any fun t=>t !=.type "function"&&t !=.type "method_descriptor"&&t !=.type "wrapper_descriptor")=true:=by
 unfold yP at h
 induction e:findIn K (.ref C) x with
 | none=>rw[e]at h;cases h
 | some o=>
  rw[e]at h
  exact aO h fun h a3=>aO h fun a1 a2=>⟨o,rfl,a1,of_decide_eq_true a2,a3⟩
theorem w7{K:Frag}{C:Addr}{cl:Cl}(h:A7 K C cl=true):e9 K C cl∧keepIn K (.ref C)=true:=
 aO h fun h q9=>aO h fun h q8=>aO h fun h q7=>aO h fun h q6=>aO h fun h q5=>aO h fun h q4=>aO h fun h q3=>aO h fun q1 q2=>
  ⟨⟨q1,q2,q3,of_decide_eq_true q4,fun p hp=>te (DL.mp q5 p hp),fun p hp=>u8 (DL.mp q6 p hp),fun x hx=>wD (DL.mp q7 x hx),fun f hf=>by
   rw[hf]at q8
   exact aO q8 fun h a3=>aO h fun a1 a2=>⟨a1,of_decide_eq_true a2,of_decide_eq_true a3⟩⟩,q9⟩
noncomputable def uE (K:Frag):List (Addr×Cl)→Bool
 | []=>true
 | (C,cl)::r=>A7 K C cl&&uE K r
theorem i4{K:Frag}: ∀{l:List (Addr×Cl)},uE K l=true→ ∀C cl,l.lookup C=some cl→e9 K C cl∧keepIn K (.ref C)=true
 | (D,c)::r,h,C,cl,hl=>aO h fun h1 h2=>by
  rw[DW]at hl
  induction q:C==D with
  | true=>rw[q]at hl;exact okE (P:=fun cl=>e9 K C cl∧keepIn K (.ref C)=true) hl (beq_iff_eq.mp q▸w7 h1)
  | false=>rw[q]at hl;exact i4 h2 C cl hl
noncomputable def g1:List (Str×V):=[(("EOF":Str),V.none),(("spaceCharacters":Str),V.old 22),(("asciiLetters":Str),V.old 27),(("digits":Str),V.old 32),(("hexDigits":Str),V.old 37),(("asciiLower":Str),V.old 42),(("entities":Str),V.old 43),(("replacementCharacters":Str),V.old 46),(("tokenTypes":Str),V.old 48),(("tagTokenTypes":Str),V.old 49),(("Text":Str),V.old 73),(("_is_invalid":Str),V.old 84),(("HTMLUnicodeInputStream":Str),V.old 166),(("bisect_left":Str),V.old 178),(("Trie":Str),V.old 230),(("entitiesTrie":Str),V.old 236),(("HTMLTokenizer":Str),V.old 762),(("_law_PIECES":Str),V.old 767),(("_law_BLANKS":Str),V.str [9,10,12,32]),(("_law_NAMES":Str),V.old 774),(("_law_WORDS":Str),V.old 781),(("_law_OLD":Str),V.str [8364,129,8218,402,8222,8230,8224,8225,710,8240,352,8249,338,141,381,143,144,8216,8217,8220,8221,8226,8211,8212,732,8482,353,8250,339,157,382,376]),(("_law_mended":Str),V.old 786),(("_law_last":Str),V.old 793),(("_law_till":Str),V.old 800),(("_law_past":Str),V.old 807),(("_law_shared":Str),V.old 814),(("_law_worth":Str),V.old 821),(("_law_sign":Str),V.old 828),(("_law_numbered":Str),V.old 835),(("_law_named":Str),V.old 840),(("_law_reference":Str),V.old 847),(("_law_row":Str),V.old 852),(("len":Str),V.bi .len),(("ord":Str),V.bi .ord),(("chr":Str),V.bi .chr),(("max":Str),V.bi .max),(("int":Str),V.ty .int),(("KeyError":Str),V.ty .keyError),(("range":Str),V.ty .range),(("enumerate":Str),V.ty .enumerate)]
noncomputable def f1:List Addr:=[63,70,84,98,105,112,119,126,133,141,148,156,163,178,220,227,199,261,275,283,304,311,774,781,786,793,800,807,814,821,828,835,840,847,852,857]
noncomputable def uH:Cl:=⟨[("has_keys_with_prefix",220),("longest_prefix",227),("__contains__",199)],[],["_data","_keys","_cachestr","_cachepoints"],none⟩
noncomputable def uG:Cl:=⟨[("__init__",261),("consumeNumberEntity",275),("consumeEntity",283),("dataState",304),("entityDataState",311),("tagOpenState",353),("__iter__",268)],[],["stream","parser","escapeFlag","lastFourChars","state","escape","currentToken","tokenQueue"],some 261⟩
noncomputable def c1:List (Addr×Cl):=[(73,⟨[("__init__",63),("read",70)],[],["text","place"],some 63⟩),
 (166,⟨[("__init__",98),("reset",105),("openStream",112),("_position",119),("position",126),("char",133),("readChunk",141),("characterErrorsUCS4",148),("charsUntil",156),("unget",163)],[("_defaultChunkSize",.int 10240)],["reportCharacterErrors","newLines","dataStream","chunk","chunkSize","chunkOffset","errors","prevNumLines","prevNumCols","_bufferedCharacter"],some 98⟩),
 (230,uH),
 (762,uG)]
noncomputable def dP (i:Nat):Stmt:=PySem.Challenge.pw_te0038_01.main.body.getD i default
noncomputable def exP:Expr→List Expr×Str×Nat×Scope
 | .Call f as _ _=>(f::as,default,0,default)
 | .Attribute o x _=>([o],x,0,default)
 | .Subscript o i _=>([o,i],default,0,default)
 | .Compare l _ rs _=>(l::rs,default,0,default)
 | .Tuple es q _=>(es,default,q,default)
 | .BoolOp _ a _=>(a,default,0,default)
 | .Yield o _=>(o.toList,default,0,default)
 | .ListComp e gs s _=>(e::(gs.map (·.target)++(gs.map (·.iter)++gs.flatMap (·.ifs))),default,0,s)
 | .Slice _ u _ _=>(u.toList,default,0,default)
 | .Name x _=>([],x,0,default)
 | .Constant _ k _=>([],default,k,default)
 | _=>([],default,0,default)
noncomputable def exC (e:Expr):List Expr:=(exP e).1
noncomputable def exN (e:Expr):Str:=(exP e).2.1
noncomputable def exM (e:Expr):Nat:=(exP e).2.2.1
noncomputable def lcS (e:Expr):Scope:=(exP e).2.2.2
noncomputable def stP:Stmt→List Expr×List (List Stmt)×List Str×Scope×List ExceptHandler
 | .Assign ts e _=>(e::ts,[],[],default,[])
 | .If t a b _=>([t],[a,b],[],default,[])
 | .While t b _ _=>([t],[b],[],default,[])
 | .For t i b _ _=>([t,i],[b],[],default,[])
 | .Expr e _=>([e],[],[],default,[])
 | .Return o _=>(o.toList,[],[],default,[])
 | .Raise o _ _=>(o.toList,[],[],default,[])
 | .AugAssign _ _ e _=>([e],[],[],default,[])
 | .Try b hs _ _ _=>([],[b],[],default,hs)
 | .ClassDef _ _ _ b _ _ _ _ _ _ _=>([],[b],[],default,[])
 | .FunctionDef _ a b _ _ _ sc _ _ _=>([],[b],a.args.map (·.arg),sc,[])
 | _=>([],[],[],default,[])
noncomputable def stC (s:Stmt):List Expr:=(stP s).1
noncomputable def stK (s:Stmt):List (List Stmt):=(stP s).2.1
noncomputable def exD (e:Expr):List Expr:=(exC e).drop 3
noncomputable def exA (i:Nat) (e:Expr):Expr:=(exC e).getD i default
noncomputable def qA (e:Expr):Expr:=exA 0 e
noncomputable def qB (e:Expr):Expr:=exA 1 e
noncomputable def qC (e:Expr):Expr:=exA 2 e
noncomputable def qL (e:Expr):List Expr:=(exC e).tail
noncomputable def qI (i:Nat) (e:Expr):Expr:=(qL e).getD i default
noncomputable def sA (s:Stmt):Expr:=(stC s).getD 0 default
noncomputable def sB (s:Stmt):Expr:=(stC s).getD 1 default
noncomputable def bL (s:Stmt):List Stmt:=(stK s).getD 0 []
noncomputable def bM (s:Stmt):List Stmt:=(stK s).getD 1 []
noncomputable def c5 (i j:Nat):Stmt:=(bL (dP i)).getD j default
noncomputable def fnS (d:List V) (s:Stmt):Fn:=⟨(stP s).2.2.1,d,(stK s).getD 0 [],(stP s).2.2.2.1⟩
noncomputable def fnN (a:Addr):Fn:=match a with
 | 63=>fnS [] (c5 13 0)
 | 70=>fnS [] (c5 13 1)
 | 84=>fnS [] (dP 14)
 | 98=>fnS [] (c5 15 1)
 | 105=>fnS [] (c5 15 2)
 | 112=>fnS [] (c5 15 3)
 | 119=>fnS [] (c5 15 4)
 | 126=>fnS [] (c5 15 5)
 | 133=>fnS [] (c5 15 6)
 | 141=>fnS [.none] (c5 15 7)
 | 148=>fnS [] (c5 15 8)
 | 156=>fnS [.bool false] (c5 15 9)
 | 163=>fnS [] (c5 15 10)
 | 178=>fnS [.int 0,.none] (dP 17)
 | 199=>fnS [] (c5 18 1)
 | 220=>fnS [] (c5 18 4)
 | 227=>fnS [] (c5 18 5)
 | 261=>fnS [.none] (c5 21 0)
 | 268=>fnS [] (c5 21 1)
 | 275=>fnS [] (c5 21 2)
 | 283=>fnS [.none,.bool false] (c5 21 3)
 | 304=>fnS [] (c5 21 6)
 | 311=>fnS [] (c5 21 7)
 | 774=>fnS [] (dP 25)
 | 781=>fnS [] (dP 26)
 | 786=>fnS [] (dP 28)
 | 793=>fnS [] (dP 29)
 | 800=>fnS [] (dP 30)
 | 807=>fnS [] (dP 31)
 | 814=>fnS [] (dP 32)
 | 821=>fnS [] (dP 33)
 | 828=>fnS [] (dP 34)
 | 835=>fnS [] (dP 35)
 | 840=>fnS [] (dP 36)
 | 847=>fnS [] (dP 37)
 | 852=>fnS [] (dP 38)
 | 857=>fnS [] (dP 39)
 | _=>⟨[],[],[],default⟩
noncomputable def aC (l:List (List Nat)):List V:=l.map V.str
noncomputable def csV (w:List Nat):List V:=w.map fun c=>V.str [c]
noncomputable def cC:List (List Nat):=[[38],[35],[120],[59],[38,35],[38,35,120],[38,97,109,112],[38,110,111,116],[105,110,59],[38,108,116,59],[48],[49],[50],[51],[52],[53],[54],[55],[56],[57],[97],[66],[110],[111],[116],[105],[109],[112],[108],[88],[32],[10],[13],[9],[12],[0],[62],[61],[44],[38,110,111,116,105,110,59],[160],[1635]]
noncomputable def k22:List Nat:=[9,10,12,32,13]
noncomputable def k27:List Nat:=[97,98,99,100,101,102,103,104,105,106,107,108,109,110,111,112,113,114,115,116,117,118,119,120,121,122,65,66,67,68,69,70,71,72,73,74,75,76,77,78,79,80,81,82,83,84,85,86,87,88,89,90]
noncomputable def k32:List Nat:=[48,49,50,51,52,53,54,55,56,57]
noncomputable def k37:List Nat:=[48,49,50,51,52,53,54,55,56,57,97,98,99,100,101,102,65,66,67,68,69,70]
noncomputable def yG:List (List Nat):=[[65,77,80],[65,77,80,59],[69,97,99,117,116,101],[69,97,99,117,116,101,59],[77,111,112,102,59],[97,99,59],[97,99,69,59],[97,99,117,116,101],[97,99,117,116,101,59],[97,109,112],[97,109,112,59],[97,110,103,59],[97,110,103,108,101,59],[98,110,101,59],[99,111,112,121],[99,111,112,121,59],[101,97,99,117,116,101],[101,97,99,117,116,101,59],[102,114,97,99,49,50],[102,114,97,99,49,50,59],[103,116],[103,116,59],[108,116],[108,116,59],[110,98,115,112],[110,98,115,112,59],[110,111,116],[110,111,116,59],[110,111,116,105,110,59],[110,111,116,110,105,59],[112,97,114,97],[112,97,114,97,59],[112,97,114,97,108,108,101,108,59],[113,117,111,116],[113,117,111,116,59],[115,117,112,49],[115,117,112,49,59],[115,117,112,50],[115,117,112,50,59],[115,117,112,59],[116,105,109,101,115],[116,105,109,101,115,59],[116,105,109,101,115,98,59]]
noncomputable def k43:List (Str×V):=[(("AMP":Str),V.str [38]),(("AMP;":Str),V.str [38]),(("Eacute":Str),V.str [201]),(("Eacute;":Str),V.str [201]),(("Mopf;":Str),V.str [120132]),(("ac;":Str),V.str [8766]),(("acE;":Str),V.str [8766,819]),(("acute":Str),V.str [180]),(("acute;":Str),V.str [180]),(("amp":Str),V.str [38]),(("amp;":Str),V.str [38]),(("ang;":Str),V.str [8736]),(("angle;":Str),V.str [8736]),(("bne;":Str),V.str [61,8421]),(("copy":Str),V.str [169]),(("copy;":Str),V.str [169]),(("eacute":Str),V.str [233]),(("eacute;":Str),V.str [233]),(("frac12":Str),V.str [189]),(("frac12;":Str),V.str [189]),(("gt":Str),V.str [62]),(("gt;":Str),V.str [62]),(("lt":Str),V.str [60]),(("lt;":Str),V.str [60]),(("nbsp":Str),V.str [160]),(("nbsp;":Str),V.str [160]),(("not":Str),V.str [172]),(("not;":Str),V.str [172]),(("notin;":Str),V.str [8713]),(("notni;":Str),V.str [8716]),(("para":Str),V.str [182]),(("para;":Str),V.str [182]),(("parallel;":Str),V.str [8741]),(("quot":Str),V.str [34]),(("quot;":Str),V.str [34]),(("sup1":Str),V.str [185]),(("sup1;":Str),V.str [185]),(("sup2":Str),V.str [178]),(("sup2;":Str),V.str [178]),(("sup;":Str),V.str [8835]),(("times":Str),V.str [215]),(("times;":Str),V.str [215]),(("timesb;":Str),V.str [8864])]
noncomputable def k46:List (Int×V):=[(0,V.str [65533]),(13,V.str [13]),(128,V.str [8364]),(129,V.str [129]),(130,V.str [8218]),(131,V.str [402]),(132,V.str [8222]),(133,V.str [8230]),(134,V.str [8224]),(135,V.str [8225]),(136,V.str [710]),(137,V.str [8240]),(138,V.str [352]),(139,V.str [8249]),(140,V.str [338]),(141,V.str [141]),(142,V.str [381]),(143,V.str [143]),(144,V.str [144]),(145,V.str [8216]),(146,V.str [8217]),(147,V.str [8220]),(148,V.str [8221]),(149,V.str [8226]),(150,V.str [8211]),(151,V.str [8212]),(152,V.str [732]),(153,V.str [8482]),(154,V.str [353]),(155,V.str [8250]),(156,V.str [339]),(157,V.str [157]),(158,V.str [382]),(159,V.str [376])]
noncomputable def k48:List (Str×V):=[(("Doctype":Str),V.int 0),(("Characters":Str),V.int 1),(("SpaceCharacters":Str),V.int 2),(("StartTag":Str),V.int 3),(("EndTag":Str),V.int 4),(("EmptyTag":Str),V.int 5),(("Comment":Str),V.int 6),(("ParseError":Str),V.int 7)]
noncomputable def so:List (Str×V):=[("_data",.old 43),("_keys",.old 243),("_cachestr",.str []),("_cachepoints",.tup [.int 0,.int 43])]
noncomputable def uy:List (Addr×AO):=[(22,.tupl (csV k22)),(27,.tupl (csV k27)),(32,.tupl (csV k32)),(37,.tupl (csV k37)),(43,.dict k43),(46,.idict k46),(48,.dict k48),(236,.cinst 230 so),(243,.list (aC yG)),(246,.tupl [.int 0,.int 43]),(767,.list (aC cC))]
noncomputable def T1 (sa:Addr) (ns:List Int):Tab:={glob:=g1,fns:=f1.map fun a=>(a,fnN a),cls:=c1,cons:=uy++[(sa,.list (ns.map .int))]}
noncomputable def esK (K:Frag) (a:Addr):List DictEntry:=(bW K a).getD []
structure g8(K:Frag)(w:World)(a:Addr)(kvs:List (Str×V)):Prop where
 es:bW K a=some (esK K a)
 ps:kZ (esK K a)=some kvs
 nd:iz kvs=true
 hs:px w (esK K a)
theorem g8.or{cx:Cx}{K:Frag}(X:K.In cx.h₀){a:Addr}{kvs:List (Str×V)}(d:g8 K cx.w a kvs):OR cx 0 zero cx.h₀ a (.dict kvs):=m7 X d.es d.ps d.hs d.nd
theorem g8.inst{cx:Cx}{K:Frag}(X:K.In cx.h₀){a C d:Addr}{kvs:List (Str×V)}(ha:K.lookup a=some (instObj C d))(q:g8 K cx.w d kvs):OR cx 0 zero cx.h₀ a (.cinst C kvs):=rF X ha q.es q.ps q.hs q.nd
theorem PRs.repl{κ:Type}{n:Nat}{ρ:Ids}{h:Heap}{k:κ}{v v':V}(hv: ∀y,VR n ρ h v y→VR n ρ h v' y): ∀{A B:List (κ×V)} {ps:List (κ×Value)},PRs n ρ h (A++(k,v)::B) ps→PRs n ρ h (A++(k,v')::B) ps
 | [],B,_,e=>e.k1 (P:=PRs n ρ h ((k,v')::B)) fun x xs h1 h2=>⟨x,xs,rfl,hv x h1,h2⟩
 | (k2,w)::A,B,_,e=>e.k1 (P:=PRs n ρ h ((k2,w)::(A++(k,v')::B))) fun x xs h1 h2=>⟨x,xs,rfl,h1,PRs.repl hv h2⟩
noncomputable def xm:List (Str×V):=[("_data",.old 43),("_keys",.old 243),("_cachestr",.str [])]
noncomputable def ye:List (Addr×AO):=[(22,.tupl (csV k22)),(27,.tupl (csV k27)),(32,.tupl (csV k32)),(37,.tupl (csV k37)),(243,.list (aC yG)),(246,.tupl [.int 0,.int 43]),(767,.list (aC cC))]
structure ny(K:Frag)(w:World):Prop where
 fns:wC K f1=true
 same:(f1.map fun a=>(a,fnK K a))=f1.map fun a=>(a,fnN a)
 cls:uE K c1=true
 globE:bW K mainGlobals=some (esK K mainGlobals)
 globB:iM (esK K mainGlobals).toArray (("law",.old 857)::g1)=true
 seqs:(ye.map fun p=>vp K p.1)=ye.map fun p=>some p.2
 d43:g8 K w 43 k43
 d48:g8 K w 48 k48
 d235:g8 K w 235 (xm++((("_cachepoints":Str),V.old 246)::[]))
 i46:bW K 46=some (esK K 46)
 p46:nO (esK K 46)=some k46
 h46:pz (esK K 46)=true
 i236:K.lookup 236=some (instObj 230 235)
 gen:fnB K 268=true
 gen2:fnK K 268=fnN 268
theorem n46:lf k46=true:=by kernel_rfl
theorem cz{α:Type _}{P:α→Prop}{a:α}{l:List α}(h1:P a)(h2: ∀p∈l,P p): ∀p∈a::l,P p:=Fb.mpr ⟨h1,h2⟩
theorem AS{cx:Cx}{K:Frag}(X:K.In cx.h₀)(F:ny K cx.w){sa:Addr}{ns:List Int}(hs:OR cx 0 zero cx.h₀ sa (.list (ns.map .int))):aX cx (T1 sa ns):=fun a o h=>by
 have sq: ∀{p},p∈ye→OR cx 0 zero cx.h₀ p.1 p.2:=fun{p} hp=>vo X (List.map_inj_left.mp F.seqs p hp)
 have s246:OR cx 0 zero cx.h₀ 246 (.tupl [.int 0,.int 43]):=sq (p:=(246,.tupl [.int 0,.int 43])) (.tail _ (.tail _ (.tail _ (.tail _ (.tail _ (.head _))))))
 have d236:OR cx 0 zero cx.h₀ 236 (.cinst 230 so):=(g8.inst X F.i236 F.d235).cinstK fun dd ps a1 a2 a3 a4 a5=>
  ⟨dd,ps,a1,a2,PRs.repl (k:=("_cachepoints":Str)) (A:=xm) (B:=[]) (v:=.old 246) (v':=.tup [.int 0,.int 43]) (fun y hy=>s246.tuplK fun items nn g1 g2=>
   ⟨246,items,nn,hy,g1,fun j hj=>absurd hj (Eo _),g2⟩) a3,a4,a5⟩
 have all: ∀p∈uy++[(sa,.list (ns.map .int))],OR cx 0 zero cx.h₀ p.1 p.2:=
  cz (sq (.head _)) (cz (sq (.tail _ (.head _))) (cz (sq (.tail _ (.tail _ (.head _)))) (cz (sq (.tail _ (.tail _ (.tail _ (.head _))))) (cz (F.d43.or X) (cz (rg X F.i46 F.p46 F.h46 n46) (cz (F.d48.or X) (cz d236 (cz (sq (.tail _ (.tail _ (.tail _ (.tail _ (.head _)))))) (cz s246
   (cz (sq (.tail _ (.tail _ (.tail _ (.tail _ (.tail _ (.tail _ (.head _)))))))) (cz hs fun _ h=>nomatch h)))))))))))
 exact all (a,o) (lookup_mem h)
theorem C6{sa:Addr}{ns:List Int}(hs:(sa==sysModules)=false):eN (T1 sa ns):=fun a o h=>
 (List.mem_append.mp (lookup_mem h)).elim (fun h=>(Ep _).mp (DL.mp (show(uy.all fun p=>!(p.1==sysModules))=true from rfl) _ h)) fun h=>by
  refine rK (show a=sa from congrArg Prod.fst (EN.mp h)) ?_;exact hs
theorem ok1{cx:Cx}{mg mb:Str→Option Value}(B:Base cx cx.K mg mb)(F:ny cx.K cx.w)(hb: ∀x:Str,x≠"__name__"→mb x=bootBuiltins x){sa:Addr}{ns:List Int}(hs:OR cx 0 zero cx.h₀ sa (.list (ns.map .int)))(hf:(sa==sysModules)=false):
  Ok cx cx.K mg mb (T1 sa ns):=by
 have e2:iM (esK cx.K mainGlobals).toArray g1=true:=by
  exact(Et.mp F.globB).2
 refine⟨B,ke B.X B.G hb F.globE e2,AS B.X F hs,C6 hf,fun C cl h=>?_,fun a fn h=>yO B.X F.fns a fn ?_,fun C cl h=>?_⟩
 ·exact(i4 F.cls C cl h).1
 ·refine rK (F.same ..) ?_;exact h
 ·exact(i4 F.cls C cl h).2
noncomputable def jQ:Nat→Nat→List Nat→Bool
 | 0,_,_=>true
 | _+1,_,[]=>false
 | n+1,j,k::ks=>DI k j&&jQ n (j+1) ks
theorem dX: ∀{n j:Nat} {ks:List Nat},jQ n j ks=true→n≤ks.length∧ ∀i,i<n→ks[i]?=some (j+i)
 | 0,_,_,_=>⟨DU _,fun i hi=>absurd hi (Eo _)⟩
 | n+1,_,[],h=>by cases h
 | n+1,j,k::ks,h=>aO h fun q h=>⟨EY (dX h).1,fun
  | 0,_=>congrArg some (DK q)
  | i+1,hi=>((dX h).2 i (ER hi)).trans (congrArg some (Nat.succ_add_eq_add_succ j i))⟩
theorem aW{n:Nat}{fl:List Nat}{σ1 σ':Hp}{ks:List Nat}(hf: ∀(k:Nat) (o:AO),aB k fl=true→σ1[k]?=some o→nx o)(h1:cL fl σ1 ks ks=some σ')(h2:cY ks=true)(h3:jQ n 0 ks=true):aK n σ1 ks (inv ks) σ':=
 ⟨fO hf h1 h2,(dX h3).1,fun j hj=>by exact rK ((dX h3).2 j hj) (rK (Gq ..) rfl)⟩
theorem pick_from{n:Nat}{σ1 σ':Hp}{ks:List Nat}(h1:eV σ1 ks ks=some σ')(h2:cY ks=true)(h3:jQ n 0 ks=true):aK n σ1 ks (inv ks) σ':=aW (fl:=[]) (fun _ _ e=>Eg (show false=true from e)) h1 h2 h3
noncomputable def cutF {α:Type} (n:Nat) (fl ks:List Nat) (x:Option (Out α)):Option (Out α):=x.bind fun o=>aD (cY ks&&jQ n 0 ks) ((cL fl o.σ ks ks).bind fun σ'=>some ⟨o.v,σ',o.obs⟩)
noncomputable def bo (n:Nat) (ks:List Nat) (x:Option (Out V)):Option (Out V):=(cutF n [] ks x).bind fun o=>aD (o.v.inB ks) (some ⟨o.v.ren (inv ks),o.σ,o.obs⟩)
noncomputable def jg (fl:List Nat) (n:Nat) (σ:Hp):Prop:= ∀k,aB k fl=true→k<n∧ ∃o,σ[k]?=some o∧nx o
theorem kz{α:Type}{n:Nat}{fl ks:List Nat}{x:Option (Out α)}{o':Out α}(h:cutF n fl ks x=some o'):jg fl n o'.σ→ ∃σ1,x=some ⟨o'.v,σ1,o'.obs⟩∧aK n σ1 ks (inv ks) o'.σ:=
 obK h fun o q h=>e8 h fun hb h=>aO hb fun h2 h3=>obK h fun σ' h1 h=>okE (P:=fun o':Out α=>jg fl n o'.σ→ ∃σ1,x=some ⟨o'.v,σ1,o'.obs⟩∧aK n σ1 ks (inv ks) o'.σ) h fun hs=>
  ⟨o.σ,q,aW (fun k ob he hk=>by
   obtain⟨hn,ob',hk',hsh⟩:=hs k he
   refine o13 ((gx h1).2 k k (by exact rK ((dX h3).2 k hn) (rK (Gq ..) rfl))) fun o2 e1 e2 _=>?_
   cases hk.symm.trans e1
   replace e2:=(he ..)▸e2
   cases hk'.symm.trans e2
   exact hsh) h1 h2 h3⟩
section
variable{cx:Cx}{A:Around}{σ:Hp}{ρ:Ids}{s:Shared}{F:Ev}
theorem pN{n:Nat}{ks:List Nat}{r:Option (Out V)}{P:V→Hp→Prop}(k: ∀v σ1 obs σ',r=some ⟨v,σ1,obs⟩→cw obs→aK n σ1 ks (inv ks) σ'→v.In (Kept ks (inv ks))→P (v.ren (inv ks)) σ'):Gives (bo n ks r) P:=
 ae fun _ h=>au fun hb=>af fun ob=>(kz (fl:=[]) h (fun _ e=>Eg (show false=true from e))).elim fun _ q=>k _ _ _ _ q.1 ob q.2 (V.inB_in hb)
theorem ah.cut{x:Value}{xs:List Value}{kw:List (Str×Value)}{ks:List Nat}{r:Option (Out V)}{o:Out V}(h: ∀o',r=some o'→o'.ob→ah cx A σ ρ s x xs kw o'.σ o'.v)(e:bo σ.length ks r=some o)(ob:o.ob):ah cx A σ ρ s x xs kw o.σ o.v:=
 pN (P:=fun v σ'=>ah cx A σ ρ s x xs kw σ' v) (fun _ _ _ _ q ob pk hi=>ah.pick (h _ q ob) pk hi) _ e ob
theorem aJ(HF:aw cx F){d:Nat}{a:Addr}{args:List V}{kws:List (Str×V)}{xs:List Value}{kw:List (Str×Value)}{ks:List Nat}{o:Out V}(r:aj A d)(S:Sat cx σ ρ s.heap)(hv:VRs σ.length ρ s.heap args xs)(hk:PRs σ.length ρ s.heap kws kw)
  (e:bo σ.length ks (F.call d (.old a) args kws σ)=some o) (ob:o.ob):ah cx A σ ρ s (.ref a) xs kw o.σ o.v:=
 ah.cut (fun o' h ob'=>HF.code (f:=.old a) rfl r S rfl hv hk o' h ob') e ob
theorem aj.le{A:Around}{d d':Nat}(r:aj A d)(h:d'≤d):aj A d':=⟨r.handled,by have:=r.depth;lia,by have:=r.units;lia⟩
end
section
open Builtin Builtin.Str
theorem subAt_one(x:List Nat)(c i:Nat)(h:i<x.length):subAt ⟨x.toArray⟩ ⟨[c].toArray⟩ i=DI x[i] c:=by
 unfold subAt
 have e:(⟨[c].toArray⟩:Str).length=1:=rfl
 refine rK (e ..) ?_
 have:x.toArray.extract i (i+1)= #[x[i]]:=by
  apply Array.ext
  ·simp;lia
  ·intro j h1 h2
   simp at h2
   subst h2
   simp
 show(x.toArray.extract i (i+1)== #[c])=_
 refine rK (this ..) ?_
 induction q:DI x[i] c with
 | true=>refine rK (DK q ..) ?_;exact beq_self_eq_true _
 | false=>
  rw[beq_eq_false_iff_ne]
  intro e
  simp at e
  exact EC q e
noncomputable def cnt (c:Nat):List Nat→Nat
 | []=>0
 | d::r=>match DI d c with
  | true=>cnt c r+1
  | false=>cnt c r
theorem cnt_cons(c d:Nat)(r:List Nat):cnt c (d::r)=(match DI d c with | true=>cnt c r+1 | false=>cnt c r):=rfl
theorem vR(x:List Nat)(c hi limit:Nat)(hhi:hi≤x.length): ∀(n i:Nat) (acc:Array Nat) (free:Nat),i+n=hi+1→free≤i→acc.size+n≤limit→
  (forIn (Gj i n) (acc,free) (StrLaws.occBody ⟨x.toArray⟩ ⟨[c].toArray⟩ hi limit)).run.fst.size=acc.size+cnt c ((x.take hi).drop i):=by
 intro n
 induction n with
 | zero=>
  intro i acc free h1 h2 h3
  refine rK (Gl (by simp;lia) ..) ?_
  rfl
 | succ n ih=>
  intro i acc free h1 h2 h3
  refine rK (List.range'_succ ..) (rK (F2 ..) ?_)
  have e1:(⟨[c].toArray⟩:Str).length=1:=rfl
  unfold StrLaws.occBody
  refine rK (e1 ..) ?_
  by_cases hlt:i<hi
  ·have hx:i<x.length:=by exact kV (by assumption) (by assumption)
   have hd:(x.take hi).drop i=x[i]::(x.take hi).drop (i+1):=by
    refine rK (D9 (by simp;lia) ..) ?_
    simp
   refine rK (hd ..) ?_
   have hsub:=subAt_one x c i hx
   refine rK (cnt_cons ..) (rK (hsub ..) ?_)
   induction q:DI x[i] c with
   | true=>
    refine rK (if_pos ⟨⟨⟨by show acc.size<limit;(exact Nat.lt_of_add_right_lt h3),h2⟩,by assumption⟩,rfl⟩ ..) ?_
    have:=ih (i+1) (acc.push i) (i+1) (by lia) (DQ _) (by simp;lia)
    simp only[Array.size_push]at this
    unfold StrLaws.occBody at this
    replace this:=(e1 ..)▸this
    refine Eq.trans this ?_
    exact(by(exact FB ..):acc.size+1+cnt c (Gc (i+1) (GT hi x))=acc.size+(cnt c (Gc (i+1) (GT hi x))+1))
   | false=>
    refine rK (if_neg (fun h=>by cases h.2) ..) ?_
    have:=ih (i+1) acc free (by lia) (by exact Nat.le_add_right_of_le h2) (by exact D6 (by assumption))
    unfold StrLaws.occBody at this
    replace this:=(e1 ..)▸this
    exact this
  ·have:i=hi:=by lia
   subst this
   have hn:n=0:=by lia
   subst hn
   refine rK (if_neg (fun h=>by have:=h.1.2;(exact Fk _ (by assumption))) ..) ?_
   refine rK (Gl (by simp;(exact Nat.min_le_left i x.length)) ..) ?_
   rfl
theorem og(x:List Nat)(c off:Nat)(h:off≤x.length):countIn x [c] 0 off=cnt c (x.take off):=by
 unfold countIn
 refine rK (StrLaws.occ_eq ..) (rK (Fz h ..) (rK (Array.length_toList ..) ?_))
 have:=vR x c off (x.length+1) h (off+1-0) 0 #[] 0 (by exact EJ ..) (DQ _) (by simp;assumption)
 refine rK (this ..) ?_
 simp
noncomputable def lastBody (x:List Nat) (c hi:Nat) (i:Nat) (st:Option Nat):Id (ForInStep (Option Nat)):=
 if i+1≤hi∧subAt ⟨x.toArray⟩ ⟨[c].toArray⟩ i=true then pure (Ek (some i))else pure (Ek st)
theorem last_eq(x:List Nat)(c lo hi:Nat):lastOccurrence ⟨x.toArray⟩ ⟨[c].toArray⟩ lo hi=(forIn (Gj lo (hi+1-lo)) none (lastBody x c hi)).run:=by
 unfold lastOccurrence lastBody
 have e1:(⟨[c].toArray⟩:Str).length=1:=rfl
 simp[e1]
theorem j6(x:List Nat)(hi:Nat)(hhi:hi≤x.length)(p0:Nat×Nat): ∀(n i:Nat) (st:Option Nat) (p:Nat×Nat),i+n=hi+1→i≤hi→
  p=(x.take i).foldl bt p0→(match st with | some j=>j<i∧p.2=i-(j+1) | none=>p.2=p0.2+i)→
  (match(forIn (Gj i n) st (lastBody x 10 hi)).run with | some j=>j<hi∧((x.take hi).foldl bt p0).2=hi-(j+1) | none=>((x.take hi).foldl bt p0).2=p0.2+hi):=by
 intro n
 induction n with
 | zero=>intro i st p h1 h2 h3 h4;lia
 | succ n ih=>
  intro i st p h1 h2 h3 h4
  refine rK (List.range'_succ ..) (rK (F2 ..) ?_)
  unfold lastBody
  by_cases hlt:i<hi
  ·have hx:i<x.length:=by exact kV (by assumption) (by assumption)
   have hsub:=subAt_one x 10 i hx
   have ht:x.take (i+1)=x.take i++[x[i]]:=by exact rK (List.take_succ_eq_append_getElem hx ..) rfl
   refine rK (hsub ..) ?_
   induction q:DI x[i] 10 with
   | true=>
    refine rK (if_pos ⟨by assumption,rfl⟩ ..) ?_
    have:=ih (i+1) (some i) ((x.take (i+1)).foldl bt p0) (by lia) hlt rfl (by
     dsimp only
     refine⟨by(exact DQ _),?_⟩
     refine rK (ht ..) (rK (Gf ..) ?_)
     simp only[Gr,List.foldl_nil,bt,q]
     (exact Go rfl))
    unfold lastBody at this
    exact this
   | false=>
    refine rK (if_neg (fun h=>by cases h.2) ..) ?_
    have:=ih (i+1) st ((x.take (i+1)).foldl bt p0) (by lia) hlt rfl (by
     rw[ht,Gf,←h3]
     simp only[Gr,List.foldl_nil,bt,q]
     induction st with
     | none=>dsimp only at h4 ⊢;exact Nat.add_left_inj.mpr h4
     | some j=>dsimp only at h4 ⊢;lia)
    unfold lastBody at this
    exact this
  ·have:i=hi:=by lia
   subst this
   have hn:n=0:=by lia
   subst hn
   refine rK (if_neg (fun h=>by have:=h.1;(exact Fk _ (by assumption))) ..) ?_
   replace h4:=(h3 ..)▸h4
   exact h4
theorem nf: ∀(l:List Nat) (p:Nat×Nat),(l.foldl bt p).1=p.1+cnt 10 l
 | [],p=>rfl
 | d::r,p=>by
  refine rK (Gr ..) (rK (nf r ..) (rK (cnt_cons ..) ?_))
  unfold bt
  induction q:DI d 10 with
  | true=>exact(by(exact FB ..):p.1+1+cnt 10 r=p.1+(cnt 10 r+1))
  | false=>rfl
theorem qH(x:List Nat)(pl pc off:Nat)(h:off≤x.length):pl+countIn x [10] 0 off=((x.take off).foldl bt (pl,pc)).1:=by
 exact rK (og x 10 off h ..) (rK (nf ..) rfl)
theorem pos_none(x:List Nat)(pl pc off:Nat)(h:off≤x.length)(hr:bF x [10] 0 off= -1):pc+off=((x.take off).foldl bt (pl,pc)).2:=by
 unfold bF at hr
 rw[Fz h,last_eq]at hr
 have:=j6 x off h (pl,pc) (off+1-0) 0 none (pl,pc) (by exact EJ ..) (DU _) (by simp) (by simp)
 induction q:(forIn (Gj 0 (off+1-0)) none (lastBody x 10 off)).run with
 | none=>rw[q]at this;exact this.symm
 | some j=>rw[q]at hr;dsimp only at hr;lia
theorem sS(x:List Nat)(pl pc off:Nat)(h:off≤x.length)(hr:bF x [10] 0 off≠ -1): ∃j:Nat,bF x [10] 0 off=(j:Int)∧j<off∧off-(j+1)=((x.take off).foldl bt (pl,pc)).2:=by
 unfold bF at hr ⊢
 rw[Fz h,last_eq]at hr ⊢
 have:=j6 x off h (pl,pc) (off+1-0) 0 none (pl,pc) (by exact EJ ..) (DU _) (by simp) (by simp)
 induction q:(forIn (Gj 0 (off+1-0)) none (lastBody x 10 off)).run with
 | none=>rw[q]at hr;exact absurd rfl hr
 | some j=>rw[q]at this;exact⟨j,rfl,this.1,this.2.symm⟩
end
noncomputable def dE (l a b:List Nat):List Nat:=(Txt.replace ⟨l.toArray⟩ ⟨a.toArray⟩ ⟨b.toArray⟩).cps.toList
section
variable{cx:Cx}{K:Frag}{mg mb:Str→Option Value}{T:Tab}{A:Around}{σ σ1 σ2:Hp}{ρ:Ids}{s:Shared}{F:Ev}{O:Orc}{ee:EE}{env:Env}
noncomputable def SSt (cx:Cx) (ee:EE) (l:List Stmt) (σ:Hp) (f:Fl) (σ':Hp):Prop:=Hid (∀(A:Around) (ρ:Ids) (s:Shared) (env:Env),aj A ee.d→ax ee σ.length ρ env→Sat cx σ ρ s.heap→0<s.toks→ak cx A σ ρ s (execs l env) σ' (fun n ρ h x=>FlR n ρ h f x))
noncomputable def S1t (cx:Cx) (ee:EE) (t:Stmt) (σ:Hp) (f:Fl) (σ':Hp):Prop:=Hid (∀(A:Around) (ρ:Ids) (s:Shared) (env:Env),aj A ee.d→ax ee σ.length ρ env→Sat cx σ ρ s.heap→0<s.toks→ak cx A σ ρ s (exec t env) σ' (fun n ρ h x=>FlR n ρ h f x))
noncomputable def S1p (cx:Cx) (ee:EE) (t:Stmt) (σ:Hp) (σ':Hp):Prop:=Hid (∀(A:Around) (ρ:Ids) (s:Shared) (env:Env),aj A ee.d→ax ee σ.length ρ env→Sat cx σ ρ s.heap→wpAny (model cx.prog cx.w) A (exec t env) (fun x s'=>0<s'.toks∧ag cx σ.length ρ s σ' (fun n ρ h x=>FlR n ρ h .next x) x s') (fun _ _=>False) s)
theorem SS.t{l:List Stmt}{f:Fl}(h:SS cx ee l σ f σ1):SSt cx ee l σ f σ1:=.mk fun A ρ s env r e S _=>h.it _ _ _ _ r e S
theorem SSt.cons{t:Stmt}{l:List Stmt}{f:Fl}(h1:S1t cx ee t σ .next σ1)(h2:SSt cx ee l σ1 f σ2):SSt cx ee (t::l) σ f σ2:=.mk fun A ρ s env r e S tk=>
 wpAny_execs_cons (wpAny_with_toks (n:=1) tk ((h1.it _ _ _ _ r e S tk).use fun x ρ1 s1 x1 r1 tk1=>by
  have r1:x=.next:=r1
  subst r1
  exact ak.fin x1 (h2.it _ _ _ _ r (e.ext x1.ext) x1.sat tk1)))
theorem SS.consp{t:Stmt}{l:List Stmt}{f:Fl}(h1:S1p cx ee t σ σ1)(h2:SSt cx ee l σ1 f σ2):SS cx ee (t::l) σ f σ2:=.mk fun A ρ s env r e S=>
 wpAny_execs_cons (wpAny_mono (h1.it _ _ _ _ r e S) (fun x s1 y2k=>y2k.elim fun tk1 z0y2k=>z0y2k.elim fun ρ1 z1y2k=>z1y2k.elim fun x1 r1=>by
  have r1:x=.next:=r1
  subst r1
  exact ak.fin x1 (h2.it _ _ _ _ r (e.ext x1.ext) x1.sat tk1)) fun _ _ f=>f.elim)
theorem be: ∀(l m:List Stmt) (env:Env),execs (l++m) env=(do match←execs l env with | .next=>execs m env | f=>pure f)
 | [],m,env=>rfl
 | t::l,m,env=>by
  refine rK (EP ..) (rK (execs_cons ..) (rK (execs_cons ..) (rK (bind_assoc ..) ?_)))
  congr 1
  funext f
  induction f<;>first | exact be l m env | rfl
theorem SSt.append{l m:List Stmt}{f:Fl}(h1:SSt cx ee l σ .next σ1)(h2:SSt cx ee m σ1 f σ2):SSt cx ee (l++m) σ f σ2:=.mk fun A ρ s env r e S tk=>by
 refine rK (be ..) ?_
 refine wpAny_bind (wpAny_with_toks (n:=1) tk ((h1.it _ _ _ _ r e S tk).use fun x ρ1 s1 x1 r1 tk1=>?_))
 have r1:x=.next:=r1
 subst r1
 exact ak.fin x1 (h2.it _ _ _ _ r (e.ext x1.ext) x1.sat tk1)
theorem SS.append{l m:List Stmt}{f:Fl}(h1:SS cx ee l σ .next σ1)(h2:SS cx ee m σ1 f σ2):SS cx ee (l++m) σ f σ2:=.mk fun A ρ s env r e S=>by
 refine rK (be ..) ?_
 refine wpAny_bind ((h1.it _ _ _ _ r e S).use fun x ρ1 s1 x1 r1=>?_)
 have r1:x=.next:=r1
 subst r1
 exact ak.fin x1 (h2.it _ _ _ _ r (e.ext x1.ext) x1.sat)
theorem S1p.const(H:Ok cx K mg mb T)(HF:aw cx F){t:Expr}{c:Str}{k:Nat}{p pos:Pos}{l:List Nat}{o:Out Unit}(hc:const (.str c)=some (.str l))(hs:isStar t=false)(h:aF T F ee t (.str l) σ=some o)(ob:o.ob):
  S1p cx ee (.Assign [t] (.Constant (.str c) k p) pos) σ o.σ:=by
 refine .mk ?_
 intro A ρ s env r e S
 refine wpAny_Assign_stores ?_ rfl (eB (by unfold gM;exact Fp _))
 refine rK (bY hs ..) ?_
 cases hc
 refine wpAny_mkText (wpAny_with_toks (n:=1) (DO _) ((bg H HF r (s:={s with toks:=s.toks+1}) (ρ:=ρ) (env:=env) e S (v:=.str c.cps.toList) (x:=.str c s.toks) ⟨_,rfl⟩ o h ob).use fun _ ρ2 s2 x2 _ tk2=>⟨tk2,ρ2,⟨x2.sat,x2.ext,x2.gens,x2.os⟩,rfl⟩))
theorem Af{few:Bool}{o:Expr}{ap pos:Pos}(hl:DI ap.endLine pos.line=true):methodCallPos few o env ap pos=pure pos:=
 if_pos (by exact rK (beq_iff_eq.mpr (DK hl) ..) (rK (Bool.or_true ..) rfl))
theorem kS(H:Ok cx K mg mb T)(r:aj A ee.d)(e:ax ee σ.length ρ env)(S:Sat cx σ ρ s.heap)(tk:0<s.toks){obj:Expr}{l:List Nat}{a b:Str}{k1 k2:Nat}{p1 p2 ap pos:Pos}(h1:XX cx ee obj σ (.str l) σ)(hb:aQ obj=true)(hl:DI ap.endLine pos.line=true)
  (hne:(a==b)=false) (hz:l.length+(l.length+1)*b.length≤16777216):ak cx A σ ρ s (eval (.Call (.Attribute obj "replace" ap) [.Constant (.str a) k1 p1,.Constant (.str b) k2 p2] [] pos) env) σ (IsV (.str (dE l a.cps.toList b.cps.toList))):=by
 refine rK (arm_eval_Call ..) ?_
 refine rK (dA hb ..) ?_
 refine wpAny_bind (wpAny_with_toks (n:=1) tk ((h1.it _ _ _ _ r e S).use fun ov ρ1 s1 x1 r1 tk1=>wpAny_bind (wpAny_standAt ?_)))
 unfold methodCall
 have hfew:methodCallForm ([Expr.Constant (.str a) k1 p1,Expr.Constant (.str b) k2 p2].length+([]:List Keyword).length) (backTo pos (starEach [.Constant (.str a) k1 p1,.Constant (.str b) k2 p2] env)) (backToKw pos (keywordEach [] env))=true:=rfl
 refine rK (hfew ..) ?_
 refine wpAny_bind (wpAny_holding ?_)
 unfold calleeOf
 refine rK (if_pos rfl ..) ?_
 refine o11 (rY r1) fun t e1q=>?_;subst e1q
 refine getMethod_builtin (T:="str") rfl F.plainAttrs_str F.slot_str_replace F.type_str_replace (fun a e=>nomatch e) ?_
 refine wpAny_bind (wpAny_of_eq (Af hl) ?_)
 refine cF rfl rfl ?_
 refine cE rfl ?_
 show wpAny _ A (spliced (backTo pos (starEach [.Constant (.str a) k1 p1,.Constant (.str b) k2 p2] env))) _ _ s1
 refine wpAny_items_cons (wpAny_mkText (wpAny_items_cons (wpAny_mkText (wpAny_pure ?_)) rfl)) rfl
 refine⟨⟨.machine,fun Q' h=>wpAny_pure h⟩,?_⟩
 show wpAny _ A (call (.builtin "str.replace") [.str ⟨l.toArray⟩ t,.str a s1.toks,.str b (s1.toks+1)]) _ _ _
 have hlen:(⟨l.toArray⟩:Str).length=l.length:=by simp[Str.length]
 refine PySem.SC.replace (GO tk1) (Gk _) (F5 (EB _)) hne (by refine rK (hlen ..) ?_;exact hz) fun t' k=>?_
 refine⟨ρ1,⟨x1.sat,x1.ext,x1.gens,x1.os⟩,?_⟩
 exact vrS
end
structure Kin(o o':Obj):Prop where
 data:o'.data=o.data
 cls:o'.cls=o.cls
theorem Kin.refl(o:Obj):Kin o o:=⟨rfl,rfl⟩
theorem Kin.trans{o o' o'':Obj}(x:Kin o o')(y:Kin o' o''):Kin o o'':=⟨y.data.trans x.data,y.cls.trans x.cls⟩
structure eK(F:Addr→Prop)(h h':Heap):Prop where
 keep: ∀b o,h.get? b=some o→ ¬F b→h'.get? b=some o
 kin: ∀b o,h.get? b=some o→ ∃o',h'.get? b=some o'∧Kin o o'
 size:h'.objs.size=h.objs.size
theorem eK.refl(F:Addr→Prop)(h:Heap):eK F h h:=⟨fun _ _ e _=>e,fun b o e=>⟨o,e,.refl o⟩,rfl⟩
section
variable{M:Model}{A:Around}{E:Value→Shared→Prop}
theorem jN{F:Addr→Prop}: ∀{l:List Env} {s:Shared} {Q:Unit→Shared→Prop},(∀env∈l,env.scope.kind≠ .module)→(∀env∈l,∃L o es ep,env.frame=some L∧F L∧s.heap.get? L=some o∧o.data=.dict es ep)→
  (∀h',eK F s.heap h'→Q () {s with heap:=h'})→wpAny M A (readyFrames l) Q E s
 | [],s,Q,_,_,h=>by
  simp only[readyFrames]
  exact wpAny_pure (h s.heap (.refl F s.heap))
 | env::l,s,Q,hk,hf,h=>by
  refine o44 (hf env (wj ..)) fun L o es ep h1 hF h2 h3=>?_
  simp only[readyFrames,h1]
  refine wpAny_bind (wpAny_load h2 ?_)
  by_cases hr:((o.slots.getD 3 none).isSome)=true
  ·refine rK (if_pos hr ..) ?_;exact wpAny_pure (h s.heap (.refl F s.heap))
  ·refine rK (if_neg hr ..) ?_
   refine wpAny_bind (wpAny_of_eq (a:=false) (by simp[behindIsImport,hk env (wj ..)]) ?_)
   have hback: ∀{Q':Value→Shared→Prop},(∀v,Q' v s)→wpAny M A (keptBack env false l) Q' E s:=fun{Q'} hq=>by
    induction l with
    | nil=>exact wpAny_keptBack_nil hq
    | cons c r=>exact wpAny_pure (hq _)
   refine wpAny_bind (hback fun back=>?_)
   refine wpAny_bind (wpAny_update h2 ?_)
   generalize hg:(fun o:Obj=>{o with slots:= #[some env.code,some (Value.ref env.globals),o.slots.getD 2 none,some back,o.slots.getD 4 none,env.func.map Value.ref,some (Value.ref env.builtins)]++(env.cells.map fun(c:Str×Addr)=>some (Value.ref c.2)).toArray})=g
   have kg: ∀o:Obj,Kin o (g o):=fun o=>by rw[←hg];exact⟨rfl,rfl⟩
   have hfree:(g o).isFreed=false:=by
    have:(g o).data=.dict es ep:=(kg o).data.trans h3
    induction hgo:g o with
    | mk c d dt sl=>
     replace this:=(hgo ..)▸this
     have this:dt=.dict es ep:=this
     subst this;rfl
   have r1:eK F s.heap (s.heap.update L g):=by
    refine⟨fun b ob e hb=>?_,fun b ob e=>?_,?_⟩
    ·refine rK (Heap.get?_update_ne _ _ _ _ (fun q=>hb (by rw[q];exact hF)) ..) ?_;exact e
    ·by_cases q:b=L
     ·subst q
      replace e:=(h2 ..)▸e;cases e
      exact⟨_,Heap.get?_update_self _ h2 hfree,kg o⟩
     ·exact⟨ob,by refine rK (Heap.get?_update_ne _ _ _ _ q ..) ?_;exact e,.refl ob⟩
    ·simp
   refine jN (F:=F) (fun e he=>hk e (DJ _ he)) (fun e he=>?_) fun h' r2=>?_
   ·refine o44 (hf e (DJ _ he)) fun L' o' es' ep' g1 gF g2 g3=>?_
    refine o12 (r1.kin _ _ g2) fun o'' k1 k2=>?_
    exact⟨L',o'',es',ep',g1,gF,k1,k2.data.trans g3⟩
   ·refine h h' ⟨fun b ob e hb=>r2.keep b ob (r1.keep b ob e hb) hb,fun b ob e=>?_,r2.size.trans r1.size⟩
    refine o12 (r1.kin b ob e) fun o1 k1 k2=>?_
    refine o12 (r2.kin b o1 k1) fun o2 k3 k4=>?_
    exact⟨o2,k3,k2.trans k4⟩
structure Exn(h0 h:Heap)(e:Addr):Prop where
 new:h0.get? e=none
 there: ∃ob vs,h.get? e=some ob∧ob.cls=.type "KeyError"∧ob.data=.fields vs∧(vs[1]?=some .none∨ ∃tb otb tvs,vs[1]?=some (.ref tb)∧tb≠e∧h0.get? tb=none∧h.get? tb=some otb∧otb.data=.fields tvs∧3<tvs.size)
structure cy(F:Addr→Prop)(h0 h:Heap):Prop where
 keep: ∀b o,h0.get? b=some o→ ¬F b→h.get? b=some o
 kin: ∀b o,h0.get? b=some o→ ∃o',h.get? b=some o'∧Kin o o'
theorem eK.since{F:Addr→Prop}{h0 h h':Heap}(x:cy F h0 h)(y:eK F h h'):cy F h0 h':=
 ⟨fun b o e hb=>y.keep b o (x.keep b o e hb) hb,fun b o e=>by
  refine o12 (x.kin b o e) fun o1 k1 k2=>?_
  refine o12 (y.kin b o1 k1) fun o2 k3 k4=>?_
  exact⟨o2,k3,k2.trans k4⟩⟩
theorem cy.apart{F:Addr→Prop}{h0 h h':Heap}(x:cy F h0 h)(hk: ∀b o,h.get? b=some o→(∃o0,h0.get? b=some o0)→h'.get? b=some o):cy F h0 h':=
 ⟨fun b o e hb=>hk b o (x.keep b o e hb) ⟨o,e⟩,fun b o e=>by
  refine o12 (x.kin b o e) fun o1 k1 k2=>?_
  exact⟨o1,hk b o1 k1 ⟨o,e⟩,k2⟩⟩
theorem jV{F:Addr→Prop}{h0:Heap}{env:Env}{l:List Env}{s:Shared}{e:Addr}{L:Addr}{head:Value}{Q:Unit→Shared→Prop}(hl:A.frames=some (env::l))(hk: ∀x∈env::l,x.scope.kind≠ .module)(f1:env.frame=some L)
  (hf: ∀x∈env::l,∃L o es ep,x.frame=some L∧F L∧s.heap.get? L=some o∧o.data=.dict es ep) (hF0: ∀b,F b→ ∃o,h0.get? b=some o) (X:Exn h0 s.heap e) (Y:cy F h0 s.heap)
  (h: ∀h',Exn h0 h' e→cy F h0 h'→Q () {s with heap:=h'}):
  wpAny M A (do setField (.ref e) 1 (←EntryCells.newEntry head (←PySem.frameOf env) .none (rawInt L) .none (←entryPlaceOf L (head !=.none)))) Q E s:=by
 refine o24 X.there fun ob vs x1 x2 x3 x4=>?_
 have hFe: ¬F e:=fun hF=>by
  refine o11 (hF0 e hF) fun o ho=>?_
  replace ho:=(X.new ..)▸ho;cases ho
 unfold PySem.frameOf
 refine wpAny_bind (wpAny_bind (wpAny_frameEnvs hl ?_))
 have hdw:((env::l).dropWhile fun x=>x.frame !=env.frame)=env::l:=by simp[List.dropWhile]
 refine rK (hdw ..) ?_
 unfold frameObject
 refine wpAny_bind (wpAny_bind (jN hk hf fun h1 r1=>wpAny_pure ?_))
 refine rK (f1 ..) ?_
 refine wpAny_pure ?_
 refine wpAny_bind (wpAny_entryPlaceOf fun pl hpl=>?_)
 unfold EntryCells.newEntry newFields
 refine wpAny_bind (wpAny_newObj_type ?_ (hpl.sizeOk5 _ _ _ _ _))
 have e1:=r1.keep e ob x1 hFe
 have hsz:1<vs.size:=by
  rcases x4 with q | ⟨_,_,_,q,_⟩<;>exact(Array.getElem?_eq_some_iff.mp q).1
 generalize hob:({cls:=.type "traceback",dict:=none,data:=.fields ([head,.ref L,.none,rawInt L,.none]++(if pl.isEmpty then List.replicate 6 Value.none else pl)).toArray}:Obj)=tbo
 have e2:(h1.push tbo).get? e=some ob:=Heap.get?_push_of_some _ e1
 refine wpAny_setField e2 x3 hsz ?_
 have Y1:=r1.since Y
 have hnew:h1.get? h1.objs.size=none:=Heap.get?_none_of_le (DQ _)
 have hte:h1.objs.size≠e:=fun q=>by replace hnew:=(e1 ..)▸((q ..)▸hnew);cases hnew
 have h0n:h0.get? h1.objs.size=none:=by
  induction q:h0.get? h1.objs.size with
  | none=>rfl
  | some o=>
   refine o12 (Y1.kin _ _ q) fun o' k _=>?_
   replace k:=(hnew ..)▸k;cases k
 have hfree:tbo.isFreed=false:=by rw[←hob];rfl
 have htb:((h1.push tbo).update e (Obj.mapFields (·.setIfInBounds 1 (.ref h1.objs.size)))).get? h1.objs.size=some tbo:=by
  refine rK (Heap.get?_update_other _ _ (Ne.symm hte) ..) ?_
  exact Heap.get?_push_size _ hfree
 have hd2:=Obj.data_mapFields x3 (·.setIfInBounds 1 (Value.ref h1.objs.size))
 refine h _ ⟨X.new,_,_,Heap.get?_update_self _ e2 (Obj.isFreed_of_fields hd2),(Obj.cls_mapFields _ _).trans x2,hd2,.inr ⟨h1.objs.size,tbo,_,by simp[hsz],hte,h0n,htb,by rw[←hob],?_⟩⟩ (Y1.apart fun b o hb ⟨o0,ho0⟩=>?_)
 ·simp only[EM,pm,D0]
  lia
 ·have hbe:b≠e:=fun q=>by replace ho0:=(X.new ..)▸((q ..)▸ho0);cases ho0
  refine rK (Heap.get?_update_other _ _ (Ne.symm hbe) ..) ?_
  exact Heap.get?_push_of_some _ hb
theorem mz{F:Addr→Prop}{h0:Heap}{env:Env}{l:List Env}{s:Shared}{e:Addr}{Q:Unit→Shared→Prop}(hl:A.frames=some (env::l))(hk: ∀x∈env::l,x.scope.kind≠ .module)
  (hf: ∀x∈env::l,∃L o es ep,x.frame=some L∧F L∧h0.get? L=some o∧o.data=.dict es ep) (hF0: ∀b,F b→ ∃o,h0.get? b=some o) (X:Exn h0 s.heap e) (Y:cy F h0 s.heap)
  (h: ∀h',Exn h0 h' e→cy F h0 h'→Q () {s with heap:=h'}):wpAny M A (noteFrame (.ref e) env) Q E s:=by
 refine o44 (hf env (wj ..)) fun L oL es ep f1 fF f2 f3=>?_
 refine o24 X.there fun ob vs x1 x2 x3 x4=>?_
 have hfs: ∀{h':Heap},cy F h0 h'→ ∀x∈env::l,∃L o es ep,x.frame=some L∧F L∧h'.get? L=some o∧o.data=.dict es ep:=fun Y' x hx=>by
  refine o44 (hf x hx) fun L' o' es' ep' g1 g2 g3 g4=>?_
  refine o12 (Y'.kin _ _ g3) fun o2 k1 k2=>?_
  exact⟨L',o2,es',ep',g1,g2,k1,k2.data.trans g4⟩
 unfold noteFrame
 simp only[f1]
 rcases x4 with x4 | ⟨tb,otb,tvs,y1,y2,y3,y4,y5,y6⟩
 ·refine wpAny_bind (wpAny_field x1 x3 x4 ?_)
  refine rK (if_neg (by decide) ..) ?_
  exact jV hl hk f1 (hfs Y) hF0 X Y h
 ·refine wpAny_bind (wpAny_field x1 x3 y1 ?_)
  refine rK (if_pos (show(Value.ref tb !=Value.none)=true from by simp) ..) ?_
  refine o11 (show∃z,tvs[3]?=some z from⟨_,Array.getElem?_eq_getElem y6⟩) fun z hz=>?_
  refine wpAny_bind (wpAny_field y4 y5 hz ?_)
  refine wpAny_ite ?_
  split
  ·exact wpAny_pure (h s.heap X Y)
  ·refine wpAny_bind (wpAny_setField y4 y5 y6 ?_)
   have hd2:=Obj.data_mapFields y5 (·.setIfInBounds 3 Value.none)
   have X2:Exn h0 (s.heap.update tb (Obj.mapFields (·.setIfInBounds 3 Value.none))) e:=
    ⟨X.new,ob,vs,by refine rK (Heap.get?_update_other _ _ y2 ..) ?_;exact x1,x2,x3,.inr ⟨tb,_,_,y1,y2,y3,Heap.get?_update_self _ y4 (Obj.isFreed_of_fields hd2),hd2,by simpa using y6⟩⟩
   have Y2:cy F h0 (s.heap.update tb (Obj.mapFields (·.setIfInBounds 3 Value.none))):=Y.apart fun b o hb y3k=>o11 y3k fun o0 ho0=>by
    have:b≠tb:=fun q=>by replace ho0:=(y3 ..)▸((q ..)▸ho0);cases ho0
    refine rK (Heap.get?_update_other _ _ (Ne.symm this) ..) ?_;exact hb
   exact jV (s:={s with heap:=s.heap.update tb (Obj.mapFields (·.setIfInBounds 3 Value.none))}) hl hk f1 (hfs Y2) hF0 X2 Y2 h
theorem ef{F:Addr→Prop}{h0:Heap}{s:Shared}{e:Addr}{Q:Unit→Shared→Prop}(X:Exn h0 s.heap e)(Y:cy F h0 s.heap)
  (h: ∀h',Exn h0 h' e→cy F h0 h'→Q () {s with heap:=h'}):wpAny M A (setFlight (.ref e) none) Q E s:=by
 refine o24 X.there fun ob vs x1 x2 x3 x4=>?_
 unfold setFlight
 rcases x4 with x4 | ⟨tb,otb,tvs,y1,y2,y3,y4,y5,y6⟩
 ·refine wpAny_bind (wpAny_field x1 x3 x4 ?_)
  refine rK (if_neg (by decide) ..) ?_
  exact wpAny_pure (h s.heap X Y)
 ·refine wpAny_bind (wpAny_field x1 x3 y1 ?_)
  refine rK (if_pos (show(Value.ref tb !=Value.none)=true from by simp) ..) ?_
  refine wpAny_setField y4 y5 y6 ?_
  have hd2:=Obj.data_mapFields y5 (·.setIfInBounds 3 Value.none)
  refine h _ ⟨X.new,ob,vs,by refine rK (Heap.get?_update_other _ _ y2 ..) ?_;exact x1,x2,x3,.inr ⟨tb,_,_,y1,y2,y3,Heap.get?_update_self _ y4 (Obj.isFreed_of_fields hd2),hd2,by simpa using y6⟩⟩ (Y.apart fun b o hb y3k=>o11 y3k fun o0 ho0=>?_)
  have:b≠tb:=fun q=>by replace ho0:=(y3 ..)▸((q ..)▸ho0);cases ho0
  refine rK (Heap.get?_update_other _ _ (Ne.symm this) ..) ?_;exact hb
end
structure aZ(A:Around)(env:Env)(l:List Env)(frs:List Nat)(n:Nat)(ρ:Ids):Prop where
 frames:A.frames=some (env::l)
 at_:(env::l).map (·.frame)=frs.map fun i=>some (ρ i)
 kind: ∀x∈env::l,x.scope.kind≠ .module
 lt: ∀i∈frs,i<n
theorem aZ.ext{A:Around}{env:Env}{l:List Env}{frs:List Nat}{n n':Nat}{ρ ρ':Ids}{h h':Heap}(x:aZ A env l frs n ρ)(e:Ext n ρ h n' ρ' h'):aZ A env l frs n' ρ':=
 ⟨x.frames,x.at_.trans (F1 fun i hi=>by exact rK (e.same i (x.lt i hi) ..) rfl),x.kind,fun i hi=>DR (x.lt i hi) e.le⟩
noncomputable def ew (σ:Hp) (frs:List Nat):Prop:= ∀i∈frs,∃m,σ[i]?=some (.fr m)
section
variable{cx:Cx}{K:Frag}{mg mb:Str→Option Value}{T:Tab}{A:Around}{σ σ1 σ2:Hp}{ρ:Ids}{s:Shared}{F:Ev}{O:Orc}{ee:EE}{env:Env}
noncomputable abbrev FOf (ρ:Ids) (frs:List Nat):Addr→Prop:=fun b=> ∃i∈frs,b=ρ i
theorem fH{l:List Env}{frs:List Nat}(st:aZ A env l frs σ.length ρ)(hfr:ew σ frs){h:Heap}(S:Sat cx σ ρ h): ∀x∈env::l,∃L o es ep,x.frame=some L∧FOf ρ frs L∧h.get? L=some o∧o.data=.dict es ep:=by
 intro x hx
 have:x.frame∈(env::l).map (·.frame):=Fu hx
 rw[st.at_]at this
 refine o12 (Fh.mp this) fun i hi e=>?_
 refine o11 (hfr i hi) fun m hm=>?_
 refine o12 (S.obj _ _ hm) fun mm n1q _=>?_;obtain⟨o,es,ep,h1,h2,_⟩:=n1q
 exact⟨ρ i,o,es,ep,e.symm,⟨i,hi,rfl⟩,h1,h2⟩
theorem mV{frs:List Nat}(hfr:ew σ frs){h:Heap}(S:Sat cx σ ρ h): ∀b,FOf ρ frs b→ ∃o,h.get? b=some o:=by
 rintro b ⟨i,hi,rfl⟩
 refine o11 (hfr i hi) fun m hm=>?_
 exact S.live i (aI hm)
theorem cy.sat{frs:List Nat}{h0 h:Heap}(S:Sat cx σ ρ h0)(hfr:ew σ frs)(Y:cy (FOf ρ frs) h0 h):Sat cx σ ρ h∧Ext σ.length ρ h0 σ.length ρ h:=by
 have mA: ∀i,i<σ.length→i∉frs→ ¬FOf ρ frs (ρ i):=fun i hi hn y3k=>o12 y3k fun j hj e=>by
  refine o11 (hfr j hj) fun m hm=>?_
  have:=S.inj i j hi (aI hm) e
  exact hn (this▸hj)
 have x:Ext σ.length ρ h0 σ.length ρ h:=by
  refine⟨DQ _,fun _ _=>rfl,fun i h1 h2=>absurd h2 (Fc.mpr h1),fun a o e ha=>Y.keep a o e ?_⟩
  rintro⟨j,hj,rfl⟩
  refine o11 (hfr j hj) fun m hm=>?_
  exact ha j (aI hm) rfl
 refine⟨⟨S.inj,S.own,fun i hi=>?_,fun a o e=>?_,fun i o e=>?_⟩,x⟩
 ·refine o11 (S.live i hi) fun o ho=>?_
  refine o12 (Y.kin _ _ ho) fun o' k _=>?_
  exact⟨o',k⟩
 ·refine Y.keep a o (S.keep a o e) ?_
  rintro⟨j,hj,rfl⟩
  refine o11 (hfr j hj) fun m hm=>?_
  have:=S.own j (aI hm)
  replace this:=(e ..)▸this;cases this
 ·by_cases q:i∈frs
  ·refine o11 (hfr i q) fun m hm=>?_
   replace e:=(hm ..)▸e
   cases e
   refine o12 (S.obj _ _ hm) fun mm n1q f=>?_;obtain⟨o,es,ep,h1,h2,h3⟩:=n1q
   refine o12 (Y.kin _ _ h1) fun o' k1 k2=>?_
   exact⟨mm,⟨o',es,ep,k1,k2.data.trans h2,h3⟩,f.ext x⟩
  ·exact OR.ext x (fun ob hob=>Y.keep _ _ hob (mA i (aI e) q)) o (S.obj i o e)
noncomputable def lI (cx:Cx) (n:Nat) (ρ:Ids) (s:Shared) (σb:Hp) (frs:List Nat) (x:Value) (s':Shared):Prop:=
 ∃e ρb sb,x=.ref e∧Aft cx n ρ s σb ρb sb∧Exn sb.heap s'.heap e∧cy (FOf ρb frs) sb.heap s'.heap∧s'.gens=sb.gens∧s'.os=sb.os
noncomputable def RRk (cx:Cx) (ee:EE) (frs:List Nat) (l:List Stmt) (σ σb:Hp):Prop:=Hid (∀(A:Around) (ρ:Ids) (s:Shared) (env:Env) (le:List Env),aj A ee.d→ax ee σ.length ρ env→aZ A env le frs σ.length ρ→Sat cx σ ρ s.heap→
 wpAny (model cx.prog cx.w) A (execs l env) (fun _ _=>False) (fun x s'=>lI cx σ.length ρ s σb frs x s') s)
noncomputable def SSk (cx:Cx) (ee:EE) (frs:List Nat) (l:List Stmt) (σ:Hp) (f:Fl) (σ':Hp):Prop:=Hid (∀(A:Around) (ρ:Ids) (s:Shared) (env:Env) (le:List Env),aj A ee.d→ax ee σ.length ρ env→aZ A env le frs σ.length ρ→Sat cx σ ρ s.heap→ak cx A σ ρ s (execs l env) σ' (fun n ρ h x=>FlR n ρ h f x))
structure S1k(cx:Cx)(ee:EE)(frs:List Nat)(t:Stmt)(σ:Hp)(f:Fl)(σ':Hp):Prop where
 it: ∀(A:Around) (ρ:Ids) (s:Shared) (env:Env) (le:List Env),aj A ee.d→ax ee σ.length ρ env→aZ A env le frs σ.length ρ→Sat cx σ ρ s.heap→ak cx A σ ρ s (exec t env) σ' (fun n ρ h x=>FlR n ρ h f x)
variable{frs:List Nat}{f:Fl}
theorem SS.k{l:List Stmt}(h:SS cx ee l σ f σ1):SSk cx ee frs l σ f σ1:=.mk fun A ρ s env _ r e _ S=>h.it A ρ s env r e S
theorem S1.k{t:Stmt}(h:S1 cx ee t σ f σ1):S1k cx ee frs t σ f σ1:=.mk fun A ρ s env _ r e _ S=>h.it A ρ s env r e S
theorem SSk.cons{t:Stmt}{l:List Stmt}(h1:S1k cx ee frs t σ .next σ1)(h2:SSk cx ee frs l σ1 f σ2):SSk cx ee frs (t::l) σ f σ2:=.mk fun A ρ s env le r e st S=>
 wpAny_execs_cons ((h1.it A ρ s env le r e st S).use fun x ρ1 s1 x1 r1=>by
  have r1:x=.next:=r1
  subst r1
  exact ak.fin x1 (h2.it _ _ _ _ _ r (e.ext x1.ext) (st.ext x1.ext) x1.sat))
theorem SSk.append{l m:List Stmt}(h1:SSk cx ee frs l σ .next σ1)(h2:SSk cx ee frs m σ1 f σ2):SSk cx ee frs (l++m) σ f σ2:=.mk fun A ρ s env le r e st S=>by
 refine rK (be ..) ?_
 refine wpAny_bind ((h1.it A ρ s env le r e st S).use fun x ρ1 s1 x1 r1=>?_)
 have r1:x=.next:=r1
 subst r1
 exact ak.fin x1 (h2.it _ _ _ _ _ r (e.ext x1.ext) (st.ext x1.ext) x1.sat)
theorem S1k.iteF{t:Expr}{b c:List Stmt}{pos:Pos}(h1:TT cx ee t σ false σ1)(h2:SSk cx ee frs c σ1 f σ2):S1k cx ee frs (.If t b c pos) σ f σ2:=.mk fun A ρ s env le r e st S=>
 wpAny_If ((h1.it A ρ s env r e S).use fun x ρ1 s1 x1 r1=>by
  subst r1
  exact ak.fin x1 (h2.it _ _ _ _ _ r (e.ext x1.ext) (st.ext x1.ext) x1.sat))
theorem RRk.after{l m:List Stmt}{σb:Hp}(h1:SS cx ee l σ .next σ1)(h2:RRk cx ee frs m σ1 σb):RRk cx ee frs (l++m) σ σb:=.mk fun A ρ s env le r e st S=>by
 refine rK (be ..) ?_
 refine wpAny_bind ((h1.it A ρ s env r e S).use fun x ρ1 s1 x1 r1=>?_)
 have r1:x=.next:=r1
 subst r1
 refine wpAny_mono (h2.it _ _ _ _ _ r (e.ext x1.ext) (st.ext x1.ext) x1.sat) (fun _ _ z=>z.elim) fun x s' y2k=>o33 y2k fun ex ρb sb a1 a2 a3=>⟨ex,ρb,sb,a1,x1.trans a2,a3⟩
end
section
variable{cx:Cx}{K:Frag}{mg mb:Str→Option Value}{T:Tab}{A:Around}{σ σ1 σ2 σb:Hp}{ρ:Ids}{s:Shared}{F:Ev}{O:Orc}{ee:EE}{env:Env}{frs fe:List Nat}{f:Fl}
theorem pd(B:Base cx K mg mb)(g:lK T mg mb)(e:ax ee σ.length ρ env)(hp: ∀a o,cx.h₀.get? a=some o→s.heap.get? a=some o){x:Str}{v:V}(hl:ee.scope.names.lookup x=some .globalImplicit)(hv:T.glob.lookup x=some v)
  {Q:Value→Shared→Prop} {E:Value→Shared→Prop} (h: ∀y,VR 0 zero {} v y→Q y s):wpAny (model cx.prog cx.w) A (loadName env x) Q E s:=by
 obtain⟨ha,y',hv',hm⟩:=g _ _ hv
 have hk:env.scope.kind=.function:=by refine rK (e.scope ..) ?_;exact e.kind
 have hko:env.kindOf x=some .globalImplicit:=by unfold Env.kindOf;refine rK (e.scope ..) ?_;exact hl
 have goal:wpAny (model cx.prog cx.w) A (loadGlobal env x) Q E s:=by
  rcases hm with hm | ⟨hm,hb⟩
  ·exact loadGlobal_global (by refine rK (e.glob ..) ?_;exact B.G.keeps hp) hm (h _ hv')
  ·exact loadGlobal_builtin (by refine rK (e.glob ..) ?_;exact B.G.keeps hp) hm (by refine rK (e.bi ..) ?_;exact B.B.keeps hp) hb (h _ hv')
 unfold loadName
 refine rK (if_neg (by rw[hk];simp[ScopeKind.isAnnotationScope]) ..) ?_
 have hbk:env.blockKind=.function:=by unfold Env.blockKind;rw[hk];rfl
 rw[hbk,hko]
 exact goal
theorem gI{n ρ h}{y:Value}(v:VR n ρ h (.ty .keyError) y):y=.type "KeyError":=v
noncomputable def RXk (cx:Cx) (ee:EE) (frs fe:List Nat) (e0:Expr) (σ σb:Hp):Prop:=Hid (∀(A:Around) (ρ:Ids) (s:Shared) (env:Env) (le:List Env),aj A ee.d→ax ee σ.length ρ env→aZ A env le frs σ.length ρ→Sat cx σ ρ s.heap→
 wpAny (model cx.prog cx.w) A (eval e0 env) (fun _ _=>False) (fun x s'=>lI cx σ.length ρ s σb fe x s') s)
theorem oA{h h':Heap}{e:Addr}(x:Heap.NewExc h h' e "KeyError"):Exn h h' e:=by
 refine o23 x.there fun ob t h1 h2 h3=>?_
 exact⟨x.new,ob,_,h1,h2,h3,.inl rfl⟩
theorem lJ{F:Addr→Prop}{h h':Heap}{e:Addr}{X:String}(x:Heap.NewExc h h' e X):cy F h h':=⟨fun b o q _=>x.keeps b o q,fun b o q=>⟨o,x.keeps b o q,.refl o⟩⟩
theorem RRk.raise(H:Ok cx K mg mb T){e0:Expr}{x:Str}{p1 p2 pos:Pos}{v:V}(hx:ee.scope.names.lookup x=some .globalImplicit)(hg:T.glob.lookup x=some (.ty .keyError))(hd:(x==("__debug__":Str))=false)(hs: ∀env,starEach [e0] env=[(false,eval e0 env)])(h1:XX cx ee e0 σ v σ1):
  RRk cx ee frs [.Raise (some (.Call (.Name x p1) [e0] [] p2)) none pos] σ σ1:=by
 refine .mk ?_
 intro A ρ s env le r e st S
 refine wpAny_execs_cons ?_
 refine Raise_new r.handled ?_
 refine Call_Name1 ?_ (hs env)
 refine wpAny_Name ?_ hd
 refine pd H.B H.G e S.keep hx hg fun y hy=>?_
 refine rK (gI hy ..) ?_
 refine PySem.callWith_type1 ?_
 refine(h1.it _ _ _ _ r e S).use fun z ρ1 s1 x1 r1=>?_
 exact call_exc_raise excClass_KeyError fun h' ex hx'=>⟨ex,ρ1,s1,rfl,x1,oA hx',lJ hx',rfl,rfl⟩
noncomputable def RCk (cx:Cx) (fe:List Nat) (A:Around) (σ:Hp) (ρ:Ids) (s:Shared) (x:Value) (xs:List Value) (σb:Hp):Prop:=
 codeAny (model cx.prog cx.w) A (.call x ⟨xs,[]⟩) (fun r s'=> ∃y,r=.error y∧lI cx σ.length ρ s σb fe y s') s
theorem mj(H:Ok cx K mg mb T){d:Nat}(r:aj A (d+1)){a:Addr}{fn:Fn}{obj:Obj}{fd:FuncData}(k:rS cx a fn obj fd)(S:Sat cx σ ρ s.heap){args:List V}{bs:List (Str×V)}{xs:List Value}{le:List Env}(st:aZ A env le frs σ.length ρ)
  (hv:VRs σ.length ρ s.heap args xs) (hb:bw fn.dfl [] fn.pars args=some bs) {o:Out EE} (he:enter fn d bs σ=some o) (w:RRk cx o.v (o.v.fr::frs) fn.body o.σ σb) (hfr:ew σb (o.v.fr::frs)) (hnf:o.v.fr<o.σ.length):
  RCk cx (o.v.fr::frs) A σ ρ s (.ref a) xs σb:=by
 refine o13 (cb (ks:=[]) k.toFnAt S hb hv ix) fun ys y1 y2 y3=>?_
 have hsc:=k.scope
 refine codeAny_call_function r.lt (S.keep _ _ k.at_) k.data (by rw[hsc];exact k.plain.2) (by rw[hsc];exact k.plain.1) k.body (k.code.keeps S.keep) (y3 _ _ _ _ ?_)
 refine o02 (b8 (A:=A.in1) k.toFnAt S y2 y1 he) fun z1 z2=>?_
 refine wpAny_mono z1 (fun env2 s2 y2k=>o13 y2k fun ρ1 x1 e1 e2=>⟨H.B.lim.keeps x1.sat.keep,codeAny_func ?_⟩) fun _ _ f=>f.elim
 have r2:aj (A.deeper env2) o.v.d:=by rw[z2];exact r.deeper
 have st0:=st.ext x1.ext
 have st2:aZ (A.deeper env2) env2 (env::le) (o.v.fr::frs) o.σ.length ρ1:=by
  refine⟨?_,?_,fun x hx=>?_,fun i hi=>?_⟩
  ·show A.frames.map (env2:: ·)=_
   rw[st0.frames];rfl
  ·show env2.frame::(env::le).map (·.frame)=some (ρ1 o.v.fr)::frs.map _
   exact rK (e2 ..) (rK (e1.loc ..) (rK (st0.at_ ..) rfl))
  ·rcases D1.mp hx with rfl | hx
   ·rw[e1.scope,e1.kind];decide
   ·exact st0.kind x hx
  ·rcases D1.mp hi with rfl | hi
   ·exact hnf
   ·exact st0.lt i hi
 refine wpAny_mono (w.it _ _ _ _ _ r2 e1 st2 x1.sat) (fun _ _ z=>z.elim) fun y s3 ⟨ex,ρb,sb,hy,a1,X,Y,g1,g2⟩=>?_
 subst hy
 have st3:=st2.ext a1.ext
 have hf0:=fH st3 hfr a1.sat
 have hF0:=mV hfr a1.sat
 unfold leaving
 refine wpAny_bind (mz st3.frames st3.kind hf0 hF0 X Y fun h1 X1 Y1=>?_)
 refine ef (s:={s3 with heap:=h1}) X1 Y1 fun h2 X2 Y2=>?_
 exact⟨_,rfl,ex,ρb,sb,rfl,x1.trans a1,X2,Y2,g1,g2⟩
theorem dz(H:Ok cx K mg mb T)(HF:aw cx F)(r:aj A ee.d)(e:ax ee σ.length ρ env)(S:Sat cx σ ρ s.heap){obj:Expr}{name:Str}{ap pos:Pos}{as:List Expr}{o1:Out V}{o3:Out (V×List V)}{o5:Out (List V)}(hb:aQ obj=true)(hn:EH as.length 20=true)(hl:DI ap.endLine pos.line=true)
  (h1:F.ex ee obj σ=some o1) (b1:o1.ob) (h3:meth T o1.v name o1.σ=some o3) (b3:o3.ob) (ha:noStar as=true) (h5:exs F ee as o3.σ=some o5) (b5:o5.ob) (hc:calleeOk T o3.v.1=true) {Q:Value→Shared→Prop} {E:Value→Shared→Prop}
  (hk: ∀x xs ρ' s',Aft cx σ.length ρ s o5.σ ρ' s'→VR o5.σ.length ρ' s'.heap o3.v.1 x→VRs o5.σ.length ρ' s'.heap (o3.v.2++o5.v) xs→wpAny (model cx.prog cx.w) A (call x xs []) Q E s'):
  wpAny (model cx.prog cx.w) A (eval (.Call (.Attribute obj name ap) as [] pos) env) Q E s:=by
 have hp:(backTo pos (starEach as env)).any (·.1)=false:=(er _).trans (c6 ha)
 refine rK (arm_eval_Call ..) (rK (dA hb ..) ?_)
 refine wpAny_bind ((HF.ex r e S _ h1 b1).use fun ov ρ1 s1' x1 r1=>wpAny_bind (wpAny_standAt ?_))
 unfold methodCall
 show wpAny _ A (holding [ov] _>>=_) _ _ _
 refine rK (show methodCallForm (as.length+([]:List Keyword).length) (backTo pos (starEach as env)) (backToKw pos (keywordEach [] env))=true from few ha (ED.mp hn)) ?_
 obtain⟨e3,m3⟩:=jY (A:=A) (pl:=(do return(←importBound obj env).getD true)) H.B H.C H.L x1.sat r1 _ h3 b3
 replace h5:=(e3 ..)▸h5
 refine wpAny_bind (wpAny_holding (m3.use fun p ρ2 s2' x2 r2=>?_))
 obtain⟨f,first⟩:=p
 refine wpAny_bind ?_
 unfold methodCallPos
 refine rK (show(ap.endLine==pos.line)=true from beq_iff_eq.mpr (DK hl)) ?_
 refine wpAny_pure (cF hp rfl (cE hp ?_))
 refine(di HF r ha ((e.ext x1.ext).ext x2.ext) x2.sat _ h5 b5).use fun vs ρ3 s3 x3 r3=>?_
 have hf2:=VR.ext x3.ext _ _ r2.1
 exact⟨gD H x3.sat hf2 hc,hk _ _ _ _ ((x1.trans x2).trans x3) hf2 (VRs.append (VRs.ext x3.ext _ _ r2.2) r3.1)⟩
end
section
variable{cx:Cx}{K:Frag}{mg mb:Str→Option Value}{T:Tab}{A:Around}{σ σ1 σ2 σb:Hp}{ρ:Ids}{s:Shared}{F:Ev}{O:Orc}{ee:EE}{env:Env}{frs fe:List Nat}{f:Fl}
theorem RXk.meth(H:Ok cx K mg mb T)(HF:aw cx F){obj:Expr}{name:Str}{ap pos:Pos}{as:List Expr}{o1:Out V}{o3:Out (V×List V)}{o5:Out (List V)}{a:Addr}(hb:aQ obj=true)(hn:EH as.length 20=true)(hl:DI ap.endLine pos.line=true)
  (h1:F.ex ee obj σ=some o1) (b1:o1.ob) (h3:meth T o1.v name o1.σ=some o3) (b3:o3.ob) (hs:noStar as=true) (h5:exs F ee as o3.σ=some o5) (b5:o5.ob) (hc:calleeOk T o3.v.1=true) (ha:o3.v.1=.old a)
  (ht: ∀{A:Around} {ρ:Ids} {s:Shared} {xs:List Value} {env:Env} {le:List Env},aj A ee.d→aZ A env le frs o5.σ.length ρ→Sat cx o5.σ ρ s.heap→VRs o5.σ.length ρ s.heap (o3.v.2++o5.v) xs→RCk cx fe A o5.σ ρ s (.ref a) xs σb):
  RXk cx ee frs fe (.Call (.Attribute obj name ap) as [] pos) σ σb:=by
 refine⟨fun A ρ s env le r e st S=>?_⟩
 refine dz H HF r e S hb hn hl h1 b1 h3 b3 hs h5 b5 hc fun x xs ρ1 s1 x1 r1 v1=>?_
 replace r1:=(ha ..)▸r1
 have r1:x=.ref a:=r1
 subst r1
 refine wpAny_call (codeAny_mono (ht r (st.ext x1.ext) x1.sat v1) fun rr s' ⟨y,hy,ex,ρb,sb,q1,a1,a2⟩=>?_)
 subst hy
 exact⟨ex,ρb,sb,q1,x1.trans a1,a2⟩
noncomputable def RFk (cx:Cx) (ee:EE) (frs fe:List Nat) (l:List Stmt) (σ σb:Hp):Prop:=Hid (∀(A:Around) (ρ:Ids) (s:Shared) (env:Env) (le:List Env),aj A ee.d→ax ee σ.length ρ env→aZ A env le frs σ.length ρ→Sat cx σ ρ s.heap→
 wpAny (model cx.prog cx.w) A (execs l env) (fun _ _=>False) (fun x s'=>lI cx σ.length ρ s σb fe x s') s)
theorem RRk.assign{t e0:Expr}{pos:Pos}{rest:List Stmt}(hc:kC e0=false)(hw:gM t e0=false)(h1:RXk cx ee frs fe e0 σ σb):RFk cx ee frs fe (.Assign [t] e0 pos::rest) σ σb:=by
 exact⟨fun A ρ s env le r e st S=>wpAny_execs_cons (wpAny_Assign_stores (wpAny_mono (h1.it _ _ _ _ _ r e st S) (fun _ _ z=>z.elim) fun _ _ z=>z) (fh hc (some t) pos.line) (eB hw))⟩
theorem S1k.tryKey(H:Ok cx K mg mb T)(hfe: ∀i∈frs,i∈fe){body orelse:List Stmt}{x y:Str}{p hpos pos apos cpos q:Pos}{ck:Nat}{o:Out Unit}(hx:ee.scope.names.lookup x=some .globalImplicit)(hg:T.glob.lookup x=some (.ty .keyError))(hd:(x==("__debug__":Str))=false)
  (h1:RFk cx ee frs fe body σ σb)
  (hfr:ew σb fe) (h2:st ee y .none σb=some o):
  S1k cx ee frs (.Try body [.ExceptHandler (some (.Name x p)) none [.Assign [.Name y q] (.Constant .none ck cpos) apos] hpos] orelse [] pos) σ .next o.σ:=by
 refine .mk ?_
 intro A ρ s env le r e st S
 refine wpAny_Try_except (wpAny_mono (h1.it _ _ _ _ _ r e st S) (fun _ _ z=>z.elim) fun v s1 ⟨ex,ρb,sb,hv,a1,X,Y,g1,g2⟩=>?_)
 subst hv
 have stb:=st.ext a1.ext
 have F0:=mV hfr a1.sat
 have hf0: ∀z∈env::le,∃L ob es ep,z.frame=some L∧FOf ρb fe L∧sb.heap.get? L=some ob∧ob.data=.dict es ep:=fun z hz=>by
  refine o44 (fH stb (fun i hi=>hfr i (hfe i hi)) a1.sat z hz) fun L ob es ep k1 n5q k3 k4=>?_;obtain⟨i,hi,k2⟩:=n5q
  exact⟨L,ob,es,ep,k1,⟨i,hfe i hi,k2⟩,k3,k4⟩
 refine mz stb.frames stb.kind hf0 F0 X Y fun h2' X2 Y2=>?_
 refine ef (s:={s1 with heap:=h2'}) X2 Y2 fun h3 X3 Y3=>?_
 refine o02 (Y3.sat a1.sat hfr) fun S3 E3=>?_
 refine wpAny_handleBy_builtin (X:="KeyError") (T:="KeyError") (b:=true) excClass_KeyError.base (by kernel_rfl) excClass_KeyError.self ?_
 have eb:=e.ext a1.ext
 refine wpAny_Name ?_ hd
 refine pd (s:={s1 with heap:=h3}) H.B H.G eb S3.keep hx hg fun z hz=>?_
 refine rK (gI hz ..) ?_
 refine o23 X3.there fun ob vs k1 k2 _=>?_
 refine⟨rfl,⟨ob,k1,k2⟩,?_⟩
 refine rK (if_pos rfl ..) ?_
 refine ef (s:={s1 with heap:=h3}) X3 Y3 fun h4 X4 Y4=>?_
 refine o02 (Y4.sat a1.sat hfr) fun S4 E4=>?_
 have hs:swapsWithSole [Expr.Name y q] (.Constant .none ck cpos) apos.line env=pure false:=rfl
 have hsw:swappedStores [Expr.Name y q] (.Constant .none ck cpos) env=pure none:=rfl
 refine wpAny_execs_cons (wpAny_Assign_stores ?_ hs hsw)
 refine(i3 (c:=.none) (v:=.none) S4 rfl).use fun z ρ5 s5 x5 r5=>?_
 show wpAny _ _ (PySem.assign (.Name y q) env z) _ _ s5
 refine wpAny_assign_Name ?_
 refine(kO (eb.ext x5.ext) x5.sat r5 h2).use fun _ ρ6 s6 x6 _=>?_
 have x4:Aft cx σb.length ρb sb σb ρb {s1 with heap:=h4}:=⟨S4,E4,g1,g2⟩
 exact wpAny_execs_nil ((a1.trans (x4.trans (x5.trans x6))).post rfl)
theorem S1.tryOk{body orelse:List Stmt}{h0:ExceptHandler}{hs:List ExceptHandler}{pos:Pos}(h1:SS cx ee body σ .next σ1)(h2:SS cx ee orelse σ1 f σ2):S1 cx ee (.Try body (h0::hs) orelse [] pos) σ f σ2:=.mk fun A ρ s env r e S=>
 wpAny_Try_except ((h1.it _ _ _ _ r e S).use fun x ρ1 s1 x1 r1=>by
  have r1:x=.next:=r1
  subst r1
  exact ak.fin x1 (h2.it _ _ _ _ r (e.ext x1.ext) x1.sat))
theorem i7(H:Ok cx K mg mb T){d:Nat}(r:aj A (d+1)){a:Addr}{fn:Fn}{obj:Obj}{fd:FuncData}(k:rS cx a fn obj fd)(S:Sat cx σ ρ s.heap){args:List V}{bs:List (Str×V)}{xs:List Value}{le:List Env}(st:aZ A env le frs σ.length ρ)
  (hv:VRs σ.length ρ s.heap args xs) (hb:bw fn.dfl [] fn.pars args=some bs) {o:Out EE} (he:enter fn d bs σ=some o) {σ2:Hp} {v:V} (hf:yR f=some v) (w:SSk cx o.v (o.v.fr::frs) fn.body o.σ f σ2) (hnf:o.v.fr<o.σ.length):
  ah cx A σ ρ s (.ref a) xs [] σ2 v:=by
 refine o13 (cb (ks:=[]) k.toFnAt S hb hv (rfl)) fun ys y1 y2 y3=>?_
 have hsc:=k.scope
 refine codeAny_call_function r.lt (S.keep _ _ k.at_) k.data (by rw[hsc];exact k.plain.2) (by rw[hsc];exact k.plain.1) k.body (k.code.keeps S.keep) (y3 _ _ _ _ ?_)
 refine o02 (b8 (A:=A.in1) k.toFnAt S y2 y1 he) fun z1 z2=>?_
 refine wpAny_mono z1 (fun env2 s2 y2k=>o13 y2k fun ρ1 x1 e1 e2=>⟨H.B.lim.keeps x1.sat.keep,codeAny_func ?_⟩) fun _ _ f=>f.elim
 have r2:aj (A.deeper env2) o.v.d:=by rw[z2];exact r.deeper
 have st0:=st.ext x1.ext
 have st2:aZ (A.deeper env2) env2 (env::le) (o.v.fr::frs) o.σ.length ρ1:=by
  refine⟨?_,?_,fun x hx=>?_,fun i hi=>?_⟩
  ·show A.frames.map (env2:: ·)=_
   rw[st0.frames];rfl
  ·show env2.frame::(env::le).map (·.frame)=some (ρ1 o.v.fr)::frs.map _
   exact rK (e2 ..) (rK (e1.loc ..) (rK (st0.at_ ..) rfl))
  ·rcases D1.mp hx with rfl | hx
   ·rw[e1.scope,e1.kind];decide
   ·exact st0.kind x hx
  ·rcases D1.mp hi with rfl | hi
   ·exact hnf
   ·exact st0.lt i hi
 refine wpAny_mono (w.it _ _ _ _ _ r2 e1 st2 x1.sat) (fun fl s3 y2k=>o12 y2k fun ρ2 x2 f2=>?_) fun _ _ f=>f.elim
 dsimp only
 induction f
 ·have f2:fl=.next:=f2
  subst f2
  cases hf
  exact(x1.trans x2).post (rfl)
 ·cases hf
 ·cases hf
 ·refine o12 f2 fun x e1q hx=>?_;subst e1q
  cases hf
  exact(x1.trans x2).post hx
theorem S1k.callMeth(H:Ok cx K mg mb T)(HF:aw cx F){obj:Expr}{name:Str}{ap pos p2:Pos}{as:List Expr}{o1:Out V}{o3:Out (V×List V)}{o5:Out (List V)}{a:Addr}(hb:aQ obj=true)(hn:EH as.length 20=true)(hl:DI ap.endLine pos.line=true)
  (h1:F.ex ee obj σ=some o1) (b1:o1.ob) (h3:meth T o1.v name o1.σ=some o3) (b3:o3.ob) (hs:noStar as=true) (h5:exs F ee as o3.σ=some o5) (b5:o5.ob) (hc:calleeOk T o3.v.1=true) (ha:o3.v.1=.old a)
  (ht: ∀{A:Around} {ρ:Ids} {s:Shared} {xs:List Value} {env:Env} {le:List Env},aj A ee.d→aZ A env le frs o5.σ.length ρ→Sat cx o5.σ ρ s.heap→VRs o5.σ.length ρ s.heap (o3.v.2++o5.v) xs→ah cx A o5.σ ρ s (.ref a) xs [] σ2 .none):
  S1k cx ee frs (.Expr (.Call (.Attribute obj name ap) as [] pos) p2) σ .next σ2:=by
 refine .mk ?_
 intro A ρ s env le r e st S
 have hk:env.scope.kind=.function:=by refine rK (e.scope ..) ?_;exact e.kind
 have hint:interactive env=false:=by unfold interactive;refine rK (hk ..) ?_;rfl
 refine wpAny_Expr ?_ hint rfl
 refine dz H HF r e S hb hn hl h1 b1 h3 b3 hs h5 b5 hc fun x xs ρ1 s1 x1 r1 v1=>?_
 replace r1:=(ha ..)▸r1
 have r1:x=.ref a:=r1
 subst r1
 refine(ht r (st.ext x1.ext) x1.sat v1).call.use fun y ρ2 s2 x2 r2=>?_
 refine rK (u6 r2 ..) ?_
 exact(x1.trans x2).post rfl
end
section
variable{cx:Cx}{K:Frag}{mg mb:Str→Option Value}{T:Tab}{A:Around}{σ σ1 σ2 σb:Hp}{ρ:Ids}{s:Shared}{F:Ev}{O:Orc}{ee:EE}{env:Env}{frs fe:List Nat}{f:Fl}
theorem TT.inC(H:Ok cx K mg mb T){l rt:Expr}{pos:Pos}{a:V}{c C f:Addr}{kvs:List (Str×V)}{m:Nat→List V→List (Str×V)→M V}{q:Bool}{o:Out V}(hn:cp [rt]=true)(h1:XX cx ee l σ a σ1)(h2:XX cx ee rt σ1 (.old c) σ2)
  (hc:T.cons.lookup c=some (.cinst C kvs)) (hfi:findIn K (.ref C) "__contains__"=some (some (.ref f))) (hif:isFn K (.ref f)=true) (tm:oz cx f m) (hm:m ee.d [.old c,a] [] σ2=some o) (ob:o.ob) (hv:o.v=.bool q):TT cx ee (.Compare l [.In] [rt] pos) σ q o.σ:=by
 refine .mk ?_
 intro A ρ s env r e S
 refine rK (arm_isTrue_Compare ..) (rK (co [.In] hn ..) ?_)
 refine wpAny_bind ((h1.it _ _ _ _ r e S).use fun x ρ1 s1 x1 r1=>?_)
 show wpAny _ A (holding [x] (eval rt env)>>=fun rv=>standAt pos>>=fun _=>operate [x,rv] (compareOp .In x rv)>>=fun c=>holding [c] (truthy c)) _ _ _
 refine wpAny_bind (wpAny_holding ((h2.it _ _ _ _ r (e.ext x1.ext) x1.sat).use fun y ρ2 s2 x2 r2=>wpAny_bind (wpAny_standAt (wpAny_bind (fv ?_)))))
 have hy:y=.ref c:=r2
 subst hy
 have X:K.In s2.heap:=H.B.X.keeps x2.sat.keep
 refine o23 (H.C.at x2.sat hc) fun d ps g1 n3q _=>?_;obtain⟨od,es,ep,g2,_⟩:=n3q
 have I:InstAt s2.heap c (instObj C d) C (some od):=⟨g1,rfl,rfl,g2⟩
 show wpAny _ A (contains (.ref c) x>>=fun b=>pure (Value.bool b)) _ _ _
 refine wpAny_bind ?_
 unfold contains
 refine wpAny_holding (wpAny_bind (wpAny_bind (I.type.here ((looks_findIn X hfi).here ?_))))
 refine rK (if_neg (by simp) ..) ?_
 refine wpAny_bind (unlessNone_K X I hfi hif ?_)
 have hxa:=VR.ext x2.ext _ _ r1
 refine(tm.it r x2.sat (xs:=[.ref c,x]) ?_ (ks:=[]) ix hm ob).call.use fun z ρ3 s3 x3 r3=>?_
 ·exact Ee _ (Ee _ ⟨rfl,rfl,u5 hxa⟩)
 ·have hz:z=.bool q:=by replace r3:=(hv ..)▸r3;exact kG r3
  subst hz
  refine wpAny_truthy_bool ?_
  refine wpAny_pure ?_
  refine wpAny_holding (wpAny_truthy_bool ?_)
  exact((x1.trans x2).trans x3).post rfl
end
section
variable{cx:Cx}{K:Frag}{mg mb:Str→Option Value}{T:Tab}{A:Around}{σ σ1 σ2 σb:Hp}{ρ:Ids}{s:Shared}{F:Ev}{O:Orc}{ee:EE}{env:Env}{frs fe:List Nat}{f:Fl}
theorem gg(H:Ok cx K mg mb T)(HF:aw cx F)(r:aj A ee.d)(e:ax ee σ.length ρ env)(S:Sat cx σ ρ s.heap){x:Str}{p pos:Pos}{as:List Expr}{o1:Out V}{o5:Out (List V)}
  (h1:F.ex ee (.Name x p) σ=some o1) (b1:o1.ob) (hs:noStar as=true) (h5:exs F ee as o1.σ=some o5) (b5:o5.ob) (hc:calleeOk T o1.v=true) {Q:Value→Shared→Prop} {E:Value→Shared→Prop}
  (hk: ∀y xs ρ' s',Aft cx σ.length ρ s o5.σ ρ' s'→VR o5.σ.length ρ' s'.heap o1.v y→VRs o5.σ.length ρ' s'.heap o5.v xs→wpAny (model cx.prog cx.w) A (call y xs []) Q E s'):
  wpAny (model cx.prog cx.w) A (eval (.Call (.Name x p) as [] pos) env) Q E s:=by
 have hp:(backTo pos (starEach as env)).any (·.1)=false:=(er _).trans (c6 hs)
 refine wpAny_Call_Name_kw ((HF.ex r e S _ h1 b1).use fun f ρ1 s1' x1 r1=>cF hp rfl (cE hp ?_))
 refine(di HF r hs (e.ext x1.ext) x1.sat _ h5 b5).use fun vs ρ3 s3 x3 r3=>?_
 have hf2:=VR.ext x3.ext _ _ r1
 refine⟨gD H x3.sat hf2 hc,?_⟩
 exact hk _ _ _ _ (x1.trans x3) hf2 r3.1
theorem Bn{n ρ h}{a b:V}{ys:List Value}(v:VRs n ρ h [a,b] ys): ∃x y,ys=[x,y]∧VR n ρ h a x∧VR n ρ h b y:=by
 obtain⟨x,xs,rfl,h1,y,ys',rfl,h2,rfl⟩:=v
 exact⟨x,y,rfl,h1,h2⟩
theorem II.range(H:Ok cx K mg mb T)(HF:aw cx F){x:Str}{p pos:Pos}{as:List Expr}{i n:Nat}{o1:Out V}{o5:Out (List V)}(h1:F.ex ee (.Name x p) σ=some o1)(b1:o1.ob)(hs:noStar as=true)(h5:exs F ee as o1.σ=some o5)(b5:o5.ob)(hv:o1.v=.ty .range)
  (ha:o5.v=[.int (dV i),.int (dV (i+n))]) (hz:i+n<2^62):II cx ee (.Call (.Name x p) as [] pos) σ (dl (dV i) n) (fun _=>True) o5.σ:=by
 refine .mk ?_
 intro A ρ s env r e S
 refine gg H HF r e S h1 b1 hs h5 b5 (by refine rK (hv ..) ?_;rfl) fun y xs ρ1 s1 x1 r1 v1=>?_
 replace r1:=(hv ..)▸r1
 have hy:y=.type "range":=r1
 subst hy
 replace v1:=(ha ..)▸v1
 refine o23 (Bn v1) fun a b e2q n3q n4q=>?_;subst e2q;obtain⟨t,rfl⟩:=n3q;obtain⟨u,rfl⟩:=n4q
 refine call_range_2 ?_
 have hsm:Builtin.Range.small (dV i) (dV (i+n)) 1=true:=small_one (by simp only[DN];(exact Ey (2^62) i)) (by simp only[DN];lia) (by simp only[DN];(exact Ey (2^62) (i+n))) (by simp only[DN];(exact Int.lt_toNat.mp hz))
 have hsz:Builtin.Range.rangeSize (dV i) (dV (i+n)) 1=(n:Int)-(0:Nat):=by
  refine rK (rangeSize_one ..) ?_
  simp only[DN]
  split<;>lia
 refine wpAny_pyIter_range (IsRange.new ..) hsm ?_
 refine rK (hsz ..) ?_
 refine o02 (x1.sat.grow (h':=s1.heap.push {cls:=.type "range",data:=.fields #[.int (dV i) t,.int (dV (i+n)) u,.int 1 s1.toks]}) fun b ob q=>Heap.get?_push_of_some _ q) fun S2 x2=>?_
 have y2:Aft cx σ.length ρ s o5.σ ρ1 {s1 with heap:=s1.heap.push {cls:=.type "range",data:=.fields #[.int (dV i) t,.int (dV (i+n)) u,.int 1 s1.toks]},toks:=s1.toks+1}:=x1.trans ⟨S2,x2,rfl,rfl⟩
 refine⟨ρ1,_,_,(· =(s1.heap.push {cls:=.type "range",data:=.fields #[.int (dV i) t,.int (dV (i+n)) u,.int 1 s1.toks]}).objs.size),fun k _ _ h=>k≤n∧IsRangeIter h (s1.heap.push {cls:=.type "range",data:=.fields #[.int (dV i) t,.int (dV (i+n)) u,.int 1 s1.toks]}).objs.size (dV i+k) ((n:Int)-k) 1,rfl,y2,nL r.handled,fun{k σ ρ s' σ' ρ' s''} hat y hj _ _=>?_,fun{k σ ρ h} hat c hc=>⟨_,hc▸hat.2⟩,⟨DU _,by have:=Heap.get?_push_size (s1.heap.push {cls:=.type "range",data:=.fields #[.int (dV i) t,.int (dV (i+n)) u,.int 1 s1.toks]}) (o:={cls:=.type "range_iterator",data:=.fields #[rawInt (dV i),rawInt ((n:Int)-(0:Nat)),rawInt 1]}) rfl;simpa[IsRangeIter]using this⟩,fun c hc=>?_,fun b o' q=>Heap.get?_push_of_some _ q,rfl,rfl,trivial⟩
 ·exact⟨hat.1,y.ext.keep _ _ hat.2 hj⟩
 ·subst hc;exact Heap.get?_none_of_le (DQ _)
end
theorem SS.cutF{cx:Cx}{F:Ev}{ee:EE}{σ:Hp}(HF:aw cx F){l:List Stmt}{n:Nat}{fl ks:List Nat}{o':Out Fl}(h:cutF n fl ks (F.ss ee l σ)=some o')(hs:jg fl n o'.σ)(ob:o'.ob): ∃σ1,SS cx ee l σ o'.v σ1∧aK n σ1 ks (inv ks) o'.σ:=
 (kz h hs).imp fun σ1 q=>⟨SS.ev (o:=⟨o'.v,σ1,o'.obs⟩) HF q.1 ob,q.2⟩
section
variable{cx:Cx}{K:Frag}{mg mb:Str→Option Value}{T:Tab}{A:Around}{σ σ1 σ2 σb:Hp}{ρ:Ids}{s:Shared}{F:Ev}{O:Orc}{ee:EE}{env:Env}{frs fe:List Nat}{f:Fl}
noncomputable def TTk (cx:Cx) (ee:EE) (frs:List Nat) (t:Expr) (σ:Hp) (b:Bool) (σ':Hp):Prop:=Hid (∀(A:Around) (ρ:Ids) (s:Shared) (env:Env) (le:List Env),aj A ee.d→ax ee σ.length ρ env→aZ A env le frs σ.length ρ→Sat cx σ ρ s.heap→ak cx A σ ρ s (isTrue t env (eval t env)) σ' (fun _ _ _ q=>q=b))
theorem TTk.callKept(H:Ok cx K mg mb T)(HF:aw cx F){obj:Expr}{name:Str}{ap pos:Pos}{o1:Out V}{o3:Out (V×List V)}{g:Addr}{i:Nat}{b:Bool}(hb:aQ obj=true)(hl:DI ap.endLine pos.line=true)
  (h1:F.ex ee obj σ=some o1) (b1:o1.ob) (h3:meth T o1.v name o1.σ=some o3) (b3:o3.ob) (hc:calleeOk T o3.v.1=true) (ha:o3.v=(.meth g i,[]))
  (ht: ∀{A:Around} {ρ:Ids} {s:Shared} {xs:List Value} {env:Env} {le:List Env},aj A ee.d→aZ A env le frs o3.σ.length ρ→Sat cx o3.σ ρ s.heap→VRs o3.σ.length ρ s.heap [.ref i] xs→ah cx A o3.σ ρ s (.ref g) xs [] σ2 (.bool b)):
  TTk cx ee frs (.Call (.Attribute obj name ap) [] [] pos) σ b σ2:=by
 refine .mk ?_
 intro A ρ s env le r e st S
 refine wpAny_isTrue_value ?_ rfl
 refine dz H HF r e S hb rfl hl h1 b1 h3 b3 rfl (o5:=⟨[],o3.σ,[]⟩) rfl trivial hc fun x xs ρ1 s1 x1 r1 v1=>?_
 rw[ha]at r1 v1
 have v1:xs=[]:=v1
 subst v1
 obtain⟨hi,p,rfl,ho,_⟩:=r1
 have hd:ah cx A o3.σ ρ1 s1 (.ref g) [.ref (ρ1 i)] [] σ2 (.bool b):=ht r (st.ext x1.ext) x1.sat (u5 (vrR hi))
 refine(ah.call (method_call ho hd)).use fun y ρ2 s2 x2 r2=>?_
 have hy:y=.bool b:=kG r2
 subst hy
 refine wpAny_truthy_bool ?_
 exact(x1.trans x2).post rfl
end
section
variable{cx:Cx}{K:Frag}{mg mb:Str→Option Value}{T:Tab}{A:Around}{σ σ1 σ2 σb:Hp}{ρ:Ids}{s:Shared}{F:Ev}{O:Orc}{ee:EE}{env:Env}{frs fe:List Nat}{f:Fl}
theorem Sat.weak{h:Heap}(S:Sat cx σ ρ h){i:Nat}{m m':List (Str×V)}(hi:σ[i]?=some (.fr m))(hm: ∀x v,m'.lookup x=some v→m.lookup x=some v):Sat cx (σ.set i (.fr m')) ρ h:=by
 refine⟨?_,?_,?_,S.keep,fun j o hj=>?_⟩
 ·refine rK (DP ..) ?_;exact S.inj
 ·refine rK (DP ..) ?_;exact S.own
 ·refine rK (DP ..) ?_;exact S.live
 ·refine rK (DP ..) ?_
  replace hj:=(Fd ..)▸hj
  by_cases c:i=j
  ·subst c
   replace hj:=(if_pos (aI hi) ..)▸((if_pos rfl ..)▸hj)
   cases hj
   refine o12 (S.obj _ _ hi) fun mm h1 h2=>?_
   exact⟨mm,h1,fun x v hx=>h2 x v (hm x v hx)⟩
  ·replace hj:=(if_neg c ..)▸hj
   exact S.obj j o hj
structure dD(cx:Cx)(σ:Hp)(ρ:Ids)(s:Shared)(fn:Fn)(o:Out EE)(G:Addr)(env:Env)(ρ':Ids)(s':Shared):Prop where
 sat:Sat cx o.σ ρ' s'.heap
 ext:Ext σ.length ρ s.heap o.σ.length ρ' s'.heap
 gens:s'.gens=s.gens.push (.fresh (.func fn.body env))
 os:s'.os=s.os
 isGen:s'.heap.IsGen G s.gens.size
 off: ∀j,j<o.σ.length→ρ' j≠G
 frame:env.frame=some (ρ' o.v.fr)
 envr:ax o.v o.σ.length ρ' env
theorem lq(H:Ok cx K mg mb T){d:Nat}(r:aj A (d+1))(S:Sat cx σ ρ s.heap){i k:Nat}{C:Addr}{ks:List (Str×V)}(h1:σ[i]?=some (.inst C k))(h2:σ[k]?=some (.dict ks)){a:Addr}{fn:Fn}{obj:Obj}{fd:FuncData}(hk:FnAt cx a fn obj fd)
  (hg:fn.scope.isGenerator=true) (hc:fn.scope.isCoroutine=false) (hfi:findIn K (.ref C) "__iter__"=some (some (.ref a))) (hif:isFn K (.ref a)=true) {bs:List (Str×V)} (hb:bw fn.dfl [] fn.pars [.ref i]=some bs) {o:Out EE} (he:enter fn d bs σ=some o)
  {Q:Value→Shared→Prop} {E:Value→Shared→Prop} (hQ: ∀G env ρ' s',dD cx σ ρ s fn o G env ρ' s'→Q (.ref G) s'):wpAny (model cx.prog cx.w) A (pyIter (.ref (ρ i))) Q E s:=by
 have X:K.In s.heap:=H.B.X.keeps S.keep
 refine o02 (S.obj _ _ h1) fun hkl g1=>?_
 refine o12 (S.obj _ _ h2) fun ps n1q _=>?_;obtain⟨od,es,ep,g2,_⟩:=n1q
 have I:InstAt s.heap (ρ i) (instObj C (ρ k)) C (some od):=⟨g1,rfl,rfl,g2⟩
 have il:=aI h1
 have il:=aI h1
 have hsc:=hk.scope
 refine o13 (cb hk S hb (xs:=[.ref (ρ i)]) (ks:=[]) (kws:=[]) (u5 (vrR il)) rfl) fun ys y1 y2 y3=>?_
 have call0:wpAny (model cx.prog cx.w) A (call (.ref a) [.ref (ρ i)]) (fun v s'=> ∃G env ρ',v=.ref G∧dD cx σ ρ s fn o G env ρ' s') E s:=by
  refine wpAny_call (codeAny_mono (R:=fun rr s'=> ∃G env ρ',rr=.ok (.ret (.ref G))∧dD cx σ ρ s fn o G env ρ' s') ?_ fun rr s' y2k=>o32 y2k fun G env ρ' e z=>?_)
  ·refine codeAny_call_generator r.lt (S.keep _ _ hk.at_) hk.data (by refine rK (hsc ..) ?_;exact hc) (by refine rK (hsc ..) ?_;exact hg) hk.body (hk.code.keeps S.keep) (y3 _ _ _ _ ?_)
   refine o02 (b8 (A:=A.in1) hk S y2 y1 he) fun z1 z2=>?_
   refine wpAny_mono z1 (fun env2 s2 y2k=>o13 y2k fun ρ1 x1 e1 e2=>⟨H.B.lim.keeps x1.sat.keep,s2.heap.objs.size,env2,ρ1,rfl,?_⟩) fun _ _ f=>f.elim
   have kp: ∀b ob,s2.heap.get? b=some ob→(s2.heap.push {cls:=.type "generator",data:=.fields #[.int s2.gens.size 0,.str fd.name s2.toks,.str fd.qualname (s2.toks+1)]}).get? b=some ob:=fun b ob q=>Heap.get?_push_of_some _ q
   refine o02 (x1.sat.grow kp) fun S2 x2=>?_
   have hgs:=x1.gens
   refine⟨S2,x1.ext.trans x2 x1.sat.live,by show s2.gens.push _=_;exact rK (hgs ..) rfl,x1.os,⟨_,_,_,Heap.get?_push_size _ rfl,rfl,by rw[hgs],rfl⟩,fun j hj q=>?_,by rw[e2,e1.loc],e1⟩
   refine o11 (x1.sat.live j hj) fun ob hob=>?_
   have:=Heap.lt_size hob
   replace this:=(q ..)▸this
   exact Fk _ this
  ·subst e
   exact⟨G,env,ρ',rfl,z⟩
 have fin:wpAny (model cx.prog cx.w) A (call (.ref a) [.ref (ρ i)]>>=fun v=>pure (some v)) (fun rr s'=> ∃G env ρ',rr=some (.ref G)∧dD cx σ ρ s fn o G env ρ' s') E s:=
  wpAny_bind (wpAny_mono call0 (fun v s' y2k=>o32 y2k fun G env ρ' e z=>wpAny_pure ⟨G,env,ρ',by exact rK (e ..) rfl,z⟩) fun _ _ z=>z)
 have one: ∀refuse:Sem Value,wpAny (model cx.prog cx.w) A (callSpecialIfBoundUnlessNone? (.ref (ρ i)) "__iter__" refuse) (fun rr s'=> ∃G env ρ',rr=some (.ref G)∧dD cx σ ρ s fn o G env ρ' s') E s:=by
  intro refuse
  simp only[callSpecialIfBoundUnlessNone?,bindSpecialIfBound?]
  refine wpAny_holding (wpAny_bind (wpAny_bind (wpAny_bind (I.type.here ((looks_findIn X hfi).here ?_)))))
  refine wpAny_bind (wpAny_askSetting (wpAny_ite ?_))
  have fin2:wpAny (model cx.prog cx.w) A (if(Value.ref a==Value.none)=true then(refuse>>=fun v=>pure (some v))else(call (.ref a) [.ref (ρ i)]>>=fun v=>pure (some v))) (fun rr s'=> ∃G env ρ',rr=some (.ref G)∧dD cx σ ρ s fn o G env ρ' s') E s:=by
   refine rK (if_neg (show¬((Value.ref a==Value.none)=true)from Ec) ..) ?_
   exact fin
  split
  ·exact wpAny_bind ((bind_fn X _ (beq_iff_eq.mp hif)).here (wpAny_pure (by exact fin2)))
  ·exact wpAny_tryCatch (wpAny_bind ((bind_fn X _ (beq_iff_eq.mp hif)).here (wpAny_pure (by exact fin2))))
 unfold pyIter
 refine wpAny_bind (wpAny_bind (I.type.here ((looks_findIn X hfi).here ?_)))
 show wpAny _ A (callSpecialIfBoundUnlessNone? (.ref (ρ i)) "__iter__" _>>=_) Q E s
 refine wpAny_bind (wpAny_mono (one _) (fun rr s' hr=>?_) fun _ _ z=>z)
 refine o32 hr fun G env ρ' e3q z=>?_;subst e3q
 exact wpAny_bind (wpAny_specialOf z.isGen.typeIs slot_gen_next.lookup (wpAny_pure (hQ G env ρ' s' z)))
end
section
variable{prog:Program}{w:World}{A:Around}{E:Value→Shared→Prop}{R:Result→Shared→Prop}{s:Shared}
theorem eR{elt target iter:Expr}{ifs:List Expr}{scope:Scope}{pos:Pos}{it acc:Value}{env:Env}(I:Nat→Shared→Prop)
  (turn: ∀n s,I n s→wpAny (model prog w) A (pyNext it) (fun r s₁=>match r with
   | none=>R (.ok .next) s₁
   | some v=>wpAny (model prog w) A (letOwnedTupleGo target it v) (fun _ s₁=>wpAny (model prog w) A (PySem.assign target env v) (fun _ s₂=>
    wpAny (model prog w) A (forIn ifs true fun c r=>if r=true then do let ok←isTrue c env (eval c env);pure (Ek ok)else pure (Ek r)) (fun ok s₃=>
     if ok=true then wpAny (model prog w) A (eval elt env) (fun x s₄=>
      wpAny (model prog w) A (call (.builtin "list.append") [acc,x]) (fun _ s₅=> ∃m,m<n∧I m s₅) (notedBy (model prog w) A env fun e s'=>R (.error e) s') s₄) (notedBy (model prog w) A env fun e s'=>R (.error e) s') s₃
     else∃m,m<n∧I m s₃) (notedBy (model prog w) A env fun e s'=>R (.error e) s') s₂) (notedBy (model prog w) A env fun e s'=>R (.error e) s') s₁) (notedBy (model prog w) A env fun e s'=>R (.error e) s') s₁) (notedBy (model prog w) A env fun e s'=>R (.error e) s') s)
  (n:Nat) (h:I n s):
  codeAny (model prog w) A (.compLoop (.ListComp elt [⟨target,iter,ifs,0⟩] scope pos) 0 it acc env) R s:=by
 refine codeAny_loop rfl I (fun n s hI=>?_) n h
 show wpAny _ A ((compTurn (.ListComp elt [⟨target,iter,ifs,0⟩] scope pos) 0 it acc env).onRaise (fun x=>do noteFrame x env;theTreesLotGoes x)) _ _ s
 refine wpAny_noted ?_
 refine rK (compTurn_list ..) ?_
 refine wpAny_bind (wpAny_standAt (wpAny_bind (wpAny_mono (turn n s hI) (fun r s₁ h₁=>?_) fun _ _ h'=>h')))
 induction r with
 | none=>exact wpAny_pure h₁
 | some v=>
  refine wpAny_bind (wpAny_mono h₁ (fun _ s₁ h₁=>?_) fun _ _ h'=>h')
  refine wpAny_bind (wpAny_mono h₁ (fun _ s₂ h₂=>wpAny_bind (wpAny_mono h₂ (fun ok s₃ h₃=>?_) fun _ _ h'=>h')) fun _ _ h'=>h')
  induction ok with
  | false=>exact wpAny_pure ⟨rfl,h₃⟩
  | true=>
   simp only[if_true]at h₃
   refine wpAny_bind (wpAny_bind (wpAny_mono h₃ (fun x s₄ h₄=>wpAny_bind (wpAny_mono h₄ (fun _ s₅ h₅=>wpAny_pure (wpAny_pure ⟨rfl,h₅⟩)) fun _ _ h'=>h')) fun _ _ h'=>h'))
end
structure qb(cx:Cx)(A:Around)(t:Expr)(J:Addr)(P:Addr→Prop)(items:Nat→Option V)(At:Nat→Hp→Ids→Heap→Prop):Prop where
 next: ∀{k σ ρ s},Sat cx σ ρ s.heap→At k σ ρ s.heap→(∀i,i<σ.length→ ¬P (ρ i))→wpAny (model cx.prog cx.w) A (pyNext (.ref J)) (fun r s'=>match r with
  | none=>items k=none∧cH P s.heap s'.heap∧s'.gens=s.gens∧s'.os=s.os
  | some y=>wpAny (model cx.prog cx.w) A (letOwnedTupleGo t (.ref J) y) (fun _ s''=> ∃v,items k=some v∧VR σ.length ρ s''.heap v y∧At (k+1) σ ρ s''.heap∧cH P s.heap s''.heap∧s''.gens=s.gens∧s''.os=s.os) (fun _ _=>False) s') (fun _ _=>False) s
 self: ∀{k σ ρ} {s:Shared} {Q:Value→Shared→Prop} {E:Value→Shared→Prop},At k σ ρ s.heap→Q (.ref J) s→wpAny (model cx.prog cx.w) A (pyIter (.ref J)) Q E s
noncomputable abbrev IIG (cx:Cx) (ee:EE) (t iter:Expr) (σ:Hp) (items:Nat→Option V) (I:Hp→Prop) (σ1:Hp):Prop:=IIW (fun A J P At=>qb cx A t J P items At) cx ee iter σ I σ1
section
variable{cx:Cx}{K:Frag}{mg mb:Str→Option Value}{T:Tab}{A:Around}{σ:Hp}{ρ:Ids}{s:Shared}{F:Ev}{O:Orc}{ee:EE}{env:Env}
theorem jA.toG{t:Expr}{J:Addr}{P:Addr→Prop}{items:Nat→Option V}{At:Nat→Hp→Ids→Heap→Prop}(W:jA cx A J P items At)(ht: ∀v,letOwnedTupleGo t (.ref J) v=pure ()):qb cx A t J P items At:=
 ⟨fun{k σ ρ s} S hat _=>wpAny_mono (W.next S hat) (fun r s' hr=>by
  have h1:=hr.1
  induction q:items k with
  | none=>
   rw[q]at h1
   subst h1
   exact⟨rfl,hr.2⟩
  | some v=>
   rw[q]at h1
   obtain⟨y,rfl,hy,at4⟩:=h1
   show wpAny _ A (letOwnedTupleGo t (.ref J) y) _ _ s'
   rw[ht y]
   exact wpAny_pure ⟨v,rfl,VR.side hr.2.1 _ _ hy,at4,hr.2⟩) fun _ _ z=>z,W.self⟩
theorem bp.map{W W':Prop}{I:Hp→Prop}{s2:Shared}{P:Addr→Prop}{At:Nat→Hp→Ids→Heap→Prop}(st:bp W cx I σ ρ s s2 P At)(f:W→W'):bp W' cx I σ ρ s s2 P At:=⟨f st.it,st.move,st.live,st.at0,st.new,st.grow,st.gens,st.os,st.inv⟩
theorem II.toG{t iter:Expr}{items:Nat→Option V}{I:Hp→Prop}{σ1:Hp}(h:II cx ee iter σ items I σ1)(ht: ∀J v,letOwnedTupleGo t (.ref J) v=pure ()):IIG cx ee t iter σ items I σ1:=
 ⟨fun A ρ s env r e S=>wpAny_mono (h.it A ρ s env r e S) (fun _ _ hx=>wpAny_mono hx (fun _ _ hb=>by
  obtain⟨ρ1,s1,J,P,At,h1,h2,st⟩:=hb
  exact⟨ρ1,s1,J,P,At,h1,h2,st.map fun W=>W.toG (ht J)⟩) fun _ _ z=>z) fun _ _ z=>z⟩
theorem ol(H:Ok cx K mg mb T)(HF:aw cx F)(r:aj A ee.d){t elt iter:Expr}{ifs:List Expr}{scope:Scope}{pos:Pos}{J:Addr}{P:Addr→Prop}{items:Nat→Option V}{At:Nat→Hp→Ids→Heap→Prop}{I:Hp→Prop}{σ1 σ2:Hp}{ρ1 ρ4:Ids}{s1 s2:Shared}{D n k:Nat}
  (st:bp (qb cx A t J P items At) cx I σ1 ρ1 s1 s2 P At) (hb: ∀c o,cx.h₀.get? c=some o→s1.heap.get? c=some o) (e:ax ee σ.length ρ4 env) (x5:Aft cx σ1.length ρ1 s1 σ ρ4 s) (B:Bes cx I P At σ1.length ρ1 s1 k σ ρ4 s) (hDm:D<σ.length)
  (w:Cp cx T F ee t ifs elt items I D σ2 n k σ) {R:Result→Shared→Prop} (hQ: ∀ρ' s',Aft cx σ1.length ρ1 s1 σ2 ρ' s'→(σ.length≤σ2.length∧ ∀i,i<σ.length→ρ' i=ρ4 i)→R (.ok .next) s'):
  codeAny (model cx.prog cx.w) A (.compLoop (.ListComp elt [⟨t,iter,ifs,0⟩] scope pos) 0 (.ref J) (.ref (ρ4 D)) env) R s:=
 eR (fun u s'=> ∃k ρ3 σ3,Bes cx I P At σ1.length ρ1 s1 k σ3 ρ3 s'∧(σ.length≤σ3.length∧ ∀i,i<σ.length→ρ3 i=ρ4 i)∧Cp cx T F ee t ifs elt items I D σ2 u k σ3) (fun u s3 y2k=>o33 y2k fun k ρ3 σ3 B m3 w=>by
  revert B m3
  exact w.casesOn (fun q B m3=>wpAny_mono (st.it.next B.x.sat B.here B.far) (fun rr s4 hr=>by
    induction rr with
    | none=>exact hQ _ _ (st.aft hb B hr.2.1 hr.2.2.1 hr.2.2.2) m3
    | some y=>exact wpAny_mono hr (fun _ s4 h=>h.elim fun _ h=>noE (q.symm.trans h.1)) fun _ _ z=>z.elim) fun _ _ z=>z.elim)
   (fun q h p i' w B m3=>wpAny_mono (st.it.next B.x.sat B.here B.far) (fun rr s4 hr=>by
    induction rr with
    | none=>exact noE (hr.1.symm.trans q)
    | some y=>
     exact wpAny_mono hr (fun _ s4 h1=>h1.elim fun v h1=>by
      have x4:=st.aft hb B h1.2.2.2.1 h1.2.2.2.2.1 h1.2.2.2.2.2
      exact h.does H HF r (e.move m3.1 m3.2) x4.sat (DZ (h1.1.symm.trans q)▸h1.2.1) (congrArg Value.ref (m3.2 D hDm).symm) (DR hDm m3.1) fun ρ8 s8 x8=>(x8.pickTo p).elim fun ρ9 x9=>
       ⟨_,EB _,_,ρ9,_,st.on B x4 h1.2.2.1 x9 i',⟨kV m3.1 x9.ext.le,fun i hi=>(x9.ext.same i (DR hi m3.1)).trans (m3.2 i hi)⟩,w⟩) fun _ _ z=>z.elim) fun _ _ z=>z.elim)) n ⟨k,ρ4,σ,B,⟨DQ _,fun _ _=>rfl⟩,w⟩
theorem mI(H:Ok cx K mg mb T)(HF:aw cx F){t elt iter:Expr}{ifs:List Expr}{scope:Scope}{pos:Pos}{σ1:Hp}{items:Nat→Option V}{I:Hp→Prop}{out:List (Str×Nat)}{n:Nat}{σ2:Hp}
  (h1:IIG cx ee t iter σ items I σ1) (hI:I σ1→I (σ1++[.list []]++[.fr []]))
  (hclos:dH ee.cells scope.names []=some out) (hkind:scope.kind=.function) (hcell: ∀x∈scope.names,x.2≠ .cell) (hnames: ∀x∈scope.names,x.2=.local→scope.names.lookup x.1=some .local)
  (w:Cp cx T F ⟨σ1.length+1,out,a6 scope ee.scope,ee.d⟩ t ifs elt items I σ1.length σ2 n 0 (σ1++[.list []]++[.fr []]))
  (hs: ∀env x,foldedSetIterable iter env x=pure x) (r:aj A ee.d) (e:ax ee σ.length ρ env) (S:Sat cx σ ρ s.heap)
  {use:Option (Value→Sem Unit)} {Q:Value→Shared→Prop} {cpos:Pos}
  (hQ: ∀ρ' s' C x,Aft cx σ.length ρ s σ2 ρ' s'→ρ' (σ1.length+1)=C→s.heap.get? C=none→σ1.length+1<σ2.length→compPost (model cx.prog cx.w) A (fun _ _=>False) use Q (.ref (ρ' σ1.length)) C (.ok x) s'):
  wpAny (model cx.prog cx.w) A (comprehension (.ListComp elt [⟨t,iter,ifs,0⟩] scope pos) scope env cpos (newList []) false (eval iter env) use) Q (fun _ _=>False) s:=by
 have cl:=lF e (scope:=scope) hclos
 refine wpAny_comprehension_free (use:=use) rfl (hs env) cl.1 hkind hnames (wpAny_mono (h1.it _ _ _ _ r e S) (fun x s' hx=>wpAny_mono hx (fun itv s2 hst=>?_) fun _ _ z=>z.elim) fun _ _ z=>z.elim)
 obtain⟨ρ1,s1,J,P,At,rfl,x1,st⟩:=hst
 have B0:=st.begin x1
 refine wpAny_newObj_type (wpAny_newFunctionEnv hcell (fun y hy=>absurd hy EO) (fun h₁ hns hsb=>?_) hkind)
 refine o12 (ag.list (n:=s2.toks) (l:=[]) (items:= #[]) B0.x.sat rfl) fun ρ3 x3 r3=>?_
 have hD3:s2.heap.objs.size=ρ3 σ1.length:=Value.ref.inj r3.2
 obtain⟨ρ4,hρ4,S4,x4⟩:=x3.sat.new (h':=h₁) (a:=(s2.heap.push (bG #[] 0)).objs.size) (o:=.fr []) (Heap.get?_none_of_le (DQ _))
  (fun b o' q=>(hsb.2 b fun e'=>noE ((Heap.get?_none_of_le (Eu e'.symm)).symm.trans q)).trans (Heap.get?_push_of_some _ q)) (hns.elim fun o' h=>h.elim fun _ h=>h.elim fun _ h=>⟨o',h.1⟩) fun ρ' xx hr=>⟨_,hns,fun z v hz=>noE hz⟩
 have len5:(σ1++[AO.list []]++[AO.fr []]).length=σ1.length+2:=by rw[pm,pm];rfl
 have len4:(σ1++[AO.list []]).length=σ1.length+1:=pm
 have y5:Aft cx σ1.length ρ1 s2 (σ1++[AO.list []]++[AO.fr []]) ρ4 {s2 with heap:=h₁,toks:=s2.toks+([]:List (Str×Value)).length}:=
  x3.trans ⟨S4,by rw[pm (bs:=[AO.fr []])];exact x4,rfl,rfl⟩
 have B5:=st.on B0 B0.x st.at0 y5 (hI B0.inv)
 have x5:=x1.trans B5.x
 have hC:ρ4 (σ1.length+1)=(s2.heap.push (bG #[] 0)).objs.size:=by rw[hρ4,←len4,cn]
 have hD:ρ4 σ1.length=s2.heap.objs.size:=by rw[hρ4,dU (len4▸EB _)];exact hD3.symm
 have l1:σ1.length<(σ1++[AO.list []]++[AO.fr []]).length:=len5▸Ge (EB _)
 have l2:σ1.length+1<(σ1++[AO.list []]++[AO.fr []]).length:=len5▸EB _
 have eE:ax ⟨σ1.length+1,out,a6 scope ee.scope,ee.d⟩ (σ1++[AO.list []]++[AO.fr []]).length ρ4
   {newEnv scope (s2.heap.push (bG #[] 0)).objs.size env.globals (out.map fun p=>(p.1,ρ p.2)) env.qual none .none (some env) 0 with scope:=relabel scope env}:=by
  refine⟨?_,hkind,l2,hC.symm,e.glob,e.bi,fun z i hz=>?_⟩
  ·show relabel scope env=a6 scope ee.scope
   unfold relabel a6 Env.kindOf
   exact rK (e.scope ..) rfl
  ·have hi:=cl.2 _ (lookup_mem hz)
   exact⟨DR hi x5.ext.le,(x5.ext.same i hi).symm▸nV hz⟩
 have loop:codeAny (model cx.prog cx.w) A (.compLoop (.ListComp elt [⟨t,iter,ifs,0⟩] scope pos) 0 (.ref J) (.ref s2.heap.objs.size)
   {newEnv scope (s2.heap.push (bG #[] 0)).objs.size env.globals (out.map fun p=>(p.1,ρ p.2)) env.qual none .none (some env) 0 with scope:=relabel scope env})
   (compPost (model cx.prog cx.w) A (fun _ _=>False) use Q (.ref s2.heap.objs.size) (s2.heap.push (bG #[] 0)).objs.size) {s2 with heap:=h₁,toks:=s2.toks+([]:List (Str×Value)).length}:=by
  rw[←hD,←hC]
  rw[←hC]at eE
  exact ol (ee:=⟨σ1.length+1,out,a6 scope ee.scope,ee.d⟩) H HF r st (fun c o q=>x1.sat.keep c o q) eE B5.x B5 l1 w fun ρ' s' x' hm=>
   hm.2 _ l1▸hQ ρ' s' _ _ (x1.trans x') (hm.2 _ l2) (x5.ext.fresh _ (FI x1.ext.le) l2) (DR l2 hm.1)
 exact codeAny_compStart_list loop (st.it.self (s:={s2 with heap:=h₁,toks:=s2.toks+([]:List (Str×Value)).length}) B5.here loop)
theorem nb{n:Nat}{ρ0:Ids}{s0 s':Shared}{σ2 σ3:Hp}{ρ':Ids}{C:Addr}{k:Nat}{mf:List (Str×V)}{sel:List Nat}{rr:Nat→Nat}(x:Aft cx n ρ0 s0 σ2 ρ' s')(hC:ρ' k=C)(h0:s0.heap.get? C=none)(hb: ∀c o,cx.h₀.get? c=some o→s0.heap.get? c=some o)
  (hf:σ2[k]?=some (.fr mf)) (p:aK n σ2 sel rr σ3) (hd:k∉sel): ∃m,s'.heap.Ns C m∧ ∀h',Heap.SameBut C s'.heap h'→Aft cx n ρ0 s0 σ3 (aE ρ' sel) {s' with heap:=h'}:=by
 refine o12 (x.sat.obj _ _ hf) fun mm hns' _=>?_
 replace hns':=(hC ..)▸hns'
 refine⟨mm,hns',fun h' hsb'=>?_⟩
 have xp:=x.pick p
 refine o33 hns' fun oc es ep ho hdd _=>?_
 have side:cH (· =C) s'.heap h':=by
  refine⟨fun b o hb q=>(hsb'.2 b hb).trans q,fun c hc its k q=>?_,fun c hc f x q=>?_⟩
  ·subst hc;replace q:=(ho ..)▸q;cases q;cases hdd
  ·subst hc;replace q:=(ho ..)▸q;cases q;cases hdd
 have far: ∀i,i<σ3.length→aE ρ' sel i≠C:=fun i hi q=>by
  replace hi:=(p.1.1 ..)▸hi
  unfold aE at q
  replace q:=(DH hi ..)▸q
  dsimp only at q
  replace q:=Eh (hC ..)▸q
  have:=x.sat.inj _ _ (p.1.lt _ (DX hi)) (aI hf) q
  exact hd (this▸DX hi)
 exact xp.side side far (fun c hc=>hc▸h0) hb rfl rfl
theorem XX.lcG(H:Ok cx K mg mb T)(HF:aw cx F){t elt iter:Expr}{ifs:List Expr}{scope:Scope}{pos:Pos}{σ1:Hp}{items:Nat→Option V}{I:Hp→Prop}{out:List (Str×Nat)}{n:Nat}{σ2 σ3:Hp}{sel:List Nat}{rr:Nat→Nat}
  (h1:IIG cx ee t iter σ items I σ1) (hI:I σ1→I (σ1++[.list []]++[.fr []]))
  (hclos:dH ee.cells scope.names []=some out) (hkind:scope.kind=.function) (hcell: ∀x∈scope.names,x.2≠ .cell) (hnames: ∀x∈scope.names,x.2=.local→scope.names.lookup x.1=some .local)
  (w:Cp cx T F ⟨σ1.length+1,out,a6 scope ee.scope,ee.d⟩ t ifs elt items I σ1.length σ2 n 0 (σ1++[.list []]++[.fr []]))
  (hs: ∀env x,foldedSetIterable iter env x=pure x) {j:Nat} {mf:List (Str×V)}
  (hfin:σ2[σ1.length+1]?=some (.fr mf)) (p:aK σ.length σ2 sel rr σ3) (hdrop:σ1.length+1∉sel) (hj:sel[j]?=some σ1.length):
  XX cx ee (.ListComp elt [⟨t,iter,ifs,0⟩] scope pos) σ (.ref j) σ3:=by
 refine .mk ?_
 intro A ρ s env r e S
 refine rK (eval_ListComp ..) ?_
 refine mI (use:=none) H HF h1 hI hclos hkind hcell hnames w hs r e S fun ρ' s' C x y hC h0 hl=>?_
 refine o12 (nb y hC h0 S.keep hfin p hdrop) fun m a1 a2=>?_
 refine⟨m,a1,fun h' hsb=>(a2 h' hsb).post ?_⟩
 refine And.intro (by refine rK (p.1.1 ..) ?_;exact(DT.mp hj).1) ?_
 unfold aE
 exact rK (hj ..) rfl
theorem XX.lc(H:Ok cx K mg mb T)(HF:aw cx F){t elt iter:Expr}{ifs:List Expr}{scope:Scope}{pos:Pos}{σ1:Hp}{items:Nat→Option V}{I:Hp→Prop}{out:List (Str×Nat)}{n:Nat}{σ2 σ3:Hp}{sel:List Nat}{rr:Nat→Nat}
 (h1:II cx ee iter σ items I σ1) (hI:I σ1→I (σ1++[.list []]++[.fr []]))
 (hclos:dH ee.cells scope.names []=some out) (hkind:scope.kind=.function) (hcell: ∀x∈scope.names,x.2≠ .cell) (hnames: ∀x∈scope.names,x.2=.local→scope.names.lookup x.1=some .local)
 (w:Cp cx T F ⟨σ1.length+1,out,a6 scope ee.scope,ee.d⟩ t ifs elt items I σ1.length σ2 n 0 (σ1++[.list []]++[.fr []]))
 (hs: ∀env x,foldedSetIterable iter env x=pure x) (ht: ∀J v,letOwnedTupleGo t (.ref J) v=pure ()) {j:Nat} {mf:List (Str×V)}
 (hfin:σ2[σ1.length+1]?=some (.fr mf)) (p:aK σ.length σ2 sel rr σ3) (hdrop:σ1.length+1∉sel) (hj:sel[j]?=some σ1.length):
 XX cx ee (.ListComp elt [⟨t,iter,ifs,0⟩] scope pos) σ (.ref j) σ3:=XX.lcG H HF (h1.toG ht) hI hclos hkind hcell hnames w hs hfin p hdrop hj
theorem S1.lcAssign(H:Ok cx K mg mb T)(HF:aw cx F){t elt iter:Expr}{ifs:List Expr}{scope:Scope}{y:Str}{py spos pos:Pos}{σ1:Hp}{items:Nat→Option V}{I:Hp→Prop}{out:List (Str×Nat)}{n:Nat}{σ2 σ3:Hp}{sel:List Nat}{rr:Nat→Nat}
  (h1:II cx ee iter σ items I σ1) (hI:I σ1→I (σ1++[.list []]++[.fr []]))
  (hclos:dH ee.cells scope.names []=some out) (hkind:scope.kind=.function) (hcell: ∀x∈scope.names,x.2≠ .cell) (hnames: ∀x∈scope.names,x.2=.local→scope.names.lookup x.1=some .local)
  (w:Cp cx T F ⟨σ1.length+1,out,a6 scope ee.scope,ee.d⟩ t ifs elt items I σ1.length σ2 n 0 (σ1++[.list []]++[.fr []]))
  (hs: ∀env x,foldedSetIterable iter env x=pure x) (ht: ∀J v,letOwnedTupleGo t (.ref J) v=pure ())
  (hsw: ∀env:Env,env.scope=ee.scope→swapsWith (.ListComp elt [⟨t,iter,ifs,0⟩] scope pos) (some (.Name y py)) spos.line env=pure true)
  {mf:List (Str×V)} {o:Out Unit} (ha:aF T F ee (.Name y py) (.ref σ1.length) σ2=some o) (ob:o.ob)
  (hfin:o.σ[σ1.length+1]?=some (.fr mf)) (p:aK σ.length o.σ sel rr σ3) (hdrop:σ1.length+1∉sel):
  S1 cx ee (.Assign [.Name y py] (.ListComp elt [⟨t,iter,ifs,0⟩] scope pos) spos) σ .next σ3:=by
 refine .mk ?_
 intro A ρ s env r e S
 refine rK (exec_Assign_Name_used _ _ _ _ (hsw env e.scope) ..) ?_
 refine wpAny_bind (wpAny_standAt (wpAny_bind ?_))
 show wpAny _ A (do let _←comprehension (.ListComp elt [⟨t,iter,ifs,0⟩] scope pos) scope env _ (newList []) false (eval iter env) (some (PySem.assign (.Name y py) env))) _ _ s
 refine wpAny_bind (wpAny_mono (mI (use:=some (PySem.assign (.Name y py) env)) (Q:=fun _ s'=>ag cx σ.length ρ s σ3 (fun n ρ h x=>FlR n ρ h .next x) .next s') H HF (h1.toG ht) hI hclos hkind hcell hnames w hs r e S fun ρ' s' C x yy hC h0 hl=>?_)
  (fun _ s' hq=>wpAny_pure (wpAny_pure hq)) fun _ _ z=>z)
 have hv:VR σ2.length ρ' s'.heap (.ref σ1.length) (.ref (ρ' σ1.length)):=vrR (Nat.lt_of_succ_lt hl)
 have a1:=bg H HF r (e.ext yy.ext) yy.sat hv _ ha ob
 refine a1.use fun _ ρ2 s2 x2 _=>?_
 have x3:=yy.trans x2
 have hC2:ρ2 (σ1.length+1)=C:=by
  refine rK (x2.ext.same _ hl ..) ?_;exact hC
 refine o12 (nb x3 hC2 h0 S.keep hfin p hdrop) fun m b1 b2=>?_
 exact⟨m,b1,fun h' hsb=>(b2 h' hsb).post rfl⟩
end
noncomputable def j8 (kvs:List (Str×V)) (k:Nat):Option V:=(kvs[k]?).map fun p=> .str p.1.cps.toList
theorem PRs.at{κ:Type}{n ρ h}: ∀{vs:List (κ×V)} {ys:List (κ×Value)} {i:Nat} {k:κ} {v:V},PRs n ρ h vs ys→vs[i]?=some (k,v)→ ∃y,ys[i]?=some (k,y)
 | [],_,i,k,v,_,q=>by simp at q
 | (k0,v0)::vs,ys,i,k,v,e,q=>by
  refine o23 e fun x xs e2q h1 h2=>?_;subst e2q
  induction i with
  | zero=>cases q;exact⟨x,rfl⟩
  | succ i=>
   refine o11 (PRs.at (vs:=vs) (i:=i) h2 (by simpa using q)) fun y hy=>?_
   exact⟨y,by simpa using hy⟩
section
variable{cx:Cx}{K:Frag}{mg mb:Str→Option Value}{T:Tab}{A:Around}{σ σ1:Hp}{ρ:Ids}{s:Shared}{F:Ev}{O:Orc}{ee:EE}{env:Env}
theorem lX{p:Program}{w:World}{k:Str}{x:Value}(h:(PySem.strKind p w).is k x=true): ∃t,x=.str k t:=by
 have h:Value.isStrOf k x=true:=h
 induction x<;>simp[Value.isStrOf]at h
 exact⟨_,by exact rK (h ..) rfl⟩
theorem tH(hh:A.handled=none){J d:Addr}{kvs:List (Str×V)}{ps:List (Str×Value)}{ep:Nat}(hl:ps.length=kvs.length)(hp: ∀(i:Nat) (k:Str) (v:V),kvs[i]?=some (k,v)→ ∃y,ps[i]?=some (k,y))(hne:d≠J):
  jA cx A J (· =J) (j8 kvs) (fun k σ ρ h=>(∀i,i<σ.length→ρ i≠d)∧h.DictAt (PySem.strKind cx.prog cx.w) d ps ep∧h.IsKeyIter J d k ps.length ep):=by
 refine⟨fun{k σ ρ s} S hat=>?_,fun{k σ ρ s Q E} hat hq=>wpAny_pyIter_keyiter hat.2.2 hq⟩
 refine o03 hat fun hfar hd hat=>?_
 refine o13 (id hat) fun ob ho hc hdd=>?_
 have side: ∀h',(∀b o,b≠J→s.heap.get? b=some o→h'.get? b=some o)→cH (· =J) s.heap h':=fun h' kk=>cH.of ho hc (by decide) (by decide) kk
 unfold j8
 induction q:kvs[k]? with
 | some kv=>
  obtain⟨key,v⟩:=kv
  refine o11 (hp k key v q) fun y hy=>?_
  refine wpAny_pyNext_dict_item hat hd hy fun kx h' hkey h1 h2=>?_
  refine o11 (lX hkey) fun t e1q=>?_;subst e1q
  refine⟨⟨_,rfl,Ee t rfl,hfar,?_,h1⟩,side h' fun b o hb e=>(h2.2 b hb).trans e,rfl,rfl⟩
  exact hd.extBut h2.extBut hne
 | none=>
  have hx:ps.length≤k:=by
   rw[Es]at q
   exact le_of_eq_of_le hl q
  refine wpAny_pyNext_dict_end hh hat hd (by rw[Es];exact hx) fun h' h1=>?_
  exact⟨rfl,side h' fun b o hb e=>h1 b o hb e,rfl,rfl⟩
theorem II.keys{it:Expr}{kvs:List (Str×V)}{σ0:Hp}{n:Nat}{sel:List Nat}{rr:Nat→Nat}(h:XX cx ee it σ (.ref n) σ0)(hn:σ0[n]?=some (.dict kvs))(p:aK σ.length σ0 sel rr σ1)(hnd:n∉sel)(hsys: ∀a,cx.h₀.get? a=none→(a==sysModules)=false):II cx ee it σ (j8 kvs) (fun _=>True) σ1:=by
 refine .mk ?_
 intro A ρ s env r e S
 refine(h.it _ _ _ _ r e S).use fun x ρ1 s1 x1 r1=>?_
 refine o02 r1 fun hil e1q=>?_;subst e1q
 refine o12 (x1.sat.obj _ _ hn) fun ps hd hps=>?_
 refine o11 hd.dictAt fun ep hd=>?_
 have x2:=x1.pick p
 have hfar: ∀i,i<σ1.length→aE ρ1 sel i≠ρ1 n:=fun i hi q=>by
  replace hi:=(p.1.1 ..)▸hi
  unfold aE at q
  replace q:=(DH hi ..)▸q
  dsimp only at q
  have:=x1.sat.inj _ _ (p.1.lt _ (DX hi)) hil q
  exact hnd (this▸DX hi)
 have hne:ρ1 n≠s1.heap.objs.size:=fun q=>by
  have:=hd.lt_size
  replace this:=(q ..)▸this;exact Fk _ this
 refine wpAny_pyIter_dict (hsys _ (x1.sat.own _ hil)) hd ⟨aE ρ1 sel,s1,s1.heap.objs.size,(· =s1.heap.objs.size),fun k σ ρ h=>(∀i,i<σ.length→ρ i≠ρ1 n)∧h.DictAt (PySem.strKind cx.prog cx.w) (ρ1 n) ps ep∧h.IsKeyIter s1.heap.objs.size (ρ1 n) k ps.length ep,rfl,x2,
  tH r.handled (PRs.length hps) (fun i k v q=>PRs.at hps q) hne,fun{k σ ρ s' σ' ρ' s''} hat y hj _ _=>?_,fun{k σ ρ h} y1k c hc=>y1k.elim fun _ z0y1k=>z0y1k.elim fun _ z1y1k=>z1y1k.elim fun o z2y1k=>z2y1k.elim fun ho _=>⟨o,hc▸ho⟩,⟨hfar,hd.push _,⟨_,Heap.get?_push_size _ rfl,rfl,rfl⟩⟩,fun c hc=>?_,fun b o' q=>Heap.get?_push_of_some _ q,rfl,rfl,trivial⟩
 ·refine o03 hat fun a1 a2 a3=>?_
  refine o22 a2 fun od es hod a2'=>?_
  refine o12 a3 fun oj hoj a3'=>?_
  refine⟨fun i hi q=>?_,⟨od,es,y.ext.keep _ _ hod a1,a2'⟩,⟨oj,y.ext.keep _ _ hoj hj,a3'⟩⟩
  by_cases hin:i<σ.length
  ·replace q:=(y.ext.same i hin ..)▸q;exact a1 i hin q
  ·have:=y.ext.fresh i (D7 hin) hi
   replace this:=(hod ..)▸((q ..)▸this);cases this
 ·subst hc;exact Heap.get?_none_of_le (DQ _)
end
noncomputable def fw (l:List Nat) (k:Nat):Option V:=match l[k]? with
 | some c=>some (.tup [.int (dV k),.str [c]])
 | none=>none
section
variable{cx:Cx}{K:Frag}{mg mb:Str→Option Value}{T:Tab}{A:Around}{σ σ1:Hp}{ρ:Ids}{s:Shared}{F:Ev}{O:Orc}{ee:EE}{env:Env}
theorem ru(hh:A.handled=none)(it:Addr)(x:Str)(t:Tok):Draws cx.prog cx.w A it [it] x.cps.size (fun i v=> ∃c u,x.cps[i]?=some c∧v=.str ⟨#[c]⟩ u) (fun i h=>h.IsStrIter it (strIterType x) x t i):=by
 by_cases ha:x.cps.all (· <128)=true
 ·have hT:strIterType x="str_ascii_iterator":=by unfold strIterType;exact rK (if_pos ha ..) rfl
  refine rK (hT ..) ?_;exact Draws.strAscii hh it x t
 ·have hT:strIterType x="str_iterator":=by unfold strIterType;exact rK (if_neg ha ..) rfl
  refine rK (hT ..) ?_;exact Draws.strWide hh it x t
theorem rq(hh:A.handled=none){e it:Addr}(hei:e≠it){l:List Nat}{t:Tok}{es:List Expr}{q:Nat}{pos:Pos}:qb cx A (.Tuple es q pos) e (fun c=>c=e∨c=it) (fw l) (fun k σ ρ h=>(∃old,IsEnum h e it ((k:Nat):Int) old)∧h.IsStrIter it (strIterType ⟨l.toArray⟩) ⟨l.toArray⟩ t k∧k≤l.length):=by
 refine⟨fun{k σ ρ s} S hat hfar=>?_,fun{k σ ρ s Q E} hat hq=>?_⟩
 ·refine o03 hat fun n0q hst hk=>?_;obtain⟨old,he⟩:=n0q
  have D:=ru (cx:=cx) (A:=A.in1) hh it ⟨l.toArray⟩ t
  have sideOf: ∀h',(∀b o,b≠e→b≠it→s.heap.get? b=some o→h'.get? b=some o)→cH (fun c=>c=e∨c=it) s.heap h':=fun h' kk=>by
   refine o13 hst fun oi hoi hci hdi=>?_
   refine⟨fun b o hb q=>kk b o (fun z=>hb (.inl z)) (fun z=>hb (.inr z)) q,fun b hb its kk2 q=>?_,fun b hb f x q=>?_⟩
   ·rcases hb with rfl | rfl
    ·replace q:=(he ..)▸q
     injection q with q
     have:=congrArg Obj.cls q
     injection this with this
     exact absurd this (by decide)
    ·replace q:=(hoi ..)▸q;cases q;cases hdi
   ·rcases hb with rfl | rfl
    ·replace q:=(he ..)▸q
     injection q with q
     have:=congrArg Obj.cls q
     injection this with this
     exact absurd this (by decide)
    ·replace q:=(hoi ..)▸q
     cases q
     injection hci with hci
     unfold strIterType at hci
     split at hci<;>exact absurd hci (by decide)
  unfold fw
  induction q:l[k]? with
  | none=>
   have hkl:k=l.length:=by
    rw[Es]at q;exact Fg (by assumption) (by assumption)
   subst hkl
   refine wpAny_pyNext_enum_endD D he (by simpa using hst) fun h' hx=>?_
   exact⟨rfl,sideOf h' fun b o hb hb2 y=>hx b o hb2 y,rfl,rfl⟩
  | some c=>
   have hlt:k<l.length:=(DT.mp q).1
   refine wpAny_pyNext_enum_itemD D he hst (by simpa using hlt) hei (by simpa using hei) fun x h' tk hP ho hs' hT hsz hk2=>?_
   refine wpAny_letOwnedTupleGo_enum ho fun h2 he2 hs2=>?_
   refine o22 hP fun c' u hc' e3q=>?_;subst e3q
   have hcc:c'=c:=by
    simp at hc'
    replace hc':=(q ..)▸hc'
    cases hc';rfl
   subst hcc
   have elt:e<s.heap.objs.size:=Heap.lt_size he
   have hT2:h2.get? s.heap.objs.size=some {cls:=.type "tuple",data:=.seq #[.int ((k:Nat):Int) tk,.str ⟨#[c']⟩ u]}:=(hs2.2 _ (GO elt)).trans hT
   refine⟨_,rfl,?_,⟨⟨_,by simpa using he2⟩,?_,hlt⟩,sideOf _ fun b o hb hb2 y=>(hs2.2 b hb).trans (hk2 b o hb hb2 y),rfl,rfl⟩
   ·refine Ee s.heap.objs.size (Ee _ (Ee _ ⟨rfl,hT2,fun j hj z=>?_,?_⟩))
    ·refine o11 (S.live j hj) fun o ho2=>?_
     have:=Heap.lt_size ho2
     replace this:=(z ..)▸this;exact Fk _ this
    ·exact Ee _ (Ee _ ⟨rfl,vrI,u5 vrS⟩)
   ·refine o12 hs' fun oi hoi r=>?_
    exact⟨oi,(hs2.2 it hei.symm).trans hoi,r⟩
 ·refine o02 hat fun n0q _=>?_;obtain⟨old,he⟩:=n0q
  exact wpAny_pyIter_enum he hq
theorem IIG.enum(H:Ok cx K mg mb T)(HF:aw cx F){es:List Expr}{q:Nat}{tpos:Pos}{x:Str}{p pos:Pos}{as:List Expr}{l:List Nat}{o1:Out V}{o5:Out (List V)}(h1:F.ex ee (.Name x p) σ=some o1)(b1:o1.ob)(hs:noStar as=true)(h5:exs F ee as o1.σ=some o5)(b5:o5.ob)(hv:o1.v=.ty .enumerate)
  (ha:o5.v=[.str l]):IIG cx ee (.Tuple es q tpos) (.Call (.Name x p) as [] pos) σ (fw l) (fun _=>True) o5.σ:=by
 refine .mk ?_
 intro A ρ s env r e S
 refine gg H HF r e S h1 b1 hs h5 b5 (by rw[hv];rfl) fun y xs ρ1 s1 x1 r1 v1=>?_
 rw[hv]at r1
 have hy:y=.type "enumerate":=r1
 subst hy
 rw[ha]at v1
 obtain⟨z,rfl,t,rfl⟩: ∃z,xs=[z]∧ ∃t,z=.str ⟨l.toArray⟩ t:=by
  refine o23 v1 fun z ys e2q n3q e4q=>?_;subst e2q;obtain⟨t,rfl⟩:=n3q;subst e4q
  exact⟨_,rfl,t,rfl⟩
 refine call_enumerate_str fun h' he hit hsz hk=>?_
 have hei:s1.heap.objs.size+1≠s1.heap.objs.size:=Nat.succ_ne_self _
 refine wpAny_pyIter_enum he ?_
 refine⟨ρ1,s1,s1.heap.objs.size+1,(fun c=>c=s1.heap.objs.size+1∨c=s1.heap.objs.size),fun k σ ρ h=>(∃old,IsEnum h (s1.heap.objs.size+1) s1.heap.objs.size ((k:Nat):Int) old)∧h.IsStrIter s1.heap.objs.size (strIterType ⟨l.toArray⟩) ⟨l.toArray⟩ t k∧k≤l.length,rfl,x1,
  rq r.handled hei,fun{k σ ρ s' σ' ρ' s''} hat yy hj _ _=>?_,fun{k σ ρ h} ⟨⟨old,g1⟩,⟨oi,g2,_⟩,_⟩ c hc=>?_,⟨⟨_,he⟩,hit,DU _⟩,fun c hc=>?_,hk,rfl,rfl,trivial⟩
 ·refine o03 hat fun n0q n1q g4=>?_;obtain⟨old,g1⟩:=n0q;obtain⟨oi,g2,g3⟩:=n1q
  exact⟨⟨old,yy.ext.keep _ _ g1 fun i hi q=>hj i hi (.inl q)⟩,⟨oi,yy.ext.keep _ _ g2 fun i hi q=>hj i hi (.inr q),g3⟩,g4⟩
 ·rcases hc with rfl | rfl
  ·exact⟨_,g1⟩
  ·exact⟨oi,g2⟩
 ·rcases hc with rfl | rfl
  ·exact Heap.get?_none_of_le (GB _)
  ·exact Heap.get?_none_of_le (DQ _)
end
noncomputable abbrev L6 (t:List Nat) (pl:Nat) (D:AO):Hp:=[.inst 166 1,D,.inst 73 3,.dict [("text",.str t),("place",.int (dV pl))],.list [.int (dV 0)],.list []]
noncomputable abbrev DS (S:Stm):AO:=.dict (cA 148 S [0,4,2,5])
noncomputable def nOf:V→Nat
 | .int (.ofNat n)=>n
 | _=>0
noncomputable def sOf:V→List Nat
 | .str l=>l
 | _=>[]
noncomputable def bOf:V→Option Nat
 | .str (c::_)=>some c
 | _=>none
noncomputable def lm (σ:Hp) (i:Nat):List (Str×V):=match σ[i]? with
 | some (.dict kvs)=>kvs
 | _=>[]
noncomputable def dG (kvs:List (Str×V)) (x:Str):V:=(kvs.lookup x).getD .none
noncomputable def rdT (σ:Hp):List Nat:=sOf (dG (lm σ 3) "text")
noncomputable def rdP (σ:Hp):Nat:=nOf (dG (lm σ 3) "place")
noncomputable abbrev aP (S:Stm) (off:Nat):Nat×Nat:=(S.chunk.take off).foldl bt (S.pl,S.pc)
noncomputable abbrev O0 (cx:Cx) (l:List (Addr×(Nat→List V→List (Str×V)→M V))) (f:Pos→Option Bool):Orc:=mkO cx (clT l) {tb:=f}
noncomputable def at_ (n:Nat) (b:Bool) (p:Pos):Option Bool:=match DI p.line n with
 | true=>some b
 | false=>none
section
variable{cx:Cx}{mg mb:Str→Option Value}{sa:Addr}{ns:List Int}
theorem B6(P:Params)(t:List Nat)(p:Nat)(ch:List Nat)(o:Nat)(b:Option Nat)(pl pc:Nat)(off d:Nat):bo 6 [0,1,2,3,4,5] ((evN (T1 sa ns) (O0 cx [] (at_ 56 true)) 20).call (d+1) (.old 119) [.ref 0,.int (dV off)] [] (L6 t p (DS ⟨ch,o,b,pl,pc⟩)))
 =some ⟨.tup [.int (dV (pl+countIn ch [10] 0 off)),.int (dV (pc+off))],L6 t p (DS ⟨ch,o,b,pl,pc⟩),[decide (bF ch [10] 0 off=DM 0)=true]⟩:=by induction b<;>kernel_rfl
theorem posB(P:Params)(t:List Nat)(p:Nat)(ch:List Nat)(o:Nat)(b:Option Nat)(pl pc:Nat)(off d:Nat):bo 6 [0,1,2,3,4,5] ((evN (T1 sa ns) (O0 cx [] (at_ 56 false)) 20).call (d+1) (.old 119) [.ref 0,.int (dV off)] [] (L6 t p (DS ⟨ch,o,b,pl,pc⟩)))
 =some ⟨.tup [.int (dV (pl+countIn ch [10] 0 off)),.int (dV off-(bF ch [10] 0 off+1))],L6 t p (DS ⟨ch,o,b,pl,pc⟩),[decide (bF ch [10] 0 off=DM 0)=false]⟩:=by induction b<;>kernel_rfl
noncomputable abbrev bx:=Nat→List V→List (Str×V)→M V
noncomputable def dictOf (σ:Hp) (i:Nat):Option Nat:=match σ[i]? with
 | some (.inst _ k)=>some k
 | _=>none
noncomputable def BA (args:List V) (σ:Hp):Option (List Nat):=match args with
 | .ref i::_=>(match dictOf σ i with
  | some k=>some [i,k]
  | none=>none)
 | _=>none
noncomputable def zA (i k b c d:Nat) (σ:Hp):Option (List Nat):=match dictOf σ c with
 | some e=>some [i,k,c,e,b,d]
 | none=>none
noncomputable def refOf:V→Option Nat
 | .ref i=>some i
 | _=>none
noncomputable def kQ (args:List V) (σ:Hp):Option (List Nat):=match args with
 | .ref i::_=>(match dictOf σ i with
  | some k=>(match σ[k]? with
   | some (.strm _ _ _ _ [_,b,c,d])=>zA i k b c d σ
   | some (.dict kvs)=>(match refOf (dG kvs "newLines"),refOf (dG kvs "dataStream"),refOf (dG kvs "errors")with
    | some b,some c,some d=>zA i k b c d σ
    | _,_,_=>none)
   | _=>none)
  | none=>none)
 | _=>none
noncomputable def rdS (σ:Hp):Stm:=⟨sOf (dG (lm σ 1) "chunk"),nOf (dG (lm σ 1) "chunkOffset"),bOf (dG (lm σ 1) "_bufferedCharacter"),nOf (dG (lm σ 1) "prevNumLines"),nOf (dG (lm σ 1) "prevNumCols")⟩
noncomputable def ms:List V→Hp→Option (Out V):=fnP [.k (.ref 0),.n] fun σs off=>some ⟨.tup [.int (dV (aP (rdS σs) off).1),.int (dV (aP (rdS σs) off).2)],σs,[σs=L6 (rdT σs) (rdP σs) (DS (rdS σs)),off≤(rdS σs).chunk.length]⟩
noncomputable abbrev L2 (t:List Nat) (p:Nat):Hp:=[.inst 73 1,.dict [("text",.str t),("place",.int (dV p))]]
noncomputable def me (σ:Hp):List Nat:=sOf (dG (lm σ 1) "text")
noncomputable def vJ (σ:Hp):Nat:=nOf (dG (lm σ 1) "place")
noncomputable def jO:List V→Hp→Option (Out V):=fnP [.k (.ref 0),.k (.int (.ofNat 10240))] fun σs=>some ⟨.str ((me σs).drop (vJ σs)),L2 (me σs) (me σs).length,[σs=L2 (me σs) (vJ σs),vJ σs≤(me σs).length,(me σs).length≤10240]⟩
theorem zJ(P:Params)(sa:Addr)(ns:List Int)(cx:Cx)(t:List Nat)(p d:Nat):bo 2 [0,1] ((evN (T1 sa ns) (O0 cx [] (fun _=>none)) 20).call (d+1) (.old 70) [.ref 0,.int (dV 10240)] [] (L2 t p))
 =some ⟨.str (ar t (some (dV p)) (some (dV (p+10240)))),L2 t (p+(ar t (some (dV p)) (some (dV (p+10240)))).length),[t.length≤sizeLine,(ar t (some (dV p)) (some (dV (p+10240)))).length≤sizeLine]⟩:=by kernel_rfl
noncomputable abbrev Ok1 (cx:Cx) (mg mb:Str→Option Value) (sa:Addr) (ns:List Int):Prop:=Ok cx cx.K mg mb (T1 sa ns)
theorem ab(H:Ok1 cx mg mb sa ns){l:List (Addr×bx)}(hc:aa cx (clT l))(a:Adv)(n:Nat):aw cx (evN (T1 sa ns) (mkO cx (clT l) a) n):=bu H (bk hc a) n
theorem yU{t:List Nat}{p:Nat}(hp:p≤t.length)(ht:t.length≤10240):ar t (some (dV p)) (some (dV (p+10240)))=t.drop p:=by
 unfold ar bv
 have h1:Ex p t.length=true:=Ef.mpr hp
 simp only[h1]
 apply EV
 refine rK (D3 ..) ?_
 split
 ·rename_i h;have:=Ef.mp h;lia
 ·exact DQ _
theorem mr(H:Ok1 cx mg mb sa ns):Told cx 119 1 ms:=Told.fn fun σs off {A ρ s xs d} r S hv=>af fun ob=>by
 refine o02 ob fun o1 o2=>?_
 have o2:off≤(rdS σs).chunk.length:=o2
 generalize rdT σs=t at o1
 generalize rdP σs=p at o1
 generalize rdS σs=St at o1 o2 ⊢
 subst o1
 obtain⟨ch,o0,b,pl,pc⟩:=St
 have k1:=qH ch pl pc off o2
 by_cases q:bF ch [10] 0 off= -1
 ·have:=aJ (ks:=[0,1,2,3,4,5]) (kw:=[]) (ab H (l:=[]) aa.nil {tb:=at_ 56 true} 20) r S hv ix (B6 (sa:=sa) (ns:=ns) cx.P t p ch o0 b pl pc off d) (decide_eq_true q)
  dsimp only at this
  rw[k1,pos_none ch pl pc off o2 q]at this
  exact this
 ·have:=aJ (ks:=[0,1,2,3,4,5]) (kw:=[]) (ab H (l:=[]) aa.nil {tb:=at_ 56 false} 20) r S hv ix (posB (sa:=sa) (ns:=ns) cx.P t p ch o0 b pl pc off d) (decide_eq_false q)
  dsimp only at this
  refine o13 (sS ch pl pc off o2 q) fun j j1 j2 j3=>?_
  have e2:dV off-(bF ch [10] 0 off+1)=dV ((ch.take off).foldl bt (pl,pc)).2:=by
   rw[j1,←j3];simp only[DN];omega
  rw[k1,e2]at this
  exact this
theorem qG(H:Ok1 cx mg mb sa ns):Told cx 70 1 jO:=Told.fn fun σs {A ρ s xs d} r S hv=>af fun ob=>by
 obtain⟨o1,o2,o3⟩:=ob
 have o3:(me σs).length≤10240:=o3
 generalize me σs=t at o1 o2 o3 ⊢
 generalize vJ σs=p at o1 o2 o3 ⊢
 subst o1
 have hs:=sizeLine_eq
 have hc:=yU o2 o3
 have:=aJ (ks:=[0,1]) (kw:=[]) (ab H (l:=[]) aa.nil {tb:=fun _=>none} 20) r S hv ix (zJ cx.P sa ns cx t p d) (by
  show _∧_
  refine rK (hc ..) ?_
  exact⟨by(exact kV (by assumption) (by decide)),by show(t.drop p).length≤sizeLine;refine rK (D3 ..) ?_;lia⟩)
 dsimp only at this
 replace this:=(show p+(t.length-p)=t.length from by(exact FG (by assumption)))▸((D3 ..)▸((hc ..)▸this))
 exact this
noncomputable def alpha:List Nat:=[38,35,120,59,97,109,112,110,111,116,105,108,48,49,50,51,52,53,54,55,56,57,66,88,32,10,13,9,12,0,62,61,44,160,1635]
noncomputable def mP:List V→Hp→Option (Out V):=d9 [.n] fun c=>some ⟨.bool false,[],[c∈alpha]⟩
noncomputable def dS (_:List V) (_:Hp):Option (List Nat):=some []
noncomputable def yj (cx:Cx) (P:Params) (sa:Addr) (ns:List Int) (d:Nat) (c:Nat):Option (Out V):=bo 0 [] ((evN (T1 sa ns) (O0 cx [] (fun _=>none)) 20).call (d+1) (.old 84) [.int (dV c)] [] [])
theorem C0(P:Params)(sa:Addr)(ns:List Int)(cx:Cx)(d:Nat): ∀c∈alpha,yj cx P sa ns d c=some ⟨.bool false,[],[]⟩:=each (by kernel_rfl)
theorem mO(H:Ok1 cx mg mb sa ns):Told cx 84 1 mP:=Told.fn0 fun c {A ρ s xs d} r S hv=>af fun ob=>
 aJ (ks:=[]) (kw:=[]) (kws:=[]) (o:=⟨.bool false,[],[]⟩) (ab H (l:=[]) aa.nil {tb:=fun _=>none} 20) r S hv ix (C0 cx.P sa ns cx d c ob) trivial
noncomputable def az (l:List Stmt) (i:Nat):Stmt:=l.getD i default
noncomputable def B7 (c:Option Nat):List (Str×V):=match c with
 | none=>[]
 | some c=>[("c",.str [c])]
noncomputable abbrev ceF (P:Params):Fn:=fnN 148
noncomputable abbrev ceS (P:Params):Stmt:=az (ceF P).body 0
noncomputable abbrev ceE (P:Params) (d:Nat):EE:=⟨6,[],(ceF P).scope,d⟩
noncomputable abbrev ceL (t:List Nat) (p:Nat) (S:Stm) (data:List Nat) (c:Option Nat):Hp:=L6 t p (DS S)++[.fr (("self",.ref 0)::("data",.str data)::B7 c)]
noncomputable abbrev TE (cx:Cx) (sa:Addr) (ns:List Int) (l:List (Addr×bx)) (f:Pos→Option Bool) (n:Nat):Ev:=evN (T1 sa ns) (O0 cx l f) n
theorem ce1(P:Params):(ceF P).body=[.For (sA (ceS P)) (sB (ceS P)) (bL (ceS P)) [] (ceS P).pos]:=by kernel_rfl
noncomputable def sr:Addr×bx:=(84,lift 1 dS mP)
noncomputable def aL (_:Pos):Option Bool:=none
theorem ce2(t:List Nat)(p:Nat)(ch:List Nat)(o:Nat)(b:Option Nat)(pl pc d:Nat)(data:List Nat)(c:Option Nat)(x:Nat):
 aF (T1 sa ns) (TE cx sa ns [sr] aL 20) (ceE cx.P d) (sA (ceS cx.P)) (.str [x]) (ceL t p ⟨ch,o,b,pl,pc⟩ data c)=some ⟨(),ceL t p ⟨ch,o,b,pl,pc⟩ data (some x),[]⟩:=by induction b<;>induction c<;>kernel_rfl
theorem ce3(t:List Nat)(p:Nat)(ch:List Nat)(o:Nat)(b:Option Nat)(pl pc d:Nat)(data:List Nat)(x:Nat):
 (TE cx sa ns [sr] aL 20).ss (ceE cx.P (d+2)) (bL (ceS cx.P)) (ceL t p ⟨ch,o,b,pl,pc⟩ data (some x))=some ⟨.next,ceL t p ⟨ch,o,b,pl,pc⟩ data (some x),[x∈alpha]⟩:=by induction b<;>kernel_rfl
theorem ce5(t:List Nat)(p:Nat)(ch:List Nat)(o:Nat)(b:Option Nat)(pl pc:Nat)(data:List Nat)(c:Option Nat):eV (ceL t p ⟨ch,o,b,pl,pc⟩ data c) [0,1,2,3,4,5] [0,1,2,3,4,5]=some (L6 t p (DS ⟨ch,o,b,pl,pc⟩)):=by induction b<;>induction c<;>kernel_rfl
theorem ce6(t:List Nat)(p:Nat)(ch:List Nat)(o:Nat)(b:Option Nat)(pl pc d:Nat)(data:List Nat):(TE cx sa ns [sr] aL 20).ex (ceE cx.P d) (sB (ceS cx.P)) (ceL t p ⟨ch,o,b,pl,pc⟩ data none)=some ⟨.str data,ceL t p ⟨ch,o,b,pl,pc⟩ data none,[]⟩:=by induction b<;>kernel_rfl
noncomputable abbrev ceB (data:List Nat):List (Str×V):=[("self",.ref 0),("data",.str data)]
theorem ce7(P:Params)(data:List Nat):bw (ceF P).dfl [] (ceF P).pars [.ref 0,.str data]=some (ceB data):=by kernel_rfl
theorem ce8(P:Params)(t:List Nat)(p:Nat)(S:Stm)(d:Nat)(data:List Nat):enter (ceF P) d (ceB data) (L6 t p (DS S))=some ⟨ceE P d,ceL t p S data none,[]⟩:=by kernel_rfl
theorem ce9(P:Params):(∀env x,foldedSetIterable (sB (ceS P)) env x=pure x)∧ ∀J v,letOwnedTupleGo (sA (ceS P)) (.ref J) v=pure ():=⟨fun _ _=>by kernel_rfl,fun _ _=>by kernel_rfl⟩
theorem Bd(H:Ok1 cx mg mb sa ns){t:List Nat}{p:Nat}{ch:List Nat}{o:Nat}{b:Option Nat}{pl pc d:Nat}{data:List Nat}(ha: ∀x∈data,x∈alpha):
  ∃c',Fo cx (T1 sa ns) (TE cx sa ns [sr] aL 20) (ceE cx.P (d+2)) (sA (ceS cx.P)) (bL (ceS cx.P)) (charAt data) (fun _=>True) .next (ceL t p ⟨ch,o,b,pl,pc⟩ data c') data.length 0 (ceL t p ⟨ch,o,b,pl,pc⟩ data none):=
 Fo.str (L:=fun _:Unit=>ceL t p ⟨ch,o,b,pl,pc⟩ data) (step:=fun x _=>x) (fun _ c k=>ce2 (cx:=cx) (sa:=sa) (ns:=ns) t p ch o b pl pc (d+2) data c k) (fun _ k c hk=>⟨_,SS.ev (ab H (aa.cons (mO H).tells aa.nil) {tb:=aL} 20) (ce3 t p ch o b pl pc d data k) (ha k hk),.inl rfl⟩) data [] () none rfl
noncomputable def pU:List V→Hp→Option (Out V):=fnP [.k (.ref 0),.s] fun σs data=>some ⟨.none,σs,[σs=L6 (rdT σs) (rdP σs) (DS (rdS σs)),∀x∈data,x∈alpha]⟩
theorem w9(H:Ok1 cx mg mb sa ns):Told cx 148 3 pU:=Told.fn fun σs data {A ρ s xs d} r S hv=>af fun ob=>by
 obtain⟨o1,o2⟩:=ob
 have o2: ∀x∈data,x∈alpha:=o2
 generalize rdT σs=t at o1
 generalize rdP σs=p at o1
 generalize rdS σs=St at o1
 subst o1
 obtain⟨ch,o0,b,pl,pc⟩:=St
 obtain⟨obj,fd,k⟩:=H.fns 148 (ceF cx.P) (by kernel_rfl)
 have HC:aa cx (clT [sr]):=aa.cons (mO H).tells aa.nil
 have HF:=ab H HC {tb:=aL} 20
 obtain⟨c',w⟩:=Bd (t:=t) (p:=p) (ch:=ch) (o:=o0) (b:=b) (pl:=pl) (pc:=pc) (d:=d) H o2
 have body:SS cx (ceE cx.P (d+2)) (ceF cx.P).body (ceL t p ⟨ch,o0,b,pl,pc⟩ data none) .next (ceL t p ⟨ch,o0,b,pl,pc⟩ data c'):=by
  refine rK (ce1 ..) ?_
  exact SS.cons (gc H HF (II.str (XX.ev HF (ce6 t p ch o0 b pl pc (d+2) data) trivial)) w (ce9 _).1 (ce9 _).2) SS.nil
 have c:=aR (kws:=[]) (ks:=[]) H r k S hv ix (ce7 _ data) (ce8 _ t p ⟨ch,o0,b,pl,pc⟩ (d+2) data) rfl body
 exact ah.pick c (pick_from (ce5 t p ch o0 b pl pc data c') rfl rfl) trivial
noncomputable def adL (l:List (Nat×Nat×Nat×Bool)) (p:Pos):Option Bool:=match l with
 | []=>none
 | (a,b,c,q)::r=>match DI p.line a,DI p.col b,DI p.endCol c with
  | true,true,true=>some q
  | _,_,_=>adL r p
noncomputable abbrev DG (ch:List Nat) (sz off:Nat) (b:Option Nat) (pl pc:Nat):AO:=.dict [("reportCharacterErrors",.meth 148 0),("newLines",.ref 4),("dataStream",.ref 2),("chunk",.str ch),("chunkSize",.int (dV sz)),("chunkOffset",.int (dV off)),
 ("errors",.ref 5),("prevNumLines",.int (dV pl)),("prevNumCols",.int (dV pc)),("_bufferedCharacter",zf b)]
noncomputable def yb:Addr×bx:=(119,lift 1 kQ ms)
noncomputable def zt:Addr×bx:=(70,lift 1 BA jO)
noncomputable def tCe:Addr×bx:=(148,lift 3 kQ pU)
noncomputable abbrev rcO:List (Addr×bx):=[yb,zt,tCe]
noncomputable abbrev rcF (P:Params):Fn:=fnN 141
noncomputable abbrev rcE (P:Params) (d:Nat):EE:=⟨6,[],(rcF P).scope,d⟩
noncomputable abbrev rcL (t:List Nat) (p:Nat) (D:AO) (v:V) (kvs:List (Str×V)):Hp:=L6 t p D++[.fr (("self",.ref 0)::("chunkSize",v)::kvs)]
noncomputable def rcs (P:Params) (i n:Nat):List Stmt:=((rcF P).body.drop i).take n
theorem rc0(P:Params):(rcF P).body=rcs P 0 2++(az (rcF P).body 2::(rcs P 3 6++(az (rcF P).body 9::az (rcF P).body 10::rcs P 11 3))):=by kernel_rfl
theorem rc1(t:List Nat)(p:Nat)(ch:List Nat)(o:Nat)(b:Option Nat)(pl pc d:Nat):(TE cx sa ns rcO aL 20).ss (rcE cx.P (d+4)) (rcs cx.P 0 2) (rcL t p (DS ⟨ch,o,b,pl,pc⟩) .none [])
 =some ⟨.next,rcL t p (DG ch ch.length o b (aP ⟨ch,o,b,pl,pc⟩ ch.length).1 (aP ⟨ch,o,b,pl,pc⟩ ch.length).2) (.int (dV 10240)) [],[L6 t p (DS ⟨ch,o,b,pl,pc⟩)=L6 t p (DS ⟨ch,o,b,pl,pc⟩),ch.length≤ch.length]⟩:=by induction b<;>kernel_rfl
theorem B3(t:List Nat)(sz o:Nat)(pl pc d:Nat):(TE cx sa ns rcO (adL [(88,11,24,false)]) 20).ss (rcE cx.P (d+4)) (rcs cx.P 3 6) (rcL t t.length (DG [] sz o (some 13) pl pc) (.int (dV 10240)) [])
 =some ⟨.next,rcL t t.length (DG [] 0 0 none pl pc) (.int (dV 10240)) [("data",.str ([13]++t.drop t.length))],[L2 t t.length=L2 t t.length,t.length≤t.length,t.length≤10240,1≤sizeLine,1+(t.drop t.length).length≤sizeLine,([13]++t.drop t.length).length≤sizeLine,
  decide (dV 1<dV ([13]++t.drop t.length).length)=false,L6 t t.length (DG [] 0 0 none pl pc)=L6 t t.length (DS ⟨[],0,none,pl,pc⟩),∀x∈[13]++t.drop t.length,x∈alpha]⟩:=by kernel_rfl
theorem B2(t:List Nat)(sz o:Nat)(pl pc d:Nat):(TE cx sa ns rcO (adL [(86,17,21,false)]) 20).ss (rcE cx.P (d+4)) (rcs cx.P 3 6) (rcL t t.length (DG [] sz o none pl pc) (.int (dV 10240)) [])
 =some ⟨.ret (.bool false),rcL t t.length (DG [] 0 0 none pl pc) (.int (dV 10240)) [("data",.str (t.drop t.length))],[L2 t t.length=L2 t t.length,t.length≤t.length,t.length≤10240,(t.drop t.length).length≤sizeLine,
  (bR (t.drop t.length))=false]⟩:=by kernel_rfl
theorem BU(sz o:Nat)(d:Nat):(TE cx sa ns rcO (adL []) 20).ss (rcE cx.P (d+4)) (rcs cx.P 3 6) (rcL [] 0 (DG [] sz o none 0 0) (.int (dV 10240)) [])
 =some ⟨.ret (.bool false),rcL [] 0 (DG [] 0 0 none 0 0) (.int (dV 10240)) [("data",.str [])],[L2 [] 0=L2 [] 0,0≤0,0≤10240,0≤sizeLine]⟩:=by kernel_rfl
theorem B1(c:Nat)(sz o:Nat)(d:Nat):(TE cx sa ns rcO (adL []) 20).ss (rcE cx.P (d+4)) (rcs cx.P 3 6) (rcL [c] 0 (DG [] sz o none 0 0) (.int (dV 10240)) [])
 =some ⟨.next,rcL [c] 1 (DG [] 0 0 none 0 0) (.int (dV 10240)) [("data",.str [c])],[L2 [c] 0=L2 [c] 0,0≤1,1≤10240,1≤sizeLine,1≤sizeLine,L6 [c] 1 (DG [] 0 0 none 0 0)=L6 [c] 1 (DS ⟨[],0,none,0,0⟩),∀x∈[c],x∈alpha]⟩:=by kernel_rfl
theorem BZ(c1 c2:Nat)(t:List Nat)(sz o:Nat)(d:Nat):(TE cx sa ns rcO (adL [(88,11,24,true),(90,15,26,true)]) 20).ss (rcE cx.P (d+4)) (rcs cx.P 3 6) (rcL (c1::c2::t) 0 (DG [] sz o none 0 0) (.int (dV 10240)) [])
 =some ⟨.next,rcL (c1::c2::t) (t.length+2) (DG [] 0 0 (some (av (DM 0) (c1::c2::t))) 0 0) (.int (dV 10240)) [("data",.str (ar (c1::c2::t) none (some (DM 0)))),("lastv",.int (dV (av (DM 0) (c1::c2::t))))],
  [L2 (c1::c2::t) 0=L2 (c1::c2::t) 0,0≤t.length+2,t.length+2≤10240,t.length+2≤sizeLine,t.length+2≤sizeLine,decide (dV 1<dV (t.length+2))=true,an (DM 0),inR (DM 0) (t.length+2),decide (dV (av (DM 0) (c1::c2::t))=13)=true,an (DM 0),inR (DM 0) (t.length+2),t.length+2≤sizeLine,
   L6 (c1::c2::t) (t.length+2) (DG [] 0 0 (some (av (DM 0) (c1::c2::t))) 0 0)=L6 (c1::c2::t) (t.length+2) (DS ⟨[],0,some (av (DM 0) (c1::c2::t)),0,0⟩),∀x∈ar (c1::c2::t) none (some (DM 0)),x∈alpha]⟩:=by kernel_rfl
theorem BY(c1 c2:Nat)(t:List Nat)(sz o:Nat)(d:Nat):(TE cx sa ns rcO (adL [(88,11,24,true),(90,15,26,false),(90,39,44,false)]) 20).ss (rcE cx.P (d+4)) (rcs cx.P 3 6) (rcL (c1::c2::t) 0 (DG [] sz o none 0 0) (.int (dV 10240)) [])
 =some ⟨.next,rcL (c1::c2::t) (t.length+2) (DG [] 0 0 none 0 0) (.int (dV 10240)) [("data",.str (c1::c2::t)),("lastv",.int (dV (av (DM 0) (c1::c2::t))))],
  [L2 (c1::c2::t) 0=L2 (c1::c2::t) 0,0≤t.length+2,t.length+2≤10240,t.length+2≤sizeLine,t.length+2≤sizeLine,decide (dV 1<dV (t.length+2))=true,an (DM 0),inR (DM 0) (t.length+2),decide (dV (av (DM 0) (c1::c2::t))=13)=false,decide (55296≤dV (av (DM 0) (c1::c2::t)))=false,
   L6 (c1::c2::t) (t.length+2) (DG [] 0 0 none 0 0)=L6 (c1::c2::t) (t.length+2) (DS ⟨[],0,none,0,0⟩),∀x∈c1::c2::t,x∈alpha]⟩:=by kernel_rfl
section
variable{cx:Cx}{K:Frag}{mg mb:Str→Option Value}{T:Tab}{σ:Hp}{F:Ev}{ee:EE}
theorem S1t.repl(H:Ok cx K mg mb T)(HF:aw cx F){s0:Stmt}{a b:Str}{l:List Nat}{o:Out Unit}(h0:s0=.Assign [sB s0] (.Call (.Attribute (qA (qA (sA s0))) "replace" (Expr.pos (qA (sA s0)))) [.Constant (.str a) (exM (qI 0 (sA s0))) (qI 0 (sA s0)).pos,.Constant (.str b) (exM (qI 1 (sA s0))) (qI 1 (sA s0)).pos] [] (sA s0).pos) s0.pos)
  (hb:aQ (qA (qA (sA s0)))=true) (hl:DI (Expr.pos (qA (sA s0))).endLine (sA s0).pos.line=true) (h1:XX cx ee (qA (qA (sA s0))) σ (.str l) σ) (hne:(a==b)=false) (hz:l.length+(l.length+1)*b.length≤16777216)
  (h2:aF T F ee (sB s0) (.str (dE l a.cps.toList b.cps.toList)) σ=some o) (ob:o.ob) (hst:isStar (sB s0)=false):S1t cx ee s0 σ .next o.σ:=by
 constructor
 intro A ρ s env r e S tk
 refine rK (h0 ..) ?_
 refine wpAny_Assign_stores ?_ rfl (eB (by unfold gM;exact Fp _))
 refine(kS H r e S tk h1 hb hl hne hz).use fun x ρ1 s1 x1 r1=>?_
 refine rK (bY hst ..) ?_
 exact(bg H HF r (e.ext x1.ext) x1.sat r1 _ h2 ob).use fun _ ρ2 s2 x2 _=>(x1.trans x2).post rfl
end
noncomputable abbrev rcT (P:Params) (i:Nat):Stmt:=az (rcF P).body i
theorem BT(P:Params):rcT P 9=.Assign [sB (rcT P 9)] (.Call (.Attribute (qA (qA (sA (rcT P 9)))) "replace" (Expr.pos (qA (sA (rcT P 9))))) [.Constant (.str "\r\n") (exM (qI 0 (sA (rcT P 9)))) (qI 0 (sA (rcT P 9))).pos,.Constant (.str "\n") (exM (qI 1 (sA (rcT P 9)))) (qI 1 (sA (rcT P 9))).pos] [] (sA (rcT P 9)).pos) (rcT P 9).pos:=by kernel_rfl
theorem zQ(P:Params):rcT P 10=.Assign [sB (rcT P 10)] (.Call (.Attribute (qA (qA (sA (rcT P 10)))) "replace" (Expr.pos (qA (sA (rcT P 10))))) [.Constant (.str "\r") (exM (qI 0 (sA (rcT P 10)))) (qI 0 (sA (rcT P 10))).pos,.Constant (.str "\n") (exM (qI 1 (sA (rcT P 10)))) (qI 1 (sA (rcT P 10))).pos] [] (sA (rcT P 10)).pos) (rcT P 10).pos:=by kernel_rfl
noncomputable abbrev rcK (dt:List Nat) (lv:Option Nat):List (Str×V):=("data",.str dt)::(match lv with
 | none=>[]
 | some c=>[("lastv",.int (dV c))])
theorem BS(P:Params):aQ (qA (qA (sA (rcT P 9))))=true∧DI (Expr.pos (qA (sA (rcT P 9)))).endLine (sA (rcT P 9)).pos.line=true∧aQ (qA (qA (sA (rcT P 10))))=true∧DI (Expr.pos (qA (sA (rcT P 10)))).endLine (sA (rcT P 10)).pos.line=true:=⟨by kernel_rfl,by kernel_rfl,by kernel_rfl,by kernel_rfl⟩
theorem BR(t:List Nat)(p:Nat)(D:AO)(dt:List Nat)(lv:Option Nat)(d:Nat):(TE cx sa ns rcO aL 20).ex (rcE cx.P d) (qA (qA (sA (rcT cx.P 9)))) (rcL t p D (.int (dV 10240)) (rcK dt lv))=some ⟨.str dt,rcL t p D (.int (dV 10240)) (rcK dt lv),[]⟩:=by induction lv<;>kernel_rfl
theorem zP(t:List Nat)(p:Nat)(D:AO)(dt:List Nat)(lv:Option Nat)(d:Nat):(TE cx sa ns rcO aL 20).ex (rcE cx.P d) (qA (qA (sA (rcT cx.P 10)))) (rcL t p D (.int (dV 10240)) (rcK dt lv))=some ⟨.str dt,rcL t p D (.int (dV 10240)) (rcK dt lv),[]⟩:=by induction lv<;>kernel_rfl
theorem BQ(t:List Nat)(p:Nat)(D:AO)(dt dt':List Nat)(lv:Option Nat)(d:Nat):aF (T1 sa ns) (TE cx sa ns rcO aL 20) (rcE cx.P d) (sB (rcT cx.P 9)) (.str dt') (rcL t p D (.int (dV 10240)) (rcK dt lv))=some ⟨(),rcL t p D (.int (dV 10240)) (rcK dt' lv),[]⟩:=by induction lv<;>kernel_rfl
theorem zO(t:List Nat)(p:Nat)(D:AO)(dt dt':List Nat)(lv:Option Nat)(d:Nat):aF (T1 sa ns) (TE cx sa ns rcO aL 20) (rcE cx.P d) (sB (rcT cx.P 10)) (.str dt') (rcL t p D (.int (dV 10240)) (rcK dt lv))=some ⟨(),rcL t p D (.int (dV 10240)) (rcK dt' lv),[]⟩:=by induction lv<;>kernel_rfl
theorem zN(P:Params):isStar (sB (rcT P 9))=false∧isStar (sB (rcT P 10))=false:=⟨by kernel_rfl,by kernel_rfl⟩
theorem B4(t:List Nat)(p:Nat)(b:Option Nat)(pl pc:Nat)(dt:List Nat)(lv:Option Nat)(d:Nat):(TE cx sa ns rcO aL 20).ss (rcE cx.P d) (rcs cx.P 11 3) (rcL t p (DG [] 0 0 b pl pc) (.int (dV 10240)) (rcK dt lv))=some ⟨.ret (.bool true),rcL t p (DS ⟨dt,0,b,pl,pc⟩) (.int (dV 10240)) (rcK dt lv),[dt.length≤sizeLine]⟩:=by induction lv<;>kernel_rfl
theorem BX(P:Params):rcT P 2=.Assign [sB (rcT P 2)] (.Constant (.str "") (exM (sA (rcT P 2))) (sA (rcT P 2)).pos) (rcT P 2).pos:=by kernel_rfl
theorem BW(t:List Nat)(p:Nat)(ch:List Nat)(sz o:Nat)(b:Option Nat)(pl pc d:Nat)(v:V):aF (T1 sa ns) (TE cx sa ns rcO aL 20) (rcE cx.P d) (sB (rcT cx.P 2)) (.str []) (rcL t p (DG ch sz o b pl pc) v [])=some ⟨(),rcL t p (DG [] sz o b pl pc) v [],[]⟩:=by kernel_rfl
theorem BV(P:Params):isStar (sB (rcT P 2))=false:=by kernel_rfl
noncomputable def rcB:List (Str×V):=[("self",.ref 0),("chunkSize",.none)]
theorem vK(P:Params):bw (rcF P).dfl [] (rcF P).pars [.ref 0]=some rcB:=by kernel_rfl
theorem sO(P:Params)(t:List Nat)(p:Nat)(S:Stm)(d:Nat):enter (rcF P) d rcB (L6 t p (DS S))=some ⟨rcE P d,rcL t p (DS S) .none [],[]⟩:=by kernel_rfl
end
section
open Builtin Builtin.Str StrLaws
inductive Rep(y z:List Nat):List Nat→List Nat→Prop
 | nil:Rep y z [] []
 | hit {r r'}:Rep y z r r'→Rep y z (y++r) (z++r')
 | miss {c r r'}: ¬y<+:(c::r)→Rep y z r r'→Rep y z (c::r) (c::r')
theorem oy(l y:List Nat)(k:Nat):At ⟨l.toArray⟩ ⟨y.toArray⟩ (⟨l.toArray⟩:Str).length k↔k+y.length≤l.length∧y<+:l.drop k:=by
 unfold At
 refine rK (subAt_eq ..) ?_
 have e1:(⟨l.toArray⟩:Str).length=l.length:=by simp[Str.length]
 have e2:(⟨y.toArray⟩:Str).length=y.length:=by simp[Str.length]
 refine rK (e1 ..) (rK (e2 ..) ?_)
 simp only[beq_iff_eq]
 constructor
 ·rintro⟨h1,h2⟩
  exact⟨h1,by rw[←h2];exact List.take_prefix _ _⟩
 ·rintro⟨h1,h2⟩
  exact⟨h1,(FC.mp h2).symm⟩
theorem ie(l:List Nat)(a b:Nat):(strSub ⟨l.toArray⟩ a b).cps.toList=(l.drop a).take (b-a):=by
 unfold strSub
 simp[List.extract_eq_take_drop]
theorem ma{l y z:List Nat}(hy:y≠[]){m:List Nat}{c:Nat}(hc:c≤l.length)(hm:Rep y z (l.drop c) m): ∀(n a:Nat),c-a=n→a≤c→(∀k,a≤k→k<c→ ¬(k+y.length≤l.length∧y<+:l.drop k))→Rep y z (l.drop a) ((l.drop a).take (c-a)++m):=by
 intro n
 induction n with
 | zero=>
  intro a h1 h2 _
  have:a=c:=by omega
  subst this
  simp only[FO,List.take_zero,ES];exact hm
 | succ n ih=>
  intro a h1 h2 h3
  have ha:a<l.length:=by omega
  have:=ih (a+1) (by omega) (by omega) fun k k1 k2=>h3 k (by exact D6 (by assumption)) k2
  have e:l.drop a=l[a]::l.drop (a+1):=D9 ha
  refine rK (show c-a=(c-(a+1))+1 from by omega) (rK (e ..) (rK (List.take_succ_cons ..) (rK (EP ..) ?_)))
  refine .miss (fun hp=>h3 a (DQ _) (by exact Fj h1) ⟨?_,by refine rK (e ..) ?_;exact hp⟩) this
  have:=hp.length_le
  replace this:=(D3 ..)▸(Eh (e ..)▸this)
  omega
theorem join_list(z:List Nat)(p q:Str)(r:List Str):(Str.join ⟨z.toArray⟩ (p::q::r)).cps.toList=p.cps.toList++(z++(Str.join ⟨z.toArray⟩ (q::r)).cps.toList):=by
 show(p++⟨z.toArray⟩++Str.join ⟨z.toArray⟩ (q::r)).cps.toList=_
 show((p.cps++z.toArray)++(Str.join ⟨z.toArray⟩ (q::r)).cps).toList=_
 simp
theorem jM{l y z:List Nat}(hy:y≠[]): ∀(cuts:List Nat) (a f:Nat),a≤l.length→ChainG ⟨l.toArray⟩ ⟨y.toArray⟩ (⟨l.toArray⟩:Str).length a cuts f→(∀k,f≤k→ ¬At ⟨l.toArray⟩ ⟨y.toArray⟩ (⟨l.toArray⟩:Str).length k)→
  Rep y z (l.drop a) (Str.join ⟨z.toArray⟩ (partsFrom ⟨l.toArray⟩ (⟨y.toArray⟩:Str).length a cuts)).cps.toList
 | [],a,f,ha,h,hf=>by
  have e:f=a:=h
  subst e
  have e1:(⟨l.toArray⟩:Str).length=l.length:=by simp[Str.length]
  show Rep y z (l.drop f) (strSub ⟨l.toArray⟩ f (⟨l.toArray⟩:Str).length).cps.toList
  refine rK (ie ..) (rK (e1 ..) ?_)
  have:=ma (l:=l) (y:=y) (z:=z) hy (m:=[]) (c:=l.length) (DQ _) (by refine rK (EF ..) ?_;exact .nil) (l.length-f) f rfl ha fun k k1 _ k3=>hf k k1 ((oy l y k).mpr k3)
  rwa[D2]at this
 | c::r,a,f,ha,h,hf=>by
  refine o04 h fun h1 h2 h3 h4=>?_
  have h2':=(oy l y c).mp h2
  have e2:(⟨y.toArray⟩:Str).length=y.length:=by simp[Str.length]
  replace h4:=(e2 ..)▸h4
  have ih:=jM (z:=z) hy r (c+y.length) f h2'.1 h4 hf
  refine o21 (partsFrom_ne ⟨l.toArray⟩ (⟨y.toArray⟩:Str).length (c+y.length) r) fun q rs hq=>?_
  show Rep y z (l.drop a) (Str.join ⟨z.toArray⟩ (strSub ⟨l.toArray⟩ a c::partsFrom ⟨l.toArray⟩ (⟨y.toArray⟩:Str).length (c+(⟨y.toArray⟩:Str).length) r)).cps.toList
  rw[e2]at hq ih ⊢
  rw[hq,join_list,←hq,ie]
  refine ma hy (by have:=h2'.1;(exact kV (D8 ..) (by assumption))) ?_ (c-a) a rfl h1 fun k k1 k2 k3=>h3 k k1 k2 ((oy l y k).mpr k3)
  refine o11 h2'.2 fun t ht=>?_
  have e3:l.drop (c+y.length)=t:=by rw[←FM,←ht,Fq]
  rw[←ht]
  exact .hit (by rw[←e3];exact ih)
theorem c8{l y z:List Nat}(hy:y≠[]):Rep y z l (dE l y z):=by
 unfold dE Txt.replace
 have e2:(⟨y.toArray⟩:Str).length=y.length:=by simp[Str.length]
 have hw:1≤(⟨y.toArray⟩:Str).length:=by
  refine rK (e2 ..) ?_;induction y with
  | nil=>exact absurd rfl hy
  | cons=>simp
 refine o12 (occ_tight ⟨l.toArray⟩ ⟨y.toArray⟩ hw) fun f g1 g2=>?_
 have key:=jM (z:=z) hy _ 0 f (DU _) g1 g2
 replace key:=(Fs ..)▸key
 split
 ·rename_i hc
  replace hc:=(Bool.or_eq_true ..)▸hc
  rcases hc with hc | hc
  ·have:occurrences ⟨l.toArray⟩ ⟨y.toArray⟩ 0 (⟨l.toArray⟩:Str).length ((⟨l.toArray⟩:Str).length+1)=[]:=by simpa using hc
   replace key:=(this ..)▸key
   have e3:(strSub ⟨l.toArray⟩ 0 (⟨l.toArray⟩:Str).length).cps.toList=l:=by
    refine rK (ie ..) ?_;simp[Str.length]
   have key:Rep y z l (strSub ⟨l.toArray⟩ 0 (⟨l.toArray⟩:Str).length).cps.toList:=key
   replace key:=(e3 ..)▸key
   exact key
  ·simp only[E5,beq_iff_eq]at hc
   have:=hc.1
   lia
 ·refine rK (partsBetween_eq ..) (rK (glued_eq_join ..) ?_)
  exact key
noncomputable def aA:List Nat→List Nat
 | []=>[]
 | [c]=>[match DI c 13 with | true=>10 | false=>c]
 | c::d::r=>match DI c 13,DI d 10 with
  | true,true=>10::aA r
  | true,false=>10::aA (d::r)
  | false,_=>c::aA (d::r)
theorem aA.c{c d:Nat}{r:List Nat}:aA (c::d::r)=(match DI c 13,DI d 10 with | true,true=>10::aA r | true,false=>10::aA (d::r) | false,_=>c::aA (d::r)):=rfl
noncomputable def turn (c:Nat):Nat:=match DI c 13 with | true=>10 | false=>c
theorem vI{l m:List Nat}(h:Rep [13] [10] l m):m=l.map turn:=by
 induction h with
 | nil=>rfl
 | hit _ ih=>refine rK (ih ..) ?_;rfl
 | miss h _ ih=>
  rename_i c r r' _
  rw[Em,←ih]
  congr 1
  unfold turn
  induction q:DI c 13 with
  | true=>exact absurd ⟨r,by refine rK (DK q ..) ?_;rfl⟩ h
  | false=>rfl
theorem vH{l m:List Nat}(h:Rep [13,10] [10] l m):m.map turn=aA l:=by
 induction h with
 | nil=>rfl
 | hit _ ih=>refine rK (ET ..) (rK (ih ..) ?_);rfl
 | miss h _ ih=>
  rename_i c r r' _
  refine rK (Em ..) (rK (ih ..) ?_)
  induction r with
  | nil=>rfl
  | cons d r=>
   show turn c::aA (d::r)=(match DI c 13,DI d 10 with | true,true=>10::aA r | true,false=>10::aA (d::r) | false,_=>c::aA (d::r))
   unfold turn
   induction q:DI c 13 with
   | false=>rfl
   | true=>
    induction q2:DI d 10 with
    | false=>rfl
    | true=>exact absurd ⟨r,by refine rK (DK q ..) (rK (DK q2 ..) ?_);rfl⟩ h
theorem oZ(l:List Nat):dE (dE l [13,10] [10]) [13] [10]=aA l:=by
 exact rK (vI (c8 (by simp)) ..) (rK (vH (c8 (by simp)) ..) rfl)
theorem kT{y z l m:List Nat}(hz:z.length≤y.length)(h:Rep y z l m):m.length≤l.length:=by
 induction h with
 | nil=>simp
 | hit _ ih=>simp;exact F8 hz ih
 | miss _ _ ih=>simp;assumption
theorem iC(l:List Nat):(aA l).length≤l.length:=by
 rw[←oZ]
 have h1:=kT (by simp) (c8 (l:=dE l [13,10] [10]) (y:=[13]) (z:=[10]) (by simp))
 have h2:=kT (by simp) (c8 (l:=l) (y:=[13,10]) (z:=[10]) (by simp))
 exact kV (by assumption) (by assumption)
end
section
variable{cx:Cx}{mg mb:Str→Option Value}{sa:Addr}{ns:List Int}
theorem SS.stopApp{ee:EE}{l m:List Stmt}{f:Fl}{σ σ1:Hp}(h1:SS cx ee l σ f σ1)(hf:f≠ .next):SS cx ee (l++m) σ f σ1:=.mk fun A ρ s env r e S=>by
 refine rK (be ..) ?_
 refine wpAny_bind ((h1.it _ _ _ _ r e S).use fun x ρ1 s1 x1 r1=>?_)
 induction f
 ·exact absurd rfl hf
 ·have r1:x=.brk:=r1
  subst r1;exact wpAny_pure (x1.post rfl)
 ·have r1:x=.cont:=r1
  subst r1;exact wpAny_pure (x1.post rfl)
 ·refine o12 r1 fun y e1q hy=>?_;subst e1q
  exact wpAny_pure (x1.post ⟨y,rfl,hy⟩)
theorem c9(H:Ok1 cx mg mb sa ns):aa cx (clT rcO):=aa.cons (Told.tells (mr H)) (aa.cons (Told.tells (qG H)) (aa.cons (Told.tells (w9 H)) aa.nil))
theorem gv(H:Ok1 cx mg mb sa ns){t:List Nat}{p:Nat}{ch:List Nat}{o:Nat}{b:Option Nat}{pl pc d:Nat}{f:Fl}{σ2:Hp}
  (h:SSt cx (rcE cx.P (d+4)) (rcs cx.P 3 6++(rcT cx.P 9::rcT cx.P 10::rcs cx.P 11 3)) (rcL t p (DG [] ch.length o b (aP ⟨ch,o,b,pl,pc⟩ ch.length).1 (aP ⟨ch,o,b,pl,pc⟩ ch.length).2) (.int (dV 10240)) []) f σ2):
  SS cx (rcE cx.P (d+4)) (rcF cx.P).body (rcL t p (DS ⟨ch,o,b,pl,pc⟩) .none []) f σ2:=by
 have HF:=ab H (c9 H) {tb:=aL} 20
 have h1:SS cx (rcE cx.P (d+4)) (rcs cx.P 0 2) (rcL t p (DS ⟨ch,o,b,pl,pc⟩) .none []) .next _:=SS.ev HF (rc1 t p ch o b pl pc d) ⟨rfl,DQ _⟩
 have h2:S1p cx (rcE cx.P (d+4)) (rcT cx.P 2) (rcL t p (DG ch ch.length o b (aP ⟨ch,o,b,pl,pc⟩ ch.length).1 (aP ⟨ch,o,b,pl,pc⟩ ch.length).2) (.int (dV 10240)) []) (rcL t p (DG [] ch.length o b (aP ⟨ch,o,b,pl,pc⟩ ch.length).1 (aP ⟨ch,o,b,pl,pc⟩ ch.length).2) (.int (dV 10240)) []):=by
  refine rK (BX ..) ?_
  exact S1p.const H HF (by rfl) (BV _) (BW t p ch _ o b _ _ (d+4) _) trivial
 have h3:=SS.consp h2 h
 have h4:=SS.append h1 h3
 refine rK (rc0 ..) ?_
 exact h4
theorem hM(H:Ok1 cx mg mb sa ns){t:List Nat}{p:Nat}{b:Option Nat}{pl pc d:Nat}{dt:List Nat}{lv:Option Nat}(hd:dt.length≤10240):
  SSt cx (rcE cx.P (d+4)) (rcT cx.P 9::rcT cx.P 10::rcs cx.P 11 3) (rcL t p (DG [] 0 0 b pl pc) (.int (dV 10240)) (rcK dt lv)) (.ret (.bool true)) (rcL t p (DS ⟨aA dt,0,b,pl,pc⟩) (.int (dV 10240)) (rcK (aA dt) lv)):=by
 have HF:=ab H (c9 H) {tb:=aL} 20
 have hs:=sizeLine_eq
 have l1:=kT (by simp) (c8 (l:=dt) (y:=[13,10]) (z:=[10]) (by simp))
 have l2:=iC dt
 have e1:("\n":Str).length=1:=by rfl
 refine o04 (BS cx.P) fun q1 q2 q3 q4=>?_
 have a1:XX cx (rcE cx.P (d+4)) (qA (qA (sA (rcT cx.P 9)))) (rcL t p (DG [] 0 0 b pl pc) (.int (dV 10240)) (rcK dt lv)) (.str dt) (rcL t p (DG [] 0 0 b pl pc) (.int (dV 10240)) (rcK dt lv)):=XX.ev HF (BR t p _ dt lv (d+4)) trivial
 have a2:S1t cx (rcE cx.P (d+4)) (rcT cx.P 9) (rcL t p (DG [] 0 0 b pl pc) (.int (dV 10240)) (rcK dt lv)) .next (rcL t p (DG [] 0 0 b pl pc) (.int (dV 10240)) (rcK (dE dt [13,10] [10]) lv)):=
  S1t.repl H HF (BT _) q1 q2 a1 (by decide) (by refine rK (e1 ..) ?_;lia) (BQ t p _ dt _ lv (d+4)) trivial (zN _).1
 have b1:XX cx (rcE cx.P (d+4)) (qA (qA (sA (rcT cx.P 10)))) (rcL t p (DG [] 0 0 b pl pc) (.int (dV 10240)) (rcK (dE dt [13,10] [10]) lv)) (.str (dE dt [13,10] [10])) (rcL t p (DG [] 0 0 b pl pc) (.int (dV 10240)) (rcK (dE dt [13,10] [10]) lv)):=XX.ev HF (zP t p _ _ lv (d+4)) trivial
 have b2:S1t cx (rcE cx.P (d+4)) (rcT cx.P 10) (rcL t p (DG [] 0 0 b pl pc) (.int (dV 10240)) (rcK (dE dt [13,10] [10]) lv)) .next (rcL t p (DG [] 0 0 b pl pc) (.int (dV 10240)) (rcK (aA dt) lv)):=by
  have:=S1t.repl H HF (zQ _) q3 q4 b1 (by decide) (by refine rK (e1 ..) ?_;lia) (zO t p _ _ _ lv (d+4)) trivial (zN _).2
  rw[←oZ]
  exact this
 have c1:SS cx (rcE cx.P (d+4)) (rcs cx.P 11 3) (rcL t p (DG [] 0 0 b pl pc) (.int (dV 10240)) (rcK (aA dt) lv)) _ _:=SS.ev HF (B4 t p b pl pc (aA dt) lv (d+4)) (by show(aA dt).length≤sizeLine;lia)
 have c2:=SS.t c1
 have d2:=SSt.cons b2 c2
 have d1:=SSt.cons a2 d2
 exact d1
theorem kU(t:List Nat)(p:Nat)(S:Stm)(hb:S.buf=none∨ ∃c,S.buf=some c)(v:V)(hv:v=.int (dV 10240))(dt:List Nat)(lv:Option Nat):eV (rcL t p (DS S) v (rcK dt lv)) [0,1,2,3,4,5] [0,1,2,3,4,5]=some (L6 t p (DS S)):=by
 obtain⟨ch,o,b,pl,pc⟩:=S
 subst hv
 induction b<;>kernel_rfl
theorem oQ(t:List Nat)(p:Nat)(pl pc:Nat)(dt:List Nat):eV (rcL t p (DG [] 0 0 none pl pc) (.int (dV 10240)) [("data",.str dt)]) [0,1,2,3,4,5] [0,1,2,3,4,5]=some (L6 t p (DS ⟨[],0,none,pl,pc⟩)):=by kernel_rfl
theorem eD(H:Ok1 cx mg mb sa ns){A:Around}{ρ:Ids}{s:Shared}{t:List Nat}{p:Nat}{S0:Stm}{d:Nat}{f:Fl}{v:V}{σ1 σ2:Hp}{xs:List Value}(r:aj A (d+5))(S:Sat cx (L6 t p (DS S0)) ρ s.heap)(hv:VRs (L6 t p (DS S0)).length ρ s.heap [.ref 0] xs)
  (hf:yR f=some v) (hat:v.atom=true) (h:SS cx (rcE cx.P (d+4)) (rcF cx.P).body (rcL t p (DS S0) .none []) f σ2) (hp:eV σ2 [0,1,2,3,4,5] [0,1,2,3,4,5]=some σ1):ah cx A (L6 t p (DS S0)) ρ s (.ref 141) xs [] σ1 v:=by
 refine o21 (H.fns 141 (rcF cx.P) (by kernel_rfl)) fun obj fd k=>?_
 have c:=aR (kws:=[]) (ks:=[]) H r k S hv (rfl) (vK _) (sO _ t p S0 (d+4)) hf h
 have:=ah.pick c (pick_from hp rfl rfl) (by cases v<;>first | trivial | cases hat)
 have e:v.ren (inv [0,1,2,3,4,5])=v:=by cases v<;>first | rfl | cases hat
 rw[e]at this
 exact this
noncomputable def oR:List V→Hp→Option (Out V):=fnP [.k (.ref 0)] fun σs=>oel (rdS σs).buf
 (fun c=>some ⟨.bool true,L6 (rdT σs) (rdP σs) (DS ⟨[10],0,none,(aP (rdS σs) (rdS σs).chunk.length).1,(aP (rdS σs) (rdS σs).chunk.length).2⟩),[σs=L6 (rdT σs) (rdP σs) (DS (rdS σs)),rdP σs=(rdT σs).length,(rdT σs).length≤1000,c=13]⟩)
 (some ⟨.bool false,L6 (rdT σs) (rdP σs) (DS ⟨[],0,none,(aP (rdS σs) (rdS σs).chunk.length).1,(aP (rdS σs) (rdS σs).chunk.length).2⟩),[σs=L6 (rdT σs) (rdP σs) (DS (rdS σs)),rdP σs=(rdT σs).length,(rdT σs).length≤1000]⟩)
theorem fN(H:Ok1 cx mg mb sa ns):Told cx 141 5 oR:=by
 have hs:=sizeLine_eq
 refine Told.fn fun σs {A ρ s xs d} r S hv=>eZ (fun c hc=>af fun ob=>?_) fun hc=>af fun ob=>?_
 ·obtain⟨o1,o2,o3,o4⟩:=ob
  have o3:(rdT σs).length≤1000:=o3
  have o4:c=13:=o4
  subst o4
  generalize rdT σs=t at o1 o2 o3 ⊢
  generalize rdP σs=p at o1 o2 ⊢
  generalize rdS σs=St at o1 hc ⊢
  subst o1 o2
  obtain⟨ch,o0,b,pl,pc⟩:=St
  have hc:b=some 13:=hc
  subst hc
  have HF:=ab H (c9 H) {tb:=adL [(88,11,24,false)]} 20
  have ed:t.drop t.length=[]:=EF
  refine eD H r S hv (f:=.ret (.bool true)) rfl rfl (gv H (SSt.append (SS.t (SS.ev HF (B3 t _ o0 _ _ d) ?_)) ?_)) (kU t _ ⟨[10],0,none,_,_⟩ (.inl rfl) _ rfl [10] none)
  ·show _∧_∧_∧_∧_∧_∧_∧_∧_
   refine rK (ed ..) ?_
   exact⟨rfl,DQ _,by(exact kV (by assumption) (by decide)),by(exact DO _),by show 1+0≤sizeLine;(exact DO _),by show 1≤sizeLine;(exact DO _),by decide,rfl,(by decide: ∀x∈[13]++[],x∈alpha)⟩
  ·have:=hM (t:=t) (p:=t.length) (b:=none) (pl:=(aP ⟨ch,o0,some 13,pl,pc⟩ ch.length).1) (pc:=(aP ⟨ch,o0,some 13,pl,pc⟩ ch.length).2) (d:=d) (dt:=[13]++t.drop t.length) (lv:=none) H (by refine rK (ed ..) ?_;decide)
   have e2:aA ([13]++t.drop t.length)=[10]:=by refine rK (ed ..) ?_;rfl
   replace this:=(e2 ..)▸this
   exact this
 ·obtain⟨o1,o2,o3⟩:=ob
  have o3:(rdT σs).length≤1000:=o3
  generalize rdT σs=t at o1 o2 o3 ⊢
  generalize rdP σs=p at o1 o2 ⊢
  generalize rdS σs=St at o1 hc ⊢
  subst o1 o2
  obtain⟨ch,o0,b,pl,pc⟩:=St
  have hc:b=none:=hc
  subst hc
  have HF:=ab H (c9 H) {tb:=adL [(86,17,21,false)]} 20
  have ed:t.drop t.length=[]:=EF
  refine eD H r S hv (f:=.ret (.bool false)) rfl rfl (gv H (SS.t (SS.stopApp (SS.ev HF (B2 t _ o0 _ _ d) ?_) (by intro h;cases h)))) (oQ t _ _ _ _)
  show _∧_∧_∧_∧_
  refine rK (ed ..) ?_
  exact⟨rfl,DQ _,by(exact kV (by assumption) (by decide)),by show 0≤sizeLine;(exact DU _),rfl⟩
noncomputable abbrev LS (p r:List Nat) (q:Bool):Hp:=[.inst 166 1,.strm 148 p r q [0,4,2,5],.inst 73 3,.src,.list [.int (dV 0)],.list []]
noncomputable def xo:Option AO→Option (Addr×List Nat×List Nat×List Nat×Bool)
 | some (.strm f p r q ks)=>some (f,ks,p,r,q)
 | _=>none
noncomputable def zx:Option AO→Bool
 | some .src=>true
 | _=>false
theorem sw{o:Option AO}{x}(h:xo o=some x):o=some (.strm x.1 x.2.2.1 x.2.2.2.1 x.2.2.2.2 x.2.1):=by
 induction o with
 | none=>exact noE h
 | some o=>induction o<;>first | exact noE h | exact okE (P:=fun x=>_=some (AO.strm x.1 x.2.2.1 x.2.2.2.1 x.2.2.2.2 x.2.1)) h rfl
theorem vh{o:Option AO}(h:zx o=true):o=some .src:=by
 induction o with
 | none=>cases h
 | some o=>induction o<;>first | rfl | exact absurd h Ec
theorem kB{α:Type}{P:List α→Prop}{σ:List α}{n:Nat}{a:α}(h:σ.length=n+1)(h0:σ[0]?=some a)(k: ∀τ:List α,τ.length=n→(∀i,σ[i+1]?=τ[i]?)→P (a::τ)):P σ:=by
 induction σ with
 | nil=>exact noE h0
 | cons b τ=>exact DZ h0▸k τ (Nat.succ.inj h) fun _=>rfl
noncomputable def n3 (σ:Hp):Option (List Nat×List Nat×Bool):=(kc σ[0]?).bind fun a=>(xo σ[1]?).bind fun s=>(kc σ[2]?).bind fun c=>(de σ[4]?).bind fun e=>(de σ[5]?).bind fun f=>
 aD (zx σ[3]?&&(decide (σ.length=6)&&(decide (a=(166,1)∧s.1=148∧s.2.1=[0,4,2,5]∧c=(73,3))&&((Pt.app [.k (.int (dV 0))] () e).isSome&&f.isEmpty)))) (some s.2.2)
theorem wr{σ:Hp}{x:List Nat×List Nat×Bool}(h:n3 σ=some x):σ=LS x.1 x.2.1 x.2.2:=
 obK h fun a h0 h=>obK h fun s h1 h=>obK h fun c h2 h=>obK h fun e h4 h=>obK h fun f h5 h=>e8 h fun hb h=>aO hb fun h3 hb=>aO hb fun hl hb=>aO hb fun hd hb=>aO hb fun he hf=>
  okE (P:=fun x=>σ=LS x.1 x.2.1 x.2.2) h (by
   refine o04 (of_decide_eq_true hd) fun ha hs1 hs2 hc=>?_
   have he:e=[.int (dV 0)]:=po he fun _ q=>Pt.app_all [.k (.int (dV 0))] (f:=()) (Q:=fun l _=>l=[.int (dV 0)]) rfl q
   have q1:=sw h1
   have q0:=d8 h0
   have q2:=d8 h2
   rw[hs1,hs2]at q1
   rw[ha]at q0
   rw[hc]at q2
   exact kB (P:=fun σ=>σ=LS s.2.2.1 s.2.2.2.1 s.2.2.2.2) (of_decide_eq_true hl) q0 fun _ l1 w1=>congrArg _ (kB (P:=fun σ=>σ=_) l1 ((w1 0).symm.trans q1) fun _ l2 w2=>congrArg _
    (kB (P:=fun σ=>σ=_) l2 ((w2 0).symm.trans ((w1 1).symm.trans q2)) fun _ l3 w3=>congrArg _ (kB (P:=fun σ=>σ=_) l3 ((w3 0).symm.trans ((w2 1).symm.trans ((w1 2).symm.trans (vh h3)))) fun _ l4 w4=>congrArg _
    (kB (P:=fun σ=>σ=_) l4 ((w4 0).symm.trans ((w3 1).symm.trans ((w2 2).symm.trans ((w1 3).symm.trans (he▸a7 h4))))) fun _ l5 w5=>congrArg _ (kB (P:=fun σ=>σ=_) l5 ((w5 0).symm.trans ((w4 1).symm.trans ((w3 2).symm.trans ((w2 3).symm.trans ((w1 4).symm.trans (List.isEmpty_iff.mp hf▸a7 h5)))))) fun _ l6 _=>congrArg _ (FT l6)))))))
theorem rj{σ:Hp}{f:List Nat×List Nat×Bool→Option (Out V)}{P:V→Hp→Prop}(k: ∀p r q,σ=LS p r q→Gives (f (p,r,q)) P):Gives ((n3 σ).bind f) P:=ae fun x h=>k x.1 x.2.1 x.2.2 (wr h)
noncomputable def tRc:Addr×bx:=(141,lift 5 kQ oR)
theorem Bc(t:List Nat)(p:Nat)(ch:List Nat)(o:Nat)(b:Option Nat)(pl pc d:Nat):bo 6 [0,1,2,3,4,5] ((TE cx sa ns [tRc] (at_ 67 false) 20).call (d+6) (.old 133) [.ref 0] [] (L6 t p (DS ⟨ch,o,b,pl,pc⟩)))
 =some ⟨.str [av (dV o) ch],L6 t p (DS ⟨ch,o+1,b,pl,pc⟩),[decide (dV ch.length≤dV o)=false,an (dV o),o<ch.length]⟩:=by induction b<;>kernel_rfl
theorem Bb(t:List Nat)(ch:List Nat)(o:Nat)(pl pc d:Nat):bo 6 [0,1,2,3,4,5] ((TE cx sa ns [tRc] (at_ 67 true) 20).call (d+6) (.old 133) [.ref 0] [] (L6 t t.length (DS ⟨ch,o,some 13,pl,pc⟩)))
 =some ⟨.str [10],L6 t t.length (DS ⟨[10],1,none,(aP ⟨ch,o,some 13,pl,pc⟩ ch.length).1,(aP ⟨ch,o,some 13,pl,pc⟩ ch.length).2⟩),[decide (dV ch.length≤dV o)=true,L6 t t.length (DS ⟨ch,o,some 13,pl,pc⟩)=L6 t t.length (DS ⟨ch,o,some 13,pl,pc⟩),t.length=t.length,t.length≤1000,13=13,an (dV 0),0<1]⟩:=by kernel_rfl
theorem Ba(t:List Nat)(ch:List Nat)(o:Nat)(pl pc d:Nat):bo 6 [0,1,2,3,4,5] ((TE cx sa ns [tRc] (at_ 67 true) 20).call (d+6) (.old 133) [.ref 0] [] (L6 t t.length (DS ⟨ch,o,none,pl,pc⟩)))
 =some ⟨.none,L6 t t.length (DS ⟨[],0,none,(aP ⟨ch,o,none,pl,pc⟩ ch.length).1,(aP ⟨ch,o,none,pl,pc⟩ ch.length).2⟩),[decide (dV ch.length≤dV o)=true,L6 t t.length (DS ⟨ch,o,none,pl,pc⟩)=L6 t t.length (DS ⟨ch,o,none,pl,pc⟩),t.length=t.length,t.length≤1000]⟩:=by kernel_rfl
theorem kW(l m:List Nat):db (l++m)=m.foldl bt (db l):=by unfold db;exact rK (Gf ..) rfl
theorem SI.step{St:Stm}{m r:List Nat}{c:Nat}{q:Bool}(h:SI St m (c::r) q)(ho:St.off<St.chunk.length):av (dV St.off) St.chunk=c∧SI ⟨St.chunk,St.off+1,St.buf,St.pl,St.pc⟩ m r true:=by
 have e:St.chunk.drop St.off=St.chunk[St.off]::St.chunk.drop (St.off+1):=D9 ho
 have hr:=h.rest
 replace hr:=(List.cons.injEq ..)▸((EP ..)▸((e ..)▸hr))
 refine⟨?_,⟨h.whole,hr.2,ho,h.buf,fun _=>EY (DU _),h.len⟩⟩
 refine rK (hr.1 ..) ?_
 show St.chunk.getD St.off 0=_
 refine rK (Eb ..) (rK (DH ho ..) ?_);rfl
theorem SI.next{St:Stm}{m r:List Nat}{q:Bool}(h:SI St m r q)(ho:St.off=St.chunk.length){c:Nat}(hb:St.buf=some c):r=[10]∧c=13∧SI ⟨[10],0,none,(aP St St.chunk.length).1,(aP St St.chunk.length).2⟩ m r false:=by
 have hr:=h.rest
 replace hr:=(ES ..)▸((hb ..)▸((EF ..)▸((ho ..)▸hr)))
 have hc:c=13:=by rcases h.buf with q | q<;>rw[hb]at q<;>cases q;rfl
 refine⟨hr,hc,⟨?_,by refine rK (hr ..) ?_;rfl,DU _,.inl rfl,(fun q=>by cases q),h.len⟩⟩
 refine o12 h.whole fun dn h1 h2=>?_
 refine⟨dn++St.chunk,by refine rK (h1 ..) (rK (hb ..) ?_);simp[bS],?_⟩
 refine rK (kW ..) (rK (h2 ..) ?_)
 have e:St.chunk.take St.chunk.length=St.chunk:=FS
 show _=(((St.chunk.take St.chunk.length).foldl bt (St.pl,St.pc)).1,((St.chunk.take St.chunk.length).foldl bt (St.pl,St.pc)).2)
 exact rK (e ..) rfl
theorem SI.stop{St:Stm}{m r:List Nat}{q:Bool}(h:SI St m r q)(ho:St.off=St.chunk.length)(hb:St.buf=none):r=[]∧SI ⟨[],0,none,(aP St St.chunk.length).1,(aP St St.chunk.length).2⟩ m [] false:=by
 have hr:=h.rest
 replace hr:=(hb ..)▸((EF ..)▸((ho ..)▸hr))
 refine⟨hr,⟨?_,rfl,DQ _,.inl rfl,(fun q=>by cases q),h.len⟩⟩
 refine o12 h.whole fun dn h1 h2=>?_
 refine⟨dn++St.chunk,by refine rK (h1 ..) (rK (hb ..) ?_);simp[bS],?_⟩
 refine rK (kW ..) (rK (h2 ..) ?_)
 have e:St.chunk.take St.chunk.length=St.chunk:=FS
 show _=(((St.chunk.take St.chunk.length).foldl bt (St.pl,St.pc)).1,((St.chunk.take St.chunk.length).foldl bt (St.pl,St.pc)).2)
 exact rK (e ..) rfl
theorem SI.fit{St:Stm}{m r:List Nat}{q:Bool}(h:SI St m r q):St.chunk.length≤1000:=by
 refine o12 h.whole fun dn h1 _=>?_
 have:=h.len
 replace this:=(h1 ..)▸this
 simp at this;lia
theorem LS.call{A:Around}{ρ:Ids}{s:Shared}{a:Addr}{xs:List Value}{v:V}{p r p' r':List Nat}{q q':Bool}(S:Sat cx (LS p r q) ρ s.heap)(hm:p.reverse++r=p'.reverse++r')
  (h: ∀t St,t.length≤1000→SI St (p.reverse++r) r q→Sat cx (L6 t t.length (DS St)) ρ s.heap→ ∃St',SI St' (p.reverse++r) r' q'∧ah cx A (L6 t t.length (DS St)) ρ s (.ref a) xs [] (L6 t t.length (DS St')) v):
  ah cx A (LS p r q) ρ s (.ref a) xs [] (LS p' r' q') v:=by
 refine ah.openT (k:=3) S rfl fun t ht S1=>?_
 refine ah.openS (k:=1) S1 rfl fun St si S2=>?_
 refine o12 (h t St ht si S2) fun St' si' hd=>?_
 have c1:=ah.closeS (k:=1) hd rfl (hm▸si')
 exact ah.closeT (k:=3) c1 rfl ht
noncomputable def kE:List V→Hp→Option (Out V):=fnP [.k (.ref 0)] fun σs=>(n3 σs).bind fun x=>match x.2.1 with
 | c::r=>some ⟨.str [c],LS (c::x.1) r true,[]⟩
 | []=>some ⟨.none,LS x.1 [] false,[]⟩
theorem dk(H:Ok1 cx mg mb sa ns):Told cx 133 6 kE:=by
 have HC:aa cx (clT [tRc]):=aa.cons (Told.tells (fN H)) aa.nil
 refine Told.fn fun σs {A ρ s xs d} r S hv=>rj fun p rr q hL=>?_
 subst hL
 induction rr with
 | cons c rr=>
  refine af fun _=>?_
  refine LS.call S (by simp) fun t St ht si S2=>?_
  have hfit:=si.fit
  obtain⟨ch,o,b,pl,pc⟩:=St
  rcases Ez o ch.length with ho | ho
  ·refine o02 (si.step ho) fun s1 s2=>?_
   refine⟨_,s2,?_⟩
   have:=aJ (ks:=[0,1,2,3,4,5]) (kw:=[]) (kws:=[]) (ab H HC {tb:=at_ 67 false} 20) r S2 hv ix (Bc t t.length ch o b pl pc d) ⟨decide_eq_false (by simp only[DN];lia),⟨by simp only[DN];(exact Ey (2^63) o),by simp only[DN];dsimp only at hfit;lia⟩,ho⟩
   dsimp only at this s1
   rw[s1]at this
   exact this
  ·have ho:o=ch.length:=Fg si.off ho
   induction b with
   | none=>
    refine o02 (si.stop ho rfl) fun s1 _=>?_
    cases s1
   | some b=>
    refine o03 (si.next ho rfl) fun s1 s2 s3=>?_
    subst s2
    cases s1
    refine o02 (s3.step (DO 0)) fun _ s4=>?_
    refine⟨_,s4,?_⟩
    exact aJ (ks:=[0,1,2,3,4,5]) (kw:=[]) (kws:=[]) (ab H HC {tb:=at_ 67 true} 20) r S2 hv ix (Bb t ch o pl pc d) ⟨decide_eq_true (by simp only[DN];lia),rfl,rfl,ht,rfl,⟨by decide,by decide⟩,DO 0⟩
 | nil=>
  refine af fun _=>?_
  refine LS.call S rfl fun t St ht si S2=>?_
  obtain⟨ch,o,b,pl,pc⟩:=St
  have hr:=si.rest
  have ho:o=ch.length:=by
   have h1:=si.off
   have:(ch.drop o).length=0:=by
    have:=congrArg Ea hr
    simp at this ⊢
    exact Nat.eq_zero_of_add_eq_zero_right (id (Eh this))
   simp at this
   dsimp only at h1
   lia
  induction b with
  | some b=>obtain⟨s1,_⟩:=si.next ho rfl;cases s1
  | none=>
   refine o02 (si.stop ho rfl) fun _ s2=>?_
   refine⟨_,s2,?_⟩
   exact aJ (ks:=[0,1,2,3,4,5]) (kw:=[]) (kws:=[]) (ab H HC {tb:=at_ 67 true} 20) r S2 hv ix (Ba t ch o pl pc d) ⟨decide_eq_true (by simp only[DN];(exact Int.le_of_eq (congrArg Nat.cast (id (Eh ho))))),rfl,rfl,ht⟩
theorem Bp(p r:List Nat)(q:Bool)(d:Nat):bo 6 [0,1,2,3,4,5] ((TE cx sa ns [] aL 20).call (d+1) (.old 163) [.ref 0,.none] [] (LS p r q))=some ⟨.none,LS p r q,[]⟩:=by kernel_rfl
theorem Bo(t:List Nat)(p:Nat)(ch:List Nat)(o:Nat)(b:Option Nat)(pl pc d c:Nat):bo 6 [0,1,2,3,4,5] ((TE cx sa ns [] (adL [(127,15,36,false),(132,23,59,true)]) 20).call (d+1) (.old 163) [.ref 0,.str [c]] [] (L6 t p (DS ⟨ch,o+1,b,pl,pc⟩)))
 =some ⟨.none,L6 t p (DS ⟨ch,o,b,pl,pc⟩),[decide (dV (o+1)=0)=false,1≤o+1,an (dV o),o<ch.length,am [av (dV o) ch] [c]=true]⟩:=by induction b<;>kernel_rfl
noncomputable def zp:List V→Hp→Option (Out V):=fnP [.k (.ref 0),.k .none] fun σs=>(n3 σs).bind fun x=>some ⟨.none,LS x.1 x.2.1 x.2.2,[]⟩
noncomputable def zo:List V→Hp→Option (Out V):=fnP [.k (.ref 0),.s] fun σs cs=>(n3 σs).bind fun x=>(vP cs).bind fun c=>aD x.2.2 (match x.1 with
 | e::p=>some ⟨.none,LS p (c::x.2.1) false,[e=c]⟩
 | []=>none)
noncomputable def lQ (args:List V) (σs:Hp):Option (Out V):=alt (zp args σs) (zo args σs)
theorem SI.back{St:Stm}{p r:List Nat}{c:Nat}(h:SI St ((c::p).reverse++r) r true): ∃o,St.off=o+1∧o<St.chunk.length∧av (dV o) St.chunk=c∧SI ⟨St.chunk,o,St.buf,St.pl,St.pc⟩ (p.reverse++c::r) (c::r) false:=by
 have h1:=h.un rfl
 refine o11 (show∃o,St.off=o+1 from⟨St.off-1,by(exact(Nat.sub_eq_iff_eq_add h1).mp rfl)⟩) fun o ho=>?_
 have h2:=h.off
 have hlt:o<St.chunk.length:=by omega
 refine o12 h.whole fun dn g1 g2=>?_
 have hr:=h.rest
 have e1:St.chunk=St.chunk.take o++(St.chunk[o]::St.chunk.drop (o+1)):=by
  rw[←D9 hlt,FQ]
 have e1':St.chunk++bS St.buf=St.chunk.take o++(St.chunk[o]::r):=by
  have:=congrArg (fun z=>z++bS St.buf) e1
  have this:St.chunk++bS St.buf=(St.chunk.take o++(St.chunk[o]::St.chunk.drop (o+1)))++bS St.buf:=this
  exact rK (this ..) (rK (DV ..) (rK (EP ..) (rK (hr ..) (rK (ho ..) rfl))))
 have e3:(p.reverse++[c])++r=((dn++St.chunk.take o)++[St.chunk[o]])++r:=by
  have:(c::p).reverse++r=dn++(St.chunk.take o++(St.chunk[o]::r)):=by rw[g1,e1']
  rw[Fm]at this
  rw[this]
  simp only[DV,EP,ES]
 have e4:c=St.chunk[o]:=by
  have h4:=Gg e3
  have h5:=(List.append_inj' h4 rfl).2
  exact List.head_eq_of_cons_eq h5
 refine⟨o,ho,hlt,?_,⟨⟨dn,?_,g2⟩,?_,D6 hlt,h.buf,(fun q=>by cases q),?_⟩⟩
 ·show St.chunk.getD o 0=c
  rw[Eb,DH hlt,e4];rfl
 ·rw[←g1];simp
 ·show c::r=St.chunk.drop o++bS St.buf
  rw[D9 hlt,hr,ho,e4];rfl
 ·have:=h.len
  simp at this ⊢;assumption
theorem fD(H:Ok1 cx mg mb sa ns):Told cx 163 1 lQ:=by
 refine Told.or (Told.fn fun σs {A ρ s xs d} r S hv=>rj fun p rr q hL=>?_) (Told.fn fun σs cs {A ρ s xs d} r S hv=>rj fun p rr q hL=>ae fun c hc=>au fun hq=>?_)
 ·subst hL
  exact af fun _=>aJ (ks:=[0,1,2,3,4,5]) (kw:=[]) (kws:=[]) (ab H (l:=[]) aa.nil {tb:=aL} 20) r S hv (rfl) (Bp p rr q d) trivial
 ·subst hL
  have hq:q=true:=hq
  subst hq
  have hc:=k7 hc
  subst hc
  cases p with
  | nil=>exact bq
  | cons e0 p=>
  refine af fun ob=>?_
  have ob:e0=c:=ob
  subst ob
  refine LS.call S (by simp) fun t St ht si S2=>?_
  refine o14 (SI.back si) fun o b1 b2 b3 b4=>?_
  have hfit:=si.fit
  obtain⟨ch,o',b,pl,pc⟩:=St
  have b1:o'=o+1:=b1
  subst b1
  refine⟨⟨ch,o,b,pl,pc⟩,?_,?_⟩
  ·have:(e0::p).reverse++rr=p.reverse++e0::rr:=by simp
   refine rK (this ..) ?_;exact b4
  ·exact aJ (ks:=[0,1,2,3,4,5]) (kw:=[]) (kws:=[]) (ab H (l:=[]) aa.nil {tb:=adL [(127,15,36,false),(132,23,59,true)]} 20) r S2 hv (rfl) (Bo t t.length ch o b pl pc d e0)
    ⟨decide_eq_false (by simp only[DN];(exact bi_ine.mp hq)),DO _,⟨by simp only[DN];(exact Ey (2^63) o),by simp only[DN];dsimp only at hfit b2;lia⟩,b2,(by
     show am [av (dV o) ch] [e0]=true
     refine rK (b3 ..) (rK (fV ..) ?_);simp)⟩
noncomputable abbrev cuF (P:Params):Fn:=fnN 156
noncomputable abbrev cuE (P:Params) (d:Nat):EE:=⟨6,[],(cuF P).scope,d⟩
noncomputable abbrev cuO (P:Params):Stmt:=az (cuF P).body 1
noncomputable abbrev cuW (P:Params):Stmt:=az (bL (cuO P)) 1
noncomputable def chV:Bool→V
 | true=> .old 22
 | false=> .tup [.str [38],.str [60],.str [0]]
noncomputable def lsW:Bool→List Nat
 | true=>[9,10,12,32,13]
 | false=>[38,60,0]
noncomputable def aq (c:Nat):List Nat→Bool
 | []=>false
 | x::xs=>am [x] [c] || aq c xs
theorem aq.c{c x:Nat}{xs:List Nat}:aq c (x::xs)=(am [x] [c] || aq c xs):=rfl
noncomputable def PW (w:Bool) (c:Nat):Bool:=aq c (lsW w)==w
noncomputable def C8:Option Nat→List (Str×V)
 | none=>[]
 | some e=>[("end",.int (dV e))]
noncomputable def cS:List (List Nat)→List V
 | []=>[]
 | a::r=> .str a::cS r
noncomputable abbrev cuL (w:Bool) (t:List Nat) (S:Stm) (e:Option Nat) (ps:List (List Nat)):Hp:=L6 t t.length (DS S)++[.fr (("self",.ref 0)::("characters",chV w)::("opposite",.bool w)::("rv",.ref 7)::C8 e),.list (cS ps)]
noncomputable def psO:Option (List Nat)→List (List Nat)
 | none=>[]
 | some a=>[a]
theorem cu1(P:Params):cuW P=.While (sA (cuW P)) (bL (cuW P)) [] (cuW P).pos:=by kernel_rfl
theorem Df(w:Bool)(t:List Nat)(ch:List Nat)(o:Nat)(b:Option Nat)(pl pc d e:Nat)(ps:Option (List Nat)):(TE cx sa ns [tRc] (adL [(110,18,39,true),(110,44,87,true)]) 20).tst (cuE cx.P d) (sA (cuW cx.P)) (cuL w t ⟨ch,o,b,pl,pc⟩ (some e) (psO ps))
 =some ⟨true,cuL w t ⟨ch,o,b,pl,pc⟩ (some e) (psO ps),[(!decide (dV e=dV ch.length))=true,an (dV e),e<ch.length,PW w (av (dV e) ch)=true]⟩:=by induction w<;>induction ps<;>kernel_rfl
theorem De(w:Bool)(t:List Nat)(ch:List Nat)(o:Nat)(b:Option Nat)(pl pc d e:Nat)(ps:Option (List Nat)):(TE cx sa ns [tRc] (adL [(110,18,39,true),(110,44,87,false)]) 20).tst (cuE cx.P d) (sA (cuW cx.P)) (cuL w t ⟨ch,o,b,pl,pc⟩ (some e) (psO ps))
 =some ⟨false,cuL w t ⟨ch,o,b,pl,pc⟩ (some e) (psO ps),[(!decide (dV e=dV ch.length))=true,an (dV e),e<ch.length,PW w (av (dV e) ch)=false]⟩:=by induction w<;>induction ps<;>kernel_rfl
theorem Dd(w:Bool)(t:List Nat)(ch:List Nat)(o:Nat)(b:Option Nat)(pl pc d e:Nat)(ps:Option (List Nat)):(TE cx sa ns [tRc] (adL [(110,18,39,false)]) 20).tst (cuE cx.P d) (sA (cuW cx.P)) (cuL w t ⟨ch,o,b,pl,pc⟩ (some e) (psO ps))
 =some ⟨false,cuL w t ⟨ch,o,b,pl,pc⟩ (some e) (psO ps),[(!decide (dV e=dV ch.length))=false]⟩:=by induction w<;>induction ps<;>kernel_rfl
theorem Dc(w:Bool)(t:List Nat)(ch:List Nat)(o:Nat)(b:Option Nat)(pl pc d e:Nat)(ps:Option (List Nat)):(TE cx sa ns [tRc] aL 20).ss (cuE cx.P d) (bL (cuW cx.P)) (cuL w t ⟨ch,o,b,pl,pc⟩ (some e) (psO ps))
 =some ⟨.next,cuL w t ⟨ch,o,b,pl,pc⟩ (some (e+1)) (psO ps),[]⟩:=by induction w<;>induction ps<;>kernel_rfl
theorem cuP(w:Bool)(t:List Nat)(ch:List Nat)(o:Nat)(b:Option Nat)(pl pc:Nat)(e:Option Nat)(ps:Option (List Nat)):eV (cuL w t ⟨ch,o,b,pl,pc⟩ e (psO ps)) [0,1,2,3,4,5,6,7] [0,1,2,3,4,5,6,7]=some (cuL w t ⟨ch,o,b,pl,pc⟩ e (psO ps)):=by induction w<;>induction ps<;>induction b<;>induction e<;>kernel_rfl
theorem tw_cons{P:Nat→Bool}{l:List Nat}{e:Nat}(h:e<l.length):(l.drop e).takeWhile P=match P l[e]with | true=>l[e]::(l.drop (e+1)).takeWhile P | false=>[]:=by
 refine rK (D9 h ..) (rK (Ed ..) ?_)
 induction P l[e]<;>rfl
theorem sign_of{l:List Nat}{e:Nat}(h:e<l.length):av (dV e) l=l[e]:=by
 show l.getD e 0=_
 refine rK (Eb ..) (rK (DH h ..) ?_);rfl
theorem lA{e:Nat}(h:e≤1000000):an (dV e):=⟨by simp only[DN];(exact Ey (2^63) e),by simp only[DN];lia⟩
theorem AL(H:Ok1 cx mg mb sa ns){w:Bool}{t:List Nat}{ch:List Nat}{o:Nat}{b:Option Nat}{pl pc d:Nat}{ps:Option (List Nat)}(hfit:ch.length≤1000): ∀(n e:Nat),ch.length-e=n→e≤ch.length→
  ∃k,Wh cx (cuE cx.P d) (sA (cuW cx.P)) (bL (cuW cx.P)) .next (cuL w t ⟨ch,o,b,pl,pc⟩ (some (e+((ch.drop e).takeWhile (PW w)).length)) (psO ps)) k (cuL w t ⟨ch,o,b,pl,pc⟩ (some e) (psO ps)):=by
 have HC:aa cx (clT [tRc]):=aa.cons (Told.tells (fN H)) aa.nil
 intro n
 induction n with
 | zero=>
  intro e h1 h2
  have:e=ch.length:=by lia
  subst this
  refine⟨0,?_⟩
  refine rK (EF ..) ?_
  exact .stop (TT.ev (ab H HC {tb:=adL [(110,18,39,false)]} 20) (Dd w t ch o b pl pc d _ ps) (by show(!decide (dV ch.length=dV ch.length))=false;refine rK (decide_eq_true rfl ..) ?_;rfl))
 | succ n ih=>
  intro e h1 h2
  have he:e<ch.length:=by exact Fj h1
  have hne:(!decide (dV e=dV ch.length))=true:=by simp only[DN,Ep,decide_eq_false_iff_not];lia
  refine rK (tw_cons he ..) ?_
  induction hp:PW w ch[e]with
  | true=>
   refine o11 (ih (e+1) (by lia) he) fun k hk=>?_
   dsimp only
   refine⟨k+1,.turn (TT.ev (ab H HC {tb:=adL [(110,18,39,true),(110,44,87,true)]} 20) (Df w t ch o b pl pc d e ps) ⟨hne,lA (by lia),he,by show PW w _=true;refine rK (sign_of he ..) ?_;exact hp⟩)
    (SS.ev (ab H HC {tb:=aL} 20) (Dc w t ch o b pl pc d e ps) trivial) (.inl rfl) (pick_from (cuP w t ch o b pl pc (some (e+1)) ps) rfl rfl) ?_⟩
   refine rK (D0 ..) (rK (show e+(((ch.drop (e+1)).takeWhile (PW w)).length+1)=e+1+((ch.drop (e+1)).takeWhile (PW w)).length from by(exact(Fx ..).symm)) ?_)
   exact hk
  | false=>
   exact⟨0,.stop (TT.ev (ab H HC {tb:=adL [(110,18,39,true),(110,44,87,false)]} 20) (De w t ch o b pl pc d e ps) ⟨hne,lA (by lia),he,by show PW w _=false;refine rK (sign_of he ..) ?_;exact hp⟩)⟩
noncomputable def adN (l:List (Nat×Bool)) (p:Pos):Option Bool:=match l with
 | []=>none
 | (a,q)::r=>match DI p.line a with
  | true=>some q
  | false=>adN r p
noncomputable def svL (n:Nat) (f:Fl) (σ':Hp) (p:Pos):Option (Hp→Option (Fl×Hp)):=match DI p.line n with
 | true=>some fun _=>some (f,σ')
 | false=>none
noncomputable abbrev rC (cx:Cx) (sa:Addr) (ns:List Int) (l:List (Nat×Bool)) (σ':Hp):Ev:=evN (T1 sa ns) (mkO cx (clT [tRc]) {tb:=adN l,sv:=svL 110 .next σ'}) 20
noncomputable abbrev oe (cx:Cx) (d:Nat) (w:Bool) (t:List Nat) (S:Stm) (ps:Option (List Nat)) (e':Nat):Prop:=S1 cx (cuE cx.P d) (cuW cx.P) (cuL w t S (some S.off) (psO ps)) .next (cuL w t S (some e') (psO ps))
theorem Dh(w:Bool)(t:List Nat)(ch:List Nat)(o:Nat)(b:Option Nat)(pl pc d e':Nat)(e:Option Nat)(ps:Option (List Nat)):(rC cx sa ns [(112,true),(113,true)] (cuL w t ⟨ch,o,b,pl,pc⟩ (some e') (psO ps))).ss (cuE cx.P (d+5)) (bL (cuO cx.P)) (cuL w t ⟨ch,o,b,pl,pc⟩ e (psO ps))
 =some ⟨.brk,cuL w t ⟨ch,o,b,pl,pc⟩ (some e') (psO ps),[oe cx (d+5) w t ⟨ch,o,b,pl,pc⟩ ps e',decide (dV e'=dV o)=true,(!decide (dV o=dV ch.length))=true]⟩:=by induction w<;>induction ps<;>induction e<;>kernel_rfl
theorem Dg(w:Bool)(t:List Nat)(ch:List Nat)(o:Nat)(b:Option Nat)(pl pc d e':Nat)(e:Option Nat)(ps:Option (List Nat)):(rC cx sa ns [(112,false),(115,true)] (cuL w t ⟨ch,o,b,pl,pc⟩ (some e') (psO ps))).ss (cuE cx.P (d+5)) (bL (cuO cx.P)) (cuL w t ⟨ch,o,b,pl,pc⟩ e (psO ps))
 =some ⟨.brk,cuL w t ⟨ch,e',b,pl,pc⟩ (some e') (psO ps++[ar ch (some (dV o)) (some (dV e'))]),[oe cx (d+5) w t ⟨ch,o,b,pl,pc⟩ ps e',decide (dV e'=dV o)=false,(!decide (dV e'=dV ch.length))=true,ch.length≤sizeLine,(psO ps).length≤sizeLine]⟩:=by induction w<;>induction ps<;>induction e<;>kernel_rfl
theorem AQ(w:Bool)(t:List Nat)(ch:List Nat)(o:Nat)(pl pc d e':Nat)(e:Option Nat)(ps:Option (List Nat)):(rC cx sa ns [(112,true),(113,false)] (cuL w t ⟨ch,o,none,pl,pc⟩ (some e') (psO ps))).ss (cuE cx.P (d+5)) (bL (cuO cx.P)) (cuL w t ⟨ch,o,none,pl,pc⟩ e (psO ps))
 =some ⟨.brk,cuL w t ⟨[],0,none,(aP ⟨ch,o,none,pl,pc⟩ ch.length).1,(aP ⟨ch,o,none,pl,pc⟩ ch.length).2⟩ (some e') (psO ps++[ar ch (some (dV o)) none]),[oe cx (d+5) w t ⟨ch,o,none,pl,pc⟩ ps e',decide (dV e'=dV o)=true,(!decide (dV o=dV ch.length))=false,ch.length≤sizeLine,(psO ps).length≤sizeLine,L6 t t.length (DS ⟨ch,o,none,pl,pc⟩)=L6 t t.length (DS ⟨ch,o,none,pl,pc⟩),t.length=t.length,t.length≤1000]⟩:=by induction w<;>induction ps<;>induction e<;>kernel_rfl
theorem AR(w:Bool)(t:List Nat)(ch:List Nat)(o:Nat)(pl pc d e':Nat)(e:Option Nat)(ps:Option (List Nat)):(rC cx sa ns [(112,true),(113,false)] (cuL w t ⟨ch,o,some 13,pl,pc⟩ (some e') (psO ps))).ss (cuE cx.P (d+5)) (bL (cuO cx.P)) (cuL w t ⟨ch,o,some 13,pl,pc⟩ e (psO ps))
 =some ⟨.next,cuL w t ⟨[10],0,none,(aP ⟨ch,o,some 13,pl,pc⟩ ch.length).1,(aP ⟨ch,o,some 13,pl,pc⟩ ch.length).2⟩ (some e') (psO ps++[ar ch (some (dV o)) none]),[oe cx (d+5) w t ⟨ch,o,some 13,pl,pc⟩ ps e',decide (dV e'=dV o)=true,(!decide (dV o=dV ch.length))=false,ch.length≤sizeLine,(psO ps).length≤sizeLine,L6 t t.length (DS ⟨ch,o,some 13,pl,pc⟩)=L6 t t.length (DS ⟨ch,o,some 13,pl,pc⟩),t.length=t.length,t.length≤1000,13=13]⟩:=by induction w<;>induction ps<;>induction e<;>kernel_rfl
theorem AN(w:Bool)(t:List Nat)(ch:List Nat)(o:Nat)(pl pc d e':Nat)(e:Option Nat)(ps:Option (List Nat)):(rC cx sa ns [(112,false),(115,false)] (cuL w t ⟨ch,o,none,pl,pc⟩ (some e') (psO ps))).ss (cuE cx.P (d+5)) (bL (cuO cx.P)) (cuL w t ⟨ch,o,none,pl,pc⟩ e (psO ps))
 =some ⟨.brk,cuL w t ⟨[],0,none,(aP ⟨ch,o,none,pl,pc⟩ ch.length).1,(aP ⟨ch,o,none,pl,pc⟩ ch.length).2⟩ (some e') (psO ps++[ar ch (some (dV o)) none]),[oe cx (d+5) w t ⟨ch,o,none,pl,pc⟩ ps e',decide (dV e'=dV o)=false,(!decide (dV e'=dV ch.length))=false,ch.length≤sizeLine,(psO ps).length≤sizeLine,L6 t t.length (DS ⟨ch,o,none,pl,pc⟩)=L6 t t.length (DS ⟨ch,o,none,pl,pc⟩),t.length=t.length,t.length≤1000]⟩:=by induction w<;>induction ps<;>induction e<;>kernel_rfl
theorem AP(w:Bool)(t:List Nat)(ch:List Nat)(o:Nat)(pl pc d e':Nat)(e:Option Nat)(ps:Option (List Nat)):(rC cx sa ns [(112,false),(115,false)] (cuL w t ⟨ch,o,some 13,pl,pc⟩ (some e') (psO ps))).ss (cuE cx.P (d+5)) (bL (cuO cx.P)) (cuL w t ⟨ch,o,some 13,pl,pc⟩ e (psO ps))
 =some ⟨.next,cuL w t ⟨[10],0,none,(aP ⟨ch,o,some 13,pl,pc⟩ ch.length).1,(aP ⟨ch,o,some 13,pl,pc⟩ ch.length).2⟩ (some e') (psO ps++[ar ch (some (dV o)) none]),[oe cx (d+5) w t ⟨ch,o,some 13,pl,pc⟩ ps e',decide (dV e'=dV o)=false,(!decide (dV e'=dV ch.length))=false,ch.length≤sizeLine,(psO ps).length≤sizeLine,L6 t t.length (DS ⟨ch,o,some 13,pl,pc⟩)=L6 t t.length (DS ⟨ch,o,some 13,pl,pc⟩),t.length=t.length,t.length≤1000,13=13]⟩:=by induction w<;>induction ps<;>induction e<;>kernel_rfl
theorem Db(w:Bool)(t:List Nat)(ch:List Nat)(o:Nat)(b:Option Nat)(pl pc d:Nat)(e:Option Nat)(ps:Option (List Nat)):(TE cx sa ns [tRc] aL 20).tst (cuE cx.P d) (sA (cuO cx.P)) (cuL w t ⟨ch,o,b,pl,pc⟩ e (psO ps))=some ⟨true,cuL w t ⟨ch,o,b,pl,pc⟩ e (psO ps),[]⟩:=by induction w<;>induction ps<;>induction e<;>kernel_rfl
theorem fj: ∀l:List (List Nat),ay (cS l)=l∧strsOf (cS l)=some l
 | []=>⟨rfl,rfl⟩
 | a::r=>⟨congrArg (a:: ·) (fj r).1,congrArg (fun q=>Option.bind q fun xs=>some (a::xs)) (fj r).2⟩
theorem join_nil: ∀ps:List (List Nat),bD [] ps=ps.flatten
 | []=>rfl
 | [a]=>(D2 a).symm
 | a::b::r=>congrArg (a++ ·) (join_nil (b::r))
theorem qV(ps:List (List Nat)):eO ps=ps.flatten.length:=by
 induction ps with
 | nil=>rfl
 | cons a r ih=>exact(congrArg (a.length+ ·) ih).trans (pm (as:=a)).symm
theorem ur{l:List Nat}{o:Nat}(h:o≤l.length):ar l (some (dV o)) none=l.drop o:=by
 unfold ar bv
 simp only[Ef.mpr h]
 exact EV (Eu D3)
theorem pM{l:List Nat}{o e:Nat}(h:o≤l.length)(h2:e≤l.length):ar l (some (dV o)) (some (dV e))=(l.drop o).take (e-o):=by
 unfold ar bv
 simp only[Ef.mpr h,Ef.mpr h2]
theorem tw_len{P:Nat→Bool}(l:List Nat):(l.takeWhile P).length≤l.length:=(List.takeWhile_sublist P).length_le
theorem tw_take{P:Nat→Bool}(l:List Nat):l.take (l.takeWhile P).length=l.takeWhile P:=by
 induction l with
 | nil=>rfl
 | cons c r ih=>
  refine rK (Ed ..) ?_
  induction P c with
  | true=>exact congrArg (c:: ·) ih
  | false=>rfl
theorem wJ{P:Nat→Bool}(l:List Nat):l.dropWhile P=l.drop (l.takeWhile P).length:=by
 induction l with
 | nil=>rfl
 | cons c r ih=>
  refine rK (Ed ..) (rK (FZ ..) ?_)
  induction P c with
  | true=>exact ih
  | false=>rfl
theorem tw_app{P:Nat→Bool}{m:List Nat}: ∀{l:List Nat},(l.takeWhile P).length<l.length→(l++m).takeWhile P=l.takeWhile P:=by
 intro l
 induction l with
 | nil=>exact fun h=>absurd h (Fk _)
 | cons c r ih=>
  refine rK (EP ..) (rK (Ed ..) (rK (Ed ..) ?_))
  induction P c with
  | true=>exact fun h=>congrArg (c:: ·) (ih (Ew h))
  | false=>exact fun _=>rfl
theorem tw_all{P:Nat→Bool}{m:List Nat}: ∀{l:List Nat},l.length≤(l.takeWhile P).length→(l++m).takeWhile P=l++m.takeWhile P∧(l++m).dropWhile P=m.dropWhile P∧l.takeWhile P=l:=by
 intro l
 induction l with
 | nil=>exact fun _=>⟨rfl,rfl,rfl⟩
 | cons c r ih=>
  refine rK (EP ..) (rK (Ed ..) (rK (Ed ..) (rK (FZ ..) ?_)))
  induction P c with
  | true=>exact fun h=>have q:=ih (EK h);⟨congrArg (c:: ·) q.1,q.2.1,congrArg (c:: ·) q.2.2⟩
  | false=>exact fun h=>absurd h (EQ _)
theorem SI.move{St:Stm}{m r:List Nat}{q:Bool}(h:SI St m r q){k:Nat}(hk:St.off+k≤St.chunk.length):SI ⟨St.chunk,St.off+k,St.buf,St.pl,St.pc⟩ m (r.drop k) false:=by
 refine⟨h.whole,?_,hk,h.buf,(fun q=>by cases q),h.len⟩
 show r.drop k=St.chunk.drop (St.off+k)++bS St.buf
 exact rK (h.rest ..) (rK (List.drop_append_of_le_length (by rw[D3];exact Nat.le_sub_of_add_le' hk) ..) (rK (FM ..) rfl))
noncomputable def xQ (cx:Cx) (d:Nat) (w:Bool) (t:List Nat) (St:Stm) (e:Option Nat) (ps:Option (List Nat)) (m r:List Nat):Prop:=
 ∃St' e' ps',SS cx (cuE cx.P (d+5)) (bL (cuO cx.P)) (cuL w t St e (psO ps)) .brk (cuL w t St' (some e') ps')∧ps'.flatten=(psO ps).flatten++r.takeWhile (PW w)∧SI St' m (r.dropWhile (PW w)) false
theorem pO(H:Ok1 cx mg mb sa ns){w:Bool}{t:List Nat}{St:Stm}{d:Nat}{e:Option Nat}{ps:Option (List Nat)}{m r:List Nat}{q:Bool}(ht:t.length≤1000)(si:SI St m r q):
  xQ cx d w t St e ps m r∨(St.buf=some 13∧ ∃e',SS cx (cuE cx.P (d+5)) (bL (cuO cx.P)) (cuL w t St e (psO ps)) .next (cuL w t ⟨[10],0,none,(aP St St.chunk.length).1,(aP St St.chunk.length).2⟩ (some e') (psO ps++[St.chunk.drop St.off]))∧
   r=St.chunk.drop St.off++[10]∧(St.chunk.drop St.off).takeWhile (PW w)=St.chunk.drop St.off∧SI ⟨[10],0,none,(aP St St.chunk.length).1,(aP St St.chunk.length).2⟩ m [10] false):=by
 have HC:aa cx (clT [tRc]):=aa.cons (Told.tells (fN H)) aa.nil
 obtain⟨ch,o,b,pl,pc⟩:=St
 have hoff:o≤ch.length:=si.off
 have hr:r=ch.drop o++bS b:=si.rest
 have hl:ch.length≤sizeLine:=kV si.fit (by decide)
 have hps:(psO ps).length≤sizeLine:=by induction ps<;>exact El rfl
 refine o11 (AL (cx:=cx) (sa:=sa) (ns:=ns) (w:=w) (t:=t) (ch:=ch) (o:=o) (b:=b) (pl:=pl) (pc:=pc) (d:=d+5) (ps:=ps) H si.fit _ o rfl hoff) fun k hw=>?_
 have hS:oe cx (d+5) w t ⟨ch,o,b,pl,pc⟩ ps (o+((ch.drop o).takeWhile (PW w)).length):=by
  show S1 cx _ (cuW cx.P) _ _ _
  refine rK (cu1 ..) ?_
  exact a9 hw
 rcases Ez ((ch.drop o).takeWhile (PW w)).length (ch.drop o).length with hlt | hge
 ·--a sign of the chunk does not fit
  have a1:r.takeWhile (PW w)=(ch.drop o).takeWhile (PW w):=hr▸tw_app hlt
  have hk:o+((ch.drop o).takeWhile (PW w)).length<ch.length:=Nat.add_lt_of_lt_sub' (D3▸hlt)
  have hs:SI ⟨ch,o+((ch.drop o).takeWhile (PW w)).length,b,pl,pc⟩ m (r.dropWhile (PW w)) false:=by
   refine rK (wJ ..) (rK (a1 ..) ?_)
   exact si.move (D6 hk)
  have tk:=tw_take (P:=PW w) (ch.drop o)
  refine .inl ?_
  unfold xQ
  refine rK (a1 ..) ?_
  clear a1 hlt hw
  revert hS hk hs tk
  generalize (ch.drop o).takeWhile (PW w)=u
  induction u with
  | nil=>exact fun hS hk hs tk=>⟨_,_,psO ps,SS.ev (bu H (bk HC _) 20) (Dh w t ch o b pl pc d o e ps) ⟨hS,oa rfl,vY (eP (F5 hk))⟩,(D2 _).symm,hs⟩
  | cons x u=>exact fun hS hk hs tk=>⟨_,_,_,SS.ev (bu H (bk HC _) 20) (Dg w t ch o b pl pc d (o+(x::u).length) e ps) ⟨hS,eP (GO (Nat.lt_add_of_pos_right (DO _))),vY (eP (F5 hk)),hl,hps⟩,by
    refine rK (pM hoff (D6 hk) ..) (rK (GD ..) (rK (EI ..) (rK (tk ..) ?_)))
    exact congrArg _ (D2 (x::u)),hs⟩
 ·--the chunk is at its end
  refine o03 (tw_all (P:=PW w) (m:=bS b) hge) fun a1 a2 a3=>?_
  rw[←hr]at a1 a2
  have hoe:o+(ch.length-o)=ch.length:=GE hoff
  replace hS:=(hoe ..)▸((D3 ..)▸((a3 ..)▸hS))
  have hsi:=SI.move si (k:=ch.length-o) (Eu hoe)
  replace hsi:=(show r.drop (ch.length-o)=bS b from by rw[hr,←D3,Fq])▸hsi
  dsimp only at hsi
  replace hsi:=(hoe ..)▸hsi
  have hc:=ur hoff
  rcases(show b=none∨b=some 13 from si.buf)with rfl | rfl
  ·have fl:(psO ps++[ar ch (some (dV o)) none]).flatten=(psO ps).flatten++r.takeWhile (PW w):=by
    refine rK (hc ..) (rK (GD ..) (rK (a1 ..) ?_))
    rfl
   have fin:SI ⟨[],0,none,(aP ⟨ch,o,none,pl,pc⟩ ch.length).1,(aP ⟨ch,o,none,pl,pc⟩ ch.length).2⟩ m (r.dropWhile (PW w)) false:=a2.symm▸(hsi.stop rfl rfl).2
   by_cases h0:o=ch.length
   ·exact .inl ⟨_,_,_,SS.ev (bu H (bk HC _) 20) (AQ w t ch o pl pc d ch.length e ps) ⟨hS,oa h0.symm,mA (oa h0),hl,hps,rfl,rfl,ht⟩,fl,fin⟩
   ·exact .inl ⟨_,_,_,SS.ev (bu H (bk HC _) 20) (AN w t ch o pl pc d ch.length e ps) ⟨hS,eP (Ne.symm h0),mA (oa rfl),hl,hps,rfl,rfl,ht⟩,fl,fin⟩
  ·refine .inr ⟨rfl,ch.length,?_,hr,a3,(hsi.next rfl rfl).2.2⟩
   by_cases h0:o=ch.length
   ·exact hc▸SS.ev (bu H (bk HC _) 20) (AR w t ch o pl pc d ch.length e ps) ⟨hS,oa h0.symm,mA (oa h0),hl,hps,rfl,rfl,ht,rfl⟩
   ·exact hc▸SS.ev (bu H (bk HC _) 20) (AP w t ch o pl pc d ch.length e ps) ⟨hS,eP (Ne.symm h0),mA (oa rfl),hl,hps,rfl,rfl,ht,rfl⟩
theorem yV(H:Ok1 cx mg mb sa ns){w:Bool}{t:List Nat}{St:Stm}{d:Nat}{m r:List Nat}{q:Bool}(ht:t.length≤1000)(si:SI St m r q):
  ∃St' e' ps',S1 cx (cuE cx.P (d+5)) (.While (sA (cuO cx.P)) (bL (cuO cx.P)) [] (cuO cx.P).pos) (cuL w t St none []) .next (cuL w t St' (some e') ps')∧ps'.flatten=r.takeWhile (PW w)∧SI St' m (r.dropWhile (PW w)) false:=by
 have HC:aa cx (clT [tRc]):=aa.cons (Told.tells (fN H)) aa.nil
 have HF:=ab H HC {tb:=aL} 20
 have tt: ∀(St:Stm) (e:Option Nat) (ps:Option (List Nat)),TT cx (cuE cx.P (d+5)) (sA (cuO cx.P)) (cuL w t St e (psO ps)) true (cuL w t St e (psO ps)):=fun St e ps=>by
  obtain⟨ch,o,b,pl,pc⟩:=St
  exact TT.ev HF (Db w t ch o b pl pc (d+5) e ps) trivial
 rcases pO (cx:=cx) (sa:=sa) (ns:=ns) (w:=w) (d:=d) (e:=none) (ps:=none) H ht si with⟨St',e',ps',h1,h2,h3⟩ | ⟨hb,e',h1,h2,h3,h4⟩
 ·exact⟨St',e',ps',a9 (.brk (tt St none none) h1),by simpa[psO]using h2,h3⟩
 ·rcases pO (cx:=cx) (sa:=sa) (ns:=ns) (w:=w) (d:=d) (e:=some e') (ps:=some (St.chunk.drop St.off)) H ht h4 with⟨St2,e2,ps2,g1,g2,g3⟩ | ⟨hb2,_⟩
  ·refine⟨St2,e2,ps2,a9 (.turn (tt St none none) h1 (.inl rfl) (pick_from (cuP w t [10] 0 none _ _ (some e') (some (St.chunk.drop St.off))) rfl rfl) (.brk (tt _ (some e') (some (St.chunk.drop St.off))) g1)),?_,?_⟩
   ·refine rK (g2 ..) (rK (h2 ..) (rK ((tw_all (m:=[10]) (Eu (congrArg Ea h3).symm)).1) ?_))
    simp[psO]
   ·refine rK (h2 ..) (rK ((tw_all (m:=[10]) (Eu (congrArg Ea h3).symm)).2.1) ?_)
    exact g3
  ·cases hb2
noncomputable def ut:Bool→List V
 | true=>[.ref 0,.old 22,.bool true]
 | false=>[.ref 0,.tup [.str [38],.str [60],.str [0]]]
noncomputable def yY (w:Bool):List (Str×V):=[("self",.ref 0),("characters",chV w),("opposite",.bool w)]
noncomputable abbrev yX (w:Bool) (t:List Nat) (S:Stm):Hp:=L6 t t.length (DS S)++[.fr (yY w)]
theorem wQ(P:Params):(cuF P).body=[az (cuF P).body 0]++(.While (sA (cuO P)) (bL (cuO P)) [] (cuO P).pos::[az (cuF P).body 2,az (cuF P).body 3]):=by kernel_rfl
theorem AK(w:Bool)(t:List Nat)(ch:List Nat)(o:Nat)(b:Option Nat)(pl pc d:Nat):(TE cx sa ns [tRc] aL 20).ss (cuE cx.P d) [az (cuF cx.P).body 0] (yX w t ⟨ch,o,b,pl,pc⟩)=some ⟨.next,cuL w t ⟨ch,o,b,pl,pc⟩ none [],[]⟩:=by induction w<;>kernel_rfl
noncomputable abbrev AM (w:Bool) (t:List Nat) (S:Stm) (e:Nat) (ps:List (List Nat)) (v:V):Hp:=L6 t t.length (DS S)++[.fr [("self",.ref 0),("characters",chV w),("opposite",.bool w),("rv",.ref 7),("end",.int (dV e)),("r",v)],.list (cS ps)]
theorem AJ(w:Bool)(t:List Nat)(ch:List Nat)(o:Nat)(b:Option Nat)(pl pc d e:Nat)(ps:List (List Nat)):(TE cx sa ns [tRc] aL 20).ss (cuE cx.P d) [az (cuF cx.P).body 2,az (cuF cx.P).body 3] (cuL w t ⟨ch,o,b,pl,pc⟩ (some e) ps)
 =some ⟨.ret (.str (bD [] (ay (cS ps)))),AM w t ⟨ch,o,b,pl,pc⟩ e ps (.str (bD [] (ay (cS ps)))),[strsOf (cS ps)=some (ay (cS ps)),eO (ay (cS ps))+(ay (cS ps)).length*0≤sizeLine]⟩:=by induction w<;>kernel_rfl
theorem yW(w:Bool)(t:List Nat)(ch:List Nat)(o:Nat)(b:Option Nat)(pl pc e:Nat)(ps:List (List Nat))(l:List Nat):eV (AM w t ⟨ch,o,b,pl,pc⟩ e ps (.str l)) [0,1,2,3,4,5] [0,1,2,3,4,5]=some (L6 t t.length (DS ⟨ch,o,b,pl,pc⟩)):=by induction b<;>kernel_rfl
theorem wR(P:Params)(w:Bool):bw (cuF P).dfl [] (cuF P).pars (ut w)=some (yY w):=by induction w<;>kernel_rfl
theorem us(P:Params)(w:Bool)(t:List Nat)(S:Stm)(d:Nat):enter (cuF P) d (yY w) (L6 t t.length (DS S))=some ⟨cuE P d,yX w t S,[]⟩:=by induction w<;>kernel_rfl
noncomputable def cuS (w:Bool) (σs:Hp):Option (Out V):=(n3 σs).bind fun x=>some ⟨.str (x.2.1.takeWhile (PW w)),LS ((x.2.1.takeWhile (PW w)).reverse++x.1) (x.2.1.dropWhile (PW w)) false,[]⟩
noncomputable def pR (args:List V) (σs:Hp):Option (Out V):=alt (fnP [.k (.ref 0),.k (.old 22),.k (.bool true)] (cuS true) args σs) (fnP [.k (.ref 0),.k (.tup [.str [38],.str [60],.str [0]])] (cuS false) args σs)
theorem pQ(H:Ok1 cx mg mb sa ns)(w:Bool){A:Around}{ρ:Ids}{s:Shared}{p r:List Nat}{q:Bool}{d:Nat}{xs:List Value}(rm:aj A (d+6))(S:Sat cx (LS p r q) ρ s.heap)(hv:VRs (LS p r q).length ρ s.heap (ut w) xs):
  ah cx A (LS p r q) ρ s (.ref 156) xs [] (LS ((r.takeWhile (PW w)).reverse++p) (r.dropWhile (PW w)) false) (.str (r.takeWhile (PW w))):=by
 have HC:aa cx (clT [tRc]):=aa.cons (Told.tells (fN H)) aa.nil
 have HF:=ab H HC {tb:=aL} 20
 refine LS.call S (by simp[FJ]) fun t St ht si S2=>?_
 refine o33 (yV (cx:=cx) (sa:=sa) (ns:=ns) (w:=w) (d:=d) H ht si) fun St' e' ps' h1 h2 h3=>?_
 refine⟨St',h3,?_⟩
 obtain⟨ch,o,b,pl,pc⟩:=St
 obtain⟨ch',o',b',pl',pc'⟩:=St'
 refine o02 (fj ps') fun j1 j2=>?_
 have hj:bD [] (ay (cS ps'))=r.takeWhile (PW w):=by rw[j1,join_nil,h2]
 have hlen:(r.takeWhile (PW w)).length≤1000:=by
  have g1:=tw_len (P:=PW w) r
  have g2:=si.len
  rw[pm]at g2
  lia
 have hs:=sizeLine_eq
 have a1:SS cx (cuE cx.P (d+5)) [az (cuF cx.P).body 0] (yX w t ⟨ch,o,b,pl,pc⟩) .next (cuL w t ⟨ch,o,b,pl,pc⟩ none []):=SS.ev HF (AK w t ch o b pl pc (d+5)) trivial
 have a3:SS cx (cuE cx.P (d+5)) [az (cuF cx.P).body 2,az (cuF cx.P).body 3] (cuL w t ⟨ch',o',b',pl',pc'⟩ (some e') ps') _ _:=SS.ev HF (AJ w t ch' o' b' pl' pc' (d+5) e' ps') ⟨by rw[j2,j1],by
  show eO (ay (cS ps'))+(ay (cS ps')).length*0≤sizeLine
  rw[j1,qV,h2];(exact kV (by assumption) (by decide))⟩
 have a2:=SS.append a1 (SS.cons h1 a3)
 rw[←wQ]at a2
 refine o21 (H.fns 156 (cuF cx.P) (by kernel_rfl)) fun obj fd k=>?_
 have c:=aR (kws:=[]) (ks:=[]) H rm k S2 hv (rfl) (wR _ w) (us _ w t ⟨ch,o,b,pl,pc⟩ (d+5)) rfl a2
 rw[hj]at c
 exact ah.pick c (pick_from (yW w t ch' o' b' pl' pc' e' ps' _) rfl rfl) trivial
theorem pP(H:Ok1 cx mg mb sa ns):Told cx 156 6 pR:=
 Told.or (Told.fn fun σs {A ρ s xs d} r S hv=>rj fun p rr q hL=>af fun _=>by subst hL;exact pQ H true r S hv) (Told.fn fun σs {A ρ s xs d} r S hv=>rj fun p rr q hL=>af fun _=>by subst hL;exact pQ H false r S hv)
noncomputable def ph (P:Params):List V:=aC yG
noncomputable def gS (P:Params):List (List Nat):=ay (ph P)
noncomputable def i8 (ks:List (List Nat)) (k:List Nat):Nat→Nat→Nat→Nat
 | 0,lo,_=>lo
 | n+1,lo,hi=>match EH lo hi with
  | true=>(match ltN (ks.getD ((lo+hi)/2) []) k with
   | true=>i8 ks k n ((lo+hi)/2+1) hi
   | false=>i8 ks k n lo ((lo+hi)/2))
  | false=>lo
theorem i8.c{ks:List (List Nat)}{k:List Nat}{n lo hi:Nat}:i8 ks k (n+1) lo hi=(match EH lo hi with | true=>(match ltN (ks.getD ((lo+hi)/2) []) k with | true=>i8 ks k n ((lo+hi)/2+1) hi | false=>i8 ks k n lo ((lo+hi)/2)) | false=>lo):=rfl
noncomputable abbrev biF (P:Params):Fn:=fnN 178
noncomputable abbrev biE (P:Params) (d:Nat):EE:=⟨0,[],(biF P).scope,d⟩
noncomputable abbrev biW (P:Params):Stmt:=az (biF P).body 1
noncomputable abbrev biI (P:Params):Stmt:=az (bL (biW P)) 1
noncomputable def Cs:Option Int→List (Str×V)
 | none=>[]
 | some m=>[("middle",.int m)]
noncomputable abbrev biL (k:List Nat) (lo hi:Nat) (m:Option Int):Hp:=[.fr (("rows",.old 243)::("key",.str k)::("low",.int (dV lo))::("high",.int (dV hi))::Cs m)]
theorem bi0(P:Params):(biF P).body=[az (biF P).body 0,.While (sA (biW P)) (bL (biW P)) [] (biW P).pos,az (biF P).body 2]:=by kernel_rfl
theorem bi1(P:Params):bL (biW P)=[az (bL (biW P)) 0,.If (sA (biI P)) (bL (biI P)) (bM (biI P)) (biI P).pos]:=by kernel_rfl
theorem bi2(P:Params):sA (biI P)=.Compare (.Subscript (qA (qA (sA (biI P)))) (qB (qA (sA (biI P)))) (qA (sA (biI P))).pos) [.Lt] [qB (sA (biI P))] (sA (biI P)).pos:=by kernel_rfl
theorem bi3(P:Params):cp [qB (sA (biI P))]=true:=by kernel_rfl
theorem bi4(k:List Nat)(lo hi d:Nat):(TE cx sa ns [] aL 20).ss (biE cx.P d) [az (biF cx.P).body 0] (biL k lo hi none)=some ⟨.next,biL k lo hi none,[]⟩:=by kernel_rfl
theorem bi5(k:List Nat)(lo hi d:Nat)(m:Option Int):(TE cx sa ns [] aL 20).tst (biE cx.P d) (sA (biW cx.P)) (biL k lo hi m)=some ⟨decide (dV lo<dV hi),biL k lo hi m,[]⟩:=by induction m<;>kernel_rfl
theorem bi6(k:List Nat)(lo hi d:Nat)(m:Option Int):(TE cx sa ns [] aL 20).ss (biE cx.P d) [az (bL (biW cx.P)) 0] (biL k lo hi m)=some ⟨.next,biL k lo hi (some (Int.fdiv (dV (lo+hi)) (dV 2))),[Builtin.divisionGoesByPylong (dV (lo+hi)) (dV 2)=false]⟩:=by induction m<;>kernel_rfl
theorem bi7(k:List Nat)(lo hi m d:Nat):(TE cx sa ns [] aL 20).ex (biE cx.P d) (qA (qA (sA (biI cx.P)))) (biL k lo hi (some (dV m)))=some ⟨.old 243,biL k lo hi (some (dV m)),[]⟩:=by kernel_rfl
theorem bi8(k:List Nat)(lo hi m d:Nat):(TE cx sa ns [] aL 20).ex (biE cx.P d) (qB (qA (sA (biI cx.P)))) (biL k lo hi (some (dV m)))=some ⟨.int (dV m),biL k lo hi (some (dV m)),[]⟩:=by kernel_rfl
theorem bi9(k:List Nat)(lo hi m d:Nat):(TE cx sa ns [] aL 20).ex (biE cx.P d) (qB (sA (biI cx.P))) (biL k lo hi (some (dV m)))=some ⟨.str k,biL k lo hi (some (dV m)),[]⟩:=by kernel_rfl
theorem biA(k:List Nat)(lo hi m d:Nat):(TE cx sa ns [] aL 20).ss (biE cx.P d) (bL (biI cx.P)) (biL k lo hi (some (dV m)))=some ⟨.next,biL k (m+1) hi (some (dV m)),[]⟩:=by kernel_rfl
theorem biB(k:List Nat)(lo hi m d:Nat):(TE cx sa ns [] aL 20).ss (biE cx.P d) (bM (biI cx.P)) (biL k lo hi (some (dV m)))=some ⟨.next,biL k lo m (some (dV m)),[]⟩:=by kernel_rfl
theorem biC(k:List Nat)(lo hi d:Nat)(m:Option Int):(TE cx sa ns [] aL 20).ss (biE cx.P d) [az (biF cx.P).body 2] (biL k lo hi m)=some ⟨.ret (.int (dV lo)),biL k lo hi m,[]⟩:=by induction m<;>kernel_rfl
noncomputable def Bi (k:List Nat):List (Str×V):=[("rows",.old 243),("key",.str k),("low",.int (dV 0)),("high",.int (dV 43))]
theorem biD(P:Params)(k:List Nat):bw (biF P).dfl [] (biF P).pars [.old 243,.str k,.int (dV 0),.int (dV 43)]=some (Bi k):=by kernel_rfl
theorem biG(P:Params)(k:List Nat)(d:Nat):enter (biF P) d (Bi k) []=some ⟨biE P d,biL k 0 43 none,[]⟩:=by kernel_rfl
theorem tG(P:Params)(σ:Hp):l7 (T1 sa ns) σ (.old 243)=some (ph P):=by kernel_rfl
theorem mL(P:Params):(ph P).length=43∧(gS P).length=43:=⟨by kernel_rfl,by kernel_rfl⟩
theorem keys_str(P:Params):(ph P).all (fun v=>(bc v).isSome)=true:=by kernel_rfl
theorem jF: ∀(l:List V) (m:Nat),l.all (fun v=>(bc v).isSome)=true→m<l.length→l[m]?=some (.str ((ay l).getD m []))
 | [],m,_,h=>absurd h (Eo _)
 | v::l,0,h,_=>by
  obtain⟨x,hx⟩:=Fw.mp (Et.mp h).1
  refine rK (fz hx ..) ?_;rfl
 | v::l,m+1,h,hm=>jF l m (Et.mp h).2 (Ew hm)
theorem j7{σ:Hp}{m:Nat}(hm:m<43):cg (T1 sa ns) (.old 243) (.int (dV m)) σ=some ⟨.str ((gS cx.P).getD m []),σ,[an (dV m)]⟩:=by
 have hi:idx (dV m) 43=some m:=by
  show(match EH m 43 with | true=>some m | false=>none)=some m
  exact rK (ED.mpr hm ..) rfl
 show alt (alt ((l7 (T1 sa ns) σ (.old 243)).bind fun xs=>(idx (dV m) xs.length).bind fun j=>vQ xs[j]? (an (dV m)) σ) _) _=_
 rw[tG cx.P,Fe,(mL cx.P).1,hi,Fe,jF _ m (keys_str _) (by rw[(mL cx.P).1];exact hm)]
 rfl
theorem qO{lo hi p:Nat}(h1:hi-lo<2*p)(h:lo<hi):(lo+hi)/2<hi∧lo≤(lo+hi)/2∧hi-((lo+hi)/2+1)<p∧(lo+hi)/2-lo<p:=by
 have a:(lo+hi)/2*2≤lo+hi:=Nat.div_mul_le_self ..
 have b:lo+hi<(lo+hi)/2*2+2:=Nat.lt_div_mul_add (by decide)
 revert a b
 generalize (lo+hi)/2=m
 intro a b
 have c:hi<2*p+lo:=(Nat.sub_lt_iff_lt_add (D6 h)).mp h1
 have m1:m<hi:=EX (a:=2) (DY a (GF hi▸Gz h hi))
 have m2:lo<m+1:=EX (a:=2) (GF lo▸Nat.succ_mul m 2▸DY (EG (D6 h) lo) b)
 refine⟨m1,ER m2,F4 m1 (EX (a:=2) ?_),F4 (ER m2) (EX (a:=2) ?_)⟩
 ·refine rK (Nat.add_mul ..) (rK (Nat.succ_mul ..) (rK (GF hi ..) (rK (Nat.mul_comm p ..) ?_)))
  exact DR (Gz c hi) (by refine rK (Nat.add_assoc ..) ?_;exact EG (D6 b) _)
 ·refine rK (Nat.add_mul ..) (rK (Nat.mul_comm p ..) (rK (GF lo ..) ?_))
  exact DY a (DR (GC c lo) (Eu (Nat.add_left_comm ..)))
theorem pX(H:Ok1 cx mg mb sa ns){k:List Nat}{d lo hi mid:Nat}{m:Option Int}(h:lo<hi)(hm:mid<43)(hd:(lo+hi)/2=mid){q:Bool}(hq:ltN ((gS cx.P).getD mid []) k=q):
  WhB cx (biE cx.P d) (sA (biW cx.P)) (bL (biW cx.P)) (biL k lo hi m) .next (bif q then biL k (mid+1) hi (some (dV mid))else biL k lo mid (some (dV mid))):=by
 have HF:=ab H (l:=[]) aa.nil {tb:=aL} 20
 have s0:=SS.ev HF (bi6 k lo hi d m) rfl
 have e:Int.fdiv (dV (lo+hi)) (dV 2)=dV mid:=(Int.ofNat_fdiv _ _).symm.trans (congrArg dV hd)
 replace s0:=(e ..)▸s0
 refine⟨_,TT.known HF (bi5 k lo hi d m) (m0 h) trivial,?_⟩
 refine rK (bi1 ..) ?_
 refine SS.append s0 (SS.cons (S1.ite (σ1:=biL k lo hi (some (dV mid))) (q:=q) ?_ ?_) SS.nil)
 ·refine rK (bi2 ..) ?_
  exact TT.cmp H (bi3 _) (XX.item H (XX.ev HF (bi7 k lo hi mid d) trivial) (XX.ev HF (bi8 k lo hi mid d) trivial) (j7 hm) (lA (kV (D6 hm) (by decide)))) (XX.ev HF (bi9 k lo hi mid d) trivial) (congrArg some hq)
 ·induction q with
  | true=>exact SS.ev HF (biA k lo hi mid d) trivial
  | false=>exact SS.ev HF (biB k lo hi mid d) trivial
theorem Bh(H:Ok1 cx mg mb sa ns){k:List Nat}{d:Nat}(n:Nat): ∀(lo hi:Nat) (m:Option Int),hi-lo<2^n→lo≤hi→hi≤43→ ∃c hi' m',Wh cx (biE cx.P d) (sA (biW cx.P)) (bL (biW cx.P)) .next (biL k (i8 (gS cx.P) k n lo hi) hi' m') c (biL k lo hi m):=by
 have HF:=ab H (l:=[]) aa.nil {tb:=aL} 20
 induction n with
 | zero=>exact fun lo hi m h1 h2 h3=>⟨0,hi,m,.stop (TT.known HF (bi5 k lo hi d m) (eQ (Nat.le_of_sub_eq_zero (Nat.lt_one_iff.mp h1))) trivial)⟩
 | succ n ih=>
  intro lo hi m h1 h2 h3
  refine rK (i8.c ..) ?_
  induction q:EH lo hi with
  | false=>exact⟨0,hi,m,.stop (TT.known HF (bi5 k lo hi d m) (eQ (Fc.mp fun h=>noE (P:=False) (congrArg (fun b=>bif b then some 0 else none) (q.symm.trans (ED.mpr h))))) trivial)⟩
  | true=>
   have hlt:=ED.mp q
   refine o04 (qO ((Nat.pow_succ' (m:=2) (n:=n))▸h1) hlt) fun m1 m2 m3 m4=>?_
   dsimp only
   induction hq:ltN ((gS cx.P).getD ((lo+hi)/2) []) k with
   | true=>exact(ih _ hi (some (dV ((lo+hi)/2))) m3 m1 h3).elim fun c h=>⟨c+1,h.imp fun hi' h=>h.imp fun m' h=> .go (pX H hlt (DR m1 h3) rfl hq) (.inl rfl) (.inl rfl) h⟩
   | false=>exact(ih lo _ (some (dV ((lo+hi)/2))) m4 m2 (kV (D6 m1) h3)).elim fun c h=>⟨c+1,h.imp fun hi' h=>h.imp fun m' h=> .go (pX H hlt (DR m1 h3) rfl hq) (.inl rfl) (.inl rfl) h⟩
noncomputable def dL (P:Params) (k:List Nat):Nat:=i8 (gS P) k 6 0 43
noncomputable def pY (P:Params):List V→Hp→Option (Out V):=d9 [.k (.old 243),.s,.k (.int (dV 0)),.k (.int (dV 43))] fun k=>some ⟨.int (dV (dL P k)),[],[]⟩
theorem xg(H:Ok1 cx mg mb sa ns):Told cx 178 1 (pY cx.P):=by
 have HF:=ab H (l:=[]) aa.nil {tb:=aL} 20
 refine Told.fn0 fun k {A ρ s xs d} r S hv=>af fun ob=>?_
 refine o31 (Bh (k:=k) (d:=d) H 6 0 43 none (by decide) (by decide) (by decide)) fun c hi' m' w1=>?_
 have a1:SS cx (biE cx.P d) [az (biF cx.P).body 0] (biL k 0 43 none) .next (biL k 0 43 none):=SS.ev HF (bi4 k 0 43 d) trivial
 have a2:S1 cx (biE cx.P d) (.While (sA (biW cx.P)) (bL (biW cx.P)) [] (biW cx.P).pos) (biL k 0 43 none) .next (biL k (dL cx.P k) hi' m'):=a9 w1
 have a3:SS cx (biE cx.P d) [az (biF cx.P).body 2] (biL k (dL cx.P k) hi' m') _ _:=SS.ev HF (biC k _ hi' d m') trivial
 have body:SS cx (biE cx.P d) (biF cx.P).body (biL k 0 43 none) (.ret (.int (dV (dL cx.P k)))) (biL k (dL cx.P k) hi' m'):=by
  refine rK (bi0 ..) ?_
  exact SS.append a1 (SS.cons a2 a3)
 refine o21 (H.fns 178 (biF cx.P) (by kernel_rfl)) fun obj fd kf=>?_
 have cc:=aR (kws:=[]) (ks:=[]) H r kf S hv (rfl) (biD _ k) (biG _ k d) rfl body
 exact ah.pick (sel:=[]) (r:=fun i=>i) cc ⟨⟨rfl,E9,fun j i h=>by simp at h⟩,DQ _,fun j hj=>absurd hj (Eo _)⟩ trivial
noncomputable def xvL (a b c:Nat) (v:V) (p:Pos):Option (Hp→Option (V×Hp)):=match DI p.line a,DI p.col b,DI p.endCol c with
 | true,true,true=>some fun σ=>some (v,σ)
 | _,_,_=>none
noncomputable def C7 (P:Params):List (Str×V):=k43
noncomputable def inK (P:Params) (k:List Nat):Bool:=((C7 P).lookup ⟨k.toArray⟩).isSome
noncomputable def ri (P:Params) (k:List Nat):Bool:=match inK P k with
 | true=>true
 | false=>match decide (dL P k=43)with
  | true=>false
  | false=>cf ((gS P).getD (dL P k) []) k
noncomputable abbrev hkF (P:Params):Fn:=fnN 220
noncomputable abbrev hkE (P:Params) (d:Nat):EE:=⟨0,[],(hkF P).scope,d⟩
noncomputable def tBi (P:Params):Addr×bx:=(178,lift 1 dS (pY P))
noncomputable abbrev yM (cx:Cx) (sa:Addr) (ns:List Int) (l:List (Nat×Bool)) (v:V):Ev:=evN (T1 sa ns) (mkO cx (clT [tBi cx.P]) {tb:=adN l,xv:=xvL 171 15 28 v}) 20
noncomputable abbrev hkX (P:Params):Expr:=qA (qA (sA (az (hkF P).body 3)))
noncomputable abbrev hkL (k:List Nat) (i:Nat):Hp:=[.fr [("self",.old 236),("prefix",.str k),("lo",.int (dV 0)),("hi",.int (dV 43)),("i",.int (dV i))]]
theorem hk1(k:List Nat)(d:Nat)(v:V):bo 0 [] ((yM cx sa ns [(162,true)] v).call (d+3) (.old 220) [.old 236,.str k] [] [])=some ⟨.bool true,[],[inK cx.P k=true]⟩:=by kernel_rfl
theorem hk2(k:List Nat)(d:Nat)(v:V):bo 0 [] ((yM cx sa ns [(162,false),(164,true),(169,true)] v).call (d+3) (.old 220) [.old 236,.str k] [] [])=some ⟨.bool false,[],[inK cx.P k=false,cf k []=true,43≤sizeLine,decide (dV (dL cx.P k)=dV 43)=true]⟩:=by kernel_rfl
theorem hk3(k:List Nat)(d:Nat)(l:List Nat):bo 0 [] ((yM cx sa ns [(162,false),(164,true),(169,false)] (.str l)).call (d+3) (.old 220) [.old 236,.str k] [] [])=some ⟨.bool (cf l k),[],[inK cx.P k=false,cf k []=true,43≤sizeLine,decide (dV (dL cx.P k)=dV 43)=false,XX cx (hkE cx.P (d+2)) (hkX cx.P) (hkL k (dL cx.P k)) (.str l) (hkL k (dL cx.P k))]⟩:=by kernel_rfl
theorem hk4(P:Params):hkX P=.Subscript (qA (hkX P)) (qB (hkX P)) (hkX P).pos:=by kernel_rfl
theorem hk5(k:List Nat)(i d:Nat):(TE cx sa ns [] aL 20).ex (hkE cx.P d) (qA (hkX cx.P)) (hkL k i)=some ⟨.old 243,hkL k i,[]⟩:=by kernel_rfl
theorem hk6(k:List Nat)(i d:Nat):(TE cx sa ns [] aL 20).ex (hkE cx.P d) (qB (hkX cx.P)) (hkL k i)=some ⟨.int (dV i),hkL k i,[]⟩:=by kernel_rfl
theorem io(k:List Nat):cf k []=true:=by induction k<;>rfl
theorem ou(ks:List (List Nat))(k:List Nat): ∀(n lo hi:Nat),lo≤hi→hi≤43→i8 ks k n lo hi≤43
 | 0,lo,hi,h1,h2=>by show lo≤43;exact kV (by assumption) (by assumption)
 | n+1,lo,hi,h1,h2=>by
  refine rK (i8.c ..) ?_
  induction q:EH lo hi with
  | false=>dsimp only;exact kV (by assumption) (by assumption)
  | true=>
   have:=ED.mp q
   dsimp only
   induction ltN (ks.getD ((lo+hi)/2) []) k with
   | true=>exact ou ks k n _ _ (by lia) h2
   | false=>exact ou ks k n _ _ (by lia) (by lia)
noncomputable def pw (P:Params):List V→Hp→Option (Out V):=d9 [.k (.old 236),.s] fun k=>some ⟨.bool (ri P k),[],[]⟩
theorem wv(H:Ok1 cx mg mb sa ns):Told cx 220 3 (pw cx.P):=by
 have HC:aa cx (clT [tBi cx.P]):=aa.cons (Told.tells (xg H)) aa.nil
 have hs:=sizeLine_eq
 refine Told.fn0 fun k {A ρ s xs d} r S hv=>af fun ob=>?_
 unfold ri
 induction q1:inK cx.P k with
 | true=>
  have:=aJ (ks:=[]) (kw:=[]) (kws:=[]) (bu H (bk HC _) 20) r S hv (rfl) (hk1 k d .none) q1
  exact this
 | false=>
  dsimp only
  induction q2:decide (dL cx.P k=43)with
  | true=>
   have q2':=of_decide_eq_true q2
   have:=aJ (ks:=[]) (kw:=[]) (kws:=[]) (bu H (bk HC _) 20) r S hv (rfl) (hk2 k d .none) ⟨q1,io k,by(exact D5 ..),by show decide (dV (dL cx.P k)=dV 43)=true;refine rK (q2' ..) ?_;rfl⟩
   exact this
  | false=>
   have q2':=of_decide_eq_false q2
   have hle:dL cx.P k≤43:=ou _ _ _ _ _ (by decide) (by decide)
   have HF:=ab H (l:=[]) aa.nil {tb:=aL} 20
   have hx:XX cx (hkE cx.P (d+2)) (hkX cx.P) (hkL k (dL cx.P k)) (.str ((gS cx.P).getD (dL cx.P k) [])) (hkL k (dL cx.P k)):=by
    refine rK (hk4 ..) ?_
    exact XX.item H (XX.ev HF (hk5 k _ (d+2)) trivial) (XX.ev HF (hk6 k _ (d+2)) trivial) (j7 (by exact Nat.lt_of_le_of_ne hle q2')) (lA (by exact kV (by assumption) (by decide)))
   have:=aJ (ks:=[]) (kw:=[]) (kws:=[]) (bu H (bk HC _) 20) r S hv (rfl) (hk3 k d _) ⟨q1,io k,by(exact D5 ..),by
    show decide (dV (dL cx.P k)=dV 43)=false
    apply decide_eq_false
    simp only[DN];(exact GL rfl rfl q2'),hx⟩
   exact this
end
noncomputable def pS (P:Params):List V→Hp→Option (Out V):=d9 [.k (.old 236),.s] fun k=>some ⟨.bool (inK P k),[],[]⟩
noncomputable abbrev lpF (P:Params):Fn:=fnN 227
noncomputable abbrev lpE (P:Params) (n d:Nat):EE:=⟨n,[],(lpF P).scope,d⟩
noncomputable abbrev da (a:Nat→AO):Hp:=[a 0,a 1,a 2,a 3,a 4,a 5,a 6,a 7,a 8,a 9,a 10,a 11,a 12,a 13,a 14,a 15,a 16]
noncomputable abbrev lpL (a:Hp) (p:List Nat) (x:List (Str×V)):Hp:=a++[.fr (("self",.old 236)::("prefix",.str p)::x)]
noncomputable abbrev lp0 (P:Params):Stmt:=az (lpF P).body 0
noncomputable abbrev lp1 (P:Params):Stmt:=az (lpF P).body 1
noncomputable abbrev lp2 (P:Params):Stmt:=az (lpF P).body 2
noncomputable abbrev lpI (P:Params):Stmt:=az (bL (lp1 P)) 0
noncomputable abbrev tr (P:Params):List Stmt:=[.If (.Compare (qA (sA (lpI P))) [.In] [qB (sA (lpI P))] (sA (lpI P)).pos) (bL (lpI P)) [] (lpI P).pos]
structure LPF(cx:Cx)(sa:Addr)(ns:List Int)(n:Nat)(a:Hp):Prop where
 x1: ∀(p:List Nat) (d:Nat),(TE cx sa ns [] aL 20).ex (lpE cx.P n d) (qA (sA (lp0 cx.P))) (lpL a p [])=some ⟨.str p,lpL a p [],[]⟩
 x2: ∀(p:List Nat) (d:Nat),(TE cx sa ns [] aL 20).ex (lpE cx.P n d) (qB (sA (lp0 cx.P))) (lpL a p [])=some ⟨.old 236,lpL a p [],[]⟩
 x3: ∀(p:List Nat) (d:Nat),(TE cx sa ns [] aL 20).ex (lpE cx.P n d) (.Name (exN (qA (sB (lp1 cx.P)))) (qA (sB (lp1 cx.P))).pos) (lpL a p [])=some ⟨.ty .range,lpL a p [],[]⟩
 x4: ∀(p:List Nat) (d:Nat),exs (TE cx sa ns [] aL 20) (lpE cx.P n d) (qL (sB (lp1 cx.P))) (lpL a p [])=some ⟨[.int (dV 1),.int (dV (p.length+1))],lpL a p [],[p.length≤sizeLine]⟩
 x5: ∀(p:List Nat) (d i:Nat),(TE cx sa ns [] aL 20).ex (lpE cx.P n d) (qA (sA (lpI cx.P))) (lpL a p [("i",.int (dV i))])=some ⟨.str (ar p none (some (-dV i))),lpL a p [("i",.int (dV i))],[p.length≤sizeLine]⟩
 x6: ∀(p:List Nat) (d i:Nat),(TE cx sa ns [] aL 20).ex (lpE cx.P n d) (qB (sA (lpI cx.P))) (lpL a p [("i",.int (dV i))])=some ⟨.old 236,lpL a p [("i",.int (dV i))],[]⟩
 x7: ∀(p:List Nat) (d i:Nat),(TE cx sa ns [] aL 20).ss (lpE cx.P n d) (bL (lpI cx.P)) (lpL a p [("i",.int (dV i))])=some ⟨.ret (.str (ar p none (some (-dV i)))),lpL a p [("i",.int (dV i))],[p.length≤sizeLine]⟩
 x8: ∀(p:List Nat) (d:Nat),(TE cx sa ns [] aL 20).ss (lpE cx.P n d) (bL (lp0 cx.P)) (lpL a p [])=some ⟨.ret (.str p),lpL a p [],[]⟩
 x9: ∀(p:List Nat) (d:Nat) (x:List (Str×V)),(TE cx sa ns [] aL 20).ex (lpE cx.P n d) ((qL (sA (lp2 cx.P))).getD 0 default) (lpL a p x)=some ⟨.str p,lpL a p x,[]⟩
 a1: ∀(p:List Nat) (d:Nat) (v:V),aF (T1 sa ns) (TE cx sa ns [] aL 20) (lpE cx.P n d) (sA (lp1 cx.P)) v (lpL a p [])=some ⟨(),lpL a p [("i",v)],[]⟩
 a2: ∀(p:List Nat) (d:Nat) (v w:V),aF (T1 sa ns) (TE cx sa ns [] aL 20) (lpE cx.P n d) (sA (lp1 cx.P)) v (lpL a p [("i",w)])=some ⟨(),lpL a p [("i",v)],[]⟩
section
variable{cx:Cx}{mg mb:Str→Option Value}{sa:Addr}{ns:List Int}
theorem ctA(k:List Nat)(d:Nat):bo 0 [] ((TE cx sa ns [] aL 20).call (d+1) (.old 199) [.old 236,.str k] [] [])=some ⟨.bool (inK cx.P k),[],[]⟩:=by kernel_rfl
theorem wS(H:Ok1 cx mg mb sa ns):Told cx 199 1 (pS cx.P):=by
 refine Told.fn0 fun k {A ρ s xs d} r S hv=>af fun ob=>?_
 have:=aJ (ks:=[]) (kw:=[]) (kws:=[]) (ab H (l:=[]) aa.nil {tb:=aL} 20) r S hv (rfl) (ctA k d) trivial
 exact this
theorem o7(P:Params):(lpF P).body=[.If (.Compare (qA (sA (lp0 P))) [.In] [qB (sA (lp0 P))] (sA (lp0 P)).pos) (bL (lp0 P)) [] (lp0 P).pos,
 .For (sA (lp1 P)) (.Call (.Name (exN (qA (sB (lp1 P)))) (qA (sB (lp1 P))).pos) (qL (sB (lp1 P))) [] (sB (lp1 P)).pos) (tr P) [] (lp1 P).pos,
 .Raise (some (.Call (.Name (exN (qA (sA (lp2 P)))) (qA (sA (lp2 P))).pos) [(qL (sA (lp2 P))).getD 0 default] [] (sA (lp2 P)).pos)) none (lp2 P).pos]:=by kernel_rfl
theorem wT{P:Params}{σ:Hp}(h:allB AO.noT σ=true)(k:List Nat)(d:Nat):lift 1 dS (pS P) (d+1) [.old 236,.str k] [] σ=some ⟨.bool (inK P k),σ,[]⟩:=by
 unfold lift
 simp only[h]
 show some (⟨.bool (inK P k),σ++[],[]⟩:Out V)=_
 exact rK (D2 ..) rfl
theorem nw{p:AO→Bool}: ∀{l:Hp} {o:AO},allB p l=true→p o=true→allB p (l++[o])=true
 | [],o,_,h=>(GJ _).trans h
 | b::l,o,h1,h2=>aO h1 fun q h=>Et.mpr ⟨q,nw h h2⟩
theorem Ak(a:Nat→AO):LPF cx sa ns 17 (da a) where
 x1:=fun _ _=>by kernel_rfl
 x2:=fun _ _=>by kernel_rfl
 x3:=fun _ _=>by kernel_rfl
 x4:=fun _ _=>by kernel_rfl
 x5:=fun _ _ _=>by kernel_rfl
 x6:=fun _ _ _=>by kernel_rfl
 x7:=fun _ _ _=>by kernel_rfl
 x8:=fun _ _=>by kernel_rfl
 x9:=fun _ _ _=>by kernel_rfl
 a1:=fun _ _ _=>by kernel_rfl
 a2:=fun _ _ _ _=>by kernel_rfl
theorem CQ:LPF cx sa ns 0 [] where
 x1:=fun _ _=>by kernel_rfl
 x2:=fun _ _=>by kernel_rfl
 x3:=fun _ _=>by kernel_rfl
 x4:=fun _ _=>by kernel_rfl
 x5:=fun _ _ _=>by kernel_rfl
 x6:=fun _ _ _=>by kernel_rfl
 x7:=fun _ _ _=>by kernel_rfl
 x8:=fun _ _=>by kernel_rfl
 x9:=fun _ _ _=>by kernel_rfl
 a1:=fun _ _ _=>by kernel_rfl
 a2:=fun _ _ _ _=>by kernel_rfl
theorem CS(P:Params):(T1 sa ns).cons.lookup 236=some (.cinst 230 so):=by kernel_rfl
theorem pq{K:Frag}{v:Value}(h:typeIn K v=some (.type "function")):isFn K v=true:=by unfold isFn;refine rK (h ..) ?_;kernel_rfl
theorem Am(H:Ok1 cx mg mb sa ns):findIn cx.K (.ref 230) "__contains__"=some (some (.ref 199))∧isFn cx.K (.ref 199)=true:=by
 have h:=(H.L 230 uH (by kernel_rfl)).meth ("__contains__",199) (by unfold uH;simp)
 exact⟨h.1,pq h.2.1⟩
theorem yB(P:Params):(lpF P).scope.names.lookup (exN (qA (sA (lp2 P))))=some .globalImplicit∧(T1 sa ns).glob.lookup (exN (qA (sA (lp2 P))))=some (.ty .keyError)∧(exN (qA (sA (lp2 P)))==("__debug__":Str))=false:=⟨by kernel_rfl,by kernel_rfl,by kernel_rfl⟩
theorem CR(P:Params)(env:Env):starEach [(qL (sA (lp2 P))).getD 0 default] env=[(false,eval ((qL (sA (lp2 P))).getD 0 default) env)]:=by kernel_rfl
theorem Al(P:Params):(∀env x,foldedSetIterable (.Call (.Name (exN (qA (sB (lp1 P)))) (qA (sB (lp1 P))).pos) (qL (sB (lp1 P))) [] (sB (lp1 P)).pos) env x=pure x)∧ ∀J v,letOwnedTupleGo (sA (lp1 P)) (.ref J) v=pure ():=⟨fun _ _=>by kernel_rfl,fun _ _=>by kernel_rfl⟩
theorem pL(p:List Nat)(i:Nat):ar p none (some (-dV (i+1)))=p.take (p.length-(i+1)):=by
 show(p.drop 0).take (p.length-(i+1)-0)=_
 exact rK (Fs ..) (rK (GP ..) rfl)
noncomputable def dZ (P:Params) (p:List Nat):Nat→Nat→Option (List Nat)
 | 0,_=>none
 | n+1,i=>match inK P (p.take (p.length-i))with
  | true=>some (p.take (p.length-i))
  | false=>dZ P p n (i+1)
theorem dZ.c{P:Params}{p:List Nat}{n i:Nat}:dZ P p (n+1) i=(match inK P (p.take (p.length-i))with | true=>some (p.take (p.length-i)) | false=>dZ P p n (i+1)):=rfl
noncomputable def lpK (P:Params) (p:List Nat):Option (List Nat):=match inK P p with
 | true=>some p
 | false=>dZ P p p.length 1
noncomputable abbrev XI (x:List (Str×V)):Prop:=x=[]∨ ∃v,x=[(("i":Str),v)]
theorem tn(H:Ok1 cx mg mb sa ns){n0:Nat}{a:Hp}(L:LPF cx sa ns n0 a)(hnt:allB AO.noT a=true){p:List Nat}{d:Nat}{l rt:Expr}{pos:Pos}{x:List (Str×V)}{k:List Nat}(hn:cp [rt]=true)(h1:XX cx (lpE cx.P n0 (d+1)) l (lpL a p x) (.str k) (lpL a p x))(h2:XX cx (lpE cx.P n0 (d+1)) rt (lpL a p x) (.old 236) (lpL a p x)):
  TT cx (lpE cx.P n0 (d+1)) (.Compare l [.In] [rt] pos) (lpL a p x) (inK cx.P k) (lpL a p x):=by
 have:=TT.inC (f:=199) (pos:=pos) H hn h1 h2 (CS cx.P) (Am H).1 (Am H).2 (Told.tells (sel:=dS) (wS H)) (wT (nw hnt rfl) k d) trivial rfl
 exact this
theorem xD(H:Ok1 cx mg mb sa ns){n0:Nat}{a:Hp}(L:LPF cx sa ns n0 a)(hnt:allB AO.noT a=true){p:List Nat}(hp:p.length≤1000){d:Nat}: ∀(n k:Nat) (x:List (Str×V)),k+n=p.length→XI x→
  (∀q,dZ cx.P p n (k+1)=some q→ ∃m x',Fo cx (T1 sa ns) (TE cx sa ns [] aL 20) (lpE cx.P n0 (d+1)) (sA (lp1 cx.P)) (tr cx.P) (dl (dV 1) p.length) (fun _=>True) (.ret (.str q)) (lpL a p x') m k (lpL a p x))∧
  (dZ cx.P p n (k+1)=none→ ∃m x',XI x'∧Fo cx (T1 sa ns) (TE cx sa ns [] aL 20) (lpE cx.P n0 (d+1)) (sA (lp1 cx.P)) (tr cx.P) (dl (dV 1) p.length) (fun _=>True) .next (lpL a p x') m k (lpL a p x)):=by
 have hs:=sizeLine_eq
 have HF:=ab H (l:=[]) aa.nil {tb:=aL} 20
 intro n
 induction n with
 | zero=>
  intro k x hk hx
  refine⟨fun q h=>noE h,fun _=>⟨0,x,hx,Fo.done ?_⟩⟩
  unfold dl
  rw[show EH k p.length=false from by induction q:EH k p.length with
   | false=>rfl
   | true=>have:=ED.mp q;lia]
 | succ n ih=>
  intro k x hk hx
  have hi:dl (dV 1) p.length k=some (.int (dV (k+1))):=by
   unfold dl
   refine rK (ED.mpr (show k<p.length by lia) ..) ?_
   show some (V.int (dV 1+k))=_
   congr 2
   simp only[DN];lia
  have ha:aF (T1 sa ns) (TE cx sa ns [] aL 20) (lpE cx.P n0 (d+1)) (sA (lp1 cx.P)) (.int (dV (k+1))) (lpL a p x)=some ⟨(),lpL a p [("i",.int (dV (k+1)))],[]⟩:=by
   rcases hx with rfl | ⟨v,rfl⟩
   ·exact L.a1 p _ _
   ·exact L.a2 p _ _ _
  have e1:XX cx (lpE cx.P n0 (d+1)) (qA (sA (lpI cx.P))) (lpL a p [("i",.int (dV (k+1)))]) (.str (p.take (p.length-(k+1)))) (lpL a p [("i",.int (dV (k+1)))]):=by
   have:=XX.ev HF (L.x5 p (d+1) (k+1)) (show _ from by show p.length≤sizeLine;(exact kV (by assumption) (by decide)))
   replace this:=(pL ..)▸this
   exact this
  have t1:=tn (pos:=(sA (lpI cx.P)).pos) H L hnt (by kernel_rfl) e1 (XX.ev HF (L.x6 p (d+1) (k+1)) trivial)
  refine rK (dZ.c ..) ?_
  induction q:inK cx.P (p.take (p.length-(k+1)))with
  | true=>
   replace t1:=(q ..)▸t1
   refine⟨fun z hz=>?_,fun h=>by cases h⟩
   cases hz
   have e2:=SS.ev HF (L.x7 p (d+1) (k+1)) (show _ from by show p.length≤sizeLine;(exact kV (by assumption) (by decide)))
   replace e2:=(pL ..)▸e2
   exact⟨0,_,Fo.ret hi ha trivial (SS.stop (S1.ite t1 e2) (by intro h;cases h))⟩
  | false=>
   replace t1:=(q ..)▸t1
   refine o02 (ih (k+1) [("i",.int (dV (k+1)))] (by lia) (.inr ⟨_,rfl⟩)) fun i1 i2=>?_
   refine⟨fun z hz=>?_,fun hz=>?_⟩
   ·refine o21 (i1 z hz) fun m x' w=>?_
    exact⟨m+1,x',Fo.turn0 hi ha trivial (SS.cons (S1.ite t1 SS.nil) SS.nil) (.inl rfl) trivial w⟩
   ·refine o22 (i2 hz) fun m x' hx' w=>?_
    exact⟨m+1,x',hx',Fo.turn0 hi ha trivial (SS.cons (S1.ite t1 SS.nil) SS.nil) (.inl rfl) trivial w⟩
theorem tq(H:Ok1 cx mg mb sa ns){n0:Nat}{a:Hp}(L:LPF cx sa ns n0 a){p:List Nat}(hp:p.length≤1000){d m:Nat}{f:Fl}{σ2:Hp}(w:Fo cx (T1 sa ns) (TE cx sa ns [] aL 20) (lpE cx.P n0 (d+1)) (sA (lp1 cx.P)) (tr cx.P) (dl (dV 1) p.length) (fun _=>True) f σ2 m 0 (lpL a p [])):
  S1 cx (lpE cx.P n0 (d+1)) (.For (sA (lp1 cx.P)) (.Call (.Name (exN (qA (sB (lp1 cx.P)))) (qA (sB (lp1 cx.P))).pos) (qL (sB (lp1 cx.P))) [] (sB (lp1 cx.P)).pos) (tr cx.P) [] (lp1 cx.P).pos) (lpL a p []) f σ2:=by
 have hs:=sizeLine_eq
 have HF:=ab H (l:=[]) aa.nil {tb:=aL} 20
 exact gc H HF (II.range (i:=1) (n:=p.length) H HF (L.x3 p _) trivial (by kernel_rfl) (L.x4 p _) (show _ from by show p.length≤sizeLine;(exact kV (by assumption) (by decide))) rfl (by exact rK (EJ ..) rfl) (by lia)) w (Al _).1 (Al _).2
theorem tp(H:Ok1 cx mg mb sa ns){n0:Nat}{a:Hp}(L:LPF cx sa ns n0 a)(hnt:allB AO.noT a=true){p q:List Nat}(hp:p.length≤1000)(hq:lpK cx.P p=some q){d:Nat}: ∃x',SS cx (lpE cx.P n0 (d+1)) (lpF cx.P).body (lpL a p []) (.ret (.str q)) (lpL a p x'):=by
 have HF:=ab H (l:=[]) aa.nil {tb:=aL} 20
 have t0:=tn (pos:=(sA (lp0 cx.P)).pos) H L hnt (by kernel_rfl) (XX.ev HF (L.x1 p (d+1)) trivial) (XX.ev HF (L.x2 p (d+1)) trivial)
 refine rK (o7 ..) ?_
 unfold lpK at hq
 induction q1:inK cx.P p with
 | true=>
  rw[q1]at hq t0
  cases hq
  exact⟨[],SS.stop (S1.ite t0 (SS.ev HF (L.x8 p (d+1)) trivial)) (by intro h;cases h)⟩
 | false=>
  rw[q1]at hq t0
  obtain⟨m,x',w⟩:=(xD H L hnt hp p.length 0 [] (by lia) (.inl rfl)).1 q hq
  exact⟨x',SS.cons (S1.ite t0 SS.nil) (SS.stop (tq H L hp w) (by intro h;cases h))⟩
theorem qR(H:Ok1 cx mg mb sa ns){n0:Nat}{a:Hp}(L:LPF cx sa ns n0 a)(hnt:allB AO.noT a=true){p:List Nat}(hp:p.length≤1000)(hq:lpK cx.P p=none){d:Nat}{frs:List Nat}: ∃x',RRk cx (lpE cx.P n0 (d+1)) frs (lpF cx.P).body (lpL a p []) (lpL a p x'):=by
 have HF:=ab H (l:=[]) aa.nil {tb:=aL} 20
 have t0:=tn (pos:=(sA (lp0 cx.P)).pos) H L hnt (by kernel_rfl) (XX.ev HF (L.x1 p (d+1)) trivial) (XX.ev HF (L.x2 p (d+1)) trivial)
 refine rK (o7 ..) ?_
 unfold lpK at hq
 induction q1:inK cx.P p with
 | true=>replace hq:=(q1 ..)▸hq;cases hq
 | false=>
  rw[q1]at hq t0
  obtain⟨m,x',_,w⟩:=(xD H L hnt hp p.length 0 [] (by exact EJ ..) (.inl rfl)).2 hq
  exact⟨x',RRk.after (l:=[_,_]) (SS.cons (S1.ite t0 SS.nil) (SS.cons (tq H L hp w) SS.nil)) (RRk.raise H (yB (sa:=sa) (ns:=ns) _).1 (yB _).2.1 (yB (sa:=sa) (ns:=ns) _).2.2 (CR _) (XX.ev HF (L.x9 p (d+1) x') trivial))⟩
noncomputable def o8 (P:Params):List V→Hp→Option (Out V):=d9 [.k (.old 236),.s] fun k=>aD (Ex k.length 1000) ((lpK P k).bind fun q=>some ⟨.str q,[],[]⟩)
theorem wi(H:Ok1 cx mg mb sa ns):Told cx 227 3 (o8 cx.P):=by
 refine Told.fn0 fun k {A ρ s xs d} r S hv=>au fun h1=>ae fun q h2=>af fun ob=>?_
 refine o21 (H.fns 227 (lpF cx.P) (by kernel_rfl)) fun obj fd kk=>?_
 refine o11 (tp H (CQ (cx:=cx) (sa:=sa) (ns:=ns)) rfl (Ef.mp h1) h2 (d:=d+1)) fun x' w=>?_
 have c:=aR (kws:=[]) (ks:=[]) (bs:=[("self",.old 236),("prefix",.str k)]) (o:=⟨lpE cx.P 0 (d+2),lpL [] k [],[]⟩) H r kk S hv (rfl) (by kernel_rfl) (by kernel_rfl) rfl w
 exact ah.pick (σ':=[]) (sel:=[]) (r:=inv []) c (pick_from (by kernel_rfl) rfl rfl) trivial
theorem An(H:Ok1 cx mg mb sa ns){a:Nat→AO}(hnt:allB AO.noT (da a)=true){k:List Nat}(hk:k.length≤1000)(hq:lpK cx.P k=none){frs:List Nat}(hfr:ew (da a) frs)(d:Nat): ∃x',ew (lpL (da a) k x') (17::frs)∧ ∀{A:Around} {ρ:Ids} {s:Shared} {xs:List Value} {env:Env} {le:List Env},aj A (d+3)→aZ A env le frs (da a).length ρ→
  Sat cx (da a) ρ s.heap→VRs (da a).length ρ s.heap [.old 236,.str k] xs→RCk cx (17::frs) A (da a) ρ s (.ref 227) xs (lpL (da a) k x'):=by
 refine o21 (H.fns 227 (lpF cx.P) (by kernel_rfl)) fun obj fd kk=>?_
 refine o11 (qR H (Ak (cx:=cx) (sa:=sa) (ns:=ns) a) hnt hk hq (d:=d+1) (frs:=17::frs)) fun x' w=>?_
 have hf2:ew (lpL (da a) k x') (17::frs):=fun i hi=>by
  rcases D1.mp hi with rfl | hi
  ·exact⟨_,rfl⟩
  ·refine o11 (hfr i hi) fun m hm=>?_
   exact⟨m,by refine rK (E8 (aI hm) ..) ?_;exact hm⟩
 refine⟨x',hf2,fun{A ρ s xs env le} r st S hv=>?_⟩
 exact mj (bs:=[("self",.old 236),("prefix",.str k)]) (o:=⟨lpE cx.P 17 (d+2),lpL (da a) k [],[]⟩) H r kk S st hv (by kernel_rfl) (by kernel_rfl) w hf2 (by show 17<18;decide)
end
noncomputable abbrev cnF (P:Params):Fn:=fnN 283
noncomputable abbrev cnE (P:Params) (d:Nat):EE:=⟨14,[],(cnF P).scope,d⟩
structure ao where
 sa:Addr
 t:List Nat
 g:List (List Nat×List Nat)
noncomputable def aS (g:List (List Nat×List Nat)):List V:=g.map fun x=> .tup [.str x.1,.str x.2]
noncomputable abbrev nZ (B:ao):List (Str×V):=[("script",.old B.sa),("text",.str B.t),("tokenizer",.ref 1),("got",.ref 11)]
noncomputable abbrev tkF (st:Addr):List (Str×V):=[("stream",.ref 3),("parser",.none),("escapeFlag",.bool false),("lastFourChars",.ref 9),("state",.meth st 1),("escape",.bool false),("currentToken",.none),("tokenQueue",.ref 10)]
noncomputable abbrev bN (B:ao) (st:Addr) (p r:List Nat) (q:Bool) (qs:List V):Hp:=[.fr (nZ B),.inst 762 2,.dict (tkF st),.inst 166 4,.strm 148 p r q [3,7,5,8],.inst 73 6,.src,.list [.int (dV 0)],.list [],.list [],.list qs,.list (aS B.g),.fr [("self",.ref 1)]]
noncomputable abbrev bA (B:ao) (p r:List Nat) (q:Bool) (qs:List V):Hp:=bN B 311 p r q qs++[.fr [("self",.ref 1)]]
noncomputable abbrev cnA:List (Str×V):=[("self",.ref 1),("allowedChar",.none),("fromAttribute",.bool false)]
noncomputable abbrev cnB (x:List (Str×V)):List (Str×V):=("self",.ref 1)::("allowedChar",.none)::("fromAttribute",.bool false)::("output",.str [38])::("charStack",.ref 15)::x
noncomputable abbrev cnL (B:ao) (p r:List Nat) (q:Bool) (cs:List V):Hp:=bA B p r q []++[.fr (cnB []),.list cs]
noncomputable abbrev cnS (P:Params) (i:Nat):Stmt:=az (cnF P).body i
noncomputable abbrev cnN (P:Params):List Stmt:=bM (az (bM (cnS P 2)) 0)
noncomputable def tCh:Addr×bx:=(133,lift 6 kQ kE)
noncomputable def tUn:Addr×bx:=(163,lift 1 kQ lQ)
noncomputable def tHk (P:Params):Addr×bx:=(220,lift 3 dS (pw P))
noncomputable def tLp (P:Params):Addr×bx:=(227,lift 3 dS (o8 P))
noncomputable abbrev A6 (P:Params):List (Addr×bx):=[tCh,tUn,tHk P,tLp P]
noncomputable abbrev cnV (cx:Cx) (sa:Addr) (ns:List Int) (l:List (Nat×Nat×Nat×Bool)):Ev:=evN (T1 sa ns) (mkO cx (clT (A6 cx.P)) {tb:=adL l}) 20
noncomputable abbrev cnW (P:Params):Stmt:=az (cnN P) 0
noncomputable def aT:List (List Nat):=[[97],[97,109],[97,109,112],[97,109,112,59],[97,110],[108],[108,116],[108,116,59],[110],[110,111],[110,111,116],[110,111,116,59],[110,111,116,105],[110,111,116,105,110],[110,111,116,105,110,59],[110,111,116,110],[110,111,116,110,105],[110,111,116,110,105,59],[112],[112,97],[116],[116,105],[116,105,109]]
noncomputable def isW (w:List Nat):Bool:=aT.any fun v=>am v w
theorem aM{a b:List Nat}:am a b=true↔a=b:=fV a b▸beq_iff_eq
theorem dw{w:List Nat}:isW w=true↔w∈aT:=by
 unfold isW
 rw[List.any_eq_true]
 constructor
 ·rintro⟨v,h1,h2⟩;refine FL (aM.mp h2 ..) ?_;exact h1
 ·intro h;exact⟨w,h,aM.mpr rfl⟩
section
variable{cx:Cx}{mg mb:Str→Option Value}{sa:Addr}{ns:List Int}
theorem Dy(B:ao)(p r:List Nat)(q:Bool)(c d:Nat):(cnV cx sa ns []).ss (cnE cx.P (d+8)) [cnS cx.P 0,cnS cx.P 1] (bA B p (c::r) q []++[.fr cnA])=some ⟨.next,cnL B (c::p) r true [.str [c]],[]⟩:=by kernel_rfl
theorem Dx(B:ao)(p r:List Nat)(q:Bool)(c d:Nat):(cnV cx sa ns [(235,11,42,false),(235,46,77,false)]).tst (cnE cx.P (d+8)) (sA (cnS cx.P 2)) (cnL B p r q [.str [c]])=some ⟨false,cnL B p r q [.str [c]],[an (dV 0),aq c [9,10,12,32,13]=false,an (dV 0),aq c [60,38]=false]⟩:=by kernel_rfl
theorem Dw(B:ao)(p r:List Nat)(q:Bool)(c d:Nat):(cnV cx sa ns [(237,13,32,false)]).tst (cnE cx.P (d+8)) (sA (az (bM (cnS cx.P 2)) 0)) (cnL B p r q [.str [c]])=some ⟨false,cnL B p r q [.str [c]],[an (dV 0),am [c] [35]=false]⟩:=by kernel_rfl
theorem Dm(B:ao)(p r:List Nat)(q:Bool)(c d:Nat):(cnV cx sa ns []).tst (cnE cx.P (d+8)) (sA (cnW cx.P)) (cnL B p r q [.str [c]])=some ⟨true,cnL B p r q [.str [c]],[an (DM 0)]⟩:=by kernel_rfl
theorem AW(B:ao)(p r:List Nat)(q:Bool)(c d:Nat):(cnV cx sa ns [(252,23,76,false)]).ss (cnE cx.P (d+8)) (bL (cnW cx.P)) (cnL B p r q [.str [c]])=some ⟨.brk,cnL B p r q [.str [c]],[ay [.str [c]]=some [[c]],1≤sizeLine,ri cx.P [c]=false]⟩:=by kernel_rfl
theorem AV: ∀w∈aT,∀(B:ao) (p r:List Nat) (q:Bool) (d:Nat),(cnV cx sa ns []).tst (cnE cx.P (d+8)) (sA (cnW cx.P)) (cnL B p r q (csV w))=some ⟨true,cnL B p r q (csV w),[an (DM 0)]⟩:=iW (by kernel_rfl)
theorem AU: ∀w∈aT,∀(B:ao) (p r:List Nat) (q:Bool) (c d:Nat),(cnV cx sa ns []).tst (cnE cx.P (d+8)) (sA (cnW cx.P)) (cnL B p r q (csV w++[.str [c]]))=some ⟨true,cnL B p r q (csV w++[.str [c]]),[an (DM 0)]⟩:=kq (by kernel_rfl)
theorem AT: ∀w∈aT,∀(B:ao) (p r:List Nat) (q:Bool) (d:Nat),(cnV cx sa ns []).tst (cnE cx.P (d+8)) (sA (cnW cx.P)) (cnL B p r q (csV w++[.none]))=some ⟨false,cnL B p r q (csV w++[.none]),[an (DM 0)]⟩:=iW (by kernel_rfl)
theorem Dl: ∀w∈aT,∀(B:ao) (p r:List Nat) (q:Bool) (c d:Nat),(cnV cx sa ns []).ss (cnE cx.P (d+8)) (bL (cnW cx.P)) (cnL B p (c::r) q (csV w))=some ⟨.next,cnL B (c::p) r true (csV w++[.str [c]]),[ay (csV w)=some (w.map fun x=>[x]),w.length≤sizeLine,w.length≤sizeLine]⟩:=kq (by kernel_rfl)
theorem Dk: ∀w∈aT,∀(B:ao) (p:List Nat) (q:Bool) (d:Nat),(cnV cx sa ns []).ss (cnE cx.P (d+8)) (bL (cnW cx.P)) (cnL B p [] q (csV w))=some ⟨.next,cnL B p [] false (csV w++[.none]),[ay (csV w)=some (w.map fun x=>[x]),w.length≤sizeLine,w.length≤sizeLine]⟩:=pH (by kernel_rfl)
theorem Dj: ∀w∈aT,∀(B:ao) (p r:List Nat) (q:Bool) (c d:Nat),(cnV cx sa ns [(252,23,76,false)]).ss (cnE cx.P (d+8)) (bL (cnW cx.P)) (cnL B p r q (csV w++[.str [c]]))=some ⟨.brk,cnL B p r q (csV w++[.str [c]]),[ay (csV (w++[c]))=some ((w++[c]).map fun x=>[x]),(w++[c]).length≤sizeLine,ri cx.P (w++[c])=false]⟩:=kq (by kernel_rfl)
theorem C2(P:Params):(([]::aT).all fun w=>alpha.all fun c=>ri P (w++[c])==isW (w++[c]))=true:=by kernel_rfl
theorem Au{P:Params}{w:List Nat}{c:Nat}(hw:w=[]∨w∈aT)(hc:c∈alpha):ri P (w++[c])=isW (w++[c]):=by
 have h:=DL.mp (C2 P) w (hw.elim (fun e=>e▸wj ..) fun e=>DJ _ e)
 exact beq_iff_eq.mp (DL.mp h c hc)
noncomputable def nwk:List Nat→List Nat→List Nat×Option Nat×List Nat
 | w,[]=>(w,none,[])
 | w,c::r=>match isW (w++[c])with
  | true=>nwk (w++[c]) r
  | false=>(w,some c,r)
theorem nwk.c{w r:List Nat}{c:Nat}:nwk w (c::r)=(match isW (w++[c])with | true=>nwk (w++[c]) r | false=>(w,some c,r)):=rfl
noncomputable def cU:Option Nat→V
 | none=> .none
 | some c=> .str [c]
noncomputable def cq:Option Nat→List Nat
 | none=>[]
 | some c=>[c]
theorem bQ: ∀w:List Nat,some (ay (csV w))=some (w.map fun x=>[x])
 | []=>rfl
 | c::w=>congrArg some (congrArg ([c]:: ·) (DZ (bQ w)))
theorem hZ(w:List Nat)(c:Nat):csV w++[.str [c]]=csV (w++[c]):=by simp[csV]
theorem h8{w:List Nat}(h:w∈aT):w.length≤6:=by
 have:(aT.all fun w=>Ex w.length 6)=true:=by decide
 exact Ef.mp (DL.mp this w h)
theorem cI(H:Ok1 cx mg mb sa ns):aa cx (clT (A6 cx.P)):=
 aa.cons (Told.tells (dk H)) (aa.cons (Told.tells (fD H)) (aa.cons (Told.tells (wv H)) (aa.cons (Told.tells (wi H)) aa.nil)))
set_option maxHeartbeats 4000000 in
theorem wY(H:Ok1 cx mg mb sa ns)(B:ao)(p0:List Nat)(d:Nat): ∀(r w:List Nat) (q:Bool),w∈aT→(∀c∈r,c∈alpha)→
  ∃n,Wh cx (cnE cx.P (d+8)) (sA (cnW cx.P)) (bL (cnW cx.P)) .next (cnL B (cq (nwk w r).2.1++((nwk w r).1.reverse++p0)) (nwk w r).2.2 (nwk w r).2.1.isSome (csV (nwk w r).1++[cU (nwk w r).2.1])) n (cnL B (w.reverse++p0) r q (csV w)):=by
 have HC:=cI H
 have hs:=sizeLine_eq
 have hfit:an (DM 0):=by unfold an;decide
 intro r
 induction r with
 | nil=>
  intro w q hw _
  have hl:=h8 hw
  have HF:=ab H HC {tb:=adL []} 20
  refine⟨1,Wh.turn0 (TT.ev HF (AV w hw B _ _ q d) hfit) (SS.ev HF (Dk w hw B _ q d) ⟨bQ w,by(exact kV (by assumption) (by decide)),by show w.length≤sizeLine;(exact kV (by assumption) (by decide))⟩) (.inl rfl) ?_⟩
  exact Wh.stop (TT.ev HF (AT w hw B _ _ false d) hfit)
 | cons c r ih=>
  intro w q hw hr
  have hl:=h8 hw
  have HF:=ab H HC {tb:=adL []} 20
  have t1:=TT.ev HF (AV w hw B (w.reverse++p0) (c::r) q d) hfit
  have b1:=SS.ev HF (Dl w hw B (w.reverse++p0) r q c d) ⟨bQ w,by(exact kV (by assumption) (by decide)),by show w.length≤sizeLine;(exact kV (by assumption) (by decide))⟩
  have hk:=Au (P:=cx.P) (.inr hw) (hr c (wj ..))
  refine rK (nwk.c ..) ?_
  induction hq:isW (w++[c])with
  | true=>
   refine o11 (ih (w++[c]) true (dw.mp hq) fun x hx=>hr x (DJ _ hx)) fun n W=>?_
   replace W:=(Fv ..)▸W
   dsimp only at b1
   replace b1:=(hZ ..)▸b1
   exact⟨n+1,Wh.turn0 t1 b1 (.inl rfl) W⟩
  | false=>
   have HF2:=ab H HC {tb:=adL [(252,23,76,false)]} 20
   replace hk:=(hq ..)▸hk
   show∃n,Wh cx (cnE cx.P (d+8)) (sA (cnW cx.P)) (bL (cnW cx.P)) .next (cnL B (c::(w.reverse++p0)) r true (csV w++[.str [c]])) n (cnL B (w.reverse++p0) (c::r) q (csV w))
   have t2:=TT.ev HF (AU w hw B (c::(w.reverse++p0)) r true c d) hfit
   have hl2:(w++[c]).length≤sizeLine:=by
    refine rK (pm ..) ?_;show w.length+1≤sizeLine;exact DY (by assumption) (by decide)
   have b2:=SS.ev HF2 (Dj w hw B (c::(w.reverse++p0)) r true c d) ⟨bQ (w++[c]),hl2,hk⟩
   dsimp only at t1 b1 t2 b2
   have w2:=Wh.brk (t:=sA (cnW cx.P)) t2 b2
   exact⟨0+1,Wh.turn0 t1 b1 (.inl rfl) w2⟩
set_option maxHeartbeats 4000000 in
theorem uB(H:Ok1 cx mg mb sa ns)(B:ao)(p0:List Nat)(d:Nat)(c:Nat)(r:List Nat)(hc:c∈alpha)(hr: ∀c∈r,c∈alpha):
  ∃n,Wh cx (cnE cx.P (d+8)) (sA (cnW cx.P)) (bL (cnW cx.P)) .next (cnL B (cq (nwk [] (c::r)).2.1++((nwk [] (c::r)).1.reverse++p0)) (nwk [] (c::r)).2.2 (nwk [] (c::r)).2.1.isSome (csV (nwk [] (c::r)).1++[cU (nwk [] (c::r)).2.1])) n (cnL B (c::p0) r true [.str [c]]):=by
 have HC:=cI H
 have hs:=sizeLine_eq
 have hfit:an (DM 0):=by unfold an;decide
 have HF:=ab H HC {tb:=adL []} 20
 have hk:=Au (P:=cx.P) (w:=[]) (.inl rfl) hc
 rw[nwk.c]
 rw[ES]at hk ⊢
 induction hq:isW [c]with
 | true=>exact wY H B p0 d r [c] true (dw.mp hq) hr
 | false=>
  have HF2:=ab H HC {tb:=adL [(252,23,76,false)]} 20
  rw[hq]at hk
  show∃n,Wh cx (cnE cx.P (d+8)) (sA (cnW cx.P)) (bL (cnW cx.P)) .next (cnL B (c::p0) r true [.str [c]]) n (cnL B (c::p0) r true [.str [c]])
  exact⟨0,Wh.brk (TT.ev HF (Dm B _ _ true c d) hfit) (SS.ev HF2 (AW B _ _ true c d) ⟨rfl,by show 1≤sizeLine;(exact DO _),hk⟩)⟩
end
noncomputable def hdP:List ExceptHandler→Expr×List Stmt×Pos
 | []=>default
 | .ExceptHandler t _ b p::_=>(t.getD default,b,p)
noncomputable def gp (s:Stmt):Expr×List Stmt×Pos:=hdP (stP s).2.2.2.2
noncomputable abbrev Di (e:Expr):Nat:=exM e
noncomputable abbrev cnT (P:Params):Stmt:=az (cnN P) 1
noncomputable abbrev cnI (P:Params):Stmt:=az (cnN P) 2
noncomputable abbrev cnC (out:List Nat) (x:List (Str×V)):List (Str×V):=("self",.ref 1)::("allowedChar",.none)::("fromAttribute",.bool false)::("output",.str out)::("charStack",.ref 15)::x
noncomputable abbrev gf (B:ao) (p r:List Nat) (q:Bool) (w:List Nat) (l:Option Nat) (x:List (Str×V)):Hp:=bA B p r q []++[.fr (cnB x),.list (csV w++[cU l]),.list (csV w)]
noncomputable def ba:List (List Nat×List Nat×List Nat):=[([97,109,112],[97,109,112],[38]),([97,109,112,59],[97,109,112,59],[38]),([108,116],[108,116],[60]),([108,116,59],[108,116,59],[60]),([110,111,116],[110,111,116],[172]),([110,111,116,59],[110,111,116,59],[172]),([110,111,116,105],[110,111,116],[172]),([110,111,116,105,110],[110,111,116],[172]),([110,111,116,105,110,59],[110,111,116,105,110,59],[8713]),([110,111,116,110],[110,111,116],[172]),([110,111,116,110,105],[110,111,116],[172]),([110,111,116,110,105,59],[110,111,116,110,105,59],[8716])]
noncomputable def bI:List (List Nat):=[[],[97],[97,109],[97,110],[108],[110],[110,111],[112],[112,97],[116],[116,105],[116,105,109]]
noncomputable def semi (nm:List Nat):Bool:=DI (nm.getLastD 0) 59
noncomputable def yf:List Nat:=[110,97,109,101,100,45,101,110,116,105,116,121,45,119,105,116,104,111,117,116,45,115,101,109,105,99,111,108,111,110]
noncomputable def yg:List Nat:=[101,120,112,101,99,116,101,100,45,110,97,109,101,100,45,101,110,116,105,116,121]
structure Tk where
 ty:Nat
 s:List Nat
 ext:Option Nat
noncomputable def dsQ:Nat→List Tk→List V
 | _,[]=>[]
 | n,⟨_,_,none⟩::r=> .ref n::dsQ (n+1) r
 | n,⟨_,_,some _⟩::r=> .ref n::dsQ (n+2) r
noncomputable def dsA:Nat→List Tk→Hp
 | _,[]=>[]
 | n,⟨ty,s,none⟩::r=> .dict [("type",.int (dV ty)),("data",.str s)]::dsA (n+1) r
 | n,⟨ty,s,some i⟩::r=> .dict [("type",.int (dV ty)),("data",.str s),("datavars",.ref (n+1))]::.dict [("charAsInt",.int (dV i))]::dsA (n+2) r
noncomputable def outF (x:List Nat×List Nat×List Nat):List Nat:=x.2.2++x.1.drop x.2.1.length
noncomputable def g9 (x:List Nat×List Nat×List Nat):List Tk:=match semi x.2.1 with
 | true=>[⟨1,outF x,none⟩]
 | false=>[⟨7,yf,none⟩,⟨1,outF x,none⟩]
noncomputable def ya (w:List Nat):List Tk:=[⟨7,yg,none⟩,⟨1,38::w,none⟩]
noncomputable abbrev nmF (x:List Nat×List Nat×List Nat):List (Str×V):=[("entityName",.str x.2.1),("entityLength",.int (dV x.2.1.length))]
noncomputable def ccO (l:Option Nat):List Prop:=match l with
 | some c=>[c=c]
 | none=>[]
noncomputable def vU (x:List Nat×List Nat×List Nat) (l:Option Nat):List Prop:=[an (DM 0),1≤x.2.1.length]++((match semi x.2.1 with | true=>[] | false=>[0≤sizeLine])++([an (DM 0),1≤x.2.1.length,x.1.length+1≤sizeLine]++(ccO l++
 [x.1.length≤sizeLine,some (ay (csV (x.1.drop x.2.1.length)))=some ((x.1.drop x.2.1.length).map fun y=>[y]),(x.1.drop x.2.1.length).length≤sizeLine,1+(x.1.drop x.2.1.length).length≤sizeLine])))
noncomputable def za (B:ao) (p r:List Nat) (x:List Nat×List Nat×List Nat):Hp:=match semi x.2.1 with
 | true=>bA B p r false []++[.fr (cnC (outF x) (nmF x)),.list (csV x.1),.list (csV x.1),.list (csV (x.1.drop x.2.1.length))]
 | false=>bA B p r false [.ref 17]++[.fr (cnC (outF x) (nmF x)),.list (csV x.1),.list (csV x.1),.dict [("type",.int (dV 7)),("data",.str yf)],.list (csV (x.1.drop x.2.1.length))]
noncomputable def ksF (x:List Nat×List Nat×List Nat):List Nat:=[0,1,2,3,4,5,6,7,8,9,10,11,12,13]++(match semi x.2.1 with | true=>[18] | false=>[17,19])
noncomputable def yo (x:List Nat×List Nat×List Nat):List Prop:=[(match semi x.2.1 with | true=>0 | false=>1)≤sizeLine]
noncomputable abbrev ct (B:ao) (p r:List Nat) (q:Bool) (tk:List Tk):Hp:=bA B p r q (dsQ 14 tk)++dsA 14 tk
noncomputable abbrev c0 (P:Params):Stmt:=az (bL (cnT P)) 0
noncomputable abbrev c1t (P:Params):Stmt:=az (bL (cnT P)) 1
noncomputable abbrev h0 (P:Params):Stmt:=az (gp (cnT P)).2.1 0
section
variable{cx:Cx}{mg mb:Str→Option Value}{sa:Addr}{ns:List Int}
theorem A5(P:Params):cnT P=.Try (.Assign [sB (c0 P)] (.Call (.Attribute (qA (qA (sA (c0 P)))) (exN (qA (sA (c0 P)))) (qA (sA (c0 P))).pos) (qL (sA (c0 P))) [] (sA (c0 P)).pos) (c0 P).pos::[c1t P]) [.ExceptHandler (some (.Name (exN (gp (cnT P)).1) (gp (cnT P)).1.pos)) none [.Assign [.Name (exN (sB (h0 P))) (sB (h0 P)).pos] (.Constant .none (Di (sA (h0 P))) (sA (h0 P)).pos) (h0 P).pos] (gp (cnT P)).2.2] [] [] (cnT P).pos:=by kernel_rfl
theorem A3: ∀x∈ba,∀(B:ao) (p r:List Nat) (q:Bool) (d:Nat),(cnV cx sa ns []).ss (cnE cx.P (d+8)) (bL (cnT cx.P)) (cnL B p r q (csV x.1++[cU none]))=some ⟨.next,gf B p r q x.1 none (nmF x),[x.1.length+1≤sizeLine,some (ay (csV x.1))=some (x.1.map fun y=>[y]),x.1.length≤sizeLine,x.2.1.length≤sizeLine]⟩:=iW (by kernel_rfl)
theorem A4: ∀x∈ba,∀(B:ao) (p r:List Nat) (q:Bool) (c:Nat) (d:Nat),(cnV cx sa ns []).ss (cnE cx.P (d+8)) (bL (cnT cx.P)) (cnL B p r q (csV x.1++[cU (some c)]))=some ⟨.next,gf B p r q x.1 (some c) (nmF x),[x.1.length+1≤sizeLine,some (ay (csV x.1))=some (x.1.map fun y=>[y]),x.1.length≤sizeLine,x.2.1.length≤sizeLine]⟩:=kq (by kernel_rfl)
theorem Dv: ∀x∈ba,∀(B:ao) (p r:List Nat) (q:Bool) (l:Option Nat) (d:Nat),(cnV cx sa ns []).ss (cnE cx.P (d+8)) (bL (cnT cx.P)) (cnL B p r q (csV x.1++[cU l]))=some ⟨.next,gf B p r q x.1 l (nmF x),[x.1.length+1≤sizeLine,some (ay (csV x.1))=some (x.1.map fun y=>[y]),x.1.length≤sizeLine,x.2.1.length≤sizeLine]⟩:=fun x hw B p r q l d=>by
 induction l with
 | none=>exact A3 x hw B p r q d
 | some c=>exact A4 x hw B p r q c d
theorem A2: ∀x∈ba,∀(B:ao) (p r:List Nat) (c d:Nat),(cnV cx sa ns []).ss (cnE cx.P (d+8)) [cnI cx.P] (gf B (c::p) r true x.1 (some c) (nmF x))=some ⟨.next,za B p (c::r) x,vU x (some c)⟩:=iW (by kernel_rfl)
theorem A1: ∀x∈ba,∀(B:ao) (p:List Nat) (d:Nat),(cnV cx sa ns []).ss (cnE cx.P (d+8)) [cnI cx.P] (gf B p [] false x.1 none (nmF x))=some ⟨.next,za B p [] x,vU x none⟩:=xJ (by kernel_rfl)
theorem Du: ∀x∈ba,∀(B:ao) (p r:List Nat) (d:Nat),cutF 14 [11] (ksF x) ((cnV cx sa ns []).ss (cnE cx.P (d+8)) [cnS cx.P 3] (za B p r x))=some ⟨.next,ct B p r false (g9 x),yo x⟩:=pH (by kernel_rfl)
noncomputable abbrev w0 (B:ao) (p r:List Nat) (q:Bool) (w:List Nat) (l:Option Nat) (m:List (Str×V)):Hp:=gf B p r q w l [("entityName",.none)]++[.fr m]
noncomputable abbrev y9 (B:ao) (p r:List Nat) (w:List Nat) (m:List (Str×V)):Hp:=bA B p r false [.ref 18]++[.fr (cnC (38::w) [("entityName",.none)]),.list (csV w),.list (csV w),.fr m,.dict [("type",.int (dV 7)),("data",.str yg)]]
noncomputable def vT (w:List Nat) (l:Option Nat):List Prop:=[0≤sizeLine,w.length+1≤sizeLine]++(ccO l++[some (ay (csV w))=some (w.map fun y=>[y]),w.length≤sizeLine,1+w.length≤sizeLine])
noncomputable def t8:List Nat:=[14,13,12,0]
theorem AZ: ∀w∈bI,∀(B:ao) (p r:List Nat) (q:Bool) (d:Nat),exs (cnV cx sa ns []) (cnE cx.P (d+8)) (qL (sA (c0 cx.P))) (cnL B p r q (csV w++[cU none]))=some ⟨[.str w],gf B p r q w none [],[w.length+1≤sizeLine,some (ay (csV w))=some (w.map fun y=>[y]),w.length≤sizeLine]⟩:=iW (by kernel_rfl)
theorem A0: ∀w∈bI,∀(B:ao) (p r:List Nat) (q:Bool) (c:Nat) (d:Nat),exs (cnV cx sa ns []) (cnE cx.P (d+8)) (qL (sA (c0 cx.P))) (cnL B p r q (csV w++[cU (some c)]))=some ⟨[.str w],gf B p r q w (some c) [],[w.length+1≤sizeLine,some (ay (csV w))=some (w.map fun y=>[y]),w.length≤sizeLine]⟩:=kq (by kernel_rfl)
theorem Dt: ∀w∈bI,∀(B:ao) (p r:List Nat) (q:Bool) (l:Option Nat) (d:Nat),exs (cnV cx sa ns []) (cnE cx.P (d+8)) (qL (sA (c0 cx.P))) (cnL B p r q (csV w++[cU l]))=some ⟨[.str w],gf B p r q w l [],[w.length+1≤sizeLine,some (ay (csV w))=some (w.map fun y=>[y]),w.length≤sizeLine]⟩:=fun w hw B p r q l d=>by
 induction l with
 | none=>exact AZ w hw B p r q d
 | some c=>exact A0 w hw B p r q c d
theorem Ds(cs:List V)(B:ao)(p r:List Nat)(q:Bool)(d:Nat):(cnV cx sa ns []).ex (cnE cx.P (d+8)) (qA (qA (sA (c0 cx.P)))) (cnL B p r q cs)=some ⟨.old 236,cnL B p r q cs,[]⟩:=by kernel_rfl
theorem Dr(cs:List V)(B:ao)(p r:List Nat)(q:Bool):meth (T1 sa ns) (.old 236) (exN (qA (sA (c0 cx.P)))) (cnL B p r q cs)=some ⟨(.old 227,[.old 236]),cnL B p r q cs,[]⟩:=by kernel_rfl
theorem Dq(P:Params):kC (.Call (.Attribute (qA (qA (sA (c0 P)))) (exN (qA (sA (c0 P)))) (qA (sA (c0 P))).pos) (qL (sA (c0 P))) [] (sA (c0 P)).pos)=false∧gM (sB (c0 P)) (.Call (.Attribute (qA (qA (sA (c0 P)))) (exN (qA (sA (c0 P)))) (qA (sA (c0 P))).pos) (qL (sA (c0 P))) [] (sA (c0 P)).pos)=false∧
 aQ (qA (qA (sA (c0 P))))=true∧EH (qL (sA (c0 P))).length 20=true∧DI (qA (sA (c0 P))).pos.endLine (sA (c0 P)).pos.line=true∧calleeOk (T1 sa ns) (.old 227)=true:=⟨by kernel_rfl,by kernel_rfl,by kernel_rfl,by kernel_rfl,by kernel_rfl,by kernel_rfl⟩
theorem yZ(P:Params):(cnF P).scope.names.lookup (exN (gp (cnT P)).1)=some .globalImplicit∧(T1 sa ns).glob.lookup (exN (gp (cnT P)).1)=some (.ty .keyError)∧((exN (gp (cnT P)).1)==("__debug__":Str))=false:=⟨by kernel_rfl,by kernel_rfl,by kernel_rfl⟩
theorem Dp(w:List Nat)(l:Option Nat)(B:ao)(p r:List Nat)(q:Bool)(d:Nat)(m:List (Str×V)):st (cnE cx.P (d+8)) (exN (sB (h0 cx.P))) .none (gf B p r q w l []++[.fr m])=some ⟨(),w0 B p r q w l m,[]⟩:=by kernel_rfl
theorem Do(P:Params): ∀w∈bI,lpK P w=none:=each (by kernel_rfl)
theorem AY: ∀w∈bI,∀(B:ao) (p r:List Nat) (c d:Nat) (m:List (Str×V)),(cnV cx sa ns []).ss (cnE cx.P (d+8)) [cnI cx.P] (w0 B (c::p) r true w (some c) m)=some ⟨.next,y9 B p (c::r) w m,vT w (some c)⟩:=kq (by kernel_rfl)
theorem AX: ∀w∈bI,∀(B:ao) (p:List Nat) (d:Nat) (m:List (Str×V)),(cnV cx sa ns []).ss (cnE cx.P (d+8)) [cnI cx.P] (w0 B p [] false w none m)=some ⟨.next,y9 B p [] w m,vT w none⟩:=pH (by kernel_rfl)
theorem Dn: ∀w∈bI,∀(B:ao) (p r:List Nat) (d:Nat) (m:List (Str×V)),cutF 14 [11] [0,1,2,3,4,5,6,7,8,9,10,11,12,13,18,19] ((cnV cx sa ns []).ss (cnE cx.P (d+8)) [cnS cx.P 3] (y9 B p r w m))=some ⟨.next,ct B p r false (ya w),[1≤sizeLine]⟩:=iW (by kernel_rfl)
theorem hU: ∀(r w:List Nat),w=[]∨w∈aT→(nwk w r).1=[]∨(nwk w r).1∈aT
 | [],w,h=>h
 | c::r,w,h=>by
  refine rK (nwk.c ..) ?_
  induction q:isW (w++[c])with
  | true=>exact hU r _ (.inr (dw.mp q))
  | false=>exact h
theorem iy: ∀(r w:List Nat),(nwk w r).2.1=none→(nwk w r).2.2=[]
 | [],w,_=>rfl
 | c::r,w,h=>by
  rw[nwk.c]at h ⊢
  induction q:isW (w++[c])with
  | true=>replace h:=(q ..)▸h;exact iy r _ h
  | false=>replace h:=(q ..)▸h;cases h
theorem k8: ∀(r w:List Nat),(nwk w r).1++(cq (nwk w r).2.1++(nwk w r).2.2)=w++r
 | [],w=>by show w++([]++[])=_;simp
 | c::r,w=>by
  refine rK (nwk.c ..) ?_
  induction q:isW (w++[c])with
  | true=>refine rK (k8 r (w++[c]) ..) ?_;simp
  | false=>rfl
noncomputable def tkW (w:List Nat):List Tk:=match ba.find? (fun x=>am x.1 w)with
 | some x=>g9 x
 | none=>ya w
theorem qd:(([]::aT).all fun w=>(ba.find? fun x=>am x.1 w).isSome || bI.any fun v=>am v w)=true:=by kernel_rfl
theorem dM{w:List Nat}(h:w=[]∨w∈aT):(∃x∈ba,x.1=w∧tkW w=g9 x)∨(w∈bI∧tkW w=ya w):=by
 have h1:=DL.mp qd w (h.elim (fun e=>e▸wj ..) fun e=>DJ _ e)
 induction q:ba.find? (fun x=>am x.1 w)with
 | some x=>exact .inl ⟨x,List.mem_of_find?_eq_some q,aM.mp (List.find?_some (p:=fun x:List Nat×List Nat×List Nat=>am x.1 w) q),by unfold tkW;exact rK (q ..) rfl⟩
 | none=>
  replace h1:=(q ..)▸h1
  have h1:(bI.any fun v=>am v w)=true:=h1
  refine o12 (List.any_eq_true.mp h1) fun v h2 h3=>?_
  exact .inr ⟨(aM.mp h3)▸h2,by unfold tkW;exact rK (q ..) rfl⟩
theorem fg: ∀x∈ba,x.1.length≤6∧1≤x.2.1.length∧x.2.1.length≤6:=by
 have h:(ba.all fun x=>Ex x.1.length 6&&Ex 1 x.2.1.length&&Ex x.2.1.length 6)=true:=by kernel_rfl
 intro x hx
 have:=DL.mp h x hx
 simp only[E5,Ef]at this
 exact⟨this.1.1,this.1.2,this.2⟩
theorem fc: ∀w∈bI,w.length≤6:=by
 have h:(bI.all fun w=>Ex w.length 6)=true:=by kernel_rfl
 exact fun w hw=>Ef.mp (DL.mp h w hw)
theorem tX(g0:Nat→Prop): ∀g:List (List Nat×List Nat),dI g0 (aS g)
 | []=>trivial
 | x::g=>⟨⟨trivial,trivial,trivial⟩,tX g0 g⟩
theorem lu(u:Nat→Nat): ∀g:List (List Nat×List Nat),dK u (aS g)=aS g
 | []=>rfl
 | x::g=>congrArg (V.tup [.str x.1,.str x.2]:: ·) (lu u g)
theorem dg(g:List (List Nat×List Nat)):nx (.list (aS g)):=⟨fun g0=>tX g0 g,fun u=>congrArg AO.list (lu u g)⟩
theorem uh{k:Nat}(h:aB k [11]=true):k=11:=by
 replace h:=(aB.c ..)▸h
 induction q:DI 11 k with
 | true=>exact(DK q).symm
 | false=>replace h:=(q ..)▸h;cases h
theorem gu{n:Nat}(hn:11<n)(B:ao)(st:Addr)(p r:List Nat)(q:Bool)(qs:List V)(l:Hp):jg [11] n (bN B st p r q qs++l):=fun k he=>by
 refine rK (uh he ..) ?_
 exact⟨hn,_,rfl,dg B.g⟩
noncomputable abbrev cnM (P:Params):Stmt:=az (bM (cnS P 2)) 0
theorem wZ(P:Params):(cnF P).body=[cnS P 0,cnS P 1]++[.If (sA (cnS P 2)) (bL (cnS P 2)) [.If (sA (cnM P)) (bL (cnM P)) [.While (sA (cnW P)) (bL (cnW P)) [] (cnW P).pos,cnT P,cnI P] (cnM P).pos] (cnS P 2).pos,cnS P 3]:=by kernel_rfl
theorem y7(P:Params):cnT P=.Try (bL (cnT P)) [.ExceptHandler (some (gp (cnT P)).1) none (gp (cnT P)).2.1 (gp (cnT P)).2.2] [] [] (cnT P).pos:=by kernel_rfl
theorem wW(H:Ok1 cx mg mb sa ns){x:List Nat×List Nat×List Nat}(hx:x∈ba)(B:ao)(p r:List Nat)(q:Bool)(l:Option Nat)(d:Nat):
  S1 cx (cnE cx.P (d+8)) (cnT cx.P) (cnL B p r q (csV x.1++[cU l])) .next (gf B p r q x.1 l (nmF x)):=by
 have HF:=ab H (cI H) {tb:=adL []} 20
 have hs:=sizeLine_eq
 refine o03 (fg x hx) fun a1 a2 a3=>?_
 refine rK (y7 ..) ?_
 exact S1.tryOk (SS.ev HF (Dv x hx B p r q l d) ⟨by(exact DY (by assumption) (by decide)),bQ _,by(exact kV (by assumption) (by decide)),by show x.2.1.length≤sizeLine;(exact kV (by assumption) (by decide))⟩) SS.nil
theorem yC(H:Ok1 cx mg mb sa ns){a:Nat→AO}{σ:Hp}(e:da a=σ)(hnt:allB AO.noT σ=true){k:List Nat}(hk:k.length≤1000)(hq:lpK cx.P k=none){frs:List Nat}(hfr:ew σ frs)(d:Nat): ∃x',ew (lpL σ k x') (17::frs)∧ ∀{A:Around} {ρ:Ids} {s:Shared} {xs:List Value} {env:Env} {le:List Env},aj A (d+3)→aZ A env le frs σ.length ρ→
  Sat cx σ ρ s.heap→VRs σ.length ρ s.heap [.old 236,.str k] xs→RCk cx (17::frs) A σ ρ s (.ref 227) xs (lpL σ k x'):=by
 subst e
 exact An H hnt hk hq hfr d
theorem y8(B:ao)(p r:List Nat)(q:Bool)(w:List Nat)(l:Option Nat):da (fun i=>(gf B p r q w l []).getD i (.fr []))=gf B p r q w l []:=by kernel_rfl
set_option maxHeartbeats 4000000 in
theorem wV(H:Ok1 cx mg mb sa ns){w:List Nat}(hw:w∈bI)(B:ao)(p r:List Nat)(q:Bool)(l:Option Nat)(d:Nat):
  ∃m,S1k cx (cnE cx.P (d+8)) t8 (cnT cx.P) (cnL B p r q (csV w++[cU l])) .next (w0 B p r q w l m):=by
 have HF:=ab H (cI H) {tb:=adL []} 20
 have hs:=sizeLine_eq
 have hl:=fc w hw
 have hfr:ew (gf B p r q w l []) t8:=by
  intro i hi
  have hi:i∈[14,13,12,0]:=hi
  simp only[D1,EO,or_false]at hi
  rcases hi with rfl | rfl | rfl | rfl<;>exact⟨_,rfl⟩
 refine o12 (yC H (y8 B p r q w l) rfl (k:=w) (by exact kV (by assumption) (by decide)) (Do _ w hw) hfr (d+5)) fun x' hf2 hrc=>?_
 refine⟨("self",.old 236)::("prefix",.str w)::x',?_⟩
 refine rK (A5 ..) ?_
 refine o06 (Dq (sa:=sa) (ns:=ns) cx.P) fun g1 g2 g3 g4 g5 g6=>?_
 have rx:=RXk.meth (as:=qL (sA (c0 cx.P))) (pos:=(sA (c0 cx.P)).pos) (ap:=(qA (sA (c0 cx.P))).pos) H HF g3 g4 g5 (Ds (csV w++[cU l]) B p r q d) trivial (Dr (cx:=cx) (csV w++[cU l]) B p r q) trivial (by kernel_rfl) (Dt w hw B p r q l d) ⟨by(exact DY (by assumption) (by decide)),bQ _,by show w.length≤sizeLine;(exact kV (by assumption) (by decide))⟩ g6 rfl hrc
 exact S1k.tryKey H (fun i hi=>DJ _ hi) (yZ (sa:=sa) (ns:=ns) _).1 (yZ (sa:=sa) (ns:=ns) _).2.1 (yZ (sa:=sa) (ns:=ns) _).2.2 (RRk.assign g1 g2 rx) hf2 (Dp w l B p r q d _)
theorem cG: ∀{l m:List Prop},cw l→cw m→cw (l++m)
 | [],_,_,h=>h
 | [p],m,h1,h2=>by
  induction m with
  | nil=>exact h1
  | cons _ _=>exact⟨h1,h2⟩
 | p::q::l,m,h1,h2=>⟨h1.1,cG (l:=q::l) h1.2 h2⟩
theorem uK(l:Option Nat):cw (ccO l):=by induction l<;>first | trivial | exact rfl
theorem oW{x:List Nat×List Nat×List Nat}(hx:x∈ba)(l:Option Nat):cw (vU x l):=by
 have hs:=sizeLine_eq
 refine o03 (fg x hx) fun a1 a2 a3=>?_
 have hfit:an (DM 0):=by unfold an;decide
 have hd:(x.1.drop x.2.1.length).length≤6:=by refine rK (D3 ..) ?_;exact kV (FY ..) (by assumption)
 unfold vU
 refine cG ⟨hfit,a2⟩ (cG ?_ (cG (l:=[_,_,_]) ⟨hfit,a2,by show x.1.length+1≤sizeLine;(exact DY (by assumption) (by decide))⟩ (cG (uK l) ⟨by show x.1.length≤sizeLine;(exact kV (by assumption) (by decide)),bQ _,by show(x.1.drop x.2.1.length).length≤sizeLine;(exact kV (by assumption) (by decide)),by show 1+(x.1.drop x.2.1.length).length≤sizeLine;(exact kV (EG (by assumption) _) (by decide))⟩)))
 induction semi x.2.1
 ·exact DU _
 ·trivial
theorem vS(x:List Nat×List Nat×List Nat):cw (yo x):=by
 have hs:=sizeLine_eq
 unfold yo
 induction semi x.2.1
 ·show 1≤sizeLine;lia
 ·exact DU _
theorem oV{w:List Nat}(hw:w∈bI)(l:Option Nat):cw (vT w l):=by
 have hs:=sizeLine_eq
 have:=fc w hw
 unfold vT
 exact cG (l:=[_,_]) ⟨DU _,by show w.length+1≤sizeLine;(exact DY (by assumption) (by decide))⟩ (cG (uK l) ⟨bQ _,by show w.length≤sizeLine;(exact kV (by assumption) (by decide)),by show 1+w.length≤sizeLine;(exact kV (EG (by assumption) _) (by decide))⟩)
set_option maxHeartbeats 4000000 in
theorem wX(H:Ok1 cx mg mb sa ns)(B:ao)(p r:List Nat)(l:Option Nat)(hl:l=none→r=[])(d:Nat){w:List Nat}(hw:w=[]∨w∈aT):
  ∃σ0 σ1 sel rr,SSk cx (cnE cx.P (d+8)) t8 [cnT cx.P,cnI cx.P] (cnL B (cq l++p) r l.isSome (csV w++[cU l])) .next σ0∧SS cx (cnE cx.P (d+8)) [cnS cx.P 3] σ0 .next σ1∧aK 14 σ1 sel rr (ct B p (cq l++r) false (tkW w)):=by
 have HF:=ab H (cI H) {tb:=adL []} 20
 have hs:=sizeLine_eq
 rcases dM hw with⟨x,hx,rfl,ht⟩ | ⟨hn,ht⟩<;>refine rK (ht ..) ?_
 ·have t:=wW H hx B (cq l++p) r l.isSome l d
  obtain⟨σ1,z1,z2⟩:=SS.cutF HF (Du x hx B p (cq l++r) d) (gu (by decide:11<14) B 311 p (cq l++r) false _ _) (vS x)
  induction l with
  | none=>
   cases hl rfl
   exact⟨_,σ1,_,_,SSk.cons t.k (SS.ev HF (A1 x hx B p d) (oW hx none)).k,z1,z2⟩
  | some c=>exact⟨_,σ1,_,_,SSk.cons t.k (SS.ev HF (A2 x hx B p r c d) (oW hx (some c))).k,z1,z2⟩
 ·obtain⟨m,t⟩:=wV H hn B (cq l++p) r l.isSome l d
  obtain⟨σ1,z1,z2⟩:=SS.cutF HF (Dn w hn B p (cq l++r) d m) (gu (by decide:11<14) B 311 p (cq l++r) false _ _) (show 1≤sizeLine by exact DO _)
  induction l with
  | none=>
   cases hl rfl
   exact⟨_,σ1,_,_,SSk.cons t (SS.ev HF (AX w hn B p d m) (oV hn none)).k,z1,z2⟩
  | some c=>exact⟨_,σ1,_,_,SSk.cons t (SS.ev HF (AY w hn B p r c d m) (oV hn (some c))).k,z1,z2⟩
set_option maxHeartbeats 4000000 in
theorem uA(H:Ok1 cx mg mb sa ns)(B:ao)(p r:List Nat)(q:Bool)(c d:Nat)(hc:c∈alpha)(hr: ∀c∈r,c∈alpha)(hb:aq c [9,10,12,32,13]=false)(ha:aq c [60,38]=false)(hh:am [c] [35]=false):
  ∃σ1 sel rr,SSk cx (cnE cx.P (d+8)) t8 (cnF cx.P).body (bA B p (c::r) q []++[.fr cnA]) .next σ1∧
   aK 14 σ1 sel rr (ct B ((nwk [] (c::r)).1.reverse++p) (cq (nwk [] (c::r)).2.1++(nwk [] (c::r)).2.2) false (tkW (nwk [] (c::r)).1)):=by
 have HC:=cI H
 have HF:=ab H HC {tb:=adL []} 20
 have HF2:=ab H HC {tb:=adL [(235,11,42,false),(235,46,77,false)]} 20
 have HF3:=ab H HC {tb:=adL [(237,13,32,false)]} 20
 have hfit:an (dV 0):=by unfold an;decide
 refine o11 (uB H B p d c r hc hr) fun n W=>?_
 refine o43 (wX H B ((nwk [] (c::r)).1.reverse++p) (nwk [] (c::r)).2.2 (nwk [] (c::r)).2.1 (iy (c::r) []) d (hU (c::r) [] (.inl rfl))) fun σ0 σ1 sel rr z1 z2 z3=>?_
 refine⟨σ1,sel,rr,?_,z3⟩
 refine rK (wZ ..) ?_
 refine SSk.append (SS.ev HF (Dy B p r q c d) trivial).k (SSk.cons (S1k.iteF (TT.ev HF2 (Dx B (c::p) r true c d) ⟨hfit,hb,hfit,ha⟩) (SSk.cons (S1k.iteF (TT.ev HF3 (Dw B (c::p) r true c d) ⟨hfit,hh⟩) (SSk.cons (S1.k (a9 W)) z1)) SS.nil.k)) z2.k)
noncomputable abbrev nuF (P:Params):Fn:=fnN 275
noncomputable abbrev nuE (P:Params) (d:Nat):EE:=⟨10,[],(nuF P).scope,d⟩
noncomputable abbrev nuS (P:Params) (i:Nat):Stmt:=az (nuF P).body i
noncomputable abbrev tkN:List (Str×V):=[("stream",.ref 2),("parser",.none),("escapeFlag",.bool false),("lastFourChars",.ref 8),("state",.meth 311 0),("escape",.bool false),("currentToken",.none),("tokenQueue",.ref 9)]
noncomputable abbrev NL (p r:List Nat) (q:Bool) (qs:List V):Hp:=[.inst 762 1,.dict tkN,.inst 166 3,.strm 148 p r q [2,6,4,7],.inst 73 5,.src,.list [.int (dV 0)],.list [],.list [],.list qs]
noncomputable def alV:Bool→V
 | true=> .old 37
 | false=> .old 32
noncomputable def lsD:Bool→List Nat
 | true=>[48,49,50,51,52,53,54,55,56,57,97,98,99,100,101,102,65,66,67,68,69,70]
 | false=>[48,49,50,51,52,53,54,55,56,57]
noncomputable def cX:Bool→Nat
 | true=>16
 | false=>10
noncomputable abbrev nuM (b:Bool) (c:V) (x:List (Str×V)):List (Str×V):=("self",.ref 0)::("isHex",.bool b)::("allowed",alV b)::("radix",.int (dV (cX b)))::("charStack",.ref 11)::("c",c)::x
noncomputable abbrev nuL (b:Bool) (p r:List Nat) (q:Bool) (c:V) (ds:List Nat) (x:List (Str×V)) (qs:List V) (tl:Hp):Hp:=NL p r q qs++(.fr (nuM b c x)::.list (csV ds)::tl)
noncomputable abbrev yq:List (Addr×bx):=[tCh,tUn]
noncomputable abbrev nuV (cx:Cx) (sa:Addr) (ns:List Int) (l:List (Nat×Nat×Nat×Bool)):Ev:=evN (T1 sa ns) (mkO cx (clT yq) {tb:=adL l}) 20
theorem nu0(b:Bool)(p r:List Nat)(q:Bool)(c d:Nat):(nuV cx sa ns []).ss (nuE cx.P (d+6)) ((nuF cx.P).body.take 5) (NL p (c::r) q []++[.fr [("self",.ref 0),("isHex",.bool b)]])=some ⟨.next,nuL b (c::p) r true (.str [c]) [] [] [] [],[]⟩:=by induction b<;>kernel_rfl
theorem zX(b:Bool)(p r:List Nat)(q:Bool)(c d:Nat)(ds:List Nat):(nuV cx sa ns [(209,14,26,true)]).tst (nuE cx.P (d+6)) (sA (nuS cx.P 5)) (nuL b p r q (.str [c]) ds [] [] [])=some ⟨true,nuL b p r q (.str [c]) ds [] [] [],[aq c (lsD b)=true]⟩:=by induction b<;>kernel_rfl
theorem zW(b:Bool)(p r:List Nat)(q:Bool)(c d:Nat)(ds:List Nat):(nuV cx sa ns [(209,14,26,false)]).tst (nuE cx.P (d+6)) (sA (nuS cx.P 5)) (nuL b p r q (.str [c]) ds [] [] [])=some ⟨false,nuL b p r q (.str [c]) ds [] [] [],[aq c (lsD b)=false]⟩:=by induction b<;>kernel_rfl
theorem Cc(b:Bool)(p r:List Nat)(q:Bool)(d:Nat)(ds:List Nat):(nuV cx sa ns []).tst (nuE cx.P (d+6)) (sA (nuS cx.P 5)) (nuL b p r q .none ds [] [] [])=some ⟨false,nuL b p r q .none ds [] [] [],[]⟩:=by induction b<;>kernel_rfl
theorem Cm(b:Bool)(p r:List Nat)(q:Bool)(c c' d:Nat)(ds:List Nat):(nuV cx sa ns []).ss (nuE cx.P (d+6)) (bL (nuS cx.P 5)) (nuL b p (c'::r) q (.str [c]) ds [] [] [])=some ⟨.next,NL (c'::p) r true []++[.fr (nuM b (.str [c']) []),.list (csV ds++[.str [c]])],[(csV ds).length≤sizeLine]⟩:=by induction b<;>kernel_rfl
theorem Ck(b:Bool)(p:List Nat)(q:Bool)(c d:Nat)(ds:List Nat):(nuV cx sa ns []).ss (nuE cx.P (d+6)) (bL (nuS cx.P 5)) (nuL b p [] q (.str [c]) ds [] [] [])=some ⟨.next,NL p [] false []++[.fr (nuM b .none []),.list (csV ds++[.str [c]])],[(csV ds).length≤sizeLine]⟩:=by induction b<;>kernel_rfl
theorem nu1(b:Bool)(p r:List Nat)(q:Bool)(c:V)(d:Nat)(ds:List Nat):(nuV cx sa ns []).ss (nuE cx.P (d+6)) [nuS cx.P 6] (nuL b p r q c ds [] [] [])=some ⟨.next,nuL b p r q c ds [("charAsInt",.int (dV (aH (cX b) 0 (bD [] (ay (csV ds))))))] [] [],
 [strsOf (csV ds)=some (ay (csV ds)),eO (ay (csV ds))+(ay (csV ds)).length*0≤sizeLine,cX b=10∨cX b=16,bD [] (ay (csV ds))≠[],∀c∈bD [] (ay (csV ds)),bz (cX b) c=true,(bD [] (ay (csV ds))).length≤640]⟩:=by induction b<;>kernel_rfl
noncomputable def zC:List Nat:=[105,108,108,101,103,97,108,45,99,111,100,101,112,111,105,110,116,45,102,111,114,45,110,117,109,101,114,105,99,45,101,110,116,105,116,121]
noncomputable def zB:List Nat:=[110,117,109,101,114,105,99,45,101,110,116,105,116,121,45,119,105,116,104,111,117,116,45,115,101,109,105,99,111,108,111,110]
noncomputable def nG:List (Nat×Nat):=[(0,65533),(13,13),(128,8364),(129,129),(130,8218),(131,402),(132,8222),(133,8230),(134,8224),(135,8225),(136,710),(137,8240),(138,352),(139,8249),(140,338),(141,141),(142,381),(143,143),(144,144),(145,8216),(146,8217),(147,8220),(148,8221),(149,8226),(150,8211),(151,8212),(152,732),(153,8482),(154,353),(155,8250),(156,339),(157,157),(158,382),(159,376)]
noncomputable def jw:List Nat:=[11,65534,65535,131070,131071,196606,196607,262142,262143,327678,327679,393214,393215,458750,458751,524286,524287,589822,589823,655358,655359,720894,720895,786430,786431,851966,851967,917502,917503,983038,983039,1048574,1048575,1114110,1114111]
noncomputable def mc (P:Params) (v:Nat):Option V:=k46.lookup (dV v)
noncomputable def gj (v:Nat):List Nat→Bool
 | []=>false
 | x::xs=>decide (dV x=dV v) || gj v xs
theorem gj.c{v x:Nat}{xs:List Nat}:gj v (x::xs)=(decide (dV x=dV v) || gj v xs):=rfl
noncomputable def bE (ill:Bool) (v:Nat):List Tk:=match ill with
 | true=>[⟨7,zC,some v⟩]
 | false=>[]
noncomputable def jL:Bool→List Tk
 | true=>[]
 | false=>[⟨7,zB,none⟩]
noncomputable abbrev nuI (b:Bool) (p r:List Nat) (q:Bool) (c:V) (ds:List Nat) (v:Nat):Hp:=nuL b p r q c ds [("charAsInt",.int (dV v))] [] []
noncomputable abbrev nuC (b:Bool) (p r:List Nat) (q:Bool) (c:V) (ds:List Nat) (v sg:Nat) (tk:List Tk):Hp:=nuL b p r q c ds [("charAsInt",.int (dV v)),("char",.str [sg])] (dsQ 12 tk) (dsA 12 tk)
noncomputable abbrev nuJ (b:Bool) (p r:List Nat) (q:Bool) (c:V) (ds:List Nat) (v:Nat) (tk:List Tk):Hp:=nuL b p r q c ds [("charAsInt",.int (dV v))] (dsQ 12 tk) (dsA 12 tk)
noncomputable abbrev nJ (P:Params):Stmt:=az (bM (nuS P 7)) 0
noncomputable abbrev nK (P:Params):Stmt:=az (bM (nJ P)) 0
noncomputable abbrev nT (P:Params):Stmt:=az (bM (nJ P)) 1
noncomputable def xvQ (a b c:Nat) (v:V) (p:Pos):Option (Hp→Option (V×Hp)):=match DI p.line a,DI p.col b,DI p.endCol c with
 | true,true,true=>some fun σ=>some (v,σ)
 | _,_,_=>none
noncomputable abbrev nuX (cx:Cx) (sa:Addr) (ns:List Int) (sg:Nat):Ev:=evN (T1 sa ns) (mkO cx (clT yq) {tb:=adL [],xv:=xvQ 214 19 51 (.str [sg])}) 20
theorem yk(P:Params):k46=nG.map fun x=>(dV x.1,V.str [x.2]):=by kernel_rfl
theorem nuf(P:Params):nuS P 7=.If (sA (nuS P 7)) (bL (nuS P 7)) [.If (sA (nJ P)) (bL (nJ P)) (.If (sA (nK P)) (bL (nK P)) [] (nK P).pos::[nT P]) (nJ P).pos] (nuS P 7).pos:=by kernel_rfl
theorem B8(P:Params):nT P=.Try (bL (nT P)) [.ExceptHandler (some (gp (nT P)).1) none (gp (nT P)).2.1 (gp (nT P)).2.2] [] [] (nT P).pos:=by kernel_rfl
theorem zV(b:Bool)(p r:List Nat)(q:Bool)(c:V)(ds:List Nat)(v d:Nat)(z:Bool):(nuV cx sa ns [(213,11,45,z)]).tst (nuE cx.P (d+6)) (sA (nuS cx.P 7)) (nuI b p r q c ds v)=some ⟨z,nuI b p r q c ds v,[(mc cx.P v).isSome=z]⟩:=by induction b<;>induction z<;>kernel_rfl
theorem Cb(b:Bool)(p r:List Nat)(q:Bool)(c:V)(ds:List Nat)(v d:Nat):(nuV cx sa ns []).ex (nuE cx.P (d+6)) (sA (az (bL (nuS cx.P 7)) 0)) (nuI b p r q c ds v)=bnd (ret (V.old 46)) (fun a=>bnd (ret (V.int (dV v))) fun i σ=>alt (ofO (mc cx.P v) σ) none) (nuI b p r q c ds v):=by induction b<;>kernel_rfl
theorem nuA(b:Bool)(p r:List Nat)(q:Bool)(c:V)(ds:List Nat)(v d:Nat)(sg:Nat):(nuX cx sa ns sg).ss (nuE cx.P (d+6)) (bL (nuS cx.P 7)) (nuI b p r q c ds v)=some ⟨.next,nuC b p r q c ds v sg (bE true v),[XX cx (nuE cx.P (d+6)) (sA (az (bL (nuS cx.P 7)) 0)) (nuI b p r q c ds v) (.str [sg]) (nuI b p r q c ds v),0≤sizeLine]⟩:=by induction b<;>kernel_rfl
theorem zU(b:Bool)(p r:List Nat)(q:Bool)(c:V)(ds:List Nat)(v d:Nat):(nuV cx sa ns [(216,22,31,true),(216,13,40,true)]).tst (nuE cx.P (d+6)) (sA (nJ cx.P)) (nuI b p r q c ds v)=some ⟨true,(nuI b p r q c ds v),[decide (dV 55296≤dV v)=true,decide (dV v≤dV 57343)=true]⟩:=by induction b<;>kernel_rfl
theorem xz(b:Bool)(p r:List Nat)(q:Bool)(c:V)(ds:List Nat)(v d:Nat)(z:Bool):(nuV cx sa ns [(216,22,31,true),(216,13,40,false),(216,44,63,z)]).tst (nuE cx.P (d+6)) (sA (nJ cx.P)) (nuI b p r q c ds v)=some ⟨z,(nuI b p r q c ds v),[decide (dV 55296≤dV v)=true,decide (dV v≤dV 57343)=false,decide (dV 1114111<dV v)=z]⟩:=by induction b<;>induction z<;>kernel_rfl
theorem zT(b:Bool)(p r:List Nat)(q:Bool)(c:V)(ds:List Nat)(v d:Nat):(nuV cx sa ns [(216,22,31,false),(216,44,63,false)]).tst (nuE cx.P (d+6)) (sA (nJ cx.P)) (nuI b p r q c ds v)=some ⟨false,(nuI b p r q c ds v),[decide (dV 55296≤dV v)=false,decide (dV 1114111<dV v)=false]⟩:=by induction b<;>kernel_rfl
theorem Cj(b:Bool)(p r:List Nat)(q:Bool)(c:V)(ds:List Nat)(v d:Nat):(nuV cx sa ns []).ss (nuE cx.P (d+6)) (bL (nJ cx.P)) (nuI b p r q c ds v)=some ⟨.next,nuC b p r q c ds v 65533 (bE true v),[0≤sizeLine]⟩:=by induction b<;>kernel_rfl
theorem Cg(b:Bool)(p r:List Nat)(q:Bool)(c:V)(ds:List Nat)(v d:Nat)(z:Bool):(nuV cx sa ns [(220,20,29,true),(220,15,34,false),(220,44,53,true),(220,38,59,false),(220,70,79,true),(220,63,86,false),(220,100,109,false),(220,124,415,z)]).tst (nuE cx.P (d+6)) (sA (nK cx.P)) (nuI b p r q c ds v)=some ⟨z,(nuI b p r q c ds v),[decide (dV 1≤dV v)=true,decide (dV v≤dV 8)=false,decide (dV 14≤dV v)=true,decide (dV v≤dV 31)=false,decide (dV 127≤dV v)=true,decide (dV v≤dV 159)=false,decide (dV 64976≤dV v)=false,gj v jw=z]⟩:=by induction b<;>induction z<;>kernel_rfl
theorem Cf(b:Bool)(p r:List Nat)(q:Bool)(c:V)(ds:List Nat)(v d:Nat):(nuV cx sa ns [(220,20,29,true),(220,15,34,false),(220,44,53,true),(220,38,59,false),(220,70,79,true),(220,63,86,false),(220,100,109,true),(220,91,118,true)]).tst (nuE cx.P (d+6)) (sA (nK cx.P)) (nuI b p r q c ds v)=some ⟨true,(nuI b p r q c ds v),[decide (dV 1≤dV v)=true,decide (dV v≤dV 8)=false,decide (dV 14≤dV v)=true,decide (dV v≤dV 31)=false,decide (dV 127≤dV v)=true,decide (dV v≤dV 159)=false,decide (dV 64976≤dV v)=true,decide (dV v≤dV 65007)=true]⟩:=by induction b<;>kernel_rfl
theorem Ce(b:Bool)(p r:List Nat)(q:Bool)(c:V)(ds:List Nat)(v d:Nat)(z:Bool):(nuV cx sa ns [(220,20,29,true),(220,15,34,false),(220,44,53,true),(220,38,59,false),(220,70,79,true),(220,63,86,false),(220,100,109,true),(220,91,118,false),(220,124,415,z)]).tst (nuE cx.P (d+6)) (sA (nK cx.P)) (nuI b p r q c ds v)=some ⟨z,(nuI b p r q c ds v),[decide (dV 1≤dV v)=true,decide (dV v≤dV 8)=false,decide (dV 14≤dV v)=true,decide (dV v≤dV 31)=false,decide (dV 127≤dV v)=true,decide (dV v≤dV 159)=false,decide (dV 64976≤dV v)=true,decide (dV v≤dV 65007)=false,gj v jw=z]⟩:=by induction b<;>induction z<;>kernel_rfl
theorem Ci(b:Bool)(p r:List Nat)(q:Bool)(c:V)(ds:List Nat)(v d:Nat):(nuV cx sa ns []).ss (nuE cx.P (d+6)) (bL (nK cx.P)) (nuI b p r q c ds v)=some ⟨.next,nuJ b p r q c ds v (bE true v),[0≤sizeLine]⟩:=by induction b<;>kernel_rfl
theorem Ch(b:Bool)(p r:List Nat)(q:Bool)(c:V)(ds:List Nat)(v d:Nat)(ill:Bool):(nuV cx sa ns []).ss (nuE cx.P (d+6)) (bL (nT cx.P)) (nuJ b p r q c ds v (bE ill v))=some ⟨.next,nuC b p r q c ds v v (bE ill v),[v<1114112]⟩:=by induction b<;>induction ill<;>kernel_rfl
noncomputable abbrev ksU:Bool→Bool→List Nat
 | false,true=>[0,1,2,3,4,5,6,7,8,9]
 | false,false=>[0,1,2,3,4,5,6,7,8,9,12]
 | true,true=>[0,1,2,3,4,5,6,7,8,9,12,13]
 | true,false=>[0,1,2,3,4,5,6,7,8,9,12,13,14]
noncomputable abbrev NT (p r:List Nat) (q:Bool) (tk:List Tk):Hp:=NL p r q (dsQ 10 tk)++dsA 10 tk
theorem Cq(b ill:Bool)(p r:List Nat)(ds:List Nat)(v sg d:Nat):cutF 10 [] (ksU ill true) ((nuV cx sa ns [(227,11,19,false)]).ss (nuE cx.P (d+6)) [nuS cx.P 8,nuS cx.P 9] (nuC b p r true (.str [59]) ds v sg (bE ill v)))=some ⟨.ret (.str [sg]),NT p r true (bE ill v++jL true),[false=false]⟩:=by induction b<;>induction ill<;>kernel_rfl
theorem Co(b ill:Bool)(p r:List Nat)(ds:List Nat)(v sg d:Nat)(x:Nat):cutF 10 [] (ksU ill false) ((nuV cx sa ns [(227,11,19,true)]).ss (nuE cx.P (d+6)) [nuS cx.P 8,nuS cx.P 9] (nuC b (x::p) r true (.str [x]) ds v sg (bE ill v)))=some ⟨.ret (.str [sg]),NT p (x::r) false (bE ill v++jL false),[(!am [x] [59])=true,(match ill with | true=>1 | false=>0)≤sizeLine,x=x]⟩:=by induction b<;>induction ill<;>kernel_rfl
theorem Cn(b ill:Bool)(p r:List Nat)(ds:List Nat)(v sg d:Nat):cutF 10 [] (ksU ill false) ((nuV cx sa ns []).ss (nuE cx.P (d+6)) [nuS cx.P 8,nuS cx.P 9] (nuC b p [] false .none ds v sg (bE ill v)))=some ⟨.ret (.str [sg]),NT p [] false (bE ill v++jL false),[(match ill with | true=>1 | false=>0)≤sizeLine]⟩:=by induction b<;>induction ill<;>kernel_rfl
end
noncomputable def ad (b:Bool):List Nat→List Nat×List Nat
 | []=>([],[])
 | c::r=>match aq c (lsD b)with
  | true=>(c::(ad b r).1,(ad b r).2)
  | false=>([],c::r)
theorem ad.c{b:Bool}{c:Nat}{r:List Nat}:ad b (c::r)=(match aq c (lsD b)with | true=>(c::(ad b r).1,(ad b r).2) | false=>([],c::r)):=rfl
theorem ad.t{b:Bool}{c:Nat}{r:List Nat}(h:aq c (lsD b)=true):(ad b (c::r)).1.length≠0:=by refine rK (ad.c ..) (rK (h ..) ?_);exact Gk _
theorem ad.f{b:Bool}{c:Nat}{r:List Nat}(h:aq c (lsD b)=false):(ad b (c::r)).1=[]:=by exact rK (ad.c ..) (rK (h ..) rfl)
noncomputable def fZ (v:Nat):Bool:=if(1≤v∧v≤8)∨(14≤v∧v≤31)∨(127≤v∧v≤159)∨(64976≤v∧v≤65007)then true else gj v jw
noncomputable def a8 (v:Nat):Bool×Nat:=match nG.lookup v with
 | some s=>(true,s)
 | none=>if(55296≤v∧v≤57343)∨1114111<v then(true,65533)else(fZ v,v)
structure gm(b:Bool)(p r:List Nat)(ill sem:Bool)(v sg:Nat)(p' r':List Nat):Prop where
 ne:(ad b r).1≠[]
 len:r.length≤600
 val:v=aH (cX b) 0 (ad b r).1
 e:a8 v=(ill,sg)
 semi:match sem with
  | true=>(ad b r).2=59::r'∧p'=59::((ad b r).1.reverse++p)
  | false=>(ad b r).2=r'∧(∀x,r'.head?=some x→x≠59)∧p'=(ad b r).1.reverse++p
noncomputable def mo (σ:Hp):List Nat×List Nat×Bool:=match(σ[3]?:Option AO)with
 | some (.strm _ p r q _)=>(p,r,q)
 | _=>([],[],false)
noncomputable def oY (ill sem:Bool) (v sg:Nat) (p' r':List Nat):List V→Hp→Option (Out V):=fnP [.k (.ref 0),.b] fun σs b=>some ⟨.str [sg],NT p' r' sem (bE ill v++jL sem),[σs=NL (mo σs).1 (mo σs).2.1 (mo σs).2.2 [],gm b (mo σs).1 (mo σs).2.1 ill sem v sg p' r']⟩
theorem dQ(b:Bool): ∀r:List Nat,(ad b r).1++(ad b r).2=r
 | []=>rfl
 | c::r=>by
  refine rK (ad.c ..) ?_
  induction q:aq c (lsD b)with
  | true=>exact congrArg (c:: ·) (dQ b r)
  | false=>rfl
theorem uY{b:Bool}{c:Nat}(h:aq c (lsD b)=true):bz (cX b) c=true:=by
 have key: ∀l:List Nat,aq c l=true→c∈l:=by
  intro l
  induction l with
  | nil=>intro h;cases h
  | cons x l ih=>
   intro h
   replace h:=(aq.c ..)▸h
   rcases Ei.mp h with h | h
   ·have:=aM.mp h
    cases this
    exact wj ..
   ·exact DJ _ (ih h)
 have h1:=key _ h
 have h2:((lsD b).all fun c=>bz (cX b) c)=true:=by induction b<;>kernel_rfl
 exact DL.mp h2 c h1
theorem fI(b:Bool): ∀r:List Nat,∀c∈(ad b r).1,bz (cX b) c=true
 | [],c,h=>by cases h
 | x::r,c,h=>by
  replace h:=(ad.c ..)▸h
  induction q:aq x (lsD b)with
  | true=>
   replace h:=(q ..)▸h
   rcases D1.mp h with rfl | h
   ·exact uY q
   ·exact fI b r c h
  | false=>replace h:=(q ..)▸h;cases h
theorem iF(v:Nat): ∀l:List (Nat×Nat),(l.map fun x=>(dV x.1,V.str [x.2])).lookup (dV v)=(l.lookup v).map fun s=>V.str [s]
 | []=>rfl
 | x::l=>by
  refine rK (Em ..) (rK (DW ..) (rK (DW ..) ?_))
  have e:(dV v==dV x.1)=(v==x.1):=by
   induction q:v==x.1 with
   | true=>refine rK (beq_iff_eq.mp q ..) ?_;exact beq_self_eq_true _
   | false=>
    have h1:v≠x.1:=by intro h;rw[h,beq_self_eq_true]at q;cases q
    have h2:dV v≠dV x.1:=fun h=>h1 (FX h)
    simpa using h2
  refine rK (e ..) ?_
  induction q:v==x.1 with
  | true=>rfl
  | false=>exact iF v l
theorem sL(P:Params)(v:Nat):mc P v=(nG.lookup v).map fun s=>V.str [s]:=by unfold mc;refine rK (yk P ..) ?_;exact iF v nG
theorem df: ∀w:List Nat,bD [] (ay (csV w))=w
 | []=>rfl
 | [c]=>rfl
 | c::d::w=>by
  have:=df (d::w)
  show [c]++([]++bD [] (ay (csV (d::w))))=_
  refine rK (this ..) ?_;rfl
theorem gr: ∀w:List Nat,strsOf (csV w)=some (ay (csV w))
 | []=>rfl
 | c::w=>by
  show((strsOf (csV w)).bind fun xs=>some ([c]::xs))=_
  refine rK (gr w ..) ?_;rfl
theorem ll: ∀w:List Nat,eO (ay (csV w))=w.length
 | []=>rfl
 | c::w=>by
  show 1+eO (ay (csV w))=_
  exact rK (ll w ..) (rK (D0 ..) (rK (EJ ..) rfl))
theorem lD(w:List Nat):(csV w).length=w.length:=by simp[csV]
section
variable{cx:Cx}{mg mb:Str→Option Value}{sa:Addr}{ns:List Int}
theorem dc(H:Ok1 cx mg mb sa ns):aa cx (clT yq):=aa.cons (Told.tells (dk H)) (aa.cons (Told.tells (fD H)) aa.nil)
noncomputable abbrev xA (b:Bool) (p ds rest:List Nat):Hp:=match rest with
 | []=>nuL b (ds.reverse++p) [] false .none ds [] [] []
 | x::r=>nuL b (x::(ds.reverse++p)) r true (.str [x]) ds [] [] []
theorem vW(H:Ok1 cx mg mb sa ns)(b:Bool)(p0:List Nat)(d:Nat): ∀(r acc:List Nat) (c:Nat),acc.length+r.length≤1000→
  ∃n,Wh cx (nuE cx.P (d+6)) (sA (nuS cx.P 5)) (bL (nuS cx.P 5)) .next (xA b p0 (acc++(ad b (c::r)).1) (ad b (c::r)).2) n (nuL b (c::(acc.reverse++p0)) r true (.str [c]) acc [] [] []):=by
 have HC:=dc H
 have hs:=sizeLine_eq
 have HF:=ab H HC {tb:=adL []} 20
 have HT:=ab H HC {tb:=adL [(209,14,26,true)]} 20
 intro r
 induction r with
 | nil=>
  intro acc c hl
  refine rK (ad.c ..) ?_
  induction q:aq c (lsD b)with
  | true=>
   have b1:=SS.ev HF (Ck b (c::(acc.reverse++p0)) true c d acc) (by show(csV acc).length≤sizeLine;refine rK (lD ..) ?_;(exact kV (by assumption) (by decide)))
   dsimp only at b1
   replace b1:=(hZ ..)▸b1
   have t2:=TT.ev HF (Cc b (c::(acc.reverse++p0)) [] false d (acc++[c])) trivial
   refine⟨1,Wh.turn0 (TT.ev HT (zX b _ _ true c d acc) q) b1 (.inl rfl) ?_⟩
   have:=Wh.stop (b:=bL (nuS cx.P 5)) t2
   show Wh cx _ _ _ .next (nuL b ((acc++[c]).reverse++p0) [] false .none (acc++[c]) [] [] []) 0 _
   refine rK (Fv ..) ?_
   exact this
  | false=>
   have HN:=ab H HC {tb:=adL [(209,14,26,false)]} 20
   refine⟨0,?_⟩
   have:=Wh.stop (b:=bL (nuS cx.P 5)) (TT.ev HN (zW b (c::(acc.reverse++p0)) [] true c d acc) q)
   show Wh cx _ _ _ .next (nuL b (c::((acc++[]).reverse++p0)) [] true (.str [c]) (acc++[]) [] [] []) 0 _
   refine rK (D2 ..) ?_
   exact this
 | cons c' r ih=>
  intro acc c hl
  replace hl:=(D0 ..)▸hl
  refine rK (ad.c ..) ?_
  induction q:aq c (lsD b)with
  | true=>
   have b1:=SS.ev HF (Cm b (c::(acc.reverse++p0)) r true c c' d acc) (by show(csV acc).length≤sizeLine;refine rK (lD ..) ?_;(exact kV (kV (D8 ..) (by assumption)) (by decide)))
   dsimp only at b1
   replace b1:=(hZ ..)▸b1
   obtain⟨n,W⟩:=ih (acc++[c]) c' (by refine rK (pm ..) ?_;show acc.length+1+r.length≤1000;lia)
   replace W:=(Fv ..)▸W
   refine⟨n+1,Wh.turn0 (TT.ev HT (zX b _ _ true c d acc) q) b1 (.inl rfl) ?_⟩
   replace W:=(DV acc [c] ..)▸W
   exact W
  | false=>
   have HN:=ab H HC {tb:=adL [(209,14,26,false)]} 20
   refine⟨0,?_⟩
   have:=Wh.stop (b:=bL (nuS cx.P 5)) (TT.ev HN (zW b (c::(acc.reverse++p0)) (c'::r) true c d acc) q)
   show Wh cx _ _ _ .next (nuL b (c::((acc++[]).reverse++p0)) (c'::r) true (.str [c]) (acc++[]) [] [] []) 0 _
   refine rK (D2 ..) ?_
   exact this
theorem fY{v:Nat}(h:160≤v):fZ v=if 64976≤v∧v≤65007 then true else gj v jw:=
 have no: ∀{k},k<160→ ¬v≤k:=fun a b=>absurd (kV h b) (FE.mpr a)
 ite_congr (propext ⟨fun q=>q.elim (fun q=>absurd q.2 (no (by decide))) fun q=>q.elim (fun q=>absurd q.2 (no (by decide))) fun q=>q.elim (fun q=>absurd q.2 (no (by decide))) id,fun q=> .inr (.inr (.inr q))⟩) (fun _=>rfl) fun _=>rfl
theorem Cd(b:Bool)(p r:List Nat)(q:Bool)(c:V)(ds:List Nat)(d:Nat): ∀v∈Gb 160,(nuV cx sa ns []).tst (nuE cx.P (d+6)) (sA (nK cx.P)) (nuI b p r q c ds v)=some ⟨fZ v,nuI b p r q c ds v,[]⟩:=each (by induction b<;>kernel_rfl)
theorem B9(H:Ok1 cx mg mb sa ns)(b:Bool)(p r:List Nat)(q:Bool)(c:V)(ds:List Nat)(v d:Nat):TT cx (nuE cx.P (d+6)) (sA (nK cx.P)) (nuI b p r q c ds v) (fZ v) (nuI b p r q c ds v):=by
 have HC:=dc H
 rcases Ez v 160 with h | h
 ·exact TT.ev (ab H HC {tb:=adL []} 20) (Cd b p r q c ds d v (FN.mpr h)) trivial
 have lo: ∀{k:Nat},k≤160→k≤v:=fun q=>kV q h
 refine rK (fY h ..) ?_
 rcases Ez v 64976 with h6 | h6
 ·refine rK (if_neg fun q=>absurd q.1 (FE.mpr h6) ..) ?_
  exact TT.ev (ab H HC {tb:=adL _} 20) (Cg b p r q c ds v d _) ⟨dle (lo (by decide)),cu (lo (by decide)),dle (lo (by decide)),cu (lo (by decide)),dle (lo (by decide)),cu h,cu h6,rfl⟩
 rcases Ez 65007 v with h7 | h7
 ·refine rK (if_neg fun q=>absurd q.2 (FE.mpr h7) ..) ?_
  exact TT.ev (ab H HC {tb:=adL _} 20) (Ce b p r q c ds v d _) ⟨dle (lo (by decide)),cu (lo (by decide)),dle (lo (by decide)),cu (lo (by decide)),dle (lo (by decide)),cu h,dle h6,cu h7,rfl⟩
 ·refine rK (if_pos ⟨h6,h7⟩ ..) ?_
  exact TT.ev (ab H HC {tb:=adL _} 20) (Cf b p r q c ds v d) ⟨dle (lo (by decide)),cu (lo (by decide)),dle (lo (by decide)),cu (lo (by decide)),dle (lo (by decide)),cu h,dle h6,dle h7⟩
theorem Ca(H:Ok1 cx mg mb sa ns)(b:Bool)(p r:List Nat)(q:Bool)(c:V)(ds:List Nat)(v d:Nat):S1 cx (nuE cx.P (d+6)) (nuS cx.P 7) (nuI b p r q c ds v) .next (nuC b p r q c ds v (a8 v).2 (bE (a8 v).1 v)):=by
 have HC:=dc H
 have HF:=ab H HC {tb:=adL []} 20
 refine rK (nuf ..) ?_
 have hr:=sL cx.P v
 unfold a8
 induction hl:nG.lookup v with
 | some s=>
  replace hr:=(hl ..)▸hr
  have hr:mc cx.P v=some (.str [s]):=hr
  have hx:XX cx (nuE cx.P (d+6)) (sA (az (bL (nuS cx.P 7)) 0)) (nuI b p r q c ds v) (.str [s]) (nuI b p r q c ds v):=by
   have e:=Cb (cx:=cx) (sa:=sa) (ns:=ns) b p r q c ds v d
   replace e:=(hr ..)▸e
   exact XX.ev (o:=⟨.str [s],nuI b p r q c ds v,[]⟩) HF e trivial
  exact S1.ite (q:=true) (TT.ev (ab H HC {tb:=adL _} 20) (zV b p r q c ds v d true) (by show(mc cx.P v).isSome=true;refine rK (hr ..) ?_;rfl)) (SS.ev (ab H HC {tb:=adL [],xv:=xvQ 214 19 51 (.str [s])} 20) (nuA b p r q c ds v d s) ⟨hx,DU _⟩)
 | none=>
  replace hr:=(hl ..)▸hr
  have hr:mc cx.P v=none:=hr
  have tA:=TT.ev (ab H HC {tb:=adL _} 20) (zV b p r q c ds v d false) (by show(mc cx.P v).isSome=false;refine rK (hr ..) ?_;rfl)
  refine S1.ite (q:=false) tA (SS.cons (σ1:=nuC b p r q c ds v _ _) ?_ SS.nil)
  show S1 cx _ _ _ .next (nuC b p r q c ds v (if(55296≤v∧v≤57343)∨1114111<v then(true,65533)else(fZ v,v)).2 (bE (if(55296≤v∧v≤57343)∨1114111<v then(true,65533)else(fZ v,v)).1 v))
  by_cases hb:(55296≤v∧v≤57343)∨1114111<v
  ·refine rK (if_pos hb ..) ?_
   have bB:=SS.ev HF (Cj b p r q c ds v d) (DU _)
   have lo:55296≤v:=hb.elim (·.1) fun h=>kV (by decide) (D6 h)
   by_cases h2:v≤57343
   ·exact S1.ite (q:=true) (TT.ev (ab H HC {tb:=adL _} 20) (zU b p r q c ds v d) ⟨dle lo,dle h2⟩) bB
   ·exact S1.ite (q:=true) (TT.ev (ab H HC {tb:=adL _} 20) (xz b p r q c ds v d true) ⟨dle lo,cu (Ft h2),m0 (hb.elim (fun h=>absurd h.2 h2) id)⟩) bB
  ·refine rK (if_neg hb ..) ?_
   have hi:v≤1114111:=D7 fun h=>hb (.inr h)
   have tB:TT cx (nuE cx.P (d+6)) (sA (nJ cx.P)) (nuI b p r q c ds v) false (nuI b p r q c ds v):=by
    by_cases h2:55296≤v
    ·exact TT.ev (ab H HC {tb:=adL _} 20) (xz b p r q c ds v d false) ⟨dle h2,cu (Ft fun h=>hb (.inl ⟨h2,h⟩)),eQ hi⟩
    ·exact TT.ev (ab H HC {tb:=adL _} 20) (zT b p r q c ds v d) ⟨cu (Ft h2),eQ hi⟩
   have tK:=B9 H b p r q c ds v d
   have sK:S1 cx (nuE cx.P (d+6)) (.If (sA (nK cx.P)) (bL (nK cx.P)) [] (nK cx.P).pos) (nuI b p r q c ds v) .next (nuJ b p r q c ds v (bE (fZ v) v)):=by
    induction hi:fZ v with
    | true=>replace tK:=(hi ..)▸tK;exact S1.ite tK (SS.ev HF (Ci b p r q c ds v d) (DU _))
    | false=>replace tK:=(hi ..)▸tK;exact S1.ite tK SS.nil
   have sT:S1 cx (nuE cx.P (d+6)) (nT cx.P) (nuJ b p r q c ds v (bE (fZ v) v)) .next (nuC b p r q c ds v v (bE (fZ v) v)):=by
    refine rK (B8 ..) ?_
    exact S1.tryOk (SS.ev HF (Ch b p r q c ds v d (fZ v)) (EL hi)) SS.nil
   exact S1.ite (q:=false) tB (SS.cons sK (SS.cons sT SS.nil))
theorem iq{n:Nat}{σ:Hp}:jg [] n σ:=fun k he=>by cases he
theorem nu6(P:Params):(nuF P).body=(nuF P).body.take 5++([.While (sA (nuS P 5)) (bL (nuS P 5)) [] (nuS P 5).pos]++([nuS P 6]++([nuS P 7]++[nuS P 8,nuS P 9]))):=by kernel_rfl
theorem yp(H:Ok1 cx mg mb sa ns)(b:Bool)(p r:List Nat)(q:Bool)(c:V)(ds:List Nat)(d:Nat)(h0:ds≠[])(hl:ds.length≤600)(hd: ∀x∈ds,bz (cX b) x=true){v sg:Nat}{ill:Bool}(hv:v=aH (cX b) 0 ds)(he:a8 v=(ill,sg)){l:List Stmt}{σ':Hp}{f:Fl}
  (h:SS cx (nuE cx.P (d+6)) l (nuC b p r q c ds v sg (bE ill v)) f σ'):
  SS cx (nuE cx.P (d+6)) ([nuS cx.P 6]++([nuS cx.P 7]++l)) (nuL b p r q c ds [] [] []) f σ':=by
 have HF:=ab H (dc H) {tb:=adL []} 20
 have hs:=sizeLine_eq
 have a1:=SS.ev HF (nu1 b p r q c d ds) ⟨gr ds,by refine rK (ll ..) (rK (GQ ..) ?_);(exact kV (by assumption) (by decide)),by induction b<;>decide,by refine rK (df ..) ?_;exact h0,by refine rK (df ..) ?_;exact hd,by show(bD [] (ay (csV ds))).length≤640;refine rK (df ..) ?_;(exact kV (by assumption) (by decide))⟩
 dsimp only at a1
 replace a1:=Eh (hv ..)▸((df ..)▸a1)
 have a2:=Ca H b p r q c ds v d
 replace a2:=(he ..)▸a2
 exact SS.append a1 (SS.append (SS.cons a2 SS.nil) h)
noncomputable def NuR (cx:Cx) (b:Bool) (p r:List Nat) (q:Bool) (d:Nat) (v:V) (σ':Hp):Prop:= ∃σ1 sel rr,SS cx (nuE cx.P (d+6)) (nuF cx.P).body (NL p r q []++[.fr [("self",.ref 0),("isHex",.bool b)]]) (.ret v) σ1∧aK 10 σ1 sel rr σ'
theorem wk{x y:Nat}(h:x≠y):am [x] [y]=false:=Gd.mpr fun q=>h (E6 (aM.mp q)).1
theorem vX(H:Ok1 cx mg mb sa ns){b:Bool}{p r:List Nat}{q ill sem:Bool}{v sg:Nat}{p' r':List Nat}(N:gm b p r ill sem v sg p' r')(d:Nat):NuR cx b p r q d (.str [sg]) (NT p' r' sem (bE ill v++jL sem)):=by
 have HC:=dc H
 obtain⟨ne,len,val,e,semi⟩:=N
 have hsp:=congrArg Ea (dQ b r)
 have hdg:=fI b r
 replace hsp:=(pm ..)▸hsp
 have hl:=kV (kV (D8 ..) (Eu hsp)) len
 cases r with
 | nil=>exact absurd rfl ne
 | cons c r=>
  obtain⟨n,W⟩:=vW H b p d r [] c (kV (Eu (Gq _)) (kV (Gh len) (by decide)))
  have hW:=a9 (pos:=(nuS cx.P 5).pos) W
  replace hW:=(ES ..)▸hW
  clear W hsp
  revert ne val semi hdg hl hW
  generalize (ad b (c::r)).1=ds
  generalize (ad b (c::r)).2=rest
  intro ne val semi hdg hl hW
  have go: ∀{p1 r1:List Nat} {q1:Bool} {c1:V} {l:List (Nat×Nat×Nat×Bool)} {ks:List Nat} {σ':Hp} {obs:List Prop},cutF 10 [] ks ((nuV cx sa ns l).ss (nuE cx.P (d+6)) [nuS cx.P 8,nuS cx.P 9] (nuC b p1 r1 q1 c1 ds v sg (bE ill v)))=some ⟨.ret (.str [sg]),σ',obs⟩→xA b p ds rest=nuL b p1 r1 q1 c1 ds [] [] []→cw obs→NuR cx b p (c::r) q d (.str [sg]) σ':=
   fun e2 e1 ob=>(SS.cutF (ab H HC {tb:=adL _} 20) e2 iq ob).imp fun σ1 z=>⟨_,_,by
    refine rK (nu6 ..) ?_
    exact SS.append (SS.ev (ab H HC {tb:=adL []} 20) (nu0 b p r q c d) trivial) (SS.append (SS.cons (e1▸hW) SS.nil) (yp H b _ _ _ _ ds d ne hl hdg val e z.1)),z.2⟩
  cases sem with
  | true=>
   obtain⟨rfl,rfl⟩:=semi
   exact go (Cq b ill (59::(ds.reverse++p)) r' ds v sg d) rfl rfl
  | false=>
   obtain⟨rfl,s2,rfl⟩:=semi
   cases rest with
   | nil=>exact go (Cn b ill (ds.reverse++p) r ds v sg d) rfl (by cases ill<;>exact El rfl)
   | cons x rest=>exact go (Co b ill (ds.reverse++p) rest ds v sg d x) rfl ⟨vY (wk (s2 x rfl)),by cases ill<;>exact El rfl,rfl⟩
theorem vV(H:Ok1 cx mg mb sa ns)(ill sem:Bool)(v sg:Nat)(p' r':List Nat):Told cx 275 7 (oY ill sem v sg p' r'):=by
 refine Told.fn fun σs b {A ρ s xs d} r S hv=>af fun ob=>?_
 refine o02 ob fun hσ N=>?_
 generalize (mo σs).1=p at hσ N
 generalize (mo σs).2.1=rr at hσ N
 generalize (mo σs).2.2=q at hσ N
 subst hσ
 refine o32 (vX H (q:=q) N d) fun σ1 sel rn w pf=>?_
 refine o21 (H.fns 275 (nuF cx.P) (by kernel_rfl)) fun obj fd kk=>?_
 have c:=aR (kws:=[]) (ks:=[]) (bs:=[("self",.ref 0),("isHex",.bool b)]) (o:=⟨nuE cx.P (d+6),NL p rr q []++[.fr [("self",.ref 0),("isHex",.bool b)]],[]⟩) H r kk S hv (rfl) (by kernel_rfl) (by kernel_rfl) rfl w
 exact ah.pick c pf trivial
noncomputable def Bz (args:List V) (_:Hp):Option (List Nat):=match args with
 | .ref 1::_=>some [1,2,3,4,5,6,7,8,9,10]
 | _=>none
noncomputable abbrev Bg (ill sem:Bool) (v sg:Nat) (p' r':List Nat):List (Addr×bx):=[tCh,tUn,(275,lift 7 Bz (oY ill sem v sg p' r'))]
noncomputable abbrev ceV (cx:Cx) (sa:Addr) (ns:List Int) (ill sem:Bool) (v sg:Nat) (p' r':List Nat) (l:List (Nat×Nat×Nat×Bool)):Ev:=evN (T1 sa ns) (mkO cx (clT (Bg ill sem v sg p' r')) {tb:=adL l}) 20
noncomputable abbrev caV (cx:Cx) (sa:Addr) (ns:List Int) (l:List (Nat×Nat×Nat×Bool)):Ev:=evN (T1 sa ns) (mkO cx (clT [tCh,tUn]) {tb:=adL l}) 20
noncomputable def cW (a:Nat):Nat→List Nat
 | 0=>[]
 | n+1=>a::cW (a+1) n
noncomputable def ksG (n:Nat):List Nat:=cW 0 14++cW 16 n
noncomputable def sG:List Nat:=[101,120,112,101,99,116,101,100,45,110,117,109,101,114,105,99,45,101,110,116,105,116,121]
noncomputable def xN:Bool→Nat
 | true=>120
 | false=>88
noncomputable def ib:List Tk:=[⟨1,[38],none⟩]
noncomputable def gL (w:List Nat):List Tk:=[⟨7,sG,none⟩,⟨1,38::w,none⟩]
noncomputable def Br:Bool→Nat
 | true=>2
 | false=>1
noncomputable def nTk (ill sem:Bool):Nat:=(match ill with | true=>2 | false=>0)+(match sem with | true=>0 | false=>1)+1
noncomputable def dO (ill sem z:Bool) (v sg:Nat):List Tk:=(bE ill v++jL sem)++[⟨Br z,[sg],none⟩]
noncomputable abbrev fA (B:ao) (p r:List Nat) (q:Bool):Hp:=bA B p r q []++[.fr cnA]
theorem caA(B:ao)(p r:List Nat)(q:Bool)(c d:Nat):cutF 14 [11] (ksG 1) ((caV cx sa ns [(235,11,42,true)]).ss (cnE cx.P (d+8)) (cnF cx.P).body (fA B p (c::r) q))=some ⟨.next,ct B p (c::r) false ib,[an (dV 0),aq c [9,10,12,32,13]=true,an (dV 0),c=c,0≤sizeLine]⟩:=by kernel_rfl
theorem caB(B:ao)(p r:List Nat)(q:Bool)(c d:Nat):cutF 14 [11] (ksG 1) ((caV cx sa ns [(235,11,42,false),(235,46,77,true)]).ss (cnE cx.P (d+8)) (cnF cx.P).body (fA B p (c::r) q))=some ⟨.next,ct B p (c::r) false ib,[an (dV 0),aq c [9,10,12,32,13]=false,an (dV 0),aq c [60,38]=true,an (dV 0),c=c,0≤sizeLine]⟩:=by kernel_rfl
theorem caN(B:ao)(p:List Nat)(q:Bool)(d:Nat):cutF 14 [11] (ksG 1) ((caV cx sa ns []).ss (cnE cx.P (d+8)) (cnF cx.P).body (fA B p [] q))=some ⟨.next,ct B p [] false ib,[an (dV 0),an (dV 0),an (dV 0),0≤sizeLine]⟩:=by kernel_rfl
theorem DE(B:ao)(p r:List Nat)(q:Bool)(c d:Nat):cutF 14 [11] (ksG 2) ((caV cx sa ns [(240,15,42,false),(243,66,89,false)]).ss (cnE cx.P (d+8)) (cnF cx.P).body (fA B p (35::c::r) q))=some ⟨.next,ct B (35::p) (c::r) false (gL [35]),[an (dV 0),an (dV 0),an (dV 0),1≤sizeLine,an (DM 0),aq c [120,88]=false,an (DM 0),aq c (lsD false)=false,0≤sizeLine,2≤sizeLine,c=c,some [[35]]=some [[35]],1≤sizeLine,2≤sizeLine,1≤sizeLine]⟩:=by kernel_rfl
theorem DD(B:ao)(p:List Nat)(q:Bool)(d:Nat):cutF 14 [11] (ksG 2) ((caV cx sa ns []).ss (cnE cx.P (d+8)) (cnF cx.P).body (fA B p [35] q))=some ⟨.next,ct B (35::p) [] false (gL [35]),[an (dV 0),an (dV 0),an (dV 0),1≤sizeLine,an (DM 0),an (DM 0),0≤sizeLine,2≤sizeLine,some [[35]]=some [[35]],1≤sizeLine,2≤sizeLine,1≤sizeLine]⟩:=by kernel_rfl
theorem DC(B:ao)(p r:List Nat)(q x:Bool)(c d:Nat):cutF 14 [11] (ksG 2) ((caV cx sa ns [(243,23,49,false)]).ss (cnE cx.P (d+8)) (cnF cx.P).body (fA B p (35::xN x::c::r) q))=some ⟨.next,ct B (xN x::35::p) (c::r) false (gL [35,xN x]),[an (dV 0),an (dV 0),an (dV 0),1≤sizeLine,an (DM 0),2≤sizeLine,an (DM 0),aq c (lsD true)=false,0≤sizeLine,3≤sizeLine,c=c,some [[35],[xN x]]=some [[35],[xN x]],2≤sizeLine,3≤sizeLine,1≤sizeLine]⟩:=by induction x<;>kernel_rfl
theorem DB(B:ao)(p:List Nat)(q x:Bool)(d:Nat):cutF 14 [11] (ksG 2) ((caV cx sa ns []).ss (cnE cx.P (d+8)) (cnF cx.P).body (fA B p [35,xN x] q))=some ⟨.next,ct B (xN x::35::p) [] false (gL [35,xN x]),[an (dV 0),an (dV 0),an (dV 0),1≤sizeLine,an (DM 0),2≤sizeLine,an (DM 0),0≤sizeLine,3≤sizeLine,some [[35],[xN x]]=some [[35],[xN x]],2≤sizeLine,3≤sizeLine,1≤sizeLine]⟩:=by induction x<;>kernel_rfl
theorem DA(B:ao)(p r p' r':List Nat)(q x ill sem z:Bool)(c v sg d:Nat):cutF 14 [11] (ksG (nTk ill sem)) ((ceV cx sa ns ill sem v sg p' r' [(243,23,49,true),(277,15,40,z)]).ss (cnE cx.P (d+8)) (cnF cx.P).body (fA B p (35::xN x::c::r) q))=some ⟨.next,ct B p' r' sem (dO ill sem z v sg),[an (dV 0),an (dV 0),an (dV 0),1≤sizeLine,an (DM 0),2≤sizeLine,an (DM 0),aq c (lsD true)=true,an (DM 0),c=c,NL (xN x::35::p) (c::r) false []=NL (xN x::35::p) (c::r) false [],gm true (xN x::35::p) (c::r) ill sem v sg p' r',aq sg [9,10,12,32,13]=z,(match ill with | true=>1 | false=>0)+(match sem with | true=>0 | false=>1)≤sizeLine]⟩:=by induction x<;>induction ill<;>induction sem<;>induction z<;>kernel_rfl
theorem Dz(B:ao)(p r p' r':List Nat)(q ill sem z:Bool)(c v sg d:Nat):cutF 14 [11] (ksG (nTk ill sem)) ((ceV cx sa ns ill sem v sg p' r' [(240,15,42,false),(243,66,89,true),(277,15,40,z)]).ss (cnE cx.P (d+8)) (cnF cx.P).body (fA B p (35::c::r) q))=some ⟨.next,ct B p' r' sem (dO ill sem z v sg),[an (dV 0),an (dV 0),an (dV 0),1≤sizeLine,an (DM 0),aq c [120,88]=false,an (DM 0),aq c (lsD false)=true,an (DM 0),c=c,NL (35::p) (c::r) false []=NL (35::p) (c::r) false [],gm false (35::p) (c::r) ill sem v sg p' r',aq sg [9,10,12,32,13]=z,(match ill with | true=>1 | false=>0)+(match sem with | true=>0 | false=>1)≤sizeLine]⟩:=by induction ill<;>induction sem<;>induction z<;>kernel_rfl
noncomputable abbrev lsB:List Nat:=[9,10,12,32,13]
noncomputable def bZ:List Nat→Option (List Nat)
 | []=>none
 | x::r=>match DI x 59 with
  | true=>some r
  | false=>none
noncomputable def dj (b:Bool) (pre r:List Nat):List Tk×List Nat×List Nat:=
 let v:=aH (cX b) 0 (ad b r).1
 match bZ (ad b r).2 with
 | some r'=>(dO (a8 v).1 true (aq (a8 v).2 lsB) v (a8 v).2,pre++((ad b r).1++[59]),r')
 | none=>(dO (a8 v).1 false (aq (a8 v).2 lsB) v (a8 v).2,pre++(ad b r).1,(ad b r).2)
noncomputable def iT (x:Nat) (r:List Nat):List Tk×List Nat×List Nat:=match r with
 | []=>(gL [35,x],[35,x],[])
 | c::r'=>match aq c (lsD true)with
  | true=>dj true [35,x] (c::r')
  | false=>(gL [35,x],[35,x],c::r')
noncomputable def ek (r:List Nat):List Tk×List Nat×List Nat:=match r with
 | []=>(gL [35],[35],[])
 | c::r'=>match aq c [120,88]with
  | true=>iT c r'
  | false=>match aq c (lsD false)with
   | true=>dj false [35] (c::r')
   | false=>(gL [35],[35],c::r')
noncomputable def jz (r:List Nat):List Tk×List Nat×List Nat:=(tkW (nwk [] r).1,(nwk [] r).1,cq (nwk [] r).2.1++(nwk [] r).2.2)
noncomputable def ent (r:List Nat):List Tk×List Nat×List Nat:=match r with
 | []=>(ib,[],[])
 | c::r'=>match aq c lsB || aq c [60,38]with
  | true=>(ib,[],c::r')
  | false=>match am [c] [35]with
   | true=>ek r'
   | false=>jz (c::r')
theorem cO(H:Ok1 cx mg mb sa ns):aa cx (clT [tCh,tUn]):=aa.cons (Told.tells (dk H)) (aa.cons (Told.tells (fD H)) aa.nil)
theorem nk(H:Ok1 cx mg mb sa ns)(ill sem:Bool)(v sg:Nat)(p' r':List Nat):aa cx (clT (Bg ill sem v sg p' r')):=aa.cons (Told.tells (dk H)) (aa.cons (Told.tells (fD H)) (aa.cons (Told.tells (vV H ill sem v sg p' r')) aa.nil))
noncomputable def CE (cx:Cx) (B:ao) (p r:List Nat) (q:Bool) (d:Nat) (x:List Tk×List Nat×List Nat):Prop:= ∃q' σ1 sel rr,SSk cx (cnE cx.P (d+8)) t8 (cnF cx.P).body (fA B p r q) .next σ1∧aK 14 σ1 sel rr (ct B (x.2.1.reverse++p) x.2.2 q' x.1)
theorem CE.run{B:ao}{p r:List Nat}{q q':Bool}{d:Nat}{tk:List Tk}{p' r':List Nat}{F:Ev}(HF:aw cx F){ks:List Nat}{obs:List Prop}{x:List Tk×List Nat×List Nat}(h:cutF 14 [11] ks (F.ss (cnE cx.P (d+8)) (cnF cx.P).body (fA B p r q))=some ⟨.next,ct B p' r' q' tk,obs⟩)(ob:cw obs)
  (e1:x.1=tk) (e2:x.2.1.reverse++p=p') (e3:x.2.2=r'):CE cx B p r q d x:=by
 subst e1 e2 e3
 refine o12 (SS.cutF HF h (gu (by decide:11<14) B 311 _ _ _ _ _) ob) fun σ1 z1 z2=>?_
 exact⟨q',σ1,_,_,z1.k,z2⟩
theorem iG{a b:Nat}(h:a≠b):am [a] [b]=false:=by
 induction q:am [a] [b]with
 | false=>rfl
 | true=>exact absurd (E6 (aM.mp q)).1 h
theorem zj{c:Nat}(h:aq c [120,88]=true): ∃x,c=xN x:=by
 replace h:=(aq.c ..)▸h
 rcases Ei.mp h with h | h
 ·have:=aM.mp h;cases this;exact⟨true,rfl⟩
 ·replace h:=(aq.c ..)▸h
  rcases Ei.mp h with h | h
  ·have:=aM.mp h;cases this;exact⟨false,rfl⟩
  ·cases h
theorem mY{b:Bool}{c:Nat}{r p:List Nat}(hc:aq c (lsD b)=true)(hl:(c::r).length≤600)(pre:List Nat): ∃sem p' r',gm b (pre.reverse++p) (c::r) (a8 (aH (cX b) 0 (ad b (c::r)).1)).1 sem (aH (cX b) 0 (ad b (c::r)).1) (a8 (aH (cX b) 0 (ad b (c::r)).1)).2 p' r'∧
  (dj b pre (c::r)).1=dO (a8 (aH (cX b) 0 (ad b (c::r)).1)).1 sem (aq (a8 (aH (cX b) 0 (ad b (c::r)).1)).2 lsB) (aH (cX b) 0 (ad b (c::r)).1) (a8 (aH (cX b) 0 (ad b (c::r)).1)).2∧(dj b pre (c::r)).2.1.reverse++p=p'∧(dj b pre (c::r)).2.2=r':=by
 have hne:(ad b (c::r)).1≠[]:=fun h=>ad.t hc (congrArg Ea h)
 induction hs:bZ (ad b (c::r)).2 with
 | some r'=>
  have hr:(ad b (c::r)).2=59::r':=by
   unfold bZ at hs
   induction h2:(ad b (c::r)).2 with
   | nil=>replace hs:=(h2 ..)▸hs;cases hs
   | cons x r2=>
    replace hs:=(h2 ..)▸hs
    dsimp only at hs
    induction hx:DI x 59 with
    | true=>replace hs:=(hx ..)▸hs;cases hs;exact rK (DK hx ..) rfl
    | false=>replace hs:=(hx ..)▸hs;cases hs
  refine⟨true,59::((ad b (c::r)).1.reverse++(pre.reverse++p)),r',⟨hne,hl,rfl,rfl,hr,rfl⟩,?_,?_,?_⟩<;>unfold dj<;>dsimp only<;>rw[hs]
  simp
 | none=>
  have hr: ∀x,(ad b (c::r)).2.head?=some x→x≠59:=by
   unfold bZ at hs
   intro x hx e
   subst e
   induction h2:(ad b (c::r)).2 with
   | nil=>rw[h2]at hx;cases hx
   | cons y r2=>
    rw[h2]at hx hs
    cases hx
    cases hs
  refine⟨false,(ad b (c::r)).1.reverse++(pre.reverse++p),(ad b (c::r)).2,⟨hne,hl,rfl,rfl,rfl,hr,rfl⟩,?_,?_,?_⟩<;>unfold dj<;>dsimp only<;>rw[hs]
  simp
set_option maxHeartbeats 1000000 in
theorem xe(H:Ok1 cx mg mb sa ns)(B:ao)(p:List Nat)(q:Bool)(d:Nat): ∀r:List Nat,(∀c∈r,c∈alpha)→r.length≤600→CE cx B p r q d (ent r):=by
 have hs:=sizeLine_eq
 have f0:an (dV 0):=by unfold an;decide
 have f1:an (DM 0):=by unfold an;decide
 have HC:=cO H
 intro r hr hl
 induction r with
 | nil=>exact CE.run (ab H HC {tb:=adL _} 20) (caN B p q d) ⟨f0,f0,f0,DU _⟩ rfl rfl rfl
 | cons c r=>
  unfold ent
  dsimp only
  induction hb:aq c lsB with
  | true=>exact CE.run (ab H HC {tb:=adL _} 20) (caA B p r q c d) ⟨f0,hb,f0,rfl,DU _⟩ rfl rfl rfl
  | false=>
  induction ha:aq c [60,38]with
  | true=>exact CE.run (ab H HC {tb:=adL _} 20) (caB B p r q c d) ⟨f0,hb,f0,ha,f0,rfl,DU _⟩ rfl rfl rfl
  | false=>
  induction hh:am [c] [35]with
  | false=>
   refine o32 (uA H B p r q c d (hr c (wj ..)) (fun x hx=>hr x (DJ _ hx)) hb ha hh) fun σ1 sel rr z1 z2=>?_
   exact⟨false,σ1,sel,rr,z1,z2⟩
  | true=>
   have:=aM.mp hh
   cases this
   show CE cx B p (35::r) q d (ek r)
   induction r with
   | nil=>exact CE.run (ab H HC {tb:=adL _} 20) (DD B p q d) ⟨f0,f0,f0,by(exact DO _),f1,f1,DU _,by(exact D5 ..),rfl,by(exact DO _),by(exact D5 ..),by show 1≤sizeLine;(exact DO _)⟩ rfl rfl rfl
   | cons c r=>
    replace hl:=(D0 ..)▸((D0 ..)▸hl)
    unfold ek
    dsimp only
    induction hx:aq c [120,88]with
    | true=>
     refine o11 (zj hx) fun x e1q=>?_;subst e1q
     show CE cx B p (35::xN x::r) q d (iT (xN x) r)
     induction r with
     | nil=>exact CE.run (ab H HC {tb:=adL _} 20) (DB B p q x d) ⟨f0,f0,f0,by(exact DO _),f1,by(exact D5 ..),f1,DU _,by(exact D5 ..),rfl,by(exact D5 ..),by(exact D5 ..),by show 1≤sizeLine;(exact DO _)⟩ rfl rfl rfl
     | cons c r=>
      replace hl:=(D0 ..)▸hl
      unfold iT
      dsimp only
      induction hd:aq c (lsD true)with
      | false=>exact CE.run (ab H HC {tb:=adL _} 20) (DC B p r q x c d) ⟨f0,f0,f0,by(exact DO _),f1,by(exact D5 ..),f1,hd,DU _,by(exact D5 ..),rfl,rfl,by(exact D5 ..),by(exact D5 ..),by show 1≤sizeLine;(exact DO _)⟩ rfl rfl rfl
      | true=>
       obtain⟨sem,p',r',N,e1,e2,e3⟩:=mY (p:=p) (r:=r) hd (by refine rK (D0 ..) ?_;lia) [35,xN x]
       exact CE.run (ab H (nk H _ _ _ _ _ _) {tb:=adL _} 20) (DA B p r p' r' q x _ sem _ c _ _ d) ⟨f0,f0,f0,by(exact DO _),f1,by(exact D5 ..),f1,hd,f1,rfl,rfl,N,rfl,by show _≤sizeLine;refine rK (hs ..) ?_;split<;>split<;>decide⟩ e1 e2 e3
    | false=>
     induction hd:aq c (lsD false)with
     | false=>exact CE.run (ab H HC {tb:=adL _} 20) (DE B p r q c d) ⟨f0,f0,f0,by(exact DO _),f1,hx,f1,hd,DU _,by(exact D5 ..),rfl,rfl,by(exact DO _),by(exact D5 ..),by show 1≤sizeLine;(exact DO _)⟩ rfl rfl rfl
     | true=>
      obtain⟨sem,p',r',N,e1,e2,e3⟩:=mY (p:=p) (r:=r) hd (by refine rK (D0 ..) ?_;(exact D6 (by assumption))) [35]
      exact CE.run (ab H (nk H _ _ _ _ _ _) {tb:=adL _} 20) (Dz B p r p' r' q _ sem _ c _ _ d) ⟨f0,f0,f0,by(exact DO _),f1,hx,f1,hd,f1,rfl,rfl,N,rfl,by show _≤sizeLine;refine rK (hs ..) ?_;split<;>split<;>decide⟩ e1 e2 e3
end
inductive Shape:List Tk→Prop
 | one (a:Nat) (s:List Nat):Shape [⟨a,s,none⟩]
 | two (a:Nat) (s:List Nat) (b:Nat) (t:List Nat):Shape [⟨a,s,none⟩,⟨b,t,none⟩]
 | ext1 (a:Nat) (s:List Nat) (i b:Nat) (t:List Nat):Shape [⟨a,s,some i⟩,⟨b,t,none⟩]
 | ext2 (a:Nat) (s:List Nat) (i b:Nat) (t:List Nat) (c:Nat) (u:List Nat):Shape [⟨a,s,some i⟩,⟨b,t,none⟩,⟨c,u,none⟩]
theorem qz(ill sem z:Bool)(v sg:Nat):Shape (dO ill sem z v sg):=by
 induction ill<;>induction sem
 ·exact .two _ _ _ _
 ·exact .one _ _
 ·exact .ext2 _ _ _ _ _ _ _
 ·exact .ext1 _ _ _ _ _
theorem oH(b:Bool)(pre r:List Nat):Shape (dj b pre r).1:=by
 unfold dj
 dsimp only
 induction bZ (ad b r).2<;>exact qz _ _ _ _ _
theorem vi(w:List Nat):Shape (tkW w):=by
 unfold tkW
 induction ba.find? (fun x=>am x.1 w)with
 | some x=>
  show Shape (g9 x)
  unfold g9
  induction semi x.2.1
  ·exact .two _ _ _ _
  ·exact .one _ _
 | none=>exact .two _ _ _ _
theorem c7(r:List Nat):Shape (ent r).1:=by
 unfold ent
 induction r with
 | nil=>exact .one _ _
 | cons c r=>
  dsimp only
  induction aq c lsB || aq c [60,38]with
  | true=>exact .one _ _
  | false=>
   dsimp only
   induction am [c] [35]with
   | false=>exact vi _
   | true=>
    dsimp only
    unfold ek
    induction r with
    | nil=>exact .two _ _ _ _
    | cons x r=>
     dsimp only
     induction aq x [120,88]with
     | true=>
      dsimp only
      unfold iT
      induction r with
      | nil=>exact .two _ _ _ _
      | cons c r=>
       dsimp only
       induction aq c (lsD true)with
       | true=>exact oH _ _ _
       | false=>exact .two _ _ _ _
     | false=>
      dsimp only
      induction aq x (lsD false)with
      | true=>exact oH _ _ _
      | false=>exact .two _ _ _ _
noncomputable abbrev edF (P:Params):Fn:=fnN 311
noncomputable abbrev edE (P:Params) (d:Nat):EE:=⟨13,[],(edF P).scope,d⟩
noncomputable abbrev edS (P:Params) (i:Nat):Stmt:=az (edF P).body i
noncomputable abbrev edX (P:Params):Expr:=sA (edS P 0)
noncomputable abbrev bm (B:ao) (st:Addr) (p r:List Nat) (q:Bool) (tk:List Tk):Hp:=bN B st p r q (dsQ 13 tk)++dsA 13 tk
section
variable{cx:Cx}{mg mb:Str→Option Value}{sa:Addr}{ns:List Int}
theorem wH(P:Params):(edF P).body=[.Expr (.Call (.Attribute (qA (qA (edX P))) (exN (qA (edX P))) (qA (edX P)).pos) [] [] (edX P).pos) (edS P 0).pos]++[edS P 1,edS P 2]:=by kernel_rfl
theorem ed1(B:ao)(p r:List Nat)(q:Bool)(d:Nat):(caV cx sa ns []).ex (edE cx.P (d+9)) (qA (qA (edX cx.P))) (bA B p r q [])=some ⟨.ref 1,bA B p r q [],[]⟩:=by kernel_rfl
theorem ed2(P:Params)(B:ao)(p r:List Nat)(q:Bool):meth (T1 sa ns) (.ref 1) (exN (qA (edX P))) (bA B p r q [])=some ⟨(.old 283,[.ref 1]),bA B p r q [],[]⟩:=by kernel_rfl
theorem ed3(P:Params):aQ (qA (qA (edX P)))=true∧DI (qA (edX P)).pos.endLine (edX P).pos.line=true∧calleeOk (T1 sa ns) (.old 283)=true:=⟨by kernel_rfl,by kernel_rfl,by kernel_rfl⟩
theorem ed4{tk:List Tk}(h:Shape tk)(B:ao)(p r:List Nat)(q:Bool)(d:Nat):cutF 13 [11] (cW 0 13++cW 14 (dsA 14 tk).length) ((caV cx sa ns []).ss (edE cx.P (d+9)) [edS cx.P 1,edS cx.P 2] (ct B p r q tk))=some ⟨.ret (.bool true),bm B 304 p r q tk,[]⟩:=by
 induction h<;>kernel_rfl
theorem Bf(P:Params):bw (cnF P).dfl [] (cnF P).pars [.ref 1]=some cnA:=by kernel_rfl
theorem Be(P:Params)(B:ao)(p r:List Nat)(q:Bool)(d:Nat):enter (cnF P) (d+8) cnA (bA B p r q [])=some ⟨cnE P (d+8),fA B p r q,[]⟩:=by kernel_rfl
theorem AF(P:Params):bw (edF P).dfl [] (edF P).pars [.ref 1]=some ([("self",.ref 1)]:List (Str×V)):=by kernel_rfl
theorem AE(P:Params)(B:ao)(p r:List Nat)(q:Bool)(d:Nat):enter (edF P) (d+9) [("self",.ref 1)] (bN B 311 p r q [])=some ⟨edE P (d+9),bA B p r q [],[]⟩:=by kernel_rfl
theorem xf(H:Ok1 cx mg mb sa ns)(B:ao)(p:List Nat)(q:Bool)(d:Nat)(r:List Nat)(hr: ∀c∈r,c∈alpha)(hl:r.length≤600): ∃q',∀{A:Around} {ρ:Ids} {s:Shared} {xs:List Value} {env:Env} {le:List Env},aj A (d+9)→aZ A env le [13,12,0] (bA B p r q []).length ρ→
  Sat cx (bA B p r q []) ρ s.heap→VRs (bA B p r q []).length ρ s.heap [.ref 1] xs→ah cx A (bA B p r q []) ρ s (.ref 283) xs [] (ct B ((ent r).2.1.reverse++p) (ent r).2.2 q' (ent r).1) .none:=by
 refine o42 (xe H B p q d r hr hl) fun q' σ1 sel rr w pf=>?_
 refine⟨q',fun{A ρ s xs env le} rm st S hv=>?_⟩
 refine o21 (H.fns 283 (cnF cx.P) (by kernel_rfl)) fun obj fd kk=>?_
 have c:=i7 (d:=d+8) (o:=⟨cnE cx.P (d+8),fA B p r q,[]⟩) H rm kk S st hv (Bf _) (Be _ B p r q d) rfl w (by show 14<15;decide)
 exact ah.pick c pf trivial
theorem wG(H:Ok1 cx mg mb sa ns)(B:ao)(p:List Nat)(q:Bool)(d:Nat)(r:List Nat)(hr: ∀c∈r,c∈alpha)(hl:r.length≤600): ∃q',∀{A:Around} {ρ:Ids} {s:Shared} {xs:List Value} {env:Env} {le:List Env},aj A (d+10)→aZ A env le [12,0] (bN B 311 p r q []).length ρ→
  Sat cx (bN B 311 p r q []) ρ s.heap→VRs (bN B 311 p r q []).length ρ s.heap [.ref 1] xs→ah cx A (bN B 311 p r q []) ρ s (.ref 311) xs [] (bm B 304 ((ent r).2.1.reverse++p) (ent r).2.2 q' (ent r).1) (.bool true):=by
 refine o11 (xf H B p q d r hr hl) fun q' hc=>?_
 have HF:=ab H (cO H) {tb:=adL []} 20
 refine o03 (ed3 (sa:=sa) (ns:=ns) cx.P) fun g1 g2 g3=>?_
 refine o12 (SS.cutF HF (ed4 (c7 r) B ((ent r).2.1.reverse++p) (ent r).2.2 q' d) (gu (by decide:11<13) B 304 _ _ _ _ _) trivial) fun σ1 z1 z2=>?_
 have w:SSk cx (edE cx.P (d+9)) [13,12,0] (edF cx.P).body (bA B p r q []) (.ret (.bool true)) σ1:=by
  refine rK (wH ..) ?_
  exact SSk.append (SSk.cons (S1k.callMeth H HF g1 rfl g2 (ed1 B p r q d) trivial (ed2 cx.P B p r q) trivial rfl (o5:=⟨[],bA B p r q [],[]⟩) rfl trivial g3 rfl hc) SS.nil.k) z1.k
 refine⟨q',fun{A ρ s xs env le} rm st S hv=>?_⟩
 refine o21 (H.fns 311 (edF cx.P) (by kernel_rfl)) fun obj fd kk=>?_
 have c:=i7 (d:=d+9) (o:=⟨edE cx.P (d+9),bA B p r q [],[]⟩) H rm kk S st hv (AF _) (AE _ B p r q d) rfl w (by show 13<14;decide)
 exact ah.pick c z2 trivial
noncomputable abbrev dsF (P:Params):Fn:=fnN 304
noncomputable abbrev dsE (P:Params) (d:Nat):EE:=⟨13,[],(dsF P).scope,d⟩
noncomputable def tCu:Addr×bx:=(156,lift 6 kQ pR)
noncomputable abbrev dsV (cx:Cx) (sa:Addr) (ns:List Int) (l:List (Nat×Nat×Nat×Bool)):Ev:=evN (T1 sa ns) (mkO cx (clT [tCh,tCu]) {tb:=adL l}) 20
noncomputable abbrev dsI (B:ao) (p r:List Nat) (q:Bool):Hp:=bN B 304 p r q []++[.fr [("self",.ref 1)]]
noncomputable def qD:List Nat:=[105,110,118,97,108,105,100,45,99,111,100,101,112,111,105,110,116]
theorem dsN(B:ao)(p:List Nat)(q:Bool)(d:Nat):cutF 13 [11] (cW 0 13) ((dsV cx sa ns []).ss (dsE cx.P (d+9)) (dsF cx.P).body (dsI B p [] q))=some ⟨.ret (.bool false),bm B 304 p [] false [],[]⟩:=by kernel_rfl
theorem Da(B:ao)(p r:List Nat)(q:Bool)(d:Nat):cutF 13 [11] (cW 0 13) ((dsV cx sa ns []).ss (dsE cx.P (d+9)) (dsF cx.P).body (dsI B p (38::r) q))=some ⟨.ret (.bool true),bm B 311 (38::p) r true [],[]⟩:=by kernel_rfl
theorem ds0(B:ao)(p r:List Nat)(q:Bool)(d:Nat):cutF 13 [11] (cW 0 13++cW 14 2) ((dsV cx sa ns []).ss (dsE cx.P (d+9)) (dsF cx.P).body (dsI B p (0::r) q))=some ⟨.ret (.bool true),bm B 304 (0::p) r true [⟨7,qD,none⟩,⟨1,[0],none⟩],[0≤sizeLine,1≤sizeLine]⟩:=by kernel_rfl
theorem dsB(B:ao)(p r:List Nat)(q:Bool)(c d:Nat):cutF 13 [11] (cW 0 13++cW 14 1) ((dsV cx sa ns [(306,11,22,false),(308,13,24,false),(310,13,27,false),(315,13,36,true)]).ss (dsE cx.P (d+9)) (dsF cx.P).body (dsI B p (c::r) q))
 =some ⟨.ret (.bool true),bm B 304 ((r.takeWhile (PW true)).reverse++c::p) (r.dropWhile (PW true)) false [⟨2,[c]++r.takeWhile (PW true),none⟩],[am [c] [38]=false,am [c] [60]=false,am [c] [0]=false,aq c lsB=true,1+(r.takeWhile (PW true)).length≤sizeLine,0≤sizeLine]⟩:=by kernel_rfl
theorem dsC(B:ao)(p r:List Nat)(q:Bool)(c d:Nat):cutF 13 [11] (cW 0 13++cW 14 1) ((dsV cx sa ns [(306,11,22,false),(308,13,24,false),(310,13,27,false),(315,13,36,false)]).ss (dsE cx.P (d+9)) (dsF cx.P).body (dsI B p (c::r) q))
 =some ⟨.ret (.bool true),bm B 304 ((r.takeWhile (PW false)).reverse++c::p) (r.dropWhile (PW false)) false [⟨1,[c]++r.takeWhile (PW false),none⟩],[am [c] [38]=false,am [c] [60]=false,am [c] [0]=false,aq c lsB=false,1+(r.takeWhile (PW false)).length≤sizeLine,0≤sizeLine]⟩:=by kernel_rfl
noncomputable def data (c:Nat) (r:List Nat):Bool×List Tk×List Nat×List Nat:=match am [c] [38]with
 | true=>(true,[],[c],r)
 | false=>match am [c] [0]with
  | true=>(false,[⟨7,qD,none⟩,⟨1,[0],none⟩],[c],r)
  | false=>match aq c lsB with
   | true=>(false,[⟨2,[c]++r.takeWhile (PW true),none⟩],c::r.takeWhile (PW true),r.dropWhile (PW true))
   | false=>(false,[⟨1,[c]++r.takeWhile (PW false),none⟩],c::r.takeWhile (PW false),r.dropWhile (PW false))
noncomputable def stA:Bool→Addr
 | true=>311
 | false=>304
noncomputable def jh (tk:List Tk):Prop:=tk=[]∨Shape tk
theorem fp(c:Nat)(r:List Nat):jh (data c r).2.1:=by
 unfold data
 induction am [c] [38]with
 | true=>exact .inl rfl
 | false=>
  dsimp only
  induction am [c] [0]with
  | true=>exact .inr (.two _ _ _ _)
  | false=>
   dsimp only
   induction aq c lsB<;>exact .inr (.one _ _)
theorem i0(c:Nat)(r:List Nat):(data c r).2.2.1++(data c r).2.2.2=c::r:=by
 unfold data
 induction am [c] [38]with
 | true=>rfl
 | false=>
  dsimp only
  induction am [c] [0]with
  | true=>rfl
  | false=>
   dsimp only
   induction aq c lsB<;>exact congrArg (c:: ·) (FJ)
theorem uk(H:Ok1 cx mg mb sa ns):aa cx (clT [tCh,tCu]):=aa.cons (Told.tells (dk H)) (aa.cons (Told.tells (pP H)) aa.nil)
theorem xK(P:Params):bw (dsF P).dfl [] (dsF P).pars [.ref 1]=some ([("self",.ref 1)]:List (Str×V)):=by kernel_rfl
theorem AH(P:Params)(B:ao)(p r:List Nat)(q:Bool)(d:Nat):enter (dsF P) (d+9) [("self",.ref 1)] (bN B 304 p r q [])=some ⟨dsE P (d+9),dsI B p r q,[]⟩:=by kernel_rfl
theorem iY(H:Ok1 cx mg mb sa ns){B:ao}{p r:List Nat}{q:Bool}{d:Nat}{l:List (Nat×Nat×Nat×Bool)}{ks:List Nat}{b:Bool}{st:Addr}{p' r':List Nat}{q':Bool}{tk:List Tk}{obs:List Prop}
  (h:cutF 13 [11] ks ((dsV cx sa ns l).ss (dsE cx.P (d+9)) (dsF cx.P).body (dsI B p r q))=some ⟨.ret (.bool b),bm B st p' r' q' tk,obs⟩) (ob:cw obs)
  {A:Around} {ρ:Ids} {s:Shared} {xs:List Value} (rm:aj A (d+10)) (S:Sat cx (bN B 304 p r q []) ρ s.heap) (hv:VRs (bN B 304 p r q []).length ρ s.heap [.ref 1] xs):
  ah cx A (bN B 304 p r q []) ρ s (.ref 304) xs [] (bm B st p' r' q' tk) (.bool b):=by
 refine o12 (SS.cutF (ab H (uk H) {tb:=adL l} 20) h (gu (by decide:11<13) B st _ _ _ _ _) ob) fun σ1 z1 z2=>?_
 refine o21 (H.fns 304 (dsF cx.P) (by kernel_rfl)) fun obj fd kk=>?_
 have c:=aR (kws:=[]) (ks:=[]) (d:=d+9) (o:=⟨dsE cx.P (d+9),dsI B p r q,[]⟩) H rm kk S hv (rfl) (xK _) (AH _ B p r q d) rfl z1
 exact ah.pick c z2 trivial
theorem yS(H:Ok1 cx mg mb sa ns)(B:ao)(p:List Nat)(q:Bool)(d:Nat){A:Around}{ρ:Ids}{s:Shared}{xs:List Value}(rm:aj A (d+10))(S:Sat cx (bN B 304 p [] q []) ρ s.heap)(hv:VRs (bN B 304 p [] q []).length ρ s.heap [.ref 1] xs):
 ah cx A (bN B 304 p [] q []) ρ s (.ref 304) xs [] (bm B 304 p [] false []) (.bool false):=iY H (dsN B p q d) trivial rm S hv
theorem wK(H:Ok1 cx mg mb sa ns)(B:ao)(p:List Nat)(q:Bool)(d c:Nat)(r:List Nat)(hc:c∈alpha)(hl:r.length≤600): ∃q',∀{A:Around} {ρ:Ids} {s:Shared} {xs:List Value},aj A (d+10)→
  Sat cx (bN B 304 p (c::r) q []) ρ s.heap→VRs (bN B 304 p (c::r) q []).length ρ s.heap [.ref 1] xs→ah cx A (bN B 304 p (c::r) q []) ρ s (.ref 304) xs [] (bm B (stA (data c r).1) ((data c r).2.2.1.reverse++p) (data c r).2.2.2 q' (data c r).2.1) (.bool true):=by
 have hs:=sizeLine_eq
 have h60:am [c] [60]=false:=by
  have:(alpha.all fun c=>!am [c] [60])=true:=by kernel_rfl
  have:=DL.mp this c hc
  simpa using this
 have hlen: ∀P:Nat→Bool,1+(r.takeWhile P).length≤sizeLine:=fun P=>by
  have:=(Gs (l:=r) P).length_le
  lia
 unfold data
 induction h1:am [c] [38]with
 | true=>
  have:=aM.mp h1
  cases this
  exact⟨true,fun rm S hv=>iY H (Da B p r q d) trivial rm S hv⟩
 | false=>
  dsimp only
  induction h2:am [c] [0]with
  | true=>
   have:=aM.mp h2
   cases this
   exact⟨true,fun rm S hv=>iY H (ds0 B p r q d) ⟨DU _,by show 1≤sizeLine;(exact DO _)⟩ rm S hv⟩
  | false=>
   dsimp only
   induction h3:aq c lsB with
   | true=>
    refine⟨false,fun{A ρ s xs} rm S hv=>?_⟩
    have:=iY H (dsB B p r q c d) ⟨h1,h60,h2,h3,hlen _,DU _⟩ rm S hv
    dsimp only
    refine rK (Fm ..) (rK (DV ..) ?_)
    exact this
   | false=>
    refine⟨false,fun{A ρ s xs} rm S hv=>?_⟩
    have:=iY H (dsC B p r q c d) ⟨h1,h60,h2,h3,hlen _,DU _⟩ rm S hv
    dsimp only
    refine rK (Fm ..) (rK (DV ..) ?_)
    exact this
noncomputable abbrev giF (P:Params):Fn:=fnN 268
noncomputable abbrev giE (P:Params) (d:Nat):EE:=⟨12,[],(giF P).scope,d⟩
noncomputable abbrev giW (P:Params):Stmt:=az (giF P).body 1
noncomputable abbrev gi1 (P:Params):Stmt:=az (bL (giW P)) 0
noncomputable abbrev gi2 (P:Params):Stmt:=az (bL (giW P)) 1
noncomputable abbrev giY (P:Params):Stmt:=az (bL (gi2 P)) 0
noncomputable abbrev giQ (P:Params):Expr:=qA (sA (giY P))
noncomputable abbrev YL (B:ao) (st:Addr) (p r:List Nat) (q:Bool) (tk:List Tk):Hp:=bN B st p r q (dsQ 13 tk).tail++dsA 13 tk
theorem tZ(P:Params):(giF P).scope.isGenerator=true∧(giF P).scope.isCoroutine=false∧bw (giF P).dfl [] (giF P).pars [.ref 1]=some ([("self",.ref 1)]:List (Str×V)):=⟨by kernel_rfl,by kernel_rfl,by kernel_rfl⟩
theorem yN(H:Ok1 cx mg mb sa ns):findIn cx.K (.ref 762) "__iter__"=some (some (.ref 268))∧isFn cx.K (.ref 268)=true:=by
 have h:=(H.L 762 uG (by kernel_rfl)).meth ("__iter__",268) (by unfold uG;simp)
 exact⟨h.1,pq h.2.1⟩
theorem AB(B:ao)(st:Addr)(p r:List Nat)(q:Bool)(d:Nat):(caV cx sa ns []).ex (giE cx.P (d+10)) (qA (qA (sA (giW cx.P)))) (bN B st p r q [])=some ⟨.ref 1,bN B st p r q [],[]⟩:=by kernel_rfl
theorem AA(P:Params)(B:ao)(st:Addr)(p r:List Nat)(q:Bool):meth (T1 sa ns) (.ref 1) (exN (qA (sA (giW P)))) (bN B st p r q [])=some ⟨(.meth st 1,[]),bN B st p r q [],[]⟩:=by kernel_rfl
theorem xH(P:Params):aQ (qA (qA (sA (giW P))))=true∧DI (qA (sA (giW P))).pos.endLine (sA (giW P)).pos.line=true∧(∀e,calleeOk (T1 sa ns) (.meth (stA e) 1)=true):=⟨by kernel_rfl,by kernel_rfl,fun e=>by induction e<;>kernel_rfl⟩
theorem C4(B:ao)(st:Addr)(p r:List Nat)(q:Bool)(tk:List Tk)(d:Nat):(caV cx sa ns []).tst (giE cx.P (d+10)) (sA (gi1 cx.P)) (bm B st p r q tk)=some ⟨false,bm B st p r q tk,[0≤sizeLine]⟩:=by kernel_rfl
theorem AD(B:ao)(st:Addr)(p r:List Nat)(q:Bool)(d:Nat):(caV cx sa ns []).tst (giE cx.P (d+10)) (sA (gi2 cx.P)) (bm B st p r q [])=some ⟨false,bm B st p r q [],[0≤sizeLine]⟩:=by kernel_rfl
theorem AC{tk:List Tk}(h:Shape tk)(B:ao)(st:Addr)(p r:List Nat)(q:Bool)(d:Nat):(caV cx sa ns []).tst (giE cx.P (d+10)) (sA (gi2 cx.P)) (bm B st p r q tk)=some ⟨true,bm B st p r q tk,[tk.length≤sizeLine]⟩:=by induction h<;>kernel_rfl
theorem C3{tk:List Tk}(h:Shape tk)(B:ao)(st:Addr)(p r:List Nat)(q:Bool)(d:Nat):(caV cx sa ns []).ex (giE cx.P (d+10)) (giQ cx.P) (bm B st p r q tk)=some ⟨.ref 13,YL B st p r q tk,[tk.tail.length<sizeLine]⟩:=by induction h<;>kernel_rfl
end
noncomputable def toks:Nat→Bool→List Nat→List Tk
 | 0,_,_=>[]
 | n+1,true,r=>(ent r).1++toks n false (ent r).2.2
 | _+1,false,[]=>[]
 | n+1,false,c::r=>(data c r).2.1++toks n (data c r).1 (data c r).2.2.2
noncomputable def kindOf (ty:Nat):List Nat:=match DI ty 7 with
 | true=>[116,111,108,100]
 | false=>match DI ty 2 with
  | true=>[98,108,97,110,107]
  | false=>[116,101,120,116]
noncomputable def dJ (t:Tk):List Nat×List Nat:=(kindOf t.ty,t.s)
structure Run where
 sa:Addr
 t:List Nat
 m:List Nat
 tl:List Tk
 ids:Ids
 G:Addr
 g:Nat
 os:OsState
noncomputable def Run.fore (R:Run) (l:List Tk):ao:=⟨R.sa,R.t,l.map dJ⟩
structure GI(cx:Cx)(R:Run)(g:Array GenState)(σ:Hp)(ρ:Ids)(s:Shared):Prop where
 sat:Sat cx σ ρ s.heap
 same: ∀i,i=0∨i=12→ρ i=R.ids i
 isGen:s.heap.IsGen R.G R.g
 off: ∀i,i<σ.length→ρ i≠R.G
 os:s.os=R.os
 gens:s.gens=g
theorem IsGen.there{h:Heap}{a:Addr}{g:Nat}(x:h.IsGen a g): ∃o,h.get? a=some o:=by
 refine o32 x fun o nm qn h1 _=>?_
 exact⟨o,h1⟩
theorem IsGen.kept{h h':Heap}{a:Addr}{g:Nat}(x:h.IsGen a g)(k: ∀o,h.get? a=some o→h'.get? a=some o):h'.IsGen a g:=by
 refine o32 x fun o nm qn h1 h2=>?_
 exact⟨o,nm,qn,k o h1,h2⟩
theorem oU{cx:Cx}{σ σ':Hp}{ρ ρ':Ids}{s s':Shared}{G:Addr}{g:Nat}(x:s.heap.IsGen G g)(off: ∀i,i<σ.length→ρ i≠G)(y:Aft cx σ.length ρ s σ' ρ' s'): ∀i,i<σ'.length→ρ' i≠G:=fun i hi q=>
 (Ez i σ.length).elim (fun h=>off i h ((y.ext.same i h).symm.trans q)) fun h=>(IsGen.there x).elim fun o ho=>noE ((q▸y.ext.fresh i h hi).symm.trans ho)
theorem GI.aft{cx:Cx}{R:Run}{g:Array GenState}{σ σ':Hp}{ρ ρ':Ids}{s s':Shared}(x:GI cx R g σ ρ s)(h13:13≤σ.length)(y:Aft cx σ.length ρ s σ' ρ' s'):GI cx R g σ' ρ' s':=
 ⟨y.sat,fun i hi=>(y.ext.same i (DR (hi.elim (fun e=>e▸by decide) fun e=>e▸by decide) h13)).trans (x.same i hi),IsGen.kept x.isGen fun o ho=>y.ext.keep _ _ ho x.off,oU x.isGen x.off y,y.os.trans x.os,y.gens.trans x.gens⟩
theorem GI.here{cx:Cx}{R:Run}{g:Array GenState}{σ:Hp}{ρ:Ids}{s s':Shared}(x:GI cx R g σ ρ s)(h:s'.heap=s.heap)(o:s'.os=s.os):GI cx R s'.gens σ ρ s':=⟨h.symm▸x.sat,x.same,h.symm▸x.isGen,x.off,o.trans x.os,rfl⟩
inductive Yld(cx:Cx)(R:Run)(n:Nat)(s₀ s₁:Shared)(kap:Resume→Shared→Prop):Value→Prop
 | mk (done:List Tk) (hd:Tk) (rest:List Tk) (st:Addr) (p r:List Nat) (q:Bool) (tl:List Tk) (ρ:Ids) (all:R.tl=done++hd::rest) (len:rest.length=n) (sh:Shape (hd::tl)) (gi:GI cx R s₀.gens (YL (R.fore done) st p r q (hd::tl)) ρ s₁)
  (cont: ∀s ρ,GI cx R s.gens (bm (R.fore (done++[hd])) st p r q tl) ρ s→kap (.send .none) s):Yld cx R n s₀ s₁ kap (.ref (ρ 13))
noncomputable def YP (cx:Cx) (R:Run):Protocol:=fun n s₀ v s₁ kap=>Yld cx R n s₀ s₁ kap v
inductive Bl(cx:Cx)(R:Run)(s₀ s₁:Shared):Nat→Prop
 | mk (ρ:Ids) (p:List Nat) (q:Bool) (all:p.reverse=R.m) (gi:GI cx R s₀.gens (bm (R.fore R.tl) 304 p [] q []) ρ s₁):Bl cx R s₀ s₁ 0
noncomputable def PP (cx:Cx) (R:Run) (n:Nat) (s₀ s₁:Shared):Prop:=Bl cx R s₀ s₁ n
noncomputable abbrev RR (cx:Cx) (R:Run):GenEnd:=fun n s₀ r s₁=>r=.ok (.ret .none)∧PP cx R n s₀ s₁
noncomputable abbrev xi (cx:Cx) (R:Run) (A:Around) (n:Nat) (s₀:Shared) (c:Code) (m:Sem PySem.Fin) (fs:List Frame) (s:Shared):Prop:=Seg (model cx.prog cx.w) A (RR cx R) (YP cx R) n s₀ c m fs s
theorem yH{p a b:Prop}[Decidable p](h:p)(x:a):if p then a else b:=by refine rK (if_pos h ..) ?_;exact x
theorem iteF{p a b:Prop}[Decidable p](h: ¬p)(x:b):if p then a else b:=by refine rK (if_neg h ..) ?_;exact x
structure Stk(P:Params)(R:Run)(A:Around)(env le:Env)(d:Nat):Prop where
 room:aj A (d+11)
 frames:A.frames=some [le]
 lef:le.frame=some (R.ids 0)
 lek:le.scope.kind≠ .module
 envf:env.frame=some (R.ids 12)
 envr:ax (giE P (d+10)) 13 R.ids env
theorem Stk.envR{P:Params}{R:Run}{A:Around}{env le:Env}{d n:Nat}{ρ:Ids}(k:Stk P R A env le d)(hn:13≤n)(h: ∀i,i=0∨i=12→ρ i=R.ids i):ax (giE P (d+10)) n ρ env:=
 ⟨k.envr.scope,k.envr.kind,DR k.envr.fr hn,by refine rK (h 12 (.inr rfl) ..) ?_;exact k.envr.loc,k.envr.glob,k.envr.bi,fun x i hx=>by cases hx⟩
theorem Stk.stack{P:Params}{R:Run}{A A':Around}{env le:Env}{d n:Nat}{ρ:Ids}(k:Stk P R A env le d)(hn:13≤n)(h: ∀i,i=0∨i=12→ρ i=R.ids i)(hf:A'.frames=A.frames.map (env:: ·)):aZ A' env [le] [12,0] n ρ:=by
 refine⟨by rw[hf,k.frames];rfl,?_,fun x hx=>?_,fun i hi=>?_⟩
 ·show [env.frame,le.frame]=[some (ρ 12),some (ρ 0)]
  exact rK (k.envf ..) (rK (k.lef ..) (rK (h 12 (.inr rfl) ..) (rK (h 0 (.inl rfl) ..) rfl)))
 ·cases hx with
  | head=>rw[k.envr.scope,k.envr.kind];decide
  | tail _ hx=>exact EN.mp hx▸k.lek
 ·refine DR ?_ hn
  cases hi with
  | head=>decide
  | tail _ hi=>exact EN.mp hi▸by decide
section
variable{cx:Cx}{R:Run}{g:Array GenState}{σ σ':Hp}{ρ:Ids}{s:Shared}{A A':Around}{env le:Env}{d:Nat}{E:Value→Shared→Prop}
theorem GI.tt{t:Expr}{b:Bool}{Q:Bool→Shared→Prop}(x:GI cx R g σ ρ s)(k:Stk cx.P R A env le d)(r:aj A' (d+10))(h13:13≤σ.length)(h:TT cx (giE cx.P (d+10)) t σ b σ')(K: ∀ρ' s',GI cx R g σ' ρ' s'→Q b s'):wpAny (model cx.prog cx.w) A' (isTrue t env (eval t env)) Q E s:=
 (h.it A' ρ s env r (k.envR h13 x.same) x.sat).use fun _ ρ1 s1 x1 e=>e.symm▸K ρ1 s1 (x.aft h13 x1)
theorem GI.ttk{t:Expr}{b:Bool}{Q:Bool→Shared→Prop}(x:GI cx R g σ ρ s)(k:Stk cx.P R A env le d)(r:aj A' (d+10))(hf:A'.frames=A.frames.map (env:: ·))(h13:13≤σ.length)(h:TTk cx (giE cx.P (d+10)) [12,0] t σ b σ')(K: ∀ρ' s',GI cx R g σ' ρ' s'→Q b s'):
  wpAny (model cx.prog cx.w) A' (isTrue t env (eval t env)) Q E s:=
 (h.it A' ρ s env [le] r (k.envR h13 x.same) (k.stack h13 x.same hf) x.sat).use fun _ ρ1 s1 x1 e=>e.symm▸K ρ1 s1 (x.aft h13 x1)
theorem GI.s1{t:Stmt}{Q:Flow→Shared→Prop}(x:GI cx R g σ ρ s)(k:Stk cx.P R A env le d)(r:aj A' (d+10))(h13:13≤σ.length)(h:S1 cx (giE cx.P (d+10)) t σ .next σ')(K: ∀ρ' s',GI cx R g σ' ρ' s'→Q .next s'):wpAny (model cx.prog cx.w) A' (exec t env) Q E s:=
 (h.it A' ρ s env r (k.envR h13 x.same) x.sat).use fun f ρ1 s1 x1 e=>(show f=.next from e).symm▸K ρ1 s1 (x.aft h13 x1)
theorem GI.xx{t:Expr}{i:Nat}{Q:Value→Shared→Prop}(x:GI cx R g σ ρ s)(k:Stk cx.P R A env le d)(r:aj A' (d+10))(h13:13≤σ.length)(h:XX cx (giE cx.P (d+10)) t σ (.ref i) σ')(K: ∀ρ' s',GI cx R g σ' ρ' s'→Q (.ref (ρ' i)) s'):wpAny (model cx.prog cx.w) A' (eval t env) Q E s:=
 (h.it A' ρ s env r (k.envR h13 x.same) x.sat).use fun v ρ1 s1 x1 e=>(show i<σ'.length∧v=Value.ref (ρ1 i)from e).2.symm▸K ρ1 s1 (x.aft h13 x1)
end
theorem qF{A:Around}{d:Nat}{b:List Stmt}{env:Env}(r:aj A (d+1)):aj (A.over (.func b env) []) d:=by
 refine⟨r.handled,?_,?_⟩
 ·show A.depth+0+1+d<recursionLimit
  have:=r.depth;lia
 ·show A.units+0+3+50*d+50<cLine
  have:=r.units;lia
noncomputable abbrev fr1 (k1:Result→Sem Fin) (l1:List Value) (b:List Stmt) (env:Env) (p1:Pos):List Frame:=[.ret k1 none false l1 (.func b env) p1 []]
noncomputable abbrev fr2 (k2:Result→Sem Fin) (l2:List Value) (t:Expr) (b2:List Stmt) (p2:Pos) (k1:Result→Sem Fin) (l1:List Value) (b:List Stmt) (env:Env) (p1:Pos):List Frame:=.ret k2 none false l2 (.whileLoop t b2 [] env) p2 []::fr1 k1 l1 b env p1
section
variable{A:Around}{d:Nat}{env:Env}{t t2:Expr}{b b2 b3:List Stmt}{k1 k2:Result→Sem Fin}{l1 l2:List Value}{p1 p2:Pos}
theorem fM(r:aj A (d+1)):aj (A.over (.whileLoop t b2 [] env) (fr1 k1 l1 b env p1)) d:=by
 refine⟨r.handled,?_,?_⟩
 ·show A.depth+1+0+d<recursionLimit
  have:=r.depth;lia
 ·show A.units+3+0+50*d+50<cLine
  have:=r.units;lia
theorem kR(r:aj A (d+1)):aj (A.over (.whileLoop t2 b3 [] env) (fr2 k2 l2 t b2 p2 k1 l1 b env p1)) d:=by
 refine⟨r.handled,?_,?_⟩
 ·show A.depth+1+0+d<recursionLimit
  have:=r.depth;lia
 ·show A.units+3+0+50*d+50<cLine
  have:=r.units;lia
theorem eH:(A.over (.whileLoop t b2 [] env) (fr1 k1 l1 b env p1)).frames=A.frames.map (env:: ·):=rfl
end
theorem Shape.tail{hd:Tk}{tl:List Tk}(h:Shape (hd::tl)):jh tl:=by
 cases h
 ·exact .inl rfl
 ·exact .inr (.one _ _)
 ·exact .inr (.one _ _)
 ·exact .inr (.two _ _ _ _)
theorem Shape.len{tk:List Tk}(h:Shape tk):tk.length≤3:=by induction h<;>simp
section
variable{cx:Cx}{mg mb:Str→Option Value}{sa:Addr}{ns:List Int}{R:Run}{A:Around}{env le:Env}{d:Nat}
noncomputable abbrev gC1 (P:Params) (env:Env):Code:=.whileLoop (.Call (.Attribute (qA (qA (sA (giW P)))) (exN (qA (sA (giW P)))) (qA (sA (giW P))).pos) [] [] (sA (giW P)).pos) [.While (sA (gi1 P)) (bL (gi1 P)) [] (gi1 P).pos,.While (sA (gi2 P)) [.Expr (.Yield (some (giQ P)) (sA (giY P)).pos) (giY P).pos] [] (gi2 P).pos] [] env
noncomputable abbrev gB1 (P:Params):List Stmt:=[.While (sA (gi1 P)) (bL (gi1 P)) [] (gi1 P).pos,.While (sA (gi2 P)) [.Expr (.Yield (some (giQ P)) (sA (giY P)).pos) (giY P).pos] [] (gi2 P).pos]
noncomputable abbrev gT1 (P:Params):PySem.Expr:=.Call (.Attribute (qA (qA (sA (giW P)))) (exN (qA (sA (giW P)))) (qA (sA (giW P))).pos) [] [] (sA (giW P)).pos
noncomputable abbrev gB2 (P:Params):List Stmt:=[.Expr (.Yield (some (giQ P)) (sA (giY P)).pos) (giY P).pos]
noncomputable abbrev gC2 (P:Params) (env:Env):Code:=.whileLoop (sA (gi2 P)) (gB2 P) [] env
theorem pE(B:ao)(st:Addr)(p r:List Nat)(q:Bool)(tk:List Tk):13≤(bm B st p r q tk).length:=by
 refine rK (pm ..) ?_
 exact D8 ..
noncomputable def Turn (cx:Cx) (R:Run) (A:Around) (env:Env) (k1:Result→Sem PySem.Fin) (l1:List Value) (b:List Stmt) (p1:Pos) (N:Nat) (dn:List Tk) (st:Addr) (p r:List Nat) (q:Bool):Prop:=
 ∀s₀ s ρ,GI cx R s₀.gens (bm (R.fore dn) st p r q []) ρ s→xi cx R A N s₀ (gC1 cx.P env) ((model cx.prog cx.w).den (gC1 cx.P env)) (fr1 k1 l1 b env p1) s
theorem rl(H:Ok1 cx mg mb sa ns)(k:Stk cx.P R A env le d){k1 k2:Result→Sem PySem.Fin}{l1 l2:List Value}{b:List Stmt}{p1 p2:Pos}(hk2:k2 (.ok .next)=.pure (.again (gC1 cx.P env))){N:Nat}{rest:List Tk}(hN:rest.length=N){st:Addr}{p r:List Nat}{q:Bool}:
  ∀(tk done:List Tk) (ρ:Ids) (s s₀:Shared),R.tl=done++(tk++rest)→jh tk→GI cx R s₀.gens (bm (R.fore done) st p r q tk) ρ s→Turn cx R A env k1 l1 b p1 N (done++tk) st p r q→
  xi cx R A (N+tk.length) s₀ (gC2 cx.P env) ((model cx.prog cx.w).den (gC2 cx.P env)) (fr2 k2 l2 (gT1 cx.P) (gB1 cx.P) p2 k1 l1 b env p1) s:=by
 have HF:=ab H (cO H) {tb:=adL []} 20
 have hs:=sizeLine_eq
 intro tk
 induction tk with
 | nil=>exact fun done ρ s s₀ _ _ x after=>seg_whileLoop (x.tt k (kR k.room) (DQ 13) (TT.ev HF (AD (R.fore done) st p r q d) (DU _)) fun ρ1 s1 y=>iteF Ec (seg_execs_nil (seg_leaf (r:=.ok .next) (hk2.symm▸seg_again rfl (after s₀ s1 ρ1 ((D2 done).symm▸y))))))
 | cons hd tl ih=>
  intro done ρ s s₀ htl hq x after
  have hsh:Shape (hd::tl):=hq.elim (fun e=>nomatch e) id
  have hlen:tl.length+1≤3:=hsh.len
  have h13:=pE (R.fore done) st p r q (hd::tl)
  refine seg_whileLoop (x.tt k (kR k.room) h13 (TT.ev HF (AC hsh (R.fore done) st p r q d) (by show tl.length+1≤sizeLine;(exact kV (by assumption) (by decide)))) fun ρ1 s1 y1=>yH rfl (seg_execs_cons (seg_Expr_Yield (by rfl) rfl rfl (y1.xx k (kR k.room) h13 (XX.ev HF (C3 hsh (R.fore done) st p r q d) (by show tl.length<sizeLine;(exact kV (by assumption) (by decide)))) fun ρ2 s2 y2 kap hkap=>
   .mk done hd (tl++rest) st p r q tl ρ2 htl ((pm ..).trans ((congrArg _ hN).trans (EJ ..))) hsh y2 fun s ρ z=>hkap .none s (seg_again rfl ?_))
   (by refine rK (k.envr.scope ..) ?_;exact(tZ cx.P).2.1) (by unfold interactive;refine rK (k.envr.scope ..) (rK (k.envr.kind ..) ?_);rfl))))
  exact ih (done++[hd]) ρ s s (by refine rK (htl ..) (rK (DV ..) ?_);rfl) hsh.tail z (by refine rK (DV ..) ?_;exact after)
end
theorem mZ(b:Bool)(pre r:List Nat):(dj b pre r).2.1++(dj b pre r).2.2=pre++r:=by
 have h:=dQ b r
 unfold dj
 dsimp only
 induction hs:bZ (ad b r).2 with
 | some r'=>
  have hr:(ad b r).2=59::r':=by
   unfold bZ at hs
   induction h2:(ad b r).2 with
   | nil=>replace hs:=(h2 ..)▸hs;cases hs
   | cons x r2=>
    replace hs:=(h2 ..)▸hs
    dsimp only at hs
    induction hx:DI x 59 with
    | true=>replace hs:=(hx ..)▸hs;cases hs;exact rK (DK hx ..) rfl
    | false=>replace hs:=(hx ..)▸hs;cases hs
  replace h:=(hr ..)▸h
  show pre++((ad b r).1++[59])++r'=pre++r
  exact rK (DV ..) (rK (DV ..) (rK (show [59]++r'=59::r' from rfl) (rK (h ..) rfl)))
 | none=>
  dsimp only
  rw[DV,h]
theorem lB(r:List Nat):(ent r).2.1++(ent r).2.2=r:=by
 unfold ent
 induction r with
 | nil=>rfl
 | cons c r=>
  dsimp only
  induction aq c lsB || aq c [60,38]with
  | true=>rfl
  | false=>
   dsimp only
   induction hh:am [c] [35]with
   | false=>
    show(nwk [] (c::r)).1++(cq (nwk [] (c::r)).2.1++(nwk [] (c::r)).2.2)=c::r
    exact k8 (c::r) []
   | true=>
    have:=aM.mp hh
    cases this
    dsimp only
    unfold ek
    induction r with
    | nil=>rfl
    | cons x r=>
     dsimp only
     induction aq x [120,88]with
     | true=>
      dsimp only
      unfold iT
      induction r with
      | nil=>rfl
      | cons c r=>
       dsimp only
       induction aq c (lsD true)with
       | true=>exact mZ _ _ _
       | false=>rfl
     | false=>
      dsimp only
      induction aq x (lsD false)with
      | true=>exact mZ _ _ _
      | false=>rfl
section
variable{cx:Cx}{mg mb:Str→Option Value}{sa:Addr}{ns:List Int}{R:Run}{A:Around}{env le:Env}{d:Nat}
theorem iO(H:Ok1 cx mg mb sa ns)(e:Bool)(B:ao)(p r:List Nat)(q b:Bool){σ2:Hp}
  (ht: ∀{A:Around} {ρ:Ids} {s:Shared} {xs:List Value} {env:Env} {le:List Env},aj A (d+10)→aZ A env le [12,0] (bN B (stA e) p r q []).length ρ→Sat cx (bN B (stA e) p r q []) ρ s.heap→VRs (bN B (stA e) p r q []).length ρ s.heap [.ref 1] xs→ah cx A (bN B (stA e) p r q []) ρ s (.ref (stA e)) xs [] σ2 (.bool b)):
  TTk cx (giE cx.P (d+10)) [12,0] (gT1 cx.P) (bN B (stA e) p r q []) b σ2:=by
 have HF:=ab H (cO H) {tb:=adL []} 20
 refine o03 (xH (sa:=sa) (ns:=ns) cx.P) fun g1 g2 g3=>?_
 exact TTk.callKept H HF g1 g2 (AB B (stA e) p r q d) trivial (AA cx.P B (stA e) p r q) trivial (g3 e) rfl ht
noncomputable def oG (e:Bool) (r:List Nat):Option (Bool×List Tk×List Nat×List Nat):=match e,r with
 | true,r=>some (false,(ent r).1,(ent r).2.1,(ent r).2.2)
 | false,[]=>none
 | false,c::r=>some (data c r)
theorem t5(H:Ok1 cx mg mb sa ns)(e:Bool)(B:ao)(p r:List Nat)(q:Bool)(hr: ∀c∈r,c∈alpha)(hl:r.length≤600):match oG e r with
  | some x=>jh x.2.1∧x.2.2.1++x.2.2.2=r∧ ∃q',TTk cx (giE cx.P (d+10)) [12,0] (gT1 cx.P) (bN B (stA e) p r q []) true (bm B (stA x.1) (x.2.2.1.reverse++p) x.2.2.2 q' x.2.1)
  | none=>e=false∧r=[]∧TTk cx (giE cx.P (d+10)) [12,0] (gT1 cx.P) (bN B (stA e) p r q []) false (bm B 304 p [] false []):=by
 induction e with
 | true=>
  obtain⟨q',h⟩:=wG H B p q d r hr hl
  exact⟨.inr (c7 r),lB r,q',iO H true B p r q true fun a b c dd=>h a b c dd⟩
 | false=>
  induction r with
  | nil=>exact⟨rfl,rfl,iO H false B p [] q false fun a b c dd=>yS H B p q d a c dd⟩
  | cons c r=>
   obtain⟨q',h⟩:=wK H B p q d c r (hr c (wj ..)) (by rw[D0]at hl;(exact D6 (by assumption)))
   exact⟨fp c r,i0 c r,q',iO H false B p (c::r) q true fun a b cc dd=>h a cc dd⟩
noncomputable def bn (e:Bool) (r:List Nat):Nat:=2*r.length+(match e with | true=>2 | false=>1)
theorem qk{n:Nat}{e:Bool}{r:List Nat}:toks (n+1) e r=match oG e r with
  | some x=>x.2.1++toks n x.1 x.2.2.2
  | none=>[]:=by
 induction e with
 | true=>rfl
 | false=>induction r<;>rfl
theorem mX(r:List Nat):(ent r).2.2.length≤r.length:=kV (kV (D5 ..) (Eu (pm ..).symm)) (Eu (congrArg Ea (lB r)))
theorem ku(c:Nat)(r:List Nat):(data c r).2.2.2.length≤r.length:=by
 unfold data
 induction am [c] [38]with
 | true=>exact DQ _
 | false=>
  dsimp only
  induction am [c] [0]with
  | true=>exact DQ _
  | false=>
   dsimp only
   induction aq c lsB<;>exact(List.dropWhile_sublist _).length_le
theorem wA{e:Bool}{a b:List Nat}(h:a.length≤b.length):bn e a≤2*b.length+2:=by
 induction e with
 | true=>exact FW (EU 2 h) 2
 | false=>exact FI (FW (EU 2 h) 1)
theorem kh{e:Bool}{r:List Nat}{x:Bool×List Tk×List Nat×List Nat}(h:oG e r=some x):bn x.1 x.2.2.2<bn e r:=by
 induction e with
 | true=>exact okE (P:=fun x:Bool×List Tk×List Nat×List Nat=>bn x.1 x.2.2.2<bn true r) h (Nat.succ_lt_succ (EL (EU 2 (mX r))))
 | false=>induction r with
  | nil=>exact noE h
  | cons c r=>exact okE (P:=fun x:Bool×List Tk×List Nat×List Nat=>bn x.1 x.2.2.2<bn false (c::r)) h (EL (wA (ku c r)))
theorem mU(H:Ok1 cx mg mb sa ns)(k:Stk cx.P R A env le d){k1:Result→Sem PySem.Fin}{l1:List Value}{b:List Stmt}{p1:Pos}{N:Nat}{rest dn tk:List Tk}{st:Addr}{p r:List Nat}{q:Bool}{ρ:Ids}{s s₀:Shared}(hN:rest.length=N)(htl:R.tl=dn++(tk++rest))(hq:jh tk)(x:GI cx R s₀.gens (bm (R.fore dn) st p r q tk) ρ s)
  (after:Turn cx R A env k1 l1 b p1 N (dn++tk) st p r q) {H1:Value→Sem PySem.Fin}:xi cx R A (N+tk.length) s₀ (gC1 cx.P env) ((execs (gB1 cx.P) env).wrap (fun f=>match f with
   | .next | .cont=> .pure (.again (gC1 cx.P env))
   | .brk=> .pure (.done .next)
   | .ret v=> .pure (.done (.ret v))) H1 id id) (fr1 k1 l1 b env p1) s:=
 seg_execs_cons (seg_wrap (x.s1 k (fM k.room) (pE ..) (a9 (pos:=(gi1 cx.P).pos) (Wh.stop (b:=bL (gi1 cx.P)) (TT.ev (ab H (cO H) {tb:=adL []} 20) (C4 (R.fore dn) st p r q tk d) (DU _)))) fun ρ2 s2 y=>
  seg_execs_cons (seg_While fun p2=>rl H k rfl hN tk dn ρ2 s2 s₀ htl hq y after)))
theorem t6(H:Ok1 cx mg mb sa ns)(k:Stk cx.P R A env le d){k1:Result→Sem PySem.Fin}{l1:List Value}{b:List Stmt}{p1:Pos}(hk1:k1 (.ok .next)=.pure (.done (.ret .none)))(hm: ∀c∈R.m,c∈alpha)(hml:R.m.length≤600):
  ∀(n:Nat) (e:Bool) (dn:List Tk) (rr p:List Nat) (q:Bool),bn e rr≤n→R.tl=dn++toks n e rr→p.reverse++rr=R.m→Turn cx R A env k1 l1 b p1 (toks n e rr).length dn (stA e) p rr q:=by
 intro n
 induction n with
 | zero=>
  intro e dn rr p q hf
  unfold bn at hf
  induction e<;>exact absurd hf (EQ _)
 | succ n ih=>
  intro e dn rr p q hf htl hpm s₀ s ρ x
  have st:=t5 (d:=d) H e (R.fore dn) p rr q (fun c hc=>hm c (hpm▸EA _ hc)) (kV (kV (D5 ..) (Eu ((pm ..).symm.trans (congrArg Ea hpm)))) hml)
  rw[qk]at htl ⊢
  induction hx:oG e rr with
  | none=>
   rw[hx]at st htl
   obtain⟨rfl,rfl,tt⟩:=st
   exact seg_whileLoop (x.ttk k (fM k.room) eH (DQ 13) tt fun ρ1 s1 y=>iteF Ec (seg_execs_nil (seg_leaf (r:=.ok .next) (hk1.symm▸seg_end (.ok (.ret .none)) ⟨rfl,.mk ρ1 p false ((D2 _).symm.trans hpm) ((htl.trans (D2 _)).symm▸y)⟩))))
  | some y=>
   rw[hx]at st htl
   obtain⟨g1,g2,q',tt⟩:=st
   have hfu:=kh hx
   dsimp only at htl ⊢
   refine rK (pm ..) (rK (EJ ..) ?_)
   exact seg_whileLoop (x.ttk k (fM k.room) eH (DQ 13) tt fun ρ1 s1 y1=>yH rfl (mU H k rfl htl g1 y1 (ih y.1 (dn++y.2.1) y.2.2.2 (y.2.2.1.reverse++p) q' (by lia) (by exact rK (htl ..) (rK (DV ..) rfl)) (by rw[Fv,FU,DV,g2,hpm]))))
end
noncomputable abbrev S00:Stm:=⟨[],0,none,0,0⟩
noncomputable def b0 (t:List Nat):Bool×List Nat×Option Nat:=match t with
 | []=>(false,[],none)
 | [c]=>(true,aA [c],none)
 | c1::c2::r=>match DI (av (DM 0) (c1::c2::r)) 13 with
  | true=>(true,aA (ar (c1::c2::r) none (some (DM 0))),some 13)
  | false=>(true,aA (c1::c2::r),none)
structure R0(t:List Nat)(v:Bool)(ch:List Nat)(b:Option Nat):Prop where
 al: ∀x∈t,x∈alpha
 len:t.length≤600
 e:b0 t=(v,ch,b)
noncomputable def mi (v:Bool) (ch:List Nat) (b:Option Nat):List V→Hp→Option (Out V):=fnP [.k (.ref 0)] fun σs=>some ⟨.bool v,L6 (rdT σs) (rdT σs).length (DS ⟨ch,0,b,0,0⟩),[σs=L6 (rdT σs) 0 (DS S00),R0 (rdT σs) v ch b]⟩
theorem li: ∀l:List Nat,aA (l++[13])=aA l++[10]
 | []=>rfl
 | [c]=>by
  show(match DI c 13,DI 13 10 with | true,true=>10::aA [] | true,false=>10::aA [13] | false,_=>c::aA [13])=(match DI c 13 with | true=>10 | false=>c)::[10]
  induction DI c 13<;>rfl
 | c::d::r=>by
  have h1:=li (d::r)
  have h2:=li r
  show aA (c::d::(r++[13]))=_
  refine rK (aA.c ..) (rK (aA.c ..) ?_)
  induction q:DI c 13 with
  | true=>
   induction q2:DI d 10 with
   | true=>exact congrArg (10:: ·) h2
   | false=>exact congrArg (10:: ·) h1
  | false=>exact congrArg (c:: ·) h1
theorem m9(l:List Nat)(h:l≠[]):ar l none (some (DM 0))++[av (DM 0) l]=l:=by
 have e1:ar l none (some (DM 0))=l.dropLast:=by
  show(l.drop 0).take (l.length-(0+1)-0)=_
  exact rK (Fs ..) (rK (GP ..) (rK (Fi ..) rfl))
 have e2:av (DM 0) l=l.getLast h:=by
  show l.getD (l.length-(0+1)) 0=_
  rw[Eb,List.getLast_eq_getElem,DH (by have:=List.length_pos_iff.mpr h;omega)]
  rfl
 rw[e1,e2,List.dropLast_concat_getLast]
theorem iB{c:Nat}{l:List Nat}:0<(aA (c::l)).length:=by
 induction l with
 | nil=>exact DO 0
 | cons d l=>
  refine rK (aA.c ..) ?_
  induction DI c 13 with
  | true=>induction DI d 10<;>exact DO _
  | false=>exact DO _
theorem nI(t:List Nat):aA t=(b0 t).2.1++bS (b0 t).2.2∧((b0 t).2.2=none∨(b0 t).2.2=some 13)∧((b0 t).1=true→0<(b0 t).2.1.length)∧((b0 t).1=false→t=[]):=by
 match t with
 | []=>exact⟨rfl,.inl rfl,(fun h=>by cases h),fun _=>rfl⟩
 | [c]=>exact⟨by show aA [c]=aA [c]++[];rw[D2],.inl rfl,(fun _=>DO 0),(fun h=>by cases h)⟩
 | c1::c2::r=>
  unfold b0
  dsimp only
  induction q:DI (av (DM 0) (c1::c2::r)) 13 with
  | true=>
   have hl:=m9 (c1::c2::r) (by intro h;cases h)
   rw[DK q]at hl
   refine⟨?_,.inr rfl,(fun _=>?_),(fun h=>by cases h)⟩
   ·show aA (c1::c2::r)=aA (ar (c1::c2::r) none (some (DM 0)))++[10]
    exact FL (li ..) (rK (hl ..) rfl)
   ·have e1:ar (c1::c2::r) none (some (DM 0))=c1::(c2::r).take r.length:=rfl
    dsimp only
    rw[e1]
    exact iB
  | false=>
   exact⟨by show aA (c1::c2::r)=aA (c1::c2::r)++[];rw[D2],.inl rfl,(fun _=>iB),(fun h=>by cases h)⟩
section
variable{cx:Cx}{mg mb:Str→Option Value}{sa:Addr}{ns:List Int}
theorem mh(H:Ok1 cx mg mb sa ns)(v:Bool)(ch:List Nat)(b:Option Nat):Told cx 141 5 (mi v ch b):=by
 have hs:=sizeLine_eq
 refine Told.fn fun σs {A ρ s xs d} r S hv=>af fun ob=>?_
 obtain⟨o1,o2⟩:=ob
 have o2:R0 (rdT σs) v ch b:=o2
 generalize rdT σs=t at o1 o2 ⊢
 subst o1
 obtain⟨al,len,e⟩:=o2
 unfold b0 at e
 have HC:=c9 H
 have fitN:an (DM 0):=by unfold an;decide
 have al3: ∀c∈t,(c=13∨c≠13)∧c<55296:=fun c hc=>by
  have:(alpha.all fun c=>EH c 55296)=true:=by kernel_rfl
  exact⟨Decidable.em _,ED.mp (DL.mp this c (al c hc))⟩
 match t with
 | []=>
  cases e
  exact eD H r S hv (f:=.ret (.bool false)) rfl rfl (gv H (SS.t (SS.stopApp (SS.ev (ab H HC {tb:=adL []} 20) (BU 0 0 d) ⟨rfl,DQ _,by(exact DU _),by show 0≤sizeLine;(exact DU _)⟩) (by intro h;cases h)))) (oQ [] _ _ _ _)
 | [c]=>
  cases e
  refine eD H r S hv (f:=.ret (.bool true)) rfl rfl (gv H (SSt.append (SS.t (SS.ev (ab H HC {tb:=adL []} 20) (B1 c 0 0 d) ⟨rfl,by(exact DU _),by(exact DO _),by(exact DO _),by(exact DO _),rfl,al⟩)) (hM (t:=[c]) (p:=1) (b:=none) (dt:=[c]) (lv:=none) H (by show 1≤10240;(exact DO _))))) (kU [c] 1 ⟨aA [c],0,none,0,0⟩ (.inl rfl) _ rfl (aA [c]) none)
 | c1::c2::t=>
  have hl:t.length+2≤600:=len
  have hcl:=m9 (c1::c2::t) (by intro h;cases h)
  have hmem:av (DM 0) (c1::c2::t)∈c1::c2::t:=by
   have:av (DM 0) (c1::c2::t)∈ar (c1::c2::t) none (some (DM 0))++[av (DM 0) (c1::c2::t)]:=EA _ (EN.mpr rfl)
   rwa[hcl]at this
  have hlt:(ar (c1::c2::t) none (some (DM 0))).length≤600:=by
   have:=congrArg Ea hcl
   replace this:=(pm ..)▸this
   replace this:=(show(c1::c2::t).length=t.length+2 from rfl)▸this
   lia
  have e:(match DI (av (DM 0) (c1::c2::t)) 13 with | true=>(true,aA (ar (c1::c2::t) none (some (DM 0))),some 13) | false=>(true,aA (c1::c2::t),none))=(v,ch,b):=e
  induction q:DI (av (DM 0) (c1::c2::t)) 13 with
  | true=>
   replace e:=(q ..)▸e
   cases e
   have q13:=DK q
   have run:=SS.ev (ab H HC {tb:=adL [(88,11,24,true),(90,15,26,true)]} 20) (BZ c1 c2 t 0 0 d) ⟨rfl,DU _,by(exact kV (by assumption) (by decide)),by(exact kV (by assumption) (by decide)),by(exact kV (by assumption) (by decide)),decide_eq_true (by simp only[DN];(exact Int.compare_eq_gt.mp rfl)),fitN,by show 0<t.length+2;(exact DO _),decide_eq_true (by refine rK (q13 ..) ?_;rfl),fitN,by show 0<t.length+2;(exact DO _),by(exact kV (by assumption) (by decide)),rfl,fun x hx=>al x (by rw[←hcl];exact List.mem_append_left _ hx)⟩
   dsimp only at run
   replace run:=(q13 ..)▸run
   exact eD H r S hv (f:=.ret (.bool true)) rfl rfl (gv H (SSt.append (SS.t run) (hM (t:=c1::c2::t) (p:=t.length+2) (b:=some 13) (dt:=ar (c1::c2::t) none (some (DM 0))) (lv:=some 13) H (by exact kV (by assumption) (by decide))))) (kU (c1::c2::t) (t.length+2) ⟨aA (ar (c1::c2::t) none (some (DM 0))),0,some 13,0,0⟩ (.inr ⟨_,rfl⟩) _ rfl _ (some 13))
  | false=>
   replace e:=(q ..)▸e
   cases e
   have q13:=EC q
   have h55:=(al3 _ hmem).2
   have run:=SS.ev (ab H HC {tb:=adL [(88,11,24,true),(90,15,26,false),(90,39,44,false)]} 20) (BY c1 c2 t 0 0 d) ⟨rfl,DU _,by(exact kV (by assumption) (by decide)),by(exact kV (by assumption) (by decide)),by(exact kV (by assumption) (by decide)),decide_eq_true (by simp only[DN];(exact Int.compare_eq_gt.mp rfl)),fitN,by show 0<t.length+2;(exact DO _),decide_eq_false (by simp only[DN];(exact GL rfl rfl q13)),decide_eq_false (by simp only[DN];lia),rfl,al⟩
   exact eD H r S hv (f:=.ret (.bool true)) rfl rfl (gv H (SSt.append (SS.t run) (hM (t:=c1::c2::t) (p:=t.length+2) (b:=none) (dt:=c1::c2::t) (lv:=some _) H (by show t.length+2≤10240;(exact kV (by assumption) (by decide)))))) (kU (c1::c2::t) (t.length+2) ⟨aA (c1::c2::t),0,none,0,0⟩ (.inl rfl) _ rfl _ (some _))
end
structure MT(t m:List Nat):Prop where
 al: ∀x∈t,x∈alpha
 len:t.length≤600
 e:aA t=m
noncomputable def ni (m:List Nat):List V→Hp→Option (Out V):=fnP [.k (.ref 0)] fun σs=>match m with
 | c::r=>some ⟨.str [c],LS [c] r true,[σs=L6 (rdT σs) 0 (DS S00),MT (rdT σs) (c::r)]⟩
 | []=>some ⟨.none,LS [] [] false,[σs=L6 (rdT σs) 0 (DS S00),MT (rdT σs) []]⟩
noncomputable def ve (v:Bool) (ch:List Nat) (b:Option Nat):Addr×bx:=(141,lift 5 kQ (mi v ch b))
section
variable{cx:Cx}{mg mb:Str→Option Value}{sa:Addr}{ns:List Int}
theorem A8(t ch:List Nat)(b:Option Nat)(d:Nat):bo 6 [0,1,2,3,4,5] ((TE cx sa ns [ve true ch b] aL 20).call (d+6) (.old 133) [.ref 0] [] (L6 t 0 (DS S00)))
 =some ⟨.str [av (dV 0) ch],L6 t t.length (DS ⟨ch,1,b,0,0⟩),[L6 t 0 (DS S00)=L6 t 0 (DS S00),R0 t true ch b,an (dV 0),0<ch.length]⟩:=by induction b<;>kernel_rfl
theorem A9(t:List Nat)(d:Nat):bo 6 [0,1,2,3,4,5] ((TE cx sa ns [ve false [] none] aL 20).call (d+6) (.old 133) [.ref 0] [] (L6 t 0 (DS S00)))
 =some ⟨.none,L6 t t.length (DS ⟨[],0,none,0,0⟩),[L6 t 0 (DS S00)=L6 t 0 (DS S00),R0 t false [] none]⟩:=by kernel_rfl
theorem fT(t:List Nat):(aA t).length≤t.length:=iC t
theorem uJ(H:Ok1 cx mg mb sa ns)(m:List Nat):Told cx 133 6 (ni m):=by
 refine Told.fn fun σs {A ρ s xs d} r S hv=>?_
 have main: ∀{v:V} {p r':List Nat} {q:Bool} {St:Stm} {t:List Nat},t.length≤600→SI St (p.reverse++r') r' q→ah cx A (L6 t 0 (DS S00)) ρ s (.ref 133) xs [] (L6 t t.length (DS St)) v→ah cx A (L6 t 0 (DS S00)) ρ s (.ref 133) xs [] (LS p r' q) v:=by
  intro v p r' q St t hl si h
  have c1:=ah.closeS (k:=1) h rfl si
  exact ah.closeT (k:=3) c1 rfl (by exact kV (by assumption) (by decide))
 cases m with
 | cons c rr=>
  refine af fun ob=>?_
  refine o02 ob fun o1 o2=>?_
  have o2:MT (rdT σs) (c::rr):=o2
  generalize rdT σs=t at o1 o2 ⊢
  subst o1
  have o2:MT t (c::rr):=o2
  refine o04 (nI t) fun g1 g2 g3 g4=>?_
  replace g1:=(o2.e ..)▸g1
  have hv1:(b0 t).1=true:=by
   cases q:(b0 t).1 with
   | true=>rfl
   | false=>
    have:=g4 q
    subst this
    have:=o2.e
    cases this
  have si0:SI ⟨(b0 t).2.1,0,(b0 t).2.2,0,0⟩ ([].reverse++(c::rr)) (c::rr) false:=⟨⟨[],g1,rfl⟩,g1,DU _,g2,(fun h=>by cases h),by rw[←o2.e];have:=fT t;have:=o2.len;show(aA t).length≤1000;lia⟩
  have hp:=g3 hv1
  refine o02 (si0.step hp) fun s1 s2=>?_
  have HC:aa cx (clT [ve true (b0 t).2.1 (b0 t).2.2]):=aa.cons (Told.tells (mh H _ _ _)) aa.nil
  have run:=aJ (ks:=[0,1,2,3,4,5]) (kw:=[]) (kws:=[]) (ab H HC {tb:=aL} 20) r S hv (rfl) (A8 t (b0 t).2.1 (b0 t).2.2 d) ⟨rfl,⟨o2.al,o2.len,by rw[←hv1]⟩,by unfold an;decide,hp⟩
  dsimp only at run s1
  replace run:=(s1 ..)▸run
  exact main o2.len (by refine rK (show([c].reverse++rr)=([].reverse++(c::rr))from rfl) ?_;exact s2) run
 | nil=>
  refine af fun ob=>?_
  refine o02 ob fun o1 o2=>?_
  have o2:MT (rdT σs) []:=o2
  generalize rdT σs=t at o1 o2 ⊢
  subst o1
  have o2:MT t []:=o2
  have ht:t=[]:=by
   have:=o2.e
   cases t with
   | nil=>rfl
   | cons c l=>
    have h2:=iB (c:=c) (l:=l)
    replace h2:=(this ..)▸h2
    cases h2
  subst ht
  have HC:aa cx (clT [ve false [] none]):=aa.cons (Told.tells (mh H _ _ _)) aa.nil
  have run:=aJ (ks:=[0,1,2,3,4,5]) (kw:=[]) (kws:=[]) (ab H HC {tb:=aL} 20) r S hv (rfl) (A9 [] d) ⟨rfl,o2.al,o2.len,rfl⟩
  exact main o2.len ⟨⟨[],rfl,rfl⟩,rfl,DQ _,.inl rfl,(fun h=>by cases h),DU _⟩ run
noncomputable abbrev dh (B:ao) (t:List Nat):Hp:=[.fr (nZ B),.inst 762 2,.dict (tkF 304),.inst 166 4,.dict (cA 148 S00 [3,7,5,8]),.inst 73 6,.dict [("text",.str t),("place",.int (dV 0))],.list [.int (dV 0)],.list [],.list [],.list [],.list (aS B.g),.fr [("self",.ref 1)]]
noncomputable def zu (m:List Nat):Addr×bx:=(133,lift 6 kQ (ni m))
noncomputable abbrev dzV (cx:Cx) (sa:Addr) (ns:List Int) (m:List Nat) (l:List (Nat×Nat×Nat×Bool)):Ev:=evN (T1 sa ns) (mkO cx (clT [zu m,tCu]) {tb:=adL l}) 20
noncomputable abbrev dzI (B:ao) (t:List Nat):Hp:=dh B t++[.fr [("self",.ref 1)]]
theorem dzN(B:ao)(t:List Nat)(d:Nat):cutF 13 [11] (cW 0 13) ((dzV cx sa ns [] []).ss (dsE cx.P (d+9)) (dsF cx.P).body (dzI B t))=some ⟨.ret (.bool false),bm B 304 [] [] false [],[L6 t 0 (DS S00)=L6 t 0 (DS S00),MT t []]⟩:=by kernel_rfl
theorem C9(B:ao)(t r:List Nat)(d:Nat):cutF 13 [11] (cW 0 13) ((dzV cx sa ns (38::r) []).ss (dsE cx.P (d+9)) (dsF cx.P).body (dzI B t))=some ⟨.ret (.bool true),bm B 311 [38] r true [],[L6 t 0 (DS S00)=L6 t 0 (DS S00),MT t (38::r)]⟩:=by kernel_rfl
theorem dz0(B:ao)(t r:List Nat)(d:Nat):cutF 13 [11] (cW 0 13++cW 14 2) ((dzV cx sa ns (0::r) []).ss (dsE cx.P (d+9)) (dsF cx.P).body (dzI B t))=some ⟨.ret (.bool true),bm B 304 [0] r true [⟨7,qD,none⟩,⟨1,[0],none⟩],[L6 t 0 (DS S00)=L6 t 0 (DS S00),MT t (0::r),0≤sizeLine,1≤sizeLine]⟩:=by kernel_rfl
theorem dzB(B:ao)(t r:List Nat)(c d:Nat):cutF 13 [11] (cW 0 13++cW 14 1) ((dzV cx sa ns (c::r) [(306,11,22,false),(308,13,24,false),(310,13,27,false),(315,13,36,true)]).ss (dsE cx.P (d+9)) (dsF cx.P).body (dzI B t))
 =some ⟨.ret (.bool true),bm B 304 ((r.takeWhile (PW true)).reverse++[c]) (r.dropWhile (PW true)) false [⟨2,[c]++r.takeWhile (PW true),none⟩],[L6 t 0 (DS S00)=L6 t 0 (DS S00),MT t (c::r),am [c] [38]=false,am [c] [60]=false,am [c] [0]=false,aq c lsB=true,1+(r.takeWhile (PW true)).length≤sizeLine,0≤sizeLine]⟩:=by kernel_rfl
theorem dzC(B:ao)(t r:List Nat)(c d:Nat):cutF 13 [11] (cW 0 13++cW 14 1) ((dzV cx sa ns (c::r) [(306,11,22,false),(308,13,24,false),(310,13,27,false),(315,13,36,false)]).ss (dsE cx.P (d+9)) (dsF cx.P).body (dzI B t))
 =some ⟨.ret (.bool true),bm B 304 ((r.takeWhile (PW false)).reverse++[c]) (r.dropWhile (PW false)) false [⟨1,[c]++r.takeWhile (PW false),none⟩],[L6 t 0 (DS S00)=L6 t 0 (DS S00),MT t (c::r),am [c] [38]=false,am [c] [60]=false,am [c] [0]=false,aq c lsB=false,1+(r.takeWhile (PW false)).length≤sizeLine,0≤sizeLine]⟩:=by kernel_rfl
theorem uj(H:Ok1 cx mg mb sa ns)(m:List Nat):aa cx (clT [zu m,tCu]):=aa.cons (Told.tells (uJ H m)) (aa.cons (Told.tells (pP H)) aa.nil)
theorem AG(P:Params)(B:ao)(t:List Nat)(d:Nat):enter (dsF P) (d+9) [("self",.ref 1)] (dh B t)=some ⟨dsE P (d+9),dzI B t,[]⟩:=by kernel_rfl
theorem iX(H:Ok1 cx mg mb sa ns){B:ao}{t m:List Nat}{d:Nat}{l:List (Nat×Nat×Nat×Bool)}{ks:List Nat}{b:Bool}{st:Addr}{p' r':List Nat}{q':Bool}{tk:List Tk}{obs:List Prop}
  (h:cutF 13 [11] ks ((dzV cx sa ns m l).ss (dsE cx.P (d+9)) (dsF cx.P).body (dzI B t))=some ⟨.ret (.bool b),bm B st p' r' q' tk,obs⟩) (ob:cw obs)
  {A:Around} {ρ:Ids} {s:Shared} {xs:List Value} (rm:aj A (d+10)) (S:Sat cx (dh B t) ρ s.heap) (hv:VRs (dh B t).length ρ s.heap [.ref 1] xs):
  ah cx A (dh B t) ρ s (.ref 304) xs [] (bm B st p' r' q' tk) (.bool b):=by
 refine o12 (SS.cutF (ab H (uj H m) {tb:=adL l} 20) h (gu (by decide:11<13) B st _ _ _ _ _) ob) fun σ1 z1 z2=>?_
 refine o21 (H.fns 304 (dsF cx.P) (by kernel_rfl)) fun obj fd kk=>?_
 have c:=aR (kws:=[]) (ks:=[]) (d:=d+9) (o:=⟨dsE cx.P (d+9),dzI B t,[]⟩) H rm kk S hv (rfl) (xK _) (AG _ B t d) rfl z1
 exact ah.pick c z2 trivial
theorem wI(H:Ok1 cx mg mb sa ns)(B:ao)(t:List Nat)(d c:Nat)(r:List Nat)(ht:MT t (c::r))(hc:c∈alpha): ∃q',∀{A:Around} {ρ:Ids} {s:Shared} {xs:List Value},aj A (d+10)→
  Sat cx (dh B t) ρ s.heap→VRs (dh B t).length ρ s.heap [.ref 1] xs→ah cx A (dh B t) ρ s (.ref 304) xs [] (bm B (stA (data c r).1) ((data c r).2.2.1.reverse++[]) (data c r).2.2.2 q' (data c r).2.1) (.bool true):=by
 have hs:=sizeLine_eq
 have h60:am [c] [60]=false:=by
  have:(alpha.all fun c=>!am [c] [60])=true:=by kernel_rfl
  have:=DL.mp this c hc
  simpa using this
 have hl:r.length≤600:=by
  have h1:=fT t
  replace h1:=(D0 ..)▸((ht.e ..)▸h1)
  have:=ht.len
  lia
 have hlen: ∀P:Nat→Bool,1+(r.takeWhile P).length≤sizeLine:=fun P=>by
  have:=(Gs (l:=r) P).length_le
  lia
 unfold data
 induction h1:am [c] [38]with
 | true=>
  have:=aM.mp h1
  cases this
  exact⟨true,fun rm S hv=>iX H (C9 B t r d) ⟨rfl,ht⟩ rm S hv⟩
 | false=>
  dsimp only
  induction h2:am [c] [0]with
  | true=>
   have:=aM.mp h2
   cases this
   exact⟨true,fun rm S hv=>iX H (dz0 B t r d) ⟨rfl,ht,DU _,by show 1≤sizeLine;(exact DO _)⟩ rm S hv⟩
  | false=>
   dsimp only
   induction h3:aq c lsB with
   | true=>
    refine⟨false,fun{A ρ s xs} rm S hv=>?_⟩
    have:=iX H (dzB B t r c d) ⟨rfl,ht,h1,h60,h2,h3,hlen _,DU _⟩ rm S hv
    dsimp only
    refine rK (Fm ..) (rK (DV ..) ?_)
    exact this
   | false=>
    refine⟨false,fun{A ρ s xs} rm S hv=>?_⟩
    have:=iX H (dzC B t r c d) ⟨rfl,ht,h1,h60,h2,h3,hlen _,DU _⟩ rm S hv
    dsimp only
    refine rK (Fm ..) (rK (DV ..) ?_)
    exact this
theorem Aw(B:ao)(t:List Nat)(d:Nat):(caV cx sa ns []).ex (giE cx.P (d+10)) (qA (qA (sA (giW cx.P)))) (dh B t)=some ⟨.ref 1,dh B t,[]⟩:=by kernel_rfl
theorem Av(P:Params)(B:ao)(t:List Nat):meth (T1 sa ns) (.ref 1) (exN (qA (sA (giW P)))) (dh B t)=some ⟨(.meth 304 1,[]),dh B t,[]⟩:=by kernel_rfl
theorem pA(H:Ok1 cx mg mb sa ns)(B:ao)(t:List Nat)(b:Bool)(d:Nat){σ2:Hp}
  (ht: ∀{A:Around} {ρ:Ids} {s:Shared} {xs:List Value} {env:Env} {le:List Env},aj A (d+10)→aZ A env le [12,0] (dh B t).length ρ→Sat cx (dh B t) ρ s.heap→VRs (dh B t).length ρ s.heap [.ref 1] xs→ah cx A (dh B t) ρ s (.ref 304) xs [] σ2 (.bool b)):
  TTk cx (giE cx.P (d+10)) [12,0] (gT1 cx.P) (dh B t) b σ2:=by
 have HF:=ab H (cO H) {tb:=adL []} 20
 refine o03 (xH (sa:=sa) (ns:=ns) cx.P) fun g1 g2 g3=>?_
 exact TTk.callKept H HF g1 g2 (Aw B t d) trivial (Av cx.P B t) trivial (g3 false) rfl ht
noncomputable abbrev Bu:List (Str×V):=[("stream",.ref 3),("parser",.none),("escapeFlag",.bool false),("lastFourChars",.ref 9),("state",.meth 304 1),("escape",.bool false),("currentToken",.none)]
noncomputable abbrev mK (sa:Addr) (t:List Nat):Hp:=[.fr [("script",.old sa),("text",.str t),("tokenizer",.ref 1),("got",.ref 10)],.inst 762 2,.dict Bu,.inst 166 4,.dict (cA 148 S00 [3,7,5,8]),.inst 73 6,.dict [("text",.str t),("place",.int (dV 0))],.list [.int (dV 0)],.list [],.list [],.list []]
noncomputable abbrev n5 (sa:Addr) (t:List Nat):Hp:=mK sa t++[.fr [("self",.ref 1)]]
noncomputable abbrev ww (P:Params) (d:Nat):EE:=⟨11,[],(giF P).scope,d⟩
noncomputable abbrev giS (P:Params):Stmt:=az (giF P).body 0
section
variable{cx:Cx}{mg mb:Str→Option Value}{sa:Addr}{ns:List Int}{R:Run}{A:Around}{env le:Env}{d:Nat}
theorem gy0(sb:Addr)(t:List Nat)(d:Nat):cutF 10 [] [0,1,2,3,4,5,6,7,8,9,12,10,11] ((caV cx sa ns []).ss (ww cx.P (d+10)) [giS cx.P] (n5 sb t))=some ⟨.next,dh ⟨sb,t,[]⟩ t,[]⟩:=by kernel_rfl
theorem t4(P:Params):(giF P).body=giS P::[.While (gT1 P) (gB1 P) [] (giW P).pos]:=by kernel_rfl
theorem S1.of{ee:EE}{t:Stmt}{σ σ1:Hp}(h:SS cx ee [t] σ .next σ1):S1 cx ee t σ .next σ1:=.mk fun A ρ s env r e S=>by
 have h1:=h.it A ρ s env r e S
 have e2:execs [t] env=exec t env>>=pure:=by
  refine rK (execs_cons ..) ?_
  congr 1
  funext f
  induction f<;>rfl
 rw[bind_pure]at e2
 replace h1:=(e2 ..)▸h1
 exact h1
noncomputable abbrev gz:List Nat:=[0,1,2,3,4,5,6,7,8,9,12,10,11]
theorem Ax{ρ ρ1:Ids}{s s1:Shared}{σ1:Hp}(h0:ρ 0=R.ids 0)(h11:ρ 11=R.ids 12)(hG:s.heap.IsGen R.G R.g)(off: ∀i,i<12→ρ i≠R.G)(ho:s.os=R.os)(x1:Aft cx (n5 R.sa R.t).length ρ s σ1 ρ1 s1)(P1:Picked σ1 gz (inv gz) (dh (R.fore []) R.t)):GI cx R s.gens (dh (R.fore []) R.t) (aE ρ1 gz) s1:=
 ⟨x1.sat.pick P1,fun i hi=>hi.elim (fun e=>e▸(x1.ext.same 0 (by show 0<12;decide)).trans h0) fun e=>e▸(x1.ext.same 11 (by show 11<12;decide)).trans h11,IsGen.kept hG fun o hob=>x1.ext.keep _ _ hob off,fun i hi=>by
  unfold aE
  refine rK (DH (l:=gz) hi ..) ?_
  exact oU (σ:=n5 R.sa R.t) hG off x1 _ (P1.lt _ (DX (l:=gz) hi)),x1.os.trans ho,x1.gens⟩
theorem rk(H:Ok1 cx mg mb sa ns)(k:Stk cx.P R A env le d)(ht: ∀c∈R.t,c∈alpha)(htl:R.t.length≤600)(hm:R.m=aA R.t)(hma: ∀c∈R.m,c∈alpha){n:Nat}(hn:bn false R.m≤n)(hR:R.tl=toks n false R.m){ρ:Ids}{s s₀:Shared}
  (S:Sat cx (n5 R.sa R.t) ρ s.heap) (h0:ρ 0=R.ids 0) (h11:ρ 11=R.ids 12) (hG:s.heap.IsGen R.G R.g) (off: ∀i,i<12→ρ i≠R.G) (ho:s.os=R.os) (hg:s.gens=s₀.gens):
  xi cx R A R.tl.length s₀ (.func (giF cx.P).body env) ((model cx.prog cx.w).den (.func (giF cx.P).body env)) [] s:=by
 have hml:R.m.length≤600:=kV (hm▸fT R.t) htl
 refine o12 (SS.cutF (ab H (cO H) {tb:=adL []} 20) (gy0 R.sa R.t d) iq trivial) fun σ1 z1 z2=>?_
 have e0:ax (ww cx.P (d+10)) (n5 R.sa R.t).length ρ env:=⟨k.envr.scope,k.envr.kind,by show 11<12;decide,k.envr.loc.trans h11.symm,k.envr.glob,k.envr.bi,fun x i hx=>nomatch hx⟩
 have mt:MT R.t R.m:=⟨ht,htl,hm.symm⟩
 refine seg_func ?_
 refine rK (t4 ..) ?_
 refine seg_execs_cons (seg_wrap (((S1.of z1).it _ ρ s env (qF k.room) e0 S).use fun fl ρ1 s1 x1 e1=>?_))
 cases(show fl=.next from e1)
 have y0:=hg▸Ax h0 h11 hG off ho x1 z2.1
 refine seg_execs_cons (seg_While fun p1=>?_)
 induction hmm:R.m with
 | nil=>
  rw[hmm]at mt hR
  have htl0:R.tl=[]:=hR.trans (by induction n<;>rfl)
  refine rK (htl0 ..) ?_
  exact seg_whileLoop (y0.ttk k (fM k.room) eH (DQ 13) (pA (d:=d) H (R.fore []) R.t false fun a _ cc dd=>iX H (dzN (R.fore []) R.t d) ⟨rfl,mt⟩ a cc dd) fun ρ2 s2 y=>
   iteF Ec (seg_execs_nil (seg_leaf (r:=.ok .next) (seg_end (.ok (.ret .none)) ⟨rfl,.mk ρ2 [] false hmm.symm (htl0.symm▸y)⟩))))
 | cons c r=>
  rw[hmm]at mt hn hR
  refine o11 (wI (d:=d) H (R.fore []) R.t c r mt (hma c (hmm▸wj ..))) fun q' hc=>?_
  induction n with
  | zero=>exact absurd hn (EQ _)
  | succ n=>
   have e3:R.tl=[]++((data c r).2.1++toks n (data c r).1 (data c r).2.2.2):=hR
   refine rK (e3 ..) (rK (ES ..) (rK (pm ..) (rK (EJ ..) ?_)))
   exact seg_whileLoop (y0.ttk k (fM k.room) eH (DQ 13) (pA (d:=d) H (R.fore []) R.t true fun a _ cc dd=>hc a cc dd) fun ρ2 s2 y=>yH rfl (mU H k rfl e3 (fp c r) y
    (t6 H k rfl hma hml n (data c r).1 ([]++(data c r).2.1) (data c r).2.2.2 ((data c r).2.2.1.reverse++[]) q' (ER (DR (kh (e:=false) (r:=c::r) rfl) hn)) (by exact rK (e3 ..) (rK (DV ..) rfl)) (by rw[D2,FU,i0,hmm]))))
end
noncomputable abbrev tiF (P:Params):Fn:=fnN 800
noncomputable abbrev paF (P:Params):Fn:=fnN 807
noncomputable abbrev tpF (P:Params) (b:Bool):Fn:=match b with | true=>paF P | false=>tiF P
noncomputable abbrev tpA (b:Bool):Addr:=match b with | true=>807 | false=>800
noncomputable abbrev xZ (b:Bool):Nat:=match b with | true=>1209 | false=>1205
noncomputable abbrev Bt (b:Bool):Nat:=match b with | true=>52 | false=>56
noncomputable abbrev tpL (t:List Nat) (p:Nat) (g:List Nat):Hp:=[.fr [("text",.str t),("place",.int (dV p)),("signs",.str g)]]
noncomputable abbrev LV (cx:Cx) (sa:Addr) (ns:List Int) (tl:List (Addr×bx)) (l:List (Nat×Nat×Nat×Bool)):Ev:=evN (T1 sa ns) (mkO cx (clT tl) {tb:=adL l}) 20
noncomputable abbrev tpE (P:Params) (b:Bool) (d:Nat):EE:=⟨0,[],(tpF P b).scope,d⟩
noncomputable abbrev tpW (P:Params) (b:Bool):Stmt:=az (tpF P b).body 0
noncomputable def tpN (b:Bool) (t g:List Nat) (p:Nat):Nat:=p+((t.drop p).takeWhile fun c=>aB c g==b).length
noncomputable def kM (b:Bool):List V→Hp→Option (Out V):=d9 [.s,.n,.s] fun t p g=>some ⟨.int (dV (tpN b t g p)),[],[p≤t.length,t.length≤1000]⟩
theorem tp1(b:Bool)(t g:List Nat)(p d:Nat):(LV cx sa ns [] [(xZ b,10,27,false)]).tst (tpE cx.P b d) (sA (tpW cx.P b)) (tpL t p g)=some ⟨false,tpL t p g,[t.length≤sizeLine,decide (dV p<dV t.length)=false]⟩:=by induction b<;>kernel_rfl
theorem tp2(b z:Bool)(t g:List Nat)(p d:Nat):(LV cx sa ns [] [(xZ b,10,27,true),(xZ b,32,Bt b,z)]).tst (tpE cx.P b d) (sA (tpW cx.P b)) (tpL t p g)=some ⟨z,tpL t p g,[t.length≤sizeLine,decide (dV p<dV t.length)=true,an (dV p),p<t.length,(match b with | true=>aB (av (dV p) t) g | false=>!aB (av (dV p) t) g)=z]⟩:=by induction b<;>induction z<;>kernel_rfl
theorem tp3(b:Bool)(t g:List Nat)(p d:Nat):(LV cx sa ns [] []).ss (tpE cx.P b d) (bL (tpW cx.P b)) (tpL t p g)=some ⟨.next,tpL t (p+1) g,[]⟩:=by induction b<;>kernel_rfl
theorem tp4(b:Bool)(t g:List Nat)(p d:Nat):(LV cx sa ns [] []).ss (tpE cx.P b d) [az (tpF cx.P b).body 1] (tpL t p g)=some ⟨.ret (.int (dV p)),tpL t p g,[]⟩:=by induction b<;>kernel_rfl
theorem tp5(P:Params)(b:Bool):(tpF P b).body=.While (sA (tpW P b)) (bL (tpW P b)) [] (tpW P b).pos::[az (tpF P b).body 1]:=by induction b<;>kernel_rfl
theorem tp6(P:Params)(b:Bool)(t g:List Nat)(p:Nat):bw (tpF P b).dfl [] (tpF P b).pars [.str t,.int (dV p),.str g]=some ([("text",.str t),("place",.int (dV p)),("signs",.str g)]:List (Str×V)):=by induction b<;>kernel_rfl
theorem tp7(P:Params)(b:Bool)(t g:List Nat)(p d:Nat):enter (tpF P b) d [("text",.str t),("place",.int (dV p)),("signs",.str g)] []=some ⟨tpE P b d,tpL t p g,[]⟩:=by induction b<;>kernel_rfl
theorem tp8(P:Params)(b:Bool):(T1 sa ns).fns.lookup (tpA b)=some (tpF P b):=by induction b<;>kernel_rfl
theorem vd(H:Ok1 cx mg mb sa ns)(b:Bool)(t g:List Nat)(d:Nat)(hl:t.length≤1000): ∀(n p:Nat),t.length-p=n→p≤t.length→ ∃k,Wh cx (tpE cx.P b d) (sA (tpW cx.P b)) (bL (tpW cx.P b)) .next (tpL t (tpN b t g p) g) k (tpL t p g):=by
 have hs:=sizeLine_eq
 intro n
 induction n with
 | zero=>
  intro p h1 h2
  have:p=t.length:=by lia
  subst this
  refine⟨0,?_⟩
  have e:tpN b t g t.length=t.length:=by unfold tpN;refine rK (EF ..) ?_;rfl
  refine rK (e ..) ?_
  exact .stop (TT.ev (ab H (l:=[]) aa.nil {tb:=adL _} 20) (tp1 b t g t.length d) ⟨by(exact dR hl),decide_eq_false (by exact Int.lt_irrefl (dV t.length))⟩)
 | succ n ih=>
  intro p h1 h2
  have hp:p<t.length:=by exact Fj h1
  have hsg:av (dV p) t=t[p]:=by
   show t.getD p 0=_
   refine rK (Eb ..) (rK (DH hp ..) ?_);rfl
  have hfit:an (dV p):=⟨by simp only[DN];(exact Ey (2^63) p),by simp only[DN];lia⟩
  have tt:=fun z hz=>TT.ev (ab H (l:=[]) aa.nil {tb:=adL _} 20) (tp2 b z t g p d) ⟨by(exact kV (by assumption) (by decide)),decide_eq_true (by simp only[DN];(exact FP.mpr hp)),hfit,hp,hz⟩
  have e:tpN b t g p=match aB t[p] g==b with | true=>tpN b t g (p+1) | false=>p:=by
   unfold tpN
   refine rK (D9 hp ..) (rK (Ed ..) ?_)
   induction aB t[p] g==b with
   | true=>simp;exact(Fx ..).symm
   | false=>rfl
  refine rK (e ..) ?_
  induction q:aB t[p] g==b with
  | true=>
   obtain⟨k,W⟩:=ih (p+1) (by lia) hp
   refine⟨k+1,.turn0 (tt true ?_) (SS.ev (ab H (l:=[]) aa.nil {tb:=adL _} 20) (tp3 b t g p d) trivial) (.inl rfl) W⟩
   refine rK (hsg ..) ?_
   induction b<;>induction q2:aB t[p] g<;>rw[q2]at q<;>first | rfl | cases q
  | false=>
   refine⟨0,.stop (tt false ?_)⟩
   refine rK (hsg ..) ?_
   induction b<;>induction q2:aB t[p] g<;>rw[q2]at q<;>first | rfl | cases q
theorem kK(H:Ok1 cx mg mb sa ns)(b:Bool):Told cx (tpA b) 1 (kM b):=by
 refine Told.fn0 fun t p g {A ρ s xs d} r S hv=>af fun ob=>?_
 refine o02 ob fun o1 o2=>?_
 refine o11 (vd H b t g d o2 (t.length-p) p rfl o1) fun k W=>?_
 refine o21 (H.fns (tpA b) (tpF cx.P b) (tp8 _ b)) fun obj fd kk=>?_
 have w:SS cx (tpE cx.P b d) (tpF cx.P b).body (tpL t p g) (.ret (.int (dV (tpN b t g p)))) (tpL t (tpN b t g p) g):=by
  refine rK (tp5 ..) ?_
  exact SS.cons (a9 W) (SS.ev (ab H (l:=[]) aa.nil {tb:=adL _} 20) (tp4 b t g _ d) trivial)
 have c:=aR (kws:=[]) (ks:=[]) (o:=⟨tpE cx.P b d,tpL t p g,[]⟩) H r kk S hv (rfl) (tp6 _ b t g p) (tp7 _ b t g p d) rfl w
 exact ah.pick (σ':=[]) (sel:=[]) (r:=inv []) c (pick_from (by rfl) rfl rfl) trivial
noncomputable def bO:List Nat→List Nat→Nat
 | [],_=>0
 | _::_,[]=>0
 | a::x,b::y=>match DI a b with
  | true=>bO x y+1
  | false=>0
theorem bO.c{a b:Nat}{x y:List Nat}:bO (a::x) (b::y)=(match DI a b with | true=>bO x y+1 | false=>0):=rfl
noncomputable abbrev shF (P:Params):Fn:=fnN 814
noncomputable abbrev shE (P:Params) (d:Nat):EE:=⟨0,[],(shF P).scope,d⟩
noncomputable abbrev shW (P:Params):Stmt:=az (shF P).body 1
noncomputable abbrev shL (a b:List Nat) (k:Nat):Hp:=[.fr [("rest",.str a),("name",.str b),("count",.int (dV k))]]
noncomputable def oI:List V→Hp→Option (Out V):=d9 [.s,.s] fun a b=>some ⟨.int (dV (bO a b)),[],[a.length≤1000,b.length≤1000]⟩
noncomputable abbrev wtF (P:Params):Fn:=fnN 821
noncomputable abbrev wtE (P:Params) (d:Nat):EE:=⟨0,[],(wtF P).scope,d⟩
noncomputable abbrev wtS (P:Params):Stmt:=az (wtF P).body 1
noncomputable def ze:Option Nat→List (Str×V)
 | none=>[]
 | some c=>[("c",.str [c])]
noncomputable abbrev wtL (f:List Nat) (b n:Nat) (c:Option Nat):Hp:=[.fr (("figures",.str f)::("base",.int (dV b))::("number",.int (dV n))::ze c)]
noncomputable def oB:List V→Hp→Option (Out V):=d9 [.s,.n] fun f b=>some ⟨.int (dV (aH b 0 f)),[],[b=10∨b=16,∀c∈f,bz b c=true]⟩
noncomputable abbrev laF (P:Params):Fn:=fnN 793
noncomputable abbrev laE (P:Params) (d:Nat):EE:=⟨0,[],(laF P).scope,d⟩
noncomputable abbrev laS (P:Params):Stmt:=az (laF P).body 2
noncomputable abbrev laL (t:List Nat) (l k:Nat) (c:Option Nat):Hp:=[.fr (("text",.str t)::("line",.int (dV l))::("column",.int (dV k))::ze c)]
noncomputable def pg:List V→Hp→Option (Out V):=d9 [.s] fun t=>some ⟨.tup [.int (dV ((db t).1+1)),.int (dV (db t).2)],[],[]⟩
theorem sh0(P:Params):(shF P).body=[az (shF P).body 0]++(.While (sA (shW P)) (bL (shW P)) [] (shW P).pos::[az (shF P).body 2]):=by kernel_rfl
theorem sh1(a b:List Nat)(d:Nat):(LV cx sa ns [] []).ss (shE cx.P d) [az (shF cx.P).body 0] [.fr [("rest",.str a),("name",.str b)]]=some ⟨.next,shL a b 0,[]⟩:=by kernel_rfl
theorem sh2(a b:List Nat)(k d:Nat):(LV cx sa ns [] [(1214,10,27,false)]).tst (shE cx.P d) (sA (shW cx.P)) (shL a b k)=some ⟨false,shL a b k,[a.length≤sizeLine,decide (dV k<dV a.length)=false]⟩:=by kernel_rfl
theorem sh3(a b:List Nat)(k d:Nat):(LV cx sa ns [] [(1214,10,27,true),(1214,32,49,false)]).tst (shE cx.P d) (sA (shW cx.P)) (shL a b k)=some ⟨false,shL a b k,[a.length≤sizeLine,decide (dV k<dV a.length)=true,b.length≤sizeLine,decide (dV k<dV b.length)=false]⟩:=by kernel_rfl
theorem sh4(a b:List Nat)(k d:Nat)(z:Bool):(LV cx sa ns [] [(1214,10,27,true),(1214,32,49,true),(1214,55,81,z)]).tst (shE cx.P d) (sA (shW cx.P)) (shL a b k)=some ⟨z,shL a b k,[a.length≤sizeLine,decide (dV k<dV a.length)=true,b.length≤sizeLine,decide (dV k<dV b.length)=true,an (dV k),k<a.length,an (dV k),k<b.length,am [av (dV k) a] [av (dV k) b]=z]⟩:=by induction z<;>kernel_rfl
theorem sh5(a b:List Nat)(k d:Nat):(LV cx sa ns [] []).ss (shE cx.P d) (bL (shW cx.P)) (shL a b k)=some ⟨.next,shL a b (k+1),[]⟩:=by kernel_rfl
theorem sh6(a b:List Nat)(k d:Nat):(LV cx sa ns [] []).ss (shE cx.P d) [az (shF cx.P).body 2] (shL a b k)=some ⟨.ret (.int (dV k)),shL a b k,[]⟩:=by kernel_rfl
theorem sh7(P:Params)(a b:List Nat):bw (shF P).dfl [] (shF P).pars [.str a,.str b]=some ([("rest",.str a),("name",.str b)]:List (Str×V)):=by kernel_rfl
theorem sh8(P:Params)(a b:List Nat)(d:Nat):enter (shF P) d [("rest",.str a),("name",.str b)] []=some ⟨shE P d,[.fr [("rest",.str a),("name",.str b)]],[]⟩:=by kernel_rfl
theorem hK{l:List Nat}{k:Nat}(h:k<l.length):av (dV k) l=l[k]:=by
 show l.getD k 0=_
 refine rK (Eb ..) (rK (DH h ..) ?_);rfl
theorem kj{k:Nat}(h:k≤1000000):an (dV k):=⟨by simp only[DN];(exact Ey (2^63) k),by simp only[DN];lia⟩
theorem vk(H:Ok1 cx mg mb sa ns)(a b:List Nat)(d:Nat)(ha:a.length≤1000)(hb:b.length≤1000): ∀(n k:Nat),a.length-k=n→k≤a.length→k≤b.length→ ∃j,Wh cx (shE cx.P d) (sA (shW cx.P)) (bL (shW cx.P)) .next (shL a b (k+bO (a.drop k) (b.drop k))) j (shL a b k):=by
 have hs:=sizeLine_eq
 have HF:=fun l=>ab H (l:=[]) aa.nil {tb:=adL l} 20
 intro n
 induction n with
 | zero=>
  intro k h1 h2 h3
  have:k=a.length:=by lia
  subst this
  refine rK (EF ..) ?_
  exact⟨0,.stop (TT.ev (HF _) (sh2 a b a.length d) ⟨by(exact dR ha),eQ (DQ _)⟩)⟩
 | succ n ih=>
  intro k h1 h2 h3
  have hk:k<a.length:=by exact Fj h1
  rcases Ez k b.length with hk2 | hk2
  ·refine rK (D9 hk ..) (rK (D9 hk2 ..) ?_)
   refine rK (bO.c ..) ?_
   have tt:=fun z hz=>TT.ev (HF _) (sh4 a b k d z) ⟨by(exact kV (by assumption) (by decide)),m0 hk,by(exact kV (by assumption) (by decide)),m0 hk2,kj (by lia),hk,kj (by lia),hk2,hz⟩
   induction q:DI a[k] b[k]with
   | true=>
    obtain⟨j,W⟩:=ih (k+1) (by lia) hk hk2
    refine⟨j+1,.turn0 (tt true ?_) (SS.ev (HF []) (sh5 a b k d) trivial) (.inl rfl) ?_⟩
    ·refine rK (hK hk ..) (rK (hK hk2 ..) (rK (DK q ..) ?_));exact aM.mpr rfl
    ·refine rK (show k+(bO (a.drop (k+1)) (b.drop (k+1))+1)=k+1+bO (a.drop (k+1)) (b.drop (k+1))from by(exact(Fx ..).symm)) ?_
     exact W
   | false=>
    refine⟨0,.stop (tt false ?_)⟩
    refine rK (hK hk ..) (rK (hK hk2 ..) ?_)
    induction q2:am [a[k]] [b[k]]with
    | false=>rfl
    | true=>exact absurd (E6 (aM.mp q2)).1 (EC q)
  ·have:k=b.length:=by exact Fg (by assumption) (by assumption)
   subst this
   refine rK (EF (l:=b) ..) ?_
   have e:bO (a.drop b.length) []=0:=by induction a.drop b.length<;>rfl
   refine rK (e ..) ?_
   exact⟨0,.stop (TT.ev (HF _) (sh3 a b b.length d) ⟨by(exact kV (by assumption) (by decide)),m0 hk,by(exact dR hb),eQ (DQ _)⟩)⟩
theorem vj(H:Ok1 cx mg mb sa ns):Told cx 814 1 oI:=by
 refine Told.fn0 fun a b {A ρ s xs d} r S hv=>af fun ob=>?_
 refine o02 ob fun o1 o2=>?_
 refine o11 (vk H a b d o1 o2 a.length 0 rfl (DU _) (DU _)) fun k W=>?_
 replace W:=(Gq ..)▸((Fs ..)▸((Fs ..)▸W))
 refine o21 (H.fns 814 (shF cx.P) (by kernel_rfl)) fun obj fd kk=>?_
 have HF:=ab H (l:=[]) aa.nil {tb:=adL []} 20
 have w:SS cx (shE cx.P d) (shF cx.P).body [.fr [("rest",.str a),("name",.str b)]] (.ret (.int (dV (bO a b)))) (shL a b (bO a b)):=by
  refine rK (sh0 ..) ?_
  exact SS.append (SS.ev HF (sh1 a b d) trivial) (SS.cons (a9 W) (SS.ev HF (sh6 a b _ d) trivial))
 have c:=aR (kws:=[]) (ks:=[]) (o:=⟨shE cx.P d,[.fr [("rest",.str a),("name",.str b)]],[]⟩) H r kk S hv (rfl) (sh7 _ a b) (sh8 _ a b d) rfl w
 exact ah.pick (σ':=[]) (sel:=[]) (r:=inv []) c (pick_from (by rfl) rfl rfl) trivial
theorem wt0(P:Params):(wtF P).body=[az (wtF P).body 0]++(.For (sA (wtS P)) (sB (wtS P)) (bL (wtS P)) [] (wtS P).pos::[az (wtF P).body 2]):=by kernel_rfl
theorem wt1(f:List Nat)(b d:Nat):(LV cx sa ns [] []).ss (wtE cx.P d) [az (wtF cx.P).body 0] [.fr [("figures",.str f),("base",.int (dV b))]]=some ⟨.next,wtL f b 0 none,[]⟩:=by kernel_rfl
theorem wt2(f:List Nat)(b n d:Nat)(c:Option Nat)(x:Nat):aF (T1 sa ns) (LV cx sa ns [] []) (wtE cx.P d) (sA (wtS cx.P)) (.str [x]) (wtL f b n c)=some ⟨(),wtL f b n (some x),[]⟩:=by induction c<;>kernel_rfl
noncomputable def wtB (z:Bool) (c:Nat):Int:=match z with | true=>dV c-48 | false=>(dV c-55).fmod 32
theorem wt3(f:List Nat)(b n d x:Nat)(z:Bool):(LV cx sa ns [] [(1220,49,57,z)]).ss (wtE cx.P d) (bL (wtS cx.P)) (wtL f b n (some x))=some ⟨.next,[.fr (("figures",.str f)::("base",.int (dV b))::("number",.int (dV n*dV b+wtB z x))::ze (some x))],[IntMulOk (dV n) (dV b),(!ltN [57] [x])=z]⟩:=by induction z<;>kernel_rfl
theorem wt4(f:List Nat)(b n d:Nat):(LV cx sa ns [] []).ex (wtE cx.P d) (sB (wtS cx.P)) (wtL f b n none)=some ⟨.str f,wtL f b n none,[]⟩:=by kernel_rfl
theorem wt5(f:List Nat)(b n d:Nat)(c:Option Nat):(LV cx sa ns [] []).ss (wtE cx.P d) [az (wtF cx.P).body 2] (wtL f b n c)=some ⟨.ret (.int (dV n)),wtL f b n c,[]⟩:=by induction c<;>kernel_rfl
theorem wt6(P:Params):(∀env x,foldedSetIterable (sB (wtS P)) env x=pure x)∧ ∀J v,letOwnedTupleGo (sA (wtS P)) (.ref J) v=pure ():=⟨fun _ _=>by kernel_rfl,fun _ _=>by kernel_rfl⟩
theorem wt7(P:Params)(f:List Nat)(b:Nat):bw (wtF P).dfl [] (wtF P).pars [.str f,.int (dV b)]=some ([("figures",.str f),("base",.int (dV b))]:List (Str×V)):=by kernel_rfl
theorem wt8(P:Params)(f:List Nat)(b d:Nat):enter (wtF P) d [("figures",.str f),("base",.int (dV b))] []=some ⟨wtE P d,[.fr [("figures",.str f),("base",.int (dV b))]],[]⟩:=by kernel_rfl
theorem u4{b c:Nat}(hb:b≤16)(h:bz b c=true)(n:Nat):dV n*dV b+wtB (!ltN [57] [c]) c=dV (n*b+b9 c):=
 have key: ∀b:Fin 17,∀c:Fin 128,bz b.1 c.1=false∨wtB (!ltN [57] [c.1]) c.1=dV (b9 c.1):=by decide+kernel
 (key ⟨b,EL hb⟩ ⟨c,um h⟩).elim (fun q=>absurd (h.symm.trans q) Eg) fun q=>congrArg (dV n*dV b+ ·) q
theorem zk(H:Ok1 cx mg mb sa ns)(f:List Nat){b:Nat}(hb:b=10∨b=16)(d:Nat)(hd: ∀c∈f,bz b c=true):
  ∃c',Fo cx (T1 sa ns) (LV cx sa ns [] []) (wtE cx.P d) (sA (wtS cx.P)) (bL (wtS cx.P)) (charAt f) (fun _=>True) .next (wtL f b (aH b 0 f) c') f.length 0 (wtL f b 0 none):=
 Fo.str (L:=wtL f b) (fun n c k=>wt2 f b n d c k) (fun n k c hk=>⟨_,by
  have bb:=SS.ev (ab H (l:=[]) aa.nil {tb:=adL _} 20) (wt3 f b n d k _) ⟨IntMulOk.of_right (by rcases hb with rfl | rfl<;>decide),rfl⟩
  dsimp only at bb
  rw[u4 (hb.elim (fun e=>kV (Eu e) (by decide)) Eu) (hd k hk) n]at bb
  exact bb,.inl rfl⟩) f [] 0 none rfl
theorem u3(H:Ok1 cx mg mb sa ns):Told cx 821 1 oB:=by
 refine Told.fn0 fun f b {A ρ s xs d} r S hv=>af fun ob=>?_
 refine o02 ob fun o1 o2=>?_
 have HF:=ab H (l:=[]) aa.nil {tb:=adL []} 20
 refine o11 (zk H f o1 d o2) fun c' W=>?_
 have ff:=gc (pos:=(wtS cx.P).pos) H HF (II.str (XX.ev HF (wt4 f b 0 d) trivial)) W (wt6 _).1 (wt6 _).2
 refine o21 (H.fns 821 (wtF cx.P) (by kernel_rfl)) fun obj fd kk=>?_
 have w:SS cx (wtE cx.P d) (wtF cx.P).body [.fr [("figures",.str f),("base",.int (dV b))]] (.ret (.int (dV (aH b 0 f)))) (wtL f b (aH b 0 f) c'):=by
  refine rK (wt0 ..) ?_
  exact SS.append (SS.ev HF (wt1 f b d) trivial) (SS.cons ff (SS.ev HF (wt5 f b _ d c') trivial))
 have c:=aR (kws:=[]) (ks:=[]) (o:=⟨wtE cx.P d,[.fr [("figures",.str f),("base",.int (dV b))]],[]⟩) H r kk S hv (rfl) (wt7 _ f b) (wt8 _ f b d) rfl w
 exact ah.pick (σ':=[]) (sel:=[]) (r:=inv []) c (pick_from (by rfl) rfl rfl) trivial
theorem la0(P:Params):(laF P).body=[az (laF P).body 0,az (laF P).body 1]++(.For (sA (laS P)) (sB (laS P)) (bL (laS P)) [] (laS P).pos::[az (laF P).body 3]):=by kernel_rfl
theorem la1(t:List Nat)(d:Nat):(LV cx sa ns [] []).ss (laE cx.P d) [az (laF cx.P).body 0,az (laF cx.P).body 1] [.fr [("text",.str t)]]=some ⟨.next,laL t 1 0 none,[]⟩:=by kernel_rfl
theorem la2(t:List Nat)(l k d:Nat)(c:Option Nat)(x:Nat):aF (T1 sa ns) (LV cx sa ns [] []) (laE cx.P d) (sA (laS cx.P)) (.str [x]) (laL t l k c)=some ⟨(),laL t l k (some x),[]⟩:=by induction c<;>kernel_rfl
theorem la3(t:List Nat)(l k d x:Nat)(z:Bool):(LV cx sa ns [] [(1200,11,20,z)]).ss (laE cx.P d) (bL (laS cx.P)) (laL t l k (some x))=some ⟨.next,laL t (match z with | true=>l+1 | false=>l) (match z with | true=>0 | false=>k+1) (some x),[am [x] [10]=z]⟩:=by induction z<;>kernel_rfl
theorem la4(t:List Nat)(l k d:Nat):(LV cx sa ns [] []).ex (laE cx.P d) (sB (laS cx.P)) (laL t l k none)=some ⟨.str t,laL t l k none,[]⟩:=by kernel_rfl
theorem la5(t:List Nat)(l k d:Nat)(c:Option Nat):(LV cx sa ns [] []).ss (laE cx.P d) [az (laF cx.P).body 3] (laL t l k c)=some ⟨.ret (.tup [.int (dV l),.int (dV k)]),laL t l k c,[]⟩:=by induction c<;>kernel_rfl
theorem la6(P:Params):(∀env x,foldedSetIterable (sB (laS P)) env x=pure x)∧ ∀J v,letOwnedTupleGo (sA (laS P)) (.ref J) v=pure ():=⟨fun _ _=>by kernel_rfl,fun _ _=>by kernel_rfl⟩
theorem la7(P:Params)(t:List Nat):bw (laF P).dfl [] (laF P).pars [.str t]=some ([("text",.str t)]:List (Str×V)):=by kernel_rfl
theorem la8(P:Params)(t:List Nat)(d:Nat):enter (laF P) d [("text",.str t)] []=some ⟨laE P d,[.fr [("text",.str t)]],[]⟩:=by kernel_rfl
theorem Aq(H:Ok1 cx mg mb sa ns)(t:List Nat)(d:Nat):
  ∃c',Fo cx (T1 sa ns) (LV cx sa ns [] []) (laE cx.P d) (sA (laS cx.P)) (bL (laS cx.P)) (charAt t) (fun _=>True) .next (laL t ((db t).1+1) (db t).2 c') t.length 0 (laL t 1 0 none):=
 Fo.str (L:=fun p:Nat×Nat=>laL t (p.1+1) p.2) (step:=bt) (fun p c k=>la2 t _ _ d c k) (fun p k c hk=>⟨_,SS.ev (ab H (l:=[]) aa.nil {tb:=adL _} 20) (la3 t (p.1+1) p.2 d k (DI k 10)) (by
   show(match DI k 10 with | true=>am [] [] | false=>false)=_
   induction DI k 10<;>rfl),.inl (by
   unfold bt
   induction DI k 10<;>rfl)⟩) t [] (0,0) none rfl
theorem wp(H:Ok1 cx mg mb sa ns):Told cx 793 1 pg:=by
 refine Told.fn0 fun t {A ρ s xs d} r S hv=>af fun ob=>?_
 have HF:=ab H (l:=[]) aa.nil {tb:=adL []} 20
 refine o11 (Aq H t d) fun c' W=>?_
 have ff:=gc (pos:=(laS cx.P).pos) H HF (II.str (XX.ev HF (la4 t 1 0 d) trivial)) W (la6 _).1 (la6 _).2
 refine o21 (H.fns 793 (laF cx.P) (by kernel_rfl)) fun obj fd kk=>?_
 have w:SS cx (laE cx.P d) (laF cx.P).body [.fr [("text",.str t)]] (.ret (.tup [.int (dV ((db t).1+1)),.int (dV (db t).2)])) (laL t ((db t).1+1) (db t).2 c'):=by
  refine rK (la0 ..) ?_
  exact SS.append (SS.ev HF (la1 t d) trivial) (SS.cons ff (SS.ev HF (la5 t _ _ d c') trivial))
 have c:=aR (kws:=[]) (ks:=[]) (o:=⟨laE cx.P d,[.fr [("text",.str t)]],[]⟩) H r kk S hv (rfl) (la7 _ t) (la8 _ t d) rfl w
 exact ah.pick (σ':=[]) (sel:=[]) (r:=inv []) c (pick_from (by rfl) rfl rfl) ⟨trivial,trivial,trivial⟩
noncomputable def cZ (ill:Bool):List V:=match ill with
 | true=>[.str zC]
 | false=>[]
noncomputable def vn:List V→Hp→Option (Out V):=d9 [.n] fun v=>some ⟨.tup [.ref 0,.str [(a8 v).2]],[.list (cZ (a8 v).1)],[]⟩
theorem sg0(d:Nat):bo 0 [1] ((LV cx sa ns [] []).call (d+1) (.old 828) [.int (dV 0)] [] [])=some ⟨.tup [.ref 0,.str [65533]],[.list (cZ true)],[]⟩:=by kernel_rfl
theorem sg1(v d:Nat):bo 0 [1] ((LV cx sa ns [] [(1223,7,18,false),(1223,31,37,true),(1223,22,46,true)]).call (d+1) (.old 828) [.int (dV v)] [] [])=some ⟨.tup [.ref 0,.str [65533]],[.list (cZ true)],[decide (dV v=dV 0)=false,decide (dV 55296≤dV v)=true,decide (dV v≤dV 57343)=true]⟩:=by kernel_rfl
theorem sg2(v d:Nat):bo 0 [1] ((LV cx sa ns [] [(1223,7,18,false),(1223,31,37,true),(1223,22,46,false),(1223,50,66,true)]).call (d+1) (.old 828) [.int (dV v)] [] [])=some ⟨.tup [.ref 0,.str [65533]],[.list (cZ true)],[decide (dV v=dV 0)=false,decide (dV 55296≤dV v)=true,decide (dV v≤dV 57343)=false,decide (dV 1114111<dV v)=true]⟩:=by kernel_rfl
noncomputable abbrev sgO (v:Nat):List Prop:=bif Ex 128 v then [an (dV (v-128)),v-128<32]else [v<1114112]
theorem sgS: ∀i∈Gb 159,∀d:Nat,bo 0 [bif EH i 31 then 2 else 1] ((LV cx sa ns [] []).call (d+1) (.old 828) [.int (dV (i+1))] [] [])=some ⟨.tup [.ref 0,.str [(a8 (i+1)).2]],[.list (cZ (a8 (i+1)).1)],sgO (i+1)⟩:=ui (by kernel_rfl)
theorem sg9(v d:Nat)(z:Bool):bo 0 [1] ((LV cx sa ns [] [(1223,7,18,false),(1223,31,37,false),(1223,50,66,false),(1225,14,20,true),(1225,7,27,false),(1227,7,18,false),(1227,52,65,false),(1229,16,22,false),(1229,35,57,z)]).call (d+1) (.old 828) [.int (dV v)] [] [])=some ⟨.tup [.ref 0,.str [v]],[.list (cZ z)],[decide (dV v=dV 0)=false,decide (dV 55296≤dV v)=false,decide (dV 1114111<dV v)=false,decide (dV 128≤dV v)=true,decide (dV v≤dV 159)=false,decide (dV v<dV 32)=false,decide (dV v=dV 127)=false,decide (dV 64976≤dV v)=false,decide (dV 65533<(dV v).fmod (dV 65536))=z,v<1114112]⟩:=by induction z<;>kernel_rfl
theorem By(v d:Nat)(z:Bool):bo 0 [1] ((LV cx sa ns [] [(1223,7,18,false),(1223,31,37,true),(1223,22,46,false),(1223,50,66,false),(1225,14,20,true),(1225,7,27,false),(1227,7,18,false),(1227,52,65,false),(1229,16,22,false),(1229,35,57,z)]).call (d+1) (.old 828) [.int (dV v)] [] [])=some ⟨.tup [.ref 0,.str [v]],[.list (cZ z)],[decide (dV v=dV 0)=false,decide (dV 55296≤dV v)=true,decide (dV v≤dV 57343)=false,decide (dV 1114111<dV v)=false,decide (dV 128≤dV v)=true,decide (dV v≤dV 159)=false,decide (dV v<dV 32)=false,decide (dV v=dV 127)=false,decide (dV 64976≤dV v)=false,decide (dV 65533<(dV v).fmod (dV 65536))=z,v<1114112]⟩:=by induction z<;>kernel_rfl
theorem Bx(v d:Nat):bo 0 [1] ((LV cx sa ns [] [(1223,7,18,false),(1223,31,37,true),(1223,22,46,false),(1223,50,66,false),(1225,14,20,true),(1225,7,27,false),(1227,7,18,false),(1227,52,65,false),(1229,16,22,true),(1229,7,31,true)]).call (d+1) (.old 828) [.int (dV v)] [] [])=some ⟨.tup [.ref 0,.str [v]],[.list (cZ true)],[decide (dV v=dV 0)=false,decide (dV 55296≤dV v)=true,decide (dV v≤dV 57343)=false,decide (dV 1114111<dV v)=false,decide (dV 128≤dV v)=true,decide (dV v≤dV 159)=false,decide (dV v<dV 32)=false,decide (dV v=dV 127)=false,decide (dV 64976≤dV v)=true,decide (dV v≤dV 65007)=true,v<1114112]⟩:=by kernel_rfl
theorem Bw(v d:Nat)(z:Bool):bo 0 [1] ((LV cx sa ns [] [(1223,7,18,false),(1223,31,37,true),(1223,22,46,false),(1223,50,66,false),(1225,14,20,true),(1225,7,27,false),(1227,7,18,false),(1227,52,65,false),(1229,16,22,true),(1229,7,31,false),(1229,35,57,z)]).call (d+1) (.old 828) [.int (dV v)] [] [])=some ⟨.tup [.ref 0,.str [v]],[.list (cZ z)],[decide (dV v=dV 0)=false,decide (dV 55296≤dV v)=true,decide (dV v≤dV 57343)=false,decide (dV 1114111<dV v)=false,decide (dV 128≤dV v)=true,decide (dV v≤dV 159)=false,decide (dV v<dV 32)=false,decide (dV v=dV 127)=false,decide (dV 64976≤dV v)=true,decide (dV v≤dV 65007)=false,decide (dV 65533<(dV v).fmod (dV 65536))=z,v<1114112]⟩:=by induction z<;>kernel_rfl
theorem jc{v:Nat}: ∀{l:List Nat},gj v l=true↔v∈l
 | []=>⟨fun h=>Eg (h:false=true),fun h=>absurd h EO⟩
 | x::l=>by
  rw[gj.c,Ei,jc (l:=l),D1,decide_eq_true_iff]
  constructor
  ·rintro(h | h)
   ·exact .inl (FX h).symm
   ·exact .inr h
  ·rintro(h | h)
   ·exact .inl (by exact rK (h ..) rfl)
   ·exact .inr h
theorem jd{v:Nat}{l:List Nat}(h:v∉l):gj v l=false:=by
 induction q:gj v l with
 | false=>rfl
 | true=>exact absurd (jc.mp q) h
theorem wt{v:Nat}(h1:65008≤v)(h2:v≤1114111):gj v jw=decide (65533<v % 65536):=by
 have a:(jw.all fun x=>DI x 11 || EH 65533 (x % 65536))=true:=by kernel_rfl
 have b:((Gb 17).all fun k=>aB (65536*k+65534) jw&&aB (65536*k+65535) jw)=true:=by kernel_rfl
 by_cases h:65533<v % 65536
 ·refine rK (decide_eq_true h ..) ?_
  have hk:v/65536<17:=by lia
  have:=DL.mp b (v/65536) (FN.mpr hk)
  rw[E5,aN,aN,decide_eq_true_iff,decide_eq_true_iff]at this
  refine jc.mpr ?_
  rcases(by lia:v=65536*(v/65536)+65534∨v=65536*(v/65536)+65535)with e | e
  ·refine rK (e ..) ?_;refine FL (e ..) ?_;refine rK (e ..) ?_;exact this.1
  ·refine rK (e ..) ?_;refine FL (e ..) ?_;refine rK (e ..) ?_;exact this.2
 ·refine rK (decide_eq_false h ..) ?_
  refine jd fun hm=>?_
  have:=DL.mp a v hm
  rw[Ei,ED]at this
  rcases this with q | q
  ·have:=DK q;lia
  ·exact h q
theorem tR{v:Nat}(h1:160≤v)(h2:v<65534):gj v jw=false:=by
 have a:(jw.all fun x=>DI x 11 || Ex 65534 x)=true:=by kernel_rfl
 refine jd fun hm=>?_
 have:=DL.mp a v hm
 rw[Ei,Ef]at this
 rcases this with q | q
 ·have:=DK q;lia
 ·exact absurd (by assumption) (Nat.not_le_of_lt (by assumption))
theorem sJ{v:Nat}(h:160≤v):nG.lookup v=none:=by
 have a:(nG.all fun x=>EH x.1 160)=true:=by kernel_rfl
 have key: ∀l:List (Nat×Nat),(∀x∈l,x.1<160)→l.lookup v=none:=by
  intro l
  induction l with
  | nil=>intro _;rfl
  | cons x l ih=>
   intro hx
   refine rK (DW ..) ?_
   have:(v==x.1)=false:=by
    have:=hx x (wj ..)
    simp;lia
   refine rK (this ..) ?_
   exact ih fun y hy=>hx y (DJ _ hy)
 exact key _ fun x hx=>ED.mp (DL.mp a x hx)
theorem fQ{v:Nat}(h:160≤v):a8 v=if(55296≤v∧v≤57343)∨1114111<v then(true,65533)else(fZ v,v):=by
 unfold a8;exact rK (sJ h ..) rfl
theorem mod_int(v:Nat):decide (dV 65533<(dV v).fmod (dV 65536))=decide (65533<v % 65536):=by
 have e:(dV v).fmod (dV 65536)=dV (v % 65536):=by
  show(dV v).fmod (65536:Int)=_
  refine rK (Int.fmod_eq_emod_of_nonneg _ (by decide) ..) ?_
  rfl
 refine rK (e ..) ?_
 by_cases h:65533<v % 65536
 ·refine rK (decide_eq_true h ..) ?_;exact m0 h
 ·refine rK (decide_eq_false h ..) ?_;exact eQ (D7 h)
theorem Ac{v:Nat}(h:v<65534):decide (dV 65533<(dV v).fmod (dV 65536))=false:=by
 refine rK (mod_int ..) (rK (Nat.mod_eq_of_lt (E7 h (by decide)) ..) ?_)
 exact decide_eq_false (Fc.mpr (ER h))
theorem As{v:Nat}(h1:160≤v)(h:v<64976):fZ v=false:=by
 refine rK (fY h1 ..) (rK (if_neg fun q=>absurd q.1 (FE.mpr h) ..) ?_)
 exact tR h1 (E7 h (by decide))
theorem vm(H:Ok1 cx mg mb sa ns):Told cx 828 1 vn:=by
 refine Told.fn0 fun v {A ρ s xs d} r S hv=>af fun _=>?_
 have go: ∀{l:List (Nat×Nat×Nat×Bool)} {k:Nat} {obs:List Prop} {i:Bool} {g:Nat},a8 v=(i,g)→bo 0 [k] ((LV cx sa ns [] l).call (d+1) (.old 828) [.int (dV v)] [] [])=some ⟨.tup [.ref 0,.str [g]],[.list (cZ i)],obs⟩→cw obs→ah cx A [] ρ s (.ref 828) xs [] [.list (cZ (a8 v).1)] (.tup [.ref 0,.str [(a8 v).2]]):=
  fun hn h ob=>by
   refine rK (hn ..) ?_
   exact aJ (kw:=[]) (kws:=[]) (ab H (l:=[]) aa.nil {tb:=adL _} 20) r S hv (rfl) h ob
 rcases Ez v 160 with h | h
 ·induction v with
  | zero=>exact go rfl (sg0 d) trivial
  | succ i=>
   refine go (Prod.eta _).symm (sgS i (FN.mpr (Ew h)) d) ?_
   unfold sgO
   induction Ex 128 (i+1)with
   | true=>exact⟨kj (kV (FY ..) (kV (D6 h) (by decide))),by show i+1-128<32;lia⟩
   | false=>exact E7 h (by decide)
 have n0:v≠0:=fun e=>absurd (e▸h) (by decide)
 have lo: ∀{k:Nat},k≤160→k≤v:=fun q=>kV q h
 rcases Ez v 55296 with h5 | h5
 ·have hn:a8 v=(false,v):=by exact rK (fQ h ..) (rK (if_neg (fun q=>q.elim (fun q=>absurd q.1 (FE.mpr h5)) fun q=>absurd (E7 q h5) (by decide)) ..) (rK (As h (E7 h5 (by decide)) ..) rfl))
  exact go hn (sg9 v d false) ⟨eP n0,cu h5,eQ (kV (D6 h5) (by decide)),dle (lo (by decide)),cu (lo (by decide)),eQ (lo (by decide)),eP (fun e=>absurd (e▸h) (by decide)),cu (E7 h5 (by decide)),Ac (E7 h5 (by decide)),E7 h5 (by decide)⟩
 rcases Ez 57343 v with h2 | h2
 ·rcases Ez 1114111 v with h3 | h3
  ·exact go (by exact rK (fQ h ..) (rK (if_pos (.inr h3) ..) rfl)) (sg2 v d) ⟨eP n0,dle h5,cu h2,m0 h3⟩
  have hn:a8 v=(fZ v,v):=by exact rK (fQ h ..) (rK (if_neg fun q=>q.elim (fun q=>absurd q.2 (FE.mpr h2)) fun q=>absurd q (Fc.mpr h3) ..) rfl)
  have n7:v≠127:=fun e=>absurd (e▸h) (by decide)
  rcases Ez v 64976 with h6 | h6
  ·exact go (hn.trans (by exact rK (As h h6 ..) rfl)) (By v d false) ⟨eP n0,dle h5,cu h2,eQ h3,dle (lo (by decide)),cu (lo (by decide)),eQ (lo (by decide)),eP n7,cu h6,Ac (E7 h6 (by decide)),DY h3 (by decide)⟩
  rcases Ez 65007 v with h7 | h7
  ·exact go (hn.trans (by exact rK (fY h ..) (rK (if_neg fun q=>absurd q.2 (FE.mpr h7) ..) (rK (wt h7 h3 ..) rfl)))) (Bw v d _) ⟨eP n0,dle h5,cu h2,eQ h3,dle (lo (by decide)),cu (lo (by decide)),eQ (lo (by decide)),eP n7,dle h6,cu h7,mod_int v,DY h3 (by decide)⟩
  ·exact go (hn.trans (by exact rK (fY h ..) (rK (if_pos ⟨h6,h7⟩ ..) rfl))) (Bx v d) ⟨eP n0,dle h5,cu h2,eQ h3,dle (lo (by decide)),cu (lo (by decide)),eQ (lo (by decide)),eP n7,dle h6,dle h7,DY h3 (by decide)⟩
 ·exact go (by exact rK (fQ h ..) (rK (if_pos (.inl ⟨h5,h2⟩) ..) rfl)) (sg1 v d) ⟨eP n0,dle h5,dle h2⟩
noncomputable def tPa:Addr×bx:=(807,lift 1 dS (kM true))
noncomputable def tTi:Addr×bx:=(800,lift 1 dS (kM false))
noncomputable def tWt:Addr×bx:=(821,lift 1 dS oB)
noncomputable def tSh:Addr×bx:=(814,lift 1 dS oI)
noncomputable def tLa:Addr×bx:=(793,lift 1 dS pg)
noncomputable def l0 (ill:Bool) (sg:Nat):List V→Hp→Option (Out V):=d9 [.n] fun v=>some ⟨.tup [.ref 0,.str [sg]],[.list (cZ ill)],[a8 v=(ill,sg)]⟩
noncomputable def tSg (ill:Bool) (sg:Nat):Addr×bx:=(828,lift 1 dS (l0 ill sg))
theorem sF(H:Ok1 cx mg mb sa ns)(ill:Bool)(sg:Nat):Told cx 828 1 (l0 ill sg):=by
 refine Told.fn0 fun v {A ρ s xs d} r S hv=>af fun ob=>?_
 have ob:a8 v=(ill,sg):=ob
 have:=(vm H).it r (D5 ..) S hv (o:=⟨.tup [.ref 0,.str [(a8 v).2]],[.list (cZ (a8 v).1)],[]⟩) rfl trivial
 replace this:=(ob ..)▸this
 exact this
noncomputable abbrev nbT (ill:Bool) (sg:Nat):List (Addr×bx):=[tPa,tWt,tSg ill sg]
noncomputable def vt (sem:Bool):List V:=match sem with
 | true=>[]
 | false=>[.str zB]
theorem nbA(d:Nat):bo 0 [2] ((LV cx sa ns (nbT true 0) []).call (d+2) (.old 835) [.str ([35])] [] [])=some ⟨.tup [.ref 0,.str [38,35],.int (dV 1)],[.list [.str sG]],[1≤sizeLine,1≤1,1≤1000,1≤sizeLine,2≤sizeLine]⟩:=by kernel_rfl
theorem nbB(x:Bool)(r:List Nat)(d:Nat):bo 0 [2] ((LV cx sa ns (nbT true 0) [(1235,7,19,true)]).call (d+2) (.old 835) [.str (35::xN x::r)] [] [])=some ⟨.tup [.ref 0,.str [38,35,xN x],.int (dV 2)],[.list [.str sG]],[r.length+2≤sizeLine,2≤r.length+2,r.length+2≤1000,decide (dV (tpN true (35::xN x::r) (lsD true) 2)=dV 2)=true,r.length+2≤sizeLine,3≤sizeLine]⟩:=by induction x<;>kernel_rfl
theorem nbC(c:Nat)(r:List Nat)(d:Nat):bo 0 [2] ((LV cx sa ns (nbT true 0) [(1233,17,40,false),(1235,7,19,true)]).call (d+2) (.old 835) [.str (35::c::r)] [] [])=some ⟨.tup [.ref 0,.str [38,35],.int (dV 1)],[.list [.str sG]],[r.length+2≤sizeLine,aq c [120,88]=false,1≤r.length+2,r.length+2≤1000,decide (dV (tpN true (35::c::r) (lsD false) 1)=dV 1)=true,r.length+2≤sizeLine,2≤sizeLine]⟩:=by kernel_rfl
theorem nbD(x:Bool)(r:List Nat)(ill sem:Bool)(sg d:Nat):bo 0 [match sem with | true=>2 | false=>4] ((LV cx sa ns (nbT ill sg) [(1235,7,19,false),(1238,7,31,sem)]).call (d+2) (.old 835) [.str (35::xN x::r)] [] [])=some ⟨.tup [.ref 0,.str [sg],.int (dV (match sem with | true=>tpN true (35::xN x::r) (lsD true) 2+1 | false=>tpN true (35::xN x::r) (lsD true) 2))],[.list (cZ ill++vt sem)],[r.length+2≤sizeLine,2≤r.length+2,r.length+2≤1000,decide (dV (tpN true (35::xN x::r) (lsD true) 2)=dV 2)=false,r.length+2≤sizeLine,16=10∨16=16,∀y∈ar (35::xN x::r) (some (dV 2)) (some (dV (tpN true (35::xN x::r) (lsD true) 2))),bz 16 y=true,a8 (aH 16 0 (ar (35::xN x::r) (some (dV 2)) (some (dV (tpN true (35::xN x::r) (lsD true) 2)))))=(ill,sg),r.length+2≤sizeLine,am (ar (35::xN x::r) (some (dV (tpN true (35::xN x::r) (lsD true) 2))) (some (dV (tpN true (35::xN x::r) (lsD true) 2+1)))) [59]=sem]++(match sem with | true=>[] | false=>[(cZ ill).length+1≤sizeLine])⟩:=by induction ill<;>induction sem<;>induction x<;>kernel_rfl
theorem nbE(c:Nat)(r:List Nat)(ill sem:Bool)(sg d:Nat):bo 0 [match sem with | true=>2 | false=>4] ((LV cx sa ns (nbT ill sg) [(1233,17,40,false),(1235,7,19,false),(1238,7,31,sem)]).call (d+2) (.old 835) [.str (35::c::r)] [] [])=some ⟨.tup [.ref 0,.str [sg],.int (dV (match sem with | true=>tpN true (35::c::r) (lsD false) 1+1 | false=>tpN true (35::c::r) (lsD false) 1))],[.list (cZ ill++vt sem)],[r.length+2≤sizeLine,aq c [120,88]=false,1≤r.length+2,r.length+2≤1000,decide (dV (tpN true (35::c::r) (lsD false) 1)=dV 1)=false,r.length+2≤sizeLine,10=10∨10=16,∀y∈ar (35::c::r) (some (dV 1)) (some (dV (tpN true (35::c::r) (lsD false) 1))),bz 10 y=true,a8 (aH 10 0 (ar (35::c::r) (some (dV 1)) (some (dV (tpN true (35::c::r) (lsD false) 1)))))=(ill,sg),r.length+2≤sizeLine,am (ar (35::c::r) (some (dV (tpN true (35::c::r) (lsD false) 1))) (some (dV (tpN true (35::c::r) (lsD false) 1+1)))) [59]=sem]++(match sem with | true=>[] | false=>[(cZ ill).length+1≤sizeLine])⟩:=by induction ill<;>induction sem<;>kernel_rfl
theorem tc(H:Ok1 cx mg mb sa ns)(ill:Bool)(sg:Nat):aa cx (clT (nbT ill sg)):=aa.cons (Told.tells (a:=807) (kK H true)) (aa.cons (Told.tells (u3 H)) (aa.cons (Told.tells (sF H ill sg)) aa.nil))
noncomputable def cN (tk:List Tk):List V:=tk.dropLast.map fun t=>V.str t.s
noncomputable def cM (tk:List Tk):List Nat:=(tk.getLast?.map Tk.s).getD []
theorem cJ(c:Nat): ∀l:List Nat,aq c l=aB c l
 | []=>rfl
 | x::l=>by
  refine rK (aq.c ..) (rK (aB.c ..) ?_)
  have:am [x] [c]=DI x c:=by
   show(match DI x c with | true=>am [] [] | false=>false)=_
   induction DI x c<;>rfl
  refine rK (this ..) (rK (cJ c l ..) ?_)
  induction DI x c<;>rfl
theorem jJ(b:Bool): ∀r:List Nat,(r.takeWhile fun c=>aB c (lsD b)==true)=(ad b r).1
 | []=>rfl
 | c::r=>by
  refine rK (ad.c ..) ?_
  rw[Ed,←cJ]
  induction aq c (lsD b)with
  | true=>exact congrArg (c:: ·) (jJ b r)
  | false=>rfl
theorem hE(b:Bool)(pre r:List Nat):tpN true (pre++r) (lsD b) pre.length=pre.length+(ad b r).1.length:=by
 unfold tpN
 exact rK (Fq ..) (rK (jJ ..) rfl)
theorem eJ{k n d:Nat}(h:k≤n):bv (some (dV k)) d n=k:=by
 show(match Ex k n with | true=>k | false=>n)=k
 exact rK (Ef.mpr h ..) rfl
theorem w8{k n d:Nat}(h:n<k):bv (some (dV k)) d n=n:=by
 show(match Ex k n with | true=>k | false=>n)=n
 induction q:Ex k n with
 | true=>have:=Ef.mp q;exact absurd (by assumption) (Nat.not_le_of_lt (by assumption))
 | false=>rfl
theorem m8{α:Type}(x y z:List α):ar (x++(y++z)) (some (dV x.length)) (some (dV (x.length+y.length)))=y:=by
 unfold ar
 have h:(x++(y++z)).length=x.length+(y.length+z.length):=by simp
 exact rK (eJ (by lia) ..) (rK (eJ (by exact Gu (id (Eh h))) ..) (rK (Fq ..) (rK (EI ..) (rK (List.take_left ..) rfl))))
theorem pK{α:Type}(x z:List α):ar (x++z) (some (dV x.length)) (some (dV (x.length+1)))=z.take 1:=by
 unfold ar
 have h:(x++z).length=x.length+z.length:=by simp
 have c1:bv (some (dV x.length)) 0 (x++z).length=x.length:=eJ (by exact Gu (id (Eh h)))
 rw[c1,Fq]
 induction z with
 | nil=>simp
 | cons a z=>
  exact rK (eJ (by rw[h,D0];lia) ..) (rK (EI ..) rfl)
theorem l8(rest:List Nat):am (rest.take 1) [59]=(bZ rest).isSome:=by
 induction rest with
 | nil=>rfl
 | cons x r=>
  show am [x] [59]=(bZ (x::r)).isSome
  show(match DI x 59 with | true=>am [] [] | false=>false)=(match DI x 59 with | true=>some r | false=>none).isSome
  induction DI x 59<;>rfl
theorem eh(ill sem z:Bool)(v sg:Nat):cN (dO ill sem z v sg)=cZ ill++vt sem∧cM (dO ill sem z v sg)=[sg]:=by
 induction ill<;>induction sem<;>exact⟨rfl,rfl⟩
theorem kl(b:Bool)(pre r:List Nat):cN (dj b pre r).1=cZ (a8 (aH (cX b) 0 (ad b r).1)).1++vt (bZ (ad b r).2).isSome∧cM (dj b pre r).1=[(a8 (aH (cX b) 0 (ad b r).1)).2]∧(dj b pre r).2.1.length=(match(bZ (ad b r).2).isSome with | true=>pre.length+(ad b r).1.length+1 | false=>pre.length+(ad b r).1.length):=by
 unfold dj
 dsimp only
 induction bZ (ad b r).2 with
 | some r'=>
  refine⟨(eh _ true _ _ _).1,(eh _ true _ _ _).2,?_⟩
  show(pre++((ad b r).1++[59])).length=pre.length+(ad b r).1.length+1
  refine rK (pm ..) (rK (pm ..) ?_)
  rfl
 | none=>
  refine⟨(eh _ false _ _ _).1,(eh _ false _ _ _).2,?_⟩
  exact pm
theorem v8(H:Ok1 cx mg mb sa ns){A:Around}{ρ:Ids}{s:Shared}{xs:List Value}{d:Nat}(rm:aj A (d+2))(S:Sat cx [] ρ s.heap)(r:List Nat)(hl:r.length≤600)(hv:VRs ([]:Hp).length ρ s.heap [.str (35::r)] xs):
  ah cx A [] ρ s (.ref 835) xs [] [.list (cN (ek r).1)] (.tup [.ref 0,.str (cM (ek r).1),.int (dV (ek r).2.1.length)]):=by
 have hs:=sizeLine_eq
 have HF:=fun ill sg l=>ab H (tc H ill sg) {tb:=adL l} 20
 induction r with
 | nil=>exact aJ (kw:=[]) (kws:=[]) (HF true 0 _) rm S hv (rfl) (nbA d) ⟨by(exact DO _),DQ _,by(exact DO _),by(exact DO _),by show 2≤sizeLine;(exact D5 ..)⟩
 | cons c r=>
  replace hl:=(D0 ..)▸hl
  unfold ek
  dsimp only
  induction hx:aq c [120,88]with
  | true=>
   refine o11 (zj hx) fun x e1q=>?_;subst e1q
   have bad:(ad true r).1=[]→ah cx A [] ρ s (.ref 835) xs [] [.list [.str sG]] (.tup [.ref 0,.str [38,35,xN x],.int (dV 2)]):=fun h0=>by
    have e:=hE true [35,xN x] r
    replace e:=(h0 ..)▸e
    have e:tpN true (35::xN x::r) (lsD true) 2=2:=e
    exact aJ (kw:=[]) (kws:=[]) (HF true 0 _) rm S hv (rfl) (nbB x r d) ⟨by(exact DY (by assumption) (by decide)),by(exact D5 ..),by(exact DY (by assumption) (by decide)),by refine rK (e ..) ?_;exact decide_eq_true rfl,by(exact DY (by assumption) (by decide)),by show 3≤sizeLine;(exact D5 ..)⟩
   induction r with
   | nil=>exact bad rfl
   | cons c r=>
    replace hl:=(D0 ..)▸hl
    show ah cx A [] ρ s (.ref 835) xs [] [.list (cN (iT (xN x) (c::r)).1)] (.tup [.ref 0,.str (cM (iT (xN x) (c::r)).1),.int (dV (iT (xN x) (c::r)).2.1.length)])
    unfold iT
    dsimp only
    induction hd:aq c (lsD true)with
    | false=>exact bad (ad.f hd)
    | true=>
     have hne:(ad true (c::r)).1.length≠0:=ad.t hd
     have hsp:=dQ true (c::r)
     have hdg:=fI true (c::r)
     refine o03 (kl true [35,xN x] (c::r)) fun t1 t2 t3=>?_
     have e1:tpN true (35::xN x::c::r) (lsD true) 2=2+(ad true (c::r)).1.length:=hE true [35,xN x] (c::r)
     have e2:ar (35::xN x::c::r) (some (dV 2)) (some (dV (2+(ad true (c::r)).1.length)))=(ad true (c::r)).1:=by
      have:=m8 [35,xN x] (ad true (c::r)).1 (ad true (c::r)).2
      replace this:=(hsp ..)▸this
      exact this
     have e3:ar (35::xN x::c::r) (some (dV (2+(ad true (c::r)).1.length))) (some (dV (2+(ad true (c::r)).1.length+1)))=(ad true (c::r)).2.take 1:=by
      have:=pK ([35,xN x]++(ad true (c::r)).1) (ad true (c::r)).2
      replace this:=(pm ..)▸((hsp ..)▸((DV ..)▸this))
      exact this
     have run:=aJ (kw:=[]) (kws:=[]) (HF (a8 (aH 16 0 (ad true (c::r)).1)).1 (a8 (aH 16 0 (ad true (c::r)).1)).2 _) rm S hv (rfl) (nbD x (c::r) (a8 (aH 16 0 (ad true (c::r)).1)).1 (bZ (ad true (c::r)).2).isSome (a8 (aH 16 0 (ad true (c::r)).1)).2 d)
      (by
       refine rK (e1 ..) ?_
       refine cG (l:=[_,_,_,_,_,_,_,_,_,_]) ⟨by refine rK (D0 ..) ?_;(exact DY (by assumption) (by decide)),by refine rK (D0 ..) ?_;(exact D5 ..),by refine rK (D0 ..) ?_;(exact DY (by assumption) (by decide)),decide_eq_false fun q=>by have:=FX q;lia,by refine rK (D0 ..) ?_;lia,.inr rfl,by refine rK (e2 ..) ?_;exact hdg,by exact rK (e2 ..) rfl,by rw[D0];lia,by show _=_;rw[e3];exact l8 _⟩ ?_
       induction(bZ (ad true (c::r)).2).isSome with
       | true=>trivial
       | false=>show(cZ _).length+1≤sizeLine;induction(a8 (aH 16 0 (ad true (c::r)).1)).1<;>(refine rK (hs ..) ?_;decide))
     dsimp only at run
     replace run:=(e1 ..)▸run
     refine rK (t1 ..) (rK (t2 ..) (rK (t3 ..) ?_))
     exact run
  | false=>
   dsimp only
   induction hd:aq c (lsD false)with
   | false=>
    have h0:(ad false (c::r)).1=[]:=ad.f hd
    have e:=hE false [35] (c::r)
    replace e:=(h0 ..)▸e
    have e:tpN true (35::c::r) (lsD false) 1=1:=e
    exact aJ (kw:=[]) (kws:=[]) (HF true 0 _) rm S hv (rfl) (nbC c r d) ⟨by lia,hx,by lia,by lia,by refine rK (e ..) ?_;exact decide_eq_true rfl,by lia,by show 2≤sizeLine;lia⟩
   | true=>
    have hne:(ad false (c::r)).1.length≠0:=ad.t hd
    have hsp:=dQ false (c::r)
    have hdg:=fI false (c::r)
    refine o03 (kl false [35] (c::r)) fun t1 t2 t3=>?_
    have e1:tpN true (35::c::r) (lsD false) 1=1+(ad false (c::r)).1.length:=hE false [35] (c::r)
    have e2:ar (35::c::r) (some (dV 1)) (some (dV (1+(ad false (c::r)).1.length)))=(ad false (c::r)).1:=by
     have:=m8 [35] (ad false (c::r)).1 (ad false (c::r)).2
     replace this:=(hsp ..)▸this
     exact this
    have e3:ar (35::c::r) (some (dV (1+(ad false (c::r)).1.length))) (some (dV (1+(ad false (c::r)).1.length+1)))=(ad false (c::r)).2.take 1:=by
     have:=pK ([35]++(ad false (c::r)).1) (ad false (c::r)).2
     replace this:=(pm ..)▸((hsp ..)▸((DV ..)▸this))
     exact this
    have run:=aJ (kw:=[]) (kws:=[]) (HF (a8 (aH 10 0 (ad false (c::r)).1)).1 (a8 (aH 10 0 (ad false (c::r)).1)).2 _) rm S hv (rfl) (nbE c r (a8 (aH 10 0 (ad false (c::r)).1)).1 (bZ (ad false (c::r)).2).isSome (a8 (aH 10 0 (ad false (c::r)).1)).2 d)
     (by
      refine rK (e1 ..) ?_
      refine cG (l:=[_,_,_,_,_,_,_,_,_,_,_]) ⟨by lia,hx,by lia,by lia,decide_eq_false fun q=>by have:=FX q;lia,by lia,.inl rfl,by refine rK (e2 ..) ?_;exact hdg,by exact rK (e2 ..) rfl,by lia,by show _=_;rw[e3];exact l8 _⟩ ?_
      induction(bZ (ad false (c::r)).2).isSome with
      | true=>trivial
      | false=>show(cZ _).length+1≤sizeLine;induction(a8 (aH 10 0 (ad false (c::r)).1)).1<;>(refine rK (hs ..) ?_;decide))
    dsimp only at run
    replace run:=(e1 ..)▸run
    refine rK (t1 ..) (rK (t2 ..) (rK (t3 ..) ?_))
    exact run
noncomputable abbrev naF (P:Params):Fn:=fnN 840
noncomputable abbrev naE (P:Params) (d:Nat):EE:=⟨0,[("rest",1)],(naF P).scope,d⟩
noncomputable abbrev naS (P:Params) (i:Nat):Stmt:=az (naF P).body i
noncomputable abbrev na1 (P:Params):Expr:=(qL (sA (naS P 0))).getD 0 default
noncomputable abbrev na2 (P:Params):Expr:=sA (naS P 1)
noncomputable abbrev na3 (P:Params):Expr:=(qL (sA (naS P 3))).getD 0 default
noncomputable def du:List (List Nat):=[[97,109,112,59],[108,116,59],[110,111,116,59],[110,111,116,105,110,59],[110,111,116,110,105,59],[97,110],[112,97],[116,105,109]]
noncomputable def qY:List (Str×V):=[("amp",.str [38]),("amp;",.str [38]),("lt",.str [60]),("lt;",.str [60]),("not",.str [172]),("not;",.str [172]),("notin;",.str [8713]),("notni;",.str [8716])]
noncomputable abbrev naL (r:List Nat) (fm:List (Str×V)) (tl:Hp):Hp:=.fr fm::.cell (some (.str r))::tl
noncomputable abbrev naC (P:Params) (n d:Nat) (e:Expr):EE:=⟨n,[("rest",1)],a6 (lcS e) (naF P).scope,d⟩
theorem v9(P:Params):(naF P).body=[naS P 0]++(.Assign [sB (naS P 1)] (na2 P) (naS P 1).pos::[naS P 2,naS P 3,naS P 4,naS P 5]):=by kernel_rfl
theorem fS(P:Params):na1 P=.ListComp (qA (na1 P)) [⟨qB (na1 P),qC (na1 P),exD (na1 P),0⟩] (lcS (na1 P)) (na1 P).pos∧na2 P=.ListComp (qA (na2 P)) [⟨qB (na2 P),qC (na2 P),exD (na2 P),0⟩] (lcS (na2 P)) (na2 P).pos∧na3 P=.ListComp (qA (na3 P)) [⟨qB (na3 P),qC (na3 P),exD (na3 P),0⟩] (lcS (na3 P)) (na3 P).pos:=⟨by kernel_rfl,by kernel_rfl,by kernel_rfl⟩
structure u1(cells:List (Str×Nat))(out:List (Str×Nat))(e:Expr):Prop where
 clos:dH cells (lcS e).names []=some out
 kind:(lcS e).kind=.function
 cell: ∀x∈(lcS e).names,x.2≠ .cell
 names: ∀x∈(lcS e).names,x.2=.local→(lcS e).names.lookup x.1=some .local
 fold: ∀env x,foldedSetIterable (qC e) env x=pure x
 own: ∀J v,letOwnedTupleGo (qB e) (.ref J) v=pure ()
noncomputable def v6:NameKind→Bool
 | .cell=>false
 | _=>true
noncomputable def o9 (names:List (Str×NameKind)):List (Str×NameKind)→Bool
 | []=>true
 | p::r=>decide (p.2=.local→names.lookup p.1=some .local)&&o9 names r
theorem bK{names:List (Str×NameKind)}: ∀{l:List (Str×NameKind)},o9 names l=true→ ∀x∈l,x.2=.local→names.lookup x.1=some .local
 | [],_,x,hx,_=>nomatch hx
 | _::r,h,x,hx,hk=>aO h fun q h=>(D1.mp hx).elim (fun e=>of_decide_eq_true q (e▸hk) |>fun z=>e▸z) fun hx=>bK h x hx hk
theorem ce{l:List (Str×NameKind)}(h:(l.all fun x=>v6 x.2)=true): ∀x∈l,x.2≠ .cell:=fun x hx e=>by
 have:=DL.mp h x hx
 replace this:=(e ..)▸this;cases this
theorem yz(P:Params):u1 [("rest",1)] [("rest",1)] (na1 P):=⟨by kernel_rfl,by kernel_rfl,ce (by kernel_rfl),bK (by kernel_rfl),fun _ _=>by kernel_rfl,fun _ _=>by kernel_rfl⟩
theorem yx(P:Params):u1 [("rest",1)] [("rest",1)] (na2 P):=⟨by kernel_rfl,by kernel_rfl,ce (by kernel_rfl),bK (by kernel_rfl),fun _ _=>by kernel_rfl,fun _ _=>by kernel_rfl⟩
theorem yw(P:Params):u1 [("rest",1)] [] (na3 P):=⟨by kernel_rfl,by kernel_rfl,ce (by kernel_rfl),bK (by kernel_rfl),fun _ _=>by kernel_rfl,fun _ _=>by kernel_rfl⟩
noncomputable def lN (x:Str):Option (List Nat)→List (Str×V)
 | none=>[]
 | some w=>[(x,.str w)]
noncomputable def aY (l:List Nat):List V:=l.map fun n=> .int (dV n)
noncomputable abbrev n1L (r:List Nat) (ys:List V) (w:Option (List Nat)):Hp:=naL r [] [.fr [],.list (aC du),.list ys,.fr (lN "word" w)]
theorem n1a(r:List Nat)(d:Nat):(LV cx sa ns [tSh] []).ex (naE cx.P (d+2)) (qC (na1 cx.P)) (naL r [] [])=some ⟨.ref 3,naL r [] [.fr [],.list (aC du)],[]⟩:=by kernel_rfl
theorem n1b(r:List Nat)(ys:List V)(o:Option (List Nat))(w:List Nat)(d:Nat):aF (T1 sa ns) (LV cx sa ns [tSh] []) (naC cx.P 5 (d+2) (na1 cx.P)) (qB (na1 cx.P)) (.str w) (n1L r ys o)=some ⟨(),n1L r ys (some w),[]⟩:=by induction o<;>kernel_rfl
theorem n1c(r:List Nat)(ys:List V)(w:List Nat)(d:Nat):(LV cx sa ns [tSh] []).ex (naC cx.P 5 (d+2) (na1 cx.P)) (qA (na1 cx.P)) (n1L r ys (some w))=some ⟨.int (dV (bO r w)),n1L r ys (some w),[r.length≤1000,w.length≤1000]⟩:=by kernel_rfl
theorem n1d(P:Params):exD (na1 P)=[]:=by kernel_rfl
theorem n1e(r:List Nat)(ys:List V)(w:List Nat):eV (n1L r (aY (du.map (bO r))) (some w)) [0,1,4] [0,1,4]=some (naL r [] [.list (aY (du.map (bO r)))]):=by kernel_rfl
theorem lZ(H:Ok1 cx mg mb sa ns):aa cx (clT [tSh]):=aa.cons (Told.tells (vj H)) aa.nil
theorem Ab(H:Ok1 cx mg mb sa ns)(r:List Nat)(hr:r.length≤600)(d:Nat): ∀(todo done:List (List Nat)) (o:Option (List Nat)),du=done++todo→
  ∃o',(todo≠[]→ ∃w,o'=some w)∧(todo=[]→o'=o)∧Cp cx (T1 sa ns) (LV cx sa ns [tSh] []) (naC cx.P 5 (d+2) (na1 cx.P)) (qB (na1 cx.P)) (exD (na1 cx.P)) (qA (na1 cx.P)) (fun k=>(aC du)[k]?) (fun σ'=>σ'[3]?=some (.list (aC du))) 4 (n1L r (aY (du.map (bO r))) o') todo.length done.length (n1L r (aY (done.map (bO r))) o):=by
 have hs:=sizeLine_eq
 have HF:=ab H (lZ H) {tb:=adL []} 20
 intro todo
 induction todo with
 | nil=>
  intro done o h
  refine⟨o,fun q=>absurd rfl q,fun _=>rfl,?_⟩
  have e:du=done:=by exact rK (h ..) (rK (D2 ..) rfl)
  refine rK (e ..) ?_
  refine .done ?_
  unfold aC
  simp
 | cons w todo ih=>
  intro done o h
  obtain⟨o',h1,h2,c⟩:=ih (done++[w]) (some w) (by refine rK (h ..) ?_;simp)
  have hw:w.length≤6:=by
   have a:(du.all fun w=>Ex w.length 6)=true:=by kernel_rfl
   exact Ef.mp (DL.mp a w (by refine rK (h ..) ?_;exact EA _ (wj ..)))
  refine⟨o',(fun _=>?_),(fun q=>by cases q),?_⟩
  ·induction todo with
   | nil=>exact⟨w,h2 rfl⟩
   | cons a b=>exact h1 (by intro q;cases q)
  ·have hi:(aC du)[done.length]?=some (.str w):=by
    unfold aC
    refine rK (h ..) ?_
    simp
   have hl:(aY (done.map (bO r))).length≤sizeLine:=by
    have:done.length≤8:=by
     have:=congrArg Ea h
     replace this:=(pm ..)▸this
     have e:du.length=8:=rfl
     exact Gu (id (Eh this))
    unfold aY
    simp
    exact kV (by assumption) (by decide)
   refine .keep0 hi (n1b r _ o w d) trivial (by refine rK (n1d ..) ?_;exact .nil) (XX.ev HF (n1c r _ w d) ⟨by(exact kV (by assumption) (by decide)),by show w.length≤1000;(exact kV (by assumption) (by decide))⟩) rfl hl rfl ?_
   have e:aY (done.map (bO r))++[.int (dV (bO r w))]=aY ((done++[w]).map (bO r)):=by unfold aY;simp
   show Cp cx _ _ _ _ _ _ _ _ 4 _ todo.length (done.length+1) (n1L r (aY (done.map (bO r))++[.int (dV (bO r w))]) (some w))
   refine rK (e ..) ?_
   replace c:=(pm ..)▸c
   exact c
theorem Aa(H:Ok1 cx mg mb sa ns)(r:List Nat)(hr:r.length≤600)(d:Nat):XX cx (naE cx.P (d+2)) (na1 cx.P) (naL r [] []) (.ref 2) (naL r [] [.list (aY (du.map (bO r)))]):=by
 have HF:=ab H (lZ H) {tb:=adL []} 20
 have k:=yz cx.P
 refine o13 (Ab H r hr d du [] none rfl) fun o' h1 _ c=>?_
 obtain⟨w,rfl⟩:=h1 (by intro q;cases q)
 refine rK ((fS cx.P).1) ?_
 exact XX.lc (j:=2) (mf:=lN "word" (some w)) H HF (II.list (i:=3) (xs:=aC du) (XX.ev HF (n1a r d) trivial) rfl) (fun h=>h) k.clos k.kind k.cell k.names c k.fold k.own rfl (pick_from (n1e r [] w) rfl rfl) (by show¬(5∈[0,1,4]);decide) rfl
noncomputable abbrev n2L (r:List Nat) (fm:List (Str×V)) (c:List V) (ys:List V) (w:Option (List Nat)):Hp:=naL r fm [.list c,.list ys,.fr (lN "name" w)]
theorem n2a(r:List Nat)(fm:List (Str×V))(c:List V)(d:Nat):(LV cx sa ns [] []).ex (naE cx.P (d+2)) (qC (na2 cx.P)) (naL r fm [.list c])=some ⟨.ref 4,naL r fm [.list c,.fr [],.dict qY],[]⟩:=by kernel_rfl
theorem n2b(r:List Nat)(fm:List (Str×V))(c ys:List V)(o:Option (List Nat))(w:List Nat)(d:Nat):aF (T1 sa ns) (LV cx sa ns [] []) (naC cx.P 4 (d+2) (na2 cx.P)) (qB (na2 cx.P)) (.str w) (n2L r fm c ys o)=some ⟨(),n2L r fm c ys (some w),[]⟩:=by induction o<;>kernel_rfl
theorem n2c(r:List Nat)(fm:List (Str×V))(c ys:List V)(w:List Nat)(d:Nat)(z:Bool):(LV cx sa ns [] [(1243,48,72,z)]).tst (naC cx.P 4 (d+2) (na2 cx.P)) ((exD (na2 cx.P)).getD 0 default) (n2L r fm c ys (some w))=some ⟨z,n2L r fm c ys (some w),[w.length≤sizeLine,r.length≤sizeLine,am (ar r none (some (dV w.length))) w=z]⟩:=by induction z<;>kernel_rfl
theorem n2d(P:Params):exD (na2 P)=[(exD (na2 P)).getD 0 default]:=by kernel_rfl
theorem n2e(r:List Nat)(fm:List (Str×V))(c ys:List V)(w:List Nat)(d:Nat):(LV cx sa ns [] []).ex (naC cx.P 4 (d+2) (na2 cx.P)) (qA (na2 cx.P)) (n2L r fm c ys (some w))=some ⟨.str w,n2L r fm c ys (some w),[]⟩:=by kernel_rfl
noncomputable def cT:List (List Nat):=[[97,109,112],[97,109,112,59],[108,116],[108,116,59],[110,111,116],[110,111,116,59],[110,111,116,105,110,59],[110,111,116,110,105,59]]
noncomputable def pfx (w r:List Nat):Bool:=am (ar r none (some (dV w.length))) w
theorem qZ:j8 qY=fun k=>(aC cT)[k]?:=by
 funext k
 match k with
 | 0=>rfl
 | 1=>rfl
 | 2=>rfl
 | 3=>rfl
 | 4=>rfl
 | 5=>rfl
 | 6=>rfl
 | 7=>rfl
 | n+8=>rfl
theorem eG(l:List Nat):nx (.list (aY l)):=by
 have h1: ∀(g:Nat→Prop) (l:List Nat),dI g (aY l):=fun g l=>by
  induction l with
  | nil=>trivial
  | cons a l ih=>exact⟨trivial,ih⟩
 have h2: ∀(u:Nat→Nat) (l:List Nat),dK u (aY l)=aY l:=fun u l=>by
  induction l with
  | nil=>rfl
  | cons a l ih=>exact congrArg (V.int (dV a):: ·) ih
 exact⟨fun g=>h1 g l,fun u=>congrArg AO.list (h2 u l)⟩
theorem eA(l:List (List Nat)):nx (.list (aC l)):=by
 have h1: ∀(g:Nat→Prop) (l:List (List Nat)),dI g (aC l):=fun g l=>by
  induction l with
  | nil=>trivial
  | cons a l ih=>exact⟨trivial,ih⟩
 have h2: ∀(u:Nat→Nat) (l:List (List Nat)),dK u (aC l)=aC l:=fun u l=>by
  induction l with
  | nil=>rfl
  | cons a l ih=>exact congrArg (V.str a:: ·) ih
 exact⟨fun g=>h1 g l,fun u=>congrArg AO.list (h2 u l)⟩
theorem ug{k a b:Nat}(h:aB k [a,b]=true):k=a∨k=b:=by
 rw[aN,decide_eq_true_iff]at h
 simpa using h
theorem iV{k a b c:Nat}(h:aB k [a,b,c]=true):k=a∨k=b∨k=c:=by
 rw[aN,decide_eq_true_iff]at h
 simpa using h
theorem wB(H:Ok1 cx mg mb sa ns): ∀a,cx.h₀.get? a=none→(a==sysModules)=false:=fun a ha=>by
 refine o11 H.B.sm fun o ho=>?_
 induction q:a==sysModules with
 | false=>rfl
 | true=>replace ha:=(ho ..)▸((beq_iff_eq.mp q ..)▸ha);cases ha
theorem z9(H:Ok1 cx mg mb sa ns)(r:List Nat)(fm:List (Str×V))(c:List V)(hr:r.length≤600)(d:Nat): ∀(todo done:List (List Nat)) (o:Option (List Nat)),cT=done++todo→
  ∃o',Cp cx (T1 sa ns) (LV cx sa ns [] []) (naC cx.P 4 (d+2) (na2 cx.P)) (qB (na2 cx.P)) (exD (na2 cx.P)) (qA (na2 cx.P)) (j8 qY) (fun _=>True) 3 (n2L r fm c (aC (cT.filter fun w=>pfx w r)) o') todo.length done.length (n2L r fm c (aC (done.filter fun w=>pfx w r)) o):=by
 have hs:=sizeLine_eq
 have HF:=fun l=>ab H (l:=[]) aa.nil {tb:=adL l} 20
 refine rK (qZ ..) ?_
 intro todo
 induction todo with
 | nil=>
  intro done o h
  have e:cT=done:=by exact rK (h ..) (rK (D2 ..) rfl)
  refine rK (e ..) ?_
  refine⟨o,.done ?_⟩
  unfold aC
  simp
 | cons w todo ih=>
  intro done o h
  obtain⟨o',cc⟩:=ih (done++[w]) (some w) (by refine rK (h ..) ?_;simp)
  have hw:w.length≤6:=by
   have a:(cT.all fun w=>Ex w.length 6)=true:=by kernel_rfl
   exact Ef.mp (DL.mp a w (by refine rK (h ..) ?_;exact EA _ (wj ..)))
  have hi:(aC cT)[done.length]?=some (.str w):=by
   unfold aC
   refine rK (h ..) ?_
   simp
  have hl:(aC (done.filter fun w=>pfx w r)).length≤sizeLine:=by
   have h1:done.length≤8:=by
    have:=congrArg Ea h
    replace this:=(pm ..)▸this
    have e:cT.length=8:=rfl
    exact Gu (id (Eh this))
   have h2:=Gv (fun w=>pfx w r) done
   unfold aC
   refine rK (D4 ..) ?_
   lia
  have tt:=fun z hz=>TT.ev (HF _) (n2c r fm c (aC (done.filter fun w=>pfx w r)) w d z) ⟨by(exact kV (by assumption) (by decide)),by(exact kV (by assumption) (by decide)),hz⟩
  replace cc:=(pm ..)▸cc
  refine⟨o',?_⟩
  induction q:pfx w r with
  | true=>
   refine .keep0 hi (n2b r fm c _ o w d) trivial (by refine rK (n2d ..) ?_;exact .one (tt true q)) (XX.ev (HF []) (n2e r fm c _ w d) trivial) rfl hl trivial ?_
   have e:aC (done.filter fun w=>pfx w r)++[.str w]=aC ((done++[w]).filter fun w=>pfx w r):=by
    unfold aC
    refine rK (GM ..) (rK (ET ..) ?_)
    simp[q]
   show Cp cx _ _ _ _ _ _ _ _ 3 _ todo.length (done.length+1) (n2L r fm c (aC (done.filter fun w=>pfx w r)++[.str w]) (some w))
   refine rK (e ..) ?_
   exact cc
  | false=>
   refine .skip0 hi (n2b r fm c _ o w d) trivial (by refine rK (n2d ..) ?_;exact .one (tt false q)) trivial ?_
   have e:aC (done.filter fun w=>pfx w r)=aC ((done++[w]).filter fun w=>pfx w r):=by
    refine rK (GM ..) ?_
    simp[q]
   show Cp cx _ _ _ _ _ _ _ _ 3 _ todo.length (done.length+1) (n2L r fm c (aC (done.filter fun w=>pfx w r)) (some w))
   refine rK (e ..) ?_
   exact cc
theorem Cr(P:Params):sB (naS P 1)=.Name (exN (sB (naS P 1))) (sB (naS P 1)).pos:=by kernel_rfl
theorem yA(r:List Nat)(k:Nat)(c ys:List V)(o:Option (List Nat))(d:Nat):aF (T1 sa ns) (LV cx sa ns [] []) (naE cx.P (d+2)) (.Name (exN (sB (naS cx.P 1))) (sB (naS cx.P 1)).pos) (.ref 3) (n2L r [("count",.int (dV k))] c ys o)=some ⟨(),n2L r [("count",.int (dV k)),("fitting",.ref 3)] c ys o,[]⟩:=by kernel_rfl
theorem wa(r:List Nat)(k:Nat)(c ys:List V)(o:Option (List Nat)):cL [2,3] (n2L r [("count",.int (dV k)),("fitting",.ref 3)] c ys o) [0,1,2,3] [0,1,2,3]=some (naL r [("count",.int (dV k)),("fitting",.ref 3)] [.list c,.list ys]):=by kernel_rfl
theorem td(r:List Nat)(k:Nat)(c:List V):cL [2] (naL r [("count",.int (dV k))] [.list c,.fr [],.dict qY]) [0,1,2] [0,1,2]=some (naL r [("count",.int (dV k))] [.list c]):=by kernel_rfl
theorem z7(P:Params)(env:Env)(h:env.scope=(naF P).scope):swapsWith (na2 P) (some (.Name (exN (sB (naS P 1))) (sB (naS P 1)).pos)) (naS P 1).pos.line env=pure true:=by
 refine rK ((fS P).2.1) ?_
 unfold swapsWith Env.blockKind Env.kindOf
 refine rK (h ..) ?_
 kernel_rfl
theorem z8(H:Ok1 cx mg mb sa ns)(r:List Nat)(k:Nat)(L:List Nat)(hr:r.length≤600)(d:Nat):S1 cx (naE cx.P (d+2)) (.Assign [sB (naS cx.P 1)] (na2 cx.P) (naS cx.P 1).pos) (naL r [("count",.int (dV k))] [.list (aY L)]) .next (naL r [("count",.int (dV k)),("fitting",.ref 3)] [.list (aY L),.list (aC (cT.filter fun w=>pfx w r))]):=by
 have HF:=fun l=>ab H (l:=[]) aa.nil {tb:=adL l} 20
 have kk:=yx cx.P
 obtain⟨o',c⟩:=z9 H r [("count",.int (dV k))] (aY L) hr d cT [] none rfl
 have hsw:=z7 cx.P
 have ii:II cx (naE cx.P (d+2)) (qC (na2 cx.P)) (naL r [("count",.int (dV k))] [.list (aY L)]) (j8 qY) (fun _=>True) (naL r [("count",.int (dV k))] [.list (aY L)]):=
  II.keys (n:=4) (σ0:=naL r [("count",.int (dV k))] [.list (aY L),.fr [],.dict qY]) (XX.ev (HF []) (n2a r [("count",.int (dV k))] (aY L) d) trivial) rfl
   (aW (fun j o he hj=>by
    have:j=2:=by
     rw[aN,decide_eq_true_iff]at he
     simpa using he
    subst this
    cases hj
    exact eG L) (td r k (aY L)) rfl rfl) (by decide) (wB H)
 refine rK (Cr ..) ?_
 rw[(fS cx.P).2.1]at hsw ⊢
 exact S1.lcAssign (mf:=lN "name" o') H (HF []) ii (fun h=>h) kk.clos kk.kind kk.cell kk.names c kk.fold kk.own hsw (yA r k (aY L) _ o' d) trivial rfl
  (aW (fun j o he hj=>by
   rcases ug he with rfl | rfl
   ·cases hj;exact eG L
   ·cases hj;exact eA _) (wa r k (aY L) _ o') rfl rfl) (by show¬(4∈[0,1,2,3]);decide)
noncomputable abbrev n3L (r:List Nat) (fm:List (Str×V)) (c:List V) (l:List (List Nat)) (ys:List V) (w:Option (List Nat)):Hp:=naL r fm [.list c,.list (aC l),.list [],.list ys,.fr (lN "name" w)]
noncomputable abbrev n3M (k:Nat):List (Str×V):=[("count",.int (dV k)),("fitting",.ref 3)]
theorem n3a(r:List Nat)(k:Nat)(c:List V)(l:List (List Nat))(d:Nat):(LV cx sa ns [] []).ex (naE cx.P (d+2)) (qC (na3 cx.P)) (naL r (n3M k) [.list c,.list (aC l),.list []])=some ⟨.ref 3,naL r (n3M k) [.list c,.list (aC l),.list []],[]⟩:=by kernel_rfl
theorem n3b(r:List Nat)(k:Nat)(c:List V)(l:List (List Nat))(ys:List V)(o:Option (List Nat))(w:List Nat)(d:Nat):aF (T1 sa ns) (LV cx sa ns [] []) ⟨6,[],a6 (lcS (na3 cx.P)) (naF cx.P).scope,d+2⟩ (qB (na3 cx.P)) (.str w) (n3L r (n3M k) c l ys o)=some ⟨(),n3L r (n3M k) c l ys (some w),[]⟩:=by induction o<;>kernel_rfl
theorem n3c(r:List Nat)(k:Nat)(c:List V)(l:List (List Nat))(ys:List V)(w:List Nat)(d:Nat):(LV cx sa ns [] []).ex ⟨6,[],a6 (lcS (na3 cx.P)) (naF cx.P).scope,d+2⟩ (qA (na3 cx.P)) (n3L r (n3M k) c l ys (some w))=some ⟨.int (dV w.length),n3L r (n3M k) c l ys (some w),[w.length≤sizeLine]⟩:=by kernel_rfl
theorem n3d(P:Params):exD (na3 P)=[]:=by kernel_rfl
theorem n3e(r:List Nat)(k:Nat)(c:List V)(l:List (List Nat))(ys:List V)(o:Option (List Nat)):cL [2,3,5] (n3L r (n3M k) c l ys o) [0,1,2,3,4,5] [0,1,2,3,4,5]=some (naL r (n3M k) [.list c,.list (aC l),.list [],.list ys]):=by kernel_rfl
theorem z6(H:Ok1 cx mg mb sa ns)(r:List Nat)(k:Nat)(c:List V)(l:List (List Nat))(hl:l.length≤100)(hw: ∀w∈l,w.length≤100)(d:Nat): ∀(todo done:List (List Nat)) (o:Option (List Nat)),l=done++todo→
  ∃o',Cp cx (T1 sa ns) (LV cx sa ns [] []) ⟨6,[],a6 (lcS (na3 cx.P)) (naF cx.P).scope,d+2⟩ (qB (na3 cx.P)) (exD (na3 cx.P)) (qA (na3 cx.P)) (fun j=>(aC l)[j]?) (fun σ'=>σ'[3]?=some (.list (aC l))) 5 (n3L r (n3M k) c l (aY (l.map Ea)) o') todo.length done.length (n3L r (n3M k) c l (aY (done.map Ea)) o):=by
 have hs:=sizeLine_eq
 have HF:=fun l=>ab H (l:=[]) aa.nil {tb:=adL l} 20
 intro todo
 induction todo with
 | nil=>
  intro done o h
  have e:l=done:=by exact rK (h ..) (rK (D2 ..) rfl)
  refine rK (e ..) ?_
  refine⟨o,.done ?_⟩
  unfold aC
  simp
 | cons w todo ih=>
  intro done o h
  obtain⟨o',cc⟩:=ih (done++[w]) (some w) (by refine rK (h ..) ?_;simp)
  have hw:=hw w (by refine rK (h ..) ?_;exact EA _ (wj ..))
  have hi:(aC l)[done.length]?=some (.str w):=by
   unfold aC
   refine rK (h ..) ?_
   simp
  have hy:(aY (done.map Ea)).length≤sizeLine:=by
   have:=congrArg Ea h
   replace this:=(pm ..)▸this
   unfold aY
   refine rK (D4 ..) (rK (D4 ..) ?_)
   lia
  replace cc:=(pm ..)▸cc
  refine⟨o',.keep0 hi (n3b r k c l _ o w d) trivial (by refine rK (n3d ..) ?_;exact .nil) (XX.ev (HF []) (n3c r k c l _ w d) (by show w.length≤sizeLine;(exact kV (by assumption) (by decide)))) rfl hy rfl ?_⟩
  have e:aY (done.map Ea)++[.int (dV w.length)]=aY ((done++[w]).map Ea):=by unfold aY;simp
  show Cp cx _ _ _ _ _ _ _ _ 5 _ todo.length (done.length+1) (n3L r (n3M k) c l (aY (done.map Ea)++[.int (dV w.length)]) (some w))
  refine rK (e ..) ?_
  exact cc
theorem z5(H:Ok1 cx mg mb sa ns)(r:List Nat)(k:Nat)(L:List Nat)(l:List (List Nat))(hl:l.length≤100)(hw: ∀w∈l,w.length≤100)(d:Nat):XX cx (naE cx.P (d+2)) (na3 cx.P) (naL r (n3M k) [.list (aY L),.list (aC l),.list []]) (.ref 5) (naL r (n3M k) [.list (aY L),.list (aC l),.list [],.list (aY (l.map Ea))]):=by
 have HF:=fun l=>ab H (l:=[]) aa.nil {tb:=adL l} 20
 have kk:=yw cx.P
 obtain⟨o',c⟩:=z6 H r k (aY L) l hl hw d l [] none rfl
 refine rK ((fS cx.P).2.2) ?_
 exact XX.lc (j:=5) (mf:=lN "name" o') H (HF []) (II.list (i:=3) (xs:=aC l) (XX.ev (HF []) (n3a r k (aY L) l d) trivial) rfl) (fun h=>h) kk.clos kk.kind kk.cell kk.names c kk.fold kk.own rfl
  (aW (fun j o he hj=>by
   rcases iV he with rfl | rfl | rfl
   ·cases hj;exact eG L
   ·cases hj;exact eA _
   ·cases hj;exact eG _) (n3e r k (aY L) l _ o') rfl rfl) (by show¬(6∈[0,1,2,3,4,5]);decide) rfl
noncomputable def rW:List (List Nat):=[]::aT
noncomputable def lE (w:List Nat):List Nat:=du.map (bO w)
noncomputable def hB (w:List Nat):List (List Nat):=cT.filter fun n=>pfx n w
noncomputable def xvG (a b c:Nat) (o:AO) (p:Pos):Option (Hp→Option (V×Hp)):=match DI p.line a,DI p.col b,DI p.endCol c with
 | true,true,true=>some fun σ=>some (.ref σ.length,σ++[o])
 | _,_,_=>none
noncomputable def zI:Fl→Option V
 | .ret v=>some v
 | _=>none
theorem vF{f:Fl}{v:V}(h:zI f=some v):f=.ret v:=by
 induction f<;>first | cases h;rfl | cases h
noncomputable def vG (x:Option (Out Fl)):Option (Out V):=x.bind fun o=>(zI o.v).bind fun v=>some ⟨v,o.σ,o.obs⟩
noncomputable abbrev nxV (cx:Cx) (sa:Addr) (ns:List Int) (a b c:Nat) (o:AO):Ev:=evN (T1 sa ns) (mkO cx (clT []) {tb:=adL [],xv:=xvG a b c o}) 20
noncomputable abbrev naM (r:List Nat) (k:Nat) (w:List Nat):Hp:=naL r (n3M k) [.list (aY (lE w)),.list (aC (hB w))]
noncomputable def yQ (x:List Nat×List Nat×List Nat):List V:=match semi x.2.1 with
 | true=>[]
 | false=>[.str yf]
theorem n0w: ∀w∈rW,∀(z:List Nat) (d:Nat),(nxV cx sa ns 1242 16 66 (.list (aY (lE w)))).ss (naE cx.P (d+2)) [naS cx.P 0] (naL (w++z) [] [])=some ⟨.next,naL (w++z) [("count",.int (dV w.length))] [.list (aY (lE w))],
 [XX cx (naE cx.P (d+2)) (na1 cx.P) (naL (w++z) [] []) (.ref 2) (naL (w++z) [] [.list (aY (lE w))])]⟩:=pI (by kernel_rfl)
theorem n9f: ∀x∈ba,∀(z:List Nat) (d:Nat),bo 0 [6] (vG ((nxV cx sa ns 1246 15 46 (.list (aY ((hB x.1).map Ea)))).ss (naE cx.P (d+2)) [naS cx.P 2,naS cx.P 3,naS cx.P 4,naS cx.P 5] (naM (x.1++z) x.1.length x.1)))=some ⟨.tup [.ref 0,.str (outF x),.int (dV x.1.length)],[.list (yQ x)],
 [XX cx (naE cx.P (d+2)) (na3 cx.P) (naM (x.1++z) x.1.length x.1++[.list []]) (.ref 5) (naM (x.1++z) x.1.length x.1++[.list [],.list (aY ((hB x.1).map Ea))]),an (dV (x.2.1.length-1)),x.2.1.length-1<(x.1++z).length,(x.1++z).length≤sizeLine,(x.1++z).length≤sizeLine,x.2.2.length+(x.1.drop x.2.1.length).length≤sizeLine]⟩:=pI (by kernel_rfl)
theorem n9n: ∀w∈bI,∀(z:List Nat) (d:Nat),bo 0 [5] (vG ((nxV cx sa ns 1246 15 46 (.list (aY ((hB w).map Ea)))).ss (naE cx.P (d+2)) [naS cx.P 2,naS cx.P 3,naS cx.P 4,naS cx.P 5] (naM (w++z) w.length w)))=some ⟨.tup [.ref 0,.str (38::w),.int (dV w.length)],[.list [.str yg]],[(w++z).length≤sizeLine,1+w.length≤sizeLine]⟩:=pI (by kernel_rfl)
theorem nc: ∀(w z v:List Nat),bO (w++z) v=bO w v∨ ∃c z',z=c::z'∧(w++[c])<+:v
 | [],z,v=>by
  induction z with
  | nil=>exact .inl rfl
  | cons c z'=>
   induction v with
   | nil=>exact .inl rfl
   | cons d v=>
    induction q:DI c d with
    | true=>exact .inr ⟨c,z',rfl,by rw[DK q];exact⟨v,rfl⟩⟩
    | false=>
     left
     show(match DI c d with | true=>bO z' v+1 | false=>0)=0
     exact rK (q ..) rfl
 | a::w,z,v=>by
  induction v with
  | nil=>exact .inl rfl
  | cons b v=>
   rw[EP]
   show(match DI a b with | true=>bO (w++z) v+1 | false=>0)=(match DI a b with | true=>bO w v+1 | false=>0)∨_
   induction q:DI a b with
   | false=>exact .inl rfl
   | true=>
    rcases nc w z v with h | ⟨c,z',h1,h2⟩
    ·exact .inl (by rw[h])
    ·refine .inr ⟨c,z',h1,?_⟩
     refine o11 h2 fun t ht=>?_
     exact⟨t,by rw[DK q,←ht];rfl⟩
theorem uq(r:List Nat)(k:Nat):ar r none (some (dV k))=r.take k:=by
 unfold ar
 show(r.drop 0).take (bv (some (dV k)) r.length r.length-0)=_
 refine rK (Fs ..) (rK (GP ..) ?_)
 by_cases h:k≤r.length
 ·exact rK (eJ h ..) rfl
 ·exact rK (w8 (Ft h) ..) (rK (EV (DQ _) ..) (rK (EV (by exact Nat.le_of_not_ge h) ..) rfl))
theorem hO(v r:List Nat):pfx v r=true↔v<+:r:=by
 unfold pfx
 rw[uq,aM]
 constructor
 ·intro h;rw[←h];exact List.take_prefix _ _
 ·intro h;exact(FC.mp h).symm
theorem vN(w z v:List Nat):pfx v (w++z)=pfx v w∨ ∃c z',z=c::z'∧(w++[c])<+:v:=by
 by_cases h:v<+:w++z
 ·rcases Ez w.length v.length with hl | hl
  ·right
   obtain⟨t,ht⟩:=h
   have hw:w<+:v:=FK ⟨z,rfl⟩ ⟨t,ht⟩ (by exact D6 (by assumption))
   obtain⟨u,hu⟩:=hw
   subst hu
   rw[DV]at ht
   have:=List.append_cancel_left ht
   induction u with
   | nil=>simp at hl
   | cons c u=>
    subst this
    exact⟨c,u++t,rfl,⟨u,by simp⟩⟩
  ·left
   have:v<+:w:=FK h ⟨z,rfl⟩ hl
   exact rK ((hO v (w++z)).mpr h) (rK ((hO v w).mpr this) rfl)
 ·left
  have h2: ¬v<+:w:=fun q=>h (q.trans ⟨z,rfl⟩)
  have a:pfx v (w++z)=false:=by
   induction q:pfx v (w++z)with
   | false=>rfl
   | true=>exact absurd ((hO _ _).mp q) h
  have b:pfx v w=false:=by
   induction q:pfx v w with
   | false=>rfl
   | true=>exact absurd ((hO _ _).mp q) h2
  rw[a,b]
theorem kF: ∀v∈aT,∀u,u≠[]→u<+:v→u∈aT:=by
 have a:(aT.all fun v=>(Gb 7).all fun k=>DI k 0 || isW (v.take k))=true:=by kernel_rfl
 intro v hv u hu hp
 have hl:=h8 hv
 have e:=FC.mp hp
 have hul:u.length≤6:=kV hp.length_le hl
 have:=DL.mp (DL.mp a v hv) u.length (FN.mpr (by exact EL (by assumption)))
 rw[←e,Ei]at this
 rcases this with q | q
 ·have:=DK q
  exact absurd (List.length_eq_zero_iff.mp this) hu
 ·exact dw.mp q
theorem my: ∀(r w:List Nat) (c:Nat),(nwk w r).2.1=some c→isW ((nwk w r).1++[c])=false
 | [],w,c,h=>by cases h
 | x::r,w,c,h=>by
  rw[nwk.c]at h ⊢
  induction q:isW (w++[x])with
  | true=>replace h:=(q ..)▸h;exact my r _ c h
  | false=>replace h:=(q ..)▸h;cases h;exact q
theorem mD(r:List Nat):du.map (bO r)=lE (nwk [] r).1∧(cT.filter fun n=>pfx n r)=hB (nwk [] r).1∧r=(nwk [] r).1++(cq (nwk [] r).2.1++(nwk [] r).2.2):=by
 have e:=k8 r []
 rw[ES]at e
 have no: ∀v∈aT,¬ ∃c z',cq (nwk [] r).2.1++(nwk [] r).2.2=c::z'∧((nwk [] r).1++[c])<+:v:=by
  rintro v hv ⟨c,z',h1,h2⟩
  have hw:=kF v hv _ (by simp) h2
  induction hl:(nwk [] r).2.1 with
  | none=>
   rw[hl,iy r [] hl]at h1
   cases h1
  | some c'=>
   rw[hl]at h1
   cases h1
   have:=my r [] c hl
   rw[dw.mpr hw]at this
   cases this
 have hW: ∀v∈du,v∈aT:=by
  have a:(du.all isW)=true:=by kernel_rfl
  exact fun v hv=>dw.mp (DL.mp a v hv)
 have hN: ∀v∈cT,v∈aT:=by
  have a:(cT.all isW)=true:=by kernel_rfl
  exact fun v hv=>dw.mp (DL.mp a v hv)
 refine⟨?_,?_,e.symm⟩
 ·unfold lE
  refine F1 fun v hv=>?_
  conv=>lhs;rw[←e]
  exact(nc _ _ v).resolve_right (no v (hW v hv))
 ·unfold hB
  refine List.filter_congr fun v hv=>?_
  conv=>lhs;rw[←e]
  exact(vN _ _ v).resolve_right (no v (hN v hv))
theorem wO{n:Nat}{ks:List Nat}{x:Option (Out Fl)}{P:V→Hp→Prop}(k: ∀v σ1 obs σ',x=some ⟨.ret v,σ1,obs⟩→cw obs→aK n σ1 ks (inv ks) σ'→v.In (Kept ks (inv ks))→P (v.ren (inv ks)) σ'):Gives (bo n ks (vG x)) P:=
 pN fun v σ1 obs σ' q ob pk hi=>obK q fun o h q=>obK q fun w e q=>by
  cases q
  exact k _ _ _ _ (by rw[h,←vF e]) ob pk hi
theorem n9{x:List Nat×List Nat×List Nat}:cN (g9 x)=yQ x∧cM (g9 x)=outF x:=by
 unfold g9 yQ
 induction semi x.2.1<;>exact⟨rfl,rfl⟩
theorem z4(P:Params)(r:List Nat):bw (naF P).dfl [] (naF P).pars [.str r]=some ([("rest",.str r)]:List (Str×V)):=by kernel_rfl
theorem zZ(P:Params)(r:List Nat)(d:Nat):enter (naF P) (d+2) [("rest",.str r)] []=some ⟨naE P (d+2),naL r [] [],[]⟩:=by kernel_rfl
theorem fit_le(w:List Nat):(hB w).length≤100∧ ∀v∈hB w,v.length≤100:=by
 unfold hB
 refine⟨kV (Gv _ _) (by decide),fun v hv=>?_⟩
 have a:(cT.all fun w=>Ex w.length 6)=true:=by kernel_rfl
 have:=Ef.mp (DL.mp a v (List.mem_filter.mp hv).1)
 exact kV (by assumption) (by decide)
theorem nR(H:Ok1 cx mg mb sa ns){A:Around}{ρ:Ids}{s:Shared}{xs:List Value}{d:Nat}(rm:aj A (d+3))(S:Sat cx [] ρ s.heap)(r:List Nat)(hl:r.length≤600)(hv:VRs ([]:Hp).length ρ s.heap [.str r] xs):
  ah cx A [] ρ s (.ref 840) xs [] [.list (cN (jz r).1)] (.tup [.ref 0,.str (cM (jz r).1),.int (dV (jz r).2.1.length)]):=by
 have hs:=sizeLine_eq
 refine o03 (mD r) fun p1 p2 p3=>?_
 have hw:=hU r [] (.inl rfl)
 have hwA:(nwk [] r).1∈rW:=by
  rcases hw with h | h
  ·refine rK (h ..) ?_;exact wj ..
  ·exact DJ _ h
 have hsp:=dM hw
 show ah cx A [] ρ s (.ref 840) xs [] [.list (cN (tkW (nwk [] r).1))] (.tup [.ref 0,.str (cM (tkW (nwk [] r).1)),.int (dV (nwk [] r).1.length)])
 have x1:=Aa H r hl d
 have s2:=fun k=>z8 H r k (lE (nwk [] r).1) hl d
 have x3:=fun k=>z5 H r k (lE (nwk [] r).1) (hB (nwk [] r).1) (fit_le _).1 (fit_le _).2 d
 replace x1:=(p1 ..)▸x1
 replace s2:=(p2 ..)▸s2
 generalize (nwk [] r).1=w at*
 generalize cq (nwk [] r).2.1++(nwk [] r).2.2=z at*
 subst p3
 have a0:=SS.ev (ab H (l:=[]) aa.nil {tb:=adL [],xv:=xvG 1242 16 66 (.list (aY (lE w)))} 20) (n0w w hwA z d) x1
 have HX:=ab H (l:=[]) aa.nil {tb:=adL [],xv:=xvG 1246 15 46 (.list (aY ((hB w).map Ea)))} 20
 refine o21 (H.fns 840 (naF cx.P) (by kernel_rfl)) fun obj fd kk=>?_
 have fin: ∀ks,Gives (bo 0 ks (vG ((nxV cx sa ns 1246 15 46 (.list (aY ((hB w).map Ea)))).ss (naE cx.P (d+2)) [naS cx.P 2,naS cx.P 3,naS cx.P 4,naS cx.P 5] (naM (w++z) w.length w)))) fun v σ'=>ah cx A [] ρ s (.ref 840) xs [] σ' v:=fun ks=>
  wO fun v σ1 obs σ' q ob pk hi=>ah.pick (aR (kws:=[]) (ks:=[]) (d:=d+2) (o:=⟨naE cx.P (d+2),naL (w++z) [] [],[]⟩) H rm kk S hv (rfl) (z4 _ _) (zZ _ _ d) rfl (v9 cx.P▸SS.append a0 (SS.cons (s2 w.length) (SS.ev HX q ob)))) pk hi
 have hlz:(w++z).length≤600:=hl
 rcases hsp with⟨x,hx,rfl,ht⟩ | ⟨hn,ht⟩
 ·refine rK (ht ..) (rK (n9.1 ..) (rK (n9.2 ..) ?_))
  refine o03 (fg x hx) fun b1 b2 b3=>?_
  have b4:(ba.all fun x=>Ex x.2.2.length 1&&Ex x.2.1.length x.1.length)=true:=by kernel_rfl
  have b5:=DL.mp b4 x hx
  simp only[E5,Ef]at b5
  have b6:(x.1.drop x.2.1.length).length≤6:=by refine rK (D3 ..) ?_;exact kV (FY ..) (by assumption)
  exact fin _ _ (n9f x hx z d) ⟨x3 x.1.length,kj (by lia),by refine rK (pm ..) ?_;lia,by(exact kV (by assumption) (by decide)),by(exact kV (by assumption) (by decide)),by show x.2.2.length+(x.1.drop x.2.1.length).length≤sizeLine;lia⟩
 ·refine rK (ht ..) ?_
  have:=fc w hn
  exact fin _ _ (n9n w hn z d) ⟨by(exact kV (by assumption) (by decide)),by show 1+w.length≤sizeLine;(exact kV (EG (by assumption) _) (by decide))⟩
section
variable{cx:Cx}{K:Frag}{mg mb:Str→Option Value}{T:Tab}{A:Around}{σ σ1 σ2 σb:Hp}{ρ:Ids}{s:Shared}{F:Ev}{ee:EE}{env:Env}{f:Fl}
theorem Aft.weak{n:Nat}{ρ0 ρ1:Ids}{s0 s1:Shared}{i:Nat}{m m':List (Str×V)}(x:Aft cx n ρ0 s0 σ1 ρ1 s1)(hi:σ1[i]?=some (.fr m))(hm: ∀x v,m'.lookup x=some v→m.lookup x=some v):Aft cx n ρ0 s0 (σ1.set i (.fr m')) ρ1 s1:=
 ⟨x.sat.weak hi hm,by refine rK (DP ..) ?_;exact x.ext,x.gens,x.os⟩
theorem SS.weak{l:List Stmt}{i:Nat}{m m':List (Str×V)}(h:SS cx ee l σ .next σ1)(hi:σ1[i]?=some (.fr m))(hm: ∀x v,m'.lookup x=some v→m.lookup x=some v):SS cx ee l σ .next (σ1.set i (.fr m')):=.mk fun A ρ s env r e S=>
 (h.it _ _ _ _ r e S).use fun x ρ1 s1 x1 r1=>(x1.weak hi hm).post r1
theorem SS.pick{l:List Stmt}{σ':Hp}{sel:List Nat}{rr:Nat→Nat}(h:SS cx ee l σ .next σ1)(p:aK σ.length σ1 sel rr σ'):SS cx ee l σ .next σ':=.mk fun A ρ s env r e S=>
 (h.it _ _ _ _ r e S).use fun x ρ1 s1 x1 r1=>(x1.pick p).post r1
noncomputable def tw:List (Str×V)→List (Str×V)→List (Str×V)→Prop
 | _,_,[]=>True
 | m,m',(x,_)::r=>(∀v,m'.lookup x=some v→m.lookup x=some v)∧tw m m' r
theorem pa{m m':List (Str×V)}: ∀(l:List (Str×V)),tw m m' l→ ∀p∈l,∀v,m'.lookup p.1=some v→m.lookup p.1=some v
 | [],_,p,hp=>by cases hp
 | (x,w)::r,h,p,hp=>by
  rcases D1.mp hp with rfl | hp
  ·exact h.1
  ·exact pa r h.2 p hp
theorem oC{m m':List (Str×V)}(h:tw m m' m'): ∀x v,m'.lookup x=some v→m.lookup x=some v:=fun x v hx=>pa m' h (x,v) (mem_of_lookup hx) v hx
end
theorem qT{L:List V}(h1: ∀g:Nat→Prop,dI g L)(h2: ∀u,dK u L=L):nx (.list L):=⟨h1,fun u=>congrArg AO.list (h2 u)⟩
theorem wE(g:Nat→Prop): ∀tk:List Tk,dI g (cN tk):=fun tk=>by
 unfold cN
 induction tk.dropLast with
 | nil=>trivial
 | cons a l ih=>exact⟨trivial,ih⟩
theorem ge(u:Nat→Nat): ∀tk:List Tk,dK u (cN tk)=cN tk:=fun tk=>by
 unfold cN
 induction tk.dropLast with
 | nil=>rfl
 | cons a l ih=>exact congrArg (V.str a.s:: ·) ih
noncomputable abbrev rfF (P:Params):Fn:=fnN 847
noncomputable abbrev rfE (P:Params) (d:Nat):EE:=⟨0,[],(rfF P).scope,d⟩
noncomputable def mB:List V→Hp→Option (Out V):=d9 [.s] fun r=>some ⟨.tup [.ref 0,.str (cM (jz r).1),.int (dV (jz r).2.1.length)],[.list (cN (jz r).1)],[r.length≤600]⟩
noncomputable def mC:List V→Hp→Option (Out V):=d9 [.s] fun l=>match l with
 | []=>none
 | c::r=>aD (DI c 35) (some ⟨.tup [.ref 0,.str (cM (ek r).1),.int (dV (ek r).2.1.length)],[.list (cN (ek r).1)],[r.length≤600]⟩)
noncomputable def oP:List V→Hp→Option (Out V):=d9 [.s] fun r=>some ⟨.tup [.ref 0,.str (cM (ent r).1),.int (dV (ent r).2.1.length)],[.list (cN (ent r).1)],[r.length≤600,∀c∈r,c∈alpha∧c≠13]⟩
noncomputable abbrev rfT:List (Addr×bx):=[(840,lift 3 dS mB),(835,lift 2 dS mC)]
theorem s9(H:Ok1 cx mg mb sa ns):Told cx 840 3 mB:=Told.fn0 fun t {A ρ s xs d} r S hv=>af fun ob=>nR H r S _ ob hv
theorem ta(H:Ok1 cx mg mb sa ns):Told cx 835 2 mC:=Told.fn0 fun t {A ρ s xs d} r S hv=>by
 induction t with
 | nil=>exact bq
 | cons c t=>
  refine au fun q=>af fun ob=>?_
  have q:=DK q
  subst q
  exact v8 H r S _ ob hv
theorem sI(H:Ok1 cx mg mb sa ns):aa cx (clT rfT):=aa.cons (Told.tells (s9 H)) (aa.cons (Told.tells (ta H)) aa.nil)
theorem rf1(d:Nat):(LV cx sa ns rfT []).ss (rfE cx.P (d+4)) (rfF cx.P).body [.fr [("rest",.str [])]]=some ⟨.ret (.tup [.ref 1,.str [38],.int (dV 0)]),[.fr [("rest",.str [])],.list []],[]⟩:=by kernel_rfl
theorem rf2(c:Nat)(r:List Nat)(d:Nat):(LV cx sa ns rfT [(1250,21,44,true)]).ss (rfE cx.P (d+4)) (rfF cx.P).body [.fr [("rest",.str (c::r))]]=some ⟨.ret (.tup [.ref 1,.str [38],.int (dV 0)]),[.fr [("rest",.str (c::r))],.list []],[an (dV 0),0<r.length+1,aB c [9,10,12,32,38]=true]⟩:=by kernel_rfl
theorem rf3(r:List Nat)(d:Nat):(LV cx sa ns rfT []).ss (rfE cx.P (d+4)) (rfF cx.P).body [.fr [("rest",.str (35::r))]]=some ⟨.ret (.tup [.ref 1,.str (cM (ek r).1),.int (dV (ek r).2.1.length)]),[.fr [("rest",.str (35::r))],.list (dK (upN [] 1) (cN (ek r).1))],[an (dV 0),0<r.length+1,an (dV 0),0<r.length+1,r.length≤600]⟩:=by kernel_rfl
theorem rf4(c:Nat)(r:List Nat)(d:Nat):(LV cx sa ns rfT [(1250,21,44,false),(1252,7,21,false)]).ss (rfE cx.P (d+4)) (rfF cx.P).body [.fr [("rest",.str (c::r))]]=some ⟨.ret (.tup [.ref 1,.str (cM (jz (c::r)).1),.int (dV (jz (c::r)).2.1.length)]),[.fr [("rest",.str (c::r))],.list (dK (upN [] 1) (cN (jz (c::r)).1))],[an (dV 0),0<r.length+1,aB c [9,10,12,32,38]=false,an (dV 0),0<r.length+1,am [c] [35]=false,r.length+1≤600]⟩:=by kernel_rfl
theorem rf5(P:Params)(r:List Nat):bw (rfF P).dfl [] (rfF P).pars [.str r]=some ([("rest",.str r)]:List (Str×V)):=by kernel_rfl
theorem rf6(P:Params)(r:List Nat)(d:Nat):enter (rfF P) (d+4) [("rest",.str r)] []=some ⟨rfE P (d+4),[.fr [("rest",.str r)]],[]⟩:=by kernel_rfl
theorem rf7(r:List Nat)(L:List V):cL [1] ([.fr [("rest",.str r)],.list L]:Hp) [1] [1]=some [.list L]:=by kernel_rfl
theorem vE(H:Ok1 cx mg mb sa ns):Told cx 847 5 oP:=by
 refine Told.fn0 fun t {A ρ s xs d} r S hv=>af fun ob=>?_
 obtain⟨o1,o2⟩:=ob
 have o2: ∀c∈t,c∈alpha∧c≠13:=o2
 have HF:=fun l=>ab H (sI H) {tb:=adL l} 20
 obtain⟨obj,fd,kk⟩:=H.fns 847 (rfF cx.P) (by kernel_rfl)
 have fin: ∀{tk:List Tk} {S1:List Nat} {k:Nat},SS cx (rfE cx.P (d+4)) (rfF cx.P).body [.fr [("rest",.str t)]] (.ret (.tup [.ref 1,.str S1,.int (dV k)])) [.fr [("rest",.str t)],.list (cN tk)]→ah cx A [] ρ s (.ref 847) xs [] [.list (cN tk)] (.tup [.ref 0,.str S1,.int (dV k)]):=by
  intro tk S1 k w
  have c:=aR (kws:=[]) (ks:=[]) (d:=d+4) (o:=⟨rfE cx.P (d+4),[.fr [("rest",.str t)]],[]⟩) H r kk S hv (rfl) (rf5 _ _) (rf6 _ _ d) rfl w
  refine ah.pick (sel:=[1]) (r:=inv [1]) c (aW (fl:=[1]) (fun j o he hj=>?_) (rf7 t (cN tk)) rfl rfl) ⟨rfl,trivial,trivial,trivial⟩
  have:j=1:=by
   rw[aN,decide_eq_true_iff]at he
   simpa using he
  subst this
  cases hj
  exact qT (fun g=>wE g tk) fun u=>ge u tk
 have f0:an (dV 0):=by unfold an;decide
 induction t with
 | nil=>exact fin (tk:=ib) (SS.ev (HF _) (rf1 d) trivial)
 | cons c r=>
  have hc:=o2 c (wj ..)
  replace o1:=(D0 ..)▸o1
  have h60:c≠60:=by
   have a:(alpha.all fun c=>!Nat.beq c 60)=true:=by kernel_rfl
   have:=DL.mp a c hc.1
   intro q;replace this:=(q ..)▸this;cases this
  have ea:(aq c lsB || aq c [60,38])=aB c [9,10,12,32,38]:=by
   refine rK (cJ ..) (rK (cJ ..) (rK (aN ..) (rK (aN ..) (rK (aN ..) ?_))))
   have h13:=hc.2
   by_cases q:c∈[9,10,12,32,38]
   ·refine rK (decide_eq_true q ..) ?_
    simp only[D1,EO,or_false]at q
    rcases q with rfl | rfl | rfl | rfl | rfl<;>rfl
   ·refine rK (decide_eq_false q ..) ?_
    simp only[D1,EO,or_false,not_or]at q
    simp[q,h13,h60]
  unfold ent
  dsimp only
  refine rK (ea ..) ?_
  induction q:aB c [9,10,12,32,38]with
  | true=>exact fin (tk:=ib) (SS.ev (HF _) (rf2 c r d) ⟨f0,DO _,q⟩)
  | false=>
   dsimp only
   induction hh:am [c] [35]with
   | true=>
    have:=aM.mp hh
    cases this
    have w:=SS.ev (HF _) (rf3 r d) ⟨f0,DO _,f0,DO _,by show r.length≤600;(exact D6 (by assumption))⟩
    dsimp only at w
    replace w:=(ge ..)▸w
    exact fin w
   | false=>
    have w:=SS.ev (HF _) (rf4 c r d) ⟨f0,DO _,q,f0,DO _,hh,o1⟩
    dsimp only at w
    replace w:=(ge ..)▸w
    exact fin w
noncomputable abbrev rwF (P:Params):Fn:=fnN 852
noncomputable abbrev rwE (P:Params) (d:Nat):EE:=⟨0,[],(rwF P).scope,d⟩
noncomputable abbrev rwW (P:Params):Stmt:=az (rwF P).body 2
noncomputable abbrev rwI (P:Params):Stmt:=az (bL (rwW P)) 0
noncomputable abbrev rwA (P:Params) (i:Nat):Stmt:=az (bL (rwI P)) i
noncomputable abbrev rwC (P:Params):Expr:=sA (rwA P 1)
noncomputable def tRf:Addr×bx:=(847,lift 5 dS oP)
noncomputable abbrev rwT:List (Addr×bx):=[tRf,tPa,tTi]
noncomputable abbrev nW:List Nat:=[9,10,12,32]
noncomputable abbrev rwM (t:List Nat) (p:Nat) (x:List (Str×V)):List (Str×V):=("text",.str t)::("row",.ref 1)::("place",.int (dV p))::x
noncomputable abbrev bl (t:List Nat) (p:Nat) (L:List V):Hp:=[.fr (rwM t p []),.list L]
noncomputable def ir:List Nat:=[116,111,108,100]
noncomputable def l9:List Nat:=[116,101,120,116]
noncomputable def nE:List Nat:=[98,108,97,110,107]
noncomputable def cB (k s:List Nat):V:=.tup [.str k,.str s]
noncomputable def kindS:Bool→List Nat
 | true=>nE
 | false=>l9
noncomputable def nv (s:List Nat):List (List Nat)→Bool
 | []=>false
 | x::xs=>am x s || nv s xs
noncomputable abbrev lj:List (List Nat):=[[9],[10],[12],[13],[32]]
theorem vA(P:Params):(rwF P).body=[az (rwF P).body 0,az (rwF P).body 1]++(.While (sA (rwW P)) (.If (sA (rwI P)) ([rwA P 0]++[rwA P 1,rwA P 2,rwA P 3]) (bM (rwI P)) (rwI P).pos::[az (bL (rwW P)) 1]) [] (rwW P).pos::[az (rwF P).body 3]):=by kernel_rfl
theorem xt(P:Params):bL (rwW P)=.If (sA (rwI P)) ([rwA P 0]++[rwA P 1,rwA P 2,rwA P 3]) (bM (rwI P)) (rwI P).pos::[az (bL (rwW P)) 1]:=by kernel_rfl
theorem rw0(t:List Nat)(d:Nat):(LV cx sa ns rwT []).ss (rwE cx.P (d+6)) [az (rwF cx.P).body 0,az (rwF cx.P).body 1] [.fr [("text",.str t)]]=some ⟨.next,bl t 0 [],[]⟩:=by kernel_rfl
theorem rw1(t:List Nat)(p:Nat)(L:List V)(z:Bool)(d:Nat):(LV cx sa ns rwT [(1258,10,27,z)]).tst (rwE cx.P (d+6)) (sA (rwW cx.P)) (bl t p L)=some ⟨z,bl t p L,[t.length≤sizeLine,decide (dV p<dV t.length)=z]⟩:=by induction z<;>kernel_rfl
theorem rw2(t:List Nat)(p:Nat)(L:List V)(d:Nat):(LV cx sa ns rwT []).ss (rwE cx.P (d+6)) [az (rwF cx.P).body 3] (bl t p L)=some ⟨.ret (.ref 1),bl t p L,[]⟩:=by kernel_rfl
theorem rwB(t:List Nat)(p:Nat)(L:List V)(d:Nat):(LV cx sa ns rwT [(1259,11,29,false),(1264,13,34,true)]).ss (rwE cx.P (d+6)) (bL (rwW cx.P)) (bl t p L)=some ⟨.next,[.fr (rwM t (p+1) [("end",.int (dV (p+1)))]),.list (L++[cB ir qD,cB l9 [0]]),.list [cB ir qD,cB l9 [0]]],
 [an (dV p),p<t.length,am [av (dV p) t] [38]=false,an (dV p),p<t.length,am [av (dV p) t] [0]=true,L.length+2≤sizeLine]⟩:=by kernel_rfl
theorem BG(t:List Nat)(p:Nat)(L:List V)(d:Nat):(LV cx sa ns rwT [(1259,11,29,false),(1264,13,34,false),(1267,13,39,true)]).ss (rwE cx.P (d+6)) (bL (rwW cx.P)) (bl t p L)=some ⟨.next,[.fr (rwM t (tpN true t nW p) [("end",.int (dV (tpN true t nW p)))]),.list (L++[cB nE (ar t (some (dV p)) (some (dV (tpN true t nW p))))])],
 [an (dV p),p<t.length,am [av (dV p) t] [38]=false,an (dV p),p<t.length,am [av (dV p) t] [0]=false,an (dV p),p<t.length,aB (av (dV p) t) nW=true,p≤t.length,t.length≤1000,t.length≤sizeLine,L.length≤sizeLine]⟩:=by kernel_rfl
theorem rwD(t:List Nat)(p:Nat)(L:List V)(d:Nat):(LV cx sa ns rwT [(1259,11,29,false),(1264,13,34,false),(1267,13,39,false)]).ss (rwE cx.P (d+6)) (bL (rwW cx.P)) (bl t p L)=some ⟨.next,[.fr (rwM t (tpN false t [38,0] p) [("end",.int (dV (tpN false t [38,0] p)))]),.list (L++[cB l9 (ar t (some (dV p)) (some (dV (tpN false t [38,0] p))))])],
 [an (dV p),p<t.length,am [av (dV p) t] [38]=false,an (dV p),p<t.length,am [av (dV p) t] [0]=false,an (dV p),p<t.length,aB (av (dV p) t) nW=false,p≤t.length,t.length≤1000,t.length≤sizeLine,L.length≤sizeLine]⟩:=by kernel_rfl
theorem BK(t:List Nat)(p:Nat)(L:List V)(d:Nat):(LV cx sa ns rwT [(1259,11,29,true)]).tst (rwE cx.P (d+6)) (sA (rwI cx.P)) (bl t p L)=some ⟨true,bl t p L,[an (dV p),p<t.length,am [av (dV p) t] [38]=true]⟩:=by kernel_rfl
noncomputable abbrev rwX (t:List Nat) (p:Nat) (S:List Nat) (k:Nat) (x:List (Str×V)):List (Str×V):=rwM t p (("told",.ref 2)::("sign",.str S)::("count",.int (dV k))::x)
theorem BJ(t:List Nat)(p:Nat)(L:List V)(d:Nat):(LV cx sa ns rwT []).ss (rwE cx.P (d+6)) [rwA cx.P 0] (bl t p L)=some ⟨.next,[.fr (rwX t p (cM (ent (ar t (some (dV (p+1))) none)).1) (ent (ar t (some (dV (p+1))) none)).2.1.length []),.list L,.list (dK (upN [] 2) (cN (ent (ar t (some (dV (p+1))) none)).1))],
 [t.length≤sizeLine,(ar t (some (dV (p+1))) none).length≤600,∀c∈ar t (some (dV (p+1))) none,c∈alpha∧c≠13]⟩:=by kernel_rfl
noncomputable abbrev rwV (cx:Cx) (sa:Addr) (ns:List Int) (o:AO) (l:List (Nat×Nat×Nat×Bool)):Ev:=evN (T1 sa ns) (mkO cx (clT []) {tb:=adL l,xv:=xvG 1261 19 54 o}) 20
theorem BI(t:List Nat)(p:Nat)(S:List Nat)(k:Nat)(L E C:List V)(z:Bool)(d:Nat):(rwV cx sa ns (.list C) [(1262,35,74,z)]).ss (rwE cx.P (d+6)) [rwA cx.P 1,rwA cx.P 2,rwA cx.P 3] [.fr (rwX t p S k []),.list L,.list E]=some ⟨.next,[.fr (rwX t p S k [("end",.int (dV (p+1+k)))]),.list ((L++C)++[cB (kindS z) S]),.list E,.list C,.list (aC lj)],
 [XX cx (rwE cx.P (d+6)) (rwC cx.P) [.fr (rwX t p S k []),.list L,.list E] (.ref 3) [.fr (rwX t p S k []),.list L,.list E,.list C],L.length+C.length≤sizeLine,nv S lj=z,(L++C).length≤sizeLine]⟩:=by induction z<;>kernel_rfl
theorem BH(t:List Nat)(p:Nat)(S:List Nat)(k e:Nat)(σ:Hp)(d:Nat):(LV cx sa ns rwT []).ss (rwE cx.P (d+6)) [az (bL (rwW cx.P)) 1] (.fr (rwX t p S k [("end",.int (dV e))])::σ)=some ⟨.next,.fr (rwX t e S k [("end",.int (dV e))])::σ,[]⟩:=by kernel_rfl
noncomputable def aV (tk:List Tk):List V:=aS (tk.map dJ)
theorem iK(a b:List (List Nat×List Nat)):aS (a++b)=aS a++aS b:=by unfold aS;exact rK (ET ..) rfl
noncomputable abbrev rcc (t:List Nat) (p:Nat) (S:List Nat) (k:Nat) (L E:List V) (ys:List V) (o:Option (List Nat)):Hp:=[.fr (rwX t p S k []),.list L,.list E,.list ys,.fr (lN "error" o)]
noncomputable abbrev yl (P:Params) (d:Nat):EE:=⟨4,[],a6 (lcS (rwC P)) (rwF P).scope,d⟩
theorem sN(P:Params):rwC P=.ListComp (qA (rwC P)) [⟨qB (rwC P),qC (rwC P),exD (rwC P),0⟩] (lcS (rwC P)) (rwC P).pos:=by kernel_rfl
theorem zL(P:Params):u1 [] [] (rwC P):=⟨by kernel_rfl,by kernel_rfl,ce (by kernel_rfl),bK (by kernel_rfl),fun _ _=>by kernel_rfl,fun _ _=>by kernel_rfl⟩
theorem BP(t:List Nat)(p:Nat)(S:List Nat)(k:Nat)(L E:List V)(d:Nat):(LV cx sa ns [] []).ex (rwE cx.P (d+6)) (qC (rwC cx.P)) [.fr (rwX t p S k []),.list L,.list E]=some ⟨.ref 2,[.fr (rwX t p S k []),.list L,.list E],[]⟩:=by kernel_rfl
theorem BO(t:List Nat)(p:Nat)(S:List Nat)(k:Nat)(L E ys:List V)(o:Option (List Nat))(w:List Nat)(d:Nat):aF (T1 sa ns) (LV cx sa ns [] []) (yl cx.P (d+6)) (qB (rwC cx.P)) (.str w) (rcc t p S k L E ys o)=some ⟨(),rcc t p S k L E ys (some w),[]⟩:=by induction o<;>kernel_rfl
theorem BN(t:List Nat)(p:Nat)(S:List Nat)(k:Nat)(L E ys:List V)(w:List Nat)(d:Nat):(LV cx sa ns [] []).ex (yl cx.P (d+6)) (qA (rwC cx.P)) (rcc t p S k L E ys (some w))=some ⟨cB ir w,rcc t p S k L E ys (some w),[]⟩:=by kernel_rfl
theorem BM(P:Params):exD (rwC P)=[]:=by kernel_rfl
theorem BL(t:List Nat)(p:Nat)(S:List Nat)(k:Nat)(L E ys:List V)(o:Option (List Nat)):cL [1,2,3] (rcc t p S k L E ys o) [0,1,2,3] [0,1,2,3]=some [.fr (rwX t p S k []),.list L,.list E,.list ys]:=by kernel_rfl
noncomputable def cm (l:List (List Nat)):List V:=aS (l.map fun e=>(ir,e))
theorem zM(H:Ok1 cx mg mb sa ns)(t:List Nat)(p:Nat)(S:List Nat)(k:Nat)(L:List V)(l:List (List Nat))(hl:l.length≤100)(d:Nat): ∀(todo done:List (List Nat)) (o:Option (List Nat)),l=done++todo→
  ∃o',Cp cx (T1 sa ns) (LV cx sa ns [] []) (yl cx.P (d+6)) (qB (rwC cx.P)) (exD (rwC cx.P)) (qA (rwC cx.P)) (fun j=>(aC l)[j]?) (fun σ'=>σ'[2]?=some (.list (aC l))) 3 (rcc t p S k L (aC l) (cm l) o') todo.length done.length (rcc t p S k L (aC l) (cm done) o):=by
 have hs:=sizeLine_eq
 have HF:=ab H (l:=[]) aa.nil {tb:=adL []} 20
 intro todo
 induction todo with
 | nil=>
  intro done o h
  have e:l=done:=by exact rK (h ..) (rK (D2 ..) rfl)
  refine rK (e ..) ?_
  refine⟨o,.done ?_⟩
  unfold aC
  simp
 | cons w todo ih=>
  intro done o h
  obtain⟨o',cc⟩:=ih (done++[w]) (some w) (by refine rK (h ..) ?_;simp)
  have hi:(aC l)[done.length]?=some (.str w):=by
   unfold aC
   refine rK (h ..) ?_
   simp
  have hy:(cm done).length≤sizeLine:=by
   have:=congrArg Ea h
   replace this:=(pm ..)▸this
   unfold cm aS
   refine rK (D4 ..) (rK (D4 ..) ?_)
   lia
  replace cc:=(pm ..)▸cc
  refine⟨o',.keep0 hi (BO t p S k L (aC l) _ o w d) trivial (by refine rK (BM ..) ?_;exact .nil) (XX.ev HF (BN t p S k L (aC l) _ w d) trivial) rfl hy rfl ?_⟩
  have e:cm done++[cB ir w]=cm (done++[w]):=by unfold cm;refine rK (ET ..) (rK (iK ..) ?_);rfl
  show Cp cx _ _ _ _ _ _ _ _ 3 _ todo.length (done.length+1) (rcc t p S k L (aC l) (cm done++[cB ir w]) (some w))
  refine rK (e ..) ?_
  exact cc
theorem zK(H:Ok1 cx mg mb sa ns)(t:List Nat)(p:Nat)(S:List Nat)(k:Nat)(g:List (List Nat×List Nat))(l:List (List Nat))(hl:l.length≤100)(d:Nat):XX cx (rwE cx.P (d+6)) (rwC cx.P) [.fr (rwX t p S k []),.list (aS g),.list (aC l)] (.ref 3) [.fr (rwX t p S k []),.list (aS g),.list (aC l),.list (cm l)]:=by
 have HF:=ab H (l:=[]) aa.nil {tb:=adL []} 20
 have kk:=zL cx.P
 obtain⟨o',c⟩:=zM H t p S k (aS g) l hl d l [] none rfl
 refine rK (sN ..) ?_
 exact XX.lc (j:=3) (mf:=lN "error" o') H HF (II.list (i:=2) (xs:=aC l) (XX.ev HF (BP t p S k (aS g) (aC l) d) trivial) rfl) (fun h=>h) kk.clos kk.kind kk.cell kk.names c kk.fold kk.own rfl
  (aW (fun j o he hj=>by
   rcases iV he with rfl | rfl | rfl
   ·cases hj;exact dg g
   ·cases hj;exact eA _
   ·cases hj;exact dg _) (BL t p S k (aS g) (aC l) _ o') rfl rfl) (by show¬(4∈[0,1,2,3]);decide) rfl
theorem nF{l:List Stmt}{σ:Hp}{t:List Nat}{p:Nat}{x:List (Str×V)}{g:List (List Nat×List Nat)}{tl:Hp}{d:Nat}(hσ:σ.length=2)(h:SS cx (rwE cx.P (d+6)) l σ .next (.fr (rwM t p x)::.list (aS g)::tl)):SS cx (rwE cx.P (d+6)) l σ .next (bl t p (aS g)):=by
 have w:=SS.weak (i:=0) (m:=rwM t p x) (m':=rwM t p []) h rfl (oC ⟨fun v hv=>by simpa[DW]using hv,fun v hv=>by simpa[DW]using hv,fun v hv=>by simpa[DW]using hv,trivial⟩)
 refine SS.pick (σ':=bl t p (aS g)) w (aW (fl:=[1]) (ks:=[0,1]) (fun j o he hj=>?_) ?_ rfl (by refine rK (hσ ..) ?_;rfl))
 ·have:j=1:=by
   rw[aN,decide_eq_true_iff]at he
   simpa using he
  subst this
  cases hj
  exact dg g
 ·rfl
noncomputable def gk (tk:List Tk):Prop:=aV tk=cm (tk.dropLast.map Tk.s)++[cB (kindS (nv (cM tk) lj)) (cM tk)]
theorem uX(c:Nat):nv [c] lj=aq c lsB:=congrArg (am [9] [c] || ·) (congrArg (am [10] [c] || ·) (congrArg (am [12] [c] || ·) (Bool.or_left_comm ..)))
theorem vC(ill sem:Bool)(v sg:Nat):gk (dO ill sem (aq sg lsB) v sg):=by
 have e:=uX sg
 have h: ∀z,aq sg lsB=z→gk (dO ill sem z v sg):=fun z hz=>by
  unfold gk
  refine rK ((eh ill sem z v sg).2) (rK (e ..) (rK (hz ..) ?_))
  induction ill<;>induction sem<;>induction z<;>rfl
 exact h _ rfl
theorem xu(b:Bool)(pre r:List Nat):gk (dj b pre r).1:=by
 unfold dj
 dsimp only
 induction bZ (ad b r).2<;>exact vC _ _ _ _
theorem zG: ∀x∈ba,gk (g9 x):=by
 have a:(ba.all fun x=>!nv (outF x) lj)=true:=by kernel_rfl
 intro x hx
 have h:=DL.mp a x hx
 have h:nv (outF x) lj=false:=by simpa using h
 unfold gk
 refine rK (n9.2 ..) (rK (h ..) ?_)
 unfold g9
 induction semi x.2.1<;>rfl
theorem zF{w:List Nat}(hw:w=[]∨w∈aT):gk (tkW w):=by
 rcases dM hw with⟨x,hx,_,ht⟩ | ⟨_,ht⟩<;>refine rK (ht ..) ?_
 ·exact zG x hx
 ·rfl
theorem vD(r:List Nat):gk (ent r).1:=by
 unfold ent
 induction r with
 | nil=>rfl
 | cons c r=>
  dsimp only
  induction aq c lsB || aq c [60,38]with
  | true=>rfl
  | false=>
   dsimp only
   induction am [c] [35]with
   | false=>exact zF (hU (c::r) [] (.inl rfl))
   | true=>
    dsimp only
    unfold ek
    induction r with
    | nil=>rfl
    | cons x r=>
     dsimp only
     induction aq x [120,88]with
     | true=>
      dsimp only
      unfold iT
      induction r with
      | nil=>rfl
      | cons c r=>
       dsimp only
       induction aq c (lsD true)with
       | true=>exact xu _ _ _
       | false=>rfl
     | false=>
      dsimp only
      induction aq x (lsD false)with
      | true=>exact xu _ _ _
      | false=>rfl
theorem iu(a b:List Tk):aV (a++b)=aV a++aV b:=by unfold aV;exact rK (ET ..) (rK (iK ..) rfl)
theorem fL(a:List Tk):(aV a).length=a.length:=by unfold aV aS;simp
theorem tw_congr{P Q:Nat→Bool}: ∀{l:List Nat},(∀x∈l,P x=Q x)→l.takeWhile P=l.takeWhile Q
 | [],_=>rfl
 | a::l,h=>by
  exact rK (Ed ..) (rK (Ed ..) (rK (h a (wj ..) ..) (rK (tw_congr fun x hx=>h x (DJ _ hx) ..) rfl)))
theorem ky(l:List Nat){a:Nat}(h:a≤l.length):ar l (some (dV a)) none=l.drop a:=by
 unfold ar
 refine rK (eJ h ..) ?_
 show(l.drop a).take (l.length-a)=_
 exact rK (EV (by rw[D3];(exact DQ _)) ..) rfl
theorem rp(tk:List Tk):cN tk=aC (tk.dropLast.map Tk.s):=by unfold cN aC;refine rK (List.map_map ..) ?_;rfl
theorem oS{x:Nat}(h:x≠13):(aB x nW==true)=PW true x:=by
 show _=(aq x lsB==true)
 refine rK (cJ ..) (rK (aN ..) (rK (aN ..) ?_))
 simp[h]
theorem sP{x:Nat}(h:x≠60):(aB x [38,0]==false)=PW false x:=by
 show _=(aq x [38,60,0]==false)
 refine rK (cJ ..) (rK (aN ..) (rK (aN ..) ?_))
 simp[h]
theorem bT(H:Ok1 cx mg mb sa ns):aa cx (clT rwT):=aa.cons (Told.tells (vE H)) (aa.cons (Told.tells (a:=807) (kK H true)) (aa.cons (Told.tells (a:=800) (kK H false)) aa.nil))
structure RwQ(t:List Nat)(p c:Nat)(rest:List Nat):Prop where
 dr:t.drop p=c::rest
 lt:p<t.length
 sg:av (dV p) t=c
 d1:t.drop (p+1)=rest
 ok: ∀x∈c::rest,x∈alpha∧x≠13
 len:t.length≤600
theorem RwQ.of{t:List Nat}{p c:Nat}{rest:List Nat}(h:t.drop p=c::rest)(ok: ∀x∈c::rest,x∈alpha∧x≠13)(len:t.length≤600):RwQ t p c rest:=
 have e:t[p]?=some c:=(GN (xs:=t) (i:=p) (j:=0)).symm.trans (congrArg (·[0]?) h)
 ⟨h,(DT.mp e).1,(by show t.getD p 0=c;refine rK (Eb ..) (rK (e ..) ?_);rfl),(by rw[←FM,h];rfl),ok,len⟩
theorem n60: ∀x∈alpha,x≠60:=fun x hx q=>by
 have a:(alpha.all fun c=>!Nat.beq c 60)=true:=by kernel_rfl
 have:=DL.mp a x hx
 replace this:=(q ..)▸this
 exact Eg this
theorem j5{a b:Nat}(h:am [a] [b]=false):am [b] [a]=false:=iG fun e=>Eg ((aM.mpr (congrArg (fun x=>[x]) e.symm)).symm.trans h)
theorem yT{b:Bool}{t g:List Nat}{p:Nat}(h:p≤t.length):ar t (some (dV p)) (some (dV (tpN b t g p)))=(t.drop p).takeWhile fun c=>aB c g==b:=by
 unfold tpN
 exact rK (pM h (kV (EG (kV (tw_len _) (Eu D3)) p) (Eu (GE h))) ..) (rK (EI ..) (rK (tw_take ..) rfl))
section
variable{t:List Nat}{p c:Nat}{rest:List Nat}{dn:List Tk}{d:Nat}
theorem RwQ.fit(Q:RwQ t p c rest):an (dV p):=kj (kV (D6 Q.lt) (kV Q.len (by decide)))
theorem yi(H:Ok1 cx mg mb sa ns)(Q:RwQ t p c rest)(hd:dn.length≤3000)(h38:am [c] [38]=false)(h0:am [c] [0]=true):SS cx (rwE cx.P (d+6)) (bL (rwW cx.P)) (bl t p (aV dn)) .next (bl t (p+1) (aV (dn++[⟨7,qD,none⟩,⟨1,[0],none⟩]))):=
 nF rfl (by
  show SS _ _ _ _ _ (_::.list (aV (dn++_))::_)
  refine rK (iu ..) ?_
  exact SS.ev (ab H (bT H) {tb:=adL _} 20) (rwB t p (aV dn) d) ⟨Q.fit,Q.lt,Q.sg.symm▸h38,Q.fit,Q.lt,Q.sg.symm▸h0,fL dn▸kV (FW hd 2) (by decide)⟩)
theorem kL{w:Bool}{g:List Nat}(Q:RwQ t p c rest)(h: ∀x∈c::rest,(aB x g==w)=PW w x)(hc:PW w c=true):tpN w t g p=p+(c::rest.takeWhile (PW w)).length∧ar t (some (dV p)) (some (dV (tpN w t g p)))=c::rest.takeWhile (PW w):=by
 have e:((t.drop p).takeWhile fun c=>aB c g==w)=c::rest.takeWhile (PW w):=by
  refine rK (Q.dr ..) (rK (tw_congr (Q:=PW w) h ..) (rK (Ed ..) (rK (hc ..) ?_)))
  rfl
 exact⟨congrArg (fun l:List Nat=>p+l.length) e,(yT (D6 Q.lt)).trans e⟩
theorem sH{p':Nat}{X:List V}{x:List (Str×V)}{tk:List Tk}(e:aV tk=X)(h:SS cx (rwE cx.P (d+6)) (bL (rwW cx.P)) (bl t p (aV dn)) .next [.fr (rwM t p' x),.list (aV dn++X)]):SS cx (rwE cx.P (d+6)) (bL (rwW cx.P)) (bl t p (aV dn)) .next (bl t p' (aV (dn++tk))):=
 nF (x:=x) rfl (by
  show SS _ _ _ _ _ (_::.list (aV (dn++_))::_)
  refine rK (iu ..) (rK (e ..) ?_)
  exact h)
theorem zE(H:Ok1 cx mg mb sa ns)(Q:RwQ t p c rest)(hd:dn.length≤3000)(h38:am [c] [38]=false)(h0:am [c] [0]=false)(h3:aq c lsB=true):SS cx (rwE cx.P (d+6)) (bL (rwW cx.P)) (bl t p (aV dn)) .next (bl t (p+(c::rest.takeWhile (PW true)).length) (aV (dn++[⟨2,c::rest.takeWhile (PW true),none⟩]))):=by
 have hp: ∀x∈c::rest,(aB x nW==true)=PW true x:=fun x hx=>oS (Q.ok x hx).2
 have hc:PW true c=true:=congrArg (· ==true) h3
 have w:=SS.ev (ab H (bT H) {tb:=adL _} 20) (BG t p (aV dn) d) ⟨Q.fit,Q.lt,Q.sg.symm▸h38,Q.fit,Q.lt,Q.sg.symm▸h0,Q.fit,Q.lt,Q.sg.symm▸eq_of_beq ((hp c (wj ..)).trans hc),D6 Q.lt,kV Q.len (by decide),kV Q.len (by decide),fL dn▸kV hd (by decide)⟩
 dsimp only at w
 replace w:=((kL Q hp hc).1)▸(((kL Q hp hc).2)▸w)
 exact sH rfl w
theorem zD(H:Ok1 cx mg mb sa ns)(Q:RwQ t p c rest)(hd:dn.length≤3000)(h38:am [c] [38]=false)(h0:am [c] [0]=false)(h3:aq c lsB=false):SS cx (rwE cx.P (d+6)) (bL (rwW cx.P)) (bl t p (aV dn)) .next (bl t (p+(c::rest.takeWhile (PW false)).length) (aV (dn++[⟨1,c::rest.takeWhile (PW false),none⟩]))):=by
 have hp: ∀x∈c::rest,(aB x [38,0]==false)=PW false x:=fun x hx=>sP (n60 x (Q.ok x hx).1)
 have hc:PW false c=true:=by
  show((am [38] [c] || (am [60] [c] || (am [0] [c] || false)))==false)=true
  refine rK (j5 h38 ..) (rK (j5 h0 ..) (rK (iG fun q=>n60 c (Q.ok c (wj ..)).1 q.symm ..) ?_))
  rfl
 have w:=SS.ev (ab H (bT H) {tb:=adL _} 20) (rwD t p (aV dn) d) ⟨Q.fit,Q.lt,Q.sg.symm▸h38,Q.fit,Q.lt,Q.sg.symm▸h0,Q.fit,Q.lt,Q.sg.symm▸Gd.mpr fun q=>Eg (h3.symm.trans (eq_of_beq ((oS (Q.ok c (wj ..)).2).symm.trans (congrArg (· ==true) q)))),D6 Q.lt,kV Q.len (by decide),kV Q.len (by decide),fL dn▸kV hd (by decide)⟩
 dsimp only at w
 replace w:=((kL Q hp hc).1)▸(((kL Q hp hc).2)▸w)
 exact sH rfl w
theorem vx(H:Ok1 cx mg mb sa ns){S:List Nat}{k:Nat}{W:List (List Nat)}{L':List (List Nat×List Nat)}(hW:W.length≤3)(hd:dn.length≤3000)(hr:(aV dn++cm W)++[cB (kindS (nv S lj)) S]=aS L')(t0:TT cx (rwE cx.P (d+6)) (sA (rwI cx.P)) (bl t p (aV dn)) true (bl t p (aV dn)))
  (a1:SS cx (rwE cx.P (d+6)) [rwA cx.P 0] (bl t p (aV dn)) .next [.fr (rwX t p S k []),.list (aV dn),.list (aC W)]):SS cx (rwE cx.P (d+6)) (bL (rwW cx.P)) (bl t p (aV dn)) .next (bl t (p+1+k) (aS L')):=by
 have x3:=zK H t p S k (dn.map dJ) W (kV hW (by decide)) d
 have tl:(cm W).length≤3:=by unfold cm aS;rw[D4,D4];exact hW
 have gl:(aV dn).length≤3000:=fL dn▸hd
 have gt:(aV dn).length+(cm W).length≤sizeLine:=kV (F8 gl tl) (by decide)
 have a2:=SS.ev (ab H (l:=[]) aa.nil {tb:=adL _,xv:=xvG 1261 19 54 (.list (cm W))} 20) (BI t p S k (aV dn) (aC W) (cm W) (nv S lj) d) ⟨x3,gt,rfl,pm▸gt⟩
 dsimp only at a2
 rw[hr]at a2
 rw[xt]
 exact nF rfl (SS.cons (S1.ite (q:=true) t0 (SS.append a1 a2)) (SS.ev (ab H (bT H) {tb:=adL []} 20) (BH t p S k (p+1+k) (.list (aS L')::[.list (aC W),.list (cm W),.list (aC lj)]) d) trivial))
theorem yh(H:Ok1 cx mg mb sa ns)(Q:RwQ t p c rest)(hd:dn.length≤3000)(h38:am [c] [38]=true):SS cx (rwE cx.P (d+6)) (bL (rwW cx.P)) (bl t p (aV dn)) .next (bl t (p+1+(ent rest).2.1.length) (aV (dn++(ent rest).1))):=by
 have hcut:ar t (some (dV (p+1))) none=rest:=(ky _ Q.lt).trans Q.d1
 have a1:=SS.ev (ab H (bT H) {tb:=adL _} 20) (BJ t p (aV dn) d) ⟨kV Q.len (by decide),by refine rK (ky t (a:=p+1) Q.lt ..) (rK (D3 ..) ?_);exact kV (FY ..) Q.len,by refine rK (hcut ..) ?_;exact fun x hx=>Q.ok x (DJ _ hx)⟩
 dsimp only at a1
 replace a1:=(rp ..)▸((ge ..)▸((hcut ..)▸a1))
 have hr:=vD rest
 unfold gk at hr
 refine vx H (L':=(dn++(ent rest).1).map dJ) (by refine rK (D4 ..) (rK (List.length_dropLast ..) ?_);exact kV (FY ..) (c7 rest).len) hd ?_ (TT.ev (ab H (bT H) {tb:=adL _} 20) (BK t p (aV dn) d) ⟨Q.fit,Q.lt,Q.sg.symm▸h38⟩) a1
 show _=aV _
 exact rK (iu ..) (rK (DV ..) (rK (hr ..) rfl))
end
theorem vz(H:Ok1 cx mg mb sa ns){t:List Nat}{p c:Nat}{rest:List Nat}{dn:List Tk}{d:Nat}(Q:RwQ t p c rest)(hd:dn.length≤3000)(h38:am [c] [38]=false):SS cx (rwE cx.P (d+6)) (bL (rwW cx.P)) (bl t p (aV dn)) .next (bl t (p+(data c rest).2.2.1.length) (aV (dn++(data c rest).2.1))):=by
 unfold data
 refine rK (h38 ..) ?_
 dsimp only
 induction h0:am [c] [0]with
 | true=>exact yi H Q hd h38 h0
 | false=>
  dsimp only
  induction h3:aq c lsB with
  | true=>exact zE H Q hd h38 h0 h3
  | false=>exact zD H Q hd h38 h0 h3
theorem up(c:Nat)(r:List Nat):(data c r).2.1.length≤2:=by
 unfold data
 induction am [c] [38]with
 | true=>exact DU _
 | false=>
  dsimp only
  induction am [c] [0]with
  | true=>exact DQ _
  | false=>
   dsimp only
   induction aq c lsB<;>exact GB _
theorem wN(c:Nat)(r:List Nat):(data c r).1=am [c] [38]:=by
 unfold data
 induction am [c] [38]with
 | true=>rfl
 | false=>
  dsimp only
  induction am [c] [0]with
  | true=>rfl
  | false=>
   dsimp only
   induction aq c lsB<;>rfl
noncomputable def qE (t:List Nat):List Tk:=toks (bn false t) false t
noncomputable def oO:List V→Hp→Option (Out V):=d9 [.s] fun t=>some ⟨.ref 0,[.list (aV (qE t))],[t.length≤600,∀x∈t,x∈alpha∧x≠13]⟩
theorem ul{t a b:List Nat}{p:Nat}(h:t.drop p=a++b):t.drop (p+a.length)=b:=by rw[←FM,h,Fq]
theorem wL{t a b:List Nat}{p:Nat}(h:t.drop p=a++b)(hp:p≤t.length):p+a.length≤t.length:=Nat.add_le_of_le_sub' hp (by refine FL (D3 ..) (rK (h ..) (rK (pm ..) ?_));exact D8 ..)
noncomputable def RwL (cx:Cx) (d:Nat) (t:List Nat) (n:Nat):Prop:= ∀(p:Nat) (rest:List Nat) (dn:List Tk),t.drop p=rest→p≤t.length→(∀x∈rest,x∈alpha∧x≠13)→bn false rest≤n→dn.length+3*rest.length≤3000→
 ∃k,Wh cx (rwE cx.P (d+6)) (sA (rwW cx.P)) (bL (rwW cx.P)) .next (bl t t.length (aV (dn++toks n false rest))) k (bl t p (aV dn))
theorem oN{d:Nat}{t:List Nat}{n p r:Nat}{a b:List Nat}{tk dn:List Tk}(hr:RwL cx d t n)(ht:t.drop p=a++b)(hp:p≤t.length)(hc: ∀x∈a++b,x∈alpha∧x≠13)(hf:bn false b≤n)(hb:b.length≤r)(hk:tk.length≤3)(hd:dn.length+(3*r+3)≤3000):
  ∃k,Wh cx (rwE cx.P (d+6)) (sA (rwW cx.P)) (bL (rwW cx.P)) .next (bl t t.length (aV ((dn++tk)++toks n false b))) k (bl t (p+a.length) (aV (dn++tk))):=
 hr _ _ _ (ul ht) (wL ht hp) (fun x hx=>hc x (EA _ hx)) hf (by
  refine rK (pm ..) (rK (Nat.add_assoc ..) (rK (EJ tk.length ..) ?_))
  exact kV (EG (F8 (EU 3 hb) hk) _) hd)
theorem vy(H:Ok1 cx mg mb sa ns)(t:List Nat)(hl:t.length≤600)(d:Nat)(n:Nat):RwL cx d t n:=by
 induction n using Nat.strongRecOn with
 | ind n ih=>
  intro p rest dn ht hp hc hn hd
  have ls:t.length≤sizeLine:=kV hl (by decide)
  cases rest with
  | nil=>
   refine rK (show toks n false []=[]from by cases n<;>rfl) (rK (D2 ..) ?_)
   cases Fg hp (GA.mp ht)
   exact⟨0,.stop (TT.ev (ab H (bT H) {tb:=adL _} 20) (rw1 t t.length (aV dn) false d) ⟨ls,eQ (DQ _)⟩)⟩
  | cons c r=>
   have Q:=RwQ.of ht hc hl
   have tt:=TT.ev (ab H (bT H) {tb:=adL _} 20) (rw1 t p (aV dn) true d) ⟨ls,m0 Q.lt⟩
   have hd0:dn.length≤3000:=kV (D8 ..) hd
   cases n with
   | zero=>exact absurd hn (EQ _)
   | succ n=>
   cases n with
   | zero=>exact absurd (EK hn) (EQ _)
   | succ n=>
   have hn:2*r.length+1≤n:=EK (EK hn)
   cases h38:am [c] [38]with
   | true=>
    have hq:=lB r
    rw[show toks (n+2) false (c::r)=(ent r).1++toks n false (ent r).2.2 from by cases aM.mp h38;rfl,←DV]
    have hb:=mX r
    exact(oN (ih n (Ge (EB n))) (Q.d1.trans hq.symm) Q.lt (fun x hx=>hc x (DJ _ (hq▸hx))) (kV (EY (EU 2 hb)) hn) hb (c7 r).len hd).imp' (· +1) fun k W=> .turn0 tt (yh (d:=d) H Q hd0 h38) (.inl rfl) W
   | false=>
    have hq:=i0 c r
    rw[show toks (n+2) false (c::r)=(data c r).2.1++toks (n+1) (data c r).1 (data c r).2.2.2 from rfl,wN c r,h38,←DV]
    have hb:=ku c r
    exact(oN (ih (n+1) (EB _)) (ht.trans hq.symm) hp (fun x hx=>hc x (hq▸hx)) (EY (kV (EU 2 hb) (Gh hn))) hb (FI (up c r)) hd).imp' (· +1) fun k W=> .turn0 tt (vz (d:=d) H Q hd0 h38) (.inl rfl) W
theorem BE(P:Params)(t:List Nat):bw (rwF P).dfl [] (rwF P).pars [.str t]=some ([("text",.str t)]:List (Str×V)):=by kernel_rfl
theorem BD(P:Params)(t:List Nat)(d:Nat):enter (rwF P) (d+6) [("text",.str t)] []=some ⟨rwE P (d+6),[.fr [("text",.str t)]],[]⟩:=by kernel_rfl
theorem BC(t:List Nat)(p:Nat)(L:List V):cL [1] (bl t p L) [1] [1]=some [.list L]:=by kernel_rfl
theorem vw(H:Ok1 cx mg mb sa ns):Told cx 852 7 oO:=by
 refine Told.fn0 fun t {A ρ s xs d} r S hv=>af fun ob=>?_
 refine o02 ob fun o1 o2=>?_
 have o2: ∀x∈t,x∈alpha∧x≠13:=o2
 have HF:=fun l=>ab H (bT H) {tb:=adL l} 20
 obtain⟨k,W⟩:=vy H t o1 d (bn false t) 0 t [] rfl (DU _) o2 (DQ _) (by show 0+3*t.length≤3000;lia)
 refine o21 (H.fns 852 (rwF cx.P) (by kernel_rfl)) fun obj fd kk=>?_
 have w:SS cx (rwE cx.P (d+6)) (rwF cx.P).body [.fr [("text",.str t)]] (.ret (.ref 1)) (bl t t.length (aV (qE t))):=by
  rw[vA,←xt]
  exact SS.append (SS.ev (HF []) (rw0 t d) trivial) (SS.cons (a9 W) (SS.ev (HF []) (rw2 t t.length (aV (qE t)) d) trivial))
 have c:=aR (kws:=[]) (ks:=[]) (d:=d+6) (o:=⟨rwE cx.P (d+6),[.fr [("text",.str t)]],[]⟩) H r kk S hv (rfl) (BE _ _) (BD _ _ d) rfl w
 refine ah.pick (sel:=[1]) (r:=inv [1]) c (aW (fl:=[1]) (fun j o he hj=>?_) (BC t t.length (aV (qE t))) rfl rfl) rfl
 have:j=1:=by
  rw[aN,decide_eq_true_iff]at he
  simpa using he
 subst this
 cases hj
 exact dg _
noncomputable abbrev meF (P:Params):Fn:=fnN 786
noncomputable abbrev meE (P:Params) (d:Nat):EE:=⟨0,[("text",1)],(meF P).scope,d⟩
noncomputable abbrev meX (P:Params):Expr:=(qL (sA (az (meF P).body 0))).getD 0 default
noncomputable abbrev meC (P:Params) (d:Nat):EE:=⟨3,[("text",1)],a6 (lcS (meX P)) (meF P).scope,d⟩
noncomputable def kcO:Option (Nat×Nat)→List (Str×V)
 | none=>[]
 | some (k,c)=>[("k",.int (dV k)),("c",.str [c])]
noncomputable abbrev me0 (t:List Nat):Hp:=[.fr [],.cell (some (.str t))]
noncomputable abbrev meL (t:List Nat) (ys:List V) (o:Option (Nat×Nat)):Hp:=[.fr [],.cell (some (.str t)),.list ys,.fr (kcO o)]
noncomputable def bU:Bool→List Nat→List Nat
 | _,[]=>[]
 | b,c::r=>match DI c 10&&b with
  | true=>bU (DI c 13) r
  | false=>turn c::bU (DI c 13) r
noncomputable def eU (t:List Nat):Nat→Bool
 | 0=>false
 | k+1=>DI (t.getD k 0) 13
theorem tf(P:Params):meX P=.ListComp (qA (meX P)) [⟨.Tuple (exC (qB (meX P))) (exM (qB (meX P))) (qB (meX P)).pos,.Call (.Name (exN (qA (qC (meX P)))) (qA (qC (meX P))).pos) (qL (qC (meX P))) [] (qC (meX P)).pos,[(exD (meX P)).getD 0 default],0⟩] (lcS (meX P)) (meX P).pos:=by kernel_rfl
theorem Ad(P:Params):dH [("text",1)] (lcS (meX P)).names []=some ([("text",1)]:List (Str×Nat))∧(lcS (meX P)).kind=.function∧(∀x∈(lcS (meX P)).names,x.2≠ .cell)∧(∀x∈(lcS (meX P)).names,x.2=.local→(lcS (meX P)).names.lookup x.1=some .local)∧(∀env x,foldedSetIterable (.Call (.Name (exN (qA (qC (meX P)))) (qA (qC (meX P))).pos) (qL (qC (meX P))) [] (qC (meX P)).pos) env x=pure x):=⟨by kernel_rfl,by kernel_rfl,ce (by kernel_rfl),bK (by kernel_rfl),fun _ _=>by kernel_rfl⟩
theorem me1(t:List Nat)(d:Nat):(LV cx sa ns [] []).ex (meE cx.P d) (.Name (exN (qA (qC (meX cx.P)))) (qA (qC (meX cx.P))).pos) (me0 t)=some ⟨.ty .enumerate,me0 t,[]⟩:=by kernel_rfl
theorem me2(t:List Nat)(d:Nat):exs (LV cx sa ns [] []) (meE cx.P d) (qL (qC (meX cx.P))) (me0 t)=some ⟨[.str t],me0 t,[]⟩:=by kernel_rfl
theorem me3(t:List Nat)(ys:List V)(o:Option (Nat×Nat))(k c d:Nat):aF (T1 sa ns) (LV cx sa ns [] []) (meC cx.P d) (.Tuple (exC (qB (meX cx.P))) (exM (qB (meX cx.P))) (qB (meX cx.P)).pos) (.tup [.int (dV k),.str [c]]) (meL t ys o)=some ⟨(),meL t ys (some (k,c)),[]⟩:=by rcases o with _ | ⟨a,b⟩<;>kernel_rfl
theorem Cv(t:List Nat)(ys:List V)(k c d:Nat):(LV cx sa ns [] [(1194,76,85,true)]).tst (meC cx.P d) ((exD (meX cx.P)).getD 0 default) (meL t ys (some (k,c)))=some ⟨true,meL t ys (some (k,c)),[(!am [c] [10])=true]⟩:=by kernel_rfl
theorem Cu(t:List Nat)(ys:List V)(c d:Nat):(LV cx sa ns [] [(1194,76,85,false)]).tst (meC cx.P d) ((exD (meX cx.P)).getD 0 default) (meL t ys (some (0,c)))=some ⟨true,meL t ys (some (0,c)),[(!am [c] [10])=false]⟩:=by kernel_rfl
theorem Ct(t:List Nat)(ys:List V)(k c d:Nat)(z:Bool):(LV cx sa ns [] [(1194,76,85,false),(1194,89,95,false),(1194,99,118,z)]).tst (meC cx.P d) ((exD (meX cx.P)).getD 0 default) (meL t ys (some (k,c)))=some ⟨z,meL t ys (some (k,c)),[(!am [c] [10])=false,decide (dV k=dV 0)=false,an (dV k-1),inR (dV k-1) t.length,(!am [av (dV k-1) t] [13])=z]⟩:=by induction z<;>kernel_rfl
theorem me5(t:List Nat)(ys:List V)(k c d:Nat)(z:Bool):(LV cx sa ns [] [(1194,28,37,z)]).ex (meC cx.P d) (qA (meX cx.P)) (meL t ys (some (k,c)))=some ⟨.str (match z with | true=>[10] | false=>[c]),meL t ys (some (k,c)),[am [c] [13]=z]⟩:=by induction z<;>kernel_rfl
theorem me6(t:List Nat)(M:List V)(d:Nat):(evN (T1 sa ns) (mkO cx (clT []) {tb:=adL [],xv:=xvG 1194 19 119 (.list M)}) 20).ss (meE cx.P d) (meF cx.P).body (me0 t)=some ⟨.ret (.str (bD [] (ay M))),me0 t++[.list M],[XX cx (meE cx.P d) (meX cx.P) (me0 t) (.ref 2) (me0 t++[.list M]),strsOf M=some (ay M),eO (ay M)+(ay M).length*0≤sizeLine]⟩:=by kernel_rfl
theorem me7(P:Params)(t:List Nat):bw (meF P).dfl [] (meF P).pars [.str t]=some ([("text",.str t)]:List (Str×V)):=by kernel_rfl
theorem me8(P:Params)(t:List Nat)(d:Nat):enter (meF P) d [("text",.str t)] []=some ⟨meE P d,me0 t,[]⟩:=by kernel_rfl
theorem d6(a b:Nat):am [a] [b]=DI a b:=by
 show(match DI a b with | true=>am [] [] | false=>false)=_
 induction DI a b<;>rfl
theorem va(c:Nat):(match DI c 13 with | true=>[10] | false=>[c])=[turn c]:=by
 unfold turn
 induction DI c 13<;>rfl
theorem wc(H:Ok1 cx mg mb sa ns){t:List Nat}{k c:Nat}(hk:k<t.length)(hl:t.length≤600)(ys:List V)(d:Nat):TT cx (meC cx.P d) ((exD (meX cx.P)).getD 0 default) (meL t ys (some (k,c))) (!(DI c 10&&eU t k)) (meL t ys (some (k,c))):=by
 have HF:=fun l=>ab H (l:=[]) aa.nil {tb:=adL l} 20
 induction q:DI c 10 with
 | false=>exact TT.ev (HF _) (Cv t ys k c d) (vY ((d6 c 10).trans q))
 | true=>induction k with
  | zero=>exact TT.ev (HF _) (Cu t ys c d) (mA ((d6 c 10).trans q))
  | succ k=>
   have ei:dV (k+1)-1=dV k:=Int.sub_eq_iff_eq_add.mpr rfl
   exact TT.ev (HF _) (Ct t ys (k+1) c d (!eU t (k+1))) ⟨mA ((d6 c 10).trans q),eP (Gk k),ei▸kj (kV (Gh (D6 hk)) (kV hl (by decide))),ei▸Nat.lt_of_succ_lt hk,ei▸congrArg not (d6 ..)⟩
theorem Ae(H:Ok1 cx mg mb sa ns)(t:List Nat)(hl:t.length≤600)(d:Nat)(rest:List Nat): ∀(k:Nat) (acc:List Nat) (o:Option (Nat×Nat)),t.drop k=rest→acc.length≤k→
  ∃o',Cp cx (T1 sa ns) (LV cx sa ns [] []) (meC cx.P d) (.Tuple (exC (qB (meX cx.P))) (exM (qB (meX cx.P))) (qB (meX cx.P)).pos) [(exD (meX cx.P)).getD 0 default] (qA (meX cx.P)) (fw t) (fun _=>True) 2 (meL t (csV (acc++bU (eU t k) rest)) o') rest.length k (meL t (csV acc) o):=by
 induction rest with
 | nil=>
  intro k acc o h1 h3
  refine rK (show bU (eU t k) []=[]from rfl) (rK (D2 ..) ?_)
  exact⟨o,.done (by unfold fw;exact rK (Es.mpr (GA.mp h1) ..) rfl)⟩
 | cons c r ih=>
  intro k acc o h1 h3
  have e:t[k]?=some c:=(GN (xs:=t) (i:=k) (j:=0)).symm.trans (congrArg (·[0]?) h1)
  have hk:=(DT.mp e).1
  have hi:fw t k=some (.tup [.int (dV k),.str [c]]):=by unfold fw;exact rK (e ..) rfl
  have hp:eU t (k+1)=DI c 13:=by show DI (t.getD k 0) 13=_;refine rK (Eb ..) (rK (e ..) ?_);rfl
  have hd:t.drop (k+1)=r:=by rw[←FM,h1];rfl
  have ht:=wc (c:=c) H hk hl (csV acc) d
  have em:bU (eU t k) (c::r)=match DI c 10&&eU t k with | true=>bU (eU t (k+1)) r | false=>turn c::bU (eU t (k+1)) r:=by refine rK (hp ..) ?_;rfl
  refine rK (em ..) ?_
  revert ht
  induction DI c 10&&eU t k with
  | true=>exact fun ht=>(ih (k+1) acc (some (k,c)) hd (FI h3)).imp fun o' w=> .skip0 hi (me3 t (csV acc) o k c d) trivial (.one ht) trivial w
  | false=>
   intro ht
   have x:=XX.ev (ab H (l:=[]) aa.nil {tb:=adL _} 20) (me5 t (csV acc) k c d (DI c 13)) (d6 c 13)
   dsimp only at x
   replace x:=(va ..)▸x
   refine(ih (k+1) (acc++[turn c]) (some (k,c)) hd (pm (as:=acc)▸EY h3)).imp fun o' w=> .keep0 hi (me3 t (csV acc) o k c d) trivial (.one ht) x rfl (by refine rK (lD ..) ?_;exact kV h3 (kV (D6 hk) (kV hl (by decide)))) trivial ?_
   replace w:=(DV ..)▸w
   show Cp _ _ _ _ _ _ _ _ _ _ _ _ _ (meL t (csV acc++[.str [turn c]]) _)
   refine rK (hZ ..) ?_
   exact w
theorem fU: ∀t:List Nat,bU false t=aA t
 | []=>rfl
 | [c]=>by
  show(match DI c 10&&false with | true=>_ | false=>turn c::[])=_
  induction DI c 10<;>rfl
 | c::d::r=>by
  have h1:=fU (d::r)
  have h2:=fU r
  have e1:bU false (c::d::r)=turn c::bU (DI c 13) (d::r):=by
   show(match DI c 10&&false with | true=>_ | false=>_)=_
   induction DI c 10<;>rfl
  have e2:aA (c::d::r)=match DI c 13,DI d 10 with | true,true=>10::aA r | true,false=>10::aA (d::r) | false,_=>c::aA (d::r):=rfl
  rw[e1,e2]
  unfold turn
  induction hc:DI c 13 with
  | false=>exact congrArg (c:: ·) h1
  | true=>
   induction hd:DI d 10 with
   | true=>
    have e3:bU true (d::r)=bU (DI d 13) r:=by
     show(match DI d 10&&true with | true=>bU (DI d 13) r | false=>_)=_
     refine rK (hd ..) ?_;rfl
    have e4:DI d 13=false:=by refine rK (DK hd ..) ?_;rfl
    exact rK (e3 ..) (rK (e4 ..) (rK (h2 ..) rfl))
   | false=>
    have e3:bU true (d::r)=bU false (d::r):=by
     show(match DI d 10&&true with | true=>_ | false=>_)=(match DI d 10&&false with | true=>_ | false=>_)
     rw[hd];rfl
    rw[e3,h1]
noncomputable def o6:List V→Hp→Option (Out V):=d9 [.s] fun t=>some ⟨.str (aA t),[],[t.length≤600]⟩
theorem me9(t:List Nat)(ys:List V)(o:Option (Nat×Nat)):cL [2] (meL t ys o) [0,1,2] [0,1,2]=some (me0 t++[.list ys]):=by kernel_rfl
theorem wU(l:List Nat):nx (.list (csV l)):=by
 have h1: ∀(g:Nat→Prop) (l:List Nat),dI g (csV l):=fun g l=>by
  induction l with
  | nil=>trivial
  | cons a l ih=>exact⟨trivial,ih⟩
 have h2: ∀(u:Nat→Nat) (l:List Nat),dK u (csV l)=csV l:=fun u l=>by
  induction l with
  | nil=>rfl
  | cons a l ih=>exact congrArg (V.str [a]:: ·) ih
 exact⟨fun g=>h1 g l,fun u=>congrArg AO.list (h2 u l)⟩
theorem wb(H:Ok1 cx mg mb sa ns):Told cx 786 1 o6:=by
 have hs:=sizeLine_eq
 refine Told.fn0 fun t {A ρ s xs d} r S hv=>af fun ob=>?_
 have ob:t.length≤600:=ob
 have HF:=ab H (l:=[]) aa.nil {tb:=adL []} 20
 refine o05 (Ad cx.P) fun k1 k2 k3 k4 k5=>?_
 refine o11 (Ae H t ob d t 0 [] none rfl (DU _)) fun o' c=>?_
 replace c:=(ES ..)▸c
 have c:Cp cx _ _ _ _ _ _ _ _ 2 (meL t (csV (bU false t)) o') t.length 0 _:=c
 replace c:=(fU ..)▸c
 have x:XX cx (meE cx.P d) (meX cx.P) (me0 t) (.ref 2) (me0 t++[.list (csV (aA t))]):=by
  refine rK (tf ..) ?_
  exact XX.lcG (j:=2) (mf:=kcO o') H HF (IIG.enum H HF (me1 t d) trivial (by kernel_rfl) (me2 t d) trivial rfl rfl) (fun h=>h) k1 k2 k3 k4 c k5 rfl
   (aW (fun j o he hj=>by
    have:j=2:=by
     rw[aN,decide_eq_true_iff]at he
     simpa using he
    subst this
    cases hj
    exact wU _) (me9 t (csV (aA t)) o') rfl rfl) (by show¬(3∈[0,1,2]);decide) rfl
 have hm:=iC t
 have w:=SS.ev (ab H (l:=[]) aa.nil {tb:=adL [],xv:=xvG 1194 19 119 (.list (csV (aA t)))} 20) (me6 t (csV (aA t)) d) ⟨x,gr _,by show eO (ay (csV (aA t)))+(ay (csV (aA t))).length*0≤sizeLine;refine rK (ll ..) (rK (GQ ..) ?_);lia⟩
 dsimp only at w
 replace w:=(df ..)▸w
 refine o21 (H.fns 786 (meF cx.P) (by kernel_rfl)) fun obj fd kk=>?_
 have cc:=aR (kws:=[]) (ks:=[]) (d:=d) (o:=⟨meE cx.P d,me0 t,[]⟩) H r kk S hv (rfl) (me7 _ _) (me8 _ _ d) rfl w
 exact ah.pick (σ':=[]) (sel:=[]) (r:=inv []) cc (pick_from (by rfl) rfl rfl) trivial
theorem yn{S:Stm}{p r:List Nat}{q:Bool}(h:SI S (p.reverse++r) r q):(S.chunk.take S.off).foldl bt (S.pl,S.pc)=db p.reverse:=by
 refine o12 h.whole fun dn h1 h2=>?_
 have hr:=h.rest
 have e:p.reverse=dn++S.chunk.take S.off:=by
  have:p.reverse++r=(dn++S.chunk.take S.off)++r:=by
   refine rK (h1 ..) ?_
   conv=>rhs;rw[hr]
   rw[DV,←DV (S.chunk.take S.off),FQ]
  exact Gg this
 rw[e,kW,h2]
noncomputable def oT:List V→Hp→Option (Out V):=fnP [.k (.ref 0)] fun σs=>(n3 σs).bind fun x=>some ⟨.tup [.int (dV ((db x.1.reverse).1+1)),.int (dV (db x.1.reverse).2)],LS x.1 x.2.1 x.2.2,[]⟩
theorem psA(t:List Nat)(p:Nat)(ch:List Nat)(o:Nat)(b:Option Nat)(pl pc d:Nat):bo 6 [0,1,2,3,4,5] ((TE cx sa ns [yb] aL 20).call (d+2) (.old 126) [.ref 0] [] (L6 t p (DS ⟨ch,o,b,pl,pc⟩)))
 =some ⟨.tup [.int (dV ((aP ⟨ch,o,b,pl,pc⟩ o).1+1)),.int (dV (aP ⟨ch,o,b,pl,pc⟩ o).2)],L6 t p (DS ⟨ch,o,b,pl,pc⟩),[L6 t p (DS ⟨ch,o,b,pl,pc⟩)=L6 t p (DS ⟨ch,o,b,pl,pc⟩),o≤ch.length]⟩:=by induction b<;>kernel_rfl
theorem vL(H:Ok1 cx mg mb sa ns):Told cx 126 2 oT:=by
 refine Told.fn fun σs {A ρ s xs d} r S hv=>rj fun p rr q hL=>af fun _=>?_
 subst hL
 refine LS.call S rfl fun t St ht si S2=>?_
 have hp:=yn si
 obtain⟨ch,o,b,pl,pc⟩:=St
 refine⟨_,si,?_⟩
 have HC:aa cx (clT [yb]):=aa.cons (Told.tells (mr H)) aa.nil
 have run:=aJ (kw:=[]) (kws:=[]) (ab H HC {tb:=aL} 20) r S2 hv (rfl) (psA t t.length ch o b pl pc d) ⟨rfl,si.off⟩
 have e:aP ⟨ch,o,b,pl,pc⟩ o=db p.reverse:=hp
 dsimp only at run
 replace run:=(e ..)▸run
 exact run
noncomputable abbrev lwF (P:Params):Fn:=fnN 857
noncomputable abbrev lwE (P:Params) (d:Nat):EE:=⟨0,[],(lwF P).scope,d⟩
noncomputable abbrev lwS (P:Params) (i:Nat):Stmt:=az (lwF P).body i
noncomputable abbrev lwX (P:Params):Expr:=(qL (qA (sA (lwS P 0)))).getD 0 default
noncomputable def pieceOf (n:Int):List Nat:=cC.getD (n.fmod 42).toNat []
noncomputable def mJ (ns:List Int):List Nat:=ar (bD [] ((ar ns none (some 24)).map pieceOf)) none (some 32)
noncomputable abbrev lw0 (sa:Addr):Hp:=[.fr [("script",.old sa)]]
noncomputable abbrev lwN (o:Option Int):List (Str×V):=match o with | none=>[] | some n=>[("n",.int n)]
noncomputable abbrev lwC (sa:Addr) (xs ys:List V) (o:Option Int):Hp:=[.fr [("script",.old sa)],.list xs,.list ys,.fr (lwN o)]
noncomputable abbrev tj (P:Params) (d:Nat):EE:=⟨3,[],a6 (lcS (lwX P)) (lwF P).scope,d⟩
noncomputable abbrev gE (l:List Int):List V:=l.map V.int
section
variable{cx:Cx}{K:Frag}{mg mb:Str→Option Value}{T:Tab}{ee:EE}{σ:Hp}
theorem XX.sliceOld{sa:Addr}{xs:List V}(hs:OR cx 0 zero cx.h₀ sa (.list xs))(ha: ∀v∈xs,v.atom=true)(hl:xs.length≤sizeLine){o0 u:Expr}{n:Int}{p pos:Pos}(h1:XX cx ee o0 σ (.old sa) σ)(h2:XX cx ee u σ (.int n) σ):
  XX cx ee (.Subscript o0 (.Slice none (some u) none p) pos) σ (.ref σ.length) (σ++[.list (ar xs none (some n))]):=by
 refine .mk ?_
 intro A ρ s env r e S
 refine rK (arm_eval_Subscript ..) ?_
 refine wpAny_bind ((h1.it _ _ _ _ r e S).use fun x ρ1 s1 x1 r1=>wpAny_bind (wpAny_holding ?_))
 refine wpAny_Slice ?_
 refine wpAny_pure ?_
 refine(h2.it _ _ _ _ r (e.ext x1.ext) x1.sat).use fun vu ρ3 s3 x3 r3=>?_
 refine wpAny_pure ?_
 have r1:x=.ref sa:=r1
 subst r1
 refine o02 (x3.sat.grow (h':=s3.heap.push {cls:=.type "slice",data:=.fields #[.none,vu,.none]}) fun b o' q=>Heap.get?_push_of_some _ q) fun S5 x5=>?_
 have y5:Aft cx σ.length ρ3 s3 σ ρ3 {s3 with heap:=s3.heap.push {cls:=.type "slice",data:=.fields #[.none,vu,.none]}}:=⟨S5,x5,rfl,rfl⟩
 refine o22 hs fun items k g0 v0=>?_
 have g:=S5.keep _ _ g0
 have v:=VRs.atoms (n':=σ.length) (ρ':=ρ3) (h':=s3.heap.push {cls:=.type "slice",data:=.fields #[.none,vu,.none]}) ha v0
 refine wpAny_bind (wpAny_standAt (wpAny_bind ((Sub.list g rfl).gip (wpAny_bind (ez ?_)))))
 obtain⟨pl,p1,e1,q1⟩:=dY (n:=σ.length) (ρ:=ρ3) (h:=s3.heap) (v:=.none) (x:=.none) (r:=none) (rfl) rfl
 obtain⟨pu,p2,e2,q2⟩:=dY (r:=some n) r3 rfl
 have q:=ag.list (s:={s3 with heap:=s3.heap.push {cls:=.type "slice",data:=.fields #[.none,vu,.none]}}) (n:=s3.toks) (items:=slicePick items none (some n) none) y5.sat (by refine rK (mw ..) ?_;exact v.cut none (some n))
 refine wpAny_getItem_list_slice ⟨_,g,rfl,_,rfl⟩ (Heap.IsSliceOf.new _ _ _ _) pl pu .none (by simp) ?_ (by rw[←v.size];exact hl)
 refine o12 q fun ρ6 x6 r6=>?_
 exact wpAny_bind (wpAny_letTemporaryGo (wpAny_pure (((x1.trans x3).trans y5).trans x6 |>.post r6)))
end
theorem wg(P:Params):(lwF P).body=[lwS P 0,lwS P 1,lwS P 2,lwS P 3,lwS P 4,lwS P 5]:=by kernel_rfl
theorem th(P:Params):lwX P=.ListComp (qA (lwX P)) [⟨qB (lwX P),qC (lwX P),exD (lwX P),0⟩] (lcS (lwX P)) (lwX P).pos:=by kernel_rfl
theorem Cy(P:Params):qC (lwX P)=.Subscript (qA (qC (lwX P))) (.Slice none (some (qA (qB (qC (lwX P))))) none ((qB (qC (lwX P))).pos)) (qC (lwX P)).pos:=by kernel_rfl
theorem Cz(P:Params):qA (lwX P)=.Subscript (qA (qA (lwX P))) (qB (qA (lwX P))) (qA (lwX P)).pos:=by kernel_rfl
theorem Ah(P:Params):u1 [] [] (lwX P):=⟨by kernel_rfl,by kernel_rfl,ce (by kernel_rfl),bK (by kernel_rfl),fun _ _=>by kernel_rfl,fun _ _=>by kernel_rfl⟩
theorem CJ(d:Nat):(LV cx sa ns [] []).ex (lwE cx.P d) (qA (qC (lwX cx.P))) (lw0 sa)=some ⟨.old sa,lw0 sa,[]⟩:=by kernel_rfl
theorem CI(d:Nat):(LV cx sa ns [] []).ex (lwE cx.P d) (qA (qB (qC (lwX cx.P)))) (lw0 sa)=some ⟨.int 24,lw0 sa,[]⟩:=by kernel_rfl
theorem CH(xs ys:List V)(o:Option Int)(n:Int)(d:Nat):aF (T1 sa ns) (LV cx sa ns [] []) (tj cx.P d) (qB (lwX cx.P)) (.int n) (lwC sa xs ys o)=some ⟨(),lwC sa xs ys (some n),[]⟩:=by induction o<;>kernel_rfl
theorem CG(xs ys:List V)(n:Int)(d:Nat):(LV cx sa ns [] []).ex (tj cx.P d) (qA (qA (lwX cx.P))) (lwC sa xs ys (some n))=some ⟨.old 767,lwC sa xs ys (some n),[]⟩:=by kernel_rfl
theorem CF(xs ys:List V)(n:Int)(d:Nat):(LV cx sa ns [] []).ex (tj cx.P d) (qB (qA (lwX cx.P))) (lwC sa xs ys (some n))=some ⟨.int (n.fmod 42),lwC sa xs ys (some n),[]⟩:=by kernel_rfl
theorem CD(P:Params):exD (lwX P)=[]:=by kernel_rfl
theorem CC(xs ys:List V)(o:Option Int):cL [2] (lwC sa xs ys o) [0,2] [0,2]=some [.fr [("script",.old sa)],.list ys]:=by kernel_rfl
theorem CB(ys:List V)(d:Nat):(evN (T1 sa ns) (mkO cx (clT []) {tb:=adL [],xv:=xvG 1276 19 61 (.list ys)}) 20).ss (lwE cx.P d) [lwS cx.P 0] (lw0 sa)=some ⟨.next,[.fr [("script",.old sa),("text",.str (ar (bD [] (ay ys)) none (some 32)))],.list ys],
 [XX cx (lwE cx.P d) (lwX cx.P) (lw0 sa) (.ref 1) (lw0 sa++[.list ys]),strsOf ys=some (ay ys),eO (ay ys)+(ay ys).length*0≤sizeLine,(bD [] (ay ys)).length≤sizeLine]⟩:=by kernel_rfl
theorem ig: ∀l:List (List Nat),ay (aC l)=l∧strsOf (aC l)=some l
 | []=>⟨rfl,rfl⟩
 | a::l=>by
  refine o02 (ig l) fun h1 h2=>?_
  refine⟨congrArg (a:: ·) h1,?_⟩
  show((strsOf (aC l)).bind fun xs=>some (a::xs))=_
  refine rK (h2 ..) ?_;rfl
theorem lh(n:Int):0≤n.fmod 42∧n.fmod 42<42:=⟨Int.fmod_nonneg_of_pos n (by decide),Int.fmod_lt_of_pos n (by decide)⟩
theorem qJ: ∀(m:Nat),m<42→ ∀σ,cg (T1 sa ns) (.old 767) (.int (dV m)) σ=some ⟨.str (cC.getD m []),σ,[an (dV m)]⟩:=fun m hm σ=>
 ui (l:=Gb 42) (f:=fun m σ=>cg (T1 sa ns) (.old 767) (.int (dV m)) σ) (g:=fun m σ=>some ⟨.str (cC.getD m []),σ,[an (dV m)]⟩) (by kernel_rfl) m (FN.mpr hm) σ
theorem mu{σ:Hp}(n:Int):cg (T1 sa ns) (.old 767) (.int (n.fmod 42)) σ=some ⟨.str (pieceOf n),σ,[an (n.fmod 42)]⟩:=by
 have q:=Int.toNat_of_nonneg (lh n).1
 have:=qJ (sa:=sa) (ns:=ns) (n.fmod 42).toNat ((Int.toNat_lt (lh n).1).mpr (lh n).2) σ
 replace this:=(q ..)▸((DN ..)▸this)
 exact this
theorem Ai(H:Ok1 cx mg mb sa ns)(l:List Int)(hl:l.length≤100)(d:Nat): ∀(todo done:List Int) (o:Option Int),l=done++todo→
  ∃o',Cp cx (T1 sa ns) (LV cx sa ns [] []) (tj cx.P d) (qB (lwX cx.P)) (exD (lwX cx.P)) (qA (lwX cx.P)) (fun j=>(gE l)[j]?) (fun σ'=>σ'[1]?=some (.list (gE l))) 2 (lwC sa (gE l) (aC (l.map pieceOf)) o') todo.length done.length (lwC sa (gE l) (aC (done.map pieceOf)) o):=by
 have hs:=sizeLine_eq
 have HF:=ab H (l:=[]) aa.nil {tb:=adL []} 20
 intro todo
 induction todo with
 | nil=>
  intro done o h
  have e:l=done:=by exact rK (h ..) (rK (D2 ..) rfl)
  refine rK (e ..) ?_
  refine⟨o,.done ?_⟩
  simp
 | cons w todo ih=>
  intro done o h
  obtain⟨o',cc⟩:=ih (done++[w]) (some w) (by refine rK (h ..) ?_;simp)
  have hi:(gE l)[done.length]?=some (.int w):=by
   refine rK (h ..) ?_
   simp
  have hy:(aC (done.map pieceOf)).length≤sizeLine:=by
   have:=congrArg Ea h
   replace this:=(pm ..)▸this
   unfold aC
   refine rK (D4 ..) (rK (D4 ..) ?_)
   lia
  replace cc:=(pm ..)▸cc
  have x:XX cx (tj cx.P d) (qA (lwX cx.P)) (lwC sa (gE l) (aC (done.map pieceOf)) (some w)) (.str (pieceOf w)) (lwC sa (gE l) (aC (done.map pieceOf)) (some w)):=by
   refine rK (Cz ..) ?_
   refine o02 (lh w) fun h0 h1=>?_
   exact XX.item H (XX.ev HF (CG (gE l) _ w d) trivial) (XX.ev HF (CF (gE l) _ w d) trivial) (mu w) ⟨by lia,by lia⟩
  refine⟨o',.keep0 hi (CH (gE l) _ o w d) trivial (by refine rK (CD ..) ?_;exact .nil) x rfl hy rfl ?_⟩
  have e:aC (done.map pieceOf)++[.str (pieceOf w)]=aC ((done++[w]).map pieceOf):=by unfold aC;refine rK (ET ..) (rK (ET ..) ?_);rfl
  show Cp cx _ _ _ _ _ _ _ _ 2 _ todo.length (done.length+1) (lwC sa (gE l) (aC (done.map pieceOf)++[.str (pieceOf w)]) (some w))
  refine rK (e ..) ?_
  exact cc
theorem Ag(H:Ok1 cx mg mb sa ns)(hs:OR cx 0 zero cx.h₀ sa (.list (ns.map .int)))(hn:ns.length≤100)(d:Nat):XX cx (lwE cx.P d) (lwX cx.P) (lw0 sa) (.ref 1) (lw0 sa++[.list (aC ((ar ns none (some 24)).map pieceOf))]):=by
 have hz:=sizeLine_eq
 have HF:=ab H (l:=[]) aa.nil {tb:=adL []} 20
 have kk:=Ah cx.P
 have hat: ∀v∈ns.map V.int,v.atom=true:=fun v hv=>by
  refine o12 (Fh.mp hv) fun n _ e2q=>?_;subst e2q
  rfl
 have x0:=XX.sliceOld (p:=(qB (qC (lwX cx.P))).pos) (pos:=(qC (lwX cx.P)).pos) hs hat (by rw[D4];(exact kV (by assumption) (by decide))) (XX.ev HF (CJ d) trivial) (XX.ev HF (CI d) trivial)
 rw[←Cy]at x0
 have e1:ar (ns.map V.int) none (some 24)=gE (ar ns none (some 24)):=by
  unfold ar
  simp only[List.map_drop,List.map_take,D4]
 rw[e1]at x0
 obtain⟨o',c⟩:=Ai H (ar ns none (some 24)) (by unfold ar;simp only[EZ,D3];omega) d (ar ns none (some 24)) [] none rfl
 rw[th]
 exact XX.lc (j:=1) (mf:=lwN o') H HF (II.list (i:=1) (xs:=gE (ar ns none (some 24))) x0 rfl) (fun h=>h) kk.clos kk.kind kk.cell kk.names c kk.fold kk.own rfl
  (aW (fun j o he hj=>by
   have:j=2:=by
    rw[aN,decide_eq_true_iff]at he
    simpa using he
   subst this
   cases hj
   exact eA _) (CC _ _ o') rfl rfl) (by show¬(3∈[0,2]);decide) rfl
theorem nN:(cC.all fun p=>Ex p.length 7)=true:=by rfl
theorem kX:(cC.all fun p=>p.all fun c=>aB c alpha)=true:=by rfl
theorem jS(n:Int):pieceOf n∈cC∨pieceOf n=[]:=by
 unfold pieceOf
 refine rK (Eb ..) ?_
 induction q:cC[(n.fmod 42).toNat]? with
 | none=>exact .inr rfl
 | some x=>exact .inl (Fa q)
theorem qK(n:Int):(pieceOf n).length≤7:=by
 rcases jS n with h | h
 ·exact Ef.mp (DL.mp nN _ h)
 ·refine rK (h ..) ?_;exact DU _
theorem mv(n:Int): ∀c∈pieceOf n,c∈alpha:=fun c hc=>by
 rcases jS n with h | h
 ·have:=DL.mp (DL.mp kX _ h) c hc
  replace this:=(aN ..)▸this
  exact of_decide_eq_true this
 ·replace hc:=(h ..)▸hc;cases hc
theorem lk: ∀l:List Int,eO (l.map pieceOf)≤7*l.length
 | []=>DU _
 | n::l=>by
  have h1:=qK n
  have h2:=lk l
  show(pieceOf n).length+eO (l.map pieceOf)≤7*(l.length+1)
  lia
theorem iR: ∀l:List (List Nat),l.flatten.length=eO l
 | []=>rfl
 | a::l=>by
  refine rK (List.flatten_cons ..) (rK (pm ..) (rK (iR l ..) ?_));rfl
theorem iH(ns:List Int): ∀c∈mJ ns,c∈alpha:=fun c hc=>by
 unfold mJ ar at hc
 have hc:=List.mem_of_mem_drop (List.mem_of_mem_take hc)
 rw[join_nil]at hc
 refine o12 (List.mem_flatten.mp hc) fun p hp hcp=>?_
 refine o12 (Fh.mp hp) fun n _ e2q=>?_;subst e2q
 exact mv n c hcp
theorem tF(hn:ns.length≤80):(mJ ns).length≤600:=by
 have h1:(ar ns none (some 24)).length≤80:=by unfold ar;simp only[EZ,D3];lia
 have h2:=lk (ar ns none (some 24))
 have h3:(mJ ns).length≤(bD [] ((ar ns none (some 24)).map pieceOf)).length:=by unfold mJ;generalize bD [] ((ar ns none (some 24)).map pieceOf)=z;unfold ar;simp only[EZ,D3];exact Nat.min_le_right (bv (some 32) z.length z.length-bv none 0 z.length) (z.length-bv none 0 z.length)
 rw[join_nil,iR]at h3
 lia
theorem Cw(H:Ok1 cx mg mb sa ns)(hs:OR cx 0 zero cx.h₀ sa (.list (ns.map .int)))(hn:ns.length≤100)(d:Nat):SS cx (lwE cx.P d) [lwS cx.P 0] (lw0 sa) .next [.fr [("script",.old sa),("text",.str (mJ ns))]]:=by
 have hz:=sizeLine_eq
 have hc:(ar ns none (some 24)).length≤100:=by unfold ar;simp only[EZ,D3];lia
 obtain⟨e1,e2⟩:=ig ((ar ns none (some 24)).map pieceOf)
 have hl:=lk (ar ns none (some 24))
 have w:=SS.ev (ab H (l:=[]) aa.nil {tb:=adL [],xv:=xvG 1276 19 61 (.list (aC ((ar ns none (some 24)).map pieceOf)))} 20) (CB _ d) ⟨Ag H hs hn d,by refine rK (e1 ..) ?_;exact e2,by refine rK (e1 ..) (rK (GQ ..) ?_);lia,by show _≤_;refine rK (e1 ..) (rK (join_nil ..) (rK (iR ..) ?_));lia⟩
 dsimp only at w
 replace w:=(e1 ..)▸w
 exact SS.pick (σ':=[.fr [("script",.old sa),("text",.str (mJ ns))]]) w (pick_from (ks:=[0]) (by rfl) rfl rfl)
noncomputable abbrev LV6 (cx:Cx) (sa:Addr) (ns:List Int) (tl:List (Addr×bx)) (l:List (Nat×Nat×Nat×Bool)):Ev:=evN (T1 sa ns) (mkO cx (clT tl) {tb:=adL l}) 60
theorem CA(t:List Nat)(d:Nat):cutF 1 [] [0,2,1,5,4,10,9,7,13,14,15] ((LV6 cx sa ns [] []).ss (lwE cx.P (d+10)) [lwS cx.P 1,lwS cx.P 2] [.fr [("script",.old sa),("text",.str t)]])=some ⟨.next,mK sa t,[]⟩:=by kernel_rfl
noncomputable abbrev lwL (P:Params):Stmt:=lwS P 3
noncomputable abbrev TKL (B:ao) (st:Addr) (p r:List Nat) (q:Bool) (tk:List Tk) (L:List V):Hp:=.fr (nZ B++[(("token":Str),V.ref 13)])::((YL B st p r q tk).set 11 (.list L)).tail
noncomputable def pi:List Tk→List Nat
 | [⟨_,_,none⟩]=>[0,1,2,3,4,5,6,7,8,9,10,11,12]
 | [⟨_,_,none⟩,_]=>[0,1,2,3,4,5,6,7,8,9,10,11,12,14]
 | [⟨_,_,some _⟩,_]=>[0,1,2,3,4,5,6,7,8,9,10,11,12,15]
 | _=>[0,1,2,3,4,5,6,7,8,9,10,11,12,15,16]
theorem tv(P:Params):lwL P=.For (sA (lwL P)) (sB (lwL P)) (bL (lwL P)) [] (lwL P).pos:=by kernel_rfl
theorem CT(t:List Nat)(d:Nat):(LV cx sa ns [] []).ex (lwE cx.P d) (sB (lwL cx.P)) (mK sa t)=some ⟨.ref 1,mK sa t,[]⟩:=by kernel_rfl
theorem yD(P:Params)(J:Addr)(v:Value):letOwnedTupleGo (sA (lwL P)) (.ref J) v=pure ():=by kernel_rfl
theorem wm(P:Params)(env:Env)(x:Value):foldedSetIterable (sB (lwL P)) env x=pure x:=by kernel_rfl
theorem CX{hd:Tk}{tl:List Tk}(h:Shape (hd::tl))(B:ao)(st:Addr)(p r:List Nat)(q:Bool)(d:Nat):aF (T1 sa ns) (LV cx sa ns [] []) (lwE cx.P d) (sA (lwL cx.P)) (.ref 13) (YL B st p r q (hd::tl))=some ⟨(),TKL B st p r q (hd::tl) (aS B.g),[]⟩:=by cases h<;>kernel_rfl
theorem CU{s:List Nat}{e:Option Nat}{tl:List Tk}(h:Shape (⟨7,s,e⟩::tl))(B:ao)(st:Addr)(p r:List Nat)(q:Bool)(d:Nat):(LV cx sa ns [] []).ss (lwE cx.P d) (bL (lwL cx.P)) (TKL B st p r q (⟨7,s,e⟩::tl) (aS B.g))=some ⟨.next,TKL B st p r q (⟨7,s,e⟩::tl) (aS B.g++[cB ir s]),[(aS B.g).length≤sizeLine]⟩:=by cases h<;>kernel_rfl
theorem Ao{s:List Nat}{e:Option Nat}{tl:List Tk}(h:Shape (⟨1,s,e⟩::tl))(B:ao)(st:Addr)(p r:List Nat)(q:Bool)(d:Nat):(LV cx sa ns [] []).ss (lwE cx.P d) (bL (lwL cx.P)) (TKL B st p r q (⟨1,s,e⟩::tl) (aS B.g))=some ⟨.next,TKL B st p r q (⟨1,s,e⟩::tl) (aS B.g++[cB l9 s]),[(aS B.g).length≤sizeLine]⟩:=by cases h<;>kernel_rfl
theorem CW{s:List Nat}{e:Option Nat}{tl:List Tk}(h:Shape (⟨2,s,e⟩::tl))(B:ao)(st:Addr)(p r:List Nat)(q:Bool)(d:Nat):(LV cx sa ns [] []).ss (lwE cx.P d) (bL (lwL cx.P)) (TKL B st p r q (⟨2,s,e⟩::tl) (aS B.g))=some ⟨.next,TKL B st p r q (⟨2,s,e⟩::tl) (aS B.g++[cB nE s]),[(aS B.g).length≤sizeLine]⟩:=by cases h<;>kernel_rfl
theorem CV{hd:Tk}{tl:List Tk}(h:Shape (hd::tl))(B:ao)(st:Addr)(p r:List Nat)(q:Bool):cL [11] (YL B st p r q (hd::tl)) (pi (hd::tl)) (pi (hd::tl))=some (bm B st p r q tl):=by cases h<;>kernel_rfl
end
noncomputable def tyB (x:Tk):Bool:=DI x.ty 7 || (DI x.ty 1 || DI x.ty 2)
theorem xV(ill sem z:Bool)(v sg:Nat):(dO ill sem z v sg).all tyB=true:=by induction ill<;>induction sem<;>induction z<;>rfl
theorem zq(b:Bool)(pre r:List Nat):(dj b pre r).1.all tyB=true:=by
 unfold dj
 dsimp only
 induction bZ (ad b r).2<;>exact xV _ _ _ _ _
theorem Bq(w:List Nat):(tkW w).all tyB=true:=by
 unfold tkW
 induction ba.find? (fun x=>am x.1 w)with
 | some x=>
  show(g9 x).all tyB=true
  unfold g9
  induction semi x.2.1<;>rfl
 | none=>rfl
theorem xW(r:List Nat):(ent r).1.all tyB=true:=by
 unfold ent
 induction r with
 | nil=>rfl
 | cons c r=>
  dsimp only
  induction aq c lsB || aq c [60,38]with
  | true=>rfl
  | false=>
   dsimp only
   induction am [c] [35]with
   | false=>exact Bq _
   | true=>
    dsimp only
    unfold ek
    induction r with
    | nil=>rfl
    | cons x r=>
     dsimp only
     induction aq x [120,88]with
     | true=>
      dsimp only
      unfold iT
      induction r with
      | nil=>rfl
      | cons c r=>
       dsimp only
       induction aq c (lsD true)with
       | true=>exact zq _ _ _
       | false=>rfl
     | false=>
      dsimp only
      induction aq x (lsD false)with
      | true=>exact zq _ _ _
      | false=>rfl
theorem u9(c:Nat)(r:List Nat):(data c r).2.1.all tyB=true:=by
 unfold data
 induction am [c] [38]with
 | true=>rfl
 | false=>
  dsimp only
  induction am [c] [0]with
  | true=>rfl
  | false=>
   dsimp only
   induction aq c lsB<;>rfl
theorem hH: ∀(n:Nat) (e:Bool) (r:List Nat),(toks n e r).all tyB=true∧(toks n e r).length≤3*n
 | 0,_,_=>⟨rfl,DU _⟩
 | n+1,true,r=>by
  refine o02 (hH n false (ent r).2.2) fun h1 h2=>?_
  have h3:=(c7 r).len
  refine⟨?_,?_⟩
  ·show((ent r).1++_).all tyB=true
   refine rK (List.all_append ..) (rK (xW ..) (rK (h1 ..) ?_));rfl
  ·show((ent r).1++_).length≤_
   refine rK (pm ..) ?_;lia
 | n+1,false,[]=>⟨rfl,DU _⟩
 | n+1,false,c::r=>by
  refine o02 (hH n (data c r).1 (data c r).2.2.2) fun h1 h2=>?_
  have h3:(data c r).2.1.length≤3:=by
   rcases fp c r with h | h
   ·refine rK (h ..) ?_;exact DU _
   ·exact h.len
  refine⟨?_,?_⟩
  ·show((data c r).2.1++_).all tyB=true
   refine rK (List.all_append ..) (rK (u9 ..) (rK (h1 ..) ?_));rfl
  ·show((data c r).2.1++_).length≤_
   refine rK (pm ..) ?_;lia
section
variable{cx:Cx}{mg mb:Str→Option Value}{sa:Addr}{ns:List Int}{R:Run}{σ σ':Hp}{ρ:Ids}{s:Shared}{sel:List Nat}{rr:Nat→Nat}
theorem GI.pick{g:Array GenState}(x:GI cx R g σ ρ s)(p:aK 13 σ sel rr σ'):GI cx R g σ' (aE ρ sel) s:=
 ⟨x.sat.pick p.1,fun i hi=>by
  unfold aE
  refine rK (p.2.2 i (hi.elim (fun e=>e▸by decide) fun e=>e▸by decide) ..) ?_
  exact x.same i hi,x.isGen,fun i hi=>by
  have hi:=p.1.1▸hi
  unfold aE
  refine rK (DH hi ..) ?_
  exact x.off _ (p.1.lt _ (DX hi)),x.os,x.gens⟩
theorem GI.weak{g:Array GenState}{m m':List (Str×V)}(x:GI cx R g σ ρ s)(hi:σ[0]?=some (.fr m))(hm: ∀x v,m'.lookup x=some v→m.lookup x=some v):GI cx R g (σ.set 0 (.fr m')) ρ s:=
 ⟨x.sat.weak hi hm,x.same,x.isGen,fun i hi=>x.off i (DP (as:=σ)▸hi),x.os,x.gens⟩
theorem tY(done:List Tk)(hd:Tk):aS (R.fore done).g++[cB (dJ hd).1 (dJ hd).2]=aS (R.fore (done++[hd])).g:=by
 show aS (done.map dJ)++_=aS ((done++[hd]).map dJ)
 refine rK (ET ..) (rK (iK ..) ?_);rfl
theorem wn(H:Ok1 cx mg mb sa ns){hd:Tk}{tl:List Tk}(h:Shape (hd::tl))(hty:tyB hd=true)(done:List Tk)(hl:done.length≤10000)(st:Addr)(p r:List Nat)(q:Bool)(d:Nat):
  SS cx (lwE cx.P d) (bL (lwL cx.P)) (TKL (R.fore done) st p r q (hd::tl) (aS (R.fore done).g)) .next (TKL (R.fore done) st p r q (hd::tl) (aS (R.fore (done++[hd])).g)):=by
 have hs:=sizeLine_eq
 have HF:=ab H (l:=[]) aa.nil {tb:=adL []} 20
 have ob:(aS (R.fore done).g).length≤sizeLine:=by
  show(aS (done.map dJ)).length≤_
  unfold aS
  refine rK (D4 ..) (rK (D4 ..) ?_);exact kV (by assumption) (by decide)
 rw[←tY]
 obtain⟨ty,s,e⟩:=hd
 unfold tyB at hty
 rw[Ei,Ei]at hty
 rcases hty with q1 | q1 | q1
 ·have q1:ty=7:=DK q1
  subst q1
  exact SS.ev HF (CU h (R.fore done) st p r q d) ob
 ·have q1:ty=1:=DK q1
  subst q1
  exact SS.ev HF (Ao h (R.fore done) st p r q d) ob
 ·have q1:ty=2:=DK q1
  subst q1
  exact SS.ev HF (CW h (R.fore done) st p r q d) ob
theorem mM(hd:Tk)(tl:List Tk)(h:Shape (hd::tl)):cY (pi (hd::tl))=true∧jQ 13 0 (pi (hd::tl))=true:=by cases h<;>exact⟨rfl,rfl⟩
theorem oD(hd:Tk)(tl:List Tk)(h:Shape (hd::tl))(done:List Tk)(st:Addr)(p r:List Nat)(q:Bool):(TKL (R.fore done) st p r q (hd::tl) (aS (R.fore (done++[hd])).g))[0]?=some (.fr (nZ (R.fore done)++[(("token":Str),V.ref 13)]))∧
 (TKL (R.fore done) st p r q (hd::tl) (aS (R.fore (done++[hd])).g)).set 0 (.fr (nZ (R.fore done)))=YL (R.fore (done++[hd])) st p r q (hd::tl):=by cases h<;>exact⟨rfl,rfl⟩
theorem GI.turn{g:Array GenState}{hd:Tk}{tl:List Tk}(h:Shape (hd::tl))(done:List Tk)(st:Addr)(p r:List Nat)(q:Bool)(x:GI cx R g (TKL (R.fore done) st p r q (hd::tl) (aS (R.fore (done++[hd])).g)) ρ s): ∃ρ',GI cx R g (bm (R.fore (done++[hd])) st p r q tl) ρ' s:=
 have y:=x.weak (m':=nZ (R.fore done)) (oD (R:=R) hd tl h done st p r q).1 (oC ⟨fun v hv=>hv,fun v hv=>hv,fun v hv=>hv,fun v hv=>hv,trivial⟩)
 have y:GI cx R g (YL (R.fore (done++[hd])) st p r q (hd::tl)) ρ s:=(oD (R:=R) hd tl h done st p r q).2▸y
 ⟨_,y.pick (aW (fl:=[11]) (fun j o he hj=>by
  have e:(YL (R.fore (done++[hd])) st p r q (hd::tl))[11]?=some (.list (aS (R.fore (done++[hd])).g)):=by cases h<;>rfl
  cases e.symm.trans (uh he▸hj)
  exact dg _) (CV h (R.fore (done++[hd])) st p r q) (mM hd tl h).1 (mM hd tl h).2)⟩
theorem sQ{α:Type}(a:Array α)(x y:α):(a.push x).setIfInBounds a.size y=a.push y:=by
 induction a with
 | mk l=>
  have h:(l++[x]).set l.length y=l++[y]:=by
   refine rK (List.set_append_right _ _ (DQ _) ..) (rK (FO ..) ?_);rfl
  have e1:(Array.mk l).push x=Array.mk (l++[x]):=by simp
  have e2:(Array.mk l).push y=Array.mk (l++[y]):=by simp
  refine rK (e1 ..) (rK (e2 ..) (rK (List.setIfInBounds_toArray ..) ?_))
  exact congrArg Array.mk h
end
noncomputable def dF (t:List Nat):List Tk:=toks (bn false (aA t)) false (aA t)
noncomputable abbrev wF (sa:Addr) (t p:List Nat) (q:Bool):Hp:=bm ⟨sa,t,(dF t).map dJ⟩ 304 p [] q []
inductive jm(cx:Cx)(sa:Addr)(t:List Nat)(ρ:Ids)(s:Shared):Result→Shared→Prop
 | mk (ρ':Ids) (p:List Nat) (q:Bool) (s':Shared) (all:p.reverse=aA t) (sat:Sat cx (wF sa t p q) ρ' s'.heap) (same:ρ' 0=ρ 0) (os:s'.os=s.os) (gens:s'.gens=s.gens.push .finished):jm cx sa t ρ s (.ok .next) s'
theorem jm.back{cx:Cx}{sa:Addr}{t:List Nat}{ρ ρ1:Ids}{s s1 s':Shared}{r:Result}(x:jm cx sa t ρ1 s1 r s')(h0:ρ1 0=ρ 0)(ho:s1.os=s.os)(hg:s1.gens=s.gens):jm cx sa t ρ s r s':=by
 cases x with
 | mk ρ' p q _ all sat same os gens=>exact .mk ρ' p q s' all sat (same.trans h0) (os.trans ho) (hg▸gens)
section
variable{cx:Cx}{mg mb:Str→Option Value}{sa:Addr}{ns:List Int}{A:Around}{le:Env}{ρ:Ids}{s:Shared}{d:Nat}
theorem gR: ∀(t:List Nat) (b:Bool),(∀c∈t,c∈alpha)→ ∀c∈bU b t,c∈alpha∧c≠13
 | [],_,_,c,hc=>by cases hc
 | a::r,b,h,c,hc=>by
  have ha:=h a (wj ..)
  have h1:=gR r (DI a 13) fun c hc=>h c (DJ _ hc)
  replace hc:c∈(match DI a 10&&b with | true=>bU (DI a 13) r | false=>turn a::bU (DI a 13) r):=hc
  induction q:DI a 10&&b with
  | true=>replace hc:=(q ..)▸hc;exact h1 c hc
  | false=>
   replace hc:=(q ..)▸hc
   rcases D1.mp hc with rfl | hc
   ·unfold turn
    induction q2:DI a 13 with
    | true=>exact⟨by show 10∈alpha;decide,by show(10:Nat)≠13;decide⟩
    | false=>exact⟨ha,fun x=>by have x:a=13:=x;replace q2:=(x ..)▸q2;cases q2⟩
   ·exact h1 c hc
theorem iD(t:List Nat)(h: ∀c∈t,c∈alpha): ∀c∈aA t,c∈alpha∧c≠13:=by
 rw[←fU]
 exact gR t false h
theorem uf(P:Params)(t:List Nat)(d:Nat):enter (giF P) d [("self",.ref 1)] (mK sa t)=some ⟨ww P d,n5 sa t,[]⟩:=by kernel_rfl
structure LC(cx:Cx)(R:Run)(A:Around)(le:Env)(d:Nat):Prop where
 r:aj A (d+13)
 e:ax (lwE cx.P (d+13)) 1 R.ids le
 ty:R.tl.all tyB=true
 len:R.tl.length≤10000
inductive LI(cx:Cx)(R:Run)(A:Around)(g0:Array GenState)(n:Nat)(s:Shared):Prop
 | mk (gs:GenState) (gens:s.gens=g0.push gs) (goes:gs.Goes (model cx.prog cx.w) A.in1 (RR cx R) (YP cx R) n (.send .none) (s.setGen R.g .running)) (isGen:s.heap.IsGen R.G R.g) (lim:s.heap.NoLimit)
theorem LC.envR{R:Run}{n:Nat}(L:LC cx R A le d)(hn:0<n)(h0:ρ 0=R.ids 0):ax (lwE cx.P (d+13)) n ρ le:=⟨L.e.scope,L.e.kind,hn,L.e.loc.trans h0.symm,L.e.glob,L.e.bi,fun x i hx=>nomatch hx⟩
theorem fK{g0:Array GenState}{g:Nat}{gs gs':GenState}{s:Shared}(hg:g=g0.size)(h:s.gens=g0.push gs):(s.setGen g gs').gens=g0.push gs':=by
 show s.gens.setIfInBounds _ _=_
 exact rK (h ..) (rK (hg ..) (rK (sQ ..) rfl))
theorem tu(H:Ok1 cx mg mb sa ns){R:Run}(L:LC cx R A le d){g0:Array GenState}{n k:Nat}{v:Value}{s3 s4:Shared}{gs gs':GenState}{kap:Resume→Shared→Prop}(hg:R.g=g0.size)(hs:s3.gens=g0.push gs)(hk: ∀s,kap (.send .none) s→ ∃m,m<n∧gs'.Goes (model cx.prog cx.w) A.in1 (RR cx R) (YP cx R) m (.send .none) s)
  (hy:Yld cx R k (s3.setGen R.g .running) s4 kap v):wpAny (model cx.prog cx.w) A (assign (sA (lwL cx.P)) le v) (fun _ s5=>wpAny (model cx.prog cx.w) A (execs (bL (lwL cx.P)) le) (fun f s6=>f=.next∧ ∃m,m<n∧LI cx R A g0 m s6) (fun _ _=>False) s5) (fun _ _=>False) (s4.setGen R.g gs'):=by
 induction hy with
 | mk done hd rest st p rr q tl ρ4 all len sh gi cont=>
  have hg4:(s4.setGen R.g gs').gens=g0.push gs':=fK hg (gi.gens.trans (fK hg hs))
  have gi2:=gi.here (s':=s4.setGen R.g gs') rfl rfl
  have h13:13<(YL (R.fore done) st p rr q (hd::tl)).length:=by cases sh<;>exact Ef.mp rfl
  refine(bg H (ab H (l:=[]) aa.nil {tb:=adL []} 20) L.r (L.envR (DY (DU _) h13) (gi2.same 0 (.inl rfl))) gi2.sat (v:=.ref 13) ⟨h13,rfl⟩ _ (CX sh (R.fore done) st p rr q (d+13)) trivial).use fun _ ρ5 s5 x5 _=>?_
  have gi5:=gi2.aft (D6 h13) x5
  refine((wn (R:=R) H sh (DL.mp L.ty hd (all▸EA _ (wj ..))) done (kV (kV (D8 ..) (Eu ((pm ..).symm.trans (congrArg Ea all.symm)))) L.len) st p rr q (d+13)).it A ρ5 s5 le L.r (L.envR (DO _) (gi5.same 0 (.inl rfl))) gi5.sat).use fun f ρ6 s6 x6 e6=>⟨e6,?_⟩
  refine o11 (GI.turn sh done st p rr q (gi5.aft (D6 h13) x6)) fun ρ7 gi7=>?_
  exact(hk _ (cont _ _ (gi7.here (s':=s6.setGen R.g .running) rfl rfl))).imp fun m h=>⟨h.1,.mk gs' (gi7.gens.trans hg4) h.2 gi7.isGen (H.B.lim.keeps gi7.sat.keep)⟩
noncomputable def runOf (sa:Addr) (t:List Nat) (ρ:Ids) (G:Addr) (s:Shared):Run:=⟨sa,t,aA t,dF t,fun i=>if i=12 then ρ 11 else ρ i,G,s.gens.size,s.os⟩
theorem qX{t:List Nat}(htl:t.length≤600):(dF t).length≤10000:=by
 have h1:=(hH (bn false (aA t)) false (aA t)).2
 have h2:=fT t
 show(toks _ _ _).length≤_
 have h3:bn false (aA t)=2*(aA t).length+1:=rfl
 lia
theorem wl(H:Ok1 cx mg mb sa ns)(r:aj A (d+13))(hfr:A.frames=some [le])(hlf:le.frame=some (ρ 0))(hlk:le.scope.kind≠ .module){t:List Nat}(ht: ∀c∈t,c∈alpha)(htl:t.length≤600)
  (e:ax (lwE cx.P (d+13)) 11 ρ le) {G:Addr} {env:Env} {ρ2:Ids} {s2:Shared} (mk:dD cx (mK sa t) ρ s (giF cx.P) ⟨ww cx.P (d+10),n5 sa t,[]⟩ G env ρ2 s2):
  codeAny (model cx.prog cx.w) A (.forLoop (sA (lwL cx.P)) (.ref G) (bL (lwL cx.P)) [] le) (jm cx sa t ρ s) s2:=by
 have h0:ρ2 0=ρ 0:=mk.ext.same 0 (by show 0<11;decide)
 have L:LC cx (runOf sa t ρ2 G s) A le d:=⟨r,⟨e.scope,e.kind,Nat.one_pos,e.loc.trans h0.symm,e.glob,e.bi,fun x i hx=>nomatch hx⟩,(hH (bn false (aA t)) false (aA t)).1,qX htl⟩
 have v:=mk.envr
 have k:Stk cx.P (runOf sa t ρ2 G s) A.in1 env le d:=⟨aj.in1 (d:=d+11) (r.le (GB _)),hfr,hlf.trans (congrArg some h0.symm),hlk,mk.frame,v.scope,v.kind,by show 12<13;decide,v.loc,v.glob,v.bi,fun x i hx=>nomatch hx⟩
 refine codeAny_forLoop (LI cx (runOf sa t ρ2 G s) A s.gens) (fun n s3 h3=>?_) (dF t).length (.mk _ mk.gens ⟨rfl,rk (R:=runOf sa t ρ2 G s) H k ht htl rfl (fun c hc=>(iD t ht c hc).1) (DQ _) rfl mk.sat rfl rfl mk.isGen mk.off mk.os rfl⟩ mk.isGen (H.B.lim.keeps mk.sat.keep)) (yD _ _)
 induction h3 with
 | mk gs hgs hgo hG3 hl3=>
  refine wpAny_pyNext_gen (g:=s.gens.size) (gs:=gs) (P:=PP cx (runOf sa t ρ2 G s)) r.handled hl3 r.lt hG3 (by refine rK (hgs ..) ?_;exact Array.getElem?_push_size) hgo (fun v s4 gs' hy=>?_) (fun s4 hp h' kp=>?_)
  ·refine wpAny_mono (tu H L (n:=n) (gs':=gs') rfl hgs (fun s h=>?_) hy) (fun _ s5 h=>wpAny_mono h (fun f s6 h=>h.1.symm▸h.2) fun _ _ z=>z.elim) fun _ _ z=>z.elim
   induction n with
   | zero=>exact h.elim
   | succ m=>exact⟨m,EB m,h⟩
  ·induction hp with
   | mk ρ4 p q all gi=>exact wpAny_execs_nil (.mk ρ4 p q _ all (gi.sat.grow kp).1 ((gi.same 0 (.inl rfl)).trans h0) gi.os (fK rfl (gi.gens.trans (fK rfl hgs))))
theorem wo(H:Ok1 cx mg mb sa ns)(hG: ∃obj fd,FnAt cx 268 (giF cx.P) obj fd)(r:aj A (d+13))(hfr:A.frames=some [le])(hlf:le.frame=some (ρ 0))(hlk:le.scope.kind≠ .module){t:List Nat}(ht: ∀c∈t,c∈alpha)(htl:t.length≤600)
  (e:ax (lwE cx.P (d+13)) 11 ρ le) (S:Sat cx (mK sa t) ρ s.heap):wpAny (model cx.prog cx.w) A (exec (lwL cx.P) le) (fun f s'=>jm cx sa t ρ s (.ok f) s') (fun _ _=>False) s:=by
 refine o03 (tZ cx.P) fun g1 g2 g6=>?_
 refine o02 (yN H) fun g4 g5=>?_
 refine o21 hG fun obj fd kk=>?_
 refine rK (tv ..) ?_
 refine wpAny_For (((XX.ev (ab H (l:=[]) aa.nil {tb:=adL []} 20) (CT t (d+13)) trivial).it A ρ s le r e S).use fun x ρ1 s1 x1 r1=>?_) (wm _ le)
 have h0:ρ1 0=ρ 0:=x1.ext.same 0 (by show 0<11;decide)
 cases(show 1<(mK sa t).length∧x=Value.ref (ρ1 1)from r1).2
 exact lq H (d:=d+10) (r.le (EG (by decide:11≤13) d)) x1.sat rfl rfl kk g1 g2 g4 g5 g6 (uf _ t (d+10)) fun G env ρ2 s2 mk=>codeAny_mono (wl H r hfr (hlf.trans (congrArg some h0.symm)) hlk ht htl (e.ext x1.ext) mk) fun rr s' h=>by
  induction rr with
  | ok f=>exact h.back h0 x1.os x1.gens
  | error x=>cases h
end
noncomputable def tMe:Addr×bx:=(786,lift 1 dS o6)
noncomputable def tRw:Addr×bx:=(852,lift 7 dS oO)
noncomputable def tPs:Addr×bx:=(126,lift 2 kQ oT)
noncomputable abbrev lwQ (P:Params) (i:Nat):Expr:=(exC (sA (lwS P 5))).getD i default
noncomputable abbrev dq (sa:Addr) (t p m:List Nat) (q:Bool):Hp:=.fr (nZ ⟨sa,t,(dF t).map dJ⟩++[(("mended":Str),V.str m)])::(wF sa t p q).tail
noncomputable def xvT (a b c:Nat) (o:Hp) (v:V) (p:Pos):Option (Hp→Option (V×Hp)):=match DI p.line a,DI p.col b,DI p.endCol c with
 | true,true,true=>some fun σ=>some (v,σ++o)
 | _,_,_=>none
noncomputable def xvE (x y:Pos→Option (Hp→Option (V×Hp))) (p:Pos):Option (Hp→Option (V×Hp)):=match x p with
 | some f=>some f
 | none=>y p
section
variable{cx:Cx}{mg mb:Str→Option Value}{sa:Addr}{ns:List Int}
theorem CP(t p:List Nat)(q:Bool)(d:Nat):(LV cx sa ns [tMe] []).ss (lwE cx.P (d+13)) [lwS cx.P 4] (wF sa t p q)=some ⟨.next,dq sa t p (aA t) q,[t.length≤600]⟩:=by kernel_rfl
theorem CN(t p m:List Nat)(q:Bool)(d:Nat):(LV cx sa ns [] []).ex (lwE cx.P (d+13)) (qA (lwQ cx.P 0)) (dq sa t p m q)=some ⟨.ref 11,dq sa t p m q,[]⟩:=by kernel_rfl
theorem CM(t p m:List Nat)(q:Bool)(d:Nat):(LV cx sa ns [tRw] []).ex (lwE cx.P (d+13)) (qB (lwQ cx.P 0)) (dq sa t p m q)=some ⟨.ref 13,dq sa t p m q++[.list (dK (upN [] 13) (aV (qE m)))],[m.length≤600,∀x∈m,x∈alpha∧x≠13]⟩:=by kernel_rfl
theorem CL(t p m:List Nat)(q:Bool)(L:List V)(d:Nat):(LV cx sa ns [tPs] []).ex (lwE cx.P (d+13)) (qA (lwQ cx.P 1)) (dq sa t p m q++[.list L])=some ⟨.tup [.int (dV ((db p.reverse).1+1)),.int (dV (db p.reverse).2)],dq sa t p m q++[.list L],[]⟩:=by kernel_rfl
theorem CK(t p m:List Nat)(q:Bool)(L:List V)(d:Nat):(LV cx sa ns [tLa] []).ex (lwE cx.P (d+13)) (qB (lwQ cx.P 1)) (dq sa t p m q++[.list L])=some ⟨.tup [.int (dV ((db m).1+1)),.int (dV (db m).2)],dq sa t p m q++[.list L],[]⟩:=by kernel_rfl
theorem Aj(P:Params)(i:Nat)(hi:i=0∨i=1):lwQ P i=.Compare (qA (lwQ P i)) [.Eq] [qB (lwQ P i)] (lwQ P i).pos∧cp [qB (lwQ P i)]=true:=by rcases hi with rfl | rfl<;>exact⟨by kernel_rfl,by kernel_rfl⟩
theorem CO(t p m:List Nat)(L:List V)(q:Bool)(d:Nat):(evN (T1 sa ns) (mkO cx (clT []) {tb:=adL [],xv:=xvE (xvT 1289 11 34 [.list L] (.bool true)) (xvT 1289 39 87 [] (.bool true))}) 20).ss (lwE cx.P (d+13)) [lwS cx.P 5] (dq sa t p m q)=some ⟨.ret (.bool true),dq sa t p m q++[.list L],
 [XX cx (lwE cx.P (d+13)) (lwQ cx.P 0) (dq sa t p m q) (.bool true) (dq sa t p m q++[.list L]),XX cx (lwE cx.P (d+13)) (lwQ cx.P 1) (dq sa t p m q++[.list L]) (.bool true) (dq sa t p m q++[.list L])]⟩:=by kernel_rfl
theorem mQ(i:Int):veq (.int i) (.int i)=some true:=congrArg some (decide_eq_true rfl)
theorem lV(l:List Nat):veq (.str l) (.str l)=some true:=congrArg some (qS l)
theorem tW(g:List (List Nat×List Nat)): ∀v∈aS g,∃l,v=.tup l∧qa l:=fun v hv=>by
 refine o12 (Fh.mp hv) fun p _ e2q=>?_;subst e2q
 exact⟨_,rfl,Fb.mpr ⟨lV _,Fb.mpr ⟨lV _,fun _ h=>nomatch h⟩⟩⟩
theorem we(H:Ok1 cx mg mb sa ns){t p:List Nat}(ht: ∀c∈t,c∈alpha)(htl:t.length≤600)(hp:p.reverse=aA t)(q:Bool)(d:Nat): ∃σ',SS cx (lwE cx.P (d+13)) [lwS cx.P 4,lwS cx.P 5] (wF sa t p q) (.ret (.bool true)) σ':=by
 have HM:aa cx (clT [tMe]):=aa.cons (Told.tells (wb H)) aa.nil
 have HR:aa cx (clT [tRw]):=aa.cons (Told.tells (vw H)) aa.nil
 have HP:aa cx (clT [tPs]):=aa.cons (Told.tells (vL H)) aa.nil
 have HL:aa cx (clT [tLa]):=aa.cons (Told.tells (wp H)) aa.nil
 have ml:=fT t
 have s4:=S1.of (SS.ev (ab H HM {tb:=adL []} 20) (CP (sa:=sa) (ns:=ns) t p q d) htl)
 refine o02 (Aj cx.P 0 (.inl rfl)) fun c1 c2=>?_
 refine o02 (Aj cx.P 1 (.inr rfl)) fun c3 c4=>?_
 have xa:=XX.ev (ab H (l:=[]) aa.nil {tb:=adL []} 20) (CN (sa:=sa) (ns:=ns) t p (aA t) q d) trivial
 have xb:=XX.ev (ab H HR {tb:=adL []} 20) (CM (sa:=sa) (ns:=ns) t p (aA t) q d) ⟨by(exact kV (by assumption) (by assumption)),iD t ht⟩
 have eL:dK (upN [] 13) (aV (qE (aA t)))=aS ((dF t).map dJ):=lu _ _
 dsimp only at xb
 rw[eL]at xb
 have x1:XX cx (lwE cx.P (d+13)) (lwQ cx.P 0) (dq sa t p (aA t) q) (.bool true) (dq sa t p (aA t) q++[.list (aS ((dF t).map dJ))]):=by
  rw[c1]
  exact XX.listEq (tW _) rfl rfl c2 xa xb
 have xc:=XX.ev (ab H HP {tb:=adL []} 20) (CL (sa:=sa) (ns:=ns) t p (aA t) q (aS ((dF t).map dJ)) d) trivial
 have xd:=XX.ev (ab H HL {tb:=adL []} 20) (CK (sa:=sa) (ns:=ns) t p (aA t) q (aS ((dF t).map dJ)) d) trivial
 dsimp only at xc
 rw[hp]at xc
 have x2:XX cx (lwE cx.P (d+13)) (lwQ cx.P 1) (dq sa t p (aA t) q++[.list (aS ((dF t).map dJ))]) (.bool true) (dq sa t p (aA t) q++[.list (aS ((dF t).map dJ))]):=by
  rw[c3]
  exact XX.tupEq (Fb.mpr ⟨mQ _,Fb.mpr ⟨mQ _,fun _ h=>absurd h EO⟩⟩) c4 xc xd
 exact⟨_,SS.cons s4 (SS.ev (ab H (l:=[]) aa.nil {tb:=adL [],xv:=xvE (xvT 1289 11 34 [.list (aS ((dF t).map dJ))] (.bool true)) (xvT 1289 39 87 [] (.bool true))} 20) (CO (sa:=sa) (ns:=ns) t p (aA t) _ q d) ⟨x1,x2⟩)⟩
end
section
variable{cx:Cx}{mg mb:Str→Option Value}{sa:Addr}{ns:List Int}{A:Around}{s:Shared}
theorem wh(P:Params):bw (lwF P).dfl [] (lwF P).pars [.old sa]=some ([("script",.old sa)]:List (Str×V)):=by kernel_rfl
theorem ti(P:Params)(d:Nat):enter (lwF P) d [("script",.old sa)] []=some ⟨lwE P d,lw0 sa,[]⟩:=by kernel_rfl
theorem wf(P:Params):(match(lwF P).scope.kind with | .module=>false | _=>true)=true:=by kernel_rfl
theorem wd(H:Ok1 cx mg mb sa ns){t:List Nat}(ht: ∀c∈t,c∈alpha)(htl:t.length≤600){env:Env}{ρ:Ids}(r:aj A 13)(e:ax (lwE cx.P 13) 11 ρ env){rr:Result}{s':Shared}(x:jm cx sa t ρ s rr s'):
  ∃f,rr=.ok f∧f=.next∧wpAny (model cx.prog cx.w) A (execs [lwS cx.P 4,lwS cx.P 5] env) (fun f s5=>f=.ret (.bool true)∧(∀a o,cx.h₀.get? a=some o→s5.heap.get? a=some o)∧s5.os=s.os∧s5.gens=s.gens.push .finished) (fun _ _=>False) s':=by
 cases x with
 | mk ρ3 p q _ all sat same os gens=>
  obtain⟨σ',w4⟩:=we H ht htl all q 0
  exact⟨_,rfl,rfl,(w4.it _ ρ3 s' env r ⟨e.scope,e.kind,by show 0<13;decide,e.loc.trans same.symm,e.glob,e.bi,fun x i hx=>nomatch hx⟩ sat).use fun f ρ4 s5 x5 h=>h.elim fun y h=>⟨h.1.trans (congrArg Flow.ret h.2),x5.sat.keep,x5.os.trans os,x5.gens.trans gens⟩⟩
theorem tC(H:Ok1 cx mg mb sa ns)(hG: ∃obj fd,FnAt cx 268 (giF cx.P) obj fd)(hs:OR cx 0 zero cx.h₀ sa (.list (ns.map .int)))(hn:ns.length≤80)(hfr:A.frames=some [])(r:aj A 14)(S:Sat cx [] zero s.heap):
  codeAny (model cx.prog cx.w) A (.call (.ref 857) ⟨[.ref sa],[]⟩) (fun rr s'=>rr=.ok (.ret (.bool true))∧(∀a o,cx.h₀.get? a=some o→s'.heap.get? a=some o)∧s'.os=s.os∧s'.gens=s.gens.push .finished) s:=by
 refine o21 (H.fns 857 (lwF cx.P) (by kernel_rfl)) fun obj fd k=>?_
 refine o13 (cb (kws:=[]) (ks:=[]) k.toFnAt S (wh cx.P) (xs:=[.ref sa]) ⟨_,_,rfl,rfl,rfl⟩ rfl) fun ys y1 y2 y3=>?_
 have hsc:=k.scope
 have htl:=tF (ns:=ns) hn
 refine codeAny_call_function r.lt (S.keep _ _ k.at_) k.data (by refine rK (hsc ..) ?_;exact k.plain.2) (by refine rK (hsc ..) ?_;exact k.plain.1) k.body (k.code.keeps S.keep) (y3 _ _ _ _ ?_)
 refine o02 (b8 (A:=A.in1) k.toFnAt S y2 y1 (ti cx.P 13)) fun z1 z2=>?_
 refine z1.use fun env ρ1 s2 x1 y4k=>o02 y4k fun e1 e2=>⟨H.B.lim.keeps x1.sat.keep,codeAny_func ?_⟩
 have r2:aj (A.deeper env) 13:=aj.deeper (d:=13) r
 refine o12 (SS.cutF (ab H (l:=[]) aa.nil {tb:=adL []} 60) (CA (cx:=cx) (sa:=sa) (ns:=ns) (mJ ns) 3) iq trivial) fun σ1 w1 w2=>?_
 refine rK (show(lwF cx.P).body=([lwS cx.P 0]++[lwS cx.P 1,lwS cx.P 2])++(lwS cx.P 3::[lwS cx.P 4,lwS cx.P 5])from wg _) (rK (be ..) ?_)
 refine wpAny_bind (((SS.append (Cw H hs (kV hn (by decide)) 13) (SS.pick w1 w2)).it _ ρ1 s2 env r2 e1 x1.sat).use fun fl ρ2 s3 x2 f2=>?_)
 cases(show fl=.next from f2)
 have h20:ρ2 0=ρ1 0:=x2.ext.same 0 (by show 0<1;decide)
 have e3:ax (lwE cx.P 13) 11 ρ2 env:=e1.ext x2.ext
 have hkm:env.scope.kind≠ .module:=fun q=>by
  have:=wf cx.P
  replace this:=(q ..)▸((show(lwF cx.P).scope=env.scope from e1.scope.symm)▸this)
  cases this
 refine wpAny_execs_cons (wpAny_mono (wo (d:=0) H hG r2 (by show A.frames.map (env:: ·)=_;refine rK (hfr ..) ?_;rfl) (e2.trans (congrArg some (e1.loc.trans h20.symm))) hkm (iH ns) htl e3 x2.sat) (fun fl s4 en=>?_) fun _ _ f=>f.elim)
 refine o13 (wd H (iH ns) htl r2 e3 en) fun f q e w=>?_
 cases q
 cases e
 exact wpAny_mono w (fun f s5 h=>by
  refine o04 h fun e0q h2 h3 h4=>?_;subst e0q
  exact⟨rfl,h2,h3.trans (x2.os.trans x1.os),h4.trans (by exact rK (x2.gens ..) (rK (x1.gens ..) rfl))⟩) fun _ _ f=>f.elim
end
theorem has_int{x:WData}(h:WShape.has [] x .int=true): ∃n,x=.int n:=by
 cases x with
 | int n=>exact⟨n,rfl⟩
 | _=>exact Eg (show false=true from h)
theorem mR: ∀{xs:List WData},WShape.hasItems [] xs .int=true→ ∃ns:List Int,xs=ns.map .int
 | [],_=>⟨[],rfl⟩
 | x::xs,h=>by
  have h:=(E5 _ _).mp (show(WShape.has [] x .int&&WShape.hasItems [] xs .int)=true from h)
  refine o11 (has_int h.1) fun n e1q=>?_;subst e1q
  exact(mR h.2).imp' (n:: ·) fun ns e=>congrArg (WData.int n:: ·) e
theorem has_list{x:WData}(h:WShape.has [] x (.list .int)=true): ∃ns:List Int,x=.list (ns.map .int):=by
 cases x with
 | list xs=>
  exact(mR ((Bool.or_false _).symm.trans h)).imp fun ns e=>congrArg WData.list e
 | _=>exact Eg (show false=true from h)
theorem ym(l:List WData):PySem.Challenge.rw_te0038_01.pre.holds [] {args:=[.list l]}=WTm.holds [] (.and (.not (.lit (.bool (decide ((63:Int)<(l.length:Int)))))) (.lit (.bool true))) {args:=[]}:=by kernel_rfl
theorem yt: ∀b,WTm.holds [] (.and (.not (.lit (.bool b))) (.lit (.bool true))) {args:=[]}=!b
 | true=>rfl
 | false=>rfl
theorem sR{args:List WData}(h:PySem.Challenge.rw_te0038_01.row.claim.pre args=true): ∃ns:List Int,args=[.list (ns.map .int)]∧ns.length≤63:=by
 have h:WShape.hasAll [] args [.list .int]=true∧PySem.Challenge.rw_te0038_01.pre.holds [] {args:=args}=true:=(E5 _ _).mp h
 induction args with
 | nil=>exact Eg h.1
 | cons x r=>induction r with
  | cons y r=>exact Eg ((Fp _).symm.trans h.1)
  | nil=>
   refine o11 (has_list ((GJ _).symm.trans h.1)) fun ns e1q=>?_;subst e1q
   have e:(!decide ((63:Int)<((ns.map WData.int).length:Int)))=true:=((ym _).trans (yt _)).symm.trans h.2
   rw[D4,Ep]at e
   exact⟨ns,rfl,Gm.mp (F9.mp (of_decide_eq_false e))⟩
noncomputable def DF (P:Params) (h:Heap) (v:Value):WData→Prop
 | .int i=> ∃t,v=.int i t
 | .list xs=> ∃a vs,v=.ref a∧h.get? a=some {cls:=.type "list",data:=.seq vs.toArray}∧WellAll P h vs xs
 | _=>True
theorem lM{P:Params}{h:Heap}{v:Value}{d:WData}(w:Well P h v d):DF P h v d:=by
 cases w with
 | int i t=>exact⟨t,rfl⟩
 | list a b=>exact⟨_,_,rfl,a,b⟩
 | _=>exact trivial
theorem cR{P:Params}{h:Heap}{vs:List Value}{ds:List WData}(w:WellAll P h vs ds):match ds with | []=>vs=[] | d::ds=> ∃v vs',vs=v::vs'∧Well P h v d∧WellAll P h vs' ds:=by
 cases w with
 | nil=>exact rfl
 | cons a b=>exact⟨_,_,rfl,a,b⟩
theorem jC{P:Params}{h:Heap}: ∀{ns:List Int} {vs:List Value},WellAll P h vs (ns.map .int)→VRs 0 zero h (ns.map .int) vs
 | [],vs,q=>cR q
 | n::ns,vs,q=>by
  refine o23 (cR q) fun v vs' e2q a b=>?_;subst e2q
  refine o11 (lM a) fun t e1q=>?_;subst e1q
  exact Ee _ (Ee _ ⟨rfl,vrI,jC b⟩)
theorem vM(args ds:List WData):PySem.Challenge.rw_te0038_01.row.claim.post args (.bool true) ds=true:=by kernel_rfl
theorem zH:aj callerA 14:=⟨rfl,by decide+kernel,by decide+kernel⟩
theorem BB{cx:Cx}{h:Heap}(e:h=cx.h₀):Sat cx [] zero h:=by
 subst e
 exact⟨fun i j hi=>absurd hi (Eo _),fun i hi=>absurd hi (Eo _),fun i hi=>absurd hi (Eo _),fun a o h=>h,fun i o h=>by simp at h⟩
theorem tD{G:Prop}{P:Params}{h:Heap}{cl:Str→Option Addr}{args:List WData}{vals:List Value}{as:List Addr}(hpre:PySem.Challenge.rw_te0038_01.row.claim.pre args=true)
  (hrd:ReadsAllW [] cl h vals args as) (hwell:WellAll P h vals args) (hfar: ∀a∈as,(a==sysModules)=false)
  (k: ∀(sa:Addr) (ns:List Int),vals=[.ref sa]→(sa==sysModules)=false→ns.length≤63→(∀cx:Cx,cx.h₀=h→OR cx 0 zero cx.h₀ sa (.list (ns.map .int)))→G):G:=by
 refine o12 (sR hpre) fun ns e1q hn=>?_;subst e1q
 refine o23 (cR hwell) fun v vs' e2q a b=>?_;subst e2q
 refine o23 (lM a) fun sa vs e2q hget hwa=>?_;subst e2q
 obtain rfl:vs'=[]:=cR b
 refine k sa ns rfl ?_ hn fun cx e=>by subst e;exact⟨vs.toArray,0,hget,jC hwa⟩
 refine o44 hrd.cons_inv fun d ds a1 b1 e1 e2 r1 _=>?_
 obtain⟨l,o,its,n,ai,e3,_,_,_,_,e4⟩:=readsW_list_open ((E6 e1).1▸r1)
 exact Value.ref.inj e3▸hfar l (e2▸e4▸wj)
theorem tE{h:Heap}{mg mb:Str→Option Value}{K:Frag}{w:World}(F:ny K w)(X:K.In h)(hg:h.Ns mainGlobals mg)(hbt: ∀x:Str,x≠"__name__"→mb x=bootBuiltins x){a:Addr}(hmg:mg "law"=some (.ref a)):a=857:=by
 obtain⟨_,y,y1,y2⟩:=ke (T:={glob:=("law",.old 857)::g1,fns:=[],cls:=[],cons:=[]}) X hg hbt F.globE F.globB "law" (.old 857) (by simp)
 cases(y1:y=.ref 857)
 rcases y2 with y2 | ⟨y2,_⟩
 ·replace y2:=(hmg ..)▸y2;cases y2;rfl
 ·replace y2:=(hmg ..)▸y2;cases y2
theorem tz{cl:Str→Option Addr}{mean:ExcName→Option Value}{args:List WData}{s s':Shared}(k1: ∀a o,s.heap.get? a=some o→s'.heap.get? a=some o)(k2:s'.os=s.os)(k3:s'.gens=s.gens.push .finished)(h:s.gens= #[]):
  GoodWG PySem.Challenge.rw_te0038_01.row.claim cl mean args s (.ok (.ret (.bool true))) s':=
 ⟨.inl ⟨.bool true,.bool true,[],rfl,fun _=>rfl,.bool true,vM _ _,fun _=>⟨E9,fun a ha=>nomatch ha⟩⟩,.of_keep k1,k2,by refine rK (k3 ..) (rK (h ..) ?_);exact AllBare.push .empty rfl⟩
theorem yF{cx:Cx}{K:Frag}(X:K.In cx.h₀)(F:ny K cx.w): ∃obj fd,FnAt cx 268 (giF cx.P) obj fd:=by
 refine o23 (ub (cx:=cx) X F.gen) fun o fd kk _ _=>?_
 exact⟨o,fd,by rw[F.gen2]at kk;exact kk⟩
theorem tx{w:World}{s₁:Shared}{mg mb:Str→Option Value}{K:Frag}{cl:Str→Option Addr}{mean:ExcName→Option Value}(F:ny K w)(X:K.In s₁.heap)(hg:s₁.heap.Ns mainGlobals mg)(hb:s₁.heap.Ns builtinsNs mb)(hl:s₁.heap.NoLimit)(low: ∃o,s₁.heap.get? sysModules=some o)
  (hbt: ∀x:Str,x≠"__name__"→mb x=bootBuiltins x) {a:Addr} (hmg:mg "law"=some (.ref a)) (hgens:s₁.gens= #[]) {args:List WData} {vals:List Value} {as:List Addr} (hpre:PySem.Challenge.rw_te0038_01.row.claim.pre args=true)
  (hrd:ReadsAllW [] cl s₁.heap vals args as) (hwell:WellAll w.params s₁.heap vals args) (hfar: ∀a∈as,(a==sysModules)=false):
  wpAny (model PySem.Challenge.rw_te0038_01.row.prog w) callerA (call (.ref a) vals) (fun v s'=>GoodWG PySem.Challenge.rw_te0038_01.row.claim cl mean args s₁ (.ok (.ret v)) s') (fun e s'=>GoodWG PySem.Challenge.rw_te0038_01.row.claim cl mean args s₁ (.error e) s') s₁:=
 tD hpre hrd hwell hfar fun sa ns e hsa hn hs=>by
  refine rK (show call (.ref a) vals=call (.ref 857) [.ref sa]from by exact rK (tE F X hg hbt hmg ..) (rK (e ..) rfl)) ?_
  exact wpAny_call (codeAny_mono
   (tC (cx:=⟨PySem.Challenge.rw_te0038_01.row.prog,w,s₁.heap,K⟩) (A:=callerA) (s:=s₁) (ok1 (cx:=⟨PySem.Challenge.rw_te0038_01.row.prog,w,s₁.heap,K⟩) ⟨X,hg,hb,hl,low⟩ F hbt (hs _ rfl) hsa) (yF (cx:=⟨PySem.Challenge.rw_te0038_01.row.prog,w,s₁.heap,K⟩) X F) (hs _ rfl) (kV hn (by decide)) rfl zH (BB rfl))
   fun rr s' q=>by
    refine o04 q fun e0q k1 k2 k3=>?_;subst e0q
    exact tz k1 k2 k3 hgens)
end Mine.Internal
set_option Elab.async true
set_option maxHeartbeats 8000000
namespace Mine
open Mine.Internal
theorem wj {h : Heap} (l : h.NoSeer) : ∃ o, h.get? sysModules = some o := by
  obtain ⟨mm, ⟨o, _, _, ho, _⟩, _⟩ := l.mods
  exact ⟨o, ho⟩
namespace head
noncomputable section
variable{p:Prop}(h:p)
def tw9881340216297992761:=h
def tw18081138779251354973:=h
def tw6595276589069765893:=h
def tw13999681649124312864:=h
def tw11636873012791513418:=h
def tw12310735299239354703:=h
def tw13942192884097748152:=h
def tw12460202669355646752:=h
def tw15501141472565082077:=h
def tw11628534518673281344:=h
def tw3715584954343283195:=h
def tw3453547403478019728:=h
def tw16871623187472473471:=h
def tw14788773977795034992:=h
def tw6772502638888315869:=h
def tw15127644999133008818:=h
def tw2509309528272606033:=h
def tw15392136045813129965:=h
def tw17769433529836712537:=h
def tw1557141247577048592:=h
def tw11296743742662292762:=h
def tw2393098407364606883:=h
def tw2035680199648653684:=h
def tw7156519585557434892:=h
def tw18007968972792079559:=h
def tw4473611206160876864:=h
def tw2864405669816312776:=h
def tw9133290819911140118:=h
def tw14513887754847984766:=h
def tw17156091980717111821:=h
def tw15827502805916655846:=h
def tw11289835788462762251:=h
def tw18176413224385145225:=h
def tw10116942457455264815:=h
def tw1056085985882870562:=h
def tw9186546921256032858:=h
def tw17994261503862256477:=h
def tw5501060405047882677:=h
def tw3986194592780655508:=h
def tw14139502460874162764:=h
def tw9984397402777080727:=h
def tw7272792461964422541:=h
def tw3696042808614700290:=h
def tw3790771472595898956:=h
def tw7494366503370351645:=h
def tw15181326774706428367:=h
def tw7450023128482652576:=h
def tw13277643439714857746:=h
def tw5250025526955580050:=h
def tw3342127626655828140:=h
def tw18384547517478447814:=h
def tw6600165084710513979:=h
def tw1134157569726261602:=h
def tw17287069475806534740:=h
def tw17339705970751849611:=h
def tw16845296645482713644:=h
def tw12870424476946447624:=h
def tw69809265629811306:=h
def tw13697588214506672789:=h
def tw7013799640231393816:=h
def tw9449176361245260279:=h
def tw4834694072379752904:=h
def tw14427283581363961175:=h
def tw9701577420580846637:=h
def tw9909477652473797434:=h
def tw6088685845774392931:=h
def tw45052839361067614:=h
def tw8671685427711848851:=h
def tw4965378191221513410:=h
def tw1519320592345488741:=h
def tw17304152732226823993:=h
def tw8586521899292070991:=h
def tw1919001801439425371:=h
def tw6240353410654795137:=h
def tw6684681932595197013:=h
def tw946586880256125082:=h
def tw8838475285390394957:=h
def tw12596154207471609045:=h
def tw8187629637223713605:=h
def tw10128390137947593754:=h
def tw17674571679781333832:=h
def tw2994772191003457714:=h
def tw2007852463679175192:=h
def tw17850378814381688901:=h
def tw11914187763297459524:=h
def tw13510609219080548989:=h
def tw6998559339924560668:=h
def tw11105056867450500199:=h
def tw16817119741492734445:=h
def tw11373832636114325086:=h
def tw4142019850904089934:=h
def tw7498250532897285284:=h
def tw14983349147647662914:=h
def tw284086516184904499:=h
def tw10457615780465708087:=h
def tw8100529080337985053:=h
def tw18416563613846182222:=h
def tw5182153607120983317:=h
def tw18331532914195504034:=h
def tw2797894973233656403:=h
def tw12856577281151766611:=h
def tw9107825763807709430:=h
def tw9838509708139735780:=h
def tw10812213935944405949:=h
def tw9114333099845857663:=h
def tw2172669909848549399:=h
def tw8182079617134344778:=h
def tw14086173767186703872:=h
def tw17988201657351507238:=h
def tw4235852798576303577:=h
def tw13800718416732639697:=h
def tw15225242498421095992:=h
def tw9767149119325585590:=h
def tw6099028997845504075:=h
def tw6889739017440866108:=h
def tw4693820183103290663:=h
def tw1976755195193171425:=h
def tw6668890000431947556:=h
def tw16903022960794457021:=h
def tw17782148633632673465:=h
def tw1125430239929706018:=h
def tw9464831228461672588:=h
def tw3746228215898030841:=h
def tw778927853757940227:=h
def tw9005204637564801583:=h
def tw709382114072422158:=h
def tw13664066127859960707:=h
def tw13357441389134331599:=h
def tw7582878936473852414:=h
def tw7161073391023584161:=h
def tw9746458257258439470:=h
def tw1214346256449528893:=h
def tw13135395098459392958:=h
def tw15035418422258542911:=h
def tw1060599470133986369:=h
def tw16659920880120507502:=h
def tw16072502192527678464:=h
def tw12601080634535202701:=h
def tw9493678621577581731:=h
def tw1693818546310300448:=h
def tw17444863063712431705:=h
def tw12290355021003547902:=h
def tw18215824643853355119:=h
def tw2770570992077290226:=h
def tw1714602735852981970:=h
def tw2096541523181747872:=h
def tw8062929857114545703:=h
def tw16966009324859112401:=h
def tw6692803169904595997:=h
def tw11629762434490789354:=h
def tw67086481866811729:=h
def tw18125128294737035143:=h
def tw5408759939109034304:=h
def tw7415321957212557323:=h
def tw13650549970936915252:=h
def tw1212124681294104184:=h
def tw9388430590476628193:=h
def tw12182850187970735909:=h
def tw3468014072342718959:=h
def tw5515381820778694223:=h
def tw7273171245171862726:=h
def tw12822298378996975857:=h
def tw15248001044337979736:=h
def tw7661765248129044261:=h
def tw9823536610671039419:=h
def tw6521490308693473283:=h
def tw8169693465737517768:=h
def tw649443455394278489:=h
def tw5869485362099743711:=h
def tw15798066900824788120:=h
def tw2907111362388958804:=h
def tw10589435714200987077:=h
def tw13335025841360890868:=h
def tw3306014811536218513:=h
def tw7758381527925395934:=h
def tw8476951943066225111:=h
def tw14597329475937083939:=h
def tw3651205649096709438:=h
def tw604627371996746742:=h
def tw5697773043789114877:=h
def tw5104563664521345299:=h
def tw16714887947964762639:=h
def tw5240702290290941181:=h
def tw4071276723835451856:=h
def tw10015159338476511836:=h
def tw3944913497352057107:=h
def tw6595020158993437323:=h
def tw18192872963121912645:=h
def tw12207028300977255130:=h
def tw11001102331484777339:=h
def tw6202622434921078099:=h
def tw3644226017259064516:=h
def tw11820730986300896962:=h
def tw17486074103640542121:=h
def tw7960053054240918295:=h
def tw12201952087667049370:=h
def tw9065935926736091543:=h
def tw3281809517304281197:=h
def tw17017319662998615:=h
def tw17194126546080390198:=h
def tw15296082917334920728:=h
def tw7459580235894062507:=h
def tw15539854500240908086:=h
def tw3307856608211204613:=h
def tw3062044705579621278:=h
def tw9987851973559822609:=h
def tw10706776884845955466:=h
def tw10948677003083999065:=h
def tw17039324001796647390:=h
def tw742351954350328859:=h
def tw6857890620306548900:=h
def tw6247268493268985975:=h
def tw1618804561499322139:=h
def tw12773685731770592110:=h
def tw14028522991509751376:=h
def tw7256407767356113836:=h
def tw13637325136056909300:=h
def tw13381877923881390905:=h
def tw5129616035191883695:=h
def tw7835671542029378175:=h
def tw14796412885826930917:=h
def tw7658410731251134818:=h
def tw8341345799197769705:=h
def tw12727220549172885185:=h
def tw14699756766385990792:=h
def tw11714945338242495837:=h
def tw9894326130215728876:=h
def tw3979787820943753880:=h
def tw13741680068142600715:=h
def tw1750507733526642434:=h
def tw532055438628499158:=h
def tw9318794584737855082:=h
def tw17297054508065495485:=h
def tw14643560169476415855:=h
def tw11680266561614322678:=h
def tw16111715859725283846:=h
def tw380116879960591498:=h
def tw1832916270232011604:=h
def tw7148437315225170067:=h
def tw2821592275122389253:=h
def tw6968674436765558698:=h
def tw15779500811904541264:=h
def tw15171285062763278426:=h
def tw7421959067914383049:=h
def tw15204471325056678010:=h
def tw16166440364842034014:=h
def tw15894371620910866019:=h
def tw14676189674455941282:=h
def tw3404819636646143723:=h
def tw2066564036433440168:=h
def tw15796087645652482245:=h
def tw18277060748420158845:=h
def tw9162278640276766204:=h
def tw10270352894671993868:=h
def tw12695399030622205104:=h
def tw15785421084128741142:=h
def tw7253898381062576733:=h
def tw12328230846540189838:=h
def tw290710125855613696:=h
def tw1457377512435260902:=h
def tw12362083183470981646:=h
def tw722688901398713392:=h
def tw14842460003800876886:=h
def tw697593947973469745:=h
def tw14068133799693864440:=h
def tw4964814941381164201:=h
def tw9942188429317320347:=h
def tw3264716943610762504:=h
def tw6369041477666114370:=h
def tw5725584637647431893:=h
def tw739537129135343663:=h
def tw7417405269818204032:=h
def tw8999717820950321917:=h
def tw18164835968555783806:=h
def tw4005429485061764775:=h
def tw13295082483830516422:=h
def tw12249523057431388528:=h
def tw5915552362696249034:=h
def tw16962450398199861240:=h
def tw9062998866958442273:=h
def tw1906429620130506887:=h
def tw5111174896325423537:=h
def tw2646132237282668844:=h
def tw1766074496371839085:=h
def tw9354026244260953042:=h
def tw11063524718261073790:=h
def tw14999265807660949796:=h
def tw3401221922045585347:=h
def tw10021064610941686981:=h
def tw9718778162690014751:=h
def tw3244951577380529755:=h
def tw1858156416291392539:=h
def tw17539234302018041193:=h
def tw9197122456581196581:=h
def tw11732908120936727654:=h
def tw7181452741857391679:=h
def tw5651425540991249520:=h
def tw4991397462208424806:=h
def tw15317023959539522800:=h
def tw3665862066206961463:=h
def tw7396500232308049434:=h
def tw8382746154173761051:=h
def tw18260194641540637818:=h
def tw16546490078704341612:=h
def tw5680469135128100081:=h
def tw12961769733115803770:=h
def tw5019597260055213698:=h
def tw17573037796337583832:=h
def tw7961726388155042601:=h
def tw17173245716831642929:=h
def tw4433315090154635215:=h
def tw13906610036690215845:=h
def tw7802898811600756450:=h
def tw15330342782969278459:=h
def tw15305915472762889579:=h
def tw17844492200522320778:=h
def tw9625377726130185387:=h
def tw3501597964444990463:=h
def tw17014415605687186514:=h
def tw18332689328565389885:=h
def tw1172538174109094731:=h
def tw2581250870941146908:=h
def tw5392078452651409485:=h
def tw8550467674348477657:=h
def tw8541356943393881859:=h
def tw1155926839051525531:=h
def tw10128820837102578890:=h
def tw13868347639449504327:=h
def tw3089916443595474862:=h
def tw7734086686654790897:=h
def tw3615648651819825313:=h
def tw5438144065070405397:=h
def tw7218757217702219634:=h
def tw7994106446794305319:=h
def tw1909714482019496454:=h
def tw12095829319087573521:=h
def tw16894393574925625578:=h
def tw8627200689577751383:=h
def tw3793723283092296701:=h
def tw9966027542202029443:=h
def tw4652900348082922388:=h
def tw4585157591006285545:=h
def tw2946737518818760889:=h
def tw14746898714274692784:=h
def tw1608297297296620843:=h
def tw17784522201281872271:=h
def tw12799445714804067355:=h
def tw16828514060538661750:=h
def tw5996384718915585738:=h
def tw8549075639274686408:=h
def tw2624612372273768290:=h
def tw17630500395600762314:=h
def tw4415685298772064003:=h
def tw12084453891678590660:=h
def tw4973224433832344683:=h
def tw2976249973925969801:=h
def tw266100023129296208:=h
def tw5870146547769353613:=h
def tw807142644699662319:=h
def tw14241001667801471300:=h
def tw5096742575497195690:=h
def tw9202431907968578930:=h
def tw6402496994288996404:=h
def tw2307047085170396653:=h
def tw13379202705063549618:=h
def tw11371825063404527298:=h
def tw377444749377882612:=h
def tw2123727595537733498:=h
def tw3715144110773694964:=h
def tw2471654206473426777:=h
def tw10573561805867645650:=h
def tw780477332936465449:=h
def tw10275354952418168282:=h
def tw16922147877168347812:=h
def tw12892129938458570674:=h
def tw12371566548271132015:=h
def tw16291991722392533869:=h
def tw12344544660321961925:=h
def tw3604701254548876123:=h
def tw2203363585012173787:=h
def tw829941438253678028:=h
def tw14631306762972528136:=h
def tw5599997604879368025:=h
def tw2876011056497122456:=h
def tw16078238667976319046:=h
def tw16545597347906280737:=h
def tw9575541623215731522:=h
def tw10187618423342961781:=h
def tw13381936622781507537:=h
def tw6327039764776113722:=h
def tw7575806435727305068:=h
def tw5353729903917744248:=h
def tw14349913743752837093:=h
def tw6640010369347007910:=h
def tw17037872496334206203:=h
def tw1495726902847802894:=h
def tw15638870477510070732:=h
def tw2518057956044344595:=h
def tw10510622979536455646:=h
def tw16472945084836616533:=h
def tw12841863872788715202:=h
def tw1506576300011279404:=h
def tw12427710115714267126:=h
def tw7704315382344345624:=h
def tw16997897962222511:=h
def tw1232503513038610811:=h
def tw1643771367246577777:=h
def tw6931653728971238233:=h
def tw124883101675373894:=h
def tw15924019268735266097:=h
def tw11194998557105285118:=h
def tw3383483231816665885:=h
def tw11892436614613694032:=h
def tw7805308653706644653:=h
def tw9655098249580616457:=h
def tw4151447041120621724:=h
def tw2825341998796452840:=h
def tw1660877005871194693:=h
def tw12907541655043102265:=h
def tw10988817232074504935:=h
def tw12364624919760631829:=h
def tw12611893724949602041:=h
def tw12475708393154427166:=h
def tw5092371620264689978:=h
def tw15112835437128306455:=h
def tw2413573451304230806:=h
def tw11484358847640170188:=h
def tw2250686904917368756:=h
def tw18282902561792777199:=h
def tw14061139507663348314:=h
def tw6053349399257934933:=h
def tw17541063381433097499:=h
def tw13276723143375012678:=h
def tw17854896373637125580:=h
def tw9213911765573242809:=h
def tw3453787792041028874:=h
def tw4692888973056910177:=h
def tw11582096051123008839:=h
def tw11685017591894731939:=h
def tw1120683029170811851:=h
def tw7656372460463219624:=h
def tw17890245599415353634:=h
def tw13353151263460963528:=h
def tw5927865893512547691:=h
def tw4528443807372415038:=h
def tw8041981036286801607:=h
def tw11715283913529211631:=h
def tw8172283286065499403:=h
def tw16582591585412914238:=h
def tw15263674166054382079:=h
def tw15095179193122606544:=h
def tw16495435189000846180:=h
def tw3027932573228621659:=h
def tw9431614861159355217:=h
def tw1224924573807776437:=h
def tw4708111749353345164:=h
def tw7743085818281968155:=h
def tw16894561301568121468:=h
def tw2400818531096893172:=h
def tw9082462177598256812:=h
def tw573967197379146972:=h
def tw9646481798937456297:=h
def tw8497721794823489343:=h
def tw2625984366357065906:=h
def tw7893992939808209232:=h
def tw17008234436448823602:=h
def tw6562009823351158392:=h
def tw10356212845559719233:=h
def tw13988103294471073821:=h
def tw6215453301258677876:=h
def tw1917425121527220963:=h
def tw17768545326873755256:=h
def tw14818019229276831692:=h
def tw1276956409769668328:=h
def tw11998209505049934977:=h
def tw3688799982635324794:=h
def tw4947412792043415962:=h
def tw12043669396524033845:=h
def tw17464823870196871000:=h
def tw14744981736328886265:=h
def tw10748227973586771634:=h
def tw3040085230504974413:=h
def tw8086450761072817414:=h
def tw13448663612475342349:=h
def tw12666380852390969779:=h
def tw7705420606127192585:=h
def tw6307057079134178644:=h
def tw4273228799998304602:=h
def tw16917608666046251313:=h
def tw1689142752476645926:=h
def tw14277528927401260903:=h
def tw16065611263816554750:=h
def tw4543076655600059902:=h
def tw17972497016974392416:=h
def tw6857060684267632606:=h
def tw14078167904914714981:=h
def tw6153569298028143949:=h
def tw13180129090757240718:=h
def tw8251012268138292781:=h
def tw17522360388414511382:=h
def tw1061700454162486011:=h
def tw2241628862621589225:=h
def tw10521553517811329670:=h
def tw6880043348581005364:=h
def tw9211057245822576837:=h
def tw10110233660360586483:=h
def tw12799616582074740251:=h
def tw9698977904933032859:=h
def tw9325057278558614444:=h
def tw14149427978524627653:=h
def tw1703907593899377836:=h
def tw2393937325987436248:=h
def tw7046380642943354848:=h
def tw1937370526825066196:=h
def tw6237802210402583469:=h
def tw12723833596933988784:=h
def tw13397106695672350980:=h
def tw12024539317367501503:=h
def tw3514389088698752745:=h
def tw6587087628758450585:=h
def tw3500380475922496097:=h
def tw2342417691235652057:=h
def tw3290047583113660281:=h
def tw17052544337092648970:=h
def tw999222835498014148:=h
def tw12147184966966947637:=h
def tw12428389735305899900:=h
def tw14235953900361662071:=h
def tw11402027661713467040:=h
def tw14735301032572234722:=h
def tw17725469503822016867:=h
def tw4807810042250683422:=h
def tw13137911371727378231:=h
def tw6526830475164118762:=h
def tw10005452208157733855:=h
def tw4932745802714450591:=h
def tw14943480678444902952:=h
def tw8047541715743884091:=h
def tw4387028780061031483:=h
def tw8595470254474955868:=h
def tw2350586252961548244:=h
def tw3185377453876500656:=h
def tw5788964047882338313:=h
def tw6426539377367359892:=h
def tw1756991915124769162:=h
def tw6751290297309308749:=h
def tw2201313380682377074:=h
def tw6053997905714604814:=h
def tw8943219189493157100:=h
def tw1318689175770300589:=h
def tw12775505166333009402:=h
def tw3160712208675142370:=h
def tw883913982201973750:=h
def tw16474958459275807246:=h
def tw17826015225549371706:=h
def tw13605870324054321959:=h
def tw13488047542759136002:=h
def tw3512634313551410195:=h
def tw7358512011923840914:=h
def tw1748456618969930982:=h
def tw12359489953124434286:=h
def tw13989935561195760086:=h
def tw10936905620487946977:=h
def tw890905387884194350:=h
def tw5506250874072839755:=h
def tw10070411193226618655:=h
def tw4381510469713062047:=h
def tw578259024812056932:=h
def tw6930615606355531631:=h
def tw14877080517539528568:=h
def tw11060938730435951684:=h
def tw15840312062823119879:=h
def tw17821319399108415887:=h
def tw2260579728952749127:=h
def tw12704426703380559182:=h
def tw1792277464101229681:=h
def tw13954853420313727417:=h
def tw3164961170700492040:=h
def tw9983174893691179580:=h
def tw8408249889716310983:=h
def tw4419558321834357505:=h
def tw4154363929692500862:=h
def tw7885897083568230588:=h
def tw4357005996527412928:=h
def tw13017206433863751270:=h
def tw8402328212356670530:=h
def tw6085824867444503733:=h
def tw5129340602016612638:=h
def tw6497301856786237229:=h
def tw17836260108008149386:=h
def tw7940748693946456147:=h
def tw13508044439285423174:=h
def tw1463646239528298992:=h
def tw8812732774380208333:=h
def tw16984083398119652359:=h
def tw5210181285589595013:=h
def tw2298694737197419510:=h
def tw1472379273497163797:=h
def tw12032222614953749359:=h
def tw16172288393029767808:=h
def tw2521584445584981976:=h
def tw13065621461132903086:=h
def tw2237326684586592538:=h
def tw9353324838224930552:=h
def tw17508272824862286709:=h
def tw5916404902352869828:=h
def tw14234965402570480558:=h
def tw7906546307943345882:=h
def tw10927441816077202529:=h
def tw262713603470380999:=h
def tw16169396229317227677:=h
def tw1626232751844553403:=h
def tw14168692526580214153:=h
def tw17050696954950088759:=h
def tw7090939061502383884:=h
def tw6260244149815935644:=h
def tw6110071263904590700:=h
def tw5906241406904858968:=h
def tw8914193344474463099:=h
def tw14488727979953464203:=h
def tw8874674299285249911:=h
def tw4673441458371412756:=h
def tw14344768424176206936:=h
def tw11124748197601291601:=h
def tw3304075619188804072:=h
def tw2428695696106030784:=h
def tw5973763720392745831:=h
def tw8518231567759158271:=h
def tw4554283584077286953:=h
def tw9234455393454914656:=h
def tw2326617092838664518:=h
def tw10735254221757914791:=h
def tw14364637388885140079:=h
def tw1985537357303476512:=h
def tw86301839051661876:=h
def tw792300799171563205:=h
def tw779419810087314491:=h
def tw14527164170590304321:=h
def tw733406405333840765:=h
def tw14909605222495392915:=h
def tw17243387458012846398:=h
def tw1919890906376249811:=h
def tw13631071318896544983:=h
def tw12205659690895024086:=h
def tw9056860215390897720:=h
def tw7309950759910210094:=h
def tw3928599903575798129:=h
def tw8216834362191484069:=h
def tw3821945547825155762:=h
def tw5479459121986351116:=h
def tw8414573866900348196:=h
def tw6791874446421159577:=h
def tw11988142204041823098:=h
def tw2764016085172604524:=h
def tw9297382265435449532:=h
def tw13315729282080922261:=h
def tw14255830675389880745:=h
def tw7523532297153676066:=h
def tw353468001202900844:=h
def tw14083850284487924763:=h
def tw14956371261235936329:=h
def tw10059252607514160932:=h
def tw5901594920499545818:=h
def tw10205530081349824492:=h
def tw12037728316022314418:=h
def tw12157662564070965069:=h
def tw5319049981483164881:=h
def tw3616486834168423931:=h
def tw10519217271611395807:=h
def tw9716329373054682134:=h
def tw18080951475816111786:=h
def tw3863384581746538084:=h
def tw14306030232151103276:=h
def tw10261356005730403935:=h
def tw15256841493749336786:=h
def tw10573961123116132518:=h
def tw12321676766767419452:=h
def tw2753283235347674219:=h
def tw18051680202136193954:=h
def tw3122906425038022637:=h
def tw12417293695627231756:=h
def tw11692735721529064706:=h
def tw11252389752188410926:=h
def tw15782939476341012554:=h
def tw16974685034882416825:=h
def tw2781723093108153277:=h
def tw467416434755642258:=h
def tw10730805705081004914:=h
def tw1438866918597655640:=h
def tw1489404036187247834:=h
def tw16530349751119242087:=h
def tw9820158181544301314:=h
def tw12987040726578829979:=h
def tw14220653579789841498:=h
def tw12212823987433534256:=h
def tw6265338273532641288:=h
def tw1398043889541792783:=h
def tw10900948863051656163:=h
def tw6581712109270413358:=h
def tw7688317290187622652:=h
def tw15326552575505426906:=h
def tw14385403278947933607:=h
def tw13227620805987009915:=h
def tw11180365069992382532:=h
def tw17348764703882912863:=h
def tw6216518314043141356:=h
def tw12287978374625458572:=h
def tw15250023729529759990:=h
def tw4311042196063409733:=h
def tw3618040419372981184:=h
def tw3368030927266983236:=h
def tw14667470093908496907:=h
def tw15001418939266856263:=h
def tw17265401458761052179:=h
def tw6157079530059567975:=h
def tw17646911460466567920:=h
def tw6474009502463322548:=h
def tw3270352941656771521:=h
def tw7627683417492964911:=h
def tw13537664574400122534:=h
def tw9827913525700040407:=h
def tw17142359554024780413:=h
def tw6388477656530123435:=h
def tw15564447279633807951:=h
def tw1786199778172832133:=h
def tw4196546014268931301:=h
def tw5141578139466067413:=h
def tw13750642191701924398:=h
def tw13910694723763315657:=h
def tw5751227541892866231:=h
def tw10875119458065257276:=h
def tw3083302935323014018:=h
def tw16576625349610184965:=h
def tw1728724042893426364:=h
def tw5865467396996320769:=h
def tw12903917746401883607:=h
def tw14922436083285072407:=h
def tw17595797816247731874:=h
def tw3749026756887285471:=h
def tw11274228538900641214:=h
def tw12268914432092229731:=h
def tw2371957332031735670:=h
def tw16640130746408290383:=h
def tw9553506758532729402:=h
def tw2506711637615833298:=h
def tw140066278072042493:=h
def tw14982685227137828758:=h
def tw1687793838685487538:=h
def tw10736139440505347576:=h
def tw11925700103697007601:=h
def tw6304676298305806467:=h
def tw3088210815446039105:=h
def tw17854890406432584798:=h
def tw13687475568465949530:=h
def tw7096138990903361605:=h
def tw15253147559959296200:=h
def tw7492340954919836559:=h
def tw11923155195566972133:=h
def tw3539761223686108643:=h
def tw15691586631956691426:=h
def tw5874639182527098836:=h
def tw14969872817325187116:=h
def tw14059167943309011982:=h
def tw15676425527210111115:=h
def tw5274623360512300857:=h
def tw6379358179555706155:=h
def tw3581614266968435656:=h
def tw9997931420998421608:=h
def tw6925956493692337269:=h
def tw8773370040425892893:=h
def tw14969395210118534408:=h
def tw13917482298092908234:=h
def tw3031357335402518240:=h
def tw6298033893332097587:=h
def tw17784925447008408576:=h
def tw11305582741114486441:=h
def tw4405531762615560363:=h
def tw3991279037241028524:=h
def tw15452280279296900796:=h
def tw12741294794224977040:=h
def tw11485113708198979986:=h
def tw300626226527484142:=h
def tw2728595385866086531:=h
def tw533756555076263647:=h
def tw12740806245664736207:=h
def tw12682429181067543257:=h
def tw12795389718870424448:=h
def tw13708957947011138092:=h
def tw11128210870785958166:=h
def tw9407594320385231609:=h
def tw7624658959004494543:=h
def tw10170068340998493759:=h
def tw466721876749952763:=h
def tw14432977821161478157:=h
def tw4976181008148175253:=h
def tw15215111219801757744:=h
def tw5195771902682577575:=h
def tw12398312691204496596:=h
def tw9601497413559074677:=h
def tw7789450098604059249:=h
def tw4764554697811233:=h
def tw11544532188706048022:=h
def tw2118377178292867602:=h
def tw7748693106545578708:=h
def tw18433677622606106133:=h
def tw5038994553942263901:=h
def tw17836618258811950860:=h
def tw6846866878297920324:=h
def tw3171451927456968151:=h
def tw4017301010375394790:=h
def tw12330954535739239725:=h
def tw9380374249521086144:=h
def tw12865059321931465230:=h
def tw3548660455928884018:=h
def tw4489203361448125431:=h
def tw9171846695823722306:=h
def tw10746725682022337571:=h
def tw3127049524044150859:=h
def tw6212921109956642855:=h
def tw957920728692688272:=h
def tw1218028761782608530:=h
def tw4068010885799345606:=h
def tw5894247764576360081:=h
def tw4160124254940468481:=h
def tw13504307299585405616:=h
def tw7928285938522686346:=h
def tw4874392174073282168:=h
def tw10698650227242318774:=h
def tw4993741786232285773:=h
def tw10242447542790323104:=h
def tw17036404701509520903:=h
def tw1914692607248247194:=h
def tw9280153536138602973:=h
def tw13653928888864918839:=h
def tw17553620660974883448:=h
def tw17698105195316432488:=h
def tw6121141971511671821:=h
def tw5737951250597237232:=h
def tw1593561654347908568:=h
def tw15399148058966210843:=h
def tw12472887615940459650:=h
def tw12542841389457131302:=h
def tw14637134836413734856:=h
def tw1082313596108445148:=h
def tw18165431152234640623:=h
def tw2232109503444375002:=h
def tw10845400790151957771:=h
def tw1995287165650055613:=h
def tw10018764681926925449:=h
def tw8715499118904818895:=h
def tw1929634836878124385:=h
def tw13600378441667735501:=h
def tw9644850379433450445:=h
def tw4405734404675932169:=h
def tw15832300201269216667:=h
def tw6836605351468522007:=h
def tw10340462753498674063:=h
def tw11770459041652445329:=h
def tw5792407227767346561:=h
def tw7313386461004707312:=h
def tw17658000642845759554:=h
def tw3910526619309349007:=h
def tw14127983276867164173:=h
def tw12668424612319814730:=h
def tw3547811175951651099:=h
def tw5331137831679937033:=h
def tw2694075680205673411:=h
def tw8298956036677137903:=h
def tw14195316510222423288:=h
def tw6585138550035349233:=h
def tw1939405473400901271:=h
def tw13337238644230332656:=h
def tw13198292447841614426:=h
def tw3869590956505411354:=h
def tw10504981510240967646:=h
def tw5944575059761466720:=h
def tw13896987355042952010:=h
def tw17905491414393134947:=h
def tw14631705268626504575:=h
def tw18177109656662797139:=h
def tw2545145822199252752:=h
def tw4389056084150536348:=h
def tw10786079294511566085:=h
def tw17262968490309938674:=h
def tw7179252675378151715:=h
def tw1894759731626308040:=h
def tw5363715690607933:=h
def tw11426403942048686318:=h
def tw1966224132733831507:=h
def tw12394069701764826827:=h
def tw3223962053107752630:=h
def tw14759185912286986992:=h
def tw12573619785200380473:=h
def tw4709128311485490483:=h
def tw8299393411229908732:=h
def tw9074772780463953568:=h
def tw1522823579158628613:=h
def tw16441004959143088680:=h
def tw12858780395421280599:=h
def tw7404141018258913797:=h
def tw5617373736292572815:=h
def tw14112051064653734678:=h
def tw4018983750718401802:=h
def tw10872037306656784433:=h
def tw17889261914703972767:=h
def tw9795251257728629362:=h
def tw2355103038987944067:=h
def tw12275693417441809861:=h
def tw10451821566800517634:=h
def tw3212073173673764245:=h
def tw6518409114910312394:=h
def tw14969385696402013904:=h
def tw9777900189565919194:=h
def tw11308087075614649832:=h
def tw4377270945021899497:=h
def tw15468718075485040107:=h
def tw16800043278716471037:=h
def tw7732209734871044160:=h
def tw10840385229135970747:=h
def tw11808996689058197189:=h
def tw1718890006036334650:=h
def tw8264559056461403633:=h
def tw11052631288978436188:=h
def tw10307130028497402462:=h
def tw4176204533620912855:=h
def tw7237916720857940274:=h
def tw15845715064670954444:=h
def tw16888070154925205155:=h
def tw17188972718952451159:=h
def tw5844781237557850387:=h
def tw15841401105113185080:=h
def tw12875325457547866274:=h
def tw9515422150858430662:=h
def tw4389747894416019800:=h
def tw6226413525154113608:=h
def tw9885750084120196852:=h
def tw4945251732147069371:=h
def tw2857895335220236748:=h
def tw1992862871153497056:=h
def tw3364305129493290686:=h
def tw2441957057352720082:=h
def tw10668533816033670360:=h
def tw16695014060947850149:=h
def tw3547030090768783262:=h
def tw6763335052953634553:=h
def tw11569442021236766091:=h
def tw5172421753618935790:=h
def tw1425459126675767727:=h
def tw14429822130985059091:=h
def tw12908475990344208633:=h
def tw2224060146885621047:=h
def tw17173436117698932495:=h
def tw3665506230870052707:=h
def tw1319983325249436295:=h
def tw1389810093214676884:=h
def tw8119138517388224971:=h
def tw6891450509433485068:=h
def tw9717200733822644074:=h
def tw16647155751929229394:=h
def tw1499353310998574721:=h
def tw7596824489109172434:=h
def tw3340124654517525194:=h
def tw17002534310236347988:=h
def tw2591067827882107080:=h
def tw7447869477702799209:=h
def tw11290360913936777911:=h
def tw708152393587867187:=h
def tw5111550220656817904:=h
def tw17525636777796739105:=h
def tw3973953319845086491:=h
def tw4839655697589452165:=h
def tw15898109809663626304:=h
def tw6684978435548883818:=h
def tw16014373381606645092:=h
def tw11597336398036118778:=h
def tw9325123708862168440:=h
def tw7804983522585807867:=h
def tw14330330676051879864:=h
def tw15736342250582547807:=h
def tw18345104242076519216:=h
def tw14586503196746008701:=h
def tw16172356507618199906:=h
def tw7599496313472250701:=h
def tw8101760021730824546:=h
def tw5881713671565795756:=h
def tw13295774097974887486:=h
def tw15064752311394979489:=h
def tw17458890533420659534:=h
def tw6202090305015876224:=h
def tw6604829842348296887:=h
def tw322437386772585718:=h
def tw9592777112578238593:=h
def tw9867840190021597282:=h
def tw12763952150808568291:=h
def tw14946772226789246504:=h
def tw6536181036136497285:=h
def tw17129914584562691343:=h
def tw5658499677264881363:=h
def tw10258521583956687137:=h
def tw11904684991359361074:=h
def tw12280473595433404654:=h
def tw16332062296072025786:=h
def tw11540487432870637733:=h
def tw5764021196749891206:=h
def tw497287684792784471:=h
def tw16782820856776367440:=h
def tw5764705848585077094:=h
def tw940147379719373870:=h
def tw1764952784847918493:=h
def tw5950005786790840295:=h
def tw10333954764705244698:=h
def tw3659646283403374670:=h
def tw11613311375368785083:=h
def tw15656768269340197940:=h
def tw17377423518514600169:=h
def tw8704771223992077307:=h
def tw13379354915994877463:=h
def tw17894702793023417833:=h
def tw12339793173418651155:=h
def tw8988664977312594650:=h
def tw16572314662081343053:=h
def tw2599346099135257874:=h
def tw15328847239876097677:=h
def tw3368474557548986910:=h
def tw17346037399652195860:=h
def tw10947310743691471603:=h
def tw6847273489543275152:=h
def tw17062125606838978880:=h
def tw11338825007792423415:=h
def tw4857777746444614323:=h
def tw12324890628731678277:=h
def tw8185714761375850791:=h
def tw18177665153149118353:=h
def tw1557412913169001158:=h
def tw14389531453299977676:=h
def tw6731557136300432596:=h
def tw17014734716931888790:=h
def tw17993767162375566018:=h
def tw9083612298779875492:=h
def tw8546719886708726068:=h
def tw14090159008775844135:=h
def tw16821450928103126590:=h
def tw8182465387277545410:=h
def tw930087139818521243:=h
def tw6174258528820157971:=h
def tw4885112425497105109:=h
def tw2437478716016495240:=h
def tw8796753266530204203:=h
def tw3333069708870698940:=h
def tw6342581108930332356:=h
def tw10317212456122042642:=h
def tw12851702773856589430:=h
def tw860298348326699438:=h
def tw17312431094565309094:=h
def tw4318500180640689126:=h
def tw1062042127530464391:=h
def tw6602476347957198060:=h
def tw9258293945399652946:=h
def tw18419137052163196841:=h
def tw5467695095851852608:=h
def tw16579250180923337425:=h
def tw10431609616501453582:=h
def tw17093656651364094606:=h
def tw5788372791699333521:=h
def tw6903330171164945697:=h
def tw17007033763367706731:=h
def tw15148963937461231693:=h
def tw545888858418189544:=h
def tw14643959010103036307:=h
def tw2401673296934814795:=h
def tw3321875119742208626:=h
def tw6232644224018631296:=h
def tw9610264321537646536:=h
def tw7287109101882759415:=h
def tw16847831306532103052:=h
def tw6638625709723660006:=h
def tw14843749296085226474:=h
def tw14768688571040804171:=h
def tw13249071542605338262:=h
def tw8451290768687142514:=h
def tw6871339299614917876:=h
def tw2588942769649879372:=h
def tw13647830643472755754:=h
def tw2340069552987342377:=h
def tw2705560170217086799:=h
def tw12120646240234225243:=h
def tw7680146299302783591:=h
def tw1588943658860677225:=h
def tw17958272820484234708:=h
def tw5064764789634828332:=h
def tw12683715663295903708:=h
def tw8476099583838051002:=h
def tw7277520189549225825:=h
def tw7392004362435642628:=h
def tw13986843968525588388:=h
def tw17975491588444890076:=h
def tw10472834687351259785:=h
def tw16272097951300814418:=h
def tw11834849419477591606:=h
def tw13846591363081406657:=h
def tw10400636543074173776:=h
def tw8912104118211102971:=h
def tw5015311536963163689:=h
def tw11704837465938651953:=h
def tw8337448324364255386:=h
def tw17190349231170142043:=h
def tw17788742646020836255:=h
def tw13801937863458859944:=h
def tw203279951241792120:=h
def tw12949380547846470161:=h
def tw17362218986543327160:=h
def tw15410735652082386980:=h
def tw17411354535832351560:=h
def tw5987550445186205895:=h
def tw2154566216772986472:=h
def tw12834788339754589683:=h
def tw11434997419882176723:=h
def tw16031315777459398524:=h
def tw3103639331685909893:=h
def tw2760189568479381244:=h
def tw12214093580764582487:=h
def tw1673358830478937286:=h
def tw4239589573987675453:=h
def tw5593727005144783397:=h
def tw13673146470031054802:=h
def tw9101448428047585222:=h
def tw2529948359932261575:=h
def tw3859398291796969178:=h
def tw3657744606055017977:=h
def tw18100283295969611417:=h
def tw1211024037004892549:=h
def tw14959218684248593190:=h
def tw9743709737119245314:=h
def tw14565420633037775528:=h
def tw7992697801930647134:=h
def tw3880867118405822719:=h
def tw7119846925741900413:=h
def tw9978949632667528635:=h
def tw16952181060025214987:=h
def tw15506723302920939300:=h
def tw18331334602107656470:=h
def tw5271886537152271918:=h
def tw2336085555427514152:=h
def tw9613649512242289415:=h
def tw5061997093462229610:=h
def tw90575161674971029:=h
def tw1503407388533364548:=h
def tw13199516396595161752:=h
def tw6870361546347238192:=h
def tw3021114989795446570:=h
def tw2417591901434828539:=h
def tw4090201507572337743:=h
def tw16385634705727604063:=h
def tw16106133796442146334:=h
def tw13213268828098156179:=h
def tw11081218982966106116:=h
def tw12799966317143952679:=h
def tw14646466228836335164:=h
def tw1970811146720035896:=h
def tw820421773197932041:=h
def tw801906712849415907:=h
def tw5707341947614518954:=h
def tw13478637309914159250:=h
def tw14149492867418468938:=h
def tw1351559336864506655:=h
def tw9495540839478616804:=h
def tw3254172550106833301:=h
def tw3405375401864073989:=h
def tw13585267454733459922:=h
def tw7195933706287572923:=h
def tw9103479521544129834:=h
def tw14139617269561922093:=h
def tw8409189969818401543:=h
def tw5853483612964156811:=h
def tw4163069186122357367:=h
def tw10467814448475477596:=h
def tw10371985647062452541:=h
def tw2366605209839970157:=h
def tw2041922666546174627:=h
def tw17047625674926534286:=h
def tw6229939688011154569:=h
def tw5487235932777146282:=h
def tw3496171461512900480:=h
def tw16703865258624009325:=h
def tw5080737588221150853:=h
def tw12074122134279094452:=h
def tw4407807290196491609:=h
def tw1524684057812940815:=h
def tw6544681653968885310:=h
def tw17238610979035211840:=h
def tw5612995960945425718:=h
def tw14615432700455777464:=h
def tw12764128322984676335:=h
def tw18310999140377845807:=h
def tw14417885227837004991:=h
def tw10775541529341759161:=h
end
end head
theorem head : PySem.Challenge.rw_te0038_01.Holds := by
  w_on; o_law; k_head; (case hw => w_witness2)
  intro w s₀ s₁ mg mb G Y a o pm cd doc dV kV ho hdat hcd hdf hmg hgens args vals as hpre hlay hrd hwell hfar
  refine tx ⟨?_, ?_, ?_, ?_, ?_, ?_, ⟨?_, ?_, ?_, ?_⟩, ⟨?_, ?_, ?_, ?_⟩, ⟨?_, ?_, ?_, ?_⟩, ?_, ?_, ?_, ?_, ?_, ?_⟩ (kIn_of Y) G.T.g G.T.b G.T.nolimit (wj (G.T.seer (by decide +kernel))) G.T.builtins hmg hgens hpre hrd hwell hfar
  all_goals first | kernel_rfl | (change _ = _; kernel_rfl)
end Mine
theorem PySem.Challenge.cw_te0038_01_holds : PySem.Challenge.rw_te0038_01.Holds :=
  Mine.head
