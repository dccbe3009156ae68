import PyProof.Rows.All
import Lean
import Wide.All
import OpenK.AllK
import Wide.FinOn
import PySem.Challenge.RW_wv0065_01
set_option genSizeOf false
set_option genSizeOfSpec false
set_option genInjectivity false
set_option tactic.hygienic false
set_option Elab.async false
set_option linter.unusedVariables false
set_option autoImplicit false
set_option linter.constructorNameAsVariable false
open Array renaming length_toList→Wf,toList_map→Ag,ext'→oh,toList_append→Qi
open Bool renaming and_eq_true→Bd,and_eq_true_iff→Ge,eq_iff_iff→cg,false_eq_true→wg,noConfusion→Mh,true_and→Yh,not_eq_true'→Ii,or_eq_true→wj,false_ne_true→Bj,and_false→Ij
open Classical renaming byContradiction→Gj
open Eq renaming symm→Be
open False renaming elim→Ye
open ForInStep renaming yield→Af
open Int renaming natCast_nonneg→Fb,toNat→Pb,ofNat_le→Gd,ofNat_lt→pe,le_of_lt→gf,le_trans→jf,not_lt→ig,le_antisymm→zg,lt_irrefl→Cg,toNat_natCast→Fg,fmod_eq_emod_of_nonneg→Ng,add_zero→Xg,lt_of_lt_of_le→jh,sub_nonneg_of_le→Lh,le_of_eq→Di,le_refl→Hi,sub_add_cancel→Cj
open LE renaming le→Zc
open LT renaming lt→Od
open List renaming mem_cons_self→La,length_map→Qa,mem_map→Ra,range→Sa,mem_cons_of_mem→Wa,mem_cons→Za,getElem?_map→Ab,map_map→Eb,map_cons→Ib,getD_eq_getElem?_getD→Lb,mem_range→Nb,mem_singleton→Vb,getElem?_eq_getElem→Wb,mem_append→zc,map_append→Mc,mem_append_right→Nc,mem_append_left→Qc,rec→Rc,mem_map_of_mem→jd,length_range→qd,getElem?_eq_some_iff→ud,length_cons→xd,length_append→Dd,replicate→Nd,nodup_cons→Pd,foldl_cons→Qd,length_drop→Td,mem_filter→Xd,foldl_append→xe,map_take→Fe,take_add_one→Me,map_drop→Se,length_reverse→Ue,forall_mem_cons→Ve,append_assoc→We,nodup_append→Ze,take_length→bf,append_nil→ff,length_take→uf,find?_cons→vf,getElem?_range→xf,all_eq_true→zf,lookup_cons→Df,mem_of_getElem?→Ff,size_toArray→Kf,map_congr_left→Tf,not_mem_nil→Vf,any_eq_true→jg,range_succ→kg,flatMap_cons→ug,getElem_mem→Dg,cons_append→Hg,mem_of_mem_take→Ig,find?_eq_none→Kg,getElem_range→Og,sum_cons→Rg,take_of_length_le→Vg,forIn_nil→nh,mem_of_mem_drop→qh,length_nil→xh,nodup_nil→yh,getElem?_append_left→Hh,toArray→Ih,mem_flatMap→Kh,mem_of_find?_eq_some→Nh,mem_iff_getElem→Th,filter_cons→Uh,range'→Wh,any_eq_false→Xh,getElem?_take→ji,forIn_cons→qi,take_append_drop→Ci,ext_getElem→Ei,take_succ_cons→Li,any_cons→Ni,length→Ti,find?_append→Vi,drop_take→Xi,perm_append_comm→Yi,replicate_succ→fj,find?_some→gj,countP_cons→kj,drop_drop→qj,flatMap_append→Dj,drop_eq_getElem_cons→Jj,take_eq_take_min→Lj,foldl_nil→Mj,getElem?_drop→Sj,drop_eq_nil_of_le→Uj,getElem?_eq_none→ak,find?_range_eq_some→nk,length_flatMap→Dk,takeWhile_cons→Ek,length_filter_le→Gk,length_pos_of_mem→Ik
open List.cons renaming injEq→Qe
open Nat renaming le_trans→Na,le_refl→zb,le_of_ble_eq_true→Mb,lt_of_lt_of_le→Dc,lt_of_le_of_lt→Fc,beq→Oc,lt_irrefl→Pc,le_add_right→Tc,zero_le→Uc,le_of_lt→Xc,blt→zd,sub→Cd,ne_of_lt→se,succ_pos→Ae,add_sub_of_le→Ce,succ→Je,add→Cf,ble→Mf,le_succ→Of,not_lt→Sf,eq_of_beq_eq_true→vg,lt_of_lt_of_eq→Jg,le_add_right_of_le→Mg,le_antisymm→Tg,lt_succ_of_lt→kh,zero_add→mh,min_le_left→ph,le_of_eq→zh,succ_ne_self→Bh,le_succ_of_le→Gh,min_eq_left→Oh,lt_succ_self→Ph,add_comm→Sh,le_of_not_lt→Fi,pow_succ→Mi,le_of_lt_succ→Oi,add_lt_of_lt_sub'→Ui,succ_le_succ→Wi,succ_add_eq_add_succ→aj,sub_one_sub_lt_of_lt→yj,ne_add_one→zj,min_le_right→Aj,add_lt_add_right→Ej,lt_succ_of_le→Hj,max_eq_right→Pj,add_sub_self_left→Tj,lt_of_add_right_lt→jk,pow_le_pow_right→qk,le_sub_of_add_le'→wk,lt_of_succ_lt_succ→Ck
open Ne renaming symm→Bf
open Option renaming map_eq_some_iff→fc,getD_some→Nf,isSome_iff_exists→Zf,bind_some→cj,map_eq_none_iff→Rj
open Option.some renaming inj→Oe
open PUnit renaming unit→Qh
open PyProof.Rows renaming Call_Name→Ke,Subscript_→xg,slot_tupleiter_next→Vh,callWith_builtin1→Fj
open PySem renaming Addr→ia,Value→qa,Shared→za,Expr→Ba,wpAny_bind→Ca,wpAny→Ia,Heap→Ja,wpAny_pure→Ka,World→Oa,wpAny_mono→Pa,Stmt→Va,Around→Xa,sizeLine→Bb,callEnvC→Cb,Builtin→Ob,starEach→Rb,codeAny→wc,call→Ic,wpAny_holding→Jc,wpAny_execs_cons→Kc,Scope→Lc,FuncData→Vc,pyNext→Ad,wpAny_standAt→Ed,Program→Fd,wpAny_of_eq→Kd,wpAny_newObj_type→Ld,strValues→Wd,Result→Yd,NameKind→Zd,wpAny_call→sf,builtinLookup_eq_fast→Ef,mem_of_lookup→Jf,typeLookup_type→Lf,letOwnedTupleGo→Bg,isSubtype_type→Pg,Call_method1→Ug,wpAny_call_entry→Yg,wpAny_seqItems→Zg,wpAny_rule→fh,callWith_function_kw→uh,wpAny_Assign_Name→vh,slot_list_getitem→Ah,IsRangeIter→Dh,wpAny_updateSeq→Eh,wpAny_tryCatch→Jh,wpAny_pyIter_list→Rh,codeAny_builtin→Zh,wpAny_truthy_bool→gi,entryFor_of_tree→ni,setItem→Gi,plainId_quiet→Ri,wpAny_comprehension_free→jj,wpAny_getItem_list→xj,wpAny_isInstance→Qj,codeAny_compStart_list→Vj,wpAny_callSpecial?_slot→Wj,wpAny_getItem_list_slice→Bk
open PySem.Around renaming under_plainId→Nj
open PySem.BindsTo renaming of_eq→je,of_defaults→Ai
open PySem.Builtin.Str renaming occurrences→Gg
open PySem.Calls renaming spliced_cons→Le,spliced_nil→bg,evalArgs_plain→Ji
open PySem.Challenge renaming pw_wv0065_01→Qg,rw_wv0065_01→gk
open PySem.F renaming plain_max_loop→Sg,slot_int_rmul→Zi,plainAttrs_dict→mj,slot_list_append→nj,plainAttrs_list→Oj,entry_max_loop→bk
open PySem.Heap renaming lt_size→Ub,get?_push_size→Zb,get?_push_of_some→qc,size_push→Yc,SameBut→ve,dictOf_iff→Pe,get?_update_self→lg,get?_update_other→Ak
open PySem.Heap.SameBut renaming update→Pf
open PySem.NameKind renaming cell→ze,free→Ie
open PySem.Obj renaming putName_eq→Eg,putNameByArray→Lg
open PySem.PyData renaming int→Xb,eqv→jc,canLay0→yd,eqvAll→Jd,str→ie,depthAll→we,canLayAll0→Xe,depth→Qf
open PySem.Str renaming ofString→ya
open PySem.Txt renaming lower→Jb,join→Gf,split→pg
open PySem.Value renaming type→Te
open PySem.W renaming Looks→Bc,codeRec_of→Wc,SharedT→Ud
open PySem.W.Fast renaming tw1435165496053646825→wh,tw4202317264376624991→Xj,te10156331382660048174→Jk,tw11892475500146522536→Lk,tw10156331382660048174→Mk,te11892475500146522536→Nk
open PySem.Walks renaming list→ng
open _root_ renaming List→aa,autoParam→Aa,Bool→Ga,Option→Ma,Array→Ua,String→Yb,False→gc,congrArg→Cc,DecidableEq→Ec,beq_iff_eq→Vd,decide_eq_decide→yf,decide_eq_true_eq→Hf,or_false→Rf,of_decide_eq_true→Xf,decide_eq_true_iff→gg,of_decide_eq_false→qg,if_false→yg,decide_eq_false→Wg,ne_true_of_eq_false→Yj,beq_eq_false_iff_ne→Zj
namespace Mine
@[reducible] def aT (k:Lean.SyntaxNodeKind) (w:Yb):Lean.Syntax:=.node .none `Lean.Parser.Tactic.tacticSeq #[.node .none `Lean.Parser.Tactic.tacticSeq1Indented #[.node .none `null #[.node .none k #[.atom .none w]]]]
@[reducible] def aR:Lean.Syntax:=aT `Lean.Parser.Tactic.tacticRfl "rfl"
@[reducible] def aK:Lean.Syntax:=aT `tacticKernel_rfl "kernel_rfl"
noncomputable abbrev Pl:=aa Int
noncomputable def fL(f:Nat→Int):Pl→Nat→Int:=@Rc Int (λz_=>Nat→Int) (λz_=>0) (λa z_ ih n=>a*f n+ih (n+1))
noncomputable def pad:Pl→Pl→Pl:=@Rc Int (λz_=>Pl→Pl) (λq=>q) (λa p ih q=>@Rc Int (λz_=>Pl) (a::p) (λb t z_=>(a+b)::ih t) q)
noncomputable def HR(c:Int)(p:Pl):Pl:=p.map (c* ·)
noncomputable def tV(q p:Pl):Pl:=pad q (HR (-1) p)
theorem jC(f:Nat→Int)(p:Pl):∀(q:Pl) (n:Nat),fL f (pad p q) n=fL f p n+fL f q n:=by
 induction p with
 |nil=>exactλq n=>(Int.zero_add _).symm
 |cons a p ih=>
  intro q n
  cases q with
  |nil=>exact(Xg _).symm
  |cons b q=>
   show(a+b)*f n+fL f (pad p q) (n+1)=a*f n+fL f p (n+1)+(b*f n+fL f q (n+1))
   rw[ih,Int.add_mul];omega
theorem gz(f:Nat→Int)(c:Int)(p:Pl):∀(n:Nat),fL f (HR c p) n=c*fL f p n:=by
 induction p with
 |nil=>exactλn=>(Int.mul_zero c).symm
 |cons a p ih=>exactλn=>(Cc (c*a*f n+ ·) (ih (n+1))).trans ((Cc (· +c*fL f p (n+1)) (Int.mul_assoc ..)).trans (Int.mul_add ..).symm)
theorem fz(f:Nat→Int)(q p:Pl)(n:Nat):fL f (tV q p) n=fL f q n-fL f p n:=by
 unfold tV;rw[jC,gz,Int.neg_one_mul,Int.sub_eq_add_neg]
noncomputable def BB(f:Nat→Int)(cs:aa Pl):Prop:=∀p∈cs,0≤fL f p 0
theorem BB.cons{f:Nat→Int}{cs:aa Pl}{p:Pl}(h:BB f cs)(e:0≤fL f p 0):BB f (p::cs):=λq hq=>(Za.mp hq).elim (λx=>x▸e) (h q)
noncomputable def xu:Int→Ga:=@Int.rec (λz_=>Ga) (λn=>@Nat.rec (λz_=>Ga) false (λz_ z_=>true) n) (λz_=>false)
noncomputable def isNeg:Int→Ga:=@Int.rec (λz_=>Ga) (λz_=>false) (λz_=>true)
theorem E9:∀{x:Int},xu x=true→0<x
 |.ofNat (n+1),_=>pe.mpr (Ae n)
 |.ofNat 0,h=>Mh h
 |.negSucc _,h=>Mh h
theorem xr:∀{x:Int},isNeg x=true→x<0
 |.ofNat _,h=>Mh h
 |.negSucc n,_=>Int.negSucc_lt_zero n
noncomputable def Rl:Pl→Ga:=@Rc Int (λz_=>Ga) true (λa z_ ih=> !xu a&& !isNeg a&&ih)
theorem LL{x:Int}(h:(!xu x&& !isNeg x)=true):x=0:=by
 cases x with
 |ofNat n=>cases n with
  |zero=>rfl
  |succ n=>exact Mh h
 |negSucc n=>exact Mh h
theorem Ip(f:Nat→Int)(p:Pl):Rl p=true→∀n,fL f p n=0:=by
 induction p with
 |nil=>exactλz_ z_=>rfl
 |cons a p ih=>
  intro h n
  have h:=Ge.mp h
  show a*f n+fL f p (n+1)=0
  rw[LL h.1,ih h.2,Int.zero_mul,Xg]
noncomputable def bad:Pl→Ga:=@Rc Int (λz_=>Ga) false (λa p z_=>isNeg a&&Rl p)
theorem OJ{f:Nat→Int}(f0:f 0=1){p:Pl}(h:bad p=true):fL f p 0<0:=by
 cases p with
 |nil=>exact Mh h
 |cons a p=>
  have h:=Ge.mp h
  show a*f 0+fL f p 1<0
  rw[Ip f p h.2,f0,Int.mul_one,Xg]
  exact xr h.1
noncomputable def cf(i:Nat)(p:Pl):Int:=p.getD i 0
noncomputable def xP:Pl→Nat:=@Rc Int (λz_=>Nat) 0 (λa z_ ih=>Nat.gcd a.natAbs ih)
noncomputable def tig(p:Pl):Pl:=match p with
 |[]=>[]
 |a::t=>match Mf 2 (xP t)with
  |false=>a::t
  |true=>a/(xP t:Int)::t.map (· /(xP t:Int))
theorem Ky(f:Nat→Int)(g:Int)(t:Pl):(∀a∈t,g∣a)→∀n,fL f t n=g*fL f (t.map (· /g)) n:=by
 induction t with
 |nil=>exactλz_ z_=>(Int.mul_zero g).symm
 |cons a t ih=>
  intro h n
  show a*f n+fL f t (n+1)=g*(a/g*f n+fL f (t.map (· /g)) (n+1))
  rw[ih (λb hb=>h b (.tail _ hb)),Int.mul_add,←Int.mul_assoc,Int.mul_ediv_cancel' (h a (.head _))]
theorem F7(t:Pl):∀a∈t,(xP t:Int)∣a:=by
 induction t with
 |nil=>exactλz_ h=>nomatch h
 |cons b t ih=>
  intro a h
  rcases Za.mp h with rfl|h
  ·exact Int.ofNat_dvd_left.mpr (Nat.gcd_dvd_left _ _)
  ·exact Int.dvd_trans (Int.ofNat_dvd.mpr (Nat.gcd_dvd_right _ _)) (ih a h)
theorem G6{f:Nat→Int}(f0:f 0=1){p:Pl}(h:0≤fL f p 0):0≤fL f (tig p) 0:=by
 cases p with
 |nil=>exact h
 |cons a t=>
  unfold tig
  dsimp only
  cases hb:Mf 2 (xP t)with
  |false=>exact h
  |true=>
   have hg:(0:Int)<(xP t:Int):=pe.mpr (Dc (Ae 1) (Mb hb))
   have h:0≤a*f 0+fL f t 1:=h
   show 0≤a/(xP t:Int)*f 0+fL f (t.map (· /(xP t:Int))) 1
   rw[f0,Int.mul_one]at h⊢
   rw[Ky f _ t (F7 t)]at h
   rw[←Int.add_mul_ediv_left _ _ (Int.ne_of_gt hg)]
   exact Int.ediv_nonneg h (gf hg)
noncomputable def fm:Nat→Nat→aa Pl→Ga:=@Nat.rec (λz_=>Nat→aa Pl→Ga) (λz_ cs=>cs.any bad) λz_ ih i cs=>
 cs.any bad||ih (i+1) ((cs.filter λp=> !xu (cf i p) && !isNeg (cf i p))++(cs.filter λp=>xu (cf i p)).flatMap λp=>(cs.filter λq=>isNeg (cf i q)).map λq=>tig (pad (HR (-cf i q) p) (HR (cf i p) q)))
theorem DH{f:Nat→Int}(f0:f 0=1){cs:aa Pl}(h:BB f cs)(e:cs.any bad=true):gc:=
 let⟨p,hp,hb⟩:=jg.mp e
 absurd (h p hp) (Int.not_le.mpr (OJ f0 hb))
theorem EA{f:Nat→Int}(f0:f 0=1)(n:Nat):∀(i:Nat) (cs:aa Pl),BB f cs→fm n i cs=true→gc:=by
 induction n with
 |zero=>exactλi cs h e=>DH f0 h e
 |succ n ih=>
  intro i cs h e
  rcases Ga.or_eq_true_iff.mp e with e|e
  ·exact DH f0 h e
  ·refine ih _ _ (λp hp=> ?_) e
   rcases zc.mp hp with hp|hp
   ·exact h p (Xd.mp hp).1
   ·obtain⟨q,hq,hp⟩:=Kh.mp hp
    obtain⟨r,hr,rfl⟩:=Ra.mp hp
    have hq:=Xd.mp hq
    have hr:=Xd.mp hr
    refine G6 f0 ?_
    rw[jC,gz,gz]
    exact Int.add_nonneg (Int.mul_nonneg (Int.neg_nonneg_of_nonpos (gf (xr hr.2))) (h q hq.1)) (Int.mul_nonneg (gf (E9 hq.2)) (h r hr.1))
inductive T|v(i:Nat)|k(n:Nat)|a(x y:T)|s(x y:T)|m(x y:T)|n(x y:T)|x(x y:T)|t(x:T)|g(x:T)
noncomputable def td(c:aa Nat)(z:aa Int):T→Nat×Int
 |.v i=>(c.getD i 0,z.getD i 0)
 |.k j=>(j,j)
 |.a x y=>((td c z x).1+(td c z y).1,(td c z x).2+(td c z y).2)
 |.s x y=>((td c z x).1-(td c z y).1,(td c z x).2-(td c z y).2)
 |.m x y=>((td c z x).1*(td c z y).1,(td c z x).2*(td c z y).2)
 |.n x y=>(min (td c z x).1 (td c z y).1,min (td c z x).2 (td c z y).2)
 |.x x y=>(max (td c z x).1 (td c z y).1,max (td c z x).2 (td c z y).2)
 |.t x=>((td c z x).2.toNat,((td c z x).1:Int))
 |.g x=>((td c z x).2.natAbs,-(td c z x).2)
noncomputable def vl(b:Ga)(d:Nat×Int):Int:=match b with|true=>(d.1:Int)|false=>d.2
noncomputable def QD(i:Nat):Pl:=Nd i 0++[1]
noncomputable abbrev Kt:=aa Pl→Pl→Ga
noncomputable def ln:T→Ga→Kt→aa Pl→Ga
 |.v i,true,k,cs=>k (QD (2*i+1)::cs) (QD (2*i+1))
 |.v i,false,k,cs=>k cs (QD (2*i+2))
 |.k n,_,k,cs=>k cs [(n:Int)]
 |.a x y,b,k,cs=>ln x b (λcs p=>ln y b (λcs q=>k cs (pad p q)) cs) cs
 |.s x y,true,k,cs=>ln x true (λcs p=>ln y true (λcs q=>k (tV p q::cs) (tV p q) &&k (pad [-1] (tV q p)::cs) []) cs) cs
 |.s x y,false,k,cs=>ln x false (λcs p=>ln y false (λcs q=>k cs (tV p q)) cs) cs
 |.m x y,b,k,cs=>ln x b (λcs p=>ln y b (λcs q=>match p with
  |[c]=>k cs (HR c q)
  |_=>match q with
   |[c]=>k cs (HR c p)
   |_=>false) cs) cs
 |.n x y,b,k,cs=>ln x b (λcs p=>ln y b (λcs q=>k (tV q p::cs) p&&k (tV p q::cs) q) cs) cs
 |.x x y,b,k,cs=>ln x b (λcs p=>ln y b (λcs q=>k (tV q p::cs) q&&k (tV p q::cs) p) cs) cs
 |.t x,true,k,cs=>ln x false (λcs p=>k (p::cs) p&&k (pad [-1] (HR (-1) p)::cs) []) cs
 |.t x,false,k,cs=>ln x true k cs
 |.g x,true,k,cs=>ln x false (λcs p=>k (p::cs) p&&k (HR (-1) p::cs) (HR (-1) p)) cs
 |.g x,false,k,cs=>ln x false (λcs p=>k cs (HR (-1) p)) cs
noncomputable def cH(c:aa Nat)(z:aa Int)(n:Nat):Int:=match n with
 |0=>1
 |n+1=>match n%2 with
  |0=>(c.getD (n/2) 0:Nat)
  |_=>z.getD (n/2) 0
theorem AW(f:Nat→Int)(i:Nat):∀n,fL f (QD i) n=f (n+i):=by
 induction i with
 |zero=>exactλn=>(Xg _).trans (Int.one_mul _)
 |succ i ih=>
  intro n
  show 0*f n+fL f (QD i) (n+1)=_
  rw[ih,Int.zero_mul,Int.zero_add,Nat.add_assoc,Sh 1]
theorem NF(c:aa Nat)(z:aa Int)(i:Nat):fL (cH c z) (QD (2*i+1)) 0=(c.getD i 0:Nat):=by
 rw[AW,mh];unfold cH;dsimp only;rw[Nat.mul_mod_right,Nat.mul_div_cancel_left _ (Ae 1)];rfl
theorem YC(c:aa Nat)(z:aa Int)(i:Nat):fL (cH c z) (QD (2*i+2)) 0=z.getD i 0:=by
 rw[AW,mh];unfold cH;dsimp only
 rw[show(2*i+1) %2=1 by rw[Sh,Nat.add_mul_mod_self_left],show(2*i+1)/2=i by rw[Sh,Nat.add_mul_div_left _ _ (Ae 1)];exact mh _];rfl
section
variable{c:aa Nat}{z:aa Int}
theorem N9(f:Nat→Int)(f0:f 0=1)(n:Int):fL f [n] 0=n:=by show n*f 0+0=n;rw[f0,Int.mul_one,Xg]
theorem N6(t:T):∀(b:Ga) (k:Kt) (cs:aa Pl),ln t b k cs=true→BB (cH c z) cs→∃sq p,BB (cH c z) sq∧k sq p=true∧fL (cH c z) p 0=vl b (td c z t):=by
 have kk:=N9 (cH c z) rfl
 induction t with
 |v i=>exactλb k cs e h=>match b with
  |true=>⟨_,_,h.cons ((NF c z i).symm▸Fb _),e,NF c z i⟩
  |false=>⟨_,_,h,e,YC c z i⟩
 |k n=>exactλb k cs e h=>match b with
  |true=>⟨_,_,h,e,kk _⟩
  |false=>⟨_,_,h,e,kk _⟩
 |a x y ix iy=>
  intro b k cs e h
  obtain⟨cs,p,h,e,hp⟩:=ix _ _ _ e h
  obtain⟨cs,q,h,e,hq⟩:=iy _ _ _ e h
  refine⟨_,_,h,e,?_⟩
  rw[jC,hp,hq]
  cases b<;> rfl
 |s x y ix iy=>
  intro b k cs e h
  cases b with
  |true=>
   obtain⟨cs,p,h,e,hp⟩:=ix _ _ _ e h
   obtain⟨cs,q,h,e,hq⟩:=iy _ _ _ e h
   have e:=Ge.mp e
   have hp:fL (cH c z) p 0=((td c z x).1:Int):=hp
   have hq:fL (cH c z) q 0=((td c z y).1:Int):=hq
   have k1:=kk (-1)
   rcases Nat.lt_or_ge (td c z x).1 (td c z y).1 with g|g
   ·refine⟨_,_,h.cons ?_,e.2,?_⟩
    ·rw[jC,fz,hp,hq,k1];omega
    ·show(0:Int)=(((td c z x).1-(td c z y).1:Nat):Int);omega
   ·refine⟨_,_,h.cons ?_,e.1,?_⟩
    ·rw[fz,hp,hq];omega
    ·rw[fz,hp,hq];exact(Int.ofNat_sub g).symm
  |false=>
   obtain⟨cs,p,h,e,hp⟩:=ix _ _ _ e h
   obtain⟨cs,q,h,e,hq⟩:=iy _ _ _ e h
   refine⟨_,_,h,e,?_⟩
   rw[fz,hp,hq];rfl
 |m x y ix iy=>
  intro b k cs e h
  obtain⟨cs,p,h,e,hp⟩:=ix _ _ _ e h
  obtain⟨cs,q,h,e,hq⟩:=iy _ _ _ e h
  have hm:vl b (td c z (T.m x y))=fL (cH c z) p 0*fL (cH c z) q 0:=by
   rw[hp,hq];cases b<;> first|rfl|exact Int.natCast_mul _ _
  rw[hm]
  split at e
  ·exact⟨_,_,h,e,by rw[gz,kk]⟩
  ·split at e
   ·exact⟨_,_,h,e,by rw[gz,kk,Int.mul_comm]⟩
   ·cases e
 |n x y ix iy=>
  intro b k cs e h
  obtain⟨cs,p,h,e,hp⟩:=ix _ _ _ e h
  obtain⟨cs,q,h,e,hq⟩:=iy _ _ _ e h
  have e:=Ge.mp e
  have hm:vl b (td c z (T.n x y))=min (fL (cH c z) p 0) (fL (cH c z) q 0):=by
   rw[hp,hq]
   cases b with
   |true=>show((min (td c z x).1 (td c z y).1:Nat):Int)=min ((td c z x).1:Int) ((td c z y).1:Int);omega
   |false=>rfl
  rw[hm]
  rcases Int.le_total (fL (cH c z) p 0) (fL (cH c z) q 0)with g|g
  ·exact⟨_,_,h.cons (by rw[fz];exact Lh g),e.1,(Int.min_eq_left g).symm⟩
  ·exact⟨_,_,h.cons (by rw[fz];exact Lh g),e.2,(Int.min_eq_right g).symm⟩
 |x x y ix iy=>
  intro b k cs e h
  obtain⟨cs,p,h,e,hp⟩:=ix _ _ _ e h
  obtain⟨cs,q,h,e,hq⟩:=iy _ _ _ e h
  have e:=Ge.mp e
  have hm:vl b (td c z (T.x x y))=max (fL (cH c z) p 0) (fL (cH c z) q 0):=by
   rw[hp,hq]
   cases b with
   |true=>show((max (td c z x).1 (td c z y).1:Nat):Int)=max ((td c z x).1:Int) ((td c z y).1:Int);omega
   |false=>rfl
  rw[hm]
  rcases Int.le_total (fL (cH c z) p 0) (fL (cH c z) q 0)with g|g
  ·exact⟨_,_,h.cons (by rw[fz];exact Lh g),e.1,(Int.max_eq_right g).symm⟩
  ·exact⟨_,_,h.cons (by rw[fz];exact Lh g),e.2,(Int.max_eq_left g).symm⟩
 |t x ix=>
  intro b k cs e h
  cases b with
  |true=>
   obtain⟨cs,p,h,e,hp⟩:=ix _ _ _ e h
   have e:=Ge.mp e
   have hp:fL (cH c z) p 0=(td c z x).2:=hp
   have k1:=kk (-1)
   rcases Int.lt_or_le (td c z x).2 0 with g|g
   ·refine⟨_,_,h.cons ?_,e.2,?_⟩
    ·rw[jC,gz,hp,k1];omega
    ·show(0:Int)=((td c z x).2.toNat:Int);omega
   ·refine⟨_,_,h.cons (hp.symm▸g),e.1,?_⟩
    rw[hp];exact(Int.toNat_of_nonneg g).symm
  |false=>exact ix true k cs e h
 |g x ix=>
  intro b k cs e h
  cases b with
  |true=>
   obtain⟨cs,p,h,e,hp⟩:=ix _ _ _ e h
   have e:=Ge.mp e
   have hp:fL (cH c z) p 0=(td c z x).2:=hp
   rcases Int.le_total 0 (td c z x).2 with g|g
   ·refine⟨_,_,h.cons (hp.symm▸g),e.1,?_⟩
    rw[hp];exact(Int.natAbs_of_nonneg g).symm
   ·refine⟨_,_,h.cons ?_,e.2,?_⟩
    ·rw[gz,hp];omega
    ·rw[gz,hp];show _=((td c z x).2.natAbs:Int);omega
  |false=>
   obtain⟨cs,p,h,e,hp⟩:=ix _ _ _ e h
   refine⟨_,_,h,e,?_⟩
   rw[gz,hp,Int.neg_one_mul];rfl
inductive F|l(x y:T)|w(x y:T)|e(x y:T)|L(x y:T)|W(x y:T)|E(x y:T)|n(f:F)|a(f g:F)|o(f g:F)|i(f g:F)|q(f g:F)|f
noncomputable def fd(c:aa Nat)(z:aa Int):F→Prop
 |.l x y=>(td c z x).1≤(td c z y).1
 |.w x y=>(td c z x).1<(td c z y).1
 |.e x y=>(td c z x).1=(td c z y).1
 |.L x y=>(td c z x).2≤(td c z y).2
 |.W x y=>(td c z x).2<(td c z y).2
 |.E x y=>(td c z x).2=(td c z y).2
 |.n f=>¬fd c z f
 |.a f g=>fd c z f∧fd c z g
 |.o f g=>fd c z f∨fd c z g
 |.i f g=>fd c z f→fd c z g
 |.q f g=>fd c z f↔fd c z g
 |.f=>gc
noncomputable def rl(r:Nat)(b:Ga)(k:aa Pl→Ga)(cs:aa Pl)(p q:Pl):Ga:=match r,b with
 |0,true=>k (tV q p::cs)
 |0,false=>k (pad [-1] (tV p q)::cs)
 |1,true=>k (pad [-1] (tV q p)::cs)
 |1,false=>k (tV p q::cs)
 |_,true=>k (tV p q::tV q p::cs)
 |_,false=>k (pad [-1] (tV p q)::cs) &&k (pad [-1] (tV q p)::cs)
noncomputable def qw(r:Nat)(s:Ga)(x y:T)(b:Ga)(k:aa Pl→Ga)(cs:aa Pl):Ga:=ln x s (λcs p=>ln y s (λcs q=>rl r b k cs p q) cs) cs
noncomputable def rf:F→Ga→(aa Pl→Ga)→aa Pl→Ga
 |.l x y,b,k,cs=>qw 0 true x y b k cs
 |.w x y,b,k,cs=>qw 1 true x y b k cs
 |.e x y,b,k,cs=>qw 2 true x y b k cs
 |.L x y,b,k,cs=>qw 0 false x y b k cs
 |.W x y,b,k,cs=>qw 1 false x y b k cs
 |.E x y,b,k,cs=>qw 2 false x y b k cs
 |.n f,b,k,cs=>rf f (!b) k cs
 |.a f g,true,k,cs=>rf f true (rf g true k) cs
 |.a f g,false,k,cs=>rf f false k cs&&rf g false k cs
 |.o f g,true,k,cs=>rf f true k cs&&rf g true k cs
 |.o f g,false,k,cs=>rf f false (rf g false k) cs
 |.i f g,true,k,cs=>rf f false k cs&&rf g true k cs
 |.i f g,false,k,cs=>rf f true (rf g false k) cs
 |.q f g,true,k,cs=>rf f true (rf g true k) cs&&rf f false (rf g false k) cs
 |.q f g,false,k,cs=>rf f true (rf g false k) cs&&rf f false (rf g true k) cs
 |.f,true,_,_=>true
 |.f,false,k,cs=>k cs
noncomputable def Sd(b:Ga)(P:Prop):Prop:=match b with|true=>P|false=>¬P
noncomputable def rlD(r:Nat)(x y:Int):Prop:=match r with|0=>x≤y|1=>x<y|_=>x=y
theorem Z2{r:Nat}{b:Ga}{k:aa Pl→Ga}{cs:aa Pl}{p q:Pl}(e:rl r b k cs p q=true)(h:BB (cH c z) cs)(s:Sd b (rlD r (fL (cH c z) p 0) (fL (cH c z) q 0))):∃sq,BB (cH c z) sq∧k sq=true:=by
 have k1:=N9 (cH c z) rfl (-1)
 have a1:=fz (cH c z) p q 0
 have a2:=fz (cH c z) q p 0
 have a3:=jC (cH c z) [-1] (tV p q) 0
 have a4:=jC (cH c z) [-1] (tV q p) 0
 match r,b,e,s with
 |0,true,e,s=>exact⟨_,h.cons (by rw[a2];exact Lh s),e⟩
 |0,false,e,s=>
  have s:=Int.not_le.mp s
  exact⟨_,h.cons (by omega),e⟩
 |1,true,e,s=>
  have s:fL (cH c z) p 0<fL (cH c z) q 0:=s
  exact⟨_,h.cons (by omega),e⟩
 |1,false,e,s=>
  have s:=ig.mp s
  exact⟨_,h.cons (by omega),e⟩
 |_+2,true,e,s=>
  have s:fL (cH c z) p 0=fL (cH c z) q 0:=s
  exact⟨_,(h.cons (by omega)).cons (by omega),e⟩
 |_+2,false,e,s=>
  have e:=Ge.mp e
  rcases Int.lt_or_gt_of_ne s with g|g
  ·exact⟨_,h.cons (by omega),e.2⟩
  ·exact⟨_,h.cons (by omega),e.1⟩
theorem nu{r:Nat}{s b:Ga}{x y:T}{k:aa Pl→Ga}{cs:aa Pl}(e:qw r s x y b k cs=true)(h:BB (cH c z) cs)(d:Sd b (rlD r (vl s (td c z x)) (vl s (td c z y)))):∃sq,BB (cH c z) sq∧k sq=true:=by
 obtain⟨cs,p,h,e,hp⟩:=N6 x _ _ _ e h
 obtain⟨cs,q,h,e,hq⟩:=N6 y _ _ _ e h
 exact Z2 e h (by rw[hp,hq];exact d)
theorem Sd.imp{b:Ga}{P Q:Prop}(h:P↔Q):Sd b P→Sd b Q:=match b with|true=>h.mp|false=>λn q=>n (h.mpr q)
theorem Z0(f:F):∀(b:Ga) (k:aa Pl→Ga) (cs:aa Pl),rf f b k cs=true→BB (cH c z) cs→Sd b (fd c z f)→∃sq,BB (cH c z) sq∧k sq=true:=by
 induction f with
 |l x y=>exactλb k cs e h d=>nu e h (d.imp Gd.symm)
 |w x y=>exactλb k cs e h d=>nu e h (d.imp pe.symm)
 |e x y=>exactλb k cs e h d=>nu e h (d.imp Int.ofNat_inj.symm)
 |L x y=>exactλb k cs e h d=>nu e h d
 |W x y=>exactλb k cs e h d=>nu e h d
 |E x y=>exactλb k cs e h d=>nu e h d
 |n f i=>exactλb k cs e h d=>i _ k cs e h (match b with|true=>d|false=>Gj d)
 |a f g i j=>exactλb k cs e h d=>match b with
  |true=>let⟨_,h,e⟩:=i _ _ _ e h d.1;j _ _ _ e h d.2
  |false=>let e:=Ge.mp e;(Classical.em (fd c z f)).elim (λx=>j _ _ _ e.2 h λy=>d ⟨x,y⟩) λx=>i _ _ _ e.1 h x
 |o f g i j=>exactλb k cs e h d=>match b with
  |true=>let e:=Ge.mp e;Or.elim d (i _ _ _ e.1 h) (j _ _ _ e.2 h)
  |false=>let⟨_,h,e⟩:=i _ _ _ e h λx=>d (.inl x);j _ _ _ e h λx=>d (.inr x)
 |i f g i j=>exactλb k cs e h d=>match b with
  |true=>let e:=Ge.mp e;(Classical.em (fd c z f)).elim (λx=>j _ _ _ e.2 h (d x)) λx=>i _ _ _ e.1 h x
  |false=>let⟨_,h,e⟩:=i _ _ _ e h (Gj λx=>d λy=>(x y).elim);j _ _ _ e h λy=>d λz_=>y
 |q f g i j=>exactλb k cs e h d=>match b with
  |true=>let e:=Ge.mp e
   (Classical.em (fd c z f)).elim (λx=>let⟨_,h,e⟩:=i _ _ _ e.1 h x;j _ _ _ e h (d.mp x)) λx=>let⟨_,h,e⟩:=i _ _ _ e.2 h x;j _ _ _ e h λy=>x (d.mpr y)
  |false=>let e:=Ge.mp e
   (Classical.em (fd c z f)).elim (λx=>let⟨_,h,e⟩:=i _ _ _ e.1 h x;j _ _ _ e h λy=>d ⟨λz_=>y,λz_=>x⟩) λx=>let⟨_,h,e⟩:=i _ _ _ e.2 h x
    j _ _ _ e h (Gj λy=>d ⟨λa=>(x a).elim,λa=>(y a).elim⟩)
 |f=>exactλb k cs e h d=>match b with
  |true=>d.elim
  |false=>⟨_,h,e⟩
noncomputable def arc(f:F):Ga:=rf f false (λcs=>fm 20 1 (cs.map tig)) []
theorem ar(c:aa Nat)(z:aa Int)(f:F)(e:Aa (arc f=true) aK):fd c z f:=Gj λn=>
 let⟨_,h,e⟩:=Z0 (c:=c) (z:=z) f false _ [] e (λz_ h=>nomatch h) n
 EA rfl _ _ _ (λp hp=>let⟨_,hq,e⟩:=Ra.mp hp;e▸G6 rfl (h _ hq)) e
noncomputable def aq:T:=.v 0
noncomputable def au:T:=.v 1
noncomputable def aB:T:=.v 2
noncomputable def aP:T:=.v 3
noncomputable def cA:T:=.v 4
noncomputable def iK:T:=.v 5
noncomputable def vK:T:=.v 6
noncomputable def bJ:T:=.k 0
noncomputable def aE:T:=.k 1
noncomputable def lM:T:=.k 2
noncomputable def sH:T:=.k 3
noncomputable def gD:T:=.k 4
noncomputable def fM:T:=.k 7
noncomputable def fZ:T:=.k 100
noncomputable def bR:T:=.k 1000
noncomputable def aY:T:=.k 16777216
noncomputable def az:T:=.k 9223372036854775808
theorem aal:32≤124∧124<127:=ar [] [] (.a (.l (.k 32) (.k 124)) (.w (.k 124) (.k 127)))
theorem TZ{a:Int}:a+1-1-0=a:=ar [] [a] (.E (.s (.s (.a aq aE) aE) bJ) aq)
theorem aam{a:Int}:a=a+((0:Nat):Int):=ar [] [a] (.E aq (.a aq (.t bJ)))
theorem aan{a:Int}:0≤a→ -(2^63)≤a:=ar [] [a] (.i (.L bJ aq) (.L (.g az) aq))
theorem aao{a:Int}:0≤a→ -(2^62)≤a:=ar [] [a] (.i (.L bJ aq) (.L (.g (.k 4611686018427387904)) aq))
theorem OD{a:Int}:0≤a∧a<6→Pb a<6:=ar [] [a] (.i (.a (.L bJ aq) (.W aq (.k 6))) (.w (.t aq) (.k 6)))
theorem Iv{a:Int}:0≤a∧a<3→Pb a<3:=ar [] [a] (.i (.a (.L bJ aq) (.W aq sH)) (.w (.t aq) sH))
theorem aap{a:Int}:0≤a∧a<2→1-2*a=1∨1-2*a=(-1):=ar [] [a] (.i (.a (.L bJ aq) (.W aq lM)) (.o (.E (.s aE (.m lM aq)) aE) (.E (.s aE (.m lM aq)) (.g aE))))
theorem aaq{a:Int}:a=0∨a=1∨a=(-1)→Int.natAbs a<1000000:=ar [] [a] (.i (.o (.E aq bJ) (.o (.E aq aE) (.E aq (.g aE)))) (.w (.g aq) (.k 1000000)))
theorem WK{a:Int}:0≤a→0<a+1:=ar [] [a] (.i (.L bJ aq) (.W bJ (.a aq aE)))
theorem WU{a:Int}:a+1≤a→gc:=ar [] [a] (.i (.L (.a aq aE) aq) .f)
theorem aar{a:Int}:0≤a∧a<3→0≤a∧a<4:=ar [] [a] (.i (.a (.L bJ aq) (.W aq sH)) (.a (.L bJ aq) (.W aq gD)))
theorem aas{a:Int}:a=3→0≤a∧a<4:=ar [] [a] (.i (.E aq sH) (.a (.L bJ aq) (.W aq gD)))
theorem Xv{a:Int}:0≤a∧a<4→Pb a<4:=ar [] [a] (.i (.a (.L bJ aq) (.W aq gD)) (.w (.t aq) gD))
theorem XC{a:Int}:0≤a∧a<3→Pb a<4:=ar [] [a] (.i (.a (.L bJ aq) (.W aq sH)) (.w (.t aq) gD))
theorem X4{a:Int}:0≤a→a≤2^20→(-9223372036854775808)≤a∧a<9223372036854775808:=ar [] [a] (.i (.L bJ aq) (.i (.L aq (.k 1048576)) (.a (.L (.g az) aq) (.W aq az))))
theorem aat{a:Int}:0≤a→a<0→gc:=ar [] [a] (.i (.L bJ aq) (.i (.W aq bJ) .f))
theorem aau{a:Int}:0≤a→¬(a=0)→0≤a-1:=ar [] [a] (.i (.L bJ aq) (.i (.n (.E aq bJ)) (.L bJ (.s aq aE))))
theorem aav{a:Int}:0≤a→¬(a=0)→0<a:=ar [] [a] (.i (.L bJ aq) (.i (.n (.E aq bJ)) (.W bJ aq)))
theorem X5{a b:Int}:a-1-(b-1)=a+1-1-b:=ar [] [a,b] (.E (.s (.s aq aE) (.s au aE)) (.s (.s (.a aq aE) aE) au))
theorem X6{a b:Int}:a+1-1-(b+1)=a-1-b:=ar [] [a,b] (.E (.s (.s (.a aq aE) aE) (.a au aE)) (.s (.s aq aE) au))
theorem X7{a b:Int}:a-b+1+b-1=a:=ar [] [a,b] (.E (.s (.a (.a (.s aq au) aE) au) aE) aq)
theorem X8{a b:Int}:a+(b-1)=a-1+b:=ar [] [a,b] (.E (.a aq (.s au aE)) (.a (.s aq aE) au))
theorem aaw{a b:Int}:b<a→¬(a≤b):=ar [] [a,b] (.i (.W au aq) (.n (.L aq au)))
theorem Yk{a b:Int}:a<b+1→a-1<b:=ar [] [a,b] (.i (.W aq (.a au aE)) (.W (.s aq aE) au))
theorem Yl{a b:Int}:b<a→0≤a-1-b:=ar [] [a,b] (.i (.W au aq) (.L bJ (.s (.s aq aE) au)))
theorem Ym{a b:Int}:0≤b→a-1-b<a:=ar [] [a,b] (.i (.L bJ au) (.W (.s (.s aq aE) au) aq))
theorem Rn{a b:Int}:a≤b→a+((Pb (b-a):Nat):Int)=b:=ar [] [a,b] (.i (.L aq au) (.E (.a aq (.t (.t (.s au aq)))) au))
theorem Ro{a b:Int}:¬(b<a)→b≤a→a=b:=ar [] [a,b] (.i (.n (.W au aq)) (.i (.L au aq) (.E aq au)))
theorem oz{a b:Int}:0≤b→b<a→0≤a-1:=ar [] [a,b] (.i (.L bJ au) (.i (.W au aq) (.L bJ (.s aq aE))))
theorem LS{a b:Int}:¬(b=a)→¬(b<a)→a<b:=ar [] [a,b] (.i (.n (.E au aq)) (.i (.n (.W au aq)) (.W aq au)))
theorem LU{a b:Int}:¬(a=b)→¬(b<a)→a<b:=ar [] [a,b] (.i (.n (.E aq au)) (.i (.n (.W au aq)) (.W aq au)))
theorem LV{a b:Int}:0<a-b→b=a→gc:=ar [] [a,b] (.i (.W bJ (.s aq au)) (.i (.E au aq) .f))
theorem Rq{a b:Int}:a≤b→¬(a=b)→a≤b-1:=ar [] [a,b] (.i (.L aq au) (.i (.n (.E aq au)) (.L aq (.s au aE))))
theorem Rr{a b:Int}:0≤b→b≤a→a=((Pb a:Nat):Int):=ar [] [a,b] (.i (.L bJ au) (.i (.L au aq) (.E aq (.t (.t aq)))))
theorem Rt{a b:Int}:a<b+1→¬(a=b)→a<b:=ar [] [a,b] (.i (.W aq (.a au aE)) (.i (.n (.E aq au)) (.W aq au)))
theorem Ru{a b:Int}:¬(a<b)→¬(b<a)→a=b:=ar [] [a,b] (.i (.n (.W aq au)) (.i (.n (.W au aq)) (.E aq au)))
theorem Rv{a b:Int}:0≤a→a≤b→b≤((0:Nat):Int)→a=b:=ar [] [a,b] (.i (.L bJ aq) (.i (.L aq au) (.i (.L au (.t bJ)) (.E aq au))))
theorem Rw{a b:Int}:0≤a∧a<4→0≤b∧b<4→Pb a=Pb b→a=b:=ar [] [a,b] (.i (.a (.L bJ aq) (.W aq gD)) (.i (.a (.L bJ au) (.W au gD)) (.i (.e (.t aq) (.t au)) (.E aq au))))
theorem Rx{a b:Int}:0≤a∧a<3→0≤b∧b<3→Pb a=Pb b→a=b:=ar [] [a,b] (.i (.a (.L bJ aq) (.W aq sH)) (.i (.a (.L bJ au) (.W au sH)) (.i (.e (.t aq) (.t au)) (.E aq au))))
theorem Ry{a b:Int}:0≤a→0≤b→Pb a=Pb b→a=b:=ar [] [a,b] (.i (.L bJ aq) (.i (.L bJ au) (.i (.e (.t aq) (.t au)) (.E aq au))))
theorem LW{a b c:Int}:a+1-1-(b-1-c)=a-b+1+c:=ar [] [a,b,c] (.E (.s (.s (.a aq aE) aE) (.s (.s au aE) aB)) (.a (.a (.s aq au) aE) aB))
theorem LX{a b c:Int}:a+(b-1-c)=a+b-1-c:=ar [] [a,b,c] (.E (.a aq (.s (.s au aE) aB)) (.s (.s (.a aq au) aE) aB))
theorem LY{a b c:Int}:a≤b-c→a+1≤b+1-c:=ar [] [a,b,c] (.i (.L aq (.s au aB)) (.L (.a aq aE) (.s (.a au aE) aB)))
theorem LZ{a b c:Int}:a+1<b+1-c→a<b-c:=ar [] [a,b,c] (.i (.W (.a aq aE) (.s (.a au aE) aB)) (.W aq (.s au aB)))
theorem L2{a b c:Int}:c≤b+1-a→a≤b-c+1:=ar [] [a,b,c] (.i (.L aB (.s (.a au aE) aq)) (.L aq (.a (.s au aB) aE)))
theorem L3{a b c:Int}:c≤b→a≤b+a-c:=ar [] [a,b,c] (.i (.L aB au) (.L aq (.s (.a au aq) aB)))
theorem L4{a b c:Int}:a+b<c→a+(b+1)≤c:=ar [] [a,b,c] (.i (.W (.a aq au) aB) (.L (.a aq (.a au aE)) aB))
theorem Rz{a b c:Int}:b<a→c<b→min (min a b) c=c:=ar [] [a,b,c] (.i (.W au aq) (.i (.W aB au) (.E (.n (.n aq au) aB) aB)))
theorem RA{a b c:Int}:b<a→¬(c<b)→min (min a b) c=b:=ar [] [a,b,c] (.i (.W au aq) (.i (.n (.W aB au)) (.E (.n (.n aq au) aB) au)))
theorem RB{a b c:Int}:¬(b<a)→c<a→min (min a b) c=c:=ar [] [a,b,c] (.i (.n (.W au aq)) (.i (.W aB aq) (.E (.n (.n aq au) aB) aB)))
theorem RC{a b c:Int}:¬(b<a)→¬(c<a)→min (min a b) c=a:=ar [] [a,b,c] (.i (.n (.W au aq)) (.i (.n (.W aB aq)) (.E (.n (.n aq au) aB) aq)))
theorem RD{a b c:Int}:c<b→a≤c→a≤b:=ar [] [a,b,c] (.i (.W aB au) (.i (.L aq aB) (.L aq au)))
theorem RE{a b c:Int}:c≤a→0<b→a+b-c=((Pb (a+b-c):Nat):Int):=ar [] [a,b,c] (.i (.L aB aq) (.i (.W bJ au) (.E (.s (.a aq au) aB) (.t (.t (.s (.a aq au) aB))))))
theorem RG{a b c:Int}:a≤b→0<c→a≤b+c:=ar [] [a,b,c] (.i (.L aq au) (.i (.W bJ aB) (.L aq (.a au aB))))
theorem L5{a b c:Int}:a≤b→0<c→a≤b+c-1:=ar [] [a,b,c] (.i (.L aq au) (.i (.W bJ aB) (.L aq (.s (.a au aB) aE))))
theorem oB{a b c:Int}:0≤c→c≤a→0≤b→0≤a+b:=ar [] [a,b,c] (.i (.L bJ aB) (.i (.L aB aq) (.i (.L bJ au) (.L bJ (.a aq au)))))
theorem RH{a b c d:Int}:a+b+(c+d)=a+c+(b+d):=ar [] [a,b,c,d] (.E (.a (.a aq au) (.a aB aP)) (.a (.a aq aB) (.a au aP)))
theorem RI{a b c d:Int}:a=b→a≤b∧(a=b→0<b→c-b+1+b-1<c∨c-b+1+b-1=c∧d-b+1+b-1≤d):=ar [] [a,b,c,d] (.i (.E aq au) (.a (.L aq au) (.i (.E aq au) (.i (.W bJ au) (.o (.W (.s (.a (.a (.s aB au) aE) au) aE) aB) (.a (.E (.s (.a (.a (.s aB au) aE) au) aE) aB) (.L (.s (.a (.a (.s aP au) aE) au) aE) aP)))))))
theorem L6{a b c d:Int}:a<b∨a=b∧c<d+1→¬(a<b∨a=b∧c<d)→a=b∧c=d:=ar [] [a,b,c,d] (.i (.o (.W aq au) (.a (.E aq au) (.W aB (.a aP aE)))) (.i (.n (.o (.W aq au) (.a (.E aq au) (.W aB aP)))) (.a (.E aq au) (.E aB aP))))
theorem RJ{a b c d e:Int}:a+b-1<c∨a+b-1=c∧d+b-1<e→a+b-1<c∨a+b-1=c∧d+b-1<e+1:=ar [] [a,b,c,d,e] (.i (.o (.W (.s (.a aq au) aE) aB) (.a (.E (.s (.a aq au) aE) aB) (.W (.s (.a aP au) aE) cA))) (.o (.W (.s (.a aq au) aE) aB) (.a (.E (.s (.a aq au) aE) aB) (.W (.s (.a aP au) aE) (.a cA aE)))))
theorem RK{a b c d e:Int}:a+b-1<c∨a+b-1=c∧d+b-1<e→a+b-1<c∨a+b-1=c∧d+b-1≤e:=ar [] [a,b,c,d,e] (.i (.o (.W (.s (.a aq au) aE) aB) (.a (.E (.s (.a aq au) aE) aB) (.W (.s (.a aP au) aE) cA))) (.o (.W (.s (.a aq au) aE) aB) (.a (.E (.s (.a aq au) aE) aB) (.L (.s (.a aP au) aE) cA))))
theorem RL{a b c d e:Int}:a+b≤c∧d+b≤e→a-1+(b+1)≤c:=ar [] [a,b,c,d,e] (.i (.a (.L (.a aq au) aB) (.L (.a aP au) cA)) (.L (.a (.s aq aE) (.a au aE)) aB))
theorem RM{a b c d e:Int}:d+b≤e∧a+b≤c→a-1+(b+1)≤c:=ar [] [a,b,c,d,e] (.i (.a (.L (.a aP au) cA) (.L (.a aq au) aB)) (.L (.a (.s aq aE) (.a au aE)) aB))
theorem RN{a b c d e:Int}:a<b→c=0∧d=e∧b=a→gc:=ar [] [a,b,c,d,e] (.i (.W aq au) (.i (.a (.E aB bJ) (.a (.E aP cA) (.E au aq))) .f))
theorem RO{a b c d e f:Int}:(a≤b∧(a=b→d<c∨d=c∧f≤e))→a<b∨a=b∧(-c< -d∨ -c= -d∧ -e≤ -f):=ar [] [a,b,c,d,e,f] (.i (.a (.L aq au) (.i (.E aq au) (.o (.W aP aB) (.a (.E aP aB) (.L iK cA))))) (.o (.W aq au) (.a (.E aq au) (.o (.W (.g aB) (.g aP)) (.a (.E (.g aB) (.g aP)) (.L (.g cA) (.g iK)))))))
theorem RP{a b c d e f:Int}:e=f→a+f-1<b+e-1∨a+f-1=b+e-1∧c+f-1≤d+e-1→a<b∨a=b∧c≤d:=ar [] [a,b,c,d,e,f] (.i (.E cA iK) (.i (.o (.W (.s (.a aq iK) aE) (.s (.a au cA) aE)) (.a (.E (.s (.a aq iK) aE) (.s (.a au cA) aE)) (.L (.s (.a aB iK) aE) (.s (.a aP cA) aE)))) (.o (.W aq au) (.a (.E aq au) (.L aB aP)))))
theorem RQ{a b c d e f:Int}:f≤d+b-1→d+b-1<e→a+b-1<c∨a+b-1=c∧d+b-1<f→a+b≤c∧d+b≤e:=ar [] [a,b,c,d,e,f] (.i (.L iK (.s (.a aP au) aE)) (.i (.W (.s (.a aP au) aE) cA) (.i (.o (.W (.s (.a aq au) aE) aB) (.a (.E (.s (.a aq au) aE) aB) (.W (.s (.a aP au) aE) iK))) (.a (.L (.a aq au) aB) (.L (.a aP au) cA)))))
theorem RS{a b c d e f g:Int}:0<b→b=0∧a=f∧d=g→a+b-1<c∨a+b-1=c∧d+b-1≤e:=ar [] [a,b,c,d,e,f,g] (.i (.W bJ au) (.i (.a (.E au bJ) (.a (.E aq iK) (.E aP vK))) (.o (.W (.s (.a aq au) aE) aB) (.a (.E (.s (.a aq au) aE) aB) (.L (.s (.a aP au) aE) cA)))))
theorem RT{a b c d e f g:Int}:a≤c→(c≤b∧(c=b→0<b→d+b-1<e+a-1∨d+b-1=e+a-1∧f+b-1≤g+a-1))→a≤b:=ar [] [a,b,c,d,e,f,g] (.i (.L aq aB) (.i (.a (.L aB au) (.i (.E aB au) (.i (.W bJ au) (.o (.W (.s (.a aP au) aE) (.s (.a cA aq) aE)) (.a (.E (.s (.a aP au) aE) (.s (.a cA aq) aE)) (.L (.s (.a iK au) aE) (.s (.a vK aq) aE))))))) (.L aq au)))
theorem RU{a b c d e f g:Int}:f<a→g≤f→g=a→0<a→b-a+1+a-1<c∨b-a+1+a-1=c∧d-a+1+a-1≤e:=ar [] [a,b,c,d,e,f,g] (.i (.W iK aq) (.i (.L vK iK) (.i (.E vK aq) (.i (.W bJ aq) (.o (.W (.s (.a (.a (.s au aq) aE) aq) aE) aB) (.a (.E (.s (.a (.a (.s au aq) aE) aq) aE) aB) (.L (.s (.a (.a (.s aP aq) aE) aq) aE) cA)))))))
theorem RV{a b c d e f g:Int}:c≤a→(a≤b∧(a=b→0<b→d+b-1<e+c-1∨d+b-1=e+c-1∧f+b-1≤g+c-1))→c=b→a=b:=ar [] [a,b,c,d,e,f,g] (.i (.L aB aq) (.i (.a (.L aq au) (.i (.E aq au) (.i (.W bJ au) (.o (.W (.s (.a aP au) aE) (.s (.a cA aB) aE)) (.a (.E (.s (.a aP au) aE) (.s (.a cA aB) aE)) (.L (.s (.a iK au) aE) (.s (.a vK aB) aE))))))) (.i (.E aB au) (.E aq au))))
theorem RW{a b c d e f g:Int}:f≤c→g≤e→b=0∧a=f∧d=g→a+b≤c∧d+b≤e:=ar [] [a,b,c,d,e,f,g] (.i (.L iK aB) (.i (.L vK cA) (.i (.a (.E au bJ) (.a (.E aq iK) (.E aP vK))) (.a (.L (.a aq au) aB) (.L (.a aP au) cA)))))
theorem RX{a b c d e f g:Int}:f≤b→g≤d→a=0∧c=f∧e=g→0<a∨0=a∧(-b< -c∨ -b= -c∧ -d≤ -e):=ar [] [a,b,c,d,e,f,g] (.i (.L iK au) (.i (.L vK aP) (.i (.a (.E aq bJ) (.a (.E aB iK) (.E cA vK))) (.o (.W bJ aq) (.a (.E bJ aq) (.o (.W (.g au) (.g aB)) (.a (.E (.g au) (.g aB)) (.L (.g aP) (.g cA)))))))))
theorem RY{a b c d e f g h:Int}:g≤d→h≤f→d<g+((0:Nat):Int)∨d=g+((0:Nat):Int)∧f<h→a≤b∧(a=b→0<b→c+b-1<d∨c+b-1=d∧e+b-1≤f):=ar [] [a,b,c,d,e,f,g,h] (.i (.L vK aP) (.i (.L (.v 7) iK) (.i (.o (.W aP (.a vK (.t bJ))) (.a (.E aP (.a vK (.t bJ))) (.W iK (.v 7)))) (.a (.L aq au) (.i (.E aq au) (.i (.W bJ au) (.o (.W (.s (.a aB au) aE) aP) (.a (.E (.s (.a aB au) aE) aP) (.L (.s (.a cA au) aE) iK)))))))))
theorem RZ{a b c d:Int}{e:Nat}:a<b∨a=b∧c<max ((e:Nat):Int) d→a<b+1∨a=b+1∧c<d:=ar [e] [a,b,c,d] (.i (.o (.W aq au) (.a (.E aq au) (.W aB (.x (.t aq) aP)))) (.o (.W aq (.a au aE)) (.a (.E aq (.a au aE)) (.W aB aP))))
theorem R0{a b c:Int}{d:Nat}{e f:Int}:f=((d:Nat):Int)→e≤c→c<f→a<b+1∨a=b+1∧c<e→a<b∨a=b∧c<max ((d:Nat):Int) e:=ar [d] [a,b,c,e,f] (.i (.E cA (.t aq)) (.i (.L aP aB) (.i (.W aB cA) (.i (.o (.W aq (.a au aE)) (.a (.E aq (.a au aE)) (.W aB aP))) (.o (.W aq au) (.a (.E aq au) (.W aB (.x (.t aq) aP))))))))
theorem R1{a b:Int}{c:Nat}:a-b=((c+1:Nat):Int)→a-1-b=((c:Nat):Int):=ar [c] [a,b] (.i (.E (.s aq au) (.t (.a aq aE))) (.E (.s (.s aq aE) au) (.t aq)))
theorem L7{a b:Int}{c:Nat}:a≤b∧b<((c:Nat):Int)→a≤b∧b<((c+1:Nat):Int):=ar [c] [a,b] (.i (.a (.L aq au) (.W au (.t aq))) (.a (.L aq au) (.W au (.t (.a aq aE)))))
theorem L8{a b:Int}{c:Nat}:c<0→a=b:=ar [c] [a,b] (.i (.w aq bJ) (.E aq au))
theorem R3{a b:Int}{c:Nat}:0≤a∧a≤1000→0≤b∧b≤1000*((c:Nat):Int)→0≤a+b∧a+b≤1000*((c+1:Nat):Int):=ar [c] [a,b] (.i (.a (.L bJ aq) (.L aq bR)) (.i (.a (.L bJ au) (.L au (.m bR (.t aq)))) (.a (.L bJ (.a aq au)) (.L (.a aq au) (.m bR (.t (.a aq aE)))))))
theorem R4{a b:Int}{c:Nat}:¬(((c:Nat):Int)<a)→b=((c:Nat):Int)→a≤b∧b<((c+1:Nat):Int):=ar [c] [a,b] (.i (.n (.W (.t aq) aq)) (.i (.E au (.t aq)) (.a (.L aq au) (.W au (.t (.a aq aE))))))
theorem R5{a b:Int}{c:Nat}:c≤100→0≤b→a≤((c:Nat):Int)→Pb (a-b)≤16777216:=ar [c] [a,b] (.i (.l aq fZ) (.i (.L bJ au) (.i (.L aq (.t aq)) (.l (.t (.s aq au)) aY))))
theorem R6{a b:Int}{c:Nat}:0≤a∧a≤1000→0≤b∧b≤1000*((c:Nat):Int)→c≤1000→(-(2^63)≤a∧a<2^63)∧ -(2^63)≤b∧b<2^63:=ar [c] [a,b] (.i (.a (.L bJ aq) (.L aq bR)) (.i (.a (.L bJ au) (.L au (.m bR (.t aq)))) (.i (.l aq bR) (.a (.a (.L (.g az) aq) (.W aq az)) (.a (.L (.g az) au) (.W au az))))))
theorem Al{a b:Int}{c:Nat}{d:Int}:c≤100→d≤((c:Nat):Int)→a+b<d→a+b<2^63:=ar [c] [a,b,d] (.i (.l aq fZ) (.i (.L aB (.t aq)) (.i (.W (.a aq au) aB) (.W (.a aq au) az))))
theorem Ml{a b:Int}{c:Nat}{d e:Int}:0≤d→e≤((c:Nat):Int)→d≤a→0≤b→a+b<e→Pb (a+b)<c:=ar [c] [a,b,d,e] (.i (.L bJ aB) (.i (.L aP (.t aq)) (.i (.L aB aq) (.i (.L bJ au) (.i (.W (.a aq au) aP) (.w (.t (.a aq au)) aq))))))
theorem R7{a:Int}{b:Nat}:a+((b+1:Nat):Int)=a+((b:Nat):Int)+1:=ar [b] [a] (.E (.a aq (.t (.a aq aE))) (.a (.a aq (.t aq)) aE))
theorem Mm{a:Int}{b:Nat}:0≤a→0≤a+((b:Nat):Int):=ar [b] [a] (.i (.L bJ aq) (.L bJ (.a aq (.t aq))))
theorem R8{a:Int}{b:Nat}:a≤((b:Nat):Int)∧((b:Nat):Int)<((b:Nat):Int)→gc:=ar [b] [a] (.i (.a (.L aq (.t aq)) (.W (.t aq) (.t aq))) .f)
theorem R9{a:Int}{b:Nat}:a≤((b:Nat):Int)→a≤((b+1:Nat):Int):=ar [b] [a] (.i (.L aq (.t aq)) (.L aq (.t (.a aq aE))))
theorem Sk{a:Int}{b:Nat}:a-1=((b:Nat):Int)→a=((b:Nat):Int)+1:=ar [b] [a] (.i (.E (.s aq aE) (.t aq)) (.E aq (.a (.t aq) aE)))
theorem Mn{a:Int}{b:Nat}:a≤((b:Nat):Int)→Pb a≤b:=ar [b] [a] (.i (.L aq (.t aq)) (.l (.t aq) aq))
theorem Mp{a:Int}{b:Nat}:((b:Nat):Int)≤a→a=((Pb a:Nat):Int):=ar [b] [a] (.i (.L (.t aq) aq) (.E aq (.t (.t aq))))
theorem Sl{a:Int}{b:Nat}:0≤a→a<((b:Nat):Int)→Pb a<b:=ar [b] [a] (.i (.L bJ aq) (.i (.W aq (.t aq)) (.w (.t aq) aq)))
theorem Sm{a:Int}{b:Nat}:b≤100→a≤((b:Nat):Int)→a<2^62:=ar [b] [a] (.i (.l aq fZ) (.i (.L aq (.t aq)) (.W aq (.k 4611686018427387904))))
theorem So{a:Int}{b:Nat}:a≤((b+1:Nat):Int)→((b:Nat):Int)<a→a=((b:Nat):Int)+1:=ar [b] [a] (.i (.L aq (.t (.a aq aE))) (.i (.W (.t aq) aq) (.E aq (.a (.t aq) aE))))
theorem Sq{a:Int}{b:Nat}:a≤((b+1:Nat):Int)→¬(a≤((b:Nat):Int))→a=((b:Nat):Int)+1:=ar [b] [a] (.i (.L aq (.t (.a aq aE))) (.i (.n (.L aq (.t aq))) (.E aq (.a (.t aq) aE))))
theorem Ss{a:Int}{b:Nat}:a≤((b+1:Nat):Int)→¬(a-1=((b:Nat):Int))→a≤((b:Nat):Int):=ar [b] [a] (.i (.L aq (.t (.a aq aE))) (.i (.n (.E (.s aq aE) (.t aq))) (.L aq (.t aq))))
theorem Su{a:Int}{b:Nat}:((b:Nat):Int)≤a→Pb a≤b→a=((b:Nat):Int):=ar [b] [a] (.i (.L (.t aq) aq) (.i (.l (.t aq) aq) (.E aq (.t aq))))
theorem Am{a:Int}{b:Nat}{c d:Int}:c≤((b:Nat):Int)→0≤d→a+d≤c→a-1<((b:Nat):Int):=ar [b] [a,c,d] (.i (.L au (.t aq)) (.i (.L bJ aB) (.i (.L (.a aq aB) au) (.W (.s aq aE) (.t aq)))))
theorem An{a:Int}{b:Nat}{c d:Int}:b≤100→c≤((b:Nat):Int)→0≤d→a+d≤c→a-1<2^63:=ar [b] [a,c,d] (.i (.l aq fZ) (.i (.L au (.t aq)) (.i (.L bJ aB) (.i (.L (.a aq aB) au) (.W (.s aq aE) az)))))
theorem Mq{a:Int}{b:Nat}{c d e:Int}:0≤c→d≤((b:Nat):Int)→0≤e→a+e≤d→c<a→Pb (a-1)<b:=ar [b] [a,c,d,e] (.i (.L bJ au) (.i (.L aB (.t aq)) (.i (.L bJ aP) (.i (.L (.a aq aP) aB) (.i (.W au aq) (.w (.t (.s aq aE)) aq))))))
theorem Sv{a:Int}{b:Nat}{c:Int}{d:Nat}{e:Int}:0≤e→a+e≤((b:Nat):Int)→c+e≤((d:Nat):Int)→¬(e=0)→a<((b:Nat):Int)∧c<((d:Nat):Int):=ar [b,d] [a,c,e] (.i (.L bJ aB) (.i (.L (.a aq aB) (.t aq)) (.i (.L (.a au aB) (.t au)) (.i (.n (.E aB bJ)) (.a (.W aq (.t aq)) (.W au (.t au)))))))
theorem Mr{a:Int}{b c:Nat}:((c:Nat):Int)+a≤((b:Nat):Int)→Pb a≤b-c:=ar [b,c] [a] (.i (.L (.a (.t au) aq) (.t aq)) (.l (.t aq) (.s aq au)))
theorem Ms{a:Int}{b c:Nat}:c<b→a≤((c:Nat):Int)→a<((b:Nat):Int):=ar [b,c] [a] (.i (.w au aq) (.i (.L aq (.t au)) (.W aq (.t aq))))
theorem Sw{a:Int}{b c:Nat}:c≤b→0≤a→a<((c:Nat):Int)→Pb a<b:=ar [b,c] [a] (.i (.l au aq) (.i (.L bJ aq) (.i (.W aq (.t au)) (.w (.t aq) aq))))
theorem Sx{a:Int}{b c:Nat}{d:Int}:d≤((c:Nat):Int)→b<Pb (d-a)→a+((b:Nat):Int)<((c:Nat):Int):=ar [b,c] [a,d] (.i (.L au (.t au)) (.i (.w aq (.t (.s au aq))) (.W (.a aq (.t aq)) (.t au))))
theorem Sy{a:Int}{b c:Nat}{d:Int}:c≤100→d≤((c:Nat):Int)→b<Pb (d-a)→a+((b:Nat):Int)<2^62:=ar [b,c] [a,d] (.i (.l au fZ) (.i (.L au (.t au)) (.i (.w aq (.t (.s au aq))) (.W (.a aq (.t aq)) (.k 4611686018427387904)))))
theorem Mt{a:Nat}:¬(a+2=a):=ar [a] [] (.n (.e (.a aq lM) aq))
theorem Sz{a:Nat}:¬(a=a+2):=ar [a] [] (.n (.e aq (.a aq lM)))
theorem SA{a:Nat}:min ((a:Nat):Int) 60=((min a 60:Nat):Int):=ar [a] [] (.E (.n (.t aq) (.k 60)) (.t (.n aq (.k 60))))
theorem SD{a:Nat}:((1+a:Nat):Int) -1=((a:Nat):Int):=ar [a] [] (.E (.s (.t (.a aE aq)) aE) (.t aq))
theorem SE{a:Nat}:1+((a:Nat):Int)=((a:Nat):Int)+1:=ar [a] [] (.E (.a aE (.t aq)) (.a (.t aq) aE))
theorem Mu{a:Nat}:((a:Nat):Int)+1-1=((a:Nat):Int):=ar [a] [] (.E (.s (.a (.t aq) aE) aE) (.t aq))
theorem Mv{a:Nat}:8*(a+1)+5≤8*(a+1+1):=ar [a] [] (.l (.a (.m (.k 8) (.a aq aE)) (.k 5)) (.m (.k 8) (.a (.a aq aE) aE)))
theorem DI{a:Nat}:a+1<a→gc:=ar [a] [] (.i (.w (.a aq aE) aq) .f)
theorem SG{a:Nat}:a+1=a+2→gc:=ar [a] [] (.i (.e (.a aq aE) (.a aq lM)) .f)
theorem Mw{a:Nat}:a+1=a→gc:=ar [a] [] (.i (.e (.a aq aE) aq) .f)
theorem Mx{a:Nat}:32≤a∧a<127→a<128:=ar [a] [] (.i (.a (.l (.k 32) aq) (.w aq (.k 127))) (.w aq (.k 128)))
theorem SH{a:Nat}:a≤1000→¬(16777216<a):=ar [a] [] (.i (.l aq bR) (.n (.w aY aq)))
theorem SI{a:Nat}:32≤a∧a<127→a<1114112:=ar [a] [] (.i (.a (.l (.k 32) aq) (.w aq (.k 127))) (.w aq (.k 1114112)))
theorem SJ{a:Nat}:¬(((63:Nat):Int)<((a:Nat):Int))→a≤63:=ar [a] [] (.i (.n (.W (.t (.k 63)) (.t aq))) (.l aq (.k 63)))
theorem SK{a:Nat}:a≤7→a*4≤1000000:=ar [a] [] (.i (.l aq fM) (.l (.m aq gD) (.k 1000000)))
theorem SM{a:Nat}:a≤7→a+2≤1000:=ar [a] [] (.i (.l aq fM) (.l (.a aq lM) bR))
theorem SN{a:Nat}:a≤1→max 1 a≤1:=ar [a] [] (.i (.l aq aE) (.l (.x aE aq) aE))
theorem SO{a:Nat}:a=47→46≤a∧a<124:=ar [a] [] (.i (.e aq (.k 47)) (.a (.l (.k 46) aq) (.w aq (.k 124))))
theorem SP{a:Nat}:46≤a∧a<124∧¬(a=47)→46≤a∧a<124:=ar [a] [] (.i (.a (.l (.k 46) aq) (.a (.w aq (.k 124)) (.n (.e aq (.k 47))))) (.a (.l (.k 46) aq) (.w aq (.k 124))))
theorem DJ{a:Nat}:46≤a∧a<124→32≤a∧a<127:=ar [a] [] (.i (.a (.l (.k 46) aq) (.w aq (.k 124))) (.a (.l (.k 32) aq) (.w aq (.k 127))))
theorem SQ{a:Nat}:a<1→a=0:=ar [a] [] (.i (.w aq aE) (.e aq bJ))
theorem My{a:Nat}:a<3→a=0∨a=1∨a=2:=ar [a] [] (.i (.w aq sH) (.o (.e aq bJ) (.o (.e aq aE) (.e aq lM))))
theorem Mz{a:Nat}:a<6→a=0∨a=1∨a=2∨a=3∨a=4∨a=5:=ar [a] [] (.i (.w aq (.k 6)) (.o (.e aq bJ) (.o (.e aq aE) (.o (.e aq lM) (.o (.e aq sH) (.o (.e aq gD) (.e aq (.k 5))))))))
theorem SR{a:Nat}:a=13→¬(a=10):=ar [a] [] (.i (.e aq (.k 13)) (.n (.e aq (.k 10))))
theorem SS{a:Nat}:a=0→a+1+0≤16777216:=ar [a] [] (.i (.e aq bJ) (.l (.a (.a aq aE) bJ) aY))
theorem SV{a:Nat}:¬(a≤4)→a=4+(a-4):=ar [a] [] (.i (.n (.l aq gD)) (.e aq (.a gD (.s aq gD))))
theorem SW{a:Nat}:¬(4<a)→4=a+(4-a):=ar [a] [] (.i (.n (.w gD aq)) (.e gD (.a aq (.s gD aq))))
theorem SX{a:Nat}:4<a→a=4+(a-4):=ar [a] [] (.i (.w gD aq) (.e aq (.a gD (.s aq gD))))
theorem SY{a:Nat}:a≤1000→8*(a+1)≤2^60:=ar [a] [] (.i (.l aq bR) (.l (.m (.k 8) (.a aq aE)) (.k 1152921504606846976)))
theorem Tn{a:Nat}:a≤100000→min (Pb (2^63-1)) a=a:=ar [a] [] (.i (.l aq (.k 100000)) (.e (.n (.t (.s az aE)) aq) aq))
theorem To{a:Nat}:1≤a→¬(a<1):=ar [a] [] (.i (.l aE aq) (.n (.w aq aE)))
theorem Tp{a:Nat}:475<a→a=1→gc:=ar [a] [] (.i (.w (.k 475) aq) (.i (.e aq aE) .f))
theorem Tq{a:Nat}:5≤a→a≤7→a=4+1∨a=5+1∨a=6+1:=ar [a] [] (.i (.l (.k 5) aq) (.i (.l aq fM) (.o (.e aq (.a gD aE)) (.o (.e aq (.a (.k 5) aE)) (.e aq (.a (.k 6) aE))))))
theorem Tr{a:Nat}:¬(a=13)→a=10∨a=13→a=10:=ar [a] [] (.i (.n (.e aq (.k 13))) (.i (.o (.e aq (.k 10)) (.e aq (.k 13))) (.e aq (.k 10))))
theorem Tt{a:Nat}{b:Int}:b≤((a:Nat):Int)→max ((a+1:Nat):Int) b=((a:Nat):Int)+1:=ar [a] [b] (.i (.L aq (.t aq)) (.E (.x (.t (.a aq aE)) aq) (.a (.t aq) aE)))
theorem Tu{a:Nat}{b:Int}:¬(b≤((a:Nat):Int))→max ((a+1:Nat):Int) b=max ((a:Nat):Int) b:=ar [a] [b] (.i (.n (.L aq (.t aq))) (.E (.x (.t (.a aq aE)) aq) (.x (.t aq) aq)))
theorem Tv{a:Nat}{b:Int}:¬(((a:Nat):Int)<b)→max ((a+1:Nat):Int) b=((a:Nat):Int)+1:=ar [a] [b] (.i (.n (.W (.t aq) aq)) (.E (.x (.t (.a aq aE)) aq) (.a (.t aq) aE)))
theorem Tw{a:Nat}{b:Int}:¬(((a:Nat):Int)<b)→max ((a:Nat):Int) b=((a:Nat):Int):=ar [a] [b] (.i (.n (.W (.t aq) aq)) (.E (.x (.t aq) aq) (.t aq)))
theorem Tz{a:Nat}{b:Int}:0≤b→Pb (((a:Nat):Int)+b)=a+Pb b:=ar [a] [b] (.i (.L bJ aq) (.e (.t (.a (.t aq) aq)) (.a aq (.t aq))))
theorem MA{a:Nat}{b:Int}:0≤b→0≤((a:Nat):Int)+b:=ar [a] [b] (.i (.L bJ aq) (.L bJ (.a (.t aq) aq)))
theorem TA{a:Nat}{b:Int}:a<Pb b→((a:Nat):Int)<b:=ar [a] [b] (.i (.w aq (.t aq)) (.W (.t aq) aq))
theorem TF{a:Nat}{b:Int}:((a:Nat):Int)≤b→b≤((a:Nat):Int)→ -((a:Nat):Int)= -b:=ar [a] [b] (.i (.L (.t aq) aq) (.i (.L aq (.t aq)) (.E (.g (.t aq)) (.g aq))))
theorem TG{a:Nat}{b c:Int}:((a:Nat):Int)<b-c→a<Pb (b-c):=ar [a] [b,c] (.i (.W (.t aq) (.s aq au)) (.w aq (.t (.s aq au))))
theorem TH{a:Nat}{b:Int}{c:Nat}:b=((c:Nat):Int)→a<c→((a:Nat):Int)<b:=ar [a,c] [b] (.i (.E aq (.t au)) (.i (.w aq au) (.W (.t aq) aq)))
theorem DK{a:Nat}{b:Int}{c:Nat}:b=((c:Nat):Int)→a+1≤c→((a:Nat):Int)<b:=ar [a,c] [b] (.i (.E aq (.t au)) (.i (.l (.a aq aE) au) (.W (.t aq) aq)))
theorem TJ{a:Nat}{b:Int}{c:Nat}:b=((c:Nat):Int)→a+1≤c→((a:Nat):Int)≤b:=ar [a,c] [b] (.i (.E aq (.t au)) (.i (.l (.a aq aE) au) (.L (.t aq) aq)))
theorem MB{a:Nat}{b:Int}{c d e:Nat}:d≤c+1→e≤d-a→0≤b→b<((e:Nat):Int)→((a:Nat):Int)+b≤((c:Nat):Int):=ar [a,c,d,e] [b] (.i (.l aB (.a au aE)) (.i (.l aP (.s aB aq)) (.i (.L bJ aq) (.i (.W aq (.t aP)) (.L (.a (.t aq) aq) (.t au))))))
theorem TL{a:Nat}{b:Int}{c d e f:Nat}:d≤c+1→((a:Nat):Int)+b≤((d:Nat):Int)→((a:Nat):Int)<((d:Nat):Int)∧((e:Nat):Int)<((f:Nat):Int)→a+Pb b≤c+1:=ar [a,c,d,e,f] [b] (.i (.l aB (.a au aE)) (.i (.L (.a (.t aq) aq) (.t aB)) (.i (.a (.W (.t aq) (.t aB)) (.W (.t aP) (.t cA))) (.l (.a aq (.t aq)) (.a au aE)))))
theorem TM{a:Nat}{b:Int}{c d e f:Nat}:d≤c+1→((a:Nat):Int)+b≤((d:Nat):Int)→((e:Nat):Int)<((f:Nat):Int)∧((a:Nat):Int)<((d:Nat):Int)→a+Pb b≤c+1:=ar [a,c,d,e,f] [b] (.i (.l aB (.a au aE)) (.i (.L (.a (.t aq) aq) (.t aB)) (.i (.a (.W (.t aP) (.t cA)) (.W (.t aq) (.t aB))) (.l (.a aq (.t aq)) (.a au aE)))))
theorem DL{a b:Nat}:Pb (((a:Nat):Int) -1-((b:Nat):Int))=a-1-b:=ar [a,b] [] (.e (.t (.s (.s (.t aq) aE) (.t au))) (.s (.s aq aE) au))
theorem TN{a b:Nat}:min ((a:Nat):Int) ((b:Nat):Int)=((min a b:Nat):Int):=ar [a,b] [] (.E (.n (.t aq) (.t au)) (.t (.n aq au)))
theorem MC{a b:Nat}:a-b≤a+1:=ar [a,b] [] (.l (.s aq au) (.a aq aE))
theorem sI{a b:Nat}:a<a+1+b:=ar [a,b] [] (.w aq (.a (.a aq aE) au))
theorem TP{a b:Nat}:¬(a+1+b<a+1):=ar [a,b] [] (.n (.w (.a (.a aq aE) au) (.a aq aE)))
theorem MD{a b:Nat}:a+1*b+(b+1)*1=a+b+b+1:=ar [a,b] [] (.e (.a (.a aq (.m aE au)) (.m (.a au aE) aE)) (.a (.a (.a aq au) au) aE))
theorem TQ{a b:Nat}:a-(b+1)+1≤a+1:=ar [a,b] [] (.l (.a (.s aq (.a au aE)) aE) (.a aq aE))
theorem TR{a b:Nat}:a-(a-b)=min b a:=ar [a,b] [] (.e (.s aq (.s aq au)) (.n au aq))
theorem TS{a b:Nat}:8*(a-b+1)≤8*(a+1):=ar [a,b] [] (.l (.m (.k 8) (.a (.s aq au) aE)) (.m (.k 8) (.a aq aE)))
theorem DM{a b:Nat}:a<a+(b+1):=ar [a,b] [] (.w aq (.a aq (.a au aE)))
theorem sJ{a b:Nat}:b<a→a+1-(b+1)<a+1-b:=ar [a,b] [] (.i (.w au aq) (.w (.s (.a aq aE) (.a au aE)) (.s (.a aq aE) au)))
theorem ME{a b:Nat}:b≤a∧a≤b+2→a=b∨a=b+1∨a=b+2:=ar [a,b] [] (.i (.a (.l au aq) (.l aq (.a au lM))) (.o (.e aq au) (.o (.e aq (.a au aE)) (.e aq (.a au lM)))))
theorem Ao{a b:Nat}:a<b→¬(a=b+2):=ar [a,b] [] (.i (.w aq au) (.n (.e aq (.a au lM))))
theorem TU{a b:Nat}:b+3≤a→¬(a=b):=ar [a,b] [] (.i (.l (.a au sH) aq) (.n (.e aq au)))
theorem TX{a b:Nat}:b+3≤a→¬(a=b+1):=ar [a,b] [] (.i (.l (.a au sH) aq) (.n (.e aq (.a au aE))))
theorem DN{a b:Nat}:a<b→¬(a=b+1):=ar [a,b] [] (.i (.w aq au) (.n (.e aq (.a au aE))))
theorem TY{a b:Nat}:b<a→¬(((a:Nat):Int)=0):=ar [a,b] [] (.i (.w au aq) (.n (.E (.t aq) bJ)))
theorem T4{a b:Nat}:a≤1000→Pb (((a:Nat):Int) -((b:Nat):Int))≤16777216:=ar [a,b] [] (.i (.l aq bR) (.l (.t (.s (.t aq) (.t au))) aY))
theorem T5{a b:Nat}:a≤2∧b≤2→a+b≤4:=ar [a,b] [] (.i (.a (.l aq lM) (.l au lM)) (.l (.a aq au) gD))
theorem T6{a b:Nat}:a≤2∧b≤2→a+b≤16777216:=ar [a,b] [] (.i (.a (.l aq lM) (.l au lM)) (.l (.a aq au) aY))
theorem DO{a b:Nat}:b<a→0≤((a:Nat):Int) -1-((b:Nat):Int):=ar [a,b] [] (.i (.w au aq) (.L bJ (.s (.s (.t aq) aE) (.t au))))
theorem DP{a b:Nat}:a≤7→((a:Nat):Int) -1-((b:Nat):Int)<2^63:=ar [a,b] [] (.i (.l aq fM) (.W (.s (.s (.t aq) aE) (.t au)) az))
theorem MF{a b:Nat}:b<a+1→((a:Nat):Int)+2-((b:Nat):Int)=((a+2-b:Nat):Int):=ar [a,b] [] (.i (.w au (.a aq aE)) (.E (.s (.a (.t aq) lM) (.t au)) (.t (.s (.a aq lM) au))))
theorem MG{a b:Nat}:((b:Nat):Int) -((a:Nat):Int)=((b-a:Nat):Int)→a≤b+1:=ar [a,b] [] (.i (.E (.s (.t au) (.t aq)) (.t (.s au aq))) (.l aq (.a au aE)))
theorem T7{a b:Nat}:a≤7→a-b≤1000:=ar [a,b] [] (.i (.l aq fM) (.l (.s aq au) bR))
theorem T8{a b:Nat}:a≤b→((a:Nat):Int)<((b:Nat):Int)+1:=ar [a,b] [] (.i (.l aq au) (.W (.t aq) (.a (.t au) aE)))
theorem T9{a b:Nat}:b<a→((a:Nat):Int) -((b:Nat):Int)=((a-b:Nat):Int):=ar [a,b] [] (.i (.w au aq) (.E (.s (.t aq) (.t au)) (.t (.s aq au))))
theorem Uk{a b:Nat}:a<b→((a+1+(b-(a+1)):Nat):Int)=((b:Nat):Int):=ar [a,b] [] (.i (.w aq au) (.E (.t (.a (.a aq aE) (.s au (.a aq aE)))) (.t au)))
theorem Ul{a b:Nat}:a≤b→((a+(b-a):Nat):Int)=((b:Nat):Int):=ar [a,b] [] (.i (.l aq au) (.E (.t (.a aq (.s au aq))) (.t au)))
theorem Um{a b:Nat}:a+b≤49→a≤100:=ar [a,b] [] (.i (.l (.a aq au) (.k 49)) (.l aq fZ))
theorem Un{a b:Nat}:a+4*12+80<b→a+1+0<b:=ar [a,b] [] (.i (.w (.a (.a aq (.m gD (.k 12))) (.k 80)) au) (.w (.a (.a aq aE) bJ) au))
theorem Uo{a b:Nat}:b≤1000→min (a+1) b≤1000:=ar [a,b] [] (.i (.l au bR) (.l (.n (.a aq aE) au) bR))
theorem Uq{a b:Nat}:a+1<b+1→a<b:=ar [a,b] [] (.i (.w (.a aq aE) (.a au aE)) (.w aq au))
theorem MH{a b:Nat}:a<b→((a:Nat):Int)≤((b:Nat):Int):=ar [a,b] [] (.i (.w aq au) (.L (.t aq) (.t au)))
theorem Ur{a b:Nat}:b<a→a-1-(a-(b+1))=b:=ar [a,b] [] (.i (.w au aq) (.e (.s (.s aq aE) (.s aq (.a au aE))) au))
theorem MI{a b:Nat}:b<a→a-1-b<a-b:=ar [a,b] [] (.i (.w au aq) (.w (.s (.s aq aE) au) (.s aq au)))
theorem Us{a b:Nat}:b<a→a-(a-1-b)=b+1:=ar [a,b] [] (.i (.w au aq) (.e (.s aq (.s (.s aq aE) au)) (.a au aE)))
theorem Ut{a b:Nat}:a<b→a+(b-1-a)=b-1:=ar [a,b] [] (.i (.w aq au) (.e (.a aq (.s (.s au aE) aq)) (.s au aE)))
theorem Uu{a b:Nat}:b<a→a-1+1=a:=ar [a,b] [] (.i (.w au aq) (.e (.a (.s aq aE) aE) aq))
theorem Uv{a b:Nat}:a+1+b≤16777216→¬(16777216<a+1+b):=ar [a,b] [] (.i (.l (.a (.a aq aE) au) aY) (.n (.w aY (.a (.a aq aE) au))))
theorem Uw{a b:Nat}:¬(b<a∨b-a<1)→a+(b-a)=b:=ar [a,b] [] (.i (.n (.o (.w au aq) (.w (.s au aq) aE))) (.e (.a aq (.s au aq)) au))
theorem Ux{a b:Nat}:a≤b→a+(b-a)≤b:=ar [a,b] [] (.i (.l aq au) (.l (.a aq (.s au aq)) au))
theorem Uy{a b:Nat}:a<b→a=b+2→gc:=ar [a,b] [] (.i (.w aq au) (.i (.e aq (.a au lM)) .f))
theorem Uz{a b:Nat}:a<b→b+3≤a→gc:=ar [a,b] [] (.i (.w aq au) (.i (.l (.a au sH) aq) .f))
theorem UA{a b:Nat}:a<b→a=b→gc:=ar [a,b] [] (.i (.w aq au) (.i (.e aq au) .f))
theorem UB{a b:Nat}:a<b→b<a→gc:=ar [a,b] [] (.i (.w aq au) (.i (.w au aq) .f))
theorem MJ{a b:Nat}:a<b+1→¬(a=b)→a<b:=ar [a,b] [] (.i (.w aq (.a au aE)) (.i (.n (.e aq au)) (.w aq au)))
theorem UC{a b:Nat}:b≤60→a<b→((a:Nat):Int)<2^63:=ar [a,b] [] (.i (.l au (.k 60)) (.i (.w aq au) (.W (.t aq) az)))
theorem Aq{a b:Nat}:b≤7→a<b→((a:Nat):Int)<2^63:=ar [a,b] [] (.i (.l au fM) (.i (.w aq au) (.W (.t aq) az)))
theorem UD{a b:Nat}:b≤7→a≤5*b→a≤16777216:=ar [a,b] [] (.i (.l au fM) (.i (.l aq (.m (.k 5) au)) (.l aq aY)))
theorem ML{a b:Nat}:b≤7→a<b+1→((a:Nat):Int)<2^63:=ar [a,b] [] (.i (.l au fM) (.i (.w aq (.a au aE)) (.W (.t aq) az)))
theorem UE{a b:Nat}:b≤7→((b:Nat):Int) -((a:Nat):Int)=((b-a:Nat):Int)→a≤1000:=ar [a,b] [] (.i (.l au fM) (.i (.E (.s (.t au) (.t aq)) (.t (.s au aq))) (.l aq bR)))
theorem DQ{a b:Nat}:b≤7→a≤b→((a:Nat):Int)<2^63:=ar [a,b] [] (.i (.l au fM) (.i (.l aq au) (.W (.t aq) az)))
theorem UG{a b:Nat}:b≤7→a≤b→a*3+a*1≤1000000:=ar [a,b] [] (.i (.l au fM) (.i (.l aq au) (.l (.a (.m aq sH) (.m aq aE)) (.k 1000000))))
theorem MM{a b:Nat}:b≤7→a≤b→Int.natAbs ((a:Nat):Int)<1000000:=ar [a,b] [] (.i (.l au fM) (.i (.l aq au) (.w (.g (.t aq)) (.k 1000000))))
theorem DR{a b:Nat}:b≤100→a<b→((a:Nat):Int)<2^63:=ar [a,b] [] (.i (.l au fZ) (.i (.w aq au) (.W (.t aq) az)))
theorem UH{a b:Nat}:b≤49→a<b-1→((a:Nat):Int)<2^63:=ar [a,b] [] (.i (.l au (.k 49)) (.i (.w aq (.s au aE)) (.W (.t aq) az)))
theorem UI{a b:Nat}:b≤49→a<b-1→((1+a:Nat):Int)<2^63:=ar [a,b] [] (.i (.l au (.k 49)) (.i (.w aq (.s au aE)) (.W (.t (.a aE aq)) az)))
theorem UJ{a b:Nat}:b≤7→a≤b→a+1≤1000:=ar [a,b] [] (.i (.l au fM) (.i (.l aq au) (.l (.a aq aE) bR)))
theorem UK{a b:Nat}:a≤28→b≤28→a+1+b≤16777216:=ar [a,b] [] (.i (.l aq (.k 28)) (.i (.l au (.k 28)) (.l (.a (.a aq aE) au) aY)))
theorem UL{a b:Nat}:b≤7→a≤b+1→0≤((a:Nat):Int)∧((a:Nat):Int)≤1000:=ar [a,b] [] (.i (.l au fM) (.i (.l aq (.a au aE)) (.a (.L bJ (.t aq)) (.L (.t aq) bR))))
theorem UM{a b:Nat}:5≤b∧b≤7→a=b→5≤a:=ar [a,b] [] (.i (.a (.l (.k 5) au) (.l au fM)) (.i (.e aq au) (.l (.k 5) aq)))
theorem UN{a b:Nat}:5≤b∧b≤7→a=b→a≤7:=ar [a,b] [] (.i (.a (.l (.k 5) au) (.l au fM)) (.i (.e aq au) (.l aq fM)))
theorem UO{a b:Nat}:b-(a+1)=0→a+1≤b→a+1=b:=ar [a,b] [] (.i (.e (.s au (.a aq aE)) bJ) (.i (.l (.a aq aE) au) (.e (.a aq aE) au)))
theorem Ar{a b:Nat}:a≤b+1→¬(a=b+1)→a≤b:=ar [a,b] [] (.i (.l aq (.a au aE)) (.i (.n (.e aq (.a au aE))) (.l aq au)))
theorem MN{a b:Nat}:b≤7→a=b+1→a≤100:=ar [a,b] [] (.i (.l au fM) (.i (.e aq (.a au aE)) (.l aq fZ)))
theorem MP{a b:Nat}:0=a-b→b<a→gc:=ar [a,b] [] (.i (.e bJ (.s aq au)) (.i (.w au aq) .f))
theorem UP{a b:Nat}:a≤28→b≤28→a+(b+1)≤1000:=ar [a,b] [] (.i (.l aq (.k 28)) (.i (.l au (.k 28)) (.l (.a aq (.a au aE)) bR)))
theorem UQ{a b:Nat}:a=b+1→0=a→gc:=ar [a,b] [] (.i (.e aq (.a au aE)) (.i (.e bJ aq) .f))
theorem MQ{a b:Nat}:b≤6→a=b+1→a≤7:=ar [a,b] [] (.i (.l au (.k 6)) (.i (.e aq (.a au aE)) (.l aq fM)))
theorem UR{a b:Nat}:b=0→a+1≤1000→a-(1+0)+1+b≤16777216:=ar [a,b] [] (.i (.e au bJ) (.i (.l (.a aq aE) bR) (.l (.a (.a (.s aq (.a aE bJ)) aE) au) aY)))
theorem MR{a b:Nat}:a≤b→b<a+0→gc:=ar [a,b] [] (.i (.l aq au) (.i (.w au (.a aq bJ)) .f))
theorem US{a b:Nat}:a≤b→¬(a=b)→a+1≤b:=ar [a,b] [] (.i (.l aq au) (.i (.n (.e aq au)) (.l (.a aq aE) au)))
theorem UT{a b:Nat}:a+0=b→a<b→gc:=ar [a,b] [] (.i (.e (.a aq bJ) au) (.i (.w aq au) .f))
theorem UU{a b:Nat}:b≤4*(a+1)→4<b→0<a:=ar [a,b] [] (.i (.l au (.m gD (.a aq aE))) (.i (.w gD au) (.w bJ aq)))
theorem DS{a b:Nat}:a+1≤b+0→b≤a→gc:=ar [a,b] [] (.i (.l (.a aq aE) (.a au bJ)) (.i (.l au aq) .f))
theorem UW{a b:Nat}:b≤a→¬(b<a)→a=b:=ar [a,b] [] (.i (.l au aq) (.i (.n (.w au aq)) (.e aq au)))
theorem MS{a b:Nat}:a≤b→b<a→gc:=ar [a,b] [] (.i (.l aq au) (.i (.w au aq) .f))
theorem MT{a b:Nat}:a≤b→¬(b=a)→a+1≤b:=ar [a,b] [] (.i (.l aq au) (.i (.n (.e au aq)) (.l (.a aq aE) au)))
theorem UX{a b:Nat}{c:Int}:c=((a:Nat):Int)→¬(((a+b:Nat):Int)<c):=ar [a,b] [c] (.i (.E aq (.t aq)) (.n (.W (.t (.a aq au)) aq)))
theorem UY{a b:Nat}{c:Int}:c≤((b:Nat):Int)→c=((a:Nat):Int)→a≤b:=ar [a,b] [c] (.i (.L aq (.t au)) (.i (.E aq (.t aq)) (.l aq au)))
theorem UZ{a b c:Nat}:a<b∧(a<c∨a=c∧b<c+1+0)↔a<b∧(a<c∨a=c∧b<0):=ar [a,b,c] [] (.q (.a (.w aq au) (.o (.w aq aB) (.a (.e aq aB) (.w au (.a (.a aB aE) bJ))))) (.a (.w aq au) (.o (.w aq aB) (.a (.e aq aB) (.w au bJ)))))
theorem MU{a b c:Nat}:min a b≤b+c:=ar [a,b,c] [] (.l (.n aq au) (.a au aB))
theorem U0{a b c:Nat}:a+(b+1)<c→a+1+b<c:=ar [a,b,c] [] (.i (.w (.a aq (.a au aE)) aB) (.w (.a (.a aq aE) au) aB))
theorem U1{a b c:Nat}:a+4*(b+1)+80<c→a+3+4*b+80<c:=ar [a,b,c] [] (.i (.w (.a (.a aq (.m gD (.a au aE))) (.k 80)) aB) (.w (.a (.a (.a aq sH) (.m gD au)) (.k 80)) aB))
theorem U3{a b c:Nat}:a+4*c+80<b→a+64<b:=ar [a,b,c] [] (.i (.w (.a (.a aq (.m gD aB)) (.k 80)) au) (.w (.a aq (.k 64)) au))
theorem MV{a b c:Nat}:c+a≤b+1→a<b+2-c:=ar [a,b,c] [] (.i (.l (.a aB aq) (.a au aE)) (.w aq (.s (.a au lM) aB)))
theorem U4{a b c:Nat}:b≤c-a→a+b≤max a c:=ar [a,b,c] [] (.i (.l au (.s aB aq)) (.l (.a aq au) (.x aq aB)))
theorem U5{a b c:Nat}:a+4*c+80<b→a+1<b:=ar [a,b,c] [] (.i (.w (.a (.a aq (.m gD aB)) (.k 80)) au) (.w (.a aq aE) au))
theorem U6{a b c:Nat}:¬(c=b)→¬(a=a∧b=c):=ar [a,b,c] [] (.i (.n (.e aB au)) (.n (.a (.e aq aq) (.e au aB))))
theorem MW{a b c:Nat}:a≤b→min a b-c=a-c:=ar [a,b,c] [] (.i (.l aq au) (.e (.s (.n aq au) aB) (.s aq aB)))
theorem MX{a b c:Nat}:a≤c→min (a-b) c=a-b:=ar [a,b,c] [] (.i (.l aq aB) (.e (.n (.s aq au) aB) (.s aq au)))
theorem U7{a b c:Nat}:a≤c→a-b≤c-b-(c-a):=ar [a,b,c] [] (.i (.l aq aB) (.l (.s aq au) (.s (.s aB au) (.s aB aq))))
theorem U8{a b c:Nat}:((a:Nat):Int)=((b:Nat):Int) -((c:Nat):Int)→a=b-c:=ar [a,b,c] [] (.i (.E (.t aq) (.s (.t au) (.t aB))) (.e aq (.s au aB)))
theorem U9{a b c:Nat}:c<b→a-b≤a-c:=ar [a,b,c] [] (.i (.w aB au) (.l (.s aq au) (.s aq aB)))
theorem Vk{a b c:Nat}:c<a-b→((a:Nat):Int) -((b+c:Nat):Int)=((a-(b+c):Nat):Int):=ar [a,b,c] [] (.i (.w aB (.s aq au)) (.E (.s (.t aq) (.t (.a au aB))) (.t (.s aq (.a au aB)))))
theorem Vl{a b c:Nat}:a≤7→a-b-(a-c)≤8:=ar [a,b,c] [] (.i (.l aq fM) (.l (.s (.s aq au) (.s aq aB)) (.k 8)))
theorem Vm{a b c:Nat}:b<a-c→0≤((a:Nat):Int) -1-((b:Nat):Int):=ar [a,b,c] [] (.i (.w au (.s aq aB)) (.L bJ (.s (.s (.t aq) aE) (.t au))))
theorem Vn{a b c:Nat}:c<b-a→a+(b-a-1-c)=b-1-c:=ar [a,b,c] [] (.i (.w aB (.s au aq)) (.e (.a aq (.s (.s (.s au aq) aE) aB)) (.s (.s au aE) aB)))
theorem Vo{a b c:Nat}:a≤c→a-b≤c:=ar [a,b,c] [] (.i (.l aq aB) (.l (.s aq au) aB))
theorem v7{a b c:Nat}:b<c+1-(a+1)→a+1+b≤c:=ar [a,b,c] [] (.i (.w au (.s (.a aB aE) (.a aq aE))) (.l (.a (.a aq aE) au) aB))
theorem Vp{a b c:Nat}:b≤c→(a<b∧(a<c∨a=c∧b<0)↔a<b∧b≤c):=ar [a,b,c] [] (.i (.l au aB) (.q (.a (.w aq au) (.o (.w aq aB) (.a (.e aq aB) (.w au bJ)))) (.a (.w aq au) (.l au aB))))
theorem Vq{a b c:Nat}:c<b-a→a≤b:=ar [a,b,c] [] (.i (.w aB (.s au aq)) (.l aq au))
theorem Vr{a b c:Nat}:b<c-a→a+1+b≤c:=ar [a,b,c] [] (.i (.w au (.s aB aq)) (.l (.a (.a aq aE) au) aB))
theorem MY{a b c:Nat}:a<b+1-(c+1)→a<b-c:=ar [a,b,c] [] (.i (.w aq (.s (.a au aE) (.a aB aE))) (.w aq (.s au aB)))
theorem Vs{a b c:Nat}:a+4*12+80<c→a+1+min b 0<c:=ar [a,b,c] [] (.i (.w (.a (.a aq (.m gD (.k 12))) (.k 80)) aB) (.w (.a (.a aq aE) (.n au bJ)) aB))
theorem MZ{a b c:Nat}:a-(b+1)=c+1→a-(b+1+1)=c:=ar [a,b,c] [] (.i (.e (.s aq (.a au aE)) (.a aB aE)) (.e (.s aq (.a (.a au aE) aE)) aB))
theorem Vt{a b c:Nat}:c<b-a→a<b-c:=ar [a,b,c] [] (.i (.w aB (.s au aq)) (.w aq (.s au aB)))
theorem Vu{a b c:Nat}:b<a∧a≤c→a-b≤c+1-b:=ar [a,b,c] [] (.i (.a (.w au aq) (.l aq aB)) (.l (.s aq au) (.s (.a aB aE) au)))
theorem Vv{a b c:Nat}:b<a∧a≤c→a-b≤c+1-(c-a):=ar [a,b,c] [] (.i (.a (.w au aq) (.l aq aB)) (.l (.s aq au) (.s (.a aB aE) (.s aB aq))))
theorem Vw{a b c:Nat}:b<a∧a≤c→min (a-b) (c-b)=min (a-b) (c-(c-a)):=ar [a,b,c] [] (.i (.a (.w au aq) (.l aq aB)) (.e (.n (.s aq au) (.s aB au)) (.n (.s aq au) (.s aB (.s aB aq)))))
theorem M0{a b c:Nat}:a<b+(c+1)→a<b+1+c:=ar [a,b,c] [] (.i (.w aq (.a au (.a aB aE))) (.w aq (.a (.a au aE) aB)))
theorem Vx{a b c:Nat}:a<c→a<b+(c+1-b):=ar [a,b,c] [] (.i (.w aq aB) (.w aq (.a au (.s (.a aB aE) au))))
theorem Vy{a b c:Nat}:a+(c+1)=b→a<b:=ar [a,b,c] [] (.i (.e (.a aq (.a aB aE)) au) (.w aq au))
theorem M1{a b c:Nat}:a+(b+1)=c→a+1+b=c:=ar [a,b,c] [] (.i (.e (.a aq (.a au aE)) aB) (.e (.a (.a aq aE) au) aB))
theorem Vz{a b c:Nat}:a<c→8*(a-b+1)≤8*(c+1):=ar [a,b,c] [] (.i (.w aq aB) (.l (.m (.k 8) (.a (.s aq au) aE)) (.m (.k 8) (.a aB aE))))
theorem DT{a b c:Nat}:a<b+1+c→a<b+(c+1):=ar [a,b,c] [] (.i (.w aq (.a (.a au aE) aB)) (.w aq (.a au (.a aB aE))))
theorem VA{a b c:Nat}:1≤b∧a+b≤c→a<a+b:=ar [a,b,c] [] (.i (.a (.l aE au) (.l (.a aq au) aB)) (.w aq (.a aq au)))
theorem VB{a b c:Nat}:1≤c∧a+c≤b→a<b:=ar [a,b,c] [] (.i (.a (.l aE aB) (.l (.a aq aB) au)) (.w aq au))
theorem M3{a b c:Nat}:a<c→a<b+(c-b):=ar [a,b,c] [] (.i (.w aq aB) (.w aq (.a au (.s aB au))))
theorem VC{a b c:Nat}:a≤c→a<b+(c+1-b):=ar [a,b,c] [] (.i (.l aq aB) (.w aq (.a au (.s (.a aB aE) au))))
theorem VD{a b c:Nat}:a+(b+1)≤c→a+1+b≤c:=ar [a,b,c] [] (.i (.l (.a aq (.a au aE)) aB) (.l (.a (.a aq aE) au) aB))
theorem VE{a b c:Nat}:a<b+(c-b)→a<b+(c+1-b):=ar [a,b,c] [] (.i (.w aq (.a au (.s aB au))) (.w aq (.a au (.s (.a aB aE) au))))
theorem VF{a b c:Nat}:a+(b+1+1)≤c→a+1+(b+1)≤c:=ar [a,b,c] [] (.i (.l (.a aq (.a (.a au aE) aE)) aB) (.l (.a (.a aq aE) (.a au aE)) aB))
theorem VG{a b c:Nat}:b<c→c<a→¬(a=b):=ar [a,b,c] [] (.i (.w au aB) (.i (.w aB aq) (.n (.e aq au))))
theorem VH{a b c:Nat}:b<c→c+2≤a→¬(a=b):=ar [a,b,c] [] (.i (.w au aB) (.i (.l (.a aB lM) aq) (.n (.e aq au))))
theorem VI{a b c:Nat}:c+b≤1000000→a≤c→¬(16777216<a+b):=ar [a,b,c] [] (.i (.l (.a aB au) (.k 1000000)) (.i (.l aq aB) (.n (.w aY (.a aq au)))))
theorem VJ{a b c:Nat}:b≤7→a≤4*b∧c≤4*b→a≤400:=ar [a,b,c] [] (.i (.l au fM) (.i (.a (.l aq (.m gD au)) (.l aB (.m gD au))) (.l aq (.k 400))))
theorem VK{a b c:Nat}:b≤7→c≤4*b∧a≤4*b→a≤1000:=ar [a,b,c] [] (.i (.l au fM) (.i (.a (.l aB (.m gD au)) (.l aq (.m gD au))) (.l aq bR)))
theorem VL{a b c:Nat}:b<c→((a:Nat):Int) -((c:Nat):Int)=((a-c:Nat):Int)→((a:Nat):Int) -((b:Nat):Int)=((a-b:Nat):Int):=ar [a,b,c] [] (.i (.w au aB) (.i (.E (.s (.t aq) (.t aB)) (.t (.s aq aB))) (.E (.s (.t aq) (.t au)) (.t (.s aq au)))))
theorem VM{a b c:Nat}:c<b→((a:Nat):Int) -((b:Nat):Int)=((a-b:Nat):Int)→a-b<a-c:=ar [a,b,c] [] (.i (.w aB au) (.i (.E (.s (.t aq) (.t au)) (.t (.s aq au))) (.w (.s aq au) (.s aq aB))))
theorem VN{a b c:Nat}:((b:Nat):Int) -((c:Nat):Int)=((b-c:Nat):Int)→a<c→a≤b:=ar [a,b,c] [] (.i (.E (.s (.t au) (.t aB)) (.t (.s au aB))) (.i (.w aq aB) (.l aq au)))
theorem VO{a b c:Nat}:c≤7→((c:Nat):Int) -((a:Nat):Int)=((c-a:Nat):Int)→a-b≤8:=ar [a,b,c] [] (.i (.l aB fM) (.i (.E (.s (.t aB) (.t aq)) (.t (.s aB aq))) (.l (.s aq au) (.k 8))))
theorem M4{a b c:Nat}:c≤7→a≤c→a-b≤1000:=ar [a,b,c] [] (.i (.l aB fM) (.i (.l aq aB) (.l (.s aq au) bR)))
theorem VP{a b c:Nat}:c≤7→a≤c→((a:Nat):Int) -1-((b:Nat):Int)<2^63:=ar [a,b,c] [] (.i (.l aB fM) (.i (.l aq aB) (.W (.s (.s (.t aq) aE) (.t au)) az)))
theorem M5{a b c:Nat}:c≤7→a≤c→a-b≤16777216:=ar [a,b,c] [] (.i (.l aB fM) (.i (.l aq aB) (.l (.s aq au) aY)))
theorem VQ{a b c:Nat}:a≤c→c<b→a+1≤b+1:=ar [a,b,c] [] (.i (.l aq aB) (.i (.w aB au) (.l (.a aq aE) (.a au aE))))
theorem VR{a b c:Nat}:a≤c→c<b→a≤b:=ar [a,b,c] [] (.i (.l aq aB) (.i (.w aB au) (.l aq au)))
theorem M6{a b c:Nat}:a<c→b=c→a≤b-1:=ar [a,b,c] [] (.i (.w aq aB) (.i (.e au aB) (.l aq (.s au aE))))
theorem M7{a b c:Nat}:c≤b→a<c→¬(a=b):=ar [a,b,c] [] (.i (.l aB au) (.i (.w aq aB) (.n (.e aq au))))
theorem As{a b c:Nat}:a≤c+1→b=c+1→((a:Nat):Int)≤((b:Nat):Int):=ar [a,b,c] [] (.i (.l aq (.a aB aE)) (.i (.e au (.a aB aE)) (.L (.t aq) (.t au))))
theorem M8{a b c:Nat}:a<c→b≤c-a→((a:Nat):Int)+((b:Nat):Int)≤((c:Nat):Int):=ar [a,b,c] [] (.i (.w aq aB) (.i (.l au (.s aB aq)) (.L (.a (.t aq) (.t au)) (.t aB))))
theorem M9{a b c:Nat}:b<a→c=a→a-(b+1)<c:=ar [a,b,c] [] (.i (.w au aq) (.i (.e aB aq) (.w (.s aq (.a au aE)) aB)))
theorem VS{a b c:Nat}:a≤b→c≤b-a→a≤b-c:=ar [a,b,c] [] (.i (.l aq au) (.i (.l aB (.s au aq)) (.l aq (.s au aB))))
theorem VT{a b c:Nat}:c<a→a≤b→a-1<b:=ar [a,b,c] [] (.i (.w aB aq) (.i (.l aq au) (.w (.s aq aE) au)))
theorem VU{a b c:Nat}:a≤c→b≤c-a→a+b≤c:=ar [a,b,c] [] (.i (.l aq aB) (.i (.l au (.s aB aq)) (.l (.a aq au) aB)))
theorem VV{a b c:Nat}:a<3→b<c→a+4*b<c*4:=ar [a,b,c] [] (.i (.w aq sH) (.i (.w au aB) (.w (.a aq (.m gD au)) (.m aB gD))))
theorem VW{a b c:Nat}:c=b+1→a+1=c→a=b:=ar [a,b,c] [] (.i (.e aB (.a au aE)) (.i (.e (.a aq aE) aB) (.e aq au)))
theorem VX{a b c:Nat}:b≤4*c→a≤2→a+(0+1+1)+b≤4*(c+1):=ar [a,b,c] [] (.i (.l au (.m gD aB)) (.i (.l aq lM) (.l (.a (.a aq (.a (.a bJ aE) aE)) au) (.m gD (.a aB aE)))))
theorem VY{a b c:Nat}:a≤3→b≤5*c→a+(b+1+1)≤5*(c+1):=ar [a,b,c] [] (.i (.l aq sH) (.i (.l au (.m (.k 5) aB)) (.l (.a aq (.a (.a au aE) aE)) (.m (.k 5) (.a aB aE)))))
theorem VZ{a b c:Nat}:c<a→b≤c→¬(a≤b):=ar [a,b,c] [] (.i (.w aB aq) (.i (.l au aB) (.n (.l aq au))))
theorem Nl{a b c:Nat}:b≤c→c<a→¬(a<b∨a-b<1):=ar [a,b,c] [] (.i (.l au aB) (.i (.w aB aq) (.n (.o (.w aq au) (.w (.s aq au) aE)))))
theorem V0{a b c:Nat}:a<c→c≤b→a≤b:=ar [a,b,c] [] (.i (.w aq aB) (.i (.l aB au) (.l aq au)))
theorem DU{a b c:Nat}:c≤a→a<c+(b-c)→a<b:=ar [a,b,c] [] (.i (.l aB aq) (.i (.w aq (.a aB (.s au aB))) (.w aq au)))
theorem V1{a b c:Nat}:a=c→¬(b+1<c)→a≤b+1:=ar [a,b,c] [] (.i (.e aq aB) (.i (.n (.w (.a au aE) aB)) (.l aq (.a au aE))))
theorem V2{a b c:Nat}:a≤b→b<a+(c+1-a)→a+(b-a)≤c:=ar [a,b,c] [] (.i (.l aq au) (.i (.w au (.a aq (.s (.a aB aE) aq))) (.l (.a aq (.s au aq)) aB)))
theorem V3{a b c:Nat}:c=b→a≤c+1→a≤b+1:=ar [a,b,c] [] (.i (.e aB au) (.i (.l aq (.a aB aE)) (.l aq (.a au aE))))
theorem V4{a b c:Nat}:b≤7→a<c→c≤b→((a:Nat):Int)<2^63:=ar [a,b,c] [] (.i (.l au fM) (.i (.w aq aB) (.i (.l aB au) (.W (.t aq) az))))
theorem DV{a b c:Nat}:b≤7→c≤b→a≤c→a≤16777216:=ar [a,b,c] [] (.i (.l au fM) (.i (.l aB au) (.i (.l aq aB) (.l aq aY))))
theorem V5{a b c:Nat}:b≤7→c≤b→a<c→((a:Nat):Int)<2^63:=ar [a,b,c] [] (.i (.l au fM) (.i (.l aB au) (.i (.w aq aB) (.W (.t aq) az))))
theorem V6{a b c:Nat}:b≤7→c≤b→a<c→Int.natAbs ((a:Nat):Int)<1000000:=ar [a,b,c] [] (.i (.l au fM) (.i (.l aB au) (.i (.w aq aB) (.w (.g (.t aq)) (.k 1000000)))))
theorem V7{a b c:Nat}:b≤7→c≤b→a<c→a≤9:=ar [a,b,c] [] (.i (.l au fM) (.i (.l aB au) (.i (.w aq aB) (.l aq (.k 9)))))
theorem V8{a b c:Nat}:a≤c→b≤c→c≤7*7→a≤49∧b≤49:=ar [a,b,c] [] (.i (.l aq aB) (.i (.l au aB) (.i (.l aB (.m fM fM)) (.a (.l aq (.k 49)) (.l au (.k 49))))))
theorem V9{a b c:Nat}:b≤16777216→c=b→a<c→((a:Nat):Int)<2^63-1:=ar [a,b,c] [] (.i (.l au aY) (.i (.e aB au) (.i (.w aq aB) (.W (.t aq) (.s az aE)))))
theorem Wk{a b c:Nat}:b≤7→c≤b→a≤c*(3+(0+1))→a≤28:=ar [a,b,c] [] (.i (.l au fM) (.i (.l aB au) (.i (.l aq (.m aB (.a sH (.a bJ aE)))) (.l aq (.k 28)))))
theorem Wl{a b c:Nat}:b≤7→a<c→c≤b→a≤9:=ar [a,b,c] [] (.i (.l au fM) (.i (.w aq aB) (.i (.l aB au) (.l aq (.k 9)))))
theorem Wm{a b c:Nat}:a=b+c→b<c→c≤4^7→a<65536:=ar [a,b,c] [] (.i (.e aq (.a au aB)) (.i (.w au aB) (.i (.l aB (.k 16384)) (.w aq (.k 65536)))))
theorem Wn{a b c:Nat}:b≤1000→a≤2*c→c<b→a≤10000:=ar [a,b,c] [] (.i (.l au bR) (.i (.l aq (.m lM aB)) (.i (.w aB au) (.l aq (.k 10000)))))
theorem Wo{a b c:Nat}:b≤100→c<b→a≤0+c→a≤16777216:=ar [a,b,c] [] (.i (.l au fZ) (.i (.w aB au) (.i (.l aq (.a bJ aB)) (.l aq aY))))
theorem Wq{a b c:Nat}:b≤100→c<b→a≤c→a≤1000000:=ar [a,b,c] [] (.i (.l au fZ) (.i (.w aB au) (.i (.l aq aB) (.l aq (.k 1000000)))))
theorem Wr{a b c d:Nat}:a+min b c≤a+(c+d):=ar [a,b,c,d] [] (.l (.a aq (.n au aB)) (.a aq (.a aB aP)))
theorem Ws{a b c d:Nat}:a<b+2-max c d→a≤b+1-c:=ar [a,b,c,d] [] (.i (.w aq (.s (.a au lM) (.x aB aP))) (.l aq (.s (.a au aE) aB)))
theorem Wt{a b c d:Nat}:¬(a=b)→¬(a=b∧c=d):=ar [a,b,c,d] [] (.i (.n (.e aq au)) (.n (.a (.e aq au) (.e aB aP))))
theorem Wu{a b c d:Nat}:d<a-b-(a-c)→((a:Nat):Int) -((b:Nat):Int) -((a-c+d:Nat):Int)=((a-b-(a-c+d):Nat):Int):=ar [a,b,c,d] [] (.i (.w aP (.s (.s aq au) (.s aq aB))) (.E (.s (.s (.t aq) (.t au)) (.t (.a (.s aq aB) aP))) (.t (.s (.s aq au) (.a (.s aq aB) aP)))))
theorem Wv{a b c d:Nat}:¬(a=c∧b=c+1+d)→(a<b∧(a<c∨a=c∧b<c+1+(d+1))↔a<b∧(a<c∨a=c∧b<c+1+d)):=ar [a,b,c,d] [] (.i (.n (.a (.e aq aB) (.e au (.a (.a aB aE) aP)))) (.q (.a (.w aq au) (.o (.w aq aB) (.a (.e aq aB) (.w au (.a (.a aB aE) (.a aP aE)))))) (.a (.w aq au) (.o (.w aq aB) (.a (.e aq aB) (.w au (.a (.a aB aE) aP)))))))
theorem Ww{a b c d:Nat}:b≤d→(a<b∧(a<c∨a=c∧b<c+1+(d+1-(c+1)))↔a<b∧(a<c+1∨a=c+1∧b<0)):=ar [a,b,c,d] [] (.i (.l au aP) (.q (.a (.w aq au) (.o (.w aq aB) (.a (.e aq aB) (.w au (.a (.a aB aE) (.s (.a aP aE) (.a aB aE))))))) (.a (.w aq au) (.o (.w aq (.a aB aE)) (.a (.e aq (.a aB aE)) (.w au bJ))))))
theorem Wx{a b c d:Nat}:a+4*d+80<c→a+1+min b (0+1)<c:=ar [a,b,c,d] [] (.i (.w (.a (.a aq (.m gD aP)) (.k 80)) aB) (.w (.a (.a aq aE) (.n au (.a bJ aE))) aB))
theorem Wy{a b c d:Nat}:a<b∧a+(c-d)≤b→Pb ((a:Nat):Int)<b:=ar [a,b,c,d] [] (.i (.a (.w aq au) (.l (.a aq (.s aB aP)) au)) (.w (.t (.t aq)) au))
theorem Nn{a b c d:Nat}:((a:Nat):Int)<((b:Nat):Int)∧((c:Nat):Int)<((d:Nat):Int)→a<b:=ar [a,b,c,d] [] (.i (.a (.W (.t aq) (.t au)) (.W (.t aB) (.t aP))) (.w aq au))
theorem Np{a b c d:Nat}:((c:Nat):Int)<((d:Nat):Int)∧((a:Nat):Int)<((b:Nat):Int)→a<b:=ar [a,b,c,d] [] (.i (.a (.W (.t aB) (.t aP)) (.W (.t aq) (.t au))) (.w aq au))
theorem Wz{a b c d:Nat}:b<min (c-a) (d-a)→a+b<c:=ar [a,b,c,d] [] (.i (.w au (.n (.s aB aq) (.s aP aq))) (.w (.a aq au) aB))
theorem WA{a b c d:Nat}:b<min (d-a) (c-a)→a+b<c:=ar [a,b,c,d] [] (.i (.w au (.n (.s aP aq) (.s aB aq))) (.w (.a aq au) aB))
theorem WB{a b c d:Nat}:d=c+1→a+b+1+c=a+b+d:=ar [a,b,c,d] [] (.i (.e aP (.a aB aE)) (.e (.a (.a (.a aq au) aE) aB) (.a (.a aq au) aP)))
theorem WC{a b c d:Nat}:a+1≤d+1→a+1+1≤b+(c+1)+d+1:=ar [a,b,c,d] [] (.i (.l (.a aq aE) (.a aP aE)) (.l (.a (.a aq aE) aE) (.a (.a (.a au (.a aB aE)) aP) aE)))
theorem sL{a b c d:Nat}:a≤d+c→d≤b+1→a≤b+(c+1):=ar [a,b,c,d] [] (.i (.l aq (.a aP aB)) (.i (.l aP (.a au aE)) (.l aq (.a au (.a aB aE)))))
theorem WD{a b c d:Nat}:b+c≤100000→a≤0+min d b→a≤16777216:=ar [a,b,c,d] [] (.i (.l (.a au aB) (.k 100000)) (.i (.l aq (.a bJ (.n aP au))) (.l aq aY)))
theorem WE{a b c d:Nat}:a≤min c d→d≤b→a≤b:=ar [a,b,c,d] [] (.i (.l aq (.n aB aP)) (.i (.l aP au) (.l aq au)))
theorem WG{a b c d:Nat}:b≤d→a+d<c→a+b<c:=ar [a,b,c,d] [] (.i (.l au aP) (.i (.w (.a aq aP) aB) (.w (.a aq au) aB)))
theorem WH{a b c d:Nat}:b≤d→a+4*d+80<c→a+4*b+80<c:=ar [a,b,c,d] [] (.i (.l au aP) (.i (.w (.a (.a aq (.m gD aP)) (.k 80)) aB) (.w (.a (.a aq (.m gD au)) (.k 80)) aB)))
theorem DW{a b c d:Nat}:c≤b→a<c-d→a<b:=ar [a,b,c,d] [] (.i (.l aB au) (.i (.w aq (.s aB aP)) (.w aq au)))
theorem WI{a b c d:Nat}:c-b≤d→d<c-a→a≤b:=ar [a,b,c,d] [] (.i (.l (.s aB au) aP) (.i (.w aP (.s aB aq)) (.l aq au)))
theorem WJ{a b c d:Nat}:a-b≤d→d<a-c→a-b≤a-c:=ar [a,b,c,d] [] (.i (.l (.s aq au) aP) (.i (.w aP (.s aq aB)) (.l (.s aq au) (.s aq aB))))
theorem WL{a b c d:Nat}:a≤c→b<a-d→a-1-b<c:=ar [a,b,c,d] [] (.i (.l aq aB) (.i (.w au (.s aq aP)) (.w (.s (.s aq aE) au) aB)))
theorem Nq{a b c d:Nat}:d≤c→b<d-a→a+b<c:=ar [a,b,c,d] [] (.i (.l aP aB) (.i (.w au (.s aP aq)) (.w (.a aq au) aB)))
theorem Nr{a b c d:Nat}:b=c-d→a=c-d→a≤b:=ar [a,b,c,d] [] (.i (.e au (.s aB aP)) (.i (.e aq (.s aB aP)) (.l aq au)))
theorem WM{a b c d:Nat}:b≤7→a<b∧a+(c-d)≤b→((a:Nat):Int)<2^63:=ar [a,b,c,d] [] (.i (.l au fM) (.i (.a (.w aq au) (.l (.a aq (.s aB aP)) au)) (.W (.t aq) az)))
theorem WN{a b c d:Nat}:d≤7→a<d∧a+(b-c)≤d→((a:Nat):Int)+((b-c:Nat):Int)<2^63:=ar [a,b,c,d] [] (.i (.l aP fM) (.i (.a (.w aq aP) (.l (.a aq (.s au aB)) aP)) (.W (.a (.t aq) (.t (.s au aB))) az)))
theorem WO{a b c d:Nat}:c≤b→d<c+1-(a+1)→Pb ((a:Nat):Int)<b:=ar [a,b,c,d] [] (.i (.l aB au) (.i (.w aP (.s (.a aB aE) (.a aq aE))) (.w (.t (.t aq)) au)))
theorem WQ{a b c d:Nat}:d≤c→b<d+1-(a+1)→Pb ((a+1+b:Nat):Int)≤c:=ar [a,b,c,d] [] (.i (.l aP aB) (.i (.w au (.s (.a aP aE) (.a aq aE))) (.l (.t (.t (.a (.a aq aE) au))) aB)))
theorem WR{a b c d:Nat}:d≤c→b<d-a→Pb ((a+b:Nat):Int)<c:=ar [a,b,c,d] [] (.i (.l aP aB) (.i (.w au (.s aP aq)) (.w (.t (.t (.a aq au))) aB)))
theorem WS{a b c d:Nat}:b≤7→a=b-(b-c) -d→a≤7:=ar [a,b,c,d] [] (.i (.l au fM) (.i (.e aq (.s (.s au (.s au aB)) aP)) (.l aq fM)))
theorem WT{a b c d:Nat}:a<b∧b≤d→c=d→a+(b-a)≤c:=ar [a,b,c,d] [] (.i (.a (.w aq au) (.l au aP)) (.i (.e aB aP) (.l (.a aq (.s au aq)) aB)))
theorem WV{a b c d:Nat}:c<b∧b≤a→d=a→a-b+(b-c)≤d:=ar [a,b,c,d] [] (.i (.a (.w aB au) (.l au aq)) (.i (.e aP aq) (.l (.a (.s aq au) (.s au aB)) aP)))
theorem WW{a b c d:Nat}:b=c→1≤d∧a+d≤c→a≤b:=ar [a,b,c,d] [] (.i (.e au aB) (.i (.a (.l aE aP) (.l (.a aq aP) aB)) (.l aq au)))
theorem WX{a b c d:Nat}:b=c→1≤d∧a+d≤c→a<b:=ar [a,b,c,d] [] (.i (.e au aB) (.i (.a (.l aE aP) (.l (.a aq aP) aB)) (.w aq au)))
theorem WY{a b c d:Nat}:a+1≤d+(c+1)→d≤b→a+1≤b+1+c:=ar [a,b,c,d] [] (.i (.l (.a aq aE) (.a aP (.a aB aE))) (.i (.l aP au) (.l (.a aq aE) (.a (.a au aE) aB))))
theorem WZ{a b c d:Nat}:a=d+1→d+(b+1)<c→a+b<c:=ar [a,b,c,d] [] (.i (.e aq (.a aP aE)) (.i (.w (.a aP (.a au aE)) aB) (.w (.a aq au) aB)))
theorem W0{a b c d:Nat}:b=1→a+4*(c+1)+80<d→a+b+4*c+80<d:=ar [a,b,c,d] [] (.i (.e au aE) (.i (.w (.a (.a aq (.m gD (.a aB aE))) (.k 80)) aP) (.w (.a (.a (.a aq au) (.m gD aB)) (.k 80)) aP)))
theorem W2{a b c d:Nat}:a≤c→c<d→d≤b→a≤b:=ar [a,b,c,d] [] (.i (.l aq aB) (.i (.w aB aP) (.i (.l aP au) (.l aq au))))
theorem W3{a b c d:Nat}:b≤100→c≤b→a≤0+min d c→a≤16777216:=ar [a,b,c,d] [] (.i (.l au fZ) (.i (.l aB au) (.i (.l aq (.a bJ (.n aP aB))) (.l aq aY))))
theorem W4{a b c d:Nat}:a<c→c≤d→b=d→a<b:=ar [a,b,c,d] [] (.i (.w aq aB) (.i (.l aB aP) (.i (.e au aP) (.w aq au))))
theorem Nt{a b c d:Nat}:c≤7→d≤c→b<d-a→((a:Nat):Int)+((b:Nat):Int)<2^63:=ar [a,b,c,d] [] (.i (.l aB fM) (.i (.l aP aB) (.i (.w au (.s aP aq)) (.W (.a (.t aq) (.t au)) az))))
theorem Au{a b c d:Nat}:b≤7→c≤b→a<c-d→((a:Nat):Int)<2^63:=ar [a,b,c,d] [] (.i (.l au fM) (.i (.l aB au) (.i (.w aq (.s aB aP)) (.W (.t aq) az))))
theorem W5{a b c d:Nat}:b≤7→c≤b→a≤c-d→a≤16777216:=ar [a,b,c,d] [] (.i (.l au fM) (.i (.l aB au) (.i (.l aq (.s aB aP)) (.l aq aY))))
theorem W6{a b c d:Nat}:b≤7→c≤b→a=c-d→a≤100:=ar [a,b,c,d] [] (.i (.l au fM) (.i (.l aB au) (.i (.e aq (.s aB aP)) (.l aq fZ))))
theorem W7{a b c d:Nat}:c=d-a→c=d-b→b<d→a=b:=ar [a,b,c,d] [] (.i (.e aB (.s aP aq)) (.i (.e aB (.s aP au)) (.i (.w au aP) (.e aq au))))
theorem W8{a b c d:Nat}:b≤7→c≤b→d<c+1-(a+1)→((a:Nat):Int)<2^63:=ar [a,b,c,d] [] (.i (.l au fM) (.i (.l aB au) (.i (.w aP (.s (.a aB aE) (.a aq aE))) (.W (.t aq) az))))
theorem W9{a b c d:Nat}:c≤7→d≤c→b<d+1-(a+1)→((a+1+b:Nat):Int)<2^63:=ar [a,b,c,d] [] (.i (.l aB fM) (.i (.l aP aB) (.i (.w au (.s (.a aP aE) (.a aq aE))) (.W (.t (.a (.a aq aE) au)) az))))
theorem Xk{a b c d:Nat}:a≤c→b≤d→d<c→a-(b+1)<c+1-(b+1):=ar [a,b,c,d] [] (.i (.l aq aB) (.i (.l au aP) (.i (.w aP aB) (.w (.s aq (.a au aE)) (.s (.a aB aE) (.a au aE))))))
theorem Xl{a b c d:Nat}:c≤7→d≤c→b<d-a→((a+b:Nat):Int)<2^63:=ar [a,b,c,d] [] (.i (.l aB fM) (.i (.l aP aB) (.i (.w au (.s aP aq)) (.W (.t (.a aq au)) az))))
theorem Xm{a b c d:Nat}:a+4*c=b+4*d→a<3→b<3→a=b:=ar [a,b,c,d] [] (.i (.e (.a aq (.m gD aB)) (.a au (.m gD aP))) (.i (.w aq sH) (.i (.w au sH) (.e aq au))))
theorem Xn{a b c d:Nat}:c+4*a=d+4*b→c<3→d<3→a=b:=ar [a,b,c,d] [] (.i (.e (.a aB (.m gD aq)) (.a aP (.m gD au))) (.i (.w aB sH) (.i (.w aP sH) (.e aq au))))
theorem Xp{a b c d:Nat}:c≤4*d→a≤2→b≤2→a+b+c≤4*(d+1):=ar [a,b,c,d] [] (.i (.l aB (.m gD aP)) (.i (.l aq lM) (.i (.l au lM) (.l (.a (.a aq au) aB) (.m gD (.a aP aE))))))
theorem Xq{a b c d:Nat}:c≤d→d<b→a≤2*c+1→a+1≤2*b:=ar [a,b,c,d] [] (.i (.l aB aP) (.i (.w aP au) (.i (.l aq (.a (.m lM aB) aE)) (.l (.a aq aE) (.m lM au)))))
theorem Xr{a b c d:Nat}:b≤a→a<c→d≤c-a→d=c-b→a=b:=ar [a,b,c,d] [] (.i (.l au aq) (.i (.w aq aB) (.i (.l aP (.s aB aq)) (.i (.e aP (.s aB au)) (.e aq au)))))
theorem Xs{a b c d:Nat}:c≤d→d<b→a≤b-d→b-c≤a→((a:Nat):Int)=((b:Nat):Int) -((c:Nat):Int):=ar [a,b,c,d] [] (.i (.l aB aP) (.i (.w aP au) (.i (.l aq (.s au aP)) (.i (.l (.s au aB) aq) (.E (.t aq) (.s (.t au) (.t aB)))))))
theorem Xu{a b c d:Nat}:c≤7→d≤c→a≤100→b≤d→a+b≤100000:=ar [a,b,c,d] [] (.i (.l aB fM) (.i (.l aP aB) (.i (.l aq fZ) (.i (.l au aP) (.l (.a aq au) (.k 100000))))))
theorem Nu{a b c d:Nat}{e:Int}:d≤c+1→((a:Nat):Int)+e≤((d:Nat):Int)→b<Pb e→((a:Nat):Int)+((b:Nat):Int)≤((c:Nat):Int):=ar [a,b,c,d] [e] (.i (.l aP (.a aB aE)) (.i (.L (.a (.t aq) aq) (.t aP)) (.i (.w au (.t aq)) (.L (.a (.t aq) (.t au)) (.t aB)))))
theorem Xw{a b c d e:Nat}:b-c=a+(d+1)+e→a+(b+1-(c+a))=b+1-c:=ar [a,b,c,d,e] [] (.i (.e (.s au aB) (.a (.a aq (.a aP aE)) cA)) (.e (.a aq (.s (.a au aE) (.a aB aq))) (.s (.a au aE) aB)))
theorem Xx{a b c d e:Nat}:a-b=c+(d+1)+e→a+1-(b+c)=a-(b+c)+1:=ar [a,b,c,d,e] [] (.i (.e (.s aq au) (.a (.a aB (.a aP aE)) cA)) (.e (.s (.a aq aE) (.a au aB)) (.a (.s aq (.a au aB)) aE)))
theorem Xy{a b c d e:Nat}:a≤e→c≤d→a+b+c≤d+(e+b):=ar [a,b,c,d,e] [] (.i (.l aq cA) (.i (.l aB aP) (.l (.a (.a aq au) aB) (.a aP (.a cA au)))))
theorem Xz{a b c d e:Nat}:d=e+1→a<b+c+1+e→a<b+c+d:=ar [a,b,c,d,e] [] (.i (.e aP (.a cA aE)) (.i (.w aq (.a (.a (.a au aB) aE) cA)) (.w aq (.a (.a au aB) aP))))
theorem XA{a b c d e:Nat}:b+c≤100000→d≤0+b→a≤d+min e c→a≤16777216:=ar [a,b,c,d,e] [] (.i (.l (.a au aB) (.k 100000)) (.i (.l aP (.a bJ au)) (.i (.l aq (.a aP (.n cA aB))) (.l aq aY))))
theorem XD{a b c d e:Nat}:a<c→d-c≤e→e<d-b→a-b<c-b:=ar [a,b,c,d,e] [] (.i (.w aq aB) (.i (.l (.s aP aB) cA) (.i (.w cA (.s aP au)) (.w (.s aq au) (.s aB au)))))
theorem XE{a b c d e:Nat}:a≤d→b≤e+1→c=d+e+e+1→a+b≤c:=ar [a,b,c,d,e] [] (.i (.l aq aP) (.i (.l au (.a cA aE)) (.i (.e aB (.a (.a (.a aP cA) cA) aE)) (.l (.a aq au) aB))))
theorem XF{a b c d e:Nat}:a+1≤d+(c+1)→d≤e→e<b→a+1≤b+c:=ar [a,b,c,d,e] [] (.i (.l (.a aq aE) (.a aP (.a aB aE))) (.i (.l aP cA) (.i (.w cA au) (.l (.a aq aE) (.a au aB)))))
theorem XG{a b c d e:Nat}:a+1≤e+(d+1)→e≤b→1≤c∧b+c≤a→a+1≤b+c+d:=ar [a,b,c,d,e] [] (.i (.l (.a aq aE) (.a cA (.a aP aE))) (.i (.l cA au) (.i (.a (.l aE aB) (.l (.a au aB) aq)) (.l (.a aq aE) (.a (.a au aB) aP)))))
theorem XH{a b c d e:Nat}:d-c=e→d=b→e=a→a≤b-c:=ar [a,b,c,d,e] [] (.i (.e (.s aP aB) cA) (.i (.e aP au) (.i (.e cA aq) (.l aq (.s au aB)))))
theorem XI{a b c d e:Nat}:a=b+1→c<a→c=d+(b+1)+e→gc:=ar [a,b,c,d,e] [] (.i (.e aq (.a au aE)) (.i (.w aB aq) (.i (.e aB (.a (.a aP (.a au aE)) cA)) .f)))
theorem XJ{a b c d e:Nat}:d≤7→e≤d→a≤100→c≤e→a+min b c≤200:=ar [a,b,c,d,e] [] (.i (.l aP fM) (.i (.l cA aP) (.i (.l aq fZ) (.i (.l aB cA) (.l (.a aq (.n au aB)) (.k 200))))))
theorem XK{a b c d e:Nat}:d≤e→e<c→a≤20*d+(e-d)→b≤10→a+(b+0)≤20*c:=ar [a,b,c,d,e] [] (.i (.l aP cA) (.i (.w cA aB) (.i (.l aq (.a (.m (.k 20) aP) (.s cA aP))) (.i (.l au (.k 10)) (.l (.a aq (.a au bJ)) (.m (.k 20) aB))))))
theorem Nv{a b c d e:Nat}:b≤1000→c≤d→d<e→e≤b→a≤2*c+1→a≤10000:=ar [a,b,c,d,e] [] (.i (.l au bR) (.i (.l aB aP) (.i (.w aP cA) (.i (.l cA au) (.i (.l aq (.a (.m lM aB) aE)) (.l aq (.k 10000)))))))
theorem XM{a b c d e:Nat}:b≤1000→a≤2*c→d<e→e≤b→c<d→a≤10000:=ar [a,b,c,d,e] [] (.i (.l au bR) (.i (.l aq (.m lM aB)) (.i (.w aP cA) (.i (.l cA au) (.i (.w aB aP) (.l aq (.k 10000)))))))
theorem Nx{a b c d e f:Nat}:c=e+1→d-a=b+(e+1)+f→a+b+c≤d:=ar [a,b,c,d,e,f] [] (.i (.e aB (.a cA aE)) (.i (.e (.s aP aq) (.a (.a au (.a cA aE)) iK)) (.l (.a (.a aq au) aB) aP)))
theorem XN{a b c d e f:Nat}:e=a+1→b-c=d+(a+1)+f→a+(b+1-(c+d+e))=b-(c+d):=ar [a,b,c,d,e,f] [] (.i (.e cA (.a aq aE)) (.i (.e (.s au aB) (.a (.a aP (.a aq aE)) iK)) (.e (.a aq (.s (.a au aE) (.a (.a aB aP) cA))) (.s au (.a aB aP)))))
theorem XO{a b c d e f:Nat}:c+d=e+f→c<d→d*4≤f→a=b:=ar [a,b,c,d,e,f] [] (.i (.e (.a aB aP) (.a cA iK)) (.i (.w aB aP) (.i (.l (.m aP gD) iK) (.e aq au))))
theorem XQ{a b c d e f:Nat}:c+d=e+f→e<f→f*4≤d→a=b:=ar [a,b,c,d,e,f] [] (.i (.e (.a aB aP) (.a cA iK)) (.i (.w cA iK) (.i (.l (.m iK gD) aP) (.e aq au))))
theorem XR{a b c d e f:Nat}:a≤c+d→c≤e→d≤f+1→b=e+f+f+1→a≤b:=ar [a,b,c,d,e,f] [] (.i (.l aq (.a aB aP)) (.i (.l aB cA) (.i (.l aP (.a iK aE)) (.i (.e au (.a (.a (.a cA iK) iK) aE)) (.l aq au)))))
theorem XS{a b c d e f:Nat}:d<c→b-c≤a→e≤b-f-a→e=c-f→d=f→a=b-c:=ar [a,b,c,d,e,f] [] (.i (.w aP aB) (.i (.l (.s au aB) aq) (.i (.l cA (.s (.s au iK) aq)) (.i (.e cA (.s aB iK)) (.i (.e aP iK) (.e aq (.s au aB)))))))
theorem XT{a b c d e f:Nat}:b≤7→c≤b→d≤100→e≤c→a≤d+min f e→a≤1000:=ar [a,b,c,d,e,f] [] (.i (.l au fM) (.i (.l aB au) (.i (.l aP fZ) (.i (.l cA aB) (.i (.l aq (.a aP (.n iK cA))) (.l aq bR))))))
theorem Ny{a b c d e f:Nat}:b≤7→c≤b→d≤100→e≤c→a≤d+min f e→a≤1000000:=ar [a,b,c,d,e,f] [] (.i (.l au fM) (.i (.l aB au) (.i (.l aP fZ) (.i (.l cA aB) (.i (.l aq (.a aP (.n iK cA))) (.l aq (.k 1000000)))))))
theorem XU{a b c d e f g:Nat}:min (min ((d:Nat):Int) (((b:Nat):Int) -((e+f:Nat):Int))) (((a:Nat):Int) -((e:Nat):Int) -((a-b+c:Nat):Int))=((g:Nat):Int)→a-b+c≤a:=ar [a,b,c,d,e,f,g] [] (.i (.E (.n (.n (.t aP) (.s (.t au) (.t (.a cA iK)))) (.s (.s (.t aq) (.t cA)) (.t (.a (.s aq au) aB)))) (.t vK)) (.l (.a (.s aq au) aB) aq))
theorem XW{a b c d e f g:Nat}:((c:Nat):Int) -((d:Nat):Int)=((c-d:Nat):Int)→min (min ((e:Nat):Int) (((d:Nat):Int) -((a+b:Nat):Int))) (((c:Nat):Int) -((a:Nat):Int) -((c-d+f:Nat):Int))=((g:Nat):Int)→a+b≤c:=ar [a,b,c,d,e,f,g] [] (.i (.E (.s (.t aB) (.t aP)) (.t (.s aB aP))) (.i (.E (.n (.n (.t cA) (.s (.t aP) (.t (.a aq au)))) (.s (.s (.t aB) (.t aq)) (.t (.a (.s aB aP) iK)))) (.t vK)) (.l (.a aq au) aB)))
theorem XY{a b c d e f g:Nat}:a≤7→min (min ((d:Nat):Int) (((b:Nat):Int) -((e+f:Nat):Int))) (((a:Nat):Int) -((e:Nat):Int) -((a-b+c:Nat):Int))=((g:Nat):Int)→((a-b+c:Nat):Int)<2^63:=ar [a,b,c,d,e,f,g] [] (.i (.l aq fM) (.i (.E (.n (.n (.t aP) (.s (.t au) (.t (.a cA iK)))) (.s (.s (.t aq) (.t cA)) (.t (.a (.s aq au) aB)))) (.t vK)) (.W (.t (.a (.s aq au) aB)) az)))
theorem XZ{a b c d e f g:Nat}:c≤7→((c:Nat):Int) -((d:Nat):Int)=((c-d:Nat):Int)→min (min ((e:Nat):Int) (((d:Nat):Int) -((a+b:Nat):Int))) (((c:Nat):Int) -((a:Nat):Int) -((c-d+f:Nat):Int))=((g:Nat):Int)→((a+b:Nat):Int)<2^63:=ar [a,b,c,d,e,f,g] [] (.i (.l aB fM) (.i (.E (.s (.t aB) (.t aP)) (.t (.s aB aP))) (.i (.E (.n (.n (.t cA) (.s (.t aP) (.t (.a aq au)))) (.s (.s (.t aB) (.t aq)) (.t (.a (.s aB aP) iK)))) (.t vK)) (.W (.t (.a aq au)) az))))
theorem X0{a b c d e f g:Nat}:a≤d→e=d→c=f→e-a=b+f+g→a+b+c≤d:=ar [a,b,c,d,e,f,g] [] (.i (.l aq aP) (.i (.e cA aP) (.i (.e aB iK) (.i (.e (.s cA aq) (.a (.a au iK) vK)) (.l (.a (.a aq au) aB) aP)))))
theorem X3{a b c d e f g h:Nat}:e=a→f=g-e→h=c-d→f=h→g≤b→d<c→a<b∧a+(c-d)≤b:=ar [a,b,c,d,e,f,g,h] [] (.i (.e cA aq) (.i (.e iK (.s vK cA)) (.i (.e (.v 7) (.s aB aP)) (.i (.e iK (.v 7)) (.i (.l vK au) (.i (.w aP aB) (.a (.w aq au) (.l (.a aq (.s aB aP)) au))))))))
end
end Mine
namespace Mine
open PySem PySem.W PySem.Calls PyProof.Rows
noncomputable def FW{α:Type}(as:Ua α)(p:α→Ga)(start:Nat)(stop:Nat):Ga:=match Oc start 0&&Oc stop as.toList.length with
 |true=>as.toList.any p
 |false=>as.any p start stop
set_option tactic.hygienic true in
theorem OC: @Ua.any.{0}= @FW:=by
 funext α as p start stop
 unfold FW
 split
 ·rename_i h
  obtain⟨h1,h2⟩:=Ge.mp h
  have h1:=vg h1
  have h2:=vg h2
  subst h1;subst h2
  exact Ua.any_toList.symm
 ·rfl
noncomputable abbrev QO:Type 1:=type_of% @Ua.any.{0}
structure LR(b:Ob) where
 u:Unit
noncomputable def Lq{T:Type 1}{F:T→Ob}(a:T)(_:LR (F a))(b:T):Ob:=F b
set_option maxHeartbeats 0 in
set_option maxRecDepth 100000 in
noncomputable def tnF:LR Xj→QO→Ob:=by
 delta Xj
 generalize @Ua.any.{0}=a
 revert a
 exact @Lq QO _
theorem QA:Xj=tnF ⟨()⟩ @Ua.any.{0}:=by kernel_rfl
noncomputable def vL:Ob:=tnF ⟨()⟩ @FW
theorem zZ:Ob.«type.__new__»=vL:=((PySem.W.Fast.te4202317264376624991).trans QA).trans (Cc (tnF ⟨()⟩) OC)
noncomputable def tab(id:Yb):Ma Ob:=match Oc (PySem.W.Fast.tw13482112738370960269 id) 29827186395103491166823348853 with
 |true=>some vL
 |false=>PySem.W.Fast.tw14364793385576792824 id
theorem Qx:treeTable=tab:=by
 funext id
 unfold tab
 refine(PySem.W.Fast.te13482112738370960269 ..)▸(PySem.W.Fast.te14364793385576792824 ..)▸ ?_
 cases h:Oc (PySem.code id) 29827186395103491166823348853 with
 |false=>rfl
 |true=>
  have e:=vg h
  show entriesT.find (PySem.code id)=some vL
  refine(e ..).symm▸(zZ ..)▸ ?_
  kernel_rfl
noncomputable def Lw(tb:Yb→Ma Ob)(p:Fd)(w:Oa)(n₀:Nat)(ann:Ma qa):Nat→Ud→Thread→Ma Ud
 |0,_,_=>none
 |n+1,s,t=>match through t with
  |true=>some s
  |false=>match PySem.W.Fast.tw6613529449190102663 n₀ ann t with
   |false=>none
   |true=>match Mk (Lk tb) p w s t with
    |some (s',t')=>Lw tb p w n₀ ann n s' t'
    |none=>none
theorem Lx{tb:Yb→Ma Ob}{p:Fd}{w:Oa}{n₀:Nat}{ann:Ma qa}:∀{n:Nat} {s s':Ud} {t:Thread},
  Lw tb p w n₀ ann n s t=some s'→topRun tb p w n₀ ann n s.abs t=some s'.abs:=by
 intro n
 induction n with
 |zero=>exactλh=>(nomatch h)
 |succ n ih=>
  intro s s' t h
  unfold Lw at h
  rw[←PySem.W.Fast.te6613529449190102663,←Jk,←Nk]at h
  unfold topRun
  cases he:through t with
  |true=>rw[he]at h;cases h;rfl
  |false=>
   rw[he]at h
   cases hk:stepOk n₀ ann t with
   |false=>rw[hk]at h;cases h
   |true=>
    rw[hk]at h
    cases hs:stepT (denote tb) p w s t with
    |none=>rw[hs]at h;cases h
    |some r=>obtain⟨s₂,t₂⟩:=r;rw[hs]at h;dsimp only;rw[stepT_spec hs];exact ih h
noncomputable def JD(tb:Yb→Ma Ob)(p:Fd)(w:Oa):Nat→Ud→Thread→Ma Ud
 |0,_,_=>none
 |n+1,s,t=>match PySem.W.Fast.tw3805553451399329143 t with
  |some []=>some s
  |some (_::_)=>none
  |none=>match Mk (Lk tb) p w s t with
   |some (s',t')=>JD tb p w n s' t'
   |none=>none
theorem JE{tb:Yb→Ma Ob}{p:Fd}{w:Oa}:∀{n:Nat} {s s':Ud} {t:Thread},
  JD tb p w n s t=some s'→importEnds tb p w n s.abs t=some s'.abs:=by
 intro n
 induction n with
 |zero=>exactλh=>(nomatch h)
 |succ n ih=>
  intro s s' t h
  unfold JD at h
  rw[←PySem.W.Fast.te3805553451399329143,←Jk,←Nk]at h
  unfold importEnds
  cases he:t.atExitBegin with
  |some x=>cases x with
   |nil=>rw[he]at h;cases h;rfl
   |cons=>rw[he]at h;cases h
  |none=>
   rw[he]at h
   cases hs:stepT (denote tb) p w s t with
   |none=>rw[hs]at h;cases h
   |some r=>obtain⟨s₂,t₂⟩:=r;rw[hs]at h;dsimp only;rw[stepT_spec hs];exact ih h
noncomputable def JZ:aa Obj→BT→Nat→Ma BT
 |[],t,_=>some t
 |o::r,t,n=>match((t.ins n o).get n).isSome with
  |true=>JZ r (t.ins n o) (n+1)
  |false=>none
theorem J0{life:Life}:∀{l:aa Obj} {t t':BT} {n:Nat},JZ l t n=some t'→absHeap t' (n+l.length) life=⟨(absHeap t n life).objs++l.toArray,life⟩:=by
 intro l
 induction l with
 |nil=>
  intro t t' n h
  cases h
  simp[absHeap]
 |cons o r ih=>
  intro t t' n h
  unfold JZ at h
  cases e:((t.ins n o).get n).isSome with
  |false=>rw[e]at h;cases h
  |true=>
   rw[e]at h
   have ih:=ih h
   rw[absHeap_ins e]at ih
   rw[xd,show n+(r.length+1)=n+1+r.length by exact Be (aj _ _),ih]
   show Ja.mk _ _=Ja.mk _ _
   refine Cc (Ja.mk · life) ?_
   show((absHeap t n life).push o).objs++r.toArray=_
   cases hh:absHeap t n life with
   |mk objs lf=>
    show(objs.push o)++r.toArray=objs++(o::r).toArray
    apply oh
    simp
noncomputable def toT(s:za):Ma Ud:=(JZ s.heap.objs.toList .nil 0).map λt=>⟨t,s.heap.objs.toList.length,s.heap.life,s.gens,s.drawn,s.toks,s.os⟩
theorem Lv{s:za}{sT:Ud}(h:toT s=some sT):sT.abs=s:=by
 obtain⟨t,ht,rfl⟩:=fc.mp h
 have:=J0 (life:=s.heap.life) ht
 rw[mh]at this
 show za.mk (absHeap t s.heap.objs.toList.length s.heap.life) _ _ _ _=s
 refine(this ..).symm▸ ?_
 obtain⟨⟨objs,life⟩,gens,drawn,toks,os⟩:=s
 show za.mk (Ja.mk ((absHeap .nil 0 life).objs++objs.toList.toArray) life) _ _ _ _=_
 have:(absHeap .nil 0 life).objs= #[]:=rfl
 refine(this ..).symm▸ ?_
 simp
noncomputable def startT(p:Fd):Ud:=⟨.nil,0,(wh p).1.heap.life,(wh p).1.gens,(wh p).1.drawn,(wh p).1.toks,(wh p).1.os⟩
theorem zT(p:Fd):(startT p).abs=(start p).1:=by
 unfold startT
 refine(PySem.W.Fast.te1435165496053646825 ..)▸ ?_
 rfl
noncomputable def pQ{β γ:Type}(tb:Yb→Ma Ob)(p:Fd)(N:Nat)(F:za→β)(G:Ud→γ)(w:Oa):Ma (β×γ):=
 match JD tb (opening p) w N (startT (opening p)) (wh (opening p)).2 with
 |none=>none
 |some sT=>match fenceModules? p sT.abs with
  |none=>none
  |some s₀=>match toT s₀ with
   |none=>none
   |some Ou=>match s₀.heap.isNs mainGlobals&&s₀.gens.size==0 with
    |false=>none
    |true=>match Lw tb p w s₀.heap.objs.size (s₀.heap.nsMap mainGlobals "__annotations__") N Ou (topStub p)with
     |none=>none
     |some jO=>match staticsOk (importedModules p.main.body) s₀.heap jO.abs.heap&&namesBound p jO.abs.heap&&gensDone jO.abs&&laidKept s₀.heap jO.abs.heap with
      |true=>some (F jO.abs,G jO)
      |false=>none
set_option tactic.hygienic true in
theorem zl{β γ δ:Type}{p:Fd}{N:Nat}{F:za→β}{G:Ud→γ}{w:Oa}{r:β×γ}{F':za→δ}{d:δ}(h:pQ treeTable p N F G w=some r)
  (hd:∀s:Ud,(F s.abs,G s)=r→F' s.abs=d):(openEnds treeTable p w N).map F'=some d:=by
 unfold pQ at h
 split at h
 ·cases h
 ·rename_i sT h1
  split at h
  ·cases h
  ·rename_i s₀ h2
   split at h
   ·cases h
   ·rename_i Ou h3
    split at h
    ·cases h
    ·rename_i h4
     split at h
     ·cases h
     ·rename_i jO h5
      split at h
      ·rename_i h6
       rw[←PySem.W.Fast.te1435165496053646825]at h1
       have e1:=JE h1
       rw[zT]at e1
       have e3:=Lv h3
       have e5:=Lx h5
       rw[e3]at e5
       unfold openEnds fencedOpening
       refine(e1 ..).symm▸ ?_
       show(((fenceModules? p sT.abs)).bind (topFrom treeTable p w N)).map F'=_
       refine(h2 ..).symm▸ ?_
       show(topFrom treeTable p w N s₀).map F'=_
       unfold topFrom
       refine(h4 ..).symm▸ ?_
       show((topRun treeTable p w _ _ N s₀ (topStub p)).bind _).map F'=_
       refine(e5 ..).symm▸ ?_
       show Ma.map F' (match staticsOk (importedModules p.main.body) s₀.heap jO.abs.heap&&namesBound p jO.abs.heap&&gensDone jO.abs&&laidKept s₀.heap jO.abs.heap with|true=>some jO.abs|false=>none)=_
       refine(h6 ..).symm▸ ?_
       exact Cc some (hd _ (Oe h))
      ·cases h
noncomputable abbrev pw:Fd:=Qg
noncomputable def st(i:Nat):Va:=match pw.main.body.drop i with|x::_=>x|[]=>.Pass ⟨0,0,0,0⟩
set_option backward.match.sparseCases false in
noncomputable def BO:Va→aa Va|.ClassDef _ _ _ b _ _ _ _ _ _ _=>b|_=>[]
noncomputable def mt(i j:Nat):Va:=match(BO (st i)).drop j with|x::_=>x|[]=>.Pass ⟨0,0,0,0⟩
set_option backward.match.sparseCases false in
noncomputable def CC:Va→Arguments|.FunctionDef _ a _ _ _ _ _ _ _ _=>a|_=>⟨[],[],none,[],[],none,[]⟩
set_option backward.match.sparseCases false in
noncomputable def aN:Va→aa Va|.FunctionDef _ _ b _ _ _ _ _ _ _=>b|_=>[]
set_option backward.match.sparseCases false in
noncomputable def CH:Va→Lc|.FunctionDef _ _ _ _ _ _ s _ _ _=>s|_=>⟨.module,[],false,false,[]⟩
noncomputable def IT(b:aa Va)(t:Tok):qa:=match docOf b with|some s=>.str s t|none=>.none
noncomputable def de(P:Params)(x:Str)(t:Tok)(v:qa):DictEntry:=⟨PyData.keyHash P x,.str x t,v⟩
noncomputable def sV(x:Yb)(t:Tok):qa:=.str (ya x) t
noncomputable def nV(n:Int):qa:=.int n 0
noncomputable def tO(l:Ua qa):Obj:=⟨.type "tuple",none,.seq l 0,#[]⟩
noncomputable def dS(P:Params)(x:Yb)(t:Tok)(v:qa):DictEntry:=de P (ya x) t v
noncomputable def cO(x q:Yb)(t:Tok)(l a b c d:Int)(r:ia)(u v:qa)(y:ia)(m:Nat):Obj:=⟨.type "code",none,.fields #[sV x t,sV q (t+1),sV "/claim/cut.py" (t+2),nV l,nV a,nV b,nV c,nV d,.ref r,.bool true,nV 276,.ref (r+1),.none,u,v,.ref y,nV m,nV l,sV "/claim/cut.py" (m+1)],#[]⟩
noncomputable def KO(P:Params)(aaF:qa):Frag:=[
 (2,⟨.none,none,.dict #[dS P "\x69mport.loaded._sre" 183 (.bool true),dS P "class._frozen_importlib.BuiltinImporter" 185 (.ref 14),dS P "watched.\x69mport" 206 (.ref 18),dS P "class._frozen_importlib.ModuleSpec" 216 (.ref 22),dS P "sys.modules.booked-epoch" 245 (nV 3),dS P "\x69mport.later-laid._sre" 270 (.bool true),dS P "watched.library" 272 (.ref 27),dS P "watched.library-objects" 0 (sV "\x0c" 0),dS P "watched.library-deep._sre" 273 (sV "\x04\x00\x00\x0b\x04\x00\x00\x0b\x04\x00\x00\x03\x04\x00\x00\x0b\x08\x04dict\x02" 0)] 9,#[]⟩),
 (3,⟨.type "dict",none,.dict #[dS P "__name__" 165 (sV "law_wv0065_01" 1089),dS P "__doc__" 166 .none,dS P "__package__" 167 .none,dS P "__loader__" 168 (.builtin "__main__.__loader__#opaque"),dS P "__spec__" 169 .none,dS P "__annotations__" 170 (.ref 6),dS P "__builtins__" 171 (.ref 4),dS P "__file__" 173 (sV "/claim/cut.py" 172),dS P "__cached__" 174 .none,dS P "_sre" 275 (.ref 12),dS P "_wall" 288 (.ref 38),dS P "_tuplegetter" 347 (.ref 77),dS P "Match" 475 (.ref 152),dS P "_calculate_ratio" 483 (.ref 162),dS P "SequenceMatcher" 669 (.ref 259),dS P "TupleComp" 715 (.ref 287),dS P "add_callers" 727 (.ref 298),dS P "count_calls" 737 (.ref 305),dS P "_twin_re_1" 755 (.ref 310),dS P "_twin_re_2" 797 (.ref 315),dS P "CRLF" 799 (sV "\x0d\n" 798),dS P "quotedata" 807 (.ref 322),dS P "tspecials" 843 (.ref 327),dS P "_name_disallowed_re" 869 (.ref 332),dS P "_value_disallowed_re" 903 (.ref 337),dS P "_formatparam" 914 (.ref 345),dS P "Headers" 1088 (.ref 466),dS P "law" 1096 (.ref 475)] 28,#[]⟩),
 (32,tO #[]),
 (34,tO #[sV "k" 285]),
 (35,tO #[]),
 (37,cO "_wall" "_wall" 282 2 1 0 0 3 32 (.ref 34) (.ref 35) 36 286),
 (46,tO #[]),
 (48,tO #[sV "self" 306,sV "index" 307,sV "doc" 308]),
 (49,tO #[]),
 (51,cO "__init__" "_tuplegetter.__init__" 303 8 3 0 0 3 46 (.ref 48) (.ref 49) 50 309),
 (53,tO #[.none]),
 (54,tO #[]),
 (56,tO #[sV "self" 315,sV "obj" 316,sV "objtype" 317]),
 (57,tO #[]),
 (59,cO "__get__" "_tuplegetter.__get__" 312 12 3 0 0 3 54 (.ref 56) (.ref 57) 58 318),
 (61,tO #[]),
 (63,tO #[sV "self" 324,sV "obj" 325,sV "value" 326]),
 (64,tO #[]),
 (66,cO "__set__" "_tuplegetter.__set__" 321 19 3 0 0 3 61 (.ref 63) (.ref 64) 65 327),
 (68,tO #[]),
 (70,tO #[sV "self" 333,sV "obj" 334]),
 (71,tO #[]),
 (73,cO "__delete__" "_tuplegetter.__delete__" 330 22 2 0 0 3 68 (.ref 70) (.ref 71) 72 335),
 (75,tO #[sV "__doc__" 338,sV "index" 339]),
 (76,⟨.type "dict",none,.dict #[dS P "__module__" 298 (sV "cpy313.difflib" 289),dS P "__firstlineno__" 302 (.int (6) 301),dS P "__init__" 311 (.ref 52),dS P "__get__" 320 (.ref 60),dS P "__set__" 329 (.ref 67),dS P "__delete__" 337 (.ref 74),dS P "__static_attributes__" 340 (.ref 75),dS P "__dict__" 342 (.ref 78),dS P "__weakref__" 344 (.ref 79),dS P "__doc__" 345 .none] 4,#[]⟩),
 (77,⟨.type "type",none,.cls {name:=(ya "_tuplegetter"),bases:=[.type "object"],mro:=[.ref 77,.type "object"],ns:=76,qualname:=(ya "_tuplegetter"),hasDict:=true,slotNames:=[],subclasses:=[],abstract:=false,collection:=none,hasDel:=false},#[none,none,some (sV "_tuplegetter" 291),some (sV "_tuplegetter" 299),some (.builtin "object.__new__"),some (.bool true)]⟩),
 (78,⟨.type "getset_descriptor",none,.fields #[sV "__dict__" 341,.ref 77,.builtin "function.__dict__",.builtin "function.__dict__#set"],#[]⟩),
 (79,⟨.type "getset_descriptor",none,.fields #[sV "__weakref__" 343,.ref 77,.builtin "ExceptionGroup.__weakref__",.none],#[]⟩),
 (82,tO #[.type "tuple"]),
 (85,⟨.type "cell",none,.cell (some (.ref 152)),#[]⟩),
 (90,tO #[]),
 (91,tO #[sV "a" 364,sV "b" 365,sV "size" 366]),
 (92,⟨.type "dict",none,.dict #[] 0,#[]⟩),
 (93,tO #[]),
 (95,tO #[sV "_cls" 372,sV "a" 373,sV "b" 374,sV "size" 375]),
 (96,tO #[]),
 (98,cO "__new__" "Match.__new__" 369 30 4 0 0 3 93 (.ref 95) (.ref 96) 97 376),
 (100,tO #[]),
 (102,tO #[sV "cls" 383,sV "iterable" 384,sV "result" 385]),
 (103,tO #[]),
 (105,cO "_make" "Match._make" 380 34 2 0 0 3 100 (.ref 102) (.ref 103) 104 386),
 (107,⟨.type "dict",none,.dict #[dS P "__module__" 390 (sV "cpy313.difflib" 289),dS P "__name__" 393 (sV "_make" 392),dS P "__qualname__" 396 (sV "Match._make" 395),dS P "__doc__" 398 (IT (aN (mt 4 5)) 388),dS P "__annotations__" 400 (.ref 109)] 5,#[]⟩),
 (108,⟨.type "classmethod",some 107,.fields #[.ref 106,.bool false],#[]⟩),
 (109,⟨.type "dict",none,.dict #[] 0,#[]⟩),
 (110,tO #[.ref 85]),
 (111,tO #[sV "__class__" 405]),
 (113,tO #[sV "self" 406,sV "kwds" 407,sV "result" 408]),
 (114,tO #[]),
 (116,cO "_replace" "Match._replace" 402 42 1 1 0 11 111 (.ref 113) (.ref 114) 115 409),
 (118,tO #[]),
 (120,tO #[sV "self" 417]),
 (121,tO #[]),
 (123,cO "__repr__" "Match.__repr__" 414 53 1 0 0 3 118 (.ref 120) (.ref 121) 122 418),
 (125,tO #[]),
 (127,tO #[sV "self" 425]),
 (128,tO #[]),
 (130,cO "_asdict" "Match._asdict" 422 57 1 0 0 3 125 (.ref 127) (.ref 128) 129 426),
 (132,tO #[]),
 (134,tO #[sV "self" 432]),
 (135,tO #[]),
 (137,cO "__getnewargs__" "Match.__getnewargs__" 429 60 1 0 0 3 132 (.ref 134) (.ref 135) 136 433),
 (139,tO #[sV "a" 437,sV "b" 438,sV "size" 439]),
 (140,⟨.type "dict",none,.dict #[dS P "index" 447 (.int (0) 441),dS P "__doc__" 449 (sV "Alias for field number 0" 442)] 2,#[]⟩),
 (141,⟨.ref 77,some 140,.plain,#[]⟩),
 (143,⟨.type "dict",none,.dict #[dS P "index" 457 (.int (1) 451),dS P "__doc__" 459 (sV "Alias for field number 1" 452)] 2,#[]⟩),
 (144,⟨.ref 77,some 143,.plain,#[]⟩),
 (146,⟨.type "dict",none,.dict #[dS P "index" 467 (.int (2) 461),dS P "__doc__" 469 (sV "Alias for field number 2" 462)] 2,#[]⟩),
 (147,⟨.ref 77,some 146,.plain,#[]⟩),
 (149,tO #[]),
 (151,⟨.type "dict",none,.dict #[dS P "__module__" 355 (sV "cpy313.difflib" 289),dS P "__firstlineno__" 359 (.int (24) 358),dS P "__doc__" 361 (IT (BO (st 4)) 360),dS P "__slots__" 363 (.ref 90),dS P "_fields" 367 (.ref 91),dS P "_field_defaults" 368 (.ref 92),dS P "__new__" 379 (.ref 153),dS P "_make" 401 (.ref 108),dS P "_replace" 412 (.ref 117),dS P "__replace__" 413 (.ref 117),dS P "__repr__" 421 (.ref 124),dS P "_asdict" 428 (.ref 131),dS P "__getnewargs__" 436 (.ref 138),dS P "__match_args__" 440 (.ref 139),dS P "a" 450 (.ref 141),dS P "b" 460 (.ref 144),dS P "size" 470 (.ref 147),dS P "__static_attributes__" 471 (.ref 149)] 2,#[]⟩),
 (152,⟨.type "type",none,.cls {name:=(ya "Match"),bases:=[.type "tuple"],mro:=[.ref 152,.type "tuple",.type "object"],ns:=151,qualname:=(ya "Match"),hasDict:=false,slotNames:=[],subclasses:=[],abstract:=false,collection:=none,hasDel:=false},#[some (.ref 82),none,some (sV "Match" 348),some (sV "Match" 356),some .none,some (.bool false)]⟩),
 (153,⟨.type "staticmethod",none,.fields #[.ref 99],#[]⟩),
 (156,tO #[]),
 (158,tO #[sV "matches" 479,sV "length" 480]),
 (159,tO #[]),
 (161,cO "_calculate_ratio" "_calculate_ratio" 476 67 2 0 0 3 156 (.ref 158) (.ref 159) 160 481),
 (170,tO #[.none,sV "" 499,sV "" 500,.bool true]),
 (171,tO #[]),
 (173,tO #[sV "self" 504,sV "isjunk" 505,sV "a" 506,sV "b" 507,sV "autojunk" 508]),
 (174,tO #[]),
 (176,cO "__init__" "SequenceMatcher.__init__" 501 146 5 0 0 3 171 (.ref 173) (.ref 174) 175 509),
 (178,tO #[]),
 (180,tO #[sV "self" 516,sV "a" 517,sV "b" 518]),
 (181,tO #[]),
 (183,cO "set_seqs" "SequenceMatcher.set_seqs" 513 174 3 0 0 3 178 (.ref 180) (.ref 181) 182 519),
 (185,tO #[]),
 (187,tO #[sV "self" 526,sV "a" 527]),
 (188,tO #[]),
 (190,cO "set_seq1" "SequenceMatcher.set_seq1" 523 185 2 0 0 3 185 (.ref 187) (.ref 188) 189 528),
 (192,tO #[]),
 (194,tO #[sV "self" 535,sV "b" 536]),
 (195,tO #[]),
 (197,cO "set_seq2" "SequenceMatcher.set_seq2" 532 210 2 0 0 3 192 (.ref 194) (.ref 195) 196 537),
 (199,tO #[]),
 (201,tO #[sV "self" 544,sV "b" 545,sV "b2j" 546,sV "i" 547,sV "elt" 548,sV "indices" 549,sV "junk" 550,sV "isjunk" 551,sV "popular" 552,sV "n" 553,sV "ntest" 554,sV "idxs" 555]),
 (202,tO #[]),
 (204,cO "__chain_b" "SequenceMatcher.__chain_b" 541 237 1 0 0 3 199 (.ref 201) (.ref 202) 203 556),
 (206,tO #[.int (0) 559,.none,.int (0) 560,.none]),
 (207,tO #[]),
 (209,tO #[sV "self" 564,sV "alo" 565,sV "ahi" 566,sV "blo" 567,sV "bhi" 568,sV "a" 569,sV "b" 570,sV "b2j" 571,sV "isbjunk" 572,sV "besti" 573,sV "bestj" 574,sV "bestsize" 575,sV "j2len" 576,sV "nothing" 577,sV "i" 578,sV "j2lenget" 579,sV "newj2len" 580,sV "j" 581,sV "k" 582]),
 (210,tO #[]),
 (212,cO "find_longest_match" "SequenceMatcher.find_longest_match" 561 261 5 0 0 3 207 (.ref 209) (.ref 210) 211 583),
 (214,tO #[]),
 (216,tO #[sV "self" 590,sV "la" 591,sV "lb" 592,sV "queue" 593,sV "matching_blocks" 594,sV "alo" 595,sV "ahi" 596,sV "blo" 597,sV "bhi" 598,sV "i" 599,sV "j" 600,sV "k" 601,sV "x" 602,sV "i1" 603,sV "j1" 604,sV "k1" 605,sV "non_adjacent" 606,sV "i2" 607,sV "j2" 608,sV "k2" 609]),
 (217,tO #[]),
 (219,cO "get_matching_blocks" "SequenceMatcher.get_matching_blocks" 587 336 1 0 0 3 214 (.ref 216) (.ref 217) 218 610),
 (221,tO #[]),
 (223,tO #[sV "self" 617]),
 (224,tO #[]),
 (226,cO "get_opcodes" "SequenceMatcher.get_opcodes" 614 384 1 0 0 3 221 (.ref 223) (.ref 224) 225 618),
 (228,tO #[.int (3) 621]),
 (229,tO #[]),
 (231,tO #[sV "self" 625,sV "n" 626]),
 (232,tO #[]),
 (234,cO "get_grouped_opcodes" "SequenceMatcher.get_grouped_opcodes" 622 387 2 0 0 3 229 (.ref 231) (.ref 232) 233 627),
 (236,tO #[]),
 (238,tO #[sV "self" 633,sV "matches" 634]),
 (239,tO #[]),
 (241,cO "ratio" "SequenceMatcher.ratio" 630 390 1 0 0 3 236 (.ref 238) (.ref 239) 240 635),
 (243,tO #[]),
 (245,tO #[sV "self" 642]),
 (246,tO #[]),
 (248,cO "quick_ratio" "SequenceMatcher.quick_ratio" 639 414 1 0 0 3 243 (.ref 245) (.ref 246) 247 643),
 (250,tO #[]),
 (252,tO #[sV "self" 649]),
 (253,tO #[]),
 (255,cO "real_quick_ratio" "SequenceMatcher.real_quick_ratio" 646 417 1 0 0 3 250 (.ref 252) (.ref 253) 254 650),
 (257,tO #[sV "a" 653,sV "autojunk" 654,sV "b" 655,sV "b2j" 656,sV "bjunk" 657,sV "bpopular" 658,sV "fullbcount" 659,sV "isjunk" 660,sV "matching_blocks" 661,sV "opcodes" 662]),
 (258,⟨.type "dict",none,.dict #[dS P "__module__" 491 (sV "cpy313.difflib" 289),dS P "__firstlineno__" 495 (.int (71) 494),dS P "__doc__" 497 aaF,dS P "__init__" 512 (.ref 177),dS P "set_seqs" 522 (.ref 184),dS P "set_seq1" 531 (.ref 191),dS P "set_seq2" 540 (.ref 198),dS P "_SequenceMatcher__chain_b" 558 (.ref 205),dS P "find_longest_match" 586 (.ref 213),dS P "get_matching_blocks" 613 (.ref 220),dS P "get_opcodes" 620 (.ref 227),dS P "get_grouped_opcodes" 629 (.ref 235),dS P "ratio" 638 (.ref 242),dS P "quick_ratio" 645 (.ref 249),dS P "real_quick_ratio" 652 (.ref 256),dS P "__static_attributes__" 663 (.ref 257),dS P "__dict__" 665 (.ref 260),dS P "__weakref__" 667 (.ref 261)] 3,#[]⟩),
 (259,⟨.type "type",none,.cls {name:=(ya "SequenceMatcher"),bases:=[.type "object"],mro:=[.ref 259,.type "object"],ns:=258,qualname:=(ya "SequenceMatcher"),hasDict:=true,slotNames:=[],subclasses:=[],abstract:=false,collection:=none,hasDel:=false},#[none,none,some (sV "SequenceMatcher" 484),some (sV "SequenceMatcher" 492),some (.builtin "object.__new__"),some (.bool true)]⟩),
 (260,⟨.type "getset_descriptor",none,.fields #[sV "__dict__" 664,.ref 259,.builtin "function.__dict__",.builtin "function.__dict__#set"],#[]⟩),
 (261,⟨.type "getset_descriptor",none,.fields #[sV "__weakref__" 666,.ref 259,.builtin "ExceptionGroup.__weakref__",.none],#[]⟩),
 (271,tO #[]),
 (273,tO #[sV "self" 690,sV "comp_select_list" 691]),
 (274,tO #[]),
 (276,cO "__init__" "TupleComp.__init__" 687 428 2 0 0 3 271 (.ref 273) (.ref 274) 275 692),
 (278,tO #[]),
 (280,tO #[sV "self" 698,sV "left" 699,sV "right" 700,sV "index" 701,sV "direction" 702,sV "l" 703,sV "r" 704]),
 (281,tO #[]),
 (283,cO "compare" "TupleComp.compare" 695 431 3 0 0 3 278 (.ref 280) (.ref 281) 282 705),
 (285,tO #[sV "comp_select_list" 708]),
 (286,⟨.type "dict",none,.dict #[dS P "__module__" 679 (sV "cpy313.pstats" 670),dS P "__firstlineno__" 683 (.int (420) 682),dS P "__doc__" 685 (IT (BO (st 8)) 684),dS P "__init__" 694 (.ref 277),dS P "compare" 707 (.ref 284),dS P "__static_attributes__" 709 (.ref 285),dS P "__dict__" 711 (.ref 288),dS P "__weakref__" 713 (.ref 289)] 3,#[]⟩),
 (287,⟨.type "type",none,.cls {name:=(ya "TupleComp"),bases:=[.type "object"],mro:=[.ref 287,.type "object"],ns:=286,qualname:=(ya "TupleComp"),hasDict:=true,slotNames:=[],subclasses:=[],abstract:=false,collection:=none,hasDel:=false},#[none,none,some (sV "TupleComp" 672),some (sV "TupleComp" 680),some (.builtin "object.__new__"),some (.bool true)]⟩),
 (288,⟨.type "getset_descriptor",none,.fields #[sV "__dict__" 710,.ref 287,.builtin "function.__dict__",.builtin "function.__dict__#set"],#[]⟩),
 (289,⟨.type "getset_descriptor",none,.fields #[sV "__weakref__" 712,.ref 287,.builtin "ExceptionGroup.__weakref__",.none],#[]⟩),
 (292,tO #[]),
 (294,tO #[sV "target" 719,sV "source" 720,sV "new_callers" 721,sV "func" 722,sV "caller" 723]),
 (295,tO #[]),
 (297,cO "add_callers" "add_callers" 716 440 2 0 0 3 292 (.ref 294) (.ref 295) 296 724),
 (299,tO #[]),
 (301,tO #[sV "callers" 731,sV "nc" 732,sV "calls" 733]),
 (302,tO #[]),
 (304,cO "count_calls" "count_calls" 728 454 1 0 0 3 299 (.ref 301) (.ref 302) 303 734),
 (309,tO #[nV 14,nV 4,nV 0,nV 1,nV 1,nV 6,nV 1,nV 16,nV 46,nV 1]),
 (310,⟨.type "re.Pattern",none,.fields #[sV "(?m)^\\." 741,.int (40) 754,nV 0,.none,.none,.ref 309,nV 0],#[]⟩),
 (314,tO #[nV 14,nV 9,nV 4,nV 1,nV 2,nV 16,nV 10,nV 16,nV 13,nV 0,nV 7,nV 7,nV 16,nV 13,nV 16,nV 10,nV 15,nV 18,nV 5,nV 16,nV 10,nV 15,nV 13,nV 11,nV 16,nV 13,nV 5,nV 5,nV 0,nV 16,nV 10,nV 1,nV 15,nV 2,nV 0,nV 1]),
 (315,⟨.type "re.Pattern",none,.fields #[sV "(?:\\r\\n|\\n|\\r(?!\\n))" 757,.int (32) 796,nV 0,.none,.none,.ref 314,nV 0],#[]⟩),
 (316,tO #[]),
 (318,tO #[sV "data" 803]),
 (319,tO #[]),
 (321,cO "quotedata" "quotedata" 800 464 1 0 0 3 316 (.ref 318) (.ref 319) 320 804),
 (326,tO #[nV 14,nV 14,nV 4,nV 1,nV 1,nV 9,nV 0,nV 4227896069,nV 939524097,nV 0,nV 0,nV 0,nV 0,nV 0,nV 0,nV 13,nV 11,nV 9,nV 0,nV 4227896069,nV 939524097,nV 0,nV 0,nV 0,nV 0,nV 0,nV 0,nV 1]),
 (327,⟨.type "re.Pattern",none,.fields #[sV "[ \\(\\)<>@,;:\\\\\"/\\[\\]\\?=]" 811,.int (32) 842,nV 0,.none,.none,.ref 326,nV 0],#[]⟩),
 (331,tO #[nV 14,nV 10,nV 4,nV 1,nV 1,nV 22,nV 0,nV 31,nV 16,nV 127,nV 0,nV 13,nV 7,nV 22,nV 0,nV 31,nV 16,nV 127,nV 0,nV 1]),
 (332,⟨.type "re.Pattern",none,.fields #[sV "[\\x00-\\x1F\\x7F]" 845,.int (32) 868,nV 0,.none,.none,.ref 331,nV 0],#[]⟩),
 (336,tO #[nV 14,nV 14,nV 4,nV 1,nV 1,nV 9,nV 4294966783,nV 0,nV 0,nV 2147483648,nV 0,nV 0,nV 0,nV 0,nV 0,nV 13,nV 11,nV 9,nV 4294966783,nV 0,nV 0,nV 2147483648,nV 0,nV 0,nV 0,nV 0,nV 0,nV 1]),
 (337,⟨.type "re.Pattern",none,.fields #[sV "[\\x00-\\x08\\x0A-\\x1F\\x7F]" 871,.int (32) 902,nV 0,.none,.none,.ref 336,nV 0],#[]⟩),
 (338,tO #[.none,.int (1) 904]),
 (339,tO #[]),
 (341,tO #[sV "param" 908,sV "value" 909,sV "quote" 910]),
 (342,tO #[]),
 (344,cO "_formatparam" "_formatparam" 905 475 3 0 0 3 339 (.ref 341) (.ref 342) 343 911),
 (353,tO #[.none]),
 (354,tO #[]),
 (356,tO #[sV "self" 933,sV "headers" 934,sV "k" 935,sV "v" 936]),
 (357,tO #[]),
 (359,cO "__init__" "Headers.__init__" 930 491 2 0 0 3 354 (.ref 356) (.ref 357) 358 937),
 (361,tO #[]),
 (363,tO #[sV "self" 943,sV "value" 944,sV "name" 945,sV "regex" 946]),
 (364,tO #[]),
 (366,cO "_convert_string_type" "Headers._convert_string_type" 940 501 2 0 1 3 361 (.ref 363) (.ref 364) 365 947),
 (368,tO #[]),
 (370,tO #[sV "self" 954]),
 (371,tO #[]),
 (373,cO "__len__" "Headers.__len__" 951 510 1 0 0 3 368 (.ref 370) (.ref 371) 372 955),
 (375,tO #[]),
 (377,tO #[sV "self" 962,sV "name" 963,sV "val" 964]),
 (378,tO #[]),
 (380,cO "__setitem__" "Headers.__setitem__" 959 514 3 0 0 3 375 (.ref 377) (.ref 378) 379 965),
 (382,tO #[]),
 (385,cO "__delitem__" "Headers.__delitem__" 969 519 2 0 0 3 382 .none .none 384 972),
 (387,tO #[]),
 (389,tO #[sV "self" 979,sV "name" 980]),
 (390,tO #[]),
 (392,cO "__getitem__" "Headers.__getitem__" 976 527 2 0 0 3 387 (.ref 389) (.ref 390) 391 981),
 (394,tO #[]),
 (396,tO #[sV "self" 988,sV "name" 989]),
 (397,tO #[]),
 (399,cO "__contains__" "Headers.__contains__" 985 538 2 0 0 3 394 (.ref 396) (.ref 397) 398 990),
 (401,tO #[]),
 (404,cO "get_all" "Headers.get_all" 994 542 2 0 0 3 401 .none .none 403 997),
 (406,tO #[.none]),
 (407,tO #[]),
 (409,tO #[sV "self" 1004,sV "name" 1005,sV "default" 1006,sV "k" 1007,sV "v" 1008]),
 (410,tO #[]),
 (412,cO "get" "Headers.get" 1001 553 3 0 0 3 407 (.ref 409) (.ref 410) 411 1009),
 (414,tO #[]),
 (417,cO "keys" "Headers.keys" 1013 561 1 0 0 3 414 .none .none 416 1016),
 (419,tO #[]),
 (422,cO "values" "Headers.values" 1020 571 1 0 0 3 419 .none .none 421 1023),
 (424,tO #[]),
 (426,tO #[sV "self" 1030]),
 (427,tO #[]),
 (429,cO "items" "Headers.items" 1027 581 1 0 0 3 424 (.ref 426) (.ref 427) 428 1031),
 (431,tO #[]),
 (433,tO #[sV "self" 1038]),
 (434,tO #[]),
 (436,cO "__repr__" "Headers.__repr__" 1035 591 1 0 0 3 431 (.ref 433) (.ref 434) 435 1039),
 (438,tO #[]),
 (441,cO "__str__" "Headers.__str__" 1042 594 1 0 0 3 438 .none .none 440 1045),
 (443,tO #[]),
 (445,tO #[sV "self" 1052]),
 (446,tO #[]),
 (448,cO "__bytes__" "Headers.__bytes__" 1049 599 1 0 0 3 443 (.ref 445) (.ref 446) 447 1053),
 (450,tO #[]),
 (452,tO #[sV "self" 1059,sV "name" 1060,sV "value" 1061,sV "result" 1062]),
 (453,tO #[]),
 (455,cO "setdefault" "Headers.setdefault" 1056 602 3 0 0 3 450 (.ref 452) (.ref 453) 454 1063),
 (457,tO #[]),
 (459,tO #[sV "self" 1070,sV "_name" 1071,sV "_value" 1072,sV "_params" 1073,sV "parts" 1074,sV "k" 1075,sV "v" 1076]),
 (460,tO #[]),
 (462,cO "add_header" "Headers.add_header" 1067 614 3 0 0 11 457 (.ref 459) (.ref 460) 461 1077),
 (464,tO #[sV "_headers" 1081]),
 (465,⟨.type "dict",none,.dict #[dS P "__module__" 922 (sV "cpy313.wsgiref.headers" 808),dS P "__firstlineno__" 926 (.int (488) 925),dS P "__doc__" 928 (IT (BO (st 21)) 927),dS P "__init__" 939 (.ref 360),dS P "_convert_string_type" 950 (.ref 367),dS P "__len__" 958 (.ref 374),dS P "__setitem__" 968 (.ref 381),dS P "__delitem__" 975 (.ref 386),dS P "__getitem__" 984 (.ref 393),dS P "__contains__" 993 (.ref 400),dS P "get_all" 1000 (.ref 405),dS P "get" 1012 (.ref 413),dS P "keys" 1019 (.ref 418),dS P "values" 1026 (.ref 423),dS P "items" 1034 (.ref 430),dS P "__repr__" 1041 (.ref 437),dS P "__str__" 1048 (.ref 442),dS P "__bytes__" 1055 (.ref 449),dS P "setdefault" 1066 (.ref 456),dS P "add_header" 1080 (.ref 463),dS P "__static_attributes__" 1082 (.ref 464),dS P "__dict__" 1084 (.ref 467),dS P "__weakref__" 1086 (.ref 468)] 3,#[]⟩),
 (466,⟨.type "type",none,.cls {name:=(ya "Headers"),bases:=[.type "object"],mro:=[.ref 466,.type "object"],ns:=465,qualname:=(ya "Headers"),hasDict:=true,slotNames:=[],subclasses:=[],abstract:=false,collection:=none,hasDel:=false},#[none,none,some (sV "Headers" 915),some (sV "Headers" 923),some (.builtin "object.__new__"),some (.bool true)]⟩),
 (467,⟨.type "getset_descriptor",none,.fields #[sV "__dict__" 1083,.ref 466,.builtin "function.__dict__",.builtin "function.__dict__#set"],#[]⟩),
 (468,⟨.type "getset_descriptor",none,.fields #[sV "__weakref__" 1085,.ref 466,.builtin "ExceptionGroup.__weakref__",.none],#[]⟩),
 (471,tO #[]),
 (474,cO "law" "law" 1091 643 1 0 0 3 471 .none .none 473 1094)]
noncomputable abbrev QY:=ia×Str×Str×Va×qa×qa×Ma ia
noncomputable def fR(k:ia)(x q:Yb)(s:Va)(r:qa)(m:Yb)(t:Tok)(c:Ma ia):QY:=(k,ya x,ya q,s,r,.str (ya m) t,c)
noncomputable def Oq(p:Fd)(i:Nat):Va:=match p.main.body.drop i with|x::_=>x|[]=>.Pass ⟨0,0,0,0⟩
noncomputable def i8(p:Fd)(i j:Nat):Va:=match(BO (Oq p i)).drop j with|x::_=>x|[]=>.Pass ⟨0,0,0,0⟩
noncomputable def aaf(p:Fd):aa QY:=[
 fR 37 "_wall" "_wall" (Oq p 1) .none "__main__" 164 none,
 fR 51 "__init__" "_tuplegetter.__init__" (i8 p 3 0) .none "cpy313.difflib" 289 none,
 fR 59 "__get__" "_tuplegetter.__get__" (i8 p 3 1) (.ref 53) "cpy313.difflib" 289 none,
 fR 66 "__set__" "_tuplegetter.__set__" (i8 p 3 2) .none "cpy313.difflib" 289 none,
 fR 73 "__delete__" "_tuplegetter.__delete__" (i8 p 3 3) .none "cpy313.difflib" 289 none,
 fR 98 "__new__" "Match.__new__" (i8 p 4 4) .none "cpy313.difflib" 289 none,
 fR 105 "_make" "Match._make" (i8 p 4 5) .none "cpy313.difflib" 289 (some 109),
 fR 123 "__repr__" "Match.__repr__" (i8 p 4 8) .none "cpy313.difflib" 289 none,
 fR 130 "_asdict" "Match._asdict" (i8 p 4 9) .none "cpy313.difflib" 289 none,
 fR 137 "__getnewargs__" "Match.__getnewargs__" (i8 p 4 10) .none "cpy313.difflib" 289 none,
 fR 161 "_calculate_ratio" "_calculate_ratio" (Oq p 5) .none "cpy313.difflib" 289 none,
 fR 176 "__init__" "SequenceMatcher.__init__" (i8 p 6 1) (.ref 170) "cpy313.difflib" 289 none,
 fR 183 "set_seqs" "SequenceMatcher.set_seqs" (i8 p 6 2) .none "cpy313.difflib" 289 none,
 fR 190 "set_seq1" "SequenceMatcher.set_seq1" (i8 p 6 3) .none "cpy313.difflib" 289 none,
 fR 197 "set_seq2" "SequenceMatcher.set_seq2" (i8 p 6 4) .none "cpy313.difflib" 289 none,
 fR 204 "__chain_b" "SequenceMatcher.__chain_b" (i8 p 6 5) .none "cpy313.difflib" 289 none,
 fR 212 "find_longest_match" "SequenceMatcher.find_longest_match" (i8 p 6 6) (.ref 206) "cpy313.difflib" 289 none,
 fR 219 "get_matching_blocks" "SequenceMatcher.get_matching_blocks" (i8 p 6 7) .none "cpy313.difflib" 289 none,
 fR 226 "get_opcodes" "SequenceMatcher.get_opcodes" (i8 p 6 8) .none "cpy313.difflib" 289 none,
 fR 234 "get_grouped_opcodes" "SequenceMatcher.get_grouped_opcodes" (i8 p 6 9) (.ref 228) "cpy313.difflib" 289 none,
 fR 241 "ratio" "SequenceMatcher.ratio" (i8 p 6 10) .none "cpy313.difflib" 289 none,
 fR 248 "quick_ratio" "SequenceMatcher.quick_ratio" (i8 p 6 11) .none "cpy313.difflib" 289 none,
 fR 255 "real_quick_ratio" "SequenceMatcher.real_quick_ratio" (i8 p 6 12) .none "cpy313.difflib" 289 none,
 fR 276 "__init__" "TupleComp.__init__" (i8 p 8 1) .none "cpy313.pstats" 670 none,
 fR 283 "compare" "TupleComp.compare" (i8 p 8 2) .none "cpy313.pstats" 670 none,
 fR 297 "add_callers" "add_callers" (Oq p 9) .none "cpy313.pstats" 670 none,
 fR 304 "count_calls" "count_calls" (Oq p 10) .none "cpy313.pstats" 670 none,
 fR 321 "quotedata" "quotedata" (Oq p 15) .none "cpy313.smtplib" 738 none,
 fR 344 "_formatparam" "_formatparam" (Oq p 20) (.ref 338) "cpy313.wsgiref.headers" 808 none,
 fR 359 "__init__" "Headers.__init__" (i8 p 21 1) (.ref 353) "cpy313.wsgiref.headers" 808 none,
 fR 366 "_convert_string_type" "Headers._convert_string_type" (i8 p 21 2) .none "cpy313.wsgiref.headers" 808 none,
 fR 373 "__len__" "Headers.__len__" (i8 p 21 3) .none "cpy313.wsgiref.headers" 808 none,
 fR 380 "__setitem__" "Headers.__setitem__" (i8 p 21 4) .none "cpy313.wsgiref.headers" 808 none,
 fR 385 "__delitem__" "Headers.__delitem__" (i8 p 21 5) .none "cpy313.wsgiref.headers" 808 none,
 fR 392 "__getitem__" "Headers.__getitem__" (i8 p 21 6) .none "cpy313.wsgiref.headers" 808 none,
 fR 399 "__contains__" "Headers.__contains__" (i8 p 21 7) .none "cpy313.wsgiref.headers" 808 none,
 fR 404 "get_all" "Headers.get_all" (i8 p 21 8) .none "cpy313.wsgiref.headers" 808 none,
 fR 412 "get" "Headers.get" (i8 p 21 9) (.ref 406) "cpy313.wsgiref.headers" 808 none,
 fR 417 "keys" "Headers.keys" (i8 p 21 10) .none "cpy313.wsgiref.headers" 808 none,
 fR 422 "values" "Headers.values" (i8 p 21 11) .none "cpy313.wsgiref.headers" 808 none,
 fR 429 "items" "Headers.items" (i8 p 21 12) .none "cpy313.wsgiref.headers" 808 none,
 fR 436 "__repr__" "Headers.__repr__" (i8 p 21 13) .none "cpy313.wsgiref.headers" 808 none,
 fR 441 "__str__" "Headers.__str__" (i8 p 21 14) .none "cpy313.wsgiref.headers" 808 none,
 fR 448 "__bytes__" "Headers.__bytes__" (i8 p 21 15) .none "cpy313.wsgiref.headers" 808 none,
 fR 455 "setdefault" "Headers.setdefault" (i8 p 21 16) .none "cpy313.wsgiref.headers" 808 none,
 fR 462 "add_header" "Headers.add_header" (i8 p 21 17) .none "cpy313.wsgiref.headers" 808 none,
 fR 474 "law" "law" (Oq p 23) .none "law_wv0065_01" 1089 none]
noncomputable def KF(ds:ia→qa):Frag:=(aaf pw).map λ(k,x,q,s,r,m,c)=>(k+1,⟨.type "function",none,.func (fnOf x q (CC s) (aN s) (CH s) r .none (ds (k+1)) m c (.ref k) .none),#[]⟩)
noncomputable def Yo:aa ia:=[2,3,32,34,35,37,46,48,49,51,53,54,56,57,59,61,63,64,66,68,70,71,73,75,76,77,78,79,82,85,90,91,92,93,95,96,98,100,102,103,105,107,108,109,110,111,113,114,116,118,120,121,123,125,127,128,130,132,134,135,137,139,140,141,143,144,146,147,149,151,152,153,156,158,159,161,170,171,173,174,176,178,180,181,183,185,187,188,190,192,194,195,197,199,201,202,204,206,207,209,210,212,214,216,217,219,221,223,224,226,228,229,231,232,234,236,238,239,241,243,245,246,248,250,252,253,255,257,258,259,260,261,271,273,274,276,278,280,281,283,285,286,287,288,289,292,294,295,297,299,301,302,304,309,310,314,315,316,318,319,321,326,327,331,332,336,337,338,339,341,342,344,353,354,356,357,359,361,363,364,366,368,370,371,373,375,377,378,380,382,385,387,389,390,392,394,396,397,399,401,404,406,407,409,410,412,414,417,419,422,424,426,427,429,431,433,434,436,438,441,443,445,446,448,450,452,453,455,457,459,460,462,464,465,466,467,468,471,474]
noncomputable def Yn:aa ia:=[38,52,60,67,74,99,106,124,131,138,162,177,184,191,198,205,213,220,227,235,242,249,256,277,284,298,305,322,345,360,367,374,381,386,393,400,405,413,418,423,430,437,442,449,456,463,475]
theorem NB:∀P d,Yo=(KO P d).map (·.1):=λz_ z_=>by kernel_rfl
noncomputable def gW(v:qa)(o:Obj):Obj:=match o with
 |⟨c,d,.dict es n,sl⟩=>(match es.toList with|a::b::e::r=>⟨c,d,.dict (a::b::⟨e.hash,e.key,v⟩::r).toArray n,sl⟩|_=>⟨c,d,.dict es n,sl⟩)
 |o=>o
noncomputable abbrev FT:=(qa×Ma ia×Ua (Ma qa)×Str×Str×Arguments)×(FuncBody×Lc×ia×aa (Str×ia)×qa×qa)×(qa×Ma ia×qa×qa×ia)
noncomputable def FKp(p:Fd):aa (ia×FT):=(aaf p).map λ(k,x,q,s,r,m,c)=>(k+1,((.type "function",none,#[],x,q,CC s),(.stmts (aN s),CH s,3,[],r,.none),(m,c,.ref k,.none,0)))
noncomputable def FK:aa (ia×FT):=FKp pw
theorem Nz:Yn=FK.map (·.1):=by kernel_rfl
noncomputable def Kr(as:aa ia)(s:Ud):aa (Ma FT):=as.map λa=>match zd a s.n with
 |true=>(match s.tree.get a with
  |some ⟨c,d,.func f,sl⟩=>some ((c,d,sl,f.name,f.qualname,f.params),(f.body,f.scope,f.globals,f.closure,f.defaults,f.kwdefaults),(f.pyModule,f.annotations,f.code,f.closureTuple,f.builtins))
  |_=>none)
 |false=>none
noncomputable def Ks(as:aa ia)(s:Ud):aa (Ma Obj):=as.map λa=>match zd a s.n with
 |true=>(s.tree.get a).map λo=>match Oc a 258 with|true=>gW .none o|false=>o
 |false=>none
noncomputable def q:Fd:=view pw [0,23]
noncomputable def loose:aa Str:=["_wall","_tuplegetter","Match","_calculate_ratio","SequenceMatcher","TupleComp","add_callers","count_calls","_twin_re_1","_twin_re_2","CRLF","quotedata","tspecials","_name_disallowed_re","_value_disallowed_re","_formatparam","Headers"]
noncomputable def Xt(s:za):Ga:=recOk [] s
noncomputable def lhsG(p:Fd)(w:Oa):=pQ tab p 8000 (openSeen (view p [0,23]) loose (importedModules p.main.body) Xt true) (λs=>(Kr Yn s,Ks Yo s,s.n)) w
noncomputable def Z1(p:Fd)(w:Oa):=some (openGood (view p [0,23]) loose,((FKp p).map λp=>some p.2,(KO w.params .none).map λp=>some p.2,476))
noncomputable def rhs(w:Oa):=some (openGood q loose,(FK.map λp=>some p.2,(KO w.params .none).map λp=>some p.2,476))
noncomputable def lhs(w:Oa):=pQ tab Qg 8000 (openSeen q loose (importedModules Qg.main.body) Xt true) (λs=>(Kr Yn s,Ks Yo s,s.n)) w
theorem lhsG_self:lhsG=lhsG:=rfl
end Mine
set_option maxHeartbeats 0 in
name_quick mineLhsG for Mine.lhsG by Mine.lhsG_self
namespace Mine
open PySem PySem.W PySem.Calls PyProof.Rows
noncomputable def OR(s:Va):Str:=match docOf (BO s)with|some d=>d|none=>⟨#[]⟩
set_option backward.match.sparseCases false in
noncomputable def LJ(x:Str):Va→Va
 |.ClassDef a b c (.Expr (.Constant (.str _) k p) q::t) d e f g h i j=>.ClassDef a b c (.Expr (.Constant (.str x) k p) q::t) d e f g h i j
 |s=>s
noncomputable def P9(f:Va→Va):aa Va→aa Va
 |a::b::c::d::e::g::h::t=>a::b::c::d::e::g::f h::t
 |l=>l
noncomputable def pwD(x:Str):Fd:={pw with main:={pw.main with body:=P9 (LJ x) pw.main.body}}
set_option maxRecDepth 100000 in
theorem Gl:pwD (OR (st 6))=Qg:=by kernel_rfl
set_option maxRecDepth 100000 in
noncomputable def NG:{cs:aa Char//OR (st 6)=ya (Yb.ofList cs)}:=⟨_,rfl⟩
noncomputable def codes(l:aa Char):aa Nat:=@Rc Char (λz_=>aa Nat) [] (λc z_ ih=>c.toNat::ih) l
theorem wD:∀l:aa Char,codes l=l.map Char.toNat
 |[]=>rfl
 |c::l=>Cc (c.toNat:: ·) (wD l)
noncomputable def IU:Str:=⟨(codes NG.1).toArray⟩
theorem AA:IU=OR (st 6):=by
 rw[NG.2,PySem.W.Fast.ofString_ofList,←wD];rfl
set_option maxRecDepth 100000 in
theorem B6:∀w,PySem.W.Fast.mineLhsG (pwD IU) w=Z1 (pwD IU) w:=λw=>by kernel_rfl
theorem EN:∀w,lhs w=rhs w:=λw=>by
 show lhsG Qg w=Z1 Qg w
 rw[←Gl,←AA,PySem.W.Fast.mineLhsG_eq];exact B6 w
end Mine
namespace Mine
set_option tactic.hygienic true
open PySem PySem.W PySem.Calls PyProof.Rows
noncomputable def CI(as:aa ia)(h:Ja):aa (Ma FT):=as.map λa=>match h.get? a with
 |some ⟨c,d,.func f,sl⟩=>some ((c,d,sl,f.name,f.qualname,f.params),(f.body,f.scope,f.globals,f.closure,f.defaults,f.kwdefaults),(f.pyModule,f.annotations,f.code,f.closureTuple,f.builtins))
 |_=>none
noncomputable def CJ(as:aa ia)(h:Ja):aa (Ma Obj):=as.map λa=>(h.get? a).map λo=>match Oc a 258 with|true=>gW .none o|false=>o
theorem vm(o:Obj)(v:qa):(gW v o).isFreed=o.isFreed:=by
 obtain⟨c,d,dt,sl⟩:=o
 cases dt<;> try rfl
 rename_i es n
 obtain⟨l⟩:=es
 match l with
 |[]=>rfl
 |[_]=>rfl
 |[_,_]=>rfl
 |_::_::_::_=>rfl
theorem KY{s:Ud}{l:aa (ia×FT)}:Kr (l.map (·.1)) s=l.map (λp=>some p.2)→CI (l.map (·.1)) s.abs.heap=l.map λp=>some p.2:=by
 induction l with
 |nil=>exactλz_=>rfl
 |cons q l ih=>
  obtain⟨a,t⟩:=q
  intro h
  simp only[Kr,Ib,Qe]at h
  simp only[CI,Ib,Qe]
  refine⟨?_,ih h.2⟩
  have h1:=h.1
  cases hb:zd a s.n with
  |false=>rw[hb]at h1;cases h1
  |true=>
   rw[hb]at h1
   have lt:a<s.n:=Mb hb
   cases hg:s.tree.get a with
   |none=>rw[hg]at h1;cases h1
   |some o=>
    have e:s.abs.heap.get? a=alive o:=abs_get lt hg
    rw[hg]at h1
    refine(e ..).symm▸ ?_
    obtain⟨c,d,dt,sl⟩:=o
    cases dt<;> first|exact h1|cases h1
theorem KZ{s:Ud}{l:aa (ia×Obj)}:Ks (l.map (·.1)) s=l.map (λp=>some p.2)→(l.all λp=> !p.2.isFreed)=true→CJ (l.map (·.1)) s.abs.heap=l.map λp=>some p.2:=by
 induction l with
 |nil=>exactλz_ z_=>rfl
 |cons q l ih=>
  obtain⟨a,t⟩:=q
  intro h hf
  simp only[Ks,Ib,Qe]at h
  simp only[aa.all_cons,Bd]at hf
  simp only[CJ,Ib,Qe]
  refine⟨?_,ih h.2 hf.2⟩
  have h1:=h.1
  cases hb:zd a s.n with
  |false=>rw[hb]at h1;cases h1
  |true=>
   rw[hb]at h1
   have lt:a<s.n:=Mb hb
   cases hg:s.tree.get a with
   |none=>rw[hg]at h1;cases h1
   |some o=>
    have e:s.abs.heap.get? a=alive o:=abs_get lt hg
    rw[hg]at h1
    refine(e ..).symm▸ ?_
    have hfo:o.isFreed=false:=by
     have h2:(match Oc a 258 with|true=>gW .none o|false=>o)=t:=Oe h1
     have h3:(match Oc a 258 with|true=>gW .none o|false=>o).isFreed=o.isFreed:=by
      cases Oc a 258<;> first|rfl|exact vm o .none
     refine(h3 ..)▸(h2 ..).symm▸ ?_
     have:=hf.1
     simpa using this
    have:alive o=some o:=by
     obtain⟨c,d,dt,sl⟩:=o
     cases dt<;> first|rfl|(simp[Obj.isFreed]at hfo)
    refine(this ..).symm▸ ?_
    exact h1
theorem HY:∀P,((KO P .none).all λp=> !p.2.isFreed)=true:=λz_=>by kernel_rfl
noncomputable def Yf(s:za):aa (Ma FT)×aa (Ma Obj):=(CI Yn s.heap,CJ Yo s.heap)
noncomputable def Ya(w:Oa):aa (Ma FT)×aa (Ma Obj):=(FK.map λp=>some p.2,(KO w.params .none).map λp=>some p.2)
noncomputable def YP(w:Oa)(h:Ja):Prop:=∃ds d,(KF ds).In h∧(KO w.params d).In h
theorem left:LeftO pw q loose Xt Yf Ya 8000:=λw=>by
 have h:=EN w
 unfold lhs rhs at h
 rw[←Qx]at h
 refine zl h λs hs=> ?_
 obtain⟨h1,h2⟩:=Prod.mk.inj hs
 obtain⟨h3,h4⟩:=Prod.mk.inj h2
 obtain⟨h4,_⟩:=Prod.mk.inj h4
 refine Prod.ext h1 (Prod.ext ?_ ?_)
 ·show CI Yn s.abs.heap=_
  rw[Nz]at h3⊢
  exact KY h3
 ·show CJ Yo s.abs.heap=_
  rw[NB w.params .none]at h4⊢
  exact KZ h4 (HY w.params)
noncomputable def Az(h:Ja)(a:ia):qa:=match h.get? a with
 |some ⟨_,_,.func f,_⟩=>f.doc
 |_=>.none
noncomputable def ZS(t:FT)(d:qa):Obj:=⟨t.1.1,t.1.2.1,.func {name:=t.1.2.2.2.1,qualname:=t.1.2.2.2.2.1,params:=t.1.2.2.2.2.2,body:=t.2.1.1,scope:=t.2.1.2.1,globals:=t.2.1.2.2.1,closure:=t.2.1.2.2.2.1,defaults:=t.2.1.2.2.2.2.1,kwdefaults:=t.2.1.2.2.2.2.2,doc:=d,pyModule:=t.2.2.1,annotations:=t.2.2.2.1,code:=t.2.2.2.2.1,closureTuple:=t.2.2.2.2.2.1,builtins:=t.2.2.2.2.2.2},t.1.2.2.1⟩
theorem QW(ds:ia→qa):KF ds=FK.map λp=>(p.1,ZS p.2 (ds p.1)):=by kernel_rfl
theorem aah{h:Ja}{l:aa (ia×FT)}:CI (l.map (·.1)) h=l.map (λp=>some p.2)→(l.map (·.1)).map h.get? =l.map λp=>some (ZS p.2 (Az h p.1)):=by
 induction l with
 |nil=>exactλz_=>rfl
 |cons q l ih=>
  obtain⟨a,t⟩:=q
  intro e
  simp only[CI,Ib,Qe]at e
  simp only[Ib,Qe]
  refine⟨?_,ih e.2⟩
  have h1:=e.1
  cases hg:h.get? a with
  |none=>rw[hg]at h1;cases h1
  |some o=>
   rw[hg]at h1
   obtain⟨c,d,dt,sl⟩:=o
   cases dt<;> first|(cases h1;done)|skip
   rename_i f
   cases h1
   have:Az h a=f.doc:=by unfold Az;rw[hg]
   refine(this ..).symm▸ ?_
   rfl
noncomputable def yY(o:Obj):qa:=match o.data with
 |.dict es _=>(match es.toList with|_::_::e::_=>e.val|_=>.none)
 |_=>.none
theorem zO(o:Obj):gW (yY o) (gW .none o)=o:=by
 obtain⟨c,d,dt,sl⟩:=o
 cases dt<;> try rfl
 rename_i es n
 obtain⟨l⟩:=es
 match l with
 |[]=>rfl
 |[_]=>rfl
 |[_,_]=>rfl
 |_::_::_::_=>rfl
noncomputable def D9(h:Ja):qa:=match h.get? 258 with
 |some o=>yY o
 |none=>.none
noncomputable def Hu(d:qa)(a:ia)(o:Obj):Obj:=match Oc a 258 with|true=>gW d o|false=>o
theorem QX(P:Params)(d:qa):KO P d=(KO P .none).map λp=>(p.1,Hu d p.1 p.2):=by kernel_rfl
theorem aai{h:Ja}{l:aa (ia×Obj)}:CJ (l.map (·.1)) h=l.map (λp=>some p.2)→(l.map (·.1)).map h.get? =l.map λp=>some (Hu (D9 h) p.1 p.2):=by
 induction l with
 |nil=>exactλz_=>rfl
 |cons q l ih=>
  obtain⟨a,t⟩:=q
  intro e
  simp only[CJ,Ib,Qe]at e
  simp only[Ib,Qe]
  refine⟨?_,ih e.2⟩
  have h1:=e.1
  cases hg:h.get? a with
  |none=>rw[hg]at h1;cases h1
  |some o=>
   rw[hg]at h1
   have h2:(match Oc a 258 with|true=>gW .none o|false=>o)=t:=Oe h1
   unfold Hu
   cases hb:Oc a 258 with
   |false=>rw[hb]at h2;exact Cc some h2
   |true=>
    rw[hb]at h2
    have h3:gW .none o=t:=h2
    have ea:=vg hb
    subst ea
    have:D9 h=yY o:=by unfold D9;rw[hg]
    show some o=some (gW (D9 h) t)
    refine(this ..).symm▸(h3 ..)▸ ?_
    exact Cc some (zO o).symm
theorem E6{α:Type}{h:Ja}{l:aa (ia×α)}{g:ia×α→Obj}(e:(l.map (·.1)).map h.get? =l.map λp=>some (g p)):Frag.In (l.map λp=>(p.1,g p)) h:=by
 refine Frag.in_of (as:=l.map (·.1)) ?_ ?_
 ·rw[Eb];rfl
 ·rw[e,Eb];rfl
theorem Q4(w:Oa)(s:za)(e:Yf s=Ya w):YP w s.heap:=by
 obtain⟨e1,e2⟩:=Prod.mk.inj e
 rw[Nz]at e1
 rw[NB w.params .none]at e2
 have h1:=E6 (aah e1)
 have h2:=E6 (aai e2)
 rw[←QW]at h1
 rw[←QX]at h2
 exact⟨Az s.heap,D9 s.heap,h1,h2⟩
theorem DB(w:Oa)(h h':Ja)(x:YP w h)(k:∀b o,h.get? b=some o→h'.get? b=some o):YP w h':=by
 obtain⟨ds,d,a,b⟩:=x
 exact⟨ds,d,a.keeps k,b.keeps k⟩
end Mine
namespace Mine
open PySem PySem.W PySem.Calls PyProof.Rows
structure aW(w:Oa)(ds:ia→qa)(d:qa)(h:Ja):Prop where
 kf:(KF ds).In h
 ko:(KO w.params d).In h
 gl:∃mg,h.Ns mainGlobals mg
 bl:∃mb,h.Ns builtinsNs mb∧∀x:Str,x≠"__name__"→mb x=bootBuiltins x
 nolimit:h.NoLimit
 nodigits:∃mc,h.Ns cStatics mc∧mc "sys.int_max_str_digits"=none
theorem aW.keeps{w:Oa}{ds:ia→qa}{d:qa}{h h':Ja}(G:aW w ds d h)(k:∀b o,h.get? b=some o→h'.get? b=some o):aW w ds d h':=
 ⟨G.kf.keeps k,G.ko.keeps k,let⟨mg,a⟩:=G.gl;⟨mg,a.keeps k⟩,let⟨mb,a,b⟩:=G.bl;⟨mb,a.keeps k,b⟩,G.nolimit.keeps k,let⟨mc,a,b⟩:=G.nodigits;⟨mc,a.keeps k,b⟩⟩
noncomputable def Ends(s:za)(v:qa)(s':za):Prop:=v=.bool true∧∃h' tk,s'={s with heap:=h',toks:=tk}∧∀b o,s.heap.get? b=some o→h'.get? b=some o
noncomputable def Walk:Prop:=∀(w:Oa) (s:za) (ds:ia→qa) (d:qa),aW w ds d s.heap→s.gens= #[]→∀(ns:aa Int) (vs:aa qa) (l:ia),ns.length≤63→s.heap.IsList l vs.toArray→IntsAre vs ns→
 Ia (model pw w) callerA (Ic (.ref 475) [.ref l]) (Ends s) (λz_ z_=>gc) s
noncomputable def PG:DefRec:=⟨ya "law",CC (st 23),aN (st 23),CH (st 23),⟨643,0,705,73⟩⟩
noncomputable def wsG(p:Fd):Ga:=OpenLaw.wellSaid {prog:=p,name:="law",about:=["SequenceMatcher","find_longest_match"],foot:=1,most:=some 63,bound:=none,writes:=false}
theorem wsG_self:wsG=wsG:=rfl
end Mine
set_option maxHeartbeats 0 in
name_quick mineWsG for Mine.wsG by Mine.wsG_self
namespace Mine
open PySem PySem.W PySem.Calls PyProof.Rows
set_option maxRecDepth 100000 in
theorem Z8:PySem.W.Fast.mineWsG (pwD IU)=true:=by kernel_rfl
theorem Z9:gk.wellSaid=true:=by
 show wsG Qg=true
 rw[←Gl,←AA,PySem.W.Fast.mineWsG_eq];exact Z8
set_option maxRecDepth 100000 in
set_option tactic.hygienic true in
set_option maxHeartbeats 0 in
theorem PK(walk:Walk):gk.Holds:=by
 w_on;refine holds_law Z9 λabe=> ?_
 refine holds_open (q:=q) (loose:=loose) (Xt:=Xt) (XP:=λz_ z_=>True) (Yf:=Yf) (Ya:=Ya) (YP:=YP) (N:=8000) (d:=PG) (kwd:=[]) left Q4 DB (λz_ z_=>trivial) (λz_ z_ z_ z_ z_=>trivial) (by kernel_rfl) (by kernel_rfl) (by kernel_rfl) (λs e=>recFacts_of e) (by rfl) (by assumption) (by decide+kernel) ⟨rfl,rfl,rfl,rfl,rfl,by decide+kernel⟩ ?hw ?hc
 case hw=>w_witness2
 intro w s₀ s₁ mg mb G Y a o pm cd doc dV kV ho hd oR hD Pu hg args vals as aaU aaQ hrd hwl hlo
 clear hd hD oR ho
 refine Ground.open G ?_
 intro T B D TE TW
 wrow_args aaU aaQ hrd hwl hlo
 rename_i ns hs aa9 hL1 hr1 HJ w4 w3 l vs wx hL ra w1 r0 hI hr hc1 O7
 obtain⟨ds,d,kf,ko⟩:=Y
 have ha:mg (ya "law")=some (.ref 475):=mg_of ko T.g (by kernel_rfl)
 have e:a=475:=by
  have h2:mg (ya "law")=some (.ref a):=Pu
  rw[ha]at h2
  exact(qa.ref.inj (Oe h2)).symm
 subst e
 have W:=walk w s₁ ds d ⟨kf,ko,⟨_,T.g⟩,⟨_,T.b,T.builtins⟩,T.nolimit,T.nodigits⟩ hg ns vs l (by exact SJ hc1) hL hI
 refine Pa W (λv s' hv=> ?_) λz_ z_ x=>x.elim
 obtain⟨rfl,h',tk,rfl,hk⟩:=hv
 refine GoodW.toG ⟨.inl ⟨.bool true,.bool true,[],rfl,?_,.bool true,?_,λz_=>unshared_nil trivial⟩,hk,rfl,hg⟩
 ·exact raisesW_false (by wrow_none_raised)
 ·wrow_post
end Mine
namespace Mine
theorem xA{p0 p1:Prop}{P:Prop}(h:p0∧p1)(k:p0→p1→P):P:=let⟨h0,h1⟩:=h;k h0 h1
theorem xE.{u0}{α0:Sort u0}{p0:α0→Prop}{P:Prop}(h:∃a0,p0 a0)(k:∀a0,p0 a0→P):P:=let⟨a0,h0⟩:=h;k a0 h0
theorem yI{p0 p1 p2:Prop}{P:Prop}(h:p0∧p1∧p2)(k:p0→p1→p2→P):P:=let⟨h0,h1,h2⟩:=h;k h0 h1 h2
theorem bE.{u0}{α0:Sort u0}{p0 p1:α0→Prop}{P:Prop}(h:∃a0,p0 a0∧p1 a0)(k:∀a0,p0 a0→p1 a0→P):P:=let⟨a0,h0,h1⟩:=h;k a0 h0 h1
theorem xEE.{u0,u1}{α0:Sort u0}{α1:Sort u1}{p0:α0→α1→Prop}{P:Prop}(h:∃a0 a1,p0 a0 a1)(k:∀a0 a1,p0 a0 a1→P):P:=let⟨a0,a1,h0⟩:=h;k a0 a1 h0
theorem eS{p0 p1 p2 p3:Prop}{P:Prop}(h:p0∧p1∧p2∧p3)(k:p0→p1→p2→p3→P):P:=let⟨h0,h1,h2,h3⟩:=h;k h0 h1 h2 h3
theorem mO.{u0}{α0:Sort u0}{p0 p1 p2:α0→Prop}{P:Prop}(h:∃a0,p0 a0∧p1 a0∧p2 a0)(k:∀a0,p0 a0→p1 a0→p2 a0→P):P:=let⟨a0,h0,h1,h2⟩:=h;k a0 h0 h1 h2
theorem lK.{u0,u1}{α0:Sort u0}{α1:Sort u1}{p0 p1:α0→α1→Prop}{P:Prop}(h:∃a0 a1,p0 a0 a1∧p1 a0 a1)(k:∀a0 a1,p0 a0 a1→p1 a0 a1→P):P:=let⟨a0,a1,h0,h1⟩:=h;k a0 a1 h0 h1
theorem Bv.{u0}{α0:Sort u0}{p0 p1 p2 p3:α0→Prop}{P:Prop}(h:∃a0,p0 a0∧p1 a0∧p2 a0∧p3 a0)(k:∀a0,p0 a0→p1 a0→p2 a0→p3 a0→P):P:=let⟨a0,h0,h1,h2,h3⟩:=h;k a0 h0 h1 h2 h3
theorem Ov.{u0,u1}{α0:Sort u0}{α1:Sort u1}{p0 p1 p2:α0→α1→Prop}{P:Prop}(h:∃a0 a1,p0 a0 a1∧p1 a0 a1∧p2 a0 a1)(k:∀a0 a1,p0 a0 a1→p1 a0 a1→p2 a0 a1→P):P:=let⟨a0,a1,h0,h1,h2⟩:=h;k a0 a1 h0 h1 h2
theorem Ow.{u0,u1,u2}{α0:Sort u0}{α1:Sort u1}{α2:Sort u2}{p0 p1:α0→α1→α2→Prop}{P:Prop}(h:∃a0 a1 a2,p0 a0 a1 a2∧p1 a0 a1 a2)(k:∀a0 a1 a2,p0 a0 a1 a2→p1 a0 a1 a2→P):P:=let⟨a0,a1,a2,h0,h1⟩:=h;k a0 a1 a2 h0 h1
theorem vO.{u0,u1}{α0:Sort u0}{α1:Sort u1}{p0 p1 p2 p3:α0→α1→Prop}{P:Prop}(h:∃a0 a1,p0 a0 a1∧p1 a0 a1∧p2 a0 a1∧p3 a0 a1)(k:∀a0 a1,p0 a0 a1→p1 a0 a1→p2 a0 a1→p3 a0 a1→P):P:=let⟨a0,a1,h0,h1,h2,h3⟩:=h;k a0 a1 h0 h1 h2 h3
theorem Hw.{u0,u1,u2}{α0:Sort u0}{α1:Sort u1}{α2:Sort u2}{p0 p1 p2:α0→α1→α2→Prop}{P:Prop}(h:∃a0 a1 a2,p0 a0 a1 a2∧p1 a0 a1 a2∧p2 a0 a1 a2)(k:∀a0 a1 a2,p0 a0 a1 a2→p1 a0 a1 a2→p2 a0 a1 a2→P):P:=let⟨a0,a1,a2,h0,h1,h2⟩:=h;k a0 a1 a2 h0 h1 h2
theorem LK.{u0,u1}{α0:Sort u0}{α1:Sort u1}{p0 p1 p2 p3 p4:α0→α1→Prop}{P:Prop}(h:∃a0 a1,p0 a0 a1∧p1 a0 a1∧p2 a0 a1∧p3 a0 a1∧p4 a0 a1)(k:∀a0 a1,p0 a0 a1→p1 a0 a1→p2 a0 a1→p3 a0 a1→p4 a0 a1→P):P:=let⟨a0,a1,h0,h1,h2,h3,h4⟩:=h;k a0 a1 h0 h1 h2 h3 h4
theorem pU.{u0,u1,u2}{α0:Sort u0}{α1:Sort u1}{α2:Sort u2}{p0 p1 p2 p3:α0→α1→α2→Prop}{P:Prop}(h:∃a0 a1 a2,p0 a0 a1 a2∧p1 a0 a1 a2∧p2 a0 a1 a2∧p3 a0 a1 a2)(k:∀a0 a1 a2,p0 a0 a1 a2→p1 a0 a1 a2→p2 a0 a1 a2→p3 a0 a1 a2→P):P:=let⟨a0,a1,a2,h0,h1,h2,h3⟩:=h;k a0 a1 a2 h0 h1 h2 h3
open PySem PySem.W PySem.Calls PyProof.Rows
noncomputable def notStar(e:Ba):Ga:= !(e.ctorIdx==22)
noncomputable def br(e:Ba):Ga:= !(e.ctorIdx==7)
noncomputable def cT(e:Ba):Ga:= !(e.ctorIdx==26)
noncomputable def cR(e:Ba):Ga:= !(Mf 8 e.ctorIdx&&Mf e.ctorIdx 10)
noncomputable def nW(e:Ba):Ga:= !(e.ctorIdx==0||e.ctorIdx==3||e.ctorIdx==5||e.ctorIdx==15)
theorem aF(e:Ba)(es:aa Ba)(env:Env)(h:notStar e=true):Rb (e::es) env=(false,eval e env)::Rb es env:=by
 cases e<;> first|rfl|cases h
theorem mY{op:CmpOp}{e:Ba}(h:br e=true):behindInMarks op e=false:=by
 cases e<;> first|rfl|cases h
theorem gF{e:Ba}{env:Env}(h:br e=true):∀x,foldedSetIterable e env x=pure x:=by
 intro x;cases e<;> first|rfl|cases h
theorem tE{e:Ba}{env:Env}(h:nW e=true):isTrue e env (eval e env)=(do let v←eval e env;standAt e.pos;holding [v] (truthy v)):=by
 cases e<;> first|rfl|cases h
theorem mH{k:Ba}(h:cT k=true)(l:ia)(i:Int)(t:Tok):∃ops,subscripted k false (.ref l) (.int i t)=operate ops (getItem (.ref l) (.int i t)):=by
 cases k<;> first|exact⟨_,rfl⟩|cases h
theorem CU{k:Ba}(h:cT k=true)(a b:qa):subscripted k false a b=operate [a,b] (getItem a b):=by
 cases k<;> first|rfl|cases h
theorem nZ{lo hi:Ma Ba}{p:Pos}(l k:ia):∃ops,subscripted (.Slice lo hi none p) false (.ref l) (.ref k)=operate ops (getItem (.ref l) (.ref k)):=⟨_,rfl⟩
theorem dH{value:Ba}{t:Ma Ba}{n:Nat}{env:Env}(h:cR value=true):swapsWith value t n env=pure false:=by
 cases value<;> first|rfl|cases h
theorem D0{k:Ba}(h:cT k=true)(ov iv new:qa):augStore k ov iv new=(do holding [new,ov,iv] (Gi ov iv new);release [new,ov,iv] [];pure .next):=by
 cases k<;> first|rfl|cases h
theorem bM(t:Ba)(ts:aa Ba)(env:Env)(h:notStar t=true):assignEach (t::ts) env=(false,assign t env)::assignEach ts env:=by
 cases t<;> first|rfl|cases h
noncomputable def Ot(scope:Lc)(t:Str)(env:Env)(l1 l2:Nat):Ga:=env.blockKind== .function&&env.kindOf t==some .local&&l1==l2&& !(scope.names.any λ(n,k)=>n==t&&(k== .local||k== .cell))
theorem gZ{elt:Ba}{gens:aa Comprehension}{scope:Lc}{pos pos':Pos}{t:Str}{n:Nat}{env:Env}{b:Ga}(h:Ot scope t env pos'.line pos.line=b):
  swapsWith (.ListComp elt gens scope pos) (some (.Name t pos')) n env=pure b:=h▸rfl
theorem rN{elt:Ba}{gens:aa Comprehension}{scope:Lc}{pos pos':Pos}{t:Str}{n:Nat}{env:Env}(h:env.kindOf t=some .cell):
  swapsWith (.ListComp elt gens scope pos) (some (.Name t pos')) n env=pure false:=gZ (by unfold Ot;rw[h];cases env.blockKind== .function<;> rfl)
noncomputable def pI:aa Str→Ga
 |[]=>true
 |x::l=> !(l.any (· ==x)) &&pI l
theorem bD:∀{l:aa Str},pI l=true→l.Nodup
 |[],_=>yh
 |x::l,h=>by
  simp only[pI,Bd,Ii]at h
  refine Pd.mpr ⟨λhx=> ?_,bD h.2⟩
  have:=Xh.mp h.1 x hx
  simp at this
end Mine
namespace Mine
open PySem PySem.W PySem.Calls PyProof.Rows
noncomputable def Up(h h':Ja):Prop:=∀b o,h.get? b=some o→h'.get? b=some o
theorem Up.refl(h:Ja):Up h h:=λz_ z_ e=>e
theorem Up.trans{a b c:Ja}(x:Up a b)(y:Up b c):Up a c:=λz_ z_ e=>y _ _ (x _ _ e)
noncomputable def Kp(s s':za):Prop:=∃h' tk,s'={s with heap:=h',toks:=tk}∧Up s.heap h'
theorem Kp.up{s s':za}(k:Kp s s'):Up s.heap s'.heap:=by obtain⟨h',tk,rfl,hk⟩:=k;exact hk
theorem Kp.bN(s:za):Kp s s:=⟨s.heap,s.toks,rfl,λz_ z_ e=>e⟩
theorem Kp.tok(s:za)(n:Nat):Kp s {s with toks:=n}:=⟨s.heap,n,rfl,Up.refl _⟩
theorem Kp.trans'{a b c:za}(x:Kp a b)(y:Kp b c):Kp a c:=by
 obtain⟨h1,t1,rfl,k1⟩:=x
 obtain⟨h2,t2,rfl,k2⟩:=y
 exact⟨h2,t2,rfl,λz_ z_ e=>k2 _ _ (k1 _ _ e)⟩
noncomputable abbrev Md(w:Oa):Model:=model pw w
noncomputable abbrev Rp:=Ja→qa→Prop
noncomputable def Dw(R:Rp):Prop:=∀h h' v,Up h h'→R h v→R h' v
noncomputable def IsI(i:Int):Rp:=λz_ v=>∃t,v=.int i t
noncomputable def IsB(b:Ga):Rp:=λz_ v=>v=.bool b
noncomputable def IsS(x:Str):Rp:=λz_ v=>∃t,v=.str x t
noncomputable def IsV(u:qa):Rp:=λz_ v=>v=u
theorem IsI.mono(i:Int):Dw (IsI i):=λz_ z_ z_ z_ x=>x
theorem IsB.mono(i:Ga):Dw (IsB i):=λz_ z_ z_ z_ x=>x
theorem IsS.mono(i:Str):Dw (IsS i):=λz_ z_ z_ z_ x=>x
theorem IsV.mono(i:qa):Dw (IsV i):=λz_ z_ z_ z_ x=>x
mutual
inductive Rd(X:aa ia)(h:Ja):qa→PyData→Prop
 |none:Rd X h .none .none
 |bool (b):Rd X h (.bool b) (.bool b)
 |int (i t):Rd X h (.int i t) (.int i)
 |str (x t):Rd X h (.str x t) (.str x)
 |list {a o vs n ds}:a∉X→h.get? a=some o→o.cls=.type "list"→o.dict=none→o.data=.seq vs n→aD X h vs.toList ds→Rd X h (.ref a) (.list ds)
 |tuple {a o vs n ds}:a∉X→h.get? a=some o→o.cls=.type "tuple"→o.data=.seq vs n→aD X h vs.toList ds→Rd X h (.ref a) (.tuple ds)
inductive aD(X:aa ia)(h:Ja):aa qa→aa PyData→Prop
 |nil:aD X h [] []
 |cons {v vs d ds}:Rd X h v d→aD X h vs ds→aD X h (v::vs) (d::ds)
end
@[elab_as_elim] theorem aD.ind {X:aa ia} {h:Ja} {M:aa qa→aa PyData→Prop} (nil:M [] []) (cons:∀v vs d ds,Rd X h v d→aD X h vs ds→M vs ds→M (v::vs) (d::ds)) {vs:aa qa} {ds:aa PyData} (r:aD X h vs ds):M vs ds:=
 aD.rec (motive_1:=λz_ z_ z_=>True) (motive_2:=λvs ds z_=>M vs ds) trivial (λz_=>trivial) (λz_ z_=>trivial) (λz_ z_=>trivial) (λz_ z_ z_ z_ z_ z_ z_=>trivial) (λz_ z_ z_ z_ z_ z_=>trivial) nil (λa b z_ ih=>cons _ _ _ _ a b ih) r
theorem Rd.at{X Y:aa ia}{h h':Ja}(k:∀b o,b∉X→h.get? b=some o→(∀vs n,o.data≠ .seq vs n)∨(b∉Y∧h'.get? b=some o)){v:qa}{d:PyData}(r:Rd X h v d):Rd Y h' v d:=
 Rd.rec (motive_1:=λv d z_=>Rd Y h' v d) (motive_2:=λvs ds z_=>aD Y h' vs ds) .none .bool .int .str
  (λhx h1 h2 hd h3 z_ ih=>(k _ _ hx h1).elim (λq=>absurd h3 (q _ _)) λq=>.list q.1 q.2 h2 hd h3 ih)
  (λhx h1 h2 h3 z_ ih=>(k _ _ hx h1).elim (λq=>absurd h3 (q _ _)) λq=>.tuple q.1 q.2 h2 h3 ih) .nil (λz_ z_ a b=>.cons a b) r
theorem aD.at{X Y:aa ia}{h h':Ja}(k:∀b o,b∉X→h.get? b=some o→(∀vs n,o.data≠ .seq vs n)∨(b∉Y∧h'.get? b=some o)){vs:aa qa}{ds:aa PyData}(r:aD X h vs ds):aD Y h' vs ds:=
 aD.ind .nil (λz_ z_ z_ z_ a z_ ih=>.cons (a.at k) ih) r
theorem Rd.up{X:aa ia}{h h':Ja}{v:qa}{d:PyData}(x:Rd X h v d)(u:Up h h'):Rd X h' v d:=x.at λz_ z_ hb e=>.inr ⟨hb,u _ _ e⟩
theorem aD.up{X:aa ia}{h h':Ja}{v:aa qa}{d:aa PyData}(x:aD X h v d)(u:Up h h'):aD X h' v d:=x.at λz_ z_ hb e=>.inr ⟨hb,u _ _ e⟩
noncomputable def IsD(X:aa ia)(d:PyData):Rp:=λh v=>Rd X h v d
theorem IsD.mono(X:aa ia)(d:PyData):Dw (IsD X d):=λz_ z_ z_ u x=>x.up u
theorem Rd.reads{X:aa ia}{h:Ja}{v:qa}{d:PyData}(r:Rd X h v d):∃as,Reads h v d as:=
 Rd.rec (motive_1:=λv d z_=>∃as,Reads h v d as) (motive_2:=λvs ds z_=>∃as,ReadsAll h vs ds as) ⟨_,.none⟩ (λb=>⟨_,.bool b⟩) (λi t=>⟨_,.int i t⟩) (λx t=>⟨_,.str x t⟩)
  (λz_ h1 h2 z_ h3 z_ ih=>ih.elim λz_ q=>⟨_,.list h1 h2 h3 q⟩) (λz_ h1 h2 h3 z_ ih=>ih.elim λz_ q=>⟨_,.tuple h1 h2 h3 q⟩) ⟨_,.nil⟩ (λz_ z_ a b=>a.elim λz_ p=>b.elim λz_ q=>⟨_,.cons p q⟩) r
theorem aD.reads{X:aa ia}{h:Ja}{vs:aa qa}{ds:aa PyData}(r:aD X h vs ds):∃as,ReadsAll h vs ds as:=
 aD.ind ⟨_,.nil⟩ (λz_ z_ z_ z_ a z_ b=>a.reads.elim λz_ p=>b.elim λz_ q=>⟨_,.cons p q⟩) r
@[elab_as_elim] theorem aD.uc {M:aa qa→Prop} {X:aa ia} {h:Ja} {vs:aa qa} {d:PyData} {ds:aa PyData} (r:aD X h vs (d::ds)) (k:∀v vs,Rd X h v d→aD X h vs ds→M (v::vs)):M vs:=by
 cases r with
 |cons a b=>exact k _ _ a b
theorem aD.inv{X:aa ia}{h:Ja}{v:qa}{vs:aa qa}{d:PyData}{ds:aa PyData}(r:aD X h (v::vs) (d::ds)):Rd X h v d∧aD X h vs ds:=by
 cases r with
 |cons a b=>exact⟨a,b⟩
@[elab_as_elim] theorem aD.un {M:aa qa→Prop} {X:aa ia} {h:Ja} {vs:aa qa} (r:aD X h vs []) (k:M []):M vs:=by cases r;exact k
theorem aD.length{X:aa ia}{h:Ja}{vs:aa qa}{ds:aa PyData}(r:aD X h vs ds):vs.length=ds.length:=aD.ind rfl (λz_ z_ z_ z_ z_ z_ ih=>Cc (· +1) ih) r
theorem aD.YV{X:aa ia}{h:Ja}{vs:aa qa}{ds:aa PyData}(r:aD X h vs ds):∀i:Nat,(∀d,ds[i]? =some d→∃v,vs[i]? =some v∧Rd X h v d)∧∀v,vs[i]? =some v→∃d,ds[i]? =some d∧Rd X h v d:=by
 refine aD.ind (λi=>⟨λd e=>(nomatch e),λd e=>(nomatch e)⟩) (λv vs d ds a z_ ih i=> ?_) r
 cases i with
 |zero=>exact⟨λd e=>Oe e▸⟨_,rfl,a⟩,λv e=>Oe e▸⟨_,rfl,a⟩⟩
 |succ i=>exact ih i
theorem aD.get{X:aa ia}{h:Ja}{vs:aa qa}{ds:aa PyData}(r:aD X h vs ds){i:Nat}{d:PyData}:ds[i]? =some d→∃v,vs[i]? =some v∧Rd X h v d:=(r.YV i).1 d
theorem aD.of_get{X:aa ia}{h:Ja}{vs:aa qa}{ds:aa PyData}(r:aD X h vs ds){i:Nat}{v:qa}:vs[i]? =some v→∃d,ds[i]? =some d∧Rd X h v d:=(r.YV i).2 v
theorem aD.append{X:aa ia}{h:Ja}{vs us:aa qa}{ds es:aa PyData}(r:aD X h vs ds)(q:aD X h us es):aD X h (vs++us) (ds++es):=aD.ind q (λz_ z_ z_ z_ a z_ ih=>.cons a ih) r
theorem aD.YD{X:aa ia}{h:Ja}{vs:aa qa}{ds:aa PyData}(r:aD X h vs ds):∀n,aD X h (vs.drop n) (ds.drop n)∧aD X h (vs.take n) (ds.take n):=by
 refine aD.ind (λn=> ?_) (λv vs d ds a b ih n=> ?_) r
 ·rw[aa.drop_nil,aa.drop_nil,aa.take_nil,aa.take_nil];exact⟨.nil,.nil⟩
 ·cases n with
  |zero=>exact⟨.cons a b,.nil⟩
  |succ n=>exact⟨(ih n).1,.cons a (ih n).2⟩
theorem aD.drop{X:aa ia}{h:Ja}{vs:aa qa}{ds:aa PyData}(r:aD X h vs ds)(n:Nat):aD X h (vs.drop n) (ds.drop n):=(r.YD n).1
theorem aD.take{X:aa ia}{h:Ja}{vs:aa qa}{ds:aa PyData}(r:aD X h vs ds)(n:Nat):aD X h (vs.take n) (ds.take n):=(r.YD n).2
theorem aD.ints{X:aa ia}{h:Ja}{vs:aa qa}{ns:aa Int}(x:IntsAre vs ns):aD X h vs (ns.map .int):=by
 induction x with
 |nil=>exact .nil
 |cons _ _ _ ih=>exact .cons (.int _ _) ih
noncomputable def kO(h:Ja)(a:ia)(vs:Ua qa):Prop:=∃o,h.get? a=some o∧o.cls=.type "list"∧o.dict=none∧∃n,o.data=.seq vs n
theorem kO.isList{h:Ja}{a:ia}{vs:Ua qa}(x:kO h a vs):h.IsList a vs:=let⟨o,ho,hc,_,n,hd⟩:=x;⟨o,ho,hc,n,hd⟩
theorem kO.at{h h':Ja}{a:ia}{vs:Ua qa}(x:kO h a vs)(k:∀o,h.get? a=some o→h'.get? a=some o):kO h' a vs:=let⟨o,ho,r⟩:=x;⟨o,k o ho,r⟩
theorem kO.push{h:Ja}{vs:Ua qa}:kO (h.push {cls:=.type "list",data:=.seq vs}) h.objs.size vs:=⟨_,Zb _ rfl,rfl,rfl,_,rfl⟩
theorem wI(f:Ua qa→Ua qa)(o:Obj):(Obj.mapSeq f o).dict=o.dict:=by
 obtain⟨c,d,dt,sl⟩:=o
 cases dt<;> rfl
theorem kO.update{s:za}{a:ia}{vs:Ua qa}(x:kO s.heap a vs)(f:Ua qa→Ua qa):kO (s.heap.update a (Obj.mapSeq f)) a (f vs):=by
 obtain⟨o,ho,hc,pP,n,hd⟩:=x
 refine xE (Obj.data_mapSeq hd f) λn' lC=> ?_
 exact⟨_,lg _ ho (Obj.isFreed_of_seq lC),(Obj.cls_mapSeq ..).trans hc,(wI ..).trans pP,n',lC⟩
theorem Rd.listAt{X:aa ia}{h:Ja}{a:ia}{vs:aa qa}{ds:aa PyData}(ha:a∉X)(hl:kO h a vs.toArray)(hr:aD X h vs ds):Rd X h (.ref a) (.list ds):=by
 obtain⟨o,ho,hc,pP,n,hd⟩:=hl
 exact .list ha ho hc pP hd (by simpa using hr)
theorem Rd.isList{X:aa ia}{h:Ja}{v:qa}{ds:aa PyData}(x:Rd X h v (.list ds)):∃a vs,v=.ref a∧a∉X∧h.IsList a vs.toArray∧aD X h vs ds:=by
 cases x with
 |list hx h1 h2 hd h3 h4=>exact⟨_,_,rfl,hx,⟨_,h1,h2,_,by rw[h3]⟩,h4⟩
theorem Rd.E8{X:aa ia}{h:Ja}{v:qa}{ds:aa PyData}(x:Rd X h v (.list ds)):∃a vs,v=.ref a∧a∉X∧kO h a (Ih vs)∧aD X h vs ds:=by
 cases x with
 |list hx h1 h2 hd h3 h4=>exact⟨_,_,rfl,hx,⟨_,h1,h2,hd,_,by rw[h3]⟩,h4⟩
noncomputable def Bound(h:Ja)(env:Env)(x:Str)(v:qa):Prop:=
 (env.kindOf x=some .local∧∃m,h.Ns env.locals m∧m x=some v)∨
 ((env.kindOf x=some .cell∨(env.kindOf x=some .free∧(x==("__classdict__":Str))=false))∧∃c,env.cells.lookup x=some c∧h.IsCell c (some v))
theorem Bound.up{h h':Ja}{env:Env}{x:Str}{v:qa}(b:Bound h env x v)(u:Up h h'):Bound h' env x v:=by
 rcases b with⟨a,m,hn,hm⟩|⟨a,c,hc,hv⟩
 ·exact .inl ⟨a,m,hn.keeps u,hm⟩
 ·exact .inr ⟨a,c,hc,hv.keeps u⟩
structure dW where
 P:aa ia→Ja→qa→Prop
 keep:∀{X:aa ia} {h h':Ja} {v:qa},(∀b o,b∉X→h.get? b=some o→h'.get? b=some o)→P X h v→P X h' v
 more:∀{X Y:aa ia} {h:Ja} {v:qa},(∀b o,b∉X→h.get? b=some o→b∉Y)→P X h v→P Y h v
inductive D|un|dat(d:PyData)|val(v:qa)|range(a b:Int)|known(K:dW)
noncomputable def D.ok:D→Ga:=@D.rec (λz_=>Ga) false (λz_=>true) (λz_=>true) (λz_ z_=>true) (λz_=>true)
theorem D.ne{d:D}(h:d.ok=true):d≠ .un:=λe=>Bj (e▸h:D.un.ok=true)
noncomputable abbrev D.int(i:Int):D:=.dat (.int i)
noncomputable abbrev D.str(x:Str):D:=.dat (.str x)
noncomputable abbrev D.bool(b:Ga):D:=.dat (.bool b)
noncomputable abbrev D.list(ds:aa PyData):D:=.dat (.list ds)
noncomputable abbrev D.tuple(ds:aa PyData):D:=.dat (.tuple ds)
noncomputable def De(X:aa ia)(h:Ja)(v:qa):D→Prop
 |.un=>True
 |.dat d=>Rd X h v d
 |.val u=>v=u
 |.range a b=>∃r t u k,v=.ref r∧r∉X∧IsRange h r a b 1 t u k
 |.known K=>K.P X h v
theorem De.keep{X:aa ia}{h h':Ja}(k:∀b o,b∉X→h.get? b=some o→h'.get? b=some o){v:qa}{d:D}(x:De X h v d):De X h' v d:=by
 cases d with
 |un=>trivial
 |dat d=>exact Rd.at (λb o hb e=>.inr ⟨hb,k b o hb e⟩) x
 |val u=>exact x
 |range a b=>obtain⟨r,t,u,j,e,hr,hi⟩:=x;exact⟨r,t,u,j,e,hr,k _ _ hr hi⟩
 |known K=>exact K.keep k x
theorem De.up{X:aa ia}{h h':Ja}{v:qa}{d:D}(x:De X h v d)(u:Up h h'):De X h' v d:=x.keep λb o z_ e=>u b o e
theorem Rd.more{X Y:aa ia}{h:Ja}(k:∀b o,b∉X→h.get? b=some o→b∉Y){v:qa}{d:PyData}(x:Rd X h v d):Rd Y h v d:=
 x.at λb o hb e=>.inr ⟨k b o hb e,e⟩
theorem De.more{X Y:aa ia}{h:Ja}(k:∀b o,b∉X→h.get? b=some o→b∉Y){v:qa}{d:D}(x:De X h v d):De Y h v d:=by
 cases d with
 |un=>trivial
 |dat d=>exact Rd.more k x
 |val u=>exact x
 |range a b=>obtain⟨r,t,u,j,e,hr,hi⟩:=x;exact⟨r,t,u,j,e,k _ _ hr hi,hi⟩
 |known K=>exact K.more k x
structure Holds(X:aa ia)(h:Ja)(mm:Str→Ma qa)(attrs:aa (Str×D)):Prop where
 off:∀n,n∉attrs.map (·.1)→mm n=Ma.none
 has:∀p∈attrs,∃u,mm p.1=Ma.some u∧De X h u p.2
theorem Holds.keep{X:aa ia}{h h':Ja}{mm:Str→Ma qa}{attrs:aa (Str×D)}(k:∀b o,b∉X→h.get? b=some o→h'.get? b=some o)(x:Holds X h mm attrs):Holds X h' mm attrs:=
 ⟨x.off,λp hp=>let⟨u,e,d⟩:=x.has p hp;⟨u,e,d.keep k⟩⟩
theorem Holds.more{X Y:aa ia}{h:Ja}{mm:Str→Ma qa}{attrs:aa (Str×D)}(k:∀b o,b∉X→h.get? b=some o→b∉Y)(x:Holds X h mm attrs):Holds Y h mm attrs:=
 ⟨x.off,λp hp=>let⟨u,e,d⟩:=x.has p hp;⟨u,e,d.more k⟩⟩
noncomputable def BC(h:Ja)(a:ia)(m:Str→Ma qa)(k:Nat):Prop:=∃o es ep,h.get? a=some o∧o.data=.dict es ep∧StrKeys es∧(∀name,nsFind es name=m name)∧es.size≤k
theorem BC.ns{h:Ja}{a:ia}{m:Str→Ma qa}{k:Nat}(x:BC h a m k):h.Ns a m:=let⟨o,es,ep,a,b,c,d,_⟩:=x;⟨o,es,ep,a,b,c,d⟩
theorem BC.at'{h h':Ja}{a:ia}{m:Str→Ma qa}{k:Nat}(x:BC h a m k)(e:∀o,h.get? a=some o→h'.get? a=some o):BC h' a m k:=let⟨o,es,ep,a,b⟩:=x;⟨o,es,ep,e _ a,b⟩
structure Dy where
 P:aa ia→Ja→Obj→Prop
 keep:∀{X:aa ia} {h h':Ja} {o:Obj},(∀b o,b∉X→h.get? b=some o→h'.get? b=some o)→P X h o→P X h' o
 more:∀{X Y:aa ia} {h:Ja} {o:Obj},(∀b o,b∉X→h.get? b=some o→b∉Y)→P X h o→P Y h o
inductive MO|list(ds:aa PyData)|obj(o:Obj)|vals(vs:aa qa)|attrs(l:aa (Str×D))(k:Nat)|own(O:Dy)
noncomputable def MO.At(X:aa ia)(h:Ja)(a:ia):MO→Prop
 |.list ds=>∃vs:aa qa,kO h a vs.toArray∧aD X h vs ds
 |.obj o=>h.get? a=some o
 |.vals vs=>kO h a vs.toArray
 |.attrs l k=>∃mm,BC h a mm k∧Holds X h mm l
 |.own O=>∃o,h.get? a=some o∧O.P X h o
theorem MO.At.keep{X:aa ia}{h h':Ja}{a:ia}(k:∀b o,b∉X→h.get? b=some o→h'.get? b=some o)(ka:∀o,h.get? a=some o→h'.get? a=some o){m:MO}(x:m.At X h a):m.At X h' a:=by
 cases m with
 |list ds=>obtain⟨vs,hl,hr⟩:=x;exact⟨vs,hl.at ka,hr.at λb o hb e=>.inr ⟨hb,k b o hb e⟩⟩
 |obj o=>exact ka _ x
 |vals vs=>exact kO.at x ka
 |attrs l n=>obtain⟨mm,hn,hh⟩:=x;exact⟨mm,hn.at' ka,hh.keep k⟩
 |own O=>obtain⟨o,ho,hp⟩:=x;exact⟨o,ka _ ho,O.keep k hp⟩
theorem MO.At.more{X Y:aa ia}{h:Ja}{a:ia}(k:∀b o,b∉X→h.get? b=some o→b∉Y){m:MO}(x:m.At X h a):m.At Y h a:=by
 cases m with
 |list ds=>obtain⟨vs,hl,hr⟩:=x;exact⟨vs,hl,hr.at λb o hb e=>.inr ⟨k b o hb e,e⟩⟩
 |obj o=>exact x
 |vals vs=>exact x
 |attrs l n=>obtain⟨mm,hn,hh⟩:=x;exact⟨mm,hn,hh.more k⟩
 |own O=>obtain⟨o,ho,hp⟩:=x;exact⟨o,ho,O.more k hp⟩
theorem MO.At.lt{X:aa ia}{h:Ja}{a:ia}{m:MO}(x:m.At X h a):a<h.objs.size:=by
 cases m with
 |list ds=>obtain⟨vs,⟨o,e,_⟩,_⟩:=x;exact Ub e
 |obj o=>exact Ub (show h.get? a=some o from x)
 |vals vs=>obtain⟨o,e,_⟩:=x;exact Ub e
 |attrs l n=>obtain⟨mm,hn,_⟩:=x;exact hn.ns.lt
 |own O=>obtain⟨o,ho,_⟩:=x;exact Ub ho
noncomputable def XX(Xo:aa ia)(env:Env)(Δ:aa (ia×MO)):aa ia:=Xo++env.locals::(env.cells.map (·.2)++Δ.map (·.1))
theorem XX.out{Xo:aa ia}{env:Env}{Δ:aa (ia×MO)}{a:ia}(h:a∈Xo):a∈XX Xo env Δ:=Qc _ h
theorem XX.loc{Xo:aa ia}{env:Env}{Δ:aa (ia×MO)}:env.locals∈XX Xo env Δ:=Nc _ La
theorem XX.cell{Xo:aa ia}{env:Env}{Δ:aa (ia×MO)}{x:Str}{c:ia}(h:(x,c)∈env.cells):c∈XX Xo env Δ:=
 Nc _ (Wa _ (Qc _ (jd (f:=(·.2)) h)))
theorem XX.own{Xo:aa ia}{env:Env}{Δ:aa (ia×MO)}{p:ia×MO}(h:p∈Δ):p.1∈XX Xo env Δ:=
 Nc _ (Wa _ (Nc _ (jd (f:=(·.1)) h)))
theorem XX.cases{Xo:aa ia}{env:Env}{Δ:aa (ia×MO)}{a:ia}(h:a∈XX Xo env Δ):a∈Xo∨a=env.locals∨(∃x,(x,a)∈env.cells)∨∃m,(a,m)∈Δ:=by
 rcases zc.mp h with h|h
 ·exact .inl h
 ·rcases Za.mp h with h|h
  ·exact .inr (.inl h)
  ·rcases zc.mp h with h|h
   ·obtain⟨⟨x,c⟩,hm,rfl⟩:=Ra.mp h;exact .inr (.inr (.inl ⟨x,hm⟩))
   ·obtain⟨⟨b,m⟩,hm,rfl⟩:=Ra.mp h;exact .inr (.inr (.inr ⟨m,hm⟩))
structure Bx where
 s0:za
 Xo:aa ia
 Φ:aa (qa×D)
theorem get_none{h:Ja}{a:ia}(hle:h.objs.size≤a):h.get? a=none:=by
 cases e:h.get? a with
 |none=>rfl
 |some o=>exact absurd (Dc (Ub e) hle) (Pc _)
noncomputable def vW(B:Bx)(a:ia):Prop:=B.s0.heap.get? a=none∧a∉B.Xo
structure Sc(B:Bx)(env:Env)(Γ:aa (Str×D))(Δ:aa (ia×MO))(s:za):Prop where
 kp:Kp B.s0 s
 xo:∀a∈B.Xo,a<B.s0.heap.objs.size
 ns:∃m,s.heap.Ns env.locals m
 lf:B.s0.heap.objs.size≤env.locals
 cl:∀x c,(x,c)∈env.cells→c≠env.locals∧(∃v,s.heap.IsCell c v)∧(B.s0.heap.objs.size≤c∨c∈B.Xo)
 ap:∀x y c,(x,c)∈env.cells→(y,c)∈env.cells→B.s0.heap.objs.size≤c→x=y
 nd:(Γ.map (·.1)).Nodup
 vars:∀p∈Γ,p.2≠ .un→∃v,Bound s.heap env p.1 v∧De (XX B.Xo env Δ) s.heap v p.2
 own:∀p∈Δ,p.1≠env.locals∧(∀x c,(x,c)∈env.cells→c≠p.1)∧vW B p.1∧p.2.At (XX B.Xo env Δ) s.heap p.1
 dn:(Δ.map (·.1)).Nodup
 gh:∀p∈B.Φ,De (XX B.Xo env Δ) s.heap p.1 p.2
theorem Ns.det{h:Ja}{a:ia}{m m':Str→Ma qa}(x:h.Ns a m)(y:h.Ns a m'):m=m':=by
 refine pU x λo es ep ho hd z_ hf=> ?_
 refine pU y λo' es' ep' nL lC z_ hf'=> ?_
 rw[ho]at nL;cases nL
 rw[hd]at lC;cases lC
 funext n;rw[←hf,←hf']
theorem IsCell.det{h:Ja}{c:ia}{v v':Ma qa}(x:h.IsCell c v)(y:h.IsCell c v'):v=v':=by
 refine bE x λo ho hd=> ?_
 refine bE y λo' nL lC=> ?_
 rw[ho]at nL;cases nL
 rw[hd]at lC;cases lC;rfl
theorem Kp.sameBut{s s0:za}{h':Ja}{a:ia}{tk:Nat}(k:Kp s0 s)(hs:ve a s.heap h')(ha:s0.heap.objs.size≤a):Kp s0 {s with heap:=h',toks:=tk}:=by
 obtain⟨h1,t1,rfl,k1⟩:=k
 refine⟨h',tk,rfl,λb o e=> ?_⟩
 have bB:=Ub e
 exact(hs.2 b (λq=>Pc _ (Dc (q▸bB) ha))).trans (k1 b o e)
section
variable{B:Bx}{s s':za}{env:Env}{Γ Γ':aa (Str×D)}{Δ Δ':aa (ia×MO)}
theorem Sc.upd(S:Sc B env Γ Δ s)(k:Kp s s'):Sc B env Γ Δ s':=
 ⟨S.kp.trans' k,S.xo,S.ns.imp λz_ n=>n.keeps k.up,S.lf,λx c m=>let⟨a,⟨v,b⟩,d⟩:=S.cl x c m;⟨a,⟨v,b.keeps k.up⟩,d⟩,S.ap,S.nd,
  λp hp hd=>let⟨v,b,d⟩:=S.vars p hp hd;⟨v,b.up k.up,d.up k.up⟩,λp hp=>let⟨a,b,c,d⟩:=S.own p hp;⟨a,b,c,d.keep (λz_ z_ z_ e=>k.up _ _ e) λz_ e=>k.up _ _ e⟩,S.dn,λp hp=>(S.gh p hp).up k.up⟩
theorem Sc.jH(S:Sc B env Γ Δ s){a:ia}(h:a∈XX B.Xo env Δ):a<s.heap.objs.size:=by
 rcases XX.cases h with h|rfl|⟨x,h⟩|⟨m,h⟩
 ·have bB:=S.xo a h
  have:B.s0.heap.objs.size≤s.heap.objs.size:=by
   refine xE S.ns λm hm=> ?_
   exact Xc (Fc S.lf hm.lt)
  exact Dc bB this
 ·obtain⟨m,hm⟩:=S.ns;exact hm.lt
 ·obtain⟨_,⟨v,b⟩,_⟩:=S.cl x a h;exact b.lt
 ·exact(S.own _ h).2.2.2.lt
inductive aX(x:Str)(d:D):aa (Str×D)→aa (Str×D)→Prop
 |here {e Γ}:aX x d ((x,e)::Γ) ((x,d)::Γ)
 |there {p Γ Γ'}:aX x d Γ Γ'→aX x d (p::Γ) (p::Γ')
theorem aX.names{x:Str}{d:D}{Γ Γ':aa (Str×D)}(t:aX x d Γ Γ'):Γ'.map (·.1)=Γ.map (·.1):=by
 induction t with
 |here=>rfl
 |there t ih=>exact Cc (_:: ·) ih
theorem aX.mem{x:Str}{d:D}{Γ Γ':aa (Str×D)}(t:aX x d Γ Γ'):x∈Γ.map (·.1):=by
 induction t with
 |here=>exact La
 |there t ih=>exact Wa _ ih
theorem aX.cases{x:Str}{d:D}{Γ Γ':aa (Str×D)}(t:aX x d Γ Γ')(n:(Γ.map (·.1)).Nodup):∀p∈Γ',p=(x,d)∨(p.1≠x∧p∈Γ):=by
 induction t with
 |here=>
  have n:=(Pd.mp n).1
  exact Ve.mpr ⟨.inl rfl,λp hp=>.inr ⟨λe=>n (by rw[←e];exact jd (f:=(·.1)) hp),Wa _ hp⟩⟩
 | @there p Γ Γ' t ih=>
  have n:=Pd.mp n
  exact Ve.mpr ⟨.inr ⟨λe=>n.1 (by show p.1∈Γ.map (·.1);rw[e];exact t.mem),La⟩,λp hp=>(ih n.2 p hp).imp id λq=>⟨q.1,Wa _ q.2⟩⟩
theorem Sc.CM(S:Sc B env Γ Δ s){x:Str}{d:D}{v:qa}{h':Ja}{tk:Nat}{m:Str→Ma qa}(t:aX x d Γ Γ')(hl:env.kindOf x=some .local)(hm:s.heap.Ns env.locals m)
  (hn:h'.Ns env.locals (λy=>if y=x then some v else m y))(hs:ve env.locals s.heap h')(hd:De (XX B.Xo env Δ) s.heap v d):Sc B env Γ' Δ {s with heap:=h',toks:=tk}:=by
 have k:∀b o,b∉XX B.Xo env Δ→s.heap.get? b=some o→h'.get? b=some o:=λb o hb e=>(hs.2 b λq=>hb (q▸XX.loc)).trans e
 refine⟨S.kp.sameBut hs S.lf,S.xo,⟨_,hn⟩,S.lf,λy c hc=> ?_,S.ap,t.names▸S.nd,λp hp hu=> ?_,λp hp=> ?_,S.dn,λp hp=>(S.gh p hp).keep k⟩
 ·obtain⟨a,⟨u,b⟩,e⟩:=S.cl y c hc;exact⟨a,⟨u,b.sameBut hs a⟩,e⟩
 ·rcases t.cases S.nd p hp with rfl|⟨g9,hp⟩
  ·exact⟨v,.inl ⟨hl,_,hn,by simp⟩,hd.keep k⟩
  ·refine bE (S.vars p hp hu) λu b e=> ?_
   refine⟨u,?_,e.keep k⟩
   rcases b with⟨b,m',ET,hv⟩|⟨b,c,hc,hv⟩
   ·cases Ns.det hm ET;exact .inl ⟨b,_,hn,by simp[g9,hv]⟩
   ·exact .inr ⟨b,c,hc,hv.sameBut hs (S.cl _ c (mem_of_lookup hc)).1⟩
 ·refine eS (S.own p hp) λa b c e=> ?_
  exact⟨a,b,c,e.keep k λo q=>(hs.2 _ a).trans q⟩
theorem Sc.GD(S:Sc B env Γ Δ s){x:Str}{d:D}{v:qa}{h':Ja}{c:ia}(t:aX x d Γ Γ')(hl:env.kindOf x=some .cell)(hc:env.cells.lookup x=some c)(hf:B.s0.heap.objs.size≤c)
  (hv:h'.IsCell c (some v))(hs:ve c s.heap h')(hd:De (XX B.Xo env Δ) s.heap v d):Sc B env Γ' Δ {s with heap:=h'}:=by
 have jS:=mem_of_lookup hc
 have k:∀b o,b∉XX B.Xo env Δ→s.heap.get? b=some o→h'.get? b=some o:=λb o hb e=>(hs.2 b λq=>hb (q▸XX.cell jS)).trans e
 have hL:env.locals≠c:=λe=>(S.cl x c jS).1 e.symm
 refine⟨S.kp.sameBut hs hf,S.xo,S.ns.imp λz_ n=>n.sameBut hs hL,S.lf,λy c' HF=> ?_,S.ap,t.names▸S.nd,λp hp hu=> ?_,λp hp=> ?_,S.dn,λp hp=>(S.gh p hp).keep k⟩
 ·obtain⟨a,⟨u,b⟩,e⟩:=S.cl y c' HF
  by_cases q:c'=c
  ·subst q;exact⟨a,⟨_,hv⟩,e⟩
  ·exact⟨a,⟨u,b.sameBut hs q⟩,e⟩
 ·rcases t.cases S.nd p hp with rfl|⟨g9,hp⟩
  ·exact⟨v,.inr ⟨.inl hl,c,hc,hv⟩,hd.keep k⟩
  ·refine bE (S.vars p hp hu) λu b e=> ?_
   refine⟨u,?_,e.keep k⟩
   rcases b with⟨b,m',ET,w7⟩|⟨b,c',HF,w7⟩
   ·exact .inl ⟨b,m',ET.sameBut hs hL,w7⟩
   ·exact .inr ⟨b,c',HF,w7.sameBut hs λq=>g9 (S.ap _ _ _ (q▸mem_of_lookup HF) jS hf)⟩
 ·refine eS (S.own p hp) λa b e f=> ?_
  exact⟨a,b,e,f.keep k λo q=>(hs.2 _ (Bf (b x c jS))).trans q⟩
theorem Sc.weak(S:Sc B env Γ Δ s)(h:∀p∈Γ',p.2≠ .un→p∈Γ)(n:(Γ'.map (·.1)).Nodup):Sc B env Γ' Δ s:=
 {S with nd:=n,vars:=λp hp hu=>S.vars p (h p hp hu) hu}
inductive bw(a:ia)(m m':MO):aa (ia×MO)→aa (ia×MO)→Prop
 |here {Δ:aa (ia×MO)}:bw a m m' ((a,m)::Δ) ((a,m')::Δ)
 |there {p:ia×MO} {Δ Δ':aa (ia×MO)}:bw a m m' Δ Δ'→bw a m m' (p::Δ) (p::Δ')
theorem bw.names{a:ia}{m m':MO}{Δ Δ':aa (ia×MO)}(t:bw a m m' Δ Δ'):Δ'.map (·.1)=Δ.map (·.1):=by
 induction t with
 |here=>rfl
 |there t ih=>exact Cc (_:: ·) ih
theorem bw.mem{a:ia}{m m':MO}{Δ Δ':aa (ia×MO)}(t:bw a m m' Δ Δ'):(a,m)∈Δ:=by
 induction t with
 |here=>exact La
 |there t ih=>exact Wa _ ih
theorem bw.cases{a:ia}{m m':MO}{Δ Δ':aa (ia×MO)}(t:bw a m m' Δ Δ')(n:(Δ.map (·.1)).Nodup):∀p∈Δ',p=(a,m')∨(p.1≠a∧p∈Δ):=by
 induction t with
 |here=>
  have n:=(Pd.mp n).1
  exact Ve.mpr ⟨.inl rfl,λp hp=>.inr ⟨λe=>n (by rw[←e];exact jd (f:=(·.1)) hp),Wa _ hp⟩⟩
 | @there p Δ Δ' t ih=>
  have n:=Pd.mp n
  exact Ve.mpr ⟨.inr ⟨λe=>n.1 (by show p.1∈Δ.map (·.1);rw[e];exact jd (f:=(·.1)) t.mem),La⟩,λp hp=>(ih n.2 p hp).imp id λq=>⟨q.1,Wa _ q.2⟩⟩
theorem XX.same{Xo:aa ia}(e:Δ'.map (·.1)=Δ.map (·.1)):XX Xo env Δ'=XX Xo env Δ:=by unfold XX;rw[e]
theorem Sc.set_own(S:Sc B env Γ Δ s){a:ia}{m m':MO}{h':Ja}{tk:Nat}(t:bw a m m' Δ Δ')(hs:∀b o,b≠a→s.heap.get? b=some o→h'.get? b=some o)(hm:m'.At (XX B.Xo env Δ) h' a):Sc B env Γ Δ' {s with heap:=h',toks:=tk}:=by
 have jS:=t.mem
 refine eS (S.own _ jS) λha hb hc hd=> ?_
 have ha:a≠env.locals:=ha
 have hc:vW B a:=hc
 have k:∀b o,b∉XX B.Xo env Δ→s.heap.get? b=some o→h'.get? b=some o:=λb o hb e=>hs b o (λq=>hb (q▸XX.own jS)) e
 have ex:XX B.Xo env Δ'=XX B.Xo env Δ:=XX.same t.names
 have kp:Kp B.s0 {s with heap:=h',toks:=tk}:=by
  refine lK S.kp λh1 t1 e1 k1=> ?_
  refine⟨h',tk,by rw[e1],λb o e=>hs b o (λq=> ?_) (S.kp.up b o e)⟩
  subst q
  rw[hc.1]at e;cases e
 refine⟨kp,S.xo,S.ns.imp λz_ n=>n.at' λo e=>hs _ o (Bf ha) e,S.lf,λy c hc=> ?_,S.ap,S.nd,λp hp hu=> ?_,λp hp=> ?_,t.names▸S.dn,λp hp=>ex▸(S.gh p hp).keep k⟩
 ·obtain⟨x,⟨u,o,b,d⟩,e⟩:=S.cl y c hc;exact⟨x,⟨u,o,hs _ o (hb y c hc) b,d⟩,e⟩
 ·refine bE (S.vars p hp hu) λu b e=> ?_
  refine⟨u,?_,ex▸e.keep k⟩
  rcases b with⟨b,m',ET,hv⟩|⟨b,c,hc,⟨o,hv,w7⟩⟩
  ·exact .inl ⟨b,m',ET.at' λo e=>hs _ o (Bf ha) e,hv⟩
  ·exact .inr ⟨b,c,hc,o,hs _ o (hb _ c (mem_of_lookup hc)) hv,w7⟩
 ·rcases t.cases S.dn p hp with rfl|⟨g9,hp⟩
  ·exact⟨ha,hb,hc,ex▸hm⟩
  ·refine eS (S.own p hp) λx y z e=> ?_
   exact⟨x,y,z,ex▸e.keep k λo q=>hs _ o g9 q⟩
structure ao(w:Oa)(A:Xa)(B:Bx)(env:Env)(Γ:aa (Str×D))(Δ:aa (ia×MO))(e:Ba)(d:D):Prop where
 go:∀(s:za) (E:qa→za→Prop),Sc B env Γ Δ s→Ia (Md w) A (eval e env) (λv s'=>Kp s s'∧De (XX B.Xo env Δ) s'.heap v d) E s
variable{w:Oa}{A:Xa}{E:qa→za→Prop}
theorem ao.use{e:Ba}{d:D}{Q:qa→za→Prop}(x:ao w A B env Γ Δ e d)(S:Sc B env Γ Δ s)
  (f:∀v s',Kp s s'→Sc B env Γ Δ s'→De (XX B.Xo env Δ) s'.heap v d→Q v s'):Ia (Md w) A (eval e env) Q E s:=
 Pa (x.go s E S) (λz_ z_ q=>f _ _ q.1 (S.upd q.1) q.2) λz_ z_ y=>y
theorem ao.name{x:Str}{pos:Pos}{d:D}(hm:(x,d)∈Γ)(hu:Aa (d.ok=true) aR)(hk:Aa (env.scope.kind=.function) aK)(hd:Aa ((x==("__debug__":Str))=false) aK):
  ao w A B env Γ Δ (.Name x pos) d:=.mk λs E S=>by
 refine bE (S.vars _ hm (D.ne hu)) λv b r=> ?_
 have q:Kp s s∧De (XX B.Xo env Δ) s.heap v d:=⟨.bN _,r⟩
 refine wpAny_Name ?_ hd
 rcases b with⟨a,mm,hn,hm⟩|⟨a|⟨a,a'⟩,c,hc,hv⟩
 ·exact wpAny_loadName_local hk a hn hm q
 ·exact wpAny_loadName_cell hk a hc hv q
 ·exact wpAny_loadName_free hk a hc hv q a'
theorem ao.bA{i:Int}{k pos}:ao w A B env Γ Δ (.Constant (.int i) k pos) (.int i):=.mk λs E u=>wpAny_Constant_int ⟨.tok ..,.int ..⟩
theorem ao.gu{x:Str}{k pos}:ao w A B env Γ Δ (.Constant (.str x) k pos) (.str x):=.mk λs E u Γ p hΓ=>⟨.tok ..,.str ..⟩
theorem ao.jY{b:Ga}{k pos}:ao w A B env Γ Δ (.Constant (.bool b) k pos) (.bool b):=.mk λs E u Γ p hΓ=>⟨.bN _,.bool ..⟩
theorem ao.qx{k pos}:ao w A B env Γ Δ (.Constant .none k pos) (.dat .none):=.mk λs E u Γ p hΓ=>⟨.bN _,.none⟩
theorem ao.bin{l r:Ba}{op:Operator}{pos:Pos}{d1 d2 d:D}(x:ao w A B env Γ Δ l d1)(y:ao w A B env Γ Δ r d2)
  (f:∀a b s E,Sc B env Γ Δ s→De (XX B.Xo env Δ) s.heap a d1→De (XX B.Xo env Δ) s.heap b d2→Ia (Md w) A (binaryOp op a b) (λv s'=>Kp s s'∧De (XX B.Xo env Δ) s'.heap v d) E s):ao w A B env Γ Δ (.BinOp l op r pos) d:=.mk λs E u=>
 wpAny_BinOp (x.use u λa s1 k1 u1 r1=>y.use u1 λb s2 k2 u2 r2=>Pa (f a b s2 E u2 (r1.up k2.up) r2) (λz_ z_ q=>⟨(k1.trans' k2).trans' q.1,q.2⟩) λz_ z_ z=>z)
theorem ao.cmp{l r:Ba}{op:CmpOp}{pos:Pos}{d1 d2 d:D}(x:ao w A B env Γ Δ l d1)(y:ao w A B env Γ Δ r d2)
  (f:∀a b s E,Sc B env Γ Δ s→De (XX B.Xo env Δ) s.heap a d1→De (XX B.Xo env Δ) s.heap b d2→Ia (Md w) A (compareOp op a b) (λv s'=>Kp s s'∧De (XX B.Xo env Δ) s'.heap v d) E s)(hm:Aa (br r=true) aR):
  ao w A B env Γ Δ (.Compare l [op] [r] pos) d:=.mk λs E u=>
 wpAny_Compare1 (x.use u λa s1 k1 u1 r1=>y.use u1 λb s2 k2 u2 r2=>Pa (f a b s2 E u2 (r1.up k2.up) r2) (λz_ z_ q=>⟨(k1.trans' k2).trans' q.1,q.2⟩) λz_ z_ z=>z) (mY hm)
noncomputable def cG(B:Bx)(env:Env)(x:Str):Prop:=env.kindOf x=some .local∨(env.kindOf x=some .cell∧∃c,env.cells.lookup x=some c∧B.s0.heap.objs.size≤c)
noncomputable def KX(X:aa ia)(s s':za):Prop:=∀b o,b∉X→s.heap.get? b=some o→s'.heap.get? b=some o
theorem Sc.store(S:Sc B env Γ Δ s){x:Str}{d:D}{v:qa}{Q:Unit→za→Prop}(t:aX x d Γ Γ')(K:cG B env x)(hd:De (XX B.Xo env Δ) s.heap v d)
  (h:∀s',Sc B env Γ' Δ s'→KX (XX B.Xo env Δ) s s'→Q () s')(hk:Aa (env.scope.kind=.function) aK):Ia (Md w) A (storeName env x v) Q E s:=by
 rcases K with hl|⟨hl,c,hc,hf⟩
 ·refine xE S.ns λm hm=> ?_
  exact wpAny_storeName_local hl hm (λh' hn hs=>h _ (S.CM t hl hm hn hs hd) λb o hb e=>(hs.2 b λq=>hb (q▸XX.loc)).trans e) (by rw[hk];rfl)
 ·obtain⟨_,⟨v0,ZD⟩,_⟩:=S.cl x c (mem_of_lookup hc)
  exact wpAny_storeName_cell hk hl hc ZD λh' hv hs=>h _ (S.GD t hl hc hf hv hs hd) λb o hb e=>(hs.2 b λq=>hb (q▸XX.cell (mem_of_lookup hc))).trans e
structure Ex(w:Oa)(A:Xa)(env:Env)(ss:aa Va)(Q:Flow→za→Prop)(E:qa→za→Prop)(s:za):Prop where
 run:Ia (Md w) A (execs ss env) Q E s
theorem Ex.of{w:Oa}{A:Xa}{env:Env}{ss ss':aa Va}{Q:Flow→za→Prop}{E:qa→za→Prop}{s:za}(e:ss=ss')(h:Ex w A env ss' Q E s):Ex w A env ss Q E s:=e▸h
theorem aI{x:Str}{pos' pos:Pos}{value:Ba}{d:D}{rest:aa Va}{Q:Flow→za→Prop}(S:Sc B env Γ Δ s)(e:ao w A B env Γ Δ value d)(t:aX x d Γ Γ')(K:cG B env x)
  (h:∀s',Sc B env Γ' Δ s'→Ex w A env rest Q E s')(hs:Aa (cR value=true) aR)(hk:Aa (env.scope.kind=.function) aK):Ex w A env (.Assign [.Name x pos'] value pos::rest) Q E s:=
 ⟨Kc (vh (e.use S λv s1 k1 S1 r1=>S1.store t K r1 (λs' S' z_=>(h s' S').run) hk) (dH hs))⟩
open PySem.SeqAt
theorem De.bx{X:aa ia}{h:Ja}{v:qa}{i}(x:De X h v (.int i)):∃t,v=.int i t:=by
 have x:Rd X h v (.int i):=x
 cases x;exact⟨_,rfl⟩
theorem De.iz{X:aa ia}{h:Ja}{v:qa}{i}(x:De X h v (.str i)):∃t,v=.str i t:=by
 have x:Rd X h v (.str i):=x
 cases x;exact⟨_,rfl⟩
theorem De.qN{X:aa ia}{h:Ja}{v:qa}{i}(x:De X h v (.bool i)):v=.bool i:=by
 have x:Rd X h v (.bool i):=x
 cases x;rfl
@[elab_as_elim] theorem De.kQ {M:qa→Prop} {X:aa ia} {h:Ja} {v:qa} {i} (x:De X h v (.int i)) (k:∀t,M (.int i t)):M v:=let⟨t,e⟩:=x.bx;e▸k t
@[elab_as_elim] theorem De.q8 {M:qa→Prop} {X:aa ia} {h:Ja} {v:qa} {i} (x:De X h v (.str i)) (k:∀t,M (.str i t)):M v:=let⟨t,e⟩:=x.iz;e▸k t
@[elab_as_elim] theorem De.qZ {M:qa→Prop} {X:aa ia} {h:Ja} {v:qa} {i} (x:De X h v (.bool i)) (k:M (.bool i)):M v:=x.qN▸k
theorem ao.add{l r:Ba}{pos:Pos}{a b:Int}(x:ao w A B env Γ Δ l (.int a))(y:ao w A B env Γ Δ r (.int b)):ao w A B env Γ Δ (.BinOp l .Add r pos) (.int (a+b)):=
 x.bin y λz_ z_ s E z_ p q=>by obtain⟨_,rfl⟩:=p.bx;obtain⟨_,rfl⟩:=q.bx;exact add_int ⟨.tok ..,.int ..⟩
theorem ao.sub{l r:Ba}{pos:Pos}{a b:Int}(x:ao w A B env Γ Δ l (.int a))(y:ao w A B env Γ Δ r (.int b)):ao w A B env Γ Δ (.BinOp l .Sub r pos) (.int (a-b)):=
 x.bin y λz_ z_ s E z_ p q=>by obtain⟨_,rfl⟩:=p.bx;obtain⟨_,rfl⟩:=q.bx;exact sub_int ⟨.tok ..,.int ..⟩
theorem ao.mul{l r:Ba}{pos:Pos}{a b:Int}(x:ao w A B env Γ Δ l (.int a))(y:ao w A B env Γ Δ r (.int b))(hm:IntMulOk a b):ao w A B env Γ Δ (.BinOp l .Mult r pos) (.int (a*b)):=
 x.bin y λz_ z_ s E z_ p q=>by obtain⟨_,rfl⟩:=p.bx;obtain⟨_,rfl⟩:=q.bx;exact PyProof.Rows.mul_int ⟨.tok ..,.int ..⟩ hm
theorem ao.fdiv{l r:Ba}{pos:Pos}{a b:Int}(x:ao w A B env Γ Δ l (.int a))(y:ao w A B env Γ Δ r (.int b))(hb:b≠0)(hs:b.natAbs<1073741824):ao w A B env Γ Δ (.BinOp l .FloorDiv r pos) (.int (a.fdiv b)):=
 x.bin y λz_ z_ s E z_ p q=>by obtain⟨_,rfl⟩:=p.bx;obtain⟨_,rfl⟩:=q.bx;exact PyProof.Rows.floordiv_int hb ⟨.tok ..,.int ..⟩ (.inl (PyProof.noPylong_small hs))
theorem ao.fmod{l r:Ba}{pos:Pos}{a b:Int}(x:ao w A B env Γ Δ l (.int a))(y:ao w A B env Γ Δ r (.int b))(hb:b≠0):ao w A B env Γ Δ (.BinOp l .Mod r pos) (.int (a.fmod b)):=
 x.bin y λz_ z_ s E z_ p q=>by obtain⟨_,rfl⟩:=p.bx;obtain⟨_,rfl⟩:=q.bx;exact PyProof.Rows.mod_int' hb ⟨.tok ..,.int ..⟩
theorem ao.neg{l:Ba}{pos:Pos}{a:Int}(x:ao w A B env Γ Δ l (.int a)):ao w A B env Γ Δ (.UnaryOp .USub l pos) (.int (-a)):=.mk λs E S=>
 PyProof.Rows.UnaryOp_ (x.use S λv s1 k1 S1 r1=>by obtain⟨_,rfl⟩:=r1.bx;exact PyProof.Rows.neg_int ⟨k1.trans' (.tok ..),.int ..⟩)
theorem ao.lt{l r:Ba}{pos:Pos}{a b:Int}(x:ao w A B env Γ Δ l (.int a))(y:ao w A B env Γ Δ r (.int b))(hm:Aa (br r=true) aR):ao w A B env Γ Δ (.Compare l [.Lt] [r] pos) (.bool (decide (a<b))):=
 x.cmp y (λz_ z_ s E z_ p q=>by obtain⟨_,rfl⟩:=p.bx;obtain⟨_,rfl⟩:=q.bx;exact PySem.P.lt_int ⟨.bN _,.bool ..⟩) hm
theorem ao.gt{l r:Ba}{pos:Pos}{a b:Int}(x:ao w A B env Γ Δ l (.int a))(y:ao w A B env Γ Δ r (.int b))(hm:Aa (br r=true) aR):ao w A B env Γ Δ (.Compare l [.Gt] [r] pos) (.bool (decide (a>b))):=
 x.cmp y (λz_ z_ s E z_ p q=>by obtain⟨_,rfl⟩:=p.bx;obtain⟨_,rfl⟩:=q.bx;exact PySem.P.gt_int ⟨.bN _,.bool ..⟩) hm
theorem ao.ge{l r:Ba}{pos:Pos}{a b:Int}(x:ao w A B env Γ Δ l (.int a))(y:ao w A B env Γ Δ r (.int b))(hm:Aa (br r=true) aR):ao w A B env Γ Δ (.Compare l [.GtE] [r] pos) (.bool (decide (a≥b))):=
 x.cmp y (λz_ z_ s E z_ p q=>by obtain⟨_,rfl⟩:=p.bx;obtain⟨_,rfl⟩:=q.bx;exact PySem.P.ge_int ⟨.bN _,.bool ..⟩) hm
theorem ao.eq{l r:Ba}{pos:Pos}{a b:PyData}(x:ao w A B env Γ Δ l (.dat a))(y:ao w A B env Γ Δ r (.dat b))(ha:shaped a=true)(hb:shaped b=true)(hu:A.units+64<cLine)(hm:Aa (br r=true) aR):
  ao w A B env Γ Δ (.Compare l [.Eq] [r] pos) (.bool (jc a b)):=
 x.cmp y (λz_ z_ s E z_ p q=>by obtain⟨_,p⟩:=Rd.reads p;obtain⟨_,q⟩:=Rd.reads q;exact eq_dataH p q ha hb hu ⟨.bN _,.bool ..⟩) hm
theorem ao.ne{l r:Ba}{pos:Pos}{a b:PyData}(x:ao w A B env Γ Δ l (.dat a))(y:ao w A B env Γ Δ r (.dat b))(ha:shaped a=true)(hb:shaped b=true)(hu:A.units+64<cLine)(hm:Aa (br r=true) aR):
  ao w A B env Γ Δ (.Compare l [.NotEq] [r] pos) (.bool (!jc a b)):=
 x.cmp y (λz_ z_ s E z_ p q=>by obtain⟨_,p⟩:=Rd.reads p;obtain⟨_,q⟩:=Rd.reads q;exact ne_dataH p q ha hb hu ⟨.bN _,.bool ..⟩) hm
theorem ao.FY{l r:Ba}{pos:Pos}{a:PyData}{bs:aa PyData}(x:ao w A B env Γ Δ l (.dat a))(y:ao w A B env Γ Δ r (.list bs))(ha:a.canLay0=true)(hb:Xe bs=true)(hu:A.units+1+min (we bs) a.depth<cLine)(hm:Aa (br r=true) aR):
  ao w A B env Γ Δ (.Compare l [.NotIn] [r] pos) (.bool (!bs.any λy=>jc y a)):=
 x.cmp y (λz_ z_ s E z_ p q=>by obtain⟨_,p⟩:=Rd.reads p;obtain⟨_,q⟩:=Rd.reads q;exact SeqAt.notIn_list_reads q p hb ha hu ⟨.bN _,.bool ..⟩) hm
structure TV(w:Oa)(A:Xa)(B:Bx)(env:Env)(Γ:aa (Str×D))(Δ:aa (ia×MO))(e:Ba)(b:Ga):Prop where
 go:∀(s:za) (E:qa→za→Prop),Sc B env Γ Δ s→Ia (Md w) A (isTrue e env (eval e env)) (λc s'=>Kp s s'∧c=b) E s
theorem TV.use{e:Ba}{b:Ga}{Q:Ga→za→Prop}(x:TV w A B env Γ Δ e b)(S:Sc B env Γ Δ s)(f:∀s',Kp s s'→Sc B env Γ Δ s'→Q b s'):Ia (Md w) A (isTrue e env (eval e env)) Q E s:=
 Pa (x.go s E S) (λz_ z_ q=>by obtain⟨k,rfl⟩:=q;exact f _ k (S.upd k)) λz_ z_ y=>y
theorem TV.dI{e:Ba}{b:Ga}(x:ao w A B env Γ Δ e (.bool b))(he:Aa (nW e=true) aR):TV w A B env Γ Δ e b:=.mk λs E S=>
 PyProof.Rows.isTrue_plain (x.use S λv s1 k1 S1 r1=>by rw[r1.qN];exact gi ⟨k1,rfl⟩) (tE he)
theorem TV.cmp{l r:Ba}{op:CmpOp}{pos:Pos}{d1 d2:D}{b:Ga}(x:ao w A B env Γ Δ l d1)(y:ao w A B env Γ Δ r d2)
  (f:∀u v s E,Sc B env Γ Δ s→De (XX B.Xo env Δ) s.heap u d1→De (XX B.Xo env Δ) s.heap v d2→Ia (Md w) A (compareOp op u v) (λc s'=>Kp s s'∧c=.bool b) E s)(hm:Aa (br r=true) aR):TV w A B env Γ Δ (.Compare l [op] [r] pos) b:=.mk λs E S=>
 wpAny_isTrue_Compare1 (x.use S λu s1 k1 u1 r1=>y.use u1 λv s2 k2 u2 r2=>Pa (f u v s2 E u2 (r1.up k2.up) r2) (λc s3 q=>by obtain⟨k3,rfl⟩:=q;exact gi ⟨(k1.trans' k2).trans' k3,rfl⟩) λz_ z_ z=>z) (mY hm)
theorem TV.lt{l r:Ba}{pos:Pos}{a b:Int}(x:ao w A B env Γ Δ l (.int a))(y:ao w A B env Γ Δ r (.int b))(hm:Aa (br r=true) aR):TV w A B env Γ Δ (.Compare l [.Lt] [r] pos) (decide (a<b)):=
 .cmp x y (λz_ z_ s E z_ p q=>by obtain⟨_,rfl⟩:=p.bx;obtain⟨_,rfl⟩:=q.bx;exact PySem.P.lt_int ⟨.bN _,rfl⟩) hm
theorem TV.gt{l r:Ba}{pos:Pos}{a b:Int}(x:ao w A B env Γ Δ l (.int a))(y:ao w A B env Γ Δ r (.int b))(hm:Aa (br r=true) aR):TV w A B env Γ Δ (.Compare l [.Gt] [r] pos) (decide (a>b)):=
 .cmp x y (λz_ z_ s E z_ p q=>by obtain⟨_,rfl⟩:=p.bx;obtain⟨_,rfl⟩:=q.bx;exact PySem.P.gt_int ⟨.bN _,rfl⟩) hm
theorem TV.ge{l r:Ba}{pos:Pos}{a b:Int}(x:ao w A B env Γ Δ l (.int a))(y:ao w A B env Γ Δ r (.int b))(hm:Aa (br r=true) aR):TV w A B env Γ Δ (.Compare l [.GtE] [r] pos) (decide (a≥b)):=
 .cmp x y (λz_ z_ s E z_ p q=>by obtain⟨_,rfl⟩:=p.bx;obtain⟨_,rfl⟩:=q.bx;exact PySem.P.ge_int ⟨.bN _,rfl⟩) hm
theorem TV.eq{l r:Ba}{pos:Pos}{a b:PyData}(x:ao w A B env Γ Δ l (.dat a))(y:ao w A B env Γ Δ r (.dat b))(ha:shaped a=true)(hb:shaped b=true)(hu:A.units+64<cLine)(hm:Aa (br r=true) aR):
  TV w A B env Γ Δ (.Compare l [.Eq] [r] pos) (jc a b):=
 .cmp x y (λz_ z_ s E z_ p q=>by obtain⟨_,p⟩:=Rd.reads p;obtain⟨_,q⟩:=Rd.reads q;exact eq_dataH p q ha hb hu ⟨.bN _,rfl⟩) hm
theorem TV.ne{l r:Ba}{pos:Pos}{a b:PyData}(x:ao w A B env Γ Δ l (.dat a))(y:ao w A B env Γ Δ r (.dat b))(ha:shaped a=true)(hb:shaped b=true)(hu:A.units+64<cLine)(hm:Aa (br r=true) aR):
  TV w A B env Γ Δ (.Compare l [.NotEq] [r] pos) (!jc a b):=
 .cmp x y (λz_ z_ s E z_ p q=>by obtain⟨_,p⟩:=Rd.reads p;obtain⟨_,q⟩:=Rd.reads q;exact ne_dataH p q ha hb hu ⟨.bN _,rfl⟩) hm
theorem TV.FY{l r:Ba}{pos:Pos}{a:PyData}{bs:aa PyData}(x:ao w A B env Γ Δ l (.dat a))(y:ao w A B env Γ Δ r (.list bs))(ha:a.canLay0=true)(hb:Xe bs=true)(hu:A.units+1+min (we bs) a.depth<cLine)(hm:Aa (br r=true) aR):
  TV w A B env Γ Δ (.Compare l [.NotIn] [r] pos) (!bs.any λy=>jc y a):=
 .cmp x y (λz_ z_ s E z_ p q=>by obtain⟨_,p⟩:=Rd.reads p;obtain⟨_,q⟩:=Rd.reads q;exact SeqAt.notIn_list_reads q p hb ha hu ⟨.bN _,rfl⟩) hm
theorem TV.not{e:Ba}{b:Ga}{pos:Pos}(x:TV w A B env Γ Δ e b):TV w A B env Γ Δ (.UnaryOp .Not e pos) (!b):=.mk λs E S=>PyProof.Rows.isTrue_not (x.use S λs1 k1 z_=>⟨k1,rfl⟩)
theorem TV.and{e:Ba}{rest:aa Ba}{b c:Ga}{pos:Pos}(x:TV w A B env Γ Δ e b)(y:b=true→TV w A B env Γ Δ (.BoolOp .And rest pos) c):TV w A B env Γ Δ (.BoolOp .And (e::rest) pos) (b&&c):=.mk λs E S=>by
 refine PyProof.Rows.isTrue_and (x.use S λs1 k1 S1=> ?_)
 cases b with
 |false=>exact⟨k1,rfl⟩
 |true=>exact Pa ((y rfl).go s1 E S1) (λz_ z_ q=>⟨k1.trans' q.1,q.2⟩) λz_ z_ z=>z
theorem TV.and_nil{pos:Pos}:TV w A B env Γ Δ (.BoolOp .And [] pos) true:=.mk λs E S=>PyProof.Rows.isTrue_and_nil ⟨.bN _,rfl⟩
theorem TV.or{e:Ba}{rest:aa Ba}{b c:Ga}{pos:Pos}(x:TV w A B env Γ Δ e b)(y:b=false→TV w A B env Γ Δ (.BoolOp .Or rest pos) c):TV w A B env Γ Δ (.BoolOp .Or (e::rest) pos) (b||c):=.mk λs E S=>by
 refine PyProof.Rows.isTrue_or (x.use S λs1 k1 S1=> ?_)
 cases b with
 |true=>exact⟨k1,rfl⟩
 |false=>exact Pa ((y rfl).go s1 E S1) (λz_ z_ q=>⟨k1.trans' q.1,q.2⟩) λz_ z_ z=>z
theorem TV.or_nil{pos:Pos}:TV w A B env Γ Δ (.BoolOp .Or [] pos) false:=.mk λs E S=>PyProof.Rows.isTrue_or_nil ⟨.bN _,rfl⟩
theorem ao.ite{t a b:Ba}{pos:Pos}{c:Ga}{d:D}(x:TV w A B env Γ Δ t c)(y:c=true→ao w A B env Γ Δ a d)(z:c=false→ao w A B env Γ Δ b d):ao w A B env Γ Δ (.IfExp t a b pos) d:=.mk λs E S=>by
 refine PyProof.Rows.IfExp_ (x.use S λs1 k1 S1=> ?_)
 cases c with
 |true=>exact Pa ((y rfl).go s1 E S1) (λz_ z_ q=>⟨k1.trans' q.1,q.2⟩) λz_ z_ z=>z
 |false=>exact Pa ((z rfl).go s1 E S1) (λz_ z_ q=>⟨k1.trans' q.1,q.2⟩) λz_ z_ z=>z
theorem ao.and{l r:Ba}{pos:Pos}{b c:Ga}(x:ao w A B env Γ Δ l (.bool b))(y:b=true→ao w A B env Γ Δ r (.bool c)):ao w A B env Γ Δ (.BoolOp .And [l,r] pos) (.bool (b&&c)):=.mk λs E S=>by
 refine PyProof.Rows.BoolOp_and (x.use S λv s1 k1 S1 r1=> ?_)
 refine r1.qZ ?_
 refine gi ?_
 cases b with
 |false=>exact⟨k1,.bool _⟩
 |true=>exact PyProof.Rows.BoolOp_one (Pa ((y rfl).go s1 E S1) (λz_ z_ q=>⟨k1.trans' q.1,q.2⟩) λz_ z_ z=>z)
inductive k9(w:Oa)(A:Xa)(B:Bx)(env:Env)(Γ:aa (Str×D))(Δ:aa (ia×MO)):aa Ba→aa PyData→Prop
 |nil:k9 w A B env Γ Δ [] []
 |cons {e es d ds} (x:ao w A B env Γ Δ e (.dat d)) (y:k9 w A B env Γ Δ es ds) (h:Aa (notStar e=true) aR):k9 w A B env Γ Δ (e::es) (d::ds)
theorem k9.run{pos:Pos}{es:aa Ba}{ds:aa PyData}(a:k9 w A B env Γ Δ es ds):∀{s:za} {E:qa→za→Prop},Sc B env Γ Δ s→
  Ia (Md w) A (spliced (backTo pos (Rb es env))) (λvs s'=>Kp s s'∧aD (XX B.Xo env Δ) s'.heap vs ds) E s:=by
 induction a with
 |nil=>exactλS=>spliced_none ⟨.bN _,.nil⟩
 |cons x y he ih=>exactλS=>spliced_more (x.use S λv s1 k1 S1 r1=>Pa (ih S1) (λvs s2 q=>⟨k1.trans' q.1,.cons (Rd.up r1 q.1.up) q.2⟩) λz_ z_ z=>z) (aF _ _ _ he)
theorem k9.plain{pos:Pos}{es:aa Ba}{ds:aa PyData}(a:k9 w A B env Γ Δ es ds):(backTo pos (Rb es env)).any (·.1)=false:=by
 induction a with
 |nil=>rfl
 |cons x y he ih=>rw[aF _ _ _ he];exact ih
theorem Sc.fresh(S:Sc B env Γ Δ s):s.heap.objs.size∉XX B.Xo env Δ:=λh=>Pc _ (S.jH h)
theorem Kp.push(s:za)(o:Obj):Kp s {s with heap:=s.heap.push o}:=⟨_,s.toks,rfl,λz_ z_ e=>qc _ e⟩
theorem Kp.oV(s:za)(o:Obj)(t:Nat):Kp s {s with heap:=s.heap.push o,toks:=t}:=⟨_,t,rfl,λz_ z_ e=>qc _ e⟩
theorem Rd.j8{X:aa ia}{h:Ja}{vs:Ua qa}{ds:aa PyData}(hx:h.objs.size∉X)(r:aD X h vs.toList ds):Rd X (h.push {cls:=.type "list",data:=.seq vs}) (.ref h.objs.size) (.list ds):=
 .list hx (Zb _ rfl) rfl rfl rfl (r.up λz_ z_ e=>qc _ e)
theorem Rd.CD{X:aa ia}{h:Ja}{vs:Ua qa}{ds:aa PyData}(hx:h.objs.size∉X)(r:aD X h vs.toList ds):Rd X (h.push {cls:=.type "tuple",data:=.seq vs}) (.ref h.objs.size) (.tuple ds):=
 .tuple hx (Zb _ rfl) rfl rfl (r.up λz_ z_ e=>qc _ e)
theorem ao.wK{es:aa Ba}{ds:aa PyData}{pos:Pos}(x:k9 w A B env Γ Δ es ds)(hz:ds.length≤Bb):ao w A B env Γ Δ (.List es pos) (.list ds):=.mk λs E S=>
 List_ (Pa (x.run S) (λvs s1 q=>Ld ⟨q.1.trans' (.push ..),Rd.j8 (S.upd q.1).fresh (by simpa using q.2)⟩ (by show vs.toArray.size≤Bb;rw[Kf,q.2.length];exact hz)) λz_ z_ z=>z)
theorem ao.tup{es:aa Ba}{ds:aa PyData}{k}{pos:Pos}(x:k9 w A B env Γ Δ es ds)(hz:ds.length≤Bb):ao w A B env Γ Δ (.Tuple es k pos) (.tuple ds):=.mk λs E S=>
 Tuple_ (Pa (x.run S) (λvs s1 q=>Ld ⟨q.1.trans' (.push ..),Rd.CD (S.upd q.1).fresh (by simpa using q.2)⟩ (by show vs.toArray.size≤Bb;rw[Kf,q.2.length];exact hz)) λz_ z_ z=>z)
theorem aD.pick{X:aa ia}{h:Ja}{vs:aa qa}{ds:aa PyData}(r:aD X h vs ds)(lo hi:Ma Int):
  aD X h (kms_pick vs lo hi) ((ds.drop (kms_lo lo ds.length)).take (kms_hi hi ds.length-kms_lo lo ds.length)):=by
 unfold kms_pick
 refine(r.length ..).symm▸ ?_
 exact(r.drop _).take _
noncomputable def iP{α:Type}(ds:aa α)(lo hi:Ma Int):aa α:=(ds.drop (kms_lo lo ds.length)).take (kms_hi hi ds.length-kms_lo lo ds.length)
theorem De.isList{X:aa ia}{h:Ja}{v:qa}{ds:aa PyData}(x:De X h v (.list ds)):∃a vs,v=.ref a∧a∉X∧h.IsList a vs.toArray∧aD X h vs ds:=Rd.isList x
theorem De.isTup{X:aa ia}{h:Ja}{v:qa}{ds:aa PyData}(x:De X h v (.tuple ds)):∃a vs,v=.ref a∧a∉X∧IsTup h a vs.toArray∧aD X h vs ds:=by
 have x:Rd X h v (.tuple ds):=x
 cases x with
 |tuple hx h1 h2 h3 h4=>exact⟨_,_,rfl,hx,⟨_,h1,h2,_,by rw[h3]⟩,h4⟩
theorem ao.item{l k:Ba}{pos:Pos}{ds:aa PyData}{i:Int}{d:PyData}(x:ao w A B env Γ Δ l (.list ds))(y:ao w A B env Γ Δ k (.int i))(h0:0≤i)(h1:i<2^63)(hd:ds[i.toNat]? =some d)
  (hs:Aa (cT k=true) aR):ao w A B env Γ Δ (.Subscript l k pos) (.dat d):=.mk λs E S=>
 xg (x.use S λv s1 k1 S1 r1=>y.use S1 λu s2 k2 S2 r2=>by
  obtain⟨a,vs,rfl,ha,hl,hr⟩:=(r1.up k2.up).isList
  refine r2.kQ λt=> ?_
  refine bE (hr.get hd) λv hv JB=> ?_
  refine xE (mH hs a i t) λops qL=> ?_
  exact tail_any hl.typeIs Ah.lookup (xj hl h0 h1 (by simpa using hv) ⟨k1.trans' k2,JB⟩) qL)
theorem ao.x9{l k:Ba}{pos:Pos}{ds:aa PyData}{i:Int}{d:PyData}(x:ao w A B env Γ Δ l (.tuple ds))(y:ao w A B env Γ Δ k (.int i))(h0:0≤i)(h1:i<2^63)(hd:ds[i.toNat]? =some d)
  (hs:Aa (cT k=true) aR):ao w A B env Γ Δ (.Subscript l k pos) (.dat d):=.mk λs E S=>
 xg (x.use S λv s1 k1 S1 r1=>y.use S1 λu s2 k2 S2 r2=>by
  obtain⟨a,vs,rfl,ha,hl,hr⟩:=(r1.up k2.up).isTup
  refine r2.kQ λt=> ?_
  refine bE (hr.get hd) λv hv JB=> ?_
  refine xE (mH hs a i t) λops qL=> ?_
  have bB:i.toNat<vs.length:=(ud.mp hv).1
  exact tail_any hl.typeIs slot_tuple_getitem.lookup (PyProof.Rows.getItem_tuple hl (by exact aan h0) h1 (j:=i.toNat) (seqIndex_of h0 (by simp;exact Int.lt_of_toNat_lt bB)) (by simpa using hv) ⟨k1.trans' k2,JB⟩) qL)
inductive Hx(w:Oa)(A:Xa)(B:Bx)(env:Env)(Γ:aa (Str×D))(Δ:aa (ia×MO)):Ma Ba→Ma Int→Prop
 |none:Hx w A B env Γ Δ none none
 |some {e i}:ao w A B env Γ Δ e (.int i)→Hx w A B env Γ Δ (some e) (some i)
theorem Hx.run{o:Ma Ba}{i:Ma Int}(x:Hx w A B env Γ Δ o i)(S:Sc B env Γ Δ s){Q:qa→za→Prop}(f:∀v s',Kp s s'→Sc B env Γ Δ s'→IsPart v i→Q v s'):Ia (Md w) A (evalPart o env) Q E s:=by
 cases x with
 |none=>rw[evalPart_none];exact Ka (f _ _ (.bN _) S .none)
 |some x=>rw[evalPart_some];exact x.use S λv s1 k1 S1 r1=>by obtain⟨_,rfl⟩:=r1.bx;exact f _ _ k1 S1 (.int ..)
theorem ao.slice{l:Ba}{lo hi:Ma Ba}{p pos:Pos}{ds:aa PyData}{a b:Ma Int}(x:ao w A B env Γ Δ l (.list ds))(y:Hx w A B env Γ Δ lo a)(z:Hx w A B env Γ Δ hi b)(hz:ds.length≤Bb)
   :
  ao w A B env Γ Δ (.Subscript l (.Slice lo hi none p) pos) (.list (iP ds a b)):=.mk λs E S=>
 xg (x.use S λv s1 k1 S1 r1=>wpAny_Slice (y.run S1 λu1 s2 k2 S2 p1=>z.run S2 λu2 s3 k3 S3 p2=>by
  refine(evalPart_none ..).symm▸ ?_
  refine Ka ?_
  obtain⟨a',vs,rfl,ha,hl,hr⟩:=((r1.up k2.up).up k3.up).isList
  obtain⟨ops,qL⟩:=nZ (lo:=lo) (hi:=hi) (p:=p) a' s3.heap.objs.size
  refine tail_any (Ja.IsList.typeIs (s:={s3 with heap:=s3.heap.push {cls:=.type "slice",data:=.fields #[u1,u2,.none]}}) (hl.push _)) Ah.lookup
   (Bk (hl.push _) (Ja.IsSliceOf.new ..) p1 p2 .none (by simp) ?_ (by simpa[hr.length]using hz)) qL
  have S4:=S3.upd (.push s3 {cls:=.type "slice",data:=.fields #[u1,u2,.none]})
  refine⟨((k1.trans' k2).trans' k3).trans' ((Kp.push ..).trans' (Kp.push ..)),?_⟩
  refine(kms_pick_eq ..).symm▸ ?_
  exact Rd.j8 S4.fresh (by simpa[iP]using(hr.up (Kp.push s3 {cls:=.type "slice",data:=.fields #[u1,u2,.none]}).up).pick a b)))
theorem ao.cat{l r:Ba}{pos:Pos}{as bs:aa PyData}(x:ao w A B env Γ Δ l (.list as))(y:ao w A B env Γ Δ r (.list bs))(hz:as.length+bs.length≤Bb):ao w A B env Γ Δ (.BinOp l .Add r pos) (.list (as++bs)):=
 x.bin y λu v s E S p q=>by
  obtain⟨a,vs,rfl,ha,hl,hr⟩:=p.isList
  obtain⟨b,us,rfl,hb,HJ,NX⟩:=q.isList
  obtain⟨⟨cls,dd,data,sl⟩,ho,hc,n,hd⟩:=id hl
  obtain⟨⟨aba,dd2,data2,sl2⟩,ho2,O7,n2,hd2⟩:=id HJ
  simp only at hc hd O7 hd2
  subst hc hd O7 hd2
  have e:vs.toArray++us.toArray=(vs++us).toArray:=by simp
  refine concat_meets ⟨_,ho,rfl⟩ ⟨_,ho2,rfl⟩ noFill_list_add seq_list_add PySem.F.slot_list_add PySem.F.entry_list_add (PySem.F.args_list_add_2 _ _) (list_addW a b vs.toArray us.toArray n n2 dd dd2 sl sl2 (by simpa[hr.length,NX.length]using hz)) ⟨ho,ho2,?_⟩
  refine(e ..).symm▸ ?_
  exact⟨.oV ..,Rd.j8 S.fresh (by simpa using hr.append NX)⟩
theorem ao.rep{e k:Ba}{p pos:Pos}{d:PyData}{n:Int}(x:k9 w A B env Γ Δ [e] [d])(y:ao w A B env Γ Δ k (.int n))(h0:0≤n)(h1:n≤2^20):
  ao w A B env Γ Δ (.BinOp (.List [e] p) .Mult k pos) (.list (Nd n.toNat d)):=.mk λs E S=>
 wpAny_BinOp (List_ (Pa (x.run S) (λvs s1 q=>Ld (by
  refine xA q λk1 r1=> ?_
  refine r1.uc λv z_ r1 rn=> ?_
  cases rn
  have S1:=S.upd k1
  have S2:=S1.upd (.push s1 {cls:=.type "list",data:=.seq [v].toArray})
  refine y.use S2 λu s3 k3 S3 r3=> ?_
  refine r3.kQ λt=> ?_
  have hl:s3.heap.get? s1.heap.objs.size=some {cls:=.type "list",dict:=none,data:=.seq [v].toArray 0,slots:= #[]}:=k3.up _ _ (Zb _ rfl)
  refine wpAny_binaryOp_repeat_ref (T:="list") (U:="int") (by decide) ⟨_,hl,rfl⟩ (λs'=>typeIs_int s' n t) noFill_list_mul PySem.F.fills_int_mul Zi repeat_list PySem.F.slot_int_index.lookup
   (call_meets Zi (typeIs_int s3 n t) PySem.F.entry_int_rmul (PySem.F.args_int_rmul_2 _ _) (int___rmul___int_list n t s1.heap.objs.size [v].toArray 0)
    ⟨hl,rfl,⟨_,hl,rfl⟩,call_meets PySem.F.slot_list_mul ⟨_,hl,rfl⟩ PySem.F.entry_list_mul (PySem.F.args_list_mul_2 _ _)
     (AutoListH.list___mul___list_int_3 s1.heap.objs.size [v].toArray 0 n t (by simp[Ob.List.listFitsIndex];exact X4 h0 h1) (by simp;exact jf h1 (by decide)) (by simp[Ob.List.listTooLong,Bb];exact jf h1 (by decide)))
     ⟨hl,?_⟩⟩)
  refine⟨(k1.trans' (.push ..)).trans' (k3.trans' (.oV ..)),?_⟩
  have e:(aa.foldl (λx1 x2=>x1++x2) #[] (Nd (if([v].toArray:Ua qa).isEmpty=true then 0 else n.toNat) [v].toArray))=(Nd n.toNat v).toArray:=by
   have g:∀(m:Nat) (acc:Ua qa),aa.foldl (λx1 x2=>x1++x2) acc (Nd m #[v])=acc++(Nd m v).toArray:=by
    intro m
    induction m with
    |zero=>intro acc;simp
    |succ m ih=>intro acc;rw[fj,Qd,ih,fj];apply oh;simp
   simpa using g n.toNat #[]
  refine(e ..).symm▸ ?_
  refine Rd.j8 S3.fresh ?_
  have rv:Rd (XX B.Xo env Δ) s3.heap v d:=(r1.up (Kp.push ..).up).up k3.up
  have g:∀m:Nat,aD (XX B.Xo env Δ) s3.heap (Nd m v) (Nd m d):=by
   intro m
   induction m with
   |zero=>exact .nil
   |succ m ih=>exact .cons rv ih
  simpa using g n.toNat) (by show vs.toArray.size≤Bb;rw[Kf,q.2.length,sizeLine_eq];simp)) λz_ z_ z=>z))
variable{aG:ia→qa}{d0:qa}
theorem Sc.g8(S:Sc B env Γ Δ s)(G:aW w aG d0 B.s0.heap):aW w aG d0 s.heap:=G.keeps S.kp.up
theorem ao.glob{x:Str}{pos:Pos}{v:qa}(G:aW w aG d0 B.s0.heap)(hg:nsIn (KO w.params d0) mainGlobals x=some (some v))(he:env.globals=mainGlobals)(hx:env.kindOf x=some .globalImplicit)
  (hk:Aa (env.scope.kind=.function) aK)(hd:Aa ((x==("__debug__":Str))=false) aK):ao w A B env Γ Δ (.Name x pos) (.val v):=.mk λs E S=>by
 have G:=S.g8 G
 refine xE G.gl λmg Pu=> ?_
 exact Name_function_global hk hx (loadGlobal_global (by rw[he];exact Pu) (mg_of G.ko Pu hg) ⟨.bN _,rfl⟩) hd
theorem ao.bG{x:Str}{pos:Pos}{v:qa}(G:aW w aG d0 B.s0.heap)(hg:nsIn (KO w.params d0) mainGlobals x=some none)(hv:bootBuiltins x=some v)(he:env.globals=mainGlobals)(hb:env.builtins=builtinsNs)(hx:env.kindOf x=some .globalImplicit)
  (hn:Aa ((x==("__name__":Str))=false) aK)(hk:Aa (env.scope.kind=.function) aK)(hd:Aa ((x==("__debug__":Str))=false) aK):ao w A B env Γ Δ (.Name x pos) (.val v):=.mk λs E S=>by
 have G:=S.g8 G
 refine xE G.gl λmg Pu=> ?_
 refine bE G.bl λmb hmb NL=> ?_
 exact Name_function_global hk hx (loadGlobal_builtin (by rw[he];exact Pu) (mg_none_of G.ko Pu hg) (by rw[hb];exact hmb) ((NL x (by simpa using hn)).trans hv) ⟨.bN _,rfl⟩) hd
theorem ao.oE{x:Str}{p pos:Pos}{e:Ba}{es:aa Ba}{ds:aa PyData}{d:D}{id:Yb}(hf:ao w A B env Γ Δ (.Name x p) (.val (.builtin id)))(xs:k9 w A B env Γ Δ (e::es) ds)
  (hc:∀vs s E,Sc B env Γ Δ s→aD (XX B.Xo env Δ) s.heap vs ds→Ia (Md w) A (call (.builtin id) vs) (λv s'=>Kp s s'∧De (XX B.Xo env Δ) s'.heap v d) E s)
  :ao w A B env Γ Δ (.Call (.Name x p) (e::es) [] pos) d:=.mk λs E S=>by
 have he:Rb (e::es) env=(false,eval e env)::Rb es env:=by cases xs;exact aF _ _ _ ‹_›
 have lD:(backTo pos (Rb es env)).any (·.1)=false:=by cases xs;exact k9.plain ‹_›
 refine Ke rfl (hf.use S λf s1 k1 S1 r1=> ?_)
 obtain rfl:f=.builtin id:=r1
 refine Fj (Pa (xs.run S1) (λvs s2 q=>Pa (hc vs s2 E (S1.upd q.1) q.2) (λv s3 q3=>⟨(k1.trans' q.1).trans' q3.1,q3.2⟩) λz_ z_ z=>z) λz_ z_ z=>z) he lD
theorem ao.uo{x:Str}{p pos:Pos}{e:Ba}{es:aa Ba}{ds:aa PyData}{d:D}{T:Yb}(hf:ao w A B env Γ Δ (.Name x p) (.val (.type T)))(xs:k9 w A B env Γ Δ (e::es) ds)
  (hc:∀vs s E,Sc B env Γ Δ s→aD (XX B.Xo env Δ) s.heap vs ds→Ia (Md w) A (call (.type T) vs) (λv s'=>Kp s s'∧De (XX B.Xo env Δ) s'.heap v d) E s)
  :ao w A B env Γ Δ (.Call (.Name x p) (e::es) [] pos) d:=.mk λs E S=>by
 have he:Rb (e::es) env=(false,eval e env)::Rb es env:=by cases xs;exact aF _ _ _ ‹_›
 have lD:(backTo pos (Rb es env)).any (·.1)=false:=by cases xs;exact k9.plain ‹_›
 refine Ke rfl (hf.use S λf s1 k1 S1 r1=> ?_)
 obtain rfl:f=.type T:=r1
 refine PyProof.Rows.callWith_type1 (Pa (xs.run S1) (λvs s2 q=>Pa (hc vs s2 E (S1.upd q.1) q.2) (λv s3 q3=>⟨(k1.trans' q.1).trans' q3.1,q3.2⟩) λz_ z_ z=>z) λz_ z_ z=>z) he lD
@[elab_as_elim] theorem aD.c1 {M:aa qa→Prop} {X:aa ia} {h:Ja} {vs:aa qa} {d:PyData} (r:aD X h vs [d]) (k:∀v,Rd X h v d→M [v]):M vs:=r.uc λv vs r1 r=>r.un (k v r1)
@[elab_as_elim] theorem aD.c2 {M:aa qa→Prop} {X:aa ia} {h:Ja} {vs:aa qa} {d e:PyData} (r:aD X h vs [d,e]) (k:∀u v,Rd X h u d→Rd X h v e→M [u,v]):M vs:=r.uc λv vs r1 r=>r.c1 λu r2=>k v u r1 r2
@[elab_as_elim] theorem aD.c3 {M:aa qa→Prop} {X:aa ia} {h:Ja} {vs:aa qa} {d e f:PyData} (r:aD X h vs [d,e,f]) (k:∀u v x,Rd X h u d→Rd X h v e→Rd X h x f→M [u,v,x]):M vs:=r.uc λv vs r1 r=>r.c2 λu x r2 r3=>k v u x r1 r2 r3
theorem aD.one{X:aa ia}{h:Ja}{vs:aa qa}{d:PyData}(r:aD X h vs [d]):∃v,vs=[v]∧Rd X h v d:=r.c1 λv r=>⟨_,rfl,r⟩
theorem aD.two{X:aa ia}{h:Ja}{vs:aa qa}{d e:PyData}(r:aD X h vs [d,e]):∃u v,vs=[u,v]∧Rd X h u d∧Rd X h v e:=r.c2 λu v r s=>⟨_,_,rfl,r,s⟩
theorem Kp.of(s:za){h':Ja}{tk:Nat}(k:Up s.heap h'):Kp s {s with heap:=h',toks:=tk}:=⟨h',tk,rfl,k⟩
theorem ao.len{x:Str}{p pos:Pos}{e:Ba}{ds:aa PyData}(hf:ao w A B env Γ Δ (.Name x p) (.val (.builtin "len")))(y:ao w A B env Γ Δ e (.list ds))(hz:ds.length≤Bb)
  (he:Aa (notStar e=true) aR):ao w A B env Γ Δ (.Call (.Name x p) [e] [] pos) (.int ds.length):=
 hf.oE (.cons y .nil he) λvs s E S r=>by
  refine r.c1 λv r1=> ?_
  obtain⟨a,vs,rfl,ha,hl,hr⟩:=Rd.isList r1
  refine call_len_list hl (by rw[sizeLine_eq]at hz;simp[hr.length];exact pe.mpr (Fc hz (by decide))) ⟨.tok ..,?_⟩
  rw[Kf,hr.length];exact .int ..
theorem ao.str{x:Str}{p pos:Pos}{e:Ba}{i:Int}(hf:ao w A B env Γ Δ (.Name x p) (.val (.type "str")))(y:ao w A B env Γ Δ e (.int i))(hz:i.natAbs<1000000)
  (he:Aa (notStar e=true) aR):ao w A B env Γ Δ (.Call (.Name x p) [e] [] pos) (.str (ya (toString i))):=
 hf.uo (.cons y .nil he) λvs s E S r=>by
  refine r.c1 λv r1=> ?_
  cases r1
  have hl:i.natAbs.log2<1920:=by
   by_cases h0:i.natAbs=0
   ·rw[h0];decide
   ·exact Nat.lt_trans ((Nat.log2_lt (n:=i.natAbs) (k:=20) h0).mpr (by exact Dc hz (by decide))) (by decide)
  exact PySem.P.str_of_int hl ⟨.tok ..,.str ..⟩
theorem ao.int{x:Str}{p pos:Pos}{e:Ba}{n:Int}(hf:ao w A B env Γ Δ (.Name x p) (.val (.type "int")))(y:ao w A B env Γ Δ e (.str (ya (toString n))))(h0:0≤n)(h1:n<10^10)
  (he:Aa (notStar e=true) aR):ao w A B env Γ Δ (.Call (.Name x p) [e] [] pos) (.int n):=
 hf.uo (.cons y .nil he) λvs s E S r=>by
  refine r.c1 λv r1=> ?_
  cases r1
  exact PySem.W.KIN.call_num h0 h1 ⟨.tok ..,.int ..⟩
theorem ao.min2{x:Str}{p pos:Pos}{e f:Ba}{a b:Int}(hh:A.handled=none)(hf:ao w A B env Γ Δ (.Name x p) (.val (.builtin "min")))(y:ao w A B env Γ Δ e (.int a))(z:ao w A B env Γ Δ f (.int b))
  (he:Aa (notStar e=true) aR)(AG:Aa (notStar f=true) aR):ao w A B env Γ Δ (.Call (.Name x p) [e,f] [] pos) (.int (min a b)):=
 hf.oE (.cons y (.cons z .nil AG) he) λvs s E S r=>by
  refine r.c2 λu v r1 r2=> ?_
  cases r1;cases r2
  refine min_two_ints hh λh' tk hk=>⟨.of s hk,?_⟩
  refine(Int.min_def ..).symm▸ ?_
  by_cases q:b<a
  ·rw[if_pos q,if_neg (by exact aaw q)];exact .int ..
  ·rw[if_neg q,if_pos (by exact ig.mp q)];exact .int ..
theorem ao.max2{x:Str}{p pos:Pos}{e f:Ba}{a b:Int}(hh:A.handled=none)(hf:ao w A B env Γ Δ (.Name x p) (.val (.builtin "max")))(y:ao w A B env Γ Δ e (.int a))(z:ao w A B env Γ Δ f (.int b))
  (he:Aa (notStar e=true) aR)(AG:Aa (notStar f=true) aR):ao w A B env Γ Δ (.Call (.Name x p) [e,f] [] pos) (.int (max a b)):=
 hf.oE (.cons y (.cons z .nil AG) he) λvs s E S r=>by
  refine r.c2 λu v r1 r2=> ?_
  cases r1;cases r2
  refine max_two_ints hh λh' tk hk=>⟨.of s hk,?_⟩
  refine(Int.max_def ..).symm▸ ?_
  by_cases q:b>a
  ·rw[if_pos q,if_pos (by exact gf q)];exact .int ..
  ·rw[if_neg q]
   by_cases q2:a≤b
   ·rw[if_pos q2,show b=a by exact Ro q q2];exact .int ..
   ·rw[if_neg q2];exact .int ..
theorem ao.dD{x:Str}{p pos:Pos}{e:Ba}{a:Int}(hf:ao w A B env Γ Δ (.Name x p) (.val (.type "range")))(y:ao w A B env Γ Δ e (.int a))
  (he:Aa (notStar e=true) aR):ao w A B env Γ Δ (.Call (.Name x p) [e] [] pos) (.range 0 a):=
 hf.uo (.cons y .nil he) λvs s E S r=>by
  refine r.c1 λv r1=> ?_
  cases r1
  exact call_range_1 ⟨.oV ..,_,_,_,_,rfl,S.fresh,IsRange.new ..⟩
theorem ao.jE{x:Str}{p pos:Pos}{e f:Ba}{a b:Int}(hf:ao w A B env Γ Δ (.Name x p) (.val (.type "range")))(y:ao w A B env Γ Δ e (.int a))(z:ao w A B env Γ Δ f (.int b))
  (he:Aa (notStar e=true) aR)(AG:Aa (notStar f=true) aR):ao w A B env Γ Δ (.Call (.Name x p) [e,f] [] pos) (.range a b):=
 hf.uo (.cons y (.cons z .nil AG) he) λvs s E S r=>by
  refine r.c2 λu v r1 r2=> ?_
  cases r1;cases r2
  exact call_range_2 ⟨.oV ..,_,_,_,_,rfl,S.fresh,IsRange.new ..⟩
noncomputable def uB(env:Env):aa (Str×Zd)→aa (Str×ia)→aa (Str×ia)
 |[],acc=>acc
 |(n,k)::r,acc=>if k== .free then uB env r ((n,(env.cells.lookup n).getD 0)::acc)else uB env r acc
noncomputable def lT(scope:Lc)(env:Env):aa (Str×ia):=uB env scope.names []
theorem yP(env:Env)(f:Str×Zd→aa (Str×ia)→Sem (ForInStep (aa (Str×ia))))
  (hf:∀n k acc,f (n,k) acc=if k== .free then(do let c←cellOf env n;pure (.yield ((n,c)::acc)))else pure (.yield acc)):
  ∀(names:aa (Str×Zd)) (acc:aa (Str×ia)),(∀p∈names,p.2=.free→(env.cells.lookup p.1).isSome=true)→forIn names acc f=pure (uB env names acc):=by
 intro names
 induction names with
 |nil=>intro acc _;rw[nh];rfl
 |cons q r ih=>
  obtain⟨n,k⟩:=q
  intro acc h
  rw[qi,hf]
  have hr:=λacc=>ih acc λp hp=>h p (Wa _ hp)
  unfold uB
  by_cases hk:(k==Ie)=true
  ·rw[if_pos hk,if_pos hk]
   refine xE (Zf.mp (h (n,k) La (by simpa using hk))) λc hc=> ?_
   have e:cellOf env n=pure c:=by unfold cellOf;rw[show env.cells.lookup n=some c from hc]
   rw[e,show env.cells.lookup n=some c from hc,Nf,←hr]
   rfl
  ·rw[if_neg hk,if_neg hk,←hr]
   rfl
theorem fu{scope:Lc}{env:Env}(h:∀p∈scope.names,p.2=.free→(env.cells.lookup p.1).isSome=true):closureFor scope env=pure (lT scope env):=by
 show(forIn scope.names [] (λx s=>match x with|(name,kind)=>if(kind==Ie)=true then(do let c←cellOf env name;pure (Af ((name,c)::s)))else pure (Af s))>>=λs=>pure s)=pure (lT scope env)
 rw[yP env _ (λn k acc=>rfl) scope.names [] h]
 rfl
theorem wB(env:Env)(names:aa (Str×Zd)):∀(acc:aa (Str×ia)),(∀p∈names,p.2=.free→(env.cells.lookup p.1).isSome=true)→∀p∈uB env names acc,p∈acc∨env.cells.lookup p.1=some p.2:=by
 induction names with
 |nil=>exactλacc z_ p hp=>.inl hp
 |cons q r ih=>
  obtain⟨n,k⟩:=q
  intro acc h p hp
  unfold uB at hp
  have hr:=λacc=>ih acc (λp hp=>h p (Wa _ hp)) p
  by_cases hk:(k==Ie)=true
  ·rw[if_pos hk]at hp
   rcases hr _ hp with e|e
   ·rcases Za.mp e with rfl|e
    ·refine xE (Zf.mp (h (n,k) La (by simpa using hk))) λc hc=> ?_
     have hc:env.cells.lookup n=some c:=hc
     right;show env.cells.lookup n=some _;rw[hc];rfl
    ·exact .inl e
   ·exact .inr e
  ·rw[if_neg hk]at hp;exact hr _ hp
theorem oG(env:Env)(y:Str)(c:ia)(hc:env.cells.lookup y=some c):∀(names:aa (Str×Zd)) (acc:aa (Str×ia)),acc.lookup y=some c∨(y,Ie)∈names→(uB env names acc).lookup y=some c:=by
 intro names
 induction names with
 |nil=>
  intro acc h
  rcases h with h|h
  ·exact h
  ·cases h
 |cons q r ih=>
  obtain⟨n,k⟩:=q
  intro acc h
  unfold uB
  by_cases hk:(k==Ie)=true
  ·rw[if_pos hk]
   have iM:k=.free:=by simpa using hk
   subst iM
   refine ih _ ?_
   by_cases hy:y=n
   ·subst hy;left;rw[Df,beq_self_eq_true,hc];rfl
   ·rcases h with h|h
    ·left;rw[Df,show(y==n)=false from by simpa using hy];exact h
    ·rcases Za.mp h with h|h
     ·cases h;exact absurd rfl hy
     ·exact .inr h
  ·rw[if_neg hk]
   refine ih acc ?_
   rcases h with h|h
   ·exact .inl h
   ·rcases Za.mp h with h|h
    ·cases h;exact absurd rfl hk
    ·exact .inr h
theorem e8:∀(names:aa (Str×Zd)) (n:Nat) (acc:aa (Str×ia)),cellsFrom n names acc=cellsFrom n names []++acc
 |[],n,acc=>rfl
 |(x,k)::r,n,acc=>by
  unfold cellsFrom
  by_cases hk:(k==ze)=true
  ·rw[if_pos hk,if_pos hk,e8 r (n+1) ((x,n)::acc),e8 r (n+1) [(x,n)]];simp
  ·rw[if_neg hk,if_neg hk];exact e8 r n acc
noncomputable def b9(scope:Lc)(C:ia)(env:Env):Env:=compEnvC scope (cellsFrom (C+1) scope.names []++lT scope env) C env
theorem iB{M:Model}{A:Xa}{E:qa→za→Prop}{s:za}{scope:Lc}{env:Env}{qual:Str}{Q:Env→za→Prop}
  (h:Q {scope:=scope,locals:=s.heap.objs.size,globals:=env.globals,cells:=cellsFrom (s.heap.objs.size+1) scope.names []++lT scope env,qual:=qual,func:=none,code:=env.code,frame:=env.frame,builtins:=env.builtins}
   {s with heap:=pushCells (s.heap.push {cls:=.type "dict",data:=.dict #[]}) scope.names}):
  Ia M A (newFunctionEnv scope env.globals (lT scope env) [] qual none .none (some env)) Q E s:=by
 simp only[newFunctionEnv,Ma.isSome_some,if_true]
 refine Ca (wpAny_alloc ?_)
 refine Ca (wpAny_layCells _ (λname kind cells=>by cases hkc:kind==ze<;> simp[hkc]) _ _ _ _ ?_)
 rw[show({s with heap:=s.heap.push {cls:=.type "dict",data:=.dict #[]}}:za).heap.objs.size=s.heap.objs.size+1 from Yc ..]
 rw[nh,e8]
 exact Ca (Ka (Ka h))
noncomputable def Calm(o:Obj):Prop:=∀n,o.cls=.type n→(["enumerate","zip","dict_itemiterator","dict_reverseitemiterator","odict_iterator","itertools.zip_longest","itertools.pairwise"].contains n)=false
inductive bF:D→aa PyData→Prop
 |list (ds):ds.length≤Bb→bF (.list ds) ds
 |range (a b:Int): -(2^62)≤a→b<2^62→(b-a).toNat≤Bb→a≤b→bF (.range a b) ((Sa (b-a).toNat).map λ(k:Nat)=>.int (a+(k:Int)))
theorem cM{α:Type}{l:aa (Str×α)}{n:Str}{c:α}(hn:(l.map (·.1)).Nodup)(h:(n,c)∈l):l.lookup n=some c:=by
 induction l with
 |nil=>exact(nomatch h)
 |cons q r ih=>
  obtain⟨k,v⟩:=q
  have hn:=Pd.mp hn
  rw[Df]
  rcases Za.mp h with e|h
  ·cases e;rw[beq_self_eq_true]
  ·rw[show(n==k)=false from beq_false_of_ne λe=>hn.1 (by rw[←e];exact jd (f:=(·.1)) h)]
   exact ih hn.2 h
theorem lookup_none{α:Type}:∀{l:aa (Str×α)} {n:Str},(∀c,(n,c)∉l)→l.lookup n=none
 |[],_,_=>rfl
 |(k,v)::r,n,h=>by
  rw[Df]
  have:n≠k:=λe=>h v (e▸La)
  rw[show(n==k)=false from by simpa using this]
  exact lookup_none λc hc=>h c (Wa _ hc)
theorem lookup_append{α:Type}:∀{l r:aa (Str×α)} {n:Str},(l++r).lookup n=(l.lookup n).or (r.lookup n)
 |[],r,n=>by simp
 |(k,v)::l,r,n=>by
  rw[Hg,Df,Df]
  cases n==k with
  |true=>simp
  |false=>exact lookup_append
theorem rA{scope:Lc}{env:Env}{n:Str}(names:aa (Str×Zd)):(names.map λ(n,k)=>if(k==Ie&&env.scope.kind== .function&&env.kindOf n==some .cell)then(n,ze)else(n,k)).lookup n
  =(names.lookup n).map λk=>if(k==Ie&&env.scope.kind== .function&&env.kindOf n==some .cell)then ze else k:=by
 induction names with
 |nil=>rfl
 |cons q r ih=>
  obtain⟨m,k⟩:=q
  refine(Ib ..).symm▸ ?_
  show aa.lookup n ((if(k==Ie&&env.scope.kind==ScopeKind.function&&env.kindOf m==some ze)=true then(m,ze)else(m,k))::_)=_
  rw[show(if(k==Ie&&env.scope.kind==ScopeKind.function&&env.kindOf m==some ze)=true then(m,ze)else(m,k))
   =(m,if(k==Ie&&env.scope.kind==ScopeKind.function&&env.kindOf m==some ze)=true then ze else k)from by split<;> rfl,
   Df,Df]
  cases hb:n==m with
  |true=>
   have:n=m:=by simpa using hb
   subst this
   rfl
  |false=>exact ih
theorem gP{scope:Lc}{env:Env}{C:ia}{cl:aa (Str×ia)}{n:Str}:(compEnvC scope cl C env).kindOf n=(scope.names.lookup n).map λk=>if(k==Ie&&env.scope.kind== .function&&env.kindOf n==some .cell)then ze else k:=
 rA (scope:=scope) scope.names
theorem e9:∀(names:aa (Str×Zd)) (n:Nat) (acc:aa (Str×ia)) (p:Str×ia),p∈cellsFrom n names acc→p∈acc∨(p.1,ze)∈names
 |[],n,acc,p,h=>.inl h
 |(x,k)::r,n,acc,p,h=>by
  unfold cellsFrom at h
  by_cases hk:(k==ze)=true
  ·rw[if_pos hk]at h
   rcases e9 r _ _ p h with h|h
   ·rcases Za.mp h with rfl|h
    ·right;rw[show k=.cell from by simpa using hk];exact La
    ·exact .inl h
   ·exact .inr (Wa _ h)
  ·rw[if_neg hk]at h
   rcases e9 r _ _ p h with h|h
   ·exact .inl h
   ·exact .inr (Wa _ h)
theorem cellsFrom_some(names:aa (Str×Zd)):∀(n:Nat) (acc:aa (Str×ia)) (y:Str),(acc.lookup y).isSome=true∨(y,ze)∈names→((cellsFrom n names acc).lookup y).isSome=true:=by
 induction names with
 |nil=>
  intro n acc y h
  rcases h with h|h
  ·exact h
  ·cases h
 |cons q r ih=>
  obtain⟨x,k⟩:=q
  intro n acc y h
  unfold cellsFrom
  by_cases hk:(k==ze)=true
  ·rw[if_pos hk]
   refine ih _ _ y ?_
   by_cases hy:y=x
   ·subst hy;left;simp
   ·rcases h with h|h
    ·left;rw[Df,show(y==x)=false from by simpa using hy];exact h
    ·rcases Za.mp h with h|h
     ·cases h;exact absurd rfl hy
     ·exact .inr h
  ·rw[if_neg hk]
   refine ih _ _ y ?_
   rcases h with h|h
   ·exact .inl h
   ·rcases Za.mp h with h|h
    ·cases h;exact absurd rfl hk
    ·exact .inr h
structure dJ(scope:Lc)(env:Env):Prop where
 kind:scope.kind=.function
 nodup:(scope.names.map (·.1)).Nodup
 free:∀p∈scope.names,p.2=.free→(env.cells.lookup p.1).isSome=true
variable{Γf:aa (Str×D)}{scope:Lc}
theorem cL{cs:aa (Str×ia)}{x:Str}{c:ia}(h:cs.lookup x=some c):(x,c)∈cs:=Jf h
theorem Sc.comp(S:Sc B env Γ Δ s)(ok:dJ scope env)(hk:env.scope.kind=.function){Γ0:aa (Str×D)}(hn:(Γ0.map (·.1)).Nodup)
  (hΓ:∀p∈Γ0,p.2≠ .un→p∈Γ∧scope.names.lookup p.1=some .free∧env.kindOf p.1=some .cell){oI oA:Obj}{mI mA:MO}{h3:Ja}
  (e3:h3=(s.heap.push oI).push oA)(hmI:∀X h',Up h3 h'→mI.At X h' s.heap.objs.size)(hmA:∀X h',Up h3 h'→mA.At X h' (s.heap.objs.size+1)):
  (∀b o,b∉XX B.Xo env Δ→s.heap.get? b=some o→b∉XX (XX B.Xo env Δ) (b9 scope (s.heap.objs.size+2) env) [(s.heap.objs.size,mI),(s.heap.objs.size+1,mA)])∧
  Sc ⟨s,XX B.Xo env Δ,B.Φ⟩ (b9 scope (s.heap.objs.size+2) env) Γ0 [(s.heap.objs.size,mI),(s.heap.objs.size+1,mA)]
   {s with heap:=pushCells (h3.push {cls:=.type "dict",data:=.dict #[]}) scope.names}:=by
 have z3:h3.objs.size=s.heap.objs.size+2:=by rw[e3,Yc,Yc]
 have z4:(h3.push {cls:=.type "dict",data:=.dict #[]}).objs.size=s.heap.objs.size+3:=by rw[Yc,z3]
 have u3:Up h3 (pushCells (h3.push {cls:=.type "dict",data:=.dict #[]}) scope.names):=λb o e=>pushCells_keeps _ _ b o (qc _ e)
 have u0:Up s.heap (pushCells (h3.push {cls:=.type "dict",data:=.dict #[]}) scope.names):=λb o e=>u3 b o (by rw[e3];exact qc _ (qc _ e))
 have HO:=cellsFrom_ok scope.names (h3.push {cls:=.type "dict",data:=.dict #[]}) (s.heap.objs.size+3) [] ⟨λz_ z_ hm=>(nomatch hm),aa.Pairwise.nil⟩ (by rw[z4];exact zb _)
 rw[z4]at HO
 have B9:∀p∈lT scope env,env.cells.lookup p.1=some p.2:=λp hp=>by
  rcases wB env scope.names [] ok.free p hp with h|h
  ·cases h
  ·exact h
 have aaC:∀p∈lT scope env,p.2<s.heap.objs.size:=λp hp=>S.jH (XX.cell (cL (B9 p hp)))
 have iN:∀x c,(x,c)∈(b9 scope (s.heap.objs.size+2) env).cells→((x,c)∈cellsFrom (s.heap.objs.size+3) scope.names []∧s.heap.objs.size+3≤c)∨((x,c)∈lT scope env∧c<s.heap.objs.size):=λx c h=>by
  rcases zc.mp h with h|h
  ·exact .inl ⟨h,(HO.empty x c h).2⟩
  ·exact .inr ⟨h,aaC _ h⟩
 have more:∀b o,b∉XX B.Xo env Δ→s.heap.get? b=some o→b∉XX (XX B.Xo env Δ) (b9 scope (s.heap.objs.size+2) env) [(s.heap.objs.size,mI),(s.heap.objs.size+1,mA)]:=λb o hb e hx=>by
  have bB: @Od Nat _ b s.heap.objs.size:=Ub e
  rcases XX.cases hx with h|h|⟨x,h⟩|⟨m,h⟩
  ·exact hb h
  ·have: @Eq Nat b (s.heap.objs.size+2):=h
   exact Uy bB this
  ·rcases iN x b h with⟨_,h⟩|⟨h,_⟩
   ·have h: @Zc Nat _ (s.heap.objs.size+3) b:=h
    exact Uz bB h
   ·exact hb (XX.cell (cL (B9 _ h)))
  ·rcases Za.mp h with h|h
   ·cases h;exact Pc _ bB
   ·cases Vb.mp h;exact Pc _ (Nat.lt_of_succ_lt bB)
 refine⟨more,⟨_,s.toks,rfl,u0⟩,λa ha=>S.jH ha,⟨λz_=>none,?_⟩,by show s.heap.objs.size≤s.heap.objs.size+2;exact Tc _ 2,λx c h=> ?_,λx y c h h' hc=> ?_,hn,λp hp hu=> ?_,λp hp=> ?_,?_,λp hp=> ?_⟩
 ·have:=Ja.Ns.new h3 (.type "dict")
  rw[z3]at this
  exact this.keeps (pushCells_keeps _ _)
 ·rcases iN x c h with⟨h,hc⟩|⟨h,hc⟩
  ·exact⟨by show @Ne Nat c (s.heap.objs.size+2);have hc: @Zc Nat _ (s.heap.objs.size+3) c:=hc;exact Nat.ne_of_gt hc,⟨_,(HO.empty x c h).1⟩,.inl (by show @Zc Nat _ s.heap.objs.size c;have hc: @Zc Nat _ (s.heap.objs.size+3) c:=hc;exact Nat.le_of_add_right_le hc)⟩
  ·obtain⟨_,⟨v,hv⟩,_⟩:=S.cl x c (cL (B9 _ h))
   exact⟨by show @Ne Nat c (s.heap.objs.size+2);have hc: @Od Nat _ c s.heap.objs.size:=hc;exact Ao hc,⟨v,hv.keeps u0⟩,.inr (XX.cell (cL (B9 _ h)))⟩
 ·have hc: @Zc Nat _ s.heap.objs.size c:=hc
  rcases iN x c h with⟨h,_⟩|⟨_,bB⟩
  ·rcases iN y c h' with⟨h',_⟩|⟨_,bB⟩
   ·exact name_of_addr HO.apart h h'
   ·exact absurd bB (Sf.mpr hc)
  ·exact absurd bB (Sf.mpr hc)
 ·refine yI (hΓ p hp hu) λhm hf NN=> ?_
  refine bE (S.vars p hm hu) λv hb hd=> ?_
  refine⟨v,?_,(hd.more more).up u0⟩
  rcases hb with⟨hl,_⟩|⟨_,c,hc,hv⟩
  ·rw[NN]at hl;cases hl
  ·refine .inr ⟨.inl ?_,c,?_,hv.keeps u0⟩
   ·show(b9 scope (s.heap.objs.size+2) env).kindOf p.1=_
    unfold b9
    rw[gP,hf,hk,NN];rfl
   ·show(cellsFrom (s.heap.objs.size+2+1) scope.names []++lT scope env).lookup p.1=some c
    rw[lookup_append,lookup_none (l:=cellsFrom _ _ _),Ma.none_or]
    ·exact oG env p.1 c hc scope.names [] (.inr (jZ hf))
    ·intro c' HF
     rcases e9 _ _ _ _ HF with h|h
     ·cases h
     ·have:=cM ok.nodup h
      rw[hf]at this;cases this
 ·rcases Za.mp hp with rfl|hp
  ·refine⟨by show s.heap.objs.size≠s.heap.objs.size+2;exact Sz,λx c h=> ?_,⟨get_none (zb _),λhx=>Pc _ (S.jH hx)⟩,hmI _ _ u3⟩
   rcases iN x c h with⟨_,h⟩|⟨_,h⟩
   ·show @Ne Nat c s.heap.objs.size;have h: @Zc Nat _ (s.heap.objs.size+3) c:=h;exact TU h
   ·show @Ne Nat c s.heap.objs.size;have h: @Od Nat _ c s.heap.objs.size:=h;exact se h
  ·cases Vb.mp hp
   refine⟨by show s.heap.objs.size+1≠s.heap.objs.size+2;exact zj (_+1),λx c h=> ?_,⟨get_none (Of _),λhx=>Pc _ (Dc (S.jH hx) (Of _))⟩,hmA _ _ u3⟩
   rcases iN x c h with⟨_,h⟩|⟨_,h⟩
   ·show @Ne Nat c (s.heap.objs.size+1);have h: @Zc Nat _ (s.heap.objs.size+3) c:=h;exact TX h
   ·show @Ne Nat c (s.heap.objs.size+1);have h: @Od Nat _ c s.heap.objs.size:=h;exact DN h
 ·simp
 ·exact((S.gh p hp).more more).up u0
where jZ {names:aa (Str×Zd)} {x:Str} (h:names.lookup x=some Ie):(x,Ie)∈names:=Jf h
variable{R:Yd→za→Prop}
theorem nO{target:Ba}{I:ia}{o:Obj}{v:qa}{Q:Unit→za→Prop}(ho:s.heap.get? I=some o)(hc:Calm o)(h:Q () s):Ia (Md w) A (Bg target (.ref I) v) Q E s:=by
 have key:Ia (Md w) A (do
   let(.ref r,.ref a):=((.ref I:qa),v)|return()
   let o←load r
   match o.cls,o.data with
   |.type n,.fields vs=>
    if["enumerate","zip","dict_itemiterator","dict_reverseitemiterator","odict_iterator","itertools.zip_longest","itertools.pairwise"].contains n&&vs[0]? ==some (rawInt a)then
     rule "for.unpacks-the-owned-tuple"
     updateField r 0 .none
   |_,_=>pure ()) Q E s:=by
  cases v with
  |ref a=>
   refine Ca (wpAny_load ho ?_)
   cases QJ:o.cls with
   |type n=>
    cases hd:o.data with
    |fields vs=>
     simp only[hc n QJ,Ga.false_and,wg,yg]
     exact Ka h
    |_=>exact Ka h
   |_=>exact Ka h
  |_=>exact Ka h
 cases target<;> first|exact Ka h|exact key
noncomputable def QU(w:Oa)(A:Xa)(R:Yd→za→Prop)(target:Ba)(it:qa)(body orelse:aa Va)(env:Env)(F:qa→za→Prop)(K:za→Prop)(s:za):Prop:=
 Ia (Md w) A (Ad it) (λr s₁=>match r with
   |none=>Ia (Md w) A (execs orelse env) (λf s₃=>R (.ok f) s₃) F s₁
   |some v=>Ia (Md w) A (Bg target it v) (λz_ s₁=>Ia (Md w) A (assign target env v) (λz_ s₂=>Ia (Md w) A (execs body env) (λf s₃=>match f with
     |.next|.cont=>K s₃
     |.brk=>R (.ok .next) s₃
     |.ret v=>R (.ok (.ret v)) s₃) F s₂) F s₁) F s₁) F s
theorem EB{target:Ba}{it:qa}{body orelse:aa Va}{env:Env}(I:Nat→za→Prop)
  (turn:∀(F:qa→za→Prop) (K:za→Prop) n s,(∀s',(∃m,m<n∧I m s')→K s')→I n s→QU w A R target it body orelse env F K s)
  (n:Nat)(h:I n s):wc (Md w) A (.forLoop target it body orelse env) R s:=by
 refine codeAny_loop' rfl I (λn s hI=> ?_) n h
 show Ia _ _ ((forTurn target it body orelse env).onRaise (λx=>do noteFrame x env;theTreesLotGoes x)) _ _ s
 refine wpAny_noted ?_
 simp only[forTurn]
 refine Ca (Ed (Ca (wpAny_onRaise (Pa (turn _ (λs₅=>∃m,m<n∧I m s₅) n s (λz_ h=>h) hI) (λr s₁ h₁=> ?_) λz_ z_ h'=>Ed h'))))
 cases r with
 |none=>exact Ka (.inr ⟨rfl,codeAny_block h₁⟩)
 |some v=>
  refine Ca (Pa h₁ (λz_ s₁ h₁=> ?_) λz_ z_ h'=>h')
  refine Ca (Pa h₁ (λz_ s₂ h₂=>Ca (Pa h₂ (λf s₃ h₃=> ?_) λz_ z_ h'=>h')) λz_ z_ h'=>h')
  cases f with
  |next =>exact Ka (.inl ⟨rfl,h₃⟩)
  |cont=>exact Ka (.inl ⟨rfl,h₃⟩)
  |brk=>exact Ka h₃
  |ret v=>exact Ka h₃
noncomputable def QR(w:Oa)(A:Xa)(R:Yd→za→Prop)(elt target:Ba)(ifs:aa Ba)(it acc:qa)(env:Env)(F:qa→za→Prop)(K:za→Prop)(s:za):Prop:=
 Ia (Md w) A (Ad it) (λr s₁=>match r with
   |none=>R (.ok .next) s₁
   |some v=>Ia (Md w) A (Bg target it v) (λz_ s₁=>Ia (Md w) A (assign target env v) (λz_ s₂=>
     Ia (Md w) A (forIn ifs true λc r=>if r=true then do let ok←isTrue c env (eval c env);pure (Af ok)else pure (Af r)) (λok s₃=>
      if ok=true then Ia (Md w) A (eval elt env) (λx s₄=>
       Ia (Md w) A (call (.builtin "list.append") [acc,x]) (λz_ s₅=>K s₅) F s₄) F s₃
      else K s₃) F s₂) F s₁) F s₁) F s
theorem sP{elt target iter:Ba}{ifs:aa Ba}{scope:Lc}{pos:Pos}{it acc:qa}{env:Env}(I:Nat→za→Prop)
  (turn:∀(F:qa→za→Prop) (K:za→Prop) n s,(∀s',(∃m,m<n∧I m s')→K s')→I n s→QR w A R elt target ifs it acc env F K s)
  (n:Nat)(h:I n s):wc (Md w) A (.compLoop (.ListComp elt [⟨target,iter,ifs,0⟩] scope pos) 0 it acc env) R s:=by
 refine codeAny_loop rfl I (λn s hI=> ?_) n h
 show Ia _ A ((compTurn (.ListComp elt [⟨target,iter,ifs,0⟩] scope pos) 0 it acc env).onRaise (λx=>do noteFrame x env;theTreesLotGoes x)) _ _ s
 refine wpAny_noted ?_
 refine(compTurn_list ..).symm▸ ?_
 refine Ca (Ed (Ca (Pa (turn _ (λs₅=>∃m,m<n∧I m s₅) n s (λz_ h=>h) hI) (λr s₁ h₁=> ?_) λz_ z_ h'=>h')))
 cases r with
 |none=>exact Ka h₁
 |some v=>
  refine Ca (Pa h₁ (λz_ s₁ h₁=> ?_) λz_ z_ h'=>h')
  refine Ca (Pa h₁ (λz_ s₂ h₂=>Ca (Pa h₂ (λok s₃ h₃=> ?_) λz_ z_ h'=>h')) λz_ z_ h'=>h')
  cases ok with
  |false=>exact Ka ⟨rfl,h₃⟩
  |true=>
   exact Ca (Ca (Pa h₃ (λx s₄ h₄=>Ca (Pa h₄ (λz_ s₅ h₅=>Ka (Ka ⟨rfl,h₅⟩)) λz_ z_ h'=>h')) λz_ z_ h'=>h'))
variable{abf:aa (Str×D)}
theorem Kp.kx{X:aa ia}{s s':za}(k:Kp s s'):KX X s s':=λb o z_ e=>k.up b o e
theorem KX.trans{X:aa ia}{a b c:za}(x:KX X a b)(y:KX X b c):KX X a c:=λp o hp e=>y p o hp (x p o hp e)
structure bY(w:Oa)(A:Xa)(B:Bx)(env:Env)(tgt:Ba)(d:D)(Γ Γ':aa (Str×D))(Δ:aa (ia×MO)):Prop where
 go:∀(s:za) (E:qa→za→Prop) (v:qa) (Q:Unit→za→Prop),Sc B env Γ Δ s→De (XX B.Xo env Δ) s.heap v d→(∀s',Sc B env Γ' Δ s'→KX (XX B.Xo env Δ) s s'→Q () s')→Ia (Md w) A (assign tgt env v) Q E s
theorem bY.name{x:Str}{p:Pos}{d:D}(t:aX x d Γ Γ')(K:cG B env x)(hk:Aa (env.scope.kind=.function) aK):bY w A B env (.Name x p) d Γ Γ' Δ:=.mk λs E v Q S r h=>
 wpAny_assign_Name (S.store t K r h hk)
inductive pn(w:Oa)(A:Xa)(B:Bx)(env:Env)(Δ:aa (ia×MO)):aa Ba→aa PyData→aa (Str×D)→aa (Str×D)→Prop
 |nil {G1:aa (Str×D)}:pn w A B env Δ [] [] G1 G1
 |cons {t:Ba} {ts:aa Ba} {d:PyData} {ds:aa PyData} {G1 G2 G3:aa (Str×D)} (x:bY w A B env t (.dat d) G1 G2 Δ) (y:pn w A B env Δ ts ds G2 G3) (h:Aa (notStar t=true) aR):pn w A B env Δ (t::ts) (d::ds) G1 G3
theorem pn.run{ts:aa Ba}{ds:aa PyData}{Γ Γ':aa (Str×D)}(a:pn w A B env Δ ts ds Γ Γ'):∀{s:za} {vs:aa qa} {Q:Unit→za→Prop},Sc B env Γ Δ s→aD (XX B.Xo env Δ) s.heap vs ds→
  (∀s',Sc B env Γ' Δ s'→KX (XX B.Xo env Δ) s s'→Q () s')→Ia (Md w) A (assignInOrder ((assignEach ts env).map (·.2)) vs) Q E s:=by
 induction a with
 |nil=>exactλ{s vs Q} S r h=>assignInOrder_nil (h s S λz_ z_ z_ e=>e)
 |cons a l hn ih=>
  intro s vs Q S r h
  rw[bM _ _ _ hn]
  exact r.uc λv vs r1 r2=>assignInOrder_cons (a.go s _ _ _ S r1 λs1 S1 k1=>ih S1 (r2.at λb o hb e=>.inr ⟨hb,k1 b o hb e⟩) λs2 S2 k2=>h s2 S2 (k1.trans k2))
theorem pn.length{ts:aa Ba}{ds:aa PyData}{Γ Γ':aa (Str×D)}(h:pn w A B env Δ ts ds Γ Γ'):(assignEach ts env).length=ds.length:=by
 induction h with
 |nil=>rfl
 |cons a l hn ih=>rw[bM _ _ _ hn];simp[ih]
theorem pn.noStar{ts:aa Ba}{ds:aa PyData}{Γ Γ':aa (Str×D)}(h:pn w A B env Δ ts ds Γ Γ'):(assignEach ts env).findIdx? (·.1)=none:=by
 induction h with
 |nil=>rfl
 |cons a l hn ih=>rw[bM _ _ _ hn,aa.findIdx?_cons];simp[ih]
theorem bY.tuple{ts:aa Ba}{k}{p:Pos}{ds:aa PyData}(hh:A.handled=none)(l:pn w A B env Δ ts ds Γ Γ'):bY w A B env (.Tuple ts k p) (.tuple ds) Γ Γ' Δ:=.mk λs E v Q S r h=>by
 obtain⟨t,vs,rfl,ht,hl,hr⟩:=De.isTup r
 refine assign_Tuple_tuple hh hl (by rw[l.length];simp[hr.length]) l.noStar λh' he=> ?_
 have k:Kp s {s with heap:=h'}:=⟨h',s.toks,rfl,λb o e=>he b o (se (Ub e)) e⟩
 exact l.run (S.upd k) (by simpa using hr.up k.up) λs' S' k'=>h s' S' (k.kx.trans k')
theorem qT{l:ia}{items:Ua qa}{x:qa}{Q:qa→za→Prop}(hl:kO s.heap l items)
  (hQ:∀h',kO h' l (items.push x)→ve l s.heap h'→Q .none {s with heap:=h'})(w5:items.size≤Bb):Ia (Md w) A (Ic (.builtin "list.append") [.ref l,x]) Q E s:=by
 obtain⟨o,ho,hc,pP,n,hd⟩:=id hl
 refine Yg slot_list_append hl.isList.typeIs entry_list_append ?_ (args_list_append _ _)
 show Ia _ _ (updateSeq l (·.push x)>>=λz_=>ret .none) _ _ s
 refine Ca ?_
 exact Eh ho hd (Ka ⟨.none,rfl,hQ _ (hl.update _) (Pf ..)⟩)
structure OA(w:Oa)(A:Xa)(B:Bx)(env:Env)(Γ:aa (Str×D))(Δ:aa (ia×MO))(ifs:aa Ba)(b:Ga):Prop where
 go:∀(s:za) (E:qa→za→Prop),Sc B env Γ Δ s→Ia (Md w) A (forIn ifs true λc r=>if r=true then do let ok←isTrue c env (eval c env);pure (Af ok)else pure (Af r)) (λok s'=>Kp s s'∧ok=b) E s
theorem OA.nil:OA w A B env Γ Δ [] true:=.mk λs E S=>by
 rw[nh];exact Ka ⟨.bN _,rfl⟩
theorem OA.one{c:Ba}{b:Ga}(x:TV w A B env Γ Δ c b):OA w A B env Γ Δ [c] b:=.mk λs E S=>wpAny_tests_one (x.go s E S)
theorem Sc.get_own(S:Sc B env Γ Δ s){p:ia×MO}(h:p∈Δ):p.2.At (XX B.Xo env Δ) s.heap p.1:=(S.own p h).2.2.2
theorem bF.size{d:D}{items:aa PyData}(h:bF d items):items.length≤Bb:=by
 cases h with
 |list _ h=>exact h
 |range a b _ _ h _=>simpa using h
theorem dP{x:Str}{C:Nat}{B':Bx}(hC:B'.s0.heap.objs.size≤C)(hn:(scope.names.map (·.1)).Nodup)(hx:scope.names.lookup x=some .local∨scope.names.lookup x=some .cell):cG B' (b9 scope C env) x:=by
 rcases hx with hx|hx
 ·left
  show(b9 scope C env).kindOf x=_
  unfold b9
  rw[gP,hx];rfl
 ·right
  refine⟨?_,?_⟩
  ·show(b9 scope C env).kindOf x=_
   unfold b9
   rw[gP,hx];rfl
  ·refine xE (Zf.mp (cellsFrom_some scope.names (C+1) [] x (.inr (Jf hx)))) λc hc=> ?_
   refine⟨c,?_,?_⟩
   ·show(cellsFrom (C+1) scope.names []++lT scope env).lookup x=some c
    rw[lookup_append,hc];rfl
   ·have g:∀(names:aa (Str×Zd)) (n:Nat) (acc:aa (Str×ia)),(∀p∈acc,C≤p.2)→C≤n→∀p∈cellsFrom n names acc,C≤p.2:=by
     intro names
     induction names with
     |nil=>intro n acc h _ p hp;exact h p hp
     |cons q r ih=>
      intro n acc h hn p hp
      obtain⟨y,k⟩:=q
      unfold cellsFrom at hp
      split at hp
      ·exact ih (n+1) _ (λp hp=>by
        rcases Za.mp hp with rfl|hp
        ·exact hn
        ·exact h p hp) (Gh hn) p hp
      ·exact ih n acc h hn p hp
    exact Na hC (g scope.names (C+1) [] (λz_ h=>nomatch h) (Of _) _ (Jf hc))
structure Ac(A:Xa)(k:Nat):Prop where
 hh:A.handled=none
 room:A.depth+k<recursionLimit
 units:A.units+4*k+80<cLine
theorem Ac.deeper{A:Xa}{k:Nat}{env:Env}(a:Ac A (k+1)):Ac (A.deeper env) k:=
 ⟨a.hh,by have:=a.room;show A.depth+1+k<_;exact U0 this,by have:=a.units;show A.units+3+4*k+80<_;exact U1 this⟩
theorem Ac.weak{A:Xa}{k k':Nat}(a:Ac A k)(h:k'≤k):Ac A k':=⟨a.hh,by have:=a.room;exact WG h this,by have:=a.units;exact WH h this⟩
theorem Ac.caller:Ac callerA 20:=⟨rfl,by decide,by decide⟩
theorem Ac.eq{A:Xa}{k:Nat}(a:Ac A k):A.units+64<cLine:=by have:=a.units;exact U3 this
theorem yN{w:Oa}{A:Xa}{sp s s0:za}{f:ia}{o:Obj}{fd:Vc}{body:aa Va}{args:Args}{binds:aa (Str×qa)}{R:Yd→za→Prop}{X:aa ia}{Γ0:aa (Str×D)}{Δ0:aa (ia×MO)}{k:Nat}
  (ac:Ac A k)(ho:sp.heap.get? f=some o)(hd:o.data=.func fd)(jR:s.heap.NoLimit)(oR:sp.heap.CodeRec fd.code fd.qualname)(iV:fd.body=.stmts body)(iU:∀(M:Model) (A:Xa) (E:qa→za→Prop) (Q:aa (Str×qa)→za→Prop),Q binds s→Ia M A (bindArgs fd args) Q E sp)(aaL:fd.closure=[])
  (Zu:∀n,∀x∈binds,fd.scope.names.lookup x.1=some .local∨(fd.scope.names.lookup x.1=some .cell∧((cellsFrom n fd.scope.names []).lookup x.1).isSome=true))
  (EU:((cellsFrom 0 fd.scope.names []).map (·.1)).Nodup)(Py:Kp s0 s)(hz:s0.heap.objs.size=s.heap.objs.size)(hX:∀a∈X,a<s.heap.objs.size)(hn:(Γ0.map (·.1)).Nodup)
  (hΔ:∀p∈Δ0,s0.heap.get? p.1=none∧p.1∉X∧p.2.At (X++Δ0.map (·.1)) s.heap p.1)(hdn:(Δ0.map (·.1)).Nodup)
  (hv:∀p∈Γ0,p.2≠ .un→∃v,De (X++Δ0.map (·.1)) s.heap v p.2∧((fd.scope.names.lookup p.1=some .local∧∀kind,kind=(λx:Str=>fd.scope.names.lookup x)→bindL kind binds (λz_=>none) p.1=some v)∨
   (fd.scope.names.lookup p.1=some .cell∧∀kind,kind=(λx:Str=>fd.scope.names.lookup x)→bindC kind binds (λz_=>none) p.1=some v)))
  (h:∀s1,Sc ⟨s0,X,[]⟩ (Cb fd s.heap.objs.size f) Γ0 Δ0 s1→Ia (Md w) (A.deeper (Cb fd s.heap.objs.size f)) (execs body (Cb fd s.heap.objs.size f))
   (λfl s'=>R (.ok (.ret (match fl with|.ret v=>v|_=>.none))) s')
   (λe s'=>Ia (Md w) (A.deeper (Cb fd s.heap.objs.size f)) (leaving (Cb fd s.heap.objs.size f) e) (λz_ mT=>R (.error e) mT) (λe' mT=>R (.error e') mT) s') s1)
  (hco:Aa (fd.scope.isCoroutine=false) aR)(Po:Aa (fd.scope.isGenerator=false) aR)(hk:Aa (fd.scope.kind=.function) aR):wc (Md w) A (.call (.ref f) args) R sp:=by
 refine codeAny_call_function (by have:=ac.room;exact jk this) ho hd hco Po iV oR (iU _ _ _ _ ?_)
 refine(aaL ..).symm▸ ?_
 refine wpAny_newFunctionEnv_cells hk (Zu _) λabb he s' x=> ?_
 subst he
 refine⟨jR.keeps x.toInCall.keep,codeAny_func (h s' ?_)⟩
 obtain⟨h',tk,rfl,AH⟩:=x.done
 have HO:=e9 fd.scope.names (s.heap.objs.size+1) []
 have above:=x.above
 have nq:∀y c,(y,c)∈cellsFrom (s.heap.objs.size+1) fd.scope.names []→ @Od Nat _ s.heap.objs.size c:=λy c hc=>above y c hc
 have more:∀b o,b∉X++Δ0.map (·.1)→s.heap.get? b=some o→b∉XX X (Cb fd s.heap.objs.size f) Δ0:=λb o hb e hx=>by
  have bB: @Od Nat _ b s.heap.objs.size:=Ub e
  rcases XX.cases hx with h|h|⟨y,h⟩|⟨m,h⟩
  ·exact hb (Qc _ h)
  ·have h: @Eq Nat b s.heap.objs.size:=h
   exact UA bB h
  ·have:=nq y b h
   exact UB bB this
  ·exact hb (Nc _ (jd (f:=(·.1)) h))
 have hs1:Kp s0 ({s with heap:=h',toks:=tk}:za):=Py.trans' ⟨h',tk,rfl,AH⟩
 refine⟨hs1,λa ha=>by show a<s0.heap.objs.size;rw[hz];exact hX a ha,⟨_,x.toInCall.ns⟩,by show s0.heap.objs.size≤s.heap.objs.size;rw[hz];exact zb _,λy c hc=> ?_,λy z c hy hz z_=>name_of_addr x.apart hy hz,hn,λp hp hu=> ?_,λp hp=> ?_,hdn,(λp hp=>nomatch hp)⟩
 ·have bB:=nq y c hc
  refine⟨by show @Ne Nat c s.heap.objs.size;exact Nat.ne_of_gt bB,?_,.inl (by show s0.heap.objs.size≤c;rw[hz];exact Xc bB)⟩
  exact⟨_,x.cell y c (lookup_of_mem_nodup (cellsFrom_names fd.scope.names 0 (s.heap.objs.size+1) [] [] rfl▸EU) hc)⟩
 ·refine bE (hv p hp hu) λv hdv hb=> ?_
  refine⟨v,?_,(hdv.more more).up AH⟩
  rcases hb with⟨hl,hb⟩|⟨hl,hb⟩
  ·exact .inl ⟨hl,_,x.toInCall.ns,hb _ rfl⟩
  ·right
   refine⟨.inl hl,?_⟩
   refine xE (Zf.mp (cellsFrom_some fd.scope.names (s.heap.objs.size+1) [] p.1 (.inr (Jf hl)))) λc hc=> ?_
   exact⟨c,hc,(hb _ rfl)▸x.cell p.1 c hc⟩
 ·refine yI (hΔ p hp) λh1 h2 h3=> ?_
  have bB: @Od Nat _ p.1 s.heap.objs.size:=h3.lt
  refine⟨by show @Ne Nat p.1 s.heap.objs.size;exact se bB,λy c hc=> ?_,⟨h1,h2⟩,(h3.more more).keep (λz_ z_ z_ e=>AH _ _ e) λz_ e=>AH _ _ e⟩
  have:=nq y c hc
  show @Ne Nat c p.1
  exact VG bB this
inductive b5(X:aa ia)(h:Ja):aa (Str×qa)→aa (Str×D)→Prop
 |nil:b5 X h [] []
 |cons {x:Str} {v:qa} {d:D} {bs:aa (Str×qa)} {Γ:aa (Str×D)} (a:De X h v d) (r:b5 X h bs Γ):b5 X h ((x,v)::bs) ((x,d)::Γ)
theorem b5.names{X:aa ia}{h:Ja}{bs:aa (Str×qa)}{Γ:aa (Str×D)}(a:b5 X h bs Γ):Γ.map (·.1)=bs.map (·.1):=by
 induction a with
 |nil=>rfl
 |cons _ r ih=>exact Cc (_:: ·) ih
theorem b5.get{X:aa ia}{h:Ja}{bs:aa (Str×qa)}{Γ:aa (Str×D)}(a:b5 X h bs Γ):∀p∈Γ,∃v,(p.1,v)∈bs∧De X h v p.2:=by
 induction a with
 |nil=>exactλz_ h=>(nomatch h)
 |cons a r ih=>exact Ve.mpr ⟨⟨_,La,a⟩,λp hp=>let⟨v,hv,hd⟩:=ih p hp;⟨v,Wa _ hv,hd⟩⟩
theorem wu{kind:Str→Ma Zd}{n:Str}{bs:aa (Str×qa)}:∀{m:Str→Ma qa},n∉bs.map (·.1)→bindL kind bs m n=m n:=by
 induction bs with
 |nil=>exactλz_=>rfl
 |cons q r ih=>
  obtain⟨x,v⟩:=q
  intro m h
  have h:=not_or.mp λq=>h (Za.mpr q)
  unfold bindL
  refine(ih h.2).trans ?_
  split
  ·exact if_neg h.1
  ·rfl
theorem BN{kind:Str→Ma Zd}{n:Str}{v:qa}(hk:kind n=some .local){bs:aa (Str×qa)}:∀{m:Str→Ma qa},(bs.map (·.1)).Nodup→(n,v)∈bs→bindL kind bs m n=some v:=by
 induction bs with
 |nil=>exactλz_ h=>(nomatch h)
 |cons q r ih=>
  obtain⟨x,u⟩:=q
  intro m hn h
  have hn:=Pd.mp hn
  unfold bindL
  rcases Za.mp h with h|h
  ·cases h;rw[wu hn.1,if_pos hk];simp
  ·exact ih hn.2 h
theorem wm{kind:Str→Ma Zd}{n:Str}{bs:aa (Str×qa)}:∀{m:Str→Ma qa},n∉bs.map (·.1)→bindC kind bs m n=m n:=by
 induction bs with
 |nil=>exactλz_=>rfl
 |cons q r ih=>
  obtain⟨x,v⟩:=q
  intro m h
  have h:=not_or.mp λq=>h (Za.mpr q)
  unfold bindC
  refine(ih h.2).trans ?_
  split
  ·rfl
  ·exact if_neg h.1
theorem BL{kind:Str→Ma Zd}{n:Str}{v:qa}(hk:kind n=some .cell){bs:aa (Str×qa)}:∀{m:Str→Ma qa},(bs.map (·.1)).Nodup→(n,v)∈bs→bindC kind bs m n=some v:=by
 induction bs with
 |nil=>exactλz_ h=>(nomatch h)
 |cons q r ih=>
  obtain⟨x,u⟩:=q
  intro m hn h
  have hn:=Pd.mp hn
  unfold bindC
  rcases Za.mp h with h|h
  ·cases h;rw[wm hn.1,if_neg (by rw[hk];intro q;cases q)];simp
  ·exact ih hn.2 h
noncomputable def yS(fd:Vc)(names:aa Str):Ga:=fd.closure.isEmpty&&pI names&&(names.all λx=>fd.scope.names.lookup x==some .local||fd.scope.names.lookup x==some .cell) &&pI ((cellsFrom 0 fd.scope.names []).map (·.1)) &&
 !fd.scope.isCoroutine&& !fd.scope.isGenerator&&fd.scope.kind== .function
noncomputable abbrev CE(fl:Flow):qa:=match fl with|.ret v=>v|_=>.none
theorem qB{w:Oa}{A:Xa}{sp s s0:za}{f:ia}{fd:Vc}{body:aa Va}{vs:aa qa}{kw:aa (Str×qa)}{binds:aa (Str×qa)}{Q:qa→za→Prop}{E:qa→za→Prop}{X:aa ia}{Γa Γ0:aa (Str×D)}{Δ0:aa (ia×MO)}{k:Nat}
  (ac:Ac A (k+1))(jR:s.heap.NoLimit)(ho:sp.heap.get? f=some ⟨.type "function",none,.func fd,#[]⟩)(oR:sp.heap.CodeRec fd.code fd.qualname)(iV:fd.body=.stmts body)(iU:∀(M:Model) (A:Xa) (E:qa→za→Prop) (Q:aa (Str×qa)→za→Prop),Q binds s→Ia M A (bindArgs fd ⟨vs,kw⟩) Q E sp)
  (Py:Kp s0 s)(hz:s0.heap.objs.size=s.heap.objs.size)(hX:∀a∈X,a<s.heap.objs.size)
  (hΔ:∀p∈Δ0,s0.heap.get? p.1=none∧p.1∉X∧p.2.At (X++Δ0.map (·.1)) s.heap p.1)(hdn:(Δ0.map (·.1)).Nodup)(ar:b5 (X++Δ0.map (·.1)) s.heap binds Γa)(hΓ:∀p∈Γ0,p.2≠ .un→p∈Γa)
  (h:∀(B:Bx) (A':Xa) (L:ia) (R:Flow→za→Prop) (s1:za) (E':qa→za→Prop),B.s0=s0→B.Xo=X→B.s0.heap.objs.size≤L→Sc B (Cb fd L f) Γ0 Δ0 s1→Ac A' k→(∀fl s',Q (CE fl) s'→R fl s')→Ex w A' (Cb fd L f) body R E' s1)
  (hn:Aa (pI (Γ0.map (·.1))=true) aK)(hb:Aa (yS fd (binds.map (·.1))=true) aK):wc (Md w) A (.call (.ref f) ⟨vs,kw⟩) (λr s'=>match r with|.ok (.ret v)=>Q v s'|.ok _=>gc|.error e=>E e s') sp:=by
 simp only[yS,Bd,Ii,Vd]at hb
 obtain⟨⟨⟨⟨⟨⟨hc,hbn⟩,hbk⟩,hcn⟩,hco⟩,Po⟩,hk⟩:=hb
 have names:∀x∈binds.map (·.1),fd.scope.names.lookup x=some .local∨fd.scope.names.lookup x=some .cell:=λx hx=>by
  have:=zf.mp hbk x hx
  simpa using this
 refine(yN (s0:=s0) (X:=X) (Γ0:=Γ0) (Δ0:=Δ0) ac ho rfl jR oR iV iU (by simpa using hc) (λn x hx=> ?_) (bD hcn) Py hz hX (bD hn) hΔ hdn (λp hp hu=> ?_) (λs1 S1=> ?_) hco Po hk)
 ·rcases names x.1 (jd (f:=(·.1)) hx)with h|h
  ·exact .inl h
  ·exact .inr ⟨h,cellsFrom_some fd.scope.names n [] x.1 (.inr (Jf h))⟩
 ·refine bE (ar.get p (hΓ p hp hu)) λv hv hd=> ?_
  refine⟨v,hd,?_⟩
  rcases names p.1 (jd (f:=(·.1)) hv)with h|h
  ·exact .inl ⟨h,λkind e=>BN (by rw[e];exact h) (bD hbn) hv⟩
  ·exact .inr ⟨h,λkind e=>BL (by rw[e];exact h) (bD hbn) hv⟩
 ·exact(h ⟨s0,X,[]⟩ _ _ _ s1 _ rfl rfl (zh hz) S1 ac.deeper λz_ z_ q=>q).run
theorem sR{w:Oa}{A:Xa}{s s0:za}{f:ia}{fd:Vc}{body:aa Va}{vs:aa qa}{kw:aa (Str×qa)}{binds:aa (Str×qa)}{Q:qa→za→Prop}{E:qa→za→Prop}{X:aa ia}{Γa Γ0:aa (Str×D)}{k:Nat}
  (ac:Ac A (k+1))(jR:s.heap.NoLimit)(ho:s.heap.get? f=some ⟨.type "function",none,.func fd,#[]⟩)(oR:s.heap.CodeRec fd.code fd.qualname)(iV:fd.body=.stmts body)(iU:BindsTo s fd ⟨vs,kw⟩ binds)
  (Py:Kp s0 s)(hz:s0.heap.objs.size=s.heap.objs.size)(hX:∀a∈X,a<s.heap.objs.size)
  (ar:b5 X s.heap binds Γa)(hΓ:∀p∈Γ0,p.2≠ .un→p∈Γa)
  (h:∀(B:Bx) (A':Xa) (L:ia) (R:Flow→za→Prop) (s1:za) (E':qa→za→Prop),B.s0=s0→B.Xo=X→B.s0.heap.objs.size≤L→Sc B (Cb fd L f) Γ0 [] s1→Ac A' k→(∀fl s',Q (CE fl) s'→R fl s')→Ex w A' (Cb fd L f) body R E' s1)
  (hn:Aa (pI (Γ0.map (·.1))=true) aK)(hb:Aa (yS fd (binds.map (·.1))=true) aK):wc (Md w) A (.call (.ref f) ⟨vs,kw⟩) (λr s'=>match r with|.ok (.ret v)=>Q v s'|.ok _=>gc|.error e=>E e s') s:=
 qB (Δ0:=[]) ac jR ho oR iV (λM A E Q h=>iU M A E Q h) Py hz hX (λz_ h=>nomatch h) yh (by rw[aa.map_nil,ff];exact ar) hΓ h hn hb
theorem cu{w:Oa}{A:Xa}{s s0:za}{f:ia}{fd:Vc}{body:aa Va}{vs:aa qa}{kw:aa (Str×qa)}{binds:aa (Str×qa)}{Q:qa→za→Prop}{E:qa→za→Prop}{X:aa ia}{Γa Γ0:aa (Str×D)}{k:Nat}
  (ac:Ac A (k+1))(jR:s.heap.NoLimit)(ho:s.heap.get? f=some ⟨.type "function",none,.func fd,#[]⟩)(oR:s.heap.CodeRec fd.code fd.qualname)(iV:fd.body=.stmts body)(iU:BindsTo s fd ⟨vs,kw⟩ binds)
  (Py:Kp s0 s)(hz:s0.heap.objs.size=s.heap.objs.size)(hX:∀a∈X,a<s.heap.objs.size)
  (ar:b5 X s.heap binds Γa)(hΓ:∀p∈Γ0,p.2≠ .un→p∈Γa)
  (h:∀(B:Bx) (A':Xa) (L:ia) (R:Flow→za→Prop) (s1:za) (E':qa→za→Prop),B.s0=s0→B.Xo=X→B.s0.heap.objs.size≤L→Sc B (Cb fd L f) Γ0 [] s1→Ac A' k→(∀fl s',Q (CE fl) s'→R fl s')→Ex w A' (Cb fd L f) body R E' s1)
  (hn:Aa (pI (Γ0.map (·.1))=true) aK)(hb:Aa (yS fd (binds.map (·.1))=true) aK):Ia (Md w) A (Ic (.ref f) vs kw) Q E s:=
 sf (sR ac jR ho oR iV iU Py hz hX ar hΓ h hn hb)
theorem Sc.size_le(S:Sc B env Γ Δ s):B.s0.heap.objs.size≤s.heap.objs.size:=by
 refine xE S.ns λm hm=> ?_
 exact Xc (Fc S.lf hm.lt)
theorem Sc.ED(S:Sc B env Γ Δ s){a:ia}(h:s.heap.objs.size≤a):vW B a:=
 ⟨get_none (Na S.size_le h),λhx=>Pc _ (Dc (S.xo a hx) (Na S.size_le h))⟩
structure fT(B:Bx)(env:Env)(Δ:aa (ia×MO))(s:za)(a:ia):Prop where
 off:∀b∈XX B.Xo env Δ,b≠a
 new:∀b o,s.heap.get? b=some o→b≠a
 PF:vW B a
theorem Sc.next(S:Sc B env Γ Δ s):fT B env Δ s s.heap.objs.size:=
 ⟨λb hb q=>Pc _ (q▸S.jH hb),λb o e q=>by have:=Ub e;rw[q]at this;exact Pc _ this,S.ED (zb _)⟩
theorem fT.early{a:ia}(f:fT B env Δ s' a)(k:Kp s s'):fT B env Δ s a:=⟨f.off,λb o e=>f.new b o (k.up b o e),f.PF⟩
theorem Sc.take(S:Sc B env Γ Δ s)(k:Kp s s'){a:ia}{m:MO}(ha:fT B env Δ s a)(hm:m.At (XX B.Xo env ((a,m)::Δ)) s'.heap a):Sc B env Γ ((a,m)::Δ) s':=by
 have more:∀b o,b∉XX B.Xo env Δ→s.heap.get? b=some o→b∉XX B.Xo env ((a,m)::Δ):=λb o hb e hx=>by
  rcases XX.cases hx with h|h|⟨x,h⟩|⟨m',h⟩
  ·exact hb (XX.out h)
  ·exact hb (h▸XX.loc)
  ·exact hb (XX.cell h)
  ·rcases Za.mp h with h|h
   ·cases h;exact ha.new _ o e rfl
   ·exact hb (XX.own h)
 have S':=S.upd k
 refine⟨S'.kp,S.xo,S'.ns,S.lf,S'.cl,S.ap,S.nd,λp hp hu=> ?_,λp hp=> ?_,?_,λp hp=>((S.gh p hp).more more).up k.up⟩
 ·refine bE (S.vars p hp hu) λv b d=> ?_
  exact⟨v,b.up k.up,(d.more more).up k.up⟩
 ·rcases Za.mp hp with rfl|hp
  ·exact⟨λq=>ha.off _ XX.loc q.symm,λx c hc=>ha.off _ (XX.cell hc),ha.PF,hm⟩
  ·refine eS (S.own p hp) λx y z e=> ?_
   exact⟨x,y,z,(e.more more).keep (λz_ z_ z_ e=>k.up _ _ e) λz_ e=>k.up _ _ e⟩
 ·simp only[Ib,Pd]
  refine⟨λh=> ?_,S.dn⟩
  refine bE (Ra.mp h) λp hp q=> ?_
  exact ha.off _ (XX.own hp) q
theorem Sc.drop{a:ia}{m:MO}(S:Sc B env Γ ((a,m)::Δ) s):Sc B env Γ Δ s:=by
 have more:∀b o,b∉XX B.Xo env ((a,m)::Δ)→s.heap.get? b=some o→b∉XX B.Xo env Δ:=λb o hb e hx=>by
  rcases XX.cases hx with h|h|⟨x,h⟩|⟨m',h⟩
  ·exact hb (XX.out h)
  ·exact hb (h▸XX.loc)
  ·exact hb (XX.cell h)
  ·exact hb (XX.own (p:=(b,m')) (Wa _ h))
 refine⟨S.kp,S.xo,S.ns,S.lf,S.cl,S.ap,S.nd,λp hp hu=> ?_,λp hp=> ?_,?_,λp hp=>(S.gh p hp).more more⟩
 ·refine bE (S.vars p hp hu) λv b d=> ?_
  exact⟨v,b,d.more more⟩
 ·refine eS (S.own p (Wa _ hp)) λx y z e=> ?_
  exact⟨x,y,z,e.more more⟩
 ·have:=S.dn;simp only[Ib,Pd]at this;exact this.2
theorem Sc.gone{a:ia}{m:MO}{h':Ja}{tk:Nat}(S:Sc B env Γ ((a,m)::Δ) s)(hs:∀b o,b≠a→s.heap.get? b=some o→h'.get? b=some o):Sc B env Γ Δ {s with heap:=h',toks:=tk}:=by
 have jS:(a,m)∈(a,m)::Δ:=La
 refine eS (S.own _ jS) λha hb hc hd=> ?_
 have ha:a≠env.locals:=ha
 have hc:vW B a:=hc
 have k:∀b o,b∉XX B.Xo env ((a,m)::Δ)→s.heap.get? b=some o→h'.get? b=some o:=λb o hb e=>hs b o (λq=>hb (by rw[q];exact XX.own jS)) e
 have more:∀b o,b∉XX B.Xo env ((a,m)::Δ)→h'.get? b=some o→b∉XX B.Xo env Δ:=λb o hb e hx=>by
  rcases XX.cases hx with h|h|⟨x,h⟩|⟨m',h⟩
  ·exact hb (XX.out h)
  ·exact hb (h▸XX.loc)
  ·exact hb (XX.cell h)
  ·exact hb (XX.own (p:=(b,m')) (Wa _ h))
 have kp:Kp B.s0 {s with heap:=h',toks:=tk}:=by
  refine lK S.kp λh1 t1 e1 k1=> ?_
  refine⟨h',tk,by rw[e1],λb o e=>hs b o (λq=> ?_) (S.kp.up b o e)⟩
  subst q
  rw[hc.1]at e;cases e
 refine⟨kp,S.xo,S.ns.imp λz_ n=>n.at' λo e=>hs _ o (Bf ha) e,S.lf,λy c hc=> ?_,S.ap,S.nd,λp hp hu=> ?_,λp hp=> ?_,?_,λp hp=>((S.gh p hp).keep k).more more⟩
 ·obtain⟨x,⟨u,o,b,d⟩,e⟩:=S.cl y c hc;exact⟨x,⟨u,o,hs _ o (hb y c hc) b,d⟩,e⟩
 ·refine bE (S.vars p hp hu) λu b e=> ?_
  refine⟨u,?_,(e.keep k).more more⟩
  rcases b with⟨b,m',ET,hv⟩|⟨b,c,hc,⟨o,hv,w7⟩⟩
  ·exact .inl ⟨b,m',ET.at' λo e=>hs _ o (Bf ha) e,hv⟩
  ·exact .inr ⟨b,c,hc,o,hs _ o (hb _ c (mem_of_lookup hc)) hv,w7⟩
 ·refine eS (S.own p (Wa _ hp)) λx y z e=> ?_
  have g9:p.1≠a:=λq=>by
   have:=S.dn
   simp only[Ib,Pd]at this
   exact this.1 (q▸jd (f:=(·.1)) hp)
  exact⟨x,y,z,(e.keep k λo q=>hs _ o g9 q).more more⟩
 ·have:=S.dn;simp only[Ib,Pd]at this;exact this.2
theorem Sc.ghost(S:Sc B env Γ Δ s){v:qa}{d:D}(h:De (XX B.Xo env Δ) s.heap v d):Sc ⟨B.s0,B.Xo,(v,d)::B.Φ⟩ env Γ Δ s:=
 ⟨S.kp,S.xo,S.ns,S.lf,S.cl,S.ap,S.nd,S.vars,S.own,S.dn,λp hp=>by
  rcases Za.mp hp with rfl|hp
  ·exact h
  ·exact S.gh p hp⟩
theorem Sc.Bp{v:qa}{d:D}(S:Sc ⟨B.s0,B.Xo,(v,d)::B.Φ⟩ env Γ Δ s):Sc B env Γ Δ s:=
 ⟨S.kp,S.xo,S.ns,S.lf,S.cl,S.ap,S.nd,S.vars,S.own,S.dn,λp hp=>S.gh p (Wa _ hp)⟩
noncomputable def bT(I:ia):D→qa→Nat→Obj→Prop
 |.list _,v,i,o=>∃l,v=.ref l∧o.cls=.type "list_iterator"∧o.data=.fields #[.ref l,.int i 0]
 |.range a b,_,i,o=>∀h:Ja,h.get? I=some o→Dh h I (a+(i:Nat)*1) (((b-a).toNat:Int) -(i:Nat)) 1
 |_,_,_,_=>gc
theorem gH{s1:za}{X:aa ia}{v:qa}{d:D}{items:aa PyData}{Q:qa→za→Prop}(hd:De X s1.heap v d)(hit:bF d items)
  (h:∀(o:Obj),(s1.heap.push o).get? s1.heap.objs.size=some o→bT s1.heap.objs.size d v 0 o→Q (.ref s1.heap.objs.size) {s1 with heap:=s1.heap.push o}):
  Ia (Md w) A (pyIter v) Q E s1:=by
 cases hit with
 |list ds hz=>
  obtain⟨l,vs,rfl,hl,hL,hr⟩:=hd.isList
  exact Rh hL (h _ (Zb _ rfl) ⟨l,rfl,rfl,rfl⟩)
 |range a b ha hb hz Jp=>
  obtain⟨r,t,u,k,rfl,hr,hR⟩:=hd
  have hn:Ob.Range.rangeSize a b 1=(((b-a).toNat:Nat):Int):=by rw[rangeSize_one];split<;> omega
  refine wpAny_pyIter_range hR (small_one ha (by exact Int.lt_of_le_of_lt Jp hb) (by exact jf ha Jp) hb) (h _ (Zb _ rfl) λh' e=> ?_)
  show Dh _ _ _ _ _
  rw[hn]at e
  simpa using e
theorem GU{s1:za}{X:aa ia}{v:qa}{d:D}{items:aa PyData}{I:ia}{o:Obj}{i:Nat}{Q:Ma qa→za→Prop}(hh:A.handled=none)(hd:De X s1.heap v d)(hit:bF d items)(hI:I∈X)
  (ho:s1.heap.get? I=some o)(dY:bT I d v i o)(hi:i<items.length)
  (h:∀v' d' h' tk o',items[i]? =some d'→Rd X s1.heap v' d'→(∀b o,b≠I→s1.heap.get? b=some o→h'.get? b=some o)→h'.get? I=some o'→bT I d v (i+1) o'→Q (some v') {s1 with heap:=h',toks:=tk}):
  Ia (Md w) A (Ad (.ref I)) Q E s1:=by
 cases hit with
 |list ds hz=>
  obtain⟨l,vs,rfl,hl,hL,hr⟩:=hd.isList
  refine mO dY λl' e hc EL=> ?_
  cases e
  have g9:l≠I:=λq=>hl (q▸hI)
  refine(ng (prog:=pw) (w:=w) (A:=A) hh I l g9 vs.toArray).item i s1 _ _ (by simp[hr.length];exact hi) ⟨⟨o,ho,hc,EL⟩,hL⟩ λv' h' tk hv B8 hk=> ?_
  obtain⟨⟨o',nL,HF,lC⟩,_⟩:=B8
  refine bE (hr.of_get (by simpa using hv)) λd' O9 hd2=> ?_
  exact h v' d' h' tk o' O9 hd2 (λb o hb e=>hk b o (λq=>hb (Vb.mp q)) e) nL ⟨l,rfl,HF,lC⟩
 |range a b ha hb hz Jp=>
  have hi':i<(b-a).toNat:=by simpa using hi
  have W:Walks pw w A I [I] [I] (b-a).toNat (λi v=>i<(b-a).toNat∧∃t,v=.int (a+i*1) t) (λi h=>Dh h I (a+(i:Nat)*1) (((b-a).toNat:Int) -(i:Nat)) 1):=(Walks.range hh I a 1 (b-a).toNat).bound
  refine W.item i s1 _ _ hi' (dY _ ho) λv' h' tk hv B8 hk=> ?_
  obtain⟨_,t,rfl⟩:=hv
  have uK:Dh h' I (a+((i+1:Nat):Int)*1) (((b-a).toNat:Int) -((i+1:Nat):Int)) 1:=B8
  refine h _ (.int (a+(i:Int))) h' tk _ (by simp[hi']) (by simpa using Rd.int ..) (λb o hb e=>hk b o (λq=>hb (Vb.mp q)) e) uK λh2 e2=>e2
theorem K9{s1:za}{X:aa ia}{v:qa}{d:D}{items:aa PyData}{I:ia}{o:Obj}{Q:Ma qa→za→Prop}(hh:A.handled=none)(hd:De X s1.heap v d)(hit:bF d items)(hI:I∈X)
  (ho:s1.heap.get? I=some o)(dY:bT I d v items.length o)
  (h:∀h' tk,(∀b o,b≠I→s1.heap.get? b=some o→h'.get? b=some o)→Q none {s1 with heap:=h',toks:=tk}):
  Ia (Md w) A (Ad (.ref I)) Q E s1:=by
 cases hit with
 |list ds hz=>
  obtain⟨l,vs,rfl,hl,hL,hr⟩:=hd.isList
  refine mO dY λl' e hc EL=> ?_
  cases e
  have g9:l≠I:=λq=>hl (q▸hI)
  refine(ng (prog:=pw) (w:=w) (A:=A) hh I l g9 vs.toArray).done s1 _ _ ⟨⟨o,ho,hc,by rw[show vs.toArray.size=items.length from by simp[hr.length]];exact EL⟩,hL⟩ λh' tk hk=> ?_
  exact h h' tk λb o hb e=>hk b o (λq=>hb (Vb.mp q)) e
 |range a b ha hb hz Jp=>
  have W:Walks pw w A I [I] [I] (b-a).toNat (λi v=>i<(b-a).toNat∧∃t,v=.int (a+i*1) t) (λi h=>Dh h I (a+(i:Nat)*1) (((b-a).toNat:Int) -(i:Nat)) 1):=(Walks.range hh I a 1 (b-a).toNat).bound
  refine W.done s1 _ _ (by have:=dY _ ho;simpa using this) λh' tk hk=>h h' tk λb o hb e=>hk b o (λq=>hb (Vb.mp q)) e
theorem Sc.fB(S:Sc B env Γ Δ s){v:qa}{d:D}(h:(v,d)∈B.Φ):De (XX B.Xo env Δ) s.heap v d:=S.gh (v,d) h
theorem bT.calm{I:ia}{d:D}{v:qa}{i:Nat}{o:Obj}(h:bT I d v i o)(hp:Ja)(ho:hp.get? I=some o):Calm o:=by
 cases d with
 |dat d=>
  cases d with
  |list ds=>obtain⟨l,_,hc,_⟩:=h;intro n hn;rw[hc]at hn;cases hn;rfl
  |_=>exact h.elim
 |range a b=>
  have q:hp.get? I=some _:=h hp ho
  rw[q]at ho;cases ho
  intro n hn;cases hn;rfl
 |_=>exact h.elim
inductive DA(w:Oa)(A:Xa)(B:Bx)(env:Env)(tgt:Ba)(body rest:aa Va)(Q:Flow→za→Prop)(E:qa→za→Prop)(Inv:aa (Str×D)→aa (ia×MO)→Prop)(d:PyData)(ext:aa (ia×MO)→aa (ia×MO))(Γ1:aa (Str×D))(Δ1:aa (ia×MO)):Prop
 |mk (Γb:aa (Str×D)) (asg:bY w A B env tgt (.dat d) Γ1 Γb (ext Δ1))
  (run:∀(R:Flow→za→Prop) (s:za) (E':qa→za→Prop),Sc B env Γb (ext Δ1) s→(∀f s',(match f with
    |.next|.cont=>∃Γ2 Δ2,Inv Γ2 Δ2∧Sc B env Γ2 (ext Δ2) s'
    |.brk=>Ex w A env rest Q E s'
    |.ret u=>Q (.ret u) s')→R f s')→Ex w A env body R E' s)
section
variable{I:ia}{o:Obj}{v:qa}{d:D}{items:aa PyData}{Q:Ma qa→za→Prop}
theorem Sc.nT{i:Nat}(hh:A.handled=none)(S:Sc B env Γ ((I,.obj o)::Δ) s)(gd:(v,d)∈B.Φ)(hit:bF d items)(dY:bT I d v i o)(hi:i<items.length)
  (h:∀v' d' s' o',items[i]? =some d'→Sc B env Γ ((I,.obj o')::Δ) s'→De (XX B.Xo env ((I,.obj o')::Δ)) s'.heap v' (.dat d')→bT I d v (i+1) o'→s'.heap.get? I=some o'→Q (some v') s'):Ia (Md w) A (Ad (.ref I)) Q E s:=
 have hI:I∈XX B.Xo env ((I,.obj o)::Δ):=XX.own (p:=(I,.obj o)) La
 GU hh (S.fB gd) hit hI (S.get_own (p:=(I,.obj o)) La) dY hi λv' d' h' tk o' hd r hk ho Jw=>
  h v' d' _ o' hd (S.set_own (tk:=tk) (h':=h') (.here (m':=.obj o')) hk ho) (De.keep (d:=.dat d') (λb o hb e=>hk b o (λq=>hb (q▸hI)) e) r) Jw ho
theorem Sc.endAt(hh:A.handled=none)(S:Sc B env Γ ((I,.obj o)::Δ) s)(gd:(v,d)∈B.Φ)(hit:bF d items)(dY:bT I d v items.length o)
  (h:∀h' tk,(∀b o,b≠I→s.heap.get? b=some o→h'.get? b=some o)→Q none {s with heap:=h',toks:=tk}):Ia (Md w) A (Ad (.ref I)) Q E s:=
 K9 hh (S.fB gd) hit (XX.own (p:=(I,.obj o)) La) (S.get_own (p:=(I,.obj o)) La) dY h
end
theorem Sc.yu{Φ:aa (qa×D)}(S:Sc ⟨B.s0,B.Xo,Φ++B.Φ⟩ env Γ Δ s):Sc B env Γ Δ s:=
 ⟨S.kp,S.xo,S.ns,S.lf,S.cl,S.ap,S.nd,S.vars,S.own,S.dn,λp hp=>S.gh p (Nc _ hp)⟩
structure rU(w:Oa)(A:Xa)(B:Bx)(env:Env)(it:qa)(tgt:Ba)(items:aa PyData)(It:Nat→aa (ia×MO)→Prop)(W:aa (ia×MO)→Prop):Prop where
 next :∀(i:Nat) (Is:aa (ia×MO)) (Γ1:aa (Str×D)) (Δ1:aa (ia×MO)) (s:za) (E:qa→za→Prop) (d:PyData) (Q:Ma qa→za→Prop),items[i]? =some d→It i Is→Sc B env Γ1 (Is++Δ1) s→
  (∀v s1,(∀Q':Unit→za→Prop,(∀yM s2,It (i+1) yM→Sc B env Γ1 (yM++Δ1) s2→Rd (XX B.Xo env (yM++Δ1)) s2.heap v d→Q' () s2)→Ia (Md w) A (Bg tgt it v) Q' E s1)→Q (some v) s1)→Ia (Md w) A (Ad it) Q E s
 done:∀(Is:aa (ia×MO)) (Γ1:aa (Str×D)) (Δ1:aa (ia×MO)) (s:za) (E:qa→za→Prop) (Q:Ma qa→za→Prop),It items.length Is→Sc B env Γ1 (Is++Δ1) s→
  (∀s1,Sc B env Γ1 Δ1 s1→Q none s1)→Ia (Md w) A (Ad it) Q E s
 sat:∀i Is,It i Is→W Is
structure By(w:Oa)(A:Xa)(B:Bx)(env:Env)(Γ:aa (Str×D))(Δ:aa (ia×MO))(Γ0:aa (Str×D))(Δ0:aa (ia×MO))(tgt e:Ba)(items:aa PyData)(W:aa (ia×MO)→Prop):Prop where
 go:∀(s:za) (E:qa→za→Prop),Sc B env Γ Δ s→Ia (Md w) A (eval e env) (λv s1=>Ia (Md w) A (pyIter v) (λit s2=>∃Φ It Is,rU w A ⟨B.s0,B.Xo,Φ++B.Φ⟩ env it tgt items It W∧It 0 Is∧Sc ⟨B.s0,B.Xo,Φ++B.Φ⟩ env Γ0 (Is++Δ0) s2) E s1) E s
noncomputable abbrev C5(w:Oa)(A:Xa)(B:Bx)(env:Env)(Γ:aa (Str×D))(Δ:aa (ia×MO))(tgt e:Ba)(items:aa PyData):Prop:=By w A B env Γ Δ Γ Δ tgt e items λz_=>True
theorem By.items{tgt iter:Ba}{bX:D}{items:aa PyData}{Γ0:aa (Str×D)}{Δ0:aa (ia×MO)}(hh:A.handled=none)(x:ao w A B env Γ Δ iter bX)(hit:bF bX items)(h0:∀B s,Sc B env Γ Δ s→Sc B env Γ0 Δ0 s):
  By w A B env Γ Δ Γ0 Δ0 tgt iter items λIs=>∃I m,Is=[(I,m)]:=.mk λs E S=>x.use S λv s1 k1 S1 r1=>gH r1 hit λo ho dY=>
 ⟨[(v,bX)],λi Is=>∃o,Is=[(s1.heap.objs.size,.obj o)]∧bT s1.heap.objs.size bX v i o,[(s1.heap.objs.size,.obj o)],
  {next :=λi Is Γ1 Δ1 s E d Q hd hI S h=>bE hI λo e dY=>by
    subst e
    exact S.nT hh La hit dY (ud.mp hd).1 λv' d' s' o' lC S' r' Jw nL=>by
     cases hd.symm.trans lC
     exact h v' s' λQ' h'=>nO nL (Jw.calm _ nL) (h' _ s' ⟨o',rfl,Jw⟩ S' r')
   done:=λIs Γ1 Δ1 s E Q hI S h=>bE hI λo e dY=>by
    subst e
    exact S.endAt hh La hit dY λh' tk iM=>h _ (S.gone iM)
   sat:=λi Is h=>bE h λo e z_=>⟨_,_,e⟩},
  ⟨o,rfl,dY⟩,(h0 _ _ (S1.ghost r1)).take (.push s1 o) (m:=.obj o) (h0 _ _ (S1.ghost r1)).next ho⟩
theorem vC{tgt:Ba}{pos:Pos}{iter:Ba}{body rest:aa Va}{items:aa PyData}{Q:Flow→za→Prop}{Γ0:aa (Str×D)}{Δ0:aa (ia×MO)}{W:aa (ia×MO)→Prop}(S:Sc B env Γ Δ s)(src:By w A B env Γ Δ Γ0 Δ0 tgt iter items W)
  (Inv:Nat→aa (Str×D)→aa (ia×MO)→Prop)(h0:Inv 0 Γ0 Δ0)
  (turn:∀(B':Bx) (i:Nat) (d:PyData) (Is:aa (ia×MO)) (Γ1:aa (Str×D)) (Δ1:aa (ia×MO)),B'.s0=B.s0→(∀Γ Δ s,Sc B' env Γ Δ s→Sc B env Γ Δ s)→W Is→items[i]? =some d→Inv i Γ1 Δ1→DA w A B' env tgt body rest Q E (Inv (i+1)) d (Is++ ·) Γ1 Δ1)
  (after:∀s' Γ2 Δ2,Inv items.length Γ2 Δ2→Sc B env Γ2 Δ2 s'→Ex w A env rest Q E s')
  (hs:Aa (br iter=true) aR):Ex w A env (.For tgt iter body [] pos::rest) Q E s:=by
 constructor
 refine Kc (wpAny_For (Pa (src.go s _ S) (λv s1 q=>Pa q (λit s2 q=> ?_) λz_ z_ z=>z) λz_ z_ z=>z) (gF hs))
 refine Hw q λΦ It Is L hIt S2=> ?_
 refine EB (λk s'=>∃i Is Γ1 Δ1,i≤items.length∧k=items.length+1-i∧It i Is∧Inv i Γ1 Δ1∧Sc ⟨B.s0,B.Xo,Φ++B.Φ⟩ env Γ1 (Is++Δ1) s') ?_ (items.length+1) ⟨0,Is,Γ0,Δ0,Uc _,rfl,hIt,h0,S2⟩
 clear S hIt h0 S2
 rintro F K k s' fin ⟨i,yM,Γ1,Δ1,hi,rfl,Y5,hI1,S'⟩
 by_cases bB:i<items.length
 ·refine L.next i yM Γ1 Δ1 s' _ _ _ (Wb bB) Y5 S' λv s3 go=>go _ λIs2 s4 Y6 S3 r3=> ?_
  obtain⟨Γb,asg,body⟩:=turn ⟨B.s0,B.Xo,Φ++B.Φ⟩ i _ Is2 Γ1 Δ1 rfl (λz_ z_ z_ S=>S.yu) (L.sat _ _ Y6) (Wb bB) hI1
  refine asg.go _ _ _ _ S3 r3 λs5 S5 z_=>Pa (body _ s5 _ S5 λz_ z_ q=>q).run (λf s6 h6=> ?_) λz_ z_ z=>z
  have nx:(∃Γ2 Δ2,Inv (i+1) Γ2 Δ2∧Sc ⟨B.s0,B.Xo,Φ++B.Φ⟩ env Γ2 (Is2++Δ2) s6)→K s6:=λq=>lK q λΓ2 Δ2 Y0 S6=>fin _ ⟨items.length+1-(i+1),sJ bB,i+1,Is2,Γ2,Δ2,bB,rfl,Y6,Y0,S6⟩
  cases f with
  |next =>exact nx h6
  |cont=>exact nx h6
  |brk=>exact h6.run
  |ret u=>exact h6
 ·obtain rfl:i=items.length:=Tg hi (Sf.mp bB)
  exact L.done yM Γ1 Δ1 s' _ _ Y5 S' λs3 S3=>wpAny_execs_nil (after _ _ _ hI1 S3.yu).run
theorem mG{tgt:Ba}{pos:Pos}{iter:Ba}{body rest:aa Va}{items:aa PyData}{Q:Flow→za→Prop}(S:Sc B env Γ Δ s)(src:C5 w A B env Γ Δ tgt iter items)
  (Inv:Nat→aa (Str×D)→aa (ia×MO)→Prop)(h0:Inv 0 Γ Δ)
  (turn:∀(B':Bx) (i:Nat) (d:PyData) (Is:aa (ia×MO)) (Γ1:aa (Str×D)) (Δ1:aa (ia×MO)),B'.s0=B.s0→items[i]? =some d→Inv i Γ1 Δ1→DA w A B' env tgt body rest Q E (Inv (i+1)) d (Is++ ·) Γ1 Δ1)
  (after:∀s' Γ2 Δ2,Inv items.length Γ2 Δ2→Sc B env Γ2 Δ2 s'→Ex w A env rest Q E s')
  (hs:Aa (br iter=true) aR):Ex w A env (.For tgt iter body [] pos::rest) Q E s:=
 vC S src Inv h0 (λB' i d Is Γ1 Δ1 hB z_ z_=>turn B' i d Is Γ1 Δ1 hB) after hs
theorem vD{tgt:Ba}{pos:Pos}{iter:Ba}{body rest:aa Va}{bX:D}{items:aa PyData}{Q:Flow→za→Prop}(hh:A.handled=none)(S:Sc B env Γ Δ s)(src:ao w A B env Γ Δ iter bX)(hit:bF bX items)
  (Inv:Nat→aa (Str×D)→aa (ia×MO)→Prop)(h0:Inv 0 Γ Δ)
  (turn:∀(B':Bx) (i:Nat) (d:PyData) (I:ia) (m:MO) (Γ1:aa (Str×D)) (Δ1:aa (ia×MO)),B'.s0=B.s0→(∀(Γ:aa (Str×D)) (Δ:aa (ia×MO)) (s:za),Sc B' env Γ ((I,m)::Δ) s→Sc B env Γ Δ s)→items[i]? =some d→Inv i Γ1 Δ1→DA w A B' env tgt body rest Q E (Inv (i+1)) d ((I,m):: ·) Γ1 Δ1)
  (after:∀s' Γ2 Δ2,Inv items.length Γ2 Δ2→Sc B env Γ2 Δ2 s'→Ex w A env rest Q E s')
  (hs:Aa (br iter=true) aR):Ex w A env (.For tgt iter body [] pos::rest) Q E s:=
 vC S (By.items hh src hit λz_ z_ S=>S) Inv h0 (λB' i d Is Γ1 Δ1 hB hu hW hd hI=>xEE hW λI m e=>by
  subst e
  exact turn B' i d I m Γ1 Δ1 hB (λz_ z_ z_ S=>Sc.drop (hu _ _ _ S)) hd hI) after hs
theorem vE{tgt:Ba}{pos:Pos}{iter:Ba}{body rest:aa Va}{bX:D}{items:aa PyData}{Q:Flow→za→Prop}(hh:A.handled=none)(S:Sc B env Γ Δ s)(src:ao w A B env Γ Δ iter bX)(hit:bF bX items)
  (Γi:Nat→aa (Str×D))(Γb:Nat→PyData→aa (Str×D))(Δi:Nat→aa (ia×MO))(P:Nat→Prop)(hP:P 0)
  (h0:∀B s,Sc B env Γ Δ s→Sc B env (Γi 0) (Δi 0) s)(NS:∀i,(Δi i).map (·.1)=(Δi 0).map (·.1))(asg:∀i d,items[i]? =some d→∀(B':Bx) (Δ':aa (ia×MO)),B'.s0=B.s0→bY w A B' env tgt (.dat d) (Γi i) (Γb i d) Δ')
  (turn:∀(B':Bx) (R:Flow→za→Prop) (i:Nat) (d:PyData) (I:ia) (m:MO) (s:za) (E':qa→za→Prop),B'.s0=B.s0→items[i]? =some d→P i→Sc B' env (Γb i d) ((I,m)::Δi i) s→
   (∀f s',(match f with
    |.next|.cont=>Sc B' env (Γi (i+1)) ((I,m)::Δi (i+1)) s'∧P (i+1)
    |.brk=>Ex w A env rest Q E s'
    |.ret u=>Q (.ret u) s')→R f s')→Ex w A env body R E' s)
  (after:∀s',P items.length→Sc B env (Γi items.length) (Δi items.length) s'→Ex w A env rest Q E s')
  (hk:Aa (env.scope.kind=.function) aK)(hs:Aa (br iter=true) aR):Ex w A env (.For tgt iter body [] pos::rest) Q E s:=
 vC S (By.items hh src hit h0) (λi Γ1 Δ1=>Γ1=Γi i∧Δ1=Δi i∧P i) ⟨rfl,rfl,hP⟩ (λB' i d Is Γ1 Δ1 hB hu hW hd hI=>xEE hW λI m e=>yI hI λe1 e2 hP=>by
  subst e e1 e2
  exact .mk _ (asg i d hd B' _ hB) λR s E' S fin=>turn B' R i d I m s E' hB hd hP S λf s' q=>fin f s' (by
   cases f with
   |next =>exact⟨_,_,⟨rfl,rfl,q.2⟩,q.1⟩
   |cont=>exact⟨_,_,⟨rfl,rfl,q.2⟩,q.1⟩
   |brk=>exact q
   |ret u=>exact q)) (λs' Γ2 Δ2 h S=>yI h λe1 e2 hP=>by
  subst e1 e2
  exact after s' hP S) hs
theorem iJ{tgt:Ba}{pos:Pos}{iter:Ba}{body rest:aa Va}{bX:D}{items:aa PyData}{Q:Flow→za→Prop}(hh:A.handled=none)(S:Sc B env Γ Δ s)(src:ao w A B env Γ Δ iter bX)(hit:bF bX items)
  (Γi:Nat→aa (Str×D))(Γb:Nat→PyData→aa (Str×D))(Δi:Nat→aa (ia×MO))
  (h0:∀B s,Sc B env Γ Δ s→Sc B env (Γi 0) (Δi 0) s)(NS:∀i,(Δi i).map (·.1)=(Δi 0).map (·.1))(asg:∀i d,items[i]? =some d→∀(B':Bx) (Δ':aa (ia×MO)),B'.s0=B.s0→bY w A B' env tgt (.dat d) (Γi i) (Γb i d) Δ')
  (turn:∀(B':Bx) (R:Flow→za→Prop) (i:Nat) (d:PyData) (I:ia) (m:MO) (s:za) (E':qa→za→Prop),B'.s0=B.s0→items[i]? =some d→Sc B' env (Γb i d) ((I,m)::Δi i) s→
   (∀s',Sc B' env (Γi (i+1)) ((I,m)::Δi (i+1)) s'→R .next s')→Ex w A env body R E' s)
  (after:∀s',Sc B env (Γi items.length) (Δi items.length) s'→Ex w A env rest Q E s')
  (hk:Aa (env.scope.kind=.function) aK)(hs:Aa (br iter=true) aR):Ex w A env (.For tgt iter body [] pos::rest) Q E s:=
 vE hh S src hit Γi Γb Δi (λz_=>True) trivial h0 NS asg (λB' R i d I m s E' hB hd z_ S' fin=>turn B' R i d I m s E' hB hd S' λs' q=>fin .next s' ⟨q,trivial⟩) (λs' z_ S'=>after s' S') hk hs
theorem aD.set{X:aa ia}{h:Ja}{vs:aa qa}{ds:aa PyData}(r:aD X h vs ds):∀(i:Nat) {v:qa} {d:PyData},Rd X h v d→aD X h (vs.set i v) (ds.set i d):=by
 refine aD.ind (λz_ z_ z_ z_=>.nil) (λv vs d ds x y ih i z_ z_ r=> ?_) r
 cases i with
 |zero=>exact .cons r y
 |succ i=>exact .cons x (ih i r)
theorem Sc.mw(S:Sc B env Γ Δ s){a:ia}{ds:aa PyData}(h:(a,MO.list ds)∈Δ):∃vs:aa qa,kO s.heap a vs.toArray∧aD (XX B.Xo env Δ) s.heap vs ds:=S.get_own h
theorem xy{l:ia}{items:Ua qa}{k:Int}{t:Tok}{v:qa}{Q:Unit→za→Prop}(hl:kO s.heap l items)(h0:0≤k)(Zq:k<2^63)(hn:k<items.size)
  (hQ:∀h',kO h' l (items.setIfInBounds k.toNat v)→ve l s.heap h'→Q () {s with heap:=h'}):Ia (Md w) A (Gi (.ref l) (.int k t) v) Q E s:=by
 obtain⟨o,ho,hc,pP,ne,hd⟩:=id hl
 unfold Gi
 try with_reducible refine Jc ?_
 first|refine Ca (Ka ?_)|skip
 refine Ca (wpAny_sequenceKey hl.isList.typeIs (by decide) ?_)
 refine Ca (Wj (name:=ya "__setitem__") hl.isList.typeIs slot_list_setitem
  (Yg slot_list_setitem hl.isList.typeIs entry_list_setitem ?_ (args_list_setitem _ _ _)))
 show Ia _ _ (Ob.List.listSubscript? (.int k t)>>=_) _ _ s
 refine Ca (wpAny_listSubscript_int (fitsIndex_of h0 Zq) ?_)
 clear Zq
 obtain⟨j,rfl⟩:=Int.eq_ofNat_of_zero_le h0
 have hj:j<items.size:=by exact pe.mp hn
 have hx':items[j]? =some items[j]:=Ua.getElem?_eq_getElem hj
 show Ia _ _ ((seqItemAt l j>>=λr=>pure (r.map (j,·)))>>=_) _ _ s
 refine Ca (Ca (wpAny_seqItemAt ho hd (Ka ?_)))
 refine(hx' ..).symm▸ ?_
 show Ia _ _ (setSeqItemAt l j v>>=_) _ _ s
 refine Ca (wpAny_setSeqItemAt ho hd ?_)
 first
  |exact Ca (Ka (Ka ⟨.none,rfl,Ka (hQ _ (hl.update _) (Pf ..))⟩))
  |exact Ka ⟨.none,rfl,Ka (hQ _ (hl.update _) (Pf ..))⟩
theorem Sc.setItem(S:Sc B env Γ Δ s){a:ia}{ds:aa PyData}{i:Int}{t:Tok}{v:qa}{d:PyData}{Q:Unit→za→Prop}(o:bw a (.list ds) (.list (ds.set i.toNat d)) Δ Δ')(h0:0≤i)(h1:i<2^63)(h2:i<ds.length)
  (hv:Rd (XX B.Xo env Δ) s.heap v d)(h:∀s',Sc B env Γ Δ' s'→Q () s'):Ia (Md w) A (Gi (.ref a) (.int i t) v) Q E s:=by
 refine bE (S.mw o.mem) λvs hl hr=> ?_
 refine xy hl h0 h1 (by simp[hr.length];omega) λh' Jx hs=>h _ (S.set_own (tk:=s.toks) o (λb o hb e=>(hs.2 b hb).trans e) ⟨vs.set i.toNat v,by simpa using Jx,?_⟩)
 exact(hr.set i.toNat hv).at λb o' hb e=>.inr ⟨hb,(hs.2 b λq=>hb (by rw[q];exact XX.own o.mem)).trans e⟩
theorem xV{l k value:Ba}{QB pos:Pos}{ds:aa PyData}{a:ia}{i x y:Int}{rest:aa Va}{Q:Flow→za→Prop}(S:Sc B env Γ Δ s)(hl:ao w A B env Γ Δ l (.val (.ref a)))(hi:ao w A B env Γ Δ k (.int i))(hv:ao w A B env Γ Δ value (.int y))
  (o:bw a (.list ds) (.list (ds.set i.toNat (.int (x+y)))) Δ Δ')(h0:0≤i)(h1:i<2^63)(hd:ds[i.toNat]? =some (.int x))
  (h:∀s',Sc B env Γ Δ' s'→Ex w A env rest Q E s')
  (ha:Aa (cT k=true) aR):Ex w A env (.AugAssign (.Subscript l k QB) .Add value pos::rest) Q E s:=
 ⟨Kc (wpAny_AugAssign_Subscript_any (hl.use S λv s1 k1 S1 r1=>hi.use S1 λu s2 k2 S2 r2=>by
  obtain rfl:v=.ref a:=r1
  refine r2.kQ λt=> ?_
  refine bE (S2.mw o.mem) λvs hL hr=> ?_
  refine bE (hr.get hd) λv w7 JB=> ?_
  have bB:i.toNat<ds.length:=(ud.mp hd).1
  refine xj hL.isList h0 h1 (by simpa using w7) (hv.use S2 λu3 s3 k3 S3 r3=> ?_)
  refine r3.kQ λt3=> ?_
  cases JB
  exact PySem.P.iadd_int ((S3.upd (.tok ..)).setItem o h0 h1 (by exact Int.lt_of_toNat_lt bB) (.int ..) λs' S'=>(h s' S').run)) (D0 ha))⟩
structure z5(w:Oa)(A:Xa)(B:Bx)(env:Env)(Γ:aa (Str×D))(Δ:aa (ia×MO))(e:Ba)(ds:aa PyData):Prop where
 go:∀(s:za) (E:qa→za→Prop),Sc B env Γ Δ s→Ia (Md w) A (eval e env) (λv s'=>Kp s s'∧∃a vs,v=.ref a∧fT B env Δ s a∧kO s'.heap a (Ih vs)∧aD (XX B.Xo env Δ) s'.heap vs ds∧∀X,(∀b o,b∉XX B.Xo env Δ→s.heap.get? b=some o→b∉X)→aD X s'.heap vs ds) E s
theorem k8{x:Str}{pos' pos:Pos}{value:Ba}{ds:aa PyData}{rest:aa Va}{Q:Flow→za→Prop}{Γ':ia→aa (Str×D)}(S:Sc B env Γ Δ s)(e:z5 w A B env Γ Δ value ds)(t:∀a,aX x (.val (.ref a)) Γ (Γ' a))(K:cG B env x)
  (h:∀a s',Sc B env (Γ' a) ((a,.list ds)::Δ) s'→Ex w A env rest Q E s')(hs:Aa (cR value=true) aR)(hk:Aa (env.scope.kind=.function) aK):Ex w A env (.Assign [.Name x pos'] value pos::rest) Q E s:=
 ⟨Kc (vh (Pa (e.go s E S) (λv s1 q=>by
  obtain⟨k1,a,vs,rfl,ha,hl,hr,hX⟩:=q
  have S1:=S.take k1 (a:=a) (m:=.list ds) ha ⟨vs,hl,hX _ λb o hb e hx=>by
   rcases XX.cases hx with h|h|⟨y,h⟩|⟨m',h⟩
   ·exact hb (XX.out h)
   ·exact hb (h▸XX.loc)
   ·exact hb (XX.cell h)
   ·rcases Za.mp h with h|h
    ·cases h;exact ha.new _ o e rfl
    ·exact hb (XX.own h)⟩
  exact S1.store (t a) K (show De _ _ _ (.val _)from rfl) (λs' S' z_=>(h a s' S').run) hk) λz_ z_ z=>z) (dH hs))⟩
theorem Sc.settle{x:Str}{a:ia}{ds:aa PyData}(S:Sc B env Γ ((a,.list ds)::Δ) s)(hm:(x,D.val (.ref a))∈Γ)(t:aX x (.list ds) Γ Γ'):Sc B env Γ' Δ s:=by
 refine bE (S.mw La) λvs hl hr=> ?_
 have S':=S.drop
 have ho:=S.own _ La
 have dn:=S.dn
 simp only[Ib,Pd]at dn
 have bB:a<s.heap.objs.size:=by obtain⟨_,e,_⟩:=hl;exact Ub e
 have B7:a∉XX B.Xo env Δ:=λhx=>by
  rcases XX.cases hx with h|h|⟨y,h⟩|⟨m',h⟩
  ·exact ho.2.2.1.2 h
  ·exact ho.1 h
  ·exact ho.2.1 y a h rfl
  ·exact dn.1 (jd (f:=(·.1)) h)
 refine{S' with nd:=t.names▸S.nd,vars:=λp hp hu=> ?_}
 rcases t.cases S.nd p hp with rfl|⟨_,hp⟩
 ·refine bE (S.vars _ hm (by intro h;cases h)) λv b hv=> ?_
  obtain rfl:v=.ref a:=hv
  refine⟨_,b,Rd.listAt B7 hl (hr.at λb o hb e=>.inr ⟨λhx=>hb ?_,e⟩)⟩
  rcases XX.cases hx with h|h|⟨y,h⟩|⟨m',h⟩
  ·exact XX.out h
  ·exact h▸XX.loc
  ·exact XX.cell h
  ·exact XX.own (p:=(b,m')) (Wa _ h)
 ·exact S'.vars p hp hu
theorem GV{s1:za}{X:aa ia}{v:qa}{d:D}{items:aa PyData}{I:ia}{o:Obj}{Q:qa→za→Prop}(hh:A.handled=none)(hd:De X s1.heap v d)(hit:bF d items)(hI:I∈X)
  (ho:s1.heap.get? I=some o)(dY:bT I d v 0 o)(h:Q (.ref I) s1):Ia (Md w) A (pyIter (.ref I)) Q E s1:=by
 cases hit with
 |list ds hz=>
  obtain⟨l,vs,rfl,hl,hL,hr⟩:=hd.isList
  refine mO dY λl' e hc EL=> ?_
  cases e
  have g9:l≠I:=λq=>hl (q▸hI)
  exact(ng (prog:=pw) (w:=w) (A:=A) hh I l g9 vs.toArray).self 0 s1 _ _ ⟨⟨o,ho,hc,EL⟩,hL⟩ h
 |range a b ha hb hz Jp=>
  have W:Walks pw w A I [I] [I] (b-a).toNat (λi v=>i<(b-a).toNat∧∃t,v=.int (a+i*1) t) (λi h=>Dh h I (a+(i:Nat)*1) (((b-a).toNat:Int) -(i:Nat)) 1):=(Walks.range hh I a 1 (b-a).toNat).bound
  exact W.self 0 s1 _ _ (dY _ ho) h
theorem Sc.cE{l:ia}{ds:aa PyData}{d:PyData}{v:qa}{Q:qa→za→Prop}(S:Sc B env Γ Δ s)(own:bw l (.list ds) (.list (ds++[d])) Δ Δ')(r:De (XX B.Xo env Δ) s.heap v (.dat d))(hz:ds.length≤Bb)
  (h:∀s',Sc B env Γ Δ' s'→Q .none s'):Ia (Md w) A (Ic (.builtin "list.append") [.ref l,v]) Q E s:=by
 refine bE (S.mw own.mem) λvs hL hr=> ?_
 refine qT hL (λh' Jx hs=>h _ (S.set_own (tk:=s.toks) own (λb o hb e=>(hs.2 b hb).trans e) (m':=.list (ds++[d])) ⟨vs++[v],?_,(hr.append (.cons r .nil)).at λb o' hb e=>.inr ⟨hb,(hs.2 b λq=>hb (q▸XX.own own.mem)).trans e⟩⟩)) (by rw[Kf,hr.length];exact hz)
 rw[←aa.push_toArray];exact Jx
section
variable{I:ia}{o:Obj}{v:qa}{d:D}{items:aa PyData}{Q:Ma qa→za→Prop}
theorem Sc.rG{Q:qa→za→Prop}(hh:A.handled=none)(S:Sc B env Γ ((I,.obj o)::Δ) s)(gd:(v,d)∈B.Φ)(hit:bF d items)(dY:bT I d v 0 o)(h:Q (.ref I) s):Ia (Md w) A (pyIter (.ref I)) Q E s:=
 GV hh (S.fB gd) hit (XX.own (p:=(I,.obj o)) La) (S.get_own (p:=(I,.obj o)) La) dY h
end
noncomputable def LC(w:Oa)(A:Xa)(B:Bx)(env:Env)(Γ:aa (Str×D))(Δ:aa (ia×MO))(e:Ba)(ds:aa PyData):Prop:=
 ∃elt gens scope pos,e=.ListComp elt gens scope pos∧∀(s:za) (E:qa→za→Prop) (use:Ma (qa→Sem Unit)) (Q:qa→za→Prop),Sc B env Γ Δ s→
  (∀(s1 s':za) (m:Str→Ma qa) (vs:aa qa),Kp s s1→Sc B env Γ Δ s1→Kp s1 s'→s'.heap.Ns (s1.heap.objs.size+2) m→kO s'.heap (s1.heap.objs.size+1) vs.toArray→
   (∀Y:aa ia,(∀b∈Y,b∈XX B.Xo env Δ∨ @Zc Nat _ s1.heap.objs.size b∧ @Zc Nat _ b (s1.heap.objs.size+2))→aD Y s'.heap vs ds)→compPost (Md w) A E use Q (.ref (s1.heap.objs.size+1)) (s1.heap.objs.size+2) (.ok .next) s')→
  Ia (Md w) A (comprehension e scope env (firstIterPos gens pos) (newList []) (firstAsync gens) (firstIter gens env) use) Q E s
section
variable{L:ia}{R:Yd→za→Prop}
theorem F2{elt iter tgt:Ba}{ifs:aa Ba}{pos:Pos}{α:Type}{l:aa α}{φ:α→PyData}{f:α→Ma PyData}{Γ0:aa (Str×D)}{Γd:α→aa (Str×D)}{I:ia}{o:Obj}{v:qa}{d:D}(hh:A.handled=none)
  (S:Sc B env Γ0 [(I,.obj o),(L,.list [])] s)(gd:(v,d)∈B.Φ)(hit:bF d (l.map φ))(dY:bT I d v 0 o)(hn:(Γ0.map (·.1)).Nodup)(back:∀d∈l,∀p∈Γ0,p.2≠ .un→p∈Γd d)(asg:∀d∈l,∀Δ',bY w A B env tgt (.dat (φ d)) Γ0 (Γd d) Δ')
  (turn:∀d∈l,∀Δ',OA w A B env (Γd d) Δ' ifs (f d).isSome∧∀e,f d=some e→ao w A B env (Γd d) Δ' elt (.dat e))
  (after:∀oI s' h' tk,Sc B env Γ0 [(I,.obj oI),(L,.list (l.filterMap f))] s'→(∀b o,b≠I→s'.heap.get? b=some o→h'.get? b=some o)→R (.ok .next) {s' with heap:=h',toks:=tk}):
  wc (Md w) A (.compLoop (.ListComp elt [⟨tgt,iter,ifs,0⟩] scope pos) 0 (.ref I) (.ref L) env) R s:=by
 refine sP (λk s'=>∃i oI,i≤l.length∧k=l.length+1-i∧bT I d v i oI∧Sc B env Γ0 [(I,.obj oI),(L,.list ((l.take i).filterMap f))] s') ?_ (l.length+1) ⟨0,o,Uc _,rfl,dY,S⟩
 clear S dY
 rintro F K k s' fin ⟨i,oI,hi,rfl,dY,S⟩
 by_cases bB:i<l.length
 ·refine S.nT hh gd hit dY (by rw[Qa];exact bB) λu d' s2 oK hd S2 r2 nK ho2=> ?_
  rw[Ab]at hd
  obtain⟨a,ha,rfl⟩:=fc.mp hd
  have HC:=Ff ha
  have nx:∀s3 e,f a=e→Sc B env (Γd a) [(I,.obj oK),(L,.list ((l.take i).filterMap f++e.toList))] s3→K s3:=λs3 e he S3=>by
   refine fin _ ⟨l.length+1-(i+1),sJ bB,i+1,oK,bB,rfl,nK,?_⟩
   have tk:(l.take (i+1)).filterMap f=(l.take i).filterMap f++e.toList:=by rw[Me,ha,aa.filterMap_append,Ma.toList_some,aa.filterMap_cons,he];cases e<;> rfl
   rw[tk];exact S3.weak (back a HC) hn
  refine nO ho2 (nK.calm _ ho2) ((asg a HC _).go _ _ _ _ S2 r2 λs3 S3 z_=>Pa ((turn a HC _).1.go s3 _ S3) (λokb s4 q=> ?_) λz_ z_ z=>z)
  obtain⟨k4,rfl⟩:=q
  have S4:=S3.upd k4
  cases hfd:f a with
  |none=>exact nx s4 none hfd (by rw[Ma.toList_none,ff];exact S4)
  |some e=>exact((turn a HC _).2 e hfd).use S4 λy s5 k5 S5 r5=>S5.cE (.there .here) r5 (Na (aa.length_filterMap_le ..) (Na (aa.length_take_le' ..) (Qa φ▸hit.size))) λs6 S6=>nx s6 (some e) hfd S6
 ·obtain rfl:i=l.length:=Tg hi (Sf.mp bB)
  rw[bf]at S
  exact S.endAt hh gd hit (by rw[Qa];exact dY) λh' tk iM=>after oI s' h' tk S iM
end
theorem LC.close{s1 s':za}{oI:Obj}{h':Ja}{tk:Nat}{ds:aa PyData}{Γ0:aa (Str×D)}{v:qa}{d:D}{Z:za→Prop}(S':Sc ⟨s1,XX B.Xo env Δ,(v,d)::B.Φ⟩ (b9 scope (s1.heap.objs.size+2) env) Γ0 [(s1.heap.objs.size,.obj oI),(s1.heap.objs.size+1,.list ds)] s')(iM:∀b o,b≠s1.heap.objs.size→s'.heap.get? b=some o→h'.get? b=some o)
  (fin:∀(s':za) (m:Str→Ma qa) (vs:aa qa),Kp s1 s'→s'.heap.Ns (s1.heap.objs.size+2) m→kO s'.heap (s1.heap.objs.size+1) vs.toArray→
   (∀Y:aa ia,(∀b∈Y,b∈XX B.Xo env Δ∨ @Zc Nat _ s1.heap.objs.size b∧ @Zc Nat _ b (s1.heap.objs.size+2))→aD Y s'.heap vs ds)→Z s'):Z {s' with heap:=h',toks:=tk}:=by
 obtain⟨mm,hm⟩:=S'.ns
 obtain⟨ys,hl5,ra⟩:=S'.get_own (p:=(s1.heap.objs.size+1,.list ds)) (Wa _ La)
 refine fin {s' with heap:=h',toks:=tk} mm ys ?_ (hm.at' λo e=>iM _ o Mt e) (hl5.at λo e=>iM _ o (Bh _) e) λY hY=> ?_
 ·obtain⟨hx,tx,rfl,kx⟩:=S'.kp
  exact⟨h',tk,rfl,λb o e=>iM b o (se (Ub e)) (kx b o e)⟩
 ·refine ra.at λb o hb e=>.inr ⟨λq=>hb ?_,iM b o (λq=>hb (by rw[q];exact XX.own (p:=(s1.heap.objs.size,.obj oI)) La)) e⟩
  rcases hY b q with h|h
  ·exact XX.out h
  ·have NL: @Eq Nat b s1.heap.objs.size∨ @Eq Nat b (s1.heap.objs.size+1)∨ @Eq Nat b (s1.heap.objs.size+2):=ME h
   rcases NL with h|h|h
   ·rw[h];exact XX.own (p:=(s1.heap.objs.size,.obj oI)) La
   ·rw[h];exact XX.own (p:=(s1.heap.objs.size+1,.list ds)) (Wa _ La)
   ·rw[h];exact XX.loc (env:=b9 scope (s1.heap.objs.size+2) env)
theorem LC.core{elt iter tgt:Ba}{ifs:aa Ba}{pos:Pos}{bX:D}{α:Type}{l:aa α}{φ:α→PyData}{f:α→Ma PyData}{Γ0:aa (Str×D)}{Γd:α→aa (Str×D)}
  (hh:A.handled=none)(src:ao w A B env Γ Δ iter bX)(hit:bF bX (l.map φ))(ok:dJ scope env)(hk:env.scope.kind=.function)
  (hn:(Γ0.map (·.1)).Nodup)(hΓ:∀p∈Γ0,p.2≠ .un→p∈Γ∧scope.names.lookup p.1=some .free∧env.kindOf p.1=some .cell)
  (back:∀d∈l,∀p∈Γ0,p.2≠ .un→p∈Γd d)
  (asg:∀d∈l,∀(B':Bx) (Δ':aa (ia×MO)) (C:Nat),B'.s0.heap.objs.size≤C→bY w A B' (b9 scope C env) tgt (.dat (φ d)) Γ0 (Γd d) Δ')
  (turn:∀d∈l,∀(B':Bx) (Δ':aa (ia×MO)) (C:Nat),Up B.s0.heap B'.s0.heap→True→B'.s0.heap.objs.size≤C→
   OA w A B' (b9 scope C env) (Γd d) Δ' ifs (f d).isSome∧∀e,f d=some e→ao w A B' (b9 scope C env) (Γd d) Δ' elt (.dat e))
  (hs:Aa (br iter=true) aR):LC w A B env Γ Δ (.ListComp elt [⟨tgt,iter,ifs,0⟩] scope pos) (l.filterMap f):=by
 refine⟨_,_,_,_,rfl,λs E use Q S fin=> ?_⟩
 refine jj (use:=use) rfl (gF hs) (fu ok.free) ok.kind (λy hy hl=>cM ok.nodup (by rw[←hl];exact hy))
  (src.use S λv s1 k1 S1 r1=>gH r1 hit λo Jz dY=>Ld (iB ?_))
 dsimp only
 have z1:(s1.heap.push o).objs.size=s1.heap.objs.size+1:=Yc ..
 have z2:((s1.heap.push o).push {cls:=.type "list",dict:=none,data:=.seq ([]:aa qa).toArray}).objs.size=s1.heap.objs.size+2:=by rw[Yc,z1]
 obtain⟨more,S4⟩:=Sc.comp (S1.ghost r1) ok hk hn (Γ0:=Γ0) hΓ (oI:=o) (oA:={cls:=.type "list",dict:=none,data:=.seq ([]:aa qa).toArray}) (mI:=.obj o) (mA:=.list []) rfl
  (λX h' u=>u _ _ (qc _ Jz)) (λX h' u=>⟨[],⟨_,u _ _ (z1▸Zb (s1.heap.push o) rfl),rfl,rfl,_,rfl⟩,.nil⟩)
 rw[z2,z1]
 generalize hs4:({s1 with heap:=pushCells (((s1.heap.push o).push {cls:=.type "list",dict:=none,data:=.seq ([]:aa qa).toArray}).push {cls:=.type "dict",data:=.dict #[]}) scope.names}:za)=s4 at S4⊢
 have l7: @Zc Nat _ s1.heap.objs.size (s1.heap.objs.size+2):=Tc _ _
 have loop:=F2 (elt:=elt) (iter:=iter) (pos:=pos) (scope:=scope) (R:=compPost (Md w) A E use Q (.ref (s1.heap.objs.size+1)) (s1.heap.objs.size+2)) hh S4 La hit dY hn back (λd hd Δ'=>asg d hd _ Δ' _ l7) (λd hd Δ'=>turn d hd _ Δ' _ S1.kp.up trivial l7)
  λoI s' h' tk S' iM=>LC.close S' iM λs' m vs a b c d=>fin s1 s' m vs k1 S1 a b c d
 exact Vj loop (S4.rG hh La hit dY loop)
theorem LC.ev{e:Ba}{ds:aa PyData}(x:LC w A B env Γ Δ e ds):ao w A B env Γ Δ e (.list ds):=.mk λs E S=>by
 obtain⟨elt,gens,scope,pos,rfl,x⟩:=x
 refine(eval_ListComp ..).symm▸ ?_
 refine x s E none _ S λs1 s' m vs k1 S1 k2 hm hl hr=>⟨m,hm,λh' hs=> ?_⟩
 have bB:∀{b o},s1.heap.get? b=some o→b≠s1.heap.objs.size+2:=λ{b o} e=>by
  have: @Od Nat _ b s1.heap.objs.size:=Ub e
  show @Ne Nat b _
  exact Ao this
 have hAC: @Ne Nat (s1.heap.objs.size+1) (s1.heap.objs.size+2):=by exact zj (_+1)
 refine⟨k1.trans' ?_,?_⟩
 ·obtain⟨hx,tx,rfl,kx⟩:=k2
  exact⟨h',tx,rfl,λb o e=>(hs.2 b (bB e)).trans (kx b o e)⟩
 ·refine Rd.listAt (vs:=vs) ?_ (hl.at λo e=>(hs.2 _ hAC).trans e) ?_
  ·intro hx
   have: @Od Nat _ (s1.heap.objs.size+1) s1.heap.objs.size:=S1.jH hx
   exact DI this
  ·refine(hr ((s1.heap.objs.size+2)::XX B.Xo env Δ) λb hb=> ?_).at λb o hb e=>.inr ⟨λq=>hb (Wa _ q),(hs.2 b λq=>hb (q▸La)).trans e⟩
   rcases Za.mp hb with h|h
   ·right;rw[h];exact⟨Tc _ _,zb _⟩
   ·exact .inl h
inductive mV(Γ:aa (Str×D))(scope:Lc)(env:Env):aa (Str×D)→Prop
 |nil:mV Γ scope env []
 |cons {p:Str×D} {l:aa (Str×D)} (m:p∈Γ) (r:mV Γ scope env l) (c:Aa ((scope.names.lookup p.1==some .free&&env.kindOf p.1==some .cell)=true) aK):mV Γ scope env (p::l)
theorem mV.mem{l:aa (Str×D)}(a:mV Γ scope env l):∀p∈l,p.2≠ .un→p∈Γ∧scope.names.lookup p.1=some .free∧env.kindOf p.1=some .cell:=by
 induction a with
 |nil=>exactλp hp=>(nomatch hp)
 |cons a f c ih=>exact Ve.mpr ⟨λz_=>by simp only[Bd,Vd]at c;exact⟨a,c⟩,ih⟩
theorem LC.one{elt iter:Ba}{ifs:aa Ba}{x:Str}{px pos:Pos}{bX:D}{α:Type}{l:aa α}{φ:α→PyData}{f:α→Ma PyData}
  (hh:A.handled=none)(src:ao w A B env Γ Δ iter bX)(hit:bF bX (l.map φ))(ok:dJ scope env)
  (yO:mV Γ scope env Γf)
  (turn:∀d∈l,∀(B':Bx) (Δ':aa (ia×MO)) (C:Nat),Up B.s0.heap B'.s0.heap→True→B'.s0.heap.objs.size≤C→
   OA w A B' (b9 scope C env) ((x,.dat (φ d))::Γf) Δ' ifs (f d).isSome∧∀e,f d=some e→ao w A B' (b9 scope C env) ((x,.dat (φ d))::Γf) Δ' elt (.dat e))
  (hx:Aa ((scope.names.lookup x==some .local||scope.names.lookup x==some .cell)=true) aK)(hn:Aa (pI (x::Γf.map (·.1))=true) aK)(hk:Aa (env.scope.kind=.function) aK)(hs:Aa (br iter=true) aR):LC w A B env Γ Δ (.ListComp elt [⟨.Name x px,iter,ifs,0⟩] scope pos) (l.filterMap f):=
 LC.core (Γ0:=(x,.un)::Γf) (Γd:=λd=>(x,.dat (φ d))::Γf) hh src hit ok hk (bD hn) (λp hp hu=>by
  rcases Za.mp hp with rfl|hp
  ·exact absurd rfl hu
  ·exact yO.mem p hp hu) (λd hd p hp hu=>by
  rcases Za.mp hp with rfl|hp
  ·exact absurd rfl hu
  ·exact Wa _ hp) (λd hd B' Δ' C hC=>bY.name .here (dP hC ok.nodup (by simpa using hx)) ok.kind) turn hs
theorem LC.kP{elt iter:Ba}{x:Str}{px pos:Pos}{bX:D}{α:Type}{l:aa α}{φ g:α→PyData}
  (hh:A.handled=none)(src:ao w A B env Γ Δ iter bX)(hit:bF bX (l.map φ))(ok:dJ scope env)
  (yO:mV Γ scope env Γf)
  (turn:∀d∈l,∀(B':Bx) (Δ':aa (ia×MO)) (C:Nat),Up B.s0.heap B'.s0.heap→True→B'.s0.heap.objs.size≤C→ao w A B' (b9 scope C env) ((x,.dat (φ d))::Γf) Δ' elt (.dat (g d)))
  (hx:Aa ((scope.names.lookup x==some .local||scope.names.lookup x==some .cell)=true) aK)(hn:Aa (pI (x::Γf.map (·.1))=true) aK)(hk:Aa (env.scope.kind=.function) aK)(hs:Aa (br iter=true) aR):LC w A B env Γ Δ (.ListComp elt [⟨.Name x px,iter,[],0⟩] scope pos) (l.map g):=by
 have:=LC.one (f:=λd=>some (g d)) (elt:=elt) (ifs:=[]) (px:=px) (pos:=pos) hh src hit ok yO (λd hd B' Δ' C u p q=>⟨.nil,λe he=>by cases he;exact turn d hd B' Δ' C u p q⟩) hx hn hk hs
 rwa [show l.filterMap (λd=>some (g d))=l.map g from by rw[aa.filterMap_eq_map']]at this
theorem LC.qG{elt iter c:Ba}{x:Str}{px pos:Pos}{bX:D}{α:Type}{l:aa α}{φ g:α→PyData}{t:α→Ga}
  (hh:A.handled=none)(src:ao w A B env Γ Δ iter bX)(hit:bF bX (l.map φ))(ok:dJ scope env)
  (yO:mV Γ scope env Γf)
  (tst:∀d∈l,∀(B':Bx) (Δ':aa (ia×MO)) (C:Nat),Up B.s0.heap B'.s0.heap→True→B'.s0.heap.objs.size≤C→TV w A B' (b9 scope C env) ((x,.dat (φ d))::Γf) Δ' c (t d))
  (turn:∀d∈l,t d=true→∀(B':Bx) (Δ':aa (ia×MO)) (C:Nat),Up B.s0.heap B'.s0.heap→True→B'.s0.heap.objs.size≤C→ao w A B' (b9 scope C env) ((x,.dat (φ d))::Γf) Δ' elt (.dat (g d)))
  (hx:Aa ((scope.names.lookup x==some .local||scope.names.lookup x==some .cell)=true) aK)(hn:Aa (pI (x::Γf.map (·.1))=true) aK)(hk:Aa (env.scope.kind=.function) aK)(hs:Aa (br iter=true) aR):LC w A B env Γ Δ (.ListComp elt [⟨.Name x px,iter,[c],0⟩] scope pos) ((l.filter t).map g):=by
 have:=LC.one (f:=λd=>if t d then some (g d)else none) (elt:=elt) (ifs:=[c]) (px:=px) (pos:=pos) hh src hit ok yO (λd hd B' Δ' C u p q=>⟨.one (by
  have:=tst d hd B' Δ' C u p q
  cases h:t d with
  |true=>rw[h]at this;simpa using this
  |false=>rw[h]at this;simpa using this),λe he=>by
   cases h:t d with
   |true=>simp only[h,if_true]at he;cases he;exact turn d hd h B' Δ' C u p q
   |false=>simp only[h]at he;cases he⟩) hx hn hk hs
 have e:∀l:aa α,l.filterMap (λd=>if t d then some (g d)else none)=(l.filter t).map g:=by
  intro l
  induction l with
  |nil=>rfl
  |cons a l ih=>by_cases h:t a=true<;> simp[h,ih]
 rwa [e]at this
theorem LC.pair{elt iter:Ba}{x y:Str}{px py tp pos:Pos}{kt}{bX:D}{α:Type}{l:aa α}{φ ψ g:α→PyData}
  (hh:A.handled=none)(src:ao w A B env Γ Δ iter bX)(hit:bF bX (l.map λr=>.tuple [φ r,ψ r]))(ok:dJ scope env)
  (turn:∀d∈l,∀(B':Bx) (Δ':aa (ia×MO)) (C:Nat),Up B.s0.heap B'.s0.heap→True→B'.s0.heap.objs.size≤C→ao w A B' (b9 scope C env) [(x,.dat (φ d)),(y,.dat (ψ d))] Δ' elt (.dat (g d)))
  (hx:Aa ((scope.names.lookup x==some .local||scope.names.lookup x==some .cell)=true) aK)(hy:Aa ((scope.names.lookup y==some .local||scope.names.lookup y==some .cell)=true) aK)(hn:Aa (pI [x,y]=true) aK)(hk:Aa (env.scope.kind=.function) aK)(hs:Aa (br iter=true) aR):
  LC w A B env Γ Δ (.ListComp elt [⟨.Tuple [.Name x px,.Name y py] kt tp,iter,[],0⟩] scope pos) (l.map g):=by
 have:=LC.core (Γ0:=[(x,.un),(y,.un)]) (Γd:=λd=>[(x,.dat (φ d)),(y,.dat (ψ d))]) (f:=λd=>some (g d)) (elt:=elt) (ifs:=[]) (tgt:=.Tuple [.Name x px,.Name y py] kt tp) (pos:=pos) (φ:=λr=>PyData.tuple [φ r,ψ r]) (l:=l) hh src hit ok hk (bD hn) (λp hp hu=>by
  simp only[Za,Vf,Rf]at hp
  rcases hp with rfl|rfl<;> exact absurd rfl hu) (λd hd p hp hu=>by
  simp only[Za,Vf,Rf]at hp
  rcases hp with rfl|rfl<;> exact absurd rfl hu) (λd hd B' Δ' C hC=>bY.tuple hh (.cons (bY.name .here (dP hC ok.nodup (by simpa using hx)) ok.kind) (.cons (bY.name (.there .here) (dP hC ok.nodup (by simpa using hy)) ok.kind) .nil)))
  (λd hd B' Δ' C u p q=>⟨.nil,λe he=>by cases he;exact turn d hd B' Δ' C u p q⟩) hs
 rwa [show l.filterMap (λd=>some (g d))=l.map g from by rw[aa.filterMap_eq_map']]at this
theorem LC.cast{e:Ba}{as bs:aa PyData}(x:LC w A B env Γ Δ e as)(h:as=bs):LC w A B env Γ Δ e bs:=h▸x
inductive Flat:PyData→Prop
 |none:Flat .none
 |bool (b):Flat (.bool b)
 |int (i):Flat (.int i)
 |str (x):Flat (.str x)
theorem aD.flat{X Y:aa ia}{h h':Ja}{vs:aa qa}{ds:aa PyData}(r:aD X h vs ds):(∀d∈ds,Flat d)→aD Y h' vs ds:=by
 refine aD.ind (λz_=>.nil) (λv vs d ds x y ih f=>.cons ?_ (ih λd hd=>f d (Wa _ hd))) r
 have:=f _ La
 cases x with
 |none=>exact .none
 |bool b=>exact .bool b
 |int i t=>exact .int i t
 |str x t=>exact .str x t
 |list=>cases this
 |tuple=>cases this
theorem tu(ns:aa Int):∀d∈ns.map Xb,Flat d:=λd hd=>by
 obtain⟨i,_,rfl⟩:=Ra.mp hd;exact .int i
theorem z5.slice{l:Ba}{lo hi:Ma Ba}{p pos:Pos}{ds:aa PyData}{a b:Ma Int}(x:ao w A B env Γ Δ l (.list ds))(y:Hx w A B env Γ Δ lo a)(z:Hx w A B env Γ Δ hi b)(hz:ds.length≤Bb)(hf:∀d∈ds,Flat d)
   :
  z5 w A B env Γ Δ (.Subscript l (.Slice lo hi none p) pos) (iP ds a b):=.mk λs E S=>
 xg (x.use S λv s1 k1 S1 r1=>wpAny_Slice (y.run S1 λu1 s2 k2 S2 p1=>z.run S2 λu2 s3 k3 S3 p2=>by
  refine(evalPart_none ..).symm▸ ?_
  refine Ka ?_
  obtain⟨a',vs,rfl,ha,hl,hr⟩:=((r1.up k2.up).up k3.up).isList
  obtain⟨ops,qL⟩:=nZ (lo:=lo) (hi:=hi) (p:=p) a' s3.heap.objs.size
  refine tail_any (Ja.IsList.typeIs (s:={s3 with heap:=s3.heap.push {cls:=.type "slice",data:=.fields #[u1,u2,.none]}}) (hl.push _)) Ah.lookup
   (Bk (hl.push _) (Ja.IsSliceOf.new ..) p1 p2 .none (by simp) ?_ (by simpa[hr.length]using hz)) qL
  have hfl:∀d∈iP ds a b,Flat d:=λd hd=>hf d (qh (Ig hd))
  have hle:=(S3.upd (.push s3 {cls:=.type "slice",data:=.fields #[u1,u2,.none]})).next.early (((k1.trans' k2).trans' k3).trans' (Kp.push ..))
  refine⟨((k1.trans' k2).trans' k3).trans' ((Kp.push ..).trans' (Kp.push ..)),_,kms_pick vs a b,rfl,hle,?_,(hr.pick a b).flat hfl,λX z_=>(hr.pick a b).flat hfl⟩
  refine(kms_pick_eq ..).symm▸ ?_
  exact kO.push))
theorem eL{test:Ba}{body orelse rest:aa Va}{pos:Pos}{b:Ga}{Q:Flow→za→Prop}(S:Sc B env Γ Δ s)(t:TV w A B env Γ Δ test b)
  (ht:b=true→∀s',Sc B env Γ Δ s'→Ex w A env body (λf mT=>match f with|.next=>Ex w A env rest Q E mT|f=>Q f mT) E s')
  (hf:b=false→∀s',Sc B env Γ Δ s'→Ex w A env orelse (λf mT=>match f with|.next=>Ex w A env rest Q E mT|f=>Q f mT) E s'):
  Ex w A env (.If test body orelse pos::rest) Q E s:=
 ⟨Kc (wpAny_If (t.use S λs1 k1 S1=>by
  have g:∀(f:Flow) (mT:za),(match f with|.next=>Ex w A env rest Q E mT|f=>Q f mT)→(match f with|.next=>Ia (Md w) A (execs rest env) Q E mT|f=>Q f mT):=λf mT q=>by
   cases f with
   |next =>exact q.run
   |cont=>exact q
   |brk=>exact q
   |ret u=>exact q
  cases b with
  |true=>exact Pa (ht rfl s1 S1).run g λz_ z_ z=>z
  |false=>exact Pa (hf rfl s1 S1).run g λz_ z_ z=>z))⟩
theorem aU{Q:Flow→za→Prop}(h:Q .next s):Ex w A env [] Q E s:=⟨wpAny_execs_nil h⟩
theorem cS{test:Ba}{body rest:aa Va}{pos:Pos}{b:Ga}{Q:Flow→za→Prop}(S:Sc B env Γ Δ s)(t:TV w A B env Γ Δ test b)(hb:b=false)
  (h:∀s',Sc B env Γ Δ s'→Ex w A env rest Q E s'):Ex w A env (.If test body [] pos::rest) Q E s:=
 eL S t (λe=>by rw[hb]at e;cases e) λz_ s' S'=>aU (h s' S')
theorem dR{e:Ba}{pos:Pos}{rest:aa Va}{d:D}{Q:Flow→za→Prop}(S:Sc B env Γ Δ s)(x:ao w A B env Γ Δ e d)(h:∀v s',Sc B env Γ Δ s'→De (XX B.Xo env Δ) s'.heap v d→Q (.ret v) s'):Ex w A env (.Return (some e) pos::rest) Q E s:=
 ⟨Kc (wpAny_Return_some (x.use S λv s1 k1 S1 r1=>h v s1 S1 r1))⟩
theorem zS{l k value:Ba}{pos' pos:Pos}{ds:aa PyData}{a:ia}{i:Int}{d:PyData}{rest:aa Va}{Q:Flow→za→Prop}(S:Sc B env Γ Δ s)(hv:ao w A B env Γ Δ value (.dat d))(hl:ao w A B env Γ Δ l (.val (.ref a)))(hi:ao w A B env Γ Δ k (.int i))
  (o:bw a (.list ds) (.list (ds.set i.toNat d)) Δ Δ')(h0:0≤i)(h1:i<2^63)(h2:i<ds.length)(h:∀s',Sc B env Γ Δ' s'→Ex w A env rest Q E s')
  (hs:Aa (cR value=true) aR):Ex w A env (.Assign [.Subscript l k pos'] value pos::rest) Q E s:=
 ⟨Kc (wpAny_Assign_Subscript (hv.use S λv s1 k1 S1 r1=>hl.use S1 λu s2 k2 S2 r2=>hi.use S2 λu3 s3 k3 S3 r3=>by
  obtain rfl:u=.ref a:=r2
  refine r3.kQ λt=> ?_
  exact S3.setItem o h0 h1 h2 (Rd.up (Rd.up r1 k2.up) k3.up) λs' S'=>(h s' S').run) (dH hs))⟩
theorem gq{C:Nat}:∀(names:aa (Str×Zd)) (n:Nat) (acc:aa (Str×ia)),(∀p∈acc,C≤p.2)→C≤n→∀p∈cellsFrom n names acc,C≤p.2
 |[],n,acc,h,_,p,hp=>h p hp
 |(y,k)::r,n,acc,h,hn,p,hp=>by
  unfold cellsFrom at hp
  split at hp
  ·exact gq r (n+1) _ (λp hp=>by
    rcases Za.mp hp with rfl|hp
    ·exact hn
    ·exact h p hp) (Gh hn) p hp
  ·exact gq r n acc h hn p hp
theorem iW{B:Bx}{fd:Vc}{L a:ia}{x:Str}(hL:B.s0.heap.objs.size≤L)(hx:fd.scope.names.lookup x=some .local∨fd.scope.names.lookup x=some .cell):cG B (Cb fd L a) x:=by
 rcases hx with hx|hx
 ·exact .inl hx
 ·refine xE (Zf.mp (cellsFrom_some fd.scope.names (L+1) [] x (.inr (Jf hx)))) λc hc=> ?_
  exact .inr ⟨hx,c,hc,Na hL (gq (C:=L) fd.scope.names (L+1) [] (λz_ h=>nomatch h) (Of _) _ (Jf hc))⟩
theorem keep{B:Bx}{fd:Vc}{L a:ia}{x:Str}(hL:B.s0.heap.objs.size≤L)(hx:Aa ((fd.scope.names.lookup x==some .local||fd.scope.names.lookup x==some .cell)=true) aK):cG B (Cb fd L a) x:=iW hL (by simpa using hx)
noncomputable def okB(scope outer:Lc):Ga:=scope.kind== .function&&pI (scope.names.map (·.1)) &&scope.names.all λp=>p.2 != .free||outer.names.lookup p.1==some .cell
theorem bS{scope:Lc}{fd:Vc}{L a:ia}(h:Aa (okB scope fd.scope=true) aK):dJ scope (Cb fd L a):=by
 simp only[okB,Bd,Vd]at h
 refine⟨h.1.1,bD h.1.2,λp hp hf=> ?_⟩
 have:=zf.mp h.2 p hp
 simp[hf]at this
 exact cellsFrom_some fd.scope.names (L+1) [] p.1 (.inr (Jf this))
theorem BP{scope:Lc}{env:Env}{y:Str}(ok:dJ scope env)(h:(y,Ie)∈scope.names):((lT scope env).lookup y).isSome=true:=by
 refine xE (Zf.mp (ok.free _ h rfl)) λc hc=> ?_
 have:(lT scope env).lookup y=some c:=oG env y c hc scope.names [] (.inr h)
 rw[this];rfl
noncomputable def ZT(scope outer:Lc):Ga:=scope.kind== .function&&pI (scope.names.map (·.1)) &&scope.names.all λp=>p.2 != .free||outer.names.lookup p.1==some .cell||outer.names.lookup p.1==some .free
theorem zC{scope outer:Lc}{env:Env}{C:ia}(ok:dJ outer env)(h:Aa (ZT scope outer=true) aK):dJ scope (b9 outer C env):=by
 simp only[ZT,Bd,Vd]at h
 refine⟨h.1.1,bD h.1.2,λp hp hf=> ?_⟩
 have:=zf.mp h.2 p hp
 simp[hf]at this
 show((cellsFrom (C+1) outer.names []++lT outer env).lookup p.1).isSome=true
 refine(lookup_append ..).symm▸ ?_
 rcases this with h|h
 ·refine xE (Zf.mp (cellsFrom_some outer.names (C+1) [] p.1 (.inr (Jf h)))) λc hc=> ?_
  rw[hc];rfl
 ·have:=BP ok (Jf h)
  cases(cellsFrom (C+1) outer.names []).lookup p.1 with
  |none=>simpa using this
  |some c=>rfl
theorem ao.bO{w:Oa}{A:Xa}{B:Bx}{env:Env}{Γ:aa (Str×D)}{Δ:aa (ia×MO)}{e:Ba}{a b:Int}(x:ao w A B env Γ Δ e (.int a))(h:a=b):ao w A B env Γ Δ e (.int b):=h▸x
theorem ao.eU{w:Oa}{A:Xa}{B:Bx}{env:Env}{Γ:aa (Str×D)}{Δ:aa (ia×MO)}{e:Ba}{a b:aa PyData}(x:ao w A B env Γ Δ e (.list a))(h:a=b):ao w A B env Γ Δ e (.list b):=h▸x
theorem z5.cast{w:Oa}{A:Xa}{B:Bx}{env:Env}{Γ:aa (Str×D)}{Δ:aa (ia×MO)}{e:Ba}{a b:aa PyData}(x:z5 w A B env Γ Δ e a)(h:a=b):z5 w A B env Γ Δ e b:=h▸x
variable{α:Type}{p:α}
theorem m0{l:aa α}:p∈p::l:=.head _
theorem m1{a0:α}{l:aa α}:p∈a0::p::l:=.tail _ m0
theorem m2{a0 a1:α}{l:aa α}:p∈a0::a1::p::l:=.tail _ m1
theorem m3{a0 a1 a2:α}{l:aa α}:p∈a0::a1::a2::p::l:=.tail _ m2
theorem m4{a0 a1 a2 a3:α}{l:aa α}:p∈a0::a1::a2::a3::p::l:=.tail _ m3
theorem m5{a0 a1 a2 a3 a4:α}{l:aa α}:p∈a0::a1::a2::a3::a4::p::l:=.tail _ m4
theorem m6{a0 a1 a2 a3 a4 a5:α}{l:aa α}:p∈a0::a1::a2::a3::a4::a5::p::l:=.tail _ m5
theorem m7{a0 a1 a2 a3 a4 a5 a6:α}{l:aa α}:p∈a0::a1::a2::a3::a4::a5::a6::p::l:=.tail _ m6
theorem m8{a0 a1 a2 a3 a4 a5 a6 a7:α}{l:aa α}:p∈a0::a1::a2::a3::a4::a5::a6::a7::p::l:=.tail _ m7
theorem m9{a0 a1 a2 a3 a4 a5 a6 a7 a8:α}{l:aa α}:p∈a0::a1::a2::a3::a4::a5::a6::a7::a8::p::l:=.tail _ m8
theorem kX{a0 a1 a2 a3 a4 a5 a6 a7 a8 a9:α}{l:aa α}:p∈a0::a1::a2::a3::a4::a5::a6::a7::a8::a9::p::l:=.tail _ m9
theorem mR{a0 a1 a2 a3 a4 a5 a6 a7 a8 a9 gm:α}{l:aa α}:p∈a0::a1::a2::a3::a4::a5::a6::a7::a8::a9::gm::p::l:=.tail _ kX
theorem zx{a0 a1 a2 a3 a4 a5 a6 a7 a8 a9 gm iw:α}{l:aa α}:p∈a0::a1::a2::a3::a4::a5::a6::a7::a8::a9::gm::iw::p::l:=.tail _ mR
theorem FN{a0 a1 a2 a3 a4 a5 a6 a7 a8 a9 gm iw jl:α}{l:aa α}:p∈a0::a1::a2::a3::a4::a5::a6::a7::a8::a9::gm::iw::jl::p::l:=.tail _ zx
theorem N8{a0 a1 a2 a3 a4 a5 a6 a7 a8 a9 gm iw jl kC:α}{l:aa α}:p∈a0::a1::a2::a3::a4::a5::a6::a7::a8::a9::gm::iw::jl::kC::p::l:=.tail _ FN
theorem FO{a0 a1 a2 a3 a4 a5 a6 a7 a8 a9 gm iw jl kC lN:α}{l:aa α}:p∈a0::a1::a2::a3::a4::a5::a6::a7::a8::a9::gm::iw::jl::kC::lN::p::l:=.tail _ N8
theorem J7{a0 a1 a2 a3 a4 a5 a6 a7 a8 a9 gm iw jl kC lN pL:α}{l:aa α}:p∈a0::a1::a2::a3::a4::a5::a6::a7::a8::a9::gm::iw::jl::kC::lN::pL::p::l:=.tail _ FO
theorem PZ{a0 a1 a2 a3 a4 a5 a6 a7 a8 a9 gm iw jl kC lN pL uv:α}{l:aa α}:p∈a0::a1::a2::a3::a4::a5::a6::a7::a8::a9::gm::iw::jl::kC::lN::pL::uv::p::l:=.tail _ J7
theorem QK{a0 a1 a2 a3 a4 a5 a6 a7 a8 a9 gm iw jl kC lN pL uv z7:α}{l:aa α}:p∈a0::a1::a2::a3::a4::a5::a6::a7::a8::a9::gm::iw::jl::kC::lN::pL::uv::z7::p::l:=.tail _ PZ
theorem m19{a0 a1 a2 a3 a4 a5 a6 a7 a8 a9 gm iw jl kC lN pL uv z7 H7:α}{l:aa α}:p∈a0::a1::a2::a3::a4::a5::a6::a7::a8::a9::gm::iw::jl::kC::lN::pL::uv::z7::H7::p::l:=.tail _ QK
theorem m20{a0 a1 a2 a3 a4 a5 a6 a7 a8 a9 gm iw jl kC lN pL uv z7 H7 a19:α}{l:aa α}:p∈a0::a1::a2::a3::a4::a5::a6::a7::a8::a9::gm::iw::jl::kC::lN::pL::uv::z7::H7::a19::p::l:=.tail _ m19
variable{x:Str}{d e:D}{l:aa (Str×D)}
theorem at0:aX x d ((x,e)::l) ((x,d)::l):=.here
theorem BH{a0:Str×D}:aX x d (a0::(x,e)::l) (a0::(x,d)::l):=.there at0
theorem at2{a0 a1:Str×D}:aX x d (a0::a1::(x,e)::l) (a0::a1::(x,d)::l):=.there BH
theorem BI{a0 a1 a2:Str×D}:aX x d (a0::a1::a2::(x,e)::l) (a0::a1::a2::(x,d)::l):=.there at2
theorem BJ{a0 a1 a2 a3:Str×D}:aX x d (a0::a1::a2::a3::(x,e)::l) (a0::a1::a2::a3::(x,d)::l):=.there BI
theorem OG{a0 a1 a2 a3 a4:Str×D}:aX x d (a0::a1::a2::a3::a4::(x,e)::l) (a0::a1::a2::a3::a4::(x,d)::l):=.there BJ
theorem NC{a0 a1 a2 a3 a4 a5:Str×D}:aX x d (a0::a1::a2::a3::a4::a5::(x,e)::l) (a0::a1::a2::a3::a4::a5::(x,d)::l):=.there OG
theorem IA{a0 a1 a2 a3 a4 a5 a6:Str×D}:aX x d (a0::a1::a2::a3::a4::a5::a6::(x,e)::l) (a0::a1::a2::a3::a4::a5::a6::(x,d)::l):=.there NC
theorem Hy{a0 a1 a2 a3 a4 a5 a6 a7:Str×D}:aX x d (a0::a1::a2::a3::a4::a5::a6::a7::(x,e)::l) (a0::a1::a2::a3::a4::a5::a6::a7::(x,d)::l):=.there IA
theorem Hz{a0 a1 a2 a3 a4 a5 a6 a7 a8:Str×D}:aX x d (a0::a1::a2::a3::a4::a5::a6::a7::a8::(x,e)::l) (a0::a1::a2::a3::a4::a5::a6::a7::a8::(x,d)::l):=.there Hy
theorem qo{a0 a1 a2 a3 a4 a5 a6 a7 a8 a9:Str×D}:aX x d (a0::a1::a2::a3::a4::a5::a6::a7::a8::a9::(x,e)::l) (a0::a1::a2::a3::a4::a5::a6::a7::a8::a9::(x,d)::l):=.there Hz
theorem rZ{a0 a1 a2 a3 a4 a5 a6 a7 a8 a9 gm:Str×D}:aX x d (a0::a1::a2::a3::a4::a5::a6::a7::a8::a9::gm::(x,e)::l) (a0::a1::a2::a3::a4::a5::a6::a7::a8::a9::gm::(x,d)::l):=.there qo
theorem pq{a0 a1 a2 a3 a4 a5 a6 a7 a8 a9 gm iw:Str×D}:aX x d (a0::a1::a2::a3::a4::a5::a6::a7::a8::a9::gm::iw::(x,e)::l) (a0::a1::a2::a3::a4::a5::a6::a7::a8::a9::gm::iw::(x,d)::l):=.there rZ
theorem v9{a0 a1 a2 a3 a4 a5 a6 a7 a8 a9 gm iw jl:Str×D}:aX x d (a0::a1::a2::a3::a4::a5::a6::a7::a8::a9::gm::iw::jl::(x,e)::l) (a0::a1::a2::a3::a4::a5::a6::a7::a8::a9::gm::iw::jl::(x,d)::l):=.there pq
theorem DX{a0 a1 a2 a3 a4 a5 a6 a7 a8 a9 gm iw jl kC:Str×D}:aX x d (a0::a1::a2::a3::a4::a5::a6::a7::a8::a9::gm::iw::jl::kC::(x,e)::l) (a0::a1::a2::a3::a4::a5::a6::a7::a8::a9::gm::iw::jl::kC::(x,d)::l):=.there v9
theorem DY{a0 a1 a2 a3 a4 a5 a6 a7 a8 a9 gm iw jl kC lN:Str×D}:aX x d (a0::a1::a2::a3::a4::a5::a6::a7::a8::a9::gm::iw::jl::kC::lN::(x,e)::l) (a0::a1::a2::a3::a4::a5::a6::a7::a8::a9::gm::iw::jl::kC::lN::(x,d)::l):=.there DX
theorem DZ{a0 a1 a2 a3 a4 a5 a6 a7 a8 a9 gm iw jl kC lN pL:Str×D}:aX x d (a0::a1::a2::a3::a4::a5::a6::a7::a8::a9::gm::iw::jl::kC::lN::pL::(x,e)::l) (a0::a1::a2::a3::a4::a5::a6::a7::a8::a9::gm::iw::jl::kC::lN::pL::(x,d)::l):=.there DY
theorem Iw{a0 a1 a2 a3 a4 a5 a6 a7 a8 a9 gm iw jl kC lN pL uv:Str×D}:aX x d (a0::a1::a2::a3::a4::a5::a6::a7::a8::a9::gm::iw::jl::kC::lN::pL::uv::(x,e)::l) (a0::a1::a2::a3::a4::a5::a6::a7::a8::a9::gm::iw::jl::kC::lN::pL::uv::(x,d)::l):=.there DZ
theorem Iz{a0 a1 a2 a3 a4 a5 a6 a7 a8 a9 gm iw jl kC lN pL uv z7:Str×D}:aX x d (a0::a1::a2::a3::a4::a5::a6::a7::a8::a9::gm::iw::jl::kC::lN::pL::uv::z7::(x,e)::l) (a0::a1::a2::a3::a4::a5::a6::a7::a8::a9::gm::iw::jl::kC::lN::pL::uv::z7::(x,d)::l):=.there Iw
theorem OE{a0 a1 a2 a3 a4 a5 a6 a7 a8 a9 gm iw jl kC lN pL uv z7 H7:Str×D}:aX x d (a0::a1::a2::a3::a4::a5::a6::a7::a8::a9::gm::iw::jl::kC::lN::pL::uv::z7::H7::(x,e)::l) (a0::a1::a2::a3::a4::a5::a6::a7::a8::a9::gm::iw::jl::kC::lN::pL::uv::z7::H7::(x,d)::l):=.there Iz
theorem OF{a0 a1 a2 a3 a4 a5 a6 a7 a8 a9 gm iw jl kC lN pL uv z7 H7 a19:Str×D}:aX x d (a0::a1::a2::a3::a4::a5::a6::a7::a8::a9::gm::iw::jl::kC::lN::pL::uv::z7::H7::a19::(x,e)::l) (a0::a1::a2::a3::a4::a5::a6::a7::a8::a9::gm::iw::jl::kC::lN::pL::uv::z7::H7::a19::(x,d)::l):=.there OE
theorem g4{t value:Ba}{n:Nat}(h:cR value=true):swapsWithSole [t] value n env=pure false:=by
 show swapsWith value (some t) n env=pure false
 exact dH h
theorem fT.up{a:ia}(S:Sc B env Γ Δ s)(h: @Zc Nat _ s.heap.objs.size a):fT B env Δ s a:=
 ⟨λb hb q=>Pc _ (Dc (q▸S.jH hb) h),λb o e q=>Pc _ (Dc (q▸Ub e) h),S.ED h⟩
theorem Sc.forget{x:Str}(S:Sc B env Γ Δ s)(t:aX x .un Γ Γ'):Sc B env Γ' Δ s:=
 S.weak (λp hp hu=>(t.cases S.nd p hp).elim (λe=>absurd (by rw[e]) hu) (·.2)) (t.names▸S.nd)
inductive d9(Γ:aa (Str×D)):aa (Str×D)→Prop
 |nil:d9 Γ []
 |un {x:Str} {l:aa (Str×D)}:d9 Γ l→d9 Γ ((x,.un)::l)
 |cons {p:Str×D} {l:aa (Str×D)}:p∈Γ→d9 Γ l→d9 Γ (p::l)
theorem d9.mem{Γ l:aa (Str×D)}(a:d9 Γ l):∀p∈l,p.2≠ .un→p∈Γ:=by
 induction a with
 |nil=>exactλp hp=>(nomatch hp)
 |un f ih=>exact Ve.mpr ⟨λhu=>absurd rfl hu,ih⟩
 |cons h f ih=>exact Ve.mpr ⟨λz_=>h,ih⟩
theorem Sc.Eo(S:Sc B env Γ Δ s)(f:d9 Γ Γ')(hn:Aa (pI (Γ'.map (·.1))=true) aK):Sc B env Γ' Δ s:=S.weak f.mem (bD hn)
theorem iI{x:Str}{pos' pos:Pos}{e:Ba}{ds:aa PyData}{rest:aa Va}{Q:Flow→za→Prop}(S:Sc B env Γ Δ s)(y:LC w A B env Γ Δ e ds)(t:aX x (.list ds) Γ Γ')(K:cG B env x)
  (hs:swapsWith e (some (.Name x pos')) pos.line env=pure true)
  (h:∀s',Sc B env Γ' Δ s'→Ex w A env rest Q E s')(hk:Aa (env.scope.kind=.function) aK):Ex w A env (.Assign [.Name x pos'] e pos::rest) Q E s:=by
 obtain⟨elt,gens,scope,p,rfl,y⟩:=y
 constructor
 refine Kc ?_
 refine(exec_Assign_Name_used _ _ _ _ hs ..).symm▸ ?_
 refine Ca (Ed ?_)
 show Ia (Md w) A (do(do let _←comprehension (.ListComp elt gens scope p) scope env (firstIterPos gens p) (newList []) (firstAsync gens) (firstIter gens env) (some (assign (.Name x pos') env));pure ());pure Flow.next) _ E s
 refine Ca (Ca (Pa (y s E (some (assign (.Name x pos') env)) (λz_ s'=>Ia (Md w) A (execs rest env) Q E s') S λs1 s' m vs k1 S1 k2 hm hl hr=> ?_) (λz_ s' q=>Ka (Ka q)) λz_ z_ z=>z))
 refine Ow (id hm) λoC z_ z_ NT z_=> ?_
 have fC:fT B env Δ s1 (s1.heap.objs.size+2):=fT.up S1 (Tc _ _)
 have SC:Sc B env Γ ((s1.heap.objs.size+2,.obj oC)::Δ) s':=S1.take k2 fC NT
 have Zw:De (XX B.Xo env ((s1.heap.objs.size+2,.obj oC)::Δ)) s'.heap (.ref (s1.heap.objs.size+1)) (.list ds):=by
  have key:∀b∈XX B.Xo env ((s1.heap.objs.size+2,.obj oC)::Δ),b∈XX B.Xo env Δ∨b=s1.heap.objs.size+2:=λb hb=>by
   rcases XX.cases hb with h|h|⟨y,h⟩|⟨m',h⟩
   ·exact .inl (XX.out h)
   ·exact .inl (h▸XX.loc)
   ·exact .inl (XX.cell h)
   ·rcases Za.mp h with h|h
    ·cases h;exact .inr rfl
    ·exact .inl (XX.own h)
  refine Rd.listAt (λhx=> ?_) hl (hr _ λb hb=> ?_)
  ·rcases key _ hx with h|h
   ·have: @Od Nat _ (s1.heap.objs.size+1) s1.heap.objs.size:=S1.jH h
    exact DI this
   ·have h: @Eq Nat (s1.heap.objs.size+1) (s1.heap.objs.size+2):=h
    exact SG h
  ·rcases key b hb with h|h
   ·exact .inl h
   ·right;rw[h];exact⟨Tc _ _,zb _⟩
 refine wpAny_assign_Name (SC.store t K Zw (λmT QZ k3=> ?_) hk)
 have hC:=QZ.get_own (p:=(s1.heap.objs.size+2,MO.obj oC)) La
 refine⟨m,?_,λh' AI=> ?_⟩
 ·exact hm.at' λo e=>by rw[NT]at e;cases e;exact hC
 ·exact(h _ (QZ.gone (tk:=mT.toks) λb o hb e=>(AI.2 b hb).trans e)).run
theorem gA{x:Str}{pos' pos:Pos}{e:Ba}{ds:aa PyData}{rest:aa Va}{Q:Flow→za→Prop}(S:Sc B env Γ Δ s)(y:LC w A B env Γ Δ e ds)(t:aX x (.list ds) Γ Γ')(K:cG B env x)
  (hs:env.kindOf x=some .cell)(h:∀s',Sc B env Γ' Δ s'→Ex w A env rest Q E s')(hk:Aa (env.scope.kind=.function) aK):Ex w A env (.Assign [.Name x pos'] e pos::rest) Q E s:=by
 constructor
 obtain⟨elt,gens,scope,p,rfl,y'⟩:=id y
 exact Kc (vh (y.ev.use S λv s1 k1 S1 r1=>S1.store t K r1 (λs' S' z_=>(h s' S').run) hk) (rN hs))
theorem rK{ts:aa Ba}{k}{tp pos:Pos}{value:Ba}{ds:aa PyData}{rest:aa Va}{Q:Flow→za→Prop}(hh:A.handled=none)(S:Sc B env Γ Δ s)(y:ao w A B env Γ Δ value (.tuple ds))(l:pn w A B env Δ ts ds Γ Γ')
  (h:∀s',Sc B env Γ' Δ s'→Ex w A env rest Q E s')
  (hs:Aa (cR value=true) aR)(hw:Aa (swappedStores [.Tuple ts k tp] value env=pure none) aR):
  Ex w A env (.Assign [.Tuple ts k tp] value pos::rest) Q E s:=
 ⟨Kc (Assign_Tuple (y.use S λv s1 k1 S1 r1=>(bY.tuple hh l).go s1 E v _ S1 r1 λs' S' z_=>(h s' S').run) (g4 hs) hw)⟩
theorem sG{names:aa Str}{ts:aa Ba}{k}{tp pos:Pos}{value:Ba}{ds:aa PyData}{rest:aa Va}{Q:Flow→za→Prop}(hh:A.handled=none)(S:Sc B env Γ Δ s)(y:ao w A B env Γ Δ value (.tuple ds))
  (hn:names.length=ds.length)(l:∀(s:za) (vs:aa qa) (Q:Unit→za→Prop),Sc B env Γ Δ s→aD (XX B.Xo env Δ) s.heap vs ds.reverse→(∀s',Sc B env Γ' Δ s'→Q () s')→Ia (Md w) A (assignInOrder (names.reverse.map λn=>bindName env n) vs) Q E s)
  (h:∀s',Sc B env Γ' Δ s'→Ex w A env rest Q E s')
  (hs:Aa (cR value=true) aR)(hw:Aa (swappedStores [.Tuple ts k tp] value env=pure (some names)) aR):Ex w A env (.Assign [.Tuple ts k tp] value pos::rest) Q E s:=
 ⟨Kc (Assign_Tuple_swapped (y.use S λv s1 k1 S1 r1=>by
  obtain⟨t,vs,rfl,ht,hl,hr⟩:=De.isTup r1
  rw[show names.length=vs.toArray.size by simp[hr.length,hn]]
  refine unpackItems_tuple hh hl λh' he=> ?_
  have k:Kp s1 {s1 with heap:=h'}:=⟨h',s1.toks,rfl,λb o e=>he b o (se (Ub e)) e⟩
  refine l _ _ _ (S1.upd k) ?_ λs' S'=>(h s' S').run
  have g:∀{vs:aa qa} {ds:aa PyData},aD (XX B.Xo env Δ) h' vs ds→∀{us:aa qa} {es:aa PyData},aD (XX B.Xo env Δ) h' us es→aD (XX B.Xo env Δ) h' (vs.reverseAux us) (ds.reverseAux es):=by
   intro vs
   induction vs with
   |nil=>intro ds r us es q;cases r;exact q
   |cons v vs ih=>intro ds r us es q;cases r with|cons a b=>exact ih b (.cons a q)
  exact g (hr.up k.up) .nil) (g4 hs) hw)⟩
inductive QF(B:Bx)(env:Env):aa Str→aa PyData→aa (Str×D)→aa (Str×D)→Prop
 |nil {G1:aa (Str×D)}:QF B env [] [] G1 G1
 |cons {x:Str} {xs:aa Str} {d:PyData} {ds:aa PyData} {G1 G2 G3:aa (Str×D)}:aX x (.dat d) G1 G2→cG B env x→QF B env xs ds G2 G3→QF B env (x::xs) (d::ds) G1 G3
theorem QF.run(hk:env.scope.kind=.function){xs:aa Str}{ds:aa PyData}{Γ Γ':aa (Str×D)}(a:QF B env xs ds Γ Γ'):∀{s:za} {vs:aa qa} {Q:Unit→za→Prop},Sc B env Γ Δ s→aD (XX B.Xo env Δ) s.heap vs ds→
  (∀s',Sc B env Γ' Δ s'→Q () s')→Ia (Md w) A (assignInOrder (xs.map λn=>bindName env n) vs) Q E s:=by
 induction a with
 |nil=>exactλ{s vs Q} S r h=>assignInOrder_nil (h s S)
 |cons t K l ih=>exactλ{s vs Q} S r h=>r.uc λv vs r1 r2=>assignInOrder_cons (bindName_ (S.store t K r1 (λs1 S1 k1=>ih S1 (r2.at λb o hb e=>.inr ⟨hb,k1 b o hb e⟩) h) hk))
theorem vF{names:aa Str}{ts:aa Ba}{k}{tp pos:Pos}{value:Ba}{ds:aa PyData}{rest:aa Va}{Q:Flow→za→Prop}(hh:A.handled=none)(S:Sc B env Γ Δ s)(y:ao w A B env Γ Δ value (.tuple ds))
  (hn:names.length=ds.length)(b:QF B env names.reverse ds.reverse Γ Γ')(h:∀s',Sc B env Γ' Δ s'→Ex w A env rest Q E s')
  (hw:swappedStores [.Tuple ts k tp] value env=pure (some names))(hs:Aa (cR value=true) aR)(hk:Aa (env.scope.kind=.function) aK):
  Ex w A env (.Assign [.Tuple ts k tp] value pos::rest) Q E s:=
 sG hh S y hn (λs vs Q S r h=>b.run hk S r h) h hs hw
open PySem.Builtin PySem.Builtin.Str
set_option backward.match.sparseCases false in
noncomputable def aax:Ba→Ga|.Call _ (_::_) _ _=>true|_=>false
noncomputable def aO(e:Ba):Ga:= !(e.ctorIdx==16)||aax e
theorem BK{f a:Ba}{as kw p}{attr:Str}{env:Env}{m:Sem qa}:attributeBase (.Call f (a::as) kw p) attr env m=m:=by
 cases f<;> exact Eq.refl m
theorem bU{o:Ba}{attr:Str}{env:Env}(h:aO o=true):attributeBase o attr env (eval o env)=eval o env:=by
 generalize eval o env=m
 cases o with
 |Call f as kw p=>cases as with
  |nil=>cases h
  |cons a as=>exact BK
 |_=>exact Eq.refl m
theorem ao.KQ{l r:Ba}{pos:Pos}{a b:Str}(x:ao w A B env Γ Δ l (.str a))(y:ao w A B env Γ Δ r (.str b))(hz:a.length+b.length≤Bb):ao w A B env Γ Δ (.BinOp l .Add r pos) (.str (a++b)):=
 x.bin y λz_ z_ s E z_ p q=>by obtain⟨_,rfl⟩:=p.iz;obtain⟨_,rfl⟩:=q.iz;exact PyProof.Rows.add_str (λt' tk=>⟨.tok ..,.str ..⟩) hz
theorem ao.GQ{o:Ba}{name:Str}{apos pos:Pos}{a b:Str}(x:ao w A B env Γ Δ o (.str a))
  (f:∀t s E Q,(∀t' tk,Q (.str b t') {s with toks:=tk})→MethodOnS pw w A E name (.str a t) pos [] Q s)
  (hb:Aa (aO o=true) aR)(hl:Aa ((apos.endLine==pos.line)=true) aR):ao w A B env Γ Δ (.Call (.Attribute o name apos) [] [] pos) (.str b):=.mk λs E S=>
 Call_method0 (bU hb) hl (x.use S λv s1 k1 S1 r1=>by
  refine r1.q8 λt=> ?_
  exact f t s1 E _ λt' tk=>⟨k1.trans' (.tok ..),.str ..⟩)
theorem ao.lower{o:Ba}{apos pos:Pos}{a:Str}(x:ao w A B env Γ Δ o (.str a))(hf:tooLong (Jb a).length=false)
  (hb:Aa (aO o=true) aR)(hl:Aa ((apos.endLine==pos.line)=true) aR):ao w A B env Γ Δ (.Call (.Attribute o (ya "lower") apos) [] [] pos) (.str (Jb a)):=
 x.GQ (λt s E Q h=>SB.lower hf (h _ _)) hb hl
theorem ao.upper{o:Ba}{apos pos:Pos}{a:Str}(x:ao w A B env Γ Δ o (.str a))(hf:tooLong (Txt.upper a).length=false)
  (hb:Aa (aO o=true) aR)(hl:Aa ((apos.endLine==pos.line)=true) aR):ao w A B env Γ Δ (.Call (.Attribute o (ya "upper") apos) [] [] pos) (.str (Txt.upper a)):=
 x.GQ (λt s E Q h=>SB.upper hf (h _ _)) hb hl
theorem aD.strs{X:aa ia}{h:Ja}{ts:aa Str}:∀{vs:aa qa},aD X h vs (ts.map .str)→∃l:aa (Str×Tok),vs=Wd l∧l.map (·.1)=ts:=by
 induction ts with
 |nil=>exactλr=>r.un ⟨[],rfl,rfl⟩
 |cons t ts ih=>exactλr=>r.uc λv vs x y=>De.q8 x λk=>let⟨l,e,e'⟩:=ih y;⟨(t,k)::l,Cc (_:: ·) e,Cc (t:: ·) e'⟩
theorem GZ{X:aa ia}{h:Ja}:∀{l:aa (Str×Tok)},aD X h (Wd l) ((l.map (·.1)).map .str)
 |[]=>.nil
 |(x,t)::l=>.cons (.str x t) GZ
theorem ao.join{o e:Ba}{apos pos:Pos}{a:Str}{ts:aa Str}(x:ao w A B env Γ Δ o (.str a))(y:ao w A B env Γ Δ e (.list (ts.map .str)))(hok:JoinOk a ts=true)
  (hb:Aa (aO o=true) aR)(hn:Aa (notStar e=true) aR)(hl:Aa ((apos.endLine==pos.line)=true) aR):ao w A B env Γ Δ (.Call (.Attribute o (ya "join") apos) [e] [] pos) (.str (Gf a ts)):=.mk λs E S=>
 Ug (bU hb) (by rw[aF _ _ _ hn];rfl) hl (x.use S λv s1 k1 S1 r1=>by
  refine r1.q8 λt=> ?_
  refine SB.join (y.use S1 λu s2 k2 S2 r2=> ?_)
  obtain⟨b,vs,rfl,hb,hL,hr⟩:=De.isList r2
  obtain⟨l,rfl,e⟩:=hr.strs
  exact⟨b,l,rfl,hL,ts,e,hok,λt' k=>⟨(k1.trans' k2).trans' (.tok ..),.str ..⟩⟩)
theorem ao.split{o e:Ba}{apos pos:Pos}{a b:Str}(x:ao w A B env Γ Δ o (.str a))(y:ao w A B env Γ Δ e (.str b))(hy:(b.length==0)=false)(hx:a.length≤Bb)(hn:(partsBetween a (Gg a b 0 a.length (a.length+1)) b.length).length≤Bb)
  (hb:Aa (aO o=true) aR)(yF:Aa (notStar e=true) aR)(hl:Aa ((apos.endLine==pos.line)=true) aR):ao w A B env Γ Δ (.Call (.Attribute o (ya "split") apos) [e] [] pos) (.list ((pg a b).map .str)):=.mk λs E S=>
 Ug (bU hb) (by rw[aF _ _ _ yF];rfl) hl (x.use S λv s1 k1 S1 r1=>by
  refine r1.q8 λt=> ?_
  refine⟨"str",_,F.plainAttrs_str,F.slot_str_split,F.type_str_split,typeIs_str _ _ _,(λz_ e=>nomatch e),
   method1_meets F.slot_str_split F.entry_str_split (y.use S1 λv s2 k2 S2 r2=> ?_)⟩
  refine r2.q8 λu=> ?_
  have fin:∀(l:aa (Str×Tok)) tk,l.map (·.1)=pg a b→Kp s {s2 with heap:=s2.heap.push {cls:=.type "list",data:=.seq (Wd l).toArray},toks:=tk}∧
    De (XX B.Xo env Δ) (s2.heap.push {cls:=.type "list",data:=.seq (Wd l).toArray}) (.ref s2.heap.objs.size) (.list ((pg a b).map .str)):=λl tk e=>
   ⟨(k1.trans' k2).trans' (.oV ..),e▸Rd.j8 S2.fresh (by simpa using GZ)⟩
  refine⟨typeIs_str _ _ _,F.args_str_split_2 _ _,?_⟩
  cases h1:(decide (a.length<b.length)||decide (strKind a<strKind b))
  ·cases hf:(Gg a b 0 a.length (a.length+1)).isEmpty
   ·refine⟨_,meets_str_split_sep a b t u h1 hy hf hx hn,?_⟩
    show wants _ E _ {s2 with toks:=_,heap:=s2.heap.push {cls:=.type "list",data:=.seq (strsFrom s2.toks (partsBetween a (Gg a b 0 a.length (a.length+1)) b.length)).toArray}}
    refine(strsFrom_eq ..).symm▸ ?_
    exact fin (numbered s2.toks _) _ ((numbered_texts _ _).trans ((if_neg (Yj h1)).trans (if_neg (Yj hf))).symm)
   ·exact⟨_,meets_str_split_not_found a b t u h1 hy hf,fin [(a,t)] _ ((if_neg (Yj h1)).trans (if_pos hf)).symm⟩
  ·exact⟨_,meets_str_split_cannot_occur a b t u h1,fin [(a,t)] _ (if_pos h1).symm⟩)
theorem k9.args{pos:Pos}{g:qa}{es:aa Ba}{ds:aa PyData}(xs:k9 w A B env Γ Δ es ds)(S:Sc B env Γ Δ s):Ia (Md w) A (evalArgs g true (backTo pos (Rb es env)) []) (λa s'=>a.kw=[]∧Kp s s'∧aD (XX B.Xo env Δ) s'.heap a.pos ds) E s:=by
 cases xs with
 |nil=>exact evalArgs_nil3 ⟨rfl,.bN _,.nil⟩
 |cons x y h=>
  have r:=(k9.cons x y h).run (pos:=pos) (E:=E) S
  rw[aF _ _ _ h]at r⊢
  exact Ji (Pa r (λvs s2 q=>⟨rfl,q.1,q.2⟩) λz_ z_ z=>z)
theorem ao.YM{x:Str}{p pos:Pos}{es:aa Ba}{ds:aa PyData}{d:D}{f:ia}{o:Obj}{fd:Vc}(hf:ao w A B env Γ Δ (.Name x p) (.val (.ref f)))(xs:k9 w A B env Γ Δ es ds)
  (ho:B.s0.heap.get? f=some o)(hd:o.data=.func fd)
  (hc:∀vs s E,Sc B env Γ Δ s→aD (XX B.Xo env Δ) s.heap vs ds→Ia (Md w) A (Ic (.ref f) vs) (λv s'=>Kp s s'∧De (XX B.Xo env Δ) s'.heap v d) E s):ao w A B env Γ Δ (.Call (.Name x p) es [] pos) d:=.mk λs E S=>by
 refine Ke rfl (hf.use S λv s1 k1 S1 r1=> ?_)
 obtain rfl:v=.ref f:=r1
 refine uh (o:=o) (fd:=fd) (Pa (xs.args S1) (λa s2 q=> ?_) λz_ z_ z=>z)
 obtain⟨vs,kw⟩:=a
 refine yI q λq0 q1 q2=> ?_
 dsimp only at q0 q2
 subst q0
 refine⟨⟨(S1.upd q1).kp.up _ _ ho,hd⟩,?_⟩
 exact Pa (hc vs s2 E (S1.upd q1) q2) (λv s3 q3=>⟨(k1.trans' q1).trans' q3.1,q3.2⟩) λz_ z_ z=>z
theorem Lo{e:Ba}{pos:Pos}{rest:aa Va}{d:D}{Q:Flow→za→Prop}(S:Sc B env Γ Δ s)(x:ao w A B env Γ Δ e d)(hd:∀X h v,De X h v d→∀a,v≠ .ref a)
  (h:∀s',Sc B env Γ Δ s'→Ex w A env rest Q E s')(hi:Aa (interactive env=false) aK)(hs:Aa (cR e=true) aR):Ex w A env (.Expr e pos::rest) Q E s:=
 ⟨Kc (wpAny_Expr (x.use S λv s1 k1 S1 r1=>by
  have:=hd _ _ _ r1
  cases v<;> first|exact(h s1 S1).run|exact absurd rfl (this _)) hi (dH hs))⟩
theorem cV{x:Str}{k}{p pos:Pos}{rest:aa Va}{Q:Flow→za→Prop}(S:Sc B env Γ Δ s)(h:∀s',Sc B env Γ Δ s'→Ex w A env rest Q E s')(hi:Aa (interactive env=false) aK):
  Ex w A env (.Expr (.Constant (.str x) k p) pos::rest) Q E s:=
 Lo S ao.gu (λX h v r a=>by obtain⟨t,rfl⟩:=De.iz r;intro q;cases q) h hi
noncomputable def blank(a:ia)(s:za):za:={s with heap:=s.heap.update a λz_=>⟨.none,none,.freed,#[]⟩}
theorem qt(a:ia)(s:za):(blank a s).heap.objs.size=s.heap.objs.size:=by
 show(s.heap.update a _).objs.size=_
 obtain⟨⟨o,l⟩,_,_,_,_⟩:=s
 simp[Ja.update]
theorem jq(a:ia)(s:za):(blank a s).heap.get? a=none:=by
 obtain⟨⟨o,l⟩,_,_,_,_⟩:=s
 show(match(o.modify a λz_=>⟨.none,none,.freed,#[]⟩)[a]? with|some ⟨_,_,.freed,_⟩=>none|o=>o)=none
 rw[Ua.getElem?_modify,if_pos rfl]
 cases o[a]? <;> rfl
theorem bV{a b:ia}(s:za)(h:b≠a):(blank a s).heap.get? b=s.heap.get? b:=(Pf _ _ _).2 b h
theorem lQ(a:ia)(s:za):Kp (blank a s) s:=⟨s.heap,s.toks,rfl,λb o e=>by
 by_cases h:b=a
 ·subst h;rw[jq]at e;cases e
 ·rw[bV s h]at e;exact e⟩
theorem qP{a:ia}{s s':za}(k:Kp (blank a s) s'):(∃h' tk,s'={s with heap:=h',toks:=tk})∧∀b o,b≠a→s.heap.get? b=some o→s'.heap.get? b=some o:=by
 obtain⟨h',tk,rfl,u⟩:=k
 exact⟨⟨h',tk,rfl⟩,λb o hb e=>u b o ((bV s hb).trans e)⟩
noncomputable def KK(w:Oa)(ds:ia→qa)(d:qa):Frag:=KO w.params d++KF ds
theorem qX{α:Type}:∀{l r:aa (ia×α)} {n:ia},(l++r).lookup n=(l.lookup n).or (r.lookup n)
 |[],r,n=>by simp
 |(k,v)::l,r,n=>by
  rw[Hg,Df,Df]
  cases n==k with
  |true=>simp
  |false=>exact qX
theorem aW.kk{w:Oa}{ds:ia→qa}{d:qa}{h:Ja}(G:aW w ds d h):(KK w ds d).In h:=λa o e=>by
 unfold KK at e
 rw[qX]at e
 cases h1:(KO w.params d).lookup a with
 |some o1=>rw[h1]at e;cases e;exact G.ko _ _ h1
 |none=>rw[h1]at e;exact G.kf _ _ (by simpa using e)
structure fD(K:Frag)(C:ia):Prop where
 ga:findIn K (.ref C) "__getattribute__"=some (some (.builtin "object.__getattribute__"))
 gt:findIn K (.ref C) "__getattr__"=some none
 sa:findIn K (.ref C) "__setattr__"=some (some (.builtin "object.__setattr__"))
 over:plainOver K C=true
 Y9:(clsIn K C).any (·.hasDict)=true
 keep:keepIn K (.ref C)=true
 makes:makesIn K C=true
theorem gr(w:Oa)(ds:ia→qa)(d:qa):fD (KK w ds d) 259:=⟨by kernel_rfl,by kernel_rfl,by kernel_rfl,by kernel_rfl,by kernel_rfl,by kernel_rfl,by kernel_rfl⟩
theorem pM(w:Oa)(ds:ia→qa)(d:qa):fD (KK w ds d) 287:=⟨by kernel_rfl,by kernel_rfl,by kernel_rfl,by kernel_rfl,by kernel_rfl,by kernel_rfl,by kernel_rfl⟩
theorem bu(w:Oa)(ds:ia→qa)(d:qa):fD (KK w ds d) 466:=⟨by kernel_rfl,by kernel_rfl,by kernel_rfl,by kernel_rfl,by kernel_rfl,by kernel_rfl,by kernel_rfl⟩
theorem tM{h:Ja}{dx:ia}{mm:Str→Ma qa}(hn:h.Ns dx mm)(name:Str):∃o,h.get? dx=some o∧lookIn name o=some (mm name):=by
 refine pU hn λo es ep ho hd hk hf=> ?_
 refine⟨o,ho,?_⟩
 unfold lookIn
 refine(hd ..).symm▸ ?_
 dsimp only
 refine(hf name ..)▸ ?_
 have hr:es.toList.any (·.refKey)=false:=by
  rw[Xh]
  intro e he
  refine xEE (hk e (by simpa using he)) λn t hkk=> ?_
  simp[DictEntry.refKey,hkk]
 refine(hr ..).symm▸ ?_
 unfold nsFind findBy
 refine(Ua.find?_toList ..)▸ ?_
 cases es.toList.find? λe=>e.key.isStr name<;> rfl
end
section
variable{w:Oa}{A:Xa}{s:za}{aG:ia→qa}{d0:qa}{E:qa→za→Prop}{x dx C:ia}{mm:Str→Ma qa}
theorem uL(hx:s.heap.get? x=some (instObj C dx))(hn:s.heap.Ns dx mm):∃o,InstAt s.heap x (instObj C dx) C (some o)∧∀name,lookIn name o=some (mm name):=by
 refine bE (tM hn (ya "")) λo ho z_=> ?_
 refine⟨o,⟨hx,rfl,rfl,ho⟩,λname=> ?_⟩
 refine bE (tM hn name) λo' nL h=> ?_
 rw[ho]at nL;cases nL;exact h
theorem xm{name:Str}{v:qa}{Q:qa→za→Prop}(G:aW w aG d0 s.heap)(ok:fD (KK w aG d0) C)(hx:s.heap.get? x=some (instObj C dx))(hn:s.heap.Ns dx mm)(hm:mm name=some v)(hv:handedIn v=true)
  (h:Q v {s with toks:=s.toks+1})(hc:Aa (findIn (KK w aG d0) (.ref C) name=some none) aK):Ia (Md w) A (getAttr (.ref x) name true) Q E s:=by
 refine bE (uL hx hn) λo I hl=> ?_
 refine get_value G.kk I ok.ga ?_ hv h
 refine bE (any_some ok.Y9) λcd oR hd=> ?_
 unfold findObj
 refine(oR ..).symm▸(cj ..).symm▸(hc ..).symm▸(cj ..).symm▸(cj ..).symm▸(cj ..).symm▸ ?_
 dsimp only
 unfold W.ownOf
 rw[hd,if_pos rfl]
 dsimp only
 refine(hl ..).symm▸(hm ..).symm▸ ?_
 rfl
theorem kG{name:Str}{f:ia}{pl:Sem Ga}{Q:qa×aa qa→za→Prop}(G:aW w aG d0 s.heap)(ok:fD (KK w aG d0) C)(hx:s.heap.get? x=some (instObj C dx))(hn:s.heap.Ns dx mm)(hm:mm name=none)
  (h:Q (.ref f,[.ref x]) s)(hf:Aa (findIn (KK w aG d0) (.ref C) name=some (some (.ref f))) aK)(ht:Aa (typeIn (KK w aG d0) (.ref f)=some (.type "function")) aK):Ia (Md w) A (getMethod (.ref x) name pl) Q E s:=by
 refine bE (uL hx hn) λo I hl=> ?_
 refine method_fn G.kk I ok.ga ok.gt hf ht ?_ h
 unfold shadowIn
 dsimp only
 rw[hl,hm];rfl
theorem BC.put{M:Model}{a:ia}{m:Str→Ma qa}{k:Nat}{name:Str}{v:qa}{Q:Unit→za→Prop}(hn:BC s.heap a m k)(HH:k≤1000)
  (h:∀h' o,BC h' a (λx=>if x=name then some v else m x) (k+1)→ve a s.heap h'→h'.get? a=some o→o.data.pastItsLine=none→Q () {s with heap:=h',toks:=s.toks+1}):Ia M A (nsSet a name v) Q E s:=λΓ p z_=>by
 obtain⟨o,es,ep,ho,hd,hk,hm,hz⟩:=hn
 simp only[nsSet,strHash,Sem.wp_bind',Sem.wp_cmd_ask,Sem.wp_pure',Sem.wp_cmd_mkText]
 refine(Sem.wp_loadPart_of M Γ _ p {s with toks:=s.toks+1} (o:=o) _ ho ..).symm▸ ?_
 have wX:es.any (·.refKey)=false:=by
  rw[Ua.any_eq_false'];intro e he;obtain⟨n,t,h⟩:=hk e he;simp[DictEntry.refKey,h]
 simp only[hd,aRefKeyMayBeTheName_eq,aRefKeyMayBeTheNameByArray,wX,Ij,wg,yg,Sem.wp_cmd_updatePart]
 obtain⟨c,d,dt,sl⟩:=o
 subst hd
 cases hi:es.findIdx? (·.key.isStr name)with
 |some i=>
  refine⟨by rw[ho];rfl,h _ _ ⟨_,_,ep,lg _ ho (by simp only[Eg,Lg,hi];rfl),by simp only[Eg,Lg,hi];rfl,hk.modify _ _,λx=> ?_,by simp;exact Mg hz⟩ (Pf ..) (lg _ ho (by simp only[Eg,Lg,hi];rfl)) ?_⟩
  ·show _=if x=name then some v else m x
   rw[←hm];exact findBy_modify (λn v=>v.isStr n) qa.isStr_inj es name x v i hi
  ·simp only[Eg,Lg,hi]
   exact pastItsLine_dict (by rw[sizeLine_eq];simp;exact Na hz (Na HH (by decide)))
 |none=>
  refine⟨by rw[ho];rfl,h _ _ ⟨_,_,ep+1,lg _ ho (by simp only[Eg,Lg,hi];rfl),by simp only[Eg,Lg,hi];rfl,hk.push _ _ _ _,λx=> ?_,by simp;omega⟩ (Pf ..) (lg _ ho (by simp only[Eg,Lg,hi];rfl)) ?_⟩
  ·show _=if x=name then some v else m x
   refine(hm ..)▸ ?_
   exact findBy_push (λn v=>v.isStr n) es name x _ _ v (λy=>by
    show(name==y)=decide (y=name)
    by_cases q:y=name
    ·subst q;simp
    ·have:¬name=y:=λe=>q e.symm
     simp[q,this]) hi
  ·simp only[Eg,Lg,hi]
   exact pastItsLine_dict (by rw[sizeLine_eq];simp;exact Na hz (Na HH (by decide)))
theorem xq{name:Str}{v:qa}{Q:Unit→za→Prop}(G:aW w aG d0 s.heap)(ok:fD (KK w aG d0) C)(hx:s.heap.get? x=some (instObj C dx)){k:Nat}(hn:BC s.heap dx mm k)(HH:k≤1000)
  (h:∀h' tk,BC h' dx (λy=>if y=name then some v else mm y) (k+1)→ve dx s.heap h'→Q () {s with heap:=h',toks:=tk})(ht:Aa (takerIn (KK w aG d0) C name=some none) aK):Ia (Md w) A (setAttr (.ref x) name v) Q E s:=by
 refine bE (uL hx hn.ns) λo I hl=> ?_
 refine set_plain G.kk I ok.sa ?_
 refine osa_open (s:={s with toks:=s.toks+1}) G.kk I ok.over ht λb=> ?_
 refine bE (any_some ok.Y9) λcd oR hd=> ?_
 have hx':({s with toks:=s.toks+1}:za).heap.get? x=some (instObj C dx):=hx
 have Jy:BC ({s with toks:=s.toks+1}:za).heap dx mm k:=hn
 refine Ca (Ka (Ca (Ca (wpAny_loadPart hx' (Ca (looks_clsIn G.kk oR _ _ _ _ (λz_ z_ e=>e) ?_))))))
 refine(hd ..).symm▸ ?_
 refine Ka (a:=some dx) (Ca (Ka (Ca ?_)))
 exact BC.put Jy HH λh' o yF hs ho hp=>Ca (wpAny_lookBehind ho hp (Ka (h h' _ yF hs)))
noncomputable def fO(C dx:ia):dW where
 P X h v:=∃x,v=.ref x∧x∉X∧h.get? x=some (instObj C dx)
 keep k:=λ⟨x,e,hx,hg⟩=>⟨x,e,hx,k _ _ hx hg⟩
 more k:=λ⟨x,e,hx,hg⟩=>⟨x,e,k _ _ hx hg,hg⟩
noncomputable def fU(C:ia)(attrs:aa (Str×D)):dW where
 P X h v:=∃x dx mm,v=.ref x∧x∉X∧dx∉X∧h.get? x=some (instObj C dx)∧h.Ns dx mm∧Holds X h mm attrs
 keep k:=λ⟨x,dx,mm,e,hx,hd,hg,hn,hh⟩=>⟨x,dx,mm,e,hx,hd,k _ _ hx hg,hn.at' λo e=>k _ o hd e,hh.keep k⟩
 more k:=λ⟨x,dx,mm,e,hx,hd,hg,hn,hh⟩=>⟨x,dx,mm,e,k _ _ hx hg,(by obtain⟨o,es,ep,ho,_⟩:=id hn;exact k _ _ hd ho),hg,hn,hh.more k⟩
noncomputable def HD(d:D):Prop:=∀X h v,De X h v d→handedIn v=true
theorem HD.dat{d:PyData}:HD (.dat d):=λX h v x=>by
 have x:Rd X h v d:=x
 cases x<;> rfl
theorem HD.ref{a:ia}:HD (.val (.ref a)):=λX h v x=>by
 obtain rfl:v=.ref a:=x
 rfl
theorem HD.inst{C:ia}{l:aa (Str×D)}:HD (.known (fU C l)):=λX h v x=>by
 obtain⟨x,dx,mm,rfl,_⟩:=x
 rfl
theorem Holds.Kz{X:aa ia}{h:Ja}{mm:Str→Ma qa}{l:aa (Str×D)}{x:Str}{v:qa}{d:D}(hh:Holds X h mm l)(hx:x∉l.map (·.1))(hv:De X h v d):Holds X h (λy=>if y=x then some v else mm y) ((x,d)::l) where
 off n hn:=by
  simp only[Ib,Za,not_or]at hn
  simp[hn.1,hh.off n hn.2]
 has p hp:=by
  rcases Za.mp hp with rfl|hp
  ·exact⟨v,by simp,hv⟩
  ·refine bE (hh.has p hp) λu e hu=> ?_
   refine⟨u,?_,hu⟩
   have:p.1≠x:=λq=>hx (q▸jd (f:=(·.1)) hp)
   simp[this,e]
theorem Holds.KA{X:aa ia}{h:Ja}{mm:Str→Ma qa}{l l':aa (Str×D)}{x:Str}{v:qa}{d:D}(hh:Holds X h mm l)(t:aX x d l l')(nd:(l.map (·.1)).Nodup)(hv:De X h v d):Holds X h (λy=>if y=x then some v else mm y) l' where
 off n hn:=by
  rw[t.names]at hn
  have:n≠x:=λq=>hn (q▸t.mem)
  simp[this,hh.off n hn]
 has p hp:=by
  rcases t.cases nd p hp with rfl|⟨g9,hp⟩
  ·exact⟨v,by simp,hv⟩
  ·refine bE (hh.has p hp) λu e hu=> ?_
   exact⟨u,by simp[g9,e],hu⟩
inductive pX(x:Str)(d:D):aa (Str×D)→aa (Str×D)→Prop
 |new {l:aa (Str×D)} (h:Aa (pI (x::l.map (·.1))=true) aK):pX x d l ((x,d)::l)
 |set {l l':aa (Str×D)} (t:aX x d l l') (h:Aa (pI (l.map (·.1))=true) aK):pX x d l l'
theorem pX.put{X:aa ia}{h:Ja}{mm:Str→Ma qa}{l l':aa (Str×D)}{x:Str}{v:qa}{d:D}(p:pX x d l l')(hh:Holds X h mm l)(hv:De X h v d):Holds X h (λy=>if y=x then some v else mm y) l':=by
 cases p with
 |new h=>exact hh.Kz (Pd.mp (bD h)).1 hv
 |set t h=>exact hh.KA t (bD h) hv
variable{B:Bx}{s':za}{env:Env}{Γ Γ':aa (Str×D)}{Δ Δ':aa (ia×MO)}
theorem ao.attr{n attr:Str}{np pos:Pos}{l:aa (Str×D)}{d:D}(x:ao w A B env Γ Δ (.Name n np) (.known (fU C l)))(G:aW w aG d0 B.s0.heap)(ok:fD (KK w aG d0) C)(hm:(attr,d)∈l)(hd:HD d)
  (hc:Aa (findIn (KK w aG d0) (.ref C) attr=some none) aK):ao w A B env Γ Δ (.Attribute (.Name n np) attr pos) d:=.mk λs E S=>
 Attribute_name (x.use S λv s1 k1 S1 r1=>by
  obtain⟨x,dx,mm,rfl,hx,su,hg,hn,hh⟩:=r1
  refine bE (hh.has _ hm) λu e hu=> ?_
  exact xm (S1.g8 G) ok hg hn e (hd _ _ _ hu) ⟨k1.trans' (.tok ..),hu.up (Kp.tok s1 _).up⟩ hc)
theorem ao.attrL{n attr:Str}{np pos:Pos}{dx:ia}{l:aa (Str×D)}{k:Nat}{d:D}(x:ao w A B env Γ Δ (.Name n np) (.known (fO C dx)))(hΔ:(dx,MO.attrs l k)∈Δ)(G:aW w aG d0 B.s0.heap)(ok:fD (KK w aG d0) C)(hm:(attr,d)∈l)(hd:HD d)
  (hc:Aa (findIn (KK w aG d0) (.ref C) attr=some none) aK):ao w A B env Γ Δ (.Attribute (.Name n np) attr pos) d:=.mk λs E S=>
 Attribute_name (x.use S λv s1 k1 S1 r1=>by
  obtain⟨x,rfl,hx,hg⟩:=r1
  refine bE (S1.get_own hΔ) λmm hn hh=> ?_
  refine bE (hh.has _ hm) λu e hu=> ?_
  exact xm (S1.g8 G) ok hg hn.ns e (hd _ _ _ hu) ⟨k1.trans' (.tok ..),hu.up (Kp.tok s1 _).up⟩ hc)
theorem Sc.setAttr(S:Sc B env Γ Δ s){attr:Str}{x dx:ia}{l l':aa (Str×D)}{k:Nat}{d:D}{v:qa}{Q:Unit→za→Prop}(G:aW w aG d0 B.s0.heap)(ok:fD (KK w aG d0) C)(hg:s.heap.get? x=some (instObj C dx))(o:bw dx (.attrs l k) (.attrs l' (k+1)) Δ Δ')(p:pX attr d l l')(hk:k≤1000)
  (hv:De (XX B.Xo env Δ) s.heap v d)(h:∀s',Sc B env Γ Δ' s'→Q () s')(ht:Aa (takerIn (KK w aG d0) C attr=some none) aK):Ia (Md w) A (PySem.setAttr (.ref x) attr v) Q E s:=by
 refine bE (S.get_own o.mem) λmm hn hh=> ?_
 refine xq (S.g8 G) ok hg hn hk (λh' tk Jy hs=>h _ (S.set_own o (λb ob hb e=>(hs.2 b hb).trans e) ⟨_,Jy,?_⟩)) ht
 exact(p.put hh hv).keep λb ob hb e=>(hs.2 b λq=>hb (by rw[q];exact XX.own o.mem)).trans e
theorem dU{n attr:Str}{np pos' pos:Pos}{value:Ba}{dx:ia}{l l':aa (Str×D)}{k:Nat}{d:D}{rest:aa Va}{Q:Flow→za→Prop}(S:Sc B env Γ Δ s)(hv:ao w A B env Γ Δ value d)(hx:ao w A B env Γ Δ (.Name n np) (.known (fO C dx)))
  (G:aW w aG d0 B.s0.heap)(ok:fD (KK w aG d0) C)(o:bw dx (.attrs l k) (.attrs l' (k+1)) Δ Δ')(p:pX attr d l l')(hk:k≤1000)(h:∀s',Sc B env Γ Δ' s'→Ex w A env rest Q E s')
  (ht:Aa (takerIn (KK w aG d0) C attr=some none) aK)(hs:Aa (cR value=true) aR):Ex w A env (.Assign [.Attribute (.Name n np) attr pos'] value pos::rest) Q E s:=
 ⟨Kc (plainObj_wpAny_Assign_Attribute (hv.use S λv s1 k1 S1 r1=>hx.use S1 λu s2 k2 S2 r2=>by
  obtain⟨x,rfl,hx,hg⟩:=r2
  exact S2.setAttr G ok hg o p hk (r1.up k2.up) (λs' S'=>(h s' S').run) ht) (dH hs))⟩
theorem De.sub{X Y:aa ia}{h:Ja}{v:qa}{d:D}(x:De X h v d)(k:∀b,b∈Y→b∈X):De Y h v d:=x.more λb o hb z_ hy=>hb (k b hy)
theorem MO.At.sub{X Y:aa ia}{h:Ja}{a:ia}{m:MO}(x:m.At X h a)(k:∀b,b∈Y→b∈X):m.At Y h a:=x.more λb o hb z_ hy=>hb (k b hy)
theorem b5.sub{X Y:aa ia}{h:Ja}{bs:aa (Str×qa)}{Γ:aa (Str×D)}(a:b5 X h bs Γ)(k:∀b,b∈Y→b∈X):b5 Y h bs Γ:=by
 induction a with
 |nil=>exact .nil
 |cons a r ih=>exact .cons (a.sub k) ih
noncomputable def but(l:ia)(X:aa ia):aa ia:=X.filter λb=> !decide (b=l)
theorem gw{l b:ia}{X:aa ia}:b∈but l X↔b∈X∧b≠l:=by simp[but]
theorem qq{s s':za}(k:Kp s s')(l:ia):Kp (blank l s) (blank l s'):=by
 have u:=k.up
 obtain⟨h',tk,rfl,_⟩:=k
 refine⟨_,tk,rfl,λb o e=> ?_⟩
 by_cases q:b=l
 ·rw[q,jq]at e;cases e
 ·rw[bV _ q]at e
  show(blank l {s with heap:=h',toks:=tk}).heap.get? b=some o
  refine(bV _ q ..).symm▸ ?_
  exact u b o e
theorem oM{w:Oa}{A:Xa}{sp s:za}{f l:ia}{m m':MO}{fd:Vc}{body:aa Va}{vs:aa qa}{kw:aa (Str×qa)}{binds:aa (Str×qa)}{E:qa→za→Prop}{X:aa ia}{Γa Γ0:aa (Str×D)}{d:D}{k:Nat}
  (ac:Ac A (k+1))(jR:s.heap.NoLimit)(hks:Kp sp s)(ho:sp.heap.get? f=some ⟨.type "function",none,.func fd,#[]⟩)(oR:sp.heap.CodeRec fd.code fd.qualname)(iV:fd.body=.stmts body)(iU:∀(M:Model) (A:Xa) (E:qa→za→Prop) (Q:aa (Str×qa)→za→Prop),Q binds s→Ia M A (bindArgs fd ⟨vs,kw⟩) Q E sp)
  (hX:∀a∈X,a<s.heap.objs.size)(hl:l∈X)(hm:m.At X s.heap l)(ar:b5 X s.heap binds Γa)(hΓ:∀p∈Γ0,p.2≠ .un→p∈Γa)
  (h:∀(B:Bx) (A':Xa) (L:ia) (R:Flow→za→Prop) (s1:za) (E':qa→za→Prop),B.s0=blank l s→B.s0.heap.objs.size≤L→Sc B (Cb fd L f) Γ0 [(l,m)] s1→Ac A' k→
   (∀fl s' Γ1,Sc B (Cb fd L f) Γ1 [(l,m')] s'→De (XX B.Xo (Cb fd L f) [(l,m')]) s'.heap (CE fl) d→R fl s')→Ex w A' (Cb fd L f) body R E' s1)
  (hn:Aa (pI (Γ0.map (·.1))=true) aK)(hb:Aa (yS fd (binds.map (·.1))=true) aK):
  wc (Md w) A (.call (.ref f) ⟨vs,kw⟩) (λr s'=>match r with|.ok (.ret v)=>Kp (blank l sp) s'∧m'.At X s'.heap l∧De X s'.heap v d|.ok _=>gc|.error e=>E e s') sp:=by
 have k1:∀b,b∈but l X++[(l,m)].map (·.1)→b∈X:=λb hb=>by
  rcases zc.mp hb with h|h
  ·exact(gw.mp h).1
  ·rw[Vb.mp h];exact hl
 refine qB (Q:=λv s'=>Kp (blank l sp) s'∧m'.At X s'.heap l∧De X s'.heap v d) (s0:=blank l s) (X:=but l X) (Γ0:=Γ0) (Δ0:=[(l,m)]) ac jR ho oR iV iU (lQ l s) (qt l s) (λa ha=>hX a (gw.mp ha).1) (λp hp=> ?_) (by simp) (ar.sub k1) hΓ (λB A' L R s1 E' hs hx hL S1 eO fin=>h B A' L R s1 E' hs hL S1 eO λfl s' Γ1 S' r=>fin fl s' ?_) hn hb
 ·refine(Vb.mp hp ..).symm▸ ?_
  exact⟨jq l s,λh=>(gw.mp h).2 rfl,hm.sub k1⟩
 ·have k2:∀b,b∈X→b∈XX B.Xo (Cb fd L f) [(l,m')]:=λb hb=>by
   by_cases e:b=l
   ·rw[e];exact XX.own (p:=(l,m')) La
   ·exact XX.out (hx▸gw.mpr ⟨hb,e⟩)
  exact⟨(qq hks l).trans' (hs▸S'.kp),(S'.get_own (p:=(l,m')) La).sub k2,r.sub k2⟩
theorem jt{w:Oa}{A:Xa}{s:za}{f l:ia}{m m':MO}{fd:Vc}{body:aa Va}{vs:aa qa}{kw:aa (Str×qa)}{binds:aa (Str×qa)}{E:qa→za→Prop}{X:aa ia}{Γa Γ0:aa (Str×D)}{d:D}{k:Nat}
  (ac:Ac A (k+1))(jR:s.heap.NoLimit)(ho:s.heap.get? f=some ⟨.type "function",none,.func fd,#[]⟩)(oR:s.heap.CodeRec fd.code fd.qualname)(iV:fd.body=.stmts body)(iU:BindsTo s fd ⟨vs,kw⟩ binds)
  (hX:∀a∈X,a<s.heap.objs.size)(hl:l∈X)(hm:m.At X s.heap l)(ar:b5 X s.heap binds Γa)(hΓ:∀p∈Γ0,p.2≠ .un→p∈Γa)
  (h:∀(B:Bx) (A':Xa) (L:ia) (R:Flow→za→Prop) (s1:za) (E':qa→za→Prop),B.s0=blank l s→B.s0.heap.objs.size≤L→Sc B (Cb fd L f) Γ0 [(l,m)] s1→Ac A' k→
   (∀fl s' Γ1,Sc B (Cb fd L f) Γ1 [(l,m')] s'→De (XX B.Xo (Cb fd L f) [(l,m')]) s'.heap (CE fl) d→R fl s')→Ex w A' (Cb fd L f) body R E' s1)
  (hn:Aa (pI (Γ0.map (·.1))=true) aK)(hb:Aa (yS fd (binds.map (·.1))=true) aK):
  wc (Md w) A (.call (.ref f) ⟨vs,kw⟩) (λr s'=>match r with|.ok (.ret v)=>Kp (blank l s) s'∧m'.At X s'.heap l∧De X s'.heap v d|.ok _=>gc|.error e=>E e s') s:=
 oM ac jR (.bN _) ho oR iV (λM A E Q h=>iU M A E Q h) hX hl hm ar hΓ h hn hb
theorem iO{w:Oa}{A:Xa}{s:za}{f l:ia}{m m':MO}{fd:Vc}{body:aa Va}{vs:aa qa}{kw:aa (Str×qa)}{binds:aa (Str×qa)}{E:qa→za→Prop}{X:aa ia}{Γa Γ0:aa (Str×D)}{d:D}{k:Nat}
  (ac:Ac A (k+1))(jR:s.heap.NoLimit)(ho:s.heap.get? f=some ⟨.type "function",none,.func fd,#[]⟩)(oR:s.heap.CodeRec fd.code fd.qualname)(iV:fd.body=.stmts body)(iU:BindsTo s fd ⟨vs,kw⟩ binds)
  (hX:∀a∈X,a<s.heap.objs.size)(hl:l∈X)(hm:m.At X s.heap l)(ar:b5 X s.heap binds Γa)(hΓ:∀p∈Γ0,p.2≠ .un→p∈Γa)
  (h:∀(B:Bx) (A':Xa) (L:ia) (R:Flow→za→Prop) (s1:za) (E':qa→za→Prop),B.s0=blank l s→B.s0.heap.objs.size≤L→Sc B (Cb fd L f) Γ0 [(l,m)] s1→Ac A' k→
   (∀fl s' Γ1,Sc B (Cb fd L f) Γ1 [(l,m')] s'→De (XX B.Xo (Cb fd L f) [(l,m')]) s'.heap (CE fl) d→R fl s')→Ex w A' (Cb fd L f) body R E' s1)
  (hn:Aa (pI (Γ0.map (·.1))=true) aK)(hb:Aa (yS fd (binds.map (·.1))=true) aK):
  Ia (Md w) A (Ic (.ref f) vs kw) (λv s'=>Kp (blank l s) s'∧m'.At X s'.heap l∧De X s'.heap v d) E s:=
 sf (jt ac jR ho oR iV iU hX hl hm ar hΓ h hn hb)
theorem Sc.back{l:ia}{m m':MO}(S:Sc B env Γ Δ s)(o:bw l m m' Δ Δ')(k:Kp (blank l s) s')(h:m'.At (XX B.Xo env Δ) s'.heap l):Sc B env Γ Δ' s':=by
 obtain⟨⟨h',tk,rfl⟩,u⟩:=qP k
 exact S.set_own o u h
theorem Sc.B0{l:ia}{m:MO}(S:Sc B env Γ Δ s)(hm:(l,m)∈Δ)(G:aW w aG d0 B.s0.heap):aW w aG d0 (blank l s).heap:=G.keeps λb o e=>by
 rw[bV s (λq=>by have:=(S.own _ hm).2.2.1.1;rw[q,this]at e;cases e)]
 exact S.kp.up b o e
theorem k9.DG{pos:Pos}{es:aa Ba}{ds:aa PyData}(a:k9 w A B env Γ Δ es ds):(backTo pos (Rb es env)).all (λx=> !x.1)=true:=by
 induction a with
 |nil=>rfl
 |cons x y he ih=>rw[aF _ _ _ he];exact ih
theorem mU{o:Ba}{name:Str}{apos pos:Pos}{args:aa Ba}{ds:aa PyData}{Q:qa→za→Prop}(xs:k9 w A B env Γ Δ args ds)
  (h:Ia (Md w) A (eval o env) (λov s1=>∀pl,Ia (Md w) A (getMethod ov name pl) (λfx s2=>Ia (Md w) A (callWith pos fx.1 fx.2 (backTo pos (Rb args env)) []) Q E s2) E s1) E s)
  (hb:aO o=true)(hn:zd args.length 29=true)(hl:(apos.endLine==pos.line)=true):Ia (Md w) A (eval (.Call (.Attribute o name apos) args [] pos) env) Q E s:=by
 refine(arm_eval_Call ..).symm▸(bU hb ..).symm▸ ?_
 refine Ca (Pa h (λov s₁ h₁=> ?_) λz_ z_ e=>e)
 refine Ca (Ed ?_)
 have Jy:args.length+1≤29:=Mb hn
 have wY:methodCallForm (args.length+([]:aa Keyword).length) (backTo pos (Rb args env)) (backToKw pos (keywordEach [] env))=true:=by
  unfold methodCallForm
  refine(xs.DG ..).symm▸ ?_
  show(true&&true&&decide (args.length+0+0<30))=true
  simp;exact Dc Jy (by decide)
 have zo:methodCallPos true o env apos pos=pure pos:=by unfold methodCallPos;simp[hl]
 unfold methodCall
 refine(wY ..).symm▸ ?_
 refine Ca (Jc (Pa (h₁ _) (λfx s2 q=> ?_) λz_ z_ e=>e))
 exact Ca (Kd zo q)
noncomputable def eu(C:ia)(name:Str)(K:dW):Prop:=∀X h v,K.P X h v→∃x dx mm,v=.ref x∧h.get? x=some (instObj C dx)∧h.Ns dx mm∧mm name=none
theorem eu.inst{name:Str}{l:aa (Str×D)}(hx:Aa (l.any (λp=>p.1==name)=false) aK):eu C name (fU C l):=λX h v ⟨x,dx,mm,e,_,_,hg,hn,hh⟩=>
 ⟨x,dx,mm,e,hg,hn,hh.off name λhm=>by
  refine bE (Ra.mp hm) λp hp q=> ?_
  have:=Xh.mp hx p hp
  exact this (by simpa using q)⟩
noncomputable def O0(K:Frag)(f:ia):Ga:=match K.lookup f with|some ⟨_,_,.func _,_⟩=>true|_=>false
set_option tactic.hygienic true in
theorem nH{h:Ja}{f:ia}(G:aW w aG d0 h)(e:O0 (KK w aG d0) f=true):∃ob fd,h.get? f=some ob∧ob.data=.func fd:=by
 unfold O0 at e
 split at e
 ·rename_i c d fd sl hq
  exact⟨_,fd,G.kk _ _ hq,rfl⟩
 ·cases e
theorem ao.q7{o:Ba}{name:Str}{apos pos:Pos}{args:aa Ba}{ds:aa PyData}{d:D}{K:dW}{f:ia}(x:ao w A B env Γ Δ o (.known K))(hK:eu C name K)(G:aW w aG d0 B.s0.heap)(ok:fD (KK w aG d0) C)
  (xs:k9 w A B env Γ Δ args ds)
  (hc:∀v vs s E,Sc B env Γ Δ s→De (XX B.Xo env Δ) s.heap v (.known K)→aD (XX B.Xo env Δ) s.heap vs ds→Ia (Md w) A (Ic (.ref f) (v::vs)) (λv s'=>Kp s s'∧De (XX B.Xo env Δ) s'.heap v d) E s)
  (hf:Aa (findIn (KK w aG d0) (.ref C) name=some (some (.ref f))) aK)(ht:Aa (typeIn (KK w aG d0) (.ref f)=some (.type "function")) aK)(Js:Aa (O0 (KK w aG d0) f=true) aK)
  (hb:Aa (aO o=true) aR)(hn:Aa (zd args.length 29=true) aR)(hl:Aa ((apos.endLine==pos.line)=true) aR):ao w A B env Γ Δ (.Call (.Attribute o name apos) args [] pos) d:=.mk λs E S=>
 mU xs (x.use S λv s1 k1 S1 r1 pl=>by
  obtain⟨x,dx,mm,rfl,hg,yF,hm⟩:=hK _ _ _ r1
  refine kG (S1.g8 G) ok hg yF hm ?_ hf ht
  refine lK (nH G Js) λob fd ho hd=> ?_
  refine uh (o:=ob) (fd:=fd) (Pa (xs.args S1) (λa s2 q=> ?_) λz_ z_ z=>z)
  obtain⟨vs,kw⟩:=a
  refine yI q λq0 q1 q2=> ?_
  dsimp only at q0 q2
  subst q0
  refine⟨⟨(S1.upd q1).kp.up _ _ ho,hd⟩,?_⟩
  exact Pa (hc (.ref x) vs s2 E (S1.upd q1) (r1.up q1.up) q2) (λv s3 q3=>⟨(k1.trans' q1).trans' q3.1,q3.2⟩) λz_ z_ z=>z) hb hn hl
structure kT(w:Oa)(A:Xa)(B:Bx)(env:Env)(Γ:aa (Str×D))(Δ:aa (ia×MO))(e:Ba)(d:D)(Δ':aa (ia×MO)):Prop where
 go:∀(s:za) (E:qa→za→Prop),Sc B env Γ Δ s→Ia (Md w) A (eval e env) (λv s'=>Sc B env Γ Δ' s'∧De (XX B.Xo env Δ') s'.heap v d) E s
theorem kT.q7{o:Ba}{name:Str}{apos pos:Pos}{args:aa Ba}{ds:aa PyData}{d:D}{K:dW}{f l:ia}{m m':MO}(x:ao w A B env Γ Δ o (.known K))(hK:eu C name K)(G:aW w aG d0 B.s0.heap)(ok:fD (KK w aG d0) C)
  (xs:k9 w A B env Γ Δ args ds)(own:bw l m m' Δ Δ')
  (hc:∀v vs s E,Sc B env Γ Δ s→De (XX B.Xo env Δ) s.heap v (.known K)→aD (XX B.Xo env Δ) s.heap vs ds→Ia (Md w) A (Ic (.ref f) (v::vs)) (λv s'=>Kp (blank l s) s'∧m'.At (XX B.Xo env Δ) s'.heap l∧De (XX B.Xo env Δ) s'.heap v d) E s)
  (hf:Aa (findIn (KK w aG d0) (.ref C) name=some (some (.ref f))) aK)(ht:Aa (typeIn (KK w aG d0) (.ref f)=some (.type "function")) aK)(Js:Aa (O0 (KK w aG d0) f=true) aK)
  (hb:Aa (aO o=true) aR)(hn:Aa (zd args.length 29=true) aR)(hl:Aa ((apos.endLine==pos.line)=true) aR):kT w A B env Γ Δ (.Call (.Attribute o name apos) args [] pos) d Δ':=.mk λs E S=>
 mU xs (x.use S λv s1 k1 S1 r1 pl=>by
  obtain⟨x,dx,mm,rfl,hg,yF,hm⟩:=hK _ _ _ r1
  refine kG (S1.g8 G) ok hg yF hm ?_ hf ht
  refine lK (nH G Js) λob fd ho hd=> ?_
  refine uh (o:=ob) (fd:=fd) (Pa (xs.args S1) (λa s2 q=> ?_) λz_ z_ z=>z)
  obtain⟨vs,kw⟩:=a
  refine yI q λq0 q1 q2=> ?_
  dsimp only at q0 q2
  subst q0
  refine⟨⟨(S1.upd q1).kp.up _ _ ho,hd⟩,?_⟩
  refine Pa (hc (.ref x) vs s2 E (S1.upd q1) (r1.up q1.up) q2) (λv s3 q3=> ?_) λz_ z_ z=>z
  have ex:XX B.Xo env Δ'=XX B.Xo env Δ:=XX.same own.names
  exact⟨(S1.upd q1).back own q3.1 q3.2.1,ex▸q3.2.2⟩) hb hn hl
theorem cz{e:Ba}{pos:Pos}{rest:aa Va}{d:D}{Q:Flow→za→Prop}(S:Sc B env Γ Δ s)(x:kT w A B env Γ Δ e d Δ')(hd:∀X h v,De X h v d→∀a,v≠ .ref a)
  (h:∀s',Sc B env Γ Δ' s'→Ex w A env rest Q E s')(hi:Aa (interactive env=false) aK)(hs:Aa (cR e=true) aR):Ex w A env (.Expr e pos::rest) Q E s:=
 ⟨Kc (wpAny_Expr (Pa (x.go s E S) (λv s1 q=>by
  have:=hd _ _ _ q.2
  cases v<;> first|exact(h s1 q.1).run|exact absurd rfl (this _)) λz_ z_ z=>z) hi (dH hs))⟩
theorem bL:∀X h v,De X h v (.dat .none)→∀a,v≠ .ref a:=λX h v x a=>by
 have x:Rd X h v .none:=x
 cases x;intro q;cases q
theorem ao.make{x:Str}{p pos:Pos}{args:aa Ba}{ds:aa PyData}{l:aa (Str×D)}{fI:ia}{kk:Nat}(hf:ao w A B env Γ Δ (.Name x p) (.val (.ref C)))(xs:k9 w A B env Γ Δ args ds)(g9:args≠[])(G:aW w aG d0 B.s0.heap)(ok:fD (KK w aG d0) C)
  (hc:∀(x dx:ia) (vs:aa qa) (s2:za) (X:aa ia) (E:qa→za→Prop),(∀a∈X,a<s2.heap.objs.size)→dx∈X→x∉X→s2.heap.get? x=some (instObj C dx)→(MO.attrs [] 0).At X s2.heap dx→aD X s2.heap vs ds→aW w aG d0 (blank dx s2).heap→
   wc (Md w) (A.under (.builtin "type.__call__" ⟨.ref C::vs,[]⟩)) (.call (.ref fI) ⟨.ref x::vs,[]⟩) (λr s'=>match r with|.ok (.ret v)=>Kp (blank dx s2) s'∧(MO.attrs l kk).At X s'.heap dx∧De X s'.heap v (.dat .none)|.ok _=>gc|.error e=>E e s') s2)
  (hi:Aa (findIn (KK w aG d0) (.ref C) "__init__"=some (some (.ref fI))) aK)(ht:Aa (typeIn (KK w aG d0) (.ref fI)=some (.type "function")) aK):
  ao w A B env Γ Δ (.Call (.Name x p) args [] pos) (.known (fU C l)):=.mk λs E S=>by
 refine Ke rfl (hf.use S λv s1 k1 S1 r1=> ?_)
 obtain rfl:v=.ref C:=r1
 cases xs with
 |nil=>exact absurd rfl g9
 | @cons e es d ds y ys he=>
  have r:=(k9.cons y ys he).run (pos:=pos) (E:=E) S1
  have lD:(backTo pos (Rb es env)).any (·.1)=false:=ys.plain
  refine callWith_K (K:=KK w aG d0) G.kk ok.keep (Pa r (λvs s2 q=> ?_) λz_ z_ z=>z) (aF _ _ _ he) lD
  have S2:=S1.upd q.1
  have G2:=S2.g8 G
  refine⟨G2.kk,?_⟩
  refine sf ?_
  show wc (Md w) A (.call (.ref C) ⟨vs,[]⟩) _ s2
  have bB:∀a∈XX B.Xo env Δ,a<s2.heap.objs.size:=λa ha=>S2.jH ha
  have N4:Kp s2 {s2 with heap:=(s2.heap.push emptyDict).push (instObj C s2.heap.objs.size)}:=(Kp.push s2 emptyDict).trans' (Kp.push {s2 with heap:=s2.heap.push emptyDict} _)
  have e1:(s2.heap.push emptyDict).objs.size=s2.heap.objs.size+1:=Yc ..
  have B7:∀b,s2.heap.objs.size≤b→b∉XX B.Xo env Δ:=λb hb hx=>Pc _ (Dc (bB b hx) hb)
  have su:((s2.heap.push emptyDict).push (instObj C s2.heap.objs.size)).get? s2.heap.objs.size=some emptyDict:=qc _ (Zb _ rfl)
  have Zr:((s2.heap.push emptyDict).push (instObj C s2.heap.objs.size)).get? (s2.heap.objs.size+1)=some (instObj C s2.heap.objs.size):=e1▸Zb (s2.heap.push emptyDict) rfl
  have call:=hc (s2.heap.objs.size+1) s2.heap.objs.size vs {s2 with heap:=(s2.heap.push emptyDict).push (instObj C s2.heap.objs.size)} (s2.heap.objs.size::XX B.Xo env Δ) E
   (λa ha=>by
    show a<((s2.heap.push emptyDict).push (instObj C s2.heap.objs.size)).objs.size
    refine(Yc ..).symm▸(e1 ..).symm▸ ?_
    rcases Za.mp ha with rfl|ha
    ·exact kh (Ph _)
    ·exact Dc (bB a ha) (Tc _ 2))
   La (λh=>by
    rcases Za.mp h with h|h
    ·have h: @Eq Nat (s2.heap.objs.size+1) s2.heap.objs.size:=h;exact Mw h
    ·exact B7 _ (Tc _ _) h) Zr
   ⟨λz_=>none,⟨_,_,_,su,rfl,(λe he=>by simp at he),(λz_=>rfl),by simp⟩,⟨λz_ z_=>rfl,λp hp=>nomatch hp⟩⟩
   (q.2.at λb o hb eo=>.inr ⟨λh=>by
    rcases Za.mp h with rfl|h
    ·exact Pc _ (Ub eo)
    ·exact hb h,N4.up b o eo⟩)
   (G.keeps λb o eo=>by
    have hb:b≠s2.heap.objs.size:=λh=>by
     have:=Ub (S2.kp.up b o eo);rw[h]at this;exact Pc _ this
    refine(bV _ hb ..).symm▸ ?_
    exact N4.up b o (S2.kp.up b o eo))
  obtain⟨h2,g2,YG,t2,ZY⟩:=s2
  refine make_core (makes_of G2.kk ok.makes) (looks_findIn G2.kk hi) (λself=>bind_fn G2.kk self ht) (.inl rfl) (codeAny_mono call λr s' z=> ?_)
  cases r with
  |error e=>exact z
  |ok f=>
   cases f with
   |ret v=>
    refine yI z λz1 z2 z3=> ?_
    have z3:Rd _ _ v .none:=z3
    refine⟨by cases z3;rfl,?_⟩
    obtain⟨⟨h',tk,rfl⟩,u⟩:=qP z1
    have kk2:Kp ⟨h2,g2,YG,t2,ZY⟩ ⟨h',g2,YG,tk,ZY⟩:=⟨h',tk,rfl,λb o eo=>u b o (λh=>by have:=Ub eo;rw[h]at this;exact Pc _ this) (N4.up b o eo)⟩
    refine⟨(k1.trans' q.1).trans' kk2,?_⟩
    refine bE z2 λmm hn hh=> ?_
    exact⟨_,h2.objs.size,mm,rfl,B7 _ (Tc _ 1),B7 _ (zb _),u _ _ (Bh _) Zr,hn.ns,hh.more λb o hb z_ h=>hb (Wa _ h)⟩
   |next =>exact z
   |brk=>exact z
   |cont=>exact z
theorem TV.tF{l:Ba}{k}{p pos:Pos}{d:D}(x:ao w A B env Γ Δ l d)(h:∀X h v,De X h v d→v≠ .none):TV w A B env Γ Δ (.Compare l [.IsNot] [.Constant .none k p] pos) true:=
 TV.cmp x ao.qx (λu v s E z_ p q=>by
  have q:Rd _ _ v .none:=q
  cases q;exact isnot_none_ne (h _ _ _ p) ⟨.bN _,rfl⟩)
theorem TV.kH{l:Ba}{k}{p pos:Pos}{d:PyData}(x:ao w A B env Γ Δ l (.dat d)):TV w A B env Γ Δ (.Compare l [.Is] [.Constant .none k p] pos) (match d with|.none=>true|_=>false):=
 TV.cmp x ao.qx (λu v s E z_ p q=>by
  have q:Rd _ _ v .none:=q
  cases q
  have p:Rd _ _ u d:=p
  cases p<;> first|exact is_none_ne (λh=>nomatch h) ⟨.bN _,rfl⟩|exact wpAny_is_self rfl ⟨.bN _,rfl⟩)
theorem xM{x:Str}:∀X h v,De X h v (.str x)→v≠ .none:=λX h v r=>by obtain⟨t,rfl⟩:=De.iz r;intro q;cases q
theorem ao.LA{n:Str}{p pos:Pos}{e:Ba}{x:Str}(hf:ao w A B env Γ Δ (.Name n p) (.val (.type "type")))(y:ao w A B env Γ Δ e (.str x))(he:Aa (notStar e=true) aR):ao w A B env Γ Δ (.Call (.Name n p) [e] [] pos) (.val (.type "str")):=
 hf.uo (.cons y .nil he) λvs s E S r=>by
  refine r.c1 λv r1=> ?_
  cases r1
  exact call_type_of (typeIs_str _ _ _) (by decide) ⟨.bN _,rfl⟩
theorem ao.Hp{n:Str}{p pos:Pos}{e:Ba}{ds:aa PyData}(hf:ao w A B env Γ Δ (.Name n p) (.val (.type "type")))(y:ao w A B env Γ Δ e (.list ds))(he:Aa (notStar e=true) aR):ao w A B env Γ Δ (.Call (.Name n p) [e] [] pos) (.val (.type "list")):=
 hf.uo (.cons y .nil he) λvs s E S r=>by
  refine r.c1 λv r1=> ?_
  obtain⟨a,vs,rfl,ha,hl,hr⟩:=Rd.isList r1
  exact call_type_of hl.typeIs (by decide) ⟨.bN _,rfl⟩
theorem TV.isType{l r:Ba}{pos:Pos}{T U:Yb}(x:ao w A B env Γ Δ l (.val (.type T)))(y:ao w A B env Γ Δ r (.val (.type U)))(hm:Aa (br r=true) aR):TV w A B env Γ Δ (.Compare l [.Is] [r] pos) (Te T==Te U):=
 TV.cmp x y (λu v s E z_ p q=>by
  obtain rfl:u=_:=p
  obtain rfl:v=_:=q
  exact wpAny_is_plain rfl ⟨.bN _,rfl⟩) hm
theorem TV.Cm{l r:Ba}{pos:Pos}{T U:Yb}(x:ao w A B env Γ Δ l (.val (.type T)))(y:ao w A B env Γ Δ r (.val (.type U)))(hm:Aa (br r=true) aR):TV w A B env Γ Δ (.Compare l [.IsNot] [r] pos) (!(Te T==Te U)):=
 TV.cmp x y (λu v s E z_ p q=>by
  obtain rfl:u=_:=p
  obtain rfl:v=_:=q
  exact wpAny_isNot_plain rfl ⟨.bN _,rfl⟩) hm
theorem TV.zB{e:Ba}(x:ao w A B env Γ Δ e (.dat .none))(he:Aa (nW e=true) aR):TV w A B env Γ Δ e false:=.mk λs E S=>
 PyProof.Rows.isTrue_plain (x.use S λv s1 k1 S1 r1=>by
  have r1:Rd _ _ v .none:=r1
  cases r1;exact Kd rfl ⟨k1,rfl⟩) (tE he)
theorem TV.cast{e:Ba}{a b:Ga}(x:TV w A B env Γ Δ e a)(h:a=b):TV w A B env Γ Δ e b:=h▸x
theorem ao.cast{e:Ba}{a b:D}(x:ao w A B env Γ Δ e a)(h:a=b):ao w A B env Γ Δ e b:=h▸x
theorem ao.nQ{o e c:Ba}{name kn:Str}{apos pos kp:Pos}{de dc d:D}{K:dW}{f:ia}(x:ao w A B env Γ Δ o (.known K))(hK:eu C name K)(G:aW w aG d0 B.s0.heap)(ok:fD (KK w aG d0) C)
  (ye:ao w A B env Γ Δ e de)(yc:ao w A B env Γ Δ c dc)
  (hc:∀v u x s E,Sc B env Γ Δ s→De (XX B.Xo env Δ) s.heap v (.known K)→De (XX B.Xo env Δ) s.heap u de→De (XX B.Xo env Δ) s.heap x dc→Ia (Md w) A (Ic (.ref f) [v,u] [(kn,x)]) (λv s'=>Kp s s'∧De (XX B.Xo env Δ) s'.heap v d) E s)
  (hf:Aa (findIn (KK w aG d0) (.ref C) name=some (some (.ref f))) aK)(ht:Aa (typeIn (KK w aG d0) (.ref f)=some (.type "function")) aK)(hkp:Aa (keepIn (KK w aG d0) (.ref f)=true) aK)
  (hb:Aa (aO o=true) aR)(hn:Aa (notStar e=true) aR)(hl:Aa ((apos.endLine==pos.line)=true) aR):ao w A B env Γ Δ (.Call (.Attribute o name apos) [e] [⟨some kn,c,kp⟩] pos) d:=.mk λs E S=>by
 refine(arm_eval_Call ..).symm▸(bU hb ..).symm▸ ?_
 refine Ca (x.use S λv s1 k1 S1 r1=>Ca (Ed ?_))
 have wY:methodCallForm ([e].length+[(⟨some kn,c,kp⟩:Keyword)].length) (backTo pos (Rb [e] env)) (backToKw pos (keywordEach [⟨some kn,c,kp⟩] env))=true:=by
  rw[aF _ _ _ hn];rfl
 have zo:methodCallPos true o env apos pos=pure pos:=by unfold methodCallPos;simp[hl]
 unfold methodCall
 refine(wY ..).symm▸ ?_
 obtain⟨x,dx,mm,rfl,hg,yF,hm⟩:=hK _ _ _ r1
 refine Ca (Jc (kG (S1.g8 G) ok hg yF hm ?_ hf ht))
 refine Ca (Kd zo ?_)
 refine callWith_KW (K:=KK w aG d0) G.kk hkp rfl ?_ (by rw[aF _ _ _ hn];rfl) (aF _ _ _ hn)
 refine(aF _ _ _ hn ..).symm▸ ?_
 refine Le (ye.use S1 λu s2 k2 S2 r2=>bg ?_)
 show Ia (Md w) A (evalAll [(do let v←eval c env;standAt pos;pure v)]) _ E s2
 unfold evalAll
 refine Ca (Ca (yc.use S2 λy s3 k3 S3 r3=>Ca (Ed (Ka ?_))))
 refine Ca (Jc ?_)
 unfold evalAll
 refine Ka (Ka ⟨(S3.g8 G).kk,?_⟩)
 have r1':=(r1.up k2.up).up k3.up
 exact Pa (hc (.ref x) u y s3 E S3 r1' (r2.up k3.up) r3) (λv s4 q=>⟨((k1.trans' k2).trans' k3).trans' q.1,q.2⟩) λz_ z_ z=>z
theorem type_list_append:typeOf (.builtin "list.append")=pure (.type "method_descriptor"):=by show builtinType _=_;rw[builtinType_eq_fast];kernel_rfl
theorem lP(l:ia)(x:qa)(items:Ua qa)(w5:items.size≤Bb):
  MeetsIn pw w (Ob.«list.append» ⟨[.ref l,x],[]⟩) (λA R s=>kO s.heap l items∧∀h',kO h' l (items.push x)→ve l s.heap h'→R (.ok (.ret .none)) {s with heap:=h'}):=by
 rintro A R s ⟨hl,hR⟩
 obtain⟨o,ho,hc,pP,n,hd⟩:=id hl
 show Ia _ _ (updateSeq l (·.push x)>>=λz_=>ret .none) _ _ s
 refine Ca ?_
 exact Eh ho hd (Ka (hR _ (hl.update _) (Pf ..)))
theorem kT.append{o e:Ba}{apos pos:Pos}{l:ia}{ds:aa PyData}{d:PyData}(x:ao w A B env Γ Δ o (.val (.ref l)))(y:ao w A B env Γ Δ e (.dat d))(own:bw l (.list ds) (.list (ds++[d])) Δ Δ')(hz:ds.length≤1000000)
  (hb:Aa (aO o=true) aR)(hn:Aa (notStar e=true) aR)(hl:Aa ((apos.endLine==pos.line)=true) aR):kT w A B env Γ Δ (.Call (.Attribute o (ya "append") apos) [e] [] pos) (.dat .none) Δ':=.mk λs E S=>
 Ug (bU hb) (by rw[aF _ _ _ hn];rfl) hl (x.use S λv s1 k1 S1 r1=>by
  obtain rfl:v=.ref l:=r1
  refine bE (S1.mw own.mem) λvs hL hr=> ?_
  refine Bv (id hL) λob HM z_ EM z_=> ?_
  refine⟨"list",_,Oj,nj,type_list_append,hL.isList.typeIs,(λa e=>by cases e;exact⟨ob,HM,EM⟩),
   method1_meetsIn nj PySem.F.entry_list_append (y.use S1 λu s2 k2 S2 r2=> ?_)⟩
  refine bE (S2.mw own.mem) λvs Y7 NX=> ?_
  refine⟨Y7.isList.typeIs,PySem.F.args_list_append_2 _ _,_,lP l u vs.toArray (by rw[sizeLine_eq];simp[NX.length];exact Na hz (by decide)),Y7,λh' Jx hs=> ?_⟩
  have ex:XX B.Xo env Δ'=XX B.Xo env Δ:=XX.same own.names
  have S3:=S2.set_own (tk:=s2.toks) own (λb o hb e=>(hs.2 b hb).trans e) (m':=.list (ds++[d])) ⟨vs++[u],by simpa using Jx,(NX.append (.cons r2 .nil)).at λb o' hb e=>.inr ⟨hb,(hs.2 b λq=>hb (by rw[q];exact XX.own own.mem)).trans e⟩⟩
  exact⟨S3,.none⟩)
theorem ao.m{e:Ba}{d:D}(x:ao w A B env Γ Δ e d):kT w A B env Γ Δ e d Δ:=.mk λs E S=>x.use S λv s1 k1 S1 r1=>⟨S1,r1⟩
end
section
variable{w:Oa}{K:Type}[Ec K]
structure kU(X:aa ia)(h:Ja)(kvs:aa (K×qa))(D:aa (K×PyData)):Prop where
 ks:kvs.map (·.1)=D.map (·.1)
 vs:aD X h (kvs.map (·.2)) (D.map (·.2))
noncomputable def aL{α:Type}(D:aa (K×α))(k:K):Ma α:=(D.find? λp=>p.1=k).map (·.2)
noncomputable def aQ{α:Type}(D:aa (K×α))(k:K)(v:α):aa (K×α):=if D.any (λp=>p.1=k)then D.map (λp=>if p.1=k then(p.1,v)else p)else D++[(k,v)]
noncomputable def jz{α β:Type}(f:α→β)(D:aa (K×α)):aa (K×β):=D.map λp=>(p.1,f p.2)
theorem dQ{α β:Type}(f:α→β)(k:K):∀D:aa (K×α),aL (jz f D) k=(aL D k).map f
 |[]=>rfl
 |p::D=>by
  have ih:=dQ f k D
  unfold aL jz at ih⊢
  by_cases e:p.1=k
  ·simp[e]
  ·simp only[Ib,vf,e,decide_false];exact ih
theorem iF{α β:Type}(f:α→β)(k:K)(v:α)(D:aa (K×α)):aQ (jz f D) k (f v)=jz f (aQ D k v):=by
 have e:((jz f D).any λp=>decide (p.1=k))=D.any λp=>decide (p.1=k):=by unfold jz;rw[aa.any_map];rfl
 unfold aQ
 rw[e]
 split
 ·unfold jz
  rw[Eb,Eb]
  refine Tf λp z_=> ?_
  by_cases q:p.1=k<;> simp[q]
 ·unfold jz;simp
theorem gY{α:Type}(D:aa (K×α))(k:K)(v:α):(aQ D k v).length≤D.length+1:=by
 unfold aQ
 split
 ·simp
 ·simp
theorem gG{α:Type}(k:K)(d:α)(D:aa (K×α)):aL ((k,d)::D) k=some d:=by unfold aL;simp
theorem gQ{α:Type}{a k:K}(e:¬a=k)(d:α)(D:aa (K×α)):aL ((a,d)::D) k=aL D k:=by unfold aL;rw[aa.find?_cons_of_neg (by simpa using e)]
theorem o8(k:K)(v:qa)(l:aa (K×qa)):valueAt ((k,v)::l) k=some v:=by unfold valueAt;simp
theorem mK{a k:K}(e:¬a=k)(v:qa)(l:aa (K×qa)):valueAt ((a,v)::l) k=valueAt l k:=by unfold valueAt;rw[aa.find?_cons_of_neg (by simpa using e)]
omit [Ec K] in
theorem kU.cons{X:aa ia}{h:Ja}{a:K}{u:qa}{d:PyData}{kvs:aa (K×qa)}{D:aa (K×PyData)}(x:Rd X h u d)(r:kU X h kvs D):kU X h ((a,u)::kvs) ((a,d)::D):=⟨Cc (a:: ·) r.ks,.cons x r.vs⟩
omit [Ec K] in
@[elab_as_elim] theorem kU.ind {X:aa ia} {h:Ja} {M:aa (K×qa)→aa (K×PyData)→Prop} (nil:M [] []) (cons:∀a u d kvs D,Rd X h u d→kU X h kvs D→M kvs D→M ((a,u)::kvs) ((a,d)::D)) {kvs:aa (K×qa)}:∀{D:aa (K×PyData)},kU X h kvs D→M kvs D:=by
 induction kvs with
 |nil=>
  intro D r
  cases D with
  |nil=>exact nil
  |cons p D=>exact absurd r.ks.symm (aa.cons_ne_nil _ _)
 |cons p kvs ih=>
  intro D r
  cases D with
  |nil=>exact absurd r.ks (aa.cons_ne_nil _ _)
  |cons q D=>
   have e:=aa.cons.inj r.ks
   have v:=aD.inv r.vs
   obtain⟨a,u⟩:=p
   obtain⟨b,d⟩:=q
   obtain rfl:a=b:=e.1
   exact cons a u d kvs D v.1 ⟨e.2,v.2⟩ (ih ⟨e.2,v.2⟩)
theorem kU.look{X:aa ia}{h:Ja}{k:K}{kvs:aa (K×qa)}{D:aa (K×PyData)}(r:kU X h kvs D):
  (∀d,aL D k=some d→∃v,valueAt kvs k=some v∧Rd X h v d)∧(aL D k=none→valueAt kvs k=none):=by
 refine kU.ind ⟨λd e=>(nomatch (e:none=some d)),λz_=>rfl⟩ (λa u d kvs D h1 r ih=> ?_) r
 by_cases e:a=k
 ·subst e
  rw[gG,o8]
  exact⟨λd' q=>⟨u,rfl,Oe q▸h1⟩,λq=>(nomatch q)⟩
 ·rw[gQ e,mK e];exact ih
omit [Ec K] in
theorem z9{α:Type}(q:K→Ga)(l:aa (K×α)):(l.any λp=>q p.1)=(l.map (·.1)).any q:=aa.any_map.symm
theorem Ir{α β:Type}{k:K}{l:aa (K×α)}{m:aa (K×β)}(e:l.map (·.1)=m.map (·.1)):(l.any λp=>decide (p.1=k))=m.any λp=>decide (p.1=k):=
 (z9 (λx=>decide (x=k)) l).trans (e▸(z9 _ m).symm)
theorem kU.Qq{X:aa ia}{h:Ja}{k:K}{v:qa}{d:PyData}(hv:Rd X h v d){kvs:aa (K×qa)}{D:aa (K×PyData)}(r:kU X h kvs D):
  kU X h (kvs.map (λkv=>if kv.1=k then(kv.1,v)else kv)) (D.map (λp=>if p.1=k then(p.1,d)else p)):=by
 refine kU.ind ⟨rfl,.nil⟩ (λa u d' kvs D h1 r ih=> ?_) r
 show kU X h ((if a=k then(a,v)else(a,u))::_) ((if a=k then(a,d)else(a,d'))::_)
 by_cases q:a=k
 ·rw[if_pos q,if_pos q];exact .cons hv ih
 ·rw[if_neg q,if_neg q];exact .cons h1 ih
theorem kU.store{X:aa ia}{h:Ja}{k:K}{v:qa}{d:PyData}{kvs:aa (K×qa)}{D:aa (K×PyData)}(r:kU X h kvs D)(hv:Rd X h v d):kU X h (stored kvs k v) (aQ D k d):=by
 unfold stored aQ
 refine(Ir r.ks ..).symm▸ ?_
 split
 ·exact kU.Qq hv r
 ·exact⟨by simp[r.ks],by simpa using r.vs.append (.cons hv .nil)⟩
omit [Ec K] in
theorem kU.at{X Y:aa ia}{h h':Ja}{kvs:aa (K×qa)}{D:aa (K×PyData)}(r:kU X h kvs D)(k:∀b o,b∉X→h.get? b=some o→b∉Y∧h'.get? b=some o):kU Y h' kvs D:=⟨r.ks,r.vs.at λb o hb e=>.inr (k b o hb e)⟩
omit [Ec K] in
theorem kU.len{X:aa ia}{h:Ja}{kvs:aa (K×qa)}{D:aa (K×PyData)}(r:kU X h kvs D):kvs.length=D.length:=by
 have:=Cc Ti r.ks;simpa using this
noncomputable def cC(knd:KeyKind pw w K)(D:aa (K×PyData)):dW where
 P X h v:=∃d kvs,v=.ref d∧d∉X∧(d==sysModules)=false∧h.DictOf knd d kvs∧kU X h kvs D
 keep k:=λ⟨d,kvs,e,hx,hs,hd,r⟩=>⟨d,kvs,e,hx,hs,(let⟨o,es,ep,ho,q⟩:=hd;⟨o,es,ep,k _ _ hx ho,q⟩),⟨r.ks,r.vs.at λb o hb e=>.inr ⟨hb,k b o hb e⟩⟩⟩
 more k:=λ⟨d,kvs,e,hx,hs,hd,r⟩=>⟨d,kvs,e,(let⟨o,es,ep,ho,q⟩:=hd;k _ _ hx ho),hs,hd,⟨r.ks,r.vs.at λb o hb e=>.inr ⟨k b o hb e,e⟩⟩⟩
noncomputable def cD(knd:KeyKind pw w K)(D:aa (K×PyData)):Dy where
 P X h o:=∃kvs,o.IsDictOf knd kvs∧kU X h kvs D
 keep k:=λ⟨kvs,hd,r⟩=>⟨kvs,hd,⟨r.ks,r.vs.at λb o hb e=>.inr ⟨hb,k b o hb e⟩⟩⟩
 more k:=λ⟨kvs,hd,r⟩=>⟨kvs,hd,⟨r.ks,r.vs.at λb o hb e=>.inr ⟨k b o hb e,e⟩⟩⟩
noncomputable def jK(knd:KeyKind pw w K)(kvs:aa (K×qa)):Dy where
 P _ _ o:=o.IsDictOf knd kvs
 keep _:=id
 more _:=id
structure iu(knd:KeyKind pw w K)(enc:K→PyData):Prop where
 is:∀{X h v k},Rd X h v (enc k)→knd.is k v=true
 rd:∀{X h v k},knd.is k v=true→Rd X h v (enc k)
theorem qQ:iu (strKind pw w) ie:=⟨λx=>by cases x;exact strKind_is _ _ _ _,λx=>by obtain⟨t,rfl⟩:=qa.isStrOf_shape x;exact .str ..⟩
theorem ZI:iu (intKind pw w) Xb:=⟨λx=>by cases x;exact intKind_is _ _ _ _,λx=>by obtain⟨t,rfl⟩:=qa.isInt_shape x;exact .int ..⟩
omit [Ec K] in
theorem kU.get{X:aa ia}{h:Ja}{p:K×PyData}{kvs:aa (K×qa)}{D:aa (K×PyData)}{i:Nat}(r:kU X h kvs D)(e:D[i]? =some p):∃v,kvs[i]? =some (p.1,v)∧Rd X h v p.2:=by
 have g:∀i:Nat,D[i]? =some p→∃v,kvs[i]? =some (p.1,v)∧Rd X h v p.2:=by
  clear e
  refine kU.ind (λz_ e=>(nomatch e)) (λa u d kvs D h1 r ih i e=> ?_) r
  cases i with
  |zero=>obtain rfl:(a,d)=p:=Oe e;exact⟨u,rfl,h1⟩
  |succ i=>exact ih i e
 exact g i e
noncomputable def jJ(knd:KeyKind pw w K)(d:ia)(kvs:aa (K×qa))(ep:Nat)(D:aa (K×PyData)):dW where
 P X h v:=v=.ref d∧d∉X∧h.DictAt knd d kvs ep∧kU X h kvs D
 keep k:=λ⟨e,hx,hd,r⟩=>⟨e,hx,(let⟨o,es,ho,q⟩:=hd;⟨o,es,k _ _ hx ho,q⟩),⟨r.ks,r.vs.at λb o hb e=>.inr ⟨hb,k b o hb e⟩⟩⟩
 more k:=λ⟨e,hx,hd,r⟩=>⟨e,(let⟨o,es,ho,q⟩:=hd;k _ _ hx ho),hd,⟨r.ks,r.vs.at λb o hb e=>.inr ⟨k b o hb e,e⟩⟩⟩
end
section
variable{w:Oa}{K:Type}[Ec K]{knd:KeyKind pw w K}{enc:K→PyData}{A:Xa}{B:Bx}{s s':za}{env:Env}{Γ Γ':aa (Str×D)}{Δ Δ':aa (ia×MO)}{E:qa→za→Prop}{D:aa (K×PyData)}
theorem Sc.dict{d:ia}(S:Sc B env Γ Δ s)(hm:(d,MO.own (cD knd D))∈Δ):∃kvs,s.heap.DictOf knd d kvs∧kU (XX B.Xo env Δ) s.heap kvs D:=by
 obtain⟨o,ho,kvs,hd,r⟩:=S.get_own hm
 exact⟨kvs,Pe.mpr ⟨o,ho,hd⟩,r⟩
structure QS(w:Oa)(A:Xa)(B:Bx)(env:Env)(Γ:aa (Str×Mine.D))(Δ:aa (ia×MO))(knd:KeyKind pw w K)(e:Ba)(D:aa (K×PyData)):Prop where
 go:∀(s:za) (E:qa→za→Prop),Sc B env Γ Δ s→Ia (Md w) A (eval e env) (λv s'=>Kp s s'∧∃d,v=.ref d∧(d==sysModules)=false∧∀mT,Kp s' mT→∃kvs,mT.heap.DictOf knd d kvs∧kU (XX B.Xo env Δ) mT.heap kvs D) E s
theorem ao.dk{e:Ba}(x:ao w A B env Γ Δ e (.known (cC knd D))):QS w A B env Γ Δ knd e D:=.mk λs E S=>x.use S λv s1 k1 S1 r1=>by
 refine⟨k1,?_⟩
 refine LK r1 λd kvs e hx hs hd r=> ?_
 refine⟨d,e,hs,λmT k=>⟨kvs,?_,r.at λb o hb e=>⟨hb,k.up _ _ e⟩⟩⟩
 exact hd.keep k.up
theorem ao.dO{e:Ba}{d:ia}(x:ao w A B env Γ Δ e (.val (.ref d)))(hm:(d,MO.own (cD knd D))∈Δ)(hs:(d==sysModules)=false):QS w A B env Γ Δ knd e D:=.mk λs E S=>x.use S λv s1 k1 S1 r1=>by
 obtain rfl:v=.ref d:=r1
 exact⟨k1,d,rfl,hs,λmT k=>(S1.upd k).dict hm⟩
theorem TV.inD{l r:Ba}{pos:Pos}{k:K}(ki:iu knd enc)(x:ao w A B env Γ Δ l (.dat (enc k)))(y:QS w A B env Γ Δ knd r D)(hm:Aa (br r=true) aR):TV w A B env Γ Δ (.Compare l [.In] [r] pos) (aL D k).isSome:=.mk λs E S=>
 wpAny_isTrue_Compare1 (x.use S λu s1 k1 S1 r1=>Pa (y.go s1 E S1) (λv s2 q=>by
  obtain⟨k2,d,rfl,hs,q⟩:=q
  refine bE (q s2 (.bN _)) λkvs hd r=> ?_
  refine wpAny_in_of (ki.is (Rd.up r1 k2.up)) hs hd.mapOf (gi ⟨(k1.trans' k2).trans' (.tok ..),?_⟩)
  have:=r.look (k:=k)
  cases hl:aL D k with
  |none=>rw[this.2 hl];rfl
  |some d'=>obtain⟨v,e,_⟩:=this.1 d' hl;rw[e];rfl) λz_ z_ z=>z) (mY hm)
theorem ao.D8{l k:Ba}{pos:Pos}{x:K}{d:PyData}(ki:iu knd enc)(a:QS w A B env Γ Δ knd l D)(b:ao w A B env Γ Δ k (.dat (enc x)))(hd:aL D x=some d)(hs:Aa (cT k=true) aR):ao w A B env Γ Δ (.Subscript l k pos) (.dat d):=.mk λs E S=>
 xg (Pa (a.go s E S) (λv s1 q=>by
  obtain⟨k1,dd,rfl,nM,q⟩:=q
  refine b.use (S.upd k1) λu s2 k2 S2 r2=> ?_
  refine bE (q s2 k2) λkvs pP r=> ?_
  refine bE (r.look.1 d hd) λv e hv=> ?_
  exact tail_any pP.typeIs slot_dict_getitem.lookup (wpAny_getItem_of (ki.is r2) pP.mapOf e ⟨(k1.trans' k2).trans' (.tok ..),hv⟩) (CU hs _ _)) λz_ z_ z=>z)
theorem ao.aaG{o k e:Ba}{apos pos:Pos}{x:K}{d:PyData}(ki:iu knd enc)(a:QS w A B env Γ Δ knd o D)(b:ao w A B env Γ Δ k (.dat (enc x)))(c:ao w A B env Γ Δ e (.dat d))
  (hb:Aa (aO o=true) aR)(hn:Aa (notStar k=true) aR)(Pw:Aa (notStar e=true) aR)(hl:Aa ((apos.endLine==pos.line)=true) aR):ao w A B env Γ Δ (.Call (.Attribute o (ya "get") apos) [k,e] [] pos) (.dat ((aL D x).getD d)):=.mk λs E S=>
 Call_method2 (bU hb) (by rw[aF _ _ _ hn,aF _ _ _ Pw];rfl) hl (Pa (a.go s E S) (λv s1 q=>by
  obtain⟨k1,dd,rfl,nM,q⟩:=q
  refine bE (q s1 (.bN _)) λabd O9 z_=> ?_
  refine⟨"dict",_,mj,PySem.F.slot_dict_get,PySem.F.type_dict_get,O9.typeIs,O9.mapOf.noDict,wpAny_dict_get2 (knd:=knd) nM (b.use (S.upd k1) λu s2 k2 S2 r2=>c.use S2 λy s3 k3 S3 r3=> ?_)⟩
  refine bE (q s3 (k2.trans' k3)) λkvs pP r=> ?_
  refine⟨x,_,ki.is (Rd.up r2 k3.up),pP.mapOf,((k1.trans' k2).trans' k3).trans' (.tok ..),?_⟩
  have:=r.look (k:=x)
  cases hl:aL D x with
  |none=>rw[this.2 hl];exact r3
  |some d'=>obtain⟨v,e,hv⟩:=this.1 d' hl;rw[e];exact hv) λz_ z_ z=>z)
end
section
variable{w:Oa}{K:Type}[Ec K]{knd:KeyKind pw w K}{enc:K→PyData}{A:Xa}{B:Bx}{s s':za}{env:Env}{Γ Γ':aa (Str×D)}{Δ Δ':aa (ia×MO)}{E:qa→za→Prop}{aG:ia→qa}{d0:qa}{DD:aa (K×PyData)}
omit [Ec K] in
theorem XX.mono{Xo:aa ia}{b:ia}(k:∀p∈Δ',∃m,(p.1,m)∈Δ)(h:b∈XX Xo env Δ'):b∈XX Xo env Δ:=by
 rcases XX.cases h with h|h|⟨y,h⟩|⟨m',h⟩
 ·exact XX.out h
 ·exact h▸XX.loc
 ·exact XX.cell h
 ·refine xE (k _ h) λm hm=> ?_
  exact XX.own (p:=(b,m)) hm
omit [Ec K] in
theorem Sc.perm(S:Sc B env Γ Δ s)(h:aa.Perm Δ Δ'):Sc B env Γ Δ' s:=by
 have k1:∀b,b∈XX B.Xo env Δ'→b∈XX B.Xo env Δ:=λb=>XX.mono λp hp=>⟨p.2,h.mem_iff.mpr hp⟩
 exact⟨S.kp,S.xo,S.ns,S.lf,S.cl,S.ap,S.nd,λp hp hu=>let⟨v,b,d⟩:=S.vars p hp hu;⟨v,b,d.sub k1⟩,
  λp hp=>let⟨a,b,c,d⟩:=S.own p (h.mem_iff.mpr hp);⟨a,b,c,d.sub k1⟩,(h.map (·.1)).nodup S.dn,λp hp=>(S.gh p hp).sub k1⟩
omit [Ec K] in
theorem Sc.drops:∀{Is:aa (ia×MO)},Sc B env Γ (Is++Δ) s→Sc B env Γ Δ s
 |[],S=>S
 |_::Is,S=>Sc.drops (Is:=Is) (Sc.drop S)
omit [Ec K] in
theorem bw.app{a:ia}{m m':MO}(h:bw a m m' Δ Δ'):∀{Is:aa (ia×MO)},bw a m m' (Is++Δ) (Is++Δ')
 |[]=>h
 |_::Is=>.there (bw.app h (Is:=Is))
omit [Ec K] in
theorem aW.Lr{h:Ja}(G:aW w aG d0 h):(h.objs.size==sysModules)=false:=by
 obtain⟨ob,fd,ho,_⟩:=nH (f:=475) G (by kernel_rfl)
 have h1: @Od Nat _ 475 h.objs.size:=Ub ho
 simp only[Zj,ne_eq]
 intro e
 have e: @Eq Nat h.objs.size 1:=e
 exact Tp h1 e
theorem vB{x:Str}{p pos' pos:Pos}{rest:aa Va}{Q:Flow→za→Prop}{Γ':ia→aa (Str×D)}(knd:KeyKind pw w K)(G:aW w aG d0 B.s0.heap)(S:Sc B env Γ Δ s)(t:∀a,aX x (.val (.ref a)) Γ (Γ' a))(Kx:cG B env x)
  (h:∀a s',(a==sysModules)=false→Sc B env (Γ' a) ((a,.own (cD knd []))::Δ) s'→Ex w A env rest Q E s')(hk:Aa (env.scope.kind=.function) aK):Ex w A env (.Assign [.Name x pos'] (.Dict [] [] p) pos::rest) Q E s:=
 ⟨Kc (vh (wpAny_Dict_empty (by
  have o1:(s.heap.push {cls:=.type "dict",data:=.dict #[]}).DictOf knd s.heap.objs.size []:=⟨_,#[],0,Zb _ rfl,⟨rfl,rfl,rfl⟩,rfl,λz_ he=>by simp at he,.nil,yh⟩
  refine bE (Pe.mp o1) λo ho hd=> ?_
  have S1:=S.take (.push s {cls:=.type "dict",data:=.dict #[]}) (a:=s.heap.objs.size) (m:=.own (cD knd [])) S.next ⟨o,ho,[],hd,⟨rfl,.nil⟩⟩
  exact S1.store (t _) Kx (show De _ _ _ (.val _)from rfl) (λs' S' z_=>(h _ s' (S.g8 G).Lr S').run) hk)) (dH rfl))⟩
theorem Sc.YJ{d:ia}{k:K}{key v:qa}{x:PyData}{Q:Unit→za→Prop}(S:Sc B env Γ Δ s)(o:bw d (.own (cD knd DD)) (.own (cD knd (aQ DD k x))) Δ Δ')(hk:knd.is k key=true)(hv:Rd (XX B.Xo env Δ) s.heap v x)(hz:DD.length≤Bb)
  (h:∀s',Sc B env Γ Δ' s'→Q () s'):Ia (Md w) A (Gi (.ref d) key v) Q E s:=by
 refine bE (S.dict o.mem) λkvs hd r=> ?_
 refine wpAny_setItem_pairs hk hd (λh' lC hs=>h _ (S.set_own o (λb ob hb e=>(hs.2 b hb).trans e) ?_)) (by rw[r.len];exact hz)
 refine bE (Pe.mp lC) λo' nL y9=> ?_
 exact⟨o',nL,_,y9,(r.store hv).at λb ob hb e=>⟨hb,(hs.2 b λq=>hb (by rw[q];exact XX.own o.mem)).trans e⟩⟩
theorem A6{l k value:Ba}{pos' pos:Pos}{d:ia}{x:K}{y:PyData}{rest:aa Va}{Q:Flow→za→Prop}(ki:iu knd enc)(S:Sc B env Γ Δ s)(hv:ao w A B env Γ Δ value (.dat y))(hl:ao w A B env Γ Δ l (.val (.ref d)))(hi:ao w A B env Γ Δ k (.dat (enc x)))
  (o:bw d (.own (cD knd DD)) (.own (cD knd (aQ DD x y))) Δ Δ')(hz:DD.length≤Bb)(h:∀s',Sc B env Γ Δ' s'→Ex w A env rest Q E s')
  (hs:Aa (cR value=true) aR):Ex w A env (.Assign [.Subscript l k pos'] value pos::rest) Q E s:=
 ⟨Kc (wpAny_Assign_Subscript (hv.use S λv s1 k1 S1 r1=>hl.use S1 λu s2 k2 S2 r2=>hi.use S2 λu3 s3 k3 S3 r3=>by
  obtain rfl:u=.ref d:=r2
  exact S3.YJ o (ki.is r3) (Rd.up (Rd.up r1 k2.up) k3.up) hz λs' S'=>(h s' S').run) (dH hs))⟩
theorem Ln{l k value:Ba}{QB pos:Pos}{d:ia}{x:K}{a b:Int}{rest:aa Va}{Q:Flow→za→Prop}(ki:iu knd enc)(S:Sc B env Γ Δ s)(hl:ao w A B env Γ Δ l (.val (.ref d)))(hi:ao w A B env Γ Δ k (.dat (enc x)))(hv:ao w A B env Γ Δ value (.int b))
  (o:bw d (.own (cD knd DD)) (.own (cD knd (aQ DD x (.int (a+b))))) Δ Δ')(hd:aL DD x=some (.int a))(hz:DD.length≤Bb)(h:∀s',Sc B env Γ Δ' s'→Ex w A env rest Q E s')
  (ha:Aa (cT k=true) aR):Ex w A env (.AugAssign (.Subscript l k QB) .Add value pos::rest) Q E s:=
 ⟨Kc (wpAny_AugAssign_Subscript_any (hl.use S λv s1 k1 S1 r1=>hi.use S1 λu s2 k2 S2 r2=>by
  obtain rfl:v=.ref d:=r1
  refine bE (S2.dict o.mem) λkvs pP r=> ?_
  refine bE (r.look.1 _ hd) λv e JB=> ?_
  refine wpAny_getItem_of (ki.is r2) pP.mapOf e ((hv.use (S2.upd (.tok ..)) λu3 s3 k3 S3 r3=> ?_))
  refine r3.kQ λt3=> ?_
  cases JB
  have r2':Rd (XX B.Xo env Δ) s3.heap u (enc x):=Rd.up r2 ((Kp.tok s2 _).trans' k3).up
  exact PySem.P.iadd_int ((S3.upd (.tok ..)).YJ o (ki.is r2') (.int ..) hz λs' S'=>(h s' S').run)) (D0 ha))⟩
end
section
variable{w:Oa}{A:Xa}{B:Bx}{s s':za}{env:Env}{Γ Γ':aa (Str×D)}{Δ Δ':aa (ia×MO)}{E:qa→za→Prop}{aG:ia→qa}{d0:qa}
theorem Sc.GG{Is yM:aa (ia×MO)}{h':Ja}{tk:Nat}(S:Sc B env Γ (Is++Δ) s)(nm:yM.map (·.1)=Is.map (·.1))(hs:∀b o,b∉Is.map (·.1)→s.heap.get? b=some o→h'.get? b=some o)
  (hm:∀p∈yM,p.2.At (XX B.Xo env (yM++Δ)) h' p.1):Sc B env Γ (yM++Δ) {s with heap:=h',toks:=tk}:=by
 have en:(yM++Δ).map (·.1)=(Is++Δ).map (·.1):=by simp[nm]
 have ex:XX B.Xo env (yM++Δ)=XX B.Xo env (Is++Δ):=XX.same en
 have own:∀p∈Is,p.1∈XX B.Xo env (Is++Δ):=λp hp=>XX.own (Qc _ hp)
 have out:∀b,b∉XX B.Xo env (Is++Δ)→b∉Is.map (·.1):=λb hb q=>by
  obtain⟨p,hp,rfl⟩:=Ra.mp q;exact hb (own p hp)
 have k:∀b o,b∉XX B.Xo env (Is++Δ)→s.heap.get? b=some o→h'.get? b=some o:=λb o hb e=>hs b o (out b hb) e
 have k':∀b o,b∉XX B.Xo env (yM++Δ)→s.heap.get? b=some o→h'.get? b=some o:=λb o hb e=>k b o (ex▸hb) e
 have kp:Kp B.s0 {s with heap:=h',toks:=tk}:=by
  refine lK S.kp λh1 t1 e1 k1=> ?_
  refine⟨h',tk,by rw[e1],λb o e=>hs b o (λq=> ?_) (S.kp.up b o e)⟩
  obtain⟨p,hp,rfl⟩:=Ra.mp q
  have:=(S.own p (Qc _ hp)).2.2.1.1
  rw[this]at e;cases e
 have nl:env.locals∉Is.map (·.1):=λq=>by
  refine bE (Ra.mp q) λp hp e=> ?_
  exact(S.own p (Qc _ hp)).1 e
 have nc:∀x c,(x,c)∈env.cells→c∉Is.map (·.1):=λx c hc q=>by
  refine bE (Ra.mp q) λp hp e=> ?_
  exact(S.own p (Qc _ hp)).2.1 x c hc e.symm
 refine⟨kp,S.xo,S.ns.imp λz_ n=>n.at' λo e=>hs _ o nl e,S.lf,λy c hc=> ?_,S.ap,S.nd,λp hp hu=> ?_,λp hp=> ?_,by rw[en];exact S.dn,λp hp=>ex▸(S.gh p hp).keep k⟩
 ·obtain⟨x,⟨u,o,b,d⟩,e⟩:=S.cl y c hc;exact⟨x,⟨u,o,hs _ o (nc y c hc) b,d⟩,e⟩
 ·refine bE (S.vars p hp hu) λu b e=> ?_
  refine⟨u,?_,ex▸e.keep k⟩
  rcases b with⟨b,m',ET,hv⟩|⟨b,c,hc,⟨o,hv,w7⟩⟩
  ·exact .inl ⟨b,m',ET.at' λo e=>hs _ o nl e,hv⟩
  ·exact .inr ⟨b,c,hc,o,hs _ o (nc _ c (mem_of_lookup hc)) hv,w7⟩
 ·rcases zc.mp hp with hp|hp
  ·have:p.1∈Is.map (·.1):=nm▸jd (f:=(·.1)) hp
   refine bE (Ra.mp this) λp0 hp0 e0=> ?_
   refine eS (S.own p0 (Qc _ hp0)) λx y z z_=> ?_
   exact⟨e0▸x,λn c hc=>e0▸y n c hc,e0▸z,hm p hp⟩
  ·refine eS (S.own p (Nc _ hp)) λx y z e=> ?_
   have hn:p.1∉Is.map (·.1):=λq=>by
    have:=S.dn
    rw[Mc]at this
    exact(Ze.mp this).2.2 _ q _ (jd (f:=(·.1)) hp) rfl
   exact⟨x,y,z,ex▸e.keep k λo q=>hs _ o hn q⟩
theorem Sc.takes{Is:aa (ia×MO)}(S:Sc B env Γ Δ s)(k:Kp s s')(hI:∀p∈Is,fT B env Δ s p.1∧p.2.At (XX B.Xo env (Is++Δ)) s'.heap p.1)(nd:(Is.map (·.1)).Nodup):Sc B env Γ (Is++Δ) s':=by
 have more:∀b o,b∉XX B.Xo env Δ→s.heap.get? b=some o→b∉XX B.Xo env (Is++Δ):=λb o hb e hx=>by
  rcases XX.cases hx with h|h|⟨x,h⟩|⟨m',h⟩
  ·exact hb (XX.out h)
  ·exact hb (h▸XX.loc)
  ·exact hb (XX.cell h)
  ·rcases zc.mp h with h|h
   ·exact(hI _ h).1.new _ o e rfl
   ·exact hb (XX.own h)
 have S':=S.upd k
 refine⟨S'.kp,S.xo,S'.ns,S.lf,S'.cl,S.ap,S.nd,λp hp hu=> ?_,λp hp=> ?_,?_,λp hp=>((S.gh p hp).more more).up k.up⟩
 ·refine bE (S.vars p hp hu) λv b d=> ?_
  exact⟨v,b.up k.up,(d.more more).up k.up⟩
 ·rcases zc.mp hp with hp|hp
  ·refine xA (hI p hp) λha hm=> ?_
   exact⟨λq=>ha.off _ XX.loc q.symm,λx c hc=>ha.off _ (XX.cell hc),ha.PF,hm⟩
  ·refine eS (S.own p hp) λx y z e=> ?_
   exact⟨x,y,z,(e.more more).keep (λz_ z_ z_ e=>k.up _ _ e) λz_ e=>k.up _ _ e⟩
 ·refine(Mc ..).symm▸ ?_
  refine Ze.mpr ⟨nd,S.dn,λa ha b hb q=> ?_⟩
  obtain⟨p,hp,rfl⟩:=Ra.mp ha
  obtain⟨p',hp',rfl⟩:=Ra.mp hb
  exact(hI p hp).1.off _ (XX.own hp') q.symm
theorem aD.get'{X:aa ia}{h:Ja}{vs:aa qa}{ds:aa PyData}(r:aD X h vs ds){i:Nat}{d:PyData}(e:ds[i]? =some d):∃v,vs.toArray[i]? =some v∧Rd X h v d:=by
 refine bE (r.get e) λv a b=> ?_
 exact⟨v,by simpa using a,b⟩
noncomputable def iR(it:ia)(i:Int)(old:qa):Obj:={cls:=.type "enumerate",dict:=none,data:=.fields #[.none,.bool false,.ref it,rawInt i,.none,old],slots:= #[]}
theorem rU.enumerate{a l:ia}{ds:aa PyData}{tp:Pos}{kt}{elts:aa Ba}(hh:A.handled=none)(gh:(.ref l,.list ds)∈B.Φ):
  rU w A B env (.ref (a+1)) (.Tuple elts kt tp) (ds.mapIdx λi d=>.tuple [.int (i:Int),d]) (λi Is=>∃oI old,Is=[(a,.obj oI),(a+1,.obj (iR a i old))]∧oI.cls=.type "list_iterator"∧oI.data=.fields #[.ref l,.int i 0]) λz_=>True:=by
 have g9: @Ne Nat a (a+1):=(Bh _).symm
 refine⟨?_,?_,λz_ z_ z_=>trivial⟩
 ·rintro i Is Γ1 Δ1 s5 E5 d Q hd ⟨oJ,old,rfl,hcJ,hdJ⟩ S5 out
  have gd:Rd _ s5.heap (.ref l) (.list ds):=S5.fB gh
  refine vO gd.E8 λl' vs' e' Jx pC NW=> ?_
  cases e'
  rw[aa.getElem?_mapIdx]at hd
  obtain⟨d',lC,rfl⟩:=fc.mp hd
  refine bE (NW.get' lC) λv hv rv=> ?_
  have hJ:s5.heap.get? a=some oJ:=S5.get_own (p:=(a,.obj oJ)) (La)
  have hEn:s5.heap.get? (a+1)=some (iR a i old):=S5.get_own (p:=(a+1,.obj (iR a i old))) (Wa _ La)
  refine wpAny_pyNext_enum_item (it:=a) (l:=l) hEn ⟨oJ,hJ,hcJ,hdJ⟩ pC.isList hv (λq=>g9 q.symm) λh2 hO Y0 ht hz2 zm=>out _ _ λQ2 F5=> ?_
  refine wpAny_letOwnedTupleGo_enum hO λh3 hE3 HN=> ?_
  have HN:ve (a+1) h2 h3:=HN
  refine mO (id Y0) λoI2 aaT aaK aaN=> ?_
  have hI3:h3.get? a=some oI2:=(HN.2 a g9).trans aaT
  have keep:∀b o,b∉([(a,MO.obj oJ),(a+1,MO.obj (iR a i old))]:aa (ia×MO)).map (·.1)→s5.heap.get? b=some o→h3.get? b=some o:=λb o hb e=>by
   simp only[Ib,aa.map_nil,Za,Vf,Rf,not_or]at hb
   exact(HN.2 b hb.2).trans (zm b o hb.2 hb.1 e)
  have S6:=S5.GG (yM:=[(a,.obj oI2),(a+1,.obj (iR a ((i+1:Nat):Int) v))]) (h':=h3) (tk:=s5.toks+1) rfl keep (λp hp=>by
   simp only[Za,Vf,Rf]at hp
   rcases hp with rfl|rfl
   ·exact hI3
   ·exact hE3)
  have NO:s5.heap.objs.size∉XX B.Xo env ([(a,MO.obj oJ),(a+1,MO.obj (iR a i old))]++Δ1):=S5.fresh
  refine F5 _ _ ⟨oI2,v,rfl,aaK,aaN⟩ S6 ?_
  show Rd (XX B.Xo env ([(a,MO.obj oJ),(a+1,MO.obj (iR a i old))]++Δ1)) h3 _ _
  have Px:s5.heap.objs.size≠a+1:=λq=>NO (by rw[q];exact XX.own (p:=(a+1,MO.obj (iR a i old))) (Wa _ La))
  refine .tuple (vs:= #[.int i s5.toks,v]) NO ((HN.2 _ Px).trans ht) rfl rfl (.cons (.int ..) (.cons (rv.at λb o hb e=>.inr ⟨hb,keep b o (λq=>hb ?_) e⟩) .nil))
  simp only[Ib,aa.map_nil,Za,Vf,Rf]at q
  rcases q with rfl|rfl
  ·exact XX.own (p:=(b,MO.obj oJ)) La
  ·exact XX.own (p:=(a+1,MO.obj (iR a i old))) (Wa _ La)
 ·rintro Is Γ1 Δ1 s5 E5 Q ⟨oJ,old,rfl,hcJ,hdJ⟩ S5 out
  have gd:Rd _ s5.heap (.ref l) (.list ds):=S5.fB gh
  refine vO gd.E8 λl' vs' e' Jx pC NW=> ?_
  cases e'
  have hJ:s5.heap.get? a=some oJ:=S5.get_own (p:=(a,.obj oJ)) (La)
  rw[aa.length_mapIdx]at hdJ S5
  have hEn:s5.heap.get? (a+1)=some (iR a (ds.length:Nat) old):=S5.get_own (p:=(a+1,.obj (iR a (ds.length:Nat) old))) (Wa _ La)
  refine wpAny_pyNext_enum_end (it:=a) (l:=l) (i:=ds.length) hh hEn ⟨oJ,hJ,hcJ,hdJ⟩ pC.isList (by simp[NW.length]) λh2 zm=>out _ ?_
  exact(S5.gone (h':=h2) (tk:=s5.toks) λb o hb e=>zm b o hb e).drop
theorem C5.enumerate{x:Str}{p pos tp:Pos}{kt}{elts:aa Ba}{e:Ba}{ds:aa PyData}(hh:A.handled=none)(hf:ao w A B env Γ Δ (.Name x p) (.val (.type "enumerate")))(y:ao w A B env Γ Δ e (.list ds))(he:Aa (notStar e=true) aR):
  C5 w A B env Γ Δ (.Tuple elts kt tp) (.Call (.Name x p) [e] [] pos) (ds.mapIdx λi d=>.tuple [.int (i:Int),d]):=.mk λs E S=>by
 have he1:Rb [e] env=(false,eval e env)::Rb [] env:=aF _ _ _ he
 refine Ke rfl (hf.use S λf s1 k1 S1 r1=> ?_)
 obtain rfl:f=.type "enumerate":=r1
 refine PyProof.Rows.callWith_type1 (Pa ((k9.cons y .nil he).run S1) (λvs s2 q=> ?_) λz_ z_ z=>z) he1 rfl
 refine xA q λk2 q2=> ?_
 have S2:=S1.upd k2
 refine q2.c1 λv r1=> ?_
 obtain⟨l,vs,rfl,hl,hL,hr⟩:=Rd.E8 r1
 refine call_enumerate_list hL.isList λh' hE hI hz hk=> ?_
 refine wpAny_pyIter_enum hE ?_
 have S3:Sc ⟨B.s0,B.Xo,[(.ref l,.list ds)]++B.Φ⟩ env Γ Δ s2:=S2.ghost (v:=.ref l) (d:=.list ds) r1
 refine mO (id hI) λoI Jz hcI hdI=> ?_
 generalize ha:s2.heap.objs.size=a at *
 have fr:∀b,@Zc Nat _ a b→fT ⟨B.s0,B.Xo,[(.ref l,.list ds)]++B.Φ⟩ env Δ s2 b:=λb hb=>fT.up S3 (by rw[ha];exact hb)
 have S4:=S3.takes (Is:=[(a,.obj oI),(a+1,.obj (iR a 0 .none))]) (s':={s2 with heap:=h'}) ⟨h',s2.toks,rfl,hk⟩ (λp hp=>by
  simp only[Za,Vf,Rf]at hp
  rcases hp with rfl|rfl
  ·exact⟨fr _ (zb _),Jz⟩
  ·exact⟨fr _ (Of _),hE⟩) (by simp)
 exact⟨[(.ref l,.list ds)],λi Is=>∃oI old,Is=[(a,.obj oI),(a+1,.obj (iR a i old))]∧oI.cls=.type "list_iterator"∧oI.data=.fields #[.ref l,.int i 0],_,rU.enumerate hh La,⟨oI,.none,rfl,hcI,hdI⟩,S4⟩
end
section
variable{w:Oa}{K:Type}[Ec K]{knd:KeyKind pw w K}{enc:K→PyData}{A:Xa}{B:Bx}{s s':za}{env:Env}{Γ Γ':aa (Str×D)}{Δ Δ':aa (ia×MO)}{E:qa→za→Prop}{DD:aa (K×PyData)}
noncomputable def j6(d:ia)(i n ep:Nat)(ok ov:qa):Obj:={cls:=.type "dict_itemiterator",dict:=none,data:=.fields #[.none,.bool false,.ref d,.int i 0,.int n 0,.int ep 0,ok,ov],slots:= #[]}
theorem rU.items{a d:ia}{kvs:aa (K×qa)}{ep:Nat}{tp:Pos}{kt}{elts:aa Ba}(ki:iu knd enc)(hh:A.handled=none)(gh:(.ref d,.known (jJ knd d kvs ep DD))∈B.Φ):
  rU w A B env (.ref a) (.Tuple elts kt tp) (DD.map λp=>.tuple [enc p.1,p.2]) (λi Is=>∃ok ov,Is=[(a,.obj (j6 d i kvs.length ep ok ov))]) λz_=>True:=by
 refine⟨?_,?_,λz_ z_ z_=>trivial⟩
 ·rintro i Is Γ1 Δ1 s5 E5 dd Q pP ⟨ok,ov,rfl⟩ S5 out
  obtain⟨_,hx5,yZ,Qo⟩:=(id S5.fB gh:(jJ knd d kvs ep DD).P _ s5.heap (.ref d))
  rw[Ab]at pP
  obtain⟨p,hp,rfl⟩:=fc.mp pP
  refine bE (Qo.get hp) λv hv rv=> ?_
  have hI:s5.heap.get? a=some (j6 d i kvs.length ep ok ov):=S5.get_own (p:=(a,.obj _)) La
  refine wpAny_pyNext_items_item (it:=a) hI yZ hv λkey h2 aaP hO ht hz2 zm=>out _ _ λQ2 F5=> ?_
  refine wpAny_letOwnedTupleGo_items hO λh3 hI3 HN=> ?_
  have HN:ve a h2 h3:=HN
  have keep:∀b o,b≠a→s5.heap.get? b=some o→h3.get? b=some o:=λb o hb e=>(HN.2 b hb).trans (zm b o hb e)
  have S6:=S5.set_own (tk:=s5.toks) (h':=h3) (Δ':=(a,.obj (j6 d (i+1) kvs.length ep key v))::Δ1) .here keep hI3
  have NO:s5.heap.objs.size∉XX B.Xo env ([(a,MO.obj (j6 d i kvs.length ep ok ov))]++Δ1):=S5.fresh
  refine F5 _ _ ⟨key,v,rfl⟩ S6 ?_
  show Rd (XX B.Xo env ([(a,MO.obj (j6 d i kvs.length ep ok ov))]++Δ1)) h3 _ _
  have Px:s5.heap.objs.size≠a:=λq=>NO (by rw[q];exact XX.own (p:=(a,MO.obj (j6 d i kvs.length ep ok ov))) La)
  refine .tuple (vs:= #[key,v]) NO ((HN.2 _ Px).trans ht) rfl rfl (.cons (ki.rd aaP) (.cons (rv.at λb o hb e=>.inr ⟨hb,keep b o (λq=>hb ?_) e⟩) .nil))
  rw[q];exact XX.own (p:=(a,MO.obj (j6 d i kvs.length ep ok ov))) La
 ·rintro Is Γ1 Δ1 s5 E5 Q ⟨ok,ov,rfl⟩ S5 out
  obtain⟨_,hx5,yZ,Qo⟩:=(id S5.fB gh:(jJ knd d kvs ep DD).P _ s5.heap (.ref d))
  rw[Qa,←Qo.len]at S5
  have hI:s5.heap.get? a=some (j6 d kvs.length kvs.length ep ok ov):=S5.get_own (p:=(a,.obj _)) La
  exact wpAny_pyNext_items_end (it:=a) hh hI yZ (by simp) λh2 zm=>out _ (S5.gone (h':=h2) (tk:=s5.toks) λb o hb e=>zm b o hb e)
theorem C5.items{o:Ba}{apos pos tp:Pos}{kt}{elts:aa Ba}(ki:iu knd enc)(hh:A.handled=none)(x:ao w A B env Γ Δ o (.known (cC knd DD)))(hb:Aa (aO o=true) aR)(hl:Aa ((apos.endLine==pos.line)=true) aR):
  C5 w A B env Γ Δ (.Tuple elts kt tp) (.Call (.Attribute o (ya "items") apos) [] [] pos) (DD.map λp=>.tuple [enc p.1,p.2]):=.mk λs E S=>by
 refine Call_method0 (bU hb) hl (x.use S λv s1 k1 S1 r1=> ?_)
 obtain⟨d,kvs,rfl,hx,nM,hd,rp⟩:=r1
 refine xE hd.dictAt λep tB=> ?_
 refine⟨"dict",_,mj,PySem.F.slot_dict_items,PySem.F.type_dict_items,hd.typeIs,hd.mapOf.noDict,?_⟩
 refine method_meetsIn PySem.F.slot_dict_items PySem.F.entry_dict_items rfl (evalArgs_nil3 ⟨rfl,hd.typeIs,PySem.F.args_dict_items_1 _,_,meets_dict_items knd d nM,⟨kvs,hd⟩,?_⟩)
 have S2:=S1.upd (Kp.push s1 {cls:=.type "dict_items",data:=.fields #[.ref d]})
 have EI:(s1.heap.push {cls:=.type "dict_items",data:=.fields #[.ref d]}).DictAt knd d kvs ep:=tB.push _
 refine wpAny_pyIter_items (v:=s1.heap.objs.size) ⟨_,Zb _ rfl,rfl,rfl⟩ EI ?_
 have S3:Sc ⟨B.s0,B.Xo,[(.ref d,.known (jJ knd d kvs ep DD))]++B.Φ⟩ env Γ Δ {s1 with heap:=s1.heap.push {cls:=.type "dict_items",data:=.fields #[.ref d]}}:=
  S2.ghost (v:=.ref d) (d:=.known (jJ knd d kvs ep DD)) ⟨rfl,hx,EI,rp.at λb o hb e=>⟨hb,qc _ e⟩⟩
 have S4:=S3.take (.push _ (j6 d 0 kvs.length ep .none .none)) (m:=.obj (j6 d 0 kvs.length ep .none .none)) S3.next (Zb _ rfl)
 generalize ha:(({s1 with heap:=s1.heap.push {cls:=.type "dict_items",data:=.fields #[.ref d]}}:za).heap.objs.size:ia)=a at *
 exact⟨[(.ref d,.known (jJ knd d kvs ep DD))],λi Is=>∃ok ov,Is=[(a,.obj (j6 d i kvs.length ep ok ov))],_,rU.items ki hh La,⟨.none,.none,rfl⟩,S4⟩
theorem rU.values{a d:ia}{kvs:aa (K×qa)}{ep:Nat}{tgt:Ba}(hh:A.handled=none)(gh:(.ref d,.known (jJ knd d kvs ep DD))∈B.Φ):
  rU w A B env (.ref a) tgt (DD.map (·.2)) (λi Is=>∃oI:Obj,Is=[(a,.obj oI)]∧oI.cls=.type "dict_valueiterator"∧oI.data=.fields #[.ref d,.int i 0,.int kvs.length 0,.int ep 0]) λz_=>True:=by
 refine⟨?_,?_,λz_ z_ z_=>trivial⟩
 ·rintro i Is Γ1 Δ1 s5 E5 dd Q pP ⟨oI,rfl,hc,hdt⟩ S5 out
  obtain⟨_,hx5,yZ,Qo⟩:=(id S5.fB gh:(jJ knd d kvs ep DD).P _ s5.heap (.ref d))
  rw[Ab]at pP
  obtain⟨p,hp,rfl⟩:=fc.mp pP
  refine bE (Qo.get hp) λv hv rv=> ?_
  have hI:s5.heap.get? a=some oI:=S5.get_own (p:=(a,.obj oI)) La
  refine wpAny_pyNext_values_item (it:=a) ⟨oI,hI,hc,hdt⟩ yZ hv λh2 Y0 AJ=>out _ _ λQ2 F5=> ?_
  refine mO Y0 λo2 ho2 O7 hd2=> ?_
  have AJ:ve a s5.heap h2:=AJ
  have S6:=S5.set_own (tk:=s5.toks) (h':=h2) (Δ':=(a,.obj o2)::Δ1) .here (λb o hb e=>(AJ.2 b hb).trans e) ho2
  refine nO (I:=a) (o:=o2) ho2 (λn hn=>by rw[O7]at hn;cases hn;rfl) ?_
  refine F5 _ _ ⟨o2,rfl,O7,hd2⟩ S6 ?_
  show Rd (XX B.Xo env ([(a,MO.obj oI)]++Δ1)) h2 _ _
  exact rv.at λb o hb e=>.inr ⟨hb,(AJ.2 b λq=>hb (by rw[q];exact XX.own (p:=(a,MO.obj oI)) La)).trans e⟩
 ·rintro Is Γ1 Δ1 s5 E5 Q ⟨oI,rfl,hc,hdt⟩ S5 out
  obtain⟨_,hx5,yZ,Qo⟩:=(id S5.fB gh:(jJ knd d kvs ep DD).P _ s5.heap (.ref d))
  rw[Qa,←Qo.len]at hdt
  have hI:s5.heap.get? a=some oI:=S5.get_own (p:=(a,.obj oI)) La
  exact wpAny_pyNext_values_end (it:=a) hh ⟨oI,hI,hc,hdt⟩ yZ (by simp) λh2 zm=>out _ (S5.gone (h':=h2) (tk:=s5.toks) λb o hb e=>zm b o hb e)
theorem C5.values{o tgt:Ba}{apos pos:Pos}(hh:A.handled=none)(x:ao w A B env Γ Δ o (.known (cC knd DD)))(hb:Aa (aO o=true) aR)(hl:Aa ((apos.endLine==pos.line)=true) aR):
  C5 w A B env Γ Δ tgt (.Call (.Attribute o (ya "values") apos) [] [] pos) (DD.map (·.2)):=.mk λs E S=>by
 refine Call_method0 (bU hb) hl (x.use S λv s1 k1 S1 r1=> ?_)
 obtain⟨d,kvs,rfl,hx,nM,hd,rp⟩:=r1
 refine xE hd.dictAt λep tB=> ?_
 refine⟨"dict",_,mj,PySem.F.slot_dict_values,PySem.F.type_dict_values,hd.typeIs,hd.mapOf.noDict,?_⟩
 refine method_meetsIn PySem.F.slot_dict_values PySem.F.entry_dict_values rfl (evalArgs_nil3 ⟨rfl,hd.typeIs,PySem.F.args_dict_values_1 _,_,meets_dict_values knd d nM,⟨kvs,hd⟩,?_⟩)
 have S2:=S1.upd (Kp.push s1 {cls:=.type "dict_values",data:=.fields #[.ref d]})
 have EI:(s1.heap.push {cls:=.type "dict_values",data:=.fields #[.ref d]}).DictAt knd d kvs ep:=tB.push _
 refine wpAny_pyIter_values (v:=s1.heap.objs.size) ⟨_,Zb _ rfl,rfl,rfl⟩ EI ?_
 have S3:Sc ⟨B.s0,B.Xo,[(.ref d,.known (jJ knd d kvs ep DD))]++B.Φ⟩ env Γ Δ {s1 with heap:=s1.heap.push {cls:=.type "dict_values",data:=.fields #[.ref d]}}:=
  S2.ghost (v:=.ref d) (d:=.known (jJ knd d kvs ep DD)) ⟨rfl,hx,EI,rp.at λb o hb e=>⟨hb,qc _ e⟩⟩
 have S4:=S3.take (.push _ {cls:=.type "dict_valueiterator",data:=.fields #[.ref d,.int 0 0,.int kvs.length 0,.int ep 0]}) (m:=.obj {cls:=.type "dict_valueiterator",data:=.fields #[.ref d,.int 0 0,.int kvs.length 0,.int ep 0]}) S3.next (Zb _ rfl)
 generalize ha:(({s1 with heap:=s1.heap.push {cls:=.type "dict_values",data:=.fields #[.ref d]}}:za).heap.objs.size:ia)=a at *
 exact⟨[(.ref d,.known (jJ knd d kvs ep DD))],λi Is=>∃oI:Obj,Is=[(a,.obj oI)]∧oI.cls=.type "dict_valueiterator"∧oI.data=.fields #[.ref d,.int i 0,.int kvs.length 0,.int ep 0],_,rU.values hh La,⟨_,rfl,rfl,rfl⟩,S4⟩
end
section
variable{w:Oa}{A:Xa}{B:Bx}{s s':za}{env:Env}{Γ Γ':aa (Str×D)}{Δ Δ':aa (ia×MO)}{E:qa→za→Prop}
theorem ao.call2{x:Str}{p pos:Pos}{e1 e2:Ba}{d1 d2 d:D}{id:Yb}(hf:ao w A B env Γ Δ (.Name x p) (.val (.builtin id)))(a:ao w A B env Γ Δ e1 d1)(b:ao w A B env Γ Δ e2 d2)
  (hc:∀u v s E,Sc B env Γ Δ s→De (XX B.Xo env Δ) s.heap u d1→De (XX B.Xo env Δ) s.heap v d2→Ia (Md w) A (call (.builtin id) [u,v]) (λv s'=>Kp s s'∧De (XX B.Xo env Δ) s'.heap v d) E s)
  (h1:Aa (notStar e1=true) aR)(h2:Aa (notStar e2=true) aR):ao w A B env Γ Δ (.Call (.Name x p) [e1,e2] [] pos) d:=.mk λs E S=>by
 refine Ke rfl (hf.use S λf s1 k1 S1 r1=> ?_)
 obtain rfl:f=.builtin id:=r1
 have he:Rb [e1,e2] env=(false,eval e1 env)::Rb [e2] env:=aF _ _ _ h1
 refine Fj ?_ he (by rw[aF _ _ _ h2];rfl)
 refine(he ..).symm▸(aF _ _ _ h2 ..).symm▸ ?_
 refine Le (a.use S1 λu s2 k2 S2 r2=>Le (b.use S2 λv s3 k3 S3 r3=>bg ?_))
 exact Pa (hc u v s3 E S3 (r2.up k3.up) r3) (λv s4 q=>⟨((k1.trans' k2).trans' k3).trans' q.1,q.2⟩) λz_ z_ z=>z
theorem ao.xw{x:Str}{p pos:Pos}{e1 e2:Ba}{i:Int}(hf:ao w A B env Γ Δ (.Name x p) (.val (.builtin "isinstance")))(a:ao w A B env Γ Δ e1 (.int i))(b:ao w A B env Γ Δ e2 (.val (.type "tuple")))
  (h1:Aa (notStar e1=true) aR)(h2:Aa (notStar e2=true) aR):ao w A B env Γ Δ (.Call (.Name x p) [e1,e2] [] pos) (.bool false):=
 hf.call2 a b (λu v s E S r1 r2=>by
  refine r1.kQ λt=> ?_
  obtain rfl:v=.type "tuple":=r2
  exact PySem.IsiPair.int_tuple ⟨.tok ..,.bool _⟩) h1 h2
theorem Sc.load(S:Sc B env Γ Δ s){x:Str}{d:D}{Q:qa→za→Prop}(hm:(x,d)∈Γ)(h:∀v,De (XX B.Xo env Δ) s.heap v d→Q v s)(hu:Aa (d.ok=true) aR)(hk:Aa (env.scope.kind=.function) aK):Ia (Md w) A (loadName env x) Q E s:=by
 refine bE (S.vars _ hm (D.ne hu)) λv b r=> ?_
 have q:=h v r
 rcases b with⟨a,mm,hn,hm⟩|⟨a|⟨a,a'⟩,c,hc,hv⟩
 ·exact wpAny_loadName_local hk a hn hm q
 ·exact wpAny_loadName_cell hk a hc hv q
 ·exact wpAny_loadName_free hk a hc hv q a'
theorem Qw{x:Str}{pos' pos:Pos}{value:Ba}{a b:Int}{rest:aa Va}{Q:Flow→za→Prop}(S:Sc B env Γ Δ s)(hm:(x,D.int a)∈Γ)(e:ao w A B env Γ Δ value (.int b))(t:aX x (.int (a+b)) Γ Γ')(K:cG B env x)
  (h:∀s',Sc B env Γ' Δ s'→Ex w A env rest Q E s')(hk:Aa (env.scope.kind=.function) aK):Ex w A env (.AugAssign (.Name x pos') .Add value pos::rest) Q E s:=
 ⟨Kc (wpAny_AugAssign_Name (S.load hm (λv r=>e.use S λu s1 k1 S1 r1=>by
  obtain⟨t1,rfl⟩:=De.bx r
  refine r1.kQ λt2=> ?_
  exact PySem.P.iadd_int ((S1.upd (.tok ..)).store t K (show De _ _ _ (.int _)from .int ..) (λs' S' z_=>(h s' S').run) hk)) rfl hk))⟩
end
end Mine
namespace Mine
open PySem PySem.Sre
section
variable{m:M}
theorem CT(ho:m.outcome=none)(ha:m.answer=none)(hp:m.pc<m.code.size):m.step=m.exec:=by
 unfold M.step;rw[ho,ha];simp[hp]
theorem iE{yes:Ga}{f:Sre.Frame}{r:aa Sre.Frame}(ho:m.outcome=none)(ha:m.answer=some yes)(hf:m.frames=f::r):
  m.step=M.resume {m with answer:=none,frames:=r,weight:=m.weight-(1+f.kept.marks.size),pc:=f.pc,pos:=f.pos,outermost:=f.outermost} f yes:=by
 unfold M.step;rw[ho,ha,hf];simp
theorem GY{yes:Ga}(ho:m.outcome=none)(ha:m.answer=some yes)(hf:m.frames=[]):m.step={m with outcome:=some (if yes then .matched else .failed)}:=by
 unfold M.step;rw[ho,ha,hf];simp
theorem jo{f:Sre.Frame}{t p:Nat}{o:Ga}(h:m.weight+1+f.kept.marks.size≤16777216):
  m.attempt f t p o={m with frames:=f::m.frames,weight:=m.weight+1+f.kept.marks.size,pc:=t,pos:=p,handed:=p,outermost:=o}:=by
 unfold M.attempt;rw[if_neg (by exact Uv h)]
noncomputable def Goes(n:Nat)(m:M)(P:M→Prop):Prop:=∃k,k≤n∧((m.runFor k).outcome.isSome=true∧P (m.runFor k))
theorem iD:∀(k:Nat) (m:M),m.outcome.isSome=true→m.runFor k=m
 |0,_,_=>rfl
 |k+1,m,h=>if_pos h
theorem Goes.step{n:Nat}{P:M→Prop}(ho:m.outcome=none){m':M}(e:m.step=m')(g:Goes n m' P):Goes (n+1) m P:=by
 refine bE g λk hk h=> ?_
 refine⟨k+1,by exact Nat.add_le_add_right hk 1,?_⟩
 have:m.runFor (k+1)=m'.runFor k:=by
  show(if m.outcome.isSome then m else m.step.runFor k)=_
  rw[ho,e];rfl
 rw[this];exact h
theorem Goes.done{n:Nat}{P:M→Prop}(ho:m.outcome.isSome=true)(h:P m):Goes n m P:=⟨0,Uc _,ho,h⟩
theorem Goes.more{n n':Nat}{P:M→Prop}(h:n≤n')(g:Goes n m P):Goes n' m P:=by
 obtain⟨k,hk,g⟩:=g;exact⟨k,by exact Na hk h,g⟩
variable{n:Nat}{P:M→Prop}
noncomputable def NH(m:M):{F:Ma Op→M//∀x,ops[m.code.getD m.pc 0]? =x→m.exec=F x}:=by
 refine⟨?F,?h⟩
 case h=>
  intro x hx
  unfold M.exec M.word
  rw[Nat.add_zero,hx]
theorem Goes.op{o:Op}{m':M}(ho:m.outcome=none)(ha:m.answer=none)(hp:zd m.pc m.code.size=true)(tD:ops[m.code.getD m.pc 0]? =some o)(h:(NH m).1 (some o)=m')(g:Goes n m' P):Goes (n+1) m P:=
 .step ho ((CT ho ha (Mb hp)).trans (((NH m).2 _ tD).trans h)) g
theorem n8(tD:ops[m.code.getD m.pc 0]? =some .LITERAL)(c:Nat)(sn:Seen):accepts m.code m.pc c sn=.ok (c==m.code.getD (m.pc+1) 0,sn):=by
 unfold accepts;rw[tD]
theorem Goes.qV(ho:m.outcome=none)(ha:m.answer=none)(hp:zd m.pc m.code.size=true)(tD:ops[m.code.getD m.pc 0]? =some .LITERAL)(hl:m.pos<m.lim)(hc:m.text.getD m.pos 0=m.code.getD (m.pc+1) 0)
  (g:∀sn,Goes n {m with seen:=sn,pc:=m.pc+2,pos:=m.pos+1} P):Goes (n+1) m P:=by
 refine .op ho ha hp tD ?_ (g (m.seen.add (m.code.getD m.pc 0)))
 refine(if_neg (Nat.not_le_of_lt hl)).trans ?_
 have e2:itemWidth m.code m.pc=2:=by unfold itemWidth;rw[tD]
 refine((n8 tD _ _).trans (Cc (λb=>Except.ok (b,_)) (Vd.mpr hc))).symm▸e2▸rfl
theorem Goes.qU(ho:m.outcome=none)(ha:m.answer=none)(hp:zd m.pc m.code.size=true)(tD:ops[m.code.getD m.pc 0]? =some .LITERAL)(hl:m.lim≤m.pos∨m.text.getD m.pos 0≠m.code.getD (m.pc+1) 0)
  (g:∀sn,Goes n {m with seen:=sn,answer:=some false} P):Goes (n+1) m P:=by
 refine .op ho ha hp tD ?_ (g (m.seen.add (m.code.getD m.pc 0)))
 by_cases h:m.lim≤m.pos
 ·exact if_pos h
 ·refine(if_neg h).trans ?_
  refine((n8 tD _ _).trans (Cc (λb=>Except.ok (b,_)) (Zj.mpr (hl.resolve_left h)))).symm▸rfl
theorem Goes.PC(ho:m.outcome=none)(ha:m.answer=none)(hp:zd m.pc m.code.size=true)(tD:ops[m.code.getD m.pc 0]? =some .JUMP)
  (g:∀sn,Goes n {m with seen:=sn,pc:=m.pc+1+m.code.getD (m.pc+1) 0} P):Goes (n+1) m P:=
 .op ho ha hp tD rfl (g (m.seen.add (m.code.getD m.pc 0)))
theorem Goes.success(ho:m.outcome=none)(ha:m.answer=none)(hp:zd m.pc m.code.size=true)(tD:ops[m.code.getD m.pc 0]? =some .SUCCESS)(hw:m.wholeText=false)(hm:m.mustAdvance=false)
  (g:∀sn,Goes n {m with seen:=sn,handed:=m.pos,answer:=some true} P):Goes (n+1) m P:=by
 refine .op ho ha hp tD ?_ (g (m.seen.add (m.code.getD m.pc 0)))
 refine if_neg ?_
 show¬(m.outermost&&(m.wholeText&&_||m.mustAdvance&&_))=true
 rw[hw,hm];cases m.outermost<;> exact nofun
theorem Goes.branch{j:Nat}(ho:m.outcome=none)(ha:m.answer=none)(hp:zd m.pc m.code.size=true)(tD:ops[m.code.getD m.pc 0]? =some .BRANCH)(hj:j=m.pc+1)(hi:m.inner=none)(g9:(m.code.getD j 0==0)=false)(EY:zd m.weight 1000=true)
  (g:∀sn,Goes n {m with seen:=sn,frames:={m.frame .nextBranch with pc:=j,kept:=m.keep false}::m.frames,weight:=m.weight+1,pc:=j+1,handed:=m.pos} P):Goes (n+1) m P:=by
 subst hj
 refine .op ho ha hp tD ?_ (g (m.seen.add (m.code.getD m.pc 0)))
 have e:m.inner.isSome=false:=by rw[hi];rfl
 refine(if_neg (g9▸nofun)).trans ((jo ?_).trans (Cc (λb=>({m with seen:=m.seen.add (m.code.getD m.pc 0),frames:={m.frame .nextBranch with pc:=m.pc+1,kept:=m.keep b}::m.frames,weight:=m.weight+1+(m.keep b).marks.size,pc:=m.pc+1+1,handed:=m.pos}:M)) e))
 show m.weight+1+(m.keep m.inner.isSome).marks.size≤_;rw[e]
 exact Dc (Mb EY) (by decide)
theorem Goes.BG{j:Nat}(ho:m.outcome=none)(ha:m.answer=none)(hp:zd m.pc m.code.size=true)(tD:ops[m.code.getD m.pc 0]? =some .ASSERT_NOT)(hb:m.code.getD (m.pc+2) 0=0)(hi:m.inner=none)(EY:zd m.weight 1000=true)
  (g:∀sn,Goes n {m with seen:=sn,frames:={m.frame .lookNot with kept:=m.keep false}::m.frames,weight:=m.weight+1,pc:=m.pc+3,handed:=m.pos,outermost:=false} P):Goes (n+1) m P:=by
 refine .op ho ha hp tD ?_ (g (m.seen.add (m.code.getD m.pc 0)))
 have e:m.inner.isSome=false:=by rw[hi];rfl
 refine(if_neg (Nat.not_lt_of_le (Na (zh hb) (Uc _)))).trans ((jo ?_).trans ?_)
 ·show m.weight+1+(m.keep m.inner.isSome).marks.size≤_;rw[e]
  exact Dc (Mb EY) (by decide)
 ·refine(Cc (λb=>({m with seen:=m.seen.add (m.code.getD m.pc 0),frames:={m.frame .lookNot with kept:=m.keep b}::m.frames,weight:=m.weight+1+(m.keep b).marks.size,pc:=m.pc+3,pos:=m.pos-m.code.getD (m.pc+2) 0,handed:=m.pos-m.code.getD (m.pc+2) 0,outermost:=false}:M)) e).trans ?_
  rw[hb];rfl
theorem Goes.BH{b:Ga}(ho:m.outcome=none)(ha:m.answer=none)(hp:zd m.pc m.code.size=true)(tD:ops[m.code.getD m.pc 0]? =some .AT)(hk:m.code.getD (m.pc+1) 0=1)(hb:(m.pos==0||m.text.getD (m.pos-1) 0==10)=b)
  (g:∀sn,Goes n (if b then {m with seen:=sn,pc:=m.pc+2}else {m with seen:=sn,answer:=some false}) P):Goes (n+1) m P:=by
 refine .op ho ha hp tD ?_ (g ((m.seen.add (m.code.getD m.pc 0)).add (43+m.code.getD (m.pc+1) 0)))
 have e:M.isAt {m with seen:=m.seen.add (m.code.getD m.pc 0)} 1=.ok b:=Cc Except.ok hb
 conv =>lhs;whnf
 rw[show M.isAt _ _=.ok b from(Cc (M.isAt _) hk).trans e]
 cases b<;> rfl
theorem Goes.yes{f:Sre.Frame}{r:aa Sre.Frame}(ho:m.outcome=none)(ha:m.answer=some true)(hf:m.frames=f::r)(hw:f.wait=.nextStart∨f.wait=.nextBranch)
  (g:Goes n {m with answer:=some true,frames:=r,weight:=m.weight-(1+f.kept.marks.size),pc:=f.pc,pos:=f.pos,outermost:=f.outermost} P):Goes (n+1) m P:=by
 refine .step ho (iE ho ha hf) ?_
 unfold M.resume
 rcases hw with h|h<;> rw[h]<;> exact g
theorem Goes.alt{r:aa Sre.Frame}{j p q lo:Nat}{o:Ga}{c lm li:Int}{be:Ma Nat}(ho:m.outcome=none)(ha:m.answer=some false)(hf:m.frames=⟨.nextBranch,p,q,o,c,⟨lm,li,false,#[]⟩,lo,be⟩::r)
  (hj:p+m.code.getD p 0=j)(g9:(m.code.getD j 0==0)=false)(EY:zd m.weight 1000=true)
  (g:Goes n {m with answer:=none,frames:={wait:=.nextBranch,pc:=j,pos:=q,outermost:=o,kept:=⟨lm,li,false,#[]⟩}::r,weight:=m.weight-1+1,pc:=j+1,pos:=q,handed:=q,outermost:=o,lastmark:=lm,lastindex:=li} P):Goes (n+1) m P:=by
 subst hj
 refine .step ho ((iE ho ha hf).trans (Eq.trans (if_neg ?_) (jo ?_))) g
 ·exactλh=>Bj (g9.symm.trans h)
 ·show m.weight-(1+0)+1+0≤_;exact UR rfl (Mb EY)
theorem Goes.Kq{r:aa Sre.Frame}{p q lo:Nat}{o:Ga}{c lm li:Int}{be:Ma Nat}(ho:m.outcome=none)(ha:m.answer=some false)(hf:m.frames=⟨.lookNot,p,q,o,c,⟨lm,li,false,#[]⟩,lo,be⟩::r)
  (g:Goes n {m with answer:=none,frames:=r,weight:=m.weight-1,pc:=p+1+m.code.getD (p+1) 0,pos:=q,outermost:=o,lastmark:=lm,lastindex:=li} P):Goes (n+1) m P:=
 .step ho (iE ho ha hf) g
theorem Goes.over{yes:Ga}(ho:m.outcome=none)(ha:m.answer=some yes)(hf:m.frames=[])(h:P {m with outcome:=some (if yes then .matched else .failed)}):Goes (n+1) m P:=
 .step ho (GY ho ha hf) (.done rfl h)
noncomputable def jL(code text:Ua Nat)(lim last s pc:Nat)(first :Ga)(sn:Seen):M:=
 {code,text,lim,start:=s,lastStart:=last,pc,pos:=s,handed:=s,outermost:=first,marks:= #[],frames:=[{wait:=.nextStart,pc,pos:=s,outermost:=first}],weight:=1,seen:=sn}
theorem oq{m:M}{fuel s:Nat}{sn Qu:Seen}{b:Ga}(h:¬s≥m.lim)(e:inSet m.code (m.text.getD s 0) m.code.size 5 true sn=.ok (b,Qu)):M.admitted m (fuel+1) s sn=cond b (.ok (some s,Qu)) (M.admitted m fuel (s+1) Qu):=
 (if_neg h).trans (match b,e with|true,e=>e.symm▸rfl|false,e=>e.symm▸rfl)
theorem rY{m:M}{T:Nat→Ga}(HG:∀c sn,∃rS,inSet m.code c m.code.size 5 true sn=.ok (T c,rS)){q:Nat}(hq:q<m.lim)(hT:T (m.text.getD q 0)=true)(fuel:Nat):
  ∀(s:Nat) (sn:Seen),s≤q→q<s+fuel→(∀i,s≤i→i<q→T (m.text.getD i 0)=false)→∃rS,M.admitted m fuel s sn=.ok (some q,rS):=by
 induction fuel with
 |zero=>exactλs sn h1 h2 h3=>by exact Ye (MR h1 h2)
 |succ fuel ih=>
  intro s sn h1 h2 h3
  refine xE (HG (m.text.getD s 0) sn) λQu e=> ?_
  rw[oq (by exact VZ hq h1) e]
  by_cases hs:s=q
  ·subst hs;rw[hT];exact⟨_,rfl⟩
  ·rw[h3 s (zb _) (by exact Nat.lt_of_le_of_ne h1 hs)]
   exact ih (s+1) Qu (by exact US h1 hs) (by exact M0 h2) λi a b=>h3 i (by exact Xc a) b
theorem rX{m:M}{T:Nat→Ga}(HG:∀c sn,∃rS,inSet m.code c m.code.size 5 true sn=.ok (T c,rS))(fuel:Nat):
  ∀(s:Nat) (sn:Seen),(∀i,s≤i→i<m.lim→T (m.text.getD i 0)=false)→∃rS,M.admitted m fuel s sn=.ok (none,rS):=by
 induction fuel with
 |zero=>exactλs sn h3=>⟨_,rfl⟩
 |succ fuel ih=>
  intro s sn h3
  refine xE (HG (m.text.getD s 0) sn) λQu e=> ?_
  by_cases hs:s≥m.lim
  ·exact⟨_,if_pos hs⟩
  ·rw[oq hs e,h3 s (zb _) (by exact Nat.not_le.mp hs)]
   exact ih (s+1) Qu λi a b=>h3 i (by exact Xc a) b
noncomputable def Found(q e:Nat)(m:M):Prop:=(∃h:m.outcome=some .matched,True)∧m.start=q∧m.handed=e
noncomputable def mW(m:M):Prop:=∃h:m.outcome=some .failed,True
noncomputable def lU:Ua Nat:= #[14,9,4,1,2,16,10,16,13,0,7,7,16,13,16,10,15,18,5,16,10,15,13,11,16,13,5,5,0,16,10,1,15,2,0,1]
noncomputable def eV(c:Nat):Ga:=c==10||c==13
theorem jB{b:Ga}(h:b=false):¬b=true:=λe=>Bj (h.symm.trans e)
theorem E3(c:Nat)(sn:Seen):∃rS,inSet lU c lU.size 5 true sn=.ok (eV c,rS):=by
 show∃rS,inSet lU c 36 5 true sn=.ok (c==10||c==13,rS)
 cases h:c==10 with
 |true=>exact⟨_,if_pos h⟩
 |false=>
  cases g:c==13 with
  |true=>exact⟨_,(if_neg (jB h)).trans (if_pos g)⟩
  |false=>exact⟨_,(if_neg (jB h)).trans (if_neg (jB g))⟩
noncomputable def dM(text:Ua Nat)(lim q:Nat):Nat:=if text.getD q 0==13&&decide (q+1<lim) &&text.getD (q+1) 0==10 then 2 else 1
theorem aa7{text:Ua Nat}{lim last q:Nat}{first :Ga}{sn:Seen}(hq:q<lim)(hE:eV (text.getD q 0)=true):Goes 40 (jL lU text lim last q 10 first sn) (Found q (q+dM text lim q)):=by
 refine .branch (j:=11) rfl rfl rfl rfl rfl rfl rfl rfl λz_=> ?_
 dsimp only[jL,M.frame,M.keep]
 by_cases NJ:text.getD q 0=13
 ·refine .qV rfl rfl rfl rfl hq NJ λz_=> ?_
  by_cases wW:q+1<lim∧text.getD (q+1) 0=10
  ·have e:dM text lim q=2:=by unfold dM;rw[NJ,wW.2];simp[wW.1]
   refine(e ..).symm▸ ?_
   refine .qV rfl rfl rfl rfl wW.1 wW.2 λz_=> ?_
   dsimp only[jL,M.frame,M.keep]
   refine .PC rfl rfl rfl rfl λz_=> ?_
   dsimp only[jL,M.frame,M.keep]
   refine .success rfl rfl rfl rfl rfl rfl λz_=> ?_
   dsimp only[jL,M.frame,M.keep]
   refine .yes rfl rfl rfl (.inr rfl) ?_
   dsimp only[jL,M.frame,M.keep]
   refine .yes rfl rfl rfl (.inl rfl) ?_
   dsimp only[jL,M.frame,M.keep]
   exact .over rfl rfl rfl ⟨⟨rfl,trivial⟩,rfl,rfl⟩
  ·have e:dM text lim q=1:=by
    unfold dM
    rw[if_neg]
    intro h
    simp only[Bd,Hf,Vd]at h
    exact wW ⟨h.1.2,h.2⟩
   refine(e ..).symm▸ ?_
   have no:lim≤q+1∨text.getD (q+1) 0≠10:=by
    by_cases h:q+1<lim
    ·exact .inr λc=>wW ⟨h,c⟩
    ·exact .inl (by exact Fi h)
   refine .qU rfl rfl rfl rfl no λz_=> ?_
   dsimp only[jL,M.frame,M.keep]
   refine .alt (j:=18) rfl rfl rfl rfl rfl rfl ?_
   dsimp only[jL,M.frame,M.keep]
   refine .qU rfl rfl rfl rfl (.inr (by show text.getD q 0≠10;exact SR NJ)) λz_=> ?_
   dsimp only[jL,M.frame,M.keep]
   refine .alt (j:=23) rfl rfl rfl rfl rfl rfl ?_
   dsimp only[jL,M.frame,M.keep]
   refine .qV rfl rfl rfl rfl hq NJ λz_=> ?_
   dsimp only[jL,M.frame,M.keep]
   refine .BG (j:=0) rfl rfl rfl rfl rfl rfl rfl λz_=> ?_
   dsimp only[jL,M.frame,M.keep]
   refine .qU rfl rfl rfl rfl no λz_=> ?_
   dsimp only[jL,M.frame,M.keep]
   refine .Kq rfl rfl rfl ?_
   dsimp only[jL,M.frame,M.keep]
   refine .PC rfl rfl rfl rfl λz_=> ?_
   dsimp only[jL,M.frame,M.keep]
   refine .success rfl rfl rfl rfl rfl rfl λz_=> ?_
   dsimp only[jL,M.frame,M.keep]
   refine .yes rfl rfl rfl (.inr rfl) ?_
   dsimp only[jL,M.frame,M.keep]
   refine .yes rfl rfl rfl (.inl rfl) ?_
   dsimp only[jL,M.frame,M.keep]
   exact .over rfl rfl rfl ⟨⟨rfl,trivial⟩,rfl,rfl⟩
 ·have wW:text.getD q 0=10:=by
   unfold eV at hE
   simp only[wj,Vd]at hE
   exact Tr NJ hE
  have e:dM text lim q=1:=by unfold dM;rw[wW];rfl
  refine(e ..).symm▸ ?_
  refine .qU rfl rfl rfl rfl (.inr NJ) λz_=> ?_
  dsimp only[jL,M.frame,M.keep]
  refine .alt (j:=18) rfl rfl rfl rfl rfl rfl ?_
  dsimp only[jL,M.frame,M.keep]
  refine .qV rfl rfl rfl rfl hq wW λz_=> ?_
  dsimp only[jL,M.frame,M.keep]
  refine .PC rfl rfl rfl rfl λz_=> ?_
  dsimp only[jL,M.frame,M.keep]
  refine .success rfl rfl rfl rfl rfl rfl λz_=> ?_
  dsimp only[jL,M.frame,M.keep]
  refine .yes rfl rfl rfl (.inr rfl) ?_
  dsimp only[jL,M.frame,M.keep]
  refine .yes rfl rfl rfl (.inl rfl) ?_
  dsimp only[jL,M.frame,M.keep]
  exact .over rfl rfl rfl ⟨⟨rfl,trivial⟩,rfl,rfl⟩
theorem uy{m:M}{s:Nat}{first :Ga}(h:m.weight=0)(hf:m.frames=[]):
  m.attemptAt s first ={m with start:=s,pos:=s,lastmark:= -1,lastindex:= -1,frames:=[{wait:=.nextStart,pc:=m.pc,pos:=s,outermost:=first}],weight:=1,handed:=s,outermost:=first}:=by
 unfold M.attemptAt
 rw[jo (by show m.weight+1+0≤_;exact SS h)]
 simp[h,hf]
theorem BX{m:M}{T:Nat→Ga}{q s:Nat}{first :Ga}{n:Nat}{P:M→Prop}(HG:∀c sn,∃rS,inSet m.code c m.code.size 5 true sn=.ok (T c,rS))(NP:m.hasFirstSet=true)(hw:m.weight=0)(hf:m.frames=[])
  (hq:q<m.lim)(hT:T (m.text.getD q 0)=true)(hs:s≤q)(qK:∀i,s≤i→i<q→T (m.text.getD i 0)=false)
  (g:∀sn,Goes n {m with mustAdvance:=false,seen:=sn,start:=q,pos:=q,lastmark:= -1,lastindex:= -1,frames:=[{wait:=.nextStart,pc:=m.pc,pos:=q,outermost:=first}],weight:=1,handed:=q,outermost:=first} P):
  Goes n (m.attemptFrom s first) P:=by
 refine xE (rY HG hq hT (m.lim+1-s) s m.seen hs (by exact Vx hq) qK) λsn e=> ?_
 have e0:m.attemptFrom s first =M.attemptAt {m with mustAdvance:=false,seen:=sn} q first :=(if_neg (by rw[NP];exact nofun)).trans (e.symm▸rfl)
 exact(e0.trans (uy (m:={m with mustAdvance:=false,seen:=sn}) hw hf)).symm▸g sn
theorem nJ{m:M}{T:Nat→Ga}{s:Nat}{first :Ga}{n:Nat}(HG:∀c sn,∃rS,inSet m.code c m.code.size 5 true sn=.ok (T c,rS))(NP:m.hasFirstSet=true)(hf:m.frames=[])(ho:m.outcome=none)
  (qK:∀i,s≤i→i<m.lim→T (m.text.getD i 0)=false):Goes (n+1) (m.attemptFrom s first) mW:=by
 refine xE (rX HG (m.lim+1-s) s m.seen qK) λsn e=> ?_
 have e0:m.attemptFrom s first =M.say {m with seen:=sn} false:=(if_neg (by rw[NP];exact nofun)).trans (e.symm▸rfl)
 exact e0.symm▸.over (yes:=false) ho rfl hf ⟨rfl,trivial⟩
theorem u6{text:Ua Nat}{pos lim:Nat}(qK:∀i,pos≤i→i<lim→eV (text.getD i 0)=false):Goes 1 (forSearch lU text 0 pos lim false) mW:=by
 unfold forSearch
 dsimp only
 split
 ·exact .over (yes:=false) rfl rfl rfl ⟨rfl,trivial⟩
 ·exact nJ (T:=eV) (λc sn=>E3 c sn) rfl rfl rfl qK
theorem u7{text:Ua Nat}{pos lim q:Nat}(hs:pos≤q)(hq:q<lim)(hE:eV (text.getD q 0)=true)(qK:∀i,pos≤i→i<q→eV (text.getD i 0)=false):
  Goes 40 (forSearch lU text 0 pos lim false) (Found q (q+dM text lim q)):=by
 unfold forSearch
 dsimp only
 rw[if_neg (by
  simp only[wj,Hf]
  show¬(pos>lim∨lim-pos<1)
  exact Nl hs hq)]
 exact BX (T:=eV) (λc sn=>E3 c sn) rfl rfl rfl hq hE hs qK λsn=>aa7 (last:=lim) (first :=true) (sn:=sn) hq hE
noncomputable def fW:Ua Nat:= #[14,4,0,1,1,6,1,16,46,1]
noncomputable def bol(text:Ua Nat)(q:Nat):Ga:=q==0||text.getD (q-1) 0==10
noncomputable def fG(text:Ua Nat)(lim q:Nat):Ga:=bol text q&&decide (q<lim) &&text.getD q 0==46
theorem Gv{text:Ua Nat}{lim q:Nat}{first :Ga}{sn:Seen}(h:fG text lim q=true):Goes 8 (jL fW text lim lim q 5 first sn) (Found q (q+1)):=by
 simp only[fG,Bd,Hf,Vd]at h
 refine .BH (b:=true) rfl rfl rfl rfl rfl h.1.1 λz_=> ?_
 rw[if_pos rfl]
 dsimp only[jL,M.frame,M.keep]
 refine .qV rfl rfl rfl rfl h.1.2 h.2 λz_=> ?_
 dsimp only
 refine .success rfl rfl rfl rfl rfl rfl λz_=> ?_
 dsimp only
 refine .yes rfl rfl rfl (.inl rfl) ?_
 dsimp only
 exact .over rfl rfl rfl ⟨⟨rfl,trivial⟩,rfl,rfl⟩
theorem nX{text:Ua Nat}{lim q n:Nat}{first :Ga}{sn:Seen}{P:M→Prop}(h:fG text lim q=false)(g:∀sn,q<lim→Goes n (jL fW text lim lim (q+1) 5 false sn) P)(g':lim≤q→∀m,mW m→P m):
  Goes (n+5) (jL fW text lim lim q 5 first sn) P:=by
 have fin:∀(pc:Nat) (sn:Seen),Goes (n+3) {jL fW text lim lim q 5 first sn with pc:=pc,answer:=some false} P:=λpc sn=>by
  refine .step rfl (iE rfl rfl rfl) ?_
  by_cases hq:q<lim
  ·refine .more (n:=n) (by exact Tc _ 2) ?_
   have e:M.resume {jL fW text lim lim q 5 first sn with pc:=5,answer:=none,frames:=[],weight:=0} {wait:=.nextStart,pc:=5,pos:=q,outermost:=first} false=jL fW text lim lim (q+1) 5 false sn:=by
    unfold M.resume
    show(if q<lim then _ else _)=_
    rw[if_pos hq]
    rfl
   have g1:=g sn hq
   rw[←e]at g1
   exact g1
  ·have e:M.resume {jL fW text lim lim q 5 first sn with pc:=5,answer:=none,frames:=[],weight:=0} {wait:=.nextStart,pc:=5,pos:=q,outermost:=first} false={jL fW text lim lim q 5 first sn with pc:=5,answer:=some false,frames:=[],weight:=0}:=by
    unfold M.resume
    show(if q<lim then _ else _)=_
    rw[if_neg hq]
    rfl
   have g1:Goes (n+2) {jL fW text lim lim q 5 first sn with pc:=5,answer:=some false,frames:=[],weight:=0} P:=.over (n:=n+1) (yes:=false) rfl rfl rfl (g' (by exact Fi hq) _ ⟨rfl,trivial⟩)
   rw[←e]at g1
   exact g1
 cases hb:bol text q with
 |false=>
  refine .BH (b:=false) rfl rfl rfl rfl rfl hb λsn=> ?_
  exact .more (by exact Of (_+3)) (fin 5 sn)
 |true=>
  refine .BH (b:=true) rfl rfl rfl rfl rfl hb λsn=> ?_
  rw[if_pos rfl]
  refine .qU rfl rfl rfl rfl ?_ λsn=> ?_
  ·unfold fG at h
   rw[hb]at h
   by_cases hl:q<lim
   ·have h2:text.getD q 0≠46:=λe=>by rw[e]at h;simp[hl]at h
    exact .inr h2
   ·have h2:lim≤q:=by exact Fi hl
    exact .inl h2
  ·exact fin 7 sn
theorem tY{text:Ua Nat}{lim q:Nat}(h:fG text lim q=true):∀(d s:Nat) (first :Ga) (sn:Seen),s+d=q→(∀i,s≤i→i<q→fG text lim i=false)→Goes (8*(d+1)) (jL fW text lim lim s 5 first sn) (Found q (q+1))
 |0,s,first,sn,e,_=>by
  obtain rfl:s=q:=by omega
  exact .more (by exact zb _) (Gv h)
 |d+1,s,first,sn,e,qK=>by
  refine .more (n:=8*(d+1)+5) (by exact Mv) (nX (qK s (zb _) (by exact Vy e)) (λsn z_=>tY h d (s+1) false sn (by exact M1 e) λi a b=>qK i (by exact Xc a) b) λhl=> ?_)
  simp only[fG,Bd,Hf]at h
  omega
theorem tX{text:Ua Nat}{lim:Nat}:∀(d s:Nat) (first :Ga) (sn:Seen),s+d=lim→(∀i,s≤i→i≤lim→fG text lim i=false)→Goes (8*(d+1)) (jL fW text lim lim s 5 first sn) mW
 |0,s,first,sn,e,qK=>.more (n:=0+5) (by exact Mb rfl) (nX (qK s (zb _) (by exact zh e)) (λsn bB=>by exact Ye (UT e bB)) λz_ m h=>h)
 |d+1,s,first,sn,e,qK=>.more (n:=8*(d+1)+5) (by exact Mv) (nX (qK s (zb _) (by exact Nat.le.intro e)) (λsn z_=>tX d (s+1) false sn (by exact M1 e) λi a b=>qK i (by exact Xc a) b) λhl m h=>h)
set_option tactic.hygienic true in
theorem uZ{text:Ua Nat}{pos lim:Nat}(qK:∀i,pos≤i→i≤lim→fG text lim i=false):Goes (8*(lim+1)) (forSearch fW text 0 pos lim false) mW:=by
 unfold forSearch
 dsimp only
 split
 ·exact .more (n:=1) (by exact Ae _) (.over (yes:=false) rfl rfl rfl ⟨rfl,trivial⟩)
 ·rename_i h
  simp only[wj,Hf]at h
  have h:¬(pos>lim∨lim-pos<1):=h
  refine .more (n:=8*(lim-pos+1)) (by exact TS) ?_
  have sy:pos+(lim-pos)=lim:=by exact Uw h
  have key:=tX (text:=text) (lim-pos) pos true (({}:Seen).add 14) sy qK
  exact key
theorem u5{text:Ua Nat}{pos lim q:Nat}(hs:pos≤q)(h:fG text lim q=true)(qK:∀i,pos≤i→i<q→fG text lim i=false):Goes (8*(lim+1)) (forSearch fW text 0 pos lim false) (Found q (q+1)):=by
 have hq:q<lim:=by simp only[fG,Bd,Hf]at h;exact h.1.2
 unfold forSearch
 dsimp only
 rw[if_neg (by
  simp only[wj,Hf]
  show¬(pos>lim∨lim-pos<1)
  exact Nl hs hq)]
 refine .more (n:=8*(q-pos+1)) (by exact Vz hq) ?_
 have sy:pos+(q-pos)=q:=by exact Ce hs
 have key:=tY h (q-pos) pos true (({}:Seen).add 14) sy qK
 exact key
end
end Mine
namespace Mine
open PySem PySem.W PySem.Calls PyProof.Rows PySem.Builtin PySem.Builtin.Re PySem.Sre
theorem xQ:PlainAttrs "re.Pattern":=
 ⟨⟨"object.__getattribute__",by rw[Lf,Ef];kernel_rfl,by decide+kernel⟩,by rw[Lf,Ef];kernel_rfl⟩
theorem oZ:Slot "re.Pattern" "sub" "re.Pattern.sub":=
 .of (owner:="re.Pattern") (n:="sub") (by rw[Lf,Ef];kernel_rfl) (by decide+kernel) (by decide+kernel) (by decide+kernel)
  (by first|exact .inl (by decide+kernel)|exact .inr (by decide+kernel)) (by rw[Pg];kernel_rfl)
theorem j9:Slot "re.Pattern" "search" "re.Pattern.search":=
 .of (owner:="re.Pattern") (n:="search") (by rw[Lf,Ef];kernel_rfl) (by decide+kernel) (by decide+kernel) (by decide+kernel)
  (by first|exact .inl (by decide+kernel)|exact .inr (by decide+kernel)) (by rw[Pg];kernel_rfl)
theorem yt:typeOf (.builtin "re.Pattern.sub")=pure (.type "method_descriptor"):=by show builtinType _=_;rw[builtinType_eq_fast];kernel_rfl
theorem rP:typeOf (.builtin "re.Pattern.search")=pure (.type "method_descriptor"):=by show builtinType _=_;rw[builtinType_eq_fast];kernel_rfl
theorem uE:entryFor table "re.Pattern.sub"=some Ob.«re.Pattern.sub»:=ni (by kernel_rfl)
theorem sr:entryFor table "re.Pattern.sub.loop"=some Ob.«re.Pattern.sub.loop»:=ni (by kernel_rfl)
theorem pB:entryFor table "re.Pattern.search"=some Ob.«re.Pattern.search»:=ni (by kernel_rfl)
theorem v8(a b c:qa):argsOk "re.Pattern.sub" ⟨[a,b,c],[]⟩:=by unfold argsOk;kernel_rfl
theorem qm(a b:qa):argsOk "re.Pattern.search" ⟨[a,b],[]⟩:=by unfold argsOk;kernel_rfl
section
variable{w:Oa}{A:Xa}{E:qa→za→Prop}{s:za}
theorem gT:∀(a b:Nat) (m:M),m.runFor (a+b)=(m.runFor a).runFor b
 |0,b,m=>by rw[mh];rfl
 |a+1,b,m=>by
  refine(Nat.succ_add ..).symm▸ ?_
  show(if m.outcome.isSome then m else m.step.runFor (a+b))=((if m.outcome.isSome then m else m.step.runFor a)).runFor b
  by_cases h:m.outcome.isSome=true
  ·rw[if_pos h,if_pos h,iD b m h]
  ·rw[if_neg h,if_neg h];exact gT a b _
theorem drive{Q:M→za→Prop}:∀(t:Nat) (m:M) (k:Nat),k≤4*t→(m.runFor k).outcome.isSome=true→Q (m.runFor k) s→0<t→Ia (Md w) A (reDrive t m) Q E s
 |0,_,_,_,_,_,h=>absurd h (Pc 0)
 |t+1,m,k,hk,ho,hq,_=>by
  show Ia (Md w) A (if(m.runFor 4).outcome.isSome then pure (m.runFor 4)else do rule "sre.turn";reDrive t (m.runFor 4)) Q E s
  by_cases h:(m.runFor 4).outcome.isSome=true
  ·rw[if_pos h]
   have e:m.runFor 4=m.runFor k:=by
    by_cases h4:k≤4
    ·rw[show 4=k+(4-k) by exact Be (Ce h4),gT,iD _ _ ho]
    ·rw[show k=4+(k-4) by exact SV h4,gT,iD _ _ h]
   rw[e];exact Ka hq
  ·rw[if_neg h]
   refine Ca (fh ?_)
   have h4:4<k:=by
    by_cases h4:4<k
    ·exact h4
    ·exfalso
     rw[show 4=k+(4-k) by exact SW h4,gT,iD _ _ ho]at h
     exact h ho
   have e:m.runFor k=(m.runFor 4).runFor (k-4):=by rw[←gT];congr 1;exact SX h4
   refine drive t (m.runFor 4) (k-4) (by exact Nat.sub_le_of_le_add hk) (e▸ho) (e▸hq) ?_
   by_cases ht:0<t
   ·exact ht
   ·exact UU hk h4
theorem tell{seen:Sre.Seen}{Q:PUnit→za→Prop}:∀(l:aa Nat),Q ⟨⟩ s→Ia (Md w) A (forIn l Qh λi z_=>(if seen.has i=true then do rule (Sre.names.getD i "");pure (Af Qh)else pure (Af Qh))) Q E s
 |[],h=>by rw[nh];exact Ka h
 |i::l,h=>by
  rw[qi]
  refine Ca ?_
  split
  ·exact Ca (fh (Ka (tell l h)))
  ·exact Ka (tell l h)
theorem G9{m:M}{n:Nat}{P:M→Prop}{Q:Ma M→za→Prop}(g:Goes n m P)(hn:n≤2^60)(h:∀m',P m'→m'.outcome.isSome=true→(match m'.outcome with|some .matched=>Q (some m') s|some .failed=>Q none s|_=>gc)):
  Ia (Md w) A (reRunToEnd m) Q E s:=by
 refine mO g λk hk ho hp=> ?_
 have h':=h _ hp ho
 unfold reRunToEnd
 refine Ca (drive (2^64) m k (by exact Na hk (Na hn (by decide))) ho ?_ (by decide))
 generalize m.runFor k=m' at ho hp h'
 refine Ca (tell _ ?_)
 cases e:m'.outcome with
 |none=>rw[e]at ho;cases ho
 |some o=>
  rw[e]at h'
  cases o with
  |matched=>exact Ka h'
  |failed=>exact Ka h'
  |stuck why=>exact h'.elim
theorem BU{m:M}{n q e:Nat}{Q:Ma M→za→Prop}(g:Goes n m (Found q e))(hn:n≤2^60)(h:∀m',m'.start=q→m'.handed=e→Q (some m') s):Ia (Md w) A (reRunToEnd m) Q E s:=
 G9 g hn λm' hp z_=>by
  obtain⟨⟨ho,_⟩,hs,he⟩:=hp
  rw[ho];exact h m' hs he
theorem wL{m:M}{n:Nat}{Q:Ma M→za→Prop}(g:Goes n m mW)(hn:n≤2^60)(h:Q none s):Ia (Md w) A (reRunToEnd m) Q E s:=
 G9 g hn λm' hp z_=>by
  refine xE hp λho z_=> ?_
  rw[ho];exact h
structure eT(h:Ja)(p:ia)(code:Ua Nat):Prop where
 pat:∃o fs c t2 t6 oc vs n,h.get? p=some o∧o.cls=.type "re.Pattern"∧o.dict=none∧o.data=.fields fs∧fs.getD 2 .none=.int 0 t2∧fs.getD 5 .none=.ref c∧fs.getD 6 .none=.int 0 t6∧h.get? c=some oc∧oc.data=.seq vs n∧(vs.map reRawOf).map (·.toNat)=code
theorem eT.keeps{h h':Ja}{p:ia}{code:Ua Nat}(P:eT h p code)(u:Up h h'):eT h' p code:=by
 obtain⟨o,fs,c,t2,t6,oc,vs,n,h1,h2,h3,h4,h5,h6,h7,h8,h9,wW⟩:=P.pat
 exact⟨o,fs,c,t2,t6,oc,vs,n,u _ _ h1,h2,h3,h4,h5,h6,h7,u _ _ h8,h9,wW⟩
theorem eT.typeIs{p:ia}{code:Ua Nat}(P:eT s.heap p code):s.TypeIs (.ref p) "re.Pattern":=by
 obtain⟨o,fs,c,t2,t6,oc,vs,n,h1,h2,_⟩:=P.pat
 exact⟨o,h1,h2⟩
theorem mL{p:ia}{code:Ua Nat}{x:Str}{t:Tok}{Q:ReTarget→za→Prop}(P:eT s.heap p code)
  (h:Q {pattern:=.ref p,string:=.str x t,code,text:=x.cps,kind:=0,groups:=0,pos:=0,lim:=x.cps.size} s):Ia (Md w) A (reWholeTarget (.ref p) (.str x t)) Q E s:=by
 obtain⟨o,fs,c,t2,t6,oc,vs,n,h1,h2,h3,h4,h5,h6,h7,h8,h9,wW⟩:=P.pat
 unfold reWholeTarget
 refine Ca (wpAny_fieldsOf h1 h4 ?_)
 unfold reTextOf asStr?
 refine Ca (Ca (Ka (Ka ?_)))
 dsimp only
 refine(h7 ..).symm▸ ?_
 simp only[reRawNat]
 refine Ca ?_
 show Ia _ _ (do pure Qh) _ _ _
 refine Ka ?_
 unfold reRawItems
 refine(h6 ..).symm▸ ?_
 refine Ca (Ca (Zg h8 h9 (Ka (Ka ?_))))
 refine(h5 ..).symm▸ ?_
 simpa[wW,reRawNat]using h
open PySem.Builtin.Str
noncomputable def rT(L:ia)(s s':za):Prop:=∃h' tk,s'={s with heap:=h',toks:=tk}∧∀b o,b≠L→s.heap.get? b=some o→h'.get? b=some o
theorem rT.bN(L:ia)(s:za):rT L s s:=⟨s.heap,s.toks,rfl,λz_ z_ z_ e=>e⟩
theorem rT.trans{L:ia}{a b c:za}(x:rT L a b)(y:rT L b c):rT L a c:=by
 obtain⟨h1,t1,rfl,k1⟩:=x
 obtain⟨h2,t2,rfl,k2⟩:=y
 exact⟨h2,t2,rfl,λb o hb e=>k2 b o hb (k1 b o hb e)⟩
theorem rT.of{L:ia}{s s':za}(k:Kp s s'):rT L s s':=by
 obtain⟨h1,t1,rfl,k1⟩:=k;exact⟨h1,t1,rfl,λb o z_ e=>k1 b o e⟩
noncomputable def mZ(ts:aa Str):aa Nat:=ts.flatMap λt=>t.cps.toList
theorem xx:∀(ts:aa Str),(Gf ⟨#[]⟩ ts).cps.toList=mZ ts
 |[]=>rfl
 |t::ts=>by
  have g:∀(l:aa Str) (acc:Ua Nat),(l.foldl (λacc p=>acc++(#[]:Ua Nat)++p.cps) acc).toList=acc.toList++mZ l:=by
   intro l
   induction l with
   |nil=>intro acc;simp[mZ]
   |cons p l ih=>intro acc;rw[Qd,ih];simp[mZ]
  show(ts.foldl (λacc p=>acc++(#[]:Ua Nat)++p.cps) t.cps).toList=_
  rw[g];simp[mZ]
noncomputable def i6(f:Nat→Ma (Nat×Nat))(x rp:aa Nat):Nat→Nat→aa Nat
 |0,st=>x.drop st
 |n+1,st=>match f st with
  |none=>x.drop st
  |some (q,e)=>(x.drop st).take (q-st)++rp++i6 f x rp n e
structure pW(code:Ua Nat)(x:Ua Nat)(f:Nat→Ma (Nat×Nat))(N:Nat):Prop where
 small:N≤2^60
 hit:∀st q e,st≤x.size→f st=some (q,e)→st≤q∧q<e∧e≤x.size∧Goes N (forSearch code x 0 st x.size false) (Found q e)
 miss:∀st,st≤x.size→f st=none→Goes N (forSearch code x 0 st x.size false) mW
theorem lF{L:ia}{ts:aa (Str×Tok)}{y:Str}{t:Tok}{Q:Unit→za→Prop}(hl:s.heap.IsList L (Wd ts).toArray)(hz:ts.length≤10000)
  (h:∀s',rT L s s'→s'.heap.IsList L (Wd (ts++[(y,t)])).toArray→Q () s'):Ia (Md w) A (updateSeq L (·.push (.str y t))) Q E s:=by
 obtain⟨o,ho,hc,n,hd⟩:=hl
 refine xE (Obj.data_mapSeq hd (·.push (.str y t))) λn' lC=> ?_
 have w5:(Wd ts).toArray.size≤10000:=by simpa[Wd]using hz
 refine Eh ho hd (h _ ⟨_,_,rfl,λb o hb e=> ?_⟩ ?_) (by rw[sizeLine_eq];exact Na w5 (by decide)) (by rw[sizeLine_eq,Ua.size_push];exact Fc w5 (by decide))
 ·exact((Pf _ _ _).2 b hb).trans e
 ·exact⟨_,lg _ ho (Obj.isFreed_of_seq lC),(Obj.cls_mapSeq ..).trans hc,n',lC.trans (by congr 1;simp[Wd])⟩
theorem A9{L:ia}{x:Str}{ts:aa (Str×Tok)}{Q:Fin→za→Prop}(hl:s.heap.IsList L (Wd ts).toArray)(sy:((ts.map (·.1)).map (·.length)).sum≤30000)
  (h:∀s' tk y,rT L s s'→y.cps.toList=mZ (ts.map (·.1))→Q (.done (.ret (.str y tk))) s'):
  Ia (Md w) A (do
   let Fl←reSlice x.cps 0 0 0
   let text←if((←seqItems? (.ref L)).getD #[]).isEmpty then pure Fl else call (.builtin "str.join") [Fl,.ref L]
   ret text) Q E s:=by
 refine Ca (wpAny_mkStr (x:=⟨x.cps.extract 0 0⟩) ?_ (by show(x.cps.extract 0 0).size≤Bb;rw[sizeLine_eq,Ua.size_extract];exact Na (Nat.sub_le ..) (Na (ph ..) (Uc _))))
 have Zv:({s with toks:=s.toks+1}:za).heap.IsList L (Wd ts).toArray:=hl
 obtain⟨o,ho,hc,nn,hd⟩:=id Zv
 refine Ca (Zg ho hd ?_)
 have e0:(⟨x.cps.extract 0 0⟩:Str)=⟨#[]⟩:=by congr 1;simp
 rw[e0]
 cases ts with
 |nil=>exact Ca (Ka (Ka (h _ _ _ (rT.of (.tok ..)) rfl)))
 |cons a Hl=>
  have hok:JoinOk ⟨#[]⟩ ((a::Hl).map (·.1))=true:=by
   unfold JoinOk
   rw[StrLaws.joinTotal,show(⟨#[]⟩:Str).length=0 from rfl,Nat.mul_zero,Nat.add_zero,Ii]
   unfold tooLong
   rw[sizeLine_eq]
   exact Wg (Nat.not_lt_of_le (Na sy (by decide)))
  refine Ca ((Pa (call_meets (S:=λz_ R s=>s.heap.IsList L (Wd (a::Hl)).toArray∧(joinMade ⟨#[]⟩ (a::Hl)).post (λv s'=>R (.ok (.ret v)) s') s) (Q:=λv s'=>∃tk,v=.str (Gf ⟨#[]⟩ ((a::Hl).map (·.1))) tk∧rT L s s') PySem.F.slot_str_join (typeIs_str _ _ _) PySem.F.entry_str_join (PySem.F.args_str_join_2 _ _)
   (meets_str_join_list _ s.toks L (a::Hl) (by have q:=hok;unfold JoinOk at q;rw[Ii]at q;exact q)) ⟨Zv,post_join _ ⟨joinOk_length hok,λt' k=>⟨_,rfl,_,_,rfl,λz_ z_ z_ e=>e⟩⟩⟩) (λv s2 q=> ?_) λz_ z_ z=>z))
  obtain⟨tk,rfl,k2⟩:=q
  exact Ka (h _ _ _ k2 (xx ..))
theorem kM{α:Type}{c:Prop}[Decidable c]{a b:Sem α}{Q:α→za→Prop}(h:c)(k:Ia (Md w) A a Q E s):Ia (Md w) A (if c then a else b) Q E s:=(if_pos h).symm▸k
theorem ur{α:Type}{c:Prop}[Decidable c]{a b:Sem α}{Q:α→za→Prop}(h:¬c)(k:Ia (Md w) A b Q E s):Ia (Md w) A (if c then a else b) Q E s:=(if_neg h).symm▸k
noncomputable abbrev ZM(p L:ia)(x rp:Str)(t u:Tok)(n st:Nat):Args:=⟨[.ref p,.str x t,.str rp u,rawInt 0,rawInt 0,rawInt (n:Nat),rawInt (st:Nat),rawInt (st:Nat),.bool false,.ref L,.bool false],[]⟩
theorem zz{p:ia}{x:Str}{t:Tok}{st:Nat}{code:Ua Nat}:reNextFound {pattern:=.ref p,string:=.str x t,code,text:=x.cps,kind:=0,groups:=0,pos:=0,lim:=x.cps.size} (st:Int).toNat false=reRunToEnd (forSearch code x.cps 0 st x.cps.size false):=by
 unfold reNextFound;rfl
noncomputable def N7(p L:ia)(x rp:Str)(t u:Tok)(n st:Nat)(code:Ua Nat):{F:Ma M→Sem Fin//∀(w:Oa) (A:Xa) (E:qa→za→Prop) (Q:Fin→za→Prop) (s:za),eT s.heap p code→
  Ia (Md w) A (reRunToEnd (forSearch code x.cps 0 st x.cps.size false)) (λr s'=>Ia (Md w) A (F r) Q E s') E s→Ia (Md w) A (Ob.«re.Pattern.sub.loop» (ZM p L x rp t u n st)) Q E s}:=by
 refine⟨?F,?h⟩
 case h=>
  intro w A E Q s P h
  refine Ca (mL P (Ca (Ka (Ca ?_))))
  show Ia _ _ (reNextFound _ _ false) _ _ _
  refine zz.symm▸ ?_
  exact h
noncomputable def ZL(p L:ia)(x rp:Str)(t u:Tok)(n st:Nat)(code:Ua Nat):Ma M→Sem Fin:=(N7 p L x rp t u n st code).1
noncomputable def lpQ(w:Oa)(A:Xa)(R:Yd→za→Prop):Fin→za→Prop:=λfin s'=>match fin with|.done f=>R (.ok f) s'|.again c'=>c'.quiet=true∧wc (Md w) A c' R s'
theorem AP{p L:ia}{x rp:Str}{t u:Tok}{n st:Nat}{code:Ua Nat}{R:Yd→za→Prop}(P:eT s.heap p code)
  (h:∀A',Ia (Md w) A' (reRunToEnd (forSearch code x.cps 0 st x.cps.size false)) (λr s'=>Ia (Md w) A' (ZL p L x rp t u n st code r) (lpQ w A R) (λe s'=>R (.error e) s') s') (λe s'=>R (.error e) s') s):
  wc (Md w) A (.builtin "re.Pattern.sub.loop" (ZM p L x rp t u n st)) R s:=Zh sr ((N7 p L x rp t u n st code).2 _ _ _ _ _ P (h _))
theorem tQ{p L:ia}{x rp:Str}{t u:Tok}{n e:Nat}{m:M}{R:Yd→za→Prop}{A':Xa}{ts:aa (Str×Tok)}(hm:m.handed=e)(g9:m.start<e)(hl:s.heap.IsList L (Wd ts).toArray)(hz:ts.length≤10000)
  (k:∀s',rT L s s'→s'.heap.IsList L (Wd (ts++[(rp,u)])).toArray→wc (Md w) A' (.builtin "re.Pattern.sub.loop" (ZM p L x rp t u (n+1) e)) R s'):
  Ia (Md w) A (do
   updateSeq L (·.push (.str rp u))
   again (.builtin "re.Pattern.sub.loop" ⟨[.ref p,.str x t,.str rp u,.int 0 0,.int 0 0,.int ((n:Int)+1) 0,.int (m.handed:Nat) 0,.int (m.handed:Nat) 0,.bool (m.handed==m.start),.ref L,.bool false],[]⟩))
   (lpQ w A' R) E s:=by
 subst hm
 refine Ca (lF hl hz λs2 k2 HJ=>Ka ⟨Code.quiet_builtin _ (by decide+kernel),?_⟩)
 rw[show(m.handed==m.start)=false from Zj.mpr (Nat.ne_of_gt g9)]
 exact k s2 k2 HJ
theorem uQ{x:Str}{b e:Nat}(he:e≤x.cps.size):(⟨x.cps.extract b e⟩:Str).length≤e-b:=by
 show(x.cps.extract b e).size≤_;rw[Ua.size_extract];exact Nat.sub_le_sub_right (ph ..) _
theorem uz{ts:aa (Str×Tok)}{y:Str}{k:Tok}:mZ ((ts++[(y,k)]).map (·.1))=mZ (ts.map (·.1))++y.cps.toList:=by simp[mZ]
theorem vG{ts:aa (Str×Tok)}{y:Str}{k:Tok}:(((ts++[(y,k)]).map (·.1)).map (·.length)).sum=((ts.map (·.1)).map (·.length)).sum+y.length:=by simp
theorem len_one{ts:aa (Str×Tok)}{y:Str×Tok}:(ts++[y]).length=ts.length+1:=by simp
theorem wH{x:Str}{b e:Nat}:(x.cps.extract b e).toList=(x.cps.toList.drop b).take (e-b):=by rw[Ua.toList_extract,aa.extract_eq_take_drop]
theorem G0{p L:ia}{code:Ua Nat}{x rp:Str}{t u:Tok}{f:Nat→Ma (Nat×Nat)}{N:Nat}{R:Yd→za→Prop}(F:pW code x.cps f N)(hx:x.cps.size≤1000)(hr:rp.cps.size≤10)
  {s0:za}(hP:∀s',rT L s0 s'→eT s'.heap p code)
  (hR:∀s' (tk:Tok) (y:Str),rT L s0 s'→y.cps.toList=i6 f x.cps.toList rp.cps.toList (x.cps.size+1) 0→R (.ok (.ret (.str y tk))) s'):
  ∀(fuel st:Nat) (n:Nat) (ts:aa (Str×Tok)) (s:za),x.cps.size+1≤st+fuel→st≤x.cps.size→rT L s0 s→s.heap.IsList L (Wd ts).toArray→ts.length≤2*st→((ts.map (·.1)).map (·.length)).sum≤20*st→
   mZ (ts.map (·.1))++i6 f x.cps.toList rp.cps.toList fuel st=i6 f x.cps.toList rp.cps.toList (x.cps.size+1) 0→
   wc (Md w) A (.builtin "re.Pattern.sub.loop" (ZM p L x rp t u n st)) R s:=by
 intro fuel
 induction fuel with
 |zero=>exactλst n ts s h1 h2=>(DS h1 h2).elim
 |succ fuel ih=>
  intro st n ts s h1 h2 hk hl hlen sy B5
  have Zp:∀b e:Nat,e≤x.cps.size→(⟨x.cps.extract b e⟩:Str).length≤Bb:=λb e he=>
   Na (uQ he) (Na (Nat.sub_le ..) (Na he (Na hx (by rw[sizeLine_eq];decide))))
  cases NP:f st with
  |some qe=>
   obtain⟨q,e⟩:=qe
   have EW:i6 f x.cps.toList rp.cps.toList (fuel+1) st=(x.cps.toList.drop st).take (q-st)++rp.cps.toList++i6 f x.cps.toList rp.cps.toList fuel e:=by
    show(match f st with|none=>_|some (q,e)=>_)=_
    rw[NP]
   rw[EW]at B5
   refine eS (F.hit st q e h2 NP) λa1 a2 a3 g=> ?_
   have step:∀(s1:za) (Hl:aa (Str×Tok)),rT L s0 s1→s1.heap.IsList L (Wd (Hl++[(rp,u)])).toArray→Hl.length≤2*st+1→((Hl.map (·.1)).map (·.length)).sum≤20*st+(q-st)→
     mZ (Hl.map (·.1))=mZ (ts.map (·.1))++(x.cps.toList.drop st).take (q-st)→wc (Md w) A (.builtin "re.Pattern.sub.loop" (ZM p L x rp t u (n+1) e)) R s1:=λs1 Hl k1 Pq hz1 ZC Zm=>
    ih e (n+1) _ s1 (XF h1 a1 a2) a3 k1 Pq (by rw[len_one];exact Xq a1 a2 hz1) (by rw[vG];exact XK a1 a2 ZC hr) (by rw[uz,Zm,←B5];simp only[We])
   refine AP (hP s hk) λA'=>BU g F.small λm NR hm2=> ?_
   by_cases bB:st<m.start
   ·have aaR:st<q:=NR▸bB
    refine kM bB (Ca (wpAny_mkStr (Ca (lF hl (XM hx hlen a2 a3 aaR) λs1 k1 Pq=> ?_)) (Zp _ _ (by rw[NR];exact V0 a2 a3))))
    refine Ca (Ka (kM (c:=(qa.str rp u !=qa.none)=true) rfl (tQ hm2 (by rw[NR];exact a2) Pq ?_ λs2 k2 HJ=> ?_)))
    ·rw[len_one];exact Nv hx a1 a2 a3 (Wi hlen)
    ·exact step s2 _ ((hk.trans ((rT.of (.tok ..)).trans k1)).trans k2) HJ (by rw[len_one];exact Wi hlen) (by rw[vG];exact Nat.add_le_add sy (NR▸uQ (NR▸Xc (Dc a2 a3)))) (by rw[uz,wH,NR];rfl)
   ·have e1:q=st:=UW a1 (NR▸bB)
    refine ur bB (Ca (Ka (kM (c:=(qa.str rp u !=qa.none)=true) rfl (tQ hm2 (by rw[NR];exact a2) hl (Nv hx a1 a2 a3 (Gh hlen)) λs2 k2 HJ=> ?_))))
    exact step s2 ts (hk.trans k2) HJ (Gh hlen) (Mg sy) (by rw[e1,Nat.sub_self,aa.take_zero,ff])
  |none=>
   have EW:i6 f x.cps.toList rp.cps.toList (fuel+1) st=x.cps.toList.drop st:=by
    show(match f st with|none=>_|some (q,e)=>_)=_
    rw[NP]
   rw[EW]at B5
   refine AP (hP s hk) λA'=>wL (F.miss st h2 NP) F.small ?_
   by_cases bB:st<x.cps.size
   ·refine kM bB (Ca (wpAny_mkStr (Ca (lF hl (Wn hx hlen bB) λs1 k1 Pq=> ?_)) (Zp _ _ (zb _))))
    refine A9 Pq ?_ λs2 tk y k2 hy=>hR _ _ _ (hk.trans (((rT.of (.tok ..)).trans k1).trans k2)) (hy.trans ?_)
    ·rw[vG]
     exact Na (Nat.add_le_add sy (uQ (zb _))) (Na (Nat.add_le_add (Nat.mul_le_mul_left 20 (Na h2 hx)) (Na (Nat.sub_le ..) hx)) (by decide))
    ·rw[uz,wH,←B5];exact Cc _ (Vg (by simp))
   ·have e1:x.cps.toList.drop st=[]:=Uj (by simp;exact Fi bB)
    rw[e1,ff]at B5
    exact ur bB (A9 hl (Na sy (Na (Nat.mul_le_mul_left 20 (Na h2 hx)) (by decide))) λs2 tk y k2 hy=>hR _ _ _ (hk.trans k2) (hy.trans B5))
theorem zU:typeLookup (.type "str") "__call__"=pure none:=by rw[Lf,Ef];kernel_rfl
theorem Cv(a b:qa):reNamed "re.Pattern.sub" "sub" ["repl","string","count"] 2 [a,b] []=pure [some a,some b,none]:=by kernel_rfl
theorem uS(a:qa):reNamed "re.Pattern.search" "search" ["string","pos","endpos"] 1 [a] []=pure [some a,none,none]:=by kernel_rfl
theorem CV{p:ia}{code:Ua Nat}{x rp y:Str}{t u:Tok}{f:Nat→Ma (Nat×Nat)}{N:Nat}(F:pW code x.cps f N)(hx:x.cps.size≤1000)(hr:rp.cps.size≤10)(h92:rp.cps.contains 92=false)
  (hy:y.cps.toList=i6 f x.cps.toList rp.cps.toList (x.cps.size+1) 0):
  MeetsIn pw w (Ob.«re.Pattern.sub» ⟨[.ref p,.str rp u,.str x t],[]⟩) (λA R s=>eT s.heap p code∧∀s' tk,Kp s s'→R (.ok (.ret (.str y tk))) s'):=by
 rintro A R s ⟨P,hR⟩
 unfold Ob.«re.Pattern.sub» reSubstitute
 dsimp only
 refine(Cv ..).symm▸ ?_
 refine Ca (Ka ?_)
 dsimp only
 refine Ca (Ka ?_)
 refine Ca (wpAny_specialOf (typeIs_str _ _ _) zU ?_)
 unfold asStr?
 simp only[Ma.isSome_none,wg,yg]
 refine Ca (Ca (Ka (Ka ?_)))
 dsimp only
 refine(h92 ..).symm▸ ?_
 refine Ca (Ka ?_)
 rw[if_pos (show(!false)=true from rfl)]
 refine Ca (Ka ?_)
 dsimp only
 refine Ca (Jc (mL P ?_))
 rw[if_neg (by decide)]
 refine Ca (Ld ?_)
 refine Ka ⟨Code.quiet_builtin _ (by decide+kernel),?_⟩
 have NV:∀s',rT s.heap.objs.size {s with heap:=s.heap.push {cls:=.type "list",data:=.seq ([]:aa qa).toArray}} s'→Kp s s':=by
  rintro s' ⟨h',tk,rfl,k⟩
  exact⟨h',tk,rfl,λb o e=>k b o (λq=>by rw[q]at e;have:=Ub e;exact Pc _ this) (qc _ e)⟩
 refine G0 F hx hr (λs' k=>P.keeps (NV s' k).up) (λs' tk z k hz=> ?_) (x.cps.size+1) 0 0 [] _ (by exact Nat.le_add_left (_+1) 0) (by exact Uc _) (rT.bN _ _) ⟨_,Zb _ rfl,rfl,_,rfl⟩ (by simp) (by simp) rfl
 have:z=y:=by
  obtain⟨a⟩:=z
  obtain⟨b⟩:=y
  congr 1
  apply oh
  rw[show a.toList=_ from hz,show b.toList=_ from hy]
 subst this
 exact hR s' tk (NV s' k)
variable{B:Bx}{s':za}{env:Env}{Γ Γ':aa (Str×D)}{Δ Δ':aa (ia×MO)}
theorem ao.Ol{o e1 e2:Ba}{apos pos:Pos}{p:ia}{code:Ua Nat}{x rp y:Str}{f:Nat→Ma (Nat×Nat)}{N:Nat}(x0:ao w A B env Γ Δ o (.val (.ref p)))(hP:eT B.s0.heap p code)
  (x1:ao w A B env Γ Δ e1 (.str rp))(x2:ao w A B env Γ Δ e2 (.str x))(F:pW code x.cps f N)(hx:x.cps.size≤1000)(hr:rp.cps.size≤10)(h92:rp.cps.contains 92=false)
  (hy:y.cps.toList=i6 f x.cps.toList rp.cps.toList (x.cps.size+1) 0)
  (hb:Aa (aO o=true) aR)(hn1:Aa (notStar e1=true) aR)(Pw:Aa (notStar e2=true) aR)(hl:Aa ((apos.endLine==pos.line)=true) aR):
  ao w A B env Γ Δ (.Call (.Attribute o (ya "sub") apos) [e1,e2] [] pos) (.str y):=.mk λs E S=>
 Call_method2 (bU hb) (by rw[aF _ _ _ hn1,aF _ _ _ Pw];rfl) hl (x0.use S λv s1 k1 S1 r1=>by
  obtain rfl:v=.ref p:=r1
  have P1:=hP.keeps S1.kp.up
  obtain⟨ob,fs,c,t2,t6,oc,vs,n,h1,h2,h3,_⟩:=P1.pat
  refine⟨"re.Pattern",_,xQ,oZ,yt,P1.typeIs,(λa e=>by cases e;exact⟨ob,h1,h3⟩),
   method2_meetsIn oZ uE (x1.use S1 λu s2 k2 S2 r2=>x2.use S2 λv s3 k3 S3 r3=> ?_)⟩
  refine r2.q8 λt=> ?_
  obtain⟨t',rfl⟩:=r3.iz
  have P3:=hP.keeps S3.kp.up
  exact⟨P3.typeIs,v8 _ _ _,_,CV F hx hr h92 hy,P3,λs' tk k=>⟨((k1.trans' k2).trans' k3).trans' k,.str ..⟩⟩)
end
end Mine
namespace Mine
open PySem PySem.Sre
noncomputable def jw(T:Nat→Ga):Nat→Nat→Ma Nat
 |0,_=>none
 |n+1,st=>if T st then some st else jw T n (st+1)
set_option tactic.hygienic true in
theorem eG{T:Nat→Ga}:∀{n st q:Nat},jw T n st=some q→st≤q∧q<st+n∧T q=true∧∀i,st≤i→i<q→T i=false
 |0,st,q,h=>by cases h
 |n+1,st,q,h=>by
  unfold jw at h
  split at h
  ·rename_i ht;cases h;exact⟨zb _,by exact DM,ht,λi a b=>by exact Ye (MS a b)⟩
  ·rename_i ht
   refine eS (eG h) λa b c d=> ?_
   refine⟨by exact Xc a,by exact DT b,c,λi x y=> ?_⟩
   by_cases e:i=st
   ·subst e;simpa using ht
   ·exact d i (by exact MT x e) y
set_option tactic.hygienic true in
theorem eB{T:Nat→Ga}:∀{n st:Nat},jw T n st=none→∀i,st≤i→i<st+n→T i=false
 |0,st,h=>λi a b=>by exact Ye (MR a b)
 |n+1,st,h=>by
  unfold jw at h
  split at h
  ·cases h
  ·rename_i ht
   intro i a b
   by_cases e:i=st
   ·subst e;simpa using ht
   ·exact eB h i (by exact MT a e) (by exact M0 b)
noncomputable def f2(x:Ua Nat)(st:Nat):Ma (Nat×Nat):=(jw (λi=>eV (x.getD i 0)) (x.size-st) st).map λq=>(q,q+dM x x.size q)
noncomputable def f1(x:Ua Nat)(st:Nat):Ma (Nat×Nat):=(jw (fG x x.size) (x.size+1-st) st).map λq=>(q,q+1)
theorem nF(x:Ua Nat)(lim q:Nat):dM x lim q=1∧¬(x.getD q 0=13∧q+1<lim∧x.getD (q+1) 0=10)∨dM x lim q=2∧x.getD q 0=13∧q+1<lim∧x.getD (q+1) 0=10:=by
 unfold dM
 by_cases h:(x.getD q 0==13&&decide (q+1<lim) &&x.getD (q+1) 0==10)=true
 ·rw[if_pos h]
  simp only[Bd,Hf,Vd]at h
  exact .inr ⟨rfl,h.1.1,h.1.2,h.2⟩
 ·rw[if_neg h]
  simp only[Bd,Hf,Vd]at h
  exact .inl ⟨rfl,λq=>h ⟨⟨q.1,q.2.1⟩,q.2.2⟩⟩
theorem sU{x:Ua Nat}{q:Nat}(h:q<x.size):1≤dM x x.size q∧q+dM x x.size q≤x.size:=by
 rcases nF x x.size q with h|h<;> omega
theorem I0(x:Ua Nat):pW lU x (f2 x) 40 where
 small:=by decide
 hit:=λst q e B8 h=>by
  refine bE (fc.mp h) λq' hq he=> ?_
  cases he
  refine eS (eG hq) λa b c d=> ?_
  have hl:=sU (x:=x) (q:=q) (by exact DU a b)
  exact⟨a,by exact VA hl,hl.2,u7 a (by exact VB hl) c d⟩
 miss:=λst B8 h=>by
  have h:=eB (Rj.mp h)
  exact .more (n:=1) (by exact Ae _) (u6 λi a b=>h i a (by exact M3 b))
theorem IZ(x:Ua Nat)(hx:x.size≤1000):pW fW x (f1 x) (8*(x.size+1)) where
 small:=by exact SY hx
 hit:=λst q e B8 h=>by
  refine bE (fc.mp h) λq' hq he=> ?_
  cases he
  refine eS (eG hq) λa b c d=> ?_
  have hl:q<x.size:=by simp only[fG,Bd,Hf]at c;exact c.1.2
  exact⟨a,by exact zb _,by exact hl,u5 a c d⟩
 miss:=λst B8 h=>by
  have h:=eB (Rj.mp h)
  exact uZ λi a b=>h i a (by exact VC b)
noncomputable def bQ:aa Nat→aa Nat
 |[]=>[]
 |[c]=>if eV c then[13,10]else[c]
 |c::d::r=>if c==13&&d==10 then 13::10::bQ r else if eV c then 13::10::bQ (d::r)else c::bQ (d::r)
theorem iS(c d:Nat)(r:aa Nat):bQ (c::d::r)=if c==13&&d==10 then 13::10::bQ r else if eV c then 13::10::bQ (d::r)else c::bQ (d::r):=by rw[bQ]
theorem yV{c:Nat}(h:eV c=false):∀r,bQ (c::r)=c::bQ r
 |[]=>by simp[bQ,h]
 |d::r=>by
  have:(c==13)=false:=by unfold eV at h;simp only[Ga.or_eq_false_iff]at h;exact h.2
  simp[bQ,h,this]
theorem kE:∀(a:aa Nat),(∀c∈a,eV c=false)→∀r,bQ (a++r)=a++bQ r
 |[],_,r=>rfl
 |c::a,h,r=>by rw[Hg,yV (h c La),kE a (λc hc=>h c (Wa _ hc)) r];rfl
theorem getD_list(x:Ua Nat)(i:Nat):x.getD i 0=x.toList.getD i 0:=by simp[Ua.getD_eq_getD_getElem?,Lb]
theorem pN{l:aa Nat}{q:Nat}(h:q<l.length):l.drop q=l.getD q 0::l.drop (q+1):=by
 rw[Jj h,Lb,Wb h];rfl
theorem pK{l:aa Nat}{st q:Nat}(h:st≤q):l.drop st=(l.drop st).take (q-st)++l.drop q:=by
 have:=Ci (q-st) (l.drop st)
 rw[qj]at this
 rw[show st+(q-st)=q by exact Ce h]at this
 exact this.symm
theorem xJ{l:aa Nat}{st q c:Nat}(hq:q≤l.length)(h:c∈(l.drop st).take (q-st)):∃i,st≤i∧i<q∧l.getD i 0=c:=by
 obtain⟨j,hj,e⟩:=Th.mp h
 simp only[uf,Td]at hj
 refine⟨st+j,by exact Tc _ _,by exact Wz hj,?_⟩
 rw[aa.getElem_take,aa.getElem_drop]at e
 rw[Lb,Wb (by exact WA hj)];exact e
theorem A8(x:Ua Nat):∀(fuel st:Nat),x.size+1≤st+fuel→st≤x.size→i6 (f2 x) x.toList [13,10] fuel st=bQ (x.toList.drop st)
 |0,st,h1,h2=>by exact Ye (DS h1 h2)
 |fuel+1,st,h1,h2=>by
  show(match f2 x st with|none=>_|some (q,e)=>_)=_
  have hlen:x.toList.length=x.size:=by simp
  cases hf:f2 x st with
  |none=>
   have h:=eB (Rj.mp hf)
   have:=kE ((x.toList.drop st).take (x.size-st)) (λc hc=>by
    refine mO (xJ (by exact zh (id (Be hlen))) hc) λi a b e=> ?_
    rw[←e,←getD_list];exact h i a (by exact M3 b)) []
   rw[Vg (by simp)]at this
   simpa[bQ]using this.symm
  |some qe=>
   obtain⟨q,e⟩:=qe
   refine bE (fc.mp hf) λq' hq he=> ?_
   cases he
   refine eS (eG hq) λa b c d=> ?_
   have hl:=sU (x:=x) (q:=q) (by exact DU a b)
   dsimp only
   rw[A8 x fuel _ (by exact XG h1 a hl) hl.2]
   conv =>rhs;rw[pK (l:=x.toList) a]
   rw[kE _ (λc hc=>by
    refine mO (xJ (by exact WW hlen hl) hc) λi a b e=> ?_
    rw[←e,←getD_list];exact d i a b),We]
   congr 1
   have dq:=pN (l:=x.toList) (q:=q) (by exact WX hlen hl)
   refine(dq ..).symm▸(getD_list ..)▸ ?_
   have hE:eV (x.getD q 0)=true:=c
   by_cases hq1:q+1<x.size
   ·have dq1:=pN (l:=x.toList) (q:=q+1) (by omega)
    rw[←getD_list]at dq1
    rcases nF x x.size q with⟨e1,h⟩|⟨e1,NJ,_,wW⟩
    ·rw[e1,dq1,iS,if_neg (by
      intro k
      simp only[Bd,Vd]at k
      exact h ⟨k.1,hq1,k.2⟩),if_pos hE]
     rfl
    ·refine(e1 ..).symm▸(dq1 ..).symm▸(NJ ..).symm▸(wW ..).symm▸(iS ..).symm▸ ?_
     rfl
   ·have e1:dM x x.size q=1:=by
     rcases nF x x.size q with h|h<;> omega
    rw[e1,Uj (by exact V1 hlen hq1)]
    unfold bQ
    rw[if_pos hE]
    rfl
noncomputable def c7:Ga→aa Nat→aa Nat
 |_,[]=>[]
 |b,c::r=>if b&&c==46 then 46::46::c7 false r else c::c7 (c==10) r
theorem qD(b:Ga)(c:Nat)(r:aa Nat):c7 b (c::r)=if b&&c==46 then 46::46::c7 false r else c::c7 (c==10) r:=by rw[c7]
theorem A7(x:Ua Nat):∀(fuel st:Nat),x.size+1≤st+fuel→st≤x.size→i6 (f1 x) x.toList [46,46] fuel st=c7 (bol x st) (x.toList.drop st)
 |0,st,h1,h2=>by exact Ye (DS h1 h2)
 |fuel+1,st,h1,h2=>by
  show(match f1 x st with|none=>_|some (q,e)=>_)=_
  have hlen:x.toList.length=x.size:=by simp
  have step:∀(m st:Nat),st+m≤x.size→(∀i,st≤i→i<st+m→fG x x.size i=false)→c7 (bol x st) (x.toList.drop st)=(x.toList.drop st).take m++c7 (bol x (st+m)) (x.toList.drop (st+m)):=by
   intro m
   induction m with
   |zero=>intro st _ _;simp
   |succ m ih=>
    intro st hs hd
    have B8:st<x.size:=by exact jk hs
    rw[pN (l:=x.toList) (q:=st) (by omega),←getD_list]
    have h0:=hd st (zb _) (by exact DM)
    have hb:(bol x st&&x.getD st 0==46)=false:=by
     unfold fG at h0
     simpa[B8]using h0
    rw[qD,hb,if_neg (by decide),Li,Hg]
    congr 1
    have:=ih (st+1) (by exact VD hs) λi a b=>hd i (by exact Xc a) (by exact DT b)
    rw[show st+1+m=st+(m+1) by exact aj _ _]at this
    refine(this ..)▸ ?_
    congr 1
  cases hf:f1 x st with
  |none=>
   have h:=eB (Rj.mp hf)
   have:=step (x.size-st) st (by exact Ux h2) λi a b=>h i a (by exact VE b)
   rw[this,Vg (by simp),show st+(x.size-st)=x.size by exact Ce h2,show x.toList.drop x.size=[]from Uj (by exact zh hlen)]
   simp[c7]
  |some qe=>
   obtain⟨q,e⟩:=qe
   refine bE (fc.mp hf) λq' hq he=> ?_
   cases he
   refine eS (eG hq) λa b c d=> ?_
   have c':=c
   simp only[fG,Bd,Hf]at c'
   dsimp only
   rw[A7 x fuel _ (by exact WY h1 a) (by omega)]
   rw[step (q-st) st (by exact V2 a b) λi x y=>d i x (by exact DU x y),show st+(q-st)=q by exact Ce a,We]
   congr 1
   rw[pN (l:=x.toList) (q:=q) (by omega),←getD_list]
   rw[qD,if_pos (by rw[c'.1.1,c'.2];rfl)]
   have:bol x (q+1)=false:=by
    unfold bol
    have:=c'.2
    simp only[Vd]at this
    simp[this]
   refine(this ..).symm▸ ?_
   rfl
end Mine
set_option maxRecDepth 100000
namespace Mine
open PySem PySem.W PySem.Calls PyProof.Rows PySem.Builtin PySem.Builtin.Re PySem.Sre PySem.Builtin.Str
noncomputable def codeN:Ua Nat:= #[14,10,4,1,1,22,0,31,16,127,0,13,7,22,0,31,16,127,0,1]
noncomputable def oH:Ua Nat:= #[14,14,4,1,1,9,4294966783,0,0,2147483648,0,0,0,0,0,13,11,9,4294966783,0,0,2147483648,0,0,0,0,0,1]
noncomputable def OI(c:Nat):Ga:=(decide (0≤c) &&decide (c≤31))||c==127
noncomputable def IE(c:Nat):Ga:=decide (c<256) &&(oH.getD (5+(1+c/32)) 0).testBit (c%32)
theorem PA(c:Nat)(sn:Sre.Seen):∃rS,inSet codeN c codeN.size 5 true sn=.ok (OI c,rS):=by
 show∃rS,inSet codeN c 20 5 true sn=.ok (decide (0≤c) &&decide (c≤31)||c==127,rS)
 cases h:(decide (0≤c) &&decide (c≤31))with
 |true=>exact⟨_,if_pos h⟩
 |false=>
  cases g:c==127 with
  |true=>exact⟨_,(if_neg (jB h)).trans (if_pos g)⟩
  |false=>exact⟨_,(if_neg (jB h)).trans (if_neg (jB g))⟩
theorem PB(c:Nat)(sn:Sre.Seen):∃rS,inSet oH c oH.size 5 true sn=.ok (IE c,rS):=by
 show∃rS,inSet oH c 28 5 true sn=_
 cases h:IE c with
 |true=>exact⟨_,if_pos h⟩
 |false=>exact⟨_,if_neg (jB h)⟩
noncomputable def okT(x:Str):Prop:=∀c∈x.cps.toList,32≤c∧c<127
theorem ID:∀c,c<127→32≤c→OI c=false:=by decide
theorem IF:∀c,c<127→32≤c→IE c=false:=by decide+kernel
theorem getD_mem{x:Ua Nat}{i:Nat}(h:i<x.size):x.getD i 0∈x.toList:=by
 rw[getD_list,Lb,Wb (by simpa using h)]
 exact Dg _
theorem KV{x:Str}(h:okT x):Goes 1 (forSearch codeN x.cps 0 0 x.cps.size false) mW:=by
 unfold forSearch
 dsimp only
 split
 ·exact .over (yes:=false) rfl rfl rfl ⟨rfl,trivial⟩
 ·exact nJ (T:=OI) (λc sn=>PA c sn) rfl rfl rfl λi z_ hi=>by
   have:=h _ (getD_mem hi);exact ID _ this.2 this.1
theorem KW{x:Str}(h:okT x):Goes 1 (forSearch oH x.cps 0 0 x.cps.size false) mW:=by
 unfold forSearch
 dsimp only
 split
 ·exact .over (yes:=false) rfl rfl rfl ⟨rfl,trivial⟩
 ·exact nJ (T:=IE) (λc sn=>PB c sn) rfl rfl rfl λi z_ hi=>by
   have:=h _ (getD_mem hi);exact IF _ this.2 this.1
section
variable{w:Oa}{A:Xa}{E:qa→za→Prop}{s:za}
theorem u9{p:ia}{code:Ua Nat}{x:Str}{t:Tok}(hx:x.cps.size≤100000)(g:Goes 1 (forSearch code x.cps 0 0 x.cps.size false) mW):
  MeetsIn pw w (Ob.«re.Pattern.search» ⟨[.ref p,.str x t],[]⟩) (λA R s=>eT s.heap p code∧R (.ok (.ret .none)) s):=by
 rintro A R s ⟨P,hR⟩
 obtain⟨o,fs,c,t2,t6,oc,vs,n,h1,h2,h3,h4,h5,h6,h7,h8,h9,wW⟩:=P.pat
 unfold Ob.«re.Pattern.search» reTarget
 dsimp only
 refine(uS ..).symm▸ ?_
 refine Ca (Ca (Ka ?_))
 dsimp only
 refine Ca (Ka (Ca (Ka (Ca (wpAny_fieldsOf h1 h4 ?_)))))
 unfold reTextOf asStr?
 refine Ca (Ca (Ka (Ka ?_)))
 dsimp only
 refine(h7 ..).symm▸ ?_
 simp only[reRawNat]
 refine Ca ?_
 show Ia _ _ (do pure Qh) _ _ _
 refine Ka ?_
 unfold reRawItems
 refine(h6 ..).symm▸ ?_
 refine Ca (Ca (Zg h8 h9 (Ka (Ka ?_))))
 refine(h5 ..).symm▸ ?_
 dsimp only
 have e1:min (2^63-1:Int).toNat x.cps.size=x.cps.size:=by
  have:(2^63-1:Int).toNat=9223372036854775807:=by decide
  exact Tn hx
 have e0:min (0:Int).toNat x.cps.size=0:=by simp
 refine(e1 ..).symm▸(e0 ..).symm▸ ?_
 rw[show(Ma.getD (some vs) #[])=vs from rfl,wW]
 unfold reAnswer
 exact Ca (wL g (by decide) (Ka hR))
variable{B:Bx}{s':za}{env:Env}{Γ Γ':aa (Str×D)}{Δ Δ':aa (ia×MO)}
theorem ao.xR{o e1:Ba}{apos pos:Pos}{p:ia}{code:Ua Nat}{x:Str}(x0:ao w A B env Γ Δ o (.val (.ref p)))(hP:eT B.s0.heap p code)(x1:ao w A B env Γ Δ e1 (.str x))(hx:x.cps.size≤100000)(g:Goes 1 (forSearch code x.cps 0 0 x.cps.size false) mW)
  (hb:Aa (aO o=true) aR)(hn1:Aa (notStar e1=true) aR)(hl:Aa ((apos.endLine==pos.line)=true) aR):
  ao w A B env Γ Δ (.Call (.Attribute o (ya "search") apos) [e1] [] pos) (.dat .none):=.mk λs E S=>
 Ug (bU hb) (by rw[aF _ _ _ hn1];rfl) hl (x0.use S λv s1 k1 S1 r1=>by
  obtain rfl:v=.ref p:=r1
  have P1:=hP.keeps S1.kp.up
  obtain⟨ob,fs,c,t2,t6,oc,vs,n,h1,h2,h3,_⟩:=P1.pat
  refine⟨"re.Pattern",_,xQ,j9,rP,P1.typeIs,(λa e=>by cases e;exact⟨ob,h1,h3⟩),
   method1_meetsIn j9 pB (x1.use S1 λu s2 k2 S2 r2=> ?_)⟩
  refine r2.q8 λt=> ?_
  have P3:=hP.keeps S2.kp.up
  exact⟨P3.typeIs,qm _ _,_,u9 hx g,P3,(k1.trans' k2),.none⟩)
end
end Mine
namespace Mine
open PySem PySem.Builtin PySem.Builtin.Str PySem.StrLaws
noncomputable def bI(sep:aa Nat):aa (aa Nat)→aa Nat
 |[]=>[]
 |[p]=>p
 |p::q::r=>p++sep++bI sep (q::r)
noncomputable def ez(w:Nat):Nat→aa (aa Nat)→aa Nat
 |_,[]=>[]
 |_,[p]=>[]
 |a,p::q::r=>(a+p.length)::ez w (a+p.length+w) (q::r)
theorem ry(x y:Str)(hi limit:Nat)(st:Ua Nat×Nat)(m:Nat):∀(i k:Nat),(∀j,i≤j→j<i+m→j<st.snd∨¬(j+y.length≤hi∧subAt x y j=true))→
  forIn (Wh i (m+k)) st (occBody x y hi limit)=forIn (Wh (i+m) k) st (occBody x y hi limit):=by
 induction m with
 |zero=>intro i k _;rw[mh];rfl
 |succ m ih=>
  intro i k h
  rw[show m+1+k=(m+k)+1 by exact Nat.add_right_comm _ 1 _,aa.range'_succ,qi]
  have h0:=h i (zb _) (by exact DM)
  have e:occBody x y hi limit i st=pure (Af (st.fst,st.snd)):=by
   unfold occBody
   rw[if_neg]
   rintro⟨⟨⟨_,a⟩,b⟩,c⟩
   rcases h0 with h0|h0
   ·exact MS a h0
   ·exact h0 ⟨b,c⟩
  refine(e ..).symm▸ ?_
  show forIn (Wh (i+1) (m+k)) st (occBody x y hi limit)=_
  rw[ih (i+1) k λj a b=>h j (by exact Xc a) (by exact DT b),show i+1+m=i+(m+1) by exact aj _ _]
theorem Av{x y:Str}{p:Nat}{ys:aa Nat}(hy:y.cps.toList=p::ys){j:Nat}(h:subAt x y j=true)(hj:j+y.length≤x.length):x.cps.toList[j]? =some p:=by
 rw[subAt_eq,Vd,hy]at h
 have hl:1≤y.length:=by
  show 1≤y.cps.size
  rw[←Wf,hy];simp
 have h2:=Cc (·[0]?) h
 simp only[ji,Sj]at h2
 simpa[hl,Dc Nat.zero_lt_one hl]using h2
theorem Cw{x y:Str}{p:Nat}{ys:aa Nat}(hy:y.cps.toList=p::ys)(hys:p∉ys){limit:Nat}(parts:aa (aa Nat)):∀(a:Nat) (found:Ua Nat),parts≠[]→(∀q∈parts,p∉q)→a≤x.length→x.cps.toList.drop a=bI (p::ys) parts→
  found.size+parts.length≤limit→(forIn (Wh a (x.length+1-a)) (found,a) (occBody x y x.length limit)).run.fst.toList=found.toList++ez y.length a parts:=by
 induction parts with
 |nil=>exactλa found h=>absurd rfl h
 |cons q r ih=>
  intro a found _ hq ha e jR
  cases r with
  |nil=>
  have hlen:x.cps.toList.length=x.length:=rfl
  have:=ry x y x.length limit (found,a) (x.length+1-a) a 0 (λj h1 h2=>.inr λ⟨h3,h4⟩=>by
   have h5:=Av hy h4 h3
   have h6:(x.cps.toList.drop a)[j-a]? =some p:=by rw[Sj];rwa [show a+(j-a)=j by exact Ce h1]
   rw[e]at h6
   exact hq q La (Ff h6))
  rw[Nat.add_zero]at this
  refine(this ..).symm▸ ?_
  simp[ez]
  |cons q' r=>
  have hlen:x.cps.toList.length=x.length:=rfl
  have zp:y.length=ys.length+1:=by
   show y.cps.size=_
   rw[←Wf,hy];rfl
  have e':x.cps.toList.drop a=q++(p::ys)++bI (p::ys) (q'::r):=e
  have hl:=Cc Ti e'
  simp only[Td,Dd,xd]at hl
  rw[hlen]at hl
  have s1:=ry x y x.length limit (found,a) q.length a (x.length+1-(a+q.length)) (λj h1 h2=>.inr λ⟨h3,h4⟩=>by
   have h5:=Av hy h4 h3
   have h6:(x.cps.toList.drop a)[j-a]? =some p:=by rw[Sj];rwa [show a+(j-a)=j by exact Ce h1]
   rw[e',We,Hh (by exact Nat.sub_lt_left_of_lt_add h1 h2)]at h6
   exact hq q La (Ff h6))
  rw[show q.length+(x.length+1-(a+q.length))=x.length+1-a by exact Xw hl]at s1
  rw[s1,show x.length+1-(a+q.length)=(x.length-(a+q.length))+1 by exact Xx hl,aa.range'_succ,qi]
  have tB:subAt x y (a+q.length)=true:=by
   rw[subAt_eq,Vd,hy,←qj,e',We,aa.drop_left,zp,show ys.length+1=(p::ys).length from rfl,aa.take_left]
  have e2:occBody x y x.length limit (a+q.length) (found,a)=pure (Af (found.push (a+q.length),a+q.length+y.length)):=by
   unfold occBody
   rw[if_pos ⟨⟨⟨by simp at jR;show found.size<limit;exact jk jR,by show a≤_;exact Tc _ _⟩,by exact Nx zp hl⟩,tB⟩]
  refine(e2 ..).symm▸ ?_
  show(forIn (Wh (a+q.length+1) (x.length-(a+q.length))) (found.push (a+q.length),a+q.length+y.length) (occBody x y x.length limit)).run.fst.toList=_
  have s2:=ry x y x.length limit (found.push (a+q.length),a+q.length+y.length) ys.length (a+q.length+1) (x.length+1-(a+q.length+y.length)) (λj h1 h2=>.inl (by show j<a+q.length+y.length;exact Xz zp h2))
  rw[show ys.length+(x.length+1-(a+q.length+y.length))=x.length-(a+q.length) by exact XN zp hl]at s2
  rw[s2,show a+q.length+1+ys.length=a+q.length+y.length by exact WB zp]
  have e3:x.cps.toList.drop (a+q.length+y.length)=bI (p::ys) (q'::r):=by
   rw[Nat.add_assoc,←qj,e',show q.length+y.length=(q++(p::ys)).length by simp[zp],aa.drop_left]
  rw[ih (a+q.length+y.length) (found.push (a+q.length)) (by simp) (λz hz=>hq z (Wa _ hz)) (by exact Nx zp hl) e3 (by simp at jR⊢;exact VF jR)]
  simp[ez]
theorem x6(x:Str)(i j:Nat):(strSub x i j).cps.toList=(x.cps.toList.drop i).take (j-i):=strSub_toList x i j
theorem zG{x y:Str}{sep:aa Nat}(hy:y.cps.toList=sep)(parts:aa (aa Nat)):∀(a:Nat),parts≠[]→x.cps.toList.drop a=bI sep parts→a≤x.length→
  (partsFrom x y.length a (ez y.length a parts)).map (λs=>s.cps.toList)=parts:=by
 induction parts with
 |nil=>exactλa h=>absurd rfl h
 |cons q r ih=>
  intro a _ e ha
  cases r with
  |nil=>
  show[(strSub x a x.length).cps.toList]=[q]
  rw[x6,e,Vg];rfl
  have:=Cc Ti e
  simp only[Td]at this
  have hlen:x.cps.toList.length=x.length:=rfl
  show q.length≤_
  have h2:(bI sep [q]).length=q.length:=rfl
  exact XH this hlen h2
  |cons q' r=>
  have hlen:x.cps.toList.length=x.length:=rfl
  have zp:y.length=sep.length:=by show y.cps.size=_;rw[←Wf,hy]
  have e':x.cps.toList.drop a=q++sep++bI sep (q'::r):=e
  have hl:=Cc Ti e'
  simp only[Td,Dd]at hl
  show(strSub x a (a+q.length)).cps.toList::(partsFrom x y.length (a+q.length+y.length) (ez y.length (a+q.length+y.length) (q'::r))).map _=_
  have e3:x.cps.toList.drop (a+q.length+y.length)=bI sep (q'::r):=by
   rw[Nat.add_assoc,←qj,e',show q.length+y.length=(q++sep).length by simp[zp],aa.drop_left]
  rw[ih _ (by simp) e3 (by exact X0 ha hlen zp hl),x6,e',show a+q.length-a=q.length by exact Tj _ _,We,aa.take_left]
theorem xZ{y:Str}(h:y.cps.all (· <256)=true)(x:Str):decide (strKind x<strKind y)=false:=by
 have:Str.strKind y=1:=by unfold Str.strKind;rw[if_pos h]
 refine(this ..).symm▸ ?_
 have:1≤strKind x:=by unfold Str.strKind;split;exact zb _;split<;> decide
 exact Wg (by exact To this)
theorem str_of_list{a b:Str}(h:a.cps.toList=b.cps.toList):a=b:=by
 obtain⟨a⟩:=a;obtain⟨b⟩:=b
 congr 1;exact oh h
set_option tactic.hygienic true in
theorem kq{x y:Str}{p:Nat}{ys:aa Nat}{parts:aa (aa Nat)}(hy:y.cps.toList=p::ys)(hk:y.cps.all (· <256)=true)(hys:p∉ys)(g9:parts≠[])(hq:∀q∈parts,p∉q)(e:x.cps.toList=bI (p::ys) parts):
  pg x y=parts.map (λl=>⟨l.toArray⟩)∧(partsBetween x (Gg x y 0 x.length (x.length+1)) y.length).length=parts.length:=by
 have zp:y.length=ys.length+1:=by
  show y.cps.size=_
  rw[←Wf,hy];rfl
 have hlen:x.cps.toList.length=x.length:=rfl
 have O8:∀parts:aa (aa Nat),parts.length≤(bI (p::ys) parts).length+1:=by
  intro parts
  induction parts with
  |nil=>simp
  |cons a r ih=>
   cases r with
   |nil=>simp
   |cons b r=>simp only[bI,Dd,xd]at ih⊢;exact WC ih
 have ho:Gg x y 0 x.length (x.length+1)=ez y.length 0 parts:=by
  refine(occ_eq ..).symm▸ ?_
  have:=Cw (x:=x) hy hys (limit:=x.length+1) parts 0 #[] g9 hq (Uc _) (by rw[aa.drop_zero];exact e) (by have:=O8 parts;rw[←e]at this;simp;exact V3 hlen this)
  simpa using this
 have hp:partsBetween x (Gg x y 0 x.length (x.length+1)) y.length=parts.map (λl=>⟨l.toArray⟩):=by
  refine(partsBetween_eq ..).symm▸(ho ..).symm▸ ?_
  have:=zG (x:=x) (y:=y) hy parts 0 g9 (by rw[aa.drop_zero];exact e) (Uc _)
  have h2:=Cc (aa.map λl:aa Nat=>(⟨l.toArray⟩:Str)) this
  rw[Eb]at h2
  refine(h2 ..)▸ ?_
  conv =>lhs;rw[←aa.map_id (partsFrom x y.length 0 (ez y.length 0 parts))]
  apply Tf
  intro a _
  simp
 refine⟨?_,by rw[hp];simp⟩
 unfold pg
 refine(xZ hk ..).symm▸ ?_
 by_cases bB:x.length<y.length
 ·rw[if_pos (by simp[bB])]
  cases parts with
  |nil=>exact absurd rfl g9
  |cons a r=>
   cases r with
   |nil=>
    have:x=⟨a.toArray⟩:=str_of_list (by rw[e];rfl)
    rw[this];rfl
   |cons b r=>
    have:=Cc Ti e
    simp only[bI,Dd,xd]at this
    rw[hlen]at this
    exact Ye (XI zp bB this)
 ·rw[if_neg (by simp[bB]),hp]
  split
  ·rename_i h
   rw[ho]at h
   cases parts with
   |nil=>exact absurd rfl g9
   |cons a r=>
    cases r with
    |nil=>
     have:x=⟨a.toArray⟩:=str_of_list (by rw[e];rfl)
     rw[this];rfl
    |cons b r=>simp[ez]at h
  ·rfl
end Mine
namespace Mine
open PySem PySem.W PySem.Calls PyProof.Rows PySem.SeqAt
theorem JM{w:Oa}{ds:ia→qa}{d:qa}{h:Ja}(G:aW w ds d h):h.get? 475=some ⟨.type "function",none,.func (fnOf (ya "law") (ya "law") (CC (st 23)) (aN (st 23)) (CH (st 23)) (.none) (.none) (ds 475) (.str (ya "law_wv0065_01") 1089) none (.ref 474) (.none)),#[]⟩:=
 G.kf _ _ (by kernel_rfl)
theorem law_code{w:Oa}{ds:ia→qa}{d:qa}{h:Ja}(G:aW w ds d h):h.CodeRec (.ref 474) (ya "law"):=Wc G.ko (by kernel_rfl)
noncomputable def Fp(dV:qa):Vc:=fnOf (ya "law") (ya "law") (CC (st 23)) (aN (st 23)) (CH (st 23)) (.none) (.none) dV (.str (ya "law_wv0065_01") 1089) none (.ref 474) (.none)
theorem Fz(dV:qa)(l:ia):bindArgs (Fp dV) ⟨[.ref l],[]⟩=pure [(ya "script",.ref l)]:=by kernel_rfl
noncomputable def lb(i:Nat):Va:=match(aN (st 23)).drop i with|x::_=>x|[]=>.Pass ⟨0,0,0,0⟩
theorem le7{n:Nat}(h:n≤7):n=0∨n=1∨n=2∨n=3∨n=4∨n=5∨n=6∨n=7:=(by decide:∀n,n<8→(n=0∨n=1∨n=2∨n=3∨n=4∨n=5∨n=6∨n=7)) n (Hj h)
theorem FA:aN (st 23)=[lb 0,lb 1,lb 2,lb 3,lb 4,lb 5,lb 6,lb 7,lb 8,lb 9,lb 10,lb 11,lb 12,lb 13,lb 14,lb 15,lb 16,lb 17,lb 18,lb 19,lb 20,lb 21,lb 22,lb 23,lb 24,lb 25,lb 26]:=by kernel_rfl
noncomputable abbrev aA(dV:qa)(L:ia):Env:=Cb (Fp dV) L 475
section
variable{w:Oa}{A:Xa}{B:Bx}{s:za}{L:ia}{dV:qa}{Γ Γ':aa (Str×D)}{Δ:aa (ia×MO)}{aG:ia→qa}{d0:qa}
theorem PY{pos}(G:aW w aG d0 B.s0.heap):ao w A B (aA dV L) Γ Δ (.Name (ya "min") pos) (.val (.builtin "min")):=ao.bG G (by kernel_rfl) (by kernel_rfl) rfl rfl (by kernel_rfl)
theorem PX{pos}(G:aW w aG d0 B.s0.heap):ao w A B (aA dV L) Γ Δ (.Name (ya "len") pos) (.val (.builtin "len")):=ao.bG G (by kernel_rfl) (by kernel_rfl) rfl rfl (by kernel_rfl)
theorem bC{pos}(G:aW w aG d0 B.s0.heap):ao w A B (aA dV L) Γ Δ (.Name (ya "range") pos) (.val (.type "range")):=ao.bG G (by kernel_rfl) (by kernel_rfl) rfl rfl (by kernel_rfl)
noncomputable def rW(ds:aa PyData):dW where
 P X h v:=∃a vs,v=.ref a∧a∉X∧h.IsList a (Ih vs)∧aD X h vs ds
 keep k:=λ⟨a,vs,e,hx,⟨o,ho,r⟩,hr⟩=>⟨a,vs,e,hx,⟨o,k _ _ hx ho,r⟩,hr.at λb o hb e=>.inr ⟨hb,k b o hb e⟩⟩
 more k:=λ⟨a,vs,e,hx,⟨o,ho,r⟩,hr⟩=>⟨a,vs,e,k _ _ hx ho,⟨o,ho,r⟩,hr.at λb o hb e=>.inr ⟨k b o hb e,e⟩⟩
variable{env:Env}
theorem ao.aaX{x:Str}{p pos:Pos}{e:Ba}{ds:aa PyData}(hf:ao w A B env Γ Δ (.Name x p) (.val (.builtin "len")))(y:ao w A B env Γ Δ e (.known (rW ds)))(hz:ds.length≤Bb)
  (he:Aa (notStar e=true) aR):ao w A B env Γ Δ (.Call (.Name x p) [e] [] pos) (.int ds.length):=.mk λs E S=>by
 refine Ke rfl (hf.use S λf s1 k1 S1 r1=> ?_)
 obtain rfl:f=.builtin "len":=r1
 have he':Rb [e] env=(false,eval e env)::Rb [] env:=aF _ _ _ he
 refine Fj ?_ he' rfl
 refine(he' ..).symm▸ ?_
 refine Le (y.use S1 λu s2 k2 S2 r2=>bg ?_)
 obtain⟨a,vs,rfl,ha,hl,hr⟩:=r2
 refine call_len_list hl (by rw[sizeLine_eq]at hz;simp[hr.length];exact pe.mpr (Fc hz (by decide))) ⟨(k1.trans' k2).trans' (.tok ..),?_⟩
 rw[Kf,hr.length];exact .int ..
theorem ao.ZE{l k:Ba}{pos:Pos}{ds:aa PyData}{i:Int}{d:PyData}(x:ao w A B env Γ Δ l (.known (rW ds)))(y:ao w A B env Γ Δ k (.int i))(h0:0≤i)(h1:i<2^63)(hd:ds[i.toNat]? =some d)
  (hs:Aa (cT k=true) aR):ao w A B env Γ Δ (.Subscript l k pos) (.dat d):=.mk λs E S=>
 xg (x.use S λv s1 k1 S1 r1=>y.use S1 λu s2 k2 S2 r2=>by
  obtain⟨a,vs,rfl,ha,hl,hr⟩:=r1.up k2.up
  refine r2.kQ λt=> ?_
  refine bE (hr.get hd) λv hv JB=> ?_
  refine xE (mH hs a i t) λops qL=> ?_
  exact tail_any hl.typeIs Ah.lookup (xj hl h0 h1 (by simpa using hv) ⟨k1.trans' k2,JB⟩) qL)
noncomputable def cI(ns:aa Int):Nat:=min ns.length 60
noncomputable def jG(ns:aa Int):Nat:=5+cI ns/2%3
noncomputable def uA:aa Int:=[7,20,17,24,4,32,7]
noncomputable def bW(ns:aa Int)(n:Nat):Nat→aa Int
 |0=>uA.take n
 |i+1=>(bW ns n i).set (i%n) ((bW ns n i).getD (i%n) 0+(ns.getD i 0).fmod 1000000)
theorem gM(ns:aa Int)(n:Nat)(hn:n≤7):∀i,(bW ns n i).length=n
 |0=>by unfold bW;rw[uf];simp[uA];exact Oh hn
 |i+1=>by unfold bW;rw[aa.length_set];exact gM ns n hn i
theorem xH(l:aa Int)(i:Nat)(x:Int):(l.set i x).map Xb=(l.map Xb).set i (.int x):=by simp[aa.map_set]
variable{ns:aa Int}{Q:Flow→za→Prop}{E:qa→za→Prop}{rest:aa Va}
theorem PM(ac:Ac A 10)(G:aW w aG d0 B.s0.heap)(hl:ns.length≤63)
  (S:Sc B (aA dV L) [(ya "script",.known (rW (ns.map .int))),(ya "many",.un),(ya "size",.un),(ya "cells",.un),(ya "k",.un)] [] s)
  (h:∀s',Sc B (aA dV L) [(ya "script",.known (rW (ns.map .int))),(ya "many",.int (cI ns:Nat)),(ya "size",.int (jG ns:Nat)),(ya "cells",.un),(ya "k",.un)] [] s'→Ex w A (aA dV L) rest Q E s'):
  Ex w A (aA dV L) (lb 0::lb 1::rest) Q E s:=by
 have hL:B.s0.heap.objs.size≤L:=S.lf
 have e1:min (((ns.map Xb).length:Nat):Int) 60=((cI ns:Nat):Int):=by unfold cI;simp;exact SA
 have e2:(5:Int)+(((cI ns:Nat):Int).fdiv 2).fmod 3=((jG ns:Nat):Int):=by
  unfold jG
  rw[Int.fdiv_eq_ediv_of_nonneg _ (by omega),Ng _ (by omega)]
  rfl
 refine aI (d:=.int (cI ns:Nat)) S ((ao.min2 ac.hh (PY G) (ao.aaX (PX G) (ao.name m0) (by rw[sizeLine_eq];simp;exact Na hl (by decide))) .bA).bO e1) BH (iW hL (.inl (by kernel_rfl))) λs2 S2=> ?_
 refine aI (d:=.int (jG ns:Nat)) S2 ((ao.add .bA (ao.fmod (ao.fdiv (ao.name m1) .bA (by decide) (by decide)) .bA (by decide))).bO e2) at2 (iW hL (.inr (by kernel_rfl))) λs3 S3=> ?_
 exact h s3 S3
theorem PN{n:Nat}{d1 d2:D}(hn:n≤7)
  (S:Sc B (aA dV L) [(ya "script",d1),(ya "many",d2),(ya "size",.int n),(ya "cells",.un),(ya "k",.un)] [] s)
  (h:∀a s',Sc B (aA dV L) [(ya "script",d1),(ya "many",d2),(ya "size",.int n),(ya "cells",.val (.ref a)),(ya "k",.un)] [(a,.list ((bW ns n 0).map .int))] s'→Ex w A (aA dV L) rest Q E s'):
  Ex w A (aA dV L) (lb 2::rest) Q E s:=by
 have hL:B.s0.heap.objs.size≤L:=S.lf
 have hz:(uA.map Xb).length≤Bb:=by rw[sizeLine_eq];decide
 have Pk:iP (uA.map Xb) none (some (n:Int))=(bW ns n 0).map .int:=by
  rcases le7 hn with rfl|rfl|rfl|rfl|rfl|rfl|rfl|rfl<;> rfl
 refine k8 (Γ':=λa=>[(ya "script",d1),(ya "many",d2),(ya "size",.int n),(ya "cells",.val (.ref a)),(ya "k",.un)]) S (z5.cast (z5.slice (ao.wK ?_ hz) .none (.some (ao.name m2)) hz (tu _)) Pk) (λa=>BI) (iW hL (.inr (by kernel_rfl))) h
 exact(.cons .bA (.cons .bA (.cons .bA (.cons .bA (.cons .bA (.cons .bA (.cons .bA .nil rfl) rfl) rfl) rfl) rfl) rfl) rfl)
set_option backward.match.sparseCases false in
noncomputable def fb:Va→aa Va|.For _ _ b _ _=>b|.If _ b _ _=>b|.While _ b _ _=>b|_=>[]
theorem wV(l:aa Int)(i:Nat)(h:i<l.length):(l.map Xb)[i]? =some (.int (l.getD i 0)):=by
 rw[Ab,Wb h,Lb,Wb h];rfl
theorem zK{b:Nat}{i:Nat}{d:PyData}(h:((Sa ((b:Int) -0).toNat).map λ(k:Nat)=>Xb (0+(k:Int)))[i]? =some d):i<b∧d=.int (i:Int):=by
 rw[Ab]at h
 by_cases hi:i<b
 ·rw[xf (by simpa using hi)]at h
  simp at h
  exact⟨hi,h.symm⟩
 ·rw[ak (by simpa using Sf.mp hi)]at h
  cases h
theorem PO{n:Nat}{a:ia}(ac:Ac A 10)(G:aW w aG d0 B.s0.heap)(hl:ns.length≤63)(hn:5≤n)(hn7:n≤7)
  (S:Sc B (aA dV L) [(ya "script",.known (rW (ns.map .int))),(ya "many",.int (cI ns:Nat)),(ya "size",.int n),(ya "cells",.val (.ref a)),(ya "k",.un)] [(a,.list ((bW ns n 0).map .int))] s)
  (h:∀s' (cs:aa Int),cs.length=n→Sc B (aA dV L) [(ya "script",.known (rW (ns.map .int))),(ya "many",.int (cI ns:Nat)),(ya "size",.int n),(ya "cells",.list (cs.map .int)),(ya "k",.un)] [] s'→Ex w A (aA dV L) rest Q E s'):
  Ex w A (aA dV L) (lb 3::rest) Q E s:=by
 have hL:B.s0.heap.objs.size≤L:=S.lf
 have hm:cI ns≤60:=by unfold cI;exact Aj _ 60
 have hm2:cI ns≤ns.length:=by unfold cI;exact ph _ 60
 have hit:bF (.range 0 (cI ns:Nat)) ((Sa (((cI ns:Nat):Int) -0).toNat).map λ(k:Nat)=>.int (0+(k:Int))):=.range 0 _ (by exact Fb _) (by exact pe.mpr (Fc hm (by decide))) (by rw[sizeLine_eq];exact Na hm (by decide)) (by exact Fb _)
 have hlen:((Sa (((cI ns:Nat):Int) -0).toNat).map λ(k:Nat)=>Xb (0+(k:Int))).length=cI ns:=by simp
 refine iJ ac.hh S (ao.dD (bC G) (ao.name m1)) hit
  (λi=>[(ya "script",.known (rW (ns.map .int))),(ya "many",.int (cI ns:Nat)),(ya "size",.int n),(ya "cells",.val (.ref a)),(ya "k",.un)])
  (λi d=>[(ya "script",.known (rW (ns.map .int))),(ya "many",.int (cI ns:Nat)),(ya "size",.int n),(ya "cells",.val (.ref a)),(ya "k",.dat d)])
  (λi=>[(a,.list ((bW ns n i).map .int))])
  (λB' s' S'=>S') (λi=>rfl) (λi d hd B' Δ' hB=>bY.name BJ (iW (hB▸hL) (.inl (by kernel_rfl)))) ?_ ?_
 ·intro B' R i d I m s' E' hB hd S' fin
  obtain⟨hi,rfl⟩:=zK hd
  have aaS:((i:Int).fmod (n:Int))=((i%n:Nat):Int):=by rw[Ng _ (by exact Fb _)];simp
  have bB:i%n<n:=Nat.mod_lt _ (by exact Nat.zero_lt_of_lt hn)
  have QJ:=gM ns n hn7 i
  refine xV (a:=a) (ds:=(bW ns n i).map .int) (i:=((i%n:Nat):Int)) (x:=(bW ns n i).getD (i%n) 0) (y:=(ns.getD i 0).fmod 1000000) (Δ':=(I,m)::[(a,.list ((bW ns n (i+1)).map .int))]) S' (ao.name m3) ((ao.fmod (ao.name m4) (ao.name m2) (by exact TY bB)).bO aaS) (ao.fmod (ao.ZE (ao.name m0) (ao.name m4) (by exact Fb _) (by exact UC hm hi) (d:=.int (ns.getD i 0)) ?_) .bA (by decide)) ?_ (by exact Fb _) (by exact Aq hn7 bB) ?_ λs2 S2=>aU (fin _ (S2.forget BJ))
  ·exact wV ns i (by exact Dc hi hm2)
  ·refine .there ?_
   have e:((bW ns n (i+1)).map Xb)=((bW ns n i).map Xb).set ((i%n:Nat):Int).toNat (.int ((bW ns n i).getD (i%n) 0+(ns.getD i 0).fmod 1000000)):=by
    show(((bW ns n i).set (i%n) _).map Xb)=_
    rw[xH];rfl
   refine(e ..).symm▸ ?_
   exact .here
  ·exact wV _ (i%n) (by exact Jg bB (id (Be QJ)))
 ·intro s' S'
  rw[hlen]at S'
  exact h s' (bW ns n (cI ns)) (gM ns n hn7 _) (S'.settle m3 BI)
open PySem.Builtin PySem.Builtin.Str
noncomputable def aJ(cs:aa Int):aa Int:=cs.map λc=>c.fmod 3
noncomputable def uY:aa Yb:=[".","a.",".b",".","A.",".B"]
noncomputable def dG:aa Yb:=["..","a.","..b","..","A.","..B"]
noncomputable def nC:aa Yb:=["\n","\r","\r\n"]
noncomputable def rowOf(c:Int):Str:=ya (uY.getD (c.fmod 6).toNat "")
noncomputable def cJ(c:Int):Str:=ya (dG.getD (c.fmod 6).toNat "")
noncomputable def endOf(c:Int):Str:=ya (nC.getD ((c.fdiv 6).fmod 3).toNat "")
noncomputable def f9(c:Int):Int:=1-2*((c.fdiv 18).fmod 2)
theorem b6(c:Int)(n:Int)(h:0<n):0≤c.fmod n∧c.fmod n<n:=by
 rw[Ng _ (by exact gf h)]
 exact⟨Int.emod_nonneg _ (by exact Int.ne_of_gt h),Int.emod_lt_of_pos _ h⟩
theorem O1(l:aa Yb)(i:Nat)(h:i<l.length):(l.map λx=>ie (ya x))[i]? =some (.str (ya (l.getD i ""))):=by
 rw[Ab,Wb h,Lb,Wb h];rfl
variable{cs:aa Int}
theorem PR(ac:Ac A 10)(G:aW w aG d0 B.s0.heap)(hn:cs.length≤7)
  (S:Sc B (aA dV L) [(ya "size",.int cs.length),(ya "cells",.list (cs.map .int)),(ya "kinds",.un),(ya "rows",.un),(ya "shown",.un),(ya "ends",.un),(ya "ways",.un)] [] s)
  (h:∀s',Sc B (aA dV L) [(ya "size",.int cs.length),(ya "cells",.list (cs.map .int)),(ya "kinds",.list ((aJ cs).map .int)),(ya "rows",.list (cs.map λc=>.str (rowOf c))),(ya "shown",.list (cs.map λc=>.str (cJ c))),(ya "ends",.list (cs.map λc=>.str (endOf c))),(ya "ways",.un)] [] s'→Ex w A (aA dV L) rest Q E s'):
  Ex w A (aA dV L) (lb 4::lb 5::lb 6::lb 7::rest) Q E s:=by
 have hL:B.s0.heap.objs.size≤L:=S.lf
 have hz:(cs.map Xb).length≤Bb:=by rw[sizeLine_eq,Qa];exact Na hn (by decide)
 have hit:bF (.list (cs.map Xb)) (cs.map Xb):=.list _ hz
 refine gA S ((LC.kP (g:=λc:Int=>.int (c.fmod 3)) ac.hh (ao.name m1) hit bS .nil (λc hc B' Δ' C u p q=>ao.fmod (ao.name m0) .bA (by decide))).cast (bs:=(aJ cs).map .int) (by unfold aJ;rw[Eb];rfl)) at2 (keep hL) (by kernel_rfl) λs1 S1=> ?_
 refine gA S1 (LC.kP (g:=λc:Int=>.str (rowOf c)) ac.hh (ao.name m1) hit bS .nil (λc hc B' Δ' C u p q=>ao.item (ds:=uY.map λx=>ie (ya x)) (ao.wK (.cons .gu (.cons .gu (.cons .gu (.cons .gu (.cons .gu (.cons .gu .nil)))))) (by rw[sizeLine_eq];decide)) (ao.fmod (ao.name m0) .bA (by decide)) (b6 c 6 (by decide)).1 (by have:=(b6 c 6 (by decide)).2;exact jf this (by decide)) (O1 uY _ (by have:=b6 c 6 (by decide);show _<6;exact OD this)))) BI (keep hL) (by kernel_rfl) λs2 S2=> ?_
 refine iI S2 (LC.kP (g:=λc:Int=>.str (cJ c)) ac.hh (ao.name m1) hit bS .nil (λc hc B' Δ' C u p q=>ao.item (ds:=dG.map λx=>ie (ya x)) (ao.wK (.cons .gu (.cons .gu (.cons .gu (.cons .gu (.cons .gu (.cons .gu .nil)))))) (by rw[sizeLine_eq];decide)) (ao.fmod (ao.name m0) .bA (by decide)) (b6 c 6 (by decide)).1 (by have:=(b6 c 6 (by decide)).2;exact jf this (by decide)) (O1 dG _ (by have:=b6 c 6 (by decide);show _<6;exact OD this)))) BJ (keep hL) (gZ (by kernel_rfl)) λs3 S3=> ?_
 refine gA S3 (LC.kP (g:=λc:Int=>.str (endOf c)) ac.hh (ao.name m1) hit bS .nil (λc hc B' Δ' C u p q=>ao.item (ds:=nC.map λx=>ie (ya x)) (ao.wK (.cons .gu (.cons .gu (.cons .gu .nil))) (by rw[sizeLine_eq];decide)) (ao.fmod (ao.fdiv (ao.name m0) .bA (by decide) (by decide)) .bA (by decide)) (b6 _ 3 (by decide)).1 (by have:=(b6 (c.fdiv 6) 3 (by decide)).2;exact jf this (by decide)) (O1 nC _ (by have:=b6 (c.fdiv 6) 3 (by decide);show _<3;exact Iv this)))) OG (keep hL) (by kernel_rfl) λs4 S4=> ?_
 exact h s4 S4
noncomputable def quoted(x:Str):Str:=⟨(c7 true (bQ x.cps.toList)).toArray⟩
noncomputable def jA(x:Str):Str:=⟨(bQ x.cps.toList).toArray⟩
noncomputable def ZZ(dV:qa):Vc:=fnOf (ya "quotedata") (ya "quotedata") (CC (st 15)) (aN (st 15)) (CH (st 15)) (.none) (.none) dV (.str (ya "cpy313.smtplib") 738) none (.ref 321) (.none)
noncomputable def qb(i:Nat):Va:=match(aN (st 15)).drop i with|x::_=>x|[]=>.Pass ⟨0,0,0,0⟩
theorem KD:aN (st 15)=[qb 0,qb 1]:=by kernel_rfl
theorem Gm{w:Oa}{ds:ia→qa}{d:qa}{h:Ja}(G:aW w ds d h):h.get? 322=some ⟨.type "function",none,.func (ZZ (ds 322)),#[]⟩:=G.kf _ _ (by kernel_rfl)
theorem KH{w:Oa}{ds:ia→qa}{d:qa}{h:Ja}(G:aW w ds d h):h.CodeRec (.ref 321) (ya "quotedata"):=Wc G.ko (by kernel_rfl)
theorem KC(s:za)(dV v:qa):BindsTo s (ZZ dV) ⟨[v],[]⟩ [(ya "data",v)]:=je (by kernel_rfl)
theorem uV{w:Oa}{ds:ia→qa}{d:qa}{h:Ja}(G:aW w ds d h){p c:ia}{o oc:Obj}{fs vs:Ua qa}{n:Nat}{t2 t6:Tok}{code:Ua Nat}(h1:(KO w.params d).lookup p=some o)(h2:o.cls=.type "re.Pattern"∧o.dict=none∧o.data=.fields fs)
  (h3:fs.getD 2 .none=.int 0 t2∧fs.getD 5 .none=.ref c∧fs.getD 6 .none=.int 0 t6)(h4:(KO w.params d).lookup c=some oc)(h5:oc.data=.seq vs n)(h6:(vs.map Ob.Re.reRawOf).map (·.toNat)=code):eT h p code:=
 ⟨o,fs,c,t2,t6,oc,vs,n,G.ko _ _ h1,h2.1,h2.2.1,h2.2.2,h3.1,h3.2.1,h3.2.2,G.ko _ _ h4,h5,h6⟩
theorem aa3{w:Oa}{ds:ia→qa}{d:qa}{h:Ja}(G:aW w ds d h):eT h 310 fW:=
 uV (c:=309) (o:=⟨.type "re.Pattern",none,.fields #[.str (ya "(?m)^\\.") 741,.int (40) 754,.int (0) 0,.none,.none,.ref 309,.int (0) 0],#[]⟩) (oc:=⟨.type "tuple",none,.seq (fW.map λn=>.int (n:Nat) 0) 0,#[]⟩) G (by kernel_rfl) ⟨rfl,rfl,rfl⟩ ⟨rfl,rfl,rfl⟩ (by kernel_rfl) rfl (by kernel_rfl)
theorem aa4{w:Oa}{ds:ia→qa}{d:qa}{h:Ja}(G:aW w ds d h):eT h 315 lU:=
 uV (c:=314) (o:=⟨.type "re.Pattern",none,.fields #[.str (ya "(?:\\r\\n|\\n|\\r(?!\\n))") 757,.int (32) 796,.int (0) 0,.none,.none,.ref 314,.int (0) 0],#[]⟩) (oc:=⟨.type "tuple",none,.seq (lU.map λn=>.int (n:Nat) 0) 0,#[]⟩) G (by kernel_rfl) ⟨rfl,rfl,rfl⟩ ⟨rfl,rfl,rfl⟩ (by kernel_rfl) rfl (by kernel_rfl)
theorem aW.ru{w:Oa}{ds:ia→qa}{d:qa}{h:Ja}(G:aW w ds d h):h.NoLimit:=G.nolimit
theorem ao.ofStr{w:Oa}{A:Xa}{B:Bx}{env:Env}{Γ:aa (Str×D)}{Δ:aa (ia×MO)}{e:Ba}{x:Str}{t:Tok}(h:ao w A B env Γ Δ e (.val (.str x t))):ao w A B env Γ Δ e (.str x):=.mk λs E S=>
 Pa (h.go s E S) (λv s' q=>⟨q.1,by rw[show v=_ from q.2];exact .str ..⟩) λz_ z_ z=>z
variable{X:aa ia}
theorem KG{x:Str}{v:qa}{k:Nat}(ac:Ac A (k+1))(G:aW w aG d0 s.heap)(hX:∀a∈X,a<s.heap.objs.size)(hv:Rd X s.heap v (.str x))(hx:x.cps.size≤400)(hm:(bQ x.cps.toList).length≤1000):
  Ia (Md w) A (Ic (.ref 322) [v]) (λv s'=>Kp s s'∧De X s'.heap v (.str (quoted x))) E s:=by
 refine cu (s0:=s) (X:=X) (Γ0:=[(ya "data",.str x)]) (Γa:=[(ya "data",.str x)]) ac G.ru (Gm G) (KH G) (body:=aN (st 15)) rfl (KC s _ v) (.bN _) rfl hX (.cons hv .nil) (λp hp z_=>hp) λB A' L R s1 E' hB pD hL S eO fin=> ?_
 refine Ex.of KD ?_
 refine cV S λs2 S2=> ?_
 have G1:aW w aG d0 B.s0.heap:=hB▸G
 have e1:(c7 true (bQ x.cps.toList))=i6 (f1 (jA x).cps) (jA x).cps.toList [46,46] ((jA x).cps.size+1) 0:=by
  rw[A7 _ _ 0 (by exact Nat.le_add_left (_+1) 0) (Uc _)];rfl
 have e2:bQ x.cps.toList=i6 (f2 x.cps) x.cps.toList [13,10] (x.cps.size+1) 0:=by
  rw[A8 _ _ 0 (by exact Nat.le_add_left (_+1) 0) (Uc _)];rfl
 refine dR S2 (ao.Ol (x:=jA x) (y:=quoted x) (ao.glob G1 (by kernel_rfl) rfl (by kernel_rfl)) (aa3 G1) ao.gu (ao.Ol (y:=jA x) (ao.glob G1 (by kernel_rfl) rfl (by kernel_rfl)) (aa4 G1) (rp:=ya "\r\n") (ao.ofStr (t:=798) (ao.glob G1 (by kernel_rfl) rfl (by kernel_rfl))) (ao.name m0) (I0 _) (by exact Na hx (by decide)) (by decide) (by decide+kernel) e2) (IZ _ (by simpa[jA]using hm)) (by simpa[jA]using hm) (by decide) (by decide+kernel) e1) λv s3 S3 r=>fin _ _ ⟨hB▸S3.kp,?_⟩
 refine r.q8 λt=> ?_
 exact .str ..
noncomputable def CG:aa (aa Nat):=[[46],[97,46],[46,98],[46],[65,46],[46,66]]
noncomputable def jF:aa (aa Nat):=[[46,46],[97,46],[46,46,98],[46,46],[65,46],[46,46,66]]
theorem Gs:∀i,i<6→(ya (uY.getD i "")).cps.toList=CG.getD i []:=by decide+kernel
theorem shown_list:∀i,i<6→(ya (dG.getD i "")).cps.toList=jF.getD i []:=by decide+kernel
theorem six(c:Int):(c.fmod 6).toNat<6:=by have:=b6 c 6 (by decide);exact OD this
noncomputable def mD(c:Int):aa Nat:=CG.getD (c.fmod 6).toNat []
noncomputable def fS(c:Int):aa Nat:=jF.getD (c.fmod 6).toNat []
theorem rE(c:Int):(rowOf c).cps.toList=mD c:=Gs _ (six c)
theorem cZ(c:Int):(cJ c).cps.toList=fS c:=shown_list _ (six c)
theorem cy{P:Nat→Prop}(h:∀i,i<6→P i)(c:Int):P (c.fmod 6).toNat:=h _ (six c)
theorem nD(c:Int):(endOf c).cps.toList=[10]∨(endOf c).cps.toList=[13]∨(endOf c).cps.toList=[13,10]:=by
 have h:∀i,i<3→(ya (nC.getD i "")).cps.toList=[10]∨(ya (nC.getD i "")).cps.toList=[13]∨(ya (nC.getD i "")).cps.toList=[13,10]:=by decide+kernel
 exact h _ (by have:=b6 (c.fdiv 6) 3 (by decide);exact Iv this)
theorem zL(c:Int):∀d∈mD c,eV d=false:=cy (P:=λi=>∀d∈CG.getD i [],eV d=false) (by decide) c
theorem CF(c:Int):∃d r,mD c=d::r∧d≠10:=cy (P:=λi=>∃d r,CG.getD i []=d::r∧d≠10) (by
 intro i hi
 have:i=0∨i=1∨i=2∨i=3∨i=4∨i=5:=by exact Mz hi
 rcases this with rfl|rfl|rfl|rfl|rfl|rfl<;> exact⟨_,_,rfl,by decide⟩) c
theorem zR(c:Int):∀d∈fS c,d<128∧d≠13∧d≠47∧46≤d:=cy (P:=λi=>∀d∈jF.getD i [],d<128∧d≠13∧d≠47∧46≤d) (by decide) c
theorem lH(c:Int):(fS c).length≤3:=cy (P:=λi=>(jF.getD i []).length≤3) (by decide) c
theorem rD(c:Int):(mD c).length≤2:=cy (P:=λi=>(CG.getD i []).length≤2) (by decide) c
theorem tW(c:Int)(r:aa Nat):c7 true (mD c++13::10::r)=fS c++13::10::c7 true r:=cy (P:=λi=>c7 true (CG.getD i []++13::10::r)=jF.getD i []++13::10::c7 true r) (by
 intro i hi
 have:i=0∨i=1∨i=2∨i=3∨i=4∨i=5:=by exact Mz hi
 rcases this with rfl|rfl|rfl|rfl|rfl|rfl<;> rfl) c
noncomputable def jM(cs:aa Int):aa Nat:=cs.flatMap λc=>mD c++(endOf c).cps.toList
noncomputable def zD:aa Nat→Prop|[]=>True|d::_=>d≠10
theorem IV{r:aa Nat}(h:zD r)(c:Int):bQ ((endOf c).cps.toList++r)=13::10::bQ r:=by
 rcases nD c with e|e|e<;> rw[e]
 ·cases r with
  |nil=>rfl
  |cons d r=>show bQ (10::d::r)=_;rw[iS];rfl
 ·cases r with
  |nil=>rfl
  |cons d r=>
   show bQ (13::d::r)=_
   rw[iS,if_neg (by have h:d≠10:=h;simpa using h)];rfl
 ·show bQ (13::10::r)=_
  rw[iS];rfl
theorem CL:∀cs:aa Int,zD (jM cs)
 |[]=>trivial
 |c::cs=>by
  refine lK (CF c) λd r e hd=> ?_
  show zD ((mD c++_)++_)
  rw[e];exact hd
theorem lX:∀cs:aa Int,bQ (jM cs)=cs.flatMap λc=>mD c++[13,10]
 |[]=>rfl
 |c::cs=>by
  show bQ ((mD c++(endOf c).cps.toList)++jM cs)=_
  rw[ug,We,kE _ (zL c),IV (CL cs),lX cs]
  simp
theorem sS:∀cs:aa Int,c7 true (cs.flatMap λc=>mD c++[13,10])=bI [13,10] (cs.map fS++[[]])
 |[]=>rfl
 |c::cs=>by
  show _=bI [13,10] (fS c::(cs.map fS++[[]]))
  rw[ug,We]
  show c7 true (mD c++13::10::(cs.flatMap λc=>mD c++[13,10]))=_
  rw[tW,sS cs]
  cases h:cs.map fS++[[]]with
  |nil=>simp at h
  |cons a r=>simp[bI]
noncomputable def linesOf(cs:aa Int):aa Str:=cs.map cJ++[⟨#[]⟩]
theorem uX{x:Str}{cs:aa Int}(hx:x.cps.toList=jM cs):pg (quoted x) (ya "\r\n")=linesOf cs∧
  (partsBetween (quoted x) (Gg (quoted x) (ya "\r\n") 0 (quoted x).length ((quoted x).length+1)) (ya "\r\n").length).length=cs.length+1:=by
 have e:(quoted x).cps.toList=bI [13,10] (cs.map fS++[[]]):=by
  show(c7 true (bQ x.cps.toList))=_
  rw[hx,lX,sS]
 have h:=kq (x:=quoted x) (y:=ya "\r\n") (p:=13) (ys:=[10]) (parts:=cs.map fS++[[]]) (by decide+kernel) (by decide+kernel) (by decide) (by simp) (λq hq=>by
  rcases zc.mp hq with hq|hq
  ·obtain⟨c,_,rfl⟩:=Ra.mp hq
   intro h;exact(zR c 13 h).2.1 rfl
  ·rw[Vb.mp hq];simp) e
 refine⟨h.1.trans ?_,h.2.trans (by simp)⟩
 unfold linesOf
 refine(Mc ..).symm▸(Eb ..).symm▸ ?_
 congr 1
 apply Tf
 intro c _
 exact str_of_list (by rw[cZ];rfl)
theorem GA:∀cs:aa Int,(jM cs).length≤4*cs.length∧(bQ (jM cs)).length≤4*cs.length:=λcs=>by
 refine⟨?_,?_⟩
 ·unfold jM
  induction cs with
  |nil=>simp
  |cons c cs ih=>
   have h1:=rD c
   have h2:(endOf c).cps.toList.length≤2:=by rcases nD c with e|e|e<;> rw[e]<;> decide
   simp only[ug,Dd,xd]at ih⊢
   exact Xp ih h1 h2
 ·refine(lX ..).symm▸ ?_
  induction cs with
  |nil=>simp
  |cons c cs ih=>
   have h1:=rD c
   simp only[ug,Dd,xd,xh]at ih⊢
   exact VX ih h1
theorem zJ{x:Str}{cs:aa Int}(hx:x.cps.toList=jM cs):(quoted x).length≤5*cs.length:=by
 show(c7 true (bQ x.cps.toList)).toArray.size≤_
 refine(hx ..).symm▸(lX ..).symm▸(Kf ..).symm▸ ?_
 induction cs generalizing x with
 |nil=>simp[c7]
 |cons c cs ih=>
  refine(ug ..).symm▸(We ..).symm▸ ?_
  show(c7 true (mD c++13::10::(cs.flatMap λc=>mD c++[13,10]))).length≤_
  refine(tW ..).symm▸ ?_
  have h1:=lH c
  have:=ih (x:=⟨(jM cs).toArray⟩) rfl
  simp only[Dd,xd]
  exact VY h1 this
theorem lJ(n:Nat)(h:n≤1000):bF (.range 0 (n:Nat)) ((Sa n).map λ(k:Nat)=>Xb (k:Nat)):=by
 have:=bF.range 0 (n:Nat) (by exact Fb _) (by exact pe.mpr (Fc h (by decide))) (by rw[sizeLine_eq];exact Na h (by decide)) (by exact Fb _)
 simpa using this
theorem j5(a b:Nat)(h:a≤b)(h2:b≤1000):bF (.range (a:Nat) (b:Nat)) ((Sa (b-a)).map λ(k:Nat)=>Xb ((a+k:Nat):Int)):=by
 have:=bF.range (a:Nat) (b:Nat) (by exact Fb _) (by exact pe.mpr (Fc h2 (by decide))) (by rw[sizeLine_eq];exact T4 h2) (by exact Gd.mpr h)
 rw[show(((b:Nat):Int) -(a:Nat)).toNat=b-a by exact Int.toNat_sub _ _]at this
 simpa using this
theorem getM{α:Type}(l:aa α)(g:α→PyData)(i:Nat)(h:i<l.length):(l.map g)[i]? =some (g l[i]):=by
 rw[Ab,Wb h];rfl
noncomputable def kr(cs:aa Int):aa PyData:=(Sa cs.length).map λk=>.tuple [.int (k:Nat),.int (f9 (cs.getD k 0))]
noncomputable def jN(cs:aa Int):aa Str:=(Sa cs.length).map λk=>rowOf (cs.getD k 0)++endOf (cs.getD k 0)
theorem yX{α:Type}(l:aa α)(d:α):(Sa l.length).map (λk=>l.getD k d)=l:=by
 apply Ei
 ·simp
 ·intro i h1 h2
  simp at h1
  simp[Lb,Wb h1]
theorem CK(cs:aa Int):(Gf ⟨#[]⟩ (jN cs)).cps.toList=jM cs:=by
 rw[xx]
 have:jN cs=cs.map λc=>rowOf c++endOf c:=by
  unfold jN
  conv =>rhs;rw[←yX cs 0,Eb]
  rfl
 rw[this]
 unfold mZ jM
 rw[aa.flatMap_map]
 congr 1
 funext c
 show((rowOf c).cps++(endOf c).cps).toList=_
 rw[Qi,rE]
theorem tT(c:Int):(rowOf c).length≤2∧(endOf c).length≤2:=by
 constructor
 ·show(rowOf c).cps.size≤2
  rw[←Wf,rE];exact rD c
 ·show(endOf c).cps.size≤2
  refine(Wf ..)▸ ?_
  rcases nD c with e|e|e<;> rw[e]<;> decide
theorem jx{sep:Str}{ts:aa Str}{b:Nat}(hl:∀t∈ts,t.length≤b)(h:ts.length*b+ts.length*sep.length≤1000000):JoinOk sep ts=true:=by
 unfold JoinOk
 refine(StrLaws.joinTotal ..).symm▸(Ii ..).symm▸ ?_
 unfold tooLong
 have:=StrLaws.sumLen_le ts hl
 refine(sizeLine_eq ..).symm▸ ?_
 exact Wg (by exact VI h this)
theorem Gz(cs:aa Int)(h:cs.length≤7):JoinOk ⟨#[]⟩ (jN cs)=true:=by
 refine jx (b:=4) (λt ht=> ?_) ?_
 ·obtain⟨k,_,rfl⟩:=Ra.mp ht
  have:=tT (cs.getD k 0)
  rw[Str.length_append];exact T5 this
 ·have:(⟨#[]⟩:Str).length=0:=rfl
  rw[this];unfold jN;simp;exact SK h
noncomputable abbrev G8(cs:aa Int)(dw dl dt:D):aa (Str×D):=[(ya "size",.int cs.length),(ya "cells",.list (cs.map .int)),(ya "kinds",.list ((aJ cs).map .int)),(ya "rows",.list (cs.map λc=>.str (rowOf c))),(ya "shown",.list (cs.map λc=>.str (cJ c))),(ya "ends",.list (cs.map λc=>.str (endOf c))),(ya "ways",dw),(ya "lines",dl),(ya "turned",dt)]
theorem PS(ac:Ac A 10)(G:aW w aG d0 B.s0.heap)(hn:cs.length≤7)
  (S:Sc B (aA dV L) (G8 cs .un .un .un) [] s)
  (h:∀s',Sc B (aA dV L) (G8 cs (.list (kr cs)) .un .un) [] s'→Ex w A (aA dV L) rest Q E s'):Ex w A (aA dV L) (lb 8::rest) Q E s:=by
 have hL:B.s0.heap.objs.size≤L:=S.lf
 refine iI S (LC.kP (g:=λk:Nat=>.tuple [.int (k:Nat),.int (f9 (cs.getD k 0))]) ac.hh (ao.dD (bC G) (ao.name m0)) (lJ cs.length (by exact Na hn (by decide))) bS (.cons m1 .nil) (λk hk B' Δ' C u p q=> ?_)) NC (keep hL) (gZ (by kernel_rfl)) λs1 S1=>h s1 S1
 have hk:k<cs.length:=Nb.mp hk
 refine ao.tup (.cons (ao.name m0) (.cons (ao.sub .bA (ao.mul .bA (ao.fmod (ao.fdiv (ao.item (ao.name m1) (ao.name m0) (by exact Fb _) (by exact Aq hn hk) (wV cs k hk)) .bA (by decide) (by decide)) .bA (by decide)) ?_)) .nil)) (by rw[sizeLine_eq];simp)
 exact .of_left (by decide)
theorem FI{pos}(G:aW w aG d0 B.s0.heap):ao w A B (aA dV L) Γ Δ (.Name (ya "quotedata") pos) (.val (.ref 322)):=ao.glob G (by kernel_rfl) rfl (by kernel_rfl)
theorem tK{e:Ba}{p1 p2 p2' p3 p4 p5 p6 p7:Pos}{k5 k6}(ac:Ac A 10)(G:aW w aG d0 B.s0.heap)(hn:cs.length≤7)(x:ao w A B (aA dV L) Γ Δ e (.list ((jN cs).map .str)))
  (hs:Aa (notStar e=true) aR)(Pq:Aa ((p3.endLine==p4.line)=true) aR)(HJ:Aa ((p6.endLine==p7.line)=true) aR):
  ao w A B (aA dV L) Γ Δ (.Call (.Attribute (.Call (.Name (ya "quotedata") p1) [.Call (.Attribute (.Constant (.str (ya "")) k5 p2) (ya "join") p3) [e] [] p4] [] p5) (ya "split") p6) [.Constant (.str (ya "\r\n")) k6 p2'] [] p7) (.list ((linesOf cs).map .str)):=by
 have hx:(Gf ⟨#[]⟩ (jN cs)).cps.toList=jM cs:=CK cs
 have hq:=uX hx
 have w5:=GA cs
 have hql:=zJ hx
 have:=ao.split (b:=ya "\r\n") (pos:=p7) (apos:=p6) (a:=quoted (Gf ⟨#[]⟩ (jN cs))) (ao.YM (p:=p1) (pos:=p5) (FI G) (.cons (ao.join (apos:=p3) (pos:=p4) (ao.gu (x:=ya "") (k:=k5) (pos:=p2)) x (Gz cs hn) rfl hs Pq) .nil) (Gm G) rfl (λvs s E S r=>by
  refine r.c1 λv r1=> ?_
  exact KG (k:=5) (ac.weak (by exact Mb rfl)) (S.g8 G) (λa ha=>S.jH ha) r1 (by
   show(Gf ⟨#[]⟩ (jN cs)).cps.size≤400
   rw[←Wf,hx];exact VJ hn w5) (by
   show(bQ (Gf ⟨#[]⟩ (jN cs)).cps.toList).length≤_
   rw[hx];exact VK hn w5))) (ao.gu (k:=k6) (pos:=p2')) (by decide+kernel) (by rw[sizeLine_eq];exact UD hn hql) (by rw[hq.2,sizeLine_eq];exact Fc hn (by decide)) rfl rfl HJ
 rw[hq.1]at this
 exact this
theorem PT(ac:Ac A 10)(G:aW w aG d0 B.s0.heap)(hn:cs.length≤7){dw:D}
  (S:Sc B (aA dV L) (G8 cs dw .un .un) [] s)
  (h:∀s',Sc B (aA dV L) (G8 cs dw (.list ((linesOf cs).map .str)) (.list ((linesOf cs.reverse).map .str))) [] s'→Ex w A (aA dV L) rest Q E s'):Ex w A (aA dV L) (lb 9::lb 10::rest) Q E s:=by
 have hL:B.s0.heap.objs.size≤L:=S.lf
 have hpl:∀c,(rowOf c).length+(endOf c).length≤Bb:=λc=>by have:=tT c;rw[sizeLine_eq];exact T6 this
 refine aI S (tK ac G hn (LC.cast (LC.kP (g:=λk:Nat=>.str (rowOf (cs.getD k 0)++endOf (cs.getD k 0))) ac.hh (ao.dD (bC G) (ao.name m0)) (lJ cs.length (by exact Na hn (by decide))) bS (.cons m3 (.cons m5 .nil)) (λk hk B' Δ' C u p q=> ?_)) ?_).ev) IA (keep hL) λs1 S1=> ?_
 ·have hk:k<cs.length:=Nb.mp hk
  have ek:cs[k]=cs.getD k 0:=by rw[Lb,Wb hk];rfl
  refine ao.KQ (ao.item (ao.name m1) (ao.name m0) (by exact Fb _) (by exact Aq hn hk) ?_) (ao.item (ao.name m2) (ao.name m0) (by exact Fb _) (by exact Aq hn hk) ?_) (hpl _)
  ·rw[←ek];exact getM cs _ k hk
  ·rw[←ek];exact getM cs _ k hk
 ·unfold jN;rw[Eb];rfl
 refine aI S1 (tK (cs:=cs.reverse) ac G (by simpa using hn) (LC.cast (LC.kP (g:=λk:Nat=>.str (rowOf (cs.reverse.getD k 0)++endOf (cs.reverse.getD k 0))) ac.hh (ao.dD (bC G) (ao.name m0)) (lJ cs.length (by exact Na hn (by decide))) bS (.cons m0 (.cons m3 (.cons m5 .nil))) (λk hk B' Δ' C u p q=> ?_)) ?_).ev) Hy (keep hL) λs2 S2=>h s2 S2
 ·have hk:k<cs.length:=Nb.mp hk
  have iM:cs.length-1-k<cs.length:=by exact yj hk
  have ek:cs[cs.length-1-k]=cs.reverse.getD k 0:=by rw[Lb,Wb (by simpa using hk),Nf,aa.getElem_reverse]
  have hi:(((cs.length:Nat):Int) -1-(k:Nat)).toNat=cs.length-1-k:=by exact DL
  refine ao.KQ (ao.item (ao.name m2) (ao.sub (ao.sub (ao.name m1) .bA) (ao.name m0)) (by exact DO hk) (by exact DP hn) ?_) (ao.item (ao.name m3) (ao.sub (ao.sub (ao.name m1) .bA) (ao.name m0)) (by exact DO hk) (by exact DP hn) ?_) (hpl _)
  ·rw[hi,←ek];exact getM cs _ _ iM
  ·rw[hi,←ek];exact getM cs _ _ iM
 ·unfold jN;rw[Eb,Ue];rfl
theorem Ac.under{A:Xa}{k:Nat}{C:ia}{vs:aa qa}(a:Ac A (k+1)):Ac (A.under (.builtin "type.__call__" ⟨.ref C::vs,[]⟩)) k:=by
 have e:(A.under (.builtin "type.__call__" ⟨.ref C::vs,[]⟩)).depth=A.depth+1:=depth_under_kw A C vs []
 have u:(Code.builtin "type.__call__" ⟨.ref C::vs,[]⟩).cUnits=1:=by kernel_rfl
 refine⟨a.hh,by have:=a.room;exact WZ e this,?_⟩
 have:=a.units
 show A.units+(Code.builtin "type.__call__" ⟨.ref C::vs,[]⟩).cUnits+4*k+80<_
 exact W0 u this
noncomputable def cX:aa Int→aa Int→aa Int→Int
 |w::ws,l::ls,r::rs=>if l<r then -w else if l>r then w else cX ws ls rs
 |_,_,_=>0
noncomputable def fX(n:Nat):aa Int→aa PyData
 |[]=>[]
 |w::ws=>.tuple [.int (n:Nat),.int w]::fX (n+1) ws
theorem nU:∀(ws:aa Int) (n i:Nat),(fX n ws)[i]? =(ws[i]?).map λw=>.tuple [.int ((n+i:Nat):Int),.int w]
 |[],n,i=>by simp[fX]
 |w::ws,n,0=>by simp[fX]
 |w::ws,n,i+1=>by simp only[fX,aa.getElem?_cons_succ];rw[nU ws (n+1) i,show n+1+i=n+(i+1) by exact aj _ _]
theorem mu:∀(ws:aa Int) (n:Nat),(fX n ws).length=ws.length
 |[],n=>rfl
 |w::ws,n=>by simp[fX,mu ws]
theorem lV(ws:aa Int):∀(ls rs:aa Int) (i:Nat),i<ws.length→i<ls.length→i<rs.length→(∀j,j<i→ls.getD j 0=rs.getD j 0)→
  cX ws ls rs=if ls.getD i 0<rs.getD i 0 then -(ws.getD i 0)else if ls.getD i 0>rs.getD i 0 then ws.getD i 0 else cX (ws.drop (i+1)) (ls.drop (i+1)) (rs.drop (i+1)):=by
 induction ws with
 |nil=>exactλz_ z_ z_ h=>absurd h (Nat.not_lt_zero _)
 |cons w ws ih=>
  intro ls rs i h1 h2 h3 h
  cases ls with
  |nil=>exact absurd h2 (Nat.not_lt_zero _)
  |cons l ls=>
   cases rs with
   |nil=>exact absurd h3 (Nat.not_lt_zero _)
   |cons r rs=>
    cases i with
    |zero=>rfl
    |succ i=>
     obtain rfl:l=r:=h 0 (Ae _)
     refine Eq.trans ?_ (ih ls rs i (Ck h1) (Ck h2) (Ck h3) λj hj=>h (j+1) (Ej hj 1))
     exact(if_neg (Cg l)).trans (if_neg (Cg l))
theorem j0(ws:aa Int):∀(ls rs:aa Int),(∀j,j<ws.length→ls.getD j 0=rs.getD j 0)→cX ws ls rs=0:=by
 induction ws with
 |nil=>exactλls rs z_=>by unfold cX;rfl
 |cons w ws ih=>
  intro ls rs h
  cases ls with
  |nil=>rfl
  |cons l ls=>
   cases rs with
   |nil=>rfl
   |cons r rs=>
    obtain rfl:l=r:=h 0 (Ae _)
    exact((if_neg (Cg l)).trans (if_neg (Cg l))).trans (ih ls rs λj hj=>h (j+1) (Ej hj 1))
noncomputable def Qy(dV:qa):Vc:=fnOf (ya "__init__") (ya "TupleComp.__init__") (CC (mt 8 1)) (aN (mt 8 1)) (CH (mt 8 1)) (.none) (.none) dV (.str (ya "cpy313.pstats") 670) none (.ref 276) (.none)
noncomputable def Bo(dV:qa):Vc:=fnOf (ya "compare") (ya "TupleComp.compare") (CC (mt 8 2)) (aN (mt 8 2)) (CH (mt 8 2)) (.none) (.none) dV (.str (ya "cpy313.pstats") 670) none (.ref 283) (.none)
noncomputable def aC(l:aa Va)(i:Nat):Va:=match l.drop i with|x::_=>x|[]=>.Pass ⟨0,0,0,0⟩
theorem x8:aN (mt 8 1)=[aC (aN (mt 8 1)) 0]:=by kernel_rfl
theorem zW:aN (mt 8 2)=[aC (aN (mt 8 2)) 0,aC (aN (mt 8 2)) 1]:=by kernel_rfl
theorem Lu{x dx:ia}{v:qa}{ds:aa PyData}{k:Nat}(ac:Ac A (k+1))(G:aW w aG d0 s.heap)(Gb:aW w aG d0 (blank dx s).heap)(hX:∀a∈X,a<s.heap.objs.size)(hl:dx∈X)(hx:x∉X)(hg:s.heap.get? x=some (instObj 287 dx))(hm:(MO.attrs [] 0).At X s.heap dx)(hv:Rd X s.heap v (.list ds)):
  wc (Md w) A (.call (.ref 277) ⟨[.ref x,v],[]⟩) (λr s'=>match r with|.ok (.ret v)=>Kp (blank dx s) s'∧(MO.attrs [(ya "comp_select_list",.list ds)] 1).At X s'.heap dx∧De X s'.heap v (.dat .none)|.ok _=>gc|.error e=>E e s') s:=by
 refine jt (fd:=Qy (aG 277)) (body:=aN (mt 8 1)) (Γa:=[(ya "self",.known (fO 287 dx)),(ya "comp_select_list",.list ds)]) (Γ0:=[(ya "self",.known (fO 287 dx)),(ya "comp_select_list",.list ds)]) ac G.ru (G.kf _ _ (by kernel_rfl)) (Wc G.ko (by kernel_rfl)) rfl (binds:=[(ya "self",.ref x),(ya "comp_select_list",v)]) (je (by kernel_rfl)) hX hl hm (.cons ⟨x,rfl,hx,hg⟩ (.cons hv .nil)) (λp hp z_=>hp) λB A' L R s1 E' hB hL S eO fin=> ?_
 refine Ex.of x8 ?_
 refine dU S (ao.name m1) (ao.name m0) (hB▸Gb:aW w aG d0 B.s0.heap) (pM w aG d0) .here .new (by exact Uc _) λs2 S2=>aU (fin _ _ _ S2 .none)
theorem Qz{v vl vr:qa}{ws ls rs:aa Int}{k:Nat}(ac:Ac A (k+1))(G:aW w aG d0 s.heap)(hX:∀a∈X,a<s.heap.objs.size)(hv:De X s.heap v (.known (fU 287 [(ya "comp_select_list",.list (fX 0 ws))])))(hvl:Rd X s.heap vl (.list (ls.map .int)))(hvr:Rd X s.heap vr (.list (rs.map .int)))(h1:ws.length≤ls.length)(h2:ws.length≤rs.length)(h3:ws.length≤100):
  Ia (Md w) A (Ic (.ref 284) [v,vl,vr]) (λv s'=>Kp s s'∧De X s'.heap v (.int (cX ws ls rs))) E s:=by
 refine cu (s0:=s) (X:=X) (fd:=Bo (aG 284)) (body:=aN (mt 8 2)) (Γa:=[(ya "self",.known (fU 287 [(ya "comp_select_list",.list (fX 0 ws))])),(ya "left",.list (ls.map .int)),(ya "right",.list (rs.map .int))])
  (Γ0:=[(ya "self",.known (fU 287 [(ya "comp_select_list",.list (fX 0 ws))])),(ya "left",.list (ls.map .int)),(ya "right",.list (rs.map .int)),(ya "index",.un),(ya "direction",.un),(ya "l",.un),(ya "r",.un)])
  ac G.ru (G.kf _ _ (by kernel_rfl)) (Wc G.ko (by kernel_rfl)) rfl (binds:=[(ya "self",v),(ya "left",vl),(ya "right",vr)]) (je (by kernel_rfl)) (.bN _) rfl hX (.cons hv (.cons hvl (.cons hvr .nil))) (d9.mem (.cons m0 (.cons m1 (.cons m2 (.un (.un (.un (.un .nil)))))))) λB A' L R s1 E' hB pD hL S eO fin=> ?_
 refine Ex.of zW ?_
 have G1:aW w aG d0 B.s0.heap:=hB▸G
 have hlen:=mu ws 0
 have fit:∀{X':aa ia} {h:Ja} {v:qa} {i:Int},i=cX ws ls rs→De X' h v (.int i)→De X h v (.int (cX ws ls rs)):=λe r=>by
  subst e;obtain⟨t,rfl⟩:=r.bx;exact .int ..
 refine vE (items:=fX 0 ws) eO.hh S (ao.attr (ao.name m0) G1 (pM w aG d0) m0 .dat) (.list _ (by rw[sizeLine_eq,hlen];exact Na h3 (by decide)))
  (λi=>[(ya "self",.known (fU 287 [(ya "comp_select_list",.list (fX 0 ws))])),(ya "left",.list (ls.map .int)),(ya "right",.list (rs.map .int)),(ya "index",.un),(ya "direction",.un),(ya "l",.un),(ya "r",.un)])
  (λi d=>[(ya "self",.known (fU 287 [(ya "comp_select_list",.list (fX 0 ws))])),(ya "left",.list (ls.map .int)),(ya "right",.list (rs.map .int)),(ya "index",.int (i:Nat)),(ya "direction",.int (ws.getD i 0)),(ya "l",.un),(ya "r",.un)])
  (λi=>[]) (λi=>∀j,j<i→ls.getD j 0=rs.getD j 0) (λj hj=>by exact L8 hj) (λB' s' S'=>S') (λi=>rfl) (λi d hd B' Δ' hB=> ?_) ?_ ?_
 ·rw[nU]at hd
  obtain⟨wi,hw,rfl⟩:=fc.mp hd
  have e:ws.getD i 0=wi:=by rw[Lb,hw];rfl
  refine(e ..).symm▸(mh ..).symm▸ ?_
  exact bY.tuple eO.hh (.cons (bY.name BI (keep (hB▸hL))) (.cons (bY.name BJ (keep (hB▸hL))) .nil))
 ·intro B' R' i d I m s2 E2 yD hd hP S2 uG
  have hi:i<ws.length:=by
   have:=(ud.mp hd).1
   rwa [hlen]at this
  have tB:=lV ws ls rs i hi (by exact Dc hi h1) (by exact Dc hi h2) hP
  have hK:∀{x:Str},((Bo (aG 284)).scope.names.lookup x==some .local||(Bo (aG 284)).scope.names.lookup x==some .cell)=true→cG B' (Cb (Bo (aG 284)) L 284) x:=λh=>keep (yD▸hL) h
  refine aI S2 (ao.item (ao.name m1) (ao.name m3) (by exact Fb _) (by exact DR h3 hi) (wV ls i (by exact Dc hi h1))) OG (hK (by kernel_rfl)) λs3 S3=> ?_
  refine aI S3 (ao.item (ao.name m2) (ao.name m3) (by exact Fb _) (by exact DR h3 hi) (wV rs i (by exact Dc hi h2))) NC (hK (by kernel_rfl)) λs4 S4=> ?_
  refine eL S4 (TV.lt (ao.name m5) (ao.name m6)) (λhb s5 S5=> ?_) λhb s5 S5=>aU ?_
  ·rw[if_pos (by simpa using hb)]at tB
   exact dR S5 (ao.neg (ao.name m4)) λv s6 S6 r=>uG (.ret v) _ (fin _ _ ⟨hB▸yD▸S6.kp,fit tB.symm r⟩)
  ·rw[if_neg (by simpa using hb)]at tB
   refine eL S5 (TV.gt (ao.name m5) (ao.name m6)) (λhb2 s6 S6=> ?_) λhb2 s6 S6=>aU (aU (uG .next _ ⟨S6.Eo (.cons m0 (.cons m1 (.cons m2 (.un (.un (.un (.un .nil))))))),λj hj=> ?_⟩))
   ·rw[if_pos (by simpa using hb2)]at tB
    exact dR S6 (ao.name m4) λv s7 S7 r=>uG (.ret v) _ (fin _ _ ⟨hB▸yD▸S7.kp,fit tB.symm r⟩)
   ·by_cases e:j=i
    ·subst e
     have q1:=qg hb
     have q2:=qg hb2
     exact Ru q1 q2
    ·exact hP j (by exact MJ hj e)
 ·intro s2 hP S2
  exact dR S2 .bA λv s3 S3 r=>fin _ _ ⟨hB▸S3.kp,fit (j0 ws ls rs (by rw[hlen]at hP;exact hP)).symm r⟩
noncomputable abbrev hC:ia:=466
noncomputable def HK(name qual:Yb)(j:Nat)(dft dV:qa)(c:ia):Vc:=fnOf (ya name) (ya qual) (CC (mt 21 j)) (aN (mt 21 j)) (CH (mt 21 j)) dft (.none) dV (.str (ya "cpy313.wsgiref.headers") 808) none (.ref c) (.none)
noncomputable abbrev aaE(dV:qa):Vc:=HK "_convert_string_type" "Headers._convert_string_type" 2 .none dV 366
noncomputable abbrev aaI(dV:qa):Vc:=HK "get" "Headers.get" 9 (.ref 406) dV 412
theorem IS:aN (mt 21 2)=[aC (aN (mt 21 2)) 0,aC (aN (mt 21 2)) 1,aC (aN (mt 21 2)) 2]:=by kernel_rfl
theorem YE:fb (aC (aN (mt 21 2)) 1)=[aC (fb (aC (aN (mt 21 2)) 1)) 0,aC (fb (aC (aN (mt 21 2)) 1)) 1,aC (fb (aC (aN (mt 21 2)) 1)) 2]:=by kernel_rfl
theorem aa5(G:aW w aG d0 s.heap):eT s.heap 332 codeN:=
 uV (c:=331) (o:=⟨.type "re.Pattern",none,.fields #[.str (ya "[\\x00-\\x1F\\x7F]") 845,.int (32) 868,.int (0) 0,.none,.none,.ref 331,.int (0) 0],#[]⟩) (oc:=⟨.type "tuple",none,.seq (codeN.map λn=>.int (n:Nat) 0) 0,#[]⟩) G (by kernel_rfl) ⟨rfl,rfl,rfl⟩ ⟨rfl,rfl,rfl⟩ (by kernel_rfl) rfl (by kernel_rfl)
theorem aa6(G:aW w aG d0 s.heap):eT s.heap 337 oH:=
 uV (c:=336) (o:=⟨.type "re.Pattern",none,.fields #[.str (ya "[\\x00-\\x08\\x0A-\\x1F\\x7F]") 871,.int (32) 902,.int (0) 0,.none,.none,.ref 336,.int (0) 0],#[]⟩) (oc:=⟨.type "tuple",none,.seq (oH.map λn=>.int (n:Nat) 0) 0,#[]⟩) G (by kernel_rfl) ⟨rfl,rfl,rfl⟩ ⟨rfl,rfl,rfl⟩ (by kernel_rfl) rfl (by kernel_rfl)
theorem kD{v u:qa}{x:Str}{b:Ga}{El:D}{k:Nat}(ac:Ac A (k+1))(G:aW w aG d0 s.heap)(hX:∀a∈X,a<s.heap.objs.size)(hv:De X s.heap v El)(hu:De X s.heap u (.str x))(ok:okT x)(hx:x.cps.size≤100000):
  Ia (Md w) A (Ic (.ref 367) [v,u] [(ya "name",.bool b)]) (λv s'=>Kp s s'∧De X s'.heap v (.str x)) E s:=by
 refine cu (s0:=s) (X:=X) (fd:=aaE (aG 367)) (body:=aN (mt 21 2)) (Γa:=[(ya "self",El),(ya "value",.str x),(ya "name",.bool b)])
  (Γ0:=[(ya "self",El),(ya "value",.str x),(ya "name",.bool b),(ya "regex",.un)])
  ac G.ru (G.kf _ _ (by kernel_rfl)) (Wc G.ko (by kernel_rfl)) rfl (binds:=[(ya "self",v),(ya "value",u),(ya "name",.bool b)]) (je (by kernel_rfl)) (.bN _) rfl hX (.cons hv (.cons hu (.cons (.bool _) .nil))) (d9.mem (.cons m0 (.cons m1 (.cons m2 (.un .nil))))) λB A' L R s1 E' hB pD hL S eO fin=> ?_
 have G1:aW w aG d0 B.s0.heap:=hB▸G
 refine Ex.of IS ?_
 refine cV S λs2 S2=> ?_
 refine eL S2 ((TV.isType (ao.LA (ao.bG G1 (by kernel_rfl) (by kernel_rfl) rfl rfl (by kernel_rfl)) (ao.name m1)) (ao.bG G1 (by kernel_rfl) (by kernel_rfl) rfl rfl (by kernel_rfl)) (T:="str") (U:="str")).cast (b:=true) (by decide)) (λz_ s3 S3=> ?_) (λh=>by cases h)
 refine Ex.of YE ?_
 have gN:Goes 1 (Sre.forSearch codeN x.cps 0 0 x.cps.size false) mW:=KV ok
 have gV:Goes 1 (Sre.forSearch oH x.cps 0 0 x.cps.size false) mW:=KW ok
 cases b with
 |true=>
  refine aI (d:=.val (.ref 332)) S3 (ao.ite (c:=true) (TV.dI (ao.name m2)) (λz_=>ao.glob G1 (by kernel_rfl) rfl (by kernel_rfl)) (λh=>by cases h)) BI (keep hL) λs4 S4=> ?_
  refine cS S4 (TV.zB (ao.xR (ao.name m3) (aa5 G1) (ao.name m1) hx gN)) rfl λs5 S5=> ?_
  exact dR S5 (ao.name m1) λv s6 S6 r=>fin _ _ ⟨hB▸S6.kp,r.sub λb hb=>XX.out (pD▸hb)⟩
 |false=>
  refine aI (d:=.val (.ref 337)) S3 (ao.ite (c:=false) (TV.dI (ao.name m2)) (λh=>by cases h) (λz_=>ao.glob G1 (by kernel_rfl) rfl (by kernel_rfl))) BI (keep hL) λs4 S4=> ?_
  refine cS S4 (TV.zB (ao.xR (ao.name m3) (aa6 G1) (ao.name m1) hx gV)) rfl λs5 S5=> ?_
  exact dR S5 (ao.name m1) λv s6 S6 r=>fin _ _ ⟨hB▸S6.kp,r.sub λb hb=>XX.out (pD▸hb)⟩
structure Nm(x:Str):Prop where
 ok:okT x
 len:x.cps.size≤1000
theorem PW:∀c,c<127→32≤c→32≤lo1 c∧lo1 c<127:=by decide
theorem QE:∀c,c<127→32≤c→32≤up1 c∧up1 c<127:=by decide
theorem Nm.jy{x:Str}(h:Nm x):Jb x=⟨x.cps.map lo1⟩:=lower_ascii λc hc=>by have:=h.ok c hc;exact Mx this
theorem Nm.lower{x:Str}(h:Nm x):Nm (Jb x):=by
 refine(h.jy ..).symm▸ ?_
 refine⟨λc hc=> ?_,by simpa using h.len⟩
 have hc:c∈(x.cps.map lo1).toList:=hc
 rw[Ag]at hc
 obtain⟨d,hd,rfl⟩:=Ra.mp hc
 have:=h.ok d hd
 exact PW d this.2 this.1
theorem Nm.Bq{x:Str}(h:Nm x):Txt.upper x=⟨x.cps.map up1⟩:=upper_ascii λc hc=>by have:=h.ok c hc;exact Mx this
theorem Nm.upper{x:Str}(h:Nm x):Nm (Txt.upper x):=by
 refine(h.Bq ..).symm▸ ?_
 refine⟨λc hc=> ?_,by simpa using h.len⟩
 have hc:c∈(x.cps.map up1).toList:=hc
 rw[Ag]at hc
 obtain⟨d,hd,rfl⟩:=Ra.mp hc
 have:=h.ok d hd
 exact QE d this.2 this.1
theorem Nm.short{x:Str}(h:Nm x):tooLong x.length=false:=by
 unfold tooLong
 have:x.length≤1000:=h.len
 refine(sizeLine_eq ..).symm▸ ?_
 exact Wg (by exact SH this)
theorem Nm.lay{x:Str}(h:Nm x):yd (.str x)=true:=by
 show(x.cps.all λc=>decide (c<0x110000))=true
 rw[←Ua.all_toList,zf]
 intro c hc
 have:=h.ok c hc
 exact decide_eq_true (by exact SI this)
theorem Nm.shaped{x:Str}(h:Nm x):shaped (.str x)=true:=by
 show(yd (.str x) &&decide (Qf (.str x)≤64))=true
 rw[h.lay];rfl
noncomputable abbrev Rows:=aa (Str×Str)
noncomputable def bz(r:Str×Str):PyData:=.tuple [.str r.1,.str r.2]
noncomputable def lB(rows:Rows)(name:Str):Ma Str:=(rows.find? λr=>Jb r.1==Jb name).map (·.2)
noncomputable def l6(rows:Rows)(name:Str):aa Str:=(rows.filter λr=>Jb r.1==Jb name).map (·.2)
noncomputable def F4:Ma Str→PyData|none=>.none|some x=>.str x
theorem Jm:aN (mt 21 9)=[aC (aN (mt 21 9)) 0,aC (aN (mt 21 9)) 1,aC (aN (mt 21 9)) 2,aC (aN (mt 21 9)) 3]:=by kernel_rfl
noncomputable abbrev HP(rows:Rows):dW:=fU hC [(ya "_headers",.list (rows.map bz))]
structure cP(rows:Rows):Prop where
 nm:∀r∈rows,Nm r.1
 len:rows.length≤100000
theorem Jl(rows:Rows)(name:Str)(i:Nat)(hi:i<rows.length)(h:∀j,j<i→(Jb (rows.getD j (⟨#[]⟩,⟨#[]⟩)).1==Jb name)=false)(ht:(Jb (rows.getD i (⟨#[]⟩,⟨#[]⟩)).1==Jb name)=true):lB rows name=some (rows.getD i (⟨#[]⟩,⟨#[]⟩)).2:=by
 induction rows generalizing i with
 |nil=>simp at hi
 |cons r rows ih=>
  cases i with
  |zero=>simp only[aa.getD_cons_zero]at ht⊢;unfold lB;rw[vf,ht];rfl
  |succ i=>
   have h0:=h 0 (by exact Ae _)
   simp only[aa.getD_cons_zero]at h0
   simp only[aa.getD_cons_succ]at ht⊢
   have:=ih i (by simpa using hi) (λj hj=>by simpa using h (j+1) (by exact Ej hj 1)) ht
   unfold lB at this⊢
   rw[vf,h0];exact this
theorem BZ(rows:Rows)(name:Str)(h:∀j,j<rows.length→(Jb (rows.getD j (⟨#[]⟩,⟨#[]⟩)).1==Jb name)=false):lB rows name=none:=by
 unfold lB
 rw[Kg.mpr];rfl
 intro r hr
 obtain⟨j,hj,rfl⟩:=Th.mp hr
 have:=h j hj
 rw[Lb,Wb hj]at this
 simpa using this
theorem lZ(a b:Str):jc (.str a) (.str b)=(a==b):=by rfl
theorem Jo{v vn:qa}{rows:Rows}{name:Str}{k:Nat}(ac:Ac A (k+2))(G:aW w aG d0 s.heap)(hX:∀a∈X,a<s.heap.objs.size)(hv:De X s.heap v (.known (HP rows)))(hn:De X s.heap vn (.str name))(ok:Nm name)(kZ:cP rows):
  Ia (Md w) A (Ic (.ref 413) [v,vn] []) (λv s'=>Kp s s'∧De X s'.heap v (.dat (F4 (lB rows name)))) E s:=by
 refine cu (s0:=s) (X:=X) (fd:=aaI (aG 413)) (body:=aN (mt 21 9)) (Γa:=[(ya "self",.known (HP rows)),(ya "name",.str name),(ya "default",.dat .none)])
  (Γ0:=[(ya "self",.known (HP rows)),(ya "name",.str name),(ya "default",.dat .none),(ya "k",.un),(ya "v",.un)])
  ac G.ru (G.kf _ _ (by kernel_rfl)) (Wc G.ko (by kernel_rfl)) rfl (binds:=[(ya "self",v),(ya "name",vn),(ya "default",.none)]) (Ai (T:=406) (o:=⟨.type "tuple",none,.seq #[.none] 0,#[]⟩) rfl (G.ko _ _ (by kernel_rfl)) rfl rfl rfl) (.bN _) rfl hX (.cons hv (.cons hn (.cons .none .nil))) (d9.mem (.cons m0 (.cons m1 (.cons m2 (.un (.un .nil)))))) λB A' L R s1 E' hB pD hL S eO fin=> ?_
 have G1:aW w aG d0 B.s0.heap:=hB▸G
 have Ku:=ok.lower
 refine Ex.of Jm ?_
 refine cV S λs2 S2=> ?_
 refine aI (d:=.str (Jb name)) S2 (ao.nQ (ao.name m0) .inst G1 (bu w aG d0) (ao.lower (ao.name m1) Ku.short) ao.jY (λv u x s E S r1 r2 r3=>by
  refine r3.qZ ?_
  exact kD (k:=k) eO (S.g8 G1) (λa ha=>S.jH ha) r1 r2 Ku.ok (by have:=Ku.len;exact Na this (by decide)))) BH (keep hL) λs3 S3=> ?_
 refine vE (items:=rows.map bz) eO.hh S3 (ao.attr (ao.name m0) G1 (bu w aG d0) m0 .dat) (.list _ (by have:=kZ.len;rw[sizeLine_eq,Qa];exact Na this (by decide)))
  (λi=>[(ya "self",.known (HP rows)),(ya "name",.str (Jb name)),(ya "default",.dat .none),(ya "k",.un),(ya "v",.un)])
  (λi d=>[(ya "self",.known (HP rows)),(ya "name",.str (Jb name)),(ya "default",.dat .none),(ya "k",.str (rows.getD i (⟨#[]⟩,⟨#[]⟩)).1),(ya "v",.str (rows.getD i (⟨#[]⟩,⟨#[]⟩)).2)])
  (λi=>[]) (λi=>∀j,j<i→(Jb (rows.getD j (⟨#[]⟩,⟨#[]⟩)).1==Jb name)=false) (λj hj=>by exact Ye (Nat.not_succ_le_zero _ hj)) (λB' s' S'=>S') (λi=>rfl) (λi d hd B' Δ' hB=> ?_) ?_ ?_
 ·rw[Ab]at hd
  obtain⟨r,hr,rfl⟩:=fc.mp hd
  have e:rows.getD i (⟨#[]⟩,⟨#[]⟩)=r:=by rw[Lb,hr];rfl
  refine(e ..).symm▸ ?_
  exact bY.tuple eO.hh (.cons (bY.name BI (keep (hB▸hL))) (.cons (bY.name BJ (keep (hB▸hL))) .nil))
 ·intro B' R' i d I m s4 E2 yD hd hP S4 uG
  have hi:i<rows.length:=by
   have:=(ud.mp hd).1
   simpa using this
  have jS:rows.getD i (⟨#[]⟩,⟨#[]⟩)∈rows:=by
   rw[Lb,Wb hi];exact Dg hi
  have NS:=(kZ.nm _ jS).lower
  refine eL S4 ((TV.eq (ao.lower (ao.name m3) NS.short) (ao.name m1) NS.shaped Ku.shaped eO.eq).cast (lZ _ _)) (λhb s5 S5=> ?_) λhb s5 S5=>aU (aU (uG .next _ ⟨S5.Eo (.cons m0 (.cons m1 (.cons m2 (.un (.un .nil))))),λj hj=> ?_⟩))
  ·refine dR S5 (ao.name m4) λv s6 S6 r=>uG (.ret v) _ (fin _ _ ⟨hB▸yD▸S6.kp,?_⟩)
   refine(Jl rows name i hi hP hb ..).symm▸ ?_
   refine r.q8 λt=> ?_
   exact .str ..
  ·by_cases e:j=i
   ·subst e;exact hb
   ·exact hP j (by exact MJ hj e)
 ·intro s4 hP S4
  refine dR S4 (ao.name m2) λv s5 S5 r=>fin _ _ ⟨hB▸S5.kp,?_⟩
  rw[BZ rows name (by simpa using hP)]
  exact r.sub λb hb=>XX.out (pD▸hb)
variable{s':za}{Δ':aa (ia×MO)}
structure Ds(w:Oa)(A:Xa)(B:Bx)(env:Env)(Γ:aa (Str×D))(Δ:aa (ia×MO))(e:Ba)(ds:aa PyData):Prop where
 go:∀(s:za) (E:qa→za→Prop),Sc B env Γ Δ s→Ia (Md w) A (eval e env) (λv s'=>Kp s s'∧∃a vs,v=.ref a∧fT B env Δ s a∧kO s'.heap a (Ih vs)∧aD (XX B.Xo env Δ) s'.heap vs ds) E s
theorem LC.evf{e:Ba}{ds:aa PyData}(x:LC w A B env Γ Δ e ds):Ds w A B env Γ Δ e ds:=.mk λs E S=>by
 obtain⟨elt,gens,scope,pos,rfl,x⟩:=x
 refine(eval_ListComp ..).symm▸ ?_
 refine x s E none _ S λs1 s' m vs k1 S1 k2 hm hl hr=>⟨m,hm,λh' hs=> ?_⟩
 have bB:∀{b o},s1.heap.get? b=some o→b≠s1.heap.objs.size+2:=λ{b o} e=>by
  have: @Od Nat _ b s1.heap.objs.size:=Ub e
  show @Ne Nat b _
  exact Ao this
 have hAC: @Ne Nat (s1.heap.objs.size+1) (s1.heap.objs.size+2):=by exact zj (_+1)
 refine⟨k1.trans' ?_,s1.heap.objs.size+1,vs,rfl,(fT.up S1 (Of _)).early k1,hl.at λo e=>(hs.2 _ hAC).trans e,?_⟩
 ·obtain⟨hx,tx,rfl,kx⟩:=k2
  exact⟨h',tx,rfl,λb o e=>(hs.2 b (bB e)).trans (kx b o e)⟩
 ·refine(hr ((s1.heap.objs.size+2)::XX B.Xo env Δ) λb hb=> ?_).at λb o hb e=>.inr ⟨λq=>hb (Wa _ q),(hs.2 b λq=>hb (q▸La)).trans e⟩
  rcases Za.mp hb with h|h
  ·right;rw[h];exact⟨Tc _ _,zb _⟩
  ·exact .inl h
theorem Ds.slice{l:Ba}{lo hi:Ma Ba}{p pos:Pos}{ds:aa PyData}{a b:Ma Int}(x:ao w A B env Γ Δ l (.list ds))(y:Hx w A B env Γ Δ lo a)(z:Hx w A B env Γ Δ hi b)(hz:ds.length≤Bb):
  Ds w A B env Γ Δ (.Subscript l (.Slice lo hi none p) pos) (iP ds a b):=.mk λs E S=>
 xg (x.use S λv s1 k1 S1 r1=>wpAny_Slice (y.run S1 λu1 s2 k2 S2 p1=>z.run S2 λu2 s3 k3 S3 p2=>by
  refine(evalPart_none ..).symm▸ ?_
  refine Ka ?_
  obtain⟨a',vs,rfl,ha,hl,hr⟩:=((r1.up k2.up).up k3.up).isList
  obtain⟨ops,qL⟩:=nZ (lo:=lo) (hi:=hi) (p:=p) a' s3.heap.objs.size
  refine tail_any (Ja.IsList.typeIs (s:={s3 with heap:=s3.heap.push {cls:=.type "slice",data:=.fields #[u1,u2,.none]}}) (hl.push _)) Ah.lookup
   (Bk (hl.push _) (Ja.IsSliceOf.new ..) p1 p2 .none (by simp) ?_ (by simpa[hr.length]using hz)) qL
  have hle:=(S3.upd (.push s3 {cls:=.type "slice",data:=.fields #[u1,u2,.none]})).next.early (((k1.trans' k2).trans' k3).trans' (Kp.push ..))
  refine⟨((k1.trans' k2).trans' k3).trans' ((Kp.push ..).trans' (Kp.push ..)),_,kms_pick vs a b,rfl,hle,?_,((hr.up (Kp.push s3 {cls:=.type "slice",data:=.fields #[u1,u2,.none]}).up).pick a b).up (Kp.push ..).up⟩
  refine(kms_pick_eq ..).symm▸ ?_
  exact kO.push))
theorem Ds.cast{e:Ba}{as bs:aa PyData}(x:Ds w A B env Γ Δ e as)(h:as=bs):Ds w A B env Γ Δ e bs:=h▸x
noncomputable def lq(X:aa ia)(s:za)(s':za)(v:qa)(ds:aa PyData):Prop:=∃a vs,v=.ref a∧a∉X∧(∀b o,s.heap.get? b=some o→b≠a)∧kO s'.heap a (Ih vs)∧aD X s'.heap vs ds
theorem pT{e:Ba}{pos:Pos}{rest:aa Va}{ds:aa PyData}{Q:Flow→za→Prop}(S:Sc B env Γ Δ s)(x:Ds w A B env Γ Δ e ds)(h:∀v s',Sc B env Γ Δ s'→lq B.Xo B.s0 s' v ds→Q (.ret v) s'):Ex w A env (.Return (some e) pos::rest) Q E s:=
 ⟨Kc (wpAny_Return_some (Pa (x.go s E S) (λv s1 q=>by
  obtain⟨k1,a,vs,rfl,hf,hl,hr⟩:=q
  exact h _ s1 (S.upd k1) ⟨a,vs,rfl,λhx=>hf.off _ (XX.out hx) rfl,λb o e=>hf.new b o (S.kp.up b o e),hl,hr.at λb o hb e=>.inr ⟨λq=>hb (XX.out q),e⟩⟩) λz_ z_ z=>z))⟩
theorem I8:aN (mt 21 8)=[aC (aN (mt 21 8)) 0,aC (aN (mt 21 8)) 1,aC (aN (mt 21 8)) 2]:=by kernel_rfl
theorem JI:aN (mt 21 10)=[aC (aN (mt 21 10)) 0,aC (aN (mt 21 10)) 1]:=by kernel_rfl
theorem LD:aN (mt 21 11)=[aC (aN (mt 21 11)) 0,aC (aN (mt 21 11)) 1]:=by kernel_rfl
theorem JF:aN (mt 21 12)=[aC (aN (mt 21 12)) 0,aC (aN (mt 21 12)) 1]:=by kernel_rfl
theorem I9{v vn:qa}{rows:Rows}{name:Str}{k:Nat}(ac:Ac A (k+2))(G:aW w aG d0 s.heap)(hX:∀a∈X,a<s.heap.objs.size)(hv:De X s.heap v (.known (HP rows)))(hn:De X s.heap vn (.str name))(ok:Nm name)(kZ:cP rows):
  Ia (Md w) A (Ic (.ref 405) [v,vn] []) (λv s'=>Kp s s'∧lq X s s' v ((l6 rows name).map .str)) E s:=by
 refine cu (s0:=s) (X:=X) (fd:=HK "get_all" "Headers.get_all" 8 .none (aG 405) 404) (body:=aN (mt 21 8)) (Γa:=[(ya "self",.known (HP rows)),(ya "name",.str name)])
  (Γ0:=[(ya "self",.known (HP rows)),(ya "name",.str name)])
  ac G.ru (G.kf _ _ (by kernel_rfl)) (Wc G.ko (by kernel_rfl)) rfl (binds:=[(ya "self",v),(ya "name",vn)]) (je (by kernel_rfl)) (.bN _) rfl hX (.cons hv (.cons hn .nil)) (λp hp hu=>hp) λB A' L R s1 E' hB pD hL S eO fin=> ?_
 have G1:aW w aG d0 B.s0.heap:=hB▸G
 have Ku:=ok.lower
 refine Ex.of I8 ?_
 refine cV S λs2 S2=> ?_
 refine aI (d:=.str (Jb name)) S2 (ao.nQ (ao.name m0) .inst G1 (bu w aG d0) (ao.lower (ao.name m1) Ku.short) ao.jY (λv u x s E S r1 r2 r3=>by
  refine r3.qZ ?_
  exact kD (k:=k) eO (S.g8 G1) (λa ha=>S.jH ha) r1 r2 Ku.ok (by have:=Ku.len;exact Na this (by decide)))) BH (keep hL) λs3 S3=> ?_
 refine pT S3 (LC.evf (LC.cast (LC.qG (l:=rows) (φ:=bz) (g:=λr=>.str r.2) (t:=λr=>Jb r.1==Jb name) eO.hh (ao.attr (ao.name m0) G1 (bu w aG d0) m0 .dat) (.list _ (by have:=kZ.len;rw[sizeLine_eq,Qa];exact Na this (by decide))) bS (.cons m1 .nil) (λr hr B' Δ' C u p q=> ?_) (λr hr ht B' Δ' C u p q=> ?_)) ?_)) λv s4 S4 r=>fin _ _ ⟨hB▸S4.kp,pD▸hB▸r⟩
 ·have NS:=(kZ.nm r hr).lower
  exact(TV.eq (ao.lower (ao.x9 (ao.name m0) .bA (by decide) (by decide) rfl) NS.short) (ao.name m1) NS.shaped Ku.shaped eO.eq).cast (lZ _ _)
 ·exact ao.x9 (ao.name m0) .bA (by decide) (by decide) rfl
 ·unfold l6;rw[Eb];rfl
theorem JJ{v:qa}{rows:Rows}{k:Nat}(ac:Ac A (k+1))(G:aW w aG d0 s.heap)(hX:∀a∈X,a<s.heap.objs.size)(hv:De X s.heap v (.known (HP rows)))(kZ:cP rows):
  Ia (Md w) A (Ic (.ref 418) [v] []) (λv s'=>Kp s s'∧lq X s s' v ((rows.map (·.1)).map .str)) E s:=by
 refine cu (s0:=s) (X:=X) (fd:=HK "keys" "Headers.keys" 10 .none (aG 418) 417) (body:=aN (mt 21 10)) (Γa:=[(ya "self",.known (HP rows))])
  (Γ0:=[(ya "self",.known (HP rows))])
  ac G.ru (G.kf _ _ (by kernel_rfl)) (Wc G.ko (by kernel_rfl)) rfl (binds:=[(ya "self",v)]) (je (by kernel_rfl)) (.bN _) rfl hX (.cons hv .nil) (λp hp hu=>hp) λB A' L R s1 E' hB pD hL S eO fin=> ?_
 have G1:aW w aG d0 B.s0.heap:=hB▸G
 refine Ex.of JI ?_
 refine cV S λs2 S2=> ?_
 refine pT S2 (LC.evf (LC.cast (LC.pair (l:=rows) (φ:=λr=>.str r.1) (ψ:=λr=>.str r.2) (g:=λr=>.str r.1) eO.hh (ao.attr (ao.name m0) G1 (bu w aG d0) m0 .dat) (.list _ (by have:=kZ.len;rw[sizeLine_eq,Qa];exact Na this (by decide))) bS (λr hr B' Δ' C u p q=>ao.name m0)) ?_)) λv s4 S4 r=>fin _ _ ⟨hB▸S4.kp,pD▸hB▸r⟩
 rw[Eb];rfl
theorem LF{v:qa}{rows:Rows}{k:Nat}(ac:Ac A (k+1))(G:aW w aG d0 s.heap)(hX:∀a∈X,a<s.heap.objs.size)(hv:De X s.heap v (.known (HP rows)))(kZ:cP rows):
  Ia (Md w) A (Ic (.ref 423) [v] []) (λv s'=>Kp s s'∧lq X s s' v ((rows.map (·.2)).map .str)) E s:=by
 refine cu (s0:=s) (X:=X) (fd:=HK "values" "Headers.values" 11 .none (aG 423) 422) (body:=aN (mt 21 11)) (Γa:=[(ya "self",.known (HP rows))])
  (Γ0:=[(ya "self",.known (HP rows))])
  ac G.ru (G.kf _ _ (by kernel_rfl)) (Wc G.ko (by kernel_rfl)) rfl (binds:=[(ya "self",v)]) (je (by kernel_rfl)) (.bN _) rfl hX (.cons hv .nil) (λp hp hu=>hp) λB A' L R s1 E' hB pD hL S eO fin=> ?_
 have G1:aW w aG d0 B.s0.heap:=hB▸G
 refine Ex.of LD ?_
 refine cV S λs2 S2=> ?_
 refine pT S2 (LC.evf (LC.cast (LC.pair (l:=rows) (φ:=λr=>.str r.1) (ψ:=λr=>.str r.2) (g:=λr=>.str r.2) eO.hh (ao.attr (ao.name m0) G1 (bu w aG d0) m0 .dat) (.list _ (by have:=kZ.len;rw[sizeLine_eq,Qa];exact Na this (by decide))) bS (λr hr B' Δ' C u p q=>ao.name m1)) ?_)) λv s4 S4 r=>fin _ _ ⟨hB▸S4.kp,pD▸hB▸r⟩
 rw[Eb];rfl
theorem JG{v:qa}{rows:Rows}{k:Nat}(ac:Ac A (k+1))(G:aW w aG d0 s.heap)(hX:∀a∈X,a<s.heap.objs.size)(hv:De X s.heap v (.known (HP rows)))(kZ:cP rows):
  Ia (Md w) A (Ic (.ref 430) [v] []) (λv s'=>Kp s s'∧lq X s s' v (rows.map bz)) E s:=by
 refine cu (s0:=s) (X:=X) (fd:=HK "items" "Headers.items" 12 .none (aG 430) 429) (body:=aN (mt 21 12)) (Γa:=[(ya "self",.known (HP rows))])
  (Γ0:=[(ya "self",.known (HP rows))])
  ac G.ru (G.kf _ _ (by kernel_rfl)) (Wc G.ko (by kernel_rfl)) rfl (binds:=[(ya "self",v)]) (je (by kernel_rfl)) (.bN _) rfl hX (.cons hv .nil) (λp hp hu=>hp) λB A' L R s1 E' hB pD hL S eO fin=> ?_
 have G1:aW w aG d0 B.s0.heap:=hB▸G
 refine Ex.of JF ?_
 refine cV S λs2 S2=> ?_
 have hz:(rows.map bz).length≤Bb:=by have:=kZ.len;rw[sizeLine_eq,Qa];exact Na this (by decide)
 have e:iP (rows.map bz) none none=rows.map bz:=by
  unfold iP kms_lo kms_hi
  simp
  exact Vg (by simp)
 exact pT S2 ((Ds.slice (ao.attr (ao.name m0) G1 (bu w aG d0) m0 .dat) .none .none hz).cast e) λv s4 S4 r=>fin _ _ ⟨hB▸S4.kp,pD▸hB▸r⟩
noncomputable abbrev HL(l:ia):dW:=fU hC [(ya "_headers",.val (.ref l))]
theorem Pn{X:aa ia}{h:Ja}{v:qa}{l:ia}{rows:Rows}(hv:De X h v (.known (HL l)))(hm:(MO.list (rows.map bz)).At X h l):De (but l X) h v (.known (HP rows)):=by
 obtain⟨x,dx,mm,rfl,hx,su,hg,hn,hh⟩:=hv
 refine bE hm λvs hl hr=> ?_
 refine⟨x,dx,mm,rfl,λq=>hx (gw.mp q).1,λq=>su (gw.mp q).1,hg,hn,⟨hh.off,λp hp=> ?_⟩⟩
 refine(Vb.mp hp ..).symm▸ ?_
 refine bE (hh.has (ya "_headers",.val (.ref l)) La) λu e hu=> ?_
 obtain rfl:u=.ref l:=hu
 exact⟨_,e,Rd.listAt (λq=>(gw.mp q).2 rfl) hl (hr.at λb o hb e=>.inr ⟨λq=>hb (gw.mp q).1,e⟩)⟩
theorem ZX{X Y:aa ia}{h h':Ja}{v:qa}{o:Ma Str}(x:De X h v (.dat (F4 o))):De Y h' v (.dat (F4 o)):=by
 cases o with
 |none=>have x:Rd X h v .none:=x;cases x;exact .none
 |some y=>obtain⟨t,rfl⟩:=De.iz x;exact .str ..
theorem aae{X Y:aa ia}{h h':Ja}{v:qa}{y:Str}(x:De X h v (.str y)):De Y h' v (.str y):=by
 obtain⟨t,rfl⟩:=De.iz x;exact .str ..
noncomputable def vo(rows:Rows)(name val:Str):Rows:=match lB rows name with|none=>rows++[(name,val)]|some _=>rows
noncomputable def vp(rows:Rows)(name val:Str):Str:=(lB rows name).getD val
theorem KR:aN (mt 21 16)=[aC (aN (mt 21 16)) 0,aC (aN (mt 21 16)) 1,aC (aN (mt 21 16)) 2]:=by kernel_rfl
theorem aaa:fb (aC (aN (mt 21 16)) 2)=[aC (fb (aC (aN (mt 21 16)) 2)) 0,aC (fb (aC (aN (mt 21 16)) 2)) 1]:=by kernel_rfl
set_option backward.match.sparseCases false in
noncomputable def fe:Va→aa Va|.If _ _ e _=>e|.For _ _ _ e _=>e|_=>[]
theorem KU:fe (aC (aN (mt 21 16)) 2)=[aC (fe (aC (aN (mt 21 16)) 2)) 0]:=by kernel_rfl
theorem ao.aaO{o e:Ba}{apos pos:Pos}{l:ia}{rows:Rows}{name:Str}{k:Nat}(ac:Ac A (k+2))(G:aW w aG d0 B.s0.heap)(x:ao w A B env Γ Δ o (.known (HL l)))(hm:(l,MO.list (rows.map bz))∈Δ)(y:ao w A B env Γ Δ e (.str name))(ok:Nm name)(kZ:cP rows)
  (hn:Aa (notStar e=true) aR)(hb:Aa (aO o=true) aR)(hl:Aa ((apos.endLine==pos.line)=true) aR):ao w A B env Γ Δ (.Call (.Attribute o (ya "get") apos) [e] [] pos) (.dat (F4 (lB rows name))):=
 ao.q7 x .inst G (bu w aG d0) (.cons y .nil hn) (λv vs s E S r1 r2=>by
  refine r2.c1 λu r3=> ?_
  refine Pa (Jo (X:=but l (XX B.Xo env Δ)) ac (S.g8 G) (λa ha=>S.jH (gw.mp ha).1) (Pn r1 (S.get_own hm)) (aae r3) ok kZ) (λv s' q=>⟨q.1,ZX q.2⟩) λz_ z_ z=>z) (hb:=hb) (hl:=hl)
theorem KS{v vn vv:qa}{rows:Rows}{name val:Str}{l:ia}{k:Nat}(ac:Ac A (k+3))(G:aW w aG d0 s.heap)(Gb:aW w aG d0 (blank l s).heap)(hX:∀a∈X,a<s.heap.objs.size)(hl:l∈X)(hm:(MO.list (rows.map bz)).At X s.heap l)(hv:De X s.heap v (.known (HL l)))(hn:De X s.heap vn (.str name))(hvv:De X s.heap vv (.str val))(ok:Nm name)(HQ:Nm val)(kZ:cP rows):
  Ia (Md w) A (Ic (.ref 456) [v,vn,vv] []) (λu s'=>Kp (blank l s) s'∧(MO.list ((vo rows name val).map bz)).At X s'.heap l∧De X s'.heap u (.str (vp rows name val))) E s:=by
 refine iO (fd:=HK "setdefault" "Headers.setdefault" 16 .none (aG 456) 455) (body:=aN (mt 21 16)) (Γa:=[(ya "self",.known (HL l)),(ya "name",.str name),(ya "value",.str val)])
  (Γ0:=[(ya "self",.known (HL l)),(ya "name",.str name),(ya "value",.str val),(ya "result",.un)])
  ac G.ru (G.kf _ _ (by kernel_rfl)) (Wc G.ko (by kernel_rfl)) rfl (binds:=[(ya "self",v),(ya "name",vn),(ya "value",vv)]) (je (by kernel_rfl)) hX hl hm (.cons hv (.cons hn (.cons hvv .nil))) (d9.mem (.cons m0 (.cons m1 (.cons m2 (.un .nil))))) λB A' L R s1 E' hB hL S eO fin=> ?_
 have G1:aW w aG d0 B.s0.heap:=hB▸Gb
 refine Ex.of KR ?_
 refine cV S λs2 S2=> ?_
 refine aI (d:=.dat (F4 (lB rows name))) S2 (ao.aaO eO G1 (ao.name m0) (.head _) (ao.name m1) ok kZ) BI (keep hL) λs3 S3=> ?_
 unfold vo vp at fin
 revert fin
 cases hg:lB rows name with
 |none=>
  intro fin
  rw[hg]at S3
  have Q0:Sc _ _ [(ya "self",.known (HL l)),(ya "name",.str name),(ya "value",.str val),(ya "result",.dat .none)] _ s3:=S3
  refine eL Q0 ((TV.kH (ao.name m3)).cast (b:=true) rfl) (λz_ s4 S4=> ?_) (λh=>by cases h)
  refine Ex.of aaa ?_
  refine cz (Δ':=[(l,.list ((rows++[(name,val)]).map bz))]) S4 (kT.append (ao.attr (ao.name m0) G1 (bu w aG d0) m0 .ref) (ao.tup (.cons (ao.nQ (ao.name m0) .inst G1 (bu w aG d0) (ao.name m1) ao.jY (λv u x s E S r1 r2 r3=>by
   refine r3.qZ ?_
   exact kD (k:=k+1) eO (S.g8 G1) (λa ha=>S.jH ha) r1 r2 ok.ok (by have:=ok.len;exact Na this (by decide)))) (.cons (ao.nQ (ao.name m0) .inst G1 (bu w aG d0) (ao.name m2) ao.jY (λv u x s E S r1 r2 r3=>by
   refine r3.qZ ?_
   exact kD (k:=k+1) eO (S.g8 G1) (λa ha=>S.jH ha) r1 r2 HQ.ok (by have:=HQ.len;exact Na this (by decide)))) .nil)) (by rw[sizeLine_eq];simp)) (by rw[Mc];exact .here) (by have:=kZ.len;rw[Qa];exact Na this (by decide))) bL λs5 S5=> ?_
  exact dR S5 (ao.name m2) λv s6 S6 r=>fin _ _ _ S6 r
 |some y=>
  intro fin
  rw[hg]at S3
  have Q0:Sc _ _ [(ya "self",.known (HL l)),(ya "name",.str name),(ya "value",.str val),(ya "result",.str y)] _ s3:=S3
  refine eL Q0 ((TV.kH (ao.name m3)).cast (b:=false) rfl) (λh=>by cases h) (λz_ s4 S4=> ?_)
  refine Ex.of KU ?_
  exact dR S4 (ao.name m3) λv s6 S6 r=>fin _ _ _ S6 r
noncomputable abbrev mQ:=aa (Str×Int)
noncomputable abbrev g6(c:mQ):aa (Str×PyData):=jz Xb c
noncomputable abbrev fE(w:Oa)(c:mQ):dW:=cC (strKind pw w) (g6 c)
noncomputable def cE(c:mQ)(p:Str×Int):mQ:=match aL c p.1 with|some n=>aQ c p.1 (n+p.2)|none=>aQ c p.1 p.2
noncomputable def cN(c:mQ)(p:Str×Int):mQ:=aQ c p.1 p.2
noncomputable def eX(t s:mQ):mQ:=s.foldl cE (t.foldl cN [])
theorem BF(c:mQ)(p:Str×Int):(cE c p).length≤c.length+1:=by
 unfold cE;split<;> exact gY ..
theorem lz{α β:Type}(f:β→α→β)(b:β)(l:aa α)(i:Nat)(a:α)(h:l[i]? =some a):(l.take (i+1)).foldl f b=f ((l.take i).foldl f b) a:=by
 rw[Me,h];simp[xe]
theorem l8(f:mQ→Str×Int→mQ)(hf:∀c p,(f c p).length≤c.length+1):∀(l:aa (Str×Int)) (b:mQ),(l.foldl f b).length≤b.length+l.length
 |[],b=>by simp
 |p::l,b=>by
  refine(Qd ..).symm▸ ?_
  have:=l8 f hf l (f b p)
  have:=hf b p
  simp only[xd];exact sL (by assumption) this
theorem qy(c:mQ):(g6 c).length=c.length:=Qa ..
theorem ql{c:mQ}{f:Str}{n m:Int}(h:aL c f=some m):cE c (f,n)=aQ c f (m+n):=by unfold cE;rw[show aL c (f,n).1=some m from h]
theorem p9{c:mQ}{f:Str}{n:Int}(h:aL c f=none):cE c (f,n)=aQ c f n:=by unfold cE;rw[show aL c (f,n).1=none from h]
noncomputable def aaj(dV:qa):Vc:=fnOf (ya "add_callers") (ya "add_callers") (CC (st 9)) (aN (st 9)) (CH (st 9)) (.none) (.none) dV (.str (ya "cpy313.pstats") 670) none (.ref 297) (.none)
noncomputable def aaz(dV:qa):Vc:=fnOf (ya "count_calls") (ya "count_calls") (CC (st 10)) (aN (st 10)) (CH (st 10)) (.none) (.none) dV (.str (ya "cpy313.pstats") 670) none (.ref 304) (.none)
theorem H8:aN (st 9)=[aC (aN (st 9)) 0,aC (aN (st 9)) 1,aC (aN (st 9)) 2,aC (aN (st 9)) 3,aC (aN (st 9)) 4]:=by kernel_rfl
theorem Q5:fb (aC (aN (st 9)) 2)=[aC (fb (aC (aN (st 9)) 2)) 0]:=by kernel_rfl
theorem Q6:fb (aC (aN (st 9)) 3)=[aC (fb (aC (aN (st 9)) 3)) 0]:=by kernel_rfl
theorem Q7:fb (aC (fb (aC (aN (st 9)) 3)) 0)=[aC (fb (aC (fb (aC (aN (st 9)) 3)) 0)) 0]:=by kernel_rfl
theorem Q8:fe (aC (fb (aC (aN (st 9)) 3)) 0)=[aC (fe (aC (fb (aC (aN (st 9)) 3)) 0)) 0]:=by kernel_rfl
theorem Q9:fe (aC (fb (aC (fb (aC (aN (st 9)) 3)) 0)) 0)=[aC (fe (aC (fb (aC (fb (aC (aN (st 9)) 3)) 0)) 0)) 0]:=by kernel_rfl
theorem IK:aN (st 10)=[aC (aN (st 10)) 0,aC (aN (st 10)) 1,aC (aN (st 10)) 2,aC (aN (st 10)) 3]:=by kernel_rfl
theorem Ys:fb (aC (aN (st 10)) 2)=[aC (fb (aC (aN (st 10)) 2)) 0]:=by kernel_rfl
noncomputable def acI(w:Oa)(t c:mQ)(a:ia)(g:mQ→Str×Int→mQ)(l u:mQ)(i:Nat)(Γ':aa (Str×D))(Δ':aa (ia×MO)):Prop:=
 (∃d1 d2,Γ'=[(ya "target",.known (fE w t)),(ya "source",.known (fE w c)),(ya "new_callers",.val (.ref a)),(ya "func",d1),(ya "caller",d2)])∧Δ'=[(a,.own (cD (strKind pw w) (g6 ((l.take i).foldl g u))))]
noncomputable def ccI(w:Oa)(c:mQ)(i:Nat)(Γ':aa (Str×D))(Δ':aa (ia×MO)):Prop:=
 (∃d1,Γ'=[(ya "callers",.known (fE w c)),(ya "nc",.int ((c.take i).map (·.2)).sum),(ya "calls",d1)])∧Δ'=[]
theorem H9{vt vs:qa}{t c:mQ}{k:Nat}(ac:Ac A (k+1))(G:aW w aG d0 s.heap)(hX:∀a∈X,a<s.heap.objs.size)(ht:De X s.heap vt (.known (fE w t)))(hs:De X s.heap vs (.known (fE w c)))(hl:t.length+c.length≤100000):
  Ia (Md w) A (Ic (.ref 298) [vt,vs] []) (λv s'=>Kp s s'∧De X s'.heap v (.known (fE w (eX t c)))) E s:=by
 refine cu (s0:=s) (X:=X) (fd:=aaj (aG 298)) (body:=aN (st 9)) (Γa:=[(ya "target",.known (fE w t)),(ya "source",.known (fE w c))])
  (Γ0:=[(ya "target",.known (fE w t)),(ya "source",.known (fE w c)),(ya "new_callers",.un),(ya "func",.un),(ya "caller",.un)])
  ac G.ru (G.kf _ _ (by kernel_rfl)) (Wc G.ko (by kernel_rfl)) rfl (binds:=[(ya "target",vt),(ya "source",vs)]) (je (by kernel_rfl)) (.bN _) rfl hX
  (.cons ht (.cons hs .nil)) (d9.mem (.cons m0 (.cons m1 (.un (.un (.un .nil)))))) λB A' L R s1 E' hB pD hL S eO fin=> ?_
 have G1:aW w aG d0 B.s0.heap:=hB▸G
 refine Ex.of H8 ?_
 refine cV S λs2 S2=> ?_
 refine vB (strKind pw w) G1 S2 (λa=>at2) (keep hL) λa s3 ha S3=> ?_
 have F9:∀(c:mQ) p,(cN c p).length≤c.length+1:=λc p=>gY ..
 refine mG S3 (C5.items qQ eO.hh (ao.name m0)) (acI w t c a cN t []) ⟨⟨_,_,rfl⟩,rfl⟩ ?_ ?_
 ·rintro B' i d Is Γ1 Δ1 yD hd ⟨⟨d1,d2,rfl⟩,rfl⟩
  have pC:B'.s0.heap.objs.size≤L:=yD▸hL
  have G1':aW w aG d0 B'.s0.heap:=yD▸G1
  rw[Ab]at hd
  obtain⟨p,hp,rfl⟩:=fc.mp hd
  unfold g6 jz at hp
  rw[Ab]at hp
  obtain⟨⟨f,n⟩,NU,rfl⟩:=fc.mp hp
  clear hp
  have hi:i<t.length:=(ud.mp NU).1
  refine .mk _ (bY.tuple eO.hh (.cons (bY.name BI (keep pC)) (.cons (bY.name BJ (keep pC)) .nil))) λR s4 E4 S4 fin=> ?_
  refine Ex.of Q5 ?_
  refine A6 (DD:=g6 ((t.take i).foldl cN [])) (d:=a) qQ S4 (ao.name m4) (ao.name m2) (ao.name m3) (bw.app .here) ?_ λs5 S5=>aU (fin .next _ ⟨_,_,⟨⟨.str f,.int n,rfl⟩,rfl⟩,?_⟩)
  ·have:=l8 cN F9 (t.take i) []
   rw[sizeLine_eq,qy];simp only[uf,xh]at this;exact WD hl this
  ·refine(lz _ _ _ _ _ NU ..).symm▸ ?_
   have e:g6 (cN ((t.take i).foldl cN []) (f,n))=aQ (g6 ((t.take i).foldl cN [])) f (.int n):=(iF ..).symm
   rw[e];exact S5
 rintro s4 Γ2 Δ2 ⟨⟨d1,d2,rfl⟩,rfl⟩ S4
 rw[Qa,show(g6 t).length=t.length from Qa ..,bf]at S4
 refine mG S4 (C5.items qQ eO.hh (ao.name m1)) (acI w t c a cE c (t.foldl cN [])) ⟨⟨_,_,rfl⟩,rfl⟩ ?_ ?_
 ·rintro B' i d Is Γ1 Δ1 yD hd ⟨⟨d1,d2,rfl⟩,rfl⟩
  have pC:B'.s0.heap.objs.size≤L:=yD▸hL
  have G1':aW w aG d0 B'.s0.heap:=yD▸G1
  rw[Ab]at hd
  obtain⟨p,hp,rfl⟩:=fc.mp hd
  unfold g6 jz at hp
  rw[Ab]at hp
  obtain⟨⟨f,n⟩,NU,rfl⟩:=fc.mp hp
  clear hp
  have hi:i<c.length:=(ud.mp NU).1
  refine .mk _ (bY.tuple eO.hh (.cons (bY.name BI (keep pC)) (.cons (bY.name BJ (keep pC)) .nil))) λR s5 E5 S5 fin=> ?_
  refine Ex.of Q6 ?_
  have hz:(g6 ((c.take i).foldl cE (t.foldl cN []))).length≤Bb:=by
   have h1:=l8 cN F9 t []
   have h2:=l8 cE BF (c.take i) (t.foldl cN [])
   rw[sizeLine_eq,qy];simp only[uf,xh]at h1 h2;exact XA hl h1 h2
  have Q3:Sc B' _ _ (Is++[(a,.own (cD (strKind pw w) (g6 ((c.take i).foldl cE (t.foldl cN [])))))]) s5:=S5
  refine eL Q3 (TV.inD (D:=g6 ((c.take i).foldl cE (t.foldl cN []))) qQ (ao.name m3) (ao.dO (ao.name m2) (Nc _ La) ha)) (λhb s6 S6=> ?_) (λhb s6 S6=> ?_)
  ·rw[dQ,Ma.isSome_map,Zf]at hb
   refine xE hb λn0 hn0=> ?_
   refine Ex.of Q7 ?_
   refine eL S6 (TV.dI (ao.xw (ao.bG G1' (by kernel_rfl) (by kernel_rfl) rfl rfl (by kernel_rfl)) (ao.name m4) (ao.bG G1' (by kernel_rfl) (by kernel_rfl) rfl rfl (by kernel_rfl)))) (λhb=>by cases hb) (λhb s7 S7=> ?_)
   refine Ex.of Q9 ?_
   refine Ln (DD:=g6 ((c.take i).foldl cE (t.foldl cN []))) (d:=a) (a:=n0) qQ S7 (ao.name m2) (ao.name m3) (ao.name m4) (bw.app .here) (by rw[dQ,hn0];rfl) hz λs8 S8=>aU (aU (aU (fin .next _ ⟨_,_,⟨⟨.str f,.int n,rfl⟩,rfl⟩,?_⟩)))
   refine(lz _ _ _ _ _ NU ..).symm▸ ?_
   have e:g6 (cE ((c.take i).foldl cE (t.foldl cN [])) (f,n))=aQ (g6 ((c.take i).foldl cE (t.foldl cN []))) f (.int (n0+n)):=by
    rw[ql hn0];exact(iF ..).symm
   rw[e];exact S8
  ·rw[dQ,Ma.isSome_map]at hb
   have hn0:aL ((c.take i).foldl cE (t.foldl cN [])) f=none:=by simpa using hb
   refine Ex.of Q8 ?_
   refine A6 (DD:=g6 ((c.take i).foldl cE (t.foldl cN []))) (d:=a) qQ S6 (ao.name m4) (ao.name m2) (ao.name m3) (bw.app .here) hz λs8 S8=>aU (aU (fin .next _ ⟨_,_,⟨⟨.str f,.int n,rfl⟩,rfl⟩,?_⟩))
   refine(lz _ _ _ _ _ NU ..).symm▸ ?_
   have e:g6 (cE ((c.take i).foldl cE (t.foldl cN [])) (f,n))=aQ (g6 ((c.take i).foldl cE (t.foldl cN []))) f (.int n):=by
    rw[p9 hn0];exact(iF ..).symm
   rw[e];exact S8
 rintro s5 Γ2 Δ2 ⟨⟨d1,d2,rfl⟩,rfl⟩ S5
 rw[Qa,show(g6 c).length=c.length from Qa ..,bf]at S5
 refine dR S5 (ao.name m2) λv s6 S6 r=>fin _ _ ⟨hB▸S6.kp,?_⟩
 obtain rfl:v=.ref a:=r
 obtain⟨kvs,hd,rp⟩:=S6.dict (d:=a) La
 exact⟨a,kvs,rfl,pD▸(S6.own _ La).2.2.1.2,ha,hd,rp.at λb o hb e=>⟨λq=>hb (XX.out (pD▸q)),e⟩⟩
theorem IL{v:qa}{c:mQ}{k:Nat}(ac:Ac A (k+1))(G:aW w aG d0 s.heap)(hX:∀a∈X,a<s.heap.objs.size)(hv:De X s.heap v (.known (fE w c))):
  Ia (Md w) A (Ic (.ref 305) [v] []) (λv s'=>Kp s s'∧De X s'.heap v (.int (c.map (·.2)).sum)) E s:=by
 refine cu (s0:=s) (X:=X) (fd:=aaz (aG 305)) (body:=aN (st 10)) (Γa:=[(ya "callers",.known (fE w c))])
  (Γ0:=[(ya "callers",.known (fE w c)),(ya "nc",.un),(ya "calls",.un)])
  ac G.ru (G.kf _ _ (by kernel_rfl)) (Wc G.ko (by kernel_rfl)) rfl (binds:=[(ya "callers",v)]) (je (by kernel_rfl)) (.bN _) rfl hX
  (.cons hv .nil) (d9.mem (.cons m0 (.un (.un .nil)))) λB A' L R s1 E' hB pD hL S eO fin=> ?_
 have G1:aW w aG d0 B.s0.heap:=hB▸G
 refine Ex.of IK ?_
 refine cV S λs2 S2=> ?_
 refine aI S2 .bA BH (keep hL) λs3 S3=> ?_
 refine mG S3 (C5.values eO.hh (ao.name m0)) (ccI w c) ⟨⟨_,rfl⟩,rfl⟩ ?_ ?_
 ·rintro B' i d Is Γ1 Δ1 yD hd ⟨⟨d1,rfl⟩,rfl⟩
  rw[Ab]at hd
  obtain⟨p,hp,rfl⟩:=fc.mp hd
  unfold g6 jz at hp
  rw[Ab]at hp
  obtain⟨⟨f,n⟩,NU,rfl⟩:=fc.mp hp
  clear hp
  refine .mk _ (bY.name at2 (keep (yD▸hL))) λR s4 E4 S4 fin=> ?_
  refine Ex.of Ys ?_
  refine Qw S4 m1 (ao.name m2) BH (keep (yD▸hL)) λs5 S5=>aU (fin .next _ ⟨_,_,⟨⟨.int n,rfl⟩,rfl⟩,?_⟩)
  have e:((c.take (i+1)).map (·.2)).sum=((c.take i).map (·.2)).sum+n:=by
   rw[Me,NU];simp
  rw[e];exact S5
 rintro s4 Γ2 Δ2 ⟨⟨d1,rfl⟩,rfl⟩ S4
 rw[Qa,qy,bf]at S4
 refine dR S4 (ao.name m1) λv s6 S6 r=>fin _ _ ⟨hB▸S6.kp,?_⟩
 refine r.kQ λt=> ?_
 exact .int ..
theorem z5.nil{pos:Pos}:z5 w A B env Γ Δ (.List [] pos) []:=.mk λs E S=>
 List_ (Pa ((k9.nil).run S) (λvs s1 q=>Ld (by
  refine xA q λk1 r1=> ?_
  cases r1
  have S1:=S.upd k1
  exact⟨k1.trans' (.push ..),_,[],rfl,S1.next.early k1,kO.push,.nil,λX z_=>.nil⟩) (by
  show vs.toArray.size≤Bb;rw[Kf,q.2.length,sizeLine_eq];simp)) λz_ z_ z=>z)
theorem Il(dV v n u:qa):bindArgs (HK "add_header" "Headers.add_header" 17 .none dV 462) ⟨[v,n,u],[]⟩=(do
  let d←alloc {cls:=.type "dict",data:=.dict #[]}
  pure [(ya "self",v),(ya "_name",n),(ya "_value",u),(ya "_params",.ref d)]):=by kernel_rfl
theorem Im:aN (mt 21 17)=[aC (aN (mt 21 17)) 0,aC (aN (mt 21 17)) 1,aC (aN (mt 21 17)) 2,aC (aN (mt 21 17)) 3,aC (aN (mt 21 17)) 4]:=by kernel_rfl
theorem Rk:fb (aC (aN (mt 21 17)) 2)=[aC (fb (aC (aN (mt 21 17)) 2)) 0,aC (fb (aC (aN (mt 21 17)) 2)) 1]:=by kernel_rfl
noncomputable def heI(w:Oa)(l:ia)(name val:Str)(rows:aa (Str×Str))(i:Nat)(Γ':aa (Str×D))(Δ':aa (ia×MO)):Prop:=
 Γ'=[(ya "self",.known (HL l)),(ya "_name",.str name),(ya "_value",.str val),(ya "_params",.known (cC (strKind pw w) [])),(ya "parts",.list [.str val])]∧Δ'=[(l,.list (rows.map bz))]
theorem Io{v vn vv:qa}{rows:Rows}{name val:Str}{l:ia}{k:Nat}(ac:Ac A (k+2))(G:aW w aG d0 s.heap)(Gb:aW w aG d0 (blank l s).heap)(hX:∀a∈X,a<s.heap.objs.size)(hl:l∈X)(hm:(MO.list (rows.map bz)).At X s.heap l)(hv:De X s.heap v (.known (HL l)))(hn:De X s.heap vn (.str name))(hvv:De X s.heap vv (.str val))(ok:Nm name)(HQ:Nm val)(kZ:cP rows):
  Ia (Md w) A (Ic (.ref 463) [v,vn,vv] []) (λu s'=>Kp (blank l s) s'∧(MO.list ((rows++[(name,val)]).map bz)).At X s'.heap l∧De X s'.heap u (.dat .none)) E s:=by
 have EX:Up s.heap (s.heap.push {cls:=.type "dict",data:=.dict #[]}):=λz_ z_ e=>qc _ e
 have hd:(s.heap.push {cls:=.type "dict",data:=.dict #[]}).DictOf (strKind pw w) s.heap.objs.size []:=⟨_,#[],0,Zb _ rfl,⟨rfl,rfl,rfl⟩,rfl,λz_ he=>by simp at he,.nil,yh⟩
 have B7:s.heap.objs.size∉X:=λh=>Pc _ (hX _ h)
 refine sf (oM (sp:=s) (s:={s with heap:=s.heap.push {cls:=.type "dict",data:=.dict #[]}}) (X:=X) (l:=l) (m:=.list (rows.map bz)) (m':=.list ((rows++[(name,val)]).map bz)) (d:=.dat .none) (E:=E)
  (fd:=HK "add_header" "Headers.add_header" 17 .none (aG 463) 462) (body:=aN (mt 21 17)) (Γa:=[(ya "self",.known (HL l)),(ya "_name",.str name),(ya "_value",.str val),(ya "_params",.known (cC (strKind pw w) []))])
  (Γ0:=[(ya "self",.known (HL l)),(ya "_name",.str name),(ya "_value",.str val),(ya "_params",.known (cC (strKind pw w) [])),(ya "parts",.un)])
  (binds:=[(ya "self",v),(ya "_name",vn),(ya "_value",vv),(ya "_params",.ref s.heap.objs.size)])
  ac (G.keeps EX).ru (Kp.push ..) (G.kf _ _ (by kernel_rfl)) (Wc G.ko (by kernel_rfl)) rfl (λM A E Q h=>by rw[Il];exact Ca (wpAny_alloc (Ka h)))
  (λa ha=>Nat.lt_trans (hX a ha) (by show s.heap.objs.size<(s.heap.push _).objs.size;rw[Yc];exact Ph _)) hl (hm.keep (λb o z_ e=>EX b o e) λo e=>EX _ o e)
  (.cons (hv.up EX) (.cons (hn.up EX) (.cons (hvv.up EX) (.cons ⟨_,[],rfl,B7,G.Lr,hd,⟨rfl,.nil⟩⟩ .nil)))) (d9.mem (.cons m0 (.cons m1 (.cons m2 (.cons m3 (.un .nil)))))) (λB A' L R s1 E' hB hL S eO fin=> ?_) (by kernel_rfl) (by kernel_rfl))
 generalize AJ:({s with heap:=s.heap.push {cls:=.type "dict",data:=.dict #[]}}:za)=sA at *
 have G1:aW w aG d0 B.s0.heap:=hB▸(Gb.keeps ((qq (by rw[←AJ];exact Kp.push ..) l).up))
 refine Ex.of Im ?_
 refine cV S λs2 S2=> ?_
 refine k8 S2 z5.nil (λa=>BJ) (keep hL) λa s3 S3=> ?_
 refine eL S3 (TV.tF (ao.name m2) xM) (λz_ s4 S4=> ?_) (λh=>by cases h)
 refine Ex.of Rk ?_
 refine aI (d:=.str val) S4 (ao.nQ (ao.name m0) .inst G1 (bu w aG d0) (ao.name m2) ao.jY (λv u x s E S r1 r2 r3=>by
  refine r3.qZ ?_
  exact kD (k:=k) eO (S.g8 G1) (λa ha=>S.jH ha) r1 r2 HQ.ok (by have:=HQ.len;exact Na this (by decide)))) at2 (keep hL) λs5 S5=> ?_
 refine cz (Δ':=[(a,.list [.str val]),(l,.list (rows.map bz))]) S5 (kT.append (ao.name m4) (ao.name m2) .here (by simp)) bL λs6 S6=>aU ?_
 have S7:=S6.settle m4 BJ
 refine mG S7 (C5.items qQ eO.hh (ao.name m3)) (heI w l name val rows) ⟨rfl,rfl⟩ (λz_ i d Is Γ1 Δ1 z_ hd=>by simp at hd) ?_
 rintro s8 Γ2 Δ2 ⟨rfl,rfl⟩ S8
 have hj:Gf (ya "; ") [val]=val:=rfl
 refine cz (Δ':=[(l,.list ((rows++[(name,val)]).map bz))]) S8 (kT.append (ao.attr (ao.name m0) G1 (bu w aG d0) m0 .ref) (ao.tup (.cons (ao.nQ (ao.name m0) .inst G1 (bu w aG d0) (ao.name m1) ao.jY (λv u x s E S r1 r2 r3=>by
   refine r3.qZ ?_
   exact kD (k:=k) eO (S.g8 G1) (λa ha=>S.jH ha) r1 r2 ok.ok (by have:=ok.len;exact Na this (by decide)))) (.cons ((ao.join (a:=ya "; ") (ts:=[val]) ao.gu (ao.name m4) ?_).cast (by rw[hj])) .nil)) (by rw[sizeLine_eq];simp)) (by rw[Mc];exact .here) (by have:=kZ.len;rw[Qa];exact Na this (by decide))) bL λs9 S9=>aU (fin _ _ _ S9 .none)
 exact jx (b:=1000) (λt ht=>by simp only[Vb]at ht;subst ht;exact HQ.len) (by rw[show(ya "; ").length=2 from by decide+kernel];simp)
noncomputable abbrev mC:ia:=152
noncomputable def BD(h:Ja)(t:ia)(items:Ua qa):Prop:=∃o n,h.get? t=some o∧o.data=.seq items n
theorem BD.at{h h':Ja}{t:ia}{items:Ua qa}(x:BD h t items)(k:∀o,h.get? t=some o→h'.get? t=some o):BD h' t items:=let⟨o,n,a,b⟩:=x;⟨o,n,k _ a,b⟩
theorem if_not{α:Type}{M:Model}{c:Ga}{a b:Sem α}{Q:α→za→Prop}(hc:c=false)(h:Ia M A b Q E s):Ia M A (if c=true then a else b) Q E s:=by
 subst hc;exact h
theorem kI{M:Model}{h:Ja}{p:ia}{o:Obj}{vs:Ua qa}{i:Nat}{v:qa}(ho:h.get? p=some o)(hd:o.data=.fields vs)(e:vs[i]? =some v):Bc M h (field (.ref p) i) v:=by
 obtain⟨c,d,dt,sl⟩:=o
 simp only at hd
 subst hd
 exact looks_field ho i e
theorem kJ{h:Ja}{t:ia}{o:Obj}{items:Ua qa}{n:Nat}(ho:h.get? t=some o)(hd:o.data=.seq items n):Bc (Md w) h (seqItems? (.ref t)) (some items):=λA Q E s k q=>Zg (k _ _ ho) hd q
theorem xY{α:Type}{Q:α→za→Prop}(hh:A.handled=none)(h:∀h' e,(∀b o,s.heap.get? b=some o→h'.get? b=some o)→(∃o,h'.get? e=some o∧o.cls=.type "StopIteration")→E (.ref e) {s with heap:=h'}):Ia (Md w) A (SmallTypes.stopIteration:Sem α) Q E s:=by
 unfold SmallTypes.stopIteration newExc newTuple raiseNew
 refine Ca (Ca (Ld (Ca (m:=firstArgMember _ _) (Kd (a:=qa.none) (by first|rfl|(simp only[firstArgMember];rfl)) (Ld ?_ (by size_fits)))) (by size_fits)))
 refine Ca (wpAny_handled ?_)
 refine(hh ..).symm▸ ?_
 refine Ca (Ka (wpAny_throw (h _ _ (λb o q=>qc _ (qc _ q)) ⟨_,Zb _ rfl,rfl⟩)))
theorem rI{it t:ia}{i:Nat}{items:Ua qa}{x:qa}{Q:Ma qa→za→Prop}(hit:IsTupIter s.heap it t i)(ht:BD s.heap t items)(hx:items[i]? =some x)
  (hQ:∀h',IsTupIter h' it t (i+1)→ve it s.heap h'→Q (some x) {s with heap:=h'}):Ia (Md w) A (Ad (.ref it)) Q E s:=by
 refine mO (id hit) λo ho hc hd=> ?_
 refine lK ht λol nl hol hdl=> ?_
 have h0:Bc (Md w) s.heap (field (.ref it) 0) (.ref t):=kI ho hd rfl
 have h1:Bc (Md w) s.heap (field (.ref it) 1) (.int i 0):=kI ho hd rfl
 have h2:Bc (Md w) s.heap (seqItems? (.ref t)) (some items):=kJ hol hdl
 unfold Ad
 refine Ca (wpAny_attempt (Wj (name:=ya "__next__") hit.typeIs Vh
  (Yg Vh hit.typeIs entry_tupleiter_next ?_ (args_tupleiter_next _))))
 refine Ca (Kd (a:=(.ref it,[])) rfl (Ca (h0.here ?_)))
 refine if_not rfl (Ca (h1.here (Ca (h2.here ?_))))
 simp only[Fg,hx]
 exact Ca (wpAny_setField ho hd (by simp) (Ka ⟨x,rfl,Ka (hQ _ ⟨_,lg _ ho (Obj.isFreed_of_fields (Obj.data_mapFields hd _)),(Obj.cls_mapFields ..).trans hc,by
  rw[Obj.data_mapFields hd];simp[rawInt]⟩ (Pf ..))⟩))
theorem K0{it t:ia}{i:Nat}{items:Ua qa}{Q:Ma qa→za→Prop}(hh:A.handled=none)(hit:IsTupIter s.heap it t i)(ht:BD s.heap t items)(hx:items[i]? =none)
  (hQ:∀h',Ja.ExtBut it s.heap h'→Q none {s with heap:=h'}):Ia (Md w) A (Ad (.ref it)) Q E s:=by
 refine mO (id hit) λo ho hc hd=> ?_
 refine lK ht λol nl hol hdl=> ?_
 have h0:Bc (Md w) s.heap (field (.ref it) 0) (.ref t):=kI ho hd rfl
 have h1:Bc (Md w) s.heap (field (.ref it) 1) (.int i 0):=kI ho hd rfl
 have h2:Bc (Md w) s.heap (seqItems? (.ref t)) (some items):=kJ hol hdl
 unfold Ad
 refine Ca (wpAny_attempt (Wj (name:=ya "__next__") hit.typeIs Vh
  (Yg Vh hit.typeIs entry_tupleiter_next ?_ (args_tupleiter_next _))))
 refine Ca (Kd (a:=(.ref it,[])) rfl (Ca (h0.here ?_)))
 refine if_not rfl (Ca (h1.here (Ca (h2.here ?_))))
 simp only[Fg,hx]
 refine Ca (fh (Ca (wpAny_setField ho hd (by simp) ?_)))
 refine xY hh λh2 e hk aaM=> ?_
 refine bE aaM λoe hoe hce=> ?_
 exact Ca (Qj (T:="StopIteration") (b:=true) ⟨oe,hoe,hce⟩ isSubtype_stop (Ka (hQ _ λb o hb q=>hk b o ((Pf ..).extBut b o hb q))))
theorem YH{it t:ia}{a b c:qa}{Q:aa qa→za→Prop}(g9:t≠it)(hit:IsTupIter s.heap it t 0)(ht:BD s.heap t #[a,b,c])
  (hQ:∀h',IsTupIter h' it t 3→ve it s.heap h'→Q [a,b,c] {s with heap:=h'}):Ia (Md w) A (draw (.ref it) 3) Q E s:=by
 show Ia _ _ (Ad (.ref it)>>=_) Q E s
 refine Ca (rI hit ht rfl λh1 i1 s1=>Ca (Jc ?_))
 have t1:=ht.at λo e=>s1.extBut _ o g9 e
 show Ia _ _ (Ad (.ref it)>>=_) _ E _
 refine Ca (rI i1 t1 rfl λh2 i2 s2=>Ca (Jc ?_))
 have t2:=t1.at λo e=>s2.extBut _ o g9 e
 show Ia _ _ (Ad (.ref it)>>=_) _ E _
 refine Ca (rI i2 t2 rfl λh3 i3 s3=>Ca (Jc ?_))
 exact Ka (Ka (Ka (Ka (hQ h3 i3 ((s1.trans s2).trans s3)))))
theorem q9(G:aW w aG d0 s.heap){t:ia}{o:Obj}(ho:s.heap.get? t=some o)(hc:o.cls=.ref mC):Bc (Md w) s.heap (specialOf (.ref t) (ya "__iter__")) (some (.builtin "tuple.__iter__")):=by
 have ty:Bc (Md w) s.heap (typeOf (.ref t)) (.ref mC):=(Bc.ld ho).andThen (by rw[hc];exact .now)
 exact ty.andThen (looks_findIn G.kk (by kernel_rfl))
theorem Kn(G:aW w aG d0 s.heap){t:ia}{o:Obj}(ho:s.heap.get? t=some o)(hc:o.cls=.ref mC):Bc (Md w) s.heap (isInstance (.ref t) (.type "tuple")) true:=by
 have ty:Bc (Md w) s.heap (typeOf (.ref t)) (.ref mC):=(Bc.ld ho).andThen (by rw[hc];exact .now)
 exact ty.andThen (looks_mroIn G.kk (by kernel_rfl))
theorem FU(G:aW w aG d0 s.heap){t:ia}{o:Obj}{Q:qa→za→Prop}(ho:s.heap.get? t=some o)(hc:o.cls=.ref mC)
  (hQ:Q (.ref s.heap.objs.size) {s with heap:=s.heap.push {cls:=.type "tuple_iterator",data:=.fields #[.ref t,.int 0 0]}}):Ia (Md w) A (call (.builtin "tuple.__iter__") [.ref t]) Q E s:=by
 have pl:plainId "tuple.__iter__"=true:=by decide+kernel
 have kd:builtinKind "tuple.__iter__"=some .slot:=by decide+kernel
 have sl:splitId "tuple.__iter__"=some ("tuple","__iter__"):=by decide+kernel
 refine sf (codeAny_call_builtin (A:=A) (s:=s) (args:=⟨[.ref t],[]⟩) pl entry_tuple_iter ?_)
 refine @check_slot (Md w) _ _ _ "tuple.__iter__" "tuple" "__iter__" (.ref t) [] [] _ kd sl (Kn G ho hc) (args_tuple_iter _) ?_
 refine Ca (Kd (a:=(.ref t,[])) rfl (Ca (Ld (Ka hQ))))
theorem Ko(G:aW w aG d0 s.heap){t:ia}{o:Obj}{Q:qa→za→Prop}(ho:s.heap.get? t=some o)(hc:o.cls=.ref mC)
  (hQ:Q (.ref s.heap.objs.size) {s with heap:=s.heap.push {cls:=.type "tuple_iterator",data:=.fields #[.ref t,.int 0 0]}}):Ia (Md w) A (pyIter (.ref t)) Q E s:=by
 have sp:=q9 (w:=w) G ho hc
 have bd:bindSpecial (.builtin "tuple.__iter__") (.ref t)=pure (.builtin "tuple.__iter__",[.ref t]):=slot_tuple_iter.bind (.ref t)
 have key:∀(refuse:Sem qa) (P:Ma qa→za→Prop),P (some (.ref s.heap.objs.size)) {s with heap:=s.heap.push {cls:=.type "tuple_iterator",data:=.fields #[.ref t,.int 0 0]}}→
   Ia (Md w) A (callSpecialIfBoundUnlessNone? (.ref t) (ya "__iter__") refuse) P E s:=λrefuse P hP=>by
  have fin:Ia (Md w) A (if(qa.builtin "tuple.__iter__"==qa.none)=true then(refuse>>=λv=>pure (some v))else(call (.builtin "tuple.__iter__") [.ref t]>>=λv=>pure (some v))) P E s:=
   if_not rfl (Ca (FU G ho hc (Ka hP)))
  unfold callSpecialIfBoundUnlessNone? bindSpecialIfBound?
  refine Jc (Ca (Ca (sp.here ?_)))
  simp only[bd]
  refine Ca (wpAny_askSetting (wpAny_ite ?_))
  split
  ·exact Ca (Ka (Ka fin))
  ·exact Jh (Ca (Ka (Ka fin)))
 unfold pyIter
 refine Ca (sp.here ?_)
 refine Ca (key _ _ ?_)
 exact Ca (wpAny_specialOf (T:="tuple_iterator") ⟨_,Zb _ rfl,rfl⟩ Vh.lookup (Ka hQ))
theorem Cu(hh:A.handled=none)(G:aW w aG d0 s.heap){t:ia}{o:Obj}{n:Nat}{a b c:qa}{Q:aa qa→za→Prop}(ho:s.heap.get? t=some o)(hc:o.cls=.ref mC)(hd:o.data=.seq #[a,b,c] n)
  (hQ:∀h',Ja.ExtBut s.heap.objs.size s.heap h'→Q [a,b,c] {s with heap:=h'}):Ia (Md w) A (unpackItems (.ref t) 3 none) Q E s:=by
 have bB:t≠s.heap.objs.size:=se (Ub ho)
 have sp:=q9 (w:=w) G ho hc
 unfold unpackItems notIterableAtAll
 refine Ca (Ca (sp.here (Ka ?_)))
 refine if_not rfl (Ca (Jc (Ko G ho hc ?_)))
 refine Ca (Jc (YH bB ⟨_,Zb _ rfl,rfl,rfl⟩ ⟨o,n,qc _ ho,hd⟩ λh1 i1 s1=> ?_))
 refine Ca (Jc (K0 hh i1 ⟨o,n,s1.extBut _ o bB (qc _ ho),hd⟩ rfl λh2 e2=> ?_))
 exact if_not rfl (Ka (hQ h2 λb o hb e=>e2 b o hb (s1.extBut b o hb (qc _ e))))
noncomputable def uu(h:Ja)(m:ia)(a b c:qa):Prop:=∃o n,h.get? m=some o∧o.cls=.ref mC∧o.data=.seq #[a,b,c] n
theorem k7{α:Type}{t:Sem α}{r:α}{h:Ja}(G:aW w aG d0 h)(e:peek (KK w aG d0) ⟨pw,w.params⟩ t=some r):Bc (Md w) h t r:=Bc.of_peek G.kk e
theorem CX(G:aW w aG d0 s.heap){t:ia}{a b c:qa}{Q:qa→za→Prop}(ht:s.heap.IsTuple t #[a,b,c])
  (h:∀(h1 h':Ja) (m:ia),(∀x o,s.heap.get? x=some o→h1.get? x=some o)→(∀x o,h1.get? x=some o→h'.get? x=some o)→ @Zc Nat _ h1.objs.size m→uu h' m a b c→Q (.ref m) {s with heap:=h'}):Ia (Md w) A (call (.builtin "tuple.__new__") [.ref mC,.ref t]) Q E s:=by
 have pl:plainId "tuple.__new__"=true:=by decide+kernel
 have en:entryFor table "tuple.__new__"=some Ob.«tuple.__new__»:=ni (by kernel_rfl)
 obtain⟨o,ho,hc,n,hd⟩:=ht
 refine sf (codeAny_call_builtin (A:=A) (s:=s) (args:=⟨[.ref mC,.ref t],[]⟩) pl en ?_)
 refine(k7 (t:=checkBuiltinCall "tuple.__new__" ⟨[.ref mC,.ref t],[]⟩) (r:=()) G (by kernel_rfl)).here ?_
 refine Ca ((k7 (t:=isType (.ref mC)) (r:=true) G (by kernel_rfl)).here (if_not rfl ?_))
 refine Ca ((k7 (t:=isSubtype (.ref mC) (.type "tuple")) (r:=true) G (by kernel_rfl)).here (if_not rfl ?_))
 refine Ca ((k7 (t:=Bind.madeHere "tuple.__new__" (.ref mC)) (r:=()) G (by kernel_rfl)).here ?_)
 refine Ca ((k7 (t:=typeLookup (.ref mC) (ya "__init__")) (r:=some (.builtin "object.__init__")) G (by kernel_rfl)).here ?_)
 refine Ca (Kd (a:=()) (by kernel_rfl) (Ca (Kd (a:=()) (by kernel_rfl) ?_)))
 refine if_not rfl (Ca (m:=collect (.ref t)) (wpAny_collect_seq t (.inr rfl) ho hc hd (λh1 k1=> ?_) (by rw[sizeLine_eq];simp)))
 refine Ca (Ka ?_)
 refine Ca (wpAny_alloc ?_)
 have k2:∀x o,s.heap.get? x=some o→(h1.push {cls:=.type "dict",data:=.dict #[]}).get? x=some o:=λx o e=>qc _ (k1 x o e)
 have kp:∀x o,s.heap.get? x=some o→((h1.push {cls:=.type "dict",data:=.dict #[]}).push {cls:=.ref mC,dict:=some h1.objs.size,data:=.seq [a,b,c].toArray}).get? x=some o:=λx o e=>qc _ (k2 x o e)
 refine Ca (m:=newObj _ _ _) ?_
 unfold newObj
 dsimp only
 rw[if_neg (by rw[sizeLine_eq];simp)]
 unfold newObjAsIs
 refine Ca (wpAny_alloc ?_)
 refine Ca (((k7 (t:=classHasDel mC) (r:=false) (G.keeps kp) (by kernel_rfl)) _ _ _ _ (λz_ z_ e=>e)) ?_)
 refine if_not rfl (Ka (Ka ?_))
 exact h h1 _ _ k1 (λx o e=>qc _ (qc _ e)) (by rw[Yc];exact Of _) ⟨_,_,Zb _ rfl,rfl,rfl⟩
noncomputable def gI(i j k:Int):dW where
 P X h v:=∃m t1 t2 t3,v=.ref m∧m∉X∧uu h m (.int i t1) (.int j t2) (.int k t3)
 keep f:=λ⟨m,t1,t2,t3,e,hx,o,n,ho,r⟩=>⟨m,t1,t2,t3,e,hx,o,n,f _ _ hx ho,r⟩
 more f:=λ⟨m,t1,t2,t3,e,hx,o,n,ho,r⟩=>⟨m,t1,t2,t3,e,f _ _ hx ho,o,n,ho,r⟩
theorem yJ{o:Ba}{name:Str}{apos pos:Pos}{args:aa Ba}{Q:qa→za→Prop}(hp:(backTo pos (Rb args env)).all (λx=> !x.1)=true)
  (h:Ia (Md w) A (eval o env) (λov s1=>∀pl,Ia (Md w) A (getMethod ov name pl) (λfx s2=>Ia (Md w) A (callWith pos fx.1 fx.2 (backTo pos (Rb args env)) []) Q E s2) E s1) E s)
  (hb:aO o=true)(hn:zd args.length 29=true)(hl:(apos.endLine==pos.line)=true):Ia (Md w) A (eval (.Call (.Attribute o name apos) args [] pos) env) Q E s:=by
 refine(arm_eval_Call ..).symm▸(bU hb ..).symm▸ ?_
 refine Ca (Pa h (λov s₁ h₁=> ?_) λz_ z_ e=>e)
 refine Ca (Ed ?_)
 have Jy:args.length+1≤29:=Mb hn
 have wY:methodCallForm (args.length+([]:aa Keyword).length) (backTo pos (Rb args env)) (backToKw pos (keywordEach [] env))=true:=by
  unfold methodCallForm
  refine(hp ..).symm▸ ?_
  show(true&&true&&decide (args.length+0+0<30))=true
  simp;exact Dc Jy (by decide)
 have zo:methodCallPos true o env apos pos=pure pos:=by unfold methodCallPos;simp[hl]
 unfold methodCall
 refine(wY ..).symm▸ ?_
 refine Ca (Jc (Pa (h₁ _) (λfx s2 q=> ?_) λz_ z_ e=>e))
 exact Ca (Kd zo q)
theorem Ho{pl:Sem Ga}{Q:qa×aa qa→za→Prop}(G:aW w aG d0 s.heap)(h:Q (.builtin "tuple.__new__",[]) {s with toks:=s.toks+1}):Ia (Md w) A (getMethod (.type "tuple") (ya "__new__") pl) Q E s:=by
 have X:=G.kk
 have ZA:opaqueClassAbove (.type "tuple")=pure none:=by unfold opaqueClassAbove;dsimp only;rw[show Manifest.isStub "tuple"=false by decide+kernel];rfl
 have ht:typeOf (.type "tuple")=pure (.type "type"):=by first|rfl|kernel_rfl
 have L0:Bc (Md w) s.heap (typeOf (.type "tuple")) (.type "type"):=Bc.of_pure ht
 have hg:findIn (KK w aG d0) (.type "type") "__getattribute__"=some (some (.builtin "type.__getattribute__")):=type_tga
 unfold getMethod specialOf
 refine Ca (Ca (L0.here ((looks_findIn X hg).here ?_)))
 dsimp only
 rw[if_pos canon_tga]
 refine Ca (Pa (Q:=λv=>Q (v,[])) (E:=E) ?_ (λz_ z_ z=>Ka z) λz_ z_ z=>z)
 refine cls_open X (Bc.of_pure ZA) L0 hg (looks_hook X (r:=none) (by rfl)) (by kernel_rfl) (by kernel_rfl:findCls (KK w aG d0) (.type "tuple") (.type "type") (ya "__new__")=some (.val (.builtin "tuple.__new__"))) ?_
 exact Ka (by show Ia _ _ (handedOut _) _ _ _;rw[handedOut_of (by kernel_rfl)];exact Ka h)
noncomputable def aa1(dV:qa):Vc:=fnOf (ya "__new__") (ya "Match.__new__") (CC (mt 4 4)) (aN (mt 4 4)) (CH (mt 4 4)) (.none) (.none) dV (.str (ya "cpy313.difflib") 289) none (.ref 98) (.none)
theorem J9:aN (mt 4 4)=[aC (aN (mt 4 4)) 0,aC (aN (mt 4 4)) 1]:=by kernel_rfl
theorem ao.QC{e1 e2:Ba}{n:Str}{np apos pos:Pos}{i j k:Int}(G:aW w aG d0 B.s0.heap)(hf:ao w A B env Γ Δ (.Name n np) (.val (.type "tuple")))(x:ao w A B env Γ Δ e1 (.val (.ref mC)))(y:ao w A B env Γ Δ e2 (.tuple [.int i,.int j,.int k]))
  (h1:Aa (notStar e1=true) aR)(h2:Aa (notStar e2=true) aR)(hl:Aa ((apos.endLine==pos.line)=true) aR):ao w A B env Γ Δ (.Call (.Attribute (.Name n np) (ya "__new__") apos) [e1,e2] [] pos) (.known (gI i j k)):=.mk λs E S=>by
 have he:Rb [e1,e2] env=(false,eval e1 env)::Rb [e2] env:=aF _ _ _ h1
 have AG:Rb [e2] env=(false,eval e2 env)::Rb [] env:=aF _ _ _ h2
 refine yJ (by rw[he,AG];rfl) (hf.use S λv s1 k1 S1 r1 pl=> ?_) rfl rfl hl
 obtain rfl:v=.type "tuple":=r1
 refine Ho (S1.g8 G) ?_
 have S1':=S1.upd (.tok s1 (s1.toks+1))
 refine Fj ?_ he (by rw[AG];rfl)
 refine(he ..).symm▸(AG ..).symm▸ ?_
 refine Le (x.use S1' λu s2 k2 S2 r2=>Le (y.use S2 λv s3 k3 S3 r3=>bg ?_))
 obtain rfl:u=.ref mC:=r2
 obtain⟨t,vs,rfl,ht,hT,hr⟩:=De.isTup r3
 cases hr with
 |cons a1 hr=>
  cases hr with
  |cons a2 hr=>
   cases hr with
   |cons a3 hr=>
    cases hr;cases a1;cases a2;cases a3
    refine CX (S3.g8 G) hT λh1 h' m k4 k5 hle hM=> ?_
    have S4:=S3.upd (s':={s3 with heap:=h1}) ⟨h1,s3.toks,rfl,k4⟩
    refine⟨(((k1.trans' (.tok ..)).trans' k2).trans' k3).trans' ⟨h',s3.toks,rfl,λb o e=>k5 b o (k4 b o e)⟩,m,_,_,_,rfl,λhx=> ?_,hM⟩
    exact Pc _ (Dc (S4.jH hx) hle)
theorem FQ{va vb vc:qa}{i j l:Int}{k:Nat}(ac:Ac A (k+1))(G:aW w aG d0 s.heap)(hX:∀a∈X,a<s.heap.objs.size)(ha:De X s.heap va (.int i))(hb:De X s.heap vb (.int j))(hc:De X s.heap vc (.int l)):
  wc (Md w) A (.call (.ref 99) ⟨[.ref mC,va,vb,vc],[]⟩) (λr s'=>match r with|.ok (.ret v)=>Kp s s'∧De X s'.heap v (.known (gI i j l))|.ok _=>gc|.error e=>E e s') s:=by
 refine sR (Q:=λv s'=>Kp s s'∧De X s'.heap v (.known (gI i j l))) (s0:=s) (X:=X) (fd:=aa1 (aG 99)) (body:=aN (mt 4 4)) (Γa:=[(ya "_cls",.val (.ref mC)),(ya "a",.int i),(ya "b",.int j),(ya "size",.int l)])
  (Γ0:=[(ya "_cls",.val (.ref mC)),(ya "a",.int i),(ya "b",.int j),(ya "size",.int l)])
  ac G.ru (G.kf _ _ (by kernel_rfl)) (Wc G.ko (by kernel_rfl)) rfl (binds:=[(ya "_cls",.ref mC),(ya "a",va),(ya "b",vb),(ya "size",vc)]) (je (by kernel_rfl)) (.bN _) rfl hX
  (.cons rfl (.cons ha (.cons hb (.cons hc .nil)))) (λp hp hu=>hp) λB A' L R s1 E' hB pD hL S eO fin=> ?_
 have G1:aW w aG d0 B.s0.heap:=hB▸G
 refine Ex.of J9 ?_
 refine cV S λs2 S2=> ?_
 exact dR S2 (ao.QC G1 (ao.bG G1 (by kernel_rfl) (by kernel_rfl) rfl rfl (by kernel_rfl)) (ao.name m0) (ao.tup (.cons (ao.name m1) (.cons (ao.name m2) (.cons (ao.name m3) .nil))) (by rw[sizeLine_eq];simp))) λv s3 S3 r=>fin _ _ ⟨hB▸S3.kp,r.sub λb hb=>XX.out (pD▸hb)⟩
noncomputable def YA(K:Frag)(C:ia):Ga:=match K.lookup C with|some ⟨_,_,.cls _,_⟩=>true|_=>false
set_option tactic.hygienic true in
theorem IP{h:Ja}{C:ia}(G:aW w aG d0 h)(e:YA (KK w aG d0) C=true):∃oc od cd sl,h.get? C=some ⟨oc,od,.cls cd,sl⟩:=by
 unfold YA at e
 split at e
 ·rename_i c d cd sl hq
  exact⟨_,_,_,_,G.kk _ _ hq⟩
 ·cases e
theorem Km(G:aW w aG d0 s.heap){m:ia}{a b c:qa}{R:Yd→za→Prop}(hm:uu s.heap m a b c){x y z:qa}(h:R (.ok (.ret .none)) s):wc (Md w) A (.call (.builtin "object.__init__") ⟨[.ref m,x,y,z],[]⟩) R s:=by
 refine Ov hm λo n ho hc hd=> ?_
 have ty:Bc (Md w) s.heap (typeOf (.ref m)) (.ref mC):=(Bc.ld ho).andThen (by rw[hc];exact .now)
 have t2:Bc (Md w) s.heap (isInstance (.ref m) (.type "object")) true:=ty.andThen (looks_mroIn G.kk (by kernel_rfl))
 refine codeAny_call_builtin oi_plain entry_oi ?_
 refine @check_slot (Md w) _ _ _ "object.__init__" "object" "__init__" (.ref m) [x,y,z] [] _ oi_kind oi_split t2 (by unfold argsOk;kernel_rfl) ?_
 unfold Ob.«object.__init__»
 dsimp only
 rw[if_pos (by rfl)]
 refine Ca (ty.here ?_)
 refine Ca ((k7 (t:=typeLookup (.ref mC) (ya "__init__")) (r:=some (.builtin "object.__init__")) G (by kernel_rfl)).here ?_)
 refine Ca ((k7 (t:=Bind.madeBy (.ref mC)) (r:=none) G (by kernel_rfl)).here ?_)
 exact Ka h
theorem Kl{va vb vc:qa}{i j l:Int}{k:Nat}(ac:Ac A (k+2))(G:aW w aG d0 s.heap)(hX:∀a∈X,a<s.heap.objs.size)(ha:De X s.heap va (.int i))(hb:De X s.heap vb (.int j))(hc:De X s.heap vc (.int l)):
  wc (Md w) A (.call (.ref mC) ⟨[va,vb,vc],[]⟩) (λr s'=>match r with|.ok (.ret v)=>Kp s s'∧De X s'.heap v (.known (gI i j l))|.ok _=>gc|.error e=>E e s') s:=by
 obtain⟨oc,od,cd,sl,hC⟩:=IP G (C:=mC) (by kernel_rfl)
 refine codeAny_of_tree ?_
 show Ia _ _ (callAny (.ref mC) _) _ _ _
 refine Ca (wpAny_load hC ?_)
 show Ia _ _ (callAny.viaDunder (.ref mC) _) _ _ _
 unfold callAny.viaDunder
 refine Ca ((looks_specialIn G.kk (by kernel_rfl:specialIn (KK w aG d0) (.ref mC) "__call__"=some (some (.builtin "type.__call__")))).here ?_)
 dsimp only
 refine(tc_bind ..).symm▸ ?_
 refine Ca (Ka (Ca (Ka ?_)))
 refine Ka (a:=Fin.again (.call (.builtin "type.__call__") ⟨[.ref mC,va,vb,vc],[]⟩)) (And.intro rfl ?_)
 refine codeAny_call_builtin_at (Code.quiet_builtin _ (by decide+kernel)) entry_typeCall ?_
 refine @check_slot (Md w) _ _ _ "type.__call__" "type" "__call__" (.ref mC) [va,vb,vc] [] _ tc_kind tc_split (looks_instIn G.kk (by kernel_rfl)) (tc_args _ _ _) ?_
 unfold Ob.«type.__call__»
 dsimp only
 rw[if_neg (show¬((qa.ref mC==Te "type")=true)from Bj)]
 refine Ca ((k7 (t:=mroOf (.ref mC)) (r:=[.ref mC,.type "tuple",.type "object"]) G (by kernel_rfl)).here ?_)
 refine if_not rfl ?_
 refine Ca ((k7 (t:=Bind.madeBy (.ref mC)) (r:=none) G (by kernel_rfl)).here ?_)
 refine Ca (m:=getAttr (.ref mC) (ya "__new__")) ?_
 refine cls_bind (g:=.builtin "staticmethod.__get__") (a:=.ref 153) (obj:=.none) (tp:=.ref mC) G.kk (mc:=.type "type") (by kernel_rfl) (by kernel_rfl) ?_
 refine sf (sm_get (f:=.ref 99) (rest:=[]) G.kk (by kernel_rfl) ?_)
 refine handed_on (by kernel_rfl) ?_
 have kt:Kp s {s with toks:=s.toks+1}:=.tok ..
 have G1:aW w aG d0 ({s with toks:=s.toks+1}:za).heap:=G
 generalize hs1:({s with toks:=s.toks+1}:za)=s1 at *
 have eO:Ac (A.under (.builtin "type.__call__" ⟨.ref mC::[va,vb,vc],[]⟩)) (k+1):=ac.under
 refine Ca (Jc (sf (codeAny_mono (FQ (s:=s1) (E:=λe s'=>E e s') eO G1 (by rw[←hs1];exact hX) (ha.up kt.up) (hb.up kt.up) (hc.up kt.up)) λr s' z=> ?_)))
 cases r with
 |error e=>exact z
 |ok f=>
  cases f with
  |next =>exact z
  |brk=>exact z
  |cont=>exact z
  |ret v=>
   refine xA z λk2 z2=> ?_
   obtain⟨m,t1,t2,t3,rfl,hx,hm⟩:=z2
   have ET:=hm
   refine Ov hm λo n ho QJ hd=> ?_
   have G2:=G1.keeps k2.up
   have ty:Bc (Md w) s'.heap (typeOf (.ref m)) (.ref mC):=(Bc.ld ho).andThen (by rw[QJ];exact .now)
   have ii:Bc (Md w) s'.heap (isInstance (.ref m) (.ref mC)) true:=ty.andThen (looks_mroIn G2.kk (by kernel_rfl))
   have sp:Bc (Md w) s'.heap (specialOf (.ref m) (ya "__init__")) (some (.builtin "object.__init__")):=ty.andThen (looks_findIn G2.kk (by kernel_rfl))
   refine Ca (ii.here (if_not rfl ?_))
   refine Ca (Jc ?_)
   unfold callSpecial?
   refine Ca (sp.here (Jc ?_))
   refine(oi_bind ..).symm▸ ?_
   refine Ca (Ka (Ca (sf (Km G2 ET (Ka ?_)))))
   exact if_not rfl (Ka ⟨kt.trans' k2,m,t1,t2,t3,rfl,hx,o,n,ho,QJ,hd⟩)
theorem ao.mkMatch{x:Str}{p pos:Pos}{e1 e2 e3:Ba}{i j l:Int}{k:Nat}(ac:Ac A (k+2))(G:aW w aG d0 B.s0.heap)(hf:ao w A B env Γ Δ (.Name x p) (.val (.ref mC)))(a:ao w A B env Γ Δ e1 (.int i))(b:ao w A B env Γ Δ e2 (.int j))(c:ao w A B env Γ Δ e3 (.int l))
  (h1:Aa (notStar e1=true) aR)(h2:Aa (notStar e2=true) aR)(h3:Aa (notStar e3=true) aR):ao w A B env Γ Δ (.Call (.Name x p) [e1,e2,e3] [] pos) (.known (gI i j l)):=.mk λs E S=>by
 refine Ke rfl (hf.use S λv s1 k1 S1 r1=> ?_)
 obtain rfl:v=.ref mC:=r1
 have ys:k9 w A B env Γ Δ [e2,e3] [.int j,.int l]:=.cons b (.cons c .nil h3) h2
 have r:=(k9.cons a ys h1).run (pos:=pos) (E:=E) S1
 refine callWith_K (K:=KK w aG d0) G.kk (by kernel_rfl) (Pa r (λvs s2 q=> ?_) λz_ z_ z=>z) (aF _ _ _ h1) ys.plain
 have S2:=S1.upd q.1
 refine⟨(S2.g8 G).kk,?_⟩
 refine xA q λk2 rr=> ?_
 refine rr.uc λz_ z_ r1 rr=> ?_
 refine rr.c2 λv2 v3 r2 r3=> ?_
 refine Pa (sf (Kl (E:=E) ac (S2.g8 G) (λa ha=>S2.jH ha) r1 r2 r3)) (λv s3 q=> ?_) λz_ z_ z=>z
 exact⟨(k1.trans' k2).trans' q.1,q.2⟩
theorem xX{e1 e2 e3:Ba}{kt}{tp pos:Pos}{value:Ba}{i j l:Int}{rest:aa Va}{Q:Flow→za→Prop}(hh:A.handled=none)(G:aW w aG d0 B.s0.heap)(S:Sc B env Γ Δ s)(y:ao w A B env Γ Δ value (.known (gI i j l)))
  (t:pn w A B env Δ [e1,e2,e3] [.int i,.int j,.int l] Γ Γ')(h:∀s',Sc B env Γ' Δ s'→Ex w A env rest Q E s')
  (hs:Aa (cR value=true) aR)(hw:Aa (swappedStores [.Tuple [e1,e2,e3] kt tp] value env=pure none) aR):Ex w A env (.Assign [.Tuple [e1,e2,e3] kt tp] value pos::rest) Q E s:=
 ⟨Kc (Assign_Tuple (y.use S λv s1 k1 S1 r1=>by
  obtain⟨m,t1,t2,t3,rfl,hx,o,n,ho,hc,hd⟩:=r1
  refine(PyProof.Rows.assign_Tuple ..).symm▸ ?_
  refine Ca (Ed ?_)
  unfold unpack
  have hl:(assignEach [e1,e2,e3] env).length=3:=t.length
  refine(hl ..).symm▸(t.noStar ..).symm▸ ?_
  refine Ca (Jc (Cu hh (S1.g8 G) ho hc hd λh' he=> ?_))
  have k:Kp s1 {s1 with heap:=h'}:=⟨h',s1.toks,rfl,λb o e=>he b o (se (Ub e)) e⟩
  exact t.run (S1.upd k) (.cons (.int ..) (.cons (.int ..) (.cons (.int ..) .nil))) λs' S' k'=>(h s' S').run) (g4 hs) hw)⟩
end
end Mine
namespace Mine
open PySem PySem.W PySem.Calls PyProof.Rows PySem.SeqAt PySem.Builtin PySem.Builtin.ObjectAttr
noncomputable def jX(id:Yb)(self:qa):Obj:={cls:=.type "builtin_function_or_method",data:=.fields #[.builtin id,self]}
structure vQ(T:Yb)(id:Yb)(name:Str):Prop where
 ga:∃g,Slot T "__getattribute__" g∧entryFor table g=some Ob.«object.__getattribute__»∧∀a b,argsOk g ⟨[a,b],[]⟩
 look:typeLookup (.type T) name=pure (some (.builtin id))
 type:typeOf (.builtin id)=pure (.type "method_descriptor")
 sub:isSubtype (.type T) (.type T)=pure true
 own:((".".intercalate (id.cutAt '.').dropLast)==T)=true
 free:(["__module__","__name__","__qualname__","__doc__","__annotations__"]:aa Str).contains name=false
 told:Manifest.toldItsClass.contains id=false
theorem P4:typeLookup (.type "method_descriptor") "__get__"=pure (some (.builtin "method_descriptor.__get__")):=by rw[Lf,Ef];kernel_rfl
theorem P5:typeLookup (.type "method_descriptor") "__set__"=pure none:=by rw[Lf,Ef];kernel_rfl
theorem P0:typeLookup (.type "method_descriptor") "__delete__"=pure none:=by rw[Lf,Ef];kernel_rfl
theorem FP:entryFor table "method_descriptor.__get__"=some Ob.«method_descriptor.__get__»:=ni (by kernel_rfl)
theorem K7:Slot "method_descriptor" "__get__" "method_descriptor.__get__":=
 .of (owner:="method_descriptor") (n:="__get__") (by rw[Lf,Ef];kernel_rfl) (by decide+kernel) (by decide+kernel) (by decide+kernel)
  (by first|exact .inl (by decide+kernel)|exact .inr (by decide+kernel)) (by rw[Pg];kernel_rfl)
theorem wz:vQ "dict" "dict.get" "get":=⟨⟨_,PySem.F.slot_dict_getattribute,am_entry_dict_getattribute,λa b=>PySem.F.args_dict_getattribute_2 a b⟩,by rw[Lf,Ef];kernel_rfl,PySem.F.type_dict_get,isSubtype_dict_dict,by kernel_rfl,by decide+kernel,by decide+kernel⟩
theorem entry_set_ga:entryFor table "set.__getattribute__"=some Ob.«object.__getattribute__»:=entryFor_alias (id':="object.__getattribute__") (by kernel_rfl) (by decide+kernel) (by decide+kernel) (by kernel_rfl)
theorem pA:vQ "set" "set.__contains__" "__contains__":=⟨⟨_,PySem.F.slot_set_getattribute,entry_set_ga,λa b=>PySem.F.args_set_getattribute_2 a b⟩,by rw[Lf,Ef];kernel_rfl,PySem.F.type_set_contains,by rw[Pg];kernel_rfl,by kernel_rfl,by decide+kernel,by decide+kernel⟩
section
variable{w:Oa}{A:Xa}{s:za}{E:qa→za→Prop}
theorem zA{h:Ja}{a:ia}{o:Obj}{T:Yb}(ho:h.get? a=some o)(hc:o.cls=.type T)(hd:o.dict=none)(hn:∀c,o.data≠ .cls c):Bc (Md w) h (ownDict a) none:=by
 obtain⟨c,d,dt,sl⟩:=o
 simp only at hc hd
 subst hc hd
 have i:Bc (Md w) h (instanceDict a false) none:=(Bc.ld (part:=some headPart) ho).andThen (Bc.of_pure rfl)
 refine(Bc.ld (part:=some headPart) ho).andThen ?_
 cases dt<;> first|exact i|exact absurd rfl (hn _)
theorem IG{T id:Yb}{name:Str}(b:vQ T id name){a:ia}{o:Obj}(ho:s.heap.get? a=some o)(hc:o.cls=.type T)(hd:o.dict=none)(hn:∀c,o.data≠ .cls c){Q:ObjectAttr.Found→za→Prop}(h:Q (.bind (.builtin "method_descriptor.__get__") (.builtin id)) s):
  Ia (Md w) A (find (.ref a) (.type T) name) Q E s:=by
 have g1:∀n r,typeLookup (.type "method_descriptor") n=pure r→specialOf (.builtin id) n=pure r:=λn r e=>by unfold specialOf;rw[b.type];exact e
 have e1:=g1 _ _ P4
 have e2:=g1 _ _ P5
 have e3:=g1 _ _ P0
 have own:Bc (Md w) s.heap (inOwnDict name (.ref a)) none:=(zA ho hc hd hn).andThen .now
 have cp:copiedAttributeGuard name (.ref a)=pure ():=by
  show(if(["__module__","__name__","__qualname__","__doc__","__annotations__"]:aa Str).contains name=true then _ else pure Qh)=_
  rw[b.free];rfl
 unfold find getOf dataDescriptor? takesStores ownThenClass
 refine(b.look ..).symm▸ ?_
 refine Ca (Ka ?_)
 dsimp only
 refine(e1 ..).symm▸ ?_
 refine Ca (Ka ?_)
 dsimp only
 refine(e2 ..).symm▸(e3 ..).symm▸ ?_
 refine Ca (Ca (Ca (Ka (Ka ?_))))
 refine if_not rfl (Ka ?_)
 dsimp only
 refine Ca (own.here ?_)
 dsimp only
 refine(cp ..).symm▸ ?_
 exact Ca (Ka (Ca (fh (Ka h))))
theorem OL{T id:Yb}{name:Str}(b:vQ T id name){a:ia}{o:Obj}(ho:s.heap.get? a=some o)(hc:o.cls=.type T){Q:qa→za→Prop}(h:Q (.ref s.heap.objs.size) {s with heap:=s.heap.push (jX id (.ref a))}):
  Ia (Md w) A (call (.builtin "method_descriptor.__get__") [.builtin id,.ref a,.type T]) Q E s:=by
 have hT:s.TypeIs (.ref a) T:=⟨o,ho,hc⟩
 have hD:s.TypeIs (.builtin id) "method_descriptor":=b.type
 have ow:(".".intercalate (id.cutAt '.').dropLast)=T:=by simpa using b.own
 refine Yg K7 hD FP ?_ (by unfold argsOk;kernel_rfl)
 unfold Ob.«method_descriptor.__get__»
 refine Ca (Kd (a:=(.builtin id,some (.ref a),some (.type T))) rfl ?_)
 dsimp only
 refine(b.told ..).symm▸ ?_
 refine if_not rfl ?_
 refine Ca ?_
 refine Ca (Kd (a:=(ya ((id.cutAt '.').getLastD ""),.type (".".intercalate (id.cutAt '.').dropLast))) rfl ?_)
 dsimp only
 refine(ow ..).symm▸ ?_
 refine Ca (Qj hT b.sub ?_)
 refine if_not rfl (Ka ?_)
 exact Ca (Ld (Ka ⟨_,rfl,h⟩))
theorem Aw{T id:Yb}{name:Str}(b:vQ T id name){a:ia}{o:Obj}(ho:s.heap.get? a=some o)(hc:o.cls=.type T)(hd:o.dict=none)(hn:∀c,o.data≠ .cls c){e:Ga}{Q:qa→za→Prop}
  (h:Q (.ref s.heap.objs.size) {s with heap:=s.heap.push (jX id (.ref a)),toks:=s.toks+1}):Ia (Md w) A (getAttr (.ref a) name e) Q E s:=by
 refine mO b.ga λg sg eg ag=> ?_
 have hT:({s with toks:=s.toks+1}:za).TypeIs (.ref a) T:=⟨o,ho,hc⟩
 unfold getAttr getAttrBy
 refine Ca (wpAny_mkText (Jc (Ca (wpAny_typeOf hT ?_))))
 refine(sg.lookup ..).symm▸ ?_
 refine Ca (Ka ?_)
 dsimp only
 refine if_not rfl ?_
 unfold getAttrByItsOwn
 refine Ca (Kd (a:=none) rfl (Ca (wpAny_attempt (Jc ?_))))
 unfold callGetattribute
 rw[show(e&&onTheHeap (qa.builtin g))=false from Ij _]
 refine if_not rfl ?_
 unfold boundAndCalled
 refine(sg.bind ..).symm▸ ?_
 refine Ca (Ka ?_)
 refine Yg (rest:=[.str name s.toks]) sg hT eg ?_ (ag _ _)
 unfold Ob.«object.__getattribute__»
 refine Ca (Kd (a:=(.ref a,[.str name s.toks])) rfl ?_)
 refine Ca (Kd (a:=name) rfl (Ca (wpAny_typeOf hT (Ca (IG (s:={s with toks:=s.toks+1}) b ho hc hd hn ?_)))))
 dsimp only
 unfold bindTo
 dsimp only
 refine Ca (Jc (OL (s:={s with toks:=s.toks+1}) b ho hc (Ka ⟨_,rfl,?_⟩)))
 refine handed_on (by rfl) h
variable{B:Bx}{s':za}{env:Env}{Γ Γ':aa (Str×D)}{Δ Δ':aa (ia×MO)}
theorem qM{α:Type}{M:Model}{c:Ga}{a b:Sem α}{Q:α→za→Prop}(hc:c=true)(h:Ia M A a Q E s):Ia M A (if c=true then a else b) Q E s:=by
 subst hc;exact h
theorem oF{M:Model}{pos:Pos}{u:ia}{id:Yb}{self:qa}{args:aa (Ga×Sem qa)}{Q:qa→za→Prop}(lD:args.any (·.1)=false)
  (h:Ia M A (evalArgs (.ref u) true args []) (λx s₁=>s₁.heap.get? u=some (jX id self)∧Ia M A (call (.ref u) x.pos x.kw) Q E s₁) E s):Ia M A (callWith pos (.ref u) [] args []) Q E s:=by
 unfold callWith
 refine Ca (Jc (Pa h (λx s₁ h₁=>Ca (Ed ?_)) λz_ z_ x=>x))
 refine xA h₁ λho Zl=> ?_
 simp only[lD,aa.any_nil,Ga.or_false]
 refine Ca (m:=keeperOf (.ref u)) ?_
 unfold keeperOf
 refine Ca (wpAny_load ho ?_)
 refine qM (c:=(Te "builtin_function_or_method" !=Te "method")) (by decide) (Ka ?_)
 exact Ca (Pa Zl (λr s₂ hr=>Ca (Jc (wpAny_point (Ka hr)))) λz_ z_ x=>x)
theorem Ax{u:ia}{id:Yb}{self:qa}{vs:aa qa}{Bu:Ob}{Q:qa→za→Prop}{S:PySem.Spec}(ho:s.heap.get? u=some (jX id self))(ck:∀(A:Xa) (E:qa→za→Prop) (Q:Unit→za→Prop),Q () s→Ia (Md w) A (checkBoundCall id ⟨self::vs,[]⟩) Q E s)(en:entryFor table id=some Bu)(pl:plainId id=true)
  (m:MeetsIn pw w (Bu ⟨self::vs,[]⟩) S)(h:S A (wants Q E) s):Ia (Md w) A (call (.ref u) vs) Q E s:=by
 refine sf (codeAny_of_tree ?_)
 show Ia _ A.in1 (callAny (.ref u) ⟨vs,[]⟩) _ _ s
 simp only[callAny]
 refine Ca (wpAny_load ho ?_)
 refine qM (c:=(Te "builtin_function_or_method"==Te "method"||Value.type "builtin_function_or_method"==Te "builtin_function_or_method"||Value.type "builtin_function_or_method"==Te "method-wrapper")) (by decide) ?_
 refine qM (c:=(Te "builtin_function_or_method" !=Te "method")) (by decide) ?_
 refine Ca (ck _ _ _ ?_)
 refine Ca (Ka (Ka ⟨Ri pl _,Zh en ?_⟩))
 refine(Nj pl _ ..).symm▸ ?_
 exact m A (wants Q E) s h
theorem ND{T id:Yb}{d:ia}{o:Obj}{vs:aa qa}{sig:Manifest.Signature}(ho:s.heap.get? d=some o)(hc:o.cls=.type T)(hn:∀c,o.data≠ .cls c)
  (hs:Manifest.signature? id=some sig)(hk:builtinKind id=some .method)(hm:isSubtype (.type T) (.type "module")=pure false)(hv:Manifest.varargsMethods.contains id=false)
  (ha:Bind.checkArgs id {sig with full:=s!"{Bind.lastOf T}.{Bind.lastOf id}"} ⟨.ref d::vs,[]⟩=pure ())(A:Xa)(E:qa→za→Prop)(Q:Unit→za→Prop)(h:Q () s):Ia (Md w) A (checkBoundCall id ⟨.ref d::vs,[]⟩) Q E s:=by
 have hT:s.TypeIs (.ref d) T:=⟨o,ho,hc⟩
 unfold checkBoundCall
 refine(hs ..).symm▸ ?_
 dsimp only
 refine(hk ..).symm▸ ?_
 dsimp only
 refine if_not rfl ?_
 refine Ca (Qj hT hm ?_)
 refine(hv ..).symm▸ ?_
 refine if_not rfl ?_
 have it:Bc (Md w) s.heap (isType (.ref d)) false:=by
  refine(Bc.ld (part:=some headPart) ho).andThen ?_
  obtain⟨c,dd,dt,sl⟩:=o
  cases dt<;> first|exact .now|exact absurd rfl (hn _)
 refine Ca (m:=isType (.ref d)) (it.here ?_)
 refine if_not rfl (Ca (wpAny_typeOf hT ?_))
 dsimp only
 refine(ha ..).symm▸ ?_
 exact Ka h
theorem wJ:isSubtype (.type "dict") (.type "module")=pure false:=by rw[Pg];kernel_rfl
theorem zP:isSubtype (.type "set") (.type "module")=pure false:=by rw[Pg];kernel_rfl
theorem oN{K:Type}[Ec K]{knd:KeyKind pw w K}{h:Ja}{d:ia}{kvs:aa (K×qa)}(x:h.DictOf knd d kvs):∃o,h.get? d=some o∧o.cls=.type "dict"∧o.dict=none∧∀c,o.data≠ .cls c:=by
 refine pU x λo es ep ho ex hd z_=> ?_
 exact⟨o,ho,ex.1,ex.2.1,λc q=>by rw[hd]at q;cases q⟩
noncomputable def Bw{w:Oa}{K:Type}[Ec K](knd:KeyKind pw w K)(DD:aa (K×PyData)):dW where
 P X h v:=∃b d kvs,v=.ref b∧b∉X∧h.get? b=some (jX "dict.get" (.ref d))∧d∉X∧(d==sysModules)=false∧h.DictOf knd d kvs∧kU X h kvs DD
 keep k:=λ⟨b,d,kvs,e,hb,ho,hx,hs,hd,r⟩=>⟨b,d,kvs,e,hb,k _ _ hb ho,hx,hs,(let⟨o,es,ep,ho,q⟩:=hd;⟨o,es,ep,k _ _ hx ho,q⟩),⟨r.ks,r.vs.at λb o hb e=>.inr ⟨hb,k b o hb e⟩⟩⟩
 more k:=λ⟨b,d,kvs,e,hb,ho,hx,hs,hd,r⟩=>⟨b,d,kvs,e,k _ _ hb ho,ho,(let⟨o,es,ep,ho,q⟩:=hd;k _ _ hx ho),hs,hd,⟨r.ks,r.vs.at λb o hb e=>.inr ⟨k b o hb e,e⟩⟩⟩
theorem ao.aay{K:Type}[Ec K]{knd:KeyKind pw w K}{DD:aa (K×PyData)}{n:Str}{np pos:Pos}(x:ao w A B env Γ Δ (.Name n np) (.known (cC knd DD))):ao w A B env Γ Δ (.Attribute (.Name n np) (ya "get") pos) (.known (Bw knd DD)):=.mk λs E S=>
 Attribute_name (x.use S λv s1 k1 S1 r1=>by
  obtain⟨d,kvs,rfl,hx,nM,hd,rp⟩:=r1
  refine Bv (oN hd) λo ho hc pP hn=> ?_
  have k2:Kp s1 {s1 with heap:=s1.heap.push (jX "dict.get" (.ref d)),toks:=s1.toks+1}:=.oV ..
  exact Aw wz ho hc pP hn ⟨k1.trans' k2,s1.heap.objs.size,d,kvs,rfl,S1.fresh,Zb _ rfl,hx,nM,hd.keep k2.up,rp.at λb o hb e=>⟨hb,k2.up _ _ e⟩⟩)
noncomputable def Qs:Manifest.Signature:=⟨.positional,"dict.get","get",.self,[⟨"key",.posOnly,true⟩,⟨"default",.posOnly,false⟩]⟩
noncomputable def GO:Manifest.Signature:=⟨.oneArg,"set.__contains__","__contains__",.self,[⟨"object",.posOnly,true⟩]⟩
theorem K5:Manifest.signature? "dict.get"=some Qs:=by rw[signature?_of (id:="dict.get") (n:=['t','e','g']) (o:=['t','c','i','d']) (by kernel_rfl) PySem.F.owner_dict];kernel_rfl
theorem K6:Manifest.signature? "set.__contains__"=some GO:=by rw[signature?_of (id:="set.__contains__") (n:=['_','_','s','n','i','a','t','n','o','c','_','_']) (o:=['t','e','s']) (by kernel_rfl) PySem.F.owner_set];kernel_rfl
theorem ao.D4{K:Type}[Ec K]{knd:KeyKind pw w K}{enc:K→PyData}{DD:aa (K×PyData)}{n:Str}{np pos:Pos}{k e:Ba}{x:K}{d:PyData}(ki:iu knd enc)(a:ao w A B env Γ Δ (.Name n np) (.known (Bw knd DD)))(b:ao w A B env Γ Δ k (.dat (enc x)))(c:ao w A B env Γ Δ e (.dat d))
  (hn:Aa (notStar k=true) aR)(Pw:Aa (notStar e=true) aR):ao w A B env Γ Δ (.Call (.Name n np) [k,e] [] pos) (.dat ((aL DD x).getD d)):=.mk λs E S=>by
 refine Ke rfl (a.use S λv s1 k1 S1 r1=> ?_)
 obtain⟨u,dd,kvs,rfl,hu,Zy,hx,nM,hd,rp⟩:=id r1
 have he:Rb [k,e] env=(false,eval k env)::Rb [e] env:=aF _ _ _ hn
 have AG:Rb [e] env=(false,eval e env)::Rb [] env:=aF _ _ _ Pw
 refine oF (id:="dict.get") (self:=.ref dd) (by rw[he,AG];rfl) ?_
 refine(he ..).symm▸(AG ..).symm▸ ?_
 refine Ji (Le (b.use S1 λkv s2 k2 S2 r2=>Le (c.use S2 λy s3 k3 S3 r3=>bg ?_)))
 have kk:=k2.trans' k3
 have Zn:=hd.keep kk.up
 refine Bv (oN Zn) λo ho hc pP hnc=> ?_
 refine⟨kk.up _ _ Zy,?_⟩
 refine Ax (kk.up _ _ Zy) (ND ho hc hnc K5 (by decide+kernel) wJ (by decide+kernel) (by kernel_rfl)) PySem.F.entry_dict_get (by decide+kernel) (meets_dict_get_default knd dd (ki.is (Rd.up r2 k3.up)) nM y) ⟨_,Zn.mapOf,(k1.trans' kk).trans' (.tok ..),?_⟩
 have:=(rp.at (h':=s3.heap) λb o hb e=>⟨hb,kk.up _ _ e⟩).look (k:=x)
 cases hl:aL DD x with
 |none=>rw[this.2 hl];exact r3
 |some d'=>obtain⟨v,e,hv⟩:=this.1 d' hl;rw[e];exact hv
noncomputable def j3(led:Ga):Obj:={cls:=.type "set",dict:=none,data:=.set #[] 0 (.fresh 0 0 led)}
noncomputable def pY:dW where
 P X h v:=∃a led,v=.ref a∧a∉X∧h.get? a=some (j3 led)
 keep k:=λ⟨a,led,e,hx,ho⟩=>⟨a,led,e,hx,k _ _ hx ho⟩
 more k:=λ⟨a,led,e,hx,ho⟩=>⟨a,led,e,k _ _ hx ho,ho⟩
noncomputable def QG:dW where
 P X h v:=∃b a led,v=.ref b∧b∉X∧h.get? b=some (jX "set.__contains__" (.ref a))∧a∉X∧h.get? a=some (j3 led)
 keep k:=λ⟨b,a,led,e,hb,hbo,hx,ho⟩=>⟨b,a,led,e,hb,k _ _ hb hbo,hx,k _ _ hx ho⟩
 more k:=λ⟨b,a,led,e,hb,hbo,hx,ho⟩=>⟨b,a,led,e,k _ _ hb hbo,hbo,k _ _ hx ho,ho⟩
theorem pH{a:ia}{x:Str}{t:Tok}{led:Ga}:MeetsIn pw w (Ob.«frozenset.__contains__» ⟨[.ref a,.str x t],[]⟩) (λz_ R s=>s.heap.get? a=some (j3 led)∧R (.ok (.ret (.bool false))) {s with toks:=s.toks+1}):=by
 rintro A R s ⟨ho,h⟩
 have hS:s.heap.SetOf (strKind pw w) a (λz_=>false) 0:=(PyProof.Rows.setObjOf_fresh (knd:=strKind pw w) led).setOf ho (by unfold scanBound;exact Ae _)
 unfold Ob.«frozenset.__contains__» Ob.Frozenset.oneOther
 simp only[aa.isEmpty_nil,bind_assoc]
 unfold Ob.Frozenset.addrOf Ob.Frozenset.withSetAsKey setContains
 refine Ca (Ka ?_)
 try dsimp only
 refine Ca (Ka ?_)
 try dsimp only
 refine Ca (Jh (Jc ?_))
 refine Ca ((strKind pw w).pyHash (strKind_is pw w x t) ?_)
 refine Ca (wpAny_setFind_of (s:={s with toks:=s.toks+1}) (strKind_is pw w x t) rfl hS λr hr=>Ka ?_)
 show Ia _ _ (ret (qa.bool r.isSome)) _ _ _
 refine(hr ..).symm▸ ?_
 exact Ka h
theorem EH:builtinKind "set.__contains__"=some .method:=by decide+kernel
theorem O5:Manifest.varargsMethods.contains "set.__contains__"=false:=by decide+kernel
theorem EF(d:ia)(x:Str)(t:Tok):Bind.checkArgs "set.__contains__" {GO with full:=s!"{Bind.lastOf "set"}.{Bind.lastOf "set.__contains__"}"} ⟨.ref d::[.str x t],[]⟩=pure ():=by kernel_rfl
theorem B4:plainId "set.__contains__"=true:=by decide+kernel
theorem ao.aab{n:Str}{p pos:Pos}(hf:ao w A B env Γ Δ (.Name n p) (.val (.type "set"))):ao w A B env Γ Δ (.Call (.Name n p) [] [] pos) (.known pY):=.mk λs E S=>by
 refine Ke rfl (hf.use S λv s1 k1 S1 r1=> ?_)
 obtain rfl:v=.type "set":=r1
 refine PySem.callWith_type rfl (evalArgs_nil3 ?_)
 refine call_set_0 λled=>⟨k1.trans' (.push ..),s1.heap.objs.size,led,rfl,S1.fresh,Zb _ rfl⟩
theorem ao.contains{e:Ba}{pos:Pos}(x:ao w A B env Γ Δ e (.known pY))(hb:Aa (aO e=true) aR):ao w A B env Γ Δ (.Attribute e (ya "__contains__") pos) (.known QG):=.mk λs E S=>
 Attribute_any_ (he:=by rw[arm_eval_Attribute,bU hb]) (x.use S λv s1 k1 S1 r1=>by
  obtain⟨a,led,rfl,hx,ho⟩:=r1
  have k2:Kp s1 {s1 with heap:=s1.heap.push (jX "set.__contains__" (.ref a)),toks:=s1.toks+1}:=.oV ..
  exact Aw pA ho rfl rfl (λc q=>by cases q) ⟨k1.trans' k2,s1.heap.objs.size,a,led,rfl,S1.fresh,Zb _ rfl,hx,k2.up _ _ ho⟩)
theorem ao.JH{n:Str}{np pos:Pos}{e:Ba}{x:Str}(a:ao w A B env Γ Δ (.Name n np) (.known QG))(b:ao w A B env Γ Δ e (.str x))(hn:Aa (notStar e=true) aR):ao w A B env Γ Δ (.Call (.Name n np) [e] [] pos) (.bool false):=.mk λs E S=>by
 refine Ke rfl (a.use S λv s1 k1 S1 r1=> ?_)
 obtain⟨u,d,led,rfl,hu,Zy,hx,ho⟩:=r1
 have he:Rb [e] env=(false,eval e env)::Rb [] env:=aF _ _ _ hn
 refine oF (id:="set.__contains__") (self:=.ref d) (by rw[he];rfl) ?_
 refine(he ..).symm▸ ?_
 refine Ji (Le (b.use S1 λkv s2 k2 S2 r2=>bg ?_))
 refine r2.q8 λt=> ?_
 refine⟨k2.up _ _ Zy,?_⟩
 have ho2:s2.heap.get? d=some (j3 led):=k2.up _ _ ho
 have Pw:∀c,(j3 led).data≠ .cls c:=λc q=>by cases q
 have ck:=ND (w:=w) (T:="set") (id:="set.__contains__") (vs:=[.str x t]) ho2 rfl Pw K6 EH zP O5 (EF _ _ _)
 exact Ax (k2.up _ _ Zy) ck entry_set_contains B4 (pH (led:=led)) ⟨k2.up _ _ ho,(k1.trans' k2).trans' (.tok ..),.bool _⟩
end
end Mine
namespace Mine
open PySem PySem.W PySem.Calls PyProof.Rows PySem.SeqAt
inductive iG(X:aa ia)(h:Ja):aa qa→aa D→Prop
 |nil:iG X h [] []
 |cons {v vs d ds}:De X h v d→iG X h vs ds→iG X h (v::vs) (d::ds)
theorem iG.keep{X:aa ia}{h h':Ja}{vs ds}(k:∀b o,b∉X→h.get? b=some o→h'.get? b=some o)(a:iG X h vs ds):iG X h' vs ds:=by
 induction a with
 |nil=>exact .nil
 |cons a r ih=>exact .cons (a.keep k) ih
theorem iG.more{X Y:aa ia}{h:Ja}{vs ds}(k:∀b o,b∉X→h.get? b=some o→b∉Y)(a:iG X h vs ds):iG Y h vs ds:=by
 induction a with
 |nil=>exact .nil
 |cons a r ih=>exact .cons (a.more k) ih
@[elab_as_elim] theorem iG.uc {M:aa qa→Prop} {X:aa ia} {h:Ja} {vs:aa qa} {d:D} {ds:aa D} (r:iG X h vs (d::ds)) (k:∀v vs,De X h v d→iG X h vs ds→M (v::vs)):M vs:=by
 cases r with
 |cons a b=>exact k _ _ a b
theorem iG.up{X:aa ia}{h h':Ja}{vs:aa qa}{ds:aa D}(x:iG X h vs ds)(u:Up h h'):iG X h' vs ds:=x.keep λb o z_ e=>u b o e
theorem iG.length{X:aa ia}{h:Ja}{vs ds}(a:iG X h vs ds):vs.length=ds.length:=by
 induction a with
 |nil=>rfl
 |cons a r ih=>exact Cc (· +1) ih
noncomputable def OB(ds:aa D):dW where
 P X h v:=∃a vs,v=.ref a∧a∉X∧IsTup h a (Ih vs)∧iG X h vs ds
 keep k:=λ⟨a,vs,e,hx,⟨o,ho,r⟩,hr⟩=>⟨a,vs,e,hx,⟨o,k _ _ hx ho,r⟩,hr.keep k⟩
 more k:=λ⟨a,vs,e,hx,⟨o,ho,r⟩,hr⟩=>⟨a,vs,e,k _ _ hx ho,⟨o,ho,r⟩,hr.more k⟩
section
variable{w:Oa}{A:Xa}{B:Bx}{s s':za}{env:Env}{Γ Γ':aa (Str×D)}{Δ Δ':aa (ia×MO)}{E:qa→za→Prop}
inductive vU(w:Oa)(A:Xa)(B:Bx)(env:Env)(Γ:aa (Str×D))(Δ:aa (ia×MO)):aa Ba→aa D→Prop
 |nil:vU w A B env Γ Δ [] []
 |cons {e es d ds} (x:ao w A B env Γ Δ e d) (y:vU w A B env Γ Δ es ds) (h:Aa (notStar e=true) aR):vU w A B env Γ Δ (e::es) (d::ds)
theorem vU.run{pos:Pos}{es:aa Ba}{ds:aa D}(a:vU w A B env Γ Δ es ds):∀{s:za} {E:qa→za→Prop},Sc B env Γ Δ s→
  Ia (Md w) A (spliced (backTo pos (Rb es env))) (λvs s'=>Kp s s'∧iG (XX B.Xo env Δ) s'.heap vs ds) E s:=by
 induction a with
 |nil=>exactλS=>spliced_none ⟨.bN _,.nil⟩
 |cons x y he ih=>exactλS=>spliced_more (x.use S λv s1 k1 S1 r1=>Pa (ih S1) (λvs s2 q=>⟨k1.trans' q.1,.cons (r1.up q.1.up) q.2⟩) λz_ z_ z=>z) (aF _ _ _ he)
theorem vU.plain{pos:Pos}{es:aa Ba}{ds:aa D}(a:vU w A B env Γ Δ es ds):(backTo pos (Rb es env)).any (·.1)=false:=by
 induction a with
 |nil=>rfl
 |cons x y he ih=>rw[aF _ _ _ he];exact ih
theorem ao.Ly{es:aa Ba}{ds:aa D}{k}{pos:Pos}(x:vU w A B env Γ Δ es ds)(hz:ds.length≤Bb):ao w A B env Γ Δ (.Tuple es k pos) (.known (OB ds)):=.mk λs E S=>
 Tuple_ (Pa (x.run S) (λvs s1 q=>Ld ⟨q.1.trans' (.push ..),s1.heap.objs.size,vs,rfl,(S.upd q.1).fresh,⟨_,Zb _ rfl,rfl,_,rfl⟩,q.2.up (Kp.push ..).up⟩ (by show vs.toArray.size≤Bb;rw[Kf,q.2.length];exact hz)) λz_ z_ z=>z)
inductive jI(w:Oa)(A:Xa)(B:Bx)(env:Env)(Δ:aa (ia×MO)):aa Ba→aa D→aa (Str×D)→aa (Str×D)→Prop
 |nil {G1:aa (Str×D)}:jI w A B env Δ [] [] G1 G1
 |cons {t:Ba} {ts:aa Ba} {d:D} {ds:aa D} {G1 G2 G3:aa (Str×D)} (x:bY w A B env t d G1 G2 Δ) (y:jI w A B env Δ ts ds G2 G3) (h:Aa (notStar t=true) aR):jI w A B env Δ (t::ts) (d::ds) G1 G3
theorem jI.run{ts:aa Ba}{ds:aa D}{Γ Γ':aa (Str×D)}(a:jI w A B env Δ ts ds Γ Γ'):∀{s:za} {vs:aa qa} {Q:Unit→za→Prop},Sc B env Γ Δ s→iG (XX B.Xo env Δ) s.heap vs ds→
  (∀s',Sc B env Γ' Δ s'→KX (XX B.Xo env Δ) s s'→Q () s')→Ia (Md w) A (assignInOrder ((assignEach ts env).map (·.2)) vs) Q E s:=by
 induction a with
 |nil=>exactλ{s vs Q} S r h=>assignInOrder_nil (h s S λz_ z_ z_ e=>e)
 |cons a l hn ih=>
  intro s vs Q S r h
  rw[bM _ _ _ hn]
  exact r.uc λv vs r1 r2=>assignInOrder_cons (a.go s _ _ _ S r1 λs1 S1 k1=>ih S1 (r2.keep k1) λs2 S2 k2=>h s2 S2 (k1.trans k2))
theorem jI.length{ts:aa Ba}{ds:aa D}{Γ Γ':aa (Str×D)}(h:jI w A B env Δ ts ds Γ Γ'):(assignEach ts env).length=ds.length:=by
 induction h with
 |nil=>rfl
 |cons a l hn ih=>rw[bM _ _ _ hn];simp[ih]
theorem jI.noStar{ts:aa Ba}{ds:aa D}{Γ Γ':aa (Str×D)}(h:jI w A B env Δ ts ds Γ Γ'):(assignEach ts env).findIdx? (·.1)=none:=by
 induction h with
 |nil=>rfl
 |cons a l hn ih=>rw[bM _ _ _ hn,aa.findIdx?_cons];simp[ih]
theorem bY.Ly{ts:aa Ba}{k}{p:Pos}{ds:aa D}(hh:A.handled=none)(l:jI w A B env Δ ts ds Γ Γ'):bY w A B env (.Tuple ts k p) (.known (OB ds)) Γ Γ' Δ:=.mk λs E v Q S r h=>by
 obtain⟨t,vs,rfl,ht,hl,hr⟩:=r
 refine assign_Tuple_tuple hh hl (by rw[l.length];simp[hr.length]) l.noStar λh' he=> ?_
 have k:Kp s {s with heap:=h'}:=⟨h',s.toks,rfl,λb o e=>he b o (se (Ub e)) e⟩
 exact l.run (S.upd k) (by simpa using hr.up k.up) λs' S' k'=>h s' S' (k.kx.trans k')
theorem CQ{ts:aa Ba}{k}{tp pos:Pos}{value:Ba}{ds:aa D}{rest:aa Va}{Q:Flow→za→Prop}(hh:A.handled=none)(S:Sc B env Γ Δ s)(y:ao w A B env Γ Δ value (.known (OB ds)))(l:jI w A B env Δ ts ds Γ Γ')
  (h:∀s',Sc B env Γ' Δ s'→Ex w A env rest Q E s')
  (hs:Aa (cR value=true) aR)(hw:Aa (swappedStores [.Tuple ts k tp] value env=pure none) aR):Ex w A env (.Assign [.Tuple ts k tp] value pos::rest) Q E s:=
 ⟨Kc (Assign_Tuple (y.use S λv s1 k1 S1 r1=>(bY.Ly hh l).go s1 E v _ S1 r1 λs' S' z_=>(h s' S').run) (g4 hs) hw)⟩
theorem ao.imp{e:Ba}{d d':D}(x:ao w A B env Γ Δ e d)(f:∀X h v,De X h v d→De X h v d'):ao w A B env Γ Δ e d':=.mk λs E S=>x.use S λv s1 k1 S1 r1=>⟨k1,f _ _ _ r1⟩
structure yz(w:Oa)(A:Xa)(B:Bx)(env:Env)(Γ:aa (Str×D))(Δ:aa (ia×MO))(e:Ba)(R:D→aa (ia×MO)→Prop):Prop where
 go:∀(s:za) (E:qa→za→Prop),Sc B env Γ Δ s→Ia (Md w) A (eval e env) (λv s'=>Kp s s'∧∃d N,R d N∧Sc B env Γ (N++Δ) s'∧De (XX B.Xo env (N++Δ)) s'.heap v d) E s
inductive o9:aa (D→aa (ia×MO)→Prop)→aa D→aa (ia×MO)→Prop
 |nil:o9 [] [] []
 |cons {R Rs d ds N1 N2}:R d N1→o9 Rs ds N2→o9 (R::Rs) (d::ds) (N2++N1)
inductive BA(w:Oa)(A:Xa)(B:Bx)(env:Env)(Γ:aa (Str×D)):aa Ba→aa (D→aa (ia×MO)→Prop)→Prop
 |nil:BA w A B env Γ [] []
 |cons {e es R Rs} (x:∀Φ Δ,yz w A ⟨B.s0,B.Xo,Φ⟩ env Γ Δ e R) (y:BA w A B env Γ es Rs) (h:Aa (notStar e=true) aR):BA w A B env Γ (e::es) (R::Rs)
theorem BA.run{pos:Pos}{es:aa Ba}{Rs:aa (D→aa (ia×MO)→Prop)}(a:BA w A B env Γ es Rs):∀{s:za} {E:qa→za→Prop} {Φ:aa (qa×D)} {Δ:aa (ia×MO)},Sc ⟨B.s0,B.Xo,Φ⟩ env Γ Δ s→
  Ia (Md w) A (spliced (backTo pos (Rb es env))) (λvs s'=>∃ds N,o9 Rs ds N∧Kp s s'∧Sc ⟨B.s0,B.Xo,Φ⟩ env Γ (N++Δ) s'∧iG (XX B.Xo env (N++Δ)) s'.heap vs ds) E s:=by
 induction a with
 |nil=>exactλS=>spliced_none ⟨[],[],.nil,.bN _,S,.nil⟩
 |cons x y he ih=>
  intro s E Φ Δ S
  refine spliced_more (Pa ((x Φ Δ).go s E S) (λv s1 q=> ?_) λz_ z_ z=>z) (aF _ _ _ he)
  obtain⟨k1,d,N1,r1,S1,rd⟩:=q
  refine Pa (ih (S1.ghost rd)) (λvs s2 q=> ?_) λz_ z_ z=>z
  refine vO q λds N2 r2 k2 S2 rds=> ?_
  have gv:De (XX B.Xo env (N2++(N1++Δ))) s2.heap v d:=S2.fB (v:=v) (d:=d) La
  rw[←We]at S2 rds gv
  exact⟨d::ds,N2++N1,.cons r1 r2,k1.trans' k2,S2.Bp,.cons gv rds⟩
theorem yz.of{e:Ba}{d:D}(x:ao w A B env Γ Δ e d):yz w A B env Γ Δ e (λd' N=>d'=d∧N=[]):=.mk λs E S=>x.use S λv s1 k1 S1 r1=>⟨k1,d,[],⟨rfl,rfl⟩,S1,r1⟩
theorem CR{ts es:aa Ba}{k k'}{tp ep pos:Pos}{Rs:aa (D→aa (ia×MO)→Prop)}{rest:aa Va}{Q:Flow→za→Prop}(hh:A.handled=none)(S:Sc B env Γ Δ s)(y:BA w A B env Γ es Rs)(hz:es.length≤Bb)(hl:es.length=Rs.length)
  (h:∀s' ds N,o9 Rs ds N→Sc B env Γ (N++Δ) s'→∃Γ',jI w A B env (N++Δ) ts ds Γ Γ'∧∀mT,Sc B env Γ' (N++Δ) mT→Ex w A env rest Q E mT)
  (hw:Aa (swappedStores [.Tuple ts k tp] (.Tuple es k' ep) env=pure none) aR):Ex w A env (.Assign [.Tuple ts k tp] (.Tuple es k' ep) pos::rest) Q E s:=by
 have al:∀{Rs:aa (D→aa (ia×MO)→Prop)} {ds N},o9 Rs ds N→ds.length=Rs.length:=λa=>by induction a with|nil=>rfl|cons _ _ ih=>simp[ih]
 refine⟨Kc (Assign_Tuple (Tuple_ (Pa (y.run (Φ:=B.Φ) S) (λvs s1 q=> ?_) λz_ z_ z=>z)) (g4 rfl) hw)⟩
 refine vO q λds N ar k1 S1 rd=> ?_
 refine Ld ?_ (by show vs.toArray.size≤Bb;rw[Kf,rd.length,al ar,←hl];exact hz)
 have S2:Sc B env Γ (N++Δ) _:=S1.upd (.push s1 {cls:=.type "tuple",data:=.seq vs.toArray})
 refine bE (h _ ds N ar S2) λΓ' l hr=> ?_
 refine(bY.Ly hh l).go _ E _ _ S2 ⟨s1.heap.objs.size,vs,rfl,S1.fresh,⟨_,Zb _ rfl,rfl,_,rfl⟩,rd.up (Kp.push ..).up⟩ λs' S' z_=>(hr s' S').run
variable{Γ1 Γ2:aa (Str×D)}{Δ1 Δ2:aa (ia×MO)}{aG:ia→qa}{d0:qa}{C:ia}
structure i9(w:Oa)(A:Xa)(B:Bx)(env:Env)(tgt:Ba)(d:D)(Γ Γ':aa (Str×D))(Δ Δ':aa (ia×MO)):Prop where
 go:∀(s:za) (E:qa→za→Prop) (v:qa) (Q:Unit→za→Prop),Sc B env Γ Δ s→De (XX B.Xo env Δ) s.heap v d→(∀s',Sc B env Γ' Δ' s'→De (XX B.Xo env Δ') s'.heap v d→Q () s')→Ia (Md w) A (assign tgt env v) Q E s
theorem bY.x{tgt:Ba}{d:D}(a:bY w A B env tgt d Γ Γ' Δ):i9 w A B env tgt d Γ Γ' Δ Δ:=.mk λs E v Q S r h=>a.go s E v Q S r λs' S' k=>h s' S' (r.keep k)
theorem i9.attr{n attr:Str}{np pos:Pos}{dx:ia}{l l':aa (Str×D)}{k:Nat}{d:D}(hx:ao w A B env Γ Δ (.Name n np) (.known (fO C dx)))(G:aW w aG d0 B.s0.heap)(ok:fD (KK w aG d0) C)(o:bw dx (.attrs l k) (.attrs l' (k+1)) Δ Δ')(p:pX attr d l l')(hk:k≤1000)
  (ht:Aa (takerIn (KK w aG d0) C attr=some none) aK):i9 w A B env (.Attribute (.Name n np) attr pos) d Γ Γ Δ Δ':=.mk λs E v Q S r h=>by
 refine(assign_Attribute ..).symm▸ ?_
 refine Ca (Jc (hx.use S λu s2 k2 S2 r2=>Ca (Ed ?_)))
 obtain⟨x,rfl,hx,hg⟩:=r2
 have ex:XX B.Xo env Δ'=XX B.Xo env Δ:=XX.same o.names
 refine Ca (Jc ?_)
 refine bE (S2.get_own o.mem) λmm hn hh=> ?_
 have r2:=r.up k2.up
 refine xq (S2.g8 G) ok hg hn hk (λh' tk Jy hs=>wpAny_release ?_) ht
 have kk:∀b o',b∉XX B.Xo env Δ→s2.heap.get? b=some o'→h'.get? b=some o':=λb ob hb e=>(hs.2 b λq=>hb (by rw[q];exact XX.own o.mem)).trans e
 exact h _ (S2.set_own o (λb ob hb e=>(hs.2 b hb).trans e) ⟨_,Jy,(p.put hh r2).keep kk⟩) (ex▸r2.keep kk)
theorem eZ{t1 t2 value:Ba}{pos:Pos}{d:D}{rest:aa Va}{Q:Flow→za→Prop}(S:Sc B env Γ Δ s)(e:ao w A B env Γ Δ value d)(a1:i9 w A B env t1 d Γ Γ1 Δ Δ1)(a2:i9 w A B env t2 d Γ1 Γ2 Δ1 Δ2)(h:∀s',Sc B env Γ2 Δ2 s'→Ex w A env rest Q E s')
  (h1:Aa (notStar t1=true) aR)(h2:Aa (notStar t2=true) aR)(hw:Aa (swappedStores [t1,t2] value env=pure none) aR):Ex w A env (.Assign [t1,t2] value pos::rest) Q E s:=
 ⟨Kc (wpAny_Assign_two (e.use S λv s1 k1 S1 r1=>a1.go s1 E v _ S1 r1 λs2 S2 r2=>a2.go s2 E v _ S2 r2 λs3 S3 z_=>(h s3 S3).run) (by rw[bM _ _ _ h1,bM _ _ _ h2];rfl) hw)⟩
structure QT(w:Oa)(A:Xa)(B:Bx)(env:Env)(Γ:aa (Str×D))(Δ:aa (ia×MO))(e:Ba)(m:MO):Prop where
 go:∀(s:za) (E:qa→za→Prop),Sc B env Γ Δ s→Ia (Md w) A (eval e env) (λv s'=>Kp s s'∧∃a,v=.ref a∧fT B env Δ s a∧(a==sysModules)=false∧∀X,m.At X s'.heap a) E s
theorem QT.dict{K:Type}[Ec K](knd:KeyKind pw w K)(G:aW w aG d0 B.s0.heap){p:Pos}:QT w A B env Γ Δ (.Dict [] [] p) (.own (jK knd [])):=.mk λs E S=>wpAny_Dict_empty (by
 have o1:(s.heap.push {cls:=.type "dict",data:=.dict #[]}).DictOf knd s.heap.objs.size []:=⟨_,#[],0,Zb _ rfl,⟨rfl,rfl,rfl⟩,rfl,λz_ he=>by simp at he,.nil,yh⟩
 refine bE (Pe.mp o1) λo ho hd=> ?_
 exact⟨.push ..,_,rfl,S.next,(S.g8 G).Lr,λX=>⟨o,ho,hd⟩⟩)
theorem xU{t1 t2 value:Ba}{pos:Pos}{m:MO}{rest:aa Va}{Q:Flow→za→Prop}{Γ1 Γ2:ia→aa (Str×D)}{Δ1 Δ2:ia→aa (ia×MO)}(S:Sc B env Γ Δ s)(e:QT w A B env Γ Δ value m)
  (a1:∀a,i9 w A B env t1 (.val (.ref a)) Γ (Γ1 a) ((a,m)::Δ) (Δ1 a))(a2:∀a,i9 w A B env t2 (.val (.ref a)) (Γ1 a) (Γ2 a) (Δ1 a) (Δ2 a))(h:∀a s',(a==sysModules)=false→Sc B env (Γ2 a) (Δ2 a) s'→Ex w A env rest Q E s')
  (h1:Aa (notStar t1=true) aR)(h2:Aa (notStar t2=true) aR)(hw:Aa (swappedStores [t1,t2] value env=pure none) aR):Ex w A env (.Assign [t1,t2] value pos::rest) Q E s:=
 ⟨Kc (wpAny_Assign_two (Pa (e.go s E S) (λv s1 q=>by
  obtain⟨k1,a,rfl,hf,nM,hm⟩:=q
  have S1:=S.take k1 (a:=a) (m:=m) hf (hm _)
  exact(a1 a).go s1 E _ _ S1 rfl λs2 S2 r2=>(a2 a).go s2 E _ _ S2 r2 λs3 S3 z_=>(h a s3 nM S3).run) λz_ z_ z=>z) (by rw[bM _ _ _ h1,bM _ _ _ h2];rfl) hw)⟩
theorem kT.AS{o:Ba}{name:Str}{apos pos:Pos}{args:aa Ba}{ds:aa PyData}{d:D}{f l dx:ia}{at':aa (Str×D)}{kk:Nat}{m m':MO}(x:ao w A B env Γ Δ o (.known (fO C dx)))(su:(dx,MO.attrs at' kk)∈Δ)(G:aW w aG d0 B.s0.heap)(ok:fD (KK w aG d0) C)
  (xs:k9 w A B env Γ Δ args ds)(own:bw l m m' Δ Δ')
  (hc:∀v vs s E,Sc B env Γ Δ s→De (XX B.Xo env Δ) s.heap v (.known (fO C dx))→aD (XX B.Xo env Δ) s.heap vs ds→Ia (Md w) A (Ic (.ref f) (v::vs)) (λv s'=>Kp (blank l s) s'∧m'.At (XX B.Xo env Δ) s'.heap l∧De (XX B.Xo env Δ) s'.heap v d) E s)
  (Zx:Aa (at'.any (λp=>p.1==name)=false) aK)(hf:Aa (findIn (KK w aG d0) (.ref C) name=some (some (.ref f))) aK)(ht:Aa (typeIn (KK w aG d0) (.ref f)=some (.type "function")) aK)(Js:Aa (O0 (KK w aG d0) f=true) aK)
  (hb:Aa (aO o=true) aR)(hn:Aa (zd args.length 29=true) aR)(hl:Aa ((apos.endLine==pos.line)=true) aR):kT w A B env Γ Δ (.Call (.Attribute o name apos) args [] pos) d Δ':=.mk λs E S=>
 mU xs (x.use S λv s1 k1 S1 r1 pl=>by
  obtain⟨x,rfl,hx,hg⟩:=id r1
  refine bE (S1.get_own su) λmm yF hh=> ?_
  have hm:mm name=none:=hh.off name λhm=>by
   refine bE (Ra.mp hm) λp hp q=> ?_
   have:=Xh.mp Zx p hp
   exact this (by simpa using q)
  refine kG (S1.g8 G) ok hg yF.ns hm ?_ hf ht
  refine lK (nH G Js) λob fd ho hd=> ?_
  refine uh (o:=ob) (fd:=fd) (Pa (xs.args S1) (λa s2 q=> ?_) λz_ z_ z=>z)
  obtain⟨vs,kw⟩:=a
  refine yI q λq0 q1 q2=> ?_
  dsimp only at q0 q2
  subst q0
  refine⟨⟨(S1.upd q1).kp.up _ _ ho,hd⟩,?_⟩
  refine Pa (hc (.ref x) vs s2 E (S1.upd q1) (r1.up q1.up) q2) (λv s3 q3=> ?_) λz_ z_ z=>z
  have ex:XX B.Xo env Δ'=XX B.Xo env Δ:=XX.same own.names
  exact⟨(S1.upd q1).back own q3.1 q3.2.1,ex▸q3.2.2⟩) hb hn hl
theorem Sc.Kv(S:Sc B env Γ Δ s){a:ia}{m m':MO}(o:bw a m m' Δ Δ')(h:m'.At (XX B.Xo env Δ) s.heap a):Sc B env Γ Δ' s:=S.set_own (tk:=s.toks) (h':=s.heap) o (λz_ z_ z_ e=>e) h
theorem CP{K:Type}[Ec K]{knd:KeyKind pw w K}{enc:K→PyData}{x:Str}{o e:Ba}{lp apos YB pos' pos:Pos}{d:ia}{kvs:aa (K×qa)}{k:K}{rest:aa Va}{Q:Flow→za→Prop}{Γf:qa→aa (Str×D)}{Δf:qa→aa (ia×MO)}(ki:iu knd enc)(nM:(d==sysModules)=false)(S:Sc B env Γ Δ s)
  (eo:ao w A B env Γ Δ o (.val (.ref d)))(ee:ao w A B env Γ Δ e (.dat (enc k)))(hm:(d,MO.own (jK knd kvs))∈Δ)(hz:kvs.length≤Bb)(K':cG B env x)(t:∀v,aX x (.val v) Γ (Γf v))(ow:∀v,bw d (.own (jK knd kvs)) (.own (jK knd (stored kvs k v))) Δ (Δf v))
  (h1:∀v s',valueAt kvs k=some v→Sc B env (Γf v) Δ s'→Ex w A env rest Q E s')(h2:∀L s',valueAt kvs k=none→Sc B env (Γf (.ref L)) ((L,.list [])::Δf (.ref L)) s'→Ex w A env rest Q E s')
  (hb:Aa (aO o=true) aR)(hn:Aa (notStar e=true) aR)(hl:Aa ((apos.endLine==YB.line)=true) aR)(hk:Aa (env.scope.kind=.function) aK):
  Ex w A env (.Assign [.Name x pos'] (.Call (.Attribute o (ya "setdefault") apos) [e,.List [] lp] [] YB) pos::rest) Q E s:=by
 refine⟨Kc (vh (Call_method2 (bU hb) (by rw[aF _ _ _ hn,aF _ _ _ rfl];rfl) hl (eo.use S λv s1 k1 S1 r1=> ?_)) (dH rfl))⟩
 obtain rfl:v=.ref d:=r1
 refine bE (S1.get_own hm) λob HM Zo=> ?_
 have O9:s1.heap.DictOf knd d kvs:=Pe.mpr ⟨ob,HM,Zo⟩
 refine⟨"dict",_,mj,PySem.F.slot_dict_setdefault,PySem.F.type_dict_setdefault,O9.typeIs,O9.mapOf.noDict,method2_meetsIn PySem.F.slot_dict_setdefault PySem.F.entry_dict_setdefault (ee.use S1 λu s2 k2 S2 r2=>Pa (z5.nil.go s2 E S2) (λy s3 q=> ?_) λz_ z_ z=>z)⟩
 obtain⟨k3,L,vs,rfl,hf,hL,hr,_⟩:=q
 have ZD:vs=[]:=by cases hr;rfl
 subst ZD
 have S3:=S2.upd k3
 refine bE (S3.get_own hm) λob HM Zo=> ?_
 have Zn:s3.heap.DictOf knd d kvs:=Pe.mpr ⟨ob,HM,Zo⟩
 refine⟨Zn.typeIs,PySem.F.args_dict_setdefault_3 _ _ _,_,kt_meets_setdefault knd d (ki.is (Rd.up r2 k3.up)) nM (.ref L),kvs,Zn,hz,λv hv=> ?_,λhv h' lC AI=> ?_⟩
 ·exact(S3.upd (.tok s3 _)).store (t v) K' (show De _ _ _ (.val _)from rfl) (λs' S' z_=>(h1 v s' hv S').run) hk
 ·refine bE (Pe.mp lC) λo' nL y9=> ?_
  have S4:=S2.take k3 (a:=L) (m:=.list []) hf ⟨[],hL,.nil⟩
  have AI:ve d s3.heap h':=AI
  have S5:=S4.set_own (tk:=s3.toks+1) (h':=h') (.there (ow (.ref L))) (λb o hb e=>(AI.2 b hb).trans e) ⟨o',nL,y9⟩
  exact S5.store (t _) K' (show De _ _ _ (.val _)from rfl) (λs' S' z_=>(h2 L s' hv S').run) hk
noncomputable abbrev sC:ia:=259
noncomputable abbrev Cs:=aa (Str×ia×aa Int)
noncomputable def nN(cs:Cs):aa (Str×qa):=cs.map λc=>(c.1,.ref c.2.1)
noncomputable def Dm(cs:Cs):aa (ia×MO):=cs.map λc=>(c.2.1,.list (c.2.2.map .int))
noncomputable def sQ(cs:Cs):aa (Str×aa Int):=cs.map λc=>(c.1,c.2.2)
noncomputable def fP(c:aa (Str×aa Int))(p:Int×Str):aa (Str×aa Int):=match aL c p.2 with|some l=>aQ c p.2 (l++[p.1])|none=>aQ c p.2 [p.1]
noncomputable def iC(bs:aa Str)(i:Nat):aa (Str×aa Int):=((Sa i).map λ(k:Nat)=>((k:Int),bs.getD k ⟨#[]⟩)).foldl fP []
theorem jD(bs:aa Str)(i:Nat):iC bs (i+1)=fP (iC bs i) (i,bs.getD i ⟨#[]⟩):=by
 unfold iC;rw[kg,Mc,xe];rfl
theorem vZ{c:aa (Str×aa Int)}{k:Str}{i:Int}{l:aa Int}(h:aL c k=some l):fP c (i,k)=aQ c k (l++[i]):=by unfold fP;rw[show aL c (i,k).2=some l from h]
theorem vY{c:aa (Str×aa Int)}{k:Str}{i:Int}(h:aL c k=none):fP c (i,k)=aQ c k [i]:=by unfold fP;rw[show aL c (i,k).2=none from h]
theorem xG{β:Type}(k:Str)(v:β):∀(l:aa (Str×β)),k∉l.map (·.1)→l.map (λp=>if p.1=k then(p.1,v)else p)=l
 |[],_=>rfl
 |p::l,h=>by
  simp only[Ib,Za,not_or]at h
  rw[Ib,if_neg (λe=>h.1 e.symm),xG k v l h.2]
theorem ou{β:Type}{k:Str}{l:aa (Str×β)}(h:k∉l.map (·.1)):(l.any λp=>decide (p.1=k))=false:=by
 rw[Xh]
 intro p hp q
 exact h (Ra.mpr ⟨p,hp,by simpa using q⟩)
theorem IQ{k:Str}{i:Int}(cs:Cs):(cs.map (·.1)).Nodup→∀v,valueAt (nN cs) k=some v→∃a l sq,v=.ref a∧aL (sQ cs) k=some l∧bw a (.list (l.map .int)) (.list ((l++[i]).map .int)) (Dm cs) (Dm sq)∧
  sQ sq=aQ (sQ cs) k (l++[i])∧nN sq=nN cs∧sq.map (·.1)=cs.map (·.1):=by
 induction cs with
 |nil=>exactλz_ v h=>(nomatch h)
 |cons q cs ih=>
  obtain⟨x,a,l⟩:=q
  intro hn v h
  have hn:=Pd.mp hn
  by_cases e:x=k
  ·subst e
   refine⟨a,l,(x,a,l++[i])::cs,(Oe ((o8 x (.ref a) (nN cs)).symm.trans h)).symm,gG ..,.here,?_,rfl,rfl⟩
   have hm:x∉(sQ cs).map (·.1):=by unfold sQ;rw[Eb];exact hn.1
   show(x,l++[i])::sQ cs=aQ ((x,l)::sQ cs) x (l++[i])
   unfold aQ
   rw[if_pos (by simp),Ib,if_pos rfl,xG x _ _ hm]
  ·obtain⟨b,l',sq,rfl,h1,h2,h3,h4,h5⟩:=ih hn.2 v ((mK e ..).symm.trans h)
   refine⟨b,l',(x,a,l)::sq,rfl,(gQ e ..).trans h1,.there h2,?_,Cc ((x,qa.ref a):: ·) h4,Cc (x:: ·) h5⟩
   show(x,l)::sQ sq=aQ ((x,l)::sQ cs) k (l'++[i])
   rw[h3]
   unfold aQ
   rw[Ni,show decide ((x,l).1=k)=false from Wg e,Ga.false_or,Ib,if_neg e]
   split<;> rfl
theorem OQ{k:Str}{L:ia}{i:Int}{cs:Cs}(h:valueAt (nN cs) k=none):aL (sQ cs) k=none∧stored (nN cs) k (.ref L)=nN (cs++[(k,L,[i])])∧sQ (cs++[(k,L,[i])])=aQ (sQ cs) k [i]:=by
 have hm:k∉cs.map (·.1):=λq=>by
  obtain⟨c,hc,rfl⟩:=Ra.mp q
  have:(nN cs).find? (λkv=>decide (kv.1=c.1))≠none:=by
   intro q
   have:=Kg.mp q (c.1,.ref c.2.1) (Ra.mpr ⟨c,hc,rfl⟩)
   simp at this
  unfold valueAt at h
  exact this (by simpa using h)
 have m1:k∉(nN cs).map (·.1):=by unfold nN;rw[Eb];exact hm
 have m2:k∉(sQ cs).map (·.1):=by unfold sQ;rw[Eb];exact hm
 refine⟨?_,?_,?_⟩
 ·unfold aL
  rw[Kg.mpr λp hp q=>m2 (Ra.mpr ⟨p,hp,by simpa using q⟩)];rfl
 ·unfold stored
  refine(ou m1 ..).symm▸ ?_
  simp[nN]
 ·unfold aQ
  refine(ou m2 ..).symm▸ ?_
  simp[sQ]
theorem Cp{K:Type}[Ec K]{β:Type}(k k':K)(v:β)(c:aa (K×β)):aL (c.map λp=>if p.1=k then(p.1,v)else p) k'=if k'=k then(aL c k').map λz_=>v else aL c k':=by
 induction c with
 |nil=>split<;> rfl
 |cons p c ih=>
  obtain⟨x,y⟩:=p
  show aL ((if x=k then(x,v)else(x,y))::_) k'=_
  by_cases e:x=k'
  ·subst e
   by_cases q:x=k
   ·rw[if_pos q,if_pos q,gG,gG];rfl
   ·rw[if_neg q,if_neg q,gG,gG]
  ·rw[gQ e y c,←ih]
   by_cases q:x=k
   ·rw[if_pos q,gQ e]
   ·rw[if_neg q,gQ e]
theorem cF{K:Type}[Ec K]{β:Type}(k k':K)(v:β)(c:aa (K×β)):aL (aQ c k v) k'=if k'=k then some v else aL c k':=by
 unfold aQ
 by_cases ha:(c.any λp=>decide (p.1=k))=true
 ·rw[if_pos ha,Cp]
  by_cases e:k'=k
  ·rw[if_pos e,if_pos e]
   obtain⟨z,hz⟩:=Zf.mp (aa.find?_isSome.mpr (jg.mp (e▸ha)))
   unfold aL;rw[hz];rfl
  ·rw[if_neg e,if_neg e]
 ·rw[if_neg ha]
  unfold aL
  rw[Vi]
  by_cases e:k'=k
  ·rw[if_pos e,Kg.mpr λp hp q=>ha (jg.mpr ⟨p,hp,e▸q⟩)];subst e;simp
  ·rw[if_neg e,show[(k,v)].find? (λp=>decide (p.1=k'))=none by simp[Bf e],Ma.or_none]
set_option tactic.hygienic true in
theorem tU(bs:aa Str)(i:Nat):∀(k:Str) (l:aa Int),aL (iC bs i) k=some l→l.length≤i:=by
 induction i with
 |zero=>exactλk l h=>(nomatch h)
 |succ i ih=>
  intro k l h
  rw[jD]at h
  unfold fP at h
  split at h
  ·rename_i l' h'
   rw[cF]at h
   split at h
   ·cases h
    rw[Dd];exact Wi (ih _ _ h')
   ·exact Gh (ih _ _ h)
  ·rw[cF]at h
   split at h
   ·cases h;exact Wi (Uc _)
   ·exact Gh (ih _ _ h)
noncomputable abbrev zH(bs:aa Str):aa (Str×PyData):=jz (λl:aa Int=>PyData.list (l.map .int)) (iC bs bs.length)
noncomputable def QM(name qual:Yb)(j:Nat)(dft dV:qa)(c:ia):Vc:=fnOf (ya name) (ya qual) (CC (mt 6 j)) (aN (mt 6 j)) (CH (mt 6 j)) dft (.none) dV (.str (ya "cpy313.difflib") 289) none (.ref c) (.none)
theorem II:aN (mt 6 5)=[aC (aN (mt 6 5)) 0,aC (aN (mt 6 5)) 1,aC (aN (mt 6 5)) 2,aC (aN (mt 6 5)) 3,aC (aN (mt 6 5)) 4,aC (aN (mt 6 5)) 5,aC (aN (mt 6 5)) 6,aC (aN (mt 6 5)) 7,aC (aN (mt 6 5)) 8]:=by kernel_rfl
theorem OM:fb (aC (aN (mt 6 5)) 2)=[aC (fb (aC (aN (mt 6 5)) 2)) 0,aC (fb (aC (aN (mt 6 5)) 2)) 1]:=by kernel_rfl
theorem BR{cs:Cs}{d:ia}{rest:aa (ia×MO)}(S:Sc B env Γ (rest++(d,.own (jK (strKind pw w) (nN cs)))::Dm cs) s)(nM:(d==sysModules)=false):
  De (XX B.Xo env rest) s.heap (.ref d) (.known (cC (strKind pw w) (jz (λl:aa Int=>PyData.list (l.map .int)) (sQ cs)))):=by
 have S1:Sc B env Γ rest s:=Sc.drops (Is:=(d,.own (jK (strKind pw w) (nN cs)))::Dm cs) (S.perm Yi)
 have out:∀p∈(d,MO.own (jK (strKind pw w) (nN cs)))::Dm cs,p.1∉XX B.Xo env rest:=λp hp hx=>by
  have own:=S.own p (Nc _ hp)
  rcases XX.cases hx with h|h|⟨y,h⟩|⟨m',h⟩
  ·exact own.2.2.1.2 h
  ·exact own.1 h
  ·exact own.2.1 y _ h rfl
  ·have:=S.dn
   rw[Mc]at this
   exact(Ze.mp this).2.2 p.1 (Ra.mpr ⟨_,h,rfl⟩) p.1 (jd (f:=(·.1)) hp) rfl
 obtain⟨ob,HM,Zo⟩:=S.get_own (p:=(d,MO.own (jK (strKind pw w) (nN cs)))) (Nc _ La)
 refine⟨d,nN cs,rfl,out _ La,nM,Pe.mpr ⟨ob,HM,Zo⟩,?_,?_⟩
 ·unfold nN jz sQ;simp
 ·have g:∀(l:Cs),(∀c∈l,c∈cs)→aD (XX B.Xo env rest) s.heap ((nN l).map (·.2)) ((jz (λl:aa Int=>PyData.list (l.map .int)) (sQ l)).map (·.2)):=by
   intro l
   induction l with
   |nil=>intro _;exact .nil
   |cons c l ih=>
    intro hl
    have hc:=hl c La
    have jS:(c.2.1,MO.list (c.2.2.map .int))∈Dm cs:=Ra.mpr ⟨c,hc,rfl⟩
    refine bE (S.mw (Nc _ (Wa _ jS))) λvs hL hr=> ?_
    exact .cons (Rd.listAt (out _ (Wa _ jS)) hL (hr.flat (tu _))) (ih λc hc=>hl c (Wa _ hc))
  exact g cs λz_ h=>h
theorem HD.set:HD (.known pY):=λX h v x=>by obtain⟨a,led,rfl,_⟩:=x;rfl
theorem HD.dict{w:Oa}{K:Type}[Ec K]{knd:KeyKind pw w K}{DD:aa (K×PyData)}:HD (.known (cC knd DD)):=λX h v x=>by obtain⟨d,kvs,rfl,_⟩:=x;rfl
noncomputable abbrev nm(x:Yb):Str:=ya x
noncomputable abbrev cK(l:aa Str):D:=.list (l.map .str)
noncomputable abbrev OH(as bs:aa Str):aa (Str×D):=[(nm "fullbcount",.dat .none),(nm "opcodes",.dat .none),(nm "matching_blocks",.dat .none),(nm "autojunk",.bool true),(nm "b",cK bs),(nm "a",cK as),(nm "isjunk",.dat .none)]
noncomputable abbrev atJ(w:Oa)(as bs:aa Str):aa (Str×D):=(nm "b2j",.known (cC (strKind pw w) (zH bs)))::OH as bs
noncomputable abbrev IB(w:Oa)(as bs:aa Str):aa (Str×D):=(nm "bpopular",.known pY)::(nm "bjunk",.known pY)::atJ w as bs
noncomputable def cbI(w:Oa)(as bs:aa Str)(dx d:ia)(i:Nat)(Γ':aa (Str×D))(Δ':aa (ia×MO)):Prop:=
 ∃cs:Cs,sQ cs=iC bs i∧(∃d1 d2 d3,Γ'=[(nm "self",.known (fO sC dx)),(nm "b",cK bs),(nm "b2j",.val (.ref d)),(nm "i",d1),(nm "elt",d2),(nm "indices",d3),(nm "junk",.un),(nm "isjunk",.un),(nm "popular",.un),(nm "n",.un)])∧
  Δ'=(dx,.attrs ((nm "b2j",.val (.ref d))::OH as bs) 12)::(d,.own (jK (strKind pw w) (nN cs)))::Dm cs
variable{X:aa ia}
theorem IJ{v:qa}{dx:ia}{as bs:aa Str}{k:Nat}(ac:Ac A (k+1))(G:aW w aG d0 s.heap)(Gb:aW w aG d0 (blank dx s).heap)(hX:∀a∈X,a<s.heap.objs.size)(hl:dx∈X)(hm:(MO.attrs (OH as bs) 11).At X s.heap dx)(hv:De X s.heap v (.known (fO sC dx)))(hz:bs.length≤100):
  Ia (Md w) A (Ic (.ref 205) [v] []) (λu s'=>Kp (blank dx s) s'∧(MO.attrs (IB w as bs) 14).At X s'.heap dx∧De X s'.heap u (.dat .none)) E s:=by
 refine iO (fd:=QM "__chain_b" "SequenceMatcher.__chain_b" 5 .none (aG 205) 204) (body:=aN (mt 6 5)) (Γa:=[(nm "self",.known (fO sC dx))])
  (Γ0:=[(nm "self",.known (fO sC dx)),(nm "b",.un),(nm "b2j",.un),(nm "i",.un),(nm "elt",.un),(nm "indices",.un),(nm "junk",.un),(nm "isjunk",.un),(nm "popular",.un),(nm "n",.un)])
  ac G.ru (G.kf _ _ (by kernel_rfl)) (Wc G.ko (by kernel_rfl)) rfl (binds:=[(nm "self",v)]) (je (by kernel_rfl)) hX hl hm (.cons hv .nil) (d9.mem (.cons m0 (.un (.un (.un (.un (.un (.un (.un (.un (.un .nil))))))))))) λB A' L R s1 E' hB hL S eO fin=> ?_
 have G1:aW w aG d0 B.s0.heap:=hB▸Gb
 have ok:=gr w aG d0
 refine Ex.of II ?_
 refine aI (d:=cK bs) S (ao.attrL (ao.name m0) m0 G1 ok m4 .dat) BH (keep hL) λs2 S2=> ?_
 refine xU S2 (QT.dict (strKind pw w) G1) (λa=>i9.attr (ao.name m0) G1 ok (.there .here) .new (by exact Mb rfl)) (λa=>bY.x (bY.name at2 (keep hL))) λd s3 nM S3=> ?_
 have Q0:=S3.perm (aa.Perm.swap _ _ _)
 refine mG Q0 (C5.enumerate eO.hh (ao.bG G1 (by kernel_rfl) (by kernel_rfl) rfl rfl (by kernel_rfl)) (ao.name m1)) (cbI w as bs dx d) ⟨[],rfl,⟨_,_,_,rfl⟩,rfl⟩ ?_ ?_
 ·rintro B' i dd Is Γ1 Δ1 yD hd ⟨cs,EK,⟨d1,d2,d3,rfl⟩,rfl⟩
  have pC:B'.s0.heap.objs.size≤L:=yD▸hL
  rw[aa.getElem?_mapIdx,Ab]at hd
  obtain⟨y,hy,rfl⟩:=fc.mp hd
  obtain⟨b,hb,rfl⟩:=fc.mp hy
  have hbD:bs.getD i ⟨#[]⟩=b:=by rw[Lb,hb];rfl
  have hi:i<bs.length:=(ud.mp hb).1
  refine .mk _ (bY.tuple eO.hh (.cons (bY.name BI (keep pC)) (.cons (bY.name BJ (keep pC)) .nil))) λR' s4 E4 S4 uG=> ?_
  refine Ex.of OM ?_
  have hlen:(nN cs).length≤Bb:=by
   have h1:(nN cs).length=(iC bs i).length:=by rw[←EK];unfold nN sQ;simp
   have h2:∀(l:aa (Int×Str)) (c:aa (Str×aa Int)),(l.foldl fP c).length≤c.length+l.length:=by
    intro l
    induction l with
    |nil=>intro c;simp
    |cons p l ih=>
     intro c
     refine(Qd ..).symm▸ ?_
     have:=ih (fP c p)
     have h3:(fP c p).length≤c.length+1:=by unfold fP;split<;> exact gY ..
     simp only[xd];exact sL this h3
   have:=h2 ((Sa i).map λ(k:Nat)=>((k:Int),bs.getD k ⟨#[]⟩)) []
   refine(h1 ..).symm▸(sizeLine_eq ..).symm▸ ?_
   unfold iC
   simp only[xh,Qa,qd]at this
   exact Wo hz hi this
  have EU:(cs.map (·.1)).Nodup:=by
   obtain⟨ob,HM,es,ep,_,_,_,_,hn⟩:=S4.get_own (p:=(d,MO.own (jK (strKind pw w) (nN cs)))) (Nc _ (Wa _ La))
   unfold nN at hn
   rw[Eb]at hn
   exact hn
  refine CP (kvs:=nN cs) (d:=d) (Δf:=λv=>Is++((dx,.attrs ((nm "b2j",.val (.ref d))::OH as bs) 12)::(d,.own (jK (strKind pw w) (stored (nN cs) b v)))::Dm cs)) qQ nM S4 (ao.name m2) (ao.name m4) (Nc _ (Wa _ La)) hlen (keep pC) (λv=>OG) (λv=>bw.app (.there .here)) (λv s5 hv S5=> ?_) (λL1 s5 hv S5=> ?_)
  ·obtain⟨a,l,sq,rfl,h1,h2,h3,h4,h5⟩:=IQ (i:=(i:Int)) cs EU v hv
   refine cz S5 (kT.append (ao.name m5) (ao.name m3) (bw.app (.there (.there (by rw[Mc]at h2;exact h2)))) ?_) bL λs6 S6=>aU (uG .next _ ⟨_,_,⟨sq,?_,⟨.int (i:Nat),.str b,.val (.ref a),rfl⟩,rfl⟩,?_⟩)
   ·rw[EK]at h1
    have:=tU bs i b l h1
    rw[Qa];exact Wq hz hi this
   ·rw[jD,hbD,←EK,vZ h1,h3]
   ·rw[h4];exact S6
  ·obtain⟨h1,h2,h3⟩:=OQ (L:=L1) (i:=(i:Int)) hv
   refine cz S5 (kT.append (ao.name m5) (ao.name m3) .here (by simp)) bL λs6 S6=>aU (uG .next _ ⟨_,_,⟨cs++[(b,L1,[(i:Int)])],?_,⟨.int (i:Nat),.str b,.val (.ref L1),rfl⟩,rfl⟩,?_⟩)
   ·rw[jD,hbD,←EK,vY h1,h3]
   ·refine(h2 ..)▸ ?_
    refine S6.perm ?_
    have e:Dm (cs++[(b,L1,[(i:Int)])])=Dm cs++[(L1,.list [.int i])]:=by unfold Dm;simp
    refine(e ..).symm▸ ?_
    refine(aa.perm_append_singleton _ _).symm.trans (aa.Perm.of_eq ?_)
    simp
 rintro s4 Γ2 Δ2 ⟨cs,EK,⟨d1,d2,d3,rfl⟩,rfl⟩ S4
 rw[aa.length_mapIdx,Qa]at EK
 have hn:(cK bs)=(cK bs):=rfl
 refine eZ S4 (ao.aab (ao.bG G1 (by kernel_rfl) (by kernel_rfl) rfl rfl (by kernel_rfl))) (i9.attr (ao.name m0) G1 ok .here .new (by exact Mb rfl)) (bY.x (bY.name NC (keep hL))) λs5 S5=> ?_
 refine aI (d:=.dat .none) S5 (ao.attrL (ao.name m0) m0 G1 ok m8 .dat) IA (keep hL) λs6 S6=> ?_
 refine cS S6 (TV.zB (ao.name m7)) rfl λs7 S7=> ?_
 refine eZ S7 (ao.aab (ao.bG G1 (by kernel_rfl) (by kernel_rfl) rfl rfl (by kernel_rfl))) (i9.attr (ao.name m0) G1 ok .here .new (by exact Mb rfl)) (bY.x (bY.name Hy (keep hL))) λs8 S8=> ?_
 refine aI S8 (ao.len (ao.bG G1 (by kernel_rfl) (by kernel_rfl) rfl rfl (by kernel_rfl)) (ao.name m1) (by rw[sizeLine_eq,Qa];exact Na hz (by decide))) Hz (keep hL) λs9 S9=> ?_
 refine cS S9 (TV.and (TV.dI (ao.attrL (ao.name m0) m0 G1 ok m6 .dat)) λz_=>TV.and (TV.ge (ao.name m9) .bA) λz_=>TV.and_nil) (by rw[Qa];simp;exact pe.mpr (Fc hz (by decide))) λZ7 LQ=>aU ?_
 have aac:=BR (rest:=[(dx,MO.attrs ((nm "bpopular",.known pY)::(nm "bjunk",.known pY)::(nm "b2j",.val (.ref d))::OH as bs) 14)]) LQ nM
 have S11:Sc _ _ _ [(dx,MO.attrs ((nm "bpopular",.known pY)::(nm "bjunk",.known pY)::(nm "b2j",.val (.ref d))::OH as bs) 14)] Z7:=Sc.drops (Is:=(d,.own (jK (strKind pw w) (nN cs)))::Dm cs) (LQ.perm (Yi (l₁:=[(dx,_)])))
 obtain⟨mm,yF,hh⟩:=S11.get_own (p:=(dx,MO.attrs ((nm "bpopular",.known pY)::(nm "bjunk",.known pY)::(nm "b2j",.val (.ref d))::OH as bs) 14)) La
 refine bE (hh.has (nm "b2j",.val (.ref d)) m2) λu e hu=> ?_
 obtain rfl:u=.ref d:=hu
 exact fin _ _ _ (S11.Kv (m':=.attrs (IB w as bs) 14) .here ⟨mm,yF,hh.off,Ve.mpr ⟨hh.has _ m0,Ve.mpr ⟨hh.has _ m1,Ve.mpr ⟨⟨_,e,by rw[EK]at aac;exact aac⟩,λp hp=>hh.has p (.tail _ (.tail _ (.tail _ hp)))⟩⟩⟩⟩) .none
theorem TV.E7{l r:Ba}{pos:Pos}{ds:aa PyData}(x:ao w A B env Γ Δ l (.list ds))(y:ao w A B env Γ Δ r (.dat .none))(hm:Aa (br r=true) aR):TV w A B env Γ Δ (.Compare l [.Is] [r] pos) false:=
 TV.cmp x y (λu v s E z_ p q=>by
  have q:Rd _ _ v .none:=q
  cases q
  obtain⟨a,vs,rfl,_⟩:=De.isList p
  exact is_none_ne (λh=>nomatch h) ⟨.bN _,rfl⟩) hm
theorem KJ:aN (mt 6 3)=[aC (aN (mt 6 3)) 0,aC (aN (mt 6 3)) 1,aC (aN (mt 6 3)) 2,aC (aN (mt 6 3)) 3]:=by kernel_rfl
theorem KN:aN (mt 6 4)=[aC (aN (mt 6 4)) 0,aC (aN (mt 6 4)) 1,aC (aN (mt 6 4)) 2,aC (aN (mt 6 4)) 3,aC (aN (mt 6 4)) 4,aC (aN (mt 6 4)) 5]:=by kernel_rfl
theorem Ll:aN (mt 6 2)=[aC (aN (mt 6 2)) 0,aC (aN (mt 6 2)) 1,aC (aN (mt 6 2)) 2]:=by kernel_rfl
theorem K3:aN (mt 6 1)=[aC (aN (mt 6 1)) 0,aC (aN (mt 6 1)) 1,aC (aN (mt 6 1)) 2,aC (aN (mt 6 1)) 3,aC (aN (mt 6 1)) 4]:=by kernel_rfl
noncomputable abbrev Yp:aa (Str×D):=[(nm "autojunk",.bool true),(nm "b",.dat .none),(nm "a",.dat .none),(nm "isjunk",.dat .none)]
noncomputable abbrev Yq(as:aa Str):aa (Str×D):=[(nm "opcodes",.dat .none),(nm "matching_blocks",.dat .none),(nm "autojunk",.bool true),(nm "b",.dat .none),(nm "a",cK as),(nm "isjunk",.dat .none)]
theorem KL{v va:qa}{dx:ia}{as:aa Str}{k:Nat}(ac:Ac A (k+1))(G:aW w aG d0 s.heap)(Gb:aW w aG d0 (blank dx s).heap)(hX:∀a∈X,a<s.heap.objs.size)(hl:dx∈X)(hm:(MO.attrs Yp 4).At X s.heap dx)(hv:De X s.heap v (.known (fO sC dx)))(ha:De X s.heap va (cK as)):
  Ia (Md w) A (Ic (.ref 191) [v,va] []) (λu s'=>Kp (blank dx s) s'∧(MO.attrs (Yq as) 7).At X s'.heap dx∧De X s'.heap u (.dat .none)) E s:=by
 refine iO (fd:=QM "set_seq1" "SequenceMatcher.set_seq1" 3 .none (aG 191) 190) (body:=aN (mt 6 3)) (Γa:=[(nm "self",.known (fO sC dx)),(nm "a",cK as)]) (Γ0:=[(nm "self",.known (fO sC dx)),(nm "a",cK as)])
  ac G.ru (G.kf _ _ (by kernel_rfl)) (Wc G.ko (by kernel_rfl)) rfl (binds:=[(nm "self",v),(nm "a",va)]) (je (by kernel_rfl)) hX hl hm (.cons hv (.cons ha .nil)) (λp hp hu=>hp) λB A' L R s1 E' hB hL S eO fin=> ?_
 have G1:aW w aG d0 B.s0.heap:=hB▸Gb
 have ok:=gr w aG d0
 refine Ex.of KJ ?_
 refine cV S λs2 S2=> ?_
 refine cS S2 (TV.E7 (ao.name m1) (ao.attrL (ao.name m0) m0 G1 ok m2 .dat)) rfl λs3 S3=> ?_
 refine dU S3 (ao.name m1) (ao.name m0) G1 ok .here (.set at2) (by exact Mb rfl) λs4 S4=> ?_
 exact eZ S4 ao.qx (i9.attr (ao.name m0) G1 ok .here .new (by exact Mb rfl)) (i9.attr (ao.name m0) G1 ok .here .new (by exact Mb rfl)) λs5 S5=>aU (fin _ _ _ S5 .none)
theorem KP{v va:qa}{dx:ia}{as bs:aa Str}{k:Nat}(ac:Ac A (k+2))(G:aW w aG d0 s.heap)(Gb:aW w aG d0 (blank dx s).heap)(hX:∀a∈X,a<s.heap.objs.size)(hl:dx∈X)(hm:(MO.attrs (Yq as) 7).At X s.heap dx)(hv:De X s.heap v (.known (fO sC dx)))(ha:De X s.heap va (cK bs))(hz:bs.length≤100):
  Ia (Md w) A (Ic (.ref 198) [v,va] []) (λu s'=>Kp (blank dx s) s'∧(MO.attrs (IB w as bs) 14).At X s'.heap dx∧De X s'.heap u (.dat .none)) E s:=by
 refine iO (fd:=QM "set_seq2" "SequenceMatcher.set_seq2" 4 .none (aG 198) 197) (body:=aN (mt 6 4)) (Γa:=[(nm "self",.known (fO sC dx)),(nm "b",cK bs)]) (Γ0:=[(nm "self",.known (fO sC dx)),(nm "b",cK bs)])
  ac G.ru (G.kf _ _ (by kernel_rfl)) (Wc G.ko (by kernel_rfl)) rfl (binds:=[(nm "self",v),(nm "b",va)]) (je (by kernel_rfl)) hX hl hm (.cons hv (.cons ha .nil)) (λp hp hu=>hp) λB A' L R s1 E' hB hL S eO fin=> ?_
 have G1:aW w aG d0 B.s0.heap:=hB▸Gb
 have ok:=gr w aG d0
 refine Ex.of KN ?_
 refine cV S λs2 S2=> ?_
 refine cS S2 (TV.E7 (ao.name m1) (ao.attrL (ao.name m0) m0 G1 ok m3 .dat)) rfl λs3 S3=> ?_
 refine dU S3 (ao.name m1) (ao.name m0) G1 ok .here (.set BI) (by exact Mb rfl) λs4 S4=> ?_
 refine eZ S4 ao.qx (i9.attr (ao.name m0) G1 ok .here (.set BH) (by exact Mb rfl)) (i9.attr (ao.name m0) G1 ok .here (.set at0) (by exact Mb rfl)) λs5 S5=> ?_
 refine dU S5 ao.qx (ao.name m0) G1 ok .here .new (by exact Mb rfl) λs6 S6=> ?_
 refine cz S6 (kT.AS (f:=205) (ao.name m0) m0 G1 ok .nil .here (λv vs s E S r1 r2=>by
  cases r2
  exact IJ (k:=k) (as:=as) (bs:=bs) eO (S.g8 G1) (S.B0 m0 G1) (λa ha=>S.jH ha) (XX.own m0) (S.get_own (p:=(dx,_)) m0) r1 hz)) bL λs7 S7=>aU (fin _ _ _ S7 .none)
theorem Lm{v va vb:qa}{dx:ia}{as bs:aa Str}{k:Nat}(ac:Ac A (k+3))(G:aW w aG d0 s.heap)(Gb:aW w aG d0 (blank dx s).heap)(hX:∀a∈X,a<s.heap.objs.size)(hl:dx∈X)(hm:(MO.attrs Yp 4).At X s.heap dx)(hv:De X s.heap v (.known (fO sC dx)))(ha:De X s.heap va (cK as))(hb:De X s.heap vb (cK bs))(hz:bs.length≤100):
  Ia (Md w) A (Ic (.ref 184) [v,va,vb] []) (λu s'=>Kp (blank dx s) s'∧(MO.attrs (IB w as bs) 14).At X s'.heap dx∧De X s'.heap u (.dat .none)) E s:=by
 refine iO (fd:=QM "set_seqs" "SequenceMatcher.set_seqs" 2 .none (aG 184) 183) (body:=aN (mt 6 2)) (Γa:=[(nm "self",.known (fO sC dx)),(nm "a",cK as),(nm "b",cK bs)]) (Γ0:=[(nm "self",.known (fO sC dx)),(nm "a",cK as),(nm "b",cK bs)])
  ac G.ru (G.kf _ _ (by kernel_rfl)) (Wc G.ko (by kernel_rfl)) rfl (binds:=[(nm "self",v),(nm "a",va),(nm "b",vb)]) (je (by kernel_rfl)) hX hl hm (.cons hv (.cons ha (.cons hb .nil))) (λp hp hu=>hp) λB A' L R s1 E' hB hL S eO fin=> ?_
 have G1:aW w aG d0 B.s0.heap:=hB▸Gb
 have ok:=gr w aG d0
 refine Ex.of Ll ?_
 refine cV S λs2 S2=> ?_
 refine cz S2 (kT.AS (f:=191) (ao.name m0) m0 G1 ok (.cons (ao.name m1) .nil) .here (λv vs s E S r1 r2=>by
  refine r2.c1 λu r3=> ?_
  exact KL (k:=k+1) (as:=as) eO (S.g8 G1) (S.B0 m0 G1) (λa ha=>S.jH ha) (XX.own m0) (S.get_own (p:=(dx,_)) m0) r1 r3)) bL λs3 S3=> ?_
 refine cz S3 (kT.AS (f:=198) (ao.name m0) m0 G1 ok (.cons (ao.name m2) .nil) .here (λv vs s E S r1 r2=>by
  refine r2.c1 λu r3=> ?_
  exact KP (k:=k) (as:=as) (bs:=bs) eO (S.g8 G1) (S.B0 m0 G1) (λa ha=>S.jH ha) (XX.own m0) (S.get_own (p:=(dx,_)) m0) r1 r3 hz)) bL λs4 S4=>aU (fin _ _ _ S4 .none)
theorem K4{x dx:ia}{va vb vc:qa}{as bs:aa Str}{k:Nat}(ac:Ac A (k+4))(G:aW w aG d0 s.heap)(Gb:aW w aG d0 (blank dx s).heap)(hX:∀a∈X,a<s.heap.objs.size)(hl:dx∈X)(hx:x∉X)(hg:s.heap.get? x=some (instObj sC dx))(hm:(MO.attrs [] 0).At X s.heap dx)(hn:De X s.heap va (.dat .none))(ha:De X s.heap vb (cK as))(hb:De X s.heap vc (cK bs))(hz:bs.length≤100):
  wc (Md w) A (.call (.ref 177) ⟨[.ref x,va,vb,vc],[]⟩) (λr s'=>match r with|.ok (.ret v)=>Kp (blank dx s) s'∧(MO.attrs (IB w as bs) 14).At X s'.heap dx∧De X s'.heap v (.dat .none)|.ok _=>gc|.error e=>E e s') s:=by
 refine jt (fd:=QM "__init__" "SequenceMatcher.__init__" 1 (.ref 170) (aG 177) 176) (body:=aN (mt 6 1)) (Γa:=[(nm "self",.known (fO sC dx)),(nm "isjunk",.dat .none),(nm "a",cK as),(nm "b",cK bs),(nm "autojunk",.bool true)]) (Γ0:=[(nm "self",.known (fO sC dx)),(nm "isjunk",.dat .none),(nm "a",cK as),(nm "b",cK bs),(nm "autojunk",.bool true)])
  ac G.ru (G.kf _ _ (by kernel_rfl)) (Wc G.ko (by kernel_rfl)) rfl (binds:=[(nm "self",.ref x),(nm "isjunk",va),(nm "a",vb),(nm "b",vc),(nm "autojunk",.bool true)]) (Ai (T:=170) (o:=⟨.type "tuple",none,.seq #[.none,.str (ya "") 499,.str (ya "") 500,.bool true] 0,#[]⟩) rfl (G.ko _ _ (by kernel_rfl)) rfl rfl rfl) hX hl hm
  (.cons ⟨x,rfl,hx,hg⟩ (.cons hn (.cons ha (.cons hb (.cons (.bool true) .nil))))) (λp hp hu=>hp) λB A' L R s1 E' hB hL S eO fin=> ?_
 have G1:aW w aG d0 B.s0.heap:=hB▸Gb
 have ok:=gr w aG d0
 refine Ex.of K3 ?_
 refine cV S λs2 S2=> ?_
 refine dU S2 (ao.name m1) (ao.name m0) G1 ok .here .new (by exact Uc _) λs3 S3=> ?_
 refine eZ S3 ao.qx (i9.attr (ao.name m0) G1 ok .here .new (by exact Ae _)) (i9.attr (ao.name m0) G1 ok .here .new (by exact Mb rfl)) λs4 S4=> ?_
 refine dU S4 (ao.name m4) (ao.name m0) G1 ok .here .new (by exact Mb rfl) λs5 S5=> ?_
 refine cz S5 (kT.AS (f:=184) (ao.name m0) m0 G1 ok (.cons (ao.name m2) (.cons (ao.name m3) .nil)) .here (λv vs s E S r1 r2=>by
  refine r2.c2 λu u2 r3 r4=> ?_
  exact Lm (k:=k) (as:=as) (bs:=bs) eO (S.g8 G1) (S.B0 m0 G1) (λa ha=>S.jH ha) (XX.own m0) (S.get_own (p:=(dx,_)) m0) r1 r3 r4 hz)) bL λs6 S6=>aU (fin _ _ _ S6 .none)
theorem Sc.A5{K:Type}[Ec K]{knd:KeyKind pw w K}{DD:aa (K×PyData)}{x:Str}{a:ia}(nM:(a==sysModules)=false)(S:Sc B env Γ ((a,.own (cD knd DD))::Δ) s)(hm:(x,D.val (.ref a))∈Γ)(t:aX x (.known (cC knd DD)) Γ Γ'):Sc B env Γ' Δ s:=by
 obtain⟨o,ho,kvs,hd,r⟩:=S.get_own (p:=(a,MO.own (cD knd DD))) La
 have S':=S.drop
 have ow:=S.own _ La
 have dn:=S.dn
 simp only[Ib,Pd]at dn
 have B7:a∉XX B.Xo env Δ:=λhx=>by
  rcases XX.cases hx with h|h|⟨y,h⟩|⟨m',h⟩
  ·exact ow.2.2.1.2 h
  ·exact ow.1 h
  ·exact ow.2.1 y a h rfl
  ·exact dn.1 (jd (f:=(·.1)) h)
 refine{S' with nd:=t.names▸S.nd,vars:=λp hp hu=> ?_}
 rcases t.cases S.nd p hp with rfl|⟨_,hp⟩
 ·refine bE (S.vars _ hm (by intro h;cases h)) λv b hv=> ?_
  obtain rfl:v=.ref a:=hv
  refine⟨_,b,a,kvs,rfl,B7,nM,Pe.mpr ⟨o,ho,hd⟩,r.at λb o hb e=>⟨λhx=>hb ?_,e⟩⟩
  exact XX.mono (λp hp=>⟨p.2,Wa _ hp⟩) hx
 ·exact S'.vars p hp hu
theorem gB{test:Ba}{body rest:aa Va}{pos:Pos}{b:Ga}{Q:Flow→za→Prop}(S:Sc B env Γ Δ s)(t:TV w A B env Γ Δ test b)(hb:b=false)(h:∀s',Sc B env Γ Δ s'→Ex w A env rest Q E s'):Ex w A env (.While test body [] pos::rest) Q E s:=by
 subst hb
 refine⟨Kc (wpAny_While (codeAny_whileLoop (λn s'=>Sc B env Γ Δ s') (λn s1 S1=> ?_) 0 S))⟩
 refine t.use S1 λs2 k2 S2=> ?_
 simp only[wg,yg]
 exact wpAny_execs_nil (h s2 S2).run
theorem xW{pos:Pos}{rest:aa Va}{Q:Flow→za→Prop}(h:Q .cont s):Ex w A env (.Continue pos::rest) Q E s:=⟨Kc (wpAny_Continue h)⟩
theorem GX{pos:Pos}{rest:aa Va}{Q:Flow→za→Prop}(h:Q .brk s):Ex w A env (.Break pos::rest) Q E s:=⟨Kc (wpAny_Break h)⟩
theorem i9.D8{K:Type}[Ec K]{knd:KeyKind pw w K}{enc:K→PyData}{DD:aa (K×PyData)}{l k:Ba}{pos:Pos}{d:ia}{x:K}{y:PyData}(ki:iu knd enc)(hl:ao w A B env Γ Δ l (.val (.ref d)))(hi:ao w A B env Γ Δ k (.dat (enc x)))
  (o:bw d (.own (cD knd DD)) (.own (cD knd (aQ DD x y))) Δ Δ')(hz:DD.length≤Bb)(hs:Aa (cT k=true) aR):i9 w A B env (.Subscript l k pos) (.dat y) Γ Γ Δ Δ':=.mk λs E v Q S r h=>by
 refine(assign_Subscript ..).symm▸ ?_
 refine Ca (Jc (hl.use S λu s2 k2 S2 r2=>Ca (Jc (hi.use S2 λu3 s3 k3 S3 r3=>Ca (Ed ?_)))))
 obtain rfl:u=.ref d:=r2
 have rv:Rd (XX B.Xo env Δ) s3.heap v y:=(Rd.up r k2.up).up k3.up
 refine Ca (Jc ?_)
 refine bE (S3.dict o.mem) λkvs hd rp=> ?_
 refine wpAny_setItem_pairs (ki.is r3) hd (λh' lC AI=>wpAny_release ?_) (by rw[rp.len];exact hz)
 refine bE (Pe.mp lC) λo' nL y9=> ?_
 have AI:ve d s3.heap h':=AI
 have ex:XX B.Xo env Δ'=XX B.Xo env Δ:=XX.same o.names
 have kk:∀b ob,b∉XX B.Xo env Δ→s3.heap.get? b=some ob→h'.get? b=some ob:=λb ob hb e=>(AI.2 b λq=>hb (by rw[q];exact XX.own o.mem)).trans e
 exact h _ (S3.set_own o (λb ob hb e=>(AI.2 b hb).trans e) ⟨o',nL,_,y9,(rp.store rv).at λb ob hb e=>⟨hb,kk b ob hb e⟩⟩) (ex▸De.keep (d:=.dat y) kk rv)
noncomputable abbrev IM:=aa (Int×Int)
noncomputable abbrev sD(m:IM):aa (Int×PyData):=jz Xb m
noncomputable abbrev d8:=Int×Int×Int
noncomputable def fH(i aH:Int)(prev:IM)(st:IM×d8)(j:Int):IM×d8:=
 if j<aH then st else(aQ st.1 j ((aL prev (j-1)).getD 0+1),if(aL prev (j-1)).getD 0+1>st.2.2.2 then(i-((aL prev (j-1)).getD 0+1)+1,j-((aL prev (j-1)).getD 0+1)+1,(aL prev (j-1)).getD 0+1)else st.2)
noncomputable def rF(i aH aZ:Int)(prev:IM)(js:aa Int)(b:d8):IM×d8:=(js.takeWhile λj=>decide (j<aZ)).foldl (fH i aH prev) ([],b)
noncomputable def dZ(bs:aa Str)(x:Str):aa Int:=(aL (iC bs bs.length) x).getD []
noncomputable def outF(as bs:aa Str)(aH aZ:Int)(st:IM×d8)(i:Int):IM×d8:=rF i aH aZ st.1 (dZ bs (as.getD i.toNat ⟨#[]⟩)) st.2
noncomputable def YT(as bs:aa Str)(aV bK aH aZ:Int):IM×d8:=((Sa (bK-aV).toNat).map λ(k:Nat)=>aV+(k:Int)).foldl (outF as bs aH aZ) ([],(aV,aH,0))
noncomputable def qH(as bs:aa Str)(aV bK aH aZ:Int):d8:=(YT as bs aV bK aH aZ).2
theorem xS(i aH:Int)(prev:IM):∀(js:aa Int) (st:IM×d8),(js.foldl (fH i aH prev) st).1.length≤st.1.length+js.length
 |[],st=>by simp
 |j::js,st=>by
  refine(Qd ..).symm▸ ?_
  have h1:=xS i aH prev js (fH i aH prev st j)
  have h2:(fH i aH prev st j).1.length≤st.1.length+1:=by
   unfold fH;split
   ·exact Tc _ 1
   ·exact gY ..
  simp only[xd];exact sL h1 h2
theorem F8(bs:aa Str)(x:Str):(dZ bs x).length≤bs.length:=by
 unfold dZ
 cases h:aL (iC bs bs.length) x with
 |none=>simp
 |some l=>exact tU bs _ _ _ h
theorem takeWhile_all{α:Type}{p:α→Ga}:∀{l:aa α},(∀x∈l,p x=true)→l.takeWhile p=l
 |[],_=>rfl
 |a::l,h=>by rw[Ek,if_pos (h a La),takeWhile_all λx hx=>h x (Wa _ hx)]
theorem vJ{α:Type}{p:α→Ga}{l:aa α}:∀{t:Nat} {a:α},(∀x∈l.take t,p x=true)→l[t]? =some a→p a=false→l.takeWhile p=l.take t:=by
 induction l with
 |nil=>exactλz_ h z_=>(nomatch h)
 |cons b l ih=>
  intro t a h h1 hp
  cases t with
  |zero=>obtain rfl:b=a:=Oe h1;rw[Ek,hp];rfl
  |succ t=>rw[Ek,if_pos (h b La),Li,ih (λx hx=>h x (Wa _ hx)) h1 hp]
noncomputable abbrev g7(dV:qa):Vc:=QM "find_longest_match" "SequenceMatcher.find_longest_match" 6 (.ref 206) dV 212
theorem YR:fb (aC (aN (mt 6 6)) 7)=[aC (fb (aC (aN (mt 6 6)) 7)) 0,aC (fb (aC (aN (mt 6 6)) 7)) 1,aC (fb (aC (aN (mt 6 6)) 7)) 2,aC (fb (aC (aN (mt 6 6)) 7)) 3]:=by kernel_rfl
noncomputable abbrev C8:Va:=aC (fb (aC (aN (mt 6 6)) 7)) 2
theorem YS:fb C8=[aC (fb C8) 0,aC (fb C8) 1,aC (fb C8) 2,aC (fb C8) 3]:=by kernel_rfl
theorem OV:fb (aC (fb C8) 0)=[aC (fb (aC (fb C8) 0)) 0]:=by kernel_rfl
theorem OW:fb (aC (fb C8) 1)=[aC (fb (aC (fb C8) 1)) 0]:=by kernel_rfl
theorem OX:fb (aC (fb C8) 3)=[aC (fb (aC (fb C8) 3)) 0]:=by kernel_rfl
theorem ZK(prev:IM)(j:Int):(D.dat ((aL (sD prev) j).getD (.int 0)))=.int ((aL prev j).getD 0):=by
 unfold sD;rw[dQ];cases aL prev j<;> rfl
noncomputable abbrev GF(w:Oa)(as bs:aa Str)(aV bK aH aZ:Int)(b:d8)(j2 no di dg dn dj dk:D):aa (Str×D):=
 [(nm "self",.known (fU sC (IB w as bs))),(nm "alo",.int aV),(nm "ahi",.int bK),(nm "blo",.int aH),(nm "bhi",.int aZ),(nm "a",cK as),(nm "b",cK bs),(nm "b2j",.known (cC (strKind pw w) (zH bs))),(nm "isbjunk",.known QG),
  (nm "besti",.int b.1),(nm "bestj",.int b.2.1),(nm "bestsize",.int b.2.2),(nm "j2len",j2),(nm "nothing",no),(nm "i",di),(nm "j2lenget",dg),(nm "newj2len",dn),(nm "j",dj),(nm "k",dk)]
noncomputable def flI(w:Oa)(as bs:aa Str)(aV bK aH aZ i:Int)(b:d8)(prev:IM)(x:Str)(a I:ia)(m:MO)(t:Nat)(Γ':aa (Str×D))(Δ':aa (ia×MO)):Prop:=
 (∀j∈(dZ bs x).take t,decide (j<aZ)=true)∧(∃dj dk,Γ'=GF w as bs aV bK aH aZ (((dZ bs x).take t).foldl (fH i aH prev) ([],b)).2 (.known (cC (intKind pw w) (sD prev))) (.list []) (.int i) (.known (Bw (intKind pw w) (sD prev))) (.val (.ref a)) dj dk)∧
   Δ'=(a,.own (cD (intKind pw w) (sD (((dZ bs x).take t).foldl (fH i aH prev) ([],b)).1)))::[(I,m)]
variable{L:ia}{dV:qa}
theorem OZ{as bs:aa Str}{aV bK aH aZ i:Int}{b:d8}{prev:IM}{x:Str}{a I:ia}{m:MO}{rest:aa Va}{Q:Flow→za→Prop}{dj dk:D}(hh:A.handled=none)(hL:B.s0.heap.objs.size≤L)(hz:bs.length≤100)(NL:aH≤aZ)
  (h0:0≤i)(h1:i<2^62)(hx:(as.map ie)[i.toNat]? =some (.str x))
  (S:Sc B (Cb (g7 dV) L 213) (GF w as bs aV bK aH aZ b (.known (cC (intKind pw w) (sD prev))) (.list []) (.int i) (.known (Bw (intKind pw w) (sD prev))) (.val (.ref a)) dj dk) ((a,.own (cD (intKind pw w) (sD [])))::[(I,m)]) s)
  (h:∀s' dj dk,Sc B (Cb (g7 dV) L 213) (GF w as bs aV bK aH aZ (rF i aH aZ prev (dZ bs x) b).2 (.known (cC (intKind pw w) (sD prev))) (.list []) (.int i) (.known (Bw (intKind pw w) (sD prev))) (.val (.ref a)) dj dk)
   ((a,.own (cD (intKind pw w) (sD (rF i aH aZ prev (dZ bs x) b).1)))::[(I,m)]) s'→Ex w A (Cb (g7 dV) L 213) rest Q E s'):
  Ex w A (Cb (g7 dV) L 213) (C8::rest) Q E s:=by
 have hlen:=F8 bs x
 refine vD (bX:=.list ((dZ bs x).map .int)) (items:=(dZ bs x).map .int) hh S (ao.cast (ao.aaG (D:=zH bs) qQ (ao.name m7).dk (ao.item (ao.name m5) (ao.name N8) h0 (by exact jf h1 (by decide)) hx) (ao.name FN)) (by
  unfold dZ zH
  rw[dQ]
  cases aL (iC bs bs.length) x<;> rfl)) (.list _ (by rw[sizeLine_eq,Qa];exact Na hlen (Na hz (by decide))))
  (flI w as bs aV bK aH aZ i b prev x a I m) ⟨λj hj=>by simp at hj,⟨_,_,rfl⟩,rfl⟩ ?_ ?_
 ·rintro B' t d I2 m2 Γ1 Δ1 hB hU hd ⟨bB,⟨dj,dk,rfl⟩,rfl⟩
  have pC:B'.s0.heap.objs.size≤L:=hB▸hL
  rw[Ab]at hd
  obtain⟨j,hj,rfl⟩:=fc.mp hd
  have ht:t<(dZ bs x).length:=(ud.mp hj).1
  have htk:(dZ bs x).take (t+1)=(dZ bs x).take t++[j]:=by rw[Me,hj];rfl
  refine .mk _ (bY.name Iw (keep pC)) λR s2 E2 S2 fin=> ?_
  refine Ex.of YS ?_
  have S2':Sc B' _ (GF w as bs aV bK aH aZ (((dZ bs x).take t).foldl (fH i aH prev) ([],b)).2 (.known (cC (intKind pw w) (sD prev))) (.list []) (.int i) (.known (Bw (intKind pw w) (sD prev))) (.val (.ref a)) (.int j) dk) _ s2:=S2
  refine eL S2' (TV.lt (ao.name PZ) (ao.name m3)) (λhb s3 S3=> ?_) (λhb s3 S3=>aU ?_)
  ·refine Ex.of OV ?_
   have hb:j<aH:=by simpa using hb
   refine xW (fin .cont _ ⟨_,_,⟨λy hy=> ?_,⟨.int j,dk,rfl⟩,rfl⟩,?_⟩)
   ·rw[htk]at hy
    rcases zc.mp hy with hy|hy
    ·exact bB y hy
    ·rw[Vb.mp hy];exact decide_eq_true (by exact jh hb NL)
   ·rw[htk,xe,Qd,Mj,show fH i aH prev (((dZ bs x).take t).foldl (fH i aH prev) ([],b)) j=((dZ bs x).take t).foldl (fH i aH prev) ([],b)from if_pos hb]
    exact S3
  have hb:¬j<aH:=by simpa using hb
  refine eL S3 (TV.ge (ao.name PZ) (ao.name m4)) (λhc s4 S4=> ?_) (λhc s4 S4=>aU ?_)
  ·refine Ex.of OW ?_
   have e:rF i aH aZ prev (dZ bs x) b=((dZ bs x).take t).foldl (fH i aH prev) ([],b):=by
    unfold rF;rw[vJ bB hj (by have:j≥aZ:=(by simpa using hc);simp;omega)]
   rw[e]at h
   exact GX (fin .brk _ (h s4 _ _ (hU _ _ _ S4)))
  have hc:¬j≥aZ:=by simpa using hc
  have NQ:=xS i aH prev ((dZ bs x).take t) ([],b)
  refine eZ S4 (ao.add (ao.D4 (DD:=sD prev) (x:=j-1) ZI (ao.name FO) (ao.sub (ao.name PZ) .bA) .bA|>.cast (ZK ..)) .bA) (bY.x (bY.name Iz (keep pC)))
   (i9.D8 (DD:=sD (((dZ bs x).take t).foldl (fH i aH prev) ([],b)).1) ZI (ao.name J7) (ao.name PZ) (.there .here) (by rw[sizeLine_eq];unfold sD jz;rw[Qa];simp only[xh,uf]at NQ;exact W3 hz hlen NQ)) λs5 S5=> ?_
  have EE:∀y∈(dZ bs x).take (t+1),decide (y<aZ)=true:=λy hy=>by
   rw[htk]at hy
   rcases zc.mp hy with hy|hy
   ·exact bB y hy
   ·rw[Vb.mp hy];exact decide_eq_true (by exact Int.not_le.mp hc)
  generalize B8:((dZ bs x).take t).foldl (fH i aH prev) ([],b)=CO at S5
  have AK:((dZ bs x).take (t+1)).foldl (fH i aH prev) ([],b)=fH i aH prev CO j:=by rw[htk,xe,B8];rfl
  generalize hk:(aL prev (j-1)).getD 0+1=kk at S5
  have Zz:fH i aH prev CO j=(aQ CO.1 j kk,if kk>CO.2.2.2 then(i-kk+1,j-kk+1,kk)else CO.2):=by unfold fH;rw[if_neg hb,hk]
  have hD:aQ (sD CO.1) j (.int kk)=sD (aQ CO.1 j kk):=iF ..
  rw[hD]at S5
  refine eL S5 (TV.gt (ao.name QK) (ao.name mR)) (λhd s6 S6=> ?_) (λhd s6 S6=>aU (aU (fin .next _ ⟨_,_,⟨EE,⟨.int j,.int kk,rfl⟩,rfl⟩,?_⟩)))
  ·refine Ex.of OX ?_
   refine vF (names:=[nm "besti",nm "bestj",nm "bestsize"]) hh S6 (ao.tup (.cons (ao.add (ao.sub (ao.name N8) (ao.name QK)) .bA) (.cons (ao.add (ao.sub (ao.name PZ) (ao.name QK)) .bA) (.cons (ao.name QK) .nil))) (by rw[sizeLine_eq];simp)) rfl
    (.cons rZ (keep pC) (.cons qo (keep pC) (.cons Hz (keep pC) .nil))) (λs7 S7=>aU (aU (fin .next _ ⟨_,_,⟨EE,⟨.int j,.int kk,rfl⟩,rfl⟩,?_⟩))) (by kernel_rfl)
   rw[AK,Zz,if_pos (by simpa using hd)]
   exact S7
  ·rw[AK,Zz,if_neg (by simpa using hd)]
   exact S6
 ·rintro s2 Γ2 Δ2 ⟨bB,⟨dj,dk,rfl⟩,rfl⟩ S2
  rw[Qa,bf]at bB S2
  have e:rF i aH aZ prev (dZ bs x) b=(dZ bs x).foldl (fH i aH prev) ([],b):=by unfold rF;rw[takeWhile_all bB]
  rw[e]at h
  exact h s2 _ _ S2
structure HV(as bs:aa Str)(aV bK aH aZ:Int)(b:d8):Prop where
 x0:aV≤b.1
 y0:aH≤b.2.1
 z0:0≤b.2.2
 x1:b.1+b.2.2≤bK
 y1:b.2.1+b.2.2≤aZ
 e1:b.1>aV→b.2.1>aH→as.getD (b.1-1).toNat ⟨#[]⟩≠bs.getD (b.2.1-1).toNat ⟨#[]⟩
 e2:b.1+b.2.2<bK→b.2.1+b.2.2<aZ→as.getD (b.1+b.2.2).toNat ⟨#[]⟩≠bs.getD (b.2.1+b.2.2).toNat ⟨#[]⟩
theorem strAt{l:aa Str}{i:Int}(h0:0≤i)(h1:i<l.length):(l.map ie)[i.toNat]? =some (.str (l.getD i.toNat ⟨#[]⟩)):=by
 have:i.toNat<l.length:=by exact Sl h0 h1
 rw[Ab,Wb this,Lb,Wb this];rfl
theorem tw{l:aa Str}{n:Nat}(h:n<l.length):l.getD n ⟨#[]⟩∈l:=by
 rw[Lb,Wb h];exact Dg h
theorem Yr{x:Str}(h:yd (.str x)=true):shaped (.str x)=true:=by
 show(yd (.str x) &&decide (Qf (.str x)≤64))=true
 rw[h];rfl
theorem TV.Iq{Γ:aa (Str×D)}{Δ:aa (ia×MO)}{env:Env}{a b:Ba}{rest:aa Ba}{p q:Prop}[Decidable p][Decidable q]{pos:Pos}(x:TV w A B env Γ Δ a (decide p))(y:TV w A B env Γ Δ b (decide q))(z:p→q→TV w A B env Γ Δ (.BoolOp .And rest pos) false):TV w A B env Γ Δ (.BoolOp .And (a::b::rest) pos) false:=
 (TV.and x λh=>TV.and y λk=>z (Xf h) (Xf k)).cast (by rw[Ij,Ij])
theorem OY{as bs:aa Str}{aV bK aH aZ x y z:Int}{Q:Flow→za→Prop}{j2 no di dg dn dj dk:D}{k:Nat}(ac:Ac A (k+2))(G1:aW w aG d0 B.s0.heap)(hz:bs.length≤100)(EZ:as.length≤100)(h0:0≤aV)(h2:bK≤as.length)(h3:0≤aH)(h5:aZ≤bs.length)
  (la:∀x∈as,yd (.str x)=true)(lb:∀x∈bs,yd (.str x)=true)(ok:HV as bs aV bK aH aZ (x,y,z))(S:Sc B (Cb (g7 dV) L 213) (GF w as bs aV bK aH aZ (x,y,z) j2 no di dg dn dj dk) [] s)
  (h:∀v s' Γ',Sc B (Cb (g7 dV) L 213) Γ' [] s'→De (XX B.Xo (Cb (g7 dV) L 213) []) s'.heap v (.known (gI x y z))→Q (.ret v) s'):
  Ex w A (Cb (g7 dV) L 213) [aC (aN (mt 6 6)) 8,aC (aN (mt 6 6)) 9,aC (aN (mt 6 6)) 10,aC (aN (mt 6 6)) 11,aC (aN (mt 6 6)) 12] Q E s:=by
 obtain⟨x0,y0,z0,x1,y1,e1,e2⟩:=ok
 dsimp only at x0 y0 z0 x1 y1 e1 e2
 have shA:∀n,n<as.length→shaped (.str (as.getD n ⟨#[]⟩))=true:=λn hn=>Yr (la _ (tw hn))
 have shB:∀n,n<bs.length→shaped (.str (bs.getD n ⟨#[]⟩))=true:=λn hn=>Yr (lb _ (tw hn))
 have neq:∀{a b:Str},a≠b→jc (.str a) (.str b)=false:=λh=>by rw[lZ];simpa using h
 refine gB S (TV.Iq (TV.gt (ao.name m9) (ao.name m1)) (TV.gt (ao.name kX) (ao.name m3)) λc1 c2=> ?_) rfl λs6 S6=>gB S6 (TV.Iq (TV.lt (ao.add (ao.name m9) (ao.name mR)) (ao.name m2)) (TV.lt (ao.add (ao.name kX) (ao.name mR)) (ao.name m4)) λc1 c2=> ?_) rfl λs7 S7=>
  gB S7 (TV.Iq (TV.gt (ao.name m9) (ao.name m1)) (TV.gt (ao.name kX) (ao.name m3)) λc1 c2=> ?_) rfl λs8 S8=>gB S8 (TV.Iq (TV.lt (ao.add (ao.name m9) (ao.name mR)) (ao.name m2)) (TV.lt (ao.add (ao.name kX) (ao.name mR)) (ao.name m4)) λc1 c2=> ?_) rfl λs9 S9=>
  dR S9 (ao.mkMatch (k:=k) ac G1 (ao.glob G1 (by kernel_rfl) rfl (by kernel_rfl)) (ao.name m9) (ao.name kX) (ao.name mR)) λv Z7 LQ r=>h v Z7 _ LQ r
 ·exact(TV.and (TV.not (TV.dI (ao.JH (ao.name m8) (ao.item (ao.name m6) (ao.sub (ao.name kX) .bA) (oz h3 c2) (An hz h5 z0 y1) (strAt (oz h3 c2) (Am h5 z0 y1)))))) λz_=>
   TV.and (TV.eq (ao.item (ao.name m5) (ao.sub (ao.name m9) .bA) (oz h0 c1) (An EZ h2 z0 x1) (strAt (oz h0 c1) (Am h2 z0 x1))) (ao.item (ao.name m6) (ao.sub (ao.name kX) .bA) (oz h3 c2) (An hz h5 z0 y1) (strAt (oz h3 c2) (Am h5 z0 y1))) (shA _ (Mq h0 h2 z0 x1 c1)) (shB _ (Mq h3 h5 z0 y1 c2)) ac.eq) λz_=>TV.and_nil).cast (by rw[neq (e1 c1 c2)];rfl)
 ·exact(TV.and (TV.not (TV.dI (ao.JH (ao.name m8) (ao.item (ao.name m6) (ao.add (ao.name kX) (ao.name mR)) (oB h3 y0 z0) (Al hz h5 c2) (strAt (oB h3 y0 z0) (jh c2 h5)))))) λz_=>
   TV.and (TV.eq (ao.item (ao.name m5) (ao.add (ao.name m9) (ao.name mR)) (oB h0 x0 z0) (Al EZ h2 c1) (strAt (oB h0 x0 z0) (jh c1 h2))) (ao.item (ao.name m6) (ao.add (ao.name kX) (ao.name mR)) (oB h3 y0 z0) (Al hz h5 c2) (strAt (oB h3 y0 z0) (jh c2 h5))) (shA _ (Ml h0 h2 x0 z0 c1)) (shB _ (Ml h3 h5 y0 z0 c2)) ac.eq) λz_=>TV.and_nil).cast (by rw[neq (e2 c1 c2)];rfl)
 ·exact TV.and (c:=false) (TV.dI (ao.JH (ao.name m8) (ao.item (ao.name m6) (ao.sub (ao.name kX) .bA) (oz h3 c2) (An hz h5 z0 y1) (strAt (oz h3 c2) (Am h5 z0 y1))))) λh=>by cases h
 ·exact TV.and (c:=false) (TV.dI (ao.JH (ao.name m8) (ao.item (ao.name m6) (ao.add (ao.name kX) (ao.name mR)) (oB h3 y0 z0) (Al hz h5 c2) (strAt (oB h3 y0 z0) (jh c2 h5))))) λh=>by cases h
inductive FLG(w:Oa)(as bs:aa Str)(aV bK aH aZ:Int)(b:d8)(j2:D):aa (Str×D)→Prop
 |mk (di dg dn dj dk:D):FLG w as bs aV bK aH aZ b j2 (GF w as bs aV bK aH aZ b j2 (.list []) di dg dn dj dk)
noncomputable def F6(as bs:aa Str)(aV aH aZ:Int)(t:Nat):IM×d8:=((Sa t).map λ(k:Nat)=>aV+(k:Int)).foldl (outF as bs aH aZ) ([],(aV,aH,0))
noncomputable def flO(w:Oa)(as bs:aa Str)(aV bK aH aZ:Int)(t:Nat)(Γ':aa (Str×D))(Δ':aa (ia×MO)):Prop:=
 FLG w as bs aV bK aH aZ (F6 as bs aV aH aZ t).2 (.known (cC (intKind pw w) (sD (F6 as bs aV aH aZ t).1))) Γ'∧Δ'=[]
theorem I3{as bs:aa Str}{aV bK aH aZ:Int}{Q:Flow→za→Prop}{b0:d8}{d1 d2 d3 d4 d5 d6 d7:D}{k:Nat}(ac:Ac A (k+2))(G1:aW w aG d0 B.s0.heap)(hL:B.s0.heap.objs.size≤L)(hz:bs.length≤100)(EZ:as.length≤100)(h0:0≤aV)(h1:aV≤bK)(h2:bK≤as.length)(h3:0≤aH)(h4:aH≤aZ)(h5:aZ≤bs.length)
  (la:∀x∈as,yd (.str x)=true)(lb:∀x∈bs,yd (.str x)=true)(ok:HV as bs aV bK aH aZ (qH as bs aV bK aH aZ))
  (S:Sc B (Cb (g7 dV) L 213) [(nm "self",.known (fU sC (IB w as bs))),(nm "alo",.int aV),(nm "ahi",.int bK),(nm "blo",.int aH),(nm "bhi",.int aZ),(nm "a",cK as),(nm "b",cK bs),(nm "b2j",.known (cC (strKind pw w) (zH bs))),(nm "isbjunk",.known QG),
   (nm "besti",.un),(nm "bestj",.un),(nm "bestsize",.un),(nm "j2len",.un),(nm "nothing",.un),(nm "i",.un),(nm "j2lenget",.un),(nm "newj2len",.un),(nm "j",.un),(nm "k",.un)] [] s)
  (h:∀v s' Γ',Sc B (Cb (g7 dV) L 213) Γ' [] s'→De (XX B.Xo (Cb (g7 dV) L 213) []) s'.heap v (.known (gI (qH as bs aV bK aH aZ).1 (qH as bs aV bK aH aZ).2.1 (qH as bs aV bK aH aZ).2.2))→Q (.ret v) s'):
  Ex w A (Cb (g7 dV) L 213) [aC (aN (mt 6 6)) 4,aC (aN (mt 6 6)) 5,aC (aN (mt 6 6)) 6,aC (aN (mt 6 6)) 7,aC (aN (mt 6 6)) 8,aC (aN (mt 6 6)) 9,aC (aN (mt 6 6)) 10,aC (aN (mt 6 6)) 11,aC (aN (mt 6 6)) 12] Q E s:=by
 refine vF (names:=[nm "besti",nm "bestj",nm "bestsize"]) ac.hh S (ao.tup (.cons (ao.name m1) (.cons (ao.name m3) (.cons .bA .nil))) (by rw[sizeLine_eq];simp)) rfl (.cons rZ (keep hL) (.cons qo (keep hL) (.cons Hz (keep hL) .nil))) (λs1 S1=> ?_) (by kernel_rfl)
 refine vB (intKind pw w) G1 S1 (λa=>pq) (keep hL) λa s2 nM S2=> ?_
 have S3:=S2.A5 nM zx pq
 refine aI (d:=.list []) S3 (ao.wK .nil (by rw[sizeLine_eq];simp)) v9 (keep hL) λs4 S4=> ?_
 refine vD (bX:=.range aV bK) (items:=(Sa (bK-aV).toNat).map λ(k:Nat)=>.int (aV+(k:Int))) ac.hh S4 (ao.jE (ao.bG G1 (by kernel_rfl) (by kernel_rfl) rfl rfl (by kernel_rfl)) (ao.name m1) (ao.name m2)) (.range aV bK (by exact aao h0) (by exact Sm EZ h2) (by rw[sizeLine_eq];exact R5 EZ h0 h2) h1)
  (flO w as bs aV bK aH aZ) ⟨.mk .un .un .un .un .un,rfl⟩ ?_ ?_
 ·rintro B' t d I m Γ1 Δ1 hB _ hd ⟨⟨di,dg,dn,dj,dk⟩,rfl⟩
  have pC:B'.s0.heap.objs.size≤L:=hB▸hL
  rw[Ab]at hd
  obtain⟨t',ht',rfl⟩:=fc.mp hd
  obtain⟨rfl,htl⟩:t'=t∧t<(bK-aV).toNat:=by
   have:=ud.mp ht'
   refine xE this λbB e=> ?_
   simp at bB e
   exact⟨e.symm,by exact TG bB⟩
  generalize B8:F6 as bs aV aH aZ t'=CO
  have AK:F6 as bs aV aH aZ (t'+1)=outF as bs aH aZ CO (aV+(t':Int)):=by
   rw[←B8];unfold F6;rw[kg,Mc,xe];rfl
  refine .mk _ (bY.name DX (keep pC)) λR s5 E5 S5 fin=> ?_
  refine Ex.of YR ?_
  have Q3:Sc B' _ (GF w as bs aV bK aH aZ CO.2 (.known (cC (intKind pw w) (sD CO.1))) (.list []) (.int (aV+(t':Int))) dg dn dj dk) [(I,m)] s5:=S5
  refine aI Q3 (ao.aay (ao.name zx)) DY (keep pC) λs6 S6=> ?_
  refine vB (intKind pw w) (hB▸G1:aW w aG d0 B'.s0.heap) S6 (λa=>DZ) (keep pC) λa s7 nM S7=> ?_
  refine OZ (b:=CO.2) (prev:=CO.1) (i:=aV+(t':Int)) (x:=as.getD (aV+(t':Int)).toNat ⟨#[]⟩) ac.hh pC hz h4 (by exact Mm h0) (by exact Sy EZ h2 htl) (strAt (by exact Mm h0) (by exact Sx h2 htl)) S7 λs8 dj dk S8=> ?_
  have S9:=S8.A5 nM J7 DZ
  refine aI S9 (ao.name J7) pq (keep pC) λZ7 LQ=>aU (fin .next _ ⟨_,_,⟨?_,rfl⟩,LQ⟩)
  rw[AK];exact .mk ..
 rintro s5 Γ2 Δ2 ⟨⟨di,dg,dn,dj,dk⟩,rfl⟩ S5
 rw[Qa,qd]at S5
 have Q3:Sc B _ (GF w as bs aV bK aH aZ (qH as bs aV bK aH aZ) (.known (cC (intKind pw w) (sD (YT as bs aV bK aH aZ).1))) (.list []) di dg dn dj dk) [] s5:=S5
 generalize qH as bs aV bK aH aZ=b at *
 obtain⟨x,y,z⟩:=b
 exact OY ac G1 hz EZ h0 h2 h3 h5 la lb ok Q3 h
theorem I1:aN (mt 6 6)=[aC (aN (mt 6 6)) 0,aC (aN (mt 6 6)) 1,aC (aN (mt 6 6)) 2,aC (aN (mt 6 6)) 3,aC (aN (mt 6 6)) 4,aC (aN (mt 6 6)) 5,aC (aN (mt 6 6)) 6,aC (aN (mt 6 6)) 7,aC (aN (mt 6 6)) 8,aC (aN (mt 6 6)) 9,aC (aN (mt 6 6)) 10,aC (aN (mt 6 6)) 11,aC (aN (mt 6 6)) 12]:=by kernel_rfl
theorem YO:fb (aC (aN (mt 6 6)) 2)=[aC (fb (aC (aN (mt 6 6)) 2)) 0]:=by kernel_rfl
theorem YQ:fb (aC (aN (mt 6 6)) 3)=[aC (fb (aC (aN (mt 6 6)) 3)) 0]:=by kernel_rfl
noncomputable def P7:Ma Int→PyData|none=>.none|some i=>.int i
noncomputable abbrev MK(w:Oa)(as bs:aa Str):dW:=fU sC (IB w as bs)
structure HU(as bs:aa Str)(aV bK aH aZ:Int):Prop where
 EZ:as.length≤100
 hz:bs.length≤100
 h0:0≤aV
 h1:aV≤bK
 h2:bK≤as.length
 h3:0≤aH
 h4:aH≤aZ
 h5:aZ≤bs.length
 la:∀x∈as,yd (.str x)=true
 lb:∀x∈bs,yd (.str x)=true
 ok:HV as bs aV bK aH aZ (qH as bs aV bK aH aZ)
theorem Ew{as bs:aa Str}{aV aH:Int}{ah bh:Ma Int}{Q:Flow→za→Prop}{k:Nat}(ac:Ac A (k+2))(G1:aW w aG d0 B.s0.heap)(hL:B.s0.heap.objs.size≤L)(I:HU as bs aV (ah.getD as.length) aH (bh.getD bs.length))
  (S:Sc B (Cb (g7 dV) L 213) [(nm "self",.known (MK w as bs)),(nm "alo",.int aV),(nm "ahi",.dat (P7 ah)),(nm "blo",.int aH),(nm "bhi",.dat (P7 bh)),(nm "a",.un),(nm "b",.un),(nm "b2j",.un),(nm "isbjunk",.un),
   (nm "besti",.un),(nm "bestj",.un),(nm "bestsize",.un),(nm "j2len",.un),(nm "nothing",.un),(nm "i",.un),(nm "j2lenget",.un),(nm "newj2len",.un),(nm "j",.un),(nm "k",.un)] [] s)
  (h:∀v s' Γ',Sc B (Cb (g7 dV) L 213) Γ' [] s'→De (XX B.Xo (Cb (g7 dV) L 213) []) s'.heap v (.known (gI (qH as bs aV (ah.getD as.length) aH (bh.getD bs.length)).1 (qH as bs aV (ah.getD as.length) aH (bh.getD bs.length)).2.1 (qH as bs aV (ah.getD as.length) aH (bh.getD bs.length)).2.2))→Q (.ret v) s'):
  Ex w A (Cb (g7 dV) L 213) (aN (mt 6 6)) Q E s:=by
 obtain⟨EZ,hz,h0,h1,h2,h3,h4,h5,la,lb,ok⟩:=I
 have HO:=gr w aG d0
 refine Ex.of I1 ?_
 refine cV S λs1 S1=> ?_
 refine CQ ac.hh S1 (ao.Ly (.cons (ao.attr (ao.name m0) G1 HO m8 .dat) (.cons (ao.attr (ao.name m0) G1 HO m7 .dat) (.cons (ao.attr (ao.name m0) G1 HO m2 .dict) (.cons (ao.contains (ao.attr (ao.name m0) G1 HO m1 .set)) .nil)))) (by rw[sizeLine_eq];simp))
  (.cons (bY.name OG (keep hL)) (.cons (bY.name NC (keep hL)) (.cons (bY.name IA (keep hL)) (.cons (bY.name Hy (keep hL)) .nil)))) λs2 S2=> ?_
 have last:∀s3,Sc B (Cb (g7 dV) L 213) [(nm "self",.known (MK w as bs)),(nm "alo",.int aV),(nm "ahi",.int (ah.getD as.length)),(nm "blo",.int aH),(nm "bhi",.int (bh.getD bs.length)),(nm "a",cK as),(nm "b",cK bs),(nm "b2j",.known (cC (strKind pw w) (zH bs))),(nm "isbjunk",.known QG),
   (nm "besti",.un),(nm "bestj",.un),(nm "bestsize",.un),(nm "j2len",.un),(nm "nothing",.un),(nm "i",.un),(nm "j2lenget",.un),(nm "newj2len",.un),(nm "j",.un),(nm "k",.un)] [] s3→Ex w A (Cb (g7 dV) L 213) [aC (aN (mt 6 6)) 4,aC (aN (mt 6 6)) 5,aC (aN (mt 6 6)) 6,aC (aN (mt 6 6)) 7,aC (aN (mt 6 6)) 8,aC (aN (mt 6 6)) 9,aC (aN (mt 6 6)) 10,aC (aN (mt 6 6)) 11,aC (aN (mt 6 6)) 12] Q E s3:=λs3 S3=>
  I3 (b0:=(0,0,0)) (d1:=.un) (d2:=.un) (d3:=.un) (d4:=.un) (d5:=.un) (d6:=.un) (d7:=.un) ac G1 hL hz EZ h0 h1 h2 h3 h4 h5 la lb ok S3 h
 have mid:∀s3,Sc B (Cb (g7 dV) L 213) [(nm "self",.known (MK w as bs)),(nm "alo",.int aV),(nm "ahi",.int (ah.getD as.length)),(nm "blo",.int aH),(nm "bhi",.dat (P7 bh)),(nm "a",cK as),(nm "b",cK bs),(nm "b2j",.known (cC (strKind pw w) (zH bs))),(nm "isbjunk",.known QG),
   (nm "besti",.un),(nm "bestj",.un),(nm "bestsize",.un),(nm "j2len",.un),(nm "nothing",.un),(nm "i",.un),(nm "j2lenget",.un),(nm "newj2len",.un),(nm "j",.un),(nm "k",.un)] [] s3→Ex w A (Cb (g7 dV) L 213) [aC (aN (mt 6 6)) 3,aC (aN (mt 6 6)) 4,aC (aN (mt 6 6)) 5,aC (aN (mt 6 6)) 6,aC (aN (mt 6 6)) 7,aC (aN (mt 6 6)) 8,aC (aN (mt 6 6)) 9,aC (aN (mt 6 6)) 10,aC (aN (mt 6 6)) 11,aC (aN (mt 6 6)) 12] Q E s3:=λs3 S3=>by
  cases bh with
  |none=>
   refine eL S3 ((TV.kH (d:=.none) (ao.name m4)).cast (b:=true) rfl) (λz_ s4 S4=> ?_) (λh=>by cases h)
   refine Ex.of YQ ?_
   refine aI S4 ((ao.len (ao.bG G1 (by kernel_rfl) (by kernel_rfl) rfl rfl (by kernel_rfl)) (ao.name m6) (by rw[sizeLine_eq,Qa];exact Na hz (by decide))).bO (by rw[Qa];rfl)) BJ (keep hL) λs5 S5=>aU (last s5 S5)
  |some i=>exact eL S3 ((TV.kH (d:=.int i) (ao.name m4)).cast (b:=false) rfl) (λh=>by cases h) λz_ s4 S4=>aU (last s4 S4)
 cases ah with
 |none=>
  refine eL S2 ((TV.kH (d:=.none) (ao.name m2)).cast (b:=true) rfl) (λz_ s4 S4=> ?_) (λh=>by cases h)
  refine Ex.of YO ?_
  refine aI S4 ((ao.len (ao.bG G1 (by kernel_rfl) (by kernel_rfl) rfl rfl (by kernel_rfl)) (ao.name m5) (by rw[sizeLine_eq,Qa];exact Na EZ (by decide))).bO (by rw[Qa];rfl)) at2 (keep hL) λs5 S5=>aU (mid s5 S5)
 |some i=>exact eL S2 ((TV.kH (d:=.int i) (ao.name m2)).cast (b:=false) rfl) (λh=>by cases h) λz_ s4 S4=>aU (mid s4 S4)
theorem Et{v:qa}{as bs:aa Str}{k:Nat}(ac:Ac A (k+3))(G:aW w aG d0 s.heap)(hX:∀a∈X,a<s.heap.objs.size)(hv:De X s.heap v (.known (MK w as bs)))(I:HU as bs 0 as.length 0 bs.length):
  Ia (Md w) A (Ic (.ref 213) [v] []) (λv s'=>Kp s s'∧De X s'.heap v (.known (gI (qH as bs 0 as.length 0 bs.length).1 (qH as bs 0 as.length 0 bs.length).2.1 (qH as bs 0 as.length 0 bs.length).2.2))) E s:=by
 refine cu (s0:=s) (X:=X) (fd:=g7 (aG 213)) (body:=aN (mt 6 6)) (Γa:=[(nm "self",.known (MK w as bs)),(nm "alo",.int 0),(nm "ahi",.dat .none),(nm "blo",.int 0),(nm "bhi",.dat .none)])
  (Γ0:=[(nm "self",.known (MK w as bs)),(nm "alo",.int 0),(nm "ahi",.dat .none),(nm "blo",.int 0),(nm "bhi",.dat .none),(nm "a",.un),(nm "b",.un),(nm "b2j",.un),(nm "isbjunk",.un),
   (nm "besti",.un),(nm "bestj",.un),(nm "bestsize",.un),(nm "j2len",.un),(nm "nothing",.un),(nm "i",.un),(nm "j2lenget",.un),(nm "newj2len",.un),(nm "j",.un),(nm "k",.un)])
  ac G.ru (G.kf _ _ (by kernel_rfl)) (Wc G.ko (by kernel_rfl)) rfl (binds:=[(nm "self",v),(nm "alo",.int 0 559),(nm "ahi",.none),(nm "blo",.int 0 560),(nm "bhi",.none)]) (Ai (T:=206) (o:=⟨.type "tuple",none,.seq #[.int (0) 559,.none,.int (0) 560,.none] 0,#[]⟩) rfl (G.ko _ _ (by kernel_rfl)) rfl rfl rfl) (.bN _) rfl hX
  (.cons hv (.cons (.int ..) (.cons .none (.cons (.int ..) (.cons .none .nil))))) (d9.mem (.cons m0 (.cons m1 (.cons m2 (.cons m3 (.cons m4 (.un (.un (.un (.un (.un (.un (.un (.un (.un (.un (.un (.un (.un (.un .nil)))))))))))))))))))) λB A' L R s1 E' hB pD hL S eO fin=> ?_
 exact Ew (ah:=none) (bh:=none) (k:=k) eO (hB▸G) hL I S λv s' Γ' S' r=>fin _ _ ⟨hB▸S'.kp,r.sub λb hb=>XX.out (pD▸hb)⟩
theorem Eu{v va vb vc vd:qa}{as bs:aa Str}{aV bK aH aZ:Int}{k:Nat}(ac:Ac A (k+3))(G:aW w aG d0 s.heap)(hX:∀a∈X,a<s.heap.objs.size)(hv:De X s.heap v (.known (MK w as bs)))(ha:De X s.heap va (.int aV))(hb:De X s.heap vb (.int bK))(hc:De X s.heap vc (.int aH))(hd:De X s.heap vd (.int aZ))(I:HU as bs aV bK aH aZ):
  Ia (Md w) A (Ic (.ref 213) [v,va,vb,vc,vd] []) (λv s'=>Kp s s'∧De X s'.heap v (.known (gI (qH as bs aV bK aH aZ).1 (qH as bs aV bK aH aZ).2.1 (qH as bs aV bK aH aZ).2.2))) E s:=by
 refine cu (s0:=s) (X:=X) (fd:=g7 (aG 213)) (body:=aN (mt 6 6)) (Γa:=[(nm "self",.known (MK w as bs)),(nm "alo",.int aV),(nm "ahi",.int bK),(nm "blo",.int aH),(nm "bhi",.int aZ)])
  (Γ0:=[(nm "self",.known (MK w as bs)),(nm "alo",.int aV),(nm "ahi",.int bK),(nm "blo",.int aH),(nm "bhi",.int aZ),(nm "a",.un),(nm "b",.un),(nm "b2j",.un),(nm "isbjunk",.un),
   (nm "besti",.un),(nm "bestj",.un),(nm "bestsize",.un),(nm "j2len",.un),(nm "nothing",.un),(nm "i",.un),(nm "j2lenget",.un),(nm "newj2len",.un),(nm "j",.un),(nm "k",.un)])
  ac G.ru (G.kf _ _ (by kernel_rfl)) (Wc G.ko (by kernel_rfl)) rfl (binds:=[(nm "self",v),(nm "alo",va),(nm "ahi",vb),(nm "blo",vc),(nm "bhi",vd)]) (Ai (T:=206) (o:=⟨.type "tuple",none,.seq #[.int (0) 559,.none,.int (0) 560,.none] 0,#[]⟩) rfl (G.ko _ _ (by kernel_rfl)) rfl rfl rfl) (.bN _) rfl hX
  (.cons hv (.cons ha (.cons hb (.cons hc (.cons hd .nil))))) (d9.mem (.cons m0 (.cons m1 (.cons m2 (.cons m3 (.cons m4 (.un (.un (.un (.un (.un (.un (.un (.un (.un (.un (.un (.un (.un (.un .nil)))))))))))))))))))) λB A' L R s1 E' hB pD hL S eO fin=> ?_
 exact Ew (ah:=some bK) (bh:=some aZ) (k:=k) eO (hB▸G) hL I S λv s' Γ' S' r=>fin _ _ ⟨hB▸S'.kp,r.sub λb hb=>XX.out (pD▸hb)⟩
variable{s2:za}
theorem Cr{vs:aa qa}{l:aa (Str×D)}{fI:ia}{kk:Nat}(S2:Sc B env Γ Δ s2)(G:aW w aG d0 B.s0.heap)(ok:fD (KK w aG d0) C)
  (hc:∀(x dx:ia) (s3:za) (X:aa ia) (E:qa→za→Prop),(∀a∈X,a<s3.heap.objs.size)→dx∈X→x∉X→s3.heap.get? x=some (instObj C dx)→(MO.attrs [] 0).At X s3.heap dx→Kp s2 s3→(∀a∈X,a=dx∨a∈XX B.Xo env Δ)→s2.heap.get? dx=none→aW w aG d0 (blank dx s3).heap→aW w aG d0 s3.heap→
   wc (Md w) (A.under (.builtin "type.__call__" ⟨.ref C::vs,[]⟩)) (.call (.ref fI) ⟨.ref x::vs,[]⟩) (λr s'=>match r with|.ok (.ret v)=>Kp (blank dx s3) s'∧(MO.attrs l kk).At X s'.heap dx∧De X s'.heap v (.dat .none)|.ok _=>gc|.error e=>E e s') s3)
  (hi:Aa (findIn (KK w aG d0) (.ref C) "__init__"=some (some (.ref fI))) aK)(ht:Aa (typeIn (KK w aG d0) (.ref fI)=some (.type "function")) aK):
  Ia (Md w) A (Ic (.ref C) vs) (λv s'=>Kp s2 s'∧De (XX B.Xo env Δ) s'.heap v (.known (fU C l))) E s2:=by
 have G2:=S2.g8 G
 refine sf ?_
 have bB:∀a∈XX B.Xo env Δ,a<s2.heap.objs.size:=λa ha=>S2.jH ha
 have N4:Kp s2 {s2 with heap:=(s2.heap.push emptyDict).push (instObj C s2.heap.objs.size)}:=(Kp.push s2 emptyDict).trans' (Kp.push {s2 with heap:=s2.heap.push emptyDict} _)
 have e1:(s2.heap.push emptyDict).objs.size=s2.heap.objs.size+1:=Yc ..
 have B7:∀b,s2.heap.objs.size≤b→b∉XX B.Xo env Δ:=λb hb hx=>Pc _ (Dc (bB b hx) hb)
 have su:((s2.heap.push emptyDict).push (instObj C s2.heap.objs.size)).get? s2.heap.objs.size=some emptyDict:=qc _ (Zb _ rfl)
 have Zr:((s2.heap.push emptyDict).push (instObj C s2.heap.objs.size)).get? (s2.heap.objs.size+1)=some (instObj C s2.heap.objs.size):=e1▸Zb (s2.heap.push emptyDict) rfl
 have call:=hc (s2.heap.objs.size+1) s2.heap.objs.size {s2 with heap:=(s2.heap.push emptyDict).push (instObj C s2.heap.objs.size)} (s2.heap.objs.size::XX B.Xo env Δ) E
  (λa ha=>by
   show a<((s2.heap.push emptyDict).push (instObj C s2.heap.objs.size)).objs.size
   refine(Yc ..).symm▸(e1 ..).symm▸ ?_
   rcases Za.mp ha with rfl|ha
   ·exact kh (Ph _)
   ·exact Dc (bB a ha) (Tc _ 2))
  La (λh=>by
   rcases Za.mp h with h|h
   ·have h: @Eq Nat (s2.heap.objs.size+1) s2.heap.objs.size:=h;exact Mw h
   ·exact B7 _ (Tc _ _) h) Zr
  ⟨λz_=>none,⟨_,_,_,su,rfl,(λe he=>by simp at he),(λz_=>rfl),by simp⟩,⟨λz_ z_=>rfl,λp hp=>nomatch hp⟩⟩ N4
  (λa ha=>Za.mp ha) (get_none (zb _))
  (G.keeps λb o eo=>by
   have hb:b≠s2.heap.objs.size:=λh=>by
    have:=Ub (S2.kp.up b o eo);rw[h]at this;exact Pc _ this
   refine(bV _ hb ..).symm▸ ?_
   exact N4.up b o (S2.kp.up b o eo)) (G2.keeps N4.up)
 obtain⟨h2,g2,YG,t2,ZY⟩:=s2
 refine make_core (makes_of G2.kk ok.makes) (looks_findIn G2.kk hi) (λself=>bind_fn G2.kk self ht) (.inl rfl) (codeAny_mono call λr s' z=> ?_)
 cases r with
 |error e=>exact z
 |ok f=>
  cases f with
  |ret v=>
   refine yI z λz1 z2 z3=> ?_
   have z3:Rd _ _ v .none:=z3
   refine⟨by cases z3;rfl,?_⟩
   obtain⟨⟨h',tk,rfl⟩,u⟩:=qP z1
   have kk2:Kp ⟨h2,g2,YG,t2,ZY⟩ ⟨h',g2,YG,tk,ZY⟩:=⟨h',tk,rfl,λb o eo=>u b o (λh=>by have:=Ub eo;rw[h]at this;exact Pc _ this) (N4.up b o eo)⟩
   refine⟨kk2,?_⟩
   refine bE z2 λmm hn hh=> ?_
   exact⟨_,h2.objs.size,mm,rfl,B7 _ (Tc _ 1),B7 _ (zb _),u _ _ (Bh _) Zr,hn.ns,hh.more λb o hb z_ h=>hb (Wa _ h)⟩
  |next =>exact z
  |brk=>exact z
  |cont=>exact z
noncomputable def z6(l:ia)(ds:aa PyData):dW where
 P X h v:=v=.ref l∧Rd X h (.ref l) (.list ds)
 keep k:=λ⟨e,r⟩=>⟨e,r.at λb o hb e=>.inr ⟨hb,k b o hb e⟩⟩
 more k:=λ⟨e,r⟩=>⟨e,Rd.more k r⟩
theorem Ju:aN (mt 21 1)=[aC (aN (mt 21 1)) 0,aC (aN (mt 21 1)) 1,aC (aN (mt 21 1)) 2,aC (aN (mt 21 1)) 3]:=by kernel_rfl
theorem Zs:fb (aC (aN (mt 21 1)) 3)=[aC (fb (aC (aN (mt 21 1)) 3)) 0]:=by kernel_rfl
theorem Jv{x dx l:ia}{k:Nat}(ac:Ac A (k+1))(G:aW w aG d0 s.heap)(Gb:aW w aG d0 (blank dx s).heap)(hX:∀a∈X,a<s.heap.objs.size)(hl:dx∈X)(hx:x∉X)(hg:s.heap.get? x=some (instObj hC dx))(hm:(MO.attrs [] 0).At X s.heap dx)(hv:Rd X s.heap (.ref l) (.list [])):
  wc (Md w) A (.call (.ref 360) ⟨[.ref x,.ref l],[]⟩) (λr s'=>match r with|.ok (.ret v)=>Kp (blank dx s) s'∧(MO.attrs [(nm "_headers",.val (.ref l))] 1).At X s'.heap dx∧De X s'.heap v (.dat .none)|.ok _=>gc|.error e=>E e s') s:=by
 refine jt (fd:=HK "__init__" "Headers.__init__" 1 (.ref 353) (aG 360) 359) (body:=aN (mt 21 1)) (Γa:=[(nm "self",.known (fO hC dx)),(nm "headers",.known (z6 l []))]) (Γ0:=[(nm "self",.known (fO hC dx)),(nm "headers",.known (z6 l []))])
  ac G.ru (G.kf _ _ (by kernel_rfl)) (Wc G.ko (by kernel_rfl)) rfl (binds:=[(nm "self",.ref x),(nm "headers",.ref l)]) (Ai (T:=353) (o:=⟨.type "tuple",none,.seq #[.none] 0,#[]⟩) rfl (G.ko _ _ (by kernel_rfl)) rfl rfl rfl) hX hl hm
  (.cons ⟨x,rfl,hx,hg⟩ (.cons ⟨rfl,hv⟩ .nil)) (λp hp hu=>hp) λB A' L R s1 E' hB hL S eO fin=> ?_
 have G1:aW w aG d0 B.s0.heap:=hB▸Gb
 have ok:=bu w aG d0
 have toL:∀X h v,De X h v (.known (z6 l []))→De X h v (.list []):=λX h v ⟨e,r⟩=>e▸r
 refine Ex.of Ju ?_
 refine aI S (ao.ite (TV.tF (ao.name m1) (λX h v ⟨e,r⟩=>by rw[e];intro q;cases q)) (λz_=>ao.name m1) (λh=>by cases h)) BH (keep hL) λs2 S2=> ?_
 refine cS S2 (TV.Cm (T:="list") (U:="list") (ao.Hp (ao.bG G1 (by kernel_rfl) (by kernel_rfl) rfl rfl (by kernel_rfl)) ((ao.name m1).imp toL)) (ao.bG G1 (by kernel_rfl) (by kernel_rfl) rfl rfl (by kernel_rfl))) (by decide) λs3 S3=> ?_
 refine dU S3 ((ao.name m1).imp (d':=.val (.ref l)) λX h v ⟨e,r⟩=>e) (ao.name m0) G1 ok .here .new (by exact Uc _) λs4 S4=> ?_
 refine eL S4 (TV.dI ao.jY) (λz_ s5 S5=> ?_) (λh=>by cases h)
 refine Ex.of Zs ?_
 refine vD (bX:=.list []) (items:=[]) eO.hh S5 ((ao.name m1).imp toL) (.list _ (by rw[sizeLine_eq];simp)) (λi Γ' Δ'=>Γ'=[(nm "self",.known (fO hC dx)),(nm "headers",.known (z6 l []))]∧Δ'=[(dx,.attrs [(nm "_headers",.val (.ref l))] 1)]) ⟨rfl,rfl⟩ (λz_ i d I m Γ1 Δ1 z_ z_ hd=>by simp at hd) ?_
 rintro s6 Γ2 Δ2 ⟨rfl,rfl⟩ S6
 exact aU (aU (fin _ _ _ S6 .none))
theorem yz.headers{x:Str}{p lp pos:Pos}{k:Nat}(ac:Ac A (k+2))(G:aW w aG d0 B.s0.heap)(hf:ao w A B env Γ Δ (.Name x p) (.val (.ref hC))):yz w A B env Γ Δ (.Call (.Name x p) [.List [] lp] [] pos) (λd N=>∃l,d=.known (HL l)∧N=[(l,.list [])]):=.mk λs E S=>by
 refine Ke rfl (hf.use S λv s1 k1 S1 r1=> ?_)
 obtain rfl:v=.ref hC:=r1
 have he:Rb [.List [] lp] env=(false,eval (.List [] lp) env)::Rb [] env:=aF _ _ _ rfl
 refine callWith_K (K:=KK w aG d0) G.kk (bu w aG d0).keep ?_ he rfl
 refine(he ..).symm▸ ?_
 refine Le (Pa (z5.nil.go s1 E S1) (λu s2 q=>bg ?_) λz_ z_ z=>z)
 obtain⟨k2,l,vs,rfl,NO,hL,hr,_⟩:=q
 have ZD:vs=[]:=by cases hr;rfl
 subst ZD
 have S2:=S1.upd k2
 refine⟨(S2.g8 G).kk,?_⟩
 have hnl:l∉XX B.Xo env Δ:=λh=>NO.off _ h rfl
 refine Pa (Cr (l:=[(nm "_headers",.val (.ref l))]) (kk:=1) (fI:=360) S2 G (bu w aG d0) (λx dx s3 X E hX su hx hg hm k3 EW EV Gb G3=> ?_)) (λv s4 q=> ?_) λz_ z_ z=>z
 ·have hlX:l∉X:=λh=>by
   rcases EW l h with h|h
   ·refine bE hL λo ho z_=> ?_
    rw[h,EV]at ho;cases ho
   ·exact hnl h
  exact Jv (k:=k) ac.under G3 Gb hX su hx hg hm (Rd.listAt (vs:=[]) hlX (hL.at λo e=>k3.up _ _ e) .nil)
 ·refine xA q λk4 hI=> ?_
  have S4:=S1.take (k2.trans' k4) (a:=l) (m:=.list []) NO ⟨[],hL.at λo e=>k4.up _ _ e,.nil⟩
  obtain⟨x,dx,mm,rfl,hx,su,hg,yF,hh⟩:=hI
  have out:∀b o,b∉XX B.Xo env Δ→s4.heap.get? b=some o→o.cls≠ .type "list"→b∉XX B.Xo env ((l,MO.list [])::Δ):=λb o hb e hc hx=>by
   rcases XX.cases hx with h|h|⟨y,h⟩|⟨m',h⟩
   ·exact hb (XX.out h)
   ·exact hb (h▸XX.loc)
   ·exact hb (XX.cell h)
   ·rcases Za.mp h with h|h
    ·cases h
     refine mO (hL.at λo e=>k4.up _ _ e) λo' nL HF z_=> ?_
     rw[nL]at e;cases e;exact hc HF
    ·exact hb (XX.own h)
  refine⟨k1.trans' (k2.trans' k4),_,_,⟨l,rfl,rfl⟩,S4,x,dx,mm,rfl,out x _ hx hg (λq=>by cases q),?_,hg,yF,⟨hh.off,λp hp=> ?_⟩⟩
  ·refine Hw (id yF) λo es ep ho hd z_=> ?_
   refineλhxx=> ?_
   rcases XX.cases hxx with h|h|⟨y,h⟩|⟨m',h⟩
   ·exact su (XX.out h)
   ·exact su (h▸XX.loc)
   ·exact su (XX.cell h)
   ·rcases Za.mp h with h|h
    ·cases h
     obtain⟨o',nL,_,_,n,lC⟩:=hL.at λo e=>k4.up _ _ e
     rw[nL]at ho;cases ho;rw[lC]at hd;cases hd
    ·exact su (XX.own h)
  ·refine bE (hh.has p hp) λu e hu=> ?_
   rw[Vb.mp hp]at hu e⊢
   exact⟨u,e,hu⟩
open PySem.Builtin
noncomputable abbrev T3:=Int×Int×Int
noncomputable def Bm(t:T3):PyData:=.tuple [.int t.1,.int t.2.1,.int t.2.2]
noncomputable def jP(a b:T3):Ga:=if a.1==b.1 then(if a.2.1==b.2.1 then(if a.2.2==b.2.2 then false else decide (a.2.2>b.2.2))else decide (a.2.1>b.2.1))else decide (a.1>b.1)
theorem AF{a b:Int}{t u:Tok}{Q:qa→za→Prop}(h:Q (.bool (decide (a>b))) s):Ia (Md w) A (richCompare .Gt (.int a t) (.int b u)) Q E s:=PySem.P.gt_int (prog:=pw) (w:=w) (A:=A) (E:=E) (s:=s) (t:=t) (u:=u) h
theorem J2{a b:Int}{t u:Tok}{Q:qa→za→Prop}(h:Q (.bool (decide (a<b))) s):Ia (Md w) A (richCompare .Lt (.int a t) (.int b u)) Q E s:=PySem.P.lt_int (prog:=pw) (w:=w) (A:=A) (E:=E) (s:=s) (t:=t) (u:=u) h
@[elab_as_elim] theorem Rd.t3 {M:qa→Prop} {X:aa ia} {h:Ja} {u:qa} {a:T3} (r:Rd X h u (Bm a)) (k:∀x t1 t2 t3,IsTup h x #[.int a.1 t1,.int a.2.1 t2,.int a.2.2 t3]→M (.ref x)):M u:=by
 obtain⟨x,us,rfl,_,hT,hr⟩:=De.isTup (X:=X) (h:=h) r
 revert hT
 exact hr.c3 λu v z r1 r2 r3=>De.kQ r1 λt1=>De.kQ r2 λt2=>De.kQ r3 λt3 hT=>k _ _ _ _ hT
theorem O2{X:aa ia}{u v:qa}{a b:T3}{Q:qa→za→Prop}(hu:A.units<cLine)(ra:Rd X s.heap u (Bm a))(rb:Rd X s.heap v (Bm b))(h:Q (.bool (jP a b)) s):Ia (Md w) A (richCompare .Gt u v) Q E s:=by
 refine Rd.t3 ra λx t1 t2 t3 hT=>Rd.t3 rb λy u1 u2 u3 hT2=> ?_
 have ta:s.TypeIs (.ref x) "tuple":=hT.typeIs
 have tb:s.TypeIs (.ref y) "tuple":=hT2.typeIs
 refine wpAny_richCompare_same_or ta tb PySem.F.slot_tuple_gt (Yg PySem.F.slot_tuple_gt ta PySem.F.entry_tuple_gt ?_ (PySem.F.args_tuple_gt_2 _ _)) (.inr hu)
 obtain⟨o,ho,hc,n,hd⟩:=hT
 obtain⟨o2,ho2,O7,n2,hd2⟩:=hT2
 refine Ca (Kd (a:=(.ref x,[.ref y])) rfl ?_)
 refine Ca (Qj (T:="tuple") (b:=true) tb (by rw[Pg];kernel_rfl) (if_not rfl ?_))
 refine Ca (Ca ((kJ ho hd).here (Ka ?_)))
 refine Ca (Ca ((kJ ho2 hd2).here (Ka ?_)))
 have step:∀{p q:Int} {t u:Tok} {rest:aa (qa×qa)} {R:Ma Fin×Unit→za→Prop} {F:qa×qa→Ma Fin×Unit→Sem (ForInStep (Ma Fin×Unit))} {E':qa→za→Prop},
   (∀z,F (.int p t,.int q u) z=(do
    let e←eqBool (.int p t) (.int q u)
    if(!e)=true then(do
     rule "tuple.compare.by-the-first-pair-that-differs"
     let r←richCompare .Gt (.int p t) (.int q u)
     let f←ret r
     pure (ForInStep.done (some f,())))else pure (Af (none,()))))→
   (p≠q→R (some (Fin.done (.ret (.bool (decide (p>q))))),()) s)→(p=q→Ia (Md w) A.in1 (forIn rest (none,()) F) R E' s)→
   Ia (Md w) A.in1 (forIn ((.int p t,.int q u)::rest) (none,()) F) R E' s:=by
  intro p q t u rest R F E' hF h1 h2
  rw[qi,hF]
  refine Ca (Ca (wpAny_eqBool_int ?_))
  by_cases e:p=q
  ·exact if_not (by simpa using e) (Ka (h2 e))
  ·exact qM (by simpa using e) (Ca (fh (Ca (AF (Ca (Ka (Ka (Ka (h1 e)))))))))
 have fin:∀{b':Ga},jP a b=b'→Q (.bool b') s:=λe=>e▸h
 refine Ca ?_
 refine step (λz=>rfl) (λe=> ?_) (λe1=>step (λz=>rfl) (λe=> ?_) (λe2=>step (λz=>rfl) (λe=> ?_) (λe3=> ?_)))
 ·exact Ka ⟨_,rfl,(λh=>nomatch h),fin (by unfold jP;rw[if_neg (by simpa using e)])⟩
 ·exact Ka ⟨_,rfl,(λh=>nomatch h),fin (by unfold jP;rw[if_pos (by simpa using e1),if_neg (by simpa using e)])⟩
 ·exact Ka ⟨_,rfl,(λh=>nomatch h),fin (by unfold jP;rw[if_pos (by simpa using e1),if_pos (by simpa using e2),if_neg (by simpa using e)])⟩
 ·rw[show(aa.zipWith Prod.mk [] []:aa (qa×qa))=[]from rfl,nh]
  exact Ka (Ka ⟨_,rfl,(λh=>nomatch h),fin (by unfold jP;rw[if_pos (by simpa using e1),if_pos (by simpa using e2),if_pos (by simpa using e3)];rfl)⟩)
noncomputable def fV(ts:aa T3):Nat→Nat
 |0=>0
 |k+1=>if jP (ts.getD (k+1) (0,0,0)) (ts.getD (fV ts k) (0,0,0))then k+1 else fV ts k
theorem Ct{l I S:ia}{vs:aa qa}{ts:aa T3}(hh:A.handled=none)(hu:A.units+1<cLine)(hlI:l≠I)(hlS:l≠S)(QI:I≠S):
  ∀(k j:Nat) (s:za) (vb:qa) (c:Nat) (R:Yd→za→Prop),ts.length-(j+1)=k→j+1≤ts.length→s.heap.IsListIter I l (j+1)→s.heap.IsList l vs.toArray→aD [I,S] s.heap vs (ts.map Bm)→fV ts j<ts.length→vs[fV ts j]? =some vb→
  s.heap.get? S=some {cls:=.type "list",dict:=none,data:=.seq #[vb,vb] c,slots:= #[]}→
  (∀v h' tk,vs[fV ts (ts.length-1)]? =some v→(∀b o,b≠I→b≠S→s.heap.get? b=some o→h'.get? b=some o)→R (.ok (.ret v)) {s with heap:=h',toks:=tk})→
  wc (Md w) A (.builtin "max.loop" ⟨[.ref I,.none,.ref S],[]⟩) R s:=by
 have W:=ng (prog:=pw) (w:=w) (A:=A.in1) hh I l hlI vs.toArray
 have wZ:(toString "max"++toString ".loop":Yb)="max.loop":=by decide
 intro k
 induction k with
 |zero=>
  intro j s vb c R hk hj hI hL hr hbl hvb hS hR
  have HG:j+1=ts.length:=by exact UO hk hj
  have hlen:vs.length=ts.length:=by have:=hr.length;simpa using this
  refine Zh bk ?_
  refine(Nj Sg _ ..).symm▸ ?_
  refine Ca (Zg hS rfl ?_)
  refine Ca (Jh (W.done s _ _ ⟨by rw[show vs.toArray.size=j+1 by simp[hlen,HG]];exact hI,hL⟩ λh' tk iM=> ?_))
  have NK:=iM S _ (by simpa using Bf QI) hS
  refine Ca (Eh NK rfl (Ca (wpAny_letGo (Ka ?_))))
  refine hR vb _ tk (by rw[←HG];exact hvb) λb o O6 HE e=>(Ak _ _ (Bf HE)).trans (iM b o (by simpa using O6) e)
 |succ k ih=>
  intro j s vb c R hk hj hI hL hr hbl hvb hS hR
  have bB:j+1<ts.length:=by exact Nat.lt_of_sub_eq_succ hk
  have hlen:vs.length=ts.length:=by have:=hr.length;simpa using this
  refine Zh bk ?_
  refine(Nj Sg _ ..).symm▸ ?_
  refine Ca (Zg hS rfl ?_)
  refine Ca (Jh (W.item (j+1) s _ _ (by simp[hlen];omega) ⟨hI,hL⟩ λv h' tk hP uK iM=> ?_))
  have NK:=iM S _ (by simpa using Bf QI) hS
  have NW:aD [I,S] h' vs (ts.map Bm):=hr.at λb o hb e=>.inr ⟨hb,iM b o (λq=>hb (by rw[Vb.mp q];simp)) e⟩
  have hv1:vs[j+1]? =some v:=by simpa using hP
  refine bE (NW.of_get hv1) λd1 e1 r1=> ?_
  refine bE (NW.of_get hvb) λd2 e2 r2=> ?_
  have g:∀{i:Nat} {d:PyData},(ts.map Bm)[i]? =some d→d=Bm (ts.getD i (0,0,0)):=λ{i d} e=>by
   rw[Ab]at e
   obtain⟨t,ht,rfl⟩:=fc.mp e
   rw[Lb,ht];rfl
  rw[g e1]at r1
  rw[g e2]at r2
  refine Ca (Ka ?_)
  refine Ca (Jh (Jc (Ca (O2 (s:={s with heap:=h',toks:=tk}) hu r1 r2 ?_))))
  refine Ca (Jc (gi ?_))
  refine Ca (wpAny_letGo (Ka ?_))
  cases hb:jP (ts.getD (j+1) (0,0,0)) (ts.getD (fV ts j) (0,0,0))with
  |true=>
   have Zk:fV ts (j+1)=j+1:=by simp only[fV,hb,if_true]
   refine qM rfl (Ca (Eh NK rfl (Ca (wpAny_letGo ?_))))
   refine(wZ ..).symm▸ ?_
   have ot:∀b o,b≠S→h'.get? b=some o→(h'.update S (Obj.mapSeq λz_=> #[v,v])).get? b=some o:=λb o HE e=>(Ak _ _ (Bf HE)).trans e
   refine Ka ⟨Ri Sg _,ih (j+1) _ v _ _ (by exact MZ hk) (by exact bB) ?_ ?_ ?_ (by rw[Zk];omega) (by rw[Zk];exact hv1) (lg _ NK rfl) λv' YW G7 Y8 EP=> ?_⟩
   ·obtain⟨o,ho,q⟩:=uK.1;exact⟨o,ot _ _ QI ho,q⟩
   ·obtain⟨o,ho,q⟩:=uK.2;exact⟨o,ot _ _ hlS ho,q⟩
   ·exact NW.at λb o hb e=>.inr ⟨hb,ot b o (λq=>hb (by rw[q];simp)) e⟩
   ·exact hR v' YW G7 Y8 λb o O6 HE e=>EP b o O6 HE (ot b o HE (iM b o (by simpa using O6) e))
  |false=>
   have Zk:fV ts (j+1)=fV ts j:=by simp only[fV,hb,wg,yg]
   refine if_not rfl (Ca (wpAny_letGo ?_))
   refine(wZ ..).symm▸ ?_
   refine Ka ⟨Ri Sg _,ih (j+1) _ vb c _ (by exact MZ hk) (by exact bB) uK.1 uK.2 NW (by rw[Zk];exact hbl) (by rw[Zk];exact hvb) NK λv' YW G7 Y8 EP=> ?_⟩
   exact hR v' YW G7 Y8 λb o O6 HE e=>EP b o O6 HE (iM b o (by simpa using O6) e)
theorem zy{l:ia}{vs:aa qa}{ts:aa T3}{Q:qa→za→Prop}(hh:A.handled=none)(hu:A.units+1<cLine)(hL:s.heap.IsList l vs.toArray)(hr:aD [] s.heap vs (ts.map Bm))(hn:0<ts.length)
  (h:∀v h' tk,vs[fV ts (ts.length-1)]? =some v→(∀b o,s.heap.get? b=some o→h'.get? b=some o)→Q v {s with heap:=h',toks:=tk}):Ia (Md w) A (call (.builtin "max") [.ref l]) Q E s:=by
 have wZ:(toString "max"++toString ".loop":Yb)="max.loop":=by decide
 have hlen:vs.length=ts.length:=by have:=hr.length;simpa using this
 refine call_function_tree PySem.F.kind_max PySem.F.plain_max PySem.F.entry_max (PySem.F.args_max1 _) ?_
 refine Ca (Kd (show Ob.Builtins.bindParams "max" ["key","default"] 0 ⟨[],[]⟩=pure [none,none]from rfl) ?_)
 refine Ca (Ka (Ca (Rh hL ?_)))
 refine Ca (Ld ?_)
 refine(wZ ..).symm▸ ?_
 generalize hI:s.heap.objs.size=I
 have bB: @Od Nat _ l I:=by obtain⟨_,e,_⟩:=hL;rw[←hI];exact Ub e
 have hz:(s.heap.push {cls:=.type "list_iterator",data:=.fields #[.ref l,.int 0 0]}).objs.size=I+1:=by rw[Yc,hI]
 have hlI:l≠I:=se bB
 have QI: @Ne Nat I (I+1):=(Bh I).symm
 have hlS: @Ne Nat l (I+1):=by exact DN bB
 refine Ka ⟨Ri Sg _,?_⟩
 show wc (Md w) A (.builtin "max.loop" ⟨[.ref I,.none,.ref (s.heap.push {cls:=.type "list_iterator",data:=.fields #[.ref l,.int 0 0]}).objs.size],[]⟩) _ _
 refine(hz ..).symm▸ ?_
 have up:∀b o,s.heap.get? b=some o→((s.heap.push {cls:=.type "list_iterator",data:=.fields #[.ref l,.int 0 0]}).push {cls:=.type "list",data:=.seq #[]}).get? b=some o:=λb o e=>qc _ (qc _ e)
 have hgI:((s.heap.push {cls:=.type "list_iterator",data:=.fields #[.ref l,.int 0 0]}).push {cls:=.type "list",data:=.seq #[]}).get? I=some {cls:=.type "list_iterator",data:=.fields #[.ref l,.int 0 0]}:=qc _ (hI▸Zb _ rfl)
 have hgS:((s.heap.push {cls:=.type "list_iterator",data:=.fields #[.ref l,.int 0 0]}).push {cls:=.type "list",data:=.seq #[]}).get? (I+1)=some {cls:=.type "list",data:=.seq #[]}:=hz▸Zb _ rfl
 have W:=ng (prog:=pw) (w:=w) (A:=A.in1) hh I l hlI vs.toArray
 have nI:∀b o,s.heap.get? b=some o→b≠I∧ @Ne Nat b (I+1):=λb o e=>by
  have: @Od Nat _ b I:=by rw[←hI];exact Ub e
  exact⟨se this,by exact DN this⟩
 have hr0:aD [I,I+1] ((s.heap.push {cls:=.type "list_iterator",data:=.fields #[.ref l,.int 0 0]}).push {cls:=.type "list",data:=.seq #[]}) vs (ts.map Bm):=hr.at λb o hb e=>.inr ⟨λq=>by
  have:=nI b o e
  simp only[Za,Vf,Rf]at q
  rcases q with q|q
  ·exact this.1 q
  ·exact this.2 q,up b o e⟩
 refine Zh bk ?_
 refine(Nj Sg _ ..).symm▸ ?_
 refine Ca (Zg hgS rfl ?_)
 refine Ca (Jh (W.item 0 _ _ _ (by simp[hlen];omega) ⟨⟨_,hgI,rfl,rfl⟩,hL.imp λo e=>⟨up _ _ e.1,e.2⟩⟩ λv h' tk hP uK iM=> ?_))
 have NK:=iM (I+1) _ (by simp) hgS
 refine Ca (Ka ?_)
 refine Ca (Eh NK rfl ?_)
 refine(wZ ..).symm▸ ?_
 have ot:∀b o,@Ne Nat b (I+1)→h'.get? b=some o→(h'.update (I+1) (Obj.mapSeq λz_=> #[v,v])).get? b=some o:=λb o HE e=>(Ak _ _ (Bf HE)).trans e
 refine Ka ⟨Ri Sg _,Ct hh hu hlI hlS QI _ 0 _ v _ _ rfl hn ?_ ?_ ?_ hn (by show vs[0]? =some v;simpa using hP) (lg _ NK rfl) λv' YW G7 Y8 EP=> ?_⟩
 ·obtain⟨o,ho,q⟩:=uK.1;exact⟨o,ot _ _ QI ho,q⟩
 ·obtain⟨o,ho,q⟩:=uK.2;exact⟨o,ot _ _ hlS ho,q⟩
 ·exact hr0.at λb o hb e=>.inr ⟨hb,ot b o (λq=>hb (by rw[q];simp)) (iM b o (λq=>hb (by rw[Vb.mp q];simp)) e)⟩
 ·refine h v' YW G7 Y8 λb o e=> ?_
  have:=nI b o e
  exact EP b o this.1 this.2 (ot b o this.2 (iM b o (by simpa using this.1) (up b o e)))
noncomputable def eN(a b:T3):Prop:=a.1<b.1∨(a.1=b.1∧(a.2.1<b.2.1∨(a.2.1=b.2.1∧a.2.2≤b.2.2)))
set_option tactic.hygienic true in
theorem ym{a b:T3}(h:jP a b=false):eN a b:=by
 unfold jP at h
 unfold eN
 split at h
 ·rename_i e
  have e:a.1=b.1:=by simpa using e
  split at h
  ·rename_i e2
   have e2:a.2.1=b.2.1:=by simpa using e2
   split at h
   ·rename_i e3
    have e3:a.2.2=b.2.2:=by simpa using e3
    exact .inr ⟨e,.inr ⟨e2,by exact Di e3⟩⟩
   ·have:=qg h;exact .inr ⟨e,.inr ⟨e2,by exact ig.mp this⟩⟩
  ·rename_i e2
   have e2:a.2.1≠b.2.1:=by simpa using e2
   have:=qg h;exact .inr ⟨e,.inl (by exact LU e2 this)⟩
 ·rename_i e
  have e:a.1≠b.1:=by simpa using e
  have:=qg h;exact .inl (by exact LU e this)
set_option tactic.hygienic true in
theorem zX{a b:T3}(h:jP a b=true):eN b a:=by
 unfold jP at h
 unfold eN
 split at h
 ·rename_i e
  have e:a.1=b.1:=by simpa using e
  split at h
  ·rename_i e2
   have e2:a.2.1=b.2.1:=by simpa using e2
   split at h
   ·cases h
   ·have:=Xf h;exact .inr ⟨by exact e.symm,.inr ⟨by exact e2.symm,by exact gf this⟩⟩
  ·have:=Xf h;exact .inr ⟨by exact e.symm,.inl (by omega)⟩
 ·have:=Xf h;exact .inl (by omega)
theorem i7{a b:T3}(h:eN a b):a.1≤b.1:=h.elim gf λh=>Di h.1
theorem CY{a b:T3}(h:eN a b)(e:a.1=b.1):a.2.1≤b.2.1∧(a.2.1=b.2.1→a.2.2≤b.2.2):=h.elim (λh=>absurd e (Int.ne_of_lt h)) λ⟨_,h⟩=>h.elim (λh=>⟨gf h,λe=>absurd e (Int.ne_of_lt h)⟩) λh=>⟨Di h.1,λz_=>h.2⟩
theorem yp{a b c:T3}(h:eN a b)(h2:eN b c):eN a c:=
 h.elim (λh=>.inl (h2.elim (Int.lt_trans h) λq=>q.1▸h)) λ⟨e,h⟩=>h2.elim (λq=>.inl (e▸q)) λ⟨e2,q⟩=>.inr ⟨e.trans e2,h.elim (λh=>.inl (q.elim (Int.lt_trans h) λq=>q.1▸h)) λ⟨f,h⟩=>q.elim (λq=>.inl (f▸q)) λ⟨f2,q⟩=>.inr ⟨f.trans f2,jf h q⟩⟩
theorem rO(a:T3):eN a a:=.inr ⟨rfl,.inr ⟨rfl,Hi _⟩⟩
theorem zY{a b:T3}(h:eN a b)(h2:eN b a):a=b:=by
 obtain⟨a1,a2,a3⟩:=a
 obtain⟨b1,b2,b3⟩:=b
 have e1:a1=b1:=zg (i7 h) (i7 h2)
 subst e1
 have g:=(h.resolve_left (Cg _)).2
 have g2:=(h2.resolve_left (Cg _)).2
 have e2:a2=b2:=zg (g.elim gf λq=>Di q.1) (g2.elim gf λq=>Di q.1)
 subst e2
 rw[show a3=b3 from zg (g.resolve_left (Cg _)).2 (g2.resolve_left (Cg _)).2]
set_option tactic.hygienic true in
theorem qp(ts:aa T3):∀k,fV ts k≤k∧∀i,i≤k→eN (ts.getD i (0,0,0)) (ts.getD (fV ts k) (0,0,0))
 |0=>⟨zb _,λi hi=>by rw[show i=0 by exact Nat.eq_zero_of_le_zero hi];exact rO _⟩
 |k+1=>by
  refine xA (qp ts k) λh1 h2=> ?_
  unfold fV
  split
  ·rename_i h
   refine⟨zb _,λi hi=> ?_⟩
   by_cases e:i=k+1
   ·rw[e];exact rO _
   ·exact yp (h2 i (by exact Ar hi e)) (zX h)
  ·rename_i h
   refine⟨by exact Mg h1,λi hi=> ?_⟩
   by_cases e:i=k+1
   ·rw[e];exact ym (by simpa using h)
   ·exact h2 i (by exact Ar hi e)
theorem ao.ZO{x:Str}{p pos:Pos}{e:Ba}{ts:aa T3}{t:T3}(hh:A.handled=none)(hu:A.units+1<cLine)(hf:ao w A B env Γ Δ (.Name x p) (.val (.builtin "max")))(y:ao w A B env Γ Δ e (.list (ts.map Bm)))(hm:t∈ts)(hx:∀u∈ts,eN u t)
  (he:Aa (notStar e=true) aR):ao w A B env Γ Δ (.Call (.Name x p) [e] [] pos) (.dat (Bm t)):=
 hf.oE (.cons y .nil he) λvs s E S r=>by
  refine r.c1 λv r1=> ?_
  obtain⟨a,us,rfl,ha,hl,hr⟩:=Rd.isList r1
  have hn:0<ts.length:=Ik hm
  refine zy hh hu hl (hr.at λb o hb e=>.inr ⟨by simp,e⟩) hn λv h' tk hv hk=>⟨.of s hk,?_⟩
  refine bE (hr.of_get hv) λd hd rd=> ?_
  rw[Ab]at hd
  obtain⟨t',ht',rfl⟩:=fc.mp hd
  have hg:ts.getD (fV ts (ts.length-1)) (0,0,0)=t':=by rw[Lb,ht'];rfl
  obtain⟨j,hj,rfl⟩:=Th.mp hm
  have h1:=(qp ts (ts.length-1)).2 j (by exact Nat.le_sub_one_of_lt hj)
  rw[hg,Lb,Wb hj]at h1
  have h2:=hx t' (Ff ht')
  have h1:eN ts[j] t':=h1
  refine(zY h1 h2 ..).symm▸ ?_
  exact rd.up hk
set_option tactic.hygienic true in
theorem jm(R:Int→Int→Prop)(hr:∀a,R a a)(ht:∀a b c,R a b→R b c→R a c)(bt:Nat→Nat→Ga)(ns:aa Int)(h1:∀i j,bt i j=true→R (ns.getD j 0) (ns.getD i 0))(h2:∀i j,bt i j=false→R (ns.getD i 0) (ns.getD j 0)):
  ∀k,argBest bt k≤k∧∀i,i≤k→R (ns.getD i 0) (ns.getD (argBest bt k) 0)
 |0=>⟨zb _,λi hi=>by rw[show i=0 by exact Nat.eq_zero_of_le_zero hi];exact hr _⟩
 |k+1=>by
  refine xA (jm R hr ht bt ns h1 h2 k) λa b=> ?_
  unfold argBest
  split
  ·rename_i h
   refine⟨zb _,λi hi=> ?_⟩
   by_cases e:i=k+1
   ·rw[e];exact hr _
   ·exact ht _ _ _ (b i (by exact Ar hi e)) (h1 _ _ h)
  ·rename_i h
   refine⟨by exact Mg a,λi hi=> ?_⟩
   by_cases e:i=k+1
   ·rw[e];exact h2 _ _ (by simpa using h)
   ·exact b i (by exact Ar hi e)
theorem aD.intAt{X:aa ia}{h:Ja}{vs:aa qa}{ns:aa Int}(r:aD X h vs (ns.map .int)){i:Nat}{v:qa}(hv:vs.toArray[i]? =some v):∃t,v=.int (ns.getD i 0) t∧i<ns.length:=by
 have hv:vs[i]? =some v:=by simpa using hv
 refine bE (r.of_get hv) λd hd rd=> ?_
 rw[Ab]at hd
 obtain⟨n,hn,rfl⟩:=fc.mp hd
 cases rd
 exact⟨_,by rw[Lb,hn];rfl,(ud.mp hn).1⟩
theorem ao.ZN{x:Str}{p pos:Pos}{e:Ba}{ns:aa Int}{m:Int}(hh:A.handled=none)(hf:ao w A B env Γ Δ (.Name x p) (.val (.builtin "max")))(y:ao w A B env Γ Δ e (.list (ns.map .int)))(hm:m∈ns)(hx:∀u∈ns,u≤m)
  (he:Aa (notStar e=true) aR):ao w A B env Γ Δ (.Call (.Name x p) [e] [] pos) (.int m):=
 hf.oE (.cons y .nil he) λvs s E S r=>by
  refine r.c1 λv r1=> ?_
  obtain⟨a,us,rfl,ha,hl,hr⟩:=Rd.isList r1
  have hn:0<ns.length:=Ik hm
  have bB:a≠s.heap.objs.size:=by obtain⟨_,e,_⟩:=hl;exact se (Ub e)
  refine call_max_walk (Rh hl ⟨s.heap.objs.size,[s.heap.objs.size,a],[s.heap.objs.size],us.toArray.size,_,_,λi j=>decide (ns.getD i 0>ns.getD j 0),rfl,ng (prog:=pw) (w:=w) (A:=A.in1) hh _ a bB us.toArray,⟨⟨_,Zb _ rfl,rfl,rfl⟩,hl.push _⟩,λb hb=> ?_,by simp[hr.length];exact hn,
   λi j vi vj s Q E h1 h2 hQ=> ?_,λv h' tk hv hk=>⟨.of s λb o e=>hk b o (λq=> ?_) (qc _ e),?_⟩⟩)
  ·show b<(s.heap.push _).objs.size
   refine(Yc ..).symm▸ ?_
   simp only[Za,Vf,Rf]at hb
   rcases hb with rfl|rfl
   ·exact Ph _
   ·obtain⟨_,e,_⟩:=hl;exact kh (Ub e)
  ·obtain⟨t1,rfl,_⟩:=hr.intAt h1
   obtain⟨t2,rfl,_⟩:=hr.intAt h2
   exact AF hQ
  ·rw[Vb.mp q]at e;exact Pc _ (Ub e)
  ·obtain⟨t,rfl,hi⟩:=hr.intAt hv
   obtain⟨j,hj,rfl⟩:=Th.mp hm
   have w5:us.toArray.size=ns.length:=by simp[hr.length]
   have sp:=(jm (λa b=>a≤b) (λa=>Hi a) (λa b c=>jf) (λi j=>decide (ns.getD i 0>ns.getD j 0)) ns (λi j h=>gf (Xf h)) (λi j h=>by have:=qg h;exact ig.mp this) (us.toArray.size-1)).2 j (by exact M6 hj w5)
   have e1:ns.getD j 0=ns[j]:=by rw[Lb,Wb hj];rfl
   have e2:=hx (ns.getD (argBest (λi j=>decide (ns.getD i 0>ns.getD j 0)) (us.toArray.size-1)) 0) (by rw[Lb,Wb hi];exact Dg hi)
   rw[e1]at sp
   rw[show ns[j]=ns.getD (argBest (λi j=>decide (ns.getD i 0>ns.getD j 0)) (us.toArray.size-1)) 0 from zg sp e2]
   exact .int ..
theorem ao.aa0{x:Str}{p pos:Pos}{e:Ba}{ns:aa Int}{m:Int}(hh:A.handled=none)(hf:ao w A B env Γ Δ (.Name x p) (.val (.builtin "min")))(y:ao w A B env Γ Δ e (.list (ns.map .int)))(hm:m∈ns)(hx:∀u∈ns,m≤u)
  (he:Aa (notStar e=true) aR):ao w A B env Γ Δ (.Call (.Name x p) [e] [] pos) (.int m):=
 hf.oE (.cons y .nil he) λvs s E S r=>by
  refine r.c1 λv r1=> ?_
  obtain⟨a,us,rfl,ha,hl,hr⟩:=Rd.isList r1
  have hn:0<ns.length:=Ik hm
  have bB:a≠s.heap.objs.size:=by obtain⟨_,e,_⟩:=hl;exact se (Ub e)
  refine call_min_walk (Rh hl ⟨s.heap.objs.size,[s.heap.objs.size,a],[s.heap.objs.size],us.toArray.size,_,_,λi j=>decide (ns.getD i 0<ns.getD j 0),rfl,ng (prog:=pw) (w:=w) (A:=A.in1) hh _ a bB us.toArray,⟨⟨_,Zb _ rfl,rfl,rfl⟩,hl.push _⟩,λb hb=> ?_,by simp[hr.length];exact hn,
   λi j vi vj s Q E h1 h2 hQ=> ?_,λv h' tk hv hk=>⟨.of s λb o e=>hk b o (λq=> ?_) (qc _ e),?_⟩⟩)
  ·show b<(s.heap.push _).objs.size
   refine(Yc ..).symm▸ ?_
   simp only[Za,Vf,Rf]at hb
   rcases hb with rfl|rfl
   ·exact Ph _
   ·obtain⟨_,e,_⟩:=hl;exact kh (Ub e)
  ·obtain⟨t1,rfl,_⟩:=hr.intAt h1
   obtain⟨t2,rfl,_⟩:=hr.intAt h2
   exact J2 hQ
  ·rw[Vb.mp q]at e;exact Pc _ (Ub e)
  ·obtain⟨t,rfl,hi⟩:=hr.intAt hv
   obtain⟨j,hj,rfl⟩:=Th.mp hm
   have w5:us.toArray.size=ns.length:=by simp[hr.length]
   have sp:=(jm (λa b=>b≤a) (λa=>Hi a) (λa b c h1 h2=>jf h2 h1) (λi j=>decide (ns.getD i 0<ns.getD j 0)) ns (λi j h=>gf (Xf h)) (λi j h=>by have:=qg h;exact ig.mp this) (us.toArray.size-1)).2 j (by exact M6 hj w5)
   have e1:ns.getD j 0=ns[j]:=by rw[Lb,Wb hj];rfl
   have e2:=hx (ns.getD (argBest (λi j=>decide (ns.getD i 0<ns.getD j 0)) (us.toArray.size-1)) 0) (by rw[Lb,Wb hi];exact Dg hi)
   rw[e1]at sp
   rw[show ns[j]=ns.getD (argBest (λi j=>decide (ns.getD i 0<ns.getD j 0)) (us.toArray.size-1)) 0 from zg e2 sp]
   exact .int ..
noncomputable def blanks(ls:aa ia)(s:za):za:=ls.foldr blank s
theorem dX:∀(ls:aa ia) (s:za),(blanks ls s).heap.objs.size=s.heap.objs.size
 |[],s=>rfl
 |l::ls,s=>(qt l (blanks ls s)).trans (dX ls s)
theorem wy{a:ia}{ls:aa ia}(s:za)(h:a∈ls):(blanks ls s).heap.get? a=none:=by
 induction ls with
 |nil=>cases h
 |cons l ls ih=>
  have e1:blanks (l::ls) s=blank l (blanks ls s):=rfl
  refine(e1 ..).symm▸ ?_
  by_cases e:a=l
  ·rw[e];exact jq l _
  ·refine(bV _ e ..).symm▸ ?_
   exact ih ((Za.mp h).resolve_left e)
theorem gn{b:ia}{ls:aa ia}(s:za)(h:b∉ls):(blanks ls s).heap.get? b=s.heap.get? b:=by
 induction ls with
 |nil=>rfl
 |cons l ls ih=>
  simp only[Za,not_or]at h
  have e1:blanks (l::ls) s=blank l (blanks ls s):=rfl
  rw[e1,bV _ h.1];exact ih h.2
theorem sO:∀(ls:aa ia) (s:za),Kp (blanks ls s) s
 |[],s=>.bN s
 |l::ls,s=>(lQ l (blanks ls s)).trans' (sO ls s)
theorem Cn{ls:aa ia}{s s':za}(k:Kp (blanks ls s) s'):(∃h' tk,s'={s with heap:=h',toks:=tk})∧∀b o,b∉ls→s.heap.get? b=some o→s'.heap.get? b=some o:=by
 have base:∀(ls:aa ia) (s:za),(blanks ls s).gens=s.gens∧(blanks ls s).drawn=s.drawn∧(blanks ls s).os=s.os:=λls s=>by
  induction ls with
  |nil=>exact⟨rfl,rfl,rfl⟩
  |cons l ls ih=>exact ih
 obtain⟨h',tk,rfl,u⟩:=k
 refine yI (base ls s) λe1 e2 e3=> ?_
 exact⟨⟨h',tk,by rw[e1,e2,e3]⟩,λb o hb e=>u b o ((gn s hb).trans e)⟩
variable{s4:za}{Γf:aa (Str×D)}{Δ0 Δl Δr:aa (ia×MO)}{scope:Lc}
theorem Sc.lend{s0:za}{Xo:aa ia}{Φ:aa (qa×D)}(S:Sc ⟨s0,Xo,Φ⟩ env Γ Δ0 s4)(hl:∀p∈Δl,p.1∈Xo∧p.1≠env.locals∧(∀x c,(x,c)∈env.cells→c≠p.1)∧p.2.At (XX Xo env Δ0) s4.heap p.1)(hd:(Δl.map (·.1)).Nodup):
  Sc ⟨blanks (Δl.map (·.1)) s0,Xo.filter λa=> !decide (a∈Δl.map (·.1)),Φ⟩ env Γ (Δ0++Δl) s4:=by
 have mem:∀{a:ia},a∈Xo.filter (λa=> !decide (a∈Δl.map (·.1)))↔a∈Xo∧a∉Δl.map (·.1):=λ{a}=>by simp[Xd]
 have key:∀b,b∈XX (Xo.filter λa=> !decide (a∈Δl.map (·.1))) env (Δ0++Δl)→b∈XX Xo env Δ0:=λb hb=>by
  rcases XX.cases hb with h|h|⟨y,h⟩|⟨m,h⟩
  ·exact XX.out (mem.mp h).1
  ·exact h▸XX.loc
  ·exact XX.cell h
  ·rcases zc.mp h with h|h
   ·exact XX.own h
   ·exact XX.out (hl _ h).1
 have nl:∀{a:ia},a∉Xo→a∉Δl.map (·.1):=λh q=>by
  obtain⟨p,hp,rfl⟩:=Ra.mp q
  exact h (hl p hp).1
 refine⟨(sO _ _).trans' S.kp,λa ha=> ?_,S.ns,?_,λx c hc=> ?_,λy z c hy hz hc=>S.ap y z c hy hz (by show s0.heap.objs.size≤c;rw[←dX (Δl.map (·.1)) s0];exact hc),S.nd,λp hp hu=> ?_,λp hp=> ?_,?_,λp hp=>(S.gh p hp).sub key⟩
 ·show a<(blanks _ s0).heap.objs.size
  rw[dX];exact S.xo a (mem.mp ha).1
 ·show(blanks _ s0).heap.objs.size≤env.locals
  rw[dX];exact S.lf
 ·refine yI (S.cl x c hc) λa b d=> ?_
  refine⟨a,b,?_⟩
  rcases d with d|d
  ·left;show(blanks _ s0).heap.objs.size≤c;rw[dX];exact d
  ·right
   refine mem.mpr ⟨d,λq=> ?_⟩
   refine bE (Ra.mp q) λp hp e=> ?_
   exact(hl p hp).2.2.1 x c hc e.symm
 ·refine bE (S.vars p hp hu) λv b d=> ?_
  exact⟨v,b,d.sub key⟩
 ·rcases zc.mp hp with hp|hp
  ·obtain⟨a,b,⟨c1,c2⟩,d⟩:=S.own p hp
   refine⟨a,b,⟨?_,λq=>c2 (mem.mp q).1⟩,d.sub key⟩
   show(blanks _ s0).heap.get? p.1=none
   rw[gn _ (nl c2)];exact c1
  ·refine eS (hl p hp) λa b c d=> ?_
   exact⟨b,c,⟨wy _ (jd (f:=(·.1)) hp),λq=>(mem.mp q).2 (jd (f:=(·.1)) hp)⟩,d.sub key⟩
 ·refine(Mc ..).symm▸ ?_
  refine Ze.mpr ⟨S.dn,hd,λa ha b hb q=> ?_⟩
  obtain⟨p,hp,rfl⟩:=Ra.mp ha
  subst q
  exact nl (S.own p hp).2.2.1.2 hb
noncomputable def N5(B:Bx)(env:Env)(Δl Δr:aa (ia×MO))(s1:za)(g:qa×D):Bx:=⟨blanks (Δl.map (·.1)) s1,(XX B.Xo env (Δl++Δr)).filter λa=> !decide (a∈Δl.map (·.1)),g::B.Φ⟩
theorem FF{elt iter:Ba}{x:Str}{px pos:Pos}{α:Type}{l:aa α}{φ:α→PyData}{Inv:Nat→aa qa→aa (ia×MO)→Prop}{R:Yd→za→Prop}{I L:ia}{o:Obj}{v:qa}{d:D}(hh:A.handled=none)(h0:Inv 0 [] Δ)
  (S:Sc B env ((x,.un)::Γf) ((I,.obj o)::(L,.vals [])::Δ) s)(gd:(v,d)∈B.Φ)(hit:bF d (l.map φ))(dY:bT I d v 0 o)(hn:(((x,D.un)::Γf).map (·.1)).Nodup)
  (asg:∀a:α,∀Δ',bY w A B env (.Name x px) (.dat (φ a)) ((x,.un)::Γf) ((x,.dat (φ a))::Γf) Δ')
  (turn:∀(i:Nat) (a:α) (ys:aa qa) (Δx:aa (ia×MO)) (mI:MO) (s2:za) (E':qa→za→Prop),l[i]? =some a→Inv i ys Δx→Sc B env ((x,.dat (φ a))::Γf) ((I,mI)::(L,.vals ys)::Δx) s2→
   Ia (Md w) A (eval elt env) (λv s3=>∃n7,Inv (i+1) (ys++[v]) n7∧Sc B env ((x,.dat (φ a))::Γf) ((I,mI)::(L,.vals ys)::n7) s3) E' s2)
  (after:∀ys Δx s',Sc B env ((x,.un)::Γf) ((L,.vals ys)::Δx) s'→Inv l.length ys Δx→R (.ok .next) s'):
  wc (Md w) A (.compLoop (.ListComp elt [⟨.Name x px,iter,[],0⟩] scope pos) 0 (.ref I) (.ref L) env) R s:=by
 refine sP (λk s'=>∃i ys oI Δx,ys.length≤i∧i≤l.length∧k=l.length+1-i∧bT I d v i oI∧Inv i ys Δx∧Sc B env ((x,.un)::Γf) ((I,.obj oI)::(L,.vals ys)::Δx) s') ?_ (l.length+1) ⟨0,[],o,Δ,Uc _,Uc _,rfl,dY,h0,S⟩
 clear S dY h0
 rintro F K k s' fin ⟨i,ys,oI,Δx,zp,hi,rfl,dY,Y3,S⟩
 by_cases bB:i<l.length
 ·refine S.nT hh gd hit dY (by rw[Qa];exact bB) λu d' s2 oK hd S2 r2 nK ho2=> ?_
  rw[Ab]at hd
  obtain⟨a,ha,rfl⟩:=fc.mp hd
  refine nO ho2 (nK.calm _ ho2) ((asg a _).go _ _ _ _ S2 r2 λs7 S7 z_=> ?_)
  rw[nh]
  refine Ka ((if_pos rfl).mpr ?_)
  refine Pa (turn i a ys Δx _ s7 F ha Y3 S7) (λy s8 q=> ?_) λz_ z_ z=>z
  refine bE q λn7 Y4 S8=> ?_
  refine qT (S8.get_own (p:=(L,.vals ys)) (Wa _ La)) (λh9 hl9 hs9=>fin _ ⟨l.length+1-(i+1),sJ bB,i+1,ys++[y],oK,n7,?_,bB,rfl,nK,Y4,?_⟩) ?_
  ·rw[Dd];exact Wi zp
  ·refine(S8.set_own (tk:=s8.toks) (h':=h9) (.there (.here (m':=.vals (ys++[y])))) (λb o hb e=>(hs9.2 b hb).trans e) ?_).weak (λp hp hu=>by
    rcases Za.mp hp with rfl|hp
    ·exact absurd rfl hu
    ·exact Wa _ hp) hn
   show kO h9 _ (ys++[y]).toArray
   rw[←aa.push_toArray];exact hl9
  ·have:=hit.size;simp at this⊢;exact W2 zp bB this
 ·obtain rfl:i=l.length:=Tg hi (Sf.mp bB)
  exact S.endAt hh gd hit (by rw[Qa];exact dY) λh' tk iM=>after ys Δx _ (S.gone iM) Y3
theorem LCI.core{elt iter:Ba}{x:Str}{px pos:Pos}{bX:D}{α:Type}{l:aa α}{φ:α→PyData}{Inv:Nat→aa qa→aa (ia×MO)→Prop}{use:Ma (qa→Sem Unit)}{Q:qa→za→Prop}
  (hh:A.handled=none)(src:ao w A B env Γ (Δl++Δr) iter bX)(hit:bF bX (l.map φ))(ok:dJ scope env)(hk:env.scope.kind=.function)(yO:mV Γ scope env Γf)
  (hx:(scope.names.lookup x==some .local||scope.names.lookup x==some .cell)=true)(hn:pI (x::Γf.map (·.1))=true)(hs:br iter=true)(h0:Inv 0 [] Δl)
  (turn:∀(i:Nat) (d:α) (ys:aa qa) (Δx:aa (ia×MO)) (B':Bx) (C I a:ia) (mI:MO) (s2:za) (E':qa→za→Prop),l[i]? =some d→Inv i ys Δx→Up B.s0.heap B'.s0.heap→ @Zc Nat _ B'.s0.heap.objs.size C→
   Sc B' (b9 scope C env) ((x,.dat (φ d))::Γf) ((I,mI)::(a,.vals ys)::Δx) s2→
   Ia (Md w) A (eval elt (b9 scope C env)) (λv s3=>∃n7,Inv (i+1) (ys++[v]) n7∧Sc B' (b9 scope C env) ((x,.dat (φ d))::Γf) ((I,mI)::(a,.vals ys)::n7) s3) E' s2)
  (S:Sc B env Γ (Δl++Δr) s)
  (fin:∀(s1 s2:za) (m:Str→Ma qa) (ys:aa qa) (Δx:aa (ia×MO)) (v:qa),Kp s s1→Sc B env Γ (Δl++Δr) s1→Sc (N5 B env Δl Δr s1 (v,bX)) (b9 scope (s1.heap.objs.size+2) env) ((x,.un)::Γf) ((s1.heap.objs.size+1,.vals ys)::Δx) s2→
   Inv l.length ys Δx→s2.heap.Ns (s1.heap.objs.size+2) m→compPost (Md w) A E use Q (.ref (s1.heap.objs.size+1)) (s1.heap.objs.size+2) (.ok .next) s2):
  Ia (Md w) A (comprehension (.ListComp elt [⟨.Name x px,iter,[],0⟩] scope pos) scope env (firstIterPos [⟨.Name x px,iter,[],0⟩] pos) (newList []) (firstAsync [⟨.Name x px,iter,[],0⟩]) (firstIter [⟨.Name x px,iter,[],0⟩] env) use) Q E s:=by
 refine jj (use:=use) rfl (gF hs) (fu ok.free) ok.kind (λy hy hl=>cM ok.nodup (by rw[←hl];exact hy))
  (src.use S λv s1 k1 S1 r1=>gH r1 hit λo Jz dY=>Ld (iB ?_))
 dsimp only
 have z1:(s1.heap.push o).objs.size=s1.heap.objs.size+1:=Yc ..
 have z2:((s1.heap.push o).push {cls:=.type "list",dict:=none,data:=.seq ([]:aa qa).toArray}).objs.size=s1.heap.objs.size+2:=by rw[Yc,z1]
 have S1g:=S1.ghost r1
 obtain⟨more,S4⟩:=Sc.comp S1g ok hk (Γ0:=(x,.un)::Γf) (bD hn) (λp hp hu=>by
   rcases Za.mp hp with rfl|hp
   ·exact absurd rfl hu
   ·exact yO.mem p hp hu) (oI:=o) (oA:={cls:=.type "list",dict:=none,data:=.seq ([]:aa qa).toArray}) (mI:=.obj o) (mA:=.vals []) rfl
  (λX h' u=>u _ _ (qc _ Jz)) (λX h' u=>⟨_,u _ _ (z1▸Zb (s1.heap.push o) rfl),rfl,rfl,_,rfl⟩)
 refine(z2 ..).symm▸(z1 ..).symm▸ ?_
 have u0:Up s1.heap (pushCells (((s1.heap.push o).push {cls:=.type "list",dict:=none,data:=.seq ([]:aa qa).toArray}).push {cls:=.type "dict",data:=.dict #[]}) scope.names):=λb o e=>pushCells_keeps _ _ b o (qc _ (qc _ (qc _ e)))
 generalize hs4:({s1 with heap:=pushCells (((s1.heap.push o).push {cls:=.type "list",dict:=none,data:=.seq ([]:aa qa).toArray}).push {cls:=.type "dict",data:=.dict #[]}) scope.names}:za)=s4 at S4⊢
 have u4:Up s1.heap s4.heap:=by rw[←hs4];exact u0
 have B9:∀p∈lT scope env,env.cells.lookup p.1=some p.2:=λp hp=>by
  rcases wB env scope.names [] ok.free p hp with h|h
  ·cases h
  ·exact h
 have YZ:(Δl.map (·.1)).Nodup:=by have:=S1.dn;rw[Mc]at this;exact(Ze.mp this).1
 have S5:=S4.lend (Δl:=Δl) (λp hp=>by
  have hm:p∈Δl++Δr:=Qc _ hp
  refine eS (S1g.own p hm) λa1 a2 a3 a4=> ?_
  have bB: @Od Nat _ p.1 s1.heap.objs.size:=S1.jH (XX.own hm)
  refine⟨XX.own hm,?_,λy c hc=> ?_,((a4.more more).keep (λz_ z_ z_ e=>u4 _ _ e) λz_ e=>u4 _ _ e)⟩
  ·show @Ne Nat p.1 (s1.heap.objs.size+2);exact Ao bB
  ·rcases zc.mp hc with h|h
   ·have: @Zc Nat _ (s1.heap.objs.size+2) c:=gq (C:=s1.heap.objs.size+2) scope.names (s1.heap.objs.size+2+1) [] (λz_ h=>nomatch h) (Of _) _ h
    show @Ne Nat c p.1
    exact VH bB this
   ·exact a2 y c (cL (B9 _ h))) YZ
 have EX:Up B.s0.heap (blanks (Δl.map (·.1)) s1).heap:=λb ob e=>by
  rw[gn s1 λq=> ?_]
  ·exact S1.kp.up b ob e
  ·obtain⟨p,hp,rfl⟩:=Ra.mp q
   have:=(S1.own p (Qc _ hp)).2.2.1.1
   rw[this]at e;cases e
 have l7: @Zc Nat _ (blanks (Δl.map (·.1)) s1).heap.objs.size (s1.heap.objs.size+2):=by rw[dX];exact Tc _ _
 have loop:=FF (elt:=elt) (iter:=iter) (pos:=pos) (px:=px) (scope:=scope) (R:=compPost (Md w) A E use Q (.ref (s1.heap.objs.size+1)) (s1.heap.objs.size+2)) (x:=x) hh h0 S5 La hit dY (bD hn)
  (λa Δ'=>bY.name .here (dP l7 ok.nodup (by simpa using hx)) ok.kind) (λi a ys Δx mI s2 E' hi hI S'=>turn i a ys Δx _ _ _ _ mI s2 E' hi hI EX l7 S') λys Δx s' S' hI=>xE S'.ns λm hm=>fin s1 s' m ys Δx v k1 S1 S' hI hm
 exact Vj loop (S5.rG hh La hit dY loop)
noncomputable abbrev jQ(elt t1 i1 t2 i2:Ba)(scope:Lc)(pos:Pos):Ba:=.ListComp elt [⟨t1,i1,[],0⟩,⟨t2,i2,[],0⟩] scope pos
theorem r8(elt t1 i1 t2 i2:Ba)(scope:Lc)(pos:Pos)(it acc:qa)(env:Env):
  compTurn (jQ elt t1 i1 t2 i2 scope pos) 0 it acc env=(do
   standAt i1.pos
   match←Ad it with
   |none=>pure (.done .next)
   |some v=>
    Bg t1 it v
    assign t1 env v
    let x←eval i2 env
    standAt i2.pos
    let x←foldedSetIterable i2 env x
    let NY←holding [x] (pyIter x)
    let _←runOwn (.compStart (jQ elt t1 i1 t2 i2 scope pos) 1 NY acc env) env
    again (.compLoop (jQ elt t1 i1 t2 i2 scope pos) 0 it acc env)):=by
 unfold compTurn
 simp only[aa.getElem?_cons_zero,nh,pure_bind]
 rfl
theorem r9(elt t1 i1 t2 i2:Ba)(scope:Lc)(pos:Pos)(it acc:qa)(env:Env):
  compTurn (jQ elt t1 i1 t2 i2 scope pos) 1 it acc env=(do
   standAt i2.pos
   match←Ad it with
   |none=>pure (.done .next)
   |some v=>
    Bg t2 it v
    assign t2 env v
    (do let _←call (.builtin "list.append") [acc,←eval elt env])
    again (.compLoop (jQ elt t1 i1 t2 i2 scope pos) 1 it acc env)):=by rfl
variable{R:Yd→za→Prop}
theorem wF{elt t1 i1 t2 i2:Ba}{scope:Lc}{pos:Pos}{it acc:qa}{env:Env}(hs:br i2=true)(I:Nat→za→Prop)
  (turn:∀(F:qa→za→Prop) (K:Yd→za→Prop) n s,(∀f s',(∃m,m<n∧I m s')→K (.ok f) s')→I n s→Ia (Md w) A (Ad it) (λr s₁=>match r with
   |none=>R (.ok .next) s₁
   |some v=>Ia (Md w) A (Bg t1 it v) (λz_ s₁=>Ia (Md w) A (assign t1 env v) (λz_ s₂=>
     Ia (Md w) A (eval i2 env) (λx s₃=>Ia (Md w) A (pyIter x) (λNY s₄=>
      wc (Md w) A (.compStart (jQ elt t1 i1 t2 i2 scope pos) 1 NY acc env) K s₄)
      F s₃) F s₂) F s₁) F s₁) F s)
  (n:Nat)(h:I n s):wc (Md w) A (.compLoop (jQ elt t1 i1 t2 i2 scope pos) 0 it acc env) R s:=by
 refine codeAny_loop rfl I (λn s hI=> ?_) n h
 show Ia _ A ((compTurn (jQ elt t1 i1 t2 i2 scope pos) 0 it acc env).onRaise (λx=>do noteFrame x env;theTreesLotGoes x)) _ _ s
 refine wpAny_noted ?_
 refine(r8 ..).symm▸ ?_
 refine Ca (Ed (Ca (Pa (turn _ (λr s₅=>match r with|.ok _=>∃m,m<n∧I m s₅|.error e=>cameBackBy (Md w) A env (notedBy (Md w) A env λe s'=>R (.error e) s') e s₅) n s (λz_ z_ h=>h) hI) (λr s₁ h₁=> ?_) λz_ z_ h'=>h')))
 cases r with
 |none=>exact Ka h₁
 |some v=>
  refine Ca (Pa h₁ (λz_ s₁ h₁=> ?_) λz_ z_ h'=>h')
  refine Ca (Pa h₁ (λz_ s₂ h₂=> ?_) λz_ z_ h'=>h')
  refine Ca (Pa h₂ (λx s₃ h₃=>Ca (Ed (Ca ?_))) λz_ z_ h'=>h')
  refine(gF hs ..).symm▸ ?_
  refine Ka (Ca (Jc (Pa h₃ (λNY s₄ h₄=>Ca (wpAny_runOwn (codeAny_mono h₄ λr s₅ h₅=> ?_))) λz_ z_ h'=>h')))
  cases r with
  |ok f=>exact Ka ⟨rfl,h₅⟩
  |error e=>exact h₅
theorem wG{elt t1 i1 t2 i2:Ba}{scope:Lc}{pos:Pos}{it acc:qa}{env:Env}(I:Nat→za→Prop)
  (turn:∀(F:qa→za→Prop) (K:za→Prop) n s,(∀s',(∃m,m<n∧I m s')→K s')→I n s→Ia (Md w) A (Ad it) (λr s₁=>match r with
   |none=>R (.ok .next) s₁
   |some v=>Ia (Md w) A (Bg t2 it v) (λz_ s₁=>Ia (Md w) A (assign t2 env v) (λz_ s₂=>
     Ia (Md w) A (eval elt env) (λx s₄=>
       Ia (Md w) A (call (.builtin "list.append") [acc,x]) (λz_ s₅=>K s₅) F s₄) F s₂) F s₁) F s₁) F s)
  (n:Nat)(h:I n s):wc (Md w) A (.compLoop (jQ elt t1 i1 t2 i2 scope pos) 1 it acc env) R s:=by
 refine codeAny_loop rfl I (λn s hI=> ?_) n h
 show Ia _ A ((compTurn (jQ elt t1 i1 t2 i2 scope pos) 1 it acc env).onRaise (λx=>do noteFrame x env;theTreesLotGoes x)) _ _ s
 refine wpAny_noted ?_
 refine(r9 ..).symm▸ ?_
 refine Ca (Ed (Ca (Pa (turn _ (λs₅=>∃m,m<n∧I m s₅) n s (λz_ h=>h) hI) (λr s₁ h₁=> ?_) λz_ z_ h'=>h')))
 cases r with
 |none=>exact Ka h₁
 |some v=>
  refine Ca (Pa h₁ (λz_ s₁ h₁=> ?_) λz_ z_ h'=>h')
  refine Ca (Pa h₁ (λz_ s₂ h₂=> ?_) λz_ z_ h'=>h')
  exact Ca (Ca (Pa h₂ (λx s₄ h₄=>Ca (Pa h₄ (λz_ s₅ h₅=>Ka (Ka ⟨rfl,h₅⟩)) λz_ z_ h'=>h')) λz_ z_ h'=>h'))
theorem qz{elt t1 i1 t2 i2:Ba}{scope:Lc}{pos:Pos}{it acc:qa}{env:Env}
  (h0:wc (Md w) A (.compLoop (jQ elt t1 i1 t2 i2 scope pos) 1 it acc env) R s)
  (h:Ia (Md w) A (pyIter it) (λNY s'=>wc (Md w) A (.compLoop (jQ elt t1 i1 t2 i2 scope pos) 1 NY acc env) R s') (notedBy (Md w) A env λx s'=>R (.error x) s') s):
  wc (Md w) A (.compStart (jQ elt t1 i1 t2 i2 scope pos) 1 it acc env) R s:=by
 refine codeAny_of_tree ?_
 show Ia _ A ((compStart (jQ elt t1 i1 t2 i2 scope pos) 1 it acc env).onRaise (λx=>do noteFrame x env;standAt theWindowsPlace)) _ _ s
 refine wpAny_notedAt ?_
 unfold compStart
 show Ia _ A (ask>>=_) _ _ s
 refine Ca (wpAny_askSetting (wpAny_ite ?_))
 split
 ·first
   |exact Ca (Ka (Ka (And.intro rfl h0)))
   |exact Ka (And.intro rfl h0)
 ·first
   |exact Ca (fh (Ca (Ed (Ca (Pa h (λNY s' h'=>Ka (And.intro rfl h')) λz_ z_ x=>x)))))
   |(refine Ca (fh ?_);show Ia _ A (standAt i2.pos>>=_) _ _ s;exact Ca (Ed (Ca (Pa h (λNY s' h'=>Ka (And.intro rfl h')) λz_ z_ x=>x))))
theorem XX.YI{Xo:aa ia}{env:Env}{p:ia×MO}{Δ:aa (ia×MO)}{b:ia}(h:b∈XX Xo env (p::Δ)):b=p.1∨b∈XX Xo env Δ:=by
 rcases XX.cases h with h|h|⟨y,h⟩|⟨m,h⟩
 ·exact .inr (XX.out h)
 ·exact .inr (h▸XX.loc)
 ·exact .inr (XX.cell h)
 ·rcases Za.mp h with h|h
  ·exact .inl (by rw[←h])
  ·exact .inr (XX.own h)
theorem XX.ZG{Xo:aa ia}{env:Env}{p:ia×MO}{Δ:aa (ia×MO)}{b:ia}(h:b∈XX Xo env Δ):b∈XX Xo env (p::Δ):=XX.mono (λq hq=>⟨q.2,Wa _ hq⟩) h
theorem zI{α β:Type}{l:aa α}{f:α→aa β}{i:Nat}{a:α}(h:l[i]? =some a)(j:Nat):((l.take i).flatMap f++(f a).take j).length≤(l.flatMap f).length:=by
 obtain⟨hi,rfl⟩:=ud.mp h
 have e:l.flatMap f=(l.take i).flatMap f++(f l[i]++(l.drop (i+1)).flatMap f):=by
  conv =>lhs;rw[←Ci i l,Dj,Jj hi,ug]
 refine(e ..).symm▸ ?_
 simp only[Dd,uf]
 exact Wr
section
variable{elt t1 i1 i2:Ba}{y:Str}{py pos:Pos}{scope:Lc}{L:ia}{R:Yd→za→Prop}
theorem CZ{β:Type}{lb:aa β}{ψ gb:β→PyData}{p:Str×D}{q:ia×MO}{J:ia}{o:Obj}{v:qa}{d:D}{ds:aa PyData}(hh:A.handled=none)(S:Sc B env (p::(y,.un)::Γf) [(J,.obj o),q,(L,.list ds)] s)(gd:(v,d)∈B.Φ)(hit:bF d (lb.map ψ))(dY:bT J d v 0 o)(ky:cG B env y)(hk:env.scope.kind=.function)
  (turn:∀b∈lb,∀Δ',ao w A B env (p::(y,.dat (ψ b))::Γf) Δ' elt (.dat (gb b)))(hz:ds.length+lb.length≤Bb)(after:∀s',Sc B env (p::(y,.un)::Γf) [q,(L,.list (ds++lb.map gb))] s'→R (.ok .next) s'):
  wc (Md w) A (.compLoop (jQ elt t1 i1 (.Name y py) i2 scope pos) 1 (.ref J) (.ref L) env) R s:=by
 refine wG (λk s'=>∃j oJ,j≤lb.length∧k=lb.length+1-j∧bT J d v j oJ∧Sc B env (p::(y,.un)::Γf) [(J,.obj oJ),q,(L,.list (ds++(lb.take j).map gb))] s') ?_ (lb.length+1) ⟨0,o,Uc _,rfl,dY,by rw[aa.take_zero,aa.map_nil,ff];exact S⟩
 clear S dY
 rintro F K k s' fin ⟨j,oJ,hj,rfl,dY,S⟩
 by_cases bB:j<lb.length
 ·refine S.nT hh gd hit dY (by rw[Qa];exact bB) λu d' s2 oK hd S2 r2 nK ho2=> ?_
  rw[Ab]at hd
  obtain⟨b,hb,rfl⟩:=fc.mp hd
  refine nO ho2 (nK.calm _ ho2) ((bY.name (d:=.dat (ψ b)) (.there .here) ky hk).go _ _ _ _ S2 r2 λs3 S3 z_=>(turn b (Ff hb) _).use S3 λz s4 k4 S4 r4=>S4.cE (.there (.there .here)) r4 ?_ λs5 S5=>fin _ ⟨lb.length+1-(j+1),by exact sJ bB,j+1,oK,bB,rfl,nK,?_⟩)
  ·rw[Dd,Qa];exact Na (Nat.add_le_add_left (aa.length_take_le' ..) _) hz
  ·refine(Me ..).symm▸(hb ..).symm▸(Mc ..).symm▸(We ..)▸ ?_
   exact S5.forget (.there .here)
 ·obtain rfl:j=lb.length:=Tg hj (Sf.mp bB)
  rw[bf]at S
  exact S.endAt hh gd hit (by rw[Qa];exact dY) λh' tk iM=>after _ (S.gone iM)
theorem C0{x:Str}{px:Pos}{α β:Type}{l:aa α}{φ:α→PyData}{m:α→aa β}{ψ:β→PyData}{g:α→β→PyData}{d2:α→D}{I:ia}{o:Obj}{v:qa}{d:D}(hh:A.handled=none)(S:Sc B env ((x,.un)::(y,.un)::Γf) [(I,.obj o),(L,.list [])] s)(gd:(v,d)∈B.Φ)(hit:bF d (l.map φ))(dY:bT I d v 0 o)
  (kx:cG B env x)(ky:∀B',B'.s0=B.s0→cG B' env y)(hk:env.scope.kind=.function)(AJ:br i2=true)(EU:(((x,D.un)::(y,.un)::Γf).map (·.1)).Nodup)(Qv:∀a∈l,∀Δ',ao w A B env ((x,.dat (φ a))::(y,.un)::Γf) Δ' i2 (d2 a))(EO:∀a∈l,bF (d2 a) ((m a).map ψ))
  (turn:∀a∈l,∀b∈m a,∀B',B'.s0=B.s0→∀Δ',ao w A B' env ((x,.dat (φ a))::(y,.dat (ψ b))::Γf) Δ' elt (.dat (g a b)))(hz:(l.flatMap λa=>(m a).map (g a)).length≤Bb)
  (after:∀oI s' h' tk,Sc B env ((x,.un)::(y,.un)::Γf) [(I,.obj oI),(L,.list (l.flatMap λa=>(m a).map (g a)))] s'→(∀b o,b≠I→s'.heap.get? b=some o→h'.get? b=some o)→R (.ok .next) {s' with heap:=h',toks:=tk}):
  wc (Md w) A (.compLoop (jQ elt (.Name x px) i1 (.Name y py) i2 scope pos) 0 (.ref I) (.ref L) env) R s:=by
 refine wF AJ (λk s'=>∃i oI,i≤l.length∧k=l.length+1-i∧bT I d v i oI∧Sc B env ((x,.un)::(y,.un)::Γf) [(I,.obj oI),(L,.list ((l.take i).flatMap λa=>(m a).map (g a)))] s') ?_ (l.length+1) ⟨0,o,Uc _,rfl,dY,S⟩
 clear S dY
 rintro F K k s' fin ⟨i,oI,hi,rfl,dY,S⟩
 by_cases bB:i<l.length
 ·refine S.nT hh gd hit dY (by rw[Qa];exact bB) λu d' s2 oK hd S2 r2 nK ho2=> ?_
  rw[Ab]at hd
  obtain⟨a,ha,rfl⟩:=fc.mp hd
  have HC:=Ff ha
  refine nO ho2 (nK.calm _ ho2) ((bY.name (d:=.dat (φ a)) .here kx hk).go _ _ _ _ S2 r2 λs3 S3 z_=>(Qv a HC _).use S3 λv2 s4 k4 S4 r4=>gH r4 (EO a HC) λo2 ho2 Zt=> ?_)
  have S5:=(S4.ghost r4).take (Kp.push s4 o2) (m:=.obj o2) (S4.ghost r4).next ho2
  have inner:=CZ (elt:=elt) (t1:=.Name x px) (i1:=i1) (i2:=i2) (py:=py) (pos:=pos) (scope:=scope) (gb:=g a) (R:=K) hh S5 La (EO a HC) Zt (ky _ rfl) hk (λb hb=>turn a HC b hb _ rfl) ?_ λs' S'=>fin _ _ ⟨l.length+1-(i+1),by exact sJ bB,i+1,oK,bB,rfl,nK,?_⟩
  ·exact qz inner (S5.rG hh La (EO a HC) Zt inner)
  ·have:=zI (f:=λa=>(m a).map (g a)) ha (m a).length
   rw[Dd,uf,Qa,Nat.min_self]at this
   exact Na this hz
  ·refine(Me ..).symm▸(ha ..).symm▸(Dj ..).symm▸ ?_
   show Sc B env _ [(I,.obj oK),(L,.list ((l.take i).flatMap (λa=>(m a).map (g a))++((m a).map (g a)++[])))] s'
   refine(ff ..).symm▸ ?_
   exact Sc.Bp ((S'.forget .here))
 ·obtain rfl:i=l.length:=Tg hi (Sf.mp bB)
  rw[bf]at S
  exact S.endAt hh gd hit (by rw[Qa];exact dY) λh' tk iM=>after oI s' h' tk S iM
end
theorem LC.two{elt i1 i2:Ba}{x y:Str}{px py pos:Pos}{d1:D}{α β:Type}{l:aa α}{φ:α→PyData}{d2:α→D}{m:α→aa β}{ψ:β→PyData}{g:α→β→PyData}
  (hh:A.handled=none)(src:ao w A B env Γ Δ i1 d1)(hit:bF d1 (l.map φ))(ok:dJ scope env)(yO:mV Γ scope env Γf)
  (Qv:∀a∈l,∀(B':Bx) (Δ':aa (ia×MO)) (C:Nat),Up B.s0.heap B'.s0.heap→B'.s0.heap.objs.size≤C→ao w A B' (b9 scope C env) ((x,.dat (φ a))::(y,.un)::Γf) Δ' i2 (d2 a))
  (EO:∀a∈l,bF (d2 a) ((m a).map ψ))
  (turn:∀a∈l,∀b∈m a,∀(B':Bx) (Δ':aa (ia×MO)) (C:Nat),Up B.s0.heap B'.s0.heap→B'.s0.heap.objs.size≤C→ao w A B' (b9 scope C env) ((x,.dat (φ a))::(y,.dat (ψ b))::Γf) Δ' elt (.dat (g a b)))
  (hz:(l.flatMap λa=>(m a).map (g a)).length≤Bb)
  (hx:Aa ((scope.names.lookup x==some .local||scope.names.lookup x==some .cell)=true) aK)(hy:Aa ((scope.names.lookup y==some .local||scope.names.lookup y==some .cell)=true) aK)
  (hn:Aa (pI (x::y::Γf.map (·.1))=true) aK)(hk:Aa (env.scope.kind=.function) aK)(hs:Aa (br i1=true) aR)(AJ:Aa (br i2=true) aR):
  LC w A B env Γ Δ (jQ elt (.Name x px) i1 (.Name y py) i2 scope pos) (l.flatMap λa=>(m a).map (g a)):=by
 refine⟨_,_,_,_,rfl,λs E use Q S fin=> ?_⟩
 refine jj (use:=use) rfl (gF hs) (fu ok.free) ok.kind (λy hy hl=>cM ok.nodup (by rw[←hl];exact hy))
  (src.use S λv s1 k1 S1 r1=>gH r1 hit λo Jz dY=>Ld (iB ?_))
 dsimp only
 have z1:(s1.heap.push o).objs.size=s1.heap.objs.size+1:=Yc ..
 have z2:((s1.heap.push o).push {cls:=.type "list",dict:=none,data:=.seq ([]:aa qa).toArray}).objs.size=s1.heap.objs.size+2:=by rw[Yc,z1]
 have S1g:=S1.ghost r1
 have EU:=bD hn
 obtain⟨more,S4⟩:=Sc.comp S1g ok hk (Γ0:=(x,.un)::(y,.un)::Γf) EU (λp hp hu=>by
   rcases Za.mp hp with rfl|hp
   ·exact absurd rfl hu
   ·rcases Za.mp hp with rfl|hp
    ·exact absurd rfl hu
    ·exact yO.mem p hp hu) (oI:=o) (oA:={cls:=.type "list",dict:=none,data:=.seq ([]:aa qa).toArray}) (mI:=.obj o) (mA:=.list []) rfl
  (λX h' u=>u _ _ (qc _ Jz)) (λX h' u=>⟨[],⟨_,u _ _ (z1▸Zb (s1.heap.push o) rfl),rfl,rfl,_,rfl⟩,.nil⟩)
 refine(z2 ..).symm▸(z1 ..).symm▸ ?_
 generalize hs4:({s1 with heap:=pushCells (((s1.heap.push o).push {cls:=.type "list",dict:=none,data:=.seq ([]:aa qa).toArray}).push {cls:=.type "dict",data:=.dict #[]}) scope.names}:za)=s4 at S4⊢
 have EX:Up B.s0.heap s1.heap:=S1.kp.up
 have l7: @Zc Nat _ s1.heap.objs.size (s1.heap.objs.size+2):=Tc _ _
 have loop:wc (Md w) A (.compLoop (jQ elt (.Name x px) i1 (.Name y py) i2 scope pos) 0 (.ref s1.heap.objs.size) (.ref (s1.heap.objs.size+1)) (b9 scope (s1.heap.objs.size+2) env))
   (compPost (Md w) A E use Q (.ref (s1.heap.objs.size+1)) (s1.heap.objs.size+2)) s4:=
  C0 (m:=m) (g:=g) hh S4 La hit dY (dP l7 ok.nodup (by simpa using hx)) (λB' e=>dP (e▸l7) ok.nodup (by simpa using hy)) ok.kind AJ EU (λa ha Δ'=>Qv a ha _ Δ' _ EX l7) EO
   (λa ha b hb B' e Δ'=>turn a ha b hb B' Δ' _ (e▸EX) (e▸l7)) hz λoI s' h' tk S' iM=> ?_
 ·exact Vj loop (S4.rG hh La hit dY loop)
 refine xE S'.ns λmm hm=> ?_
 obtain⟨ys,hl5,ra⟩:=S'.get_own (p:=(s1.heap.objs.size+1,.list (l.flatMap λa=>(m a).map (g a)))) (Wa _ La)
 refine fin s1 {s' with heap:=h',toks:=tk} mm ys k1 S1 ?_ (hm.at' λo e=>iM _ o Mt e) (hl5.at λo e=>iM _ o (Bh _) e) λY hY=> ?_
 ·obtain⟨hx,tx,rfl,kx⟩:=S'.kp
  exact⟨h',tk,rfl,λb o e=>iM b o (se (Ub e)) (kx b o e)⟩
 ·refine ra.at λb o hb e=>.inr ⟨λq=>hb ?_,iM b o (λq=>hb (by rw[q];exact XX.own (p:=(s1.heap.objs.size,.obj oI)) La)) e⟩
  rcases hY b q with h|h
  ·exact XX.out h
  ·have NL: @Eq Nat b s1.heap.objs.size∨ @Eq Nat b (s1.heap.objs.size+1)∨ @Eq Nat b (s1.heap.objs.size+2):=by exact ME h
   rcases NL with h|h|h
   ·rw[h];exact XX.own (p:=(s1.heap.objs.size,.obj oI)) La
   ·rw[h];exact XX.own (p:=(s1.heap.objs.size+1,.list (l.flatMap λa=>(m a).map (g a)))) (Wa _ La)
   ·rw[h];exact XX.loc (env:=b9 scope (s1.heap.objs.size+2) env)
variable{s1:za}{qu:Env}{Γc:aa (Str×D)}{Δx:aa (ia×MO)}
noncomputable def gJ(Δl:aa (ia×MO))(d d':D):Prop:=d≠ .un∧∀(X Y:aa ia) (h:Ja) (v:qa),(∀p∈Δl,p.2.At X h p.1)→(∀b,b∈Y→b∈X)→(∀p∈Δl,p.1∉Y)→De X h v d→De Y h v d'
inductive C6(Δl:aa (ia×MO)):aa (Str×D)→aa (Str×D)→Prop
 |nil:C6 Δl [] []
 |same {p:Str×D} {G G':aa (Str×D)}:C6 Δl G G'→C6 Δl (p::G) (p::G')
 |tell {x:Str} {d d':D} {G G':aa (Str×D)}:gJ Δl d d'→C6 Δl G G'→C6 Δl ((x,d)::G) ((x,d')::G')
theorem C6.names{G G':aa (Str×D)}(o:C6 Δl G G'):G'.map (·.1)=G.map (·.1):=by
 induction o with
 |nil=>rfl
 |same o ih=>exact Cc (_:: ·) ih
 |tell _ o ih=>exact Cc (_:: ·) ih
theorem C6.get{G G':aa (Str×D)}(o:C6 Δl G G'):∀p'∈G',p'∈G∨∃d,(p'.1,d)∈G∧gJ Δl d p'.2:=by
 have more:∀{q p':Str×D} {G:aa (Str×D)},(p'∈G∨∃d,(p'.1,d)∈G∧gJ Δl d p'.2)→p'∈q::G∨∃d,(p'.1,d)∈q::G∧gJ Δl d p'.2:=λh=>h.imp (Wa _) λ⟨d,a,b⟩=>⟨d,Wa _ a,b⟩
 induction o with
 |nil=>exactλp' h=>(nomatch h)
 |same o ih=>exact Ve.mpr ⟨.inl La,λp' h=>more (ih p' h)⟩
 |tell t o ih=>exact Ve.mpr ⟨.inr ⟨_,La,t⟩,λp' h=>more (ih p' h)⟩
theorem Sc.aa2(S:Sc B env Γ (Δl++Δr) s):∀p∈Δl,p.1∉XX B.Xo env Δr:=λp hp hx=>by
 refine eS (S.own p (Qc _ hp)) λa b c z_=> ?_
 rcases XX.cases hx with h|h|⟨x,h⟩|⟨m,h⟩
 ·exact c.2 h
 ·exact a h
 ·exact b x _ h rfl
 ·have:=S.dn
  rw[Mc]at this
  exact(Ze.mp this).2.2 p.1 (jd (f:=(·.1)) hp) p.1 (Ra.mpr ⟨_,h,rfl⟩) rfl
theorem Sc.F3(S:Sc B env Γ (Δl++Δr) s)(o:C6 Δl Γ Γ'):Sc B env Γ' Δr s:=by
 have Sd:=S.drops
 refine{Sd with nd:=o.names▸S.nd,vars:=λp hp hu=> ?_}
 rcases o.get p hp with h|⟨d,h,t⟩
 ·exact Sd.vars p h hu
 ·refine bE (S.vars (p.1,d) h t.1) λv b e=> ?_
  exact⟨v,b,t.2 _ _ _ _ (λq hq=>(S.own q (Qc _ hq)).2.2.2) (λb hb=>XX.mono (λq hq=>⟨q.2,Nc _ hq⟩) hb) S.aa2 e⟩
theorem gJ.list{a:ia}{ds:aa PyData}(h:(a,MO.list ds)∈Δl):gJ Δl (.val (.ref a)) (.list ds):=⟨(λe=>nomatch e),λX Y hp v tB hs ho e=>by
 obtain rfl:v=.ref a:=e
 refine bE (tB _ h) λvs hl hr=> ?_
 exact Rd.listAt (ho _ h) hl (hr.at λb o hb e=>.inr ⟨λq=>hb (hs b q),e⟩)⟩
theorem gJ.vals{a:ia}{ys:aa qa}{ds:aa PyData}(h:(a,MO.vals ys)∈Δl)(hr:∀X hp,aD X hp ys ds):gJ Δl (.val (.ref a)) (.list ds):=⟨(λe=>nomatch e),λX Y hp v tB hs ho e=>by
 obtain rfl:v=.ref a:=e
 exact Rd.listAt (ho _ h) (tB _ h) (hr _ _)⟩
theorem gJ.head{l:ia}{rows:Rows}(h:(l,MO.list (rows.map bz))∈Δl):gJ Δl (.known (HL l)) (.known (HP rows)):=⟨(λe=>nomatch e),λX Y hp v tB hs ho e=>by
 obtain⟨x,dx,mm,rfl,hx,su,hg,hn,hh⟩:=e
 refine bE (tB _ h) λvs hl hr=> ?_
 refine⟨x,dx,mm,rfl,λq=>hx (hs _ q),λq=>su (hs _ q),hg,hn,⟨hh.off,λp hp=> ?_⟩⟩
 refine(Vb.mp hp ..).symm▸ ?_
 refine bE (hh.has (ya "_headers",.val (.ref l)) La) λu e hu=> ?_
 obtain rfl:u=.ref l:=hu
 exact⟨_,e,Rd.listAt (ho _ h) hl (hr.at λb o hb e=>.inr ⟨λq=>hb (hs b q),e⟩)⟩⟩
theorem Flat.any{X Y:aa ia}{h h':Ja}{v:qa}{d:PyData}(f:Flat d)(x:Rd X h v d):Rd Y h' v d:=by
 cases f<;> cases x<;> constructor
theorem ao.F3{e:Ba}{d:PyData}(o:C6 Δ Γ Γ')(x:ao w A B env Γ' [] e (.dat d))(hf:Flat d):ao w A B env Γ Δ e (.dat d):=.mk λs E S=>by
 have S':Sc B env Γ' [] s:=Sc.F3 (Δl:=Δ) (Δr:=[]) (by rw[ff];exact S) o
 exact Pa (x.go s E S') (λv s' q=>⟨q.1,hf.any q.2⟩) λz_ z_ z=>z
theorem TV.F3{e:Ba}{b:Ga}(o:C6 Δ Γ Γ')(x:TV w A B env Γ' [] e b):TV w A B env Γ Δ e b:=.mk λs E S=>by
 have S':Sc B env Γ' [] s:=Sc.F3 (Δl:=Δ) (Δr:=[]) (by rw[ff];exact S) o
 exact x.go s E S'
theorem Sc.Hr{g:qa×D}(S1:Sc B env Γ (Δl++Δr) s1)(S2:Sc (N5 B env Δl Δr s1 g) qu Γc Δx s2)(hC: @Zc Nat _ s1.heap.objs.size qu.locals)(hl:∀p∈Δl,p.1∈Δx.map (·.1)):
  ∃oC,Sc B env Γ ((qu.locals,.obj oC)::(Δx++Δr)) s2:=by
 refine xE S2.ns λmC hmC=> ?_
 refine Ow (id hmC) λoC z_ z_ NT z_=> ?_
 obtain⟨⟨hh,tk,es⟩,kept⟩:=Cn S2.kp
 have fil:∀{b:ia},b∈(XX B.Xo env (Δl++Δr)).filter (λa=> !decide (a∈Δl.map (·.1)))↔b∈XX B.Xo env (Δl++Δr)∧b∉Δl.map (·.1):=λ{b}=>by simp[Xd]
 have lts:∀{b o},s1.heap.get? b=some o→ @Ne Nat b qu.locals:=λ{b o} e=>by
  have: @Od Nat _ b s1.heap.objs.size:=Ub e
  exact M7 hC this
 have ltX:∀{b:ia},b∈XX B.Xo env (Δl++Δr)→ @Ne Nat b qu.locals:=λ{b} hb=>by
  have: @Od Nat _ b s1.heap.objs.size:=S1.jH hb
  exact M7 hC this
 have dl:∀{b:ia},b∈Δl.map (·.1)→b∈Δx.map (·.1):=λ{b} hb=>by
  obtain⟨p,hp,rfl⟩:=Ra.mp hb;exact hl p hp
 have new:∀p∈Δx,p.1∉Δl.map (·.1)→s1.heap.get? p.1=none∧p.1∉XX B.Xo env (Δl++Δr):=λp hp hn=>by
  refine eS (S2.own p hp) λz_ z_ c z_=> ?_
  refine⟨?_,λq=>c.2 (fil.mpr ⟨q,hn⟩)⟩
  have c1:(blanks (Δl.map (·.1)) s1).heap.get? p.1=none:=c.1
  rwa [gn _ hn]at c1
 have mDl:∀{b:ia},b∈Δl.map (·.1)→b∈XX B.Xo env (Δl++Δr):=λ{b} hb=>by
  obtain⟨p,hp,rfl⟩:=Ra.mp hb;exact XX.own (Qc _ hp)
 have ZP:∀{b:ia},b∈XX B.Xo env ((qu.locals,.obj oC)::(Δx++Δr))→b=qu.locals∨b∈Δx.map (·.1)∨b∈XX B.Xo env (Δl++Δr):=λ{b} hb=>by
  rcases XX.YI hb with h|h
  ·exact .inl h
  ·rcases XX.cases h with h|h|⟨y,h⟩|⟨m,h⟩
   ·exact .inr (.inr (XX.out h))
   ·exact .inr (.inr (h▸XX.loc))
   ·exact .inr (.inr (XX.cell h))
   ·rcases zc.mp h with h|h
    ·exact .inr (.inl (Ra.mpr ⟨_,h,rfl⟩))
    ·exact .inr (.inr (XX.own (Nc _ h)))
 have more:∀b o,b∉XX B.Xo env (Δl++Δr)→s1.heap.get? b=some o→b∉XX B.Xo env ((qu.locals,.obj oC)::(Δx++Δr)):=λb o hb e hx=>by
  rcases ZP hx with h|h|h
  ·exact lts e h
  ·obtain⟨p,hp,rfl⟩:=Ra.mp h
   have:=(new p hp λq=>hb (mDl q)).1
   rw[this]at e;cases e
  ·exact hb h
 have N3:∀b o,b∉XX B.Xo env ((qu.locals,.obj oC)::(Δx++Δr))→s1.heap.get? b=some o→s2.heap.get? b=some o:=λb o hb e=>kept b o (λq=>hb (by
  obtain⟨p,hp,rfl⟩:=Ra.mp (dl q)
  exact XX.ZG (XX.own (Qc _ hp)))) e
 have ZQ:∀{p:ia×MO},p∈Δr→p.1∉Δl.map (·.1):=λ{p} hp q=>by
  have:=S1.dn
  rw[Mc]at this
  exact(Ze.mp this).2.2 p.1 q p.1 (jd (f:=(·.1)) hp) rfl
 have de:∀{v d},De (XX B.Xo env (Δl++Δr)) s1.heap v d→De (XX B.Xo env ((qu.locals,.obj oC)::(Δx++Δr))) s2.heap v d:=λh=>(h.more more).keep N3
 have CS:∀b o,b∉Δl.map (·.1)→s1.heap.get? b=some o→s2.heap.get? b=some o:=kept
 have ZJ:env.locals∉Δl.map (·.1):=λq=>by
  refine bE (Ra.mp q) λp hp e=> ?_
  exact(S1.own p (Qc _ hp)).1 e
 have Yu:∀x c,(x,c)∈env.cells→c∉Δl.map (·.1):=λx c hc q=>by
  refine bE (Ra.mp q) λp hp e=> ?_
  exact(S1.own p (Qc _ hp)).2.1 x c hc e.symm
 have hB:∀b o,B.s0.heap.get? b=some o→s2.heap.get? b=some o:=λb o e=>by
  refine CS b o (λq=> ?_) (S1.kp.up b o e)
  obtain⟨p,hp,rfl⟩:=Ra.mp q
  have:=(S1.own p (Qc _ hp)).2.2.1.1
  rw[this]at e;cases e
 refine⟨oC,?_,S1.xo,S1.ns.imp λz_ n=>n.at' λo e=>CS _ o ZJ e,S1.lf,λx c hc=> ?_,S1.ap,S1.nd,λp hp hu=> ?_,λp hp=> ?_,?_,λp hp=>de (S1.gh p hp)⟩
 ·refine lK S1.kp λh1 t1 e1 k1=> ?_
  exact⟨hh,tk,by rw[es,e1],λb o e=>by have:=hB b o e;rw[es]at this;exact this⟩
 ·obtain⟨a,⟨v,o,b,d⟩,e⟩:=S1.cl x c hc
  exact⟨a,⟨v,o,CS _ o (Yu x c hc) b,d⟩,e⟩
 ·refine bE (S1.vars p hp hu) λv b e=> ?_
  refine⟨v,?_,de e⟩
  rcases b with⟨b,m,hm,hv⟩|⟨b,c,hc,⟨o,hv,w7⟩⟩
  ·exact .inl ⟨b,m,hm.at' λo e=>CS _ o ZJ e,hv⟩
  ·exact .inr ⟨b,c,hc,o,CS _ o (Yu _ c (mem_of_lookup hc)) hv,w7⟩
 ·rcases Za.mp hp with rfl|hp
  ·refine⟨λq=>ltX XX.loc q.symm,λx c hc q=>ltX (XX.cell hc) q,S1.ED hC,NT⟩
  ·rcases zc.mp hp with hp|hp
   ·refine eS (S2.own p hp) λa b c d=> ?_
    have d':p.2.At (XX B.Xo env ((qu.locals,.obj oC)::(Δx++Δr))) s2.heap p.1:=d.sub λx hx=>by
     rcases ZP hx with h|h|h
     ·rw[h];exact XX.loc
     ·obtain⟨q,hq,rfl⟩:=Ra.mp h;exact XX.own hq
     ·by_cases z:x∈Δl.map (·.1)
      ·obtain⟨q,hq,rfl⟩:=Ra.mp (dl z);exact XX.own hq
      ·exact XX.out (fil.mpr ⟨h,z⟩)
    by_cases z:p.1∈Δl.map (·.1)
    ·refine bE (Ra.mp z) λq hq e=> ?_
     refine eS (S1.own q (Qc _ hq)) λa' b' c' z_=> ?_
     have e:q.1=p.1:=e
     rw[e]at a' b' c'
     exact⟨a',b',c',d'⟩
    ·refine xA (new p hp z) λn1 n2=> ?_
     refine⟨λq=>n2 (q▸XX.loc),λx c hc q=>n2 (q▸XX.cell hc),⟨?_,λq=>n2 (XX.out q)⟩,d'⟩
     cases e:B.s0.heap.get? p.1 with
     |none=>rfl
     |some o=>have:=S1.kp.up _ o e;rw[n1]at this;cases this
   ·refine eS (S1.own p (Nc _ hp)) λa b c d=> ?_
    exact⟨a,b,c,(d.more more).keep N3 λo e=>CS _ o (ZQ hp) e⟩
 ·have d1:=S2.dn
  have d2:=S1.dn
  rw[Mc]at d2
  simp only[Ib,Mc,Pd]
  refine⟨λq=> ?_,Ze.mpr ⟨d1,(Ze.mp d2).2.1,λa ha b hb e=> ?_⟩⟩
  ·rcases zc.mp q with q|q
   ·refine bE (Ra.mp q) λp hp e=> ?_
    exact(S2.own p hp).1 e
   ·refine bE (Ra.mp q) λp hp e=> ?_
    exact ltX (XX.own (Nc _ hp)) e
  ·subst e
   refine bE (Ra.mp hb) λq hq e=> ?_
   refine bE (Ra.mp ha) λp hp e2=> ?_
   by_cases z:a∈Δl.map (·.1)
   ·exact(Ze.mp d2).2.2 a z a hb rfl
   ·subst e2
    have e:q.1=p.1:=e
    exact(new p hp z).2 (e▸XX.own (Nc _ hq))
end
section
variable{w:Oa}{K:Type}[Ec K]{knd:KeyKind pw w K}{enc:K→PyData}{A:Xa}{B:Bx}{s s':za}{env:Env}{Γ Γf:aa (Str×D)}{Δ Δ':aa (ia×MO)}{E:qa→za→Prop}{scope:Lc}{aG:ia→qa}{d0:qa}{DD:aa (K×PyData)}
theorem Sc.YK{d:ia}{k:K}{key v:qa}{x:PyData}{Q:Unit→za→Prop}(S:Sc B env Γ Δ s)(o:bw d (.own (cD knd DD)) (.own (cD knd (aQ DD k x))) Δ Δ')(hk:knd.is k key=true)(hv:Rd (XX B.Xo env Δ) s.heap v x)(hz:DD.length≤Bb)
  (h:∀s',Sc B env Γ Δ' s'→Q () s'):Ia (Md w) A (PySem.dictSet d key v) Q E s:=by
 refine bE (S.dict o.mem) λkvs hd r=> ?_
 refine wpAny_dictSet_pairs hk hd (λh' lC hs=>h _ (S.set_own o (λb ob hb e=>(hs.2 b hb).trans e) ?_)) (by rw[r.len];exact hz)
 refine bE (Pe.mp lC) λo' nL y9=> ?_
 exact⟨o',nL,_,y9,(r.store hv).at λb ob hb e=>⟨hb,(hs.2 b λq=>hb (by rw[q];exact XX.own o.mem)).trans e⟩⟩
omit [Ec K] in
theorem wQ{α:Type}[Ec K](key:α→K)(val:α→PyData):∀(l:aa α) (D:aa (K×PyData)),(l.foldl (λD d=>aQ D (key d) (val d)) D).length≤D.length+l.length
 |[],D=>zb _
 |a::l,D=>by
  have:=wQ key val l (aQ D (key a) (val a))
  have:=gY D (key a) (val a)
  simp only[Qd,xd];exact sL (by assumption) this
section
variable{kx vx iter:Ba}{x:Str}{px pos:Pos}{α:Type}{l:aa α}{φ:α→PyData}{key:α→K}{val:α→PyData}
theorem BW{i:Nat}{a:α}(h:l[i]? =some a):(l.take (i+1)).foldl (λD d=>aQ D (key d) (val d)) []=aQ ((l.take i).foldl (λD d=>aQ D (key d) (val d)) []) (key a) (val a):=by
 rw[Me,h,xe];rfl
omit [Ec K] in
theorem IC{a:α}:∀p∈(x,D.un)::Γf,p.2≠ .un→p∈(x,.dat (φ a))::Γf:=λp hp hu=>by
 rcases Za.mp hp with rfl|hp
 ·exact absurd rfl hu
 ·exact Wa _ hp
theorem BS{I L:ia}{o:Obj}{v:qa}{d:D}{R:Yd→za→Prop}(ki:iu knd enc)(hh:A.handled=none)(S:Sc B env ((x,.un)::Γf) [(I,.obj o),(L,.own (cD knd []))] s)(gd:(v,d)∈B.Φ)(hit:bF d (l.map φ))(dY:bT I d v 0 o)
  (hn:(((x,D.un)::Γf).map (·.1)).Nodup)(asg:∀a:α,∀Δ',bY w A B env (.Name x px) (.dat (φ a)) ((x,.un)::Γf) ((x,.dat (φ a))::Γf) Δ')
  (turn:∀a∈l,∀Δ',ao w A B env ((x,.dat (φ a))::Γf) Δ' kx (.dat (enc (key a)))∧ao w A B env ((x,.dat (φ a))::Γf) Δ' vx (.dat (val a)))
  (after:∀oI s' h' tk,Sc B env ((x,.un)::Γf) [(I,.obj oI),(L,.own (cD knd (l.foldl (λD d=>aQ D (key d) (val d)) [])))] s'→(∀b o,b≠I→s'.heap.get? b=some o→h'.get? b=some o)→R (.ok .next) {s' with heap:=h',toks:=tk}):
  wc (Md w) A (.compLoop (.DictComp kx vx [⟨.Name x px,iter,[],0⟩] scope pos) 0 (.ref I) (.ref L) env) R s:=by
 refine codeAny_compLoop_testsD (λk s'=>∃i oI,i≤l.length∧k=l.length+1-i∧bT I d v i oI∧
  Sc B env ((x,.un)::Γf) [(I,.obj oI),(L,.own (cD knd ((l.take i).foldl (λD d=>aQ D (key d) (val d)) [])))] s') ?_ (l.length+1) ⟨0,o,Uc _,rfl,dY,S⟩
 clear S dY
 rintro k s' ⟨i,oI,hi,rfl,dY,S⟩
 by_cases bB:i<l.length
 ·refine S.nT hh gd hit dY (by rw[Qa];exact bB) λu d' s2 oK hd S2 r2 nK ho2=> ?_
  rw[Ab]at hd
  obtain⟨a,ha,rfl⟩:=fc.mp hd
  have t:=turn a (Ff ha)
  refine(asg a _).go _ _ _ _ S2 r2 λs3 S3 z_=>wpAny_tests_nil ?_
  refine(if_pos rfl).mpr ?_
  refine(t _).1.use S3 λkv s4 k4 S4 r4=>(t _).2.use S4 λvv s5 k5 S5 r5=>
   S5.YK (.there .here) (ki.is (Rd.up r4 k5.up)) r5 ?_ λs6 S6=>⟨l.length+1-(i+1),sJ bB,i+1,oK,bB,rfl,nK,(BW (key:=key) (val:=val) ha).symm▸S6.weak IC hn⟩
  have hlen:=wQ key val (l.take i) ([]:aa (K×PyData))
  have w5:=hit.size
  simp at hlen w5
  exact WE hlen w5
 ·obtain rfl:i=l.length:=Tg hi (Sf.mp bB)
  rw[bf]at S
  exact S.endAt hh gd hit (by rw[Qa];exact dY) λh' tk iM=>after oI s' h' tk S iM
end
theorem yT{s1 s6:za}{Γ0:aa (Str×D)}{v:qa}{d:D}(k1:Kp s s1)(S1:Sc B env Γ Δ s1)(G:aW w aG d0 B.s0.heap)(S6:Sc ⟨s1,XX B.Xo env Δ,(v,d)::B.Φ⟩ (b9 scope (s1.heap.objs.size+2) env) Γ0 [(s1.heap.objs.size+1,.own (cD knd DD))] s6):
  compPost (Md w) A E none (λv s'=>Kp s s'∧De (XX B.Xo env Δ) s'.heap v (.known (cC knd DD))) (.ref (s1.heap.objs.size+1)) (s1.heap.objs.size+2) (.ok .next) s6:=by
 refine xE S6.ns λm hm=>⟨m,hm,λh2 AJ=>⟨k1.trans' ?_,?_⟩⟩
 ·refine lK S6.kp λhx tx ex kx=> ?_
  subst ex
  exact⟨h2,tx,rfl,λb o e=>(AJ.2 b (se (kh (kh (Ub e))))).trans (kx b o e)⟩
 ·refine bE (S6.dict (d:=s1.heap.objs.size+1) La) λkvs pP rp=> ?_
  refine⟨_,kvs,rfl,λhx=>DI (S1.jH hx),?_,pP.at λo e=>(AJ.2 _ (zj (_+1))).trans e,rp.at λb o hb e=>⟨λq=>hb (XX.out q),(AJ.2 b λq=>hb (by rw[q];exact XX.loc (env:=b9 scope (s1.heap.objs.size+2) env))).trans e⟩⟩
  have:=(((S1.g8 G).keeps (h':=s1.heap.push (default:Obj)) λb ob e=>qc _ e)).Lr
  rw[Yc]at this
  exact this
theorem ao.YF{kx vx iter:Ba}{x:Str}{px pos:Pos}{bX:D}{α:Type}{l:aa α}{φ:α→PyData}{key:α→K}{val:α→PyData}(ki:iu knd enc)(G:aW w aG d0 B.s0.heap)
  (hh:A.handled=none)(src:ao w A B env Γ Δ iter bX)(hit:bF bX (l.map φ))(ok:dJ scope env)(yO:mV Γ scope env Γf)
  (tk:∀d∈l,∀(B':Bx) (Δ':aa (ia×MO)) (C:Nat),Up B.s0.heap B'.s0.heap→B'.s0.heap.objs.size≤C→ao w A B' (b9 scope C env) ((x,.dat (φ d))::Γf) Δ' kx (.dat (enc (key d))))
  (tv:∀d∈l,∀(B':Bx) (Δ':aa (ia×MO)) (C:Nat),Up B.s0.heap B'.s0.heap→B'.s0.heap.objs.size≤C→ao w A B' (b9 scope C env) ((x,.dat (φ d))::Γf) Δ' vx (.dat (val d)))
  (hx:Aa ((scope.names.lookup x==some .local||scope.names.lookup x==some .cell)=true) aK)(hn:Aa (pI (x::Γf.map (·.1))=true) aK)(hk:Aa (env.scope.kind=.function) aK)(hs:Aa (br iter=true) aR):
  ao w A B env Γ Δ (.DictComp kx vx [⟨.Name x px,iter,[],0⟩] scope pos) (.known (cC knd (l.foldl (λD d=>aQ D (key d) (val d)) []))):=.mk λs E S=>by
 show Ia (Md w) A (comprehension (.DictComp kx vx [⟨.Name x px,iter,[],0⟩] scope pos) scope env (firstIterPos [⟨.Name x px,iter,[],0⟩] pos) newDict (firstAsync [⟨.Name x px,iter,[],0⟩]) (firstIter [⟨.Name x px,iter,[],0⟩] env)) _ E s
 refine jj (use:=none) rfl (gF hs) (fu ok.free) ok.kind (λy hy hl=>cM ok.nodup (by rw[←hl];exact hy))
  (src.use S λv s1 k1 S1 r1=>gH r1 hit λo Jz dY=>Ld (iB ?_))
 dsimp only
 have z1:(s1.heap.push o).objs.size=s1.heap.objs.size+1:=Yc ..
 have z2:((s1.heap.push o).push {cls:=.type "dict",data:=.dict #[]}).objs.size=s1.heap.objs.size+2:=by rw[Yc,z1]
 obtain⟨more,S4⟩:=Sc.comp (S1.ghost r1) ok hk (Γ0:=(x,.un)::Γf) (bD hn) (λp hp hu=>by
   rcases Za.mp hp with rfl|hp
   ·exact absurd rfl hu
   ·exact yO.mem p hp hu) (oI:=o) (oA:={cls:=.type "dict",data:=.dict #[]}) (mI:=.obj o) (mA:=.own (cD knd [])) rfl
  (λX h' u=>u _ _ (qc _ Jz)) (λX h' u=>by
   have o1:((s1.heap.push o).push {cls:=.type "dict",data:=.dict #[]}).DictOf knd (s1.heap.push o).objs.size []:=⟨_,#[],0,Zb _ rfl,⟨rfl,rfl,rfl⟩,rfl,λz_ he=>by simp at he,.nil,yh⟩
   refine bE (Pe.mp o1) λo' nL lC=> ?_
   exact⟨o',u _ _ (z1▸nL),[],lC,⟨rfl,.nil⟩⟩)
 refine(z2 ..).symm▸(z1 ..).symm▸ ?_
 generalize hs4:({s1 with heap:=pushCells (((s1.heap.push o).push {cls:=.type "dict",data:=.dict #[]}).push {cls:=.type "dict",data:=.dict #[]}) scope.names}:za)=s4 at S4⊢
 have l7: @Zc Nat _ s1.heap.objs.size (s1.heap.objs.size+2):=Tc _ _
 have loop:=BS (kx:=kx) (vx:=vx) (iter:=iter) (pos:=pos) (px:=px) (scope:=scope) (R:=compPost (Md w) A E none (λv s'=>Kp s s'∧De (XX B.Xo env Δ) s'.heap v (.known (cC knd (l.foldl (λD d=>aQ D (key d) (val d)) [])))) (.ref (s1.heap.objs.size+1)) (s1.heap.objs.size+2)) (x:=x) ki hh S4 La hit dY (bD hn)
  (λa Δ'=>bY.name .here (dP l7 ok.nodup (by simpa using hx)) ok.kind) (λa ha Δ'=>⟨tk a ha _ Δ' _ S1.kp.up l7,tv a ha _ Δ' _ S1.kp.up l7⟩) λoI s' h' tk S' iM=>yT k1 S1 G (S'.gone iM)
 exact codeAny_compStart_dict loop (S4.rG hh La hit dY loop)
end
open PySem.Builtin.Str
section
variable{w:Oa}{A:Xa}{B:Bx}{s s':za}{env:Env}{Γ Γf:aa (Str×D)}{Γ':ia→aa (Str×D)}{Δ Δ' Δl Δr:aa (ia×MO)}{E:qa→za→Prop}{scope:Lc}{aG:ia→qa}{d0:qa}
theorem aX.lift{x:Str}{d:D}{G G':aa (Str×D)}(t:aX x d G G'):aX x d G G':=t
theorem sF{elt iter:Ba}{y x:Str}{py pos pos':Pos}{p0:Pos}{bX:D}{α:Type}{l:aa α}{φ:α→PyData}{Inv:Nat→aa qa→aa (ia×MO)→Prop}{rest:aa Va}{Q:Flow→za→Prop}
  (hh:A.handled=none)(S:Sc B env Γ (Δl++Δr) s)(src:ao w A B env Γ (Δl++Δr) iter bX)(hit:bF bX (l.map φ))(ok:dJ scope env)(yO:mV Γ scope env Γf)(h0:Inv 0 [] Δl)
  (turn:∀(i:Nat) (d:α) (ys:aa qa) (Δx:aa (ia×MO)) (B':Bx) (C I a:ia) (mI:MO) (s2:za) (E':qa→za→Prop),l[i]? =some d→Inv i ys Δx→Up B.s0.heap B'.s0.heap→ @Zc Nat _ B'.s0.heap.objs.size C→
   Sc B' (b9 scope C env) ((y,.dat (φ d))::Γf) ((I,mI)::(a,.vals ys)::Δx) s2→
   Ia (Md w) A (eval elt (b9 scope C env)) (λv s3=>∃n7,Inv (i+1) (ys++[v]) n7∧Sc B' (b9 scope C env) ((y,.dat (φ d))::Γf) ((I,mI)::(a,.vals ys)::n7) s3) E' s2)
  (YZ:∀i ys Δx,Inv i ys Δx→∀p∈Δl,p.1∈Δx.map (·.1))(t:∀a,aX x (.val (.ref a)) Γ (Γ' a))(K:cG B env x)(hkd:env.kindOf x=some .cell)
  (h:∀a ys Δx s',Inv l.length ys Δx→Sc B env (Γ' a) ((a,.vals ys)::(Δx++Δr)) s'→Ex w A env rest Q E s')
  (hx:Aa ((scope.names.lookup y==some .local||scope.names.lookup y==some .cell)=true) aK)(hn:Aa (pI (y::Γf.map (·.1))=true) aK)(hs:Aa (br iter=true) aR)(hk:Aa (env.scope.kind=.function) aK):
  Ex w A env (.Assign [.Name x pos'] (.ListComp elt [⟨.Name y py,iter,[],0⟩] scope pos) p0::rest) Q E s:=by
 refine⟨Kc (vh ?_ (rN hkd))⟩
 refine(eval_ListComp ..).symm▸ ?_
 refine LCI.core (use:=none) hh src hit ok hk yO hx hn hs h0 turn S λs1 s2 m ys Δx v k1 S1 S2 hI hm=>⟨m,hm,λh' AI=> ?_⟩
 obtain⟨oC,S3⟩:=Sc.Hr S1 S2 (Tc _ _) (λp hp=>by
  have:=YZ _ _ _ hI p hp
  rw[Ib];exact Wa _ this)
 have S4:=S3.gone (tk:=s2.toks) (h':=h') λb o hb e=>(AI.2 b hb).trans e
 exact S4.store (t _) K rfl (λs' S' z_=>(h _ _ _ s' hI S').run) hk
theorem rJ{elt iter:Ba}{y x:Str}{py pos pos':Pos}{p0:Pos}{bX:D}{α:Type}{l:aa α}{φ:α→PyData}{Inv:Nat→aa qa→aa (ia×MO)→Prop}{rest:aa Va}{Q:Flow→za→Prop}
  (hh:A.handled=none)(S:Sc B env Γ (Δl++Δr) s)(src:ao w A B env Γ (Δl++Δr) iter bX)(hit:bF bX (l.map φ))(ok:dJ scope env)(yO:mV Γ scope env Γf)(h0:Inv 0 [] Δl)
  (turn:∀(i:Nat) (d:α) (ys:aa qa) (Δx:aa (ia×MO)) (B':Bx) (C I a:ia) (mI:MO) (s2:za) (E':qa→za→Prop),l[i]? =some d→Inv i ys Δx→Up B.s0.heap B'.s0.heap→ @Zc Nat _ B'.s0.heap.objs.size C→
   Sc B' (b9 scope C env) ((y,.dat (φ d))::Γf) ((I,mI)::(a,.vals ys)::Δx) s2→
   Ia (Md w) A (eval elt (b9 scope C env)) (λv s3=>∃n7,Inv (i+1) (ys++[v]) n7∧Sc B' (b9 scope C env) ((y,.dat (φ d))::Γf) ((I,mI)::(a,.vals ys)::n7) s3) E' s2)
  (YZ:∀i ys Δx,Inv i ys Δx→∀p∈Δl,p.1∈Δx.map (·.1))(t:∀a,aX x (.val (.ref a)) Γ (Γ' a))(K:cG B env x)
  (hsw:swapsWith (.ListComp elt [⟨.Name y py,iter,[],0⟩] scope pos) (some (.Name x pos')) p0.line env=pure true)
  (h:∀a ys Δx s',Inv l.length ys Δx→Sc B env (Γ' a) ((a,.vals ys)::(Δx++Δr)) s'→Ex w A env rest Q E s')
  (hx:Aa ((scope.names.lookup y==some .local||scope.names.lookup y==some .cell)=true) aK)(hn:Aa (pI (y::Γf.map (·.1))=true) aK)(hs:Aa (br iter=true) aR)(hk:Aa (env.scope.kind=.function) aK):
  Ex w A env (.Assign [.Name x pos'] (.ListComp elt [⟨.Name y py,iter,[],0⟩] scope pos) p0::rest) Q E s:=by
 constructor
 refine Kc ?_
 refine(exec_Assign_Name_used _ _ _ _ hsw ..).symm▸ ?_
 refine Ca (Ed ?_)
 show Ia (Md w) A (do(do let _←comprehension (.ListComp elt [⟨.Name y py,iter,[],0⟩] scope pos) scope env (firstIterPos [⟨.Name y py,iter,[],0⟩] pos) (newList []) (firstAsync [⟨.Name y py,iter,[],0⟩]) (firstIter [⟨.Name y py,iter,[],0⟩] env) (some (assign (.Name x pos') env));pure ());pure Flow.next) _ E s
 refine Ca (Ca (Pa (LCI.core (use:=some (assign (.Name x pos') env)) (Q:=λz_ s'=>Ia (Md w) A (execs rest env) Q E s') hh src hit ok hk yO hx hn hs h0 turn S λs1 s2 m ys Δx v k1 S1 S2 hI hm=> ?_) (λz_ s' q=>Ka (Ka q)) λz_ z_ z=>z))
 obtain⟨oC,S3⟩:=Sc.Hr S1 S2 (Tc _ _) (λp hp=>by
  have:=YZ _ _ _ hI p hp
  rw[Ib];exact Wa _ this)
 have NT:=S3.get_own (p:=(s1.heap.objs.size+2,MO.obj oC)) La
 refine wpAny_assign_Name (S3.store (x:=x) (aX.lift (t _)) K rfl (λmT QZ k3=> ?_) hk)
 have hC:=QZ.get_own (p:=(s1.heap.objs.size+2,MO.obj oC)) La
 refine⟨m,?_,λh' AI=> ?_⟩
 ·exact hm.at' λo e=>by
   have NT:s2.heap.get? (s1.heap.objs.size+2)=some oC:=NT
   rw[NT]at e;cases e;exact hC
 ·exact(h _ _ _ _ hI (QZ.gone (tk:=mT.toks) λb o hb e=>(AI.2 b hb).trans e)).run
theorem kT.GH{o e1 e2:Ba}{apos pos:Pos}{l:ia}{rows:Rows}{name val:Str}{k:Nat}(ac:Ac A (k+3))(G:aW w aG d0 B.s0.heap)(x:ao w A B env Γ Δ o (.known (HL l)))(y:ao w A B env Γ Δ e1 (.str name))(z:ao w A B env Γ Δ e2 (.str val))
  (own:bw l (.list (rows.map bz)) (.list ((vo rows name val).map bz)) Δ Δ')(ok:Nm name)(HQ:Nm val)(kZ:cP rows)
  (h1:Aa (notStar e1=true) aR)(h2:Aa (notStar e2=true) aR)(hb:Aa (aO o=true) aR)(hl:Aa ((apos.endLine==pos.line)=true) aR):kT w A B env Γ Δ (.Call (.Attribute o (ya "setdefault") apos) [e1,e2] [] pos) (.str (vp rows name val)) Δ':=
 kT.q7 (K:=HL l) (C:=hC) (f:=456) x (eu.inst (by kernel_rfl)) G (bu w aG d0) (.cons y (.cons z .nil h2) h1) own (λv vs s E S hv hr=>by
  refine hr.c2 λu1 u2 r1 r2=> ?_
  exact KS (k:=k) ac (S.g8 G) (S.B0 own.mem G) (λa ha=>S.jH ha) (XX.own own.mem) (S.get_own own.mem) hv r1 r2 ok HQ kZ) (by kernel_rfl) (by kernel_rfl) (by kernel_rfl) hb (by rfl) hl
theorem kT.aak{o e1 e2:Ba}{apos pos:Pos}{l:ia}{rows:Rows}{name val:Str}{k:Nat}(ac:Ac A (k+3))(G:aW w aG d0 B.s0.heap)(x:ao w A B env Γ Δ o (.known (HL l)))(y:ao w A B env Γ Δ e1 (.str name))(z:ao w A B env Γ Δ e2 (.str val))
  (own:bw l (.list (rows.map bz)) (.list ((rows++[(name,val)]).map bz)) Δ Δ')(ok:Nm name)(HQ:Nm val)(kZ:cP rows)
  (h1:Aa (notStar e1=true) aR)(h2:Aa (notStar e2=true) aR)(hb:Aa (aO o=true) aR)(hl:Aa ((apos.endLine==pos.line)=true) aR):kT w A B env Γ Δ (.Call (.Attribute o (ya "add_header") apos) [e1,e2] [] pos) (.dat .none) Δ':=
 kT.q7 (K:=HL l) (C:=hC) (f:=463) x (eu.inst (by kernel_rfl)) G (bu w aG d0) (.cons y (.cons z .nil h2) h1) own (λv vs s E S hv hr=>by
  refine hr.c2 λu1 u2 r1 r2=> ?_
  exact Io (k:=k) (ac.weak (by exact Of (_+2))) (S.g8 G) (S.B0 own.mem G) (λa ha=>S.jH ha) (XX.own own.mem) (S.get_own own.mem) hv r1 r2 ok HQ kZ) (by kernel_rfl) (by kernel_rfl) (by kernel_rfl) hb (by rfl) hl
theorem kT.Iu{o e:Ba}{apos pos:Pos}{l:ia}{ds:aa PyData}{d:PyData}{Δ2:aa (ia×MO)}(x:ao w A B env Γ Δ o (.val (.ref l)))(y:kT w A B env Γ Δ e (.dat d) Δ2)(hm:(l,MO.list ds)∈Δ)(own:bw l (.list ds) (.list (ds++[d])) Δ2 Δ')(hz:ds.length≤1000000)
  (hb:Aa (aO o=true) aR)(hn:Aa (notStar e=true) aR)(hl:Aa ((apos.endLine==pos.line)=true) aR):kT w A B env Γ Δ (.Call (.Attribute o (ya "append") apos) [e] [] pos) (.dat .none) Δ':=.mk λs E S=>
 Ug (bU hb) (by rw[aF _ _ _ hn];rfl) hl (x.use S λv s1 k1 S1 r1=>by
  obtain rfl:v=.ref l:=r1
  refine bE (S1.mw hm) λvs hL hr=> ?_
  refine Bv (id hL) λob HM z_ EM z_=> ?_
  refine⟨"list",_,Oj,nj,type_list_append,hL.isList.typeIs,(λa e=>by cases e;exact⟨ob,HM,EM⟩),
   method1_meetsIn nj PySem.F.entry_list_append (Pa (y.go s1 E S1) (λu s2 q=> ?_) λz_ z_ z=>z)⟩
  refine xA q λS2 r2=> ?_
  refine bE (S2.mw own.mem) λvs Y7 NX=> ?_
  refine⟨Y7.isList.typeIs,PySem.F.args_list_append_2 _ _,_,lP l u vs.toArray (by rw[sizeLine_eq];simp[NX.length];exact Na hz (by decide)),Y7,λh' Jx hs=> ?_⟩
  have ex:XX B.Xo env Δ'=XX B.Xo env Δ2:=XX.same own.names
  have S3:=S2.set_own (tk:=s2.toks) own (λb o hb e=>(hs.2 b hb).trans e) (m':=.list (ds++[d])) ⟨vs++[u],by simpa using Jx,(NX.append (.cons r2 .nil)).at λb o' hb e=>.inr ⟨hb,(hs.2 b λq=>hb (by rw[q];exact XX.own own.mem)).trans e⟩⟩
  exact⟨S3,.none⟩)
theorem J8{a b c:Int}(X:aa ia)(h:Ja)(t u x:Tok):De X h (if b<a then(if c<b then .int c x else .int b u)else(if c<a then .int c x else .int a t)) (.int (min (min a b) c)):=by
 by_cases q:b<a
 ·by_cases r:c<b
  ·rw[if_pos q,if_pos r,show min (min a b) c=c by exact Rz q r];exact .int ..
  ·rw[if_pos q,if_neg r,show min (min a b) c=b by exact RA q r];exact .int ..
 ·by_cases r:c<a
  ·rw[if_neg q,if_pos r,show min (min a b) c=c by exact RB q r];exact .int ..
  ·rw[if_neg q,if_neg r,show min (min a b) c=a by exact RC q r];exact .int ..
theorem ao.aaZ{x:Str}{p pos:Pos}{e f g:Ba}{a b c:Int}(hh:A.handled=none)(hf:ao w A B env Γ Δ (.Name x p) (.val (.builtin "min")))(y:ao w A B env Γ Δ e (.int a))(z:ao w A B env Γ Δ f (.int b))(u:ao w A B env Γ Δ g (.int c))
  (he:Aa (notStar e=true) aR)(AG:Aa (notStar f=true) aR)(he3:Aa (notStar g=true) aR):ao w A B env Γ Δ (.Call (.Name x p) [e,f,g] [] pos) (.int (min (min a b) c)):=
 hf.oE (.cons y (.cons z (.cons u .nil he3) AG) he) λvs s E S r=>by
  refine r.uc λz_ z_ r1 r=>r.uc λz_ z_ r2 r=>r.uc λz_ z_ r3 r=> ?_
  cases r;cases r1;cases r2;cases r3
  exact min_three_ints hh λh' tk hk=>⟨.of s hk,J8 ..⟩
theorem ao.aag{l k:Ba}{pos:Pos}{vs:aa qa}{a:ia}{i:Int}{v:qa}(x:ao w A B env Γ Δ l (.val (.ref a)))(hm:(a,MO.vals vs)∈Δ)(y:ao w A B env Γ Δ k (.int i))(h0:0≤i)(h1:i<2^63)(hd:vs[i.toNat]? =some v)
  (hs:Aa (cT k=true) aR):ao w A B env Γ Δ (.Subscript l k pos) (.val v):=.mk λs E S=>
 xg (x.use S λu s1 k1 S1 r1=>y.use S1 λb s2 k2 S2 r2=>by
  obtain rfl:u=.ref a:=r1
  refine r2.kQ λt=> ?_
  have hl:kO s2.heap a vs.toArray:=S2.get_own hm
  refine xE (mH hs a i t) λops e=> ?_
  exact PyProof.Rows.tail_any hl.isList.typeIs Ah.lookup (xj hl.isList h0 h1 (by simpa using hd) ⟨k1.trans' k2,rfl⟩) e)
theorem EqAt.readAll{X:aa ia}{h:Ja}{vs:aa qa}{ds:aa PyData}(r:aD X h vs ds)(hc:Xe ds=true):vs.map (readOf h)=ds:=by
 refine xE r.reads λas q=> ?_
 exact readsAll_map _ _ _ hc q
theorem ao.PV{o e:Ba}{apos pos:Pos}{ds:aa PyData}{d:PyData}{j:Nat}(x:ao w A B env Γ Δ o (.list ds))(y:ao w A B env Γ Δ e (.dat d))(hd:d.canLay0=true)(Pk:Xe ds=true)(hu:A.units+1+min (we ds) d.depth<cLine)
  (hj:∃a,ds[j]? =some a∧jc a d=true)(qK:∀m a,m<j→ds[m]? =some a→jc a d=false)(hz:ds.length≤Bb)
  (hb:Aa (aO o=true) aR)(hn:Aa (notStar e=true) aR)(hl:Aa ((apos.endLine==pos.line)=true) aR):ao w A B env Γ Δ (.Call (.Attribute o (ya "index") apos) [e] [] pos) (.int (j:Nat)):=.mk λs E S=>
 Ug (bU hb) (by rw[aF _ _ _ hn];rfl) hl (x.use S λv s1 k1 S1 r1=>by
  cases id r1 with
  | @list a o vs n ds hx h1 h2 O3 h3 h4=>
  refine⟨"list",_,Oj,PySem.F.slot_list_index,PySem.F.type_list_index,⟨o,h1,h2⟩,(λa e=>by cases e;exact⟨o,h1,O3⟩),
   method1_meets PySem.F.slot_list_index PySem.F.entry_list_index (y.use S1 λu s2 k2 S2 r2=> ?_)⟩
  have YX:=k2.up _ _ h1
  have YY:=h4.up k2.up
  have em:=EqAt.readAll YY Pk
  refine xE YY.reads λas q4=> ?_
  refine xE (Rd.reads r2) λbs q2=> ?_
  obtain⟨c,dd,dt,sl⟩:=o
  dsimp only at h2 O3 h3
  subst h2 O3 h3
  have at_:∀m (hm:m<vs.size),ds[m]? =some (readOf s2.heap vs[m]):=λm hm=>by
   rw[←em,Ab,Wb (by simpa using hm)];simp
  refine bE hj λa0 hj1 hj2=> ?_
  have hlen:vs.size=ds.length:=by rw[←em];simp
  have hjl:j<vs.size:=by rw[hlen];exact(ud.mp hj1).1
  refine⟨⟨_,YX,rfl⟩,PySem.F.args_list_index_2 _ _,_,SeqAt.list_indexAt a vs n none sl u (λv=>jc (readOf s2.heap v) d) j hjl (by rw[sizeLine_eq]at hz;exact V9 hz hlen hjl) ?_ (λm hm bB=> ?_),YX,items_eqAt q4 q2 Pk hd hu,?_⟩
  ·have:=at_ j hjl
   rw[hj1]at this;cases this;exact hj2
  ·exact qK m _ bB (at_ m hm)
  ·exact⟨(k1.trans' k2).trans' (.tok ..),.int ..⟩)
theorem ao.PU{o e:Ba}{apos pos:Pos}{ds:aa PyData}{d:PyData}(x:ao w A B env Γ Δ o (.list ds))(y:ao w A B env Γ Δ e (.dat d))(hd:d.canLay0=true)(Pk:Xe ds=true)(hu:A.units+1+min (we ds) d.depth<cLine)
  (hb:Aa (aO o=true) aR)(hn:Aa (notStar e=true) aR)(hl:Aa ((apos.endLine==pos.line)=true) aR):ao w A B env Γ Δ (.Call (.Attribute o (ya "count") apos) [e] [] pos) (.int (ds.countP λa=>jc a d:Nat)):=.mk λs E S=>
 Ug (bU hb) (by rw[aF _ _ _ hn];rfl) hl (x.use S λv s1 k1 S1 r1=>by
  cases id r1 with
  | @list a o vs n ds hx h1 h2 O3 h3 h4=>
  refine⟨"list",_,Oj,PySem.F.slot_list_count,PySem.F.type_list_count,⟨o,h1,h2⟩,(λa e=>by cases e;exact⟨o,h1,O3⟩),
   method1_meets PySem.F.slot_list_count PySem.F.entry_list_count (y.use S1 λu s2 k2 S2 r2=> ?_)⟩
  have YX:=k2.up _ _ h1
  have YY:=h4.up k2.up
  have em:=EqAt.readAll YY Pk
  refine xE YY.reads λas q4=> ?_
  refine xE (Rd.reads r2) λbs q2=> ?_
  obtain⟨c,dd,dt,sl⟩:=o
  dsimp only at h2 O3 h3
  subst h2 O3 h3
  refine⟨⟨_,YX,rfl⟩,PySem.F.args_list_count_2 _ _,_,SeqAt.list_countAt a vs n none sl u (λv=>jc (readOf s2.heap v) d),YX,items_eqAt q4 q2 Pk hd hu,?_⟩
  have:vs.toList.countP (λv=>jc (readOf s2.heap v) d)=ds.countP λa=>jc a d:=by rw[←em,aa.countP_map];rfl
  refine(this ..).symm▸ ?_
  exact⟨(k1.trans' k2).trans' (.tok ..),.int ..⟩)
theorem ao.aa8{x:Str}{p pos:Pos}{e:Ba}{ns:aa Int}(hh:A.handled=none)(hf:ao w A B env Γ Δ (.Name x p) (.val (.builtin "sum")))(y:ao w A B env Γ Δ e (.list (ns.map .int)))(hb:∀u∈ns,0≤u∧u≤1000)(hz:ns.length≤1000)
  (he:Aa (notStar e=true) aR):ao w A B env Γ Δ (.Call (.Name x p) [e] [] pos) (.int ns.sum):=
 hf.oE (.cons y .nil he) λvs s E S r=>by
  refine r.c1 λv r1=> ?_
  obtain⟨a,us,rfl,ha,hl,hr⟩:=Rd.isList r1
  have bB:a≠s.heap.objs.size:=by obtain⟨_,e,_⟩:=hl;exact se (Ub e)
  have w5:us.toArray.size=ns.length:=by simp[hr.length]
  have sm:∀(l:aa Int),(∀u∈l,0≤u∧u≤1000)→0≤l.sum∧l.sum≤1000*l.length:=λl hl=>by
   induction l with
   |nil=>simp
   |cons c l ih=>
    have h1:=hl c La
    have h2:=ih λu hu=>hl u (Wa _ hu)
    rw[Rg,xd];exact R3 h1 h2
  refine call_sum_walk (Rh hl ⟨s.heap.objs.size,[s.heap.objs.size,a],[s.heap.objs.size],us.toArray.size,_,_,λi=>ns.getD i 0,rfl,ng (prog:=pw) (w:=w) (A:=A.in1) hh _ a bB us.toArray,⟨⟨_,Zb _ rfl,rfl,rfl⟩,hl.push _⟩,λb hb=> ?_,
   λi v hv=> ?_,λj hj=> ?_,λh' tk t' hk=>⟨.of s λb o e=>hk b o (λq=> ?_) (qc _ e),?_⟩⟩)
  ·show b<(s.heap.push _).objs.size
   refine(Yc ..).symm▸ ?_
   simp only[Za,Vf,Rf]at hb
   rcases hb with rfl|rfl
   ·exact Ph _
   ·obtain⟨_,e,_⟩:=hl;exact kh (Ub e)
  ·obtain⟨t,rfl,_⟩:=hr.intAt hv
   exact⟨t,rfl⟩
  ·rw[w5]at hj
   have g:ns.getD j 0∈ns:=by rw[Lb,Wb hj];exact Dg hj
   have h1:=hb _ g
   have h2:=sm (ns.take (j+1)) λu hu=>hb u (Ig hu)
   have h3:(ns.take (j+1)).length≤1000:=by rw[uf];exact Uo hz
   refine(PyProof.Rows.preSum_getD ..).symm▸ ?_
   unfold InLong
   dsimp only at h1⊢
   exact R6 h1 h2 h3
  ·rw[Vb.mp q]at e;exact Pc _ (Ub e)
  ·rw[PyProof.Rows.preSum_getD,w5,bf];exact .int ..
theorem ao.IX{x:Str}{p pos:Pos}{e1:Ba}{d1 d:D}{f:ia}(hf:ao w A B env Γ Δ (.Name x p) (.val (.ref f)))(a:ao w A B env Γ Δ e1 d1)(G:aW w aG d0 B.s0.heap)
  (hc:∀u s E,Sc B env Γ Δ s→De (XX B.Xo env Δ) s.heap u d1→Ia (Md w) A (Ic (.ref f) [u]) (λv s'=>Kp s s'∧De (XX B.Xo env Δ) s'.heap v d) E s)
  (Js:Aa (O0 (KK w aG d0) f=true) aK)(h1:Aa (notStar e1=true) aR):ao w A B env Γ Δ (.Call (.Name x p) [e1] [] pos) d:=.mk λs E S=>by
 refine Ke rfl (hf.use S λv s1 k1 S1 r1=> ?_)
 obtain rfl:v=.ref f:=r1
 refine lK (nH G Js) λob fd ho hd=> ?_
 have args:Ia (Md w) A (evalArgs (.ref f) true (backTo pos (Rb [e1] env)) []) (λar s'=>ar.kw=[]∧Kp s1 s'∧∃u,ar.pos=[u]∧De (XX B.Xo env Δ) s'.heap u d1) E s1:=by
  refine(aF _ _ _ h1 ..).symm▸ ?_
  refine Ji ?_
  exact Le (a.use S1 λu s2 k2 S2 r2=>bg ⟨rfl,k2,u,rfl,r2⟩)
 refine uh (o:=ob) (fd:=fd) (Pa args (λar s2 q=> ?_) λz_ z_ z=>z)
 obtain⟨vs,kw⟩:=ar
 obtain⟨q0,q1,u,q2,q3⟩:=q
 dsimp only at q0 q2
 subst q0 q2
 refine⟨⟨(S1.upd q1).kp.up _ _ ho,hd⟩,?_⟩
 exact Pa (hc u s2 E (S1.upd q1) q3) (λv s3 q3=>⟨(k1.trans' q1).trans' q3.1,q3.2⟩) λz_ z_ z=>z
theorem ao.IY{x:Str}{p pos:Pos}{e1 e2:Ba}{d1 d2 d:D}{f:ia}(hf:ao w A B env Γ Δ (.Name x p) (.val (.ref f)))(a:ao w A B env Γ Δ e1 d1)(b:ao w A B env Γ Δ e2 d2)(G:aW w aG d0 B.s0.heap)
  (hc:∀u v s E,Sc B env Γ Δ s→De (XX B.Xo env Δ) s.heap u d1→De (XX B.Xo env Δ) s.heap v d2→Ia (Md w) A (Ic (.ref f) [u,v]) (λv s'=>Kp s s'∧De (XX B.Xo env Δ) s'.heap v d) E s)
  (Js:Aa (O0 (KK w aG d0) f=true) aK)(h1:Aa (notStar e1=true) aR)(h2:Aa (notStar e2=true) aR):ao w A B env Γ Δ (.Call (.Name x p) [e1,e2] [] pos) d:=.mk λs E S=>by
 refine Ke rfl (hf.use S λv s1 k1 S1 r1=> ?_)
 obtain rfl:v=.ref f:=r1
 refine lK (nH G Js) λob fd ho hd=> ?_
 have args:Ia (Md w) A (evalArgs (.ref f) true (backTo pos (Rb [e1,e2] env)) []) (λar s'=>ar.kw=[]∧Kp s1 s'∧∃u v,ar.pos=[u,v]∧De (XX B.Xo env Δ) s'.heap u d1∧De (XX B.Xo env Δ) s'.heap v d2) E s1:=by
  refine(aF _ _ _ h1 ..).symm▸(aF _ _ _ h2 ..).symm▸ ?_
  refine Ji ?_
  exact Le (a.use S1 λu s2 k2 S2 r2=>Le (b.use S2 λv s3 k3 S3 r3=>bg ⟨rfl,k2.trans' k3,u,v,rfl,r2.up k3.up,r3⟩))
 refine uh (o:=ob) (fd:=fd) (Pa args (λar s2 q=> ?_) λz_ z_ z=>z)
 obtain⟨vs,kw⟩:=ar
 obtain⟨q0,q1,u,v,q2,q3,q4⟩:=q
 dsimp only at q0 q2
 subst q0 q2
 refine⟨⟨(S1.upd q1).kp.up _ _ ho,hd⟩,?_⟩
 exact Pa (hc u v s2 E (S1.upd q1) q3 q4) (λv s3 q3=>⟨(k1.trans' q1).trans' q3.1,q3.2⟩) λz_ z_ z=>z
theorem ao.eX{x:Str}{p pos:Pos}{e1 e2:Ba}{t c:mQ}{k:Nat}(ac:Ac A (k+1))(G:aW w aG d0 B.s0.heap)(hf:ao w A B env Γ Δ (.Name x p) (.val (.ref 298)))(a:ao w A B env Γ Δ e1 (.known (fE w t)))(b:ao w A B env Γ Δ e2 (.known (fE w c)))(hl:t.length+c.length≤100000)
  (h1:Aa (notStar e1=true) aR)(h2:Aa (notStar e2=true) aR):ao w A B env Γ Δ (.Call (.Name x p) [e1,e2] [] pos) (.known (fE w (eX t c))):=
 hf.IY a b G (λu v s E S h3 h4=>H9 ac (S.g8 G) (λa ha=>S.jH ha) h3 h4 hl) (by kernel_rfl) h1 h2
theorem ao.yQ{x:Str}{p pos:Pos}{e1:Ba}{c:mQ}{k:Nat}(ac:Ac A (k+1))(G:aW w aG d0 B.s0.heap)(hf:ao w A B env Γ Δ (.Name x p) (.val (.ref 305)))(a:ao w A B env Γ Δ e1 (.known (fE w c)))
  (h1:Aa (notStar e1=true) aR):ao w A B env Γ Δ (.Call (.Name x p) [e1] [] pos) (.int (c.map (·.2)).sum):=
 hf.IX a G (λu s E S h3=>IL ac (S.g8 G) (λa ha=>S.jH ha) h3) (by kernel_rfl) h1
theorem lq.de{X:aa ia}{s s':za}{v:qa}{ds:aa PyData}(h:lq X s s' v ds):De X s'.heap v (.list ds):=by
 obtain⟨a,vs,rfl,ha,_,hl,hr⟩:=h
 exact Rd.listAt ha hl hr
theorem ao.ER{o:Ba}{apos pos:Pos}{rows:Rows}{k:Nat}(ac:Ac A (k+1))(G:aW w aG d0 B.s0.heap)(x:ao w A B env Γ Δ o (.known (HP rows)))(kZ:cP rows)
  (hb:Aa (aO o=true) aR)(hl:Aa ((apos.endLine==pos.line)=true) aR):ao w A B env Γ Δ (.Call (.Attribute o (ya "keys") apos) [] [] pos) (.list ((rows.map (·.1)).map .str)):=
 ao.q7 (K:=HP rows) (C:=hC) (f:=418) x (eu.inst (by kernel_rfl)) G (bu w aG d0) .nil (λv vs s E S hv hr=>by
  cases hr
  exact Pa (JJ ac (S.g8 G) (λa ha=>S.jH ha) hv kZ) (λz_ z_ q=>⟨q.1,q.2.de⟩) λz_ z_ z=>z) (by kernel_rfl) (by kernel_rfl) (by kernel_rfl) hb (by rfl) hl
theorem ao.JA{o:Ba}{apos pos:Pos}{rows:Rows}{k:Nat}(ac:Ac A (k+1))(G:aW w aG d0 B.s0.heap)(x:ao w A B env Γ Δ o (.known (HP rows)))(kZ:cP rows)
  (hb:Aa (aO o=true) aR)(hl:Aa ((apos.endLine==pos.line)=true) aR):ao w A B env Γ Δ (.Call (.Attribute o (ya "values") apos) [] [] pos) (.list ((rows.map (·.2)).map .str)):=
 ao.q7 (K:=HP rows) (C:=hC) (f:=423) x (eu.inst (by kernel_rfl)) G (bu w aG d0) .nil (λv vs s E S hv hr=>by
  cases hr
  exact Pa (LF ac (S.g8 G) (λa ha=>S.jH ha) hv kZ) (λz_ z_ q=>⟨q.1,q.2.de⟩) λz_ z_ z=>z) (by kernel_rfl) (by kernel_rfl) (by kernel_rfl) hb (by rfl) hl
theorem ao.Pp{o:Ba}{apos pos:Pos}{rows:Rows}{k:Nat}(ac:Ac A (k+1))(G:aW w aG d0 B.s0.heap)(x:ao w A B env Γ Δ o (.known (HP rows)))(kZ:cP rows)
  (hb:Aa (aO o=true) aR)(hl:Aa ((apos.endLine==pos.line)=true) aR):ao w A B env Γ Δ (.Call (.Attribute o (ya "items") apos) [] [] pos) (.list (rows.map bz)):=
 ao.q7 (K:=HP rows) (C:=hC) (f:=430) x (eu.inst (by kernel_rfl)) G (bu w aG d0) .nil (λv vs s E S hv hr=>by
  cases hr
  exact Pa (JG ac (S.g8 G) (λa ha=>S.jH ha) hv kZ) (λz_ z_ q=>⟨q.1,q.2.de⟩) λz_ z_ z=>z) (by kernel_rfl) (by kernel_rfl) (by kernel_rfl) hb (by rfl) hl
theorem ao.Jt{o e:Ba}{apos pos:Pos}{rows:Rows}{name:Str}{k:Nat}(ac:Ac A (k+2))(G:aW w aG d0 B.s0.heap)(x:ao w A B env Γ Δ o (.known (HP rows)))(y:ao w A B env Γ Δ e (.str name))(ok:Nm name)(kZ:cP rows)
  (h1:Aa (notStar e=true) aR)(hb:Aa (aO o=true) aR)(hl:Aa ((apos.endLine==pos.line)=true) aR):ao w A B env Γ Δ (.Call (.Attribute o (ya "get_all") apos) [e] [] pos) (.list ((l6 rows name).map .str)):=
 ao.q7 (K:=HP rows) (C:=hC) (f:=405) x (eu.inst (by kernel_rfl)) G (bu w aG d0) (.cons y .nil h1) (λv vs s E S hv hr=>by
  refine hr.c1 λu r1=> ?_
  exact Pa (I9 ac (S.g8 G) (λa ha=>S.jH ha) hv r1 ok kZ) (λz_ z_ q=>⟨q.1,q.2.de⟩) λz_ z_ z=>z) (by kernel_rfl) (by kernel_rfl) (by kernel_rfl) hb (by rfl) hl
theorem yz.P6{pos:Pos}:yz w A B env Γ Δ (.List [] pos) (λd N=>∃a,d=.val (.ref a)∧N=[(a,.list [])]):=.mk λs E S=>by
 refine Pa ((z5.nil (pos:=pos)).go s E S) (λv s' q=> ?_) λz_ z_ z=>z
 obtain⟨k,a,vs,rfl,hf,hl,hr,_⟩:=q
 exact⟨k,_,_,⟨a,rfl,rfl⟩,S.take k hf ⟨vs,hl,by cases hr;exact .nil⟩,rfl⟩
theorem yz.aaD{pos:Pos}(G:aW w aG d0 B.s0.heap):yz w A B env Γ Δ (.Dict [] [] pos) (λd N=>d=.known (fE w [])∧N=[]):=.mk λs E S=>by
 refine Pa ((QT.dict (strKind pw w) G (p:=pos)).go s E S) (λv s' q=> ?_) λz_ z_ z=>z
 obtain⟨k,a,rfl,hf,nM,hm⟩:=q
 refine bE (hm []) λo ho hd=> ?_
 refine⟨k,_,_,⟨rfl,rfl⟩,S.upd k,a,[],rfl,λq=>hf.off _ q rfl,nM,Pe.mpr ⟨o,ho,hd⟩,⟨rfl,.nil⟩⟩
variable{as bs:aa Str}{aV bK aH aZ:Int}
noncomputable def yK(as bs:aa Str)(i j:Int):Prop:=as.getD i.toNat ⟨#[]⟩=bs.getD j.toNat ⟨#[]⟩
structure Suf(as bs:aa Str)(aV aH i j v:Int):Prop where
 v0:0≤v
 va:v≤i-aV
 vb:v≤j-aH
 eq:∀t,0≤t→t<v→yK as bs (i-1-t) (j-1-t)
 mx:v<i-aV→v<j-aH→¬yK as bs (i-1-v) (j-1-v)
theorem Suf.max{i j v z:Int}(h:Suf as bs aV aH i j v)(e:∀t,0≤t→t<z→yK as bs (i-1-t) (j-1-t))(h1:z≤i-aV)(h2:z≤j-aH):z≤v:=by
 rcases Int.lt_or_le v z with q|q
 ·exact absurd (e v h.v0 q) (h.mx (by exact jh q h1) (by exact jh q h2))
 ·exact q
theorem Suf.uniq{i j v u:Int}(h:Suf as bs aV aH i j v)(g:Suf as bs aV aH i j u):v=u:=by
 have:=h.max g.eq g.va g.vb
 have:=g.max h.eq h.va h.vb
 exact zg this (by assumption)
theorem Suf.step{i j v:Int}(h:Suf as bs aV aH i j v)(e:yK as bs i j):Suf as bs aV aH (i+1) (j+1) (v+1):=by
 have:=h.v0;have:=h.va;have:=h.vb
 refine⟨by exact Int.le_add_one (by assumption),by exact LY (by assumption),by exact LY this,λt h0 h1=> ?_,λh1 h2=> ?_⟩
 ·rcases Int.lt_or_le 0 t with q|q
  ·have:=h.eq (t-1) (by exact Lh q) (by exact Yk h1)
   rwa [show i-1-(t-1)=i+1-1-t by exact X5,show j-1-(t-1)=j+1-1-t by exact X5]at this
  ·obtain rfl:t=0:=by exact Be (zg h0 q)
   rwa [show i+1-1-0=i by exact TZ,show j+1-1-0=j by exact TZ]
 ·have:=h.mx (by exact LZ h1) (by exact LZ h2)
  rwa [show i+1-1-(v+1)=i-1-v by exact X6,show j+1-1-(v+1)=j-1-v by exact X6]
theorem Suf.zero{i j:Int}(h1:aV≤i)(h2:aH≤j)(e:aV=i∨aH=j∨¬yK as bs (i-1) (j-1)):Suf as bs aV aH i j 0:=by
 refine⟨by omega,by omega,by omega,λt h0 h1=>by omega,λa b=> ?_⟩
 rcases e with e|e|e
 ·exact Ye (LV a e)
 ·exact Ye (LV b e)
 ·rwa [show i-1-0=i-1 by exact Int.sub_zero (_-1),show j-1-0=j-1 by exact Int.sub_zero (_-1)]
theorem Suf.ex:∀(n:Nat) (i j:Int),i-aV=n→aH≤j→∃v,Suf as bs aV aH i j v
 |0,i,j,h1,h2=>⟨0,.zero (by exact Int.le.intro_sub 0 h1) h2 (.inl (by exact Be (Int.eq_of_sub_eq_zero h1)))⟩
 |n+1,i,j,h1,h2=>by
  by_cases q:aH=j
  ·exact⟨0,.zero (by exact Int.le.intro_sub (_+1) h1) h2 (.inr (.inl q))⟩
  ·refine xE (Suf.ex n (i-1) (j-1) (by exact R1 h1) (by exact Rq h2 q)) λv hv=> ?_
   by_cases e:yK as bs (i-1) (j-1)
   ·have:=hv.step e
    rw[show i-1+1=i by exact Cj _ 1,show j-1+1=j by exact Cj _ 1]at this
    exact⟨_,this⟩
   ·exact⟨0,.zero (by exact Int.le.intro_sub (_+1) h1) h2 (.inr (.inr e))⟩
structure vR(as bs:aa Str)(aV aH:Int)(sc:Int→Int→Prop)(b:d8):Prop where
 x0:aV≤b.1
 y0:aH≤b.2.1
 eq:∀t,0≤t→t<b.2.2→yK as bs (b.1+t) (b.2.1+t)
 at_:(b.2.2=0∧b.1=aV∧b.2.1=aH)∨(0<b.2.2∧sc (b.1+b.2.2-1) (b.2.1+b.2.2-1))
 mx:∀i j v,sc i j→Suf as bs aV aH (i+1) (j+1) v→v≤b.2.2∧(v=b.2.2→0<b.2.2→b.1+b.2.2-1<i∨(b.1+b.2.2-1=i∧b.2.1+b.2.2-1≤j))
noncomputable def C7(aV aH aZ i j:Int)(i' j':Int):Prop:=aV≤i'∧aH≤j'∧j'<aZ∧(i'<i∨(i'=i∧j'<j))
theorem vR.imp{sc sc':Int→Int→Prop}{b:d8}(h:vR as bs aV aH sc b)(e:∀i j,sc i j↔sc' i j):vR as bs aV aH sc' b:=
 ⟨h.x0,h.y0,h.eq,h.at_.imp id λq=>⟨q.1,(e _ _).mp q.2⟩,λi j v s=>h.mx i j v ((e _ _).mpr s)⟩
theorem vR.less{b:d8}{i j:Int}(h:vR as bs aV aH (C7 aV aH aZ i j) b)(hi:aV≤i)(hj:aH≤j)(hjb:j<aZ){v:Int}(hv:Suf as bs aV aH (i+1) (j+1) v)(hz:v≤b.2.2):vR as bs aV aH (C7 aV aH aZ i (j+1)) b:=by
 refine⟨h.x0,h.y0,h.eq,h.at_.imp id λq=>⟨q.1,q.2.1,q.2.2.1,q.2.2.2.1,?_⟩,λi' j' u s hu=> ?_⟩
 ·have:=q.2.2.2.2;exact RJ this
 ·refine eS s λs1 s2 s3 s4=> ?_
  by_cases q:i'<i∨(i'=i∧j'<j)
  ·exact h.mx i' j' u ⟨s1,s2,s3,q⟩ hu
  ·obtain⟨rfl,rfl⟩:i'=i∧j'=j:=by exact L6 s4 q
   have:=hu.uniq hv
   subst this
   refine⟨hz,λe e0=> ?_⟩
   rcases h.at_ with a|a
   ·exact RS e0 a
   ·have:=a.2.2.2.2;exact RK this
theorem vR.more{b:d8}{i j:Int}(h:vR as bs aV aH (C7 aV aH aZ i j) b)(hi:aV≤i)(hj:aH≤j)(hjb:j<aZ){v:Int}(hv:Suf as bs aV aH (i+1) (j+1) v)(hz:b.2.2<v)(hb:0≤b.2.2):vR as bs aV aH (C7 aV aH aZ i (j+1)) (i-v+1,j-v+1,v):=by
 have h1:=hv.va;have h2:=hv.vb
 refine⟨by show aV≤i-v+1;exact L2 h1,by show aH≤j-v+1;exact L2 h2,λt h0 h1=> ?_,.inr ⟨by show 0<v;exact Int.lt_of_le_of_lt hb hz,?_⟩,λi' j' u s hu=> ?_⟩
 ·have:=hv.eq (v-1-t) (by have:t<v:=h1;exact Yl this) (by exact Ym h0)
  show yK as bs (i-v+1+t) (j-v+1+t)
  rwa [show i+1-1-(v-1-t)=i-v+1+t by exact LW,show j+1-1-(v-1-t)=j-v+1+t by exact LW]at this
 ·show C7 aV aH aZ i (j+1) (i-v+1+v-1) (j-v+1+v-1)
  rw[show i-v+1+v-1=i by exact X7,show j-v+1+v-1=j by exact X7]
  exact⟨hi,hj,hjb,.inr ⟨rfl,by exact Int.lt_succ _⟩⟩
 ·refine eS s λs1 s2 s3 s4=> ?_
  show u≤v∧(u=v→0<v→i-v+1+v-1<i'∨(i-v+1+v-1=i'∧j-v+1+v-1≤j'))
  by_cases q:i'<i∨(i'=i∧j'<j)
  ·have:=(h.mx i' j' u ⟨s1,s2,s3,q⟩ hu).1
   exact⟨by exact RD hz this,λe=>by exact RU hz this e⟩
  ·obtain⟨rfl,rfl⟩:i'=i∧j'=j:=by exact L6 s4 q
   have:=hu.uniq hv
   exact RI this
theorem CB(bs:aa Str)(x:Str)(n:Nat):(aL (iC bs n) x).getD []=((Sa n).filter λj=>decide (bs.getD j ⟨#[]⟩=x)).map λ(k:Nat)=>(k:Int):=by
 induction n with
 |zero=>rfl
 |succ n ih=>
  rw[jD,kg,aa.filter_append,Mc,←ih]
  unfold fP
  by_cases e:bs.getD n ⟨#[]⟩=x
  ·subst e
   cases h:aL (iC bs n) (bs.getD n ⟨#[]⟩)with
   |some l=>simp[cF]
   |none=>simp[cF]
  ·have e':¬x=bs.getD n ⟨#[]⟩:=λq=>e q.symm
   have e2:¬bs[n]?.getD ⟨#[]⟩=x:=by rwa [Lb]at e
   cases h:aL (iC bs n) (bs.getD n ⟨#[]⟩)with
   |some l=>simp only[cF,if_neg e'];simp[e2]
   |none=>simp only[cF,if_neg e'];simp[e2]
theorem iH{α β:Type}(p:α→Ga)(f:β→α→β):∀(l:aa α) (b:β),(l.filter p).foldl f b=l.foldl (λb a=>if p a then f b a else b) b
 |[],b=>rfl
 |a::l,b=>by
  rw[Uh,Qd]
  cases h:p a with
  |true=>simp only[if_true];rw[Qd];exact iH p f l _
  |false=>simp only[wg,yg];exact iH p f l _
theorem zM{i:Int}{prev:IM}{x:Str}{b:d8}{n:Nat}(hb:aZ=n)(hn:n≤bs.length):rF i aH aZ prev (dZ bs x) b=
  (Sa n).foldl (λst (j:Nat)=>if decide (bs.getD j ⟨#[]⟩=x)then fH i aH prev st j else st) ([],b):=by
 unfold rF dZ
 rw[CB,←iH (λj=>decide (bs.getD j ⟨#[]⟩=x)) (λst (j:Nat)=>fH i aH prev st j)]
 obtain⟨m,hm⟩:∃m,bs.length=n+m:=⟨bs.length-n,by exact Be (Ce hn)⟩
 rw[hm,aa.range_add,aa.filter_append,Mc,aa.takeWhile_append_of_pos (λa ha=> ?_)]
 ·have:((((Sa m).map λx=>n+x).filter λj=>decide (bs.getD j ⟨#[]⟩=x)).map λ(k:Nat)=>(k:Int)).takeWhile (λj=>decide (j<aZ))=[]:=by
   have EE:∀y∈(((Sa m).map λx=>n+x).filter λj=>decide (bs.getD j ⟨#[]⟩=x)).map λ(k:Nat)=>(k:Int),¬y<aZ:=λy hy=>by
    obtain⟨k,hk,rfl⟩:=Ra.mp hy
    obtain⟨k',_,rfl⟩:=Ra.mp (Xd.mp hk).1
    exact UX hb
   generalize hl:(((Sa m).map λx=>n+x).filter λj=>decide (bs.getD j ⟨#[]⟩=x)).map (λ(k:Nat)=>(k:Int))=l at EE
   cases l with
   |nil=>rfl
   |cons y ys=>rw[aa.takeWhile_cons_of_neg];simpa using EE y La
  rw[this,ff,aa.foldl_map]
 ·obtain⟨k,hk,rfl⟩:=Ra.mp ha
  have:=Nb.mp (Xd.mp hk).1
  simp;exact TH hb this
theorem vR.z0{sc:Int→Int→Prop}{b:d8}(h:vR as bs aV aH sc b):0≤b.2.2:=by rcases h.at_ with a|a<;> omega
theorem Qn{i:Int}{prev:IM}{b:d8}{n:Nat}(hb:aZ=n)(hn:n≤bs.length)(h0:0≤aH)(NL:aH≤aZ)(hi:aV≤i)
  (hp:∀j,aH≤j→j≤aZ→Suf as bs aV aH i j ((aL prev (j-1)).getD 0))(hB:vR as bs aV aH (C7 aV aH aZ i aH) b):
  (∀j,aH≤j→j≤aZ→Suf as bs aV aH (i+1) j ((aL (rF i aH aZ prev (dZ bs (as.getD i.toNat ⟨#[]⟩)) b).1 (j-1)).getD 0))∧
  vR as bs aV aH (C7 aV aH aZ (i+1) aH) (rF i aH aZ prev (dZ bs (as.getD i.toNat ⟨#[]⟩)) b).2:=by
 refine(zM hb hn ..).symm▸ ?_
 have key:∀m:Nat,m≤n→(∀k v,aL ((Sa m).foldl (λst (j:Nat)=>if decide (bs.getD j ⟨#[]⟩=as.getD i.toNat ⟨#[]⟩)then fH i aH prev st j else st) (([],b):IM×d8)).1 k=some v→aH≤k∧k<m)∧
   (∀j,aH≤j→j≤m→Suf as bs aV aH (i+1) j ((aL ((Sa m).foldl (λst (j:Nat)=>if decide (bs.getD j ⟨#[]⟩=as.getD i.toNat ⟨#[]⟩)then fH i aH prev st j else st) (([],b):IM×d8)).1 (j-1)).getD 0))∧
   vR as bs aV aH (C7 aV aH aZ i (max (m:Int) aH)) ((Sa m).foldl (λst (j:Nat)=>if decide (bs.getD j ⟨#[]⟩=as.getD i.toNat ⟨#[]⟩)then fH i aH prev st j else st) (([],b):IM×d8)).2:=by
  intro m
  induction m with
  |zero=>
   intro _
   refine⟨λk v h=>by simp[aL]at h,λj h1 h2=> ?_,?_⟩
   ·have:(aL ([]:IM) (j-1)).getD 0=0:=rfl
    refine(aa.range_zero ..).symm▸(Mj ..).symm▸(this ..).symm▸ ?_
    exact .zero (by exact Int.le_add_one hi) h1 (.inr (.inl (by exact Rv h0 h1 h2)))
   ·rw[aa.range_zero,Mj,show max ((0:Nat):Int) aH=aH by exact Int.max_eq_right h0];exact hB
  |succ m ih=>
   intro hm
   refine yI (ih (by exact Xc hm)) λih1 ih2 JC=> ?_
   refine(kg ..).symm▸(xe ..).symm▸(Qd ..).symm▸(Mj ..).symm▸ ?_
   generalize(Sa m).foldl (λst (j:Nat)=>if decide (bs.getD j ⟨#[]⟩=as.getD i.toNat ⟨#[]⟩)then fH i aH prev st j else st) (([],b):IM×d8)=st at ih1 ih2 JC⊢
   have ZR:(¬yK as bs i m∨(m:Int)<aH)→(∀k v,aL st.1 k=some v→aH≤k∧k<((m+1:Nat):Int))∧(∀j,aH≤j→j≤((m+1:Nat):Int)→Suf as bs aV aH (i+1) j ((aL st.1 (j-1)).getD 0))∧
     vR as bs aV aH (C7 aV aH aZ i (max ((m+1:Nat):Int) aH)) st.2:=λhc=>by
    have EV:aL st.1 (m:Int)=none:=by
     cases h:aL st.1 (m:Int)with
     |none=>rfl
     |some v=>have:=ih1 _ _ h;exact Ye (R8 this)
    have hz:aH≤((m+1:Nat):Int)→Suf as bs aV aH (i+1) ((m:Int)+1) 0:=λhle=>.zero (by exact Int.le_add_one hi) (by exact hle) (by
     rcases hc with hc|hc
     ·right;right;rwa [show i+1-1=i by exact Int.add_sub_cancel _ 1,show(m:Int)+1-1=m by exact Mu]
     ·right;left;exact So hle hc)
    refine⟨λk v h=>by have:=ih1 k v h;exact L7 this,λj h1 h2=> ?_,?_⟩
    ·by_cases q:j≤(m:Int)
     ·exact ih2 j h1 q
     ·obtain rfl:j=(m:Int)+1:=by exact Sq h2 q
      rw[show(m:Int)+1-1=m by exact Mu,EV]
      exact hz (by exact h1)
    ·by_cases q:aH≤(m:Int)
     ·rw[show max ((m+1:Nat):Int) aH=(m:Int)+1 by exact Tt q]
      rw[show max (m:Int) aH=m by exact Int.max_eq_left q]at JC
      exact JC.less hi q (by exact DK hb hm) (hz (by exact R9 q)) JC.z0
     ·rw[show max ((m+1:Nat):Int) aH=max (m:Int) aH by exact Tu q];exact JC
   by_cases hc:bs.getD m ⟨#[]⟩=as.getD i.toNat ⟨#[]⟩
   ·have he:yK as bs i m:=hc.symm
    rw[if_pos (by simpa using hc)]
    unfold fH
    by_cases q:(m:Int)<aH
    ·rw[if_pos q];exact ZR (.inr q)
    ·rw[if_neg q]
     have hv:=hp m (by exact ig.mp q) (by exact TJ hb hm)
     generalize(aL prev ((m:Int) -1)).getD 0=v at hv⊢
     have w7:=hv.step he
     refine⟨λk u h=> ?_,λj h1 h2=> ?_,?_⟩
     ·rw[cF]at h
      by_cases e:k=(m:Int)
      ·exact R4 q e
      ·rw[if_neg e]at h;have:=ih1 k u h;exact L7 this
     ·rw[cF]
      by_cases e:j-1=(m:Int)
      ·obtain rfl:j=(m:Int)+1:=by exact Sk e
       rw[if_pos e];exact w7
      ·rw[if_neg e];exact ih2 j h1 (by exact Ss h2 e)
     ·rw[show max ((m+1:Nat):Int) aH=(m:Int)+1 by exact Tv q]
      rw[show max (m:Int) aH=m by exact Tw q]at JC
      by_cases hz:v+1>st.2.2.2
      ·simp only[if_pos hz];exact JC.more hi (by exact ig.mp q) (by exact DK hb hm) w7 hz JC.z0
      ·simp only[if_neg hz];exact JC.less hi (by exact ig.mp q) (by exact DK hb hm) w7 (by exact ig.mp hz)
   ·rw[if_neg (by simpa using hc)]
    exact ZR (.inl λe=>hc e.symm)
 refine yI (key n (zb _)) λz_ k2 k3=> ?_
 refine⟨λj h1 h2=>k2 j h1 (by exact le_of_le_of_eq h2 hb),k3.imp λi' j'=> ?_⟩
 unfold C7
 constructor
 ·rintro⟨a,b,c,d⟩;exact⟨a,b,c,by exact RZ d⟩
 ·rintro⟨a,b,c,d⟩;exact⟨a,b,c,by exact R0 hb b c d⟩
theorem I4(h1:aV≤bK)(h3:0≤aH)(h4:aH≤aZ)(h5:aZ≤bs.length):vR as bs aV aH (C7 aV aH aZ bK aH) (qH as bs aV bK aH aZ):=by
 obtain⟨n,hn⟩:∃n:Nat,aZ=n:=⟨aZ.toNat,by exact Rr h3 h4⟩
 have key:∀m:Nat,(∀j,aH≤j→j≤aZ→Suf as bs aV aH (aV+m) j ((aL (((Sa m).map λ(k:Nat)=>aV+(k:Int)).foldl (outF as bs aH aZ) ([],(aV,aH,0))).1 (j-1)).getD 0))∧
   vR as bs aV aH (C7 aV aH aZ (aV+m) aH) (((Sa m).map λ(k:Nat)=>aV+(k:Int)).foldl (outF as bs aH aZ) ([],(aV,aH,0))).2:=by
  intro m
  induction m with
  |zero=>
   refine⟨λj h1 h2=> ?_,⟨Hi _,Hi _,λt a b=> ?_,.inl ⟨rfl,rfl,rfl⟩,λi j v s hv=> ?_⟩⟩
   ·show Suf as bs aV aH (aV+((0:Nat):Int)) j 0
    exact .zero (by exact Int.le.intro 0 rfl) h1 (.inl (by exact aam))
   ·have:t<0:=b
    exact Ye (aat a this)
   ·obtain⟨a,b,c,d⟩:=s;exact RY a b d
  |succ m ih=>
   refine(kg ..).symm▸(Mc ..).symm▸(xe ..).symm▸ ?_
   have:=Qn (i:=aV+m) hn (by exact UY h5 hn) h3 h4 (by exact Int.le.intro _ rfl) ih.1 ih.2
   rw[show aV+((m+1:Nat):Int)=aV+m+1 by exact R7]
   exact this
 have:=(key (bK-aV).toNat).2
 rw[show aV+(((bK-aV).toNat:Nat):Int)=bK by exact Rn h1]at this
 exact this
structure QV(as bs:aa Str)(aV bK aH aZ:Int)(b:d8):Prop where
 ok:HV as bs aV bK aH aZ b
 eq:∀t,0≤t→t<b.2.2→yK as bs (b.1+t) (b.2.1+t)
 mx:∀x y w,aV≤x→x<bK→aH≤y→y<aZ→0≤w→x+w≤bK→y+w≤aZ→(∀t,0≤t→t<w→yK as bs (x+t) (y+t))→eN (w,-x,-y) (b.2.2,-b.1,-b.2.1)
theorem Ez(h1:aV≤bK)(h3:0≤aH)(h4:aH≤aZ)(h5:aZ≤bs.length):QV as bs aV bK aH aZ (qH as bs aV bK aH aZ):=by
 have H:=I4 (as:=as) (bs:=bs) h1 h3 h4 h5
 generalize qH as bs aV bK aH aZ=b at H
 have z0:=H.z0
 have run:∀x y w,aV≤x→aH≤y→0<w→x+w≤bK→y+w≤aZ→(∀t,0≤t→t<w→yK as bs (x+t) (y+t))→w≤b.2.2∧(w=b.2.2→b.1<x∨(b.1=x∧b.2.1≤y)):=λx y w a c e f g k=>by
  obtain⟨v,hv⟩:=Suf.ex (as:=as) (bs:=bs) (aV:=aV) (aH:=aH) (x+w-aV).toNat (x+w) (y+w) (by exact RE a e) (by exact RG c e)
  have hw:w≤v:=hv.max (λt t0 t1=>by
   have:=k (w-1-t) (by exact Yl t1) (by exact Ym t0)
   rwa [show x+(w-1-t)=x+w-1-t by exact LX,show y+(w-1-t)=y+w-1-t by exact LX]at this) (by exact L3 a) (by exact L3 c)
  have m:=H.mx (x+w-1) (y+w-1) v ⟨by exact L5 a e,by exact L5 c e,by exact Int.sub_one_lt_of_le g,.inl (by exact Int.sub_one_lt_of_le f)⟩ (by rwa [show x+w-1+1=x+w by exact Cj (_+_) 1,show y+w-1+1=y+w by exact Cj (_+_) 1])
  refine⟨by exact RT hw m,λq=> ?_⟩
  have:=m.2 (by exact RV hw m q) (by exact lt_of_lt_of_eq e q)
  exact RP q this
 have x0:=H.x0;have y0:=H.y0
 have fit:b.1+b.2.2≤bK∧b.2.1+b.2.2≤aZ:=by
  rcases H.at_ with a|a
  ·exact RW h1 h4 a
  ·obtain⟨p,q,r,u,v⟩:=a;exact RQ r u v
 refine⟨⟨x0,y0,z0,fit.1,fit.2,λp q e=> ?_,λp q e=> ?_⟩,H.eq,λx y w a c e f g k l r=> ?_⟩
 ·rcases H.at_ with a|a
  ·exact RN q a
  ·have:=(run (b.1-1) (b.2.1-1) (b.2.2+1) (by exact Int.le_sub_one_of_lt p) (by exact Int.le_sub_one_of_lt q) (by exact WK z0) (by exact RL fit) (by exact RM fit) λt t0 t1=>by
    by_cases q0:t=0
    ·subst q0;rw[Xg,Xg];exact e
    ·have:=H.eq (t-1) (by exact aau t0 q0) (by exact Yk t1)
     rwa [show b.1+(t-1)=b.1-1+t by exact X8,show b.2.1+(t-1)=b.2.1-1+t by exact X8]at this).1
   exact WU this
 ·have:=(run b.1 b.2.1 (b.2.2+1) (by omega) (by omega) (by exact WK z0) (by exact L4 p) (by exact L4 q) λt t0 t1=>by
   by_cases q0:t=b.2.2
   ·subst q0;exact e
   ·exact H.eq t t0 (by exact Rt t1 q0)).1
  exact WU this
 ·unfold eN
  by_cases hw:w=0
  ·subst hw
   rcases H.at_ with q|q
   ·simp only;exact RX a e q
   ·left;exact q.1
  ·have:=run x y w a e (by exact aav g hw) k l r
   simp only;exact RO this
noncomputable abbrev cY(cs:aa Int):aa Str:=(linesOf cs).map Jb
noncomputable def wordOf(cs:aa Int):aa Int:=aJ cs++[3]
noncomputable def c8(cs:aa Int):aa Int:=(aJ cs).reverse++[3]
noncomputable abbrev pG(l:aa Int):D:=.list (l.map .int)
end
section
variable{w:Oa}{A:Xa}{B:Bx}{s:za}{L:ia}{dV:qa}{Γ Γ':aa (Str×D)}{Δ:aa (ia×MO)}{aG:ia→qa}{d0:qa}{cs:aa Int}{Q:Flow→za→Prop}{E:qa→za→Prop}{rest:aa Va}
theorem J5{pos}(G:aW w aG d0 B.s0.heap):ao w A B (aA dV L) Γ Δ (.Name (ya "SequenceMatcher") pos) (.val (.ref sC)):=ao.glob G (by kernel_rfl) rfl (by kernel_rfl)
noncomputable abbrev GM(w:Oa)(cs:aa Int)(dm dw db dr de dx dy dz:D):aa (Str×D):=[(nm "size",.int cs.length),(nm "kinds",pG (aJ cs)),(nm "lines",cK (linesOf cs)),(nm "turned",cK (linesOf cs.reverse)),(nm "matcher",dm),(nm "word",dw),(nm "back",db),(nm "runs",dr),(nm "even",de),(nm "x",dx),(nm "y",dy),(nm "z",dz),(nm "shown",.list (cs.map λc=>.str (cJ c))),(nm "ways",.list (kr cs))]
theorem iX(cs:aa Int):(linesOf cs).length=cs.length+1:=by unfold linesOf;simp
theorem GN(c:Int):tooLong (Jb (cJ c)).length=false:=by
 have h:∀i,i<6→tooLong (Jb (ya (dG.getD i ""))).length=false:=by decide+kernel
 exact cy (P:=λi=>tooLong (Jb (ya (dG.getD i ""))).length=false) h c
theorem xD{cs:aa Int}{x:Str}(h:x∈linesOf cs):tooLong (Jb x).length=false:=by
 unfold linesOf at h
 rcases zc.mp h with h|h
 ·obtain⟨c,_,rfl⟩:=Ra.mp h;exact GN c
 ·rw[Vb.mp h];decide+kernel
theorem JN(ac:Ac A 12)(G:aW w aG d0 B.s0.heap)(hn:cs.length≤7)
  (S:Sc B (aA dV L) (GM w cs .un .un .un .un .un .un .un .un) [] s)
  (h:∀s',Sc B (aA dV L) (GM w cs (.known (MK w (cY cs) (cY cs.reverse))) (pG (wordOf cs)) (pG (c8 cs)) .un .un .un .un .un) [] s'→Ex w A (aA dV L) rest Q E s'):
  Ex w A (aA dV L) (lb 11::lb 12::rest) Q E s:=by
 have hL:B.s0.heap.objs.size≤L:=S.lf
 have e1:((linesOf cs).map ie).length≤Bb:=by rw[Qa,iX,sizeLine_eq];exact Fc hn (by decide)
 have e2:((linesOf cs.reverse).map ie).length≤Bb:=by rw[Qa,iX,sizeLine_eq,Ue];exact Fc hn (by decide)
 refine aI S (ao.make (C:=sC) (fI:=177) (l:=IB w (cY cs) (cY cs.reverse)) (kk:=14) (J5 G) (.cons .qx (.cons (LC.cast (bs:=(cY cs).map .str) (LC.kP (g:=λx=>.str (Jb x)) ac.hh (ao.name m2) (.list _ e1) bS .nil (λx hx B' Δ' C u p q=>ao.lower (ao.name m0) (xD hx))) ?_).ev
  (.cons (LC.cast (bs:=(cY cs.reverse).map .str) (LC.kP (g:=λx=>.str (Jb x)) ac.hh (ao.name m3) (.list _ e2) bS .nil (λx hx B' Δ' C u p q=>ao.lower (ao.name m0) (xD hx))) ?_).ev .nil))) (by simp) G (gr w aG d0) (λx dx vs s2 X E hX su hx hg hm hr Gb=> ?_)) BJ (keep hL) λs1 S1=> ?_
 ·rw[Eb];rfl
 ·rw[Eb];rfl
 ·refine hr.uc λz_ z_ r1 hr=>hr.uc λz_ z_ r2 hr=>hr.uc λz_ z_ r3 hr=> ?_
  cases hr
  exact K4 (k:=5) (Ac.under (ac.weak (by exact Mb rfl))) (Gb.keeps (lQ dx s2).up) Gb hX su hx hg hm r1 r2 r3 (by rw[Qa,iX,Ue];exact Fc hn (by decide))
 refine rK ac.hh S1 (ao.tup (.cons (ao.cat (ao.name m1) (ao.wK (.cons .bA .nil) (by rw[sizeLine_eq];decide)) ?_) (.cons (ao.cat (LC.cast (bs:=(aJ cs).reverse.map .int) (LC.kP (g:=λk:Nat=>.int ((aJ cs).getD (cs.length-1-k) 0)) ac.hh (ao.dD (bC G) (ao.name m0)) (lJ cs.length (by exact Na hn (by decide))) bS (.cons m1 (.cons m0 .nil)) (λk hk B' Δ' C u p q=> ?_)) ?_).ev (ao.wK (.cons .bA .nil) (by rw[sizeLine_eq];decide)) ?_) .nil)) (by rw[sizeLine_eq];simp))
  (.cons (bY.name OG (keep hL)) (.cons (bY.name NC (keep hL)) .nil)) (λs2 S2=> ?_) (hw:=by kernel_rfl)
 ·rw[sizeLine_eq];unfold aJ;simp;exact Na hn (by decide)
 ·have hk:k<cs.length:=Nb.mp hk
  refine ao.item (ao.name m1) (ao.sub (ao.sub (ao.name m2) .bA) (ao.name m0)) (by exact DO hk) (by exact DP hn) ?_
  rw[show((cs.length:Int) -1-(k:Nat)).toNat=cs.length-1-k by exact DL]
  exact wV _ _ (by unfold aJ;simp;exact yj hk)
 ·apply Ei
  ·unfold aJ;simp
  ·intro i h1 h2
   simp at h1
   simp[aJ,Lb,Wb (show cs.length-1-i<cs.length by exact yj h1)]
 ·rw[sizeLine_eq];unfold aJ;simp;exact Na hn (by decide)
 ·refine h s2 ?_
  have f1:(aJ cs).map Xb++[Xb 3]=(wordOf cs).map .int:=by unfold wordOf;simp
  have f2:(aJ cs).reverse.map Xb++[Xb 3]=(c8 cs).map .int:=by unfold c8;simp
  rw[f1,f2]at S2
  exact S2
theorem Yz(i j n:Nat):min (min j n-i) (n-i)=min (j-i) (n-i):=by
 rcases Nat.le_total j n with h|h
 ·rw[Oh h]
 ·rw[Nat.min_eq_right h,Nat.min_self,Nat.min_eq_right (Nat.sub_le_sub_right h i)]
theorem Gr(n a b:Nat):n+2-max a b≤n+2-a:=Nat.sub_le_sub_left (Nat.le_max_left a b) _
theorem Oo{n a b t:Nat}(h:t<n+2-max a b):t≤n+1-a:=by
 have:=Gr n a b
 exact Ws h
theorem Z3{n a b t:Nat}(h:t<n+2-max a b):t≤n+1-b:=Oo (b:=a) (Nat.max_comm a b▸h)
theorem Z4{n a b r:Nat}(ha:a<n+1)(hb:b<n+1)(h1:a+r≤max a (n+1))(h2:b+r≤max b (n+1)):r<n+2-max a b:=by
 rw[Pj (Xc ha)]at h1
 rw[Pj (Xc hb)]at h2
 rcases Nat.le_total a b with h|h
 ·rw[Pj h];exact MV h2
 ·rw[Nat.max_eq_left h];exact MV h1
theorem Z5{n m:Nat}(h:n≤7):n+2-m≤1000:=Na (Nat.sub_le ..) (by exact SM h)
theorem Z6{n a b:Nat}(ha:a<n+1)(hb:b<n+1):(n:Int)+2-max (a:Int) (b:Int)=((n+2-max a b:Nat):Int):=by
 rcases Nat.le_total a b with h|h
 ·rw[Pj h,Int.max_eq_right (Gd.mpr h)];exact MF hb
 ·rw[Nat.max_eq_left h,Int.max_eq_left (Gd.mpr h)];exact MF ha
theorem A2{r n a:Nat}(h:r≤n-a):a+r≤max a n:=by exact U4 h
theorem iQ{α:Type}(l:aa α)(i j:Nat):iP l (some (i:Int)) (some (j:Int))=(l.take j).drop i:=by
 unfold iP kms_lo kms_hi
 dsimp only
 rw[if_neg (by exact Int.not_ofNat_neg _),if_neg (by exact Int.not_ofNat_neg _)]
 simp only[Fg]
 refine(Xi ..).symm▸ ?_
 by_cases h:i≤l.length
 ·rw[Oh h,Lj,Td,Yz,←Td,←Lj]
 ·have h:=Xc (Nat.lt_of_not_le h)
  rw[aa.drop_of_length_le h,aa.drop_of_length_le (Nat.le_min.mpr ⟨h,zb _⟩)];simp
theorem qF:∀(a b:aa Int),Jd (a.map .int) (b.map .int)=decide (a=b)
 |[],[]=>by simp[Jd]
 |[],b::bs=>by simp[Jd]
 |a::as,[]=>by simp[Jd]
 |a::as,b::bs=>by
  simp only[Ib,Jd,jc,qF as bs]
  by_cases h:a=b<;> by_cases g:as=bs<;> simp[h,g]
theorem lY(a b:aa Int):jc (.list (a.map .int)) (.list (b.map .int))=decide (a=b):=by
 rw[←qF];rfl
theorem lR:∀a:aa Int,Xe (a.map .int)=true
 |[]=>rfl
 |_::as=>lR as
theorem nA:∀a:aa Int,we (a.map .int)=0
 |[]=>rfl
 |a::as=>by show max (Qf (.int a)) (we (as.map .int))=0;rw[nA as];rfl
theorem GI(a:aa Int):shaped (.list (a.map .int))=true:=by
 unfold shaped
 have h1:yd (.list (a.map .int))=true:=lR a
 have h2:Qf (.list (a.map .int))=we (a.map .int)+1:=rfl
 rw[h1,h2,nA];rfl
noncomputable def yR:aa Int→aa Int→Nat
 |x::xs,y::ys=>if x=y then yR xs ys+1 else 0
 |_,_=>0
theorem qA:∀(xs ys:aa Int) (t:Nat),t≤xs.length→t≤ys.length→(xs.take t=ys.take t↔t≤yR xs ys)
 |xs,ys,0,_,_=>by simp
 |[],ys,t+1,h,_=>by simp at h
 |x::xs,[],t+1,_,h=>by simp at h
 |x::xs,y::ys,t+1,h1,h2=>by
  simp only[xd]at h1 h2
  have:=qA xs ys t (by exact Oi h1) (by exact Oi h2)
  rw[Li,Li,Qe,this]
  show _↔t+1≤(if x=y then yR xs ys+1 else 0)
  by_cases e:x=y
  ·rw[if_pos e];simp[e]
  ·rw[if_neg e];simp[e]
theorem D7:∀(xs ys:aa Int),yR xs ys≤xs.length∧yR xs ys≤ys.length
 |[],_=>by simp[yR]
 |_::_,[]=>by simp[yR]
 |x::xs,y::ys=>by
  have:=D7 xs ys
  unfold yR
  split<;> simp only[xd]<;> omega
noncomputable def runN(cs:aa Int)(a b:Nat):Nat:=yR ((wordOf cs).drop a) ((c8 cs).drop b)
theorem kB(cs:aa Int):(wordOf cs).length=cs.length+1:=by unfold wordOf aJ;simp
theorem jV(cs:aa Int):(c8 cs).length=cs.length+1:=by unfold c8 aJ;simp
theorem pS(cs:aa Int)(a b:Nat):runN cs a b≤cs.length+1-a∧runN cs a b≤cs.length+1-b:=by
 have:=D7 ((wordOf cs).drop a) ((c8 cs).drop b)
 rw[Td,Td,kB,jV]at this
 exact this
theorem Qp(cs:aa Int)(a b:Nat):a+runN cs a b≤max a (cs.length+1)∧b+runN cs a b≤max b (cs.length+1):=⟨A2 (pS cs a b).1,A2 (pS cs a b).2⟩
noncomputable def tZ(cs:aa Int):aa PyData:=(Sa (cs.length+1)).map λa=>.list ((Sa (cs.length+1)).map λb=>.int (runN cs a b:Nat))
noncomputable def wN(M:Nat→Nat→Ga)(n:Nat):aa PyData:=(Sa n).map λi=>.list ((Sa (n+1)).map λj=>.bool (M i j))
theorem JO(ac:Ac A 12)(G:aW w aG d0 B.s0.heap)(hn:cs.length≤7){dm:D}
  (S:Sc B (aA dV L) (GM w cs dm (pG (wordOf cs)) (pG (c8 cs)) .un .un .un .un .un) [] s)
  (h:∀s',Sc B (aA dV L) (GM w cs dm .un .un (.list (tZ cs)) .un .un .un .un) [] s'→Ex w A (aA dV L) rest Q E s'):
  Ex w A (aA dV L) (lb 13::rest) Q E s:=by
 have hL:B.s0.heap.objs.size≤L:=S.lf
 have c1:(cs.length:Int)+1=((cs.length+1:Nat):Int):=by rfl
 refine gA S (LC.kP (g:=λa:Nat=>.list ((Sa (cs.length+1)).map λb=>.int (runN cs a b:Nat))) ac.hh (ao.dD (bC G) ((ao.add (ao.name m0) .bA).bO c1)) (lJ (cs.length+1) (by exact Fc hn (by decide))) bS (.cons m0 (.cons m5 (.cons m6 .nil))) (λa ha B' Δ' C u p q=> ?_)) IA (keep hL) (by kernel_rfl) λs1 S1=>h s1 (S1.Eo (.cons m0 (.cons m1 (.cons m2 (.cons m3 (.cons m4 (.un (.un (.cons m7 (.un (.un (.un (.un (.cons zx (.cons FN .nil)))))))))))))))
 have G1:aW w aG d0 B'.s0.heap:=G.keeps u
 have ha:a<cs.length+1:=Nb.mp ha
 refine(LC.kP (g:=λb:Nat=>.int (runN cs a b:Nat)) ac.hh (ao.dD (ao.bG G1 (by kernel_rfl) (by kernel_rfl) rfl rfl (by kernel_rfl)) ((ao.add (ao.name m1) .bA).bO c1)) (lJ (cs.length+1) (by exact Fc hn (by decide))) (zC bS) (.cons m0 (.cons m1 (.cons m2 (.cons m3 .nil)))) (λb hb B2 Δ2 C2 u2 p2 q2=> ?_)).ev
 have G2:aW w aG d0 B2.s0.heap:=G1.keeps u2
 have hb:b<cs.length+1:=Nb.mp hb
 have c2:(cs.length:Int)+2-max (a:Int) (b:Int)=((cs.length+2-max a b:Nat):Int):=Z6 ha hb
 have rl:=Qp cs a b
 refine ao.ZN (ns:=((Sa (cs.length+2-max a b)).filter λt=>decide (t≤runN cs a b)).map λ(t:Nat)=>(t:Int)) ac.hh (ao.bG G2 (by kernel_rfl) (by kernel_rfl) rfl rfl (by kernel_rfl))
  (LC.cast (LC.qG (t:=λt:Nat=>decide (t≤runN cs a b)) (g:=λt:Nat=>.int (t:Nat)) ac.hh (ao.dD (ao.bG G2 (by kernel_rfl) (by kernel_rfl) rfl rfl (by kernel_rfl)) ((ao.sub (ao.add (ao.name m2) .bA) (ao.max2 ac.hh (ao.bG G2 (by kernel_rfl) (by kernel_rfl) rfl rfl (by kernel_rfl)) (ao.name m1) (ao.name m0))).bO c2)) (lJ (cs.length+2-max a b) (Z5 hn)) (zC (zC bS)) (.cons m3 (.cons m1 (.cons m4 (.cons m0 .nil))))
   (λt ht B3 Δ3 C3 u3 p3 q3=> ?_) (λt ht z_ B3 Δ3 C3 u3 p3 q3=>ao.name m0)) ?_).ev ?_ ?_
 ·have ht:t<cs.length+2-max a b:=Nb.mp ht
  have e1:(a:Int)+(t:Nat)=((a+t:Nat):Int):=by rfl
  have e2:(b:Int)+(t:Nat)=((b+t:Nat):Int):=by rfl
  refine(TV.eq ((ao.slice (ao.name m1) (.some (ao.name m2)) (.some ((ao.add (ao.name m2) (ao.name m0)).bO e1)) ?_).eU (b:=(((wordOf cs).drop a).take t).map .int) ?_) ((ao.slice (ao.name m3) (.some (ao.name m4)) (.some ((ao.add (ao.name m4) (ao.name m0)).bO e2)) ?_).eU (b:=(((c8 cs).drop b).take t).map .int) ?_) (GI _) (GI _) ac.eq).cast ?_
  ·rw[Qa,kB,sizeLine_eq];exact Fc hn (by decide)
  ·rw[iQ,←Fe,←Se,Xi,show a+t-a=t by exact Tj _ _]
  ·rw[Qa,jV,sizeLine_eq];exact Fc hn (by decide)
  ·rw[iQ,←Fe,←Se,Xi,show b+t-b=t by exact Tj _ _]
  ·refine(lY ..).symm▸ ?_
   exact yf.mpr (qA _ _ t (by rw[Td,kB];exact Oo ht) (by rw[Td,jV];exact Z3 ht))
 ·rw[Eb];rfl
 ·refine Ra.mpr ⟨runN cs a b,Xd.mpr ⟨Nb.mpr (Z4 ha hb rl.1 rl.2),by simp⟩,rfl⟩
 ·intro u hu
  obtain⟨t,ht,rfl⟩:=Ra.mp hu
  have:=(Xd.mp ht).2
  simp at this;exact Gd.mpr this
theorem Ay:∀(xs ys:aa Int) (t:Nat),t<yR xs ys→xs.getD t 0=ys.getD t 0
 |[],_,t,h=>by simp[yR]at h
 |_::_,[],t,h=>by simp[yR]at h
 |x::xs,y::ys,t,h=>by
  have h:t<(if x=y then yR xs ys+1 else 0):=h
  by_cases e:x=y
  ·rw[if_pos e]at h
   cases t with
   |zero=>simpa using e
   |succ t=>simpa using Ay xs ys t (by exact Uq h)
  ·rw[if_neg e]at h;exact L8 h
theorem D6:∀(xs ys:aa Int) (z:Nat),z≤xs.length→z≤ys.length→(∀t,t<z→xs.getD t 0=ys.getD t 0)→z≤yR xs ys
 |_,_,0,_,_,_=>Uc _
 |[],_,z+1,h,_,_=>by simp at h
 |_::_,[],z+1,_,h,_=>by simp at h
 |x::xs,y::ys,z+1,h1,h2,h=>by
  have e:x=y:=by simpa using h 0 (by exact Ae _)
  have:=D6 xs ys z (by simpa using h1) (by simpa using h2) λt ht=>by simpa using h (t+1) (by exact Ej ht 1)
  show z+1≤(if x=y then yR xs ys+1 else 0)
  rw[if_pos e];exact Nat.add_le_add_right this 1
theorem iT{α:Type}(l:aa α)(a t:Nat)(d:α):(l.drop a).getD t d=l.getD (a+t) d:=by
 rw[Lb,Lb,Sj]
theorem run_get{cs:aa Int}{a b t:Nat}(h:t<runN cs a b):(wordOf cs).getD (a+t) 0=(c8 cs).getD (b+t) 0:=by
 have:=Ay _ _ t h
 rwa [iT,iT]at this
theorem Gx{cs:aa Int}{a b z:Nat}(ha:a+z≤cs.length+1)(hb:b+z≤cs.length+1)(h:∀t,t<z→(wordOf cs).getD (a+t) 0=(c8 cs).getD (b+t) 0):z≤runN cs a b:=
 D6 _ _ z (by rw[Td,kB];exact wk ha) (by rw[Td,jV];exact wk hb) λt ht=>by rw[iT,iT];exact h t ht
noncomputable def o7:aa Yb:=["..","a.","..b"]
noncomputable def yq(k:Int):Str:=ya (o7.getD k.toNat "")
theorem Cq(c:Int):Jb (cJ c)=yq (c.fmod 3):=by
 have h:∀i,i<6→Jb (ya (dG.getD i ""))=ya (o7.getD (i%3) ""):=by decide+kernel
 have e:(c.fmod 3).toNat=(c.fmod 6).toNat%3:=by
  rw[Ng _ (by decide),Ng _ (by decide),←Int.emod_emod_of_dvd c (show(3:Int)∣6 by decide)]
  exact Int.toNat_emod (Int.emod_nonneg c (by decide)) (by decide)
 unfold yq
 refine(e ..).symm▸ ?_
 exact cy (P:=λi=>Jb (ya (dG.getD i ""))=ya (o7.getD (i%3) "")) h c
theorem yr:∀a,a<4→∀b,b<4→ya (o7.getD a "")=ya (o7.getD b "")→a=b:=by decide+kernel
theorem yy(cs:aa Int):wordOf cs.reverse=c8 cs:=by unfold wordOf c8 aJ;rw[aa.map_reverse]
theorem Hv{cs:aa Int}{x:Int}(h:x∈wordOf cs):0≤x∧x<4:=by
 unfold wordOf aJ at h
 rcases zc.mp h with q|q
 ·obtain⟨c,_,rfl⟩:=Ra.mp q
  have:=b6 c 3 (by decide)
  exact aar this
 ·have:=Vb.mp q
  exact aas this
theorem Bt(cs:aa Int)(i:Nat):0≤(wordOf cs).getD i 0∧(wordOf cs).getD i 0<4:=by
 by_cases h:i<(wordOf cs).length
 ·refine(Lb ..).symm▸(Wb h ..).symm▸(Nf ..).symm▸ ?_
  exact Hv (Dg h)
 ·rw[Lb,ak (by exact Fi h)];simp
theorem AR(cs:aa Int){i:Nat}(h:i≤cs.length):(cY cs).getD i ⟨#[]⟩=yq ((wordOf cs).getD i 0):=by
 unfold cY linesOf wordOf aJ
 refine(Mc ..).symm▸(Eb ..).symm▸ ?_
 simp only[Lb]
 by_cases q:i<cs.length
 ·rw[Hh (by simpa using q),Hh (by simpa using q),Ab,Ab,Wb q]
  exact Cq _
 ·obtain rfl:i=cs.length:=by exact Tg h (Sf.mp q)
  rw[aa.getElem?_append_right (by simp),aa.getElem?_append_right (by simp)]
  simp only[Qa,Nat.sub_self]
  have:Jb ⟨#[]⟩=yq 3:=by decide+kernel
  exact this
theorem wM{cs:aa Int}{i j:Int}(h0:0≤i)(h1:i≤cs.length)(h2:0≤j)(h3:j≤cs.length):yK (cY cs) (cY cs.reverse) i j↔(wordOf cs).getD i.toNat 0=(c8 cs).getD j.toNat 0:=by
 unfold yK
 rw[AR cs (by exact Mn h1),AR cs.reverse (by rw[Ue];exact Mn h3),yy]
 have a:=Bt cs i.toNat
 have b:=Bt cs.reverse j.toNat
 rw[yy]at b
 refine⟨λe=> ?_,λe=>by rw[e]⟩
 have:=yr _ (by exact Xv a) _ (by exact Xv b) e
 exact Rw a b this
theorem l9(cs:aa Int):(cY cs).length=cs.length+1:=by rw[Qa,iX]
theorem AQ{cs:aa Int}{x:Str}(h:x∈cY cs):yd (.str x)=true:=by
 obtain⟨y,hy,rfl⟩:=Ra.mp h
 unfold linesOf at hy
 rcases zc.mp hy with q|q
 ·obtain⟨c,_,rfl⟩:=Ra.mp q
  have h:∀i,i<6→yd (.str (Jb (ya (dG.getD i ""))))=true:=by decide+kernel
  exact cy (P:=λi=>yd (.str (Jb (ya (dG.getD i ""))))=true) h c
 ·rw[Vb.mp q];decide+kernel
theorem NI{cs:aa Int}{aV bK aH aZ:Nat}(hn:cs.length≤7)(h1:aV≤bK)(h2:bK≤cs.length+1)(h3:aH≤aZ)(h4:aZ≤cs.length+1):HU (cY cs) (cY cs.reverse) aV bK aH aZ:=by
 have e1:=l9 cs
 have e2:=l9 cs.reverse
 rw[Ue]at e2
 exact⟨by exact MN hn e1,by exact MN hn e2,by exact Fb _,by exact Gd.mpr h1,by exact As h2 e1,by exact Fb _,by exact Gd.mpr h3,by exact As h4 e2,λx=>AQ,λx=>AQ,(Ez (by exact Gd.mpr h1) (by exact Fb _) (by exact Gd.mpr h3) (by exact As h4 e2)).ok⟩
noncomputable abbrev Ey(cs:aa Int)(aV bK aH aZ:Nat):d8:=qH (cY cs) (cY cs.reverse) aV bK aH aZ
noncomputable def iL(cs:aa Int)(bK aZ a b:Nat):Nat:=min (min (runN cs a b) (bK-a)) (aZ-b)
theorem Bs(cs:aa Int)(p q a b:Nat):iL cs p q a b≤p-a:=Na (ph ..) (Aj ..)
theorem Br(cs:aa Int)(p q a b:Nat):iL cs p q a b≤q-b:=Aj ..
theorem yx(cs:aa Int)(p q a b:Nat):iL cs p q a b≤runN cs a b:=Na (ph ..) (ph ..)
theorem AM{cs:aa Int}{k p q a b:Nat}(h1:k≤runN cs a b)(h2:k≤p-a)(h3:k≤q-b):k≤iL cs p q a b:=Nat.le_min.mpr ⟨Nat.le_min.mpr ⟨h1,h2⟩,h3⟩
theorem toNat_add{a:Nat}{t:Int}(h:0≤t):((a:Int)+t).toNat=a+t.toNat:=by exact Tz h
theorem yl(a b:Nat):((a:Int)+(b:Int)).toNat=a+b:=rfl
theorem wO{cs:aa Int}{aV bK aH aZ:Nat}(h1:aV<bK)(h2:bK≤cs.length+1)(h3:aH<aZ)(h4:aZ≤cs.length+1):
  ∃x y:Nat,aV≤x∧x<bK∧aH≤y∧y<aZ∧Ey cs aV bK aH aZ=((x:Int),(y:Int),((iL cs bK aZ x y:Nat):Int))∧
   ∀a b:Nat,aV≤a→a<bK→aH≤b→b<aZ→eN ((iL cs bK aZ a b:Nat),-(a:Int),-(b:Int)) ((Ey cs aV bK aH aZ).2.2,-(Ey cs aV bK aH aZ).1,-(Ey cs aV bK aH aZ).2.1):=by
 have e2:=l9 cs.reverse
 rw[Ue]at e2
 have H:=Ez (as:=cY cs) (bs:=cY cs.reverse) (aV:=aV) (bK:=bK) (aH:=aH) (aZ:=aZ) (by exact MH h1) (by exact Fb _) (by exact MH h3) (by exact As h4 e2)
 unfold Ey
 generalize qH (cY cs) (cY cs.reverse) aV bK aH aZ=r at H⊢
 obtain⟨x,y,z⟩:=r
 have x0:=H.ok.x0;have y0:=H.ok.y0;have z0:=H.ok.z0;have x1:=H.ok.x1;have y1:=H.ok.y1
 simp only at x0 y0 z0 x1 y1
 have mx:∀a b:Nat,aV≤a→a<bK→aH≤b→b<aZ→eN ((iL cs bK aZ a b:Nat),-(a:Int),-(b:Int)) (z,-x,-y):=λa b q1 q2 q3 q4=>by
  have w1:=yx cs bK aZ a b
  have w2:=Bs cs bK aZ a b
  have w3:=Br cs bK aZ a b
  generalize iL cs bK aZ a b=W at *
  refine H.mx a b (W:Nat) (by exact Gd.mpr q1) (by exact pe.mpr q2) (by exact Gd.mpr q3) (by exact pe.mpr q4) (by exact Fb _) (by exact M8 q2 w2) (by exact M8 q4 w3) λt t0 t1=>(wM (by exact MA t0) (by exact MB h2 w2 t0 t1) (by exact MA t0) (by exact MB h4 w3 t0 t1)).mpr ?_
  have:=run_get (cs:=cs) (a:=a) (b:=b) (t:=t.toNat) (by exact Sw w1 t0 t1)
  rwa [toNat_add t0,toNat_add t0]
 have bB:x<bK∧y<aZ:=by
  by_cases q:z=0
  ·have:=mx aV aH (zb _) h1 (zb _) h3
   have t1:((iL cs bK aZ aV aH:Nat):Int)≤z:=i7 this
   have t2:=CY this (zg t1 (q▸Fb _))
   have t3: -(aV:Int)≤ -x:=t2.1
   have t4: -(aV:Int)= -x→ -(aH:Int)≤ -y:=t2.2
   clear this mx H t1 t2
   have t3:x≤aV:=Int.le_of_neg_le_neg t3
   refine⟨by exact Ms h1 t3,?_⟩
   have:y≤aH:=Int.le_of_neg_le_neg (t4 (by exact TF x0 t3))
   exact Ms h3 this
  ·clear mx H;exact Sv z0 x1 y1 q
 obtain⟨xn,rfl⟩:∃n:Nat,x=n:=⟨x.toNat,by exact Mp x0⟩
 obtain⟨yn,rfl⟩:∃n:Nat,y=n:=⟨y.toNat,by exact Mp y0⟩
 have hz:z.toNat≤runN cs xn yn:=Gx (by exact TL h2 x1 bB) (by exact TM h4 y1 bB) λt ht=>by
  have:=(wM (cs:=cs) (i:=(xn:Int)+t) (j:=(yn:Int)+t) (by exact Fb _) (by exact Nu h2 x1 ht) (by exact Fb _) (by exact Nu h4 y1 ht)).mp (H.eq (t:Nat) (by exact Fb _) (by show((t:Nat):Int)<z;exact TA ht))
  rwa [yl,yl]at this
 have hw:z=(iL cs bK aZ xn yn:Nat):=by
  have:=mx xn yn (by exact Gd.mp x0) (by exact Nn bB) (by exact Gd.mp y0) (by exact Np bB)
  have t1:((iL cs bK aZ xn yn:Nat):Int)≤z:=i7 this
  have t2:z.toNat≤iL cs bK aZ xn yn:=AM hz (by exact Mr x1) (by exact Mr y1)
  clear this mx H
  exact Su t1 t2
 subst hw
 exact⟨xn,yn,by exact Gd.mp x0,by exact Nn bB,by exact Gd.mp y0,by exact Np bB,rfl,mx⟩
theorem Ac.u1{A:Xa}{k:Nat}(a:Ac A k):A.units+1<cLine:=by have:=a.units;exact U5 this
theorem sW(a b c:Int):jc (.tuple [.int a,.int b,.int c]) (Bm (a,b,c))=true:=by
 simp[Bm,jc,Jd]
theorem sh3(a b c:Int):shaped (.tuple [.int a,.int b,.int c])=true:=by rfl
theorem aad(t:T3):shaped (Bm t)=true:=by rfl
theorem A3(cs:aa Int){a:Nat}(h:a≤cs.length):(tZ cs)[a]? =some (.list ((Sa (cs.length+1)).map λb=>.int (runN cs a b:Nat))):=by
 unfold tZ
 rw[Ab,xf (by exact Hj h)];rfl
theorem Gw(cs:aa Int)(a:Nat){b:Nat}(h:b≤cs.length):((Sa (cs.length+1)).map λb=>Xb (runN cs a b:Nat))[b]? =some (.int (runN cs a b:Nat)):=by
 rw[Ab,xf (by exact Hj h)];rfl
theorem vN(cs:aa Int)(a b:Nat):iL cs (cs.length+1) (cs.length+1) a b=runN cs a b:=by
 unfold iL
 rw[Oh (pS cs a b).1,Oh (pS cs a b).2]
theorem JP(ac:Ac A 12)(G:aW w aG d0 B.s0.heap)(hn:cs.length≤7)
  (S:Sc B (aA dV L) (GM w cs (.known (MK w (cY cs) (cY cs.reverse))) .un .un (.list (tZ cs)) .un .un .un .un) [] s)
  (h:∀s',Sc B (aA dV L) (GM w cs (.known (MK w (cY cs) (cY cs.reverse))) .un .un (.list (tZ cs)) .un .un .un .un) [] s'→Ex w A (aA dV L) rest Q E s'):
  Ex w A (aA dV L) (lb 14::lb 15::rest) Q E s:=by
 have hL:B.s0.heap.objs.size≤L:=S.lf
 have c1:(cs.length:Int)+1=((cs.length+1:Nat):Int):=by rfl
 obtain⟨x,y,_,hx,_,hy,hb,mx⟩:=wO (cs:=cs) (aV:=0) (bK:=cs.length+1) (aH:=0) (aZ:=cs.length+1) (by exact Ae _) (by exact zb _) (by exact Ae _) (by exact zb _)
 have I:=NI (cs:=cs) (aV:=0) (bK:=cs.length+1) (aH:=0) (aZ:=cs.length+1) hn (by exact Uc _) (by exact zb _) (by exact Uc _) (by exact zb _)
 have la:=l9 cs
 have lr:=l9 cs.reverse
 rw[Ue]at lr
 refine xX (i:=(x:Int)) (j:=(y:Int)) (l:=(runN cs x y:Nat)) ac.hh G S (ao.q7 (K:=MK w (cY cs) (cY cs.reverse)) (C:=sC) (f:=213) (ao.name m4) (eu.inst (by kernel_rfl)) G (gr w aG d0) .nil (λv vs s E S hv hr=> ?_)) (.cons (bY.name Hz (keep hL)) (.cons (bY.name qo (keep hL)) (.cons (bY.name rZ (keep hL)) .nil))) λs1 S1=> ?_
 ·cases hr
  have:=Et (k:=5) (E:=E) (ac.weak (by exact Mb rfl)) (S.g8 G) (λa ha=>S.jH ha) hv (by rw[la,lr];exact I)
  rw[la,lr]at this
  have e:qH (cY cs) (cY cs.reverse) 0 ((cs.length+1:Nat):Int) 0 ((cs.length+1:Nat):Int)=((x:Int),(y:Int),((runN cs x y:Nat):Int)):=by
   rw[←vN];exact hb
  rw[e]at this
  exact this
 refine cS S1 ((TV.ne (ao.tup (.cons (ao.name mR) (.cons (ao.neg (ao.name m9)) (.cons (ao.neg (ao.name kX)) .nil))) (by rw[sizeLine_eq];simp)) (ao.ZO (ts:=(Sa (cs.length+1)).flatMap λa=>(Sa (cs.length+1)).map λb=>(((runN cs a b:Nat):Int),-(a:Int),-(b:Int))) (t:=(((runN cs x y:Nat):Int),-(x:Int),-(y:Int))) ac.hh ac.u1 (ao.bG G (by kernel_rfl) (by kernel_rfl) rfl rfl (by kernel_rfl))
  (LC.cast (LC.two (g:=λa b:Nat=>.tuple [.int (runN cs a b:Nat),.int (-(a:Int)),.int (-(b:Int))]) ac.hh (ao.dD (bC G) ((ao.add (ao.name m0) .bA).bO c1)) (lJ (cs.length+1) (by exact Fc hn (by decide))) bS (.cons m0 (.cons m7 .nil)) (λa ha B' Δ' C u q=> ?_) (λa ha=>lJ (cs.length+1) (by exact Fc hn (by decide))) (λa ha b yE B' Δ' C u q=> ?_) ?_) ?_).ev ?_ ?_) (sh3 ..) (aad _) ac.eq).cast (by rw[sW];rfl)) rfl λs2 S2=>h s2 (S2.Eo (.cons m0 (.cons m1 (.cons m2 (.cons m3 (.cons m4 (.un (.un (.cons m7 (.un (.un (.un (.un (.cons zx (.cons FN .nil)))))))))))))))
 ·exact ao.dD (ao.bG (G.keeps u) (by kernel_rfl) (by kernel_rfl) rfl rfl (by kernel_rfl)) ((ao.add (ao.name m2) .bA).bO c1)
 ·have ha:a<cs.length+1:=Nb.mp ha
  have yE:b<cs.length+1:=Nb.mp yE
  exact ao.tup (.cons (ao.item (ao.item (ao.name m3) (ao.name m0) (by exact Fb _) (by exact ML hn ha) (A3 cs (by exact Oi ha))) (ao.name m1) (by exact Fb _) (by exact ML hn yE) (Gw cs a (by exact Oi yE))) (.cons (ao.neg (ao.name m0)) (.cons (ao.neg (ao.name m1)) .nil))) (by rw[sizeLine_eq];simp)
 ·refine(sizeLine_eq ..).symm▸ ?_
  simp only[Dk,Qa,qd,aa.map_const',aa.sum_replicate_nat]
  have:=Nat.mul_le_mul (show cs.length+1≤8 by exact Fc hn (by decide)) (show cs.length+1≤8 by exact Fc hn (by decide))
  exact Na this (by decide)
 ·rw[aa.map_flatMap];congr 1;funext a;rw[Eb];rfl
 ·exact Kh.mpr ⟨x,Nb.mpr hx,Ra.mpr ⟨y,Nb.mpr hy,rfl⟩⟩
 ·intro u hu
  refine bE (Kh.mp hu) λa ha hu=> ?_
  obtain⟨b,yE,rfl⟩:=Ra.mp hu
  have ha:=Nb.mp ha
  have yE:=Nb.mp yE
  have:=mx a b (Uc _) ha (Uc _) yE
  rw[hb]at this
  rw[vN,vN]at this
  exact this
variable{env:Env}{Δ':aa (ia×MO)}
theorem Ds.rep{e k:Ba}{p pos:Pos}{d:PyData}{n:Int}(x:k9 w A B env Γ Δ [e] [d])(y:ao w A B env Γ Δ k (.int n))(h0:0≤n)(h1:n≤2^20):
  Ds w A B env Γ Δ (.BinOp (.List [e] p) .Mult k pos) (Nd n.toNat d):=.mk λs E S=>
 wpAny_BinOp (List_ (Pa (x.run S) (λvs s1 q=>Ld (by
  refine xA q λk1 r1=> ?_
  refine r1.uc λv z_ r1 rn=> ?_
  cases rn
  have S1:=S.upd k1
  have S2:=S1.upd (.push s1 {cls:=.type "list",data:=.seq [v].toArray})
  refine y.use S2 λu s3 k3 S3 r3=> ?_
  refine r3.kQ λt=> ?_
  have hl:s3.heap.get? s1.heap.objs.size=some {cls:=.type "list",dict:=none,data:=.seq [v].toArray 0,slots:= #[]}:=k3.up _ _ (Zb _ rfl)
  refine wpAny_binaryOp_repeat_ref (T:="list") (U:="int") (by decide) ⟨_,hl,rfl⟩ (λs'=>typeIs_int s' n t) noFill_list_mul PySem.F.fills_int_mul Zi repeat_list PySem.F.slot_int_index.lookup
   (call_meets Zi (typeIs_int s3 n t) PySem.F.entry_int_rmul (PySem.F.args_int_rmul_2 _ _) (int___rmul___int_list n t s1.heap.objs.size [v].toArray 0)
    ⟨hl,rfl,⟨_,hl,rfl⟩,call_meets PySem.F.slot_list_mul ⟨_,hl,rfl⟩ PySem.F.entry_list_mul (PySem.F.args_list_mul_2 _ _)
     (AutoListH.list___mul___list_int_3 s1.heap.objs.size [v].toArray 0 n t (by simp[Ob.List.listFitsIndex];exact X4 h0 h1) (by simp;exact jf h1 (by decide)) (by simp[Ob.List.listTooLong,Bb];exact jf h1 (by decide)))
     ⟨hl,?_⟩⟩)
  have kk:=(k1.trans' (.push s1 {cls:=.type "list",data:=.seq [v].toArray})).trans' k3
  have e:(aa.foldl (λx1 x2=>x1++x2) #[] (Nd (if([v].toArray:Ua qa).isEmpty=true then 0 else n.toNat) [v].toArray))=(Nd n.toNat v).toArray:=by
   have g:∀(m:Nat) (acc:Ua qa),aa.foldl (λx1 x2=>x1++x2) acc (Nd m #[v])=acc++(Nd m v).toArray:=by
    intro m
    induction m with
    |zero=>intro acc;simp
    |succ m ih=>intro acc;rw[fj,Qd,ih,fj];apply oh;simp
   simpa using g n.toNat #[]
  rw[e]
  refine⟨kk.trans' (.oV ..),s3.heap.objs.size,Nd n.toNat v,rfl,S3.next.early kk,kO.push,?_⟩
  have rv:Rd (XX B.Xo env Δ) s3.heap v d:=(r1.up (Kp.push ..).up).up k3.up
  have g:∀m:Nat,aD (XX B.Xo env Δ) s3.heap (Nd m v) (Nd m d):=by
   intro m
   induction m with
   |zero=>exact .nil
   |succ m ih=>exact .cons rv ih
  exact(g n.toNat).up (Kp.push s3 _).up) (by show vs.toArray.size≤Bb;rw[Kf,q.2.length,sizeLine_eq];simp)) λz_ z_ z=>z))
theorem Cy{a:ia}{m m':MO}{l:aa (ia×MO)}:∀{l':aa (ia×MO)} {i:Nat},l[i]? =some (a,m)→l'[i]? =some (a,m')→(∀j,j≠i→l[j]? =l'[j]?)→bw a m m' l l':=by
 induction l with
 |nil=>exactλh z_ z_=>(nomatch h)
 |cons p l ih=>
  intro l' i h1 h2 h
  cases l' with
  |nil=>exact(nomatch h2)
  |cons q l'=>
   cases i with
   |zero=>
    obtain rfl:p=_:=Oe h1
    obtain rfl:q=_:=Oe h2
    obtain rfl:l=l':=aa.ext_getElem? λj=>h (j+1) (Nat.add_one_ne_zero _)
    exact .here
   |succ i=>
    obtain rfl:p=q:=Oe (h 0 (Nat.zero_ne_add_one _))
    exact .there (ih h1 h2 λj hj=>h (j+1) λe=>hj (Je.inj e))
noncomputable def jT(M:Nat→Nat→Ga)(n i:Nat):aa PyData:=(Sa (n+1)).map λj=>.bool (M i j)
noncomputable def rR(as:aa ia)(M:Nat→Nat→Ga)(n:Nat):aa (ia×MO):=(Sa n).map λi=>(as.getD i 0,MO.list (jT M n i))
theorem kF{as:aa ia}{M M':Nat→Nat→Ga}{n:Nat}(h:∀i j,i<n→j≤n→M i j=M' i j):rR as M n=rR as M' n:=by
 unfold rR jT
 refine Tf λi hi=> ?_
 have:((Sa (n+1)).map λj=>PyData.bool (M i j))=(Sa (n+1)).map λj=>PyData.bool (M' i j):=Tf λj hj=>by rw[h i j (Nb.mp hi) (by have:=Nb.mp hj;exact Oi this)]
 rw[this]
theorem sX(as:aa ia)(M M':Nat→Nat→Ga)(n:Nat):(rR as M n).map (·.1)=(rR as M' n).map (·.1):=by
 unfold rR;rw[Eb,Eb];rfl
theorem IW{as:aa ia}{M M':Nat→Nat→Ga}{n i j:Nat}(hi:i<n)(hj:j≤n)(h:∀i' j',¬(i'=i∧j'=j)→M' i' j'=M i' j'):bw (as.getD i 0) (.list (jT M n i)) (.list ((jT M n i).set j (.bool (M' i j)))) (rR as M n) (rR as M' n):=by
 have e:(jT M n i).set j (.bool (M' i j))=jT M' n i:=by
  unfold jT
  apply Ei
  ·simp
  ·intro k h1 h2
   simp at h1
   refine(aa.getElem_set ..).symm▸ ?_
   by_cases q:j=k
   ·subst q;simp
   ·rw[if_neg q];simp[h i k (by exact U6 q)]
 refine(e ..).symm▸ ?_
 refine Cy (i:=i) ?_ ?_ λk hk=> ?_
 ·unfold rR;rw[Ab,xf hi];rfl
 ·unfold rR;rw[Ab,xf hi];rfl
 ·unfold rR
  refine(Ab ..).symm▸(Ab ..).symm▸ ?_
  have:jT M n k=jT M' n k:=by unfold jT;exact Tf λj' z_=>by rw[h k j' (by exact Wt hk)]
  by_cases q:k<n
  ·rw[xf q];simp[this]
  ·rw[ak (by simpa using q)];rfl
theorem gJ.aaH{Ea:ia}{as:aa ia}{M:Nat→Nat→Ga}{n:Nat}(hl:as.length=n):gJ ((Ea,.vals (as.map .ref))::rR as M n) (.val (.ref Ea)) (.list (wN M n)):=⟨(λe=>nomatch e),λX Y hp v tB hs ho e=>by
 obtain rfl:v=.ref Ea:=e
 refine Rd.listAt (ho _ La) (tB _ La) ?_
 have key:∀m,m≤n→aD Y hp ((as.take m).map .ref) ((Sa m).map λi=>.list (jT M n i)):=by
  intro m
  induction m with
  |zero=>intro _;simpa using aD.nil
  |succ m ih=>
   intro hm
   have e:as.take (m+1)=as.take m++[as.getD m 0]:=by rw[Me,Lb,Wb (by exact Jg hm (id (Be hl)))];rfl
   refine(e ..).symm▸(kg ..).symm▸(Mc ..).symm▸(Mc ..).symm▸ ?_
   refine(ih (by exact Xc hm)).append (.cons ?_ .nil)
   have jS:(as.getD m 0,MO.list (jT M n m))∈(Ea,MO.vals (as.map .ref))::rR as M n:=Wa _ (Ra.mpr ⟨m,Nb.mpr (by exact hm),rfl⟩)
   refine bE (tB _ jS) λvs hl hr=> ?_
   exact Rd.listAt (ho _ jS) hl (hr.at λb o hb e=>.inr ⟨λq=>hb (hs b q),e⟩)
 have:=key n (zb _)
 rw[Vg (by exact zh hl)]at this
 exact this⟩
theorem JQ(ac:Ac A 12)(G:aW w aG d0 B.s0.heap)(hn:cs.length≤7){dm dr:D}
  (S:Sc B (aA dV L) (GM w cs dm .un .un dr .un .un .un .un) [] s)
  (h:∀Ea as s',as.length=cs.length→Sc B (aA dV L) (GM w cs dm .un .un dr (.val (.ref Ea)) .un .un .un) ((Ea,.vals (as.map .ref))::rR as (λz_ z_=>false) cs.length) s'→Ex w A (aA dV L) rest Q E s'):
  Ex w A (aA dV L) (lb 16::rest) Q E s:=by
 have hL:B.s0.heap.objs.size≤L:=S.lf
 have c1:(cs.length:Int)+1=((cs.length+1:Nat):Int):=by rfl
 refine sF (Δl:=[]) (Δr:=[]) (l:=Sa cs.length) (φ:=λk:Nat=>.int (k:Nat)) (Inv:=λi ys Δx=>∃as:aa ia,as.length=i∧ys=as.map .ref∧Δx.Perm (as.map λa=>(a,MO.list (jT (λz_ z_=>false) cs.length 0)))) (Γ':=λa=>GM w cs dm .un .un dr (.val (.ref a)) .un .un .un)
  ac.hh S (ao.dD (bC G) (ao.name m0)) (lJ cs.length (by exact Na hn (by decide))) bS (.cons m0 .nil) ⟨[],rfl,rfl,.nil⟩ (λi d ys Δx B' C I a mI s2 E' hd hI u hC S2=> ?_) (λz_ z_ z_ z_ p hp=>nomatch hp) (λa=>Hy) (keep hL) (by kernel_rfl) λa ys Δx s' hI S'=> ?_
 ·obtain⟨as,ha,rfl,hp⟩:=hI
  refine Pa ((Ds.rep (.cons .jY .nil) ((ao.add (ao.name m1) .bA).bO c1) (by exact Fb _) (by exact pe.mpr (Fc hn (by decide)))).go s2 E' S2) (λv s3 q=> ?_) λz_ z_ z=>z
  obtain⟨k,b,vs,rfl,hf,hl,hr⟩:=q
  have e:Nd ((cs.length+1:Nat):Int).toNat (PyData.bool false)=jT (λz_ z_=>false) cs.length 0:=by
   unfold jT;rw[aa.map_const',qd];rfl
  rw[e]at hr
  have S3:=S2.take k hf (m:=.list (jT (λz_ z_=>false) cs.length 0)) ⟨vs,hl,hr.flat (λd hd=>by obtain⟨j,_,rfl⟩:=Ra.mp hd;exact .bool _)⟩
  refine⟨(b,MO.list (jT (λz_ z_=>false) cs.length 0))::Δx,⟨as++[b],by simp[ha],by simp,?_⟩,S3.perm ?_⟩
  ·refine(Mc ..).symm▸ ?_
   exact(aa.Perm.cons _ hp).trans (Yi (l₁:=[_]))
  ·exact(aa.Perm.swap ..).trans (.cons _ (.swap ..))
 ·obtain⟨as,ha,rfl,hp⟩:=hI
  rw[qd]at ha
  refine h a as s' ha (S'.perm (.cons _ ?_))
  refine(ff ..).symm▸ ?_
  refine hp.trans (aa.Perm.of_eq ?_)
  unfold rR
  apply Ei
  ·simp[ha]
  ·intro i h1 h2
   simp at h1 h2
   simp[Lb,Wb h1]
   rfl
noncomputable abbrev AE:Va:=aC (fb (lb 17)) 0
theorem aaV:fb AE=[aC (fb AE) 0,aC (fb AE) 1,aC (fb AE) 2,aC (fb AE) 3,aC (fb AE) 4,aC (fb AE) 5]:=by kernel_rfl
noncomputable def HB(cs:aa Int)(i j:Nat):Ga:=decide (j-i≤runN cs i (cs.length-j))
noncomputable def cB(cs:aa Int)(i j:Nat):aa Int:=((aJ cs).take j).drop i
theorem fK(cs:aa Int)(i j:Nat)(h:j≤cs.length):(cB cs i j).length=j-i:=by unfold cB aJ;simp;exact MW h
theorem rM(cs:aa Int){i j k:Nat}(h:j≤cs.length)(hk:k<j-i):(cB cs i j).getD k 0=(aJ cs).getD (i+k) 0:=by
 unfold cB
 rw[iT,Lb,ji,if_pos (by exact Ui hk),Lb]
noncomputable def eY(cs:aa Int)(i j:Nat):Ma Nat:=(Sa (j-i)).find? λk=>(cB cs i j).getD k 0 !=(cB cs i j).reverse.getD k 0
noncomputable def um(cs:aa Int)(i j:Nat)(k:Nat):Int:=if(cB cs i j).getD k 0>(cB cs i j).reverse.getD k 0 then f9 (cs.getD k 0)else -f9 (cs.getD k 0)
noncomputable def eW(cs:aa Int)(i j:Nat):Int:=match eY cs i j with|none=>0|some k=>um cs i j k
theorem C4(cs:aa Int)(m:Nat)(h:m≤cs.length):(kr cs).take m=fX 0 ((cs.map f9).take m):=by
 apply aa.ext_getElem?
 intro i
 refine(nU ..).symm▸ ?_
 unfold kr
 refine(ji ..).symm▸(ji ..).symm▸(Ab ..).symm▸(Ab ..).symm▸ ?_
 by_cases q:i<m
 ·rw[if_pos q,if_pos q,xf (by exact Dc q h),Wb (show i<cs.length by exact Dc q h)]
  simp[Lb,Wb (show i<cs.length by exact Dc q h)]
 ·rw[if_neg q,if_neg q];rfl
theorem uD(cs:aa Int)(i j:Nat)(h:j≤cs.length):cX ((cs.map f9).take (j-i)) (cB cs i j) (cB cs i j).reverse=eW cs i j:=by
 have hl:=fK cs i j h
 have hw:((cs.map f9).take (j-i)).length=j-i:=by simp;exact MX h
 unfold eW
 cases e:eY cs i j with
 |none=>
  refine j0 _ _ _ λk hk=> ?_
  have:=Kg.mp e k (Nb.mpr (by exact Jg hk hw))
  simpa using this
 |some k=>
  have h1:=gj e
  have hm:=Nb.mp (Nh e)
  have h2:∀t,t<k→(cB cs i j).getD t 0=(cB cs i j).reverse.getD t 0:=λt ht=>by
   have:=(nk.mp e).2.2 t ht
   simpa using this
  have g9:(cB cs i j).getD k 0≠(cB cs i j).reverse.getD k 0:=by simpa using h1
  rw[lV _ _ _ k (by exact Jg hm (id (Be hw))) (by exact Jg hm (id (Be hl))) (by rw[Ue];exact Jg hm (id (Be hl))) h2]
  have hwk:((cs.map f9).take (j-i)).getD k 0=f9 (cs.getD k 0):=by
   rw[Lb,ji,if_pos hm,Ab,Lb,Wb (show k<cs.length by exact DW h hm)];rfl
  refine(hwk ..).symm▸ ?_
  unfold um
  dsimp only
  by_cases q:(cB cs i j).getD k 0<(cB cs i j).reverse.getD k 0
  ·rw[if_pos q,if_neg (by exact Int.lt_asymm q)]
  ·rw[if_neg q,if_pos (by exact LS g9 q),if_pos (by exact LS g9 q)]
theorem xK(x y:Nat):min (x:Int) y=((min x y:Nat):Int):=by exact TN
theorem Ht{r p q:Nat}{u v:Int}(hp:u=(p:Int))(hq:v=(q:Int)):min (min (r:Int) u) v=((min (min r p) q:Nat):Int):=by rw[hp,hq,xK,xK]
theorem YL{n i j:Nat}(h:i<j)(hj:j≤n):j-i≤n-i-(n-j):=by exact U7 hj
theorem LI{n i j x y W R:Nat}(pF:i<j)(hj:j≤n)(x0:i≤x)(x1:x<j)(y0:n-j≤y)(u1:W≤j-x)(u2:W≤n-i-y)(a:x=i→y=n-j→W≤R)(b:j-i≤R→j-i≤W):((W:Int)=(j:Int) -i)↔j-i≤R:=by
 constructor
 ·intro e
  have e:W=j-i:=by exact U8 e
  have hx:x=i:=by exact Xr x0 x1 u1 e
  have hy:y=n-j:=by exact XS x1 y0 u2 e hx
  exact e▸a hx hy
 ·intro h
  have:=b h
  exact Xs x0 x1 u1 this
noncomputable abbrev GE(w:Oa)(cs:aa Int)(de dx dy dz di dj da dg dk:D):aa (Str×D):=[(nm "size",.int cs.length),(nm "kinds",pG (aJ cs)),(nm "ways",.list (kr cs)),(nm "matcher",.known (MK w (cY cs) (cY cs.reverse))),(nm "runs",.list (tZ cs)),(nm "even",de),
 (nm "x",dx),(nm "y",dy),(nm "z",dz),(nm "i",di),(nm "j",dj),(nm "around",da),(nm "sign",dg),(nm "k",dk),(nm "lines",cK (linesOf cs)),(nm "shown",.list (cs.map λc=>.str (cJ c)))]
theorem Fq(ac:Ac A 12)(G:aW w aG d0 B.s0.heap)(hn:cs.length≤7){i j:Nat}(pF:i<j)(hj:j≤cs.length){de dx dy dz da dg dk:D}
  (S:Sc B (aA dV L) (GE w cs de dx dy dz (.int i) (.int j) da dg dk) Δ s)
  (h:∀z s',(z=(j:Int) -i↔HB cs i j=true)→Sc B (aA dV L) (GE w cs de .un .un (.int z) (.int i) (.int j) .un .un .un) Δ s'→Ex w A (aA dV L) rest Q E s'):
  Ex w A (aA dV L) (aC (fb AE) 0::aC (fb AE) 1::rest) Q E s:=by
 have hL:B.s0.heap.objs.size≤L:=S.lf
 have c1:(cs.length:Int) -(j:Int)=((cs.length-j:Nat):Int):=by exact Be (Int.ofNat_sub hj)
 have c2:(cs.length:Int) -(i:Int)=((cs.length-i:Nat):Int):=by exact VL pF c1
 have I:=NI (cs:=cs) (aV:=i) (bK:=j) (aH:=cs.length-j) (aZ:=cs.length-i) hn (by exact Xc pF) (by exact MG c1) (by exact U9 pF) (by exact MC)
 obtain⟨x,y,x0,x1,y0,y1,hb,mx⟩:=wO (cs:=cs) (aV:=i) (bK:=j) (aH:=cs.length-j) (aZ:=cs.length-i) (by omega) (by exact MG c1) (by exact VM pF c1) (by exact MC)
 have hz:(((iL cs j (cs.length-i) x y:Nat):Int)=(j:Int) -i↔HB cs i j=true):=by
  unfold HB
  rw[gg]
  refine LI pF hj x0 x1 y0 (Bs ..) (Br ..) (λe e'=>e'▸e▸yx ..) λh=> ?_
  have:=i7 (mx i (cs.length-j) (zb _) pF (zb _) (Nat.sub_lt_sub_left (Dc pF hj) pF))
  rw[hb]at this
  exact Na (AM h (zb _) (YL pF hj)) (Gd.mp this)
 refine xX (i:=(x:Int)) (j:=(y:Int)) (l:=(iL cs j (cs.length-i) x y:Nat)) ac.hh G S (ao.q7 (K:=MK w (cY cs) (cY cs.reverse)) (C:=sC) (f:=213) (ao.name m3) (eu.inst (by kernel_rfl)) G (gr w aG d0)
  (.cons (ao.name m9) (.cons (ao.name kX) (.cons ((ao.sub (ao.name m0) (ao.name kX)).bO c1) (.cons ((ao.sub (ao.name m0) (ao.name m9)).bO c2) .nil)))) (λv vs s E S hv hr=> ?_)) (.cons (bY.name NC (keep hL)) (.cons (bY.name IA (keep hL)) (.cons (bY.name Hy (keep hL)) .nil))) λs1 S1=> ?_
 ·refine hr.uc λz_ z_ r1 hr=>hr.uc λz_ z_ r2 hr=>hr.uc λz_ z_ r3 hr=>hr.uc λz_ z_ r4 hr=> ?_
  cases hr
  have:=Eu (k:=5) (E:=E) (ac.weak (by exact Mb rfl)) (S.g8 G) (λa ha=>S.jH ha) hv r1 r2 r3 r4 I
  have e:qH (cY cs) (cY cs.reverse) (i:Int) (j:Int) ((cs.length-j:Nat):Int) ((cs.length-i:Nat):Int)=((x:Int),(y:Int),((iL cs j (cs.length-i) x y:Nat):Int)):=hb
  rw[e]at this
  exact this
 have ri:∀a,i≤a→a<j→a≤cs.length:=λa z_ h=>by exact VN c1 h
 refine cS S1 ((TV.ne (ao.tup (.cons (ao.name m8) (.cons (ao.neg (ao.name m6)) (.cons (ao.neg (ao.name m7)) .nil))) (by rw[sizeLine_eq];simp)) (ao.ZO (ts:=(Sa (j-i)).flatMap λa=>(Sa (cs.length-i-(cs.length-j))).map λb=>(((iL cs j (cs.length-i) (i+a) (cs.length-j+b):Nat):Int),-((i+a:Nat):Int),-((cs.length-j+b:Nat):Int))) (t:=(((iL cs j (cs.length-i) x y:Nat):Int),-(x:Int),-(y:Int))) ac.hh ac.u1 (ao.bG G (by kernel_rfl) (by kernel_rfl) rfl rfl (by kernel_rfl))
  (LC.cast (LC.two (l:=Sa (j-i)) (φ:=λa:Nat=>.int ((i+a:Nat):Int)) (m:=λz_=>Sa (cs.length-i-(cs.length-j))) (ψ:=λb:Nat=>.int ((cs.length-j+b:Nat):Int)) (g:=λa b:Nat=>.tuple [.int (iL cs j (cs.length-i) (i+a) (cs.length-j+b):Nat),.int (-((i+a:Nat):Int)),.int (-((cs.length-j+b:Nat):Int))]) ac.hh (ao.jE (bC G) (ao.name m9) (ao.name kX)) (j5 i j (by exact WI y0 y1) (by exact UE hn c1)) bS (.cons m0 (.cons m4 (.cons m9 (.cons kX .nil)))) (λa ha B' Δ' C u q=> ?_) (λa ha=>j5 (cs.length-j) (cs.length-i) (by exact WJ y0 y1) (by exact T7 hn)) (λa ha b yE B' Δ' C u q=> ?_) ?_) ?_).ev ?_ ?_) (sh3 ..) (aad _) ac.eq).cast (by rw[sW];rfl)) rfl λs2 S2=>h _ s2 hz (S2.Eo (.cons m0 (.cons m1 (.cons m2 (.cons m3 (.cons m4 (.cons m5 (.un (.un (.cons m8 (.cons m9 (.cons kX (.un (.un (.un (.cons N8 (.cons FO .nil)))))))))))))))))
 ·exact ao.jE (ao.bG (G.keeps u) (by kernel_rfl) (by kernel_rfl) rfl rfl (by kernel_rfl)) ((ao.sub (ao.name m2) (ao.name m5)).bO c1) ((ao.sub (ao.name m2) (ao.name m4)).bO c2)
 ·have ha:a<j-i:=Nb.mp ha
  have yE:b<cs.length-i-(cs.length-j):=Nb.mp yE
  have e:min (min ((runN cs (i+a) (cs.length-j+b):Nat):Int) ((j:Int) -((i+a:Nat):Int))) ((cs.length:Int) -(i:Int) -((cs.length-j+b:Nat):Int))=((iL cs j (cs.length-i) (i+a) (cs.length-j+b):Nat):Int):=Ht (by exact Vk ha) (by exact Wu yE)
  exact ao.tup (.cons ((ao.aaZ ac.hh (ao.bG (G.keeps u) (by kernel_rfl) (by kernel_rfl) rfl rfl (by kernel_rfl)) (ao.item (ao.item (ao.name m3) (ao.name m0) (by exact Fb _) (by exact XZ hn c1 e) (A3 cs (a:=i+a) (by exact XW c1 e))) (ao.name m1) (by exact Fb _) (by exact XY hn e) (Gw cs (i+a) (b:=cs.length-j+b) (by exact XU e))) (ao.sub (ao.name m5) (ao.name m0)) (ao.sub (ao.sub (ao.name m2) (ao.name m4)) (ao.name m1))).bO e) (.cons (ao.neg (ao.name m0)) (.cons (ao.neg (ao.name m1)) .nil))) (by rw[sizeLine_eq];simp)
 ·refine(sizeLine_eq ..).symm▸ ?_
  simp only[Dk,Qa,qd,aa.map_const',aa.sum_replicate_nat]
  have:=Nat.mul_le_mul (show j-i≤8 by exact VO hn c1) (show cs.length-i-(cs.length-j)≤8 by exact Vl hn)
  exact Na this (by decide)
 ·rw[aa.map_flatMap];congr 1;funext a;rw[Eb];rfl
 ·refine Kh.mpr ⟨x-i,Nb.mpr (by exact XD x1 y0 y1),Ra.mpr ⟨y-(cs.length-j),Nb.mpr (by exact Nat.sub_lt_sub_right y0 y1),?_⟩⟩
  rw[show i+(x-i)=x by exact Ce x0,show cs.length-j+(y-(cs.length-j))=y by exact Ce y0]
 ·intro u hu
  refine bE (Kh.mp hu) λa ha hu=> ?_
  obtain⟨b,yE,rfl⟩:=Ra.mp hu
  have ha:=Nb.mp ha
  have yE:=Nb.mp yE
  have:=mx (i+a) (cs.length-j+b) (by exact Tc _ _) (by exact Ui ha) (by exact Tc (_-_) _) (by exact Ui yE)
  rw[hb]at this
  exact this
set_option backward.match.sparseCases false in
noncomputable def fi:Va→Ba|.For _ it _ _ _=>it|_=>.Constant .none 0 ⟨0,0,0,0⟩
theorem qE{α:Type}(l:aa α)(j:Nat):iP l none (some (j:Int))=l.take j:=by
 unfold iP kms_lo kms_hi
 simp only[aa.drop_zero,Nat.sub_zero,if_neg (show¬(j:Int)<0 by exact Int.not_ofNat_neg _),Fg]
 rw[←Lj]
theorem kL(cs:aa Int)(i j:Nat):iP ((aJ cs).map Xb) (some (i:Int)) (some (j:Int))=(cB cs i j).map .int:=by
 rw[iQ,←Fe,←Se];rfl
theorem tC{α:Type}(p:α→Ga):∀l:aa α,(l.filter p).take 1=(l.find? p).toList
 |[]=>rfl
 |a::l=>by
  rw[Uh,vf]
  cases h:p a with
  |true=>rfl
  |false=>simpa[h]using tC p l
theorem Hs(cs:aa Int){k:Nat}(h:k<cs.length):(kr cs)[k]? =some (.tuple [.int (k:Nat),.int (f9 (cs.getD k 0))]):=by
 unfold kr
 rw[Ab,xf h];rfl
theorem uO(cs:aa Int){k:Nat}(h:k<cs.length):((aJ cs).map Xb)[k]? =some (.int ((aJ cs).getD k 0)):=wV _ _ (by unfold aJ;simpa using h)
theorem Gq(cs:aa Int){i j k:Nat}(h:j≤cs.length)(hk:k<j-i):((cB cs i j).reverse.map Xb)[k]? =some (.int ((cB cs i j).reverse.getD k 0)):=wV _ _ (by rw[Ue,fK cs i j h];exact hk)
theorem J6{pos}(G:aW w aG d0 B.s0.heap):ao w A B (aA dV L) Γ Δ (.Name (ya "TupleComp") pos) (.val (.ref 287)):=ao.glob G (by kernel_rfl) rfl (by kernel_rfl)
theorem FL{pos}(G:aW w aG d0 B.s0.heap):ao w A B (aA dV L) Γ Δ (.Name (ya "str") pos) (.val (.type "str")):=ao.bG G (by kernel_rfl) (by kernel_rfl) rfl rfl (by kernel_rfl)
theorem yw(c:Int):f9 c=1∨f9 c= -1:=by
 have:=b6 (c.fdiv 18) 2 (by decide)
 unfold f9;exact aap this
theorem oX(cs:aa Int)(i j:Nat):eW cs i j=0∨eW cs i j=1∨eW cs i j= -1:=by
 unfold eW
 cases eY cs i j with
 |none=>exact .inl rfl
 |some k=>
  have:=yw (cs.getD k 0)
  simp only
  unfold um
  split<;> omega
theorem oY(cs:aa Int)(i j:Nat):(eW cs i j).natAbs<1000000:=by
 have:=oX cs i j
 exact aaq this
theorem xT(cs:aa Int)(i j:Nat):shaped (.str (ya (toString (eW cs i j))))=true:=by
 rcases oX cs i j with e|e|e<;> rw[e]<;> decide+kernel
theorem Ft(hn:cs.length≤7){i j:Nat}(pF:i<j)(hj:j≤cs.length){Ea:ia}{as:aa ia}{M M':Nat→Nat→Ga}{Is:aa (ia×MO)}{z:Int}(hz:z=(j:Int) -i↔HB cs i j=true)(ha:as.length=cs.length)
  (hM:M' i j=HB cs i j)(hM':∀i' j',¬(i'=i∧j'=j)→M' i' j'=M i' j')
  (S:Sc B (aA dV L) (GE w cs (.val (.ref Ea)) .un .un (.int z) (.int i) (.int j) .un .un .un) (Is++(Ea,.vals (as.map .ref))::rR as M cs.length) s)
  (h:∀s',Sc B (aA dV L) (GE w cs (.val (.ref Ea)) .un .un .un (.int i) (.int j) .un .un .un) (Is++(Ea,.vals (as.map .ref))::rR as M' cs.length) s'→Ex w A (aA dV L) rest Q E s')(ac:Ac A 12):
  Ex w A (aA dV L) (aC (fb AE) 2::rest) Q E s:=by
 have e:D.bool (jc (.int z) (.int ((j:Int) -i)))=.dat (.bool (M' i j)):=by
  rw[hM]
  have:jc (.int z) (.int ((j:Int) -i))=HB cs i j:=by
   rw[cg,←hz];simp[jc]
  rw[this]
 refine zS S ((ao.eq (ao.name m8) (ao.sub (ao.name kX) (ao.name m9)) rfl rfl ac.eq).cast e) (ao.aag (i:=(i:Int)) (v:=.ref (as.getD i 0)) (ao.name m5) (Nc _ La) (ao.name m9) (by exact Fb _) (by exact V4 hn pF hj) ?_) (ao.name kX)
  (bw.app (.there (IW (i:=i) (j:=j) (by exact Dc pF hj) hj hM'))) (by exact Fb _) (by exact DQ hn hj) ?_ λs1 S1=>h s1 (S1.forget Hy)
 ·rw[Fg,Ab,Lb,Wb (show i<as.length by exact W4 pF hj ha)];rfl
 ·unfold jT;simp;exact T8 hj
theorem Fv(ac:Ac A 12)(G:aW w aG d0 B.s0.heap)(hn:cs.length≤7){i j:Nat}(pF:i<j)(hj:j≤cs.length){de:D}
  (S:Sc B (aA dV L) (GE w cs de .un .un .un (.int i) (.int j) .un .un .un) Δ s)
  (h:∀s',Sc B (aA dV L) (GE w cs de .un .un .un (.int i) (.int j) .un .un .un) Δ s'→Ex w A (aA dV L) rest Q E s'):
  Ex w A (aA dV L) (aC (fb AE) 3::aC (fb AE) 4::aC (fb AE) 5::rest) Q E s:=by
 have hL:B.s0.heap.objs.size≤L:=S.lf
 have c1:(j:Int) -(i:Int)=((j-i:Nat):Int):=by exact T9 pF
 have sl:=fK cs i j hj
 refine rK ac.hh S (ao.tup (.cons (LC.cast (bs:=(cB cs i j).reverse.map .int) (LC.kP (l:=Sa (j-i)) (φ:=λk:Nat=>.int (k:Nat)) (g:=λk:Nat=>.int ((cB cs i j).reverse.getD k 0)) ac.hh (ao.dD (bC G) ((ao.sub (ao.name kX) (ao.name m9)).bO c1)) (lJ (j-i) (by exact M4 hn hj)) bS (.cons m1 (.cons kX .nil)) (λk hk B' Δ' C u p q=> ?_)) ?_).ev (.cons .bA .nil)) (by rw[sizeLine_eq];simp))
  (.cons (bY.name rZ (keep hL)) (.cons (bY.name pq (keep hL)) .nil)) (λs1 S1=> ?_) (hw:=by kernel_rfl)
 ·have hk:k<j-i:=Nb.mp hk
  refine ao.item (ao.name m1) (ao.sub (ao.sub (ao.name m2) .bA) (ao.name m0)) (by exact Vm hk) (by exact VP hn hj) ?_
  rw[show((j:Int) -1-(k:Nat)).toNat=j-1-k by exact DL,uO cs (by exact WL hj hk)]
  have:(cB cs i j).reverse.getD k 0=(aJ cs).getD (j-1-k) 0:=by
   rw[Lb,aa.getElem?_reverse (by exact Jg hk (id (Be sl))),←Lb,sl,rM cs hj (by exact yj hk),show i+(j-i-1-k)=j-1-k by exact Vn hk]
  rw[this]
 ·apply Ei
  ·simp[sl]
  ·intro k h1 h2
   simp at h1
   have:k<(cB cs i j).reverse.length:=by rw[Ue,sl];exact h1
   simp[Lb,Wb this]
 have hit:bF (.list ((eY cs i j).toList.map λk=>Xb (k:Nat))) ((eY cs i j).toList.map λk=>Xb (k:Nat)):=.list _ (by
  rw[sizeLine_eq,Qa];cases eY cs i j<;> simp)
 have src:ao w A B (aA dV L) (GE w cs de .un .un .un (.int i) (.int j) (pG (cB cs i j).reverse) (.int 0) .un) Δ (fi (aC (fb AE) 4)) (.list ((eY cs i j).toList.map λk=>Xb (k:Nat))):=ao.eU (ao.slice (LC.qG (l:=Sa (j-i)) (φ:=λk:Nat=>.int (k:Nat)) (g:=λk:Nat=>.int (k:Nat)) (t:=λk=>(cB cs i j).getD k 0 !=(cB cs i j).reverse.getD k 0) ac.hh (ao.dD (bC G) ((ao.sub (ao.name kX) (ao.name m9)).bO c1)) (lJ (j-i) (by exact M4 hn hj)) bS (.cons m1 (.cons m9 (.cons mR .nil)))
   (λk hk B' Δ' C u p q=>by
    have hk:k<j-i:=Nb.mp hk
    exact(TV.ne (ao.item (ao.name m1) (ao.add (ao.name m2) (ao.name m0)) (by exact Fb _) (by exact Nt hn hj hk) (uO cs (k:=i+k) (by exact Nq hj hk))) (ao.item (ao.name m3) (ao.name m0) (by exact Fb _) (by exact Au hn hj hk) (Gq cs hj hk)) rfl rfl ac.eq).cast (by rw[rM cs hj hk];rfl)) (λk hk z_ B' Δ' C u p q=>ao.name m0)).ev .none (.some (i:=((1:Nat):Int)) .bA) (by rw[sizeLine_eq];have:=Gk (λk=>(cB cs i j).getD k 0 !=(cB cs i j).reverse.getD k 0) (Sa (j-i));simp at this⊢;exact W5 hn hj this)) (by
   unfold eY
   rw[←tC,Fe,qE])
 have sg:∀k,eY cs i j=some k→k<j-i:=λk e=>Nb.mp (Nh e)
 refine iJ ac.hh S1 src hit
  (λt=>GE w cs de .un .un .un (.int i) (.int j) (pG (cB cs i j).reverse) (.int (if t=0 then 0 else eW cs i j)) .un) (λt d=>GE w cs de .un .un .un (.int i) (.int j) (pG (cB cs i j).reverse) .un (.dat d)) (λz_=>Δ)
  (λB s S=>S) (λz_=>rfl) (λt d hd B' Δ' hB=>⟨λs E v Q S r hq=>(bY.name (d:=.dat d) (Γ':=GE w cs de .un .un .un (.int i) (.int j) (pG (cB cs i j).reverse) (.int (if t=0 then 0 else eW cs i j)) (.dat d)) v9 (keep (hB▸hL))).go s E v Q S r λs' S' k'=>hq s' (S'.forget pq) k'⟩) (λB' R t d I m s2 E' hB hd S2 fin=> ?_) (λs2 S2=> ?_)
 ·obtain⟨k,hk,rfl,rfl⟩:∃k,eY cs i j=some k∧t=0∧d=.int (k:Nat):=by
   cases e:eY cs i j with
   |none=>rw[e]at hd;simp at hd
   |some k=>
    rw[e]at hd
    cases t with
    |zero=>simp at hd;exact⟨k,rfl,rfl,hd.symm⟩
    |succ t=>simp at hd
  have ES:=sg k hk
  have hsg:eW cs i j=um cs i j k:=by unfold eW;rw[hk]
  refine aI S2 (d:=.int (eW cs i j)) (ao.ite (c:=decide ((cB cs i j).getD k 0>(cB cs i j).reverse.getD k 0)) ((TV.gt (ao.item (ao.name m1) (ao.add (ao.name m9) (ao.name FN)) (by exact Fb _) (by exact Nt hn hj ES) (uO cs (k:=i+k) (by exact Nq hj ES))) (ao.item (ao.name mR) (ao.name FN) (by exact Fb _) (by exact Au hn hj ES) (Gq cs hj ES))).cast (by rw[rM cs hj ES];rfl))
   (λc=> ?_) (λc=> ?_)) pq (keep S2.lf) λs3 S3=>aU (fin _<|by
    show Sc _ _ (GE w cs de .un .un .un (.int i) (.int j) (pG (cB cs i j).reverse) (.int (eW cs i j)) .un) _ s3
    exact S3.forget v9)
  ·refine(hsg ..).symm▸ ?_
   unfold um
   rw[if_pos (Xf c)]
   exact ao.x9 (ao.item (ao.name m2) (ao.name FN) (by exact Fb _) (by exact Au hn hj ES) (Hs cs (k:=k) (by exact DW hj ES))) .bA (by decide) (by decide) rfl
  ·refine(hsg ..).symm▸ ?_
   unfold um
   rw[if_neg (qg c)]
   exact ao.neg (ao.x9 (ao.item (ao.name m2) (ao.name FN) (by exact Fb _) (by exact Au hn hj ES) (Hs cs (k:=k) (by exact DW hj ES))) .bA (by decide) (by decide) rfl)
 have hsg:(if((eY cs i j).toList.map λk=>Xb (k:Nat)).length=0 then 0 else eW cs i j)=eW cs i j:=by
  cases e:eY cs i j with
  |none=>simp[eW,e]
  |some k=>simp
 rw[hsg]at S2
 have wl:((cs.map f9).take (j-i)).length=j-i:=by simp;exact MX hj
 refine cS S2 ((TV.ne (ao.str (FL G) (ao.q7 (K:=fU 287 [(ya "comp_select_list",.list (fX 0 ((cs.map f9).take (j-i))))]) (C:=287) (f:=284) (d:=.int (eW cs i j))
   (ao.make (C:=287) (fI:=277) (kk:=1) (ds:=[.list (fX 0 ((cs.map f9).take (j-i)))]) (J6 G) (.cons ((ao.slice (ao.name m2) .none (.some ((ao.sub (ao.name kX) (ao.name m9)).bO c1)) ?_).eU ?_) .nil) (by simp) G (pM w aG d0) (λx dx vs s2 X E hX su hx hg hm hr Gb=> ?_))
   (eu.inst (by kernel_rfl)) G (pM w aG d0) (.cons ((ao.slice (ao.name m1) (.some (ao.name m9)) (.some (ao.name kX)) ?_).eU (kL cs i j)) (.cons (ao.name mR) .nil)) (λv vs s E S hv hr=> ?_)) (oY ..)) (ao.str (FL G) (ao.name zx) (oY ..)) ?_ ?_ ac.eq).cast (b:=false) ?_) rfl λs3 S3=>h s3 ((S3.forget rZ).forget pq)
 ·rw[sizeLine_eq];unfold kr;simp;exact Na hn (by decide)
 ·rw[←C4 cs _ (by exact Vo hj),qE]
 ·refine hr.c1 λu r1=> ?_
  exact Lu (k:=5) (Ac.under (ac.weak (by exact Mb rfl))) (Gb.keeps (lQ dx s2).up) Gb hX su hx hg hm r1
 ·rw[sizeLine_eq];unfold aJ;simp;exact Na hn (by decide)
 ·refine hr.c2 λu1 u2 r1 r2=> ?_
  refine(uD cs i j hj ..)▸ ?_
  exact Qz (k:=5) (ac.weak (by exact Mb rfl)) (S.g8 G) (λa ha=>S.jH ha) hv r1 r2 (by exact Nr sl wl) (by rw[Ue];exact Nr sl wl) (by exact W6 hn hj wl)
 ·exact xT ..
 ·exact xT ..
 ·rw[lZ];simp
noncomputable def ju(cs:aa Int)(i j i' j':Nat):Ga:=decide (i'<j'∧(i'<i∨(i'=i∧j'<j))) &&HB cs i' j'
noncomputable def dB(cs:aa Int)(i j:Nat):Ga:=decide (i<j∧j≤cs.length) &&HB cs i j
noncomputable abbrev HW(w:Oa)(cs:aa Int)(de di dj:D):aa (Str×D):=GE w cs de .un .un .un di dj .un .un .un
theorem JR(ac:Ac A 12)(G:aW w aG d0 B.s0.heap)(hn:cs.length≤7){Ea:ia}{as:aa ia}(ha:as.length=cs.length)
  (S:Sc B (aA dV L) (HW w cs (.val (.ref Ea)) .un .un) ((Ea,.vals (as.map .ref))::rR as (λz_ z_=>false) cs.length) s)
  (h:∀s',Sc B (aA dV L) (HW w cs (.list (wN (dB cs) cs.length)) .un .un) [] s'→Ex w A (aA dV L) rest Q E s'):
  Ex w A (aA dV L) (lb 17::rest) Q E s:=by
 have hL:B.s0.heap.objs.size≤L:=S.lf
 have c1:(cs.length:Int)+1=((cs.length+1:Nat):Int):=by rfl
 refine iJ ac.hh S (ao.dD (bC G) (ao.name m0)) (lJ cs.length (by exact Na hn (by decide)))
  (λt=>HW w cs (.val (.ref Ea)) .un .un) (λt d=>HW w cs (.val (.ref Ea)) (.dat d) .un) (λt=>(Ea,.vals (as.map .ref))::rR as (ju cs t 0) cs.length)
  (λB s S=>by rw[kF (M:=ju cs 0 0) (M':=λz_ z_=>false) λi j z_ z_=>by unfold ju;simp];exact S) (λt=>by simp only[Ib,sX as (ju cs t 0) (ju cs 0 0)]) (λt d hd B' Δ' hB=>bY.name Hz (keep (hB▸hL))) (λB' R t d I m s2 E' hB hd S2 fin=> ?_) (λs2 S2=> ?_)
 ·rw[Ab]at hd
  obtain⟨t',ht,rfl⟩:=fc.mp hd
  obtain⟨Dl,rfl⟩:=ud.mp ht
  rw[Og]at S2
  simp only[qd]at Dl
  have c2:(t:Int)+1=((t+1:Nat):Int):=by rfl
  have G2:aW w aG d0 B'.s0.heap:=hB▸G
  refine iJ (items:=(Sa (cs.length+1-(t+1))).map λk:Nat=>.int ((t+1+k:Nat):Int)) ac.hh S2 (ao.jE (bC G2) ((ao.add (ao.name m9) .bA).bO c2) ((ao.add (ao.name m0) .bA).bO c1)) (j5 (t+1) (cs.length+1) (by exact Mg Dl) (by exact Fc hn (by decide)))
   (λu=>HW w cs (.val (.ref Ea)) (.int t) .un) (λu d=>HW w cs (.val (.ref Ea)) (.int t) (.dat d)) (λu=>(I,m)::(Ea,.vals (as.map .ref))::rR as (ju cs t (t+1+u)) cs.length)
   (λB s S=>by rw[kF (M:=ju cs t (t+1+0)) (M':=ju cs t 0) λi j z_ z_=>by unfold ju;congr 1;apply yf.mpr;exact UZ];exact S) (λu=>by simp only[Ib,sX as (ju cs t (t+1+u)) (ju cs t (t+1+0))]) (λu d hd B3 Δ' hB3=>bY.name qo (keep (hB3▸S2.lf))) (λB2 R2 u d I2 m2 s3 E2 hB2 hd S3 fin2=> ?_) (λs3 S3=> ?_)
  ·rw[Ab]at hd
   obtain⟨u',hu,rfl⟩:=fc.mp hd
   obtain⟨w6,rfl⟩:=ud.mp hu
   rw[Og]at S3
   simp only[qd]at w6
   refine Ex.of aaV ?_
   refine Fq ac (hB2▸G2) hn (i:=t) (j:=t+1+u) (by exact sI) (by exact v7 w6) S3 λz s4 hz S4=>Ft (M':=ju cs t (t+1+(u+1))) (Is:=[(I2,m2),(I,m)]) hn (by exact sI) (by exact v7 w6) hz ha ?_ (λi' j' g9=> ?_) S4 (λs5 S5=>Fv ac (hB2▸G2) hn (by exact sI) (by exact v7 w6) S5 λs6 S6=>aU (fin2 _ (S6.forget qo))) ac
   ·unfold ju;simp;omega
   ·unfold ju;congr 1;apply yf.mpr;exact Wv g9
  ·refine aU ?_
   rw[Qa,qd,kF (M:=ju cs t (t+1+(cs.length+1-(t+1)))) (M':=ju cs (t+1) 0) λi j hi hj=>by unfold ju;congr 1;apply yf.mpr;exact Ww hj]at S3
   exact fin _ (S3.forget Hz)
 ·rw[Qa,qd]at S2
  refine h s2 (Sc.F3 (Δl:=(Ea,.vals (as.map .ref))::rR as (dB cs) cs.length) (Δr:=[]) (Γ:=HW w cs (.val (.ref Ea)) .un .un) ?_ (.same (.same (.same (.same (.same (.tell (gJ.aaH ha) (.same (.same (.same (.same (.same (.same (.same (.same (.same (.same .nil)))))))))))))))))
  rw[ff,←kF (M:=ju cs cs.length 0) (M':=dB cs) λi j hi hj=>by unfold ju dB;congr 1;apply yf.mpr;exact Vp hj]
  exact S2
noncomputable abbrev P2:=Nat×Nat
noncomputable def kS(cs:aa Int)(p:P2):aa Int:=cB cs p.1 p.2
noncomputable def cQ(cs:aa Int)(p:P2):aa Str:=((cs.map cJ).take p.2).drop p.1
noncomputable def nS(cs:aa Int)(p:P2):Str:=Gf (ya "/") (cQ cs p)
noncomputable def dF(cs:aa Int)(p:P2):Str:=Jb (nS cs p)
noncomputable def sN(k:Nat):Str:=ya (toString (k:Int))
noncomputable def kY(cs:aa Int)(p:P2):Prop:=p.1<p.2∧p.2≤cs.length
theorem zq(sep a p:aa Nat)(r:aa (aa Nat)):bI sep ((a++sep++p)::r)=a++sep++bI sep (p::r):=by
 cases r with
 |nil=>rfl
 |cons q r=>show(a++sep++p)++sep++bI sep (q::r)=a++sep++(p++sep++bI sep (q::r));simp[We]
theorem join_list(sep:Str):∀ts:aa Str,(Gf sep ts).cps.toList=bI sep.cps.toList (ts.map λt=>t.cps.toList)
 |[]=>rfl
 |t::ts=>by
  have g:∀(l:aa Str) (acc:Ua Nat),(l.foldl (λacc p=>acc++sep.cps++p.cps) acc).toList=bI sep.cps.toList (acc.toList::l.map λt=>t.cps.toList):=by
   intro l
   induction l with
   |nil=>intro acc;rfl
   |cons p l ih=>
    intro acc
    rw[Qd,ih,Qi,Qi,Ib,zq];rfl
  show(ts.foldl (λacc p=>acc++sep.cps++p.cps) t.cps).toList=_
  rw[g];rfl
theorem lI:(ya "/").cps.toList=[47]:=by decide+kernel
theorem nP{d:Nat}{sep:aa Nat}:∀{ps:aa (aa Nat)},d∈bI sep ps→d∈sep∨∃q∈ps,d∈q
 |[],h=>by cases h
 |[p],h=>.inr ⟨p,La,h⟩
 |p::q::r,h=>by
  have h:d∈p++sep++bI sep (q::r):=h
  rcases zc.mp h with h|h
  ·rcases zc.mp h with h|h
   ·exact .inr ⟨p,La,h⟩
   ·exact .inl h
  ·exact(nP h).imp id λ⟨x,a,b⟩=>⟨x,Wa _ a,b⟩
theorem tL{sep:aa Nat}{b:Nat}:∀{ps:aa (aa Nat)},(∀q∈ps,q.length≤b)→(bI sep ps).length≤ps.length*(b+sep.length)
 |[],_=>by simp[bI]
 |[p],h=>by have:=h p La;simp[bI];exact Mg this
 |p::q::r,h=>by
  have h1:=h p La
  have h2:=tL (sep:=sep) (ps:=q::r) λx hx=>h x (Wa _ hx)
  show(p++sep++bI sep (q::r)).length≤_
  refine(Dd ..).symm▸(Dd ..).symm▸(xd ..).symm▸(Nat.succ_mul ..).symm▸ ?_
  exact Xy h1 h2
theorem tR(f:Nat→Nat)(sep:aa Nat):∀ps:aa (aa Nat),(bI sep ps).map f=bI (sep.map f) (ps.map λq=>q.map f)
 |[]=>rfl
 |[p]=>rfl
 |p::q::r=>by
  show(p++sep++bI sep (q::r)).map f=_
  rw[Mc,Mc,tR f sep (q::r)];rfl
theorem pR(cs:aa Int)(p:P2):(nS cs p).cps.toList=bI [47] ((cQ cs p).map λt=>t.cps.toList):=by
 unfold nS;rw[join_list,lI]
theorem kK{cs:aa Int}{p:P2}{t:Str}(h:t∈cQ cs p):∃c,t=cJ c:=by
 obtain⟨c,_,rfl⟩:=Ra.mp (Ig (qh h))
 exact⟨c,rfl⟩
theorem oW(c:Int):∀d∈fS c,46≤d∧d<124∧d≠47:=by
 have h:∀i,i<6→∀d∈jF.getD i [],46≤d∧d<124∧d≠47:=by decide+kernel
 exact cy (P:=λi=>∀d∈jF.getD i [],46≤d∧d<124∧d≠47) h c
theorem rm{cs:aa Int}{p:P2}:∀d∈(nS cs p).cps.toList,46≤d∧d<124:=λd hd=>by
 rw[pR]at hd
 rcases nP hd with h|⟨q,hq,h⟩
 ·have:=Vb.mp h;exact SO this
 ·obtain⟨t,ht,rfl⟩:=Ra.mp hq
  obtain⟨c,rfl⟩:=kK ht
  rw[cZ]at h
  have:=oW c d h
  exact SP this
theorem Cz(cs:aa Int)(p:P2)(h:p.2≤cs.length):(cQ cs p).length=p.2-p.1:=by unfold cQ;simp;exact MW h
theorem nR{cs:aa Int}{p:P2}(hn:cs.length≤7):(nS cs p).cps.size≤28:=by
 refine(Wf ..)▸(pR ..).symm▸ ?_
 have h1:(cQ cs p).length≤cs.length:=by unfold cQ;simp;exact MU
 have:=tL (sep:=[47]) (b:=3) (ps:=(cQ cs p).map λt=>t.cps.toList) λq hq=>by
  obtain⟨t,ht,rfl⟩:=Ra.mp hq
  obtain⟨c,rfl⟩:=kK ht
  rw[cZ];exact lH c
 simp only[Qa,xd,xh]at this
 exact Wk hn h1 this
theorem eK{cs:aa Int}{p:P2}(hn:cs.length≤7):Nm (nS cs p):=⟨λd hd=>by have:=rm d hd;exact DJ this,by have:=nR (p:=p) hn;exact Na this (by decide)⟩
theorem A4{k:Nat}(h:k≤9):Nm (sN k):=by
 have g:∀k,k<10→((sN k).cps.toList.all λc=>decide (32≤c∧c<127))=true∧(sN k).cps.size≤1000:=by decide+kernel
 refine xA (g k (by exact Fc h (by decide))) λh1 h2=> ?_
 exact⟨λc hc=>by simpa using zf.mp h1 c hc,h2⟩
noncomputable def yH(k:Int):aa Nat:=(yq k).cps.toList
theorem FH(c:Int):(fS c).map lo1=yH (c.fmod 3):=by
 have h:∀i,i<6→(jF.getD i []).map lo1=(ya (o7.getD (i%3) "")).cps.toList:=by decide+kernel
 have e:(c.fmod 3).toNat=(c.fmod 6).toNat%3:=by
  rw[Ng _ (by omega),Ng _ (by omega)];omega
 unfold yH yq
 refine(e ..).symm▸ ?_
 exact cy (P:=λi=>(jF.getD i []).map lo1=(ya (o7.getD (i%3) "")).cps.toList) h c
theorem CA(cs:aa Int)(p:P2):(cQ cs p).map (λt=>t.cps.toList.map lo1)=(kS cs p).map yH:=by
 unfold cQ kS cB aJ
 refine(Se ..).symm▸(Fe ..).symm▸(Eb ..).symm▸(Se ..).symm▸(Fe ..).symm▸(Eb ..).symm▸ ?_
 congr 2
 refine Tf λc z_=> ?_
 show(cJ c).cps.toList.map lo1=yH (c.fmod 3)
 rw[cZ,FH]
theorem iY{cs:aa Int}{p:P2}(hn:cs.length≤7):(dF cs p).cps.toList=bI [47] ((kS cs p).map yH):=by
 unfold dF
 refine((eK (p:=p) hn).jy ..).symm▸ ?_
 show((nS cs p).cps.map lo1).toList=_
 refine(Ag ..).symm▸(pR ..).symm▸(tR ..).symm▸(Eb ..).symm▸(CA ..)▸ ?_
 rfl
theorem qO{cs:aa Int}{p:P2}{x:Int}(h:x∈kS cs p):0≤x∧x<3:=by
 obtain⟨c,_,rfl⟩:=Ra.mp (Ig (qh h))
 exact b6 c 3 (by decide)
theorem Lz{a b:Int}(ha:0≤a∧a<3)(hb:0≤b∧b<3)(h:yH a=yH b):a=b:=by
 have:=yr _ (by exact XC ha) _ (by exact XC hb) (str_of_list h:yq a=yq b)
 exact Rx ha hb this
theorem uq{a:Int}(ha:0≤a∧a<3):∀d∈yH a,d≠47∧d≠124:=by
 have h:∀i,i<3→∀d∈(ya (o7.getD i "")).cps.toList,d≠47∧d≠124:=by decide+kernel
 exact h _ (by exact Iv ha)
theorem gR{α β:Type}{f:α→β}{P:α→Prop}(hf:∀a b,P a→P b→f a=f b→a=b):∀{l m:aa α},(∀a∈l,P a)→(∀a∈m,P a)→l.map f=m.map f→l=m
 |[],[],_,_,_=>rfl
 |[],_::_,_,_,h=>by simp at h
 |_::_,[],_,_,h=>by simp at h
 |a::l,b::m,h1,h2,h=>by
  simp only[Ib,Qe]at h
  rw[hf a b (h1 a La) (h2 b La) h.1,gR hf (λx hx=>h1 x (Wa _ hx)) (λx hx=>h2 x (Wa _ hx)) h.2]
theorem NZ{cs:aa Int}{p:P2}(h:kY cs p):kS cs p≠[]:=λe=>by
 have:=fK cs p.1 p.2 h.2
 have h1:=h.1
 unfold kS at e
 rw[e]at this;simp at this;exact MP this h1
theorem zu{k l:aa Int}(hk:k≠[])(hl:l≠[])(mk:∀x∈k,0≤x∧x<3)(ml:∀x∈l,0≤x∧x<3)(e:bI [47] (k.map yH)=bI [47] (l.map yH)):k=l:=by
 have sp:∀{m:aa Int},m≠[]→(∀x∈m,0≤x∧x<3)→∀x:Str,x.cps.toList=bI [47] (m.map yH)→pg x (ya "/")=(m.map yH).map (λl=>⟨l.toArray⟩):=λhm hx x ex=>
  (kq lI (by decide+kernel) (by simp) (by simpa using hm) (λq hq h=>by
   obtain⟨a,ha,rfl⟩:=Ra.mp hq
   exact(uq (hx a ha) 47 h).1 rfl) ex).1
 have h1:=sp hk mk ⟨(bI [47] (k.map yH)).toArray⟩ rfl
 have h2:=sp hl ml ⟨(bI [47] (k.map yH)).toArray⟩ e
 have h3:=h1.symm.trans h2
 have h4:k.map yH=l.map yH:=gR (P:=λz_=>True) (λa b z_ z_ h=>by simpa using h) (λz_ z_=>trivial) (λz_ z_=>trivial) h3
 exact gR (λa b ha hb h=>Lz ha hb h) mk ml h4
theorem fy{cs:aa Int}{p q:P2}(hn:cs.length≤7)(hp:kY cs p)(hq:kY cs q):dF cs p=dF cs q↔kS cs p=kS cs q:=by
 refine⟨λe=>zu (NZ hp) (NZ hq) (λx=>qO) (λx=>qO) ?_,λe=>str_of_list ?_⟩
 ·rw[←iY hn,←iY hn,e]
 ·rw[iY hn,iY hn,e]
theorem GS{cs:aa Int}{p:P2}(hp:kY cs p):(pg (nS cs p) (ya "/")).length=p.2-p.1∧
  (partsBetween (nS cs p) (Gg (nS cs p) (ya "/") 0 (nS cs p).length ((nS cs p).length+1)) (ya "/").length).length=p.2-p.1:=by
 have hl:=Cz cs p hp.2
 have h1:=hp.1
 have:=kq (x:=nS cs p) lI (by decide+kernel) (by simp) (parts:=(cQ cs p).map λt=>t.cps.toList) (λe=>by rw[aa.map_eq_nil_iff]at e;rw[e]at hl;simp at hl;exact MP hl h1) (λq hq h=>by
  obtain⟨t,ht,rfl⟩:=Ra.mp hq
  obtain⟨c,rfl⟩:=kK ht
  rw[cZ]at h
  exact(oW c 47 h).2.2 rfl) (pR cs p)
 refine⟨?_,?_⟩
 ·rw[this.1];simp[hl]
 ·rw[this.2];simp[hl]
noncomputable abbrev evD(cs:aa Int):D:=.list (wN (dB cs) cs.length)
noncomputable abbrev GT(w:Oa)(cs:aa Int)(dt dp dc dw dn di dj ds df dr dh:D):aa (Str×D):=[(nm "size",.int cs.length),(nm "kinds",pG (aJ cs)),(nm "lines",cK (linesOf cs)),(nm "shown",.list (cs.map λc=>.str (cJ c))),(nm "even",evD cs),
 (nm "table",dt),(nm "places",dp),(nm "counts",dc),(nm "words",dw),(nm "names",dn),(nm "i",di),(nm "j",dj),(nm "starts",ds),(nm "firsts",df),(nm "pairs",dr),(nm "heard",dh)]
theorem uR{pos}(G:aW w aG d0 B.s0.heap):ao w A B (aA dV L) Γ Δ (.Name (ya "Headers") pos) (.val (.ref hC)):=ao.glob G (by kernel_rfl) rfl (by kernel_rfl)
@[elab_as_elim] theorem o9.uc {M:aa D→aa (ia×MO)→Prop} {R:D→aa (ia×MO)→Prop} {Rs:aa (D→aa (ia×MO)→Prop)} {ds:aa D} {N:aa (ia×MO)} (ar:o9 (R::Rs) ds N) (k:∀d ds N1 N2,R d N1→o9 Rs ds N2→M (d::ds) (N2++N1)):M ds N:=by
 cases ar with
 |cons r1 ar=>exact k _ _ _ _ r1 ar
@[elab_as_elim] theorem o9.un {M:aa D→aa (ia×MO)→Prop} {ds:aa D} {N:aa (ia×MO)} (ar:o9 [] ds N) (k:M [] []):M ds N:=by cases ar;exact k
noncomputable abbrev rH(d:D)(N:aa (ia×MO)):Prop:=∃l,d=.known (HL l)∧N=[(l,.list [])]
noncomputable abbrev rL(d:D)(N:aa (ia×MO)):Prop:=∃l,d=.val (.ref l)∧N=[(l,.list [])]
noncomputable abbrev rC(w:Oa)(d:D)(N:aa (ia×MO)):Prop:=d=.known (fE w [])∧N=[]
@[elab_as_elim] theorem Kw {M:aa D→aa (ia×MO)→Prop} {ds:aa D} {N:aa (ia×MO)} (ar:o9 [rH,rH,rH,rC w,rL,rL,rL] ds N)
  (k:∀l1 l2 l3 a1 a2 a3,M [.known (HL l1),.known (HL l2),.known (HL l3),.known (fE w []),.val (.ref a1),.val (.ref a2),.val (.ref a3)] [(a3,.list []),(a2,.list []),(a1,.list []),(l3,.list []),(l2,.list []),(l1,.list [])]):M ds N:=by
 refine ar.uc λz_ z_ z_ z_ r1 ar=>ar.uc λz_ z_ z_ z_ r2 ar=>ar.uc λz_ z_ z_ z_ r3 ar=>ar.uc λz_ z_ z_ z_ r4 ar=>ar.uc λz_ z_ z_ z_ r5 ar=>ar.uc λz_ z_ z_ z_ r6 ar=>ar.uc λz_ z_ z_ z_ r7 ar=>ar.un ?_
 obtain⟨l1,rfl,rfl⟩:=r1
 obtain⟨l2,rfl,rfl⟩:=r2
 obtain⟨l3,rfl,rfl⟩:=r3
 obtain⟨rfl,rfl⟩:=r4
 obtain⟨a1,rfl,rfl⟩:=r5
 obtain⟨a2,rfl,rfl⟩:=r6
 obtain⟨a3,rfl,rfl⟩:=r7
 exact k _ _ _ _ _ _
theorem JS(ac:Ac A 12)(G:aW w aG d0 B.s0.heap)
  (S:Sc B (aA dV L) (HW w cs (evD cs) .un .un) [] s)
  (h:∀l1 l2 l3 a1 a2 a3 s',Sc B (aA dV L) (GT w cs (.known (HL l1)) (.known (HL l2)) (.known (fE w [])) (.val (.ref a1)) (.val (.ref a2)) .un .un .un .un (.known (HL l3)) (.val (.ref a3))) [(l1,.list []),(l2,.list []),(a1,.list []),(a2,.list []),(l3,.list []),(a3,.list [])] s'→Ex w A (aA dV L) rest Q E s'):
  Ex w A (aA dV L) (lb 18::rest) Q E s:=by
 have hL:B.s0.heap.objs.size≤L:=S.lf
 have S0:Sc B (aA dV L) (GT w cs .un .un .un .un .un .un .un .un .un .un .un) [] s:=S.Eo (.cons m0 (.cons m1 (.cons N8 (.cons FO (.cons m5 (.un (.un (.un (.un (.un (.un (.un (.un (.un (.un (.un .nil))))))))))))))))
 refine CR ac.hh S0 (.cons (λΦ Δ=>yz.headers (k:=5) (ac.weak (by exact Mb rfl)) (by exact G) (uR (by exact G))) (.cons (λΦ Δ=>yz.headers (k:=5) (ac.weak (by exact Mb rfl)) (by exact G) (uR (by exact G))) (.cons (λΦ Δ=>yz.headers (k:=5) (ac.weak (by exact Mb rfl)) (by exact G) (uR (by exact G))) (.cons (λΦ Δ=>yz.aaD (by exact G)) (.cons (λΦ Δ=>yz.P6) (.cons (λΦ Δ=>yz.P6) (.cons (λΦ Δ=>yz.P6) .nil))))))) (by rw[sizeLine_eq];simp) rfl (λs1 ds N ar S1=> ?_) (by kernel_rfl)
 refine Kw ar λl1 l2 l3 a1 a2 a3=> ?_
 refine⟨_,.cons (bY.name OG (keep hL)) (.cons (bY.name NC (keep hL)) (.cons (bY.name DX (keep hL)) (.cons (bY.name IA (keep hL)) (.cons (bY.name Hy (keep hL)) (.cons (bY.name Hz (keep hL)) (.cons (bY.name DY (keep hL)) .nil)))))),λs2 S2=>h l1 l2 l3 a1 a2 a3 s2 (S2.perm ?_)⟩
 have e:[(a3,MO.list []),(a2,MO.list []),(a1,MO.list []),(l3,MO.list []),(l2,MO.list []),(l1,MO.list [])]=[(l1,MO.list []),(l2,MO.list []),(l3,MO.list []),(a1,MO.list []),(a2,MO.list []),(a3,MO.list [])].reverse:=rfl
 refine(ff ..).symm▸(e ..).symm▸ ?_
 refine(aa.reverse_perm _).trans ?_
 refine .cons _ (.cons _ ?_)
 exact(Yi (l₁:=[(l3,MO.list [])]) (l₂:=[(a1,MO.list []),(a2,MO.list [])])).append_right [(a3,MO.list [])]
noncomputable def aM(cs:aa Int)(p q:P2):Ga:=decide (kS cs q=kS cs p)
noncomputable def starts(cs:aa Int)(j:Nat):aa Nat:=(Sa j).filter λi=>dB cs i j
noncomputable def dK(cs:aa Int)(F:aa P2)(p:P2):aa P2:=if F.any (aM cs p)then F else F++[p]
noncomputable def b8(cs:aa Int)(j:Nat)(F:aa P2)(l:aa Nat):aa P2:=l.foldl (λF i=>dK cs F (i,j)) F
noncomputable def FJ(cs:aa Int):Nat→aa P2
 |0=>[]
 |j+1=>b8 cs (j+1) (FJ cs j) (starts cs (j+1))
noncomputable def EJ(cs:aa Int):Nat→aa P2
 |0=>[]
 |j+1=>EJ cs j++(starts cs (j+1)).map λi=>(i,j+1)
noncomputable def cW(cs:aa Int)(F:aa P2):Rows:=F.map λp=>(nS cs p,sN p.2)
noncomputable def pJ(cs:aa Int)(F:aa P2):Rows:=F.map λp=>(nS cs p,sN p.1)
noncomputable def ku(cs:aa Int)(F:aa P2):aa PyData:=F.map λp=>.list ((kS cs p).map .int)
noncomputable def fst(cs:aa Int)(F:aa P2)(p:P2):P2:=(F.find? (aM cs p)).getD p
noncomputable def bH(cs:aa Int)(E:aa P2)(p:P2):Nat:=E.countP (aM cs p)
noncomputable def fQ(cs:aa Int)(F E:aa P2):mQ:=F.map λp=>(dF cs p,(bH cs E p:Int))
noncomputable def mS(cs:aa Int)(F:aa P2):Prop:=∀p∈F,kY cs p
end
section
variable{cs:aa Int}{F E:aa P2}{p q:P2}
theorem bZ{i j:Nat}(h:i∈starts cs j):i<j∧dB cs i j=true:=by
 have:=Xd.mp h
 exact⟨Nb.mp this.1,this.2⟩
theorem mS.add(h:mS cs F)(hp:kY cs p):mS cs (dK cs F p):=by
 unfold dK
 split
 ·exact h
 ·exactλq hq=>by
   rcases zc.mp hq with hq|hq
   ·exact h q hq
   ·rw[Vb.mp hq];exact hp
theorem uw{j:Nat}(hj:j≤cs.length):∀{l:aa Nat} {F:aa P2},mS cs F→(∀i∈l,i<j)→mS cs (b8 cs j F l)
 |[],_,h,_=>h
 |i::l,F,h,hl=>uw (l:=l) (F:=dK cs F (i,j)) hj (h.add ⟨hl i La,hj⟩) λk hk=>hl k (Wa _ hk)
theorem vV:∀j,j≤cs.length→mS cs (FJ cs j)
 |0,_=>λz_ h=>nomatch h
 |j+1,h=>uw h (vV j (by exact Xc h)) λi hi=>(bZ hi).1
theorem LO:∀j,j≤cs.length→mS cs (EJ cs j)
 |0,_=>λz_ h=>nomatch h
 |j+1,h=>λp hp=>by
  rcases zc.mp hp with hp|hp
  ·exact LO j (by exact Xc h) p hp
  ·obtain⟨i,hi,rfl⟩:=Ra.mp hp
   exact⟨(bZ hi).1,h⟩
theorem DE(F:aa P2)(p:P2):(dK cs F p).length≤F.length+1:=by
 unfold dK;split<;> simp
theorem lO{j:Nat}:∀(l:aa Nat) (F:aa P2),(b8 cs j F l).length≤F.length+l.length
 |[],F=>zb _
 |i::l,F=>by
  have:=lO (j:=j) l (dK cs F (i,j))
  have:=DE (cs:=cs) F (i,j)
  show(b8 cs j (dK cs F (i,j)) l).length≤_
  rw[xd];exact sL (by assumption) this
theorem gX(j:Nat):(starts cs j).length≤j:=by
 unfold starts
 have:=Gk (λi=>dB cs i j) (Sa j)
 simpa using this
theorem Dt:∀j,(FJ cs j).length≤j*j
 |0=>zb _
 |j+1=>by
  have h1:=lO (cs:=cs) (j:=j+1) (starts cs (j+1)) (FJ cs j)
  have h2:=Dt j
  have h3:=gX (cs:=cs) (j+1)
  show(b8 cs (j+1) (FJ cs j) (starts cs (j+1))).length≤_
  have:(j+1)*(j+1)=j*j+j+j+1:=by rw[Nat.mul_add,Nat.add_mul];exact MD
  exact XR h1 h2 h3 this
theorem Dr:∀j,(EJ cs j).length≤j*j
 |0=>zb _
 |j+1=>by
  have h2:=Dr j
  have h3:=gX (cs:=cs) (j+1)
  have:(j+1)*(j+1)=j*j+j+j+1:=by rw[Nat.mul_add,Nat.add_mul];exact MD
  show(EJ cs j++_).length≤_
  rw[Dd,Qa];exact XE h2 h3 this
theorem AO(hn:cs.length≤7)(hq:kY cs q)(hp:kY cs p):(Jb (nS cs q)==Jb (nS cs p))=aM cs p q:=by
 have:=fy hn hq hp
 unfold aM
 rw[cg,Vd,gg]
 exact this
theorem sY{f:P2→Str}(hn:cs.length≤7)(hp:kY cs p):∀{F:aa P2},mS cs F→(F.map λp=>(nS cs p,f p)).find? (λr=>Jb r.1==Jb (nS cs p))=(F.find? (aM cs p)).map λq=>(nS cs q,f q)
 |[],_=>rfl
 |q::F,h=>by
  refine(Ib ..).symm▸(vf ..).symm▸(vf ..).symm▸(AO hn (h q La) hp ..).symm▸ ?_
  cases aM cs p q with
  |true=>rfl
  |false=>exact sY hn hp λx hx=>h x (Wa _ hx)
theorem wU(hn:cs.length≤7)(h:mS cs F)(hp:kY cs p):lB (cW cs F) (nS cs p)=(F.find? (aM cs p)).map λq=>sN q.2:=by
 unfold lB cW
 refine(sY hn hp h ..).symm▸ ?_
 cases F.find? (aM cs p)<;> rfl
theorem fF(F:aa P2)(f:P2→Ga):F.any f=(F.find? f).isSome:=by
 induction F with
 |nil=>rfl
 |cons a F ih=>rw[Ni,vf];cases h:f a<;> simp[ih]
theorem GB(hn:cs.length≤7)(h:mS cs F)(hp:kY cs p):vo (cW cs F) (nS cs p) (sN p.2)=cW cs (dK cs F p):=by
 unfold vo dK
 refine(wU hn h hp ..).symm▸(fF ..).symm▸ ?_
 cases F.find? (aM cs p)with
 |none=>simp[cW]
 |some q=>rfl
theorem GC(hn:cs.length≤7)(h:mS cs F)(hp:kY cs p):vp (cW cs F) (nS cs p) (sN p.2)=sN (fst cs F p).2:=by
 unfold vp fst
 refine(wU hn h hp ..).symm▸ ?_
 cases F.find? (aM cs p)<;> rfl
theorem gU(cs:aa Int)(p:P2):aM cs p p=true:=by unfold aM;simp
theorem Er(F:aa P2)(p q r:P2)(h:F.find? (aM cs p)=some r):(dK cs F q).find? (aM cs p)=some r:=by
 unfold dK
 split
 ·exact h
 ·rw[Vi,h];rfl
theorem nG{j:Nat}:∀(l:aa Nat) (F:aa P2) (p r:P2),F.find? (aM cs p)=some r→(b8 cs j F l).find? (aM cs p)=some r
 |[],F,p,r,h=>h
 |i::l,F,p,r,h=>nG l _ p r (Er F p (i,j) r h)
theorem sZ(F:aa P2)(p:P2):(dK cs F p).find? (aM cs p)=some (fst cs F p):=by
 unfold dK fst
 cases e:F.find? (aM cs p)with
 |none=>
  refine(fF ..).symm▸(e ..).symm▸ ?_
  simp only[Ma.isSome_none,wg,yg]
  refine(Vi ..).symm▸(e ..).symm▸ ?_
  simp[gU]
 |some q=>rw[fF,e];simp[e]
theorem I7{j:Nat}(l:aa Nat)(F:aa P2)(p:P2):fst cs (b8 cs j (dK cs F p) l) p=fst cs F p:=by
 have:=nG (j:=j) l _ p _ (sZ (cs:=cs) F p)
 conv =>lhs;unfold fst
 rw[this];rfl
theorem zV(cs:aa Int){p:P2}(h:p.2≤cs.length):((linesOf cs).take p.2).drop p.1=cQ cs p:=by
 unfold linesOf cQ
 rw[aa.take_append_of_le_length (by simpa using h)]
theorem rz(cs:aa Int)(p:P2)(hn:cs.length≤7):JoinOk (ya "/") (cQ cs p)=true:=by
 refine jx (b:=3) (λt ht=> ?_) ?_
 ·obtain⟨c,rfl⟩:=kK ht
  show(cJ c).cps.size≤3
  rw[←Wf,cZ];exact lH c
 ·have h1:(cQ cs p).length≤cs.length:=by unfold cQ;simp;exact MU
  have h2:(ya "/").length=1:=by decide+kernel
  rw[h2];exact UG hn h1
end
section
variable{w:Oa}{A:Xa}{B:Bx}{s:za}{env:Env}{Γ Γ':aa (Str×D)}{Δ Δ':aa (ia×MO)}{cs:aa Int}{E:qa→za→Prop}
theorem ao.tG{e1 lo hi:Ba}{k}{p0 sp p1 apos pos:Pos}{p:P2}(hn:cs.length≤7)(hp:p.2≤cs.length)(x:ao w A B env Γ Δ e1 (cK (linesOf cs)))(y:ao w A B env Γ Δ lo (.int (p.1:Nat)))(z:ao w A B env Γ Δ hi (.int (p.2:Nat)))
  (hl:Aa ((apos.endLine==pos.line)=true) aR):
  ao w A B env Γ Δ (.Call (.Attribute (.Constant (.str (ya "/")) k p0) (ya "join") apos) [.Subscript e1 (.Slice (some lo) (some hi) none sp) p1] [] pos) (.str (nS cs p)):=
 ao.join ao.gu ((ao.slice x (.some y) (.some z) (by rw[Qa,iX,sizeLine_eq];exact Fc hn (by decide))).eU (by rw[iQ,←Fe,←Se,zV cs hp])) (rz cs p hn) rfl rfl hl
theorem ao.ZF{e1 lo hi:Ba}{k}{p0 sp p1 apos pos:Pos}{p:P2}(hn:cs.length≤7)(x:ao w A B env Γ Δ e1 (.list (cs.map λc=>.str (cJ c))))(y:ao w A B env Γ Δ lo (.int (p.1:Nat)))(z:ao w A B env Γ Δ hi (.int (p.2:Nat)))
  (hl:Aa ((apos.endLine==pos.line)=true) aR):
  ao w A B env Γ Δ (.Call (.Attribute (.Constant (.str (ya "/")) k p0) (ya "join") apos) [.Subscript e1 (.Slice (some lo) (some hi) none sp) p1] [] pos) (.str (nS cs p)):=
 ao.join ao.gu ((ao.slice x (.some y) (.some z) (by rw[Qa,sizeLine_eq];exact Na hn (by decide))).eU (b:=(cQ cs p).map .str) (by
  rw[iQ]
  unfold cQ
  rw[Se,Fe,Eb];rfl)) (rz cs p hn) rfl rfl hl
theorem mX{cs:aa Int}{j i d:Nat}{F:aa P2}{l:aa Nat}(h:l[i]? =some d):b8 cs j F (l.take (i+1))=dK cs (b8 cs j F (l.take i)) (d,j):=by
 unfold b8
 rw[Me,h,xe];rfl
theorem p8{cs:aa Int}{j i d:Nat}{F:aa P2}{l:aa Nat}(h:l[i]? =some d):b8 cs j F l=b8 cs j (dK cs (b8 cs j F (l.take i)) (d,j)) (l.drop (i+1)):=by
 rw[←mX h]
 unfold b8
 rw[←xe,Ci]
theorem pO(M:Nat→Nat→Ga){n i:Nat}(h:i<n):(wN M n)[i]? =some (.list ((Sa (n+1)).map λj=>.bool (M i j))):=by
 unfold wN
 rw[Ab,xf h];rfl
theorem l5(M:Nat→Nat→Ga){n i j:Nat}(h:j≤n):((Sa (n+1)).map λj=>PyData.bool (M i j))[j]? =some (.bool (M i j)):=by
 rw[Ab,xf (by exact Hj h)];rfl
theorem vI{cs:aa Int}(hn:cs.length≤7)(F:aa P2)(f:P2→Str)(h:F.length≤1000):cP (F.map λp=>(nS cs p,f p)):=⟨λr hr=>by
 obtain⟨p,_,rfl⟩:=Ra.mp hr
 exact eK hn,by rw[Qa];exact Na h (by decide)⟩
variable{L:ia}{dV:qa}{Δr:aa (ia×MO)}{aG:ia→qa}{d0:qa}{Q:Flow→za→Prop}{rest:aa Va}
noncomputable abbrev gC(cs:aa Int)(j:Nat):D:=.list ((starts cs j).map λ(i:Nat)=>.int (i:Nat))
noncomputable abbrev firstsD(cs:aa Int)(j:Nat)(F:aa P2):D:=.list ((starts cs j).map λi=>.str (sN (fst cs F (i,j)).2))
theorem Fw(ac:Ac A 12)(G:aW w aG d0 B.s0.heap)(hn:cs.length≤7){j:Nat}(hj:j≤cs.length){F:aa P2}(hF:mS cs F)(O4:F.length≤100){l1:ia}{dp dc dw dn dr dh:D}
  (S:Sc B (aA dV L) (GT w cs (.known (HL l1)) dp dc dw dn .un (.int j) .un .un dr dh) ((l1,.list ((cW cs F).map bz))::Δr) s)
  (h:∀s',Sc B (aA dV L) (GT w cs (.known (HL l1)) dp dc dw dn .un (.int j) (gC cs j) (firstsD cs j (b8 cs j F (starts cs j))) dr dh) ((l1,.list ((cW cs (b8 cs j F (starts cs j))).map bz))::Δr) s'→Ex w A (aA dV L) rest Q E s'):
  Ex w A (aA dV L) (aC (fb (lb 19)) 0::aC (fb (lb 19)) 1::rest) Q E s:=by
 have hL:B.s0.heap.objs.size≤L:=S.lf
 have sl:=gX (cs:=cs) j
 have hz:((starts cs j).map λ(i:Nat)=>Xb (i:Nat)).length≤Bb:=by rw[Qa,sizeLine_eq];exact DV hn hj sl
 refine iI S (LC.qG (l:=Sa j) (φ:=λi:Nat=>.int (i:Nat)) (g:=λi:Nat=>.int (i:Nat)) (t:=λi=>dB cs i j) ac.hh (ao.dD (bC G) (ao.name mR)) (lJ j (by exact Na hj (Na hn (by decide)))) bS (.cons m4 (.cons mR .nil)) (λi hi B' Δ' C u p q=> ?_) (λi hi z_ B' Δ' C u p q=>ao.name m0)) pq (keep hL) (gZ (by kernel_rfl)) λs1 S1=> ?_
 ·have hi:i<j:=Nb.mp hi
  exact TV.dI (ao.item (ao.item (ao.name m1) (ao.name m0) (by exact Fb _) (by exact V5 hn hj hi) (pO _ (by exact Dc hi hj))) (ao.name m2) (by exact Fb _) (by exact DQ hn hj) (l5 _ hj))
 refine rJ (Δl:=[(l1,.list ((cW cs F).map bz))]) (Δr:=Δr) (l:=starts cs j) (φ:=λi:Nat=>.int (i:Nat)) (Γ':=λa=>GT w cs (.known (HL l1)) dp dc dw dn .un (.int j) (gC cs j) (.val (.ref a)) dr dh)
  (Inv:=λt ys Δx=>Δx=[(l1,MO.list ((cW cs (b8 cs j F ((starts cs j).take t))).map bz))]∧∀X hp,aD X hp ys (((starts cs j).take t).map λi=>.str (sN (fst cs (b8 cs j F (starts cs j)) (i,j)).2)))
  ac.hh S1 (ao.name zx) (.list _ hz) bS (.cons m5 (.cons m2 (.cons mR .nil))) ⟨rfl,λX hp=>.nil⟩ (λt d ys Δx B' C I a mI s2 E' hd hI u hC S2=> ?_) (λt ys Δx hI p hp=> ?_) (λa=>v9) (keep hL) (gZ (by kernel_rfl)) λa ys Δx s2 hI S2=> ?_
 ·obtain⟨rfl,hr⟩:=hI
  have lC:d∈starts cs j:=Ff hd
  have hdj:=(bZ lC).1
  have vP:kY cs (d,j):=⟨hdj,hj⟩
  have Cx:=uw hj hF (l:=(starts cs j).take t) λk hk=>(bZ (Ig hk)).1
  have Pr:=lO (cs:=cs) (j:=j) ((starts cs j).take t) F
  rw[uf]at Pr
  refine Pa ((kT.GH (rows:=cW cs (b8 cs j F ((starts cs j).take t))) (name:=nS cs (d,j)) (val:=sN j) (k:=5) (ac.weak (by exact Mb rfl)) (G.keeps u) (ao.name m1) (ao.tG (p:=(d,j)) hn hj (ao.name m2) (ao.name m0) (ao.name m3)) (ao.str (ao.bG (G.keeps u) (by kernel_rfl) (by kernel_rfl) rfl rfl (by kernel_rfl)) (ao.name m3) (by exact MM hn hj)) (.there (.there .here)) (eK hn) (A4 (by exact Na hj (Na hn (by decide)))) (vI hn _ _ (by exact XT hn hj O4 sl Pr))).go s2 E' S2) (λv s3 q=> ?_) λz_ z_ z=>z
  refine xA q λS3 r3=> ?_
  have e2:vp (cW cs (b8 cs j F ((starts cs j).take t))) (nS cs (d,j)) (sN j)=_:=GC hn Cx vP
  have e3:vo (cW cs (b8 cs j F ((starts cs j).take t))) (nS cs (d,j)) (sN j)=_:=GB hn Cx vP
  rw[e2]at r3
  refine⟨_,⟨?_,λX hp=> ?_⟩,S3⟩
  ·rw[mX hd,←e3]
  ·refine r3.q8 λtk=> ?_
   have ef:fst cs (b8 cs j F (starts cs j)) (d,j)=fst cs (b8 cs j F ((starts cs j).take t)) (d,j):=by rw[p8 hd,I7]
   refine(Me ..).symm▸(hd ..).symm▸(Mc ..).symm▸ ?_
   refine(hr X hp).append ?_
   show aD X hp _ [ie (sN (fst cs (b8 cs j F (starts cs j)) (d,j)).2)]
   refine(ef ..).symm▸ ?_
   exact .cons (.str ..) .nil
 ·obtain⟨rfl,_⟩:=hI
  refine(Vb.mp hp ..).symm▸ ?_
  exact Vb.mpr rfl
 ·obtain⟨rfl,hr⟩:=hI
  rw[bf]at hr S2
  exact h s2 (Sc.F3 (Δl:=[(a,.vals ys)]) S2 (.same (.same (.same (.same (.same (.same (.same (.same (.same (.same (.same (.same (.same (.tell (gJ.vals (Vb.mpr rfl) hr) (.same (.same .nil)))))))))))))))))
noncomputable abbrev f19:Va:=aC (fb (lb 19)) 2
theorem vM(cs:aa Int):∀F:aa P2,Xe (ku cs F)=true
 |[]=>rfl
 |p::F=>by
  show(yd (.list ((kS cs p).map .int)) &&Xe (ku cs F))=true
  refine(vM cs F ..).symm▸ ?_
  have:yd (.list ((kS cs p).map .int))=true:=lR _
  rw[this];rfl
theorem LH(cs:aa Int)(p:P2)(F:aa P2):(ku cs F).any (λy=>jc y (.list ((kS cs p).map .int)))=F.any (aM cs p):=by
 unfold ku
 refine(aa.any_map ..).symm▸ ?_
 congr 1
 funext q
 show jc (.list ((kS cs q).map .int)) (.list ((kS cs p).map .int))=_
 rw[lY];rfl
theorem Ac.dep{A:Xa}{k:Nat}(a:Ac A k)(ds:aa PyData)(l:aa Int):A.units+1+min (we ds) (Qf (.list (l.map .int)))<cLine:=by
 have h2:Qf (.list (l.map .int))=we (l.map .int)+1:=rfl
 have:=a.units
 refine(h2 ..).symm▸(nA ..).symm▸ ?_
 exact Wx this
noncomputable abbrev Ls(cs:aa Int)(l1:ia)(mt:MO)(l2 a1 a2:ia)(F E0:aa P2)(Δr:aa (ia×MO)):aa (ia×MO):=(l1,mt)::(l2,.list ((pJ cs E0).map bz))::(a1,.list (ku cs F))::(a2,.list ((cW cs F).map bz))::Δr
theorem Fx(ac:Ac A 12)(G:aW w aG d0 B.s0.heap)(hn:cs.length≤7){j:Nat}(hj:j≤cs.length){F E0:aa P2}(hF:mS cs F)(O4:F.length≤100)(hEl:E0.length≤100){l1 l2 a1 a2:ia}{mt:MO}{dc df dr dh:D}
  (S:Sc B (aA dV L) (GT w cs (.known (HL l1)) (.known (HL l2)) dc (.val (.ref a1)) (.val (.ref a2)) .un (.int j) (gC cs j) df dr dh) (Ls cs l1 mt l2 a1 a2 F E0 Δr) s)
  (h:∀s',Sc B (aA dV L) (GT w cs (.known (HL l1)) (.known (HL l2)) dc (.val (.ref a1)) (.val (.ref a2)) .un (.int j) (gC cs j) df dr dh) (Ls cs l1 mt l2 a1 a2 (b8 cs j F (starts cs j)) (E0++(starts cs j).map λi=>(i,j)) Δr) s'→Ex w A (aA dV L) rest Q E s'):
  Ex w A (aA dV L) (f19::rest) Q E s:=by
 have hL:B.s0.heap.objs.size≤L:=S.lf
 have sl:=gX (cs:=cs) j
 have hz:((starts cs j).map λ(i:Nat)=>Xb (i:Nat)).length≤Bb:=by rw[Qa,sizeLine_eq];exact DV hn hj sl
 refine iJ ac.hh S (ao.name zx) (.list _ hz) (λt=>GT w cs (.known (HL l1)) (.known (HL l2)) dc (.val (.ref a1)) (.val (.ref a2)) .un (.int j) (gC cs j) df dr dh) (λt d=>GT w cs (.known (HL l1)) (.known (HL l2)) dc (.val (.ref a1)) (.val (.ref a2)) (.dat d) (.int j) (gC cs j) df dr dh)
  (λt=>Ls cs l1 mt l2 a1 a2 (b8 cs j F ((starts cs j).take t)) (E0++((starts cs j).take t).map λi=>(i,j)) Δr)
  (λB s S=>by
   show Sc _ _ _ (Ls cs l1 mt l2 a1 a2 (b8 cs j F ((starts cs j).take 0)) (E0++((starts cs j).take 0).map λi=>(i,j)) Δr) s
   simpa[b8]using S) (λt=>rfl) (λt d hd B' Δ' hB=>bY.name qo (keep (hB▸hL))) (λB' R t d I m s2 E' hB hd S2 YN=> ?_) (λs2 S2=> ?_)
 ·rw[Ab]at hd
  obtain⟨i,hi,rfl⟩:=fc.mp hd
  have hi':i∈starts cs j:=Ff hi
  have pF:=(bZ hi').1
  have vP:kY cs (i,j):=⟨pF,hj⟩
  have Pr:=lO (cs:=cs) (j:=j) ((starts cs j).take t) F
  rw[uf]at Pr
  have eF:=mX (cs:=cs) (j:=j) (F:=F) hi
  have eE:E0++((starts cs j).take (t+1)).map (λi=>(i,j))=(E0++((starts cs j).take t).map λi=>(i,j))++[(i,j)]:=by
   rw[Me,hi];simp
  have eP:∀E1:aa P2,(pJ cs (E1++[(i,j)])).map bz=(pJ cs E1++[(nS cs (i,j),sN i)]).map bz:=λE1=>by unfold pJ;simp
  have G2:aW w aG d0 B'.s0.heap:=hB▸G
  have fin:∀s' F' E1,F'=b8 cs j F ((starts cs j).take (t+1))→E1=(E0++((starts cs j).take t).map λi=>(i,j))→Sc B' (aA dV L) (GT w cs (.known (HL l1)) (.known (HL l2)) dc (.val (.ref a1)) (.val (.ref a2)) .un (.int j) (gC cs j) df dr dh) ((I,m)::Ls cs l1 mt l2 a1 a2 F' (E1++[(i,j)]) Δr) s'→R .next s':=λs' F' E1 e1 e2 S'=>YN _ (by
   rw[eE,←e1,←e2];exact S')
  clear YN
  obtain⟨E1,hE1⟩:∃E1,E1=(E0++((starts cs j).take t).map λi=>(i,j)):=⟨_,rfl⟩
  obtain⟨F1,hF1⟩:∃F1,F1=b8 cs j F ((starts cs j).take t):=⟨_,rfl⟩
  rw[←hF1]at Pr eF
  have aaJ:E1.length≤200:=by rw[hE1];simp;exact XJ hn hj hEl sl
  have S2:Sc B' (aA dV L) (GT w cs (.known (HL l1)) (.known (HL l2)) dc (.val (.ref a1)) (.val (.ref a2)) (.int i) (.int j) (gC cs j) df dr dh) ((I,m)::Ls cs l1 mt l2 a1 a2 F1 E1 Δr) s2:=by rw[hE1,hF1];exact S2
  refine cz S2 (kT.aak (rows:=pJ cs E1) (name:=nS cs (i,j)) (val:=sN i) (k:=5) (ac.weak (by exact Mb rfl)) G2 (ao.name m6) (ao.tG (p:=(i,j)) hn hj (ao.name m2) (ao.name kX) (ao.name mR)) (ao.str (ao.bG G2 (by kernel_rfl) (by kernel_rfl) rfl rfl (by kernel_rfl)) (ao.name kX) (by exact V6 hn hj pF)) (.there (.there .here)) (eK hn) (A4 (by exact V7 hn hj pF)) (vI hn _ _ (by exact Na aaJ (by decide)))) bL λs3 S3=> ?_
  refine eL S3 (b:= !F1.any (aM cs (i,j))) (TV.F3 (.same (.same (.same (.same (.same (.same (.same (.same (.tell (gJ.list (.tail _ (.tail _ (.tail _ (.head _))))) (.same (.same (.same (.same (.same (.same (.same .nil))))))))))))))))
   ((TV.FY ((ao.slice (ao.name m1) (.some (ao.name kX)) (.some (ao.name mR)) ?_).eU (kL cs i j)) (ao.name m8) (lR _) (vM cs F1) (ac.dep _ _)).cast (by rw[←LH];rfl))) (λhb s4 S4=> ?_) (λhb s4 S4=> ?_)
  ·rw[sizeLine_eq];unfold aJ;simp;exact Na hn (by decide)
  ·have ef:dK cs F1 (i,j)=F1++[(i,j)]:=by unfold dK;rw[if_neg (by simpa using hb)]
   refine cz S4 (kT.append (ds:=ku cs F1) (ao.name m8) ((ao.slice (ao.name m1) (.some (ao.name kX)) (.some (ao.name mR)) (by rw[sizeLine_eq];unfold aJ;simp;exact Na hn (by decide))).eU (kL cs i j)) (.there (.there (.there .here))) (by unfold ku;simp;exact Ny hn hj O4 sl Pr)) bL λs5 S5=> ?_
   refine cz S5 (kT.append (ds:=(cW cs F1).map bz) (d:=.tuple [.str (nS cs (i,j)),.str (sN j)]) (ao.name m9) (ao.tup (.cons (ao.ZF (p:=(i,j)) hn (ao.name m3) (ao.name kX) (ao.name mR)) (.cons (ao.str (ao.bG G2 (by kernel_rfl) (by kernel_rfl) rfl rfl (by kernel_rfl)) (ao.name mR) (by exact MM hn hj)) .nil)) (by rw[sizeLine_eq];simp)) (.there (.there (.there (.there .here)))) (by unfold cW;simp;exact Ny hn hj O4 sl Pr)) bL λs6 S6=> ?_
   refine aU (aU ?_)
   have e1:ku cs (F1++[(i,j)])=ku cs F1++[.list ((cB cs i j).map .int)]:=by unfold ku;simp;rfl
   have e2:(cW cs (F1++[(i,j)])).map bz=(cW cs F1).map bz++[.tuple [.str (nS cs (i,j)),.str (sN j)]]:=by unfold cW;simp;rfl
   refine fin s6 _ E1 (eF.trans ef).symm hE1 ?_
   unfold Ls
   refine(e1 ..).symm▸(e2 ..).symm▸(eP ..).symm▸ ?_
   exact S6.forget qo
  ·have ef:dK cs F1 (i,j)=F1:=by unfold dK;rw[if_pos (by simpa using hb)]
   refine aU (aU (fin s4 _ E1 (eF.trans ef).symm hE1 ?_))
   unfold Ls
   refine(eP ..).symm▸ ?_
   exact S4.forget qo
 ·rw[Qa,bf]at S2
  exact h s2 S2
structure FE(cs:aa Int)(F E:aa P2):Prop where
 nd:F.Pairwise λp q=>kS cs p≠kS cs q
 cov:∀q∈E,∃r∈F,kS cs r=kS cs q
 Cx:mS cs F
 QL:mS cs E
end
section
variable{cs:aa Int}{F E:aa P2}{p q:P2}
theorem FE.step(h:FE cs F E)(hp:kY cs p):FE cs (dK cs F p) (E++[p]):=by
 unfold dK
 by_cases e:F.any (aM cs p)=true
 ·rw[if_pos e]
  refine⟨h.nd,λq hq=> ?_,h.Cx,λq hq=> ?_⟩
  ·rcases zc.mp hq with hq|hq
   ·exact h.cov q hq
   ·refine(Vb.mp hq ..).symm▸ ?_
    refine bE (jg.mp e) λr hr er=> ?_
    exact⟨r,hr,by simpa[aM]using er⟩
  ·rcases zc.mp hq with hq|hq
   ·exact h.QL q hq
   ·rw[Vb.mp hq];exact hp
 ·rw[if_neg e]
  refine⟨aa.pairwise_append.mpr ⟨h.nd,aa.pairwise_singleton _ _,λa ha b hb=> ?_⟩,λq hq=> ?_,λq hq=> ?_,λq hq=> ?_⟩
  ·refine(Vb.mp hb ..).symm▸ ?_
   intro eq
   exact e (jg.mpr ⟨a,ha,by simpa[aM]using eq⟩)
  ·rcases zc.mp hq with hq|hq
   ·refine bE (h.cov q hq) λr hr er=> ?_
    exact⟨r,Qc _ hr,er⟩
   ·rw[Vb.mp hq];exact⟨p,by simp,rfl⟩
  ·rcases zc.mp hq with hq|hq
   ·exact h.Cx q hq
   ·rw[Vb.mp hq];exact hp
  ·rcases zc.mp hq with hq|hq
   ·exact h.QL q hq
   ·rw[Vb.mp hq];exact hp
theorem n5(E:aa P2)(p q:P2):bH cs (E++[p]) q=bH cs E q+if kS cs p=kS cs q then 1 else 0:=by
 unfold bH
 refine(aa.countP_append ..).symm▸(aa.countP_singleton ..).symm▸ ?_
 by_cases e:kS cs p=kS cs q<;> simp[aM,e]
theorem qW(hn:cs.length≤7)(hp:kY cs p)(f:P2→Int):∀{F:aa P2},mS cs F→aL (F.map λq=>(dF cs q,f q)) (dF cs p)=(F.find? (aM cs p)).map f
 |[],_=>rfl
 |q::F,h=>by
  have ih:=qW hn hp f λx hx=>h x (Wa q hx)
  unfold aL at ih⊢
  refine(Ib ..).symm▸(vf ..).symm▸(vf ..).symm▸ ?_
  have e:decide (dF cs q=dF cs p)=aM cs p q:=yf.mpr (fy hn (h q La) hp)
  simp only[e]
  cases aM cs p q with
  |true=>rfl
  |false=>exact ih
theorem BE(hn:cs.length≤7)(h:FE cs F E)(hp:kY cs p):cE (fQ cs F E) (dF cs p,1)=fQ cs (dK cs F p) (E++[p]):=by
 have lk:=qW hn hp (λq=>(bH cs E q:Int)) h.Cx
 have Rm:(fQ cs F E).any (λr=>decide (r.1=dF cs p))=F.any (aM cs p):=by
  unfold fQ
  refine(aa.any_map ..).symm▸ ?_
  have:∀G:aa P2,mS cs G→(G.any ((λr:Str×Int=>decide (r.1=dF cs p))∘λq=>(dF cs q,(bH cs E q:Int))))=G.any (aM cs p):=λG hG=>by
   induction G with
   |nil=>rfl
   |cons q G ih=>
    rw[Ni,Ni,ih λx hx=>hG x (Wa q hx)]
    congr 1
    exact yf.mpr (fy hn (hG q La) hp)
  exact this F h.Cx
 cases e:F.find? (aM cs p)with
 |some r=>
  have hr:=gj e
  have hrF:=Nh e
  have wX:F.any (aM cs p)=true:=by rw[fF,e];rfl
  have lk':aL (fQ cs F E) (dF cs p)=some (bH cs E r:Int):=by unfold fQ;rw[lk,e];rfl
  refine(ql lk' ..).symm▸ ?_
  unfold aQ dK
  rw[Rm,if_pos wX,if_pos wX]
  unfold fQ
  refine(Eb ..).symm▸ ?_
  refine Tf λq hq=> ?_
  show(if dF cs q=dF cs p then(dF cs q,(bH cs E r:Int)+1)else(dF cs q,(bH cs E q:Int)))=_
  refine(n5 ..).symm▸ ?_
  have hrk:kS cs r=kS cs p:=by simpa[aM]using hr
  by_cases hk:kS cs q=kS cs p
  ·rw[if_pos ((fy hn (h.Cx q hq) hp).mpr hk),if_pos hk.symm]
   have:bH cs E r=bH cs E q:=by unfold bH aM;rw[hrk,hk]
   rw[this];rfl
  ·rw[if_neg λx=>hk ((fy hn (h.Cx q hq) hp).mp x),if_neg λx=>hk x.symm];rfl
 |none=>
  have wX:¬F.any (aM cs p)=true:=by rw[fF,e];simp
  have lk':aL (fQ cs F E) (dF cs p)=none:=by unfold fQ;rw[lk,e];rfl
  refine(p9 lk' ..).symm▸ ?_
  unfold aQ dK
  rw[Rm,if_neg wX,if_neg wX]
  unfold fQ
  refine(Mc ..).symm▸ ?_
  have ne:∀q∈F,kS cs p≠kS cs q:=λq hq eq=>wX (jg.mpr ⟨q,hq,by simp[aM,eq]⟩)
  congr 1
  ·refine Tf λq hq=> ?_
   rw[n5,if_neg (ne q hq)];rfl
  ·have t0:bH cs E p=0:=by
    unfold bH
    rw[aa.countP_eq_zero]
    intro q hq eq
    refine bE (h.cov q hq) λr hr er=> ?_
    exact ne r hr (by rw[er];simpa[aM,eq_comm]using eq)
   show[(dF cs p,(1:Int))]=[(dF cs p,((bH cs (E++[p]) p:Nat):Int))]
   rw[n5,t0];simp
theorem putAll{l:mQ}(h:(l.map (·.1)).Nodup):l.foldl cN []=l:=by
 have key:∀(l acc:mQ),((acc++l).map (·.1)).Nodup→l.foldl cN acc=acc++l:=by
  intro l
  induction l with
  |nil=>intro acc _;simp
  |cons a l ih=>
   intro acc EU
   have Zx:¬acc.any (λp=>decide (p.1=a.1))=true:=λq=>by
    refine bE (jg.mp q) λb hb e=> ?_
    have e:b.1=a.1:=by simpa using e
    rw[Mc]at EU
    exact(Ze.mp EU).2.2 b.1 (jd (f:=(·.1)) hb) a.1 (by simp) e
   have:cN acc a=acc++[a]:=by unfold cN aQ;rw[if_neg Zx]
   rw[Qd,this,ih _ (by simpa using EU)]
   simp
 simpa using key l [] (by simpa using h)
theorem BQ(hn:cs.length≤7)(h:FE cs F E)(E':aa P2):((fQ cs F E').map (·.1)).Nodup:=by
 unfold fQ
 refine(Eb ..).symm▸ ?_
 refine aa.pairwise_map.mpr ((aa.Pairwise.and_mem.mp h.nd).imp ?_)
 rintro a b ⟨ha,hb,g9⟩ eq
 exact g9 ((fy hn (h.Cx a ha) (h.Cx b hb)).mp eq)
theorem jU(hn:cs.length≤7){j:Nat}(hj:j≤cs.length)(h:FE cs F E)(l:aa Nat)(hl:∀i∈l,i<j):
  eX (fQ cs F E) (l.map λi=>(dF cs (i,j),1))=fQ cs (b8 cs j F l) (E++l.map λi=>(i,j))∧FE cs (b8 cs j F l) (E++l.map λi=>(i,j)):=by
 unfold eX
 refine(putAll (BQ hn h E) ..).symm▸ ?_
 have key:∀(l:aa Nat) (F E:aa P2),FE cs F E→(∀i∈l,i<j)→(l.map λi=>(dF cs (i,j),(1:Int))).foldl cE (fQ cs F E)=fQ cs (b8 cs j F l) (E++l.map λi=>(i,j))∧FE cs (b8 cs j F l) (E++l.map λi=>(i,j)):=by
  intro l
  induction l with
  |nil=>intro F E h _;simp[b8];exact h
  |cons i l ih=>
   intro F E h hl
   have vP:kY cs (i,j):=⟨hl i La,hj⟩
   have:=ih (dK cs F (i,j)) (E++[(i,j)]) (h.step vP) λk hk=>hl k (Wa _ hk)
   rw[Ib,Qd,BE hn h vP,Ib,show E++(i,j)::l.map (λi=>(i,j))=E++[(i,j)]++l.map λi=>(i,j) by simp]
   exact this
 exact key l F E h hl
theorem FE0:FE cs [] []:=⟨.nil,(λz_ h=>nomatch h),(λz_ h=>nomatch h),(λz_ h=>nomatch h)⟩
theorem HT(hn:cs.length≤7):∀j,j≤cs.length→FE cs (FJ cs j) (EJ cs j)
 |0,_=>FE0
 |j+1,h=>(jU hn h (HT hn j (by exact Xc h)) (starts cs (j+1)) λi hi=>(bZ hi).1).2
theorem Es{F:aa P2}{f:P2→Ga}{r:P2}(h:F.find? f=some r):∃k:Nat,F[k]? =some r∧f r=true∧∀(m:Nat) a,m<k→F[m]? =some a→f a=false:=by
 obtain⟨hr,as,bs,rfl,qK⟩:=aa.find?_eq_some_iff_append.mp h
 refine⟨as.length,by simp,hr,λm a hm ha=> ?_⟩
 rw[Hh hm]at ha
 have:=qK a (Ff ha)
 simpa using this
theorem lu:∀(a b:aa Str),Jd (a.map .str) (b.map .str)=decide (a=b)
 |[],[]=>by simp[Jd]
 |[],b::bs=>by simp[Jd]
 |a::as,[]=>by simp[Jd]
 |a::as,b::bs=>by
  simp only[Ib,Jd,jc,lu as bs]
  by_cases h:a=b<;> by_cases g:as=bs<;> simp[h,g]
theorem zQ:∀(a:aa Str),(∀x∈a,Nm x)→Xe (a.map .str)=true∧we (a.map .str)=0
 |[],_=>⟨rfl,rfl⟩
 |x::a,h=>by
  have ih:=zQ a λy hy=>h y (Wa _ hy)
  refine⟨?_,?_⟩
  ·show(yd (.str x) &&Xe (a.map .str))=true
   rw[(h x La).lay,ih.1];rfl
  ·show max (Qf (.str x)) (we (a.map .str))=0
   rw[ih.2];rfl
theorem vq{a:aa Str}(h:∀x∈a,Nm x):shaped (.list (a.map .str))=true:=by
 have:=zQ a h
 unfold shaped
 have h1:yd (.list (a.map .str))=true:=this.1
 have h2:Qf (.list (a.map .str))=we (a.map .str)+1:=rfl
 rw[h1,h2,this.2];rfl
theorem foldStore{K α:Type}[Ec K](key:α→K)(v:PyData)(l:aa α):∀(D:aa (K×PyData)),(D.map (·.1)++l.map key).Nodup→l.foldl (λD d=>aQ D (key d) v) D=D++l.map λd=>(key d,v):=by
 induction l with
 |nil=>intro D _;simp
 |cons a l ih=>
  intro D h
  have Zx:¬D.any (λp=>decide (p.1=key a))=true:=λq=>by
   refine bE (jg.mp q) λb hb e=> ?_
   have e:b.1=key a:=by simpa using e
   exact(Ze.mp h).2.2 b.1 (jd (f:=(·.1)) hb) (key a) (by simp) e
  have:aQ D (key a) v=D++[(key a,v)]:=by unfold aQ;rw[if_neg Zx]
  rw[Qd,this,ih _ (by simpa using h)]
  simp
theorem ZU{cs:aa Int}{F:aa P2}{p:P2}(hF:mS cs F)(hp:p.2≤cs.length):(fst cs F p).2≤cs.length:=by
 unfold fst
 cases e:F.find? (aM cs p)with
 |none=>exact hp
 |some r=>exact(hF r (Nh e)).2
theorem DF{cs:aa Int}{j:Nat}{F:aa P2}{l:aa Nat}{i:Nat}(h:i∈l):(b8 cs j F l).find? (aM cs (i,j))=some (fst cs (b8 cs j F l) (i,j)):=by
 refine xE (aa.mem_iff_getElem?.mp h) λt ht=> ?_
 have e:=nG (j:=j) (l.drop (t+1)) _ _ _ (sZ (cs:=cs) (b8 cs j F (l.take t)) (i,j))
 rw[←p8 ht]at e
 conv =>rhs;unfold fst
 rw[e];rfl
theorem zw{cs:aa Int}(hn:cs.length≤7){j:Nat}(hj:j≤cs.length):((starts cs j).map λi=>dF cs (i,j)).Nodup:=by
 refine aa.pairwise_map.mpr ?_
 have nd:(starts cs j).Nodup:=(aa.nodup_range).filter _
 refine(aa.Pairwise.and_mem.mp nd).imp ?_
 rintro a b ⟨ha,hb,g9⟩ eq
 have ka:=fK cs a j hj
 have kb:=fK cs b j hj
 have h1:=(bZ ha).1
 have h2:=(bZ hb).1
 have:=(fy hn (p:=(a,j)) (q:=(b,j)) ⟨h1,hj⟩ ⟨h2,hj⟩).mp eq
 have e:cB cs a j=cB cs b j:=this
 rw[e]at ka
 exact g9 (by exact W7 ka kb h2)
end
section
variable{w:Oa}{A:Xa}{B:Bx}{s:za}{L:ia}{dV:qa}{Γ Γ':aa (Str×D)}{Δ Δ' Δr:aa (ia×MO)}{aG:ia→qa}{d0:qa}{cs:aa Int}{Q:Flow→za→Prop}{E:qa→za→Prop}{rest:aa Va}
theorem J3{pos}(G:aW w aG d0 B.s0.heap):ao w A B (aA dV L) Γ Δ (.Name (ya "add_callers") pos) (.val (.ref 298)):=ao.glob G (by kernel_rfl) rfl (by kernel_rfl)
theorem Fy(ac:Ac A 12)(G:aW w aG d0 B.s0.heap)(hn:cs.length≤7){j:Nat}(hj:j≤cs.length){F F0 E0:aa P2}(hF:mS cs F)(hFe:F=b8 cs j F0 (starts cs j))(Jr:FE cs F0 E0)(O4:F.length≤100)(hl0:F0.length≤100){a1 a2:ia}{dt dp dr dh:D}(ha1:(a1,MO.list (ku cs F))∈Δ)(ha2:(a2,MO.list ((cW cs F).map bz))∈Δ)
  (S:Sc B (aA dV L) (GT w cs dt dp (.known (fE w (fQ cs F0 E0))) (.val (.ref a1)) (.val (.ref a2)) .un (.int j) (gC cs j) (firstsD cs j F) dr dh) Δ s)
  (h:∀s',Sc B (aA dV L) (GT w cs dt dp (.known (fE w (fQ cs F (E0++(starts cs j).map λi=>(i,j))))) (.val (.ref a1)) (.val (.ref a2)) .un .un .un .un dr dh) Δ s'→Ex w A (aA dV L) rest Q E s'):
  Ex w A (aA dV L) (aC (fb (lb 19)) 3::aC (fb (lb 19)) 4::rest) Q E s:=by
 have hL:B.s0.heap.objs.size≤L:=S.lf
 have sl:=gX (cs:=cs) j
 have hz:((starts cs j).map λ(i:Nat)=>Xb (i:Nat)).length≤Bb:=by rw[Qa,sizeLine_eq];exact DV hn hj sl
 have nmF:∀x∈(starts cs j).map λi=>sN (fst cs F (i,j)).2,Nm x:=λx hx=>by
  obtain⟨i,hi,rfl⟩:=Ra.mp hx
  have:=ZU (p:=(i,j)) hF hj
  exact A4 (by exact Na this (Na hn (by decide)))
 refine cS S ((TV.F3 (.same (.same (.same (.same (.same (.same (.same (.same (.tell (gJ.list ha1) (.tell (gJ.list ha2) (.same (.same (.same (.same (.same (.same .nil))))))))))))))))
  (TV.ne ((ao.name FN).eU (b:=((starts cs j).map λi=>sN (fst cs F (i,j)).2).map .str) (by rw[Eb];rfl)) ((LC.kP (l:=starts cs j) (φ:=λi:Nat=>.int (i:Nat)) (g:=λi:Nat=>.str (sN (fst cs F (i,j)).2)) ac.hh (ao.name zx) (.list _ hz) bS (.cons m1 (.cons m8 (.cons m9 (.cons mR .nil)))) (λi hi B' Δ' C u p q=> ?_)).ev.eU (b:=((starts cs j).map λi=>sN (fst cs F (i,j)).2).map .str) (by rw[Eb];rfl)) (vq nmF) (vq nmF) ac.eq)).cast (b:=false) ?_) rfl λs1 S1=> ?_
 ·have pF:=(bZ hi).1
  have hf:F.find? (aM cs (i,j))=some (fst cs F (i,j)):=by rw[hFe];exact DF hi
  refine mO (Es hf) λk hk HH zm=> ?_
  have ES:=(ud.mp hk).1
  refine ao.x9 (ds:=[.str (nS cs (fst cs F (i,j))),.str (sN (fst cs F (i,j)).2)]) (ao.item (i:=(k:Nat)) (ao.name m3) (ao.PV (j:=k) (ao.name m2) ((ao.slice (ao.name m1) (.some (ao.name m0)) (.some (ao.name m4)) (by rw[sizeLine_eq];unfold aJ;simp;exact Na hn (by decide))).eU (kL cs i j)) (lR _) (vM cs F) (ac.dep _ _) ⟨.list ((kS cs (fst cs F (i,j))).map .int),?_,?_⟩ (λm a hm ha=> ?_) (by unfold ku;rw[Qa,sizeLine_eq];exact Na O4 (by decide))) (by exact Fb _) (by exact DR O4 ES) ?_) .bA (by decide) (by decide) rfl
  ·unfold ku;rw[Ab,hk];rfl
  ·rw[lY];exact HH
  ·unfold ku at ha
   rw[Ab]at ha
   obtain⟨q,hq,rfl⟩:=fc.mp ha
   rw[lY];exact zm m q hm hq
  ·refine(Fg ..).symm▸ ?_
   unfold cW
   rw[Eb,Ab,hk];rfl
 ·show(!Jd _ _)=false
  rw[lu];simp
 have acn:=(jU hn hj Jr (starts cs j) λi hi=>(bZ hi).1).1
 rw[←hFe]at acn
 have aaY:(fQ cs F0 E0).length=F0.length:=by unfold fQ;simp
 refine aI S1 ((ao.eX (k:=5) (t:=fQ cs F0 E0) (c:=(starts cs j).map λi=>(dF cs (i,j),1)) (ac.weak (by exact Mb rfl)) G (J3 G) (ao.name m7) ((ao.YF (enc:=ie) (l:=starts cs j) (φ:=λi:Nat=>.int (i:Nat)) (key:=λi=>dF cs (i,j)) (val:=λz_=>.int 1) qQ G ac.hh (ao.name zx) (.list _ hz) bS (.cons m2 (.cons mR .nil)) (λi hi B' Δ' C u q=> ?_) (λi hi B' Δ' C u q=>.bA)).cast ?_) (by rw[aaY,Qa];exact Xu hn hj hl0 sl)).cast (by rw[acn])) IA (keep hL) λs2 S2=>h s2 (((S2.forget rZ).forget pq).forget v9)
 ·exact ao.lower (ao.tG (p:=(i,j)) hn hj (ao.name m1) (ao.name m0) (ao.name m2)) (eK hn).lower.short
 ·rw[foldStore (λi=>dF cs (i,j)) (.int 1) (starts cs j) [] (by simpa using zw hn hj)]
  unfold fE g6 jz
  rw[Eb];rfl
theorem l19:fb (lb 19)=[aC (fb (lb 19)) 0,aC (fb (lb 19)) 1,f19,aC (fb (lb 19)) 3,aC (fb (lb 19)) 4]:=by kernel_rfl
theorem fJ{cs:aa Int}{j:Nat}(hn:cs.length≤7)(hj:j≤cs.length):(FJ cs j).length≤49∧(EJ cs j).length≤49:=by
 have h1:=Dt (cs:=cs) j
 have h2:=Dr (cs:=cs) j
 have:=Nat.mul_le_mul (show j≤7 by exact Na hj hn) (show j≤7 by exact Na hj hn)
 exact V8 h1 h2 this
noncomputable abbrev wC(w:Oa)(cs:aa Int)(j:Nat):D:=.known (fE w (fQ cs (FJ cs j) (EJ cs j)))
theorem JT(ac:Ac A 12)(G:aW w aG d0 B.s0.heap)(hn:cs.length≤7){l1 l2 a1 a2:ia}{dr dh:D}
  (S:Sc B (aA dV L) (GT w cs (.known (HL l1)) (.known (HL l2)) (.known (fE w [])) (.val (.ref a1)) (.val (.ref a2)) .un .un .un .un dr dh) ((l1,.list [])::(l2,.list [])::(a1,.list [])::(a2,.list [])::Δr) s)
  (h:∀s',Sc B (aA dV L) (GT w cs (.known (HP (cW cs (FJ cs cs.length)))) (.known (HP (pJ cs (EJ cs cs.length)))) (wC w cs cs.length) .un (.list ((cW cs (FJ cs cs.length)).map bz)) .un .un .un .un dr dh) Δr s'→Ex w A (aA dV L) rest Q E s'):
  Ex w A (aA dV L) (lb 19::rest) Q E s:=by
 have hL:B.s0.heap.objs.size≤L:=S.lf
 have c1:(cs.length:Int)+1=((cs.length+1:Nat):Int):=by rfl
 refine iJ (items:=(Sa (cs.length+1-1)).map λk:Nat=>.int ((1+k:Nat):Int)) ac.hh S (ao.jE (bC G) .bA ((ao.add (ao.name m0) .bA).bO c1)) (j5 1 (cs.length+1) (by exact Ae _) (by exact Fc hn (by decide)))
  (λt=>GT w cs (.known (HL l1)) (.known (HL l2)) (wC w cs t) (.val (.ref a1)) (.val (.ref a2)) .un .un .un .un dr dh) (λt d=>GT w cs (.known (HL l1)) (.known (HL l2)) (wC w cs t) (.val (.ref a1)) (.val (.ref a2)) .un (.dat d) .un .un dr dh)
  (λt=>Ls cs l1 (.list ((cW cs (FJ cs t)).map bz)) l2 a1 a2 (FJ cs t) (EJ cs t) Δr)
  (λB s S=>S) (λt=>rfl) (λt d hd B' Δ' hB=>bY.name rZ (keep (hB▸hL))) (λB' R t d I m s2 E' hB hd S2 fin=> ?_) (λs2 S2=> ?_)
 ·rw[Ab]at hd
  obtain⟨t',ht,rfl⟩:=fc.mp hd
  obtain⟨Dl,rfl⟩:=ud.mp ht
  rw[Og,Sh 1 t]at S2
  simp only[qd]at Dl
  obtain⟨z1,z2⟩:=fJ (cs:=cs) (j:=t) hn (by exact Xc Dl)
  obtain⟨z3,z4⟩:=fJ (cs:=cs) (j:=t+1) hn (by exact Dl)
  have Jr:=HT hn t (by exact Xc Dl)
  have hj:t+1≤cs.length:=by exact Dl
  have S3:=S2.perm (aa.perm_middle (l₁:=[(l1,MO.list ((cW cs (FJ cs t)).map bz)),(l2,.list ((pJ cs (EJ cs t)).map bz)),(a1,.list (ku cs (FJ cs t))),(a2,.list ((cW cs (FJ cs t)).map bz))]) (l₂:=Δr) (a:=(I,m))).symm
  have G2:aW w aG d0 B'.s0.heap:=hB▸G
  refine Ex.of l19 ?_
  refine Fw ac G2 hn hj Jr.Cx (by exact Na z1 (by decide)) S3 λs4 S4=>Fx ac G2 hn hj Jr.Cx (by exact Na z1 (by decide)) (by exact Na z2 (by decide)) S4 λs5 S5=>Fy ac G2 hn hj (vV (t+1) hj) rfl Jr (by exact Na z3 (by decide)) (by exact Na z1 (by decide)) (.tail _ (.tail _ (.head _))) (.tail _ (.tail _ (.tail _ (.head _)))) S5 λs6 S6=>aU (fin _ ?_)
  exact S6.perm (aa.perm_middle (l₁:=[(l1,MO.list ((cW cs (FJ cs (t+1))).map bz)),(l2,.list ((pJ cs (EJ cs (t+1))).map bz)),(a1,.list (ku cs (FJ cs (t+1)))),(a2,.list ((cW cs (FJ cs (t+1))).map bz))]) (l₂:=Δr) (a:=(I,m)))
 ·rw[Qa,qd,show cs.length+1-1=cs.length by rfl]at S2
  have S3:=Sc.F3 (Δl:=[(l1,MO.list ((cW cs (FJ cs cs.length)).map bz)),(l2,.list ((pJ cs (EJ cs cs.length)).map bz)),(a1,.list (ku cs (FJ cs cs.length))),(a2,.list ((cW cs (FJ cs cs.length)).map bz))]) (Δr:=Δr) S2
   (.same (.same (.same (.same (.same (.tell (gJ.head (.head _)) (.tell (gJ.head (.tail _ (.head _))) (.same (.same (.tell (gJ.list (.tail _ (.tail _ (.tail _ (.head _))))) (.same (.same (.same (.same (.same (.same .nil))))))))))))))))
  exact h s2 (S3.forget Hy)
theorem xF{x:Str}(h:Nm x):Jb (Txt.upper x)=Jb x:=by
 have e:∀c,c<127→32≤c→lo1 (up1 c)=lo1 c:=by decide
 rw[h.upper.jy,h.Bq,h.jy]
 congr 1
 rw[Ua.map_map]
 apply oh
 rw[Ag,Ag]
 refine Tf λc hc=> ?_
 have:=h.ok c hc
 exact e c this.2 this.1
noncomputable def AN(cs:aa Int)(E:aa P2)(p:P2):aa P2:=E.filter (aM cs p)
noncomputable def b7(cs:aa Int)(E:aa P2)(p:P2):aa Nat:=(AN cs E p).map (·.1)
theorem yW{cs:aa Int}{E:aa P2}{p:P2}(hn:cs.length≤7)(h:mS cs E)(hp:kY cs p):l6 (pJ cs E) (Txt.upper (nS cs p))=(b7 cs E p).map sN:=by
 unfold l6 pJ b7 AN
 rw[xF (eK hn)]
 induction E with
 |nil=>rfl
 |cons q E ih=>
  have ih:=ih λx hx=>h x (Wa q hx)
  rw[Ib,Uh,Uh,AO hn (h q La) hp]
  cases aM cs p q with
  |true=>simp only[if_true];rw[Ib,ih];rfl
  |false=>simpa using ih
theorem CN(cs:aa Int)(E:aa P2)(p:P2):(b7 cs E p).length=bH cs E p:=by
 unfold b7 AN bH
 rw[Qa,aa.countP_eq_length_filter]
noncomputable def Gp(cs:aa Int)(l:aa Nat)(r:Nat):Ga:=(Sa (l.length-1)).all λt=>dB cs (l.getD t 0) (l.getD (t+1) 0+r)
noncomputable def sE(cs:aa Int)(E:aa P2)(F:aa P2):Ga:=F.all λp=>Gp cs (b7 cs E p) (p.2-p.1)
theorem K8{cs:aa Int}{E:aa P2}{p:P2}(h:mS cs E)(hp:kY cs p){t:Nat}(ht:t<(b7 cs E p).length):(b7 cs E p).getD t 0<cs.length∧(b7 cs E p).getD t 0+(p.2-p.1)≤cs.length:=by
 refine(Lb ..).symm▸(Wb ht ..).symm▸(Nf ..).symm▸ ?_
 have hm:(b7 cs E p)[t]∈b7 cs E p:=Dg ht
 refine bE (Ra.mp hm) λq hq e=> ?_
 refine xA (Xd.mp hq) λhqE hk=> ?_
 have okq:=h q hqE
 have hk:kS cs q=kS cs p:=by simpa[aM]using hk
 have l1:=fK cs q.1 q.2 okq.2
 have l2:=fK cs p.1 p.2 hp.2
 have:(kS cs q).length=(kS cs p).length:=by rw[hk]
 unfold kS at this
 have h1:=okq.1;have h2:=okq.2;have h3:=hp.1
 exact X3 e l1 l2 this h2 h3
theorem vX{cs:aa Int}{j:Nat}:∀{l:aa Nat} {F:aa P2} {p:P2},p∈b8 cs j F l→p∈F∨∃i∈l,p=(i,j)
 |[],F,p,h=>.inl h
 |i::l,F,p,h=>by
  rcases vX (l:=l) (F:=dK cs F (i,j)) h with h|⟨k,hk,e⟩
  ·unfold dK at h
   split at h
   ·exact .inl h
   ·rcases zc.mp h with h|h
    ·exact .inl h
    ·exact .inr ⟨i,La,Vb.mp h⟩
  ·exact .inr ⟨k,Wa _ hk,e⟩
theorem Du{cs:aa Int}:∀{j:Nat} {p:P2},p∈FJ cs j→p∈EJ cs j
 |0,p,h=>nomatch h
 |j+1,p,h=>by
  rcases vX h with h|⟨i,hi,rfl⟩
  ·exact Qc _ (Du h)
  ·exact Nc _ (Ra.mpr ⟨i,hi,rfl⟩)
theorem YU(l:aa Nat){i:Nat}(h:i<l.length):(l.map λ(k:Nat)=>Xb (k:Nat))[i]? =some (.int (l.getD i 0:Nat)):=by
 rw[Ab,Wb h,Lb,Wb h];rfl
theorem ZV{cs:aa Int}(hn:cs.length≤7){E:aa P2}(h:mS cs E)(p:P2):∀k∈b7 cs E p,k≤9:=λk hk=>by
 obtain⟨q,hq,rfl⟩:=Ra.mp hk
 have:=h q (Xd.mp hq).1
 have h1:=this.1;have h2:=this.2
 exact Wl hn h1 h2
noncomputable abbrev f21:Va:=aC (fb (lb 21)) 2
theorem l21:fb (lb 21)=[aC (fb (lb 21)) 0,aC (fb (lb 21)) 1,f21]:=by kernel_rfl
noncomputable abbrev g5(cs:aa Int):Rows:=cW cs (FJ cs cs.length)
noncomputable abbrev P8(cs:aa Int):Rows:=pJ cs (EJ cs cs.length)
noncomputable abbrev GR(w:Oa)(cs:aa Int)(dr dh nB AB dnm dsp drc dt di dj df drr dw ds:D):aa (Str×D):=[(nm "size",.int cs.length),(nm "lines",cK (linesOf cs)),(nm "even",evD cs),(nm "table",.known (HP (g5 cs))),(nm "places",.known (HP (P8 cs))),(nm "counts",wC w cs cs.length),(nm "names",.list ((g5 cs).map bz)),
 (nm "pairs",dr),(nm "heard",dh),(nm "returned",nB),(nm "unique",AB),(nm "name",dnm),(nm "spots",dsp),(nm "reach",drc),(nm "t",dt),(nm "i",di),(nm "j",dj),(nm "front",df),(nm "rear",drr),(nm "whole",dw),(nm "stored",ds)]
theorem AV{cs:aa Int}(hn:cs.length≤7):cP (g5 cs):=vI hn _ _ (by have:=(fJ (cs:=cs) hn (zb _)).1;exact Na this (by decide))
theorem ZW{cs:aa Int}(hn:cs.length≤7):cP (P8 cs):=vI hn _ _ (by have:=(fJ (cs:=cs) hn (zb _)).2;exact Na this (by decide))
theorem JU(ac:Ac A 12){dr dh:D}
  (S:Sc B (aA dV L) (GT w cs (.known (HP (g5 cs))) (.known (HP (P8 cs))) (wC w cs cs.length) .un (.list ((g5 cs).map bz)) .un .un .un .un dr dh) Δ s)
  (h:∀s',Sc B (aA dV L) (GR w cs dr dh (.bool true) (.bool true) .un .un .un .un .un .un .un .un .un .un) Δ s'→Ex w A (aA dV L) rest Q E s'):
  Ex w A (aA dV L) (lb 20::rest) Q E s:=by
 have hL:B.s0.heap.objs.size≤L:=S.lf
 have S0:Sc B (aA dV L) (GR w cs dr dh .un .un .un .un .un .un .un .un .un .un .un .un) Δ s:=S.Eo (.cons m0 (.cons m2 (.cons m4 (.cons m5 (.cons m6 (.cons m7 (.cons m9 (.cons N8 (.cons FO (.un (.un (.un (.un (.un (.un (.un (.un (.un (.un (.un (.un .nil)))))))))))))))))))))
 exact rK ac.hh S0 (ao.tup (.cons .jY (.cons .jY .nil)) (by rw[sizeLine_eq];simp)) (.cons (bY.name Hz (keep hL)) (.cons (bY.name qo (keep hL)) .nil)) h (hw:=by kernel_rfl)
theorem JK(ac:Ac A 12)(G:aW w aG d0 B.s0.heap)(hn:cs.length≤7){p:P2}(hp:p∈FJ cs cs.length){r0:Ga}{dr dh AB:D}
  (S:Sc B (aA dV L) (GR w cs dr dh (.bool r0) AB (.str (nS cs p)) .un .un .un .un .un .un .un .un .un) Δ s)
  (h:∀s',Sc B (aA dV L) (GR w cs dr dh (.bool (r0&&Gp cs (b7 cs (EJ cs cs.length) p) (p.2-p.1))) AB (.str (nS cs p)) .un .un .un .un .un .un .un .un .un) Δ s'→Ex w A (aA dV L) rest Q E s'):
  Ex w A (aA dV L) (aC (fb (lb 21)) 0::aC (fb (lb 21)) 1::f21::rest) Q E s:=by
 have hL:B.s0.heap.objs.size≤L:=S.lf
 have QL:=LO (cs:=cs) cs.length (zb _)
 have vP:=vV (cs:=cs) cs.length (zb _) p hp
 have zE:=(fJ (cs:=cs) hn (zb _)).2
 have n9:=ZV hn QL p
 have Pz:(b7 cs (EJ cs cs.length) p).length≤49:=by
  unfold b7 AN
  rw[Qa]
  exact Na (Gk _ _) zE
 have tl:=CN cs (EJ cs cs.length) p
 have sa:=λt ht=>K8 QL vP (t:=t) ht
 generalize hl:b7 cs (EJ cs cs.length) p=l at Pz n9 tl sa h
 refine xA (GS vP) λsp1 sp2=> ?_
 have h1:=vP.1;have h2:=vP.2
 have ns:=nR (p:=p) hn
 refine vF (names:=[nm "spots",nm "reach"]) ac.hh S (ao.tup (.cons (LC.cast (bs:=l.map λ(k:Nat)=>.int (k:Nat)) (LC.kP (l:=l) (φ:=λk:Nat=>.str (sN k)) (g:=λk:Nat=>.int (k:Nat)) ac.hh ((ao.Jt (k:=5) (name:=Txt.upper (nS cs p)) (ac.weak (by exact Mb rfl)) G (ao.name m4) (ao.upper (ao.name mR) (eK hn).upper.short) (eK hn).upper (ZW hn)).eU (b:=l.map λk=>.str (sN k)) ?_) (.list _ (by rw[Qa,sizeLine_eq];exact Na Pz (by decide))) bS .nil (λk hk B' Δ' C u p q=> ?_)) rfl).ev
  (.cons ((ao.len (ao.bG G (by kernel_rfl) (by kernel_rfl) rfl rfl (by kernel_rfl)) (ao.split (b:=ya "/") (ao.name mR) ao.gu (by decide+kernel) (by show(nS cs p).cps.size≤_;rw[sizeLine_eq];exact Na ns (by decide)) (by rw[sp2,sizeLine_eq];exact M5 hn h2)) (by rw[Qa,sp1,sizeLine_eq];exact M5 hn h2)).bO (b:=((p.2-p.1:Nat):Int)) (by rw[Qa,sp1])) .nil)) (by rw[sizeLine_eq];simp)) rfl (.cons v9 (keep hL) (.cons pq (keep hL) .nil)) (λs1 S1=> ?_) (by kernel_rfl)
 ·have e:=yW hn QL vP
  rw[e,hl,Eb];rfl
 ·exact ao.int (n:=(k:Nat)) (ao.bG (G.keeps u) (by kernel_rfl) (by kernel_rfl) rfl rfl (by kernel_rfl)) (ao.name m0) (by exact Fb _) (by have:=n9 k hk;exact pe.mpr (Fc this (by decide)))
 refine cS S1 ((TV.ne ((ao.len (ao.bG G (by kernel_rfl) (by kernel_rfl) rfl rfl (by kernel_rfl)) (ao.name zx) (by rw[Qa,sizeLine_eq];exact Na Pz (by decide))).bO (b:=(bH cs (EJ cs cs.length) p:Nat)) (by rw[Qa,tl])) (ao.D8 (enc:=ie) (x:=dF cs p) (d:=.int (bH cs (EJ cs cs.length) p:Nat)) qQ (ao.dk (ao.name m5)) (ao.lower (ao.name mR) (eK hn).lower.short) ?_) rfl rfl ac.eq).cast (b:=false) (by simp[jc])) rfl λs2 S2=> ?_
 ·unfold g6
  rw[dQ]
  unfold fQ
  rw[qW hn vP (λq=>(bH cs (EJ cs cs.length) q:Int)) (vV cs.length (zb _))]
  have Jr:=HT (cs:=cs) hn cs.length (zb _)
  cases e:(FJ cs cs.length).find? (aM cs p)with
  |none=>exact absurd (gU cs p) (by simpa using Kg.mp e p hp)
  |some r=>
   have hr:kS cs r=kS cs p:=by simpa[aM]using gj e
   have:bH cs (EJ cs cs.length) r=bH cs (EJ cs cs.length) p:=by unfold bH aM;rw[hr]
   rw[Ma.map_some,Ma.map_some,this]
 have c1:((l.map λ(k:Nat)=>Xb (k:Nat)).length:Int)=((l.length:Nat):Int):=by rw[Qa]
 have zo:1≤l.length:=by
  refine(tl ..).symm▸ ?_
  unfold bH
  exact aa.countP_pos_iff.mpr ⟨p,Du hp,gU cs p⟩
 have c1:((l.map λ(k:Nat)=>Xb (k:Nat)).length:Int)=((l.length:Nat):Int):=by rw[Qa]
 refine iJ (items:=(Sa (l.length-1)).map λk:Nat=>.int ((1+k:Nat):Int)) ac.hh S2 (ao.jE (bC G) .bA ((ao.len (ao.bG G (by kernel_rfl) (by kernel_rfl) rfl rfl (by kernel_rfl)) (ao.name zx) (by rw[Qa,sizeLine_eq];exact Na Pz (by decide))).bO c1)) (j5 1 l.length zo (by exact Na Pz (by decide)))
  (λu=>GR w cs dr dh (.bool (r0&&(Sa u).all λt=>dB cs (l.getD t 0) (l.getD (t+1) 0+(p.2-p.1)))) AB (.str (nS cs p)) (.list (l.map λ(k:Nat)=>.int (k:Nat))) (.int (p.2-p.1:Nat)) .un .un .un .un .un .un .un)
  (λu d=>GR w cs dr dh (.bool (r0&&(Sa u).all λt=>dB cs (l.getD t 0) (l.getD (t+1) 0+(p.2-p.1)))) AB (.str (nS cs p)) (.list (l.map λ(k:Nat)=>.int (k:Nat))) (.int (p.2-p.1:Nat)) (.dat d) .un .un .un .un .un .un)
  (λz_=>Δ) (λB s S=>by simpa using S) (λz_=>rfl) (λu d hd B' Δ' hB=>bY.name DX (keep (hB▸hL))) (λB' R u d I m s3 E' hB hd S3 fin=> ?_) (λs3 S3=> ?_)
 ·rw[Ab]at hd
  obtain⟨u',hu,rfl⟩:=fc.mp hd
  obtain⟨w6,rfl⟩:=ud.mp hu
  rw[Og]at S3
  simp only[qd]at w6
  have e1:((1+u:Nat):Int) -1=(u:Int):=by exact SD
  have a1:=sa u (by exact Nat.lt_of_lt_pred w6)
  have a2:=sa (u+1) (by exact Nat.add_lt_of_lt_sub w6)
  refine aI S3 (d:=.bool (r0&&(Sa (u+1)).all λt=>dB cs (l.getD t 0) (l.getD (t+1) 0+(p.2-p.1)))) ((ao.and (c:=dB cs (l.getD u 0) (l.getD (u+1) 0+(p.2-p.1))) (ao.name m9) (λz_=>ao.item (ao.item (i:=(l.getD u 0:Nat)) (ao.name m2) (ao.item (i:=(u:Int)) (ao.name zx) ((ao.sub (ao.name N8) .bA).bO e1) (by exact Fb _) (by exact UH Pz w6) (YU l (by exact Nat.lt_of_lt_pred w6))) (by exact Fb _) (by exact WM hn a1) (pO _ (by exact Wy a1))) (ao.add (ao.item (ao.name zx) (ao.name N8) (by exact Fb _) (by exact UI Pz w6) (d:=.int (l.getD (u+1) 0:Nat)) ?_) (ao.name FN)) (by exact Fb _) (by exact WN hn a2) ?_)).cast ?_) Hz (keep S3.lf) λs4 S4=>aU (fin _ (S4.forget DX))
  ·rw[Fg,Sh 1 u];exact YU l (by exact Nat.add_lt_of_lt_sub w6)
  ·rw[show(((l.getD (u+1) 0:Nat):Int)+((p.2-p.1:Nat):Int)).toNat=l.getD (u+1) 0+(p.2-p.1) by rfl,Fg]
   exact l5 _ a2.2
  ·rw[kg,aa.all_append];simp[Ga.and_assoc]
 ·rw[Qa,qd]at S3
  exact h s3 ((S3.forget pq).forget v9)
theorem Em{cs:aa Int}{i:Nat}(h:i<cs.length):dB cs i (i+1)=true:=by
 have hr:1≤runN cs i (cs.length-(i+1)):=Gx (by exact Mg h) (by exact TQ) λt ht=>by
  obtain rfl:t=0:=by exact SQ ht
  unfold wordOf c8
  have hk:(aJ cs).length=cs.length:=by unfold aJ;simp
  simp only[Lb,Nat.add_zero]
  rw[Hh (by exact Jg h (id (Be hk))),Hh (by rw[Ue];exact M9 h hk),aa.getElem?_reverse (by exact M9 h hk),hk,show cs.length-1-(cs.length-(i+1))=i by exact Ur h]
 unfold dB HB
 simp;exact⟨h,hr⟩
noncomputable def eH(cs:aa Int)(i j:Nat):Nat:=j-((Sa (j-i)).find? λk=>dB cs i (j-k)).getD 0
noncomputable def fY(cs:aa Int)(i j:Nat):Nat:=i+((Sa (j-i)).find? λk=>dB cs (i+k) j).getD 0
theorem wR{cs:aa Int}{i j:Nat}(h:i<j)(hj:j≤cs.length):i<eH cs i j∧eH cs i j≤j∧dB cs i (eH cs i j)=true∧∀t,i<t→t≤j→dB cs i t=true→t≤eH cs i j:=by
 unfold eH
 cases e:(Sa (j-i)).find? λk=>dB cs i (j-k)with
 |none=>
  have:=Kg.mp e (j-1-i) (Nb.mpr (by exact MI h))
  rw[show j-(j-1-i)=i+1 by exact Us h,Em (by exact Dc h hj)]at this
  simp at this
 |some k=>
  refine yI (nk.mp e) λh1 h2 h3=> ?_
  have h2:=Nb.mp h2
  refine⟨by simp only[Nf];exact Vt h2,by simp only[Nf];exact Nat.sub_le _ _,h1,λt h4 h5 h6=> ?_⟩
  simp only[Nf]
  rcases Nat.lt_or_ge (j-t) k with q|q
  ·have:=h3 (j-t) q
   rw[show j-(j-t)=t by exact Nat.sub_sub_self h5,h6]at this
   simp at this
  ·exact VS h5 q
theorem AZ{cs:aa Int}{i j:Nat}(h:i<j)(hj:j≤cs.length):i≤fY cs i j∧fY cs i j<j∧dB cs (fY cs i j) j=true∧∀t,i≤t→t<j→dB cs t j=true→fY cs i j≤t:=by
 unfold fY
 cases e:(Sa (j-i)).find? λk=>dB cs (i+k) j with
 |none=>
  have:=Kg.mp e (j-1-i) (Nb.mpr (by exact MI h))
  rw[show i+(j-1-i)=j-1 by exact Ut h]at this
  have o:=Em (cs:=cs) (i:=j-1) (by exact VT h hj)
  rw[show j-1+1=j by exact Uu h]at o
  rw[o]at this
  simp at this
 |some k=>
  refine yI (nk.mp e) λh1 h2 h3=> ?_
  have h2:=Nb.mp h2
  refine⟨by simp only[Nf];exact Tc _ _,by simp only[Nf];exact Ui h2,h1,λt h4 h5 h6=> ?_⟩
  simp only[Nf]
  rcases Nat.lt_or_ge (t-i) k with q|q
  ·have:=h3 (t-i) q
   rw[show i+(t-i)=t by exact Ce h4,h6]at this
   simp at this
  ·exact VU h4 q
noncomputable def C9(cs:aa Int)(p:P2):P2:=(p.1,eH cs p.1 p.2)
noncomputable def Dp(cs:aa Int)(p:P2):P2:=(fY cs p.1 p.2,p.2)
noncomputable def bar:Str:=ya "|"
noncomputable def lE(cs:aa Int)(p:P2):Str:=nS cs (C9 cs p)++bar++nS cs (Dp cs p)
theorem D3:bar.cps.toList=[124]:=by decide+kernel
theorem qR(cs:aa Int)(p:P2):(lE cs p).cps.toList=(nS cs (C9 cs p)).cps.toList++124::(nS cs (Dp cs p)).cps.toList:=by
 show((nS cs (C9 cs p)).cps++bar.cps++(nS cs (Dp cs p)).cps).toList=_
 rw[Qi,Qi,D3];simp
theorem EC{cs:aa Int}{p:P2}(h:kY cs p):kY cs (C9 cs p):=by
 have:=wR h.1 h.2
 exact⟨this.1,Na this.2.1 h.2⟩
theorem Gu{cs:aa Int}{p:P2}(h:kY cs p):kY cs (Dp cs p):=⟨(AZ h.1 h.2).2.1,h.2⟩
theorem uN{cs:aa Int}{p:P2}(hn:cs.length≤7):Nm (lE cs p):=⟨λc hc=>by
 rw[qR]at hc
 rcases zc.mp hc with hc|hc
 ·have:=rm c hc;exact DJ this
 ·rcases Za.mp hc with rfl|hc
  ·exact aal
  ·have:=rm c hc;exact DJ this,by
 have h1:=nR (p:=C9 cs p) hn
 have h2:=nR (p:=Dp cs p) hn
 rw[←Wf]at h1 h2⊢
 rw[qR];simp only[Dd,xd];exact UP h1 h2⟩
theorem sM:∀{a b c d:aa Nat},124∉a→124∉c→a++124::b=c++124::d→a=c∧b=d
 |[],b,[],d,_,_,h=>by simpa using h
 |[],b,x::c,d,_,hc,h=>by
  simp only[aa.nil_append,Hg,Qe]at h
  exact absurd (h.1▸La) hc
 |x::a,b,[],d,ha,_,h=>by
  simp only[aa.nil_append,Hg,Qe]at h
  exact absurd (h.1▸La) ha
 |x::a,b,y::c,d,ha,hc,h=>by
  simp only[Hg,Qe]at h
  have:=sM (λq=>ha (Wa _ q)) (λq=>hc (Wa _ q)) h.2
  exact⟨by rw[h.1,this.1],this.2⟩
theorem iA{cs:aa Int}{p:P2}(hn:cs.length≤7):(Jb (lE cs p)).cps.toList=(dF cs (C9 cs p)).cps.toList++124::(dF cs (Dp cs p)).cps.toList:=by
 unfold dF
 rw[(uN hn).jy,(eK hn).jy,(eK hn).jy]
 show((lE cs p).cps.map lo1).toList=((nS cs (C9 cs p)).cps.map lo1).toList++124::((nS cs (Dp cs p)).cps.map lo1).toList
 rw[Ag,Ag,Ag,qR,Mc,Ib];rfl
noncomputable def cU(cs:aa Int)(p q:P2):Ga:=aM cs (C9 cs p) (C9 cs q) &&aM cs (Dp cs p) (Dp cs q)
theorem qY{cs:aa Int}{p:P2}(hn:cs.length≤7):124∉(dF cs p).cps.toList:=λh=>by
 rw[iY hn]at h
 rcases nP h with h|⟨q,hq,h⟩
 ·simp at h
 ·obtain⟨x,hx,rfl⟩:=Ra.mp hq
  exact(uq (qO hx) 124 h).2 rfl
theorem PE{cs:aa Int}{p q:P2}(hn:cs.length≤7)(hq:kY cs q)(hp:kY cs p):(Jb (lE cs q)==Jb (lE cs p))=cU cs p q:=by
 rw[cg,Vd]
 unfold cU aM
 rw[Bd,gg,gg,←fy hn (EC hq) (EC hp),←fy hn (Gu hq) (Gu hp)]
 constructor
 ·intro e
  have e:(Jb (lE cs q)).cps.toList=(Jb (lE cs p)).cps.toList:=by rw[e]
  rw[iA hn,iA hn]at e
  have:=sM (qY hn) (qY hn) e
  exact⟨str_of_list this.1,str_of_list this.2⟩
 ·rintro⟨e1,e2⟩
  exact str_of_list (by rw[iA hn,iA hn,e1,e2])
noncomputable def gK(cs:aa Int)(G:aa P2)(p:P2):aa P2:=if G.any (cU cs p)then G else G++[p]
noncomputable def GL(cs:aa Int)(l:aa P2):aa P2:=l.foldl (gK cs) []
noncomputable def dN(cs:aa Int)(G:aa P2)(p:P2):P2:=(G.find? (cU cs p)).getD p
noncomputable def uW(cs:aa Int)(G:aa P2):Rows:=G.map λp=>(lE cs p,nS cs p)
variable{G:aa P2}{p q:P2}
theorem uJ(hn:cs.length≤7)(hp:kY cs p):∀{G:aa P2},mS cs G→lB (uW cs G) (lE cs p)=(G.find? (cU cs p)).map λq=>nS cs q
 |[],_=>rfl
 |q::G,h=>by
  have ih:=uJ hn hp λx hx=>h x (Wa q hx)
  unfold lB uW at ih⊢
  refine(Ib ..).symm▸(vf ..).symm▸(vf ..).symm▸ ?_
  simp only[PE hn (h q La) hp]
  cases cU cs p q with
  |true=>rfl
  |false=>exact ih
theorem K1(hn:cs.length≤7)(h:mS cs G)(hp:kY cs p):vo (uW cs G) (lE cs p) (nS cs p)=uW cs (gK cs G p):=by
 unfold vo gK
 refine(uJ hn hp h ..).symm▸(fF ..).symm▸ ?_
 cases G.find? (cU cs p)with
 |none=>simp[uW]
 |some q=>rfl
theorem K2(hn:cs.length≤7)(h:mS cs G)(hp:kY cs p):vp (uW cs G) (lE cs p) (nS cs p)=nS cs (dN cs G p):=by
 unfold vp dN
 refine(uJ hn hp h ..).symm▸ ?_
 cases G.find? (cU cs p)<;> rfl
theorem zN(cs:aa Int)(p:P2):cU cs p p=true:=by unfold cU;rw[gU,gU];rfl
theorem BV(G:aa P2)(p q r:P2)(h:G.find? (cU cs p)=some r):(gK cs G q).find? (cU cs p)=some r:=by
 unfold gK
 split
 ·exact h
 ·rw[Vi,h];rfl
theorem gO:∀(l:aa P2) (G:aa P2) (p r:P2),G.find? (cU cs p)=some r→(l.foldl (gK cs) G).find? (cU cs p)=some r
 |[],G,p,r,h=>h
 |i::l,G,p,r,h=>gO l _ p r (BV G p i r h)
theorem jv(G:aa P2)(p:P2):(gK cs G p).find? (cU cs p)=some (dN cs G p):=by
 unfold gK dN
 cases e:G.find? (cU cs p)with
 |none=>
  refine(fF ..).symm▸(e ..).symm▸ ?_
  simp only[Ma.isSome_none,wg,yg]
  refine(Vi ..).symm▸(e ..).symm▸ ?_
  simp[zN]
 |some q=>rw[fF,e];simp[e]
theorem HX(l:aa P2)(p:P2):GL cs (l++[p])=gK cs (GL cs l) p:=by unfold GL;rw[xe];rfl
theorem qI{l r:aa P2}{p:P2}:dN cs (GL cs (l++p::r)) p=dN cs (GL cs l) p:=by
 have e:GL cs (l++p::r)=r.foldl (gK cs) (gK cs (GL cs l) p):=by unfold GL;rw[xe];rfl
 have:=gO r _ _ _ (jv (cs:=cs) (GL cs l) p)
 conv =>lhs;unfold dN
 rw[e,this];rfl
theorem yL:∀{l:aa P2} {p:P2},p∈GL cs l→p∈l:=by
 have key:∀(l G:aa P2) (p:P2),p∈l.foldl (gK cs) G→p∈G∨p∈l:=by
  intro l
  induction l with
  |nil=>intro G p h;exact .inl h
  |cons a l ih=>
   intro G p h
   rcases ih _ _ h with h|h
   ·unfold gK at h
    split at h
    ·exact .inl h
    ·rcases zc.mp h with h|h
     ·exact .inl h
     ·exact .inr (by rw[Vb.mp h];exact La)
   ·exact .inr (Wa _ h)
 intro l p h
 exact(key l [] p h).resolve_left (by simp)
theorem Dv(l:aa P2):(GL cs l).length≤l.length:=by
 have key:∀(l G:aa P2),(l.foldl (gK cs) G).length≤G.length+l.length:=by
  intro l
  induction l with
  |nil=>intro G;exact zb _
  |cons a l ih=>
   intro G
   have:=ih (gK cs G a)
   have h2:(gK cs G a).length≤G.length+1:=by unfold gK;split<;> simp
   rw[Qd,xd];exact sL this h2
 unfold GL
 simpa using key l []
theorem qJ{l:aa P2}(h:p∈l):dN cs (GL cs l) p∈GL cs l:=by
 obtain⟨a,b,rfl⟩:=aa.append_of_mem h
 have e:GL cs (a++p::b)=b.foldl (gK cs) (gK cs (GL cs a) p):=by unfold GL;rw[xe];rfl
 have:=gO b _ _ _ (jv (cs:=cs) (GL cs a) p)
 refine(qI ..).symm▸ ?_
 rw[←e]at this
 exact Nh this
noncomputable abbrev En:Va:=aC (fb (lb 22)) 0
theorem aaW:fb En=[aC (fb En) 0,aC (fb En) 1,aC (fb En) 2,aC (fb En) 3,aC (fb En) 4]:=by kernel_rfl
noncomputable abbrev yC(w:Oa)(cs:aa Int)(dr dh nB AB di dj:D):aa (Str×D):=GR w cs dr dh nB AB .un .un .un .un di dj .un .un .un .un
noncomputable def Ql(cs:aa Int):Ga:=sE cs (EJ cs cs.length) (FJ cs cs.length)
theorem JV(ac:Ac A 12)(G:aW w aG d0 B.s0.heap)(hn:cs.length≤7){dr dh AB:D}
  (S:Sc B (aA dV L) (yC w cs dr dh (.bool true) AB .un .un) Δ s)
  (h:∀s',Sc B (aA dV L) (yC w cs dr dh (.bool (Ql cs)) AB .un .un) Δ s'→Ex w A (aA dV L) rest Q E s'):
  Ex w A (aA dV L) (lb 21::rest) Q E s:=by
 have hL:B.s0.heap.objs.size≤L:=S.lf
 have zF:=(fJ (cs:=cs) hn (zb _)).1
 refine iJ (items:=(FJ cs cs.length).map λp=>.str (nS cs p)) ac.hh S ((ao.ER (k:=5) (ac.weak (by exact Mb rfl)) G (ao.name m3) (AV hn)).eU (b:=(FJ cs cs.length).map λp=>.str (nS cs p)) (by unfold g5 cW;rw[Eb,Eb];rfl)) (.list _ (by rw[Qa,sizeLine_eq];exact Na zF (by decide)))
  (λt=>yC w cs dr dh (.bool (sE cs (EJ cs cs.length) ((FJ cs cs.length).take t))) AB .un .un) (λt d=>GR w cs dr dh (.bool (sE cs (EJ cs cs.length) ((FJ cs cs.length).take t))) AB (.dat d) .un .un .un .un .un .un .un .un .un)
  (λz_=>Δ) (λB s S=>by simpa[sE]using S) (λz_=>rfl) (λt d hd B' Δ' hB=>bY.name rZ (keep (hB▸hL))) (λB' R t d I m s2 E' hB hd S2 fin=> ?_) (λs2 S2=> ?_)
 ·rw[Ab]at hd
  obtain⟨p,hp,rfl⟩:=fc.mp hd
  have e:sE cs (EJ cs cs.length) ((FJ cs cs.length).take (t+1))=(sE cs (EJ cs cs.length) ((FJ cs cs.length).take t) &&Gp cs (b7 cs (EJ cs cs.length) p) (p.2-p.1)):=by
   unfold sE
   rw[Me,hp,aa.all_append];simp
  refine Ex.of l21 ?_
  refine JK ac (hB▸G) hn (Ff hp) S2 λs3 S3=>aU (fin _ ?_)
  show Sc _ _ (yC w cs dr dh (.bool (sE cs (EJ cs cs.length) ((FJ cs cs.length).take (t+1)))) AB .un .un) _ s3
  rw[e]
  exact S3.forget rZ
 ·rw[Qa,bf]at S2
  exact h s2 S2
theorem z8{a b:Str}:jc (.str a) (.str b)=decide (a=b):=by rw[lZ];rfl
theorem JL(ac:Ac A 12)(G:aW w aG d0 B.s0.heap)(hn:cs.length≤7){i j:Nat}(pF:i<j)(hj:j≤cs.length){l r:aa P2}(hlr:mS cs l)(hll:l.length≤100){l3 a3:ia}{Is:aa (ia×MO)}{u0:Ga}{nB:D}
  (S:Sc B (aA dV L) (yC w cs (.known (HL l3)) (.val (.ref a3)) nB (.bool u0) (.int i) (.int j)) (Is++(l3,.list ((uW cs (GL cs l)).map bz))::(a3,.list (l.map λp=>.str (nS cs (dN cs (GL cs (l++(i,j)::r)) p))))::Δr) s)
  (h:∀s',Sc B (aA dV L) (yC w cs (.known (HL l3)) (.val (.ref a3)) nB (.bool (u0&&decide (kS cs (dN cs (GL cs (l++(i,j)::r)) (i,j))=kS cs (i,j)))) (.int i) (.int j)) (Is++(l3,.list ((uW cs (GL cs (l++[(i,j)]))).map bz))::(a3,.list ((l++[(i,j)]).map λp=>.str (nS cs (dN cs (GL cs (l++(i,j)::r)) p))))::Δr) s'→Ex w A (aA dV L) rest Q E s'):
  Ex w A (aA dV L) (aC (fb En) 0::aC (fb En) 1::aC (fb En) 2::aC (fb En) 3::aC (fb En) 4::rest) Q E s:=by
 have hL:B.s0.heap.objs.size≤L:=S.lf
 have vP:kY cs (i,j):=⟨pF,hj⟩
 have c1:(i:Int)+1=((i+1:Nat):Int):=by rfl
 have c2:(j:Int)+1=((j+1:Nat):Int):=by rfl
 refine eS (wR pF hj) λf1 f2 f3 f4=> ?_
 refine eS (AZ pF hj) λr1 r2 r3 r4=> ?_
 refine aI S (ao.ZN (ns:=((Sa (j+1-(i+1))).filter λk=>dB cs i (i+1+k)).map λk=>((i+1+k:Nat):Int)) (m:=(eH cs i j:Nat)) ac.hh (ao.bG G (by kernel_rfl) (by kernel_rfl) rfl rfl (by kernel_rfl))
  (LC.cast (LC.qG (l:=Sa (j+1-(i+1))) (φ:=λk:Nat=>.int ((i+1+k:Nat):Int)) (g:=λk:Nat=>.int ((i+1+k:Nat):Int)) (t:=λk=>dB cs i (i+1+k)) ac.hh (ao.jE (bC G) ((ao.add (ao.name FO) .bA).bO c1) ((ao.add (ao.name J7) .bA).bO c2)) (j5 (i+1) (j+1) (by exact VQ r1 r2) (by exact UJ hn hj)) bS (.cons m2 (.cons FO .nil)) (λk hk B' Δ' C u p q=> ?_) (λk hk z_ B' Δ' C u p q=>ao.name m0)) ?_).ev ?_ ?_) Iw (keep hL) λs1 S1=> ?_
 ·have hk:k<j+1-(i+1):=Nb.mp hk
  exact TV.dI (ao.item (ao.item (ao.name m1) (ao.name m2) (by exact Fb _) (by exact W8 hn hj hk) (pO _ (by exact WO hj hk))) (ao.name m0) (by exact Fb _) (by exact W9 hn hj hk) (l5 _ (by exact WQ hj hk)))
 ·rw[Eb];rfl
 ·refine Ra.mpr ⟨eH cs i j-(i+1),Xd.mpr ⟨Nb.mpr (by exact Xk f2 r1 r2),?_⟩,by exact Uk f1⟩
  rw[show i+1+(eH cs i j-(i+1))=eH cs i j by exact Ce f1];exact f3
 ·intro x hx
  obtain⟨k,hk,rfl⟩:=Ra.mp hx
  refine xA (Xd.mp hk) λHH zm=> ?_
  have:=Nb.mp HH
  have:=f4 (i+1+k) (by exact sI) (by exact v7 this) zm
  exact Gd.mpr this
 refine aI S1 (ao.aa0 (ns:=((Sa (j-i)).filter λk=>dB cs (i+k) j).map λk=>((i+k:Nat):Int)) (m:=(fY cs i j:Nat)) ac.hh (ao.bG G (by kernel_rfl) (by kernel_rfl) rfl rfl (by kernel_rfl))
  (LC.cast (LC.qG (l:=Sa (j-i)) (φ:=λk:Nat=>.int ((i+k:Nat):Int)) (g:=λk:Nat=>.int ((i+k:Nat):Int)) (t:=λk=>dB cs (i+k) j) ac.hh (ao.jE (bC G) (ao.name FO) (ao.name J7)) (j5 i j (by exact VR r1 r2) (by exact Na hj (Na hn (by decide)))) bS (.cons m2 (.cons J7 .nil)) (λk hk B' Δ' C u p q=> ?_) (λk hk z_ B' Δ' C u p q=>ao.name m0)) ?_).ev ?_ ?_) Iz (keep hL) λs2 S2=> ?_
 ·have hk:k<j-i:=Nb.mp hk
  exact TV.dI (ao.item (ao.item (ao.name m1) (ao.name m0) (by exact Fb _) (by exact Xl hn hj hk) (pO _ (by exact WR hj hk))) (ao.name m2) (by exact Fb _) (by exact DQ hn hj) (l5 _ hj))
 ·rw[Eb];rfl
 ·refine Ra.mpr ⟨fY cs i j-i,Xd.mpr ⟨Nb.mpr (by exact Nat.sub_lt_sub_right r1 r2),?_⟩,by exact Ul r1⟩
  rw[show i+(fY cs i j-i)=fY cs i j by exact Ce r1];exact r3
 ·intro x hx
  obtain⟨k,hk,rfl⟩:=Ra.mp hx
  refine xA (Xd.mp hk) λHH zm=> ?_
  have:=Nb.mp HH
  have:=r4 (i+k) (by exact Tc _ _) (by exact Ui this) zm
  exact Gd.mpr this
 refine aI S2 (ao.tG (p:=(i,j)) hn hj (ao.name m1) (ao.name FO) (ao.name J7)) OE (keep hL) λs3 S3=> ?_
 have okG:mS cs (GL cs l):=λp hp=>hlr p (yL hp)
 have lG:=Dv (cs:=cs) l
 have bl:bar.length=1:=by decide+kernel
 have n1:(nS cs (C9 cs (i,j))).length≤28:=nR hn
 have n2:(nS cs (Dp cs (i,j))).length≤28:=nR hn
 have e3:vo (uW cs (GL cs l)) (lE cs (i,j)) (nS cs (i,j))=_:=K1 hn okG vP
 have e2:vp (uW cs (GL cs l)) (lE cs (i,j)) (nS cs (i,j))=_:=K2 hn okG vP
 rw[←qI (r:=r)]at e2
 refine cz S3 (kT.Iu (l:=a3) (ds:=l.map λp=>.str (nS cs (dN cs (GL cs (l++(i,j)::r)) p))) (ao.name m8) (kT.GH (rows:=uW cs (GL cs l)) (name:=lE cs (i,j)) (val:=nS cs (i,j)) (k:=5) (ac.weak (by exact Mb rfl)) G (ao.name m7)
  (ao.KQ (ao.KQ (ao.tG (p:=C9 cs (i,j)) hn (Na f2 hj) (ao.name m1) (ao.name FO) (ao.name PZ)) (ao.gu (x:=bar)) (by rw[bl,sizeLine_eq];exact Fc n1 (by decide))) (ao.tG (p:=Dp cs (i,j)) hn hj (ao.name m1) (ao.name QK) (ao.name J7)) (by rw[Str.length_append,bl,sizeLine_eq];exact UK n1 n2)) (ao.name m19) (bw.app .here) (uN hn) (eK hn) ⟨λx hx=>by
   obtain⟨p,_,rfl⟩:=Ra.mp hx
   exact uN hn,by unfold uW;rw[Qa];exact Na lG (Na hll (by decide))⟩) (Nc _ (.tail _ (.head _))) (bw.app (.there .here)) (by rw[Qa];exact Na hll (by decide))) bL λs4 S4=> ?_
 rw[e2,e3,←HX]at S4
 have hd:(l.map λp=>ie (nS cs (dN cs (GL cs (l++(i,j)::r)) p)))++[.str (nS cs (dN cs (GL cs (l++(i,j)::r)) (i,j)))]=(l++[(i,j)]).map λp=>.str (nS cs (dN cs (GL cs (l++(i,j)::r)) p)):=by simp
 rw[hd]at S4
 generalize hg:dN cs (GL cs (l++(i,j)::r))=g at S4 h
 have okg:kY cs (g (i,j)):=by
  rw[←hg,qI]
  unfold dN
  cases e:(GL cs l).find? (cU cs (i,j))with
  |none=>exact vP
  |some q=>exact okG q (Nh e)
 have gl:((l++[(i,j)]).map λp=>ie (nS cs (g p)))[l.length]? =some (.str (nS cs (g (i,j)))):=by simp
 have ll:(((l++[(i,j)]).map λp=>ie (nS cs (g p))).length:Int) -1=(l.length:Nat):=by simp
 refine aI S4 (d:=.bool (u0&&decide (kS cs (g (i,j))=kS cs (i,j)))) (ao.F3 (.same (.same (.same (.same (.same (.same (.same (.same (.tell (gJ.list (Nc _ (.tail _ (.head _)))) (.same (.same (.same (.same (.same (.same (.same (.same (.same (.same (.same (.same .nil)))))))))))))))))))))
  (ao.and (c:=decide (kS cs (g (i,j))=kS cs (i,j))) (ao.name kX) λz_=>(ao.eq (ao.lower (ao.item (i:=(l.length:Nat)) (ao.name m8) ((ao.sub (ao.len (ao.bG G (by kernel_rfl) (by kernel_rfl) rfl rfl (by kernel_rfl)) (ao.name m8) (by rw[Qa,sizeLine_eq];simp;exact Na hll (by decide))) .bA).bO ll) (by exact Fb _) (by exact pe.mpr (Fc hll (by decide))) gl) (eK hn).lower.short) (ao.lower (ao.name m19) (eK hn).lower.short) (eK hn).lower.shaped (eK hn).lower.shaped ac.eq).cast ?_) (.bool _)) qo (keep hL) λs5 S5=>h s5 (((S5.forget Iw).forget Iz).forget OE)
 rw[z8]
 have:decide (Jb (nS cs (g (i,j)))=Jb (nS cs (i,j)))=decide (kS cs (g (i,j))=kS cs (i,j)):=yf.mpr (fy hn okg vP)
 rw[this]
noncomputable def kR(n a:Nat):aa P2:=(Sa (n-a)).map λb=>(a,a+1+b)
noncomputable def AL(n:Nat):aa P2:=(Sa n).flatMap (kR n)
noncomputable def PL(n i u:Nat):aa P2:=(Sa i).flatMap (kR n)++(kR n i).take u
theorem HZ(n i:Nat):PL n i (n-i)=PL n (i+1) 0:=by
 unfold PL
 rw[Vg (by unfold kR;simp),kg,Dj]
 simp
theorem Oz(n:Nat):PL n n 0=AL n:=by unfold PL AL;simp
theorem H6{n i u:Nat}(h:u<n-i):PL n i (u+1)=PL n i u++[(i,i+1+u)]:=by
 unfold PL
 have:(kR n i)[u]? =some (i,i+1+u):=by unfold kR;rw[Ab,xf h];rfl
 rw[Me,this];simp
theorem Dz{n i u:Nat}(hi:i<n)(h:u<n-i):∃r,AL n=PL n i u++(i,i+1+u)::r:=by
 have e1:kR n i=(kR n i).take u++(i,i+1+u)::(kR n i).drop (u+1):=by
  have:(kR n i)[u]? =some (i,i+1+u):=by unfold kR;rw[Ab,xf h];rfl
  refine xE (ud.mp this) λhu e=> ?_
  conv =>lhs;rw[←Ci u (kR n i),Jj hu,e]
 have e2:Sa n=Sa i++i::(Sa n).drop (i+1):=by
  conv =>lhs;rw[←Ci i (Sa n),Jj (by simpa using hi),Og]
  rw[aa.take_range,Oh (by exact Vq h)]
 refine⟨(kR n i).drop (u+1)++((Sa n).drop (i+1)).flatMap (kR n),?_⟩
 unfold AL PL
 rw[e2,Dj,ug,e1]
 simp only[We,Hg]
 rw[←e1]
 have:(Sa i++i::aa.drop (i+1) (Sa n)).drop (i+1)=(Sa n).drop (i+1):=by rw[←e2]
 rw[this]
theorem LM{cs:aa Int}:mS cs (AL cs.length):=λp hp=>by
 refine bE (Kh.mp hp) λa ha hp=> ?_
 obtain⟨b,hb,rfl⟩:=Ra.mp hp
 have:=Nb.mp ha
 have:=Nb.mp hb
 exact⟨by show a<a+1+b;exact sI,by show a+1+b≤cs.length;exact Vr this⟩
theorem Dq{n:Nat}(hn:n≤7):(AL n).length≤49:=by
 unfold AL kR
 simp only[Dk,Qa,qd]
 rcases le7 hn with rfl|rfl|rfl|rfl|rfl|rfl|rfl|rfl<;> decide
noncomputable abbrev gS(cs:aa Int):aa P2:=GL cs (AL cs.length)
noncomputable def Jq(cs:aa Int)(p:P2):Str:=nS cs (dN cs (gS cs) p)
noncomputable def rQ(cs:aa Int)(l:aa P2):Ga:=l.all λp=>decide (kS cs (dN cs (gS cs) p)=kS cs p)
noncomputable abbrev prO(cs:aa Int)(l3 a3:ia)(l:aa P2):aa (ia×MO):=[(l3,.list ((uW cs (GL cs l)).map bz)),(a3,.list (l.map λp=>.str (Jq cs p)))]
theorem JW(ac:Ac A 12)(G:aW w aG d0 B.s0.heap)(hn:cs.length≤7){l3 a3:ia}{nB:D}
  (S:Sc B (aA dV L) (yC w cs (.known (HL l3)) (.val (.ref a3)) nB (.bool true) .un .un) [(l3,.list []),(a3,.list [])] s)
  (h:∀s',Sc B (aA dV L) (yC w cs (.known (HP (uW cs (gS cs)))) (.list ((AL cs.length).map λp=>.str (Jq cs p))) nB (.bool (rQ cs (AL cs.length))) .un .un) [] s'→Ex w A (aA dV L) rest Q E s'):
  Ex w A (aA dV L) (lb 22::rest) Q E s:=by
 have hL:B.s0.heap.objs.size≤L:=S.lf
 have c1:(cs.length:Int)+1=((cs.length+1:Nat):Int):=by rfl
 refine iJ ac.hh S (ao.dD (bC G) (ao.name m0)) (lJ cs.length (by exact Na hn (by decide)))
  (λt=>yC w cs (.known (HL l3)) (.val (.ref a3)) nB (.bool (rQ cs (PL cs.length t 0))) .un .un) (λt d=>yC w cs (.known (HL l3)) (.val (.ref a3)) nB (.bool (rQ cs (PL cs.length t 0))) (.dat d) .un) (λt=>prO cs l3 a3 (PL cs.length t 0))
  (λB s S=>S) (λt=>rfl) (λt d hd B' Δ' hB=>bY.name DY (keep (hB▸hL))) (λB' R t d I m s2 E' hB hd S2 fin=> ?_) (λs2 S2=> ?_)
 ·rw[Ab]at hd
  obtain⟨t',ht,rfl⟩:=fc.mp hd
  obtain⟨Dl,rfl⟩:=ud.mp ht
  rw[Og]at S2
  simp only[qd]at Dl
  have c2:(t:Int)+1=((t+1:Nat):Int):=by rfl
  have G2:aW w aG d0 B'.s0.heap:=hB▸G
  refine iJ (items:=(Sa (cs.length+1-(t+1))).map λk:Nat=>.int ((t+1+k:Nat):Int)) ac.hh S2 (ao.jE (bC G2) ((ao.add (ao.name FO) .bA).bO c2) ((ao.add (ao.name m0) .bA).bO c1)) (j5 (t+1) (cs.length+1) (by exact Mg Dl) (by exact Fc hn (by decide)))
   (λu=>yC w cs (.known (HL l3)) (.val (.ref a3)) nB (.bool (rQ cs (PL cs.length t u))) (.int t) .un) (λu d=>yC w cs (.known (HL l3)) (.val (.ref a3)) nB (.bool (rQ cs (PL cs.length t u))) (.int t) (.dat d)) (λu=>(I,m)::prO cs l3 a3 (PL cs.length t u))
   (λB s S=>S) (λu=>rfl) (λu d hd B3 Δ' hB3=>bY.name DZ (keep (hB3▸S2.lf))) (λB2 R2 u d I2 m2 s3 E2 hB2 hd S3 fin2=> ?_) (λs3 S3=> ?_)
  ·rw[Ab]at hd
   obtain⟨u',hu,rfl⟩:=fc.mp hd
   obtain⟨w6,rfl⟩:=ud.mp hu
   rw[Og]at S3
   simp only[qd]at w6
   obtain⟨r,hr⟩:=Dz (n:=cs.length) (i:=t) (u:=u) Dl (by exact MY w6)
   have Dn:=LM (cs:=cs)
   have lA:=Dq hn
   rw[hr]at Dn lA
   have st:=H6 (n:=cs.length) (i:=t) (u:=u) (by exact MY w6)
   have ue:rQ cs (PL cs.length t (u+1))=(rQ cs (PL cs.length t u) &&decide (kS cs (dN cs (gS cs) (t,t+1+u))=kS cs (t,t+1+u))):=by
    rw[st];unfold rQ;rw[aa.all_append];simp
   refine Ex.of aaW ?_
   have S4:=S3
   unfold prO Jq gS at S4
   rw[hr]at S4
   refine JL ac (hB2▸G2) hn (i:=t) (j:=t+1+u) (l:=PL cs.length t u) (r:=r) (Is:=[(I2,m2),(I,m)]) (Δr:=[]) (by exact sI) (by exact v7 w6) (λp hp=>Dn p (Qc _ hp)) (by rw[Dd]at lA;exact Um lA) S4 λs4 S5=>aU ?_
   rw[←hr,←st,←ue]at S5
   exact fin2 _ (S5.forget DZ)
  ·refine aU ?_
   rw[Qa,qd,show cs.length+1-(t+1)=cs.length-t by exact Nat.add_sub_add_right _ 1 _,HZ]at S3
   exact fin _ (S3.forget DY)
 ·rw[Qa,qd,Oz]at S2
  exact h s2 (Sc.F3 (Δl:=prO cs l3 a3 (AL cs.length)) (Δr:=[]) S2 (.same (.same (.same (.same (.same (.same (.same (.tell (gJ.head (.head _)) (.tell (gJ.list (.tail _ (.head _))) (.same (.same (.same (.same (.same (.same (.same (.same (.same (.same (.same (.same .nil))))))))))))))))))))))
theorem FZ{cs:aa Int}{q:P2}{F:aa P2}:(F.Pairwise λp q=>kS cs p≠kS cs q)→(∃r∈F,kS cs r=kS cs q)→F.countP (λp=>aM cs p q)=1:=by
 induction F with
 |nil=>exactλ_ ⟨r,h,_⟩=>(nomatch h)
 |cons p F ih=>
  rintro nd ⟨r,h,e⟩
  refine xA (aa.pairwise_cons.mp nd) λn1 n2=> ?_
  refine(kj ..).symm▸ ?_
  by_cases hp:kS cs q=kS cs p
  ·have:F.countP (λp=>aM cs p q)=0:=aa.countP_eq_zero.mpr λx hx hs=>n1 x hx (by rw[←hp];simpa[aM]using hs)
   rw[this];simp[aM,hp]
  ·rcases Za.mp h with rfl|h
   ·exact absurd e.symm hp
   ·rw[ih n2 ⟨r,h,e⟩];simp[aM,hp]
theorem Bl(f g:P2→Int):∀F:aa P2,(F.map λp=>f p+g p).sum=(F.map f).sum+(F.map g).sum
 |[]=>rfl
 |p::F=>by simp only[Ib,Rg,Bl f g F];exact RH
theorem G4(c:P2→Ga):∀F:aa P2,(F.map λp=>if c p then(1:Int)else 0).sum=(F.countP c:Nat)
 |[]=>rfl
 |p::F=>by
  rw[Ib,Rg,G4 c F,kj]
  cases c p<;> simp;exact SE
theorem CW{cs:aa Int}{F:aa P2}(nd:F.Pairwise λp q=>kS cs p≠kS cs q){E:aa P2}:(∀q∈E,∃r∈F,kS cs r=kS cs q)→(F.map λp=>(bH cs E p:Int)).sum=(E.length:Nat):=by
 induction E with
 |nil=>
  intro _
  have:∀F:aa P2,(F.map λp=>(bH cs [] p:Int)).sum=0:=λF=>by
   induction F with
   |nil=>rfl
   |cons p F ih=>rw[Ib,Rg,ih];rfl
  rw[this];rfl
 |cons q E ih=>
  intro h
  have e:∀p,(bH cs (q::E) p:Int)=(bH cs E p:Int)+if aM cs p q then 1 else 0:=λp=>by
   unfold bH
   refine(kj ..).symm▸ ?_
   cases aM cs p q<;> simp
  simp only[e]
  rw[Bl,G4,FZ nd (h q La),ih λx hx=>h x (Wa _ hx)]
  simp
noncomputable def mz(M:Nat→Nat→Ga)(m i:Nat):Nat:=(Sa m).countP λj=>M i j
theorem Lp(M:Nat→Nat→Ga)(m:Nat)(l:aa Nat):(l.map λi=>(mz M (m+1) i:Int)).sum=(l.map λi=>(mz M m i:Int)).sum+(l.countP λi=>M i m:Nat):=by
 induction l with
 |nil=>rfl
 |cons i l ih=>
  rw[Ib,Rg,Ib,Rg,ih,kj]
  have:mz M (m+1) i=mz M m i+if M i m then 1 else 0:=by unfold mz;rw[kg,aa.countP_append,aa.countP_singleton]
  refine(this ..).symm▸ ?_
  cases M i m<;> simp <;> omega
theorem sum_rows{cs:aa Int}(j:Nat):j≤cs.length→((Sa cs.length).map λi=>(mz (dB cs) (j+1) i:Int)).sum=((EJ cs j).length:Nat):=by
 induction j with
 |zero=>
  intro _
  have:∀i,mz (dB cs) 1 i=0:=λi=>by unfold mz dB;simp
  simp only[this]
  have z:∀l:aa Nat,(l.map λz_=>(((0:Nat):Nat):Int)).sum=0:=λl=>by
   induction l with
   |nil=>rfl
   |cons a l ih=>rw[Ib,Rg,ih];rfl
  rw[z];rfl
 |succ j ih=>
  intro h
  rw[Lp,ih (by exact Xc h)]
  have e:(Sa cs.length).countP (λi=>dB cs i (j+1))=(starts cs (j+1)).length:=by
   unfold starts
   rw[aa.countP_eq_length_filter,show cs.length=(j+1)+(cs.length-(j+1)) by exact Be (Ce h),aa.range_add,aa.filter_append,Dd]
   have:((Sa (cs.length-(j+1))).map λx=>j+1+x).filter (λi=>dB cs i (j+1))=[]:=by
    rw[aa.filter_eq_nil_iff]
    intro a ha
    obtain⟨x,_,rfl⟩:=Ra.mp ha
    have hx:¬(j+1+x<j+1):=by exact TP
    simp[dB,hx]
   rw[this];simp
  refine(e ..).symm▸ ?_
  show _=(((EJ cs j++(starts cs (j+1)).map λi=>(i,j+1)).length:Nat):Int)
  rw[Dd,Qa];simp
theorem AD:∀r:Rows,Jd (r.map bz) (r.map bz)=true
 |[]=>rfl
 |x::r=>by
  show(jc (bz x) (bz x) &&Jd (r.map bz) (r.map bz))=true
  refine(AD r ..).symm▸ ?_
  simp[bz,jc,Jd]
theorem GK:∀r:Rows,(∀x∈r,Nm x.1∧Nm x.2)→Xe (r.map bz)=true∧we (r.map bz)≤1
 |[],_=>⟨rfl,Uc _⟩
 |x::r,h=>by
  have ih:=GK r λy hy=>h y (Wa _ hy)
  have hx:=h x La
  refine⟨?_,?_⟩
  ·show((yd (.str x.1) &&(yd (.str x.2) &&true)) &&Xe (r.map bz))=true
   rw[hx.1.lay,hx.2.lay,ih.1];rfl
  ·show max 1 (we (r.map bz))≤1
   have:=ih.2
   exact SN this
theorem GJ{r:Rows}(h:∀x∈r,Nm x.1∧Nm x.2):shaped (.list (r.map bz))=true:=by
 have:=GK r h
 unfold shaped
 have h1:yd (.list (r.map bz))=true:=this.1
 have h2:Qf (.list (r.map bz))=we (r.map bz)+1:=rfl
 refine(h1 ..).symm▸(h2 ..).symm▸ ?_
 simp;omega
theorem wA:∀l:aa Ga,Xe (l.map .bool)=true
 |[]=>rfl
 |_::l=>wA l
theorem I6{cs:aa Int}{p:P2}(hp:p∈AL cs.length):dN cs (gS cs) p∈gS cs∧kY cs (dN cs (gS cs) p):=⟨qJ hp,LM _ (yL (qJ hp))⟩
theorem J4{pos}(G:aW w aG d0 B.s0.heap):ao w A B (aA dV L) Γ Δ (.Name (ya "count_calls") pos) (.val (.ref 305)):=ao.glob G (by kernel_rfl) rfl (by kernel_rfl)
set_option backward.match.sparseCases false in
noncomputable def te:Va→Ba|.If t _ _ _=>t|_=>.Constant .none 0 ⟨0,0,0,0⟩
noncomputable def xB(cs:aa Int):Ga:=(decide ((FJ cs cs.length).length=cs.length)==Ql cs) &&(Ql cs==rQ cs (AL cs.length))
theorem G5{cs:aa Int}(hn:cs.length≤7):∀x∈g5 cs,Nm x.1∧Nm x.2:=λx hx=>by
 obtain⟨p,hp,rfl⟩:=Ra.mp hx
 have:=vV (cs:=cs) cs.length (zb _) p hp
 have h2:=this.2
 exact⟨eK hn,A4 (by exact Na h2 (Na hn (by decide)))⟩
theorem JX(ac:Ac A 12)(G:aW w aG d0 B.s0.heap)(hn:cs.length≤7){r0 u0:Ga}
  (S:Sc B (aA dV L) (yC w cs (.known (HP (uW cs (gS cs)))) (.list ((AL cs.length).map λp=>.str (Jq cs p))) (.bool r0) (.bool u0) .un .un) [] s)
  (h:∀s',Sc B (aA dV L) (yC w cs .un .un (.bool r0) (.bool u0) .un .un) [] s'→Ex w A (aA dV L) rest Q E s'):
  Ex w A (aA dV L) (lb 23::lb 24::rest) Q E s:=by
 have hL:B.s0.heap.objs.size≤L:=S.lf
 have lA:=Dq hn
 have lG:(gS cs).length≤_:=Dv (cs:=cs) (AL cs.length)
 have zF:=(fJ (cs:=cs) hn (zb _)).1
 have kZ:cP (uW cs (gS cs)):=⟨λx hx=>by
  obtain⟨p,_,rfl⟩:=Ra.mp hx
  exact uN hn,by unfold uW;rw[Qa];exact Na lG (Na lA (by decide))⟩
 have tl:(g5 cs).length≤49:=by unfold g5 cW;rw[Qa];exact zF
 have nmK:∀x∈(g5 cs).map (·.1),Nm x:=λx hx=>by
  obtain⟨y,hy,rfl⟩:=Ra.mp hx
  exact(G5 hn y hy).1
 refine aI S ((ao.JA (k:=5) (ac.weak (by exact Mb rfl)) G (ao.name m7) kZ).eU (b:=(gS cs).map λp=>.str (nS cs p)) (by unfold uW;rw[Eb,Eb];rfl)) OF (keep hL) λs1 S1=> ?_
 have t1:TV w A B (aA dV L) (GR w cs (.known (HP (uW cs (gS cs)))) (.list ((AL cs.length).map λp=>.str (Jq cs p))) (.bool r0) (.bool u0) .un .un .un .un .un .un .un .un .un (.list ((gS cs).map λp=>.str (nS cs p)))) [] (te (lb 24)) (false||(false||(false||false))):=
  TV.or ((TV.ne (ao.Pp (k:=5) (ac.weak (by exact Mb rfl)) G (ao.name m3) (AV hn)) (ao.name m6) (GJ (G5 hn)) (GJ (G5 hn)) ac.eq).cast (b:=false) (by show(!Jd _ _)=false;rw[AD];rfl)) λz_=>
  TV.or ((TV.ne (ao.ER (k:=5) (ac.weak (by exact Mb rfl)) G (ao.name m3) (AV hn)) ((LC.pair (l:=g5 cs) (φ:=λr=>.str r.1) (ψ:=λr=>.str r.2) (g:=λr=>.str r.1) ac.hh (ao.name m6) (.list _ (by rw[Qa,sizeLine_eq];exact Na tl (by decide))) bS (λr hr B' Δ' C u p q=>ao.name m0)).ev.eU (b:=((g5 cs).map (·.1)).map .str) (by rw[Eb];rfl)) (vq nmK) (vq nmK) ac.eq).cast (b:=false) (by show(!Jd _ _)=false;rw[lu];simp)) λz_=>
  TV.or ((TV.ne ((LC.qG (l:=AL cs.length) (φ:=λp=>.str (Jq cs p)) (g:=λp=>.str (Jq cs p)) (t:=λz_=>false) ac.hh (ao.name m8) (.list _ (by rw[Qa,sizeLine_eq];exact Na lA (by decide))) bS (.cons m20 .nil) (λp hp B' Δ' C u pp q=>(TV.FY (ao.name m0) (ao.name m1) (eK hn).lay ((zQ ((gS cs).map (nS cs)) (λx hx=>by obtain⟨y,_,rfl⟩:=Ra.mp hx;exact eK hn)).1|> λh=>by rw[Eb]at h;exact h) (Fc (Nat.add_le_add_left (Aj _ _) _) (by show A.units+1+0<cLine;have:=ac.units;exact Un this))).cast (b:=false) (by
    rw[Ga.not_eq_false',jg]
    exact⟨.str (Jq cs p),Ra.mpr ⟨dN cs (gS cs) p,(I6 hp).1,rfl⟩,by rw[z8];simp[Jq]⟩)) (λp hp hc B' Δ' C u pp q=>nomatch hc)).ev.eU (b:=[]) (by simp)) (ao.wK .nil (by rw[sizeLine_eq];simp)) rfl rfl ac.eq).cast (b:=false) rfl) λz_=>TV.or_nil
 exact cS S1 t1 rfl λs2 S2=>h s2 (((S2.forget IA).forget Hy).forget OF)
theorem JY(ac:Ac A 12)(G:aW w aG d0 B.s0.heap)(hn:cs.length≤7){r0 u0:Ga}
  (S:Sc B (aA dV L) (yC w cs .un .un (.bool r0) (.bool u0) .un .un) [] s)
  (h:∀v s',Sc B (aA dV L) (yC w cs .un .un (.bool r0) (.bool u0) .un .un) [] s'→v=.bool ((decide ((FJ cs cs.length).length=cs.length)==r0) &&(r0==u0))→Q (.ret v) s'):
  Ex w A (aA dV L) (lb 25::lb 26::rest) Q E s:=by
 have hL:B.s0.heap.objs.size≤L:=S.lf
 have zF:=(fJ (cs:=cs) hn (zb _)).1
 have Jr:=HT (cs:=cs) hn cs.length (zb _)
 have s1:((fQ cs (FJ cs cs.length) (EJ cs cs.length)).map (·.2)).sum=((EJ cs cs.length).length:Nat):=by
  unfold fQ;rw[Eb];exact CW Jr.nd Jr.cov
 have s2:=sum_rows (cs:=cs) cs.length (zb _)
 have ce:∀i,((Sa (cs.length+1)).map λj=>PyData.bool (dB cs i j)).countP (λa=>jc a (.bool true))=mz (dB cs) (cs.length+1) i:=λi=>by
  unfold mz
  refine(aa.countP_map ..).symm▸ ?_
  congr 1
  funext j
  show jc (.bool (dB cs i j)) (.bool true)=_
  simp[jc]
 refine cS S ((TV.ne (ao.yQ (k:=5) (ac.weak (by exact Mb rfl)) G (J4 G) (ao.name m5)) (ao.aa8 (ns:=(Sa cs.length).map λi=>(mz (dB cs) (cs.length+1) i:Int)) ac.hh (ao.bG G (by kernel_rfl) (by kernel_rfl) rfl rfl (by kernel_rfl)) ((LC.kP (l:=Sa cs.length) (φ:=λi=>.list ((Sa (cs.length+1)).map λj=>.bool (dB cs i j))) (g:=λi=>.int (mz (dB cs) (cs.length+1) i:Nat)) ac.hh (ao.name m2) (.list _ (by rw[Qa,qd,sizeLine_eq];exact Na hn (by decide))) bS .nil (λi hi B' Δ' C u p q=> ?_)).ev.eU (by rw[Eb];rfl)) (λu hu=> ?_) (by rw[Qa,qd];exact Na hn (by decide))) rfl rfl ac.eq).cast (b:=false) ?_) rfl λs3 S3=> ?_
 ·refine(ao.PU (ao.name m0) .jY rfl ?_ ?_).bO ?_
  ·have:=wA ((Sa (cs.length+1)).map λj=>dB cs i j)
   rwa [Eb]at this
  ·have:=ac.units
   have e:Qf (.bool true)=0:=rfl
   rw[e];exact Vs this
  ·rw[ce]
 ·obtain⟨i,_,rfl⟩:=Ra.mp hu
  have:mz (dB cs) (cs.length+1) i≤cs.length+1:=by
   unfold mz
   have:=aa.countP_le_length (p:=λj=>dB cs i j) (l:=Sa (cs.length+1))
   simpa using this
  exact UL hn this
 ·rw[s1,s2];simp[jc]
 refine dR S3 (ao.and (b:=decide ((FJ cs cs.length).length=cs.length)==r0) (c:=r0==u0) ((ao.eq (ao.eq (ao.len (ao.bG G (by kernel_rfl) (by kernel_rfl) rfl rfl (by kernel_rfl)) (ao.ER (k:=5) (ac.weak (by exact Mb rfl)) G (ao.name m3) (AV hn)) (by unfold g5 cW;rw[Qa,Qa,Qa,sizeLine_eq];exact Na zF (by decide))) (ao.name m0) rfl rfl ac.eq) (ao.name m9) rfl rfl ac.eq).cast ?_) λz_=>(ao.eq (ao.name m9) (ao.name kX) rfl rfl ac.eq).cast ?_) λv s4 S4 r=>h v s4 (S4.forget OF|> λx=>x) (r.qN)
 ·have:jc (.int ((((g5 cs).map (·.1)).map ie).length:Nat)) (.int (cs.length:Nat))=decide ((FJ cs cs.length).length=cs.length):=by
   unfold g5 cW
   refine(Qa ..).symm▸(Qa ..).symm▸(Qa ..).symm▸ ?_
   simp[jc]
   rw[cg];simp;exact Int.ofNat_inj
  rw[this];simp[jc]
 ·simp[jc]
theorem Co(s:za)(dV:qa)(l:ia):BindsTo s (Fp dV) ⟨[.ref l],[]⟩ [(ya "script",.ref l)]:=λM A E Q h=>by
 rw[Fz];exact Ka h
theorem LG(pl:∀cs:aa Int,5≤cs.length→cs.length≤7→xB cs=true):Walk:=λw s ds d G hg ns vs l hl hL hI=>by
 refine cu (s0:=s) (X:=[]) (Γa:=[(ya "script",.known (rW (ns.map .int)))]) (k:=18)
  (Γ0:=[(ya "script",.known (rW (ns.map .int))),(ya "many",.un),(ya "size",.un),(ya "cells",.un),(ya "k",.un)])
  (Ac.caller.weak (by decide)) G.ru (JM G) (law_code G) (body:=aN (st 23)) rfl (Co s _ l) (.bN _) rfl (λz_ h=>nomatch h)
  (.cons ⟨l,vs,rfl,by simp,hL,aD.ints hI⟩ .nil) (d9.mem (.cons m0 (.un (.un (.un (.un .nil)))))) λB A' L R s1 E' hB pD hL S eO fin=> ?_
 have G1:aW w ds d B.s0.heap:=hB▸G
 have ac:Ac A' 12:=eO.weak (by decide)
 refine Ex.of FA ?_
 have hz:5≤jG ns∧jG ns≤7:=by unfold jG;omega
 refine PM (ac.weak (by decide)) G1 hl S λs2 S2=>PN hz.2 S2 λa s3 S3=>PO (ac.weak (by decide)) G1 hl hz.1 hz.2 S3 λs4 cs EK S4=> ?_
 have h5:5≤cs.length:=by exact UM hz EK
 have h7:cs.length≤7:=by exact UN hz EK
 rw[←EK]at S4
 have S5:Sc _ (aA (ds 475) _) [(ya "size",.int cs.length),(ya "cells",.list (cs.map .int)),(ya "kinds",.un),(ya "rows",.un),(ya "shown",.un),(ya "ends",.un),(ya "ways",.un)] [] s4:=S4.Eo (.cons m2 (.cons m3 (.un (.un (.un (.un (.un .nil)))))))
 refine PR (ac.weak (by decide)) G1 h7 S5 λs5 S5=> ?_
 have S6:Sc _ (aA (ds 475) _) (G8 cs .un .un .un) [] s5:=S5.Eo (.cons m0 (.cons m1 (.cons m2 (.cons m3 (.cons m4 (.cons m5 (.un (.un (.un .nil)))))))))
 refine PS (ac.weak (by decide)) G1 h7 S6 λs6 S6=>PT (ac.weak (by decide)) G1 h7 S6 λs7 S7=> ?_
 have S8:Sc _ (aA (ds 475) _) (GM w cs .un .un .un .un .un .un .un .un) [] s7:=S7.Eo (.cons m0 (.cons m2 (.cons m7 (.cons m8 (.un (.un (.un (.un (.un (.un (.un (.un (.cons m4 (.cons m6 .nil))))))))))))))
 refine JN ac G1 h7 S8 λs8 S8=>JO ac G1 h7 S8 λs9 S9=>JP ac G1 h7 S9 λZ7 LQ=>JQ ac G1 h7 LQ λEa as s11 ha S11=> ?_
 have S12:Sc _ (aA (ds 475) _) (HW w cs (.val (.ref Ea)) .un .un) ((Ea,.vals (as.map .ref))::rR as (λz_ z_=>false) cs.length) s11:=S11.Eo (.cons m0 (.cons m1 (.cons FN (.cons m4 (.cons m7 (.cons m8 (.un (.un (.un (.un (.un (.un (.un (.un (.cons m2 (.cons zx .nil))))))))))))))))
 refine JR ac G1 h7 ha S12 λs12 S12=>JS ac G1 S12 λl1 l2 l3 a1 a2 a3 s13 S13=>JT ac G1 h7 S13 λs14 S14=>JU ac S14 λs15 S15=>JV ac G1 h7 S15 λs16 S16=>JW ac G1 h7 S16 λs17 S17=>JX ac G1 h7 S17 λs18 S18=>JY ac G1 h7 S18 λv s19 S19 hv=> ?_
 have hv:v=.bool (xB cs):=hv
 rw[pl cs h5 h7]at hv
 refine lK S19.kp λh' tk e up=> ?_
 exact fin _ _ ⟨hv,h',tk,hB▸e,hB▸up⟩
noncomputable def uC(c a b:Ga):Ga:=@Ga.rec (λz_=>Ga) b a c
noncomputable def Om(n:Nat):aa Nat:=@Nat.rec (λz_=>aa Nat→aa Nat) (λacc=>acc) (λm ih acc=>ih (m::acc)) n []
variable{α β:Type}
noncomputable def anyR(p:α→Ga)(l:aa α):Ga:=@Rc α (λz_=>Ga) false (λa z_ ih=>uC (p a) true ih) l
noncomputable def allR(p:α→Ga)(l:aa α):Ga:=@Rc α (λz_=>Ga) true (λa z_ ih=>uC (p a) ih false) l
noncomputable def Ep(p:α→Ga)(l:aa α):aa α:=@Rc α (λz_=>aa α) [] (λa z_ ih=>@Ga.rec (λz_=>aa α) ih (a::ih) (p a)) l
noncomputable def oU(f:α→β)(l:aa α):aa β:=@Rc α (λz_=>aa β) [] (λa z_ ih=>f a::ih) l
noncomputable def v5(l m:aa α):aa α:=@Rc α (λz_=>aa α) m (λa z_ ih=>a::ih) l
noncomputable def J1(l:aa α):Nat:=@Rc α (λz_=>Nat) 0 (λz_ z_ ih=>Je ih) l
noncomputable def I5(p:Nat→Ga)(l:aa Nat):Nat:=@Rc Nat (λz_=>Nat) 0 (λa z_ ih=>@Ga.rec (λz_=>Nat) ih a (p a)) l
variable(ev:Nat→Nat→Ga)(sm:P2→P2→Ga)
noncomputable def pZ(F:aa P2)(p:P2):aa P2:=@Ga.rec (λz_=>aa P2) (v5 F [p]) F (anyR (sm p) F)
noncomputable def QN(j:Nat):aa Nat:=Ep (λi=>ev i j) (Om j)
noncomputable def FG(n:Nat):aa P2:=@Nat.rec (λz_=>aa P2) [] (λj ih=>@Rc Nat (λz_=>aa P2→aa P2) (λF=>F) (λi z_ k F=>k (pZ sm F (i,Je j))) (QN ev (Je j)) ih) n
noncomputable def EG(n:Nat):aa P2:=@Nat.rec (λz_=>aa P2) [] (λj ih=>v5 ih (oU (λi=>(i,Je j)) (QN ev (Je j)))) n
noncomputable def Qk(r:Nat)(l:aa Nat):Ga:=@Rc Nat (λz_=>Ga) true (λa l ih=>@Rc Nat (λz_=>Ga) true (λb z_ z_=>uC (ev a (Cf b r)) ih false) l) l
noncomputable def Qm(E F:aa P2):Ga:=allR (λp=>Qk ev (Cd p.2 p.1) (oU (λq=>q.1) (Ep (sm p) E))) F
noncomputable def uI(i j:Nat):Nat:=Cd j (I5 (λk=>ev i (Cd j k)) (Om (Cd j i)))
noncomputable def AY(i j:Nat):Nat:=Cf i (I5 (λk=>ev (Cf i k) j) (Om (Cd j i)))
noncomputable def ALG(n:Nat):aa P2:=@Rc Nat (λz_=>aa P2) [] (λa z_ ih=>v5 (oU (λb=>(a,Cf (Je a) b)) (Om (Cd n a))) ih) (Om n)
noncomputable def num(l:aa Nat):Nat:=@Rc Nat (λz_=>Nat) 0 (λd z_ ih=>Cf d (Nat.mul 4 ih)) l
noncomputable def sl(W i m:Nat):Nat:=Nat.mod (Nat.div W (Nat.pow 4 i)) (Nat.pow 4 m)
noncomputable def evW(n W R i j:Nat):Ga:=uC (Mf (Je i) j) (uC (Mf j n) (Oc (sl W i (Cd j i)) (sl R (Cd n j) (Cd j i))) false) false
noncomputable def ON(n W i j:Nat):Nat:=Cf (sl W i (Cd (Cd n (Cd n j)) i)) (Nat.pow 4 (Cd (Cd n (Cd n j)) i))
noncomputable def oO(n:Nat)(k:Nat→Ga):Ga:=@Nat.rec (λz_=>Ga) (k 0) (λm z_=>k (Je m)) n
noncomputable def Dn(k c:Nat)(l:aa (Nat×Nat)):Ga:=@Rc (Nat×Nat) (λz_=>Ga) true (λq z_ ih=>uC (Oc q.1 k) (uC (Oc q.2 c) ih false) ih) l
noncomputable def C1(ev:Nat→Nat→Ga)(cd:Nat→Nat→Nat)(l:aa P2):aa (Nat×Nat)→Ga:=@Rc P2 (λz_=>aa (Nat×Nat)→Ga) (λz_=>true)
 (λp z_ ih acc=>oO (Cf (Nat.mul (cd p.1 (uI ev p.1 p.2)) 65536) (cd (AY ev p.1 p.2) p.2)) λk=>oO (cd p.1 p.2) λc=>uC (Dn k c acc) (ih ((k,c)::acc)) false) l
noncomputable def eqB(a b:Ga):Ga:=uC a b (uC b false true)
noncomputable def PI(n:Nat)(ev:Nat→Nat→Ga)(cd:Nat→Nat→Nat):Ga:=
 (λF=>(λr=>uC (eqB (Oc (J1 F) n) r) (eqB r (C1 ev cd (ALG n) [])) false)
  (Qm ev (λp q=>Oc (cd q.1 q.2) (cd p.1 p.2)) (EG ev n) F)) (FG ev (λp q=>Oc (cd q.1 q.2) (cd p.1 p.2)) n)
noncomputable def HA(l:aa Nat):Ga:=oO (J1 l) λn=>oO (num l) λW=>oO (num l.reverse) λR=>PI n (evW n W R) (ON n W)
theorem jW(a b:Nat):Oc a b=true↔a=b:=⟨vg,λe=>e▸Nat.beq_refl a⟩
theorem jr(a b:Ga):uC a b false=(a&&b):=by cases a<;> rfl
theorem OP(a b:Ga):uC a true b=(a||b):=by cases a<;> rfl
theorem OS(a b:Ga):eqB a b=(a==b):=by cases a<;> cases b<;> rfl
theorem j4(n:Nat)(k:Nat→Ga):oO n k=k n:=by cases n<;> rfl
theorem rB(n:Nat):Om n=Sa n:=by
 have key:∀(n:Nat) (acc:aa Nat),@Nat.rec (λz_=>aa Nat→aa Nat) (λacc=>acc) (λm ih acc=>ih (m::acc)) n acc=Sa.loop n acc:=by
  intro n
  induction n with
  |zero=>intro acc;rfl
  |succ n ih=>intro acc;exact ih (n::acc)
 exact key n []
theorem anyR_eq(p:α→Ga):∀l:aa α,anyR p l=l.any p
 |[]=>rfl
 |a::l=>by show uC (p a) true (anyR p l)=_;rw[OP,anyR_eq p l,Ni]
theorem allR_eq(p:α→Ga):∀l:aa α,allR p l=l.all p
 |[]=>rfl
 |a::l=>by show uC (p a) (allR p l) false=_;rw[jr,allR_eq p l,aa.all_cons]
theorem uF(p:α→Ga):∀l:aa α,Ep p l=l.filter p
 |[]=>rfl
 |a::l=>by
  show @Ga.rec (λz_=>aa α) (Ep p l) (a::Ep p l) (p a)=_
  rw[uF p l,Uh]
  cases p a<;> rfl
theorem mq(f:α→β):∀l:aa α,oU f l=l.map f
 |[]=>rfl
 |a::l=>by show f a::oU f l=_;rw[mq f l];rfl
theorem ux(l m:aa α):v5 l m=l++m:=by
 induction l with
 |nil=>rfl
 |cons a l ih=>show a::v5 l m=_;rw[ih];rfl
theorem uP:∀l:aa α,J1 l=l.length
 |[]=>rfl
 |_::l=>by show Je (J1 l)=_;rw[uP l];rfl
theorem uH(p:Nat→Ga):∀l:aa Nat,I5 p l=(l.find? p).getD 0
 |[]=>rfl
 |a::l=>by
  show @Ga.rec (λz_=>Nat) (I5 p l) a (p a)=_
  rw[uH p l,vf]
  cases p a<;> rfl
end
section
variable(cs:aa Int)
theorem GW(j:Nat):QN (dB cs) j=starts cs j:=by unfold QN starts;rw[uF,rB]
theorem DC(F:aa P2)(p:P2):pZ (aM cs) F p=dK cs F p:=by
 unfold pZ dK
 rw[anyR_eq,ux]
 cases F.any (aM cs p)<;> rfl
theorem LP:∀n,FG (dB cs) (aM cs) n=FJ cs n
 |0=>rfl
 |n+1=>by
  have key:∀(l:aa Nat) (F:aa P2),@Rc Nat (λz_=>aa P2→aa P2) (λF=>F) (λi z_ k F=>k (pZ (aM cs) F (i,n+1))) l F=b8 cs (n+1) F l:=by
   intro l
   induction l with
   |nil=>intro F;rfl
   |cons i l ih=>
    intro F
    show @Rc Nat (λz_=>aa P2→aa P2) (λF=>F) (λi z_ k F=>k (pZ (aM cs) F (i,n+1))) l (pZ (aM cs) F (i,n+1))=_
    rw[ih,DC];rfl
  show @Rc Nat (λz_=>aa P2→aa P2) (λF=>F) (λi z_ k F=>k (pZ (aM cs) F (i,n+1))) (QN (dB cs) (n+1)) (FG (dB cs) (aM cs) n)=_
  rw[key,GW,LP n];rfl
theorem LN:∀n,EG (dB cs) n=EJ cs n
 |0=>rfl
 |n+1=>by
  show v5 (EG (dB cs) n) (oU (λi=>(i,n+1)) (QN (dB cs) (n+1)))=_
  rw[ux,mq,GW,LN n];rfl
theorem A0(r:Nat):∀l:aa Nat,Qk (dB cs) r l=Gp cs l r
 |[]=>rfl
 |[a]=>rfl
 |a::b::l=>by
  show uC (dB cs a (b+r)) (Qk (dB cs) r (b::l)) false=_
  rw[jr,A0 r (b::l)]
  unfold Gp
  simp only[xd,Nat.add_sub_cancel]
  rw[aa.range_succ_eq_map,aa.all_cons,aa.all_map]
  rfl
theorem KI(E F:aa P2):Qm (dB cs) (aM cs) E F=sE cs E F:=by
 unfold Qm sE
 rw[allR_eq]
 congr 1
 funext p
 rw[A0,mq,uF];rfl
theorem BY(i j:Nat):uI (dB cs) i j=eH cs i j:=by unfold uI eH;rw[uH,rB];rfl
theorem Gn(i j:Nat):AY (dB cs) i j=fY cs i j:=by unfold AY fY;rw[uH,rB];rfl
theorem Ox(n:Nat):ALG n=AL n:=by
 have key:∀l:aa Nat,@Rc Nat (λz_=>aa P2) [] (λa z_ ih=>v5 (oU (λb=>(a,Cf (Je a) b)) (Om (Cd n a))) ih) l=l.flatMap (kR n):=by
  intro l
  induction l with
  |nil=>rfl
  |cons a l ih=>
   show v5 (oU (λb=>(a,Cf (Je a) b)) (Om (Cd n a))) _=_
   rw[ih,ux,mq,rB,ug];rfl
 unfold ALG AL
 rw[key,rB]
theorem AU(k c:Nat):∀l:aa (Nat×Nat),Dn k c l=true↔∀q∈l,q.1=k→q.2=c
 |[]=>by simp[Dn]
 |q::l=>by
  have e:Dn k c (q::l)=uC (Oc q.1 k) (uC (Oc q.2 c) (Dn k c l) false) (Dn k c l):=rfl
  refine(e ..).symm▸(jr ..).symm▸ ?_
  have ih:=AU k c l
  cases h1:Oc q.1 k with
  |false=>
   have g9:q.1≠k:=Nat.ne_of_beq_eq_false h1
   show Dn k c l=true↔_
   rw[ih]
   constructor
   ·intro h x hx hk
    rcases Za.mp hx with rfl|hx
    ·exact absurd hk g9
    ·exact h x hx hk
   ·exactλh x hx=>h x (Wa _ hx)
  |true=>
   have he:q.1=k:=vg h1
   show(Oc q.2 c&&Dn k c l)=true↔_
   rw[Bd,ih]
   constructor
   ·rintro⟨h2,h⟩ x hx hk
    rcases Za.mp hx with rfl|hx
    ·exact vg h2
    ·exact h x hx hk
   ·intro h
    refine⟨?_,λx hx=>h x (Wa _ hx)⟩
    rw[h q La he];exact Nat.beq_refl c
end
section
variable{cs:aa Int}{cd:Nat→Nat→Nat}
noncomputable def j7(cs:aa Int)(cd:Nat→Nat→Nat)(p:P2):Nat:=cd p.1 (eH cs p.1 p.2)*65536+cd (fY cs p.1 p.2) p.2
theorem Hq(l:aa P2):∀(acc:aa (Nat×Nat)),C1 (dB cs) cd l acc=true↔(∀p∈l,∀q∈acc,q.1=j7 cs cd p→q.2=cd p.1 p.2)∧l.Pairwise λq p=>j7 cs cd q=j7 cs cd p→cd q.1 q.2=cd p.1 p.2:=by
 induction l with
 |nil=>intro acc;simp[C1]
 |cons p l ih=>
  intro acc
  have e:C1 (dB cs) cd (p::l) acc=oO (Cf (Nat.mul (cd p.1 (uI (dB cs) p.1 p.2)) 65536) (cd (AY (dB cs) p.1 p.2) p.2)) λk=>oO (cd p.1 p.2) λc=>uC (Dn k c acc) (C1 (dB cs) cd l ((k,c)::acc)) false:=rfl
  rw[e,j4,j4,BY,Gn,jr,Bd,AU]
  have hk:Cf (Nat.mul (cd p.1 (eH cs p.1 p.2)) 65536) (cd (fY cs p.1 p.2) p.2)=j7 cs cd p:=rfl
  rw[hk,ih,aa.pairwise_cons]
  constructor
  ·rintro⟨h1,h2,h3⟩
   refine⟨λx hx q hq=> ?_,λx hx e=> ?_,h3⟩
   ·rcases Za.mp hx with rfl|hx
    ·exact h1 q hq
    ·exact h2 x hx q (Wa _ hq)
   ·exact h2 x hx _ La e
  ·rintro⟨h1,h2,h3⟩
   refine⟨h1 p La,λx hx q hq=> ?_,h3⟩
   rcases Za.mp hq with rfl|hq
   ·exact h2 x hx
   ·exact h1 x (Wa _ hx) q hq
theorem LB(oR:∀p q,aM cs p q=Oc (cd q.1 q.2) (cd p.1 p.2))(bB:∀i j,cd i j<65536)(l:aa P2)(hl:l=AL cs.length):C1 (dB cs) cd l []=rQ cs l:=by
 have code:∀p q,kS cs q=kS cs p↔cd q.1 q.2=cd p.1 p.2:=λp q=>by
  have:=oR p q
  unfold aM at this
  constructor
  ·intro e;rw[decide_eq_true e]at this;exact vg this.symm
  ·intro e
   rw[e,Nat.beq_refl]at this
   exact Xf this
 have key:∀p q,cU cs p q=true↔j7 cs cd q=j7 cs cd p:=λp q=>by
  unfold cU
  rw[Bd,oR,oR,jW,jW]
  unfold j7 C9 Dp
  have h1:=bB (fY cs q.1 q.2) q.2
  have h2:=bB (fY cs p.1 p.2) p.2
  constructor
  ·rintro⟨a,b⟩;simp only at a b;rw[a,b]
  ·intro e;simp only;omega
 rw[cg,Hq]
 unfold rQ
 rw[zf]
 constructor
 ·rintro⟨_,h⟩ p hp
  rw[gg,code]
  have hf:dN cs (gS cs) p∈l∧j7 cs cd (dN cs (gS cs) p)=j7 cs cd p:=by
   subst hl
   refine⟨yL (qJ hp),(key _ _).mp ?_⟩
   refine xEE (aa.append_of_mem hp) λa b Jp=> ?_
   have e:gS cs=b.foldl (gK cs) (gK cs (GL cs a) p):=by unfold gS GL;rw[Jp,xe];rfl
   have:=gO b _ _ _ (jv (cs:=cs) (GL cs a) p)
   rw[←e]at this
   have e2:dN cs (gS cs) p=dN cs (GL cs a) p:=by
    conv =>lhs;unfold dN
    rw[this];rfl
   refine(e2 ..).symm▸ ?_
   exact gj this
  have both:∀(l:aa P2),(l.Pairwise λq p=>j7 cs cd q=j7 cs cd p→cd q.1 q.2=cd p.1 p.2)→∀a∈l,∀b∈l,j7 cs cd a=j7 cs cd b→cd a.1 a.2=cd b.1 b.2:=by
   intro l
   induction l with
   |nil=>intro _ a ha;cases ha
   |cons x l ih=>
    intro hp a ha b hb e
    refine xA (aa.pairwise_cons.mp hp) λp1 p2=> ?_
    rcases Za.mp ha with ea|ha<;> rcases Za.mp hb with eb|hb
    ·rw[ea,eb]
    ·rw[ea]at e⊢;exact p1 b hb e
    ·rw[eb]at e⊢;exact(p1 a ha e.symm).symm
    ·exact ih p2 a ha b hb e
  exact both l h _ hf.1 _ hp hf.2
 ·intro h
  refine⟨(λp z_ q hq=>nomatch hq),?_⟩
  have hq:∀p q:P2,j7 cs cd q=j7 cs cd p→dN cs (gS cs) q=dN cs (gS cs) p∨(gS cs).find? (cU cs p)=none:=λp q e=>by
   have es:cU cs q=cU cs p:=by
    funext r
    rw[cg,key,key,e]
   unfold dN
   refine(es ..).symm▸ ?_
   cases(gS cs).find? (cU cs p)with
   |none=>exact .inr rfl
   |some r=>exact .inl rfl
  refine aa.Pairwise.imp_of_mem (R:=λz_ z_=>True) (S:=λq p=>j7 cs cd q=j7 cs cd p→cd q.1 q.2=cd p.1 p.2) (λ{q p} hqm hpm _ e=> ?_) (aa.pairwise_of_forall (l:=l) (R:=λz_ z_=>True) λz_ z_=>trivial)
  have h1:=h q hqm
  have h2:=h p hpm
  rw[gg]at h1 h2
  rcases hq p q e with f|f
  ·rw[f]at h1
   exact(code p q).mp (h1.symm.trans h2)
  ·subst hl
   refine xEE (aa.append_of_mem hpm) λa b Jp=> ?_
   have e':gS cs=b.foldl (gK cs) (gK cs (GL cs a) p):=by unfold gS GL;rw[Jp,xe];rfl
   have:=gO b _ _ _ (jv (cs:=cs) (GL cs a) p)
   rw[←e',f]at this
   cases this
theorem PJ(oR:∀p q,aM cs p q=Oc (cd q.1 q.2) (cd p.1 p.2))(bB:∀i j,cd i j<65536):xB cs=PI cs.length (dB cs) cd:=by
 have es:(λp q:P2=>Oc (cd q.1 q.2) (cd p.1 p.2))=aM cs:=by funext p q;rw[oR]
 unfold PI xB
 refine(es ..).symm▸ ?_
 simp only[jr,OS,LP,LN,KI,Ox,uP,LB oR bB _ rfl]
 have:Oc (FJ cs cs.length).length cs.length=decide ((FJ cs cs.length).length=cs.length):=by
  rw[cg,jW,gg]
 rw[this];rfl
noncomputable def dig(l:aa Nat):Prop:=∀d∈l,d<3
theorem iZ(d:Nat)(l:aa Nat):num (d::l)=d+4*num l:=rfl
theorem uU:∀{l:aa Nat},dig l→num l<4^l.length
 |[],_=>by show 0<4^0;decide
 |d::l,h=>by
  have h1:=h d La
  have h2:=uU (l:=l) λx hx=>h x (Wa _ hx)
  rw[iZ,xd,Mi]
  exact VV h1 h2
theorem xN:∀{l:aa Nat},dig l→∀i,num (l.drop i)=num l/4^i
 |l,_,0=>by simp
 |[],_,i+1=>by
  rw[aa.drop_nil]
  show 0=0/_
  rw[Nat.zero_div]
 |d::l,h,i+1=>by
  rw[aa.drop_succ_cons,xN (λx hx=>h x (Wa _ hx)) i,iZ,Mi,Nat.mul_comm (4^i) 4,←Nat.div_div_eq_div_mul]
  have:=h d La
  rw[show(d+4*num l)/4=num l by omega]
theorem xO:∀{l:aa Nat},dig l→∀m,num (l.take m)=num l%4^m
 |l,_,0=>by rw[aa.take_zero,Nat.pow_zero,Nat.mod_one];rfl
 |[],_,m+1=>by
  rw[aa.take_nil]
  show 0=0%_
  rw[Nat.zero_mod]
 |d::l,h,m+1=>by
  have h1:=h d La
  rw[Li,iZ,iZ,xO (λx hx=>h x (Wa _ hx)) m,Mi,Nat.mul_comm (4^m) 4,Nat.mod_mul]
  rw[show(d+4*num l) %4=d by omega,show(d+4*num l)/4=num l by omega]
theorem uT:∀{l m:aa Nat},dig l→dig m→l.length=m.length→num l=num m→l=m
 |[],[],_,_,_,_=>rfl
 |[],_::_,_,_,h,_=>by simp at h
 |_::_,[],_,_,h,_=>by simp at h
 |a::l,b::m,hl,hm,h,e=>by
  have h1:=hl a La
  have h2:=hm b La
  rw[iZ,iZ]at e
  rw[show a=b by exact Xm e h1 h2,uT (λx hx=>hl x (Wa _ hx)) (λx hx=>hm x (Wa _ hx)) (by simpa using h) (by exact Xn e h1 h2)]
theorem lW{l:aa Nat}(h:dig l)(i:Nat):dig (l.drop i):=λd hd=>h d (qh hd)
theorem qC{l:aa Nat}(h:dig l)(i:Nat):dig (l.take i):=λd hd=>h d (Ig hd)
theorem GP{l:aa Nat}(h:dig l)(i m:Nat):sl (num l) i m=num ((l.drop i).take m):=by
 rw[xO (lW h i),xN h];rfl
noncomputable def nY(k:aa Nat)(p:P2):aa Nat:=(k.take p.2).drop p.1
theorem x7(n b:Nat):n-(n-b)=min b n:=by exact TR
theorem vA(k:aa Nat)(p:P2):(nY k p).length=k.length-(k.length-p.2) -p.1:=by
 unfold nY;rw[Td,uf,x7]
theorem Qt(k:aa Nat)(p:P2):nY k p=(k.drop p.1).take (k.length-(k.length-p.2) -p.1):=by
 rw[←vA]
 unfold nY
 rw[Xi,uf,←Lj]
theorem mF{k:aa Nat}(h:dig k)(p:P2):dig (nY k p):=lW (qC h _) _
theorem D5{k:aa Nat}(h:dig k)(p:P2):ON k.length (num k) p.1 p.2=num (nY k p)+4^(nY k p).length:=by
 show sl (num k) p.1 (k.length-(k.length-p.2) -p.1)+4^(k.length-(k.length-p.2) -p.1)=_
 rw[GP h,←Qt,vA]
theorem OO{k:aa Nat}(h:dig k)(p q:P2):ON k.length (num k) q.1 q.2=ON k.length (num k) p.1 p.2↔nY k q=nY k p:=by
 rw[D5 h,D5 h]
 refine⟨λe=> ?_,λe=>by rw[e]⟩
 have h1:=uU (mF h q)
 have h2:=uU (mF h p)
 have hm:(nY k q).length=(nY k p).length:=by
  rcases Nat.lt_trichotomy (nY k q).length (nY k p).length with c|c|c
  ·have:=qk (n:=4) (by decide) (show(nY k q).length+1≤(nY k p).length from c)
   rw[Mi]at this;exact XO e h1 this
  ·exact c
  ·have:=qk (n:=4) (by decide) (show(nY k p).length+1≤(nY k q).length from c)
   rw[Mi]at this;exact XQ e h2 this
 rw[hm]at e
 exact uT (mF h q) (mF h p) hm (by exact Nat.add_right_cancel e)
theorem Yt{k:aa Nat}(h:dig k)(hn:k.length≤7)(i j:Nat):ON k.length (num k) i j<65536:=by
 have e:=D5 h (i,j)
 have h1:=uU (mF h (i,j))
 have h2:=vA k (i,j)
 have:=qk (n:=4) (by decide) (show(nY k (i,j)).length≤7 by exact WS hn h2)
 have e7:4^7=16384:=by decide
 show ON k.length (num k) (i,j).1 (i,j).2<65536
 exact Wm e h1 this
noncomputable def kN(cs:aa Int):aa Nat:=(aJ cs).map Pb
theorem uM(cs:aa Int):(kN cs).length=cs.length:=by unfold kN aJ;simp
theorem PD(cs:aa Int):dig (kN cs):=λd hd=>by
 obtain⟨x,hx,rfl⟩:=Ra.mp hd
 obtain⟨c,_,rfl⟩:=Ra.mp hx
 have:=b6 c 3 (by decide)
 exact Iv this
theorem Fo(cs:aa Int)(p:P2):(kS cs p).map Pb=nY (kN cs) p:=by unfold kS cB nY kN;rw[Se,Fe]
theorem tH{cs:aa Int}{x:Int}(h:x∈aJ cs):0≤x:=by
 obtain⟨c,_,rfl⟩:=Ra.mp h
 exact(b6 c 3 (by decide)).1
theorem AX{l m:aa Int}(hl:∀x∈l,0≤x)(hm:∀x∈m,0≤x):l.map Pb=m.map Pb↔l=m:=
 ⟨λh=>gR (P:=λx=>0≤x) (λa b ha hb e=>by exact Ry ha hb e) hl hm h,λh=>by rw[h]⟩
theorem Gy(cs:aa Int)(p q:P2):aM cs p q=decide (nY (kN cs) q=nY (kN cs) p):=by
 unfold aM
 refine yf.mpr ?_
 rw[←Fo,←Fo]
 exact(AX (λx hx=>(qO hx).1) (λx hx=>(qO hx).1)).symm
theorem kW{α:Type}(l r:aa α){i t:Nat}(h:i+t≤l.length):((l++r).drop i).take t=(l.drop i).take t:=by
 rw[aa.drop_append_of_le_length (by exact Nat.le_of_add_right_le h),aa.take_append_of_le_length (by rw[Td];exact wk h)]
noncomputable def QH(k:aa Nat)(i j:Nat):Ga:=decide (i<j∧j≤k.length) &&decide ((k.drop i).take (j-i)=(k.reverse.drop (k.length-j)).take (j-i))
theorem OU(cs:aa Int)(i j:Nat):dB cs i j=QH (kN cs) i j:=by
 unfold dB QH
 rw[uM]
 by_cases g:i<j∧j≤cs.length
 ·rw[decide_eq_true g,Yh,Yh]
  unfold HB runN
  have hk:(aJ cs).length=cs.length:=by unfold aJ;simp
  refine yf.mpr ?_
  rw[←qA _ _ (j-i) (by rw[Td,kB];exact Vu g) (by rw[Td,jV];exact Vv g)]
  unfold wordOf c8
  rw[kW _ _ (by exact WT g hk),kW _ _ (by rw[Ue];exact WV g hk),←AX,Fe,Se,Fe,Se,aa.map_reverse]
  ·rfl
  ·exactλx hx=>tH (qh (Ig hx))
  ·exactλx hx=>tH (aa.mem_reverse.mp (qh (Ig hx)))
 ·rw[Wg g];rfl
theorem OT{k:aa Nat}(h:dig k)(i j:Nat):evW k.length (num k) (num k.reverse) i j=QH k i j:=by
 have hr:dig k.reverse:=λd hd=>h d (aa.mem_reverse.mp hd)
 unfold evW QH
 rw[jr,jr]
 have e1:Cd j i=j-i:=rfl
 have e2:Cd k.length j=k.length-j:=rfl
 rw[e1,e2,GP h,GP hr]
 by_cases g:i<j∧j≤k.length
 ·have b1:Mf (Je i) j=true:=Nat.ble_eq.mpr g.1
  have b2:Mf j k.length=true:=Nat.ble_eq.mpr g.2
  rw[b1,b2,decide_eq_true g,Yh,Yh,Yh,cg,jW,gg]
  refine⟨λe=>uT (qC (lW h _) _) (qC (lW hr _) _) ?_ e,λe=>by rw[e]⟩
  simp;exact Vw g
 ·rw[Wg g]
  cases b1:Mf (Je i) j with
  |false=>rfl
  |true=>
   cases b2:Mf j k.length with
   |false=>rfl
   |true=>exact absurd ⟨Nat.ble_eq.mp b1,Nat.ble_eq.mp b2⟩ g
theorem FD{cs:aa Int}{k:aa Nat}(hk:dig k)(hn:k.length≤7)(hl:cs.length=k.length)(he:∀i j,dB cs i j=QH k i j)(hs:∀p q,aM cs p q=decide (nY k q=nY k p)):xB cs=HA k:=by
 rw[PJ (cd:=ON k.length (num k)) (λp q=> ?_) (Yt hk hn)]
 ·have:dB cs=evW k.length (num k) (num k.reverse):=by funext i j;rw[he,OT hk]
  unfold HA
  rw[j4,j4,j4,uP,this,hl]
 ·rw[hs,cg,gg,jW,OO hk]
theorem xC{cs:aa Int}(hn:cs.length≤7){f:Nat→Nat}(hi:∀a b,f a=f b→a=b)(hd:dig ((kN cs).map f)):xB cs=HA ((kN cs).map f):=by
 have inj:∀l m:aa Nat,l.map f=m.map f↔l=m:=λl m=>⟨λh=>gR (P:=λz_=>True) (λa b z_ z_ e=>hi a b e) (λz_ z_=>trivial) (λz_ z_=>trivial) h,λh=>by rw[h]⟩
 refine FD hd (by rw[Qa,uM];exact hn) (by rw[Qa,uM]) (λi j=> ?_) λp q=> ?_
 ·rw[OU]
  unfold QH
  rw[Qa,←aa.map_reverse,←Se,←Fe,←Se,←Fe]
  congr 1
  exact yf.mpr (inj _ _).symm
 ·refine(Gy ..).symm▸ ?_
  refine yf.mpr ?_
  have e:∀p,nY ((kN cs).map f) p=(nY (kN cs) p).map f:=λp=>by unfold nY;rw[←Fe,←Se]
  refine(e ..).symm▸(e ..).symm▸ ?_
  exact(inj _ _).symm
noncomputable def wordsOf:Nat→aa (aa Nat)
 |0=>[[]]
 |n+1=>(wordsOf n).map (0:: ·)++((wordsOf n).map (1:: ·)++(wordsOf n).map (2:: ·))
noncomputable def HS:Nat→aa (aa Nat)
 |0=>[[]]
 |n+1=>(HS n).map (0:: ·)++(wordsOf n).map (1:: ·)
theorem n6:∀(l:aa Nat),dig l→l∈wordsOf l.length
 |[],_=>Vb.mpr rfl
 |d::l,h=>by
  have ih:=n6 l λx hx=>h x (Wa _ hx)
  have hd:=h d La
  show d::l∈(wordsOf l.length).map (0:: ·)++((wordsOf l.length).map (1:: ·)++(wordsOf l.length).map (2:: ·))
  have:d=0∨d=1∨d=2:=by exact My hd
  rcases this with rfl|rfl|rfl
  ·exact Qc _ (Ra.mpr ⟨l,ih,rfl⟩)
  ·exact Nc _ (Qc _ (Ra.mpr ⟨l,ih,rfl⟩))
  ·exact Nc _ (Nc _ (Ra.mpr ⟨l,ih,rfl⟩))
noncomputable def yG(a b x:Nat):Nat:=if x=a then b else if x=b then a else x
theorem vH(a b:Nat):∀x y,yG a b x=yG a b y→x=y:=λx y h=>by
 unfold yG at h
 split at h<;> split at h<;> (try split at h)<;> (try split at h)<;> omega
theorem mJ{a b:Nat}(ha:a<3)(hb:b<3){l:aa Nat}(h:dig l):dig (l.map (yG a b)):=λd hd=>by
 obtain⟨x,hx,rfl⟩:=Ra.mp hd
 have:=h x hx
 unfold yG
 split
 ·exact hb
 ·split
  ·exact ha
  ·exact this
theorem A1:∀(l:aa Nat),dig l→l∈HS l.length∨l.map (yG 1 2)∈HS l.length
 |[],_=>.inl (Vb.mpr rfl)
 |d::l,h=>by
  have hl:dig l:=λx hx=>h x (Wa _ hx)
  have hd:=h d La
  show d::l∈(HS l.length).map (0:: ·)++(wordsOf l.length).map (1:: ·)∨(d::l).map (yG 1 2)∈(HS l.length).map (0:: ·)++(wordsOf l.length).map (1:: ·)
  have:d=0∨d=1∨d=2:=by exact My hd
  rcases this with rfl|rfl|rfl
  ·rcases A1 l hl with q|q
   ·exact .inl (Qc _ (Ra.mpr ⟨l,q,rfl⟩))
   ·exact .inr (Qc _ (Ra.mpr ⟨_,q,rfl⟩))
  ·exact .inl (Nc _ (Ra.mpr ⟨l,n6 l hl,rfl⟩))
  ·refine .inr (Nc _ (Ra.mpr ⟨l.map (yG 1 2),?_,rfl⟩))
   have:=n6 (l.map (yG 1 2)) (mJ (by decide) (by decide) hl)
   rwa [Qa]at this
theorem yU{m:Nat}(hm:m≤6)(H:∀t∈HS m,HA (0::t)=true){cs:aa Int}(hn:cs.length=m+1):xB cs=true:=by
 have hd:=PD cs
 have hl:=uM cs
 cases e:kN cs with
 |nil=>rw[e]at hl;simp at hl;exact Ye (UQ hn hl)
 |cons a t=>
  rw[e]at hd hl
  have ha:=hd a La
  have ht:dig t:=λx hx=>hd x (Wa _ hx)
  have h1:yG 0 a a=0:=by unfold yG;split<;> simp_all
  have ht1:=mJ (a:=0) (b:=a) (by decide) ha ht
  have tl:(t.map (yG 0 a)).length=m:=by rw[Qa];simp at hl;exact VW hn hl
  rcases A1 _ ht1 with q|q
  ·rw[xC (by exact MQ hm hn) (vH 0 a) (by rw[e];exact mJ (by decide) ha hd),e,Ib,h1]
   exact H _ (tl▸q)
  ·have hc:∀x y,(yG 1 2∘yG 0 a) x=(yG 1 2∘yG 0 a) y→x=y:=λx y h=>vH 0 a _ _ (vH 1 2 _ _ h)
   rw[xC (by exact MQ hm hn) hc (by rw[e,←Eb];exact mJ (by decide) (by decide) (mJ (by decide) ha hd)),e,←Eb,Ib,h1,Ib]
   exact H _ (tl▸q)
end
end Mine
namespace Mine
theorem aaA:((HS 4).all λt=>HA (0::t))=true:=by decide+kernel
theorem aaB:((HS 5).all λt=>HA (0::t))=true:=by decide+kernel
theorem Yv:((HS 5).all λt=>HA (0::0::t))=true:=by decide+kernel
theorem Yw:((wordsOf 4).all λt=>HA (0::1::0::t))=true:=by decide+kernel
theorem Yx:((wordsOf 4).all λt=>HA (0::1::1::t))=true:=by decide+kernel
theorem Yy:((wordsOf 4).all λt=>HA (0::1::2::t))=true:=by decide+kernel
theorem plain(cs:aa Int)(h5:5≤cs.length)(h7:cs.length≤7):xB cs=true:=by
 have:cs.length=4+1∨cs.length=5+1∨cs.length=6+1:=by exact Tq h5 h7
 rcases this with h|h|h
 ·exact yU (by exact Mb rfl) (λt ht=>zf.mp aaA t ht) h
 ·exact yU (by exact Mb rfl) (λt ht=>zf.mp aaB t ht) h
 ·refine yU (by exact zb _) (λt ht=> ?_) h
  rcases zc.mp (show t∈(HS 5).map (0:: ·)++(wordsOf 5).map (1:: ·)from ht)with q|q
  ·obtain⟨u,hu,rfl⟩:=Ra.mp q
   exact zf.mp Yv u hu
  ·obtain⟨u,hu,rfl⟩:=Ra.mp q
   rcases zc.mp (show u∈(wordsOf 4).map (0:: ·)++((wordsOf 4).map (1:: ·)++(wordsOf 4).map (2:: ·))from hu)with q|q
   ·obtain⟨v,hv,rfl⟩:=Ra.mp q
    exact zf.mp Yw v hv
   ·rcases zc.mp q with q|q
    ·obtain⟨v,hv,rfl⟩:=Ra.mp q
     exact zf.mp Yx v hv
    ·obtain⟨v,hv,rfl⟩:=Ra.mp q
     exact zf.mp Yy v hv
theorem zzz:gk.Holds:=PK (LG plain)
end Mine
theorem PySem.Challenge.cw_wv0065_01_holds : PySem.Challenge.rw_wv0065_01.Holds :=
  Mine.zzz

